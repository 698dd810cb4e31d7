import JvmDerived
import JvmDerived.Pilot.@@N@@Statement
import JvmDerived.Pilot.@@N@@Code
set_option linter.unusedVariables false
set_option linter.unusedSimpArgs false
namespace Jvm.RoadKit
open Sem ClassFile Op Lib Jvm.Stand Jvm.Free Jvm.LawKit
section New
variable {p : Program} {l : Launch} {e : Env} {R : Room} {s : State} {m : MethodId} {args : Array Value} {below : List Frame} {meth : Method} {c : Code} {T : State} {locs : List Loc} {cells slots : Nat}
theorem retI (X : Stand p l e R s m args below meth c T locs cells slots) (hx : p.tables.exec = Jvm.exec) {pc : Nat} {Ls : Array Slot} {z : Int32} {rest : List Value} (hret : meth.sig.returnType = some .int) (hd : decode c.code pc = .ok (.ireturn, 1)) {fs : List Frame}
    (hl : ∀ (f : JFrame) (acts : List Action), f.method = m → f.locked = none → f.entered = [] → (doReturn e (T.setTop f) acts (some (.int z))).1 = T.setFrames fs) : Steps p.tables e below (T.setTop (mkF m pc Ls (.int z :: rest))) (T.setFrames fs) := by
  have hm' : T.vm.method? m = some meth := X.method'
  have hn : narrow .int (.int z) = .int z := rfl
  show Steps p.tables e below (T.setTop { method := m, pc := pc, locals := Ls, stack := _ :: rest, locked := none }) _
  jvm_step X.here [X.here.top, hx, hd, hm', hret, hn]
  first | (intro acts; rw [hl _ acts rfl rfl rfl]) | rw [hl _ _ rfl rfl rfl]
  exact Steps.refl _
theorem lsw {g : JFrame} {target : State} (X : Stand p l e R s m args below meth c T locs cells slots) (hx : p.tables.exec = Jvm.exec) (hg : g.method = m) {dflt : Int} {pairs : Array (Int × Int)} {len : Nat} {o : Int} {x : Int32} {rest : List Value} {pc0 pc' : Nat} (hpc : g.pc = pc0) (hd : decode c.code g.pc = .ok (.lookupswitch dflt pairs, len)) (hs : g.stack = .int x :: rest)
    (hso : ∀ (a b a' b' : Int), ((a, b), a', b') ∈ pairs.toList.zip pairs.toList.tail → a < a') (hq : lookupswitch.offset pairs.toList dflt x.toInt = o) (ho : 0 ≤ (pc0 : Int) + o) (hp : ((pc0 : Int) + o).toNat = pc') (hr : Steps p.tables e below (T.setTop { g with pc := pc', stack := rest }) target) : Steps p.tables e below (T.setTop g) target := by
  subst hg hpc hp
  jvm_step X.here [X.here.top, hx, hd, hs, hq, ho, lookupswitch.wp_chain]
  exact ⟨hso, hr⟩
end New
end Jvm.RoadKit
namespace Jvm.Pilot.@@N@@
open Jvm Jvm.ClassFile Sem Op Lib Jvm.Free Jvm.Stand Jvm.LawKit Jvm.RoadKit Bundle Jvm.Pilot.@@N@@.Jvm.D
/-- a value comes back, the heap as it was -/
def QV (w : Value) (h0 : Heap) (n0 : Nat) (v : Option Value) (h : Heap) (L : List Loc) : Prop := v = some w ∧ Fr n0 L ∧ h = h0
def QL (n0 : Nat) (v : Option Value) (h : Heap) (L : List Loc) : Prop := v = some (.int 1) ∧ Fr n0 L
theorem fld_int {args : Array Value} {s : State} {t : Term} {C n d : String} {a : Addr} {k : Int32} (ht : t.eval args s none [] s = some (.ref a)) (h : (Jvm.Cond.eq (.field t C n d) (.int k)).value args s none s [] = some true) : s.fieldOf? a C n d = some (.int k) := by
  rw [← fld_at (C := C) (n := n) (dd := d) ht]
  exact Cond.eq_int (beq_iff_eq.mpr h) (Term.int_eval k)
theorem d1_0 : decode method_2_code 0 = .ok (.iload_n 0, 1) := by decide +kernel
theorem d1_1 : decode method_2_code 1 = .ok (.ifCond .ne 7, 3) := by decide +kernel
theorem d1_4 : decode method_2_code 4 = .ok (.getstatic 7, 3) := by decide +kernel
theorem d1_7 : decode method_2_code 7 = .ok (.areturn, 1) := by decide +kernel
theorem ef_1_I (m : MethodId) (x0 : Int32) : entryFrame m #[(.int x0)] 1 = mkF m 0 #[.val (.int x0)] [] := by first | (simp [entryFrame, mkF, argsToLocals, Value.category]; done) | rfl
theorem pn_DecisionAsIndeterminatePinLaw : plainName "com/example/adjudicate/adjudicate/DecisionAsIndeterminatePinLaw" = true := by first | (simp [plainName, overriddenIn]; done) | decide +kernel
set_option maxRecDepth 65536 in
set_option maxHeartbeats 40000000 in
theorem rp0 (l : Launch) (Z : State) (a0 : Array Value) (hw : ∀ d ∈ tables_1, d.before a0 Z = true) (ws : List Jvm.Cond) (k : Int32) (w : Addr) (h0 : Heap) (n0 : Nat) (Z0 : n0 ≤ h0.size) (S : Sta Z h0 "com/example/adjudicate/adjudicate/Decision" "PERMIT" "Lcom/example/adjudicate/adjudicate/Decision;" (.ref w)) (hc1 : k = (0 : Int32)) :
    MetFree l (⟨"com/example/adjudicate/adjudicate/DecisionAsIndeterminatePinLaw", "pick", "(I)Lcom/example/adjudicate/adjudicate/Decision;"⟩ : MethodName) (head1 (Jvm.Cond.code (⟨"com/example/adjudicate/adjudicate/DecisionAsIndeterminatePinLaw", "pick", "(I)Lcom/example/adjudicate/adjudicate/Decision;"⟩ : MethodName) method_2_code 1 (some (.object "com/example/adjudicate/adjudicate/Decision")) :: ws) ({ frames := 0, cells := 0, slots := 0, locals := 0 } : Room)) (fun zA zU => zA = #[(.int k)] ∧ Z.Warmed39 zU.vm ∧ zU.heap = h0) (fun _ _ _ _ _ => True) (fun _ zU zO zW => ∃ zV zL, zO = .returned zV ∧ QV (.ref w) h0 n0 zV zW.heap zL ∧ FrameEnd zU zO zW zL ({ frames := 0, cells := 0, slots := 0, locals := 0 } : Room).cells ({ frames := 0, cells := 0, slots := 0, locals := 0 } : Room).slots) := by
  refine MetFree.of_bodySF (plainFor_of_name pn_DecisionAsIndeterminatePinLaw) hisR ?_
  intro p e s m args below meth c s₁ Bd hml0 hP hK
  obtain ⟨rfl, hZ, hh⟩ := hP
  have hx := Bd.exec
  have hby := Bd.bytes
  have hml : c.maxLocals = 1 := hml0
  have hown : s.vm.findClass "com/example/adjudicate/adjudicate/DecisionAsIndeterminatePinLaw" = some m.cls := findClass_of_methodNamed Bd.named
  have hnm := (name_of_methodNamed Bd.named Bd.method).1
  have X0 : Stand p l e ({ frames := 0, cells := 0, slots := 0, locals := 0 } : Room) s m #[(.int k)] below meth c s₁ [] 0 0 := Stand.of_body Bd
  have e0 : s₁.heap = h0 := by rw [← hh, Bd.state]; rfl
  have N0 := Fr.nil n0
  have pre0 : ∀ zt, Steps p.tables e below (s₁.setTop (mkF m 0 #[.val (.int k)] [])) zt → Steps p.tables e below (s₁.setTop (entryFrame m #[(.int k)] 1)) zt := fun zt zk => castTop (ef_1_I m k) zk
  obtain ⟨T1, X1, e1, st1⟩ := getS2 X0 hx hZ hown (host := "") (Or.inl (hw _ (List.mem_of_getElem? (i := 5) rfl))) Via.refl e0 S (g := (mkF m 4 #[.val (.int k)] [])) rfl (hb hby d1_4)
  obtain ⟨fs, hr, hrun, hended, hW, hsame⟩ := X1.leave (v := some (.ref w)) (fun h => by rw [Bd.returns] at h; cases h)
  refine ⟨_, _, pre0 _ ?_, hrun, hended, _, _, rfl, ?_, ⟨_, rfl⟩, hW, hsame.mono (by decide) (by decide)⟩
  · show Steps p.tables e below (s₁.setTop (mkF m 0 #[.val (.int k)] [])) _
    refine XS.iloadN X0.here hx rfl (hb hby d1_0) rfl ?_
    show Steps p.tables e below (s₁.setTop (mkF m 1 #[.val (.int k)] [(.int k)])) _
    refine XS.ifNo X0.here hx rfl (hb hby d1_1) rfl ((if0 _ _).trans (teq hc1).2) ?_
    show Steps p.tables e below (s₁.setTop (mkF m 4 #[.val (.int k)] [])) _
    refine st1 _ ?_
    show Steps p.tables e below (T1.setTop (mkF m 7 #[.val (.int k)] [(.ref w)])) _
    jvm_step X1.here [X1.here.top, hx, (hb hby d1_7), X1.method', Bd.returns, Value.isRef, FieldType.isReference]
    first | (intro acts; rw [hr _ acts rfl rfl rfl]) | rw [hr _ _ rfl rfl rfl]
    exact Steps.refl _
  · show QV (.ref w) h0 n0 _ T1.heap _
    rw [e1]
    exact ⟨rfl, N0, rfl⟩
theorem d1_8 : decode method_2_code 8 = .ok (.iload_n 0, 1) := by decide +kernel
theorem d1_9 : decode method_2_code 9 = .ok (.iconst 1, 1) := by decide +kernel
theorem d1_10 : decode method_2_code 10 = .ok (.if_icmp .ne 7, 3) := by decide +kernel
theorem d1_13 : decode method_2_code 13 = .ok (.getstatic 13, 3) := by decide +kernel
theorem d1_16 : decode method_2_code 16 = .ok (.areturn, 1) := by decide +kernel
set_option maxRecDepth 65536 in
set_option maxHeartbeats 40000000 in
theorem rp1 (l : Launch) (Z : State) (a0 : Array Value) (hw : ∀ d ∈ tables_1, d.before a0 Z = true) (ws : List Jvm.Cond) (k : Int32) (w : Addr) (h0 : Heap) (n0 : Nat) (Z0 : n0 ≤ h0.size) (S : Sta Z h0 "com/example/adjudicate/adjudicate/Decision" "DENY" "Lcom/example/adjudicate/adjudicate/Decision;" (.ref w)) (hc1 : ¬ (k = (0 : Int32))) (hc10 : k = (1 : Int32)) :
    MetFree l (⟨"com/example/adjudicate/adjudicate/DecisionAsIndeterminatePinLaw", "pick", "(I)Lcom/example/adjudicate/adjudicate/Decision;"⟩ : MethodName) (head1 (Jvm.Cond.code (⟨"com/example/adjudicate/adjudicate/DecisionAsIndeterminatePinLaw", "pick", "(I)Lcom/example/adjudicate/adjudicate/Decision;"⟩ : MethodName) method_2_code 1 (some (.object "com/example/adjudicate/adjudicate/Decision")) :: ws) ({ frames := 0, cells := 0, slots := 0, locals := 0 } : Room)) (fun zA zU => zA = #[(.int k)] ∧ Z.Warmed39 zU.vm ∧ zU.heap = h0) (fun _ _ _ _ _ => True) (fun _ zU zO zW => ∃ zV zL, zO = .returned zV ∧ QV (.ref w) h0 n0 zV zW.heap zL ∧ FrameEnd zU zO zW zL ({ frames := 0, cells := 0, slots := 0, locals := 0 } : Room).cells ({ frames := 0, cells := 0, slots := 0, locals := 0 } : Room).slots) := by
  refine MetFree.of_bodySF (plainFor_of_name pn_DecisionAsIndeterminatePinLaw) hisR ?_
  intro p e s m args below meth c s₁ Bd hml0 hP hK
  obtain ⟨rfl, hZ, hh⟩ := hP
  have hx := Bd.exec
  have hby := Bd.bytes
  have hml : c.maxLocals = 1 := hml0
  have hown : s.vm.findClass "com/example/adjudicate/adjudicate/DecisionAsIndeterminatePinLaw" = some m.cls := findClass_of_methodNamed Bd.named
  have hnm := (name_of_methodNamed Bd.named Bd.method).1
  have X0 : Stand p l e ({ frames := 0, cells := 0, slots := 0, locals := 0 } : Room) s m #[(.int k)] below meth c s₁ [] 0 0 := Stand.of_body Bd
  have e0 : s₁.heap = h0 := by rw [← hh, Bd.state]; rfl
  have N0 := Fr.nil n0
  have pre0 : ∀ zt, Steps p.tables e below (s₁.setTop (mkF m 0 #[.val (.int k)] [])) zt → Steps p.tables e below (s₁.setTop (entryFrame m #[(.int k)] 1)) zt := fun zt zk => castTop (ef_1_I m k) zk
  obtain ⟨T2, X2, e2, st2⟩ := getS2 X0 hx hZ hown (host := "") (Or.inl (hw _ (List.mem_of_getElem? (i := 32) rfl))) Via.refl e0 S (g := (mkF m 13 #[.val (.int k)] [])) rfl (hb hby d1_13)
  obtain ⟨fs, hr, hrun, hended, hW, hsame⟩ := X2.leave (v := some (.ref w)) (fun h => by rw [Bd.returns] at h; cases h)
  refine ⟨_, _, pre0 _ ?_, hrun, hended, _, _, rfl, ?_, ⟨_, rfl⟩, hW, hsame.mono (by decide) (by decide)⟩
  · show Steps p.tables e below (s₁.setTop (mkF m 0 #[.val (.int k)] [])) _
    refine XS.iloadN X0.here hx rfl (hb hby d1_0) rfl ?_
    show Steps p.tables e below (s₁.setTop (mkF m 1 #[.val (.int k)] [(.int k)])) _
    refine XS.ifYes X0.here hx rfl (pc0 := 1) (pc' := 8) rfl (hb hby d1_1) rfl ((if0 _ _).trans (feq hc1).2) (by decide) (by decide) ?_
    show Steps p.tables e below (s₁.setTop (mkF m 8 #[.val (.int k)] [])) _
    refine XS.iloadN X0.here hx rfl (hb hby d1_8) rfl ?_
    show Steps p.tables e below (s₁.setTop (mkF m 9 #[.val (.int k)] [(.int k)])) _
    refine XS.iconst X0.here hx rfl (hb hby d1_9) ?_
    show Steps p.tables e below (s₁.setTop (mkF m 10 #[.val (.int k)] [(.int (1 : Int32)), (.int k)])) _
    refine XS.icmpNo X0.here hx rfl (hb hby d1_10) rfl (teq hc10).2 ?_
    show Steps p.tables e below (s₁.setTop (mkF m 13 #[.val (.int k)] [])) _
    refine st2 _ ?_
    show Steps p.tables e below (T2.setTop (mkF m 16 #[.val (.int k)] [(.ref w)])) _
    jvm_step X2.here [X2.here.top, hx, (hb hby d1_16), X2.method', Bd.returns, Value.isRef, FieldType.isReference]
    first | (intro acts; rw [hr _ acts rfl rfl rfl]) | rw [hr _ _ rfl rfl rfl]
    exact Steps.refl _
  · show QV (.ref w) h0 n0 _ T2.heap _
    rw [e2]
    exact ⟨rfl, N0, rfl⟩
theorem d1_17 : decode method_2_code 17 = .ok (.iload_n 0, 1) := by decide +kernel
theorem d1_18 : decode method_2_code 18 = .ok (.iconst 2, 1) := by decide +kernel
theorem d1_19 : decode method_2_code 19 = .ok (.if_icmp .ne 7, 3) := by decide +kernel
theorem d1_22 : decode method_2_code 22 = .ok (.getstatic 16, 3) := by decide +kernel
theorem d1_25 : decode method_2_code 25 = .ok (.areturn, 1) := by decide +kernel
set_option maxRecDepth 65536 in
set_option maxHeartbeats 40000000 in
theorem rp2 (l : Launch) (Z : State) (a0 : Array Value) (hw : ∀ d ∈ tables_1, d.before a0 Z = true) (ws : List Jvm.Cond) (k : Int32) (w : Addr) (h0 : Heap) (n0 : Nat) (Z0 : n0 ≤ h0.size) (S : Sta Z h0 "com/example/adjudicate/adjudicate/Decision" "NOT_APPLICABLE" "Lcom/example/adjudicate/adjudicate/Decision;" (.ref w)) (hc1 : ¬ (k = (0 : Int32))) (hc10 : ¬ (k = (1 : Int32))) (hc19 : k = (2 : Int32)) :
    MetFree l (⟨"com/example/adjudicate/adjudicate/DecisionAsIndeterminatePinLaw", "pick", "(I)Lcom/example/adjudicate/adjudicate/Decision;"⟩ : MethodName) (head1 (Jvm.Cond.code (⟨"com/example/adjudicate/adjudicate/DecisionAsIndeterminatePinLaw", "pick", "(I)Lcom/example/adjudicate/adjudicate/Decision;"⟩ : MethodName) method_2_code 1 (some (.object "com/example/adjudicate/adjudicate/Decision")) :: ws) ({ frames := 0, cells := 0, slots := 0, locals := 0 } : Room)) (fun zA zU => zA = #[(.int k)] ∧ Z.Warmed39 zU.vm ∧ zU.heap = h0) (fun _ _ _ _ _ => True) (fun _ zU zO zW => ∃ zV zL, zO = .returned zV ∧ QV (.ref w) h0 n0 zV zW.heap zL ∧ FrameEnd zU zO zW zL ({ frames := 0, cells := 0, slots := 0, locals := 0 } : Room).cells ({ frames := 0, cells := 0, slots := 0, locals := 0 } : Room).slots) := by
  refine MetFree.of_bodySF (plainFor_of_name pn_DecisionAsIndeterminatePinLaw) hisR ?_
  intro p e s m args below meth c s₁ Bd hml0 hP hK
  obtain ⟨rfl, hZ, hh⟩ := hP
  have hx := Bd.exec
  have hby := Bd.bytes
  have hml : c.maxLocals = 1 := hml0
  have hown : s.vm.findClass "com/example/adjudicate/adjudicate/DecisionAsIndeterminatePinLaw" = some m.cls := findClass_of_methodNamed Bd.named
  have hnm := (name_of_methodNamed Bd.named Bd.method).1
  have X0 : Stand p l e ({ frames := 0, cells := 0, slots := 0, locals := 0 } : Room) s m #[(.int k)] below meth c s₁ [] 0 0 := Stand.of_body Bd
  have e0 : s₁.heap = h0 := by rw [← hh, Bd.state]; rfl
  have N0 := Fr.nil n0
  have pre0 : ∀ zt, Steps p.tables e below (s₁.setTop (mkF m 0 #[.val (.int k)] [])) zt → Steps p.tables e below (s₁.setTop (entryFrame m #[(.int k)] 1)) zt := fun zt zk => castTop (ef_1_I m k) zk
  obtain ⟨T3, X3, e3, st3⟩ := getS2 X0 hx hZ hown (host := "") (Or.inl (hw _ (List.mem_of_getElem? (i := 30) rfl))) Via.refl e0 S (g := (mkF m 22 #[.val (.int k)] [])) rfl (hb hby d1_22)
  obtain ⟨fs, hr, hrun, hended, hW, hsame⟩ := X3.leave (v := some (.ref w)) (fun h => by rw [Bd.returns] at h; cases h)
  refine ⟨_, _, pre0 _ ?_, hrun, hended, _, _, rfl, ?_, ⟨_, rfl⟩, hW, hsame.mono (by decide) (by decide)⟩
  · show Steps p.tables e below (s₁.setTop (mkF m 0 #[.val (.int k)] [])) _
    refine XS.iloadN X0.here hx rfl (hb hby d1_0) rfl ?_
    show Steps p.tables e below (s₁.setTop (mkF m 1 #[.val (.int k)] [(.int k)])) _
    refine XS.ifYes X0.here hx rfl (pc0 := 1) (pc' := 8) rfl (hb hby d1_1) rfl ((if0 _ _).trans (feq hc1).2) (by decide) (by decide) ?_
    show Steps p.tables e below (s₁.setTop (mkF m 8 #[.val (.int k)] [])) _
    refine XS.iloadN X0.here hx rfl (hb hby d1_8) rfl ?_
    show Steps p.tables e below (s₁.setTop (mkF m 9 #[.val (.int k)] [(.int k)])) _
    refine XS.iconst X0.here hx rfl (hb hby d1_9) ?_
    show Steps p.tables e below (s₁.setTop (mkF m 10 #[.val (.int k)] [(.int (1 : Int32)), (.int k)])) _
    refine XS.icmpYes X0.here hx rfl (pc0 := 10) (pc' := 17) rfl (hb hby d1_10) rfl (feq hc10).2 (by decide) (by decide) ?_
    show Steps p.tables e below (s₁.setTop (mkF m 17 #[.val (.int k)] [])) _
    refine XS.iloadN X0.here hx rfl (hb hby d1_17) rfl ?_
    show Steps p.tables e below (s₁.setTop (mkF m 18 #[.val (.int k)] [(.int k)])) _
    refine XS.iconst X0.here hx rfl (hb hby d1_18) ?_
    show Steps p.tables e below (s₁.setTop (mkF m 19 #[.val (.int k)] [(.int (2 : Int32)), (.int k)])) _
    refine XS.icmpNo X0.here hx rfl (hb hby d1_19) rfl (teq hc19).2 ?_
    show Steps p.tables e below (s₁.setTop (mkF m 22 #[.val (.int k)] [])) _
    refine st3 _ ?_
    show Steps p.tables e below (T3.setTop (mkF m 25 #[.val (.int k)] [(.ref w)])) _
    jvm_step X3.here [X3.here.top, hx, (hb hby d1_25), X3.method', Bd.returns, Value.isRef, FieldType.isReference]
    first | (intro acts; rw [hr _ acts rfl rfl rfl]) | rw [hr _ _ rfl rfl rfl]
    exact Steps.refl _
  · show QV (.ref w) h0 n0 _ T3.heap _
    rw [e3]
    exact ⟨rfl, N0, rfl⟩
theorem d1_26 : decode method_2_code 26 = .ok (.iload_n 0, 1) := by decide +kernel
theorem d1_27 : decode method_2_code 27 = .ok (.iconst 3, 1) := by decide +kernel
theorem d1_28 : decode method_2_code 28 = .ok (.if_icmp .ne 7, 3) := by decide +kernel
theorem d1_31 : decode method_2_code 31 = .ok (.getstatic 19, 3) := by decide +kernel
theorem d1_34 : decode method_2_code 34 = .ok (.areturn, 1) := by decide +kernel
set_option maxRecDepth 65536 in
set_option maxHeartbeats 40000000 in
theorem rp3 (l : Launch) (Z : State) (a0 : Array Value) (hw : ∀ d ∈ tables_1, d.before a0 Z = true) (ws : List Jvm.Cond) (k : Int32) (w : Addr) (h0 : Heap) (n0 : Nat) (Z0 : n0 ≤ h0.size) (S : Sta Z h0 "com/example/adjudicate/adjudicate/Decision" "INDETERMINATE_D" "Lcom/example/adjudicate/adjudicate/Decision;" (.ref w)) (hc1 : ¬ (k = (0 : Int32))) (hc10 : ¬ (k = (1 : Int32))) (hc19 : ¬ (k = (2 : Int32))) (hc28 : k = (3 : Int32)) :
    MetFree l (⟨"com/example/adjudicate/adjudicate/DecisionAsIndeterminatePinLaw", "pick", "(I)Lcom/example/adjudicate/adjudicate/Decision;"⟩ : MethodName) (head1 (Jvm.Cond.code (⟨"com/example/adjudicate/adjudicate/DecisionAsIndeterminatePinLaw", "pick", "(I)Lcom/example/adjudicate/adjudicate/Decision;"⟩ : MethodName) method_2_code 1 (some (.object "com/example/adjudicate/adjudicate/Decision")) :: ws) ({ frames := 0, cells := 0, slots := 0, locals := 0 } : Room)) (fun zA zU => zA = #[(.int k)] ∧ Z.Warmed39 zU.vm ∧ zU.heap = h0) (fun _ _ _ _ _ => True) (fun _ zU zO zW => ∃ zV zL, zO = .returned zV ∧ QV (.ref w) h0 n0 zV zW.heap zL ∧ FrameEnd zU zO zW zL ({ frames := 0, cells := 0, slots := 0, locals := 0 } : Room).cells ({ frames := 0, cells := 0, slots := 0, locals := 0 } : Room).slots) := by
  refine MetFree.of_bodySF (plainFor_of_name pn_DecisionAsIndeterminatePinLaw) hisR ?_
  intro p e s m args below meth c s₁ Bd hml0 hP hK
  obtain ⟨rfl, hZ, hh⟩ := hP
  have hx := Bd.exec
  have hby := Bd.bytes
  have hml : c.maxLocals = 1 := hml0
  have hown : s.vm.findClass "com/example/adjudicate/adjudicate/DecisionAsIndeterminatePinLaw" = some m.cls := findClass_of_methodNamed Bd.named
  have hnm := (name_of_methodNamed Bd.named Bd.method).1
  have X0 : Stand p l e ({ frames := 0, cells := 0, slots := 0, locals := 0 } : Room) s m #[(.int k)] below meth c s₁ [] 0 0 := Stand.of_body Bd
  have e0 : s₁.heap = h0 := by rw [← hh, Bd.state]; rfl
  have N0 := Fr.nil n0
  have pre0 : ∀ zt, Steps p.tables e below (s₁.setTop (mkF m 0 #[.val (.int k)] [])) zt → Steps p.tables e below (s₁.setTop (entryFrame m #[(.int k)] 1)) zt := fun zt zk => castTop (ef_1_I m k) zk
  obtain ⟨T4, X4, e4, st4⟩ := getS2 X0 hx hZ hown (host := "") (Or.inl (hw _ (List.mem_of_getElem? (i := 28) rfl))) Via.refl e0 S (g := (mkF m 31 #[.val (.int k)] [])) rfl (hb hby d1_31)
  obtain ⟨fs, hr, hrun, hended, hW, hsame⟩ := X4.leave (v := some (.ref w)) (fun h => by rw [Bd.returns] at h; cases h)
  refine ⟨_, _, pre0 _ ?_, hrun, hended, _, _, rfl, ?_, ⟨_, rfl⟩, hW, hsame.mono (by decide) (by decide)⟩
  · show Steps p.tables e below (s₁.setTop (mkF m 0 #[.val (.int k)] [])) _
    refine XS.iloadN X0.here hx rfl (hb hby d1_0) rfl ?_
    show Steps p.tables e below (s₁.setTop (mkF m 1 #[.val (.int k)] [(.int k)])) _
    refine XS.ifYes X0.here hx rfl (pc0 := 1) (pc' := 8) rfl (hb hby d1_1) rfl ((if0 _ _).trans (feq hc1).2) (by decide) (by decide) ?_
    show Steps p.tables e below (s₁.setTop (mkF m 8 #[.val (.int k)] [])) _
    refine XS.iloadN X0.here hx rfl (hb hby d1_8) rfl ?_
    show Steps p.tables e below (s₁.setTop (mkF m 9 #[.val (.int k)] [(.int k)])) _
    refine XS.iconst X0.here hx rfl (hb hby d1_9) ?_
    show Steps p.tables e below (s₁.setTop (mkF m 10 #[.val (.int k)] [(.int (1 : Int32)), (.int k)])) _
    refine XS.icmpYes X0.here hx rfl (pc0 := 10) (pc' := 17) rfl (hb hby d1_10) rfl (feq hc10).2 (by decide) (by decide) ?_
    show Steps p.tables e below (s₁.setTop (mkF m 17 #[.val (.int k)] [])) _
    refine XS.iloadN X0.here hx rfl (hb hby d1_17) rfl ?_
    show Steps p.tables e below (s₁.setTop (mkF m 18 #[.val (.int k)] [(.int k)])) _
    refine XS.iconst X0.here hx rfl (hb hby d1_18) ?_
    show Steps p.tables e below (s₁.setTop (mkF m 19 #[.val (.int k)] [(.int (2 : Int32)), (.int k)])) _
    refine XS.icmpYes X0.here hx rfl (pc0 := 19) (pc' := 26) rfl (hb hby d1_19) rfl (feq hc19).2 (by decide) (by decide) ?_
    show Steps p.tables e below (s₁.setTop (mkF m 26 #[.val (.int k)] [])) _
    refine XS.iloadN X0.here hx rfl (hb hby d1_26) rfl ?_
    show Steps p.tables e below (s₁.setTop (mkF m 27 #[.val (.int k)] [(.int k)])) _
    refine XS.iconst X0.here hx rfl (hb hby d1_27) ?_
    show Steps p.tables e below (s₁.setTop (mkF m 28 #[.val (.int k)] [(.int (3 : Int32)), (.int k)])) _
    refine XS.icmpNo X0.here hx rfl (hb hby d1_28) rfl (teq hc28).2 ?_
    show Steps p.tables e below (s₁.setTop (mkF m 31 #[.val (.int k)] [])) _
    refine st4 _ ?_
    show Steps p.tables e below (T4.setTop (mkF m 34 #[.val (.int k)] [(.ref w)])) _
    jvm_step X4.here [X4.here.top, hx, (hb hby d1_34), X4.method', Bd.returns, Value.isRef, FieldType.isReference]
    first | (intro acts; rw [hr _ acts rfl rfl rfl]) | rw [hr _ _ rfl rfl rfl]
    exact Steps.refl _
  · show QV (.ref w) h0 n0 _ T4.heap _
    rw [e4]
    exact ⟨rfl, N0, rfl⟩
theorem d1_35 : decode method_2_code 35 = .ok (.iload_n 0, 1) := by decide +kernel
theorem d1_36 : decode method_2_code 36 = .ok (.iconst 4, 1) := by decide +kernel
theorem d1_37 : decode method_2_code 37 = .ok (.if_icmp .ne 7, 3) := by decide +kernel
theorem d1_40 : decode method_2_code 40 = .ok (.getstatic 22, 3) := by decide +kernel
theorem d1_43 : decode method_2_code 43 = .ok (.areturn, 1) := by decide +kernel
set_option maxRecDepth 65536 in
set_option maxHeartbeats 40000000 in
theorem rp4 (l : Launch) (Z : State) (a0 : Array Value) (hw : ∀ d ∈ tables_1, d.before a0 Z = true) (ws : List Jvm.Cond) (k : Int32) (w : Addr) (h0 : Heap) (n0 : Nat) (Z0 : n0 ≤ h0.size) (S : Sta Z h0 "com/example/adjudicate/adjudicate/Decision" "INDETERMINATE_P" "Lcom/example/adjudicate/adjudicate/Decision;" (.ref w)) (hc1 : ¬ (k = (0 : Int32))) (hc10 : ¬ (k = (1 : Int32))) (hc19 : ¬ (k = (2 : Int32))) (hc28 : ¬ (k = (3 : Int32))) (hc37 : k = (4 : Int32)) :
    MetFree l (⟨"com/example/adjudicate/adjudicate/DecisionAsIndeterminatePinLaw", "pick", "(I)Lcom/example/adjudicate/adjudicate/Decision;"⟩ : MethodName) (head1 (Jvm.Cond.code (⟨"com/example/adjudicate/adjudicate/DecisionAsIndeterminatePinLaw", "pick", "(I)Lcom/example/adjudicate/adjudicate/Decision;"⟩ : MethodName) method_2_code 1 (some (.object "com/example/adjudicate/adjudicate/Decision")) :: ws) ({ frames := 0, cells := 0, slots := 0, locals := 0 } : Room)) (fun zA zU => zA = #[(.int k)] ∧ Z.Warmed39 zU.vm ∧ zU.heap = h0) (fun _ _ _ _ _ => True) (fun _ zU zO zW => ∃ zV zL, zO = .returned zV ∧ QV (.ref w) h0 n0 zV zW.heap zL ∧ FrameEnd zU zO zW zL ({ frames := 0, cells := 0, slots := 0, locals := 0 } : Room).cells ({ frames := 0, cells := 0, slots := 0, locals := 0 } : Room).slots) := by
  refine MetFree.of_bodySF (plainFor_of_name pn_DecisionAsIndeterminatePinLaw) hisR ?_
  intro p e s m args below meth c s₁ Bd hml0 hP hK
  obtain ⟨rfl, hZ, hh⟩ := hP
  have hx := Bd.exec
  have hby := Bd.bytes
  have hml : c.maxLocals = 1 := hml0
  have hown : s.vm.findClass "com/example/adjudicate/adjudicate/DecisionAsIndeterminatePinLaw" = some m.cls := findClass_of_methodNamed Bd.named
  have hnm := (name_of_methodNamed Bd.named Bd.method).1
  have X0 : Stand p l e ({ frames := 0, cells := 0, slots := 0, locals := 0 } : Room) s m #[(.int k)] below meth c s₁ [] 0 0 := Stand.of_body Bd
  have e0 : s₁.heap = h0 := by rw [← hh, Bd.state]; rfl
  have N0 := Fr.nil n0
  have pre0 : ∀ zt, Steps p.tables e below (s₁.setTop (mkF m 0 #[.val (.int k)] [])) zt → Steps p.tables e below (s₁.setTop (entryFrame m #[(.int k)] 1)) zt := fun zt zk => castTop (ef_1_I m k) zk
  obtain ⟨T5, X5, e5, st5⟩ := getS2 X0 hx hZ hown (host := "") (Or.inl (hw _ (List.mem_of_getElem? (i := 27) rfl))) Via.refl e0 S (g := (mkF m 40 #[.val (.int k)] [])) rfl (hb hby d1_40)
  obtain ⟨fs, hr, hrun, hended, hW, hsame⟩ := X5.leave (v := some (.ref w)) (fun h => by rw [Bd.returns] at h; cases h)
  refine ⟨_, _, pre0 _ ?_, hrun, hended, _, _, rfl, ?_, ⟨_, rfl⟩, hW, hsame.mono (by decide) (by decide)⟩
  · show Steps p.tables e below (s₁.setTop (mkF m 0 #[.val (.int k)] [])) _
    refine XS.iloadN X0.here hx rfl (hb hby d1_0) rfl ?_
    show Steps p.tables e below (s₁.setTop (mkF m 1 #[.val (.int k)] [(.int k)])) _
    refine XS.ifYes X0.here hx rfl (pc0 := 1) (pc' := 8) rfl (hb hby d1_1) rfl ((if0 _ _).trans (feq hc1).2) (by decide) (by decide) ?_
    show Steps p.tables e below (s₁.setTop (mkF m 8 #[.val (.int k)] [])) _
    refine XS.iloadN X0.here hx rfl (hb hby d1_8) rfl ?_
    show Steps p.tables e below (s₁.setTop (mkF m 9 #[.val (.int k)] [(.int k)])) _
    refine XS.iconst X0.here hx rfl (hb hby d1_9) ?_
    show Steps p.tables e below (s₁.setTop (mkF m 10 #[.val (.int k)] [(.int (1 : Int32)), (.int k)])) _
    refine XS.icmpYes X0.here hx rfl (pc0 := 10) (pc' := 17) rfl (hb hby d1_10) rfl (feq hc10).2 (by decide) (by decide) ?_
    show Steps p.tables e below (s₁.setTop (mkF m 17 #[.val (.int k)] [])) _
    refine XS.iloadN X0.here hx rfl (hb hby d1_17) rfl ?_
    show Steps p.tables e below (s₁.setTop (mkF m 18 #[.val (.int k)] [(.int k)])) _
    refine XS.iconst X0.here hx rfl (hb hby d1_18) ?_
    show Steps p.tables e below (s₁.setTop (mkF m 19 #[.val (.int k)] [(.int (2 : Int32)), (.int k)])) _
    refine XS.icmpYes X0.here hx rfl (pc0 := 19) (pc' := 26) rfl (hb hby d1_19) rfl (feq hc19).2 (by decide) (by decide) ?_
    show Steps p.tables e below (s₁.setTop (mkF m 26 #[.val (.int k)] [])) _
    refine XS.iloadN X0.here hx rfl (hb hby d1_26) rfl ?_
    show Steps p.tables e below (s₁.setTop (mkF m 27 #[.val (.int k)] [(.int k)])) _
    refine XS.iconst X0.here hx rfl (hb hby d1_27) ?_
    show Steps p.tables e below (s₁.setTop (mkF m 28 #[.val (.int k)] [(.int (3 : Int32)), (.int k)])) _
    refine XS.icmpYes X0.here hx rfl (pc0 := 28) (pc' := 35) rfl (hb hby d1_28) rfl (feq hc28).2 (by decide) (by decide) ?_
    show Steps p.tables e below (s₁.setTop (mkF m 35 #[.val (.int k)] [])) _
    refine XS.iloadN X0.here hx rfl (hb hby d1_35) rfl ?_
    show Steps p.tables e below (s₁.setTop (mkF m 36 #[.val (.int k)] [(.int k)])) _
    refine XS.iconst X0.here hx rfl (hb hby d1_36) ?_
    show Steps p.tables e below (s₁.setTop (mkF m 37 #[.val (.int k)] [(.int (4 : Int32)), (.int k)])) _
    refine XS.icmpNo X0.here hx rfl (hb hby d1_37) rfl (teq hc37).2 ?_
    show Steps p.tables e below (s₁.setTop (mkF m 40 #[.val (.int k)] [])) _
    refine st5 _ ?_
    show Steps p.tables e below (T5.setTop (mkF m 43 #[.val (.int k)] [(.ref w)])) _
    jvm_step X5.here [X5.here.top, hx, (hb hby d1_43), X5.method', Bd.returns, Value.isRef, FieldType.isReference]
    first | (intro acts; rw [hr _ acts rfl rfl rfl]) | rw [hr _ _ rfl rfl rfl]
    exact Steps.refl _
  · show QV (.ref w) h0 n0 _ T5.heap _
    rw [e5]
    exact ⟨rfl, N0, rfl⟩
theorem d1_44 : decode method_2_code 44 = .ok (.getstatic 25, 3) := by decide +kernel
theorem d1_47 : decode method_2_code 47 = .ok (.areturn, 1) := by decide +kernel
set_option maxRecDepth 65536 in
set_option maxHeartbeats 40000000 in
theorem rp5 (l : Launch) (Z : State) (a0 : Array Value) (hw : ∀ d ∈ tables_1, d.before a0 Z = true) (ws : List Jvm.Cond) (k : Int32) (w : Addr) (h0 : Heap) (n0 : Nat) (Z0 : n0 ≤ h0.size) (S : Sta Z h0 "com/example/adjudicate/adjudicate/Decision" "INDETERMINATE_DP" "Lcom/example/adjudicate/adjudicate/Decision;" (.ref w)) (hc1 : ¬ (k = (0 : Int32))) (hc10 : ¬ (k = (1 : Int32))) (hc19 : ¬ (k = (2 : Int32))) (hc28 : ¬ (k = (3 : Int32))) (hc37 : ¬ (k = (4 : Int32))) :
    MetFree l (⟨"com/example/adjudicate/adjudicate/DecisionAsIndeterminatePinLaw", "pick", "(I)Lcom/example/adjudicate/adjudicate/Decision;"⟩ : MethodName) (head1 (Jvm.Cond.code (⟨"com/example/adjudicate/adjudicate/DecisionAsIndeterminatePinLaw", "pick", "(I)Lcom/example/adjudicate/adjudicate/Decision;"⟩ : MethodName) method_2_code 1 (some (.object "com/example/adjudicate/adjudicate/Decision")) :: ws) ({ frames := 0, cells := 0, slots := 0, locals := 0 } : Room)) (fun zA zU => zA = #[(.int k)] ∧ Z.Warmed39 zU.vm ∧ zU.heap = h0) (fun _ _ _ _ _ => True) (fun _ zU zO zW => ∃ zV zL, zO = .returned zV ∧ QV (.ref w) h0 n0 zV zW.heap zL ∧ FrameEnd zU zO zW zL ({ frames := 0, cells := 0, slots := 0, locals := 0 } : Room).cells ({ frames := 0, cells := 0, slots := 0, locals := 0 } : Room).slots) := by
  refine MetFree.of_bodySF (plainFor_of_name pn_DecisionAsIndeterminatePinLaw) hisR ?_
  intro p e s m args below meth c s₁ Bd hml0 hP hK
  obtain ⟨rfl, hZ, hh⟩ := hP
  have hx := Bd.exec
  have hby := Bd.bytes
  have hml : c.maxLocals = 1 := hml0
  have hown : s.vm.findClass "com/example/adjudicate/adjudicate/DecisionAsIndeterminatePinLaw" = some m.cls := findClass_of_methodNamed Bd.named
  have hnm := (name_of_methodNamed Bd.named Bd.method).1
  have X0 : Stand p l e ({ frames := 0, cells := 0, slots := 0, locals := 0 } : Room) s m #[(.int k)] below meth c s₁ [] 0 0 := Stand.of_body Bd
  have e0 : s₁.heap = h0 := by rw [← hh, Bd.state]; rfl
  have N0 := Fr.nil n0
  have pre0 : ∀ zt, Steps p.tables e below (s₁.setTop (mkF m 0 #[.val (.int k)] [])) zt → Steps p.tables e below (s₁.setTop (entryFrame m #[(.int k)] 1)) zt := fun zt zk => castTop (ef_1_I m k) zk
  obtain ⟨T6, X6, e6, st6⟩ := getS2 X0 hx hZ hown (host := "") (Or.inl (hw _ (List.mem_of_getElem? (i := 35) rfl))) Via.refl e0 S (g := (mkF m 44 #[.val (.int k)] [])) rfl (hb hby d1_44)
  obtain ⟨fs, hr, hrun, hended, hW, hsame⟩ := X6.leave (v := some (.ref w)) (fun h => by rw [Bd.returns] at h; cases h)
  refine ⟨_, _, pre0 _ ?_, hrun, hended, _, _, rfl, ?_, ⟨_, rfl⟩, hW, hsame.mono (by decide) (by decide)⟩
  · show Steps p.tables e below (s₁.setTop (mkF m 0 #[.val (.int k)] [])) _
    refine XS.iloadN X0.here hx rfl (hb hby d1_0) rfl ?_
    show Steps p.tables e below (s₁.setTop (mkF m 1 #[.val (.int k)] [(.int k)])) _
    refine XS.ifYes X0.here hx rfl (pc0 := 1) (pc' := 8) rfl (hb hby d1_1) rfl ((if0 _ _).trans (feq hc1).2) (by decide) (by decide) ?_
    show Steps p.tables e below (s₁.setTop (mkF m 8 #[.val (.int k)] [])) _
    refine XS.iloadN X0.here hx rfl (hb hby d1_8) rfl ?_
    show Steps p.tables e below (s₁.setTop (mkF m 9 #[.val (.int k)] [(.int k)])) _
    refine XS.iconst X0.here hx rfl (hb hby d1_9) ?_
    show Steps p.tables e below (s₁.setTop (mkF m 10 #[.val (.int k)] [(.int (1 : Int32)), (.int k)])) _
    refine XS.icmpYes X0.here hx rfl (pc0 := 10) (pc' := 17) rfl (hb hby d1_10) rfl (feq hc10).2 (by decide) (by decide) ?_
    show Steps p.tables e below (s₁.setTop (mkF m 17 #[.val (.int k)] [])) _
    refine XS.iloadN X0.here hx rfl (hb hby d1_17) rfl ?_
    show Steps p.tables e below (s₁.setTop (mkF m 18 #[.val (.int k)] [(.int k)])) _
    refine XS.iconst X0.here hx rfl (hb hby d1_18) ?_
    show Steps p.tables e below (s₁.setTop (mkF m 19 #[.val (.int k)] [(.int (2 : Int32)), (.int k)])) _
    refine XS.icmpYes X0.here hx rfl (pc0 := 19) (pc' := 26) rfl (hb hby d1_19) rfl (feq hc19).2 (by decide) (by decide) ?_
    show Steps p.tables e below (s₁.setTop (mkF m 26 #[.val (.int k)] [])) _
    refine XS.iloadN X0.here hx rfl (hb hby d1_26) rfl ?_
    show Steps p.tables e below (s₁.setTop (mkF m 27 #[.val (.int k)] [(.int k)])) _
    refine XS.iconst X0.here hx rfl (hb hby d1_27) ?_
    show Steps p.tables e below (s₁.setTop (mkF m 28 #[.val (.int k)] [(.int (3 : Int32)), (.int k)])) _
    refine XS.icmpYes X0.here hx rfl (pc0 := 28) (pc' := 35) rfl (hb hby d1_28) rfl (feq hc28).2 (by decide) (by decide) ?_
    show Steps p.tables e below (s₁.setTop (mkF m 35 #[.val (.int k)] [])) _
    refine XS.iloadN X0.here hx rfl (hb hby d1_35) rfl ?_
    show Steps p.tables e below (s₁.setTop (mkF m 36 #[.val (.int k)] [(.int k)])) _
    refine XS.iconst X0.here hx rfl (hb hby d1_36) ?_
    show Steps p.tables e below (s₁.setTop (mkF m 37 #[.val (.int k)] [(.int (4 : Int32)), (.int k)])) _
    refine XS.icmpYes X0.here hx rfl (pc0 := 37) (pc' := 44) rfl (hb hby d1_37) rfl (feq hc37).2 (by decide) (by decide) ?_
    show Steps p.tables e below (s₁.setTop (mkF m 44 #[.val (.int k)] [])) _
    refine st6 _ ?_
    show Steps p.tables e below (T6.setTop (mkF m 47 #[.val (.int k)] [(.ref w)])) _
    jvm_step X6.here [X6.here.top, hx, (hb hby d1_47), X6.method', Bd.returns, Value.isRef, FieldType.isReference]
    first | (intro acts; rw [hr _ acts rfl rfl rfl]) | rw [hr _ _ rfl rfl rfl]
    exact Steps.refl _
  · show QV (.ref w) h0 n0 _ T6.heap _
    rw [e6]
    exact ⟨rfl, N0, rfl⟩
def PickW (Z : State) (h0 : Heap) (k : Int32) (w : Addr) : Prop := (k = 0 ∧ Sta Z h0 "com/example/adjudicate/adjudicate/Decision" "PERMIT" "Lcom/example/adjudicate/adjudicate/Decision;" (.ref w)) ∨ (k = 1 ∧ Sta Z h0 "com/example/adjudicate/adjudicate/Decision" "DENY" "Lcom/example/adjudicate/adjudicate/Decision;" (.ref w)) ∨ (k = 2 ∧ Sta Z h0 "com/example/adjudicate/adjudicate/Decision" "NOT_APPLICABLE" "Lcom/example/adjudicate/adjudicate/Decision;" (.ref w)) ∨ (k = 3 ∧ Sta Z h0 "com/example/adjudicate/adjudicate/Decision" "INDETERMINATE_D" "Lcom/example/adjudicate/adjudicate/Decision;" (.ref w)) ∨ (k = 4 ∧ Sta Z h0 "com/example/adjudicate/adjudicate/Decision" "INDETERMINATE_P" "Lcom/example/adjudicate/adjudicate/Decision;" (.ref w)) ∨ (k = 5 ∧ Sta Z h0 "com/example/adjudicate/adjudicate/Decision" "INDETERMINATE_DP" "Lcom/example/adjudicate/adjudicate/Decision;" (.ref w))
theorem rpick (l : Launch) (Z : State) (a0 : Array Value) (hw : ∀ d ∈ tables_1, d.before a0 Z = true) (ws : List Jvm.Cond) (k : Int32) (w : Addr) (h0 : Heap) (n0 : Nat) (Z0 : n0 ≤ h0.size) (hk : PickW Z h0 k w) :
    MetFree l (⟨"com/example/adjudicate/adjudicate/DecisionAsIndeterminatePinLaw", "pick", "(I)Lcom/example/adjudicate/adjudicate/Decision;"⟩ : MethodName) (head1 (Jvm.Cond.code (⟨"com/example/adjudicate/adjudicate/DecisionAsIndeterminatePinLaw", "pick", "(I)Lcom/example/adjudicate/adjudicate/Decision;"⟩ : MethodName) method_2_code 1 (some (.object "com/example/adjudicate/adjudicate/Decision")) :: ws) ({ frames := 0, cells := 0, slots := 0, locals := 0 } : Room)) (fun zA zU => zA = #[(.int k)] ∧ Z.Warmed39 zU.vm ∧ zU.heap = h0) (fun _ _ _ _ _ => True) (fun _ zU zO zW => ∃ zV zL, zO = .returned zV ∧ QV (.ref w) h0 n0 zV zW.heap zL ∧ FrameEnd zU zO zW zL ({ frames := 0, cells := 0, slots := 0, locals := 0 } : Room).cells ({ frames := 0, cells := 0, slots := 0, locals := 0 } : Room).slots) := by
  rcases hk with ⟨rfl, S⟩ | ⟨rfl, S⟩ | ⟨rfl, S⟩ | ⟨rfl, S⟩ | ⟨rfl, S⟩ | ⟨rfl, S⟩
  · exact rp0 l Z a0 hw ws _ w h0 n0 Z0 S (by decide)
  · exact rp1 l Z a0 hw ws _ w h0 n0 Z0 S (by decide) (by decide)
  · exact rp2 l Z a0 hw ws _ w h0 n0 Z0 S (by decide) (by decide) (by decide)
  · exact rp3 l Z a0 hw ws _ w h0 n0 Z0 S (by decide) (by decide) (by decide) (by decide)
  · exact rp4 l Z a0 hw ws _ w h0 n0 Z0 S (by decide) (by decide) (by decide) (by decide) (by decide)
  · exact rp5 l Z a0 hw ws _ w h0 n0 Z0 S (by decide) (by decide) (by decide) (by decide) (by decide)
theorem d3_0 : decode jdk_37_method_2_code 0 = .ok (.aload_n 0, 1) := by decide +kernel
theorem d3_1 : decode jdk_37_method_2_code 1 = .ok (.getfield 7, 3) := by decide +kernel
theorem d3_4 : decode jdk_37_method_2_code 4 = .ok (.ireturn, 1) := by decide +kernel
theorem ef_3_R (m : MethodId) (x0 : Addr) : entryFrame m #[(.ref x0)] 1 = mkF m 0 #[.val (.ref x0)] [] := by first | (simp [entryFrame, mkF, argsToLocals, Value.category]; done) | rfl
theorem pn_Enum : plainName "java/lang/Enum" = true := by first | (simp [plainName, overriddenIn]; done) | decide +kernel
set_option maxRecDepth 65536 in
set_option maxHeartbeats 40000000 in
theorem rord (l : Launch) (Z : State) (a0 : Array Value) (hw : ∀ d ∈ tables_1, d.before a0 Z = true) (ws : List Jvm.Cond) (a : Addr) (k : Int32) (h0 : Heap) (n0 : Nat) (Z0 : n0 ≤ h0.size) (F : Fld Z h0 a "java/lang/Enum" "ordinal" "I" (.int k)) :
    MetFree l (⟨"java/lang/Enum", "ordinal", "()I"⟩ : MethodName) (head1 (Jvm.Cond.code (⟨"java/lang/Enum", "ordinal", "()I"⟩ : MethodName) jdk_37_method_2_code 1 (some .int) :: ws) ({ frames := 0, cells := 0, slots := 0, locals := 0 } : Room)) (fun zA zU => zA = #[(.ref a)] ∧ Z.Warmed39 zU.vm ∧ zU.heap = h0) (fun _ _ _ _ _ => True) (fun _ zU zO zW => ∃ zV zL, zO = .returned zV ∧ QV (.int k) h0 n0 zV zW.heap zL ∧ FrameEnd zU zO zW zL ({ frames := 0, cells := 0, slots := 0, locals := 0 } : Room).cells ({ frames := 0, cells := 0, slots := 0, locals := 0 } : Room).slots) := by
  refine MetFree.of_bodySF (plainFor_of_name pn_Enum) hisR ?_
  intro p e s m args below meth c s₁ Bd hml0 hP hK
  obtain ⟨rfl, hZ, hh⟩ := hP
  have hx := Bd.exec
  have hby := Bd.bytes
  have hml : c.maxLocals = 1 := hml0
  have hown : s.vm.findClass "java/lang/Enum" = some m.cls := findClass_of_methodNamed Bd.named
  have hnm := (name_of_methodNamed Bd.named Bd.method).1
  have X0 : Stand p l e ({ frames := 0, cells := 0, slots := 0, locals := 0 } : Room) s m #[(.ref a)] below meth c s₁ [] 0 0 := Stand.of_body Bd
  have e0 : s₁.heap = h0 := by rw [← hh, Bd.state]; rfl
  have N0 := Fr.nil n0
  have pre0 : ∀ zt, Steps p.tables e below (s₁.setTop (mkF m 0 #[.val (.ref a)] [])) zt → Steps p.tables e below (s₁.setTop (entryFrame m #[(.ref a)] 1)) zt := fun zt zk => castTop (ef_3_R m a) zk
  obtain ⟨T7, X7, e7, st7⟩ := getF X0 hx hZ hown (host := "") (Or.inl (hw _ (List.mem_of_getElem? (i := 20) rfl))) Via.refl e0 F (g := (mkF m 1 #[.val (.ref a)] [(.ref a)])) rfl rfl (hb hby d3_1)
  obtain ⟨fs, hr, hrun, hended, hW, hsame⟩ := X7.leave (v := some (.int k)) (fun h => by rw [Bd.returns] at h; cases h)
  refine ⟨_, _, pre0 _ ?_, hrun, hended, _, _, rfl, ?_, ⟨_, rfl⟩, hW, hsame.mono (by decide) (by decide)⟩
  · show Steps p.tables e below (s₁.setTop (mkF m 0 #[.val (.ref a)] [])) _
    refine XS.aloadN X0.here hx rfl (hb hby d3_0) rfl rfl ?_
    show Steps p.tables e below (s₁.setTop (mkF m 1 #[.val (.ref a)] [(.ref a)])) _
    refine st7 _ ?_
    show Steps p.tables e below (T7.setTop (mkF m 4 #[.val (.ref a)] [(.int k)])) _
    exact retI X7 hx Bd.returns (hb hby d3_4) hr
  · show QV (.int k) h0 n0 _ T7.heap _
    rw [e7]
    exact ⟨rfl, N0, rfl⟩
theorem d2_0 : decode prog_37_method_6_code 0 = .ok (.aload_n 0, 1) := by decide +kernel
theorem d2_1 : decode prog_37_method_6_code 1 = .ok (.invokevirtual 53, 3) := by decide +kernel
theorem pd_0 : parseMethodDescriptor "()I" = some ⟨[], some .int⟩ := by decide +kernel
theorem d2_4 : decode prog_37_method_6_code 4 = .ok (.lookupswitch 42 #[(0, 28), (1, 35)], 28) := by decide +kernel
theorem d2_32 : decode prog_37_method_6_code 32 = .ok (.getstatic 16, 3) := by decide +kernel
theorem d2_35 : decode prog_37_method_6_code 35 = .ok (.astore_n 1, 1) := by decide +kernel
theorem d2_36 : decode prog_37_method_6_code 36 = .ok (.goto 12, 3) := by decide +kernel
theorem d2_48 : decode prog_37_method_6_code 48 = .ok (.aload_n 1, 1) := by decide +kernel
theorem d2_49 : decode prog_37_method_6_code 49 = .ok (.areturn, 1) := by decide +kernel
theorem ef_2_R (m : MethodId) (x0 : Addr) : entryFrame m #[(.ref x0)] 2 = mkF m 0 #[.val (.ref x0), .unset] [] := by first | (simp [entryFrame, mkF, argsToLocals, Value.category]; done) | rfl
theorem pn_Decision : plainName "com/example/adjudicate/adjudicate/Decision" = true := by first | (simp [plainName, overriddenIn]; done) | decide +kernel
set_option maxRecDepth 65536 in
set_option maxHeartbeats 40000000 in
theorem ra0 (l : Launch) (Z : State) (a0 : Array Value) (hw : ∀ d ∈ tables_1, d.before a0 Z = true) (ws : List Jvm.Cond) (a w : Addr) (h0 : Heap) (n0 : Nat) (Z0 : n0 ≤ h0.size) (F : Fld Z h0 a "java/lang/Enum" "ordinal" "I" (.int (0 : Int32))) (E : Exa Z h0 a "com/example/adjudicate/adjudicate/Decision") (S : Sta Z h0 "com/example/adjudicate/adjudicate/Decision" "INDETERMINATE_P" "Lcom/example/adjudicate/adjudicate/Decision;" (.ref w)) :
    MetFree l (⟨"com/example/adjudicate/adjudicate/Decision", "asIndeterminate", "()Lcom/example/adjudicate/adjudicate/Decision;"⟩ : MethodName) (head1 (Jvm.Cond.code (⟨"com/example/adjudicate/adjudicate/Decision", "asIndeterminate", "()Lcom/example/adjudicate/adjudicate/Decision;"⟩ : MethodName) prog_37_method_6_code 2 (some (.object "com/example/adjudicate/adjudicate/Decision")) :: ws) ({ frames := 1, cells := 0, slots := 0, locals := 12 } : Room)) (fun zA zU => zA = #[(.ref a)] ∧ Z.Warmed39 zU.vm ∧ zU.heap = h0) (fun _ _ _ _ _ => True) (fun _ zU zO zW => ∃ zV zL, zO = .returned zV ∧ QV (.ref w) h0 n0 zV zW.heap zL ∧ FrameEnd zU zO zW zL ({ frames := 1, cells := 0, slots := 0, locals := 12 } : Room).cells ({ frames := 1, cells := 0, slots := 0, locals := 12 } : Room).slots) := by
  refine MetFree.of_bodySF (plainFor_of_name pn_Decision) hisR ?_
  intro p e s m args below meth c s₁ Bd hml0 hP hK
  obtain ⟨rfl, hZ, hh⟩ := hP
  have hx := Bd.exec
  have hby := Bd.bytes
  have hml : c.maxLocals = 2 := hml0
  have hown : s.vm.findClass "com/example/adjudicate/adjudicate/Decision" = some m.cls := findClass_of_methodNamed Bd.named
  have hnm := (name_of_methodNamed Bd.named Bd.method).1
  have X0 : Stand p l e ({ frames := 1, cells := 0, slots := 0, locals := 12 } : Room) s m #[(.ref a)] below meth c s₁ [] 0 0 := Stand.of_body Bd
  have e0 : s₁.heap = h0 := by rw [← hh, Bd.state]; rfl
  have N0 := Fr.nil n0
  have pre0 : ∀ zt, Steps p.tables e below (s₁.setTop (mkF m 0 #[.val (.ref a), .unset] [])) zt → Steps p.tables e below (s₁.setTop (entryFrame m #[(.ref a)] 2)) zt := fun zt zk => castTop (ef_2_R m a) zk
  obtain ⟨cq8, kq8, q8a, q8b, q8c⟩ := isOf hZ e0 E
  obtain ⟨_, _, ⟨T8, L8, k8, n8⟩, -, X8, ⟨Lc8, hQ8, l8, y8, z8⟩, st8⟩ := X0.virtualBackUp hx (x := (⟨"com/example/adjudicate/adjudicate/Decision", "ordinal", "()I"⟩ : MethodName)) (y := (⟨"java/lang/Enum", "ordinal", "()I"⟩ : MethodName)) (owner := "java/lang/Enum") hown (mvT hZ (hw _ (List.mem_of_getElem? (i := 13) rfl))) (mvT hZ (hw _ (List.mem_of_getElem? (i := 14) rfl))) (mvT hZ (hw _ (List.mem_of_getElem? (i := 15) rfl))) (by decide) (mvT hZ (hw _ (List.mem_of_getElem? (i := 17) rfl))) (mvT hZ (hw _ (List.mem_of_getElem? (i := 16) rfl))) (backOf (W := 0) (rord l Z a0 hw [] a (0 : Int32) h0 n0 Z0 F) hZ (hw _ (List.mem_of_getElem? (i := 19) rfl)) (hw _ (List.mem_of_getElem? (i := 18) rfl)) (by decide) (by decide)) q8a q8c (g := (mkF m 1 #[.val (.ref a), .unset] [(.ref a)])) rfl (by rw [hml]; rfl) (Steps.refl _) (argsL := []) (rest := []) (lenOf pd_0 rfl) rfl (by show 2 * 0 + _ ≤ _; exact Nat.le_of_eq rfl) (hb hby d2_1) (fun _ _ => ⟨rfl, e0, (by decide : 0 + 0 ≤ _), (by decide : 0 + 0 ≤ _)⟩)
  dsimp only [Pt.U, Pt.locs, Pt.cells, Pt.slots] at X8 l8 y8 z8 st8 hQ8
  subst l8 y8 z8
  obtain ⟨rfl, Nq8, e8⟩ := hQ8
  have N8 := Fr.app N0 Nq8
  obtain ⟨T9, X9, e9, st9⟩ := getS2 X8 hx hZ hown (host := "") (Or.inl (hw _ (List.mem_of_getElem? (i := 22) rfl))) Via.refl e8 S (g := (mkF m 32 #[.val (.ref a), .unset] [])) rfl (hb hby d2_32)
  obtain ⟨fs, hr, hrun, hended, hW, hsame⟩ := X9.leave (v := some (.ref w)) (fun h => by rw [Bd.returns] at h; cases h)
  refine ⟨_, _, pre0 _ ?_, hrun, hended, _, _, rfl, ?_, ⟨_, rfl⟩, hW, hsame.mono (by decide) (by decide)⟩
  · show Steps p.tables e below (s₁.setTop (mkF m 0 #[.val (.ref a), .unset] [])) _
    refine XS.aloadN X0.here hx rfl (hb hby d2_0) rfl rfl ?_
    show Steps p.tables e below (s₁.setTop (mkF m 1 #[.val (.ref a), .unset] [(.ref a)])) _
    refine st8.trans ?_
    show Steps p.tables e below (T8.setTop (mkF m 4 #[.val (.ref a), .unset] [(.int (0 : Int32))])) _
    refine Jvm.RoadKit.lsw X8 hx rfl (pc0 := 4) (pc' := 32) (o := 28) rfl (hb hby d2_4) rfl (by intro a b a' b' h; simp at h; omega) (by decide) (by decide) (by decide) ?_
    show Steps p.tables e below (T8.setTop (mkF m 32 #[.val (.ref a), .unset] [])) _
    refine st9 _ ?_
    show Steps p.tables e below (T9.setTop (mkF m 35 #[.val (.ref a), .unset] [(.ref w)])) _
    refine XS.astoreN X9.here hx rfl (hb hby d2_35) rfl rfl (l' := #[.val (.ref a), .val (.ref w)]) rfl ?_
    show Steps p.tables e below (T9.setTop (mkF m 36 #[.val (.ref a), .val (.ref w)] [])) _
    refine XS.goto X9.here hx rfl (pc0 := 36) (pc' := 48) rfl (hb hby d2_36) (by decide) (by decide) ?_
    show Steps p.tables e below (T9.setTop (mkF m 48 #[.val (.ref a), .val (.ref w)] [])) _
    refine XS.aloadN X9.here hx rfl (hb hby d2_48) rfl rfl ?_
    show Steps p.tables e below (T9.setTop (mkF m 49 #[.val (.ref a), .val (.ref w)] [(.ref w)])) _
    jvm_step X9.here [X9.here.top, hx, (hb hby d2_49), X9.method', Bd.returns, Value.isRef, FieldType.isReference]
    first | (intro acts; rw [hr _ acts rfl rfl rfl]) | rw [hr _ _ rfl rfl rfl]
    exact Steps.refl _
  · show QV (.ref w) h0 n0 _ T9.heap _
    rw [e9]
    exact ⟨rfl, N8, rfl⟩
theorem d2_39 : decode prog_37_method_6_code 39 = .ok (.getstatic 13, 3) := by decide +kernel
theorem d2_42 : decode prog_37_method_6_code 42 = .ok (.astore_n 1, 1) := by decide +kernel
theorem d2_43 : decode prog_37_method_6_code 43 = .ok (.goto 5, 3) := by decide +kernel
set_option maxRecDepth 65536 in
set_option maxHeartbeats 40000000 in
theorem ra1 (l : Launch) (Z : State) (a0 : Array Value) (hw : ∀ d ∈ tables_1, d.before a0 Z = true) (ws : List Jvm.Cond) (a w : Addr) (h0 : Heap) (n0 : Nat) (Z0 : n0 ≤ h0.size) (F : Fld Z h0 a "java/lang/Enum" "ordinal" "I" (.int (1 : Int32))) (E : Exa Z h0 a "com/example/adjudicate/adjudicate/Decision") (S : Sta Z h0 "com/example/adjudicate/adjudicate/Decision" "INDETERMINATE_D" "Lcom/example/adjudicate/adjudicate/Decision;" (.ref w)) :
    MetFree l (⟨"com/example/adjudicate/adjudicate/Decision", "asIndeterminate", "()Lcom/example/adjudicate/adjudicate/Decision;"⟩ : MethodName) (head1 (Jvm.Cond.code (⟨"com/example/adjudicate/adjudicate/Decision", "asIndeterminate", "()Lcom/example/adjudicate/adjudicate/Decision;"⟩ : MethodName) prog_37_method_6_code 2 (some (.object "com/example/adjudicate/adjudicate/Decision")) :: ws) ({ frames := 1, cells := 0, slots := 0, locals := 12 } : Room)) (fun zA zU => zA = #[(.ref a)] ∧ Z.Warmed39 zU.vm ∧ zU.heap = h0) (fun _ _ _ _ _ => True) (fun _ zU zO zW => ∃ zV zL, zO = .returned zV ∧ QV (.ref w) h0 n0 zV zW.heap zL ∧ FrameEnd zU zO zW zL ({ frames := 1, cells := 0, slots := 0, locals := 12 } : Room).cells ({ frames := 1, cells := 0, slots := 0, locals := 12 } : Room).slots) := by
  refine MetFree.of_bodySF (plainFor_of_name pn_Decision) hisR ?_
  intro p e s m args below meth c s₁ Bd hml0 hP hK
  obtain ⟨rfl, hZ, hh⟩ := hP
  have hx := Bd.exec
  have hby := Bd.bytes
  have hml : c.maxLocals = 2 := hml0
  have hown : s.vm.findClass "com/example/adjudicate/adjudicate/Decision" = some m.cls := findClass_of_methodNamed Bd.named
  have hnm := (name_of_methodNamed Bd.named Bd.method).1
  have X0 : Stand p l e ({ frames := 1, cells := 0, slots := 0, locals := 12 } : Room) s m #[(.ref a)] below meth c s₁ [] 0 0 := Stand.of_body Bd
  have e0 : s₁.heap = h0 := by rw [← hh, Bd.state]; rfl
  have N0 := Fr.nil n0
  have pre0 : ∀ zt, Steps p.tables e below (s₁.setTop (mkF m 0 #[.val (.ref a), .unset] [])) zt → Steps p.tables e below (s₁.setTop (entryFrame m #[(.ref a)] 2)) zt := fun zt zk => castTop (ef_2_R m a) zk
  obtain ⟨cq10, kq10, q10a, q10b, q10c⟩ := isOf hZ e0 E
  obtain ⟨_, _, ⟨T10, L10, k10, n10⟩, -, X10, ⟨Lc10, hQ10, l10, y10, z10⟩, st10⟩ := X0.virtualBackUp hx (x := (⟨"com/example/adjudicate/adjudicate/Decision", "ordinal", "()I"⟩ : MethodName)) (y := (⟨"java/lang/Enum", "ordinal", "()I"⟩ : MethodName)) (owner := "java/lang/Enum") hown (mvT hZ (hw _ (List.mem_of_getElem? (i := 13) rfl))) (mvT hZ (hw _ (List.mem_of_getElem? (i := 14) rfl))) (mvT hZ (hw _ (List.mem_of_getElem? (i := 15) rfl))) (by decide) (mvT hZ (hw _ (List.mem_of_getElem? (i := 17) rfl))) (mvT hZ (hw _ (List.mem_of_getElem? (i := 16) rfl))) (backOf (W := 0) (rord l Z a0 hw [] a (1 : Int32) h0 n0 Z0 F) hZ (hw _ (List.mem_of_getElem? (i := 19) rfl)) (hw _ (List.mem_of_getElem? (i := 18) rfl)) (by decide) (by decide)) q10a q10c (g := (mkF m 1 #[.val (.ref a), .unset] [(.ref a)])) rfl (by rw [hml]; rfl) (Steps.refl _) (argsL := []) (rest := []) (lenOf pd_0 rfl) rfl (by show 2 * 0 + _ ≤ _; exact Nat.le_of_eq rfl) (hb hby d2_1) (fun _ _ => ⟨rfl, e0, (by decide : 0 + 0 ≤ _), (by decide : 0 + 0 ≤ _)⟩)
  dsimp only [Pt.U, Pt.locs, Pt.cells, Pt.slots] at X10 l10 y10 z10 st10 hQ10
  subst l10 y10 z10
  obtain ⟨rfl, Nq10, e10⟩ := hQ10
  have N10 := Fr.app N0 Nq10
  obtain ⟨T11, X11, e11, st11⟩ := getS2 X10 hx hZ hown (host := "") (Or.inl (hw _ (List.mem_of_getElem? (i := 34) rfl))) Via.refl e10 S (g := (mkF m 39 #[.val (.ref a), .unset] [])) rfl (hb hby d2_39)
  obtain ⟨fs, hr, hrun, hended, hW, hsame⟩ := X11.leave (v := some (.ref w)) (fun h => by rw [Bd.returns] at h; cases h)
  refine ⟨_, _, pre0 _ ?_, hrun, hended, _, _, rfl, ?_, ⟨_, rfl⟩, hW, hsame.mono (by decide) (by decide)⟩
  · show Steps p.tables e below (s₁.setTop (mkF m 0 #[.val (.ref a), .unset] [])) _
    refine XS.aloadN X0.here hx rfl (hb hby d2_0) rfl rfl ?_
    show Steps p.tables e below (s₁.setTop (mkF m 1 #[.val (.ref a), .unset] [(.ref a)])) _
    refine st10.trans ?_
    show Steps p.tables e below (T10.setTop (mkF m 4 #[.val (.ref a), .unset] [(.int (1 : Int32))])) _
    refine Jvm.RoadKit.lsw X10 hx rfl (pc0 := 4) (pc' := 39) (o := 35) rfl (hb hby d2_4) rfl (by intro a b a' b' h; simp at h; omega) (by decide) (by decide) (by decide) ?_
    show Steps p.tables e below (T10.setTop (mkF m 39 #[.val (.ref a), .unset] [])) _
    refine st11 _ ?_
    show Steps p.tables e below (T11.setTop (mkF m 42 #[.val (.ref a), .unset] [(.ref w)])) _
    refine XS.astoreN X11.here hx rfl (hb hby d2_42) rfl rfl (l' := #[.val (.ref a), .val (.ref w)]) rfl ?_
    show Steps p.tables e below (T11.setTop (mkF m 43 #[.val (.ref a), .val (.ref w)] [])) _
    refine XS.goto X11.here hx rfl (pc0 := 43) (pc' := 48) rfl (hb hby d2_43) (by decide) (by decide) ?_
    show Steps p.tables e below (T11.setTop (mkF m 48 #[.val (.ref a), .val (.ref w)] [])) _
    refine XS.aloadN X11.here hx rfl (hb hby d2_48) rfl rfl ?_
    show Steps p.tables e below (T11.setTop (mkF m 49 #[.val (.ref a), .val (.ref w)] [(.ref w)])) _
    jvm_step X11.here [X11.here.top, hx, (hb hby d2_49), X11.method', Bd.returns, Value.isRef, FieldType.isReference]
    first | (intro acts; rw [hr _ acts rfl rfl rfl]) | rw [hr _ _ rfl rfl rfl]
    exact Steps.refl _
  · show QV (.ref w) h0 n0 _ T11.heap _
    rw [e11]
    exact ⟨rfl, N10, rfl⟩
theorem d2_46 : decode prog_37_method_6_code 46 = .ok (.aload_n 0, 1) := by decide +kernel
theorem d2_47 : decode prog_37_method_6_code 47 = .ok (.astore_n 1, 1) := by decide +kernel
set_option maxRecDepth 65536 in
set_option maxHeartbeats 40000000 in
theorem ra2 (l : Launch) (Z : State) (a0 : Array Value) (hw : ∀ d ∈ tables_1, d.before a0 Z = true) (ws : List Jvm.Cond) (a : Addr) (k : Int32) (h0 : Heap) (n0 : Nat) (Z0 : n0 ≤ h0.size) (F : Fld Z h0 a "java/lang/Enum" "ordinal" "I" (.int k)) (E : Exa Z h0 a "com/example/adjudicate/adjudicate/Decision") (hk0 : lookupswitch.offset [(0, 28), (1, 35)] 42 k.toInt = 42) :
    MetFree l (⟨"com/example/adjudicate/adjudicate/Decision", "asIndeterminate", "()Lcom/example/adjudicate/adjudicate/Decision;"⟩ : MethodName) (head1 (Jvm.Cond.code (⟨"com/example/adjudicate/adjudicate/Decision", "asIndeterminate", "()Lcom/example/adjudicate/adjudicate/Decision;"⟩ : MethodName) prog_37_method_6_code 2 (some (.object "com/example/adjudicate/adjudicate/Decision")) :: ws) ({ frames := 1, cells := 0, slots := 0, locals := 12 } : Room)) (fun zA zU => zA = #[(.ref a)] ∧ Z.Warmed39 zU.vm ∧ zU.heap = h0) (fun _ _ _ _ _ => True) (fun _ zU zO zW => ∃ zV zL, zO = .returned zV ∧ QV (.ref a) h0 n0 zV zW.heap zL ∧ FrameEnd zU zO zW zL ({ frames := 1, cells := 0, slots := 0, locals := 12 } : Room).cells ({ frames := 1, cells := 0, slots := 0, locals := 12 } : Room).slots) := by
  refine MetFree.of_bodySF (plainFor_of_name pn_Decision) hisR ?_
  intro p e s m args below meth c s₁ Bd hml0 hP hK
  obtain ⟨rfl, hZ, hh⟩ := hP
  have hx := Bd.exec
  have hby := Bd.bytes
  have hml : c.maxLocals = 2 := hml0
  have hown : s.vm.findClass "com/example/adjudicate/adjudicate/Decision" = some m.cls := findClass_of_methodNamed Bd.named
  have hnm := (name_of_methodNamed Bd.named Bd.method).1
  have X0 : Stand p l e ({ frames := 1, cells := 0, slots := 0, locals := 12 } : Room) s m #[(.ref a)] below meth c s₁ [] 0 0 := Stand.of_body Bd
  have e0 : s₁.heap = h0 := by rw [← hh, Bd.state]; rfl
  have N0 := Fr.nil n0
  have pre0 : ∀ zt, Steps p.tables e below (s₁.setTop (mkF m 0 #[.val (.ref a), .unset] [])) zt → Steps p.tables e below (s₁.setTop (entryFrame m #[(.ref a)] 2)) zt := fun zt zk => castTop (ef_2_R m a) zk
  obtain ⟨cq12, kq12, q12a, q12b, q12c⟩ := isOf hZ e0 E
  obtain ⟨_, _, ⟨T12, L12, k12, n12⟩, -, X12, ⟨Lc12, hQ12, l12, y12, z12⟩, st12⟩ := X0.virtualBackUp hx (x := (⟨"com/example/adjudicate/adjudicate/Decision", "ordinal", "()I"⟩ : MethodName)) (y := (⟨"java/lang/Enum", "ordinal", "()I"⟩ : MethodName)) (owner := "java/lang/Enum") hown (mvT hZ (hw _ (List.mem_of_getElem? (i := 13) rfl))) (mvT hZ (hw _ (List.mem_of_getElem? (i := 14) rfl))) (mvT hZ (hw _ (List.mem_of_getElem? (i := 15) rfl))) (by decide) (mvT hZ (hw _ (List.mem_of_getElem? (i := 17) rfl))) (mvT hZ (hw _ (List.mem_of_getElem? (i := 16) rfl))) (backOf (W := 0) (rord l Z a0 hw [] a k h0 n0 Z0 F) hZ (hw _ (List.mem_of_getElem? (i := 19) rfl)) (hw _ (List.mem_of_getElem? (i := 18) rfl)) (by decide) (by decide)) q12a q12c (g := (mkF m 1 #[.val (.ref a), .unset] [(.ref a)])) rfl (by rw [hml]; rfl) (Steps.refl _) (argsL := []) (rest := []) (lenOf pd_0 rfl) rfl (by show 2 * 0 + _ ≤ _; exact Nat.le_of_eq rfl) (hb hby d2_1) (fun _ _ => ⟨rfl, e0, (by decide : 0 + 0 ≤ _), (by decide : 0 + 0 ≤ _)⟩)
  dsimp only [Pt.U, Pt.locs, Pt.cells, Pt.slots] at X12 l12 y12 z12 st12 hQ12
  subst l12 y12 z12
  obtain ⟨rfl, Nq12, e12⟩ := hQ12
  have N12 := Fr.app N0 Nq12
  obtain ⟨fs, hr, hrun, hended, hW, hsame⟩ := X12.leave (v := some (.ref a)) (fun h => by rw [Bd.returns] at h; cases h)
  refine ⟨_, _, pre0 _ ?_, hrun, hended, _, _, rfl, ?_, ⟨_, rfl⟩, hW, hsame.mono (by decide) (by decide)⟩
  · show Steps p.tables e below (s₁.setTop (mkF m 0 #[.val (.ref a), .unset] [])) _
    refine XS.aloadN X0.here hx rfl (hb hby d2_0) rfl rfl ?_
    show Steps p.tables e below (s₁.setTop (mkF m 1 #[.val (.ref a), .unset] [(.ref a)])) _
    refine st12.trans ?_
    show Steps p.tables e below (T12.setTop (mkF m 4 #[.val (.ref a), .unset] [(.int k)])) _
    refine Jvm.RoadKit.lsw X12 hx rfl (pc0 := 4) (pc' := 46) (o := 42) rfl (hb hby d2_4) rfl (by intro a b a' b' h; simp at h; omega) hk0 (by decide) (by decide) ?_
    show Steps p.tables e below (T12.setTop (mkF m 46 #[.val (.ref a), .unset] [])) _
    refine XS.aloadN X12.here hx rfl (hb hby d2_46) rfl rfl ?_
    show Steps p.tables e below (T12.setTop (mkF m 47 #[.val (.ref a), .unset] [(.ref a)])) _
    refine XS.astoreN X12.here hx rfl (hb hby d2_47) rfl rfl (l' := #[.val (.ref a), .val (.ref a)]) rfl ?_
    show Steps p.tables e below (T12.setTop (mkF m 48 #[.val (.ref a), .val (.ref a)] [])) _
    refine XS.aloadN X12.here hx rfl (hb hby d2_48) rfl rfl ?_
    show Steps p.tables e below (T12.setTop (mkF m 49 #[.val (.ref a), .val (.ref a)] [(.ref a)])) _
    jvm_step X12.here [X12.here.top, hx, (hb hby d2_49), X12.method', Bd.returns, Value.isRef, FieldType.isReference]
    first | (intro acts; rw [hr _ acts rfl rfl rfl]) | rw [hr _ _ rfl rfl rfl]
    exact Steps.refl _
  · show QV (.ref a) h0 n0 _ T12.heap _
    rw [e12]
    exact ⟨rfl, N12, rfl⟩
def AsI (Z : State) (h0 : Heap) (a w : Addr) : Prop := (Fld Z h0 a "java/lang/Enum" "ordinal" "I" (.int (0 : Int32)) ∧ Sta Z h0 "com/example/adjudicate/adjudicate/Decision" "INDETERMINATE_P" "Lcom/example/adjudicate/adjudicate/Decision;" (.ref w)) ∨ (Fld Z h0 a "java/lang/Enum" "ordinal" "I" (.int (1 : Int32)) ∧ Sta Z h0 "com/example/adjudicate/adjudicate/Decision" "INDETERMINATE_D" "Lcom/example/adjudicate/adjudicate/Decision;" (.ref w)) ∨ (∃ k : Int32, Fld Z h0 a "java/lang/Enum" "ordinal" "I" (.int k) ∧ lookupswitch.offset [(0, 28), (1, 35)] 42 k.toInt = 42 ∧ w = a)
theorem ras (l : Launch) (Z : State) (a0 : Array Value) (hw : ∀ d ∈ tables_1, d.before a0 Z = true) (ws : List Jvm.Cond) (a w : Addr) (h0 : Heap) (n0 : Nat) (Z0 : n0 ≤ h0.size) (E : Exa Z h0 a "com/example/adjudicate/adjudicate/Decision") (hk : AsI Z h0 a w) :
    MetFree l (⟨"com/example/adjudicate/adjudicate/Decision", "asIndeterminate", "()Lcom/example/adjudicate/adjudicate/Decision;"⟩ : MethodName) (head1 (Jvm.Cond.code (⟨"com/example/adjudicate/adjudicate/Decision", "asIndeterminate", "()Lcom/example/adjudicate/adjudicate/Decision;"⟩ : MethodName) prog_37_method_6_code 2 (some (.object "com/example/adjudicate/adjudicate/Decision")) :: ws) ({ frames := 1, cells := 0, slots := 0, locals := 12 } : Room)) (fun zA zU => zA = #[(.ref a)] ∧ Z.Warmed39 zU.vm ∧ zU.heap = h0) (fun _ _ _ _ _ => True) (fun _ zU zO zW => ∃ zV zL, zO = .returned zV ∧ QV (.ref w) h0 n0 zV zW.heap zL ∧ FrameEnd zU zO zW zL ({ frames := 1, cells := 0, slots := 0, locals := 12 } : Room).cells ({ frames := 1, cells := 0, slots := 0, locals := 12 } : Room).slots) := by
  rcases hk with ⟨F, S⟩ | ⟨F, S⟩ | ⟨k, F, hk, rfl⟩
  · exact ra0 l Z a0 hw ws a w h0 n0 Z0 F E S
  · exact ra1 l Z a0 hw ws a w h0 n0 Z0 F E S
  · exact ra2 l Z a0 hw ws w k h0 n0 Z0 F E hk
theorem d4_0 : decode method_3_code 0 = .ok (.iload_n 0, 1) := by decide +kernel
theorem d4_1 : decode method_3_code 1 = .ok (.ifCond .ne 7, 3) := by decide +kernel
theorem d4_4 : decode method_3_code 4 = .ok (.getstatic 22, 3) := by decide +kernel
theorem d4_7 : decode method_3_code 7 = .ok (.areturn, 1) := by decide +kernel
theorem ef_4_I (m : MethodId) (x0 : Int32) : entryFrame m #[(.int x0)] 1 = mkF m 0 #[.val (.int x0)] [] := by first | (simp [entryFrame, mkF, argsToLocals, Value.category]; done) | rfl
set_option maxRecDepth 65536 in
set_option maxHeartbeats 40000000 in
theorem re0 (l : Launch) (Z : State) (a0 : Array Value) (hw : ∀ d ∈ tables_1, d.before a0 Z = true) (ws : List Jvm.Cond) (k : Int32) (w : Addr) (h0 : Heap) (n0 : Nat) (Z0 : n0 ≤ h0.size) (S : Sta Z h0 "com/example/adjudicate/adjudicate/Decision" "INDETERMINATE_P" "Lcom/example/adjudicate/adjudicate/Decision;" (.ref w)) (hc1 : k = (0 : Int32)) :
    MetFree l (⟨"com/example/adjudicate/adjudicate/DecisionAsIndeterminatePinLaw", "expected", "(I)Lcom/example/adjudicate/adjudicate/Decision;"⟩ : MethodName) (head1 (Jvm.Cond.code (⟨"com/example/adjudicate/adjudicate/DecisionAsIndeterminatePinLaw", "expected", "(I)Lcom/example/adjudicate/adjudicate/Decision;"⟩ : MethodName) method_3_code 1 (some (.object "com/example/adjudicate/adjudicate/Decision")) :: ws) ({ frames := 1, cells := 0, slots := 0, locals := 12 } : Room)) (fun zA zU => zA = #[(.int k)] ∧ Z.Warmed39 zU.vm ∧ zU.heap = h0) (fun _ _ _ _ _ => True) (fun _ zU zO zW => ∃ zV zL, zO = .returned zV ∧ QV (.ref w) h0 n0 zV zW.heap zL ∧ FrameEnd zU zO zW zL ({ frames := 1, cells := 0, slots := 0, locals := 12 } : Room).cells ({ frames := 1, cells := 0, slots := 0, locals := 12 } : Room).slots) := by
  refine MetFree.of_bodySF (plainFor_of_name pn_DecisionAsIndeterminatePinLaw) hisR ?_
  intro p e s m args below meth c s₁ Bd hml0 hP hK
  obtain ⟨rfl, hZ, hh⟩ := hP
  have hx := Bd.exec
  have hby := Bd.bytes
  have hml : c.maxLocals = 1 := hml0
  have hown : s.vm.findClass "com/example/adjudicate/adjudicate/DecisionAsIndeterminatePinLaw" = some m.cls := findClass_of_methodNamed Bd.named
  have hnm := (name_of_methodNamed Bd.named Bd.method).1
  have X0 : Stand p l e ({ frames := 1, cells := 0, slots := 0, locals := 12 } : Room) s m #[(.int k)] below meth c s₁ [] 0 0 := Stand.of_body Bd
  have e0 : s₁.heap = h0 := by rw [← hh, Bd.state]; rfl
  have N0 := Fr.nil n0
  have pre0 : ∀ zt, Steps p.tables e below (s₁.setTop (mkF m 0 #[.val (.int k)] [])) zt → Steps p.tables e below (s₁.setTop (entryFrame m #[(.int k)] 1)) zt := fun zt zk => castTop (ef_4_I m k) zk
  obtain ⟨T13, X13, e13, st13⟩ := getS2 X0 hx hZ hown (host := "") (Or.inl (hw _ (List.mem_of_getElem? (i := 27) rfl))) Via.refl e0 S (g := (mkF m 4 #[.val (.int k)] [])) rfl (hb hby d4_4)
  obtain ⟨fs, hr, hrun, hended, hW, hsame⟩ := X13.leave (v := some (.ref w)) (fun h => by rw [Bd.returns] at h; cases h)
  refine ⟨_, _, pre0 _ ?_, hrun, hended, _, _, rfl, ?_, ⟨_, rfl⟩, hW, hsame.mono (by decide) (by decide)⟩
  · show Steps p.tables e below (s₁.setTop (mkF m 0 #[.val (.int k)] [])) _
    refine XS.iloadN X0.here hx rfl (hb hby d4_0) rfl ?_
    show Steps p.tables e below (s₁.setTop (mkF m 1 #[.val (.int k)] [(.int k)])) _
    refine XS.ifNo X0.here hx rfl (hb hby d4_1) rfl ((if0 _ _).trans (teq hc1).2) ?_
    show Steps p.tables e below (s₁.setTop (mkF m 4 #[.val (.int k)] [])) _
    refine st13 _ ?_
    show Steps p.tables e below (T13.setTop (mkF m 7 #[.val (.int k)] [(.ref w)])) _
    jvm_step X13.here [X13.here.top, hx, (hb hby d4_7), X13.method', Bd.returns, Value.isRef, FieldType.isReference]
    first | (intro acts; rw [hr _ acts rfl rfl rfl]) | rw [hr _ _ rfl rfl rfl]
    exact Steps.refl _
  · show QV (.ref w) h0 n0 _ T13.heap _
    rw [e13]
    exact ⟨rfl, N0, rfl⟩
theorem d4_8 : decode method_3_code 8 = .ok (.iload_n 0, 1) := by decide +kernel
theorem d4_9 : decode method_3_code 9 = .ok (.iconst 1, 1) := by decide +kernel
theorem d4_10 : decode method_3_code 10 = .ok (.if_icmp .ne 7, 3) := by decide +kernel
theorem d4_13 : decode method_3_code 13 = .ok (.getstatic 19, 3) := by decide +kernel
theorem d4_16 : decode method_3_code 16 = .ok (.areturn, 1) := by decide +kernel
set_option maxRecDepth 65536 in
set_option maxHeartbeats 40000000 in
theorem re1 (l : Launch) (Z : State) (a0 : Array Value) (hw : ∀ d ∈ tables_1, d.before a0 Z = true) (ws : List Jvm.Cond) (k : Int32) (w : Addr) (h0 : Heap) (n0 : Nat) (Z0 : n0 ≤ h0.size) (S : Sta Z h0 "com/example/adjudicate/adjudicate/Decision" "INDETERMINATE_D" "Lcom/example/adjudicate/adjudicate/Decision;" (.ref w)) (hc1 : ¬ (k = (0 : Int32))) (hc10 : k = (1 : Int32)) :
    MetFree l (⟨"com/example/adjudicate/adjudicate/DecisionAsIndeterminatePinLaw", "expected", "(I)Lcom/example/adjudicate/adjudicate/Decision;"⟩ : MethodName) (head1 (Jvm.Cond.code (⟨"com/example/adjudicate/adjudicate/DecisionAsIndeterminatePinLaw", "expected", "(I)Lcom/example/adjudicate/adjudicate/Decision;"⟩ : MethodName) method_3_code 1 (some (.object "com/example/adjudicate/adjudicate/Decision")) :: ws) ({ frames := 1, cells := 0, slots := 0, locals := 12 } : Room)) (fun zA zU => zA = #[(.int k)] ∧ Z.Warmed39 zU.vm ∧ zU.heap = h0) (fun _ _ _ _ _ => True) (fun _ zU zO zW => ∃ zV zL, zO = .returned zV ∧ QV (.ref w) h0 n0 zV zW.heap zL ∧ FrameEnd zU zO zW zL ({ frames := 1, cells := 0, slots := 0, locals := 12 } : Room).cells ({ frames := 1, cells := 0, slots := 0, locals := 12 } : Room).slots) := by
  refine MetFree.of_bodySF (plainFor_of_name pn_DecisionAsIndeterminatePinLaw) hisR ?_
  intro p e s m args below meth c s₁ Bd hml0 hP hK
  obtain ⟨rfl, hZ, hh⟩ := hP
  have hx := Bd.exec
  have hby := Bd.bytes
  have hml : c.maxLocals = 1 := hml0
  have hown : s.vm.findClass "com/example/adjudicate/adjudicate/DecisionAsIndeterminatePinLaw" = some m.cls := findClass_of_methodNamed Bd.named
  have hnm := (name_of_methodNamed Bd.named Bd.method).1
  have X0 : Stand p l e ({ frames := 1, cells := 0, slots := 0, locals := 12 } : Room) s m #[(.int k)] below meth c s₁ [] 0 0 := Stand.of_body Bd
  have e0 : s₁.heap = h0 := by rw [← hh, Bd.state]; rfl
  have N0 := Fr.nil n0
  have pre0 : ∀ zt, Steps p.tables e below (s₁.setTop (mkF m 0 #[.val (.int k)] [])) zt → Steps p.tables e below (s₁.setTop (entryFrame m #[(.int k)] 1)) zt := fun zt zk => castTop (ef_4_I m k) zk
  obtain ⟨T14, X14, e14, st14⟩ := getS2 X0 hx hZ hown (host := "") (Or.inl (hw _ (List.mem_of_getElem? (i := 28) rfl))) Via.refl e0 S (g := (mkF m 13 #[.val (.int k)] [])) rfl (hb hby d4_13)
  obtain ⟨fs, hr, hrun, hended, hW, hsame⟩ := X14.leave (v := some (.ref w)) (fun h => by rw [Bd.returns] at h; cases h)
  refine ⟨_, _, pre0 _ ?_, hrun, hended, _, _, rfl, ?_, ⟨_, rfl⟩, hW, hsame.mono (by decide) (by decide)⟩
  · show Steps p.tables e below (s₁.setTop (mkF m 0 #[.val (.int k)] [])) _
    refine XS.iloadN X0.here hx rfl (hb hby d4_0) rfl ?_
    show Steps p.tables e below (s₁.setTop (mkF m 1 #[.val (.int k)] [(.int k)])) _
    refine XS.ifYes X0.here hx rfl (pc0 := 1) (pc' := 8) rfl (hb hby d4_1) rfl ((if0 _ _).trans (feq hc1).2) (by decide) (by decide) ?_
    show Steps p.tables e below (s₁.setTop (mkF m 8 #[.val (.int k)] [])) _
    refine XS.iloadN X0.here hx rfl (hb hby d4_8) rfl ?_
    show Steps p.tables e below (s₁.setTop (mkF m 9 #[.val (.int k)] [(.int k)])) _
    refine XS.iconst X0.here hx rfl (hb hby d4_9) ?_
    show Steps p.tables e below (s₁.setTop (mkF m 10 #[.val (.int k)] [(.int (1 : Int32)), (.int k)])) _
    refine XS.icmpNo X0.here hx rfl (hb hby d4_10) rfl (teq hc10).2 ?_
    show Steps p.tables e below (s₁.setTop (mkF m 13 #[.val (.int k)] [])) _
    refine st14 _ ?_
    show Steps p.tables e below (T14.setTop (mkF m 16 #[.val (.int k)] [(.ref w)])) _
    jvm_step X14.here [X14.here.top, hx, (hb hby d4_16), X14.method', Bd.returns, Value.isRef, FieldType.isReference]
    first | (intro acts; rw [hr _ acts rfl rfl rfl]) | rw [hr _ _ rfl rfl rfl]
    exact Steps.refl _
  · show QV (.ref w) h0 n0 _ T14.heap _
    rw [e14]
    exact ⟨rfl, N0, rfl⟩
theorem d4_17 : decode method_3_code 17 = .ok (.iload_n 0, 1) := by decide +kernel
theorem d4_18 : decode method_3_code 18 = .ok (.invokestatic 28, 3) := by decide +kernel
theorem pd_1 : parseMethodDescriptor "(I)Lcom/example/adjudicate/adjudicate/Decision;" = some ⟨[.int], some (.object "com/example/adjudicate/adjudicate/Decision")⟩ := by decide +kernel
theorem d4_21 : decode method_3_code 21 = .ok (.areturn, 1) := by decide +kernel
set_option maxRecDepth 65536 in
set_option maxHeartbeats 40000000 in
theorem re2 (l : Launch) (Z : State) (a0 : Array Value) (hw : ∀ d ∈ tables_1, d.before a0 Z = true) (ws : List Jvm.Cond) (k : Int32) (w : Addr) (h0 : Heap) (n0 : Nat) (Z0 : n0 ≤ h0.size) (hp : PickW Z h0 k w) (hc1 : ¬ (k = (0 : Int32))) (hc10 : ¬ (k = (1 : Int32))) :
    MetFree l (⟨"com/example/adjudicate/adjudicate/DecisionAsIndeterminatePinLaw", "expected", "(I)Lcom/example/adjudicate/adjudicate/Decision;"⟩ : MethodName) (head1 (Jvm.Cond.code (⟨"com/example/adjudicate/adjudicate/DecisionAsIndeterminatePinLaw", "expected", "(I)Lcom/example/adjudicate/adjudicate/Decision;"⟩ : MethodName) method_3_code 1 (some (.object "com/example/adjudicate/adjudicate/Decision")) :: ws) ({ frames := 1, cells := 0, slots := 0, locals := 12 } : Room)) (fun zA zU => zA = #[(.int k)] ∧ Z.Warmed39 zU.vm ∧ zU.heap = h0) (fun _ _ _ _ _ => True) (fun _ zU zO zW => ∃ zV zL, zO = .returned zV ∧ QV (.ref w) h0 n0 zV zW.heap zL ∧ FrameEnd zU zO zW zL ({ frames := 1, cells := 0, slots := 0, locals := 12 } : Room).cells ({ frames := 1, cells := 0, slots := 0, locals := 12 } : Room).slots) := by
  refine MetFree.of_bodySF (plainFor_of_name pn_DecisionAsIndeterminatePinLaw) hisR ?_
  intro p e s m args below meth c s₁ Bd hml0 hP hK
  obtain ⟨rfl, hZ, hh⟩ := hP
  have hx := Bd.exec
  have hby := Bd.bytes
  have hml : c.maxLocals = 1 := hml0
  have hown : s.vm.findClass "com/example/adjudicate/adjudicate/DecisionAsIndeterminatePinLaw" = some m.cls := findClass_of_methodNamed Bd.named
  have hnm := (name_of_methodNamed Bd.named Bd.method).1
  have X0 : Stand p l e ({ frames := 1, cells := 0, slots := 0, locals := 12 } : Room) s m #[(.int k)] below meth c s₁ [] 0 0 := Stand.of_body Bd
  have e0 : s₁.heap = h0 := by rw [← hh, Bd.state]; rfl
  have N0 := Fr.nil n0
  have pre0 : ∀ zt, Steps p.tables e below (s₁.setTop (mkF m 0 #[.val (.int k)] [])) zt → Steps p.tables e below (s₁.setTop (entryFrame m #[(.int k)] 1)) zt := fun zt zk => castTop (ef_4_I m k) zk
  obtain ⟨_, _, ⟨T15, L15, k15, n15⟩, -, X15, ⟨Lc15, hQ15, l15, y15, z15⟩, st15⟩ := Jvm.LawKit.callS X0 hx (y := (⟨"com/example/adjudicate/adjudicate/DecisionAsIndeterminatePinLaw", "pick", "(I)Lcom/example/adjudicate/adjudicate/Decision;"⟩ : MethodName)) hown (mvT hZ (hw _ (List.mem_of_getElem? (i := 1) rfl))) (mvT hZ (hw _ (List.mem_of_getElem? (i := 2) rfl))) (mvT hZ (hw _ (List.mem_of_getElem? (i := 3) rfl))) (mvT hZ (hw _ (List.mem_of_getElem? (i := 4) rfl))) (by decide) (backOf (W := 0) (rpick l Z a0 hw [] k w h0 n0 Z0 hp) hZ (hw _ (List.mem_of_getElem? (i := 4) rfl)) (hw _ (List.mem_of_getElem? (i := 3) rfl)) (by decide) (by decide)) (g := (mkF m 18 #[.val (.int k)] [(.int k)])) rfl (by rw [hml]; rfl) (argsL := [(.int k)]) (rest := []) (lenOf pd_1 rfl) rfl (by show 2 * 0 + _ ≤ _; exact Nat.le_of_eq rfl) (hb hby d4_18) (fun _ _ => ⟨rfl, e0, (by decide : 0 + 0 ≤ _), (by decide : 0 + 0 ≤ _)⟩)
  dsimp only [Pt.U, Pt.locs, Pt.cells, Pt.slots] at X15 l15 y15 z15 st15 hQ15
  subst l15 y15 z15
  obtain ⟨rfl, Nq15, e15⟩ := hQ15
  have N15 := Fr.app N0 Nq15
  obtain ⟨fs, hr, hrun, hended, hW, hsame⟩ := X15.leave (v := some (.ref w)) (fun h => by rw [Bd.returns] at h; cases h)
  refine ⟨_, _, pre0 _ ?_, hrun, hended, _, _, rfl, ?_, ⟨_, rfl⟩, hW, hsame.mono (by decide) (by decide)⟩
  · show Steps p.tables e below (s₁.setTop (mkF m 0 #[.val (.int k)] [])) _
    refine XS.iloadN X0.here hx rfl (hb hby d4_0) rfl ?_
    show Steps p.tables e below (s₁.setTop (mkF m 1 #[.val (.int k)] [(.int k)])) _
    refine XS.ifYes X0.here hx rfl (pc0 := 1) (pc' := 8) rfl (hb hby d4_1) rfl ((if0 _ _).trans (feq hc1).2) (by decide) (by decide) ?_
    show Steps p.tables e below (s₁.setTop (mkF m 8 #[.val (.int k)] [])) _
    refine XS.iloadN X0.here hx rfl (hb hby d4_8) rfl ?_
    show Steps p.tables e below (s₁.setTop (mkF m 9 #[.val (.int k)] [(.int k)])) _
    refine XS.iconst X0.here hx rfl (hb hby d4_9) ?_
    show Steps p.tables e below (s₁.setTop (mkF m 10 #[.val (.int k)] [(.int (1 : Int32)), (.int k)])) _
    refine XS.icmpYes X0.here hx rfl (pc0 := 10) (pc' := 17) rfl (hb hby d4_10) rfl (feq hc10).2 (by decide) (by decide) ?_
    show Steps p.tables e below (s₁.setTop (mkF m 17 #[.val (.int k)] [])) _
    refine XS.iloadN X0.here hx rfl (hb hby d4_17) rfl ?_
    show Steps p.tables e below (s₁.setTop (mkF m 18 #[.val (.int k)] [(.int k)])) _
    refine st15 _ ?_
    show Steps p.tables e below (T15.setTop (mkF m 21 #[.val (.int k)] [(.ref w)])) _
    jvm_step X15.here [X15.here.top, hx, (hb hby d4_21), X15.method', Bd.returns, Value.isRef, FieldType.isReference]
    first | (intro acts; rw [hr _ acts rfl rfl rfl]) | rw [hr _ _ rfl rfl rfl]
    exact Steps.refl _
  · show QV (.ref w) h0 n0 _ T15.heap _
    rw [e15]
    exact ⟨rfl, N15, rfl⟩
def ExpW (Z : State) (h0 : Heap) (k : Int32) (w : Addr) : Prop := (k = 0 ∧ Sta Z h0 "com/example/adjudicate/adjudicate/Decision" "INDETERMINATE_P" "Lcom/example/adjudicate/adjudicate/Decision;" (.ref w)) ∨ (k = 1 ∧ Sta Z h0 "com/example/adjudicate/adjudicate/Decision" "INDETERMINATE_D" "Lcom/example/adjudicate/adjudicate/Decision;" (.ref w)) ∨ (¬ (k = 0) ∧ ¬ (k = 1) ∧ PickW Z h0 k w)
theorem rexp (l : Launch) (Z : State) (a0 : Array Value) (hw : ∀ d ∈ tables_1, d.before a0 Z = true) (ws : List Jvm.Cond) (k : Int32) (w : Addr) (h0 : Heap) (n0 : Nat) (Z0 : n0 ≤ h0.size) (hk : ExpW Z h0 k w) :
    MetFree l (⟨"com/example/adjudicate/adjudicate/DecisionAsIndeterminatePinLaw", "expected", "(I)Lcom/example/adjudicate/adjudicate/Decision;"⟩ : MethodName) (head1 (Jvm.Cond.code (⟨"com/example/adjudicate/adjudicate/DecisionAsIndeterminatePinLaw", "expected", "(I)Lcom/example/adjudicate/adjudicate/Decision;"⟩ : MethodName) method_3_code 1 (some (.object "com/example/adjudicate/adjudicate/Decision")) :: ws) ({ frames := 1, cells := 0, slots := 0, locals := 12 } : Room)) (fun zA zU => zA = #[(.int k)] ∧ Z.Warmed39 zU.vm ∧ zU.heap = h0) (fun _ _ _ _ _ => True) (fun _ zU zO zW => ∃ zV zL, zO = .returned zV ∧ QV (.ref w) h0 n0 zV zW.heap zL ∧ FrameEnd zU zO zW zL ({ frames := 1, cells := 0, slots := 0, locals := 12 } : Room).cells ({ frames := 1, cells := 0, slots := 0, locals := 12 } : Room).slots) := by
  rcases hk with ⟨rfl, S⟩ | ⟨rfl, S⟩ | ⟨h1, h2, S⟩
  · exact re0 l Z a0 hw ws _ w h0 n0 Z0 S (by decide)
  · exact re1 l Z a0 hw ws _ w h0 n0 Z0 S (by decide) (by decide)
  · exact re2 l Z a0 hw ws k w h0 n0 Z0 S h1 h2
theorem pd_2 : parseMethodDescriptor "()Lcom/example/adjudicate/adjudicate/Decision;" = some ⟨[], some (.object "com/example/adjudicate/adjudicate/Decision")⟩ := by decide +kernel
theorem ef_0_I (m : MethodId) (x0 : Int32) : entryFrame m #[(.int x0)] maxLocals = mkF m 0 #[.val (.int x0), .unset, .unset, .unset] [] := by first | (simp [entryFrame, mkF, argsToLocals, Value.category, maxLocals]; done) | rfl
set_option maxRecDepth 65536 in
set_option maxHeartbeats 40000000 in
theorem rm0a (l : Launch) (Z : State) (a0 : Array Value) (hw : ∀ d ∈ tables_1, d.before a0 Z = true) (ws : List Jvm.Cond) (x1 : Int32) (d r : Addr) (h0 : Heap) (n0 : Nat) (Z0 : n0 ≤ h0.size) (hp : PickW Z h0 ((x1 &&& (2147483647 : Int32)) % (6 : Int32)) d) (Ed : Exa Z h0 d "com/example/adjudicate/adjudicate/Decision") (hd : AsI Z h0 d r) (Er : Exa Z h0 r "com/example/adjudicate/adjudicate/Decision") (he : ExpW Z h0 ((x1 &&& (2147483647 : Int32)) % (6 : Int32)) r) (hr1 : AsI Z h0 r r) :
    MetFree l x (head1 (Jvm.Cond.code x code maxLocals ret :: ws) room_1) (fun zA zU => zA = #[(.int x1)] ∧ Z.Warmed39 zU.vm ∧ zU.heap = h0) (fun _ _ _ _ _ => True) (fun _ zU zO zW => ∃ zV zL, zO = .returned zV ∧ QL n0 zV zW.heap zL ∧ FrameEnd zU zO zW zL room_1.cells room_1.slots) := by
  refine MetFree.of_bodySF (plainFor_of_name pn_DecisionAsIndeterminatePinLaw) hisR ?_
  intro p e s m args below meth c s₁ Bd hml0 hP hK
  obtain ⟨rfl, hZ, hh⟩ := hP
  have hx := Bd.exec
  have hby := Bd.bytes
  have hml : c.maxLocals = 4 := hml0
  have hown : s.vm.findClass "com/example/adjudicate/adjudicate/DecisionAsIndeterminatePinLaw" = some m.cls := findClass_of_methodNamed Bd.named
  have hnm := (name_of_methodNamed Bd.named Bd.method).1
  have X0 : Stand p l e room_1 s m #[(.int x1)] below meth c s₁ [] 0 0 := Stand.of_body Bd
  have e0 : s₁.heap = h0 := by rw [← hh, Bd.state]; rfl
  have N0 := Fr.nil n0
  have pre0 : ∀ zt, Steps p.tables e below (s₁.setTop (mkF m 0 #[.val (.int x1), .unset, .unset, .unset] [])) zt → Steps p.tables e below (s₁.setTop (entryFrame m #[(.int x1)] maxLocals)) zt := fun zt zk => castTop (ef_0_I m x1) zk
  obtain ⟨_, _, ⟨T16, L16, k16, n16⟩, -, X16, ⟨Lc16, hQ16, l16, y16, z16⟩, st16⟩ := Jvm.LawKit.callS X0 hx (y := (⟨"com/example/adjudicate/adjudicate/DecisionAsIndeterminatePinLaw", "pick", "(I)Lcom/example/adjudicate/adjudicate/Decision;"⟩ : MethodName)) hown (mvT hZ (hw _ (List.mem_of_getElem? (i := 1) rfl))) (mvT hZ (hw _ (List.mem_of_getElem? (i := 2) rfl))) (mvT hZ (hw _ (List.mem_of_getElem? (i := 3) rfl))) (mvT hZ (hw _ (List.mem_of_getElem? (i := 4) rfl))) (by decide) (backOf (W := 0) (rpick l Z a0 hw [] ((x1 &&& (2147483647 : Int32)) % (6 : Int32)) d h0 n0 Z0 hp) hZ (hw _ (List.mem_of_getElem? (i := 4) rfl)) (hw _ (List.mem_of_getElem? (i := 3) rfl)) (by decide) (by decide)) (g := (mkF m 9 #[.val (.int x1), .val (.int ((x1 &&& (2147483647 : Int32)) % (6 : Int32))), .unset, .unset] [(.int ((x1 &&& (2147483647 : Int32)) % (6 : Int32)))])) rfl (by rw [hml]; rfl) (argsL := [(.int ((x1 &&& (2147483647 : Int32)) % (6 : Int32)))]) (rest := []) (lenOf pd_1 rfl) rfl (by show 2 * 0 + _ ≤ _; exact Nat.le_of_eq rfl) (hb hby at_9) (fun _ _ => ⟨rfl, e0, (by decide : 0 + 0 ≤ _), (by decide : 0 + 0 ≤ _)⟩)
  dsimp only [Pt.U, Pt.locs, Pt.cells, Pt.slots] at X16 l16 y16 z16 st16 hQ16
  subst l16 y16 z16
  obtain ⟨rfl, Nq16, e16⟩ := hQ16
  have N16 := Fr.app N0 Nq16
  obtain ⟨cq17, kq17, q17a, q17b, q17c⟩ := isOf hZ e16 Ed
  obtain ⟨_, _, ⟨T17, L17, k17, n17⟩, -, X17, ⟨Lc17, hQ17, l17, y17, z17⟩, st17⟩ := X16.virtualBack hx (y := (⟨"com/example/adjudicate/adjudicate/Decision", "asIndeterminate", "()Lcom/example/adjudicate/adjudicate/Decision;"⟩ : MethodName)) (z := (⟨"com/example/adjudicate/adjudicate/Decision", "asIndeterminate", "()Lcom/example/adjudicate/adjudicate/Decision;"⟩ : MethodName)) hown (mvT hZ (hw _ (List.mem_of_getElem? (i := 8) rfl))) (mvT hZ (hw _ (List.mem_of_getElem? (i := 9) rfl))) (notFace_of_selects (args := #[]) (mvT hZ (hw _ (List.mem_of_getElem? (i := 11) rfl)))) (mvT hZ (hw _ (List.mem_of_getElem? (i := 11) rfl))) (mvT hZ (hw _ (List.mem_of_getElem? (i := 10) rfl))) (by decide) (backOf (W := 0) (ras l Z a0 hw [] d r h0 n0 Z0 Ed hd) hZ (hw _ (List.mem_of_getElem? (i := 12) rfl)) (hw _ (List.mem_of_getElem? (i := 6) rfl)) (by decide) (by decide)) q17a q17c (g := (mkF m 14 #[.val (.int x1), .val (.int ((x1 &&& (2147483647 : Int32)) % (6 : Int32))), .val (.ref d), .unset] [(.ref d)])) rfl (by rw [hml]; rfl) (Steps.refl _) (argsL := []) (rest := []) (lenOf pd_2 rfl) rfl (by show 2 * 0 + _ ≤ _; exact Nat.le_of_eq rfl) (hb hby at_14) (fun _ _ => ⟨rfl, e16, (by decide : 0 + 0 ≤ _), (by decide : 0 + 0 ≤ _)⟩)
  dsimp only [Pt.U, Pt.locs, Pt.cells, Pt.slots] at X17 l17 y17 z17 st17 hQ17
  subst l17 y17 z17
  obtain ⟨rfl, Nq17, e17⟩ := hQ17
  have N17 := Fr.app N16 Nq17
  obtain ⟨_, _, ⟨T18, L18, k18, n18⟩, -, X18, ⟨Lc18, hQ18, l18, y18, z18⟩, st18⟩ := Jvm.LawKit.callS X17 hx (y := (⟨"com/example/adjudicate/adjudicate/DecisionAsIndeterminatePinLaw", "expected", "(I)Lcom/example/adjudicate/adjudicate/Decision;"⟩ : MethodName)) hown (mvT hZ (hw _ (List.mem_of_getElem? (i := 24) rfl))) (mvT hZ (hw _ (List.mem_of_getElem? (i := 25) rfl))) (mvT hZ (hw _ (List.mem_of_getElem? (i := 3) rfl))) (mvT hZ (hw _ (List.mem_of_getElem? (i := 26) rfl))) (by decide) (backOf (W := 1) (rexp l Z a0 hw [] ((x1 &&& (2147483647 : Int32)) % (6 : Int32)) r h0 n0 Z0 he) hZ (hw _ (List.mem_of_getElem? (i := 26) rfl)) (hw _ (List.mem_of_getElem? (i := 3) rfl)) (by decide) (by decide)) (g := (mkF m 20 #[.val (.int x1), .val (.int ((x1 &&& (2147483647 : Int32)) % (6 : Int32))), .val (.ref d), .val (.ref r)] [(.int ((x1 &&& (2147483647 : Int32)) % (6 : Int32))), (.ref r)])) rfl (by rw [hml]; rfl) (argsL := [(.int ((x1 &&& (2147483647 : Int32)) % (6 : Int32)))]) (rest := [(.ref r)]) (lenOf pd_1 rfl) rfl (by show 2 * 0 + _ ≤ _; exact Nat.le_of_eq rfl) (hb hby at_20) (fun _ _ => ⟨rfl, e17, (by decide : 0 + 0 ≤ _), (by decide : 0 + 0 ≤ _)⟩)
  dsimp only [Pt.U, Pt.locs, Pt.cells, Pt.slots] at X18 l18 y18 z18 st18 hQ18
  subst l18 y18 z18
  obtain ⟨rfl, Nq18, e18⟩ := hQ18
  have N18 := Fr.app N17 Nq18
  obtain ⟨cq19, kq19, q19a, q19b, q19c⟩ := isOf hZ e18 Er
  obtain ⟨_, _, ⟨T19, L19, k19, n19⟩, -, X19, ⟨Lc19, hQ19, l19, y19, z19⟩, st19⟩ := X18.virtualBack hx (y := (⟨"com/example/adjudicate/adjudicate/Decision", "asIndeterminate", "()Lcom/example/adjudicate/adjudicate/Decision;"⟩ : MethodName)) (z := (⟨"com/example/adjudicate/adjudicate/Decision", "asIndeterminate", "()Lcom/example/adjudicate/adjudicate/Decision;"⟩ : MethodName)) hown (mvT hZ (hw _ (List.mem_of_getElem? (i := 8) rfl))) (mvT hZ (hw _ (List.mem_of_getElem? (i := 9) rfl))) (notFace_of_selects (args := #[]) (mvT hZ (hw _ (List.mem_of_getElem? (i := 11) rfl)))) (mvT hZ (hw _ (List.mem_of_getElem? (i := 11) rfl))) (mvT hZ (hw _ (List.mem_of_getElem? (i := 10) rfl))) (by decide) (backOf (W := 0) (ras l Z a0 hw [] r r h0 n0 Z0 Er hr1) hZ (hw _ (List.mem_of_getElem? (i := 12) rfl)) (hw _ (List.mem_of_getElem? (i := 6) rfl)) (by decide) (by decide)) q19a q19c (g := (mkF m 27 #[.val (.int x1), .val (.int ((x1 &&& (2147483647 : Int32)) % (6 : Int32))), .val (.ref d), .val (.ref r)] [(.ref r)])) rfl (by rw [hml]; rfl) (Steps.refl _) (argsL := []) (rest := []) (lenOf pd_2 rfl) rfl (by show 2 * 0 + _ ≤ _; exact Nat.le_of_eq rfl) (hb hby at_27) (fun _ _ => ⟨rfl, e18, (by decide : 0 + 0 ≤ _), (by decide : 0 + 0 ≤ _)⟩)
  dsimp only [Pt.U, Pt.locs, Pt.cells, Pt.slots] at X19 l19 y19 z19 st19 hQ19
  subst l19 y19 z19
  obtain ⟨rfl, Nq19, e19⟩ := hQ19
  have N19 := Fr.app N18 Nq19
  obtain ⟨fs, hr, hrun, hended, hW, hsame⟩ := X19.leave (v := some (.int (1 : Int32))) (fun h => by rw [Bd.returns] at h; cases h)
  refine ⟨_, _, pre0 _ ?_, hrun, hended, _, _, rfl, ?_, ⟨_, rfl⟩, hW, hsame.mono (by decide) (by decide)⟩
  · show Steps p.tables e below (s₁.setTop (mkF m 0 #[.val (.int x1), .unset, .unset, .unset] [])) _
    refine XS.iloadN X0.here hx rfl (hb hby at_0) rfl ?_
    show Steps p.tables e below (s₁.setTop (mkF m 1 #[.val (.int x1), .unset, .unset, .unset] [(.int x1)])) _
    refine X0.ldcInt hx hown (mvT hZ (hw _ (List.mem_of_getElem? (i := 0) rfl))) (g := (mkF m 1 #[.val (.int x1), .unset, .unset, .unset] [(.int x1)])) rfl (hb hby at_1) _ ?_
    show Steps p.tables e below (s₁.setTop (mkF m 3 #[.val (.int x1), .unset, .unset, .unset] [(.int (2147483647 : Int32)), (.int x1)])) _
    refine XS.iand X0.here hx rfl (hb hby at_3) rfl ?_
    show Steps p.tables e below (s₁.setTop (mkF m 4 #[.val (.int x1), .unset, .unset, .unset] [(.int (x1 &&& (2147483647 : Int32)))])) _
    refine XS.bipush X0.here hx rfl (hb hby at_4) ?_
    show Steps p.tables e below (s₁.setTop (mkF m 6 #[.val (.int x1), .unset, .unset, .unset] [(.int (6 : Int32)), (.int (x1 &&& (2147483647 : Int32)))])) _
    refine iremM X0 hx rfl (hb hby at_6) rfl (by decide) ?_
    show Steps p.tables e below (s₁.setTop (mkF m 7 #[.val (.int x1), .unset, .unset, .unset] [(.int ((x1 &&& (2147483647 : Int32)) % (6 : Int32)))])) _
    refine XS.istoreN X0.here hx rfl (hb hby at_7) rfl (l' := #[.val (.int x1), .val (.int ((x1 &&& (2147483647 : Int32)) % (6 : Int32))), .unset, .unset]) rfl ?_
    show Steps p.tables e below (s₁.setTop (mkF m 8 #[.val (.int x1), .val (.int ((x1 &&& (2147483647 : Int32)) % (6 : Int32))), .unset, .unset] [])) _
    refine XS.iloadN X0.here hx rfl (hb hby at_8) rfl ?_
    show Steps p.tables e below (s₁.setTop (mkF m 9 #[.val (.int x1), .val (.int ((x1 &&& (2147483647 : Int32)) % (6 : Int32))), .unset, .unset] [(.int ((x1 &&& (2147483647 : Int32)) % (6 : Int32)))])) _
    refine st16 _ ?_
    show Steps p.tables e below (T16.setTop (mkF m 12 #[.val (.int x1), .val (.int ((x1 &&& (2147483647 : Int32)) % (6 : Int32))), .unset, .unset] [(.ref d)])) _
    refine XS.astoreN X16.here hx rfl (hb hby at_12) rfl rfl (l' := #[.val (.int x1), .val (.int ((x1 &&& (2147483647 : Int32)) % (6 : Int32))), .val (.ref d), .unset]) rfl ?_
    show Steps p.tables e below (T16.setTop (mkF m 13 #[.val (.int x1), .val (.int ((x1 &&& (2147483647 : Int32)) % (6 : Int32))), .val (.ref d), .unset] [])) _
    refine XS.aloadN X16.here hx rfl (hb hby at_13) rfl rfl ?_
    show Steps p.tables e below (T16.setTop (mkF m 14 #[.val (.int x1), .val (.int ((x1 &&& (2147483647 : Int32)) % (6 : Int32))), .val (.ref d), .unset] [(.ref d)])) _
    refine st17.trans ?_
    show Steps p.tables e below (T17.setTop (mkF m 17 #[.val (.int x1), .val (.int ((x1 &&& (2147483647 : Int32)) % (6 : Int32))), .val (.ref d), .unset] [(.ref r)])) _
    refine XS.astoreN X17.here hx rfl (hb hby at_17) rfl rfl (l' := #[.val (.int x1), .val (.int ((x1 &&& (2147483647 : Int32)) % (6 : Int32))), .val (.ref d), .val (.ref r)]) rfl ?_
    show Steps p.tables e below (T17.setTop (mkF m 18 #[.val (.int x1), .val (.int ((x1 &&& (2147483647 : Int32)) % (6 : Int32))), .val (.ref d), .val (.ref r)] [])) _
    refine XS.aloadN X17.here hx rfl (hb hby at_18) rfl rfl ?_
    show Steps p.tables e below (T17.setTop (mkF m 19 #[.val (.int x1), .val (.int ((x1 &&& (2147483647 : Int32)) % (6 : Int32))), .val (.ref d), .val (.ref r)] [(.ref r)])) _
    refine XS.iloadN X17.here hx rfl (hb hby at_19) rfl ?_
    show Steps p.tables e below (T17.setTop (mkF m 20 #[.val (.int x1), .val (.int ((x1 &&& (2147483647 : Int32)) % (6 : Int32))), .val (.ref d), .val (.ref r)] [(.int ((x1 &&& (2147483647 : Int32)) % (6 : Int32))), (.ref r)])) _
    refine st18 _ ?_
    show Steps p.tables e below (T18.setTop (mkF m 23 #[.val (.int x1), .val (.int ((x1 &&& (2147483647 : Int32)) % (6 : Int32))), .val (.ref d), .val (.ref r)] [(.ref r), (.ref r)])) _
    refine Jvm.RoadKit.acmp (g := (mkF m 23 #[.val (.int x1), .val (.int ((x1 &&& (2147483647 : Int32)) % (6 : Int32))), .val (.ref d), .val (.ref r)] [(.ref r), (.ref r)])) X18 hx rfl rfl rfl (pc0 := 23) (pc' := 26) (same := true) rfl (hb hby at_23) rfl (decide_eq_true (congrArg Value.ref rfl)) (by decide) (by decide) ?_
    show Steps p.tables e below (T18.setTop (mkF m 26 #[.val (.int x1), .val (.int ((x1 &&& (2147483647 : Int32)) % (6 : Int32))), .val (.ref d), .val (.ref r)] [])) _
    refine XS.aloadN X18.here hx rfl (hb hby at_26) rfl rfl ?_
    show Steps p.tables e below (T18.setTop (mkF m 27 #[.val (.int x1), .val (.int ((x1 &&& (2147483647 : Int32)) % (6 : Int32))), .val (.ref d), .val (.ref r)] [(.ref r)])) _
    refine st19.trans ?_
    show Steps p.tables e below (T19.setTop (mkF m 30 #[.val (.int x1), .val (.int ((x1 &&& (2147483647 : Int32)) % (6 : Int32))), .val (.ref d), .val (.ref r)] [(.ref r)])) _
    refine XS.aloadN X19.here hx rfl (hb hby at_30) rfl rfl ?_
    show Steps p.tables e below (T19.setTop (mkF m 31 #[.val (.int x1), .val (.int ((x1 &&& (2147483647 : Int32)) % (6 : Int32))), .val (.ref d), .val (.ref r)] [(.ref r), (.ref r)])) _
    refine Jvm.RoadKit.acmp (g := (mkF m 31 #[.val (.int x1), .val (.int ((x1 &&& (2147483647 : Int32)) % (6 : Int32))), .val (.ref d), .val (.ref r)] [(.ref r), (.ref r)])) X19 hx rfl rfl rfl (pc0 := 31) (pc' := 34) (same := true) rfl (hb hby at_31) rfl (decide_eq_true (congrArg Value.ref rfl)) (by decide) (by decide) ?_
    show Steps p.tables e below (T19.setTop (mkF m 34 #[.val (.int x1), .val (.int ((x1 &&& (2147483647 : Int32)) % (6 : Int32))), .val (.ref d), .val (.ref r)] [])) _
    refine XS.iconst X19.here hx rfl (hb hby at_34) ?_
    show Steps p.tables e below (T19.setTop (mkF m 35 #[.val (.int x1), .val (.int ((x1 &&& (2147483647 : Int32)) % (6 : Int32))), .val (.ref d), .val (.ref r)] [(.int (1 : Int32))])) _
    refine XS.goto X19.here hx rfl (pc0 := 35) (pc' := 39) rfl (hb hby at_35) (by decide) (by decide) ?_
    show Steps p.tables e below (T19.setTop (mkF m 39 #[.val (.int x1), .val (.int ((x1 &&& (2147483647 : Int32)) % (6 : Int32))), .val (.ref d), .val (.ref r)] [(.int (1 : Int32))])) _
    exact retN X19 hx (t := .boolean) Bd.returns (by simp) (hb hby at_39) hr
  · show QL n0 _ T19.heap _
    rw [e19]
    exact ⟨rfl, N19⟩
theorem kcases (x1 : Int32) : ((x1 &&& (2147483647 : Int32)) % (6 : Int32)) = 0 ∨ ((x1 &&& (2147483647 : Int32)) % (6 : Int32)) = 1 ∨ ((x1 &&& (2147483647 : Int32)) % (6 : Int32)) = 2 ∨ ((x1 &&& (2147483647 : Int32)) % (6 : Int32)) = 3 ∨ ((x1 &&& (2147483647 : Int32)) % (6 : Int32)) = 4 ∨ ((x1 &&& (2147483647 : Int32)) % (6 : Int32)) = 5 := by
  have h1 := c_and x1 2147483647 (by decide)
  have h2 := (c_iremV (x1 &&& (2147483647 : Int32)) 6).1 h1.1 (by decide)
  have h3 : (6 : Int32).toInt = 6 := by decide
  generalize (x1 &&& (2147483647 : Int32)) % (6 : Int32) = k at *
  rw [h3] at h2
  have h4 : k.toInt = 0 ∨ k.toInt = 1 ∨ k.toInt = 2 ∨ k.toInt = 3 ∨ k.toInt = 4 ∨ k.toInt = 5 := by omega
  simp only [← Int32.toInt_inj]
  exact h4
theorem rm0 (l : Launch) (Z : State) (a0 : Array Value) (hw : ∀ d ∈ tables_1, d.before a0 Z = true) (ws : List Jvm.Cond) (x1 : Int32) (a_PERMIT a_DENY a_NOT_APPLICABLE a_INDETERMINATE_D a_INDETERMINATE_P a_INDETERMINATE_DP : Addr) (h0 : Heap) (n0 : Nat) (Z0 : n0 ≤ h0.size) (E_PERMIT : Exa Z h0 a_PERMIT "com/example/adjudicate/adjudicate/Decision") (S_PERMIT : Sta Z h0 "com/example/adjudicate/adjudicate/Decision" "PERMIT" "Lcom/example/adjudicate/adjudicate/Decision;" (.ref a_PERMIT)) (O_PERMIT : Fld Z h0 a_PERMIT "java/lang/Enum" "ordinal" "I" (.int (0 : Int32))) (E_DENY : Exa Z h0 a_DENY "com/example/adjudicate/adjudicate/Decision") (S_DENY : Sta Z h0 "com/example/adjudicate/adjudicate/Decision" "DENY" "Lcom/example/adjudicate/adjudicate/Decision;" (.ref a_DENY)) (O_DENY : Fld Z h0 a_DENY "java/lang/Enum" "ordinal" "I" (.int (1 : Int32))) (E_NOT_APPLICABLE : Exa Z h0 a_NOT_APPLICABLE "com/example/adjudicate/adjudicate/Decision") (S_NOT_APPLICABLE : Sta Z h0 "com/example/adjudicate/adjudicate/Decision" "NOT_APPLICABLE" "Lcom/example/adjudicate/adjudicate/Decision;" (.ref a_NOT_APPLICABLE)) (O_NOT_APPLICABLE : Fld Z h0 a_NOT_APPLICABLE "java/lang/Enum" "ordinal" "I" (.int (2 : Int32))) (E_INDETERMINATE_D : Exa Z h0 a_INDETERMINATE_D "com/example/adjudicate/adjudicate/Decision") (S_INDETERMINATE_D : Sta Z h0 "com/example/adjudicate/adjudicate/Decision" "INDETERMINATE_D" "Lcom/example/adjudicate/adjudicate/Decision;" (.ref a_INDETERMINATE_D)) (O_INDETERMINATE_D : Fld Z h0 a_INDETERMINATE_D "java/lang/Enum" "ordinal" "I" (.int (3 : Int32))) (E_INDETERMINATE_P : Exa Z h0 a_INDETERMINATE_P "com/example/adjudicate/adjudicate/Decision") (S_INDETERMINATE_P : Sta Z h0 "com/example/adjudicate/adjudicate/Decision" "INDETERMINATE_P" "Lcom/example/adjudicate/adjudicate/Decision;" (.ref a_INDETERMINATE_P)) (O_INDETERMINATE_P : Fld Z h0 a_INDETERMINATE_P "java/lang/Enum" "ordinal" "I" (.int (4 : Int32))) (E_INDETERMINATE_DP : Exa Z h0 a_INDETERMINATE_DP "com/example/adjudicate/adjudicate/Decision") (S_INDETERMINATE_DP : Sta Z h0 "com/example/adjudicate/adjudicate/Decision" "INDETERMINATE_DP" "Lcom/example/adjudicate/adjudicate/Decision;" (.ref a_INDETERMINATE_DP)) (O_INDETERMINATE_DP : Fld Z h0 a_INDETERMINATE_DP "java/lang/Enum" "ordinal" "I" (.int (5 : Int32))) :
    MetFree l x (head1 (Jvm.Cond.code x code maxLocals ret :: ws) room_1) (fun zA zU => zA = #[(.int x1)] ∧ Z.Warmed39 zU.vm ∧ zU.heap = h0) (fun _ _ _ _ _ => True) (fun _ zU zO zW => ∃ zV zL, zO = .returned zV ∧ QL n0 zV zW.heap zL ∧ FrameEnd zU zO zW zL room_1.cells room_1.slots) := by
  rcases kcases x1 with hk | hk | hk | hk | hk | hk
  · exact rm0a l Z a0 hw ws x1 a_PERMIT a_INDETERMINATE_P h0 n0 Z0 (Or.inl ⟨hk, S_PERMIT⟩) E_PERMIT (Or.inl ⟨O_PERMIT, S_INDETERMINATE_P⟩) E_INDETERMINATE_P (Or.inl ⟨hk, S_INDETERMINATE_P⟩) (Or.inr (Or.inr ⟨_, O_INDETERMINATE_P, by decide, rfl⟩))
  · exact rm0a l Z a0 hw ws x1 a_DENY a_INDETERMINATE_D h0 n0 Z0 (Or.inr (Or.inl ⟨hk, S_DENY⟩)) E_DENY (Or.inr (Or.inl ⟨O_DENY, S_INDETERMINATE_D⟩)) E_INDETERMINATE_D (Or.inr (Or.inl ⟨hk, S_INDETERMINATE_D⟩)) (Or.inr (Or.inr ⟨_, O_INDETERMINATE_D, by decide, rfl⟩))
  · exact rm0a l Z a0 hw ws x1 a_NOT_APPLICABLE a_NOT_APPLICABLE h0 n0 Z0 (Or.inr (Or.inr (Or.inl ⟨hk, S_NOT_APPLICABLE⟩))) E_NOT_APPLICABLE (Or.inr (Or.inr ⟨_, O_NOT_APPLICABLE, by decide, rfl⟩)) E_NOT_APPLICABLE (Or.inr (Or.inr ⟨by rw [hk]; decide, by rw [hk]; decide, (Or.inr (Or.inr (Or.inl ⟨hk, S_NOT_APPLICABLE⟩)))⟩)) (Or.inr (Or.inr ⟨_, O_NOT_APPLICABLE, by decide, rfl⟩))
  · exact rm0a l Z a0 hw ws x1 a_INDETERMINATE_D a_INDETERMINATE_D h0 n0 Z0 (Or.inr (Or.inr (Or.inr (Or.inl ⟨hk, S_INDETERMINATE_D⟩)))) E_INDETERMINATE_D (Or.inr (Or.inr ⟨_, O_INDETERMINATE_D, by decide, rfl⟩)) E_INDETERMINATE_D (Or.inr (Or.inr ⟨by rw [hk]; decide, by rw [hk]; decide, (Or.inr (Or.inr (Or.inr (Or.inl ⟨hk, S_INDETERMINATE_D⟩))))⟩)) (Or.inr (Or.inr ⟨_, O_INDETERMINATE_D, by decide, rfl⟩))
  · exact rm0a l Z a0 hw ws x1 a_INDETERMINATE_P a_INDETERMINATE_P h0 n0 Z0 (Or.inr (Or.inr (Or.inr (Or.inr (Or.inl ⟨hk, S_INDETERMINATE_P⟩))))) E_INDETERMINATE_P (Or.inr (Or.inr ⟨_, O_INDETERMINATE_P, by decide, rfl⟩)) E_INDETERMINATE_P (Or.inr (Or.inr ⟨by rw [hk]; decide, by rw [hk]; decide, (Or.inr (Or.inr (Or.inr (Or.inr (Or.inl ⟨hk, S_INDETERMINATE_P⟩)))))⟩)) (Or.inr (Or.inr ⟨_, O_INDETERMINATE_P, by decide, rfl⟩))
  · exact rm0a l Z a0 hw ws x1 a_INDETERMINATE_DP a_INDETERMINATE_DP h0 n0 Z0 (Or.inr (Or.inr (Or.inr (Or.inr (Or.inr (⟨hk, S_INDETERMINATE_DP⟩)))))) E_INDETERMINATE_DP (Or.inr (Or.inr ⟨_, O_INDETERMINATE_DP, by decide, rfl⟩)) E_INDETERMINATE_DP (Or.inr (Or.inr ⟨by rw [hk]; decide, by rw [hk]; decide, (Or.inr (Or.inr (Or.inr (Or.inr (Or.inr (⟨hk, S_INDETERMINATE_DP⟩))))))⟩)) (Or.inr (Or.inr ⟨_, O_INDETERMINATE_DP, by decide, rfl⟩))
set_option maxRecDepth 65536 in
set_option maxHeartbeats 40000000 in
theorem comes_1 {Post : Tables → Env → Array Value → State → Outcome → State → Prop} (hpost : ∀ tb e args s v u, (limb_1_1.after args s (.returned v) u = true ∧ limb_1_2.after args s (.returned v) u = true ∧ True) → FrameEnd s (.returned v) u (Jvm.fieldLocs frame_1_writes args s ++ Jvm.arrayLocs frame_1_arrays args s ++ Jvm.staticLocs frame_1_statics s) 0 0 → Post tb e args s (.returned v) u) :
    ArmFor flags0 classFile x code maxLocals ret World_1 tables_1 room_1 Calls_1 rest_1 Pre_1 Post := by
  intro l hfl _ _ p e ha hc hk s m args below hf hA hF happ hP
  obtain ⟨hcalls, hrest, hpre⟩ := hP
  obtain ⟨-, -, -, hnamed, -, -, -, hat⟩ := (Spec.applies_iff hf).mp happ
  obtain ⟨hg, hn⟩ := and_e (Cond.before_iff.mp (show (Jvm.Cond.and given_1 narrow_1).before args s = true from hpre))
  obtain ⟨gc, hg⟩ := and_e hg
  have ga0 := hg
  obtain ⟨w0, rfl⟩ : ∃ w0 : Value, args = #[w0] := by
    have hs : args.size = 1 := by simpa [Cond.value, given_1] using gc
    obtain ⟨L⟩ := args
    match L, hs with
    | [w0], _ => exact ⟨w0, rfl⟩
  have hw := fun d (hd : d ∈ tables_1) => atoms_spec (ws := Jvm.Cond.code x code maxLocals ret :: tables_1) hat d (List.mem_cons_of_mem _ hd)
  have hfit : Fit s := fun {y c} hc i hi => by
    obtain ⟨ha, rfl⟩ := Array.getElem?_eq_some_iff.mp hc
    have q := List.all_eq_true.mp ((Array.all_eq_true_iff_forall_mem.mp hF) _ (Array.getElem_mem ha)) i (List.mem_range.mpr hi)
    simpa [Array.getElem?_eq_getElem hi] using q
  obtain ⟨i0, ei0⟩ := is_v ga0
  obtain rfl : w0 = (.int i0) := Option.some.inj ei0
  obtain ⟨n0, hn⟩ := and_e hn
  obtain ⟨n1, hn⟩ := and_e hn
  obtain ⟨n2, hn⟩ := and_e hn
  obtain ⟨n3, hn⟩ := and_e hn
  obtain ⟨n4, hn⟩ := and_e hn
  obtain ⟨n5, hn⟩ := and_e hn
  obtain ⟨n6, hn⟩ := and_e hn
  obtain ⟨n7, hn⟩ := and_e hn
  obtain ⟨n8, hn⟩ := and_e hn
  obtain ⟨n9, hn⟩ := and_e hn
  obtain ⟨n10, hn⟩ := and_e hn
  have n11 := hn
  obtain ⟨a_PERMIT, ev_PERMIT⟩ := exa_v n0
  have E_PERMIT := Exa.start ev_PERMIT n0
  have S_PERMIT := Sta.start ev_PERMIT (Or.inr ⟨(hw _ (List.mem_of_getElem? (i := 6) rfl)), (hw _ (List.mem_of_getElem? (i := 7) rfl))⟩)
  obtain ⟨a_INDETERMINATE_P, ev_INDETERMINATE_P⟩ := exa_v n2
  have E_INDETERMINATE_P := Exa.start ev_INDETERMINATE_P n2
  have S_INDETERMINATE_P := Sta.start ev_INDETERMINATE_P (Or.inr ⟨(hw _ (List.mem_of_getElem? (i := 6) rfl)), (hw _ (List.mem_of_getElem? (i := 23) rfl))⟩)
  obtain ⟨a_INDETERMINATE_D, ev_INDETERMINATE_D⟩ := exa_v n4
  have E_INDETERMINATE_D := Exa.start ev_INDETERMINATE_D n4
  have S_INDETERMINATE_D := Sta.start ev_INDETERMINATE_D (Or.inr ⟨(hw _ (List.mem_of_getElem? (i := 6) rfl)), (hw _ (List.mem_of_getElem? (i := 29) rfl))⟩)
  obtain ⟨a_NOT_APPLICABLE, ev_NOT_APPLICABLE⟩ := exa_v n6
  have E_NOT_APPLICABLE := Exa.start ev_NOT_APPLICABLE n6
  have S_NOT_APPLICABLE := Sta.start ev_NOT_APPLICABLE (Or.inr ⟨(hw _ (List.mem_of_getElem? (i := 6) rfl)), (hw _ (List.mem_of_getElem? (i := 31) rfl))⟩)
  obtain ⟨a_DENY, ev_DENY⟩ := exa_v n8
  have E_DENY := Exa.start ev_DENY n8
  have S_DENY := Sta.start ev_DENY (Or.inr ⟨(hw _ (List.mem_of_getElem? (i := 6) rfl)), (hw _ (List.mem_of_getElem? (i := 33) rfl))⟩)
  obtain ⟨a_INDETERMINATE_DP, ev_INDETERMINATE_DP⟩ := exa_v n10
  have E_INDETERMINATE_DP := Exa.start ev_INDETERMINATE_DP n10
  have S_INDETERMINATE_DP := Sta.start ev_INDETERMINATE_DP (Or.inr ⟨(hw _ (List.mem_of_getElem? (i := 6) rfl)), (hw _ (List.mem_of_getElem? (i := 36) rfl))⟩)
  have O_PERMIT : Fld s s.heap a_PERMIT "java/lang/Enum" "ordinal" "I" (.int (0 : Int32)) := Fld.start (fld_int ev_PERMIT n1)
  have O_INDETERMINATE_P : Fld s s.heap a_INDETERMINATE_P "java/lang/Enum" "ordinal" "I" (.int (4 : Int32)) := Fld.start (fld_int ev_INDETERMINATE_P n3)
  have O_INDETERMINATE_D : Fld s s.heap a_INDETERMINATE_D "java/lang/Enum" "ordinal" "I" (.int (3 : Int32)) := Fld.start (fld_int ev_INDETERMINATE_D n5)
  have O_NOT_APPLICABLE : Fld s s.heap a_NOT_APPLICABLE "java/lang/Enum" "ordinal" "I" (.int (2 : Int32)) := Fld.start (fld_int ev_NOT_APPLICABLE n7)
  have O_DENY : Fld s s.heap a_DENY "java/lang/Enum" "ordinal" "I" (.int (1 : Int32)) := Fld.start (fld_int ev_DENY n9)
  have O_INDETERMINATE_DP : Fld s s.heap a_INDETERMINATE_DP "java/lang/Enum" "ordinal" "I" (.int (5 : Int32)) := Fld.start (fld_int ev_INDETERMINATE_DP n11)
  obtain ⟨n, o, h1, h2, h3, _, L, rfl, ⟨rfl, N⟩, hq⟩ := rm0 l s _ hw tables_1 i0 a_PERMIT a_DENY a_NOT_APPLICABLE a_INDETERMINATE_D a_INDETERMINATE_P a_INDETERMINATE_DP s.heap s.heap.size (Nat.le_refl _) E_PERMIT S_PERMIT O_PERMIT E_DENY S_DENY O_DENY E_NOT_APPLICABLE S_NOT_APPLICABLE O_NOT_APPLICABLE E_INDETERMINATE_D S_INDETERMINATE_D O_INDETERMINATE_D E_INDETERMINATE_P S_INDETERMINATE_P O_INDETERMINATE_P E_INDETERMINATE_DP S_INDETERMINATE_DP O_INDETERMINATE_DP p e ha hc hk s m _ below hf ((Spec.applies_iff_loose hf).mp happ).1 ⟨rfl, State.Warmed39.refl s, rfl⟩ trivial
  refine ⟨n, _, h1, h2, h3, hpost _ _ _ _ _ _ ⟨Cond.after_iff.mpr rfl, Cond.after_iff.mpr (eq_i res_at (Term.int_eval (1)) rfl), trivial⟩ ⟨hq.1, hq.2.1, (hq.2.2.sift fun y hy => Or.inr (N y hy)).mono (by decide) (by decide)⟩⟩
theorem main_1_1 : Claimed_1_1 := comes_1 fun _ _ _ _ _ _ h hF => ⟨h.1, hF⟩
theorem main_1_2 : Claimed_1_2 := comes_1 fun _ _ _ _ _ _ h hF => ⟨h.2.1, hF⟩
end Jvm.Pilot.@@N@@
namespace Jvm.Pilot.@@N@@
open Jvm Jvm.ClassFile Sem Op Lib Jvm.Free Jvm.Stand Jvm.Pilot.@@N@@.Jvm.D
/-! MADE BY PROGRAM (witnessworld.py) out of the Statement's table words and the real class files: 12 classes; the members and pool entries that the words name. The judged class is class 1, her method 3. -/
namespace start1
open Jvm.ClassFile
def u (s : String) : CpInfo := .utf8 (stringToUtf16 s)
/-- a pool by its gaps: so many unusable entries, then the entry; so many at the end -/
def gap : Nat → List CpInfo → List CpInfo
  | 0, r => r
  | n + 1, r => .unusable :: gap n r
def poolList (es : List (Nat × CpInfo)) (last : Nat) : List CpInfo := es.foldr (fun e r => gap e.1 (e.2 :: r)) (gap last [])
def pool (es : List (Nat × CpInfo)) (last : Nat) : Array CpInfo := ⟨poolList es last⟩
def fileOf (pool : Array CpInfo) (this : Nat) (attrs : Array Attribute := #[]) (ms : Array MethodInfo := #[]) (fl : Nat := 33) (sup : Nat := 0) (ifs : Array Nat := #[]) (fds : Array FieldInfo := #[]) : ClassFile where
  minorVersion := 0
  majorVersion := 65
  constantPool := pool
  accessFlags := fl
  thisClass := this
  superClass := sup
  interfaces := ifs
  fields := fds
  methods := ms
  attributes := attrs
def plain (name : String) (sup : Option ClassId) : Class where
  name := name
  kind := .ordinary
  loader := none
  accessFlags := 33
  super := sup
  interfaces := #[]
  cf := none
  fields := #[]
  methods := #[]
  instanceTypes := #[]
  staticTypes := #[]
  resolved := #[]
  callSites := []
  init := .initialized
  statics := none
  mirror := none

def pool0 : Array CpInfo := pool [(5, u "<init>"), (0, u "()V"), (1, .class_ 10), (1, u "java/lang/Object")] 113

def k0m0 : Method := { name := "<init>", desc := "()V", sig := { parameters := [], returnType := none }, accessFlags := 1, code := none }
/-- java/lang/Object -/
def k0 : Class := { plain "java/lang/Object" none with
  accessFlags := 33
  interfaces := #[]
  cf := some (fileOf pool0 8 #[] #[{ accessFlags := 1, nameIndex := 5, descriptorIndex := 6, attributes := #[] }] 33 0 #[] #[])
  fields := #[]
  methods := #[k0m0]
  instanceTypes := #[]
  staticTypes := #[]
  resolved := Array.replicate 124 none
  statics := none }

def pool1 : Array CpInfo := pool [(2, .class_ 4), (1, u "java/lang/Object"), (0, u "<init>"), (0, u "()V"), (0, .fieldref 8 9), (0, .class_ 10), (0, .nameAndType 11 12), (0, u "com/example/adjudicate/adjudicate/Decision"), (0, u "PERMIT"), (0, u "Lcom/example/adjudicate/adjudicate/Decision;"), (0, .fieldref 8 14), (0, .nameAndType 15 12), (0, u "DENY"), (0, .fieldref 8 17), (0, .nameAndType 18 12), (0, u "NOT_APPLICABLE"), (0, .fieldref 8 20), (0, .nameAndType 21 12), (0, u "INDETERMINATE_D"), (0, .fieldref 8 23), (0, .nameAndType 24 12), (0, u "INDETERMINATE_P"), (0, .fieldref 8 26), (0, .nameAndType 27 12), (0, u "INDETERMINATE_DP"), (0, .methodref 29 30), (0, .class_ 31), (0, .nameAndType 32 33), (0, u "com/example/adjudicate/adjudicate/DecisionAsIndeterminatePinLaw"), (0, u "pick"), (0, u "(I)Lcom/example/adjudicate/adjudicate/Decision;"), (0, .integer 2147483647), (0, .methodref 8 36), (0, .nameAndType 37 38), (0, u "asIndeterminate"), (0, u "()Lcom/example/adjudicate/adjudicate/Decision;"), (0, .methodref 29 40), (0, .nameAndType 41 33), (0, u "expected"), (3, u "law"), (0, u "(I)Z")] 2

def k1m0 : Method := { name := "<init>", desc := "()V", sig := { parameters := [], returnType := none }, accessFlags := 1, code := none }
def k1c1 : Code := { maxStack := 2, maxLocals := 1, code := method_2_code, exceptionTable := #[], attributes := #[] }
def k1m1 : Method := { name := "pick", desc := "(I)Lcom/example/adjudicate/adjudicate/Decision;", sig := { parameters := [.int], returnType := some (.object "com/example/adjudicate/adjudicate/Decision") }, accessFlags := 10, code := some k1c1 }
def k1c2 : Code := { maxStack := 2, maxLocals := 1, code := method_3_code, exceptionTable := #[], attributes := #[] }
def k1m2 : Method := { name := "expected", desc := "(I)Lcom/example/adjudicate/adjudicate/Decision;", sig := { parameters := [.int], returnType := some (.object "com/example/adjudicate/adjudicate/Decision") }, accessFlags := 10, code := some k1c2 }
def k1c3 : Code := { maxStack := 2, maxLocals := 4, code := code, exceptionTable := #[], attributes := #[] }
def k1m3 : Method := { name := "law", desc := "(I)Z", sig := { parameters := [.int], returnType := some .boolean }, accessFlags := 9, code := some k1c3 }
/-- com/example/adjudicate/adjudicate/DecisionAsIndeterminatePinLaw -/
def k1 : Class := { plain "com/example/adjudicate/adjudicate/DecisionAsIndeterminatePinLaw" (some 0) with
  accessFlags := 49
  interfaces := #[]
  cf := some (fileOf pool1 29 #[] #[{ accessFlags := 1, nameIndex := 5, descriptorIndex := 6, attributes := #[] }, { accessFlags := 10, nameIndex := 32, descriptorIndex := 33, attributes := #[] }, { accessFlags := 10, nameIndex := 41, descriptorIndex := 33, attributes := #[] }, { accessFlags := 9, nameIndex := 45, descriptorIndex := 46, attributes := #[] }] 49 2 #[] #[])
  fields := #[]
  methods := #[k1m0, k1m1, k1m2, k1m3]
  instanceTypes := #[]
  staticTypes := #[]
  resolved := Array.replicate 49 none
  statics := none }

def pool2 : Array CpInfo := pool [(1, .class_ 2), (0, u "java/lang/constant/Constable"), (0, .class_ 4), (0, u "java/lang/Object")] 6

/-- java/lang/constant/Constable -/
def k2 : Class := { plain "java/lang/constant/Constable" (some 0) with
  accessFlags := 1537
  interfaces := #[]
  cf := some (fileOf pool2 1 #[] #[] 1537 3 #[] #[])
  fields := #[]
  methods := #[]
  instanceTypes := #[]
  staticTypes := #[]
  resolved := Array.replicate 11 none
  statics := none }

def pool3 : Array CpInfo := pool [(1, .class_ 2), (0, u "java/lang/Comparable"), (0, .class_ 4), (0, u "java/lang/Object")] 7

/-- java/lang/Comparable -/
def k3 : Class := { plain "java/lang/Comparable" (some 0) with
  accessFlags := 1537
  interfaces := #[]
  cf := some (fileOf pool3 1 #[] #[] 1537 3 #[] #[])
  fields := #[]
  methods := #[]
  instanceTypes := #[]
  staticTypes := #[]
  resolved := Array.replicate 12 none
  statics := none }

def pool4 : Array CpInfo := pool [(1, .class_ 2), (0, u "java/io/Serializable"), (0, .class_ 4), (0, u "java/lang/Object")] 2

/-- java/io/Serializable -/
def k4 : Class := { plain "java/io/Serializable" (some 0) with
  accessFlags := 1537
  interfaces := #[]
  cf := some (fileOf pool4 1 #[] #[] 1537 3 #[] #[])
  fields := #[]
  methods := #[]
  instanceTypes := #[]
  staticTypes := #[]
  resolved := Array.replicate 7 none
  statics := none }

def pool5 : Array CpInfo := pool [(2, .class_ 4), (1, u "java/lang/Enum"), (0, u "name"), (0, u "Ljava/lang/String;"), (0, .fieldref 2 8), (0, .nameAndType 9 10), (0, u "ordinal"), (0, u "I"), (1, .class_ 14), (1, u "java/lang/Object"), (4, u "hash"), (86, .class_ 108), (1, u "java/lang/Enum$EnumDesc"), (2, .class_ 112), (0, u "java/lang/constant/Constable"), (0, .class_ 114), (0, u "java/lang/Comparable"), (0, .class_ 116), (0, u "java/io/Serializable"), (9, u "()I")] 77

def k5c0 : Code := { maxStack := 1, maxLocals := 1, code := jdk_37_method_2_code, exceptionTable := #[], attributes := #[] }
def k5m0 : Method := { name := "ordinal", desc := "()I", sig := { parameters := [], returnType := some .int }, accessFlags := 17, code := some k5c0 }
/-- java/lang/Enum -/
def k5 : Class := { plain "java/lang/Enum" (some 0) with
  accessFlags := 1057
  interfaces := #[2, 3, 4]
  cf := some (fileOf pool5 2 #[.nestMembers #[106]] #[{ accessFlags := 17, nameIndex := 9, descriptorIndex := 126, attributes := #[] }] 1057 12 #[111, 113, 115] #[{ accessFlags := 18, nameIndex := 5, descriptorIndex := 6, attributes := #[] }, { accessFlags := 18, nameIndex := 9, descriptorIndex := 10, attributes := #[] }, { accessFlags := 2, nameIndex := 19, descriptorIndex := 10, attributes := #[] }])
  fields := #[{ name := "name", type := (.object "java/lang/String"), accessFlags := 18, slot := 0, constantValue := 0 }, { name := "ordinal", type := .int, accessFlags := 18, slot := 1, constantValue := 0 }, { name := "hash", type := .int, accessFlags := 2, slot := 2, constantValue := 0 }]
  methods := #[k5m0]
  instanceTypes := #[(.object "java/lang/String"), .int, .int]
  staticTypes := #[]
  resolved := Array.replicate 204 none
  statics := none }

def pool6 : Array CpInfo := pool [(1, .class_ 2), (0, u "com/example/adjudicate/adjudicate/Decision"), (2, u "PERMIT"), (0, u "Lcom/example/adjudicate/adjudicate/Decision;"), (2, u "DENY"), (2, u "NOT_APPLICABLE"), (0, .fieldref 1 14), (0, .nameAndType 15 6), (0, u "INDETERMINATE_D"), (0, .fieldref 1 17), (0, .nameAndType 18 6), (0, u "INDETERMINATE_P"), (2, u "INDETERMINATE_DP"), (2, u "$VALUES"), (0, u "[Lcom/example/adjudicate/adjudicate/Decision;"), (6, .class_ 34), (1, u "java/lang/Enum"), (8, u "responseName"), (0, u "Ljava/lang/String;"), (8, .methodref 1 54), (0, .nameAndType 55 56), (0, u "ordinal"), (0, u "()I"), (19, u "INDETERMINATE"), (11, u "asIndeterminate"), (0, u "()Lcom/example/adjudicate/adjudicate/Decision;")] 6

def k6c0 : Code := { maxStack := 1, maxLocals := 2, code := prog_37_method_6_code, exceptionTable := #[], attributes := #[] }
def k6m0 : Method := { name := "asIndeterminate", desc := "()Lcom/example/adjudicate/adjudicate/Decision;", sig := { parameters := [], returnType := some (.object "com/example/adjudicate/adjudicate/Decision") }, accessFlags := 0, code := some k6c0 }
/-- com/example/adjudicate/adjudicate/Decision -/
def k6 : Class := { plain "com/example/adjudicate/adjudicate/Decision" (some 5) with
  accessFlags := 16433
  interfaces := #[]
  cf := some (fileOf pool6 1 #[] #[{ accessFlags := 0, nameIndex := 88, descriptorIndex := 89, attributes := #[] }] 16433 32 #[] #[{ accessFlags := 16409, nameIndex := 5, descriptorIndex := 6, attributes := #[] }, { accessFlags := 16409, nameIndex := 9, descriptorIndex := 6, attributes := #[] }, { accessFlags := 16409, nameIndex := 12, descriptorIndex := 6, attributes := #[] }, { accessFlags := 16409, nameIndex := 15, descriptorIndex := 6, attributes := #[] }, { accessFlags := 16409, nameIndex := 18, descriptorIndex := 6, attributes := #[] }, { accessFlags := 16409, nameIndex := 21, descriptorIndex := 6, attributes := #[] }, { accessFlags := 26, nameIndex := 76, descriptorIndex := 44, attributes := #[] }, { accessFlags := 18, nameIndex := 43, descriptorIndex := 44, attributes := #[] }, { accessFlags := 4122, nameIndex := 24, descriptorIndex := 25, attributes := #[] }])
  fields := #[{ name := "PERMIT", type := (.object "com/example/adjudicate/adjudicate/Decision"), accessFlags := 16409, slot := 0, constantValue := 0 }, { name := "DENY", type := (.object "com/example/adjudicate/adjudicate/Decision"), accessFlags := 16409, slot := 1, constantValue := 0 }, { name := "NOT_APPLICABLE", type := (.object "com/example/adjudicate/adjudicate/Decision"), accessFlags := 16409, slot := 2, constantValue := 0 }, { name := "INDETERMINATE_D", type := (.object "com/example/adjudicate/adjudicate/Decision"), accessFlags := 16409, slot := 3, constantValue := 0 }, { name := "INDETERMINATE_P", type := (.object "com/example/adjudicate/adjudicate/Decision"), accessFlags := 16409, slot := 4, constantValue := 0 }, { name := "INDETERMINATE_DP", type := (.object "com/example/adjudicate/adjudicate/Decision"), accessFlags := 16409, slot := 5, constantValue := 0 }, { name := "INDETERMINATE", type := (.object "java/lang/String"), accessFlags := 26, slot := 6, constantValue := 0 }, { name := "responseName", type := (.object "java/lang/String"), accessFlags := 18, slot := 3, constantValue := 0 }, { name := "$VALUES", type := (.array (.object "com/example/adjudicate/adjudicate/Decision")), accessFlags := 4122, slot := 7, constantValue := 0 }]
  methods := #[k6m0]
  instanceTypes := #[(.object "java/lang/String"), .int, .int, (.object "java/lang/String")]
  staticTypes := #[(.object "com/example/adjudicate/adjudicate/Decision"), (.object "com/example/adjudicate/adjudicate/Decision"), (.object "com/example/adjudicate/adjudicate/Decision"), (.object "com/example/adjudicate/adjudicate/Decision"), (.object "com/example/adjudicate/adjudicate/Decision"), (.object "com/example/adjudicate/adjudicate/Decision"), (.object "java/lang/String"), (.array (.object "com/example/adjudicate/adjudicate/Decision"))]
  resolved := Array.replicate 96 none
  statics := some 0 }

def pool7 : Array CpInfo := pool [(1, u "java/lang/Cloneable"), (0, .class_ 1), (0, u "java/lang/Object"), (0, .class_ 3)] 3

/-- java/lang/Cloneable -/
def k7 : Class := { plain "java/lang/Cloneable" (some 0) with
  accessFlags := 1537
  interfaces := #[]
  cf := some (fileOf pool7 2 #[] #[] 1537 4 #[] #[])
  fields := #[]
  methods := #[]
  instanceTypes := #[]
  staticTypes := #[]
  resolved := Array.replicate 8 none
  statics := none }

/-- the primitive byte -/
def k8 : Class := { plain "byte" none with kind := .primitive 'B', accessFlags := 0x411 }
/-- [B -/
def k9 : Class := { plain "[B" (some 0) with kind := .array 8 .byte, interfaces := #[7, 4], accessFlags := 1041 }

/-- the primitive int -/
def k10 : Class := { plain "int" none with kind := .primitive 'I', accessFlags := 0x411 }
/-- [I -/
def k11 : Class := { plain "[I" (some 0) with kind := .array 10 .int, interfaces := #[7, 4], accessFlags := 1041 }

def heap : Heap := #[{ cls := 6, slots := #[.ref 1, .ref 2, .ref 3, .ref 4, .ref 5, .ref 6, .null, .null], vm := .statics 6 },
  { cls := 6, slots := #[.null, .int 0, .int 0, .null], vm := .none },
  { cls := 6, slots := #[.null, .int 1, .int 0, .null], vm := .none },
  { cls := 6, slots := #[.null, .int 2, .int 0, .null], vm := .none },
  { cls := 6, slots := #[.null, .int 3, .int 0, .null], vm := .none },
  { cls := 6, slots := #[.null, .int 4, .int 0, .null], vm := .none },
  { cls := 6, slots := #[.null, .int 5, .int 0, .null], vm := .none }]
def classes : Array Class := #[k0, k1, k2, k3, k4, k5, k6, k7, k8, k9, k10, k11]
def interned : List (Array UInt16 × Addr) := []
def slotsUsed : Nat := 32
def theMethod : MethodId := ⟨1, 3⟩
def args0 : Array Value := #[.int 5]
def aboutOver (below : List Frame) : State where
  vm := { classes := classes, interned := interned.toArray }
  heap := heap
  slotsUsed := slotsUsed
  threads := #[{ frames := .invoking theMethod args0 :: below }]
def below0 : List Frame := [.native { method := ⟨0, 0⟩, args := #[] }]
def about1 : State := aboutOver below0
def p0 : Program := .bare "" "" ""
def e0 : Env := launch0.env 0 0 0
theorem w_frames : about1.frames = Frame.invoking theMethod args0 :: below0 := rfl
set_option maxRecDepth 65536 in
theorem w_args : argsFit about1.vm theMethod args0 = true := by decide +kernel
set_option maxRecDepth 65536 in
theorem w_heap : heapFits about1 = true := by decide +kernel
set_option maxRecDepth 65536 in
theorem w_runnable : about1.curStatus? = some .runnable := by decide +kernel
set_option maxRecDepth 65536 in
theorem w_alone : about1.alone = true := by decide +kernel
set_option maxRecDepth 65536 in
theorem w_named : about1.methodNamed? x = some theMethod := by decide +kernel
set_option maxRecDepth 65536 in
theorem w_hears : about1.hears theMethod below0 = true := by decide +kernel
set_option maxRecDepth 65536 in
theorem w_ripe : about1.ripe theMethod args0 below0 = true := by decide +kernel
theorem w_running : about1.status = .running := rfl
set_option maxRecDepth 65536 in
theorem w_room : about1.hasRoom e0.platform room_1 = true :=
  launch0.hasRoom_least _ room_1 (by decide +kernel) (by decide +kernel) (by decide +kernel) (by decide +kernel) (by decide +kernel) (by decide +kernel)
theorem allAtoms_all (ts : List Jvm.Cond) (a : Array Jvm.Value) (st : Jvm.State) : (allAtoms ts).before a st = ts.all (fun c => c.before a st) := by
  induction ts with
  | nil => rfl
  | cons c t ih =>
    show (Jvm.Cond.and c (allAtoms t)).before a st = _
    rw [Jvm.Cond.before_and, ih, List.all_cons]
def words1 : List Jvm.Cond := Jvm.Cond.code x code maxLocals ret :: tables_1
/-- a 'code' word, met by the world's own term for the bytes: nothing is compared byte by byte -/
theorem code_word {y : MethodName} {bytes : ByteArray} {mx : Nat} {rt : Option FieldType} {a : Array Value} {s : State} {m : MethodId} {meth : Method} {c : Code} (h1 : s.methodNamed? y = some m) (h2 : s.vm.method? m = some meth) (h3 : meth.code = some c) (h4 : c.code = bytes)
    (h5 : (c.maxLocals == mx && c.exceptionTable.isEmpty && decide (c.maxStack ≤ mostOperands) && decide (meth.sig.returnType = rt) && !meth.locks && decide (parseMethodDescriptor y.desc = some meth.sig)) = true) : (Jvm.Cond.code y bytes mx rt).before a s = true := by
  simp only [Bool.and_eq_true, beq_iff_eq, Bool.not_eq_true', decide_eq_true_eq] at h5
  obtain ⟨⟨⟨⟨⟨g1, g2⟩, g3⟩, g4⟩, g5⟩, g6⟩ := h5
  simp [Cond.before, Cond.holds, Cond.value, h1, h2, h3, h4, g1, g2, g3, g4, g5, g6]
def isCode : Jvm.Cond → Bool
  | .code _ _ _ _ => true
  | _ => false
theorem all_split {L : List Jvm.Cond} {P : Jvm.Cond → Bool} (h1 : L.all (fun c => isCode c || P c) = true) (h2 : ∀ c ∈ L.filter isCode, P c = true) : L.all P = true := by
  refine List.all_eq_true.mpr fun c hc => ?_
  have h := List.all_eq_true.mp h1 c hc
  rcases Bool.eq_false_or_eq_true (isCode c) with hi | hi
  · exact h2 c (List.mem_filter.mpr ⟨hc, hi⟩)
  · simpa [hi] using h
set_option maxRecDepth 65536 in
theorem w_c0 : (Jvm.Cond.code x code maxLocals ret).before args0 about1 = true := code_word (m := ⟨1, 3⟩) (meth := k1m3) (c := k1c3) (by decide +kernel) rfl rfl rfl (by decide +kernel)
set_option maxRecDepth 65536 in
theorem w_c1 : (Jvm.Cond.code ({ cls := "com/example/adjudicate/adjudicate/DecisionAsIndeterminatePinLaw", name := "pick", desc := "(I)Lcom/example/adjudicate/adjudicate/Decision;" } : Jvm.MethodName) method_2_code (1 : Nat) (Option.some (Jvm.ClassFile.FieldType.object "com/example/adjudicate/adjudicate/Decision"))).before args0 about1 = true := code_word (m := ⟨1, 1⟩) (meth := k1m1) (c := k1c1) (by decide +kernel) rfl rfl rfl (by decide +kernel)
set_option maxRecDepth 65536 in
theorem w_c2 : (Jvm.Cond.code ({ cls := "com/example/adjudicate/adjudicate/Decision", name := "asIndeterminate", desc := "()Lcom/example/adjudicate/adjudicate/Decision;" } : Jvm.MethodName) prog_37_method_6_code (2 : Nat) (Option.some (Jvm.ClassFile.FieldType.object "com/example/adjudicate/adjudicate/Decision"))).before args0 about1 = true := code_word (m := ⟨6, 0⟩) (meth := k6m0) (c := k6c0) (by decide +kernel) rfl rfl rfl (by decide +kernel)
set_option maxRecDepth 65536 in
theorem w_c3 : (Jvm.Cond.code ({ cls := "java/lang/Enum", name := "ordinal", desc := "()I" } : Jvm.MethodName) jdk_37_method_2_code (1 : Nat) (Option.some Jvm.ClassFile.FieldType.int)).before args0 about1 = true := code_word (m := ⟨5, 0⟩) (meth := k5m0) (c := k5c0) (by decide +kernel) rfl rfl rfl (by decide +kernel)
set_option maxRecDepth 65536 in
theorem w_c4 : (Jvm.Cond.code ({ cls := "com/example/adjudicate/adjudicate/DecisionAsIndeterminatePinLaw", name := "expected", desc := "(I)Lcom/example/adjudicate/adjudicate/Decision;" } : Jvm.MethodName) method_3_code (1 : Nat) (Option.some (Jvm.ClassFile.FieldType.object "com/example/adjudicate/adjudicate/Decision"))).before args0 about1 = true := code_word (m := ⟨1, 2⟩) (meth := k1m2) (c := k1c2) (by decide +kernel) rfl rfl rfl (by decide +kernel)
def codes1 : List Jvm.Cond := [Jvm.Cond.code x code maxLocals ret, Jvm.Cond.code ({ cls := "com/example/adjudicate/adjudicate/DecisionAsIndeterminatePinLaw", name := "pick", desc := "(I)Lcom/example/adjudicate/adjudicate/Decision;" } : Jvm.MethodName) method_2_code (1 : Nat) (Option.some (Jvm.ClassFile.FieldType.object "com/example/adjudicate/adjudicate/Decision")), Jvm.Cond.code ({ cls := "com/example/adjudicate/adjudicate/Decision", name := "asIndeterminate", desc := "()Lcom/example/adjudicate/adjudicate/Decision;" } : Jvm.MethodName) prog_37_method_6_code (2 : Nat) (Option.some (Jvm.ClassFile.FieldType.object "com/example/adjudicate/adjudicate/Decision")), Jvm.Cond.code ({ cls := "java/lang/Enum", name := "ordinal", desc := "()I" } : Jvm.MethodName) jdk_37_method_2_code (1 : Nat) (Option.some Jvm.ClassFile.FieldType.int), Jvm.Cond.code ({ cls := "com/example/adjudicate/adjudicate/DecisionAsIndeterminatePinLaw", name := "expected", desc := "(I)Lcom/example/adjudicate/adjudicate/Decision;" } : Jvm.MethodName) method_3_code (1 : Nat) (Option.some (Jvm.ClassFile.FieldType.object "com/example/adjudicate/adjudicate/Decision"))]
set_option maxRecDepth 65536 in
theorem codes_eq : words1.filter isCode = codes1 := rfl
theorem w_codes : ∀ c ∈ words1.filter isCode, c.before args0 about1 = true := by
  rw [codes_eq]
  intro c hc
  simp only [codes1, List.mem_cons, List.not_mem_nil, or_false] at hc
  rcases hc with rfl | rfl | rfl | rfl | rfl
  · exact w_c0
  · exact w_c1
  · exact w_c2
  · exact w_c3
  · exact w_c4
set_option maxRecDepth 65536 in
theorem w_t1 : (words1.take 24).all (fun c => isCode c || c.before args0 about1) = true := by decide +kernel
set_option maxRecDepth 65536 in
theorem w_t2 : (words1.drop 24).all (fun c => isCode c || c.before args0 about1) = true := by decide +kernel
theorem w_tables : (allAtoms (Jvm.Cond.code x code maxLocals ret :: tables_1)).before args0 about1 = true := by
  rw [allAtoms_all]
  show words1.all (fun c => c.before args0 about1) = true
  refine all_split ?_ w_codes
  rw [← List.take_append_drop 24 words1, List.all_append, w_t1, w_t2]
  rfl
set_option maxRecDepth 65536 in
theorem w_case : (Jvm.Cond.and given_1 narrow_1).before args0 about1 = true := by decide +kernel
theorem w_applies : (headSpec (Jvm.Cond.code x code maxLocals ret :: tables_1) room_1).applies x e0.platform about1 = true :=
  (Spec.applies_iff w_frames).mpr ⟨w_running, w_runnable, w_alone, w_named, w_hears, w_ripe, w_room, w_tables⟩
theorem atStart : AtStart classFile x code maxLocals ret World_1 tables_1 room_1 Calls_1 rest_1 Pre_1 launch0 p0 e0 about1 theMethod args0 below0 :=
  ⟨lists_1, trivial, launch0.admits_env _ _ _, launch0.least_env, fairChoices_fair.cas, fairChoices_fair.clock, w_frames, w_args, w_heap, w_applies, trivial, trivial, w_case⟩
end start1
theorem witness_1 : WitnessClaimed_1 := ⟨start1.p0, start1.e0, start1.about1, start1.theMethod, start1.args0, start1.below0, start1.atStart⟩
end Jvm.Pilot.@@N@@
