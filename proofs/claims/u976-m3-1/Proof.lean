import JvmDerived
import JvmDerived.Pilot.@@N@@Statement
import JvmDerived.Pilot.@@N@@Code
set_option linter.unusedVariables false
set_option linter.unusedSimpArgs false
namespace Jvm.RoadKit
open Sem ClassFile Op Lib Jvm.Stand Jvm.Free Jvm.LawKit
section New
variable {p : Program} {l : Launch} {e : Env} {R : Room} {s : State} {m : MethodId} {args : Array Value} {below : List Frame} {meth : Method} {c : Code} {T : State} {locs : List Loc} {cells slots : Nat}
theorem retI (X : Stand p l e R s m args below meth c T locs cells slots) (hx : p.tables.exec = Jvm.exec) {pc : Nat} {Ls : Array Slot} {z : Int32} {rest : List Value} (hret : meth.sig.returnType = some .int) (hd : decode c.code pc = .ok (.ireturn, 1)) {fs : List Frame}
    (hl : ∀ (f : JFrame) (acts : List Action), f.method = m → f.locked = none → f.entered = [] → (doReturn e (T.setTop f) acts (some (.int z))).1 = T.setFrames fs) : Steps p.tables e below (T.setTop (mkF m pc Ls (.int z :: rest))) (T.setFrames fs) := by
  have hm' : T.vm.method? m = some meth := X.method'
  have hn : narrow .int (.int z) = .int z := rfl
  show Steps p.tables e below (T.setTop { method := m, pc := pc, locals := Ls, stack := _ :: rest, locked := none }) _
  jvm_step X.here [X.here.top, hx, hd, hm', hret, hn]
  first | (intro acts; rw [hl _ acts rfl rfl rfl]) | rw [hl _ _ rfl rfl rfl]
  exact Steps.refl _
theorem lsw {g : JFrame} {target : State} (X : Stand p l e R s m args below meth c T locs cells slots) (hx : p.tables.exec = Jvm.exec) (hg : g.method = m) {dflt : Int} {pairs : Array (Int × Int)} {len : Nat} {o : Int} {x : Int32} {rest : List Value} {pc0 pc' : Nat} (hpc : g.pc = pc0) (hd : decode c.code g.pc = .ok (.lookupswitch dflt pairs, len)) (hs : g.stack = .int x :: rest)
    (hso : ∀ (a b a' b' : Int), ((a, b), a', b') ∈ pairs.toList.zip pairs.toList.tail → a < a') (hq : lookupswitch.offset pairs.toList dflt x.toInt = o) (ho : 0 ≤ (pc0 : Int) + o) (hp : ((pc0 : Int) + o).toNat = pc') (hr : Steps p.tables e below (T.setTop { g with pc := pc', stack := rest }) target) : Steps p.tables e below (T.setTop g) target := by
  subst hg hpc hp
  jvm_step X.here [X.here.top, hx, hd, hs, hq, ho, lookupswitch.wp_chain]
  exact ⟨hso, hr⟩
end New
end Jvm.RoadKit
namespace Jvm.Pilot.@@N@@
open Jvm Jvm.ClassFile Sem Op Lib Jvm.Free Jvm.Stand Jvm.LawKit Jvm.RoadKit Bundle Jvm.Pilot.@@N@@.Jvm.D
/-- a value comes back, the heap as it was -/
def QV (w : Value) (h0 : Heap) (n0 : Nat) (v : Option Value) (h : Heap) (L : List Loc) : Prop := v = some w ∧ Fr n0 L ∧ h = h0
def QL (n0 : Nat) (v : Option Value) (h : Heap) (L : List Loc) : Prop := v = some (.int 1) ∧ Fr n0 L
theorem fld_int {args : Array Value} {s : State} {t : Term} {C n d : String} {a : Addr} {k : Int32} (ht : t.eval args s none [] s = some (.ref a)) (h : (Jvm.Cond.eq (.field t C n d) (.int k)).value args s none s [] = some true) : s.fieldOf? a C n d = some (.int k) := by
  rw [← fld_at (C := C) (n := n) (dd := d) ht]
  exact Cond.eq_int (beq_iff_eq.mpr h) (Term.int_eval k)
theorem d1_0 : decode method_2_code 0 = .ok (.iload_n 0, 1) := by decide +kernel
theorem d1_1 : decode method_2_code 1 = .ok (.ifCond .ne 7, 3) := by decide +kernel
theorem d1_4 : decode method_2_code 4 = .ok (.getstatic 7, 3) := by decide +kernel
theorem d1_7 : decode method_2_code 7 = .ok (.areturn, 1) := by decide +kernel
theorem ef_1_I (m : MethodId) (x0 : Int32) : entryFrame m #[(.int x0)] 1 = mkF m 0 #[.val (.int x0)] [] := by first | (simp [entryFrame, mkF, argsToLocals, Value.category]; done) | rfl
theorem pn_JoinEqualsPinLaw : plainName "com/example/brisk_sifter/brisksifter/JoinEqualsPinLaw" = true := by first | (simp [plainName, overriddenIn]; done) | decide +kernel
set_option maxRecDepth 65536 in
set_option maxHeartbeats 40000000 in
theorem rp0 (l : Launch) (Z : State) (a0 : Array Value) (hw : ∀ d ∈ tables_1, d.before a0 Z = true) (ws : List Jvm.Cond) (k : Int32) (w : Addr) (h0 : Heap) (n0 : Nat) (Z0 : n0 ≤ h0.size) (S : Sta Z h0 "com/example/brisk_sifter/brisksifter/Formula$Operator" "EQUAL" "Lcom/example/brisk_sifter/brisksifter/Formula$Operator;" (.ref w)) (hc1 : k = (0 : Int32)) :
    MetFree l (⟨"com/example/brisk_sifter/brisksifter/JoinEqualsPinLaw", "op", "(I)Lcom/example/brisk_sifter/brisksifter/Formula$Operator;"⟩ : MethodName) (head1 (Jvm.Cond.code (⟨"com/example/brisk_sifter/brisksifter/JoinEqualsPinLaw", "op", "(I)Lcom/example/brisk_sifter/brisksifter/Formula$Operator;"⟩ : MethodName) method_2_code 1 (some (.object "com/example/brisk_sifter/brisksifter/Formula$Operator")) :: ws) ({ frames := 0, cells := 0, slots := 0, locals := 0 } : Room)) (fun zA zU => zA = #[(.int k)] ∧ Z.Warmed39 zU.vm ∧ zU.heap = h0) (fun _ _ _ _ _ => True) (fun _ zU zO zW => ∃ zV zL, zO = .returned zV ∧ QV (.ref w) h0 n0 zV zW.heap zL ∧ FrameEnd zU zO zW zL ({ frames := 0, cells := 0, slots := 0, locals := 0 } : Room).cells ({ frames := 0, cells := 0, slots := 0, locals := 0 } : Room).slots) := by
  refine MetFree.of_bodySF (plainFor_of_name pn_JoinEqualsPinLaw) hisR ?_
  intro p e s m args below meth c s₁ Bd hml0 hP hK
  obtain ⟨rfl, hZ, hh⟩ := hP
  have hx := Bd.exec
  have hby := Bd.bytes
  have hml : c.maxLocals = 1 := hml0
  have hown : s.vm.findClass "com/example/brisk_sifter/brisksifter/JoinEqualsPinLaw" = some m.cls := findClass_of_methodNamed Bd.named
  have hnm := (name_of_methodNamed Bd.named Bd.method).1
  have X0 : Stand p l e ({ frames := 0, cells := 0, slots := 0, locals := 0 } : Room) s m #[(.int k)] below meth c s₁ [] 0 0 := Stand.of_body Bd
  have e0 : s₁.heap = h0 := by rw [← hh, Bd.state]; rfl
  have N0 := Fr.nil n0
  have pre0 : ∀ zt, Steps p.tables e below (s₁.setTop (mkF m 0 #[.val (.int k)] [])) zt → Steps p.tables e below (s₁.setTop (entryFrame m #[(.int k)] 1)) zt := fun zt zk => castTop (ef_1_I m k) zk
  obtain ⟨T1, X1, e1, st1⟩ := getS2 X0 hx hZ hown (host := "") (Or.inl (hw _ (List.mem_of_getElem? (i := 28) rfl))) Via.refl e0 S (g := (mkF m 4 #[.val (.int k)] [])) rfl (hb hby d1_4)
  obtain ⟨fs, hr, hrun, hended, hW, hsame⟩ := X1.leave (v := some (.ref w)) (fun h => by rw [Bd.returns] at h; cases h)
  refine ⟨_, _, pre0 _ ?_, hrun, hended, _, _, rfl, ?_, ⟨_, rfl⟩, hW, hsame.mono (by decide) (by decide)⟩
  · show Steps p.tables e below (s₁.setTop (mkF m 0 #[.val (.int k)] [])) _
    refine XS.iloadN X0.here hx rfl (hb hby d1_0) rfl ?_
    show Steps p.tables e below (s₁.setTop (mkF m 1 #[.val (.int k)] [(.int k)])) _
    refine XS.ifNo X0.here hx rfl (hb hby d1_1) rfl ((if0 _ _).trans (teq hc1).2) ?_
    show Steps p.tables e below (s₁.setTop (mkF m 4 #[.val (.int k)] [])) _
    refine st1 _ ?_
    show Steps p.tables e below (T1.setTop (mkF m 7 #[.val (.int k)] [(.ref w)])) _
    jvm_step X1.here [X1.here.top, hx, (hb hby d1_7), X1.method', Bd.returns, Value.isRef, FieldType.isReference]
    first | (intro acts; rw [hr _ acts rfl rfl rfl]) | rw [hr _ _ rfl rfl rfl]
    exact Steps.refl _
  · show QV (.ref w) h0 n0 _ T1.heap _
    rw [e1]
    exact ⟨rfl, N0, rfl⟩
theorem d1_8 : decode method_2_code 8 = .ok (.iload_n 0, 1) := by decide +kernel
theorem d1_9 : decode method_2_code 9 = .ok (.iconst 1, 1) := by decide +kernel
theorem d1_10 : decode method_2_code 10 = .ok (.if_icmp .ne 7, 3) := by decide +kernel
theorem d1_13 : decode method_2_code 13 = .ok (.getstatic 13, 3) := by decide +kernel
theorem d1_16 : decode method_2_code 16 = .ok (.areturn, 1) := by decide +kernel
set_option maxRecDepth 65536 in
set_option maxHeartbeats 40000000 in
theorem rp1 (l : Launch) (Z : State) (a0 : Array Value) (hw : ∀ d ∈ tables_1, d.before a0 Z = true) (ws : List Jvm.Cond) (k : Int32) (w : Addr) (h0 : Heap) (n0 : Nat) (Z0 : n0 ≤ h0.size) (S : Sta Z h0 "com/example/brisk_sifter/brisksifter/Formula$Operator" "NOT_EQUAL" "Lcom/example/brisk_sifter/brisksifter/Formula$Operator;" (.ref w)) (hc1 : ¬ (k = (0 : Int32))) (hc10 : k = (1 : Int32)) :
    MetFree l (⟨"com/example/brisk_sifter/brisksifter/JoinEqualsPinLaw", "op", "(I)Lcom/example/brisk_sifter/brisksifter/Formula$Operator;"⟩ : MethodName) (head1 (Jvm.Cond.code (⟨"com/example/brisk_sifter/brisksifter/JoinEqualsPinLaw", "op", "(I)Lcom/example/brisk_sifter/brisksifter/Formula$Operator;"⟩ : MethodName) method_2_code 1 (some (.object "com/example/brisk_sifter/brisksifter/Formula$Operator")) :: ws) ({ frames := 0, cells := 0, slots := 0, locals := 0 } : Room)) (fun zA zU => zA = #[(.int k)] ∧ Z.Warmed39 zU.vm ∧ zU.heap = h0) (fun _ _ _ _ _ => True) (fun _ zU zO zW => ∃ zV zL, zO = .returned zV ∧ QV (.ref w) h0 n0 zV zW.heap zL ∧ FrameEnd zU zO zW zL ({ frames := 0, cells := 0, slots := 0, locals := 0 } : Room).cells ({ frames := 0, cells := 0, slots := 0, locals := 0 } : Room).slots) := by
  refine MetFree.of_bodySF (plainFor_of_name pn_JoinEqualsPinLaw) hisR ?_
  intro p e s m args below meth c s₁ Bd hml0 hP hK
  obtain ⟨rfl, hZ, hh⟩ := hP
  have hx := Bd.exec
  have hby := Bd.bytes
  have hml : c.maxLocals = 1 := hml0
  have hown : s.vm.findClass "com/example/brisk_sifter/brisksifter/JoinEqualsPinLaw" = some m.cls := findClass_of_methodNamed Bd.named
  have hnm := (name_of_methodNamed Bd.named Bd.method).1
  have X0 : Stand p l e ({ frames := 0, cells := 0, slots := 0, locals := 0 } : Room) s m #[(.int k)] below meth c s₁ [] 0 0 := Stand.of_body Bd
  have e0 : s₁.heap = h0 := by rw [← hh, Bd.state]; rfl
  have N0 := Fr.nil n0
  have pre0 : ∀ zt, Steps p.tables e below (s₁.setTop (mkF m 0 #[.val (.int k)] [])) zt → Steps p.tables e below (s₁.setTop (entryFrame m #[(.int k)] 1)) zt := fun zt zk => castTop (ef_1_I m k) zk
  obtain ⟨T2, X2, e2, st2⟩ := getS2 X0 hx hZ hown (host := "") (Or.inl (hw _ (List.mem_of_getElem? (i := 48) rfl))) Via.refl e0 S (g := (mkF m 13 #[.val (.int k)] [])) rfl (hb hby d1_13)
  obtain ⟨fs, hr, hrun, hended, hW, hsame⟩ := X2.leave (v := some (.ref w)) (fun h => by rw [Bd.returns] at h; cases h)
  refine ⟨_, _, pre0 _ ?_, hrun, hended, _, _, rfl, ?_, ⟨_, rfl⟩, hW, hsame.mono (by decide) (by decide)⟩
  · show Steps p.tables e below (s₁.setTop (mkF m 0 #[.val (.int k)] [])) _
    refine XS.iloadN X0.here hx rfl (hb hby d1_0) rfl ?_
    show Steps p.tables e below (s₁.setTop (mkF m 1 #[.val (.int k)] [(.int k)])) _
    refine XS.ifYes X0.here hx rfl (pc0 := 1) (pc' := 8) rfl (hb hby d1_1) rfl ((if0 _ _).trans (feq hc1).2) (by decide) (by decide) ?_
    show Steps p.tables e below (s₁.setTop (mkF m 8 #[.val (.int k)] [])) _
    refine XS.iloadN X0.here hx rfl (hb hby d1_8) rfl ?_
    show Steps p.tables e below (s₁.setTop (mkF m 9 #[.val (.int k)] [(.int k)])) _
    refine XS.iconst X0.here hx rfl (hb hby d1_9) ?_
    show Steps p.tables e below (s₁.setTop (mkF m 10 #[.val (.int k)] [(.int (1 : Int32)), (.int k)])) _
    refine XS.icmpNo X0.here hx rfl (hb hby d1_10) rfl (teq hc10).2 ?_
    show Steps p.tables e below (s₁.setTop (mkF m 13 #[.val (.int k)] [])) _
    refine st2 _ ?_
    show Steps p.tables e below (T2.setTop (mkF m 16 #[.val (.int k)] [(.ref w)])) _
    jvm_step X2.here [X2.here.top, hx, (hb hby d1_16), X2.method', Bd.returns, Value.isRef, FieldType.isReference]
    first | (intro acts; rw [hr _ acts rfl rfl rfl]) | rw [hr _ _ rfl rfl rfl]
    exact Steps.refl _
  · show QV (.ref w) h0 n0 _ T2.heap _
    rw [e2]
    exact ⟨rfl, N0, rfl⟩
theorem d1_17 : decode method_2_code 17 = .ok (.iload_n 0, 1) := by decide +kernel
theorem d1_18 : decode method_2_code 18 = .ok (.iconst 2, 1) := by decide +kernel
theorem d1_19 : decode method_2_code 19 = .ok (.if_icmp .ne 7, 3) := by decide +kernel
theorem d1_22 : decode method_2_code 22 = .ok (.getstatic 16, 3) := by decide +kernel
theorem d1_25 : decode method_2_code 25 = .ok (.areturn, 1) := by decide +kernel
set_option maxRecDepth 65536 in
set_option maxHeartbeats 40000000 in
theorem rp2 (l : Launch) (Z : State) (a0 : Array Value) (hw : ∀ d ∈ tables_1, d.before a0 Z = true) (ws : List Jvm.Cond) (k : Int32) (w : Addr) (h0 : Heap) (n0 : Nat) (Z0 : n0 ≤ h0.size) (S : Sta Z h0 "com/example/brisk_sifter/brisksifter/Formula$Operator" "LESS" "Lcom/example/brisk_sifter/brisksifter/Formula$Operator;" (.ref w)) (hc1 : ¬ (k = (0 : Int32))) (hc10 : ¬ (k = (1 : Int32))) (hc19 : k = (2 : Int32)) :
    MetFree l (⟨"com/example/brisk_sifter/brisksifter/JoinEqualsPinLaw", "op", "(I)Lcom/example/brisk_sifter/brisksifter/Formula$Operator;"⟩ : MethodName) (head1 (Jvm.Cond.code (⟨"com/example/brisk_sifter/brisksifter/JoinEqualsPinLaw", "op", "(I)Lcom/example/brisk_sifter/brisksifter/Formula$Operator;"⟩ : MethodName) method_2_code 1 (some (.object "com/example/brisk_sifter/brisksifter/Formula$Operator")) :: ws) ({ frames := 0, cells := 0, slots := 0, locals := 0 } : Room)) (fun zA zU => zA = #[(.int k)] ∧ Z.Warmed39 zU.vm ∧ zU.heap = h0) (fun _ _ _ _ _ => True) (fun _ zU zO zW => ∃ zV zL, zO = .returned zV ∧ QV (.ref w) h0 n0 zV zW.heap zL ∧ FrameEnd zU zO zW zL ({ frames := 0, cells := 0, slots := 0, locals := 0 } : Room).cells ({ frames := 0, cells := 0, slots := 0, locals := 0 } : Room).slots) := by
  refine MetFree.of_bodySF (plainFor_of_name pn_JoinEqualsPinLaw) hisR ?_
  intro p e s m args below meth c s₁ Bd hml0 hP hK
  obtain ⟨rfl, hZ, hh⟩ := hP
  have hx := Bd.exec
  have hby := Bd.bytes
  have hml : c.maxLocals = 1 := hml0
  have hown : s.vm.findClass "com/example/brisk_sifter/brisksifter/JoinEqualsPinLaw" = some m.cls := findClass_of_methodNamed Bd.named
  have hnm := (name_of_methodNamed Bd.named Bd.method).1
  have X0 : Stand p l e ({ frames := 0, cells := 0, slots := 0, locals := 0 } : Room) s m #[(.int k)] below meth c s₁ [] 0 0 := Stand.of_body Bd
  have e0 : s₁.heap = h0 := by rw [← hh, Bd.state]; rfl
  have N0 := Fr.nil n0
  have pre0 : ∀ zt, Steps p.tables e below (s₁.setTop (mkF m 0 #[.val (.int k)] [])) zt → Steps p.tables e below (s₁.setTop (entryFrame m #[(.int k)] 1)) zt := fun zt zk => castTop (ef_1_I m k) zk
  obtain ⟨T3, X3, e3, st3⟩ := getS2 X0 hx hZ hown (host := "") (Or.inl (hw _ (List.mem_of_getElem? (i := 8) rfl))) Via.refl e0 S (g := (mkF m 22 #[.val (.int k)] [])) rfl (hb hby d1_22)
  obtain ⟨fs, hr, hrun, hended, hW, hsame⟩ := X3.leave (v := some (.ref w)) (fun h => by rw [Bd.returns] at h; cases h)
  refine ⟨_, _, pre0 _ ?_, hrun, hended, _, _, rfl, ?_, ⟨_, rfl⟩, hW, hsame.mono (by decide) (by decide)⟩
  · show Steps p.tables e below (s₁.setTop (mkF m 0 #[.val (.int k)] [])) _
    refine XS.iloadN X0.here hx rfl (hb hby d1_0) rfl ?_
    show Steps p.tables e below (s₁.setTop (mkF m 1 #[.val (.int k)] [(.int k)])) _
    refine XS.ifYes X0.here hx rfl (pc0 := 1) (pc' := 8) rfl (hb hby d1_1) rfl ((if0 _ _).trans (feq hc1).2) (by decide) (by decide) ?_
    show Steps p.tables e below (s₁.setTop (mkF m 8 #[.val (.int k)] [])) _
    refine XS.iloadN X0.here hx rfl (hb hby d1_8) rfl ?_
    show Steps p.tables e below (s₁.setTop (mkF m 9 #[.val (.int k)] [(.int k)])) _
    refine XS.iconst X0.here hx rfl (hb hby d1_9) ?_
    show Steps p.tables e below (s₁.setTop (mkF m 10 #[.val (.int k)] [(.int (1 : Int32)), (.int k)])) _
    refine XS.icmpYes X0.here hx rfl (pc0 := 10) (pc' := 17) rfl (hb hby d1_10) rfl (feq hc10).2 (by decide) (by decide) ?_
    show Steps p.tables e below (s₁.setTop (mkF m 17 #[.val (.int k)] [])) _
    refine XS.iloadN X0.here hx rfl (hb hby d1_17) rfl ?_
    show Steps p.tables e below (s₁.setTop (mkF m 18 #[.val (.int k)] [(.int k)])) _
    refine XS.iconst X0.here hx rfl (hb hby d1_18) ?_
    show Steps p.tables e below (s₁.setTop (mkF m 19 #[.val (.int k)] [(.int (2 : Int32)), (.int k)])) _
    refine XS.icmpNo X0.here hx rfl (hb hby d1_19) rfl (teq hc19).2 ?_
    show Steps p.tables e below (s₁.setTop (mkF m 22 #[.val (.int k)] [])) _
    refine st3 _ ?_
    show Steps p.tables e below (T3.setTop (mkF m 25 #[.val (.int k)] [(.ref w)])) _
    jvm_step X3.here [X3.here.top, hx, (hb hby d1_25), X3.method', Bd.returns, Value.isRef, FieldType.isReference]
    first | (intro acts; rw [hr _ acts rfl rfl rfl]) | rw [hr _ _ rfl rfl rfl]
    exact Steps.refl _
  · show QV (.ref w) h0 n0 _ T3.heap _
    rw [e3]
    exact ⟨rfl, N0, rfl⟩
theorem d1_26 : decode method_2_code 26 = .ok (.iload_n 0, 1) := by decide +kernel
theorem d1_27 : decode method_2_code 27 = .ok (.iconst 3, 1) := by decide +kernel
theorem d1_28 : decode method_2_code 28 = .ok (.if_icmp .ne 7, 3) := by decide +kernel
theorem d1_31 : decode method_2_code 31 = .ok (.getstatic 19, 3) := by decide +kernel
theorem d1_34 : decode method_2_code 34 = .ok (.areturn, 1) := by decide +kernel
set_option maxRecDepth 65536 in
set_option maxHeartbeats 40000000 in
theorem rp3 (l : Launch) (Z : State) (a0 : Array Value) (hw : ∀ d ∈ tables_1, d.before a0 Z = true) (ws : List Jvm.Cond) (k : Int32) (w : Addr) (h0 : Heap) (n0 : Nat) (Z0 : n0 ≤ h0.size) (S : Sta Z h0 "com/example/brisk_sifter/brisksifter/Formula$Operator" "LESS_OR_EQUAL" "Lcom/example/brisk_sifter/brisksifter/Formula$Operator;" (.ref w)) (hc1 : ¬ (k = (0 : Int32))) (hc10 : ¬ (k = (1 : Int32))) (hc19 : ¬ (k = (2 : Int32))) (hc28 : k = (3 : Int32)) :
    MetFree l (⟨"com/example/brisk_sifter/brisksifter/JoinEqualsPinLaw", "op", "(I)Lcom/example/brisk_sifter/brisksifter/Formula$Operator;"⟩ : MethodName) (head1 (Jvm.Cond.code (⟨"com/example/brisk_sifter/brisksifter/JoinEqualsPinLaw", "op", "(I)Lcom/example/brisk_sifter/brisksifter/Formula$Operator;"⟩ : MethodName) method_2_code 1 (some (.object "com/example/brisk_sifter/brisksifter/Formula$Operator")) :: ws) ({ frames := 0, cells := 0, slots := 0, locals := 0 } : Room)) (fun zA zU => zA = #[(.int k)] ∧ Z.Warmed39 zU.vm ∧ zU.heap = h0) (fun _ _ _ _ _ => True) (fun _ zU zO zW => ∃ zV zL, zO = .returned zV ∧ QV (.ref w) h0 n0 zV zW.heap zL ∧ FrameEnd zU zO zW zL ({ frames := 0, cells := 0, slots := 0, locals := 0 } : Room).cells ({ frames := 0, cells := 0, slots := 0, locals := 0 } : Room).slots) := by
  refine MetFree.of_bodySF (plainFor_of_name pn_JoinEqualsPinLaw) hisR ?_
  intro p e s m args below meth c s₁ Bd hml0 hP hK
  obtain ⟨rfl, hZ, hh⟩ := hP
  have hx := Bd.exec
  have hby := Bd.bytes
  have hml : c.maxLocals = 1 := hml0
  have hown : s.vm.findClass "com/example/brisk_sifter/brisksifter/JoinEqualsPinLaw" = some m.cls := findClass_of_methodNamed Bd.named
  have hnm := (name_of_methodNamed Bd.named Bd.method).1
  have X0 : Stand p l e ({ frames := 0, cells := 0, slots := 0, locals := 0 } : Room) s m #[(.int k)] below meth c s₁ [] 0 0 := Stand.of_body Bd
  have e0 : s₁.heap = h0 := by rw [← hh, Bd.state]; rfl
  have N0 := Fr.nil n0
  have pre0 : ∀ zt, Steps p.tables e below (s₁.setTop (mkF m 0 #[.val (.int k)] [])) zt → Steps p.tables e below (s₁.setTop (entryFrame m #[(.int k)] 1)) zt := fun zt zk => castTop (ef_1_I m k) zk
  obtain ⟨T4, X4, e4, st4⟩ := getS2 X0 hx hZ hown (host := "") (Or.inl (hw _ (List.mem_of_getElem? (i := 42) rfl))) Via.refl e0 S (g := (mkF m 31 #[.val (.int k)] [])) rfl (hb hby d1_31)
  obtain ⟨fs, hr, hrun, hended, hW, hsame⟩ := X4.leave (v := some (.ref w)) (fun h => by rw [Bd.returns] at h; cases h)
  refine ⟨_, _, pre0 _ ?_, hrun, hended, _, _, rfl, ?_, ⟨_, rfl⟩, hW, hsame.mono (by decide) (by decide)⟩
  · show Steps p.tables e below (s₁.setTop (mkF m 0 #[.val (.int k)] [])) _
    refine XS.iloadN X0.here hx rfl (hb hby d1_0) rfl ?_
    show Steps p.tables e below (s₁.setTop (mkF m 1 #[.val (.int k)] [(.int k)])) _
    refine XS.ifYes X0.here hx rfl (pc0 := 1) (pc' := 8) rfl (hb hby d1_1) rfl ((if0 _ _).trans (feq hc1).2) (by decide) (by decide) ?_
    show Steps p.tables e below (s₁.setTop (mkF m 8 #[.val (.int k)] [])) _
    refine XS.iloadN X0.here hx rfl (hb hby d1_8) rfl ?_
    show Steps p.tables e below (s₁.setTop (mkF m 9 #[.val (.int k)] [(.int k)])) _
    refine XS.iconst X0.here hx rfl (hb hby d1_9) ?_
    show Steps p.tables e below (s₁.setTop (mkF m 10 #[.val (.int k)] [(.int (1 : Int32)), (.int k)])) _
    refine XS.icmpYes X0.here hx rfl (pc0 := 10) (pc' := 17) rfl (hb hby d1_10) rfl (feq hc10).2 (by decide) (by decide) ?_
    show Steps p.tables e below (s₁.setTop (mkF m 17 #[.val (.int k)] [])) _
    refine XS.iloadN X0.here hx rfl (hb hby d1_17) rfl ?_
    show Steps p.tables e below (s₁.setTop (mkF m 18 #[.val (.int k)] [(.int k)])) _
    refine XS.iconst X0.here hx rfl (hb hby d1_18) ?_
    show Steps p.tables e below (s₁.setTop (mkF m 19 #[.val (.int k)] [(.int (2 : Int32)), (.int k)])) _
    refine XS.icmpYes X0.here hx rfl (pc0 := 19) (pc' := 26) rfl (hb hby d1_19) rfl (feq hc19).2 (by decide) (by decide) ?_
    show Steps p.tables e below (s₁.setTop (mkF m 26 #[.val (.int k)] [])) _
    refine XS.iloadN X0.here hx rfl (hb hby d1_26) rfl ?_
    show Steps p.tables e below (s₁.setTop (mkF m 27 #[.val (.int k)] [(.int k)])) _
    refine XS.iconst X0.here hx rfl (hb hby d1_27) ?_
    show Steps p.tables e below (s₁.setTop (mkF m 28 #[.val (.int k)] [(.int (3 : Int32)), (.int k)])) _
    refine XS.icmpNo X0.here hx rfl (hb hby d1_28) rfl (teq hc28).2 ?_
    show Steps p.tables e below (s₁.setTop (mkF m 31 #[.val (.int k)] [])) _
    refine st4 _ ?_
    show Steps p.tables e below (T4.setTop (mkF m 34 #[.val (.int k)] [(.ref w)])) _
    jvm_step X4.here [X4.here.top, hx, (hb hby d1_34), X4.method', Bd.returns, Value.isRef, FieldType.isReference]
    first | (intro acts; rw [hr _ acts rfl rfl rfl]) | rw [hr _ _ rfl rfl rfl]
    exact Steps.refl _
  · show QV (.ref w) h0 n0 _ T4.heap _
    rw [e4]
    exact ⟨rfl, N0, rfl⟩
theorem d1_35 : decode method_2_code 35 = .ok (.iload_n 0, 1) := by decide +kernel
theorem d1_36 : decode method_2_code 36 = .ok (.iconst 4, 1) := by decide +kernel
theorem d1_37 : decode method_2_code 37 = .ok (.if_icmp .ne 7, 3) := by decide +kernel
theorem d1_40 : decode method_2_code 40 = .ok (.getstatic 22, 3) := by decide +kernel
theorem d1_43 : decode method_2_code 43 = .ok (.areturn, 1) := by decide +kernel
set_option maxRecDepth 65536 in
set_option maxHeartbeats 40000000 in
theorem rp4 (l : Launch) (Z : State) (a0 : Array Value) (hw : ∀ d ∈ tables_1, d.before a0 Z = true) (ws : List Jvm.Cond) (k : Int32) (w : Addr) (h0 : Heap) (n0 : Nat) (Z0 : n0 ≤ h0.size) (S : Sta Z h0 "com/example/brisk_sifter/brisksifter/Formula$Operator" "GREATER" "Lcom/example/brisk_sifter/brisksifter/Formula$Operator;" (.ref w)) (hc1 : ¬ (k = (0 : Int32))) (hc10 : ¬ (k = (1 : Int32))) (hc19 : ¬ (k = (2 : Int32))) (hc28 : ¬ (k = (3 : Int32))) (hc37 : k = (4 : Int32)) :
    MetFree l (⟨"com/example/brisk_sifter/brisksifter/JoinEqualsPinLaw", "op", "(I)Lcom/example/brisk_sifter/brisksifter/Formula$Operator;"⟩ : MethodName) (head1 (Jvm.Cond.code (⟨"com/example/brisk_sifter/brisksifter/JoinEqualsPinLaw", "op", "(I)Lcom/example/brisk_sifter/brisksifter/Formula$Operator;"⟩ : MethodName) method_2_code 1 (some (.object "com/example/brisk_sifter/brisksifter/Formula$Operator")) :: ws) ({ frames := 0, cells := 0, slots := 0, locals := 0 } : Room)) (fun zA zU => zA = #[(.int k)] ∧ Z.Warmed39 zU.vm ∧ zU.heap = h0) (fun _ _ _ _ _ => True) (fun _ zU zO zW => ∃ zV zL, zO = .returned zV ∧ QV (.ref w) h0 n0 zV zW.heap zL ∧ FrameEnd zU zO zW zL ({ frames := 0, cells := 0, slots := 0, locals := 0 } : Room).cells ({ frames := 0, cells := 0, slots := 0, locals := 0 } : Room).slots) := by
  refine MetFree.of_bodySF (plainFor_of_name pn_JoinEqualsPinLaw) hisR ?_
  intro p e s m args below meth c s₁ Bd hml0 hP hK
  obtain ⟨rfl, hZ, hh⟩ := hP
  have hx := Bd.exec
  have hby := Bd.bytes
  have hml : c.maxLocals = 1 := hml0
  have hown : s.vm.findClass "com/example/brisk_sifter/brisksifter/JoinEqualsPinLaw" = some m.cls := findClass_of_methodNamed Bd.named
  have hnm := (name_of_methodNamed Bd.named Bd.method).1
  have X0 : Stand p l e ({ frames := 0, cells := 0, slots := 0, locals := 0 } : Room) s m #[(.int k)] below meth c s₁ [] 0 0 := Stand.of_body Bd
  have e0 : s₁.heap = h0 := by rw [← hh, Bd.state]; rfl
  have N0 := Fr.nil n0
  have pre0 : ∀ zt, Steps p.tables e below (s₁.setTop (mkF m 0 #[.val (.int k)] [])) zt → Steps p.tables e below (s₁.setTop (entryFrame m #[(.int k)] 1)) zt := fun zt zk => castTop (ef_1_I m k) zk
  obtain ⟨T5, X5, e5, st5⟩ := getS2 X0 hx hZ hown (host := "") (Or.inl (hw _ (List.mem_of_getElem? (i := 46) rfl))) Via.refl e0 S (g := (mkF m 40 #[.val (.int k)] [])) rfl (hb hby d1_40)
  obtain ⟨fs, hr, hrun, hended, hW, hsame⟩ := X5.leave (v := some (.ref w)) (fun h => by rw [Bd.returns] at h; cases h)
  refine ⟨_, _, pre0 _ ?_, hrun, hended, _, _, rfl, ?_, ⟨_, rfl⟩, hW, hsame.mono (by decide) (by decide)⟩
  · show Steps p.tables e below (s₁.setTop (mkF m 0 #[.val (.int k)] [])) _
    refine XS.iloadN X0.here hx rfl (hb hby d1_0) rfl ?_
    show Steps p.tables e below (s₁.setTop (mkF m 1 #[.val (.int k)] [(.int k)])) _
    refine XS.ifYes X0.here hx rfl (pc0 := 1) (pc' := 8) rfl (hb hby d1_1) rfl ((if0 _ _).trans (feq hc1).2) (by decide) (by decide) ?_
    show Steps p.tables e below (s₁.setTop (mkF m 8 #[.val (.int k)] [])) _
    refine XS.iloadN X0.here hx rfl (hb hby d1_8) rfl ?_
    show Steps p.tables e below (s₁.setTop (mkF m 9 #[.val (.int k)] [(.int k)])) _
    refine XS.iconst X0.here hx rfl (hb hby d1_9) ?_
    show Steps p.tables e below (s₁.setTop (mkF m 10 #[.val (.int k)] [(.int (1 : Int32)), (.int k)])) _
    refine XS.icmpYes X0.here hx rfl (pc0 := 10) (pc' := 17) rfl (hb hby d1_10) rfl (feq hc10).2 (by decide) (by decide) ?_
    show Steps p.tables e below (s₁.setTop (mkF m 17 #[.val (.int k)] [])) _
    refine XS.iloadN X0.here hx rfl (hb hby d1_17) rfl ?_
    show Steps p.tables e below (s₁.setTop (mkF m 18 #[.val (.int k)] [(.int k)])) _
    refine XS.iconst X0.here hx rfl (hb hby d1_18) ?_
    show Steps p.tables e below (s₁.setTop (mkF m 19 #[.val (.int k)] [(.int (2 : Int32)), (.int k)])) _
    refine XS.icmpYes X0.here hx rfl (pc0 := 19) (pc' := 26) rfl (hb hby d1_19) rfl (feq hc19).2 (by decide) (by decide) ?_
    show Steps p.tables e below (s₁.setTop (mkF m 26 #[.val (.int k)] [])) _
    refine XS.iloadN X0.here hx rfl (hb hby d1_26) rfl ?_
    show Steps p.tables e below (s₁.setTop (mkF m 27 #[.val (.int k)] [(.int k)])) _
    refine XS.iconst X0.here hx rfl (hb hby d1_27) ?_
    show Steps p.tables e below (s₁.setTop (mkF m 28 #[.val (.int k)] [(.int (3 : Int32)), (.int k)])) _
    refine XS.icmpYes X0.here hx rfl (pc0 := 28) (pc' := 35) rfl (hb hby d1_28) rfl (feq hc28).2 (by decide) (by decide) ?_
    show Steps p.tables e below (s₁.setTop (mkF m 35 #[.val (.int k)] [])) _
    refine XS.iloadN X0.here hx rfl (hb hby d1_35) rfl ?_
    show Steps p.tables e below (s₁.setTop (mkF m 36 #[.val (.int k)] [(.int k)])) _
    refine XS.iconst X0.here hx rfl (hb hby d1_36) ?_
    show Steps p.tables e below (s₁.setTop (mkF m 37 #[.val (.int k)] [(.int (4 : Int32)), (.int k)])) _
    refine XS.icmpNo X0.here hx rfl (hb hby d1_37) rfl (teq hc37).2 ?_
    show Steps p.tables e below (s₁.setTop (mkF m 40 #[.val (.int k)] [])) _
    refine st5 _ ?_
    show Steps p.tables e below (T5.setTop (mkF m 43 #[.val (.int k)] [(.ref w)])) _
    jvm_step X5.here [X5.here.top, hx, (hb hby d1_43), X5.method', Bd.returns, Value.isRef, FieldType.isReference]
    first | (intro acts; rw [hr _ acts rfl rfl rfl]) | rw [hr _ _ rfl rfl rfl]
    exact Steps.refl _
  · show QV (.ref w) h0 n0 _ T5.heap _
    rw [e5]
    exact ⟨rfl, N0, rfl⟩
theorem d1_44 : decode method_2_code 44 = .ok (.getstatic 25, 3) := by decide +kernel
theorem d1_47 : decode method_2_code 47 = .ok (.areturn, 1) := by decide +kernel
set_option maxRecDepth 65536 in
set_option maxHeartbeats 40000000 in
theorem rp5 (l : Launch) (Z : State) (a0 : Array Value) (hw : ∀ d ∈ tables_1, d.before a0 Z = true) (ws : List Jvm.Cond) (k : Int32) (w : Addr) (h0 : Heap) (n0 : Nat) (Z0 : n0 ≤ h0.size) (S : Sta Z h0 "com/example/brisk_sifter/brisksifter/Formula$Operator" "GREATER_OR_EQUAL" "Lcom/example/brisk_sifter/brisksifter/Formula$Operator;" (.ref w)) (hc1 : ¬ (k = (0 : Int32))) (hc10 : ¬ (k = (1 : Int32))) (hc19 : ¬ (k = (2 : Int32))) (hc28 : ¬ (k = (3 : Int32))) (hc37 : ¬ (k = (4 : Int32))) :
    MetFree l (⟨"com/example/brisk_sifter/brisksifter/JoinEqualsPinLaw", "op", "(I)Lcom/example/brisk_sifter/brisksifter/Formula$Operator;"⟩ : MethodName) (head1 (Jvm.Cond.code (⟨"com/example/brisk_sifter/brisksifter/JoinEqualsPinLaw", "op", "(I)Lcom/example/brisk_sifter/brisksifter/Formula$Operator;"⟩ : MethodName) method_2_code 1 (some (.object "com/example/brisk_sifter/brisksifter/Formula$Operator")) :: ws) ({ frames := 0, cells := 0, slots := 0, locals := 0 } : Room)) (fun zA zU => zA = #[(.int k)] ∧ Z.Warmed39 zU.vm ∧ zU.heap = h0) (fun _ _ _ _ _ => True) (fun _ zU zO zW => ∃ zV zL, zO = .returned zV ∧ QV (.ref w) h0 n0 zV zW.heap zL ∧ FrameEnd zU zO zW zL ({ frames := 0, cells := 0, slots := 0, locals := 0 } : Room).cells ({ frames := 0, cells := 0, slots := 0, locals := 0 } : Room).slots) := by
  refine MetFree.of_bodySF (plainFor_of_name pn_JoinEqualsPinLaw) hisR ?_
  intro p e s m args below meth c s₁ Bd hml0 hP hK
  obtain ⟨rfl, hZ, hh⟩ := hP
  have hx := Bd.exec
  have hby := Bd.bytes
  have hml : c.maxLocals = 1 := hml0
  have hown : s.vm.findClass "com/example/brisk_sifter/brisksifter/JoinEqualsPinLaw" = some m.cls := findClass_of_methodNamed Bd.named
  have hnm := (name_of_methodNamed Bd.named Bd.method).1
  have X0 : Stand p l e ({ frames := 0, cells := 0, slots := 0, locals := 0 } : Room) s m #[(.int k)] below meth c s₁ [] 0 0 := Stand.of_body Bd
  have e0 : s₁.heap = h0 := by rw [← hh, Bd.state]; rfl
  have N0 := Fr.nil n0
  have pre0 : ∀ zt, Steps p.tables e below (s₁.setTop (mkF m 0 #[.val (.int k)] [])) zt → Steps p.tables e below (s₁.setTop (entryFrame m #[(.int k)] 1)) zt := fun zt zk => castTop (ef_1_I m k) zk
  obtain ⟨T6, X6, e6, st6⟩ := getS2 X0 hx hZ hown (host := "") (Or.inl (hw _ (List.mem_of_getElem? (i := 44) rfl))) Via.refl e0 S (g := (mkF m 44 #[.val (.int k)] [])) rfl (hb hby d1_44)
  obtain ⟨fs, hr, hrun, hended, hW, hsame⟩ := X6.leave (v := some (.ref w)) (fun h => by rw [Bd.returns] at h; cases h)
  refine ⟨_, _, pre0 _ ?_, hrun, hended, _, _, rfl, ?_, ⟨_, rfl⟩, hW, hsame.mono (by decide) (by decide)⟩
  · show Steps p.tables e below (s₁.setTop (mkF m 0 #[.val (.int k)] [])) _
    refine XS.iloadN X0.here hx rfl (hb hby d1_0) rfl ?_
    show Steps p.tables e below (s₁.setTop (mkF m 1 #[.val (.int k)] [(.int k)])) _
    refine XS.ifYes X0.here hx rfl (pc0 := 1) (pc' := 8) rfl (hb hby d1_1) rfl ((if0 _ _).trans (feq hc1).2) (by decide) (by decide) ?_
    show Steps p.tables e below (s₁.setTop (mkF m 8 #[.val (.int k)] [])) _
    refine XS.iloadN X0.here hx rfl (hb hby d1_8) rfl ?_
    show Steps p.tables e below (s₁.setTop (mkF m 9 #[.val (.int k)] [(.int k)])) _
    refine XS.iconst X0.here hx rfl (hb hby d1_9) ?_
    show Steps p.tables e below (s₁.setTop (mkF m 10 #[.val (.int k)] [(.int (1 : Int32)), (.int k)])) _
    refine XS.icmpYes X0.here hx rfl (pc0 := 10) (pc' := 17) rfl (hb hby d1_10) rfl (feq hc10).2 (by decide) (by decide) ?_
    show Steps p.tables e below (s₁.setTop (mkF m 17 #[.val (.int k)] [])) _
    refine XS.iloadN X0.here hx rfl (hb hby d1_17) rfl ?_
    show Steps p.tables e below (s₁.setTop (mkF m 18 #[.val (.int k)] [(.int k)])) _
    refine XS.iconst X0.here hx rfl (hb hby d1_18) ?_
    show Steps p.tables e below (s₁.setTop (mkF m 19 #[.val (.int k)] [(.int (2 : Int32)), (.int k)])) _
    refine XS.icmpYes X0.here hx rfl (pc0 := 19) (pc' := 26) rfl (hb hby d1_19) rfl (feq hc19).2 (by decide) (by decide) ?_
    show Steps p.tables e below (s₁.setTop (mkF m 26 #[.val (.int k)] [])) _
    refine XS.iloadN X0.here hx rfl (hb hby d1_26) rfl ?_
    show Steps p.tables e below (s₁.setTop (mkF m 27 #[.val (.int k)] [(.int k)])) _
    refine XS.iconst X0.here hx rfl (hb hby d1_27) ?_
    show Steps p.tables e below (s₁.setTop (mkF m 28 #[.val (.int k)] [(.int (3 : Int32)), (.int k)])) _
    refine XS.icmpYes X0.here hx rfl (pc0 := 28) (pc' := 35) rfl (hb hby d1_28) rfl (feq hc28).2 (by decide) (by decide) ?_
    show Steps p.tables e below (s₁.setTop (mkF m 35 #[.val (.int k)] [])) _
    refine XS.iloadN X0.here hx rfl (hb hby d1_35) rfl ?_
    show Steps p.tables e below (s₁.setTop (mkF m 36 #[.val (.int k)] [(.int k)])) _
    refine XS.iconst X0.here hx rfl (hb hby d1_36) ?_
    show Steps p.tables e below (s₁.setTop (mkF m 37 #[.val (.int k)] [(.int (4 : Int32)), (.int k)])) _
    refine XS.icmpYes X0.here hx rfl (pc0 := 37) (pc' := 44) rfl (hb hby d1_37) rfl (feq hc37).2 (by decide) (by decide) ?_
    show Steps p.tables e below (s₁.setTop (mkF m 44 #[.val (.int k)] [])) _
    refine st6 _ ?_
    show Steps p.tables e below (T6.setTop (mkF m 47 #[.val (.int k)] [(.ref w)])) _
    jvm_step X6.here [X6.here.top, hx, (hb hby d1_47), X6.method', Bd.returns, Value.isRef, FieldType.isReference]
    first | (intro acts; rw [hr _ acts rfl rfl rfl]) | rw [hr _ _ rfl rfl rfl]
    exact Steps.refl _
  · show QV (.ref w) h0 n0 _ T6.heap _
    rw [e6]
    exact ⟨rfl, N0, rfl⟩
def OpW (Z : State) (h0 : Heap) (k : Int32) (w : Addr) : Prop := (k = 0 ∧ Sta Z h0 "com/example/brisk_sifter/brisksifter/Formula$Operator" "EQUAL" "Lcom/example/brisk_sifter/brisksifter/Formula$Operator;" (.ref w)) ∨ (k = 1 ∧ Sta Z h0 "com/example/brisk_sifter/brisksifter/Formula$Operator" "NOT_EQUAL" "Lcom/example/brisk_sifter/brisksifter/Formula$Operator;" (.ref w)) ∨ (k = 2 ∧ Sta Z h0 "com/example/brisk_sifter/brisksifter/Formula$Operator" "LESS" "Lcom/example/brisk_sifter/brisksifter/Formula$Operator;" (.ref w)) ∨ (k = 3 ∧ Sta Z h0 "com/example/brisk_sifter/brisksifter/Formula$Operator" "LESS_OR_EQUAL" "Lcom/example/brisk_sifter/brisksifter/Formula$Operator;" (.ref w)) ∨ (k = 4 ∧ Sta Z h0 "com/example/brisk_sifter/brisksifter/Formula$Operator" "GREATER" "Lcom/example/brisk_sifter/brisksifter/Formula$Operator;" (.ref w)) ∨ (k = 5 ∧ Sta Z h0 "com/example/brisk_sifter/brisksifter/Formula$Operator" "GREATER_OR_EQUAL" "Lcom/example/brisk_sifter/brisksifter/Formula$Operator;" (.ref w))
theorem OpW.ext {Z : State} {h h' : Heap} {k : Int32} {w : Addr} (H : OpW Z h k w) (E : Ext h h') : OpW Z h' k w := by
  rcases H with ⟨q, S⟩ | ⟨q, S⟩ | ⟨q, S⟩ | ⟨q, S⟩ | ⟨q, S⟩ | ⟨q, S⟩
  · exact Or.inl ⟨q, S.ext E⟩
  · exact Or.inr (Or.inl ⟨q, S.ext E⟩)
  · exact Or.inr (Or.inr (Or.inl ⟨q, S.ext E⟩))
  · exact Or.inr (Or.inr (Or.inr (Or.inl ⟨q, S.ext E⟩)))
  · exact Or.inr (Or.inr (Or.inr (Or.inr (Or.inl ⟨q, S.ext E⟩))))
  · exact Or.inr (Or.inr (Or.inr (Or.inr (Or.inr (⟨q, S.ext E⟩)))))
theorem rop (l : Launch) (Z : State) (a0 : Array Value) (hw : ∀ d ∈ tables_1, d.before a0 Z = true) (ws : List Jvm.Cond) (k : Int32) (w : Addr) (h0 : Heap) (n0 : Nat) (Z0 : n0 ≤ h0.size) (hk : OpW Z h0 k w) :
    MetFree l (⟨"com/example/brisk_sifter/brisksifter/JoinEqualsPinLaw", "op", "(I)Lcom/example/brisk_sifter/brisksifter/Formula$Operator;"⟩ : MethodName) (head1 (Jvm.Cond.code (⟨"com/example/brisk_sifter/brisksifter/JoinEqualsPinLaw", "op", "(I)Lcom/example/brisk_sifter/brisksifter/Formula$Operator;"⟩ : MethodName) method_2_code 1 (some (.object "com/example/brisk_sifter/brisksifter/Formula$Operator")) :: ws) ({ frames := 0, cells := 0, slots := 0, locals := 0 } : Room)) (fun zA zU => zA = #[(.int k)] ∧ Z.Warmed39 zU.vm ∧ zU.heap = h0) (fun _ _ _ _ _ => True) (fun _ zU zO zW => ∃ zV zL, zO = .returned zV ∧ QV (.ref w) h0 n0 zV zW.heap zL ∧ FrameEnd zU zO zW zL ({ frames := 0, cells := 0, slots := 0, locals := 0 } : Room).cells ({ frames := 0, cells := 0, slots := 0, locals := 0 } : Room).slots) := by
  rcases hk with ⟨rfl, S⟩ | ⟨rfl, S⟩ | ⟨rfl, S⟩ | ⟨rfl, S⟩ | ⟨rfl, S⟩ | ⟨rfl, S⟩
  · exact rp0 l Z a0 hw ws _ w h0 n0 Z0 S (by decide)
  · exact rp1 l Z a0 hw ws _ w h0 n0 Z0 S (by decide) (by decide)
  · exact rp2 l Z a0 hw ws _ w h0 n0 Z0 S (by decide) (by decide) (by decide)
  · exact rp3 l Z a0 hw ws _ w h0 n0 Z0 S (by decide) (by decide) (by decide) (by decide)
  · exact rp4 l Z a0 hw ws _ w h0 n0 Z0 S (by decide) (by decide) (by decide) (by decide) (by decide)
  · exact rp5 l Z a0 hw ws _ w h0 n0 Z0 S (by decide) (by decide) (by decide) (by decide) (by decide)
def QN (h0 : Heap) (n0 : Nat) (v : Option Value) (h : Heap) (L : List Loc) : Prop := v = none ∧ Fr n0 L ∧ h = h0
theorem d3_0 : decode prog_18_method_1_code 0 = .ok (.aload_n 0, 1) := by decide +kernel
theorem d3_1 : decode prog_18_method_1_code 1 = .ok (.invokespecial 3, 3) := by decide +kernel
theorem d3_4 : decode prog_18_method_1_code 4 = .ok (.return_, 1) := by decide +kernel
theorem ef_3_R (m : MethodId) (x0 : Addr) : entryFrame m #[(.ref x0)] 1 = mkF m 0 #[.val (.ref x0)] [] := by first | (simp [entryFrame, mkF, argsToLocals, Value.category]; done) | rfl
theorem pn_Formula : plainName "com/example/brisk_sifter/brisksifter/Formula" = true := by first | (simp [plainName, overriddenIn]; done) | decide +kernel
set_option maxRecDepth 65536 in
set_option maxHeartbeats 40000000 in
theorem rfi (l : Launch) (Z : State) (a0 : Array Value) (hw : ∀ d ∈ tables_1, d.before a0 Z = true) (ws : List Jvm.Cond) (a : Addr) (h0 : Heap) (n0 : Nat) (Z0 : n0 ≤ h0.size)  :
    MetFree l (⟨"com/example/brisk_sifter/brisksifter/Formula", "<init>", "()V"⟩ : MethodName) (head1 (Jvm.Cond.code (⟨"com/example/brisk_sifter/brisksifter/Formula", "<init>", "()V"⟩ : MethodName) prog_18_method_1_code 1 none :: ws) ({ frames := 1, cells := 0, slots := 0, locals := 12 } : Room)) (fun zA zU => zA = #[(.ref a)] ∧ Z.Warmed39 zU.vm ∧ zU.heap = h0) (fun _ _ _ _ _ => True) (fun _ zU zO zW => ∃ zV zL, zO = .returned zV ∧ QN h0 n0 zV zW.heap zL ∧ FrameEnd zU zO zW zL ({ frames := 1, cells := 0, slots := 0, locals := 12 } : Room).cells ({ frames := 1, cells := 0, slots := 0, locals := 12 } : Room).slots) := by
  refine MetFree.of_bodySF (plainFor_of_name pn_Formula) hisR ?_
  intro p e s m args below meth c s₁ Bd hml0 hP hK
  obtain ⟨rfl, hZ, hh⟩ := hP
  have hx := Bd.exec
  have hby := Bd.bytes
  have hml : c.maxLocals = 1 := hml0
  have hown : s.vm.findClass "com/example/brisk_sifter/brisksifter/Formula" = some m.cls := findClass_of_methodNamed Bd.named
  have hnm := (name_of_methodNamed Bd.named Bd.method).1
  have X0 : Stand p l e ({ frames := 1, cells := 0, slots := 0, locals := 12 } : Room) s m #[(.ref a)] below meth c s₁ [] 0 0 := Stand.of_body Bd
  have e0 : s₁.heap = h0 := by rw [← hh, Bd.state]; rfl
  have N0 := Fr.nil n0
  have pre0 : ∀ zt, Steps p.tables e below (s₁.setTop (mkF m 0 #[.val (.ref a)] [])) zt → Steps p.tables e below (s₁.setTop (entryFrame m #[(.ref a)] 1)) zt := fun zt zk => castTop (ef_3_R m a) zk
  obtain ⟨T7, X7, e7, st7⟩ := initO X0 hx hZ hown (hw _ (List.mem_of_getElem? (i := 19) rfl)) (hw _ (List.mem_of_getElem? (i := 20) rfl)) (hw _ (List.mem_of_getElem? (i := 21) rfl)) e0 (g := (mkF m 1 #[.val (.ref a)] [(.ref a)])) rfl (by rw [hml]; rfl) rfl (hb hby d3_1) (by decide) (W := 0) (by show 2 * 0 + _ ≤ _; exact Nat.le_of_eq rfl) (by decide)
  obtain ⟨fs, hr, hrun, hended, hW, hsame⟩ := X7.leave (v := none) (fun _ => rfl)
  refine ⟨_, _, pre0 _ ?_, hrun, hended, _, _, rfl, ?_, ⟨_, rfl⟩, hW, hsame.mono (by decide) (by decide)⟩
  · show Steps p.tables e below (s₁.setTop (mkF m 0 #[.val (.ref a)] [])) _
    refine XS.aloadN X0.here hx rfl (hb hby d3_0) rfl rfl ?_
    show Steps p.tables e below (s₁.setTop (mkF m 1 #[.val (.ref a)] [(.ref a)])) _
    refine st7 _ ?_
    show Steps p.tables e below (T7.setTop (mkF m 4 #[.val (.ref a)] [])) _
    exact X7.returnOut hx Bd.returns (hb hby d3_4) hr
  · show QN h0 n0 _ T7.heap _
    rw [e7]
    exact ⟨rfl, N0, rfl⟩
def QJ (Z : State) (a : Addr) (x : Int32) (o : Addr) (y : Int32) (h0 : Heap) (n0 : Nat) (v : Option Value) (h : Heap) (L : List Loc) : Prop := v = none ∧ Fr n0 L ∧ Keep h0 h [a] ∧ Exa Z h a "com/example/brisk_sifter/brisksifter/Formula$Join" ∧ (Fld Z h a "com/example/brisk_sifter/brisksifter/Formula$Join" "_left" "I" (.int x)) ∧ (Fld Z h a "com/example/brisk_sifter/brisksifter/Formula$Join" "_operator" "Lcom/example/brisk_sifter/brisksifter/Formula$Operator;" (.ref o)) ∧ (Fld Z h a "com/example/brisk_sifter/brisksifter/Formula$Join" "_right" "I" (.int y))
theorem d2_0 : decode prog_24_method_1_code 0 = .ok (.aload_n 0, 1) := by decide +kernel
theorem d2_1 : decode prog_24_method_1_code 1 = .ok (.invokespecial 3, 3) := by decide +kernel
theorem pd_0 : parseMethodDescriptor "()V" = some ⟨[], none⟩ := by decide +kernel
theorem d2_4 : decode prog_24_method_1_code 4 = .ok (.aload_n 0, 1) := by decide +kernel
theorem d2_5 : decode prog_24_method_1_code 5 = .ok (.iload_n 1, 1) := by decide +kernel
theorem d2_6 : decode prog_24_method_1_code 6 = .ok (.putfield 7, 3) := by decide +kernel
theorem d2_9 : decode prog_24_method_1_code 9 = .ok (.aload_n 0, 1) := by decide +kernel
theorem d2_10 : decode prog_24_method_1_code 10 = .ok (.aload_n 2, 1) := by decide +kernel
theorem d2_11 : decode prog_24_method_1_code 11 = .ok (.putfield 13, 3) := by decide +kernel
theorem d2_14 : decode prog_24_method_1_code 14 = .ok (.aload_n 0, 1) := by decide +kernel
theorem d2_15 : decode prog_24_method_1_code 15 = .ok (.iload_n 3, 1) := by decide +kernel
theorem d2_16 : decode prog_24_method_1_code 16 = .ok (.putfield 17, 3) := by decide +kernel
theorem d2_19 : decode prog_24_method_1_code 19 = .ok (.return_, 1) := by decide +kernel
theorem ef_2_RIRI (m : MethodId) (x0 : Addr) (x1 : Int32) (x2 : Addr) (x3 : Int32) : entryFrame m #[(.ref x0), (.int x1), (.ref x2), (.int x3)] 4 = mkF m 0 #[.val (.ref x0), .val (.int x1), .val (.ref x2), .val (.int x3)] [] := by first | (simp [entryFrame, mkF, argsToLocals, Value.category]; done) | rfl
theorem pn_Formula_Join : plainName "com/example/brisk_sifter/brisksifter/Formula$Join" = true := by first | (simp [plainName, overriddenIn]; done) | decide +kernel
set_option maxRecDepth 65536 in
set_option maxHeartbeats 40000000 in
theorem rji (l : Launch) (Z : State) (a0 : Array Value) (hw : ∀ d ∈ tables_1, d.before a0 Z = true) (ws : List Jvm.Cond) (a : Addr) (x : Int32) (o : Addr) (y : Int32) (h0 : Heap) (n0 : Nat) (Z0 : n0 ≤ h0.size) (Ea : Exa Z h0 a "com/example/brisk_sifter/brisksifter/Formula$Join") (F1 : Fld Z h0 a "com/example/brisk_sifter/brisksifter/Formula$Join" "_left" "I" (.int (0 : Int32))) (F2 : Fld Z h0 a "com/example/brisk_sifter/brisksifter/Formula$Join" "_operator" "Lcom/example/brisk_sifter/brisksifter/Formula$Operator;" .null) (F3 : Fld Z h0 a "com/example/brisk_sifter/brisksifter/Formula$Join" "_right" "I" (.int (0 : Int32))) (ga : n0 ≤ a) :
    MetFree l (⟨"com/example/brisk_sifter/brisksifter/Formula$Join", "<init>", "(ILcom/example/brisk_sifter/brisksifter/Formula$Operator;I)V"⟩ : MethodName) (head1 (Jvm.Cond.code (⟨"com/example/brisk_sifter/brisksifter/Formula$Join", "<init>", "(ILcom/example/brisk_sifter/brisksifter/Formula$Operator;I)V"⟩ : MethodName) prog_24_method_1_code 4 none :: ws) ({ frames := 2, cells := 0, slots := 0, locals := 24 } : Room)) (fun zA zU => zA = #[(.ref a), (.int x), (.ref o), (.int y)] ∧ Z.Warmed39 zU.vm ∧ zU.heap = h0) (fun _ _ _ _ _ => True) (fun _ zU zO zW => ∃ zV zL, zO = .returned zV ∧ QJ Z a x o y h0 n0 zV zW.heap zL ∧ FrameEnd zU zO zW zL ({ frames := 2, cells := 0, slots := 0, locals := 24 } : Room).cells ({ frames := 2, cells := 0, slots := 0, locals := 24 } : Room).slots) := by
  refine MetFree.of_bodySF (plainFor_of_name pn_Formula_Join) hisR ?_
  intro p e s m args below meth c s₁ Bd hml0 hP hK
  obtain ⟨rfl, hZ, hh⟩ := hP
  have hx := Bd.exec
  have hby := Bd.bytes
  have hml : c.maxLocals = 4 := hml0
  have hown : s.vm.findClass "com/example/brisk_sifter/brisksifter/Formula$Join" = some m.cls := findClass_of_methodNamed Bd.named
  have hnm := (name_of_methodNamed Bd.named Bd.method).1
  have X0 : Stand p l e ({ frames := 2, cells := 0, slots := 0, locals := 24 } : Room) s m #[(.ref a), (.int x), (.ref o), (.int y)] below meth c s₁ [] 0 0 := Stand.of_body Bd
  have e0 : s₁.heap = h0 := by rw [← hh, Bd.state]; rfl
  have N0 := Fr.nil n0
  have pre0 : ∀ zt, Steps p.tables e below (s₁.setTop (mkF m 0 #[.val (.ref a), .val (.int x), .val (.ref o), .val (.int y)] [])) zt → Steps p.tables e below (s₁.setTop (entryFrame m #[(.ref a), (.int x), (.ref o), (.int y)] 4)) zt := fun zt zk => castTop (ef_2_RIRI m a x o y) zk
  obtain ⟨_, _, ⟨T8, L8, k8, n8⟩, -, X8, ⟨Lc8, hQ8, l8, y8, z8⟩, st8⟩ := X0.specialBack hx (y := (⟨"com/example/brisk_sifter/brisksifter/Formula", "<init>", "()V"⟩ : MethodName)) rfl hown (mvT hZ (hw _ (List.mem_of_getElem? (i := 14) rfl))) (mvT hZ (hw _ (List.mem_of_getElem? (i := 15) rfl))) (mvT hZ (hw _ (List.mem_of_getElem? (i := 18) rfl))) (by decide) (backOf (W := 0) (rfi l Z a0 hw [] a h0 n0 Z0) hZ (hw _ (List.mem_of_getElem? (i := 18) rfl)) (hw _ (List.mem_of_getElem? (i := 17) rfl)) (by decide) (by decide)) (g := (mkF m 1 #[.val (.ref a), .val (.int x), .val (.ref o), .val (.int y)] [(.ref a)])) rfl (by rw [hml]; rfl) (Steps.refl _) (a := a) (argsL := []) (rest := []) (lenOf pd_0 rfl) rfl (by show 2 * 0 + _ ≤ _; exact Nat.le_of_eq rfl) (hb hby d2_1) (fun _ _ => ⟨rfl, e0, (by decide : 0 + 0 ≤ _), (by decide : 0 + 0 ≤ _)⟩)
  dsimp only [Pt.U, Pt.locs, Pt.cells, Pt.slots] at X8 l8 y8 z8 st8 hQ8
  subst l8 y8 z8
  obtain ⟨rfl, Nq8, e8⟩ := hQ8
  have N8 := Fr.app N0 Nq8
  obtain ⟨T9, h9, X9, e9, W9, st9⟩ := putF X8 hx hZ hown (host := "") (Or.inl (hw _ (List.mem_of_getElem? (i := 22) rfl))) Via.refl e8 F1 Ea (Or.inr ⟨(hw _ (List.mem_of_getElem? (i := 23) rfl)), rfl, hnm⟩) (hw _ (List.mem_of_getElem? (i := 2) rfl)) (ty := .int) (by decide) rfl rfl (g := (mkF m 6 #[.val (.ref a), .val (.int x), .val (.ref o), .val (.int y)] [(.int x), (.ref a)])) rfl rfl (hb hby d2_6)
  have N9 := Fr.snoc X9 N8 ga
  have F10 := F1.same W9
  have F11 := F2.other W9 (Or.inr (slot_ne (Or.inr (hw _ (List.mem_of_getElem? (i := 25) rfl))) (Or.inr (hw _ (List.mem_of_getElem? (i := 23) rfl))) (by decide) (t := (.object "com/example/brisk_sifter/brisksifter/Formula$Operator")) (t' := .int) (by decide) (by decide)))
  have F12 := F3.other W9 (Or.inr (slot_ne (Or.inr (hw _ (List.mem_of_getElem? (i := 27) rfl))) (Or.inr (hw _ (List.mem_of_getElem? (i := 23) rfl))) (by decide) (t := .int) (t' := .int) (by decide) (by decide)))
  have E13 := Ea.wr W9
  have Z9 := Nat.le_trans Z0 (Keep.of_wr W9).1
  have K9 := (Keep.refl h0 [a]).wr W9 (Or.inl (List.mem_of_getElem? (i := 0) rfl))
  obtain ⟨T14, h14, X14, e14, W14, st14⟩ := putF X9 hx hZ hown (host := "") (Or.inl (hw _ (List.mem_of_getElem? (i := 24) rfl))) Via.refl e9 F11 E13 (Or.inr ⟨(hw _ (List.mem_of_getElem? (i := 25) rfl)), rfl, hnm⟩) (hw _ (List.mem_of_getElem? (i := 2) rfl)) (ty := (.object "com/example/brisk_sifter/brisksifter/Formula$Operator")) (by decide) rfl rfl (g := (mkF m 11 #[.val (.ref a), .val (.int x), .val (.ref o), .val (.int y)] [(.ref o), (.ref a)])) rfl rfl (hb hby d2_11)
  have N14 := Fr.snoc X14 N9 ga
  have F15 := F10.other W14 (Or.inr (slot_ne (Or.inr (hw _ (List.mem_of_getElem? (i := 23) rfl))) (Or.inr (hw _ (List.mem_of_getElem? (i := 25) rfl))) (by decide) (t := .int) (t' := (.object "com/example/brisk_sifter/brisksifter/Formula$Operator")) (by decide) (by decide)))
  have F16 := F11.same W14
  have F17 := F12.other W14 (Or.inr (slot_ne (Or.inr (hw _ (List.mem_of_getElem? (i := 27) rfl))) (Or.inr (hw _ (List.mem_of_getElem? (i := 25) rfl))) (by decide) (t := .int) (t' := (.object "com/example/brisk_sifter/brisksifter/Formula$Operator")) (by decide) (by decide)))
  have E18 := E13.wr W14
  have Z14 := Nat.le_trans Z9 (Keep.of_wr W14).1
  have K14 := K9.wr W14 (Or.inl (List.mem_of_getElem? (i := 0) rfl))
  obtain ⟨T19, h19, X19, e19, W19, st19⟩ := putF X14 hx hZ hown (host := "") (Or.inl (hw _ (List.mem_of_getElem? (i := 26) rfl))) Via.refl e14 F17 E18 (Or.inr ⟨(hw _ (List.mem_of_getElem? (i := 27) rfl)), rfl, hnm⟩) (hw _ (List.mem_of_getElem? (i := 2) rfl)) (ty := .int) (by decide) rfl rfl (g := (mkF m 16 #[.val (.ref a), .val (.int x), .val (.ref o), .val (.int y)] [(.int y), (.ref a)])) rfl rfl (hb hby d2_16)
  have N19 := Fr.snoc X19 N14 ga
  have F20 := F15.other W19 (Or.inr (slot_ne (Or.inr (hw _ (List.mem_of_getElem? (i := 23) rfl))) (Or.inr (hw _ (List.mem_of_getElem? (i := 27) rfl))) (by decide) (t := .int) (t' := .int) (by decide) (by decide)))
  have F21 := F16.other W19 (Or.inr (slot_ne (Or.inr (hw _ (List.mem_of_getElem? (i := 25) rfl))) (Or.inr (hw _ (List.mem_of_getElem? (i := 27) rfl))) (by decide) (t := (.object "com/example/brisk_sifter/brisksifter/Formula$Operator")) (t' := .int) (by decide) (by decide)))
  have F22 := F17.same W19
  have E23 := E18.wr W19
  have Z19 := Nat.le_trans Z14 (Keep.of_wr W19).1
  have K19 := K14.wr W19 (Or.inl (List.mem_of_getElem? (i := 0) rfl))
  obtain ⟨fs, hr, hrun, hended, hW, hsame⟩ := X19.leave (v := none) (fun _ => rfl)
  refine ⟨_, _, pre0 _ ?_, hrun, hended, _, _, rfl, ?_, ⟨_, rfl⟩, hW, hsame.mono (by decide) (by decide)⟩
  · show Steps p.tables e below (s₁.setTop (mkF m 0 #[.val (.ref a), .val (.int x), .val (.ref o), .val (.int y)] [])) _
    refine XS.aloadN X0.here hx rfl (hb hby d2_0) rfl rfl ?_
    show Steps p.tables e below (s₁.setTop (mkF m 1 #[.val (.ref a), .val (.int x), .val (.ref o), .val (.int y)] [(.ref a)])) _
    refine st8.trans ?_
    show Steps p.tables e below (T8.setTop (mkF m 4 #[.val (.ref a), .val (.int x), .val (.ref o), .val (.int y)] [])) _
    refine XS.aloadN X8.here hx rfl (hb hby d2_4) rfl rfl ?_
    show Steps p.tables e below (T8.setTop (mkF m 5 #[.val (.ref a), .val (.int x), .val (.ref o), .val (.int y)] [(.ref a)])) _
    refine XS.iloadN X8.here hx rfl (hb hby d2_5) rfl ?_
    show Steps p.tables e below (T8.setTop (mkF m 6 #[.val (.ref a), .val (.int x), .val (.ref o), .val (.int y)] [(.int x), (.ref a)])) _
    refine st9 _ ?_
    show Steps p.tables e below (T9.setTop (mkF m 9 #[.val (.ref a), .val (.int x), .val (.ref o), .val (.int y)] [])) _
    refine XS.aloadN X9.here hx rfl (hb hby d2_9) rfl rfl ?_
    show Steps p.tables e below (T9.setTop (mkF m 10 #[.val (.ref a), .val (.int x), .val (.ref o), .val (.int y)] [(.ref a)])) _
    refine XS.aloadN X9.here hx rfl (hb hby d2_10) rfl rfl ?_
    show Steps p.tables e below (T9.setTop (mkF m 11 #[.val (.ref a), .val (.int x), .val (.ref o), .val (.int y)] [(.ref o), (.ref a)])) _
    refine st14 _ ?_
    show Steps p.tables e below (T14.setTop (mkF m 14 #[.val (.ref a), .val (.int x), .val (.ref o), .val (.int y)] [])) _
    refine XS.aloadN X14.here hx rfl (hb hby d2_14) rfl rfl ?_
    show Steps p.tables e below (T14.setTop (mkF m 15 #[.val (.ref a), .val (.int x), .val (.ref o), .val (.int y)] [(.ref a)])) _
    refine XS.iloadN X14.here hx rfl (hb hby d2_15) rfl ?_
    show Steps p.tables e below (T14.setTop (mkF m 16 #[.val (.ref a), .val (.int x), .val (.ref o), .val (.int y)] [(.int y), (.ref a)])) _
    refine st19 _ ?_
    show Steps p.tables e below (T19.setTop (mkF m 19 #[.val (.ref a), .val (.int x), .val (.ref o), .val (.int y)] [])) _
    exact X19.returnOut hx Bd.returns (hb hby d2_19) hr
  · show QJ Z a x o y h0 n0 _ T19.heap _
    rw [e19]
    exact ⟨rfl, N19, K19, E23, F20, F21, F22⟩
theorem d5_0 : decode prog_24_method_11_code 0 = .ok (.aload_n 1, 1) := by decide +kernel
theorem d5_1 : decode prog_24_method_11_code 1 = .ok (.instanceof 8, 3) := by decide +kernel
theorem d5_4 : decode prog_24_method_11_code 4 = .ok (.ifCond .eq 49, 3) := by decide +kernel
theorem d5_7 : decode prog_24_method_11_code 7 = .ok (.aload_n 0, 1) := by decide +kernel
theorem d5_8 : decode prog_24_method_11_code 8 = .ok (.getfield 7, 3) := by decide +kernel
theorem d5_11 : decode prog_24_method_11_code 11 = .ok (.aload_n 1, 1) := by decide +kernel
theorem d5_12 : decode prog_24_method_11_code 12 = .ok (.checkcast 8, 3) := by decide +kernel
theorem d5_15 : decode prog_24_method_11_code 15 = .ok (.getfield 7, 3) := by decide +kernel
theorem d5_18 : decode prog_24_method_11_code 18 = .ok (.if_icmp .ne 35, 3) := by decide +kernel
theorem d5_21 : decode prog_24_method_11_code 21 = .ok (.aload_n 0, 1) := by decide +kernel
theorem d5_22 : decode prog_24_method_11_code 22 = .ok (.getfield 13, 3) := by decide +kernel
theorem d5_25 : decode prog_24_method_11_code 25 = .ok (.aload_n 1, 1) := by decide +kernel
theorem d5_26 : decode prog_24_method_11_code 26 = .ok (.checkcast 8, 3) := by decide +kernel
theorem d5_29 : decode prog_24_method_11_code 29 = .ok (.getfield 13, 3) := by decide +kernel
theorem d5_32 : decode prog_24_method_11_code 32 = .ok (.if_acmp .ne 21, 3) := by decide +kernel
theorem d5_35 : decode prog_24_method_11_code 35 = .ok (.aload_n 0, 1) := by decide +kernel
theorem d5_36 : decode prog_24_method_11_code 36 = .ok (.getfield 17, 3) := by decide +kernel
theorem d5_39 : decode prog_24_method_11_code 39 = .ok (.aload_n 1, 1) := by decide +kernel
theorem d5_40 : decode prog_24_method_11_code 40 = .ok (.checkcast 8, 3) := by decide +kernel
theorem d5_43 : decode prog_24_method_11_code 43 = .ok (.getfield 17, 3) := by decide +kernel
theorem d5_46 : decode prog_24_method_11_code 46 = .ok (.if_icmp .ne 7, 3) := by decide +kernel
theorem d5_49 : decode prog_24_method_11_code 49 = .ok (.iconst 1, 1) := by decide +kernel
theorem d5_50 : decode prog_24_method_11_code 50 = .ok (.goto 4, 3) := by decide +kernel
theorem d5_54 : decode prog_24_method_11_code 54 = .ok (.ireturn, 1) := by decide +kernel
theorem ef_5_RR (m : MethodId) (x0 : Addr) (x1 : Addr) : entryFrame m #[(.ref x0), (.ref x1)] 2 = mkF m 0 #[.val (.ref x0), .val (.ref x1)] [] := by first | (simp [entryFrame, mkF, argsToLocals, Value.category]; done) | rfl
set_option maxRecDepth 65536 in
set_option maxHeartbeats 40000000 in
theorem rq1 (l : Launch) (Z : State) (a0 : Array Value) (hw : ∀ d ∈ tables_1, d.before a0 Z = true) (ws : List Jvm.Cond) (a b : Addr) (x : Int32) (o : Addr) (y : Int32) (x' : Int32) (o' : Addr) (y' : Int32) (h0 : Heap) (n0 : Nat) (Z0 : n0 ≤ h0.size) (A1 : Fld Z h0 a "com/example/brisk_sifter/brisksifter/Formula$Join" "_left" "I" (.int x)) (A2 : Fld Z h0 a "com/example/brisk_sifter/brisksifter/Formula$Join" "_operator" "Lcom/example/brisk_sifter/brisksifter/Formula$Operator;" (.ref o)) (A3 : Fld Z h0 a "com/example/brisk_sifter/brisksifter/Formula$Join" "_right" "I" (.int y)) (Eb : Exa Z h0 b "com/example/brisk_sifter/brisksifter/Formula$Join") (B1 : Fld Z h0 b "com/example/brisk_sifter/brisksifter/Formula$Join" "_left" "I" (.int x')) (B2 : Fld Z h0 b "com/example/brisk_sifter/brisksifter/Formula$Join" "_operator" "Lcom/example/brisk_sifter/brisksifter/Formula$Operator;" (.ref o')) (B3 : Fld Z h0 b "com/example/brisk_sifter/brisksifter/Formula$Join" "_right" "I" (.int y')) (hc18 : x = x') (ha32 : o = o') (hc46 : y = y') :
    MetFree l (⟨"com/example/brisk_sifter/brisksifter/Formula$Join", "equals", "(Ljava/lang/Object;)Z"⟩ : MethodName) (head1 (Jvm.Cond.code (⟨"com/example/brisk_sifter/brisksifter/Formula$Join", "equals", "(Ljava/lang/Object;)Z"⟩ : MethodName) prog_24_method_11_code 2 (some .boolean) :: ws) ({ frames := 0, cells := 0, slots := 0, locals := 0 } : Room)) (fun zA zU => zA = #[(.ref a), (.ref b)] ∧ Z.Warmed39 zU.vm ∧ zU.heap = h0) (fun _ _ _ _ _ => True) (fun _ zU zO zW => ∃ zV zL, zO = .returned zV ∧ QV (.int 1) h0 n0 zV zW.heap zL ∧ FrameEnd zU zO zW zL ({ frames := 0, cells := 0, slots := 0, locals := 0 } : Room).cells ({ frames := 0, cells := 0, slots := 0, locals := 0 } : Room).slots) := by
  refine MetFree.of_bodySF (plainFor_of_name pn_Formula_Join) hisR ?_
  intro p e s m args below meth c s₁ Bd hml0 hP hK
  obtain ⟨rfl, hZ, hh⟩ := hP
  have hx := Bd.exec
  have hby := Bd.bytes
  have hml : c.maxLocals = 2 := hml0
  have hown : s.vm.findClass "com/example/brisk_sifter/brisksifter/Formula$Join" = some m.cls := findClass_of_methodNamed Bd.named
  have hnm := (name_of_methodNamed Bd.named Bd.method).1
  have X0 : Stand p l e ({ frames := 0, cells := 0, slots := 0, locals := 0 } : Room) s m #[(.ref a), (.ref b)] below meth c s₁ [] 0 0 := Stand.of_body Bd
  have e0 : s₁.heap = h0 := by rw [← hh, Bd.state]; rfl
  have N0 := Fr.nil n0
  have pre0 : ∀ zt, Steps p.tables e below (s₁.setTop (mkF m 0 #[.val (.ref a), .val (.ref b)] [])) zt → Steps p.tables e below (s₁.setTop (entryFrame m #[(.ref a), (.ref b)] 2)) zt := fun zt zk => castTop (ef_5_RR m a b) zk
  obtain ⟨T24, X24, e24, st24⟩ := instY X0 hx hZ hown (hw _ (List.mem_of_getElem? (i := 35) rfl)) e0 (Ins.self Eb) (g := (mkF m 1 #[.val (.ref a), .val (.ref b)] [(.ref b)])) rfl rfl (hb hby d5_1)
  obtain ⟨T25, X25, e25, st25⟩ := getF X24 hx hZ hown (host := "") (Or.inl (hw _ (List.mem_of_getElem? (i := 22) rfl))) Via.refl e24 A1 (g := (mkF m 8 #[.val (.ref a), .val (.ref b)] [(.ref a)])) rfl rfl (hb hby d5_8)
  obtain ⟨T26, X26, e26, st26⟩ := castY X25 hx hZ hown (hw _ (List.mem_of_getElem? (i := 35) rfl)) e25 (Ins.self Eb) (g := (mkF m 12 #[.val (.ref a), .val (.ref b)] [(.ref b), (.int x)])) rfl rfl (hb hby d5_12)
  obtain ⟨T27, X27, e27, st27⟩ := getF X26 hx hZ hown (host := "") (Or.inl (hw _ (List.mem_of_getElem? (i := 22) rfl))) Via.refl e26 B1 (g := (mkF m 15 #[.val (.ref a), .val (.ref b)] [(.ref b), (.int x)])) rfl rfl (hb hby d5_15)
  obtain ⟨T28, X28, e28, st28⟩ := getF X27 hx hZ hown (host := "") (Or.inl (hw _ (List.mem_of_getElem? (i := 24) rfl))) Via.refl e27 A2 (g := (mkF m 22 #[.val (.ref a), .val (.ref b)] [(.ref a)])) rfl rfl (hb hby d5_22)
  obtain ⟨T29, X29, e29, st29⟩ := castY X28 hx hZ hown (hw _ (List.mem_of_getElem? (i := 35) rfl)) e28 (Ins.self Eb) (g := (mkF m 26 #[.val (.ref a), .val (.ref b)] [(.ref b), (.ref o)])) rfl rfl (hb hby d5_26)
  obtain ⟨T30, X30, e30, st30⟩ := getF X29 hx hZ hown (host := "") (Or.inl (hw _ (List.mem_of_getElem? (i := 24) rfl))) Via.refl e29 B2 (g := (mkF m 29 #[.val (.ref a), .val (.ref b)] [(.ref b), (.ref o)])) rfl rfl (hb hby d5_29)
  obtain ⟨T31, X31, e31, st31⟩ := getF X30 hx hZ hown (host := "") (Or.inl (hw _ (List.mem_of_getElem? (i := 26) rfl))) Via.refl e30 A3 (g := (mkF m 36 #[.val (.ref a), .val (.ref b)] [(.ref a)])) rfl rfl (hb hby d5_36)
  obtain ⟨T32, X32, e32, st32⟩ := castY X31 hx hZ hown (hw _ (List.mem_of_getElem? (i := 35) rfl)) e31 (Ins.self Eb) (g := (mkF m 40 #[.val (.ref a), .val (.ref b)] [(.ref b), (.int y)])) rfl rfl (hb hby d5_40)
  obtain ⟨T33, X33, e33, st33⟩ := getF X32 hx hZ hown (host := "") (Or.inl (hw _ (List.mem_of_getElem? (i := 26) rfl))) Via.refl e32 B3 (g := (mkF m 43 #[.val (.ref a), .val (.ref b)] [(.ref b), (.int y)])) rfl rfl (hb hby d5_43)
  obtain ⟨fs, hr, hrun, hended, hW, hsame⟩ := X33.leave (v := some (.int (1 : Int32))) (fun h => by rw [Bd.returns] at h; cases h)
  refine ⟨_, _, pre0 _ ?_, hrun, hended, _, _, rfl, ?_, ⟨_, rfl⟩, hW, hsame.mono (by decide) (by decide)⟩
  · show Steps p.tables e below (s₁.setTop (mkF m 0 #[.val (.ref a), .val (.ref b)] [])) _
    refine XS.aloadN X0.here hx rfl (hb hby d5_0) rfl rfl ?_
    show Steps p.tables e below (s₁.setTop (mkF m 1 #[.val (.ref a), .val (.ref b)] [(.ref b)])) _
    refine st24 _ ?_
    show Steps p.tables e below (T24.setTop (mkF m 4 #[.val (.ref a), .val (.ref b)] [(.int (1 : Int32))])) _
    refine XS.ifNo X24.here hx rfl (hb hby d5_4) rfl ((if0 _ _).trans (feq (by decide)).1) ?_
    show Steps p.tables e below (T24.setTop (mkF m 7 #[.val (.ref a), .val (.ref b)] [])) _
    refine XS.aloadN X24.here hx rfl (hb hby d5_7) rfl rfl ?_
    show Steps p.tables e below (T24.setTop (mkF m 8 #[.val (.ref a), .val (.ref b)] [(.ref a)])) _
    refine st25 _ ?_
    show Steps p.tables e below (T25.setTop (mkF m 11 #[.val (.ref a), .val (.ref b)] [(.int x)])) _
    refine XS.aloadN X25.here hx rfl (hb hby d5_11) rfl rfl ?_
    show Steps p.tables e below (T25.setTop (mkF m 12 #[.val (.ref a), .val (.ref b)] [(.ref b), (.int x)])) _
    refine st26 _ ?_
    show Steps p.tables e below (T26.setTop (mkF m 15 #[.val (.ref a), .val (.ref b)] [(.ref b), (.int x)])) _
    refine st27 _ ?_
    show Steps p.tables e below (T27.setTop (mkF m 18 #[.val (.ref a), .val (.ref b)] [(.int x'), (.int x)])) _
    refine XS.icmpNo X27.here hx rfl (hb hby d5_18) rfl (teq hc18).2 ?_
    show Steps p.tables e below (T27.setTop (mkF m 21 #[.val (.ref a), .val (.ref b)] [])) _
    refine XS.aloadN X27.here hx rfl (hb hby d5_21) rfl rfl ?_
    show Steps p.tables e below (T27.setTop (mkF m 22 #[.val (.ref a), .val (.ref b)] [(.ref a)])) _
    refine st28 _ ?_
    show Steps p.tables e below (T28.setTop (mkF m 25 #[.val (.ref a), .val (.ref b)] [(.ref o)])) _
    refine XS.aloadN X28.here hx rfl (hb hby d5_25) rfl rfl ?_
    show Steps p.tables e below (T28.setTop (mkF m 26 #[.val (.ref a), .val (.ref b)] [(.ref b), (.ref o)])) _
    refine st29 _ ?_
    show Steps p.tables e below (T29.setTop (mkF m 29 #[.val (.ref a), .val (.ref b)] [(.ref b), (.ref o)])) _
    refine st30 _ ?_
    show Steps p.tables e below (T30.setTop (mkF m 32 #[.val (.ref a), .val (.ref b)] [(.ref o'), (.ref o)])) _
    refine Jvm.RoadKit.acmp (g := (mkF m 32 #[.val (.ref a), .val (.ref b)] [(.ref o'), (.ref o)])) X30 hx rfl rfl rfl (pc0 := 32) (pc' := 35) (same := true) rfl (hb hby d5_32) rfl (decide_eq_true (congrArg Value.ref ha32)) (by decide) (by decide) ?_
    show Steps p.tables e below (T30.setTop (mkF m 35 #[.val (.ref a), .val (.ref b)] [])) _
    refine XS.aloadN X30.here hx rfl (hb hby d5_35) rfl rfl ?_
    show Steps p.tables e below (T30.setTop (mkF m 36 #[.val (.ref a), .val (.ref b)] [(.ref a)])) _
    refine st31 _ ?_
    show Steps p.tables e below (T31.setTop (mkF m 39 #[.val (.ref a), .val (.ref b)] [(.int y)])) _
    refine XS.aloadN X31.here hx rfl (hb hby d5_39) rfl rfl ?_
    show Steps p.tables e below (T31.setTop (mkF m 40 #[.val (.ref a), .val (.ref b)] [(.ref b), (.int y)])) _
    refine st32 _ ?_
    show Steps p.tables e below (T32.setTop (mkF m 43 #[.val (.ref a), .val (.ref b)] [(.ref b), (.int y)])) _
    refine st33 _ ?_
    show Steps p.tables e below (T33.setTop (mkF m 46 #[.val (.ref a), .val (.ref b)] [(.int y'), (.int y)])) _
    refine XS.icmpNo X33.here hx rfl (hb hby d5_46) rfl (teq hc46).2 ?_
    show Steps p.tables e below (T33.setTop (mkF m 49 #[.val (.ref a), .val (.ref b)] [])) _
    refine XS.iconst X33.here hx rfl (hb hby d5_49) ?_
    show Steps p.tables e below (T33.setTop (mkF m 50 #[.val (.ref a), .val (.ref b)] [(.int (1 : Int32))])) _
    refine XS.goto X33.here hx rfl (pc0 := 50) (pc' := 54) rfl (hb hby d5_50) (by decide) (by decide) ?_
    show Steps p.tables e below (T33.setTop (mkF m 54 #[.val (.ref a), .val (.ref b)] [(.int (1 : Int32))])) _
    exact retN X33 hx (t := .boolean) Bd.returns (by simp) (hb hby d5_54) hr
  · show QV (.int 1) h0 n0 _ T33.heap _
    rw [e33]
    exact ⟨rfl, N0, rfl⟩
theorem d5_53 : decode prog_24_method_11_code 53 = .ok (.iconst 0, 1) := by decide +kernel
set_option maxRecDepth 65536 in
set_option maxHeartbeats 40000000 in
theorem rq2 (l : Launch) (Z : State) (a0 : Array Value) (hw : ∀ d ∈ tables_1, d.before a0 Z = true) (ws : List Jvm.Cond) (a b : Addr) (x : Int32) (o : Addr) (y : Int32) (x' : Int32) (o' : Addr) (y' : Int32) (h0 : Heap) (n0 : Nat) (Z0 : n0 ≤ h0.size) (A1 : Fld Z h0 a "com/example/brisk_sifter/brisksifter/Formula$Join" "_left" "I" (.int x)) (A2 : Fld Z h0 a "com/example/brisk_sifter/brisksifter/Formula$Join" "_operator" "Lcom/example/brisk_sifter/brisksifter/Formula$Operator;" (.ref o)) (A3 : Fld Z h0 a "com/example/brisk_sifter/brisksifter/Formula$Join" "_right" "I" (.int y)) (Eb : Exa Z h0 b "com/example/brisk_sifter/brisksifter/Formula$Join") (B1 : Fld Z h0 b "com/example/brisk_sifter/brisksifter/Formula$Join" "_left" "I" (.int x')) (B2 : Fld Z h0 b "com/example/brisk_sifter/brisksifter/Formula$Join" "_operator" "Lcom/example/brisk_sifter/brisksifter/Formula$Operator;" (.ref o')) (B3 : Fld Z h0 b "com/example/brisk_sifter/brisksifter/Formula$Join" "_right" "I" (.int y')) (hc18 : ¬ (x = x')) :
    MetFree l (⟨"com/example/brisk_sifter/brisksifter/Formula$Join", "equals", "(Ljava/lang/Object;)Z"⟩ : MethodName) (head1 (Jvm.Cond.code (⟨"com/example/brisk_sifter/brisksifter/Formula$Join", "equals", "(Ljava/lang/Object;)Z"⟩ : MethodName) prog_24_method_11_code 2 (some .boolean) :: ws) ({ frames := 0, cells := 0, slots := 0, locals := 0 } : Room)) (fun zA zU => zA = #[(.ref a), (.ref b)] ∧ Z.Warmed39 zU.vm ∧ zU.heap = h0) (fun _ _ _ _ _ => True) (fun _ zU zO zW => ∃ zV zL, zO = .returned zV ∧ QV (.int 0) h0 n0 zV zW.heap zL ∧ FrameEnd zU zO zW zL ({ frames := 0, cells := 0, slots := 0, locals := 0 } : Room).cells ({ frames := 0, cells := 0, slots := 0, locals := 0 } : Room).slots) := by
  refine MetFree.of_bodySF (plainFor_of_name pn_Formula_Join) hisR ?_
  intro p e s m args below meth c s₁ Bd hml0 hP hK
  obtain ⟨rfl, hZ, hh⟩ := hP
  have hx := Bd.exec
  have hby := Bd.bytes
  have hml : c.maxLocals = 2 := hml0
  have hown : s.vm.findClass "com/example/brisk_sifter/brisksifter/Formula$Join" = some m.cls := findClass_of_methodNamed Bd.named
  have hnm := (name_of_methodNamed Bd.named Bd.method).1
  have X0 : Stand p l e ({ frames := 0, cells := 0, slots := 0, locals := 0 } : Room) s m #[(.ref a), (.ref b)] below meth c s₁ [] 0 0 := Stand.of_body Bd
  have e0 : s₁.heap = h0 := by rw [← hh, Bd.state]; rfl
  have N0 := Fr.nil n0
  have pre0 : ∀ zt, Steps p.tables e below (s₁.setTop (mkF m 0 #[.val (.ref a), .val (.ref b)] [])) zt → Steps p.tables e below (s₁.setTop (entryFrame m #[(.ref a), (.ref b)] 2)) zt := fun zt zk => castTop (ef_5_RR m a b) zk
  obtain ⟨T34, X34, e34, st34⟩ := instY X0 hx hZ hown (hw _ (List.mem_of_getElem? (i := 35) rfl)) e0 (Ins.self Eb) (g := (mkF m 1 #[.val (.ref a), .val (.ref b)] [(.ref b)])) rfl rfl (hb hby d5_1)
  obtain ⟨T35, X35, e35, st35⟩ := getF X34 hx hZ hown (host := "") (Or.inl (hw _ (List.mem_of_getElem? (i := 22) rfl))) Via.refl e34 A1 (g := (mkF m 8 #[.val (.ref a), .val (.ref b)] [(.ref a)])) rfl rfl (hb hby d5_8)
  obtain ⟨T36, X36, e36, st36⟩ := castY X35 hx hZ hown (hw _ (List.mem_of_getElem? (i := 35) rfl)) e35 (Ins.self Eb) (g := (mkF m 12 #[.val (.ref a), .val (.ref b)] [(.ref b), (.int x)])) rfl rfl (hb hby d5_12)
  obtain ⟨T37, X37, e37, st37⟩ := getF X36 hx hZ hown (host := "") (Or.inl (hw _ (List.mem_of_getElem? (i := 22) rfl))) Via.refl e36 B1 (g := (mkF m 15 #[.val (.ref a), .val (.ref b)] [(.ref b), (.int x)])) rfl rfl (hb hby d5_15)
  obtain ⟨fs, hr, hrun, hended, hW, hsame⟩ := X37.leave (v := some (.int (0 : Int32))) (fun h => by rw [Bd.returns] at h; cases h)
  refine ⟨_, _, pre0 _ ?_, hrun, hended, _, _, rfl, ?_, ⟨_, rfl⟩, hW, hsame.mono (by decide) (by decide)⟩
  · show Steps p.tables e below (s₁.setTop (mkF m 0 #[.val (.ref a), .val (.ref b)] [])) _
    refine XS.aloadN X0.here hx rfl (hb hby d5_0) rfl rfl ?_
    show Steps p.tables e below (s₁.setTop (mkF m 1 #[.val (.ref a), .val (.ref b)] [(.ref b)])) _
    refine st34 _ ?_
    show Steps p.tables e below (T34.setTop (mkF m 4 #[.val (.ref a), .val (.ref b)] [(.int (1 : Int32))])) _
    refine XS.ifNo X34.here hx rfl (hb hby d5_4) rfl ((if0 _ _).trans (feq (by decide)).1) ?_
    show Steps p.tables e below (T34.setTop (mkF m 7 #[.val (.ref a), .val (.ref b)] [])) _
    refine XS.aloadN X34.here hx rfl (hb hby d5_7) rfl rfl ?_
    show Steps p.tables e below (T34.setTop (mkF m 8 #[.val (.ref a), .val (.ref b)] [(.ref a)])) _
    refine st35 _ ?_
    show Steps p.tables e below (T35.setTop (mkF m 11 #[.val (.ref a), .val (.ref b)] [(.int x)])) _
    refine XS.aloadN X35.here hx rfl (hb hby d5_11) rfl rfl ?_
    show Steps p.tables e below (T35.setTop (mkF m 12 #[.val (.ref a), .val (.ref b)] [(.ref b), (.int x)])) _
    refine st36 _ ?_
    show Steps p.tables e below (T36.setTop (mkF m 15 #[.val (.ref a), .val (.ref b)] [(.ref b), (.int x)])) _
    refine st37 _ ?_
    show Steps p.tables e below (T37.setTop (mkF m 18 #[.val (.ref a), .val (.ref b)] [(.int x'), (.int x)])) _
    refine XS.icmpYes X37.here hx rfl (pc0 := 18) (pc' := 53) rfl (hb hby d5_18) rfl (feq hc18).2 (by decide) (by decide) ?_
    show Steps p.tables e below (T37.setTop (mkF m 53 #[.val (.ref a), .val (.ref b)] [])) _
    refine XS.iconst X37.here hx rfl (hb hby d5_53) ?_
    show Steps p.tables e below (T37.setTop (mkF m 54 #[.val (.ref a), .val (.ref b)] [(.int (0 : Int32))])) _
    exact retN X37 hx (t := .boolean) Bd.returns (by simp) (hb hby d5_54) hr
  · show QV (.int 0) h0 n0 _ T37.heap _
    rw [e37]
    exact ⟨rfl, N0, rfl⟩
set_option maxRecDepth 65536 in
set_option maxHeartbeats 40000000 in
theorem rq3 (l : Launch) (Z : State) (a0 : Array Value) (hw : ∀ d ∈ tables_1, d.before a0 Z = true) (ws : List Jvm.Cond) (a b : Addr) (x : Int32) (o : Addr) (y : Int32) (x' : Int32) (o' : Addr) (y' : Int32) (h0 : Heap) (n0 : Nat) (Z0 : n0 ≤ h0.size) (A1 : Fld Z h0 a "com/example/brisk_sifter/brisksifter/Formula$Join" "_left" "I" (.int x)) (A2 : Fld Z h0 a "com/example/brisk_sifter/brisksifter/Formula$Join" "_operator" "Lcom/example/brisk_sifter/brisksifter/Formula$Operator;" (.ref o)) (A3 : Fld Z h0 a "com/example/brisk_sifter/brisksifter/Formula$Join" "_right" "I" (.int y)) (Eb : Exa Z h0 b "com/example/brisk_sifter/brisksifter/Formula$Join") (B1 : Fld Z h0 b "com/example/brisk_sifter/brisksifter/Formula$Join" "_left" "I" (.int x')) (B2 : Fld Z h0 b "com/example/brisk_sifter/brisksifter/Formula$Join" "_operator" "Lcom/example/brisk_sifter/brisksifter/Formula$Operator;" (.ref o')) (B3 : Fld Z h0 b "com/example/brisk_sifter/brisksifter/Formula$Join" "_right" "I" (.int y')) (hc18 : x = x') (ha32 : ¬ (o = o')) :
    MetFree l (⟨"com/example/brisk_sifter/brisksifter/Formula$Join", "equals", "(Ljava/lang/Object;)Z"⟩ : MethodName) (head1 (Jvm.Cond.code (⟨"com/example/brisk_sifter/brisksifter/Formula$Join", "equals", "(Ljava/lang/Object;)Z"⟩ : MethodName) prog_24_method_11_code 2 (some .boolean) :: ws) ({ frames := 0, cells := 0, slots := 0, locals := 0 } : Room)) (fun zA zU => zA = #[(.ref a), (.ref b)] ∧ Z.Warmed39 zU.vm ∧ zU.heap = h0) (fun _ _ _ _ _ => True) (fun _ zU zO zW => ∃ zV zL, zO = .returned zV ∧ QV (.int 0) h0 n0 zV zW.heap zL ∧ FrameEnd zU zO zW zL ({ frames := 0, cells := 0, slots := 0, locals := 0 } : Room).cells ({ frames := 0, cells := 0, slots := 0, locals := 0 } : Room).slots) := by
  refine MetFree.of_bodySF (plainFor_of_name pn_Formula_Join) hisR ?_
  intro p e s m args below meth c s₁ Bd hml0 hP hK
  obtain ⟨rfl, hZ, hh⟩ := hP
  have hx := Bd.exec
  have hby := Bd.bytes
  have hml : c.maxLocals = 2 := hml0
  have hown : s.vm.findClass "com/example/brisk_sifter/brisksifter/Formula$Join" = some m.cls := findClass_of_methodNamed Bd.named
  have hnm := (name_of_methodNamed Bd.named Bd.method).1
  have X0 : Stand p l e ({ frames := 0, cells := 0, slots := 0, locals := 0 } : Room) s m #[(.ref a), (.ref b)] below meth c s₁ [] 0 0 := Stand.of_body Bd
  have e0 : s₁.heap = h0 := by rw [← hh, Bd.state]; rfl
  have N0 := Fr.nil n0
  have pre0 : ∀ zt, Steps p.tables e below (s₁.setTop (mkF m 0 #[.val (.ref a), .val (.ref b)] [])) zt → Steps p.tables e below (s₁.setTop (entryFrame m #[(.ref a), (.ref b)] 2)) zt := fun zt zk => castTop (ef_5_RR m a b) zk
  obtain ⟨T38, X38, e38, st38⟩ := instY X0 hx hZ hown (hw _ (List.mem_of_getElem? (i := 35) rfl)) e0 (Ins.self Eb) (g := (mkF m 1 #[.val (.ref a), .val (.ref b)] [(.ref b)])) rfl rfl (hb hby d5_1)
  obtain ⟨T39, X39, e39, st39⟩ := getF X38 hx hZ hown (host := "") (Or.inl (hw _ (List.mem_of_getElem? (i := 22) rfl))) Via.refl e38 A1 (g := (mkF m 8 #[.val (.ref a), .val (.ref b)] [(.ref a)])) rfl rfl (hb hby d5_8)
  obtain ⟨T40, X40, e40, st40⟩ := castY X39 hx hZ hown (hw _ (List.mem_of_getElem? (i := 35) rfl)) e39 (Ins.self Eb) (g := (mkF m 12 #[.val (.ref a), .val (.ref b)] [(.ref b), (.int x)])) rfl rfl (hb hby d5_12)
  obtain ⟨T41, X41, e41, st41⟩ := getF X40 hx hZ hown (host := "") (Or.inl (hw _ (List.mem_of_getElem? (i := 22) rfl))) Via.refl e40 B1 (g := (mkF m 15 #[.val (.ref a), .val (.ref b)] [(.ref b), (.int x)])) rfl rfl (hb hby d5_15)
  obtain ⟨T42, X42, e42, st42⟩ := getF X41 hx hZ hown (host := "") (Or.inl (hw _ (List.mem_of_getElem? (i := 24) rfl))) Via.refl e41 A2 (g := (mkF m 22 #[.val (.ref a), .val (.ref b)] [(.ref a)])) rfl rfl (hb hby d5_22)
  obtain ⟨T43, X43, e43, st43⟩ := castY X42 hx hZ hown (hw _ (List.mem_of_getElem? (i := 35) rfl)) e42 (Ins.self Eb) (g := (mkF m 26 #[.val (.ref a), .val (.ref b)] [(.ref b), (.ref o)])) rfl rfl (hb hby d5_26)
  obtain ⟨T44, X44, e44, st44⟩ := getF X43 hx hZ hown (host := "") (Or.inl (hw _ (List.mem_of_getElem? (i := 24) rfl))) Via.refl e43 B2 (g := (mkF m 29 #[.val (.ref a), .val (.ref b)] [(.ref b), (.ref o)])) rfl rfl (hb hby d5_29)
  obtain ⟨fs, hr, hrun, hended, hW, hsame⟩ := X44.leave (v := some (.int (0 : Int32))) (fun h => by rw [Bd.returns] at h; cases h)
  refine ⟨_, _, pre0 _ ?_, hrun, hended, _, _, rfl, ?_, ⟨_, rfl⟩, hW, hsame.mono (by decide) (by decide)⟩
  · show Steps p.tables e below (s₁.setTop (mkF m 0 #[.val (.ref a), .val (.ref b)] [])) _
    refine XS.aloadN X0.here hx rfl (hb hby d5_0) rfl rfl ?_
    show Steps p.tables e below (s₁.setTop (mkF m 1 #[.val (.ref a), .val (.ref b)] [(.ref b)])) _
    refine st38 _ ?_
    show Steps p.tables e below (T38.setTop (mkF m 4 #[.val (.ref a), .val (.ref b)] [(.int (1 : Int32))])) _
    refine XS.ifNo X38.here hx rfl (hb hby d5_4) rfl ((if0 _ _).trans (feq (by decide)).1) ?_
    show Steps p.tables e below (T38.setTop (mkF m 7 #[.val (.ref a), .val (.ref b)] [])) _
    refine XS.aloadN X38.here hx rfl (hb hby d5_7) rfl rfl ?_
    show Steps p.tables e below (T38.setTop (mkF m 8 #[.val (.ref a), .val (.ref b)] [(.ref a)])) _
    refine st39 _ ?_
    show Steps p.tables e below (T39.setTop (mkF m 11 #[.val (.ref a), .val (.ref b)] [(.int x)])) _
    refine XS.aloadN X39.here hx rfl (hb hby d5_11) rfl rfl ?_
    show Steps p.tables e below (T39.setTop (mkF m 12 #[.val (.ref a), .val (.ref b)] [(.ref b), (.int x)])) _
    refine st40 _ ?_
    show Steps p.tables e below (T40.setTop (mkF m 15 #[.val (.ref a), .val (.ref b)] [(.ref b), (.int x)])) _
    refine st41 _ ?_
    show Steps p.tables e below (T41.setTop (mkF m 18 #[.val (.ref a), .val (.ref b)] [(.int x'), (.int x)])) _
    refine XS.icmpNo X41.here hx rfl (hb hby d5_18) rfl (teq hc18).2 ?_
    show Steps p.tables e below (T41.setTop (mkF m 21 #[.val (.ref a), .val (.ref b)] [])) _
    refine XS.aloadN X41.here hx rfl (hb hby d5_21) rfl rfl ?_
    show Steps p.tables e below (T41.setTop (mkF m 22 #[.val (.ref a), .val (.ref b)] [(.ref a)])) _
    refine st42 _ ?_
    show Steps p.tables e below (T42.setTop (mkF m 25 #[.val (.ref a), .val (.ref b)] [(.ref o)])) _
    refine XS.aloadN X42.here hx rfl (hb hby d5_25) rfl rfl ?_
    show Steps p.tables e below (T42.setTop (mkF m 26 #[.val (.ref a), .val (.ref b)] [(.ref b), (.ref o)])) _
    refine st43 _ ?_
    show Steps p.tables e below (T43.setTop (mkF m 29 #[.val (.ref a), .val (.ref b)] [(.ref b), (.ref o)])) _
    refine st44 _ ?_
    show Steps p.tables e below (T44.setTop (mkF m 32 #[.val (.ref a), .val (.ref b)] [(.ref o'), (.ref o)])) _
    refine Jvm.RoadKit.acmp (g := (mkF m 32 #[.val (.ref a), .val (.ref b)] [(.ref o'), (.ref o)])) X44 hx rfl rfl rfl (pc0 := 32) (pc' := 53) (same := false) rfl (hb hby d5_32) rfl (decide_eq_false fun q => ha32 (Value.ref.inj q)) (by decide) (by decide) ?_
    show Steps p.tables e below (T44.setTop (mkF m 53 #[.val (.ref a), .val (.ref b)] [])) _
    refine XS.iconst X44.here hx rfl (hb hby d5_53) ?_
    show Steps p.tables e below (T44.setTop (mkF m 54 #[.val (.ref a), .val (.ref b)] [(.int (0 : Int32))])) _
    exact retN X44 hx (t := .boolean) Bd.returns (by simp) (hb hby d5_54) hr
  · show QV (.int 0) h0 n0 _ T44.heap _
    rw [e44]
    exact ⟨rfl, N0, rfl⟩
set_option maxRecDepth 65536 in
set_option maxHeartbeats 40000000 in
theorem rq4 (l : Launch) (Z : State) (a0 : Array Value) (hw : ∀ d ∈ tables_1, d.before a0 Z = true) (ws : List Jvm.Cond) (a b : Addr) (x : Int32) (o : Addr) (y : Int32) (x' : Int32) (o' : Addr) (y' : Int32) (h0 : Heap) (n0 : Nat) (Z0 : n0 ≤ h0.size) (A1 : Fld Z h0 a "com/example/brisk_sifter/brisksifter/Formula$Join" "_left" "I" (.int x)) (A2 : Fld Z h0 a "com/example/brisk_sifter/brisksifter/Formula$Join" "_operator" "Lcom/example/brisk_sifter/brisksifter/Formula$Operator;" (.ref o)) (A3 : Fld Z h0 a "com/example/brisk_sifter/brisksifter/Formula$Join" "_right" "I" (.int y)) (Eb : Exa Z h0 b "com/example/brisk_sifter/brisksifter/Formula$Join") (B1 : Fld Z h0 b "com/example/brisk_sifter/brisksifter/Formula$Join" "_left" "I" (.int x')) (B2 : Fld Z h0 b "com/example/brisk_sifter/brisksifter/Formula$Join" "_operator" "Lcom/example/brisk_sifter/brisksifter/Formula$Operator;" (.ref o')) (B3 : Fld Z h0 b "com/example/brisk_sifter/brisksifter/Formula$Join" "_right" "I" (.int y')) (hc18 : x = x') (ha32 : o = o') (hc46 : ¬ (y = y')) :
    MetFree l (⟨"com/example/brisk_sifter/brisksifter/Formula$Join", "equals", "(Ljava/lang/Object;)Z"⟩ : MethodName) (head1 (Jvm.Cond.code (⟨"com/example/brisk_sifter/brisksifter/Formula$Join", "equals", "(Ljava/lang/Object;)Z"⟩ : MethodName) prog_24_method_11_code 2 (some .boolean) :: ws) ({ frames := 0, cells := 0, slots := 0, locals := 0 } : Room)) (fun zA zU => zA = #[(.ref a), (.ref b)] ∧ Z.Warmed39 zU.vm ∧ zU.heap = h0) (fun _ _ _ _ _ => True) (fun _ zU zO zW => ∃ zV zL, zO = .returned zV ∧ QV (.int 0) h0 n0 zV zW.heap zL ∧ FrameEnd zU zO zW zL ({ frames := 0, cells := 0, slots := 0, locals := 0 } : Room).cells ({ frames := 0, cells := 0, slots := 0, locals := 0 } : Room).slots) := by
  refine MetFree.of_bodySF (plainFor_of_name pn_Formula_Join) hisR ?_
  intro p e s m args below meth c s₁ Bd hml0 hP hK
  obtain ⟨rfl, hZ, hh⟩ := hP
  have hx := Bd.exec
  have hby := Bd.bytes
  have hml : c.maxLocals = 2 := hml0
  have hown : s.vm.findClass "com/example/brisk_sifter/brisksifter/Formula$Join" = some m.cls := findClass_of_methodNamed Bd.named
  have hnm := (name_of_methodNamed Bd.named Bd.method).1
  have X0 : Stand p l e ({ frames := 0, cells := 0, slots := 0, locals := 0 } : Room) s m #[(.ref a), (.ref b)] below meth c s₁ [] 0 0 := Stand.of_body Bd
  have e0 : s₁.heap = h0 := by rw [← hh, Bd.state]; rfl
  have N0 := Fr.nil n0
  have pre0 : ∀ zt, Steps p.tables e below (s₁.setTop (mkF m 0 #[.val (.ref a), .val (.ref b)] [])) zt → Steps p.tables e below (s₁.setTop (entryFrame m #[(.ref a), (.ref b)] 2)) zt := fun zt zk => castTop (ef_5_RR m a b) zk
  obtain ⟨T45, X45, e45, st45⟩ := instY X0 hx hZ hown (hw _ (List.mem_of_getElem? (i := 35) rfl)) e0 (Ins.self Eb) (g := (mkF m 1 #[.val (.ref a), .val (.ref b)] [(.ref b)])) rfl rfl (hb hby d5_1)
  obtain ⟨T46, X46, e46, st46⟩ := getF X45 hx hZ hown (host := "") (Or.inl (hw _ (List.mem_of_getElem? (i := 22) rfl))) Via.refl e45 A1 (g := (mkF m 8 #[.val (.ref a), .val (.ref b)] [(.ref a)])) rfl rfl (hb hby d5_8)
  obtain ⟨T47, X47, e47, st47⟩ := castY X46 hx hZ hown (hw _ (List.mem_of_getElem? (i := 35) rfl)) e46 (Ins.self Eb) (g := (mkF m 12 #[.val (.ref a), .val (.ref b)] [(.ref b), (.int x)])) rfl rfl (hb hby d5_12)
  obtain ⟨T48, X48, e48, st48⟩ := getF X47 hx hZ hown (host := "") (Or.inl (hw _ (List.mem_of_getElem? (i := 22) rfl))) Via.refl e47 B1 (g := (mkF m 15 #[.val (.ref a), .val (.ref b)] [(.ref b), (.int x)])) rfl rfl (hb hby d5_15)
  obtain ⟨T49, X49, e49, st49⟩ := getF X48 hx hZ hown (host := "") (Or.inl (hw _ (List.mem_of_getElem? (i := 24) rfl))) Via.refl e48 A2 (g := (mkF m 22 #[.val (.ref a), .val (.ref b)] [(.ref a)])) rfl rfl (hb hby d5_22)
  obtain ⟨T50, X50, e50, st50⟩ := castY X49 hx hZ hown (hw _ (List.mem_of_getElem? (i := 35) rfl)) e49 (Ins.self Eb) (g := (mkF m 26 #[.val (.ref a), .val (.ref b)] [(.ref b), (.ref o)])) rfl rfl (hb hby d5_26)
  obtain ⟨T51, X51, e51, st51⟩ := getF X50 hx hZ hown (host := "") (Or.inl (hw _ (List.mem_of_getElem? (i := 24) rfl))) Via.refl e50 B2 (g := (mkF m 29 #[.val (.ref a), .val (.ref b)] [(.ref b), (.ref o)])) rfl rfl (hb hby d5_29)
  obtain ⟨T52, X52, e52, st52⟩ := getF X51 hx hZ hown (host := "") (Or.inl (hw _ (List.mem_of_getElem? (i := 26) rfl))) Via.refl e51 A3 (g := (mkF m 36 #[.val (.ref a), .val (.ref b)] [(.ref a)])) rfl rfl (hb hby d5_36)
  obtain ⟨T53, X53, e53, st53⟩ := castY X52 hx hZ hown (hw _ (List.mem_of_getElem? (i := 35) rfl)) e52 (Ins.self Eb) (g := (mkF m 40 #[.val (.ref a), .val (.ref b)] [(.ref b), (.int y)])) rfl rfl (hb hby d5_40)
  obtain ⟨T54, X54, e54, st54⟩ := getF X53 hx hZ hown (host := "") (Or.inl (hw _ (List.mem_of_getElem? (i := 26) rfl))) Via.refl e53 B3 (g := (mkF m 43 #[.val (.ref a), .val (.ref b)] [(.ref b), (.int y)])) rfl rfl (hb hby d5_43)
  obtain ⟨fs, hr, hrun, hended, hW, hsame⟩ := X54.leave (v := some (.int (0 : Int32))) (fun h => by rw [Bd.returns] at h; cases h)
  refine ⟨_, _, pre0 _ ?_, hrun, hended, _, _, rfl, ?_, ⟨_, rfl⟩, hW, hsame.mono (by decide) (by decide)⟩
  · show Steps p.tables e below (s₁.setTop (mkF m 0 #[.val (.ref a), .val (.ref b)] [])) _
    refine XS.aloadN X0.here hx rfl (hb hby d5_0) rfl rfl ?_
    show Steps p.tables e below (s₁.setTop (mkF m 1 #[.val (.ref a), .val (.ref b)] [(.ref b)])) _
    refine st45 _ ?_
    show Steps p.tables e below (T45.setTop (mkF m 4 #[.val (.ref a), .val (.ref b)] [(.int (1 : Int32))])) _
    refine XS.ifNo X45.here hx rfl (hb hby d5_4) rfl ((if0 _ _).trans (feq (by decide)).1) ?_
    show Steps p.tables e below (T45.setTop (mkF m 7 #[.val (.ref a), .val (.ref b)] [])) _
    refine XS.aloadN X45.here hx rfl (hb hby d5_7) rfl rfl ?_
    show Steps p.tables e below (T45.setTop (mkF m 8 #[.val (.ref a), .val (.ref b)] [(.ref a)])) _
    refine st46 _ ?_
    show Steps p.tables e below (T46.setTop (mkF m 11 #[.val (.ref a), .val (.ref b)] [(.int x)])) _
    refine XS.aloadN X46.here hx rfl (hb hby d5_11) rfl rfl ?_
    show Steps p.tables e below (T46.setTop (mkF m 12 #[.val (.ref a), .val (.ref b)] [(.ref b), (.int x)])) _
    refine st47 _ ?_
    show Steps p.tables e below (T47.setTop (mkF m 15 #[.val (.ref a), .val (.ref b)] [(.ref b), (.int x)])) _
    refine st48 _ ?_
    show Steps p.tables e below (T48.setTop (mkF m 18 #[.val (.ref a), .val (.ref b)] [(.int x'), (.int x)])) _
    refine XS.icmpNo X48.here hx rfl (hb hby d5_18) rfl (teq hc18).2 ?_
    show Steps p.tables e below (T48.setTop (mkF m 21 #[.val (.ref a), .val (.ref b)] [])) _
    refine XS.aloadN X48.here hx rfl (hb hby d5_21) rfl rfl ?_
    show Steps p.tables e below (T48.setTop (mkF m 22 #[.val (.ref a), .val (.ref b)] [(.ref a)])) _
    refine st49 _ ?_
    show Steps p.tables e below (T49.setTop (mkF m 25 #[.val (.ref a), .val (.ref b)] [(.ref o)])) _
    refine XS.aloadN X49.here hx rfl (hb hby d5_25) rfl rfl ?_
    show Steps p.tables e below (T49.setTop (mkF m 26 #[.val (.ref a), .val (.ref b)] [(.ref b), (.ref o)])) _
    refine st50 _ ?_
    show Steps p.tables e below (T50.setTop (mkF m 29 #[.val (.ref a), .val (.ref b)] [(.ref b), (.ref o)])) _
    refine st51 _ ?_
    show Steps p.tables e below (T51.setTop (mkF m 32 #[.val (.ref a), .val (.ref b)] [(.ref o'), (.ref o)])) _
    refine Jvm.RoadKit.acmp (g := (mkF m 32 #[.val (.ref a), .val (.ref b)] [(.ref o'), (.ref o)])) X51 hx rfl rfl rfl (pc0 := 32) (pc' := 35) (same := true) rfl (hb hby d5_32) rfl (decide_eq_true (congrArg Value.ref ha32)) (by decide) (by decide) ?_
    show Steps p.tables e below (T51.setTop (mkF m 35 #[.val (.ref a), .val (.ref b)] [])) _
    refine XS.aloadN X51.here hx rfl (hb hby d5_35) rfl rfl ?_
    show Steps p.tables e below (T51.setTop (mkF m 36 #[.val (.ref a), .val (.ref b)] [(.ref a)])) _
    refine st52 _ ?_
    show Steps p.tables e below (T52.setTop (mkF m 39 #[.val (.ref a), .val (.ref b)] [(.int y)])) _
    refine XS.aloadN X52.here hx rfl (hb hby d5_39) rfl rfl ?_
    show Steps p.tables e below (T52.setTop (mkF m 40 #[.val (.ref a), .val (.ref b)] [(.ref b), (.int y)])) _
    refine st53 _ ?_
    show Steps p.tables e below (T53.setTop (mkF m 43 #[.val (.ref a), .val (.ref b)] [(.ref b), (.int y)])) _
    refine st54 _ ?_
    show Steps p.tables e below (T54.setTop (mkF m 46 #[.val (.ref a), .val (.ref b)] [(.int y'), (.int y)])) _
    refine XS.icmpYes X54.here hx rfl (pc0 := 46) (pc' := 53) rfl (hb hby d5_46) rfl (feq hc46).2 (by decide) (by decide) ?_
    show Steps p.tables e below (T54.setTop (mkF m 53 #[.val (.ref a), .val (.ref b)] [])) _
    refine XS.iconst X54.here hx rfl (hb hby d5_53) ?_
    show Steps p.tables e below (T54.setTop (mkF m 54 #[.val (.ref a), .val (.ref b)] [(.int (0 : Int32))])) _
    exact retN X54 hx (t := .boolean) Bd.returns (by simp) (hb hby d5_54) hr
  · show QV (.int 0) h0 n0 _ T54.heap _
    rw [e54]
    exact ⟨rfl, N0, rfl⟩
def EqV (x : Int32) (o : Addr) (y : Int32) (x' : Int32) (o' : Addr) (y' : Int32) (r : Int32) : Prop := (x = x' ∧ o = o' ∧ y = y' ∧ r = 1) ∨ (¬ (x = x') ∧ r = 0) ∨ (x = x' ∧ ¬ (o = o') ∧ r = 0) ∨ (x = x' ∧ o = o' ∧ ¬ (y = y') ∧ r = 0)
theorem req (l : Launch) (Z : State) (a0 : Array Value) (hw : ∀ d ∈ tables_1, d.before a0 Z = true) (ws : List Jvm.Cond) (a b : Addr) (x : Int32) (o : Addr) (y : Int32) (x' : Int32) (o' : Addr) (y' : Int32) (r : Int32) (h0 : Heap) (n0 : Nat) (Z0 : n0 ≤ h0.size) (A1 : Fld Z h0 a "com/example/brisk_sifter/brisksifter/Formula$Join" "_left" "I" (.int x)) (A2 : Fld Z h0 a "com/example/brisk_sifter/brisksifter/Formula$Join" "_operator" "Lcom/example/brisk_sifter/brisksifter/Formula$Operator;" (.ref o)) (A3 : Fld Z h0 a "com/example/brisk_sifter/brisksifter/Formula$Join" "_right" "I" (.int y)) (Eb : Exa Z h0 b "com/example/brisk_sifter/brisksifter/Formula$Join") (B1 : Fld Z h0 b "com/example/brisk_sifter/brisksifter/Formula$Join" "_left" "I" (.int x')) (B2 : Fld Z h0 b "com/example/brisk_sifter/brisksifter/Formula$Join" "_operator" "Lcom/example/brisk_sifter/brisksifter/Formula$Operator;" (.ref o')) (B3 : Fld Z h0 b "com/example/brisk_sifter/brisksifter/Formula$Join" "_right" "I" (.int y')) (hr : EqV x o y x' o' y' r) :
    MetFree l (⟨"com/example/brisk_sifter/brisksifter/Formula$Join", "equals", "(Ljava/lang/Object;)Z"⟩ : MethodName) (head1 (Jvm.Cond.code (⟨"com/example/brisk_sifter/brisksifter/Formula$Join", "equals", "(Ljava/lang/Object;)Z"⟩ : MethodName) prog_24_method_11_code 2 (some .boolean) :: ws) ({ frames := 0, cells := 0, slots := 0, locals := 0 } : Room)) (fun zA zU => zA = #[(.ref a), (.ref b)] ∧ Z.Warmed39 zU.vm ∧ zU.heap = h0) (fun _ _ _ _ _ => True) (fun _ zU zO zW => ∃ zV zL, zO = .returned zV ∧ QV (.int r) h0 n0 zV zW.heap zL ∧ FrameEnd zU zO zW zL ({ frames := 0, cells := 0, slots := 0, locals := 0 } : Room).cells ({ frames := 0, cells := 0, slots := 0, locals := 0 } : Room).slots) := by
  rcases hr with ⟨h1, h2, h3, rfl⟩ | ⟨h1, rfl⟩ | ⟨h1, h2, rfl⟩ | ⟨h1, h2, h3, rfl⟩
  · exact rq1 l Z a0 hw ws a b x o y x' o' y' h0 n0 Z0 A1 A2 A3 Eb B1 B2 B3 h1 h2 h3
  · exact rq2 l Z a0 hw ws a b x o y x' o' y' h0 n0 Z0 A1 A2 A3 Eb B1 B2 B3 h1
  · exact rq3 l Z a0 hw ws a b x o y x' o' y' h0 n0 Z0 A1 A2 A3 Eb B1 B2 B3 h1 h2
  · exact rq4 l Z a0 hw ws a b x o y x' o' y' h0 n0 Z0 A1 A2 A3 Eb B1 B2 B3 h1 h2 h3
theorem ef_5_Rn (m : MethodId) (x0 : Addr) : entryFrame m #[(.ref x0), .null] 2 = mkF m 0 #[.val (.ref x0), .val .null] [] := by first | (simp [entryFrame, mkF, argsToLocals, Value.category]; done) | rfl
set_option maxRecDepth 65536 in
set_option maxHeartbeats 40000000 in
theorem rqn (l : Launch) (Z : State) (a0 : Array Value) (hw : ∀ d ∈ tables_1, d.before a0 Z = true) (ws : List Jvm.Cond) (a : Addr) (h0 : Heap) (n0 : Nat) (Z0 : n0 ≤ h0.size)  :
    MetFree l (⟨"com/example/brisk_sifter/brisksifter/Formula$Join", "equals", "(Ljava/lang/Object;)Z"⟩ : MethodName) (head1 (Jvm.Cond.code (⟨"com/example/brisk_sifter/brisksifter/Formula$Join", "equals", "(Ljava/lang/Object;)Z"⟩ : MethodName) prog_24_method_11_code 2 (some .boolean) :: ws) ({ frames := 0, cells := 0, slots := 0, locals := 0 } : Room)) (fun zA zU => zA = #[(.ref a), .null] ∧ Z.Warmed39 zU.vm ∧ zU.heap = h0) (fun _ _ _ _ _ => True) (fun _ zU zO zW => ∃ zV zL, zO = .returned zV ∧ QV (.int 0) h0 n0 zV zW.heap zL ∧ FrameEnd zU zO zW zL ({ frames := 0, cells := 0, slots := 0, locals := 0 } : Room).cells ({ frames := 0, cells := 0, slots := 0, locals := 0 } : Room).slots) := by
  refine MetFree.of_bodySF (plainFor_of_name pn_Formula_Join) hisR ?_
  intro p e s m args below meth c s₁ Bd hml0 hP hK
  obtain ⟨rfl, hZ, hh⟩ := hP
  have hx := Bd.exec
  have hby := Bd.bytes
  have hml : c.maxLocals = 2 := hml0
  have hown : s.vm.findClass "com/example/brisk_sifter/brisksifter/Formula$Join" = some m.cls := findClass_of_methodNamed Bd.named
  have hnm := (name_of_methodNamed Bd.named Bd.method).1
  have X0 : Stand p l e ({ frames := 0, cells := 0, slots := 0, locals := 0 } : Room) s m #[(.ref a), .null] below meth c s₁ [] 0 0 := Stand.of_body Bd
  have e0 : s₁.heap = h0 := by rw [← hh, Bd.state]; rfl
  have N0 := Fr.nil n0
  have pre0 : ∀ zt, Steps p.tables e below (s₁.setTop (mkF m 0 #[.val (.ref a), .val .null] [])) zt → Steps p.tables e below (s₁.setTop (entryFrame m #[(.ref a), .null] 2)) zt := fun zt zk => castTop (ef_5_Rn m a) zk
  obtain ⟨fs, hr, hrun, hended, hW, hsame⟩ := X0.leave (v := some (.int (0 : Int32))) (fun h => by rw [Bd.returns] at h; cases h)
  refine ⟨_, _, pre0 _ ?_, hrun, hended, _, _, rfl, ?_, ⟨_, rfl⟩, hW, hsame.mono (by decide) (by decide)⟩
  · show Steps p.tables e below (s₁.setTop (mkF m 0 #[.val (.ref a), .val .null] [])) _
    refine XS.aloadN X0.here hx rfl (hb hby d5_0) rfl rfl ?_
    show Steps p.tables e below (s₁.setTop (mkF m 1 #[.val (.ref a), .val .null] [.null])) _
    refine X0.instanceofNull hx (g := (mkF m 1 #[.val (.ref a), .val .null] [.null])) rfl rfl (hb hby d5_1) _ ?_
    show Steps p.tables e below (s₁.setTop (mkF m 4 #[.val (.ref a), .val .null] [(.int (0 : Int32))])) _
    refine XS.ifYes X0.here hx rfl (pc0 := 4) (pc' := 53) rfl (hb hby d5_4) rfl ((if0 _ _).trans (teq (by decide)).1) (by decide) (by decide) ?_
    show Steps p.tables e below (s₁.setTop (mkF m 53 #[.val (.ref a), .val .null] [])) _
    refine XS.iconst X0.here hx rfl (hb hby d5_53) ?_
    show Steps p.tables e below (s₁.setTop (mkF m 54 #[.val (.ref a), .val .null] [(.int (0 : Int32))])) _
    exact retN X0 hx (t := .boolean) Bd.returns (by simp) (hb hby d5_54) hr
  · show QV (.int 0) h0 n0 _ s₁.heap _
    rw [e0]
    exact ⟨rfl, N0, rfl⟩
set_option maxRecDepth 65536 in
set_option maxHeartbeats 40000000 in
theorem rqt (l : Launch) (Z : State) (a0 : Array Value) (hw : ∀ d ∈ tables_1, d.before a0 Z = true) (ws : List Jvm.Cond) (a b : Addr) (h0 : Heap) (n0 : Nat) (Z0 : n0 ≤ h0.size) (Eb : Exa Z h0 b "com/example/brisk_sifter/brisksifter/Formula$All") (hno : ∃ c t, Z.vm.findClass "com/example/brisk_sifter/brisksifter/Formula$All" = some c ∧ Z.vm.findClass "com/example/brisk_sifter/brisksifter/Formula$Join" = some t ∧ Z.vm.assignable c t = false) :
    MetFree l (⟨"com/example/brisk_sifter/brisksifter/Formula$Join", "equals", "(Ljava/lang/Object;)Z"⟩ : MethodName) (head1 (Jvm.Cond.code (⟨"com/example/brisk_sifter/brisksifter/Formula$Join", "equals", "(Ljava/lang/Object;)Z"⟩ : MethodName) prog_24_method_11_code 2 (some .boolean) :: ws) ({ frames := 0, cells := 0, slots := 0, locals := 0 } : Room)) (fun zA zU => zA = #[(.ref a), (.ref b)] ∧ Z.Warmed39 zU.vm ∧ zU.heap = h0) (fun _ _ _ _ _ => True) (fun _ zU zO zW => ∃ zV zL, zO = .returned zV ∧ QV (.int 0) h0 n0 zV zW.heap zL ∧ FrameEnd zU zO zW zL ({ frames := 0, cells := 0, slots := 0, locals := 0 } : Room).cells ({ frames := 0, cells := 0, slots := 0, locals := 0 } : Room).slots) := by
  refine MetFree.of_bodySF (plainFor_of_name pn_Formula_Join) hisR ?_
  intro p e s m args below meth c s₁ Bd hml0 hP hK
  obtain ⟨rfl, hZ, hh⟩ := hP
  have hx := Bd.exec
  have hby := Bd.bytes
  have hml : c.maxLocals = 2 := hml0
  have hown : s.vm.findClass "com/example/brisk_sifter/brisksifter/Formula$Join" = some m.cls := findClass_of_methodNamed Bd.named
  have hnm := (name_of_methodNamed Bd.named Bd.method).1
  have X0 : Stand p l e ({ frames := 0, cells := 0, slots := 0, locals := 0 } : Room) s m #[(.ref a), (.ref b)] below meth c s₁ [] 0 0 := Stand.of_body Bd
  have e0 : s₁.heap = h0 := by rw [← hh, Bd.state]; rfl
  have N0 := Fr.nil n0
  have pre0 : ∀ zt, Steps p.tables e below (s₁.setTop (mkF m 0 #[.val (.ref a), .val (.ref b)] [])) zt → Steps p.tables e below (s₁.setTop (entryFrame m #[(.ref a), (.ref b)] 2)) zt := fun zt zk => castTop (ef_5_RR m a b) zk
  obtain ⟨T55, X55, e55, st55⟩ := instNo X0 hx hZ hown (hw _ (List.mem_of_getElem? (i := 35) rfl)) e0 Eb hno (g := (mkF m 1 #[.val (.ref a), .val (.ref b)] [(.ref b)])) rfl rfl (hb hby d5_1)
  obtain ⟨fs, hr, hrun, hended, hW, hsame⟩ := X55.leave (v := some (.int (0 : Int32))) (fun h => by rw [Bd.returns] at h; cases h)
  refine ⟨_, _, pre0 _ ?_, hrun, hended, _, _, rfl, ?_, ⟨_, rfl⟩, hW, hsame.mono (by decide) (by decide)⟩
  · show Steps p.tables e below (s₁.setTop (mkF m 0 #[.val (.ref a), .val (.ref b)] [])) _
    refine XS.aloadN X0.here hx rfl (hb hby d5_0) rfl rfl ?_
    show Steps p.tables e below (s₁.setTop (mkF m 1 #[.val (.ref a), .val (.ref b)] [(.ref b)])) _
    refine st55 _ ?_
    show Steps p.tables e below (T55.setTop (mkF m 4 #[.val (.ref a), .val (.ref b)] [(.int (0 : Int32))])) _
    refine XS.ifYes X55.here hx rfl (pc0 := 4) (pc' := 53) rfl (hb hby d5_4) rfl ((if0 _ _).trans (teq (by decide)).1) (by decide) (by decide) ?_
    show Steps p.tables e below (T55.setTop (mkF m 53 #[.val (.ref a), .val (.ref b)] [])) _
    refine XS.iconst X55.here hx rfl (hb hby d5_53) ?_
    show Steps p.tables e below (T55.setTop (mkF m 54 #[.val (.ref a), .val (.ref b)] [(.int (0 : Int32))])) _
    exact retN X55 hx (t := .boolean) Bd.returns (by simp) (hb hby d5_54) hr
  · show QV (.int 0) h0 n0 _ T55.heap _
    rw [e55]
    exact ⟨rfl, N0, rfl⟩
theorem join_no {Z : State} {a0 : Array Value} (w1 : (Jvm.Cond.superclass "com/example/brisk_sifter/brisksifter/Formula$All" "com/example/brisk_sifter/brisksifter/Formula").before a0 Z = true) (w2 : (Jvm.Cond.superclass "com/example/brisk_sifter/brisksifter/Formula" "java/lang/Object").before a0 Z = true) (w3 : (Jvm.Cond.noSuperclass "java/lang/Object").before a0 Z = true) (wi : (Jvm.Cond.instantiable "com/example/brisk_sifter/brisksifter/Formula$Join" 3).before a0 Z = true) : ∃ c t, Z.vm.findClass "com/example/brisk_sifter/brisksifter/Formula$All" = some c ∧ Z.vm.findClass "com/example/brisk_sifter/brisksifter/Formula$Join" = some t ∧ Z.vm.assignable c t = false := by
  obtain ⟨t, kt, g0, gk, g1, g2, -, -⟩ := Cond.instantiable_spec wi
  simp only [Bool.or_eq_false_iff] at g2
  obtain ⟨co, ko, o1, o2, o3, -, -⟩ := Cond.noSuperclass_spec w3
  obtain ⟨cf, f0⟩ := found_sup w2
  obtain ⟨pf, kf, kpf, f1, f2, f3, f4, -⟩ := Cond.superclass_spec f0 w2
  obtain ⟨ca, q0⟩ := found_sup w1
  obtain ⟨pa, ka, kpa, q1, q2, q3, q4, q5, -, q7⟩ := Cond.superclass_spec q0 w1
  cases o1.symm.trans f1
  cases f0.symm.trans q1
  have no := ids_ne o1 g0 (by decide)
  have nf := ids_ne f0 g0 (by decide)
  have na := ids_ne q0 g0 (by decide)
  have so : ∀ fuel, Z.vm.isSubclassAux fuel co t = false := fun fuel => by cases fuel with | zero => rfl | succ f => simp [Vm.isSubclassAux, no, o2, o3]
  have sf : ∀ fuel, Z.vm.isSubclassAux fuel cf t = false := fun fuel => by cases fuel with | zero => rfl | succ f => simp [Vm.isSubclassAux, nf, f2, f4, so]
  have sa : ∀ fuel, Z.vm.isSubclassAux fuel ca t = false := fun fuel => by cases fuel with | zero => rfl | succ f => simp [Vm.isSubclassAux, na, q2, q4, sf]
  refine ⟨ca, t, q0, g0, ?_⟩
  show Z.vm.assignableAux (255 + 1) ca t = false
  simp [Vm.assignableAux, na, q2, gk, q5, g1, g2.1, Vm.isSubclass, sa]
set_option maxRecDepth 65536 in
set_option maxHeartbeats 40000000 in
theorem pA_0 {p : Program} {l : Launch} {e : Env} {R : Room} {s : State} {m : MethodId} {args : Array Value} {below : List Frame} {meth : Method} {c : Code} {T0 : State} {locs : List Loc} {cells slots : Nat} {Z : State} {a0 : Array Value} (l1 r1 o1 l2 r2 sel : Int32) (X0 : Stand p l e R s m args below meth c T0 locs cells slots) (hx : p.tables.exec = Jvm.exec) (hZ : Z.Warmed39 s.vm) (hw : ∀ d ∈ tables_1, d.before a0 Z = true) (hby : c.code = code) (hown : s.vm.findClass "com/example/brisk_sifter/brisksifter/JoinEqualsPinLaw" = some m.cls)  (hc13 : (sel &&& (4 : Int32)) = (0 : Int32)) (hc34 : (sel &&& (1 : Int32)) = (0 : Int32)) (hc48 : (sel &&& (2 : Int32)) = (0 : Int32)) :
    ∀ target, Steps p.tables e below (T0.setTop (mkF m 59 #[.val (.int l1), .val (.int r1), .val (.int o1), .val (.int l2), .val (.int r2), .val (.int sel), .val (.int ((o1 &&& (2147483647 : Int32)) % (6 : Int32))), .val (.int (((sel.toUInt32 >>> ((3 : Int32) &&& 31).toUInt32).toInt32) % (6 : Int32))), .val (.int l2), .val (.int r2), .unset, .unset, .unset, .unset, .unset, .unset, .unset, .unset] [])) target → Steps p.tables e below (T0.setTop (mkF m 0 #[.val (.int l1), .val (.int r1), .val (.int o1), .val (.int l2), .val (.int r2), .val (.int sel), .unset, .unset, .unset, .unset, .unset, .unset, .unset, .unset, .unset, .unset, .unset, .unset] [])) target := by
  intro target kt
  show Steps p.tables e below (T0.setTop (mkF m 0 #[.val (.int l1), .val (.int r1), .val (.int o1), .val (.int l2), .val (.int r2), .val (.int sel), .unset, .unset, .unset, .unset, .unset, .unset, .unset, .unset, .unset, .unset, .unset, .unset] [])) _
  refine XS.iloadN X0.here hx rfl (hb hby at_0) rfl ?_
  show Steps p.tables e below (T0.setTop (mkF m 1 #[.val (.int l1), .val (.int r1), .val (.int o1), .val (.int l2), .val (.int r2), .val (.int sel), .unset, .unset, .unset, .unset, .unset, .unset, .unset, .unset, .unset, .unset, .unset, .unset] [(.int o1)])) _
  refine X0.ldcInt hx hown (mvT hZ (hw _ (List.mem_of_getElem? (i := 0) rfl))) (g := (mkF m 1 #[.val (.int l1), .val (.int r1), .val (.int o1), .val (.int l2), .val (.int r2), .val (.int sel), .unset, .unset, .unset, .unset, .unset, .unset, .unset, .unset, .unset, .unset, .unset, .unset] [(.int o1)])) rfl (hb hby at_1) _ ?_
  show Steps p.tables e below (T0.setTop (mkF m 3 #[.val (.int l1), .val (.int r1), .val (.int o1), .val (.int l2), .val (.int r2), .val (.int sel), .unset, .unset, .unset, .unset, .unset, .unset, .unset, .unset, .unset, .unset, .unset, .unset] [(.int (2147483647 : Int32)), (.int o1)])) _
  refine XS.iand X0.here hx rfl (hb hby at_3) rfl ?_
  show Steps p.tables e below (T0.setTop (mkF m 4 #[.val (.int l1), .val (.int r1), .val (.int o1), .val (.int l2), .val (.int r2), .val (.int sel), .unset, .unset, .unset, .unset, .unset, .unset, .unset, .unset, .unset, .unset, .unset, .unset] [(.int (o1 &&& (2147483647 : Int32)))])) _
  refine XS.bipush X0.here hx rfl (hb hby at_4) ?_
  show Steps p.tables e below (T0.setTop (mkF m 6 #[.val (.int l1), .val (.int r1), .val (.int o1), .val (.int l2), .val (.int r2), .val (.int sel), .unset, .unset, .unset, .unset, .unset, .unset, .unset, .unset, .unset, .unset, .unset, .unset] [(.int (6 : Int32)), (.int (o1 &&& (2147483647 : Int32)))])) _
  refine iremM X0 hx rfl (hb hby at_6) rfl (by decide) ?_
  show Steps p.tables e below (T0.setTop (mkF m 7 #[.val (.int l1), .val (.int r1), .val (.int o1), .val (.int l2), .val (.int r2), .val (.int sel), .unset, .unset, .unset, .unset, .unset, .unset, .unset, .unset, .unset, .unset, .unset, .unset] [(.int ((o1 &&& (2147483647 : Int32)) % (6 : Int32)))])) _
  refine XS.istore X0.here hx rfl (hb hby at_7) rfl (l' := #[.val (.int l1), .val (.int r1), .val (.int o1), .val (.int l2), .val (.int r2), .val (.int sel), .val (.int ((o1 &&& (2147483647 : Int32)) % (6 : Int32))), .unset, .unset, .unset, .unset, .unset, .unset, .unset, .unset, .unset, .unset, .unset]) rfl ?_
  show Steps p.tables e below (T0.setTop (mkF m 9 #[.val (.int l1), .val (.int r1), .val (.int o1), .val (.int l2), .val (.int r2), .val (.int sel), .val (.int ((o1 &&& (2147483647 : Int32)) % (6 : Int32))), .unset, .unset, .unset, .unset, .unset, .unset, .unset, .unset, .unset, .unset, .unset] [])) _
  refine XS.iload X0.here hx rfl (hb hby at_9) rfl ?_
  show Steps p.tables e below (T0.setTop (mkF m 11 #[.val (.int l1), .val (.int r1), .val (.int o1), .val (.int l2), .val (.int r2), .val (.int sel), .val (.int ((o1 &&& (2147483647 : Int32)) % (6 : Int32))), .unset, .unset, .unset, .unset, .unset, .unset, .unset, .unset, .unset, .unset, .unset] [(.int sel)])) _
  refine XS.iconst X0.here hx rfl (hb hby at_11) ?_
  show Steps p.tables e below (T0.setTop (mkF m 12 #[.val (.int l1), .val (.int r1), .val (.int o1), .val (.int l2), .val (.int r2), .val (.int sel), .val (.int ((o1 &&& (2147483647 : Int32)) % (6 : Int32))), .unset, .unset, .unset, .unset, .unset, .unset, .unset, .unset, .unset, .unset, .unset] [(.int (4 : Int32)), (.int sel)])) _
  refine XS.iand X0.here hx rfl (hb hby at_12) rfl ?_
  show Steps p.tables e below (T0.setTop (mkF m 13 #[.val (.int l1), .val (.int r1), .val (.int o1), .val (.int l2), .val (.int r2), .val (.int sel), .val (.int ((o1 &&& (2147483647 : Int32)) % (6 : Int32))), .unset, .unset, .unset, .unset, .unset, .unset, .unset, .unset, .unset, .unset, .unset] [(.int (sel &&& (4 : Int32)))])) _
  refine XS.ifYes X0.here hx rfl (pc0 := 13) (pc' := 21) rfl (hb hby at_13) rfl ((if0 _ _).trans (teq hc13).1) (by decide) (by decide) ?_
  show Steps p.tables e below (T0.setTop (mkF m 21 #[.val (.int l1), .val (.int r1), .val (.int o1), .val (.int l2), .val (.int r2), .val (.int sel), .val (.int ((o1 &&& (2147483647 : Int32)) % (6 : Int32))), .unset, .unset, .unset, .unset, .unset, .unset, .unset, .unset, .unset, .unset, .unset] [])) _
  refine XS.iload X0.here hx rfl (hb hby at_21) rfl ?_
  show Steps p.tables e below (T0.setTop (mkF m 23 #[.val (.int l1), .val (.int r1), .val (.int o1), .val (.int l2), .val (.int r2), .val (.int sel), .val (.int ((o1 &&& (2147483647 : Int32)) % (6 : Int32))), .unset, .unset, .unset, .unset, .unset, .unset, .unset, .unset, .unset, .unset, .unset] [(.int sel)])) _
  refine XS.iconst X0.here hx rfl (hb hby at_23) ?_
  show Steps p.tables e below (T0.setTop (mkF m 24 #[.val (.int l1), .val (.int r1), .val (.int o1), .val (.int l2), .val (.int r2), .val (.int sel), .val (.int ((o1 &&& (2147483647 : Int32)) % (6 : Int32))), .unset, .unset, .unset, .unset, .unset, .unset, .unset, .unset, .unset, .unset, .unset] [(.int (3 : Int32)), (.int sel)])) _
  refine XS.iushr X0.here hx rfl (hb hby at_24) rfl ?_
  show Steps p.tables e below (T0.setTop (mkF m 25 #[.val (.int l1), .val (.int r1), .val (.int o1), .val (.int l2), .val (.int r2), .val (.int sel), .val (.int ((o1 &&& (2147483647 : Int32)) % (6 : Int32))), .unset, .unset, .unset, .unset, .unset, .unset, .unset, .unset, .unset, .unset, .unset] [(.int ((sel.toUInt32 >>> ((3 : Int32) &&& 31).toUInt32).toInt32))])) _
  refine XS.bipush X0.here hx rfl (hb hby at_25) ?_
  show Steps p.tables e below (T0.setTop (mkF m 27 #[.val (.int l1), .val (.int r1), .val (.int o1), .val (.int l2), .val (.int r2), .val (.int sel), .val (.int ((o1 &&& (2147483647 : Int32)) % (6 : Int32))), .unset, .unset, .unset, .unset, .unset, .unset, .unset, .unset, .unset, .unset, .unset] [(.int (6 : Int32)), (.int ((sel.toUInt32 >>> ((3 : Int32) &&& 31).toUInt32).toInt32))])) _
  refine iremM X0 hx rfl (hb hby at_27) rfl (by decide) ?_
  show Steps p.tables e below (T0.setTop (mkF m 28 #[.val (.int l1), .val (.int r1), .val (.int o1), .val (.int l2), .val (.int r2), .val (.int sel), .val (.int ((o1 &&& (2147483647 : Int32)) % (6 : Int32))), .unset, .unset, .unset, .unset, .unset, .unset, .unset, .unset, .unset, .unset, .unset] [(.int (((sel.toUInt32 >>> ((3 : Int32) &&& 31).toUInt32).toInt32) % (6 : Int32)))])) _
  refine XS.istore X0.here hx rfl (hb hby at_28) rfl (l' := #[.val (.int l1), .val (.int r1), .val (.int o1), .val (.int l2), .val (.int r2), .val (.int sel), .val (.int ((o1 &&& (2147483647 : Int32)) % (6 : Int32))), .val (.int (((sel.toUInt32 >>> ((3 : Int32) &&& 31).toUInt32).toInt32) % (6 : Int32))), .unset, .unset, .unset, .unset, .unset, .unset, .unset, .unset, .unset, .unset]) rfl ?_
  show Steps p.tables e below (T0.setTop (mkF m 30 #[.val (.int l1), .val (.int r1), .val (.int o1), .val (.int l2), .val (.int r2), .val (.int sel), .val (.int ((o1 &&& (2147483647 : Int32)) % (6 : Int32))), .val (.int (((sel.toUInt32 >>> ((3 : Int32) &&& 31).toUInt32).toInt32) % (6 : Int32))), .unset, .unset, .unset, .unset, .unset, .unset, .unset, .unset, .unset, .unset] [])) _
  refine XS.iload X0.here hx rfl (hb hby at_30) rfl ?_
  show Steps p.tables e below (T0.setTop (mkF m 32 #[.val (.int l1), .val (.int r1), .val (.int o1), .val (.int l2), .val (.int r2), .val (.int sel), .val (.int ((o1 &&& (2147483647 : Int32)) % (6 : Int32))), .val (.int (((sel.toUInt32 >>> ((3 : Int32) &&& 31).toUInt32).toInt32) % (6 : Int32))), .unset, .unset, .unset, .unset, .unset, .unset, .unset, .unset, .unset, .unset] [(.int sel)])) _
  refine XS.iconst X0.here hx rfl (hb hby at_32) ?_
  show Steps p.tables e below (T0.setTop (mkF m 33 #[.val (.int l1), .val (.int r1), .val (.int o1), .val (.int l2), .val (.int r2), .val (.int sel), .val (.int ((o1 &&& (2147483647 : Int32)) % (6 : Int32))), .val (.int (((sel.toUInt32 >>> ((3 : Int32) &&& 31).toUInt32).toInt32) % (6 : Int32))), .unset, .unset, .unset, .unset, .unset, .unset, .unset, .unset, .unset, .unset] [(.int (1 : Int32)), (.int sel)])) _
  refine XS.iand X0.here hx rfl (hb hby at_33) rfl ?_
  show Steps p.tables e below (T0.setTop (mkF m 34 #[.val (.int l1), .val (.int r1), .val (.int o1), .val (.int l2), .val (.int r2), .val (.int sel), .val (.int ((o1 &&& (2147483647 : Int32)) % (6 : Int32))), .val (.int (((sel.toUInt32 >>> ((3 : Int32) &&& 31).toUInt32).toInt32) % (6 : Int32))), .unset, .unset, .unset, .unset, .unset, .unset, .unset, .unset, .unset, .unset] [(.int (sel &&& (1 : Int32)))])) _
  refine XS.ifYes X0.here hx rfl (pc0 := 34) (pc' := 41) rfl (hb hby at_34) rfl ((if0 _ _).trans (teq hc34).1) (by decide) (by decide) ?_
  show Steps p.tables e below (T0.setTop (mkF m 41 #[.val (.int l1), .val (.int r1), .val (.int o1), .val (.int l2), .val (.int r2), .val (.int sel), .val (.int ((o1 &&& (2147483647 : Int32)) % (6 : Int32))), .val (.int (((sel.toUInt32 >>> ((3 : Int32) &&& 31).toUInt32).toInt32) % (6 : Int32))), .unset, .unset, .unset, .unset, .unset, .unset, .unset, .unset, .unset, .unset] [])) _
  refine XS.iloadN X0.here hx rfl (hb hby at_41) rfl ?_
  show Steps p.tables e below (T0.setTop (mkF m 42 #[.val (.int l1), .val (.int r1), .val (.int o1), .val (.int l2), .val (.int r2), .val (.int sel), .val (.int ((o1 &&& (2147483647 : Int32)) % (6 : Int32))), .val (.int (((sel.toUInt32 >>> ((3 : Int32) &&& 31).toUInt32).toInt32) % (6 : Int32))), .unset, .unset, .unset, .unset, .unset, .unset, .unset, .unset, .unset, .unset] [(.int l2)])) _
  refine XS.istore X0.here hx rfl (hb hby at_42) rfl (l' := #[.val (.int l1), .val (.int r1), .val (.int o1), .val (.int l2), .val (.int r2), .val (.int sel), .val (.int ((o1 &&& (2147483647 : Int32)) % (6 : Int32))), .val (.int (((sel.toUInt32 >>> ((3 : Int32) &&& 31).toUInt32).toInt32) % (6 : Int32))), .val (.int l2), .unset, .unset, .unset, .unset, .unset, .unset, .unset, .unset, .unset]) rfl ?_
  show Steps p.tables e below (T0.setTop (mkF m 44 #[.val (.int l1), .val (.int r1), .val (.int o1), .val (.int l2), .val (.int r2), .val (.int sel), .val (.int ((o1 &&& (2147483647 : Int32)) % (6 : Int32))), .val (.int (((sel.toUInt32 >>> ((3 : Int32) &&& 31).toUInt32).toInt32) % (6 : Int32))), .val (.int l2), .unset, .unset, .unset, .unset, .unset, .unset, .unset, .unset, .unset] [])) _
  refine XS.iload X0.here hx rfl (hb hby at_44) rfl ?_
  show Steps p.tables e below (T0.setTop (mkF m 46 #[.val (.int l1), .val (.int r1), .val (.int o1), .val (.int l2), .val (.int r2), .val (.int sel), .val (.int ((o1 &&& (2147483647 : Int32)) % (6 : Int32))), .val (.int (((sel.toUInt32 >>> ((3 : Int32) &&& 31).toUInt32).toInt32) % (6 : Int32))), .val (.int l2), .unset, .unset, .unset, .unset, .unset, .unset, .unset, .unset, .unset] [(.int sel)])) _
  refine XS.iconst X0.here hx rfl (hb hby at_46) ?_
  show Steps p.tables e below (T0.setTop (mkF m 47 #[.val (.int l1), .val (.int r1), .val (.int o1), .val (.int l2), .val (.int r2), .val (.int sel), .val (.int ((o1 &&& (2147483647 : Int32)) % (6 : Int32))), .val (.int (((sel.toUInt32 >>> ((3 : Int32) &&& 31).toUInt32).toInt32) % (6 : Int32))), .val (.int l2), .unset, .unset, .unset, .unset, .unset, .unset, .unset, .unset, .unset] [(.int (2 : Int32)), (.int sel)])) _
  refine XS.iand X0.here hx rfl (hb hby at_47) rfl ?_
  show Steps p.tables e below (T0.setTop (mkF m 48 #[.val (.int l1), .val (.int r1), .val (.int o1), .val (.int l2), .val (.int r2), .val (.int sel), .val (.int ((o1 &&& (2147483647 : Int32)) % (6 : Int32))), .val (.int (((sel.toUInt32 >>> ((3 : Int32) &&& 31).toUInt32).toInt32) % (6 : Int32))), .val (.int l2), .unset, .unset, .unset, .unset, .unset, .unset, .unset, .unset, .unset] [(.int (sel &&& (2 : Int32)))])) _
  refine XS.ifYes X0.here hx rfl (pc0 := 48) (pc' := 55) rfl (hb hby at_48) rfl ((if0 _ _).trans (teq hc48).1) (by decide) (by decide) ?_
  show Steps p.tables e below (T0.setTop (mkF m 55 #[.val (.int l1), .val (.int r1), .val (.int o1), .val (.int l2), .val (.int r2), .val (.int sel), .val (.int ((o1 &&& (2147483647 : Int32)) % (6 : Int32))), .val (.int (((sel.toUInt32 >>> ((3 : Int32) &&& 31).toUInt32).toInt32) % (6 : Int32))), .val (.int l2), .unset, .unset, .unset, .unset, .unset, .unset, .unset, .unset, .unset] [])) _
  refine XS.iload X0.here hx rfl (hb hby at_55) rfl ?_
  show Steps p.tables e below (T0.setTop (mkF m 57 #[.val (.int l1), .val (.int r1), .val (.int o1), .val (.int l2), .val (.int r2), .val (.int sel), .val (.int ((o1 &&& (2147483647 : Int32)) % (6 : Int32))), .val (.int (((sel.toUInt32 >>> ((3 : Int32) &&& 31).toUInt32).toInt32) % (6 : Int32))), .val (.int l2), .unset, .unset, .unset, .unset, .unset, .unset, .unset, .unset, .unset] [(.int r2)])) _
  refine XS.istore X0.here hx rfl (hb hby at_57) rfl (l' := #[.val (.int l1), .val (.int r1), .val (.int o1), .val (.int l2), .val (.int r2), .val (.int sel), .val (.int ((o1 &&& (2147483647 : Int32)) % (6 : Int32))), .val (.int (((sel.toUInt32 >>> ((3 : Int32) &&& 31).toUInt32).toInt32) % (6 : Int32))), .val (.int l2), .val (.int r2), .unset, .unset, .unset, .unset, .unset, .unset, .unset, .unset]) rfl ?_
  exact kt
set_option maxRecDepth 65536 in
set_option maxHeartbeats 40000000 in
theorem pA_1 {p : Program} {l : Launch} {e : Env} {R : Room} {s : State} {m : MethodId} {args : Array Value} {below : List Frame} {meth : Method} {c : Code} {T0 : State} {locs : List Loc} {cells slots : Nat} {Z : State} {a0 : Array Value} (l1 r1 o1 l2 r2 sel : Int32) (X0 : Stand p l e R s m args below meth c T0 locs cells slots) (hx : p.tables.exec = Jvm.exec) (hZ : Z.Warmed39 s.vm) (hw : ∀ d ∈ tables_1, d.before a0 Z = true) (hby : c.code = code) (hown : s.vm.findClass "com/example/brisk_sifter/brisksifter/JoinEqualsPinLaw" = some m.cls)  (hc13 : (sel &&& (4 : Int32)) = (0 : Int32)) (hc34 : (sel &&& (1 : Int32)) = (0 : Int32)) (hc48 : ¬ ((sel &&& (2 : Int32)) = (0 : Int32))) :
    ∀ target, Steps p.tables e below (T0.setTop (mkF m 59 #[.val (.int l1), .val (.int r1), .val (.int o1), .val (.int l2), .val (.int r2), .val (.int sel), .val (.int ((o1 &&& (2147483647 : Int32)) % (6 : Int32))), .val (.int (((sel.toUInt32 >>> ((3 : Int32) &&& 31).toUInt32).toInt32) % (6 : Int32))), .val (.int l2), .val (.int r1), .unset, .unset, .unset, .unset, .unset, .unset, .unset, .unset] [])) target → Steps p.tables e below (T0.setTop (mkF m 0 #[.val (.int l1), .val (.int r1), .val (.int o1), .val (.int l2), .val (.int r2), .val (.int sel), .unset, .unset, .unset, .unset, .unset, .unset, .unset, .unset, .unset, .unset, .unset, .unset] [])) target := by
  intro target kt
  show Steps p.tables e below (T0.setTop (mkF m 0 #[.val (.int l1), .val (.int r1), .val (.int o1), .val (.int l2), .val (.int r2), .val (.int sel), .unset, .unset, .unset, .unset, .unset, .unset, .unset, .unset, .unset, .unset, .unset, .unset] [])) _
  refine XS.iloadN X0.here hx rfl (hb hby at_0) rfl ?_
  show Steps p.tables e below (T0.setTop (mkF m 1 #[.val (.int l1), .val (.int r1), .val (.int o1), .val (.int l2), .val (.int r2), .val (.int sel), .unset, .unset, .unset, .unset, .unset, .unset, .unset, .unset, .unset, .unset, .unset, .unset] [(.int o1)])) _
  refine X0.ldcInt hx hown (mvT hZ (hw _ (List.mem_of_getElem? (i := 0) rfl))) (g := (mkF m 1 #[.val (.int l1), .val (.int r1), .val (.int o1), .val (.int l2), .val (.int r2), .val (.int sel), .unset, .unset, .unset, .unset, .unset, .unset, .unset, .unset, .unset, .unset, .unset, .unset] [(.int o1)])) rfl (hb hby at_1) _ ?_
  show Steps p.tables e below (T0.setTop (mkF m 3 #[.val (.int l1), .val (.int r1), .val (.int o1), .val (.int l2), .val (.int r2), .val (.int sel), .unset, .unset, .unset, .unset, .unset, .unset, .unset, .unset, .unset, .unset, .unset, .unset] [(.int (2147483647 : Int32)), (.int o1)])) _
  refine XS.iand X0.here hx rfl (hb hby at_3) rfl ?_
  show Steps p.tables e below (T0.setTop (mkF m 4 #[.val (.int l1), .val (.int r1), .val (.int o1), .val (.int l2), .val (.int r2), .val (.int sel), .unset, .unset, .unset, .unset, .unset, .unset, .unset, .unset, .unset, .unset, .unset, .unset] [(.int (o1 &&& (2147483647 : Int32)))])) _
  refine XS.bipush X0.here hx rfl (hb hby at_4) ?_
  show Steps p.tables e below (T0.setTop (mkF m 6 #[.val (.int l1), .val (.int r1), .val (.int o1), .val (.int l2), .val (.int r2), .val (.int sel), .unset, .unset, .unset, .unset, .unset, .unset, .unset, .unset, .unset, .unset, .unset, .unset] [(.int (6 : Int32)), (.int (o1 &&& (2147483647 : Int32)))])) _
  refine iremM X0 hx rfl (hb hby at_6) rfl (by decide) ?_
  show Steps p.tables e below (T0.setTop (mkF m 7 #[.val (.int l1), .val (.int r1), .val (.int o1), .val (.int l2), .val (.int r2), .val (.int sel), .unset, .unset, .unset, .unset, .unset, .unset, .unset, .unset, .unset, .unset, .unset, .unset] [(.int ((o1 &&& (2147483647 : Int32)) % (6 : Int32)))])) _
  refine XS.istore X0.here hx rfl (hb hby at_7) rfl (l' := #[.val (.int l1), .val (.int r1), .val (.int o1), .val (.int l2), .val (.int r2), .val (.int sel), .val (.int ((o1 &&& (2147483647 : Int32)) % (6 : Int32))), .unset, .unset, .unset, .unset, .unset, .unset, .unset, .unset, .unset, .unset, .unset]) rfl ?_
  show Steps p.tables e below (T0.setTop (mkF m 9 #[.val (.int l1), .val (.int r1), .val (.int o1), .val (.int l2), .val (.int r2), .val (.int sel), .val (.int ((o1 &&& (2147483647 : Int32)) % (6 : Int32))), .unset, .unset, .unset, .unset, .unset, .unset, .unset, .unset, .unset, .unset, .unset] [])) _
  refine XS.iload X0.here hx rfl (hb hby at_9) rfl ?_
  show Steps p.tables e below (T0.setTop (mkF m 11 #[.val (.int l1), .val (.int r1), .val (.int o1), .val (.int l2), .val (.int r2), .val (.int sel), .val (.int ((o1 &&& (2147483647 : Int32)) % (6 : Int32))), .unset, .unset, .unset, .unset, .unset, .unset, .unset, .unset, .unset, .unset, .unset] [(.int sel)])) _
  refine XS.iconst X0.here hx rfl (hb hby at_11) ?_
  show Steps p.tables e below (T0.setTop (mkF m 12 #[.val (.int l1), .val (.int r1), .val (.int o1), .val (.int l2), .val (.int r2), .val (.int sel), .val (.int ((o1 &&& (2147483647 : Int32)) % (6 : Int32))), .unset, .unset, .unset, .unset, .unset, .unset, .unset, .unset, .unset, .unset, .unset] [(.int (4 : Int32)), (.int sel)])) _
  refine XS.iand X0.here hx rfl (hb hby at_12) rfl ?_
  show Steps p.tables e below (T0.setTop (mkF m 13 #[.val (.int l1), .val (.int r1), .val (.int o1), .val (.int l2), .val (.int r2), .val (.int sel), .val (.int ((o1 &&& (2147483647 : Int32)) % (6 : Int32))), .unset, .unset, .unset, .unset, .unset, .unset, .unset, .unset, .unset, .unset, .unset] [(.int (sel &&& (4 : Int32)))])) _
  refine XS.ifYes X0.here hx rfl (pc0 := 13) (pc' := 21) rfl (hb hby at_13) rfl ((if0 _ _).trans (teq hc13).1) (by decide) (by decide) ?_
  show Steps p.tables e below (T0.setTop (mkF m 21 #[.val (.int l1), .val (.int r1), .val (.int o1), .val (.int l2), .val (.int r2), .val (.int sel), .val (.int ((o1 &&& (2147483647 : Int32)) % (6 : Int32))), .unset, .unset, .unset, .unset, .unset, .unset, .unset, .unset, .unset, .unset, .unset] [])) _
  refine XS.iload X0.here hx rfl (hb hby at_21) rfl ?_
  show Steps p.tables e below (T0.setTop (mkF m 23 #[.val (.int l1), .val (.int r1), .val (.int o1), .val (.int l2), .val (.int r2), .val (.int sel), .val (.int ((o1 &&& (2147483647 : Int32)) % (6 : Int32))), .unset, .unset, .unset, .unset, .unset, .unset, .unset, .unset, .unset, .unset, .unset] [(.int sel)])) _
  refine XS.iconst X0.here hx rfl (hb hby at_23) ?_
  show Steps p.tables e below (T0.setTop (mkF m 24 #[.val (.int l1), .val (.int r1), .val (.int o1), .val (.int l2), .val (.int r2), .val (.int sel), .val (.int ((o1 &&& (2147483647 : Int32)) % (6 : Int32))), .unset, .unset, .unset, .unset, .unset, .unset, .unset, .unset, .unset, .unset, .unset] [(.int (3 : Int32)), (.int sel)])) _
  refine XS.iushr X0.here hx rfl (hb hby at_24) rfl ?_
  show Steps p.tables e below (T0.setTop (mkF m 25 #[.val (.int l1), .val (.int r1), .val (.int o1), .val (.int l2), .val (.int r2), .val (.int sel), .val (.int ((o1 &&& (2147483647 : Int32)) % (6 : Int32))), .unset, .unset, .unset, .unset, .unset, .unset, .unset, .unset, .unset, .unset, .unset] [(.int ((sel.toUInt32 >>> ((3 : Int32) &&& 31).toUInt32).toInt32))])) _
  refine XS.bipush X0.here hx rfl (hb hby at_25) ?_
  show Steps p.tables e below (T0.setTop (mkF m 27 #[.val (.int l1), .val (.int r1), .val (.int o1), .val (.int l2), .val (.int r2), .val (.int sel), .val (.int ((o1 &&& (2147483647 : Int32)) % (6 : Int32))), .unset, .unset, .unset, .unset, .unset, .unset, .unset, .unset, .unset, .unset, .unset] [(.int (6 : Int32)), (.int ((sel.toUInt32 >>> ((3 : Int32) &&& 31).toUInt32).toInt32))])) _
  refine iremM X0 hx rfl (hb hby at_27) rfl (by decide) ?_
  show Steps p.tables e below (T0.setTop (mkF m 28 #[.val (.int l1), .val (.int r1), .val (.int o1), .val (.int l2), .val (.int r2), .val (.int sel), .val (.int ((o1 &&& (2147483647 : Int32)) % (6 : Int32))), .unset, .unset, .unset, .unset, .unset, .unset, .unset, .unset, .unset, .unset, .unset] [(.int (((sel.toUInt32 >>> ((3 : Int32) &&& 31).toUInt32).toInt32) % (6 : Int32)))])) _
  refine XS.istore X0.here hx rfl (hb hby at_28) rfl (l' := #[.val (.int l1), .val (.int r1), .val (.int o1), .val (.int l2), .val (.int r2), .val (.int sel), .val (.int ((o1 &&& (2147483647 : Int32)) % (6 : Int32))), .val (.int (((sel.toUInt32 >>> ((3 : Int32) &&& 31).toUInt32).toInt32) % (6 : Int32))), .unset, .unset, .unset, .unset, .unset, .unset, .unset, .unset, .unset, .unset]) rfl ?_
  show Steps p.tables e below (T0.setTop (mkF m 30 #[.val (.int l1), .val (.int r1), .val (.int o1), .val (.int l2), .val (.int r2), .val (.int sel), .val (.int ((o1 &&& (2147483647 : Int32)) % (6 : Int32))), .val (.int (((sel.toUInt32 >>> ((3 : Int32) &&& 31).toUInt32).toInt32) % (6 : Int32))), .unset, .unset, .unset, .unset, .unset, .unset, .unset, .unset, .unset, .unset] [])) _
  refine XS.iload X0.here hx rfl (hb hby at_30) rfl ?_
  show Steps p.tables e below (T0.setTop (mkF m 32 #[.val (.int l1), .val (.int r1), .val (.int o1), .val (.int l2), .val (.int r2), .val (.int sel), .val (.int ((o1 &&& (2147483647 : Int32)) % (6 : Int32))), .val (.int (((sel.toUInt32 >>> ((3 : Int32) &&& 31).toUInt32).toInt32) % (6 : Int32))), .unset, .unset, .unset, .unset, .unset, .unset, .unset, .unset, .unset, .unset] [(.int sel)])) _
  refine XS.iconst X0.here hx rfl (hb hby at_32) ?_
  show Steps p.tables e below (T0.setTop (mkF m 33 #[.val (.int l1), .val (.int r1), .val (.int o1), .val (.int l2), .val (.int r2), .val (.int sel), .val (.int ((o1 &&& (2147483647 : Int32)) % (6 : Int32))), .val (.int (((sel.toUInt32 >>> ((3 : Int32) &&& 31).toUInt32).toInt32) % (6 : Int32))), .unset, .unset, .unset, .unset, .unset, .unset, .unset, .unset, .unset, .unset] [(.int (1 : Int32)), (.int sel)])) _
  refine XS.iand X0.here hx rfl (hb hby at_33) rfl ?_
  show Steps p.tables e below (T0.setTop (mkF m 34 #[.val (.int l1), .val (.int r1), .val (.int o1), .val (.int l2), .val (.int r2), .val (.int sel), .val (.int ((o1 &&& (2147483647 : Int32)) % (6 : Int32))), .val (.int (((sel.toUInt32 >>> ((3 : Int32) &&& 31).toUInt32).toInt32) % (6 : Int32))), .unset, .unset, .unset, .unset, .unset, .unset, .unset, .unset, .unset, .unset] [(.int (sel &&& (1 : Int32)))])) _
  refine XS.ifYes X0.here hx rfl (pc0 := 34) (pc' := 41) rfl (hb hby at_34) rfl ((if0 _ _).trans (teq hc34).1) (by decide) (by decide) ?_
  show Steps p.tables e below (T0.setTop (mkF m 41 #[.val (.int l1), .val (.int r1), .val (.int o1), .val (.int l2), .val (.int r2), .val (.int sel), .val (.int ((o1 &&& (2147483647 : Int32)) % (6 : Int32))), .val (.int (((sel.toUInt32 >>> ((3 : Int32) &&& 31).toUInt32).toInt32) % (6 : Int32))), .unset, .unset, .unset, .unset, .unset, .unset, .unset, .unset, .unset, .unset] [])) _
  refine XS.iloadN X0.here hx rfl (hb hby at_41) rfl ?_
  show Steps p.tables e below (T0.setTop (mkF m 42 #[.val (.int l1), .val (.int r1), .val (.int o1), .val (.int l2), .val (.int r2), .val (.int sel), .val (.int ((o1 &&& (2147483647 : Int32)) % (6 : Int32))), .val (.int (((sel.toUInt32 >>> ((3 : Int32) &&& 31).toUInt32).toInt32) % (6 : Int32))), .unset, .unset, .unset, .unset, .unset, .unset, .unset, .unset, .unset, .unset] [(.int l2)])) _
  refine XS.istore X0.here hx rfl (hb hby at_42) rfl (l' := #[.val (.int l1), .val (.int r1), .val (.int o1), .val (.int l2), .val (.int r2), .val (.int sel), .val (.int ((o1 &&& (2147483647 : Int32)) % (6 : Int32))), .val (.int (((sel.toUInt32 >>> ((3 : Int32) &&& 31).toUInt32).toInt32) % (6 : Int32))), .val (.int l2), .unset, .unset, .unset, .unset, .unset, .unset, .unset, .unset, .unset]) rfl ?_
  show Steps p.tables e below (T0.setTop (mkF m 44 #[.val (.int l1), .val (.int r1), .val (.int o1), .val (.int l2), .val (.int r2), .val (.int sel), .val (.int ((o1 &&& (2147483647 : Int32)) % (6 : Int32))), .val (.int (((sel.toUInt32 >>> ((3 : Int32) &&& 31).toUInt32).toInt32) % (6 : Int32))), .val (.int l2), .unset, .unset, .unset, .unset, .unset, .unset, .unset, .unset, .unset] [])) _
  refine XS.iload X0.here hx rfl (hb hby at_44) rfl ?_
  show Steps p.tables e below (T0.setTop (mkF m 46 #[.val (.int l1), .val (.int r1), .val (.int o1), .val (.int l2), .val (.int r2), .val (.int sel), .val (.int ((o1 &&& (2147483647 : Int32)) % (6 : Int32))), .val (.int (((sel.toUInt32 >>> ((3 : Int32) &&& 31).toUInt32).toInt32) % (6 : Int32))), .val (.int l2), .unset, .unset, .unset, .unset, .unset, .unset, .unset, .unset, .unset] [(.int sel)])) _
  refine XS.iconst X0.here hx rfl (hb hby at_46) ?_
  show Steps p.tables e below (T0.setTop (mkF m 47 #[.val (.int l1), .val (.int r1), .val (.int o1), .val (.int l2), .val (.int r2), .val (.int sel), .val (.int ((o1 &&& (2147483647 : Int32)) % (6 : Int32))), .val (.int (((sel.toUInt32 >>> ((3 : Int32) &&& 31).toUInt32).toInt32) % (6 : Int32))), .val (.int l2), .unset, .unset, .unset, .unset, .unset, .unset, .unset, .unset, .unset] [(.int (2 : Int32)), (.int sel)])) _
  refine XS.iand X0.here hx rfl (hb hby at_47) rfl ?_
  show Steps p.tables e below (T0.setTop (mkF m 48 #[.val (.int l1), .val (.int r1), .val (.int o1), .val (.int l2), .val (.int r2), .val (.int sel), .val (.int ((o1 &&& (2147483647 : Int32)) % (6 : Int32))), .val (.int (((sel.toUInt32 >>> ((3 : Int32) &&& 31).toUInt32).toInt32) % (6 : Int32))), .val (.int l2), .unset, .unset, .unset, .unset, .unset, .unset, .unset, .unset, .unset] [(.int (sel &&& (2 : Int32)))])) _
  refine XS.ifNo X0.here hx rfl (hb hby at_48) rfl ((if0 _ _).trans (feq hc48).1) ?_
  show Steps p.tables e below (T0.setTop (mkF m 51 #[.val (.int l1), .val (.int r1), .val (.int o1), .val (.int l2), .val (.int r2), .val (.int sel), .val (.int ((o1 &&& (2147483647 : Int32)) % (6 : Int32))), .val (.int (((sel.toUInt32 >>> ((3 : Int32) &&& 31).toUInt32).toInt32) % (6 : Int32))), .val (.int l2), .unset, .unset, .unset, .unset, .unset, .unset, .unset, .unset, .unset] [])) _
  refine XS.iloadN X0.here hx rfl (hb hby at_51) rfl ?_
  show Steps p.tables e below (T0.setTop (mkF m 52 #[.val (.int l1), .val (.int r1), .val (.int o1), .val (.int l2), .val (.int r2), .val (.int sel), .val (.int ((o1 &&& (2147483647 : Int32)) % (6 : Int32))), .val (.int (((sel.toUInt32 >>> ((3 : Int32) &&& 31).toUInt32).toInt32) % (6 : Int32))), .val (.int l2), .unset, .unset, .unset, .unset, .unset, .unset, .unset, .unset, .unset] [(.int r1)])) _
  refine XS.goto X0.here hx rfl (pc0 := 52) (pc' := 57) rfl (hb hby at_52) (by decide) (by decide) ?_
  show Steps p.tables e below (T0.setTop (mkF m 57 #[.val (.int l1), .val (.int r1), .val (.int o1), .val (.int l2), .val (.int r2), .val (.int sel), .val (.int ((o1 &&& (2147483647 : Int32)) % (6 : Int32))), .val (.int (((sel.toUInt32 >>> ((3 : Int32) &&& 31).toUInt32).toInt32) % (6 : Int32))), .val (.int l2), .unset, .unset, .unset, .unset, .unset, .unset, .unset, .unset, .unset] [(.int r1)])) _
  refine XS.istore X0.here hx rfl (hb hby at_57) rfl (l' := #[.val (.int l1), .val (.int r1), .val (.int o1), .val (.int l2), .val (.int r2), .val (.int sel), .val (.int ((o1 &&& (2147483647 : Int32)) % (6 : Int32))), .val (.int (((sel.toUInt32 >>> ((3 : Int32) &&& 31).toUInt32).toInt32) % (6 : Int32))), .val (.int l2), .val (.int r1), .unset, .unset, .unset, .unset, .unset, .unset, .unset, .unset]) rfl ?_
  exact kt
set_option maxRecDepth 65536 in
set_option maxHeartbeats 40000000 in
theorem pA_2 {p : Program} {l : Launch} {e : Env} {R : Room} {s : State} {m : MethodId} {args : Array Value} {below : List Frame} {meth : Method} {c : Code} {T0 : State} {locs : List Loc} {cells slots : Nat} {Z : State} {a0 : Array Value} (l1 r1 o1 l2 r2 sel : Int32) (X0 : Stand p l e R s m args below meth c T0 locs cells slots) (hx : p.tables.exec = Jvm.exec) (hZ : Z.Warmed39 s.vm) (hw : ∀ d ∈ tables_1, d.before a0 Z = true) (hby : c.code = code) (hown : s.vm.findClass "com/example/brisk_sifter/brisksifter/JoinEqualsPinLaw" = some m.cls)  (hc13 : (sel &&& (4 : Int32)) = (0 : Int32)) (hc34 : ¬ ((sel &&& (1 : Int32)) = (0 : Int32))) (hc48 : (sel &&& (2 : Int32)) = (0 : Int32)) :
    ∀ target, Steps p.tables e below (T0.setTop (mkF m 59 #[.val (.int l1), .val (.int r1), .val (.int o1), .val (.int l2), .val (.int r2), .val (.int sel), .val (.int ((o1 &&& (2147483647 : Int32)) % (6 : Int32))), .val (.int (((sel.toUInt32 >>> ((3 : Int32) &&& 31).toUInt32).toInt32) % (6 : Int32))), .val (.int l1), .val (.int r2), .unset, .unset, .unset, .unset, .unset, .unset, .unset, .unset] [])) target → Steps p.tables e below (T0.setTop (mkF m 0 #[.val (.int l1), .val (.int r1), .val (.int o1), .val (.int l2), .val (.int r2), .val (.int sel), .unset, .unset, .unset, .unset, .unset, .unset, .unset, .unset, .unset, .unset, .unset, .unset] [])) target := by
  intro target kt
  show Steps p.tables e below (T0.setTop (mkF m 0 #[.val (.int l1), .val (.int r1), .val (.int o1), .val (.int l2), .val (.int r2), .val (.int sel), .unset, .unset, .unset, .unset, .unset, .unset, .unset, .unset, .unset, .unset, .unset, .unset] [])) _
  refine XS.iloadN X0.here hx rfl (hb hby at_0) rfl ?_
  show Steps p.tables e below (T0.setTop (mkF m 1 #[.val (.int l1), .val (.int r1), .val (.int o1), .val (.int l2), .val (.int r2), .val (.int sel), .unset, .unset, .unset, .unset, .unset, .unset, .unset, .unset, .unset, .unset, .unset, .unset] [(.int o1)])) _
  refine X0.ldcInt hx hown (mvT hZ (hw _ (List.mem_of_getElem? (i := 0) rfl))) (g := (mkF m 1 #[.val (.int l1), .val (.int r1), .val (.int o1), .val (.int l2), .val (.int r2), .val (.int sel), .unset, .unset, .unset, .unset, .unset, .unset, .unset, .unset, .unset, .unset, .unset, .unset] [(.int o1)])) rfl (hb hby at_1) _ ?_
  show Steps p.tables e below (T0.setTop (mkF m 3 #[.val (.int l1), .val (.int r1), .val (.int o1), .val (.int l2), .val (.int r2), .val (.int sel), .unset, .unset, .unset, .unset, .unset, .unset, .unset, .unset, .unset, .unset, .unset, .unset] [(.int (2147483647 : Int32)), (.int o1)])) _
  refine XS.iand X0.here hx rfl (hb hby at_3) rfl ?_
  show Steps p.tables e below (T0.setTop (mkF m 4 #[.val (.int l1), .val (.int r1), .val (.int o1), .val (.int l2), .val (.int r2), .val (.int sel), .unset, .unset, .unset, .unset, .unset, .unset, .unset, .unset, .unset, .unset, .unset, .unset] [(.int (o1 &&& (2147483647 : Int32)))])) _
  refine XS.bipush X0.here hx rfl (hb hby at_4) ?_
  show Steps p.tables e below (T0.setTop (mkF m 6 #[.val (.int l1), .val (.int r1), .val (.int o1), .val (.int l2), .val (.int r2), .val (.int sel), .unset, .unset, .unset, .unset, .unset, .unset, .unset, .unset, .unset, .unset, .unset, .unset] [(.int (6 : Int32)), (.int (o1 &&& (2147483647 : Int32)))])) _
  refine iremM X0 hx rfl (hb hby at_6) rfl (by decide) ?_
  show Steps p.tables e below (T0.setTop (mkF m 7 #[.val (.int l1), .val (.int r1), .val (.int o1), .val (.int l2), .val (.int r2), .val (.int sel), .unset, .unset, .unset, .unset, .unset, .unset, .unset, .unset, .unset, .unset, .unset, .unset] [(.int ((o1 &&& (2147483647 : Int32)) % (6 : Int32)))])) _
  refine XS.istore X0.here hx rfl (hb hby at_7) rfl (l' := #[.val (.int l1), .val (.int r1), .val (.int o1), .val (.int l2), .val (.int r2), .val (.int sel), .val (.int ((o1 &&& (2147483647 : Int32)) % (6 : Int32))), .unset, .unset, .unset, .unset, .unset, .unset, .unset, .unset, .unset, .unset, .unset]) rfl ?_
  show Steps p.tables e below (T0.setTop (mkF m 9 #[.val (.int l1), .val (.int r1), .val (.int o1), .val (.int l2), .val (.int r2), .val (.int sel), .val (.int ((o1 &&& (2147483647 : Int32)) % (6 : Int32))), .unset, .unset, .unset, .unset, .unset, .unset, .unset, .unset, .unset, .unset, .unset] [])) _
  refine XS.iload X0.here hx rfl (hb hby at_9) rfl ?_
  show Steps p.tables e below (T0.setTop (mkF m 11 #[.val (.int l1), .val (.int r1), .val (.int o1), .val (.int l2), .val (.int r2), .val (.int sel), .val (.int ((o1 &&& (2147483647 : Int32)) % (6 : Int32))), .unset, .unset, .unset, .unset, .unset, .unset, .unset, .unset, .unset, .unset, .unset] [(.int sel)])) _
  refine XS.iconst X0.here hx rfl (hb hby at_11) ?_
  show Steps p.tables e below (T0.setTop (mkF m 12 #[.val (.int l1), .val (.int r1), .val (.int o1), .val (.int l2), .val (.int r2), .val (.int sel), .val (.int ((o1 &&& (2147483647 : Int32)) % (6 : Int32))), .unset, .unset, .unset, .unset, .unset, .unset, .unset, .unset, .unset, .unset, .unset] [(.int (4 : Int32)), (.int sel)])) _
  refine XS.iand X0.here hx rfl (hb hby at_12) rfl ?_
  show Steps p.tables e below (T0.setTop (mkF m 13 #[.val (.int l1), .val (.int r1), .val (.int o1), .val (.int l2), .val (.int r2), .val (.int sel), .val (.int ((o1 &&& (2147483647 : Int32)) % (6 : Int32))), .unset, .unset, .unset, .unset, .unset, .unset, .unset, .unset, .unset, .unset, .unset] [(.int (sel &&& (4 : Int32)))])) _
  refine XS.ifYes X0.here hx rfl (pc0 := 13) (pc' := 21) rfl (hb hby at_13) rfl ((if0 _ _).trans (teq hc13).1) (by decide) (by decide) ?_
  show Steps p.tables e below (T0.setTop (mkF m 21 #[.val (.int l1), .val (.int r1), .val (.int o1), .val (.int l2), .val (.int r2), .val (.int sel), .val (.int ((o1 &&& (2147483647 : Int32)) % (6 : Int32))), .unset, .unset, .unset, .unset, .unset, .unset, .unset, .unset, .unset, .unset, .unset] [])) _
  refine XS.iload X0.here hx rfl (hb hby at_21) rfl ?_
  show Steps p.tables e below (T0.setTop (mkF m 23 #[.val (.int l1), .val (.int r1), .val (.int o1), .val (.int l2), .val (.int r2), .val (.int sel), .val (.int ((o1 &&& (2147483647 : Int32)) % (6 : Int32))), .unset, .unset, .unset, .unset, .unset, .unset, .unset, .unset, .unset, .unset, .unset] [(.int sel)])) _
  refine XS.iconst X0.here hx rfl (hb hby at_23) ?_
  show Steps p.tables e below (T0.setTop (mkF m 24 #[.val (.int l1), .val (.int r1), .val (.int o1), .val (.int l2), .val (.int r2), .val (.int sel), .val (.int ((o1 &&& (2147483647 : Int32)) % (6 : Int32))), .unset, .unset, .unset, .unset, .unset, .unset, .unset, .unset, .unset, .unset, .unset] [(.int (3 : Int32)), (.int sel)])) _
  refine XS.iushr X0.here hx rfl (hb hby at_24) rfl ?_
  show Steps p.tables e below (T0.setTop (mkF m 25 #[.val (.int l1), .val (.int r1), .val (.int o1), .val (.int l2), .val (.int r2), .val (.int sel), .val (.int ((o1 &&& (2147483647 : Int32)) % (6 : Int32))), .unset, .unset, .unset, .unset, .unset, .unset, .unset, .unset, .unset, .unset, .unset] [(.int ((sel.toUInt32 >>> ((3 : Int32) &&& 31).toUInt32).toInt32))])) _
  refine XS.bipush X0.here hx rfl (hb hby at_25) ?_
  show Steps p.tables e below (T0.setTop (mkF m 27 #[.val (.int l1), .val (.int r1), .val (.int o1), .val (.int l2), .val (.int r2), .val (.int sel), .val (.int ((o1 &&& (2147483647 : Int32)) % (6 : Int32))), .unset, .unset, .unset, .unset, .unset, .unset, .unset, .unset, .unset, .unset, .unset] [(.int (6 : Int32)), (.int ((sel.toUInt32 >>> ((3 : Int32) &&& 31).toUInt32).toInt32))])) _
  refine iremM X0 hx rfl (hb hby at_27) rfl (by decide) ?_
  show Steps p.tables e below (T0.setTop (mkF m 28 #[.val (.int l1), .val (.int r1), .val (.int o1), .val (.int l2), .val (.int r2), .val (.int sel), .val (.int ((o1 &&& (2147483647 : Int32)) % (6 : Int32))), .unset, .unset, .unset, .unset, .unset, .unset, .unset, .unset, .unset, .unset, .unset] [(.int (((sel.toUInt32 >>> ((3 : Int32) &&& 31).toUInt32).toInt32) % (6 : Int32)))])) _
  refine XS.istore X0.here hx rfl (hb hby at_28) rfl (l' := #[.val (.int l1), .val (.int r1), .val (.int o1), .val (.int l2), .val (.int r2), .val (.int sel), .val (.int ((o1 &&& (2147483647 : Int32)) % (6 : Int32))), .val (.int (((sel.toUInt32 >>> ((3 : Int32) &&& 31).toUInt32).toInt32) % (6 : Int32))), .unset, .unset, .unset, .unset, .unset, .unset, .unset, .unset, .unset, .unset]) rfl ?_
  show Steps p.tables e below (T0.setTop (mkF m 30 #[.val (.int l1), .val (.int r1), .val (.int o1), .val (.int l2), .val (.int r2), .val (.int sel), .val (.int ((o1 &&& (2147483647 : Int32)) % (6 : Int32))), .val (.int (((sel.toUInt32 >>> ((3 : Int32) &&& 31).toUInt32).toInt32) % (6 : Int32))), .unset, .unset, .unset, .unset, .unset, .unset, .unset, .unset, .unset, .unset] [])) _
  refine XS.iload X0.here hx rfl (hb hby at_30) rfl ?_
  show Steps p.tables e below (T0.setTop (mkF m 32 #[.val (.int l1), .val (.int r1), .val (.int o1), .val (.int l2), .val (.int r2), .val (.int sel), .val (.int ((o1 &&& (2147483647 : Int32)) % (6 : Int32))), .val (.int (((sel.toUInt32 >>> ((3 : Int32) &&& 31).toUInt32).toInt32) % (6 : Int32))), .unset, .unset, .unset, .unset, .unset, .unset, .unset, .unset, .unset, .unset] [(.int sel)])) _
  refine XS.iconst X0.here hx rfl (hb hby at_32) ?_
  show Steps p.tables e below (T0.setTop (mkF m 33 #[.val (.int l1), .val (.int r1), .val (.int o1), .val (.int l2), .val (.int r2), .val (.int sel), .val (.int ((o1 &&& (2147483647 : Int32)) % (6 : Int32))), .val (.int (((sel.toUInt32 >>> ((3 : Int32) &&& 31).toUInt32).toInt32) % (6 : Int32))), .unset, .unset, .unset, .unset, .unset, .unset, .unset, .unset, .unset, .unset] [(.int (1 : Int32)), (.int sel)])) _
  refine XS.iand X0.here hx rfl (hb hby at_33) rfl ?_
  show Steps p.tables e below (T0.setTop (mkF m 34 #[.val (.int l1), .val (.int r1), .val (.int o1), .val (.int l2), .val (.int r2), .val (.int sel), .val (.int ((o1 &&& (2147483647 : Int32)) % (6 : Int32))), .val (.int (((sel.toUInt32 >>> ((3 : Int32) &&& 31).toUInt32).toInt32) % (6 : Int32))), .unset, .unset, .unset, .unset, .unset, .unset, .unset, .unset, .unset, .unset] [(.int (sel &&& (1 : Int32)))])) _
  refine XS.ifNo X0.here hx rfl (hb hby at_34) rfl ((if0 _ _).trans (feq hc34).1) ?_
  show Steps p.tables e below (T0.setTop (mkF m 37 #[.val (.int l1), .val (.int r1), .val (.int o1), .val (.int l2), .val (.int r2), .val (.int sel), .val (.int ((o1 &&& (2147483647 : Int32)) % (6 : Int32))), .val (.int (((sel.toUInt32 >>> ((3 : Int32) &&& 31).toUInt32).toInt32) % (6 : Int32))), .unset, .unset, .unset, .unset, .unset, .unset, .unset, .unset, .unset, .unset] [])) _
  refine XS.iloadN X0.here hx rfl (hb hby at_37) rfl ?_
  show Steps p.tables e below (T0.setTop (mkF m 38 #[.val (.int l1), .val (.int r1), .val (.int o1), .val (.int l2), .val (.int r2), .val (.int sel), .val (.int ((o1 &&& (2147483647 : Int32)) % (6 : Int32))), .val (.int (((sel.toUInt32 >>> ((3 : Int32) &&& 31).toUInt32).toInt32) % (6 : Int32))), .unset, .unset, .unset, .unset, .unset, .unset, .unset, .unset, .unset, .unset] [(.int l1)])) _
  refine XS.goto X0.here hx rfl (pc0 := 38) (pc' := 42) rfl (hb hby at_38) (by decide) (by decide) ?_
  show Steps p.tables e below (T0.setTop (mkF m 42 #[.val (.int l1), .val (.int r1), .val (.int o1), .val (.int l2), .val (.int r2), .val (.int sel), .val (.int ((o1 &&& (2147483647 : Int32)) % (6 : Int32))), .val (.int (((sel.toUInt32 >>> ((3 : Int32) &&& 31).toUInt32).toInt32) % (6 : Int32))), .unset, .unset, .unset, .unset, .unset, .unset, .unset, .unset, .unset, .unset] [(.int l1)])) _
  refine XS.istore X0.here hx rfl (hb hby at_42) rfl (l' := #[.val (.int l1), .val (.int r1), .val (.int o1), .val (.int l2), .val (.int r2), .val (.int sel), .val (.int ((o1 &&& (2147483647 : Int32)) % (6 : Int32))), .val (.int (((sel.toUInt32 >>> ((3 : Int32) &&& 31).toUInt32).toInt32) % (6 : Int32))), .val (.int l1), .unset, .unset, .unset, .unset, .unset, .unset, .unset, .unset, .unset]) rfl ?_
  show Steps p.tables e below (T0.setTop (mkF m 44 #[.val (.int l1), .val (.int r1), .val (.int o1), .val (.int l2), .val (.int r2), .val (.int sel), .val (.int ((o1 &&& (2147483647 : Int32)) % (6 : Int32))), .val (.int (((sel.toUInt32 >>> ((3 : Int32) &&& 31).toUInt32).toInt32) % (6 : Int32))), .val (.int l1), .unset, .unset, .unset, .unset, .unset, .unset, .unset, .unset, .unset] [])) _
  refine XS.iload X0.here hx rfl (hb hby at_44) rfl ?_
  show Steps p.tables e below (T0.setTop (mkF m 46 #[.val (.int l1), .val (.int r1), .val (.int o1), .val (.int l2), .val (.int r2), .val (.int sel), .val (.int ((o1 &&& (2147483647 : Int32)) % (6 : Int32))), .val (.int (((sel.toUInt32 >>> ((3 : Int32) &&& 31).toUInt32).toInt32) % (6 : Int32))), .val (.int l1), .unset, .unset, .unset, .unset, .unset, .unset, .unset, .unset, .unset] [(.int sel)])) _
  refine XS.iconst X0.here hx rfl (hb hby at_46) ?_
  show Steps p.tables e below (T0.setTop (mkF m 47 #[.val (.int l1), .val (.int r1), .val (.int o1), .val (.int l2), .val (.int r2), .val (.int sel), .val (.int ((o1 &&& (2147483647 : Int32)) % (6 : Int32))), .val (.int (((sel.toUInt32 >>> ((3 : Int32) &&& 31).toUInt32).toInt32) % (6 : Int32))), .val (.int l1), .unset, .unset, .unset, .unset, .unset, .unset, .unset, .unset, .unset] [(.int (2 : Int32)), (.int sel)])) _
  refine XS.iand X0.here hx rfl (hb hby at_47) rfl ?_
  show Steps p.tables e below (T0.setTop (mkF m 48 #[.val (.int l1), .val (.int r1), .val (.int o1), .val (.int l2), .val (.int r2), .val (.int sel), .val (.int ((o1 &&& (2147483647 : Int32)) % (6 : Int32))), .val (.int (((sel.toUInt32 >>> ((3 : Int32) &&& 31).toUInt32).toInt32) % (6 : Int32))), .val (.int l1), .unset, .unset, .unset, .unset, .unset, .unset, .unset, .unset, .unset] [(.int (sel &&& (2 : Int32)))])) _
  refine XS.ifYes X0.here hx rfl (pc0 := 48) (pc' := 55) rfl (hb hby at_48) rfl ((if0 _ _).trans (teq hc48).1) (by decide) (by decide) ?_
  show Steps p.tables e below (T0.setTop (mkF m 55 #[.val (.int l1), .val (.int r1), .val (.int o1), .val (.int l2), .val (.int r2), .val (.int sel), .val (.int ((o1 &&& (2147483647 : Int32)) % (6 : Int32))), .val (.int (((sel.toUInt32 >>> ((3 : Int32) &&& 31).toUInt32).toInt32) % (6 : Int32))), .val (.int l1), .unset, .unset, .unset, .unset, .unset, .unset, .unset, .unset, .unset] [])) _
  refine XS.iload X0.here hx rfl (hb hby at_55) rfl ?_
  show Steps p.tables e below (T0.setTop (mkF m 57 #[.val (.int l1), .val (.int r1), .val (.int o1), .val (.int l2), .val (.int r2), .val (.int sel), .val (.int ((o1 &&& (2147483647 : Int32)) % (6 : Int32))), .val (.int (((sel.toUInt32 >>> ((3 : Int32) &&& 31).toUInt32).toInt32) % (6 : Int32))), .val (.int l1), .unset, .unset, .unset, .unset, .unset, .unset, .unset, .unset, .unset] [(.int r2)])) _
  refine XS.istore X0.here hx rfl (hb hby at_57) rfl (l' := #[.val (.int l1), .val (.int r1), .val (.int o1), .val (.int l2), .val (.int r2), .val (.int sel), .val (.int ((o1 &&& (2147483647 : Int32)) % (6 : Int32))), .val (.int (((sel.toUInt32 >>> ((3 : Int32) &&& 31).toUInt32).toInt32) % (6 : Int32))), .val (.int l1), .val (.int r2), .unset, .unset, .unset, .unset, .unset, .unset, .unset, .unset]) rfl ?_
  exact kt
set_option maxRecDepth 65536 in
set_option maxHeartbeats 40000000 in
theorem pA_3 {p : Program} {l : Launch} {e : Env} {R : Room} {s : State} {m : MethodId} {args : Array Value} {below : List Frame} {meth : Method} {c : Code} {T0 : State} {locs : List Loc} {cells slots : Nat} {Z : State} {a0 : Array Value} (l1 r1 o1 l2 r2 sel : Int32) (X0 : Stand p l e R s m args below meth c T0 locs cells slots) (hx : p.tables.exec = Jvm.exec) (hZ : Z.Warmed39 s.vm) (hw : ∀ d ∈ tables_1, d.before a0 Z = true) (hby : c.code = code) (hown : s.vm.findClass "com/example/brisk_sifter/brisksifter/JoinEqualsPinLaw" = some m.cls)  (hc13 : (sel &&& (4 : Int32)) = (0 : Int32)) (hc34 : ¬ ((sel &&& (1 : Int32)) = (0 : Int32))) (hc48 : ¬ ((sel &&& (2 : Int32)) = (0 : Int32))) :
    ∀ target, Steps p.tables e below (T0.setTop (mkF m 59 #[.val (.int l1), .val (.int r1), .val (.int o1), .val (.int l2), .val (.int r2), .val (.int sel), .val (.int ((o1 &&& (2147483647 : Int32)) % (6 : Int32))), .val (.int (((sel.toUInt32 >>> ((3 : Int32) &&& 31).toUInt32).toInt32) % (6 : Int32))), .val (.int l1), .val (.int r1), .unset, .unset, .unset, .unset, .unset, .unset, .unset, .unset] [])) target → Steps p.tables e below (T0.setTop (mkF m 0 #[.val (.int l1), .val (.int r1), .val (.int o1), .val (.int l2), .val (.int r2), .val (.int sel), .unset, .unset, .unset, .unset, .unset, .unset, .unset, .unset, .unset, .unset, .unset, .unset] [])) target := by
  intro target kt
  show Steps p.tables e below (T0.setTop (mkF m 0 #[.val (.int l1), .val (.int r1), .val (.int o1), .val (.int l2), .val (.int r2), .val (.int sel), .unset, .unset, .unset, .unset, .unset, .unset, .unset, .unset, .unset, .unset, .unset, .unset] [])) _
  refine XS.iloadN X0.here hx rfl (hb hby at_0) rfl ?_
  show Steps p.tables e below (T0.setTop (mkF m 1 #[.val (.int l1), .val (.int r1), .val (.int o1), .val (.int l2), .val (.int r2), .val (.int sel), .unset, .unset, .unset, .unset, .unset, .unset, .unset, .unset, .unset, .unset, .unset, .unset] [(.int o1)])) _
  refine X0.ldcInt hx hown (mvT hZ (hw _ (List.mem_of_getElem? (i := 0) rfl))) (g := (mkF m 1 #[.val (.int l1), .val (.int r1), .val (.int o1), .val (.int l2), .val (.int r2), .val (.int sel), .unset, .unset, .unset, .unset, .unset, .unset, .unset, .unset, .unset, .unset, .unset, .unset] [(.int o1)])) rfl (hb hby at_1) _ ?_
  show Steps p.tables e below (T0.setTop (mkF m 3 #[.val (.int l1), .val (.int r1), .val (.int o1), .val (.int l2), .val (.int r2), .val (.int sel), .unset, .unset, .unset, .unset, .unset, .unset, .unset, .unset, .unset, .unset, .unset, .unset] [(.int (2147483647 : Int32)), (.int o1)])) _
  refine XS.iand X0.here hx rfl (hb hby at_3) rfl ?_
  show Steps p.tables e below (T0.setTop (mkF m 4 #[.val (.int l1), .val (.int r1), .val (.int o1), .val (.int l2), .val (.int r2), .val (.int sel), .unset, .unset, .unset, .unset, .unset, .unset, .unset, .unset, .unset, .unset, .unset, .unset] [(.int (o1 &&& (2147483647 : Int32)))])) _
  refine XS.bipush X0.here hx rfl (hb hby at_4) ?_
  show Steps p.tables e below (T0.setTop (mkF m 6 #[.val (.int l1), .val (.int r1), .val (.int o1), .val (.int l2), .val (.int r2), .val (.int sel), .unset, .unset, .unset, .unset, .unset, .unset, .unset, .unset, .unset, .unset, .unset, .unset] [(.int (6 : Int32)), (.int (o1 &&& (2147483647 : Int32)))])) _
  refine iremM X0 hx rfl (hb hby at_6) rfl (by decide) ?_
  show Steps p.tables e below (T0.setTop (mkF m 7 #[.val (.int l1), .val (.int r1), .val (.int o1), .val (.int l2), .val (.int r2), .val (.int sel), .unset, .unset, .unset, .unset, .unset, .unset, .unset, .unset, .unset, .unset, .unset, .unset] [(.int ((o1 &&& (2147483647 : Int32)) % (6 : Int32)))])) _
  refine XS.istore X0.here hx rfl (hb hby at_7) rfl (l' := #[.val (.int l1), .val (.int r1), .val (.int o1), .val (.int l2), .val (.int r2), .val (.int sel), .val (.int ((o1 &&& (2147483647 : Int32)) % (6 : Int32))), .unset, .unset, .unset, .unset, .unset, .unset, .unset, .unset, .unset, .unset, .unset]) rfl ?_
  show Steps p.tables e below (T0.setTop (mkF m 9 #[.val (.int l1), .val (.int r1), .val (.int o1), .val (.int l2), .val (.int r2), .val (.int sel), .val (.int ((o1 &&& (2147483647 : Int32)) % (6 : Int32))), .unset, .unset, .unset, .unset, .unset, .unset, .unset, .unset, .unset, .unset, .unset] [])) _
  refine XS.iload X0.here hx rfl (hb hby at_9) rfl ?_
  show Steps p.tables e below (T0.setTop (mkF m 11 #[.val (.int l1), .val (.int r1), .val (.int o1), .val (.int l2), .val (.int r2), .val (.int sel), .val (.int ((o1 &&& (2147483647 : Int32)) % (6 : Int32))), .unset, .unset, .unset, .unset, .unset, .unset, .unset, .unset, .unset, .unset, .unset] [(.int sel)])) _
  refine XS.iconst X0.here hx rfl (hb hby at_11) ?_
  show Steps p.tables e below (T0.setTop (mkF m 12 #[.val (.int l1), .val (.int r1), .val (.int o1), .val (.int l2), .val (.int r2), .val (.int sel), .val (.int ((o1 &&& (2147483647 : Int32)) % (6 : Int32))), .unset, .unset, .unset, .unset, .unset, .unset, .unset, .unset, .unset, .unset, .unset] [(.int (4 : Int32)), (.int sel)])) _
  refine XS.iand X0.here hx rfl (hb hby at_12) rfl ?_
  show Steps p.tables e below (T0.setTop (mkF m 13 #[.val (.int l1), .val (.int r1), .val (.int o1), .val (.int l2), .val (.int r2), .val (.int sel), .val (.int ((o1 &&& (2147483647 : Int32)) % (6 : Int32))), .unset, .unset, .unset, .unset, .unset, .unset, .unset, .unset, .unset, .unset, .unset] [(.int (sel &&& (4 : Int32)))])) _
  refine XS.ifYes X0.here hx rfl (pc0 := 13) (pc' := 21) rfl (hb hby at_13) rfl ((if0 _ _).trans (teq hc13).1) (by decide) (by decide) ?_
  show Steps p.tables e below (T0.setTop (mkF m 21 #[.val (.int l1), .val (.int r1), .val (.int o1), .val (.int l2), .val (.int r2), .val (.int sel), .val (.int ((o1 &&& (2147483647 : Int32)) % (6 : Int32))), .unset, .unset, .unset, .unset, .unset, .unset, .unset, .unset, .unset, .unset, .unset] [])) _
  refine XS.iload X0.here hx rfl (hb hby at_21) rfl ?_
  show Steps p.tables e below (T0.setTop (mkF m 23 #[.val (.int l1), .val (.int r1), .val (.int o1), .val (.int l2), .val (.int r2), .val (.int sel), .val (.int ((o1 &&& (2147483647 : Int32)) % (6 : Int32))), .unset, .unset, .unset, .unset, .unset, .unset, .unset, .unset, .unset, .unset, .unset] [(.int sel)])) _
  refine XS.iconst X0.here hx rfl (hb hby at_23) ?_
  show Steps p.tables e below (T0.setTop (mkF m 24 #[.val (.int l1), .val (.int r1), .val (.int o1), .val (.int l2), .val (.int r2), .val (.int sel), .val (.int ((o1 &&& (2147483647 : Int32)) % (6 : Int32))), .unset, .unset, .unset, .unset, .unset, .unset, .unset, .unset, .unset, .unset, .unset] [(.int (3 : Int32)), (.int sel)])) _
  refine XS.iushr X0.here hx rfl (hb hby at_24) rfl ?_
  show Steps p.tables e below (T0.setTop (mkF m 25 #[.val (.int l1), .val (.int r1), .val (.int o1), .val (.int l2), .val (.int r2), .val (.int sel), .val (.int ((o1 &&& (2147483647 : Int32)) % (6 : Int32))), .unset, .unset, .unset, .unset, .unset, .unset, .unset, .unset, .unset, .unset, .unset] [(.int ((sel.toUInt32 >>> ((3 : Int32) &&& 31).toUInt32).toInt32))])) _
  refine XS.bipush X0.here hx rfl (hb hby at_25) ?_
  show Steps p.tables e below (T0.setTop (mkF m 27 #[.val (.int l1), .val (.int r1), .val (.int o1), .val (.int l2), .val (.int r2), .val (.int sel), .val (.int ((o1 &&& (2147483647 : Int32)) % (6 : Int32))), .unset, .unset, .unset, .unset, .unset, .unset, .unset, .unset, .unset, .unset, .unset] [(.int (6 : Int32)), (.int ((sel.toUInt32 >>> ((3 : Int32) &&& 31).toUInt32).toInt32))])) _
  refine iremM X0 hx rfl (hb hby at_27) rfl (by decide) ?_
  show Steps p.tables e below (T0.setTop (mkF m 28 #[.val (.int l1), .val (.int r1), .val (.int o1), .val (.int l2), .val (.int r2), .val (.int sel), .val (.int ((o1 &&& (2147483647 : Int32)) % (6 : Int32))), .unset, .unset, .unset, .unset, .unset, .unset, .unset, .unset, .unset, .unset, .unset] [(.int (((sel.toUInt32 >>> ((3 : Int32) &&& 31).toUInt32).toInt32) % (6 : Int32)))])) _
  refine XS.istore X0.here hx rfl (hb hby at_28) rfl (l' := #[.val (.int l1), .val (.int r1), .val (.int o1), .val (.int l2), .val (.int r2), .val (.int sel), .val (.int ((o1 &&& (2147483647 : Int32)) % (6 : Int32))), .val (.int (((sel.toUInt32 >>> ((3 : Int32) &&& 31).toUInt32).toInt32) % (6 : Int32))), .unset, .unset, .unset, .unset, .unset, .unset, .unset, .unset, .unset, .unset]) rfl ?_
  show Steps p.tables e below (T0.setTop (mkF m 30 #[.val (.int l1), .val (.int r1), .val (.int o1), .val (.int l2), .val (.int r2), .val (.int sel), .val (.int ((o1 &&& (2147483647 : Int32)) % (6 : Int32))), .val (.int (((sel.toUInt32 >>> ((3 : Int32) &&& 31).toUInt32).toInt32) % (6 : Int32))), .unset, .unset, .unset, .unset, .unset, .unset, .unset, .unset, .unset, .unset] [])) _
  refine XS.iload X0.here hx rfl (hb hby at_30) rfl ?_
  show Steps p.tables e below (T0.setTop (mkF m 32 #[.val (.int l1), .val (.int r1), .val (.int o1), .val (.int l2), .val (.int r2), .val (.int sel), .val (.int ((o1 &&& (2147483647 : Int32)) % (6 : Int32))), .val (.int (((sel.toUInt32 >>> ((3 : Int32) &&& 31).toUInt32).toInt32) % (6 : Int32))), .unset, .unset, .unset, .unset, .unset, .unset, .unset, .unset, .unset, .unset] [(.int sel)])) _
  refine XS.iconst X0.here hx rfl (hb hby at_32) ?_
  show Steps p.tables e below (T0.setTop (mkF m 33 #[.val (.int l1), .val (.int r1), .val (.int o1), .val (.int l2), .val (.int r2), .val (.int sel), .val (.int ((o1 &&& (2147483647 : Int32)) % (6 : Int32))), .val (.int (((sel.toUInt32 >>> ((3 : Int32) &&& 31).toUInt32).toInt32) % (6 : Int32))), .unset, .unset, .unset, .unset, .unset, .unset, .unset, .unset, .unset, .unset] [(.int (1 : Int32)), (.int sel)])) _
  refine XS.iand X0.here hx rfl (hb hby at_33) rfl ?_
  show Steps p.tables e below (T0.setTop (mkF m 34 #[.val (.int l1), .val (.int r1), .val (.int o1), .val (.int l2), .val (.int r2), .val (.int sel), .val (.int ((o1 &&& (2147483647 : Int32)) % (6 : Int32))), .val (.int (((sel.toUInt32 >>> ((3 : Int32) &&& 31).toUInt32).toInt32) % (6 : Int32))), .unset, .unset, .unset, .unset, .unset, .unset, .unset, .unset, .unset, .unset] [(.int (sel &&& (1 : Int32)))])) _
  refine XS.ifNo X0.here hx rfl (hb hby at_34) rfl ((if0 _ _).trans (feq hc34).1) ?_
  show Steps p.tables e below (T0.setTop (mkF m 37 #[.val (.int l1), .val (.int r1), .val (.int o1), .val (.int l2), .val (.int r2), .val (.int sel), .val (.int ((o1 &&& (2147483647 : Int32)) % (6 : Int32))), .val (.int (((sel.toUInt32 >>> ((3 : Int32) &&& 31).toUInt32).toInt32) % (6 : Int32))), .unset, .unset, .unset, .unset, .unset, .unset, .unset, .unset, .unset, .unset] [])) _
  refine XS.iloadN X0.here hx rfl (hb hby at_37) rfl ?_
  show Steps p.tables e below (T0.setTop (mkF m 38 #[.val (.int l1), .val (.int r1), .val (.int o1), .val (.int l2), .val (.int r2), .val (.int sel), .val (.int ((o1 &&& (2147483647 : Int32)) % (6 : Int32))), .val (.int (((sel.toUInt32 >>> ((3 : Int32) &&& 31).toUInt32).toInt32) % (6 : Int32))), .unset, .unset, .unset, .unset, .unset, .unset, .unset, .unset, .unset, .unset] [(.int l1)])) _
  refine XS.goto X0.here hx rfl (pc0 := 38) (pc' := 42) rfl (hb hby at_38) (by decide) (by decide) ?_
  show Steps p.tables e below (T0.setTop (mkF m 42 #[.val (.int l1), .val (.int r1), .val (.int o1), .val (.int l2), .val (.int r2), .val (.int sel), .val (.int ((o1 &&& (2147483647 : Int32)) % (6 : Int32))), .val (.int (((sel.toUInt32 >>> ((3 : Int32) &&& 31).toUInt32).toInt32) % (6 : Int32))), .unset, .unset, .unset, .unset, .unset, .unset, .unset, .unset, .unset, .unset] [(.int l1)])) _
  refine XS.istore X0.here hx rfl (hb hby at_42) rfl (l' := #[.val (.int l1), .val (.int r1), .val (.int o1), .val (.int l2), .val (.int r2), .val (.int sel), .val (.int ((o1 &&& (2147483647 : Int32)) % (6 : Int32))), .val (.int (((sel.toUInt32 >>> ((3 : Int32) &&& 31).toUInt32).toInt32) % (6 : Int32))), .val (.int l1), .unset, .unset, .unset, .unset, .unset, .unset, .unset, .unset, .unset]) rfl ?_
  show Steps p.tables e below (T0.setTop (mkF m 44 #[.val (.int l1), .val (.int r1), .val (.int o1), .val (.int l2), .val (.int r2), .val (.int sel), .val (.int ((o1 &&& (2147483647 : Int32)) % (6 : Int32))), .val (.int (((sel.toUInt32 >>> ((3 : Int32) &&& 31).toUInt32).toInt32) % (6 : Int32))), .val (.int l1), .unset, .unset, .unset, .unset, .unset, .unset, .unset, .unset, .unset] [])) _
  refine XS.iload X0.here hx rfl (hb hby at_44) rfl ?_
  show Steps p.tables e below (T0.setTop (mkF m 46 #[.val (.int l1), .val (.int r1), .val (.int o1), .val (.int l2), .val (.int r2), .val (.int sel), .val (.int ((o1 &&& (2147483647 : Int32)) % (6 : Int32))), .val (.int (((sel.toUInt32 >>> ((3 : Int32) &&& 31).toUInt32).toInt32) % (6 : Int32))), .val (.int l1), .unset, .unset, .unset, .unset, .unset, .unset, .unset, .unset, .unset] [(.int sel)])) _
  refine XS.iconst X0.here hx rfl (hb hby at_46) ?_
  show Steps p.tables e below (T0.setTop (mkF m 47 #[.val (.int l1), .val (.int r1), .val (.int o1), .val (.int l2), .val (.int r2), .val (.int sel), .val (.int ((o1 &&& (2147483647 : Int32)) % (6 : Int32))), .val (.int (((sel.toUInt32 >>> ((3 : Int32) &&& 31).toUInt32).toInt32) % (6 : Int32))), .val (.int l1), .unset, .unset, .unset, .unset, .unset, .unset, .unset, .unset, .unset] [(.int (2 : Int32)), (.int sel)])) _
  refine XS.iand X0.here hx rfl (hb hby at_47) rfl ?_
  show Steps p.tables e below (T0.setTop (mkF m 48 #[.val (.int l1), .val (.int r1), .val (.int o1), .val (.int l2), .val (.int r2), .val (.int sel), .val (.int ((o1 &&& (2147483647 : Int32)) % (6 : Int32))), .val (.int (((sel.toUInt32 >>> ((3 : Int32) &&& 31).toUInt32).toInt32) % (6 : Int32))), .val (.int l1), .unset, .unset, .unset, .unset, .unset, .unset, .unset, .unset, .unset] [(.int (sel &&& (2 : Int32)))])) _
  refine XS.ifNo X0.here hx rfl (hb hby at_48) rfl ((if0 _ _).trans (feq hc48).1) ?_
  show Steps p.tables e below (T0.setTop (mkF m 51 #[.val (.int l1), .val (.int r1), .val (.int o1), .val (.int l2), .val (.int r2), .val (.int sel), .val (.int ((o1 &&& (2147483647 : Int32)) % (6 : Int32))), .val (.int (((sel.toUInt32 >>> ((3 : Int32) &&& 31).toUInt32).toInt32) % (6 : Int32))), .val (.int l1), .unset, .unset, .unset, .unset, .unset, .unset, .unset, .unset, .unset] [])) _
  refine XS.iloadN X0.here hx rfl (hb hby at_51) rfl ?_
  show Steps p.tables e below (T0.setTop (mkF m 52 #[.val (.int l1), .val (.int r1), .val (.int o1), .val (.int l2), .val (.int r2), .val (.int sel), .val (.int ((o1 &&& (2147483647 : Int32)) % (6 : Int32))), .val (.int (((sel.toUInt32 >>> ((3 : Int32) &&& 31).toUInt32).toInt32) % (6 : Int32))), .val (.int l1), .unset, .unset, .unset, .unset, .unset, .unset, .unset, .unset, .unset] [(.int r1)])) _
  refine XS.goto X0.here hx rfl (pc0 := 52) (pc' := 57) rfl (hb hby at_52) (by decide) (by decide) ?_
  show Steps p.tables e below (T0.setTop (mkF m 57 #[.val (.int l1), .val (.int r1), .val (.int o1), .val (.int l2), .val (.int r2), .val (.int sel), .val (.int ((o1 &&& (2147483647 : Int32)) % (6 : Int32))), .val (.int (((sel.toUInt32 >>> ((3 : Int32) &&& 31).toUInt32).toInt32) % (6 : Int32))), .val (.int l1), .unset, .unset, .unset, .unset, .unset, .unset, .unset, .unset, .unset] [(.int r1)])) _
  refine XS.istore X0.here hx rfl (hb hby at_57) rfl (l' := #[.val (.int l1), .val (.int r1), .val (.int o1), .val (.int l2), .val (.int r2), .val (.int sel), .val (.int ((o1 &&& (2147483647 : Int32)) % (6 : Int32))), .val (.int (((sel.toUInt32 >>> ((3 : Int32) &&& 31).toUInt32).toInt32) % (6 : Int32))), .val (.int l1), .val (.int r1), .unset, .unset, .unset, .unset, .unset, .unset, .unset, .unset]) rfl ?_
  exact kt
set_option maxRecDepth 65536 in
set_option maxHeartbeats 40000000 in
theorem pA_4 {p : Program} {l : Launch} {e : Env} {R : Room} {s : State} {m : MethodId} {args : Array Value} {below : List Frame} {meth : Method} {c : Code} {T0 : State} {locs : List Loc} {cells slots : Nat} {Z : State} {a0 : Array Value} (l1 r1 o1 l2 r2 sel : Int32) (X0 : Stand p l e R s m args below meth c T0 locs cells slots) (hx : p.tables.exec = Jvm.exec) (hZ : Z.Warmed39 s.vm) (hw : ∀ d ∈ tables_1, d.before a0 Z = true) (hby : c.code = code) (hown : s.vm.findClass "com/example/brisk_sifter/brisksifter/JoinEqualsPinLaw" = some m.cls)  (hc13 : ¬ ((sel &&& (4 : Int32)) = (0 : Int32))) (hc34 : (sel &&& (1 : Int32)) = (0 : Int32)) (hc48 : (sel &&& (2 : Int32)) = (0 : Int32)) :
    ∀ target, Steps p.tables e below (T0.setTop (mkF m 59 #[.val (.int l1), .val (.int r1), .val (.int o1), .val (.int l2), .val (.int r2), .val (.int sel), .val (.int ((o1 &&& (2147483647 : Int32)) % (6 : Int32))), .val (.int ((o1 &&& (2147483647 : Int32)) % (6 : Int32))), .val (.int l2), .val (.int r2), .unset, .unset, .unset, .unset, .unset, .unset, .unset, .unset] [])) target → Steps p.tables e below (T0.setTop (mkF m 0 #[.val (.int l1), .val (.int r1), .val (.int o1), .val (.int l2), .val (.int r2), .val (.int sel), .unset, .unset, .unset, .unset, .unset, .unset, .unset, .unset, .unset, .unset, .unset, .unset] [])) target := by
  intro target kt
  show Steps p.tables e below (T0.setTop (mkF m 0 #[.val (.int l1), .val (.int r1), .val (.int o1), .val (.int l2), .val (.int r2), .val (.int sel), .unset, .unset, .unset, .unset, .unset, .unset, .unset, .unset, .unset, .unset, .unset, .unset] [])) _
  refine XS.iloadN X0.here hx rfl (hb hby at_0) rfl ?_
  show Steps p.tables e below (T0.setTop (mkF m 1 #[.val (.int l1), .val (.int r1), .val (.int o1), .val (.int l2), .val (.int r2), .val (.int sel), .unset, .unset, .unset, .unset, .unset, .unset, .unset, .unset, .unset, .unset, .unset, .unset] [(.int o1)])) _
  refine X0.ldcInt hx hown (mvT hZ (hw _ (List.mem_of_getElem? (i := 0) rfl))) (g := (mkF m 1 #[.val (.int l1), .val (.int r1), .val (.int o1), .val (.int l2), .val (.int r2), .val (.int sel), .unset, .unset, .unset, .unset, .unset, .unset, .unset, .unset, .unset, .unset, .unset, .unset] [(.int o1)])) rfl (hb hby at_1) _ ?_
  show Steps p.tables e below (T0.setTop (mkF m 3 #[.val (.int l1), .val (.int r1), .val (.int o1), .val (.int l2), .val (.int r2), .val (.int sel), .unset, .unset, .unset, .unset, .unset, .unset, .unset, .unset, .unset, .unset, .unset, .unset] [(.int (2147483647 : Int32)), (.int o1)])) _
  refine XS.iand X0.here hx rfl (hb hby at_3) rfl ?_
  show Steps p.tables e below (T0.setTop (mkF m 4 #[.val (.int l1), .val (.int r1), .val (.int o1), .val (.int l2), .val (.int r2), .val (.int sel), .unset, .unset, .unset, .unset, .unset, .unset, .unset, .unset, .unset, .unset, .unset, .unset] [(.int (o1 &&& (2147483647 : Int32)))])) _
  refine XS.bipush X0.here hx rfl (hb hby at_4) ?_
  show Steps p.tables e below (T0.setTop (mkF m 6 #[.val (.int l1), .val (.int r1), .val (.int o1), .val (.int l2), .val (.int r2), .val (.int sel), .unset, .unset, .unset, .unset, .unset, .unset, .unset, .unset, .unset, .unset, .unset, .unset] [(.int (6 : Int32)), (.int (o1 &&& (2147483647 : Int32)))])) _
  refine iremM X0 hx rfl (hb hby at_6) rfl (by decide) ?_
  show Steps p.tables e below (T0.setTop (mkF m 7 #[.val (.int l1), .val (.int r1), .val (.int o1), .val (.int l2), .val (.int r2), .val (.int sel), .unset, .unset, .unset, .unset, .unset, .unset, .unset, .unset, .unset, .unset, .unset, .unset] [(.int ((o1 &&& (2147483647 : Int32)) % (6 : Int32)))])) _
  refine XS.istore X0.here hx rfl (hb hby at_7) rfl (l' := #[.val (.int l1), .val (.int r1), .val (.int o1), .val (.int l2), .val (.int r2), .val (.int sel), .val (.int ((o1 &&& (2147483647 : Int32)) % (6 : Int32))), .unset, .unset, .unset, .unset, .unset, .unset, .unset, .unset, .unset, .unset, .unset]) rfl ?_
  show Steps p.tables e below (T0.setTop (mkF m 9 #[.val (.int l1), .val (.int r1), .val (.int o1), .val (.int l2), .val (.int r2), .val (.int sel), .val (.int ((o1 &&& (2147483647 : Int32)) % (6 : Int32))), .unset, .unset, .unset, .unset, .unset, .unset, .unset, .unset, .unset, .unset, .unset] [])) _
  refine XS.iload X0.here hx rfl (hb hby at_9) rfl ?_
  show Steps p.tables e below (T0.setTop (mkF m 11 #[.val (.int l1), .val (.int r1), .val (.int o1), .val (.int l2), .val (.int r2), .val (.int sel), .val (.int ((o1 &&& (2147483647 : Int32)) % (6 : Int32))), .unset, .unset, .unset, .unset, .unset, .unset, .unset, .unset, .unset, .unset, .unset] [(.int sel)])) _
  refine XS.iconst X0.here hx rfl (hb hby at_11) ?_
  show Steps p.tables e below (T0.setTop (mkF m 12 #[.val (.int l1), .val (.int r1), .val (.int o1), .val (.int l2), .val (.int r2), .val (.int sel), .val (.int ((o1 &&& (2147483647 : Int32)) % (6 : Int32))), .unset, .unset, .unset, .unset, .unset, .unset, .unset, .unset, .unset, .unset, .unset] [(.int (4 : Int32)), (.int sel)])) _
  refine XS.iand X0.here hx rfl (hb hby at_12) rfl ?_
  show Steps p.tables e below (T0.setTop (mkF m 13 #[.val (.int l1), .val (.int r1), .val (.int o1), .val (.int l2), .val (.int r2), .val (.int sel), .val (.int ((o1 &&& (2147483647 : Int32)) % (6 : Int32))), .unset, .unset, .unset, .unset, .unset, .unset, .unset, .unset, .unset, .unset, .unset] [(.int (sel &&& (4 : Int32)))])) _
  refine XS.ifNo X0.here hx rfl (hb hby at_13) rfl ((if0 _ _).trans (feq hc13).1) ?_
  show Steps p.tables e below (T0.setTop (mkF m 16 #[.val (.int l1), .val (.int r1), .val (.int o1), .val (.int l2), .val (.int r2), .val (.int sel), .val (.int ((o1 &&& (2147483647 : Int32)) % (6 : Int32))), .unset, .unset, .unset, .unset, .unset, .unset, .unset, .unset, .unset, .unset, .unset] [])) _
  refine XS.iload X0.here hx rfl (hb hby at_16) rfl ?_
  show Steps p.tables e below (T0.setTop (mkF m 18 #[.val (.int l1), .val (.int r1), .val (.int o1), .val (.int l2), .val (.int r2), .val (.int sel), .val (.int ((o1 &&& (2147483647 : Int32)) % (6 : Int32))), .unset, .unset, .unset, .unset, .unset, .unset, .unset, .unset, .unset, .unset, .unset] [(.int ((o1 &&& (2147483647 : Int32)) % (6 : Int32)))])) _
  refine XS.goto X0.here hx rfl (pc0 := 18) (pc' := 28) rfl (hb hby at_18) (by decide) (by decide) ?_
  show Steps p.tables e below (T0.setTop (mkF m 28 #[.val (.int l1), .val (.int r1), .val (.int o1), .val (.int l2), .val (.int r2), .val (.int sel), .val (.int ((o1 &&& (2147483647 : Int32)) % (6 : Int32))), .unset, .unset, .unset, .unset, .unset, .unset, .unset, .unset, .unset, .unset, .unset] [(.int ((o1 &&& (2147483647 : Int32)) % (6 : Int32)))])) _
  refine XS.istore X0.here hx rfl (hb hby at_28) rfl (l' := #[.val (.int l1), .val (.int r1), .val (.int o1), .val (.int l2), .val (.int r2), .val (.int sel), .val (.int ((o1 &&& (2147483647 : Int32)) % (6 : Int32))), .val (.int ((o1 &&& (2147483647 : Int32)) % (6 : Int32))), .unset, .unset, .unset, .unset, .unset, .unset, .unset, .unset, .unset, .unset]) rfl ?_
  show Steps p.tables e below (T0.setTop (mkF m 30 #[.val (.int l1), .val (.int r1), .val (.int o1), .val (.int l2), .val (.int r2), .val (.int sel), .val (.int ((o1 &&& (2147483647 : Int32)) % (6 : Int32))), .val (.int ((o1 &&& (2147483647 : Int32)) % (6 : Int32))), .unset, .unset, .unset, .unset, .unset, .unset, .unset, .unset, .unset, .unset] [])) _
  refine XS.iload X0.here hx rfl (hb hby at_30) rfl ?_
  show Steps p.tables e below (T0.setTop (mkF m 32 #[.val (.int l1), .val (.int r1), .val (.int o1), .val (.int l2), .val (.int r2), .val (.int sel), .val (.int ((o1 &&& (2147483647 : Int32)) % (6 : Int32))), .val (.int ((o1 &&& (2147483647 : Int32)) % (6 : Int32))), .unset, .unset, .unset, .unset, .unset, .unset, .unset, .unset, .unset, .unset] [(.int sel)])) _
  refine XS.iconst X0.here hx rfl (hb hby at_32) ?_
  show Steps p.tables e below (T0.setTop (mkF m 33 #[.val (.int l1), .val (.int r1), .val (.int o1), .val (.int l2), .val (.int r2), .val (.int sel), .val (.int ((o1 &&& (2147483647 : Int32)) % (6 : Int32))), .val (.int ((o1 &&& (2147483647 : Int32)) % (6 : Int32))), .unset, .unset, .unset, .unset, .unset, .unset, .unset, .unset, .unset, .unset] [(.int (1 : Int32)), (.int sel)])) _
  refine XS.iand X0.here hx rfl (hb hby at_33) rfl ?_
  show Steps p.tables e below (T0.setTop (mkF m 34 #[.val (.int l1), .val (.int r1), .val (.int o1), .val (.int l2), .val (.int r2), .val (.int sel), .val (.int ((o1 &&& (2147483647 : Int32)) % (6 : Int32))), .val (.int ((o1 &&& (2147483647 : Int32)) % (6 : Int32))), .unset, .unset, .unset, .unset, .unset, .unset, .unset, .unset, .unset, .unset] [(.int (sel &&& (1 : Int32)))])) _
  refine XS.ifYes X0.here hx rfl (pc0 := 34) (pc' := 41) rfl (hb hby at_34) rfl ((if0 _ _).trans (teq hc34).1) (by decide) (by decide) ?_
  show Steps p.tables e below (T0.setTop (mkF m 41 #[.val (.int l1), .val (.int r1), .val (.int o1), .val (.int l2), .val (.int r2), .val (.int sel), .val (.int ((o1 &&& (2147483647 : Int32)) % (6 : Int32))), .val (.int ((o1 &&& (2147483647 : Int32)) % (6 : Int32))), .unset, .unset, .unset, .unset, .unset, .unset, .unset, .unset, .unset, .unset] [])) _
  refine XS.iloadN X0.here hx rfl (hb hby at_41) rfl ?_
  show Steps p.tables e below (T0.setTop (mkF m 42 #[.val (.int l1), .val (.int r1), .val (.int o1), .val (.int l2), .val (.int r2), .val (.int sel), .val (.int ((o1 &&& (2147483647 : Int32)) % (6 : Int32))), .val (.int ((o1 &&& (2147483647 : Int32)) % (6 : Int32))), .unset, .unset, .unset, .unset, .unset, .unset, .unset, .unset, .unset, .unset] [(.int l2)])) _
  refine XS.istore X0.here hx rfl (hb hby at_42) rfl (l' := #[.val (.int l1), .val (.int r1), .val (.int o1), .val (.int l2), .val (.int r2), .val (.int sel), .val (.int ((o1 &&& (2147483647 : Int32)) % (6 : Int32))), .val (.int ((o1 &&& (2147483647 : Int32)) % (6 : Int32))), .val (.int l2), .unset, .unset, .unset, .unset, .unset, .unset, .unset, .unset, .unset]) rfl ?_
  show Steps p.tables e below (T0.setTop (mkF m 44 #[.val (.int l1), .val (.int r1), .val (.int o1), .val (.int l2), .val (.int r2), .val (.int sel), .val (.int ((o1 &&& (2147483647 : Int32)) % (6 : Int32))), .val (.int ((o1 &&& (2147483647 : Int32)) % (6 : Int32))), .val (.int l2), .unset, .unset, .unset, .unset, .unset, .unset, .unset, .unset, .unset] [])) _
  refine XS.iload X0.here hx rfl (hb hby at_44) rfl ?_
  show Steps p.tables e below (T0.setTop (mkF m 46 #[.val (.int l1), .val (.int r1), .val (.int o1), .val (.int l2), .val (.int r2), .val (.int sel), .val (.int ((o1 &&& (2147483647 : Int32)) % (6 : Int32))), .val (.int ((o1 &&& (2147483647 : Int32)) % (6 : Int32))), .val (.int l2), .unset, .unset, .unset, .unset, .unset, .unset, .unset, .unset, .unset] [(.int sel)])) _
  refine XS.iconst X0.here hx rfl (hb hby at_46) ?_
  show Steps p.tables e below (T0.setTop (mkF m 47 #[.val (.int l1), .val (.int r1), .val (.int o1), .val (.int l2), .val (.int r2), .val (.int sel), .val (.int ((o1 &&& (2147483647 : Int32)) % (6 : Int32))), .val (.int ((o1 &&& (2147483647 : Int32)) % (6 : Int32))), .val (.int l2), .unset, .unset, .unset, .unset, .unset, .unset, .unset, .unset, .unset] [(.int (2 : Int32)), (.int sel)])) _
  refine XS.iand X0.here hx rfl (hb hby at_47) rfl ?_
  show Steps p.tables e below (T0.setTop (mkF m 48 #[.val (.int l1), .val (.int r1), .val (.int o1), .val (.int l2), .val (.int r2), .val (.int sel), .val (.int ((o1 &&& (2147483647 : Int32)) % (6 : Int32))), .val (.int ((o1 &&& (2147483647 : Int32)) % (6 : Int32))), .val (.int l2), .unset, .unset, .unset, .unset, .unset, .unset, .unset, .unset, .unset] [(.int (sel &&& (2 : Int32)))])) _
  refine XS.ifYes X0.here hx rfl (pc0 := 48) (pc' := 55) rfl (hb hby at_48) rfl ((if0 _ _).trans (teq hc48).1) (by decide) (by decide) ?_
  show Steps p.tables e below (T0.setTop (mkF m 55 #[.val (.int l1), .val (.int r1), .val (.int o1), .val (.int l2), .val (.int r2), .val (.int sel), .val (.int ((o1 &&& (2147483647 : Int32)) % (6 : Int32))), .val (.int ((o1 &&& (2147483647 : Int32)) % (6 : Int32))), .val (.int l2), .unset, .unset, .unset, .unset, .unset, .unset, .unset, .unset, .unset] [])) _
  refine XS.iload X0.here hx rfl (hb hby at_55) rfl ?_
  show Steps p.tables e below (T0.setTop (mkF m 57 #[.val (.int l1), .val (.int r1), .val (.int o1), .val (.int l2), .val (.int r2), .val (.int sel), .val (.int ((o1 &&& (2147483647 : Int32)) % (6 : Int32))), .val (.int ((o1 &&& (2147483647 : Int32)) % (6 : Int32))), .val (.int l2), .unset, .unset, .unset, .unset, .unset, .unset, .unset, .unset, .unset] [(.int r2)])) _
  refine XS.istore X0.here hx rfl (hb hby at_57) rfl (l' := #[.val (.int l1), .val (.int r1), .val (.int o1), .val (.int l2), .val (.int r2), .val (.int sel), .val (.int ((o1 &&& (2147483647 : Int32)) % (6 : Int32))), .val (.int ((o1 &&& (2147483647 : Int32)) % (6 : Int32))), .val (.int l2), .val (.int r2), .unset, .unset, .unset, .unset, .unset, .unset, .unset, .unset]) rfl ?_
  exact kt
set_option maxRecDepth 65536 in
set_option maxHeartbeats 40000000 in
theorem pA_5 {p : Program} {l : Launch} {e : Env} {R : Room} {s : State} {m : MethodId} {args : Array Value} {below : List Frame} {meth : Method} {c : Code} {T0 : State} {locs : List Loc} {cells slots : Nat} {Z : State} {a0 : Array Value} (l1 r1 o1 l2 r2 sel : Int32) (X0 : Stand p l e R s m args below meth c T0 locs cells slots) (hx : p.tables.exec = Jvm.exec) (hZ : Z.Warmed39 s.vm) (hw : ∀ d ∈ tables_1, d.before a0 Z = true) (hby : c.code = code) (hown : s.vm.findClass "com/example/brisk_sifter/brisksifter/JoinEqualsPinLaw" = some m.cls)  (hc13 : ¬ ((sel &&& (4 : Int32)) = (0 : Int32))) (hc34 : (sel &&& (1 : Int32)) = (0 : Int32)) (hc48 : ¬ ((sel &&& (2 : Int32)) = (0 : Int32))) :
    ∀ target, Steps p.tables e below (T0.setTop (mkF m 59 #[.val (.int l1), .val (.int r1), .val (.int o1), .val (.int l2), .val (.int r2), .val (.int sel), .val (.int ((o1 &&& (2147483647 : Int32)) % (6 : Int32))), .val (.int ((o1 &&& (2147483647 : Int32)) % (6 : Int32))), .val (.int l2), .val (.int r1), .unset, .unset, .unset, .unset, .unset, .unset, .unset, .unset] [])) target → Steps p.tables e below (T0.setTop (mkF m 0 #[.val (.int l1), .val (.int r1), .val (.int o1), .val (.int l2), .val (.int r2), .val (.int sel), .unset, .unset, .unset, .unset, .unset, .unset, .unset, .unset, .unset, .unset, .unset, .unset] [])) target := by
  intro target kt
  show Steps p.tables e below (T0.setTop (mkF m 0 #[.val (.int l1), .val (.int r1), .val (.int o1), .val (.int l2), .val (.int r2), .val (.int sel), .unset, .unset, .unset, .unset, .unset, .unset, .unset, .unset, .unset, .unset, .unset, .unset] [])) _
  refine XS.iloadN X0.here hx rfl (hb hby at_0) rfl ?_
  show Steps p.tables e below (T0.setTop (mkF m 1 #[.val (.int l1), .val (.int r1), .val (.int o1), .val (.int l2), .val (.int r2), .val (.int sel), .unset, .unset, .unset, .unset, .unset, .unset, .unset, .unset, .unset, .unset, .unset, .unset] [(.int o1)])) _
  refine X0.ldcInt hx hown (mvT hZ (hw _ (List.mem_of_getElem? (i := 0) rfl))) (g := (mkF m 1 #[.val (.int l1), .val (.int r1), .val (.int o1), .val (.int l2), .val (.int r2), .val (.int sel), .unset, .unset, .unset, .unset, .unset, .unset, .unset, .unset, .unset, .unset, .unset, .unset] [(.int o1)])) rfl (hb hby at_1) _ ?_
  show Steps p.tables e below (T0.setTop (mkF m 3 #[.val (.int l1), .val (.int r1), .val (.int o1), .val (.int l2), .val (.int r2), .val (.int sel), .unset, .unset, .unset, .unset, .unset, .unset, .unset, .unset, .unset, .unset, .unset, .unset] [(.int (2147483647 : Int32)), (.int o1)])) _
  refine XS.iand X0.here hx rfl (hb hby at_3) rfl ?_
  show Steps p.tables e below (T0.setTop (mkF m 4 #[.val (.int l1), .val (.int r1), .val (.int o1), .val (.int l2), .val (.int r2), .val (.int sel), .unset, .unset, .unset, .unset, .unset, .unset, .unset, .unset, .unset, .unset, .unset, .unset] [(.int (o1 &&& (2147483647 : Int32)))])) _
  refine XS.bipush X0.here hx rfl (hb hby at_4) ?_
  show Steps p.tables e below (T0.setTop (mkF m 6 #[.val (.int l1), .val (.int r1), .val (.int o1), .val (.int l2), .val (.int r2), .val (.int sel), .unset, .unset, .unset, .unset, .unset, .unset, .unset, .unset, .unset, .unset, .unset, .unset] [(.int (6 : Int32)), (.int (o1 &&& (2147483647 : Int32)))])) _
  refine iremM X0 hx rfl (hb hby at_6) rfl (by decide) ?_
  show Steps p.tables e below (T0.setTop (mkF m 7 #[.val (.int l1), .val (.int r1), .val (.int o1), .val (.int l2), .val (.int r2), .val (.int sel), .unset, .unset, .unset, .unset, .unset, .unset, .unset, .unset, .unset, .unset, .unset, .unset] [(.int ((o1 &&& (2147483647 : Int32)) % (6 : Int32)))])) _
  refine XS.istore X0.here hx rfl (hb hby at_7) rfl (l' := #[.val (.int l1), .val (.int r1), .val (.int o1), .val (.int l2), .val (.int r2), .val (.int sel), .val (.int ((o1 &&& (2147483647 : Int32)) % (6 : Int32))), .unset, .unset, .unset, .unset, .unset, .unset, .unset, .unset, .unset, .unset, .unset]) rfl ?_
  show Steps p.tables e below (T0.setTop (mkF m 9 #[.val (.int l1), .val (.int r1), .val (.int o1), .val (.int l2), .val (.int r2), .val (.int sel), .val (.int ((o1 &&& (2147483647 : Int32)) % (6 : Int32))), .unset, .unset, .unset, .unset, .unset, .unset, .unset, .unset, .unset, .unset, .unset] [])) _
  refine XS.iload X0.here hx rfl (hb hby at_9) rfl ?_
  show Steps p.tables e below (T0.setTop (mkF m 11 #[.val (.int l1), .val (.int r1), .val (.int o1), .val (.int l2), .val (.int r2), .val (.int sel), .val (.int ((o1 &&& (2147483647 : Int32)) % (6 : Int32))), .unset, .unset, .unset, .unset, .unset, .unset, .unset, .unset, .unset, .unset, .unset] [(.int sel)])) _
  refine XS.iconst X0.here hx rfl (hb hby at_11) ?_
  show Steps p.tables e below (T0.setTop (mkF m 12 #[.val (.int l1), .val (.int r1), .val (.int o1), .val (.int l2), .val (.int r2), .val (.int sel), .val (.int ((o1 &&& (2147483647 : Int32)) % (6 : Int32))), .unset, .unset, .unset, .unset, .unset, .unset, .unset, .unset, .unset, .unset, .unset] [(.int (4 : Int32)), (.int sel)])) _
  refine XS.iand X0.here hx rfl (hb hby at_12) rfl ?_
  show Steps p.tables e below (T0.setTop (mkF m 13 #[.val (.int l1), .val (.int r1), .val (.int o1), .val (.int l2), .val (.int r2), .val (.int sel), .val (.int ((o1 &&& (2147483647 : Int32)) % (6 : Int32))), .unset, .unset, .unset, .unset, .unset, .unset, .unset, .unset, .unset, .unset, .unset] [(.int (sel &&& (4 : Int32)))])) _
  refine XS.ifNo X0.here hx rfl (hb hby at_13) rfl ((if0 _ _).trans (feq hc13).1) ?_
  show Steps p.tables e below (T0.setTop (mkF m 16 #[.val (.int l1), .val (.int r1), .val (.int o1), .val (.int l2), .val (.int r2), .val (.int sel), .val (.int ((o1 &&& (2147483647 : Int32)) % (6 : Int32))), .unset, .unset, .unset, .unset, .unset, .unset, .unset, .unset, .unset, .unset, .unset] [])) _
  refine XS.iload X0.here hx rfl (hb hby at_16) rfl ?_
  show Steps p.tables e below (T0.setTop (mkF m 18 #[.val (.int l1), .val (.int r1), .val (.int o1), .val (.int l2), .val (.int r2), .val (.int sel), .val (.int ((o1 &&& (2147483647 : Int32)) % (6 : Int32))), .unset, .unset, .unset, .unset, .unset, .unset, .unset, .unset, .unset, .unset, .unset] [(.int ((o1 &&& (2147483647 : Int32)) % (6 : Int32)))])) _
  refine XS.goto X0.here hx rfl (pc0 := 18) (pc' := 28) rfl (hb hby at_18) (by decide) (by decide) ?_
  show Steps p.tables e below (T0.setTop (mkF m 28 #[.val (.int l1), .val (.int r1), .val (.int o1), .val (.int l2), .val (.int r2), .val (.int sel), .val (.int ((o1 &&& (2147483647 : Int32)) % (6 : Int32))), .unset, .unset, .unset, .unset, .unset, .unset, .unset, .unset, .unset, .unset, .unset] [(.int ((o1 &&& (2147483647 : Int32)) % (6 : Int32)))])) _
  refine XS.istore X0.here hx rfl (hb hby at_28) rfl (l' := #[.val (.int l1), .val (.int r1), .val (.int o1), .val (.int l2), .val (.int r2), .val (.int sel), .val (.int ((o1 &&& (2147483647 : Int32)) % (6 : Int32))), .val (.int ((o1 &&& (2147483647 : Int32)) % (6 : Int32))), .unset, .unset, .unset, .unset, .unset, .unset, .unset, .unset, .unset, .unset]) rfl ?_
  show Steps p.tables e below (T0.setTop (mkF m 30 #[.val (.int l1), .val (.int r1), .val (.int o1), .val (.int l2), .val (.int r2), .val (.int sel), .val (.int ((o1 &&& (2147483647 : Int32)) % (6 : Int32))), .val (.int ((o1 &&& (2147483647 : Int32)) % (6 : Int32))), .unset, .unset, .unset, .unset, .unset, .unset, .unset, .unset, .unset, .unset] [])) _
  refine XS.iload X0.here hx rfl (hb hby at_30) rfl ?_
  show Steps p.tables e below (T0.setTop (mkF m 32 #[.val (.int l1), .val (.int r1), .val (.int o1), .val (.int l2), .val (.int r2), .val (.int sel), .val (.int ((o1 &&& (2147483647 : Int32)) % (6 : Int32))), .val (.int ((o1 &&& (2147483647 : Int32)) % (6 : Int32))), .unset, .unset, .unset, .unset, .unset, .unset, .unset, .unset, .unset, .unset] [(.int sel)])) _
  refine XS.iconst X0.here hx rfl (hb hby at_32) ?_
  show Steps p.tables e below (T0.setTop (mkF m 33 #[.val (.int l1), .val (.int r1), .val (.int o1), .val (.int l2), .val (.int r2), .val (.int sel), .val (.int ((o1 &&& (2147483647 : Int32)) % (6 : Int32))), .val (.int ((o1 &&& (2147483647 : Int32)) % (6 : Int32))), .unset, .unset, .unset, .unset, .unset, .unset, .unset, .unset, .unset, .unset] [(.int (1 : Int32)), (.int sel)])) _
  refine XS.iand X0.here hx rfl (hb hby at_33) rfl ?_
  show Steps p.tables e below (T0.setTop (mkF m 34 #[.val (.int l1), .val (.int r1), .val (.int o1), .val (.int l2), .val (.int r2), .val (.int sel), .val (.int ((o1 &&& (2147483647 : Int32)) % (6 : Int32))), .val (.int ((o1 &&& (2147483647 : Int32)) % (6 : Int32))), .unset, .unset, .unset, .unset, .unset, .unset, .unset, .unset, .unset, .unset] [(.int (sel &&& (1 : Int32)))])) _
  refine XS.ifYes X0.here hx rfl (pc0 := 34) (pc' := 41) rfl (hb hby at_34) rfl ((if0 _ _).trans (teq hc34).1) (by decide) (by decide) ?_
  show Steps p.tables e below (T0.setTop (mkF m 41 #[.val (.int l1), .val (.int r1), .val (.int o1), .val (.int l2), .val (.int r2), .val (.int sel), .val (.int ((o1 &&& (2147483647 : Int32)) % (6 : Int32))), .val (.int ((o1 &&& (2147483647 : Int32)) % (6 : Int32))), .unset, .unset, .unset, .unset, .unset, .unset, .unset, .unset, .unset, .unset] [])) _
  refine XS.iloadN X0.here hx rfl (hb hby at_41) rfl ?_
  show Steps p.tables e below (T0.setTop (mkF m 42 #[.val (.int l1), .val (.int r1), .val (.int o1), .val (.int l2), .val (.int r2), .val (.int sel), .val (.int ((o1 &&& (2147483647 : Int32)) % (6 : Int32))), .val (.int ((o1 &&& (2147483647 : Int32)) % (6 : Int32))), .unset, .unset, .unset, .unset, .unset, .unset, .unset, .unset, .unset, .unset] [(.int l2)])) _
  refine XS.istore X0.here hx rfl (hb hby at_42) rfl (l' := #[.val (.int l1), .val (.int r1), .val (.int o1), .val (.int l2), .val (.int r2), .val (.int sel), .val (.int ((o1 &&& (2147483647 : Int32)) % (6 : Int32))), .val (.int ((o1 &&& (2147483647 : Int32)) % (6 : Int32))), .val (.int l2), .unset, .unset, .unset, .unset, .unset, .unset, .unset, .unset, .unset]) rfl ?_
  show Steps p.tables e below (T0.setTop (mkF m 44 #[.val (.int l1), .val (.int r1), .val (.int o1), .val (.int l2), .val (.int r2), .val (.int sel), .val (.int ((o1 &&& (2147483647 : Int32)) % (6 : Int32))), .val (.int ((o1 &&& (2147483647 : Int32)) % (6 : Int32))), .val (.int l2), .unset, .unset, .unset, .unset, .unset, .unset, .unset, .unset, .unset] [])) _
  refine XS.iload X0.here hx rfl (hb hby at_44) rfl ?_
  show Steps p.tables e below (T0.setTop (mkF m 46 #[.val (.int l1), .val (.int r1), .val (.int o1), .val (.int l2), .val (.int r2), .val (.int sel), .val (.int ((o1 &&& (2147483647 : Int32)) % (6 : Int32))), .val (.int ((o1 &&& (2147483647 : Int32)) % (6 : Int32))), .val (.int l2), .unset, .unset, .unset, .unset, .unset, .unset, .unset, .unset, .unset] [(.int sel)])) _
  refine XS.iconst X0.here hx rfl (hb hby at_46) ?_
  show Steps p.tables e below (T0.setTop (mkF m 47 #[.val (.int l1), .val (.int r1), .val (.int o1), .val (.int l2), .val (.int r2), .val (.int sel), .val (.int ((o1 &&& (2147483647 : Int32)) % (6 : Int32))), .val (.int ((o1 &&& (2147483647 : Int32)) % (6 : Int32))), .val (.int l2), .unset, .unset, .unset, .unset, .unset, .unset, .unset, .unset, .unset] [(.int (2 : Int32)), (.int sel)])) _
  refine XS.iand X0.here hx rfl (hb hby at_47) rfl ?_
  show Steps p.tables e below (T0.setTop (mkF m 48 #[.val (.int l1), .val (.int r1), .val (.int o1), .val (.int l2), .val (.int r2), .val (.int sel), .val (.int ((o1 &&& (2147483647 : Int32)) % (6 : Int32))), .val (.int ((o1 &&& (2147483647 : Int32)) % (6 : Int32))), .val (.int l2), .unset, .unset, .unset, .unset, .unset, .unset, .unset, .unset, .unset] [(.int (sel &&& (2 : Int32)))])) _
  refine XS.ifNo X0.here hx rfl (hb hby at_48) rfl ((if0 _ _).trans (feq hc48).1) ?_
  show Steps p.tables e below (T0.setTop (mkF m 51 #[.val (.int l1), .val (.int r1), .val (.int o1), .val (.int l2), .val (.int r2), .val (.int sel), .val (.int ((o1 &&& (2147483647 : Int32)) % (6 : Int32))), .val (.int ((o1 &&& (2147483647 : Int32)) % (6 : Int32))), .val (.int l2), .unset, .unset, .unset, .unset, .unset, .unset, .unset, .unset, .unset] [])) _
  refine XS.iloadN X0.here hx rfl (hb hby at_51) rfl ?_
  show Steps p.tables e below (T0.setTop (mkF m 52 #[.val (.int l1), .val (.int r1), .val (.int o1), .val (.int l2), .val (.int r2), .val (.int sel), .val (.int ((o1 &&& (2147483647 : Int32)) % (6 : Int32))), .val (.int ((o1 &&& (2147483647 : Int32)) % (6 : Int32))), .val (.int l2), .unset, .unset, .unset, .unset, .unset, .unset, .unset, .unset, .unset] [(.int r1)])) _
  refine XS.goto X0.here hx rfl (pc0 := 52) (pc' := 57) rfl (hb hby at_52) (by decide) (by decide) ?_
  show Steps p.tables e below (T0.setTop (mkF m 57 #[.val (.int l1), .val (.int r1), .val (.int o1), .val (.int l2), .val (.int r2), .val (.int sel), .val (.int ((o1 &&& (2147483647 : Int32)) % (6 : Int32))), .val (.int ((o1 &&& (2147483647 : Int32)) % (6 : Int32))), .val (.int l2), .unset, .unset, .unset, .unset, .unset, .unset, .unset, .unset, .unset] [(.int r1)])) _
  refine XS.istore X0.here hx rfl (hb hby at_57) rfl (l' := #[.val (.int l1), .val (.int r1), .val (.int o1), .val (.int l2), .val (.int r2), .val (.int sel), .val (.int ((o1 &&& (2147483647 : Int32)) % (6 : Int32))), .val (.int ((o1 &&& (2147483647 : Int32)) % (6 : Int32))), .val (.int l2), .val (.int r1), .unset, .unset, .unset, .unset, .unset, .unset, .unset, .unset]) rfl ?_
  exact kt
set_option maxRecDepth 65536 in
set_option maxHeartbeats 40000000 in
theorem pA_6 {p : Program} {l : Launch} {e : Env} {R : Room} {s : State} {m : MethodId} {args : Array Value} {below : List Frame} {meth : Method} {c : Code} {T0 : State} {locs : List Loc} {cells slots : Nat} {Z : State} {a0 : Array Value} (l1 r1 o1 l2 r2 sel : Int32) (X0 : Stand p l e R s m args below meth c T0 locs cells slots) (hx : p.tables.exec = Jvm.exec) (hZ : Z.Warmed39 s.vm) (hw : ∀ d ∈ tables_1, d.before a0 Z = true) (hby : c.code = code) (hown : s.vm.findClass "com/example/brisk_sifter/brisksifter/JoinEqualsPinLaw" = some m.cls)  (hc13 : ¬ ((sel &&& (4 : Int32)) = (0 : Int32))) (hc34 : ¬ ((sel &&& (1 : Int32)) = (0 : Int32))) (hc48 : (sel &&& (2 : Int32)) = (0 : Int32)) :
    ∀ target, Steps p.tables e below (T0.setTop (mkF m 59 #[.val (.int l1), .val (.int r1), .val (.int o1), .val (.int l2), .val (.int r2), .val (.int sel), .val (.int ((o1 &&& (2147483647 : Int32)) % (6 : Int32))), .val (.int ((o1 &&& (2147483647 : Int32)) % (6 : Int32))), .val (.int l1), .val (.int r2), .unset, .unset, .unset, .unset, .unset, .unset, .unset, .unset] [])) target → Steps p.tables e below (T0.setTop (mkF m 0 #[.val (.int l1), .val (.int r1), .val (.int o1), .val (.int l2), .val (.int r2), .val (.int sel), .unset, .unset, .unset, .unset, .unset, .unset, .unset, .unset, .unset, .unset, .unset, .unset] [])) target := by
  intro target kt
  show Steps p.tables e below (T0.setTop (mkF m 0 #[.val (.int l1), .val (.int r1), .val (.int o1), .val (.int l2), .val (.int r2), .val (.int sel), .unset, .unset, .unset, .unset, .unset, .unset, .unset, .unset, .unset, .unset, .unset, .unset] [])) _
  refine XS.iloadN X0.here hx rfl (hb hby at_0) rfl ?_
  show Steps p.tables e below (T0.setTop (mkF m 1 #[.val (.int l1), .val (.int r1), .val (.int o1), .val (.int l2), .val (.int r2), .val (.int sel), .unset, .unset, .unset, .unset, .unset, .unset, .unset, .unset, .unset, .unset, .unset, .unset] [(.int o1)])) _
  refine X0.ldcInt hx hown (mvT hZ (hw _ (List.mem_of_getElem? (i := 0) rfl))) (g := (mkF m 1 #[.val (.int l1), .val (.int r1), .val (.int o1), .val (.int l2), .val (.int r2), .val (.int sel), .unset, .unset, .unset, .unset, .unset, .unset, .unset, .unset, .unset, .unset, .unset, .unset] [(.int o1)])) rfl (hb hby at_1) _ ?_
  show Steps p.tables e below (T0.setTop (mkF m 3 #[.val (.int l1), .val (.int r1), .val (.int o1), .val (.int l2), .val (.int r2), .val (.int sel), .unset, .unset, .unset, .unset, .unset, .unset, .unset, .unset, .unset, .unset, .unset, .unset] [(.int (2147483647 : Int32)), (.int o1)])) _
  refine XS.iand X0.here hx rfl (hb hby at_3) rfl ?_
  show Steps p.tables e below (T0.setTop (mkF m 4 #[.val (.int l1), .val (.int r1), .val (.int o1), .val (.int l2), .val (.int r2), .val (.int sel), .unset, .unset, .unset, .unset, .unset, .unset, .unset, .unset, .unset, .unset, .unset, .unset] [(.int (o1 &&& (2147483647 : Int32)))])) _
  refine XS.bipush X0.here hx rfl (hb hby at_4) ?_
  show Steps p.tables e below (T0.setTop (mkF m 6 #[.val (.int l1), .val (.int r1), .val (.int o1), .val (.int l2), .val (.int r2), .val (.int sel), .unset, .unset, .unset, .unset, .unset, .unset, .unset, .unset, .unset, .unset, .unset, .unset] [(.int (6 : Int32)), (.int (o1 &&& (2147483647 : Int32)))])) _
  refine iremM X0 hx rfl (hb hby at_6) rfl (by decide) ?_
  show Steps p.tables e below (T0.setTop (mkF m 7 #[.val (.int l1), .val (.int r1), .val (.int o1), .val (.int l2), .val (.int r2), .val (.int sel), .unset, .unset, .unset, .unset, .unset, .unset, .unset, .unset, .unset, .unset, .unset, .unset] [(.int ((o1 &&& (2147483647 : Int32)) % (6 : Int32)))])) _
  refine XS.istore X0.here hx rfl (hb hby at_7) rfl (l' := #[.val (.int l1), .val (.int r1), .val (.int o1), .val (.int l2), .val (.int r2), .val (.int sel), .val (.int ((o1 &&& (2147483647 : Int32)) % (6 : Int32))), .unset, .unset, .unset, .unset, .unset, .unset, .unset, .unset, .unset, .unset, .unset]) rfl ?_
  show Steps p.tables e below (T0.setTop (mkF m 9 #[.val (.int l1), .val (.int r1), .val (.int o1), .val (.int l2), .val (.int r2), .val (.int sel), .val (.int ((o1 &&& (2147483647 : Int32)) % (6 : Int32))), .unset, .unset, .unset, .unset, .unset, .unset, .unset, .unset, .unset, .unset, .unset] [])) _
  refine XS.iload X0.here hx rfl (hb hby at_9) rfl ?_
  show Steps p.tables e below (T0.setTop (mkF m 11 #[.val (.int l1), .val (.int r1), .val (.int o1), .val (.int l2), .val (.int r2), .val (.int sel), .val (.int ((o1 &&& (2147483647 : Int32)) % (6 : Int32))), .unset, .unset, .unset, .unset, .unset, .unset, .unset, .unset, .unset, .unset, .unset] [(.int sel)])) _
  refine XS.iconst X0.here hx rfl (hb hby at_11) ?_
  show Steps p.tables e below (T0.setTop (mkF m 12 #[.val (.int l1), .val (.int r1), .val (.int o1), .val (.int l2), .val (.int r2), .val (.int sel), .val (.int ((o1 &&& (2147483647 : Int32)) % (6 : Int32))), .unset, .unset, .unset, .unset, .unset, .unset, .unset, .unset, .unset, .unset, .unset] [(.int (4 : Int32)), (.int sel)])) _
  refine XS.iand X0.here hx rfl (hb hby at_12) rfl ?_
  show Steps p.tables e below (T0.setTop (mkF m 13 #[.val (.int l1), .val (.int r1), .val (.int o1), .val (.int l2), .val (.int r2), .val (.int sel), .val (.int ((o1 &&& (2147483647 : Int32)) % (6 : Int32))), .unset, .unset, .unset, .unset, .unset, .unset, .unset, .unset, .unset, .unset, .unset] [(.int (sel &&& (4 : Int32)))])) _
  refine XS.ifNo X0.here hx rfl (hb hby at_13) rfl ((if0 _ _).trans (feq hc13).1) ?_
  show Steps p.tables e below (T0.setTop (mkF m 16 #[.val (.int l1), .val (.int r1), .val (.int o1), .val (.int l2), .val (.int r2), .val (.int sel), .val (.int ((o1 &&& (2147483647 : Int32)) % (6 : Int32))), .unset, .unset, .unset, .unset, .unset, .unset, .unset, .unset, .unset, .unset, .unset] [])) _
  refine XS.iload X0.here hx rfl (hb hby at_16) rfl ?_
  show Steps p.tables e below (T0.setTop (mkF m 18 #[.val (.int l1), .val (.int r1), .val (.int o1), .val (.int l2), .val (.int r2), .val (.int sel), .val (.int ((o1 &&& (2147483647 : Int32)) % (6 : Int32))), .unset, .unset, .unset, .unset, .unset, .unset, .unset, .unset, .unset, .unset, .unset] [(.int ((o1 &&& (2147483647 : Int32)) % (6 : Int32)))])) _
  refine XS.goto X0.here hx rfl (pc0 := 18) (pc' := 28) rfl (hb hby at_18) (by decide) (by decide) ?_
  show Steps p.tables e below (T0.setTop (mkF m 28 #[.val (.int l1), .val (.int r1), .val (.int o1), .val (.int l2), .val (.int r2), .val (.int sel), .val (.int ((o1 &&& (2147483647 : Int32)) % (6 : Int32))), .unset, .unset, .unset, .unset, .unset, .unset, .unset, .unset, .unset, .unset, .unset] [(.int ((o1 &&& (2147483647 : Int32)) % (6 : Int32)))])) _
  refine XS.istore X0.here hx rfl (hb hby at_28) rfl (l' := #[.val (.int l1), .val (.int r1), .val (.int o1), .val (.int l2), .val (.int r2), .val (.int sel), .val (.int ((o1 &&& (2147483647 : Int32)) % (6 : Int32))), .val (.int ((o1 &&& (2147483647 : Int32)) % (6 : Int32))), .unset, .unset, .unset, .unset, .unset, .unset, .unset, .unset, .unset, .unset]) rfl ?_
  show Steps p.tables e below (T0.setTop (mkF m 30 #[.val (.int l1), .val (.int r1), .val (.int o1), .val (.int l2), .val (.int r2), .val (.int sel), .val (.int ((o1 &&& (2147483647 : Int32)) % (6 : Int32))), .val (.int ((o1 &&& (2147483647 : Int32)) % (6 : Int32))), .unset, .unset, .unset, .unset, .unset, .unset, .unset, .unset, .unset, .unset] [])) _
  refine XS.iload X0.here hx rfl (hb hby at_30) rfl ?_
  show Steps p.tables e below (T0.setTop (mkF m 32 #[.val (.int l1), .val (.int r1), .val (.int o1), .val (.int l2), .val (.int r2), .val (.int sel), .val (.int ((o1 &&& (2147483647 : Int32)) % (6 : Int32))), .val (.int ((o1 &&& (2147483647 : Int32)) % (6 : Int32))), .unset, .unset, .unset, .unset, .unset, .unset, .unset, .unset, .unset, .unset] [(.int sel)])) _
  refine XS.iconst X0.here hx rfl (hb hby at_32) ?_
  show Steps p.tables e below (T0.setTop (mkF m 33 #[.val (.int l1), .val (.int r1), .val (.int o1), .val (.int l2), .val (.int r2), .val (.int sel), .val (.int ((o1 &&& (2147483647 : Int32)) % (6 : Int32))), .val (.int ((o1 &&& (2147483647 : Int32)) % (6 : Int32))), .unset, .unset, .unset, .unset, .unset, .unset, .unset, .unset, .unset, .unset] [(.int (1 : Int32)), (.int sel)])) _
  refine XS.iand X0.here hx rfl (hb hby at_33) rfl ?_
  show Steps p.tables e below (T0.setTop (mkF m 34 #[.val (.int l1), .val (.int r1), .val (.int o1), .val (.int l2), .val (.int r2), .val (.int sel), .val (.int ((o1 &&& (2147483647 : Int32)) % (6 : Int32))), .val (.int ((o1 &&& (2147483647 : Int32)) % (6 : Int32))), .unset, .unset, .unset, .unset, .unset, .unset, .unset, .unset, .unset, .unset] [(.int (sel &&& (1 : Int32)))])) _
  refine XS.ifNo X0.here hx rfl (hb hby at_34) rfl ((if0 _ _).trans (feq hc34).1) ?_
  show Steps p.tables e below (T0.setTop (mkF m 37 #[.val (.int l1), .val (.int r1), .val (.int o1), .val (.int l2), .val (.int r2), .val (.int sel), .val (.int ((o1 &&& (2147483647 : Int32)) % (6 : Int32))), .val (.int ((o1 &&& (2147483647 : Int32)) % (6 : Int32))), .unset, .unset, .unset, .unset, .unset, .unset, .unset, .unset, .unset, .unset] [])) _
  refine XS.iloadN X0.here hx rfl (hb hby at_37) rfl ?_
  show Steps p.tables e below (T0.setTop (mkF m 38 #[.val (.int l1), .val (.int r1), .val (.int o1), .val (.int l2), .val (.int r2), .val (.int sel), .val (.int ((o1 &&& (2147483647 : Int32)) % (6 : Int32))), .val (.int ((o1 &&& (2147483647 : Int32)) % (6 : Int32))), .unset, .unset, .unset, .unset, .unset, .unset, .unset, .unset, .unset, .unset] [(.int l1)])) _
  refine XS.goto X0.here hx rfl (pc0 := 38) (pc' := 42) rfl (hb hby at_38) (by decide) (by decide) ?_
  show Steps p.tables e below (T0.setTop (mkF m 42 #[.val (.int l1), .val (.int r1), .val (.int o1), .val (.int l2), .val (.int r2), .val (.int sel), .val (.int ((o1 &&& (2147483647 : Int32)) % (6 : Int32))), .val (.int ((o1 &&& (2147483647 : Int32)) % (6 : Int32))), .unset, .unset, .unset, .unset, .unset, .unset, .unset, .unset, .unset, .unset] [(.int l1)])) _
  refine XS.istore X0.here hx rfl (hb hby at_42) rfl (l' := #[.val (.int l1), .val (.int r1), .val (.int o1), .val (.int l2), .val (.int r2), .val (.int sel), .val (.int ((o1 &&& (2147483647 : Int32)) % (6 : Int32))), .val (.int ((o1 &&& (2147483647 : Int32)) % (6 : Int32))), .val (.int l1), .unset, .unset, .unset, .unset, .unset, .unset, .unset, .unset, .unset]) rfl ?_
  show Steps p.tables e below (T0.setTop (mkF m 44 #[.val (.int l1), .val (.int r1), .val (.int o1), .val (.int l2), .val (.int r2), .val (.int sel), .val (.int ((o1 &&& (2147483647 : Int32)) % (6 : Int32))), .val (.int ((o1 &&& (2147483647 : Int32)) % (6 : Int32))), .val (.int l1), .unset, .unset, .unset, .unset, .unset, .unset, .unset, .unset, .unset] [])) _
  refine XS.iload X0.here hx rfl (hb hby at_44) rfl ?_
  show Steps p.tables e below (T0.setTop (mkF m 46 #[.val (.int l1), .val (.int r1), .val (.int o1), .val (.int l2), .val (.int r2), .val (.int sel), .val (.int ((o1 &&& (2147483647 : Int32)) % (6 : Int32))), .val (.int ((o1 &&& (2147483647 : Int32)) % (6 : Int32))), .val (.int l1), .unset, .unset, .unset, .unset, .unset, .unset, .unset, .unset, .unset] [(.int sel)])) _
  refine XS.iconst X0.here hx rfl (hb hby at_46) ?_
  show Steps p.tables e below (T0.setTop (mkF m 47 #[.val (.int l1), .val (.int r1), .val (.int o1), .val (.int l2), .val (.int r2), .val (.int sel), .val (.int ((o1 &&& (2147483647 : Int32)) % (6 : Int32))), .val (.int ((o1 &&& (2147483647 : Int32)) % (6 : Int32))), .val (.int l1), .unset, .unset, .unset, .unset, .unset, .unset, .unset, .unset, .unset] [(.int (2 : Int32)), (.int sel)])) _
  refine XS.iand X0.here hx rfl (hb hby at_47) rfl ?_
  show Steps p.tables e below (T0.setTop (mkF m 48 #[.val (.int l1), .val (.int r1), .val (.int o1), .val (.int l2), .val (.int r2), .val (.int sel), .val (.int ((o1 &&& (2147483647 : Int32)) % (6 : Int32))), .val (.int ((o1 &&& (2147483647 : Int32)) % (6 : Int32))), .val (.int l1), .unset, .unset, .unset, .unset, .unset, .unset, .unset, .unset, .unset] [(.int (sel &&& (2 : Int32)))])) _
  refine XS.ifYes X0.here hx rfl (pc0 := 48) (pc' := 55) rfl (hb hby at_48) rfl ((if0 _ _).trans (teq hc48).1) (by decide) (by decide) ?_
  show Steps p.tables e below (T0.setTop (mkF m 55 #[.val (.int l1), .val (.int r1), .val (.int o1), .val (.int l2), .val (.int r2), .val (.int sel), .val (.int ((o1 &&& (2147483647 : Int32)) % (6 : Int32))), .val (.int ((o1 &&& (2147483647 : Int32)) % (6 : Int32))), .val (.int l1), .unset, .unset, .unset, .unset, .unset, .unset, .unset, .unset, .unset] [])) _
  refine XS.iload X0.here hx rfl (hb hby at_55) rfl ?_
  show Steps p.tables e below (T0.setTop (mkF m 57 #[.val (.int l1), .val (.int r1), .val (.int o1), .val (.int l2), .val (.int r2), .val (.int sel), .val (.int ((o1 &&& (2147483647 : Int32)) % (6 : Int32))), .val (.int ((o1 &&& (2147483647 : Int32)) % (6 : Int32))), .val (.int l1), .unset, .unset, .unset, .unset, .unset, .unset, .unset, .unset, .unset] [(.int r2)])) _
  refine XS.istore X0.here hx rfl (hb hby at_57) rfl (l' := #[.val (.int l1), .val (.int r1), .val (.int o1), .val (.int l2), .val (.int r2), .val (.int sel), .val (.int ((o1 &&& (2147483647 : Int32)) % (6 : Int32))), .val (.int ((o1 &&& (2147483647 : Int32)) % (6 : Int32))), .val (.int l1), .val (.int r2), .unset, .unset, .unset, .unset, .unset, .unset, .unset, .unset]) rfl ?_
  exact kt
set_option maxRecDepth 65536 in
set_option maxHeartbeats 40000000 in
theorem pA_7 {p : Program} {l : Launch} {e : Env} {R : Room} {s : State} {m : MethodId} {args : Array Value} {below : List Frame} {meth : Method} {c : Code} {T0 : State} {locs : List Loc} {cells slots : Nat} {Z : State} {a0 : Array Value} (l1 r1 o1 l2 r2 sel : Int32) (X0 : Stand p l e R s m args below meth c T0 locs cells slots) (hx : p.tables.exec = Jvm.exec) (hZ : Z.Warmed39 s.vm) (hw : ∀ d ∈ tables_1, d.before a0 Z = true) (hby : c.code = code) (hown : s.vm.findClass "com/example/brisk_sifter/brisksifter/JoinEqualsPinLaw" = some m.cls)  (hc13 : ¬ ((sel &&& (4 : Int32)) = (0 : Int32))) (hc34 : ¬ ((sel &&& (1 : Int32)) = (0 : Int32))) (hc48 : ¬ ((sel &&& (2 : Int32)) = (0 : Int32))) :
    ∀ target, Steps p.tables e below (T0.setTop (mkF m 59 #[.val (.int l1), .val (.int r1), .val (.int o1), .val (.int l2), .val (.int r2), .val (.int sel), .val (.int ((o1 &&& (2147483647 : Int32)) % (6 : Int32))), .val (.int ((o1 &&& (2147483647 : Int32)) % (6 : Int32))), .val (.int l1), .val (.int r1), .unset, .unset, .unset, .unset, .unset, .unset, .unset, .unset] [])) target → Steps p.tables e below (T0.setTop (mkF m 0 #[.val (.int l1), .val (.int r1), .val (.int o1), .val (.int l2), .val (.int r2), .val (.int sel), .unset, .unset, .unset, .unset, .unset, .unset, .unset, .unset, .unset, .unset, .unset, .unset] [])) target := by
  intro target kt
  show Steps p.tables e below (T0.setTop (mkF m 0 #[.val (.int l1), .val (.int r1), .val (.int o1), .val (.int l2), .val (.int r2), .val (.int sel), .unset, .unset, .unset, .unset, .unset, .unset, .unset, .unset, .unset, .unset, .unset, .unset] [])) _
  refine XS.iloadN X0.here hx rfl (hb hby at_0) rfl ?_
  show Steps p.tables e below (T0.setTop (mkF m 1 #[.val (.int l1), .val (.int r1), .val (.int o1), .val (.int l2), .val (.int r2), .val (.int sel), .unset, .unset, .unset, .unset, .unset, .unset, .unset, .unset, .unset, .unset, .unset, .unset] [(.int o1)])) _
  refine X0.ldcInt hx hown (mvT hZ (hw _ (List.mem_of_getElem? (i := 0) rfl))) (g := (mkF m 1 #[.val (.int l1), .val (.int r1), .val (.int o1), .val (.int l2), .val (.int r2), .val (.int sel), .unset, .unset, .unset, .unset, .unset, .unset, .unset, .unset, .unset, .unset, .unset, .unset] [(.int o1)])) rfl (hb hby at_1) _ ?_
  show Steps p.tables e below (T0.setTop (mkF m 3 #[.val (.int l1), .val (.int r1), .val (.int o1), .val (.int l2), .val (.int r2), .val (.int sel), .unset, .unset, .unset, .unset, .unset, .unset, .unset, .unset, .unset, .unset, .unset, .unset] [(.int (2147483647 : Int32)), (.int o1)])) _
  refine XS.iand X0.here hx rfl (hb hby at_3) rfl ?_
  show Steps p.tables e below (T0.setTop (mkF m 4 #[.val (.int l1), .val (.int r1), .val (.int o1), .val (.int l2), .val (.int r2), .val (.int sel), .unset, .unset, .unset, .unset, .unset, .unset, .unset, .unset, .unset, .unset, .unset, .unset] [(.int (o1 &&& (2147483647 : Int32)))])) _
  refine XS.bipush X0.here hx rfl (hb hby at_4) ?_
  show Steps p.tables e below (T0.setTop (mkF m 6 #[.val (.int l1), .val (.int r1), .val (.int o1), .val (.int l2), .val (.int r2), .val (.int sel), .unset, .unset, .unset, .unset, .unset, .unset, .unset, .unset, .unset, .unset, .unset, .unset] [(.int (6 : Int32)), (.int (o1 &&& (2147483647 : Int32)))])) _
  refine iremM X0 hx rfl (hb hby at_6) rfl (by decide) ?_
  show Steps p.tables e below (T0.setTop (mkF m 7 #[.val (.int l1), .val (.int r1), .val (.int o1), .val (.int l2), .val (.int r2), .val (.int sel), .unset, .unset, .unset, .unset, .unset, .unset, .unset, .unset, .unset, .unset, .unset, .unset] [(.int ((o1 &&& (2147483647 : Int32)) % (6 : Int32)))])) _
  refine XS.istore X0.here hx rfl (hb hby at_7) rfl (l' := #[.val (.int l1), .val (.int r1), .val (.int o1), .val (.int l2), .val (.int r2), .val (.int sel), .val (.int ((o1 &&& (2147483647 : Int32)) % (6 : Int32))), .unset, .unset, .unset, .unset, .unset, .unset, .unset, .unset, .unset, .unset, .unset]) rfl ?_
  show Steps p.tables e below (T0.setTop (mkF m 9 #[.val (.int l1), .val (.int r1), .val (.int o1), .val (.int l2), .val (.int r2), .val (.int sel), .val (.int ((o1 &&& (2147483647 : Int32)) % (6 : Int32))), .unset, .unset, .unset, .unset, .unset, .unset, .unset, .unset, .unset, .unset, .unset] [])) _
  refine XS.iload X0.here hx rfl (hb hby at_9) rfl ?_
  show Steps p.tables e below (T0.setTop (mkF m 11 #[.val (.int l1), .val (.int r1), .val (.int o1), .val (.int l2), .val (.int r2), .val (.int sel), .val (.int ((o1 &&& (2147483647 : Int32)) % (6 : Int32))), .unset, .unset, .unset, .unset, .unset, .unset, .unset, .unset, .unset, .unset, .unset] [(.int sel)])) _
  refine XS.iconst X0.here hx rfl (hb hby at_11) ?_
  show Steps p.tables e below (T0.setTop (mkF m 12 #[.val (.int l1), .val (.int r1), .val (.int o1), .val (.int l2), .val (.int r2), .val (.int sel), .val (.int ((o1 &&& (2147483647 : Int32)) % (6 : Int32))), .unset, .unset, .unset, .unset, .unset, .unset, .unset, .unset, .unset, .unset, .unset] [(.int (4 : Int32)), (.int sel)])) _
  refine XS.iand X0.here hx rfl (hb hby at_12) rfl ?_
  show Steps p.tables e below (T0.setTop (mkF m 13 #[.val (.int l1), .val (.int r1), .val (.int o1), .val (.int l2), .val (.int r2), .val (.int sel), .val (.int ((o1 &&& (2147483647 : Int32)) % (6 : Int32))), .unset, .unset, .unset, .unset, .unset, .unset, .unset, .unset, .unset, .unset, .unset] [(.int (sel &&& (4 : Int32)))])) _
  refine XS.ifNo X0.here hx rfl (hb hby at_13) rfl ((if0 _ _).trans (feq hc13).1) ?_
  show Steps p.tables e below (T0.setTop (mkF m 16 #[.val (.int l1), .val (.int r1), .val (.int o1), .val (.int l2), .val (.int r2), .val (.int sel), .val (.int ((o1 &&& (2147483647 : Int32)) % (6 : Int32))), .unset, .unset, .unset, .unset, .unset, .unset, .unset, .unset, .unset, .unset, .unset] [])) _
  refine XS.iload X0.here hx rfl (hb hby at_16) rfl ?_
  show Steps p.tables e below (T0.setTop (mkF m 18 #[.val (.int l1), .val (.int r1), .val (.int o1), .val (.int l2), .val (.int r2), .val (.int sel), .val (.int ((o1 &&& (2147483647 : Int32)) % (6 : Int32))), .unset, .unset, .unset, .unset, .unset, .unset, .unset, .unset, .unset, .unset, .unset] [(.int ((o1 &&& (2147483647 : Int32)) % (6 : Int32)))])) _
  refine XS.goto X0.here hx rfl (pc0 := 18) (pc' := 28) rfl (hb hby at_18) (by decide) (by decide) ?_
  show Steps p.tables e below (T0.setTop (mkF m 28 #[.val (.int l1), .val (.int r1), .val (.int o1), .val (.int l2), .val (.int r2), .val (.int sel), .val (.int ((o1 &&& (2147483647 : Int32)) % (6 : Int32))), .unset, .unset, .unset, .unset, .unset, .unset, .unset, .unset, .unset, .unset, .unset] [(.int ((o1 &&& (2147483647 : Int32)) % (6 : Int32)))])) _
  refine XS.istore X0.here hx rfl (hb hby at_28) rfl (l' := #[.val (.int l1), .val (.int r1), .val (.int o1), .val (.int l2), .val (.int r2), .val (.int sel), .val (.int ((o1 &&& (2147483647 : Int32)) % (6 : Int32))), .val (.int ((o1 &&& (2147483647 : Int32)) % (6 : Int32))), .unset, .unset, .unset, .unset, .unset, .unset, .unset, .unset, .unset, .unset]) rfl ?_
  show Steps p.tables e below (T0.setTop (mkF m 30 #[.val (.int l1), .val (.int r1), .val (.int o1), .val (.int l2), .val (.int r2), .val (.int sel), .val (.int ((o1 &&& (2147483647 : Int32)) % (6 : Int32))), .val (.int ((o1 &&& (2147483647 : Int32)) % (6 : Int32))), .unset, .unset, .unset, .unset, .unset, .unset, .unset, .unset, .unset, .unset] [])) _
  refine XS.iload X0.here hx rfl (hb hby at_30) rfl ?_
  show Steps p.tables e below (T0.setTop (mkF m 32 #[.val (.int l1), .val (.int r1), .val (.int o1), .val (.int l2), .val (.int r2), .val (.int sel), .val (.int ((o1 &&& (2147483647 : Int32)) % (6 : Int32))), .val (.int ((o1 &&& (2147483647 : Int32)) % (6 : Int32))), .unset, .unset, .unset, .unset, .unset, .unset, .unset, .unset, .unset, .unset] [(.int sel)])) _
  refine XS.iconst X0.here hx rfl (hb hby at_32) ?_
  show Steps p.tables e below (T0.setTop (mkF m 33 #[.val (.int l1), .val (.int r1), .val (.int o1), .val (.int l2), .val (.int r2), .val (.int sel), .val (.int ((o1 &&& (2147483647 : Int32)) % (6 : Int32))), .val (.int ((o1 &&& (2147483647 : Int32)) % (6 : Int32))), .unset, .unset, .unset, .unset, .unset, .unset, .unset, .unset, .unset, .unset] [(.int (1 : Int32)), (.int sel)])) _
  refine XS.iand X0.here hx rfl (hb hby at_33) rfl ?_
  show Steps p.tables e below (T0.setTop (mkF m 34 #[.val (.int l1), .val (.int r1), .val (.int o1), .val (.int l2), .val (.int r2), .val (.int sel), .val (.int ((o1 &&& (2147483647 : Int32)) % (6 : Int32))), .val (.int ((o1 &&& (2147483647 : Int32)) % (6 : Int32))), .unset, .unset, .unset, .unset, .unset, .unset, .unset, .unset, .unset, .unset] [(.int (sel &&& (1 : Int32)))])) _
  refine XS.ifNo X0.here hx rfl (hb hby at_34) rfl ((if0 _ _).trans (feq hc34).1) ?_
  show Steps p.tables e below (T0.setTop (mkF m 37 #[.val (.int l1), .val (.int r1), .val (.int o1), .val (.int l2), .val (.int r2), .val (.int sel), .val (.int ((o1 &&& (2147483647 : Int32)) % (6 : Int32))), .val (.int ((o1 &&& (2147483647 : Int32)) % (6 : Int32))), .unset, .unset, .unset, .unset, .unset, .unset, .unset, .unset, .unset, .unset] [])) _
  refine XS.iloadN X0.here hx rfl (hb hby at_37) rfl ?_
  show Steps p.tables e below (T0.setTop (mkF m 38 #[.val (.int l1), .val (.int r1), .val (.int o1), .val (.int l2), .val (.int r2), .val (.int sel), .val (.int ((o1 &&& (2147483647 : Int32)) % (6 : Int32))), .val (.int ((o1 &&& (2147483647 : Int32)) % (6 : Int32))), .unset, .unset, .unset, .unset, .unset, .unset, .unset, .unset, .unset, .unset] [(.int l1)])) _
  refine XS.goto X0.here hx rfl (pc0 := 38) (pc' := 42) rfl (hb hby at_38) (by decide) (by decide) ?_
  show Steps p.tables e below (T0.setTop (mkF m 42 #[.val (.int l1), .val (.int r1), .val (.int o1), .val (.int l2), .val (.int r2), .val (.int sel), .val (.int ((o1 &&& (2147483647 : Int32)) % (6 : Int32))), .val (.int ((o1 &&& (2147483647 : Int32)) % (6 : Int32))), .unset, .unset, .unset, .unset, .unset, .unset, .unset, .unset, .unset, .unset] [(.int l1)])) _
  refine XS.istore X0.here hx rfl (hb hby at_42) rfl (l' := #[.val (.int l1), .val (.int r1), .val (.int o1), .val (.int l2), .val (.int r2), .val (.int sel), .val (.int ((o1 &&& (2147483647 : Int32)) % (6 : Int32))), .val (.int ((o1 &&& (2147483647 : Int32)) % (6 : Int32))), .val (.int l1), .unset, .unset, .unset, .unset, .unset, .unset, .unset, .unset, .unset]) rfl ?_
  show Steps p.tables e below (T0.setTop (mkF m 44 #[.val (.int l1), .val (.int r1), .val (.int o1), .val (.int l2), .val (.int r2), .val (.int sel), .val (.int ((o1 &&& (2147483647 : Int32)) % (6 : Int32))), .val (.int ((o1 &&& (2147483647 : Int32)) % (6 : Int32))), .val (.int l1), .unset, .unset, .unset, .unset, .unset, .unset, .unset, .unset, .unset] [])) _
  refine XS.iload X0.here hx rfl (hb hby at_44) rfl ?_
  show Steps p.tables e below (T0.setTop (mkF m 46 #[.val (.int l1), .val (.int r1), .val (.int o1), .val (.int l2), .val (.int r2), .val (.int sel), .val (.int ((o1 &&& (2147483647 : Int32)) % (6 : Int32))), .val (.int ((o1 &&& (2147483647 : Int32)) % (6 : Int32))), .val (.int l1), .unset, .unset, .unset, .unset, .unset, .unset, .unset, .unset, .unset] [(.int sel)])) _
  refine XS.iconst X0.here hx rfl (hb hby at_46) ?_
  show Steps p.tables e below (T0.setTop (mkF m 47 #[.val (.int l1), .val (.int r1), .val (.int o1), .val (.int l2), .val (.int r2), .val (.int sel), .val (.int ((o1 &&& (2147483647 : Int32)) % (6 : Int32))), .val (.int ((o1 &&& (2147483647 : Int32)) % (6 : Int32))), .val (.int l1), .unset, .unset, .unset, .unset, .unset, .unset, .unset, .unset, .unset] [(.int (2 : Int32)), (.int sel)])) _
  refine XS.iand X0.here hx rfl (hb hby at_47) rfl ?_
  show Steps p.tables e below (T0.setTop (mkF m 48 #[.val (.int l1), .val (.int r1), .val (.int o1), .val (.int l2), .val (.int r2), .val (.int sel), .val (.int ((o1 &&& (2147483647 : Int32)) % (6 : Int32))), .val (.int ((o1 &&& (2147483647 : Int32)) % (6 : Int32))), .val (.int l1), .unset, .unset, .unset, .unset, .unset, .unset, .unset, .unset, .unset] [(.int (sel &&& (2 : Int32)))])) _
  refine XS.ifNo X0.here hx rfl (hb hby at_48) rfl ((if0 _ _).trans (feq hc48).1) ?_
  show Steps p.tables e below (T0.setTop (mkF m 51 #[.val (.int l1), .val (.int r1), .val (.int o1), .val (.int l2), .val (.int r2), .val (.int sel), .val (.int ((o1 &&& (2147483647 : Int32)) % (6 : Int32))), .val (.int ((o1 &&& (2147483647 : Int32)) % (6 : Int32))), .val (.int l1), .unset, .unset, .unset, .unset, .unset, .unset, .unset, .unset, .unset] [])) _
  refine XS.iloadN X0.here hx rfl (hb hby at_51) rfl ?_
  show Steps p.tables e below (T0.setTop (mkF m 52 #[.val (.int l1), .val (.int r1), .val (.int o1), .val (.int l2), .val (.int r2), .val (.int sel), .val (.int ((o1 &&& (2147483647 : Int32)) % (6 : Int32))), .val (.int ((o1 &&& (2147483647 : Int32)) % (6 : Int32))), .val (.int l1), .unset, .unset, .unset, .unset, .unset, .unset, .unset, .unset, .unset] [(.int r1)])) _
  refine XS.goto X0.here hx rfl (pc0 := 52) (pc' := 57) rfl (hb hby at_52) (by decide) (by decide) ?_
  show Steps p.tables e below (T0.setTop (mkF m 57 #[.val (.int l1), .val (.int r1), .val (.int o1), .val (.int l2), .val (.int r2), .val (.int sel), .val (.int ((o1 &&& (2147483647 : Int32)) % (6 : Int32))), .val (.int ((o1 &&& (2147483647 : Int32)) % (6 : Int32))), .val (.int l1), .unset, .unset, .unset, .unset, .unset, .unset, .unset, .unset, .unset] [(.int r1)])) _
  refine XS.istore X0.here hx rfl (hb hby at_57) rfl (l' := #[.val (.int l1), .val (.int r1), .val (.int o1), .val (.int l2), .val (.int r2), .val (.int sel), .val (.int ((o1 &&& (2147483647 : Int32)) % (6 : Int32))), .val (.int ((o1 &&& (2147483647 : Int32)) % (6 : Int32))), .val (.int l1), .val (.int r1), .unset, .unset, .unset, .unset, .unset, .unset, .unset, .unset]) rfl ?_
  exact kt
theorem pA {p : Program} {l : Launch} {e : Env} {R : Room} {s : State} {m : MethodId} {args : Array Value} {below : List Frame} {meth : Method} {c : Code} {T0 : State} {locs : List Loc} {cells slots : Nat} {Z : State} {a0 : Array Value} (l1 r1 o1 l2 r2 sel : Int32) (kb bl br : Int32) (X0 : Stand p l e R s m args below meth c T0 locs cells slots) (hx : p.tables.exec = Jvm.exec) (hZ : Z.Warmed39 s.vm) (hw : ∀ d ∈ tables_1, d.before a0 Z = true) (hby : c.code = code) (hown : s.vm.findClass "com/example/brisk_sifter/brisksifter/JoinEqualsPinLaw" = some m.cls) (hkb : (((sel &&& (4 : Int32)) = (0 : Int32)) ∧ kb = (((sel.toUInt32 >>> ((3 : Int32) &&& 31).toUInt32).toInt32) % (6 : Int32))) ∨ (¬ ((sel &&& (4 : Int32)) = (0 : Int32)) ∧ kb = ((o1 &&& (2147483647 : Int32)) % (6 : Int32)))) (hbl : (((sel &&& (1 : Int32)) = (0 : Int32)) ∧ bl = l2) ∨ (¬ ((sel &&& (1 : Int32)) = (0 : Int32)) ∧ bl = l1)) (hbr : (((sel &&& (2 : Int32)) = (0 : Int32)) ∧ br = r2) ∨ (¬ ((sel &&& (2 : Int32)) = (0 : Int32)) ∧ br = r1)) :
    ∀ target, Steps p.tables e below (T0.setTop (mkF m 59 #[.val (.int l1), .val (.int r1), .val (.int o1), .val (.int l2), .val (.int r2), .val (.int sel), .val (.int ((o1 &&& (2147483647 : Int32)) % (6 : Int32))), .val (.int kb), .val (.int bl), .val (.int br), .unset, .unset, .unset, .unset, .unset, .unset, .unset, .unset] [])) target → Steps p.tables e below (T0.setTop (mkF m 0 #[.val (.int l1), .val (.int r1), .val (.int o1), .val (.int l2), .val (.int r2), .val (.int sel), .unset, .unset, .unset, .unset, .unset, .unset, .unset, .unset, .unset, .unset, .unset, .unset] [])) target := by
  rcases hkb with ⟨h1, rfl⟩ | ⟨h1, rfl⟩ <;> rcases hbl with ⟨h2, rfl⟩ | ⟨h2, rfl⟩ <;> rcases hbr with ⟨h3, rfl⟩ | ⟨h3, rfl⟩
  · exact pA_0 _ _ _ _ _ _ X0 hx hZ hw hby hown h1 h2 h3
  · exact pA_1 _ _ _ _ _ _ X0 hx hZ hw hby hown h1 h2 h3
  · exact pA_2 _ _ _ _ _ _ X0 hx hZ hw hby hown h1 h2 h3
  · exact pA_3 _ _ _ _ _ _ X0 hx hZ hw hby hown h1 h2 h3
  · exact pA_4 _ _ _ _ _ _ X0 hx hZ hw hby hown h1 h2 h3
  · exact pA_5 _ _ _ _ _ _ X0 hx hZ hw hby hown h1 h2 h3
  · exact pA_6 _ _ _ _ _ _ X0 hx hZ hw hby hown h1 h2 h3
  · exact pA_7 _ _ _ _ _ _ X0 hx hZ hw hby hown h1 h2 h3
set_option maxRecDepth 65536 in
set_option maxHeartbeats 40000000 in
theorem pB_0 {p : Program} {l : Launch} {e : Env} {R : Room} {s : State} {m : MethodId} {args : Array Value} {below : List Frame} {meth : Method} {c : Code} {T0 : State} {locs : List Loc} {cells slots : Nat} {Z : State} {a0 : Array Value} (l1 r1 o1 l2 r2 sel : Int32) (kb bl br : Int32) (a b : Addr) (X0 : Stand p l e R s m args below meth c T0 locs cells slots) (hx : p.tables.exec = Jvm.exec) (hZ : Z.Warmed39 s.vm) (hw : ∀ d ∈ tables_1, d.before a0 Z = true) (hby : c.code = code) (hown : s.vm.findClass "com/example/brisk_sifter/brisksifter/JoinEqualsPinLaw" = some m.cls)  (hc96 : ¬ (l1 = bl)) :
    ∀ target, Steps p.tables e below (T0.setTop (mkF m 119 #[.val (.int l1), .val (.int r1), .val (.int o1), .val (.int l2), .val (.int r2), .val (.int sel), .val (.int ((o1 &&& (2147483647 : Int32)) % (6 : Int32))), .val (.int kb), .val (.int bl), .val (.int br), .val (.ref a), .val (.ref b), .val (.int (0 : Int32)), .unset, .unset, .unset, .unset, .unset] [])) target → Steps p.tables e below (T0.setTop (mkF m 93 #[.val (.int l1), .val (.int r1), .val (.int o1), .val (.int l2), .val (.int r2), .val (.int sel), .val (.int ((o1 &&& (2147483647 : Int32)) % (6 : Int32))), .val (.int kb), .val (.int bl), .val (.int br), .val (.ref a), .val (.ref b), .unset, .unset, .unset, .unset, .unset, .unset] [])) target := by
  intro target kt
  show Steps p.tables e below (T0.setTop (mkF m 93 #[.val (.int l1), .val (.int r1), .val (.int o1), .val (.int l2), .val (.int r2), .val (.int sel), .val (.int ((o1 &&& (2147483647 : Int32)) % (6 : Int32))), .val (.int kb), .val (.int bl), .val (.int br), .val (.ref a), .val (.ref b), .unset, .unset, .unset, .unset, .unset, .unset] [])) _
  refine XS.iloadN X0.here hx rfl (hb hby at_93) rfl ?_
  show Steps p.tables e below (T0.setTop (mkF m 94 #[.val (.int l1), .val (.int r1), .val (.int o1), .val (.int l2), .val (.int r2), .val (.int sel), .val (.int ((o1 &&& (2147483647 : Int32)) % (6 : Int32))), .val (.int kb), .val (.int bl), .val (.int br), .val (.ref a), .val (.ref b), .unset, .unset, .unset, .unset, .unset, .unset] [(.int l1)])) _
  refine XS.iload X0.here hx rfl (hb hby at_94) rfl ?_
  show Steps p.tables e below (T0.setTop (mkF m 96 #[.val (.int l1), .val (.int r1), .val (.int o1), .val (.int l2), .val (.int r2), .val (.int sel), .val (.int ((o1 &&& (2147483647 : Int32)) % (6 : Int32))), .val (.int kb), .val (.int bl), .val (.int br), .val (.ref a), .val (.ref b), .unset, .unset, .unset, .unset, .unset, .unset] [(.int bl), (.int l1)])) _
  refine XS.icmpYes X0.here hx rfl (pc0 := 96) (pc' := 116) rfl (hb hby at_96) rfl (feq hc96).2 (by decide) (by decide) ?_
  show Steps p.tables e below (T0.setTop (mkF m 116 #[.val (.int l1), .val (.int r1), .val (.int o1), .val (.int l2), .val (.int r2), .val (.int sel), .val (.int ((o1 &&& (2147483647 : Int32)) % (6 : Int32))), .val (.int kb), .val (.int bl), .val (.int br), .val (.ref a), .val (.ref b), .unset, .unset, .unset, .unset, .unset, .unset] [])) _
  refine XS.iconst X0.here hx rfl (hb hby at_116) ?_
  show Steps p.tables e below (T0.setTop (mkF m 117 #[.val (.int l1), .val (.int r1), .val (.int o1), .val (.int l2), .val (.int r2), .val (.int sel), .val (.int ((o1 &&& (2147483647 : Int32)) % (6 : Int32))), .val (.int kb), .val (.int bl), .val (.int br), .val (.ref a), .val (.ref b), .unset, .unset, .unset, .unset, .unset, .unset] [(.int (0 : Int32))])) _
  refine XS.istore X0.here hx rfl (hb hby at_117) rfl (l' := #[.val (.int l1), .val (.int r1), .val (.int o1), .val (.int l2), .val (.int r2), .val (.int sel), .val (.int ((o1 &&& (2147483647 : Int32)) % (6 : Int32))), .val (.int kb), .val (.int bl), .val (.int br), .val (.ref a), .val (.ref b), .val (.int (0 : Int32)), .unset, .unset, .unset, .unset, .unset]) rfl ?_
  exact kt
set_option maxRecDepth 65536 in
set_option maxHeartbeats 40000000 in
theorem pB_1 {p : Program} {l : Launch} {e : Env} {R : Room} {s : State} {m : MethodId} {args : Array Value} {below : List Frame} {meth : Method} {c : Code} {T0 : State} {locs : List Loc} {cells slots : Nat} {Z : State} {a0 : Array Value} (l1 r1 o1 l2 r2 sel : Int32) (kb bl br : Int32) (a b : Addr) (X0 : Stand p l e R s m args below meth c T0 locs cells slots) (hx : p.tables.exec = Jvm.exec) (hZ : Z.Warmed39 s.vm) (hw : ∀ d ∈ tables_1, d.before a0 Z = true) (hby : c.code = code) (hown : s.vm.findClass "com/example/brisk_sifter/brisksifter/JoinEqualsPinLaw" = some m.cls)  (hc96 : l1 = bl) (hc103 : ¬ (((o1 &&& (2147483647 : Int32)) % (6 : Int32)) = kb)) :
    ∀ target, Steps p.tables e below (T0.setTop (mkF m 119 #[.val (.int l1), .val (.int r1), .val (.int o1), .val (.int l2), .val (.int r2), .val (.int sel), .val (.int ((o1 &&& (2147483647 : Int32)) % (6 : Int32))), .val (.int kb), .val (.int bl), .val (.int br), .val (.ref a), .val (.ref b), .val (.int (0 : Int32)), .unset, .unset, .unset, .unset, .unset] [])) target → Steps p.tables e below (T0.setTop (mkF m 93 #[.val (.int l1), .val (.int r1), .val (.int o1), .val (.int l2), .val (.int r2), .val (.int sel), .val (.int ((o1 &&& (2147483647 : Int32)) % (6 : Int32))), .val (.int kb), .val (.int bl), .val (.int br), .val (.ref a), .val (.ref b), .unset, .unset, .unset, .unset, .unset, .unset] [])) target := by
  intro target kt
  show Steps p.tables e below (T0.setTop (mkF m 93 #[.val (.int l1), .val (.int r1), .val (.int o1), .val (.int l2), .val (.int r2), .val (.int sel), .val (.int ((o1 &&& (2147483647 : Int32)) % (6 : Int32))), .val (.int kb), .val (.int bl), .val (.int br), .val (.ref a), .val (.ref b), .unset, .unset, .unset, .unset, .unset, .unset] [])) _
  refine XS.iloadN X0.here hx rfl (hb hby at_93) rfl ?_
  show Steps p.tables e below (T0.setTop (mkF m 94 #[.val (.int l1), .val (.int r1), .val (.int o1), .val (.int l2), .val (.int r2), .val (.int sel), .val (.int ((o1 &&& (2147483647 : Int32)) % (6 : Int32))), .val (.int kb), .val (.int bl), .val (.int br), .val (.ref a), .val (.ref b), .unset, .unset, .unset, .unset, .unset, .unset] [(.int l1)])) _
  refine XS.iload X0.here hx rfl (hb hby at_94) rfl ?_
  show Steps p.tables e below (T0.setTop (mkF m 96 #[.val (.int l1), .val (.int r1), .val (.int o1), .val (.int l2), .val (.int r2), .val (.int sel), .val (.int ((o1 &&& (2147483647 : Int32)) % (6 : Int32))), .val (.int kb), .val (.int bl), .val (.int br), .val (.ref a), .val (.ref b), .unset, .unset, .unset, .unset, .unset, .unset] [(.int bl), (.int l1)])) _
  refine XS.icmpNo X0.here hx rfl (hb hby at_96) rfl (teq hc96).2 ?_
  show Steps p.tables e below (T0.setTop (mkF m 99 #[.val (.int l1), .val (.int r1), .val (.int o1), .val (.int l2), .val (.int r2), .val (.int sel), .val (.int ((o1 &&& (2147483647 : Int32)) % (6 : Int32))), .val (.int kb), .val (.int bl), .val (.int br), .val (.ref a), .val (.ref b), .unset, .unset, .unset, .unset, .unset, .unset] [])) _
  refine XS.iload X0.here hx rfl (hb hby at_99) rfl ?_
  show Steps p.tables e below (T0.setTop (mkF m 101 #[.val (.int l1), .val (.int r1), .val (.int o1), .val (.int l2), .val (.int r2), .val (.int sel), .val (.int ((o1 &&& (2147483647 : Int32)) % (6 : Int32))), .val (.int kb), .val (.int bl), .val (.int br), .val (.ref a), .val (.ref b), .unset, .unset, .unset, .unset, .unset, .unset] [(.int ((o1 &&& (2147483647 : Int32)) % (6 : Int32)))])) _
  refine XS.iload X0.here hx rfl (hb hby at_101) rfl ?_
  show Steps p.tables e below (T0.setTop (mkF m 103 #[.val (.int l1), .val (.int r1), .val (.int o1), .val (.int l2), .val (.int r2), .val (.int sel), .val (.int ((o1 &&& (2147483647 : Int32)) % (6 : Int32))), .val (.int kb), .val (.int bl), .val (.int br), .val (.ref a), .val (.ref b), .unset, .unset, .unset, .unset, .unset, .unset] [(.int kb), (.int ((o1 &&& (2147483647 : Int32)) % (6 : Int32)))])) _
  refine XS.icmpYes X0.here hx rfl (pc0 := 103) (pc' := 116) rfl (hb hby at_103) rfl (feq hc103).2 (by decide) (by decide) ?_
  show Steps p.tables e below (T0.setTop (mkF m 116 #[.val (.int l1), .val (.int r1), .val (.int o1), .val (.int l2), .val (.int r2), .val (.int sel), .val (.int ((o1 &&& (2147483647 : Int32)) % (6 : Int32))), .val (.int kb), .val (.int bl), .val (.int br), .val (.ref a), .val (.ref b), .unset, .unset, .unset, .unset, .unset, .unset] [])) _
  refine XS.iconst X0.here hx rfl (hb hby at_116) ?_
  show Steps p.tables e below (T0.setTop (mkF m 117 #[.val (.int l1), .val (.int r1), .val (.int o1), .val (.int l2), .val (.int r2), .val (.int sel), .val (.int ((o1 &&& (2147483647 : Int32)) % (6 : Int32))), .val (.int kb), .val (.int bl), .val (.int br), .val (.ref a), .val (.ref b), .unset, .unset, .unset, .unset, .unset, .unset] [(.int (0 : Int32))])) _
  refine XS.istore X0.here hx rfl (hb hby at_117) rfl (l' := #[.val (.int l1), .val (.int r1), .val (.int o1), .val (.int l2), .val (.int r2), .val (.int sel), .val (.int ((o1 &&& (2147483647 : Int32)) % (6 : Int32))), .val (.int kb), .val (.int bl), .val (.int br), .val (.ref a), .val (.ref b), .val (.int (0 : Int32)), .unset, .unset, .unset, .unset, .unset]) rfl ?_
  exact kt
set_option maxRecDepth 65536 in
set_option maxHeartbeats 40000000 in
theorem pB_2 {p : Program} {l : Launch} {e : Env} {R : Room} {s : State} {m : MethodId} {args : Array Value} {below : List Frame} {meth : Method} {c : Code} {T0 : State} {locs : List Loc} {cells slots : Nat} {Z : State} {a0 : Array Value} (l1 r1 o1 l2 r2 sel : Int32) (kb bl br : Int32) (a b : Addr) (X0 : Stand p l e R s m args below meth c T0 locs cells slots) (hx : p.tables.exec = Jvm.exec) (hZ : Z.Warmed39 s.vm) (hw : ∀ d ∈ tables_1, d.before a0 Z = true) (hby : c.code = code) (hown : s.vm.findClass "com/example/brisk_sifter/brisksifter/JoinEqualsPinLaw" = some m.cls)  (hc96 : l1 = bl) (hc103 : ((o1 &&& (2147483647 : Int32)) % (6 : Int32)) = kb) (hc109 : ¬ (r1 = br)) :
    ∀ target, Steps p.tables e below (T0.setTop (mkF m 119 #[.val (.int l1), .val (.int r1), .val (.int o1), .val (.int l2), .val (.int r2), .val (.int sel), .val (.int ((o1 &&& (2147483647 : Int32)) % (6 : Int32))), .val (.int kb), .val (.int bl), .val (.int br), .val (.ref a), .val (.ref b), .val (.int (0 : Int32)), .unset, .unset, .unset, .unset, .unset] [])) target → Steps p.tables e below (T0.setTop (mkF m 93 #[.val (.int l1), .val (.int r1), .val (.int o1), .val (.int l2), .val (.int r2), .val (.int sel), .val (.int ((o1 &&& (2147483647 : Int32)) % (6 : Int32))), .val (.int kb), .val (.int bl), .val (.int br), .val (.ref a), .val (.ref b), .unset, .unset, .unset, .unset, .unset, .unset] [])) target := by
  intro target kt
  show Steps p.tables e below (T0.setTop (mkF m 93 #[.val (.int l1), .val (.int r1), .val (.int o1), .val (.int l2), .val (.int r2), .val (.int sel), .val (.int ((o1 &&& (2147483647 : Int32)) % (6 : Int32))), .val (.int kb), .val (.int bl), .val (.int br), .val (.ref a), .val (.ref b), .unset, .unset, .unset, .unset, .unset, .unset] [])) _
  refine XS.iloadN X0.here hx rfl (hb hby at_93) rfl ?_
  show Steps p.tables e below (T0.setTop (mkF m 94 #[.val (.int l1), .val (.int r1), .val (.int o1), .val (.int l2), .val (.int r2), .val (.int sel), .val (.int ((o1 &&& (2147483647 : Int32)) % (6 : Int32))), .val (.int kb), .val (.int bl), .val (.int br), .val (.ref a), .val (.ref b), .unset, .unset, .unset, .unset, .unset, .unset] [(.int l1)])) _
  refine XS.iload X0.here hx rfl (hb hby at_94) rfl ?_
  show Steps p.tables e below (T0.setTop (mkF m 96 #[.val (.int l1), .val (.int r1), .val (.int o1), .val (.int l2), .val (.int r2), .val (.int sel), .val (.int ((o1 &&& (2147483647 : Int32)) % (6 : Int32))), .val (.int kb), .val (.int bl), .val (.int br), .val (.ref a), .val (.ref b), .unset, .unset, .unset, .unset, .unset, .unset] [(.int bl), (.int l1)])) _
  refine XS.icmpNo X0.here hx rfl (hb hby at_96) rfl (teq hc96).2 ?_
  show Steps p.tables e below (T0.setTop (mkF m 99 #[.val (.int l1), .val (.int r1), .val (.int o1), .val (.int l2), .val (.int r2), .val (.int sel), .val (.int ((o1 &&& (2147483647 : Int32)) % (6 : Int32))), .val (.int kb), .val (.int bl), .val (.int br), .val (.ref a), .val (.ref b), .unset, .unset, .unset, .unset, .unset, .unset] [])) _
  refine XS.iload X0.here hx rfl (hb hby at_99) rfl ?_
  show Steps p.tables e below (T0.setTop (mkF m 101 #[.val (.int l1), .val (.int r1), .val (.int o1), .val (.int l2), .val (.int r2), .val (.int sel), .val (.int ((o1 &&& (2147483647 : Int32)) % (6 : Int32))), .val (.int kb), .val (.int bl), .val (.int br), .val (.ref a), .val (.ref b), .unset, .unset, .unset, .unset, .unset, .unset] [(.int ((o1 &&& (2147483647 : Int32)) % (6 : Int32)))])) _
  refine XS.iload X0.here hx rfl (hb hby at_101) rfl ?_
  show Steps p.tables e below (T0.setTop (mkF m 103 #[.val (.int l1), .val (.int r1), .val (.int o1), .val (.int l2), .val (.int r2), .val (.int sel), .val (.int ((o1 &&& (2147483647 : Int32)) % (6 : Int32))), .val (.int kb), .val (.int bl), .val (.int br), .val (.ref a), .val (.ref b), .unset, .unset, .unset, .unset, .unset, .unset] [(.int kb), (.int ((o1 &&& (2147483647 : Int32)) % (6 : Int32)))])) _
  refine XS.icmpNo X0.here hx rfl (hb hby at_103) rfl (teq hc103).2 ?_
  show Steps p.tables e below (T0.setTop (mkF m 106 #[.val (.int l1), .val (.int r1), .val (.int o1), .val (.int l2), .val (.int r2), .val (.int sel), .val (.int ((o1 &&& (2147483647 : Int32)) % (6 : Int32))), .val (.int kb), .val (.int bl), .val (.int br), .val (.ref a), .val (.ref b), .unset, .unset, .unset, .unset, .unset, .unset] [])) _
  refine XS.iloadN X0.here hx rfl (hb hby at_106) rfl ?_
  show Steps p.tables e below (T0.setTop (mkF m 107 #[.val (.int l1), .val (.int r1), .val (.int o1), .val (.int l2), .val (.int r2), .val (.int sel), .val (.int ((o1 &&& (2147483647 : Int32)) % (6 : Int32))), .val (.int kb), .val (.int bl), .val (.int br), .val (.ref a), .val (.ref b), .unset, .unset, .unset, .unset, .unset, .unset] [(.int r1)])) _
  refine XS.iload X0.here hx rfl (hb hby at_107) rfl ?_
  show Steps p.tables e below (T0.setTop (mkF m 109 #[.val (.int l1), .val (.int r1), .val (.int o1), .val (.int l2), .val (.int r2), .val (.int sel), .val (.int ((o1 &&& (2147483647 : Int32)) % (6 : Int32))), .val (.int kb), .val (.int bl), .val (.int br), .val (.ref a), .val (.ref b), .unset, .unset, .unset, .unset, .unset, .unset] [(.int br), (.int r1)])) _
  refine XS.icmpYes X0.here hx rfl (pc0 := 109) (pc' := 116) rfl (hb hby at_109) rfl (feq hc109).2 (by decide) (by decide) ?_
  show Steps p.tables e below (T0.setTop (mkF m 116 #[.val (.int l1), .val (.int r1), .val (.int o1), .val (.int l2), .val (.int r2), .val (.int sel), .val (.int ((o1 &&& (2147483647 : Int32)) % (6 : Int32))), .val (.int kb), .val (.int bl), .val (.int br), .val (.ref a), .val (.ref b), .unset, .unset, .unset, .unset, .unset, .unset] [])) _
  refine XS.iconst X0.here hx rfl (hb hby at_116) ?_
  show Steps p.tables e below (T0.setTop (mkF m 117 #[.val (.int l1), .val (.int r1), .val (.int o1), .val (.int l2), .val (.int r2), .val (.int sel), .val (.int ((o1 &&& (2147483647 : Int32)) % (6 : Int32))), .val (.int kb), .val (.int bl), .val (.int br), .val (.ref a), .val (.ref b), .unset, .unset, .unset, .unset, .unset, .unset] [(.int (0 : Int32))])) _
  refine XS.istore X0.here hx rfl (hb hby at_117) rfl (l' := #[.val (.int l1), .val (.int r1), .val (.int o1), .val (.int l2), .val (.int r2), .val (.int sel), .val (.int ((o1 &&& (2147483647 : Int32)) % (6 : Int32))), .val (.int kb), .val (.int bl), .val (.int br), .val (.ref a), .val (.ref b), .val (.int (0 : Int32)), .unset, .unset, .unset, .unset, .unset]) rfl ?_
  exact kt
set_option maxRecDepth 65536 in
set_option maxHeartbeats 40000000 in
theorem pB_3 {p : Program} {l : Launch} {e : Env} {R : Room} {s : State} {m : MethodId} {args : Array Value} {below : List Frame} {meth : Method} {c : Code} {T0 : State} {locs : List Loc} {cells slots : Nat} {Z : State} {a0 : Array Value} (l1 r1 o1 l2 r2 sel : Int32) (kb bl br : Int32) (a b : Addr) (X0 : Stand p l e R s m args below meth c T0 locs cells slots) (hx : p.tables.exec = Jvm.exec) (hZ : Z.Warmed39 s.vm) (hw : ∀ d ∈ tables_1, d.before a0 Z = true) (hby : c.code = code) (hown : s.vm.findClass "com/example/brisk_sifter/brisksifter/JoinEqualsPinLaw" = some m.cls)  (hc96 : l1 = bl) (hc103 : ((o1 &&& (2147483647 : Int32)) % (6 : Int32)) = kb) (hc109 : r1 = br) :
    ∀ target, Steps p.tables e below (T0.setTop (mkF m 119 #[.val (.int l1), .val (.int r1), .val (.int o1), .val (.int l2), .val (.int r2), .val (.int sel), .val (.int ((o1 &&& (2147483647 : Int32)) % (6 : Int32))), .val (.int kb), .val (.int bl), .val (.int br), .val (.ref a), .val (.ref b), .val (.int (1 : Int32)), .unset, .unset, .unset, .unset, .unset] [])) target → Steps p.tables e below (T0.setTop (mkF m 93 #[.val (.int l1), .val (.int r1), .val (.int o1), .val (.int l2), .val (.int r2), .val (.int sel), .val (.int ((o1 &&& (2147483647 : Int32)) % (6 : Int32))), .val (.int kb), .val (.int bl), .val (.int br), .val (.ref a), .val (.ref b), .unset, .unset, .unset, .unset, .unset, .unset] [])) target := by
  intro target kt
  show Steps p.tables e below (T0.setTop (mkF m 93 #[.val (.int l1), .val (.int r1), .val (.int o1), .val (.int l2), .val (.int r2), .val (.int sel), .val (.int ((o1 &&& (2147483647 : Int32)) % (6 : Int32))), .val (.int kb), .val (.int bl), .val (.int br), .val (.ref a), .val (.ref b), .unset, .unset, .unset, .unset, .unset, .unset] [])) _
  refine XS.iloadN X0.here hx rfl (hb hby at_93) rfl ?_
  show Steps p.tables e below (T0.setTop (mkF m 94 #[.val (.int l1), .val (.int r1), .val (.int o1), .val (.int l2), .val (.int r2), .val (.int sel), .val (.int ((o1 &&& (2147483647 : Int32)) % (6 : Int32))), .val (.int kb), .val (.int bl), .val (.int br), .val (.ref a), .val (.ref b), .unset, .unset, .unset, .unset, .unset, .unset] [(.int l1)])) _
  refine XS.iload X0.here hx rfl (hb hby at_94) rfl ?_
  show Steps p.tables e below (T0.setTop (mkF m 96 #[.val (.int l1), .val (.int r1), .val (.int o1), .val (.int l2), .val (.int r2), .val (.int sel), .val (.int ((o1 &&& (2147483647 : Int32)) % (6 : Int32))), .val (.int kb), .val (.int bl), .val (.int br), .val (.ref a), .val (.ref b), .unset, .unset, .unset, .unset, .unset, .unset] [(.int bl), (.int l1)])) _
  refine XS.icmpNo X0.here hx rfl (hb hby at_96) rfl (teq hc96).2 ?_
  show Steps p.tables e below (T0.setTop (mkF m 99 #[.val (.int l1), .val (.int r1), .val (.int o1), .val (.int l2), .val (.int r2), .val (.int sel), .val (.int ((o1 &&& (2147483647 : Int32)) % (6 : Int32))), .val (.int kb), .val (.int bl), .val (.int br), .val (.ref a), .val (.ref b), .unset, .unset, .unset, .unset, .unset, .unset] [])) _
  refine XS.iload X0.here hx rfl (hb hby at_99) rfl ?_
  show Steps p.tables e below (T0.setTop (mkF m 101 #[.val (.int l1), .val (.int r1), .val (.int o1), .val (.int l2), .val (.int r2), .val (.int sel), .val (.int ((o1 &&& (2147483647 : Int32)) % (6 : Int32))), .val (.int kb), .val (.int bl), .val (.int br), .val (.ref a), .val (.ref b), .unset, .unset, .unset, .unset, .unset, .unset] [(.int ((o1 &&& (2147483647 : Int32)) % (6 : Int32)))])) _
  refine XS.iload X0.here hx rfl (hb hby at_101) rfl ?_
  show Steps p.tables e below (T0.setTop (mkF m 103 #[.val (.int l1), .val (.int r1), .val (.int o1), .val (.int l2), .val (.int r2), .val (.int sel), .val (.int ((o1 &&& (2147483647 : Int32)) % (6 : Int32))), .val (.int kb), .val (.int bl), .val (.int br), .val (.ref a), .val (.ref b), .unset, .unset, .unset, .unset, .unset, .unset] [(.int kb), (.int ((o1 &&& (2147483647 : Int32)) % (6 : Int32)))])) _
  refine XS.icmpNo X0.here hx rfl (hb hby at_103) rfl (teq hc103).2 ?_
  show Steps p.tables e below (T0.setTop (mkF m 106 #[.val (.int l1), .val (.int r1), .val (.int o1), .val (.int l2), .val (.int r2), .val (.int sel), .val (.int ((o1 &&& (2147483647 : Int32)) % (6 : Int32))), .val (.int kb), .val (.int bl), .val (.int br), .val (.ref a), .val (.ref b), .unset, .unset, .unset, .unset, .unset, .unset] [])) _
  refine XS.iloadN X0.here hx rfl (hb hby at_106) rfl ?_
  show Steps p.tables e below (T0.setTop (mkF m 107 #[.val (.int l1), .val (.int r1), .val (.int o1), .val (.int l2), .val (.int r2), .val (.int sel), .val (.int ((o1 &&& (2147483647 : Int32)) % (6 : Int32))), .val (.int kb), .val (.int bl), .val (.int br), .val (.ref a), .val (.ref b), .unset, .unset, .unset, .unset, .unset, .unset] [(.int r1)])) _
  refine XS.iload X0.here hx rfl (hb hby at_107) rfl ?_
  show Steps p.tables e below (T0.setTop (mkF m 109 #[.val (.int l1), .val (.int r1), .val (.int o1), .val (.int l2), .val (.int r2), .val (.int sel), .val (.int ((o1 &&& (2147483647 : Int32)) % (6 : Int32))), .val (.int kb), .val (.int bl), .val (.int br), .val (.ref a), .val (.ref b), .unset, .unset, .unset, .unset, .unset, .unset] [(.int br), (.int r1)])) _
  refine XS.icmpNo X0.here hx rfl (hb hby at_109) rfl (teq hc109).2 ?_
  show Steps p.tables e below (T0.setTop (mkF m 112 #[.val (.int l1), .val (.int r1), .val (.int o1), .val (.int l2), .val (.int r2), .val (.int sel), .val (.int ((o1 &&& (2147483647 : Int32)) % (6 : Int32))), .val (.int kb), .val (.int bl), .val (.int br), .val (.ref a), .val (.ref b), .unset, .unset, .unset, .unset, .unset, .unset] [])) _
  refine XS.iconst X0.here hx rfl (hb hby at_112) ?_
  show Steps p.tables e below (T0.setTop (mkF m 113 #[.val (.int l1), .val (.int r1), .val (.int o1), .val (.int l2), .val (.int r2), .val (.int sel), .val (.int ((o1 &&& (2147483647 : Int32)) % (6 : Int32))), .val (.int kb), .val (.int bl), .val (.int br), .val (.ref a), .val (.ref b), .unset, .unset, .unset, .unset, .unset, .unset] [(.int (1 : Int32))])) _
  refine XS.goto X0.here hx rfl (pc0 := 113) (pc' := 117) rfl (hb hby at_113) (by decide) (by decide) ?_
  show Steps p.tables e below (T0.setTop (mkF m 117 #[.val (.int l1), .val (.int r1), .val (.int o1), .val (.int l2), .val (.int r2), .val (.int sel), .val (.int ((o1 &&& (2147483647 : Int32)) % (6 : Int32))), .val (.int kb), .val (.int bl), .val (.int br), .val (.ref a), .val (.ref b), .unset, .unset, .unset, .unset, .unset, .unset] [(.int (1 : Int32))])) _
  refine XS.istore X0.here hx rfl (hb hby at_117) rfl (l' := #[.val (.int l1), .val (.int r1), .val (.int o1), .val (.int l2), .val (.int r2), .val (.int sel), .val (.int ((o1 &&& (2147483647 : Int32)) % (6 : Int32))), .val (.int kb), .val (.int bl), .val (.int br), .val (.ref a), .val (.ref b), .val (.int (1 : Int32)), .unset, .unset, .unset, .unset, .unset]) rfl ?_
  exact kt
def ExV (l1 bl ka kb r1 br r : Int32) : Prop := (¬ (l1 = bl) ∧ r = 0) ∨ (l1 = bl ∧ ¬ (ka = kb) ∧ r = 0) ∨ (l1 = bl ∧ ka = kb ∧ ¬ (r1 = br) ∧ r = 0) ∨ (l1 = bl ∧ ka = kb ∧ r1 = br ∧ r = 1)
theorem pB {p : Program} {l : Launch} {e : Env} {R : Room} {s : State} {m : MethodId} {args : Array Value} {below : List Frame} {meth : Method} {c : Code} {T0 : State} {locs : List Loc} {cells slots : Nat} {Z : State} {a0 : Array Value} (l1 r1 o1 l2 r2 sel : Int32) (kb bl br : Int32) (a b : Addr) (r : Int32) (X0 : Stand p l e R s m args below meth c T0 locs cells slots) (hx : p.tables.exec = Jvm.exec) (hZ : Z.Warmed39 s.vm) (hw : ∀ d ∈ tables_1, d.before a0 Z = true) (hby : c.code = code) (hown : s.vm.findClass "com/example/brisk_sifter/brisksifter/JoinEqualsPinLaw" = some m.cls) (hr : ExV l1 bl ((o1 &&& (2147483647 : Int32)) % (6 : Int32)) kb r1 br r) :
    ∀ target, Steps p.tables e below (T0.setTop (mkF m 119 #[.val (.int l1), .val (.int r1), .val (.int o1), .val (.int l2), .val (.int r2), .val (.int sel), .val (.int ((o1 &&& (2147483647 : Int32)) % (6 : Int32))), .val (.int kb), .val (.int bl), .val (.int br), .val (.ref a), .val (.ref b), .val (.int r), .unset, .unset, .unset, .unset, .unset] [])) target → Steps p.tables e below (T0.setTop (mkF m 93 #[.val (.int l1), .val (.int r1), .val (.int o1), .val (.int l2), .val (.int r2), .val (.int sel), .val (.int ((o1 &&& (2147483647 : Int32)) % (6 : Int32))), .val (.int kb), .val (.int bl), .val (.int br), .val (.ref a), .val (.ref b), .unset, .unset, .unset, .unset, .unset, .unset] [])) target := by
  rcases hr with ⟨h1, rfl⟩ | ⟨h1, h2, rfl⟩ | ⟨h1, h2, h3, rfl⟩ | ⟨h1, h2, h3, rfl⟩
  · exact pB_0 l1 r1 o1 l2 r2 sel kb bl br a b X0 hx hZ hw hby hown h1
  · exact pB_1 l1 r1 o1 l2 r2 sel kb bl br a b X0 hx hZ hw hby hown h1 h2
  · exact pB_2 l1 r1 o1 l2 r2 sel kb bl br a b X0 hx hZ hw hby hown h1 h2 h3
  · exact pB_3 l1 r1 o1 l2 r2 sel kb bl br a b X0 hx hZ hw hby hown h1 h2 h3
theorem pd_1 : parseMethodDescriptor "(I)Lcom/example/brisk_sifter/brisksifter/Formula$Operator;" = some ⟨[.int], some (.object "com/example/brisk_sifter/brisksifter/Formula$Operator")⟩ := by decide +kernel
theorem pd_2 : parseMethodDescriptor "(ILcom/example/brisk_sifter/brisksifter/Formula$Operator;I)V" = some ⟨[.int, (.object "com/example/brisk_sifter/brisksifter/Formula$Operator"), .int], none⟩ := by decide +kernel
theorem pd_3 : parseMethodDescriptor "(Ljava/lang/Object;)Z" = some ⟨[(.object "java/lang/Object")], some .boolean⟩ := by decide +kernel
theorem ef_0_IIIIII (m : MethodId) (x0 : Int32) (x1 : Int32) (x2 : Int32) (x3 : Int32) (x4 : Int32) (x5 : Int32) : entryFrame m #[(.int x0), (.int x1), (.int x2), (.int x3), (.int x4), (.int x5)] maxLocals = mkF m 0 #[.val (.int x0), .val (.int x1), .val (.int x2), .val (.int x3), .val (.int x4), .val (.int x5), .unset, .unset, .unset, .unset, .unset, .unset, .unset, .unset, .unset, .unset, .unset, .unset] [] := by first | (simp [entryFrame, mkF, argsToLocals, Value.category, maxLocals]; done) | rfl
set_option maxRecDepth 65536 in
set_option maxHeartbeats 40000000 in
theorem rm0a (l : Launch) (Z : State) (a0 : Array Value) (hw : ∀ d ∈ tables_1, d.before a0 Z = true) (ws : List Jvm.Cond) (l1 r1 o1 l2 r2 sel : Int32) (kb bl br r : Int32) (wA wB tr : Addr) (h0 : Heap) (n0 : Nat) (Z0 : n0 ≤ h0.size) (hkb : (((sel &&& (4 : Int32)) = (0 : Int32)) ∧ kb = (((sel.toUInt32 >>> ((3 : Int32) &&& 31).toUInt32).toInt32) % (6 : Int32))) ∨ (¬ ((sel &&& (4 : Int32)) = (0 : Int32)) ∧ kb = ((o1 &&& (2147483647 : Int32)) % (6 : Int32)))) (hbl : (((sel &&& (1 : Int32)) = (0 : Int32)) ∧ bl = l2) ∨ (¬ ((sel &&& (1 : Int32)) = (0 : Int32)) ∧ bl = l1)) (hbr : (((sel &&& (2 : Int32)) = (0 : Int32)) ∧ br = r2) ∨ (¬ ((sel &&& (2 : Int32)) = (0 : Int32)) ∧ br = r1)) (Od0 : Old Z n0 h0) (hA : OpW Z Z.heap ((o1 &&& (2147483647 : Int32)) % (6 : Int32)) wA) (hB : OpW Z Z.heap kb wB) (hxr : ExV l1 bl ((o1 &&& (2147483647 : Int32)) % (6 : Int32)) kb r1 br r) (hq1 : EqV l1 wA r1 bl wB br r) (hq2 : EqV bl wB br l1 wA r1 r) (St : Sta Z Z.heap "com/example/brisk_sifter/brisksifter/Formula" "TRUE" "Lcom/example/brisk_sifter/brisksifter/Formula;" (.ref tr)) (Et : Exa Z Z.heap tr "com/example/brisk_sifter/brisksifter/Formula$All") (hno : ∃ c t, Z.vm.findClass "com/example/brisk_sifter/brisksifter/Formula$All" = some c ∧ Z.vm.findClass "com/example/brisk_sifter/brisksifter/Formula$Join" = some t ∧ Z.vm.assignable c t = false) :
    MetFree l x (head1 (Jvm.Cond.code x code maxLocals ret :: ws) room_1) (fun zA zU => zA = #[(.int l1), (.int r1), (.int o1), (.int l2), (.int r2), (.int sel)] ∧ Z.Warmed39 zU.vm ∧ zU.heap = h0) (fun _ _ _ _ _ => True) (fun _ zU zO zW => ∃ zV zL, zO = .returned zV ∧ QL n0 zV zW.heap zL ∧ FrameEnd zU zO zW zL room_1.cells room_1.slots) := by
  refine MetFree.of_bodySF (plainFor_of_name pn_JoinEqualsPinLaw) hisR ?_
  intro p e s m args below meth c s₁ Bd hml0 hP hK
  obtain ⟨rfl, hZ, hh⟩ := hP
  have hx := Bd.exec
  have hby := Bd.bytes
  have hml : c.maxLocals = 18 := hml0
  have hown : s.vm.findClass "com/example/brisk_sifter/brisksifter/JoinEqualsPinLaw" = some m.cls := findClass_of_methodNamed Bd.named
  have hnm := (name_of_methodNamed Bd.named Bd.method).1
  have X0 : Stand p l e room_1 s m #[(.int l1), (.int r1), (.int o1), (.int l2), (.int r2), (.int sel)] below meth c s₁ [] 0 0 := Stand.of_body Bd
  have e0 : s₁.heap = h0 := by rw [← hh, Bd.state]; rfl
  have N0 := Fr.nil n0
  have pre0 : ∀ zt, Steps p.tables e below (s₁.setTop (mkF m 0 #[.val (.int l1), .val (.int r1), .val (.int o1), .val (.int l2), .val (.int r2), .val (.int sel), .unset, .unset, .unset, .unset, .unset, .unset, .unset, .unset, .unset, .unset, .unset, .unset] [])) zt → Steps p.tables e below (s₁.setTop (entryFrame m #[(.int l1), (.int r1), (.int o1), (.int l2), (.int r2), (.int sel)] maxLocals)) zt := fun zt zk => castTop (ef_0_IIIIII m l1 r1 o1 l2 r2 sel) zk
  obtain ⟨T56, h56, X56, e56, E56, A56, D56, -, st56⟩ := newO X0 hx hZ hown (hw _ (List.mem_of_getElem? (i := 1) rfl)) (hw _ (List.mem_of_getElem? (i := 2) rfl)) (hw _ (List.mem_of_getElem? (i := 3) rfl)) e0 (g := (mkF m 59 #[.val (.int l1), .val (.int r1), .val (.int o1), .val (.int l2), .val (.int r2), .val (.int sel), .val (.int ((o1 &&& (2147483647 : Int32)) % (6 : Int32))), .val (.int kb), .val (.int bl), .val (.int br), .unset, .unset, .unset, .unset, .unset, .unset, .unset, .unset] [])) rfl (hb hby at_59) (by decide) (by decide)
  obtain ⟨b56, g56⟩ : ∃ z, z = h0.size := ⟨_, rfl⟩
  rw [← g56] at A56 D56 st56
  have gz56 : n0 ≤ b56 := Nat.le_trans Z0 (Nat.le_of_eq g56.symm)
  have Z56 := Nat.le_trans Z0 E56.1
  have Od56 := Od0.ext E56
  have F56__left : Fld Z h56 b56 "com/example/brisk_sifter/brisksifter/Formula$Join" "_left" "I" (.int (0 : Int32)) := D56 (Or.inr (hw _ (List.mem_of_getElem? (i := 23) rfl))) (ty := .int) (by decide)
  have F56__operator : Fld Z h56 b56 "com/example/brisk_sifter/brisksifter/Formula$Join" "_operator" "Lcom/example/brisk_sifter/brisksifter/Formula$Operator;" .null := D56 (Or.inr (hw _ (List.mem_of_getElem? (i := 25) rfl))) (ty := (.object "com/example/brisk_sifter/brisksifter/Formula$Operator")) (by decide)
  have F56__right : Fld Z h56 b56 "com/example/brisk_sifter/brisksifter/Formula$Join" "_right" "I" (.int (0 : Int32)) := D56 (Or.inr (hw _ (List.mem_of_getElem? (i := 27) rfl))) (ty := .int) (by decide)
  obtain ⟨_, _, ⟨T57, L57, k57, n57⟩, -, X57, ⟨Lc57, hQ57, l57, y57, z57⟩, st57⟩ := Jvm.LawKit.callS X56 hx (y := (⟨"com/example/brisk_sifter/brisksifter/JoinEqualsPinLaw", "op", "(I)Lcom/example/brisk_sifter/brisksifter/Formula$Operator;"⟩ : MethodName)) hown (mvT hZ (hw _ (List.mem_of_getElem? (i := 4) rfl))) (mvT hZ (hw _ (List.mem_of_getElem? (i := 5) rfl))) (mvT hZ (hw _ (List.mem_of_getElem? (i := 6) rfl))) (mvT hZ (hw _ (List.mem_of_getElem? (i := 7) rfl))) (by decide) (backOf (W := 3) (rop l Z a0 hw [] ((o1 &&& (2147483647 : Int32)) % (6 : Int32)) wA h56 n0 Z56 (hA.ext Od56.2)) hZ (hw _ (List.mem_of_getElem? (i := 7) rfl)) (hw _ (List.mem_of_getElem? (i := 6) rfl)) (by decide) (by decide)) (g := (mkF m 66 #[.val (.int l1), .val (.int r1), .val (.int o1), .val (.int l2), .val (.int r2), .val (.int sel), .val (.int ((o1 &&& (2147483647 : Int32)) % (6 : Int32))), .val (.int kb), .val (.int bl), .val (.int br), .unset, .unset, .unset, .unset, .unset, .unset, .unset, .unset] [(.int ((o1 &&& (2147483647 : Int32)) % (6 : Int32))), (.int l1), (.ref b56), (.ref b56)])) rfl (by rw [hml]; rfl) (argsL := [(.int ((o1 &&& (2147483647 : Int32)) % (6 : Int32)))]) (rest := [(.int l1), (.ref b56), (.ref b56)]) (lenOf pd_1 rfl) rfl (by show 2 * 0 + _ ≤ _; exact Nat.le_of_eq rfl) (hb hby at_66) (fun _ _ => ⟨rfl, e56, (by decide : 1 + 0 ≤ _), (by decide : 3 + 0 ≤ _)⟩)
  dsimp only [Pt.U, Pt.locs, Pt.cells, Pt.slots] at X57 l57 y57 z57 st57 hQ57
  subst l57 y57 z57
  obtain ⟨rfl, Nq57, e57⟩ := hQ57
  have N57 := Fr.app N0 Nq57
  obtain ⟨_, _, ⟨T58, L58, k58, n58⟩, -, X58, ⟨Lc58, hQ58, l58, y58, z58⟩, st58⟩ := X57.specialBack hx (y := (⟨"com/example/brisk_sifter/brisksifter/Formula$Join", "<init>", "(ILcom/example/brisk_sifter/brisksifter/Formula$Operator;I)V"⟩ : MethodName)) rfl hown (mvT hZ (hw _ (List.mem_of_getElem? (i := 11) rfl))) (mvT hZ (hw _ (List.mem_of_getElem? (i := 12) rfl))) (mvT hZ (hw _ (List.mem_of_getElem? (i := 13) rfl))) (by decide) (backOf (W := 1) (rji l Z a0 hw [] b56 l1 wA r1 h56 n0 Z56 A56 F56__left F56__operator F56__right gz56) hZ (hw _ (List.mem_of_getElem? (i := 13) rfl)) (hw _ (List.mem_of_getElem? (i := 3) rfl)) (by decide) (by decide)) (g := (mkF m 70 #[.val (.int l1), .val (.int r1), .val (.int o1), .val (.int l2), .val (.int r2), .val (.int sel), .val (.int ((o1 &&& (2147483647 : Int32)) % (6 : Int32))), .val (.int kb), .val (.int bl), .val (.int br), .unset, .unset, .unset, .unset, .unset, .unset, .unset, .unset] [(.int r1), (.ref wA), (.int l1), (.ref b56), (.ref b56)])) rfl (by rw [hml]; rfl) (Steps.refl _) (a := b56) (argsL := [(.int l1), (.ref wA), (.int r1)]) (rest := [(.ref b56)]) (lenOf pd_2 rfl) rfl (by show 2 * 0 + _ ≤ _; exact Nat.le_of_eq rfl) (hb hby at_70) (fun _ _ => ⟨rfl, e57, (by decide : 1 + 0 ≤ _), (by decide : 3 + 0 ≤ _)⟩)
  dsimp only [Pt.U, Pt.locs, Pt.cells, Pt.slots] at X58 l58 y58 z58 st58 hQ58
  subst l58 y58 z58
  obtain ⟨rfl, Nq58, Kq58, G58_0, G58_1, G58_2, G58_3⟩ := hQ58
  have N58 := Fr.app N57 Nq58
  have Z58 := Nat.le_trans Z56 Kq58.1
  have Od58 := Od56.keep Kq58 (allS gz56 all0)
  obtain ⟨T59, h59, X59, e59, E59, A59, D59, -, st59⟩ := newO X58 hx hZ hown (hw _ (List.mem_of_getElem? (i := 1) rfl)) (hw _ (List.mem_of_getElem? (i := 2) rfl)) (hw _ (List.mem_of_getElem? (i := 3) rfl)) rfl (g := (mkF m 75 #[.val (.int l1), .val (.int r1), .val (.int o1), .val (.int l2), .val (.int r2), .val (.int sel), .val (.int ((o1 &&& (2147483647 : Int32)) % (6 : Int32))), .val (.int kb), .val (.int bl), .val (.int br), .val (.ref b56), .unset, .unset, .unset, .unset, .unset, .unset, .unset] [])) rfl (hb hby at_75) (by decide) (by decide)
  obtain ⟨b59, g59⟩ : ∃ z, z = T58.heap.size := ⟨_, rfl⟩
  rw [← g59] at A59 D59 st59
  have gz59 : n0 ≤ b59 := Nat.le_trans Z58 (Nat.le_of_eq g59.symm)
  have ne_b56_b59 : b56 ≠ b59 := Nat.ne_of_lt (Nat.lt_of_lt_of_le G58_1.lt (Nat.le_of_eq g59.symm))
  have F60 := G58_1.ext E59
  have F61 := G58_2.ext E59
  have F62 := G58_3.ext E59
  have E63 := G58_0.ext E59
  have Z59 := Nat.le_trans Z58 E59.1
  have Od59 := Od58.ext E59
  have F59__left : Fld Z h59 b59 "com/example/brisk_sifter/brisksifter/Formula$Join" "_left" "I" (.int (0 : Int32)) := D59 (Or.inr (hw _ (List.mem_of_getElem? (i := 23) rfl))) (ty := .int) (by decide)
  have F59__operator : Fld Z h59 b59 "com/example/brisk_sifter/brisksifter/Formula$Join" "_operator" "Lcom/example/brisk_sifter/brisksifter/Formula$Operator;" .null := D59 (Or.inr (hw _ (List.mem_of_getElem? (i := 25) rfl))) (ty := (.object "com/example/brisk_sifter/brisksifter/Formula$Operator")) (by decide)
  have F59__right : Fld Z h59 b59 "com/example/brisk_sifter/brisksifter/Formula$Join" "_right" "I" (.int (0 : Int32)) := D59 (Or.inr (hw _ (List.mem_of_getElem? (i := 27) rfl))) (ty := .int) (by decide)
  obtain ⟨_, _, ⟨T64, L64, k64, n64⟩, -, X64, ⟨Lc64, hQ64, l64, y64, z64⟩, st64⟩ := Jvm.LawKit.callS X59 hx (y := (⟨"com/example/brisk_sifter/brisksifter/JoinEqualsPinLaw", "op", "(I)Lcom/example/brisk_sifter/brisksifter/Formula$Operator;"⟩ : MethodName)) hown (mvT hZ (hw _ (List.mem_of_getElem? (i := 4) rfl))) (mvT hZ (hw _ (List.mem_of_getElem? (i := 5) rfl))) (mvT hZ (hw _ (List.mem_of_getElem? (i := 6) rfl))) (mvT hZ (hw _ (List.mem_of_getElem? (i := 7) rfl))) (by decide) (backOf (W := 3) (rop l Z a0 hw [] kb wB h59 n0 Z59 (hB.ext Od59.2)) hZ (hw _ (List.mem_of_getElem? (i := 7) rfl)) (hw _ (List.mem_of_getElem? (i := 6) rfl)) (by decide) (by decide)) (g := (mkF m 83 #[.val (.int l1), .val (.int r1), .val (.int o1), .val (.int l2), .val (.int r2), .val (.int sel), .val (.int ((o1 &&& (2147483647 : Int32)) % (6 : Int32))), .val (.int kb), .val (.int bl), .val (.int br), .val (.ref b56), .unset, .unset, .unset, .unset, .unset, .unset, .unset] [(.int kb), (.int bl), (.ref b59), (.ref b59)])) rfl (by rw [hml]; rfl) (argsL := [(.int kb)]) (rest := [(.int bl), (.ref b59), (.ref b59)]) (lenOf pd_1 rfl) rfl (by show 2 * 0 + _ ≤ _; exact Nat.le_of_eq rfl) (hb hby at_83) (fun _ _ => ⟨rfl, e59, (by decide : 2 + 0 ≤ _), (by decide : 6 + 0 ≤ _)⟩)
  dsimp only [Pt.U, Pt.locs, Pt.cells, Pt.slots] at X64 l64 y64 z64 st64 hQ64
  subst l64 y64 z64
  obtain ⟨rfl, Nq64, e64⟩ := hQ64
  have N64 := Fr.app N58 Nq64
  obtain ⟨_, _, ⟨T65, L65, k65, n65⟩, -, X65, ⟨Lc65, hQ65, l65, y65, z65⟩, st65⟩ := X64.specialBack hx (y := (⟨"com/example/brisk_sifter/brisksifter/Formula$Join", "<init>", "(ILcom/example/brisk_sifter/brisksifter/Formula$Operator;I)V"⟩ : MethodName)) rfl hown (mvT hZ (hw _ (List.mem_of_getElem? (i := 11) rfl))) (mvT hZ (hw _ (List.mem_of_getElem? (i := 12) rfl))) (mvT hZ (hw _ (List.mem_of_getElem? (i := 13) rfl))) (by decide) (backOf (W := 1) (rji l Z a0 hw [] b59 bl wB br h59 n0 Z59 A59 F59__left F59__operator F59__right gz59) hZ (hw _ (List.mem_of_getElem? (i := 13) rfl)) (hw _ (List.mem_of_getElem? (i := 3) rfl)) (by decide) (by decide)) (g := (mkF m 88 #[.val (.int l1), .val (.int r1), .val (.int o1), .val (.int l2), .val (.int r2), .val (.int sel), .val (.int ((o1 &&& (2147483647 : Int32)) % (6 : Int32))), .val (.int kb), .val (.int bl), .val (.int br), .val (.ref b56), .unset, .unset, .unset, .unset, .unset, .unset, .unset] [(.int br), (.ref wB), (.int bl), (.ref b59), (.ref b59)])) rfl (by rw [hml]; rfl) (Steps.refl _) (a := b59) (argsL := [(.int bl), (.ref wB), (.int br)]) (rest := [(.ref b59)]) (lenOf pd_2 rfl) rfl (by show 2 * 0 + _ ≤ _; exact Nat.le_of_eq rfl) (hb hby at_88) (fun _ _ => ⟨rfl, e64, (by decide : 2 + 0 ≤ _), (by decide : 6 + 0 ≤ _)⟩)
  dsimp only [Pt.U, Pt.locs, Pt.cells, Pt.slots] at X65 l65 y65 z65 st65 hQ65
  subst l65 y65 z65
  obtain ⟨rfl, Nq65, Kq65, G65_0, G65_1, G65_2, G65_3⟩ := hQ65
  have N65 := Fr.app N64 Nq65
  have F66 := F60.keep Kq65 (ninS ne_b56_b59 nin0)
  have F67 := F61.keep Kq65 (ninS ne_b56_b59 nin0)
  have F68 := F62.keep Kq65 (ninS ne_b56_b59 nin0)
  have E69 := E63.keep Kq65
  have Z65 := Nat.le_trans Z59 Kq65.1
  have Od65 := Od59.keep Kq65 (allS gz59 all0)
  obtain ⟨cq70, kq70, q70a, q70b, q70c⟩ := isOf hZ rfl E69
  obtain ⟨_, _, ⟨T70, L70, k70, n70⟩, -, X70, ⟨Lc70, hQ70, l70, y70, z70⟩, st70⟩ := X65.virtualBack hx (y := (⟨"com/example/brisk_sifter/brisksifter/Formula$Join", "equals", "(Ljava/lang/Object;)Z"⟩ : MethodName)) (z := (⟨"com/example/brisk_sifter/brisksifter/Formula$Join", "equals", "(Ljava/lang/Object;)Z"⟩ : MethodName)) hown (mvT hZ (hw _ (List.mem_of_getElem? (i := 30) rfl))) (mvT hZ (hw _ (List.mem_of_getElem? (i := 31) rfl))) (notFace_of_selects (args := #[]) (mvT hZ (hw _ (List.mem_of_getElem? (i := 33) rfl)))) (mvT hZ (hw _ (List.mem_of_getElem? (i := 33) rfl))) (mvT hZ (hw _ (List.mem_of_getElem? (i := 32) rfl))) (by decide) (backOf (W := 0) (req l Z a0 hw [] b56 b59 l1 wA r1 bl wB br r T65.heap n0 Z65 F66 F67 F68 G65_0 G65_1 G65_2 G65_3 hq1) hZ (hw _ (List.mem_of_getElem? (i := 34) rfl)) (hw _ (List.mem_of_getElem? (i := 3) rfl)) (by decide) (by decide)) q70a q70c (g := (mkF m 123 #[.val (.int l1), .val (.int r1), .val (.int o1), .val (.int l2), .val (.int r2), .val (.int sel), .val (.int ((o1 &&& (2147483647 : Int32)) % (6 : Int32))), .val (.int kb), .val (.int bl), .val (.int br), .val (.ref b56), .val (.ref b59), .val (.int r), .unset, .unset, .unset, .unset, .unset] [(.ref b59), (.ref b56)])) rfl (by rw [hml]; rfl) (Steps.refl _) (argsL := [(.ref b59)]) (rest := []) (lenOf pd_3 rfl) rfl (by show 2 * 0 + _ ≤ _; exact Nat.le_of_eq rfl) (hb hby at_123) (fun _ _ => ⟨rfl, rfl, (by decide : 2 + 0 ≤ _), (by decide : 6 + 0 ≤ _)⟩)
  dsimp only [Pt.U, Pt.locs, Pt.cells, Pt.slots] at X70 l70 y70 z70 st70 hQ70
  subst l70 y70 z70
  obtain ⟨rfl, Nq70, e70⟩ := hQ70
  have N70 := Fr.app N65 Nq70
  obtain ⟨cq71, kq71, q71a, q71b, q71c⟩ := isOf hZ e70 G65_0
  obtain ⟨_, _, ⟨T71, L71, k71, n71⟩, -, X71, ⟨Lc71, hQ71, l71, y71, z71⟩, st71⟩ := X70.virtualBack hx (y := (⟨"com/example/brisk_sifter/brisksifter/Formula$Join", "equals", "(Ljava/lang/Object;)Z"⟩ : MethodName)) (z := (⟨"com/example/brisk_sifter/brisksifter/Formula$Join", "equals", "(Ljava/lang/Object;)Z"⟩ : MethodName)) hown (mvT hZ (hw _ (List.mem_of_getElem? (i := 30) rfl))) (mvT hZ (hw _ (List.mem_of_getElem? (i := 31) rfl))) (notFace_of_selects (args := #[]) (mvT hZ (hw _ (List.mem_of_getElem? (i := 33) rfl)))) (mvT hZ (hw _ (List.mem_of_getElem? (i := 33) rfl))) (mvT hZ (hw _ (List.mem_of_getElem? (i := 32) rfl))) (by decide) (backOf (W := 0) (req l Z a0 hw [] b59 b56 bl wB br l1 wA r1 r T65.heap n0 Z65 G65_1 G65_2 G65_3 E69 F66 F67 F68 hq2) hZ (hw _ (List.mem_of_getElem? (i := 34) rfl)) (hw _ (List.mem_of_getElem? (i := 3) rfl)) (by decide) (by decide)) q71a q71c (g := (mkF m 132 #[.val (.int l1), .val (.int r1), .val (.int o1), .val (.int l2), .val (.int r2), .val (.int sel), .val (.int ((o1 &&& (2147483647 : Int32)) % (6 : Int32))), .val (.int kb), .val (.int bl), .val (.int br), .val (.ref b56), .val (.ref b59), .val (.int r), .val (.int r), .unset, .unset, .unset, .unset] [(.ref b56), (.ref b59)])) rfl (by rw [hml]; rfl) (Steps.refl _) (argsL := [(.ref b56)]) (rest := []) (lenOf pd_3 rfl) rfl (by show 2 * 0 + _ ≤ _; exact Nat.le_of_eq rfl) (hb hby at_132) (fun _ _ => ⟨rfl, e70, (by decide : 2 + 0 ≤ _), (by decide : 6 + 0 ≤ _)⟩)
  dsimp only [Pt.U, Pt.locs, Pt.cells, Pt.slots] at X71 l71 y71 z71 st71 hQ71
  subst l71 y71 z71
  obtain ⟨rfl, Nq71, e71⟩ := hQ71
  have N71 := Fr.app N70 Nq71
  obtain ⟨cq72, kq72, q72a, q72b, q72c⟩ := isOf hZ e71 E69
  obtain ⟨_, _, ⟨T72, L72, k72, n72⟩, -, X72, ⟨Lc72, hQ72, l72, y72, z72⟩, st72⟩ := X71.virtualBack hx (y := (⟨"com/example/brisk_sifter/brisksifter/Formula$Join", "equals", "(Ljava/lang/Object;)Z"⟩ : MethodName)) (z := (⟨"com/example/brisk_sifter/brisksifter/Formula$Join", "equals", "(Ljava/lang/Object;)Z"⟩ : MethodName)) hown (mvT hZ (hw _ (List.mem_of_getElem? (i := 30) rfl))) (mvT hZ (hw _ (List.mem_of_getElem? (i := 31) rfl))) (notFace_of_selects (args := #[]) (mvT hZ (hw _ (List.mem_of_getElem? (i := 33) rfl)))) (mvT hZ (hw _ (List.mem_of_getElem? (i := 33) rfl))) (mvT hZ (hw _ (List.mem_of_getElem? (i := 32) rfl))) (by decide) (backOf (W := 0) (req l Z a0 hw [] b56 b56 l1 wA r1 l1 wA r1 1 T65.heap n0 Z65 F66 F67 F68 E69 F66 F67 F68 (Or.inl ⟨rfl, rfl, rfl, rfl⟩)) hZ (hw _ (List.mem_of_getElem? (i := 34) rfl)) (hw _ (List.mem_of_getElem? (i := 3) rfl)) (by decide) (by decide)) q72a q72c (g := (mkF m 141 #[.val (.int l1), .val (.int r1), .val (.int o1), .val (.int l2), .val (.int r2), .val (.int sel), .val (.int ((o1 &&& (2147483647 : Int32)) % (6 : Int32))), .val (.int kb), .val (.int bl), .val (.int br), .val (.ref b56), .val (.ref b59), .val (.int r), .val (.int r), .val (.int r), .unset, .unset, .unset] [(.ref b56), (.ref b56)])) rfl (by rw [hml]; rfl) (Steps.refl _) (argsL := [(.ref b56)]) (rest := []) (lenOf pd_3 rfl) rfl (by show 2 * 0 + _ ≤ _; exact Nat.le_of_eq rfl) (hb hby at_141) (fun _ _ => ⟨rfl, e71, (by decide : 2 + 0 ≤ _), (by decide : 6 + 0 ≤ _)⟩)
  dsimp only [Pt.U, Pt.locs, Pt.cells, Pt.slots] at X72 l72 y72 z72 st72 hQ72
  subst l72 y72 z72
  obtain ⟨rfl, Nq72, e72⟩ := hQ72
  have N72 := Fr.app N71 Nq72
  obtain ⟨cq73, kq73, q73a, q73b, q73c⟩ := isOf hZ e72 E69
  obtain ⟨_, _, ⟨T73, L73, k73, n73⟩, -, X73, ⟨Lc73, hQ73, l73, y73, z73⟩, st73⟩ := X72.virtualBack hx (y := (⟨"com/example/brisk_sifter/brisksifter/Formula$Join", "equals", "(Ljava/lang/Object;)Z"⟩ : MethodName)) (z := (⟨"com/example/brisk_sifter/brisksifter/Formula$Join", "equals", "(Ljava/lang/Object;)Z"⟩ : MethodName)) hown (mvT hZ (hw _ (List.mem_of_getElem? (i := 30) rfl))) (mvT hZ (hw _ (List.mem_of_getElem? (i := 31) rfl))) (notFace_of_selects (args := #[]) (mvT hZ (hw _ (List.mem_of_getElem? (i := 33) rfl)))) (mvT hZ (hw _ (List.mem_of_getElem? (i := 33) rfl))) (mvT hZ (hw _ (List.mem_of_getElem? (i := 32) rfl))) (by decide) (backOf (W := 0) (rqn l Z a0 hw [] b56 T65.heap n0 Z65) hZ (hw _ (List.mem_of_getElem? (i := 34) rfl)) (hw _ (List.mem_of_getElem? (i := 3) rfl)) (by decide) (by decide)) q73a q73c (g := (mkF m 149 #[.val (.int l1), .val (.int r1), .val (.int o1), .val (.int l2), .val (.int r2), .val (.int sel), .val (.int ((o1 &&& (2147483647 : Int32)) % (6 : Int32))), .val (.int kb), .val (.int bl), .val (.int br), .val (.ref b56), .val (.ref b59), .val (.int r), .val (.int r), .val (.int r), .val (.int (1 : Int32)), .unset, .unset] [.null, (.ref b56)])) rfl (by rw [hml]; rfl) (Steps.refl _) (argsL := [.null]) (rest := []) (lenOf pd_3 rfl) rfl (by show 2 * 0 + _ ≤ _; exact Nat.le_of_eq rfl) (hb hby at_149) (fun _ _ => ⟨rfl, e72, (by decide : 2 + 0 ≤ _), (by decide : 6 + 0 ≤ _)⟩)
  dsimp only [Pt.U, Pt.locs, Pt.cells, Pt.slots] at X73 l73 y73 z73 st73 hQ73
  subst l73 y73 z73
  obtain ⟨rfl, Nq73, e73⟩ := hQ73
  have N73 := Fr.app N72 Nq73
  obtain ⟨T74, X74, e74, st74⟩ := getS2 X73 hx hZ hown (host := "") (Or.inl (hw _ (List.mem_of_getElem? (i := 37) rfl))) Via.refl e73 (St.ext Od65.2) (g := (mkF m 156 #[.val (.int l1), .val (.int r1), .val (.int o1), .val (.int l2), .val (.int r2), .val (.int sel), .val (.int ((o1 &&& (2147483647 : Int32)) % (6 : Int32))), .val (.int kb), .val (.int bl), .val (.int br), .val (.ref b56), .val (.ref b59), .val (.int r), .val (.int r), .val (.int r), .val (.int (1 : Int32)), .val (.int (0 : Int32)), .unset] [(.ref b56)])) rfl (hb hby at_156)
  obtain ⟨cq75, kq75, q75a, q75b, q75c⟩ := isOf hZ e74 E69
  obtain ⟨_, _, ⟨T75, L75, k75, n75⟩, -, X75, ⟨Lc75, hQ75, l75, y75, z75⟩, st75⟩ := X74.virtualBack hx (y := (⟨"com/example/brisk_sifter/brisksifter/Formula$Join", "equals", "(Ljava/lang/Object;)Z"⟩ : MethodName)) (z := (⟨"com/example/brisk_sifter/brisksifter/Formula$Join", "equals", "(Ljava/lang/Object;)Z"⟩ : MethodName)) hown (mvT hZ (hw _ (List.mem_of_getElem? (i := 30) rfl))) (mvT hZ (hw _ (List.mem_of_getElem? (i := 31) rfl))) (notFace_of_selects (args := #[]) (mvT hZ (hw _ (List.mem_of_getElem? (i := 33) rfl)))) (mvT hZ (hw _ (List.mem_of_getElem? (i := 33) rfl))) (mvT hZ (hw _ (List.mem_of_getElem? (i := 32) rfl))) (by decide) (backOf (W := 0) (rqt l Z a0 hw [] b56 tr T65.heap n0 Z65 (Et.ext Od65.2) hno) hZ (hw _ (List.mem_of_getElem? (i := 34) rfl)) (hw _ (List.mem_of_getElem? (i := 3) rfl)) (by decide) (by decide)) q75a q75c (g := (mkF m 159 #[.val (.int l1), .val (.int r1), .val (.int o1), .val (.int l2), .val (.int r2), .val (.int sel), .val (.int ((o1 &&& (2147483647 : Int32)) % (6 : Int32))), .val (.int kb), .val (.int bl), .val (.int br), .val (.ref b56), .val (.ref b59), .val (.int r), .val (.int r), .val (.int r), .val (.int (1 : Int32)), .val (.int (0 : Int32)), .unset] [(.ref tr), (.ref b56)])) rfl (by rw [hml]; rfl) (Steps.refl _) (argsL := [(.ref tr)]) (rest := []) (lenOf pd_3 rfl) rfl (by show 2 * 0 + _ ≤ _; exact Nat.le_of_eq rfl) (hb hby at_159) (fun _ _ => ⟨rfl, e74, (by decide : 2 + 0 ≤ _), (by decide : 6 + 0 ≤ _)⟩)
  dsimp only [Pt.U, Pt.locs, Pt.cells, Pt.slots] at X75 l75 y75 z75 st75 hQ75
  subst l75 y75 z75
  obtain ⟨rfl, Nq75, e75⟩ := hQ75
  have N75 := Fr.app N73 Nq75
  obtain ⟨fs, hr, hrun, hended, hW, hsame⟩ := X75.leave (v := some (.int (1 : Int32))) (fun h => by rw [Bd.returns] at h; cases h)
  refine ⟨_, _, pre0 _ ?_, hrun, hended, _, _, rfl, ?_, ⟨_, rfl⟩, hW, hsame.mono (by decide) (by decide)⟩
  · show Steps p.tables e below (s₁.setTop (mkF m 0 #[.val (.int l1), .val (.int r1), .val (.int o1), .val (.int l2), .val (.int r2), .val (.int sel), .unset, .unset, .unset, .unset, .unset, .unset, .unset, .unset, .unset, .unset, .unset, .unset] [])) _
    refine pA l1 r1 o1 l2 r2 sel kb bl br X0 hx hZ hw hby hown hkb hbl hbr _ ?_
    show Steps p.tables e below (s₁.setTop (mkF m 59 #[.val (.int l1), .val (.int r1), .val (.int o1), .val (.int l2), .val (.int r2), .val (.int sel), .val (.int ((o1 &&& (2147483647 : Int32)) % (6 : Int32))), .val (.int kb), .val (.int bl), .val (.int br), .unset, .unset, .unset, .unset, .unset, .unset, .unset, .unset] [])) _
    refine st56 _ ?_
    show Steps p.tables e below (T56.setTop (mkF m 62 #[.val (.int l1), .val (.int r1), .val (.int o1), .val (.int l2), .val (.int r2), .val (.int sel), .val (.int ((o1 &&& (2147483647 : Int32)) % (6 : Int32))), .val (.int kb), .val (.int bl), .val (.int br), .unset, .unset, .unset, .unset, .unset, .unset, .unset, .unset] [(.ref b56)])) _
    refine XS.dup X56.here hx rfl (hb hby at_62) rfl rfl ?_
    show Steps p.tables e below (T56.setTop (mkF m 63 #[.val (.int l1), .val (.int r1), .val (.int o1), .val (.int l2), .val (.int r2), .val (.int sel), .val (.int ((o1 &&& (2147483647 : Int32)) % (6 : Int32))), .val (.int kb), .val (.int bl), .val (.int br), .unset, .unset, .unset, .unset, .unset, .unset, .unset, .unset] [(.ref b56), (.ref b56)])) _
    refine XS.iloadN X56.here hx rfl (hb hby at_63) rfl ?_
    show Steps p.tables e below (T56.setTop (mkF m 64 #[.val (.int l1), .val (.int r1), .val (.int o1), .val (.int l2), .val (.int r2), .val (.int sel), .val (.int ((o1 &&& (2147483647 : Int32)) % (6 : Int32))), .val (.int kb), .val (.int bl), .val (.int br), .unset, .unset, .unset, .unset, .unset, .unset, .unset, .unset] [(.int l1), (.ref b56), (.ref b56)])) _
    refine XS.iload X56.here hx rfl (hb hby at_64) rfl ?_
    show Steps p.tables e below (T56.setTop (mkF m 66 #[.val (.int l1), .val (.int r1), .val (.int o1), .val (.int l2), .val (.int r2), .val (.int sel), .val (.int ((o1 &&& (2147483647 : Int32)) % (6 : Int32))), .val (.int kb), .val (.int bl), .val (.int br), .unset, .unset, .unset, .unset, .unset, .unset, .unset, .unset] [(.int ((o1 &&& (2147483647 : Int32)) % (6 : Int32))), (.int l1), (.ref b56), (.ref b56)])) _
    refine st57 _ ?_
    show Steps p.tables e below (T57.setTop (mkF m 69 #[.val (.int l1), .val (.int r1), .val (.int o1), .val (.int l2), .val (.int r2), .val (.int sel), .val (.int ((o1 &&& (2147483647 : Int32)) % (6 : Int32))), .val (.int kb), .val (.int bl), .val (.int br), .unset, .unset, .unset, .unset, .unset, .unset, .unset, .unset] [(.ref wA), (.int l1), (.ref b56), (.ref b56)])) _
    refine XS.iloadN X57.here hx rfl (hb hby at_69) rfl ?_
    show Steps p.tables e below (T57.setTop (mkF m 70 #[.val (.int l1), .val (.int r1), .val (.int o1), .val (.int l2), .val (.int r2), .val (.int sel), .val (.int ((o1 &&& (2147483647 : Int32)) % (6 : Int32))), .val (.int kb), .val (.int bl), .val (.int br), .unset, .unset, .unset, .unset, .unset, .unset, .unset, .unset] [(.int r1), (.ref wA), (.int l1), (.ref b56), (.ref b56)])) _
    refine st58.trans ?_
    show Steps p.tables e below (T58.setTop (mkF m 73 #[.val (.int l1), .val (.int r1), .val (.int o1), .val (.int l2), .val (.int r2), .val (.int sel), .val (.int ((o1 &&& (2147483647 : Int32)) % (6 : Int32))), .val (.int kb), .val (.int bl), .val (.int br), .unset, .unset, .unset, .unset, .unset, .unset, .unset, .unset] [(.ref b56)])) _
    refine XS.astore X58.here hx rfl (hb hby at_73) rfl rfl (l' := #[.val (.int l1), .val (.int r1), .val (.int o1), .val (.int l2), .val (.int r2), .val (.int sel), .val (.int ((o1 &&& (2147483647 : Int32)) % (6 : Int32))), .val (.int kb), .val (.int bl), .val (.int br), .val (.ref b56), .unset, .unset, .unset, .unset, .unset, .unset, .unset]) rfl ?_
    show Steps p.tables e below (T58.setTop (mkF m 75 #[.val (.int l1), .val (.int r1), .val (.int o1), .val (.int l2), .val (.int r2), .val (.int sel), .val (.int ((o1 &&& (2147483647 : Int32)) % (6 : Int32))), .val (.int kb), .val (.int bl), .val (.int br), .val (.ref b56), .unset, .unset, .unset, .unset, .unset, .unset, .unset] [])) _
    refine st59 _ ?_
    show Steps p.tables e below (T59.setTop (mkF m 78 #[.val (.int l1), .val (.int r1), .val (.int o1), .val (.int l2), .val (.int r2), .val (.int sel), .val (.int ((o1 &&& (2147483647 : Int32)) % (6 : Int32))), .val (.int kb), .val (.int bl), .val (.int br), .val (.ref b56), .unset, .unset, .unset, .unset, .unset, .unset, .unset] [(.ref b59)])) _
    refine XS.dup X59.here hx rfl (hb hby at_78) rfl rfl ?_
    show Steps p.tables e below (T59.setTop (mkF m 79 #[.val (.int l1), .val (.int r1), .val (.int o1), .val (.int l2), .val (.int r2), .val (.int sel), .val (.int ((o1 &&& (2147483647 : Int32)) % (6 : Int32))), .val (.int kb), .val (.int bl), .val (.int br), .val (.ref b56), .unset, .unset, .unset, .unset, .unset, .unset, .unset] [(.ref b59), (.ref b59)])) _
    refine XS.iload X59.here hx rfl (hb hby at_79) rfl ?_
    show Steps p.tables e below (T59.setTop (mkF m 81 #[.val (.int l1), .val (.int r1), .val (.int o1), .val (.int l2), .val (.int r2), .val (.int sel), .val (.int ((o1 &&& (2147483647 : Int32)) % (6 : Int32))), .val (.int kb), .val (.int bl), .val (.int br), .val (.ref b56), .unset, .unset, .unset, .unset, .unset, .unset, .unset] [(.int bl), (.ref b59), (.ref b59)])) _
    refine XS.iload X59.here hx rfl (hb hby at_81) rfl ?_
    show Steps p.tables e below (T59.setTop (mkF m 83 #[.val (.int l1), .val (.int r1), .val (.int o1), .val (.int l2), .val (.int r2), .val (.int sel), .val (.int ((o1 &&& (2147483647 : Int32)) % (6 : Int32))), .val (.int kb), .val (.int bl), .val (.int br), .val (.ref b56), .unset, .unset, .unset, .unset, .unset, .unset, .unset] [(.int kb), (.int bl), (.ref b59), (.ref b59)])) _
    refine st64 _ ?_
    show Steps p.tables e below (T64.setTop (mkF m 86 #[.val (.int l1), .val (.int r1), .val (.int o1), .val (.int l2), .val (.int r2), .val (.int sel), .val (.int ((o1 &&& (2147483647 : Int32)) % (6 : Int32))), .val (.int kb), .val (.int bl), .val (.int br), .val (.ref b56), .unset, .unset, .unset, .unset, .unset, .unset, .unset] [(.ref wB), (.int bl), (.ref b59), (.ref b59)])) _
    refine XS.iload X64.here hx rfl (hb hby at_86) rfl ?_
    show Steps p.tables e below (T64.setTop (mkF m 88 #[.val (.int l1), .val (.int r1), .val (.int o1), .val (.int l2), .val (.int r2), .val (.int sel), .val (.int ((o1 &&& (2147483647 : Int32)) % (6 : Int32))), .val (.int kb), .val (.int bl), .val (.int br), .val (.ref b56), .unset, .unset, .unset, .unset, .unset, .unset, .unset] [(.int br), (.ref wB), (.int bl), (.ref b59), (.ref b59)])) _
    refine st65.trans ?_
    show Steps p.tables e below (T65.setTop (mkF m 91 #[.val (.int l1), .val (.int r1), .val (.int o1), .val (.int l2), .val (.int r2), .val (.int sel), .val (.int ((o1 &&& (2147483647 : Int32)) % (6 : Int32))), .val (.int kb), .val (.int bl), .val (.int br), .val (.ref b56), .unset, .unset, .unset, .unset, .unset, .unset, .unset] [(.ref b59)])) _
    refine XS.astore X65.here hx rfl (hb hby at_91) rfl rfl (l' := #[.val (.int l1), .val (.int r1), .val (.int o1), .val (.int l2), .val (.int r2), .val (.int sel), .val (.int ((o1 &&& (2147483647 : Int32)) % (6 : Int32))), .val (.int kb), .val (.int bl), .val (.int br), .val (.ref b56), .val (.ref b59), .unset, .unset, .unset, .unset, .unset, .unset]) rfl ?_
    show Steps p.tables e below (T65.setTop (mkF m 93 #[.val (.int l1), .val (.int r1), .val (.int o1), .val (.int l2), .val (.int r2), .val (.int sel), .val (.int ((o1 &&& (2147483647 : Int32)) % (6 : Int32))), .val (.int kb), .val (.int bl), .val (.int br), .val (.ref b56), .val (.ref b59), .unset, .unset, .unset, .unset, .unset, .unset] [])) _
    refine pB l1 r1 o1 l2 r2 sel kb bl br b56 b59 r X65 hx hZ hw hby hown hxr _ ?_
    show Steps p.tables e below (T65.setTop (mkF m 119 #[.val (.int l1), .val (.int r1), .val (.int o1), .val (.int l2), .val (.int r2), .val (.int sel), .val (.int ((o1 &&& (2147483647 : Int32)) % (6 : Int32))), .val (.int kb), .val (.int bl), .val (.int br), .val (.ref b56), .val (.ref b59), .val (.int r), .unset, .unset, .unset, .unset, .unset] [])) _
    refine XS.aload X65.here hx rfl (hb hby at_119) rfl rfl ?_
    show Steps p.tables e below (T65.setTop (mkF m 121 #[.val (.int l1), .val (.int r1), .val (.int o1), .val (.int l2), .val (.int r2), .val (.int sel), .val (.int ((o1 &&& (2147483647 : Int32)) % (6 : Int32))), .val (.int kb), .val (.int bl), .val (.int br), .val (.ref b56), .val (.ref b59), .val (.int r), .unset, .unset, .unset, .unset, .unset] [(.ref b56)])) _
    refine XS.aload X65.here hx rfl (hb hby at_121) rfl rfl ?_
    show Steps p.tables e below (T65.setTop (mkF m 123 #[.val (.int l1), .val (.int r1), .val (.int o1), .val (.int l2), .val (.int r2), .val (.int sel), .val (.int ((o1 &&& (2147483647 : Int32)) % (6 : Int32))), .val (.int kb), .val (.int bl), .val (.int br), .val (.ref b56), .val (.ref b59), .val (.int r), .unset, .unset, .unset, .unset, .unset] [(.ref b59), (.ref b56)])) _
    refine st70.trans ?_
    show Steps p.tables e below (T70.setTop (mkF m 126 #[.val (.int l1), .val (.int r1), .val (.int o1), .val (.int l2), .val (.int r2), .val (.int sel), .val (.int ((o1 &&& (2147483647 : Int32)) % (6 : Int32))), .val (.int kb), .val (.int bl), .val (.int br), .val (.ref b56), .val (.ref b59), .val (.int r), .unset, .unset, .unset, .unset, .unset] [(.int r)])) _
    refine XS.istore X70.here hx rfl (hb hby at_126) rfl (l' := #[.val (.int l1), .val (.int r1), .val (.int o1), .val (.int l2), .val (.int r2), .val (.int sel), .val (.int ((o1 &&& (2147483647 : Int32)) % (6 : Int32))), .val (.int kb), .val (.int bl), .val (.int br), .val (.ref b56), .val (.ref b59), .val (.int r), .val (.int r), .unset, .unset, .unset, .unset]) rfl ?_
    show Steps p.tables e below (T70.setTop (mkF m 128 #[.val (.int l1), .val (.int r1), .val (.int o1), .val (.int l2), .val (.int r2), .val (.int sel), .val (.int ((o1 &&& (2147483647 : Int32)) % (6 : Int32))), .val (.int kb), .val (.int bl), .val (.int br), .val (.ref b56), .val (.ref b59), .val (.int r), .val (.int r), .unset, .unset, .unset, .unset] [])) _
    refine XS.aload X70.here hx rfl (hb hby at_128) rfl rfl ?_
    show Steps p.tables e below (T70.setTop (mkF m 130 #[.val (.int l1), .val (.int r1), .val (.int o1), .val (.int l2), .val (.int r2), .val (.int sel), .val (.int ((o1 &&& (2147483647 : Int32)) % (6 : Int32))), .val (.int kb), .val (.int bl), .val (.int br), .val (.ref b56), .val (.ref b59), .val (.int r), .val (.int r), .unset, .unset, .unset, .unset] [(.ref b59)])) _
    refine XS.aload X70.here hx rfl (hb hby at_130) rfl rfl ?_
    show Steps p.tables e below (T70.setTop (mkF m 132 #[.val (.int l1), .val (.int r1), .val (.int o1), .val (.int l2), .val (.int r2), .val (.int sel), .val (.int ((o1 &&& (2147483647 : Int32)) % (6 : Int32))), .val (.int kb), .val (.int bl), .val (.int br), .val (.ref b56), .val (.ref b59), .val (.int r), .val (.int r), .unset, .unset, .unset, .unset] [(.ref b56), (.ref b59)])) _
    refine st71.trans ?_
    show Steps p.tables e below (T71.setTop (mkF m 135 #[.val (.int l1), .val (.int r1), .val (.int o1), .val (.int l2), .val (.int r2), .val (.int sel), .val (.int ((o1 &&& (2147483647 : Int32)) % (6 : Int32))), .val (.int kb), .val (.int bl), .val (.int br), .val (.ref b56), .val (.ref b59), .val (.int r), .val (.int r), .unset, .unset, .unset, .unset] [(.int r)])) _
    refine XS.istore X71.here hx rfl (hb hby at_135) rfl (l' := #[.val (.int l1), .val (.int r1), .val (.int o1), .val (.int l2), .val (.int r2), .val (.int sel), .val (.int ((o1 &&& (2147483647 : Int32)) % (6 : Int32))), .val (.int kb), .val (.int bl), .val (.int br), .val (.ref b56), .val (.ref b59), .val (.int r), .val (.int r), .val (.int r), .unset, .unset, .unset]) rfl ?_
    show Steps p.tables e below (T71.setTop (mkF m 137 #[.val (.int l1), .val (.int r1), .val (.int o1), .val (.int l2), .val (.int r2), .val (.int sel), .val (.int ((o1 &&& (2147483647 : Int32)) % (6 : Int32))), .val (.int kb), .val (.int bl), .val (.int br), .val (.ref b56), .val (.ref b59), .val (.int r), .val (.int r), .val (.int r), .unset, .unset, .unset] [])) _
    refine XS.aload X71.here hx rfl (hb hby at_137) rfl rfl ?_
    show Steps p.tables e below (T71.setTop (mkF m 139 #[.val (.int l1), .val (.int r1), .val (.int o1), .val (.int l2), .val (.int r2), .val (.int sel), .val (.int ((o1 &&& (2147483647 : Int32)) % (6 : Int32))), .val (.int kb), .val (.int bl), .val (.int br), .val (.ref b56), .val (.ref b59), .val (.int r), .val (.int r), .val (.int r), .unset, .unset, .unset] [(.ref b56)])) _
    refine XS.aload X71.here hx rfl (hb hby at_139) rfl rfl ?_
    show Steps p.tables e below (T71.setTop (mkF m 141 #[.val (.int l1), .val (.int r1), .val (.int o1), .val (.int l2), .val (.int r2), .val (.int sel), .val (.int ((o1 &&& (2147483647 : Int32)) % (6 : Int32))), .val (.int kb), .val (.int bl), .val (.int br), .val (.ref b56), .val (.ref b59), .val (.int r), .val (.int r), .val (.int r), .unset, .unset, .unset] [(.ref b56), (.ref b56)])) _
    refine st72.trans ?_
    show Steps p.tables e below (T72.setTop (mkF m 144 #[.val (.int l1), .val (.int r1), .val (.int o1), .val (.int l2), .val (.int r2), .val (.int sel), .val (.int ((o1 &&& (2147483647 : Int32)) % (6 : Int32))), .val (.int kb), .val (.int bl), .val (.int br), .val (.ref b56), .val (.ref b59), .val (.int r), .val (.int r), .val (.int r), .unset, .unset, .unset] [(.int (1 : Int32))])) _
    refine XS.istore X72.here hx rfl (hb hby at_144) rfl (l' := #[.val (.int l1), .val (.int r1), .val (.int o1), .val (.int l2), .val (.int r2), .val (.int sel), .val (.int ((o1 &&& (2147483647 : Int32)) % (6 : Int32))), .val (.int kb), .val (.int bl), .val (.int br), .val (.ref b56), .val (.ref b59), .val (.int r), .val (.int r), .val (.int r), .val (.int (1 : Int32)), .unset, .unset]) rfl ?_
    show Steps p.tables e below (T72.setTop (mkF m 146 #[.val (.int l1), .val (.int r1), .val (.int o1), .val (.int l2), .val (.int r2), .val (.int sel), .val (.int ((o1 &&& (2147483647 : Int32)) % (6 : Int32))), .val (.int kb), .val (.int bl), .val (.int br), .val (.ref b56), .val (.ref b59), .val (.int r), .val (.int r), .val (.int r), .val (.int (1 : Int32)), .unset, .unset] [])) _
    refine XS.aload X72.here hx rfl (hb hby at_146) rfl rfl ?_
    show Steps p.tables e below (T72.setTop (mkF m 148 #[.val (.int l1), .val (.int r1), .val (.int o1), .val (.int l2), .val (.int r2), .val (.int sel), .val (.int ((o1 &&& (2147483647 : Int32)) % (6 : Int32))), .val (.int kb), .val (.int bl), .val (.int br), .val (.ref b56), .val (.ref b59), .val (.int r), .val (.int r), .val (.int r), .val (.int (1 : Int32)), .unset, .unset] [(.ref b56)])) _
    refine XS.aconstNull X72.here hx rfl (hb hby at_148) ?_
    show Steps p.tables e below (T72.setTop (mkF m 149 #[.val (.int l1), .val (.int r1), .val (.int o1), .val (.int l2), .val (.int r2), .val (.int sel), .val (.int ((o1 &&& (2147483647 : Int32)) % (6 : Int32))), .val (.int kb), .val (.int bl), .val (.int br), .val (.ref b56), .val (.ref b59), .val (.int r), .val (.int r), .val (.int r), .val (.int (1 : Int32)), .unset, .unset] [.null, (.ref b56)])) _
    refine st73.trans ?_
    show Steps p.tables e below (T73.setTop (mkF m 152 #[.val (.int l1), .val (.int r1), .val (.int o1), .val (.int l2), .val (.int r2), .val (.int sel), .val (.int ((o1 &&& (2147483647 : Int32)) % (6 : Int32))), .val (.int kb), .val (.int bl), .val (.int br), .val (.ref b56), .val (.ref b59), .val (.int r), .val (.int r), .val (.int r), .val (.int (1 : Int32)), .unset, .unset] [(.int (0 : Int32))])) _
    refine XS.istore X73.here hx rfl (hb hby at_152) rfl (l' := #[.val (.int l1), .val (.int r1), .val (.int o1), .val (.int l2), .val (.int r2), .val (.int sel), .val (.int ((o1 &&& (2147483647 : Int32)) % (6 : Int32))), .val (.int kb), .val (.int bl), .val (.int br), .val (.ref b56), .val (.ref b59), .val (.int r), .val (.int r), .val (.int r), .val (.int (1 : Int32)), .val (.int (0 : Int32)), .unset]) rfl ?_
    show Steps p.tables e below (T73.setTop (mkF m 154 #[.val (.int l1), .val (.int r1), .val (.int o1), .val (.int l2), .val (.int r2), .val (.int sel), .val (.int ((o1 &&& (2147483647 : Int32)) % (6 : Int32))), .val (.int kb), .val (.int bl), .val (.int br), .val (.ref b56), .val (.ref b59), .val (.int r), .val (.int r), .val (.int r), .val (.int (1 : Int32)), .val (.int (0 : Int32)), .unset] [])) _
    refine XS.aload X73.here hx rfl (hb hby at_154) rfl rfl ?_
    show Steps p.tables e below (T73.setTop (mkF m 156 #[.val (.int l1), .val (.int r1), .val (.int o1), .val (.int l2), .val (.int r2), .val (.int sel), .val (.int ((o1 &&& (2147483647 : Int32)) % (6 : Int32))), .val (.int kb), .val (.int bl), .val (.int br), .val (.ref b56), .val (.ref b59), .val (.int r), .val (.int r), .val (.int r), .val (.int (1 : Int32)), .val (.int (0 : Int32)), .unset] [(.ref b56)])) _
    refine st74 _ ?_
    show Steps p.tables e below (T74.setTop (mkF m 159 #[.val (.int l1), .val (.int r1), .val (.int o1), .val (.int l2), .val (.int r2), .val (.int sel), .val (.int ((o1 &&& (2147483647 : Int32)) % (6 : Int32))), .val (.int kb), .val (.int bl), .val (.int br), .val (.ref b56), .val (.ref b59), .val (.int r), .val (.int r), .val (.int r), .val (.int (1 : Int32)), .val (.int (0 : Int32)), .unset] [(.ref tr), (.ref b56)])) _
    refine st75.trans ?_
    show Steps p.tables e below (T75.setTop (mkF m 162 #[.val (.int l1), .val (.int r1), .val (.int o1), .val (.int l2), .val (.int r2), .val (.int sel), .val (.int ((o1 &&& (2147483647 : Int32)) % (6 : Int32))), .val (.int kb), .val (.int bl), .val (.int br), .val (.ref b56), .val (.ref b59), .val (.int r), .val (.int r), .val (.int r), .val (.int (1 : Int32)), .val (.int (0 : Int32)), .unset] [(.int (0 : Int32))])) _
    refine XS.istore X75.here hx rfl (hb hby at_162) rfl (l' := #[.val (.int l1), .val (.int r1), .val (.int o1), .val (.int l2), .val (.int r2), .val (.int sel), .val (.int ((o1 &&& (2147483647 : Int32)) % (6 : Int32))), .val (.int kb), .val (.int bl), .val (.int br), .val (.ref b56), .val (.ref b59), .val (.int r), .val (.int r), .val (.int r), .val (.int (1 : Int32)), .val (.int (0 : Int32)), .val (.int (0 : Int32))]) rfl ?_
    show Steps p.tables e below (T75.setTop (mkF m 164 #[.val (.int l1), .val (.int r1), .val (.int o1), .val (.int l2), .val (.int r2), .val (.int sel), .val (.int ((o1 &&& (2147483647 : Int32)) % (6 : Int32))), .val (.int kb), .val (.int bl), .val (.int br), .val (.ref b56), .val (.ref b59), .val (.int r), .val (.int r), .val (.int r), .val (.int (1 : Int32)), .val (.int (0 : Int32)), .val (.int (0 : Int32))] [])) _
    refine XS.iload X75.here hx rfl (hb hby at_164) rfl ?_
    show Steps p.tables e below (T75.setTop (mkF m 166 #[.val (.int l1), .val (.int r1), .val (.int o1), .val (.int l2), .val (.int r2), .val (.int sel), .val (.int ((o1 &&& (2147483647 : Int32)) % (6 : Int32))), .val (.int kb), .val (.int bl), .val (.int br), .val (.ref b56), .val (.ref b59), .val (.int r), .val (.int r), .val (.int r), .val (.int (1 : Int32)), .val (.int (0 : Int32)), .val (.int (0 : Int32))] [(.int r)])) _
    refine XS.iload X75.here hx rfl (hb hby at_166) rfl ?_
    show Steps p.tables e below (T75.setTop (mkF m 168 #[.val (.int l1), .val (.int r1), .val (.int o1), .val (.int l2), .val (.int r2), .val (.int sel), .val (.int ((o1 &&& (2147483647 : Int32)) % (6 : Int32))), .val (.int kb), .val (.int bl), .val (.int br), .val (.ref b56), .val (.ref b59), .val (.int r), .val (.int r), .val (.int r), .val (.int (1 : Int32)), .val (.int (0 : Int32)), .val (.int (0 : Int32))] [(.int r), (.int r)])) _
    refine XS.icmpNo X75.here hx rfl (hb hby at_168) rfl (teq rfl).2 ?_
    show Steps p.tables e below (T75.setTop (mkF m 171 #[.val (.int l1), .val (.int r1), .val (.int o1), .val (.int l2), .val (.int r2), .val (.int sel), .val (.int ((o1 &&& (2147483647 : Int32)) % (6 : Int32))), .val (.int kb), .val (.int bl), .val (.int br), .val (.ref b56), .val (.ref b59), .val (.int r), .val (.int r), .val (.int r), .val (.int (1 : Int32)), .val (.int (0 : Int32)), .val (.int (0 : Int32))] [])) _
    refine XS.iload X75.here hx rfl (hb hby at_171) rfl ?_
    show Steps p.tables e below (T75.setTop (mkF m 173 #[.val (.int l1), .val (.int r1), .val (.int o1), .val (.int l2), .val (.int r2), .val (.int sel), .val (.int ((o1 &&& (2147483647 : Int32)) % (6 : Int32))), .val (.int kb), .val (.int bl), .val (.int br), .val (.ref b56), .val (.ref b59), .val (.int r), .val (.int r), .val (.int r), .val (.int (1 : Int32)), .val (.int (0 : Int32)), .val (.int (0 : Int32))] [(.int r)])) _
    refine XS.iload X75.here hx rfl (hb hby at_173) rfl ?_
    show Steps p.tables e below (T75.setTop (mkF m 175 #[.val (.int l1), .val (.int r1), .val (.int o1), .val (.int l2), .val (.int r2), .val (.int sel), .val (.int ((o1 &&& (2147483647 : Int32)) % (6 : Int32))), .val (.int kb), .val (.int bl), .val (.int br), .val (.ref b56), .val (.ref b59), .val (.int r), .val (.int r), .val (.int r), .val (.int (1 : Int32)), .val (.int (0 : Int32)), .val (.int (0 : Int32))] [(.int r), (.int r)])) _
    refine XS.icmpNo X75.here hx rfl (hb hby at_175) rfl (teq rfl).2 ?_
    show Steps p.tables e below (T75.setTop (mkF m 178 #[.val (.int l1), .val (.int r1), .val (.int o1), .val (.int l2), .val (.int r2), .val (.int sel), .val (.int ((o1 &&& (2147483647 : Int32)) % (6 : Int32))), .val (.int kb), .val (.int bl), .val (.int br), .val (.ref b56), .val (.ref b59), .val (.int r), .val (.int r), .val (.int r), .val (.int (1 : Int32)), .val (.int (0 : Int32)), .val (.int (0 : Int32))] [])) _
    refine XS.iload X75.here hx rfl (hb hby at_178) rfl ?_
    show Steps p.tables e below (T75.setTop (mkF m 180 #[.val (.int l1), .val (.int r1), .val (.int o1), .val (.int l2), .val (.int r2), .val (.int sel), .val (.int ((o1 &&& (2147483647 : Int32)) % (6 : Int32))), .val (.int kb), .val (.int bl), .val (.int br), .val (.ref b56), .val (.ref b59), .val (.int r), .val (.int r), .val (.int r), .val (.int (1 : Int32)), .val (.int (0 : Int32)), .val (.int (0 : Int32))] [(.int (1 : Int32))])) _
    refine XS.ifNo X75.here hx rfl (hb hby at_180) rfl ((if0 _ _).trans (feq (by decide)).1) ?_
    show Steps p.tables e below (T75.setTop (mkF m 183 #[.val (.int l1), .val (.int r1), .val (.int o1), .val (.int l2), .val (.int r2), .val (.int sel), .val (.int ((o1 &&& (2147483647 : Int32)) % (6 : Int32))), .val (.int kb), .val (.int bl), .val (.int br), .val (.ref b56), .val (.ref b59), .val (.int r), .val (.int r), .val (.int r), .val (.int (1 : Int32)), .val (.int (0 : Int32)), .val (.int (0 : Int32))] [])) _
    refine XS.iload X75.here hx rfl (hb hby at_183) rfl ?_
    show Steps p.tables e below (T75.setTop (mkF m 185 #[.val (.int l1), .val (.int r1), .val (.int o1), .val (.int l2), .val (.int r2), .val (.int sel), .val (.int ((o1 &&& (2147483647 : Int32)) % (6 : Int32))), .val (.int kb), .val (.int bl), .val (.int br), .val (.ref b56), .val (.ref b59), .val (.int r), .val (.int r), .val (.int r), .val (.int (1 : Int32)), .val (.int (0 : Int32)), .val (.int (0 : Int32))] [(.int (0 : Int32))])) _
    refine XS.ifNo X75.here hx rfl (hb hby at_185) rfl ((if0 _ _).trans (teq (by decide)).2) ?_
    show Steps p.tables e below (T75.setTop (mkF m 188 #[.val (.int l1), .val (.int r1), .val (.int o1), .val (.int l2), .val (.int r2), .val (.int sel), .val (.int ((o1 &&& (2147483647 : Int32)) % (6 : Int32))), .val (.int kb), .val (.int bl), .val (.int br), .val (.ref b56), .val (.ref b59), .val (.int r), .val (.int r), .val (.int r), .val (.int (1 : Int32)), .val (.int (0 : Int32)), .val (.int (0 : Int32))] [])) _
    refine XS.iload X75.here hx rfl (hb hby at_188) rfl ?_
    show Steps p.tables e below (T75.setTop (mkF m 190 #[.val (.int l1), .val (.int r1), .val (.int o1), .val (.int l2), .val (.int r2), .val (.int sel), .val (.int ((o1 &&& (2147483647 : Int32)) % (6 : Int32))), .val (.int kb), .val (.int bl), .val (.int br), .val (.ref b56), .val (.ref b59), .val (.int r), .val (.int r), .val (.int r), .val (.int (1 : Int32)), .val (.int (0 : Int32)), .val (.int (0 : Int32))] [(.int (0 : Int32))])) _
    refine XS.ifNo X75.here hx rfl (hb hby at_190) rfl ((if0 _ _).trans (teq (by decide)).2) ?_
    show Steps p.tables e below (T75.setTop (mkF m 193 #[.val (.int l1), .val (.int r1), .val (.int o1), .val (.int l2), .val (.int r2), .val (.int sel), .val (.int ((o1 &&& (2147483647 : Int32)) % (6 : Int32))), .val (.int kb), .val (.int bl), .val (.int br), .val (.ref b56), .val (.ref b59), .val (.int r), .val (.int r), .val (.int r), .val (.int (1 : Int32)), .val (.int (0 : Int32)), .val (.int (0 : Int32))] [])) _
    refine XS.iconst X75.here hx rfl (hb hby at_193) ?_
    show Steps p.tables e below (T75.setTop (mkF m 194 #[.val (.int l1), .val (.int r1), .val (.int o1), .val (.int l2), .val (.int r2), .val (.int sel), .val (.int ((o1 &&& (2147483647 : Int32)) % (6 : Int32))), .val (.int kb), .val (.int bl), .val (.int br), .val (.ref b56), .val (.ref b59), .val (.int r), .val (.int r), .val (.int r), .val (.int (1 : Int32)), .val (.int (0 : Int32)), .val (.int (0 : Int32))] [(.int (1 : Int32))])) _
    refine XS.goto X75.here hx rfl (pc0 := 194) (pc' := 198) rfl (hb hby at_194) (by decide) (by decide) ?_
    show Steps p.tables e below (T75.setTop (mkF m 198 #[.val (.int l1), .val (.int r1), .val (.int o1), .val (.int l2), .val (.int r2), .val (.int sel), .val (.int ((o1 &&& (2147483647 : Int32)) % (6 : Int32))), .val (.int kb), .val (.int bl), .val (.int br), .val (.ref b56), .val (.ref b59), .val (.int r), .val (.int r), .val (.int r), .val (.int (1 : Int32)), .val (.int (0 : Int32)), .val (.int (0 : Int32))] [(.int (1 : Int32))])) _
    exact retN X75 hx (t := .boolean) Bd.returns (by simp) (hb hby at_198) hr
  · show QL n0 _ T75.heap _
    rw [e75]
    exact ⟨rfl, N75⟩
def pickw (k : Int32) (w0 w1 w2 w3 w4 w5 : Addr) : Addr := if k = 0 then w0 else if k = 1 then w1 else if k = 2 then w2 else if k = 3 then w3 else if k = 4 then w4 else w5
theorem opw {Z : State} {h0 : Heap} {a_EQUAL a_NOT_EQUAL a_LESS a_LESS_OR_EQUAL a_GREATER a_GREATER_OR_EQUAL : Addr} (S_EQUAL : Sta Z h0 "com/example/brisk_sifter/brisksifter/Formula$Operator" "EQUAL" "Lcom/example/brisk_sifter/brisksifter/Formula$Operator;" (.ref a_EQUAL)) (O_EQUAL : Fld Z h0 a_EQUAL "java/lang/Enum" "ordinal" "I" (.int (0 : Int32))) (S_NOT_EQUAL : Sta Z h0 "com/example/brisk_sifter/brisksifter/Formula$Operator" "NOT_EQUAL" "Lcom/example/brisk_sifter/brisksifter/Formula$Operator;" (.ref a_NOT_EQUAL)) (O_NOT_EQUAL : Fld Z h0 a_NOT_EQUAL "java/lang/Enum" "ordinal" "I" (.int (1 : Int32))) (S_LESS : Sta Z h0 "com/example/brisk_sifter/brisksifter/Formula$Operator" "LESS" "Lcom/example/brisk_sifter/brisksifter/Formula$Operator;" (.ref a_LESS)) (O_LESS : Fld Z h0 a_LESS "java/lang/Enum" "ordinal" "I" (.int (2 : Int32))) (S_LESS_OR_EQUAL : Sta Z h0 "com/example/brisk_sifter/brisksifter/Formula$Operator" "LESS_OR_EQUAL" "Lcom/example/brisk_sifter/brisksifter/Formula$Operator;" (.ref a_LESS_OR_EQUAL)) (O_LESS_OR_EQUAL : Fld Z h0 a_LESS_OR_EQUAL "java/lang/Enum" "ordinal" "I" (.int (3 : Int32))) (S_GREATER : Sta Z h0 "com/example/brisk_sifter/brisksifter/Formula$Operator" "GREATER" "Lcom/example/brisk_sifter/brisksifter/Formula$Operator;" (.ref a_GREATER)) (O_GREATER : Fld Z h0 a_GREATER "java/lang/Enum" "ordinal" "I" (.int (4 : Int32))) (S_GREATER_OR_EQUAL : Sta Z h0 "com/example/brisk_sifter/brisksifter/Formula$Operator" "GREATER_OR_EQUAL" "Lcom/example/brisk_sifter/brisksifter/Formula$Operator;" (.ref a_GREATER_OR_EQUAL)) (O_GREATER_OR_EQUAL : Fld Z h0 a_GREATER_OR_EQUAL "java/lang/Enum" "ordinal" "I" (.int (5 : Int32))) {k : Int32} (hk : k = 0 ∨ k = 1 ∨ k = 2 ∨ k = 3 ∨ k = 4 ∨ k = 5) : OpW Z h0 k (pickw k a_EQUAL a_NOT_EQUAL a_LESS a_LESS_OR_EQUAL a_GREATER a_GREATER_OR_EQUAL) ∧ Fld Z h0 (pickw k a_EQUAL a_NOT_EQUAL a_LESS a_LESS_OR_EQUAL a_GREATER a_GREATER_OR_EQUAL) "java/lang/Enum" "ordinal" "I" (.int k) := by
  rcases hk with rfl | rfl | rfl | rfl | rfl | rfl
  · rw [show pickw (0 : Int32) a_EQUAL a_NOT_EQUAL a_LESS a_LESS_OR_EQUAL a_GREATER a_GREATER_OR_EQUAL = a_EQUAL from by simp [pickw]]
    exact ⟨Or.inl ⟨rfl, S_EQUAL⟩, O_EQUAL⟩
  · rw [show pickw (1 : Int32) a_EQUAL a_NOT_EQUAL a_LESS a_LESS_OR_EQUAL a_GREATER a_GREATER_OR_EQUAL = a_NOT_EQUAL from by simp [pickw]]
    exact ⟨Or.inr (Or.inl ⟨rfl, S_NOT_EQUAL⟩), O_NOT_EQUAL⟩
  · rw [show pickw (2 : Int32) a_EQUAL a_NOT_EQUAL a_LESS a_LESS_OR_EQUAL a_GREATER a_GREATER_OR_EQUAL = a_LESS from by simp [pickw]]
    exact ⟨Or.inr (Or.inr (Or.inl ⟨rfl, S_LESS⟩)), O_LESS⟩
  · rw [show pickw (3 : Int32) a_EQUAL a_NOT_EQUAL a_LESS a_LESS_OR_EQUAL a_GREATER a_GREATER_OR_EQUAL = a_LESS_OR_EQUAL from by simp [pickw]]
    exact ⟨Or.inr (Or.inr (Or.inr (Or.inl ⟨rfl, S_LESS_OR_EQUAL⟩))), O_LESS_OR_EQUAL⟩
  · rw [show pickw (4 : Int32) a_EQUAL a_NOT_EQUAL a_LESS a_LESS_OR_EQUAL a_GREATER a_GREATER_OR_EQUAL = a_GREATER from by simp [pickw]]
    exact ⟨Or.inr (Or.inr (Or.inr (Or.inr (Or.inl ⟨rfl, S_GREATER⟩)))), O_GREATER⟩
  · rw [show pickw (5 : Int32) a_EQUAL a_NOT_EQUAL a_LESS a_LESS_OR_EQUAL a_GREATER a_GREATER_OR_EQUAL = a_GREATER_OR_EQUAL from by simp [pickw]]
    exact ⟨Or.inr (Or.inr (Or.inr (Or.inr (Or.inr (⟨rfl, S_GREATER_OR_EQUAL⟩))))), O_GREATER_OR_EQUAL⟩
theorem six {k : Int32} (h0 : 0 ≤ k.toInt) (h6 : k.toInt < 6) : k = 0 ∨ k = 1 ∨ k = 2 ∨ k = 3 ∨ k = 4 ∨ k = 5 := by
  have h4 : k.toInt = 0 ∨ k.toInt = 1 ∨ k.toInt = 2 ∨ k.toInt = 3 ∨ k.toInt = 4 ∨ k.toInt = 5 := by omega
  simp only [← Int32.toInt_inj]
  exact h4
theorem kaR (o1 : Int32) : 0 ≤ ((o1 &&& (2147483647 : Int32)) % (6 : Int32)).toInt ∧ ((o1 &&& (2147483647 : Int32)) % (6 : Int32)).toInt < 6 := by
  have h1 := c_and o1 2147483647 (by decide)
  have h2 := (c_iremV (o1 &&& (2147483647 : Int32)) 6).1 h1.1 (by decide)
  have h3 : (6 : Int32).toInt = 6 := by decide
  rw [h3] at h2
  exact ⟨h2.1, h2.2.1⟩
theorem kbR (sel : Int32) : 0 ≤ (((sel.toUInt32 >>> ((3 : Int32) &&& 31).toUInt32).toInt32) % (6 : Int32)).toInt ∧ (((sel.toUInt32 >>> ((3 : Int32) &&& 31).toUInt32).toInt32) % (6 : Int32)).toInt < 6 := by
  have h1 := c_iushr sel 3 3 (by decide) (by decide)
  have h0 : 0 ≤ (((sel.toUInt32 >>> ((3 : Int32) &&& 31).toUInt32).toInt32)).toInt := by rw [h1]; omega
  have h2 := (c_iremV ((sel.toUInt32 >>> ((3 : Int32) &&& 31).toUInt32).toInt32) 6).1 h0 (by decide)
  have h3 : (6 : Int32).toInt = 6 := by decide
  rw [h3] at h2
  exact ⟨h2.1, h2.2.1⟩
theorem rm0 (l : Launch) (Z : State) (a0 : Array Value) (hw : ∀ d ∈ tables_1, d.before a0 Z = true) (ws : List Jvm.Cond) (l1 r1 o1 l2 r2 sel : Int32) (a_EQUAL a_NOT_EQUAL a_LESS a_LESS_OR_EQUAL a_GREATER a_GREATER_OR_EQUAL tr : Addr) (h0 : Heap) (n0 : Nat) (Z0 : n0 ≤ h0.size) (Od0 : Old Z n0 h0) (S_EQUAL : Sta Z Z.heap "com/example/brisk_sifter/brisksifter/Formula$Operator" "EQUAL" "Lcom/example/brisk_sifter/brisksifter/Formula$Operator;" (.ref a_EQUAL)) (O_EQUAL : Fld Z Z.heap a_EQUAL "java/lang/Enum" "ordinal" "I" (.int (0 : Int32))) (S_NOT_EQUAL : Sta Z Z.heap "com/example/brisk_sifter/brisksifter/Formula$Operator" "NOT_EQUAL" "Lcom/example/brisk_sifter/brisksifter/Formula$Operator;" (.ref a_NOT_EQUAL)) (O_NOT_EQUAL : Fld Z Z.heap a_NOT_EQUAL "java/lang/Enum" "ordinal" "I" (.int (1 : Int32))) (S_LESS : Sta Z Z.heap "com/example/brisk_sifter/brisksifter/Formula$Operator" "LESS" "Lcom/example/brisk_sifter/brisksifter/Formula$Operator;" (.ref a_LESS)) (O_LESS : Fld Z Z.heap a_LESS "java/lang/Enum" "ordinal" "I" (.int (2 : Int32))) (S_LESS_OR_EQUAL : Sta Z Z.heap "com/example/brisk_sifter/brisksifter/Formula$Operator" "LESS_OR_EQUAL" "Lcom/example/brisk_sifter/brisksifter/Formula$Operator;" (.ref a_LESS_OR_EQUAL)) (O_LESS_OR_EQUAL : Fld Z Z.heap a_LESS_OR_EQUAL "java/lang/Enum" "ordinal" "I" (.int (3 : Int32))) (S_GREATER : Sta Z Z.heap "com/example/brisk_sifter/brisksifter/Formula$Operator" "GREATER" "Lcom/example/brisk_sifter/brisksifter/Formula$Operator;" (.ref a_GREATER)) (O_GREATER : Fld Z Z.heap a_GREATER "java/lang/Enum" "ordinal" "I" (.int (4 : Int32))) (S_GREATER_OR_EQUAL : Sta Z Z.heap "com/example/brisk_sifter/brisksifter/Formula$Operator" "GREATER_OR_EQUAL" "Lcom/example/brisk_sifter/brisksifter/Formula$Operator;" (.ref a_GREATER_OR_EQUAL)) (O_GREATER_OR_EQUAL : Fld Z Z.heap a_GREATER_OR_EQUAL "java/lang/Enum" "ordinal" "I" (.int (5 : Int32))) (St : Sta Z Z.heap "com/example/brisk_sifter/brisksifter/Formula" "TRUE" "Lcom/example/brisk_sifter/brisksifter/Formula;" (.ref tr)) (Et : Exa Z Z.heap tr "com/example/brisk_sifter/brisksifter/Formula$All") (hno : ∃ c t, Z.vm.findClass "com/example/brisk_sifter/brisksifter/Formula$All" = some c ∧ Z.vm.findClass "com/example/brisk_sifter/brisksifter/Formula$Join" = some t ∧ Z.vm.assignable c t = false) :
    MetFree l x (head1 (Jvm.Cond.code x code maxLocals ret :: ws) room_1) (fun zA zU => zA = #[(.int l1), (.int r1), (.int o1), (.int l2), (.int r2), (.int sel)] ∧ Z.Warmed39 zU.vm ∧ zU.heap = h0) (fun _ _ _ _ _ => True) (fun _ zU zO zW => ∃ zV zL, zO = .returned zV ∧ QL n0 zV zW.heap zL ∧ FrameEnd zU zO zW zL room_1.cells room_1.slots) := by
  have vne : ∀ {i j : Int32}, ¬ (i = j) → (Value.int i) ≠ (Value.int j) := fun h q => h (Value.int.inj q)
  obtain ⟨kb, hkb⟩ : ∃ kb, (((sel &&& (4 : Int32)) = (0 : Int32)) ∧ kb = (((sel.toUInt32 >>> ((3 : Int32) &&& 31).toUInt32).toInt32) % (6 : Int32))) ∨ (¬ ((sel &&& (4 : Int32)) = (0 : Int32)) ∧ kb = ((o1 &&& (2147483647 : Int32)) % (6 : Int32))) := by
    by_cases h : (sel &&& (4 : Int32)) = (0 : Int32)
    · exact ⟨_, Or.inl ⟨h, rfl⟩⟩
    · exact ⟨_, Or.inr ⟨h, rfl⟩⟩
  obtain ⟨bl, hbl⟩ : ∃ bl, (((sel &&& (1 : Int32)) = (0 : Int32)) ∧ bl = l2) ∨ (¬ ((sel &&& (1 : Int32)) = (0 : Int32)) ∧ bl = l1) := by
    by_cases h : (sel &&& (1 : Int32)) = (0 : Int32)
    · exact ⟨_, Or.inl ⟨h, rfl⟩⟩
    · exact ⟨_, Or.inr ⟨h, rfl⟩⟩
  obtain ⟨br, hbr⟩ : ∃ br, (((sel &&& (2 : Int32)) = (0 : Int32)) ∧ br = r2) ∨ (¬ ((sel &&& (2 : Int32)) = (0 : Int32)) ∧ br = r1) := by
    by_cases h : (sel &&& (2 : Int32)) = (0 : Int32)
    · exact ⟨_, Or.inl ⟨h, rfl⟩⟩
    · exact ⟨_, Or.inr ⟨h, rfl⟩⟩
  have bR : 0 ≤ kb.toInt ∧ kb.toInt < 6 := by
    rcases hkb with ⟨-, rfl⟩ | ⟨-, rfl⟩
    · exact kbR sel
    · exact kaR o1
  have oA := opw S_EQUAL O_EQUAL S_NOT_EQUAL O_NOT_EQUAL S_LESS O_LESS S_LESS_OR_EQUAL O_LESS_OR_EQUAL S_GREATER O_GREATER S_GREATER_OR_EQUAL O_GREATER_OR_EQUAL (six (kaR o1).1 (kaR o1).2)
  have oB := opw S_EQUAL O_EQUAL S_NOT_EQUAL O_NOT_EQUAL S_LESS O_LESS S_LESS_OR_EQUAL O_LESS_OR_EQUAL S_GREATER O_GREATER S_GREATER_OR_EQUAL O_GREATER_OR_EQUAL (six bR.1 bR.2)
  by_cases h1 : l1 = bl
  · by_cases h2 : ((o1 &&& (2147483647 : Int32)) % (6 : Int32)) = kb
    · have ew : pickw ((o1 &&& (2147483647 : Int32)) % (6 : Int32)) a_EQUAL a_NOT_EQUAL a_LESS a_LESS_OR_EQUAL a_GREATER a_GREATER_OR_EQUAL = pickw kb a_EQUAL a_NOT_EQUAL a_LESS a_LESS_OR_EQUAL a_GREATER a_GREATER_OR_EQUAL := by rw [h2]
      by_cases h3 : r1 = br
      · exact rm0a l Z a0 hw ws l1 r1 o1 l2 r2 sel kb bl br 1 _ _ tr h0 n0 Z0 hkb hbl hbr Od0 oA.1 oB.1 (Or.inr (Or.inr (Or.inr ⟨h1, h2, h3, rfl⟩))) (Or.inl ⟨h1, ew, h3, rfl⟩) (Or.inl ⟨h1.symm, ew.symm, h3.symm, rfl⟩) St Et hno
      · exact rm0a l Z a0 hw ws l1 r1 o1 l2 r2 sel kb bl br 0 _ _ tr h0 n0 Z0 hkb hbl hbr Od0 oA.1 oB.1 (Or.inr (Or.inr (Or.inl ⟨h1, h2, h3, rfl⟩))) (Or.inr (Or.inr (Or.inr ⟨h1, ew, h3, rfl⟩))) (Or.inr (Or.inr (Or.inr ⟨h1.symm, ew.symm, fun q => h3 q.symm, rfl⟩))) St Et hno
    · have ew := Fld.ne oA.2 oB.2 (vne h2)
      exact rm0a l Z a0 hw ws l1 r1 o1 l2 r2 sel kb bl br 0 _ _ tr h0 n0 Z0 hkb hbl hbr Od0 oA.1 oB.1 (Or.inr (Or.inl ⟨h1, h2, rfl⟩)) (Or.inr (Or.inr (Or.inl ⟨h1, ew, rfl⟩))) (Or.inr (Or.inr (Or.inl ⟨h1.symm, fun q => ew q.symm, rfl⟩))) St Et hno
  · exact rm0a l Z a0 hw ws l1 r1 o1 l2 r2 sel kb bl br 0 _ _ tr h0 n0 Z0 hkb hbl hbr Od0 oA.1 oB.1 (Or.inl ⟨h1, rfl⟩) (Or.inr (Or.inl ⟨h1, rfl⟩)) (Or.inr (Or.inl ⟨fun q => h1 q.symm, rfl⟩)) St Et hno
set_option maxRecDepth 65536 in
set_option maxHeartbeats 40000000 in
theorem comes_1 {Post : Tables → Env → Array Value → State → Outcome → State → Prop} (hpost : ∀ tb e args s v u, (limb_1_1.after args s (.returned v) u = true ∧ limb_1_2.after args s (.returned v) u = true ∧ True) → FrameEnd s (.returned v) u (Jvm.fieldLocs frame_1_writes args s ++ Jvm.arrayLocs frame_1_arrays args s ++ Jvm.staticLocs frame_1_statics s) 16 128 → Post tb e args s (.returned v) u) :
    ArmFor flags0 classFile x code maxLocals ret World_1 tables_1 room_1 Calls_1 rest_1 Pre_1 Post := by
  intro l hfl _ _ p e ha hc hk s m args below hf hA hF happ hP
  obtain ⟨hcalls, hrest, hpre⟩ := hP
  obtain ⟨-, -, -, hnamed, -, -, -, hat⟩ := (Spec.applies_iff hf).mp happ
  obtain ⟨hg, hn⟩ := and_e (Cond.before_iff.mp (show (Jvm.Cond.and given_1 narrow_1).before args s = true from hpre))
  obtain ⟨gc, hg⟩ := and_e hg
  obtain ⟨ga0, hg⟩ := and_e hg
  obtain ⟨ga1, hg⟩ := and_e hg
  obtain ⟨ga2, hg⟩ := and_e hg
  obtain ⟨ga3, hg⟩ := and_e hg
  obtain ⟨ga4, hg⟩ := and_e hg
  have ga5 := hg
  obtain ⟨w0, w1, w2, w3, w4, w5, rfl⟩ : ∃ w0 w1 w2 w3 w4 w5 : Value, args = #[w0, w1, w2, w3, w4, w5] := by
    have hs : args.size = 6 := by simpa [Cond.value, given_1] using gc
    obtain ⟨L⟩ := args
    match L, hs with
    | [w0, w1, w2, w3, w4, w5], _ => exact ⟨w0, w1, w2, w3, w4, w5, rfl⟩
  have hw := fun d (hd : d ∈ tables_1) => atoms_spec (ws := Jvm.Cond.code x code maxLocals ret :: tables_1) hat d (List.mem_cons_of_mem _ hd)
  have hfit : Fit s := fun {y c} hc i hi => by
    obtain ⟨ha, rfl⟩ := Array.getElem?_eq_some_iff.mp hc
    have q := List.all_eq_true.mp ((Array.all_eq_true_iff_forall_mem.mp hF) _ (Array.getElem_mem ha)) i (List.mem_range.mpr hi)
    simpa [Array.getElem?_eq_getElem hi] using q
  obtain ⟨i0, ei0⟩ := is_v ga0
  obtain rfl : w0 = (.int i0) := Option.some.inj ei0
  obtain ⟨i1, ei1⟩ := is_v ga1
  obtain rfl : w1 = (.int i1) := Option.some.inj ei1
  obtain ⟨i2, ei2⟩ := is_v ga2
  obtain rfl : w2 = (.int i2) := Option.some.inj ei2
  obtain ⟨i3, ei3⟩ := is_v ga3
  obtain rfl : w3 = (.int i3) := Option.some.inj ei3
  obtain ⟨i4, ei4⟩ := is_v ga4
  obtain rfl : w4 = (.int i4) := Option.some.inj ei4
  obtain ⟨i5, ei5⟩ := is_v ga5
  obtain rfl : w5 = (.int i5) := Option.some.inj ei5
  obtain ⟨n0, hn⟩ := and_e hn
  obtain ⟨n1, hn⟩ := and_e hn
  obtain ⟨n2, hn⟩ := and_e hn
  obtain ⟨n3, hn⟩ := and_e hn
  obtain ⟨n4, hn⟩ := and_e hn
  obtain ⟨n5, hn⟩ := and_e hn
  obtain ⟨n6, hn⟩ := and_e hn
  obtain ⟨n7, hn⟩ := and_e hn
  obtain ⟨n8, hn⟩ := and_e hn
  obtain ⟨n9, hn⟩ := and_e hn
  obtain ⟨n10, hn⟩ := and_e hn
  obtain ⟨n11, hn⟩ := and_e hn
  have n12 := hn
  obtain ⟨a_LESS, ev_LESS⟩ := exa_v n0
  have E_LESS := Exa.start ev_LESS n0
  have S_LESS := Sta.start ev_LESS (Or.inr ⟨(hw _ (List.mem_of_getElem? (i := 9) rfl)), (hw _ (List.mem_of_getElem? (i := 10) rfl))⟩)
  obtain ⟨a_EQUAL, ev_EQUAL⟩ := exa_v n1
  have E_EQUAL := Exa.start ev_EQUAL n1
  have S_EQUAL := Sta.start ev_EQUAL (Or.inr ⟨(hw _ (List.mem_of_getElem? (i := 9) rfl)), (hw _ (List.mem_of_getElem? (i := 29) rfl))⟩)
  obtain ⟨a_TRUE, ev_TRUE⟩ := exa_v n4
  have E_TRUE := Exa.start ev_TRUE n4
  have S_TRUE := Sta.start ev_TRUE (Or.inr ⟨(hw _ (List.mem_of_getElem? (i := 17) rfl)), (hw _ (List.mem_of_getElem? (i := 38) rfl))⟩)
  obtain ⟨a_LESS_OR_EQUAL, ev_LESS_OR_EQUAL⟩ := exa_v n5
  have E_LESS_OR_EQUAL := Exa.start ev_LESS_OR_EQUAL n5
  have S_LESS_OR_EQUAL := Sta.start ev_LESS_OR_EQUAL (Or.inr ⟨(hw _ (List.mem_of_getElem? (i := 9) rfl)), (hw _ (List.mem_of_getElem? (i := 43) rfl))⟩)
  obtain ⟨a_GREATER_OR_EQUAL, ev_GREATER_OR_EQUAL⟩ := exa_v n6
  have E_GREATER_OR_EQUAL := Exa.start ev_GREATER_OR_EQUAL n6
  have S_GREATER_OR_EQUAL := Sta.start ev_GREATER_OR_EQUAL (Or.inr ⟨(hw _ (List.mem_of_getElem? (i := 9) rfl)), (hw _ (List.mem_of_getElem? (i := 45) rfl))⟩)
  obtain ⟨a_GREATER, ev_GREATER⟩ := exa_v n7
  have E_GREATER := Exa.start ev_GREATER n7
  have S_GREATER := Sta.start ev_GREATER (Or.inr ⟨(hw _ (List.mem_of_getElem? (i := 9) rfl)), (hw _ (List.mem_of_getElem? (i := 47) rfl))⟩)
  obtain ⟨a_NOT_EQUAL, ev_NOT_EQUAL⟩ := exa_v n8
  have E_NOT_EQUAL := Exa.start ev_NOT_EQUAL n8
  have S_NOT_EQUAL := Sta.start ev_NOT_EQUAL (Or.inr ⟨(hw _ (List.mem_of_getElem? (i := 9) rfl)), (hw _ (List.mem_of_getElem? (i := 49) rfl))⟩)
  have O_LESS : Fld s s.heap a_LESS "java/lang/Enum" "ordinal" "I" (.int (2 : Int32)) := Fld.start (fld_int ev_LESS n2)
  have O_EQUAL : Fld s s.heap a_EQUAL "java/lang/Enum" "ordinal" "I" (.int (0 : Int32)) := Fld.start (fld_int ev_EQUAL n3)
  have O_NOT_EQUAL : Fld s s.heap a_NOT_EQUAL "java/lang/Enum" "ordinal" "I" (.int (1 : Int32)) := Fld.start (fld_int ev_NOT_EQUAL n9)
  have O_GREATER_OR_EQUAL : Fld s s.heap a_GREATER_OR_EQUAL "java/lang/Enum" "ordinal" "I" (.int (5 : Int32)) := Fld.start (fld_int ev_GREATER_OR_EQUAL n10)
  have O_GREATER : Fld s s.heap a_GREATER "java/lang/Enum" "ordinal" "I" (.int (4 : Int32)) := Fld.start (fld_int ev_GREATER n11)
  have O_LESS_OR_EQUAL : Fld s s.heap a_LESS_OR_EQUAL "java/lang/Enum" "ordinal" "I" (.int (3 : Int32)) := Fld.start (fld_int ev_LESS_OR_EQUAL n12)
  have hno := join_no (hw _ (List.mem_of_getElem? (i := 39) rfl)) (hw _ (List.mem_of_getElem? (i := 40) rfl)) (hw _ (List.mem_of_getElem? (i := 41) rfl)) (hw _ (List.mem_of_getElem? (i := 2) rfl))
  obtain ⟨n, o, h1, h2, h3, _, L, rfl, ⟨rfl, N⟩, hq⟩ := rm0 l s _ hw tables_1 i0 i1 i2 i3 i4 i5 a_EQUAL a_NOT_EQUAL a_LESS a_LESS_OR_EQUAL a_GREATER a_GREATER_OR_EQUAL a_TRUE s.heap s.heap.size (Nat.le_refl _) (Old.start s) S_EQUAL O_EQUAL S_NOT_EQUAL O_NOT_EQUAL S_LESS O_LESS S_LESS_OR_EQUAL O_LESS_OR_EQUAL S_GREATER O_GREATER S_GREATER_OR_EQUAL O_GREATER_OR_EQUAL S_TRUE E_TRUE hno p e ha hc hk s m _ below hf ((Spec.applies_iff_loose hf).mp happ).1 ⟨rfl, State.Warmed39.refl s, rfl⟩ trivial
  refine ⟨n, _, h1, h2, h3, hpost _ _ _ _ _ _ ⟨Cond.after_iff.mpr rfl, Cond.after_iff.mpr (eq_i res_at (Term.int_eval (1)) rfl), trivial⟩ ⟨hq.1, hq.2.1, (hq.2.2.sift fun y hy => Or.inr (N y hy)).mono (by decide) (by decide)⟩⟩
theorem main_1_1 : Claimed_1_1 := comes_1 fun _ _ _ _ _ _ h hF => ⟨h.1, hF⟩
theorem main_1_2 : Claimed_1_2 := comes_1 fun _ _ _ _ _ _ h hF => ⟨h.2.1, hF⟩
end Jvm.Pilot.@@N@@
namespace Jvm.Pilot.@@N@@
open Jvm Jvm.ClassFile Sem Op Lib Jvm.Free Jvm.Stand Jvm.Pilot.@@N@@.Jvm.D
/-! MADE BY PROGRAM (witnessworld.py) out of the Statement's table words and the real class files: 15 classes; the members and pool entries that the words name. The judged class is class 1, her method 2. -/
namespace start1
open Jvm.ClassFile
def u (s : String) : CpInfo := .utf8 (stringToUtf16 s)
/-- a pool by its gaps: so many unusable entries, then the entry; so many at the end -/
def gap : Nat → List CpInfo → List CpInfo
  | 0, r => r
  | n + 1, r => .unusable :: gap n r
def poolList (es : List (Nat × CpInfo)) (last : Nat) : List CpInfo := es.foldr (fun e r => gap e.1 (e.2 :: r)) (gap last [])
def pool (es : List (Nat × CpInfo)) (last : Nat) : Array CpInfo := ⟨poolList es last⟩
def fileOf (pool : Array CpInfo) (this : Nat) (attrs : Array Attribute := #[]) (ms : Array MethodInfo := #[]) (fl : Nat := 33) (sup : Nat := 0) (ifs : Array Nat := #[]) (fds : Array FieldInfo := #[]) : ClassFile where
  minorVersion := 0
  majorVersion := 65
  constantPool := pool
  accessFlags := fl
  thisClass := this
  superClass := sup
  interfaces := ifs
  fields := fds
  methods := ms
  attributes := attrs
def plain (name : String) (sup : Option ClassId) : Class where
  name := name
  kind := .ordinary
  loader := none
  accessFlags := 33
  super := sup
  interfaces := #[]
  cf := none
  fields := #[]
  methods := #[]
  instanceTypes := #[]
  staticTypes := #[]
  resolved := #[]
  callSites := []
  init := .initialized
  statics := none
  mirror := none

def pool0 : Array CpInfo := pool [(5, u "<init>"), (0, u "()V"), (1, .class_ 10), (1, u "java/lang/Object")] 113

def k0c0 : Code := { maxStack := 0, maxLocals := 1, code := object_method_1_code, exceptionTable := #[], attributes := #[] }
def k0m0 : Method := { name := "<init>", desc := "()V", sig := { parameters := [], returnType := none }, accessFlags := 1, code := some k0c0 }
/-- java/lang/Object -/
def k0 : Class := { plain "java/lang/Object" none with
  accessFlags := 33
  interfaces := #[]
  cf := some (fileOf pool0 8 #[] #[{ accessFlags := 1, nameIndex := 5, descriptorIndex := 6, attributes := #[] }] 33 0 #[] #[])
  fields := #[]
  methods := #[k0m0]
  instanceTypes := #[]
  staticTypes := #[]
  resolved := Array.replicate 124 none
  statics := none }

def pool1 : Array CpInfo := pool [(2, .class_ 4), (1, u "java/lang/Object"), (0, u "<init>"), (0, u "()V"), (0, .fieldref 8 9), (0, .class_ 10), (0, .nameAndType 11 12), (0, u "com/example/brisk_sifter/brisksifter/Formula$Operator"), (0, u "EQUAL"), (0, u "Lcom/example/brisk_sifter/brisksifter/Formula$Operator;"), (0, .fieldref 8 14), (0, .nameAndType 15 12), (0, u "NOT_EQUAL"), (0, .fieldref 8 17), (0, .nameAndType 18 12), (0, u "LESS"), (0, .fieldref 8 20), (0, .nameAndType 21 12), (0, u "LESS_OR_EQUAL"), (0, .fieldref 8 23), (0, .nameAndType 24 12), (0, u "GREATER"), (0, .fieldref 8 26), (0, .nameAndType 27 12), (0, u "GREATER_OR_EQUAL"), (0, .integer 2147483647), (0, .class_ 30), (0, u "com/example/brisk_sifter/brisksifter/Formula$Join"), (0, .methodref 32 33), (0, .class_ 34), (0, .nameAndType 35 36), (0, u "com/example/brisk_sifter/brisksifter/JoinEqualsPinLaw"), (0, u "op"), (0, u "(I)Lcom/example/brisk_sifter/brisksifter/Formula$Operator;"), (0, .methodref 29 38), (0, .nameAndType 5 39), (0, u "(ILcom/example/brisk_sifter/brisksifter/Formula$Operator;I)V"), (0, .methodref 29 41), (0, .nameAndType 42 43), (0, u "equals"), (0, u "(Ljava/lang/Object;)Z"), (0, .fieldref 45 46), (0, .class_ 47), (0, .nameAndType 48 49), (0, u "com/example/brisk_sifter/brisksifter/Formula"), (0, u "TRUE"), (0, u "Lcom/example/brisk_sifter/brisksifter/Formula;"), (3, u "law"), (0, u "(IIIIII)Z")] 5

def k1m0 : Method := { name := "<init>", desc := "()V", sig := { parameters := [], returnType := none }, accessFlags := 1, code := none }
def k1c1 : Code := { maxStack := 2, maxLocals := 1, code := method_2_code, exceptionTable := #[], attributes := #[] }
def k1m1 : Method := { name := "op", desc := "(I)Lcom/example/brisk_sifter/brisksifter/Formula$Operator;", sig := { parameters := [.int], returnType := some (.object "com/example/brisk_sifter/brisksifter/Formula$Operator") }, accessFlags := 10, code := some k1c1 }
def k1c2 : Code := { maxStack := 5, maxLocals := 18, code := code, exceptionTable := #[], attributes := #[] }
def k1m2 : Method := { name := "law", desc := "(IIIIII)Z", sig := { parameters := [.int, .int, .int, .int, .int, .int], returnType := some .boolean }, accessFlags := 9, code := some k1c2 }
/-- com/example/brisk_sifter/brisksifter/JoinEqualsPinLaw -/
def k1 : Class := { plain "com/example/brisk_sifter/brisksifter/JoinEqualsPinLaw" (some 0) with
  accessFlags := 49
  interfaces := #[]
  cf := some (fileOf pool1 32 #[] #[{ accessFlags := 1, nameIndex := 5, descriptorIndex := 6, attributes := #[] }, { accessFlags := 10, nameIndex := 35, descriptorIndex := 36, attributes := #[] }, { accessFlags := 9, nameIndex := 53, descriptorIndex := 54, attributes := #[] }] 49 2 #[] #[])
  fields := #[]
  methods := #[k1m0, k1m1, k1m2]
  instanceTypes := #[]
  staticTypes := #[]
  resolved := Array.replicate 60 none
  statics := none }

def pool2 : Array CpInfo := pool [(3, .methodref 4 5), (0, .class_ 6), (0, .nameAndType 7 8), (0, u "java/lang/Object"), (0, u "<init>"), (0, u "()V"), (4, .class_ 15), (1, u "com/example/brisk_sifter/brisksifter/Formula"), (27, u "TRUE"), (0, u "Lcom/example/brisk_sifter/brisksifter/Formula;"), (15, .class_ 62), (1, u "com/example/brisk_sifter/brisksifter/Formula$Branch"), (2, .class_ 66), (0, u "com/example/brisk_sifter/brisksifter/Formula$All"), (19, u "NO_CAP"), (0, u "I"), (2, u "WHOLE"), (1, u "SELF"), (0, u "EQUAL_ODDS"), (0, u "D"), (2, u "RANGE_ODDS"), (32, .class_ 131), (0, u "com/example/brisk_sifter/brisksifter/Formula$Join"), (0, .class_ 133), (0, u "com/example/brisk_sifter/brisksifter/Formula$Compare"), (0, .class_ 135), (0, u "com/example/brisk_sifter/brisksifter/Formula$Not"), (0, .class_ 137), (0, u "com/example/brisk_sifter/brisksifter/Formula$Any"), (0, .class_ 139), (0, u "com/example/brisk_sifter/brisksifter/Formula$Kind"), (0, .class_ 141), (0, u "com/example/brisk_sifter/brisksifter/Formula$Operator"), (0, .class_ 143), (0, u "com/example/brisk_sifter/brisksifter/Formula$Facts")] 11

def k2c0 : Code := { maxStack := 1, maxLocals := 1, code := prog_18_method_1_code, exceptionTable := #[], attributes := #[] }
def k2m0 : Method := { name := "<init>", desc := "()V", sig := { parameters := [], returnType := none }, accessFlags := 0, code := some k2c0 }
/-- com/example/brisk_sifter/brisksifter/Formula -/
def k2 : Class := { plain "com/example/brisk_sifter/brisksifter/Formula" (some 0) with
  accessFlags := 1056
  interfaces := #[]
  cf := some (fileOf pool2 13 #[.nestMembers #[130, 132, 60, 134, 136, 65, 138, 140, 142]] #[{ accessFlags := 0, nameIndex := 7, descriptorIndex := 8, attributes := #[] }] 1056 4 #[] #[{ accessFlags := 24, nameIndex := 43, descriptorIndex := 44, attributes := #[] }, { accessFlags := 24, nameIndex := 86, descriptorIndex := 87, attributes := #[] }, { accessFlags := 24, nameIndex := 90, descriptorIndex := 87, attributes := #[] }, { accessFlags := 24, nameIndex := 92, descriptorIndex := 87, attributes := #[] }, { accessFlags := 26, nameIndex := 93, descriptorIndex := 94, attributes := #[] }, { accessFlags := 26, nameIndex := 97, descriptorIndex := 94, attributes := #[] }])
  fields := #[{ name := "TRUE", type := (.object "com/example/brisk_sifter/brisksifter/Formula"), accessFlags := 24, slot := 0, constantValue := 0 }, { name := "NO_CAP", type := .int, accessFlags := 24, slot := 1, constantValue := 0 }, { name := "WHOLE", type := .int, accessFlags := 24, slot := 2, constantValue := 0 }, { name := "SELF", type := .int, accessFlags := 24, slot := 3, constantValue := 0 }, { name := "EQUAL_ODDS", type := .double, accessFlags := 26, slot := 4, constantValue := 0 }, { name := "RANGE_ODDS", type := .double, accessFlags := 26, slot := 5, constantValue := 0 }]
  methods := #[k2m0]
  instanceTypes := #[]
  staticTypes := #[(.object "com/example/brisk_sifter/brisksifter/Formula"), .int, .int, .int, .double, .double]
  resolved := Array.replicate 155 none
  statics := some 0 }

def pool3 : Array CpInfo := pool [(1, .class_ 2), (0, u "com/example/brisk_sifter/brisksifter/Formula"), (0, .methodref 1 4), (0, .nameAndType 5 6), (0, u "<init>"), (0, u "()V"), (0, .fieldref 8 9), (0, .class_ 10), (0, .nameAndType 11 12), (0, u "com/example/brisk_sifter/brisksifter/Formula$Join"), (0, u "_left"), (0, u "I"), (0, .fieldref 8 14), (0, .nameAndType 15 16), (0, u "_operator"), (0, u "Lcom/example/brisk_sifter/brisksifter/Formula$Operator;"), (0, .fieldref 8 18), (0, .nameAndType 19 12), (0, u "_right"), (77, u "(ILcom/example/brisk_sifter/brisksifter/Formula$Operator;I)V"), (15, u "equals"), (0, u "(Ljava/lang/Object;)Z")] 12

def k3c0 : Code := { maxStack := 2, maxLocals := 4, code := prog_24_method_1_code, exceptionTable := #[], attributes := #[] }
def k3m0 : Method := { name := "<init>", desc := "(ILcom/example/brisk_sifter/brisksifter/Formula$Operator;I)V", sig := { parameters := [.int, (.object "com/example/brisk_sifter/brisksifter/Formula$Operator"), .int], returnType := none }, accessFlags := 0, code := some k3c0 }
def k3c1 : Code := { maxStack := 2, maxLocals := 2, code := prog_24_method_11_code, exceptionTable := #[], attributes := #[] }
def k3m1 : Method := { name := "equals", desc := "(Ljava/lang/Object;)Z", sig := { parameters := [(.object "java/lang/Object")], returnType := some .boolean }, accessFlags := 1, code := some k3c1 }
/-- com/example/brisk_sifter/brisksifter/Formula$Join -/
def k3 : Class := { plain "com/example/brisk_sifter/brisksifter/Formula$Join" (some 2) with
  accessFlags := 48
  interfaces := #[]
  cf := some (fileOf pool3 8 #[.nestHost 1] #[{ accessFlags := 0, nameIndex := 5, descriptorIndex := 97, attributes := #[] }, { accessFlags := 1, nameIndex := 113, descriptorIndex := 114, attributes := #[] }] 48 1 #[] #[{ accessFlags := 18, nameIndex := 11, descriptorIndex := 12, attributes := #[] }, { accessFlags := 18, nameIndex := 15, descriptorIndex := 16, attributes := #[] }, { accessFlags := 18, nameIndex := 19, descriptorIndex := 12, attributes := #[] }])
  fields := #[{ name := "_left", type := .int, accessFlags := 18, slot := 0, constantValue := 0 }, { name := "_operator", type := (.object "com/example/brisk_sifter/brisksifter/Formula$Operator"), accessFlags := 18, slot := 1, constantValue := 0 }, { name := "_right", type := .int, accessFlags := 18, slot := 2, constantValue := 0 }]
  methods := #[k3m0, k3m1]
  instanceTypes := #[.int, (.object "com/example/brisk_sifter/brisksifter/Formula$Operator"), .int]
  staticTypes := #[]
  resolved := Array.replicate 127 none
  statics := none }

def pool4 : Array CpInfo := pool [(1, .class_ 2), (0, u "java/lang/constant/Constable"), (0, .class_ 4), (0, u "java/lang/Object")] 6

/-- java/lang/constant/Constable -/
def k4 : Class := { plain "java/lang/constant/Constable" (some 0) with
  accessFlags := 1537
  interfaces := #[]
  cf := some (fileOf pool4 1 #[] #[] 1537 3 #[] #[])
  fields := #[]
  methods := #[]
  instanceTypes := #[]
  staticTypes := #[]
  resolved := Array.replicate 11 none
  statics := none }

def pool5 : Array CpInfo := pool [(1, .class_ 2), (0, u "java/lang/Comparable"), (0, .class_ 4), (0, u "java/lang/Object")] 7

/-- java/lang/Comparable -/
def k5 : Class := { plain "java/lang/Comparable" (some 0) with
  accessFlags := 1537
  interfaces := #[]
  cf := some (fileOf pool5 1 #[] #[] 1537 3 #[] #[])
  fields := #[]
  methods := #[]
  instanceTypes := #[]
  staticTypes := #[]
  resolved := Array.replicate 12 none
  statics := none }

def pool6 : Array CpInfo := pool [(1, .class_ 2), (0, u "java/io/Serializable"), (0, .class_ 4), (0, u "java/lang/Object")] 2

/-- java/io/Serializable -/
def k6 : Class := { plain "java/io/Serializable" (some 0) with
  accessFlags := 1537
  interfaces := #[]
  cf := some (fileOf pool6 1 #[] #[] 1537 3 #[] #[])
  fields := #[]
  methods := #[]
  instanceTypes := #[]
  staticTypes := #[]
  resolved := Array.replicate 7 none
  statics := none }

def pool7 : Array CpInfo := pool [(2, .class_ 4), (1, u "java/lang/Enum"), (0, u "name"), (0, u "Ljava/lang/String;"), (2, u "ordinal"), (0, u "I"), (1, .class_ 14), (1, u "java/lang/Object"), (4, u "hash"), (86, .class_ 108), (1, u "java/lang/Enum$EnumDesc"), (2, .class_ 112), (0, u "java/lang/constant/Constable"), (0, .class_ 114), (0, u "java/lang/Comparable"), (0, .class_ 116), (0, u "java/io/Serializable")] 87

/-- java/lang/Enum -/
def k7 : Class := { plain "java/lang/Enum" (some 0) with
  accessFlags := 1057
  interfaces := #[4, 5, 6]
  cf := some (fileOf pool7 2 #[.nestMembers #[106]] #[] 1057 12 #[111, 113, 115] #[{ accessFlags := 18, nameIndex := 5, descriptorIndex := 6, attributes := #[] }, { accessFlags := 18, nameIndex := 9, descriptorIndex := 10, attributes := #[] }, { accessFlags := 2, nameIndex := 19, descriptorIndex := 10, attributes := #[] }])
  fields := #[{ name := "name", type := (.object "java/lang/String"), accessFlags := 18, slot := 0, constantValue := 0 }, { name := "ordinal", type := .int, accessFlags := 18, slot := 1, constantValue := 0 }, { name := "hash", type := .int, accessFlags := 2, slot := 2, constantValue := 0 }]
  methods := #[]
  instanceTypes := #[(.object "java/lang/String"), .int, .int]
  staticTypes := #[]
  resolved := Array.replicate 204 none
  statics := none }

def pool8 : Array CpInfo := pool [(1, .class_ 2), (0, u "com/example/brisk_sifter/brisksifter/Formula$Operator"), (2, u "EQUAL"), (0, u "Lcom/example/brisk_sifter/brisksifter/Formula$Operator;"), (2, u "NOT_EQUAL"), (2, u "LESS"), (2, u "LESS_OR_EQUAL"), (2, u "GREATER"), (2, u "GREATER_OR_EQUAL"), (2, u "$VALUES"), (0, u "[Lcom/example/brisk_sifter/brisksifter/Formula$Operator;"), (6, .class_ 34), (1, u "java/lang/Enum"), (8, u "_symbol"), (0, u "Ljava/lang/String;"), (60, .class_ 106), (0, u "com/example/brisk_sifter/brisksifter/Formula")] 2

/-- com/example/brisk_sifter/brisksifter/Formula$Operator -/
def k8 : Class := { plain "com/example/brisk_sifter/brisksifter/Formula$Operator" (some 7) with
  accessFlags := 16432
  interfaces := #[]
  cf := some (fileOf pool8 1 #[.nestHost 105] #[] 16432 32 #[] #[{ accessFlags := 16409, nameIndex := 5, descriptorIndex := 6, attributes := #[] }, { accessFlags := 16409, nameIndex := 9, descriptorIndex := 6, attributes := #[] }, { accessFlags := 16409, nameIndex := 12, descriptorIndex := 6, attributes := #[] }, { accessFlags := 16409, nameIndex := 15, descriptorIndex := 6, attributes := #[] }, { accessFlags := 16409, nameIndex := 18, descriptorIndex := 6, attributes := #[] }, { accessFlags := 16409, nameIndex := 21, descriptorIndex := 6, attributes := #[] }, { accessFlags := 18, nameIndex := 43, descriptorIndex := 44, attributes := #[] }, { accessFlags := 4122, nameIndex := 24, descriptorIndex := 25, attributes := #[] }])
  fields := #[{ name := "EQUAL", type := (.object "com/example/brisk_sifter/brisksifter/Formula$Operator"), accessFlags := 16409, slot := 0, constantValue := 0 }, { name := "NOT_EQUAL", type := (.object "com/example/brisk_sifter/brisksifter/Formula$Operator"), accessFlags := 16409, slot := 1, constantValue := 0 }, { name := "LESS", type := (.object "com/example/brisk_sifter/brisksifter/Formula$Operator"), accessFlags := 16409, slot := 2, constantValue := 0 }, { name := "LESS_OR_EQUAL", type := (.object "com/example/brisk_sifter/brisksifter/Formula$Operator"), accessFlags := 16409, slot := 3, constantValue := 0 }, { name := "GREATER", type := (.object "com/example/brisk_sifter/brisksifter/Formula$Operator"), accessFlags := 16409, slot := 4, constantValue := 0 }, { name := "GREATER_OR_EQUAL", type := (.object "com/example/brisk_sifter/brisksifter/Formula$Operator"), accessFlags := 16409, slot := 5, constantValue := 0 }, { name := "_symbol", type := (.object "java/lang/String"), accessFlags := 18, slot := 3, constantValue := 0 }, { name := "$VALUES", type := (.array (.object "com/example/brisk_sifter/brisksifter/Formula$Operator")), accessFlags := 4122, slot := 6, constantValue := 0 }]
  methods := #[]
  instanceTypes := #[(.object "java/lang/String"), .int, .int, (.object "java/lang/String")]
  staticTypes := #[(.object "com/example/brisk_sifter/brisksifter/Formula$Operator"), (.object "com/example/brisk_sifter/brisksifter/Formula$Operator"), (.object "com/example/brisk_sifter/brisksifter/Formula$Operator"), (.object "com/example/brisk_sifter/brisksifter/Formula$Operator"), (.object "com/example/brisk_sifter/brisksifter/Formula$Operator"), (.object "com/example/brisk_sifter/brisksifter/Formula$Operator"), (.array (.object "com/example/brisk_sifter/brisksifter/Formula$Operator"))]
  resolved := Array.replicate 109 none
  statics := some 1 }

def pool9 : Array CpInfo := pool [(2, .class_ 4), (1, u "com/example/brisk_sifter/brisksifter/Formula"), (9, u "[Lcom/example/brisk_sifter/brisksifter/Formula;"), (1, .class_ 18), (1, u "com/example/brisk_sifter/brisksifter/Formula$All"), (0, u "_parts")] 150

/-- com/example/brisk_sifter/brisksifter/Formula$All -/
def k9 : Class := { plain "com/example/brisk_sifter/brisksifter/Formula$All" (some 2) with
  accessFlags := 48
  interfaces := #[]
  cf := some (fileOf pool9 16 #[.nestHost 2] #[] 48 2 #[] #[{ accessFlags := 18, nameIndex := 19, descriptorIndex := 14, attributes := #[] }])
  fields := #[{ name := "_parts", type := (.array (.object "com/example/brisk_sifter/brisksifter/Formula")), accessFlags := 18, slot := 0, constantValue := 0 }]
  methods := #[]
  instanceTypes := #[(.array (.object "com/example/brisk_sifter/brisksifter/Formula"))]
  staticTypes := #[]
  resolved := Array.replicate 170 none
  statics := none }

def pool10 : Array CpInfo := pool [(1, u "java/lang/Cloneable"), (0, .class_ 1), (0, u "java/lang/Object"), (0, .class_ 3)] 3

/-- java/lang/Cloneable -/
def k10 : Class := { plain "java/lang/Cloneable" (some 0) with
  accessFlags := 1537
  interfaces := #[]
  cf := some (fileOf pool10 2 #[] #[] 1537 4 #[] #[])
  fields := #[]
  methods := #[]
  instanceTypes := #[]
  staticTypes := #[]
  resolved := Array.replicate 8 none
  statics := none }

/-- the primitive byte -/
def k11 : Class := { plain "byte" none with kind := .primitive 'B', accessFlags := 0x411 }
/-- [B -/
def k12 : Class := { plain "[B" (some 0) with kind := .array 11 .byte, interfaces := #[10, 6], accessFlags := 1041 }

/-- the primitive int -/
def k13 : Class := { plain "int" none with kind := .primitive 'I', accessFlags := 0x411 }
/-- [I -/
def k14 : Class := { plain "[I" (some 0) with kind := .array 13 .int, interfaces := #[10, 6], accessFlags := 1041 }

def heap : Heap := #[{ cls := 2, slots := #[.ref 8, .int 0, .int 0, .int 0, .double 0, .double 0], vm := .statics 2 },
  { cls := 8, slots := #[.ref 2, .ref 3, .ref 4, .ref 5, .ref 6, .ref 7, .null], vm := .statics 8 },
  { cls := 8, slots := #[.null, .int 0, .int 0, .null], vm := .none },
  { cls := 8, slots := #[.null, .int 1, .int 0, .null], vm := .none },
  { cls := 8, slots := #[.null, .int 2, .int 0, .null], vm := .none },
  { cls := 8, slots := #[.null, .int 3, .int 0, .null], vm := .none },
  { cls := 8, slots := #[.null, .int 4, .int 0, .null], vm := .none },
  { cls := 8, slots := #[.null, .int 5, .int 0, .null], vm := .none },
  { cls := 9, slots := #[.null], vm := .none }]
def classes : Array Class := #[k0, k1, k2, k3, k4, k5, k6, k7, k8, k9, k10, k11, k12, k13, k14]
def interned : List (Array UInt16 × Addr) := []
def slotsUsed : Nat := 38
def theMethod : MethodId := ⟨1, 2⟩
def args0 : Array Value := #[.int 5, .int 6, .int 7, .int 5, .int 6, .int 3]
def aboutOver (below : List Frame) : State where
  vm := { classes := classes, interned := interned.toArray }
  heap := heap
  slotsUsed := slotsUsed
  threads := #[{ frames := .invoking theMethod args0 :: below }]
def below0 : List Frame := [.native { method := ⟨0, 0⟩, args := #[] }]
def about1 : State := aboutOver below0
def p0 : Program := .bare "" "" ""
def e0 : Env := launch0.env 0 0 0
theorem w_frames : about1.frames = Frame.invoking theMethod args0 :: below0 := rfl
set_option maxRecDepth 65536 in
theorem w_args : argsFit about1.vm theMethod args0 = true := by decide +kernel
set_option maxRecDepth 65536 in
theorem w_heap : heapFits about1 = true := by decide +kernel
set_option maxRecDepth 65536 in
theorem w_runnable : about1.curStatus? = some .runnable := by decide +kernel
set_option maxRecDepth 65536 in
theorem w_alone : about1.alone = true := by decide +kernel
set_option maxRecDepth 65536 in
theorem w_named : about1.methodNamed? x = some theMethod := by decide +kernel
set_option maxRecDepth 65536 in
theorem w_hears : about1.hears theMethod below0 = true := by decide +kernel
set_option maxRecDepth 65536 in
theorem w_ripe : about1.ripe theMethod args0 below0 = true := by decide +kernel
theorem w_running : about1.status = .running := rfl
set_option maxRecDepth 65536 in
theorem w_room : about1.hasRoom e0.platform room_1 = true :=
  launch0.hasRoom_least _ room_1 (by decide +kernel) (by decide +kernel) (by decide +kernel) (by decide +kernel) (by decide +kernel) (by decide +kernel)
theorem allAtoms_all (ts : List Jvm.Cond) (a : Array Jvm.Value) (st : Jvm.State) : (allAtoms ts).before a st = ts.all (fun c => c.before a st) := by
  induction ts with
  | nil => rfl
  | cons c t ih =>
    show (Jvm.Cond.and c (allAtoms t)).before a st = _
    rw [Jvm.Cond.before_and, ih, List.all_cons]
def words1 : List Jvm.Cond := Jvm.Cond.code x code maxLocals ret :: tables_1
/-- a 'code' word, met by the world's own term for the bytes: nothing is compared byte by byte -/
theorem code_word {y : MethodName} {bytes : ByteArray} {mx : Nat} {rt : Option FieldType} {a : Array Value} {s : State} {m : MethodId} {meth : Method} {c : Code} (h1 : s.methodNamed? y = some m) (h2 : s.vm.method? m = some meth) (h3 : meth.code = some c) (h4 : c.code = bytes)
    (h5 : (c.maxLocals == mx && c.exceptionTable.isEmpty && decide (c.maxStack ≤ mostOperands) && decide (meth.sig.returnType = rt) && !meth.locks && decide (parseMethodDescriptor y.desc = some meth.sig)) = true) : (Jvm.Cond.code y bytes mx rt).before a s = true := by
  simp only [Bool.and_eq_true, beq_iff_eq, Bool.not_eq_true', decide_eq_true_eq] at h5
  obtain ⟨⟨⟨⟨⟨g1, g2⟩, g3⟩, g4⟩, g5⟩, g6⟩ := h5
  simp [Cond.before, Cond.holds, Cond.value, h1, h2, h3, h4, g1, g2, g3, g4, g5, g6]
def isCode : Jvm.Cond → Bool
  | .code _ _ _ _ => true
  | _ => false
theorem all_split {L : List Jvm.Cond} {P : Jvm.Cond → Bool} (h1 : L.all (fun c => isCode c || P c) = true) (h2 : ∀ c ∈ L.filter isCode, P c = true) : L.all P = true := by
  refine List.all_eq_true.mpr fun c hc => ?_
  have h := List.all_eq_true.mp h1 c hc
  rcases Bool.eq_false_or_eq_true (isCode c) with hi | hi
  · exact h2 c (List.mem_filter.mpr ⟨hc, hi⟩)
  · simpa [hi] using h
set_option maxRecDepth 65536 in
theorem w_c0 : (Jvm.Cond.code x code maxLocals ret).before args0 about1 = true := code_word (m := ⟨1, 2⟩) (meth := k1m2) (c := k1c2) (by decide +kernel) rfl rfl rfl (by decide +kernel)
set_option maxRecDepth 65536 in
theorem w_c1 : (Jvm.Cond.code ({ cls := "com/example/brisk_sifter/brisksifter/JoinEqualsPinLaw", name := "op", desc := "(I)Lcom/example/brisk_sifter/brisksifter/Formula$Operator;" } : Jvm.MethodName) method_2_code (1 : Nat) (Option.some (Jvm.ClassFile.FieldType.object "com/example/brisk_sifter/brisksifter/Formula$Operator"))).before args0 about1 = true := code_word (m := ⟨1, 1⟩) (meth := k1m1) (c := k1c1) (by decide +kernel) rfl rfl rfl (by decide +kernel)
set_option maxRecDepth 65536 in
theorem w_c2 : (Jvm.Cond.code ({ cls := "com/example/brisk_sifter/brisksifter/Formula$Join", name := "<init>", desc := "(ILcom/example/brisk_sifter/brisksifter/Formula$Operator;I)V" } : Jvm.MethodName) prog_24_method_1_code (4 : Nat) (Option.none : Option Jvm.ClassFile.FieldType)).before args0 about1 = true := code_word (m := ⟨3, 0⟩) (meth := k3m0) (c := k3c0) (by decide +kernel) rfl rfl rfl (by decide +kernel)
set_option maxRecDepth 65536 in
theorem w_c3 : (Jvm.Cond.code ({ cls := "com/example/brisk_sifter/brisksifter/Formula", name := "<init>", desc := "()V" } : Jvm.MethodName) prog_18_method_1_code (1 : Nat) (Option.none : Option Jvm.ClassFile.FieldType)).before args0 about1 = true := code_word (m := ⟨2, 0⟩) (meth := k2m0) (c := k2c0) (by decide +kernel) rfl rfl rfl (by decide +kernel)
set_option maxRecDepth 65536 in
theorem w_c4 : (Jvm.Cond.code ({ cls := "java/lang/Object", name := "<init>", desc := "()V" } : Jvm.MethodName) object_method_1_code (1 : Nat) (Option.none : Option Jvm.ClassFile.FieldType)).before args0 about1 = true := code_word (m := ⟨0, 0⟩) (meth := k0m0) (c := k0c0) (by decide +kernel) rfl rfl rfl (by decide +kernel)
set_option maxRecDepth 65536 in
theorem w_c5 : (Jvm.Cond.code ({ cls := "com/example/brisk_sifter/brisksifter/Formula$Join", name := "equals", desc := "(Ljava/lang/Object;)Z" } : Jvm.MethodName) prog_24_method_11_code (2 : Nat) (Option.some Jvm.ClassFile.FieldType.boolean)).before args0 about1 = true := code_word (m := ⟨3, 1⟩) (meth := k3m1) (c := k3c1) (by decide +kernel) rfl rfl rfl (by decide +kernel)
def codes1 : List Jvm.Cond := [Jvm.Cond.code x code maxLocals ret, Jvm.Cond.code ({ cls := "com/example/brisk_sifter/brisksifter/JoinEqualsPinLaw", name := "op", desc := "(I)Lcom/example/brisk_sifter/brisksifter/Formula$Operator;" } : Jvm.MethodName) method_2_code (1 : Nat) (Option.some (Jvm.ClassFile.FieldType.object "com/example/brisk_sifter/brisksifter/Formula$Operator")), Jvm.Cond.code ({ cls := "com/example/brisk_sifter/brisksifter/Formula$Join", name := "<init>", desc := "(ILcom/example/brisk_sifter/brisksifter/Formula$Operator;I)V" } : Jvm.MethodName) prog_24_method_1_code (4 : Nat) (Option.none : Option Jvm.ClassFile.FieldType), Jvm.Cond.code ({ cls := "com/example/brisk_sifter/brisksifter/Formula", name := "<init>", desc := "()V" } : Jvm.MethodName) prog_18_method_1_code (1 : Nat) (Option.none : Option Jvm.ClassFile.FieldType), Jvm.Cond.code ({ cls := "java/lang/Object", name := "<init>", desc := "()V" } : Jvm.MethodName) object_method_1_code (1 : Nat) (Option.none : Option Jvm.ClassFile.FieldType), Jvm.Cond.code ({ cls := "com/example/brisk_sifter/brisksifter/Formula$Join", name := "equals", desc := "(Ljava/lang/Object;)Z" } : Jvm.MethodName) prog_24_method_11_code (2 : Nat) (Option.some Jvm.ClassFile.FieldType.boolean)]
set_option maxRecDepth 65536 in
theorem codes_eq : words1.filter isCode = codes1 := rfl
theorem w_codes : ∀ c ∈ words1.filter isCode, c.before args0 about1 = true := by
  rw [codes_eq]
  intro c hc
  simp only [codes1, List.mem_cons, List.not_mem_nil, or_false] at hc
  rcases hc with rfl | rfl | rfl | rfl | rfl | rfl
  · exact w_c0
  · exact w_c1
  · exact w_c2
  · exact w_c3
  · exact w_c4
  · exact w_c5
set_option maxRecDepth 65536 in
theorem w_t1 : (words1.take 24).all (fun c => isCode c || c.before args0 about1) = true := by decide +kernel
set_option maxRecDepth 65536 in
theorem w_t2 : ((words1.drop 24).take 24).all (fun c => isCode c || c.before args0 about1) = true := by decide +kernel
set_option maxRecDepth 65536 in
theorem w_t3 : ((words1.drop 24).drop 24).all (fun c => isCode c || c.before args0 about1) = true := by decide +kernel
theorem w_tables : (allAtoms (Jvm.Cond.code x code maxLocals ret :: tables_1)).before args0 about1 = true := by
  rw [allAtoms_all]
  show words1.all (fun c => c.before args0 about1) = true
  refine all_split ?_ w_codes
  rw [← List.take_append_drop 24 words1, List.all_append, w_t1, ← List.take_append_drop 24 (words1.drop 24), List.all_append, w_t2, w_t3]
  rfl
set_option maxRecDepth 65536 in
theorem w_case : (Jvm.Cond.and given_1 narrow_1).before args0 about1 = true := by decide +kernel
theorem w_applies : (headSpec (Jvm.Cond.code x code maxLocals ret :: tables_1) room_1).applies x e0.platform about1 = true :=
  (Spec.applies_iff w_frames).mpr ⟨w_running, w_runnable, w_alone, w_named, w_hears, w_ripe, w_room, w_tables⟩
theorem atStart : AtStart classFile x code maxLocals ret World_1 tables_1 room_1 Calls_1 rest_1 Pre_1 launch0 p0 e0 about1 theMethod args0 below0 :=
  ⟨lists_1, trivial, launch0.admits_env _ _ _, launch0.least_env, fairChoices_fair.cas, fairChoices_fair.clock, w_frames, w_args, w_heap, w_applies, trivial, trivial, w_case⟩
end start1
theorem witness_1 : WitnessClaimed_1 := ⟨start1.p0, start1.e0, start1.about1, start1.theMethod, start1.args0, start1.below0, start1.atStart⟩
end Jvm.Pilot.@@N@@
