import JvmDerived
import JvmDerived.Pilot.@@N@@Statement
import JvmDerived.Pilot.@@N@@Code
set_option linter.unusedVariables false
set_option linter.unusedSimpArgs false
namespace Jvm.RoadKit
open Sem ClassFile Op Lib Jvm.Stand Jvm.Free Jvm.LawKit
section New
variable {p : Program} {l : Launch} {e : Env} {R : Room} {s : State} {m : MethodId} {args : Array Value} {below : List Frame} {meth : Method} {c : Code} {T : State} {locs : List Loc} {cells slots : Nat}
theorem retI (X : Stand p l e R s m args below meth c T locs cells slots) (hx : p.tables.exec = Jvm.exec) {pc : Nat} {Ls : Array Slot} {z : Int32} {rest : List Value} (hret : meth.sig.returnType = some .int) (hd : decode c.code pc = .ok (.ireturn, 1)) {fs : List Frame}
    (hl : ∀ (f : JFrame) (acts : List Action), f.method = m → f.locked = none → f.entered = [] → (doReturn e (T.setTop f) acts (some (.int z))).1 = T.setFrames fs) : Steps p.tables e below (T.setTop (mkF m pc Ls (.int z :: rest))) (T.setFrames fs) := by
  have hm' : T.vm.method? m = some meth := X.method'
  have hn : narrow .int (.int z) = .int z := rfl
  show Steps p.tables e below (T.setTop { method := m, pc := pc, locals := Ls, stack := _ :: rest, locked := none }) _
  jvm_step X.here [X.here.top, hx, hd, hm', hret, hn]
  first | (intro acts; rw [hl _ acts rfl rfl rfl]) | rw [hl _ _ rfl rfl rfl]
  exact Steps.refl _
theorem lsw {g : JFrame} {target : State} (X : Stand p l e R s m args below meth c T locs cells slots) (hx : p.tables.exec = Jvm.exec) (hg : g.method = m) {dflt : Int} {pairs : Array (Int × Int)} {len : Nat} {o : Int} {x : Int32} {rest : List Value} {pc0 pc' : Nat} (hpc : g.pc = pc0) (hd : decode c.code g.pc = .ok (.lookupswitch dflt pairs, len)) (hs : g.stack = .int x :: rest)
    (hso : ∀ (a b a' b' : Int), ((a, b), a', b') ∈ pairs.toList.zip pairs.toList.tail → a < a') (hq : lookupswitch.offset pairs.toList dflt x.toInt = o) (ho : 0 ≤ (pc0 : Int) + o) (hp : ((pc0 : Int) + o).toNat = pc') (hr : Steps p.tables e below (T.setTop { g with pc := pc', stack := rest }) target) : Steps p.tables e below (T.setTop g) target := by
  subst hg hpc hp
  jvm_step X.here [X.here.top, hx, hd, hs, hq, ho, lookupswitch.wp_chain]
  exact ⟨hso, hr⟩
end New
end Jvm.RoadKit
namespace Jvm.Pilot.@@N@@
open Jvm Jvm.ClassFile Sem Op Lib Jvm.Free Jvm.Stand Jvm.LawKit Jvm.RoadKit Bundle Jvm.Pilot.@@N@@.Jvm.D
/-- a value comes back, the heap as it was -/
def QV (w : Value) (h0 : Heap) (n0 : Nat) (v : Option Value) (h : Heap) (L : List Loc) : Prop := v = some w ∧ Fr n0 L ∧ h = h0
def QL (n0 : Nat) (v : Option Value) (h : Heap) (L : List Loc) : Prop := v = some (.int 1) ∧ Fr n0 L
theorem fld_int {args : Array Value} {s : State} {t : Term} {C n d : String} {a : Addr} {k : Int32} (ht : t.eval args s none [] s = some (.ref a)) (h : (Jvm.Cond.eq (.field t C n d) (.int k)).value args s none s [] = some true) : s.fieldOf? a C n d = some (.int k) := by
  rw [← fld_at (C := C) (n := n) (dd := d) ht]
  exact Cond.eq_int (beq_iff_eq.mpr h) (Term.int_eval k)
theorem fld_ref {args : Array Value} {s : State} {t u : Term} {C n d : String} {a b : Addr} (ht : t.eval args s none [] s = some (.ref a)) (hu : u.eval args s none [] s = some (.ref b)) (h : (Jvm.Cond.eq (.field t C n d) u).value args s none s [] = some true) : s.fieldOf? a C n d = some (.ref b) := by
  obtain ⟨x, y, hx, hy, kin, -⟩ := cmp_v (Or.inl h)
  cases hu.symm.trans hy
  have hr : x.isRef = true := by cases x <;> simp [Kin, Value.isRef] at kin ⊢
  have q := gotT (eq_R hx hy hr rfl) h
  subst q
  rw [fld_at ht] at hx
  exact hx
theorem d1_0 : decode prog_5_method_6_code 0 = .ok (.aload_n 0, 1) := by decide +kernel
theorem d1_1 : decode prog_5_method_6_code 1 = .ok (.getfield 60, 3) := by decide +kernel
theorem d1_4 : decode prog_5_method_6_code 4 = .ok (.getstatic 73, 3) := by decide +kernel
theorem d1_7 : decode prog_5_method_6_code 7 = .ok (.if_acmp .eq 7, 3) := by decide +kernel
theorem d1_10 : decode prog_5_method_6_code 10 = .ok (.iconst 1, 1) := by decide +kernel
theorem d1_11 : decode prog_5_method_6_code 11 = .ok (.goto 4, 3) := by decide +kernel
theorem d1_15 : decode prog_5_method_6_code 15 = .ok (.ireturn, 1) := by decide +kernel
theorem ef_1_R (m : MethodId) (x0 : Addr) : entryFrame m #[(.ref x0)] 1 = mkF m 0 #[.val (.ref x0)] [] := by first | (simp [entryFrame, mkF, argsToLocals, Value.category]; done) | rfl
theorem pn_Measure : plainName "com/example/requery/requery/eval/Measure" = true := by first | (simp [plainName, overriddenIn]; done) | decide +kernel
set_option maxRecDepth 65536 in
set_option maxHeartbeats 40000000 in
theorem rs1 (l : Launch) (Z : State) (a0 : Array Value) (hw : ∀ d ∈ tables_1, d.before a0 Z = true) (ws : List Jvm.Cond) (a kd fr : Addr) (h0 : Heap) (n0 : Nat) (Z0 : n0 ≤ h0.size) (F : Fld Z h0 a "com/example/requery/requery/eval/Measure" "kind" "Lcom/example/requery/requery/eval/Measure$Kind;" (.ref kd)) (S : Sta Z h0 "com/example/requery/requery/eval/Measure$Kind" "FRACTION" "Lcom/example/requery/requery/eval/Measure$Kind;" (.ref fr)) (ha7 : ¬ (kd = fr)) :
    MetFree l (⟨"com/example/requery/requery/eval/Measure", "isSum", "()Z"⟩ : MethodName) (head1 (Jvm.Cond.code (⟨"com/example/requery/requery/eval/Measure", "isSum", "()Z"⟩ : MethodName) prog_5_method_6_code 1 (some .boolean) :: ws) ({ frames := 0, cells := 0, slots := 0, locals := 0 } : Room)) (fun zA zU => zA = #[(.ref a)] ∧ Z.Warmed39 zU.vm ∧ zU.heap = h0) (fun _ _ _ _ _ => True) (fun _ zU zO zW => ∃ zV zL, zO = .returned zV ∧ QV (.int 1) h0 n0 zV zW.heap zL ∧ FrameEnd zU zO zW zL ({ frames := 0, cells := 0, slots := 0, locals := 0 } : Room).cells ({ frames := 0, cells := 0, slots := 0, locals := 0 } : Room).slots) := by
  refine MetFree.of_bodySF (plainFor_of_name pn_Measure) hisR ?_
  intro p e s m args below meth c s₁ Bd hml0 hP hK
  obtain ⟨rfl, hZ, hh⟩ := hP
  have hx := Bd.exec
  have hby := Bd.bytes
  have hml : c.maxLocals = 1 := hml0
  have hown : s.vm.findClass "com/example/requery/requery/eval/Measure" = some m.cls := findClass_of_methodNamed Bd.named
  have hnm := (name_of_methodNamed Bd.named Bd.method).1
  have X0 : Stand p l e ({ frames := 0, cells := 0, slots := 0, locals := 0 } : Room) s m #[(.ref a)] below meth c s₁ [] 0 0 := Stand.of_body Bd
  have e0 : s₁.heap = h0 := by rw [← hh, Bd.state]; rfl
  have N0 := Fr.nil n0
  have pre0 : ∀ zt, Steps p.tables e below (s₁.setTop (mkF m 0 #[.val (.ref a)] [])) zt → Steps p.tables e below (s₁.setTop (entryFrame m #[(.ref a)] 1)) zt := fun zt zk => castTop (ef_1_R m a) zk
  obtain ⟨T1, X1, e1, st1⟩ := getF X0 hx hZ hown (host := "") (Or.inl (hw _ (List.mem_of_getElem? (i := 32) rfl))) Via.refl e0 F (g := (mkF m 1 #[.val (.ref a)] [(.ref a)])) rfl rfl (hb hby d1_1)
  obtain ⟨T2, X2, e2, st2⟩ := getS2 X1 hx hZ hown (host := "") (Or.inl (hw _ (List.mem_of_getElem? (i := 36) rfl))) Via.refl e1 S (g := (mkF m 4 #[.val (.ref a)] [(.ref kd)])) rfl (hb hby d1_4)
  obtain ⟨fs, hr, hrun, hended, hW, hsame⟩ := X2.leave (v := some (.int (1 : Int32))) (fun h => by rw [Bd.returns] at h; cases h)
  refine ⟨_, _, pre0 _ ?_, hrun, hended, _, _, rfl, ?_, ⟨_, rfl⟩, hW, hsame.mono (by decide) (by decide)⟩
  · show Steps p.tables e below (s₁.setTop (mkF m 0 #[.val (.ref a)] [])) _
    refine XS.aloadN X0.here hx rfl (hb hby d1_0) rfl rfl ?_
    show Steps p.tables e below (s₁.setTop (mkF m 1 #[.val (.ref a)] [(.ref a)])) _
    refine st1 _ ?_
    show Steps p.tables e below (T1.setTop (mkF m 4 #[.val (.ref a)] [(.ref kd)])) _
    refine st2 _ ?_
    show Steps p.tables e below (T2.setTop (mkF m 7 #[.val (.ref a)] [(.ref fr), (.ref kd)])) _
    refine Jvm.RoadKit.acmp (g := (mkF m 7 #[.val (.ref a)] [(.ref fr), (.ref kd)])) X2 hx rfl rfl rfl (pc0 := 7) (pc' := 10) (same := false) rfl (hb hby d1_7) rfl (decide_eq_false fun q => ha7 (Value.ref.inj q)) (by decide) (by decide) ?_
    show Steps p.tables e below (T2.setTop (mkF m 10 #[.val (.ref a)] [])) _
    refine XS.iconst X2.here hx rfl (hb hby d1_10) ?_
    show Steps p.tables e below (T2.setTop (mkF m 11 #[.val (.ref a)] [(.int (1 : Int32))])) _
    refine XS.goto X2.here hx rfl (pc0 := 11) (pc' := 15) rfl (hb hby d1_11) (by decide) (by decide) ?_
    show Steps p.tables e below (T2.setTop (mkF m 15 #[.val (.ref a)] [(.int (1 : Int32))])) _
    exact retN X2 hx (t := .boolean) Bd.returns (by simp) (hb hby d1_15) hr
  · show QV (.int 1) h0 n0 _ T2.heap _
    rw [e2]
    exact ⟨rfl, N0, rfl⟩
theorem d1_14 : decode prog_5_method_6_code 14 = .ok (.iconst 0, 1) := by decide +kernel
set_option maxRecDepth 65536 in
set_option maxHeartbeats 40000000 in
theorem rs0 (l : Launch) (Z : State) (a0 : Array Value) (hw : ∀ d ∈ tables_1, d.before a0 Z = true) (ws : List Jvm.Cond) (a kd fr : Addr) (h0 : Heap) (n0 : Nat) (Z0 : n0 ≤ h0.size) (F : Fld Z h0 a "com/example/requery/requery/eval/Measure" "kind" "Lcom/example/requery/requery/eval/Measure$Kind;" (.ref kd)) (S : Sta Z h0 "com/example/requery/requery/eval/Measure$Kind" "FRACTION" "Lcom/example/requery/requery/eval/Measure$Kind;" (.ref fr)) (ha7 : kd = fr) :
    MetFree l (⟨"com/example/requery/requery/eval/Measure", "isSum", "()Z"⟩ : MethodName) (head1 (Jvm.Cond.code (⟨"com/example/requery/requery/eval/Measure", "isSum", "()Z"⟩ : MethodName) prog_5_method_6_code 1 (some .boolean) :: ws) ({ frames := 0, cells := 0, slots := 0, locals := 0 } : Room)) (fun zA zU => zA = #[(.ref a)] ∧ Z.Warmed39 zU.vm ∧ zU.heap = h0) (fun _ _ _ _ _ => True) (fun _ zU zO zW => ∃ zV zL, zO = .returned zV ∧ QV (.int 0) h0 n0 zV zW.heap zL ∧ FrameEnd zU zO zW zL ({ frames := 0, cells := 0, slots := 0, locals := 0 } : Room).cells ({ frames := 0, cells := 0, slots := 0, locals := 0 } : Room).slots) := by
  refine MetFree.of_bodySF (plainFor_of_name pn_Measure) hisR ?_
  intro p e s m args below meth c s₁ Bd hml0 hP hK
  obtain ⟨rfl, hZ, hh⟩ := hP
  have hx := Bd.exec
  have hby := Bd.bytes
  have hml : c.maxLocals = 1 := hml0
  have hown : s.vm.findClass "com/example/requery/requery/eval/Measure" = some m.cls := findClass_of_methodNamed Bd.named
  have hnm := (name_of_methodNamed Bd.named Bd.method).1
  have X0 : Stand p l e ({ frames := 0, cells := 0, slots := 0, locals := 0 } : Room) s m #[(.ref a)] below meth c s₁ [] 0 0 := Stand.of_body Bd
  have e0 : s₁.heap = h0 := by rw [← hh, Bd.state]; rfl
  have N0 := Fr.nil n0
  have pre0 : ∀ zt, Steps p.tables e below (s₁.setTop (mkF m 0 #[.val (.ref a)] [])) zt → Steps p.tables e below (s₁.setTop (entryFrame m #[(.ref a)] 1)) zt := fun zt zk => castTop (ef_1_R m a) zk
  obtain ⟨T3, X3, e3, st3⟩ := getF X0 hx hZ hown (host := "") (Or.inl (hw _ (List.mem_of_getElem? (i := 32) rfl))) Via.refl e0 F (g := (mkF m 1 #[.val (.ref a)] [(.ref a)])) rfl rfl (hb hby d1_1)
  obtain ⟨T4, X4, e4, st4⟩ := getS2 X3 hx hZ hown (host := "") (Or.inl (hw _ (List.mem_of_getElem? (i := 36) rfl))) Via.refl e3 S (g := (mkF m 4 #[.val (.ref a)] [(.ref kd)])) rfl (hb hby d1_4)
  obtain ⟨fs, hr, hrun, hended, hW, hsame⟩ := X4.leave (v := some (.int (0 : Int32))) (fun h => by rw [Bd.returns] at h; cases h)
  refine ⟨_, _, pre0 _ ?_, hrun, hended, _, _, rfl, ?_, ⟨_, rfl⟩, hW, hsame.mono (by decide) (by decide)⟩
  · show Steps p.tables e below (s₁.setTop (mkF m 0 #[.val (.ref a)] [])) _
    refine XS.aloadN X0.here hx rfl (hb hby d1_0) rfl rfl ?_
    show Steps p.tables e below (s₁.setTop (mkF m 1 #[.val (.ref a)] [(.ref a)])) _
    refine st3 _ ?_
    show Steps p.tables e below (T3.setTop (mkF m 4 #[.val (.ref a)] [(.ref kd)])) _
    refine st4 _ ?_
    show Steps p.tables e below (T4.setTop (mkF m 7 #[.val (.ref a)] [(.ref fr), (.ref kd)])) _
    refine Jvm.RoadKit.acmp (g := (mkF m 7 #[.val (.ref a)] [(.ref fr), (.ref kd)])) X4 hx rfl rfl rfl (pc0 := 7) (pc' := 14) (same := true) rfl (hb hby d1_7) rfl (decide_eq_true (congrArg Value.ref ha7)) (by decide) (by decide) ?_
    show Steps p.tables e below (T4.setTop (mkF m 14 #[.val (.ref a)] [])) _
    refine XS.iconst X4.here hx rfl (hb hby d1_14) ?_
    show Steps p.tables e below (T4.setTop (mkF m 15 #[.val (.ref a)] [(.int (0 : Int32))])) _
    exact retN X4 hx (t := .boolean) Bd.returns (by simp) (hb hby d1_15) hr
  · show QV (.int 0) h0 n0 _ T4.heap _
    rw [e4]
    exact ⟨rfl, N0, rfl⟩
def SumV (kd fr : Addr) (b : Int32) : Prop := (¬ (kd = fr) ∧ b = 1) ∨ (kd = fr ∧ b = 0)
theorem rsum (l : Launch) (Z : State) (a0 : Array Value) (hw : ∀ d ∈ tables_1, d.before a0 Z = true) (ws : List Jvm.Cond) (a kd fr : Addr) (b : Int32) (h0 : Heap) (n0 : Nat) (Z0 : n0 ≤ h0.size) (F : Fld Z h0 a "com/example/requery/requery/eval/Measure" "kind" "Lcom/example/requery/requery/eval/Measure$Kind;" (.ref kd)) (S : Sta Z h0 "com/example/requery/requery/eval/Measure$Kind" "FRACTION" "Lcom/example/requery/requery/eval/Measure$Kind;" (.ref fr)) (hb : SumV kd fr b) :
    MetFree l (⟨"com/example/requery/requery/eval/Measure", "isSum", "()Z"⟩ : MethodName) (head1 (Jvm.Cond.code (⟨"com/example/requery/requery/eval/Measure", "isSum", "()Z"⟩ : MethodName) prog_5_method_6_code 1 (some .boolean) :: ws) ({ frames := 0, cells := 0, slots := 0, locals := 0 } : Room)) (fun zA zU => zA = #[(.ref a)] ∧ Z.Warmed39 zU.vm ∧ zU.heap = h0) (fun _ _ _ _ _ => True) (fun _ zU zO zW => ∃ zV zL, zO = .returned zV ∧ QV (.int b) h0 n0 zV zW.heap zL ∧ FrameEnd zU zO zW zL ({ frames := 0, cells := 0, slots := 0, locals := 0 } : Room).cells ({ frames := 0, cells := 0, slots := 0, locals := 0 } : Room).slots) := by
  rcases hb with ⟨h1, rfl⟩ | ⟨h1, rfl⟩
  · exact rs1 l Z a0 hw ws a kd fr h0 n0 Z0 F S h1
  · exact rs0 l Z a0 hw ws a kd fr h0 n0 Z0 F S h1
theorem pd_0 : parseMethodDescriptor "()Z" = some ⟨[], some .boolean⟩ := by decide +kernel
theorem ef_0_I (m : MethodId) (x0 : Int32) : entryFrame m #[(.int x0)] maxLocals = mkF m 0 #[.val (.int x0), .unset, .unset, .unset] [] := by first | (simp [entryFrame, mkF, argsToLocals, Value.category, maxLocals]; done) | rfl
theorem pn_MeasureIsSumPinLaw : plainName "com/example/requery/requery/eval/MeasureIsSumPinLaw" = true := by first | (simp [plainName, overriddenIn]; done) | decide +kernel
set_option maxRecDepth 65536 in
set_option maxHeartbeats 40000000 in
theorem rm0a (l : Launch) (Z : State) (a0 : Array Value) (hw : ∀ d ∈ tables_1, d.before a0 Z = true) (ws : List Jvm.Cond) (x1 : Int32) (a_NUM_Q a_NUM_RET a_NUM_REL a_NUM_REL_RET a_MAP a_RPREC a_P_5 a_P_10 a_P_20 a_P_30 a_RECALL_1000 : Addr) (w kd fr : Addr) (h0 : Heap) (n0 : Nat) (Z0 : n0 ≤ h0.size) (E_NUM_Q : Exa Z h0 a_NUM_Q "com/example/requery/requery/eval/Measure") (S_NUM_Q : Sta Z h0 "com/example/requery/requery/eval/Measure" "NUM_Q" "Lcom/example/requery/requery/eval/Measure;" (.ref a_NUM_Q)) (E_NUM_RET : Exa Z h0 a_NUM_RET "com/example/requery/requery/eval/Measure") (S_NUM_RET : Sta Z h0 "com/example/requery/requery/eval/Measure" "NUM_RET" "Lcom/example/requery/requery/eval/Measure;" (.ref a_NUM_RET)) (E_NUM_REL : Exa Z h0 a_NUM_REL "com/example/requery/requery/eval/Measure") (S_NUM_REL : Sta Z h0 "com/example/requery/requery/eval/Measure" "NUM_REL" "Lcom/example/requery/requery/eval/Measure;" (.ref a_NUM_REL)) (E_NUM_REL_RET : Exa Z h0 a_NUM_REL_RET "com/example/requery/requery/eval/Measure") (S_NUM_REL_RET : Sta Z h0 "com/example/requery/requery/eval/Measure" "NUM_REL_RET" "Lcom/example/requery/requery/eval/Measure;" (.ref a_NUM_REL_RET)) (E_MAP : Exa Z h0 a_MAP "com/example/requery/requery/eval/Measure") (S_MAP : Sta Z h0 "com/example/requery/requery/eval/Measure" "MAP" "Lcom/example/requery/requery/eval/Measure;" (.ref a_MAP)) (E_RPREC : Exa Z h0 a_RPREC "com/example/requery/requery/eval/Measure") (S_RPREC : Sta Z h0 "com/example/requery/requery/eval/Measure" "RPREC" "Lcom/example/requery/requery/eval/Measure;" (.ref a_RPREC)) (E_P_5 : Exa Z h0 a_P_5 "com/example/requery/requery/eval/Measure") (S_P_5 : Sta Z h0 "com/example/requery/requery/eval/Measure" "P_5" "Lcom/example/requery/requery/eval/Measure;" (.ref a_P_5)) (E_P_10 : Exa Z h0 a_P_10 "com/example/requery/requery/eval/Measure") (S_P_10 : Sta Z h0 "com/example/requery/requery/eval/Measure" "P_10" "Lcom/example/requery/requery/eval/Measure;" (.ref a_P_10)) (E_P_20 : Exa Z h0 a_P_20 "com/example/requery/requery/eval/Measure") (S_P_20 : Sta Z h0 "com/example/requery/requery/eval/Measure" "P_20" "Lcom/example/requery/requery/eval/Measure;" (.ref a_P_20)) (E_P_30 : Exa Z h0 a_P_30 "com/example/requery/requery/eval/Measure") (S_P_30 : Sta Z h0 "com/example/requery/requery/eval/Measure" "P_30" "Lcom/example/requery/requery/eval/Measure;" (.ref a_P_30)) (E_RECALL_1000 : Exa Z h0 a_RECALL_1000 "com/example/requery/requery/eval/Measure") (S_RECALL_1000 : Sta Z h0 "com/example/requery/requery/eval/Measure" "RECALL_1000" "Lcom/example/requery/requery/eval/Measure;" (.ref a_RECALL_1000)) (S_FR : Sta Z h0 "com/example/requery/requery/eval/Measure$Kind" "FRACTION" "Lcom/example/requery/requery/eval/Measure$Kind;" (.ref fr)) (Ew : Exa Z h0 w "com/example/requery/requery/eval/Measure") (Fw : Fld Z h0 w "com/example/requery/requery/eval/Measure" "kind" "Lcom/example/requery/requery/eval/Measure$Kind;" (.ref kd)) (hin : ¬ ((x1 &&& (2147483647 : Int32)) % (11 : Int32)) < 0 ∧ ((x1 &&& (2147483647 : Int32)) % (11 : Int32)) < (11 : Int32)) (hat : ([(.ref a_NUM_Q), (.ref a_NUM_RET), (.ref a_NUM_REL), (.ref a_NUM_REL_RET), (.ref a_MAP), (.ref a_RPREC), (.ref a_P_5), (.ref a_P_10), (.ref a_P_20), (.ref a_P_30), (.ref a_RECALL_1000)] : List Value).getD (((x1 &&& (2147483647 : Int32)) % (11 : Int32))).toNatClampNeg .null = .ref w) (hs : SumV kd fr 1) (hc87 : ((x1 &&& (2147483647 : Int32)) % (11 : Int32)) < (4 : Int32)) :
    MetFree l x (head1 (Jvm.Cond.code x code maxLocals ret :: ws) room_1) (fun zA zU => zA = #[(.int x1)] ∧ Z.Warmed39 zU.vm ∧ zU.heap = h0) (fun _ _ _ _ _ => True) (fun _ zU zO zW => ∃ zV zL, zO = .returned zV ∧ QL n0 zV zW.heap zL ∧ FrameEnd zU zO zW zL room_1.cells room_1.slots) := by
  refine MetFree.of_bodySF (plainFor_of_name pn_MeasureIsSumPinLaw) hisR ?_
  intro p e s m args below meth c s₁ Bd hml0 hP hK
  obtain ⟨rfl, hZ, hh⟩ := hP
  have hx := Bd.exec
  have hby := Bd.bytes
  have hml : c.maxLocals = 4 := hml0
  have hown : s.vm.findClass "com/example/requery/requery/eval/MeasureIsSumPinLaw" = some m.cls := findClass_of_methodNamed Bd.named
  have hnm := (name_of_methodNamed Bd.named Bd.method).1
  have X0 : Stand p l e room_1 s m #[(.int x1)] below meth c s₁ [] 0 0 := Stand.of_body Bd
  have e0 : s₁.heap = h0 := by rw [← hh, Bd.state]; rfl
  have N0 := Fr.nil n0
  have pre0 : ∀ zt, Steps p.tables e below (s₁.setTop (mkF m 0 #[.val (.int x1), .unset, .unset, .unset] [])) zt → Steps p.tables e below (s₁.setTop (entryFrame m #[(.int x1)] maxLocals)) zt := fun zt zk => castTop (ef_0_I m x1) zk
  obtain ⟨T5, h5, k5, X5, e5, E5, A5, O5, st5⟩ := newR X0 hx hZ hown (hw _ (List.mem_of_getElem? (i := 0) rfl)) (hw _ (List.mem_of_getElem? (i := 1) rfl)) e0 (g := (mkF m 2 #[.val (.int x1), .unset, .unset, .unset] [(.int (11 : Int32))])) rfl (hb hby at_2) rfl (by decide) (cap := 11) (by decide) (by decide) (by decide) (by decide)
  obtain ⟨b5, g5⟩ : ∃ z, z = h0.size := ⟨_, rfl⟩
  rw [← g5] at A5 st5
  have gz5 : n0 ≤ b5 := Nat.le_trans Z0 (Nat.le_of_eq g5.symm)
  have ne_w_b5 : w ≠ b5 := Nat.ne_of_lt (Nat.lt_of_lt_of_le Fw.lt (Nat.le_of_eq g5.symm))
  have ne_a_NUM_Q_b5 : a_NUM_Q ≠ b5 := Nat.ne_of_lt (Nat.lt_of_lt_of_le E_NUM_Q.lt (Nat.le_of_eq g5.symm))
  have ne_a_NUM_RET_b5 : a_NUM_RET ≠ b5 := Nat.ne_of_lt (Nat.lt_of_lt_of_le E_NUM_RET.lt (Nat.le_of_eq g5.symm))
  have ne_a_NUM_REL_b5 : a_NUM_REL ≠ b5 := Nat.ne_of_lt (Nat.lt_of_lt_of_le E_NUM_REL.lt (Nat.le_of_eq g5.symm))
  have ne_a_NUM_REL_RET_b5 : a_NUM_REL_RET ≠ b5 := Nat.ne_of_lt (Nat.lt_of_lt_of_le E_NUM_REL_RET.lt (Nat.le_of_eq g5.symm))
  have ne_a_MAP_b5 : a_MAP ≠ b5 := Nat.ne_of_lt (Nat.lt_of_lt_of_le E_MAP.lt (Nat.le_of_eq g5.symm))
  have ne_a_RPREC_b5 : a_RPREC ≠ b5 := Nat.ne_of_lt (Nat.lt_of_lt_of_le E_RPREC.lt (Nat.le_of_eq g5.symm))
  have ne_a_P_5_b5 : a_P_5 ≠ b5 := Nat.ne_of_lt (Nat.lt_of_lt_of_le E_P_5.lt (Nat.le_of_eq g5.symm))
  have ne_a_P_10_b5 : a_P_10 ≠ b5 := Nat.ne_of_lt (Nat.lt_of_lt_of_le E_P_10.lt (Nat.le_of_eq g5.symm))
  have ne_a_P_20_b5 : a_P_20 ≠ b5 := Nat.ne_of_lt (Nat.lt_of_lt_of_le E_P_20.lt (Nat.le_of_eq g5.symm))
  have ne_a_P_30_b5 : a_P_30 ≠ b5 := Nat.ne_of_lt (Nat.lt_of_lt_of_le E_P_30.lt (Nat.le_of_eq g5.symm))
  have ne_a_RECALL_1000_b5 : a_RECALL_1000 ≠ b5 := Nat.ne_of_lt (Nat.lt_of_lt_of_le E_RECALL_1000.lt (Nat.le_of_eq g5.symm))
  have F6 := Fw.ext E5
  have E7 := E_NUM_Q.ext E5
  have E8 := E_NUM_RET.ext E5
  have E9 := E_NUM_REL.ext E5
  have E10 := E_NUM_REL_RET.ext E5
  have E11 := E_MAP.ext E5
  have E12 := E_RPREC.ext E5
  have E13 := E_P_5.ext E5
  have E14 := E_P_10.ext E5
  have E15 := E_P_20.ext E5
  have E16 := E_P_30.ext E5
  have E17 := E_RECALL_1000.ext E5
  have E18 := Ew.ext E5
  have S19 := S_NUM_Q.ext E5
  have S20 := S_NUM_RET.ext E5
  have S21 := S_NUM_REL.ext E5
  have S22 := S_NUM_REL_RET.ext E5
  have S23 := S_MAP.ext E5
  have S24 := S_RPREC.ext E5
  have S25 := S_P_5.ext E5
  have S26 := S_P_10.ext E5
  have S27 := S_P_20.ext E5
  have S28 := S_P_30.ext E5
  have S29 := S_RECALL_1000.ext E5
  have S30 := S_FR.ext E5
  have Z5 := Nat.le_trans Z0 E5.1
  have V5 : Arv Z h5 b5 k5 (.object "com/example/requery/requery/eval/Measure") (11 : Int32) [.null, .null, .null, .null, .null, .null, .null, .null, .null, .null, .null] .null := (Arv.new A5 (by decide)).pad (pad_rep [] .null 11)
  obtain ⟨T31, X31, e31, st31⟩ := getS2 X5 hx hZ hown (host := "") (Or.inl (hw _ (List.mem_of_getElem? (i := 2) rfl))) Via.refl e5 S19 (g := (mkF m 7 #[.val (.int x1), .unset, .unset, .unset] [(.int (0 : Int32)), (.ref b5), (.ref b5)])) rfl (hb hby at_7)
  obtain ⟨cl32, Ar32, q32, Sz32, Nz32, Hz32, Gz32⟩ := V5
  have hin32 : ¬ ((0 : Int32) < 0 ∨ cl32.slots.size ≤ ((0 : Int32)).toNatClampNeg) := inb_of Sz32 ⟨by decide, by decide⟩
  obtain ⟨T33, h33, X33, e33, W33, st33⟩ := stR X31 hx hZ e31 Ar32 (j := (0 : Int32)) hin32 rfl (Sto.ofV Ar32 q32 O5 (Ins.self E7)) (g := (mkF m 10 #[.val (.int x1), .unset, .unset, .unset] [(.ref a_NUM_Q), (.int (0 : Int32)), (.ref b5), (.ref b5)])) rfl rfl (hb hby at_10)
  have V33 : Arv Z h33 b5 k5 (.object "com/example/requery/requery/eval/Measure") (11 : Int32) [(.ref a_NUM_Q), .null, .null, .null, .null, .null, .null, .null, .null, .null, .null] .null := Arv.set Ar32 q32 Sz32 Nz32 Hz32 Gz32 rfl W33 0 rfl (Nat.le_of_ble_eq_true rfl)
  have N33 := Fr.snoc X33 N0 gz5
  have F34 := F6.other W33 (Or.inl ne_w_b5)
  have E35 := E7.wr W33
  have E36 := E8.wr W33
  have E37 := E9.wr W33
  have E38 := E10.wr W33
  have E39 := E11.wr W33
  have E40 := E12.wr W33
  have E41 := E13.wr W33
  have E42 := E14.wr W33
  have E43 := E15.wr W33
  have E44 := E16.wr W33
  have E45 := E17.wr W33
  have E46 := E18.wr W33
  have S47 := S19.wr W33
  have S48 := S20.wr W33
  have S49 := S21.wr W33
  have S50 := S22.wr W33
  have S51 := S23.wr W33
  have S52 := S24.wr W33
  have S53 := S25.wr W33
  have S54 := S26.wr W33
  have S55 := S27.wr W33
  have S56 := S28.wr W33
  have S57 := S29.wr W33
  have S58 := S30.wr W33
  have Z33 := Nat.le_trans Z5 (Keep.of_wr W33).1
  obtain ⟨T59, X59, e59, st59⟩ := getS2 X33 hx hZ hown (host := "") (Or.inl (hw _ (List.mem_of_getElem? (i := 6) rfl))) Via.refl e33 S48 (g := (mkF m 13 #[.val (.int x1), .unset, .unset, .unset] [(.int (1 : Int32)), (.ref b5), (.ref b5)])) rfl (hb hby at_13)
  obtain ⟨cl60, Ar60, q60, Sz60, Nz60, Hz60, Gz60⟩ := V33
  have hin60 : ¬ ((1 : Int32) < 0 ∨ cl60.slots.size ≤ ((1 : Int32)).toNatClampNeg) := inb_of Sz60 ⟨by decide, by decide⟩
  obtain ⟨T61, h61, X61, e61, W61, st61⟩ := stR X59 hx hZ e59 Ar60 (j := (1 : Int32)) hin60 rfl (Sto.ofV Ar60 q60 O5 (Ins.self E36)) (g := (mkF m 16 #[.val (.int x1), .unset, .unset, .unset] [(.ref a_NUM_RET), (.int (1 : Int32)), (.ref b5), (.ref b5)])) rfl rfl (hb hby at_16)
  have V61 : Arv Z h61 b5 k5 (.object "com/example/requery/requery/eval/Measure") (11 : Int32) [(.ref a_NUM_Q), (.ref a_NUM_RET), .null, .null, .null, .null, .null, .null, .null, .null, .null] .null := Arv.set Ar60 q60 Sz60 Nz60 Hz60 Gz60 rfl W61 1 rfl (Nat.le_of_ble_eq_true rfl)
  have N61 := Fr.snoc X61 N33 gz5
  have F62 := F34.other W61 (Or.inl ne_w_b5)
  have E63 := E35.wr W61
  have E64 := E36.wr W61
  have E65 := E37.wr W61
  have E66 := E38.wr W61
  have E67 := E39.wr W61
  have E68 := E40.wr W61
  have E69 := E41.wr W61
  have E70 := E42.wr W61
  have E71 := E43.wr W61
  have E72 := E44.wr W61
  have E73 := E45.wr W61
  have E74 := E46.wr W61
  have S75 := S47.wr W61
  have S76 := S48.wr W61
  have S77 := S49.wr W61
  have S78 := S50.wr W61
  have S79 := S51.wr W61
  have S80 := S52.wr W61
  have S81 := S53.wr W61
  have S82 := S54.wr W61
  have S83 := S55.wr W61
  have S84 := S56.wr W61
  have S85 := S57.wr W61
  have S86 := S58.wr W61
  have Z61 := Nat.le_trans Z33 (Keep.of_wr W61).1
  obtain ⟨T87, X87, e87, st87⟩ := getS2 X61 hx hZ hown (host := "") (Or.inl (hw _ (List.mem_of_getElem? (i := 8) rfl))) Via.refl e61 S77 (g := (mkF m 19 #[.val (.int x1), .unset, .unset, .unset] [(.int (2 : Int32)), (.ref b5), (.ref b5)])) rfl (hb hby at_19)
  obtain ⟨cl88, Ar88, q88, Sz88, Nz88, Hz88, Gz88⟩ := V61
  have hin88 : ¬ ((2 : Int32) < 0 ∨ cl88.slots.size ≤ ((2 : Int32)).toNatClampNeg) := inb_of Sz88 ⟨by decide, by decide⟩
  obtain ⟨T89, h89, X89, e89, W89, st89⟩ := stR X87 hx hZ e87 Ar88 (j := (2 : Int32)) hin88 rfl (Sto.ofV Ar88 q88 O5 (Ins.self E65)) (g := (mkF m 22 #[.val (.int x1), .unset, .unset, .unset] [(.ref a_NUM_REL), (.int (2 : Int32)), (.ref b5), (.ref b5)])) rfl rfl (hb hby at_22)
  have V89 : Arv Z h89 b5 k5 (.object "com/example/requery/requery/eval/Measure") (11 : Int32) [(.ref a_NUM_Q), (.ref a_NUM_RET), (.ref a_NUM_REL), .null, .null, .null, .null, .null, .null, .null, .null] .null := Arv.set Ar88 q88 Sz88 Nz88 Hz88 Gz88 rfl W89 2 rfl (Nat.le_of_ble_eq_true rfl)
  have N89 := Fr.snoc X89 N61 gz5
  have F90 := F62.other W89 (Or.inl ne_w_b5)
  have E91 := E63.wr W89
  have E92 := E64.wr W89
  have E93 := E65.wr W89
  have E94 := E66.wr W89
  have E95 := E67.wr W89
  have E96 := E68.wr W89
  have E97 := E69.wr W89
  have E98 := E70.wr W89
  have E99 := E71.wr W89
  have E100 := E72.wr W89
  have E101 := E73.wr W89
  have E102 := E74.wr W89
  have S103 := S75.wr W89
  have S104 := S76.wr W89
  have S105 := S77.wr W89
  have S106 := S78.wr W89
  have S107 := S79.wr W89
  have S108 := S80.wr W89
  have S109 := S81.wr W89
  have S110 := S82.wr W89
  have S111 := S83.wr W89
  have S112 := S84.wr W89
  have S113 := S85.wr W89
  have S114 := S86.wr W89
  have Z89 := Nat.le_trans Z61 (Keep.of_wr W89).1
  obtain ⟨T115, X115, e115, st115⟩ := getS2 X89 hx hZ hown (host := "") (Or.inl (hw _ (List.mem_of_getElem? (i := 10) rfl))) Via.refl e89 S106 (g := (mkF m 25 #[.val (.int x1), .unset, .unset, .unset] [(.int (3 : Int32)), (.ref b5), (.ref b5)])) rfl (hb hby at_25)
  obtain ⟨cl116, Ar116, q116, Sz116, Nz116, Hz116, Gz116⟩ := V89
  have hin116 : ¬ ((3 : Int32) < 0 ∨ cl116.slots.size ≤ ((3 : Int32)).toNatClampNeg) := inb_of Sz116 ⟨by decide, by decide⟩
  obtain ⟨T117, h117, X117, e117, W117, st117⟩ := stR X115 hx hZ e115 Ar116 (j := (3 : Int32)) hin116 rfl (Sto.ofV Ar116 q116 O5 (Ins.self E94)) (g := (mkF m 28 #[.val (.int x1), .unset, .unset, .unset] [(.ref a_NUM_REL_RET), (.int (3 : Int32)), (.ref b5), (.ref b5)])) rfl rfl (hb hby at_28)
  have V117 : Arv Z h117 b5 k5 (.object "com/example/requery/requery/eval/Measure") (11 : Int32) [(.ref a_NUM_Q), (.ref a_NUM_RET), (.ref a_NUM_REL), (.ref a_NUM_REL_RET), .null, .null, .null, .null, .null, .null, .null] .null := Arv.set Ar116 q116 Sz116 Nz116 Hz116 Gz116 rfl W117 3 rfl (Nat.le_of_ble_eq_true rfl)
  have N117 := Fr.snoc X117 N89 gz5
  have F118 := F90.other W117 (Or.inl ne_w_b5)
  have E119 := E91.wr W117
  have E120 := E92.wr W117
  have E121 := E93.wr W117
  have E122 := E94.wr W117
  have E123 := E95.wr W117
  have E124 := E96.wr W117
  have E125 := E97.wr W117
  have E126 := E98.wr W117
  have E127 := E99.wr W117
  have E128 := E100.wr W117
  have E129 := E101.wr W117
  have E130 := E102.wr W117
  have S131 := S103.wr W117
  have S132 := S104.wr W117
  have S133 := S105.wr W117
  have S134 := S106.wr W117
  have S135 := S107.wr W117
  have S136 := S108.wr W117
  have S137 := S109.wr W117
  have S138 := S110.wr W117
  have S139 := S111.wr W117
  have S140 := S112.wr W117
  have S141 := S113.wr W117
  have S142 := S114.wr W117
  have Z117 := Nat.le_trans Z89 (Keep.of_wr W117).1
  obtain ⟨T143, X143, e143, st143⟩ := getS2 X117 hx hZ hown (host := "") (Or.inl (hw _ (List.mem_of_getElem? (i := 12) rfl))) Via.refl e117 S135 (g := (mkF m 31 #[.val (.int x1), .unset, .unset, .unset] [(.int (4 : Int32)), (.ref b5), (.ref b5)])) rfl (hb hby at_31)
  obtain ⟨cl144, Ar144, q144, Sz144, Nz144, Hz144, Gz144⟩ := V117
  have hin144 : ¬ ((4 : Int32) < 0 ∨ cl144.slots.size ≤ ((4 : Int32)).toNatClampNeg) := inb_of Sz144 ⟨by decide, by decide⟩
  obtain ⟨T145, h145, X145, e145, W145, st145⟩ := stR X143 hx hZ e143 Ar144 (j := (4 : Int32)) hin144 rfl (Sto.ofV Ar144 q144 O5 (Ins.self E123)) (g := (mkF m 34 #[.val (.int x1), .unset, .unset, .unset] [(.ref a_MAP), (.int (4 : Int32)), (.ref b5), (.ref b5)])) rfl rfl (hb hby at_34)
  have V145 : Arv Z h145 b5 k5 (.object "com/example/requery/requery/eval/Measure") (11 : Int32) [(.ref a_NUM_Q), (.ref a_NUM_RET), (.ref a_NUM_REL), (.ref a_NUM_REL_RET), (.ref a_MAP), .null, .null, .null, .null, .null, .null] .null := Arv.set Ar144 q144 Sz144 Nz144 Hz144 Gz144 rfl W145 4 rfl (Nat.le_of_ble_eq_true rfl)
  have N145 := Fr.snoc X145 N117 gz5
  have F146 := F118.other W145 (Or.inl ne_w_b5)
  have E147 := E119.wr W145
  have E148 := E120.wr W145
  have E149 := E121.wr W145
  have E150 := E122.wr W145
  have E151 := E123.wr W145
  have E152 := E124.wr W145
  have E153 := E125.wr W145
  have E154 := E126.wr W145
  have E155 := E127.wr W145
  have E156 := E128.wr W145
  have E157 := E129.wr W145
  have E158 := E130.wr W145
  have S159 := S131.wr W145
  have S160 := S132.wr W145
  have S161 := S133.wr W145
  have S162 := S134.wr W145
  have S163 := S135.wr W145
  have S164 := S136.wr W145
  have S165 := S137.wr W145
  have S166 := S138.wr W145
  have S167 := S139.wr W145
  have S168 := S140.wr W145
  have S169 := S141.wr W145
  have S170 := S142.wr W145
  have Z145 := Nat.le_trans Z117 (Keep.of_wr W145).1
  obtain ⟨T171, X171, e171, st171⟩ := getS2 X145 hx hZ hown (host := "") (Or.inl (hw _ (List.mem_of_getElem? (i := 14) rfl))) Via.refl e145 S164 (g := (mkF m 37 #[.val (.int x1), .unset, .unset, .unset] [(.int (5 : Int32)), (.ref b5), (.ref b5)])) rfl (hb hby at_37)
  obtain ⟨cl172, Ar172, q172, Sz172, Nz172, Hz172, Gz172⟩ := V145
  have hin172 : ¬ ((5 : Int32) < 0 ∨ cl172.slots.size ≤ ((5 : Int32)).toNatClampNeg) := inb_of Sz172 ⟨by decide, by decide⟩
  obtain ⟨T173, h173, X173, e173, W173, st173⟩ := stR X171 hx hZ e171 Ar172 (j := (5 : Int32)) hin172 rfl (Sto.ofV Ar172 q172 O5 (Ins.self E152)) (g := (mkF m 40 #[.val (.int x1), .unset, .unset, .unset] [(.ref a_RPREC), (.int (5 : Int32)), (.ref b5), (.ref b5)])) rfl rfl (hb hby at_40)
  have V173 : Arv Z h173 b5 k5 (.object "com/example/requery/requery/eval/Measure") (11 : Int32) [(.ref a_NUM_Q), (.ref a_NUM_RET), (.ref a_NUM_REL), (.ref a_NUM_REL_RET), (.ref a_MAP), (.ref a_RPREC), .null, .null, .null, .null, .null] .null := Arv.set Ar172 q172 Sz172 Nz172 Hz172 Gz172 rfl W173 5 rfl (Nat.le_of_ble_eq_true rfl)
  have N173 := Fr.snoc X173 N145 gz5
  have F174 := F146.other W173 (Or.inl ne_w_b5)
  have E175 := E147.wr W173
  have E176 := E148.wr W173
  have E177 := E149.wr W173
  have E178 := E150.wr W173
  have E179 := E151.wr W173
  have E180 := E152.wr W173
  have E181 := E153.wr W173
  have E182 := E154.wr W173
  have E183 := E155.wr W173
  have E184 := E156.wr W173
  have E185 := E157.wr W173
  have E186 := E158.wr W173
  have S187 := S159.wr W173
  have S188 := S160.wr W173
  have S189 := S161.wr W173
  have S190 := S162.wr W173
  have S191 := S163.wr W173
  have S192 := S164.wr W173
  have S193 := S165.wr W173
  have S194 := S166.wr W173
  have S195 := S167.wr W173
  have S196 := S168.wr W173
  have S197 := S169.wr W173
  have S198 := S170.wr W173
  have Z173 := Nat.le_trans Z145 (Keep.of_wr W173).1
  obtain ⟨T199, X199, e199, st199⟩ := getS2 X173 hx hZ hown (host := "") (Or.inl (hw _ (List.mem_of_getElem? (i := 16) rfl))) Via.refl e173 S193 (g := (mkF m 44 #[.val (.int x1), .unset, .unset, .unset] [(.int (6 : Int32)), (.ref b5), (.ref b5)])) rfl (hb hby at_44)
  obtain ⟨cl200, Ar200, q200, Sz200, Nz200, Hz200, Gz200⟩ := V173
  have hin200 : ¬ ((6 : Int32) < 0 ∨ cl200.slots.size ≤ ((6 : Int32)).toNatClampNeg) := inb_of Sz200 ⟨by decide, by decide⟩
  obtain ⟨T201, h201, X201, e201, W201, st201⟩ := stR X199 hx hZ e199 Ar200 (j := (6 : Int32)) hin200 rfl (Sto.ofV Ar200 q200 O5 (Ins.self E181)) (g := (mkF m 47 #[.val (.int x1), .unset, .unset, .unset] [(.ref a_P_5), (.int (6 : Int32)), (.ref b5), (.ref b5)])) rfl rfl (hb hby at_47)
  have V201 : Arv Z h201 b5 k5 (.object "com/example/requery/requery/eval/Measure") (11 : Int32) [(.ref a_NUM_Q), (.ref a_NUM_RET), (.ref a_NUM_REL), (.ref a_NUM_REL_RET), (.ref a_MAP), (.ref a_RPREC), (.ref a_P_5), .null, .null, .null, .null] .null := Arv.set Ar200 q200 Sz200 Nz200 Hz200 Gz200 rfl W201 6 rfl (Nat.le_of_ble_eq_true rfl)
  have N201 := Fr.snoc X201 N173 gz5
  have F202 := F174.other W201 (Or.inl ne_w_b5)
  have E203 := E175.wr W201
  have E204 := E176.wr W201
  have E205 := E177.wr W201
  have E206 := E178.wr W201
  have E207 := E179.wr W201
  have E208 := E180.wr W201
  have E209 := E181.wr W201
  have E210 := E182.wr W201
  have E211 := E183.wr W201
  have E212 := E184.wr W201
  have E213 := E185.wr W201
  have E214 := E186.wr W201
  have S215 := S187.wr W201
  have S216 := S188.wr W201
  have S217 := S189.wr W201
  have S218 := S190.wr W201
  have S219 := S191.wr W201
  have S220 := S192.wr W201
  have S221 := S193.wr W201
  have S222 := S194.wr W201
  have S223 := S195.wr W201
  have S224 := S196.wr W201
  have S225 := S197.wr W201
  have S226 := S198.wr W201
  have Z201 := Nat.le_trans Z173 (Keep.of_wr W201).1
  obtain ⟨T227, X227, e227, st227⟩ := getS2 X201 hx hZ hown (host := "") (Or.inl (hw _ (List.mem_of_getElem? (i := 18) rfl))) Via.refl e201 S222 (g := (mkF m 51 #[.val (.int x1), .unset, .unset, .unset] [(.int (7 : Int32)), (.ref b5), (.ref b5)])) rfl (hb hby at_51)
  obtain ⟨cl228, Ar228, q228, Sz228, Nz228, Hz228, Gz228⟩ := V201
  have hin228 : ¬ ((7 : Int32) < 0 ∨ cl228.slots.size ≤ ((7 : Int32)).toNatClampNeg) := inb_of Sz228 ⟨by decide, by decide⟩
  obtain ⟨T229, h229, X229, e229, W229, st229⟩ := stR X227 hx hZ e227 Ar228 (j := (7 : Int32)) hin228 rfl (Sto.ofV Ar228 q228 O5 (Ins.self E210)) (g := (mkF m 54 #[.val (.int x1), .unset, .unset, .unset] [(.ref a_P_10), (.int (7 : Int32)), (.ref b5), (.ref b5)])) rfl rfl (hb hby at_54)
  have V229 : Arv Z h229 b5 k5 (.object "com/example/requery/requery/eval/Measure") (11 : Int32) [(.ref a_NUM_Q), (.ref a_NUM_RET), (.ref a_NUM_REL), (.ref a_NUM_REL_RET), (.ref a_MAP), (.ref a_RPREC), (.ref a_P_5), (.ref a_P_10), .null, .null, .null] .null := Arv.set Ar228 q228 Sz228 Nz228 Hz228 Gz228 rfl W229 7 rfl (Nat.le_of_ble_eq_true rfl)
  have N229 := Fr.snoc X229 N201 gz5
  have F230 := F202.other W229 (Or.inl ne_w_b5)
  have E231 := E203.wr W229
  have E232 := E204.wr W229
  have E233 := E205.wr W229
  have E234 := E206.wr W229
  have E235 := E207.wr W229
  have E236 := E208.wr W229
  have E237 := E209.wr W229
  have E238 := E210.wr W229
  have E239 := E211.wr W229
  have E240 := E212.wr W229
  have E241 := E213.wr W229
  have E242 := E214.wr W229
  have S243 := S215.wr W229
  have S244 := S216.wr W229
  have S245 := S217.wr W229
  have S246 := S218.wr W229
  have S247 := S219.wr W229
  have S248 := S220.wr W229
  have S249 := S221.wr W229
  have S250 := S222.wr W229
  have S251 := S223.wr W229
  have S252 := S224.wr W229
  have S253 := S225.wr W229
  have S254 := S226.wr W229
  have Z229 := Nat.le_trans Z201 (Keep.of_wr W229).1
  obtain ⟨T255, X255, e255, st255⟩ := getS2 X229 hx hZ hown (host := "") (Or.inl (hw _ (List.mem_of_getElem? (i := 20) rfl))) Via.refl e229 S251 (g := (mkF m 58 #[.val (.int x1), .unset, .unset, .unset] [(.int (8 : Int32)), (.ref b5), (.ref b5)])) rfl (hb hby at_58)
  obtain ⟨cl256, Ar256, q256, Sz256, Nz256, Hz256, Gz256⟩ := V229
  have hin256 : ¬ ((8 : Int32) < 0 ∨ cl256.slots.size ≤ ((8 : Int32)).toNatClampNeg) := inb_of Sz256 ⟨by decide, by decide⟩
  obtain ⟨T257, h257, X257, e257, W257, st257⟩ := stR X255 hx hZ e255 Ar256 (j := (8 : Int32)) hin256 rfl (Sto.ofV Ar256 q256 O5 (Ins.self E239)) (g := (mkF m 61 #[.val (.int x1), .unset, .unset, .unset] [(.ref a_P_20), (.int (8 : Int32)), (.ref b5), (.ref b5)])) rfl rfl (hb hby at_61)
  have V257 : Arv Z h257 b5 k5 (.object "com/example/requery/requery/eval/Measure") (11 : Int32) [(.ref a_NUM_Q), (.ref a_NUM_RET), (.ref a_NUM_REL), (.ref a_NUM_REL_RET), (.ref a_MAP), (.ref a_RPREC), (.ref a_P_5), (.ref a_P_10), (.ref a_P_20), .null, .null] .null := Arv.set Ar256 q256 Sz256 Nz256 Hz256 Gz256 rfl W257 8 rfl (Nat.le_of_ble_eq_true rfl)
  have N257 := Fr.snoc X257 N229 gz5
  have F258 := F230.other W257 (Or.inl ne_w_b5)
  have E259 := E231.wr W257
  have E260 := E232.wr W257
  have E261 := E233.wr W257
  have E262 := E234.wr W257
  have E263 := E235.wr W257
  have E264 := E236.wr W257
  have E265 := E237.wr W257
  have E266 := E238.wr W257
  have E267 := E239.wr W257
  have E268 := E240.wr W257
  have E269 := E241.wr W257
  have E270 := E242.wr W257
  have S271 := S243.wr W257
  have S272 := S244.wr W257
  have S273 := S245.wr W257
  have S274 := S246.wr W257
  have S275 := S247.wr W257
  have S276 := S248.wr W257
  have S277 := S249.wr W257
  have S278 := S250.wr W257
  have S279 := S251.wr W257
  have S280 := S252.wr W257
  have S281 := S253.wr W257
  have S282 := S254.wr W257
  have Z257 := Nat.le_trans Z229 (Keep.of_wr W257).1
  obtain ⟨T283, X283, e283, st283⟩ := getS2 X257 hx hZ hown (host := "") (Or.inl (hw _ (List.mem_of_getElem? (i := 22) rfl))) Via.refl e257 S280 (g := (mkF m 65 #[.val (.int x1), .unset, .unset, .unset] [(.int (9 : Int32)), (.ref b5), (.ref b5)])) rfl (hb hby at_65)
  obtain ⟨cl284, Ar284, q284, Sz284, Nz284, Hz284, Gz284⟩ := V257
  have hin284 : ¬ ((9 : Int32) < 0 ∨ cl284.slots.size ≤ ((9 : Int32)).toNatClampNeg) := inb_of Sz284 ⟨by decide, by decide⟩
  obtain ⟨T285, h285, X285, e285, W285, st285⟩ := stR X283 hx hZ e283 Ar284 (j := (9 : Int32)) hin284 rfl (Sto.ofV Ar284 q284 O5 (Ins.self E268)) (g := (mkF m 68 #[.val (.int x1), .unset, .unset, .unset] [(.ref a_P_30), (.int (9 : Int32)), (.ref b5), (.ref b5)])) rfl rfl (hb hby at_68)
  have V285 : Arv Z h285 b5 k5 (.object "com/example/requery/requery/eval/Measure") (11 : Int32) [(.ref a_NUM_Q), (.ref a_NUM_RET), (.ref a_NUM_REL), (.ref a_NUM_REL_RET), (.ref a_MAP), (.ref a_RPREC), (.ref a_P_5), (.ref a_P_10), (.ref a_P_20), (.ref a_P_30), .null] .null := Arv.set Ar284 q284 Sz284 Nz284 Hz284 Gz284 rfl W285 9 rfl (Nat.le_of_ble_eq_true rfl)
  have N285 := Fr.snoc X285 N257 gz5
  have F286 := F258.other W285 (Or.inl ne_w_b5)
  have E287 := E259.wr W285
  have E288 := E260.wr W285
  have E289 := E261.wr W285
  have E290 := E262.wr W285
  have E291 := E263.wr W285
  have E292 := E264.wr W285
  have E293 := E265.wr W285
  have E294 := E266.wr W285
  have E295 := E267.wr W285
  have E296 := E268.wr W285
  have E297 := E269.wr W285
  have E298 := E270.wr W285
  have S299 := S271.wr W285
  have S300 := S272.wr W285
  have S301 := S273.wr W285
  have S302 := S274.wr W285
  have S303 := S275.wr W285
  have S304 := S276.wr W285
  have S305 := S277.wr W285
  have S306 := S278.wr W285
  have S307 := S279.wr W285
  have S308 := S280.wr W285
  have S309 := S281.wr W285
  have S310 := S282.wr W285
  have Z285 := Nat.le_trans Z257 (Keep.of_wr W285).1
  obtain ⟨T311, X311, e311, st311⟩ := getS2 X285 hx hZ hown (host := "") (Or.inl (hw _ (List.mem_of_getElem? (i := 24) rfl))) Via.refl e285 S309 (g := (mkF m 72 #[.val (.int x1), .unset, .unset, .unset] [(.int (10 : Int32)), (.ref b5), (.ref b5)])) rfl (hb hby at_72)
  obtain ⟨cl312, Ar312, q312, Sz312, Nz312, Hz312, Gz312⟩ := V285
  have hin312 : ¬ ((10 : Int32) < 0 ∨ cl312.slots.size ≤ ((10 : Int32)).toNatClampNeg) := inb_of Sz312 ⟨by decide, by decide⟩
  obtain ⟨T313, h313, X313, e313, W313, st313⟩ := stR X311 hx hZ e311 Ar312 (j := (10 : Int32)) hin312 rfl (Sto.ofV Ar312 q312 O5 (Ins.self E297)) (g := (mkF m 75 #[.val (.int x1), .unset, .unset, .unset] [(.ref a_RECALL_1000), (.int (10 : Int32)), (.ref b5), (.ref b5)])) rfl rfl (hb hby at_75)
  have V313 : Arv Z h313 b5 k5 (.object "com/example/requery/requery/eval/Measure") (11 : Int32) [(.ref a_NUM_Q), (.ref a_NUM_RET), (.ref a_NUM_REL), (.ref a_NUM_REL_RET), (.ref a_MAP), (.ref a_RPREC), (.ref a_P_5), (.ref a_P_10), (.ref a_P_20), (.ref a_P_30), (.ref a_RECALL_1000)] .null := Arv.set Ar312 q312 Sz312 Nz312 Hz312 Gz312 rfl W313 10 rfl (Nat.le_of_ble_eq_true rfl)
  have N313 := Fr.snoc X313 N285 gz5
  have F314 := F286.other W313 (Or.inl ne_w_b5)
  have E315 := E287.wr W313
  have E316 := E288.wr W313
  have E317 := E289.wr W313
  have E318 := E290.wr W313
  have E319 := E291.wr W313
  have E320 := E292.wr W313
  have E321 := E293.wr W313
  have E322 := E294.wr W313
  have E323 := E295.wr W313
  have E324 := E296.wr W313
  have E325 := E297.wr W313
  have E326 := E298.wr W313
  have S327 := S299.wr W313
  have S328 := S300.wr W313
  have S329 := S301.wr W313
  have S330 := S302.wr W313
  have S331 := S303.wr W313
  have S332 := S304.wr W313
  have S333 := S305.wr W313
  have S334 := S306.wr W313
  have S335 := S307.wr W313
  have S336 := S308.wr W313
  have S337 := S309.wr W313
  have S338 := S310.wr W313
  have Z313 := Nat.le_trans Z285 (Keep.of_wr W313).1
  obtain ⟨cl339, Ar339, q339, Sz339, Nz339, Hz339, Gz339⟩ := V313
  have hin339 : ¬ (((x1 &&& (2147483647 : Int32)) % (11 : Int32)) < 0 ∨ cl339.slots.size ≤ (((x1 &&& (2147483647 : Int32)) % (11 : Int32))).toNatClampNeg) := inb_of Sz339 hin
  have hat339 := Has.at Hz339 hin339 (v := (.ref w)) hat
  obtain ⟨cq340, kq340, q340a, q340b, q340c⟩ := isOf hZ e313 E326
  obtain ⟨_, _, ⟨T340, L340, k340, n340⟩, -, X340, ⟨Lc340, hQ340, l340, y340, z340⟩, st340⟩ := X313.virtualBack hx (y := (⟨"com/example/requery/requery/eval/Measure", "isSum", "()Z"⟩ : MethodName)) (z := (⟨"com/example/requery/requery/eval/Measure", "isSum", "()Z"⟩ : MethodName)) hown (mvT hZ (hw _ (List.mem_of_getElem? (i := 27) rfl))) (mvT hZ (hw _ (List.mem_of_getElem? (i := 28) rfl))) (notFace_of_selects (args := #[]) (mvT hZ (hw _ (List.mem_of_getElem? (i := 30) rfl)))) (mvT hZ (hw _ (List.mem_of_getElem? (i := 30) rfl))) (mvT hZ (hw _ (List.mem_of_getElem? (i := 29) rfl))) (by decide) (backOf (W := 0) (rsum l Z a0 hw [] w kd fr 1 h313 n0 Z313 F314 S338 hs) hZ (hw _ (List.mem_of_getElem? (i := 31) rfl)) (hw _ (List.mem_of_getElem? (i := 3) rfl)) (by decide) (by decide)) q340a q340c (g := (mkF m 99 #[.val (.int x1), .val (.ref b5), .val (.int ((x1 &&& (2147483647 : Int32)) % (11 : Int32))), .val (.int (1 : Int32))] [(.ref w)])) rfl (by rw [hml]; rfl) (Steps.refl _) (argsL := []) (rest := []) (lenOf pd_0 rfl) rfl (by show 2 * 0 + _ ≤ _; exact Nat.le_of_eq rfl) (hb hby at_99) (fun _ _ => ⟨rfl, e313, (by decide : 1 + 0 ≤ _), (by decide : 11 + 0 ≤ _)⟩)
  dsimp only [Pt.U, Pt.locs, Pt.cells, Pt.slots] at X340 l340 y340 z340 st340 hQ340
  subst l340 y340 z340
  obtain ⟨rfl, Nq340, e340⟩ := hQ340
  have N340 := Fr.app N313 Nq340
  obtain ⟨fs, hr, hrun, hended, hW, hsame⟩ := X340.leave (v := some (.int (1 : Int32))) (fun h => by rw [Bd.returns] at h; cases h)
  refine ⟨_, _, pre0 _ ?_, hrun, hended, _, _, rfl, ?_, ⟨_, rfl⟩, hW, hsame.mono (by decide) (by decide)⟩
  · show Steps p.tables e below (s₁.setTop (mkF m 0 #[.val (.int x1), .unset, .unset, .unset] [])) _
    refine XS.bipush X0.here hx rfl (hb hby at_0) ?_
    show Steps p.tables e below (s₁.setTop (mkF m 2 #[.val (.int x1), .unset, .unset, .unset] [(.int (11 : Int32))])) _
    refine st5 _ ?_
    show Steps p.tables e below (T5.setTop (mkF m 5 #[.val (.int x1), .unset, .unset, .unset] [(.ref b5)])) _
    refine XS.dup X5.here hx rfl (hb hby at_5) rfl rfl ?_
    show Steps p.tables e below (T5.setTop (mkF m 6 #[.val (.int x1), .unset, .unset, .unset] [(.ref b5), (.ref b5)])) _
    refine XS.iconst X5.here hx rfl (hb hby at_6) ?_
    show Steps p.tables e below (T5.setTop (mkF m 7 #[.val (.int x1), .unset, .unset, .unset] [(.int (0 : Int32)), (.ref b5), (.ref b5)])) _
    refine st31 _ ?_
    show Steps p.tables e below (T31.setTop (mkF m 10 #[.val (.int x1), .unset, .unset, .unset] [(.ref a_NUM_Q), (.int (0 : Int32)), (.ref b5), (.ref b5)])) _
    refine st33 _ ?_
    show Steps p.tables e below (T33.setTop (mkF m 11 #[.val (.int x1), .unset, .unset, .unset] [(.ref b5)])) _
    refine XS.dup X33.here hx rfl (hb hby at_11) rfl rfl ?_
    show Steps p.tables e below (T33.setTop (mkF m 12 #[.val (.int x1), .unset, .unset, .unset] [(.ref b5), (.ref b5)])) _
    refine XS.iconst X33.here hx rfl (hb hby at_12) ?_
    show Steps p.tables e below (T33.setTop (mkF m 13 #[.val (.int x1), .unset, .unset, .unset] [(.int (1 : Int32)), (.ref b5), (.ref b5)])) _
    refine st59 _ ?_
    show Steps p.tables e below (T59.setTop (mkF m 16 #[.val (.int x1), .unset, .unset, .unset] [(.ref a_NUM_RET), (.int (1 : Int32)), (.ref b5), (.ref b5)])) _
    refine st61 _ ?_
    show Steps p.tables e below (T61.setTop (mkF m 17 #[.val (.int x1), .unset, .unset, .unset] [(.ref b5)])) _
    refine XS.dup X61.here hx rfl (hb hby at_17) rfl rfl ?_
    show Steps p.tables e below (T61.setTop (mkF m 18 #[.val (.int x1), .unset, .unset, .unset] [(.ref b5), (.ref b5)])) _
    refine XS.iconst X61.here hx rfl (hb hby at_18) ?_
    show Steps p.tables e below (T61.setTop (mkF m 19 #[.val (.int x1), .unset, .unset, .unset] [(.int (2 : Int32)), (.ref b5), (.ref b5)])) _
    refine st87 _ ?_
    show Steps p.tables e below (T87.setTop (mkF m 22 #[.val (.int x1), .unset, .unset, .unset] [(.ref a_NUM_REL), (.int (2 : Int32)), (.ref b5), (.ref b5)])) _
    refine st89 _ ?_
    show Steps p.tables e below (T89.setTop (mkF m 23 #[.val (.int x1), .unset, .unset, .unset] [(.ref b5)])) _
    refine XS.dup X89.here hx rfl (hb hby at_23) rfl rfl ?_
    show Steps p.tables e below (T89.setTop (mkF m 24 #[.val (.int x1), .unset, .unset, .unset] [(.ref b5), (.ref b5)])) _
    refine XS.iconst X89.here hx rfl (hb hby at_24) ?_
    show Steps p.tables e below (T89.setTop (mkF m 25 #[.val (.int x1), .unset, .unset, .unset] [(.int (3 : Int32)), (.ref b5), (.ref b5)])) _
    refine st115 _ ?_
    show Steps p.tables e below (T115.setTop (mkF m 28 #[.val (.int x1), .unset, .unset, .unset] [(.ref a_NUM_REL_RET), (.int (3 : Int32)), (.ref b5), (.ref b5)])) _
    refine st117 _ ?_
    show Steps p.tables e below (T117.setTop (mkF m 29 #[.val (.int x1), .unset, .unset, .unset] [(.ref b5)])) _
    refine XS.dup X117.here hx rfl (hb hby at_29) rfl rfl ?_
    show Steps p.tables e below (T117.setTop (mkF m 30 #[.val (.int x1), .unset, .unset, .unset] [(.ref b5), (.ref b5)])) _
    refine XS.iconst X117.here hx rfl (hb hby at_30) ?_
    show Steps p.tables e below (T117.setTop (mkF m 31 #[.val (.int x1), .unset, .unset, .unset] [(.int (4 : Int32)), (.ref b5), (.ref b5)])) _
    refine st143 _ ?_
    show Steps p.tables e below (T143.setTop (mkF m 34 #[.val (.int x1), .unset, .unset, .unset] [(.ref a_MAP), (.int (4 : Int32)), (.ref b5), (.ref b5)])) _
    refine st145 _ ?_
    show Steps p.tables e below (T145.setTop (mkF m 35 #[.val (.int x1), .unset, .unset, .unset] [(.ref b5)])) _
    refine XS.dup X145.here hx rfl (hb hby at_35) rfl rfl ?_
    show Steps p.tables e below (T145.setTop (mkF m 36 #[.val (.int x1), .unset, .unset, .unset] [(.ref b5), (.ref b5)])) _
    refine XS.iconst X145.here hx rfl (hb hby at_36) ?_
    show Steps p.tables e below (T145.setTop (mkF m 37 #[.val (.int x1), .unset, .unset, .unset] [(.int (5 : Int32)), (.ref b5), (.ref b5)])) _
    refine st171 _ ?_
    show Steps p.tables e below (T171.setTop (mkF m 40 #[.val (.int x1), .unset, .unset, .unset] [(.ref a_RPREC), (.int (5 : Int32)), (.ref b5), (.ref b5)])) _
    refine st173 _ ?_
    show Steps p.tables e below (T173.setTop (mkF m 41 #[.val (.int x1), .unset, .unset, .unset] [(.ref b5)])) _
    refine XS.dup X173.here hx rfl (hb hby at_41) rfl rfl ?_
    show Steps p.tables e below (T173.setTop (mkF m 42 #[.val (.int x1), .unset, .unset, .unset] [(.ref b5), (.ref b5)])) _
    refine XS.bipush X173.here hx rfl (hb hby at_42) ?_
    show Steps p.tables e below (T173.setTop (mkF m 44 #[.val (.int x1), .unset, .unset, .unset] [(.int (6 : Int32)), (.ref b5), (.ref b5)])) _
    refine st199 _ ?_
    show Steps p.tables e below (T199.setTop (mkF m 47 #[.val (.int x1), .unset, .unset, .unset] [(.ref a_P_5), (.int (6 : Int32)), (.ref b5), (.ref b5)])) _
    refine st201 _ ?_
    show Steps p.tables e below (T201.setTop (mkF m 48 #[.val (.int x1), .unset, .unset, .unset] [(.ref b5)])) _
    refine XS.dup X201.here hx rfl (hb hby at_48) rfl rfl ?_
    show Steps p.tables e below (T201.setTop (mkF m 49 #[.val (.int x1), .unset, .unset, .unset] [(.ref b5), (.ref b5)])) _
    refine XS.bipush X201.here hx rfl (hb hby at_49) ?_
    show Steps p.tables e below (T201.setTop (mkF m 51 #[.val (.int x1), .unset, .unset, .unset] [(.int (7 : Int32)), (.ref b5), (.ref b5)])) _
    refine st227 _ ?_
    show Steps p.tables e below (T227.setTop (mkF m 54 #[.val (.int x1), .unset, .unset, .unset] [(.ref a_P_10), (.int (7 : Int32)), (.ref b5), (.ref b5)])) _
    refine st229 _ ?_
    show Steps p.tables e below (T229.setTop (mkF m 55 #[.val (.int x1), .unset, .unset, .unset] [(.ref b5)])) _
    refine XS.dup X229.here hx rfl (hb hby at_55) rfl rfl ?_
    show Steps p.tables e below (T229.setTop (mkF m 56 #[.val (.int x1), .unset, .unset, .unset] [(.ref b5), (.ref b5)])) _
    refine XS.bipush X229.here hx rfl (hb hby at_56) ?_
    show Steps p.tables e below (T229.setTop (mkF m 58 #[.val (.int x1), .unset, .unset, .unset] [(.int (8 : Int32)), (.ref b5), (.ref b5)])) _
    refine st255 _ ?_
    show Steps p.tables e below (T255.setTop (mkF m 61 #[.val (.int x1), .unset, .unset, .unset] [(.ref a_P_20), (.int (8 : Int32)), (.ref b5), (.ref b5)])) _
    refine st257 _ ?_
    show Steps p.tables e below (T257.setTop (mkF m 62 #[.val (.int x1), .unset, .unset, .unset] [(.ref b5)])) _
    refine XS.dup X257.here hx rfl (hb hby at_62) rfl rfl ?_
    show Steps p.tables e below (T257.setTop (mkF m 63 #[.val (.int x1), .unset, .unset, .unset] [(.ref b5), (.ref b5)])) _
    refine XS.bipush X257.here hx rfl (hb hby at_63) ?_
    show Steps p.tables e below (T257.setTop (mkF m 65 #[.val (.int x1), .unset, .unset, .unset] [(.int (9 : Int32)), (.ref b5), (.ref b5)])) _
    refine st283 _ ?_
    show Steps p.tables e below (T283.setTop (mkF m 68 #[.val (.int x1), .unset, .unset, .unset] [(.ref a_P_30), (.int (9 : Int32)), (.ref b5), (.ref b5)])) _
    refine st285 _ ?_
    show Steps p.tables e below (T285.setTop (mkF m 69 #[.val (.int x1), .unset, .unset, .unset] [(.ref b5)])) _
    refine XS.dup X285.here hx rfl (hb hby at_69) rfl rfl ?_
    show Steps p.tables e below (T285.setTop (mkF m 70 #[.val (.int x1), .unset, .unset, .unset] [(.ref b5), (.ref b5)])) _
    refine XS.bipush X285.here hx rfl (hb hby at_70) ?_
    show Steps p.tables e below (T285.setTop (mkF m 72 #[.val (.int x1), .unset, .unset, .unset] [(.int (10 : Int32)), (.ref b5), (.ref b5)])) _
    refine st311 _ ?_
    show Steps p.tables e below (T311.setTop (mkF m 75 #[.val (.int x1), .unset, .unset, .unset] [(.ref a_RECALL_1000), (.int (10 : Int32)), (.ref b5), (.ref b5)])) _
    refine st313 _ ?_
    show Steps p.tables e below (T313.setTop (mkF m 76 #[.val (.int x1), .unset, .unset, .unset] [(.ref b5)])) _
    refine XS.astoreN X313.here hx rfl (hb hby at_76) rfl rfl (l' := #[.val (.int x1), .val (.ref b5), .unset, .unset]) rfl ?_
    show Steps p.tables e below (T313.setTop (mkF m 77 #[.val (.int x1), .val (.ref b5), .unset, .unset] [])) _
    refine XS.iloadN X313.here hx rfl (hb hby at_77) rfl ?_
    show Steps p.tables e below (T313.setTop (mkF m 78 #[.val (.int x1), .val (.ref b5), .unset, .unset] [(.int x1)])) _
    refine X313.ldcInt hx hown (mvT hZ (hw _ (List.mem_of_getElem? (i := 26) rfl))) (g := (mkF m 78 #[.val (.int x1), .val (.ref b5), .unset, .unset] [(.int x1)])) rfl (hb hby at_78) _ ?_
    show Steps p.tables e below (T313.setTop (mkF m 80 #[.val (.int x1), .val (.ref b5), .unset, .unset] [(.int (2147483647 : Int32)), (.int x1)])) _
    refine XS.iand X313.here hx rfl (hb hby at_80) rfl ?_
    show Steps p.tables e below (T313.setTop (mkF m 81 #[.val (.int x1), .val (.ref b5), .unset, .unset] [(.int (x1 &&& (2147483647 : Int32)))])) _
    refine XS.bipush X313.here hx rfl (hb hby at_81) ?_
    show Steps p.tables e below (T313.setTop (mkF m 83 #[.val (.int x1), .val (.ref b5), .unset, .unset] [(.int (11 : Int32)), (.int (x1 &&& (2147483647 : Int32)))])) _
    refine iremM X313 hx rfl (hb hby at_83) rfl (by decide) ?_
    show Steps p.tables e below (T313.setTop (mkF m 84 #[.val (.int x1), .val (.ref b5), .unset, .unset] [(.int ((x1 &&& (2147483647 : Int32)) % (11 : Int32)))])) _
    refine XS.istoreN X313.here hx rfl (hb hby at_84) rfl (l' := #[.val (.int x1), .val (.ref b5), .val (.int ((x1 &&& (2147483647 : Int32)) % (11 : Int32))), .unset]) rfl ?_
    show Steps p.tables e below (T313.setTop (mkF m 85 #[.val (.int x1), .val (.ref b5), .val (.int ((x1 &&& (2147483647 : Int32)) % (11 : Int32))), .unset] [])) _
    refine XS.iloadN X313.here hx rfl (hb hby at_85) rfl ?_
    show Steps p.tables e below (T313.setTop (mkF m 86 #[.val (.int x1), .val (.ref b5), .val (.int ((x1 &&& (2147483647 : Int32)) % (11 : Int32))), .unset] [(.int ((x1 &&& (2147483647 : Int32)) % (11 : Int32)))])) _
    refine XS.iconst X313.here hx rfl (hb hby at_86) ?_
    show Steps p.tables e below (T313.setTop (mkF m 87 #[.val (.int x1), .val (.ref b5), .val (.int ((x1 &&& (2147483647 : Int32)) % (11 : Int32))), .unset] [(.int (4 : Int32)), (.int ((x1 &&& (2147483647 : Int32)) % (11 : Int32)))])) _
    refine XS.icmpNo X313.here hx rfl (hb hby at_87) rfl (tlt hc87).2.1 ?_
    show Steps p.tables e below (T313.setTop (mkF m 90 #[.val (.int x1), .val (.ref b5), .val (.int ((x1 &&& (2147483647 : Int32)) % (11 : Int32))), .unset] [])) _
    refine XS.iconst X313.here hx rfl (hb hby at_90) ?_
    show Steps p.tables e below (T313.setTop (mkF m 91 #[.val (.int x1), .val (.ref b5), .val (.int ((x1 &&& (2147483647 : Int32)) % (11 : Int32))), .unset] [(.int (1 : Int32))])) _
    refine XS.goto X313.here hx rfl (pc0 := 91) (pc' := 95) rfl (hb hby at_91) (by decide) (by decide) ?_
    show Steps p.tables e below (T313.setTop (mkF m 95 #[.val (.int x1), .val (.ref b5), .val (.int ((x1 &&& (2147483647 : Int32)) % (11 : Int32))), .unset] [(.int (1 : Int32))])) _
    refine XS.istoreN X313.here hx rfl (hb hby at_95) rfl (l' := #[.val (.int x1), .val (.ref b5), .val (.int ((x1 &&& (2147483647 : Int32)) % (11 : Int32))), .val (.int (1 : Int32))]) rfl ?_
    show Steps p.tables e below (T313.setTop (mkF m 96 #[.val (.int x1), .val (.ref b5), .val (.int ((x1 &&& (2147483647 : Int32)) % (11 : Int32))), .val (.int (1 : Int32))] [])) _
    refine XS.aloadN X313.here hx rfl (hb hby at_96) rfl rfl ?_
    show Steps p.tables e below (T313.setTop (mkF m 97 #[.val (.int x1), .val (.ref b5), .val (.int ((x1 &&& (2147483647 : Int32)) % (11 : Int32))), .val (.int (1 : Int32))] [(.ref b5)])) _
    refine XS.iloadN X313.here hx rfl (hb hby at_97) rfl ?_
    show Steps p.tables e below (T313.setTop (mkF m 98 #[.val (.int x1), .val (.ref b5), .val (.int ((x1 &&& (2147483647 : Int32)) % (11 : Int32))), .val (.int (1 : Int32))] [(.int ((x1 &&& (2147483647 : Int32)) % (11 : Int32))), (.ref b5)])) _
    refine X313.aaload hx (j := ((x1 &&& (2147483647 : Int32)) % (11 : Int32))) (v := (.ref w)) (by rw [e313]; exact Ar339.1) (State.isArrayOf_alike hZ.alike Ar339.2.1) rfl Ar339.2.2 hin339 hat339 (g := (mkF m 98 #[.val (.int x1), .val (.ref b5), .val (.int ((x1 &&& (2147483647 : Int32)) % (11 : Int32))), .val (.int (1 : Int32))] [(.int ((x1 &&& (2147483647 : Int32)) % (11 : Int32))), (.ref b5)])) rfl rfl (hb hby at_98) _ ?_
    show Steps p.tables e below (T313.setTop (mkF m 99 #[.val (.int x1), .val (.ref b5), .val (.int ((x1 &&& (2147483647 : Int32)) % (11 : Int32))), .val (.int (1 : Int32))] [(.ref w)])) _
    refine st340.trans ?_
    show Steps p.tables e below (T340.setTop (mkF m 102 #[.val (.int x1), .val (.ref b5), .val (.int ((x1 &&& (2147483647 : Int32)) % (11 : Int32))), .val (.int (1 : Int32))] [(.int (1 : Int32))])) _
    refine XS.iloadN X340.here hx rfl (hb hby at_102) rfl ?_
    show Steps p.tables e below (T340.setTop (mkF m 103 #[.val (.int x1), .val (.ref b5), .val (.int ((x1 &&& (2147483647 : Int32)) % (11 : Int32))), .val (.int (1 : Int32))] [(.int (1 : Int32)), (.int (1 : Int32))])) _
    refine XS.icmpNo X340.here hx rfl (hb hby at_103) rfl (teq (by decide)).2 ?_
    show Steps p.tables e below (T340.setTop (mkF m 106 #[.val (.int x1), .val (.ref b5), .val (.int ((x1 &&& (2147483647 : Int32)) % (11 : Int32))), .val (.int (1 : Int32))] [])) _
    refine XS.iconst X340.here hx rfl (hb hby at_106) ?_
    show Steps p.tables e below (T340.setTop (mkF m 107 #[.val (.int x1), .val (.ref b5), .val (.int ((x1 &&& (2147483647 : Int32)) % (11 : Int32))), .val (.int (1 : Int32))] [(.int (1 : Int32))])) _
    refine XS.goto X340.here hx rfl (pc0 := 107) (pc' := 111) rfl (hb hby at_107) (by decide) (by decide) ?_
    show Steps p.tables e below (T340.setTop (mkF m 111 #[.val (.int x1), .val (.ref b5), .val (.int ((x1 &&& (2147483647 : Int32)) % (11 : Int32))), .val (.int (1 : Int32))] [(.int (1 : Int32))])) _
    exact retN X340 hx (t := .boolean) Bd.returns (by simp) (hb hby at_111) hr
  · show QL n0 _ T340.heap _
    rw [e340]
    exact ⟨rfl, N340⟩
set_option maxRecDepth 65536 in
set_option maxHeartbeats 40000000 in
theorem rm0b (l : Launch) (Z : State) (a0 : Array Value) (hw : ∀ d ∈ tables_1, d.before a0 Z = true) (ws : List Jvm.Cond) (x1 : Int32) (a_NUM_Q a_NUM_RET a_NUM_REL a_NUM_REL_RET a_MAP a_RPREC a_P_5 a_P_10 a_P_20 a_P_30 a_RECALL_1000 : Addr) (w kd fr : Addr) (h0 : Heap) (n0 : Nat) (Z0 : n0 ≤ h0.size) (E_NUM_Q : Exa Z h0 a_NUM_Q "com/example/requery/requery/eval/Measure") (S_NUM_Q : Sta Z h0 "com/example/requery/requery/eval/Measure" "NUM_Q" "Lcom/example/requery/requery/eval/Measure;" (.ref a_NUM_Q)) (E_NUM_RET : Exa Z h0 a_NUM_RET "com/example/requery/requery/eval/Measure") (S_NUM_RET : Sta Z h0 "com/example/requery/requery/eval/Measure" "NUM_RET" "Lcom/example/requery/requery/eval/Measure;" (.ref a_NUM_RET)) (E_NUM_REL : Exa Z h0 a_NUM_REL "com/example/requery/requery/eval/Measure") (S_NUM_REL : Sta Z h0 "com/example/requery/requery/eval/Measure" "NUM_REL" "Lcom/example/requery/requery/eval/Measure;" (.ref a_NUM_REL)) (E_NUM_REL_RET : Exa Z h0 a_NUM_REL_RET "com/example/requery/requery/eval/Measure") (S_NUM_REL_RET : Sta Z h0 "com/example/requery/requery/eval/Measure" "NUM_REL_RET" "Lcom/example/requery/requery/eval/Measure;" (.ref a_NUM_REL_RET)) (E_MAP : Exa Z h0 a_MAP "com/example/requery/requery/eval/Measure") (S_MAP : Sta Z h0 "com/example/requery/requery/eval/Measure" "MAP" "Lcom/example/requery/requery/eval/Measure;" (.ref a_MAP)) (E_RPREC : Exa Z h0 a_RPREC "com/example/requery/requery/eval/Measure") (S_RPREC : Sta Z h0 "com/example/requery/requery/eval/Measure" "RPREC" "Lcom/example/requery/requery/eval/Measure;" (.ref a_RPREC)) (E_P_5 : Exa Z h0 a_P_5 "com/example/requery/requery/eval/Measure") (S_P_5 : Sta Z h0 "com/example/requery/requery/eval/Measure" "P_5" "Lcom/example/requery/requery/eval/Measure;" (.ref a_P_5)) (E_P_10 : Exa Z h0 a_P_10 "com/example/requery/requery/eval/Measure") (S_P_10 : Sta Z h0 "com/example/requery/requery/eval/Measure" "P_10" "Lcom/example/requery/requery/eval/Measure;" (.ref a_P_10)) (E_P_20 : Exa Z h0 a_P_20 "com/example/requery/requery/eval/Measure") (S_P_20 : Sta Z h0 "com/example/requery/requery/eval/Measure" "P_20" "Lcom/example/requery/requery/eval/Measure;" (.ref a_P_20)) (E_P_30 : Exa Z h0 a_P_30 "com/example/requery/requery/eval/Measure") (S_P_30 : Sta Z h0 "com/example/requery/requery/eval/Measure" "P_30" "Lcom/example/requery/requery/eval/Measure;" (.ref a_P_30)) (E_RECALL_1000 : Exa Z h0 a_RECALL_1000 "com/example/requery/requery/eval/Measure") (S_RECALL_1000 : Sta Z h0 "com/example/requery/requery/eval/Measure" "RECALL_1000" "Lcom/example/requery/requery/eval/Measure;" (.ref a_RECALL_1000)) (S_FR : Sta Z h0 "com/example/requery/requery/eval/Measure$Kind" "FRACTION" "Lcom/example/requery/requery/eval/Measure$Kind;" (.ref fr)) (Ew : Exa Z h0 w "com/example/requery/requery/eval/Measure") (Fw : Fld Z h0 w "com/example/requery/requery/eval/Measure" "kind" "Lcom/example/requery/requery/eval/Measure$Kind;" (.ref kd)) (hin : ¬ ((x1 &&& (2147483647 : Int32)) % (11 : Int32)) < 0 ∧ ((x1 &&& (2147483647 : Int32)) % (11 : Int32)) < (11 : Int32)) (hat : ([(.ref a_NUM_Q), (.ref a_NUM_RET), (.ref a_NUM_REL), (.ref a_NUM_REL_RET), (.ref a_MAP), (.ref a_RPREC), (.ref a_P_5), (.ref a_P_10), (.ref a_P_20), (.ref a_P_30), (.ref a_RECALL_1000)] : List Value).getD (((x1 &&& (2147483647 : Int32)) % (11 : Int32))).toNatClampNeg .null = .ref w) (hs : SumV kd fr 0) (hc87 : ¬ (((x1 &&& (2147483647 : Int32)) % (11 : Int32)) < (4 : Int32))) :
    MetFree l x (head1 (Jvm.Cond.code x code maxLocals ret :: ws) room_1) (fun zA zU => zA = #[(.int x1)] ∧ Z.Warmed39 zU.vm ∧ zU.heap = h0) (fun _ _ _ _ _ => True) (fun _ zU zO zW => ∃ zV zL, zO = .returned zV ∧ QL n0 zV zW.heap zL ∧ FrameEnd zU zO zW zL room_1.cells room_1.slots) := by
  refine MetFree.of_bodySF (plainFor_of_name pn_MeasureIsSumPinLaw) hisR ?_
  intro p e s m args below meth c s₁ Bd hml0 hP hK
  obtain ⟨rfl, hZ, hh⟩ := hP
  have hx := Bd.exec
  have hby := Bd.bytes
  have hml : c.maxLocals = 4 := hml0
  have hown : s.vm.findClass "com/example/requery/requery/eval/MeasureIsSumPinLaw" = some m.cls := findClass_of_methodNamed Bd.named
  have hnm := (name_of_methodNamed Bd.named Bd.method).1
  have X0 : Stand p l e room_1 s m #[(.int x1)] below meth c s₁ [] 0 0 := Stand.of_body Bd
  have e0 : s₁.heap = h0 := by rw [← hh, Bd.state]; rfl
  have N0 := Fr.nil n0
  have pre0 : ∀ zt, Steps p.tables e below (s₁.setTop (mkF m 0 #[.val (.int x1), .unset, .unset, .unset] [])) zt → Steps p.tables e below (s₁.setTop (entryFrame m #[(.int x1)] maxLocals)) zt := fun zt zk => castTop (ef_0_I m x1) zk
  obtain ⟨T341, h341, k341, X341, e341, E341, A341, O341, st341⟩ := newR X0 hx hZ hown (hw _ (List.mem_of_getElem? (i := 0) rfl)) (hw _ (List.mem_of_getElem? (i := 1) rfl)) e0 (g := (mkF m 2 #[.val (.int x1), .unset, .unset, .unset] [(.int (11 : Int32))])) rfl (hb hby at_2) rfl (by decide) (cap := 11) (by decide) (by decide) (by decide) (by decide)
  obtain ⟨b341, g341⟩ : ∃ z, z = h0.size := ⟨_, rfl⟩
  rw [← g341] at A341 st341
  have gz341 : n0 ≤ b341 := Nat.le_trans Z0 (Nat.le_of_eq g341.symm)
  have ne_w_b341 : w ≠ b341 := Nat.ne_of_lt (Nat.lt_of_lt_of_le Fw.lt (Nat.le_of_eq g341.symm))
  have ne_a_NUM_Q_b341 : a_NUM_Q ≠ b341 := Nat.ne_of_lt (Nat.lt_of_lt_of_le E_NUM_Q.lt (Nat.le_of_eq g341.symm))
  have ne_a_NUM_RET_b341 : a_NUM_RET ≠ b341 := Nat.ne_of_lt (Nat.lt_of_lt_of_le E_NUM_RET.lt (Nat.le_of_eq g341.symm))
  have ne_a_NUM_REL_b341 : a_NUM_REL ≠ b341 := Nat.ne_of_lt (Nat.lt_of_lt_of_le E_NUM_REL.lt (Nat.le_of_eq g341.symm))
  have ne_a_NUM_REL_RET_b341 : a_NUM_REL_RET ≠ b341 := Nat.ne_of_lt (Nat.lt_of_lt_of_le E_NUM_REL_RET.lt (Nat.le_of_eq g341.symm))
  have ne_a_MAP_b341 : a_MAP ≠ b341 := Nat.ne_of_lt (Nat.lt_of_lt_of_le E_MAP.lt (Nat.le_of_eq g341.symm))
  have ne_a_RPREC_b341 : a_RPREC ≠ b341 := Nat.ne_of_lt (Nat.lt_of_lt_of_le E_RPREC.lt (Nat.le_of_eq g341.symm))
  have ne_a_P_5_b341 : a_P_5 ≠ b341 := Nat.ne_of_lt (Nat.lt_of_lt_of_le E_P_5.lt (Nat.le_of_eq g341.symm))
  have ne_a_P_10_b341 : a_P_10 ≠ b341 := Nat.ne_of_lt (Nat.lt_of_lt_of_le E_P_10.lt (Nat.le_of_eq g341.symm))
  have ne_a_P_20_b341 : a_P_20 ≠ b341 := Nat.ne_of_lt (Nat.lt_of_lt_of_le E_P_20.lt (Nat.le_of_eq g341.symm))
  have ne_a_P_30_b341 : a_P_30 ≠ b341 := Nat.ne_of_lt (Nat.lt_of_lt_of_le E_P_30.lt (Nat.le_of_eq g341.symm))
  have ne_a_RECALL_1000_b341 : a_RECALL_1000 ≠ b341 := Nat.ne_of_lt (Nat.lt_of_lt_of_le E_RECALL_1000.lt (Nat.le_of_eq g341.symm))
  have F342 := Fw.ext E341
  have E343 := E_NUM_Q.ext E341
  have E344 := E_NUM_RET.ext E341
  have E345 := E_NUM_REL.ext E341
  have E346 := E_NUM_REL_RET.ext E341
  have E347 := E_MAP.ext E341
  have E348 := E_RPREC.ext E341
  have E349 := E_P_5.ext E341
  have E350 := E_P_10.ext E341
  have E351 := E_P_20.ext E341
  have E352 := E_P_30.ext E341
  have E353 := E_RECALL_1000.ext E341
  have E354 := Ew.ext E341
  have S355 := S_NUM_Q.ext E341
  have S356 := S_NUM_RET.ext E341
  have S357 := S_NUM_REL.ext E341
  have S358 := S_NUM_REL_RET.ext E341
  have S359 := S_MAP.ext E341
  have S360 := S_RPREC.ext E341
  have S361 := S_P_5.ext E341
  have S362 := S_P_10.ext E341
  have S363 := S_P_20.ext E341
  have S364 := S_P_30.ext E341
  have S365 := S_RECALL_1000.ext E341
  have S366 := S_FR.ext E341
  have Z341 := Nat.le_trans Z0 E341.1
  have V341 : Arv Z h341 b341 k341 (.object "com/example/requery/requery/eval/Measure") (11 : Int32) [.null, .null, .null, .null, .null, .null, .null, .null, .null, .null, .null] .null := (Arv.new A341 (by decide)).pad (pad_rep [] .null 11)
  obtain ⟨T367, X367, e367, st367⟩ := getS2 X341 hx hZ hown (host := "") (Or.inl (hw _ (List.mem_of_getElem? (i := 2) rfl))) Via.refl e341 S355 (g := (mkF m 7 #[.val (.int x1), .unset, .unset, .unset] [(.int (0 : Int32)), (.ref b341), (.ref b341)])) rfl (hb hby at_7)
  obtain ⟨cl368, Ar368, q368, Sz368, Nz368, Hz368, Gz368⟩ := V341
  have hin368 : ¬ ((0 : Int32) < 0 ∨ cl368.slots.size ≤ ((0 : Int32)).toNatClampNeg) := inb_of Sz368 ⟨by decide, by decide⟩
  obtain ⟨T369, h369, X369, e369, W369, st369⟩ := stR X367 hx hZ e367 Ar368 (j := (0 : Int32)) hin368 rfl (Sto.ofV Ar368 q368 O341 (Ins.self E343)) (g := (mkF m 10 #[.val (.int x1), .unset, .unset, .unset] [(.ref a_NUM_Q), (.int (0 : Int32)), (.ref b341), (.ref b341)])) rfl rfl (hb hby at_10)
  have V369 : Arv Z h369 b341 k341 (.object "com/example/requery/requery/eval/Measure") (11 : Int32) [(.ref a_NUM_Q), .null, .null, .null, .null, .null, .null, .null, .null, .null, .null] .null := Arv.set Ar368 q368 Sz368 Nz368 Hz368 Gz368 rfl W369 0 rfl (Nat.le_of_ble_eq_true rfl)
  have N369 := Fr.snoc X369 N0 gz341
  have F370 := F342.other W369 (Or.inl ne_w_b341)
  have E371 := E343.wr W369
  have E372 := E344.wr W369
  have E373 := E345.wr W369
  have E374 := E346.wr W369
  have E375 := E347.wr W369
  have E376 := E348.wr W369
  have E377 := E349.wr W369
  have E378 := E350.wr W369
  have E379 := E351.wr W369
  have E380 := E352.wr W369
  have E381 := E353.wr W369
  have E382 := E354.wr W369
  have S383 := S355.wr W369
  have S384 := S356.wr W369
  have S385 := S357.wr W369
  have S386 := S358.wr W369
  have S387 := S359.wr W369
  have S388 := S360.wr W369
  have S389 := S361.wr W369
  have S390 := S362.wr W369
  have S391 := S363.wr W369
  have S392 := S364.wr W369
  have S393 := S365.wr W369
  have S394 := S366.wr W369
  have Z369 := Nat.le_trans Z341 (Keep.of_wr W369).1
  obtain ⟨T395, X395, e395, st395⟩ := getS2 X369 hx hZ hown (host := "") (Or.inl (hw _ (List.mem_of_getElem? (i := 6) rfl))) Via.refl e369 S384 (g := (mkF m 13 #[.val (.int x1), .unset, .unset, .unset] [(.int (1 : Int32)), (.ref b341), (.ref b341)])) rfl (hb hby at_13)
  obtain ⟨cl396, Ar396, q396, Sz396, Nz396, Hz396, Gz396⟩ := V369
  have hin396 : ¬ ((1 : Int32) < 0 ∨ cl396.slots.size ≤ ((1 : Int32)).toNatClampNeg) := inb_of Sz396 ⟨by decide, by decide⟩
  obtain ⟨T397, h397, X397, e397, W397, st397⟩ := stR X395 hx hZ e395 Ar396 (j := (1 : Int32)) hin396 rfl (Sto.ofV Ar396 q396 O341 (Ins.self E372)) (g := (mkF m 16 #[.val (.int x1), .unset, .unset, .unset] [(.ref a_NUM_RET), (.int (1 : Int32)), (.ref b341), (.ref b341)])) rfl rfl (hb hby at_16)
  have V397 : Arv Z h397 b341 k341 (.object "com/example/requery/requery/eval/Measure") (11 : Int32) [(.ref a_NUM_Q), (.ref a_NUM_RET), .null, .null, .null, .null, .null, .null, .null, .null, .null] .null := Arv.set Ar396 q396 Sz396 Nz396 Hz396 Gz396 rfl W397 1 rfl (Nat.le_of_ble_eq_true rfl)
  have N397 := Fr.snoc X397 N369 gz341
  have F398 := F370.other W397 (Or.inl ne_w_b341)
  have E399 := E371.wr W397
  have E400 := E372.wr W397
  have E401 := E373.wr W397
  have E402 := E374.wr W397
  have E403 := E375.wr W397
  have E404 := E376.wr W397
  have E405 := E377.wr W397
  have E406 := E378.wr W397
  have E407 := E379.wr W397
  have E408 := E380.wr W397
  have E409 := E381.wr W397
  have E410 := E382.wr W397
  have S411 := S383.wr W397
  have S412 := S384.wr W397
  have S413 := S385.wr W397
  have S414 := S386.wr W397
  have S415 := S387.wr W397
  have S416 := S388.wr W397
  have S417 := S389.wr W397
  have S418 := S390.wr W397
  have S419 := S391.wr W397
  have S420 := S392.wr W397
  have S421 := S393.wr W397
  have S422 := S394.wr W397
  have Z397 := Nat.le_trans Z369 (Keep.of_wr W397).1
  obtain ⟨T423, X423, e423, st423⟩ := getS2 X397 hx hZ hown (host := "") (Or.inl (hw _ (List.mem_of_getElem? (i := 8) rfl))) Via.refl e397 S413 (g := (mkF m 19 #[.val (.int x1), .unset, .unset, .unset] [(.int (2 : Int32)), (.ref b341), (.ref b341)])) rfl (hb hby at_19)
  obtain ⟨cl424, Ar424, q424, Sz424, Nz424, Hz424, Gz424⟩ := V397
  have hin424 : ¬ ((2 : Int32) < 0 ∨ cl424.slots.size ≤ ((2 : Int32)).toNatClampNeg) := inb_of Sz424 ⟨by decide, by decide⟩
  obtain ⟨T425, h425, X425, e425, W425, st425⟩ := stR X423 hx hZ e423 Ar424 (j := (2 : Int32)) hin424 rfl (Sto.ofV Ar424 q424 O341 (Ins.self E401)) (g := (mkF m 22 #[.val (.int x1), .unset, .unset, .unset] [(.ref a_NUM_REL), (.int (2 : Int32)), (.ref b341), (.ref b341)])) rfl rfl (hb hby at_22)
  have V425 : Arv Z h425 b341 k341 (.object "com/example/requery/requery/eval/Measure") (11 : Int32) [(.ref a_NUM_Q), (.ref a_NUM_RET), (.ref a_NUM_REL), .null, .null, .null, .null, .null, .null, .null, .null] .null := Arv.set Ar424 q424 Sz424 Nz424 Hz424 Gz424 rfl W425 2 rfl (Nat.le_of_ble_eq_true rfl)
  have N425 := Fr.snoc X425 N397 gz341
  have F426 := F398.other W425 (Or.inl ne_w_b341)
  have E427 := E399.wr W425
  have E428 := E400.wr W425
  have E429 := E401.wr W425
  have E430 := E402.wr W425
  have E431 := E403.wr W425
  have E432 := E404.wr W425
  have E433 := E405.wr W425
  have E434 := E406.wr W425
  have E435 := E407.wr W425
  have E436 := E408.wr W425
  have E437 := E409.wr W425
  have E438 := E410.wr W425
  have S439 := S411.wr W425
  have S440 := S412.wr W425
  have S441 := S413.wr W425
  have S442 := S414.wr W425
  have S443 := S415.wr W425
  have S444 := S416.wr W425
  have S445 := S417.wr W425
  have S446 := S418.wr W425
  have S447 := S419.wr W425
  have S448 := S420.wr W425
  have S449 := S421.wr W425
  have S450 := S422.wr W425
  have Z425 := Nat.le_trans Z397 (Keep.of_wr W425).1
  obtain ⟨T451, X451, e451, st451⟩ := getS2 X425 hx hZ hown (host := "") (Or.inl (hw _ (List.mem_of_getElem? (i := 10) rfl))) Via.refl e425 S442 (g := (mkF m 25 #[.val (.int x1), .unset, .unset, .unset] [(.int (3 : Int32)), (.ref b341), (.ref b341)])) rfl (hb hby at_25)
  obtain ⟨cl452, Ar452, q452, Sz452, Nz452, Hz452, Gz452⟩ := V425
  have hin452 : ¬ ((3 : Int32) < 0 ∨ cl452.slots.size ≤ ((3 : Int32)).toNatClampNeg) := inb_of Sz452 ⟨by decide, by decide⟩
  obtain ⟨T453, h453, X453, e453, W453, st453⟩ := stR X451 hx hZ e451 Ar452 (j := (3 : Int32)) hin452 rfl (Sto.ofV Ar452 q452 O341 (Ins.self E430)) (g := (mkF m 28 #[.val (.int x1), .unset, .unset, .unset] [(.ref a_NUM_REL_RET), (.int (3 : Int32)), (.ref b341), (.ref b341)])) rfl rfl (hb hby at_28)
  have V453 : Arv Z h453 b341 k341 (.object "com/example/requery/requery/eval/Measure") (11 : Int32) [(.ref a_NUM_Q), (.ref a_NUM_RET), (.ref a_NUM_REL), (.ref a_NUM_REL_RET), .null, .null, .null, .null, .null, .null, .null] .null := Arv.set Ar452 q452 Sz452 Nz452 Hz452 Gz452 rfl W453 3 rfl (Nat.le_of_ble_eq_true rfl)
  have N453 := Fr.snoc X453 N425 gz341
  have F454 := F426.other W453 (Or.inl ne_w_b341)
  have E455 := E427.wr W453
  have E456 := E428.wr W453
  have E457 := E429.wr W453
  have E458 := E430.wr W453
  have E459 := E431.wr W453
  have E460 := E432.wr W453
  have E461 := E433.wr W453
  have E462 := E434.wr W453
  have E463 := E435.wr W453
  have E464 := E436.wr W453
  have E465 := E437.wr W453
  have E466 := E438.wr W453
  have S467 := S439.wr W453
  have S468 := S440.wr W453
  have S469 := S441.wr W453
  have S470 := S442.wr W453
  have S471 := S443.wr W453
  have S472 := S444.wr W453
  have S473 := S445.wr W453
  have S474 := S446.wr W453
  have S475 := S447.wr W453
  have S476 := S448.wr W453
  have S477 := S449.wr W453
  have S478 := S450.wr W453
  have Z453 := Nat.le_trans Z425 (Keep.of_wr W453).1
  obtain ⟨T479, X479, e479, st479⟩ := getS2 X453 hx hZ hown (host := "") (Or.inl (hw _ (List.mem_of_getElem? (i := 12) rfl))) Via.refl e453 S471 (g := (mkF m 31 #[.val (.int x1), .unset, .unset, .unset] [(.int (4 : Int32)), (.ref b341), (.ref b341)])) rfl (hb hby at_31)
  obtain ⟨cl480, Ar480, q480, Sz480, Nz480, Hz480, Gz480⟩ := V453
  have hin480 : ¬ ((4 : Int32) < 0 ∨ cl480.slots.size ≤ ((4 : Int32)).toNatClampNeg) := inb_of Sz480 ⟨by decide, by decide⟩
  obtain ⟨T481, h481, X481, e481, W481, st481⟩ := stR X479 hx hZ e479 Ar480 (j := (4 : Int32)) hin480 rfl (Sto.ofV Ar480 q480 O341 (Ins.self E459)) (g := (mkF m 34 #[.val (.int x1), .unset, .unset, .unset] [(.ref a_MAP), (.int (4 : Int32)), (.ref b341), (.ref b341)])) rfl rfl (hb hby at_34)
  have V481 : Arv Z h481 b341 k341 (.object "com/example/requery/requery/eval/Measure") (11 : Int32) [(.ref a_NUM_Q), (.ref a_NUM_RET), (.ref a_NUM_REL), (.ref a_NUM_REL_RET), (.ref a_MAP), .null, .null, .null, .null, .null, .null] .null := Arv.set Ar480 q480 Sz480 Nz480 Hz480 Gz480 rfl W481 4 rfl (Nat.le_of_ble_eq_true rfl)
  have N481 := Fr.snoc X481 N453 gz341
  have F482 := F454.other W481 (Or.inl ne_w_b341)
  have E483 := E455.wr W481
  have E484 := E456.wr W481
  have E485 := E457.wr W481
  have E486 := E458.wr W481
  have E487 := E459.wr W481
  have E488 := E460.wr W481
  have E489 := E461.wr W481
  have E490 := E462.wr W481
  have E491 := E463.wr W481
  have E492 := E464.wr W481
  have E493 := E465.wr W481
  have E494 := E466.wr W481
  have S495 := S467.wr W481
  have S496 := S468.wr W481
  have S497 := S469.wr W481
  have S498 := S470.wr W481
  have S499 := S471.wr W481
  have S500 := S472.wr W481
  have S501 := S473.wr W481
  have S502 := S474.wr W481
  have S503 := S475.wr W481
  have S504 := S476.wr W481
  have S505 := S477.wr W481
  have S506 := S478.wr W481
  have Z481 := Nat.le_trans Z453 (Keep.of_wr W481).1
  obtain ⟨T507, X507, e507, st507⟩ := getS2 X481 hx hZ hown (host := "") (Or.inl (hw _ (List.mem_of_getElem? (i := 14) rfl))) Via.refl e481 S500 (g := (mkF m 37 #[.val (.int x1), .unset, .unset, .unset] [(.int (5 : Int32)), (.ref b341), (.ref b341)])) rfl (hb hby at_37)
  obtain ⟨cl508, Ar508, q508, Sz508, Nz508, Hz508, Gz508⟩ := V481
  have hin508 : ¬ ((5 : Int32) < 0 ∨ cl508.slots.size ≤ ((5 : Int32)).toNatClampNeg) := inb_of Sz508 ⟨by decide, by decide⟩
  obtain ⟨T509, h509, X509, e509, W509, st509⟩ := stR X507 hx hZ e507 Ar508 (j := (5 : Int32)) hin508 rfl (Sto.ofV Ar508 q508 O341 (Ins.self E488)) (g := (mkF m 40 #[.val (.int x1), .unset, .unset, .unset] [(.ref a_RPREC), (.int (5 : Int32)), (.ref b341), (.ref b341)])) rfl rfl (hb hby at_40)
  have V509 : Arv Z h509 b341 k341 (.object "com/example/requery/requery/eval/Measure") (11 : Int32) [(.ref a_NUM_Q), (.ref a_NUM_RET), (.ref a_NUM_REL), (.ref a_NUM_REL_RET), (.ref a_MAP), (.ref a_RPREC), .null, .null, .null, .null, .null] .null := Arv.set Ar508 q508 Sz508 Nz508 Hz508 Gz508 rfl W509 5 rfl (Nat.le_of_ble_eq_true rfl)
  have N509 := Fr.snoc X509 N481 gz341
  have F510 := F482.other W509 (Or.inl ne_w_b341)
  have E511 := E483.wr W509
  have E512 := E484.wr W509
  have E513 := E485.wr W509
  have E514 := E486.wr W509
  have E515 := E487.wr W509
  have E516 := E488.wr W509
  have E517 := E489.wr W509
  have E518 := E490.wr W509
  have E519 := E491.wr W509
  have E520 := E492.wr W509
  have E521 := E493.wr W509
  have E522 := E494.wr W509
  have S523 := S495.wr W509
  have S524 := S496.wr W509
  have S525 := S497.wr W509
  have S526 := S498.wr W509
  have S527 := S499.wr W509
  have S528 := S500.wr W509
  have S529 := S501.wr W509
  have S530 := S502.wr W509
  have S531 := S503.wr W509
  have S532 := S504.wr W509
  have S533 := S505.wr W509
  have S534 := S506.wr W509
  have Z509 := Nat.le_trans Z481 (Keep.of_wr W509).1
  obtain ⟨T535, X535, e535, st535⟩ := getS2 X509 hx hZ hown (host := "") (Or.inl (hw _ (List.mem_of_getElem? (i := 16) rfl))) Via.refl e509 S529 (g := (mkF m 44 #[.val (.int x1), .unset, .unset, .unset] [(.int (6 : Int32)), (.ref b341), (.ref b341)])) rfl (hb hby at_44)
  obtain ⟨cl536, Ar536, q536, Sz536, Nz536, Hz536, Gz536⟩ := V509
  have hin536 : ¬ ((6 : Int32) < 0 ∨ cl536.slots.size ≤ ((6 : Int32)).toNatClampNeg) := inb_of Sz536 ⟨by decide, by decide⟩
  obtain ⟨T537, h537, X537, e537, W537, st537⟩ := stR X535 hx hZ e535 Ar536 (j := (6 : Int32)) hin536 rfl (Sto.ofV Ar536 q536 O341 (Ins.self E517)) (g := (mkF m 47 #[.val (.int x1), .unset, .unset, .unset] [(.ref a_P_5), (.int (6 : Int32)), (.ref b341), (.ref b341)])) rfl rfl (hb hby at_47)
  have V537 : Arv Z h537 b341 k341 (.object "com/example/requery/requery/eval/Measure") (11 : Int32) [(.ref a_NUM_Q), (.ref a_NUM_RET), (.ref a_NUM_REL), (.ref a_NUM_REL_RET), (.ref a_MAP), (.ref a_RPREC), (.ref a_P_5), .null, .null, .null, .null] .null := Arv.set Ar536 q536 Sz536 Nz536 Hz536 Gz536 rfl W537 6 rfl (Nat.le_of_ble_eq_true rfl)
  have N537 := Fr.snoc X537 N509 gz341
  have F538 := F510.other W537 (Or.inl ne_w_b341)
  have E539 := E511.wr W537
  have E540 := E512.wr W537
  have E541 := E513.wr W537
  have E542 := E514.wr W537
  have E543 := E515.wr W537
  have E544 := E516.wr W537
  have E545 := E517.wr W537
  have E546 := E518.wr W537
  have E547 := E519.wr W537
  have E548 := E520.wr W537
  have E549 := E521.wr W537
  have E550 := E522.wr W537
  have S551 := S523.wr W537
  have S552 := S524.wr W537
  have S553 := S525.wr W537
  have S554 := S526.wr W537
  have S555 := S527.wr W537
  have S556 := S528.wr W537
  have S557 := S529.wr W537
  have S558 := S530.wr W537
  have S559 := S531.wr W537
  have S560 := S532.wr W537
  have S561 := S533.wr W537
  have S562 := S534.wr W537
  have Z537 := Nat.le_trans Z509 (Keep.of_wr W537).1
  obtain ⟨T563, X563, e563, st563⟩ := getS2 X537 hx hZ hown (host := "") (Or.inl (hw _ (List.mem_of_getElem? (i := 18) rfl))) Via.refl e537 S558 (g := (mkF m 51 #[.val (.int x1), .unset, .unset, .unset] [(.int (7 : Int32)), (.ref b341), (.ref b341)])) rfl (hb hby at_51)
  obtain ⟨cl564, Ar564, q564, Sz564, Nz564, Hz564, Gz564⟩ := V537
  have hin564 : ¬ ((7 : Int32) < 0 ∨ cl564.slots.size ≤ ((7 : Int32)).toNatClampNeg) := inb_of Sz564 ⟨by decide, by decide⟩
  obtain ⟨T565, h565, X565, e565, W565, st565⟩ := stR X563 hx hZ e563 Ar564 (j := (7 : Int32)) hin564 rfl (Sto.ofV Ar564 q564 O341 (Ins.self E546)) (g := (mkF m 54 #[.val (.int x1), .unset, .unset, .unset] [(.ref a_P_10), (.int (7 : Int32)), (.ref b341), (.ref b341)])) rfl rfl (hb hby at_54)
  have V565 : Arv Z h565 b341 k341 (.object "com/example/requery/requery/eval/Measure") (11 : Int32) [(.ref a_NUM_Q), (.ref a_NUM_RET), (.ref a_NUM_REL), (.ref a_NUM_REL_RET), (.ref a_MAP), (.ref a_RPREC), (.ref a_P_5), (.ref a_P_10), .null, .null, .null] .null := Arv.set Ar564 q564 Sz564 Nz564 Hz564 Gz564 rfl W565 7 rfl (Nat.le_of_ble_eq_true rfl)
  have N565 := Fr.snoc X565 N537 gz341
  have F566 := F538.other W565 (Or.inl ne_w_b341)
  have E567 := E539.wr W565
  have E568 := E540.wr W565
  have E569 := E541.wr W565
  have E570 := E542.wr W565
  have E571 := E543.wr W565
  have E572 := E544.wr W565
  have E573 := E545.wr W565
  have E574 := E546.wr W565
  have E575 := E547.wr W565
  have E576 := E548.wr W565
  have E577 := E549.wr W565
  have E578 := E550.wr W565
  have S579 := S551.wr W565
  have S580 := S552.wr W565
  have S581 := S553.wr W565
  have S582 := S554.wr W565
  have S583 := S555.wr W565
  have S584 := S556.wr W565
  have S585 := S557.wr W565
  have S586 := S558.wr W565
  have S587 := S559.wr W565
  have S588 := S560.wr W565
  have S589 := S561.wr W565
  have S590 := S562.wr W565
  have Z565 := Nat.le_trans Z537 (Keep.of_wr W565).1
  obtain ⟨T591, X591, e591, st591⟩ := getS2 X565 hx hZ hown (host := "") (Or.inl (hw _ (List.mem_of_getElem? (i := 20) rfl))) Via.refl e565 S587 (g := (mkF m 58 #[.val (.int x1), .unset, .unset, .unset] [(.int (8 : Int32)), (.ref b341), (.ref b341)])) rfl (hb hby at_58)
  obtain ⟨cl592, Ar592, q592, Sz592, Nz592, Hz592, Gz592⟩ := V565
  have hin592 : ¬ ((8 : Int32) < 0 ∨ cl592.slots.size ≤ ((8 : Int32)).toNatClampNeg) := inb_of Sz592 ⟨by decide, by decide⟩
  obtain ⟨T593, h593, X593, e593, W593, st593⟩ := stR X591 hx hZ e591 Ar592 (j := (8 : Int32)) hin592 rfl (Sto.ofV Ar592 q592 O341 (Ins.self E575)) (g := (mkF m 61 #[.val (.int x1), .unset, .unset, .unset] [(.ref a_P_20), (.int (8 : Int32)), (.ref b341), (.ref b341)])) rfl rfl (hb hby at_61)
  have V593 : Arv Z h593 b341 k341 (.object "com/example/requery/requery/eval/Measure") (11 : Int32) [(.ref a_NUM_Q), (.ref a_NUM_RET), (.ref a_NUM_REL), (.ref a_NUM_REL_RET), (.ref a_MAP), (.ref a_RPREC), (.ref a_P_5), (.ref a_P_10), (.ref a_P_20), .null, .null] .null := Arv.set Ar592 q592 Sz592 Nz592 Hz592 Gz592 rfl W593 8 rfl (Nat.le_of_ble_eq_true rfl)
  have N593 := Fr.snoc X593 N565 gz341
  have F594 := F566.other W593 (Or.inl ne_w_b341)
  have E595 := E567.wr W593
  have E596 := E568.wr W593
  have E597 := E569.wr W593
  have E598 := E570.wr W593
  have E599 := E571.wr W593
  have E600 := E572.wr W593
  have E601 := E573.wr W593
  have E602 := E574.wr W593
  have E603 := E575.wr W593
  have E604 := E576.wr W593
  have E605 := E577.wr W593
  have E606 := E578.wr W593
  have S607 := S579.wr W593
  have S608 := S580.wr W593
  have S609 := S581.wr W593
  have S610 := S582.wr W593
  have S611 := S583.wr W593
  have S612 := S584.wr W593
  have S613 := S585.wr W593
  have S614 := S586.wr W593
  have S615 := S587.wr W593
  have S616 := S588.wr W593
  have S617 := S589.wr W593
  have S618 := S590.wr W593
  have Z593 := Nat.le_trans Z565 (Keep.of_wr W593).1
  obtain ⟨T619, X619, e619, st619⟩ := getS2 X593 hx hZ hown (host := "") (Or.inl (hw _ (List.mem_of_getElem? (i := 22) rfl))) Via.refl e593 S616 (g := (mkF m 65 #[.val (.int x1), .unset, .unset, .unset] [(.int (9 : Int32)), (.ref b341), (.ref b341)])) rfl (hb hby at_65)
  obtain ⟨cl620, Ar620, q620, Sz620, Nz620, Hz620, Gz620⟩ := V593
  have hin620 : ¬ ((9 : Int32) < 0 ∨ cl620.slots.size ≤ ((9 : Int32)).toNatClampNeg) := inb_of Sz620 ⟨by decide, by decide⟩
  obtain ⟨T621, h621, X621, e621, W621, st621⟩ := stR X619 hx hZ e619 Ar620 (j := (9 : Int32)) hin620 rfl (Sto.ofV Ar620 q620 O341 (Ins.self E604)) (g := (mkF m 68 #[.val (.int x1), .unset, .unset, .unset] [(.ref a_P_30), (.int (9 : Int32)), (.ref b341), (.ref b341)])) rfl rfl (hb hby at_68)
  have V621 : Arv Z h621 b341 k341 (.object "com/example/requery/requery/eval/Measure") (11 : Int32) [(.ref a_NUM_Q), (.ref a_NUM_RET), (.ref a_NUM_REL), (.ref a_NUM_REL_RET), (.ref a_MAP), (.ref a_RPREC), (.ref a_P_5), (.ref a_P_10), (.ref a_P_20), (.ref a_P_30), .null] .null := Arv.set Ar620 q620 Sz620 Nz620 Hz620 Gz620 rfl W621 9 rfl (Nat.le_of_ble_eq_true rfl)
  have N621 := Fr.snoc X621 N593 gz341
  have F622 := F594.other W621 (Or.inl ne_w_b341)
  have E623 := E595.wr W621
  have E624 := E596.wr W621
  have E625 := E597.wr W621
  have E626 := E598.wr W621
  have E627 := E599.wr W621
  have E628 := E600.wr W621
  have E629 := E601.wr W621
  have E630 := E602.wr W621
  have E631 := E603.wr W621
  have E632 := E604.wr W621
  have E633 := E605.wr W621
  have E634 := E606.wr W621
  have S635 := S607.wr W621
  have S636 := S608.wr W621
  have S637 := S609.wr W621
  have S638 := S610.wr W621
  have S639 := S611.wr W621
  have S640 := S612.wr W621
  have S641 := S613.wr W621
  have S642 := S614.wr W621
  have S643 := S615.wr W621
  have S644 := S616.wr W621
  have S645 := S617.wr W621
  have S646 := S618.wr W621
  have Z621 := Nat.le_trans Z593 (Keep.of_wr W621).1
  obtain ⟨T647, X647, e647, st647⟩ := getS2 X621 hx hZ hown (host := "") (Or.inl (hw _ (List.mem_of_getElem? (i := 24) rfl))) Via.refl e621 S645 (g := (mkF m 72 #[.val (.int x1), .unset, .unset, .unset] [(.int (10 : Int32)), (.ref b341), (.ref b341)])) rfl (hb hby at_72)
  obtain ⟨cl648, Ar648, q648, Sz648, Nz648, Hz648, Gz648⟩ := V621
  have hin648 : ¬ ((10 : Int32) < 0 ∨ cl648.slots.size ≤ ((10 : Int32)).toNatClampNeg) := inb_of Sz648 ⟨by decide, by decide⟩
  obtain ⟨T649, h649, X649, e649, W649, st649⟩ := stR X647 hx hZ e647 Ar648 (j := (10 : Int32)) hin648 rfl (Sto.ofV Ar648 q648 O341 (Ins.self E633)) (g := (mkF m 75 #[.val (.int x1), .unset, .unset, .unset] [(.ref a_RECALL_1000), (.int (10 : Int32)), (.ref b341), (.ref b341)])) rfl rfl (hb hby at_75)
  have V649 : Arv Z h649 b341 k341 (.object "com/example/requery/requery/eval/Measure") (11 : Int32) [(.ref a_NUM_Q), (.ref a_NUM_RET), (.ref a_NUM_REL), (.ref a_NUM_REL_RET), (.ref a_MAP), (.ref a_RPREC), (.ref a_P_5), (.ref a_P_10), (.ref a_P_20), (.ref a_P_30), (.ref a_RECALL_1000)] .null := Arv.set Ar648 q648 Sz648 Nz648 Hz648 Gz648 rfl W649 10 rfl (Nat.le_of_ble_eq_true rfl)
  have N649 := Fr.snoc X649 N621 gz341
  have F650 := F622.other W649 (Or.inl ne_w_b341)
  have E651 := E623.wr W649
  have E652 := E624.wr W649
  have E653 := E625.wr W649
  have E654 := E626.wr W649
  have E655 := E627.wr W649
  have E656 := E628.wr W649
  have E657 := E629.wr W649
  have E658 := E630.wr W649
  have E659 := E631.wr W649
  have E660 := E632.wr W649
  have E661 := E633.wr W649
  have E662 := E634.wr W649
  have S663 := S635.wr W649
  have S664 := S636.wr W649
  have S665 := S637.wr W649
  have S666 := S638.wr W649
  have S667 := S639.wr W649
  have S668 := S640.wr W649
  have S669 := S641.wr W649
  have S670 := S642.wr W649
  have S671 := S643.wr W649
  have S672 := S644.wr W649
  have S673 := S645.wr W649
  have S674 := S646.wr W649
  have Z649 := Nat.le_trans Z621 (Keep.of_wr W649).1
  obtain ⟨cl675, Ar675, q675, Sz675, Nz675, Hz675, Gz675⟩ := V649
  have hin675 : ¬ (((x1 &&& (2147483647 : Int32)) % (11 : Int32)) < 0 ∨ cl675.slots.size ≤ (((x1 &&& (2147483647 : Int32)) % (11 : Int32))).toNatClampNeg) := inb_of Sz675 hin
  have hat675 := Has.at Hz675 hin675 (v := (.ref w)) hat
  obtain ⟨cq676, kq676, q676a, q676b, q676c⟩ := isOf hZ e649 E662
  obtain ⟨_, _, ⟨T676, L676, k676, n676⟩, -, X676, ⟨Lc676, hQ676, l676, y676, z676⟩, st676⟩ := X649.virtualBack hx (y := (⟨"com/example/requery/requery/eval/Measure", "isSum", "()Z"⟩ : MethodName)) (z := (⟨"com/example/requery/requery/eval/Measure", "isSum", "()Z"⟩ : MethodName)) hown (mvT hZ (hw _ (List.mem_of_getElem? (i := 27) rfl))) (mvT hZ (hw _ (List.mem_of_getElem? (i := 28) rfl))) (notFace_of_selects (args := #[]) (mvT hZ (hw _ (List.mem_of_getElem? (i := 30) rfl)))) (mvT hZ (hw _ (List.mem_of_getElem? (i := 30) rfl))) (mvT hZ (hw _ (List.mem_of_getElem? (i := 29) rfl))) (by decide) (backOf (W := 0) (rsum l Z a0 hw [] w kd fr 0 h649 n0 Z649 F650 S674 hs) hZ (hw _ (List.mem_of_getElem? (i := 31) rfl)) (hw _ (List.mem_of_getElem? (i := 3) rfl)) (by decide) (by decide)) q676a q676c (g := (mkF m 99 #[.val (.int x1), .val (.ref b341), .val (.int ((x1 &&& (2147483647 : Int32)) % (11 : Int32))), .val (.int (0 : Int32))] [(.ref w)])) rfl (by rw [hml]; rfl) (Steps.refl _) (argsL := []) (rest := []) (lenOf pd_0 rfl) rfl (by show 2 * 0 + _ ≤ _; exact Nat.le_of_eq rfl) (hb hby at_99) (fun _ _ => ⟨rfl, e649, (by decide : 1 + 0 ≤ _), (by decide : 11 + 0 ≤ _)⟩)
  dsimp only [Pt.U, Pt.locs, Pt.cells, Pt.slots] at X676 l676 y676 z676 st676 hQ676
  subst l676 y676 z676
  obtain ⟨rfl, Nq676, e676⟩ := hQ676
  have N676 := Fr.app N649 Nq676
  obtain ⟨fs, hr, hrun, hended, hW, hsame⟩ := X676.leave (v := some (.int (1 : Int32))) (fun h => by rw [Bd.returns] at h; cases h)
  refine ⟨_, _, pre0 _ ?_, hrun, hended, _, _, rfl, ?_, ⟨_, rfl⟩, hW, hsame.mono (by decide) (by decide)⟩
  · show Steps p.tables e below (s₁.setTop (mkF m 0 #[.val (.int x1), .unset, .unset, .unset] [])) _
    refine XS.bipush X0.here hx rfl (hb hby at_0) ?_
    show Steps p.tables e below (s₁.setTop (mkF m 2 #[.val (.int x1), .unset, .unset, .unset] [(.int (11 : Int32))])) _
    refine st341 _ ?_
    show Steps p.tables e below (T341.setTop (mkF m 5 #[.val (.int x1), .unset, .unset, .unset] [(.ref b341)])) _
    refine XS.dup X341.here hx rfl (hb hby at_5) rfl rfl ?_
    show Steps p.tables e below (T341.setTop (mkF m 6 #[.val (.int x1), .unset, .unset, .unset] [(.ref b341), (.ref b341)])) _
    refine XS.iconst X341.here hx rfl (hb hby at_6) ?_
    show Steps p.tables e below (T341.setTop (mkF m 7 #[.val (.int x1), .unset, .unset, .unset] [(.int (0 : Int32)), (.ref b341), (.ref b341)])) _
    refine st367 _ ?_
    show Steps p.tables e below (T367.setTop (mkF m 10 #[.val (.int x1), .unset, .unset, .unset] [(.ref a_NUM_Q), (.int (0 : Int32)), (.ref b341), (.ref b341)])) _
    refine st369 _ ?_
    show Steps p.tables e below (T369.setTop (mkF m 11 #[.val (.int x1), .unset, .unset, .unset] [(.ref b341)])) _
    refine XS.dup X369.here hx rfl (hb hby at_11) rfl rfl ?_
    show Steps p.tables e below (T369.setTop (mkF m 12 #[.val (.int x1), .unset, .unset, .unset] [(.ref b341), (.ref b341)])) _
    refine XS.iconst X369.here hx rfl (hb hby at_12) ?_
    show Steps p.tables e below (T369.setTop (mkF m 13 #[.val (.int x1), .unset, .unset, .unset] [(.int (1 : Int32)), (.ref b341), (.ref b341)])) _
    refine st395 _ ?_
    show Steps p.tables e below (T395.setTop (mkF m 16 #[.val (.int x1), .unset, .unset, .unset] [(.ref a_NUM_RET), (.int (1 : Int32)), (.ref b341), (.ref b341)])) _
    refine st397 _ ?_
    show Steps p.tables e below (T397.setTop (mkF m 17 #[.val (.int x1), .unset, .unset, .unset] [(.ref b341)])) _
    refine XS.dup X397.here hx rfl (hb hby at_17) rfl rfl ?_
    show Steps p.tables e below (T397.setTop (mkF m 18 #[.val (.int x1), .unset, .unset, .unset] [(.ref b341), (.ref b341)])) _
    refine XS.iconst X397.here hx rfl (hb hby at_18) ?_
    show Steps p.tables e below (T397.setTop (mkF m 19 #[.val (.int x1), .unset, .unset, .unset] [(.int (2 : Int32)), (.ref b341), (.ref b341)])) _
    refine st423 _ ?_
    show Steps p.tables e below (T423.setTop (mkF m 22 #[.val (.int x1), .unset, .unset, .unset] [(.ref a_NUM_REL), (.int (2 : Int32)), (.ref b341), (.ref b341)])) _
    refine st425 _ ?_
    show Steps p.tables e below (T425.setTop (mkF m 23 #[.val (.int x1), .unset, .unset, .unset] [(.ref b341)])) _
    refine XS.dup X425.here hx rfl (hb hby at_23) rfl rfl ?_
    show Steps p.tables e below (T425.setTop (mkF m 24 #[.val (.int x1), .unset, .unset, .unset] [(.ref b341), (.ref b341)])) _
    refine XS.iconst X425.here hx rfl (hb hby at_24) ?_
    show Steps p.tables e below (T425.setTop (mkF m 25 #[.val (.int x1), .unset, .unset, .unset] [(.int (3 : Int32)), (.ref b341), (.ref b341)])) _
    refine st451 _ ?_
    show Steps p.tables e below (T451.setTop (mkF m 28 #[.val (.int x1), .unset, .unset, .unset] [(.ref a_NUM_REL_RET), (.int (3 : Int32)), (.ref b341), (.ref b341)])) _
    refine st453 _ ?_
    show Steps p.tables e below (T453.setTop (mkF m 29 #[.val (.int x1), .unset, .unset, .unset] [(.ref b341)])) _
    refine XS.dup X453.here hx rfl (hb hby at_29) rfl rfl ?_
    show Steps p.tables e below (T453.setTop (mkF m 30 #[.val (.int x1), .unset, .unset, .unset] [(.ref b341), (.ref b341)])) _
    refine XS.iconst X453.here hx rfl (hb hby at_30) ?_
    show Steps p.tables e below (T453.setTop (mkF m 31 #[.val (.int x1), .unset, .unset, .unset] [(.int (4 : Int32)), (.ref b341), (.ref b341)])) _
    refine st479 _ ?_
    show Steps p.tables e below (T479.setTop (mkF m 34 #[.val (.int x1), .unset, .unset, .unset] [(.ref a_MAP), (.int (4 : Int32)), (.ref b341), (.ref b341)])) _
    refine st481 _ ?_
    show Steps p.tables e below (T481.setTop (mkF m 35 #[.val (.int x1), .unset, .unset, .unset] [(.ref b341)])) _
    refine XS.dup X481.here hx rfl (hb hby at_35) rfl rfl ?_
    show Steps p.tables e below (T481.setTop (mkF m 36 #[.val (.int x1), .unset, .unset, .unset] [(.ref b341), (.ref b341)])) _
    refine XS.iconst X481.here hx rfl (hb hby at_36) ?_
    show Steps p.tables e below (T481.setTop (mkF m 37 #[.val (.int x1), .unset, .unset, .unset] [(.int (5 : Int32)), (.ref b341), (.ref b341)])) _
    refine st507 _ ?_
    show Steps p.tables e below (T507.setTop (mkF m 40 #[.val (.int x1), .unset, .unset, .unset] [(.ref a_RPREC), (.int (5 : Int32)), (.ref b341), (.ref b341)])) _
    refine st509 _ ?_
    show Steps p.tables e below (T509.setTop (mkF m 41 #[.val (.int x1), .unset, .unset, .unset] [(.ref b341)])) _
    refine XS.dup X509.here hx rfl (hb hby at_41) rfl rfl ?_
    show Steps p.tables e below (T509.setTop (mkF m 42 #[.val (.int x1), .unset, .unset, .unset] [(.ref b341), (.ref b341)])) _
    refine XS.bipush X509.here hx rfl (hb hby at_42) ?_
    show Steps p.tables e below (T509.setTop (mkF m 44 #[.val (.int x1), .unset, .unset, .unset] [(.int (6 : Int32)), (.ref b341), (.ref b341)])) _
    refine st535 _ ?_
    show Steps p.tables e below (T535.setTop (mkF m 47 #[.val (.int x1), .unset, .unset, .unset] [(.ref a_P_5), (.int (6 : Int32)), (.ref b341), (.ref b341)])) _
    refine st537 _ ?_
    show Steps p.tables e below (T537.setTop (mkF m 48 #[.val (.int x1), .unset, .unset, .unset] [(.ref b341)])) _
    refine XS.dup X537.here hx rfl (hb hby at_48) rfl rfl ?_
    show Steps p.tables e below (T537.setTop (mkF m 49 #[.val (.int x1), .unset, .unset, .unset] [(.ref b341), (.ref b341)])) _
    refine XS.bipush X537.here hx rfl (hb hby at_49) ?_
    show Steps p.tables e below (T537.setTop (mkF m 51 #[.val (.int x1), .unset, .unset, .unset] [(.int (7 : Int32)), (.ref b341), (.ref b341)])) _
    refine st563 _ ?_
    show Steps p.tables e below (T563.setTop (mkF m 54 #[.val (.int x1), .unset, .unset, .unset] [(.ref a_P_10), (.int (7 : Int32)), (.ref b341), (.ref b341)])) _
    refine st565 _ ?_
    show Steps p.tables e below (T565.setTop (mkF m 55 #[.val (.int x1), .unset, .unset, .unset] [(.ref b341)])) _
    refine XS.dup X565.here hx rfl (hb hby at_55) rfl rfl ?_
    show Steps p.tables e below (T565.setTop (mkF m 56 #[.val (.int x1), .unset, .unset, .unset] [(.ref b341), (.ref b341)])) _
    refine XS.bipush X565.here hx rfl (hb hby at_56) ?_
    show Steps p.tables e below (T565.setTop (mkF m 58 #[.val (.int x1), .unset, .unset, .unset] [(.int (8 : Int32)), (.ref b341), (.ref b341)])) _
    refine st591 _ ?_
    show Steps p.tables e below (T591.setTop (mkF m 61 #[.val (.int x1), .unset, .unset, .unset] [(.ref a_P_20), (.int (8 : Int32)), (.ref b341), (.ref b341)])) _
    refine st593 _ ?_
    show Steps p.tables e below (T593.setTop (mkF m 62 #[.val (.int x1), .unset, .unset, .unset] [(.ref b341)])) _
    refine XS.dup X593.here hx rfl (hb hby at_62) rfl rfl ?_
    show Steps p.tables e below (T593.setTop (mkF m 63 #[.val (.int x1), .unset, .unset, .unset] [(.ref b341), (.ref b341)])) _
    refine XS.bipush X593.here hx rfl (hb hby at_63) ?_
    show Steps p.tables e below (T593.setTop (mkF m 65 #[.val (.int x1), .unset, .unset, .unset] [(.int (9 : Int32)), (.ref b341), (.ref b341)])) _
    refine st619 _ ?_
    show Steps p.tables e below (T619.setTop (mkF m 68 #[.val (.int x1), .unset, .unset, .unset] [(.ref a_P_30), (.int (9 : Int32)), (.ref b341), (.ref b341)])) _
    refine st621 _ ?_
    show Steps p.tables e below (T621.setTop (mkF m 69 #[.val (.int x1), .unset, .unset, .unset] [(.ref b341)])) _
    refine XS.dup X621.here hx rfl (hb hby at_69) rfl rfl ?_
    show Steps p.tables e below (T621.setTop (mkF m 70 #[.val (.int x1), .unset, .unset, .unset] [(.ref b341), (.ref b341)])) _
    refine XS.bipush X621.here hx rfl (hb hby at_70) ?_
    show Steps p.tables e below (T621.setTop (mkF m 72 #[.val (.int x1), .unset, .unset, .unset] [(.int (10 : Int32)), (.ref b341), (.ref b341)])) _
    refine st647 _ ?_
    show Steps p.tables e below (T647.setTop (mkF m 75 #[.val (.int x1), .unset, .unset, .unset] [(.ref a_RECALL_1000), (.int (10 : Int32)), (.ref b341), (.ref b341)])) _
    refine st649 _ ?_
    show Steps p.tables e below (T649.setTop (mkF m 76 #[.val (.int x1), .unset, .unset, .unset] [(.ref b341)])) _
    refine XS.astoreN X649.here hx rfl (hb hby at_76) rfl rfl (l' := #[.val (.int x1), .val (.ref b341), .unset, .unset]) rfl ?_
    show Steps p.tables e below (T649.setTop (mkF m 77 #[.val (.int x1), .val (.ref b341), .unset, .unset] [])) _
    refine XS.iloadN X649.here hx rfl (hb hby at_77) rfl ?_
    show Steps p.tables e below (T649.setTop (mkF m 78 #[.val (.int x1), .val (.ref b341), .unset, .unset] [(.int x1)])) _
    refine X649.ldcInt hx hown (mvT hZ (hw _ (List.mem_of_getElem? (i := 26) rfl))) (g := (mkF m 78 #[.val (.int x1), .val (.ref b341), .unset, .unset] [(.int x1)])) rfl (hb hby at_78) _ ?_
    show Steps p.tables e below (T649.setTop (mkF m 80 #[.val (.int x1), .val (.ref b341), .unset, .unset] [(.int (2147483647 : Int32)), (.int x1)])) _
    refine XS.iand X649.here hx rfl (hb hby at_80) rfl ?_
    show Steps p.tables e below (T649.setTop (mkF m 81 #[.val (.int x1), .val (.ref b341), .unset, .unset] [(.int (x1 &&& (2147483647 : Int32)))])) _
    refine XS.bipush X649.here hx rfl (hb hby at_81) ?_
    show Steps p.tables e below (T649.setTop (mkF m 83 #[.val (.int x1), .val (.ref b341), .unset, .unset] [(.int (11 : Int32)), (.int (x1 &&& (2147483647 : Int32)))])) _
    refine iremM X649 hx rfl (hb hby at_83) rfl (by decide) ?_
    show Steps p.tables e below (T649.setTop (mkF m 84 #[.val (.int x1), .val (.ref b341), .unset, .unset] [(.int ((x1 &&& (2147483647 : Int32)) % (11 : Int32)))])) _
    refine XS.istoreN X649.here hx rfl (hb hby at_84) rfl (l' := #[.val (.int x1), .val (.ref b341), .val (.int ((x1 &&& (2147483647 : Int32)) % (11 : Int32))), .unset]) rfl ?_
    show Steps p.tables e below (T649.setTop (mkF m 85 #[.val (.int x1), .val (.ref b341), .val (.int ((x1 &&& (2147483647 : Int32)) % (11 : Int32))), .unset] [])) _
    refine XS.iloadN X649.here hx rfl (hb hby at_85) rfl ?_
    show Steps p.tables e below (T649.setTop (mkF m 86 #[.val (.int x1), .val (.ref b341), .val (.int ((x1 &&& (2147483647 : Int32)) % (11 : Int32))), .unset] [(.int ((x1 &&& (2147483647 : Int32)) % (11 : Int32)))])) _
    refine XS.iconst X649.here hx rfl (hb hby at_86) ?_
    show Steps p.tables e below (T649.setTop (mkF m 87 #[.val (.int x1), .val (.ref b341), .val (.int ((x1 &&& (2147483647 : Int32)) % (11 : Int32))), .unset] [(.int (4 : Int32)), (.int ((x1 &&& (2147483647 : Int32)) % (11 : Int32)))])) _
    refine XS.icmpYes X649.here hx rfl (pc0 := 87) (pc' := 94) rfl (hb hby at_87) rfl (flt hc87).2.1 (by decide) (by decide) ?_
    show Steps p.tables e below (T649.setTop (mkF m 94 #[.val (.int x1), .val (.ref b341), .val (.int ((x1 &&& (2147483647 : Int32)) % (11 : Int32))), .unset] [])) _
    refine XS.iconst X649.here hx rfl (hb hby at_94) ?_
    show Steps p.tables e below (T649.setTop (mkF m 95 #[.val (.int x1), .val (.ref b341), .val (.int ((x1 &&& (2147483647 : Int32)) % (11 : Int32))), .unset] [(.int (0 : Int32))])) _
    refine XS.istoreN X649.here hx rfl (hb hby at_95) rfl (l' := #[.val (.int x1), .val (.ref b341), .val (.int ((x1 &&& (2147483647 : Int32)) % (11 : Int32))), .val (.int (0 : Int32))]) rfl ?_
    show Steps p.tables e below (T649.setTop (mkF m 96 #[.val (.int x1), .val (.ref b341), .val (.int ((x1 &&& (2147483647 : Int32)) % (11 : Int32))), .val (.int (0 : Int32))] [])) _
    refine XS.aloadN X649.here hx rfl (hb hby at_96) rfl rfl ?_
    show Steps p.tables e below (T649.setTop (mkF m 97 #[.val (.int x1), .val (.ref b341), .val (.int ((x1 &&& (2147483647 : Int32)) % (11 : Int32))), .val (.int (0 : Int32))] [(.ref b341)])) _
    refine XS.iloadN X649.here hx rfl (hb hby at_97) rfl ?_
    show Steps p.tables e below (T649.setTop (mkF m 98 #[.val (.int x1), .val (.ref b341), .val (.int ((x1 &&& (2147483647 : Int32)) % (11 : Int32))), .val (.int (0 : Int32))] [(.int ((x1 &&& (2147483647 : Int32)) % (11 : Int32))), (.ref b341)])) _
    refine X649.aaload hx (j := ((x1 &&& (2147483647 : Int32)) % (11 : Int32))) (v := (.ref w)) (by rw [e649]; exact Ar675.1) (State.isArrayOf_alike hZ.alike Ar675.2.1) rfl Ar675.2.2 hin675 hat675 (g := (mkF m 98 #[.val (.int x1), .val (.ref b341), .val (.int ((x1 &&& (2147483647 : Int32)) % (11 : Int32))), .val (.int (0 : Int32))] [(.int ((x1 &&& (2147483647 : Int32)) % (11 : Int32))), (.ref b341)])) rfl rfl (hb hby at_98) _ ?_
    show Steps p.tables e below (T649.setTop (mkF m 99 #[.val (.int x1), .val (.ref b341), .val (.int ((x1 &&& (2147483647 : Int32)) % (11 : Int32))), .val (.int (0 : Int32))] [(.ref w)])) _
    refine st676.trans ?_
    show Steps p.tables e below (T676.setTop (mkF m 102 #[.val (.int x1), .val (.ref b341), .val (.int ((x1 &&& (2147483647 : Int32)) % (11 : Int32))), .val (.int (0 : Int32))] [(.int (0 : Int32))])) _
    refine XS.iloadN X676.here hx rfl (hb hby at_102) rfl ?_
    show Steps p.tables e below (T676.setTop (mkF m 103 #[.val (.int x1), .val (.ref b341), .val (.int ((x1 &&& (2147483647 : Int32)) % (11 : Int32))), .val (.int (0 : Int32))] [(.int (0 : Int32)), (.int (0 : Int32))])) _
    refine XS.icmpNo X676.here hx rfl (hb hby at_103) rfl (teq (by decide)).2 ?_
    show Steps p.tables e below (T676.setTop (mkF m 106 #[.val (.int x1), .val (.ref b341), .val (.int ((x1 &&& (2147483647 : Int32)) % (11 : Int32))), .val (.int (0 : Int32))] [])) _
    refine XS.iconst X676.here hx rfl (hb hby at_106) ?_
    show Steps p.tables e below (T676.setTop (mkF m 107 #[.val (.int x1), .val (.ref b341), .val (.int ((x1 &&& (2147483647 : Int32)) % (11 : Int32))), .val (.int (0 : Int32))] [(.int (1 : Int32))])) _
    refine XS.goto X676.here hx rfl (pc0 := 107) (pc' := 111) rfl (hb hby at_107) (by decide) (by decide) ?_
    show Steps p.tables e below (T676.setTop (mkF m 111 #[.val (.int x1), .val (.ref b341), .val (.int ((x1 &&& (2147483647 : Int32)) % (11 : Int32))), .val (.int (0 : Int32))] [(.int (1 : Int32))])) _
    exact retN X676 hx (t := .boolean) Bd.returns (by simp) (hb hby at_111) hr
  · show QL n0 _ T676.heap _
    rw [e676]
    exact ⟨rfl, N676⟩
theorem kcases (x1 : Int32) : ((x1 &&& (2147483647 : Int32)) % (11 : Int32)) = 0 ∨ ((x1 &&& (2147483647 : Int32)) % (11 : Int32)) = 1 ∨ ((x1 &&& (2147483647 : Int32)) % (11 : Int32)) = 2 ∨ ((x1 &&& (2147483647 : Int32)) % (11 : Int32)) = 3 ∨ ((x1 &&& (2147483647 : Int32)) % (11 : Int32)) = 4 ∨ ((x1 &&& (2147483647 : Int32)) % (11 : Int32)) = 5 ∨ ((x1 &&& (2147483647 : Int32)) % (11 : Int32)) = 6 ∨ ((x1 &&& (2147483647 : Int32)) % (11 : Int32)) = 7 ∨ ((x1 &&& (2147483647 : Int32)) % (11 : Int32)) = 8 ∨ ((x1 &&& (2147483647 : Int32)) % (11 : Int32)) = 9 ∨ ((x1 &&& (2147483647 : Int32)) % (11 : Int32)) = 10 := by
  have h1 := c_and x1 2147483647 (by decide)
  have h2 := (c_iremV (x1 &&& (2147483647 : Int32)) 11).1 h1.1 (by decide)
  have h3 : (11 : Int32).toInt = 11 := by decide
  generalize (x1 &&& (2147483647 : Int32)) % (11 : Int32) = k at *
  rw [h3] at h2
  have h4 : k.toInt = 0 ∨ k.toInt = 1 ∨ k.toInt = 2 ∨ k.toInt = 3 ∨ k.toInt = 4 ∨ k.toInt = 5 ∨ k.toInt = 6 ∨ k.toInt = 7 ∨ k.toInt = 8 ∨ k.toInt = 9 ∨ k.toInt = 10 := by omega
  simp only [← Int32.toInt_inj]
  exact h4
theorem rm0 (l : Launch) (Z : State) (a0 : Array Value) (hw : ∀ d ∈ tables_1, d.before a0 Z = true) (ws : List Jvm.Cond) (x1 : Int32) (a_NUM_Q a_NUM_RET a_NUM_REL a_NUM_REL_RET a_MAP a_RPREC a_P_5 a_P_10 a_P_20 a_P_30 a_RECALL_1000 : Addr) (a_TOPICS a_COUNT a_FRACTION : Addr) (h0 : Heap) (n0 : Nat) (Z0 : n0 ≤ h0.size) (E_NUM_Q : Exa Z h0 a_NUM_Q "com/example/requery/requery/eval/Measure") (S_NUM_Q : Sta Z h0 "com/example/requery/requery/eval/Measure" "NUM_Q" "Lcom/example/requery/requery/eval/Measure;" (.ref a_NUM_Q)) (K_NUM_Q : Fld Z h0 a_NUM_Q "com/example/requery/requery/eval/Measure" "kind" "Lcom/example/requery/requery/eval/Measure$Kind;" (.ref a_TOPICS)) (E_NUM_RET : Exa Z h0 a_NUM_RET "com/example/requery/requery/eval/Measure") (S_NUM_RET : Sta Z h0 "com/example/requery/requery/eval/Measure" "NUM_RET" "Lcom/example/requery/requery/eval/Measure;" (.ref a_NUM_RET)) (K_NUM_RET : Fld Z h0 a_NUM_RET "com/example/requery/requery/eval/Measure" "kind" "Lcom/example/requery/requery/eval/Measure$Kind;" (.ref a_COUNT)) (E_NUM_REL : Exa Z h0 a_NUM_REL "com/example/requery/requery/eval/Measure") (S_NUM_REL : Sta Z h0 "com/example/requery/requery/eval/Measure" "NUM_REL" "Lcom/example/requery/requery/eval/Measure;" (.ref a_NUM_REL)) (K_NUM_REL : Fld Z h0 a_NUM_REL "com/example/requery/requery/eval/Measure" "kind" "Lcom/example/requery/requery/eval/Measure$Kind;" (.ref a_COUNT)) (E_NUM_REL_RET : Exa Z h0 a_NUM_REL_RET "com/example/requery/requery/eval/Measure") (S_NUM_REL_RET : Sta Z h0 "com/example/requery/requery/eval/Measure" "NUM_REL_RET" "Lcom/example/requery/requery/eval/Measure;" (.ref a_NUM_REL_RET)) (K_NUM_REL_RET : Fld Z h0 a_NUM_REL_RET "com/example/requery/requery/eval/Measure" "kind" "Lcom/example/requery/requery/eval/Measure$Kind;" (.ref a_COUNT)) (E_MAP : Exa Z h0 a_MAP "com/example/requery/requery/eval/Measure") (S_MAP : Sta Z h0 "com/example/requery/requery/eval/Measure" "MAP" "Lcom/example/requery/requery/eval/Measure;" (.ref a_MAP)) (K_MAP : Fld Z h0 a_MAP "com/example/requery/requery/eval/Measure" "kind" "Lcom/example/requery/requery/eval/Measure$Kind;" (.ref a_FRACTION)) (E_RPREC : Exa Z h0 a_RPREC "com/example/requery/requery/eval/Measure") (S_RPREC : Sta Z h0 "com/example/requery/requery/eval/Measure" "RPREC" "Lcom/example/requery/requery/eval/Measure;" (.ref a_RPREC)) (K_RPREC : Fld Z h0 a_RPREC "com/example/requery/requery/eval/Measure" "kind" "Lcom/example/requery/requery/eval/Measure$Kind;" (.ref a_FRACTION)) (E_P_5 : Exa Z h0 a_P_5 "com/example/requery/requery/eval/Measure") (S_P_5 : Sta Z h0 "com/example/requery/requery/eval/Measure" "P_5" "Lcom/example/requery/requery/eval/Measure;" (.ref a_P_5)) (K_P_5 : Fld Z h0 a_P_5 "com/example/requery/requery/eval/Measure" "kind" "Lcom/example/requery/requery/eval/Measure$Kind;" (.ref a_FRACTION)) (E_P_10 : Exa Z h0 a_P_10 "com/example/requery/requery/eval/Measure") (S_P_10 : Sta Z h0 "com/example/requery/requery/eval/Measure" "P_10" "Lcom/example/requery/requery/eval/Measure;" (.ref a_P_10)) (K_P_10 : Fld Z h0 a_P_10 "com/example/requery/requery/eval/Measure" "kind" "Lcom/example/requery/requery/eval/Measure$Kind;" (.ref a_FRACTION)) (E_P_20 : Exa Z h0 a_P_20 "com/example/requery/requery/eval/Measure") (S_P_20 : Sta Z h0 "com/example/requery/requery/eval/Measure" "P_20" "Lcom/example/requery/requery/eval/Measure;" (.ref a_P_20)) (K_P_20 : Fld Z h0 a_P_20 "com/example/requery/requery/eval/Measure" "kind" "Lcom/example/requery/requery/eval/Measure$Kind;" (.ref a_FRACTION)) (E_P_30 : Exa Z h0 a_P_30 "com/example/requery/requery/eval/Measure") (S_P_30 : Sta Z h0 "com/example/requery/requery/eval/Measure" "P_30" "Lcom/example/requery/requery/eval/Measure;" (.ref a_P_30)) (K_P_30 : Fld Z h0 a_P_30 "com/example/requery/requery/eval/Measure" "kind" "Lcom/example/requery/requery/eval/Measure$Kind;" (.ref a_FRACTION)) (E_RECALL_1000 : Exa Z h0 a_RECALL_1000 "com/example/requery/requery/eval/Measure") (S_RECALL_1000 : Sta Z h0 "com/example/requery/requery/eval/Measure" "RECALL_1000" "Lcom/example/requery/requery/eval/Measure;" (.ref a_RECALL_1000)) (K_RECALL_1000 : Fld Z h0 a_RECALL_1000 "com/example/requery/requery/eval/Measure" "kind" "Lcom/example/requery/requery/eval/Measure$Kind;" (.ref a_FRACTION)) (S_FR : Sta Z h0 "com/example/requery/requery/eval/Measure$Kind" "FRACTION" "Lcom/example/requery/requery/eval/Measure$Kind;" (.ref a_FRACTION)) (neT : ¬ (a_TOPICS = a_FRACTION)) (neC : ¬ (a_COUNT = a_FRACTION)) :
    MetFree l x (head1 (Jvm.Cond.code x code maxLocals ret :: ws) room_1) (fun zA zU => zA = #[(.int x1)] ∧ Z.Warmed39 zU.vm ∧ zU.heap = h0) (fun _ _ _ _ _ => True) (fun _ zU zO zW => ∃ zV zL, zO = .returned zV ∧ QL n0 zV zW.heap zL ∧ FrameEnd zU zO zW zL room_1.cells room_1.slots) := by
  rcases kcases x1 with hk | hk | hk | hk | hk | hk | hk | hk | hk | hk | hk
  · exact rm0a l Z a0 hw ws x1 a_NUM_Q a_NUM_RET a_NUM_REL a_NUM_REL_RET a_MAP a_RPREC a_P_5 a_P_10 a_P_20 a_P_30 a_RECALL_1000 a_NUM_Q a_TOPICS a_FRACTION h0 n0 Z0 E_NUM_Q S_NUM_Q E_NUM_RET S_NUM_RET E_NUM_REL S_NUM_REL E_NUM_REL_RET S_NUM_REL_RET E_MAP S_MAP E_RPREC S_RPREC E_P_5 S_P_5 E_P_10 S_P_10 E_P_20 S_P_20 E_P_30 S_P_30 E_RECALL_1000 S_RECALL_1000 S_FR E_NUM_Q K_NUM_Q (by rw [hk]; decide) (by rw [hk]; rfl) (Or.inl ⟨neT, rfl⟩) (by rw [hk]; decide)
  · exact rm0a l Z a0 hw ws x1 a_NUM_Q a_NUM_RET a_NUM_REL a_NUM_REL_RET a_MAP a_RPREC a_P_5 a_P_10 a_P_20 a_P_30 a_RECALL_1000 a_NUM_RET a_COUNT a_FRACTION h0 n0 Z0 E_NUM_Q S_NUM_Q E_NUM_RET S_NUM_RET E_NUM_REL S_NUM_REL E_NUM_REL_RET S_NUM_REL_RET E_MAP S_MAP E_RPREC S_RPREC E_P_5 S_P_5 E_P_10 S_P_10 E_P_20 S_P_20 E_P_30 S_P_30 E_RECALL_1000 S_RECALL_1000 S_FR E_NUM_RET K_NUM_RET (by rw [hk]; decide) (by rw [hk]; rfl) (Or.inl ⟨neC, rfl⟩) (by rw [hk]; decide)
  · exact rm0a l Z a0 hw ws x1 a_NUM_Q a_NUM_RET a_NUM_REL a_NUM_REL_RET a_MAP a_RPREC a_P_5 a_P_10 a_P_20 a_P_30 a_RECALL_1000 a_NUM_REL a_COUNT a_FRACTION h0 n0 Z0 E_NUM_Q S_NUM_Q E_NUM_RET S_NUM_RET E_NUM_REL S_NUM_REL E_NUM_REL_RET S_NUM_REL_RET E_MAP S_MAP E_RPREC S_RPREC E_P_5 S_P_5 E_P_10 S_P_10 E_P_20 S_P_20 E_P_30 S_P_30 E_RECALL_1000 S_RECALL_1000 S_FR E_NUM_REL K_NUM_REL (by rw [hk]; decide) (by rw [hk]; rfl) (Or.inl ⟨neC, rfl⟩) (by rw [hk]; decide)
  · exact rm0a l Z a0 hw ws x1 a_NUM_Q a_NUM_RET a_NUM_REL a_NUM_REL_RET a_MAP a_RPREC a_P_5 a_P_10 a_P_20 a_P_30 a_RECALL_1000 a_NUM_REL_RET a_COUNT a_FRACTION h0 n0 Z0 E_NUM_Q S_NUM_Q E_NUM_RET S_NUM_RET E_NUM_REL S_NUM_REL E_NUM_REL_RET S_NUM_REL_RET E_MAP S_MAP E_RPREC S_RPREC E_P_5 S_P_5 E_P_10 S_P_10 E_P_20 S_P_20 E_P_30 S_P_30 E_RECALL_1000 S_RECALL_1000 S_FR E_NUM_REL_RET K_NUM_REL_RET (by rw [hk]; decide) (by rw [hk]; rfl) (Or.inl ⟨neC, rfl⟩) (by rw [hk]; decide)
  · exact rm0b l Z a0 hw ws x1 a_NUM_Q a_NUM_RET a_NUM_REL a_NUM_REL_RET a_MAP a_RPREC a_P_5 a_P_10 a_P_20 a_P_30 a_RECALL_1000 a_MAP a_FRACTION a_FRACTION h0 n0 Z0 E_NUM_Q S_NUM_Q E_NUM_RET S_NUM_RET E_NUM_REL S_NUM_REL E_NUM_REL_RET S_NUM_REL_RET E_MAP S_MAP E_RPREC S_RPREC E_P_5 S_P_5 E_P_10 S_P_10 E_P_20 S_P_20 E_P_30 S_P_30 E_RECALL_1000 S_RECALL_1000 S_FR E_MAP K_MAP (by rw [hk]; decide) (by rw [hk]; rfl) (Or.inr ⟨rfl, rfl⟩) (by rw [hk]; decide)
  · exact rm0b l Z a0 hw ws x1 a_NUM_Q a_NUM_RET a_NUM_REL a_NUM_REL_RET a_MAP a_RPREC a_P_5 a_P_10 a_P_20 a_P_30 a_RECALL_1000 a_RPREC a_FRACTION a_FRACTION h0 n0 Z0 E_NUM_Q S_NUM_Q E_NUM_RET S_NUM_RET E_NUM_REL S_NUM_REL E_NUM_REL_RET S_NUM_REL_RET E_MAP S_MAP E_RPREC S_RPREC E_P_5 S_P_5 E_P_10 S_P_10 E_P_20 S_P_20 E_P_30 S_P_30 E_RECALL_1000 S_RECALL_1000 S_FR E_RPREC K_RPREC (by rw [hk]; decide) (by rw [hk]; rfl) (Or.inr ⟨rfl, rfl⟩) (by rw [hk]; decide)
  · exact rm0b l Z a0 hw ws x1 a_NUM_Q a_NUM_RET a_NUM_REL a_NUM_REL_RET a_MAP a_RPREC a_P_5 a_P_10 a_P_20 a_P_30 a_RECALL_1000 a_P_5 a_FRACTION a_FRACTION h0 n0 Z0 E_NUM_Q S_NUM_Q E_NUM_RET S_NUM_RET E_NUM_REL S_NUM_REL E_NUM_REL_RET S_NUM_REL_RET E_MAP S_MAP E_RPREC S_RPREC E_P_5 S_P_5 E_P_10 S_P_10 E_P_20 S_P_20 E_P_30 S_P_30 E_RECALL_1000 S_RECALL_1000 S_FR E_P_5 K_P_5 (by rw [hk]; decide) (by rw [hk]; rfl) (Or.inr ⟨rfl, rfl⟩) (by rw [hk]; decide)
  · exact rm0b l Z a0 hw ws x1 a_NUM_Q a_NUM_RET a_NUM_REL a_NUM_REL_RET a_MAP a_RPREC a_P_5 a_P_10 a_P_20 a_P_30 a_RECALL_1000 a_P_10 a_FRACTION a_FRACTION h0 n0 Z0 E_NUM_Q S_NUM_Q E_NUM_RET S_NUM_RET E_NUM_REL S_NUM_REL E_NUM_REL_RET S_NUM_REL_RET E_MAP S_MAP E_RPREC S_RPREC E_P_5 S_P_5 E_P_10 S_P_10 E_P_20 S_P_20 E_P_30 S_P_30 E_RECALL_1000 S_RECALL_1000 S_FR E_P_10 K_P_10 (by rw [hk]; decide) (by rw [hk]; rfl) (Or.inr ⟨rfl, rfl⟩) (by rw [hk]; decide)
  · exact rm0b l Z a0 hw ws x1 a_NUM_Q a_NUM_RET a_NUM_REL a_NUM_REL_RET a_MAP a_RPREC a_P_5 a_P_10 a_P_20 a_P_30 a_RECALL_1000 a_P_20 a_FRACTION a_FRACTION h0 n0 Z0 E_NUM_Q S_NUM_Q E_NUM_RET S_NUM_RET E_NUM_REL S_NUM_REL E_NUM_REL_RET S_NUM_REL_RET E_MAP S_MAP E_RPREC S_RPREC E_P_5 S_P_5 E_P_10 S_P_10 E_P_20 S_P_20 E_P_30 S_P_30 E_RECALL_1000 S_RECALL_1000 S_FR E_P_20 K_P_20 (by rw [hk]; decide) (by rw [hk]; rfl) (Or.inr ⟨rfl, rfl⟩) (by rw [hk]; decide)
  · exact rm0b l Z a0 hw ws x1 a_NUM_Q a_NUM_RET a_NUM_REL a_NUM_REL_RET a_MAP a_RPREC a_P_5 a_P_10 a_P_20 a_P_30 a_RECALL_1000 a_P_30 a_FRACTION a_FRACTION h0 n0 Z0 E_NUM_Q S_NUM_Q E_NUM_RET S_NUM_RET E_NUM_REL S_NUM_REL E_NUM_REL_RET S_NUM_REL_RET E_MAP S_MAP E_RPREC S_RPREC E_P_5 S_P_5 E_P_10 S_P_10 E_P_20 S_P_20 E_P_30 S_P_30 E_RECALL_1000 S_RECALL_1000 S_FR E_P_30 K_P_30 (by rw [hk]; decide) (by rw [hk]; rfl) (Or.inr ⟨rfl, rfl⟩) (by rw [hk]; decide)
  · exact rm0b l Z a0 hw ws x1 a_NUM_Q a_NUM_RET a_NUM_REL a_NUM_REL_RET a_MAP a_RPREC a_P_5 a_P_10 a_P_20 a_P_30 a_RECALL_1000 a_RECALL_1000 a_FRACTION a_FRACTION h0 n0 Z0 E_NUM_Q S_NUM_Q E_NUM_RET S_NUM_RET E_NUM_REL S_NUM_REL E_NUM_REL_RET S_NUM_REL_RET E_MAP S_MAP E_RPREC S_RPREC E_P_5 S_P_5 E_P_10 S_P_10 E_P_20 S_P_20 E_P_30 S_P_30 E_RECALL_1000 S_RECALL_1000 S_FR E_RECALL_1000 K_RECALL_1000 (by rw [hk]; decide) (by rw [hk]; rfl) (Or.inr ⟨rfl, rfl⟩) (by rw [hk]; decide)
set_option maxRecDepth 65536 in
set_option maxHeartbeats 40000000 in
theorem comes_1 {Post : Tables → Env → Array Value → State → Outcome → State → Prop} (hpost : ∀ tb e args s v u, (limb_1_1.after args s (.returned v) u = true ∧ limb_1_2.after args s (.returned v) u = true ∧ True) → FrameEnd s (.returned v) u (Jvm.fieldLocs frame_1_writes args s ++ Jvm.arrayLocs frame_1_arrays args s ++ Jvm.staticLocs frame_1_statics s) 16 128 → Post tb e args s (.returned v) u) :
    ArmFor flags0 classFile x code maxLocals ret World_1 tables_1 room_1 Calls_1 rest_1 Pre_1 Post := by
  intro l hfl _ _ p e ha hc hk s m args below hf hA hF happ hP
  obtain ⟨hcalls, hrest, hpre⟩ := hP
  obtain ⟨-, -, -, hnamed, -, -, -, hat⟩ := (Spec.applies_iff hf).mp happ
  obtain ⟨hg, hn⟩ := and_e (Cond.before_iff.mp (show (Jvm.Cond.and given_1 narrow_1).before args s = true from hpre))
  obtain ⟨gc, hg⟩ := and_e hg
  have ga0 := hg
  obtain ⟨w0, rfl⟩ : ∃ w0 : Value, args = #[w0] := by
    have hs : args.size = 1 := by simpa [Cond.value, given_1] using gc
    obtain ⟨L⟩ := args
    match L, hs with
    | [w0], _ => exact ⟨w0, rfl⟩
  have hw := fun d (hd : d ∈ tables_1) => atoms_spec (ws := Jvm.Cond.code x code maxLocals ret :: tables_1) hat d (List.mem_cons_of_mem _ hd)
  have hfit : Fit s := fun {y c} hc i hi => by
    obtain ⟨ha, rfl⟩ := Array.getElem?_eq_some_iff.mp hc
    have q := List.all_eq_true.mp ((Array.all_eq_true_iff_forall_mem.mp hF) _ (Array.getElem_mem ha)) i (List.mem_range.mpr hi)
    simpa [Array.getElem?_eq_getElem hi] using q
  obtain ⟨i0, ei0⟩ := is_v ga0
  obtain rfl : w0 = (.int i0) := Option.some.inj ei0
  obtain ⟨n0, hn⟩ := and_e hn
  obtain ⟨n1, hn⟩ := and_e hn
  obtain ⟨n2, hn⟩ := and_e hn
  obtain ⟨n3, hn⟩ := and_e hn
  obtain ⟨n4, hn⟩ := and_e hn
  obtain ⟨n5, hn⟩ := and_e hn
  obtain ⟨n6, hn⟩ := and_e hn
  obtain ⟨n7, hn⟩ := and_e hn
  obtain ⟨n8, hn⟩ := and_e hn
  obtain ⟨n9, hn⟩ := and_e hn
  obtain ⟨n10, hn⟩ := and_e hn
  obtain ⟨n11, hn⟩ := and_e hn
  obtain ⟨n12, hn⟩ := and_e hn
  obtain ⟨n13, hn⟩ := and_e hn
  obtain ⟨n14, hn⟩ := and_e hn
  obtain ⟨n15, hn⟩ := and_e hn
  obtain ⟨n16, hn⟩ := and_e hn
  obtain ⟨n17, hn⟩ := and_e hn
  obtain ⟨n18, hn⟩ := and_e hn
  obtain ⟨n19, hn⟩ := and_e hn
  obtain ⟨n20, hn⟩ := and_e hn
  obtain ⟨n21, hn⟩ := and_e hn
  obtain ⟨n22, hn⟩ := and_e hn
  obtain ⟨n23, hn⟩ := and_e hn
  obtain ⟨n24, hn⟩ := and_e hn
  obtain ⟨n25, hn⟩ := and_e hn
  obtain ⟨n26, hn⟩ := and_e hn
  have n27 := hn
  obtain ⟨a_NUM_Q, ev_NUM_Q⟩ := exa_v n0
  have E_NUM_Q := Exa.start ev_NUM_Q n0
  have S_NUM_Q := Sta.start ev_NUM_Q (Or.inr ⟨(hw _ (List.mem_of_getElem? (i := 3) rfl)), (hw _ (List.mem_of_getElem? (i := 4) rfl))⟩)
  obtain ⟨a_NUM_RET, ev_NUM_RET⟩ := exa_v n1
  have E_NUM_RET := Exa.start ev_NUM_RET n1
  have S_NUM_RET := Sta.start ev_NUM_RET (Or.inr ⟨(hw _ (List.mem_of_getElem? (i := 3) rfl)), (hw _ (List.mem_of_getElem? (i := 7) rfl))⟩)
  obtain ⟨a_NUM_REL, ev_NUM_REL⟩ := exa_v n2
  have E_NUM_REL := Exa.start ev_NUM_REL n2
  have S_NUM_REL := Sta.start ev_NUM_REL (Or.inr ⟨(hw _ (List.mem_of_getElem? (i := 3) rfl)), (hw _ (List.mem_of_getElem? (i := 9) rfl))⟩)
  obtain ⟨a_NUM_REL_RET, ev_NUM_REL_RET⟩ := exa_v n3
  have E_NUM_REL_RET := Exa.start ev_NUM_REL_RET n3
  have S_NUM_REL_RET := Sta.start ev_NUM_REL_RET (Or.inr ⟨(hw _ (List.mem_of_getElem? (i := 3) rfl)), (hw _ (List.mem_of_getElem? (i := 11) rfl))⟩)
  obtain ⟨a_MAP, ev_MAP⟩ := exa_v n4
  have E_MAP := Exa.start ev_MAP n4
  have S_MAP := Sta.start ev_MAP (Or.inr ⟨(hw _ (List.mem_of_getElem? (i := 3) rfl)), (hw _ (List.mem_of_getElem? (i := 13) rfl))⟩)
  obtain ⟨a_RPREC, ev_RPREC⟩ := exa_v n5
  have E_RPREC := Exa.start ev_RPREC n5
  have S_RPREC := Sta.start ev_RPREC (Or.inr ⟨(hw _ (List.mem_of_getElem? (i := 3) rfl)), (hw _ (List.mem_of_getElem? (i := 15) rfl))⟩)
  obtain ⟨a_P_5, ev_P_5⟩ := exa_v n6
  have E_P_5 := Exa.start ev_P_5 n6
  have S_P_5 := Sta.start ev_P_5 (Or.inr ⟨(hw _ (List.mem_of_getElem? (i := 3) rfl)), (hw _ (List.mem_of_getElem? (i := 17) rfl))⟩)
  obtain ⟨a_P_10, ev_P_10⟩ := exa_v n7
  have E_P_10 := Exa.start ev_P_10 n7
  have S_P_10 := Sta.start ev_P_10 (Or.inr ⟨(hw _ (List.mem_of_getElem? (i := 3) rfl)), (hw _ (List.mem_of_getElem? (i := 19) rfl))⟩)
  obtain ⟨a_P_20, ev_P_20⟩ := exa_v n8
  have E_P_20 := Exa.start ev_P_20 n8
  have S_P_20 := Sta.start ev_P_20 (Or.inr ⟨(hw _ (List.mem_of_getElem? (i := 3) rfl)), (hw _ (List.mem_of_getElem? (i := 21) rfl))⟩)
  obtain ⟨a_P_30, ev_P_30⟩ := exa_v n9
  have E_P_30 := Exa.start ev_P_30 n9
  have S_P_30 := Sta.start ev_P_30 (Or.inr ⟨(hw _ (List.mem_of_getElem? (i := 3) rfl)), (hw _ (List.mem_of_getElem? (i := 23) rfl))⟩)
  obtain ⟨a_RECALL_1000, ev_RECALL_1000⟩ := exa_v n10
  have E_RECALL_1000 := Exa.start ev_RECALL_1000 n10
  have S_RECALL_1000 := Sta.start ev_RECALL_1000 (Or.inr ⟨(hw _ (List.mem_of_getElem? (i := 3) rfl)), (hw _ (List.mem_of_getElem? (i := 25) rfl))⟩)
  obtain ⟨a_TOPICS, ev_TOPICS⟩ := exa_v n11
  have E_TOPICS := Exa.start ev_TOPICS n11
  have S_TOPICS := Sta.start ev_TOPICS (Or.inr ⟨(hw _ (List.mem_of_getElem? (i := 34) rfl)), (hw _ (List.mem_of_getElem? (i := 35) rfl))⟩)
  obtain ⟨a_FRACTION, ev_FRACTION⟩ := exa_v n13
  have E_FRACTION := Exa.start ev_FRACTION n13
  have S_FRACTION := Sta.start ev_FRACTION (Or.inr ⟨(hw _ (List.mem_of_getElem? (i := 34) rfl)), (hw _ (List.mem_of_getElem? (i := 37) rfl))⟩)
  obtain ⟨a_COUNT, ev_COUNT⟩ := exa_v n16
  have E_COUNT := Exa.start ev_COUNT n16
  have S_COUNT := Sta.start ev_COUNT (Or.inr ⟨(hw _ (List.mem_of_getElem? (i := 34) rfl)), (hw _ (List.mem_of_getElem? (i := 38) rfl))⟩)
  have O_TOPICS : Fld s s.heap a_TOPICS "java/lang/Enum" "ordinal" "I" (.int (0 : Int32)) := Fld.start (fld_int ev_TOPICS n14)
  have O_FRACTION : Fld s s.heap a_FRACTION "java/lang/Enum" "ordinal" "I" (.int (2 : Int32)) := Fld.start (fld_int ev_FRACTION n15)
  have O_COUNT : Fld s s.heap a_COUNT "java/lang/Enum" "ordinal" "I" (.int (1 : Int32)) := Fld.start (fld_int ev_COUNT n18)
  have K_NUM_Q : Fld s s.heap a_NUM_Q "com/example/requery/requery/eval/Measure" "kind" "Lcom/example/requery/requery/eval/Measure$Kind;" (.ref a_TOPICS) := Fld.start (fld_ref ev_NUM_Q ev_TOPICS n12)
  have K_NUM_REL_RET : Fld s s.heap a_NUM_REL_RET "com/example/requery/requery/eval/Measure" "kind" "Lcom/example/requery/requery/eval/Measure$Kind;" (.ref a_COUNT) := Fld.start (fld_ref ev_NUM_REL_RET ev_COUNT n17)
  have K_P_10 : Fld s s.heap a_P_10 "com/example/requery/requery/eval/Measure" "kind" "Lcom/example/requery/requery/eval/Measure$Kind;" (.ref a_FRACTION) := Fld.start (fld_ref ev_P_10 ev_FRACTION n19)
  have K_P_20 : Fld s s.heap a_P_20 "com/example/requery/requery/eval/Measure" "kind" "Lcom/example/requery/requery/eval/Measure$Kind;" (.ref a_FRACTION) := Fld.start (fld_ref ev_P_20 ev_FRACTION n20)
  have K_NUM_REL : Fld s s.heap a_NUM_REL "com/example/requery/requery/eval/Measure" "kind" "Lcom/example/requery/requery/eval/Measure$Kind;" (.ref a_COUNT) := Fld.start (fld_ref ev_NUM_REL ev_COUNT n21)
  have K_RECALL_1000 : Fld s s.heap a_RECALL_1000 "com/example/requery/requery/eval/Measure" "kind" "Lcom/example/requery/requery/eval/Measure$Kind;" (.ref a_FRACTION) := Fld.start (fld_ref ev_RECALL_1000 ev_FRACTION n22)
  have K_NUM_RET : Fld s s.heap a_NUM_RET "com/example/requery/requery/eval/Measure" "kind" "Lcom/example/requery/requery/eval/Measure$Kind;" (.ref a_COUNT) := Fld.start (fld_ref ev_NUM_RET ev_COUNT n23)
  have K_P_30 : Fld s s.heap a_P_30 "com/example/requery/requery/eval/Measure" "kind" "Lcom/example/requery/requery/eval/Measure$Kind;" (.ref a_FRACTION) := Fld.start (fld_ref ev_P_30 ev_FRACTION n24)
  have K_RPREC : Fld s s.heap a_RPREC "com/example/requery/requery/eval/Measure" "kind" "Lcom/example/requery/requery/eval/Measure$Kind;" (.ref a_FRACTION) := Fld.start (fld_ref ev_RPREC ev_FRACTION n25)
  have K_P_5 : Fld s s.heap a_P_5 "com/example/requery/requery/eval/Measure" "kind" "Lcom/example/requery/requery/eval/Measure$Kind;" (.ref a_FRACTION) := Fld.start (fld_ref ev_P_5 ev_FRACTION n26)
  have K_MAP : Fld s s.heap a_MAP "com/example/requery/requery/eval/Measure" "kind" "Lcom/example/requery/requery/eval/Measure$Kind;" (.ref a_FRACTION) := Fld.start (fld_ref ev_MAP ev_FRACTION n27)
  have vne : ∀ {i j : Int32}, ¬ (i = j) → (Value.int i) ≠ (Value.int j) := fun h q => h (Value.int.inj q)
  obtain ⟨n, o, h1, h2, h3, _, L, rfl, ⟨rfl, N⟩, hq⟩ := rm0 l s _ hw tables_1 i0 a_NUM_Q a_NUM_RET a_NUM_REL a_NUM_REL_RET a_MAP a_RPREC a_P_5 a_P_10 a_P_20 a_P_30 a_RECALL_1000 a_TOPICS a_COUNT a_FRACTION s.heap s.heap.size (Nat.le_refl _) E_NUM_Q S_NUM_Q K_NUM_Q E_NUM_RET S_NUM_RET K_NUM_RET E_NUM_REL S_NUM_REL K_NUM_REL E_NUM_REL_RET S_NUM_REL_RET K_NUM_REL_RET E_MAP S_MAP K_MAP E_RPREC S_RPREC K_RPREC E_P_5 S_P_5 K_P_5 E_P_10 S_P_10 K_P_10 E_P_20 S_P_20 K_P_20 E_P_30 S_P_30 K_P_30 E_RECALL_1000 S_RECALL_1000 K_RECALL_1000 S_FRACTION (Fld.ne O_TOPICS O_FRACTION (vne (by decide))) (Fld.ne O_COUNT O_FRACTION (vne (by decide))) p e ha hc hk s m _ below hf ((Spec.applies_iff_loose hf).mp happ).1 ⟨rfl, State.Warmed39.refl s, rfl⟩ trivial
  refine ⟨n, _, h1, h2, h3, hpost _ _ _ _ _ _ ⟨Cond.after_iff.mpr rfl, Cond.after_iff.mpr (eq_i res_at (Term.int_eval (1)) rfl), trivial⟩ ⟨hq.1, hq.2.1, (hq.2.2.sift fun y hy => Or.inr (N y hy)).mono (by decide) (by decide)⟩⟩
theorem main_1_1 : Claimed_1_1 := comes_1 fun _ _ _ _ _ _ h hF => ⟨h.1, hF⟩
theorem main_1_2 : Claimed_1_2 := comes_1 fun _ _ _ _ _ _ h hF => ⟨h.2.1, hF⟩
end Jvm.Pilot.@@N@@
namespace Jvm.Pilot.@@N@@
open Jvm Jvm.ClassFile Sem Op Lib Jvm.Free Jvm.Stand Jvm.Pilot.@@N@@.Jvm.D
/-! MADE BY PROGRAM (witnessworld.py) out of the Statement's table words and the real class files: 14 classes; the members and pool entries that the words name. The judged class is class 1, her method 1. -/
namespace start1
open Jvm.ClassFile
def u (s : String) : CpInfo := .utf8 (stringToUtf16 s)
/-- a pool by its gaps: so many unusable entries, then the entry; so many at the end -/
def gap : Nat → List CpInfo → List CpInfo
  | 0, r => r
  | n + 1, r => .unusable :: gap n r
def poolList (es : List (Nat × CpInfo)) (last : Nat) : List CpInfo := es.foldr (fun e r => gap e.1 (e.2 :: r)) (gap last [])
def pool (es : List (Nat × CpInfo)) (last : Nat) : Array CpInfo := ⟨poolList es last⟩
def fileOf (pool : Array CpInfo) (this : Nat) (attrs : Array Attribute := #[]) (ms : Array MethodInfo := #[]) (fl : Nat := 33) (sup : Nat := 0) (ifs : Array Nat := #[]) (fds : Array FieldInfo := #[]) : ClassFile where
  minorVersion := 0
  majorVersion := 65
  constantPool := pool
  accessFlags := fl
  thisClass := this
  superClass := sup
  interfaces := ifs
  fields := fds
  methods := ms
  attributes := attrs
def plain (name : String) (sup : Option ClassId) : Class where
  name := name
  kind := .ordinary
  loader := none
  accessFlags := 33
  super := sup
  interfaces := #[]
  cf := none
  fields := #[]
  methods := #[]
  instanceTypes := #[]
  staticTypes := #[]
  resolved := #[]
  callSites := []
  init := .initialized
  statics := none
  mirror := none

def pool0 : Array CpInfo := pool [(5, u "<init>"), (0, u "()V"), (1, .class_ 10), (1, u "java/lang/Object")] 113

def k0m0 : Method := { name := "<init>", desc := "()V", sig := { parameters := [], returnType := none }, accessFlags := 1, code := none }
/-- java/lang/Object -/
def k0 : Class := { plain "java/lang/Object" none with
  accessFlags := 33
  interfaces := #[]
  cf := some (fileOf pool0 8 #[] #[{ accessFlags := 1, nameIndex := 5, descriptorIndex := 6, attributes := #[] }] 33 0 #[] #[])
  fields := #[]
  methods := #[k0m0]
  instanceTypes := #[]
  staticTypes := #[]
  resolved := Array.replicate 124 none
  statics := none }

def pool1 : Array CpInfo := pool [(2, .class_ 4), (1, u "java/lang/Object"), (0, u "<init>"), (0, u "()V"), (0, .class_ 8), (0, u "com/example/requery/requery/eval/Measure"), (0, .fieldref 7 10), (0, .nameAndType 11 12), (0, u "NUM_Q"), (0, u "Lcom/example/requery/requery/eval/Measure;"), (0, .fieldref 7 14), (0, .nameAndType 15 12), (0, u "NUM_RET"), (0, .fieldref 7 17), (0, .nameAndType 18 12), (0, u "NUM_REL"), (0, .fieldref 7 20), (0, .nameAndType 21 12), (0, u "NUM_REL_RET"), (0, .fieldref 7 23), (0, .nameAndType 24 12), (0, u "MAP"), (0, .fieldref 7 26), (0, .nameAndType 27 12), (0, u "RPREC"), (0, .fieldref 7 29), (0, .nameAndType 30 12), (0, u "P_5"), (0, .fieldref 7 32), (0, .nameAndType 33 12), (0, u "P_10"), (0, .fieldref 7 35), (0, .nameAndType 36 12), (0, u "P_20"), (0, .fieldref 7 38), (0, .nameAndType 39 12), (0, u "P_30"), (0, .fieldref 7 41), (0, .nameAndType 42 12), (0, u "RECALL_1000"), (0, .integer 2147483647), (0, .methodref 7 45), (0, .nameAndType 46 47), (0, u "isSum"), (0, u "()Z"), (0, .class_ 49), (0, u "com/example/requery/requery/eval/MeasureIsSumPinLaw"), (2, u "law"), (0, u "(I)Z")] 5

def k1m0 : Method := { name := "<init>", desc := "()V", sig := { parameters := [], returnType := none }, accessFlags := 2, code := none }
def k1c1 : Code := { maxStack := 4, maxLocals := 4, code := code, exceptionTable := #[], attributes := #[] }
def k1m1 : Method := { name := "law", desc := "(I)Z", sig := { parameters := [.int], returnType := some .boolean }, accessFlags := 9, code := some k1c1 }
/-- com/example/requery/requery/eval/MeasureIsSumPinLaw -/
def k1 : Class := { plain "com/example/requery/requery/eval/MeasureIsSumPinLaw" (some 0) with
  accessFlags := 49
  interfaces := #[]
  cf := some (fileOf pool1 48 #[] #[{ accessFlags := 2, nameIndex := 5, descriptorIndex := 6, attributes := #[] }, { accessFlags := 9, nameIndex := 52, descriptorIndex := 53, attributes := #[] }] 49 2 #[] #[])
  fields := #[]
  methods := #[k1m0, k1m1]
  instanceTypes := #[]
  staticTypes := #[]
  resolved := Array.replicate 59 none
  statics := none }

def pool2 : Array CpInfo := pool [(1, .class_ 2), (0, u "java/lang/constant/Constable"), (0, .class_ 4), (0, u "java/lang/Object")] 6

/-- java/lang/constant/Constable -/
def k2 : Class := { plain "java/lang/constant/Constable" (some 0) with
  accessFlags := 1537
  interfaces := #[]
  cf := some (fileOf pool2 1 #[] #[] 1537 3 #[] #[])
  fields := #[]
  methods := #[]
  instanceTypes := #[]
  staticTypes := #[]
  resolved := Array.replicate 11 none
  statics := none }

def pool3 : Array CpInfo := pool [(1, .class_ 2), (0, u "java/lang/Comparable"), (0, .class_ 4), (0, u "java/lang/Object")] 7

/-- java/lang/Comparable -/
def k3 : Class := { plain "java/lang/Comparable" (some 0) with
  accessFlags := 1537
  interfaces := #[]
  cf := some (fileOf pool3 1 #[] #[] 1537 3 #[] #[])
  fields := #[]
  methods := #[]
  instanceTypes := #[]
  staticTypes := #[]
  resolved := Array.replicate 12 none
  statics := none }

def pool4 : Array CpInfo := pool [(1, .class_ 2), (0, u "java/io/Serializable"), (0, .class_ 4), (0, u "java/lang/Object")] 2

/-- java/io/Serializable -/
def k4 : Class := { plain "java/io/Serializable" (some 0) with
  accessFlags := 1537
  interfaces := #[]
  cf := some (fileOf pool4 1 #[] #[] 1537 3 #[] #[])
  fields := #[]
  methods := #[]
  instanceTypes := #[]
  staticTypes := #[]
  resolved := Array.replicate 7 none
  statics := none }

def pool5 : Array CpInfo := pool [(2, .class_ 4), (1, u "java/lang/Enum"), (0, u "name"), (0, u "Ljava/lang/String;"), (2, u "ordinal"), (0, u "I"), (1, .class_ 14), (1, u "java/lang/Object"), (4, u "hash"), (86, .class_ 108), (1, u "java/lang/Enum$EnumDesc"), (2, .class_ 112), (0, u "java/lang/constant/Constable"), (0, .class_ 114), (0, u "java/lang/Comparable"), (0, .class_ 116), (0, u "java/io/Serializable")] 87

/-- java/lang/Enum -/
def k5 : Class := { plain "java/lang/Enum" (some 0) with
  accessFlags := 1057
  interfaces := #[2, 3, 4]
  cf := some (fileOf pool5 2 #[.nestMembers #[106]] #[] 1057 12 #[111, 113, 115] #[{ accessFlags := 18, nameIndex := 5, descriptorIndex := 6, attributes := #[] }, { accessFlags := 18, nameIndex := 9, descriptorIndex := 10, attributes := #[] }, { accessFlags := 2, nameIndex := 19, descriptorIndex := 10, attributes := #[] }])
  fields := #[{ name := "name", type := (.object "java/lang/String"), accessFlags := 18, slot := 0, constantValue := 0 }, { name := "ordinal", type := .int, accessFlags := 18, slot := 1, constantValue := 0 }, { name := "hash", type := .int, accessFlags := 2, slot := 2, constantValue := 0 }]
  methods := #[]
  instanceTypes := #[(.object "java/lang/String"), .int, .int]
  staticTypes := #[]
  resolved := Array.replicate 204 none
  statics := none }

def pool6 : Array CpInfo := pool [(1, .class_ 2), (0, u "com/example/requery/requery/eval/Measure"), (2, u "NUM_Q"), (0, u "Lcom/example/requery/requery/eval/Measure;"), (2, u "NUM_RET"), (2, u "NUM_REL"), (2, u "NUM_REL_RET"), (2, u "MAP"), (2, u "RPREC"), (2, u "P_5"), (2, u "P_10"), (2, u "P_20"), (2, u "P_30"), (2, u "RECALL_1000"), (2, u "$VALUES"), (0, u "[Lcom/example/requery/requery/eval/Measure;"), (6, .class_ 49), (1, u "java/lang/Enum"), (8, u "label"), (0, u "Ljava/lang/String;"), (0, .fieldref 1 61), (0, .nameAndType 62 63), (0, u "kind"), (0, u "Lcom/example/requery/requery/eval/Measure$Kind;"), (2, u "value"), (0, u "Ljava/util/function/ToDoubleFunction;"), (1, .class_ 71), (1, u "com/example/requery/requery/eval/Measure$Kind"), (1, .fieldref 69 74), (0, .nameAndType 75 63), (0, u "FRACTION"), (21, u "isSum"), (0, u "()Z"), (57, u "DIGITS"), (0, u "I")] 84

def k6c0 : Code := { maxStack := 2, maxLocals := 1, code := prog_5_method_6_code, exceptionTable := #[], attributes := #[] }
def k6m0 : Method := { name := "isSum", desc := "()Z", sig := { parameters := [], returnType := some .boolean }, accessFlags := 1, code := some k6c0 }
/-- com/example/requery/requery/eval/Measure -/
def k6 : Class := { plain "com/example/requery/requery/eval/Measure" (some 5) with
  accessFlags := 16433
  interfaces := #[]
  cf := some (fileOf pool6 1 #[.nestMembers #[69]] #[{ accessFlags := 1, nameIndex := 97, descriptorIndex := 98, attributes := #[] }] 16433 47 #[] #[{ accessFlags := 16409, nameIndex := 5, descriptorIndex := 6, attributes := #[] }, { accessFlags := 16409, nameIndex := 9, descriptorIndex := 6, attributes := #[] }, { accessFlags := 16409, nameIndex := 12, descriptorIndex := 6, attributes := #[] }, { accessFlags := 16409, nameIndex := 15, descriptorIndex := 6, attributes := #[] }, { accessFlags := 16409, nameIndex := 18, descriptorIndex := 6, attributes := #[] }, { accessFlags := 16409, nameIndex := 21, descriptorIndex := 6, attributes := #[] }, { accessFlags := 16409, nameIndex := 24, descriptorIndex := 6, attributes := #[] }, { accessFlags := 16409, nameIndex := 27, descriptorIndex := 6, attributes := #[] }, { accessFlags := 16409, nameIndex := 30, descriptorIndex := 6, attributes := #[] }, { accessFlags := 16409, nameIndex := 33, descriptorIndex := 6, attributes := #[] }, { accessFlags := 16409, nameIndex := 36, descriptorIndex := 6, attributes := #[] }, { accessFlags := 26, nameIndex := 156, descriptorIndex := 157, attributes := #[] }, { accessFlags := 18, nameIndex := 58, descriptorIndex := 59, attributes := #[] }, { accessFlags := 18, nameIndex := 62, descriptorIndex := 63, attributes := #[] }, { accessFlags := 18, nameIndex := 66, descriptorIndex := 67, attributes := #[] }, { accessFlags := 4122, nameIndex := 39, descriptorIndex := 40, attributes := #[] }])
  fields := #[{ name := "NUM_Q", type := (.object "com/example/requery/requery/eval/Measure"), accessFlags := 16409, slot := 0, constantValue := 0 }, { name := "NUM_RET", type := (.object "com/example/requery/requery/eval/Measure"), accessFlags := 16409, slot := 1, constantValue := 0 }, { name := "NUM_REL", type := (.object "com/example/requery/requery/eval/Measure"), accessFlags := 16409, slot := 2, constantValue := 0 }, { name := "NUM_REL_RET", type := (.object "com/example/requery/requery/eval/Measure"), accessFlags := 16409, slot := 3, constantValue := 0 }, { name := "MAP", type := (.object "com/example/requery/requery/eval/Measure"), accessFlags := 16409, slot := 4, constantValue := 0 }, { name := "RPREC", type := (.object "com/example/requery/requery/eval/Measure"), accessFlags := 16409, slot := 5, constantValue := 0 }, { name := "P_5", type := (.object "com/example/requery/requery/eval/Measure"), accessFlags := 16409, slot := 6, constantValue := 0 }, { name := "P_10", type := (.object "com/example/requery/requery/eval/Measure"), accessFlags := 16409, slot := 7, constantValue := 0 }, { name := "P_20", type := (.object "com/example/requery/requery/eval/Measure"), accessFlags := 16409, slot := 8, constantValue := 0 }, { name := "P_30", type := (.object "com/example/requery/requery/eval/Measure"), accessFlags := 16409, slot := 9, constantValue := 0 }, { name := "RECALL_1000", type := (.object "com/example/requery/requery/eval/Measure"), accessFlags := 16409, slot := 10, constantValue := 0 }, { name := "DIGITS", type := .int, accessFlags := 26, slot := 11, constantValue := 0 }, { name := "label", type := (.object "java/lang/String"), accessFlags := 18, slot := 3, constantValue := 0 }, { name := "kind", type := (.object "com/example/requery/requery/eval/Measure$Kind"), accessFlags := 18, slot := 4, constantValue := 0 }, { name := "value", type := (.object "java/util/function/ToDoubleFunction"), accessFlags := 18, slot := 5, constantValue := 0 }, { name := "$VALUES", type := (.array (.object "com/example/requery/requery/eval/Measure")), accessFlags := 4122, slot := 12, constantValue := 0 }]
  methods := #[k6m0]
  instanceTypes := #[(.object "java/lang/String"), .int, .int, (.object "java/lang/String"), (.object "com/example/requery/requery/eval/Measure$Kind"), (.object "java/util/function/ToDoubleFunction")]
  staticTypes := #[(.object "com/example/requery/requery/eval/Measure"), (.object "com/example/requery/requery/eval/Measure"), (.object "com/example/requery/requery/eval/Measure"), (.object "com/example/requery/requery/eval/Measure"), (.object "com/example/requery/requery/eval/Measure"), (.object "com/example/requery/requery/eval/Measure"), (.object "com/example/requery/requery/eval/Measure"), (.object "com/example/requery/requery/eval/Measure"), (.object "com/example/requery/requery/eval/Measure"), (.object "com/example/requery/requery/eval/Measure"), (.object "com/example/requery/requery/eval/Measure"), .int, (.array (.object "com/example/requery/requery/eval/Measure"))]
  resolved := Array.replicate 242 none
  statics := some 0 }

def pool7 : Array CpInfo := pool [(1, .class_ 2), (0, u "com/example/requery/requery/eval/Measure$Kind"), (2, u "TOPICS"), (0, u "Lcom/example/requery/requery/eval/Measure$Kind;"), (2, u "COUNT"), (2, u "FRACTION"), (2, u "$VALUES"), (0, u "[Lcom/example/requery/requery/eval/Measure$Kind;"), (6, .class_ 25), (1, u "java/lang/Enum"), (26, .class_ 53), (0, u "com/example/requery/requery/eval/Measure")] 2

/-- com/example/requery/requery/eval/Measure$Kind -/
def k7 : Class := { plain "com/example/requery/requery/eval/Measure$Kind" (some 5) with
  accessFlags := 16432
  interfaces := #[]
  cf := some (fileOf pool7 1 #[.nestHost 52] #[] 16432 23 #[] #[{ accessFlags := 16409, nameIndex := 5, descriptorIndex := 6, attributes := #[] }, { accessFlags := 16409, nameIndex := 9, descriptorIndex := 6, attributes := #[] }, { accessFlags := 16409, nameIndex := 12, descriptorIndex := 6, attributes := #[] }, { accessFlags := 4122, nameIndex := 15, descriptorIndex := 16, attributes := #[] }])
  fields := #[{ name := "TOPICS", type := (.object "com/example/requery/requery/eval/Measure$Kind"), accessFlags := 16409, slot := 0, constantValue := 0 }, { name := "COUNT", type := (.object "com/example/requery/requery/eval/Measure$Kind"), accessFlags := 16409, slot := 1, constantValue := 0 }, { name := "FRACTION", type := (.object "com/example/requery/requery/eval/Measure$Kind"), accessFlags := 16409, slot := 2, constantValue := 0 }, { name := "$VALUES", type := (.array (.object "com/example/requery/requery/eval/Measure$Kind")), accessFlags := 4122, slot := 3, constantValue := 0 }]
  methods := #[]
  instanceTypes := #[(.object "java/lang/String"), .int, .int]
  staticTypes := #[(.object "com/example/requery/requery/eval/Measure$Kind"), (.object "com/example/requery/requery/eval/Measure$Kind"), (.object "com/example/requery/requery/eval/Measure$Kind"), (.array (.object "com/example/requery/requery/eval/Measure$Kind"))]
  resolved := Array.replicate 56 none
  statics := some 1 }

def pool8 : Array CpInfo := pool [(1, u "java/lang/Cloneable"), (0, .class_ 1), (0, u "java/lang/Object"), (0, .class_ 3)] 3

/-- java/lang/Cloneable -/
def k8 : Class := { plain "java/lang/Cloneable" (some 0) with
  accessFlags := 1537
  interfaces := #[]
  cf := some (fileOf pool8 2 #[] #[] 1537 4 #[] #[])
  fields := #[]
  methods := #[]
  instanceTypes := #[]
  staticTypes := #[]
  resolved := Array.replicate 8 none
  statics := none }

/-- the primitive byte -/
def k9 : Class := { plain "byte" none with kind := .primitive 'B', accessFlags := 0x411 }
/-- [B -/
def k10 : Class := { plain "[B" (some 0) with kind := .array 9 .byte, interfaces := #[8, 4], accessFlags := 1041 }

/-- the primitive int -/
def k11 : Class := { plain "int" none with kind := .primitive 'I', accessFlags := 0x411 }
/-- [I -/
def k12 : Class := { plain "[I" (some 0) with kind := .array 11 .int, interfaces := #[8, 4], accessFlags := 1041 }

/-- [Lcom/example/requery/requery/eval/Measure; -/
def k13 : Class := { plain "[Lcom/example/requery/requery/eval/Measure;" (some 0) with kind := .array 6 (.object "com/example/requery/requery/eval/Measure"), interfaces := #[8, 4], accessFlags := 1041 }

def heap : Heap := #[{ cls := 6, slots := #[.ref 5, .ref 6, .ref 7, .ref 8, .ref 9, .ref 10, .ref 11, .ref 12, .ref 13, .ref 14, .ref 15, .int 0, .null], vm := .statics 6 },
  { cls := 7, slots := #[.ref 2, .ref 3, .ref 4, .null], vm := .statics 7 },
  { cls := 7, slots := #[.null, .int 0, .int 0], vm := .none },
  { cls := 7, slots := #[.null, .int 1, .int 0], vm := .none },
  { cls := 7, slots := #[.null, .int 2, .int 0], vm := .none },
  { cls := 6, slots := #[.null, .int 0, .int 0, .null, .ref 2, .null], vm := .none },
  { cls := 6, slots := #[.null, .int 1, .int 0, .null, .ref 3, .null], vm := .none },
  { cls := 6, slots := #[.null, .int 2, .int 0, .null, .ref 3, .null], vm := .none },
  { cls := 6, slots := #[.null, .int 3, .int 0, .null, .ref 3, .null], vm := .none },
  { cls := 6, slots := #[.null, .int 4, .int 0, .null, .ref 4, .null], vm := .none },
  { cls := 6, slots := #[.null, .int 5, .int 0, .null, .ref 4, .null], vm := .none },
  { cls := 6, slots := #[.null, .int 6, .int 0, .null, .ref 4, .null], vm := .none },
  { cls := 6, slots := #[.null, .int 7, .int 0, .null, .ref 4, .null], vm := .none },
  { cls := 6, slots := #[.null, .int 8, .int 0, .null, .ref 4, .null], vm := .none },
  { cls := 6, slots := #[.null, .int 9, .int 0, .null, .ref 4, .null], vm := .none },
  { cls := 6, slots := #[.null, .int 10, .int 0, .null, .ref 4, .null], vm := .none }]
def classes : Array Class := #[k0, k1, k2, k3, k4, k5, k6, k7, k8, k9, k10, k11, k12, k13]
def interned : List (Array UInt16 × Addr) := []
def slotsUsed : Nat := 92
def theMethod : MethodId := ⟨1, 1⟩
def args0 : Array Value := #[.int 5]
def aboutOver (below : List Frame) : State where
  vm := { classes := classes, interned := interned.toArray }
  heap := heap
  slotsUsed := slotsUsed
  threads := #[{ frames := .invoking theMethod args0 :: below }]
def below0 : List Frame := [.native { method := ⟨0, 0⟩, args := #[] }]
def about1 : State := aboutOver below0
def p0 : Program := .bare "" "" ""
def e0 : Env := launch0.env 0 0 0
theorem w_frames : about1.frames = Frame.invoking theMethod args0 :: below0 := rfl
set_option maxRecDepth 65536 in
theorem w_args : argsFit about1.vm theMethod args0 = true := by decide +kernel
set_option maxRecDepth 65536 in
theorem w_heap : heapFits about1 = true := by decide +kernel
set_option maxRecDepth 65536 in
theorem w_runnable : about1.curStatus? = some .runnable := by decide +kernel
set_option maxRecDepth 65536 in
theorem w_alone : about1.alone = true := by decide +kernel
set_option maxRecDepth 65536 in
theorem w_named : about1.methodNamed? x = some theMethod := by decide +kernel
set_option maxRecDepth 65536 in
theorem w_hears : about1.hears theMethod below0 = true := by decide +kernel
set_option maxRecDepth 65536 in
theorem w_ripe : about1.ripe theMethod args0 below0 = true := by decide +kernel
theorem w_running : about1.status = .running := rfl
set_option maxRecDepth 65536 in
theorem w_room : about1.hasRoom e0.platform room_1 = true :=
  launch0.hasRoom_least _ room_1 (by decide +kernel) (by decide +kernel) (by decide +kernel) (by decide +kernel) (by decide +kernel) (by decide +kernel)
theorem allAtoms_all (ts : List Jvm.Cond) (a : Array Jvm.Value) (st : Jvm.State) : (allAtoms ts).before a st = ts.all (fun c => c.before a st) := by
  induction ts with
  | nil => rfl
  | cons c t ih =>
    show (Jvm.Cond.and c (allAtoms t)).before a st = _
    rw [Jvm.Cond.before_and, ih, List.all_cons]
def words1 : List Jvm.Cond := Jvm.Cond.code x code maxLocals ret :: tables_1
/-- a 'code' word, met by the world's own term for the bytes: nothing is compared byte by byte -/
theorem code_word {y : MethodName} {bytes : ByteArray} {mx : Nat} {rt : Option FieldType} {a : Array Value} {s : State} {m : MethodId} {meth : Method} {c : Code} (h1 : s.methodNamed? y = some m) (h2 : s.vm.method? m = some meth) (h3 : meth.code = some c) (h4 : c.code = bytes)
    (h5 : (c.maxLocals == mx && c.exceptionTable.isEmpty && decide (c.maxStack ≤ mostOperands) && decide (meth.sig.returnType = rt) && !meth.locks && decide (parseMethodDescriptor y.desc = some meth.sig)) = true) : (Jvm.Cond.code y bytes mx rt).before a s = true := by
  simp only [Bool.and_eq_true, beq_iff_eq, Bool.not_eq_true', decide_eq_true_eq] at h5
  obtain ⟨⟨⟨⟨⟨g1, g2⟩, g3⟩, g4⟩, g5⟩, g6⟩ := h5
  simp [Cond.before, Cond.holds, Cond.value, h1, h2, h3, h4, g1, g2, g3, g4, g5, g6]
def isCode : Jvm.Cond → Bool
  | .code _ _ _ _ => true
  | _ => false
theorem all_split {L : List Jvm.Cond} {P : Jvm.Cond → Bool} (h1 : L.all (fun c => isCode c || P c) = true) (h2 : ∀ c ∈ L.filter isCode, P c = true) : L.all P = true := by
  refine List.all_eq_true.mpr fun c hc => ?_
  have h := List.all_eq_true.mp h1 c hc
  rcases Bool.eq_false_or_eq_true (isCode c) with hi | hi
  · exact h2 c (List.mem_filter.mpr ⟨hc, hi⟩)
  · simpa [hi] using h
set_option maxRecDepth 65536 in
theorem w_c0 : (Jvm.Cond.code x code maxLocals ret).before args0 about1 = true := code_word (m := ⟨1, 1⟩) (meth := k1m1) (c := k1c1) (by decide +kernel) rfl rfl rfl (by decide +kernel)
set_option maxRecDepth 65536 in
theorem w_c1 : (Jvm.Cond.code ({ cls := "com/example/requery/requery/eval/Measure", name := "isSum", desc := "()Z" } : Jvm.MethodName) prog_5_method_6_code (1 : Nat) (Option.some Jvm.ClassFile.FieldType.boolean)).before args0 about1 = true := code_word (m := ⟨6, 0⟩) (meth := k6m0) (c := k6c0) (by decide +kernel) rfl rfl rfl (by decide +kernel)
def codes1 : List Jvm.Cond := [Jvm.Cond.code x code maxLocals ret, Jvm.Cond.code ({ cls := "com/example/requery/requery/eval/Measure", name := "isSum", desc := "()Z" } : Jvm.MethodName) prog_5_method_6_code (1 : Nat) (Option.some Jvm.ClassFile.FieldType.boolean)]
set_option maxRecDepth 65536 in
theorem codes_eq : words1.filter isCode = codes1 := rfl
theorem w_codes : ∀ c ∈ words1.filter isCode, c.before args0 about1 = true := by
  rw [codes_eq]
  intro c hc
  simp only [codes1, List.mem_cons, List.not_mem_nil, or_false] at hc
  rcases hc with rfl | rfl
  · exact w_c0
  · exact w_c1
set_option maxRecDepth 65536 in
theorem w_t1 : (words1.take 24).all (fun c => isCode c || c.before args0 about1) = true := by decide +kernel
set_option maxRecDepth 65536 in
theorem w_t2 : (words1.drop 24).all (fun c => isCode c || c.before args0 about1) = true := by decide +kernel
theorem w_tables : (allAtoms (Jvm.Cond.code x code maxLocals ret :: tables_1)).before args0 about1 = true := by
  rw [allAtoms_all]
  show words1.all (fun c => c.before args0 about1) = true
  refine all_split ?_ w_codes
  rw [← List.take_append_drop 24 words1, List.all_append, w_t1, w_t2]
  rfl
set_option maxRecDepth 65536 in
theorem w_case : (Jvm.Cond.and given_1 narrow_1).before args0 about1 = true := by decide +kernel
theorem w_applies : (headSpec (Jvm.Cond.code x code maxLocals ret :: tables_1) room_1).applies x e0.platform about1 = true :=
  (Spec.applies_iff w_frames).mpr ⟨w_running, w_runnable, w_alone, w_named, w_hears, w_ripe, w_room, w_tables⟩
theorem atStart : AtStart classFile x code maxLocals ret World_1 tables_1 room_1 Calls_1 rest_1 Pre_1 launch0 p0 e0 about1 theMethod args0 below0 :=
  ⟨lists_1, trivial, launch0.admits_env _ _ _, launch0.least_env, fairChoices_fair.cas, fairChoices_fair.clock, w_frames, w_args, w_heap, w_applies, trivial, trivial, w_case⟩
end start1
theorem witness_1 : WitnessClaimed_1 := ⟨start1.p0, start1.e0, start1.about1, start1.theMethod, start1.args0, start1.below0, start1.atStart⟩
end Jvm.Pilot.@@N@@
