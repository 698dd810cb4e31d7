import JvmDerived
import JvmDerived.Pilot.@@N@@Statement
import JvmDerived.Pilot.@@N@@Code
set_option linter.unusedVariables false
set_option linter.unusedSimpArgs false
namespace Jvm.RoadKit
open Sem ClassFile Op Lib Jvm.Stand Jvm.Free Jvm.LawKit
section New
variable {p : Program} {l : Launch} {e : Env} {R : Room} {s : State} {m : MethodId} {args : Array Value} {below : List Frame} {meth : Method} {c : Code} {T : State} {locs : List Loc} {cells slots : Nat}
theorem retI (X : Stand p l e R s m args below meth c T locs cells slots) (hx : p.tables.exec = Jvm.exec) {pc : Nat} {Ls : Array Slot} {z : Int32} {rest : List Value} (hret : meth.sig.returnType = some .int) (hd : decode c.code pc = .ok (.ireturn, 1)) {fs : List Frame}
    (hl : ∀ (f : JFrame) (acts : List Action), f.method = m → f.locked = none → f.entered = [] → (doReturn e (T.setTop f) acts (some (.int z))).1 = T.setFrames fs) : Steps p.tables e below (T.setTop (mkF m pc Ls (.int z :: rest))) (T.setFrames fs) := by
  have hm' : T.vm.method? m = some meth := X.method'
  have hn : narrow .int (.int z) = .int z := rfl
  show Steps p.tables e below (T.setTop { method := m, pc := pc, locals := Ls, stack := _ :: rest, locked := none }) _
  jvm_step X.here [X.here.top, hx, hd, hm', hret, hn]
  first | (intro acts; rw [hl _ acts rfl rfl rfl]) | rw [hl _ _ rfl rfl rfl]
  exact Steps.refl _
theorem lsw {g : JFrame} {target : State} (X : Stand p l e R s m args below meth c T locs cells slots) (hx : p.tables.exec = Jvm.exec) (hg : g.method = m) {dflt : Int} {pairs : Array (Int × Int)} {len : Nat} {o : Int} {x : Int32} {rest : List Value} {pc0 pc' : Nat} (hpc : g.pc = pc0) (hd : decode c.code g.pc = .ok (.lookupswitch dflt pairs, len)) (hs : g.stack = .int x :: rest)
    (hso : ∀ (a b a' b' : Int), ((a, b), a', b') ∈ pairs.toList.zip pairs.toList.tail → a < a') (hq : lookupswitch.offset pairs.toList dflt x.toInt = o) (ho : 0 ≤ (pc0 : Int) + o) (hp : ((pc0 : Int) + o).toNat = pc') (hr : Steps p.tables e below (T.setTop { g with pc := pc', stack := rest }) target) : Steps p.tables e below (T.setTop g) target := by
  subst hg hpc hp
  jvm_step X.here [X.here.top, hx, hd, hs, hq, ho, lookupswitch.wp_chain]
  exact ⟨hso, hr⟩
end New
end Jvm.RoadKit
namespace Jvm.Pilot.@@N@@
open Jvm Jvm.ClassFile Sem Op Lib Jvm.Free Jvm.Stand Jvm.LawKit Jvm.RoadKit Bundle Jvm.Pilot.@@N@@.Jvm.D
/-- a value comes back, the heap as it was -/
def QV (w : Value) (h0 : Heap) (n0 : Nat) (v : Option Value) (h : Heap) (L : List Loc) : Prop := v = some w ∧ Fr n0 L ∧ h = h0
def QL (n0 : Nat) (v : Option Value) (h : Heap) (L : List Loc) : Prop := v = some (.int 1) ∧ Fr n0 L
/-- an array of ints: its length and what each place holds -/
def IA (Z : State) (h : Heap) (a : Addr) (n : Nat) (f : Nat → Int32) : Prop := ∃ c : Cell, Arr Z h a c .int ∧ c.slots.size = n ∧ ∀ j, j < n → c.slots[j]? = some (.int (f j))
def upd (f : Nat → Int32) (i : Nat) (v : Int32) : Nat → Int32 := fun j => if j = i then v else f j
section IAs
variable {Z : State} {h h' : Heap} {a b : Addr} {n : Nat} {f : Nat → Int32} {sl : Nat} {v : Value} {ws : List Addr}
theorem IA.lt (F : IA Z h a n f) : a < h.size := by obtain ⟨c, A, -⟩ := F; exact A.lt
theorem IA.ext (F : IA Z h a n f) (E : Ext h h') : IA Z h' a n f := by obtain ⟨c, A, r⟩ := F; exact ⟨c, A.ext E, r⟩
theorem IA.other (F : IA Z h b n f) (W : Wr h h' a sl v) (q : b ≠ a) : IA Z h' b n f := by obtain ⟨c, A, r⟩ := F; exact ⟨c, A.other W q, r⟩
theorem IA.keep (F : IA Z h a n f) (K : Keep h h' ws) (q : a ∉ ws) : IA Z h' a n f := by obtain ⟨c, A, r⟩ := F; exact ⟨c, ⟨K.2.1 a c A.1 q, A.2⟩, r⟩
theorem IA.new {k : ClassId} {z : Int32} (A : Arr Z h a (newA k .int z) .int) (hn : z.toNatClampNeg = n) : IA Z h a n (fun _ => (0 : Int32)) := ⟨_, A, by rw [sz_new]; exact hn, fun j hj => by simp [newA, hn, hj, defaultValue]⟩
theorem IA.set {c : Cell} {j x : Int32} {i : Nat} (A : Arr Z h a c .int) (S : c.slots.size = n) (H : ∀ j, j < n → c.slots[j]? = some (.int (f j))) (W : Wr h h' a j.toNatClampNeg (.int x)) (hi : j.toNatClampNeg = i) (hl : i < n) : IA Z h' a n (upd f i x) := by
  refine ⟨_, A.same W, by rw [sz_set]; exact S, fun y hy => ?_⟩
  rw [hi]
  by_cases u : y = i
  · subst u; simp [Cell.setSlot, upd, S, hl]
  · simp only [Cell.setSlot, upd, if_neg u]; rw [Array.getElem?_setIfInBounds_ne (Ne.symm u)]; exact H y hy
theorem IA.inb {c : Cell} {j : Int32} {i : Nat} (S : c.slots.size = n) (h0 : ¬ j < 0) (hi : j.toNatClampNeg = i) (hl : i < n) : ¬ (j < 0 ∨ c.slots.size ≤ j.toNatClampNeg) := by
  rw [S, hi]; exact fun q => q.elim h0 fun q => absurd hl (Nat.not_lt.mpr q)
theorem IA.at {c : Cell} {j x : Int32} {i : Nat} (H : ∀ j, j < n → c.slots[j]? = some (.int (f j))) (hi : j.toNatClampNeg = i) (hl : i < n) (hv : f i = x) : c.slots[j.toNatClampNeg]? = some (.int x) := by
  rw [hi, H i hl, hv]
end IAs
theorem strs {Z : State} {a0 : Array Value} (hw : ∀ d ∈ tables_1, d.before a0 Z = true) : ∀ a ∈ Bundle.stringAtoms, a.before a0 Z = true := by
  intro a ha
  simp only [Bundle.stringAtoms, List.mem_cons, List.not_mem_nil, or_false] at ha
  rcases ha with rfl | rfl | rfl | rfl | rfl | rfl | rfl
  · exact hw _ (List.mem_of_getElem? (i := 40) rfl)
  · exact hw _ (List.mem_of_getElem? (i := 41) rfl)
  · exact hw _ (List.mem_of_getElem? (i := 42) rfl)
  · exact hw _ (List.mem_of_getElem? (i := 43) rfl)
  · exact hw _ (List.mem_of_getElem? (i := 44) rfl)
  · exact hw _ (List.mem_of_getElem? (i := 45) rfl)
  · exact hw _ (List.mem_of_getElem? (i := 46) rfl)
def QI (Z : State) (n : Addr) (h0 : Heap) (n0 : Nat) (v : Option Value) (h : Heap) (L : List Loc) : Prop := ∃ ar : Addr, v = none ∧ Fr n0 L ∧ Keep h0 h [n] ∧ Exa Z h n "com/example/caddis/caddis/XmlNesting" ∧ Fld Z h n "com/example/caddis/caddis/XmlNesting" "declared" "[I" (.ref ar) ∧ Fld Z h n "com/example/caddis/caddis/XmlNesting" "depth" "I" (.int (0 : Int32)) ∧ Fld Z h n "com/example/caddis/caddis/XmlNesting" "declarations" "I" (.int (0 : Int32)) ∧ IA Z h ar 1000 (fun _ => (0 : Int32)) ∧ n0 ≤ ar ∧ n ≠ ar
theorem d1_0 : decode prog_17_method_1_code 0 = .ok (.aload_n 0, 1) := by decide +kernel
theorem d1_1 : decode prog_17_method_1_code 1 = .ok (.invokespecial 1, 3) := by decide +kernel
theorem d1_4 : decode prog_17_method_1_code 4 = .ok (.aload_n 0, 1) := by decide +kernel
theorem d1_5 : decode prog_17_method_1_code 5 = .ok (.sipush 1000, 3) := by decide +kernel
theorem d1_8 : decode prog_17_method_1_code 8 = .ok (.newarray .int, 2) := by decide +kernel
theorem d1_10 : decode prog_17_method_1_code 10 = .ok (.putfield 9, 3) := by decide +kernel
theorem d1_13 : decode prog_17_method_1_code 13 = .ok (.return_, 1) := by decide +kernel
theorem ef_1_R (m : MethodId) (x0 : Addr) : entryFrame m #[(.ref x0)] 1 = mkF m 0 #[.val (.ref x0)] [] := by first | (simp [entryFrame, mkF, argsToLocals, Value.category]; done) | rfl
theorem pn_XmlNesting : plainName "com/example/caddis/caddis/XmlNesting" = true := by first | (simp [plainName, overriddenIn]; done) | decide +kernel
set_option maxRecDepth 65536 in
set_option maxHeartbeats 40000000 in
theorem rini (l : Launch) (Z : State) (a0 : Array Value) (hw : ∀ d ∈ tables_1, d.before a0 Z = true) (ws : List Jvm.Cond) (n : Addr) (h0 : Heap) (n0 : Nat) (Z0 : n0 ≤ h0.size) (En : Exa Z h0 n "com/example/caddis/caddis/XmlNesting") (F1 : Fld Z h0 n "com/example/caddis/caddis/XmlNesting" "declared" "[I" .null) (F2 : Fld Z h0 n "com/example/caddis/caddis/XmlNesting" "depth" "I" (.int (0 : Int32))) (F3 : Fld Z h0 n "com/example/caddis/caddis/XmlNesting" "declarations" "I" (.int (0 : Int32))) (gn : n0 ≤ n) :
    MetFree l (⟨"com/example/caddis/caddis/XmlNesting", "<init>", "()V"⟩ : MethodName) (head1 (Jvm.Cond.code (⟨"com/example/caddis/caddis/XmlNesting", "<init>", "()V"⟩ : MethodName) prog_17_method_1_code 1 none :: ws) ({ frames := 1, cells := 1, slots := 1000, locals := 14 } : Room)) (fun zA zU => zA = #[(.ref n)] ∧ Z.Warmed39 zU.vm ∧ zU.heap = h0) (fun _ _ _ _ _ => True) (fun _ zU zO zW => ∃ zV zL, zO = .returned zV ∧ QI Z n h0 n0 zV zW.heap zL ∧ FrameEnd zU zO zW zL ({ frames := 1, cells := 1, slots := 1000, locals := 14 } : Room).cells ({ frames := 1, cells := 1, slots := 1000, locals := 14 } : Room).slots) := by
  refine MetFree.of_bodySF (plainFor_of_name pn_XmlNesting) hisR ?_
  intro p e s m args below meth c s₁ Bd hml0 hP hK
  obtain ⟨rfl, hZ, hh⟩ := hP
  have hx := Bd.exec
  have hby := Bd.bytes
  have hml : c.maxLocals = 1 := hml0
  have hown : s.vm.findClass "com/example/caddis/caddis/XmlNesting" = some m.cls := findClass_of_methodNamed Bd.named
  have hnm := (name_of_methodNamed Bd.named Bd.method).1
  have X0 : Stand p l e ({ frames := 1, cells := 1, slots := 1000, locals := 14 } : Room) s m #[(.ref n)] below meth c s₁ [] 0 0 := Stand.of_body Bd
  have e0 : s₁.heap = h0 := by rw [← hh, Bd.state]; rfl
  have N0 := Fr.nil n0
  have pre0 : ∀ zt, Steps p.tables e below (s₁.setTop (mkF m 0 #[.val (.ref n)] [])) zt → Steps p.tables e below (s₁.setTop (entryFrame m #[(.ref n)] 1)) zt := fun zt zk => castTop (ef_1_R m n) zk
  obtain ⟨T1, X1, e1, st1⟩ := initO X0 hx hZ hown (hw _ (List.mem_of_getElem? (i := 7) rfl)) (hw _ (List.mem_of_getElem? (i := 8) rfl)) (hw _ (List.mem_of_getElem? (i := 9) rfl)) e0 (g := (mkF m 1 #[.val (.ref n)] [(.ref n)])) rfl (by rw [hml]; rfl) rfl (hb hby d1_1) (by decide) (W := 0) (by show 2 * 0 + _ ≤ _; exact Nat.le_of_eq rfl) (by decide)
  obtain ⟨T2, h2, k2, X2, e2, E2, A2, st2⟩ := newP X1 hx hZ (hw _ (List.mem_of_getElem? (i := 10) rfl)) e1 (g := (mkF m 8 #[.val (.ref n)] [(.int (1000 : Int32)), (.ref n)])) rfl (hb hby d1_8) rfl (by decide) (cap := 1000) (by decide) (by decide) (by decide) (by decide)
  obtain ⟨b2, g2⟩ : ∃ z, z = h0.size := ⟨_, rfl⟩
  rw [← g2] at A2 st2
  have gz2 : n0 ≤ b2 := Nat.le_trans Z0 (Nat.le_of_eq g2.symm)
  have sz2 : h0.size ≤ b2 := Nat.le_trans (Keep.refl h0 [n]).1 (Nat.le_of_eq g2.symm)
  have ne_n_b2 : n ≠ b2 := Nat.ne_of_lt (Nat.lt_of_lt_of_le F1.lt (Nat.le_of_eq g2.symm))
  have zF3 := F1.ext E2
  have zF4 := F2.ext E2
  have zF5 := F3.ext E2
  have zE6 := En.ext E2
  have Z2 := Nat.le_trans Z0 E2.1
  have K2 := (Keep.refl h0 [n]).ext E2
  have V2 := IA.new (n := 1000) A2 (by decide)
  obtain ⟨T7, h7, X7, e7, W7, st7⟩ := putF X2 hx hZ hown (host := "") (Or.inl (hw _ (List.mem_of_getElem? (i := 11) rfl))) Via.refl e2 zF3 zE6 (Or.inr ⟨(hw _ (List.mem_of_getElem? (i := 12) rfl)), rfl, hnm⟩) (hw _ (List.mem_of_getElem? (i := 2) rfl)) (ty := (.array .int)) (by decide) rfl rfl (g := (mkF m 10 #[.val (.ref n)] [(.ref b2), (.ref n)])) rfl rfl (hb hby d1_10)
  have N7 := Fr.snoc X7 N0 gn
  have zF8 := zF3.same W7
  have zF9 := zF4.other W7 (Or.inr (slot_ne (Or.inl (hw _ (List.mem_of_getElem? (i := 19) rfl))) (Or.inr (hw _ (List.mem_of_getElem? (i := 12) rfl))) (by decide) (t := .int) (t' := (.array .int)) (by decide) (by decide)))
  have zF10 := zF5.other W7 (Or.inr (slot_ne (Or.inl (hw _ (List.mem_of_getElem? (i := 21) rfl))) (Or.inr (hw _ (List.mem_of_getElem? (i := 12) rfl))) (by decide) (t := .int) (t' := (.array .int)) (by decide) (by decide)))
  have zE11 := zE6.wr W7
  have zA12 := V2.other W7 (Ne.symm ne_n_b2)
  have Z7 := Nat.le_trans Z2 (Keep.of_wr W7).1
  have K7 := K2.wr W7 (Or.inl (List.mem_of_getElem? (i := 0) rfl))
  obtain ⟨fs, hr, hrun, hended, hW, hsame⟩ := X7.leave (v := none) (fun _ => rfl)
  refine ⟨_, _, pre0 _ ?_, hrun, hended, _, _, rfl, ?_, ⟨_, rfl⟩, hW, hsame.mono (by decide) (by decide)⟩
  · show Steps p.tables e below (s₁.setTop (mkF m 0 #[.val (.ref n)] [])) _
    refine XS.aloadN X0.here hx rfl (hb hby d1_0) rfl rfl ?_
    show Steps p.tables e below (s₁.setTop (mkF m 1 #[.val (.ref n)] [(.ref n)])) _
    refine st1 _ ?_
    show Steps p.tables e below (T1.setTop (mkF m 4 #[.val (.ref n)] [])) _
    refine XS.aloadN X1.here hx rfl (hb hby d1_4) rfl rfl ?_
    show Steps p.tables e below (T1.setTop (mkF m 5 #[.val (.ref n)] [(.ref n)])) _
    refine XS.sipush X1.here hx rfl (hb hby d1_5) ?_
    show Steps p.tables e below (T1.setTop (mkF m 8 #[.val (.ref n)] [(.int (1000 : Int32)), (.ref n)])) _
    refine st2 _ ?_
    show Steps p.tables e below (T2.setTop (mkF m 10 #[.val (.ref n)] [(.ref b2), (.ref n)])) _
    refine st7 _ ?_
    show Steps p.tables e below (T7.setTop (mkF m 13 #[.val (.ref n)] [])) _
    exact X7.returnOut hx Bd.returns (hb hby d1_13) hr
  · show QI Z n h0 n0 _ T7.heap _
    rw [e7]
    exact ⟨b2, rfl, N7, K7, zE11, zF8, zF9, zF10, zA12, gz2, ne_n_b2⟩
theorem d4_0 : decode jdk_32_method_1_code 0 = .ok (.getstatic 1, 3) := by decide +kernel
theorem d4_3 : decode jdk_32_method_1_code 3 = .ok (.astore_n 0, 1) := by decide +kernel
theorem d4_4 : decode jdk_32_method_1_code 4 = .ok (.aload_n 0, 1) := by decide +kernel
theorem d4_5 : decode jdk_32_method_1_code 5 = .ok (.areturn, 1) := by decide +kernel
theorem ef_4_ (m : MethodId)  : entryFrame m #[] 1 = mkF m 0 #[.unset] [] := by first | (simp [entryFrame, mkF, argsToLocals, Value.category]; done) | rfl
theorem pn_Optional : plainName "java/util/Optional" = true := by first | (simp [plainName, overriddenIn]; done) | decide +kernel
set_option maxRecDepth 65536 in
set_option maxHeartbeats 40000000 in
theorem rem (l : Launch) (Z : State) (a0 : Array Value) (hw : ∀ d ∈ tables_1, d.before a0 Z = true) (ws : List Jvm.Cond) (em : Addr) (h0 : Heap) (n0 : Nat) (Z0 : n0 ≤ h0.size) (S : Sta Z h0 "java/util/Optional" "EMPTY" "Ljava/util/Optional;" (.ref em)) :
    MetFree l (⟨"java/util/Optional", "empty", "()Ljava/util/Optional;"⟩ : MethodName) (head1 (Jvm.Cond.code (⟨"java/util/Optional", "empty", "()Ljava/util/Optional;"⟩ : MethodName) jdk_32_method_1_code 1 (some (.object "java/util/Optional")) :: ws) ({ frames := 0, cells := 0, slots := 0, locals := 0 } : Room)) (fun zA zU => zA = #[] ∧ Z.Warmed39 zU.vm ∧ zU.heap = h0) (fun _ _ _ _ _ => True) (fun _ zU zO zW => ∃ zV zL, zO = .returned zV ∧ QV (.ref em) h0 n0 zV zW.heap zL ∧ FrameEnd zU zO zW zL ({ frames := 0, cells := 0, slots := 0, locals := 0 } : Room).cells ({ frames := 0, cells := 0, slots := 0, locals := 0 } : Room).slots) := by
  refine MetFree.of_bodySF (plainFor_of_name pn_Optional) hisR ?_
  intro p e s m args below meth c s₁ Bd hml0 hP hK
  obtain ⟨rfl, hZ, hh⟩ := hP
  have hx := Bd.exec
  have hby := Bd.bytes
  have hml : c.maxLocals = 1 := hml0
  have hown : s.vm.findClass "java/util/Optional" = some m.cls := findClass_of_methodNamed Bd.named
  have hnm := (name_of_methodNamed Bd.named Bd.method).1
  have X0 : Stand p l e ({ frames := 0, cells := 0, slots := 0, locals := 0 } : Room) s m #[] below meth c s₁ [] 0 0 := Stand.of_body Bd
  have e0 : s₁.heap = h0 := by rw [← hh, Bd.state]; rfl
  have N0 := Fr.nil n0
  have pre0 : ∀ zt, Steps p.tables e below (s₁.setTop (mkF m 0 #[.unset] [])) zt → Steps p.tables e below (s₁.setTop (entryFrame m #[] 1)) zt := fun zt zk => castTop (ef_4_ m ) zk
  obtain ⟨T13, X13, e13, st13⟩ := getS2 X0 hx hZ hown (host := "") (Or.inl (hw _ (List.mem_of_getElem? (i := 26) rfl))) Via.refl e0 S (g := (mkF m 0 #[.unset] [])) rfl (hb hby d4_0)
  obtain ⟨fs, hr, hrun, hended, hW, hsame⟩ := X13.leave (v := some (.ref em)) (fun h => by rw [Bd.returns] at h; cases h)
  refine ⟨_, _, pre0 _ ?_, hrun, hended, _, _, rfl, ?_, ⟨_, rfl⟩, hW, hsame.mono (by decide) (by decide)⟩
  · show Steps p.tables e below (s₁.setTop (mkF m 0 #[.unset] [])) _
    refine st13 _ ?_
    show Steps p.tables e below (T13.setTop (mkF m 3 #[.unset] [(.ref em)])) _
    refine XS.astoreN X13.here hx rfl (hb hby d4_3) rfl rfl (l' := #[.val (.ref em)]) rfl ?_
    show Steps p.tables e below (T13.setTop (mkF m 4 #[.val (.ref em)] [])) _
    refine XS.aloadN X13.here hx rfl (hb hby d4_4) rfl rfl ?_
    show Steps p.tables e below (T13.setTop (mkF m 5 #[.val (.ref em)] [(.ref em)])) _
    jvm_step X13.here [X13.here.top, hx, (hb hby d4_5), X13.method', Bd.returns, Value.isRef, FieldType.isReference]
    first | (intro acts; rw [hr _ acts rfl rfl rfl]) | rw [hr _ _ rfl rfl rfl]
    exact Steps.refl _
  · show QV (.ref em) h0 n0 _ T13.heap _
    rw [e13]
    exact ⟨rfl, N0, rfl⟩
theorem d5_0 : decode jdk_32_method_7_code 0 = .ok (.aload_n 0, 1) := by decide +kernel
theorem d5_1 : decode jdk_32_method_7_code 1 = .ok (.getfield 13, 3) := by decide +kernel
theorem d5_4 : decode jdk_32_method_7_code 4 = .ok (.ifnonnull 7, 3) := by decide +kernel
theorem d5_7 : decode jdk_32_method_7_code 7 = .ok (.iconst 1, 1) := by decide +kernel
theorem d5_8 : decode jdk_32_method_7_code 8 = .ok (.goto 4, 3) := by decide +kernel
theorem d5_12 : decode jdk_32_method_7_code 12 = .ok (.ireturn, 1) := by decide +kernel
theorem ef_5_R (m : MethodId) (x0 : Addr) : entryFrame m #[(.ref x0)] 1 = mkF m 0 #[.val (.ref x0)] [] := by first | (simp [entryFrame, mkF, argsToLocals, Value.category]; done) | rfl
set_option maxRecDepth 65536 in
set_option maxHeartbeats 40000000 in
theorem ris1 (l : Launch) (Z : State) (a0 : Array Value) (hw : ∀ d ∈ tables_1, d.before a0 Z = true) (ws : List Jvm.Cond) (o : Addr) (h0 : Heap) (n0 : Nat) (Z0 : n0 ≤ h0.size) (F : Fld Z h0 o "java/util/Optional" "value" "Ljava/lang/Object;" .null) :
    MetFree l (⟨"java/util/Optional", "isEmpty", "()Z"⟩ : MethodName) (head1 (Jvm.Cond.code (⟨"java/util/Optional", "isEmpty", "()Z"⟩ : MethodName) jdk_32_method_7_code 1 (some .boolean) :: ws) ({ frames := 0, cells := 0, slots := 0, locals := 0 } : Room)) (fun zA zU => zA = #[(.ref o)] ∧ Z.Warmed39 zU.vm ∧ zU.heap = h0) (fun _ _ _ _ _ => True) (fun _ zU zO zW => ∃ zV zL, zO = .returned zV ∧ QV (.int 1) h0 n0 zV zW.heap zL ∧ FrameEnd zU zO zW zL ({ frames := 0, cells := 0, slots := 0, locals := 0 } : Room).cells ({ frames := 0, cells := 0, slots := 0, locals := 0 } : Room).slots) := by
  refine MetFree.of_bodySF (plainFor_of_name pn_Optional) hisR ?_
  intro p e s m args below meth c s₁ Bd hml0 hP hK
  obtain ⟨rfl, hZ, hh⟩ := hP
  have hx := Bd.exec
  have hby := Bd.bytes
  have hml : c.maxLocals = 1 := hml0
  have hown : s.vm.findClass "java/util/Optional" = some m.cls := findClass_of_methodNamed Bd.named
  have hnm := (name_of_methodNamed Bd.named Bd.method).1
  have X0 : Stand p l e ({ frames := 0, cells := 0, slots := 0, locals := 0 } : Room) s m #[(.ref o)] below meth c s₁ [] 0 0 := Stand.of_body Bd
  have e0 : s₁.heap = h0 := by rw [← hh, Bd.state]; rfl
  have N0 := Fr.nil n0
  have pre0 : ∀ zt, Steps p.tables e below (s₁.setTop (mkF m 0 #[.val (.ref o)] [])) zt → Steps p.tables e below (s₁.setTop (entryFrame m #[(.ref o)] 1)) zt := fun zt zk => castTop (ef_5_R m o) zk
  obtain ⟨T14, X14, e14, st14⟩ := getF X0 hx hZ hown (host := "") (Or.inl (hw _ (List.mem_of_getElem? (i := 32) rfl))) Via.refl e0 F (g := (mkF m 1 #[.val (.ref o)] [(.ref o)])) rfl rfl (hb hby d5_1)
  obtain ⟨fs, hr, hrun, hended, hW, hsame⟩ := X14.leave (v := some (.int (1 : Int32))) (fun h => by rw [Bd.returns] at h; cases h)
  refine ⟨_, _, pre0 _ ?_, hrun, hended, _, _, rfl, ?_, ⟨_, rfl⟩, hW, hsame.mono (by decide) (by decide)⟩
  · show Steps p.tables e below (s₁.setTop (mkF m 0 #[.val (.ref o)] [])) _
    refine XS.aloadN X0.here hx rfl (hb hby d5_0) rfl rfl ?_
    show Steps p.tables e below (s₁.setTop (mkF m 1 #[.val (.ref o)] [(.ref o)])) _
    refine st14 _ ?_
    show Steps p.tables e below (T14.setTop (mkF m 4 #[.val (.ref o)] [.null])) _
    refine XS.ifnonnullNo X14.here hx rfl (hb hby d5_4) rfl ?_
    show Steps p.tables e below (T14.setTop (mkF m 7 #[.val (.ref o)] [])) _
    refine XS.iconst X14.here hx rfl (hb hby d5_7) ?_
    show Steps p.tables e below (T14.setTop (mkF m 8 #[.val (.ref o)] [(.int (1 : Int32))])) _
    refine XS.goto X14.here hx rfl (pc0 := 8) (pc' := 12) rfl (hb hby d5_8) (by decide) (by decide) ?_
    show Steps p.tables e below (T14.setTop (mkF m 12 #[.val (.ref o)] [(.int (1 : Int32))])) _
    exact retN X14 hx (t := .boolean) Bd.returns (by simp) (hb hby d5_12) hr
  · show QV (.int 1) h0 n0 _ T14.heap _
    rw [e14]
    exact ⟨rfl, N0, rfl⟩
theorem d5_11 : decode jdk_32_method_7_code 11 = .ok (.iconst 0, 1) := by decide +kernel
set_option maxRecDepth 65536 in
set_option maxHeartbeats 40000000 in
theorem ris0 (l : Launch) (Z : State) (a0 : Array Value) (hw : ∀ d ∈ tables_1, d.before a0 Z = true) (ws : List Jvm.Cond) (o y : Addr) (h0 : Heap) (n0 : Nat) (Z0 : n0 ≤ h0.size) (F : Fld Z h0 o "java/util/Optional" "value" "Ljava/lang/Object;" (.ref y)) :
    MetFree l (⟨"java/util/Optional", "isEmpty", "()Z"⟩ : MethodName) (head1 (Jvm.Cond.code (⟨"java/util/Optional", "isEmpty", "()Z"⟩ : MethodName) jdk_32_method_7_code 1 (some .boolean) :: ws) ({ frames := 0, cells := 0, slots := 0, locals := 0 } : Room)) (fun zA zU => zA = #[(.ref o)] ∧ Z.Warmed39 zU.vm ∧ zU.heap = h0) (fun _ _ _ _ _ => True) (fun _ zU zO zW => ∃ zV zL, zO = .returned zV ∧ QV (.int 0) h0 n0 zV zW.heap zL ∧ FrameEnd zU zO zW zL ({ frames := 0, cells := 0, slots := 0, locals := 0 } : Room).cells ({ frames := 0, cells := 0, slots := 0, locals := 0 } : Room).slots) := by
  refine MetFree.of_bodySF (plainFor_of_name pn_Optional) hisR ?_
  intro p e s m args below meth c s₁ Bd hml0 hP hK
  obtain ⟨rfl, hZ, hh⟩ := hP
  have hx := Bd.exec
  have hby := Bd.bytes
  have hml : c.maxLocals = 1 := hml0
  have hown : s.vm.findClass "java/util/Optional" = some m.cls := findClass_of_methodNamed Bd.named
  have hnm := (name_of_methodNamed Bd.named Bd.method).1
  have X0 : Stand p l e ({ frames := 0, cells := 0, slots := 0, locals := 0 } : Room) s m #[(.ref o)] below meth c s₁ [] 0 0 := Stand.of_body Bd
  have e0 : s₁.heap = h0 := by rw [← hh, Bd.state]; rfl
  have N0 := Fr.nil n0
  have pre0 : ∀ zt, Steps p.tables e below (s₁.setTop (mkF m 0 #[.val (.ref o)] [])) zt → Steps p.tables e below (s₁.setTop (entryFrame m #[(.ref o)] 1)) zt := fun zt zk => castTop (ef_5_R m o) zk
  obtain ⟨T15, X15, e15, st15⟩ := getF X0 hx hZ hown (host := "") (Or.inl (hw _ (List.mem_of_getElem? (i := 32) rfl))) Via.refl e0 F (g := (mkF m 1 #[.val (.ref o)] [(.ref o)])) rfl rfl (hb hby d5_1)
  obtain ⟨fs, hr, hrun, hended, hW, hsame⟩ := X15.leave (v := some (.int (0 : Int32))) (fun h => by rw [Bd.returns] at h; cases h)
  refine ⟨_, _, pre0 _ ?_, hrun, hended, _, _, rfl, ?_, ⟨_, rfl⟩, hW, hsame.mono (by decide) (by decide)⟩
  · show Steps p.tables e below (s₁.setTop (mkF m 0 #[.val (.ref o)] [])) _
    refine XS.aloadN X0.here hx rfl (hb hby d5_0) rfl rfl ?_
    show Steps p.tables e below (s₁.setTop (mkF m 1 #[.val (.ref o)] [(.ref o)])) _
    refine st15 _ ?_
    show Steps p.tables e below (T15.setTop (mkF m 4 #[.val (.ref o)] [(.ref y)])) _
    refine XS.ifnonnullYes X15.here hx rfl (pc0 := 4) (pc' := 11) rfl (hb hby d5_4) rfl (by decide) (by decide) ?_
    show Steps p.tables e below (T15.setTop (mkF m 11 #[.val (.ref o)] [])) _
    refine XS.iconst X15.here hx rfl (hb hby d5_11) ?_
    show Steps p.tables e below (T15.setTop (mkF m 12 #[.val (.ref o)] [(.int (0 : Int32))])) _
    exact retN X15 hx (t := .boolean) Bd.returns (by simp) (hb hby d5_12) hr
  · show QV (.int 0) h0 n0 _ T15.heap _
    rw [e15]
    exact ⟨rfl, N0, rfl⟩
theorem d8_0 : decode jdk_31_method_10_code 0 = .ok (.aload_n 0, 1) := by decide +kernel
theorem d8_1 : decode jdk_31_method_10_code 1 = .ok (.ifnonnull 11, 3) := by decide +kernel
theorem d8_12 : decode jdk_31_method_10_code 12 = .ok (.aload_n 0, 1) := by decide +kernel
theorem d8_13 : decode jdk_31_method_10_code 13 = .ok (.areturn, 1) := by decide +kernel
theorem ef_8_R (m : MethodId) (x0 : Addr) : entryFrame m #[(.ref x0)] 1 = mkF m 0 #[.val (.ref x0)] [] := by first | (simp [entryFrame, mkF, argsToLocals, Value.category]; done) | rfl
theorem pn_Objects : plainName "java/util/Objects" = true := by first | (simp [plainName, overriddenIn]; done) | decide +kernel
set_option maxRecDepth 65536 in
set_option maxHeartbeats 40000000 in
theorem rnn (l : Launch) (Z : State) (a0 : Array Value) (hw : ∀ d ∈ tables_1, d.before a0 Z = true) (ws : List Jvm.Cond) (y : Addr) (h0 : Heap) (n0 : Nat) (Z0 : n0 ≤ h0.size)  :
    MetFree l (⟨"java/util/Objects", "requireNonNull", "(Ljava/lang/Object;)Ljava/lang/Object;"⟩ : MethodName) (head1 (Jvm.Cond.code (⟨"java/util/Objects", "requireNonNull", "(Ljava/lang/Object;)Ljava/lang/Object;"⟩ : MethodName) jdk_31_method_10_code 1 (some (.object "java/lang/Object")) :: ws) ({ frames := 0, cells := 0, slots := 0, locals := 0 } : Room)) (fun zA zU => zA = #[(.ref y)] ∧ Z.Warmed39 zU.vm ∧ zU.heap = h0) (fun _ _ _ _ _ => True) (fun _ zU zO zW => ∃ zV zL, zO = .returned zV ∧ QV (.ref y) h0 n0 zV zW.heap zL ∧ FrameEnd zU zO zW zL ({ frames := 0, cells := 0, slots := 0, locals := 0 } : Room).cells ({ frames := 0, cells := 0, slots := 0, locals := 0 } : Room).slots) := by
  refine MetFree.of_bodySF (plainFor_of_name pn_Objects) hisR ?_
  intro p e s m args below meth c s₁ Bd hml0 hP hK
  obtain ⟨rfl, hZ, hh⟩ := hP
  have hx := Bd.exec
  have hby := Bd.bytes
  have hml : c.maxLocals = 1 := hml0
  have hown : s.vm.findClass "java/util/Objects" = some m.cls := findClass_of_methodNamed Bd.named
  have hnm := (name_of_methodNamed Bd.named Bd.method).1
  have X0 : Stand p l e ({ frames := 0, cells := 0, slots := 0, locals := 0 } : Room) s m #[(.ref y)] below meth c s₁ [] 0 0 := Stand.of_body Bd
  have e0 : s₁.heap = h0 := by rw [← hh, Bd.state]; rfl
  have N0 := Fr.nil n0
  have pre0 : ∀ zt, Steps p.tables e below (s₁.setTop (mkF m 0 #[.val (.ref y)] [])) zt → Steps p.tables e below (s₁.setTop (entryFrame m #[(.ref y)] 1)) zt := fun zt zk => castTop (ef_8_R m y) zk
  obtain ⟨fs, hr, hrun, hended, hW, hsame⟩ := X0.leave (v := some (.ref y)) (fun h => by rw [Bd.returns] at h; cases h)
  refine ⟨_, _, pre0 _ ?_, hrun, hended, _, _, rfl, ?_, ⟨_, rfl⟩, hW, hsame.mono (by decide) (by decide)⟩
  · show Steps p.tables e below (s₁.setTop (mkF m 0 #[.val (.ref y)] [])) _
    refine XS.aloadN X0.here hx rfl (hb hby d8_0) rfl rfl ?_
    show Steps p.tables e below (s₁.setTop (mkF m 1 #[.val (.ref y)] [(.ref y)])) _
    refine XS.ifnonnullYes X0.here hx rfl (pc0 := 1) (pc' := 12) rfl (hb hby d8_1) rfl (by decide) (by decide) ?_
    show Steps p.tables e below (s₁.setTop (mkF m 12 #[.val (.ref y)] [])) _
    refine XS.aloadN X0.here hx rfl (hb hby d8_12) rfl rfl ?_
    show Steps p.tables e below (s₁.setTop (mkF m 13 #[.val (.ref y)] [(.ref y)])) _
    jvm_step X0.here [X0.here.top, hx, (hb hby d8_13), X0.method', Bd.returns, Value.isRef, FieldType.isReference]
    first | (intro acts; rw [hr _ acts rfl rfl rfl]) | rw [hr _ _ rfl rfl rfl]
    exact Steps.refl _
  · show QV (.ref y) h0 n0 _ s₁.heap _
    rw [e0]
    exact ⟨rfl, N0, rfl⟩
def QO (Z : State) (o y : Addr) (h0 : Heap) (n0 : Nat) (v : Option Value) (h : Heap) (L : List Loc) : Prop := v = none ∧ Fr n0 L ∧ Keep h0 h [o] ∧ Exa Z h o "java/util/Optional" ∧ Fld Z h o "java/util/Optional" "value" "Ljava/lang/Object;" (.ref y)
theorem d9_0 : decode jdk_32_method_2_code 0 = .ok (.aload_n 0, 1) := by decide +kernel
theorem d9_1 : decode jdk_32_method_2_code 1 = .ok (.invokespecial 7, 3) := by decide +kernel
theorem d9_4 : decode jdk_32_method_2_code 4 = .ok (.aload_n 0, 1) := by decide +kernel
theorem d9_5 : decode jdk_32_method_2_code 5 = .ok (.aload_n 1, 1) := by decide +kernel
theorem d9_6 : decode jdk_32_method_2_code 6 = .ok (.putfield 13, 3) := by decide +kernel
theorem d9_9 : decode jdk_32_method_2_code 9 = .ok (.return_, 1) := by decide +kernel
theorem ef_9_RR (m : MethodId) (x0 : Addr) (x1 : Addr) : entryFrame m #[(.ref x0), (.ref x1)] 2 = mkF m 0 #[.val (.ref x0), .val (.ref x1)] [] := by first | (simp [entryFrame, mkF, argsToLocals, Value.category]; done) | rfl
set_option maxRecDepth 65536 in
set_option maxHeartbeats 40000000 in
theorem roi (l : Launch) (Z : State) (a0 : Array Value) (hw : ∀ d ∈ tables_1, d.before a0 Z = true) (ws : List Jvm.Cond) (o y : Addr) (h0 : Heap) (n0 : Nat) (Z0 : n0 ≤ h0.size) (Eo : Exa Z h0 o "java/util/Optional") (F : Fld Z h0 o "java/util/Optional" "value" "Ljava/lang/Object;" .null) (go : n0 ≤ o) :
    MetFree l (⟨"java/util/Optional", "<init>", "(Ljava/lang/Object;)V"⟩ : MethodName) (head1 (Jvm.Cond.code (⟨"java/util/Optional", "<init>", "(Ljava/lang/Object;)V"⟩ : MethodName) jdk_32_method_2_code 2 none :: ws) ({ frames := 1, cells := 0, slots := 0, locals := 12 } : Room)) (fun zA zU => zA = #[(.ref o), (.ref y)] ∧ Z.Warmed39 zU.vm ∧ zU.heap = h0) (fun _ _ _ _ _ => True) (fun _ zU zO zW => ∃ zV zL, zO = .returned zV ∧ QO Z o y h0 n0 zV zW.heap zL ∧ FrameEnd zU zO zW zL ({ frames := 1, cells := 0, slots := 0, locals := 12 } : Room).cells ({ frames := 1, cells := 0, slots := 0, locals := 12 } : Room).slots) := by
  refine MetFree.of_bodySF (plainFor_of_name pn_Optional) hisR ?_
  intro p e s m args below meth c s₁ Bd hml0 hP hK
  obtain ⟨rfl, hZ, hh⟩ := hP
  have hx := Bd.exec
  have hby := Bd.bytes
  have hml : c.maxLocals = 2 := hml0
  have hown : s.vm.findClass "java/util/Optional" = some m.cls := findClass_of_methodNamed Bd.named
  have hnm := (name_of_methodNamed Bd.named Bd.method).1
  have X0 : Stand p l e ({ frames := 1, cells := 0, slots := 0, locals := 12 } : Room) s m #[(.ref o), (.ref y)] below meth c s₁ [] 0 0 := Stand.of_body Bd
  have e0 : s₁.heap = h0 := by rw [← hh, Bd.state]; rfl
  have N0 := Fr.nil n0
  have pre0 : ∀ zt, Steps p.tables e below (s₁.setTop (mkF m 0 #[.val (.ref o), .val (.ref y)] [])) zt → Steps p.tables e below (s₁.setTop (entryFrame m #[(.ref o), (.ref y)] 2)) zt := fun zt zk => castTop (ef_9_RR m o y) zk
  obtain ⟨T16, X16, e16, st16⟩ := initO X0 hx hZ hown (hw _ (List.mem_of_getElem? (i := 60) rfl)) (hw _ (List.mem_of_getElem? (i := 8) rfl)) (hw _ (List.mem_of_getElem? (i := 9) rfl)) e0 (g := (mkF m 1 #[.val (.ref o), .val (.ref y)] [(.ref o)])) rfl (by rw [hml]; rfl) rfl (hb hby d9_1) (by decide) (W := 0) (by show 2 * 0 + _ ≤ _; exact Nat.le_of_eq rfl) (by decide)
  obtain ⟨T17, h17, X17, e17, W17, st17⟩ := putF X16 hx hZ hown (host := "") (Or.inl (hw _ (List.mem_of_getElem? (i := 32) rfl))) Via.refl e16 F Eo (Or.inr ⟨(hw _ (List.mem_of_getElem? (i := 33) rfl)), rfl, hnm⟩) (hw _ (List.mem_of_getElem? (i := 51) rfl)) (ty := (.object "java/lang/Object")) (by decide) rfl rfl (g := (mkF m 6 #[.val (.ref o), .val (.ref y)] [(.ref y), (.ref o)])) rfl rfl (hb hby d9_6)
  have N17 := Fr.snoc X17 N0 go
  have zF18 := F.same W17
  have zE19 := Eo.wr W17
  have Z17 := Nat.le_trans Z0 (Keep.of_wr W17).1
  have K17 := (Keep.refl h0 [o]).wr W17 (Or.inl (List.mem_of_getElem? (i := 0) rfl))
  obtain ⟨fs, hr, hrun, hended, hW, hsame⟩ := X17.leave (v := none) (fun _ => rfl)
  refine ⟨_, _, pre0 _ ?_, hrun, hended, _, _, rfl, ?_, ⟨_, rfl⟩, hW, hsame.mono (by decide) (by decide)⟩
  · show Steps p.tables e below (s₁.setTop (mkF m 0 #[.val (.ref o), .val (.ref y)] [])) _
    refine XS.aloadN X0.here hx rfl (hb hby d9_0) rfl rfl ?_
    show Steps p.tables e below (s₁.setTop (mkF m 1 #[.val (.ref o), .val (.ref y)] [(.ref o)])) _
    refine st16 _ ?_
    show Steps p.tables e below (T16.setTop (mkF m 4 #[.val (.ref o), .val (.ref y)] [])) _
    refine XS.aloadN X16.here hx rfl (hb hby d9_4) rfl rfl ?_
    show Steps p.tables e below (T16.setTop (mkF m 5 #[.val (.ref o), .val (.ref y)] [(.ref o)])) _
    refine XS.aloadN X16.here hx rfl (hb hby d9_5) rfl rfl ?_
    show Steps p.tables e below (T16.setTop (mkF m 6 #[.val (.ref o), .val (.ref y)] [(.ref y), (.ref o)])) _
    refine st17 _ ?_
    show Steps p.tables e below (T17.setTop (mkF m 9 #[.val (.ref o), .val (.ref y)] [])) _
    exact X17.returnOut hx Bd.returns (hb hby d9_9) hr
  · show QO Z o y h0 n0 _ T17.heap _
    rw [e17]
    exact ⟨rfl, N17, K17, zE19, zF18⟩
def QF (Z : State) (h0 : Heap) (n0 : Nat) (v : Option Value) (h : Heap) (L : List Loc) : Prop := ∃ o y : Addr, v = some (.ref o) ∧ Fr n0 L ∧ Keep h0 h [] ∧ n0 ≤ o ∧ Exa Z h o "java/util/Optional" ∧ Fld Z h o "java/util/Optional" "value" "Ljava/lang/Object;" (.ref y)
theorem d7_0 : decode jdk_32_method_3_code 0 = .ok (.new 2, 3) := by decide +kernel
theorem d7_3 : decode jdk_32_method_3_code 3 = .ok (.dup, 1) := by decide +kernel
theorem d7_4 : decode jdk_32_method_3_code 4 = .ok (.aload_n 0, 1) := by decide +kernel
theorem d7_5 : decode jdk_32_method_3_code 5 = .ok (.invokestatic 17, 3) := by decide +kernel
theorem pd_0 : parseMethodDescriptor "(Ljava/lang/Object;)Ljava/lang/Object;" = some ⟨[(.object "java/lang/Object")], some (.object "java/lang/Object")⟩ := by decide +kernel
theorem d7_8 : decode jdk_32_method_3_code 8 = .ok (.invokespecial 23, 3) := by decide +kernel
theorem pd_1 : parseMethodDescriptor "(Ljava/lang/Object;)V" = some ⟨[(.object "java/lang/Object")], none⟩ := by decide +kernel
theorem d7_11 : decode jdk_32_method_3_code 11 = .ok (.areturn, 1) := by decide +kernel
theorem ef_7_R (m : MethodId) (x0 : Addr) : entryFrame m #[(.ref x0)] 1 = mkF m 0 #[.val (.ref x0)] [] := by first | (simp [entryFrame, mkF, argsToLocals, Value.category]; done) | rfl
set_option maxRecDepth 65536 in
set_option maxHeartbeats 40000000 in
theorem rof (l : Launch) (Z : State) (a0 : Array Value) (hw : ∀ d ∈ tables_1, d.before a0 Z = true) (ws : List Jvm.Cond) (y : Addr) (h0 : Heap) (n0 : Nat) (Z0 : n0 ≤ h0.size)  :
    MetFree l (⟨"java/util/Optional", "of", "(Ljava/lang/Object;)Ljava/util/Optional;"⟩ : MethodName) (head1 (Jvm.Cond.code (⟨"java/util/Optional", "of", "(Ljava/lang/Object;)Ljava/util/Optional;"⟩ : MethodName) jdk_32_method_3_code 1 (some (.object "java/util/Optional")) :: ws) ({ frames := 2, cells := 1, slots := 1, locals := 32 } : Room)) (fun zA zU => zA = #[(.ref y)] ∧ Z.Warmed39 zU.vm ∧ zU.heap = h0) (fun _ _ _ _ _ => True) (fun _ zU zO zW => ∃ zV zL, zO = .returned zV ∧ QF Z h0 n0 zV zW.heap zL ∧ FrameEnd zU zO zW zL ({ frames := 2, cells := 1, slots := 1, locals := 32 } : Room).cells ({ frames := 2, cells := 1, slots := 1, locals := 32 } : Room).slots) := by
  refine MetFree.of_bodySF (plainFor_of_name pn_Optional) hisR ?_
  intro p e s m args below meth c s₁ Bd hml0 hP hK
  obtain ⟨rfl, hZ, hh⟩ := hP
  have hx := Bd.exec
  have hby := Bd.bytes
  have hml : c.maxLocals = 1 := hml0
  have hown : s.vm.findClass "java/util/Optional" = some m.cls := findClass_of_methodNamed Bd.named
  have hnm := (name_of_methodNamed Bd.named Bd.method).1
  have X0 : Stand p l e ({ frames := 2, cells := 1, slots := 1, locals := 32 } : Room) s m #[(.ref y)] below meth c s₁ [] 0 0 := Stand.of_body Bd
  have e0 : s₁.heap = h0 := by rw [← hh, Bd.state]; rfl
  have N0 := Fr.nil n0
  have pre0 : ∀ zt, Steps p.tables e below (s₁.setTop (mkF m 0 #[.val (.ref y)] [])) zt → Steps p.tables e below (s₁.setTop (entryFrame m #[(.ref y)] 1)) zt := fun zt zk => castTop (ef_7_R m y) zk
  obtain ⟨T20, h20, X20, e20, E20, A20, D20, -, st20⟩ := newO X0 hx hZ hown (hw _ (List.mem_of_getElem? (i := 50) rfl)) (hw _ (List.mem_of_getElem? (i := 51) rfl)) (hw _ (List.mem_of_getElem? (i := 24) rfl)) e0 (g := (mkF m 0 #[.val (.ref y)] [])) rfl (hb hby d7_0) (by decide) (by decide)
  obtain ⟨b20, g20⟩ : ∃ z, z = h0.size := ⟨_, rfl⟩
  rw [← g20] at A20 D20 st20
  have gz20 : n0 ≤ b20 := Nat.le_trans Z0 (Nat.le_of_eq g20.symm)
  have sz20 : h0.size ≤ b20 := Nat.le_trans (Keep.refl h0 []).1 (Nat.le_of_eq g20.symm)
  have Z20 := Nat.le_trans Z0 E20.1
  have K20 := (Keep.refl h0 []).ext E20
  have F20_value : Fld Z h20 b20 "java/util/Optional" "value" "Ljava/lang/Object;" .null := D20 (Or.inr (hw _ (List.mem_of_getElem? (i := 33) rfl))) (ty := (.object "java/lang/Object")) (by decide)
  obtain ⟨_, _, ⟨T21, L21, k21, n21⟩, -, X21, ⟨Lc21, hQ21, l21, y21, z21⟩, st21⟩ := Jvm.LawKit.callS X20 hx (y := (⟨"java/util/Objects", "requireNonNull", "(Ljava/lang/Object;)Ljava/lang/Object;"⟩ : MethodName)) hown (mvT hZ (hw _ (List.mem_of_getElem? (i := 52) rfl))) (mvT hZ (hw _ (List.mem_of_getElem? (i := 53) rfl))) (mvT hZ (hw _ (List.mem_of_getElem? (i := 54) rfl))) (mvT hZ (hw _ (List.mem_of_getElem? (i := 55) rfl))) (by decide) (backOf (W := 2) (rnn l Z a0 hw [] y h20 n0 Z20) hZ (hw _ (List.mem_of_getElem? (i := 55) rfl)) (hw _ (List.mem_of_getElem? (i := 54) rfl)) (by decide) (by decide)) (g := (mkF m 5 #[.val (.ref y)] [(.ref y), (.ref b20), (.ref b20)])) rfl (by rw [hml]; rfl) (argsL := [(.ref y)]) (rest := [(.ref b20), (.ref b20)]) (lenOf pd_0 rfl) rfl (by show 2 * 0 + _ ≤ _; exact Nat.le_of_eq rfl) (hb hby d7_5) (fun _ _ => ⟨rfl, e20, (by decide : 1 + 0 ≤ _), (by decide : 1 + 0 ≤ _)⟩)
  dsimp only [Pt.U, Pt.locs, Pt.cells, Pt.slots] at X21 l21 y21 z21 st21 hQ21
  subst l21 y21 z21
  obtain ⟨rfl, Nq21, e21⟩ := hQ21
  have N21 := Fr.app N0 Nq21
  obtain ⟨_, _, ⟨T22, L22, k22, n22⟩, -, X22, ⟨Lc22, hQ22, l22, y22, z22⟩, st22⟩ := X21.specialBack hx (y := (⟨"java/util/Optional", "<init>", "(Ljava/lang/Object;)V"⟩ : MethodName)) rfl hown (mvT hZ (hw _ (List.mem_of_getElem? (i := 56) rfl))) (mvT hZ (hw _ (List.mem_of_getElem? (i := 57) rfl))) (mvT hZ (hw _ (List.mem_of_getElem? (i := 59) rfl))) (by decide) (backOf (W := 1) (roi l Z a0 hw [] b20 y h20 n0 Z20 A20 F20_value gz20) hZ (hw _ (List.mem_of_getElem? (i := 59) rfl)) (hw _ (List.mem_of_getElem? (i := 24) rfl)) (by decide) (by decide)) (g := (mkF m 8 #[.val (.ref y)] [(.ref y), (.ref b20), (.ref b20)])) rfl (by rw [hml]; rfl) (Steps.refl _) (a := b20) (argsL := [(.ref y)]) (rest := [(.ref b20)]) (lenOf pd_1 rfl) rfl (by show 2 * 0 + _ ≤ _; exact Nat.le_of_eq rfl) (hb hby d7_8) (fun _ _ => ⟨rfl, e21, (by decide : 1 + 0 ≤ _), (by decide : 1 + 0 ≤ _)⟩)
  dsimp only [Pt.U, Pt.locs, Pt.cells, Pt.slots] at X22 l22 y22 z22 st22 hQ22
  subst l22 y22 z22
  obtain ⟨rfl, Nq22, Kq22, G22_0, G22_1⟩ := hQ22
  have N22 := Fr.app N21 Nq22
  have Z22 := Nat.le_trans Z20 Kq22.1
  have K22 := K20.trans Kq22 (allS (Or.inr sz20) all0)
  obtain ⟨fs, hr, hrun, hended, hW, hsame⟩ := X22.leave (v := some (.ref b20)) (fun h => by rw [Bd.returns] at h; cases h)
  refine ⟨_, _, pre0 _ ?_, hrun, hended, _, _, rfl, ?_, ⟨_, rfl⟩, hW, hsame.mono (by decide) (by decide)⟩
  · show Steps p.tables e below (s₁.setTop (mkF m 0 #[.val (.ref y)] [])) _
    refine st20 _ ?_
    show Steps p.tables e below (T20.setTop (mkF m 3 #[.val (.ref y)] [(.ref b20)])) _
    refine XS.dup X20.here hx rfl (hb hby d7_3) rfl rfl ?_
    show Steps p.tables e below (T20.setTop (mkF m 4 #[.val (.ref y)] [(.ref b20), (.ref b20)])) _
    refine XS.aloadN X20.here hx rfl (hb hby d7_4) rfl rfl ?_
    show Steps p.tables e below (T20.setTop (mkF m 5 #[.val (.ref y)] [(.ref y), (.ref b20), (.ref b20)])) _
    refine st21 _ ?_
    show Steps p.tables e below (T21.setTop (mkF m 8 #[.val (.ref y)] [(.ref y), (.ref b20), (.ref b20)])) _
    refine st22.trans ?_
    show Steps p.tables e below (T22.setTop (mkF m 11 #[.val (.ref y)] [(.ref b20)])) _
    jvm_step X22.here [X22.here.top, hx, (hb hby d7_11), X22.method', Bd.returns, Value.isRef, FieldType.isReference]
    first | (intro acts; rw [hr _ acts rfl rfl rfl]) | rw [hr _ _ rfl rfl rfl]
    exact Steps.refl _
  · show QF Z h0 n0 _ T22.heap _
    exact ⟨b20, y, rfl, N22, K22, gz20, G22_0, G22_1⟩
def QE0 (Z : State) (n ar em : Addr) (dc k : Int32) (f : Nat → Int32) (h0 : Heap) (n0 : Nat) (v : Option Value) (h : Heap) (L : List Loc) : Prop := v = some (.ref em) ∧ Fr n0 L ∧ Keep h0 h [n, ar] ∧ Exa Z h n "com/example/caddis/caddis/XmlNesting" ∧ Fld Z h n "com/example/caddis/caddis/XmlNesting" "declared" "[I" (.ref ar) ∧ Fld Z h n "com/example/caddis/caddis/XmlNesting" "depth" "I" (.int (1 : Int32)) ∧ Fld Z h n "com/example/caddis/caddis/XmlNesting" "declarations" "I" (.int (dc + k)) ∧ IA Z h ar 1000 (upd f 0 k)
theorem d3_0 : decode prog_17_method_2_code 0 = .ok (.aload_n 0, 1) := by decide +kernel
theorem d3_1 : decode prog_17_method_2_code 1 = .ok (.getfield 13, 3) := by decide +kernel
theorem d3_4 : decode prog_17_method_2_code 4 = .ok (.sipush 1000, 3) := by decide +kernel
theorem d3_7 : decode prog_17_method_2_code 7 = .ok (.if_icmp .ne 9, 3) := by decide +kernel
theorem d3_16 : decode prog_17_method_2_code 16 = .ok (.aload_n 0, 1) := by decide +kernel
theorem d3_17 : decode prog_17_method_2_code 17 = .ok (.getfield 25, 3) := by decide +kernel
theorem d3_20 : decode prog_17_method_2_code 20 = .ok (.iload_n 1, 1) := by decide +kernel
theorem d3_21 : decode prog_17_method_2_code 21 = .ok (.iadd, 1) := by decide +kernel
theorem d3_22 : decode prog_17_method_2_code 22 = .ok (.sipush 1000, 3) := by decide +kernel
theorem d3_25 : decode prog_17_method_2_code 25 = .ok (.if_icmp .le 9, 3) := by decide +kernel
theorem d3_34 : decode prog_17_method_2_code 34 = .ok (.aload_n 0, 1) := by decide +kernel
theorem d3_35 : decode prog_17_method_2_code 35 = .ok (.getfield 9, 3) := by decide +kernel
theorem d3_38 : decode prog_17_method_2_code 38 = .ok (.aload_n 0, 1) := by decide +kernel
theorem d3_39 : decode prog_17_method_2_code 39 = .ok (.getfield 13, 3) := by decide +kernel
theorem d3_42 : decode prog_17_method_2_code 42 = .ok (.iload_n 1, 1) := by decide +kernel
theorem d3_43 : decode prog_17_method_2_code 43 = .ok (.iastore, 1) := by decide +kernel
theorem d3_44 : decode prog_17_method_2_code 44 = .ok (.aload_n 0, 1) := by decide +kernel
theorem d3_45 : decode prog_17_method_2_code 45 = .ok (.dup, 1) := by decide +kernel
theorem d3_46 : decode prog_17_method_2_code 46 = .ok (.getfield 13, 3) := by decide +kernel
theorem d3_49 : decode prog_17_method_2_code 49 = .ok (.iconst 1, 1) := by decide +kernel
theorem d3_50 : decode prog_17_method_2_code 50 = .ok (.iadd, 1) := by decide +kernel
theorem d3_51 : decode prog_17_method_2_code 51 = .ok (.putfield 13, 3) := by decide +kernel
theorem d3_54 : decode prog_17_method_2_code 54 = .ok (.aload_n 0, 1) := by decide +kernel
theorem d3_55 : decode prog_17_method_2_code 55 = .ok (.dup, 1) := by decide +kernel
theorem d3_56 : decode prog_17_method_2_code 56 = .ok (.getfield 25, 3) := by decide +kernel
theorem d3_59 : decode prog_17_method_2_code 59 = .ok (.iload_n 1, 1) := by decide +kernel
theorem d3_60 : decode prog_17_method_2_code 60 = .ok (.iadd, 1) := by decide +kernel
theorem d3_61 : decode prog_17_method_2_code 61 = .ok (.putfield 25, 3) := by decide +kernel
theorem d3_64 : decode prog_17_method_2_code 64 = .ok (.invokestatic 30, 3) := by decide +kernel
theorem pd_2 : parseMethodDescriptor "()Ljava/util/Optional;" = some ⟨[], some (.object "java/util/Optional")⟩ := by decide +kernel
theorem d3_67 : decode prog_17_method_2_code 67 = .ok (.areturn, 1) := by decide +kernel
theorem ef_3_RI (m : MethodId) (x0 : Addr) (x1 : Int32) : entryFrame m #[(.ref x0), (.int x1)] 2 = mkF m 0 #[.val (.ref x0), .val (.int x1)] [] := by first | (simp [entryFrame, mkF, argsToLocals, Value.category]; done) | rfl
set_option maxRecDepth 65536 in
set_option maxHeartbeats 40000000 in
theorem ren0 (l : Launch) (Z : State) (a0 : Array Value) (hw : ∀ d ∈ tables_1, d.before a0 Z = true) (ws : List Jvm.Cond) (n ar em : Addr) (dc k : Int32) (f : Nat → Int32) (h0 : Heap) (n0 : Nat) (Z0 : n0 ≤ h0.size) (En : Exa Z h0 n "com/example/caddis/caddis/XmlNesting") (F1 : Fld Z h0 n "com/example/caddis/caddis/XmlNesting" "declared" "[I" (.ref ar)) (F2 : Fld Z h0 n "com/example/caddis/caddis/XmlNesting" "depth" "I" (.int (0 : Int32))) (F3 : Fld Z h0 n "com/example/caddis/caddis/XmlNesting" "declarations" "I" (.int dc)) (Va : IA Z h0 ar 1000 f) (gn : n0 ≤ n) (ga : n0 ≤ ar) (na : n ≠ ar) (S : Sta Z h0 "java/util/Optional" "EMPTY" "Ljava/util/Optional;" (.ref em)) (hc25 : ¬ ((1000 : Int32) < (dc + k))) :
    MetFree l (⟨"com/example/caddis/caddis/XmlNesting", "enter", "(I)Ljava/util/Optional;"⟩ : MethodName) (head1 (Jvm.Cond.code (⟨"com/example/caddis/caddis/XmlNesting", "enter", "(I)Ljava/util/Optional;"⟩ : MethodName) prog_17_method_2_code 2 (some (.object "java/util/Optional")) :: ws) ({ frames := 1, cells := 0, slots := 0, locals := 12 } : Room)) (fun zA zU => zA = #[(.ref n), (.int k)] ∧ Z.Warmed39 zU.vm ∧ zU.heap = h0) (fun _ _ _ _ _ => True) (fun _ zU zO zW => ∃ zV zL, zO = .returned zV ∧ QE0 Z n ar em dc k f h0 n0 zV zW.heap zL ∧ FrameEnd zU zO zW zL ({ frames := 1, cells := 0, slots := 0, locals := 12 } : Room).cells ({ frames := 1, cells := 0, slots := 0, locals := 12 } : Room).slots) := by
  refine MetFree.of_bodySF (plainFor_of_name pn_XmlNesting) hisR ?_
  intro p e s m args below meth c s₁ Bd hml0 hP hK
  obtain ⟨rfl, hZ, hh⟩ := hP
  have hx := Bd.exec
  have hby := Bd.bytes
  have hml : c.maxLocals = 2 := hml0
  have hown : s.vm.findClass "com/example/caddis/caddis/XmlNesting" = some m.cls := findClass_of_methodNamed Bd.named
  have hnm := (name_of_methodNamed Bd.named Bd.method).1
  have X0 : Stand p l e ({ frames := 1, cells := 0, slots := 0, locals := 12 } : Room) s m #[(.ref n), (.int k)] below meth c s₁ [] 0 0 := Stand.of_body Bd
  have e0 : s₁.heap = h0 := by rw [← hh, Bd.state]; rfl
  have N0 := Fr.nil n0
  have pre0 : ∀ zt, Steps p.tables e below (s₁.setTop (mkF m 0 #[.val (.ref n), .val (.int k)] [])) zt → Steps p.tables e below (s₁.setTop (entryFrame m #[(.ref n), (.int k)] 2)) zt := fun zt zk => castTop (ef_3_RI m n k) zk
  obtain ⟨T23, X23, e23, st23⟩ := getF X0 hx hZ hown (host := "") (Or.inl (hw _ (List.mem_of_getElem? (i := 18) rfl))) Via.refl e0 F2 (g := (mkF m 1 #[.val (.ref n), .val (.int k)] [(.ref n)])) rfl rfl (hb hby d3_1)
  obtain ⟨T24, X24, e24, st24⟩ := getF X23 hx hZ hown (host := "") (Or.inl (hw _ (List.mem_of_getElem? (i := 20) rfl))) Via.refl e23 F3 (g := (mkF m 17 #[.val (.ref n), .val (.int k)] [(.ref n)])) rfl rfl (hb hby d3_17)
  obtain ⟨T25, X25, e25, st25⟩ := getF X24 hx hZ hown (host := "") (Or.inl (hw _ (List.mem_of_getElem? (i := 11) rfl))) Via.refl e24 F1 (g := (mkF m 35 #[.val (.ref n), .val (.int k)] [(.ref n)])) rfl rfl (hb hby d3_35)
  obtain ⟨T26, X26, e26, st26⟩ := getF X25 hx hZ hown (host := "") (Or.inl (hw _ (List.mem_of_getElem? (i := 18) rfl))) Via.refl e25 F2 (g := (mkF m 39 #[.val (.ref n), .val (.int k)] [(.ref n), (.ref ar)])) rfl rfl (hb hby d3_39)
  obtain ⟨cl27, Ar27, Sz27, Hz27⟩ := id Va
  have hin27 := IA.inb (j := (0 : Int32)) (i := 0) Sz27 (by decide) (by decide) (by decide)
  obtain ⟨T28, h28, X28, e28, W28, st28⟩ := stI X26 hx hZ e26 Ar27 (j := (0 : Int32)) hin27 (g := (mkF m 43 #[.val (.ref n), .val (.int k)] [(.int k), (.int (0 : Int32)), (.ref ar)])) rfl rfl (hb hby d3_43)
  have V28 : IA Z h28 ar 1000 (upd f 0 k) := IA.set Ar27 Sz27 Hz27 W28 (by decide) (by decide)
  have N28 := Fr.snoc X28 N0 ga
  have zF29 := F1.other W28 (Or.inl na)
  have zF30 := F2.other W28 (Or.inl na)
  have zF31 := F3.other W28 (Or.inl na)
  have zE32 := En.wr W28
  have zS33 := S.wr W28
  have Z28 := Nat.le_trans Z0 (Keep.of_wr W28).1
  have K28 := (Keep.refl h0 [n, ar]).wr W28 (Or.inl (List.mem_of_getElem? (i := 1) rfl))
  obtain ⟨T34, X34, e34, st34⟩ := getF X28 hx hZ hown (host := "") (Or.inl (hw _ (List.mem_of_getElem? (i := 18) rfl))) Via.refl e28 zF30 (g := (mkF m 46 #[.val (.ref n), .val (.int k)] [(.ref n), (.ref n)])) rfl rfl (hb hby d3_46)
  obtain ⟨T35, h35, X35, e35, W35, st35⟩ := putF X34 hx hZ hown (host := "") (Or.inl (hw _ (List.mem_of_getElem? (i := 18) rfl))) Via.refl e34 zF30 zE32 (Or.inl (hw _ (List.mem_of_getElem? (i := 19) rfl))) (hw _ (List.mem_of_getElem? (i := 2) rfl)) (ty := .int) (by decide) rfl rfl (g := (mkF m 51 #[.val (.ref n), .val (.int k)] [(.int (1 : Int32)), (.ref n)])) rfl rfl (hb hby d3_51)
  have N35 := Fr.snoc X35 N28 gn
  have zF36 := zF29.other W35 (Or.inr (slot_ne (Or.inr (hw _ (List.mem_of_getElem? (i := 12) rfl))) (Or.inl (hw _ (List.mem_of_getElem? (i := 19) rfl))) (by decide) (t := (.array .int)) (t' := .int) (by decide) (by decide)))
  have zF37 := zF30.same W35
  have zF38 := zF31.other W35 (Or.inr (slot_ne (Or.inl (hw _ (List.mem_of_getElem? (i := 21) rfl))) (Or.inl (hw _ (List.mem_of_getElem? (i := 19) rfl))) (by decide) (t := .int) (t' := .int) (by decide) (by decide)))
  have zE39 := zE32.wr W35
  have zS40 := zS33.wr W35
  have zA41 := V28.other W35 (Ne.symm na)
  have Z35 := Nat.le_trans Z28 (Keep.of_wr W35).1
  have K35 := K28.wr W35 (Or.inl (List.mem_of_getElem? (i := 0) rfl))
  obtain ⟨T42, X42, e42, st42⟩ := getF X35 hx hZ hown (host := "") (Or.inl (hw _ (List.mem_of_getElem? (i := 20) rfl))) Via.refl e35 zF38 (g := (mkF m 56 #[.val (.ref n), .val (.int k)] [(.ref n), (.ref n)])) rfl rfl (hb hby d3_56)
  obtain ⟨T43, h43, X43, e43, W43, st43⟩ := putF X42 hx hZ hown (host := "") (Or.inl (hw _ (List.mem_of_getElem? (i := 20) rfl))) Via.refl e42 zF38 zE39 (Or.inl (hw _ (List.mem_of_getElem? (i := 21) rfl))) (hw _ (List.mem_of_getElem? (i := 2) rfl)) (ty := .int) (by decide) rfl rfl (g := (mkF m 61 #[.val (.ref n), .val (.int k)] [(.int (dc + k)), (.ref n)])) rfl rfl (hb hby d3_61)
  have N43 := Fr.snoc X43 N35 gn
  have zF44 := zF36.other W43 (Or.inr (slot_ne (Or.inr (hw _ (List.mem_of_getElem? (i := 12) rfl))) (Or.inl (hw _ (List.mem_of_getElem? (i := 21) rfl))) (by decide) (t := (.array .int)) (t' := .int) (by decide) (by decide)))
  have zF45 := zF37.other W43 (Or.inr (slot_ne (Or.inl (hw _ (List.mem_of_getElem? (i := 19) rfl))) (Or.inl (hw _ (List.mem_of_getElem? (i := 21) rfl))) (by decide) (t := .int) (t' := .int) (by decide) (by decide)))
  have zF46 := zF38.same W43
  have zE47 := zE39.wr W43
  have zS48 := zS40.wr W43
  have zA49 := zA41.other W43 (Ne.symm na)
  have Z43 := Nat.le_trans Z35 (Keep.of_wr W43).1
  have K43 := K35.wr W43 (Or.inl (List.mem_of_getElem? (i := 0) rfl))
  obtain ⟨_, _, ⟨T50, L50, k50, n50⟩, -, X50, ⟨Lc50, hQ50, l50, y50, z50⟩, st50⟩ := Jvm.LawKit.callS X43 hx (y := (⟨"java/util/Optional", "empty", "()Ljava/util/Optional;"⟩ : MethodName)) hown (mvT hZ (hw _ (List.mem_of_getElem? (i := 22) rfl))) (mvT hZ (hw _ (List.mem_of_getElem? (i := 23) rfl))) (mvT hZ (hw _ (List.mem_of_getElem? (i := 24) rfl))) (mvT hZ (hw _ (List.mem_of_getElem? (i := 25) rfl))) (by decide) (backOf (W := 0) (rem l Z a0 hw [] em h43 n0 Z43 zS48) hZ (hw _ (List.mem_of_getElem? (i := 25) rfl)) (hw _ (List.mem_of_getElem? (i := 24) rfl)) (by decide) (by decide)) (g := (mkF m 64 #[.val (.ref n), .val (.int k)] [])) rfl (by rw [hml]; rfl) (argsL := []) (rest := []) (lenOf pd_2 rfl) rfl (by show 2 * 0 + _ ≤ _; exact Nat.le_of_eq rfl) (hb hby d3_64) (fun _ _ => ⟨rfl, e43, (by decide : 0 + 0 ≤ _), (by decide : 0 + 0 ≤ _)⟩)
  dsimp only [Pt.U, Pt.locs, Pt.cells, Pt.slots] at X50 l50 y50 z50 st50 hQ50
  subst l50 y50 z50
  obtain ⟨rfl, Nq50, e50⟩ := hQ50
  have N50 := Fr.app N43 Nq50
  obtain ⟨fs, hr, hrun, hended, hW, hsame⟩ := X50.leave (v := some (.ref em)) (fun h => by rw [Bd.returns] at h; cases h)
  refine ⟨_, _, pre0 _ ?_, hrun, hended, _, _, rfl, ?_, ⟨_, rfl⟩, hW, hsame.mono (by decide) (by decide)⟩
  · show Steps p.tables e below (s₁.setTop (mkF m 0 #[.val (.ref n), .val (.int k)] [])) _
    refine XS.aloadN X0.here hx rfl (hb hby d3_0) rfl rfl ?_
    show Steps p.tables e below (s₁.setTop (mkF m 1 #[.val (.ref n), .val (.int k)] [(.ref n)])) _
    refine st23 _ ?_
    show Steps p.tables e below (T23.setTop (mkF m 4 #[.val (.ref n), .val (.int k)] [(.int (0 : Int32))])) _
    refine XS.sipush X23.here hx rfl (hb hby d3_4) ?_
    show Steps p.tables e below (T23.setTop (mkF m 7 #[.val (.ref n), .val (.int k)] [(.int (1000 : Int32)), (.int (0 : Int32))])) _
    refine XS.icmpYes X23.here hx rfl (pc0 := 7) (pc' := 16) rfl (hb hby d3_7) rfl (feq (by decide)).2 (by decide) (by decide) ?_
    show Steps p.tables e below (T23.setTop (mkF m 16 #[.val (.ref n), .val (.int k)] [])) _
    refine XS.aloadN X23.here hx rfl (hb hby d3_16) rfl rfl ?_
    show Steps p.tables e below (T23.setTop (mkF m 17 #[.val (.ref n), .val (.int k)] [(.ref n)])) _
    refine st24 _ ?_
    show Steps p.tables e below (T24.setTop (mkF m 20 #[.val (.ref n), .val (.int k)] [(.int dc)])) _
    refine XS.iloadN X24.here hx rfl (hb hby d3_20) rfl ?_
    show Steps p.tables e below (T24.setTop (mkF m 21 #[.val (.ref n), .val (.int k)] [(.int k), (.int dc)])) _
    refine XS.iadd X24.here hx rfl (hb hby d3_21) rfl ?_
    show Steps p.tables e below (T24.setTop (mkF m 22 #[.val (.ref n), .val (.int k)] [(.int (dc + k))])) _
    refine XS.sipush X24.here hx rfl (hb hby d3_22) ?_
    show Steps p.tables e below (T24.setTop (mkF m 25 #[.val (.ref n), .val (.int k)] [(.int (1000 : Int32)), (.int (dc + k))])) _
    refine XS.icmpYes X24.here hx rfl (pc0 := 25) (pc' := 34) rfl (hb hby d3_25) rfl (flt hc25).2.2.2 (by decide) (by decide) ?_
    show Steps p.tables e below (T24.setTop (mkF m 34 #[.val (.ref n), .val (.int k)] [])) _
    refine XS.aloadN X24.here hx rfl (hb hby d3_34) rfl rfl ?_
    show Steps p.tables e below (T24.setTop (mkF m 35 #[.val (.ref n), .val (.int k)] [(.ref n)])) _
    refine st25 _ ?_
    show Steps p.tables e below (T25.setTop (mkF m 38 #[.val (.ref n), .val (.int k)] [(.ref ar)])) _
    refine XS.aloadN X25.here hx rfl (hb hby d3_38) rfl rfl ?_
    show Steps p.tables e below (T25.setTop (mkF m 39 #[.val (.ref n), .val (.int k)] [(.ref n), (.ref ar)])) _
    refine st26 _ ?_
    show Steps p.tables e below (T26.setTop (mkF m 42 #[.val (.ref n), .val (.int k)] [(.int (0 : Int32)), (.ref ar)])) _
    refine XS.iloadN X26.here hx rfl (hb hby d3_42) rfl ?_
    show Steps p.tables e below (T26.setTop (mkF m 43 #[.val (.ref n), .val (.int k)] [(.int k), (.int (0 : Int32)), (.ref ar)])) _
    refine st28 _ ?_
    show Steps p.tables e below (T28.setTop (mkF m 44 #[.val (.ref n), .val (.int k)] [])) _
    refine XS.aloadN X28.here hx rfl (hb hby d3_44) rfl rfl ?_
    show Steps p.tables e below (T28.setTop (mkF m 45 #[.val (.ref n), .val (.int k)] [(.ref n)])) _
    refine XS.dup X28.here hx rfl (hb hby d3_45) rfl rfl ?_
    show Steps p.tables e below (T28.setTop (mkF m 46 #[.val (.ref n), .val (.int k)] [(.ref n), (.ref n)])) _
    refine st34 _ ?_
    show Steps p.tables e below (T34.setTop (mkF m 49 #[.val (.ref n), .val (.int k)] [(.int (0 : Int32)), (.ref n)])) _
    refine XS.iconst X34.here hx rfl (hb hby d3_49) ?_
    show Steps p.tables e below (T34.setTop (mkF m 50 #[.val (.ref n), .val (.int k)] [(.int (1 : Int32)), (.int (0 : Int32)), (.ref n)])) _
    refine XS.iadd X34.here hx rfl (hb hby d3_50) rfl ?_
    show Steps p.tables e below (T34.setTop (mkF m 51 #[.val (.ref n), .val (.int k)] [(.int (1 : Int32)), (.ref n)])) _
    refine st35 _ ?_
    show Steps p.tables e below (T35.setTop (mkF m 54 #[.val (.ref n), .val (.int k)] [])) _
    refine XS.aloadN X35.here hx rfl (hb hby d3_54) rfl rfl ?_
    show Steps p.tables e below (T35.setTop (mkF m 55 #[.val (.ref n), .val (.int k)] [(.ref n)])) _
    refine XS.dup X35.here hx rfl (hb hby d3_55) rfl rfl ?_
    show Steps p.tables e below (T35.setTop (mkF m 56 #[.val (.ref n), .val (.int k)] [(.ref n), (.ref n)])) _
    refine st42 _ ?_
    show Steps p.tables e below (T42.setTop (mkF m 59 #[.val (.ref n), .val (.int k)] [(.int dc), (.ref n)])) _
    refine XS.iloadN X42.here hx rfl (hb hby d3_59) rfl ?_
    show Steps p.tables e below (T42.setTop (mkF m 60 #[.val (.ref n), .val (.int k)] [(.int k), (.int dc), (.ref n)])) _
    refine XS.iadd X42.here hx rfl (hb hby d3_60) rfl ?_
    show Steps p.tables e below (T42.setTop (mkF m 61 #[.val (.ref n), .val (.int k)] [(.int (dc + k)), (.ref n)])) _
    refine st43 _ ?_
    show Steps p.tables e below (T43.setTop (mkF m 64 #[.val (.ref n), .val (.int k)] [])) _
    refine st50 _ ?_
    show Steps p.tables e below (T50.setTop (mkF m 67 #[.val (.ref n), .val (.int k)] [(.ref em)])) _
    jvm_step X50.here [X50.here.top, hx, (hb hby d3_67), X50.method', Bd.returns, Value.isRef, FieldType.isReference]
    first | (intro acts; rw [hr _ acts rfl rfl rfl]) | rw [hr _ _ rfl rfl rfl]
    exact Steps.refl _
  · show QE0 Z n ar em dc k f h0 n0 _ T50.heap _
    rw [e50]
    exact ⟨rfl, N50, K43, zE47, zF44, zF45, zF46, zA49⟩
theorem d3_28 : decode prog_17_method_2_code 28 = .ok (.ldc 28, 2) := by decide +kernel
theorem d3_30 : decode prog_17_method_2_code 30 = .ok (.invokestatic 19, 3) := by decide +kernel
theorem pd_3 : parseMethodDescriptor "(Ljava/lang/Object;)Ljava/util/Optional;" = some ⟨[(.object "java/lang/Object")], some (.object "java/util/Optional")⟩ := by decide +kernel
theorem d3_33 : decode prog_17_method_2_code 33 = .ok (.areturn, 1) := by decide +kernel
set_option maxRecDepth 65536 in
set_option maxHeartbeats 40000000 in
theorem rex0 (l : Launch) (Z : State) (a0 : Array Value) (hw : ∀ d ∈ tables_1, d.before a0 Z = true) (ws : List Jvm.Cond) (n ar em : Addr) (dc k : Int32) (f : Nat → Int32) (h0 : Heap) (n0 : Nat) (Z0 : n0 ≤ h0.size) (En : Exa Z h0 n "com/example/caddis/caddis/XmlNesting") (F1 : Fld Z h0 n "com/example/caddis/caddis/XmlNesting" "declared" "[I" (.ref ar)) (F2 : Fld Z h0 n "com/example/caddis/caddis/XmlNesting" "depth" "I" (.int (0 : Int32))) (F3 : Fld Z h0 n "com/example/caddis/caddis/XmlNesting" "declarations" "I" (.int dc)) (Va : IA Z h0 ar 1000 f) (gn : n0 ≤ n) (ga : n0 ≤ ar) (na : n ≠ ar) (S : Sta Z h0 "java/util/Optional" "EMPTY" "Ljava/util/Optional;" (.ref em)) (hc25 : (1000 : Int32) < (dc + k)) :
    MetFree l (⟨"com/example/caddis/caddis/XmlNesting", "enter", "(I)Ljava/util/Optional;"⟩ : MethodName) (head1 (Jvm.Cond.code (⟨"com/example/caddis/caddis/XmlNesting", "enter", "(I)Ljava/util/Optional;"⟩ : MethodName) prog_17_method_2_code 2 (some (.object "java/util/Optional")) :: ws) ({ frames := 3, cells := 3, slots := 253, locals := 48 } : Room)) (fun zA zU => zA = #[(.ref n), (.int k)] ∧ Z.Warmed39 zU.vm ∧ zU.heap = h0) (fun _ _ _ _ _ => True) (fun _ zU zO zW => ∃ zV zL, zO = .returned zV ∧ QF Z h0 n0 zV zW.heap zL ∧ ReturnedEndW zU zO zW zL ({ frames := 3, cells := 3, slots := 253, locals := 48 } : Room).cells ({ frames := 3, cells := 3, slots := 253, locals := 48 } : Room).slots) := by
  refine MetFree.of_bodySF (plainFor_of_name pn_XmlNesting) hisR ?_
  intro p e s m args below meth c s₁ Bd hml0 hP hK
  obtain ⟨rfl, hZ, hh⟩ := hP
  have hx := Bd.exec
  have hby := Bd.bytes
  have hml : c.maxLocals = 2 := hml0
  have hown : s.vm.findClass "com/example/caddis/caddis/XmlNesting" = some m.cls := findClass_of_methodNamed Bd.named
  have hnm := (name_of_methodNamed Bd.named Bd.method).1
  have X0 : Stand p l e ({ frames := 3, cells := 3, slots := 253, locals := 48 } : Room) s m #[(.ref n), (.int k)] below meth c s₁ [] 0 0 := Stand.of_body Bd
  have e0 : s₁.heap = h0 := by rw [← hh, Bd.state]; rfl
  have N0 := Fr.nil n0
  have pre0 : ∀ zt, Steps p.tables e below (s₁.setTop (mkF m 0 #[.val (.ref n), .val (.int k)] [])) zt → Steps p.tables e below (s₁.setTop (entryFrame m #[(.ref n), (.int k)] 2)) zt := fun zt zk => castTop (ef_3_RI m n k) zk
  obtain ⟨T51, X51, e51, st51⟩ := getF X0 hx hZ hown (host := "") (Or.inl (hw _ (List.mem_of_getElem? (i := 18) rfl))) Via.refl e0 F2 (g := (mkF m 1 #[.val (.ref n), .val (.int k)] [(.ref n)])) rfl rfl (hb hby d3_1)
  obtain ⟨T52, X52, e52, st52⟩ := getF X51 hx hZ hown (host := "") (Or.inl (hw _ (List.mem_of_getElem? (i := 20) rfl))) Via.refl e51 F3 (g := (mkF m 17 #[.val (.ref n), .val (.int k)] [(.ref n)])) rfl rfl (hb hby d3_17)
  obtain ⟨a53, T53, h53, k53, X53, e53, E53, hS53, hk53, hZ53, hown53, st53⟩ := ldcS (s := s) (vm0 := s.vm) X52 hx hZ hown (hw _ (List.mem_of_getElem? (i := 39) rfl)) (strs hw) e52 ((State.WarmedH.refl s).since h0.size) (Nat.le_refl _) (g := (mkF m 28 #[.val (.ref n), .val (.int k)] [])) rfl (hb hby d3_28) (n := 244) (by decide +kernel) (by decide) (by decide) (by decide)
  have zF54 := F1.ext E53
  have zF55 := F2.ext E53
  have zF56 := F3.ext E53
  have zE57 := En.ext E53
  have zA58 := Va.ext E53
  have Z53 := Nat.le_trans Z0 E53.1
  have K53 := (Keep.refl h0 []).ext E53
  obtain ⟨_, _, ⟨T59, L59, k59, n59⟩, -, X59, ⟨Lc59, hQ59, l59, y59, z59⟩, st59⟩ := Jvm.LawKit.callS X53 hx (y := (⟨"java/util/Optional", "of", "(Ljava/lang/Object;)Ljava/util/Optional;"⟩ : MethodName)) hown53 (mvT hZ53 (hw _ (List.mem_of_getElem? (i := 47) rfl))) (mvT hZ53 (hw _ (List.mem_of_getElem? (i := 48) rfl))) (mvT hZ53 (hw _ (List.mem_of_getElem? (i := 24) rfl))) (mvT hZ53 (hw _ (List.mem_of_getElem? (i := 49) rfl))) (by decide) (backOf (W := 0) (rof l Z a0 hw [] a53 h53 n0 Z53) hZ53 (hw _ (List.mem_of_getElem? (i := 49) rfl)) (hw _ (List.mem_of_getElem? (i := 24) rfl)) (by decide) (by decide)) (g := (mkF m 30 #[.val (.ref n), .val (.int k)] [(.ref a53)])) rfl (by rw [hml]; rfl) (argsL := [(.ref a53)]) (rest := []) (lenOf pd_3 rfl) rfl (by show 2 * 0 + _ ≤ _; exact Nat.le_of_eq rfl) (hb hby d3_30) (fun _ _ => ⟨rfl, e53, (by decide : 2 + 1 ≤ _), (by decide : 248 + 1 ≤ _)⟩)
  dsimp only [Pt.U, Pt.locs, Pt.cells, Pt.slots] at X59 l59 y59 z59 st59 hQ59
  subst l59 y59 z59
  obtain ⟨o59, y59, rfl, Nq59, Kq59, go59, G59_1, G59_2⟩ := hQ59
  have N59 := Fr.app N0 Nq59
  have zF60 := zF54.keep Kq59 nin0
  have zF61 := zF55.keep Kq59 nin0
  have zF62 := zF56.keep Kq59 nin0
  have zE63 := zE57.keep Kq59
  have zA64 := zA58.keep Kq59 nin0
  have Z59 := Nat.le_trans Z53 Kq59.1
  have K59 := K53.trans Kq59 all0
  have sl59 := Nat.le_trans hk53 Kq59.1
  obtain ⟨fs, hr, hrun, hended, hend⟩ := X59.leaveW hS53 sl59 (v := some (.ref o59)) (fun h => by rw [Bd.returns] at h; cases h)
  refine ⟨_, _, pre0 _ ?_, hrun, hended, _, _, rfl, ?_, hend.1, hend.2.1, hend.2.2.1, hend.2.2.2.mono (by decide) (by decide)⟩
  · show Steps p.tables e below (s₁.setTop (mkF m 0 #[.val (.ref n), .val (.int k)] [])) _
    refine XS.aloadN X0.here hx rfl (hb hby d3_0) rfl rfl ?_
    show Steps p.tables e below (s₁.setTop (mkF m 1 #[.val (.ref n), .val (.int k)] [(.ref n)])) _
    refine st51 _ ?_
    show Steps p.tables e below (T51.setTop (mkF m 4 #[.val (.ref n), .val (.int k)] [(.int (0 : Int32))])) _
    refine XS.sipush X51.here hx rfl (hb hby d3_4) ?_
    show Steps p.tables e below (T51.setTop (mkF m 7 #[.val (.ref n), .val (.int k)] [(.int (1000 : Int32)), (.int (0 : Int32))])) _
    refine XS.icmpYes X51.here hx rfl (pc0 := 7) (pc' := 16) rfl (hb hby d3_7) rfl (feq (by decide)).2 (by decide) (by decide) ?_
    show Steps p.tables e below (T51.setTop (mkF m 16 #[.val (.ref n), .val (.int k)] [])) _
    refine XS.aloadN X51.here hx rfl (hb hby d3_16) rfl rfl ?_
    show Steps p.tables e below (T51.setTop (mkF m 17 #[.val (.ref n), .val (.int k)] [(.ref n)])) _
    refine st52 _ ?_
    show Steps p.tables e below (T52.setTop (mkF m 20 #[.val (.ref n), .val (.int k)] [(.int dc)])) _
    refine XS.iloadN X52.here hx rfl (hb hby d3_20) rfl ?_
    show Steps p.tables e below (T52.setTop (mkF m 21 #[.val (.ref n), .val (.int k)] [(.int k), (.int dc)])) _
    refine XS.iadd X52.here hx rfl (hb hby d3_21) rfl ?_
    show Steps p.tables e below (T52.setTop (mkF m 22 #[.val (.ref n), .val (.int k)] [(.int (dc + k))])) _
    refine XS.sipush X52.here hx rfl (hb hby d3_22) ?_
    show Steps p.tables e below (T52.setTop (mkF m 25 #[.val (.ref n), .val (.int k)] [(.int (1000 : Int32)), (.int (dc + k))])) _
    refine XS.icmpNo X52.here hx rfl (hb hby d3_25) rfl (tlt hc25).2.2.2 ?_
    show Steps p.tables e below (T52.setTop (mkF m 28 #[.val (.ref n), .val (.int k)] [])) _
    refine st53 _ ?_
    show Steps p.tables e below (T53.setTop (mkF m 30 #[.val (.ref n), .val (.int k)] [(.ref a53)])) _
    refine st59 _ ?_
    show Steps p.tables e below (T59.setTop (mkF m 33 #[.val (.ref n), .val (.int k)] [(.ref o59)])) _
    jvm_step X59.here [X59.here.top, hx, (hb hby d3_33), X59.method', Bd.returns, Value.isRef, FieldType.isReference]
    first | (intro acts; rw [hr _ acts rfl rfl rfl]) | rw [hr _ _ rfl rfl rfl]
    exact Steps.refl _
  · show QF Z h0 n0 _ T59.heap _
    exact ⟨o59, y59, rfl, N59, K59, go59, G59_1, G59_2⟩
def QE1 (Z : State) (n ar em : Addr) (dc k : Int32) (f : Nat → Int32) (h0 : Heap) (n0 : Nat) (v : Option Value) (h : Heap) (L : List Loc) : Prop := v = some (.ref em) ∧ Fr n0 L ∧ Keep h0 h [n, ar] ∧ Exa Z h n "com/example/caddis/caddis/XmlNesting" ∧ Fld Z h n "com/example/caddis/caddis/XmlNesting" "declared" "[I" (.ref ar) ∧ Fld Z h n "com/example/caddis/caddis/XmlNesting" "depth" "I" (.int (2 : Int32)) ∧ Fld Z h n "com/example/caddis/caddis/XmlNesting" "declarations" "I" (.int (dc + k)) ∧ IA Z h ar 1000 (upd f 1 k)
set_option maxRecDepth 65536 in
set_option maxHeartbeats 40000000 in
theorem ren1 (l : Launch) (Z : State) (a0 : Array Value) (hw : ∀ d ∈ tables_1, d.before a0 Z = true) (ws : List Jvm.Cond) (n ar em : Addr) (dc k : Int32) (f : Nat → Int32) (h0 : Heap) (n0 : Nat) (Z0 : n0 ≤ h0.size) (En : Exa Z h0 n "com/example/caddis/caddis/XmlNesting") (F1 : Fld Z h0 n "com/example/caddis/caddis/XmlNesting" "declared" "[I" (.ref ar)) (F2 : Fld Z h0 n "com/example/caddis/caddis/XmlNesting" "depth" "I" (.int (1 : Int32))) (F3 : Fld Z h0 n "com/example/caddis/caddis/XmlNesting" "declarations" "I" (.int dc)) (Va : IA Z h0 ar 1000 f) (gn : n0 ≤ n) (ga : n0 ≤ ar) (na : n ≠ ar) (S : Sta Z h0 "java/util/Optional" "EMPTY" "Ljava/util/Optional;" (.ref em)) (hc25 : ¬ ((1000 : Int32) < (dc + k))) :
    MetFree l (⟨"com/example/caddis/caddis/XmlNesting", "enter", "(I)Ljava/util/Optional;"⟩ : MethodName) (head1 (Jvm.Cond.code (⟨"com/example/caddis/caddis/XmlNesting", "enter", "(I)Ljava/util/Optional;"⟩ : MethodName) prog_17_method_2_code 2 (some (.object "java/util/Optional")) :: ws) ({ frames := 1, cells := 0, slots := 0, locals := 12 } : Room)) (fun zA zU => zA = #[(.ref n), (.int k)] ∧ Z.Warmed39 zU.vm ∧ zU.heap = h0) (fun _ _ _ _ _ => True) (fun _ zU zO zW => ∃ zV zL, zO = .returned zV ∧ QE1 Z n ar em dc k f h0 n0 zV zW.heap zL ∧ FrameEnd zU zO zW zL ({ frames := 1, cells := 0, slots := 0, locals := 12 } : Room).cells ({ frames := 1, cells := 0, slots := 0, locals := 12 } : Room).slots) := by
  refine MetFree.of_bodySF (plainFor_of_name pn_XmlNesting) hisR ?_
  intro p e s m args below meth c s₁ Bd hml0 hP hK
  obtain ⟨rfl, hZ, hh⟩ := hP
  have hx := Bd.exec
  have hby := Bd.bytes
  have hml : c.maxLocals = 2 := hml0
  have hown : s.vm.findClass "com/example/caddis/caddis/XmlNesting" = some m.cls := findClass_of_methodNamed Bd.named
  have hnm := (name_of_methodNamed Bd.named Bd.method).1
  have X0 : Stand p l e ({ frames := 1, cells := 0, slots := 0, locals := 12 } : Room) s m #[(.ref n), (.int k)] below meth c s₁ [] 0 0 := Stand.of_body Bd
  have e0 : s₁.heap = h0 := by rw [← hh, Bd.state]; rfl
  have N0 := Fr.nil n0
  have pre0 : ∀ zt, Steps p.tables e below (s₁.setTop (mkF m 0 #[.val (.ref n), .val (.int k)] [])) zt → Steps p.tables e below (s₁.setTop (entryFrame m #[(.ref n), (.int k)] 2)) zt := fun zt zk => castTop (ef_3_RI m n k) zk
  obtain ⟨T65, X65, e65, st65⟩ := getF X0 hx hZ hown (host := "") (Or.inl (hw _ (List.mem_of_getElem? (i := 18) rfl))) Via.refl e0 F2 (g := (mkF m 1 #[.val (.ref n), .val (.int k)] [(.ref n)])) rfl rfl (hb hby d3_1)
  obtain ⟨T66, X66, e66, st66⟩ := getF X65 hx hZ hown (host := "") (Or.inl (hw _ (List.mem_of_getElem? (i := 20) rfl))) Via.refl e65 F3 (g := (mkF m 17 #[.val (.ref n), .val (.int k)] [(.ref n)])) rfl rfl (hb hby d3_17)
  obtain ⟨T67, X67, e67, st67⟩ := getF X66 hx hZ hown (host := "") (Or.inl (hw _ (List.mem_of_getElem? (i := 11) rfl))) Via.refl e66 F1 (g := (mkF m 35 #[.val (.ref n), .val (.int k)] [(.ref n)])) rfl rfl (hb hby d3_35)
  obtain ⟨T68, X68, e68, st68⟩ := getF X67 hx hZ hown (host := "") (Or.inl (hw _ (List.mem_of_getElem? (i := 18) rfl))) Via.refl e67 F2 (g := (mkF m 39 #[.val (.ref n), .val (.int k)] [(.ref n), (.ref ar)])) rfl rfl (hb hby d3_39)
  obtain ⟨cl69, Ar69, Sz69, Hz69⟩ := id Va
  have hin69 := IA.inb (j := (1 : Int32)) (i := 1) Sz69 (by decide) (by decide) (by decide)
  obtain ⟨T70, h70, X70, e70, W70, st70⟩ := stI X68 hx hZ e68 Ar69 (j := (1 : Int32)) hin69 (g := (mkF m 43 #[.val (.ref n), .val (.int k)] [(.int k), (.int (1 : Int32)), (.ref ar)])) rfl rfl (hb hby d3_43)
  have V70 : IA Z h70 ar 1000 (upd f 1 k) := IA.set Ar69 Sz69 Hz69 W70 (by decide) (by decide)
  have N70 := Fr.snoc X70 N0 ga
  have zF71 := F1.other W70 (Or.inl na)
  have zF72 := F2.other W70 (Or.inl na)
  have zF73 := F3.other W70 (Or.inl na)
  have zE74 := En.wr W70
  have zS75 := S.wr W70
  have Z70 := Nat.le_trans Z0 (Keep.of_wr W70).1
  have K70 := (Keep.refl h0 [n, ar]).wr W70 (Or.inl (List.mem_of_getElem? (i := 1) rfl))
  obtain ⟨T76, X76, e76, st76⟩ := getF X70 hx hZ hown (host := "") (Or.inl (hw _ (List.mem_of_getElem? (i := 18) rfl))) Via.refl e70 zF72 (g := (mkF m 46 #[.val (.ref n), .val (.int k)] [(.ref n), (.ref n)])) rfl rfl (hb hby d3_46)
  obtain ⟨T77, h77, X77, e77, W77, st77⟩ := putF X76 hx hZ hown (host := "") (Or.inl (hw _ (List.mem_of_getElem? (i := 18) rfl))) Via.refl e76 zF72 zE74 (Or.inl (hw _ (List.mem_of_getElem? (i := 19) rfl))) (hw _ (List.mem_of_getElem? (i := 2) rfl)) (ty := .int) (by decide) rfl rfl (g := (mkF m 51 #[.val (.ref n), .val (.int k)] [(.int (2 : Int32)), (.ref n)])) rfl rfl (hb hby d3_51)
  have N77 := Fr.snoc X77 N70 gn
  have zF78 := zF71.other W77 (Or.inr (slot_ne (Or.inr (hw _ (List.mem_of_getElem? (i := 12) rfl))) (Or.inl (hw _ (List.mem_of_getElem? (i := 19) rfl))) (by decide) (t := (.array .int)) (t' := .int) (by decide) (by decide)))
  have zF79 := zF72.same W77
  have zF80 := zF73.other W77 (Or.inr (slot_ne (Or.inl (hw _ (List.mem_of_getElem? (i := 21) rfl))) (Or.inl (hw _ (List.mem_of_getElem? (i := 19) rfl))) (by decide) (t := .int) (t' := .int) (by decide) (by decide)))
  have zE81 := zE74.wr W77
  have zS82 := zS75.wr W77
  have zA83 := V70.other W77 (Ne.symm na)
  have Z77 := Nat.le_trans Z70 (Keep.of_wr W77).1
  have K77 := K70.wr W77 (Or.inl (List.mem_of_getElem? (i := 0) rfl))
  obtain ⟨T84, X84, e84, st84⟩ := getF X77 hx hZ hown (host := "") (Or.inl (hw _ (List.mem_of_getElem? (i := 20) rfl))) Via.refl e77 zF80 (g := (mkF m 56 #[.val (.ref n), .val (.int k)] [(.ref n), (.ref n)])) rfl rfl (hb hby d3_56)
  obtain ⟨T85, h85, X85, e85, W85, st85⟩ := putF X84 hx hZ hown (host := "") (Or.inl (hw _ (List.mem_of_getElem? (i := 20) rfl))) Via.refl e84 zF80 zE81 (Or.inl (hw _ (List.mem_of_getElem? (i := 21) rfl))) (hw _ (List.mem_of_getElem? (i := 2) rfl)) (ty := .int) (by decide) rfl rfl (g := (mkF m 61 #[.val (.ref n), .val (.int k)] [(.int (dc + k)), (.ref n)])) rfl rfl (hb hby d3_61)
  have N85 := Fr.snoc X85 N77 gn
  have zF86 := zF78.other W85 (Or.inr (slot_ne (Or.inr (hw _ (List.mem_of_getElem? (i := 12) rfl))) (Or.inl (hw _ (List.mem_of_getElem? (i := 21) rfl))) (by decide) (t := (.array .int)) (t' := .int) (by decide) (by decide)))
  have zF87 := zF79.other W85 (Or.inr (slot_ne (Or.inl (hw _ (List.mem_of_getElem? (i := 19) rfl))) (Or.inl (hw _ (List.mem_of_getElem? (i := 21) rfl))) (by decide) (t := .int) (t' := .int) (by decide) (by decide)))
  have zF88 := zF80.same W85
  have zE89 := zE81.wr W85
  have zS90 := zS82.wr W85
  have zA91 := zA83.other W85 (Ne.symm na)
  have Z85 := Nat.le_trans Z77 (Keep.of_wr W85).1
  have K85 := K77.wr W85 (Or.inl (List.mem_of_getElem? (i := 0) rfl))
  obtain ⟨_, _, ⟨T92, L92, k92, n92⟩, -, X92, ⟨Lc92, hQ92, l92, y92, z92⟩, st92⟩ := Jvm.LawKit.callS X85 hx (y := (⟨"java/util/Optional", "empty", "()Ljava/util/Optional;"⟩ : MethodName)) hown (mvT hZ (hw _ (List.mem_of_getElem? (i := 22) rfl))) (mvT hZ (hw _ (List.mem_of_getElem? (i := 23) rfl))) (mvT hZ (hw _ (List.mem_of_getElem? (i := 24) rfl))) (mvT hZ (hw _ (List.mem_of_getElem? (i := 25) rfl))) (by decide) (backOf (W := 0) (rem l Z a0 hw [] em h85 n0 Z85 zS90) hZ (hw _ (List.mem_of_getElem? (i := 25) rfl)) (hw _ (List.mem_of_getElem? (i := 24) rfl)) (by decide) (by decide)) (g := (mkF m 64 #[.val (.ref n), .val (.int k)] [])) rfl (by rw [hml]; rfl) (argsL := []) (rest := []) (lenOf pd_2 rfl) rfl (by show 2 * 0 + _ ≤ _; exact Nat.le_of_eq rfl) (hb hby d3_64) (fun _ _ => ⟨rfl, e85, (by decide : 0 + 0 ≤ _), (by decide : 0 + 0 ≤ _)⟩)
  dsimp only [Pt.U, Pt.locs, Pt.cells, Pt.slots] at X92 l92 y92 z92 st92 hQ92
  subst l92 y92 z92
  obtain ⟨rfl, Nq92, e92⟩ := hQ92
  have N92 := Fr.app N85 Nq92
  obtain ⟨fs, hr, hrun, hended, hW, hsame⟩ := X92.leave (v := some (.ref em)) (fun h => by rw [Bd.returns] at h; cases h)
  refine ⟨_, _, pre0 _ ?_, hrun, hended, _, _, rfl, ?_, ⟨_, rfl⟩, hW, hsame.mono (by decide) (by decide)⟩
  · show Steps p.tables e below (s₁.setTop (mkF m 0 #[.val (.ref n), .val (.int k)] [])) _
    refine XS.aloadN X0.here hx rfl (hb hby d3_0) rfl rfl ?_
    show Steps p.tables e below (s₁.setTop (mkF m 1 #[.val (.ref n), .val (.int k)] [(.ref n)])) _
    refine st65 _ ?_
    show Steps p.tables e below (T65.setTop (mkF m 4 #[.val (.ref n), .val (.int k)] [(.int (1 : Int32))])) _
    refine XS.sipush X65.here hx rfl (hb hby d3_4) ?_
    show Steps p.tables e below (T65.setTop (mkF m 7 #[.val (.ref n), .val (.int k)] [(.int (1000 : Int32)), (.int (1 : Int32))])) _
    refine XS.icmpYes X65.here hx rfl (pc0 := 7) (pc' := 16) rfl (hb hby d3_7) rfl (feq (by decide)).2 (by decide) (by decide) ?_
    show Steps p.tables e below (T65.setTop (mkF m 16 #[.val (.ref n), .val (.int k)] [])) _
    refine XS.aloadN X65.here hx rfl (hb hby d3_16) rfl rfl ?_
    show Steps p.tables e below (T65.setTop (mkF m 17 #[.val (.ref n), .val (.int k)] [(.ref n)])) _
    refine st66 _ ?_
    show Steps p.tables e below (T66.setTop (mkF m 20 #[.val (.ref n), .val (.int k)] [(.int dc)])) _
    refine XS.iloadN X66.here hx rfl (hb hby d3_20) rfl ?_
    show Steps p.tables e below (T66.setTop (mkF m 21 #[.val (.ref n), .val (.int k)] [(.int k), (.int dc)])) _
    refine XS.iadd X66.here hx rfl (hb hby d3_21) rfl ?_
    show Steps p.tables e below (T66.setTop (mkF m 22 #[.val (.ref n), .val (.int k)] [(.int (dc + k))])) _
    refine XS.sipush X66.here hx rfl (hb hby d3_22) ?_
    show Steps p.tables e below (T66.setTop (mkF m 25 #[.val (.ref n), .val (.int k)] [(.int (1000 : Int32)), (.int (dc + k))])) _
    refine XS.icmpYes X66.here hx rfl (pc0 := 25) (pc' := 34) rfl (hb hby d3_25) rfl (flt hc25).2.2.2 (by decide) (by decide) ?_
    show Steps p.tables e below (T66.setTop (mkF m 34 #[.val (.ref n), .val (.int k)] [])) _
    refine XS.aloadN X66.here hx rfl (hb hby d3_34) rfl rfl ?_
    show Steps p.tables e below (T66.setTop (mkF m 35 #[.val (.ref n), .val (.int k)] [(.ref n)])) _
    refine st67 _ ?_
    show Steps p.tables e below (T67.setTop (mkF m 38 #[.val (.ref n), .val (.int k)] [(.ref ar)])) _
    refine XS.aloadN X67.here hx rfl (hb hby d3_38) rfl rfl ?_
    show Steps p.tables e below (T67.setTop (mkF m 39 #[.val (.ref n), .val (.int k)] [(.ref n), (.ref ar)])) _
    refine st68 _ ?_
    show Steps p.tables e below (T68.setTop (mkF m 42 #[.val (.ref n), .val (.int k)] [(.int (1 : Int32)), (.ref ar)])) _
    refine XS.iloadN X68.here hx rfl (hb hby d3_42) rfl ?_
    show Steps p.tables e below (T68.setTop (mkF m 43 #[.val (.ref n), .val (.int k)] [(.int k), (.int (1 : Int32)), (.ref ar)])) _
    refine st70 _ ?_
    show Steps p.tables e below (T70.setTop (mkF m 44 #[.val (.ref n), .val (.int k)] [])) _
    refine XS.aloadN X70.here hx rfl (hb hby d3_44) rfl rfl ?_
    show Steps p.tables e below (T70.setTop (mkF m 45 #[.val (.ref n), .val (.int k)] [(.ref n)])) _
    refine XS.dup X70.here hx rfl (hb hby d3_45) rfl rfl ?_
    show Steps p.tables e below (T70.setTop (mkF m 46 #[.val (.ref n), .val (.int k)] [(.ref n), (.ref n)])) _
    refine st76 _ ?_
    show Steps p.tables e below (T76.setTop (mkF m 49 #[.val (.ref n), .val (.int k)] [(.int (1 : Int32)), (.ref n)])) _
    refine XS.iconst X76.here hx rfl (hb hby d3_49) ?_
    show Steps p.tables e below (T76.setTop (mkF m 50 #[.val (.ref n), .val (.int k)] [(.int (1 : Int32)), (.int (1 : Int32)), (.ref n)])) _
    refine XS.iadd X76.here hx rfl (hb hby d3_50) rfl ?_
    show Steps p.tables e below (T76.setTop (mkF m 51 #[.val (.ref n), .val (.int k)] [(.int (2 : Int32)), (.ref n)])) _
    refine st77 _ ?_
    show Steps p.tables e below (T77.setTop (mkF m 54 #[.val (.ref n), .val (.int k)] [])) _
    refine XS.aloadN X77.here hx rfl (hb hby d3_54) rfl rfl ?_
    show Steps p.tables e below (T77.setTop (mkF m 55 #[.val (.ref n), .val (.int k)] [(.ref n)])) _
    refine XS.dup X77.here hx rfl (hb hby d3_55) rfl rfl ?_
    show Steps p.tables e below (T77.setTop (mkF m 56 #[.val (.ref n), .val (.int k)] [(.ref n), (.ref n)])) _
    refine st84 _ ?_
    show Steps p.tables e below (T84.setTop (mkF m 59 #[.val (.ref n), .val (.int k)] [(.int dc), (.ref n)])) _
    refine XS.iloadN X84.here hx rfl (hb hby d3_59) rfl ?_
    show Steps p.tables e below (T84.setTop (mkF m 60 #[.val (.ref n), .val (.int k)] [(.int k), (.int dc), (.ref n)])) _
    refine XS.iadd X84.here hx rfl (hb hby d3_60) rfl ?_
    show Steps p.tables e below (T84.setTop (mkF m 61 #[.val (.ref n), .val (.int k)] [(.int (dc + k)), (.ref n)])) _
    refine st85 _ ?_
    show Steps p.tables e below (T85.setTop (mkF m 64 #[.val (.ref n), .val (.int k)] [])) _
    refine st92 _ ?_
    show Steps p.tables e below (T92.setTop (mkF m 67 #[.val (.ref n), .val (.int k)] [(.ref em)])) _
    jvm_step X92.here [X92.here.top, hx, (hb hby d3_67), X92.method', Bd.returns, Value.isRef, FieldType.isReference]
    first | (intro acts; rw [hr _ acts rfl rfl rfl]) | rw [hr _ _ rfl rfl rfl]
    exact Steps.refl _
  · show QE1 Z n ar em dc k f h0 n0 _ T92.heap _
    rw [e92]
    exact ⟨rfl, N92, K85, zE89, zF86, zF87, zF88, zA91⟩
set_option maxRecDepth 65536 in
set_option maxHeartbeats 40000000 in
theorem rex1 (l : Launch) (Z : State) (a0 : Array Value) (hw : ∀ d ∈ tables_1, d.before a0 Z = true) (ws : List Jvm.Cond) (n ar em : Addr) (dc k : Int32) (f : Nat → Int32) (h0 : Heap) (n0 : Nat) (Z0 : n0 ≤ h0.size) (En : Exa Z h0 n "com/example/caddis/caddis/XmlNesting") (F1 : Fld Z h0 n "com/example/caddis/caddis/XmlNesting" "declared" "[I" (.ref ar)) (F2 : Fld Z h0 n "com/example/caddis/caddis/XmlNesting" "depth" "I" (.int (1 : Int32))) (F3 : Fld Z h0 n "com/example/caddis/caddis/XmlNesting" "declarations" "I" (.int dc)) (Va : IA Z h0 ar 1000 f) (gn : n0 ≤ n) (ga : n0 ≤ ar) (na : n ≠ ar) (S : Sta Z h0 "java/util/Optional" "EMPTY" "Ljava/util/Optional;" (.ref em)) (hc25 : (1000 : Int32) < (dc + k)) :
    MetFree l (⟨"com/example/caddis/caddis/XmlNesting", "enter", "(I)Ljava/util/Optional;"⟩ : MethodName) (head1 (Jvm.Cond.code (⟨"com/example/caddis/caddis/XmlNesting", "enter", "(I)Ljava/util/Optional;"⟩ : MethodName) prog_17_method_2_code 2 (some (.object "java/util/Optional")) :: ws) ({ frames := 3, cells := 3, slots := 253, locals := 48 } : Room)) (fun zA zU => zA = #[(.ref n), (.int k)] ∧ Z.Warmed39 zU.vm ∧ zU.heap = h0) (fun _ _ _ _ _ => True) (fun _ zU zO zW => ∃ zV zL, zO = .returned zV ∧ QF Z h0 n0 zV zW.heap zL ∧ ReturnedEndW zU zO zW zL ({ frames := 3, cells := 3, slots := 253, locals := 48 } : Room).cells ({ frames := 3, cells := 3, slots := 253, locals := 48 } : Room).slots) := by
  refine MetFree.of_bodySF (plainFor_of_name pn_XmlNesting) hisR ?_
  intro p e s m args below meth c s₁ Bd hml0 hP hK
  obtain ⟨rfl, hZ, hh⟩ := hP
  have hx := Bd.exec
  have hby := Bd.bytes
  have hml : c.maxLocals = 2 := hml0
  have hown : s.vm.findClass "com/example/caddis/caddis/XmlNesting" = some m.cls := findClass_of_methodNamed Bd.named
  have hnm := (name_of_methodNamed Bd.named Bd.method).1
  have X0 : Stand p l e ({ frames := 3, cells := 3, slots := 253, locals := 48 } : Room) s m #[(.ref n), (.int k)] below meth c s₁ [] 0 0 := Stand.of_body Bd
  have e0 : s₁.heap = h0 := by rw [← hh, Bd.state]; rfl
  have N0 := Fr.nil n0
  have pre0 : ∀ zt, Steps p.tables e below (s₁.setTop (mkF m 0 #[.val (.ref n), .val (.int k)] [])) zt → Steps p.tables e below (s₁.setTop (entryFrame m #[(.ref n), (.int k)] 2)) zt := fun zt zk => castTop (ef_3_RI m n k) zk
  obtain ⟨T93, X93, e93, st93⟩ := getF X0 hx hZ hown (host := "") (Or.inl (hw _ (List.mem_of_getElem? (i := 18) rfl))) Via.refl e0 F2 (g := (mkF m 1 #[.val (.ref n), .val (.int k)] [(.ref n)])) rfl rfl (hb hby d3_1)
  obtain ⟨T94, X94, e94, st94⟩ := getF X93 hx hZ hown (host := "") (Or.inl (hw _ (List.mem_of_getElem? (i := 20) rfl))) Via.refl e93 F3 (g := (mkF m 17 #[.val (.ref n), .val (.int k)] [(.ref n)])) rfl rfl (hb hby d3_17)
  obtain ⟨a95, T95, h95, k95, X95, e95, E95, hS95, hk95, hZ95, hown95, st95⟩ := ldcS (s := s) (vm0 := s.vm) X94 hx hZ hown (hw _ (List.mem_of_getElem? (i := 39) rfl)) (strs hw) e94 ((State.WarmedH.refl s).since h0.size) (Nat.le_refl _) (g := (mkF m 28 #[.val (.ref n), .val (.int k)] [])) rfl (hb hby d3_28) (n := 244) (by decide +kernel) (by decide) (by decide) (by decide)
  have zF96 := F1.ext E95
  have zF97 := F2.ext E95
  have zF98 := F3.ext E95
  have zE99 := En.ext E95
  have zA100 := Va.ext E95
  have Z95 := Nat.le_trans Z0 E95.1
  have K95 := (Keep.refl h0 []).ext E95
  obtain ⟨_, _, ⟨T101, L101, k101, n101⟩, -, X101, ⟨Lc101, hQ101, l101, y101, z101⟩, st101⟩ := Jvm.LawKit.callS X95 hx (y := (⟨"java/util/Optional", "of", "(Ljava/lang/Object;)Ljava/util/Optional;"⟩ : MethodName)) hown95 (mvT hZ95 (hw _ (List.mem_of_getElem? (i := 47) rfl))) (mvT hZ95 (hw _ (List.mem_of_getElem? (i := 48) rfl))) (mvT hZ95 (hw _ (List.mem_of_getElem? (i := 24) rfl))) (mvT hZ95 (hw _ (List.mem_of_getElem? (i := 49) rfl))) (by decide) (backOf (W := 0) (rof l Z a0 hw [] a95 h95 n0 Z95) hZ95 (hw _ (List.mem_of_getElem? (i := 49) rfl)) (hw _ (List.mem_of_getElem? (i := 24) rfl)) (by decide) (by decide)) (g := (mkF m 30 #[.val (.ref n), .val (.int k)] [(.ref a95)])) rfl (by rw [hml]; rfl) (argsL := [(.ref a95)]) (rest := []) (lenOf pd_3 rfl) rfl (by show 2 * 0 + _ ≤ _; exact Nat.le_of_eq rfl) (hb hby d3_30) (fun _ _ => ⟨rfl, e95, (by decide : 2 + 1 ≤ _), (by decide : 248 + 1 ≤ _)⟩)
  dsimp only [Pt.U, Pt.locs, Pt.cells, Pt.slots] at X101 l101 y101 z101 st101 hQ101
  subst l101 y101 z101
  obtain ⟨o101, y101, rfl, Nq101, Kq101, go101, G101_1, G101_2⟩ := hQ101
  have N101 := Fr.app N0 Nq101
  have zF102 := zF96.keep Kq101 nin0
  have zF103 := zF97.keep Kq101 nin0
  have zF104 := zF98.keep Kq101 nin0
  have zE105 := zE99.keep Kq101
  have zA106 := zA100.keep Kq101 nin0
  have Z101 := Nat.le_trans Z95 Kq101.1
  have K101 := K95.trans Kq101 all0
  have sl101 := Nat.le_trans hk95 Kq101.1
  obtain ⟨fs, hr, hrun, hended, hend⟩ := X101.leaveW hS95 sl101 (v := some (.ref o101)) (fun h => by rw [Bd.returns] at h; cases h)
  refine ⟨_, _, pre0 _ ?_, hrun, hended, _, _, rfl, ?_, hend.1, hend.2.1, hend.2.2.1, hend.2.2.2.mono (by decide) (by decide)⟩
  · show Steps p.tables e below (s₁.setTop (mkF m 0 #[.val (.ref n), .val (.int k)] [])) _
    refine XS.aloadN X0.here hx rfl (hb hby d3_0) rfl rfl ?_
    show Steps p.tables e below (s₁.setTop (mkF m 1 #[.val (.ref n), .val (.int k)] [(.ref n)])) _
    refine st93 _ ?_
    show Steps p.tables e below (T93.setTop (mkF m 4 #[.val (.ref n), .val (.int k)] [(.int (1 : Int32))])) _
    refine XS.sipush X93.here hx rfl (hb hby d3_4) ?_
    show Steps p.tables e below (T93.setTop (mkF m 7 #[.val (.ref n), .val (.int k)] [(.int (1000 : Int32)), (.int (1 : Int32))])) _
    refine XS.icmpYes X93.here hx rfl (pc0 := 7) (pc' := 16) rfl (hb hby d3_7) rfl (feq (by decide)).2 (by decide) (by decide) ?_
    show Steps p.tables e below (T93.setTop (mkF m 16 #[.val (.ref n), .val (.int k)] [])) _
    refine XS.aloadN X93.here hx rfl (hb hby d3_16) rfl rfl ?_
    show Steps p.tables e below (T93.setTop (mkF m 17 #[.val (.ref n), .val (.int k)] [(.ref n)])) _
    refine st94 _ ?_
    show Steps p.tables e below (T94.setTop (mkF m 20 #[.val (.ref n), .val (.int k)] [(.int dc)])) _
    refine XS.iloadN X94.here hx rfl (hb hby d3_20) rfl ?_
    show Steps p.tables e below (T94.setTop (mkF m 21 #[.val (.ref n), .val (.int k)] [(.int k), (.int dc)])) _
    refine XS.iadd X94.here hx rfl (hb hby d3_21) rfl ?_
    show Steps p.tables e below (T94.setTop (mkF m 22 #[.val (.ref n), .val (.int k)] [(.int (dc + k))])) _
    refine XS.sipush X94.here hx rfl (hb hby d3_22) ?_
    show Steps p.tables e below (T94.setTop (mkF m 25 #[.val (.ref n), .val (.int k)] [(.int (1000 : Int32)), (.int (dc + k))])) _
    refine XS.icmpNo X94.here hx rfl (hb hby d3_25) rfl (tlt hc25).2.2.2 ?_
    show Steps p.tables e below (T94.setTop (mkF m 28 #[.val (.ref n), .val (.int k)] [])) _
    refine st95 _ ?_
    show Steps p.tables e below (T95.setTop (mkF m 30 #[.val (.ref n), .val (.int k)] [(.ref a95)])) _
    refine st101 _ ?_
    show Steps p.tables e below (T101.setTop (mkF m 33 #[.val (.ref n), .val (.int k)] [(.ref o101)])) _
    jvm_step X101.here [X101.here.top, hx, (hb hby d3_33), X101.method', Bd.returns, Value.isRef, FieldType.isReference]
    first | (intro acts; rw [hr _ acts rfl rfl rfl]) | rw [hr _ _ rfl rfl rfl]
    exact Steps.refl _
  · show QF Z h0 n0 _ T101.heap _
    exact ⟨o101, y101, rfl, N101, K101, go101, G101_1, G101_2⟩
def QL2 (Z : State) (n ar : Addr) (dc k : Int32) (f : Nat → Int32) (h0 : Heap) (n0 : Nat) (v : Option Value) (h : Heap) (L : List Loc) : Prop := v = none ∧ Fr n0 L ∧ Keep h0 h [n] ∧ Exa Z h n "com/example/caddis/caddis/XmlNesting" ∧ Fld Z h n "com/example/caddis/caddis/XmlNesting" "declared" "[I" (.ref ar) ∧ Fld Z h n "com/example/caddis/caddis/XmlNesting" "depth" "I" (.int (1 : Int32)) ∧ Fld Z h n "com/example/caddis/caddis/XmlNesting" "declarations" "I" (.int (dc - k))
theorem d6_0 : decode prog_17_method_3_code 0 = .ok (.aload_n 0, 1) := by decide +kernel
theorem d6_1 : decode prog_17_method_3_code 1 = .ok (.dup, 1) := by decide +kernel
theorem d6_2 : decode prog_17_method_3_code 2 = .ok (.getfield 13, 3) := by decide +kernel
theorem d6_5 : decode prog_17_method_3_code 5 = .ok (.iconst 1, 1) := by decide +kernel
theorem d6_6 : decode prog_17_method_3_code 6 = .ok (.isub, 1) := by decide +kernel
theorem d6_7 : decode prog_17_method_3_code 7 = .ok (.putfield 13, 3) := by decide +kernel
theorem d6_10 : decode prog_17_method_3_code 10 = .ok (.aload_n 0, 1) := by decide +kernel
theorem d6_11 : decode prog_17_method_3_code 11 = .ok (.dup, 1) := by decide +kernel
theorem d6_12 : decode prog_17_method_3_code 12 = .ok (.getfield 25, 3) := by decide +kernel
theorem d6_15 : decode prog_17_method_3_code 15 = .ok (.aload_n 0, 1) := by decide +kernel
theorem d6_16 : decode prog_17_method_3_code 16 = .ok (.getfield 9, 3) := by decide +kernel
theorem d6_19 : decode prog_17_method_3_code 19 = .ok (.aload_n 0, 1) := by decide +kernel
theorem d6_20 : decode prog_17_method_3_code 20 = .ok (.getfield 13, 3) := by decide +kernel
theorem d6_23 : decode prog_17_method_3_code 23 = .ok (.iaload, 1) := by decide +kernel
theorem d6_24 : decode prog_17_method_3_code 24 = .ok (.isub, 1) := by decide +kernel
theorem d6_25 : decode prog_17_method_3_code 25 = .ok (.putfield 25, 3) := by decide +kernel
theorem d6_28 : decode prog_17_method_3_code 28 = .ok (.return_, 1) := by decide +kernel
theorem ef_6_R (m : MethodId) (x0 : Addr) : entryFrame m #[(.ref x0)] 1 = mkF m 0 #[.val (.ref x0)] [] := by first | (simp [entryFrame, mkF, argsToLocals, Value.category]; done) | rfl
set_option maxRecDepth 65536 in
set_option maxHeartbeats 40000000 in
theorem rlv2 (l : Launch) (Z : State) (a0 : Array Value) (hw : ∀ d ∈ tables_1, d.before a0 Z = true) (ws : List Jvm.Cond) (n ar : Addr) (dc k : Int32) (f : Nat → Int32) (h0 : Heap) (n0 : Nat) (Z0 : n0 ≤ h0.size) (En : Exa Z h0 n "com/example/caddis/caddis/XmlNesting") (F1 : Fld Z h0 n "com/example/caddis/caddis/XmlNesting" "declared" "[I" (.ref ar)) (F2 : Fld Z h0 n "com/example/caddis/caddis/XmlNesting" "depth" "I" (.int (2 : Int32))) (F3 : Fld Z h0 n "com/example/caddis/caddis/XmlNesting" "declarations" "I" (.int dc)) (Va : IA Z h0 ar 1000 f) (gn : n0 ≤ n) (na : n ≠ ar) (hk : f 1 = k) :
    MetFree l (⟨"com/example/caddis/caddis/XmlNesting", "leave", "()V"⟩ : MethodName) (head1 (Jvm.Cond.code (⟨"com/example/caddis/caddis/XmlNesting", "leave", "()V"⟩ : MethodName) prog_17_method_3_code 1 none :: ws) ({ frames := 0, cells := 0, slots := 0, locals := 0 } : Room)) (fun zA zU => zA = #[(.ref n)] ∧ Z.Warmed39 zU.vm ∧ zU.heap = h0) (fun _ _ _ _ _ => True) (fun _ zU zO zW => ∃ zV zL, zO = .returned zV ∧ QL2 Z n ar dc k f h0 n0 zV zW.heap zL ∧ FrameEnd zU zO zW zL ({ frames := 0, cells := 0, slots := 0, locals := 0 } : Room).cells ({ frames := 0, cells := 0, slots := 0, locals := 0 } : Room).slots) := by
  refine MetFree.of_bodySF (plainFor_of_name pn_XmlNesting) hisR ?_
  intro p e s m args below meth c s₁ Bd hml0 hP hK
  obtain ⟨rfl, hZ, hh⟩ := hP
  have hx := Bd.exec
  have hby := Bd.bytes
  have hml : c.maxLocals = 1 := hml0
  have hown : s.vm.findClass "com/example/caddis/caddis/XmlNesting" = some m.cls := findClass_of_methodNamed Bd.named
  have hnm := (name_of_methodNamed Bd.named Bd.method).1
  have X0 : Stand p l e ({ frames := 0, cells := 0, slots := 0, locals := 0 } : Room) s m #[(.ref n)] below meth c s₁ [] 0 0 := Stand.of_body Bd
  have e0 : s₁.heap = h0 := by rw [← hh, Bd.state]; rfl
  have N0 := Fr.nil n0
  have pre0 : ∀ zt, Steps p.tables e below (s₁.setTop (mkF m 0 #[.val (.ref n)] [])) zt → Steps p.tables e below (s₁.setTop (entryFrame m #[(.ref n)] 1)) zt := fun zt zk => castTop (ef_6_R m n) zk
  obtain ⟨T107, X107, e107, st107⟩ := getF X0 hx hZ hown (host := "") (Or.inl (hw _ (List.mem_of_getElem? (i := 18) rfl))) Via.refl e0 F2 (g := (mkF m 2 #[.val (.ref n)] [(.ref n), (.ref n)])) rfl rfl (hb hby d6_2)
  obtain ⟨T108, h108, X108, e108, W108, st108⟩ := putF X107 hx hZ hown (host := "") (Or.inl (hw _ (List.mem_of_getElem? (i := 18) rfl))) Via.refl e107 F2 En (Or.inl (hw _ (List.mem_of_getElem? (i := 19) rfl))) (hw _ (List.mem_of_getElem? (i := 2) rfl)) (ty := .int) (by decide) rfl rfl (g := (mkF m 7 #[.val (.ref n)] [(.int (1 : Int32)), (.ref n)])) rfl rfl (hb hby d6_7)
  have N108 := Fr.snoc X108 N0 gn
  have zF109 := F1.other W108 (Or.inr (slot_ne (Or.inr (hw _ (List.mem_of_getElem? (i := 12) rfl))) (Or.inl (hw _ (List.mem_of_getElem? (i := 19) rfl))) (by decide) (t := (.array .int)) (t' := .int) (by decide) (by decide)))
  have zF110 := F2.same W108
  have zF111 := F3.other W108 (Or.inr (slot_ne (Or.inl (hw _ (List.mem_of_getElem? (i := 21) rfl))) (Or.inl (hw _ (List.mem_of_getElem? (i := 19) rfl))) (by decide) (t := .int) (t' := .int) (by decide) (by decide)))
  have zE112 := En.wr W108
  have zA113 := Va.other W108 (Ne.symm na)
  have Z108 := Nat.le_trans Z0 (Keep.of_wr W108).1
  have K108 := (Keep.refl h0 [n]).wr W108 (Or.inl (List.mem_of_getElem? (i := 0) rfl))
  obtain ⟨T114, X114, e114, st114⟩ := getF X108 hx hZ hown (host := "") (Or.inl (hw _ (List.mem_of_getElem? (i := 20) rfl))) Via.refl e108 zF111 (g := (mkF m 12 #[.val (.ref n)] [(.ref n), (.ref n)])) rfl rfl (hb hby d6_12)
  obtain ⟨T115, X115, e115, st115⟩ := getF X114 hx hZ hown (host := "") (Or.inl (hw _ (List.mem_of_getElem? (i := 11) rfl))) Via.refl e114 zF109 (g := (mkF m 16 #[.val (.ref n)] [(.ref n), (.int dc), (.ref n)])) rfl rfl (hb hby d6_16)
  obtain ⟨T116, X116, e116, st116⟩ := getF X115 hx hZ hown (host := "") (Or.inl (hw _ (List.mem_of_getElem? (i := 18) rfl))) Via.refl e115 zF110 (g := (mkF m 20 #[.val (.ref n)] [(.ref n), (.ref ar), (.int dc), (.ref n)])) rfl rfl (hb hby d6_20)
  obtain ⟨cl117, Ar117, Sz117, Hz117⟩ := id zA113
  have hin117 := IA.inb (j := (1 : Int32)) (i := 1) Sz117 (by decide) (by decide) (by decide)
  have hat117 := IA.at (j := (1 : Int32)) (x := k) Hz117 (by decide) (by decide) hk
  obtain ⟨T118, h118, X118, e118, W118, st118⟩ := putF X116 hx hZ hown (host := "") (Or.inl (hw _ (List.mem_of_getElem? (i := 20) rfl))) Via.refl e116 zF111 zE112 (Or.inl (hw _ (List.mem_of_getElem? (i := 21) rfl))) (hw _ (List.mem_of_getElem? (i := 2) rfl)) (ty := .int) (by decide) rfl rfl (g := (mkF m 25 #[.val (.ref n)] [(.int (dc - k)), (.ref n)])) rfl rfl (hb hby d6_25)
  have N118 := Fr.snoc X118 N108 gn
  have zF119 := zF109.other W118 (Or.inr (slot_ne (Or.inr (hw _ (List.mem_of_getElem? (i := 12) rfl))) (Or.inl (hw _ (List.mem_of_getElem? (i := 21) rfl))) (by decide) (t := (.array .int)) (t' := .int) (by decide) (by decide)))
  have zF120 := zF110.other W118 (Or.inr (slot_ne (Or.inl (hw _ (List.mem_of_getElem? (i := 19) rfl))) (Or.inl (hw _ (List.mem_of_getElem? (i := 21) rfl))) (by decide) (t := .int) (t' := .int) (by decide) (by decide)))
  have zF121 := zF111.same W118
  have zE122 := zE112.wr W118
  have zA123 := zA113.other W118 (Ne.symm na)
  have Z118 := Nat.le_trans Z108 (Keep.of_wr W118).1
  have K118 := K108.wr W118 (Or.inl (List.mem_of_getElem? (i := 0) rfl))
  obtain ⟨fs, hr, hrun, hended, hW, hsame⟩ := X118.leave (v := none) (fun _ => rfl)
  refine ⟨_, _, pre0 _ ?_, hrun, hended, _, _, rfl, ?_, ⟨_, rfl⟩, hW, hsame.mono (by decide) (by decide)⟩
  · show Steps p.tables e below (s₁.setTop (mkF m 0 #[.val (.ref n)] [])) _
    refine XS.aloadN X0.here hx rfl (hb hby d6_0) rfl rfl ?_
    show Steps p.tables e below (s₁.setTop (mkF m 1 #[.val (.ref n)] [(.ref n)])) _
    refine XS.dup X0.here hx rfl (hb hby d6_1) rfl rfl ?_
    show Steps p.tables e below (s₁.setTop (mkF m 2 #[.val (.ref n)] [(.ref n), (.ref n)])) _
    refine st107 _ ?_
    show Steps p.tables e below (T107.setTop (mkF m 5 #[.val (.ref n)] [(.int (2 : Int32)), (.ref n)])) _
    refine XS.iconst X107.here hx rfl (hb hby d6_5) ?_
    show Steps p.tables e below (T107.setTop (mkF m 6 #[.val (.ref n)] [(.int (1 : Int32)), (.int (2 : Int32)), (.ref n)])) _
    refine XS.isub X107.here hx rfl (hb hby d6_6) rfl ?_
    show Steps p.tables e below (T107.setTop (mkF m 7 #[.val (.ref n)] [(.int (1 : Int32)), (.ref n)])) _
    refine st108 _ ?_
    show Steps p.tables e below (T108.setTop (mkF m 10 #[.val (.ref n)] [])) _
    refine XS.aloadN X108.here hx rfl (hb hby d6_10) rfl rfl ?_
    show Steps p.tables e below (T108.setTop (mkF m 11 #[.val (.ref n)] [(.ref n)])) _
    refine XS.dup X108.here hx rfl (hb hby d6_11) rfl rfl ?_
    show Steps p.tables e below (T108.setTop (mkF m 12 #[.val (.ref n)] [(.ref n), (.ref n)])) _
    refine st114 _ ?_
    show Steps p.tables e below (T114.setTop (mkF m 15 #[.val (.ref n)] [(.int dc), (.ref n)])) _
    refine XS.aloadN X114.here hx rfl (hb hby d6_15) rfl rfl ?_
    show Steps p.tables e below (T114.setTop (mkF m 16 #[.val (.ref n)] [(.ref n), (.int dc), (.ref n)])) _
    refine st115 _ ?_
    show Steps p.tables e below (T115.setTop (mkF m 19 #[.val (.ref n)] [(.ref ar), (.int dc), (.ref n)])) _
    refine XS.aloadN X115.here hx rfl (hb hby d6_19) rfl rfl ?_
    show Steps p.tables e below (T115.setTop (mkF m 20 #[.val (.ref n)] [(.ref n), (.ref ar), (.int dc), (.ref n)])) _
    refine st116 _ ?_
    show Steps p.tables e below (T116.setTop (mkF m 23 #[.val (.ref n)] [(.int (1 : Int32)), (.ref ar), (.int dc), (.ref n)])) _
    refine X116.iaload hx (j := (1 : Int32)) (v := (.int k)) (by rw [e116]; exact Ar117.1) (State.isArrayOf_alike hZ.alike Ar117.2.1) Ar117.2.2 hin117 hat117 (g := (mkF m 23 #[.val (.ref n)] [(.int (1 : Int32)), (.ref ar), (.int dc), (.ref n)])) rfl rfl (hb hby d6_23) _ ?_
    show Steps p.tables e below (T116.setTop (mkF m 24 #[.val (.ref n)] [(.int k), (.int dc), (.ref n)])) _
    refine XS.isub X116.here hx rfl (hb hby d6_24) rfl ?_
    show Steps p.tables e below (T116.setTop (mkF m 25 #[.val (.ref n)] [(.int (dc - k)), (.ref n)])) _
    refine st118 _ ?_
    show Steps p.tables e below (T118.setTop (mkF m 28 #[.val (.ref n)] [])) _
    exact X118.returnOut hx Bd.returns (hb hby d6_28) hr
  · show QL2 Z n ar dc k f h0 n0 _ T118.heap _
    rw [e118]
    exact ⟨rfl, N118, K118, zE122, zF119, zF120, zF121⟩
def QL1 (Z : State) (n ar : Addr) (dc k : Int32) (f : Nat → Int32) (h0 : Heap) (n0 : Nat) (v : Option Value) (h : Heap) (L : List Loc) : Prop := v = none ∧ Fr n0 L ∧ Keep h0 h [n] ∧ Exa Z h n "com/example/caddis/caddis/XmlNesting" ∧ Fld Z h n "com/example/caddis/caddis/XmlNesting" "declared" "[I" (.ref ar) ∧ Fld Z h n "com/example/caddis/caddis/XmlNesting" "depth" "I" (.int (0 : Int32)) ∧ Fld Z h n "com/example/caddis/caddis/XmlNesting" "declarations" "I" (.int (dc - k))
set_option maxRecDepth 65536 in
set_option maxHeartbeats 40000000 in
theorem rlv1 (l : Launch) (Z : State) (a0 : Array Value) (hw : ∀ d ∈ tables_1, d.before a0 Z = true) (ws : List Jvm.Cond) (n ar : Addr) (dc k : Int32) (f : Nat → Int32) (h0 : Heap) (n0 : Nat) (Z0 : n0 ≤ h0.size) (En : Exa Z h0 n "com/example/caddis/caddis/XmlNesting") (F1 : Fld Z h0 n "com/example/caddis/caddis/XmlNesting" "declared" "[I" (.ref ar)) (F2 : Fld Z h0 n "com/example/caddis/caddis/XmlNesting" "depth" "I" (.int (1 : Int32))) (F3 : Fld Z h0 n "com/example/caddis/caddis/XmlNesting" "declarations" "I" (.int dc)) (Va : IA Z h0 ar 1000 f) (gn : n0 ≤ n) (na : n ≠ ar) (hk : f 0 = k) :
    MetFree l (⟨"com/example/caddis/caddis/XmlNesting", "leave", "()V"⟩ : MethodName) (head1 (Jvm.Cond.code (⟨"com/example/caddis/caddis/XmlNesting", "leave", "()V"⟩ : MethodName) prog_17_method_3_code 1 none :: ws) ({ frames := 0, cells := 0, slots := 0, locals := 0 } : Room)) (fun zA zU => zA = #[(.ref n)] ∧ Z.Warmed39 zU.vm ∧ zU.heap = h0) (fun _ _ _ _ _ => True) (fun _ zU zO zW => ∃ zV zL, zO = .returned zV ∧ QL1 Z n ar dc k f h0 n0 zV zW.heap zL ∧ FrameEnd zU zO zW zL ({ frames := 0, cells := 0, slots := 0, locals := 0 } : Room).cells ({ frames := 0, cells := 0, slots := 0, locals := 0 } : Room).slots) := by
  refine MetFree.of_bodySF (plainFor_of_name pn_XmlNesting) hisR ?_
  intro p e s m args below meth c s₁ Bd hml0 hP hK
  obtain ⟨rfl, hZ, hh⟩ := hP
  have hx := Bd.exec
  have hby := Bd.bytes
  have hml : c.maxLocals = 1 := hml0
  have hown : s.vm.findClass "com/example/caddis/caddis/XmlNesting" = some m.cls := findClass_of_methodNamed Bd.named
  have hnm := (name_of_methodNamed Bd.named Bd.method).1
  have X0 : Stand p l e ({ frames := 0, cells := 0, slots := 0, locals := 0 } : Room) s m #[(.ref n)] below meth c s₁ [] 0 0 := Stand.of_body Bd
  have e0 : s₁.heap = h0 := by rw [← hh, Bd.state]; rfl
  have N0 := Fr.nil n0
  have pre0 : ∀ zt, Steps p.tables e below (s₁.setTop (mkF m 0 #[.val (.ref n)] [])) zt → Steps p.tables e below (s₁.setTop (entryFrame m #[(.ref n)] 1)) zt := fun zt zk => castTop (ef_6_R m n) zk
  obtain ⟨T124, X124, e124, st124⟩ := getF X0 hx hZ hown (host := "") (Or.inl (hw _ (List.mem_of_getElem? (i := 18) rfl))) Via.refl e0 F2 (g := (mkF m 2 #[.val (.ref n)] [(.ref n), (.ref n)])) rfl rfl (hb hby d6_2)
  obtain ⟨T125, h125, X125, e125, W125, st125⟩ := putF X124 hx hZ hown (host := "") (Or.inl (hw _ (List.mem_of_getElem? (i := 18) rfl))) Via.refl e124 F2 En (Or.inl (hw _ (List.mem_of_getElem? (i := 19) rfl))) (hw _ (List.mem_of_getElem? (i := 2) rfl)) (ty := .int) (by decide) rfl rfl (g := (mkF m 7 #[.val (.ref n)] [(.int (0 : Int32)), (.ref n)])) rfl rfl (hb hby d6_7)
  have N125 := Fr.snoc X125 N0 gn
  have zF126 := F1.other W125 (Or.inr (slot_ne (Or.inr (hw _ (List.mem_of_getElem? (i := 12) rfl))) (Or.inl (hw _ (List.mem_of_getElem? (i := 19) rfl))) (by decide) (t := (.array .int)) (t' := .int) (by decide) (by decide)))
  have zF127 := F2.same W125
  have zF128 := F3.other W125 (Or.inr (slot_ne (Or.inl (hw _ (List.mem_of_getElem? (i := 21) rfl))) (Or.inl (hw _ (List.mem_of_getElem? (i := 19) rfl))) (by decide) (t := .int) (t' := .int) (by decide) (by decide)))
  have zE129 := En.wr W125
  have zA130 := Va.other W125 (Ne.symm na)
  have Z125 := Nat.le_trans Z0 (Keep.of_wr W125).1
  have K125 := (Keep.refl h0 [n]).wr W125 (Or.inl (List.mem_of_getElem? (i := 0) rfl))
  obtain ⟨T131, X131, e131, st131⟩ := getF X125 hx hZ hown (host := "") (Or.inl (hw _ (List.mem_of_getElem? (i := 20) rfl))) Via.refl e125 zF128 (g := (mkF m 12 #[.val (.ref n)] [(.ref n), (.ref n)])) rfl rfl (hb hby d6_12)
  obtain ⟨T132, X132, e132, st132⟩ := getF X131 hx hZ hown (host := "") (Or.inl (hw _ (List.mem_of_getElem? (i := 11) rfl))) Via.refl e131 zF126 (g := (mkF m 16 #[.val (.ref n)] [(.ref n), (.int dc), (.ref n)])) rfl rfl (hb hby d6_16)
  obtain ⟨T133, X133, e133, st133⟩ := getF X132 hx hZ hown (host := "") (Or.inl (hw _ (List.mem_of_getElem? (i := 18) rfl))) Via.refl e132 zF127 (g := (mkF m 20 #[.val (.ref n)] [(.ref n), (.ref ar), (.int dc), (.ref n)])) rfl rfl (hb hby d6_20)
  obtain ⟨cl134, Ar134, Sz134, Hz134⟩ := id zA130
  have hin134 := IA.inb (j := (0 : Int32)) (i := 0) Sz134 (by decide) (by decide) (by decide)
  have hat134 := IA.at (j := (0 : Int32)) (x := k) Hz134 (by decide) (by decide) hk
  obtain ⟨T135, h135, X135, e135, W135, st135⟩ := putF X133 hx hZ hown (host := "") (Or.inl (hw _ (List.mem_of_getElem? (i := 20) rfl))) Via.refl e133 zF128 zE129 (Or.inl (hw _ (List.mem_of_getElem? (i := 21) rfl))) (hw _ (List.mem_of_getElem? (i := 2) rfl)) (ty := .int) (by decide) rfl rfl (g := (mkF m 25 #[.val (.ref n)] [(.int (dc - k)), (.ref n)])) rfl rfl (hb hby d6_25)
  have N135 := Fr.snoc X135 N125 gn
  have zF136 := zF126.other W135 (Or.inr (slot_ne (Or.inr (hw _ (List.mem_of_getElem? (i := 12) rfl))) (Or.inl (hw _ (List.mem_of_getElem? (i := 21) rfl))) (by decide) (t := (.array .int)) (t' := .int) (by decide) (by decide)))
  have zF137 := zF127.other W135 (Or.inr (slot_ne (Or.inl (hw _ (List.mem_of_getElem? (i := 19) rfl))) (Or.inl (hw _ (List.mem_of_getElem? (i := 21) rfl))) (by decide) (t := .int) (t' := .int) (by decide) (by decide)))
  have zF138 := zF128.same W135
  have zE139 := zE129.wr W135
  have zA140 := zA130.other W135 (Ne.symm na)
  have Z135 := Nat.le_trans Z125 (Keep.of_wr W135).1
  have K135 := K125.wr W135 (Or.inl (List.mem_of_getElem? (i := 0) rfl))
  obtain ⟨fs, hr, hrun, hended, hW, hsame⟩ := X135.leave (v := none) (fun _ => rfl)
  refine ⟨_, _, pre0 _ ?_, hrun, hended, _, _, rfl, ?_, ⟨_, rfl⟩, hW, hsame.mono (by decide) (by decide)⟩
  · show Steps p.tables e below (s₁.setTop (mkF m 0 #[.val (.ref n)] [])) _
    refine XS.aloadN X0.here hx rfl (hb hby d6_0) rfl rfl ?_
    show Steps p.tables e below (s₁.setTop (mkF m 1 #[.val (.ref n)] [(.ref n)])) _
    refine XS.dup X0.here hx rfl (hb hby d6_1) rfl rfl ?_
    show Steps p.tables e below (s₁.setTop (mkF m 2 #[.val (.ref n)] [(.ref n), (.ref n)])) _
    refine st124 _ ?_
    show Steps p.tables e below (T124.setTop (mkF m 5 #[.val (.ref n)] [(.int (1 : Int32)), (.ref n)])) _
    refine XS.iconst X124.here hx rfl (hb hby d6_5) ?_
    show Steps p.tables e below (T124.setTop (mkF m 6 #[.val (.ref n)] [(.int (1 : Int32)), (.int (1 : Int32)), (.ref n)])) _
    refine XS.isub X124.here hx rfl (hb hby d6_6) rfl ?_
    show Steps p.tables e below (T124.setTop (mkF m 7 #[.val (.ref n)] [(.int (0 : Int32)), (.ref n)])) _
    refine st125 _ ?_
    show Steps p.tables e below (T125.setTop (mkF m 10 #[.val (.ref n)] [])) _
    refine XS.aloadN X125.here hx rfl (hb hby d6_10) rfl rfl ?_
    show Steps p.tables e below (T125.setTop (mkF m 11 #[.val (.ref n)] [(.ref n)])) _
    refine XS.dup X125.here hx rfl (hb hby d6_11) rfl rfl ?_
    show Steps p.tables e below (T125.setTop (mkF m 12 #[.val (.ref n)] [(.ref n), (.ref n)])) _
    refine st131 _ ?_
    show Steps p.tables e below (T131.setTop (mkF m 15 #[.val (.ref n)] [(.int dc), (.ref n)])) _
    refine XS.aloadN X131.here hx rfl (hb hby d6_15) rfl rfl ?_
    show Steps p.tables e below (T131.setTop (mkF m 16 #[.val (.ref n)] [(.ref n), (.int dc), (.ref n)])) _
    refine st132 _ ?_
    show Steps p.tables e below (T132.setTop (mkF m 19 #[.val (.ref n)] [(.ref ar), (.int dc), (.ref n)])) _
    refine XS.aloadN X132.here hx rfl (hb hby d6_19) rfl rfl ?_
    show Steps p.tables e below (T132.setTop (mkF m 20 #[.val (.ref n)] [(.ref n), (.ref ar), (.int dc), (.ref n)])) _
    refine st133 _ ?_
    show Steps p.tables e below (T133.setTop (mkF m 23 #[.val (.ref n)] [(.int (0 : Int32)), (.ref ar), (.int dc), (.ref n)])) _
    refine X133.iaload hx (j := (0 : Int32)) (v := (.int k)) (by rw [e133]; exact Ar134.1) (State.isArrayOf_alike hZ.alike Ar134.2.1) Ar134.2.2 hin134 hat134 (g := (mkF m 23 #[.val (.ref n)] [(.int (0 : Int32)), (.ref ar), (.int dc), (.ref n)])) rfl rfl (hb hby d6_23) _ ?_
    show Steps p.tables e below (T133.setTop (mkF m 24 #[.val (.ref n)] [(.int k), (.int dc), (.ref n)])) _
    refine XS.isub X133.here hx rfl (hb hby d6_24) rfl ?_
    show Steps p.tables e below (T133.setTop (mkF m 25 #[.val (.ref n)] [(.int (dc - k)), (.ref n)])) _
    refine st135 _ ?_
    show Steps p.tables e below (T135.setTop (mkF m 28 #[.val (.ref n)] [])) _
    exact X135.returnOut hx Bd.returns (hb hby d6_28) hr
  · show QL1 Z n ar dc k f h0 n0 _ T135.heap _
    rw [e135]
    exact ⟨rfl, N135, K135, zE139, zF136, zF137, zF138⟩
set_option maxRecDepth 65536 in
set_option maxHeartbeats 40000000 in
theorem pA0 {p : Program} {l : Launch} {e : Env} {R : Room} {s : State} {m : MethodId} {args : Array Value} {below : List Frame} {meth : Method} {c : Code} {T0 : State} {locs : List Loc} {cells slots : Nat} {Z : State} {a0 : Array Value} (vp vq vr vs vt : Int32) (X0 : Stand p l e R s m args below meth c T0 locs cells slots) (hx : p.tables.exec = Jvm.exec) (hZ : Z.Warmed39 s.vm) (hw : ∀ d ∈ tables_1, d.before a0 Z = true) (hby : c.code = code) (hown : s.vm.findClass "com/example/caddis/caddis/XmlNestingLeavePinLaw" = some m.cls) (hnz : (1001 : Int32) - ((vp &&& (2147483647 : Int32)) % (1001 : Int32)) ≠ 0) :
    ∀ target, Steps p.tables e below (T0.setTop (mkF m 45 #[.val (.int vp), .val (.int vq), .val (.int vr), .val (.int vs), .val (.int vt), .val (.int ((vp &&& (2147483647 : Int32)) % (1001 : Int32))), .val (.int ((vq &&& (2147483647 : Int32)) % ((1001 : Int32) - ((vp &&& (2147483647 : Int32)) % (1001 : Int32))))), .val (.int (vr &&& (2047 : Int32))), .val (.int (vt &&& (2047 : Int32))), .val (.int (vs &&& (2047 : Int32))), .unset, .unset, .unset, .unset, .unset, .unset, .unset, .unset, .unset] [])) target → Steps p.tables e below (T0.setTop (mkF m 0 #[.val (.int vp), .val (.int vq), .val (.int vr), .val (.int vs), .val (.int vt), .unset, .unset, .unset, .unset, .unset, .unset, .unset, .unset, .unset, .unset, .unset, .unset, .unset, .unset] [])) target := by
  intro target kt
  show Steps p.tables e below (T0.setTop (mkF m 0 #[.val (.int vp), .val (.int vq), .val (.int vr), .val (.int vs), .val (.int vt), .unset, .unset, .unset, .unset, .unset, .unset, .unset, .unset, .unset, .unset, .unset, .unset, .unset, .unset] [])) _
  refine XS.iloadN X0.here hx rfl (hb hby at_0) rfl ?_
  show Steps p.tables e below (T0.setTop (mkF m 1 #[.val (.int vp), .val (.int vq), .val (.int vr), .val (.int vs), .val (.int vt), .unset, .unset, .unset, .unset, .unset, .unset, .unset, .unset, .unset, .unset, .unset, .unset, .unset, .unset] [(.int vp)])) _
  refine X0.ldcInt hx hown (mvT hZ (hw _ (List.mem_of_getElem? (i := 0) rfl))) (g := (mkF m 1 #[.val (.int vp), .val (.int vq), .val (.int vr), .val (.int vs), .val (.int vt), .unset, .unset, .unset, .unset, .unset, .unset, .unset, .unset, .unset, .unset, .unset, .unset, .unset, .unset] [(.int vp)])) rfl (hb hby at_1) _ ?_
  show Steps p.tables e below (T0.setTop (mkF m 3 #[.val (.int vp), .val (.int vq), .val (.int vr), .val (.int vs), .val (.int vt), .unset, .unset, .unset, .unset, .unset, .unset, .unset, .unset, .unset, .unset, .unset, .unset, .unset, .unset] [(.int (2147483647 : Int32)), (.int vp)])) _
  refine XS.iand X0.here hx rfl (hb hby at_3) rfl ?_
  show Steps p.tables e below (T0.setTop (mkF m 4 #[.val (.int vp), .val (.int vq), .val (.int vr), .val (.int vs), .val (.int vt), .unset, .unset, .unset, .unset, .unset, .unset, .unset, .unset, .unset, .unset, .unset, .unset, .unset, .unset] [(.int (vp &&& (2147483647 : Int32)))])) _
  refine XS.sipush X0.here hx rfl (hb hby at_4) ?_
  show Steps p.tables e below (T0.setTop (mkF m 7 #[.val (.int vp), .val (.int vq), .val (.int vr), .val (.int vs), .val (.int vt), .unset, .unset, .unset, .unset, .unset, .unset, .unset, .unset, .unset, .unset, .unset, .unset, .unset, .unset] [(.int (1001 : Int32)), (.int (vp &&& (2147483647 : Int32)))])) _
  refine iremM X0 hx rfl (hb hby at_7) rfl (by decide) ?_
  show Steps p.tables e below (T0.setTop (mkF m 8 #[.val (.int vp), .val (.int vq), .val (.int vr), .val (.int vs), .val (.int vt), .unset, .unset, .unset, .unset, .unset, .unset, .unset, .unset, .unset, .unset, .unset, .unset, .unset, .unset] [(.int ((vp &&& (2147483647 : Int32)) % (1001 : Int32)))])) _
  refine XS.istore X0.here hx rfl (hb hby at_8) rfl (l' := #[.val (.int vp), .val (.int vq), .val (.int vr), .val (.int vs), .val (.int vt), .val (.int ((vp &&& (2147483647 : Int32)) % (1001 : Int32))), .unset, .unset, .unset, .unset, .unset, .unset, .unset, .unset, .unset, .unset, .unset, .unset, .unset]) rfl ?_
  show Steps p.tables e below (T0.setTop (mkF m 10 #[.val (.int vp), .val (.int vq), .val (.int vr), .val (.int vs), .val (.int vt), .val (.int ((vp &&& (2147483647 : Int32)) % (1001 : Int32))), .unset, .unset, .unset, .unset, .unset, .unset, .unset, .unset, .unset, .unset, .unset, .unset, .unset] [])) _
  refine XS.iloadN X0.here hx rfl (hb hby at_10) rfl ?_
  show Steps p.tables e below (T0.setTop (mkF m 11 #[.val (.int vp), .val (.int vq), .val (.int vr), .val (.int vs), .val (.int vt), .val (.int ((vp &&& (2147483647 : Int32)) % (1001 : Int32))), .unset, .unset, .unset, .unset, .unset, .unset, .unset, .unset, .unset, .unset, .unset, .unset, .unset] [(.int vq)])) _
  refine X0.ldcInt hx hown (mvT hZ (hw _ (List.mem_of_getElem? (i := 0) rfl))) (g := (mkF m 11 #[.val (.int vp), .val (.int vq), .val (.int vr), .val (.int vs), .val (.int vt), .val (.int ((vp &&& (2147483647 : Int32)) % (1001 : Int32))), .unset, .unset, .unset, .unset, .unset, .unset, .unset, .unset, .unset, .unset, .unset, .unset, .unset] [(.int vq)])) rfl (hb hby at_11) _ ?_
  show Steps p.tables e below (T0.setTop (mkF m 13 #[.val (.int vp), .val (.int vq), .val (.int vr), .val (.int vs), .val (.int vt), .val (.int ((vp &&& (2147483647 : Int32)) % (1001 : Int32))), .unset, .unset, .unset, .unset, .unset, .unset, .unset, .unset, .unset, .unset, .unset, .unset, .unset] [(.int (2147483647 : Int32)), (.int vq)])) _
  refine XS.iand X0.here hx rfl (hb hby at_13) rfl ?_
  show Steps p.tables e below (T0.setTop (mkF m 14 #[.val (.int vp), .val (.int vq), .val (.int vr), .val (.int vs), .val (.int vt), .val (.int ((vp &&& (2147483647 : Int32)) % (1001 : Int32))), .unset, .unset, .unset, .unset, .unset, .unset, .unset, .unset, .unset, .unset, .unset, .unset, .unset] [(.int (vq &&& (2147483647 : Int32)))])) _
  refine XS.sipush X0.here hx rfl (hb hby at_14) ?_
  show Steps p.tables e below (T0.setTop (mkF m 17 #[.val (.int vp), .val (.int vq), .val (.int vr), .val (.int vs), .val (.int vt), .val (.int ((vp &&& (2147483647 : Int32)) % (1001 : Int32))), .unset, .unset, .unset, .unset, .unset, .unset, .unset, .unset, .unset, .unset, .unset, .unset, .unset] [(.int (1001 : Int32)), (.int (vq &&& (2147483647 : Int32)))])) _
  refine XS.iload X0.here hx rfl (hb hby at_17) rfl ?_
  show Steps p.tables e below (T0.setTop (mkF m 19 #[.val (.int vp), .val (.int vq), .val (.int vr), .val (.int vs), .val (.int vt), .val (.int ((vp &&& (2147483647 : Int32)) % (1001 : Int32))), .unset, .unset, .unset, .unset, .unset, .unset, .unset, .unset, .unset, .unset, .unset, .unset, .unset] [(.int ((vp &&& (2147483647 : Int32)) % (1001 : Int32))), (.int (1001 : Int32)), (.int (vq &&& (2147483647 : Int32)))])) _
  refine XS.isub X0.here hx rfl (hb hby at_19) rfl ?_
  show Steps p.tables e below (T0.setTop (mkF m 20 #[.val (.int vp), .val (.int vq), .val (.int vr), .val (.int vs), .val (.int vt), .val (.int ((vp &&& (2147483647 : Int32)) % (1001 : Int32))), .unset, .unset, .unset, .unset, .unset, .unset, .unset, .unset, .unset, .unset, .unset, .unset, .unset] [(.int ((1001 : Int32) - ((vp &&& (2147483647 : Int32)) % (1001 : Int32)))), (.int (vq &&& (2147483647 : Int32)))])) _
  refine iremM X0 hx rfl (hb hby at_20) rfl hnz ?_
  show Steps p.tables e below (T0.setTop (mkF m 21 #[.val (.int vp), .val (.int vq), .val (.int vr), .val (.int vs), .val (.int vt), .val (.int ((vp &&& (2147483647 : Int32)) % (1001 : Int32))), .unset, .unset, .unset, .unset, .unset, .unset, .unset, .unset, .unset, .unset, .unset, .unset, .unset] [(.int ((vq &&& (2147483647 : Int32)) % ((1001 : Int32) - ((vp &&& (2147483647 : Int32)) % (1001 : Int32)))))])) _
  refine XS.istore X0.here hx rfl (hb hby at_21) rfl (l' := #[.val (.int vp), .val (.int vq), .val (.int vr), .val (.int vs), .val (.int vt), .val (.int ((vp &&& (2147483647 : Int32)) % (1001 : Int32))), .val (.int ((vq &&& (2147483647 : Int32)) % ((1001 : Int32) - ((vp &&& (2147483647 : Int32)) % (1001 : Int32))))), .unset, .unset, .unset, .unset, .unset, .unset, .unset, .unset, .unset, .unset, .unset, .unset]) rfl ?_
  show Steps p.tables e below (T0.setTop (mkF m 23 #[.val (.int vp), .val (.int vq), .val (.int vr), .val (.int vs), .val (.int vt), .val (.int ((vp &&& (2147483647 : Int32)) % (1001 : Int32))), .val (.int ((vq &&& (2147483647 : Int32)) % ((1001 : Int32) - ((vp &&& (2147483647 : Int32)) % (1001 : Int32))))), .unset, .unset, .unset, .unset, .unset, .unset, .unset, .unset, .unset, .unset, .unset, .unset] [])) _
  refine XS.iloadN X0.here hx rfl (hb hby at_23) rfl ?_
  show Steps p.tables e below (T0.setTop (mkF m 24 #[.val (.int vp), .val (.int vq), .val (.int vr), .val (.int vs), .val (.int vt), .val (.int ((vp &&& (2147483647 : Int32)) % (1001 : Int32))), .val (.int ((vq &&& (2147483647 : Int32)) % ((1001 : Int32) - ((vp &&& (2147483647 : Int32)) % (1001 : Int32))))), .unset, .unset, .unset, .unset, .unset, .unset, .unset, .unset, .unset, .unset, .unset, .unset] [(.int vr)])) _
  refine XS.sipush X0.here hx rfl (hb hby at_24) ?_
  show Steps p.tables e below (T0.setTop (mkF m 27 #[.val (.int vp), .val (.int vq), .val (.int vr), .val (.int vs), .val (.int vt), .val (.int ((vp &&& (2147483647 : Int32)) % (1001 : Int32))), .val (.int ((vq &&& (2147483647 : Int32)) % ((1001 : Int32) - ((vp &&& (2147483647 : Int32)) % (1001 : Int32))))), .unset, .unset, .unset, .unset, .unset, .unset, .unset, .unset, .unset, .unset, .unset, .unset] [(.int (2047 : Int32)), (.int vr)])) _
  refine XS.iand X0.here hx rfl (hb hby at_27) rfl ?_
  show Steps p.tables e below (T0.setTop (mkF m 28 #[.val (.int vp), .val (.int vq), .val (.int vr), .val (.int vs), .val (.int vt), .val (.int ((vp &&& (2147483647 : Int32)) % (1001 : Int32))), .val (.int ((vq &&& (2147483647 : Int32)) % ((1001 : Int32) - ((vp &&& (2147483647 : Int32)) % (1001 : Int32))))), .unset, .unset, .unset, .unset, .unset, .unset, .unset, .unset, .unset, .unset, .unset, .unset] [(.int (vr &&& (2047 : Int32)))])) _
  refine XS.istore X0.here hx rfl (hb hby at_28) rfl (l' := #[.val (.int vp), .val (.int vq), .val (.int vr), .val (.int vs), .val (.int vt), .val (.int ((vp &&& (2147483647 : Int32)) % (1001 : Int32))), .val (.int ((vq &&& (2147483647 : Int32)) % ((1001 : Int32) - ((vp &&& (2147483647 : Int32)) % (1001 : Int32))))), .val (.int (vr &&& (2047 : Int32))), .unset, .unset, .unset, .unset, .unset, .unset, .unset, .unset, .unset, .unset, .unset]) rfl ?_
  show Steps p.tables e below (T0.setTop (mkF m 30 #[.val (.int vp), .val (.int vq), .val (.int vr), .val (.int vs), .val (.int vt), .val (.int ((vp &&& (2147483647 : Int32)) % (1001 : Int32))), .val (.int ((vq &&& (2147483647 : Int32)) % ((1001 : Int32) - ((vp &&& (2147483647 : Int32)) % (1001 : Int32))))), .val (.int (vr &&& (2047 : Int32))), .unset, .unset, .unset, .unset, .unset, .unset, .unset, .unset, .unset, .unset, .unset] [])) _
  refine XS.iload X0.here hx rfl (hb hby at_30) rfl ?_
  show Steps p.tables e below (T0.setTop (mkF m 32 #[.val (.int vp), .val (.int vq), .val (.int vr), .val (.int vs), .val (.int vt), .val (.int ((vp &&& (2147483647 : Int32)) % (1001 : Int32))), .val (.int ((vq &&& (2147483647 : Int32)) % ((1001 : Int32) - ((vp &&& (2147483647 : Int32)) % (1001 : Int32))))), .val (.int (vr &&& (2047 : Int32))), .unset, .unset, .unset, .unset, .unset, .unset, .unset, .unset, .unset, .unset, .unset] [(.int vt)])) _
  refine XS.sipush X0.here hx rfl (hb hby at_32) ?_
  show Steps p.tables e below (T0.setTop (mkF m 35 #[.val (.int vp), .val (.int vq), .val (.int vr), .val (.int vs), .val (.int vt), .val (.int ((vp &&& (2147483647 : Int32)) % (1001 : Int32))), .val (.int ((vq &&& (2147483647 : Int32)) % ((1001 : Int32) - ((vp &&& (2147483647 : Int32)) % (1001 : Int32))))), .val (.int (vr &&& (2047 : Int32))), .unset, .unset, .unset, .unset, .unset, .unset, .unset, .unset, .unset, .unset, .unset] [(.int (2047 : Int32)), (.int vt)])) _
  refine XS.iand X0.here hx rfl (hb hby at_35) rfl ?_
  show Steps p.tables e below (T0.setTop (mkF m 36 #[.val (.int vp), .val (.int vq), .val (.int vr), .val (.int vs), .val (.int vt), .val (.int ((vp &&& (2147483647 : Int32)) % (1001 : Int32))), .val (.int ((vq &&& (2147483647 : Int32)) % ((1001 : Int32) - ((vp &&& (2147483647 : Int32)) % (1001 : Int32))))), .val (.int (vr &&& (2047 : Int32))), .unset, .unset, .unset, .unset, .unset, .unset, .unset, .unset, .unset, .unset, .unset] [(.int (vt &&& (2047 : Int32)))])) _
  refine XS.istore X0.here hx rfl (hb hby at_36) rfl (l' := #[.val (.int vp), .val (.int vq), .val (.int vr), .val (.int vs), .val (.int vt), .val (.int ((vp &&& (2147483647 : Int32)) % (1001 : Int32))), .val (.int ((vq &&& (2147483647 : Int32)) % ((1001 : Int32) - ((vp &&& (2147483647 : Int32)) % (1001 : Int32))))), .val (.int (vr &&& (2047 : Int32))), .val (.int (vt &&& (2047 : Int32))), .unset, .unset, .unset, .unset, .unset, .unset, .unset, .unset, .unset, .unset]) rfl ?_
  show Steps p.tables e below (T0.setTop (mkF m 38 #[.val (.int vp), .val (.int vq), .val (.int vr), .val (.int vs), .val (.int vt), .val (.int ((vp &&& (2147483647 : Int32)) % (1001 : Int32))), .val (.int ((vq &&& (2147483647 : Int32)) % ((1001 : Int32) - ((vp &&& (2147483647 : Int32)) % (1001 : Int32))))), .val (.int (vr &&& (2047 : Int32))), .val (.int (vt &&& (2047 : Int32))), .unset, .unset, .unset, .unset, .unset, .unset, .unset, .unset, .unset, .unset] [])) _
  refine XS.iloadN X0.here hx rfl (hb hby at_38) rfl ?_
  show Steps p.tables e below (T0.setTop (mkF m 39 #[.val (.int vp), .val (.int vq), .val (.int vr), .val (.int vs), .val (.int vt), .val (.int ((vp &&& (2147483647 : Int32)) % (1001 : Int32))), .val (.int ((vq &&& (2147483647 : Int32)) % ((1001 : Int32) - ((vp &&& (2147483647 : Int32)) % (1001 : Int32))))), .val (.int (vr &&& (2047 : Int32))), .val (.int (vt &&& (2047 : Int32))), .unset, .unset, .unset, .unset, .unset, .unset, .unset, .unset, .unset, .unset] [(.int vs)])) _
  refine XS.sipush X0.here hx rfl (hb hby at_39) ?_
  show Steps p.tables e below (T0.setTop (mkF m 42 #[.val (.int vp), .val (.int vq), .val (.int vr), .val (.int vs), .val (.int vt), .val (.int ((vp &&& (2147483647 : Int32)) % (1001 : Int32))), .val (.int ((vq &&& (2147483647 : Int32)) % ((1001 : Int32) - ((vp &&& (2147483647 : Int32)) % (1001 : Int32))))), .val (.int (vr &&& (2047 : Int32))), .val (.int (vt &&& (2047 : Int32))), .unset, .unset, .unset, .unset, .unset, .unset, .unset, .unset, .unset, .unset] [(.int (2047 : Int32)), (.int vs)])) _
  refine XS.iand X0.here hx rfl (hb hby at_42) rfl ?_
  show Steps p.tables e below (T0.setTop (mkF m 43 #[.val (.int vp), .val (.int vq), .val (.int vr), .val (.int vs), .val (.int vt), .val (.int ((vp &&& (2147483647 : Int32)) % (1001 : Int32))), .val (.int ((vq &&& (2147483647 : Int32)) % ((1001 : Int32) - ((vp &&& (2147483647 : Int32)) % (1001 : Int32))))), .val (.int (vr &&& (2047 : Int32))), .val (.int (vt &&& (2047 : Int32))), .unset, .unset, .unset, .unset, .unset, .unset, .unset, .unset, .unset, .unset] [(.int (vs &&& (2047 : Int32)))])) _
  refine XS.istore X0.here hx rfl (hb hby at_43) rfl (l' := #[.val (.int vp), .val (.int vq), .val (.int vr), .val (.int vs), .val (.int vt), .val (.int ((vp &&& (2147483647 : Int32)) % (1001 : Int32))), .val (.int ((vq &&& (2147483647 : Int32)) % ((1001 : Int32) - ((vp &&& (2147483647 : Int32)) % (1001 : Int32))))), .val (.int (vr &&& (2047 : Int32))), .val (.int (vt &&& (2047 : Int32))), .val (.int (vs &&& (2047 : Int32))), .unset, .unset, .unset, .unset, .unset, .unset, .unset, .unset, .unset]) rfl ?_
  exact kt
theorem pA {p : Program} {l : Launch} {e : Env} {R : Room} {s : State} {m : MethodId} {args : Array Value} {below : List Frame} {meth : Method} {c : Code} {T0 : State} {locs : List Loc} {cells slots : Nat} {Z : State} {a0 : Array Value} (vp vq vr vs vt : Int32) (va vb vc vy vx : Int32) (X0 : Stand p l e R s m args below meth c T0 locs cells slots) (hx : p.tables.exec = Jvm.exec) (hZ : Z.Warmed39 s.vm) (hw : ∀ d ∈ tables_1, d.before a0 Z = true) (hby : c.code = code) (hown : s.vm.findClass "com/example/caddis/caddis/XmlNestingLeavePinLaw" = some m.cls) (qa : ((vp &&& (2147483647 : Int32)) % (1001 : Int32)) = va) (qb : ((vq &&& (2147483647 : Int32)) % ((1001 : Int32) - va)) = vb) (qc : (vr &&& (2047 : Int32)) = vc) (qy : (vt &&& (2047 : Int32)) = vy) (qx : (vs &&& (2047 : Int32)) = vx) (hnz : (1001 : Int32) - va ≠ 0) :
    ∀ target, Steps p.tables e below (T0.setTop (mkF m 45 #[.val (.int vp), .val (.int vq), .val (.int vr), .val (.int vs), .val (.int vt), .val (.int va), .val (.int vb), .val (.int vc), .val (.int vy), .val (.int vx), .unset, .unset, .unset, .unset, .unset, .unset, .unset, .unset, .unset] [])) target → Steps p.tables e below (T0.setTop (mkF m 0 #[.val (.int vp), .val (.int vq), .val (.int vr), .val (.int vs), .val (.int vt), .unset, .unset, .unset, .unset, .unset, .unset, .unset, .unset, .unset, .unset, .unset, .unset, .unset, .unset] [])) target := by
  subst qa qb qc qy qx
  exact pA0 vp vq vr vs vt X0 hx hZ hw hby hown hnz
theorem pd_4 : parseMethodDescriptor "()V" = some ⟨[], none⟩ := by decide +kernel
theorem pd_5 : parseMethodDescriptor "(I)Ljava/util/Optional;" = some ⟨[.int], some (.object "java/util/Optional")⟩ := by decide +kernel
theorem pd_6 : parseMethodDescriptor "()Z" = some ⟨[], some .boolean⟩ := by decide +kernel
theorem ef_0_IIIII (m : MethodId) (x0 : Int32) (x1 : Int32) (x2 : Int32) (x3 : Int32) (x4 : Int32) : entryFrame m #[(.int x0), (.int x1), (.int x2), (.int x3), (.int x4)] maxLocals = mkF m 0 #[.val (.int x0), .val (.int x1), .val (.int x2), .val (.int x3), .val (.int x4), .unset, .unset, .unset, .unset, .unset, .unset, .unset, .unset, .unset, .unset, .unset, .unset, .unset, .unset] [] := by first | (simp [entryFrame, mkF, argsToLocals, Value.category, maxLocals]; done) | rfl
theorem pn_XmlNestingLeavePinLaw : plainName "com/example/caddis/caddis/XmlNestingLeavePinLaw" = true := by first | (simp [plainName, overriddenIn]; done) | decide +kernel
set_option maxRecDepth 65536 in
set_option maxHeartbeats 40000000 in
theorem rm0_000 (l : Launch) (Z : State) (a0 : Array Value) (hw : ∀ d ∈ tables_1, d.before a0 Z = true) (ws : List Jvm.Cond) (vp vq vr vs vt : Int32) (va vb vc vy vx : Int32) (em : Addr) (h0 : Heap) (n0 : Nat) (Z0 : n0 ≤ h0.size) (qa : ((vp &&& (2147483647 : Int32)) % (1001 : Int32)) = va) (qb : ((vq &&& (2147483647 : Int32)) % ((1001 : Int32) - va)) = vb) (qc : (vr &&& (2047 : Int32)) = vc) (qy : (vt &&& (2047 : Int32)) = vy) (qx : (vs &&& (2047 : Int32)) = vx) (hnz : (1001 : Int32) - va ≠ 0) (Od0 : Old Z n0 h0) (Se : Sta Z Z.heap "java/util/Optional" "EMPTY" "Ljava/util/Optional;" (.ref em)) (Ee : Exa Z Z.heap em "java/util/Optional") (Fe : Fld Z Z.heap em "java/util/Optional" "value" "Ljava/lang/Object;" .null) (hA : ¬ ((1000 : Int32) < (0 : Int32) + va)) (hB : ¬ ((1000 : Int32) < va + vb)) (eA : (0 : Int32) + va = va) (eB : va + vb - vb = va) (eC : va + vc - vc = va) (eY : va + vy - vy = va) (eZ : va - va = 0) (eX : (0 : Int32) + vx = vx) (hc105 : (1000 : Int32) < (va + vc)) (hc155 : (1000 : Int32) < (va + vy)) (hc207 : (1000 : Int32) < vx) :
    MetFree l x (head1 (Jvm.Cond.code x code maxLocals ret :: ws) room_1) (fun zA zU => zA = #[(.int vp), (.int vq), (.int vr), (.int vs), (.int vt)] ∧ Z.Warmed39 zU.vm ∧ zU.heap = h0) (fun _ _ _ _ _ => True) (fun _ zU zO zW => ∃ zV zL, zO = .returned zV ∧ QL n0 zV zW.heap zL ∧ ReturnedEndW zU zO zW zL room_1.cells room_1.slots) := by
  refine MetFree.of_bodySF (plainFor_of_name pn_XmlNestingLeavePinLaw) hisR ?_
  intro p e s m args below meth c s₁ Bd hml0 hP hK
  obtain ⟨rfl, hZ, hh⟩ := hP
  have hx := Bd.exec
  have hby := Bd.bytes
  have hml : c.maxLocals = 19 := hml0
  have hown : s.vm.findClass "com/example/caddis/caddis/XmlNestingLeavePinLaw" = some m.cls := findClass_of_methodNamed Bd.named
  have hnm := (name_of_methodNamed Bd.named Bd.method).1
  have X0 : Stand p l e room_1 s m #[(.int vp), (.int vq), (.int vr), (.int vs), (.int vt)] below meth c s₁ [] 0 0 := Stand.of_body Bd
  have e0 : s₁.heap = h0 := by rw [← hh, Bd.state]; rfl
  have N0 := Fr.nil n0
  have pre0 : ∀ zt, Steps p.tables e below (s₁.setTop (mkF m 0 #[.val (.int vp), .val (.int vq), .val (.int vr), .val (.int vs), .val (.int vt), .unset, .unset, .unset, .unset, .unset, .unset, .unset, .unset, .unset, .unset, .unset, .unset, .unset, .unset] [])) zt → Steps p.tables e below (s₁.setTop (entryFrame m #[(.int vp), (.int vq), (.int vr), (.int vs), (.int vt)] maxLocals)) zt := fun zt zk => castTop (ef_0_IIIII m vp vq vr vs vt) zk
  obtain ⟨T141, h141, X141, e141, E141, A141, D141, -, st141⟩ := newO X0 hx hZ hown (hw _ (List.mem_of_getElem? (i := 1) rfl)) (hw _ (List.mem_of_getElem? (i := 2) rfl)) (hw _ (List.mem_of_getElem? (i := 3) rfl)) e0 (g := (mkF m 45 #[.val (.int vp), .val (.int vq), .val (.int vr), .val (.int vs), .val (.int vt), .val (.int va), .val (.int vb), .val (.int vc), .val (.int vy), .val (.int vx), .unset, .unset, .unset, .unset, .unset, .unset, .unset, .unset, .unset] [])) rfl (hb hby at_45) (by decide) (by decide)
  obtain ⟨b141, g141⟩ : ∃ z, z = h0.size := ⟨_, rfl⟩
  rw [← g141] at A141 D141 st141
  have gz141 : n0 ≤ b141 := Nat.le_trans Z0 (Nat.le_of_eq g141.symm)
  have Z141 := Nat.le_trans Z0 E141.1
  have Od141 := Od0.ext E141
  have F141_declared : Fld Z h141 b141 "com/example/caddis/caddis/XmlNesting" "declared" "[I" .null := D141 (Or.inr (hw _ (List.mem_of_getElem? (i := 12) rfl))) (ty := (.array .int)) (by decide)
  have F141_depth : Fld Z h141 b141 "com/example/caddis/caddis/XmlNesting" "depth" "I" (.int (0 : Int32)) := D141 (Or.inl (hw _ (List.mem_of_getElem? (i := 19) rfl))) (ty := .int) (by decide)
  have F141_declarations : Fld Z h141 b141 "com/example/caddis/caddis/XmlNesting" "declarations" "I" (.int (0 : Int32)) := D141 (Or.inl (hw _ (List.mem_of_getElem? (i := 21) rfl))) (ty := .int) (by decide)
  obtain ⟨_, _, ⟨T142, L142, k142, n142⟩, -, X142, ⟨Lc142, hQ142, l142, y142, z142⟩, st142⟩ := X141.specialBack hx (y := (⟨"com/example/caddis/caddis/XmlNesting", "<init>", "()V"⟩ : MethodName)) rfl hown (mvT hZ (hw _ (List.mem_of_getElem? (i := 4) rfl))) (mvT hZ (hw _ (List.mem_of_getElem? (i := 5) rfl))) (mvT hZ (hw _ (List.mem_of_getElem? (i := 6) rfl))) (by decide) (backOf (W := 1) (rini l Z a0 hw [] b141 h141 n0 Z141 A141 F141_declared F141_depth F141_declarations gz141) hZ (hw _ (List.mem_of_getElem? (i := 6) rfl)) (hw _ (List.mem_of_getElem? (i := 3) rfl)) (by decide) (by decide)) (g := (mkF m 49 #[.val (.int vp), .val (.int vq), .val (.int vr), .val (.int vs), .val (.int vt), .val (.int va), .val (.int vb), .val (.int vc), .val (.int vy), .val (.int vx), .unset, .unset, .unset, .unset, .unset, .unset, .unset, .unset, .unset] [(.ref b141), (.ref b141)])) rfl (by rw [hml]; rfl) (Steps.refl _) (a := b141) (argsL := []) (rest := [(.ref b141)]) (lenOf pd_4 rfl) rfl (by show 2 * 0 + _ ≤ _; exact Nat.le_of_eq rfl) (hb hby at_49) (fun _ _ => ⟨rfl, e141, (by decide : 1 + 1 ≤ _), (by decide : 3 + 1000 ≤ _)⟩)
  dsimp only [Pt.U, Pt.locs, Pt.cells, Pt.slots] at X142 l142 y142 z142 st142 hQ142
  subst l142 y142 z142
  obtain ⟨ar142, rfl, Nq142, Kq142, G142_0, G142_1, G142_2, G142_3, G142_4, ga142, na142⟩ := hQ142
  have N142 := Fr.app N0 Nq142
  have Z142 := Nat.le_trans Z141 Kq142.1
  have Od142 := Od141.keep Kq142 (allS gz141 all0)
  obtain ⟨cq143, kq143, q143a, q143b, q143c⟩ := isOf hZ rfl G142_0
  obtain ⟨_, _, ⟨T143, L143, k143, n143⟩, -, X143, ⟨Lc143, hQ143, l143, y143, z143⟩, st143⟩ := X142.virtualBack hx (y := (⟨"com/example/caddis/caddis/XmlNesting", "enter", "(I)Ljava/util/Optional;"⟩ : MethodName)) (z := (⟨"com/example/caddis/caddis/XmlNesting", "enter", "(I)Ljava/util/Optional;"⟩ : MethodName)) hown (mvT hZ (hw _ (List.mem_of_getElem? (i := 13) rfl))) (mvT hZ (hw _ (List.mem_of_getElem? (i := 14) rfl))) (notFace_of_selects (args := #[]) (mvT hZ (hw _ (List.mem_of_getElem? (i := 16) rfl)))) (mvT hZ (hw _ (List.mem_of_getElem? (i := 16) rfl))) (mvT hZ (hw _ (List.mem_of_getElem? (i := 15) rfl))) (by decide) (backOf (W := 0) (ren0 l Z a0 hw [] b141 ar142 em (0 : Int32) va (fun _ => (0 : Int32)) T142.heap n0 Z142 G142_0 G142_1 G142_2 G142_3 G142_4 gz141 ga142 na142 (Se.ext Od142.2) hA) hZ (hw _ (List.mem_of_getElem? (i := 17) rfl)) (hw _ (List.mem_of_getElem? (i := 3) rfl)) (by decide) (by decide)) q143a q143c (g := (mkF m 58 #[.val (.int vp), .val (.int vq), .val (.int vr), .val (.int vs), .val (.int vt), .val (.int va), .val (.int vb), .val (.int vc), .val (.int vy), .val (.int vx), .val (.ref b141), .unset, .unset, .unset, .unset, .unset, .unset, .unset, .unset] [(.int va), (.ref b141)])) rfl (by rw [hml]; rfl) (Steps.refl _) (argsL := [(.int va)]) (rest := []) (lenOf pd_5 rfl) rfl (by show 2 * 0 + _ ≤ _; exact Nat.le_of_eq rfl) (hb hby at_58) (fun _ _ => ⟨rfl, rfl, (by decide : 2 + 0 ≤ _), (by decide : 1003 + 0 ≤ _)⟩)
  dsimp only [Pt.U, Pt.locs, Pt.cells, Pt.slots] at X143 l143 y143 z143 st143 hQ143
  subst l143 y143 z143
  obtain ⟨rfl, Nq143, Kq143, G143_0, G143_1, G143_2, G143_3, G143_4⟩ := hQ143
  have N143 := Fr.app N142 Nq143
  have Z143 := Nat.le_trans Z142 Kq143.1
  have Od143 := Od142.keep Kq143 (allS gz141 (allS ga142 all0))
  rw [eA] at G143_3
  obtain ⟨cq144, kq144, q144a, q144b, q144c⟩ := isOf hZ rfl (Ee.ext Od143.2)
  obtain ⟨_, _, ⟨T144, L144, k144, n144⟩, -, X144, ⟨Lc144, hQ144, l144, y144, z144⟩, st144⟩ := X143.virtualBack hx (y := (⟨"java/util/Optional", "isEmpty", "()Z"⟩ : MethodName)) (z := (⟨"java/util/Optional", "isEmpty", "()Z"⟩ : MethodName)) hown (mvT hZ (hw _ (List.mem_of_getElem? (i := 27) rfl))) (mvT hZ (hw _ (List.mem_of_getElem? (i := 28) rfl))) (notFace_of_selects (args := #[]) (mvT hZ (hw _ (List.mem_of_getElem? (i := 30) rfl)))) (mvT hZ (hw _ (List.mem_of_getElem? (i := 30) rfl))) (mvT hZ (hw _ (List.mem_of_getElem? (i := 29) rfl))) (by decide) (backOf (W := 0) (ris1 l Z a0 hw [] em T143.heap n0 Z143 (Fe.ext Od143.2)) hZ (hw _ (List.mem_of_getElem? (i := 31) rfl)) (hw _ (List.mem_of_getElem? (i := 24) rfl)) (by decide) (by decide)) q144a q144c (g := (mkF m 61 #[.val (.int vp), .val (.int vq), .val (.int vr), .val (.int vs), .val (.int vt), .val (.int va), .val (.int vb), .val (.int vc), .val (.int vy), .val (.int vx), .val (.ref b141), .unset, .unset, .unset, .unset, .unset, .unset, .unset, .unset] [(.ref em)])) rfl (by rw [hml]; rfl) (Steps.refl _) (argsL := []) (rest := []) (lenOf pd_6 rfl) rfl (by show 2 * 0 + _ ≤ _; exact Nat.le_of_eq rfl) (hb hby at_61) (fun _ _ => ⟨rfl, rfl, (by decide : 2 + 0 ≤ _), (by decide : 1003 + 0 ≤ _)⟩)
  dsimp only [Pt.U, Pt.locs, Pt.cells, Pt.slots] at X144 l144 y144 z144 st144 hQ144
  subst l144 y144 z144
  obtain ⟨rfl, Nq144, e144⟩ := hQ144
  have N144 := Fr.app N143 Nq144
  obtain ⟨cq145, kq145, q145a, q145b, q145c⟩ := isOf hZ e144 G143_0
  obtain ⟨_, _, ⟨T145, L145, k145, n145⟩, -, X145, ⟨Lc145, hQ145, l145, y145, z145⟩, st145⟩ := X144.virtualBack hx (y := (⟨"com/example/caddis/caddis/XmlNesting", "enter", "(I)Ljava/util/Optional;"⟩ : MethodName)) (z := (⟨"com/example/caddis/caddis/XmlNesting", "enter", "(I)Ljava/util/Optional;"⟩ : MethodName)) hown (mvT hZ (hw _ (List.mem_of_getElem? (i := 13) rfl))) (mvT hZ (hw _ (List.mem_of_getElem? (i := 14) rfl))) (notFace_of_selects (args := #[]) (mvT hZ (hw _ (List.mem_of_getElem? (i := 16) rfl)))) (mvT hZ (hw _ (List.mem_of_getElem? (i := 16) rfl))) (mvT hZ (hw _ (List.mem_of_getElem? (i := 15) rfl))) (by decide) (backOf (W := 0) (ren1 l Z a0 hw [] b141 ar142 em va vb (upd (fun _ => (0 : Int32)) 0 va) T143.heap n0 Z143 G143_0 G143_1 G143_2 G143_3 G143_4 gz141 ga142 na142 (Se.ext Od143.2) hB) hZ (hw _ (List.mem_of_getElem? (i := 17) rfl)) (hw _ (List.mem_of_getElem? (i := 3) rfl)) (by decide) (by decide)) q145a q145c (g := (mkF m 70 #[.val (.int vp), .val (.int vq), .val (.int vr), .val (.int vs), .val (.int vt), .val (.int va), .val (.int vb), .val (.int vc), .val (.int vy), .val (.int vx), .val (.ref b141), .val (.int (1 : Int32)), .unset, .unset, .unset, .unset, .unset, .unset, .unset] [(.int vb), (.ref b141)])) rfl (by rw [hml]; rfl) (Steps.refl _) (argsL := [(.int vb)]) (rest := []) (lenOf pd_5 rfl) rfl (by show 2 * 0 + _ ≤ _; exact Nat.le_of_eq rfl) (hb hby at_70) (fun _ _ => ⟨rfl, e144, (by decide : 2 + 0 ≤ _), (by decide : 1003 + 0 ≤ _)⟩)
  dsimp only [Pt.U, Pt.locs, Pt.cells, Pt.slots] at X145 l145 y145 z145 st145 hQ145
  subst l145 y145 z145
  obtain ⟨rfl, Nq145, Kq145, G145_0, G145_1, G145_2, G145_3, G145_4⟩ := hQ145
  have N145 := Fr.app N144 Nq145
  have Z145 := Nat.le_trans Z143 Kq145.1
  have Od145 := Od143.keep Kq145 (allS gz141 (allS ga142 all0))
  obtain ⟨cq146, kq146, q146a, q146b, q146c⟩ := isOf hZ rfl (Ee.ext Od145.2)
  obtain ⟨_, _, ⟨T146, L146, k146, n146⟩, -, X146, ⟨Lc146, hQ146, l146, y146, z146⟩, st146⟩ := X145.virtualBack hx (y := (⟨"java/util/Optional", "isEmpty", "()Z"⟩ : MethodName)) (z := (⟨"java/util/Optional", "isEmpty", "()Z"⟩ : MethodName)) hown (mvT hZ (hw _ (List.mem_of_getElem? (i := 27) rfl))) (mvT hZ (hw _ (List.mem_of_getElem? (i := 28) rfl))) (notFace_of_selects (args := #[]) (mvT hZ (hw _ (List.mem_of_getElem? (i := 30) rfl)))) (mvT hZ (hw _ (List.mem_of_getElem? (i := 30) rfl))) (mvT hZ (hw _ (List.mem_of_getElem? (i := 29) rfl))) (by decide) (backOf (W := 0) (ris1 l Z a0 hw [] em T145.heap n0 Z145 (Fe.ext Od145.2)) hZ (hw _ (List.mem_of_getElem? (i := 31) rfl)) (hw _ (List.mem_of_getElem? (i := 24) rfl)) (by decide) (by decide)) q146a q146c (g := (mkF m 73 #[.val (.int vp), .val (.int vq), .val (.int vr), .val (.int vs), .val (.int vt), .val (.int va), .val (.int vb), .val (.int vc), .val (.int vy), .val (.int vx), .val (.ref b141), .val (.int (1 : Int32)), .unset, .unset, .unset, .unset, .unset, .unset, .unset] [(.ref em)])) rfl (by rw [hml]; rfl) (Steps.refl _) (argsL := []) (rest := []) (lenOf pd_6 rfl) rfl (by show 2 * 0 + _ ≤ _; exact Nat.le_of_eq rfl) (hb hby at_73) (fun _ _ => ⟨rfl, rfl, (by decide : 2 + 0 ≤ _), (by decide : 1003 + 0 ≤ _)⟩)
  dsimp only [Pt.U, Pt.locs, Pt.cells, Pt.slots] at X146 l146 y146 z146 st146 hQ146
  subst l146 y146 z146
  obtain ⟨rfl, Nq146, e146⟩ := hQ146
  have N146 := Fr.app N145 Nq146
  obtain ⟨cq147, kq147, q147a, q147b, q147c⟩ := isOf hZ e146 G145_0
  obtain ⟨_, _, ⟨T147, L147, k147, n147⟩, -, X147, ⟨Lc147, hQ147, l147, y147, z147⟩, st147⟩ := X146.virtualBack hx (y := (⟨"com/example/caddis/caddis/XmlNesting", "leave", "()V"⟩ : MethodName)) (z := (⟨"com/example/caddis/caddis/XmlNesting", "leave", "()V"⟩ : MethodName)) hown (mvT hZ (hw _ (List.mem_of_getElem? (i := 34) rfl))) (mvT hZ (hw _ (List.mem_of_getElem? (i := 35) rfl))) (notFace_of_selects (args := #[]) (mvT hZ (hw _ (List.mem_of_getElem? (i := 37) rfl)))) (mvT hZ (hw _ (List.mem_of_getElem? (i := 37) rfl))) (mvT hZ (hw _ (List.mem_of_getElem? (i := 36) rfl))) (by decide) (backOf (W := 0) (rlv2 l Z a0 hw [] b141 ar142 (va + vb) vb (upd (upd (fun _ => (0 : Int32)) 0 va) 1 vb) T145.heap n0 Z145 G145_0 G145_1 G145_2 G145_3 G145_4 gz141 na142 rfl) hZ (hw _ (List.mem_of_getElem? (i := 38) rfl)) (hw _ (List.mem_of_getElem? (i := 3) rfl)) (by decide) (by decide)) q147a q147c (g := (mkF m 80 #[.val (.int vp), .val (.int vq), .val (.int vr), .val (.int vs), .val (.int vt), .val (.int va), .val (.int vb), .val (.int vc), .val (.int vy), .val (.int vx), .val (.ref b141), .val (.int (1 : Int32)), .val (.int (1 : Int32)), .unset, .unset, .unset, .unset, .unset, .unset] [(.ref b141)])) rfl (by rw [hml]; rfl) (Steps.refl _) (argsL := []) (rest := []) (lenOf pd_4 rfl) rfl (by show 2 * 0 + _ ≤ _; exact Nat.le_of_eq rfl) (hb hby at_80) (fun _ _ => ⟨rfl, e146, (by decide : 2 + 0 ≤ _), (by decide : 1003 + 0 ≤ _)⟩)
  dsimp only [Pt.U, Pt.locs, Pt.cells, Pt.slots] at X147 l147 y147 z147 st147 hQ147
  subst l147 y147 z147
  obtain ⟨rfl, Nq147, Kq147, G147_0, G147_1, G147_2, G147_3⟩ := hQ147
  have N147 := Fr.app N146 Nq147
  have zA148 := G145_4.keep Kq147 (ninS (Ne.symm na142) nin0)
  have Z147 := Nat.le_trans Z145 Kq147.1
  have Od147 := Od145.keep Kq147 (allS gz141 all0)
  rw [eB] at G147_3
  obtain ⟨cq149, kq149, q149a, q149b, q149c⟩ := isOf hZ rfl G147_0
  obtain ⟨_, _, ⟨T149, L149, k149, n149⟩, -, X149, hS149, hG149, ⟨Lc149, hQ149, l149, y149, z149⟩, st149⟩ := X147.virtualBackS hx (y := (⟨"com/example/caddis/caddis/XmlNesting", "enter", "(I)Ljava/util/Optional;"⟩ : MethodName)) (z := (⟨"com/example/caddis/caddis/XmlNesting", "enter", "(I)Ljava/util/Optional;"⟩ : MethodName)) hown (mvT hZ (hw _ (List.mem_of_getElem? (i := 13) rfl))) (mvT hZ (hw _ (List.mem_of_getElem? (i := 14) rfl))) (notFace_of_selects (args := #[]) (mvT hZ (hw _ (List.mem_of_getElem? (i := 16) rfl)))) (mvT hZ (hw _ (List.mem_of_getElem? (i := 16) rfl))) (mvT hZ (hw _ (List.mem_of_getElem? (i := 15) rfl))) (by decide) (backOfS (W := 0) (rex1 l Z a0 hw [] b141 ar142 em va vc (upd (upd (fun _ => (0 : Int32)) 0 va) 1 vb) T147.heap n0 Z147 G147_0 G147_1 G147_2 G147_3 zA148 gz141 ga142 na142 (Se.ext Od147.2) hc105) hZ (hw _ (List.mem_of_getElem? (i := 17) rfl)) (hw _ (List.mem_of_getElem? (i := 3) rfl)) (by decide) (by decide)) q149a q149c (g := (mkF m 87 #[.val (.int vp), .val (.int vq), .val (.int vr), .val (.int vs), .val (.int vt), .val (.int va), .val (.int vb), .val (.int vc), .val (.int vy), .val (.int vx), .val (.ref b141), .val (.int (1 : Int32)), .val (.int (1 : Int32)), .unset, .unset, .unset, .unset, .unset, .unset] [(.int vc), (.ref b141)])) rfl (by rw [hml]; rfl) (Steps.refl _) (argsL := [(.int vc)]) (rest := []) (lenOf pd_5 rfl) rfl (by show 2 * 0 + _ ≤ _; exact Nat.le_of_eq rfl) (hb hby at_87) (fun _ _ => ⟨rfl, rfl, (by decide : 2 + 3 ≤ _), (by decide : 1003 + 253 ≤ _)⟩)
  dsimp only [Pt.U, Pt.locs, Pt.cells, Pt.slots] at X149 hS149 hG149 l149 y149 z149 st149 hQ149
  subst l149 y149 z149
  obtain ⟨o149, y149, rfl, Nq149, Kq149, go149, G149_1, G149_2⟩ := hQ149
  have N149 := Fr.app N147 Nq149
  have zF150 := G147_1.keep Kq149 nin0
  have zF151 := G147_2.keep Kq149 nin0
  have zF152 := G147_3.keep Kq149 nin0
  have zE153 := G147_0.keep Kq149
  have zA154 := zA148.keep Kq149 nin0
  have Z149 := Nat.le_trans Z147 Kq149.1
  have Od149 := Od147.keep Kq149 all0
  have hZ149 : Z.Warmed39 (s.setVm T149.vm).vm := State.Warmed39.trans (t := s) hZ hS149.1
  have hown149 : (s.setVm T149.vm).vm.findClass "com/example/caddis/caddis/XmlNestingLeavePinLaw" = some m.cls := by rw [show (s.setVm T149.vm).vm = T149.vm from rfl, hS149.1.alike.findClass]; exact hown
  have sl149 : T149.heap.size ≤ T149.heap.size := Nat.le_refl _
  obtain ⟨cq155, kq155, q155a, q155b, q155c⟩ := isOf hZ149 rfl G149_1
  obtain ⟨_, _, ⟨T155, L155, k155, n155⟩, -, X155, ⟨Lc155, hQ155, l155, y155, z155⟩, st155⟩ := X149.virtualBack hx (y := (⟨"java/util/Optional", "isEmpty", "()Z"⟩ : MethodName)) (z := (⟨"java/util/Optional", "isEmpty", "()Z"⟩ : MethodName)) hown149 (mvT hZ149 (hw _ (List.mem_of_getElem? (i := 27) rfl))) (mvT hZ149 (hw _ (List.mem_of_getElem? (i := 28) rfl))) (notFace_of_selects (args := #[]) (mvT hZ149 (hw _ (List.mem_of_getElem? (i := 30) rfl)))) (mvT hZ149 (hw _ (List.mem_of_getElem? (i := 30) rfl))) (mvT hZ149 (hw _ (List.mem_of_getElem? (i := 29) rfl))) (by decide) (backOf (W := 0) (ris0 l Z a0 hw [] o149 y149 T149.heap n0 Z149 G149_2) hZ149 (hw _ (List.mem_of_getElem? (i := 31) rfl)) (hw _ (List.mem_of_getElem? (i := 24) rfl)) (by decide) (by decide)) q155a q155c (g := (mkF m 90 #[.val (.int vp), .val (.int vq), .val (.int vr), .val (.int vs), .val (.int vt), .val (.int va), .val (.int vb), .val (.int vc), .val (.int vy), .val (.int vx), .val (.ref b141), .val (.int (1 : Int32)), .val (.int (1 : Int32)), .unset, .unset, .unset, .unset, .unset, .unset] [(.ref o149)])) rfl (by rw [hml]; rfl) (Steps.refl _) (argsL := []) (rest := []) (lenOf pd_6 rfl) rfl (by show 2 * 0 + _ ≤ _; exact Nat.le_of_eq rfl) (hb hby at_90) (fun _ _ => ⟨rfl, rfl, (by decide : 5 + 0 ≤ _), (by decide : 1256 + 0 ≤ _)⟩)
  dsimp only [Pt.U, Pt.locs, Pt.cells, Pt.slots] at X155 l155 y155 z155 st155 hQ155
  subst l155 y155 z155
  obtain ⟨rfl, Nq155, e155⟩ := hQ155
  have N155 := Fr.app N149 Nq155
  obtain ⟨cq156, kq156, q156a, q156b, q156c⟩ := isOf hZ149 e155 zE153
  obtain ⟨_, _, ⟨T156, L156, k156, n156⟩, -, X156, hS156, hG156, ⟨Lc156, hQ156, l156, y156, z156⟩, st156⟩ := X155.virtualBackS hx (y := (⟨"com/example/caddis/caddis/XmlNesting", "enter", "(I)Ljava/util/Optional;"⟩ : MethodName)) (z := (⟨"com/example/caddis/caddis/XmlNesting", "enter", "(I)Ljava/util/Optional;"⟩ : MethodName)) hown149 (mvT hZ149 (hw _ (List.mem_of_getElem? (i := 13) rfl))) (mvT hZ149 (hw _ (List.mem_of_getElem? (i := 14) rfl))) (notFace_of_selects (args := #[]) (mvT hZ149 (hw _ (List.mem_of_getElem? (i := 16) rfl)))) (mvT hZ149 (hw _ (List.mem_of_getElem? (i := 16) rfl))) (mvT hZ149 (hw _ (List.mem_of_getElem? (i := 15) rfl))) (by decide) (backOfS (W := 0) (rex1 l Z a0 hw [] b141 ar142 em va vy (upd (upd (fun _ => (0 : Int32)) 0 va) 1 vb) T149.heap n0 Z149 zE153 zF150 zF151 zF152 zA154 gz141 ga142 na142 (Se.ext Od149.2) hc155) hZ149 (hw _ (List.mem_of_getElem? (i := 17) rfl)) (hw _ (List.mem_of_getElem? (i := 3) rfl)) (by decide) (by decide)) q156a q156c (g := (mkF m 137 #[.val (.int vp), .val (.int vq), .val (.int vr), .val (.int vs), .val (.int vt), .val (.int va), .val (.int vb), .val (.int vc), .val (.int vy), .val (.int vx), .val (.ref b141), .val (.int (1 : Int32)), .val (.int (1 : Int32)), .val (.int (0 : Int32)), .val (.int (1 : Int32)), .unset, .unset, .unset, .unset] [(.int vy), (.ref b141)])) rfl (by rw [hml]; rfl) (Steps.refl _) (argsL := [(.int vy)]) (rest := []) (lenOf pd_5 rfl) rfl (by show 2 * 0 + _ ≤ _; exact Nat.le_of_eq rfl) (hb hby at_137) (fun _ _ => ⟨rfl, e155, (by decide : 5 + 3 ≤ _), (by decide : 1256 + 253 ≤ _)⟩)
  dsimp only [Pt.U, Pt.locs, Pt.cells, Pt.slots] at X156 hS156 hG156 l156 y156 z156 st156 hQ156
  subst l156 y156 z156
  obtain ⟨o156, y156, rfl, Nq156, Kq156, go156, G156_1, G156_2⟩ := hQ156
  have N156 := Fr.app N155 Nq156
  have zF157 := zF150.keep Kq156 nin0
  have zF158 := zF151.keep Kq156 nin0
  have zF159 := zF152.keep Kq156 nin0
  have zF160 := G149_2.keep Kq156 nin0
  have zE161 := zE153.keep Kq156
  have zE162 := G149_1.keep Kq156
  have zA163 := zA154.keep Kq156 nin0
  have Z156 := Nat.le_trans Z149 Kq156.1
  have Od156 := Od149.keep Kq156 all0
  have hZ156 : Z.Warmed39 (s.setVm T156.vm).vm := State.Warmed39.trans (t := (s.setVm T149.vm)) hZ149 hS156.1
  have hown156 : (s.setVm T156.vm).vm.findClass "com/example/caddis/caddis/XmlNestingLeavePinLaw" = some m.cls := by rw [show (s.setVm T156.vm).vm = T156.vm from rfl, hS156.1.alike.findClass]; exact hown149
  obtain ⟨X156, hS156⟩ := Stand.againW X156 hS149 hS156 (Nat.le_trans sl149 Kq156.1)
  have sl156 : T156.heap.size ≤ T156.heap.size := Nat.le_refl _
  obtain ⟨cq164, kq164, q164a, q164b, q164c⟩ := isOf hZ156 rfl G156_1
  obtain ⟨_, _, ⟨T164, L164, k164, n164⟩, -, X164, ⟨Lc164, hQ164, l164, y164, z164⟩, st164⟩ := X156.virtualBack hx (y := (⟨"java/util/Optional", "isEmpty", "()Z"⟩ : MethodName)) (z := (⟨"java/util/Optional", "isEmpty", "()Z"⟩ : MethodName)) hown156 (mvT hZ156 (hw _ (List.mem_of_getElem? (i := 27) rfl))) (mvT hZ156 (hw _ (List.mem_of_getElem? (i := 28) rfl))) (notFace_of_selects (args := #[]) (mvT hZ156 (hw _ (List.mem_of_getElem? (i := 30) rfl)))) (mvT hZ156 (hw _ (List.mem_of_getElem? (i := 30) rfl))) (mvT hZ156 (hw _ (List.mem_of_getElem? (i := 29) rfl))) (by decide) (backOf (W := 0) (ris0 l Z a0 hw [] o156 y156 T156.heap n0 Z156 G156_2) hZ156 (hw _ (List.mem_of_getElem? (i := 31) rfl)) (hw _ (List.mem_of_getElem? (i := 24) rfl)) (by decide) (by decide)) q164a q164c (g := (mkF m 140 #[.val (.int vp), .val (.int vq), .val (.int vr), .val (.int vs), .val (.int vt), .val (.int va), .val (.int vb), .val (.int vc), .val (.int vy), .val (.int vx), .val (.ref b141), .val (.int (1 : Int32)), .val (.int (1 : Int32)), .val (.int (0 : Int32)), .val (.int (1 : Int32)), .unset, .unset, .unset, .unset] [(.ref o156)])) rfl (by rw [hml]; rfl) (Steps.refl _) (argsL := []) (rest := []) (lenOf pd_6 rfl) rfl (by show 2 * 0 + _ ≤ _; exact Nat.le_of_eq rfl) (hb hby at_140) (fun _ _ => ⟨rfl, rfl, (by decide : 8 + 0 ≤ _), (by decide : 1509 + 0 ≤ _)⟩)
  dsimp only [Pt.U, Pt.locs, Pt.cells, Pt.slots] at X164 l164 y164 z164 st164 hQ164
  subst l164 y164 z164
  obtain ⟨rfl, Nq164, e164⟩ := hQ164
  have N164 := Fr.app N156 Nq164
  obtain ⟨cq165, kq165, q165a, q165b, q165c⟩ := isOf hZ156 e164 zE161
  obtain ⟨_, _, ⟨T165, L165, k165, n165⟩, -, X165, ⟨Lc165, hQ165, l165, y165, z165⟩, st165⟩ := X164.virtualBack hx (y := (⟨"com/example/caddis/caddis/XmlNesting", "leave", "()V"⟩ : MethodName)) (z := (⟨"com/example/caddis/caddis/XmlNesting", "leave", "()V"⟩ : MethodName)) hown156 (mvT hZ156 (hw _ (List.mem_of_getElem? (i := 34) rfl))) (mvT hZ156 (hw _ (List.mem_of_getElem? (i := 35) rfl))) (notFace_of_selects (args := #[]) (mvT hZ156 (hw _ (List.mem_of_getElem? (i := 37) rfl)))) (mvT hZ156 (hw _ (List.mem_of_getElem? (i := 37) rfl))) (mvT hZ156 (hw _ (List.mem_of_getElem? (i := 36) rfl))) (by decide) (backOf (W := 0) (rlv1 l Z a0 hw [] b141 ar142 va va (upd (upd (fun _ => (0 : Int32)) 0 va) 1 vb) T156.heap n0 Z156 zE161 zF157 zF158 zF159 zA163 gz141 na142 rfl) hZ156 (hw _ (List.mem_of_getElem? (i := 38) rfl)) (hw _ (List.mem_of_getElem? (i := 3) rfl)) (by decide) (by decide)) q165a q165c (g := (mkF m 185 #[.val (.int vp), .val (.int vq), .val (.int vr), .val (.int vs), .val (.int vt), .val (.int va), .val (.int vb), .val (.int vc), .val (.int vy), .val (.int vx), .val (.ref b141), .val (.int (1 : Int32)), .val (.int (1 : Int32)), .val (.int (0 : Int32)), .val (.int (1 : Int32)), .val (.int (0 : Int32)), .val (.int (1 : Int32)), .unset, .unset] [(.ref b141)])) rfl (by rw [hml]; rfl) (Steps.refl _) (argsL := []) (rest := []) (lenOf pd_4 rfl) rfl (by show 2 * 0 + _ ≤ _; exact Nat.le_of_eq rfl) (hb hby at_185) (fun _ _ => ⟨rfl, e164, (by decide : 8 + 0 ≤ _), (by decide : 1509 + 0 ≤ _)⟩)
  dsimp only [Pt.U, Pt.locs, Pt.cells, Pt.slots] at X165 l165 y165 z165 st165 hQ165
  subst l165 y165 z165
  obtain ⟨rfl, Nq165, Kq165, G165_0, G165_1, G165_2, G165_3⟩ := hQ165
  have N165 := Fr.app N164 Nq165
  have zE166 := zE162.keep Kq165
  have zE167 := G156_1.keep Kq165
  have zA168 := zA163.keep Kq165 (ninS (Ne.symm na142) nin0)
  have Z165 := Nat.le_trans Z156 Kq165.1
  have Od165 := Od156.keep Kq165 (allS gz141 all0)
  have sl165 := Nat.le_trans sl156 Kq165.1
  rw [eZ] at G165_3
  obtain ⟨cq169, kq169, q169a, q169b, q169c⟩ := isOf hZ156 rfl G165_0
  obtain ⟨_, _, ⟨T169, L169, k169, n169⟩, -, X169, hS169, hG169, ⟨Lc169, hQ169, l169, y169, z169⟩, st169⟩ := X165.virtualBackS hx (y := (⟨"com/example/caddis/caddis/XmlNesting", "enter", "(I)Ljava/util/Optional;"⟩ : MethodName)) (z := (⟨"com/example/caddis/caddis/XmlNesting", "enter", "(I)Ljava/util/Optional;"⟩ : MethodName)) hown156 (mvT hZ156 (hw _ (List.mem_of_getElem? (i := 13) rfl))) (mvT hZ156 (hw _ (List.mem_of_getElem? (i := 14) rfl))) (notFace_of_selects (args := #[]) (mvT hZ156 (hw _ (List.mem_of_getElem? (i := 16) rfl)))) (mvT hZ156 (hw _ (List.mem_of_getElem? (i := 16) rfl))) (mvT hZ156 (hw _ (List.mem_of_getElem? (i := 15) rfl))) (by decide) (backOfS (W := 0) (rex0 l Z a0 hw [] b141 ar142 em (0 : Int32) vx (upd (upd (fun _ => (0 : Int32)) 0 va) 1 vb) T165.heap n0 Z165 G165_0 G165_1 G165_2 G165_3 zA168 gz141 ga142 na142 (Se.ext Od165.2) (by rw [eX]; exact hc207)) hZ156 (hw _ (List.mem_of_getElem? (i := 17) rfl)) (hw _ (List.mem_of_getElem? (i := 3) rfl)) (by decide) (by decide)) q169a q169c (g := (mkF m 192 #[.val (.int vp), .val (.int vq), .val (.int vr), .val (.int vs), .val (.int vt), .val (.int va), .val (.int vb), .val (.int vc), .val (.int vy), .val (.int vx), .val (.ref b141), .val (.int (1 : Int32)), .val (.int (1 : Int32)), .val (.int (0 : Int32)), .val (.int (1 : Int32)), .val (.int (0 : Int32)), .val (.int (1 : Int32)), .unset, .unset] [(.int vx), (.ref b141)])) rfl (by rw [hml]; rfl) (Steps.refl _) (argsL := [(.int vx)]) (rest := []) (lenOf pd_5 rfl) rfl (by show 2 * 0 + _ ≤ _; exact Nat.le_of_eq rfl) (hb hby at_192) (fun _ _ => ⟨rfl, rfl, (by decide : 8 + 3 ≤ _), (by decide : 1509 + 253 ≤ _)⟩)
  dsimp only [Pt.U, Pt.locs, Pt.cells, Pt.slots] at X169 hS169 hG169 l169 y169 z169 st169 hQ169
  subst l169 y169 z169
  obtain ⟨o169, y169, rfl, Nq169, Kq169, go169, G169_1, G169_2⟩ := hQ169
  have N169 := Fr.app N165 Nq169
  have zF170 := G165_1.keep Kq169 nin0
  have zF171 := G165_2.keep Kq169 nin0
  have zF172 := G165_3.keep Kq169 nin0
  have zE173 := zE166.keep Kq169
  have zE174 := zE167.keep Kq169
  have zE175 := G165_0.keep Kq169
  have zA176 := zA168.keep Kq169 nin0
  have Z169 := Nat.le_trans Z165 Kq169.1
  have Od169 := Od165.keep Kq169 all0
  have hZ169 : Z.Warmed39 (s.setVm T169.vm).vm := State.Warmed39.trans (t := (s.setVm T156.vm)) hZ156 hS169.1
  have hown169 : (s.setVm T169.vm).vm.findClass "com/example/caddis/caddis/XmlNestingLeavePinLaw" = some m.cls := by rw [show (s.setVm T169.vm).vm = T169.vm from rfl, hS169.1.alike.findClass]; exact hown156
  obtain ⟨X169, hS169⟩ := Stand.againW X169 hS156 hS169 (Nat.le_trans sl165 Kq169.1)
  have sl169 : T169.heap.size ≤ T169.heap.size := Nat.le_refl _
  obtain ⟨cq177, kq177, q177a, q177b, q177c⟩ := isOf hZ169 rfl G169_1
  obtain ⟨_, _, ⟨T177, L177, k177, n177⟩, -, X177, ⟨Lc177, hQ177, l177, y177, z177⟩, st177⟩ := X169.virtualBack hx (y := (⟨"java/util/Optional", "isEmpty", "()Z"⟩ : MethodName)) (z := (⟨"java/util/Optional", "isEmpty", "()Z"⟩ : MethodName)) hown169 (mvT hZ169 (hw _ (List.mem_of_getElem? (i := 27) rfl))) (mvT hZ169 (hw _ (List.mem_of_getElem? (i := 28) rfl))) (notFace_of_selects (args := #[]) (mvT hZ169 (hw _ (List.mem_of_getElem? (i := 30) rfl)))) (mvT hZ169 (hw _ (List.mem_of_getElem? (i := 30) rfl))) (mvT hZ169 (hw _ (List.mem_of_getElem? (i := 29) rfl))) (by decide) (backOf (W := 0) (ris0 l Z a0 hw [] o169 y169 T169.heap n0 Z169 G169_2) hZ169 (hw _ (List.mem_of_getElem? (i := 31) rfl)) (hw _ (List.mem_of_getElem? (i := 24) rfl)) (by decide) (by decide)) q177a q177c (g := (mkF m 195 #[.val (.int vp), .val (.int vq), .val (.int vr), .val (.int vs), .val (.int vt), .val (.int va), .val (.int vb), .val (.int vc), .val (.int vy), .val (.int vx), .val (.ref b141), .val (.int (1 : Int32)), .val (.int (1 : Int32)), .val (.int (0 : Int32)), .val (.int (1 : Int32)), .val (.int (0 : Int32)), .val (.int (1 : Int32)), .unset, .unset] [(.ref o169)])) rfl (by rw [hml]; rfl) (Steps.refl _) (argsL := []) (rest := []) (lenOf pd_6 rfl) rfl (by show 2 * 0 + _ ≤ _; exact Nat.le_of_eq rfl) (hb hby at_195) (fun _ _ => ⟨rfl, rfl, (by decide : 11 + 0 ≤ _), (by decide : 1762 + 0 ≤ _)⟩)
  dsimp only [Pt.U, Pt.locs, Pt.cells, Pt.slots] at X177 l177 y177 z177 st177 hQ177
  subst l177 y177 z177
  obtain ⟨rfl, Nq177, e177⟩ := hQ177
  have N177 := Fr.app N169 Nq177
  obtain ⟨fs, hr, hrun, hended, hend⟩ := X177.leaveW hS169 (by rw [e177]; exact sl169) (v := some (.int (1 : Int32))) (fun h => by rw [Bd.returns] at h; cases h)
  refine ⟨_, _, pre0 _ ?_, hrun, hended, _, _, rfl, ?_, hend.1, hend.2.1, hend.2.2.1, hend.2.2.2.mono (by decide) (by decide)⟩
  · show Steps p.tables e below (s₁.setTop (mkF m 0 #[.val (.int vp), .val (.int vq), .val (.int vr), .val (.int vs), .val (.int vt), .unset, .unset, .unset, .unset, .unset, .unset, .unset, .unset, .unset, .unset, .unset, .unset, .unset, .unset] [])) _
    refine pA vp vq vr vs vt va vb vc vy vx X0 hx hZ hw hby hown qa qb qc qy qx hnz _ ?_
    show Steps p.tables e below (s₁.setTop (mkF m 45 #[.val (.int vp), .val (.int vq), .val (.int vr), .val (.int vs), .val (.int vt), .val (.int va), .val (.int vb), .val (.int vc), .val (.int vy), .val (.int vx), .unset, .unset, .unset, .unset, .unset, .unset, .unset, .unset, .unset] [])) _
    refine st141 _ ?_
    show Steps p.tables e below (T141.setTop (mkF m 48 #[.val (.int vp), .val (.int vq), .val (.int vr), .val (.int vs), .val (.int vt), .val (.int va), .val (.int vb), .val (.int vc), .val (.int vy), .val (.int vx), .unset, .unset, .unset, .unset, .unset, .unset, .unset, .unset, .unset] [(.ref b141)])) _
    refine XS.dup X141.here hx rfl (hb hby at_48) rfl rfl ?_
    show Steps p.tables e below (T141.setTop (mkF m 49 #[.val (.int vp), .val (.int vq), .val (.int vr), .val (.int vs), .val (.int vt), .val (.int va), .val (.int vb), .val (.int vc), .val (.int vy), .val (.int vx), .unset, .unset, .unset, .unset, .unset, .unset, .unset, .unset, .unset] [(.ref b141), (.ref b141)])) _
    refine st142.trans ?_
    show Steps p.tables e below (T142.setTop (mkF m 52 #[.val (.int vp), .val (.int vq), .val (.int vr), .val (.int vs), .val (.int vt), .val (.int va), .val (.int vb), .val (.int vc), .val (.int vy), .val (.int vx), .unset, .unset, .unset, .unset, .unset, .unset, .unset, .unset, .unset] [(.ref b141)])) _
    refine XS.astore X142.here hx rfl (hb hby at_52) rfl rfl (l' := #[.val (.int vp), .val (.int vq), .val (.int vr), .val (.int vs), .val (.int vt), .val (.int va), .val (.int vb), .val (.int vc), .val (.int vy), .val (.int vx), .val (.ref b141), .unset, .unset, .unset, .unset, .unset, .unset, .unset, .unset]) rfl ?_
    show Steps p.tables e below (T142.setTop (mkF m 54 #[.val (.int vp), .val (.int vq), .val (.int vr), .val (.int vs), .val (.int vt), .val (.int va), .val (.int vb), .val (.int vc), .val (.int vy), .val (.int vx), .val (.ref b141), .unset, .unset, .unset, .unset, .unset, .unset, .unset, .unset] [])) _
    refine XS.aload X142.here hx rfl (hb hby at_54) rfl rfl ?_
    show Steps p.tables e below (T142.setTop (mkF m 56 #[.val (.int vp), .val (.int vq), .val (.int vr), .val (.int vs), .val (.int vt), .val (.int va), .val (.int vb), .val (.int vc), .val (.int vy), .val (.int vx), .val (.ref b141), .unset, .unset, .unset, .unset, .unset, .unset, .unset, .unset] [(.ref b141)])) _
    refine XS.iload X142.here hx rfl (hb hby at_56) rfl ?_
    show Steps p.tables e below (T142.setTop (mkF m 58 #[.val (.int vp), .val (.int vq), .val (.int vr), .val (.int vs), .val (.int vt), .val (.int va), .val (.int vb), .val (.int vc), .val (.int vy), .val (.int vx), .val (.ref b141), .unset, .unset, .unset, .unset, .unset, .unset, .unset, .unset] [(.int va), (.ref b141)])) _
    refine st143.trans ?_
    show Steps p.tables e below (T143.setTop (mkF m 61 #[.val (.int vp), .val (.int vq), .val (.int vr), .val (.int vs), .val (.int vt), .val (.int va), .val (.int vb), .val (.int vc), .val (.int vy), .val (.int vx), .val (.ref b141), .unset, .unset, .unset, .unset, .unset, .unset, .unset, .unset] [(.ref em)])) _
    refine st144.trans ?_
    show Steps p.tables e below (T144.setTop (mkF m 64 #[.val (.int vp), .val (.int vq), .val (.int vr), .val (.int vs), .val (.int vt), .val (.int va), .val (.int vb), .val (.int vc), .val (.int vy), .val (.int vx), .val (.ref b141), .unset, .unset, .unset, .unset, .unset, .unset, .unset, .unset] [(.int (1 : Int32))])) _
    refine XS.istore X144.here hx rfl (hb hby at_64) rfl (l' := #[.val (.int vp), .val (.int vq), .val (.int vr), .val (.int vs), .val (.int vt), .val (.int va), .val (.int vb), .val (.int vc), .val (.int vy), .val (.int vx), .val (.ref b141), .val (.int (1 : Int32)), .unset, .unset, .unset, .unset, .unset, .unset, .unset]) rfl ?_
    show Steps p.tables e below (T144.setTop (mkF m 66 #[.val (.int vp), .val (.int vq), .val (.int vr), .val (.int vs), .val (.int vt), .val (.int va), .val (.int vb), .val (.int vc), .val (.int vy), .val (.int vx), .val (.ref b141), .val (.int (1 : Int32)), .unset, .unset, .unset, .unset, .unset, .unset, .unset] [])) _
    refine XS.aload X144.here hx rfl (hb hby at_66) rfl rfl ?_
    show Steps p.tables e below (T144.setTop (mkF m 68 #[.val (.int vp), .val (.int vq), .val (.int vr), .val (.int vs), .val (.int vt), .val (.int va), .val (.int vb), .val (.int vc), .val (.int vy), .val (.int vx), .val (.ref b141), .val (.int (1 : Int32)), .unset, .unset, .unset, .unset, .unset, .unset, .unset] [(.ref b141)])) _
    refine XS.iload X144.here hx rfl (hb hby at_68) rfl ?_
    show Steps p.tables e below (T144.setTop (mkF m 70 #[.val (.int vp), .val (.int vq), .val (.int vr), .val (.int vs), .val (.int vt), .val (.int va), .val (.int vb), .val (.int vc), .val (.int vy), .val (.int vx), .val (.ref b141), .val (.int (1 : Int32)), .unset, .unset, .unset, .unset, .unset, .unset, .unset] [(.int vb), (.ref b141)])) _
    refine st145.trans ?_
    show Steps p.tables e below (T145.setTop (mkF m 73 #[.val (.int vp), .val (.int vq), .val (.int vr), .val (.int vs), .val (.int vt), .val (.int va), .val (.int vb), .val (.int vc), .val (.int vy), .val (.int vx), .val (.ref b141), .val (.int (1 : Int32)), .unset, .unset, .unset, .unset, .unset, .unset, .unset] [(.ref em)])) _
    refine st146.trans ?_
    show Steps p.tables e below (T146.setTop (mkF m 76 #[.val (.int vp), .val (.int vq), .val (.int vr), .val (.int vs), .val (.int vt), .val (.int va), .val (.int vb), .val (.int vc), .val (.int vy), .val (.int vx), .val (.ref b141), .val (.int (1 : Int32)), .unset, .unset, .unset, .unset, .unset, .unset, .unset] [(.int (1 : Int32))])) _
    refine XS.istore X146.here hx rfl (hb hby at_76) rfl (l' := #[.val (.int vp), .val (.int vq), .val (.int vr), .val (.int vs), .val (.int vt), .val (.int va), .val (.int vb), .val (.int vc), .val (.int vy), .val (.int vx), .val (.ref b141), .val (.int (1 : Int32)), .val (.int (1 : Int32)), .unset, .unset, .unset, .unset, .unset, .unset]) rfl ?_
    show Steps p.tables e below (T146.setTop (mkF m 78 #[.val (.int vp), .val (.int vq), .val (.int vr), .val (.int vs), .val (.int vt), .val (.int va), .val (.int vb), .val (.int vc), .val (.int vy), .val (.int vx), .val (.ref b141), .val (.int (1 : Int32)), .val (.int (1 : Int32)), .unset, .unset, .unset, .unset, .unset, .unset] [])) _
    refine XS.aload X146.here hx rfl (hb hby at_78) rfl rfl ?_
    show Steps p.tables e below (T146.setTop (mkF m 80 #[.val (.int vp), .val (.int vq), .val (.int vr), .val (.int vs), .val (.int vt), .val (.int va), .val (.int vb), .val (.int vc), .val (.int vy), .val (.int vx), .val (.ref b141), .val (.int (1 : Int32)), .val (.int (1 : Int32)), .unset, .unset, .unset, .unset, .unset, .unset] [(.ref b141)])) _
    refine st147.trans ?_
    show Steps p.tables e below (T147.setTop (mkF m 83 #[.val (.int vp), .val (.int vq), .val (.int vr), .val (.int vs), .val (.int vt), .val (.int va), .val (.int vb), .val (.int vc), .val (.int vy), .val (.int vx), .val (.ref b141), .val (.int (1 : Int32)), .val (.int (1 : Int32)), .unset, .unset, .unset, .unset, .unset, .unset] [])) _
    refine XS.aload X147.here hx rfl (hb hby at_83) rfl rfl ?_
    show Steps p.tables e below (T147.setTop (mkF m 85 #[.val (.int vp), .val (.int vq), .val (.int vr), .val (.int vs), .val (.int vt), .val (.int va), .val (.int vb), .val (.int vc), .val (.int vy), .val (.int vx), .val (.ref b141), .val (.int (1 : Int32)), .val (.int (1 : Int32)), .unset, .unset, .unset, .unset, .unset, .unset] [(.ref b141)])) _
    refine XS.iload X147.here hx rfl (hb hby at_85) rfl ?_
    show Steps p.tables e below (T147.setTop (mkF m 87 #[.val (.int vp), .val (.int vq), .val (.int vr), .val (.int vs), .val (.int vt), .val (.int va), .val (.int vb), .val (.int vc), .val (.int vy), .val (.int vx), .val (.ref b141), .val (.int (1 : Int32)), .val (.int (1 : Int32)), .unset, .unset, .unset, .unset, .unset, .unset] [(.int vc), (.ref b141)])) _
    refine st149.trans ?_
    show Steps p.tables e below (T149.setTop (mkF m 90 #[.val (.int vp), .val (.int vq), .val (.int vr), .val (.int vs), .val (.int vt), .val (.int va), .val (.int vb), .val (.int vc), .val (.int vy), .val (.int vx), .val (.ref b141), .val (.int (1 : Int32)), .val (.int (1 : Int32)), .unset, .unset, .unset, .unset, .unset, .unset] [(.ref o149)])) _
    refine st155.trans ?_
    show Steps p.tables e below (T155.setTop (mkF m 93 #[.val (.int vp), .val (.int vq), .val (.int vr), .val (.int vs), .val (.int vt), .val (.int va), .val (.int vb), .val (.int vc), .val (.int vy), .val (.int vx), .val (.ref b141), .val (.int (1 : Int32)), .val (.int (1 : Int32)), .unset, .unset, .unset, .unset, .unset, .unset] [(.int (0 : Int32))])) _
    refine XS.istore X155.here hx rfl (hb hby at_93) rfl (l' := #[.val (.int vp), .val (.int vq), .val (.int vr), .val (.int vs), .val (.int vt), .val (.int va), .val (.int vb), .val (.int vc), .val (.int vy), .val (.int vx), .val (.ref b141), .val (.int (1 : Int32)), .val (.int (1 : Int32)), .val (.int (0 : Int32)), .unset, .unset, .unset, .unset, .unset]) rfl ?_
    show Steps p.tables e below (T155.setTop (mkF m 95 #[.val (.int vp), .val (.int vq), .val (.int vr), .val (.int vs), .val (.int vt), .val (.int va), .val (.int vb), .val (.int vc), .val (.int vy), .val (.int vx), .val (.ref b141), .val (.int (1 : Int32)), .val (.int (1 : Int32)), .val (.int (0 : Int32)), .unset, .unset, .unset, .unset, .unset] [])) _
    refine XS.iload X155.here hx rfl (hb hby at_95) rfl ?_
    show Steps p.tables e below (T155.setTop (mkF m 97 #[.val (.int vp), .val (.int vq), .val (.int vr), .val (.int vs), .val (.int vt), .val (.int va), .val (.int vb), .val (.int vc), .val (.int vy), .val (.int vx), .val (.ref b141), .val (.int (1 : Int32)), .val (.int (1 : Int32)), .val (.int (0 : Int32)), .unset, .unset, .unset, .unset, .unset] [(.int (0 : Int32))])) _
    refine XS.iload X155.here hx rfl (hb hby at_97) rfl ?_
    show Steps p.tables e below (T155.setTop (mkF m 99 #[.val (.int vp), .val (.int vq), .val (.int vr), .val (.int vs), .val (.int vt), .val (.int va), .val (.int vb), .val (.int vc), .val (.int vy), .val (.int vx), .val (.ref b141), .val (.int (1 : Int32)), .val (.int (1 : Int32)), .val (.int (0 : Int32)), .unset, .unset, .unset, .unset, .unset] [(.int va), (.int (0 : Int32))])) _
    refine XS.iload X155.here hx rfl (hb hby at_99) rfl ?_
    show Steps p.tables e below (T155.setTop (mkF m 101 #[.val (.int vp), .val (.int vq), .val (.int vr), .val (.int vs), .val (.int vt), .val (.int va), .val (.int vb), .val (.int vc), .val (.int vy), .val (.int vx), .val (.ref b141), .val (.int (1 : Int32)), .val (.int (1 : Int32)), .val (.int (0 : Int32)), .unset, .unset, .unset, .unset, .unset] [(.int vc), (.int va), (.int (0 : Int32))])) _
    refine XS.iadd X155.here hx rfl (hb hby at_101) rfl ?_
    show Steps p.tables e below (T155.setTop (mkF m 102 #[.val (.int vp), .val (.int vq), .val (.int vr), .val (.int vs), .val (.int vt), .val (.int va), .val (.int vb), .val (.int vc), .val (.int vy), .val (.int vx), .val (.ref b141), .val (.int (1 : Int32)), .val (.int (1 : Int32)), .val (.int (0 : Int32)), .unset, .unset, .unset, .unset, .unset] [(.int (va + vc)), (.int (0 : Int32))])) _
    refine XS.sipush X155.here hx rfl (hb hby at_102) ?_
    show Steps p.tables e below (T155.setTop (mkF m 105 #[.val (.int vp), .val (.int vq), .val (.int vr), .val (.int vs), .val (.int vt), .val (.int va), .val (.int vb), .val (.int vc), .val (.int vy), .val (.int vx), .val (.ref b141), .val (.int (1 : Int32)), .val (.int (1 : Int32)), .val (.int (0 : Int32)), .unset, .unset, .unset, .unset, .unset] [(.int (1000 : Int32)), (.int (va + vc)), (.int (0 : Int32))])) _
    refine XS.icmpYes X155.here hx rfl (pc0 := 105) (pc' := 112) rfl (hb hby at_105) rfl (tlt hc105).2.2.1 (by decide) (by decide) ?_
    show Steps p.tables e below (T155.setTop (mkF m 112 #[.val (.int vp), .val (.int vq), .val (.int vr), .val (.int vs), .val (.int vt), .val (.int va), .val (.int vb), .val (.int vc), .val (.int vy), .val (.int vx), .val (.ref b141), .val (.int (1 : Int32)), .val (.int (1 : Int32)), .val (.int (0 : Int32)), .unset, .unset, .unset, .unset, .unset] [(.int (0 : Int32))])) _
    refine XS.iconst X155.here hx rfl (hb hby at_112) ?_
    show Steps p.tables e below (T155.setTop (mkF m 113 #[.val (.int vp), .val (.int vq), .val (.int vr), .val (.int vs), .val (.int vt), .val (.int va), .val (.int vb), .val (.int vc), .val (.int vy), .val (.int vx), .val (.ref b141), .val (.int (1 : Int32)), .val (.int (1 : Int32)), .val (.int (0 : Int32)), .unset, .unset, .unset, .unset, .unset] [(.int (0 : Int32)), (.int (0 : Int32))])) _
    refine XS.icmpNo X155.here hx rfl (hb hby at_113) rfl (teq (by decide)).2 ?_
    show Steps p.tables e below (T155.setTop (mkF m 116 #[.val (.int vp), .val (.int vq), .val (.int vr), .val (.int vs), .val (.int vt), .val (.int va), .val (.int vb), .val (.int vc), .val (.int vy), .val (.int vx), .val (.ref b141), .val (.int (1 : Int32)), .val (.int (1 : Int32)), .val (.int (0 : Int32)), .unset, .unset, .unset, .unset, .unset] [])) _
    refine XS.iconst X155.here hx rfl (hb hby at_116) ?_
    show Steps p.tables e below (T155.setTop (mkF m 117 #[.val (.int vp), .val (.int vq), .val (.int vr), .val (.int vs), .val (.int vt), .val (.int va), .val (.int vb), .val (.int vc), .val (.int vy), .val (.int vx), .val (.ref b141), .val (.int (1 : Int32)), .val (.int (1 : Int32)), .val (.int (0 : Int32)), .unset, .unset, .unset, .unset, .unset] [(.int (1 : Int32))])) _
    refine XS.goto X155.here hx rfl (pc0 := 117) (pc' := 121) rfl (hb hby at_117) (by decide) (by decide) ?_
    show Steps p.tables e below (T155.setTop (mkF m 121 #[.val (.int vp), .val (.int vq), .val (.int vr), .val (.int vs), .val (.int vt), .val (.int va), .val (.int vb), .val (.int vc), .val (.int vy), .val (.int vx), .val (.ref b141), .val (.int (1 : Int32)), .val (.int (1 : Int32)), .val (.int (0 : Int32)), .unset, .unset, .unset, .unset, .unset] [(.int (1 : Int32))])) _
    refine XS.istore X155.here hx rfl (hb hby at_121) rfl (l' := #[.val (.int vp), .val (.int vq), .val (.int vr), .val (.int vs), .val (.int vt), .val (.int va), .val (.int vb), .val (.int vc), .val (.int vy), .val (.int vx), .val (.ref b141), .val (.int (1 : Int32)), .val (.int (1 : Int32)), .val (.int (0 : Int32)), .val (.int (1 : Int32)), .unset, .unset, .unset, .unset]) rfl ?_
    show Steps p.tables e below (T155.setTop (mkF m 123 #[.val (.int vp), .val (.int vq), .val (.int vr), .val (.int vs), .val (.int vt), .val (.int va), .val (.int vb), .val (.int vc), .val (.int vy), .val (.int vx), .val (.ref b141), .val (.int (1 : Int32)), .val (.int (1 : Int32)), .val (.int (0 : Int32)), .val (.int (1 : Int32)), .unset, .unset, .unset, .unset] [])) _
    refine XS.iload X155.here hx rfl (hb hby at_123) rfl ?_
    show Steps p.tables e below (T155.setTop (mkF m 125 #[.val (.int vp), .val (.int vq), .val (.int vr), .val (.int vs), .val (.int vt), .val (.int va), .val (.int vb), .val (.int vc), .val (.int vy), .val (.int vx), .val (.ref b141), .val (.int (1 : Int32)), .val (.int (1 : Int32)), .val (.int (0 : Int32)), .val (.int (1 : Int32)), .unset, .unset, .unset, .unset] [(.int (0 : Int32))])) _
    refine XS.ifYes X155.here hx rfl (pc0 := 125) (pc' := 133) rfl (hb hby at_125) rfl ((if0 _ _).trans (teq (by decide)).1) (by decide) (by decide) ?_
    show Steps p.tables e below (T155.setTop (mkF m 133 #[.val (.int vp), .val (.int vq), .val (.int vr), .val (.int vs), .val (.int vt), .val (.int va), .val (.int vb), .val (.int vc), .val (.int vy), .val (.int vx), .val (.ref b141), .val (.int (1 : Int32)), .val (.int (1 : Int32)), .val (.int (0 : Int32)), .val (.int (1 : Int32)), .unset, .unset, .unset, .unset] [])) _
    refine XS.aload X155.here hx rfl (hb hby at_133) rfl rfl ?_
    show Steps p.tables e below (T155.setTop (mkF m 135 #[.val (.int vp), .val (.int vq), .val (.int vr), .val (.int vs), .val (.int vt), .val (.int va), .val (.int vb), .val (.int vc), .val (.int vy), .val (.int vx), .val (.ref b141), .val (.int (1 : Int32)), .val (.int (1 : Int32)), .val (.int (0 : Int32)), .val (.int (1 : Int32)), .unset, .unset, .unset, .unset] [(.ref b141)])) _
    refine XS.iload X155.here hx rfl (hb hby at_135) rfl ?_
    show Steps p.tables e below (T155.setTop (mkF m 137 #[.val (.int vp), .val (.int vq), .val (.int vr), .val (.int vs), .val (.int vt), .val (.int va), .val (.int vb), .val (.int vc), .val (.int vy), .val (.int vx), .val (.ref b141), .val (.int (1 : Int32)), .val (.int (1 : Int32)), .val (.int (0 : Int32)), .val (.int (1 : Int32)), .unset, .unset, .unset, .unset] [(.int vy), (.ref b141)])) _
    refine st156.trans ?_
    show Steps p.tables e below (T156.setTop (mkF m 140 #[.val (.int vp), .val (.int vq), .val (.int vr), .val (.int vs), .val (.int vt), .val (.int va), .val (.int vb), .val (.int vc), .val (.int vy), .val (.int vx), .val (.ref b141), .val (.int (1 : Int32)), .val (.int (1 : Int32)), .val (.int (0 : Int32)), .val (.int (1 : Int32)), .unset, .unset, .unset, .unset] [(.ref o156)])) _
    refine st164.trans ?_
    show Steps p.tables e below (T164.setTop (mkF m 143 #[.val (.int vp), .val (.int vq), .val (.int vr), .val (.int vs), .val (.int vt), .val (.int va), .val (.int vb), .val (.int vc), .val (.int vy), .val (.int vx), .val (.ref b141), .val (.int (1 : Int32)), .val (.int (1 : Int32)), .val (.int (0 : Int32)), .val (.int (1 : Int32)), .unset, .unset, .unset, .unset] [(.int (0 : Int32))])) _
    refine XS.istore X164.here hx rfl (hb hby at_143) rfl (l' := #[.val (.int vp), .val (.int vq), .val (.int vr), .val (.int vs), .val (.int vt), .val (.int va), .val (.int vb), .val (.int vc), .val (.int vy), .val (.int vx), .val (.ref b141), .val (.int (1 : Int32)), .val (.int (1 : Int32)), .val (.int (0 : Int32)), .val (.int (1 : Int32)), .val (.int (0 : Int32)), .unset, .unset, .unset]) rfl ?_
    show Steps p.tables e below (T164.setTop (mkF m 145 #[.val (.int vp), .val (.int vq), .val (.int vr), .val (.int vs), .val (.int vt), .val (.int va), .val (.int vb), .val (.int vc), .val (.int vy), .val (.int vx), .val (.ref b141), .val (.int (1 : Int32)), .val (.int (1 : Int32)), .val (.int (0 : Int32)), .val (.int (1 : Int32)), .val (.int (0 : Int32)), .unset, .unset, .unset] [])) _
    refine XS.iload X164.here hx rfl (hb hby at_145) rfl ?_
    show Steps p.tables e below (T164.setTop (mkF m 147 #[.val (.int vp), .val (.int vq), .val (.int vr), .val (.int vs), .val (.int vt), .val (.int va), .val (.int vb), .val (.int vc), .val (.int vy), .val (.int vx), .val (.ref b141), .val (.int (1 : Int32)), .val (.int (1 : Int32)), .val (.int (0 : Int32)), .val (.int (1 : Int32)), .val (.int (0 : Int32)), .unset, .unset, .unset] [(.int (0 : Int32))])) _
    refine XS.iload X164.here hx rfl (hb hby at_147) rfl ?_
    show Steps p.tables e below (T164.setTop (mkF m 149 #[.val (.int vp), .val (.int vq), .val (.int vr), .val (.int vs), .val (.int vt), .val (.int va), .val (.int vb), .val (.int vc), .val (.int vy), .val (.int vx), .val (.ref b141), .val (.int (1 : Int32)), .val (.int (1 : Int32)), .val (.int (0 : Int32)), .val (.int (1 : Int32)), .val (.int (0 : Int32)), .unset, .unset, .unset] [(.int va), (.int (0 : Int32))])) _
    refine XS.iload X164.here hx rfl (hb hby at_149) rfl ?_
    show Steps p.tables e below (T164.setTop (mkF m 151 #[.val (.int vp), .val (.int vq), .val (.int vr), .val (.int vs), .val (.int vt), .val (.int va), .val (.int vb), .val (.int vc), .val (.int vy), .val (.int vx), .val (.ref b141), .val (.int (1 : Int32)), .val (.int (1 : Int32)), .val (.int (0 : Int32)), .val (.int (1 : Int32)), .val (.int (0 : Int32)), .unset, .unset, .unset] [(.int vy), (.int va), (.int (0 : Int32))])) _
    refine XS.iadd X164.here hx rfl (hb hby at_151) rfl ?_
    show Steps p.tables e below (T164.setTop (mkF m 152 #[.val (.int vp), .val (.int vq), .val (.int vr), .val (.int vs), .val (.int vt), .val (.int va), .val (.int vb), .val (.int vc), .val (.int vy), .val (.int vx), .val (.ref b141), .val (.int (1 : Int32)), .val (.int (1 : Int32)), .val (.int (0 : Int32)), .val (.int (1 : Int32)), .val (.int (0 : Int32)), .unset, .unset, .unset] [(.int (va + vy)), (.int (0 : Int32))])) _
    refine XS.sipush X164.here hx rfl (hb hby at_152) ?_
    show Steps p.tables e below (T164.setTop (mkF m 155 #[.val (.int vp), .val (.int vq), .val (.int vr), .val (.int vs), .val (.int vt), .val (.int va), .val (.int vb), .val (.int vc), .val (.int vy), .val (.int vx), .val (.ref b141), .val (.int (1 : Int32)), .val (.int (1 : Int32)), .val (.int (0 : Int32)), .val (.int (1 : Int32)), .val (.int (0 : Int32)), .unset, .unset, .unset] [(.int (1000 : Int32)), (.int (va + vy)), (.int (0 : Int32))])) _
    refine XS.icmpYes X164.here hx rfl (pc0 := 155) (pc' := 162) rfl (hb hby at_155) rfl (tlt hc155).2.2.1 (by decide) (by decide) ?_
    show Steps p.tables e below (T164.setTop (mkF m 162 #[.val (.int vp), .val (.int vq), .val (.int vr), .val (.int vs), .val (.int vt), .val (.int va), .val (.int vb), .val (.int vc), .val (.int vy), .val (.int vx), .val (.ref b141), .val (.int (1 : Int32)), .val (.int (1 : Int32)), .val (.int (0 : Int32)), .val (.int (1 : Int32)), .val (.int (0 : Int32)), .unset, .unset, .unset] [(.int (0 : Int32))])) _
    refine XS.iconst X164.here hx rfl (hb hby at_162) ?_
    show Steps p.tables e below (T164.setTop (mkF m 163 #[.val (.int vp), .val (.int vq), .val (.int vr), .val (.int vs), .val (.int vt), .val (.int va), .val (.int vb), .val (.int vc), .val (.int vy), .val (.int vx), .val (.ref b141), .val (.int (1 : Int32)), .val (.int (1 : Int32)), .val (.int (0 : Int32)), .val (.int (1 : Int32)), .val (.int (0 : Int32)), .unset, .unset, .unset] [(.int (0 : Int32)), (.int (0 : Int32))])) _
    refine XS.icmpNo X164.here hx rfl (hb hby at_163) rfl (teq (by decide)).2 ?_
    show Steps p.tables e below (T164.setTop (mkF m 166 #[.val (.int vp), .val (.int vq), .val (.int vr), .val (.int vs), .val (.int vt), .val (.int va), .val (.int vb), .val (.int vc), .val (.int vy), .val (.int vx), .val (.ref b141), .val (.int (1 : Int32)), .val (.int (1 : Int32)), .val (.int (0 : Int32)), .val (.int (1 : Int32)), .val (.int (0 : Int32)), .unset, .unset, .unset] [])) _
    refine XS.iconst X164.here hx rfl (hb hby at_166) ?_
    show Steps p.tables e below (T164.setTop (mkF m 167 #[.val (.int vp), .val (.int vq), .val (.int vr), .val (.int vs), .val (.int vt), .val (.int va), .val (.int vb), .val (.int vc), .val (.int vy), .val (.int vx), .val (.ref b141), .val (.int (1 : Int32)), .val (.int (1 : Int32)), .val (.int (0 : Int32)), .val (.int (1 : Int32)), .val (.int (0 : Int32)), .unset, .unset, .unset] [(.int (1 : Int32))])) _
    refine XS.goto X164.here hx rfl (pc0 := 167) (pc' := 171) rfl (hb hby at_167) (by decide) (by decide) ?_
    show Steps p.tables e below (T164.setTop (mkF m 171 #[.val (.int vp), .val (.int vq), .val (.int vr), .val (.int vs), .val (.int vt), .val (.int va), .val (.int vb), .val (.int vc), .val (.int vy), .val (.int vx), .val (.ref b141), .val (.int (1 : Int32)), .val (.int (1 : Int32)), .val (.int (0 : Int32)), .val (.int (1 : Int32)), .val (.int (0 : Int32)), .unset, .unset, .unset] [(.int (1 : Int32))])) _
    refine XS.istore X164.here hx rfl (hb hby at_171) rfl (l' := #[.val (.int vp), .val (.int vq), .val (.int vr), .val (.int vs), .val (.int vt), .val (.int va), .val (.int vb), .val (.int vc), .val (.int vy), .val (.int vx), .val (.ref b141), .val (.int (1 : Int32)), .val (.int (1 : Int32)), .val (.int (0 : Int32)), .val (.int (1 : Int32)), .val (.int (0 : Int32)), .val (.int (1 : Int32)), .unset, .unset]) rfl ?_
    show Steps p.tables e below (T164.setTop (mkF m 173 #[.val (.int vp), .val (.int vq), .val (.int vr), .val (.int vs), .val (.int vt), .val (.int va), .val (.int vb), .val (.int vc), .val (.int vy), .val (.int vx), .val (.ref b141), .val (.int (1 : Int32)), .val (.int (1 : Int32)), .val (.int (0 : Int32)), .val (.int (1 : Int32)), .val (.int (0 : Int32)), .val (.int (1 : Int32)), .unset, .unset] [])) _
    refine XS.iload X164.here hx rfl (hb hby at_173) rfl ?_
    show Steps p.tables e below (T164.setTop (mkF m 175 #[.val (.int vp), .val (.int vq), .val (.int vr), .val (.int vs), .val (.int vt), .val (.int va), .val (.int vb), .val (.int vc), .val (.int vy), .val (.int vx), .val (.ref b141), .val (.int (1 : Int32)), .val (.int (1 : Int32)), .val (.int (0 : Int32)), .val (.int (1 : Int32)), .val (.int (0 : Int32)), .val (.int (1 : Int32)), .unset, .unset] [(.int (0 : Int32))])) _
    refine XS.ifYes X164.here hx rfl (pc0 := 175) (pc' := 183) rfl (hb hby at_175) rfl ((if0 _ _).trans (teq (by decide)).1) (by decide) (by decide) ?_
    show Steps p.tables e below (T164.setTop (mkF m 183 #[.val (.int vp), .val (.int vq), .val (.int vr), .val (.int vs), .val (.int vt), .val (.int va), .val (.int vb), .val (.int vc), .val (.int vy), .val (.int vx), .val (.ref b141), .val (.int (1 : Int32)), .val (.int (1 : Int32)), .val (.int (0 : Int32)), .val (.int (1 : Int32)), .val (.int (0 : Int32)), .val (.int (1 : Int32)), .unset, .unset] [])) _
    refine XS.aload X164.here hx rfl (hb hby at_183) rfl rfl ?_
    show Steps p.tables e below (T164.setTop (mkF m 185 #[.val (.int vp), .val (.int vq), .val (.int vr), .val (.int vs), .val (.int vt), .val (.int va), .val (.int vb), .val (.int vc), .val (.int vy), .val (.int vx), .val (.ref b141), .val (.int (1 : Int32)), .val (.int (1 : Int32)), .val (.int (0 : Int32)), .val (.int (1 : Int32)), .val (.int (0 : Int32)), .val (.int (1 : Int32)), .unset, .unset] [(.ref b141)])) _
    refine st165.trans ?_
    show Steps p.tables e below (T165.setTop (mkF m 188 #[.val (.int vp), .val (.int vq), .val (.int vr), .val (.int vs), .val (.int vt), .val (.int va), .val (.int vb), .val (.int vc), .val (.int vy), .val (.int vx), .val (.ref b141), .val (.int (1 : Int32)), .val (.int (1 : Int32)), .val (.int (0 : Int32)), .val (.int (1 : Int32)), .val (.int (0 : Int32)), .val (.int (1 : Int32)), .unset, .unset] [])) _
    refine XS.aload X165.here hx rfl (hb hby at_188) rfl rfl ?_
    show Steps p.tables e below (T165.setTop (mkF m 190 #[.val (.int vp), .val (.int vq), .val (.int vr), .val (.int vs), .val (.int vt), .val (.int va), .val (.int vb), .val (.int vc), .val (.int vy), .val (.int vx), .val (.ref b141), .val (.int (1 : Int32)), .val (.int (1 : Int32)), .val (.int (0 : Int32)), .val (.int (1 : Int32)), .val (.int (0 : Int32)), .val (.int (1 : Int32)), .unset, .unset] [(.ref b141)])) _
    refine XS.iload X165.here hx rfl (hb hby at_190) rfl ?_
    show Steps p.tables e below (T165.setTop (mkF m 192 #[.val (.int vp), .val (.int vq), .val (.int vr), .val (.int vs), .val (.int vt), .val (.int va), .val (.int vb), .val (.int vc), .val (.int vy), .val (.int vx), .val (.ref b141), .val (.int (1 : Int32)), .val (.int (1 : Int32)), .val (.int (0 : Int32)), .val (.int (1 : Int32)), .val (.int (0 : Int32)), .val (.int (1 : Int32)), .unset, .unset] [(.int vx), (.ref b141)])) _
    refine st169.trans ?_
    show Steps p.tables e below (T169.setTop (mkF m 195 #[.val (.int vp), .val (.int vq), .val (.int vr), .val (.int vs), .val (.int vt), .val (.int va), .val (.int vb), .val (.int vc), .val (.int vy), .val (.int vx), .val (.ref b141), .val (.int (1 : Int32)), .val (.int (1 : Int32)), .val (.int (0 : Int32)), .val (.int (1 : Int32)), .val (.int (0 : Int32)), .val (.int (1 : Int32)), .unset, .unset] [(.ref o169)])) _
    refine st177.trans ?_
    show Steps p.tables e below (T177.setTop (mkF m 198 #[.val (.int vp), .val (.int vq), .val (.int vr), .val (.int vs), .val (.int vt), .val (.int va), .val (.int vb), .val (.int vc), .val (.int vy), .val (.int vx), .val (.ref b141), .val (.int (1 : Int32)), .val (.int (1 : Int32)), .val (.int (0 : Int32)), .val (.int (1 : Int32)), .val (.int (0 : Int32)), .val (.int (1 : Int32)), .unset, .unset] [(.int (0 : Int32))])) _
    refine XS.istore X177.here hx rfl (hb hby at_198) rfl (l' := #[.val (.int vp), .val (.int vq), .val (.int vr), .val (.int vs), .val (.int vt), .val (.int va), .val (.int vb), .val (.int vc), .val (.int vy), .val (.int vx), .val (.ref b141), .val (.int (1 : Int32)), .val (.int (1 : Int32)), .val (.int (0 : Int32)), .val (.int (1 : Int32)), .val (.int (0 : Int32)), .val (.int (1 : Int32)), .val (.int (0 : Int32)), .unset]) rfl ?_
    show Steps p.tables e below (T177.setTop (mkF m 200 #[.val (.int vp), .val (.int vq), .val (.int vr), .val (.int vs), .val (.int vt), .val (.int va), .val (.int vb), .val (.int vc), .val (.int vy), .val (.int vx), .val (.ref b141), .val (.int (1 : Int32)), .val (.int (1 : Int32)), .val (.int (0 : Int32)), .val (.int (1 : Int32)), .val (.int (0 : Int32)), .val (.int (1 : Int32)), .val (.int (0 : Int32)), .unset] [])) _
    refine XS.iload X177.here hx rfl (hb hby at_200) rfl ?_
    show Steps p.tables e below (T177.setTop (mkF m 202 #[.val (.int vp), .val (.int vq), .val (.int vr), .val (.int vs), .val (.int vt), .val (.int va), .val (.int vb), .val (.int vc), .val (.int vy), .val (.int vx), .val (.ref b141), .val (.int (1 : Int32)), .val (.int (1 : Int32)), .val (.int (0 : Int32)), .val (.int (1 : Int32)), .val (.int (0 : Int32)), .val (.int (1 : Int32)), .val (.int (0 : Int32)), .unset] [(.int (0 : Int32))])) _
    refine XS.iload X177.here hx rfl (hb hby at_202) rfl ?_
    show Steps p.tables e below (T177.setTop (mkF m 204 #[.val (.int vp), .val (.int vq), .val (.int vr), .val (.int vs), .val (.int vt), .val (.int va), .val (.int vb), .val (.int vc), .val (.int vy), .val (.int vx), .val (.ref b141), .val (.int (1 : Int32)), .val (.int (1 : Int32)), .val (.int (0 : Int32)), .val (.int (1 : Int32)), .val (.int (0 : Int32)), .val (.int (1 : Int32)), .val (.int (0 : Int32)), .unset] [(.int vx), (.int (0 : Int32))])) _
    refine XS.sipush X177.here hx rfl (hb hby at_204) ?_
    show Steps p.tables e below (T177.setTop (mkF m 207 #[.val (.int vp), .val (.int vq), .val (.int vr), .val (.int vs), .val (.int vt), .val (.int va), .val (.int vb), .val (.int vc), .val (.int vy), .val (.int vx), .val (.ref b141), .val (.int (1 : Int32)), .val (.int (1 : Int32)), .val (.int (0 : Int32)), .val (.int (1 : Int32)), .val (.int (0 : Int32)), .val (.int (1 : Int32)), .val (.int (0 : Int32)), .unset] [(.int (1000 : Int32)), (.int vx), (.int (0 : Int32))])) _
    refine XS.icmpYes X177.here hx rfl (pc0 := 207) (pc' := 214) rfl (hb hby at_207) rfl (tlt hc207).2.2.1 (by decide) (by decide) ?_
    show Steps p.tables e below (T177.setTop (mkF m 214 #[.val (.int vp), .val (.int vq), .val (.int vr), .val (.int vs), .val (.int vt), .val (.int va), .val (.int vb), .val (.int vc), .val (.int vy), .val (.int vx), .val (.ref b141), .val (.int (1 : Int32)), .val (.int (1 : Int32)), .val (.int (0 : Int32)), .val (.int (1 : Int32)), .val (.int (0 : Int32)), .val (.int (1 : Int32)), .val (.int (0 : Int32)), .unset] [(.int (0 : Int32))])) _
    refine XS.iconst X177.here hx rfl (hb hby at_214) ?_
    show Steps p.tables e below (T177.setTop (mkF m 215 #[.val (.int vp), .val (.int vq), .val (.int vr), .val (.int vs), .val (.int vt), .val (.int va), .val (.int vb), .val (.int vc), .val (.int vy), .val (.int vx), .val (.ref b141), .val (.int (1 : Int32)), .val (.int (1 : Int32)), .val (.int (0 : Int32)), .val (.int (1 : Int32)), .val (.int (0 : Int32)), .val (.int (1 : Int32)), .val (.int (0 : Int32)), .unset] [(.int (0 : Int32)), (.int (0 : Int32))])) _
    refine XS.icmpNo X177.here hx rfl (hb hby at_215) rfl (teq (by decide)).2 ?_
    show Steps p.tables e below (T177.setTop (mkF m 218 #[.val (.int vp), .val (.int vq), .val (.int vr), .val (.int vs), .val (.int vt), .val (.int va), .val (.int vb), .val (.int vc), .val (.int vy), .val (.int vx), .val (.ref b141), .val (.int (1 : Int32)), .val (.int (1 : Int32)), .val (.int (0 : Int32)), .val (.int (1 : Int32)), .val (.int (0 : Int32)), .val (.int (1 : Int32)), .val (.int (0 : Int32)), .unset] [])) _
    refine XS.iconst X177.here hx rfl (hb hby at_218) ?_
    show Steps p.tables e below (T177.setTop (mkF m 219 #[.val (.int vp), .val (.int vq), .val (.int vr), .val (.int vs), .val (.int vt), .val (.int va), .val (.int vb), .val (.int vc), .val (.int vy), .val (.int vx), .val (.ref b141), .val (.int (1 : Int32)), .val (.int (1 : Int32)), .val (.int (0 : Int32)), .val (.int (1 : Int32)), .val (.int (0 : Int32)), .val (.int (1 : Int32)), .val (.int (0 : Int32)), .unset] [(.int (1 : Int32))])) _
    refine XS.goto X177.here hx rfl (pc0 := 219) (pc' := 223) rfl (hb hby at_219) (by decide) (by decide) ?_
    show Steps p.tables e below (T177.setTop (mkF m 223 #[.val (.int vp), .val (.int vq), .val (.int vr), .val (.int vs), .val (.int vt), .val (.int va), .val (.int vb), .val (.int vc), .val (.int vy), .val (.int vx), .val (.ref b141), .val (.int (1 : Int32)), .val (.int (1 : Int32)), .val (.int (0 : Int32)), .val (.int (1 : Int32)), .val (.int (0 : Int32)), .val (.int (1 : Int32)), .val (.int (0 : Int32)), .unset] [(.int (1 : Int32))])) _
    refine XS.istore X177.here hx rfl (hb hby at_223) rfl (l' := #[.val (.int vp), .val (.int vq), .val (.int vr), .val (.int vs), .val (.int vt), .val (.int va), .val (.int vb), .val (.int vc), .val (.int vy), .val (.int vx), .val (.ref b141), .val (.int (1 : Int32)), .val (.int (1 : Int32)), .val (.int (0 : Int32)), .val (.int (1 : Int32)), .val (.int (0 : Int32)), .val (.int (1 : Int32)), .val (.int (0 : Int32)), .val (.int (1 : Int32))]) rfl ?_
    show Steps p.tables e below (T177.setTop (mkF m 225 #[.val (.int vp), .val (.int vq), .val (.int vr), .val (.int vs), .val (.int vt), .val (.int va), .val (.int vb), .val (.int vc), .val (.int vy), .val (.int vx), .val (.ref b141), .val (.int (1 : Int32)), .val (.int (1 : Int32)), .val (.int (0 : Int32)), .val (.int (1 : Int32)), .val (.int (0 : Int32)), .val (.int (1 : Int32)), .val (.int (0 : Int32)), .val (.int (1 : Int32))] [])) _
    refine XS.iload X177.here hx rfl (hb hby at_225) rfl ?_
    show Steps p.tables e below (T177.setTop (mkF m 227 #[.val (.int vp), .val (.int vq), .val (.int vr), .val (.int vs), .val (.int vt), .val (.int va), .val (.int vb), .val (.int vc), .val (.int vy), .val (.int vx), .val (.ref b141), .val (.int (1 : Int32)), .val (.int (1 : Int32)), .val (.int (0 : Int32)), .val (.int (1 : Int32)), .val (.int (0 : Int32)), .val (.int (1 : Int32)), .val (.int (0 : Int32)), .val (.int (1 : Int32))] [(.int (1 : Int32))])) _
    refine XS.ifNo X177.here hx rfl (hb hby at_227) rfl ((if0 _ _).trans (feq (by decide)).1) ?_
    show Steps p.tables e below (T177.setTop (mkF m 230 #[.val (.int vp), .val (.int vq), .val (.int vr), .val (.int vs), .val (.int vt), .val (.int va), .val (.int vb), .val (.int vc), .val (.int vy), .val (.int vx), .val (.ref b141), .val (.int (1 : Int32)), .val (.int (1 : Int32)), .val (.int (0 : Int32)), .val (.int (1 : Int32)), .val (.int (0 : Int32)), .val (.int (1 : Int32)), .val (.int (0 : Int32)), .val (.int (1 : Int32))] [])) _
    refine XS.iload X177.here hx rfl (hb hby at_230) rfl ?_
    show Steps p.tables e below (T177.setTop (mkF m 232 #[.val (.int vp), .val (.int vq), .val (.int vr), .val (.int vs), .val (.int vt), .val (.int va), .val (.int vb), .val (.int vc), .val (.int vy), .val (.int vx), .val (.ref b141), .val (.int (1 : Int32)), .val (.int (1 : Int32)), .val (.int (0 : Int32)), .val (.int (1 : Int32)), .val (.int (0 : Int32)), .val (.int (1 : Int32)), .val (.int (0 : Int32)), .val (.int (1 : Int32))] [(.int (1 : Int32))])) _
    refine XS.ifNo X177.here hx rfl (hb hby at_232) rfl ((if0 _ _).trans (feq (by decide)).1) ?_
    show Steps p.tables e below (T177.setTop (mkF m 235 #[.val (.int vp), .val (.int vq), .val (.int vr), .val (.int vs), .val (.int vt), .val (.int va), .val (.int vb), .val (.int vc), .val (.int vy), .val (.int vx), .val (.ref b141), .val (.int (1 : Int32)), .val (.int (1 : Int32)), .val (.int (0 : Int32)), .val (.int (1 : Int32)), .val (.int (0 : Int32)), .val (.int (1 : Int32)), .val (.int (0 : Int32)), .val (.int (1 : Int32))] [])) _
    refine XS.iload X177.here hx rfl (hb hby at_235) rfl ?_
    show Steps p.tables e below (T177.setTop (mkF m 237 #[.val (.int vp), .val (.int vq), .val (.int vr), .val (.int vs), .val (.int vt), .val (.int va), .val (.int vb), .val (.int vc), .val (.int vy), .val (.int vx), .val (.ref b141), .val (.int (1 : Int32)), .val (.int (1 : Int32)), .val (.int (0 : Int32)), .val (.int (1 : Int32)), .val (.int (0 : Int32)), .val (.int (1 : Int32)), .val (.int (0 : Int32)), .val (.int (1 : Int32))] [(.int (1 : Int32))])) _
    refine XS.ifNo X177.here hx rfl (hb hby at_237) rfl ((if0 _ _).trans (feq (by decide)).1) ?_
    show Steps p.tables e below (T177.setTop (mkF m 240 #[.val (.int vp), .val (.int vq), .val (.int vr), .val (.int vs), .val (.int vt), .val (.int va), .val (.int vb), .val (.int vc), .val (.int vy), .val (.int vx), .val (.ref b141), .val (.int (1 : Int32)), .val (.int (1 : Int32)), .val (.int (0 : Int32)), .val (.int (1 : Int32)), .val (.int (0 : Int32)), .val (.int (1 : Int32)), .val (.int (0 : Int32)), .val (.int (1 : Int32))] [])) _
    refine XS.iload X177.here hx rfl (hb hby at_240) rfl ?_
    show Steps p.tables e below (T177.setTop (mkF m 242 #[.val (.int vp), .val (.int vq), .val (.int vr), .val (.int vs), .val (.int vt), .val (.int va), .val (.int vb), .val (.int vc), .val (.int vy), .val (.int vx), .val (.ref b141), .val (.int (1 : Int32)), .val (.int (1 : Int32)), .val (.int (0 : Int32)), .val (.int (1 : Int32)), .val (.int (0 : Int32)), .val (.int (1 : Int32)), .val (.int (0 : Int32)), .val (.int (1 : Int32))] [(.int (1 : Int32))])) _
    refine XS.ifNo X177.here hx rfl (hb hby at_242) rfl ((if0 _ _).trans (feq (by decide)).1) ?_
    show Steps p.tables e below (T177.setTop (mkF m 245 #[.val (.int vp), .val (.int vq), .val (.int vr), .val (.int vs), .val (.int vt), .val (.int va), .val (.int vb), .val (.int vc), .val (.int vy), .val (.int vx), .val (.ref b141), .val (.int (1 : Int32)), .val (.int (1 : Int32)), .val (.int (0 : Int32)), .val (.int (1 : Int32)), .val (.int (0 : Int32)), .val (.int (1 : Int32)), .val (.int (0 : Int32)), .val (.int (1 : Int32))] [])) _
    refine XS.iload X177.here hx rfl (hb hby at_245) rfl ?_
    show Steps p.tables e below (T177.setTop (mkF m 247 #[.val (.int vp), .val (.int vq), .val (.int vr), .val (.int vs), .val (.int vt), .val (.int va), .val (.int vb), .val (.int vc), .val (.int vy), .val (.int vx), .val (.ref b141), .val (.int (1 : Int32)), .val (.int (1 : Int32)), .val (.int (0 : Int32)), .val (.int (1 : Int32)), .val (.int (0 : Int32)), .val (.int (1 : Int32)), .val (.int (0 : Int32)), .val (.int (1 : Int32))] [(.int (1 : Int32))])) _
    refine XS.ifNo X177.here hx rfl (hb hby at_247) rfl ((if0 _ _).trans (feq (by decide)).1) ?_
    show Steps p.tables e below (T177.setTop (mkF m 250 #[.val (.int vp), .val (.int vq), .val (.int vr), .val (.int vs), .val (.int vt), .val (.int va), .val (.int vb), .val (.int vc), .val (.int vy), .val (.int vx), .val (.ref b141), .val (.int (1 : Int32)), .val (.int (1 : Int32)), .val (.int (0 : Int32)), .val (.int (1 : Int32)), .val (.int (0 : Int32)), .val (.int (1 : Int32)), .val (.int (0 : Int32)), .val (.int (1 : Int32))] [])) _
    refine XS.iconst X177.here hx rfl (hb hby at_250) ?_
    show Steps p.tables e below (T177.setTop (mkF m 251 #[.val (.int vp), .val (.int vq), .val (.int vr), .val (.int vs), .val (.int vt), .val (.int va), .val (.int vb), .val (.int vc), .val (.int vy), .val (.int vx), .val (.ref b141), .val (.int (1 : Int32)), .val (.int (1 : Int32)), .val (.int (0 : Int32)), .val (.int (1 : Int32)), .val (.int (0 : Int32)), .val (.int (1 : Int32)), .val (.int (0 : Int32)), .val (.int (1 : Int32))] [(.int (1 : Int32))])) _
    refine XS.goto X177.here hx rfl (pc0 := 251) (pc' := 255) rfl (hb hby at_251) (by decide) (by decide) ?_
    show Steps p.tables e below (T177.setTop (mkF m 255 #[.val (.int vp), .val (.int vq), .val (.int vr), .val (.int vs), .val (.int vt), .val (.int va), .val (.int vb), .val (.int vc), .val (.int vy), .val (.int vx), .val (.ref b141), .val (.int (1 : Int32)), .val (.int (1 : Int32)), .val (.int (0 : Int32)), .val (.int (1 : Int32)), .val (.int (0 : Int32)), .val (.int (1 : Int32)), .val (.int (0 : Int32)), .val (.int (1 : Int32))] [(.int (1 : Int32))])) _
    exact retN X177 hx (t := .boolean) Bd.returns (by simp) (hb hby at_255) hr
  · show QL n0 _ T177.heap _
    rw [e177]
    exact ⟨rfl, N177⟩
set_option maxRecDepth 65536 in
set_option maxHeartbeats 40000000 in
theorem rm0_001 (l : Launch) (Z : State) (a0 : Array Value) (hw : ∀ d ∈ tables_1, d.before a0 Z = true) (ws : List Jvm.Cond) (vp vq vr vs vt : Int32) (va vb vc vy vx : Int32) (em : Addr) (h0 : Heap) (n0 : Nat) (Z0 : n0 ≤ h0.size) (qa : ((vp &&& (2147483647 : Int32)) % (1001 : Int32)) = va) (qb : ((vq &&& (2147483647 : Int32)) % ((1001 : Int32) - va)) = vb) (qc : (vr &&& (2047 : Int32)) = vc) (qy : (vt &&& (2047 : Int32)) = vy) (qx : (vs &&& (2047 : Int32)) = vx) (hnz : (1001 : Int32) - va ≠ 0) (Od0 : Old Z n0 h0) (Se : Sta Z Z.heap "java/util/Optional" "EMPTY" "Ljava/util/Optional;" (.ref em)) (Ee : Exa Z Z.heap em "java/util/Optional") (Fe : Fld Z Z.heap em "java/util/Optional" "value" "Ljava/lang/Object;" .null) (hA : ¬ ((1000 : Int32) < (0 : Int32) + va)) (hB : ¬ ((1000 : Int32) < va + vb)) (eA : (0 : Int32) + va = va) (eB : va + vb - vb = va) (eC : va + vc - vc = va) (eY : va + vy - vy = va) (eZ : va - va = 0) (eX : (0 : Int32) + vx = vx) (hc105 : (1000 : Int32) < (va + vc)) (hc155 : (1000 : Int32) < (va + vy)) (hc207 : ¬ ((1000 : Int32) < vx)) :
    MetFree l x (head1 (Jvm.Cond.code x code maxLocals ret :: ws) room_1) (fun zA zU => zA = #[(.int vp), (.int vq), (.int vr), (.int vs), (.int vt)] ∧ Z.Warmed39 zU.vm ∧ zU.heap = h0) (fun _ _ _ _ _ => True) (fun _ zU zO zW => ∃ zV zL, zO = .returned zV ∧ QL n0 zV zW.heap zL ∧ ReturnedEndW zU zO zW zL room_1.cells room_1.slots) := by
  refine MetFree.of_bodySF (plainFor_of_name pn_XmlNestingLeavePinLaw) hisR ?_
  intro p e s m args below meth c s₁ Bd hml0 hP hK
  obtain ⟨rfl, hZ, hh⟩ := hP
  have hx := Bd.exec
  have hby := Bd.bytes
  have hml : c.maxLocals = 19 := hml0
  have hown : s.vm.findClass "com/example/caddis/caddis/XmlNestingLeavePinLaw" = some m.cls := findClass_of_methodNamed Bd.named
  have hnm := (name_of_methodNamed Bd.named Bd.method).1
  have X0 : Stand p l e room_1 s m #[(.int vp), (.int vq), (.int vr), (.int vs), (.int vt)] below meth c s₁ [] 0 0 := Stand.of_body Bd
  have e0 : s₁.heap = h0 := by rw [← hh, Bd.state]; rfl
  have N0 := Fr.nil n0
  have pre0 : ∀ zt, Steps p.tables e below (s₁.setTop (mkF m 0 #[.val (.int vp), .val (.int vq), .val (.int vr), .val (.int vs), .val (.int vt), .unset, .unset, .unset, .unset, .unset, .unset, .unset, .unset, .unset, .unset, .unset, .unset, .unset, .unset] [])) zt → Steps p.tables e below (s₁.setTop (entryFrame m #[(.int vp), (.int vq), (.int vr), (.int vs), (.int vt)] maxLocals)) zt := fun zt zk => castTop (ef_0_IIIII m vp vq vr vs vt) zk
  obtain ⟨T178, h178, X178, e178, E178, A178, D178, -, st178⟩ := newO X0 hx hZ hown (hw _ (List.mem_of_getElem? (i := 1) rfl)) (hw _ (List.mem_of_getElem? (i := 2) rfl)) (hw _ (List.mem_of_getElem? (i := 3) rfl)) e0 (g := (mkF m 45 #[.val (.int vp), .val (.int vq), .val (.int vr), .val (.int vs), .val (.int vt), .val (.int va), .val (.int vb), .val (.int vc), .val (.int vy), .val (.int vx), .unset, .unset, .unset, .unset, .unset, .unset, .unset, .unset, .unset] [])) rfl (hb hby at_45) (by decide) (by decide)
  obtain ⟨b178, g178⟩ : ∃ z, z = h0.size := ⟨_, rfl⟩
  rw [← g178] at A178 D178 st178
  have gz178 : n0 ≤ b178 := Nat.le_trans Z0 (Nat.le_of_eq g178.symm)
  have Z178 := Nat.le_trans Z0 E178.1
  have Od178 := Od0.ext E178
  have F178_declared : Fld Z h178 b178 "com/example/caddis/caddis/XmlNesting" "declared" "[I" .null := D178 (Or.inr (hw _ (List.mem_of_getElem? (i := 12) rfl))) (ty := (.array .int)) (by decide)
  have F178_depth : Fld Z h178 b178 "com/example/caddis/caddis/XmlNesting" "depth" "I" (.int (0 : Int32)) := D178 (Or.inl (hw _ (List.mem_of_getElem? (i := 19) rfl))) (ty := .int) (by decide)
  have F178_declarations : Fld Z h178 b178 "com/example/caddis/caddis/XmlNesting" "declarations" "I" (.int (0 : Int32)) := D178 (Or.inl (hw _ (List.mem_of_getElem? (i := 21) rfl))) (ty := .int) (by decide)
  obtain ⟨_, _, ⟨T179, L179, k179, n179⟩, -, X179, ⟨Lc179, hQ179, l179, y179, z179⟩, st179⟩ := X178.specialBack hx (y := (⟨"com/example/caddis/caddis/XmlNesting", "<init>", "()V"⟩ : MethodName)) rfl hown (mvT hZ (hw _ (List.mem_of_getElem? (i := 4) rfl))) (mvT hZ (hw _ (List.mem_of_getElem? (i := 5) rfl))) (mvT hZ (hw _ (List.mem_of_getElem? (i := 6) rfl))) (by decide) (backOf (W := 1) (rini l Z a0 hw [] b178 h178 n0 Z178 A178 F178_declared F178_depth F178_declarations gz178) hZ (hw _ (List.mem_of_getElem? (i := 6) rfl)) (hw _ (List.mem_of_getElem? (i := 3) rfl)) (by decide) (by decide)) (g := (mkF m 49 #[.val (.int vp), .val (.int vq), .val (.int vr), .val (.int vs), .val (.int vt), .val (.int va), .val (.int vb), .val (.int vc), .val (.int vy), .val (.int vx), .unset, .unset, .unset, .unset, .unset, .unset, .unset, .unset, .unset] [(.ref b178), (.ref b178)])) rfl (by rw [hml]; rfl) (Steps.refl _) (a := b178) (argsL := []) (rest := [(.ref b178)]) (lenOf pd_4 rfl) rfl (by show 2 * 0 + _ ≤ _; exact Nat.le_of_eq rfl) (hb hby at_49) (fun _ _ => ⟨rfl, e178, (by decide : 1 + 1 ≤ _), (by decide : 3 + 1000 ≤ _)⟩)
  dsimp only [Pt.U, Pt.locs, Pt.cells, Pt.slots] at X179 l179 y179 z179 st179 hQ179
  subst l179 y179 z179
  obtain ⟨ar179, rfl, Nq179, Kq179, G179_0, G179_1, G179_2, G179_3, G179_4, ga179, na179⟩ := hQ179
  have N179 := Fr.app N0 Nq179
  have Z179 := Nat.le_trans Z178 Kq179.1
  have Od179 := Od178.keep Kq179 (allS gz178 all0)
  obtain ⟨cq180, kq180, q180a, q180b, q180c⟩ := isOf hZ rfl G179_0
  obtain ⟨_, _, ⟨T180, L180, k180, n180⟩, -, X180, ⟨Lc180, hQ180, l180, y180, z180⟩, st180⟩ := X179.virtualBack hx (y := (⟨"com/example/caddis/caddis/XmlNesting", "enter", "(I)Ljava/util/Optional;"⟩ : MethodName)) (z := (⟨"com/example/caddis/caddis/XmlNesting", "enter", "(I)Ljava/util/Optional;"⟩ : MethodName)) hown (mvT hZ (hw _ (List.mem_of_getElem? (i := 13) rfl))) (mvT hZ (hw _ (List.mem_of_getElem? (i := 14) rfl))) (notFace_of_selects (args := #[]) (mvT hZ (hw _ (List.mem_of_getElem? (i := 16) rfl)))) (mvT hZ (hw _ (List.mem_of_getElem? (i := 16) rfl))) (mvT hZ (hw _ (List.mem_of_getElem? (i := 15) rfl))) (by decide) (backOf (W := 0) (ren0 l Z a0 hw [] b178 ar179 em (0 : Int32) va (fun _ => (0 : Int32)) T179.heap n0 Z179 G179_0 G179_1 G179_2 G179_3 G179_4 gz178 ga179 na179 (Se.ext Od179.2) hA) hZ (hw _ (List.mem_of_getElem? (i := 17) rfl)) (hw _ (List.mem_of_getElem? (i := 3) rfl)) (by decide) (by decide)) q180a q180c (g := (mkF m 58 #[.val (.int vp), .val (.int vq), .val (.int vr), .val (.int vs), .val (.int vt), .val (.int va), .val (.int vb), .val (.int vc), .val (.int vy), .val (.int vx), .val (.ref b178), .unset, .unset, .unset, .unset, .unset, .unset, .unset, .unset] [(.int va), (.ref b178)])) rfl (by rw [hml]; rfl) (Steps.refl _) (argsL := [(.int va)]) (rest := []) (lenOf pd_5 rfl) rfl (by show 2 * 0 + _ ≤ _; exact Nat.le_of_eq rfl) (hb hby at_58) (fun _ _ => ⟨rfl, rfl, (by decide : 2 + 0 ≤ _), (by decide : 1003 + 0 ≤ _)⟩)
  dsimp only [Pt.U, Pt.locs, Pt.cells, Pt.slots] at X180 l180 y180 z180 st180 hQ180
  subst l180 y180 z180
  obtain ⟨rfl, Nq180, Kq180, G180_0, G180_1, G180_2, G180_3, G180_4⟩ := hQ180
  have N180 := Fr.app N179 Nq180
  have Z180 := Nat.le_trans Z179 Kq180.1
  have Od180 := Od179.keep Kq180 (allS gz178 (allS ga179 all0))
  rw [eA] at G180_3
  obtain ⟨cq181, kq181, q181a, q181b, q181c⟩ := isOf hZ rfl (Ee.ext Od180.2)
  obtain ⟨_, _, ⟨T181, L181, k181, n181⟩, -, X181, ⟨Lc181, hQ181, l181, y181, z181⟩, st181⟩ := X180.virtualBack hx (y := (⟨"java/util/Optional", "isEmpty", "()Z"⟩ : MethodName)) (z := (⟨"java/util/Optional", "isEmpty", "()Z"⟩ : MethodName)) hown (mvT hZ (hw _ (List.mem_of_getElem? (i := 27) rfl))) (mvT hZ (hw _ (List.mem_of_getElem? (i := 28) rfl))) (notFace_of_selects (args := #[]) (mvT hZ (hw _ (List.mem_of_getElem? (i := 30) rfl)))) (mvT hZ (hw _ (List.mem_of_getElem? (i := 30) rfl))) (mvT hZ (hw _ (List.mem_of_getElem? (i := 29) rfl))) (by decide) (backOf (W := 0) (ris1 l Z a0 hw [] em T180.heap n0 Z180 (Fe.ext Od180.2)) hZ (hw _ (List.mem_of_getElem? (i := 31) rfl)) (hw _ (List.mem_of_getElem? (i := 24) rfl)) (by decide) (by decide)) q181a q181c (g := (mkF m 61 #[.val (.int vp), .val (.int vq), .val (.int vr), .val (.int vs), .val (.int vt), .val (.int va), .val (.int vb), .val (.int vc), .val (.int vy), .val (.int vx), .val (.ref b178), .unset, .unset, .unset, .unset, .unset, .unset, .unset, .unset] [(.ref em)])) rfl (by rw [hml]; rfl) (Steps.refl _) (argsL := []) (rest := []) (lenOf pd_6 rfl) rfl (by show 2 * 0 + _ ≤ _; exact Nat.le_of_eq rfl) (hb hby at_61) (fun _ _ => ⟨rfl, rfl, (by decide : 2 + 0 ≤ _), (by decide : 1003 + 0 ≤ _)⟩)
  dsimp only [Pt.U, Pt.locs, Pt.cells, Pt.slots] at X181 l181 y181 z181 st181 hQ181
  subst l181 y181 z181
  obtain ⟨rfl, Nq181, e181⟩ := hQ181
  have N181 := Fr.app N180 Nq181
  obtain ⟨cq182, kq182, q182a, q182b, q182c⟩ := isOf hZ e181 G180_0
  obtain ⟨_, _, ⟨T182, L182, k182, n182⟩, -, X182, ⟨Lc182, hQ182, l182, y182, z182⟩, st182⟩ := X181.virtualBack hx (y := (⟨"com/example/caddis/caddis/XmlNesting", "enter", "(I)Ljava/util/Optional;"⟩ : MethodName)) (z := (⟨"com/example/caddis/caddis/XmlNesting", "enter", "(I)Ljava/util/Optional;"⟩ : MethodName)) hown (mvT hZ (hw _ (List.mem_of_getElem? (i := 13) rfl))) (mvT hZ (hw _ (List.mem_of_getElem? (i := 14) rfl))) (notFace_of_selects (args := #[]) (mvT hZ (hw _ (List.mem_of_getElem? (i := 16) rfl)))) (mvT hZ (hw _ (List.mem_of_getElem? (i := 16) rfl))) (mvT hZ (hw _ (List.mem_of_getElem? (i := 15) rfl))) (by decide) (backOf (W := 0) (ren1 l Z a0 hw [] b178 ar179 em va vb (upd (fun _ => (0 : Int32)) 0 va) T180.heap n0 Z180 G180_0 G180_1 G180_2 G180_3 G180_4 gz178 ga179 na179 (Se.ext Od180.2) hB) hZ (hw _ (List.mem_of_getElem? (i := 17) rfl)) (hw _ (List.mem_of_getElem? (i := 3) rfl)) (by decide) (by decide)) q182a q182c (g := (mkF m 70 #[.val (.int vp), .val (.int vq), .val (.int vr), .val (.int vs), .val (.int vt), .val (.int va), .val (.int vb), .val (.int vc), .val (.int vy), .val (.int vx), .val (.ref b178), .val (.int (1 : Int32)), .unset, .unset, .unset, .unset, .unset, .unset, .unset] [(.int vb), (.ref b178)])) rfl (by rw [hml]; rfl) (Steps.refl _) (argsL := [(.int vb)]) (rest := []) (lenOf pd_5 rfl) rfl (by show 2 * 0 + _ ≤ _; exact Nat.le_of_eq rfl) (hb hby at_70) (fun _ _ => ⟨rfl, e181, (by decide : 2 + 0 ≤ _), (by decide : 1003 + 0 ≤ _)⟩)
  dsimp only [Pt.U, Pt.locs, Pt.cells, Pt.slots] at X182 l182 y182 z182 st182 hQ182
  subst l182 y182 z182
  obtain ⟨rfl, Nq182, Kq182, G182_0, G182_1, G182_2, G182_3, G182_4⟩ := hQ182
  have N182 := Fr.app N181 Nq182
  have Z182 := Nat.le_trans Z180 Kq182.1
  have Od182 := Od180.keep Kq182 (allS gz178 (allS ga179 all0))
  obtain ⟨cq183, kq183, q183a, q183b, q183c⟩ := isOf hZ rfl (Ee.ext Od182.2)
  obtain ⟨_, _, ⟨T183, L183, k183, n183⟩, -, X183, ⟨Lc183, hQ183, l183, y183, z183⟩, st183⟩ := X182.virtualBack hx (y := (⟨"java/util/Optional", "isEmpty", "()Z"⟩ : MethodName)) (z := (⟨"java/util/Optional", "isEmpty", "()Z"⟩ : MethodName)) hown (mvT hZ (hw _ (List.mem_of_getElem? (i := 27) rfl))) (mvT hZ (hw _ (List.mem_of_getElem? (i := 28) rfl))) (notFace_of_selects (args := #[]) (mvT hZ (hw _ (List.mem_of_getElem? (i := 30) rfl)))) (mvT hZ (hw _ (List.mem_of_getElem? (i := 30) rfl))) (mvT hZ (hw _ (List.mem_of_getElem? (i := 29) rfl))) (by decide) (backOf (W := 0) (ris1 l Z a0 hw [] em T182.heap n0 Z182 (Fe.ext Od182.2)) hZ (hw _ (List.mem_of_getElem? (i := 31) rfl)) (hw _ (List.mem_of_getElem? (i := 24) rfl)) (by decide) (by decide)) q183a q183c (g := (mkF m 73 #[.val (.int vp), .val (.int vq), .val (.int vr), .val (.int vs), .val (.int vt), .val (.int va), .val (.int vb), .val (.int vc), .val (.int vy), .val (.int vx), .val (.ref b178), .val (.int (1 : Int32)), .unset, .unset, .unset, .unset, .unset, .unset, .unset] [(.ref em)])) rfl (by rw [hml]; rfl) (Steps.refl _) (argsL := []) (rest := []) (lenOf pd_6 rfl) rfl (by show 2 * 0 + _ ≤ _; exact Nat.le_of_eq rfl) (hb hby at_73) (fun _ _ => ⟨rfl, rfl, (by decide : 2 + 0 ≤ _), (by decide : 1003 + 0 ≤ _)⟩)
  dsimp only [Pt.U, Pt.locs, Pt.cells, Pt.slots] at X183 l183 y183 z183 st183 hQ183
  subst l183 y183 z183
  obtain ⟨rfl, Nq183, e183⟩ := hQ183
  have N183 := Fr.app N182 Nq183
  obtain ⟨cq184, kq184, q184a, q184b, q184c⟩ := isOf hZ e183 G182_0
  obtain ⟨_, _, ⟨T184, L184, k184, n184⟩, -, X184, ⟨Lc184, hQ184, l184, y184, z184⟩, st184⟩ := X183.virtualBack hx (y := (⟨"com/example/caddis/caddis/XmlNesting", "leave", "()V"⟩ : MethodName)) (z := (⟨"com/example/caddis/caddis/XmlNesting", "leave", "()V"⟩ : MethodName)) hown (mvT hZ (hw _ (List.mem_of_getElem? (i := 34) rfl))) (mvT hZ (hw _ (List.mem_of_getElem? (i := 35) rfl))) (notFace_of_selects (args := #[]) (mvT hZ (hw _ (List.mem_of_getElem? (i := 37) rfl)))) (mvT hZ (hw _ (List.mem_of_getElem? (i := 37) rfl))) (mvT hZ (hw _ (List.mem_of_getElem? (i := 36) rfl))) (by decide) (backOf (W := 0) (rlv2 l Z a0 hw [] b178 ar179 (va + vb) vb (upd (upd (fun _ => (0 : Int32)) 0 va) 1 vb) T182.heap n0 Z182 G182_0 G182_1 G182_2 G182_3 G182_4 gz178 na179 rfl) hZ (hw _ (List.mem_of_getElem? (i := 38) rfl)) (hw _ (List.mem_of_getElem? (i := 3) rfl)) (by decide) (by decide)) q184a q184c (g := (mkF m 80 #[.val (.int vp), .val (.int vq), .val (.int vr), .val (.int vs), .val (.int vt), .val (.int va), .val (.int vb), .val (.int vc), .val (.int vy), .val (.int vx), .val (.ref b178), .val (.int (1 : Int32)), .val (.int (1 : Int32)), .unset, .unset, .unset, .unset, .unset, .unset] [(.ref b178)])) rfl (by rw [hml]; rfl) (Steps.refl _) (argsL := []) (rest := []) (lenOf pd_4 rfl) rfl (by show 2 * 0 + _ ≤ _; exact Nat.le_of_eq rfl) (hb hby at_80) (fun _ _ => ⟨rfl, e183, (by decide : 2 + 0 ≤ _), (by decide : 1003 + 0 ≤ _)⟩)
  dsimp only [Pt.U, Pt.locs, Pt.cells, Pt.slots] at X184 l184 y184 z184 st184 hQ184
  subst l184 y184 z184
  obtain ⟨rfl, Nq184, Kq184, G184_0, G184_1, G184_2, G184_3⟩ := hQ184
  have N184 := Fr.app N183 Nq184
  have zA185 := G182_4.keep Kq184 (ninS (Ne.symm na179) nin0)
  have Z184 := Nat.le_trans Z182 Kq184.1
  have Od184 := Od182.keep Kq184 (allS gz178 all0)
  rw [eB] at G184_3
  obtain ⟨cq186, kq186, q186a, q186b, q186c⟩ := isOf hZ rfl G184_0
  obtain ⟨_, _, ⟨T186, L186, k186, n186⟩, -, X186, hS186, hG186, ⟨Lc186, hQ186, l186, y186, z186⟩, st186⟩ := X184.virtualBackS hx (y := (⟨"com/example/caddis/caddis/XmlNesting", "enter", "(I)Ljava/util/Optional;"⟩ : MethodName)) (z := (⟨"com/example/caddis/caddis/XmlNesting", "enter", "(I)Ljava/util/Optional;"⟩ : MethodName)) hown (mvT hZ (hw _ (List.mem_of_getElem? (i := 13) rfl))) (mvT hZ (hw _ (List.mem_of_getElem? (i := 14) rfl))) (notFace_of_selects (args := #[]) (mvT hZ (hw _ (List.mem_of_getElem? (i := 16) rfl)))) (mvT hZ (hw _ (List.mem_of_getElem? (i := 16) rfl))) (mvT hZ (hw _ (List.mem_of_getElem? (i := 15) rfl))) (by decide) (backOfS (W := 0) (rex1 l Z a0 hw [] b178 ar179 em va vc (upd (upd (fun _ => (0 : Int32)) 0 va) 1 vb) T184.heap n0 Z184 G184_0 G184_1 G184_2 G184_3 zA185 gz178 ga179 na179 (Se.ext Od184.2) hc105) hZ (hw _ (List.mem_of_getElem? (i := 17) rfl)) (hw _ (List.mem_of_getElem? (i := 3) rfl)) (by decide) (by decide)) q186a q186c (g := (mkF m 87 #[.val (.int vp), .val (.int vq), .val (.int vr), .val (.int vs), .val (.int vt), .val (.int va), .val (.int vb), .val (.int vc), .val (.int vy), .val (.int vx), .val (.ref b178), .val (.int (1 : Int32)), .val (.int (1 : Int32)), .unset, .unset, .unset, .unset, .unset, .unset] [(.int vc), (.ref b178)])) rfl (by rw [hml]; rfl) (Steps.refl _) (argsL := [(.int vc)]) (rest := []) (lenOf pd_5 rfl) rfl (by show 2 * 0 + _ ≤ _; exact Nat.le_of_eq rfl) (hb hby at_87) (fun _ _ => ⟨rfl, rfl, (by decide : 2 + 3 ≤ _), (by decide : 1003 + 253 ≤ _)⟩)
  dsimp only [Pt.U, Pt.locs, Pt.cells, Pt.slots] at X186 hS186 hG186 l186 y186 z186 st186 hQ186
  subst l186 y186 z186
  obtain ⟨o186, y186, rfl, Nq186, Kq186, go186, G186_1, G186_2⟩ := hQ186
  have N186 := Fr.app N184 Nq186
  have zF187 := G184_1.keep Kq186 nin0
  have zF188 := G184_2.keep Kq186 nin0
  have zF189 := G184_3.keep Kq186 nin0
  have zE190 := G184_0.keep Kq186
  have zA191 := zA185.keep Kq186 nin0
  have Z186 := Nat.le_trans Z184 Kq186.1
  have Od186 := Od184.keep Kq186 all0
  have hZ186 : Z.Warmed39 (s.setVm T186.vm).vm := State.Warmed39.trans (t := s) hZ hS186.1
  have hown186 : (s.setVm T186.vm).vm.findClass "com/example/caddis/caddis/XmlNestingLeavePinLaw" = some m.cls := by rw [show (s.setVm T186.vm).vm = T186.vm from rfl, hS186.1.alike.findClass]; exact hown
  have sl186 : T186.heap.size ≤ T186.heap.size := Nat.le_refl _
  obtain ⟨cq192, kq192, q192a, q192b, q192c⟩ := isOf hZ186 rfl G186_1
  obtain ⟨_, _, ⟨T192, L192, k192, n192⟩, -, X192, ⟨Lc192, hQ192, l192, y192, z192⟩, st192⟩ := X186.virtualBack hx (y := (⟨"java/util/Optional", "isEmpty", "()Z"⟩ : MethodName)) (z := (⟨"java/util/Optional", "isEmpty", "()Z"⟩ : MethodName)) hown186 (mvT hZ186 (hw _ (List.mem_of_getElem? (i := 27) rfl))) (mvT hZ186 (hw _ (List.mem_of_getElem? (i := 28) rfl))) (notFace_of_selects (args := #[]) (mvT hZ186 (hw _ (List.mem_of_getElem? (i := 30) rfl)))) (mvT hZ186 (hw _ (List.mem_of_getElem? (i := 30) rfl))) (mvT hZ186 (hw _ (List.mem_of_getElem? (i := 29) rfl))) (by decide) (backOf (W := 0) (ris0 l Z a0 hw [] o186 y186 T186.heap n0 Z186 G186_2) hZ186 (hw _ (List.mem_of_getElem? (i := 31) rfl)) (hw _ (List.mem_of_getElem? (i := 24) rfl)) (by decide) (by decide)) q192a q192c (g := (mkF m 90 #[.val (.int vp), .val (.int vq), .val (.int vr), .val (.int vs), .val (.int vt), .val (.int va), .val (.int vb), .val (.int vc), .val (.int vy), .val (.int vx), .val (.ref b178), .val (.int (1 : Int32)), .val (.int (1 : Int32)), .unset, .unset, .unset, .unset, .unset, .unset] [(.ref o186)])) rfl (by rw [hml]; rfl) (Steps.refl _) (argsL := []) (rest := []) (lenOf pd_6 rfl) rfl (by show 2 * 0 + _ ≤ _; exact Nat.le_of_eq rfl) (hb hby at_90) (fun _ _ => ⟨rfl, rfl, (by decide : 5 + 0 ≤ _), (by decide : 1256 + 0 ≤ _)⟩)
  dsimp only [Pt.U, Pt.locs, Pt.cells, Pt.slots] at X192 l192 y192 z192 st192 hQ192
  subst l192 y192 z192
  obtain ⟨rfl, Nq192, e192⟩ := hQ192
  have N192 := Fr.app N186 Nq192
  obtain ⟨cq193, kq193, q193a, q193b, q193c⟩ := isOf hZ186 e192 zE190
  obtain ⟨_, _, ⟨T193, L193, k193, n193⟩, -, X193, hS193, hG193, ⟨Lc193, hQ193, l193, y193, z193⟩, st193⟩ := X192.virtualBackS hx (y := (⟨"com/example/caddis/caddis/XmlNesting", "enter", "(I)Ljava/util/Optional;"⟩ : MethodName)) (z := (⟨"com/example/caddis/caddis/XmlNesting", "enter", "(I)Ljava/util/Optional;"⟩ : MethodName)) hown186 (mvT hZ186 (hw _ (List.mem_of_getElem? (i := 13) rfl))) (mvT hZ186 (hw _ (List.mem_of_getElem? (i := 14) rfl))) (notFace_of_selects (args := #[]) (mvT hZ186 (hw _ (List.mem_of_getElem? (i := 16) rfl)))) (mvT hZ186 (hw _ (List.mem_of_getElem? (i := 16) rfl))) (mvT hZ186 (hw _ (List.mem_of_getElem? (i := 15) rfl))) (by decide) (backOfS (W := 0) (rex1 l Z a0 hw [] b178 ar179 em va vy (upd (upd (fun _ => (0 : Int32)) 0 va) 1 vb) T186.heap n0 Z186 zE190 zF187 zF188 zF189 zA191 gz178 ga179 na179 (Se.ext Od186.2) hc155) hZ186 (hw _ (List.mem_of_getElem? (i := 17) rfl)) (hw _ (List.mem_of_getElem? (i := 3) rfl)) (by decide) (by decide)) q193a q193c (g := (mkF m 137 #[.val (.int vp), .val (.int vq), .val (.int vr), .val (.int vs), .val (.int vt), .val (.int va), .val (.int vb), .val (.int vc), .val (.int vy), .val (.int vx), .val (.ref b178), .val (.int (1 : Int32)), .val (.int (1 : Int32)), .val (.int (0 : Int32)), .val (.int (1 : Int32)), .unset, .unset, .unset, .unset] [(.int vy), (.ref b178)])) rfl (by rw [hml]; rfl) (Steps.refl _) (argsL := [(.int vy)]) (rest := []) (lenOf pd_5 rfl) rfl (by show 2 * 0 + _ ≤ _; exact Nat.le_of_eq rfl) (hb hby at_137) (fun _ _ => ⟨rfl, e192, (by decide : 5 + 3 ≤ _), (by decide : 1256 + 253 ≤ _)⟩)
  dsimp only [Pt.U, Pt.locs, Pt.cells, Pt.slots] at X193 hS193 hG193 l193 y193 z193 st193 hQ193
  subst l193 y193 z193
  obtain ⟨o193, y193, rfl, Nq193, Kq193, go193, G193_1, G193_2⟩ := hQ193
  have N193 := Fr.app N192 Nq193
  have zF194 := zF187.keep Kq193 nin0
  have zF195 := zF188.keep Kq193 nin0
  have zF196 := zF189.keep Kq193 nin0
  have zF197 := G186_2.keep Kq193 nin0
  have zE198 := zE190.keep Kq193
  have zE199 := G186_1.keep Kq193
  have zA200 := zA191.keep Kq193 nin0
  have Z193 := Nat.le_trans Z186 Kq193.1
  have Od193 := Od186.keep Kq193 all0
  have hZ193 : Z.Warmed39 (s.setVm T193.vm).vm := State.Warmed39.trans (t := (s.setVm T186.vm)) hZ186 hS193.1
  have hown193 : (s.setVm T193.vm).vm.findClass "com/example/caddis/caddis/XmlNestingLeavePinLaw" = some m.cls := by rw [show (s.setVm T193.vm).vm = T193.vm from rfl, hS193.1.alike.findClass]; exact hown186
  obtain ⟨X193, hS193⟩ := Stand.againW X193 hS186 hS193 (Nat.le_trans sl186 Kq193.1)
  have sl193 : T193.heap.size ≤ T193.heap.size := Nat.le_refl _
  obtain ⟨cq201, kq201, q201a, q201b, q201c⟩ := isOf hZ193 rfl G193_1
  obtain ⟨_, _, ⟨T201, L201, k201, n201⟩, -, X201, ⟨Lc201, hQ201, l201, y201, z201⟩, st201⟩ := X193.virtualBack hx (y := (⟨"java/util/Optional", "isEmpty", "()Z"⟩ : MethodName)) (z := (⟨"java/util/Optional", "isEmpty", "()Z"⟩ : MethodName)) hown193 (mvT hZ193 (hw _ (List.mem_of_getElem? (i := 27) rfl))) (mvT hZ193 (hw _ (List.mem_of_getElem? (i := 28) rfl))) (notFace_of_selects (args := #[]) (mvT hZ193 (hw _ (List.mem_of_getElem? (i := 30) rfl)))) (mvT hZ193 (hw _ (List.mem_of_getElem? (i := 30) rfl))) (mvT hZ193 (hw _ (List.mem_of_getElem? (i := 29) rfl))) (by decide) (backOf (W := 0) (ris0 l Z a0 hw [] o193 y193 T193.heap n0 Z193 G193_2) hZ193 (hw _ (List.mem_of_getElem? (i := 31) rfl)) (hw _ (List.mem_of_getElem? (i := 24) rfl)) (by decide) (by decide)) q201a q201c (g := (mkF m 140 #[.val (.int vp), .val (.int vq), .val (.int vr), .val (.int vs), .val (.int vt), .val (.int va), .val (.int vb), .val (.int vc), .val (.int vy), .val (.int vx), .val (.ref b178), .val (.int (1 : Int32)), .val (.int (1 : Int32)), .val (.int (0 : Int32)), .val (.int (1 : Int32)), .unset, .unset, .unset, .unset] [(.ref o193)])) rfl (by rw [hml]; rfl) (Steps.refl _) (argsL := []) (rest := []) (lenOf pd_6 rfl) rfl (by show 2 * 0 + _ ≤ _; exact Nat.le_of_eq rfl) (hb hby at_140) (fun _ _ => ⟨rfl, rfl, (by decide : 8 + 0 ≤ _), (by decide : 1509 + 0 ≤ _)⟩)
  dsimp only [Pt.U, Pt.locs, Pt.cells, Pt.slots] at X201 l201 y201 z201 st201 hQ201
  subst l201 y201 z201
  obtain ⟨rfl, Nq201, e201⟩ := hQ201
  have N201 := Fr.app N193 Nq201
  obtain ⟨cq202, kq202, q202a, q202b, q202c⟩ := isOf hZ193 e201 zE198
  obtain ⟨_, _, ⟨T202, L202, k202, n202⟩, -, X202, ⟨Lc202, hQ202, l202, y202, z202⟩, st202⟩ := X201.virtualBack hx (y := (⟨"com/example/caddis/caddis/XmlNesting", "leave", "()V"⟩ : MethodName)) (z := (⟨"com/example/caddis/caddis/XmlNesting", "leave", "()V"⟩ : MethodName)) hown193 (mvT hZ193 (hw _ (List.mem_of_getElem? (i := 34) rfl))) (mvT hZ193 (hw _ (List.mem_of_getElem? (i := 35) rfl))) (notFace_of_selects (args := #[]) (mvT hZ193 (hw _ (List.mem_of_getElem? (i := 37) rfl)))) (mvT hZ193 (hw _ (List.mem_of_getElem? (i := 37) rfl))) (mvT hZ193 (hw _ (List.mem_of_getElem? (i := 36) rfl))) (by decide) (backOf (W := 0) (rlv1 l Z a0 hw [] b178 ar179 va va (upd (upd (fun _ => (0 : Int32)) 0 va) 1 vb) T193.heap n0 Z193 zE198 zF194 zF195 zF196 zA200 gz178 na179 rfl) hZ193 (hw _ (List.mem_of_getElem? (i := 38) rfl)) (hw _ (List.mem_of_getElem? (i := 3) rfl)) (by decide) (by decide)) q202a q202c (g := (mkF m 185 #[.val (.int vp), .val (.int vq), .val (.int vr), .val (.int vs), .val (.int vt), .val (.int va), .val (.int vb), .val (.int vc), .val (.int vy), .val (.int vx), .val (.ref b178), .val (.int (1 : Int32)), .val (.int (1 : Int32)), .val (.int (0 : Int32)), .val (.int (1 : Int32)), .val (.int (0 : Int32)), .val (.int (1 : Int32)), .unset, .unset] [(.ref b178)])) rfl (by rw [hml]; rfl) (Steps.refl _) (argsL := []) (rest := []) (lenOf pd_4 rfl) rfl (by show 2 * 0 + _ ≤ _; exact Nat.le_of_eq rfl) (hb hby at_185) (fun _ _ => ⟨rfl, e201, (by decide : 8 + 0 ≤ _), (by decide : 1509 + 0 ≤ _)⟩)
  dsimp only [Pt.U, Pt.locs, Pt.cells, Pt.slots] at X202 l202 y202 z202 st202 hQ202
  subst l202 y202 z202
  obtain ⟨rfl, Nq202, Kq202, G202_0, G202_1, G202_2, G202_3⟩ := hQ202
  have N202 := Fr.app N201 Nq202
  have zE203 := zE199.keep Kq202
  have zE204 := G193_1.keep Kq202
  have zA205 := zA200.keep Kq202 (ninS (Ne.symm na179) nin0)
  have Z202 := Nat.le_trans Z193 Kq202.1
  have Od202 := Od193.keep Kq202 (allS gz178 all0)
  have sl202 := Nat.le_trans sl193 Kq202.1
  rw [eZ] at G202_3
  obtain ⟨cq206, kq206, q206a, q206b, q206c⟩ := isOf hZ193 rfl G202_0
  obtain ⟨_, _, ⟨T206, L206, k206, n206⟩, -, X206, ⟨Lc206, hQ206, l206, y206, z206⟩, st206⟩ := X202.virtualBack hx (y := (⟨"com/example/caddis/caddis/XmlNesting", "enter", "(I)Ljava/util/Optional;"⟩ : MethodName)) (z := (⟨"com/example/caddis/caddis/XmlNesting", "enter", "(I)Ljava/util/Optional;"⟩ : MethodName)) hown193 (mvT hZ193 (hw _ (List.mem_of_getElem? (i := 13) rfl))) (mvT hZ193 (hw _ (List.mem_of_getElem? (i := 14) rfl))) (notFace_of_selects (args := #[]) (mvT hZ193 (hw _ (List.mem_of_getElem? (i := 16) rfl)))) (mvT hZ193 (hw _ (List.mem_of_getElem? (i := 16) rfl))) (mvT hZ193 (hw _ (List.mem_of_getElem? (i := 15) rfl))) (by decide) (backOf (W := 0) (ren0 l Z a0 hw [] b178 ar179 em (0 : Int32) vx (upd (upd (fun _ => (0 : Int32)) 0 va) 1 vb) T202.heap n0 Z202 G202_0 G202_1 G202_2 G202_3 zA205 gz178 ga179 na179 (Se.ext Od202.2) (by rw [eX]; exact hc207)) hZ193 (hw _ (List.mem_of_getElem? (i := 17) rfl)) (hw _ (List.mem_of_getElem? (i := 3) rfl)) (by decide) (by decide)) q206a q206c (g := (mkF m 192 #[.val (.int vp), .val (.int vq), .val (.int vr), .val (.int vs), .val (.int vt), .val (.int va), .val (.int vb), .val (.int vc), .val (.int vy), .val (.int vx), .val (.ref b178), .val (.int (1 : Int32)), .val (.int (1 : Int32)), .val (.int (0 : Int32)), .val (.int (1 : Int32)), .val (.int (0 : Int32)), .val (.int (1 : Int32)), .unset, .unset] [(.int vx), (.ref b178)])) rfl (by rw [hml]; rfl) (Steps.refl _) (argsL := [(.int vx)]) (rest := []) (lenOf pd_5 rfl) rfl (by show 2 * 0 + _ ≤ _; exact Nat.le_of_eq rfl) (hb hby at_192) (fun _ _ => ⟨rfl, rfl, (by decide : 8 + 0 ≤ _), (by decide : 1509 + 0 ≤ _)⟩)
  dsimp only [Pt.U, Pt.locs, Pt.cells, Pt.slots] at X206 l206 y206 z206 st206 hQ206
  subst l206 y206 z206
  obtain ⟨rfl, Nq206, Kq206, G206_0, G206_1, G206_2, G206_3, G206_4⟩ := hQ206
  have N206 := Fr.app N202 Nq206
  have zE207 := zE203.keep Kq206
  have zE208 := zE204.keep Kq206
  have Z206 := Nat.le_trans Z202 Kq206.1
  have Od206 := Od202.keep Kq206 (allS gz178 (allS ga179 all0))
  have sl206 := Nat.le_trans sl202 Kq206.1
  rw [eX] at G206_3
  obtain ⟨cq209, kq209, q209a, q209b, q209c⟩ := isOf hZ193 rfl (Ee.ext Od206.2)
  obtain ⟨_, _, ⟨T209, L209, k209, n209⟩, -, X209, ⟨Lc209, hQ209, l209, y209, z209⟩, st209⟩ := X206.virtualBack hx (y := (⟨"java/util/Optional", "isEmpty", "()Z"⟩ : MethodName)) (z := (⟨"java/util/Optional", "isEmpty", "()Z"⟩ : MethodName)) hown193 (mvT hZ193 (hw _ (List.mem_of_getElem? (i := 27) rfl))) (mvT hZ193 (hw _ (List.mem_of_getElem? (i := 28) rfl))) (notFace_of_selects (args := #[]) (mvT hZ193 (hw _ (List.mem_of_getElem? (i := 30) rfl)))) (mvT hZ193 (hw _ (List.mem_of_getElem? (i := 30) rfl))) (mvT hZ193 (hw _ (List.mem_of_getElem? (i := 29) rfl))) (by decide) (backOf (W := 0) (ris1 l Z a0 hw [] em T206.heap n0 Z206 (Fe.ext Od206.2)) hZ193 (hw _ (List.mem_of_getElem? (i := 31) rfl)) (hw _ (List.mem_of_getElem? (i := 24) rfl)) (by decide) (by decide)) q209a q209c (g := (mkF m 195 #[.val (.int vp), .val (.int vq), .val (.int vr), .val (.int vs), .val (.int vt), .val (.int va), .val (.int vb), .val (.int vc), .val (.int vy), .val (.int vx), .val (.ref b178), .val (.int (1 : Int32)), .val (.int (1 : Int32)), .val (.int (0 : Int32)), .val (.int (1 : Int32)), .val (.int (0 : Int32)), .val (.int (1 : Int32)), .unset, .unset] [(.ref em)])) rfl (by rw [hml]; rfl) (Steps.refl _) (argsL := []) (rest := []) (lenOf pd_6 rfl) rfl (by show 2 * 0 + _ ≤ _; exact Nat.le_of_eq rfl) (hb hby at_195) (fun _ _ => ⟨rfl, rfl, (by decide : 8 + 0 ≤ _), (by decide : 1509 + 0 ≤ _)⟩)
  dsimp only [Pt.U, Pt.locs, Pt.cells, Pt.slots] at X209 l209 y209 z209 st209 hQ209
  subst l209 y209 z209
  obtain ⟨rfl, Nq209, e209⟩ := hQ209
  have N209 := Fr.app N206 Nq209
  obtain ⟨fs, hr, hrun, hended, hend⟩ := X209.leaveW hS193 (by rw [e209]; exact sl206) (v := some (.int (1 : Int32))) (fun h => by rw [Bd.returns] at h; cases h)
  refine ⟨_, _, pre0 _ ?_, hrun, hended, _, _, rfl, ?_, hend.1, hend.2.1, hend.2.2.1, hend.2.2.2.mono (by decide) (by decide)⟩
  · show Steps p.tables e below (s₁.setTop (mkF m 0 #[.val (.int vp), .val (.int vq), .val (.int vr), .val (.int vs), .val (.int vt), .unset, .unset, .unset, .unset, .unset, .unset, .unset, .unset, .unset, .unset, .unset, .unset, .unset, .unset] [])) _
    refine pA vp vq vr vs vt va vb vc vy vx X0 hx hZ hw hby hown qa qb qc qy qx hnz _ ?_
    show Steps p.tables e below (s₁.setTop (mkF m 45 #[.val (.int vp), .val (.int vq), .val (.int vr), .val (.int vs), .val (.int vt), .val (.int va), .val (.int vb), .val (.int vc), .val (.int vy), .val (.int vx), .unset, .unset, .unset, .unset, .unset, .unset, .unset, .unset, .unset] [])) _
    refine st178 _ ?_
    show Steps p.tables e below (T178.setTop (mkF m 48 #[.val (.int vp), .val (.int vq), .val (.int vr), .val (.int vs), .val (.int vt), .val (.int va), .val (.int vb), .val (.int vc), .val (.int vy), .val (.int vx), .unset, .unset, .unset, .unset, .unset, .unset, .unset, .unset, .unset] [(.ref b178)])) _
    refine XS.dup X178.here hx rfl (hb hby at_48) rfl rfl ?_
    show Steps p.tables e below (T178.setTop (mkF m 49 #[.val (.int vp), .val (.int vq), .val (.int vr), .val (.int vs), .val (.int vt), .val (.int va), .val (.int vb), .val (.int vc), .val (.int vy), .val (.int vx), .unset, .unset, .unset, .unset, .unset, .unset, .unset, .unset, .unset] [(.ref b178), (.ref b178)])) _
    refine st179.trans ?_
    show Steps p.tables e below (T179.setTop (mkF m 52 #[.val (.int vp), .val (.int vq), .val (.int vr), .val (.int vs), .val (.int vt), .val (.int va), .val (.int vb), .val (.int vc), .val (.int vy), .val (.int vx), .unset, .unset, .unset, .unset, .unset, .unset, .unset, .unset, .unset] [(.ref b178)])) _
    refine XS.astore X179.here hx rfl (hb hby at_52) rfl rfl (l' := #[.val (.int vp), .val (.int vq), .val (.int vr), .val (.int vs), .val (.int vt), .val (.int va), .val (.int vb), .val (.int vc), .val (.int vy), .val (.int vx), .val (.ref b178), .unset, .unset, .unset, .unset, .unset, .unset, .unset, .unset]) rfl ?_
    show Steps p.tables e below (T179.setTop (mkF m 54 #[.val (.int vp), .val (.int vq), .val (.int vr), .val (.int vs), .val (.int vt), .val (.int va), .val (.int vb), .val (.int vc), .val (.int vy), .val (.int vx), .val (.ref b178), .unset, .unset, .unset, .unset, .unset, .unset, .unset, .unset] [])) _
    refine XS.aload X179.here hx rfl (hb hby at_54) rfl rfl ?_
    show Steps p.tables e below (T179.setTop (mkF m 56 #[.val (.int vp), .val (.int vq), .val (.int vr), .val (.int vs), .val (.int vt), .val (.int va), .val (.int vb), .val (.int vc), .val (.int vy), .val (.int vx), .val (.ref b178), .unset, .unset, .unset, .unset, .unset, .unset, .unset, .unset] [(.ref b178)])) _
    refine XS.iload X179.here hx rfl (hb hby at_56) rfl ?_
    show Steps p.tables e below (T179.setTop (mkF m 58 #[.val (.int vp), .val (.int vq), .val (.int vr), .val (.int vs), .val (.int vt), .val (.int va), .val (.int vb), .val (.int vc), .val (.int vy), .val (.int vx), .val (.ref b178), .unset, .unset, .unset, .unset, .unset, .unset, .unset, .unset] [(.int va), (.ref b178)])) _
    refine st180.trans ?_
    show Steps p.tables e below (T180.setTop (mkF m 61 #[.val (.int vp), .val (.int vq), .val (.int vr), .val (.int vs), .val (.int vt), .val (.int va), .val (.int vb), .val (.int vc), .val (.int vy), .val (.int vx), .val (.ref b178), .unset, .unset, .unset, .unset, .unset, .unset, .unset, .unset] [(.ref em)])) _
    refine st181.trans ?_
    show Steps p.tables e below (T181.setTop (mkF m 64 #[.val (.int vp), .val (.int vq), .val (.int vr), .val (.int vs), .val (.int vt), .val (.int va), .val (.int vb), .val (.int vc), .val (.int vy), .val (.int vx), .val (.ref b178), .unset, .unset, .unset, .unset, .unset, .unset, .unset, .unset] [(.int (1 : Int32))])) _
    refine XS.istore X181.here hx rfl (hb hby at_64) rfl (l' := #[.val (.int vp), .val (.int vq), .val (.int vr), .val (.int vs), .val (.int vt), .val (.int va), .val (.int vb), .val (.int vc), .val (.int vy), .val (.int vx), .val (.ref b178), .val (.int (1 : Int32)), .unset, .unset, .unset, .unset, .unset, .unset, .unset]) rfl ?_
    show Steps p.tables e below (T181.setTop (mkF m 66 #[.val (.int vp), .val (.int vq), .val (.int vr), .val (.int vs), .val (.int vt), .val (.int va), .val (.int vb), .val (.int vc), .val (.int vy), .val (.int vx), .val (.ref b178), .val (.int (1 : Int32)), .unset, .unset, .unset, .unset, .unset, .unset, .unset] [])) _
    refine XS.aload X181.here hx rfl (hb hby at_66) rfl rfl ?_
    show Steps p.tables e below (T181.setTop (mkF m 68 #[.val (.int vp), .val (.int vq), .val (.int vr), .val (.int vs), .val (.int vt), .val (.int va), .val (.int vb), .val (.int vc), .val (.int vy), .val (.int vx), .val (.ref b178), .val (.int (1 : Int32)), .unset, .unset, .unset, .unset, .unset, .unset, .unset] [(.ref b178)])) _
    refine XS.iload X181.here hx rfl (hb hby at_68) rfl ?_
    show Steps p.tables e below (T181.setTop (mkF m 70 #[.val (.int vp), .val (.int vq), .val (.int vr), .val (.int vs), .val (.int vt), .val (.int va), .val (.int vb), .val (.int vc), .val (.int vy), .val (.int vx), .val (.ref b178), .val (.int (1 : Int32)), .unset, .unset, .unset, .unset, .unset, .unset, .unset] [(.int vb), (.ref b178)])) _
    refine st182.trans ?_
    show Steps p.tables e below (T182.setTop (mkF m 73 #[.val (.int vp), .val (.int vq), .val (.int vr), .val (.int vs), .val (.int vt), .val (.int va), .val (.int vb), .val (.int vc), .val (.int vy), .val (.int vx), .val (.ref b178), .val (.int (1 : Int32)), .unset, .unset, .unset, .unset, .unset, .unset, .unset] [(.ref em)])) _
    refine st183.trans ?_
    show Steps p.tables e below (T183.setTop (mkF m 76 #[.val (.int vp), .val (.int vq), .val (.int vr), .val (.int vs), .val (.int vt), .val (.int va), .val (.int vb), .val (.int vc), .val (.int vy), .val (.int vx), .val (.ref b178), .val (.int (1 : Int32)), .unset, .unset, .unset, .unset, .unset, .unset, .unset] [(.int (1 : Int32))])) _
    refine XS.istore X183.here hx rfl (hb hby at_76) rfl (l' := #[.val (.int vp), .val (.int vq), .val (.int vr), .val (.int vs), .val (.int vt), .val (.int va), .val (.int vb), .val (.int vc), .val (.int vy), .val (.int vx), .val (.ref b178), .val (.int (1 : Int32)), .val (.int (1 : Int32)), .unset, .unset, .unset, .unset, .unset, .unset]) rfl ?_
    show Steps p.tables e below (T183.setTop (mkF m 78 #[.val (.int vp), .val (.int vq), .val (.int vr), .val (.int vs), .val (.int vt), .val (.int va), .val (.int vb), .val (.int vc), .val (.int vy), .val (.int vx), .val (.ref b178), .val (.int (1 : Int32)), .val (.int (1 : Int32)), .unset, .unset, .unset, .unset, .unset, .unset] [])) _
    refine XS.aload X183.here hx rfl (hb hby at_78) rfl rfl ?_
    show Steps p.tables e below (T183.setTop (mkF m 80 #[.val (.int vp), .val (.int vq), .val (.int vr), .val (.int vs), .val (.int vt), .val (.int va), .val (.int vb), .val (.int vc), .val (.int vy), .val (.int vx), .val (.ref b178), .val (.int (1 : Int32)), .val (.int (1 : Int32)), .unset, .unset, .unset, .unset, .unset, .unset] [(.ref b178)])) _
    refine st184.trans ?_
    show Steps p.tables e below (T184.setTop (mkF m 83 #[.val (.int vp), .val (.int vq), .val (.int vr), .val (.int vs), .val (.int vt), .val (.int va), .val (.int vb), .val (.int vc), .val (.int vy), .val (.int vx), .val (.ref b178), .val (.int (1 : Int32)), .val (.int (1 : Int32)), .unset, .unset, .unset, .unset, .unset, .unset] [])) _
    refine XS.aload X184.here hx rfl (hb hby at_83) rfl rfl ?_
    show Steps p.tables e below (T184.setTop (mkF m 85 #[.val (.int vp), .val (.int vq), .val (.int vr), .val (.int vs), .val (.int vt), .val (.int va), .val (.int vb), .val (.int vc), .val (.int vy), .val (.int vx), .val (.ref b178), .val (.int (1 : Int32)), .val (.int (1 : Int32)), .unset, .unset, .unset, .unset, .unset, .unset] [(.ref b178)])) _
    refine XS.iload X184.here hx rfl (hb hby at_85) rfl ?_
    show Steps p.tables e below (T184.setTop (mkF m 87 #[.val (.int vp), .val (.int vq), .val (.int vr), .val (.int vs), .val (.int vt), .val (.int va), .val (.int vb), .val (.int vc), .val (.int vy), .val (.int vx), .val (.ref b178), .val (.int (1 : Int32)), .val (.int (1 : Int32)), .unset, .unset, .unset, .unset, .unset, .unset] [(.int vc), (.ref b178)])) _
    refine st186.trans ?_
    show Steps p.tables e below (T186.setTop (mkF m 90 #[.val (.int vp), .val (.int vq), .val (.int vr), .val (.int vs), .val (.int vt), .val (.int va), .val (.int vb), .val (.int vc), .val (.int vy), .val (.int vx), .val (.ref b178), .val (.int (1 : Int32)), .val (.int (1 : Int32)), .unset, .unset, .unset, .unset, .unset, .unset] [(.ref o186)])) _
    refine st192.trans ?_
    show Steps p.tables e below (T192.setTop (mkF m 93 #[.val (.int vp), .val (.int vq), .val (.int vr), .val (.int vs), .val (.int vt), .val (.int va), .val (.int vb), .val (.int vc), .val (.int vy), .val (.int vx), .val (.ref b178), .val (.int (1 : Int32)), .val (.int (1 : Int32)), .unset, .unset, .unset, .unset, .unset, .unset] [(.int (0 : Int32))])) _
    refine XS.istore X192.here hx rfl (hb hby at_93) rfl (l' := #[.val (.int vp), .val (.int vq), .val (.int vr), .val (.int vs), .val (.int vt), .val (.int va), .val (.int vb), .val (.int vc), .val (.int vy), .val (.int vx), .val (.ref b178), .val (.int (1 : Int32)), .val (.int (1 : Int32)), .val (.int (0 : Int32)), .unset, .unset, .unset, .unset, .unset]) rfl ?_
    show Steps p.tables e below (T192.setTop (mkF m 95 #[.val (.int vp), .val (.int vq), .val (.int vr), .val (.int vs), .val (.int vt), .val (.int va), .val (.int vb), .val (.int vc), .val (.int vy), .val (.int vx), .val (.ref b178), .val (.int (1 : Int32)), .val (.int (1 : Int32)), .val (.int (0 : Int32)), .unset, .unset, .unset, .unset, .unset] [])) _
    refine XS.iload X192.here hx rfl (hb hby at_95) rfl ?_
    show Steps p.tables e below (T192.setTop (mkF m 97 #[.val (.int vp), .val (.int vq), .val (.int vr), .val (.int vs), .val (.int vt), .val (.int va), .val (.int vb), .val (.int vc), .val (.int vy), .val (.int vx), .val (.ref b178), .val (.int (1 : Int32)), .val (.int (1 : Int32)), .val (.int (0 : Int32)), .unset, .unset, .unset, .unset, .unset] [(.int (0 : Int32))])) _
    refine XS.iload X192.here hx rfl (hb hby at_97) rfl ?_
    show Steps p.tables e below (T192.setTop (mkF m 99 #[.val (.int vp), .val (.int vq), .val (.int vr), .val (.int vs), .val (.int vt), .val (.int va), .val (.int vb), .val (.int vc), .val (.int vy), .val (.int vx), .val (.ref b178), .val (.int (1 : Int32)), .val (.int (1 : Int32)), .val (.int (0 : Int32)), .unset, .unset, .unset, .unset, .unset] [(.int va), (.int (0 : Int32))])) _
    refine XS.iload X192.here hx rfl (hb hby at_99) rfl ?_
    show Steps p.tables e below (T192.setTop (mkF m 101 #[.val (.int vp), .val (.int vq), .val (.int vr), .val (.int vs), .val (.int vt), .val (.int va), .val (.int vb), .val (.int vc), .val (.int vy), .val (.int vx), .val (.ref b178), .val (.int (1 : Int32)), .val (.int (1 : Int32)), .val (.int (0 : Int32)), .unset, .unset, .unset, .unset, .unset] [(.int vc), (.int va), (.int (0 : Int32))])) _
    refine XS.iadd X192.here hx rfl (hb hby at_101) rfl ?_
    show Steps p.tables e below (T192.setTop (mkF m 102 #[.val (.int vp), .val (.int vq), .val (.int vr), .val (.int vs), .val (.int vt), .val (.int va), .val (.int vb), .val (.int vc), .val (.int vy), .val (.int vx), .val (.ref b178), .val (.int (1 : Int32)), .val (.int (1 : Int32)), .val (.int (0 : Int32)), .unset, .unset, .unset, .unset, .unset] [(.int (va + vc)), (.int (0 : Int32))])) _
    refine XS.sipush X192.here hx rfl (hb hby at_102) ?_
    show Steps p.tables e below (T192.setTop (mkF m 105 #[.val (.int vp), .val (.int vq), .val (.int vr), .val (.int vs), .val (.int vt), .val (.int va), .val (.int vb), .val (.int vc), .val (.int vy), .val (.int vx), .val (.ref b178), .val (.int (1 : Int32)), .val (.int (1 : Int32)), .val (.int (0 : Int32)), .unset, .unset, .unset, .unset, .unset] [(.int (1000 : Int32)), (.int (va + vc)), (.int (0 : Int32))])) _
    refine XS.icmpYes X192.here hx rfl (pc0 := 105) (pc' := 112) rfl (hb hby at_105) rfl (tlt hc105).2.2.1 (by decide) (by decide) ?_
    show Steps p.tables e below (T192.setTop (mkF m 112 #[.val (.int vp), .val (.int vq), .val (.int vr), .val (.int vs), .val (.int vt), .val (.int va), .val (.int vb), .val (.int vc), .val (.int vy), .val (.int vx), .val (.ref b178), .val (.int (1 : Int32)), .val (.int (1 : Int32)), .val (.int (0 : Int32)), .unset, .unset, .unset, .unset, .unset] [(.int (0 : Int32))])) _
    refine XS.iconst X192.here hx rfl (hb hby at_112) ?_
    show Steps p.tables e below (T192.setTop (mkF m 113 #[.val (.int vp), .val (.int vq), .val (.int vr), .val (.int vs), .val (.int vt), .val (.int va), .val (.int vb), .val (.int vc), .val (.int vy), .val (.int vx), .val (.ref b178), .val (.int (1 : Int32)), .val (.int (1 : Int32)), .val (.int (0 : Int32)), .unset, .unset, .unset, .unset, .unset] [(.int (0 : Int32)), (.int (0 : Int32))])) _
    refine XS.icmpNo X192.here hx rfl (hb hby at_113) rfl (teq (by decide)).2 ?_
    show Steps p.tables e below (T192.setTop (mkF m 116 #[.val (.int vp), .val (.int vq), .val (.int vr), .val (.int vs), .val (.int vt), .val (.int va), .val (.int vb), .val (.int vc), .val (.int vy), .val (.int vx), .val (.ref b178), .val (.int (1 : Int32)), .val (.int (1 : Int32)), .val (.int (0 : Int32)), .unset, .unset, .unset, .unset, .unset] [])) _
    refine XS.iconst X192.here hx rfl (hb hby at_116) ?_
    show Steps p.tables e below (T192.setTop (mkF m 117 #[.val (.int vp), .val (.int vq), .val (.int vr), .val (.int vs), .val (.int vt), .val (.int va), .val (.int vb), .val (.int vc), .val (.int vy), .val (.int vx), .val (.ref b178), .val (.int (1 : Int32)), .val (.int (1 : Int32)), .val (.int (0 : Int32)), .unset, .unset, .unset, .unset, .unset] [(.int (1 : Int32))])) _
    refine XS.goto X192.here hx rfl (pc0 := 117) (pc' := 121) rfl (hb hby at_117) (by decide) (by decide) ?_
    show Steps p.tables e below (T192.setTop (mkF m 121 #[.val (.int vp), .val (.int vq), .val (.int vr), .val (.int vs), .val (.int vt), .val (.int va), .val (.int vb), .val (.int vc), .val (.int vy), .val (.int vx), .val (.ref b178), .val (.int (1 : Int32)), .val (.int (1 : Int32)), .val (.int (0 : Int32)), .unset, .unset, .unset, .unset, .unset] [(.int (1 : Int32))])) _
    refine XS.istore X192.here hx rfl (hb hby at_121) rfl (l' := #[.val (.int vp), .val (.int vq), .val (.int vr), .val (.int vs), .val (.int vt), .val (.int va), .val (.int vb), .val (.int vc), .val (.int vy), .val (.int vx), .val (.ref b178), .val (.int (1 : Int32)), .val (.int (1 : Int32)), .val (.int (0 : Int32)), .val (.int (1 : Int32)), .unset, .unset, .unset, .unset]) rfl ?_
    show Steps p.tables e below (T192.setTop (mkF m 123 #[.val (.int vp), .val (.int vq), .val (.int vr), .val (.int vs), .val (.int vt), .val (.int va), .val (.int vb), .val (.int vc), .val (.int vy), .val (.int vx), .val (.ref b178), .val (.int (1 : Int32)), .val (.int (1 : Int32)), .val (.int (0 : Int32)), .val (.int (1 : Int32)), .unset, .unset, .unset, .unset] [])) _
    refine XS.iload X192.here hx rfl (hb hby at_123) rfl ?_
    show Steps p.tables e below (T192.setTop (mkF m 125 #[.val (.int vp), .val (.int vq), .val (.int vr), .val (.int vs), .val (.int vt), .val (.int va), .val (.int vb), .val (.int vc), .val (.int vy), .val (.int vx), .val (.ref b178), .val (.int (1 : Int32)), .val (.int (1 : Int32)), .val (.int (0 : Int32)), .val (.int (1 : Int32)), .unset, .unset, .unset, .unset] [(.int (0 : Int32))])) _
    refine XS.ifYes X192.here hx rfl (pc0 := 125) (pc' := 133) rfl (hb hby at_125) rfl ((if0 _ _).trans (teq (by decide)).1) (by decide) (by decide) ?_
    show Steps p.tables e below (T192.setTop (mkF m 133 #[.val (.int vp), .val (.int vq), .val (.int vr), .val (.int vs), .val (.int vt), .val (.int va), .val (.int vb), .val (.int vc), .val (.int vy), .val (.int vx), .val (.ref b178), .val (.int (1 : Int32)), .val (.int (1 : Int32)), .val (.int (0 : Int32)), .val (.int (1 : Int32)), .unset, .unset, .unset, .unset] [])) _
    refine XS.aload X192.here hx rfl (hb hby at_133) rfl rfl ?_
    show Steps p.tables e below (T192.setTop (mkF m 135 #[.val (.int vp), .val (.int vq), .val (.int vr), .val (.int vs), .val (.int vt), .val (.int va), .val (.int vb), .val (.int vc), .val (.int vy), .val (.int vx), .val (.ref b178), .val (.int (1 : Int32)), .val (.int (1 : Int32)), .val (.int (0 : Int32)), .val (.int (1 : Int32)), .unset, .unset, .unset, .unset] [(.ref b178)])) _
    refine XS.iload X192.here hx rfl (hb hby at_135) rfl ?_
    show Steps p.tables e below (T192.setTop (mkF m 137 #[.val (.int vp), .val (.int vq), .val (.int vr), .val (.int vs), .val (.int vt), .val (.int va), .val (.int vb), .val (.int vc), .val (.int vy), .val (.int vx), .val (.ref b178), .val (.int (1 : Int32)), .val (.int (1 : Int32)), .val (.int (0 : Int32)), .val (.int (1 : Int32)), .unset, .unset, .unset, .unset] [(.int vy), (.ref b178)])) _
    refine st193.trans ?_
    show Steps p.tables e below (T193.setTop (mkF m 140 #[.val (.int vp), .val (.int vq), .val (.int vr), .val (.int vs), .val (.int vt), .val (.int va), .val (.int vb), .val (.int vc), .val (.int vy), .val (.int vx), .val (.ref b178), .val (.int (1 : Int32)), .val (.int (1 : Int32)), .val (.int (0 : Int32)), .val (.int (1 : Int32)), .unset, .unset, .unset, .unset] [(.ref o193)])) _
    refine st201.trans ?_
    show Steps p.tables e below (T201.setTop (mkF m 143 #[.val (.int vp), .val (.int vq), .val (.int vr), .val (.int vs), .val (.int vt), .val (.int va), .val (.int vb), .val (.int vc), .val (.int vy), .val (.int vx), .val (.ref b178), .val (.int (1 : Int32)), .val (.int (1 : Int32)), .val (.int (0 : Int32)), .val (.int (1 : Int32)), .unset, .unset, .unset, .unset] [(.int (0 : Int32))])) _
    refine XS.istore X201.here hx rfl (hb hby at_143) rfl (l' := #[.val (.int vp), .val (.int vq), .val (.int vr), .val (.int vs), .val (.int vt), .val (.int va), .val (.int vb), .val (.int vc), .val (.int vy), .val (.int vx), .val (.ref b178), .val (.int (1 : Int32)), .val (.int (1 : Int32)), .val (.int (0 : Int32)), .val (.int (1 : Int32)), .val (.int (0 : Int32)), .unset, .unset, .unset]) rfl ?_
    show Steps p.tables e below (T201.setTop (mkF m 145 #[.val (.int vp), .val (.int vq), .val (.int vr), .val (.int vs), .val (.int vt), .val (.int va), .val (.int vb), .val (.int vc), .val (.int vy), .val (.int vx), .val (.ref b178), .val (.int (1 : Int32)), .val (.int (1 : Int32)), .val (.int (0 : Int32)), .val (.int (1 : Int32)), .val (.int (0 : Int32)), .unset, .unset, .unset] [])) _
    refine XS.iload X201.here hx rfl (hb hby at_145) rfl ?_
    show Steps p.tables e below (T201.setTop (mkF m 147 #[.val (.int vp), .val (.int vq), .val (.int vr), .val (.int vs), .val (.int vt), .val (.int va), .val (.int vb), .val (.int vc), .val (.int vy), .val (.int vx), .val (.ref b178), .val (.int (1 : Int32)), .val (.int (1 : Int32)), .val (.int (0 : Int32)), .val (.int (1 : Int32)), .val (.int (0 : Int32)), .unset, .unset, .unset] [(.int (0 : Int32))])) _
    refine XS.iload X201.here hx rfl (hb hby at_147) rfl ?_
    show Steps p.tables e below (T201.setTop (mkF m 149 #[.val (.int vp), .val (.int vq), .val (.int vr), .val (.int vs), .val (.int vt), .val (.int va), .val (.int vb), .val (.int vc), .val (.int vy), .val (.int vx), .val (.ref b178), .val (.int (1 : Int32)), .val (.int (1 : Int32)), .val (.int (0 : Int32)), .val (.int (1 : Int32)), .val (.int (0 : Int32)), .unset, .unset, .unset] [(.int va), (.int (0 : Int32))])) _
    refine XS.iload X201.here hx rfl (hb hby at_149) rfl ?_
    show Steps p.tables e below (T201.setTop (mkF m 151 #[.val (.int vp), .val (.int vq), .val (.int vr), .val (.int vs), .val (.int vt), .val (.int va), .val (.int vb), .val (.int vc), .val (.int vy), .val (.int vx), .val (.ref b178), .val (.int (1 : Int32)), .val (.int (1 : Int32)), .val (.int (0 : Int32)), .val (.int (1 : Int32)), .val (.int (0 : Int32)), .unset, .unset, .unset] [(.int vy), (.int va), (.int (0 : Int32))])) _
    refine XS.iadd X201.here hx rfl (hb hby at_151) rfl ?_
    show Steps p.tables e below (T201.setTop (mkF m 152 #[.val (.int vp), .val (.int vq), .val (.int vr), .val (.int vs), .val (.int vt), .val (.int va), .val (.int vb), .val (.int vc), .val (.int vy), .val (.int vx), .val (.ref b178), .val (.int (1 : Int32)), .val (.int (1 : Int32)), .val (.int (0 : Int32)), .val (.int (1 : Int32)), .val (.int (0 : Int32)), .unset, .unset, .unset] [(.int (va + vy)), (.int (0 : Int32))])) _
    refine XS.sipush X201.here hx rfl (hb hby at_152) ?_
    show Steps p.tables e below (T201.setTop (mkF m 155 #[.val (.int vp), .val (.int vq), .val (.int vr), .val (.int vs), .val (.int vt), .val (.int va), .val (.int vb), .val (.int vc), .val (.int vy), .val (.int vx), .val (.ref b178), .val (.int (1 : Int32)), .val (.int (1 : Int32)), .val (.int (0 : Int32)), .val (.int (1 : Int32)), .val (.int (0 : Int32)), .unset, .unset, .unset] [(.int (1000 : Int32)), (.int (va + vy)), (.int (0 : Int32))])) _
    refine XS.icmpYes X201.here hx rfl (pc0 := 155) (pc' := 162) rfl (hb hby at_155) rfl (tlt hc155).2.2.1 (by decide) (by decide) ?_
    show Steps p.tables e below (T201.setTop (mkF m 162 #[.val (.int vp), .val (.int vq), .val (.int vr), .val (.int vs), .val (.int vt), .val (.int va), .val (.int vb), .val (.int vc), .val (.int vy), .val (.int vx), .val (.ref b178), .val (.int (1 : Int32)), .val (.int (1 : Int32)), .val (.int (0 : Int32)), .val (.int (1 : Int32)), .val (.int (0 : Int32)), .unset, .unset, .unset] [(.int (0 : Int32))])) _
    refine XS.iconst X201.here hx rfl (hb hby at_162) ?_
    show Steps p.tables e below (T201.setTop (mkF m 163 #[.val (.int vp), .val (.int vq), .val (.int vr), .val (.int vs), .val (.int vt), .val (.int va), .val (.int vb), .val (.int vc), .val (.int vy), .val (.int vx), .val (.ref b178), .val (.int (1 : Int32)), .val (.int (1 : Int32)), .val (.int (0 : Int32)), .val (.int (1 : Int32)), .val (.int (0 : Int32)), .unset, .unset, .unset] [(.int (0 : Int32)), (.int (0 : Int32))])) _
    refine XS.icmpNo X201.here hx rfl (hb hby at_163) rfl (teq (by decide)).2 ?_
    show Steps p.tables e below (T201.setTop (mkF m 166 #[.val (.int vp), .val (.int vq), .val (.int vr), .val (.int vs), .val (.int vt), .val (.int va), .val (.int vb), .val (.int vc), .val (.int vy), .val (.int vx), .val (.ref b178), .val (.int (1 : Int32)), .val (.int (1 : Int32)), .val (.int (0 : Int32)), .val (.int (1 : Int32)), .val (.int (0 : Int32)), .unset, .unset, .unset] [])) _
    refine XS.iconst X201.here hx rfl (hb hby at_166) ?_
    show Steps p.tables e below (T201.setTop (mkF m 167 #[.val (.int vp), .val (.int vq), .val (.int vr), .val (.int vs), .val (.int vt), .val (.int va), .val (.int vb), .val (.int vc), .val (.int vy), .val (.int vx), .val (.ref b178), .val (.int (1 : Int32)), .val (.int (1 : Int32)), .val (.int (0 : Int32)), .val (.int (1 : Int32)), .val (.int (0 : Int32)), .unset, .unset, .unset] [(.int (1 : Int32))])) _
    refine XS.goto X201.here hx rfl (pc0 := 167) (pc' := 171) rfl (hb hby at_167) (by decide) (by decide) ?_
    show Steps p.tables e below (T201.setTop (mkF m 171 #[.val (.int vp), .val (.int vq), .val (.int vr), .val (.int vs), .val (.int vt), .val (.int va), .val (.int vb), .val (.int vc), .val (.int vy), .val (.int vx), .val (.ref b178), .val (.int (1 : Int32)), .val (.int (1 : Int32)), .val (.int (0 : Int32)), .val (.int (1 : Int32)), .val (.int (0 : Int32)), .unset, .unset, .unset] [(.int (1 : Int32))])) _
    refine XS.istore X201.here hx rfl (hb hby at_171) rfl (l' := #[.val (.int vp), .val (.int vq), .val (.int vr), .val (.int vs), .val (.int vt), .val (.int va), .val (.int vb), .val (.int vc), .val (.int vy), .val (.int vx), .val (.ref b178), .val (.int (1 : Int32)), .val (.int (1 : Int32)), .val (.int (0 : Int32)), .val (.int (1 : Int32)), .val (.int (0 : Int32)), .val (.int (1 : Int32)), .unset, .unset]) rfl ?_
    show Steps p.tables e below (T201.setTop (mkF m 173 #[.val (.int vp), .val (.int vq), .val (.int vr), .val (.int vs), .val (.int vt), .val (.int va), .val (.int vb), .val (.int vc), .val (.int vy), .val (.int vx), .val (.ref b178), .val (.int (1 : Int32)), .val (.int (1 : Int32)), .val (.int (0 : Int32)), .val (.int (1 : Int32)), .val (.int (0 : Int32)), .val (.int (1 : Int32)), .unset, .unset] [])) _
    refine XS.iload X201.here hx rfl (hb hby at_173) rfl ?_
    show Steps p.tables e below (T201.setTop (mkF m 175 #[.val (.int vp), .val (.int vq), .val (.int vr), .val (.int vs), .val (.int vt), .val (.int va), .val (.int vb), .val (.int vc), .val (.int vy), .val (.int vx), .val (.ref b178), .val (.int (1 : Int32)), .val (.int (1 : Int32)), .val (.int (0 : Int32)), .val (.int (1 : Int32)), .val (.int (0 : Int32)), .val (.int (1 : Int32)), .unset, .unset] [(.int (0 : Int32))])) _
    refine XS.ifYes X201.here hx rfl (pc0 := 175) (pc' := 183) rfl (hb hby at_175) rfl ((if0 _ _).trans (teq (by decide)).1) (by decide) (by decide) ?_
    show Steps p.tables e below (T201.setTop (mkF m 183 #[.val (.int vp), .val (.int vq), .val (.int vr), .val (.int vs), .val (.int vt), .val (.int va), .val (.int vb), .val (.int vc), .val (.int vy), .val (.int vx), .val (.ref b178), .val (.int (1 : Int32)), .val (.int (1 : Int32)), .val (.int (0 : Int32)), .val (.int (1 : Int32)), .val (.int (0 : Int32)), .val (.int (1 : Int32)), .unset, .unset] [])) _
    refine XS.aload X201.here hx rfl (hb hby at_183) rfl rfl ?_
    show Steps p.tables e below (T201.setTop (mkF m 185 #[.val (.int vp), .val (.int vq), .val (.int vr), .val (.int vs), .val (.int vt), .val (.int va), .val (.int vb), .val (.int vc), .val (.int vy), .val (.int vx), .val (.ref b178), .val (.int (1 : Int32)), .val (.int (1 : Int32)), .val (.int (0 : Int32)), .val (.int (1 : Int32)), .val (.int (0 : Int32)), .val (.int (1 : Int32)), .unset, .unset] [(.ref b178)])) _
    refine st202.trans ?_
    show Steps p.tables e below (T202.setTop (mkF m 188 #[.val (.int vp), .val (.int vq), .val (.int vr), .val (.int vs), .val (.int vt), .val (.int va), .val (.int vb), .val (.int vc), .val (.int vy), .val (.int vx), .val (.ref b178), .val (.int (1 : Int32)), .val (.int (1 : Int32)), .val (.int (0 : Int32)), .val (.int (1 : Int32)), .val (.int (0 : Int32)), .val (.int (1 : Int32)), .unset, .unset] [])) _
    refine XS.aload X202.here hx rfl (hb hby at_188) rfl rfl ?_
    show Steps p.tables e below (T202.setTop (mkF m 190 #[.val (.int vp), .val (.int vq), .val (.int vr), .val (.int vs), .val (.int vt), .val (.int va), .val (.int vb), .val (.int vc), .val (.int vy), .val (.int vx), .val (.ref b178), .val (.int (1 : Int32)), .val (.int (1 : Int32)), .val (.int (0 : Int32)), .val (.int (1 : Int32)), .val (.int (0 : Int32)), .val (.int (1 : Int32)), .unset, .unset] [(.ref b178)])) _
    refine XS.iload X202.here hx rfl (hb hby at_190) rfl ?_
    show Steps p.tables e below (T202.setTop (mkF m 192 #[.val (.int vp), .val (.int vq), .val (.int vr), .val (.int vs), .val (.int vt), .val (.int va), .val (.int vb), .val (.int vc), .val (.int vy), .val (.int vx), .val (.ref b178), .val (.int (1 : Int32)), .val (.int (1 : Int32)), .val (.int (0 : Int32)), .val (.int (1 : Int32)), .val (.int (0 : Int32)), .val (.int (1 : Int32)), .unset, .unset] [(.int vx), (.ref b178)])) _
    refine st206.trans ?_
    show Steps p.tables e below (T206.setTop (mkF m 195 #[.val (.int vp), .val (.int vq), .val (.int vr), .val (.int vs), .val (.int vt), .val (.int va), .val (.int vb), .val (.int vc), .val (.int vy), .val (.int vx), .val (.ref b178), .val (.int (1 : Int32)), .val (.int (1 : Int32)), .val (.int (0 : Int32)), .val (.int (1 : Int32)), .val (.int (0 : Int32)), .val (.int (1 : Int32)), .unset, .unset] [(.ref em)])) _
    refine st209.trans ?_
    show Steps p.tables e below (T209.setTop (mkF m 198 #[.val (.int vp), .val (.int vq), .val (.int vr), .val (.int vs), .val (.int vt), .val (.int va), .val (.int vb), .val (.int vc), .val (.int vy), .val (.int vx), .val (.ref b178), .val (.int (1 : Int32)), .val (.int (1 : Int32)), .val (.int (0 : Int32)), .val (.int (1 : Int32)), .val (.int (0 : Int32)), .val (.int (1 : Int32)), .unset, .unset] [(.int (1 : Int32))])) _
    refine XS.istore X209.here hx rfl (hb hby at_198) rfl (l' := #[.val (.int vp), .val (.int vq), .val (.int vr), .val (.int vs), .val (.int vt), .val (.int va), .val (.int vb), .val (.int vc), .val (.int vy), .val (.int vx), .val (.ref b178), .val (.int (1 : Int32)), .val (.int (1 : Int32)), .val (.int (0 : Int32)), .val (.int (1 : Int32)), .val (.int (0 : Int32)), .val (.int (1 : Int32)), .val (.int (1 : Int32)), .unset]) rfl ?_
    show Steps p.tables e below (T209.setTop (mkF m 200 #[.val (.int vp), .val (.int vq), .val (.int vr), .val (.int vs), .val (.int vt), .val (.int va), .val (.int vb), .val (.int vc), .val (.int vy), .val (.int vx), .val (.ref b178), .val (.int (1 : Int32)), .val (.int (1 : Int32)), .val (.int (0 : Int32)), .val (.int (1 : Int32)), .val (.int (0 : Int32)), .val (.int (1 : Int32)), .val (.int (1 : Int32)), .unset] [])) _
    refine XS.iload X209.here hx rfl (hb hby at_200) rfl ?_
    show Steps p.tables e below (T209.setTop (mkF m 202 #[.val (.int vp), .val (.int vq), .val (.int vr), .val (.int vs), .val (.int vt), .val (.int va), .val (.int vb), .val (.int vc), .val (.int vy), .val (.int vx), .val (.ref b178), .val (.int (1 : Int32)), .val (.int (1 : Int32)), .val (.int (0 : Int32)), .val (.int (1 : Int32)), .val (.int (0 : Int32)), .val (.int (1 : Int32)), .val (.int (1 : Int32)), .unset] [(.int (1 : Int32))])) _
    refine XS.iload X209.here hx rfl (hb hby at_202) rfl ?_
    show Steps p.tables e below (T209.setTop (mkF m 204 #[.val (.int vp), .val (.int vq), .val (.int vr), .val (.int vs), .val (.int vt), .val (.int va), .val (.int vb), .val (.int vc), .val (.int vy), .val (.int vx), .val (.ref b178), .val (.int (1 : Int32)), .val (.int (1 : Int32)), .val (.int (0 : Int32)), .val (.int (1 : Int32)), .val (.int (0 : Int32)), .val (.int (1 : Int32)), .val (.int (1 : Int32)), .unset] [(.int vx), (.int (1 : Int32))])) _
    refine XS.sipush X209.here hx rfl (hb hby at_204) ?_
    show Steps p.tables e below (T209.setTop (mkF m 207 #[.val (.int vp), .val (.int vq), .val (.int vr), .val (.int vs), .val (.int vt), .val (.int va), .val (.int vb), .val (.int vc), .val (.int vy), .val (.int vx), .val (.ref b178), .val (.int (1 : Int32)), .val (.int (1 : Int32)), .val (.int (0 : Int32)), .val (.int (1 : Int32)), .val (.int (0 : Int32)), .val (.int (1 : Int32)), .val (.int (1 : Int32)), .unset] [(.int (1000 : Int32)), (.int vx), (.int (1 : Int32))])) _
    refine XS.icmpNo X209.here hx rfl (hb hby at_207) rfl (flt hc207).2.2.1 ?_
    show Steps p.tables e below (T209.setTop (mkF m 210 #[.val (.int vp), .val (.int vq), .val (.int vr), .val (.int vs), .val (.int vt), .val (.int va), .val (.int vb), .val (.int vc), .val (.int vy), .val (.int vx), .val (.ref b178), .val (.int (1 : Int32)), .val (.int (1 : Int32)), .val (.int (0 : Int32)), .val (.int (1 : Int32)), .val (.int (0 : Int32)), .val (.int (1 : Int32)), .val (.int (1 : Int32)), .unset] [(.int (1 : Int32))])) _
    refine XS.iconst X209.here hx rfl (hb hby at_210) ?_
    show Steps p.tables e below (T209.setTop (mkF m 211 #[.val (.int vp), .val (.int vq), .val (.int vr), .val (.int vs), .val (.int vt), .val (.int va), .val (.int vb), .val (.int vc), .val (.int vy), .val (.int vx), .val (.ref b178), .val (.int (1 : Int32)), .val (.int (1 : Int32)), .val (.int (0 : Int32)), .val (.int (1 : Int32)), .val (.int (0 : Int32)), .val (.int (1 : Int32)), .val (.int (1 : Int32)), .unset] [(.int (1 : Int32)), (.int (1 : Int32))])) _
    refine XS.goto X209.here hx rfl (pc0 := 211) (pc' := 215) rfl (hb hby at_211) (by decide) (by decide) ?_
    show Steps p.tables e below (T209.setTop (mkF m 215 #[.val (.int vp), .val (.int vq), .val (.int vr), .val (.int vs), .val (.int vt), .val (.int va), .val (.int vb), .val (.int vc), .val (.int vy), .val (.int vx), .val (.ref b178), .val (.int (1 : Int32)), .val (.int (1 : Int32)), .val (.int (0 : Int32)), .val (.int (1 : Int32)), .val (.int (0 : Int32)), .val (.int (1 : Int32)), .val (.int (1 : Int32)), .unset] [(.int (1 : Int32)), (.int (1 : Int32))])) _
    refine XS.icmpNo X209.here hx rfl (hb hby at_215) rfl (teq (by decide)).2 ?_
    show Steps p.tables e below (T209.setTop (mkF m 218 #[.val (.int vp), .val (.int vq), .val (.int vr), .val (.int vs), .val (.int vt), .val (.int va), .val (.int vb), .val (.int vc), .val (.int vy), .val (.int vx), .val (.ref b178), .val (.int (1 : Int32)), .val (.int (1 : Int32)), .val (.int (0 : Int32)), .val (.int (1 : Int32)), .val (.int (0 : Int32)), .val (.int (1 : Int32)), .val (.int (1 : Int32)), .unset] [])) _
    refine XS.iconst X209.here hx rfl (hb hby at_218) ?_
    show Steps p.tables e below (T209.setTop (mkF m 219 #[.val (.int vp), .val (.int vq), .val (.int vr), .val (.int vs), .val (.int vt), .val (.int va), .val (.int vb), .val (.int vc), .val (.int vy), .val (.int vx), .val (.ref b178), .val (.int (1 : Int32)), .val (.int (1 : Int32)), .val (.int (0 : Int32)), .val (.int (1 : Int32)), .val (.int (0 : Int32)), .val (.int (1 : Int32)), .val (.int (1 : Int32)), .unset] [(.int (1 : Int32))])) _
    refine XS.goto X209.here hx rfl (pc0 := 219) (pc' := 223) rfl (hb hby at_219) (by decide) (by decide) ?_
    show Steps p.tables e below (T209.setTop (mkF m 223 #[.val (.int vp), .val (.int vq), .val (.int vr), .val (.int vs), .val (.int vt), .val (.int va), .val (.int vb), .val (.int vc), .val (.int vy), .val (.int vx), .val (.ref b178), .val (.int (1 : Int32)), .val (.int (1 : Int32)), .val (.int (0 : Int32)), .val (.int (1 : Int32)), .val (.int (0 : Int32)), .val (.int (1 : Int32)), .val (.int (1 : Int32)), .unset] [(.int (1 : Int32))])) _
    refine XS.istore X209.here hx rfl (hb hby at_223) rfl (l' := #[.val (.int vp), .val (.int vq), .val (.int vr), .val (.int vs), .val (.int vt), .val (.int va), .val (.int vb), .val (.int vc), .val (.int vy), .val (.int vx), .val (.ref b178), .val (.int (1 : Int32)), .val (.int (1 : Int32)), .val (.int (0 : Int32)), .val (.int (1 : Int32)), .val (.int (0 : Int32)), .val (.int (1 : Int32)), .val (.int (1 : Int32)), .val (.int (1 : Int32))]) rfl ?_
    show Steps p.tables e below (T209.setTop (mkF m 225 #[.val (.int vp), .val (.int vq), .val (.int vr), .val (.int vs), .val (.int vt), .val (.int va), .val (.int vb), .val (.int vc), .val (.int vy), .val (.int vx), .val (.ref b178), .val (.int (1 : Int32)), .val (.int (1 : Int32)), .val (.int (0 : Int32)), .val (.int (1 : Int32)), .val (.int (0 : Int32)), .val (.int (1 : Int32)), .val (.int (1 : Int32)), .val (.int (1 : Int32))] [])) _
    refine XS.iload X209.here hx rfl (hb hby at_225) rfl ?_
    show Steps p.tables e below (T209.setTop (mkF m 227 #[.val (.int vp), .val (.int vq), .val (.int vr), .val (.int vs), .val (.int vt), .val (.int va), .val (.int vb), .val (.int vc), .val (.int vy), .val (.int vx), .val (.ref b178), .val (.int (1 : Int32)), .val (.int (1 : Int32)), .val (.int (0 : Int32)), .val (.int (1 : Int32)), .val (.int (0 : Int32)), .val (.int (1 : Int32)), .val (.int (1 : Int32)), .val (.int (1 : Int32))] [(.int (1 : Int32))])) _
    refine XS.ifNo X209.here hx rfl (hb hby at_227) rfl ((if0 _ _).trans (feq (by decide)).1) ?_
    show Steps p.tables e below (T209.setTop (mkF m 230 #[.val (.int vp), .val (.int vq), .val (.int vr), .val (.int vs), .val (.int vt), .val (.int va), .val (.int vb), .val (.int vc), .val (.int vy), .val (.int vx), .val (.ref b178), .val (.int (1 : Int32)), .val (.int (1 : Int32)), .val (.int (0 : Int32)), .val (.int (1 : Int32)), .val (.int (0 : Int32)), .val (.int (1 : Int32)), .val (.int (1 : Int32)), .val (.int (1 : Int32))] [])) _
    refine XS.iload X209.here hx rfl (hb hby at_230) rfl ?_
    show Steps p.tables e below (T209.setTop (mkF m 232 #[.val (.int vp), .val (.int vq), .val (.int vr), .val (.int vs), .val (.int vt), .val (.int va), .val (.int vb), .val (.int vc), .val (.int vy), .val (.int vx), .val (.ref b178), .val (.int (1 : Int32)), .val (.int (1 : Int32)), .val (.int (0 : Int32)), .val (.int (1 : Int32)), .val (.int (0 : Int32)), .val (.int (1 : Int32)), .val (.int (1 : Int32)), .val (.int (1 : Int32))] [(.int (1 : Int32))])) _
    refine XS.ifNo X209.here hx rfl (hb hby at_232) rfl ((if0 _ _).trans (feq (by decide)).1) ?_
    show Steps p.tables e below (T209.setTop (mkF m 235 #[.val (.int vp), .val (.int vq), .val (.int vr), .val (.int vs), .val (.int vt), .val (.int va), .val (.int vb), .val (.int vc), .val (.int vy), .val (.int vx), .val (.ref b178), .val (.int (1 : Int32)), .val (.int (1 : Int32)), .val (.int (0 : Int32)), .val (.int (1 : Int32)), .val (.int (0 : Int32)), .val (.int (1 : Int32)), .val (.int (1 : Int32)), .val (.int (1 : Int32))] [])) _
    refine XS.iload X209.here hx rfl (hb hby at_235) rfl ?_
    show Steps p.tables e below (T209.setTop (mkF m 237 #[.val (.int vp), .val (.int vq), .val (.int vr), .val (.int vs), .val (.int vt), .val (.int va), .val (.int vb), .val (.int vc), .val (.int vy), .val (.int vx), .val (.ref b178), .val (.int (1 : Int32)), .val (.int (1 : Int32)), .val (.int (0 : Int32)), .val (.int (1 : Int32)), .val (.int (0 : Int32)), .val (.int (1 : Int32)), .val (.int (1 : Int32)), .val (.int (1 : Int32))] [(.int (1 : Int32))])) _
    refine XS.ifNo X209.here hx rfl (hb hby at_237) rfl ((if0 _ _).trans (feq (by decide)).1) ?_
    show Steps p.tables e below (T209.setTop (mkF m 240 #[.val (.int vp), .val (.int vq), .val (.int vr), .val (.int vs), .val (.int vt), .val (.int va), .val (.int vb), .val (.int vc), .val (.int vy), .val (.int vx), .val (.ref b178), .val (.int (1 : Int32)), .val (.int (1 : Int32)), .val (.int (0 : Int32)), .val (.int (1 : Int32)), .val (.int (0 : Int32)), .val (.int (1 : Int32)), .val (.int (1 : Int32)), .val (.int (1 : Int32))] [])) _
    refine XS.iload X209.here hx rfl (hb hby at_240) rfl ?_
    show Steps p.tables e below (T209.setTop (mkF m 242 #[.val (.int vp), .val (.int vq), .val (.int vr), .val (.int vs), .val (.int vt), .val (.int va), .val (.int vb), .val (.int vc), .val (.int vy), .val (.int vx), .val (.ref b178), .val (.int (1 : Int32)), .val (.int (1 : Int32)), .val (.int (0 : Int32)), .val (.int (1 : Int32)), .val (.int (0 : Int32)), .val (.int (1 : Int32)), .val (.int (1 : Int32)), .val (.int (1 : Int32))] [(.int (1 : Int32))])) _
    refine XS.ifNo X209.here hx rfl (hb hby at_242) rfl ((if0 _ _).trans (feq (by decide)).1) ?_
    show Steps p.tables e below (T209.setTop (mkF m 245 #[.val (.int vp), .val (.int vq), .val (.int vr), .val (.int vs), .val (.int vt), .val (.int va), .val (.int vb), .val (.int vc), .val (.int vy), .val (.int vx), .val (.ref b178), .val (.int (1 : Int32)), .val (.int (1 : Int32)), .val (.int (0 : Int32)), .val (.int (1 : Int32)), .val (.int (0 : Int32)), .val (.int (1 : Int32)), .val (.int (1 : Int32)), .val (.int (1 : Int32))] [])) _
    refine XS.iload X209.here hx rfl (hb hby at_245) rfl ?_
    show Steps p.tables e below (T209.setTop (mkF m 247 #[.val (.int vp), .val (.int vq), .val (.int vr), .val (.int vs), .val (.int vt), .val (.int va), .val (.int vb), .val (.int vc), .val (.int vy), .val (.int vx), .val (.ref b178), .val (.int (1 : Int32)), .val (.int (1 : Int32)), .val (.int (0 : Int32)), .val (.int (1 : Int32)), .val (.int (0 : Int32)), .val (.int (1 : Int32)), .val (.int (1 : Int32)), .val (.int (1 : Int32))] [(.int (1 : Int32))])) _
    refine XS.ifNo X209.here hx rfl (hb hby at_247) rfl ((if0 _ _).trans (feq (by decide)).1) ?_
    show Steps p.tables e below (T209.setTop (mkF m 250 #[.val (.int vp), .val (.int vq), .val (.int vr), .val (.int vs), .val (.int vt), .val (.int va), .val (.int vb), .val (.int vc), .val (.int vy), .val (.int vx), .val (.ref b178), .val (.int (1 : Int32)), .val (.int (1 : Int32)), .val (.int (0 : Int32)), .val (.int (1 : Int32)), .val (.int (0 : Int32)), .val (.int (1 : Int32)), .val (.int (1 : Int32)), .val (.int (1 : Int32))] [])) _
    refine XS.iconst X209.here hx rfl (hb hby at_250) ?_
    show Steps p.tables e below (T209.setTop (mkF m 251 #[.val (.int vp), .val (.int vq), .val (.int vr), .val (.int vs), .val (.int vt), .val (.int va), .val (.int vb), .val (.int vc), .val (.int vy), .val (.int vx), .val (.ref b178), .val (.int (1 : Int32)), .val (.int (1 : Int32)), .val (.int (0 : Int32)), .val (.int (1 : Int32)), .val (.int (0 : Int32)), .val (.int (1 : Int32)), .val (.int (1 : Int32)), .val (.int (1 : Int32))] [(.int (1 : Int32))])) _
    refine XS.goto X209.here hx rfl (pc0 := 251) (pc' := 255) rfl (hb hby at_251) (by decide) (by decide) ?_
    show Steps p.tables e below (T209.setTop (mkF m 255 #[.val (.int vp), .val (.int vq), .val (.int vr), .val (.int vs), .val (.int vt), .val (.int va), .val (.int vb), .val (.int vc), .val (.int vy), .val (.int vx), .val (.ref b178), .val (.int (1 : Int32)), .val (.int (1 : Int32)), .val (.int (0 : Int32)), .val (.int (1 : Int32)), .val (.int (0 : Int32)), .val (.int (1 : Int32)), .val (.int (1 : Int32)), .val (.int (1 : Int32))] [(.int (1 : Int32))])) _
    exact retN X209 hx (t := .boolean) Bd.returns (by simp) (hb hby at_255) hr
  · show QL n0 _ T209.heap _
    rw [e209]
    exact ⟨rfl, N209⟩
set_option maxRecDepth 65536 in
set_option maxHeartbeats 40000000 in
theorem rm0_010 (l : Launch) (Z : State) (a0 : Array Value) (hw : ∀ d ∈ tables_1, d.before a0 Z = true) (ws : List Jvm.Cond) (vp vq vr vs vt : Int32) (va vb vc vy vx : Int32) (em : Addr) (h0 : Heap) (n0 : Nat) (Z0 : n0 ≤ h0.size) (qa : ((vp &&& (2147483647 : Int32)) % (1001 : Int32)) = va) (qb : ((vq &&& (2147483647 : Int32)) % ((1001 : Int32) - va)) = vb) (qc : (vr &&& (2047 : Int32)) = vc) (qy : (vt &&& (2047 : Int32)) = vy) (qx : (vs &&& (2047 : Int32)) = vx) (hnz : (1001 : Int32) - va ≠ 0) (Od0 : Old Z n0 h0) (Se : Sta Z Z.heap "java/util/Optional" "EMPTY" "Ljava/util/Optional;" (.ref em)) (Ee : Exa Z Z.heap em "java/util/Optional") (Fe : Fld Z Z.heap em "java/util/Optional" "value" "Ljava/lang/Object;" .null) (hA : ¬ ((1000 : Int32) < (0 : Int32) + va)) (hB : ¬ ((1000 : Int32) < va + vb)) (eA : (0 : Int32) + va = va) (eB : va + vb - vb = va) (eC : va + vc - vc = va) (eY : va + vy - vy = va) (eZ : va - va = 0) (eX : (0 : Int32) + vx = vx) (hc105 : (1000 : Int32) < (va + vc)) (hc155 : ¬ ((1000 : Int32) < (va + vy))) (hc207 : (1000 : Int32) < vx) :
    MetFree l x (head1 (Jvm.Cond.code x code maxLocals ret :: ws) room_1) (fun zA zU => zA = #[(.int vp), (.int vq), (.int vr), (.int vs), (.int vt)] ∧ Z.Warmed39 zU.vm ∧ zU.heap = h0) (fun _ _ _ _ _ => True) (fun _ zU zO zW => ∃ zV zL, zO = .returned zV ∧ QL n0 zV zW.heap zL ∧ ReturnedEndW zU zO zW zL room_1.cells room_1.slots) := by
  refine MetFree.of_bodySF (plainFor_of_name pn_XmlNestingLeavePinLaw) hisR ?_
  intro p e s m args below meth c s₁ Bd hml0 hP hK
  obtain ⟨rfl, hZ, hh⟩ := hP
  have hx := Bd.exec
  have hby := Bd.bytes
  have hml : c.maxLocals = 19 := hml0
  have hown : s.vm.findClass "com/example/caddis/caddis/XmlNestingLeavePinLaw" = some m.cls := findClass_of_methodNamed Bd.named
  have hnm := (name_of_methodNamed Bd.named Bd.method).1
  have X0 : Stand p l e room_1 s m #[(.int vp), (.int vq), (.int vr), (.int vs), (.int vt)] below meth c s₁ [] 0 0 := Stand.of_body Bd
  have e0 : s₁.heap = h0 := by rw [← hh, Bd.state]; rfl
  have N0 := Fr.nil n0
  have pre0 : ∀ zt, Steps p.tables e below (s₁.setTop (mkF m 0 #[.val (.int vp), .val (.int vq), .val (.int vr), .val (.int vs), .val (.int vt), .unset, .unset, .unset, .unset, .unset, .unset, .unset, .unset, .unset, .unset, .unset, .unset, .unset, .unset] [])) zt → Steps p.tables e below (s₁.setTop (entryFrame m #[(.int vp), (.int vq), (.int vr), (.int vs), (.int vt)] maxLocals)) zt := fun zt zk => castTop (ef_0_IIIII m vp vq vr vs vt) zk
  obtain ⟨T210, h210, X210, e210, E210, A210, D210, -, st210⟩ := newO X0 hx hZ hown (hw _ (List.mem_of_getElem? (i := 1) rfl)) (hw _ (List.mem_of_getElem? (i := 2) rfl)) (hw _ (List.mem_of_getElem? (i := 3) rfl)) e0 (g := (mkF m 45 #[.val (.int vp), .val (.int vq), .val (.int vr), .val (.int vs), .val (.int vt), .val (.int va), .val (.int vb), .val (.int vc), .val (.int vy), .val (.int vx), .unset, .unset, .unset, .unset, .unset, .unset, .unset, .unset, .unset] [])) rfl (hb hby at_45) (by decide) (by decide)
  obtain ⟨b210, g210⟩ : ∃ z, z = h0.size := ⟨_, rfl⟩
  rw [← g210] at A210 D210 st210
  have gz210 : n0 ≤ b210 := Nat.le_trans Z0 (Nat.le_of_eq g210.symm)
  have Z210 := Nat.le_trans Z0 E210.1
  have Od210 := Od0.ext E210
  have F210_declared : Fld Z h210 b210 "com/example/caddis/caddis/XmlNesting" "declared" "[I" .null := D210 (Or.inr (hw _ (List.mem_of_getElem? (i := 12) rfl))) (ty := (.array .int)) (by decide)
  have F210_depth : Fld Z h210 b210 "com/example/caddis/caddis/XmlNesting" "depth" "I" (.int (0 : Int32)) := D210 (Or.inl (hw _ (List.mem_of_getElem? (i := 19) rfl))) (ty := .int) (by decide)
  have F210_declarations : Fld Z h210 b210 "com/example/caddis/caddis/XmlNesting" "declarations" "I" (.int (0 : Int32)) := D210 (Or.inl (hw _ (List.mem_of_getElem? (i := 21) rfl))) (ty := .int) (by decide)
  obtain ⟨_, _, ⟨T211, L211, k211, n211⟩, -, X211, ⟨Lc211, hQ211, l211, y211, z211⟩, st211⟩ := X210.specialBack hx (y := (⟨"com/example/caddis/caddis/XmlNesting", "<init>", "()V"⟩ : MethodName)) rfl hown (mvT hZ (hw _ (List.mem_of_getElem? (i := 4) rfl))) (mvT hZ (hw _ (List.mem_of_getElem? (i := 5) rfl))) (mvT hZ (hw _ (List.mem_of_getElem? (i := 6) rfl))) (by decide) (backOf (W := 1) (rini l Z a0 hw [] b210 h210 n0 Z210 A210 F210_declared F210_depth F210_declarations gz210) hZ (hw _ (List.mem_of_getElem? (i := 6) rfl)) (hw _ (List.mem_of_getElem? (i := 3) rfl)) (by decide) (by decide)) (g := (mkF m 49 #[.val (.int vp), .val (.int vq), .val (.int vr), .val (.int vs), .val (.int vt), .val (.int va), .val (.int vb), .val (.int vc), .val (.int vy), .val (.int vx), .unset, .unset, .unset, .unset, .unset, .unset, .unset, .unset, .unset] [(.ref b210), (.ref b210)])) rfl (by rw [hml]; rfl) (Steps.refl _) (a := b210) (argsL := []) (rest := [(.ref b210)]) (lenOf pd_4 rfl) rfl (by show 2 * 0 + _ ≤ _; exact Nat.le_of_eq rfl) (hb hby at_49) (fun _ _ => ⟨rfl, e210, (by decide : 1 + 1 ≤ _), (by decide : 3 + 1000 ≤ _)⟩)
  dsimp only [Pt.U, Pt.locs, Pt.cells, Pt.slots] at X211 l211 y211 z211 st211 hQ211
  subst l211 y211 z211
  obtain ⟨ar211, rfl, Nq211, Kq211, G211_0, G211_1, G211_2, G211_3, G211_4, ga211, na211⟩ := hQ211
  have N211 := Fr.app N0 Nq211
  have Z211 := Nat.le_trans Z210 Kq211.1
  have Od211 := Od210.keep Kq211 (allS gz210 all0)
  obtain ⟨cq212, kq212, q212a, q212b, q212c⟩ := isOf hZ rfl G211_0
  obtain ⟨_, _, ⟨T212, L212, k212, n212⟩, -, X212, ⟨Lc212, hQ212, l212, y212, z212⟩, st212⟩ := X211.virtualBack hx (y := (⟨"com/example/caddis/caddis/XmlNesting", "enter", "(I)Ljava/util/Optional;"⟩ : MethodName)) (z := (⟨"com/example/caddis/caddis/XmlNesting", "enter", "(I)Ljava/util/Optional;"⟩ : MethodName)) hown (mvT hZ (hw _ (List.mem_of_getElem? (i := 13) rfl))) (mvT hZ (hw _ (List.mem_of_getElem? (i := 14) rfl))) (notFace_of_selects (args := #[]) (mvT hZ (hw _ (List.mem_of_getElem? (i := 16) rfl)))) (mvT hZ (hw _ (List.mem_of_getElem? (i := 16) rfl))) (mvT hZ (hw _ (List.mem_of_getElem? (i := 15) rfl))) (by decide) (backOf (W := 0) (ren0 l Z a0 hw [] b210 ar211 em (0 : Int32) va (fun _ => (0 : Int32)) T211.heap n0 Z211 G211_0 G211_1 G211_2 G211_3 G211_4 gz210 ga211 na211 (Se.ext Od211.2) hA) hZ (hw _ (List.mem_of_getElem? (i := 17) rfl)) (hw _ (List.mem_of_getElem? (i := 3) rfl)) (by decide) (by decide)) q212a q212c (g := (mkF m 58 #[.val (.int vp), .val (.int vq), .val (.int vr), .val (.int vs), .val (.int vt), .val (.int va), .val (.int vb), .val (.int vc), .val (.int vy), .val (.int vx), .val (.ref b210), .unset, .unset, .unset, .unset, .unset, .unset, .unset, .unset] [(.int va), (.ref b210)])) rfl (by rw [hml]; rfl) (Steps.refl _) (argsL := [(.int va)]) (rest := []) (lenOf pd_5 rfl) rfl (by show 2 * 0 + _ ≤ _; exact Nat.le_of_eq rfl) (hb hby at_58) (fun _ _ => ⟨rfl, rfl, (by decide : 2 + 0 ≤ _), (by decide : 1003 + 0 ≤ _)⟩)
  dsimp only [Pt.U, Pt.locs, Pt.cells, Pt.slots] at X212 l212 y212 z212 st212 hQ212
  subst l212 y212 z212
  obtain ⟨rfl, Nq212, Kq212, G212_0, G212_1, G212_2, G212_3, G212_4⟩ := hQ212
  have N212 := Fr.app N211 Nq212
  have Z212 := Nat.le_trans Z211 Kq212.1
  have Od212 := Od211.keep Kq212 (allS gz210 (allS ga211 all0))
  rw [eA] at G212_3
  obtain ⟨cq213, kq213, q213a, q213b, q213c⟩ := isOf hZ rfl (Ee.ext Od212.2)
  obtain ⟨_, _, ⟨T213, L213, k213, n213⟩, -, X213, ⟨Lc213, hQ213, l213, y213, z213⟩, st213⟩ := X212.virtualBack hx (y := (⟨"java/util/Optional", "isEmpty", "()Z"⟩ : MethodName)) (z := (⟨"java/util/Optional", "isEmpty", "()Z"⟩ : MethodName)) hown (mvT hZ (hw _ (List.mem_of_getElem? (i := 27) rfl))) (mvT hZ (hw _ (List.mem_of_getElem? (i := 28) rfl))) (notFace_of_selects (args := #[]) (mvT hZ (hw _ (List.mem_of_getElem? (i := 30) rfl)))) (mvT hZ (hw _ (List.mem_of_getElem? (i := 30) rfl))) (mvT hZ (hw _ (List.mem_of_getElem? (i := 29) rfl))) (by decide) (backOf (W := 0) (ris1 l Z a0 hw [] em T212.heap n0 Z212 (Fe.ext Od212.2)) hZ (hw _ (List.mem_of_getElem? (i := 31) rfl)) (hw _ (List.mem_of_getElem? (i := 24) rfl)) (by decide) (by decide)) q213a q213c (g := (mkF m 61 #[.val (.int vp), .val (.int vq), .val (.int vr), .val (.int vs), .val (.int vt), .val (.int va), .val (.int vb), .val (.int vc), .val (.int vy), .val (.int vx), .val (.ref b210), .unset, .unset, .unset, .unset, .unset, .unset, .unset, .unset] [(.ref em)])) rfl (by rw [hml]; rfl) (Steps.refl _) (argsL := []) (rest := []) (lenOf pd_6 rfl) rfl (by show 2 * 0 + _ ≤ _; exact Nat.le_of_eq rfl) (hb hby at_61) (fun _ _ => ⟨rfl, rfl, (by decide : 2 + 0 ≤ _), (by decide : 1003 + 0 ≤ _)⟩)
  dsimp only [Pt.U, Pt.locs, Pt.cells, Pt.slots] at X213 l213 y213 z213 st213 hQ213
  subst l213 y213 z213
  obtain ⟨rfl, Nq213, e213⟩ := hQ213
  have N213 := Fr.app N212 Nq213
  obtain ⟨cq214, kq214, q214a, q214b, q214c⟩ := isOf hZ e213 G212_0
  obtain ⟨_, _, ⟨T214, L214, k214, n214⟩, -, X214, ⟨Lc214, hQ214, l214, y214, z214⟩, st214⟩ := X213.virtualBack hx (y := (⟨"com/example/caddis/caddis/XmlNesting", "enter", "(I)Ljava/util/Optional;"⟩ : MethodName)) (z := (⟨"com/example/caddis/caddis/XmlNesting", "enter", "(I)Ljava/util/Optional;"⟩ : MethodName)) hown (mvT hZ (hw _ (List.mem_of_getElem? (i := 13) rfl))) (mvT hZ (hw _ (List.mem_of_getElem? (i := 14) rfl))) (notFace_of_selects (args := #[]) (mvT hZ (hw _ (List.mem_of_getElem? (i := 16) rfl)))) (mvT hZ (hw _ (List.mem_of_getElem? (i := 16) rfl))) (mvT hZ (hw _ (List.mem_of_getElem? (i := 15) rfl))) (by decide) (backOf (W := 0) (ren1 l Z a0 hw [] b210 ar211 em va vb (upd (fun _ => (0 : Int32)) 0 va) T212.heap n0 Z212 G212_0 G212_1 G212_2 G212_3 G212_4 gz210 ga211 na211 (Se.ext Od212.2) hB) hZ (hw _ (List.mem_of_getElem? (i := 17) rfl)) (hw _ (List.mem_of_getElem? (i := 3) rfl)) (by decide) (by decide)) q214a q214c (g := (mkF m 70 #[.val (.int vp), .val (.int vq), .val (.int vr), .val (.int vs), .val (.int vt), .val (.int va), .val (.int vb), .val (.int vc), .val (.int vy), .val (.int vx), .val (.ref b210), .val (.int (1 : Int32)), .unset, .unset, .unset, .unset, .unset, .unset, .unset] [(.int vb), (.ref b210)])) rfl (by rw [hml]; rfl) (Steps.refl _) (argsL := [(.int vb)]) (rest := []) (lenOf pd_5 rfl) rfl (by show 2 * 0 + _ ≤ _; exact Nat.le_of_eq rfl) (hb hby at_70) (fun _ _ => ⟨rfl, e213, (by decide : 2 + 0 ≤ _), (by decide : 1003 + 0 ≤ _)⟩)
  dsimp only [Pt.U, Pt.locs, Pt.cells, Pt.slots] at X214 l214 y214 z214 st214 hQ214
  subst l214 y214 z214
  obtain ⟨rfl, Nq214, Kq214, G214_0, G214_1, G214_2, G214_3, G214_4⟩ := hQ214
  have N214 := Fr.app N213 Nq214
  have Z214 := Nat.le_trans Z212 Kq214.1
  have Od214 := Od212.keep Kq214 (allS gz210 (allS ga211 all0))
  obtain ⟨cq215, kq215, q215a, q215b, q215c⟩ := isOf hZ rfl (Ee.ext Od214.2)
  obtain ⟨_, _, ⟨T215, L215, k215, n215⟩, -, X215, ⟨Lc215, hQ215, l215, y215, z215⟩, st215⟩ := X214.virtualBack hx (y := (⟨"java/util/Optional", "isEmpty", "()Z"⟩ : MethodName)) (z := (⟨"java/util/Optional", "isEmpty", "()Z"⟩ : MethodName)) hown (mvT hZ (hw _ (List.mem_of_getElem? (i := 27) rfl))) (mvT hZ (hw _ (List.mem_of_getElem? (i := 28) rfl))) (notFace_of_selects (args := #[]) (mvT hZ (hw _ (List.mem_of_getElem? (i := 30) rfl)))) (mvT hZ (hw _ (List.mem_of_getElem? (i := 30) rfl))) (mvT hZ (hw _ (List.mem_of_getElem? (i := 29) rfl))) (by decide) (backOf (W := 0) (ris1 l Z a0 hw [] em T214.heap n0 Z214 (Fe.ext Od214.2)) hZ (hw _ (List.mem_of_getElem? (i := 31) rfl)) (hw _ (List.mem_of_getElem? (i := 24) rfl)) (by decide) (by decide)) q215a q215c (g := (mkF m 73 #[.val (.int vp), .val (.int vq), .val (.int vr), .val (.int vs), .val (.int vt), .val (.int va), .val (.int vb), .val (.int vc), .val (.int vy), .val (.int vx), .val (.ref b210), .val (.int (1 : Int32)), .unset, .unset, .unset, .unset, .unset, .unset, .unset] [(.ref em)])) rfl (by rw [hml]; rfl) (Steps.refl _) (argsL := []) (rest := []) (lenOf pd_6 rfl) rfl (by show 2 * 0 + _ ≤ _; exact Nat.le_of_eq rfl) (hb hby at_73) (fun _ _ => ⟨rfl, rfl, (by decide : 2 + 0 ≤ _), (by decide : 1003 + 0 ≤ _)⟩)
  dsimp only [Pt.U, Pt.locs, Pt.cells, Pt.slots] at X215 l215 y215 z215 st215 hQ215
  subst l215 y215 z215
  obtain ⟨rfl, Nq215, e215⟩ := hQ215
  have N215 := Fr.app N214 Nq215
  obtain ⟨cq216, kq216, q216a, q216b, q216c⟩ := isOf hZ e215 G214_0
  obtain ⟨_, _, ⟨T216, L216, k216, n216⟩, -, X216, ⟨Lc216, hQ216, l216, y216, z216⟩, st216⟩ := X215.virtualBack hx (y := (⟨"com/example/caddis/caddis/XmlNesting", "leave", "()V"⟩ : MethodName)) (z := (⟨"com/example/caddis/caddis/XmlNesting", "leave", "()V"⟩ : MethodName)) hown (mvT hZ (hw _ (List.mem_of_getElem? (i := 34) rfl))) (mvT hZ (hw _ (List.mem_of_getElem? (i := 35) rfl))) (notFace_of_selects (args := #[]) (mvT hZ (hw _ (List.mem_of_getElem? (i := 37) rfl)))) (mvT hZ (hw _ (List.mem_of_getElem? (i := 37) rfl))) (mvT hZ (hw _ (List.mem_of_getElem? (i := 36) rfl))) (by decide) (backOf (W := 0) (rlv2 l Z a0 hw [] b210 ar211 (va + vb) vb (upd (upd (fun _ => (0 : Int32)) 0 va) 1 vb) T214.heap n0 Z214 G214_0 G214_1 G214_2 G214_3 G214_4 gz210 na211 rfl) hZ (hw _ (List.mem_of_getElem? (i := 38) rfl)) (hw _ (List.mem_of_getElem? (i := 3) rfl)) (by decide) (by decide)) q216a q216c (g := (mkF m 80 #[.val (.int vp), .val (.int vq), .val (.int vr), .val (.int vs), .val (.int vt), .val (.int va), .val (.int vb), .val (.int vc), .val (.int vy), .val (.int vx), .val (.ref b210), .val (.int (1 : Int32)), .val (.int (1 : Int32)), .unset, .unset, .unset, .unset, .unset, .unset] [(.ref b210)])) rfl (by rw [hml]; rfl) (Steps.refl _) (argsL := []) (rest := []) (lenOf pd_4 rfl) rfl (by show 2 * 0 + _ ≤ _; exact Nat.le_of_eq rfl) (hb hby at_80) (fun _ _ => ⟨rfl, e215, (by decide : 2 + 0 ≤ _), (by decide : 1003 + 0 ≤ _)⟩)
  dsimp only [Pt.U, Pt.locs, Pt.cells, Pt.slots] at X216 l216 y216 z216 st216 hQ216
  subst l216 y216 z216
  obtain ⟨rfl, Nq216, Kq216, G216_0, G216_1, G216_2, G216_3⟩ := hQ216
  have N216 := Fr.app N215 Nq216
  have zA217 := G214_4.keep Kq216 (ninS (Ne.symm na211) nin0)
  have Z216 := Nat.le_trans Z214 Kq216.1
  have Od216 := Od214.keep Kq216 (allS gz210 all0)
  rw [eB] at G216_3
  obtain ⟨cq218, kq218, q218a, q218b, q218c⟩ := isOf hZ rfl G216_0
  obtain ⟨_, _, ⟨T218, L218, k218, n218⟩, -, X218, hS218, hG218, ⟨Lc218, hQ218, l218, y218, z218⟩, st218⟩ := X216.virtualBackS hx (y := (⟨"com/example/caddis/caddis/XmlNesting", "enter", "(I)Ljava/util/Optional;"⟩ : MethodName)) (z := (⟨"com/example/caddis/caddis/XmlNesting", "enter", "(I)Ljava/util/Optional;"⟩ : MethodName)) hown (mvT hZ (hw _ (List.mem_of_getElem? (i := 13) rfl))) (mvT hZ (hw _ (List.mem_of_getElem? (i := 14) rfl))) (notFace_of_selects (args := #[]) (mvT hZ (hw _ (List.mem_of_getElem? (i := 16) rfl)))) (mvT hZ (hw _ (List.mem_of_getElem? (i := 16) rfl))) (mvT hZ (hw _ (List.mem_of_getElem? (i := 15) rfl))) (by decide) (backOfS (W := 0) (rex1 l Z a0 hw [] b210 ar211 em va vc (upd (upd (fun _ => (0 : Int32)) 0 va) 1 vb) T216.heap n0 Z216 G216_0 G216_1 G216_2 G216_3 zA217 gz210 ga211 na211 (Se.ext Od216.2) hc105) hZ (hw _ (List.mem_of_getElem? (i := 17) rfl)) (hw _ (List.mem_of_getElem? (i := 3) rfl)) (by decide) (by decide)) q218a q218c (g := (mkF m 87 #[.val (.int vp), .val (.int vq), .val (.int vr), .val (.int vs), .val (.int vt), .val (.int va), .val (.int vb), .val (.int vc), .val (.int vy), .val (.int vx), .val (.ref b210), .val (.int (1 : Int32)), .val (.int (1 : Int32)), .unset, .unset, .unset, .unset, .unset, .unset] [(.int vc), (.ref b210)])) rfl (by rw [hml]; rfl) (Steps.refl _) (argsL := [(.int vc)]) (rest := []) (lenOf pd_5 rfl) rfl (by show 2 * 0 + _ ≤ _; exact Nat.le_of_eq rfl) (hb hby at_87) (fun _ _ => ⟨rfl, rfl, (by decide : 2 + 3 ≤ _), (by decide : 1003 + 253 ≤ _)⟩)
  dsimp only [Pt.U, Pt.locs, Pt.cells, Pt.slots] at X218 hS218 hG218 l218 y218 z218 st218 hQ218
  subst l218 y218 z218
  obtain ⟨o218, y218, rfl, Nq218, Kq218, go218, G218_1, G218_2⟩ := hQ218
  have N218 := Fr.app N216 Nq218
  have zF219 := G216_1.keep Kq218 nin0
  have zF220 := G216_2.keep Kq218 nin0
  have zF221 := G216_3.keep Kq218 nin0
  have zE222 := G216_0.keep Kq218
  have zA223 := zA217.keep Kq218 nin0
  have Z218 := Nat.le_trans Z216 Kq218.1
  have Od218 := Od216.keep Kq218 all0
  have hZ218 : Z.Warmed39 (s.setVm T218.vm).vm := State.Warmed39.trans (t := s) hZ hS218.1
  have hown218 : (s.setVm T218.vm).vm.findClass "com/example/caddis/caddis/XmlNestingLeavePinLaw" = some m.cls := by rw [show (s.setVm T218.vm).vm = T218.vm from rfl, hS218.1.alike.findClass]; exact hown
  have sl218 : T218.heap.size ≤ T218.heap.size := Nat.le_refl _
  obtain ⟨cq224, kq224, q224a, q224b, q224c⟩ := isOf hZ218 rfl G218_1
  obtain ⟨_, _, ⟨T224, L224, k224, n224⟩, -, X224, ⟨Lc224, hQ224, l224, y224, z224⟩, st224⟩ := X218.virtualBack hx (y := (⟨"java/util/Optional", "isEmpty", "()Z"⟩ : MethodName)) (z := (⟨"java/util/Optional", "isEmpty", "()Z"⟩ : MethodName)) hown218 (mvT hZ218 (hw _ (List.mem_of_getElem? (i := 27) rfl))) (mvT hZ218 (hw _ (List.mem_of_getElem? (i := 28) rfl))) (notFace_of_selects (args := #[]) (mvT hZ218 (hw _ (List.mem_of_getElem? (i := 30) rfl)))) (mvT hZ218 (hw _ (List.mem_of_getElem? (i := 30) rfl))) (mvT hZ218 (hw _ (List.mem_of_getElem? (i := 29) rfl))) (by decide) (backOf (W := 0) (ris0 l Z a0 hw [] o218 y218 T218.heap n0 Z218 G218_2) hZ218 (hw _ (List.mem_of_getElem? (i := 31) rfl)) (hw _ (List.mem_of_getElem? (i := 24) rfl)) (by decide) (by decide)) q224a q224c (g := (mkF m 90 #[.val (.int vp), .val (.int vq), .val (.int vr), .val (.int vs), .val (.int vt), .val (.int va), .val (.int vb), .val (.int vc), .val (.int vy), .val (.int vx), .val (.ref b210), .val (.int (1 : Int32)), .val (.int (1 : Int32)), .unset, .unset, .unset, .unset, .unset, .unset] [(.ref o218)])) rfl (by rw [hml]; rfl) (Steps.refl _) (argsL := []) (rest := []) (lenOf pd_6 rfl) rfl (by show 2 * 0 + _ ≤ _; exact Nat.le_of_eq rfl) (hb hby at_90) (fun _ _ => ⟨rfl, rfl, (by decide : 5 + 0 ≤ _), (by decide : 1256 + 0 ≤ _)⟩)
  dsimp only [Pt.U, Pt.locs, Pt.cells, Pt.slots] at X224 l224 y224 z224 st224 hQ224
  subst l224 y224 z224
  obtain ⟨rfl, Nq224, e224⟩ := hQ224
  have N224 := Fr.app N218 Nq224
  obtain ⟨cq225, kq225, q225a, q225b, q225c⟩ := isOf hZ218 e224 zE222
  obtain ⟨_, _, ⟨T225, L225, k225, n225⟩, -, X225, ⟨Lc225, hQ225, l225, y225, z225⟩, st225⟩ := X224.virtualBack hx (y := (⟨"com/example/caddis/caddis/XmlNesting", "enter", "(I)Ljava/util/Optional;"⟩ : MethodName)) (z := (⟨"com/example/caddis/caddis/XmlNesting", "enter", "(I)Ljava/util/Optional;"⟩ : MethodName)) hown218 (mvT hZ218 (hw _ (List.mem_of_getElem? (i := 13) rfl))) (mvT hZ218 (hw _ (List.mem_of_getElem? (i := 14) rfl))) (notFace_of_selects (args := #[]) (mvT hZ218 (hw _ (List.mem_of_getElem? (i := 16) rfl)))) (mvT hZ218 (hw _ (List.mem_of_getElem? (i := 16) rfl))) (mvT hZ218 (hw _ (List.mem_of_getElem? (i := 15) rfl))) (by decide) (backOf (W := 0) (ren1 l Z a0 hw [] b210 ar211 em va vy (upd (upd (fun _ => (0 : Int32)) 0 va) 1 vb) T218.heap n0 Z218 zE222 zF219 zF220 zF221 zA223 gz210 ga211 na211 (Se.ext Od218.2) hc155) hZ218 (hw _ (List.mem_of_getElem? (i := 17) rfl)) (hw _ (List.mem_of_getElem? (i := 3) rfl)) (by decide) (by decide)) q225a q225c (g := (mkF m 137 #[.val (.int vp), .val (.int vq), .val (.int vr), .val (.int vs), .val (.int vt), .val (.int va), .val (.int vb), .val (.int vc), .val (.int vy), .val (.int vx), .val (.ref b210), .val (.int (1 : Int32)), .val (.int (1 : Int32)), .val (.int (0 : Int32)), .val (.int (1 : Int32)), .unset, .unset, .unset, .unset] [(.int vy), (.ref b210)])) rfl (by rw [hml]; rfl) (Steps.refl _) (argsL := [(.int vy)]) (rest := []) (lenOf pd_5 rfl) rfl (by show 2 * 0 + _ ≤ _; exact Nat.le_of_eq rfl) (hb hby at_137) (fun _ _ => ⟨rfl, e224, (by decide : 5 + 0 ≤ _), (by decide : 1256 + 0 ≤ _)⟩)
  dsimp only [Pt.U, Pt.locs, Pt.cells, Pt.slots] at X225 l225 y225 z225 st225 hQ225
  subst l225 y225 z225
  obtain ⟨rfl, Nq225, Kq225, G225_0, G225_1, G225_2, G225_3, G225_4⟩ := hQ225
  have N225 := Fr.app N224 Nq225
  have zE226 := G218_1.keep Kq225
  have Z225 := Nat.le_trans Z218 Kq225.1
  have Od225 := Od218.keep Kq225 (allS gz210 (allS ga211 all0))
  have sl225 := Nat.le_trans sl218 Kq225.1
  obtain ⟨cq227, kq227, q227a, q227b, q227c⟩ := isOf hZ218 rfl (Ee.ext Od225.2)
  obtain ⟨_, _, ⟨T227, L227, k227, n227⟩, -, X227, ⟨Lc227, hQ227, l227, y227, z227⟩, st227⟩ := X225.virtualBack hx (y := (⟨"java/util/Optional", "isEmpty", "()Z"⟩ : MethodName)) (z := (⟨"java/util/Optional", "isEmpty", "()Z"⟩ : MethodName)) hown218 (mvT hZ218 (hw _ (List.mem_of_getElem? (i := 27) rfl))) (mvT hZ218 (hw _ (List.mem_of_getElem? (i := 28) rfl))) (notFace_of_selects (args := #[]) (mvT hZ218 (hw _ (List.mem_of_getElem? (i := 30) rfl)))) (mvT hZ218 (hw _ (List.mem_of_getElem? (i := 30) rfl))) (mvT hZ218 (hw _ (List.mem_of_getElem? (i := 29) rfl))) (by decide) (backOf (W := 0) (ris1 l Z a0 hw [] em T225.heap n0 Z225 (Fe.ext Od225.2)) hZ218 (hw _ (List.mem_of_getElem? (i := 31) rfl)) (hw _ (List.mem_of_getElem? (i := 24) rfl)) (by decide) (by decide)) q227a q227c (g := (mkF m 140 #[.val (.int vp), .val (.int vq), .val (.int vr), .val (.int vs), .val (.int vt), .val (.int va), .val (.int vb), .val (.int vc), .val (.int vy), .val (.int vx), .val (.ref b210), .val (.int (1 : Int32)), .val (.int (1 : Int32)), .val (.int (0 : Int32)), .val (.int (1 : Int32)), .unset, .unset, .unset, .unset] [(.ref em)])) rfl (by rw [hml]; rfl) (Steps.refl _) (argsL := []) (rest := []) (lenOf pd_6 rfl) rfl (by show 2 * 0 + _ ≤ _; exact Nat.le_of_eq rfl) (hb hby at_140) (fun _ _ => ⟨rfl, rfl, (by decide : 5 + 0 ≤ _), (by decide : 1256 + 0 ≤ _)⟩)
  dsimp only [Pt.U, Pt.locs, Pt.cells, Pt.slots] at X227 l227 y227 z227 st227 hQ227
  subst l227 y227 z227
  obtain ⟨rfl, Nq227, e227⟩ := hQ227
  have N227 := Fr.app N225 Nq227
  obtain ⟨cq228, kq228, q228a, q228b, q228c⟩ := isOf hZ218 e227 G225_0
  obtain ⟨_, _, ⟨T228, L228, k228, n228⟩, -, X228, ⟨Lc228, hQ228, l228, y228, z228⟩, st228⟩ := X227.virtualBack hx (y := (⟨"com/example/caddis/caddis/XmlNesting", "leave", "()V"⟩ : MethodName)) (z := (⟨"com/example/caddis/caddis/XmlNesting", "leave", "()V"⟩ : MethodName)) hown218 (mvT hZ218 (hw _ (List.mem_of_getElem? (i := 34) rfl))) (mvT hZ218 (hw _ (List.mem_of_getElem? (i := 35) rfl))) (notFace_of_selects (args := #[]) (mvT hZ218 (hw _ (List.mem_of_getElem? (i := 37) rfl)))) (mvT hZ218 (hw _ (List.mem_of_getElem? (i := 37) rfl))) (mvT hZ218 (hw _ (List.mem_of_getElem? (i := 36) rfl))) (by decide) (backOf (W := 0) (rlv2 l Z a0 hw [] b210 ar211 (va + vy) vy (upd (upd (upd (fun _ => (0 : Int32)) 0 va) 1 vb) 1 vy) T225.heap n0 Z225 G225_0 G225_1 G225_2 G225_3 G225_4 gz210 na211 rfl) hZ218 (hw _ (List.mem_of_getElem? (i := 38) rfl)) (hw _ (List.mem_of_getElem? (i := 3) rfl)) (by decide) (by decide)) q228a q228c (g := (mkF m 180 #[.val (.int vp), .val (.int vq), .val (.int vr), .val (.int vs), .val (.int vt), .val (.int va), .val (.int vb), .val (.int vc), .val (.int vy), .val (.int vx), .val (.ref b210), .val (.int (1 : Int32)), .val (.int (1 : Int32)), .val (.int (0 : Int32)), .val (.int (1 : Int32)), .val (.int (1 : Int32)), .val (.int (1 : Int32)), .unset, .unset] [(.ref b210)])) rfl (by rw [hml]; rfl) (Steps.refl _) (argsL := []) (rest := []) (lenOf pd_4 rfl) rfl (by show 2 * 0 + _ ≤ _; exact Nat.le_of_eq rfl) (hb hby at_180) (fun _ _ => ⟨rfl, e227, (by decide : 5 + 0 ≤ _), (by decide : 1256 + 0 ≤ _)⟩)
  dsimp only [Pt.U, Pt.locs, Pt.cells, Pt.slots] at X228 l228 y228 z228 st228 hQ228
  subst l228 y228 z228
  obtain ⟨rfl, Nq228, Kq228, G228_0, G228_1, G228_2, G228_3⟩ := hQ228
  have N228 := Fr.app N227 Nq228
  have zE229 := zE226.keep Kq228
  have zA230 := G225_4.keep Kq228 (ninS (Ne.symm na211) nin0)
  have Z228 := Nat.le_trans Z225 Kq228.1
  have Od228 := Od225.keep Kq228 (allS gz210 all0)
  have sl228 := Nat.le_trans sl225 Kq228.1
  rw [eY] at G228_3
  obtain ⟨cq231, kq231, q231a, q231b, q231c⟩ := isOf hZ218 rfl G228_0
  obtain ⟨_, _, ⟨T231, L231, k231, n231⟩, -, X231, ⟨Lc231, hQ231, l231, y231, z231⟩, st231⟩ := X228.virtualBack hx (y := (⟨"com/example/caddis/caddis/XmlNesting", "leave", "()V"⟩ : MethodName)) (z := (⟨"com/example/caddis/caddis/XmlNesting", "leave", "()V"⟩ : MethodName)) hown218 (mvT hZ218 (hw _ (List.mem_of_getElem? (i := 34) rfl))) (mvT hZ218 (hw _ (List.mem_of_getElem? (i := 35) rfl))) (notFace_of_selects (args := #[]) (mvT hZ218 (hw _ (List.mem_of_getElem? (i := 37) rfl)))) (mvT hZ218 (hw _ (List.mem_of_getElem? (i := 37) rfl))) (mvT hZ218 (hw _ (List.mem_of_getElem? (i := 36) rfl))) (by decide) (backOf (W := 0) (rlv1 l Z a0 hw [] b210 ar211 va va (upd (upd (upd (fun _ => (0 : Int32)) 0 va) 1 vb) 1 vy) T228.heap n0 Z228 G228_0 G228_1 G228_2 G228_3 zA230 gz210 na211 rfl) hZ218 (hw _ (List.mem_of_getElem? (i := 38) rfl)) (hw _ (List.mem_of_getElem? (i := 3) rfl)) (by decide) (by decide)) q231a q231c (g := (mkF m 185 #[.val (.int vp), .val (.int vq), .val (.int vr), .val (.int vs), .val (.int vt), .val (.int va), .val (.int vb), .val (.int vc), .val (.int vy), .val (.int vx), .val (.ref b210), .val (.int (1 : Int32)), .val (.int (1 : Int32)), .val (.int (0 : Int32)), .val (.int (1 : Int32)), .val (.int (1 : Int32)), .val (.int (1 : Int32)), .unset, .unset] [(.ref b210)])) rfl (by rw [hml]; rfl) (Steps.refl _) (argsL := []) (rest := []) (lenOf pd_4 rfl) rfl (by show 2 * 0 + _ ≤ _; exact Nat.le_of_eq rfl) (hb hby at_185) (fun _ _ => ⟨rfl, rfl, (by decide : 5 + 0 ≤ _), (by decide : 1256 + 0 ≤ _)⟩)
  dsimp only [Pt.U, Pt.locs, Pt.cells, Pt.slots] at X231 l231 y231 z231 st231 hQ231
  subst l231 y231 z231
  obtain ⟨rfl, Nq231, Kq231, G231_0, G231_1, G231_2, G231_3⟩ := hQ231
  have N231 := Fr.app N228 Nq231
  have zE232 := zE229.keep Kq231
  have zA233 := zA230.keep Kq231 (ninS (Ne.symm na211) nin0)
  have Z231 := Nat.le_trans Z228 Kq231.1
  have Od231 := Od228.keep Kq231 (allS gz210 all0)
  have sl231 := Nat.le_trans sl228 Kq231.1
  rw [eZ] at G231_3
  obtain ⟨cq234, kq234, q234a, q234b, q234c⟩ := isOf hZ218 rfl G231_0
  obtain ⟨_, _, ⟨T234, L234, k234, n234⟩, -, X234, hS234, hG234, ⟨Lc234, hQ234, l234, y234, z234⟩, st234⟩ := X231.virtualBackS hx (y := (⟨"com/example/caddis/caddis/XmlNesting", "enter", "(I)Ljava/util/Optional;"⟩ : MethodName)) (z := (⟨"com/example/caddis/caddis/XmlNesting", "enter", "(I)Ljava/util/Optional;"⟩ : MethodName)) hown218 (mvT hZ218 (hw _ (List.mem_of_getElem? (i := 13) rfl))) (mvT hZ218 (hw _ (List.mem_of_getElem? (i := 14) rfl))) (notFace_of_selects (args := #[]) (mvT hZ218 (hw _ (List.mem_of_getElem? (i := 16) rfl)))) (mvT hZ218 (hw _ (List.mem_of_getElem? (i := 16) rfl))) (mvT hZ218 (hw _ (List.mem_of_getElem? (i := 15) rfl))) (by decide) (backOfS (W := 0) (rex0 l Z a0 hw [] b210 ar211 em (0 : Int32) vx (upd (upd (upd (fun _ => (0 : Int32)) 0 va) 1 vb) 1 vy) T231.heap n0 Z231 G231_0 G231_1 G231_2 G231_3 zA233 gz210 ga211 na211 (Se.ext Od231.2) (by rw [eX]; exact hc207)) hZ218 (hw _ (List.mem_of_getElem? (i := 17) rfl)) (hw _ (List.mem_of_getElem? (i := 3) rfl)) (by decide) (by decide)) q234a q234c (g := (mkF m 192 #[.val (.int vp), .val (.int vq), .val (.int vr), .val (.int vs), .val (.int vt), .val (.int va), .val (.int vb), .val (.int vc), .val (.int vy), .val (.int vx), .val (.ref b210), .val (.int (1 : Int32)), .val (.int (1 : Int32)), .val (.int (0 : Int32)), .val (.int (1 : Int32)), .val (.int (1 : Int32)), .val (.int (1 : Int32)), .unset, .unset] [(.int vx), (.ref b210)])) rfl (by rw [hml]; rfl) (Steps.refl _) (argsL := [(.int vx)]) (rest := []) (lenOf pd_5 rfl) rfl (by show 2 * 0 + _ ≤ _; exact Nat.le_of_eq rfl) (hb hby at_192) (fun _ _ => ⟨rfl, rfl, (by decide : 5 + 3 ≤ _), (by decide : 1256 + 253 ≤ _)⟩)
  dsimp only [Pt.U, Pt.locs, Pt.cells, Pt.slots] at X234 hS234 hG234 l234 y234 z234 st234 hQ234
  subst l234 y234 z234
  obtain ⟨o234, y234, rfl, Nq234, Kq234, go234, G234_1, G234_2⟩ := hQ234
  have N234 := Fr.app N231 Nq234
  have zF235 := G231_1.keep Kq234 nin0
  have zF236 := G231_2.keep Kq234 nin0
  have zF237 := G231_3.keep Kq234 nin0
  have zE238 := zE232.keep Kq234
  have zE239 := G231_0.keep Kq234
  have zA240 := zA233.keep Kq234 nin0
  have Z234 := Nat.le_trans Z231 Kq234.1
  have Od234 := Od231.keep Kq234 all0
  have hZ234 : Z.Warmed39 (s.setVm T234.vm).vm := State.Warmed39.trans (t := (s.setVm T218.vm)) hZ218 hS234.1
  have hown234 : (s.setVm T234.vm).vm.findClass "com/example/caddis/caddis/XmlNestingLeavePinLaw" = some m.cls := by rw [show (s.setVm T234.vm).vm = T234.vm from rfl, hS234.1.alike.findClass]; exact hown218
  obtain ⟨X234, hS234⟩ := Stand.againW X234 hS218 hS234 (Nat.le_trans sl231 Kq234.1)
  have sl234 : T234.heap.size ≤ T234.heap.size := Nat.le_refl _
  obtain ⟨cq241, kq241, q241a, q241b, q241c⟩ := isOf hZ234 rfl G234_1
  obtain ⟨_, _, ⟨T241, L241, k241, n241⟩, -, X241, ⟨Lc241, hQ241, l241, y241, z241⟩, st241⟩ := X234.virtualBack hx (y := (⟨"java/util/Optional", "isEmpty", "()Z"⟩ : MethodName)) (z := (⟨"java/util/Optional", "isEmpty", "()Z"⟩ : MethodName)) hown234 (mvT hZ234 (hw _ (List.mem_of_getElem? (i := 27) rfl))) (mvT hZ234 (hw _ (List.mem_of_getElem? (i := 28) rfl))) (notFace_of_selects (args := #[]) (mvT hZ234 (hw _ (List.mem_of_getElem? (i := 30) rfl)))) (mvT hZ234 (hw _ (List.mem_of_getElem? (i := 30) rfl))) (mvT hZ234 (hw _ (List.mem_of_getElem? (i := 29) rfl))) (by decide) (backOf (W := 0) (ris0 l Z a0 hw [] o234 y234 T234.heap n0 Z234 G234_2) hZ234 (hw _ (List.mem_of_getElem? (i := 31) rfl)) (hw _ (List.mem_of_getElem? (i := 24) rfl)) (by decide) (by decide)) q241a q241c (g := (mkF m 195 #[.val (.int vp), .val (.int vq), .val (.int vr), .val (.int vs), .val (.int vt), .val (.int va), .val (.int vb), .val (.int vc), .val (.int vy), .val (.int vx), .val (.ref b210), .val (.int (1 : Int32)), .val (.int (1 : Int32)), .val (.int (0 : Int32)), .val (.int (1 : Int32)), .val (.int (1 : Int32)), .val (.int (1 : Int32)), .unset, .unset] [(.ref o234)])) rfl (by rw [hml]; rfl) (Steps.refl _) (argsL := []) (rest := []) (lenOf pd_6 rfl) rfl (by show 2 * 0 + _ ≤ _; exact Nat.le_of_eq rfl) (hb hby at_195) (fun _ _ => ⟨rfl, rfl, (by decide : 8 + 0 ≤ _), (by decide : 1509 + 0 ≤ _)⟩)
  dsimp only [Pt.U, Pt.locs, Pt.cells, Pt.slots] at X241 l241 y241 z241 st241 hQ241
  subst l241 y241 z241
  obtain ⟨rfl, Nq241, e241⟩ := hQ241
  have N241 := Fr.app N234 Nq241
  obtain ⟨fs, hr, hrun, hended, hend⟩ := X241.leaveW hS234 (by rw [e241]; exact sl234) (v := some (.int (1 : Int32))) (fun h => by rw [Bd.returns] at h; cases h)
  refine ⟨_, _, pre0 _ ?_, hrun, hended, _, _, rfl, ?_, hend.1, hend.2.1, hend.2.2.1, hend.2.2.2.mono (by decide) (by decide)⟩
  · show Steps p.tables e below (s₁.setTop (mkF m 0 #[.val (.int vp), .val (.int vq), .val (.int vr), .val (.int vs), .val (.int vt), .unset, .unset, .unset, .unset, .unset, .unset, .unset, .unset, .unset, .unset, .unset, .unset, .unset, .unset] [])) _
    refine pA vp vq vr vs vt va vb vc vy vx X0 hx hZ hw hby hown qa qb qc qy qx hnz _ ?_
    show Steps p.tables e below (s₁.setTop (mkF m 45 #[.val (.int vp), .val (.int vq), .val (.int vr), .val (.int vs), .val (.int vt), .val (.int va), .val (.int vb), .val (.int vc), .val (.int vy), .val (.int vx), .unset, .unset, .unset, .unset, .unset, .unset, .unset, .unset, .unset] [])) _
    refine st210 _ ?_
    show Steps p.tables e below (T210.setTop (mkF m 48 #[.val (.int vp), .val (.int vq), .val (.int vr), .val (.int vs), .val (.int vt), .val (.int va), .val (.int vb), .val (.int vc), .val (.int vy), .val (.int vx), .unset, .unset, .unset, .unset, .unset, .unset, .unset, .unset, .unset] [(.ref b210)])) _
    refine XS.dup X210.here hx rfl (hb hby at_48) rfl rfl ?_
    show Steps p.tables e below (T210.setTop (mkF m 49 #[.val (.int vp), .val (.int vq), .val (.int vr), .val (.int vs), .val (.int vt), .val (.int va), .val (.int vb), .val (.int vc), .val (.int vy), .val (.int vx), .unset, .unset, .unset, .unset, .unset, .unset, .unset, .unset, .unset] [(.ref b210), (.ref b210)])) _
    refine st211.trans ?_
    show Steps p.tables e below (T211.setTop (mkF m 52 #[.val (.int vp), .val (.int vq), .val (.int vr), .val (.int vs), .val (.int vt), .val (.int va), .val (.int vb), .val (.int vc), .val (.int vy), .val (.int vx), .unset, .unset, .unset, .unset, .unset, .unset, .unset, .unset, .unset] [(.ref b210)])) _
    refine XS.astore X211.here hx rfl (hb hby at_52) rfl rfl (l' := #[.val (.int vp), .val (.int vq), .val (.int vr), .val (.int vs), .val (.int vt), .val (.int va), .val (.int vb), .val (.int vc), .val (.int vy), .val (.int vx), .val (.ref b210), .unset, .unset, .unset, .unset, .unset, .unset, .unset, .unset]) rfl ?_
    show Steps p.tables e below (T211.setTop (mkF m 54 #[.val (.int vp), .val (.int vq), .val (.int vr), .val (.int vs), .val (.int vt), .val (.int va), .val (.int vb), .val (.int vc), .val (.int vy), .val (.int vx), .val (.ref b210), .unset, .unset, .unset, .unset, .unset, .unset, .unset, .unset] [])) _
    refine XS.aload X211.here hx rfl (hb hby at_54) rfl rfl ?_
    show Steps p.tables e below (T211.setTop (mkF m 56 #[.val (.int vp), .val (.int vq), .val (.int vr), .val (.int vs), .val (.int vt), .val (.int va), .val (.int vb), .val (.int vc), .val (.int vy), .val (.int vx), .val (.ref b210), .unset, .unset, .unset, .unset, .unset, .unset, .unset, .unset] [(.ref b210)])) _
    refine XS.iload X211.here hx rfl (hb hby at_56) rfl ?_
    show Steps p.tables e below (T211.setTop (mkF m 58 #[.val (.int vp), .val (.int vq), .val (.int vr), .val (.int vs), .val (.int vt), .val (.int va), .val (.int vb), .val (.int vc), .val (.int vy), .val (.int vx), .val (.ref b210), .unset, .unset, .unset, .unset, .unset, .unset, .unset, .unset] [(.int va), (.ref b210)])) _
    refine st212.trans ?_
    show Steps p.tables e below (T212.setTop (mkF m 61 #[.val (.int vp), .val (.int vq), .val (.int vr), .val (.int vs), .val (.int vt), .val (.int va), .val (.int vb), .val (.int vc), .val (.int vy), .val (.int vx), .val (.ref b210), .unset, .unset, .unset, .unset, .unset, .unset, .unset, .unset] [(.ref em)])) _
    refine st213.trans ?_
    show Steps p.tables e below (T213.setTop (mkF m 64 #[.val (.int vp), .val (.int vq), .val (.int vr), .val (.int vs), .val (.int vt), .val (.int va), .val (.int vb), .val (.int vc), .val (.int vy), .val (.int vx), .val (.ref b210), .unset, .unset, .unset, .unset, .unset, .unset, .unset, .unset] [(.int (1 : Int32))])) _
    refine XS.istore X213.here hx rfl (hb hby at_64) rfl (l' := #[.val (.int vp), .val (.int vq), .val (.int vr), .val (.int vs), .val (.int vt), .val (.int va), .val (.int vb), .val (.int vc), .val (.int vy), .val (.int vx), .val (.ref b210), .val (.int (1 : Int32)), .unset, .unset, .unset, .unset, .unset, .unset, .unset]) rfl ?_
    show Steps p.tables e below (T213.setTop (mkF m 66 #[.val (.int vp), .val (.int vq), .val (.int vr), .val (.int vs), .val (.int vt), .val (.int va), .val (.int vb), .val (.int vc), .val (.int vy), .val (.int vx), .val (.ref b210), .val (.int (1 : Int32)), .unset, .unset, .unset, .unset, .unset, .unset, .unset] [])) _
    refine XS.aload X213.here hx rfl (hb hby at_66) rfl rfl ?_
    show Steps p.tables e below (T213.setTop (mkF m 68 #[.val (.int vp), .val (.int vq), .val (.int vr), .val (.int vs), .val (.int vt), .val (.int va), .val (.int vb), .val (.int vc), .val (.int vy), .val (.int vx), .val (.ref b210), .val (.int (1 : Int32)), .unset, .unset, .unset, .unset, .unset, .unset, .unset] [(.ref b210)])) _
    refine XS.iload X213.here hx rfl (hb hby at_68) rfl ?_
    show Steps p.tables e below (T213.setTop (mkF m 70 #[.val (.int vp), .val (.int vq), .val (.int vr), .val (.int vs), .val (.int vt), .val (.int va), .val (.int vb), .val (.int vc), .val (.int vy), .val (.int vx), .val (.ref b210), .val (.int (1 : Int32)), .unset, .unset, .unset, .unset, .unset, .unset, .unset] [(.int vb), (.ref b210)])) _
    refine st214.trans ?_
    show Steps p.tables e below (T214.setTop (mkF m 73 #[.val (.int vp), .val (.int vq), .val (.int vr), .val (.int vs), .val (.int vt), .val (.int va), .val (.int vb), .val (.int vc), .val (.int vy), .val (.int vx), .val (.ref b210), .val (.int (1 : Int32)), .unset, .unset, .unset, .unset, .unset, .unset, .unset] [(.ref em)])) _
    refine st215.trans ?_
    show Steps p.tables e below (T215.setTop (mkF m 76 #[.val (.int vp), .val (.int vq), .val (.int vr), .val (.int vs), .val (.int vt), .val (.int va), .val (.int vb), .val (.int vc), .val (.int vy), .val (.int vx), .val (.ref b210), .val (.int (1 : Int32)), .unset, .unset, .unset, .unset, .unset, .unset, .unset] [(.int (1 : Int32))])) _
    refine XS.istore X215.here hx rfl (hb hby at_76) rfl (l' := #[.val (.int vp), .val (.int vq), .val (.int vr), .val (.int vs), .val (.int vt), .val (.int va), .val (.int vb), .val (.int vc), .val (.int vy), .val (.int vx), .val (.ref b210), .val (.int (1 : Int32)), .val (.int (1 : Int32)), .unset, .unset, .unset, .unset, .unset, .unset]) rfl ?_
    show Steps p.tables e below (T215.setTop (mkF m 78 #[.val (.int vp), .val (.int vq), .val (.int vr), .val (.int vs), .val (.int vt), .val (.int va), .val (.int vb), .val (.int vc), .val (.int vy), .val (.int vx), .val (.ref b210), .val (.int (1 : Int32)), .val (.int (1 : Int32)), .unset, .unset, .unset, .unset, .unset, .unset] [])) _
    refine XS.aload X215.here hx rfl (hb hby at_78) rfl rfl ?_
    show Steps p.tables e below (T215.setTop (mkF m 80 #[.val (.int vp), .val (.int vq), .val (.int vr), .val (.int vs), .val (.int vt), .val (.int va), .val (.int vb), .val (.int vc), .val (.int vy), .val (.int vx), .val (.ref b210), .val (.int (1 : Int32)), .val (.int (1 : Int32)), .unset, .unset, .unset, .unset, .unset, .unset] [(.ref b210)])) _
    refine st216.trans ?_
    show Steps p.tables e below (T216.setTop (mkF m 83 #[.val (.int vp), .val (.int vq), .val (.int vr), .val (.int vs), .val (.int vt), .val (.int va), .val (.int vb), .val (.int vc), .val (.int vy), .val (.int vx), .val (.ref b210), .val (.int (1 : Int32)), .val (.int (1 : Int32)), .unset, .unset, .unset, .unset, .unset, .unset] [])) _
    refine XS.aload X216.here hx rfl (hb hby at_83) rfl rfl ?_
    show Steps p.tables e below (T216.setTop (mkF m 85 #[.val (.int vp), .val (.int vq), .val (.int vr), .val (.int vs), .val (.int vt), .val (.int va), .val (.int vb), .val (.int vc), .val (.int vy), .val (.int vx), .val (.ref b210), .val (.int (1 : Int32)), .val (.int (1 : Int32)), .unset, .unset, .unset, .unset, .unset, .unset] [(.ref b210)])) _
    refine XS.iload X216.here hx rfl (hb hby at_85) rfl ?_
    show Steps p.tables e below (T216.setTop (mkF m 87 #[.val (.int vp), .val (.int vq), .val (.int vr), .val (.int vs), .val (.int vt), .val (.int va), .val (.int vb), .val (.int vc), .val (.int vy), .val (.int vx), .val (.ref b210), .val (.int (1 : Int32)), .val (.int (1 : Int32)), .unset, .unset, .unset, .unset, .unset, .unset] [(.int vc), (.ref b210)])) _
    refine st218.trans ?_
    show Steps p.tables e below (T218.setTop (mkF m 90 #[.val (.int vp), .val (.int vq), .val (.int vr), .val (.int vs), .val (.int vt), .val (.int va), .val (.int vb), .val (.int vc), .val (.int vy), .val (.int vx), .val (.ref b210), .val (.int (1 : Int32)), .val (.int (1 : Int32)), .unset, .unset, .unset, .unset, .unset, .unset] [(.ref o218)])) _
    refine st224.trans ?_
    show Steps p.tables e below (T224.setTop (mkF m 93 #[.val (.int vp), .val (.int vq), .val (.int vr), .val (.int vs), .val (.int vt), .val (.int va), .val (.int vb), .val (.int vc), .val (.int vy), .val (.int vx), .val (.ref b210), .val (.int (1 : Int32)), .val (.int (1 : Int32)), .unset, .unset, .unset, .unset, .unset, .unset] [(.int (0 : Int32))])) _
    refine XS.istore X224.here hx rfl (hb hby at_93) rfl (l' := #[.val (.int vp), .val (.int vq), .val (.int vr), .val (.int vs), .val (.int vt), .val (.int va), .val (.int vb), .val (.int vc), .val (.int vy), .val (.int vx), .val (.ref b210), .val (.int (1 : Int32)), .val (.int (1 : Int32)), .val (.int (0 : Int32)), .unset, .unset, .unset, .unset, .unset]) rfl ?_
    show Steps p.tables e below (T224.setTop (mkF m 95 #[.val (.int vp), .val (.int vq), .val (.int vr), .val (.int vs), .val (.int vt), .val (.int va), .val (.int vb), .val (.int vc), .val (.int vy), .val (.int vx), .val (.ref b210), .val (.int (1 : Int32)), .val (.int (1 : Int32)), .val (.int (0 : Int32)), .unset, .unset, .unset, .unset, .unset] [])) _
    refine XS.iload X224.here hx rfl (hb hby at_95) rfl ?_
    show Steps p.tables e below (T224.setTop (mkF m 97 #[.val (.int vp), .val (.int vq), .val (.int vr), .val (.int vs), .val (.int vt), .val (.int va), .val (.int vb), .val (.int vc), .val (.int vy), .val (.int vx), .val (.ref b210), .val (.int (1 : Int32)), .val (.int (1 : Int32)), .val (.int (0 : Int32)), .unset, .unset, .unset, .unset, .unset] [(.int (0 : Int32))])) _
    refine XS.iload X224.here hx rfl (hb hby at_97) rfl ?_
    show Steps p.tables e below (T224.setTop (mkF m 99 #[.val (.int vp), .val (.int vq), .val (.int vr), .val (.int vs), .val (.int vt), .val (.int va), .val (.int vb), .val (.int vc), .val (.int vy), .val (.int vx), .val (.ref b210), .val (.int (1 : Int32)), .val (.int (1 : Int32)), .val (.int (0 : Int32)), .unset, .unset, .unset, .unset, .unset] [(.int va), (.int (0 : Int32))])) _
    refine XS.iload X224.here hx rfl (hb hby at_99) rfl ?_
    show Steps p.tables e below (T224.setTop (mkF m 101 #[.val (.int vp), .val (.int vq), .val (.int vr), .val (.int vs), .val (.int vt), .val (.int va), .val (.int vb), .val (.int vc), .val (.int vy), .val (.int vx), .val (.ref b210), .val (.int (1 : Int32)), .val (.int (1 : Int32)), .val (.int (0 : Int32)), .unset, .unset, .unset, .unset, .unset] [(.int vc), (.int va), (.int (0 : Int32))])) _
    refine XS.iadd X224.here hx rfl (hb hby at_101) rfl ?_
    show Steps p.tables e below (T224.setTop (mkF m 102 #[.val (.int vp), .val (.int vq), .val (.int vr), .val (.int vs), .val (.int vt), .val (.int va), .val (.int vb), .val (.int vc), .val (.int vy), .val (.int vx), .val (.ref b210), .val (.int (1 : Int32)), .val (.int (1 : Int32)), .val (.int (0 : Int32)), .unset, .unset, .unset, .unset, .unset] [(.int (va + vc)), (.int (0 : Int32))])) _
    refine XS.sipush X224.here hx rfl (hb hby at_102) ?_
    show Steps p.tables e below (T224.setTop (mkF m 105 #[.val (.int vp), .val (.int vq), .val (.int vr), .val (.int vs), .val (.int vt), .val (.int va), .val (.int vb), .val (.int vc), .val (.int vy), .val (.int vx), .val (.ref b210), .val (.int (1 : Int32)), .val (.int (1 : Int32)), .val (.int (0 : Int32)), .unset, .unset, .unset, .unset, .unset] [(.int (1000 : Int32)), (.int (va + vc)), (.int (0 : Int32))])) _
    refine XS.icmpYes X224.here hx rfl (pc0 := 105) (pc' := 112) rfl (hb hby at_105) rfl (tlt hc105).2.2.1 (by decide) (by decide) ?_
    show Steps p.tables e below (T224.setTop (mkF m 112 #[.val (.int vp), .val (.int vq), .val (.int vr), .val (.int vs), .val (.int vt), .val (.int va), .val (.int vb), .val (.int vc), .val (.int vy), .val (.int vx), .val (.ref b210), .val (.int (1 : Int32)), .val (.int (1 : Int32)), .val (.int (0 : Int32)), .unset, .unset, .unset, .unset, .unset] [(.int (0 : Int32))])) _
    refine XS.iconst X224.here hx rfl (hb hby at_112) ?_
    show Steps p.tables e below (T224.setTop (mkF m 113 #[.val (.int vp), .val (.int vq), .val (.int vr), .val (.int vs), .val (.int vt), .val (.int va), .val (.int vb), .val (.int vc), .val (.int vy), .val (.int vx), .val (.ref b210), .val (.int (1 : Int32)), .val (.int (1 : Int32)), .val (.int (0 : Int32)), .unset, .unset, .unset, .unset, .unset] [(.int (0 : Int32)), (.int (0 : Int32))])) _
    refine XS.icmpNo X224.here hx rfl (hb hby at_113) rfl (teq (by decide)).2 ?_
    show Steps p.tables e below (T224.setTop (mkF m 116 #[.val (.int vp), .val (.int vq), .val (.int vr), .val (.int vs), .val (.int vt), .val (.int va), .val (.int vb), .val (.int vc), .val (.int vy), .val (.int vx), .val (.ref b210), .val (.int (1 : Int32)), .val (.int (1 : Int32)), .val (.int (0 : Int32)), .unset, .unset, .unset, .unset, .unset] [])) _
    refine XS.iconst X224.here hx rfl (hb hby at_116) ?_
    show Steps p.tables e below (T224.setTop (mkF m 117 #[.val (.int vp), .val (.int vq), .val (.int vr), .val (.int vs), .val (.int vt), .val (.int va), .val (.int vb), .val (.int vc), .val (.int vy), .val (.int vx), .val (.ref b210), .val (.int (1 : Int32)), .val (.int (1 : Int32)), .val (.int (0 : Int32)), .unset, .unset, .unset, .unset, .unset] [(.int (1 : Int32))])) _
    refine XS.goto X224.here hx rfl (pc0 := 117) (pc' := 121) rfl (hb hby at_117) (by decide) (by decide) ?_
    show Steps p.tables e below (T224.setTop (mkF m 121 #[.val (.int vp), .val (.int vq), .val (.int vr), .val (.int vs), .val (.int vt), .val (.int va), .val (.int vb), .val (.int vc), .val (.int vy), .val (.int vx), .val (.ref b210), .val (.int (1 : Int32)), .val (.int (1 : Int32)), .val (.int (0 : Int32)), .unset, .unset, .unset, .unset, .unset] [(.int (1 : Int32))])) _
    refine XS.istore X224.here hx rfl (hb hby at_121) rfl (l' := #[.val (.int vp), .val (.int vq), .val (.int vr), .val (.int vs), .val (.int vt), .val (.int va), .val (.int vb), .val (.int vc), .val (.int vy), .val (.int vx), .val (.ref b210), .val (.int (1 : Int32)), .val (.int (1 : Int32)), .val (.int (0 : Int32)), .val (.int (1 : Int32)), .unset, .unset, .unset, .unset]) rfl ?_
    show Steps p.tables e below (T224.setTop (mkF m 123 #[.val (.int vp), .val (.int vq), .val (.int vr), .val (.int vs), .val (.int vt), .val (.int va), .val (.int vb), .val (.int vc), .val (.int vy), .val (.int vx), .val (.ref b210), .val (.int (1 : Int32)), .val (.int (1 : Int32)), .val (.int (0 : Int32)), .val (.int (1 : Int32)), .unset, .unset, .unset, .unset] [])) _
    refine XS.iload X224.here hx rfl (hb hby at_123) rfl ?_
    show Steps p.tables e below (T224.setTop (mkF m 125 #[.val (.int vp), .val (.int vq), .val (.int vr), .val (.int vs), .val (.int vt), .val (.int va), .val (.int vb), .val (.int vc), .val (.int vy), .val (.int vx), .val (.ref b210), .val (.int (1 : Int32)), .val (.int (1 : Int32)), .val (.int (0 : Int32)), .val (.int (1 : Int32)), .unset, .unset, .unset, .unset] [(.int (0 : Int32))])) _
    refine XS.ifYes X224.here hx rfl (pc0 := 125) (pc' := 133) rfl (hb hby at_125) rfl ((if0 _ _).trans (teq (by decide)).1) (by decide) (by decide) ?_
    show Steps p.tables e below (T224.setTop (mkF m 133 #[.val (.int vp), .val (.int vq), .val (.int vr), .val (.int vs), .val (.int vt), .val (.int va), .val (.int vb), .val (.int vc), .val (.int vy), .val (.int vx), .val (.ref b210), .val (.int (1 : Int32)), .val (.int (1 : Int32)), .val (.int (0 : Int32)), .val (.int (1 : Int32)), .unset, .unset, .unset, .unset] [])) _
    refine XS.aload X224.here hx rfl (hb hby at_133) rfl rfl ?_
    show Steps p.tables e below (T224.setTop (mkF m 135 #[.val (.int vp), .val (.int vq), .val (.int vr), .val (.int vs), .val (.int vt), .val (.int va), .val (.int vb), .val (.int vc), .val (.int vy), .val (.int vx), .val (.ref b210), .val (.int (1 : Int32)), .val (.int (1 : Int32)), .val (.int (0 : Int32)), .val (.int (1 : Int32)), .unset, .unset, .unset, .unset] [(.ref b210)])) _
    refine XS.iload X224.here hx rfl (hb hby at_135) rfl ?_
    show Steps p.tables e below (T224.setTop (mkF m 137 #[.val (.int vp), .val (.int vq), .val (.int vr), .val (.int vs), .val (.int vt), .val (.int va), .val (.int vb), .val (.int vc), .val (.int vy), .val (.int vx), .val (.ref b210), .val (.int (1 : Int32)), .val (.int (1 : Int32)), .val (.int (0 : Int32)), .val (.int (1 : Int32)), .unset, .unset, .unset, .unset] [(.int vy), (.ref b210)])) _
    refine st225.trans ?_
    show Steps p.tables e below (T225.setTop (mkF m 140 #[.val (.int vp), .val (.int vq), .val (.int vr), .val (.int vs), .val (.int vt), .val (.int va), .val (.int vb), .val (.int vc), .val (.int vy), .val (.int vx), .val (.ref b210), .val (.int (1 : Int32)), .val (.int (1 : Int32)), .val (.int (0 : Int32)), .val (.int (1 : Int32)), .unset, .unset, .unset, .unset] [(.ref em)])) _
    refine st227.trans ?_
    show Steps p.tables e below (T227.setTop (mkF m 143 #[.val (.int vp), .val (.int vq), .val (.int vr), .val (.int vs), .val (.int vt), .val (.int va), .val (.int vb), .val (.int vc), .val (.int vy), .val (.int vx), .val (.ref b210), .val (.int (1 : Int32)), .val (.int (1 : Int32)), .val (.int (0 : Int32)), .val (.int (1 : Int32)), .unset, .unset, .unset, .unset] [(.int (1 : Int32))])) _
    refine XS.istore X227.here hx rfl (hb hby at_143) rfl (l' := #[.val (.int vp), .val (.int vq), .val (.int vr), .val (.int vs), .val (.int vt), .val (.int va), .val (.int vb), .val (.int vc), .val (.int vy), .val (.int vx), .val (.ref b210), .val (.int (1 : Int32)), .val (.int (1 : Int32)), .val (.int (0 : Int32)), .val (.int (1 : Int32)), .val (.int (1 : Int32)), .unset, .unset, .unset]) rfl ?_
    show Steps p.tables e below (T227.setTop (mkF m 145 #[.val (.int vp), .val (.int vq), .val (.int vr), .val (.int vs), .val (.int vt), .val (.int va), .val (.int vb), .val (.int vc), .val (.int vy), .val (.int vx), .val (.ref b210), .val (.int (1 : Int32)), .val (.int (1 : Int32)), .val (.int (0 : Int32)), .val (.int (1 : Int32)), .val (.int (1 : Int32)), .unset, .unset, .unset] [])) _
    refine XS.iload X227.here hx rfl (hb hby at_145) rfl ?_
    show Steps p.tables e below (T227.setTop (mkF m 147 #[.val (.int vp), .val (.int vq), .val (.int vr), .val (.int vs), .val (.int vt), .val (.int va), .val (.int vb), .val (.int vc), .val (.int vy), .val (.int vx), .val (.ref b210), .val (.int (1 : Int32)), .val (.int (1 : Int32)), .val (.int (0 : Int32)), .val (.int (1 : Int32)), .val (.int (1 : Int32)), .unset, .unset, .unset] [(.int (1 : Int32))])) _
    refine XS.iload X227.here hx rfl (hb hby at_147) rfl ?_
    show Steps p.tables e below (T227.setTop (mkF m 149 #[.val (.int vp), .val (.int vq), .val (.int vr), .val (.int vs), .val (.int vt), .val (.int va), .val (.int vb), .val (.int vc), .val (.int vy), .val (.int vx), .val (.ref b210), .val (.int (1 : Int32)), .val (.int (1 : Int32)), .val (.int (0 : Int32)), .val (.int (1 : Int32)), .val (.int (1 : Int32)), .unset, .unset, .unset] [(.int va), (.int (1 : Int32))])) _
    refine XS.iload X227.here hx rfl (hb hby at_149) rfl ?_
    show Steps p.tables e below (T227.setTop (mkF m 151 #[.val (.int vp), .val (.int vq), .val (.int vr), .val (.int vs), .val (.int vt), .val (.int va), .val (.int vb), .val (.int vc), .val (.int vy), .val (.int vx), .val (.ref b210), .val (.int (1 : Int32)), .val (.int (1 : Int32)), .val (.int (0 : Int32)), .val (.int (1 : Int32)), .val (.int (1 : Int32)), .unset, .unset, .unset] [(.int vy), (.int va), (.int (1 : Int32))])) _
    refine XS.iadd X227.here hx rfl (hb hby at_151) rfl ?_
    show Steps p.tables e below (T227.setTop (mkF m 152 #[.val (.int vp), .val (.int vq), .val (.int vr), .val (.int vs), .val (.int vt), .val (.int va), .val (.int vb), .val (.int vc), .val (.int vy), .val (.int vx), .val (.ref b210), .val (.int (1 : Int32)), .val (.int (1 : Int32)), .val (.int (0 : Int32)), .val (.int (1 : Int32)), .val (.int (1 : Int32)), .unset, .unset, .unset] [(.int (va + vy)), (.int (1 : Int32))])) _
    refine XS.sipush X227.here hx rfl (hb hby at_152) ?_
    show Steps p.tables e below (T227.setTop (mkF m 155 #[.val (.int vp), .val (.int vq), .val (.int vr), .val (.int vs), .val (.int vt), .val (.int va), .val (.int vb), .val (.int vc), .val (.int vy), .val (.int vx), .val (.ref b210), .val (.int (1 : Int32)), .val (.int (1 : Int32)), .val (.int (0 : Int32)), .val (.int (1 : Int32)), .val (.int (1 : Int32)), .unset, .unset, .unset] [(.int (1000 : Int32)), (.int (va + vy)), (.int (1 : Int32))])) _
    refine XS.icmpNo X227.here hx rfl (hb hby at_155) rfl (flt hc155).2.2.1 ?_
    show Steps p.tables e below (T227.setTop (mkF m 158 #[.val (.int vp), .val (.int vq), .val (.int vr), .val (.int vs), .val (.int vt), .val (.int va), .val (.int vb), .val (.int vc), .val (.int vy), .val (.int vx), .val (.ref b210), .val (.int (1 : Int32)), .val (.int (1 : Int32)), .val (.int (0 : Int32)), .val (.int (1 : Int32)), .val (.int (1 : Int32)), .unset, .unset, .unset] [(.int (1 : Int32))])) _
    refine XS.iconst X227.here hx rfl (hb hby at_158) ?_
    show Steps p.tables e below (T227.setTop (mkF m 159 #[.val (.int vp), .val (.int vq), .val (.int vr), .val (.int vs), .val (.int vt), .val (.int va), .val (.int vb), .val (.int vc), .val (.int vy), .val (.int vx), .val (.ref b210), .val (.int (1 : Int32)), .val (.int (1 : Int32)), .val (.int (0 : Int32)), .val (.int (1 : Int32)), .val (.int (1 : Int32)), .unset, .unset, .unset] [(.int (1 : Int32)), (.int (1 : Int32))])) _
    refine XS.goto X227.here hx rfl (pc0 := 159) (pc' := 163) rfl (hb hby at_159) (by decide) (by decide) ?_
    show Steps p.tables e below (T227.setTop (mkF m 163 #[.val (.int vp), .val (.int vq), .val (.int vr), .val (.int vs), .val (.int vt), .val (.int va), .val (.int vb), .val (.int vc), .val (.int vy), .val (.int vx), .val (.ref b210), .val (.int (1 : Int32)), .val (.int (1 : Int32)), .val (.int (0 : Int32)), .val (.int (1 : Int32)), .val (.int (1 : Int32)), .unset, .unset, .unset] [(.int (1 : Int32)), (.int (1 : Int32))])) _
    refine XS.icmpNo X227.here hx rfl (hb hby at_163) rfl (teq (by decide)).2 ?_
    show Steps p.tables e below (T227.setTop (mkF m 166 #[.val (.int vp), .val (.int vq), .val (.int vr), .val (.int vs), .val (.int vt), .val (.int va), .val (.int vb), .val (.int vc), .val (.int vy), .val (.int vx), .val (.ref b210), .val (.int (1 : Int32)), .val (.int (1 : Int32)), .val (.int (0 : Int32)), .val (.int (1 : Int32)), .val (.int (1 : Int32)), .unset, .unset, .unset] [])) _
    refine XS.iconst X227.here hx rfl (hb hby at_166) ?_
    show Steps p.tables e below (T227.setTop (mkF m 167 #[.val (.int vp), .val (.int vq), .val (.int vr), .val (.int vs), .val (.int vt), .val (.int va), .val (.int vb), .val (.int vc), .val (.int vy), .val (.int vx), .val (.ref b210), .val (.int (1 : Int32)), .val (.int (1 : Int32)), .val (.int (0 : Int32)), .val (.int (1 : Int32)), .val (.int (1 : Int32)), .unset, .unset, .unset] [(.int (1 : Int32))])) _
    refine XS.goto X227.here hx rfl (pc0 := 167) (pc' := 171) rfl (hb hby at_167) (by decide) (by decide) ?_
    show Steps p.tables e below (T227.setTop (mkF m 171 #[.val (.int vp), .val (.int vq), .val (.int vr), .val (.int vs), .val (.int vt), .val (.int va), .val (.int vb), .val (.int vc), .val (.int vy), .val (.int vx), .val (.ref b210), .val (.int (1 : Int32)), .val (.int (1 : Int32)), .val (.int (0 : Int32)), .val (.int (1 : Int32)), .val (.int (1 : Int32)), .unset, .unset, .unset] [(.int (1 : Int32))])) _
    refine XS.istore X227.here hx rfl (hb hby at_171) rfl (l' := #[.val (.int vp), .val (.int vq), .val (.int vr), .val (.int vs), .val (.int vt), .val (.int va), .val (.int vb), .val (.int vc), .val (.int vy), .val (.int vx), .val (.ref b210), .val (.int (1 : Int32)), .val (.int (1 : Int32)), .val (.int (0 : Int32)), .val (.int (1 : Int32)), .val (.int (1 : Int32)), .val (.int (1 : Int32)), .unset, .unset]) rfl ?_
    show Steps p.tables e below (T227.setTop (mkF m 173 #[.val (.int vp), .val (.int vq), .val (.int vr), .val (.int vs), .val (.int vt), .val (.int va), .val (.int vb), .val (.int vc), .val (.int vy), .val (.int vx), .val (.ref b210), .val (.int (1 : Int32)), .val (.int (1 : Int32)), .val (.int (0 : Int32)), .val (.int (1 : Int32)), .val (.int (1 : Int32)), .val (.int (1 : Int32)), .unset, .unset] [])) _
    refine XS.iload X227.here hx rfl (hb hby at_173) rfl ?_
    show Steps p.tables e below (T227.setTop (mkF m 175 #[.val (.int vp), .val (.int vq), .val (.int vr), .val (.int vs), .val (.int vt), .val (.int va), .val (.int vb), .val (.int vc), .val (.int vy), .val (.int vx), .val (.ref b210), .val (.int (1 : Int32)), .val (.int (1 : Int32)), .val (.int (0 : Int32)), .val (.int (1 : Int32)), .val (.int (1 : Int32)), .val (.int (1 : Int32)), .unset, .unset] [(.int (1 : Int32))])) _
    refine XS.ifNo X227.here hx rfl (hb hby at_175) rfl ((if0 _ _).trans (feq (by decide)).1) ?_
    show Steps p.tables e below (T227.setTop (mkF m 178 #[.val (.int vp), .val (.int vq), .val (.int vr), .val (.int vs), .val (.int vt), .val (.int va), .val (.int vb), .val (.int vc), .val (.int vy), .val (.int vx), .val (.ref b210), .val (.int (1 : Int32)), .val (.int (1 : Int32)), .val (.int (0 : Int32)), .val (.int (1 : Int32)), .val (.int (1 : Int32)), .val (.int (1 : Int32)), .unset, .unset] [])) _
    refine XS.aload X227.here hx rfl (hb hby at_178) rfl rfl ?_
    show Steps p.tables e below (T227.setTop (mkF m 180 #[.val (.int vp), .val (.int vq), .val (.int vr), .val (.int vs), .val (.int vt), .val (.int va), .val (.int vb), .val (.int vc), .val (.int vy), .val (.int vx), .val (.ref b210), .val (.int (1 : Int32)), .val (.int (1 : Int32)), .val (.int (0 : Int32)), .val (.int (1 : Int32)), .val (.int (1 : Int32)), .val (.int (1 : Int32)), .unset, .unset] [(.ref b210)])) _
    refine st228.trans ?_
    show Steps p.tables e below (T228.setTop (mkF m 183 #[.val (.int vp), .val (.int vq), .val (.int vr), .val (.int vs), .val (.int vt), .val (.int va), .val (.int vb), .val (.int vc), .val (.int vy), .val (.int vx), .val (.ref b210), .val (.int (1 : Int32)), .val (.int (1 : Int32)), .val (.int (0 : Int32)), .val (.int (1 : Int32)), .val (.int (1 : Int32)), .val (.int (1 : Int32)), .unset, .unset] [])) _
    refine XS.aload X228.here hx rfl (hb hby at_183) rfl rfl ?_
    show Steps p.tables e below (T228.setTop (mkF m 185 #[.val (.int vp), .val (.int vq), .val (.int vr), .val (.int vs), .val (.int vt), .val (.int va), .val (.int vb), .val (.int vc), .val (.int vy), .val (.int vx), .val (.ref b210), .val (.int (1 : Int32)), .val (.int (1 : Int32)), .val (.int (0 : Int32)), .val (.int (1 : Int32)), .val (.int (1 : Int32)), .val (.int (1 : Int32)), .unset, .unset] [(.ref b210)])) _
    refine st231.trans ?_
    show Steps p.tables e below (T231.setTop (mkF m 188 #[.val (.int vp), .val (.int vq), .val (.int vr), .val (.int vs), .val (.int vt), .val (.int va), .val (.int vb), .val (.int vc), .val (.int vy), .val (.int vx), .val (.ref b210), .val (.int (1 : Int32)), .val (.int (1 : Int32)), .val (.int (0 : Int32)), .val (.int (1 : Int32)), .val (.int (1 : Int32)), .val (.int (1 : Int32)), .unset, .unset] [])) _
    refine XS.aload X231.here hx rfl (hb hby at_188) rfl rfl ?_
    show Steps p.tables e below (T231.setTop (mkF m 190 #[.val (.int vp), .val (.int vq), .val (.int vr), .val (.int vs), .val (.int vt), .val (.int va), .val (.int vb), .val (.int vc), .val (.int vy), .val (.int vx), .val (.ref b210), .val (.int (1 : Int32)), .val (.int (1 : Int32)), .val (.int (0 : Int32)), .val (.int (1 : Int32)), .val (.int (1 : Int32)), .val (.int (1 : Int32)), .unset, .unset] [(.ref b210)])) _
    refine XS.iload X231.here hx rfl (hb hby at_190) rfl ?_
    show Steps p.tables e below (T231.setTop (mkF m 192 #[.val (.int vp), .val (.int vq), .val (.int vr), .val (.int vs), .val (.int vt), .val (.int va), .val (.int vb), .val (.int vc), .val (.int vy), .val (.int vx), .val (.ref b210), .val (.int (1 : Int32)), .val (.int (1 : Int32)), .val (.int (0 : Int32)), .val (.int (1 : Int32)), .val (.int (1 : Int32)), .val (.int (1 : Int32)), .unset, .unset] [(.int vx), (.ref b210)])) _
    refine st234.trans ?_
    show Steps p.tables e below (T234.setTop (mkF m 195 #[.val (.int vp), .val (.int vq), .val (.int vr), .val (.int vs), .val (.int vt), .val (.int va), .val (.int vb), .val (.int vc), .val (.int vy), .val (.int vx), .val (.ref b210), .val (.int (1 : Int32)), .val (.int (1 : Int32)), .val (.int (0 : Int32)), .val (.int (1 : Int32)), .val (.int (1 : Int32)), .val (.int (1 : Int32)), .unset, .unset] [(.ref o234)])) _
    refine st241.trans ?_
    show Steps p.tables e below (T241.setTop (mkF m 198 #[.val (.int vp), .val (.int vq), .val (.int vr), .val (.int vs), .val (.int vt), .val (.int va), .val (.int vb), .val (.int vc), .val (.int vy), .val (.int vx), .val (.ref b210), .val (.int (1 : Int32)), .val (.int (1 : Int32)), .val (.int (0 : Int32)), .val (.int (1 : Int32)), .val (.int (1 : Int32)), .val (.int (1 : Int32)), .unset, .unset] [(.int (0 : Int32))])) _
    refine XS.istore X241.here hx rfl (hb hby at_198) rfl (l' := #[.val (.int vp), .val (.int vq), .val (.int vr), .val (.int vs), .val (.int vt), .val (.int va), .val (.int vb), .val (.int vc), .val (.int vy), .val (.int vx), .val (.ref b210), .val (.int (1 : Int32)), .val (.int (1 : Int32)), .val (.int (0 : Int32)), .val (.int (1 : Int32)), .val (.int (1 : Int32)), .val (.int (1 : Int32)), .val (.int (0 : Int32)), .unset]) rfl ?_
    show Steps p.tables e below (T241.setTop (mkF m 200 #[.val (.int vp), .val (.int vq), .val (.int vr), .val (.int vs), .val (.int vt), .val (.int va), .val (.int vb), .val (.int vc), .val (.int vy), .val (.int vx), .val (.ref b210), .val (.int (1 : Int32)), .val (.int (1 : Int32)), .val (.int (0 : Int32)), .val (.int (1 : Int32)), .val (.int (1 : Int32)), .val (.int (1 : Int32)), .val (.int (0 : Int32)), .unset] [])) _
    refine XS.iload X241.here hx rfl (hb hby at_200) rfl ?_
    show Steps p.tables e below (T241.setTop (mkF m 202 #[.val (.int vp), .val (.int vq), .val (.int vr), .val (.int vs), .val (.int vt), .val (.int va), .val (.int vb), .val (.int vc), .val (.int vy), .val (.int vx), .val (.ref b210), .val (.int (1 : Int32)), .val (.int (1 : Int32)), .val (.int (0 : Int32)), .val (.int (1 : Int32)), .val (.int (1 : Int32)), .val (.int (1 : Int32)), .val (.int (0 : Int32)), .unset] [(.int (0 : Int32))])) _
    refine XS.iload X241.here hx rfl (hb hby at_202) rfl ?_
    show Steps p.tables e below (T241.setTop (mkF m 204 #[.val (.int vp), .val (.int vq), .val (.int vr), .val (.int vs), .val (.int vt), .val (.int va), .val (.int vb), .val (.int vc), .val (.int vy), .val (.int vx), .val (.ref b210), .val (.int (1 : Int32)), .val (.int (1 : Int32)), .val (.int (0 : Int32)), .val (.int (1 : Int32)), .val (.int (1 : Int32)), .val (.int (1 : Int32)), .val (.int (0 : Int32)), .unset] [(.int vx), (.int (0 : Int32))])) _
    refine XS.sipush X241.here hx rfl (hb hby at_204) ?_
    show Steps p.tables e below (T241.setTop (mkF m 207 #[.val (.int vp), .val (.int vq), .val (.int vr), .val (.int vs), .val (.int vt), .val (.int va), .val (.int vb), .val (.int vc), .val (.int vy), .val (.int vx), .val (.ref b210), .val (.int (1 : Int32)), .val (.int (1 : Int32)), .val (.int (0 : Int32)), .val (.int (1 : Int32)), .val (.int (1 : Int32)), .val (.int (1 : Int32)), .val (.int (0 : Int32)), .unset] [(.int (1000 : Int32)), (.int vx), (.int (0 : Int32))])) _
    refine XS.icmpYes X241.here hx rfl (pc0 := 207) (pc' := 214) rfl (hb hby at_207) rfl (tlt hc207).2.2.1 (by decide) (by decide) ?_
    show Steps p.tables e below (T241.setTop (mkF m 214 #[.val (.int vp), .val (.int vq), .val (.int vr), .val (.int vs), .val (.int vt), .val (.int va), .val (.int vb), .val (.int vc), .val (.int vy), .val (.int vx), .val (.ref b210), .val (.int (1 : Int32)), .val (.int (1 : Int32)), .val (.int (0 : Int32)), .val (.int (1 : Int32)), .val (.int (1 : Int32)), .val (.int (1 : Int32)), .val (.int (0 : Int32)), .unset] [(.int (0 : Int32))])) _
    refine XS.iconst X241.here hx rfl (hb hby at_214) ?_
    show Steps p.tables e below (T241.setTop (mkF m 215 #[.val (.int vp), .val (.int vq), .val (.int vr), .val (.int vs), .val (.int vt), .val (.int va), .val (.int vb), .val (.int vc), .val (.int vy), .val (.int vx), .val (.ref b210), .val (.int (1 : Int32)), .val (.int (1 : Int32)), .val (.int (0 : Int32)), .val (.int (1 : Int32)), .val (.int (1 : Int32)), .val (.int (1 : Int32)), .val (.int (0 : Int32)), .unset] [(.int (0 : Int32)), (.int (0 : Int32))])) _
    refine XS.icmpNo X241.here hx rfl (hb hby at_215) rfl (teq (by decide)).2 ?_
    show Steps p.tables e below (T241.setTop (mkF m 218 #[.val (.int vp), .val (.int vq), .val (.int vr), .val (.int vs), .val (.int vt), .val (.int va), .val (.int vb), .val (.int vc), .val (.int vy), .val (.int vx), .val (.ref b210), .val (.int (1 : Int32)), .val (.int (1 : Int32)), .val (.int (0 : Int32)), .val (.int (1 : Int32)), .val (.int (1 : Int32)), .val (.int (1 : Int32)), .val (.int (0 : Int32)), .unset] [])) _
    refine XS.iconst X241.here hx rfl (hb hby at_218) ?_
    show Steps p.tables e below (T241.setTop (mkF m 219 #[.val (.int vp), .val (.int vq), .val (.int vr), .val (.int vs), .val (.int vt), .val (.int va), .val (.int vb), .val (.int vc), .val (.int vy), .val (.int vx), .val (.ref b210), .val (.int (1 : Int32)), .val (.int (1 : Int32)), .val (.int (0 : Int32)), .val (.int (1 : Int32)), .val (.int (1 : Int32)), .val (.int (1 : Int32)), .val (.int (0 : Int32)), .unset] [(.int (1 : Int32))])) _
    refine XS.goto X241.here hx rfl (pc0 := 219) (pc' := 223) rfl (hb hby at_219) (by decide) (by decide) ?_
    show Steps p.tables e below (T241.setTop (mkF m 223 #[.val (.int vp), .val (.int vq), .val (.int vr), .val (.int vs), .val (.int vt), .val (.int va), .val (.int vb), .val (.int vc), .val (.int vy), .val (.int vx), .val (.ref b210), .val (.int (1 : Int32)), .val (.int (1 : Int32)), .val (.int (0 : Int32)), .val (.int (1 : Int32)), .val (.int (1 : Int32)), .val (.int (1 : Int32)), .val (.int (0 : Int32)), .unset] [(.int (1 : Int32))])) _
    refine XS.istore X241.here hx rfl (hb hby at_223) rfl (l' := #[.val (.int vp), .val (.int vq), .val (.int vr), .val (.int vs), .val (.int vt), .val (.int va), .val (.int vb), .val (.int vc), .val (.int vy), .val (.int vx), .val (.ref b210), .val (.int (1 : Int32)), .val (.int (1 : Int32)), .val (.int (0 : Int32)), .val (.int (1 : Int32)), .val (.int (1 : Int32)), .val (.int (1 : Int32)), .val (.int (0 : Int32)), .val (.int (1 : Int32))]) rfl ?_
    show Steps p.tables e below (T241.setTop (mkF m 225 #[.val (.int vp), .val (.int vq), .val (.int vr), .val (.int vs), .val (.int vt), .val (.int va), .val (.int vb), .val (.int vc), .val (.int vy), .val (.int vx), .val (.ref b210), .val (.int (1 : Int32)), .val (.int (1 : Int32)), .val (.int (0 : Int32)), .val (.int (1 : Int32)), .val (.int (1 : Int32)), .val (.int (1 : Int32)), .val (.int (0 : Int32)), .val (.int (1 : Int32))] [])) _
    refine XS.iload X241.here hx rfl (hb hby at_225) rfl ?_
    show Steps p.tables e below (T241.setTop (mkF m 227 #[.val (.int vp), .val (.int vq), .val (.int vr), .val (.int vs), .val (.int vt), .val (.int va), .val (.int vb), .val (.int vc), .val (.int vy), .val (.int vx), .val (.ref b210), .val (.int (1 : Int32)), .val (.int (1 : Int32)), .val (.int (0 : Int32)), .val (.int (1 : Int32)), .val (.int (1 : Int32)), .val (.int (1 : Int32)), .val (.int (0 : Int32)), .val (.int (1 : Int32))] [(.int (1 : Int32))])) _
    refine XS.ifNo X241.here hx rfl (hb hby at_227) rfl ((if0 _ _).trans (feq (by decide)).1) ?_
    show Steps p.tables e below (T241.setTop (mkF m 230 #[.val (.int vp), .val (.int vq), .val (.int vr), .val (.int vs), .val (.int vt), .val (.int va), .val (.int vb), .val (.int vc), .val (.int vy), .val (.int vx), .val (.ref b210), .val (.int (1 : Int32)), .val (.int (1 : Int32)), .val (.int (0 : Int32)), .val (.int (1 : Int32)), .val (.int (1 : Int32)), .val (.int (1 : Int32)), .val (.int (0 : Int32)), .val (.int (1 : Int32))] [])) _
    refine XS.iload X241.here hx rfl (hb hby at_230) rfl ?_
    show Steps p.tables e below (T241.setTop (mkF m 232 #[.val (.int vp), .val (.int vq), .val (.int vr), .val (.int vs), .val (.int vt), .val (.int va), .val (.int vb), .val (.int vc), .val (.int vy), .val (.int vx), .val (.ref b210), .val (.int (1 : Int32)), .val (.int (1 : Int32)), .val (.int (0 : Int32)), .val (.int (1 : Int32)), .val (.int (1 : Int32)), .val (.int (1 : Int32)), .val (.int (0 : Int32)), .val (.int (1 : Int32))] [(.int (1 : Int32))])) _
    refine XS.ifNo X241.here hx rfl (hb hby at_232) rfl ((if0 _ _).trans (feq (by decide)).1) ?_
    show Steps p.tables e below (T241.setTop (mkF m 235 #[.val (.int vp), .val (.int vq), .val (.int vr), .val (.int vs), .val (.int vt), .val (.int va), .val (.int vb), .val (.int vc), .val (.int vy), .val (.int vx), .val (.ref b210), .val (.int (1 : Int32)), .val (.int (1 : Int32)), .val (.int (0 : Int32)), .val (.int (1 : Int32)), .val (.int (1 : Int32)), .val (.int (1 : Int32)), .val (.int (0 : Int32)), .val (.int (1 : Int32))] [])) _
    refine XS.iload X241.here hx rfl (hb hby at_235) rfl ?_
    show Steps p.tables e below (T241.setTop (mkF m 237 #[.val (.int vp), .val (.int vq), .val (.int vr), .val (.int vs), .val (.int vt), .val (.int va), .val (.int vb), .val (.int vc), .val (.int vy), .val (.int vx), .val (.ref b210), .val (.int (1 : Int32)), .val (.int (1 : Int32)), .val (.int (0 : Int32)), .val (.int (1 : Int32)), .val (.int (1 : Int32)), .val (.int (1 : Int32)), .val (.int (0 : Int32)), .val (.int (1 : Int32))] [(.int (1 : Int32))])) _
    refine XS.ifNo X241.here hx rfl (hb hby at_237) rfl ((if0 _ _).trans (feq (by decide)).1) ?_
    show Steps p.tables e below (T241.setTop (mkF m 240 #[.val (.int vp), .val (.int vq), .val (.int vr), .val (.int vs), .val (.int vt), .val (.int va), .val (.int vb), .val (.int vc), .val (.int vy), .val (.int vx), .val (.ref b210), .val (.int (1 : Int32)), .val (.int (1 : Int32)), .val (.int (0 : Int32)), .val (.int (1 : Int32)), .val (.int (1 : Int32)), .val (.int (1 : Int32)), .val (.int (0 : Int32)), .val (.int (1 : Int32))] [])) _
    refine XS.iload X241.here hx rfl (hb hby at_240) rfl ?_
    show Steps p.tables e below (T241.setTop (mkF m 242 #[.val (.int vp), .val (.int vq), .val (.int vr), .val (.int vs), .val (.int vt), .val (.int va), .val (.int vb), .val (.int vc), .val (.int vy), .val (.int vx), .val (.ref b210), .val (.int (1 : Int32)), .val (.int (1 : Int32)), .val (.int (0 : Int32)), .val (.int (1 : Int32)), .val (.int (1 : Int32)), .val (.int (1 : Int32)), .val (.int (0 : Int32)), .val (.int (1 : Int32))] [(.int (1 : Int32))])) _
    refine XS.ifNo X241.here hx rfl (hb hby at_242) rfl ((if0 _ _).trans (feq (by decide)).1) ?_
    show Steps p.tables e below (T241.setTop (mkF m 245 #[.val (.int vp), .val (.int vq), .val (.int vr), .val (.int vs), .val (.int vt), .val (.int va), .val (.int vb), .val (.int vc), .val (.int vy), .val (.int vx), .val (.ref b210), .val (.int (1 : Int32)), .val (.int (1 : Int32)), .val (.int (0 : Int32)), .val (.int (1 : Int32)), .val (.int (1 : Int32)), .val (.int (1 : Int32)), .val (.int (0 : Int32)), .val (.int (1 : Int32))] [])) _
    refine XS.iload X241.here hx rfl (hb hby at_245) rfl ?_
    show Steps p.tables e below (T241.setTop (mkF m 247 #[.val (.int vp), .val (.int vq), .val (.int vr), .val (.int vs), .val (.int vt), .val (.int va), .val (.int vb), .val (.int vc), .val (.int vy), .val (.int vx), .val (.ref b210), .val (.int (1 : Int32)), .val (.int (1 : Int32)), .val (.int (0 : Int32)), .val (.int (1 : Int32)), .val (.int (1 : Int32)), .val (.int (1 : Int32)), .val (.int (0 : Int32)), .val (.int (1 : Int32))] [(.int (1 : Int32))])) _
    refine XS.ifNo X241.here hx rfl (hb hby at_247) rfl ((if0 _ _).trans (feq (by decide)).1) ?_
    show Steps p.tables e below (T241.setTop (mkF m 250 #[.val (.int vp), .val (.int vq), .val (.int vr), .val (.int vs), .val (.int vt), .val (.int va), .val (.int vb), .val (.int vc), .val (.int vy), .val (.int vx), .val (.ref b210), .val (.int (1 : Int32)), .val (.int (1 : Int32)), .val (.int (0 : Int32)), .val (.int (1 : Int32)), .val (.int (1 : Int32)), .val (.int (1 : Int32)), .val (.int (0 : Int32)), .val (.int (1 : Int32))] [])) _
    refine XS.iconst X241.here hx rfl (hb hby at_250) ?_
    show Steps p.tables e below (T241.setTop (mkF m 251 #[.val (.int vp), .val (.int vq), .val (.int vr), .val (.int vs), .val (.int vt), .val (.int va), .val (.int vb), .val (.int vc), .val (.int vy), .val (.int vx), .val (.ref b210), .val (.int (1 : Int32)), .val (.int (1 : Int32)), .val (.int (0 : Int32)), .val (.int (1 : Int32)), .val (.int (1 : Int32)), .val (.int (1 : Int32)), .val (.int (0 : Int32)), .val (.int (1 : Int32))] [(.int (1 : Int32))])) _
    refine XS.goto X241.here hx rfl (pc0 := 251) (pc' := 255) rfl (hb hby at_251) (by decide) (by decide) ?_
    show Steps p.tables e below (T241.setTop (mkF m 255 #[.val (.int vp), .val (.int vq), .val (.int vr), .val (.int vs), .val (.int vt), .val (.int va), .val (.int vb), .val (.int vc), .val (.int vy), .val (.int vx), .val (.ref b210), .val (.int (1 : Int32)), .val (.int (1 : Int32)), .val (.int (0 : Int32)), .val (.int (1 : Int32)), .val (.int (1 : Int32)), .val (.int (1 : Int32)), .val (.int (0 : Int32)), .val (.int (1 : Int32))] [(.int (1 : Int32))])) _
    exact retN X241 hx (t := .boolean) Bd.returns (by simp) (hb hby at_255) hr
  · show QL n0 _ T241.heap _
    rw [e241]
    exact ⟨rfl, N241⟩
set_option maxRecDepth 65536 in
set_option maxHeartbeats 40000000 in
theorem rm0_011 (l : Launch) (Z : State) (a0 : Array Value) (hw : ∀ d ∈ tables_1, d.before a0 Z = true) (ws : List Jvm.Cond) (vp vq vr vs vt : Int32) (va vb vc vy vx : Int32) (em : Addr) (h0 : Heap) (n0 : Nat) (Z0 : n0 ≤ h0.size) (qa : ((vp &&& (2147483647 : Int32)) % (1001 : Int32)) = va) (qb : ((vq &&& (2147483647 : Int32)) % ((1001 : Int32) - va)) = vb) (qc : (vr &&& (2047 : Int32)) = vc) (qy : (vt &&& (2047 : Int32)) = vy) (qx : (vs &&& (2047 : Int32)) = vx) (hnz : (1001 : Int32) - va ≠ 0) (Od0 : Old Z n0 h0) (Se : Sta Z Z.heap "java/util/Optional" "EMPTY" "Ljava/util/Optional;" (.ref em)) (Ee : Exa Z Z.heap em "java/util/Optional") (Fe : Fld Z Z.heap em "java/util/Optional" "value" "Ljava/lang/Object;" .null) (hA : ¬ ((1000 : Int32) < (0 : Int32) + va)) (hB : ¬ ((1000 : Int32) < va + vb)) (eA : (0 : Int32) + va = va) (eB : va + vb - vb = va) (eC : va + vc - vc = va) (eY : va + vy - vy = va) (eZ : va - va = 0) (eX : (0 : Int32) + vx = vx) (hc105 : (1000 : Int32) < (va + vc)) (hc155 : ¬ ((1000 : Int32) < (va + vy))) (hc207 : ¬ ((1000 : Int32) < vx)) :
    MetFree l x (head1 (Jvm.Cond.code x code maxLocals ret :: ws) room_1) (fun zA zU => zA = #[(.int vp), (.int vq), (.int vr), (.int vs), (.int vt)] ∧ Z.Warmed39 zU.vm ∧ zU.heap = h0) (fun _ _ _ _ _ => True) (fun _ zU zO zW => ∃ zV zL, zO = .returned zV ∧ QL n0 zV zW.heap zL ∧ ReturnedEndW zU zO zW zL room_1.cells room_1.slots) := by
  refine MetFree.of_bodySF (plainFor_of_name pn_XmlNestingLeavePinLaw) hisR ?_
  intro p e s m args below meth c s₁ Bd hml0 hP hK
  obtain ⟨rfl, hZ, hh⟩ := hP
  have hx := Bd.exec
  have hby := Bd.bytes
  have hml : c.maxLocals = 19 := hml0
  have hown : s.vm.findClass "com/example/caddis/caddis/XmlNestingLeavePinLaw" = some m.cls := findClass_of_methodNamed Bd.named
  have hnm := (name_of_methodNamed Bd.named Bd.method).1
  have X0 : Stand p l e room_1 s m #[(.int vp), (.int vq), (.int vr), (.int vs), (.int vt)] below meth c s₁ [] 0 0 := Stand.of_body Bd
  have e0 : s₁.heap = h0 := by rw [← hh, Bd.state]; rfl
  have N0 := Fr.nil n0
  have pre0 : ∀ zt, Steps p.tables e below (s₁.setTop (mkF m 0 #[.val (.int vp), .val (.int vq), .val (.int vr), .val (.int vs), .val (.int vt), .unset, .unset, .unset, .unset, .unset, .unset, .unset, .unset, .unset, .unset, .unset, .unset, .unset, .unset] [])) zt → Steps p.tables e below (s₁.setTop (entryFrame m #[(.int vp), (.int vq), (.int vr), (.int vs), (.int vt)] maxLocals)) zt := fun zt zk => castTop (ef_0_IIIII m vp vq vr vs vt) zk
  obtain ⟨T242, h242, X242, e242, E242, A242, D242, -, st242⟩ := newO X0 hx hZ hown (hw _ (List.mem_of_getElem? (i := 1) rfl)) (hw _ (List.mem_of_getElem? (i := 2) rfl)) (hw _ (List.mem_of_getElem? (i := 3) rfl)) e0 (g := (mkF m 45 #[.val (.int vp), .val (.int vq), .val (.int vr), .val (.int vs), .val (.int vt), .val (.int va), .val (.int vb), .val (.int vc), .val (.int vy), .val (.int vx), .unset, .unset, .unset, .unset, .unset, .unset, .unset, .unset, .unset] [])) rfl (hb hby at_45) (by decide) (by decide)
  obtain ⟨b242, g242⟩ : ∃ z, z = h0.size := ⟨_, rfl⟩
  rw [← g242] at A242 D242 st242
  have gz242 : n0 ≤ b242 := Nat.le_trans Z0 (Nat.le_of_eq g242.symm)
  have Z242 := Nat.le_trans Z0 E242.1
  have Od242 := Od0.ext E242
  have F242_declared : Fld Z h242 b242 "com/example/caddis/caddis/XmlNesting" "declared" "[I" .null := D242 (Or.inr (hw _ (List.mem_of_getElem? (i := 12) rfl))) (ty := (.array .int)) (by decide)
  have F242_depth : Fld Z h242 b242 "com/example/caddis/caddis/XmlNesting" "depth" "I" (.int (0 : Int32)) := D242 (Or.inl (hw _ (List.mem_of_getElem? (i := 19) rfl))) (ty := .int) (by decide)
  have F242_declarations : Fld Z h242 b242 "com/example/caddis/caddis/XmlNesting" "declarations" "I" (.int (0 : Int32)) := D242 (Or.inl (hw _ (List.mem_of_getElem? (i := 21) rfl))) (ty := .int) (by decide)
  obtain ⟨_, _, ⟨T243, L243, k243, n243⟩, -, X243, ⟨Lc243, hQ243, l243, y243, z243⟩, st243⟩ := X242.specialBack hx (y := (⟨"com/example/caddis/caddis/XmlNesting", "<init>", "()V"⟩ : MethodName)) rfl hown (mvT hZ (hw _ (List.mem_of_getElem? (i := 4) rfl))) (mvT hZ (hw _ (List.mem_of_getElem? (i := 5) rfl))) (mvT hZ (hw _ (List.mem_of_getElem? (i := 6) rfl))) (by decide) (backOf (W := 1) (rini l Z a0 hw [] b242 h242 n0 Z242 A242 F242_declared F242_depth F242_declarations gz242) hZ (hw _ (List.mem_of_getElem? (i := 6) rfl)) (hw _ (List.mem_of_getElem? (i := 3) rfl)) (by decide) (by decide)) (g := (mkF m 49 #[.val (.int vp), .val (.int vq), .val (.int vr), .val (.int vs), .val (.int vt), .val (.int va), .val (.int vb), .val (.int vc), .val (.int vy), .val (.int vx), .unset, .unset, .unset, .unset, .unset, .unset, .unset, .unset, .unset] [(.ref b242), (.ref b242)])) rfl (by rw [hml]; rfl) (Steps.refl _) (a := b242) (argsL := []) (rest := [(.ref b242)]) (lenOf pd_4 rfl) rfl (by show 2 * 0 + _ ≤ _; exact Nat.le_of_eq rfl) (hb hby at_49) (fun _ _ => ⟨rfl, e242, (by decide : 1 + 1 ≤ _), (by decide : 3 + 1000 ≤ _)⟩)
  dsimp only [Pt.U, Pt.locs, Pt.cells, Pt.slots] at X243 l243 y243 z243 st243 hQ243
  subst l243 y243 z243
  obtain ⟨ar243, rfl, Nq243, Kq243, G243_0, G243_1, G243_2, G243_3, G243_4, ga243, na243⟩ := hQ243
  have N243 := Fr.app N0 Nq243
  have Z243 := Nat.le_trans Z242 Kq243.1
  have Od243 := Od242.keep Kq243 (allS gz242 all0)
  obtain ⟨cq244, kq244, q244a, q244b, q244c⟩ := isOf hZ rfl G243_0
  obtain ⟨_, _, ⟨T244, L244, k244, n244⟩, -, X244, ⟨Lc244, hQ244, l244, y244, z244⟩, st244⟩ := X243.virtualBack hx (y := (⟨"com/example/caddis/caddis/XmlNesting", "enter", "(I)Ljava/util/Optional;"⟩ : MethodName)) (z := (⟨"com/example/caddis/caddis/XmlNesting", "enter", "(I)Ljava/util/Optional;"⟩ : MethodName)) hown (mvT hZ (hw _ (List.mem_of_getElem? (i := 13) rfl))) (mvT hZ (hw _ (List.mem_of_getElem? (i := 14) rfl))) (notFace_of_selects (args := #[]) (mvT hZ (hw _ (List.mem_of_getElem? (i := 16) rfl)))) (mvT hZ (hw _ (List.mem_of_getElem? (i := 16) rfl))) (mvT hZ (hw _ (List.mem_of_getElem? (i := 15) rfl))) (by decide) (backOf (W := 0) (ren0 l Z a0 hw [] b242 ar243 em (0 : Int32) va (fun _ => (0 : Int32)) T243.heap n0 Z243 G243_0 G243_1 G243_2 G243_3 G243_4 gz242 ga243 na243 (Se.ext Od243.2) hA) hZ (hw _ (List.mem_of_getElem? (i := 17) rfl)) (hw _ (List.mem_of_getElem? (i := 3) rfl)) (by decide) (by decide)) q244a q244c (g := (mkF m 58 #[.val (.int vp), .val (.int vq), .val (.int vr), .val (.int vs), .val (.int vt), .val (.int va), .val (.int vb), .val (.int vc), .val (.int vy), .val (.int vx), .val (.ref b242), .unset, .unset, .unset, .unset, .unset, .unset, .unset, .unset] [(.int va), (.ref b242)])) rfl (by rw [hml]; rfl) (Steps.refl _) (argsL := [(.int va)]) (rest := []) (lenOf pd_5 rfl) rfl (by show 2 * 0 + _ ≤ _; exact Nat.le_of_eq rfl) (hb hby at_58) (fun _ _ => ⟨rfl, rfl, (by decide : 2 + 0 ≤ _), (by decide : 1003 + 0 ≤ _)⟩)
  dsimp only [Pt.U, Pt.locs, Pt.cells, Pt.slots] at X244 l244 y244 z244 st244 hQ244
  subst l244 y244 z244
  obtain ⟨rfl, Nq244, Kq244, G244_0, G244_1, G244_2, G244_3, G244_4⟩ := hQ244
  have N244 := Fr.app N243 Nq244
  have Z244 := Nat.le_trans Z243 Kq244.1
  have Od244 := Od243.keep Kq244 (allS gz242 (allS ga243 all0))
  rw [eA] at G244_3
  obtain ⟨cq245, kq245, q245a, q245b, q245c⟩ := isOf hZ rfl (Ee.ext Od244.2)
  obtain ⟨_, _, ⟨T245, L245, k245, n245⟩, -, X245, ⟨Lc245, hQ245, l245, y245, z245⟩, st245⟩ := X244.virtualBack hx (y := (⟨"java/util/Optional", "isEmpty", "()Z"⟩ : MethodName)) (z := (⟨"java/util/Optional", "isEmpty", "()Z"⟩ : MethodName)) hown (mvT hZ (hw _ (List.mem_of_getElem? (i := 27) rfl))) (mvT hZ (hw _ (List.mem_of_getElem? (i := 28) rfl))) (notFace_of_selects (args := #[]) (mvT hZ (hw _ (List.mem_of_getElem? (i := 30) rfl)))) (mvT hZ (hw _ (List.mem_of_getElem? (i := 30) rfl))) (mvT hZ (hw _ (List.mem_of_getElem? (i := 29) rfl))) (by decide) (backOf (W := 0) (ris1 l Z a0 hw [] em T244.heap n0 Z244 (Fe.ext Od244.2)) hZ (hw _ (List.mem_of_getElem? (i := 31) rfl)) (hw _ (List.mem_of_getElem? (i := 24) rfl)) (by decide) (by decide)) q245a q245c (g := (mkF m 61 #[.val (.int vp), .val (.int vq), .val (.int vr), .val (.int vs), .val (.int vt), .val (.int va), .val (.int vb), .val (.int vc), .val (.int vy), .val (.int vx), .val (.ref b242), .unset, .unset, .unset, .unset, .unset, .unset, .unset, .unset] [(.ref em)])) rfl (by rw [hml]; rfl) (Steps.refl _) (argsL := []) (rest := []) (lenOf pd_6 rfl) rfl (by show 2 * 0 + _ ≤ _; exact Nat.le_of_eq rfl) (hb hby at_61) (fun _ _ => ⟨rfl, rfl, (by decide : 2 + 0 ≤ _), (by decide : 1003 + 0 ≤ _)⟩)
  dsimp only [Pt.U, Pt.locs, Pt.cells, Pt.slots] at X245 l245 y245 z245 st245 hQ245
  subst l245 y245 z245
  obtain ⟨rfl, Nq245, e245⟩ := hQ245
  have N245 := Fr.app N244 Nq245
  obtain ⟨cq246, kq246, q246a, q246b, q246c⟩ := isOf hZ e245 G244_0
  obtain ⟨_, _, ⟨T246, L246, k246, n246⟩, -, X246, ⟨Lc246, hQ246, l246, y246, z246⟩, st246⟩ := X245.virtualBack hx (y := (⟨"com/example/caddis/caddis/XmlNesting", "enter", "(I)Ljava/util/Optional;"⟩ : MethodName)) (z := (⟨"com/example/caddis/caddis/XmlNesting", "enter", "(I)Ljava/util/Optional;"⟩ : MethodName)) hown (mvT hZ (hw _ (List.mem_of_getElem? (i := 13) rfl))) (mvT hZ (hw _ (List.mem_of_getElem? (i := 14) rfl))) (notFace_of_selects (args := #[]) (mvT hZ (hw _ (List.mem_of_getElem? (i := 16) rfl)))) (mvT hZ (hw _ (List.mem_of_getElem? (i := 16) rfl))) (mvT hZ (hw _ (List.mem_of_getElem? (i := 15) rfl))) (by decide) (backOf (W := 0) (ren1 l Z a0 hw [] b242 ar243 em va vb (upd (fun _ => (0 : Int32)) 0 va) T244.heap n0 Z244 G244_0 G244_1 G244_2 G244_3 G244_4 gz242 ga243 na243 (Se.ext Od244.2) hB) hZ (hw _ (List.mem_of_getElem? (i := 17) rfl)) (hw _ (List.mem_of_getElem? (i := 3) rfl)) (by decide) (by decide)) q246a q246c (g := (mkF m 70 #[.val (.int vp), .val (.int vq), .val (.int vr), .val (.int vs), .val (.int vt), .val (.int va), .val (.int vb), .val (.int vc), .val (.int vy), .val (.int vx), .val (.ref b242), .val (.int (1 : Int32)), .unset, .unset, .unset, .unset, .unset, .unset, .unset] [(.int vb), (.ref b242)])) rfl (by rw [hml]; rfl) (Steps.refl _) (argsL := [(.int vb)]) (rest := []) (lenOf pd_5 rfl) rfl (by show 2 * 0 + _ ≤ _; exact Nat.le_of_eq rfl) (hb hby at_70) (fun _ _ => ⟨rfl, e245, (by decide : 2 + 0 ≤ _), (by decide : 1003 + 0 ≤ _)⟩)
  dsimp only [Pt.U, Pt.locs, Pt.cells, Pt.slots] at X246 l246 y246 z246 st246 hQ246
  subst l246 y246 z246
  obtain ⟨rfl, Nq246, Kq246, G246_0, G246_1, G246_2, G246_3, G246_4⟩ := hQ246
  have N246 := Fr.app N245 Nq246
  have Z246 := Nat.le_trans Z244 Kq246.1
  have Od246 := Od244.keep Kq246 (allS gz242 (allS ga243 all0))
  obtain ⟨cq247, kq247, q247a, q247b, q247c⟩ := isOf hZ rfl (Ee.ext Od246.2)
  obtain ⟨_, _, ⟨T247, L247, k247, n247⟩, -, X247, ⟨Lc247, hQ247, l247, y247, z247⟩, st247⟩ := X246.virtualBack hx (y := (⟨"java/util/Optional", "isEmpty", "()Z"⟩ : MethodName)) (z := (⟨"java/util/Optional", "isEmpty", "()Z"⟩ : MethodName)) hown (mvT hZ (hw _ (List.mem_of_getElem? (i := 27) rfl))) (mvT hZ (hw _ (List.mem_of_getElem? (i := 28) rfl))) (notFace_of_selects (args := #[]) (mvT hZ (hw _ (List.mem_of_getElem? (i := 30) rfl)))) (mvT hZ (hw _ (List.mem_of_getElem? (i := 30) rfl))) (mvT hZ (hw _ (List.mem_of_getElem? (i := 29) rfl))) (by decide) (backOf (W := 0) (ris1 l Z a0 hw [] em T246.heap n0 Z246 (Fe.ext Od246.2)) hZ (hw _ (List.mem_of_getElem? (i := 31) rfl)) (hw _ (List.mem_of_getElem? (i := 24) rfl)) (by decide) (by decide)) q247a q247c (g := (mkF m 73 #[.val (.int vp), .val (.int vq), .val (.int vr), .val (.int vs), .val (.int vt), .val (.int va), .val (.int vb), .val (.int vc), .val (.int vy), .val (.int vx), .val (.ref b242), .val (.int (1 : Int32)), .unset, .unset, .unset, .unset, .unset, .unset, .unset] [(.ref em)])) rfl (by rw [hml]; rfl) (Steps.refl _) (argsL := []) (rest := []) (lenOf pd_6 rfl) rfl (by show 2 * 0 + _ ≤ _; exact Nat.le_of_eq rfl) (hb hby at_73) (fun _ _ => ⟨rfl, rfl, (by decide : 2 + 0 ≤ _), (by decide : 1003 + 0 ≤ _)⟩)
  dsimp only [Pt.U, Pt.locs, Pt.cells, Pt.slots] at X247 l247 y247 z247 st247 hQ247
  subst l247 y247 z247
  obtain ⟨rfl, Nq247, e247⟩ := hQ247
  have N247 := Fr.app N246 Nq247
  obtain ⟨cq248, kq248, q248a, q248b, q248c⟩ := isOf hZ e247 G246_0
  obtain ⟨_, _, ⟨T248, L248, k248, n248⟩, -, X248, ⟨Lc248, hQ248, l248, y248, z248⟩, st248⟩ := X247.virtualBack hx (y := (⟨"com/example/caddis/caddis/XmlNesting", "leave", "()V"⟩ : MethodName)) (z := (⟨"com/example/caddis/caddis/XmlNesting", "leave", "()V"⟩ : MethodName)) hown (mvT hZ (hw _ (List.mem_of_getElem? (i := 34) rfl))) (mvT hZ (hw _ (List.mem_of_getElem? (i := 35) rfl))) (notFace_of_selects (args := #[]) (mvT hZ (hw _ (List.mem_of_getElem? (i := 37) rfl)))) (mvT hZ (hw _ (List.mem_of_getElem? (i := 37) rfl))) (mvT hZ (hw _ (List.mem_of_getElem? (i := 36) rfl))) (by decide) (backOf (W := 0) (rlv2 l Z a0 hw [] b242 ar243 (va + vb) vb (upd (upd (fun _ => (0 : Int32)) 0 va) 1 vb) T246.heap n0 Z246 G246_0 G246_1 G246_2 G246_3 G246_4 gz242 na243 rfl) hZ (hw _ (List.mem_of_getElem? (i := 38) rfl)) (hw _ (List.mem_of_getElem? (i := 3) rfl)) (by decide) (by decide)) q248a q248c (g := (mkF m 80 #[.val (.int vp), .val (.int vq), .val (.int vr), .val (.int vs), .val (.int vt), .val (.int va), .val (.int vb), .val (.int vc), .val (.int vy), .val (.int vx), .val (.ref b242), .val (.int (1 : Int32)), .val (.int (1 : Int32)), .unset, .unset, .unset, .unset, .unset, .unset] [(.ref b242)])) rfl (by rw [hml]; rfl) (Steps.refl _) (argsL := []) (rest := []) (lenOf pd_4 rfl) rfl (by show 2 * 0 + _ ≤ _; exact Nat.le_of_eq rfl) (hb hby at_80) (fun _ _ => ⟨rfl, e247, (by decide : 2 + 0 ≤ _), (by decide : 1003 + 0 ≤ _)⟩)
  dsimp only [Pt.U, Pt.locs, Pt.cells, Pt.slots] at X248 l248 y248 z248 st248 hQ248
  subst l248 y248 z248
  obtain ⟨rfl, Nq248, Kq248, G248_0, G248_1, G248_2, G248_3⟩ := hQ248
  have N248 := Fr.app N247 Nq248
  have zA249 := G246_4.keep Kq248 (ninS (Ne.symm na243) nin0)
  have Z248 := Nat.le_trans Z246 Kq248.1
  have Od248 := Od246.keep Kq248 (allS gz242 all0)
  rw [eB] at G248_3
  obtain ⟨cq250, kq250, q250a, q250b, q250c⟩ := isOf hZ rfl G248_0
  obtain ⟨_, _, ⟨T250, L250, k250, n250⟩, -, X250, hS250, hG250, ⟨Lc250, hQ250, l250, y250, z250⟩, st250⟩ := X248.virtualBackS hx (y := (⟨"com/example/caddis/caddis/XmlNesting", "enter", "(I)Ljava/util/Optional;"⟩ : MethodName)) (z := (⟨"com/example/caddis/caddis/XmlNesting", "enter", "(I)Ljava/util/Optional;"⟩ : MethodName)) hown (mvT hZ (hw _ (List.mem_of_getElem? (i := 13) rfl))) (mvT hZ (hw _ (List.mem_of_getElem? (i := 14) rfl))) (notFace_of_selects (args := #[]) (mvT hZ (hw _ (List.mem_of_getElem? (i := 16) rfl)))) (mvT hZ (hw _ (List.mem_of_getElem? (i := 16) rfl))) (mvT hZ (hw _ (List.mem_of_getElem? (i := 15) rfl))) (by decide) (backOfS (W := 0) (rex1 l Z a0 hw [] b242 ar243 em va vc (upd (upd (fun _ => (0 : Int32)) 0 va) 1 vb) T248.heap n0 Z248 G248_0 G248_1 G248_2 G248_3 zA249 gz242 ga243 na243 (Se.ext Od248.2) hc105) hZ (hw _ (List.mem_of_getElem? (i := 17) rfl)) (hw _ (List.mem_of_getElem? (i := 3) rfl)) (by decide) (by decide)) q250a q250c (g := (mkF m 87 #[.val (.int vp), .val (.int vq), .val (.int vr), .val (.int vs), .val (.int vt), .val (.int va), .val (.int vb), .val (.int vc), .val (.int vy), .val (.int vx), .val (.ref b242), .val (.int (1 : Int32)), .val (.int (1 : Int32)), .unset, .unset, .unset, .unset, .unset, .unset] [(.int vc), (.ref b242)])) rfl (by rw [hml]; rfl) (Steps.refl _) (argsL := [(.int vc)]) (rest := []) (lenOf pd_5 rfl) rfl (by show 2 * 0 + _ ≤ _; exact Nat.le_of_eq rfl) (hb hby at_87) (fun _ _ => ⟨rfl, rfl, (by decide : 2 + 3 ≤ _), (by decide : 1003 + 253 ≤ _)⟩)
  dsimp only [Pt.U, Pt.locs, Pt.cells, Pt.slots] at X250 hS250 hG250 l250 y250 z250 st250 hQ250
  subst l250 y250 z250
  obtain ⟨o250, y250, rfl, Nq250, Kq250, go250, G250_1, G250_2⟩ := hQ250
  have N250 := Fr.app N248 Nq250
  have zF251 := G248_1.keep Kq250 nin0
  have zF252 := G248_2.keep Kq250 nin0
  have zF253 := G248_3.keep Kq250 nin0
  have zE254 := G248_0.keep Kq250
  have zA255 := zA249.keep Kq250 nin0
  have Z250 := Nat.le_trans Z248 Kq250.1
  have Od250 := Od248.keep Kq250 all0
  have hZ250 : Z.Warmed39 (s.setVm T250.vm).vm := State.Warmed39.trans (t := s) hZ hS250.1
  have hown250 : (s.setVm T250.vm).vm.findClass "com/example/caddis/caddis/XmlNestingLeavePinLaw" = some m.cls := by rw [show (s.setVm T250.vm).vm = T250.vm from rfl, hS250.1.alike.findClass]; exact hown
  have sl250 : T250.heap.size ≤ T250.heap.size := Nat.le_refl _
  obtain ⟨cq256, kq256, q256a, q256b, q256c⟩ := isOf hZ250 rfl G250_1
  obtain ⟨_, _, ⟨T256, L256, k256, n256⟩, -, X256, ⟨Lc256, hQ256, l256, y256, z256⟩, st256⟩ := X250.virtualBack hx (y := (⟨"java/util/Optional", "isEmpty", "()Z"⟩ : MethodName)) (z := (⟨"java/util/Optional", "isEmpty", "()Z"⟩ : MethodName)) hown250 (mvT hZ250 (hw _ (List.mem_of_getElem? (i := 27) rfl))) (mvT hZ250 (hw _ (List.mem_of_getElem? (i := 28) rfl))) (notFace_of_selects (args := #[]) (mvT hZ250 (hw _ (List.mem_of_getElem? (i := 30) rfl)))) (mvT hZ250 (hw _ (List.mem_of_getElem? (i := 30) rfl))) (mvT hZ250 (hw _ (List.mem_of_getElem? (i := 29) rfl))) (by decide) (backOf (W := 0) (ris0 l Z a0 hw [] o250 y250 T250.heap n0 Z250 G250_2) hZ250 (hw _ (List.mem_of_getElem? (i := 31) rfl)) (hw _ (List.mem_of_getElem? (i := 24) rfl)) (by decide) (by decide)) q256a q256c (g := (mkF m 90 #[.val (.int vp), .val (.int vq), .val (.int vr), .val (.int vs), .val (.int vt), .val (.int va), .val (.int vb), .val (.int vc), .val (.int vy), .val (.int vx), .val (.ref b242), .val (.int (1 : Int32)), .val (.int (1 : Int32)), .unset, .unset, .unset, .unset, .unset, .unset] [(.ref o250)])) rfl (by rw [hml]; rfl) (Steps.refl _) (argsL := []) (rest := []) (lenOf pd_6 rfl) rfl (by show 2 * 0 + _ ≤ _; exact Nat.le_of_eq rfl) (hb hby at_90) (fun _ _ => ⟨rfl, rfl, (by decide : 5 + 0 ≤ _), (by decide : 1256 + 0 ≤ _)⟩)
  dsimp only [Pt.U, Pt.locs, Pt.cells, Pt.slots] at X256 l256 y256 z256 st256 hQ256
  subst l256 y256 z256
  obtain ⟨rfl, Nq256, e256⟩ := hQ256
  have N256 := Fr.app N250 Nq256
  obtain ⟨cq257, kq257, q257a, q257b, q257c⟩ := isOf hZ250 e256 zE254
  obtain ⟨_, _, ⟨T257, L257, k257, n257⟩, -, X257, ⟨Lc257, hQ257, l257, y257, z257⟩, st257⟩ := X256.virtualBack hx (y := (⟨"com/example/caddis/caddis/XmlNesting", "enter", "(I)Ljava/util/Optional;"⟩ : MethodName)) (z := (⟨"com/example/caddis/caddis/XmlNesting", "enter", "(I)Ljava/util/Optional;"⟩ : MethodName)) hown250 (mvT hZ250 (hw _ (List.mem_of_getElem? (i := 13) rfl))) (mvT hZ250 (hw _ (List.mem_of_getElem? (i := 14) rfl))) (notFace_of_selects (args := #[]) (mvT hZ250 (hw _ (List.mem_of_getElem? (i := 16) rfl)))) (mvT hZ250 (hw _ (List.mem_of_getElem? (i := 16) rfl))) (mvT hZ250 (hw _ (List.mem_of_getElem? (i := 15) rfl))) (by decide) (backOf (W := 0) (ren1 l Z a0 hw [] b242 ar243 em va vy (upd (upd (fun _ => (0 : Int32)) 0 va) 1 vb) T250.heap n0 Z250 zE254 zF251 zF252 zF253 zA255 gz242 ga243 na243 (Se.ext Od250.2) hc155) hZ250 (hw _ (List.mem_of_getElem? (i := 17) rfl)) (hw _ (List.mem_of_getElem? (i := 3) rfl)) (by decide) (by decide)) q257a q257c (g := (mkF m 137 #[.val (.int vp), .val (.int vq), .val (.int vr), .val (.int vs), .val (.int vt), .val (.int va), .val (.int vb), .val (.int vc), .val (.int vy), .val (.int vx), .val (.ref b242), .val (.int (1 : Int32)), .val (.int (1 : Int32)), .val (.int (0 : Int32)), .val (.int (1 : Int32)), .unset, .unset, .unset, .unset] [(.int vy), (.ref b242)])) rfl (by rw [hml]; rfl) (Steps.refl _) (argsL := [(.int vy)]) (rest := []) (lenOf pd_5 rfl) rfl (by show 2 * 0 + _ ≤ _; exact Nat.le_of_eq rfl) (hb hby at_137) (fun _ _ => ⟨rfl, e256, (by decide : 5 + 0 ≤ _), (by decide : 1256 + 0 ≤ _)⟩)
  dsimp only [Pt.U, Pt.locs, Pt.cells, Pt.slots] at X257 l257 y257 z257 st257 hQ257
  subst l257 y257 z257
  obtain ⟨rfl, Nq257, Kq257, G257_0, G257_1, G257_2, G257_3, G257_4⟩ := hQ257
  have N257 := Fr.app N256 Nq257
  have zE258 := G250_1.keep Kq257
  have Z257 := Nat.le_trans Z250 Kq257.1
  have Od257 := Od250.keep Kq257 (allS gz242 (allS ga243 all0))
  have sl257 := Nat.le_trans sl250 Kq257.1
  obtain ⟨cq259, kq259, q259a, q259b, q259c⟩ := isOf hZ250 rfl (Ee.ext Od257.2)
  obtain ⟨_, _, ⟨T259, L259, k259, n259⟩, -, X259, ⟨Lc259, hQ259, l259, y259, z259⟩, st259⟩ := X257.virtualBack hx (y := (⟨"java/util/Optional", "isEmpty", "()Z"⟩ : MethodName)) (z := (⟨"java/util/Optional", "isEmpty", "()Z"⟩ : MethodName)) hown250 (mvT hZ250 (hw _ (List.mem_of_getElem? (i := 27) rfl))) (mvT hZ250 (hw _ (List.mem_of_getElem? (i := 28) rfl))) (notFace_of_selects (args := #[]) (mvT hZ250 (hw _ (List.mem_of_getElem? (i := 30) rfl)))) (mvT hZ250 (hw _ (List.mem_of_getElem? (i := 30) rfl))) (mvT hZ250 (hw _ (List.mem_of_getElem? (i := 29) rfl))) (by decide) (backOf (W := 0) (ris1 l Z a0 hw [] em T257.heap n0 Z257 (Fe.ext Od257.2)) hZ250 (hw _ (List.mem_of_getElem? (i := 31) rfl)) (hw _ (List.mem_of_getElem? (i := 24) rfl)) (by decide) (by decide)) q259a q259c (g := (mkF m 140 #[.val (.int vp), .val (.int vq), .val (.int vr), .val (.int vs), .val (.int vt), .val (.int va), .val (.int vb), .val (.int vc), .val (.int vy), .val (.int vx), .val (.ref b242), .val (.int (1 : Int32)), .val (.int (1 : Int32)), .val (.int (0 : Int32)), .val (.int (1 : Int32)), .unset, .unset, .unset, .unset] [(.ref em)])) rfl (by rw [hml]; rfl) (Steps.refl _) (argsL := []) (rest := []) (lenOf pd_6 rfl) rfl (by show 2 * 0 + _ ≤ _; exact Nat.le_of_eq rfl) (hb hby at_140) (fun _ _ => ⟨rfl, rfl, (by decide : 5 + 0 ≤ _), (by decide : 1256 + 0 ≤ _)⟩)
  dsimp only [Pt.U, Pt.locs, Pt.cells, Pt.slots] at X259 l259 y259 z259 st259 hQ259
  subst l259 y259 z259
  obtain ⟨rfl, Nq259, e259⟩ := hQ259
  have N259 := Fr.app N257 Nq259
  obtain ⟨cq260, kq260, q260a, q260b, q260c⟩ := isOf hZ250 e259 G257_0
  obtain ⟨_, _, ⟨T260, L260, k260, n260⟩, -, X260, ⟨Lc260, hQ260, l260, y260, z260⟩, st260⟩ := X259.virtualBack hx (y := (⟨"com/example/caddis/caddis/XmlNesting", "leave", "()V"⟩ : MethodName)) (z := (⟨"com/example/caddis/caddis/XmlNesting", "leave", "()V"⟩ : MethodName)) hown250 (mvT hZ250 (hw _ (List.mem_of_getElem? (i := 34) rfl))) (mvT hZ250 (hw _ (List.mem_of_getElem? (i := 35) rfl))) (notFace_of_selects (args := #[]) (mvT hZ250 (hw _ (List.mem_of_getElem? (i := 37) rfl)))) (mvT hZ250 (hw _ (List.mem_of_getElem? (i := 37) rfl))) (mvT hZ250 (hw _ (List.mem_of_getElem? (i := 36) rfl))) (by decide) (backOf (W := 0) (rlv2 l Z a0 hw [] b242 ar243 (va + vy) vy (upd (upd (upd (fun _ => (0 : Int32)) 0 va) 1 vb) 1 vy) T257.heap n0 Z257 G257_0 G257_1 G257_2 G257_3 G257_4 gz242 na243 rfl) hZ250 (hw _ (List.mem_of_getElem? (i := 38) rfl)) (hw _ (List.mem_of_getElem? (i := 3) rfl)) (by decide) (by decide)) q260a q260c (g := (mkF m 180 #[.val (.int vp), .val (.int vq), .val (.int vr), .val (.int vs), .val (.int vt), .val (.int va), .val (.int vb), .val (.int vc), .val (.int vy), .val (.int vx), .val (.ref b242), .val (.int (1 : Int32)), .val (.int (1 : Int32)), .val (.int (0 : Int32)), .val (.int (1 : Int32)), .val (.int (1 : Int32)), .val (.int (1 : Int32)), .unset, .unset] [(.ref b242)])) rfl (by rw [hml]; rfl) (Steps.refl _) (argsL := []) (rest := []) (lenOf pd_4 rfl) rfl (by show 2 * 0 + _ ≤ _; exact Nat.le_of_eq rfl) (hb hby at_180) (fun _ _ => ⟨rfl, e259, (by decide : 5 + 0 ≤ _), (by decide : 1256 + 0 ≤ _)⟩)
  dsimp only [Pt.U, Pt.locs, Pt.cells, Pt.slots] at X260 l260 y260 z260 st260 hQ260
  subst l260 y260 z260
  obtain ⟨rfl, Nq260, Kq260, G260_0, G260_1, G260_2, G260_3⟩ := hQ260
  have N260 := Fr.app N259 Nq260
  have zE261 := zE258.keep Kq260
  have zA262 := G257_4.keep Kq260 (ninS (Ne.symm na243) nin0)
  have Z260 := Nat.le_trans Z257 Kq260.1
  have Od260 := Od257.keep Kq260 (allS gz242 all0)
  have sl260 := Nat.le_trans sl257 Kq260.1
  rw [eY] at G260_3
  obtain ⟨cq263, kq263, q263a, q263b, q263c⟩ := isOf hZ250 rfl G260_0
  obtain ⟨_, _, ⟨T263, L263, k263, n263⟩, -, X263, ⟨Lc263, hQ263, l263, y263, z263⟩, st263⟩ := X260.virtualBack hx (y := (⟨"com/example/caddis/caddis/XmlNesting", "leave", "()V"⟩ : MethodName)) (z := (⟨"com/example/caddis/caddis/XmlNesting", "leave", "()V"⟩ : MethodName)) hown250 (mvT hZ250 (hw _ (List.mem_of_getElem? (i := 34) rfl))) (mvT hZ250 (hw _ (List.mem_of_getElem? (i := 35) rfl))) (notFace_of_selects (args := #[]) (mvT hZ250 (hw _ (List.mem_of_getElem? (i := 37) rfl)))) (mvT hZ250 (hw _ (List.mem_of_getElem? (i := 37) rfl))) (mvT hZ250 (hw _ (List.mem_of_getElem? (i := 36) rfl))) (by decide) (backOf (W := 0) (rlv1 l Z a0 hw [] b242 ar243 va va (upd (upd (upd (fun _ => (0 : Int32)) 0 va) 1 vb) 1 vy) T260.heap n0 Z260 G260_0 G260_1 G260_2 G260_3 zA262 gz242 na243 rfl) hZ250 (hw _ (List.mem_of_getElem? (i := 38) rfl)) (hw _ (List.mem_of_getElem? (i := 3) rfl)) (by decide) (by decide)) q263a q263c (g := (mkF m 185 #[.val (.int vp), .val (.int vq), .val (.int vr), .val (.int vs), .val (.int vt), .val (.int va), .val (.int vb), .val (.int vc), .val (.int vy), .val (.int vx), .val (.ref b242), .val (.int (1 : Int32)), .val (.int (1 : Int32)), .val (.int (0 : Int32)), .val (.int (1 : Int32)), .val (.int (1 : Int32)), .val (.int (1 : Int32)), .unset, .unset] [(.ref b242)])) rfl (by rw [hml]; rfl) (Steps.refl _) (argsL := []) (rest := []) (lenOf pd_4 rfl) rfl (by show 2 * 0 + _ ≤ _; exact Nat.le_of_eq rfl) (hb hby at_185) (fun _ _ => ⟨rfl, rfl, (by decide : 5 + 0 ≤ _), (by decide : 1256 + 0 ≤ _)⟩)
  dsimp only [Pt.U, Pt.locs, Pt.cells, Pt.slots] at X263 l263 y263 z263 st263 hQ263
  subst l263 y263 z263
  obtain ⟨rfl, Nq263, Kq263, G263_0, G263_1, G263_2, G263_3⟩ := hQ263
  have N263 := Fr.app N260 Nq263
  have zE264 := zE261.keep Kq263
  have zA265 := zA262.keep Kq263 (ninS (Ne.symm na243) nin0)
  have Z263 := Nat.le_trans Z260 Kq263.1
  have Od263 := Od260.keep Kq263 (allS gz242 all0)
  have sl263 := Nat.le_trans sl260 Kq263.1
  rw [eZ] at G263_3
  obtain ⟨cq266, kq266, q266a, q266b, q266c⟩ := isOf hZ250 rfl G263_0
  obtain ⟨_, _, ⟨T266, L266, k266, n266⟩, -, X266, ⟨Lc266, hQ266, l266, y266, z266⟩, st266⟩ := X263.virtualBack hx (y := (⟨"com/example/caddis/caddis/XmlNesting", "enter", "(I)Ljava/util/Optional;"⟩ : MethodName)) (z := (⟨"com/example/caddis/caddis/XmlNesting", "enter", "(I)Ljava/util/Optional;"⟩ : MethodName)) hown250 (mvT hZ250 (hw _ (List.mem_of_getElem? (i := 13) rfl))) (mvT hZ250 (hw _ (List.mem_of_getElem? (i := 14) rfl))) (notFace_of_selects (args := #[]) (mvT hZ250 (hw _ (List.mem_of_getElem? (i := 16) rfl)))) (mvT hZ250 (hw _ (List.mem_of_getElem? (i := 16) rfl))) (mvT hZ250 (hw _ (List.mem_of_getElem? (i := 15) rfl))) (by decide) (backOf (W := 0) (ren0 l Z a0 hw [] b242 ar243 em (0 : Int32) vx (upd (upd (upd (fun _ => (0 : Int32)) 0 va) 1 vb) 1 vy) T263.heap n0 Z263 G263_0 G263_1 G263_2 G263_3 zA265 gz242 ga243 na243 (Se.ext Od263.2) (by rw [eX]; exact hc207)) hZ250 (hw _ (List.mem_of_getElem? (i := 17) rfl)) (hw _ (List.mem_of_getElem? (i := 3) rfl)) (by decide) (by decide)) q266a q266c (g := (mkF m 192 #[.val (.int vp), .val (.int vq), .val (.int vr), .val (.int vs), .val (.int vt), .val (.int va), .val (.int vb), .val (.int vc), .val (.int vy), .val (.int vx), .val (.ref b242), .val (.int (1 : Int32)), .val (.int (1 : Int32)), .val (.int (0 : Int32)), .val (.int (1 : Int32)), .val (.int (1 : Int32)), .val (.int (1 : Int32)), .unset, .unset] [(.int vx), (.ref b242)])) rfl (by rw [hml]; rfl) (Steps.refl _) (argsL := [(.int vx)]) (rest := []) (lenOf pd_5 rfl) rfl (by show 2 * 0 + _ ≤ _; exact Nat.le_of_eq rfl) (hb hby at_192) (fun _ _ => ⟨rfl, rfl, (by decide : 5 + 0 ≤ _), (by decide : 1256 + 0 ≤ _)⟩)
  dsimp only [Pt.U, Pt.locs, Pt.cells, Pt.slots] at X266 l266 y266 z266 st266 hQ266
  subst l266 y266 z266
  obtain ⟨rfl, Nq266, Kq266, G266_0, G266_1, G266_2, G266_3, G266_4⟩ := hQ266
  have N266 := Fr.app N263 Nq266
  have zE267 := zE264.keep Kq266
  have Z266 := Nat.le_trans Z263 Kq266.1
  have Od266 := Od263.keep Kq266 (allS gz242 (allS ga243 all0))
  have sl266 := Nat.le_trans sl263 Kq266.1
  rw [eX] at G266_3
  obtain ⟨cq268, kq268, q268a, q268b, q268c⟩ := isOf hZ250 rfl (Ee.ext Od266.2)
  obtain ⟨_, _, ⟨T268, L268, k268, n268⟩, -, X268, ⟨Lc268, hQ268, l268, y268, z268⟩, st268⟩ := X266.virtualBack hx (y := (⟨"java/util/Optional", "isEmpty", "()Z"⟩ : MethodName)) (z := (⟨"java/util/Optional", "isEmpty", "()Z"⟩ : MethodName)) hown250 (mvT hZ250 (hw _ (List.mem_of_getElem? (i := 27) rfl))) (mvT hZ250 (hw _ (List.mem_of_getElem? (i := 28) rfl))) (notFace_of_selects (args := #[]) (mvT hZ250 (hw _ (List.mem_of_getElem? (i := 30) rfl)))) (mvT hZ250 (hw _ (List.mem_of_getElem? (i := 30) rfl))) (mvT hZ250 (hw _ (List.mem_of_getElem? (i := 29) rfl))) (by decide) (backOf (W := 0) (ris1 l Z a0 hw [] em T266.heap n0 Z266 (Fe.ext Od266.2)) hZ250 (hw _ (List.mem_of_getElem? (i := 31) rfl)) (hw _ (List.mem_of_getElem? (i := 24) rfl)) (by decide) (by decide)) q268a q268c (g := (mkF m 195 #[.val (.int vp), .val (.int vq), .val (.int vr), .val (.int vs), .val (.int vt), .val (.int va), .val (.int vb), .val (.int vc), .val (.int vy), .val (.int vx), .val (.ref b242), .val (.int (1 : Int32)), .val (.int (1 : Int32)), .val (.int (0 : Int32)), .val (.int (1 : Int32)), .val (.int (1 : Int32)), .val (.int (1 : Int32)), .unset, .unset] [(.ref em)])) rfl (by rw [hml]; rfl) (Steps.refl _) (argsL := []) (rest := []) (lenOf pd_6 rfl) rfl (by show 2 * 0 + _ ≤ _; exact Nat.le_of_eq rfl) (hb hby at_195) (fun _ _ => ⟨rfl, rfl, (by decide : 5 + 0 ≤ _), (by decide : 1256 + 0 ≤ _)⟩)
  dsimp only [Pt.U, Pt.locs, Pt.cells, Pt.slots] at X268 l268 y268 z268 st268 hQ268
  subst l268 y268 z268
  obtain ⟨rfl, Nq268, e268⟩ := hQ268
  have N268 := Fr.app N266 Nq268
  obtain ⟨fs, hr, hrun, hended, hend⟩ := X268.leaveW hS250 (by rw [e268]; exact sl266) (v := some (.int (1 : Int32))) (fun h => by rw [Bd.returns] at h; cases h)
  refine ⟨_, _, pre0 _ ?_, hrun, hended, _, _, rfl, ?_, hend.1, hend.2.1, hend.2.2.1, hend.2.2.2.mono (by decide) (by decide)⟩
  · show Steps p.tables e below (s₁.setTop (mkF m 0 #[.val (.int vp), .val (.int vq), .val (.int vr), .val (.int vs), .val (.int vt), .unset, .unset, .unset, .unset, .unset, .unset, .unset, .unset, .unset, .unset, .unset, .unset, .unset, .unset] [])) _
    refine pA vp vq vr vs vt va vb vc vy vx X0 hx hZ hw hby hown qa qb qc qy qx hnz _ ?_
    show Steps p.tables e below (s₁.setTop (mkF m 45 #[.val (.int vp), .val (.int vq), .val (.int vr), .val (.int vs), .val (.int vt), .val (.int va), .val (.int vb), .val (.int vc), .val (.int vy), .val (.int vx), .unset, .unset, .unset, .unset, .unset, .unset, .unset, .unset, .unset] [])) _
    refine st242 _ ?_
    show Steps p.tables e below (T242.setTop (mkF m 48 #[.val (.int vp), .val (.int vq), .val (.int vr), .val (.int vs), .val (.int vt), .val (.int va), .val (.int vb), .val (.int vc), .val (.int vy), .val (.int vx), .unset, .unset, .unset, .unset, .unset, .unset, .unset, .unset, .unset] [(.ref b242)])) _
    refine XS.dup X242.here hx rfl (hb hby at_48) rfl rfl ?_
    show Steps p.tables e below (T242.setTop (mkF m 49 #[.val (.int vp), .val (.int vq), .val (.int vr), .val (.int vs), .val (.int vt), .val (.int va), .val (.int vb), .val (.int vc), .val (.int vy), .val (.int vx), .unset, .unset, .unset, .unset, .unset, .unset, .unset, .unset, .unset] [(.ref b242), (.ref b242)])) _
    refine st243.trans ?_
    show Steps p.tables e below (T243.setTop (mkF m 52 #[.val (.int vp), .val (.int vq), .val (.int vr), .val (.int vs), .val (.int vt), .val (.int va), .val (.int vb), .val (.int vc), .val (.int vy), .val (.int vx), .unset, .unset, .unset, .unset, .unset, .unset, .unset, .unset, .unset] [(.ref b242)])) _
    refine XS.astore X243.here hx rfl (hb hby at_52) rfl rfl (l' := #[.val (.int vp), .val (.int vq), .val (.int vr), .val (.int vs), .val (.int vt), .val (.int va), .val (.int vb), .val (.int vc), .val (.int vy), .val (.int vx), .val (.ref b242), .unset, .unset, .unset, .unset, .unset, .unset, .unset, .unset]) rfl ?_
    show Steps p.tables e below (T243.setTop (mkF m 54 #[.val (.int vp), .val (.int vq), .val (.int vr), .val (.int vs), .val (.int vt), .val (.int va), .val (.int vb), .val (.int vc), .val (.int vy), .val (.int vx), .val (.ref b242), .unset, .unset, .unset, .unset, .unset, .unset, .unset, .unset] [])) _
    refine XS.aload X243.here hx rfl (hb hby at_54) rfl rfl ?_
    show Steps p.tables e below (T243.setTop (mkF m 56 #[.val (.int vp), .val (.int vq), .val (.int vr), .val (.int vs), .val (.int vt), .val (.int va), .val (.int vb), .val (.int vc), .val (.int vy), .val (.int vx), .val (.ref b242), .unset, .unset, .unset, .unset, .unset, .unset, .unset, .unset] [(.ref b242)])) _
    refine XS.iload X243.here hx rfl (hb hby at_56) rfl ?_
    show Steps p.tables e below (T243.setTop (mkF m 58 #[.val (.int vp), .val (.int vq), .val (.int vr), .val (.int vs), .val (.int vt), .val (.int va), .val (.int vb), .val (.int vc), .val (.int vy), .val (.int vx), .val (.ref b242), .unset, .unset, .unset, .unset, .unset, .unset, .unset, .unset] [(.int va), (.ref b242)])) _
    refine st244.trans ?_
    show Steps p.tables e below (T244.setTop (mkF m 61 #[.val (.int vp), .val (.int vq), .val (.int vr), .val (.int vs), .val (.int vt), .val (.int va), .val (.int vb), .val (.int vc), .val (.int vy), .val (.int vx), .val (.ref b242), .unset, .unset, .unset, .unset, .unset, .unset, .unset, .unset] [(.ref em)])) _
    refine st245.trans ?_
    show Steps p.tables e below (T245.setTop (mkF m 64 #[.val (.int vp), .val (.int vq), .val (.int vr), .val (.int vs), .val (.int vt), .val (.int va), .val (.int vb), .val (.int vc), .val (.int vy), .val (.int vx), .val (.ref b242), .unset, .unset, .unset, .unset, .unset, .unset, .unset, .unset] [(.int (1 : Int32))])) _
    refine XS.istore X245.here hx rfl (hb hby at_64) rfl (l' := #[.val (.int vp), .val (.int vq), .val (.int vr), .val (.int vs), .val (.int vt), .val (.int va), .val (.int vb), .val (.int vc), .val (.int vy), .val (.int vx), .val (.ref b242), .val (.int (1 : Int32)), .unset, .unset, .unset, .unset, .unset, .unset, .unset]) rfl ?_
    show Steps p.tables e below (T245.setTop (mkF m 66 #[.val (.int vp), .val (.int vq), .val (.int vr), .val (.int vs), .val (.int vt), .val (.int va), .val (.int vb), .val (.int vc), .val (.int vy), .val (.int vx), .val (.ref b242), .val (.int (1 : Int32)), .unset, .unset, .unset, .unset, .unset, .unset, .unset] [])) _
    refine XS.aload X245.here hx rfl (hb hby at_66) rfl rfl ?_
    show Steps p.tables e below (T245.setTop (mkF m 68 #[.val (.int vp), .val (.int vq), .val (.int vr), .val (.int vs), .val (.int vt), .val (.int va), .val (.int vb), .val (.int vc), .val (.int vy), .val (.int vx), .val (.ref b242), .val (.int (1 : Int32)), .unset, .unset, .unset, .unset, .unset, .unset, .unset] [(.ref b242)])) _
    refine XS.iload X245.here hx rfl (hb hby at_68) rfl ?_
    show Steps p.tables e below (T245.setTop (mkF m 70 #[.val (.int vp), .val (.int vq), .val (.int vr), .val (.int vs), .val (.int vt), .val (.int va), .val (.int vb), .val (.int vc), .val (.int vy), .val (.int vx), .val (.ref b242), .val (.int (1 : Int32)), .unset, .unset, .unset, .unset, .unset, .unset, .unset] [(.int vb), (.ref b242)])) _
    refine st246.trans ?_
    show Steps p.tables e below (T246.setTop (mkF m 73 #[.val (.int vp), .val (.int vq), .val (.int vr), .val (.int vs), .val (.int vt), .val (.int va), .val (.int vb), .val (.int vc), .val (.int vy), .val (.int vx), .val (.ref b242), .val (.int (1 : Int32)), .unset, .unset, .unset, .unset, .unset, .unset, .unset] [(.ref em)])) _
    refine st247.trans ?_
    show Steps p.tables e below (T247.setTop (mkF m 76 #[.val (.int vp), .val (.int vq), .val (.int vr), .val (.int vs), .val (.int vt), .val (.int va), .val (.int vb), .val (.int vc), .val (.int vy), .val (.int vx), .val (.ref b242), .val (.int (1 : Int32)), .unset, .unset, .unset, .unset, .unset, .unset, .unset] [(.int (1 : Int32))])) _
    refine XS.istore X247.here hx rfl (hb hby at_76) rfl (l' := #[.val (.int vp), .val (.int vq), .val (.int vr), .val (.int vs), .val (.int vt), .val (.int va), .val (.int vb), .val (.int vc), .val (.int vy), .val (.int vx), .val (.ref b242), .val (.int (1 : Int32)), .val (.int (1 : Int32)), .unset, .unset, .unset, .unset, .unset, .unset]) rfl ?_
    show Steps p.tables e below (T247.setTop (mkF m 78 #[.val (.int vp), .val (.int vq), .val (.int vr), .val (.int vs), .val (.int vt), .val (.int va), .val (.int vb), .val (.int vc), .val (.int vy), .val (.int vx), .val (.ref b242), .val (.int (1 : Int32)), .val (.int (1 : Int32)), .unset, .unset, .unset, .unset, .unset, .unset] [])) _
    refine XS.aload X247.here hx rfl (hb hby at_78) rfl rfl ?_
    show Steps p.tables e below (T247.setTop (mkF m 80 #[.val (.int vp), .val (.int vq), .val (.int vr), .val (.int vs), .val (.int vt), .val (.int va), .val (.int vb), .val (.int vc), .val (.int vy), .val (.int vx), .val (.ref b242), .val (.int (1 : Int32)), .val (.int (1 : Int32)), .unset, .unset, .unset, .unset, .unset, .unset] [(.ref b242)])) _
    refine st248.trans ?_
    show Steps p.tables e below (T248.setTop (mkF m 83 #[.val (.int vp), .val (.int vq), .val (.int vr), .val (.int vs), .val (.int vt), .val (.int va), .val (.int vb), .val (.int vc), .val (.int vy), .val (.int vx), .val (.ref b242), .val (.int (1 : Int32)), .val (.int (1 : Int32)), .unset, .unset, .unset, .unset, .unset, .unset] [])) _
    refine XS.aload X248.here hx rfl (hb hby at_83) rfl rfl ?_
    show Steps p.tables e below (T248.setTop (mkF m 85 #[.val (.int vp), .val (.int vq), .val (.int vr), .val (.int vs), .val (.int vt), .val (.int va), .val (.int vb), .val (.int vc), .val (.int vy), .val (.int vx), .val (.ref b242), .val (.int (1 : Int32)), .val (.int (1 : Int32)), .unset, .unset, .unset, .unset, .unset, .unset] [(.ref b242)])) _
    refine XS.iload X248.here hx rfl (hb hby at_85) rfl ?_
    show Steps p.tables e below (T248.setTop (mkF m 87 #[.val (.int vp), .val (.int vq), .val (.int vr), .val (.int vs), .val (.int vt), .val (.int va), .val (.int vb), .val (.int vc), .val (.int vy), .val (.int vx), .val (.ref b242), .val (.int (1 : Int32)), .val (.int (1 : Int32)), .unset, .unset, .unset, .unset, .unset, .unset] [(.int vc), (.ref b242)])) _
    refine st250.trans ?_
    show Steps p.tables e below (T250.setTop (mkF m 90 #[.val (.int vp), .val (.int vq), .val (.int vr), .val (.int vs), .val (.int vt), .val (.int va), .val (.int vb), .val (.int vc), .val (.int vy), .val (.int vx), .val (.ref b242), .val (.int (1 : Int32)), .val (.int (1 : Int32)), .unset, .unset, .unset, .unset, .unset, .unset] [(.ref o250)])) _
    refine st256.trans ?_
    show Steps p.tables e below (T256.setTop (mkF m 93 #[.val (.int vp), .val (.int vq), .val (.int vr), .val (.int vs), .val (.int vt), .val (.int va), .val (.int vb), .val (.int vc), .val (.int vy), .val (.int vx), .val (.ref b242), .val (.int (1 : Int32)), .val (.int (1 : Int32)), .unset, .unset, .unset, .unset, .unset, .unset] [(.int (0 : Int32))])) _
    refine XS.istore X256.here hx rfl (hb hby at_93) rfl (l' := #[.val (.int vp), .val (.int vq), .val (.int vr), .val (.int vs), .val (.int vt), .val (.int va), .val (.int vb), .val (.int vc), .val (.int vy), .val (.int vx), .val (.ref b242), .val (.int (1 : Int32)), .val (.int (1 : Int32)), .val (.int (0 : Int32)), .unset, .unset, .unset, .unset, .unset]) rfl ?_
    show Steps p.tables e below (T256.setTop (mkF m 95 #[.val (.int vp), .val (.int vq), .val (.int vr), .val (.int vs), .val (.int vt), .val (.int va), .val (.int vb), .val (.int vc), .val (.int vy), .val (.int vx), .val (.ref b242), .val (.int (1 : Int32)), .val (.int (1 : Int32)), .val (.int (0 : Int32)), .unset, .unset, .unset, .unset, .unset] [])) _
    refine XS.iload X256.here hx rfl (hb hby at_95) rfl ?_
    show Steps p.tables e below (T256.setTop (mkF m 97 #[.val (.int vp), .val (.int vq), .val (.int vr), .val (.int vs), .val (.int vt), .val (.int va), .val (.int vb), .val (.int vc), .val (.int vy), .val (.int vx), .val (.ref b242), .val (.int (1 : Int32)), .val (.int (1 : Int32)), .val (.int (0 : Int32)), .unset, .unset, .unset, .unset, .unset] [(.int (0 : Int32))])) _
    refine XS.iload X256.here hx rfl (hb hby at_97) rfl ?_
    show Steps p.tables e below (T256.setTop (mkF m 99 #[.val (.int vp), .val (.int vq), .val (.int vr), .val (.int vs), .val (.int vt), .val (.int va), .val (.int vb), .val (.int vc), .val (.int vy), .val (.int vx), .val (.ref b242), .val (.int (1 : Int32)), .val (.int (1 : Int32)), .val (.int (0 : Int32)), .unset, .unset, .unset, .unset, .unset] [(.int va), (.int (0 : Int32))])) _
    refine XS.iload X256.here hx rfl (hb hby at_99) rfl ?_
    show Steps p.tables e below (T256.setTop (mkF m 101 #[.val (.int vp), .val (.int vq), .val (.int vr), .val (.int vs), .val (.int vt), .val (.int va), .val (.int vb), .val (.int vc), .val (.int vy), .val (.int vx), .val (.ref b242), .val (.int (1 : Int32)), .val (.int (1 : Int32)), .val (.int (0 : Int32)), .unset, .unset, .unset, .unset, .unset] [(.int vc), (.int va), (.int (0 : Int32))])) _
    refine XS.iadd X256.here hx rfl (hb hby at_101) rfl ?_
    show Steps p.tables e below (T256.setTop (mkF m 102 #[.val (.int vp), .val (.int vq), .val (.int vr), .val (.int vs), .val (.int vt), .val (.int va), .val (.int vb), .val (.int vc), .val (.int vy), .val (.int vx), .val (.ref b242), .val (.int (1 : Int32)), .val (.int (1 : Int32)), .val (.int (0 : Int32)), .unset, .unset, .unset, .unset, .unset] [(.int (va + vc)), (.int (0 : Int32))])) _
    refine XS.sipush X256.here hx rfl (hb hby at_102) ?_
    show Steps p.tables e below (T256.setTop (mkF m 105 #[.val (.int vp), .val (.int vq), .val (.int vr), .val (.int vs), .val (.int vt), .val (.int va), .val (.int vb), .val (.int vc), .val (.int vy), .val (.int vx), .val (.ref b242), .val (.int (1 : Int32)), .val (.int (1 : Int32)), .val (.int (0 : Int32)), .unset, .unset, .unset, .unset, .unset] [(.int (1000 : Int32)), (.int (va + vc)), (.int (0 : Int32))])) _
    refine XS.icmpYes X256.here hx rfl (pc0 := 105) (pc' := 112) rfl (hb hby at_105) rfl (tlt hc105).2.2.1 (by decide) (by decide) ?_
    show Steps p.tables e below (T256.setTop (mkF m 112 #[.val (.int vp), .val (.int vq), .val (.int vr), .val (.int vs), .val (.int vt), .val (.int va), .val (.int vb), .val (.int vc), .val (.int vy), .val (.int vx), .val (.ref b242), .val (.int (1 : Int32)), .val (.int (1 : Int32)), .val (.int (0 : Int32)), .unset, .unset, .unset, .unset, .unset] [(.int (0 : Int32))])) _
    refine XS.iconst X256.here hx rfl (hb hby at_112) ?_
    show Steps p.tables e below (T256.setTop (mkF m 113 #[.val (.int vp), .val (.int vq), .val (.int vr), .val (.int vs), .val (.int vt), .val (.int va), .val (.int vb), .val (.int vc), .val (.int vy), .val (.int vx), .val (.ref b242), .val (.int (1 : Int32)), .val (.int (1 : Int32)), .val (.int (0 : Int32)), .unset, .unset, .unset, .unset, .unset] [(.int (0 : Int32)), (.int (0 : Int32))])) _
    refine XS.icmpNo X256.here hx rfl (hb hby at_113) rfl (teq (by decide)).2 ?_
    show Steps p.tables e below (T256.setTop (mkF m 116 #[.val (.int vp), .val (.int vq), .val (.int vr), .val (.int vs), .val (.int vt), .val (.int va), .val (.int vb), .val (.int vc), .val (.int vy), .val (.int vx), .val (.ref b242), .val (.int (1 : Int32)), .val (.int (1 : Int32)), .val (.int (0 : Int32)), .unset, .unset, .unset, .unset, .unset] [])) _
    refine XS.iconst X256.here hx rfl (hb hby at_116) ?_
    show Steps p.tables e below (T256.setTop (mkF m 117 #[.val (.int vp), .val (.int vq), .val (.int vr), .val (.int vs), .val (.int vt), .val (.int va), .val (.int vb), .val (.int vc), .val (.int vy), .val (.int vx), .val (.ref b242), .val (.int (1 : Int32)), .val (.int (1 : Int32)), .val (.int (0 : Int32)), .unset, .unset, .unset, .unset, .unset] [(.int (1 : Int32))])) _
    refine XS.goto X256.here hx rfl (pc0 := 117) (pc' := 121) rfl (hb hby at_117) (by decide) (by decide) ?_
    show Steps p.tables e below (T256.setTop (mkF m 121 #[.val (.int vp), .val (.int vq), .val (.int vr), .val (.int vs), .val (.int vt), .val (.int va), .val (.int vb), .val (.int vc), .val (.int vy), .val (.int vx), .val (.ref b242), .val (.int (1 : Int32)), .val (.int (1 : Int32)), .val (.int (0 : Int32)), .unset, .unset, .unset, .unset, .unset] [(.int (1 : Int32))])) _
    refine XS.istore X256.here hx rfl (hb hby at_121) rfl (l' := #[.val (.int vp), .val (.int vq), .val (.int vr), .val (.int vs), .val (.int vt), .val (.int va), .val (.int vb), .val (.int vc), .val (.int vy), .val (.int vx), .val (.ref b242), .val (.int (1 : Int32)), .val (.int (1 : Int32)), .val (.int (0 : Int32)), .val (.int (1 : Int32)), .unset, .unset, .unset, .unset]) rfl ?_
    show Steps p.tables e below (T256.setTop (mkF m 123 #[.val (.int vp), .val (.int vq), .val (.int vr), .val (.int vs), .val (.int vt), .val (.int va), .val (.int vb), .val (.int vc), .val (.int vy), .val (.int vx), .val (.ref b242), .val (.int (1 : Int32)), .val (.int (1 : Int32)), .val (.int (0 : Int32)), .val (.int (1 : Int32)), .unset, .unset, .unset, .unset] [])) _
    refine XS.iload X256.here hx rfl (hb hby at_123) rfl ?_
    show Steps p.tables e below (T256.setTop (mkF m 125 #[.val (.int vp), .val (.int vq), .val (.int vr), .val (.int vs), .val (.int vt), .val (.int va), .val (.int vb), .val (.int vc), .val (.int vy), .val (.int vx), .val (.ref b242), .val (.int (1 : Int32)), .val (.int (1 : Int32)), .val (.int (0 : Int32)), .val (.int (1 : Int32)), .unset, .unset, .unset, .unset] [(.int (0 : Int32))])) _
    refine XS.ifYes X256.here hx rfl (pc0 := 125) (pc' := 133) rfl (hb hby at_125) rfl ((if0 _ _).trans (teq (by decide)).1) (by decide) (by decide) ?_
    show Steps p.tables e below (T256.setTop (mkF m 133 #[.val (.int vp), .val (.int vq), .val (.int vr), .val (.int vs), .val (.int vt), .val (.int va), .val (.int vb), .val (.int vc), .val (.int vy), .val (.int vx), .val (.ref b242), .val (.int (1 : Int32)), .val (.int (1 : Int32)), .val (.int (0 : Int32)), .val (.int (1 : Int32)), .unset, .unset, .unset, .unset] [])) _
    refine XS.aload X256.here hx rfl (hb hby at_133) rfl rfl ?_
    show Steps p.tables e below (T256.setTop (mkF m 135 #[.val (.int vp), .val (.int vq), .val (.int vr), .val (.int vs), .val (.int vt), .val (.int va), .val (.int vb), .val (.int vc), .val (.int vy), .val (.int vx), .val (.ref b242), .val (.int (1 : Int32)), .val (.int (1 : Int32)), .val (.int (0 : Int32)), .val (.int (1 : Int32)), .unset, .unset, .unset, .unset] [(.ref b242)])) _
    refine XS.iload X256.here hx rfl (hb hby at_135) rfl ?_
    show Steps p.tables e below (T256.setTop (mkF m 137 #[.val (.int vp), .val (.int vq), .val (.int vr), .val (.int vs), .val (.int vt), .val (.int va), .val (.int vb), .val (.int vc), .val (.int vy), .val (.int vx), .val (.ref b242), .val (.int (1 : Int32)), .val (.int (1 : Int32)), .val (.int (0 : Int32)), .val (.int (1 : Int32)), .unset, .unset, .unset, .unset] [(.int vy), (.ref b242)])) _
    refine st257.trans ?_
    show Steps p.tables e below (T257.setTop (mkF m 140 #[.val (.int vp), .val (.int vq), .val (.int vr), .val (.int vs), .val (.int vt), .val (.int va), .val (.int vb), .val (.int vc), .val (.int vy), .val (.int vx), .val (.ref b242), .val (.int (1 : Int32)), .val (.int (1 : Int32)), .val (.int (0 : Int32)), .val (.int (1 : Int32)), .unset, .unset, .unset, .unset] [(.ref em)])) _
    refine st259.trans ?_
    show Steps p.tables e below (T259.setTop (mkF m 143 #[.val (.int vp), .val (.int vq), .val (.int vr), .val (.int vs), .val (.int vt), .val (.int va), .val (.int vb), .val (.int vc), .val (.int vy), .val (.int vx), .val (.ref b242), .val (.int (1 : Int32)), .val (.int (1 : Int32)), .val (.int (0 : Int32)), .val (.int (1 : Int32)), .unset, .unset, .unset, .unset] [(.int (1 : Int32))])) _
    refine XS.istore X259.here hx rfl (hb hby at_143) rfl (l' := #[.val (.int vp), .val (.int vq), .val (.int vr), .val (.int vs), .val (.int vt), .val (.int va), .val (.int vb), .val (.int vc), .val (.int vy), .val (.int vx), .val (.ref b242), .val (.int (1 : Int32)), .val (.int (1 : Int32)), .val (.int (0 : Int32)), .val (.int (1 : Int32)), .val (.int (1 : Int32)), .unset, .unset, .unset]) rfl ?_
    show Steps p.tables e below (T259.setTop (mkF m 145 #[.val (.int vp), .val (.int vq), .val (.int vr), .val (.int vs), .val (.int vt), .val (.int va), .val (.int vb), .val (.int vc), .val (.int vy), .val (.int vx), .val (.ref b242), .val (.int (1 : Int32)), .val (.int (1 : Int32)), .val (.int (0 : Int32)), .val (.int (1 : Int32)), .val (.int (1 : Int32)), .unset, .unset, .unset] [])) _
    refine XS.iload X259.here hx rfl (hb hby at_145) rfl ?_
    show Steps p.tables e below (T259.setTop (mkF m 147 #[.val (.int vp), .val (.int vq), .val (.int vr), .val (.int vs), .val (.int vt), .val (.int va), .val (.int vb), .val (.int vc), .val (.int vy), .val (.int vx), .val (.ref b242), .val (.int (1 : Int32)), .val (.int (1 : Int32)), .val (.int (0 : Int32)), .val (.int (1 : Int32)), .val (.int (1 : Int32)), .unset, .unset, .unset] [(.int (1 : Int32))])) _
    refine XS.iload X259.here hx rfl (hb hby at_147) rfl ?_
    show Steps p.tables e below (T259.setTop (mkF m 149 #[.val (.int vp), .val (.int vq), .val (.int vr), .val (.int vs), .val (.int vt), .val (.int va), .val (.int vb), .val (.int vc), .val (.int vy), .val (.int vx), .val (.ref b242), .val (.int (1 : Int32)), .val (.int (1 : Int32)), .val (.int (0 : Int32)), .val (.int (1 : Int32)), .val (.int (1 : Int32)), .unset, .unset, .unset] [(.int va), (.int (1 : Int32))])) _
    refine XS.iload X259.here hx rfl (hb hby at_149) rfl ?_
    show Steps p.tables e below (T259.setTop (mkF m 151 #[.val (.int vp), .val (.int vq), .val (.int vr), .val (.int vs), .val (.int vt), .val (.int va), .val (.int vb), .val (.int vc), .val (.int vy), .val (.int vx), .val (.ref b242), .val (.int (1 : Int32)), .val (.int (1 : Int32)), .val (.int (0 : Int32)), .val (.int (1 : Int32)), .val (.int (1 : Int32)), .unset, .unset, .unset] [(.int vy), (.int va), (.int (1 : Int32))])) _
    refine XS.iadd X259.here hx rfl (hb hby at_151) rfl ?_
    show Steps p.tables e below (T259.setTop (mkF m 152 #[.val (.int vp), .val (.int vq), .val (.int vr), .val (.int vs), .val (.int vt), .val (.int va), .val (.int vb), .val (.int vc), .val (.int vy), .val (.int vx), .val (.ref b242), .val (.int (1 : Int32)), .val (.int (1 : Int32)), .val (.int (0 : Int32)), .val (.int (1 : Int32)), .val (.int (1 : Int32)), .unset, .unset, .unset] [(.int (va + vy)), (.int (1 : Int32))])) _
    refine XS.sipush X259.here hx rfl (hb hby at_152) ?_
    show Steps p.tables e below (T259.setTop (mkF m 155 #[.val (.int vp), .val (.int vq), .val (.int vr), .val (.int vs), .val (.int vt), .val (.int va), .val (.int vb), .val (.int vc), .val (.int vy), .val (.int vx), .val (.ref b242), .val (.int (1 : Int32)), .val (.int (1 : Int32)), .val (.int (0 : Int32)), .val (.int (1 : Int32)), .val (.int (1 : Int32)), .unset, .unset, .unset] [(.int (1000 : Int32)), (.int (va + vy)), (.int (1 : Int32))])) _
    refine XS.icmpNo X259.here hx rfl (hb hby at_155) rfl (flt hc155).2.2.1 ?_
    show Steps p.tables e below (T259.setTop (mkF m 158 #[.val (.int vp), .val (.int vq), .val (.int vr), .val (.int vs), .val (.int vt), .val (.int va), .val (.int vb), .val (.int vc), .val (.int vy), .val (.int vx), .val (.ref b242), .val (.int (1 : Int32)), .val (.int (1 : Int32)), .val (.int (0 : Int32)), .val (.int (1 : Int32)), .val (.int (1 : Int32)), .unset, .unset, .unset] [(.int (1 : Int32))])) _
    refine XS.iconst X259.here hx rfl (hb hby at_158) ?_
    show Steps p.tables e below (T259.setTop (mkF m 159 #[.val (.int vp), .val (.int vq), .val (.int vr), .val (.int vs), .val (.int vt), .val (.int va), .val (.int vb), .val (.int vc), .val (.int vy), .val (.int vx), .val (.ref b242), .val (.int (1 : Int32)), .val (.int (1 : Int32)), .val (.int (0 : Int32)), .val (.int (1 : Int32)), .val (.int (1 : Int32)), .unset, .unset, .unset] [(.int (1 : Int32)), (.int (1 : Int32))])) _
    refine XS.goto X259.here hx rfl (pc0 := 159) (pc' := 163) rfl (hb hby at_159) (by decide) (by decide) ?_
    show Steps p.tables e below (T259.setTop (mkF m 163 #[.val (.int vp), .val (.int vq), .val (.int vr), .val (.int vs), .val (.int vt), .val (.int va), .val (.int vb), .val (.int vc), .val (.int vy), .val (.int vx), .val (.ref b242), .val (.int (1 : Int32)), .val (.int (1 : Int32)), .val (.int (0 : Int32)), .val (.int (1 : Int32)), .val (.int (1 : Int32)), .unset, .unset, .unset] [(.int (1 : Int32)), (.int (1 : Int32))])) _
    refine XS.icmpNo X259.here hx rfl (hb hby at_163) rfl (teq (by decide)).2 ?_
    show Steps p.tables e below (T259.setTop (mkF m 166 #[.val (.int vp), .val (.int vq), .val (.int vr), .val (.int vs), .val (.int vt), .val (.int va), .val (.int vb), .val (.int vc), .val (.int vy), .val (.int vx), .val (.ref b242), .val (.int (1 : Int32)), .val (.int (1 : Int32)), .val (.int (0 : Int32)), .val (.int (1 : Int32)), .val (.int (1 : Int32)), .unset, .unset, .unset] [])) _
    refine XS.iconst X259.here hx rfl (hb hby at_166) ?_
    show Steps p.tables e below (T259.setTop (mkF m 167 #[.val (.int vp), .val (.int vq), .val (.int vr), .val (.int vs), .val (.int vt), .val (.int va), .val (.int vb), .val (.int vc), .val (.int vy), .val (.int vx), .val (.ref b242), .val (.int (1 : Int32)), .val (.int (1 : Int32)), .val (.int (0 : Int32)), .val (.int (1 : Int32)), .val (.int (1 : Int32)), .unset, .unset, .unset] [(.int (1 : Int32))])) _
    refine XS.goto X259.here hx rfl (pc0 := 167) (pc' := 171) rfl (hb hby at_167) (by decide) (by decide) ?_
    show Steps p.tables e below (T259.setTop (mkF m 171 #[.val (.int vp), .val (.int vq), .val (.int vr), .val (.int vs), .val (.int vt), .val (.int va), .val (.int vb), .val (.int vc), .val (.int vy), .val (.int vx), .val (.ref b242), .val (.int (1 : Int32)), .val (.int (1 : Int32)), .val (.int (0 : Int32)), .val (.int (1 : Int32)), .val (.int (1 : Int32)), .unset, .unset, .unset] [(.int (1 : Int32))])) _
    refine XS.istore X259.here hx rfl (hb hby at_171) rfl (l' := #[.val (.int vp), .val (.int vq), .val (.int vr), .val (.int vs), .val (.int vt), .val (.int va), .val (.int vb), .val (.int vc), .val (.int vy), .val (.int vx), .val (.ref b242), .val (.int (1 : Int32)), .val (.int (1 : Int32)), .val (.int (0 : Int32)), .val (.int (1 : Int32)), .val (.int (1 : Int32)), .val (.int (1 : Int32)), .unset, .unset]) rfl ?_
    show Steps p.tables e below (T259.setTop (mkF m 173 #[.val (.int vp), .val (.int vq), .val (.int vr), .val (.int vs), .val (.int vt), .val (.int va), .val (.int vb), .val (.int vc), .val (.int vy), .val (.int vx), .val (.ref b242), .val (.int (1 : Int32)), .val (.int (1 : Int32)), .val (.int (0 : Int32)), .val (.int (1 : Int32)), .val (.int (1 : Int32)), .val (.int (1 : Int32)), .unset, .unset] [])) _
    refine XS.iload X259.here hx rfl (hb hby at_173) rfl ?_
    show Steps p.tables e below (T259.setTop (mkF m 175 #[.val (.int vp), .val (.int vq), .val (.int vr), .val (.int vs), .val (.int vt), .val (.int va), .val (.int vb), .val (.int vc), .val (.int vy), .val (.int vx), .val (.ref b242), .val (.int (1 : Int32)), .val (.int (1 : Int32)), .val (.int (0 : Int32)), .val (.int (1 : Int32)), .val (.int (1 : Int32)), .val (.int (1 : Int32)), .unset, .unset] [(.int (1 : Int32))])) _
    refine XS.ifNo X259.here hx rfl (hb hby at_175) rfl ((if0 _ _).trans (feq (by decide)).1) ?_
    show Steps p.tables e below (T259.setTop (mkF m 178 #[.val (.int vp), .val (.int vq), .val (.int vr), .val (.int vs), .val (.int vt), .val (.int va), .val (.int vb), .val (.int vc), .val (.int vy), .val (.int vx), .val (.ref b242), .val (.int (1 : Int32)), .val (.int (1 : Int32)), .val (.int (0 : Int32)), .val (.int (1 : Int32)), .val (.int (1 : Int32)), .val (.int (1 : Int32)), .unset, .unset] [])) _
    refine XS.aload X259.here hx rfl (hb hby at_178) rfl rfl ?_
    show Steps p.tables e below (T259.setTop (mkF m 180 #[.val (.int vp), .val (.int vq), .val (.int vr), .val (.int vs), .val (.int vt), .val (.int va), .val (.int vb), .val (.int vc), .val (.int vy), .val (.int vx), .val (.ref b242), .val (.int (1 : Int32)), .val (.int (1 : Int32)), .val (.int (0 : Int32)), .val (.int (1 : Int32)), .val (.int (1 : Int32)), .val (.int (1 : Int32)), .unset, .unset] [(.ref b242)])) _
    refine st260.trans ?_
    show Steps p.tables e below (T260.setTop (mkF m 183 #[.val (.int vp), .val (.int vq), .val (.int vr), .val (.int vs), .val (.int vt), .val (.int va), .val (.int vb), .val (.int vc), .val (.int vy), .val (.int vx), .val (.ref b242), .val (.int (1 : Int32)), .val (.int (1 : Int32)), .val (.int (0 : Int32)), .val (.int (1 : Int32)), .val (.int (1 : Int32)), .val (.int (1 : Int32)), .unset, .unset] [])) _
    refine XS.aload X260.here hx rfl (hb hby at_183) rfl rfl ?_
    show Steps p.tables e below (T260.setTop (mkF m 185 #[.val (.int vp), .val (.int vq), .val (.int vr), .val (.int vs), .val (.int vt), .val (.int va), .val (.int vb), .val (.int vc), .val (.int vy), .val (.int vx), .val (.ref b242), .val (.int (1 : Int32)), .val (.int (1 : Int32)), .val (.int (0 : Int32)), .val (.int (1 : Int32)), .val (.int (1 : Int32)), .val (.int (1 : Int32)), .unset, .unset] [(.ref b242)])) _
    refine st263.trans ?_
    show Steps p.tables e below (T263.setTop (mkF m 188 #[.val (.int vp), .val (.int vq), .val (.int vr), .val (.int vs), .val (.int vt), .val (.int va), .val (.int vb), .val (.int vc), .val (.int vy), .val (.int vx), .val (.ref b242), .val (.int (1 : Int32)), .val (.int (1 : Int32)), .val (.int (0 : Int32)), .val (.int (1 : Int32)), .val (.int (1 : Int32)), .val (.int (1 : Int32)), .unset, .unset] [])) _
    refine XS.aload X263.here hx rfl (hb hby at_188) rfl rfl ?_
    show Steps p.tables e below (T263.setTop (mkF m 190 #[.val (.int vp), .val (.int vq), .val (.int vr), .val (.int vs), .val (.int vt), .val (.int va), .val (.int vb), .val (.int vc), .val (.int vy), .val (.int vx), .val (.ref b242), .val (.int (1 : Int32)), .val (.int (1 : Int32)), .val (.int (0 : Int32)), .val (.int (1 : Int32)), .val (.int (1 : Int32)), .val (.int (1 : Int32)), .unset, .unset] [(.ref b242)])) _
    refine XS.iload X263.here hx rfl (hb hby at_190) rfl ?_
    show Steps p.tables e below (T263.setTop (mkF m 192 #[.val (.int vp), .val (.int vq), .val (.int vr), .val (.int vs), .val (.int vt), .val (.int va), .val (.int vb), .val (.int vc), .val (.int vy), .val (.int vx), .val (.ref b242), .val (.int (1 : Int32)), .val (.int (1 : Int32)), .val (.int (0 : Int32)), .val (.int (1 : Int32)), .val (.int (1 : Int32)), .val (.int (1 : Int32)), .unset, .unset] [(.int vx), (.ref b242)])) _
    refine st266.trans ?_
    show Steps p.tables e below (T266.setTop (mkF m 195 #[.val (.int vp), .val (.int vq), .val (.int vr), .val (.int vs), .val (.int vt), .val (.int va), .val (.int vb), .val (.int vc), .val (.int vy), .val (.int vx), .val (.ref b242), .val (.int (1 : Int32)), .val (.int (1 : Int32)), .val (.int (0 : Int32)), .val (.int (1 : Int32)), .val (.int (1 : Int32)), .val (.int (1 : Int32)), .unset, .unset] [(.ref em)])) _
    refine st268.trans ?_
    show Steps p.tables e below (T268.setTop (mkF m 198 #[.val (.int vp), .val (.int vq), .val (.int vr), .val (.int vs), .val (.int vt), .val (.int va), .val (.int vb), .val (.int vc), .val (.int vy), .val (.int vx), .val (.ref b242), .val (.int (1 : Int32)), .val (.int (1 : Int32)), .val (.int (0 : Int32)), .val (.int (1 : Int32)), .val (.int (1 : Int32)), .val (.int (1 : Int32)), .unset, .unset] [(.int (1 : Int32))])) _
    refine XS.istore X268.here hx rfl (hb hby at_198) rfl (l' := #[.val (.int vp), .val (.int vq), .val (.int vr), .val (.int vs), .val (.int vt), .val (.int va), .val (.int vb), .val (.int vc), .val (.int vy), .val (.int vx), .val (.ref b242), .val (.int (1 : Int32)), .val (.int (1 : Int32)), .val (.int (0 : Int32)), .val (.int (1 : Int32)), .val (.int (1 : Int32)), .val (.int (1 : Int32)), .val (.int (1 : Int32)), .unset]) rfl ?_
    show Steps p.tables e below (T268.setTop (mkF m 200 #[.val (.int vp), .val (.int vq), .val (.int vr), .val (.int vs), .val (.int vt), .val (.int va), .val (.int vb), .val (.int vc), .val (.int vy), .val (.int vx), .val (.ref b242), .val (.int (1 : Int32)), .val (.int (1 : Int32)), .val (.int (0 : Int32)), .val (.int (1 : Int32)), .val (.int (1 : Int32)), .val (.int (1 : Int32)), .val (.int (1 : Int32)), .unset] [])) _
    refine XS.iload X268.here hx rfl (hb hby at_200) rfl ?_
    show Steps p.tables e below (T268.setTop (mkF m 202 #[.val (.int vp), .val (.int vq), .val (.int vr), .val (.int vs), .val (.int vt), .val (.int va), .val (.int vb), .val (.int vc), .val (.int vy), .val (.int vx), .val (.ref b242), .val (.int (1 : Int32)), .val (.int (1 : Int32)), .val (.int (0 : Int32)), .val (.int (1 : Int32)), .val (.int (1 : Int32)), .val (.int (1 : Int32)), .val (.int (1 : Int32)), .unset] [(.int (1 : Int32))])) _
    refine XS.iload X268.here hx rfl (hb hby at_202) rfl ?_
    show Steps p.tables e below (T268.setTop (mkF m 204 #[.val (.int vp), .val (.int vq), .val (.int vr), .val (.int vs), .val (.int vt), .val (.int va), .val (.int vb), .val (.int vc), .val (.int vy), .val (.int vx), .val (.ref b242), .val (.int (1 : Int32)), .val (.int (1 : Int32)), .val (.int (0 : Int32)), .val (.int (1 : Int32)), .val (.int (1 : Int32)), .val (.int (1 : Int32)), .val (.int (1 : Int32)), .unset] [(.int vx), (.int (1 : Int32))])) _
    refine XS.sipush X268.here hx rfl (hb hby at_204) ?_
    show Steps p.tables e below (T268.setTop (mkF m 207 #[.val (.int vp), .val (.int vq), .val (.int vr), .val (.int vs), .val (.int vt), .val (.int va), .val (.int vb), .val (.int vc), .val (.int vy), .val (.int vx), .val (.ref b242), .val (.int (1 : Int32)), .val (.int (1 : Int32)), .val (.int (0 : Int32)), .val (.int (1 : Int32)), .val (.int (1 : Int32)), .val (.int (1 : Int32)), .val (.int (1 : Int32)), .unset] [(.int (1000 : Int32)), (.int vx), (.int (1 : Int32))])) _
    refine XS.icmpNo X268.here hx rfl (hb hby at_207) rfl (flt hc207).2.2.1 ?_
    show Steps p.tables e below (T268.setTop (mkF m 210 #[.val (.int vp), .val (.int vq), .val (.int vr), .val (.int vs), .val (.int vt), .val (.int va), .val (.int vb), .val (.int vc), .val (.int vy), .val (.int vx), .val (.ref b242), .val (.int (1 : Int32)), .val (.int (1 : Int32)), .val (.int (0 : Int32)), .val (.int (1 : Int32)), .val (.int (1 : Int32)), .val (.int (1 : Int32)), .val (.int (1 : Int32)), .unset] [(.int (1 : Int32))])) _
    refine XS.iconst X268.here hx rfl (hb hby at_210) ?_
    show Steps p.tables e below (T268.setTop (mkF m 211 #[.val (.int vp), .val (.int vq), .val (.int vr), .val (.int vs), .val (.int vt), .val (.int va), .val (.int vb), .val (.int vc), .val (.int vy), .val (.int vx), .val (.ref b242), .val (.int (1 : Int32)), .val (.int (1 : Int32)), .val (.int (0 : Int32)), .val (.int (1 : Int32)), .val (.int (1 : Int32)), .val (.int (1 : Int32)), .val (.int (1 : Int32)), .unset] [(.int (1 : Int32)), (.int (1 : Int32))])) _
    refine XS.goto X268.here hx rfl (pc0 := 211) (pc' := 215) rfl (hb hby at_211) (by decide) (by decide) ?_
    show Steps p.tables e below (T268.setTop (mkF m 215 #[.val (.int vp), .val (.int vq), .val (.int vr), .val (.int vs), .val (.int vt), .val (.int va), .val (.int vb), .val (.int vc), .val (.int vy), .val (.int vx), .val (.ref b242), .val (.int (1 : Int32)), .val (.int (1 : Int32)), .val (.int (0 : Int32)), .val (.int (1 : Int32)), .val (.int (1 : Int32)), .val (.int (1 : Int32)), .val (.int (1 : Int32)), .unset] [(.int (1 : Int32)), (.int (1 : Int32))])) _
    refine XS.icmpNo X268.here hx rfl (hb hby at_215) rfl (teq (by decide)).2 ?_
    show Steps p.tables e below (T268.setTop (mkF m 218 #[.val (.int vp), .val (.int vq), .val (.int vr), .val (.int vs), .val (.int vt), .val (.int va), .val (.int vb), .val (.int vc), .val (.int vy), .val (.int vx), .val (.ref b242), .val (.int (1 : Int32)), .val (.int (1 : Int32)), .val (.int (0 : Int32)), .val (.int (1 : Int32)), .val (.int (1 : Int32)), .val (.int (1 : Int32)), .val (.int (1 : Int32)), .unset] [])) _
    refine XS.iconst X268.here hx rfl (hb hby at_218) ?_
    show Steps p.tables e below (T268.setTop (mkF m 219 #[.val (.int vp), .val (.int vq), .val (.int vr), .val (.int vs), .val (.int vt), .val (.int va), .val (.int vb), .val (.int vc), .val (.int vy), .val (.int vx), .val (.ref b242), .val (.int (1 : Int32)), .val (.int (1 : Int32)), .val (.int (0 : Int32)), .val (.int (1 : Int32)), .val (.int (1 : Int32)), .val (.int (1 : Int32)), .val (.int (1 : Int32)), .unset] [(.int (1 : Int32))])) _
    refine XS.goto X268.here hx rfl (pc0 := 219) (pc' := 223) rfl (hb hby at_219) (by decide) (by decide) ?_
    show Steps p.tables e below (T268.setTop (mkF m 223 #[.val (.int vp), .val (.int vq), .val (.int vr), .val (.int vs), .val (.int vt), .val (.int va), .val (.int vb), .val (.int vc), .val (.int vy), .val (.int vx), .val (.ref b242), .val (.int (1 : Int32)), .val (.int (1 : Int32)), .val (.int (0 : Int32)), .val (.int (1 : Int32)), .val (.int (1 : Int32)), .val (.int (1 : Int32)), .val (.int (1 : Int32)), .unset] [(.int (1 : Int32))])) _
    refine XS.istore X268.here hx rfl (hb hby at_223) rfl (l' := #[.val (.int vp), .val (.int vq), .val (.int vr), .val (.int vs), .val (.int vt), .val (.int va), .val (.int vb), .val (.int vc), .val (.int vy), .val (.int vx), .val (.ref b242), .val (.int (1 : Int32)), .val (.int (1 : Int32)), .val (.int (0 : Int32)), .val (.int (1 : Int32)), .val (.int (1 : Int32)), .val (.int (1 : Int32)), .val (.int (1 : Int32)), .val (.int (1 : Int32))]) rfl ?_
    show Steps p.tables e below (T268.setTop (mkF m 225 #[.val (.int vp), .val (.int vq), .val (.int vr), .val (.int vs), .val (.int vt), .val (.int va), .val (.int vb), .val (.int vc), .val (.int vy), .val (.int vx), .val (.ref b242), .val (.int (1 : Int32)), .val (.int (1 : Int32)), .val (.int (0 : Int32)), .val (.int (1 : Int32)), .val (.int (1 : Int32)), .val (.int (1 : Int32)), .val (.int (1 : Int32)), .val (.int (1 : Int32))] [])) _
    refine XS.iload X268.here hx rfl (hb hby at_225) rfl ?_
    show Steps p.tables e below (T268.setTop (mkF m 227 #[.val (.int vp), .val (.int vq), .val (.int vr), .val (.int vs), .val (.int vt), .val (.int va), .val (.int vb), .val (.int vc), .val (.int vy), .val (.int vx), .val (.ref b242), .val (.int (1 : Int32)), .val (.int (1 : Int32)), .val (.int (0 : Int32)), .val (.int (1 : Int32)), .val (.int (1 : Int32)), .val (.int (1 : Int32)), .val (.int (1 : Int32)), .val (.int (1 : Int32))] [(.int (1 : Int32))])) _
    refine XS.ifNo X268.here hx rfl (hb hby at_227) rfl ((if0 _ _).trans (feq (by decide)).1) ?_
    show Steps p.tables e below (T268.setTop (mkF m 230 #[.val (.int vp), .val (.int vq), .val (.int vr), .val (.int vs), .val (.int vt), .val (.int va), .val (.int vb), .val (.int vc), .val (.int vy), .val (.int vx), .val (.ref b242), .val (.int (1 : Int32)), .val (.int (1 : Int32)), .val (.int (0 : Int32)), .val (.int (1 : Int32)), .val (.int (1 : Int32)), .val (.int (1 : Int32)), .val (.int (1 : Int32)), .val (.int (1 : Int32))] [])) _
    refine XS.iload X268.here hx rfl (hb hby at_230) rfl ?_
    show Steps p.tables e below (T268.setTop (mkF m 232 #[.val (.int vp), .val (.int vq), .val (.int vr), .val (.int vs), .val (.int vt), .val (.int va), .val (.int vb), .val (.int vc), .val (.int vy), .val (.int vx), .val (.ref b242), .val (.int (1 : Int32)), .val (.int (1 : Int32)), .val (.int (0 : Int32)), .val (.int (1 : Int32)), .val (.int (1 : Int32)), .val (.int (1 : Int32)), .val (.int (1 : Int32)), .val (.int (1 : Int32))] [(.int (1 : Int32))])) _
    refine XS.ifNo X268.here hx rfl (hb hby at_232) rfl ((if0 _ _).trans (feq (by decide)).1) ?_
    show Steps p.tables e below (T268.setTop (mkF m 235 #[.val (.int vp), .val (.int vq), .val (.int vr), .val (.int vs), .val (.int vt), .val (.int va), .val (.int vb), .val (.int vc), .val (.int vy), .val (.int vx), .val (.ref b242), .val (.int (1 : Int32)), .val (.int (1 : Int32)), .val (.int (0 : Int32)), .val (.int (1 : Int32)), .val (.int (1 : Int32)), .val (.int (1 : Int32)), .val (.int (1 : Int32)), .val (.int (1 : Int32))] [])) _
    refine XS.iload X268.here hx rfl (hb hby at_235) rfl ?_
    show Steps p.tables e below (T268.setTop (mkF m 237 #[.val (.int vp), .val (.int vq), .val (.int vr), .val (.int vs), .val (.int vt), .val (.int va), .val (.int vb), .val (.int vc), .val (.int vy), .val (.int vx), .val (.ref b242), .val (.int (1 : Int32)), .val (.int (1 : Int32)), .val (.int (0 : Int32)), .val (.int (1 : Int32)), .val (.int (1 : Int32)), .val (.int (1 : Int32)), .val (.int (1 : Int32)), .val (.int (1 : Int32))] [(.int (1 : Int32))])) _
    refine XS.ifNo X268.here hx rfl (hb hby at_237) rfl ((if0 _ _).trans (feq (by decide)).1) ?_
    show Steps p.tables e below (T268.setTop (mkF m 240 #[.val (.int vp), .val (.int vq), .val (.int vr), .val (.int vs), .val (.int vt), .val (.int va), .val (.int vb), .val (.int vc), .val (.int vy), .val (.int vx), .val (.ref b242), .val (.int (1 : Int32)), .val (.int (1 : Int32)), .val (.int (0 : Int32)), .val (.int (1 : Int32)), .val (.int (1 : Int32)), .val (.int (1 : Int32)), .val (.int (1 : Int32)), .val (.int (1 : Int32))] [])) _
    refine XS.iload X268.here hx rfl (hb hby at_240) rfl ?_
    show Steps p.tables e below (T268.setTop (mkF m 242 #[.val (.int vp), .val (.int vq), .val (.int vr), .val (.int vs), .val (.int vt), .val (.int va), .val (.int vb), .val (.int vc), .val (.int vy), .val (.int vx), .val (.ref b242), .val (.int (1 : Int32)), .val (.int (1 : Int32)), .val (.int (0 : Int32)), .val (.int (1 : Int32)), .val (.int (1 : Int32)), .val (.int (1 : Int32)), .val (.int (1 : Int32)), .val (.int (1 : Int32))] [(.int (1 : Int32))])) _
    refine XS.ifNo X268.here hx rfl (hb hby at_242) rfl ((if0 _ _).trans (feq (by decide)).1) ?_
    show Steps p.tables e below (T268.setTop (mkF m 245 #[.val (.int vp), .val (.int vq), .val (.int vr), .val (.int vs), .val (.int vt), .val (.int va), .val (.int vb), .val (.int vc), .val (.int vy), .val (.int vx), .val (.ref b242), .val (.int (1 : Int32)), .val (.int (1 : Int32)), .val (.int (0 : Int32)), .val (.int (1 : Int32)), .val (.int (1 : Int32)), .val (.int (1 : Int32)), .val (.int (1 : Int32)), .val (.int (1 : Int32))] [])) _
    refine XS.iload X268.here hx rfl (hb hby at_245) rfl ?_
    show Steps p.tables e below (T268.setTop (mkF m 247 #[.val (.int vp), .val (.int vq), .val (.int vr), .val (.int vs), .val (.int vt), .val (.int va), .val (.int vb), .val (.int vc), .val (.int vy), .val (.int vx), .val (.ref b242), .val (.int (1 : Int32)), .val (.int (1 : Int32)), .val (.int (0 : Int32)), .val (.int (1 : Int32)), .val (.int (1 : Int32)), .val (.int (1 : Int32)), .val (.int (1 : Int32)), .val (.int (1 : Int32))] [(.int (1 : Int32))])) _
    refine XS.ifNo X268.here hx rfl (hb hby at_247) rfl ((if0 _ _).trans (feq (by decide)).1) ?_
    show Steps p.tables e below (T268.setTop (mkF m 250 #[.val (.int vp), .val (.int vq), .val (.int vr), .val (.int vs), .val (.int vt), .val (.int va), .val (.int vb), .val (.int vc), .val (.int vy), .val (.int vx), .val (.ref b242), .val (.int (1 : Int32)), .val (.int (1 : Int32)), .val (.int (0 : Int32)), .val (.int (1 : Int32)), .val (.int (1 : Int32)), .val (.int (1 : Int32)), .val (.int (1 : Int32)), .val (.int (1 : Int32))] [])) _
    refine XS.iconst X268.here hx rfl (hb hby at_250) ?_
    show Steps p.tables e below (T268.setTop (mkF m 251 #[.val (.int vp), .val (.int vq), .val (.int vr), .val (.int vs), .val (.int vt), .val (.int va), .val (.int vb), .val (.int vc), .val (.int vy), .val (.int vx), .val (.ref b242), .val (.int (1 : Int32)), .val (.int (1 : Int32)), .val (.int (0 : Int32)), .val (.int (1 : Int32)), .val (.int (1 : Int32)), .val (.int (1 : Int32)), .val (.int (1 : Int32)), .val (.int (1 : Int32))] [(.int (1 : Int32))])) _
    refine XS.goto X268.here hx rfl (pc0 := 251) (pc' := 255) rfl (hb hby at_251) (by decide) (by decide) ?_
    show Steps p.tables e below (T268.setTop (mkF m 255 #[.val (.int vp), .val (.int vq), .val (.int vr), .val (.int vs), .val (.int vt), .val (.int va), .val (.int vb), .val (.int vc), .val (.int vy), .val (.int vx), .val (.ref b242), .val (.int (1 : Int32)), .val (.int (1 : Int32)), .val (.int (0 : Int32)), .val (.int (1 : Int32)), .val (.int (1 : Int32)), .val (.int (1 : Int32)), .val (.int (1 : Int32)), .val (.int (1 : Int32))] [(.int (1 : Int32))])) _
    exact retN X268 hx (t := .boolean) Bd.returns (by simp) (hb hby at_255) hr
  · show QL n0 _ T268.heap _
    rw [e268]
    exact ⟨rfl, N268⟩
set_option maxRecDepth 65536 in
set_option maxHeartbeats 40000000 in
theorem rm0_100 (l : Launch) (Z : State) (a0 : Array Value) (hw : ∀ d ∈ tables_1, d.before a0 Z = true) (ws : List Jvm.Cond) (vp vq vr vs vt : Int32) (va vb vc vy vx : Int32) (em : Addr) (h0 : Heap) (n0 : Nat) (Z0 : n0 ≤ h0.size) (qa : ((vp &&& (2147483647 : Int32)) % (1001 : Int32)) = va) (qb : ((vq &&& (2147483647 : Int32)) % ((1001 : Int32) - va)) = vb) (qc : (vr &&& (2047 : Int32)) = vc) (qy : (vt &&& (2047 : Int32)) = vy) (qx : (vs &&& (2047 : Int32)) = vx) (hnz : (1001 : Int32) - va ≠ 0) (Od0 : Old Z n0 h0) (Se : Sta Z Z.heap "java/util/Optional" "EMPTY" "Ljava/util/Optional;" (.ref em)) (Ee : Exa Z Z.heap em "java/util/Optional") (Fe : Fld Z Z.heap em "java/util/Optional" "value" "Ljava/lang/Object;" .null) (hA : ¬ ((1000 : Int32) < (0 : Int32) + va)) (hB : ¬ ((1000 : Int32) < va + vb)) (eA : (0 : Int32) + va = va) (eB : va + vb - vb = va) (eC : va + vc - vc = va) (eY : va + vy - vy = va) (eZ : va - va = 0) (eX : (0 : Int32) + vx = vx) (hc105 : ¬ ((1000 : Int32) < (va + vc))) (hc155 : (1000 : Int32) < (va + vy)) (hc207 : (1000 : Int32) < vx) :
    MetFree l x (head1 (Jvm.Cond.code x code maxLocals ret :: ws) room_1) (fun zA zU => zA = #[(.int vp), (.int vq), (.int vr), (.int vs), (.int vt)] ∧ Z.Warmed39 zU.vm ∧ zU.heap = h0) (fun _ _ _ _ _ => True) (fun _ zU zO zW => ∃ zV zL, zO = .returned zV ∧ QL n0 zV zW.heap zL ∧ ReturnedEndW zU zO zW zL room_1.cells room_1.slots) := by
  refine MetFree.of_bodySF (plainFor_of_name pn_XmlNestingLeavePinLaw) hisR ?_
  intro p e s m args below meth c s₁ Bd hml0 hP hK
  obtain ⟨rfl, hZ, hh⟩ := hP
  have hx := Bd.exec
  have hby := Bd.bytes
  have hml : c.maxLocals = 19 := hml0
  have hown : s.vm.findClass "com/example/caddis/caddis/XmlNestingLeavePinLaw" = some m.cls := findClass_of_methodNamed Bd.named
  have hnm := (name_of_methodNamed Bd.named Bd.method).1
  have X0 : Stand p l e room_1 s m #[(.int vp), (.int vq), (.int vr), (.int vs), (.int vt)] below meth c s₁ [] 0 0 := Stand.of_body Bd
  have e0 : s₁.heap = h0 := by rw [← hh, Bd.state]; rfl
  have N0 := Fr.nil n0
  have pre0 : ∀ zt, Steps p.tables e below (s₁.setTop (mkF m 0 #[.val (.int vp), .val (.int vq), .val (.int vr), .val (.int vs), .val (.int vt), .unset, .unset, .unset, .unset, .unset, .unset, .unset, .unset, .unset, .unset, .unset, .unset, .unset, .unset] [])) zt → Steps p.tables e below (s₁.setTop (entryFrame m #[(.int vp), (.int vq), (.int vr), (.int vs), (.int vt)] maxLocals)) zt := fun zt zk => castTop (ef_0_IIIII m vp vq vr vs vt) zk
  obtain ⟨T269, h269, X269, e269, E269, A269, D269, -, st269⟩ := newO X0 hx hZ hown (hw _ (List.mem_of_getElem? (i := 1) rfl)) (hw _ (List.mem_of_getElem? (i := 2) rfl)) (hw _ (List.mem_of_getElem? (i := 3) rfl)) e0 (g := (mkF m 45 #[.val (.int vp), .val (.int vq), .val (.int vr), .val (.int vs), .val (.int vt), .val (.int va), .val (.int vb), .val (.int vc), .val (.int vy), .val (.int vx), .unset, .unset, .unset, .unset, .unset, .unset, .unset, .unset, .unset] [])) rfl (hb hby at_45) (by decide) (by decide)
  obtain ⟨b269, g269⟩ : ∃ z, z = h0.size := ⟨_, rfl⟩
  rw [← g269] at A269 D269 st269
  have gz269 : n0 ≤ b269 := Nat.le_trans Z0 (Nat.le_of_eq g269.symm)
  have Z269 := Nat.le_trans Z0 E269.1
  have Od269 := Od0.ext E269
  have F269_declared : Fld Z h269 b269 "com/example/caddis/caddis/XmlNesting" "declared" "[I" .null := D269 (Or.inr (hw _ (List.mem_of_getElem? (i := 12) rfl))) (ty := (.array .int)) (by decide)
  have F269_depth : Fld Z h269 b269 "com/example/caddis/caddis/XmlNesting" "depth" "I" (.int (0 : Int32)) := D269 (Or.inl (hw _ (List.mem_of_getElem? (i := 19) rfl))) (ty := .int) (by decide)
  have F269_declarations : Fld Z h269 b269 "com/example/caddis/caddis/XmlNesting" "declarations" "I" (.int (0 : Int32)) := D269 (Or.inl (hw _ (List.mem_of_getElem? (i := 21) rfl))) (ty := .int) (by decide)
  obtain ⟨_, _, ⟨T270, L270, k270, n270⟩, -, X270, ⟨Lc270, hQ270, l270, y270, z270⟩, st270⟩ := X269.specialBack hx (y := (⟨"com/example/caddis/caddis/XmlNesting", "<init>", "()V"⟩ : MethodName)) rfl hown (mvT hZ (hw _ (List.mem_of_getElem? (i := 4) rfl))) (mvT hZ (hw _ (List.mem_of_getElem? (i := 5) rfl))) (mvT hZ (hw _ (List.mem_of_getElem? (i := 6) rfl))) (by decide) (backOf (W := 1) (rini l Z a0 hw [] b269 h269 n0 Z269 A269 F269_declared F269_depth F269_declarations gz269) hZ (hw _ (List.mem_of_getElem? (i := 6) rfl)) (hw _ (List.mem_of_getElem? (i := 3) rfl)) (by decide) (by decide)) (g := (mkF m 49 #[.val (.int vp), .val (.int vq), .val (.int vr), .val (.int vs), .val (.int vt), .val (.int va), .val (.int vb), .val (.int vc), .val (.int vy), .val (.int vx), .unset, .unset, .unset, .unset, .unset, .unset, .unset, .unset, .unset] [(.ref b269), (.ref b269)])) rfl (by rw [hml]; rfl) (Steps.refl _) (a := b269) (argsL := []) (rest := [(.ref b269)]) (lenOf pd_4 rfl) rfl (by show 2 * 0 + _ ≤ _; exact Nat.le_of_eq rfl) (hb hby at_49) (fun _ _ => ⟨rfl, e269, (by decide : 1 + 1 ≤ _), (by decide : 3 + 1000 ≤ _)⟩)
  dsimp only [Pt.U, Pt.locs, Pt.cells, Pt.slots] at X270 l270 y270 z270 st270 hQ270
  subst l270 y270 z270
  obtain ⟨ar270, rfl, Nq270, Kq270, G270_0, G270_1, G270_2, G270_3, G270_4, ga270, na270⟩ := hQ270
  have N270 := Fr.app N0 Nq270
  have Z270 := Nat.le_trans Z269 Kq270.1
  have Od270 := Od269.keep Kq270 (allS gz269 all0)
  obtain ⟨cq271, kq271, q271a, q271b, q271c⟩ := isOf hZ rfl G270_0
  obtain ⟨_, _, ⟨T271, L271, k271, n271⟩, -, X271, ⟨Lc271, hQ271, l271, y271, z271⟩, st271⟩ := X270.virtualBack hx (y := (⟨"com/example/caddis/caddis/XmlNesting", "enter", "(I)Ljava/util/Optional;"⟩ : MethodName)) (z := (⟨"com/example/caddis/caddis/XmlNesting", "enter", "(I)Ljava/util/Optional;"⟩ : MethodName)) hown (mvT hZ (hw _ (List.mem_of_getElem? (i := 13) rfl))) (mvT hZ (hw _ (List.mem_of_getElem? (i := 14) rfl))) (notFace_of_selects (args := #[]) (mvT hZ (hw _ (List.mem_of_getElem? (i := 16) rfl)))) (mvT hZ (hw _ (List.mem_of_getElem? (i := 16) rfl))) (mvT hZ (hw _ (List.mem_of_getElem? (i := 15) rfl))) (by decide) (backOf (W := 0) (ren0 l Z a0 hw [] b269 ar270 em (0 : Int32) va (fun _ => (0 : Int32)) T270.heap n0 Z270 G270_0 G270_1 G270_2 G270_3 G270_4 gz269 ga270 na270 (Se.ext Od270.2) hA) hZ (hw _ (List.mem_of_getElem? (i := 17) rfl)) (hw _ (List.mem_of_getElem? (i := 3) rfl)) (by decide) (by decide)) q271a q271c (g := (mkF m 58 #[.val (.int vp), .val (.int vq), .val (.int vr), .val (.int vs), .val (.int vt), .val (.int va), .val (.int vb), .val (.int vc), .val (.int vy), .val (.int vx), .val (.ref b269), .unset, .unset, .unset, .unset, .unset, .unset, .unset, .unset] [(.int va), (.ref b269)])) rfl (by rw [hml]; rfl) (Steps.refl _) (argsL := [(.int va)]) (rest := []) (lenOf pd_5 rfl) rfl (by show 2 * 0 + _ ≤ _; exact Nat.le_of_eq rfl) (hb hby at_58) (fun _ _ => ⟨rfl, rfl, (by decide : 2 + 0 ≤ _), (by decide : 1003 + 0 ≤ _)⟩)
  dsimp only [Pt.U, Pt.locs, Pt.cells, Pt.slots] at X271 l271 y271 z271 st271 hQ271
  subst l271 y271 z271
  obtain ⟨rfl, Nq271, Kq271, G271_0, G271_1, G271_2, G271_3, G271_4⟩ := hQ271
  have N271 := Fr.app N270 Nq271
  have Z271 := Nat.le_trans Z270 Kq271.1
  have Od271 := Od270.keep Kq271 (allS gz269 (allS ga270 all0))
  rw [eA] at G271_3
  obtain ⟨cq272, kq272, q272a, q272b, q272c⟩ := isOf hZ rfl (Ee.ext Od271.2)
  obtain ⟨_, _, ⟨T272, L272, k272, n272⟩, -, X272, ⟨Lc272, hQ272, l272, y272, z272⟩, st272⟩ := X271.virtualBack hx (y := (⟨"java/util/Optional", "isEmpty", "()Z"⟩ : MethodName)) (z := (⟨"java/util/Optional", "isEmpty", "()Z"⟩ : MethodName)) hown (mvT hZ (hw _ (List.mem_of_getElem? (i := 27) rfl))) (mvT hZ (hw _ (List.mem_of_getElem? (i := 28) rfl))) (notFace_of_selects (args := #[]) (mvT hZ (hw _ (List.mem_of_getElem? (i := 30) rfl)))) (mvT hZ (hw _ (List.mem_of_getElem? (i := 30) rfl))) (mvT hZ (hw _ (List.mem_of_getElem? (i := 29) rfl))) (by decide) (backOf (W := 0) (ris1 l Z a0 hw [] em T271.heap n0 Z271 (Fe.ext Od271.2)) hZ (hw _ (List.mem_of_getElem? (i := 31) rfl)) (hw _ (List.mem_of_getElem? (i := 24) rfl)) (by decide) (by decide)) q272a q272c (g := (mkF m 61 #[.val (.int vp), .val (.int vq), .val (.int vr), .val (.int vs), .val (.int vt), .val (.int va), .val (.int vb), .val (.int vc), .val (.int vy), .val (.int vx), .val (.ref b269), .unset, .unset, .unset, .unset, .unset, .unset, .unset, .unset] [(.ref em)])) rfl (by rw [hml]; rfl) (Steps.refl _) (argsL := []) (rest := []) (lenOf pd_6 rfl) rfl (by show 2 * 0 + _ ≤ _; exact Nat.le_of_eq rfl) (hb hby at_61) (fun _ _ => ⟨rfl, rfl, (by decide : 2 + 0 ≤ _), (by decide : 1003 + 0 ≤ _)⟩)
  dsimp only [Pt.U, Pt.locs, Pt.cells, Pt.slots] at X272 l272 y272 z272 st272 hQ272
  subst l272 y272 z272
  obtain ⟨rfl, Nq272, e272⟩ := hQ272
  have N272 := Fr.app N271 Nq272
  obtain ⟨cq273, kq273, q273a, q273b, q273c⟩ := isOf hZ e272 G271_0
  obtain ⟨_, _, ⟨T273, L273, k273, n273⟩, -, X273, ⟨Lc273, hQ273, l273, y273, z273⟩, st273⟩ := X272.virtualBack hx (y := (⟨"com/example/caddis/caddis/XmlNesting", "enter", "(I)Ljava/util/Optional;"⟩ : MethodName)) (z := (⟨"com/example/caddis/caddis/XmlNesting", "enter", "(I)Ljava/util/Optional;"⟩ : MethodName)) hown (mvT hZ (hw _ (List.mem_of_getElem? (i := 13) rfl))) (mvT hZ (hw _ (List.mem_of_getElem? (i := 14) rfl))) (notFace_of_selects (args := #[]) (mvT hZ (hw _ (List.mem_of_getElem? (i := 16) rfl)))) (mvT hZ (hw _ (List.mem_of_getElem? (i := 16) rfl))) (mvT hZ (hw _ (List.mem_of_getElem? (i := 15) rfl))) (by decide) (backOf (W := 0) (ren1 l Z a0 hw [] b269 ar270 em va vb (upd (fun _ => (0 : Int32)) 0 va) T271.heap n0 Z271 G271_0 G271_1 G271_2 G271_3 G271_4 gz269 ga270 na270 (Se.ext Od271.2) hB) hZ (hw _ (List.mem_of_getElem? (i := 17) rfl)) (hw _ (List.mem_of_getElem? (i := 3) rfl)) (by decide) (by decide)) q273a q273c (g := (mkF m 70 #[.val (.int vp), .val (.int vq), .val (.int vr), .val (.int vs), .val (.int vt), .val (.int va), .val (.int vb), .val (.int vc), .val (.int vy), .val (.int vx), .val (.ref b269), .val (.int (1 : Int32)), .unset, .unset, .unset, .unset, .unset, .unset, .unset] [(.int vb), (.ref b269)])) rfl (by rw [hml]; rfl) (Steps.refl _) (argsL := [(.int vb)]) (rest := []) (lenOf pd_5 rfl) rfl (by show 2 * 0 + _ ≤ _; exact Nat.le_of_eq rfl) (hb hby at_70) (fun _ _ => ⟨rfl, e272, (by decide : 2 + 0 ≤ _), (by decide : 1003 + 0 ≤ _)⟩)
  dsimp only [Pt.U, Pt.locs, Pt.cells, Pt.slots] at X273 l273 y273 z273 st273 hQ273
  subst l273 y273 z273
  obtain ⟨rfl, Nq273, Kq273, G273_0, G273_1, G273_2, G273_3, G273_4⟩ := hQ273
  have N273 := Fr.app N272 Nq273
  have Z273 := Nat.le_trans Z271 Kq273.1
  have Od273 := Od271.keep Kq273 (allS gz269 (allS ga270 all0))
  obtain ⟨cq274, kq274, q274a, q274b, q274c⟩ := isOf hZ rfl (Ee.ext Od273.2)
  obtain ⟨_, _, ⟨T274, L274, k274, n274⟩, -, X274, ⟨Lc274, hQ274, l274, y274, z274⟩, st274⟩ := X273.virtualBack hx (y := (⟨"java/util/Optional", "isEmpty", "()Z"⟩ : MethodName)) (z := (⟨"java/util/Optional", "isEmpty", "()Z"⟩ : MethodName)) hown (mvT hZ (hw _ (List.mem_of_getElem? (i := 27) rfl))) (mvT hZ (hw _ (List.mem_of_getElem? (i := 28) rfl))) (notFace_of_selects (args := #[]) (mvT hZ (hw _ (List.mem_of_getElem? (i := 30) rfl)))) (mvT hZ (hw _ (List.mem_of_getElem? (i := 30) rfl))) (mvT hZ (hw _ (List.mem_of_getElem? (i := 29) rfl))) (by decide) (backOf (W := 0) (ris1 l Z a0 hw [] em T273.heap n0 Z273 (Fe.ext Od273.2)) hZ (hw _ (List.mem_of_getElem? (i := 31) rfl)) (hw _ (List.mem_of_getElem? (i := 24) rfl)) (by decide) (by decide)) q274a q274c (g := (mkF m 73 #[.val (.int vp), .val (.int vq), .val (.int vr), .val (.int vs), .val (.int vt), .val (.int va), .val (.int vb), .val (.int vc), .val (.int vy), .val (.int vx), .val (.ref b269), .val (.int (1 : Int32)), .unset, .unset, .unset, .unset, .unset, .unset, .unset] [(.ref em)])) rfl (by rw [hml]; rfl) (Steps.refl _) (argsL := []) (rest := []) (lenOf pd_6 rfl) rfl (by show 2 * 0 + _ ≤ _; exact Nat.le_of_eq rfl) (hb hby at_73) (fun _ _ => ⟨rfl, rfl, (by decide : 2 + 0 ≤ _), (by decide : 1003 + 0 ≤ _)⟩)
  dsimp only [Pt.U, Pt.locs, Pt.cells, Pt.slots] at X274 l274 y274 z274 st274 hQ274
  subst l274 y274 z274
  obtain ⟨rfl, Nq274, e274⟩ := hQ274
  have N274 := Fr.app N273 Nq274
  obtain ⟨cq275, kq275, q275a, q275b, q275c⟩ := isOf hZ e274 G273_0
  obtain ⟨_, _, ⟨T275, L275, k275, n275⟩, -, X275, ⟨Lc275, hQ275, l275, y275, z275⟩, st275⟩ := X274.virtualBack hx (y := (⟨"com/example/caddis/caddis/XmlNesting", "leave", "()V"⟩ : MethodName)) (z := (⟨"com/example/caddis/caddis/XmlNesting", "leave", "()V"⟩ : MethodName)) hown (mvT hZ (hw _ (List.mem_of_getElem? (i := 34) rfl))) (mvT hZ (hw _ (List.mem_of_getElem? (i := 35) rfl))) (notFace_of_selects (args := #[]) (mvT hZ (hw _ (List.mem_of_getElem? (i := 37) rfl)))) (mvT hZ (hw _ (List.mem_of_getElem? (i := 37) rfl))) (mvT hZ (hw _ (List.mem_of_getElem? (i := 36) rfl))) (by decide) (backOf (W := 0) (rlv2 l Z a0 hw [] b269 ar270 (va + vb) vb (upd (upd (fun _ => (0 : Int32)) 0 va) 1 vb) T273.heap n0 Z273 G273_0 G273_1 G273_2 G273_3 G273_4 gz269 na270 rfl) hZ (hw _ (List.mem_of_getElem? (i := 38) rfl)) (hw _ (List.mem_of_getElem? (i := 3) rfl)) (by decide) (by decide)) q275a q275c (g := (mkF m 80 #[.val (.int vp), .val (.int vq), .val (.int vr), .val (.int vs), .val (.int vt), .val (.int va), .val (.int vb), .val (.int vc), .val (.int vy), .val (.int vx), .val (.ref b269), .val (.int (1 : Int32)), .val (.int (1 : Int32)), .unset, .unset, .unset, .unset, .unset, .unset] [(.ref b269)])) rfl (by rw [hml]; rfl) (Steps.refl _) (argsL := []) (rest := []) (lenOf pd_4 rfl) rfl (by show 2 * 0 + _ ≤ _; exact Nat.le_of_eq rfl) (hb hby at_80) (fun _ _ => ⟨rfl, e274, (by decide : 2 + 0 ≤ _), (by decide : 1003 + 0 ≤ _)⟩)
  dsimp only [Pt.U, Pt.locs, Pt.cells, Pt.slots] at X275 l275 y275 z275 st275 hQ275
  subst l275 y275 z275
  obtain ⟨rfl, Nq275, Kq275, G275_0, G275_1, G275_2, G275_3⟩ := hQ275
  have N275 := Fr.app N274 Nq275
  have zA276 := G273_4.keep Kq275 (ninS (Ne.symm na270) nin0)
  have Z275 := Nat.le_trans Z273 Kq275.1
  have Od275 := Od273.keep Kq275 (allS gz269 all0)
  rw [eB] at G275_3
  obtain ⟨cq277, kq277, q277a, q277b, q277c⟩ := isOf hZ rfl G275_0
  obtain ⟨_, _, ⟨T277, L277, k277, n277⟩, -, X277, ⟨Lc277, hQ277, l277, y277, z277⟩, st277⟩ := X275.virtualBack hx (y := (⟨"com/example/caddis/caddis/XmlNesting", "enter", "(I)Ljava/util/Optional;"⟩ : MethodName)) (z := (⟨"com/example/caddis/caddis/XmlNesting", "enter", "(I)Ljava/util/Optional;"⟩ : MethodName)) hown (mvT hZ (hw _ (List.mem_of_getElem? (i := 13) rfl))) (mvT hZ (hw _ (List.mem_of_getElem? (i := 14) rfl))) (notFace_of_selects (args := #[]) (mvT hZ (hw _ (List.mem_of_getElem? (i := 16) rfl)))) (mvT hZ (hw _ (List.mem_of_getElem? (i := 16) rfl))) (mvT hZ (hw _ (List.mem_of_getElem? (i := 15) rfl))) (by decide) (backOf (W := 0) (ren1 l Z a0 hw [] b269 ar270 em va vc (upd (upd (fun _ => (0 : Int32)) 0 va) 1 vb) T275.heap n0 Z275 G275_0 G275_1 G275_2 G275_3 zA276 gz269 ga270 na270 (Se.ext Od275.2) hc105) hZ (hw _ (List.mem_of_getElem? (i := 17) rfl)) (hw _ (List.mem_of_getElem? (i := 3) rfl)) (by decide) (by decide)) q277a q277c (g := (mkF m 87 #[.val (.int vp), .val (.int vq), .val (.int vr), .val (.int vs), .val (.int vt), .val (.int va), .val (.int vb), .val (.int vc), .val (.int vy), .val (.int vx), .val (.ref b269), .val (.int (1 : Int32)), .val (.int (1 : Int32)), .unset, .unset, .unset, .unset, .unset, .unset] [(.int vc), (.ref b269)])) rfl (by rw [hml]; rfl) (Steps.refl _) (argsL := [(.int vc)]) (rest := []) (lenOf pd_5 rfl) rfl (by show 2 * 0 + _ ≤ _; exact Nat.le_of_eq rfl) (hb hby at_87) (fun _ _ => ⟨rfl, rfl, (by decide : 2 + 0 ≤ _), (by decide : 1003 + 0 ≤ _)⟩)
  dsimp only [Pt.U, Pt.locs, Pt.cells, Pt.slots] at X277 l277 y277 z277 st277 hQ277
  subst l277 y277 z277
  obtain ⟨rfl, Nq277, Kq277, G277_0, G277_1, G277_2, G277_3, G277_4⟩ := hQ277
  have N277 := Fr.app N275 Nq277
  have Z277 := Nat.le_trans Z275 Kq277.1
  have Od277 := Od275.keep Kq277 (allS gz269 (allS ga270 all0))
  obtain ⟨cq278, kq278, q278a, q278b, q278c⟩ := isOf hZ rfl (Ee.ext Od277.2)
  obtain ⟨_, _, ⟨T278, L278, k278, n278⟩, -, X278, ⟨Lc278, hQ278, l278, y278, z278⟩, st278⟩ := X277.virtualBack hx (y := (⟨"java/util/Optional", "isEmpty", "()Z"⟩ : MethodName)) (z := (⟨"java/util/Optional", "isEmpty", "()Z"⟩ : MethodName)) hown (mvT hZ (hw _ (List.mem_of_getElem? (i := 27) rfl))) (mvT hZ (hw _ (List.mem_of_getElem? (i := 28) rfl))) (notFace_of_selects (args := #[]) (mvT hZ (hw _ (List.mem_of_getElem? (i := 30) rfl)))) (mvT hZ (hw _ (List.mem_of_getElem? (i := 30) rfl))) (mvT hZ (hw _ (List.mem_of_getElem? (i := 29) rfl))) (by decide) (backOf (W := 0) (ris1 l Z a0 hw [] em T277.heap n0 Z277 (Fe.ext Od277.2)) hZ (hw _ (List.mem_of_getElem? (i := 31) rfl)) (hw _ (List.mem_of_getElem? (i := 24) rfl)) (by decide) (by decide)) q278a q278c (g := (mkF m 90 #[.val (.int vp), .val (.int vq), .val (.int vr), .val (.int vs), .val (.int vt), .val (.int va), .val (.int vb), .val (.int vc), .val (.int vy), .val (.int vx), .val (.ref b269), .val (.int (1 : Int32)), .val (.int (1 : Int32)), .unset, .unset, .unset, .unset, .unset, .unset] [(.ref em)])) rfl (by rw [hml]; rfl) (Steps.refl _) (argsL := []) (rest := []) (lenOf pd_6 rfl) rfl (by show 2 * 0 + _ ≤ _; exact Nat.le_of_eq rfl) (hb hby at_90) (fun _ _ => ⟨rfl, rfl, (by decide : 2 + 0 ≤ _), (by decide : 1003 + 0 ≤ _)⟩)
  dsimp only [Pt.U, Pt.locs, Pt.cells, Pt.slots] at X278 l278 y278 z278 st278 hQ278
  subst l278 y278 z278
  obtain ⟨rfl, Nq278, e278⟩ := hQ278
  have N278 := Fr.app N277 Nq278
  obtain ⟨cq279, kq279, q279a, q279b, q279c⟩ := isOf hZ e278 G277_0
  obtain ⟨_, _, ⟨T279, L279, k279, n279⟩, -, X279, ⟨Lc279, hQ279, l279, y279, z279⟩, st279⟩ := X278.virtualBack hx (y := (⟨"com/example/caddis/caddis/XmlNesting", "leave", "()V"⟩ : MethodName)) (z := (⟨"com/example/caddis/caddis/XmlNesting", "leave", "()V"⟩ : MethodName)) hown (mvT hZ (hw _ (List.mem_of_getElem? (i := 34) rfl))) (mvT hZ (hw _ (List.mem_of_getElem? (i := 35) rfl))) (notFace_of_selects (args := #[]) (mvT hZ (hw _ (List.mem_of_getElem? (i := 37) rfl)))) (mvT hZ (hw _ (List.mem_of_getElem? (i := 37) rfl))) (mvT hZ (hw _ (List.mem_of_getElem? (i := 36) rfl))) (by decide) (backOf (W := 0) (rlv2 l Z a0 hw [] b269 ar270 (va + vc) vc (upd (upd (upd (fun _ => (0 : Int32)) 0 va) 1 vb) 1 vc) T277.heap n0 Z277 G277_0 G277_1 G277_2 G277_3 G277_4 gz269 na270 rfl) hZ (hw _ (List.mem_of_getElem? (i := 38) rfl)) (hw _ (List.mem_of_getElem? (i := 3) rfl)) (by decide) (by decide)) q279a q279c (g := (mkF m 130 #[.val (.int vp), .val (.int vq), .val (.int vr), .val (.int vs), .val (.int vt), .val (.int va), .val (.int vb), .val (.int vc), .val (.int vy), .val (.int vx), .val (.ref b269), .val (.int (1 : Int32)), .val (.int (1 : Int32)), .val (.int (1 : Int32)), .val (.int (1 : Int32)), .unset, .unset, .unset, .unset] [(.ref b269)])) rfl (by rw [hml]; rfl) (Steps.refl _) (argsL := []) (rest := []) (lenOf pd_4 rfl) rfl (by show 2 * 0 + _ ≤ _; exact Nat.le_of_eq rfl) (hb hby at_130) (fun _ _ => ⟨rfl, e278, (by decide : 2 + 0 ≤ _), (by decide : 1003 + 0 ≤ _)⟩)
  dsimp only [Pt.U, Pt.locs, Pt.cells, Pt.slots] at X279 l279 y279 z279 st279 hQ279
  subst l279 y279 z279
  obtain ⟨rfl, Nq279, Kq279, G279_0, G279_1, G279_2, G279_3⟩ := hQ279
  have N279 := Fr.app N278 Nq279
  have zA280 := G277_4.keep Kq279 (ninS (Ne.symm na270) nin0)
  have Z279 := Nat.le_trans Z277 Kq279.1
  have Od279 := Od277.keep Kq279 (allS gz269 all0)
  rw [eC] at G279_3
  obtain ⟨cq281, kq281, q281a, q281b, q281c⟩ := isOf hZ rfl G279_0
  obtain ⟨_, _, ⟨T281, L281, k281, n281⟩, -, X281, hS281, hG281, ⟨Lc281, hQ281, l281, y281, z281⟩, st281⟩ := X279.virtualBackS hx (y := (⟨"com/example/caddis/caddis/XmlNesting", "enter", "(I)Ljava/util/Optional;"⟩ : MethodName)) (z := (⟨"com/example/caddis/caddis/XmlNesting", "enter", "(I)Ljava/util/Optional;"⟩ : MethodName)) hown (mvT hZ (hw _ (List.mem_of_getElem? (i := 13) rfl))) (mvT hZ (hw _ (List.mem_of_getElem? (i := 14) rfl))) (notFace_of_selects (args := #[]) (mvT hZ (hw _ (List.mem_of_getElem? (i := 16) rfl)))) (mvT hZ (hw _ (List.mem_of_getElem? (i := 16) rfl))) (mvT hZ (hw _ (List.mem_of_getElem? (i := 15) rfl))) (by decide) (backOfS (W := 0) (rex1 l Z a0 hw [] b269 ar270 em va vy (upd (upd (upd (fun _ => (0 : Int32)) 0 va) 1 vb) 1 vc) T279.heap n0 Z279 G279_0 G279_1 G279_2 G279_3 zA280 gz269 ga270 na270 (Se.ext Od279.2) hc155) hZ (hw _ (List.mem_of_getElem? (i := 17) rfl)) (hw _ (List.mem_of_getElem? (i := 3) rfl)) (by decide) (by decide)) q281a q281c (g := (mkF m 137 #[.val (.int vp), .val (.int vq), .val (.int vr), .val (.int vs), .val (.int vt), .val (.int va), .val (.int vb), .val (.int vc), .val (.int vy), .val (.int vx), .val (.ref b269), .val (.int (1 : Int32)), .val (.int (1 : Int32)), .val (.int (1 : Int32)), .val (.int (1 : Int32)), .unset, .unset, .unset, .unset] [(.int vy), (.ref b269)])) rfl (by rw [hml]; rfl) (Steps.refl _) (argsL := [(.int vy)]) (rest := []) (lenOf pd_5 rfl) rfl (by show 2 * 0 + _ ≤ _; exact Nat.le_of_eq rfl) (hb hby at_137) (fun _ _ => ⟨rfl, rfl, (by decide : 2 + 3 ≤ _), (by decide : 1003 + 253 ≤ _)⟩)
  dsimp only [Pt.U, Pt.locs, Pt.cells, Pt.slots] at X281 hS281 hG281 l281 y281 z281 st281 hQ281
  subst l281 y281 z281
  obtain ⟨o281, y281, rfl, Nq281, Kq281, go281, G281_1, G281_2⟩ := hQ281
  have N281 := Fr.app N279 Nq281
  have zF282 := G279_1.keep Kq281 nin0
  have zF283 := G279_2.keep Kq281 nin0
  have zF284 := G279_3.keep Kq281 nin0
  have zE285 := G279_0.keep Kq281
  have zA286 := zA280.keep Kq281 nin0
  have Z281 := Nat.le_trans Z279 Kq281.1
  have Od281 := Od279.keep Kq281 all0
  have hZ281 : Z.Warmed39 (s.setVm T281.vm).vm := State.Warmed39.trans (t := s) hZ hS281.1
  have hown281 : (s.setVm T281.vm).vm.findClass "com/example/caddis/caddis/XmlNestingLeavePinLaw" = some m.cls := by rw [show (s.setVm T281.vm).vm = T281.vm from rfl, hS281.1.alike.findClass]; exact hown
  have sl281 : T281.heap.size ≤ T281.heap.size := Nat.le_refl _
  obtain ⟨cq287, kq287, q287a, q287b, q287c⟩ := isOf hZ281 rfl G281_1
  obtain ⟨_, _, ⟨T287, L287, k287, n287⟩, -, X287, ⟨Lc287, hQ287, l287, y287, z287⟩, st287⟩ := X281.virtualBack hx (y := (⟨"java/util/Optional", "isEmpty", "()Z"⟩ : MethodName)) (z := (⟨"java/util/Optional", "isEmpty", "()Z"⟩ : MethodName)) hown281 (mvT hZ281 (hw _ (List.mem_of_getElem? (i := 27) rfl))) (mvT hZ281 (hw _ (List.mem_of_getElem? (i := 28) rfl))) (notFace_of_selects (args := #[]) (mvT hZ281 (hw _ (List.mem_of_getElem? (i := 30) rfl)))) (mvT hZ281 (hw _ (List.mem_of_getElem? (i := 30) rfl))) (mvT hZ281 (hw _ (List.mem_of_getElem? (i := 29) rfl))) (by decide) (backOf (W := 0) (ris0 l Z a0 hw [] o281 y281 T281.heap n0 Z281 G281_2) hZ281 (hw _ (List.mem_of_getElem? (i := 31) rfl)) (hw _ (List.mem_of_getElem? (i := 24) rfl)) (by decide) (by decide)) q287a q287c (g := (mkF m 140 #[.val (.int vp), .val (.int vq), .val (.int vr), .val (.int vs), .val (.int vt), .val (.int va), .val (.int vb), .val (.int vc), .val (.int vy), .val (.int vx), .val (.ref b269), .val (.int (1 : Int32)), .val (.int (1 : Int32)), .val (.int (1 : Int32)), .val (.int (1 : Int32)), .unset, .unset, .unset, .unset] [(.ref o281)])) rfl (by rw [hml]; rfl) (Steps.refl _) (argsL := []) (rest := []) (lenOf pd_6 rfl) rfl (by show 2 * 0 + _ ≤ _; exact Nat.le_of_eq rfl) (hb hby at_140) (fun _ _ => ⟨rfl, rfl, (by decide : 5 + 0 ≤ _), (by decide : 1256 + 0 ≤ _)⟩)
  dsimp only [Pt.U, Pt.locs, Pt.cells, Pt.slots] at X287 l287 y287 z287 st287 hQ287
  subst l287 y287 z287
  obtain ⟨rfl, Nq287, e287⟩ := hQ287
  have N287 := Fr.app N281 Nq287
  obtain ⟨cq288, kq288, q288a, q288b, q288c⟩ := isOf hZ281 e287 zE285
  obtain ⟨_, _, ⟨T288, L288, k288, n288⟩, -, X288, ⟨Lc288, hQ288, l288, y288, z288⟩, st288⟩ := X287.virtualBack hx (y := (⟨"com/example/caddis/caddis/XmlNesting", "leave", "()V"⟩ : MethodName)) (z := (⟨"com/example/caddis/caddis/XmlNesting", "leave", "()V"⟩ : MethodName)) hown281 (mvT hZ281 (hw _ (List.mem_of_getElem? (i := 34) rfl))) (mvT hZ281 (hw _ (List.mem_of_getElem? (i := 35) rfl))) (notFace_of_selects (args := #[]) (mvT hZ281 (hw _ (List.mem_of_getElem? (i := 37) rfl)))) (mvT hZ281 (hw _ (List.mem_of_getElem? (i := 37) rfl))) (mvT hZ281 (hw _ (List.mem_of_getElem? (i := 36) rfl))) (by decide) (backOf (W := 0) (rlv1 l Z a0 hw [] b269 ar270 va va (upd (upd (upd (fun _ => (0 : Int32)) 0 va) 1 vb) 1 vc) T281.heap n0 Z281 zE285 zF282 zF283 zF284 zA286 gz269 na270 rfl) hZ281 (hw _ (List.mem_of_getElem? (i := 38) rfl)) (hw _ (List.mem_of_getElem? (i := 3) rfl)) (by decide) (by decide)) q288a q288c (g := (mkF m 185 #[.val (.int vp), .val (.int vq), .val (.int vr), .val (.int vs), .val (.int vt), .val (.int va), .val (.int vb), .val (.int vc), .val (.int vy), .val (.int vx), .val (.ref b269), .val (.int (1 : Int32)), .val (.int (1 : Int32)), .val (.int (1 : Int32)), .val (.int (1 : Int32)), .val (.int (0 : Int32)), .val (.int (1 : Int32)), .unset, .unset] [(.ref b269)])) rfl (by rw [hml]; rfl) (Steps.refl _) (argsL := []) (rest := []) (lenOf pd_4 rfl) rfl (by show 2 * 0 + _ ≤ _; exact Nat.le_of_eq rfl) (hb hby at_185) (fun _ _ => ⟨rfl, e287, (by decide : 5 + 0 ≤ _), (by decide : 1256 + 0 ≤ _)⟩)
  dsimp only [Pt.U, Pt.locs, Pt.cells, Pt.slots] at X288 l288 y288 z288 st288 hQ288
  subst l288 y288 z288
  obtain ⟨rfl, Nq288, Kq288, G288_0, G288_1, G288_2, G288_3⟩ := hQ288
  have N288 := Fr.app N287 Nq288
  have zE289 := G281_1.keep Kq288
  have zA290 := zA286.keep Kq288 (ninS (Ne.symm na270) nin0)
  have Z288 := Nat.le_trans Z281 Kq288.1
  have Od288 := Od281.keep Kq288 (allS gz269 all0)
  have sl288 := Nat.le_trans sl281 Kq288.1
  rw [eZ] at G288_3
  obtain ⟨cq291, kq291, q291a, q291b, q291c⟩ := isOf hZ281 rfl G288_0
  obtain ⟨_, _, ⟨T291, L291, k291, n291⟩, -, X291, hS291, hG291, ⟨Lc291, hQ291, l291, y291, z291⟩, st291⟩ := X288.virtualBackS hx (y := (⟨"com/example/caddis/caddis/XmlNesting", "enter", "(I)Ljava/util/Optional;"⟩ : MethodName)) (z := (⟨"com/example/caddis/caddis/XmlNesting", "enter", "(I)Ljava/util/Optional;"⟩ : MethodName)) hown281 (mvT hZ281 (hw _ (List.mem_of_getElem? (i := 13) rfl))) (mvT hZ281 (hw _ (List.mem_of_getElem? (i := 14) rfl))) (notFace_of_selects (args := #[]) (mvT hZ281 (hw _ (List.mem_of_getElem? (i := 16) rfl)))) (mvT hZ281 (hw _ (List.mem_of_getElem? (i := 16) rfl))) (mvT hZ281 (hw _ (List.mem_of_getElem? (i := 15) rfl))) (by decide) (backOfS (W := 0) (rex0 l Z a0 hw [] b269 ar270 em (0 : Int32) vx (upd (upd (upd (fun _ => (0 : Int32)) 0 va) 1 vb) 1 vc) T288.heap n0 Z288 G288_0 G288_1 G288_2 G288_3 zA290 gz269 ga270 na270 (Se.ext Od288.2) (by rw [eX]; exact hc207)) hZ281 (hw _ (List.mem_of_getElem? (i := 17) rfl)) (hw _ (List.mem_of_getElem? (i := 3) rfl)) (by decide) (by decide)) q291a q291c (g := (mkF m 192 #[.val (.int vp), .val (.int vq), .val (.int vr), .val (.int vs), .val (.int vt), .val (.int va), .val (.int vb), .val (.int vc), .val (.int vy), .val (.int vx), .val (.ref b269), .val (.int (1 : Int32)), .val (.int (1 : Int32)), .val (.int (1 : Int32)), .val (.int (1 : Int32)), .val (.int (0 : Int32)), .val (.int (1 : Int32)), .unset, .unset] [(.int vx), (.ref b269)])) rfl (by rw [hml]; rfl) (Steps.refl _) (argsL := [(.int vx)]) (rest := []) (lenOf pd_5 rfl) rfl (by show 2 * 0 + _ ≤ _; exact Nat.le_of_eq rfl) (hb hby at_192) (fun _ _ => ⟨rfl, rfl, (by decide : 5 + 3 ≤ _), (by decide : 1256 + 253 ≤ _)⟩)
  dsimp only [Pt.U, Pt.locs, Pt.cells, Pt.slots] at X291 hS291 hG291 l291 y291 z291 st291 hQ291
  subst l291 y291 z291
  obtain ⟨o291, y291, rfl, Nq291, Kq291, go291, G291_1, G291_2⟩ := hQ291
  have N291 := Fr.app N288 Nq291
  have zF292 := G288_1.keep Kq291 nin0
  have zF293 := G288_2.keep Kq291 nin0
  have zF294 := G288_3.keep Kq291 nin0
  have zE295 := zE289.keep Kq291
  have zE296 := G288_0.keep Kq291
  have zA297 := zA290.keep Kq291 nin0
  have Z291 := Nat.le_trans Z288 Kq291.1
  have Od291 := Od288.keep Kq291 all0
  have hZ291 : Z.Warmed39 (s.setVm T291.vm).vm := State.Warmed39.trans (t := (s.setVm T281.vm)) hZ281 hS291.1
  have hown291 : (s.setVm T291.vm).vm.findClass "com/example/caddis/caddis/XmlNestingLeavePinLaw" = some m.cls := by rw [show (s.setVm T291.vm).vm = T291.vm from rfl, hS291.1.alike.findClass]; exact hown281
  obtain ⟨X291, hS291⟩ := Stand.againW X291 hS281 hS291 (Nat.le_trans sl288 Kq291.1)
  have sl291 : T291.heap.size ≤ T291.heap.size := Nat.le_refl _
  obtain ⟨cq298, kq298, q298a, q298b, q298c⟩ := isOf hZ291 rfl G291_1
  obtain ⟨_, _, ⟨T298, L298, k298, n298⟩, -, X298, ⟨Lc298, hQ298, l298, y298, z298⟩, st298⟩ := X291.virtualBack hx (y := (⟨"java/util/Optional", "isEmpty", "()Z"⟩ : MethodName)) (z := (⟨"java/util/Optional", "isEmpty", "()Z"⟩ : MethodName)) hown291 (mvT hZ291 (hw _ (List.mem_of_getElem? (i := 27) rfl))) (mvT hZ291 (hw _ (List.mem_of_getElem? (i := 28) rfl))) (notFace_of_selects (args := #[]) (mvT hZ291 (hw _ (List.mem_of_getElem? (i := 30) rfl)))) (mvT hZ291 (hw _ (List.mem_of_getElem? (i := 30) rfl))) (mvT hZ291 (hw _ (List.mem_of_getElem? (i := 29) rfl))) (by decide) (backOf (W := 0) (ris0 l Z a0 hw [] o291 y291 T291.heap n0 Z291 G291_2) hZ291 (hw _ (List.mem_of_getElem? (i := 31) rfl)) (hw _ (List.mem_of_getElem? (i := 24) rfl)) (by decide) (by decide)) q298a q298c (g := (mkF m 195 #[.val (.int vp), .val (.int vq), .val (.int vr), .val (.int vs), .val (.int vt), .val (.int va), .val (.int vb), .val (.int vc), .val (.int vy), .val (.int vx), .val (.ref b269), .val (.int (1 : Int32)), .val (.int (1 : Int32)), .val (.int (1 : Int32)), .val (.int (1 : Int32)), .val (.int (0 : Int32)), .val (.int (1 : Int32)), .unset, .unset] [(.ref o291)])) rfl (by rw [hml]; rfl) (Steps.refl _) (argsL := []) (rest := []) (lenOf pd_6 rfl) rfl (by show 2 * 0 + _ ≤ _; exact Nat.le_of_eq rfl) (hb hby at_195) (fun _ _ => ⟨rfl, rfl, (by decide : 8 + 0 ≤ _), (by decide : 1509 + 0 ≤ _)⟩)
  dsimp only [Pt.U, Pt.locs, Pt.cells, Pt.slots] at X298 l298 y298 z298 st298 hQ298
  subst l298 y298 z298
  obtain ⟨rfl, Nq298, e298⟩ := hQ298
  have N298 := Fr.app N291 Nq298
  obtain ⟨fs, hr, hrun, hended, hend⟩ := X298.leaveW hS291 (by rw [e298]; exact sl291) (v := some (.int (1 : Int32))) (fun h => by rw [Bd.returns] at h; cases h)
  refine ⟨_, _, pre0 _ ?_, hrun, hended, _, _, rfl, ?_, hend.1, hend.2.1, hend.2.2.1, hend.2.2.2.mono (by decide) (by decide)⟩
  · show Steps p.tables e below (s₁.setTop (mkF m 0 #[.val (.int vp), .val (.int vq), .val (.int vr), .val (.int vs), .val (.int vt), .unset, .unset, .unset, .unset, .unset, .unset, .unset, .unset, .unset, .unset, .unset, .unset, .unset, .unset] [])) _
    refine pA vp vq vr vs vt va vb vc vy vx X0 hx hZ hw hby hown qa qb qc qy qx hnz _ ?_
    show Steps p.tables e below (s₁.setTop (mkF m 45 #[.val (.int vp), .val (.int vq), .val (.int vr), .val (.int vs), .val (.int vt), .val (.int va), .val (.int vb), .val (.int vc), .val (.int vy), .val (.int vx), .unset, .unset, .unset, .unset, .unset, .unset, .unset, .unset, .unset] [])) _
    refine st269 _ ?_
    show Steps p.tables e below (T269.setTop (mkF m 48 #[.val (.int vp), .val (.int vq), .val (.int vr), .val (.int vs), .val (.int vt), .val (.int va), .val (.int vb), .val (.int vc), .val (.int vy), .val (.int vx), .unset, .unset, .unset, .unset, .unset, .unset, .unset, .unset, .unset] [(.ref b269)])) _
    refine XS.dup X269.here hx rfl (hb hby at_48) rfl rfl ?_
    show Steps p.tables e below (T269.setTop (mkF m 49 #[.val (.int vp), .val (.int vq), .val (.int vr), .val (.int vs), .val (.int vt), .val (.int va), .val (.int vb), .val (.int vc), .val (.int vy), .val (.int vx), .unset, .unset, .unset, .unset, .unset, .unset, .unset, .unset, .unset] [(.ref b269), (.ref b269)])) _
    refine st270.trans ?_
    show Steps p.tables e below (T270.setTop (mkF m 52 #[.val (.int vp), .val (.int vq), .val (.int vr), .val (.int vs), .val (.int vt), .val (.int va), .val (.int vb), .val (.int vc), .val (.int vy), .val (.int vx), .unset, .unset, .unset, .unset, .unset, .unset, .unset, .unset, .unset] [(.ref b269)])) _
    refine XS.astore X270.here hx rfl (hb hby at_52) rfl rfl (l' := #[.val (.int vp), .val (.int vq), .val (.int vr), .val (.int vs), .val (.int vt), .val (.int va), .val (.int vb), .val (.int vc), .val (.int vy), .val (.int vx), .val (.ref b269), .unset, .unset, .unset, .unset, .unset, .unset, .unset, .unset]) rfl ?_
    show Steps p.tables e below (T270.setTop (mkF m 54 #[.val (.int vp), .val (.int vq), .val (.int vr), .val (.int vs), .val (.int vt), .val (.int va), .val (.int vb), .val (.int vc), .val (.int vy), .val (.int vx), .val (.ref b269), .unset, .unset, .unset, .unset, .unset, .unset, .unset, .unset] [])) _
    refine XS.aload X270.here hx rfl (hb hby at_54) rfl rfl ?_
    show Steps p.tables e below (T270.setTop (mkF m 56 #[.val (.int vp), .val (.int vq), .val (.int vr), .val (.int vs), .val (.int vt), .val (.int va), .val (.int vb), .val (.int vc), .val (.int vy), .val (.int vx), .val (.ref b269), .unset, .unset, .unset, .unset, .unset, .unset, .unset, .unset] [(.ref b269)])) _
    refine XS.iload X270.here hx rfl (hb hby at_56) rfl ?_
    show Steps p.tables e below (T270.setTop (mkF m 58 #[.val (.int vp), .val (.int vq), .val (.int vr), .val (.int vs), .val (.int vt), .val (.int va), .val (.int vb), .val (.int vc), .val (.int vy), .val (.int vx), .val (.ref b269), .unset, .unset, .unset, .unset, .unset, .unset, .unset, .unset] [(.int va), (.ref b269)])) _
    refine st271.trans ?_
    show Steps p.tables e below (T271.setTop (mkF m 61 #[.val (.int vp), .val (.int vq), .val (.int vr), .val (.int vs), .val (.int vt), .val (.int va), .val (.int vb), .val (.int vc), .val (.int vy), .val (.int vx), .val (.ref b269), .unset, .unset, .unset, .unset, .unset, .unset, .unset, .unset] [(.ref em)])) _
    refine st272.trans ?_
    show Steps p.tables e below (T272.setTop (mkF m 64 #[.val (.int vp), .val (.int vq), .val (.int vr), .val (.int vs), .val (.int vt), .val (.int va), .val (.int vb), .val (.int vc), .val (.int vy), .val (.int vx), .val (.ref b269), .unset, .unset, .unset, .unset, .unset, .unset, .unset, .unset] [(.int (1 : Int32))])) _
    refine XS.istore X272.here hx rfl (hb hby at_64) rfl (l' := #[.val (.int vp), .val (.int vq), .val (.int vr), .val (.int vs), .val (.int vt), .val (.int va), .val (.int vb), .val (.int vc), .val (.int vy), .val (.int vx), .val (.ref b269), .val (.int (1 : Int32)), .unset, .unset, .unset, .unset, .unset, .unset, .unset]) rfl ?_
    show Steps p.tables e below (T272.setTop (mkF m 66 #[.val (.int vp), .val (.int vq), .val (.int vr), .val (.int vs), .val (.int vt), .val (.int va), .val (.int vb), .val (.int vc), .val (.int vy), .val (.int vx), .val (.ref b269), .val (.int (1 : Int32)), .unset, .unset, .unset, .unset, .unset, .unset, .unset] [])) _
    refine XS.aload X272.here hx rfl (hb hby at_66) rfl rfl ?_
    show Steps p.tables e below (T272.setTop (mkF m 68 #[.val (.int vp), .val (.int vq), .val (.int vr), .val (.int vs), .val (.int vt), .val (.int va), .val (.int vb), .val (.int vc), .val (.int vy), .val (.int vx), .val (.ref b269), .val (.int (1 : Int32)), .unset, .unset, .unset, .unset, .unset, .unset, .unset] [(.ref b269)])) _
    refine XS.iload X272.here hx rfl (hb hby at_68) rfl ?_
    show Steps p.tables e below (T272.setTop (mkF m 70 #[.val (.int vp), .val (.int vq), .val (.int vr), .val (.int vs), .val (.int vt), .val (.int va), .val (.int vb), .val (.int vc), .val (.int vy), .val (.int vx), .val (.ref b269), .val (.int (1 : Int32)), .unset, .unset, .unset, .unset, .unset, .unset, .unset] [(.int vb), (.ref b269)])) _
    refine st273.trans ?_
    show Steps p.tables e below (T273.setTop (mkF m 73 #[.val (.int vp), .val (.int vq), .val (.int vr), .val (.int vs), .val (.int vt), .val (.int va), .val (.int vb), .val (.int vc), .val (.int vy), .val (.int vx), .val (.ref b269), .val (.int (1 : Int32)), .unset, .unset, .unset, .unset, .unset, .unset, .unset] [(.ref em)])) _
    refine st274.trans ?_
    show Steps p.tables e below (T274.setTop (mkF m 76 #[.val (.int vp), .val (.int vq), .val (.int vr), .val (.int vs), .val (.int vt), .val (.int va), .val (.int vb), .val (.int vc), .val (.int vy), .val (.int vx), .val (.ref b269), .val (.int (1 : Int32)), .unset, .unset, .unset, .unset, .unset, .unset, .unset] [(.int (1 : Int32))])) _
    refine XS.istore X274.here hx rfl (hb hby at_76) rfl (l' := #[.val (.int vp), .val (.int vq), .val (.int vr), .val (.int vs), .val (.int vt), .val (.int va), .val (.int vb), .val (.int vc), .val (.int vy), .val (.int vx), .val (.ref b269), .val (.int (1 : Int32)), .val (.int (1 : Int32)), .unset, .unset, .unset, .unset, .unset, .unset]) rfl ?_
    show Steps p.tables e below (T274.setTop (mkF m 78 #[.val (.int vp), .val (.int vq), .val (.int vr), .val (.int vs), .val (.int vt), .val (.int va), .val (.int vb), .val (.int vc), .val (.int vy), .val (.int vx), .val (.ref b269), .val (.int (1 : Int32)), .val (.int (1 : Int32)), .unset, .unset, .unset, .unset, .unset, .unset] [])) _
    refine XS.aload X274.here hx rfl (hb hby at_78) rfl rfl ?_
    show Steps p.tables e below (T274.setTop (mkF m 80 #[.val (.int vp), .val (.int vq), .val (.int vr), .val (.int vs), .val (.int vt), .val (.int va), .val (.int vb), .val (.int vc), .val (.int vy), .val (.int vx), .val (.ref b269), .val (.int (1 : Int32)), .val (.int (1 : Int32)), .unset, .unset, .unset, .unset, .unset, .unset] [(.ref b269)])) _
    refine st275.trans ?_
    show Steps p.tables e below (T275.setTop (mkF m 83 #[.val (.int vp), .val (.int vq), .val (.int vr), .val (.int vs), .val (.int vt), .val (.int va), .val (.int vb), .val (.int vc), .val (.int vy), .val (.int vx), .val (.ref b269), .val (.int (1 : Int32)), .val (.int (1 : Int32)), .unset, .unset, .unset, .unset, .unset, .unset] [])) _
    refine XS.aload X275.here hx rfl (hb hby at_83) rfl rfl ?_
    show Steps p.tables e below (T275.setTop (mkF m 85 #[.val (.int vp), .val (.int vq), .val (.int vr), .val (.int vs), .val (.int vt), .val (.int va), .val (.int vb), .val (.int vc), .val (.int vy), .val (.int vx), .val (.ref b269), .val (.int (1 : Int32)), .val (.int (1 : Int32)), .unset, .unset, .unset, .unset, .unset, .unset] [(.ref b269)])) _
    refine XS.iload X275.here hx rfl (hb hby at_85) rfl ?_
    show Steps p.tables e below (T275.setTop (mkF m 87 #[.val (.int vp), .val (.int vq), .val (.int vr), .val (.int vs), .val (.int vt), .val (.int va), .val (.int vb), .val (.int vc), .val (.int vy), .val (.int vx), .val (.ref b269), .val (.int (1 : Int32)), .val (.int (1 : Int32)), .unset, .unset, .unset, .unset, .unset, .unset] [(.int vc), (.ref b269)])) _
    refine st277.trans ?_
    show Steps p.tables e below (T277.setTop (mkF m 90 #[.val (.int vp), .val (.int vq), .val (.int vr), .val (.int vs), .val (.int vt), .val (.int va), .val (.int vb), .val (.int vc), .val (.int vy), .val (.int vx), .val (.ref b269), .val (.int (1 : Int32)), .val (.int (1 : Int32)), .unset, .unset, .unset, .unset, .unset, .unset] [(.ref em)])) _
    refine st278.trans ?_
    show Steps p.tables e below (T278.setTop (mkF m 93 #[.val (.int vp), .val (.int vq), .val (.int vr), .val (.int vs), .val (.int vt), .val (.int va), .val (.int vb), .val (.int vc), .val (.int vy), .val (.int vx), .val (.ref b269), .val (.int (1 : Int32)), .val (.int (1 : Int32)), .unset, .unset, .unset, .unset, .unset, .unset] [(.int (1 : Int32))])) _
    refine XS.istore X278.here hx rfl (hb hby at_93) rfl (l' := #[.val (.int vp), .val (.int vq), .val (.int vr), .val (.int vs), .val (.int vt), .val (.int va), .val (.int vb), .val (.int vc), .val (.int vy), .val (.int vx), .val (.ref b269), .val (.int (1 : Int32)), .val (.int (1 : Int32)), .val (.int (1 : Int32)), .unset, .unset, .unset, .unset, .unset]) rfl ?_
    show Steps p.tables e below (T278.setTop (mkF m 95 #[.val (.int vp), .val (.int vq), .val (.int vr), .val (.int vs), .val (.int vt), .val (.int va), .val (.int vb), .val (.int vc), .val (.int vy), .val (.int vx), .val (.ref b269), .val (.int (1 : Int32)), .val (.int (1 : Int32)), .val (.int (1 : Int32)), .unset, .unset, .unset, .unset, .unset] [])) _
    refine XS.iload X278.here hx rfl (hb hby at_95) rfl ?_
    show Steps p.tables e below (T278.setTop (mkF m 97 #[.val (.int vp), .val (.int vq), .val (.int vr), .val (.int vs), .val (.int vt), .val (.int va), .val (.int vb), .val (.int vc), .val (.int vy), .val (.int vx), .val (.ref b269), .val (.int (1 : Int32)), .val (.int (1 : Int32)), .val (.int (1 : Int32)), .unset, .unset, .unset, .unset, .unset] [(.int (1 : Int32))])) _
    refine XS.iload X278.here hx rfl (hb hby at_97) rfl ?_
    show Steps p.tables e below (T278.setTop (mkF m 99 #[.val (.int vp), .val (.int vq), .val (.int vr), .val (.int vs), .val (.int vt), .val (.int va), .val (.int vb), .val (.int vc), .val (.int vy), .val (.int vx), .val (.ref b269), .val (.int (1 : Int32)), .val (.int (1 : Int32)), .val (.int (1 : Int32)), .unset, .unset, .unset, .unset, .unset] [(.int va), (.int (1 : Int32))])) _
    refine XS.iload X278.here hx rfl (hb hby at_99) rfl ?_
    show Steps p.tables e below (T278.setTop (mkF m 101 #[.val (.int vp), .val (.int vq), .val (.int vr), .val (.int vs), .val (.int vt), .val (.int va), .val (.int vb), .val (.int vc), .val (.int vy), .val (.int vx), .val (.ref b269), .val (.int (1 : Int32)), .val (.int (1 : Int32)), .val (.int (1 : Int32)), .unset, .unset, .unset, .unset, .unset] [(.int vc), (.int va), (.int (1 : Int32))])) _
    refine XS.iadd X278.here hx rfl (hb hby at_101) rfl ?_
    show Steps p.tables e below (T278.setTop (mkF m 102 #[.val (.int vp), .val (.int vq), .val (.int vr), .val (.int vs), .val (.int vt), .val (.int va), .val (.int vb), .val (.int vc), .val (.int vy), .val (.int vx), .val (.ref b269), .val (.int (1 : Int32)), .val (.int (1 : Int32)), .val (.int (1 : Int32)), .unset, .unset, .unset, .unset, .unset] [(.int (va + vc)), (.int (1 : Int32))])) _
    refine XS.sipush X278.here hx rfl (hb hby at_102) ?_
    show Steps p.tables e below (T278.setTop (mkF m 105 #[.val (.int vp), .val (.int vq), .val (.int vr), .val (.int vs), .val (.int vt), .val (.int va), .val (.int vb), .val (.int vc), .val (.int vy), .val (.int vx), .val (.ref b269), .val (.int (1 : Int32)), .val (.int (1 : Int32)), .val (.int (1 : Int32)), .unset, .unset, .unset, .unset, .unset] [(.int (1000 : Int32)), (.int (va + vc)), (.int (1 : Int32))])) _
    refine XS.icmpNo X278.here hx rfl (hb hby at_105) rfl (flt hc105).2.2.1 ?_
    show Steps p.tables e below (T278.setTop (mkF m 108 #[.val (.int vp), .val (.int vq), .val (.int vr), .val (.int vs), .val (.int vt), .val (.int va), .val (.int vb), .val (.int vc), .val (.int vy), .val (.int vx), .val (.ref b269), .val (.int (1 : Int32)), .val (.int (1 : Int32)), .val (.int (1 : Int32)), .unset, .unset, .unset, .unset, .unset] [(.int (1 : Int32))])) _
    refine XS.iconst X278.here hx rfl (hb hby at_108) ?_
    show Steps p.tables e below (T278.setTop (mkF m 109 #[.val (.int vp), .val (.int vq), .val (.int vr), .val (.int vs), .val (.int vt), .val (.int va), .val (.int vb), .val (.int vc), .val (.int vy), .val (.int vx), .val (.ref b269), .val (.int (1 : Int32)), .val (.int (1 : Int32)), .val (.int (1 : Int32)), .unset, .unset, .unset, .unset, .unset] [(.int (1 : Int32)), (.int (1 : Int32))])) _
    refine XS.goto X278.here hx rfl (pc0 := 109) (pc' := 113) rfl (hb hby at_109) (by decide) (by decide) ?_
    show Steps p.tables e below (T278.setTop (mkF m 113 #[.val (.int vp), .val (.int vq), .val (.int vr), .val (.int vs), .val (.int vt), .val (.int va), .val (.int vb), .val (.int vc), .val (.int vy), .val (.int vx), .val (.ref b269), .val (.int (1 : Int32)), .val (.int (1 : Int32)), .val (.int (1 : Int32)), .unset, .unset, .unset, .unset, .unset] [(.int (1 : Int32)), (.int (1 : Int32))])) _
    refine XS.icmpNo X278.here hx rfl (hb hby at_113) rfl (teq (by decide)).2 ?_
    show Steps p.tables e below (T278.setTop (mkF m 116 #[.val (.int vp), .val (.int vq), .val (.int vr), .val (.int vs), .val (.int vt), .val (.int va), .val (.int vb), .val (.int vc), .val (.int vy), .val (.int vx), .val (.ref b269), .val (.int (1 : Int32)), .val (.int (1 : Int32)), .val (.int (1 : Int32)), .unset, .unset, .unset, .unset, .unset] [])) _
    refine XS.iconst X278.here hx rfl (hb hby at_116) ?_
    show Steps p.tables e below (T278.setTop (mkF m 117 #[.val (.int vp), .val (.int vq), .val (.int vr), .val (.int vs), .val (.int vt), .val (.int va), .val (.int vb), .val (.int vc), .val (.int vy), .val (.int vx), .val (.ref b269), .val (.int (1 : Int32)), .val (.int (1 : Int32)), .val (.int (1 : Int32)), .unset, .unset, .unset, .unset, .unset] [(.int (1 : Int32))])) _
    refine XS.goto X278.here hx rfl (pc0 := 117) (pc' := 121) rfl (hb hby at_117) (by decide) (by decide) ?_
    show Steps p.tables e below (T278.setTop (mkF m 121 #[.val (.int vp), .val (.int vq), .val (.int vr), .val (.int vs), .val (.int vt), .val (.int va), .val (.int vb), .val (.int vc), .val (.int vy), .val (.int vx), .val (.ref b269), .val (.int (1 : Int32)), .val (.int (1 : Int32)), .val (.int (1 : Int32)), .unset, .unset, .unset, .unset, .unset] [(.int (1 : Int32))])) _
    refine XS.istore X278.here hx rfl (hb hby at_121) rfl (l' := #[.val (.int vp), .val (.int vq), .val (.int vr), .val (.int vs), .val (.int vt), .val (.int va), .val (.int vb), .val (.int vc), .val (.int vy), .val (.int vx), .val (.ref b269), .val (.int (1 : Int32)), .val (.int (1 : Int32)), .val (.int (1 : Int32)), .val (.int (1 : Int32)), .unset, .unset, .unset, .unset]) rfl ?_
    show Steps p.tables e below (T278.setTop (mkF m 123 #[.val (.int vp), .val (.int vq), .val (.int vr), .val (.int vs), .val (.int vt), .val (.int va), .val (.int vb), .val (.int vc), .val (.int vy), .val (.int vx), .val (.ref b269), .val (.int (1 : Int32)), .val (.int (1 : Int32)), .val (.int (1 : Int32)), .val (.int (1 : Int32)), .unset, .unset, .unset, .unset] [])) _
    refine XS.iload X278.here hx rfl (hb hby at_123) rfl ?_
    show Steps p.tables e below (T278.setTop (mkF m 125 #[.val (.int vp), .val (.int vq), .val (.int vr), .val (.int vs), .val (.int vt), .val (.int va), .val (.int vb), .val (.int vc), .val (.int vy), .val (.int vx), .val (.ref b269), .val (.int (1 : Int32)), .val (.int (1 : Int32)), .val (.int (1 : Int32)), .val (.int (1 : Int32)), .unset, .unset, .unset, .unset] [(.int (1 : Int32))])) _
    refine XS.ifNo X278.here hx rfl (hb hby at_125) rfl ((if0 _ _).trans (feq (by decide)).1) ?_
    show Steps p.tables e below (T278.setTop (mkF m 128 #[.val (.int vp), .val (.int vq), .val (.int vr), .val (.int vs), .val (.int vt), .val (.int va), .val (.int vb), .val (.int vc), .val (.int vy), .val (.int vx), .val (.ref b269), .val (.int (1 : Int32)), .val (.int (1 : Int32)), .val (.int (1 : Int32)), .val (.int (1 : Int32)), .unset, .unset, .unset, .unset] [])) _
    refine XS.aload X278.here hx rfl (hb hby at_128) rfl rfl ?_
    show Steps p.tables e below (T278.setTop (mkF m 130 #[.val (.int vp), .val (.int vq), .val (.int vr), .val (.int vs), .val (.int vt), .val (.int va), .val (.int vb), .val (.int vc), .val (.int vy), .val (.int vx), .val (.ref b269), .val (.int (1 : Int32)), .val (.int (1 : Int32)), .val (.int (1 : Int32)), .val (.int (1 : Int32)), .unset, .unset, .unset, .unset] [(.ref b269)])) _
    refine st279.trans ?_
    show Steps p.tables e below (T279.setTop (mkF m 133 #[.val (.int vp), .val (.int vq), .val (.int vr), .val (.int vs), .val (.int vt), .val (.int va), .val (.int vb), .val (.int vc), .val (.int vy), .val (.int vx), .val (.ref b269), .val (.int (1 : Int32)), .val (.int (1 : Int32)), .val (.int (1 : Int32)), .val (.int (1 : Int32)), .unset, .unset, .unset, .unset] [])) _
    refine XS.aload X279.here hx rfl (hb hby at_133) rfl rfl ?_
    show Steps p.tables e below (T279.setTop (mkF m 135 #[.val (.int vp), .val (.int vq), .val (.int vr), .val (.int vs), .val (.int vt), .val (.int va), .val (.int vb), .val (.int vc), .val (.int vy), .val (.int vx), .val (.ref b269), .val (.int (1 : Int32)), .val (.int (1 : Int32)), .val (.int (1 : Int32)), .val (.int (1 : Int32)), .unset, .unset, .unset, .unset] [(.ref b269)])) _
    refine XS.iload X279.here hx rfl (hb hby at_135) rfl ?_
    show Steps p.tables e below (T279.setTop (mkF m 137 #[.val (.int vp), .val (.int vq), .val (.int vr), .val (.int vs), .val (.int vt), .val (.int va), .val (.int vb), .val (.int vc), .val (.int vy), .val (.int vx), .val (.ref b269), .val (.int (1 : Int32)), .val (.int (1 : Int32)), .val (.int (1 : Int32)), .val (.int (1 : Int32)), .unset, .unset, .unset, .unset] [(.int vy), (.ref b269)])) _
    refine st281.trans ?_
    show Steps p.tables e below (T281.setTop (mkF m 140 #[.val (.int vp), .val (.int vq), .val (.int vr), .val (.int vs), .val (.int vt), .val (.int va), .val (.int vb), .val (.int vc), .val (.int vy), .val (.int vx), .val (.ref b269), .val (.int (1 : Int32)), .val (.int (1 : Int32)), .val (.int (1 : Int32)), .val (.int (1 : Int32)), .unset, .unset, .unset, .unset] [(.ref o281)])) _
    refine st287.trans ?_
    show Steps p.tables e below (T287.setTop (mkF m 143 #[.val (.int vp), .val (.int vq), .val (.int vr), .val (.int vs), .val (.int vt), .val (.int va), .val (.int vb), .val (.int vc), .val (.int vy), .val (.int vx), .val (.ref b269), .val (.int (1 : Int32)), .val (.int (1 : Int32)), .val (.int (1 : Int32)), .val (.int (1 : Int32)), .unset, .unset, .unset, .unset] [(.int (0 : Int32))])) _
    refine XS.istore X287.here hx rfl (hb hby at_143) rfl (l' := #[.val (.int vp), .val (.int vq), .val (.int vr), .val (.int vs), .val (.int vt), .val (.int va), .val (.int vb), .val (.int vc), .val (.int vy), .val (.int vx), .val (.ref b269), .val (.int (1 : Int32)), .val (.int (1 : Int32)), .val (.int (1 : Int32)), .val (.int (1 : Int32)), .val (.int (0 : Int32)), .unset, .unset, .unset]) rfl ?_
    show Steps p.tables e below (T287.setTop (mkF m 145 #[.val (.int vp), .val (.int vq), .val (.int vr), .val (.int vs), .val (.int vt), .val (.int va), .val (.int vb), .val (.int vc), .val (.int vy), .val (.int vx), .val (.ref b269), .val (.int (1 : Int32)), .val (.int (1 : Int32)), .val (.int (1 : Int32)), .val (.int (1 : Int32)), .val (.int (0 : Int32)), .unset, .unset, .unset] [])) _
    refine XS.iload X287.here hx rfl (hb hby at_145) rfl ?_
    show Steps p.tables e below (T287.setTop (mkF m 147 #[.val (.int vp), .val (.int vq), .val (.int vr), .val (.int vs), .val (.int vt), .val (.int va), .val (.int vb), .val (.int vc), .val (.int vy), .val (.int vx), .val (.ref b269), .val (.int (1 : Int32)), .val (.int (1 : Int32)), .val (.int (1 : Int32)), .val (.int (1 : Int32)), .val (.int (0 : Int32)), .unset, .unset, .unset] [(.int (0 : Int32))])) _
    refine XS.iload X287.here hx rfl (hb hby at_147) rfl ?_
    show Steps p.tables e below (T287.setTop (mkF m 149 #[.val (.int vp), .val (.int vq), .val (.int vr), .val (.int vs), .val (.int vt), .val (.int va), .val (.int vb), .val (.int vc), .val (.int vy), .val (.int vx), .val (.ref b269), .val (.int (1 : Int32)), .val (.int (1 : Int32)), .val (.int (1 : Int32)), .val (.int (1 : Int32)), .val (.int (0 : Int32)), .unset, .unset, .unset] [(.int va), (.int (0 : Int32))])) _
    refine XS.iload X287.here hx rfl (hb hby at_149) rfl ?_
    show Steps p.tables e below (T287.setTop (mkF m 151 #[.val (.int vp), .val (.int vq), .val (.int vr), .val (.int vs), .val (.int vt), .val (.int va), .val (.int vb), .val (.int vc), .val (.int vy), .val (.int vx), .val (.ref b269), .val (.int (1 : Int32)), .val (.int (1 : Int32)), .val (.int (1 : Int32)), .val (.int (1 : Int32)), .val (.int (0 : Int32)), .unset, .unset, .unset] [(.int vy), (.int va), (.int (0 : Int32))])) _
    refine XS.iadd X287.here hx rfl (hb hby at_151) rfl ?_
    show Steps p.tables e below (T287.setTop (mkF m 152 #[.val (.int vp), .val (.int vq), .val (.int vr), .val (.int vs), .val (.int vt), .val (.int va), .val (.int vb), .val (.int vc), .val (.int vy), .val (.int vx), .val (.ref b269), .val (.int (1 : Int32)), .val (.int (1 : Int32)), .val (.int (1 : Int32)), .val (.int (1 : Int32)), .val (.int (0 : Int32)), .unset, .unset, .unset] [(.int (va + vy)), (.int (0 : Int32))])) _
    refine XS.sipush X287.here hx rfl (hb hby at_152) ?_
    show Steps p.tables e below (T287.setTop (mkF m 155 #[.val (.int vp), .val (.int vq), .val (.int vr), .val (.int vs), .val (.int vt), .val (.int va), .val (.int vb), .val (.int vc), .val (.int vy), .val (.int vx), .val (.ref b269), .val (.int (1 : Int32)), .val (.int (1 : Int32)), .val (.int (1 : Int32)), .val (.int (1 : Int32)), .val (.int (0 : Int32)), .unset, .unset, .unset] [(.int (1000 : Int32)), (.int (va + vy)), (.int (0 : Int32))])) _
    refine XS.icmpYes X287.here hx rfl (pc0 := 155) (pc' := 162) rfl (hb hby at_155) rfl (tlt hc155).2.2.1 (by decide) (by decide) ?_
    show Steps p.tables e below (T287.setTop (mkF m 162 #[.val (.int vp), .val (.int vq), .val (.int vr), .val (.int vs), .val (.int vt), .val (.int va), .val (.int vb), .val (.int vc), .val (.int vy), .val (.int vx), .val (.ref b269), .val (.int (1 : Int32)), .val (.int (1 : Int32)), .val (.int (1 : Int32)), .val (.int (1 : Int32)), .val (.int (0 : Int32)), .unset, .unset, .unset] [(.int (0 : Int32))])) _
    refine XS.iconst X287.here hx rfl (hb hby at_162) ?_
    show Steps p.tables e below (T287.setTop (mkF m 163 #[.val (.int vp), .val (.int vq), .val (.int vr), .val (.int vs), .val (.int vt), .val (.int va), .val (.int vb), .val (.int vc), .val (.int vy), .val (.int vx), .val (.ref b269), .val (.int (1 : Int32)), .val (.int (1 : Int32)), .val (.int (1 : Int32)), .val (.int (1 : Int32)), .val (.int (0 : Int32)), .unset, .unset, .unset] [(.int (0 : Int32)), (.int (0 : Int32))])) _
    refine XS.icmpNo X287.here hx rfl (hb hby at_163) rfl (teq (by decide)).2 ?_
    show Steps p.tables e below (T287.setTop (mkF m 166 #[.val (.int vp), .val (.int vq), .val (.int vr), .val (.int vs), .val (.int vt), .val (.int va), .val (.int vb), .val (.int vc), .val (.int vy), .val (.int vx), .val (.ref b269), .val (.int (1 : Int32)), .val (.int (1 : Int32)), .val (.int (1 : Int32)), .val (.int (1 : Int32)), .val (.int (0 : Int32)), .unset, .unset, .unset] [])) _
    refine XS.iconst X287.here hx rfl (hb hby at_166) ?_
    show Steps p.tables e below (T287.setTop (mkF m 167 #[.val (.int vp), .val (.int vq), .val (.int vr), .val (.int vs), .val (.int vt), .val (.int va), .val (.int vb), .val (.int vc), .val (.int vy), .val (.int vx), .val (.ref b269), .val (.int (1 : Int32)), .val (.int (1 : Int32)), .val (.int (1 : Int32)), .val (.int (1 : Int32)), .val (.int (0 : Int32)), .unset, .unset, .unset] [(.int (1 : Int32))])) _
    refine XS.goto X287.here hx rfl (pc0 := 167) (pc' := 171) rfl (hb hby at_167) (by decide) (by decide) ?_
    show Steps p.tables e below (T287.setTop (mkF m 171 #[.val (.int vp), .val (.int vq), .val (.int vr), .val (.int vs), .val (.int vt), .val (.int va), .val (.int vb), .val (.int vc), .val (.int vy), .val (.int vx), .val (.ref b269), .val (.int (1 : Int32)), .val (.int (1 : Int32)), .val (.int (1 : Int32)), .val (.int (1 : Int32)), .val (.int (0 : Int32)), .unset, .unset, .unset] [(.int (1 : Int32))])) _
    refine XS.istore X287.here hx rfl (hb hby at_171) rfl (l' := #[.val (.int vp), .val (.int vq), .val (.int vr), .val (.int vs), .val (.int vt), .val (.int va), .val (.int vb), .val (.int vc), .val (.int vy), .val (.int vx), .val (.ref b269), .val (.int (1 : Int32)), .val (.int (1 : Int32)), .val (.int (1 : Int32)), .val (.int (1 : Int32)), .val (.int (0 : Int32)), .val (.int (1 : Int32)), .unset, .unset]) rfl ?_
    show Steps p.tables e below (T287.setTop (mkF m 173 #[.val (.int vp), .val (.int vq), .val (.int vr), .val (.int vs), .val (.int vt), .val (.int va), .val (.int vb), .val (.int vc), .val (.int vy), .val (.int vx), .val (.ref b269), .val (.int (1 : Int32)), .val (.int (1 : Int32)), .val (.int (1 : Int32)), .val (.int (1 : Int32)), .val (.int (0 : Int32)), .val (.int (1 : Int32)), .unset, .unset] [])) _
    refine XS.iload X287.here hx rfl (hb hby at_173) rfl ?_
    show Steps p.tables e below (T287.setTop (mkF m 175 #[.val (.int vp), .val (.int vq), .val (.int vr), .val (.int vs), .val (.int vt), .val (.int va), .val (.int vb), .val (.int vc), .val (.int vy), .val (.int vx), .val (.ref b269), .val (.int (1 : Int32)), .val (.int (1 : Int32)), .val (.int (1 : Int32)), .val (.int (1 : Int32)), .val (.int (0 : Int32)), .val (.int (1 : Int32)), .unset, .unset] [(.int (0 : Int32))])) _
    refine XS.ifYes X287.here hx rfl (pc0 := 175) (pc' := 183) rfl (hb hby at_175) rfl ((if0 _ _).trans (teq (by decide)).1) (by decide) (by decide) ?_
    show Steps p.tables e below (T287.setTop (mkF m 183 #[.val (.int vp), .val (.int vq), .val (.int vr), .val (.int vs), .val (.int vt), .val (.int va), .val (.int vb), .val (.int vc), .val (.int vy), .val (.int vx), .val (.ref b269), .val (.int (1 : Int32)), .val (.int (1 : Int32)), .val (.int (1 : Int32)), .val (.int (1 : Int32)), .val (.int (0 : Int32)), .val (.int (1 : Int32)), .unset, .unset] [])) _
    refine XS.aload X287.here hx rfl (hb hby at_183) rfl rfl ?_
    show Steps p.tables e below (T287.setTop (mkF m 185 #[.val (.int vp), .val (.int vq), .val (.int vr), .val (.int vs), .val (.int vt), .val (.int va), .val (.int vb), .val (.int vc), .val (.int vy), .val (.int vx), .val (.ref b269), .val (.int (1 : Int32)), .val (.int (1 : Int32)), .val (.int (1 : Int32)), .val (.int (1 : Int32)), .val (.int (0 : Int32)), .val (.int (1 : Int32)), .unset, .unset] [(.ref b269)])) _
    refine st288.trans ?_
    show Steps p.tables e below (T288.setTop (mkF m 188 #[.val (.int vp), .val (.int vq), .val (.int vr), .val (.int vs), .val (.int vt), .val (.int va), .val (.int vb), .val (.int vc), .val (.int vy), .val (.int vx), .val (.ref b269), .val (.int (1 : Int32)), .val (.int (1 : Int32)), .val (.int (1 : Int32)), .val (.int (1 : Int32)), .val (.int (0 : Int32)), .val (.int (1 : Int32)), .unset, .unset] [])) _
    refine XS.aload X288.here hx rfl (hb hby at_188) rfl rfl ?_
    show Steps p.tables e below (T288.setTop (mkF m 190 #[.val (.int vp), .val (.int vq), .val (.int vr), .val (.int vs), .val (.int vt), .val (.int va), .val (.int vb), .val (.int vc), .val (.int vy), .val (.int vx), .val (.ref b269), .val (.int (1 : Int32)), .val (.int (1 : Int32)), .val (.int (1 : Int32)), .val (.int (1 : Int32)), .val (.int (0 : Int32)), .val (.int (1 : Int32)), .unset, .unset] [(.ref b269)])) _
    refine XS.iload X288.here hx rfl (hb hby at_190) rfl ?_
    show Steps p.tables e below (T288.setTop (mkF m 192 #[.val (.int vp), .val (.int vq), .val (.int vr), .val (.int vs), .val (.int vt), .val (.int va), .val (.int vb), .val (.int vc), .val (.int vy), .val (.int vx), .val (.ref b269), .val (.int (1 : Int32)), .val (.int (1 : Int32)), .val (.int (1 : Int32)), .val (.int (1 : Int32)), .val (.int (0 : Int32)), .val (.int (1 : Int32)), .unset, .unset] [(.int vx), (.ref b269)])) _
    refine st291.trans ?_
    show Steps p.tables e below (T291.setTop (mkF m 195 #[.val (.int vp), .val (.int vq), .val (.int vr), .val (.int vs), .val (.int vt), .val (.int va), .val (.int vb), .val (.int vc), .val (.int vy), .val (.int vx), .val (.ref b269), .val (.int (1 : Int32)), .val (.int (1 : Int32)), .val (.int (1 : Int32)), .val (.int (1 : Int32)), .val (.int (0 : Int32)), .val (.int (1 : Int32)), .unset, .unset] [(.ref o291)])) _
    refine st298.trans ?_
    show Steps p.tables e below (T298.setTop (mkF m 198 #[.val (.int vp), .val (.int vq), .val (.int vr), .val (.int vs), .val (.int vt), .val (.int va), .val (.int vb), .val (.int vc), .val (.int vy), .val (.int vx), .val (.ref b269), .val (.int (1 : Int32)), .val (.int (1 : Int32)), .val (.int (1 : Int32)), .val (.int (1 : Int32)), .val (.int (0 : Int32)), .val (.int (1 : Int32)), .unset, .unset] [(.int (0 : Int32))])) _
    refine XS.istore X298.here hx rfl (hb hby at_198) rfl (l' := #[.val (.int vp), .val (.int vq), .val (.int vr), .val (.int vs), .val (.int vt), .val (.int va), .val (.int vb), .val (.int vc), .val (.int vy), .val (.int vx), .val (.ref b269), .val (.int (1 : Int32)), .val (.int (1 : Int32)), .val (.int (1 : Int32)), .val (.int (1 : Int32)), .val (.int (0 : Int32)), .val (.int (1 : Int32)), .val (.int (0 : Int32)), .unset]) rfl ?_
    show Steps p.tables e below (T298.setTop (mkF m 200 #[.val (.int vp), .val (.int vq), .val (.int vr), .val (.int vs), .val (.int vt), .val (.int va), .val (.int vb), .val (.int vc), .val (.int vy), .val (.int vx), .val (.ref b269), .val (.int (1 : Int32)), .val (.int (1 : Int32)), .val (.int (1 : Int32)), .val (.int (1 : Int32)), .val (.int (0 : Int32)), .val (.int (1 : Int32)), .val (.int (0 : Int32)), .unset] [])) _
    refine XS.iload X298.here hx rfl (hb hby at_200) rfl ?_
    show Steps p.tables e below (T298.setTop (mkF m 202 #[.val (.int vp), .val (.int vq), .val (.int vr), .val (.int vs), .val (.int vt), .val (.int va), .val (.int vb), .val (.int vc), .val (.int vy), .val (.int vx), .val (.ref b269), .val (.int (1 : Int32)), .val (.int (1 : Int32)), .val (.int (1 : Int32)), .val (.int (1 : Int32)), .val (.int (0 : Int32)), .val (.int (1 : Int32)), .val (.int (0 : Int32)), .unset] [(.int (0 : Int32))])) _
    refine XS.iload X298.here hx rfl (hb hby at_202) rfl ?_
    show Steps p.tables e below (T298.setTop (mkF m 204 #[.val (.int vp), .val (.int vq), .val (.int vr), .val (.int vs), .val (.int vt), .val (.int va), .val (.int vb), .val (.int vc), .val (.int vy), .val (.int vx), .val (.ref b269), .val (.int (1 : Int32)), .val (.int (1 : Int32)), .val (.int (1 : Int32)), .val (.int (1 : Int32)), .val (.int (0 : Int32)), .val (.int (1 : Int32)), .val (.int (0 : Int32)), .unset] [(.int vx), (.int (0 : Int32))])) _
    refine XS.sipush X298.here hx rfl (hb hby at_204) ?_
    show Steps p.tables e below (T298.setTop (mkF m 207 #[.val (.int vp), .val (.int vq), .val (.int vr), .val (.int vs), .val (.int vt), .val (.int va), .val (.int vb), .val (.int vc), .val (.int vy), .val (.int vx), .val (.ref b269), .val (.int (1 : Int32)), .val (.int (1 : Int32)), .val (.int (1 : Int32)), .val (.int (1 : Int32)), .val (.int (0 : Int32)), .val (.int (1 : Int32)), .val (.int (0 : Int32)), .unset] [(.int (1000 : Int32)), (.int vx), (.int (0 : Int32))])) _
    refine XS.icmpYes X298.here hx rfl (pc0 := 207) (pc' := 214) rfl (hb hby at_207) rfl (tlt hc207).2.2.1 (by decide) (by decide) ?_
    show Steps p.tables e below (T298.setTop (mkF m 214 #[.val (.int vp), .val (.int vq), .val (.int vr), .val (.int vs), .val (.int vt), .val (.int va), .val (.int vb), .val (.int vc), .val (.int vy), .val (.int vx), .val (.ref b269), .val (.int (1 : Int32)), .val (.int (1 : Int32)), .val (.int (1 : Int32)), .val (.int (1 : Int32)), .val (.int (0 : Int32)), .val (.int (1 : Int32)), .val (.int (0 : Int32)), .unset] [(.int (0 : Int32))])) _
    refine XS.iconst X298.here hx rfl (hb hby at_214) ?_
    show Steps p.tables e below (T298.setTop (mkF m 215 #[.val (.int vp), .val (.int vq), .val (.int vr), .val (.int vs), .val (.int vt), .val (.int va), .val (.int vb), .val (.int vc), .val (.int vy), .val (.int vx), .val (.ref b269), .val (.int (1 : Int32)), .val (.int (1 : Int32)), .val (.int (1 : Int32)), .val (.int (1 : Int32)), .val (.int (0 : Int32)), .val (.int (1 : Int32)), .val (.int (0 : Int32)), .unset] [(.int (0 : Int32)), (.int (0 : Int32))])) _
    refine XS.icmpNo X298.here hx rfl (hb hby at_215) rfl (teq (by decide)).2 ?_
    show Steps p.tables e below (T298.setTop (mkF m 218 #[.val (.int vp), .val (.int vq), .val (.int vr), .val (.int vs), .val (.int vt), .val (.int va), .val (.int vb), .val (.int vc), .val (.int vy), .val (.int vx), .val (.ref b269), .val (.int (1 : Int32)), .val (.int (1 : Int32)), .val (.int (1 : Int32)), .val (.int (1 : Int32)), .val (.int (0 : Int32)), .val (.int (1 : Int32)), .val (.int (0 : Int32)), .unset] [])) _
    refine XS.iconst X298.here hx rfl (hb hby at_218) ?_
    show Steps p.tables e below (T298.setTop (mkF m 219 #[.val (.int vp), .val (.int vq), .val (.int vr), .val (.int vs), .val (.int vt), .val (.int va), .val (.int vb), .val (.int vc), .val (.int vy), .val (.int vx), .val (.ref b269), .val (.int (1 : Int32)), .val (.int (1 : Int32)), .val (.int (1 : Int32)), .val (.int (1 : Int32)), .val (.int (0 : Int32)), .val (.int (1 : Int32)), .val (.int (0 : Int32)), .unset] [(.int (1 : Int32))])) _
    refine XS.goto X298.here hx rfl (pc0 := 219) (pc' := 223) rfl (hb hby at_219) (by decide) (by decide) ?_
    show Steps p.tables e below (T298.setTop (mkF m 223 #[.val (.int vp), .val (.int vq), .val (.int vr), .val (.int vs), .val (.int vt), .val (.int va), .val (.int vb), .val (.int vc), .val (.int vy), .val (.int vx), .val (.ref b269), .val (.int (1 : Int32)), .val (.int (1 : Int32)), .val (.int (1 : Int32)), .val (.int (1 : Int32)), .val (.int (0 : Int32)), .val (.int (1 : Int32)), .val (.int (0 : Int32)), .unset] [(.int (1 : Int32))])) _
    refine XS.istore X298.here hx rfl (hb hby at_223) rfl (l' := #[.val (.int vp), .val (.int vq), .val (.int vr), .val (.int vs), .val (.int vt), .val (.int va), .val (.int vb), .val (.int vc), .val (.int vy), .val (.int vx), .val (.ref b269), .val (.int (1 : Int32)), .val (.int (1 : Int32)), .val (.int (1 : Int32)), .val (.int (1 : Int32)), .val (.int (0 : Int32)), .val (.int (1 : Int32)), .val (.int (0 : Int32)), .val (.int (1 : Int32))]) rfl ?_
    show Steps p.tables e below (T298.setTop (mkF m 225 #[.val (.int vp), .val (.int vq), .val (.int vr), .val (.int vs), .val (.int vt), .val (.int va), .val (.int vb), .val (.int vc), .val (.int vy), .val (.int vx), .val (.ref b269), .val (.int (1 : Int32)), .val (.int (1 : Int32)), .val (.int (1 : Int32)), .val (.int (1 : Int32)), .val (.int (0 : Int32)), .val (.int (1 : Int32)), .val (.int (0 : Int32)), .val (.int (1 : Int32))] [])) _
    refine XS.iload X298.here hx rfl (hb hby at_225) rfl ?_
    show Steps p.tables e below (T298.setTop (mkF m 227 #[.val (.int vp), .val (.int vq), .val (.int vr), .val (.int vs), .val (.int vt), .val (.int va), .val (.int vb), .val (.int vc), .val (.int vy), .val (.int vx), .val (.ref b269), .val (.int (1 : Int32)), .val (.int (1 : Int32)), .val (.int (1 : Int32)), .val (.int (1 : Int32)), .val (.int (0 : Int32)), .val (.int (1 : Int32)), .val (.int (0 : Int32)), .val (.int (1 : Int32))] [(.int (1 : Int32))])) _
    refine XS.ifNo X298.here hx rfl (hb hby at_227) rfl ((if0 _ _).trans (feq (by decide)).1) ?_
    show Steps p.tables e below (T298.setTop (mkF m 230 #[.val (.int vp), .val (.int vq), .val (.int vr), .val (.int vs), .val (.int vt), .val (.int va), .val (.int vb), .val (.int vc), .val (.int vy), .val (.int vx), .val (.ref b269), .val (.int (1 : Int32)), .val (.int (1 : Int32)), .val (.int (1 : Int32)), .val (.int (1 : Int32)), .val (.int (0 : Int32)), .val (.int (1 : Int32)), .val (.int (0 : Int32)), .val (.int (1 : Int32))] [])) _
    refine XS.iload X298.here hx rfl (hb hby at_230) rfl ?_
    show Steps p.tables e below (T298.setTop (mkF m 232 #[.val (.int vp), .val (.int vq), .val (.int vr), .val (.int vs), .val (.int vt), .val (.int va), .val (.int vb), .val (.int vc), .val (.int vy), .val (.int vx), .val (.ref b269), .val (.int (1 : Int32)), .val (.int (1 : Int32)), .val (.int (1 : Int32)), .val (.int (1 : Int32)), .val (.int (0 : Int32)), .val (.int (1 : Int32)), .val (.int (0 : Int32)), .val (.int (1 : Int32))] [(.int (1 : Int32))])) _
    refine XS.ifNo X298.here hx rfl (hb hby at_232) rfl ((if0 _ _).trans (feq (by decide)).1) ?_
    show Steps p.tables e below (T298.setTop (mkF m 235 #[.val (.int vp), .val (.int vq), .val (.int vr), .val (.int vs), .val (.int vt), .val (.int va), .val (.int vb), .val (.int vc), .val (.int vy), .val (.int vx), .val (.ref b269), .val (.int (1 : Int32)), .val (.int (1 : Int32)), .val (.int (1 : Int32)), .val (.int (1 : Int32)), .val (.int (0 : Int32)), .val (.int (1 : Int32)), .val (.int (0 : Int32)), .val (.int (1 : Int32))] [])) _
    refine XS.iload X298.here hx rfl (hb hby at_235) rfl ?_
    show Steps p.tables e below (T298.setTop (mkF m 237 #[.val (.int vp), .val (.int vq), .val (.int vr), .val (.int vs), .val (.int vt), .val (.int va), .val (.int vb), .val (.int vc), .val (.int vy), .val (.int vx), .val (.ref b269), .val (.int (1 : Int32)), .val (.int (1 : Int32)), .val (.int (1 : Int32)), .val (.int (1 : Int32)), .val (.int (0 : Int32)), .val (.int (1 : Int32)), .val (.int (0 : Int32)), .val (.int (1 : Int32))] [(.int (1 : Int32))])) _
    refine XS.ifNo X298.here hx rfl (hb hby at_237) rfl ((if0 _ _).trans (feq (by decide)).1) ?_
    show Steps p.tables e below (T298.setTop (mkF m 240 #[.val (.int vp), .val (.int vq), .val (.int vr), .val (.int vs), .val (.int vt), .val (.int va), .val (.int vb), .val (.int vc), .val (.int vy), .val (.int vx), .val (.ref b269), .val (.int (1 : Int32)), .val (.int (1 : Int32)), .val (.int (1 : Int32)), .val (.int (1 : Int32)), .val (.int (0 : Int32)), .val (.int (1 : Int32)), .val (.int (0 : Int32)), .val (.int (1 : Int32))] [])) _
    refine XS.iload X298.here hx rfl (hb hby at_240) rfl ?_
    show Steps p.tables e below (T298.setTop (mkF m 242 #[.val (.int vp), .val (.int vq), .val (.int vr), .val (.int vs), .val (.int vt), .val (.int va), .val (.int vb), .val (.int vc), .val (.int vy), .val (.int vx), .val (.ref b269), .val (.int (1 : Int32)), .val (.int (1 : Int32)), .val (.int (1 : Int32)), .val (.int (1 : Int32)), .val (.int (0 : Int32)), .val (.int (1 : Int32)), .val (.int (0 : Int32)), .val (.int (1 : Int32))] [(.int (1 : Int32))])) _
    refine XS.ifNo X298.here hx rfl (hb hby at_242) rfl ((if0 _ _).trans (feq (by decide)).1) ?_
    show Steps p.tables e below (T298.setTop (mkF m 245 #[.val (.int vp), .val (.int vq), .val (.int vr), .val (.int vs), .val (.int vt), .val (.int va), .val (.int vb), .val (.int vc), .val (.int vy), .val (.int vx), .val (.ref b269), .val (.int (1 : Int32)), .val (.int (1 : Int32)), .val (.int (1 : Int32)), .val (.int (1 : Int32)), .val (.int (0 : Int32)), .val (.int (1 : Int32)), .val (.int (0 : Int32)), .val (.int (1 : Int32))] [])) _
    refine XS.iload X298.here hx rfl (hb hby at_245) rfl ?_
    show Steps p.tables e below (T298.setTop (mkF m 247 #[.val (.int vp), .val (.int vq), .val (.int vr), .val (.int vs), .val (.int vt), .val (.int va), .val (.int vb), .val (.int vc), .val (.int vy), .val (.int vx), .val (.ref b269), .val (.int (1 : Int32)), .val (.int (1 : Int32)), .val (.int (1 : Int32)), .val (.int (1 : Int32)), .val (.int (0 : Int32)), .val (.int (1 : Int32)), .val (.int (0 : Int32)), .val (.int (1 : Int32))] [(.int (1 : Int32))])) _
    refine XS.ifNo X298.here hx rfl (hb hby at_247) rfl ((if0 _ _).trans (feq (by decide)).1) ?_
    show Steps p.tables e below (T298.setTop (mkF m 250 #[.val (.int vp), .val (.int vq), .val (.int vr), .val (.int vs), .val (.int vt), .val (.int va), .val (.int vb), .val (.int vc), .val (.int vy), .val (.int vx), .val (.ref b269), .val (.int (1 : Int32)), .val (.int (1 : Int32)), .val (.int (1 : Int32)), .val (.int (1 : Int32)), .val (.int (0 : Int32)), .val (.int (1 : Int32)), .val (.int (0 : Int32)), .val (.int (1 : Int32))] [])) _
    refine XS.iconst X298.here hx rfl (hb hby at_250) ?_
    show Steps p.tables e below (T298.setTop (mkF m 251 #[.val (.int vp), .val (.int vq), .val (.int vr), .val (.int vs), .val (.int vt), .val (.int va), .val (.int vb), .val (.int vc), .val (.int vy), .val (.int vx), .val (.ref b269), .val (.int (1 : Int32)), .val (.int (1 : Int32)), .val (.int (1 : Int32)), .val (.int (1 : Int32)), .val (.int (0 : Int32)), .val (.int (1 : Int32)), .val (.int (0 : Int32)), .val (.int (1 : Int32))] [(.int (1 : Int32))])) _
    refine XS.goto X298.here hx rfl (pc0 := 251) (pc' := 255) rfl (hb hby at_251) (by decide) (by decide) ?_
    show Steps p.tables e below (T298.setTop (mkF m 255 #[.val (.int vp), .val (.int vq), .val (.int vr), .val (.int vs), .val (.int vt), .val (.int va), .val (.int vb), .val (.int vc), .val (.int vy), .val (.int vx), .val (.ref b269), .val (.int (1 : Int32)), .val (.int (1 : Int32)), .val (.int (1 : Int32)), .val (.int (1 : Int32)), .val (.int (0 : Int32)), .val (.int (1 : Int32)), .val (.int (0 : Int32)), .val (.int (1 : Int32))] [(.int (1 : Int32))])) _
    exact retN X298 hx (t := .boolean) Bd.returns (by simp) (hb hby at_255) hr
  · show QL n0 _ T298.heap _
    rw [e298]
    exact ⟨rfl, N298⟩
set_option maxRecDepth 65536 in
set_option maxHeartbeats 40000000 in
theorem rm0_101 (l : Launch) (Z : State) (a0 : Array Value) (hw : ∀ d ∈ tables_1, d.before a0 Z = true) (ws : List Jvm.Cond) (vp vq vr vs vt : Int32) (va vb vc vy vx : Int32) (em : Addr) (h0 : Heap) (n0 : Nat) (Z0 : n0 ≤ h0.size) (qa : ((vp &&& (2147483647 : Int32)) % (1001 : Int32)) = va) (qb : ((vq &&& (2147483647 : Int32)) % ((1001 : Int32) - va)) = vb) (qc : (vr &&& (2047 : Int32)) = vc) (qy : (vt &&& (2047 : Int32)) = vy) (qx : (vs &&& (2047 : Int32)) = vx) (hnz : (1001 : Int32) - va ≠ 0) (Od0 : Old Z n0 h0) (Se : Sta Z Z.heap "java/util/Optional" "EMPTY" "Ljava/util/Optional;" (.ref em)) (Ee : Exa Z Z.heap em "java/util/Optional") (Fe : Fld Z Z.heap em "java/util/Optional" "value" "Ljava/lang/Object;" .null) (hA : ¬ ((1000 : Int32) < (0 : Int32) + va)) (hB : ¬ ((1000 : Int32) < va + vb)) (eA : (0 : Int32) + va = va) (eB : va + vb - vb = va) (eC : va + vc - vc = va) (eY : va + vy - vy = va) (eZ : va - va = 0) (eX : (0 : Int32) + vx = vx) (hc105 : ¬ ((1000 : Int32) < (va + vc))) (hc155 : (1000 : Int32) < (va + vy)) (hc207 : ¬ ((1000 : Int32) < vx)) :
    MetFree l x (head1 (Jvm.Cond.code x code maxLocals ret :: ws) room_1) (fun zA zU => zA = #[(.int vp), (.int vq), (.int vr), (.int vs), (.int vt)] ∧ Z.Warmed39 zU.vm ∧ zU.heap = h0) (fun _ _ _ _ _ => True) (fun _ zU zO zW => ∃ zV zL, zO = .returned zV ∧ QL n0 zV zW.heap zL ∧ ReturnedEndW zU zO zW zL room_1.cells room_1.slots) := by
  refine MetFree.of_bodySF (plainFor_of_name pn_XmlNestingLeavePinLaw) hisR ?_
  intro p e s m args below meth c s₁ Bd hml0 hP hK
  obtain ⟨rfl, hZ, hh⟩ := hP
  have hx := Bd.exec
  have hby := Bd.bytes
  have hml : c.maxLocals = 19 := hml0
  have hown : s.vm.findClass "com/example/caddis/caddis/XmlNestingLeavePinLaw" = some m.cls := findClass_of_methodNamed Bd.named
  have hnm := (name_of_methodNamed Bd.named Bd.method).1
  have X0 : Stand p l e room_1 s m #[(.int vp), (.int vq), (.int vr), (.int vs), (.int vt)] below meth c s₁ [] 0 0 := Stand.of_body Bd
  have e0 : s₁.heap = h0 := by rw [← hh, Bd.state]; rfl
  have N0 := Fr.nil n0
  have pre0 : ∀ zt, Steps p.tables e below (s₁.setTop (mkF m 0 #[.val (.int vp), .val (.int vq), .val (.int vr), .val (.int vs), .val (.int vt), .unset, .unset, .unset, .unset, .unset, .unset, .unset, .unset, .unset, .unset, .unset, .unset, .unset, .unset] [])) zt → Steps p.tables e below (s₁.setTop (entryFrame m #[(.int vp), (.int vq), (.int vr), (.int vs), (.int vt)] maxLocals)) zt := fun zt zk => castTop (ef_0_IIIII m vp vq vr vs vt) zk
  obtain ⟨T299, h299, X299, e299, E299, A299, D299, -, st299⟩ := newO X0 hx hZ hown (hw _ (List.mem_of_getElem? (i := 1) rfl)) (hw _ (List.mem_of_getElem? (i := 2) rfl)) (hw _ (List.mem_of_getElem? (i := 3) rfl)) e0 (g := (mkF m 45 #[.val (.int vp), .val (.int vq), .val (.int vr), .val (.int vs), .val (.int vt), .val (.int va), .val (.int vb), .val (.int vc), .val (.int vy), .val (.int vx), .unset, .unset, .unset, .unset, .unset, .unset, .unset, .unset, .unset] [])) rfl (hb hby at_45) (by decide) (by decide)
  obtain ⟨b299, g299⟩ : ∃ z, z = h0.size := ⟨_, rfl⟩
  rw [← g299] at A299 D299 st299
  have gz299 : n0 ≤ b299 := Nat.le_trans Z0 (Nat.le_of_eq g299.symm)
  have Z299 := Nat.le_trans Z0 E299.1
  have Od299 := Od0.ext E299
  have F299_declared : Fld Z h299 b299 "com/example/caddis/caddis/XmlNesting" "declared" "[I" .null := D299 (Or.inr (hw _ (List.mem_of_getElem? (i := 12) rfl))) (ty := (.array .int)) (by decide)
  have F299_depth : Fld Z h299 b299 "com/example/caddis/caddis/XmlNesting" "depth" "I" (.int (0 : Int32)) := D299 (Or.inl (hw _ (List.mem_of_getElem? (i := 19) rfl))) (ty := .int) (by decide)
  have F299_declarations : Fld Z h299 b299 "com/example/caddis/caddis/XmlNesting" "declarations" "I" (.int (0 : Int32)) := D299 (Or.inl (hw _ (List.mem_of_getElem? (i := 21) rfl))) (ty := .int) (by decide)
  obtain ⟨_, _, ⟨T300, L300, k300, n300⟩, -, X300, ⟨Lc300, hQ300, l300, y300, z300⟩, st300⟩ := X299.specialBack hx (y := (⟨"com/example/caddis/caddis/XmlNesting", "<init>", "()V"⟩ : MethodName)) rfl hown (mvT hZ (hw _ (List.mem_of_getElem? (i := 4) rfl))) (mvT hZ (hw _ (List.mem_of_getElem? (i := 5) rfl))) (mvT hZ (hw _ (List.mem_of_getElem? (i := 6) rfl))) (by decide) (backOf (W := 1) (rini l Z a0 hw [] b299 h299 n0 Z299 A299 F299_declared F299_depth F299_declarations gz299) hZ (hw _ (List.mem_of_getElem? (i := 6) rfl)) (hw _ (List.mem_of_getElem? (i := 3) rfl)) (by decide) (by decide)) (g := (mkF m 49 #[.val (.int vp), .val (.int vq), .val (.int vr), .val (.int vs), .val (.int vt), .val (.int va), .val (.int vb), .val (.int vc), .val (.int vy), .val (.int vx), .unset, .unset, .unset, .unset, .unset, .unset, .unset, .unset, .unset] [(.ref b299), (.ref b299)])) rfl (by rw [hml]; rfl) (Steps.refl _) (a := b299) (argsL := []) (rest := [(.ref b299)]) (lenOf pd_4 rfl) rfl (by show 2 * 0 + _ ≤ _; exact Nat.le_of_eq rfl) (hb hby at_49) (fun _ _ => ⟨rfl, e299, (by decide : 1 + 1 ≤ _), (by decide : 3 + 1000 ≤ _)⟩)
  dsimp only [Pt.U, Pt.locs, Pt.cells, Pt.slots] at X300 l300 y300 z300 st300 hQ300
  subst l300 y300 z300
  obtain ⟨ar300, rfl, Nq300, Kq300, G300_0, G300_1, G300_2, G300_3, G300_4, ga300, na300⟩ := hQ300
  have N300 := Fr.app N0 Nq300
  have Z300 := Nat.le_trans Z299 Kq300.1
  have Od300 := Od299.keep Kq300 (allS gz299 all0)
  obtain ⟨cq301, kq301, q301a, q301b, q301c⟩ := isOf hZ rfl G300_0
  obtain ⟨_, _, ⟨T301, L301, k301, n301⟩, -, X301, ⟨Lc301, hQ301, l301, y301, z301⟩, st301⟩ := X300.virtualBack hx (y := (⟨"com/example/caddis/caddis/XmlNesting", "enter", "(I)Ljava/util/Optional;"⟩ : MethodName)) (z := (⟨"com/example/caddis/caddis/XmlNesting", "enter", "(I)Ljava/util/Optional;"⟩ : MethodName)) hown (mvT hZ (hw _ (List.mem_of_getElem? (i := 13) rfl))) (mvT hZ (hw _ (List.mem_of_getElem? (i := 14) rfl))) (notFace_of_selects (args := #[]) (mvT hZ (hw _ (List.mem_of_getElem? (i := 16) rfl)))) (mvT hZ (hw _ (List.mem_of_getElem? (i := 16) rfl))) (mvT hZ (hw _ (List.mem_of_getElem? (i := 15) rfl))) (by decide) (backOf (W := 0) (ren0 l Z a0 hw [] b299 ar300 em (0 : Int32) va (fun _ => (0 : Int32)) T300.heap n0 Z300 G300_0 G300_1 G300_2 G300_3 G300_4 gz299 ga300 na300 (Se.ext Od300.2) hA) hZ (hw _ (List.mem_of_getElem? (i := 17) rfl)) (hw _ (List.mem_of_getElem? (i := 3) rfl)) (by decide) (by decide)) q301a q301c (g := (mkF m 58 #[.val (.int vp), .val (.int vq), .val (.int vr), .val (.int vs), .val (.int vt), .val (.int va), .val (.int vb), .val (.int vc), .val (.int vy), .val (.int vx), .val (.ref b299), .unset, .unset, .unset, .unset, .unset, .unset, .unset, .unset] [(.int va), (.ref b299)])) rfl (by rw [hml]; rfl) (Steps.refl _) (argsL := [(.int va)]) (rest := []) (lenOf pd_5 rfl) rfl (by show 2 * 0 + _ ≤ _; exact Nat.le_of_eq rfl) (hb hby at_58) (fun _ _ => ⟨rfl, rfl, (by decide : 2 + 0 ≤ _), (by decide : 1003 + 0 ≤ _)⟩)
  dsimp only [Pt.U, Pt.locs, Pt.cells, Pt.slots] at X301 l301 y301 z301 st301 hQ301
  subst l301 y301 z301
  obtain ⟨rfl, Nq301, Kq301, G301_0, G301_1, G301_2, G301_3, G301_4⟩ := hQ301
  have N301 := Fr.app N300 Nq301
  have Z301 := Nat.le_trans Z300 Kq301.1
  have Od301 := Od300.keep Kq301 (allS gz299 (allS ga300 all0))
  rw [eA] at G301_3
  obtain ⟨cq302, kq302, q302a, q302b, q302c⟩ := isOf hZ rfl (Ee.ext Od301.2)
  obtain ⟨_, _, ⟨T302, L302, k302, n302⟩, -, X302, ⟨Lc302, hQ302, l302, y302, z302⟩, st302⟩ := X301.virtualBack hx (y := (⟨"java/util/Optional", "isEmpty", "()Z"⟩ : MethodName)) (z := (⟨"java/util/Optional", "isEmpty", "()Z"⟩ : MethodName)) hown (mvT hZ (hw _ (List.mem_of_getElem? (i := 27) rfl))) (mvT hZ (hw _ (List.mem_of_getElem? (i := 28) rfl))) (notFace_of_selects (args := #[]) (mvT hZ (hw _ (List.mem_of_getElem? (i := 30) rfl)))) (mvT hZ (hw _ (List.mem_of_getElem? (i := 30) rfl))) (mvT hZ (hw _ (List.mem_of_getElem? (i := 29) rfl))) (by decide) (backOf (W := 0) (ris1 l Z a0 hw [] em T301.heap n0 Z301 (Fe.ext Od301.2)) hZ (hw _ (List.mem_of_getElem? (i := 31) rfl)) (hw _ (List.mem_of_getElem? (i := 24) rfl)) (by decide) (by decide)) q302a q302c (g := (mkF m 61 #[.val (.int vp), .val (.int vq), .val (.int vr), .val (.int vs), .val (.int vt), .val (.int va), .val (.int vb), .val (.int vc), .val (.int vy), .val (.int vx), .val (.ref b299), .unset, .unset, .unset, .unset, .unset, .unset, .unset, .unset] [(.ref em)])) rfl (by rw [hml]; rfl) (Steps.refl _) (argsL := []) (rest := []) (lenOf pd_6 rfl) rfl (by show 2 * 0 + _ ≤ _; exact Nat.le_of_eq rfl) (hb hby at_61) (fun _ _ => ⟨rfl, rfl, (by decide : 2 + 0 ≤ _), (by decide : 1003 + 0 ≤ _)⟩)
  dsimp only [Pt.U, Pt.locs, Pt.cells, Pt.slots] at X302 l302 y302 z302 st302 hQ302
  subst l302 y302 z302
  obtain ⟨rfl, Nq302, e302⟩ := hQ302
  have N302 := Fr.app N301 Nq302
  obtain ⟨cq303, kq303, q303a, q303b, q303c⟩ := isOf hZ e302 G301_0
  obtain ⟨_, _, ⟨T303, L303, k303, n303⟩, -, X303, ⟨Lc303, hQ303, l303, y303, z303⟩, st303⟩ := X302.virtualBack hx (y := (⟨"com/example/caddis/caddis/XmlNesting", "enter", "(I)Ljava/util/Optional;"⟩ : MethodName)) (z := (⟨"com/example/caddis/caddis/XmlNesting", "enter", "(I)Ljava/util/Optional;"⟩ : MethodName)) hown (mvT hZ (hw _ (List.mem_of_getElem? (i := 13) rfl))) (mvT hZ (hw _ (List.mem_of_getElem? (i := 14) rfl))) (notFace_of_selects (args := #[]) (mvT hZ (hw _ (List.mem_of_getElem? (i := 16) rfl)))) (mvT hZ (hw _ (List.mem_of_getElem? (i := 16) rfl))) (mvT hZ (hw _ (List.mem_of_getElem? (i := 15) rfl))) (by decide) (backOf (W := 0) (ren1 l Z a0 hw [] b299 ar300 em va vb (upd (fun _ => (0 : Int32)) 0 va) T301.heap n0 Z301 G301_0 G301_1 G301_2 G301_3 G301_4 gz299 ga300 na300 (Se.ext Od301.2) hB) hZ (hw _ (List.mem_of_getElem? (i := 17) rfl)) (hw _ (List.mem_of_getElem? (i := 3) rfl)) (by decide) (by decide)) q303a q303c (g := (mkF m 70 #[.val (.int vp), .val (.int vq), .val (.int vr), .val (.int vs), .val (.int vt), .val (.int va), .val (.int vb), .val (.int vc), .val (.int vy), .val (.int vx), .val (.ref b299), .val (.int (1 : Int32)), .unset, .unset, .unset, .unset, .unset, .unset, .unset] [(.int vb), (.ref b299)])) rfl (by rw [hml]; rfl) (Steps.refl _) (argsL := [(.int vb)]) (rest := []) (lenOf pd_5 rfl) rfl (by show 2 * 0 + _ ≤ _; exact Nat.le_of_eq rfl) (hb hby at_70) (fun _ _ => ⟨rfl, e302, (by decide : 2 + 0 ≤ _), (by decide : 1003 + 0 ≤ _)⟩)
  dsimp only [Pt.U, Pt.locs, Pt.cells, Pt.slots] at X303 l303 y303 z303 st303 hQ303
  subst l303 y303 z303
  obtain ⟨rfl, Nq303, Kq303, G303_0, G303_1, G303_2, G303_3, G303_4⟩ := hQ303
  have N303 := Fr.app N302 Nq303
  have Z303 := Nat.le_trans Z301 Kq303.1
  have Od303 := Od301.keep Kq303 (allS gz299 (allS ga300 all0))
  obtain ⟨cq304, kq304, q304a, q304b, q304c⟩ := isOf hZ rfl (Ee.ext Od303.2)
  obtain ⟨_, _, ⟨T304, L304, k304, n304⟩, -, X304, ⟨Lc304, hQ304, l304, y304, z304⟩, st304⟩ := X303.virtualBack hx (y := (⟨"java/util/Optional", "isEmpty", "()Z"⟩ : MethodName)) (z := (⟨"java/util/Optional", "isEmpty", "()Z"⟩ : MethodName)) hown (mvT hZ (hw _ (List.mem_of_getElem? (i := 27) rfl))) (mvT hZ (hw _ (List.mem_of_getElem? (i := 28) rfl))) (notFace_of_selects (args := #[]) (mvT hZ (hw _ (List.mem_of_getElem? (i := 30) rfl)))) (mvT hZ (hw _ (List.mem_of_getElem? (i := 30) rfl))) (mvT hZ (hw _ (List.mem_of_getElem? (i := 29) rfl))) (by decide) (backOf (W := 0) (ris1 l Z a0 hw [] em T303.heap n0 Z303 (Fe.ext Od303.2)) hZ (hw _ (List.mem_of_getElem? (i := 31) rfl)) (hw _ (List.mem_of_getElem? (i := 24) rfl)) (by decide) (by decide)) q304a q304c (g := (mkF m 73 #[.val (.int vp), .val (.int vq), .val (.int vr), .val (.int vs), .val (.int vt), .val (.int va), .val (.int vb), .val (.int vc), .val (.int vy), .val (.int vx), .val (.ref b299), .val (.int (1 : Int32)), .unset, .unset, .unset, .unset, .unset, .unset, .unset] [(.ref em)])) rfl (by rw [hml]; rfl) (Steps.refl _) (argsL := []) (rest := []) (lenOf pd_6 rfl) rfl (by show 2 * 0 + _ ≤ _; exact Nat.le_of_eq rfl) (hb hby at_73) (fun _ _ => ⟨rfl, rfl, (by decide : 2 + 0 ≤ _), (by decide : 1003 + 0 ≤ _)⟩)
  dsimp only [Pt.U, Pt.locs, Pt.cells, Pt.slots] at X304 l304 y304 z304 st304 hQ304
  subst l304 y304 z304
  obtain ⟨rfl, Nq304, e304⟩ := hQ304
  have N304 := Fr.app N303 Nq304
  obtain ⟨cq305, kq305, q305a, q305b, q305c⟩ := isOf hZ e304 G303_0
  obtain ⟨_, _, ⟨T305, L305, k305, n305⟩, -, X305, ⟨Lc305, hQ305, l305, y305, z305⟩, st305⟩ := X304.virtualBack hx (y := (⟨"com/example/caddis/caddis/XmlNesting", "leave", "()V"⟩ : MethodName)) (z := (⟨"com/example/caddis/caddis/XmlNesting", "leave", "()V"⟩ : MethodName)) hown (mvT hZ (hw _ (List.mem_of_getElem? (i := 34) rfl))) (mvT hZ (hw _ (List.mem_of_getElem? (i := 35) rfl))) (notFace_of_selects (args := #[]) (mvT hZ (hw _ (List.mem_of_getElem? (i := 37) rfl)))) (mvT hZ (hw _ (List.mem_of_getElem? (i := 37) rfl))) (mvT hZ (hw _ (List.mem_of_getElem? (i := 36) rfl))) (by decide) (backOf (W := 0) (rlv2 l Z a0 hw [] b299 ar300 (va + vb) vb (upd (upd (fun _ => (0 : Int32)) 0 va) 1 vb) T303.heap n0 Z303 G303_0 G303_1 G303_2 G303_3 G303_4 gz299 na300 rfl) hZ (hw _ (List.mem_of_getElem? (i := 38) rfl)) (hw _ (List.mem_of_getElem? (i := 3) rfl)) (by decide) (by decide)) q305a q305c (g := (mkF m 80 #[.val (.int vp), .val (.int vq), .val (.int vr), .val (.int vs), .val (.int vt), .val (.int va), .val (.int vb), .val (.int vc), .val (.int vy), .val (.int vx), .val (.ref b299), .val (.int (1 : Int32)), .val (.int (1 : Int32)), .unset, .unset, .unset, .unset, .unset, .unset] [(.ref b299)])) rfl (by rw [hml]; rfl) (Steps.refl _) (argsL := []) (rest := []) (lenOf pd_4 rfl) rfl (by show 2 * 0 + _ ≤ _; exact Nat.le_of_eq rfl) (hb hby at_80) (fun _ _ => ⟨rfl, e304, (by decide : 2 + 0 ≤ _), (by decide : 1003 + 0 ≤ _)⟩)
  dsimp only [Pt.U, Pt.locs, Pt.cells, Pt.slots] at X305 l305 y305 z305 st305 hQ305
  subst l305 y305 z305
  obtain ⟨rfl, Nq305, Kq305, G305_0, G305_1, G305_2, G305_3⟩ := hQ305
  have N305 := Fr.app N304 Nq305
  have zA306 := G303_4.keep Kq305 (ninS (Ne.symm na300) nin0)
  have Z305 := Nat.le_trans Z303 Kq305.1
  have Od305 := Od303.keep Kq305 (allS gz299 all0)
  rw [eB] at G305_3
  obtain ⟨cq307, kq307, q307a, q307b, q307c⟩ := isOf hZ rfl G305_0
  obtain ⟨_, _, ⟨T307, L307, k307, n307⟩, -, X307, ⟨Lc307, hQ307, l307, y307, z307⟩, st307⟩ := X305.virtualBack hx (y := (⟨"com/example/caddis/caddis/XmlNesting", "enter", "(I)Ljava/util/Optional;"⟩ : MethodName)) (z := (⟨"com/example/caddis/caddis/XmlNesting", "enter", "(I)Ljava/util/Optional;"⟩ : MethodName)) hown (mvT hZ (hw _ (List.mem_of_getElem? (i := 13) rfl))) (mvT hZ (hw _ (List.mem_of_getElem? (i := 14) rfl))) (notFace_of_selects (args := #[]) (mvT hZ (hw _ (List.mem_of_getElem? (i := 16) rfl)))) (mvT hZ (hw _ (List.mem_of_getElem? (i := 16) rfl))) (mvT hZ (hw _ (List.mem_of_getElem? (i := 15) rfl))) (by decide) (backOf (W := 0) (ren1 l Z a0 hw [] b299 ar300 em va vc (upd (upd (fun _ => (0 : Int32)) 0 va) 1 vb) T305.heap n0 Z305 G305_0 G305_1 G305_2 G305_3 zA306 gz299 ga300 na300 (Se.ext Od305.2) hc105) hZ (hw _ (List.mem_of_getElem? (i := 17) rfl)) (hw _ (List.mem_of_getElem? (i := 3) rfl)) (by decide) (by decide)) q307a q307c (g := (mkF m 87 #[.val (.int vp), .val (.int vq), .val (.int vr), .val (.int vs), .val (.int vt), .val (.int va), .val (.int vb), .val (.int vc), .val (.int vy), .val (.int vx), .val (.ref b299), .val (.int (1 : Int32)), .val (.int (1 : Int32)), .unset, .unset, .unset, .unset, .unset, .unset] [(.int vc), (.ref b299)])) rfl (by rw [hml]; rfl) (Steps.refl _) (argsL := [(.int vc)]) (rest := []) (lenOf pd_5 rfl) rfl (by show 2 * 0 + _ ≤ _; exact Nat.le_of_eq rfl) (hb hby at_87) (fun _ _ => ⟨rfl, rfl, (by decide : 2 + 0 ≤ _), (by decide : 1003 + 0 ≤ _)⟩)
  dsimp only [Pt.U, Pt.locs, Pt.cells, Pt.slots] at X307 l307 y307 z307 st307 hQ307
  subst l307 y307 z307
  obtain ⟨rfl, Nq307, Kq307, G307_0, G307_1, G307_2, G307_3, G307_4⟩ := hQ307
  have N307 := Fr.app N305 Nq307
  have Z307 := Nat.le_trans Z305 Kq307.1
  have Od307 := Od305.keep Kq307 (allS gz299 (allS ga300 all0))
  obtain ⟨cq308, kq308, q308a, q308b, q308c⟩ := isOf hZ rfl (Ee.ext Od307.2)
  obtain ⟨_, _, ⟨T308, L308, k308, n308⟩, -, X308, ⟨Lc308, hQ308, l308, y308, z308⟩, st308⟩ := X307.virtualBack hx (y := (⟨"java/util/Optional", "isEmpty", "()Z"⟩ : MethodName)) (z := (⟨"java/util/Optional", "isEmpty", "()Z"⟩ : MethodName)) hown (mvT hZ (hw _ (List.mem_of_getElem? (i := 27) rfl))) (mvT hZ (hw _ (List.mem_of_getElem? (i := 28) rfl))) (notFace_of_selects (args := #[]) (mvT hZ (hw _ (List.mem_of_getElem? (i := 30) rfl)))) (mvT hZ (hw _ (List.mem_of_getElem? (i := 30) rfl))) (mvT hZ (hw _ (List.mem_of_getElem? (i := 29) rfl))) (by decide) (backOf (W := 0) (ris1 l Z a0 hw [] em T307.heap n0 Z307 (Fe.ext Od307.2)) hZ (hw _ (List.mem_of_getElem? (i := 31) rfl)) (hw _ (List.mem_of_getElem? (i := 24) rfl)) (by decide) (by decide)) q308a q308c (g := (mkF m 90 #[.val (.int vp), .val (.int vq), .val (.int vr), .val (.int vs), .val (.int vt), .val (.int va), .val (.int vb), .val (.int vc), .val (.int vy), .val (.int vx), .val (.ref b299), .val (.int (1 : Int32)), .val (.int (1 : Int32)), .unset, .unset, .unset, .unset, .unset, .unset] [(.ref em)])) rfl (by rw [hml]; rfl) (Steps.refl _) (argsL := []) (rest := []) (lenOf pd_6 rfl) rfl (by show 2 * 0 + _ ≤ _; exact Nat.le_of_eq rfl) (hb hby at_90) (fun _ _ => ⟨rfl, rfl, (by decide : 2 + 0 ≤ _), (by decide : 1003 + 0 ≤ _)⟩)
  dsimp only [Pt.U, Pt.locs, Pt.cells, Pt.slots] at X308 l308 y308 z308 st308 hQ308
  subst l308 y308 z308
  obtain ⟨rfl, Nq308, e308⟩ := hQ308
  have N308 := Fr.app N307 Nq308
  obtain ⟨cq309, kq309, q309a, q309b, q309c⟩ := isOf hZ e308 G307_0
  obtain ⟨_, _, ⟨T309, L309, k309, n309⟩, -, X309, ⟨Lc309, hQ309, l309, y309, z309⟩, st309⟩ := X308.virtualBack hx (y := (⟨"com/example/caddis/caddis/XmlNesting", "leave", "()V"⟩ : MethodName)) (z := (⟨"com/example/caddis/caddis/XmlNesting", "leave", "()V"⟩ : MethodName)) hown (mvT hZ (hw _ (List.mem_of_getElem? (i := 34) rfl))) (mvT hZ (hw _ (List.mem_of_getElem? (i := 35) rfl))) (notFace_of_selects (args := #[]) (mvT hZ (hw _ (List.mem_of_getElem? (i := 37) rfl)))) (mvT hZ (hw _ (List.mem_of_getElem? (i := 37) rfl))) (mvT hZ (hw _ (List.mem_of_getElem? (i := 36) rfl))) (by decide) (backOf (W := 0) (rlv2 l Z a0 hw [] b299 ar300 (va + vc) vc (upd (upd (upd (fun _ => (0 : Int32)) 0 va) 1 vb) 1 vc) T307.heap n0 Z307 G307_0 G307_1 G307_2 G307_3 G307_4 gz299 na300 rfl) hZ (hw _ (List.mem_of_getElem? (i := 38) rfl)) (hw _ (List.mem_of_getElem? (i := 3) rfl)) (by decide) (by decide)) q309a q309c (g := (mkF m 130 #[.val (.int vp), .val (.int vq), .val (.int vr), .val (.int vs), .val (.int vt), .val (.int va), .val (.int vb), .val (.int vc), .val (.int vy), .val (.int vx), .val (.ref b299), .val (.int (1 : Int32)), .val (.int (1 : Int32)), .val (.int (1 : Int32)), .val (.int (1 : Int32)), .unset, .unset, .unset, .unset] [(.ref b299)])) rfl (by rw [hml]; rfl) (Steps.refl _) (argsL := []) (rest := []) (lenOf pd_4 rfl) rfl (by show 2 * 0 + _ ≤ _; exact Nat.le_of_eq rfl) (hb hby at_130) (fun _ _ => ⟨rfl, e308, (by decide : 2 + 0 ≤ _), (by decide : 1003 + 0 ≤ _)⟩)
  dsimp only [Pt.U, Pt.locs, Pt.cells, Pt.slots] at X309 l309 y309 z309 st309 hQ309
  subst l309 y309 z309
  obtain ⟨rfl, Nq309, Kq309, G309_0, G309_1, G309_2, G309_3⟩ := hQ309
  have N309 := Fr.app N308 Nq309
  have zA310 := G307_4.keep Kq309 (ninS (Ne.symm na300) nin0)
  have Z309 := Nat.le_trans Z307 Kq309.1
  have Od309 := Od307.keep Kq309 (allS gz299 all0)
  rw [eC] at G309_3
  obtain ⟨cq311, kq311, q311a, q311b, q311c⟩ := isOf hZ rfl G309_0
  obtain ⟨_, _, ⟨T311, L311, k311, n311⟩, -, X311, hS311, hG311, ⟨Lc311, hQ311, l311, y311, z311⟩, st311⟩ := X309.virtualBackS hx (y := (⟨"com/example/caddis/caddis/XmlNesting", "enter", "(I)Ljava/util/Optional;"⟩ : MethodName)) (z := (⟨"com/example/caddis/caddis/XmlNesting", "enter", "(I)Ljava/util/Optional;"⟩ : MethodName)) hown (mvT hZ (hw _ (List.mem_of_getElem? (i := 13) rfl))) (mvT hZ (hw _ (List.mem_of_getElem? (i := 14) rfl))) (notFace_of_selects (args := #[]) (mvT hZ (hw _ (List.mem_of_getElem? (i := 16) rfl)))) (mvT hZ (hw _ (List.mem_of_getElem? (i := 16) rfl))) (mvT hZ (hw _ (List.mem_of_getElem? (i := 15) rfl))) (by decide) (backOfS (W := 0) (rex1 l Z a0 hw [] b299 ar300 em va vy (upd (upd (upd (fun _ => (0 : Int32)) 0 va) 1 vb) 1 vc) T309.heap n0 Z309 G309_0 G309_1 G309_2 G309_3 zA310 gz299 ga300 na300 (Se.ext Od309.2) hc155) hZ (hw _ (List.mem_of_getElem? (i := 17) rfl)) (hw _ (List.mem_of_getElem? (i := 3) rfl)) (by decide) (by decide)) q311a q311c (g := (mkF m 137 #[.val (.int vp), .val (.int vq), .val (.int vr), .val (.int vs), .val (.int vt), .val (.int va), .val (.int vb), .val (.int vc), .val (.int vy), .val (.int vx), .val (.ref b299), .val (.int (1 : Int32)), .val (.int (1 : Int32)), .val (.int (1 : Int32)), .val (.int (1 : Int32)), .unset, .unset, .unset, .unset] [(.int vy), (.ref b299)])) rfl (by rw [hml]; rfl) (Steps.refl _) (argsL := [(.int vy)]) (rest := []) (lenOf pd_5 rfl) rfl (by show 2 * 0 + _ ≤ _; exact Nat.le_of_eq rfl) (hb hby at_137) (fun _ _ => ⟨rfl, rfl, (by decide : 2 + 3 ≤ _), (by decide : 1003 + 253 ≤ _)⟩)
  dsimp only [Pt.U, Pt.locs, Pt.cells, Pt.slots] at X311 hS311 hG311 l311 y311 z311 st311 hQ311
  subst l311 y311 z311
  obtain ⟨o311, y311, rfl, Nq311, Kq311, go311, G311_1, G311_2⟩ := hQ311
  have N311 := Fr.app N309 Nq311
  have zF312 := G309_1.keep Kq311 nin0
  have zF313 := G309_2.keep Kq311 nin0
  have zF314 := G309_3.keep Kq311 nin0
  have zE315 := G309_0.keep Kq311
  have zA316 := zA310.keep Kq311 nin0
  have Z311 := Nat.le_trans Z309 Kq311.1
  have Od311 := Od309.keep Kq311 all0
  have hZ311 : Z.Warmed39 (s.setVm T311.vm).vm := State.Warmed39.trans (t := s) hZ hS311.1
  have hown311 : (s.setVm T311.vm).vm.findClass "com/example/caddis/caddis/XmlNestingLeavePinLaw" = some m.cls := by rw [show (s.setVm T311.vm).vm = T311.vm from rfl, hS311.1.alike.findClass]; exact hown
  have sl311 : T311.heap.size ≤ T311.heap.size := Nat.le_refl _
  obtain ⟨cq317, kq317, q317a, q317b, q317c⟩ := isOf hZ311 rfl G311_1
  obtain ⟨_, _, ⟨T317, L317, k317, n317⟩, -, X317, ⟨Lc317, hQ317, l317, y317, z317⟩, st317⟩ := X311.virtualBack hx (y := (⟨"java/util/Optional", "isEmpty", "()Z"⟩ : MethodName)) (z := (⟨"java/util/Optional", "isEmpty", "()Z"⟩ : MethodName)) hown311 (mvT hZ311 (hw _ (List.mem_of_getElem? (i := 27) rfl))) (mvT hZ311 (hw _ (List.mem_of_getElem? (i := 28) rfl))) (notFace_of_selects (args := #[]) (mvT hZ311 (hw _ (List.mem_of_getElem? (i := 30) rfl)))) (mvT hZ311 (hw _ (List.mem_of_getElem? (i := 30) rfl))) (mvT hZ311 (hw _ (List.mem_of_getElem? (i := 29) rfl))) (by decide) (backOf (W := 0) (ris0 l Z a0 hw [] o311 y311 T311.heap n0 Z311 G311_2) hZ311 (hw _ (List.mem_of_getElem? (i := 31) rfl)) (hw _ (List.mem_of_getElem? (i := 24) rfl)) (by decide) (by decide)) q317a q317c (g := (mkF m 140 #[.val (.int vp), .val (.int vq), .val (.int vr), .val (.int vs), .val (.int vt), .val (.int va), .val (.int vb), .val (.int vc), .val (.int vy), .val (.int vx), .val (.ref b299), .val (.int (1 : Int32)), .val (.int (1 : Int32)), .val (.int (1 : Int32)), .val (.int (1 : Int32)), .unset, .unset, .unset, .unset] [(.ref o311)])) rfl (by rw [hml]; rfl) (Steps.refl _) (argsL := []) (rest := []) (lenOf pd_6 rfl) rfl (by show 2 * 0 + _ ≤ _; exact Nat.le_of_eq rfl) (hb hby at_140) (fun _ _ => ⟨rfl, rfl, (by decide : 5 + 0 ≤ _), (by decide : 1256 + 0 ≤ _)⟩)
  dsimp only [Pt.U, Pt.locs, Pt.cells, Pt.slots] at X317 l317 y317 z317 st317 hQ317
  subst l317 y317 z317
  obtain ⟨rfl, Nq317, e317⟩ := hQ317
  have N317 := Fr.app N311 Nq317
  obtain ⟨cq318, kq318, q318a, q318b, q318c⟩ := isOf hZ311 e317 zE315
  obtain ⟨_, _, ⟨T318, L318, k318, n318⟩, -, X318, ⟨Lc318, hQ318, l318, y318, z318⟩, st318⟩ := X317.virtualBack hx (y := (⟨"com/example/caddis/caddis/XmlNesting", "leave", "()V"⟩ : MethodName)) (z := (⟨"com/example/caddis/caddis/XmlNesting", "leave", "()V"⟩ : MethodName)) hown311 (mvT hZ311 (hw _ (List.mem_of_getElem? (i := 34) rfl))) (mvT hZ311 (hw _ (List.mem_of_getElem? (i := 35) rfl))) (notFace_of_selects (args := #[]) (mvT hZ311 (hw _ (List.mem_of_getElem? (i := 37) rfl)))) (mvT hZ311 (hw _ (List.mem_of_getElem? (i := 37) rfl))) (mvT hZ311 (hw _ (List.mem_of_getElem? (i := 36) rfl))) (by decide) (backOf (W := 0) (rlv1 l Z a0 hw [] b299 ar300 va va (upd (upd (upd (fun _ => (0 : Int32)) 0 va) 1 vb) 1 vc) T311.heap n0 Z311 zE315 zF312 zF313 zF314 zA316 gz299 na300 rfl) hZ311 (hw _ (List.mem_of_getElem? (i := 38) rfl)) (hw _ (List.mem_of_getElem? (i := 3) rfl)) (by decide) (by decide)) q318a q318c (g := (mkF m 185 #[.val (.int vp), .val (.int vq), .val (.int vr), .val (.int vs), .val (.int vt), .val (.int va), .val (.int vb), .val (.int vc), .val (.int vy), .val (.int vx), .val (.ref b299), .val (.int (1 : Int32)), .val (.int (1 : Int32)), .val (.int (1 : Int32)), .val (.int (1 : Int32)), .val (.int (0 : Int32)), .val (.int (1 : Int32)), .unset, .unset] [(.ref b299)])) rfl (by rw [hml]; rfl) (Steps.refl _) (argsL := []) (rest := []) (lenOf pd_4 rfl) rfl (by show 2 * 0 + _ ≤ _; exact Nat.le_of_eq rfl) (hb hby at_185) (fun _ _ => ⟨rfl, e317, (by decide : 5 + 0 ≤ _), (by decide : 1256 + 0 ≤ _)⟩)
  dsimp only [Pt.U, Pt.locs, Pt.cells, Pt.slots] at X318 l318 y318 z318 st318 hQ318
  subst l318 y318 z318
  obtain ⟨rfl, Nq318, Kq318, G318_0, G318_1, G318_2, G318_3⟩ := hQ318
  have N318 := Fr.app N317 Nq318
  have zE319 := G311_1.keep Kq318
  have zA320 := zA316.keep Kq318 (ninS (Ne.symm na300) nin0)
  have Z318 := Nat.le_trans Z311 Kq318.1
  have Od318 := Od311.keep Kq318 (allS gz299 all0)
  have sl318 := Nat.le_trans sl311 Kq318.1
  rw [eZ] at G318_3
  obtain ⟨cq321, kq321, q321a, q321b, q321c⟩ := isOf hZ311 rfl G318_0
  obtain ⟨_, _, ⟨T321, L321, k321, n321⟩, -, X321, ⟨Lc321, hQ321, l321, y321, z321⟩, st321⟩ := X318.virtualBack hx (y := (⟨"com/example/caddis/caddis/XmlNesting", "enter", "(I)Ljava/util/Optional;"⟩ : MethodName)) (z := (⟨"com/example/caddis/caddis/XmlNesting", "enter", "(I)Ljava/util/Optional;"⟩ : MethodName)) hown311 (mvT hZ311 (hw _ (List.mem_of_getElem? (i := 13) rfl))) (mvT hZ311 (hw _ (List.mem_of_getElem? (i := 14) rfl))) (notFace_of_selects (args := #[]) (mvT hZ311 (hw _ (List.mem_of_getElem? (i := 16) rfl)))) (mvT hZ311 (hw _ (List.mem_of_getElem? (i := 16) rfl))) (mvT hZ311 (hw _ (List.mem_of_getElem? (i := 15) rfl))) (by decide) (backOf (W := 0) (ren0 l Z a0 hw [] b299 ar300 em (0 : Int32) vx (upd (upd (upd (fun _ => (0 : Int32)) 0 va) 1 vb) 1 vc) T318.heap n0 Z318 G318_0 G318_1 G318_2 G318_3 zA320 gz299 ga300 na300 (Se.ext Od318.2) (by rw [eX]; exact hc207)) hZ311 (hw _ (List.mem_of_getElem? (i := 17) rfl)) (hw _ (List.mem_of_getElem? (i := 3) rfl)) (by decide) (by decide)) q321a q321c (g := (mkF m 192 #[.val (.int vp), .val (.int vq), .val (.int vr), .val (.int vs), .val (.int vt), .val (.int va), .val (.int vb), .val (.int vc), .val (.int vy), .val (.int vx), .val (.ref b299), .val (.int (1 : Int32)), .val (.int (1 : Int32)), .val (.int (1 : Int32)), .val (.int (1 : Int32)), .val (.int (0 : Int32)), .val (.int (1 : Int32)), .unset, .unset] [(.int vx), (.ref b299)])) rfl (by rw [hml]; rfl) (Steps.refl _) (argsL := [(.int vx)]) (rest := []) (lenOf pd_5 rfl) rfl (by show 2 * 0 + _ ≤ _; exact Nat.le_of_eq rfl) (hb hby at_192) (fun _ _ => ⟨rfl, rfl, (by decide : 5 + 0 ≤ _), (by decide : 1256 + 0 ≤ _)⟩)
  dsimp only [Pt.U, Pt.locs, Pt.cells, Pt.slots] at X321 l321 y321 z321 st321 hQ321
  subst l321 y321 z321
  obtain ⟨rfl, Nq321, Kq321, G321_0, G321_1, G321_2, G321_3, G321_4⟩ := hQ321
  have N321 := Fr.app N318 Nq321
  have zE322 := zE319.keep Kq321
  have Z321 := Nat.le_trans Z318 Kq321.1
  have Od321 := Od318.keep Kq321 (allS gz299 (allS ga300 all0))
  have sl321 := Nat.le_trans sl318 Kq321.1
  rw [eX] at G321_3
  obtain ⟨cq323, kq323, q323a, q323b, q323c⟩ := isOf hZ311 rfl (Ee.ext Od321.2)
  obtain ⟨_, _, ⟨T323, L323, k323, n323⟩, -, X323, ⟨Lc323, hQ323, l323, y323, z323⟩, st323⟩ := X321.virtualBack hx (y := (⟨"java/util/Optional", "isEmpty", "()Z"⟩ : MethodName)) (z := (⟨"java/util/Optional", "isEmpty", "()Z"⟩ : MethodName)) hown311 (mvT hZ311 (hw _ (List.mem_of_getElem? (i := 27) rfl))) (mvT hZ311 (hw _ (List.mem_of_getElem? (i := 28) rfl))) (notFace_of_selects (args := #[]) (mvT hZ311 (hw _ (List.mem_of_getElem? (i := 30) rfl)))) (mvT hZ311 (hw _ (List.mem_of_getElem? (i := 30) rfl))) (mvT hZ311 (hw _ (List.mem_of_getElem? (i := 29) rfl))) (by decide) (backOf (W := 0) (ris1 l Z a0 hw [] em T321.heap n0 Z321 (Fe.ext Od321.2)) hZ311 (hw _ (List.mem_of_getElem? (i := 31) rfl)) (hw _ (List.mem_of_getElem? (i := 24) rfl)) (by decide) (by decide)) q323a q323c (g := (mkF m 195 #[.val (.int vp), .val (.int vq), .val (.int vr), .val (.int vs), .val (.int vt), .val (.int va), .val (.int vb), .val (.int vc), .val (.int vy), .val (.int vx), .val (.ref b299), .val (.int (1 : Int32)), .val (.int (1 : Int32)), .val (.int (1 : Int32)), .val (.int (1 : Int32)), .val (.int (0 : Int32)), .val (.int (1 : Int32)), .unset, .unset] [(.ref em)])) rfl (by rw [hml]; rfl) (Steps.refl _) (argsL := []) (rest := []) (lenOf pd_6 rfl) rfl (by show 2 * 0 + _ ≤ _; exact Nat.le_of_eq rfl) (hb hby at_195) (fun _ _ => ⟨rfl, rfl, (by decide : 5 + 0 ≤ _), (by decide : 1256 + 0 ≤ _)⟩)
  dsimp only [Pt.U, Pt.locs, Pt.cells, Pt.slots] at X323 l323 y323 z323 st323 hQ323
  subst l323 y323 z323
  obtain ⟨rfl, Nq323, e323⟩ := hQ323
  have N323 := Fr.app N321 Nq323
  obtain ⟨fs, hr, hrun, hended, hend⟩ := X323.leaveW hS311 (by rw [e323]; exact sl321) (v := some (.int (1 : Int32))) (fun h => by rw [Bd.returns] at h; cases h)
  refine ⟨_, _, pre0 _ ?_, hrun, hended, _, _, rfl, ?_, hend.1, hend.2.1, hend.2.2.1, hend.2.2.2.mono (by decide) (by decide)⟩
  · show Steps p.tables e below (s₁.setTop (mkF m 0 #[.val (.int vp), .val (.int vq), .val (.int vr), .val (.int vs), .val (.int vt), .unset, .unset, .unset, .unset, .unset, .unset, .unset, .unset, .unset, .unset, .unset, .unset, .unset, .unset] [])) _
    refine pA vp vq vr vs vt va vb vc vy vx X0 hx hZ hw hby hown qa qb qc qy qx hnz _ ?_
    show Steps p.tables e below (s₁.setTop (mkF m 45 #[.val (.int vp), .val (.int vq), .val (.int vr), .val (.int vs), .val (.int vt), .val (.int va), .val (.int vb), .val (.int vc), .val (.int vy), .val (.int vx), .unset, .unset, .unset, .unset, .unset, .unset, .unset, .unset, .unset] [])) _
    refine st299 _ ?_
    show Steps p.tables e below (T299.setTop (mkF m 48 #[.val (.int vp), .val (.int vq), .val (.int vr), .val (.int vs), .val (.int vt), .val (.int va), .val (.int vb), .val (.int vc), .val (.int vy), .val (.int vx), .unset, .unset, .unset, .unset, .unset, .unset, .unset, .unset, .unset] [(.ref b299)])) _
    refine XS.dup X299.here hx rfl (hb hby at_48) rfl rfl ?_
    show Steps p.tables e below (T299.setTop (mkF m 49 #[.val (.int vp), .val (.int vq), .val (.int vr), .val (.int vs), .val (.int vt), .val (.int va), .val (.int vb), .val (.int vc), .val (.int vy), .val (.int vx), .unset, .unset, .unset, .unset, .unset, .unset, .unset, .unset, .unset] [(.ref b299), (.ref b299)])) _
    refine st300.trans ?_
    show Steps p.tables e below (T300.setTop (mkF m 52 #[.val (.int vp), .val (.int vq), .val (.int vr), .val (.int vs), .val (.int vt), .val (.int va), .val (.int vb), .val (.int vc), .val (.int vy), .val (.int vx), .unset, .unset, .unset, .unset, .unset, .unset, .unset, .unset, .unset] [(.ref b299)])) _
    refine XS.astore X300.here hx rfl (hb hby at_52) rfl rfl (l' := #[.val (.int vp), .val (.int vq), .val (.int vr), .val (.int vs), .val (.int vt), .val (.int va), .val (.int vb), .val (.int vc), .val (.int vy), .val (.int vx), .val (.ref b299), .unset, .unset, .unset, .unset, .unset, .unset, .unset, .unset]) rfl ?_
    show Steps p.tables e below (T300.setTop (mkF m 54 #[.val (.int vp), .val (.int vq), .val (.int vr), .val (.int vs), .val (.int vt), .val (.int va), .val (.int vb), .val (.int vc), .val (.int vy), .val (.int vx), .val (.ref b299), .unset, .unset, .unset, .unset, .unset, .unset, .unset, .unset] [])) _
    refine XS.aload X300.here hx rfl (hb hby at_54) rfl rfl ?_
    show Steps p.tables e below (T300.setTop (mkF m 56 #[.val (.int vp), .val (.int vq), .val (.int vr), .val (.int vs), .val (.int vt), .val (.int va), .val (.int vb), .val (.int vc), .val (.int vy), .val (.int vx), .val (.ref b299), .unset, .unset, .unset, .unset, .unset, .unset, .unset, .unset] [(.ref b299)])) _
    refine XS.iload X300.here hx rfl (hb hby at_56) rfl ?_
    show Steps p.tables e below (T300.setTop (mkF m 58 #[.val (.int vp), .val (.int vq), .val (.int vr), .val (.int vs), .val (.int vt), .val (.int va), .val (.int vb), .val (.int vc), .val (.int vy), .val (.int vx), .val (.ref b299), .unset, .unset, .unset, .unset, .unset, .unset, .unset, .unset] [(.int va), (.ref b299)])) _
    refine st301.trans ?_
    show Steps p.tables e below (T301.setTop (mkF m 61 #[.val (.int vp), .val (.int vq), .val (.int vr), .val (.int vs), .val (.int vt), .val (.int va), .val (.int vb), .val (.int vc), .val (.int vy), .val (.int vx), .val (.ref b299), .unset, .unset, .unset, .unset, .unset, .unset, .unset, .unset] [(.ref em)])) _
    refine st302.trans ?_
    show Steps p.tables e below (T302.setTop (mkF m 64 #[.val (.int vp), .val (.int vq), .val (.int vr), .val (.int vs), .val (.int vt), .val (.int va), .val (.int vb), .val (.int vc), .val (.int vy), .val (.int vx), .val (.ref b299), .unset, .unset, .unset, .unset, .unset, .unset, .unset, .unset] [(.int (1 : Int32))])) _
    refine XS.istore X302.here hx rfl (hb hby at_64) rfl (l' := #[.val (.int vp), .val (.int vq), .val (.int vr), .val (.int vs), .val (.int vt), .val (.int va), .val (.int vb), .val (.int vc), .val (.int vy), .val (.int vx), .val (.ref b299), .val (.int (1 : Int32)), .unset, .unset, .unset, .unset, .unset, .unset, .unset]) rfl ?_
    show Steps p.tables e below (T302.setTop (mkF m 66 #[.val (.int vp), .val (.int vq), .val (.int vr), .val (.int vs), .val (.int vt), .val (.int va), .val (.int vb), .val (.int vc), .val (.int vy), .val (.int vx), .val (.ref b299), .val (.int (1 : Int32)), .unset, .unset, .unset, .unset, .unset, .unset, .unset] [])) _
    refine XS.aload X302.here hx rfl (hb hby at_66) rfl rfl ?_
    show Steps p.tables e below (T302.setTop (mkF m 68 #[.val (.int vp), .val (.int vq), .val (.int vr), .val (.int vs), .val (.int vt), .val (.int va), .val (.int vb), .val (.int vc), .val (.int vy), .val (.int vx), .val (.ref b299), .val (.int (1 : Int32)), .unset, .unset, .unset, .unset, .unset, .unset, .unset] [(.ref b299)])) _
    refine XS.iload X302.here hx rfl (hb hby at_68) rfl ?_
    show Steps p.tables e below (T302.setTop (mkF m 70 #[.val (.int vp), .val (.int vq), .val (.int vr), .val (.int vs), .val (.int vt), .val (.int va), .val (.int vb), .val (.int vc), .val (.int vy), .val (.int vx), .val (.ref b299), .val (.int (1 : Int32)), .unset, .unset, .unset, .unset, .unset, .unset, .unset] [(.int vb), (.ref b299)])) _
    refine st303.trans ?_
    show Steps p.tables e below (T303.setTop (mkF m 73 #[.val (.int vp), .val (.int vq), .val (.int vr), .val (.int vs), .val (.int vt), .val (.int va), .val (.int vb), .val (.int vc), .val (.int vy), .val (.int vx), .val (.ref b299), .val (.int (1 : Int32)), .unset, .unset, .unset, .unset, .unset, .unset, .unset] [(.ref em)])) _
    refine st304.trans ?_
    show Steps p.tables e below (T304.setTop (mkF m 76 #[.val (.int vp), .val (.int vq), .val (.int vr), .val (.int vs), .val (.int vt), .val (.int va), .val (.int vb), .val (.int vc), .val (.int vy), .val (.int vx), .val (.ref b299), .val (.int (1 : Int32)), .unset, .unset, .unset, .unset, .unset, .unset, .unset] [(.int (1 : Int32))])) _
    refine XS.istore X304.here hx rfl (hb hby at_76) rfl (l' := #[.val (.int vp), .val (.int vq), .val (.int vr), .val (.int vs), .val (.int vt), .val (.int va), .val (.int vb), .val (.int vc), .val (.int vy), .val (.int vx), .val (.ref b299), .val (.int (1 : Int32)), .val (.int (1 : Int32)), .unset, .unset, .unset, .unset, .unset, .unset]) rfl ?_
    show Steps p.tables e below (T304.setTop (mkF m 78 #[.val (.int vp), .val (.int vq), .val (.int vr), .val (.int vs), .val (.int vt), .val (.int va), .val (.int vb), .val (.int vc), .val (.int vy), .val (.int vx), .val (.ref b299), .val (.int (1 : Int32)), .val (.int (1 : Int32)), .unset, .unset, .unset, .unset, .unset, .unset] [])) _
    refine XS.aload X304.here hx rfl (hb hby at_78) rfl rfl ?_
    show Steps p.tables e below (T304.setTop (mkF m 80 #[.val (.int vp), .val (.int vq), .val (.int vr), .val (.int vs), .val (.int vt), .val (.int va), .val (.int vb), .val (.int vc), .val (.int vy), .val (.int vx), .val (.ref b299), .val (.int (1 : Int32)), .val (.int (1 : Int32)), .unset, .unset, .unset, .unset, .unset, .unset] [(.ref b299)])) _
    refine st305.trans ?_
    show Steps p.tables e below (T305.setTop (mkF m 83 #[.val (.int vp), .val (.int vq), .val (.int vr), .val (.int vs), .val (.int vt), .val (.int va), .val (.int vb), .val (.int vc), .val (.int vy), .val (.int vx), .val (.ref b299), .val (.int (1 : Int32)), .val (.int (1 : Int32)), .unset, .unset, .unset, .unset, .unset, .unset] [])) _
    refine XS.aload X305.here hx rfl (hb hby at_83) rfl rfl ?_
    show Steps p.tables e below (T305.setTop (mkF m 85 #[.val (.int vp), .val (.int vq), .val (.int vr), .val (.int vs), .val (.int vt), .val (.int va), .val (.int vb), .val (.int vc), .val (.int vy), .val (.int vx), .val (.ref b299), .val (.int (1 : Int32)), .val (.int (1 : Int32)), .unset, .unset, .unset, .unset, .unset, .unset] [(.ref b299)])) _
    refine XS.iload X305.here hx rfl (hb hby at_85) rfl ?_
    show Steps p.tables e below (T305.setTop (mkF m 87 #[.val (.int vp), .val (.int vq), .val (.int vr), .val (.int vs), .val (.int vt), .val (.int va), .val (.int vb), .val (.int vc), .val (.int vy), .val (.int vx), .val (.ref b299), .val (.int (1 : Int32)), .val (.int (1 : Int32)), .unset, .unset, .unset, .unset, .unset, .unset] [(.int vc), (.ref b299)])) _
    refine st307.trans ?_
    show Steps p.tables e below (T307.setTop (mkF m 90 #[.val (.int vp), .val (.int vq), .val (.int vr), .val (.int vs), .val (.int vt), .val (.int va), .val (.int vb), .val (.int vc), .val (.int vy), .val (.int vx), .val (.ref b299), .val (.int (1 : Int32)), .val (.int (1 : Int32)), .unset, .unset, .unset, .unset, .unset, .unset] [(.ref em)])) _
    refine st308.trans ?_
    show Steps p.tables e below (T308.setTop (mkF m 93 #[.val (.int vp), .val (.int vq), .val (.int vr), .val (.int vs), .val (.int vt), .val (.int va), .val (.int vb), .val (.int vc), .val (.int vy), .val (.int vx), .val (.ref b299), .val (.int (1 : Int32)), .val (.int (1 : Int32)), .unset, .unset, .unset, .unset, .unset, .unset] [(.int (1 : Int32))])) _
    refine XS.istore X308.here hx rfl (hb hby at_93) rfl (l' := #[.val (.int vp), .val (.int vq), .val (.int vr), .val (.int vs), .val (.int vt), .val (.int va), .val (.int vb), .val (.int vc), .val (.int vy), .val (.int vx), .val (.ref b299), .val (.int (1 : Int32)), .val (.int (1 : Int32)), .val (.int (1 : Int32)), .unset, .unset, .unset, .unset, .unset]) rfl ?_
    show Steps p.tables e below (T308.setTop (mkF m 95 #[.val (.int vp), .val (.int vq), .val (.int vr), .val (.int vs), .val (.int vt), .val (.int va), .val (.int vb), .val (.int vc), .val (.int vy), .val (.int vx), .val (.ref b299), .val (.int (1 : Int32)), .val (.int (1 : Int32)), .val (.int (1 : Int32)), .unset, .unset, .unset, .unset, .unset] [])) _
    refine XS.iload X308.here hx rfl (hb hby at_95) rfl ?_
    show Steps p.tables e below (T308.setTop (mkF m 97 #[.val (.int vp), .val (.int vq), .val (.int vr), .val (.int vs), .val (.int vt), .val (.int va), .val (.int vb), .val (.int vc), .val (.int vy), .val (.int vx), .val (.ref b299), .val (.int (1 : Int32)), .val (.int (1 : Int32)), .val (.int (1 : Int32)), .unset, .unset, .unset, .unset, .unset] [(.int (1 : Int32))])) _
    refine XS.iload X308.here hx rfl (hb hby at_97) rfl ?_
    show Steps p.tables e below (T308.setTop (mkF m 99 #[.val (.int vp), .val (.int vq), .val (.int vr), .val (.int vs), .val (.int vt), .val (.int va), .val (.int vb), .val (.int vc), .val (.int vy), .val (.int vx), .val (.ref b299), .val (.int (1 : Int32)), .val (.int (1 : Int32)), .val (.int (1 : Int32)), .unset, .unset, .unset, .unset, .unset] [(.int va), (.int (1 : Int32))])) _
    refine XS.iload X308.here hx rfl (hb hby at_99) rfl ?_
    show Steps p.tables e below (T308.setTop (mkF m 101 #[.val (.int vp), .val (.int vq), .val (.int vr), .val (.int vs), .val (.int vt), .val (.int va), .val (.int vb), .val (.int vc), .val (.int vy), .val (.int vx), .val (.ref b299), .val (.int (1 : Int32)), .val (.int (1 : Int32)), .val (.int (1 : Int32)), .unset, .unset, .unset, .unset, .unset] [(.int vc), (.int va), (.int (1 : Int32))])) _
    refine XS.iadd X308.here hx rfl (hb hby at_101) rfl ?_
    show Steps p.tables e below (T308.setTop (mkF m 102 #[.val (.int vp), .val (.int vq), .val (.int vr), .val (.int vs), .val (.int vt), .val (.int va), .val (.int vb), .val (.int vc), .val (.int vy), .val (.int vx), .val (.ref b299), .val (.int (1 : Int32)), .val (.int (1 : Int32)), .val (.int (1 : Int32)), .unset, .unset, .unset, .unset, .unset] [(.int (va + vc)), (.int (1 : Int32))])) _
    refine XS.sipush X308.here hx rfl (hb hby at_102) ?_
    show Steps p.tables e below (T308.setTop (mkF m 105 #[.val (.int vp), .val (.int vq), .val (.int vr), .val (.int vs), .val (.int vt), .val (.int va), .val (.int vb), .val (.int vc), .val (.int vy), .val (.int vx), .val (.ref b299), .val (.int (1 : Int32)), .val (.int (1 : Int32)), .val (.int (1 : Int32)), .unset, .unset, .unset, .unset, .unset] [(.int (1000 : Int32)), (.int (va + vc)), (.int (1 : Int32))])) _
    refine XS.icmpNo X308.here hx rfl (hb hby at_105) rfl (flt hc105).2.2.1 ?_
    show Steps p.tables e below (T308.setTop (mkF m 108 #[.val (.int vp), .val (.int vq), .val (.int vr), .val (.int vs), .val (.int vt), .val (.int va), .val (.int vb), .val (.int vc), .val (.int vy), .val (.int vx), .val (.ref b299), .val (.int (1 : Int32)), .val (.int (1 : Int32)), .val (.int (1 : Int32)), .unset, .unset, .unset, .unset, .unset] [(.int (1 : Int32))])) _
    refine XS.iconst X308.here hx rfl (hb hby at_108) ?_
    show Steps p.tables e below (T308.setTop (mkF m 109 #[.val (.int vp), .val (.int vq), .val (.int vr), .val (.int vs), .val (.int vt), .val (.int va), .val (.int vb), .val (.int vc), .val (.int vy), .val (.int vx), .val (.ref b299), .val (.int (1 : Int32)), .val (.int (1 : Int32)), .val (.int (1 : Int32)), .unset, .unset, .unset, .unset, .unset] [(.int (1 : Int32)), (.int (1 : Int32))])) _
    refine XS.goto X308.here hx rfl (pc0 := 109) (pc' := 113) rfl (hb hby at_109) (by decide) (by decide) ?_
    show Steps p.tables e below (T308.setTop (mkF m 113 #[.val (.int vp), .val (.int vq), .val (.int vr), .val (.int vs), .val (.int vt), .val (.int va), .val (.int vb), .val (.int vc), .val (.int vy), .val (.int vx), .val (.ref b299), .val (.int (1 : Int32)), .val (.int (1 : Int32)), .val (.int (1 : Int32)), .unset, .unset, .unset, .unset, .unset] [(.int (1 : Int32)), (.int (1 : Int32))])) _
    refine XS.icmpNo X308.here hx rfl (hb hby at_113) rfl (teq (by decide)).2 ?_
    show Steps p.tables e below (T308.setTop (mkF m 116 #[.val (.int vp), .val (.int vq), .val (.int vr), .val (.int vs), .val (.int vt), .val (.int va), .val (.int vb), .val (.int vc), .val (.int vy), .val (.int vx), .val (.ref b299), .val (.int (1 : Int32)), .val (.int (1 : Int32)), .val (.int (1 : Int32)), .unset, .unset, .unset, .unset, .unset] [])) _
    refine XS.iconst X308.here hx rfl (hb hby at_116) ?_
    show Steps p.tables e below (T308.setTop (mkF m 117 #[.val (.int vp), .val (.int vq), .val (.int vr), .val (.int vs), .val (.int vt), .val (.int va), .val (.int vb), .val (.int vc), .val (.int vy), .val (.int vx), .val (.ref b299), .val (.int (1 : Int32)), .val (.int (1 : Int32)), .val (.int (1 : Int32)), .unset, .unset, .unset, .unset, .unset] [(.int (1 : Int32))])) _
    refine XS.goto X308.here hx rfl (pc0 := 117) (pc' := 121) rfl (hb hby at_117) (by decide) (by decide) ?_
    show Steps p.tables e below (T308.setTop (mkF m 121 #[.val (.int vp), .val (.int vq), .val (.int vr), .val (.int vs), .val (.int vt), .val (.int va), .val (.int vb), .val (.int vc), .val (.int vy), .val (.int vx), .val (.ref b299), .val (.int (1 : Int32)), .val (.int (1 : Int32)), .val (.int (1 : Int32)), .unset, .unset, .unset, .unset, .unset] [(.int (1 : Int32))])) _
    refine XS.istore X308.here hx rfl (hb hby at_121) rfl (l' := #[.val (.int vp), .val (.int vq), .val (.int vr), .val (.int vs), .val (.int vt), .val (.int va), .val (.int vb), .val (.int vc), .val (.int vy), .val (.int vx), .val (.ref b299), .val (.int (1 : Int32)), .val (.int (1 : Int32)), .val (.int (1 : Int32)), .val (.int (1 : Int32)), .unset, .unset, .unset, .unset]) rfl ?_
    show Steps p.tables e below (T308.setTop (mkF m 123 #[.val (.int vp), .val (.int vq), .val (.int vr), .val (.int vs), .val (.int vt), .val (.int va), .val (.int vb), .val (.int vc), .val (.int vy), .val (.int vx), .val (.ref b299), .val (.int (1 : Int32)), .val (.int (1 : Int32)), .val (.int (1 : Int32)), .val (.int (1 : Int32)), .unset, .unset, .unset, .unset] [])) _
    refine XS.iload X308.here hx rfl (hb hby at_123) rfl ?_
    show Steps p.tables e below (T308.setTop (mkF m 125 #[.val (.int vp), .val (.int vq), .val (.int vr), .val (.int vs), .val (.int vt), .val (.int va), .val (.int vb), .val (.int vc), .val (.int vy), .val (.int vx), .val (.ref b299), .val (.int (1 : Int32)), .val (.int (1 : Int32)), .val (.int (1 : Int32)), .val (.int (1 : Int32)), .unset, .unset, .unset, .unset] [(.int (1 : Int32))])) _
    refine XS.ifNo X308.here hx rfl (hb hby at_125) rfl ((if0 _ _).trans (feq (by decide)).1) ?_
    show Steps p.tables e below (T308.setTop (mkF m 128 #[.val (.int vp), .val (.int vq), .val (.int vr), .val (.int vs), .val (.int vt), .val (.int va), .val (.int vb), .val (.int vc), .val (.int vy), .val (.int vx), .val (.ref b299), .val (.int (1 : Int32)), .val (.int (1 : Int32)), .val (.int (1 : Int32)), .val (.int (1 : Int32)), .unset, .unset, .unset, .unset] [])) _
    refine XS.aload X308.here hx rfl (hb hby at_128) rfl rfl ?_
    show Steps p.tables e below (T308.setTop (mkF m 130 #[.val (.int vp), .val (.int vq), .val (.int vr), .val (.int vs), .val (.int vt), .val (.int va), .val (.int vb), .val (.int vc), .val (.int vy), .val (.int vx), .val (.ref b299), .val (.int (1 : Int32)), .val (.int (1 : Int32)), .val (.int (1 : Int32)), .val (.int (1 : Int32)), .unset, .unset, .unset, .unset] [(.ref b299)])) _
    refine st309.trans ?_
    show Steps p.tables e below (T309.setTop (mkF m 133 #[.val (.int vp), .val (.int vq), .val (.int vr), .val (.int vs), .val (.int vt), .val (.int va), .val (.int vb), .val (.int vc), .val (.int vy), .val (.int vx), .val (.ref b299), .val (.int (1 : Int32)), .val (.int (1 : Int32)), .val (.int (1 : Int32)), .val (.int (1 : Int32)), .unset, .unset, .unset, .unset] [])) _
    refine XS.aload X309.here hx rfl (hb hby at_133) rfl rfl ?_
    show Steps p.tables e below (T309.setTop (mkF m 135 #[.val (.int vp), .val (.int vq), .val (.int vr), .val (.int vs), .val (.int vt), .val (.int va), .val (.int vb), .val (.int vc), .val (.int vy), .val (.int vx), .val (.ref b299), .val (.int (1 : Int32)), .val (.int (1 : Int32)), .val (.int (1 : Int32)), .val (.int (1 : Int32)), .unset, .unset, .unset, .unset] [(.ref b299)])) _
    refine XS.iload X309.here hx rfl (hb hby at_135) rfl ?_
    show Steps p.tables e below (T309.setTop (mkF m 137 #[.val (.int vp), .val (.int vq), .val (.int vr), .val (.int vs), .val (.int vt), .val (.int va), .val (.int vb), .val (.int vc), .val (.int vy), .val (.int vx), .val (.ref b299), .val (.int (1 : Int32)), .val (.int (1 : Int32)), .val (.int (1 : Int32)), .val (.int (1 : Int32)), .unset, .unset, .unset, .unset] [(.int vy), (.ref b299)])) _
    refine st311.trans ?_
    show Steps p.tables e below (T311.setTop (mkF m 140 #[.val (.int vp), .val (.int vq), .val (.int vr), .val (.int vs), .val (.int vt), .val (.int va), .val (.int vb), .val (.int vc), .val (.int vy), .val (.int vx), .val (.ref b299), .val (.int (1 : Int32)), .val (.int (1 : Int32)), .val (.int (1 : Int32)), .val (.int (1 : Int32)), .unset, .unset, .unset, .unset] [(.ref o311)])) _
    refine st317.trans ?_
    show Steps p.tables e below (T317.setTop (mkF m 143 #[.val (.int vp), .val (.int vq), .val (.int vr), .val (.int vs), .val (.int vt), .val (.int va), .val (.int vb), .val (.int vc), .val (.int vy), .val (.int vx), .val (.ref b299), .val (.int (1 : Int32)), .val (.int (1 : Int32)), .val (.int (1 : Int32)), .val (.int (1 : Int32)), .unset, .unset, .unset, .unset] [(.int (0 : Int32))])) _
    refine XS.istore X317.here hx rfl (hb hby at_143) rfl (l' := #[.val (.int vp), .val (.int vq), .val (.int vr), .val (.int vs), .val (.int vt), .val (.int va), .val (.int vb), .val (.int vc), .val (.int vy), .val (.int vx), .val (.ref b299), .val (.int (1 : Int32)), .val (.int (1 : Int32)), .val (.int (1 : Int32)), .val (.int (1 : Int32)), .val (.int (0 : Int32)), .unset, .unset, .unset]) rfl ?_
    show Steps p.tables e below (T317.setTop (mkF m 145 #[.val (.int vp), .val (.int vq), .val (.int vr), .val (.int vs), .val (.int vt), .val (.int va), .val (.int vb), .val (.int vc), .val (.int vy), .val (.int vx), .val (.ref b299), .val (.int (1 : Int32)), .val (.int (1 : Int32)), .val (.int (1 : Int32)), .val (.int (1 : Int32)), .val (.int (0 : Int32)), .unset, .unset, .unset] [])) _
    refine XS.iload X317.here hx rfl (hb hby at_145) rfl ?_
    show Steps p.tables e below (T317.setTop (mkF m 147 #[.val (.int vp), .val (.int vq), .val (.int vr), .val (.int vs), .val (.int vt), .val (.int va), .val (.int vb), .val (.int vc), .val (.int vy), .val (.int vx), .val (.ref b299), .val (.int (1 : Int32)), .val (.int (1 : Int32)), .val (.int (1 : Int32)), .val (.int (1 : Int32)), .val (.int (0 : Int32)), .unset, .unset, .unset] [(.int (0 : Int32))])) _
    refine XS.iload X317.here hx rfl (hb hby at_147) rfl ?_
    show Steps p.tables e below (T317.setTop (mkF m 149 #[.val (.int vp), .val (.int vq), .val (.int vr), .val (.int vs), .val (.int vt), .val (.int va), .val (.int vb), .val (.int vc), .val (.int vy), .val (.int vx), .val (.ref b299), .val (.int (1 : Int32)), .val (.int (1 : Int32)), .val (.int (1 : Int32)), .val (.int (1 : Int32)), .val (.int (0 : Int32)), .unset, .unset, .unset] [(.int va), (.int (0 : Int32))])) _
    refine XS.iload X317.here hx rfl (hb hby at_149) rfl ?_
    show Steps p.tables e below (T317.setTop (mkF m 151 #[.val (.int vp), .val (.int vq), .val (.int vr), .val (.int vs), .val (.int vt), .val (.int va), .val (.int vb), .val (.int vc), .val (.int vy), .val (.int vx), .val (.ref b299), .val (.int (1 : Int32)), .val (.int (1 : Int32)), .val (.int (1 : Int32)), .val (.int (1 : Int32)), .val (.int (0 : Int32)), .unset, .unset, .unset] [(.int vy), (.int va), (.int (0 : Int32))])) _
    refine XS.iadd X317.here hx rfl (hb hby at_151) rfl ?_
    show Steps p.tables e below (T317.setTop (mkF m 152 #[.val (.int vp), .val (.int vq), .val (.int vr), .val (.int vs), .val (.int vt), .val (.int va), .val (.int vb), .val (.int vc), .val (.int vy), .val (.int vx), .val (.ref b299), .val (.int (1 : Int32)), .val (.int (1 : Int32)), .val (.int (1 : Int32)), .val (.int (1 : Int32)), .val (.int (0 : Int32)), .unset, .unset, .unset] [(.int (va + vy)), (.int (0 : Int32))])) _
    refine XS.sipush X317.here hx rfl (hb hby at_152) ?_
    show Steps p.tables e below (T317.setTop (mkF m 155 #[.val (.int vp), .val (.int vq), .val (.int vr), .val (.int vs), .val (.int vt), .val (.int va), .val (.int vb), .val (.int vc), .val (.int vy), .val (.int vx), .val (.ref b299), .val (.int (1 : Int32)), .val (.int (1 : Int32)), .val (.int (1 : Int32)), .val (.int (1 : Int32)), .val (.int (0 : Int32)), .unset, .unset, .unset] [(.int (1000 : Int32)), (.int (va + vy)), (.int (0 : Int32))])) _
    refine XS.icmpYes X317.here hx rfl (pc0 := 155) (pc' := 162) rfl (hb hby at_155) rfl (tlt hc155).2.2.1 (by decide) (by decide) ?_
    show Steps p.tables e below (T317.setTop (mkF m 162 #[.val (.int vp), .val (.int vq), .val (.int vr), .val (.int vs), .val (.int vt), .val (.int va), .val (.int vb), .val (.int vc), .val (.int vy), .val (.int vx), .val (.ref b299), .val (.int (1 : Int32)), .val (.int (1 : Int32)), .val (.int (1 : Int32)), .val (.int (1 : Int32)), .val (.int (0 : Int32)), .unset, .unset, .unset] [(.int (0 : Int32))])) _
    refine XS.iconst X317.here hx rfl (hb hby at_162) ?_
    show Steps p.tables e below (T317.setTop (mkF m 163 #[.val (.int vp), .val (.int vq), .val (.int vr), .val (.int vs), .val (.int vt), .val (.int va), .val (.int vb), .val (.int vc), .val (.int vy), .val (.int vx), .val (.ref b299), .val (.int (1 : Int32)), .val (.int (1 : Int32)), .val (.int (1 : Int32)), .val (.int (1 : Int32)), .val (.int (0 : Int32)), .unset, .unset, .unset] [(.int (0 : Int32)), (.int (0 : Int32))])) _
    refine XS.icmpNo X317.here hx rfl (hb hby at_163) rfl (teq (by decide)).2 ?_
    show Steps p.tables e below (T317.setTop (mkF m 166 #[.val (.int vp), .val (.int vq), .val (.int vr), .val (.int vs), .val (.int vt), .val (.int va), .val (.int vb), .val (.int vc), .val (.int vy), .val (.int vx), .val (.ref b299), .val (.int (1 : Int32)), .val (.int (1 : Int32)), .val (.int (1 : Int32)), .val (.int (1 : Int32)), .val (.int (0 : Int32)), .unset, .unset, .unset] [])) _
    refine XS.iconst X317.here hx rfl (hb hby at_166) ?_
    show Steps p.tables e below (T317.setTop (mkF m 167 #[.val (.int vp), .val (.int vq), .val (.int vr), .val (.int vs), .val (.int vt), .val (.int va), .val (.int vb), .val (.int vc), .val (.int vy), .val (.int vx), .val (.ref b299), .val (.int (1 : Int32)), .val (.int (1 : Int32)), .val (.int (1 : Int32)), .val (.int (1 : Int32)), .val (.int (0 : Int32)), .unset, .unset, .unset] [(.int (1 : Int32))])) _
    refine XS.goto X317.here hx rfl (pc0 := 167) (pc' := 171) rfl (hb hby at_167) (by decide) (by decide) ?_
    show Steps p.tables e below (T317.setTop (mkF m 171 #[.val (.int vp), .val (.int vq), .val (.int vr), .val (.int vs), .val (.int vt), .val (.int va), .val (.int vb), .val (.int vc), .val (.int vy), .val (.int vx), .val (.ref b299), .val (.int (1 : Int32)), .val (.int (1 : Int32)), .val (.int (1 : Int32)), .val (.int (1 : Int32)), .val (.int (0 : Int32)), .unset, .unset, .unset] [(.int (1 : Int32))])) _
    refine XS.istore X317.here hx rfl (hb hby at_171) rfl (l' := #[.val (.int vp), .val (.int vq), .val (.int vr), .val (.int vs), .val (.int vt), .val (.int va), .val (.int vb), .val (.int vc), .val (.int vy), .val (.int vx), .val (.ref b299), .val (.int (1 : Int32)), .val (.int (1 : Int32)), .val (.int (1 : Int32)), .val (.int (1 : Int32)), .val (.int (0 : Int32)), .val (.int (1 : Int32)), .unset, .unset]) rfl ?_
    show Steps p.tables e below (T317.setTop (mkF m 173 #[.val (.int vp), .val (.int vq), .val (.int vr), .val (.int vs), .val (.int vt), .val (.int va), .val (.int vb), .val (.int vc), .val (.int vy), .val (.int vx), .val (.ref b299), .val (.int (1 : Int32)), .val (.int (1 : Int32)), .val (.int (1 : Int32)), .val (.int (1 : Int32)), .val (.int (0 : Int32)), .val (.int (1 : Int32)), .unset, .unset] [])) _
    refine XS.iload X317.here hx rfl (hb hby at_173) rfl ?_
    show Steps p.tables e below (T317.setTop (mkF m 175 #[.val (.int vp), .val (.int vq), .val (.int vr), .val (.int vs), .val (.int vt), .val (.int va), .val (.int vb), .val (.int vc), .val (.int vy), .val (.int vx), .val (.ref b299), .val (.int (1 : Int32)), .val (.int (1 : Int32)), .val (.int (1 : Int32)), .val (.int (1 : Int32)), .val (.int (0 : Int32)), .val (.int (1 : Int32)), .unset, .unset] [(.int (0 : Int32))])) _
    refine XS.ifYes X317.here hx rfl (pc0 := 175) (pc' := 183) rfl (hb hby at_175) rfl ((if0 _ _).trans (teq (by decide)).1) (by decide) (by decide) ?_
    show Steps p.tables e below (T317.setTop (mkF m 183 #[.val (.int vp), .val (.int vq), .val (.int vr), .val (.int vs), .val (.int vt), .val (.int va), .val (.int vb), .val (.int vc), .val (.int vy), .val (.int vx), .val (.ref b299), .val (.int (1 : Int32)), .val (.int (1 : Int32)), .val (.int (1 : Int32)), .val (.int (1 : Int32)), .val (.int (0 : Int32)), .val (.int (1 : Int32)), .unset, .unset] [])) _
    refine XS.aload X317.here hx rfl (hb hby at_183) rfl rfl ?_
    show Steps p.tables e below (T317.setTop (mkF m 185 #[.val (.int vp), .val (.int vq), .val (.int vr), .val (.int vs), .val (.int vt), .val (.int va), .val (.int vb), .val (.int vc), .val (.int vy), .val (.int vx), .val (.ref b299), .val (.int (1 : Int32)), .val (.int (1 : Int32)), .val (.int (1 : Int32)), .val (.int (1 : Int32)), .val (.int (0 : Int32)), .val (.int (1 : Int32)), .unset, .unset] [(.ref b299)])) _
    refine st318.trans ?_
    show Steps p.tables e below (T318.setTop (mkF m 188 #[.val (.int vp), .val (.int vq), .val (.int vr), .val (.int vs), .val (.int vt), .val (.int va), .val (.int vb), .val (.int vc), .val (.int vy), .val (.int vx), .val (.ref b299), .val (.int (1 : Int32)), .val (.int (1 : Int32)), .val (.int (1 : Int32)), .val (.int (1 : Int32)), .val (.int (0 : Int32)), .val (.int (1 : Int32)), .unset, .unset] [])) _
    refine XS.aload X318.here hx rfl (hb hby at_188) rfl rfl ?_
    show Steps p.tables e below (T318.setTop (mkF m 190 #[.val (.int vp), .val (.int vq), .val (.int vr), .val (.int vs), .val (.int vt), .val (.int va), .val (.int vb), .val (.int vc), .val (.int vy), .val (.int vx), .val (.ref b299), .val (.int (1 : Int32)), .val (.int (1 : Int32)), .val (.int (1 : Int32)), .val (.int (1 : Int32)), .val (.int (0 : Int32)), .val (.int (1 : Int32)), .unset, .unset] [(.ref b299)])) _
    refine XS.iload X318.here hx rfl (hb hby at_190) rfl ?_
    show Steps p.tables e below (T318.setTop (mkF m 192 #[.val (.int vp), .val (.int vq), .val (.int vr), .val (.int vs), .val (.int vt), .val (.int va), .val (.int vb), .val (.int vc), .val (.int vy), .val (.int vx), .val (.ref b299), .val (.int (1 : Int32)), .val (.int (1 : Int32)), .val (.int (1 : Int32)), .val (.int (1 : Int32)), .val (.int (0 : Int32)), .val (.int (1 : Int32)), .unset, .unset] [(.int vx), (.ref b299)])) _
    refine st321.trans ?_
    show Steps p.tables e below (T321.setTop (mkF m 195 #[.val (.int vp), .val (.int vq), .val (.int vr), .val (.int vs), .val (.int vt), .val (.int va), .val (.int vb), .val (.int vc), .val (.int vy), .val (.int vx), .val (.ref b299), .val (.int (1 : Int32)), .val (.int (1 : Int32)), .val (.int (1 : Int32)), .val (.int (1 : Int32)), .val (.int (0 : Int32)), .val (.int (1 : Int32)), .unset, .unset] [(.ref em)])) _
    refine st323.trans ?_
    show Steps p.tables e below (T323.setTop (mkF m 198 #[.val (.int vp), .val (.int vq), .val (.int vr), .val (.int vs), .val (.int vt), .val (.int va), .val (.int vb), .val (.int vc), .val (.int vy), .val (.int vx), .val (.ref b299), .val (.int (1 : Int32)), .val (.int (1 : Int32)), .val (.int (1 : Int32)), .val (.int (1 : Int32)), .val (.int (0 : Int32)), .val (.int (1 : Int32)), .unset, .unset] [(.int (1 : Int32))])) _
    refine XS.istore X323.here hx rfl (hb hby at_198) rfl (l' := #[.val (.int vp), .val (.int vq), .val (.int vr), .val (.int vs), .val (.int vt), .val (.int va), .val (.int vb), .val (.int vc), .val (.int vy), .val (.int vx), .val (.ref b299), .val (.int (1 : Int32)), .val (.int (1 : Int32)), .val (.int (1 : Int32)), .val (.int (1 : Int32)), .val (.int (0 : Int32)), .val (.int (1 : Int32)), .val (.int (1 : Int32)), .unset]) rfl ?_
    show Steps p.tables e below (T323.setTop (mkF m 200 #[.val (.int vp), .val (.int vq), .val (.int vr), .val (.int vs), .val (.int vt), .val (.int va), .val (.int vb), .val (.int vc), .val (.int vy), .val (.int vx), .val (.ref b299), .val (.int (1 : Int32)), .val (.int (1 : Int32)), .val (.int (1 : Int32)), .val (.int (1 : Int32)), .val (.int (0 : Int32)), .val (.int (1 : Int32)), .val (.int (1 : Int32)), .unset] [])) _
    refine XS.iload X323.here hx rfl (hb hby at_200) rfl ?_
    show Steps p.tables e below (T323.setTop (mkF m 202 #[.val (.int vp), .val (.int vq), .val (.int vr), .val (.int vs), .val (.int vt), .val (.int va), .val (.int vb), .val (.int vc), .val (.int vy), .val (.int vx), .val (.ref b299), .val (.int (1 : Int32)), .val (.int (1 : Int32)), .val (.int (1 : Int32)), .val (.int (1 : Int32)), .val (.int (0 : Int32)), .val (.int (1 : Int32)), .val (.int (1 : Int32)), .unset] [(.int (1 : Int32))])) _
    refine XS.iload X323.here hx rfl (hb hby at_202) rfl ?_
    show Steps p.tables e below (T323.setTop (mkF m 204 #[.val (.int vp), .val (.int vq), .val (.int vr), .val (.int vs), .val (.int vt), .val (.int va), .val (.int vb), .val (.int vc), .val (.int vy), .val (.int vx), .val (.ref b299), .val (.int (1 : Int32)), .val (.int (1 : Int32)), .val (.int (1 : Int32)), .val (.int (1 : Int32)), .val (.int (0 : Int32)), .val (.int (1 : Int32)), .val (.int (1 : Int32)), .unset] [(.int vx), (.int (1 : Int32))])) _
    refine XS.sipush X323.here hx rfl (hb hby at_204) ?_
    show Steps p.tables e below (T323.setTop (mkF m 207 #[.val (.int vp), .val (.int vq), .val (.int vr), .val (.int vs), .val (.int vt), .val (.int va), .val (.int vb), .val (.int vc), .val (.int vy), .val (.int vx), .val (.ref b299), .val (.int (1 : Int32)), .val (.int (1 : Int32)), .val (.int (1 : Int32)), .val (.int (1 : Int32)), .val (.int (0 : Int32)), .val (.int (1 : Int32)), .val (.int (1 : Int32)), .unset] [(.int (1000 : Int32)), (.int vx), (.int (1 : Int32))])) _
    refine XS.icmpNo X323.here hx rfl (hb hby at_207) rfl (flt hc207).2.2.1 ?_
    show Steps p.tables e below (T323.setTop (mkF m 210 #[.val (.int vp), .val (.int vq), .val (.int vr), .val (.int vs), .val (.int vt), .val (.int va), .val (.int vb), .val (.int vc), .val (.int vy), .val (.int vx), .val (.ref b299), .val (.int (1 : Int32)), .val (.int (1 : Int32)), .val (.int (1 : Int32)), .val (.int (1 : Int32)), .val (.int (0 : Int32)), .val (.int (1 : Int32)), .val (.int (1 : Int32)), .unset] [(.int (1 : Int32))])) _
    refine XS.iconst X323.here hx rfl (hb hby at_210) ?_
    show Steps p.tables e below (T323.setTop (mkF m 211 #[.val (.int vp), .val (.int vq), .val (.int vr), .val (.int vs), .val (.int vt), .val (.int va), .val (.int vb), .val (.int vc), .val (.int vy), .val (.int vx), .val (.ref b299), .val (.int (1 : Int32)), .val (.int (1 : Int32)), .val (.int (1 : Int32)), .val (.int (1 : Int32)), .val (.int (0 : Int32)), .val (.int (1 : Int32)), .val (.int (1 : Int32)), .unset] [(.int (1 : Int32)), (.int (1 : Int32))])) _
    refine XS.goto X323.here hx rfl (pc0 := 211) (pc' := 215) rfl (hb hby at_211) (by decide) (by decide) ?_
    show Steps p.tables e below (T323.setTop (mkF m 215 #[.val (.int vp), .val (.int vq), .val (.int vr), .val (.int vs), .val (.int vt), .val (.int va), .val (.int vb), .val (.int vc), .val (.int vy), .val (.int vx), .val (.ref b299), .val (.int (1 : Int32)), .val (.int (1 : Int32)), .val (.int (1 : Int32)), .val (.int (1 : Int32)), .val (.int (0 : Int32)), .val (.int (1 : Int32)), .val (.int (1 : Int32)), .unset] [(.int (1 : Int32)), (.int (1 : Int32))])) _
    refine XS.icmpNo X323.here hx rfl (hb hby at_215) rfl (teq (by decide)).2 ?_
    show Steps p.tables e below (T323.setTop (mkF m 218 #[.val (.int vp), .val (.int vq), .val (.int vr), .val (.int vs), .val (.int vt), .val (.int va), .val (.int vb), .val (.int vc), .val (.int vy), .val (.int vx), .val (.ref b299), .val (.int (1 : Int32)), .val (.int (1 : Int32)), .val (.int (1 : Int32)), .val (.int (1 : Int32)), .val (.int (0 : Int32)), .val (.int (1 : Int32)), .val (.int (1 : Int32)), .unset] [])) _
    refine XS.iconst X323.here hx rfl (hb hby at_218) ?_
    show Steps p.tables e below (T323.setTop (mkF m 219 #[.val (.int vp), .val (.int vq), .val (.int vr), .val (.int vs), .val (.int vt), .val (.int va), .val (.int vb), .val (.int vc), .val (.int vy), .val (.int vx), .val (.ref b299), .val (.int (1 : Int32)), .val (.int (1 : Int32)), .val (.int (1 : Int32)), .val (.int (1 : Int32)), .val (.int (0 : Int32)), .val (.int (1 : Int32)), .val (.int (1 : Int32)), .unset] [(.int (1 : Int32))])) _
    refine XS.goto X323.here hx rfl (pc0 := 219) (pc' := 223) rfl (hb hby at_219) (by decide) (by decide) ?_
    show Steps p.tables e below (T323.setTop (mkF m 223 #[.val (.int vp), .val (.int vq), .val (.int vr), .val (.int vs), .val (.int vt), .val (.int va), .val (.int vb), .val (.int vc), .val (.int vy), .val (.int vx), .val (.ref b299), .val (.int (1 : Int32)), .val (.int (1 : Int32)), .val (.int (1 : Int32)), .val (.int (1 : Int32)), .val (.int (0 : Int32)), .val (.int (1 : Int32)), .val (.int (1 : Int32)), .unset] [(.int (1 : Int32))])) _
    refine XS.istore X323.here hx rfl (hb hby at_223) rfl (l' := #[.val (.int vp), .val (.int vq), .val (.int vr), .val (.int vs), .val (.int vt), .val (.int va), .val (.int vb), .val (.int vc), .val (.int vy), .val (.int vx), .val (.ref b299), .val (.int (1 : Int32)), .val (.int (1 : Int32)), .val (.int (1 : Int32)), .val (.int (1 : Int32)), .val (.int (0 : Int32)), .val (.int (1 : Int32)), .val (.int (1 : Int32)), .val (.int (1 : Int32))]) rfl ?_
    show Steps p.tables e below (T323.setTop (mkF m 225 #[.val (.int vp), .val (.int vq), .val (.int vr), .val (.int vs), .val (.int vt), .val (.int va), .val (.int vb), .val (.int vc), .val (.int vy), .val (.int vx), .val (.ref b299), .val (.int (1 : Int32)), .val (.int (1 : Int32)), .val (.int (1 : Int32)), .val (.int (1 : Int32)), .val (.int (0 : Int32)), .val (.int (1 : Int32)), .val (.int (1 : Int32)), .val (.int (1 : Int32))] [])) _
    refine XS.iload X323.here hx rfl (hb hby at_225) rfl ?_
    show Steps p.tables e below (T323.setTop (mkF m 227 #[.val (.int vp), .val (.int vq), .val (.int vr), .val (.int vs), .val (.int vt), .val (.int va), .val (.int vb), .val (.int vc), .val (.int vy), .val (.int vx), .val (.ref b299), .val (.int (1 : Int32)), .val (.int (1 : Int32)), .val (.int (1 : Int32)), .val (.int (1 : Int32)), .val (.int (0 : Int32)), .val (.int (1 : Int32)), .val (.int (1 : Int32)), .val (.int (1 : Int32))] [(.int (1 : Int32))])) _
    refine XS.ifNo X323.here hx rfl (hb hby at_227) rfl ((if0 _ _).trans (feq (by decide)).1) ?_
    show Steps p.tables e below (T323.setTop (mkF m 230 #[.val (.int vp), .val (.int vq), .val (.int vr), .val (.int vs), .val (.int vt), .val (.int va), .val (.int vb), .val (.int vc), .val (.int vy), .val (.int vx), .val (.ref b299), .val (.int (1 : Int32)), .val (.int (1 : Int32)), .val (.int (1 : Int32)), .val (.int (1 : Int32)), .val (.int (0 : Int32)), .val (.int (1 : Int32)), .val (.int (1 : Int32)), .val (.int (1 : Int32))] [])) _
    refine XS.iload X323.here hx rfl (hb hby at_230) rfl ?_
    show Steps p.tables e below (T323.setTop (mkF m 232 #[.val (.int vp), .val (.int vq), .val (.int vr), .val (.int vs), .val (.int vt), .val (.int va), .val (.int vb), .val (.int vc), .val (.int vy), .val (.int vx), .val (.ref b299), .val (.int (1 : Int32)), .val (.int (1 : Int32)), .val (.int (1 : Int32)), .val (.int (1 : Int32)), .val (.int (0 : Int32)), .val (.int (1 : Int32)), .val (.int (1 : Int32)), .val (.int (1 : Int32))] [(.int (1 : Int32))])) _
    refine XS.ifNo X323.here hx rfl (hb hby at_232) rfl ((if0 _ _).trans (feq (by decide)).1) ?_
    show Steps p.tables e below (T323.setTop (mkF m 235 #[.val (.int vp), .val (.int vq), .val (.int vr), .val (.int vs), .val (.int vt), .val (.int va), .val (.int vb), .val (.int vc), .val (.int vy), .val (.int vx), .val (.ref b299), .val (.int (1 : Int32)), .val (.int (1 : Int32)), .val (.int (1 : Int32)), .val (.int (1 : Int32)), .val (.int (0 : Int32)), .val (.int (1 : Int32)), .val (.int (1 : Int32)), .val (.int (1 : Int32))] [])) _
    refine XS.iload X323.here hx rfl (hb hby at_235) rfl ?_
    show Steps p.tables e below (T323.setTop (mkF m 237 #[.val (.int vp), .val (.int vq), .val (.int vr), .val (.int vs), .val (.int vt), .val (.int va), .val (.int vb), .val (.int vc), .val (.int vy), .val (.int vx), .val (.ref b299), .val (.int (1 : Int32)), .val (.int (1 : Int32)), .val (.int (1 : Int32)), .val (.int (1 : Int32)), .val (.int (0 : Int32)), .val (.int (1 : Int32)), .val (.int (1 : Int32)), .val (.int (1 : Int32))] [(.int (1 : Int32))])) _
    refine XS.ifNo X323.here hx rfl (hb hby at_237) rfl ((if0 _ _).trans (feq (by decide)).1) ?_
    show Steps p.tables e below (T323.setTop (mkF m 240 #[.val (.int vp), .val (.int vq), .val (.int vr), .val (.int vs), .val (.int vt), .val (.int va), .val (.int vb), .val (.int vc), .val (.int vy), .val (.int vx), .val (.ref b299), .val (.int (1 : Int32)), .val (.int (1 : Int32)), .val (.int (1 : Int32)), .val (.int (1 : Int32)), .val (.int (0 : Int32)), .val (.int (1 : Int32)), .val (.int (1 : Int32)), .val (.int (1 : Int32))] [])) _
    refine XS.iload X323.here hx rfl (hb hby at_240) rfl ?_
    show Steps p.tables e below (T323.setTop (mkF m 242 #[.val (.int vp), .val (.int vq), .val (.int vr), .val (.int vs), .val (.int vt), .val (.int va), .val (.int vb), .val (.int vc), .val (.int vy), .val (.int vx), .val (.ref b299), .val (.int (1 : Int32)), .val (.int (1 : Int32)), .val (.int (1 : Int32)), .val (.int (1 : Int32)), .val (.int (0 : Int32)), .val (.int (1 : Int32)), .val (.int (1 : Int32)), .val (.int (1 : Int32))] [(.int (1 : Int32))])) _
    refine XS.ifNo X323.here hx rfl (hb hby at_242) rfl ((if0 _ _).trans (feq (by decide)).1) ?_
    show Steps p.tables e below (T323.setTop (mkF m 245 #[.val (.int vp), .val (.int vq), .val (.int vr), .val (.int vs), .val (.int vt), .val (.int va), .val (.int vb), .val (.int vc), .val (.int vy), .val (.int vx), .val (.ref b299), .val (.int (1 : Int32)), .val (.int (1 : Int32)), .val (.int (1 : Int32)), .val (.int (1 : Int32)), .val (.int (0 : Int32)), .val (.int (1 : Int32)), .val (.int (1 : Int32)), .val (.int (1 : Int32))] [])) _
    refine XS.iload X323.here hx rfl (hb hby at_245) rfl ?_
    show Steps p.tables e below (T323.setTop (mkF m 247 #[.val (.int vp), .val (.int vq), .val (.int vr), .val (.int vs), .val (.int vt), .val (.int va), .val (.int vb), .val (.int vc), .val (.int vy), .val (.int vx), .val (.ref b299), .val (.int (1 : Int32)), .val (.int (1 : Int32)), .val (.int (1 : Int32)), .val (.int (1 : Int32)), .val (.int (0 : Int32)), .val (.int (1 : Int32)), .val (.int (1 : Int32)), .val (.int (1 : Int32))] [(.int (1 : Int32))])) _
    refine XS.ifNo X323.here hx rfl (hb hby at_247) rfl ((if0 _ _).trans (feq (by decide)).1) ?_
    show Steps p.tables e below (T323.setTop (mkF m 250 #[.val (.int vp), .val (.int vq), .val (.int vr), .val (.int vs), .val (.int vt), .val (.int va), .val (.int vb), .val (.int vc), .val (.int vy), .val (.int vx), .val (.ref b299), .val (.int (1 : Int32)), .val (.int (1 : Int32)), .val (.int (1 : Int32)), .val (.int (1 : Int32)), .val (.int (0 : Int32)), .val (.int (1 : Int32)), .val (.int (1 : Int32)), .val (.int (1 : Int32))] [])) _
    refine XS.iconst X323.here hx rfl (hb hby at_250) ?_
    show Steps p.tables e below (T323.setTop (mkF m 251 #[.val (.int vp), .val (.int vq), .val (.int vr), .val (.int vs), .val (.int vt), .val (.int va), .val (.int vb), .val (.int vc), .val (.int vy), .val (.int vx), .val (.ref b299), .val (.int (1 : Int32)), .val (.int (1 : Int32)), .val (.int (1 : Int32)), .val (.int (1 : Int32)), .val (.int (0 : Int32)), .val (.int (1 : Int32)), .val (.int (1 : Int32)), .val (.int (1 : Int32))] [(.int (1 : Int32))])) _
    refine XS.goto X323.here hx rfl (pc0 := 251) (pc' := 255) rfl (hb hby at_251) (by decide) (by decide) ?_
    show Steps p.tables e below (T323.setTop (mkF m 255 #[.val (.int vp), .val (.int vq), .val (.int vr), .val (.int vs), .val (.int vt), .val (.int va), .val (.int vb), .val (.int vc), .val (.int vy), .val (.int vx), .val (.ref b299), .val (.int (1 : Int32)), .val (.int (1 : Int32)), .val (.int (1 : Int32)), .val (.int (1 : Int32)), .val (.int (0 : Int32)), .val (.int (1 : Int32)), .val (.int (1 : Int32)), .val (.int (1 : Int32))] [(.int (1 : Int32))])) _
    exact retN X323 hx (t := .boolean) Bd.returns (by simp) (hb hby at_255) hr
  · show QL n0 _ T323.heap _
    rw [e323]
    exact ⟨rfl, N323⟩
set_option maxRecDepth 65536 in
set_option maxHeartbeats 40000000 in
theorem rm0_110 (l : Launch) (Z : State) (a0 : Array Value) (hw : ∀ d ∈ tables_1, d.before a0 Z = true) (ws : List Jvm.Cond) (vp vq vr vs vt : Int32) (va vb vc vy vx : Int32) (em : Addr) (h0 : Heap) (n0 : Nat) (Z0 : n0 ≤ h0.size) (qa : ((vp &&& (2147483647 : Int32)) % (1001 : Int32)) = va) (qb : ((vq &&& (2147483647 : Int32)) % ((1001 : Int32) - va)) = vb) (qc : (vr &&& (2047 : Int32)) = vc) (qy : (vt &&& (2047 : Int32)) = vy) (qx : (vs &&& (2047 : Int32)) = vx) (hnz : (1001 : Int32) - va ≠ 0) (Od0 : Old Z n0 h0) (Se : Sta Z Z.heap "java/util/Optional" "EMPTY" "Ljava/util/Optional;" (.ref em)) (Ee : Exa Z Z.heap em "java/util/Optional") (Fe : Fld Z Z.heap em "java/util/Optional" "value" "Ljava/lang/Object;" .null) (hA : ¬ ((1000 : Int32) < (0 : Int32) + va)) (hB : ¬ ((1000 : Int32) < va + vb)) (eA : (0 : Int32) + va = va) (eB : va + vb - vb = va) (eC : va + vc - vc = va) (eY : va + vy - vy = va) (eZ : va - va = 0) (eX : (0 : Int32) + vx = vx) (hc105 : ¬ ((1000 : Int32) < (va + vc))) (hc155 : ¬ ((1000 : Int32) < (va + vy))) (hc207 : (1000 : Int32) < vx) :
    MetFree l x (head1 (Jvm.Cond.code x code maxLocals ret :: ws) room_1) (fun zA zU => zA = #[(.int vp), (.int vq), (.int vr), (.int vs), (.int vt)] ∧ Z.Warmed39 zU.vm ∧ zU.heap = h0) (fun _ _ _ _ _ => True) (fun _ zU zO zW => ∃ zV zL, zO = .returned zV ∧ QL n0 zV zW.heap zL ∧ ReturnedEndW zU zO zW zL room_1.cells room_1.slots) := by
  refine MetFree.of_bodySF (plainFor_of_name pn_XmlNestingLeavePinLaw) hisR ?_
  intro p e s m args below meth c s₁ Bd hml0 hP hK
  obtain ⟨rfl, hZ, hh⟩ := hP
  have hx := Bd.exec
  have hby := Bd.bytes
  have hml : c.maxLocals = 19 := hml0
  have hown : s.vm.findClass "com/example/caddis/caddis/XmlNestingLeavePinLaw" = some m.cls := findClass_of_methodNamed Bd.named
  have hnm := (name_of_methodNamed Bd.named Bd.method).1
  have X0 : Stand p l e room_1 s m #[(.int vp), (.int vq), (.int vr), (.int vs), (.int vt)] below meth c s₁ [] 0 0 := Stand.of_body Bd
  have e0 : s₁.heap = h0 := by rw [← hh, Bd.state]; rfl
  have N0 := Fr.nil n0
  have pre0 : ∀ zt, Steps p.tables e below (s₁.setTop (mkF m 0 #[.val (.int vp), .val (.int vq), .val (.int vr), .val (.int vs), .val (.int vt), .unset, .unset, .unset, .unset, .unset, .unset, .unset, .unset, .unset, .unset, .unset, .unset, .unset, .unset] [])) zt → Steps p.tables e below (s₁.setTop (entryFrame m #[(.int vp), (.int vq), (.int vr), (.int vs), (.int vt)] maxLocals)) zt := fun zt zk => castTop (ef_0_IIIII m vp vq vr vs vt) zk
  obtain ⟨T324, h324, X324, e324, E324, A324, D324, -, st324⟩ := newO X0 hx hZ hown (hw _ (List.mem_of_getElem? (i := 1) rfl)) (hw _ (List.mem_of_getElem? (i := 2) rfl)) (hw _ (List.mem_of_getElem? (i := 3) rfl)) e0 (g := (mkF m 45 #[.val (.int vp), .val (.int vq), .val (.int vr), .val (.int vs), .val (.int vt), .val (.int va), .val (.int vb), .val (.int vc), .val (.int vy), .val (.int vx), .unset, .unset, .unset, .unset, .unset, .unset, .unset, .unset, .unset] [])) rfl (hb hby at_45) (by decide) (by decide)
  obtain ⟨b324, g324⟩ : ∃ z, z = h0.size := ⟨_, rfl⟩
  rw [← g324] at A324 D324 st324
  have gz324 : n0 ≤ b324 := Nat.le_trans Z0 (Nat.le_of_eq g324.symm)
  have Z324 := Nat.le_trans Z0 E324.1
  have Od324 := Od0.ext E324
  have F324_declared : Fld Z h324 b324 "com/example/caddis/caddis/XmlNesting" "declared" "[I" .null := D324 (Or.inr (hw _ (List.mem_of_getElem? (i := 12) rfl))) (ty := (.array .int)) (by decide)
  have F324_depth : Fld Z h324 b324 "com/example/caddis/caddis/XmlNesting" "depth" "I" (.int (0 : Int32)) := D324 (Or.inl (hw _ (List.mem_of_getElem? (i := 19) rfl))) (ty := .int) (by decide)
  have F324_declarations : Fld Z h324 b324 "com/example/caddis/caddis/XmlNesting" "declarations" "I" (.int (0 : Int32)) := D324 (Or.inl (hw _ (List.mem_of_getElem? (i := 21) rfl))) (ty := .int) (by decide)
  obtain ⟨_, _, ⟨T325, L325, k325, n325⟩, -, X325, ⟨Lc325, hQ325, l325, y325, z325⟩, st325⟩ := X324.specialBack hx (y := (⟨"com/example/caddis/caddis/XmlNesting", "<init>", "()V"⟩ : MethodName)) rfl hown (mvT hZ (hw _ (List.mem_of_getElem? (i := 4) rfl))) (mvT hZ (hw _ (List.mem_of_getElem? (i := 5) rfl))) (mvT hZ (hw _ (List.mem_of_getElem? (i := 6) rfl))) (by decide) (backOf (W := 1) (rini l Z a0 hw [] b324 h324 n0 Z324 A324 F324_declared F324_depth F324_declarations gz324) hZ (hw _ (List.mem_of_getElem? (i := 6) rfl)) (hw _ (List.mem_of_getElem? (i := 3) rfl)) (by decide) (by decide)) (g := (mkF m 49 #[.val (.int vp), .val (.int vq), .val (.int vr), .val (.int vs), .val (.int vt), .val (.int va), .val (.int vb), .val (.int vc), .val (.int vy), .val (.int vx), .unset, .unset, .unset, .unset, .unset, .unset, .unset, .unset, .unset] [(.ref b324), (.ref b324)])) rfl (by rw [hml]; rfl) (Steps.refl _) (a := b324) (argsL := []) (rest := [(.ref b324)]) (lenOf pd_4 rfl) rfl (by show 2 * 0 + _ ≤ _; exact Nat.le_of_eq rfl) (hb hby at_49) (fun _ _ => ⟨rfl, e324, (by decide : 1 + 1 ≤ _), (by decide : 3 + 1000 ≤ _)⟩)
  dsimp only [Pt.U, Pt.locs, Pt.cells, Pt.slots] at X325 l325 y325 z325 st325 hQ325
  subst l325 y325 z325
  obtain ⟨ar325, rfl, Nq325, Kq325, G325_0, G325_1, G325_2, G325_3, G325_4, ga325, na325⟩ := hQ325
  have N325 := Fr.app N0 Nq325
  have Z325 := Nat.le_trans Z324 Kq325.1
  have Od325 := Od324.keep Kq325 (allS gz324 all0)
  obtain ⟨cq326, kq326, q326a, q326b, q326c⟩ := isOf hZ rfl G325_0
  obtain ⟨_, _, ⟨T326, L326, k326, n326⟩, -, X326, ⟨Lc326, hQ326, l326, y326, z326⟩, st326⟩ := X325.virtualBack hx (y := (⟨"com/example/caddis/caddis/XmlNesting", "enter", "(I)Ljava/util/Optional;"⟩ : MethodName)) (z := (⟨"com/example/caddis/caddis/XmlNesting", "enter", "(I)Ljava/util/Optional;"⟩ : MethodName)) hown (mvT hZ (hw _ (List.mem_of_getElem? (i := 13) rfl))) (mvT hZ (hw _ (List.mem_of_getElem? (i := 14) rfl))) (notFace_of_selects (args := #[]) (mvT hZ (hw _ (List.mem_of_getElem? (i := 16) rfl)))) (mvT hZ (hw _ (List.mem_of_getElem? (i := 16) rfl))) (mvT hZ (hw _ (List.mem_of_getElem? (i := 15) rfl))) (by decide) (backOf (W := 0) (ren0 l Z a0 hw [] b324 ar325 em (0 : Int32) va (fun _ => (0 : Int32)) T325.heap n0 Z325 G325_0 G325_1 G325_2 G325_3 G325_4 gz324 ga325 na325 (Se.ext Od325.2) hA) hZ (hw _ (List.mem_of_getElem? (i := 17) rfl)) (hw _ (List.mem_of_getElem? (i := 3) rfl)) (by decide) (by decide)) q326a q326c (g := (mkF m 58 #[.val (.int vp), .val (.int vq), .val (.int vr), .val (.int vs), .val (.int vt), .val (.int va), .val (.int vb), .val (.int vc), .val (.int vy), .val (.int vx), .val (.ref b324), .unset, .unset, .unset, .unset, .unset, .unset, .unset, .unset] [(.int va), (.ref b324)])) rfl (by rw [hml]; rfl) (Steps.refl _) (argsL := [(.int va)]) (rest := []) (lenOf pd_5 rfl) rfl (by show 2 * 0 + _ ≤ _; exact Nat.le_of_eq rfl) (hb hby at_58) (fun _ _ => ⟨rfl, rfl, (by decide : 2 + 0 ≤ _), (by decide : 1003 + 0 ≤ _)⟩)
  dsimp only [Pt.U, Pt.locs, Pt.cells, Pt.slots] at X326 l326 y326 z326 st326 hQ326
  subst l326 y326 z326
  obtain ⟨rfl, Nq326, Kq326, G326_0, G326_1, G326_2, G326_3, G326_4⟩ := hQ326
  have N326 := Fr.app N325 Nq326
  have Z326 := Nat.le_trans Z325 Kq326.1
  have Od326 := Od325.keep Kq326 (allS gz324 (allS ga325 all0))
  rw [eA] at G326_3
  obtain ⟨cq327, kq327, q327a, q327b, q327c⟩ := isOf hZ rfl (Ee.ext Od326.2)
  obtain ⟨_, _, ⟨T327, L327, k327, n327⟩, -, X327, ⟨Lc327, hQ327, l327, y327, z327⟩, st327⟩ := X326.virtualBack hx (y := (⟨"java/util/Optional", "isEmpty", "()Z"⟩ : MethodName)) (z := (⟨"java/util/Optional", "isEmpty", "()Z"⟩ : MethodName)) hown (mvT hZ (hw _ (List.mem_of_getElem? (i := 27) rfl))) (mvT hZ (hw _ (List.mem_of_getElem? (i := 28) rfl))) (notFace_of_selects (args := #[]) (mvT hZ (hw _ (List.mem_of_getElem? (i := 30) rfl)))) (mvT hZ (hw _ (List.mem_of_getElem? (i := 30) rfl))) (mvT hZ (hw _ (List.mem_of_getElem? (i := 29) rfl))) (by decide) (backOf (W := 0) (ris1 l Z a0 hw [] em T326.heap n0 Z326 (Fe.ext Od326.2)) hZ (hw _ (List.mem_of_getElem? (i := 31) rfl)) (hw _ (List.mem_of_getElem? (i := 24) rfl)) (by decide) (by decide)) q327a q327c (g := (mkF m 61 #[.val (.int vp), .val (.int vq), .val (.int vr), .val (.int vs), .val (.int vt), .val (.int va), .val (.int vb), .val (.int vc), .val (.int vy), .val (.int vx), .val (.ref b324), .unset, .unset, .unset, .unset, .unset, .unset, .unset, .unset] [(.ref em)])) rfl (by rw [hml]; rfl) (Steps.refl _) (argsL := []) (rest := []) (lenOf pd_6 rfl) rfl (by show 2 * 0 + _ ≤ _; exact Nat.le_of_eq rfl) (hb hby at_61) (fun _ _ => ⟨rfl, rfl, (by decide : 2 + 0 ≤ _), (by decide : 1003 + 0 ≤ _)⟩)
  dsimp only [Pt.U, Pt.locs, Pt.cells, Pt.slots] at X327 l327 y327 z327 st327 hQ327
  subst l327 y327 z327
  obtain ⟨rfl, Nq327, e327⟩ := hQ327
  have N327 := Fr.app N326 Nq327
  obtain ⟨cq328, kq328, q328a, q328b, q328c⟩ := isOf hZ e327 G326_0
  obtain ⟨_, _, ⟨T328, L328, k328, n328⟩, -, X328, ⟨Lc328, hQ328, l328, y328, z328⟩, st328⟩ := X327.virtualBack hx (y := (⟨"com/example/caddis/caddis/XmlNesting", "enter", "(I)Ljava/util/Optional;"⟩ : MethodName)) (z := (⟨"com/example/caddis/caddis/XmlNesting", "enter", "(I)Ljava/util/Optional;"⟩ : MethodName)) hown (mvT hZ (hw _ (List.mem_of_getElem? (i := 13) rfl))) (mvT hZ (hw _ (List.mem_of_getElem? (i := 14) rfl))) (notFace_of_selects (args := #[]) (mvT hZ (hw _ (List.mem_of_getElem? (i := 16) rfl)))) (mvT hZ (hw _ (List.mem_of_getElem? (i := 16) rfl))) (mvT hZ (hw _ (List.mem_of_getElem? (i := 15) rfl))) (by decide) (backOf (W := 0) (ren1 l Z a0 hw [] b324 ar325 em va vb (upd (fun _ => (0 : Int32)) 0 va) T326.heap n0 Z326 G326_0 G326_1 G326_2 G326_3 G326_4 gz324 ga325 na325 (Se.ext Od326.2) hB) hZ (hw _ (List.mem_of_getElem? (i := 17) rfl)) (hw _ (List.mem_of_getElem? (i := 3) rfl)) (by decide) (by decide)) q328a q328c (g := (mkF m 70 #[.val (.int vp), .val (.int vq), .val (.int vr), .val (.int vs), .val (.int vt), .val (.int va), .val (.int vb), .val (.int vc), .val (.int vy), .val (.int vx), .val (.ref b324), .val (.int (1 : Int32)), .unset, .unset, .unset, .unset, .unset, .unset, .unset] [(.int vb), (.ref b324)])) rfl (by rw [hml]; rfl) (Steps.refl _) (argsL := [(.int vb)]) (rest := []) (lenOf pd_5 rfl) rfl (by show 2 * 0 + _ ≤ _; exact Nat.le_of_eq rfl) (hb hby at_70) (fun _ _ => ⟨rfl, e327, (by decide : 2 + 0 ≤ _), (by decide : 1003 + 0 ≤ _)⟩)
  dsimp only [Pt.U, Pt.locs, Pt.cells, Pt.slots] at X328 l328 y328 z328 st328 hQ328
  subst l328 y328 z328
  obtain ⟨rfl, Nq328, Kq328, G328_0, G328_1, G328_2, G328_3, G328_4⟩ := hQ328
  have N328 := Fr.app N327 Nq328
  have Z328 := Nat.le_trans Z326 Kq328.1
  have Od328 := Od326.keep Kq328 (allS gz324 (allS ga325 all0))
  obtain ⟨cq329, kq329, q329a, q329b, q329c⟩ := isOf hZ rfl (Ee.ext Od328.2)
  obtain ⟨_, _, ⟨T329, L329, k329, n329⟩, -, X329, ⟨Lc329, hQ329, l329, y329, z329⟩, st329⟩ := X328.virtualBack hx (y := (⟨"java/util/Optional", "isEmpty", "()Z"⟩ : MethodName)) (z := (⟨"java/util/Optional", "isEmpty", "()Z"⟩ : MethodName)) hown (mvT hZ (hw _ (List.mem_of_getElem? (i := 27) rfl))) (mvT hZ (hw _ (List.mem_of_getElem? (i := 28) rfl))) (notFace_of_selects (args := #[]) (mvT hZ (hw _ (List.mem_of_getElem? (i := 30) rfl)))) (mvT hZ (hw _ (List.mem_of_getElem? (i := 30) rfl))) (mvT hZ (hw _ (List.mem_of_getElem? (i := 29) rfl))) (by decide) (backOf (W := 0) (ris1 l Z a0 hw [] em T328.heap n0 Z328 (Fe.ext Od328.2)) hZ (hw _ (List.mem_of_getElem? (i := 31) rfl)) (hw _ (List.mem_of_getElem? (i := 24) rfl)) (by decide) (by decide)) q329a q329c (g := (mkF m 73 #[.val (.int vp), .val (.int vq), .val (.int vr), .val (.int vs), .val (.int vt), .val (.int va), .val (.int vb), .val (.int vc), .val (.int vy), .val (.int vx), .val (.ref b324), .val (.int (1 : Int32)), .unset, .unset, .unset, .unset, .unset, .unset, .unset] [(.ref em)])) rfl (by rw [hml]; rfl) (Steps.refl _) (argsL := []) (rest := []) (lenOf pd_6 rfl) rfl (by show 2 * 0 + _ ≤ _; exact Nat.le_of_eq rfl) (hb hby at_73) (fun _ _ => ⟨rfl, rfl, (by decide : 2 + 0 ≤ _), (by decide : 1003 + 0 ≤ _)⟩)
  dsimp only [Pt.U, Pt.locs, Pt.cells, Pt.slots] at X329 l329 y329 z329 st329 hQ329
  subst l329 y329 z329
  obtain ⟨rfl, Nq329, e329⟩ := hQ329
  have N329 := Fr.app N328 Nq329
  obtain ⟨cq330, kq330, q330a, q330b, q330c⟩ := isOf hZ e329 G328_0
  obtain ⟨_, _, ⟨T330, L330, k330, n330⟩, -, X330, ⟨Lc330, hQ330, l330, y330, z330⟩, st330⟩ := X329.virtualBack hx (y := (⟨"com/example/caddis/caddis/XmlNesting", "leave", "()V"⟩ : MethodName)) (z := (⟨"com/example/caddis/caddis/XmlNesting", "leave", "()V"⟩ : MethodName)) hown (mvT hZ (hw _ (List.mem_of_getElem? (i := 34) rfl))) (mvT hZ (hw _ (List.mem_of_getElem? (i := 35) rfl))) (notFace_of_selects (args := #[]) (mvT hZ (hw _ (List.mem_of_getElem? (i := 37) rfl)))) (mvT hZ (hw _ (List.mem_of_getElem? (i := 37) rfl))) (mvT hZ (hw _ (List.mem_of_getElem? (i := 36) rfl))) (by decide) (backOf (W := 0) (rlv2 l Z a0 hw [] b324 ar325 (va + vb) vb (upd (upd (fun _ => (0 : Int32)) 0 va) 1 vb) T328.heap n0 Z328 G328_0 G328_1 G328_2 G328_3 G328_4 gz324 na325 rfl) hZ (hw _ (List.mem_of_getElem? (i := 38) rfl)) (hw _ (List.mem_of_getElem? (i := 3) rfl)) (by decide) (by decide)) q330a q330c (g := (mkF m 80 #[.val (.int vp), .val (.int vq), .val (.int vr), .val (.int vs), .val (.int vt), .val (.int va), .val (.int vb), .val (.int vc), .val (.int vy), .val (.int vx), .val (.ref b324), .val (.int (1 : Int32)), .val (.int (1 : Int32)), .unset, .unset, .unset, .unset, .unset, .unset] [(.ref b324)])) rfl (by rw [hml]; rfl) (Steps.refl _) (argsL := []) (rest := []) (lenOf pd_4 rfl) rfl (by show 2 * 0 + _ ≤ _; exact Nat.le_of_eq rfl) (hb hby at_80) (fun _ _ => ⟨rfl, e329, (by decide : 2 + 0 ≤ _), (by decide : 1003 + 0 ≤ _)⟩)
  dsimp only [Pt.U, Pt.locs, Pt.cells, Pt.slots] at X330 l330 y330 z330 st330 hQ330
  subst l330 y330 z330
  obtain ⟨rfl, Nq330, Kq330, G330_0, G330_1, G330_2, G330_3⟩ := hQ330
  have N330 := Fr.app N329 Nq330
  have zA331 := G328_4.keep Kq330 (ninS (Ne.symm na325) nin0)
  have Z330 := Nat.le_trans Z328 Kq330.1
  have Od330 := Od328.keep Kq330 (allS gz324 all0)
  rw [eB] at G330_3
  obtain ⟨cq332, kq332, q332a, q332b, q332c⟩ := isOf hZ rfl G330_0
  obtain ⟨_, _, ⟨T332, L332, k332, n332⟩, -, X332, ⟨Lc332, hQ332, l332, y332, z332⟩, st332⟩ := X330.virtualBack hx (y := (⟨"com/example/caddis/caddis/XmlNesting", "enter", "(I)Ljava/util/Optional;"⟩ : MethodName)) (z := (⟨"com/example/caddis/caddis/XmlNesting", "enter", "(I)Ljava/util/Optional;"⟩ : MethodName)) hown (mvT hZ (hw _ (List.mem_of_getElem? (i := 13) rfl))) (mvT hZ (hw _ (List.mem_of_getElem? (i := 14) rfl))) (notFace_of_selects (args := #[]) (mvT hZ (hw _ (List.mem_of_getElem? (i := 16) rfl)))) (mvT hZ (hw _ (List.mem_of_getElem? (i := 16) rfl))) (mvT hZ (hw _ (List.mem_of_getElem? (i := 15) rfl))) (by decide) (backOf (W := 0) (ren1 l Z a0 hw [] b324 ar325 em va vc (upd (upd (fun _ => (0 : Int32)) 0 va) 1 vb) T330.heap n0 Z330 G330_0 G330_1 G330_2 G330_3 zA331 gz324 ga325 na325 (Se.ext Od330.2) hc105) hZ (hw _ (List.mem_of_getElem? (i := 17) rfl)) (hw _ (List.mem_of_getElem? (i := 3) rfl)) (by decide) (by decide)) q332a q332c (g := (mkF m 87 #[.val (.int vp), .val (.int vq), .val (.int vr), .val (.int vs), .val (.int vt), .val (.int va), .val (.int vb), .val (.int vc), .val (.int vy), .val (.int vx), .val (.ref b324), .val (.int (1 : Int32)), .val (.int (1 : Int32)), .unset, .unset, .unset, .unset, .unset, .unset] [(.int vc), (.ref b324)])) rfl (by rw [hml]; rfl) (Steps.refl _) (argsL := [(.int vc)]) (rest := []) (lenOf pd_5 rfl) rfl (by show 2 * 0 + _ ≤ _; exact Nat.le_of_eq rfl) (hb hby at_87) (fun _ _ => ⟨rfl, rfl, (by decide : 2 + 0 ≤ _), (by decide : 1003 + 0 ≤ _)⟩)
  dsimp only [Pt.U, Pt.locs, Pt.cells, Pt.slots] at X332 l332 y332 z332 st332 hQ332
  subst l332 y332 z332
  obtain ⟨rfl, Nq332, Kq332, G332_0, G332_1, G332_2, G332_3, G332_4⟩ := hQ332
  have N332 := Fr.app N330 Nq332
  have Z332 := Nat.le_trans Z330 Kq332.1
  have Od332 := Od330.keep Kq332 (allS gz324 (allS ga325 all0))
  obtain ⟨cq333, kq333, q333a, q333b, q333c⟩ := isOf hZ rfl (Ee.ext Od332.2)
  obtain ⟨_, _, ⟨T333, L333, k333, n333⟩, -, X333, ⟨Lc333, hQ333, l333, y333, z333⟩, st333⟩ := X332.virtualBack hx (y := (⟨"java/util/Optional", "isEmpty", "()Z"⟩ : MethodName)) (z := (⟨"java/util/Optional", "isEmpty", "()Z"⟩ : MethodName)) hown (mvT hZ (hw _ (List.mem_of_getElem? (i := 27) rfl))) (mvT hZ (hw _ (List.mem_of_getElem? (i := 28) rfl))) (notFace_of_selects (args := #[]) (mvT hZ (hw _ (List.mem_of_getElem? (i := 30) rfl)))) (mvT hZ (hw _ (List.mem_of_getElem? (i := 30) rfl))) (mvT hZ (hw _ (List.mem_of_getElem? (i := 29) rfl))) (by decide) (backOf (W := 0) (ris1 l Z a0 hw [] em T332.heap n0 Z332 (Fe.ext Od332.2)) hZ (hw _ (List.mem_of_getElem? (i := 31) rfl)) (hw _ (List.mem_of_getElem? (i := 24) rfl)) (by decide) (by decide)) q333a q333c (g := (mkF m 90 #[.val (.int vp), .val (.int vq), .val (.int vr), .val (.int vs), .val (.int vt), .val (.int va), .val (.int vb), .val (.int vc), .val (.int vy), .val (.int vx), .val (.ref b324), .val (.int (1 : Int32)), .val (.int (1 : Int32)), .unset, .unset, .unset, .unset, .unset, .unset] [(.ref em)])) rfl (by rw [hml]; rfl) (Steps.refl _) (argsL := []) (rest := []) (lenOf pd_6 rfl) rfl (by show 2 * 0 + _ ≤ _; exact Nat.le_of_eq rfl) (hb hby at_90) (fun _ _ => ⟨rfl, rfl, (by decide : 2 + 0 ≤ _), (by decide : 1003 + 0 ≤ _)⟩)
  dsimp only [Pt.U, Pt.locs, Pt.cells, Pt.slots] at X333 l333 y333 z333 st333 hQ333
  subst l333 y333 z333
  obtain ⟨rfl, Nq333, e333⟩ := hQ333
  have N333 := Fr.app N332 Nq333
  obtain ⟨cq334, kq334, q334a, q334b, q334c⟩ := isOf hZ e333 G332_0
  obtain ⟨_, _, ⟨T334, L334, k334, n334⟩, -, X334, ⟨Lc334, hQ334, l334, y334, z334⟩, st334⟩ := X333.virtualBack hx (y := (⟨"com/example/caddis/caddis/XmlNesting", "leave", "()V"⟩ : MethodName)) (z := (⟨"com/example/caddis/caddis/XmlNesting", "leave", "()V"⟩ : MethodName)) hown (mvT hZ (hw _ (List.mem_of_getElem? (i := 34) rfl))) (mvT hZ (hw _ (List.mem_of_getElem? (i := 35) rfl))) (notFace_of_selects (args := #[]) (mvT hZ (hw _ (List.mem_of_getElem? (i := 37) rfl)))) (mvT hZ (hw _ (List.mem_of_getElem? (i := 37) rfl))) (mvT hZ (hw _ (List.mem_of_getElem? (i := 36) rfl))) (by decide) (backOf (W := 0) (rlv2 l Z a0 hw [] b324 ar325 (va + vc) vc (upd (upd (upd (fun _ => (0 : Int32)) 0 va) 1 vb) 1 vc) T332.heap n0 Z332 G332_0 G332_1 G332_2 G332_3 G332_4 gz324 na325 rfl) hZ (hw _ (List.mem_of_getElem? (i := 38) rfl)) (hw _ (List.mem_of_getElem? (i := 3) rfl)) (by decide) (by decide)) q334a q334c (g := (mkF m 130 #[.val (.int vp), .val (.int vq), .val (.int vr), .val (.int vs), .val (.int vt), .val (.int va), .val (.int vb), .val (.int vc), .val (.int vy), .val (.int vx), .val (.ref b324), .val (.int (1 : Int32)), .val (.int (1 : Int32)), .val (.int (1 : Int32)), .val (.int (1 : Int32)), .unset, .unset, .unset, .unset] [(.ref b324)])) rfl (by rw [hml]; rfl) (Steps.refl _) (argsL := []) (rest := []) (lenOf pd_4 rfl) rfl (by show 2 * 0 + _ ≤ _; exact Nat.le_of_eq rfl) (hb hby at_130) (fun _ _ => ⟨rfl, e333, (by decide : 2 + 0 ≤ _), (by decide : 1003 + 0 ≤ _)⟩)
  dsimp only [Pt.U, Pt.locs, Pt.cells, Pt.slots] at X334 l334 y334 z334 st334 hQ334
  subst l334 y334 z334
  obtain ⟨rfl, Nq334, Kq334, G334_0, G334_1, G334_2, G334_3⟩ := hQ334
  have N334 := Fr.app N333 Nq334
  have zA335 := G332_4.keep Kq334 (ninS (Ne.symm na325) nin0)
  have Z334 := Nat.le_trans Z332 Kq334.1
  have Od334 := Od332.keep Kq334 (allS gz324 all0)
  rw [eC] at G334_3
  obtain ⟨cq336, kq336, q336a, q336b, q336c⟩ := isOf hZ rfl G334_0
  obtain ⟨_, _, ⟨T336, L336, k336, n336⟩, -, X336, ⟨Lc336, hQ336, l336, y336, z336⟩, st336⟩ := X334.virtualBack hx (y := (⟨"com/example/caddis/caddis/XmlNesting", "enter", "(I)Ljava/util/Optional;"⟩ : MethodName)) (z := (⟨"com/example/caddis/caddis/XmlNesting", "enter", "(I)Ljava/util/Optional;"⟩ : MethodName)) hown (mvT hZ (hw _ (List.mem_of_getElem? (i := 13) rfl))) (mvT hZ (hw _ (List.mem_of_getElem? (i := 14) rfl))) (notFace_of_selects (args := #[]) (mvT hZ (hw _ (List.mem_of_getElem? (i := 16) rfl)))) (mvT hZ (hw _ (List.mem_of_getElem? (i := 16) rfl))) (mvT hZ (hw _ (List.mem_of_getElem? (i := 15) rfl))) (by decide) (backOf (W := 0) (ren1 l Z a0 hw [] b324 ar325 em va vy (upd (upd (upd (fun _ => (0 : Int32)) 0 va) 1 vb) 1 vc) T334.heap n0 Z334 G334_0 G334_1 G334_2 G334_3 zA335 gz324 ga325 na325 (Se.ext Od334.2) hc155) hZ (hw _ (List.mem_of_getElem? (i := 17) rfl)) (hw _ (List.mem_of_getElem? (i := 3) rfl)) (by decide) (by decide)) q336a q336c (g := (mkF m 137 #[.val (.int vp), .val (.int vq), .val (.int vr), .val (.int vs), .val (.int vt), .val (.int va), .val (.int vb), .val (.int vc), .val (.int vy), .val (.int vx), .val (.ref b324), .val (.int (1 : Int32)), .val (.int (1 : Int32)), .val (.int (1 : Int32)), .val (.int (1 : Int32)), .unset, .unset, .unset, .unset] [(.int vy), (.ref b324)])) rfl (by rw [hml]; rfl) (Steps.refl _) (argsL := [(.int vy)]) (rest := []) (lenOf pd_5 rfl) rfl (by show 2 * 0 + _ ≤ _; exact Nat.le_of_eq rfl) (hb hby at_137) (fun _ _ => ⟨rfl, rfl, (by decide : 2 + 0 ≤ _), (by decide : 1003 + 0 ≤ _)⟩)
  dsimp only [Pt.U, Pt.locs, Pt.cells, Pt.slots] at X336 l336 y336 z336 st336 hQ336
  subst l336 y336 z336
  obtain ⟨rfl, Nq336, Kq336, G336_0, G336_1, G336_2, G336_3, G336_4⟩ := hQ336
  have N336 := Fr.app N334 Nq336
  have Z336 := Nat.le_trans Z334 Kq336.1
  have Od336 := Od334.keep Kq336 (allS gz324 (allS ga325 all0))
  obtain ⟨cq337, kq337, q337a, q337b, q337c⟩ := isOf hZ rfl (Ee.ext Od336.2)
  obtain ⟨_, _, ⟨T337, L337, k337, n337⟩, -, X337, ⟨Lc337, hQ337, l337, y337, z337⟩, st337⟩ := X336.virtualBack hx (y := (⟨"java/util/Optional", "isEmpty", "()Z"⟩ : MethodName)) (z := (⟨"java/util/Optional", "isEmpty", "()Z"⟩ : MethodName)) hown (mvT hZ (hw _ (List.mem_of_getElem? (i := 27) rfl))) (mvT hZ (hw _ (List.mem_of_getElem? (i := 28) rfl))) (notFace_of_selects (args := #[]) (mvT hZ (hw _ (List.mem_of_getElem? (i := 30) rfl)))) (mvT hZ (hw _ (List.mem_of_getElem? (i := 30) rfl))) (mvT hZ (hw _ (List.mem_of_getElem? (i := 29) rfl))) (by decide) (backOf (W := 0) (ris1 l Z a0 hw [] em T336.heap n0 Z336 (Fe.ext Od336.2)) hZ (hw _ (List.mem_of_getElem? (i := 31) rfl)) (hw _ (List.mem_of_getElem? (i := 24) rfl)) (by decide) (by decide)) q337a q337c (g := (mkF m 140 #[.val (.int vp), .val (.int vq), .val (.int vr), .val (.int vs), .val (.int vt), .val (.int va), .val (.int vb), .val (.int vc), .val (.int vy), .val (.int vx), .val (.ref b324), .val (.int (1 : Int32)), .val (.int (1 : Int32)), .val (.int (1 : Int32)), .val (.int (1 : Int32)), .unset, .unset, .unset, .unset] [(.ref em)])) rfl (by rw [hml]; rfl) (Steps.refl _) (argsL := []) (rest := []) (lenOf pd_6 rfl) rfl (by show 2 * 0 + _ ≤ _; exact Nat.le_of_eq rfl) (hb hby at_140) (fun _ _ => ⟨rfl, rfl, (by decide : 2 + 0 ≤ _), (by decide : 1003 + 0 ≤ _)⟩)
  dsimp only [Pt.U, Pt.locs, Pt.cells, Pt.slots] at X337 l337 y337 z337 st337 hQ337
  subst l337 y337 z337
  obtain ⟨rfl, Nq337, e337⟩ := hQ337
  have N337 := Fr.app N336 Nq337
  obtain ⟨cq338, kq338, q338a, q338b, q338c⟩ := isOf hZ e337 G336_0
  obtain ⟨_, _, ⟨T338, L338, k338, n338⟩, -, X338, ⟨Lc338, hQ338, l338, y338, z338⟩, st338⟩ := X337.virtualBack hx (y := (⟨"com/example/caddis/caddis/XmlNesting", "leave", "()V"⟩ : MethodName)) (z := (⟨"com/example/caddis/caddis/XmlNesting", "leave", "()V"⟩ : MethodName)) hown (mvT hZ (hw _ (List.mem_of_getElem? (i := 34) rfl))) (mvT hZ (hw _ (List.mem_of_getElem? (i := 35) rfl))) (notFace_of_selects (args := #[]) (mvT hZ (hw _ (List.mem_of_getElem? (i := 37) rfl)))) (mvT hZ (hw _ (List.mem_of_getElem? (i := 37) rfl))) (mvT hZ (hw _ (List.mem_of_getElem? (i := 36) rfl))) (by decide) (backOf (W := 0) (rlv2 l Z a0 hw [] b324 ar325 (va + vy) vy (upd (upd (upd (upd (fun _ => (0 : Int32)) 0 va) 1 vb) 1 vc) 1 vy) T336.heap n0 Z336 G336_0 G336_1 G336_2 G336_3 G336_4 gz324 na325 rfl) hZ (hw _ (List.mem_of_getElem? (i := 38) rfl)) (hw _ (List.mem_of_getElem? (i := 3) rfl)) (by decide) (by decide)) q338a q338c (g := (mkF m 180 #[.val (.int vp), .val (.int vq), .val (.int vr), .val (.int vs), .val (.int vt), .val (.int va), .val (.int vb), .val (.int vc), .val (.int vy), .val (.int vx), .val (.ref b324), .val (.int (1 : Int32)), .val (.int (1 : Int32)), .val (.int (1 : Int32)), .val (.int (1 : Int32)), .val (.int (1 : Int32)), .val (.int (1 : Int32)), .unset, .unset] [(.ref b324)])) rfl (by rw [hml]; rfl) (Steps.refl _) (argsL := []) (rest := []) (lenOf pd_4 rfl) rfl (by show 2 * 0 + _ ≤ _; exact Nat.le_of_eq rfl) (hb hby at_180) (fun _ _ => ⟨rfl, e337, (by decide : 2 + 0 ≤ _), (by decide : 1003 + 0 ≤ _)⟩)
  dsimp only [Pt.U, Pt.locs, Pt.cells, Pt.slots] at X338 l338 y338 z338 st338 hQ338
  subst l338 y338 z338
  obtain ⟨rfl, Nq338, Kq338, G338_0, G338_1, G338_2, G338_3⟩ := hQ338
  have N338 := Fr.app N337 Nq338
  have zA339 := G336_4.keep Kq338 (ninS (Ne.symm na325) nin0)
  have Z338 := Nat.le_trans Z336 Kq338.1
  have Od338 := Od336.keep Kq338 (allS gz324 all0)
  rw [eY] at G338_3
  obtain ⟨cq340, kq340, q340a, q340b, q340c⟩ := isOf hZ rfl G338_0
  obtain ⟨_, _, ⟨T340, L340, k340, n340⟩, -, X340, ⟨Lc340, hQ340, l340, y340, z340⟩, st340⟩ := X338.virtualBack hx (y := (⟨"com/example/caddis/caddis/XmlNesting", "leave", "()V"⟩ : MethodName)) (z := (⟨"com/example/caddis/caddis/XmlNesting", "leave", "()V"⟩ : MethodName)) hown (mvT hZ (hw _ (List.mem_of_getElem? (i := 34) rfl))) (mvT hZ (hw _ (List.mem_of_getElem? (i := 35) rfl))) (notFace_of_selects (args := #[]) (mvT hZ (hw _ (List.mem_of_getElem? (i := 37) rfl)))) (mvT hZ (hw _ (List.mem_of_getElem? (i := 37) rfl))) (mvT hZ (hw _ (List.mem_of_getElem? (i := 36) rfl))) (by decide) (backOf (W := 0) (rlv1 l Z a0 hw [] b324 ar325 va va (upd (upd (upd (upd (fun _ => (0 : Int32)) 0 va) 1 vb) 1 vc) 1 vy) T338.heap n0 Z338 G338_0 G338_1 G338_2 G338_3 zA339 gz324 na325 rfl) hZ (hw _ (List.mem_of_getElem? (i := 38) rfl)) (hw _ (List.mem_of_getElem? (i := 3) rfl)) (by decide) (by decide)) q340a q340c (g := (mkF m 185 #[.val (.int vp), .val (.int vq), .val (.int vr), .val (.int vs), .val (.int vt), .val (.int va), .val (.int vb), .val (.int vc), .val (.int vy), .val (.int vx), .val (.ref b324), .val (.int (1 : Int32)), .val (.int (1 : Int32)), .val (.int (1 : Int32)), .val (.int (1 : Int32)), .val (.int (1 : Int32)), .val (.int (1 : Int32)), .unset, .unset] [(.ref b324)])) rfl (by rw [hml]; rfl) (Steps.refl _) (argsL := []) (rest := []) (lenOf pd_4 rfl) rfl (by show 2 * 0 + _ ≤ _; exact Nat.le_of_eq rfl) (hb hby at_185) (fun _ _ => ⟨rfl, rfl, (by decide : 2 + 0 ≤ _), (by decide : 1003 + 0 ≤ _)⟩)
  dsimp only [Pt.U, Pt.locs, Pt.cells, Pt.slots] at X340 l340 y340 z340 st340 hQ340
  subst l340 y340 z340
  obtain ⟨rfl, Nq340, Kq340, G340_0, G340_1, G340_2, G340_3⟩ := hQ340
  have N340 := Fr.app N338 Nq340
  have zA341 := zA339.keep Kq340 (ninS (Ne.symm na325) nin0)
  have Z340 := Nat.le_trans Z338 Kq340.1
  have Od340 := Od338.keep Kq340 (allS gz324 all0)
  rw [eZ] at G340_3
  obtain ⟨cq342, kq342, q342a, q342b, q342c⟩ := isOf hZ rfl G340_0
  obtain ⟨_, _, ⟨T342, L342, k342, n342⟩, -, X342, hS342, hG342, ⟨Lc342, hQ342, l342, y342, z342⟩, st342⟩ := X340.virtualBackS hx (y := (⟨"com/example/caddis/caddis/XmlNesting", "enter", "(I)Ljava/util/Optional;"⟩ : MethodName)) (z := (⟨"com/example/caddis/caddis/XmlNesting", "enter", "(I)Ljava/util/Optional;"⟩ : MethodName)) hown (mvT hZ (hw _ (List.mem_of_getElem? (i := 13) rfl))) (mvT hZ (hw _ (List.mem_of_getElem? (i := 14) rfl))) (notFace_of_selects (args := #[]) (mvT hZ (hw _ (List.mem_of_getElem? (i := 16) rfl)))) (mvT hZ (hw _ (List.mem_of_getElem? (i := 16) rfl))) (mvT hZ (hw _ (List.mem_of_getElem? (i := 15) rfl))) (by decide) (backOfS (W := 0) (rex0 l Z a0 hw [] b324 ar325 em (0 : Int32) vx (upd (upd (upd (upd (fun _ => (0 : Int32)) 0 va) 1 vb) 1 vc) 1 vy) T340.heap n0 Z340 G340_0 G340_1 G340_2 G340_3 zA341 gz324 ga325 na325 (Se.ext Od340.2) (by rw [eX]; exact hc207)) hZ (hw _ (List.mem_of_getElem? (i := 17) rfl)) (hw _ (List.mem_of_getElem? (i := 3) rfl)) (by decide) (by decide)) q342a q342c (g := (mkF m 192 #[.val (.int vp), .val (.int vq), .val (.int vr), .val (.int vs), .val (.int vt), .val (.int va), .val (.int vb), .val (.int vc), .val (.int vy), .val (.int vx), .val (.ref b324), .val (.int (1 : Int32)), .val (.int (1 : Int32)), .val (.int (1 : Int32)), .val (.int (1 : Int32)), .val (.int (1 : Int32)), .val (.int (1 : Int32)), .unset, .unset] [(.int vx), (.ref b324)])) rfl (by rw [hml]; rfl) (Steps.refl _) (argsL := [(.int vx)]) (rest := []) (lenOf pd_5 rfl) rfl (by show 2 * 0 + _ ≤ _; exact Nat.le_of_eq rfl) (hb hby at_192) (fun _ _ => ⟨rfl, rfl, (by decide : 2 + 3 ≤ _), (by decide : 1003 + 253 ≤ _)⟩)
  dsimp only [Pt.U, Pt.locs, Pt.cells, Pt.slots] at X342 hS342 hG342 l342 y342 z342 st342 hQ342
  subst l342 y342 z342
  obtain ⟨o342, y342, rfl, Nq342, Kq342, go342, G342_1, G342_2⟩ := hQ342
  have N342 := Fr.app N340 Nq342
  have zF343 := G340_1.keep Kq342 nin0
  have zF344 := G340_2.keep Kq342 nin0
  have zF345 := G340_3.keep Kq342 nin0
  have zE346 := G340_0.keep Kq342
  have zA347 := zA341.keep Kq342 nin0
  have Z342 := Nat.le_trans Z340 Kq342.1
  have Od342 := Od340.keep Kq342 all0
  have hZ342 : Z.Warmed39 (s.setVm T342.vm).vm := State.Warmed39.trans (t := s) hZ hS342.1
  have hown342 : (s.setVm T342.vm).vm.findClass "com/example/caddis/caddis/XmlNestingLeavePinLaw" = some m.cls := by rw [show (s.setVm T342.vm).vm = T342.vm from rfl, hS342.1.alike.findClass]; exact hown
  have sl342 : T342.heap.size ≤ T342.heap.size := Nat.le_refl _
  obtain ⟨cq348, kq348, q348a, q348b, q348c⟩ := isOf hZ342 rfl G342_1
  obtain ⟨_, _, ⟨T348, L348, k348, n348⟩, -, X348, ⟨Lc348, hQ348, l348, y348, z348⟩, st348⟩ := X342.virtualBack hx (y := (⟨"java/util/Optional", "isEmpty", "()Z"⟩ : MethodName)) (z := (⟨"java/util/Optional", "isEmpty", "()Z"⟩ : MethodName)) hown342 (mvT hZ342 (hw _ (List.mem_of_getElem? (i := 27) rfl))) (mvT hZ342 (hw _ (List.mem_of_getElem? (i := 28) rfl))) (notFace_of_selects (args := #[]) (mvT hZ342 (hw _ (List.mem_of_getElem? (i := 30) rfl)))) (mvT hZ342 (hw _ (List.mem_of_getElem? (i := 30) rfl))) (mvT hZ342 (hw _ (List.mem_of_getElem? (i := 29) rfl))) (by decide) (backOf (W := 0) (ris0 l Z a0 hw [] o342 y342 T342.heap n0 Z342 G342_2) hZ342 (hw _ (List.mem_of_getElem? (i := 31) rfl)) (hw _ (List.mem_of_getElem? (i := 24) rfl)) (by decide) (by decide)) q348a q348c (g := (mkF m 195 #[.val (.int vp), .val (.int vq), .val (.int vr), .val (.int vs), .val (.int vt), .val (.int va), .val (.int vb), .val (.int vc), .val (.int vy), .val (.int vx), .val (.ref b324), .val (.int (1 : Int32)), .val (.int (1 : Int32)), .val (.int (1 : Int32)), .val (.int (1 : Int32)), .val (.int (1 : Int32)), .val (.int (1 : Int32)), .unset, .unset] [(.ref o342)])) rfl (by rw [hml]; rfl) (Steps.refl _) (argsL := []) (rest := []) (lenOf pd_6 rfl) rfl (by show 2 * 0 + _ ≤ _; exact Nat.le_of_eq rfl) (hb hby at_195) (fun _ _ => ⟨rfl, rfl, (by decide : 5 + 0 ≤ _), (by decide : 1256 + 0 ≤ _)⟩)
  dsimp only [Pt.U, Pt.locs, Pt.cells, Pt.slots] at X348 l348 y348 z348 st348 hQ348
  subst l348 y348 z348
  obtain ⟨rfl, Nq348, e348⟩ := hQ348
  have N348 := Fr.app N342 Nq348
  obtain ⟨fs, hr, hrun, hended, hend⟩ := X348.leaveW hS342 (by rw [e348]; exact sl342) (v := some (.int (1 : Int32))) (fun h => by rw [Bd.returns] at h; cases h)
  refine ⟨_, _, pre0 _ ?_, hrun, hended, _, _, rfl, ?_, hend.1, hend.2.1, hend.2.2.1, hend.2.2.2.mono (by decide) (by decide)⟩
  · show Steps p.tables e below (s₁.setTop (mkF m 0 #[.val (.int vp), .val (.int vq), .val (.int vr), .val (.int vs), .val (.int vt), .unset, .unset, .unset, .unset, .unset, .unset, .unset, .unset, .unset, .unset, .unset, .unset, .unset, .unset] [])) _
    refine pA vp vq vr vs vt va vb vc vy vx X0 hx hZ hw hby hown qa qb qc qy qx hnz _ ?_
    show Steps p.tables e below (s₁.setTop (mkF m 45 #[.val (.int vp), .val (.int vq), .val (.int vr), .val (.int vs), .val (.int vt), .val (.int va), .val (.int vb), .val (.int vc), .val (.int vy), .val (.int vx), .unset, .unset, .unset, .unset, .unset, .unset, .unset, .unset, .unset] [])) _
    refine st324 _ ?_
    show Steps p.tables e below (T324.setTop (mkF m 48 #[.val (.int vp), .val (.int vq), .val (.int vr), .val (.int vs), .val (.int vt), .val (.int va), .val (.int vb), .val (.int vc), .val (.int vy), .val (.int vx), .unset, .unset, .unset, .unset, .unset, .unset, .unset, .unset, .unset] [(.ref b324)])) _
    refine XS.dup X324.here hx rfl (hb hby at_48) rfl rfl ?_
    show Steps p.tables e below (T324.setTop (mkF m 49 #[.val (.int vp), .val (.int vq), .val (.int vr), .val (.int vs), .val (.int vt), .val (.int va), .val (.int vb), .val (.int vc), .val (.int vy), .val (.int vx), .unset, .unset, .unset, .unset, .unset, .unset, .unset, .unset, .unset] [(.ref b324), (.ref b324)])) _
    refine st325.trans ?_
    show Steps p.tables e below (T325.setTop (mkF m 52 #[.val (.int vp), .val (.int vq), .val (.int vr), .val (.int vs), .val (.int vt), .val (.int va), .val (.int vb), .val (.int vc), .val (.int vy), .val (.int vx), .unset, .unset, .unset, .unset, .unset, .unset, .unset, .unset, .unset] [(.ref b324)])) _
    refine XS.astore X325.here hx rfl (hb hby at_52) rfl rfl (l' := #[.val (.int vp), .val (.int vq), .val (.int vr), .val (.int vs), .val (.int vt), .val (.int va), .val (.int vb), .val (.int vc), .val (.int vy), .val (.int vx), .val (.ref b324), .unset, .unset, .unset, .unset, .unset, .unset, .unset, .unset]) rfl ?_
    show Steps p.tables e below (T325.setTop (mkF m 54 #[.val (.int vp), .val (.int vq), .val (.int vr), .val (.int vs), .val (.int vt), .val (.int va), .val (.int vb), .val (.int vc), .val (.int vy), .val (.int vx), .val (.ref b324), .unset, .unset, .unset, .unset, .unset, .unset, .unset, .unset] [])) _
    refine XS.aload X325.here hx rfl (hb hby at_54) rfl rfl ?_
    show Steps p.tables e below (T325.setTop (mkF m 56 #[.val (.int vp), .val (.int vq), .val (.int vr), .val (.int vs), .val (.int vt), .val (.int va), .val (.int vb), .val (.int vc), .val (.int vy), .val (.int vx), .val (.ref b324), .unset, .unset, .unset, .unset, .unset, .unset, .unset, .unset] [(.ref b324)])) _
    refine XS.iload X325.here hx rfl (hb hby at_56) rfl ?_
    show Steps p.tables e below (T325.setTop (mkF m 58 #[.val (.int vp), .val (.int vq), .val (.int vr), .val (.int vs), .val (.int vt), .val (.int va), .val (.int vb), .val (.int vc), .val (.int vy), .val (.int vx), .val (.ref b324), .unset, .unset, .unset, .unset, .unset, .unset, .unset, .unset] [(.int va), (.ref b324)])) _
    refine st326.trans ?_
    show Steps p.tables e below (T326.setTop (mkF m 61 #[.val (.int vp), .val (.int vq), .val (.int vr), .val (.int vs), .val (.int vt), .val (.int va), .val (.int vb), .val (.int vc), .val (.int vy), .val (.int vx), .val (.ref b324), .unset, .unset, .unset, .unset, .unset, .unset, .unset, .unset] [(.ref em)])) _
    refine st327.trans ?_
    show Steps p.tables e below (T327.setTop (mkF m 64 #[.val (.int vp), .val (.int vq), .val (.int vr), .val (.int vs), .val (.int vt), .val (.int va), .val (.int vb), .val (.int vc), .val (.int vy), .val (.int vx), .val (.ref b324), .unset, .unset, .unset, .unset, .unset, .unset, .unset, .unset] [(.int (1 : Int32))])) _
    refine XS.istore X327.here hx rfl (hb hby at_64) rfl (l' := #[.val (.int vp), .val (.int vq), .val (.int vr), .val (.int vs), .val (.int vt), .val (.int va), .val (.int vb), .val (.int vc), .val (.int vy), .val (.int vx), .val (.ref b324), .val (.int (1 : Int32)), .unset, .unset, .unset, .unset, .unset, .unset, .unset]) rfl ?_
    show Steps p.tables e below (T327.setTop (mkF m 66 #[.val (.int vp), .val (.int vq), .val (.int vr), .val (.int vs), .val (.int vt), .val (.int va), .val (.int vb), .val (.int vc), .val (.int vy), .val (.int vx), .val (.ref b324), .val (.int (1 : Int32)), .unset, .unset, .unset, .unset, .unset, .unset, .unset] [])) _
    refine XS.aload X327.here hx rfl (hb hby at_66) rfl rfl ?_
    show Steps p.tables e below (T327.setTop (mkF m 68 #[.val (.int vp), .val (.int vq), .val (.int vr), .val (.int vs), .val (.int vt), .val (.int va), .val (.int vb), .val (.int vc), .val (.int vy), .val (.int vx), .val (.ref b324), .val (.int (1 : Int32)), .unset, .unset, .unset, .unset, .unset, .unset, .unset] [(.ref b324)])) _
    refine XS.iload X327.here hx rfl (hb hby at_68) rfl ?_
    show Steps p.tables e below (T327.setTop (mkF m 70 #[.val (.int vp), .val (.int vq), .val (.int vr), .val (.int vs), .val (.int vt), .val (.int va), .val (.int vb), .val (.int vc), .val (.int vy), .val (.int vx), .val (.ref b324), .val (.int (1 : Int32)), .unset, .unset, .unset, .unset, .unset, .unset, .unset] [(.int vb), (.ref b324)])) _
    refine st328.trans ?_
    show Steps p.tables e below (T328.setTop (mkF m 73 #[.val (.int vp), .val (.int vq), .val (.int vr), .val (.int vs), .val (.int vt), .val (.int va), .val (.int vb), .val (.int vc), .val (.int vy), .val (.int vx), .val (.ref b324), .val (.int (1 : Int32)), .unset, .unset, .unset, .unset, .unset, .unset, .unset] [(.ref em)])) _
    refine st329.trans ?_
    show Steps p.tables e below (T329.setTop (mkF m 76 #[.val (.int vp), .val (.int vq), .val (.int vr), .val (.int vs), .val (.int vt), .val (.int va), .val (.int vb), .val (.int vc), .val (.int vy), .val (.int vx), .val (.ref b324), .val (.int (1 : Int32)), .unset, .unset, .unset, .unset, .unset, .unset, .unset] [(.int (1 : Int32))])) _
    refine XS.istore X329.here hx rfl (hb hby at_76) rfl (l' := #[.val (.int vp), .val (.int vq), .val (.int vr), .val (.int vs), .val (.int vt), .val (.int va), .val (.int vb), .val (.int vc), .val (.int vy), .val (.int vx), .val (.ref b324), .val (.int (1 : Int32)), .val (.int (1 : Int32)), .unset, .unset, .unset, .unset, .unset, .unset]) rfl ?_
    show Steps p.tables e below (T329.setTop (mkF m 78 #[.val (.int vp), .val (.int vq), .val (.int vr), .val (.int vs), .val (.int vt), .val (.int va), .val (.int vb), .val (.int vc), .val (.int vy), .val (.int vx), .val (.ref b324), .val (.int (1 : Int32)), .val (.int (1 : Int32)), .unset, .unset, .unset, .unset, .unset, .unset] [])) _
    refine XS.aload X329.here hx rfl (hb hby at_78) rfl rfl ?_
    show Steps p.tables e below (T329.setTop (mkF m 80 #[.val (.int vp), .val (.int vq), .val (.int vr), .val (.int vs), .val (.int vt), .val (.int va), .val (.int vb), .val (.int vc), .val (.int vy), .val (.int vx), .val (.ref b324), .val (.int (1 : Int32)), .val (.int (1 : Int32)), .unset, .unset, .unset, .unset, .unset, .unset] [(.ref b324)])) _
    refine st330.trans ?_
    show Steps p.tables e below (T330.setTop (mkF m 83 #[.val (.int vp), .val (.int vq), .val (.int vr), .val (.int vs), .val (.int vt), .val (.int va), .val (.int vb), .val (.int vc), .val (.int vy), .val (.int vx), .val (.ref b324), .val (.int (1 : Int32)), .val (.int (1 : Int32)), .unset, .unset, .unset, .unset, .unset, .unset] [])) _
    refine XS.aload X330.here hx rfl (hb hby at_83) rfl rfl ?_
    show Steps p.tables e below (T330.setTop (mkF m 85 #[.val (.int vp), .val (.int vq), .val (.int vr), .val (.int vs), .val (.int vt), .val (.int va), .val (.int vb), .val (.int vc), .val (.int vy), .val (.int vx), .val (.ref b324), .val (.int (1 : Int32)), .val (.int (1 : Int32)), .unset, .unset, .unset, .unset, .unset, .unset] [(.ref b324)])) _
    refine XS.iload X330.here hx rfl (hb hby at_85) rfl ?_
    show Steps p.tables e below (T330.setTop (mkF m 87 #[.val (.int vp), .val (.int vq), .val (.int vr), .val (.int vs), .val (.int vt), .val (.int va), .val (.int vb), .val (.int vc), .val (.int vy), .val (.int vx), .val (.ref b324), .val (.int (1 : Int32)), .val (.int (1 : Int32)), .unset, .unset, .unset, .unset, .unset, .unset] [(.int vc), (.ref b324)])) _
    refine st332.trans ?_
    show Steps p.tables e below (T332.setTop (mkF m 90 #[.val (.int vp), .val (.int vq), .val (.int vr), .val (.int vs), .val (.int vt), .val (.int va), .val (.int vb), .val (.int vc), .val (.int vy), .val (.int vx), .val (.ref b324), .val (.int (1 : Int32)), .val (.int (1 : Int32)), .unset, .unset, .unset, .unset, .unset, .unset] [(.ref em)])) _
    refine st333.trans ?_
    show Steps p.tables e below (T333.setTop (mkF m 93 #[.val (.int vp), .val (.int vq), .val (.int vr), .val (.int vs), .val (.int vt), .val (.int va), .val (.int vb), .val (.int vc), .val (.int vy), .val (.int vx), .val (.ref b324), .val (.int (1 : Int32)), .val (.int (1 : Int32)), .unset, .unset, .unset, .unset, .unset, .unset] [(.int (1 : Int32))])) _
    refine XS.istore X333.here hx rfl (hb hby at_93) rfl (l' := #[.val (.int vp), .val (.int vq), .val (.int vr), .val (.int vs), .val (.int vt), .val (.int va), .val (.int vb), .val (.int vc), .val (.int vy), .val (.int vx), .val (.ref b324), .val (.int (1 : Int32)), .val (.int (1 : Int32)), .val (.int (1 : Int32)), .unset, .unset, .unset, .unset, .unset]) rfl ?_
    show Steps p.tables e below (T333.setTop (mkF m 95 #[.val (.int vp), .val (.int vq), .val (.int vr), .val (.int vs), .val (.int vt), .val (.int va), .val (.int vb), .val (.int vc), .val (.int vy), .val (.int vx), .val (.ref b324), .val (.int (1 : Int32)), .val (.int (1 : Int32)), .val (.int (1 : Int32)), .unset, .unset, .unset, .unset, .unset] [])) _
    refine XS.iload X333.here hx rfl (hb hby at_95) rfl ?_
    show Steps p.tables e below (T333.setTop (mkF m 97 #[.val (.int vp), .val (.int vq), .val (.int vr), .val (.int vs), .val (.int vt), .val (.int va), .val (.int vb), .val (.int vc), .val (.int vy), .val (.int vx), .val (.ref b324), .val (.int (1 : Int32)), .val (.int (1 : Int32)), .val (.int (1 : Int32)), .unset, .unset, .unset, .unset, .unset] [(.int (1 : Int32))])) _
    refine XS.iload X333.here hx rfl (hb hby at_97) rfl ?_
    show Steps p.tables e below (T333.setTop (mkF m 99 #[.val (.int vp), .val (.int vq), .val (.int vr), .val (.int vs), .val (.int vt), .val (.int va), .val (.int vb), .val (.int vc), .val (.int vy), .val (.int vx), .val (.ref b324), .val (.int (1 : Int32)), .val (.int (1 : Int32)), .val (.int (1 : Int32)), .unset, .unset, .unset, .unset, .unset] [(.int va), (.int (1 : Int32))])) _
    refine XS.iload X333.here hx rfl (hb hby at_99) rfl ?_
    show Steps p.tables e below (T333.setTop (mkF m 101 #[.val (.int vp), .val (.int vq), .val (.int vr), .val (.int vs), .val (.int vt), .val (.int va), .val (.int vb), .val (.int vc), .val (.int vy), .val (.int vx), .val (.ref b324), .val (.int (1 : Int32)), .val (.int (1 : Int32)), .val (.int (1 : Int32)), .unset, .unset, .unset, .unset, .unset] [(.int vc), (.int va), (.int (1 : Int32))])) _
    refine XS.iadd X333.here hx rfl (hb hby at_101) rfl ?_
    show Steps p.tables e below (T333.setTop (mkF m 102 #[.val (.int vp), .val (.int vq), .val (.int vr), .val (.int vs), .val (.int vt), .val (.int va), .val (.int vb), .val (.int vc), .val (.int vy), .val (.int vx), .val (.ref b324), .val (.int (1 : Int32)), .val (.int (1 : Int32)), .val (.int (1 : Int32)), .unset, .unset, .unset, .unset, .unset] [(.int (va + vc)), (.int (1 : Int32))])) _
    refine XS.sipush X333.here hx rfl (hb hby at_102) ?_
    show Steps p.tables e below (T333.setTop (mkF m 105 #[.val (.int vp), .val (.int vq), .val (.int vr), .val (.int vs), .val (.int vt), .val (.int va), .val (.int vb), .val (.int vc), .val (.int vy), .val (.int vx), .val (.ref b324), .val (.int (1 : Int32)), .val (.int (1 : Int32)), .val (.int (1 : Int32)), .unset, .unset, .unset, .unset, .unset] [(.int (1000 : Int32)), (.int (va + vc)), (.int (1 : Int32))])) _
    refine XS.icmpNo X333.here hx rfl (hb hby at_105) rfl (flt hc105).2.2.1 ?_
    show Steps p.tables e below (T333.setTop (mkF m 108 #[.val (.int vp), .val (.int vq), .val (.int vr), .val (.int vs), .val (.int vt), .val (.int va), .val (.int vb), .val (.int vc), .val (.int vy), .val (.int vx), .val (.ref b324), .val (.int (1 : Int32)), .val (.int (1 : Int32)), .val (.int (1 : Int32)), .unset, .unset, .unset, .unset, .unset] [(.int (1 : Int32))])) _
    refine XS.iconst X333.here hx rfl (hb hby at_108) ?_
    show Steps p.tables e below (T333.setTop (mkF m 109 #[.val (.int vp), .val (.int vq), .val (.int vr), .val (.int vs), .val (.int vt), .val (.int va), .val (.int vb), .val (.int vc), .val (.int vy), .val (.int vx), .val (.ref b324), .val (.int (1 : Int32)), .val (.int (1 : Int32)), .val (.int (1 : Int32)), .unset, .unset, .unset, .unset, .unset] [(.int (1 : Int32)), (.int (1 : Int32))])) _
    refine XS.goto X333.here hx rfl (pc0 := 109) (pc' := 113) rfl (hb hby at_109) (by decide) (by decide) ?_
    show Steps p.tables e below (T333.setTop (mkF m 113 #[.val (.int vp), .val (.int vq), .val (.int vr), .val (.int vs), .val (.int vt), .val (.int va), .val (.int vb), .val (.int vc), .val (.int vy), .val (.int vx), .val (.ref b324), .val (.int (1 : Int32)), .val (.int (1 : Int32)), .val (.int (1 : Int32)), .unset, .unset, .unset, .unset, .unset] [(.int (1 : Int32)), (.int (1 : Int32))])) _
    refine XS.icmpNo X333.here hx rfl (hb hby at_113) rfl (teq (by decide)).2 ?_
    show Steps p.tables e below (T333.setTop (mkF m 116 #[.val (.int vp), .val (.int vq), .val (.int vr), .val (.int vs), .val (.int vt), .val (.int va), .val (.int vb), .val (.int vc), .val (.int vy), .val (.int vx), .val (.ref b324), .val (.int (1 : Int32)), .val (.int (1 : Int32)), .val (.int (1 : Int32)), .unset, .unset, .unset, .unset, .unset] [])) _
    refine XS.iconst X333.here hx rfl (hb hby at_116) ?_
    show Steps p.tables e below (T333.setTop (mkF m 117 #[.val (.int vp), .val (.int vq), .val (.int vr), .val (.int vs), .val (.int vt), .val (.int va), .val (.int vb), .val (.int vc), .val (.int vy), .val (.int vx), .val (.ref b324), .val (.int (1 : Int32)), .val (.int (1 : Int32)), .val (.int (1 : Int32)), .unset, .unset, .unset, .unset, .unset] [(.int (1 : Int32))])) _
    refine XS.goto X333.here hx rfl (pc0 := 117) (pc' := 121) rfl (hb hby at_117) (by decide) (by decide) ?_
    show Steps p.tables e below (T333.setTop (mkF m 121 #[.val (.int vp), .val (.int vq), .val (.int vr), .val (.int vs), .val (.int vt), .val (.int va), .val (.int vb), .val (.int vc), .val (.int vy), .val (.int vx), .val (.ref b324), .val (.int (1 : Int32)), .val (.int (1 : Int32)), .val (.int (1 : Int32)), .unset, .unset, .unset, .unset, .unset] [(.int (1 : Int32))])) _
    refine XS.istore X333.here hx rfl (hb hby at_121) rfl (l' := #[.val (.int vp), .val (.int vq), .val (.int vr), .val (.int vs), .val (.int vt), .val (.int va), .val (.int vb), .val (.int vc), .val (.int vy), .val (.int vx), .val (.ref b324), .val (.int (1 : Int32)), .val (.int (1 : Int32)), .val (.int (1 : Int32)), .val (.int (1 : Int32)), .unset, .unset, .unset, .unset]) rfl ?_
    show Steps p.tables e below (T333.setTop (mkF m 123 #[.val (.int vp), .val (.int vq), .val (.int vr), .val (.int vs), .val (.int vt), .val (.int va), .val (.int vb), .val (.int vc), .val (.int vy), .val (.int vx), .val (.ref b324), .val (.int (1 : Int32)), .val (.int (1 : Int32)), .val (.int (1 : Int32)), .val (.int (1 : Int32)), .unset, .unset, .unset, .unset] [])) _
    refine XS.iload X333.here hx rfl (hb hby at_123) rfl ?_
    show Steps p.tables e below (T333.setTop (mkF m 125 #[.val (.int vp), .val (.int vq), .val (.int vr), .val (.int vs), .val (.int vt), .val (.int va), .val (.int vb), .val (.int vc), .val (.int vy), .val (.int vx), .val (.ref b324), .val (.int (1 : Int32)), .val (.int (1 : Int32)), .val (.int (1 : Int32)), .val (.int (1 : Int32)), .unset, .unset, .unset, .unset] [(.int (1 : Int32))])) _
    refine XS.ifNo X333.here hx rfl (hb hby at_125) rfl ((if0 _ _).trans (feq (by decide)).1) ?_
    show Steps p.tables e below (T333.setTop (mkF m 128 #[.val (.int vp), .val (.int vq), .val (.int vr), .val (.int vs), .val (.int vt), .val (.int va), .val (.int vb), .val (.int vc), .val (.int vy), .val (.int vx), .val (.ref b324), .val (.int (1 : Int32)), .val (.int (1 : Int32)), .val (.int (1 : Int32)), .val (.int (1 : Int32)), .unset, .unset, .unset, .unset] [])) _
    refine XS.aload X333.here hx rfl (hb hby at_128) rfl rfl ?_
    show Steps p.tables e below (T333.setTop (mkF m 130 #[.val (.int vp), .val (.int vq), .val (.int vr), .val (.int vs), .val (.int vt), .val (.int va), .val (.int vb), .val (.int vc), .val (.int vy), .val (.int vx), .val (.ref b324), .val (.int (1 : Int32)), .val (.int (1 : Int32)), .val (.int (1 : Int32)), .val (.int (1 : Int32)), .unset, .unset, .unset, .unset] [(.ref b324)])) _
    refine st334.trans ?_
    show Steps p.tables e below (T334.setTop (mkF m 133 #[.val (.int vp), .val (.int vq), .val (.int vr), .val (.int vs), .val (.int vt), .val (.int va), .val (.int vb), .val (.int vc), .val (.int vy), .val (.int vx), .val (.ref b324), .val (.int (1 : Int32)), .val (.int (1 : Int32)), .val (.int (1 : Int32)), .val (.int (1 : Int32)), .unset, .unset, .unset, .unset] [])) _
    refine XS.aload X334.here hx rfl (hb hby at_133) rfl rfl ?_
    show Steps p.tables e below (T334.setTop (mkF m 135 #[.val (.int vp), .val (.int vq), .val (.int vr), .val (.int vs), .val (.int vt), .val (.int va), .val (.int vb), .val (.int vc), .val (.int vy), .val (.int vx), .val (.ref b324), .val (.int (1 : Int32)), .val (.int (1 : Int32)), .val (.int (1 : Int32)), .val (.int (1 : Int32)), .unset, .unset, .unset, .unset] [(.ref b324)])) _
    refine XS.iload X334.here hx rfl (hb hby at_135) rfl ?_
    show Steps p.tables e below (T334.setTop (mkF m 137 #[.val (.int vp), .val (.int vq), .val (.int vr), .val (.int vs), .val (.int vt), .val (.int va), .val (.int vb), .val (.int vc), .val (.int vy), .val (.int vx), .val (.ref b324), .val (.int (1 : Int32)), .val (.int (1 : Int32)), .val (.int (1 : Int32)), .val (.int (1 : Int32)), .unset, .unset, .unset, .unset] [(.int vy), (.ref b324)])) _
    refine st336.trans ?_
    show Steps p.tables e below (T336.setTop (mkF m 140 #[.val (.int vp), .val (.int vq), .val (.int vr), .val (.int vs), .val (.int vt), .val (.int va), .val (.int vb), .val (.int vc), .val (.int vy), .val (.int vx), .val (.ref b324), .val (.int (1 : Int32)), .val (.int (1 : Int32)), .val (.int (1 : Int32)), .val (.int (1 : Int32)), .unset, .unset, .unset, .unset] [(.ref em)])) _
    refine st337.trans ?_
    show Steps p.tables e below (T337.setTop (mkF m 143 #[.val (.int vp), .val (.int vq), .val (.int vr), .val (.int vs), .val (.int vt), .val (.int va), .val (.int vb), .val (.int vc), .val (.int vy), .val (.int vx), .val (.ref b324), .val (.int (1 : Int32)), .val (.int (1 : Int32)), .val (.int (1 : Int32)), .val (.int (1 : Int32)), .unset, .unset, .unset, .unset] [(.int (1 : Int32))])) _
    refine XS.istore X337.here hx rfl (hb hby at_143) rfl (l' := #[.val (.int vp), .val (.int vq), .val (.int vr), .val (.int vs), .val (.int vt), .val (.int va), .val (.int vb), .val (.int vc), .val (.int vy), .val (.int vx), .val (.ref b324), .val (.int (1 : Int32)), .val (.int (1 : Int32)), .val (.int (1 : Int32)), .val (.int (1 : Int32)), .val (.int (1 : Int32)), .unset, .unset, .unset]) rfl ?_
    show Steps p.tables e below (T337.setTop (mkF m 145 #[.val (.int vp), .val (.int vq), .val (.int vr), .val (.int vs), .val (.int vt), .val (.int va), .val (.int vb), .val (.int vc), .val (.int vy), .val (.int vx), .val (.ref b324), .val (.int (1 : Int32)), .val (.int (1 : Int32)), .val (.int (1 : Int32)), .val (.int (1 : Int32)), .val (.int (1 : Int32)), .unset, .unset, .unset] [])) _
    refine XS.iload X337.here hx rfl (hb hby at_145) rfl ?_
    show Steps p.tables e below (T337.setTop (mkF m 147 #[.val (.int vp), .val (.int vq), .val (.int vr), .val (.int vs), .val (.int vt), .val (.int va), .val (.int vb), .val (.int vc), .val (.int vy), .val (.int vx), .val (.ref b324), .val (.int (1 : Int32)), .val (.int (1 : Int32)), .val (.int (1 : Int32)), .val (.int (1 : Int32)), .val (.int (1 : Int32)), .unset, .unset, .unset] [(.int (1 : Int32))])) _
    refine XS.iload X337.here hx rfl (hb hby at_147) rfl ?_
    show Steps p.tables e below (T337.setTop (mkF m 149 #[.val (.int vp), .val (.int vq), .val (.int vr), .val (.int vs), .val (.int vt), .val (.int va), .val (.int vb), .val (.int vc), .val (.int vy), .val (.int vx), .val (.ref b324), .val (.int (1 : Int32)), .val (.int (1 : Int32)), .val (.int (1 : Int32)), .val (.int (1 : Int32)), .val (.int (1 : Int32)), .unset, .unset, .unset] [(.int va), (.int (1 : Int32))])) _
    refine XS.iload X337.here hx rfl (hb hby at_149) rfl ?_
    show Steps p.tables e below (T337.setTop (mkF m 151 #[.val (.int vp), .val (.int vq), .val (.int vr), .val (.int vs), .val (.int vt), .val (.int va), .val (.int vb), .val (.int vc), .val (.int vy), .val (.int vx), .val (.ref b324), .val (.int (1 : Int32)), .val (.int (1 : Int32)), .val (.int (1 : Int32)), .val (.int (1 : Int32)), .val (.int (1 : Int32)), .unset, .unset, .unset] [(.int vy), (.int va), (.int (1 : Int32))])) _
    refine XS.iadd X337.here hx rfl (hb hby at_151) rfl ?_
    show Steps p.tables e below (T337.setTop (mkF m 152 #[.val (.int vp), .val (.int vq), .val (.int vr), .val (.int vs), .val (.int vt), .val (.int va), .val (.int vb), .val (.int vc), .val (.int vy), .val (.int vx), .val (.ref b324), .val (.int (1 : Int32)), .val (.int (1 : Int32)), .val (.int (1 : Int32)), .val (.int (1 : Int32)), .val (.int (1 : Int32)), .unset, .unset, .unset] [(.int (va + vy)), (.int (1 : Int32))])) _
    refine XS.sipush X337.here hx rfl (hb hby at_152) ?_
    show Steps p.tables e below (T337.setTop (mkF m 155 #[.val (.int vp), .val (.int vq), .val (.int vr), .val (.int vs), .val (.int vt), .val (.int va), .val (.int vb), .val (.int vc), .val (.int vy), .val (.int vx), .val (.ref b324), .val (.int (1 : Int32)), .val (.int (1 : Int32)), .val (.int (1 : Int32)), .val (.int (1 : Int32)), .val (.int (1 : Int32)), .unset, .unset, .unset] [(.int (1000 : Int32)), (.int (va + vy)), (.int (1 : Int32))])) _
    refine XS.icmpNo X337.here hx rfl (hb hby at_155) rfl (flt hc155).2.2.1 ?_
    show Steps p.tables e below (T337.setTop (mkF m 158 #[.val (.int vp), .val (.int vq), .val (.int vr), .val (.int vs), .val (.int vt), .val (.int va), .val (.int vb), .val (.int vc), .val (.int vy), .val (.int vx), .val (.ref b324), .val (.int (1 : Int32)), .val (.int (1 : Int32)), .val (.int (1 : Int32)), .val (.int (1 : Int32)), .val (.int (1 : Int32)), .unset, .unset, .unset] [(.int (1 : Int32))])) _
    refine XS.iconst X337.here hx rfl (hb hby at_158) ?_
    show Steps p.tables e below (T337.setTop (mkF m 159 #[.val (.int vp), .val (.int vq), .val (.int vr), .val (.int vs), .val (.int vt), .val (.int va), .val (.int vb), .val (.int vc), .val (.int vy), .val (.int vx), .val (.ref b324), .val (.int (1 : Int32)), .val (.int (1 : Int32)), .val (.int (1 : Int32)), .val (.int (1 : Int32)), .val (.int (1 : Int32)), .unset, .unset, .unset] [(.int (1 : Int32)), (.int (1 : Int32))])) _
    refine XS.goto X337.here hx rfl (pc0 := 159) (pc' := 163) rfl (hb hby at_159) (by decide) (by decide) ?_
    show Steps p.tables e below (T337.setTop (mkF m 163 #[.val (.int vp), .val (.int vq), .val (.int vr), .val (.int vs), .val (.int vt), .val (.int va), .val (.int vb), .val (.int vc), .val (.int vy), .val (.int vx), .val (.ref b324), .val (.int (1 : Int32)), .val (.int (1 : Int32)), .val (.int (1 : Int32)), .val (.int (1 : Int32)), .val (.int (1 : Int32)), .unset, .unset, .unset] [(.int (1 : Int32)), (.int (1 : Int32))])) _
    refine XS.icmpNo X337.here hx rfl (hb hby at_163) rfl (teq (by decide)).2 ?_
    show Steps p.tables e below (T337.setTop (mkF m 166 #[.val (.int vp), .val (.int vq), .val (.int vr), .val (.int vs), .val (.int vt), .val (.int va), .val (.int vb), .val (.int vc), .val (.int vy), .val (.int vx), .val (.ref b324), .val (.int (1 : Int32)), .val (.int (1 : Int32)), .val (.int (1 : Int32)), .val (.int (1 : Int32)), .val (.int (1 : Int32)), .unset, .unset, .unset] [])) _
    refine XS.iconst X337.here hx rfl (hb hby at_166) ?_
    show Steps p.tables e below (T337.setTop (mkF m 167 #[.val (.int vp), .val (.int vq), .val (.int vr), .val (.int vs), .val (.int vt), .val (.int va), .val (.int vb), .val (.int vc), .val (.int vy), .val (.int vx), .val (.ref b324), .val (.int (1 : Int32)), .val (.int (1 : Int32)), .val (.int (1 : Int32)), .val (.int (1 : Int32)), .val (.int (1 : Int32)), .unset, .unset, .unset] [(.int (1 : Int32))])) _
    refine XS.goto X337.here hx rfl (pc0 := 167) (pc' := 171) rfl (hb hby at_167) (by decide) (by decide) ?_
    show Steps p.tables e below (T337.setTop (mkF m 171 #[.val (.int vp), .val (.int vq), .val (.int vr), .val (.int vs), .val (.int vt), .val (.int va), .val (.int vb), .val (.int vc), .val (.int vy), .val (.int vx), .val (.ref b324), .val (.int (1 : Int32)), .val (.int (1 : Int32)), .val (.int (1 : Int32)), .val (.int (1 : Int32)), .val (.int (1 : Int32)), .unset, .unset, .unset] [(.int (1 : Int32))])) _
    refine XS.istore X337.here hx rfl (hb hby at_171) rfl (l' := #[.val (.int vp), .val (.int vq), .val (.int vr), .val (.int vs), .val (.int vt), .val (.int va), .val (.int vb), .val (.int vc), .val (.int vy), .val (.int vx), .val (.ref b324), .val (.int (1 : Int32)), .val (.int (1 : Int32)), .val (.int (1 : Int32)), .val (.int (1 : Int32)), .val (.int (1 : Int32)), .val (.int (1 : Int32)), .unset, .unset]) rfl ?_
    show Steps p.tables e below (T337.setTop (mkF m 173 #[.val (.int vp), .val (.int vq), .val (.int vr), .val (.int vs), .val (.int vt), .val (.int va), .val (.int vb), .val (.int vc), .val (.int vy), .val (.int vx), .val (.ref b324), .val (.int (1 : Int32)), .val (.int (1 : Int32)), .val (.int (1 : Int32)), .val (.int (1 : Int32)), .val (.int (1 : Int32)), .val (.int (1 : Int32)), .unset, .unset] [])) _
    refine XS.iload X337.here hx rfl (hb hby at_173) rfl ?_
    show Steps p.tables e below (T337.setTop (mkF m 175 #[.val (.int vp), .val (.int vq), .val (.int vr), .val (.int vs), .val (.int vt), .val (.int va), .val (.int vb), .val (.int vc), .val (.int vy), .val (.int vx), .val (.ref b324), .val (.int (1 : Int32)), .val (.int (1 : Int32)), .val (.int (1 : Int32)), .val (.int (1 : Int32)), .val (.int (1 : Int32)), .val (.int (1 : Int32)), .unset, .unset] [(.int (1 : Int32))])) _
    refine XS.ifNo X337.here hx rfl (hb hby at_175) rfl ((if0 _ _).trans (feq (by decide)).1) ?_
    show Steps p.tables e below (T337.setTop (mkF m 178 #[.val (.int vp), .val (.int vq), .val (.int vr), .val (.int vs), .val (.int vt), .val (.int va), .val (.int vb), .val (.int vc), .val (.int vy), .val (.int vx), .val (.ref b324), .val (.int (1 : Int32)), .val (.int (1 : Int32)), .val (.int (1 : Int32)), .val (.int (1 : Int32)), .val (.int (1 : Int32)), .val (.int (1 : Int32)), .unset, .unset] [])) _
    refine XS.aload X337.here hx rfl (hb hby at_178) rfl rfl ?_
    show Steps p.tables e below (T337.setTop (mkF m 180 #[.val (.int vp), .val (.int vq), .val (.int vr), .val (.int vs), .val (.int vt), .val (.int va), .val (.int vb), .val (.int vc), .val (.int vy), .val (.int vx), .val (.ref b324), .val (.int (1 : Int32)), .val (.int (1 : Int32)), .val (.int (1 : Int32)), .val (.int (1 : Int32)), .val (.int (1 : Int32)), .val (.int (1 : Int32)), .unset, .unset] [(.ref b324)])) _
    refine st338.trans ?_
    show Steps p.tables e below (T338.setTop (mkF m 183 #[.val (.int vp), .val (.int vq), .val (.int vr), .val (.int vs), .val (.int vt), .val (.int va), .val (.int vb), .val (.int vc), .val (.int vy), .val (.int vx), .val (.ref b324), .val (.int (1 : Int32)), .val (.int (1 : Int32)), .val (.int (1 : Int32)), .val (.int (1 : Int32)), .val (.int (1 : Int32)), .val (.int (1 : Int32)), .unset, .unset] [])) _
    refine XS.aload X338.here hx rfl (hb hby at_183) rfl rfl ?_
    show Steps p.tables e below (T338.setTop (mkF m 185 #[.val (.int vp), .val (.int vq), .val (.int vr), .val (.int vs), .val (.int vt), .val (.int va), .val (.int vb), .val (.int vc), .val (.int vy), .val (.int vx), .val (.ref b324), .val (.int (1 : Int32)), .val (.int (1 : Int32)), .val (.int (1 : Int32)), .val (.int (1 : Int32)), .val (.int (1 : Int32)), .val (.int (1 : Int32)), .unset, .unset] [(.ref b324)])) _
    refine st340.trans ?_
    show Steps p.tables e below (T340.setTop (mkF m 188 #[.val (.int vp), .val (.int vq), .val (.int vr), .val (.int vs), .val (.int vt), .val (.int va), .val (.int vb), .val (.int vc), .val (.int vy), .val (.int vx), .val (.ref b324), .val (.int (1 : Int32)), .val (.int (1 : Int32)), .val (.int (1 : Int32)), .val (.int (1 : Int32)), .val (.int (1 : Int32)), .val (.int (1 : Int32)), .unset, .unset] [])) _
    refine XS.aload X340.here hx rfl (hb hby at_188) rfl rfl ?_
    show Steps p.tables e below (T340.setTop (mkF m 190 #[.val (.int vp), .val (.int vq), .val (.int vr), .val (.int vs), .val (.int vt), .val (.int va), .val (.int vb), .val (.int vc), .val (.int vy), .val (.int vx), .val (.ref b324), .val (.int (1 : Int32)), .val (.int (1 : Int32)), .val (.int (1 : Int32)), .val (.int (1 : Int32)), .val (.int (1 : Int32)), .val (.int (1 : Int32)), .unset, .unset] [(.ref b324)])) _
    refine XS.iload X340.here hx rfl (hb hby at_190) rfl ?_
    show Steps p.tables e below (T340.setTop (mkF m 192 #[.val (.int vp), .val (.int vq), .val (.int vr), .val (.int vs), .val (.int vt), .val (.int va), .val (.int vb), .val (.int vc), .val (.int vy), .val (.int vx), .val (.ref b324), .val (.int (1 : Int32)), .val (.int (1 : Int32)), .val (.int (1 : Int32)), .val (.int (1 : Int32)), .val (.int (1 : Int32)), .val (.int (1 : Int32)), .unset, .unset] [(.int vx), (.ref b324)])) _
    refine st342.trans ?_
    show Steps p.tables e below (T342.setTop (mkF m 195 #[.val (.int vp), .val (.int vq), .val (.int vr), .val (.int vs), .val (.int vt), .val (.int va), .val (.int vb), .val (.int vc), .val (.int vy), .val (.int vx), .val (.ref b324), .val (.int (1 : Int32)), .val (.int (1 : Int32)), .val (.int (1 : Int32)), .val (.int (1 : Int32)), .val (.int (1 : Int32)), .val (.int (1 : Int32)), .unset, .unset] [(.ref o342)])) _
    refine st348.trans ?_
    show Steps p.tables e below (T348.setTop (mkF m 198 #[.val (.int vp), .val (.int vq), .val (.int vr), .val (.int vs), .val (.int vt), .val (.int va), .val (.int vb), .val (.int vc), .val (.int vy), .val (.int vx), .val (.ref b324), .val (.int (1 : Int32)), .val (.int (1 : Int32)), .val (.int (1 : Int32)), .val (.int (1 : Int32)), .val (.int (1 : Int32)), .val (.int (1 : Int32)), .unset, .unset] [(.int (0 : Int32))])) _
    refine XS.istore X348.here hx rfl (hb hby at_198) rfl (l' := #[.val (.int vp), .val (.int vq), .val (.int vr), .val (.int vs), .val (.int vt), .val (.int va), .val (.int vb), .val (.int vc), .val (.int vy), .val (.int vx), .val (.ref b324), .val (.int (1 : Int32)), .val (.int (1 : Int32)), .val (.int (1 : Int32)), .val (.int (1 : Int32)), .val (.int (1 : Int32)), .val (.int (1 : Int32)), .val (.int (0 : Int32)), .unset]) rfl ?_
    show Steps p.tables e below (T348.setTop (mkF m 200 #[.val (.int vp), .val (.int vq), .val (.int vr), .val (.int vs), .val (.int vt), .val (.int va), .val (.int vb), .val (.int vc), .val (.int vy), .val (.int vx), .val (.ref b324), .val (.int (1 : Int32)), .val (.int (1 : Int32)), .val (.int (1 : Int32)), .val (.int (1 : Int32)), .val (.int (1 : Int32)), .val (.int (1 : Int32)), .val (.int (0 : Int32)), .unset] [])) _
    refine XS.iload X348.here hx rfl (hb hby at_200) rfl ?_
    show Steps p.tables e below (T348.setTop (mkF m 202 #[.val (.int vp), .val (.int vq), .val (.int vr), .val (.int vs), .val (.int vt), .val (.int va), .val (.int vb), .val (.int vc), .val (.int vy), .val (.int vx), .val (.ref b324), .val (.int (1 : Int32)), .val (.int (1 : Int32)), .val (.int (1 : Int32)), .val (.int (1 : Int32)), .val (.int (1 : Int32)), .val (.int (1 : Int32)), .val (.int (0 : Int32)), .unset] [(.int (0 : Int32))])) _
    refine XS.iload X348.here hx rfl (hb hby at_202) rfl ?_
    show Steps p.tables e below (T348.setTop (mkF m 204 #[.val (.int vp), .val (.int vq), .val (.int vr), .val (.int vs), .val (.int vt), .val (.int va), .val (.int vb), .val (.int vc), .val (.int vy), .val (.int vx), .val (.ref b324), .val (.int (1 : Int32)), .val (.int (1 : Int32)), .val (.int (1 : Int32)), .val (.int (1 : Int32)), .val (.int (1 : Int32)), .val (.int (1 : Int32)), .val (.int (0 : Int32)), .unset] [(.int vx), (.int (0 : Int32))])) _
    refine XS.sipush X348.here hx rfl (hb hby at_204) ?_
    show Steps p.tables e below (T348.setTop (mkF m 207 #[.val (.int vp), .val (.int vq), .val (.int vr), .val (.int vs), .val (.int vt), .val (.int va), .val (.int vb), .val (.int vc), .val (.int vy), .val (.int vx), .val (.ref b324), .val (.int (1 : Int32)), .val (.int (1 : Int32)), .val (.int (1 : Int32)), .val (.int (1 : Int32)), .val (.int (1 : Int32)), .val (.int (1 : Int32)), .val (.int (0 : Int32)), .unset] [(.int (1000 : Int32)), (.int vx), (.int (0 : Int32))])) _
    refine XS.icmpYes X348.here hx rfl (pc0 := 207) (pc' := 214) rfl (hb hby at_207) rfl (tlt hc207).2.2.1 (by decide) (by decide) ?_
    show Steps p.tables e below (T348.setTop (mkF m 214 #[.val (.int vp), .val (.int vq), .val (.int vr), .val (.int vs), .val (.int vt), .val (.int va), .val (.int vb), .val (.int vc), .val (.int vy), .val (.int vx), .val (.ref b324), .val (.int (1 : Int32)), .val (.int (1 : Int32)), .val (.int (1 : Int32)), .val (.int (1 : Int32)), .val (.int (1 : Int32)), .val (.int (1 : Int32)), .val (.int (0 : Int32)), .unset] [(.int (0 : Int32))])) _
    refine XS.iconst X348.here hx rfl (hb hby at_214) ?_
    show Steps p.tables e below (T348.setTop (mkF m 215 #[.val (.int vp), .val (.int vq), .val (.int vr), .val (.int vs), .val (.int vt), .val (.int va), .val (.int vb), .val (.int vc), .val (.int vy), .val (.int vx), .val (.ref b324), .val (.int (1 : Int32)), .val (.int (1 : Int32)), .val (.int (1 : Int32)), .val (.int (1 : Int32)), .val (.int (1 : Int32)), .val (.int (1 : Int32)), .val (.int (0 : Int32)), .unset] [(.int (0 : Int32)), (.int (0 : Int32))])) _
    refine XS.icmpNo X348.here hx rfl (hb hby at_215) rfl (teq (by decide)).2 ?_
    show Steps p.tables e below (T348.setTop (mkF m 218 #[.val (.int vp), .val (.int vq), .val (.int vr), .val (.int vs), .val (.int vt), .val (.int va), .val (.int vb), .val (.int vc), .val (.int vy), .val (.int vx), .val (.ref b324), .val (.int (1 : Int32)), .val (.int (1 : Int32)), .val (.int (1 : Int32)), .val (.int (1 : Int32)), .val (.int (1 : Int32)), .val (.int (1 : Int32)), .val (.int (0 : Int32)), .unset] [])) _
    refine XS.iconst X348.here hx rfl (hb hby at_218) ?_
    show Steps p.tables e below (T348.setTop (mkF m 219 #[.val (.int vp), .val (.int vq), .val (.int vr), .val (.int vs), .val (.int vt), .val (.int va), .val (.int vb), .val (.int vc), .val (.int vy), .val (.int vx), .val (.ref b324), .val (.int (1 : Int32)), .val (.int (1 : Int32)), .val (.int (1 : Int32)), .val (.int (1 : Int32)), .val (.int (1 : Int32)), .val (.int (1 : Int32)), .val (.int (0 : Int32)), .unset] [(.int (1 : Int32))])) _
    refine XS.goto X348.here hx rfl (pc0 := 219) (pc' := 223) rfl (hb hby at_219) (by decide) (by decide) ?_
    show Steps p.tables e below (T348.setTop (mkF m 223 #[.val (.int vp), .val (.int vq), .val (.int vr), .val (.int vs), .val (.int vt), .val (.int va), .val (.int vb), .val (.int vc), .val (.int vy), .val (.int vx), .val (.ref b324), .val (.int (1 : Int32)), .val (.int (1 : Int32)), .val (.int (1 : Int32)), .val (.int (1 : Int32)), .val (.int (1 : Int32)), .val (.int (1 : Int32)), .val (.int (0 : Int32)), .unset] [(.int (1 : Int32))])) _
    refine XS.istore X348.here hx rfl (hb hby at_223) rfl (l' := #[.val (.int vp), .val (.int vq), .val (.int vr), .val (.int vs), .val (.int vt), .val (.int va), .val (.int vb), .val (.int vc), .val (.int vy), .val (.int vx), .val (.ref b324), .val (.int (1 : Int32)), .val (.int (1 : Int32)), .val (.int (1 : Int32)), .val (.int (1 : Int32)), .val (.int (1 : Int32)), .val (.int (1 : Int32)), .val (.int (0 : Int32)), .val (.int (1 : Int32))]) rfl ?_
    show Steps p.tables e below (T348.setTop (mkF m 225 #[.val (.int vp), .val (.int vq), .val (.int vr), .val (.int vs), .val (.int vt), .val (.int va), .val (.int vb), .val (.int vc), .val (.int vy), .val (.int vx), .val (.ref b324), .val (.int (1 : Int32)), .val (.int (1 : Int32)), .val (.int (1 : Int32)), .val (.int (1 : Int32)), .val (.int (1 : Int32)), .val (.int (1 : Int32)), .val (.int (0 : Int32)), .val (.int (1 : Int32))] [])) _
    refine XS.iload X348.here hx rfl (hb hby at_225) rfl ?_
    show Steps p.tables e below (T348.setTop (mkF m 227 #[.val (.int vp), .val (.int vq), .val (.int vr), .val (.int vs), .val (.int vt), .val (.int va), .val (.int vb), .val (.int vc), .val (.int vy), .val (.int vx), .val (.ref b324), .val (.int (1 : Int32)), .val (.int (1 : Int32)), .val (.int (1 : Int32)), .val (.int (1 : Int32)), .val (.int (1 : Int32)), .val (.int (1 : Int32)), .val (.int (0 : Int32)), .val (.int (1 : Int32))] [(.int (1 : Int32))])) _
    refine XS.ifNo X348.here hx rfl (hb hby at_227) rfl ((if0 _ _).trans (feq (by decide)).1) ?_
    show Steps p.tables e below (T348.setTop (mkF m 230 #[.val (.int vp), .val (.int vq), .val (.int vr), .val (.int vs), .val (.int vt), .val (.int va), .val (.int vb), .val (.int vc), .val (.int vy), .val (.int vx), .val (.ref b324), .val (.int (1 : Int32)), .val (.int (1 : Int32)), .val (.int (1 : Int32)), .val (.int (1 : Int32)), .val (.int (1 : Int32)), .val (.int (1 : Int32)), .val (.int (0 : Int32)), .val (.int (1 : Int32))] [])) _
    refine XS.iload X348.here hx rfl (hb hby at_230) rfl ?_
    show Steps p.tables e below (T348.setTop (mkF m 232 #[.val (.int vp), .val (.int vq), .val (.int vr), .val (.int vs), .val (.int vt), .val (.int va), .val (.int vb), .val (.int vc), .val (.int vy), .val (.int vx), .val (.ref b324), .val (.int (1 : Int32)), .val (.int (1 : Int32)), .val (.int (1 : Int32)), .val (.int (1 : Int32)), .val (.int (1 : Int32)), .val (.int (1 : Int32)), .val (.int (0 : Int32)), .val (.int (1 : Int32))] [(.int (1 : Int32))])) _
    refine XS.ifNo X348.here hx rfl (hb hby at_232) rfl ((if0 _ _).trans (feq (by decide)).1) ?_
    show Steps p.tables e below (T348.setTop (mkF m 235 #[.val (.int vp), .val (.int vq), .val (.int vr), .val (.int vs), .val (.int vt), .val (.int va), .val (.int vb), .val (.int vc), .val (.int vy), .val (.int vx), .val (.ref b324), .val (.int (1 : Int32)), .val (.int (1 : Int32)), .val (.int (1 : Int32)), .val (.int (1 : Int32)), .val (.int (1 : Int32)), .val (.int (1 : Int32)), .val (.int (0 : Int32)), .val (.int (1 : Int32))] [])) _
    refine XS.iload X348.here hx rfl (hb hby at_235) rfl ?_
    show Steps p.tables e below (T348.setTop (mkF m 237 #[.val (.int vp), .val (.int vq), .val (.int vr), .val (.int vs), .val (.int vt), .val (.int va), .val (.int vb), .val (.int vc), .val (.int vy), .val (.int vx), .val (.ref b324), .val (.int (1 : Int32)), .val (.int (1 : Int32)), .val (.int (1 : Int32)), .val (.int (1 : Int32)), .val (.int (1 : Int32)), .val (.int (1 : Int32)), .val (.int (0 : Int32)), .val (.int (1 : Int32))] [(.int (1 : Int32))])) _
    refine XS.ifNo X348.here hx rfl (hb hby at_237) rfl ((if0 _ _).trans (feq (by decide)).1) ?_
    show Steps p.tables e below (T348.setTop (mkF m 240 #[.val (.int vp), .val (.int vq), .val (.int vr), .val (.int vs), .val (.int vt), .val (.int va), .val (.int vb), .val (.int vc), .val (.int vy), .val (.int vx), .val (.ref b324), .val (.int (1 : Int32)), .val (.int (1 : Int32)), .val (.int (1 : Int32)), .val (.int (1 : Int32)), .val (.int (1 : Int32)), .val (.int (1 : Int32)), .val (.int (0 : Int32)), .val (.int (1 : Int32))] [])) _
    refine XS.iload X348.here hx rfl (hb hby at_240) rfl ?_
    show Steps p.tables e below (T348.setTop (mkF m 242 #[.val (.int vp), .val (.int vq), .val (.int vr), .val (.int vs), .val (.int vt), .val (.int va), .val (.int vb), .val (.int vc), .val (.int vy), .val (.int vx), .val (.ref b324), .val (.int (1 : Int32)), .val (.int (1 : Int32)), .val (.int (1 : Int32)), .val (.int (1 : Int32)), .val (.int (1 : Int32)), .val (.int (1 : Int32)), .val (.int (0 : Int32)), .val (.int (1 : Int32))] [(.int (1 : Int32))])) _
    refine XS.ifNo X348.here hx rfl (hb hby at_242) rfl ((if0 _ _).trans (feq (by decide)).1) ?_
    show Steps p.tables e below (T348.setTop (mkF m 245 #[.val (.int vp), .val (.int vq), .val (.int vr), .val (.int vs), .val (.int vt), .val (.int va), .val (.int vb), .val (.int vc), .val (.int vy), .val (.int vx), .val (.ref b324), .val (.int (1 : Int32)), .val (.int (1 : Int32)), .val (.int (1 : Int32)), .val (.int (1 : Int32)), .val (.int (1 : Int32)), .val (.int (1 : Int32)), .val (.int (0 : Int32)), .val (.int (1 : Int32))] [])) _
    refine XS.iload X348.here hx rfl (hb hby at_245) rfl ?_
    show Steps p.tables e below (T348.setTop (mkF m 247 #[.val (.int vp), .val (.int vq), .val (.int vr), .val (.int vs), .val (.int vt), .val (.int va), .val (.int vb), .val (.int vc), .val (.int vy), .val (.int vx), .val (.ref b324), .val (.int (1 : Int32)), .val (.int (1 : Int32)), .val (.int (1 : Int32)), .val (.int (1 : Int32)), .val (.int (1 : Int32)), .val (.int (1 : Int32)), .val (.int (0 : Int32)), .val (.int (1 : Int32))] [(.int (1 : Int32))])) _
    refine XS.ifNo X348.here hx rfl (hb hby at_247) rfl ((if0 _ _).trans (feq (by decide)).1) ?_
    show Steps p.tables e below (T348.setTop (mkF m 250 #[.val (.int vp), .val (.int vq), .val (.int vr), .val (.int vs), .val (.int vt), .val (.int va), .val (.int vb), .val (.int vc), .val (.int vy), .val (.int vx), .val (.ref b324), .val (.int (1 : Int32)), .val (.int (1 : Int32)), .val (.int (1 : Int32)), .val (.int (1 : Int32)), .val (.int (1 : Int32)), .val (.int (1 : Int32)), .val (.int (0 : Int32)), .val (.int (1 : Int32))] [])) _
    refine XS.iconst X348.here hx rfl (hb hby at_250) ?_
    show Steps p.tables e below (T348.setTop (mkF m 251 #[.val (.int vp), .val (.int vq), .val (.int vr), .val (.int vs), .val (.int vt), .val (.int va), .val (.int vb), .val (.int vc), .val (.int vy), .val (.int vx), .val (.ref b324), .val (.int (1 : Int32)), .val (.int (1 : Int32)), .val (.int (1 : Int32)), .val (.int (1 : Int32)), .val (.int (1 : Int32)), .val (.int (1 : Int32)), .val (.int (0 : Int32)), .val (.int (1 : Int32))] [(.int (1 : Int32))])) _
    refine XS.goto X348.here hx rfl (pc0 := 251) (pc' := 255) rfl (hb hby at_251) (by decide) (by decide) ?_
    show Steps p.tables e below (T348.setTop (mkF m 255 #[.val (.int vp), .val (.int vq), .val (.int vr), .val (.int vs), .val (.int vt), .val (.int va), .val (.int vb), .val (.int vc), .val (.int vy), .val (.int vx), .val (.ref b324), .val (.int (1 : Int32)), .val (.int (1 : Int32)), .val (.int (1 : Int32)), .val (.int (1 : Int32)), .val (.int (1 : Int32)), .val (.int (1 : Int32)), .val (.int (0 : Int32)), .val (.int (1 : Int32))] [(.int (1 : Int32))])) _
    exact retN X348 hx (t := .boolean) Bd.returns (by simp) (hb hby at_255) hr
  · show QL n0 _ T348.heap _
    rw [e348]
    exact ⟨rfl, N348⟩
set_option maxRecDepth 65536 in
set_option maxHeartbeats 40000000 in
theorem rm0_111 (l : Launch) (Z : State) (a0 : Array Value) (hw : ∀ d ∈ tables_1, d.before a0 Z = true) (ws : List Jvm.Cond) (vp vq vr vs vt : Int32) (va vb vc vy vx : Int32) (em : Addr) (h0 : Heap) (n0 : Nat) (Z0 : n0 ≤ h0.size) (qa : ((vp &&& (2147483647 : Int32)) % (1001 : Int32)) = va) (qb : ((vq &&& (2147483647 : Int32)) % ((1001 : Int32) - va)) = vb) (qc : (vr &&& (2047 : Int32)) = vc) (qy : (vt &&& (2047 : Int32)) = vy) (qx : (vs &&& (2047 : Int32)) = vx) (hnz : (1001 : Int32) - va ≠ 0) (Od0 : Old Z n0 h0) (Se : Sta Z Z.heap "java/util/Optional" "EMPTY" "Ljava/util/Optional;" (.ref em)) (Ee : Exa Z Z.heap em "java/util/Optional") (Fe : Fld Z Z.heap em "java/util/Optional" "value" "Ljava/lang/Object;" .null) (hA : ¬ ((1000 : Int32) < (0 : Int32) + va)) (hB : ¬ ((1000 : Int32) < va + vb)) (eA : (0 : Int32) + va = va) (eB : va + vb - vb = va) (eC : va + vc - vc = va) (eY : va + vy - vy = va) (eZ : va - va = 0) (eX : (0 : Int32) + vx = vx) (hc105 : ¬ ((1000 : Int32) < (va + vc))) (hc155 : ¬ ((1000 : Int32) < (va + vy))) (hc207 : ¬ ((1000 : Int32) < vx)) :
    MetFree l x (head1 (Jvm.Cond.code x code maxLocals ret :: ws) room_1) (fun zA zU => zA = #[(.int vp), (.int vq), (.int vr), (.int vs), (.int vt)] ∧ Z.Warmed39 zU.vm ∧ zU.heap = h0) (fun _ _ _ _ _ => True) (fun _ zU zO zW => ∃ zV zL, zO = .returned zV ∧ QL n0 zV zW.heap zL ∧ ReturnedEndW zU zO zW zL room_1.cells room_1.slots) := by
  refine MetFree.of_bodySF (plainFor_of_name pn_XmlNestingLeavePinLaw) hisR ?_
  intro p e s m args below meth c s₁ Bd hml0 hP hK
  obtain ⟨rfl, hZ, hh⟩ := hP
  have hx := Bd.exec
  have hby := Bd.bytes
  have hml : c.maxLocals = 19 := hml0
  have hown : s.vm.findClass "com/example/caddis/caddis/XmlNestingLeavePinLaw" = some m.cls := findClass_of_methodNamed Bd.named
  have hnm := (name_of_methodNamed Bd.named Bd.method).1
  have X0 : Stand p l e room_1 s m #[(.int vp), (.int vq), (.int vr), (.int vs), (.int vt)] below meth c s₁ [] 0 0 := Stand.of_body Bd
  have e0 : s₁.heap = h0 := by rw [← hh, Bd.state]; rfl
  have N0 := Fr.nil n0
  have pre0 : ∀ zt, Steps p.tables e below (s₁.setTop (mkF m 0 #[.val (.int vp), .val (.int vq), .val (.int vr), .val (.int vs), .val (.int vt), .unset, .unset, .unset, .unset, .unset, .unset, .unset, .unset, .unset, .unset, .unset, .unset, .unset, .unset] [])) zt → Steps p.tables e below (s₁.setTop (entryFrame m #[(.int vp), (.int vq), (.int vr), (.int vs), (.int vt)] maxLocals)) zt := fun zt zk => castTop (ef_0_IIIII m vp vq vr vs vt) zk
  obtain ⟨T349, h349, X349, e349, E349, A349, D349, -, st349⟩ := newO X0 hx hZ hown (hw _ (List.mem_of_getElem? (i := 1) rfl)) (hw _ (List.mem_of_getElem? (i := 2) rfl)) (hw _ (List.mem_of_getElem? (i := 3) rfl)) e0 (g := (mkF m 45 #[.val (.int vp), .val (.int vq), .val (.int vr), .val (.int vs), .val (.int vt), .val (.int va), .val (.int vb), .val (.int vc), .val (.int vy), .val (.int vx), .unset, .unset, .unset, .unset, .unset, .unset, .unset, .unset, .unset] [])) rfl (hb hby at_45) (by decide) (by decide)
  obtain ⟨b349, g349⟩ : ∃ z, z = h0.size := ⟨_, rfl⟩
  rw [← g349] at A349 D349 st349
  have gz349 : n0 ≤ b349 := Nat.le_trans Z0 (Nat.le_of_eq g349.symm)
  have Z349 := Nat.le_trans Z0 E349.1
  have Od349 := Od0.ext E349
  have F349_declared : Fld Z h349 b349 "com/example/caddis/caddis/XmlNesting" "declared" "[I" .null := D349 (Or.inr (hw _ (List.mem_of_getElem? (i := 12) rfl))) (ty := (.array .int)) (by decide)
  have F349_depth : Fld Z h349 b349 "com/example/caddis/caddis/XmlNesting" "depth" "I" (.int (0 : Int32)) := D349 (Or.inl (hw _ (List.mem_of_getElem? (i := 19) rfl))) (ty := .int) (by decide)
  have F349_declarations : Fld Z h349 b349 "com/example/caddis/caddis/XmlNesting" "declarations" "I" (.int (0 : Int32)) := D349 (Or.inl (hw _ (List.mem_of_getElem? (i := 21) rfl))) (ty := .int) (by decide)
  obtain ⟨_, _, ⟨T350, L350, k350, n350⟩, -, X350, ⟨Lc350, hQ350, l350, y350, z350⟩, st350⟩ := X349.specialBack hx (y := (⟨"com/example/caddis/caddis/XmlNesting", "<init>", "()V"⟩ : MethodName)) rfl hown (mvT hZ (hw _ (List.mem_of_getElem? (i := 4) rfl))) (mvT hZ (hw _ (List.mem_of_getElem? (i := 5) rfl))) (mvT hZ (hw _ (List.mem_of_getElem? (i := 6) rfl))) (by decide) (backOf (W := 1) (rini l Z a0 hw [] b349 h349 n0 Z349 A349 F349_declared F349_depth F349_declarations gz349) hZ (hw _ (List.mem_of_getElem? (i := 6) rfl)) (hw _ (List.mem_of_getElem? (i := 3) rfl)) (by decide) (by decide)) (g := (mkF m 49 #[.val (.int vp), .val (.int vq), .val (.int vr), .val (.int vs), .val (.int vt), .val (.int va), .val (.int vb), .val (.int vc), .val (.int vy), .val (.int vx), .unset, .unset, .unset, .unset, .unset, .unset, .unset, .unset, .unset] [(.ref b349), (.ref b349)])) rfl (by rw [hml]; rfl) (Steps.refl _) (a := b349) (argsL := []) (rest := [(.ref b349)]) (lenOf pd_4 rfl) rfl (by show 2 * 0 + _ ≤ _; exact Nat.le_of_eq rfl) (hb hby at_49) (fun _ _ => ⟨rfl, e349, (by decide : 1 + 1 ≤ _), (by decide : 3 + 1000 ≤ _)⟩)
  dsimp only [Pt.U, Pt.locs, Pt.cells, Pt.slots] at X350 l350 y350 z350 st350 hQ350
  subst l350 y350 z350
  obtain ⟨ar350, rfl, Nq350, Kq350, G350_0, G350_1, G350_2, G350_3, G350_4, ga350, na350⟩ := hQ350
  have N350 := Fr.app N0 Nq350
  have Z350 := Nat.le_trans Z349 Kq350.1
  have Od350 := Od349.keep Kq350 (allS gz349 all0)
  obtain ⟨cq351, kq351, q351a, q351b, q351c⟩ := isOf hZ rfl G350_0
  obtain ⟨_, _, ⟨T351, L351, k351, n351⟩, -, X351, ⟨Lc351, hQ351, l351, y351, z351⟩, st351⟩ := X350.virtualBack hx (y := (⟨"com/example/caddis/caddis/XmlNesting", "enter", "(I)Ljava/util/Optional;"⟩ : MethodName)) (z := (⟨"com/example/caddis/caddis/XmlNesting", "enter", "(I)Ljava/util/Optional;"⟩ : MethodName)) hown (mvT hZ (hw _ (List.mem_of_getElem? (i := 13) rfl))) (mvT hZ (hw _ (List.mem_of_getElem? (i := 14) rfl))) (notFace_of_selects (args := #[]) (mvT hZ (hw _ (List.mem_of_getElem? (i := 16) rfl)))) (mvT hZ (hw _ (List.mem_of_getElem? (i := 16) rfl))) (mvT hZ (hw _ (List.mem_of_getElem? (i := 15) rfl))) (by decide) (backOf (W := 0) (ren0 l Z a0 hw [] b349 ar350 em (0 : Int32) va (fun _ => (0 : Int32)) T350.heap n0 Z350 G350_0 G350_1 G350_2 G350_3 G350_4 gz349 ga350 na350 (Se.ext Od350.2) hA) hZ (hw _ (List.mem_of_getElem? (i := 17) rfl)) (hw _ (List.mem_of_getElem? (i := 3) rfl)) (by decide) (by decide)) q351a q351c (g := (mkF m 58 #[.val (.int vp), .val (.int vq), .val (.int vr), .val (.int vs), .val (.int vt), .val (.int va), .val (.int vb), .val (.int vc), .val (.int vy), .val (.int vx), .val (.ref b349), .unset, .unset, .unset, .unset, .unset, .unset, .unset, .unset] [(.int va), (.ref b349)])) rfl (by rw [hml]; rfl) (Steps.refl _) (argsL := [(.int va)]) (rest := []) (lenOf pd_5 rfl) rfl (by show 2 * 0 + _ ≤ _; exact Nat.le_of_eq rfl) (hb hby at_58) (fun _ _ => ⟨rfl, rfl, (by decide : 2 + 0 ≤ _), (by decide : 1003 + 0 ≤ _)⟩)
  dsimp only [Pt.U, Pt.locs, Pt.cells, Pt.slots] at X351 l351 y351 z351 st351 hQ351
  subst l351 y351 z351
  obtain ⟨rfl, Nq351, Kq351, G351_0, G351_1, G351_2, G351_3, G351_4⟩ := hQ351
  have N351 := Fr.app N350 Nq351
  have Z351 := Nat.le_trans Z350 Kq351.1
  have Od351 := Od350.keep Kq351 (allS gz349 (allS ga350 all0))
  rw [eA] at G351_3
  obtain ⟨cq352, kq352, q352a, q352b, q352c⟩ := isOf hZ rfl (Ee.ext Od351.2)
  obtain ⟨_, _, ⟨T352, L352, k352, n352⟩, -, X352, ⟨Lc352, hQ352, l352, y352, z352⟩, st352⟩ := X351.virtualBack hx (y := (⟨"java/util/Optional", "isEmpty", "()Z"⟩ : MethodName)) (z := (⟨"java/util/Optional", "isEmpty", "()Z"⟩ : MethodName)) hown (mvT hZ (hw _ (List.mem_of_getElem? (i := 27) rfl))) (mvT hZ (hw _ (List.mem_of_getElem? (i := 28) rfl))) (notFace_of_selects (args := #[]) (mvT hZ (hw _ (List.mem_of_getElem? (i := 30) rfl)))) (mvT hZ (hw _ (List.mem_of_getElem? (i := 30) rfl))) (mvT hZ (hw _ (List.mem_of_getElem? (i := 29) rfl))) (by decide) (backOf (W := 0) (ris1 l Z a0 hw [] em T351.heap n0 Z351 (Fe.ext Od351.2)) hZ (hw _ (List.mem_of_getElem? (i := 31) rfl)) (hw _ (List.mem_of_getElem? (i := 24) rfl)) (by decide) (by decide)) q352a q352c (g := (mkF m 61 #[.val (.int vp), .val (.int vq), .val (.int vr), .val (.int vs), .val (.int vt), .val (.int va), .val (.int vb), .val (.int vc), .val (.int vy), .val (.int vx), .val (.ref b349), .unset, .unset, .unset, .unset, .unset, .unset, .unset, .unset] [(.ref em)])) rfl (by rw [hml]; rfl) (Steps.refl _) (argsL := []) (rest := []) (lenOf pd_6 rfl) rfl (by show 2 * 0 + _ ≤ _; exact Nat.le_of_eq rfl) (hb hby at_61) (fun _ _ => ⟨rfl, rfl, (by decide : 2 + 0 ≤ _), (by decide : 1003 + 0 ≤ _)⟩)
  dsimp only [Pt.U, Pt.locs, Pt.cells, Pt.slots] at X352 l352 y352 z352 st352 hQ352
  subst l352 y352 z352
  obtain ⟨rfl, Nq352, e352⟩ := hQ352
  have N352 := Fr.app N351 Nq352
  obtain ⟨cq353, kq353, q353a, q353b, q353c⟩ := isOf hZ e352 G351_0
  obtain ⟨_, _, ⟨T353, L353, k353, n353⟩, -, X353, ⟨Lc353, hQ353, l353, y353, z353⟩, st353⟩ := X352.virtualBack hx (y := (⟨"com/example/caddis/caddis/XmlNesting", "enter", "(I)Ljava/util/Optional;"⟩ : MethodName)) (z := (⟨"com/example/caddis/caddis/XmlNesting", "enter", "(I)Ljava/util/Optional;"⟩ : MethodName)) hown (mvT hZ (hw _ (List.mem_of_getElem? (i := 13) rfl))) (mvT hZ (hw _ (List.mem_of_getElem? (i := 14) rfl))) (notFace_of_selects (args := #[]) (mvT hZ (hw _ (List.mem_of_getElem? (i := 16) rfl)))) (mvT hZ (hw _ (List.mem_of_getElem? (i := 16) rfl))) (mvT hZ (hw _ (List.mem_of_getElem? (i := 15) rfl))) (by decide) (backOf (W := 0) (ren1 l Z a0 hw [] b349 ar350 em va vb (upd (fun _ => (0 : Int32)) 0 va) T351.heap n0 Z351 G351_0 G351_1 G351_2 G351_3 G351_4 gz349 ga350 na350 (Se.ext Od351.2) hB) hZ (hw _ (List.mem_of_getElem? (i := 17) rfl)) (hw _ (List.mem_of_getElem? (i := 3) rfl)) (by decide) (by decide)) q353a q353c (g := (mkF m 70 #[.val (.int vp), .val (.int vq), .val (.int vr), .val (.int vs), .val (.int vt), .val (.int va), .val (.int vb), .val (.int vc), .val (.int vy), .val (.int vx), .val (.ref b349), .val (.int (1 : Int32)), .unset, .unset, .unset, .unset, .unset, .unset, .unset] [(.int vb), (.ref b349)])) rfl (by rw [hml]; rfl) (Steps.refl _) (argsL := [(.int vb)]) (rest := []) (lenOf pd_5 rfl) rfl (by show 2 * 0 + _ ≤ _; exact Nat.le_of_eq rfl) (hb hby at_70) (fun _ _ => ⟨rfl, e352, (by decide : 2 + 0 ≤ _), (by decide : 1003 + 0 ≤ _)⟩)
  dsimp only [Pt.U, Pt.locs, Pt.cells, Pt.slots] at X353 l353 y353 z353 st353 hQ353
  subst l353 y353 z353
  obtain ⟨rfl, Nq353, Kq353, G353_0, G353_1, G353_2, G353_3, G353_4⟩ := hQ353
  have N353 := Fr.app N352 Nq353
  have Z353 := Nat.le_trans Z351 Kq353.1
  have Od353 := Od351.keep Kq353 (allS gz349 (allS ga350 all0))
  obtain ⟨cq354, kq354, q354a, q354b, q354c⟩ := isOf hZ rfl (Ee.ext Od353.2)
  obtain ⟨_, _, ⟨T354, L354, k354, n354⟩, -, X354, ⟨Lc354, hQ354, l354, y354, z354⟩, st354⟩ := X353.virtualBack hx (y := (⟨"java/util/Optional", "isEmpty", "()Z"⟩ : MethodName)) (z := (⟨"java/util/Optional", "isEmpty", "()Z"⟩ : MethodName)) hown (mvT hZ (hw _ (List.mem_of_getElem? (i := 27) rfl))) (mvT hZ (hw _ (List.mem_of_getElem? (i := 28) rfl))) (notFace_of_selects (args := #[]) (mvT hZ (hw _ (List.mem_of_getElem? (i := 30) rfl)))) (mvT hZ (hw _ (List.mem_of_getElem? (i := 30) rfl))) (mvT hZ (hw _ (List.mem_of_getElem? (i := 29) rfl))) (by decide) (backOf (W := 0) (ris1 l Z a0 hw [] em T353.heap n0 Z353 (Fe.ext Od353.2)) hZ (hw _ (List.mem_of_getElem? (i := 31) rfl)) (hw _ (List.mem_of_getElem? (i := 24) rfl)) (by decide) (by decide)) q354a q354c (g := (mkF m 73 #[.val (.int vp), .val (.int vq), .val (.int vr), .val (.int vs), .val (.int vt), .val (.int va), .val (.int vb), .val (.int vc), .val (.int vy), .val (.int vx), .val (.ref b349), .val (.int (1 : Int32)), .unset, .unset, .unset, .unset, .unset, .unset, .unset] [(.ref em)])) rfl (by rw [hml]; rfl) (Steps.refl _) (argsL := []) (rest := []) (lenOf pd_6 rfl) rfl (by show 2 * 0 + _ ≤ _; exact Nat.le_of_eq rfl) (hb hby at_73) (fun _ _ => ⟨rfl, rfl, (by decide : 2 + 0 ≤ _), (by decide : 1003 + 0 ≤ _)⟩)
  dsimp only [Pt.U, Pt.locs, Pt.cells, Pt.slots] at X354 l354 y354 z354 st354 hQ354
  subst l354 y354 z354
  obtain ⟨rfl, Nq354, e354⟩ := hQ354
  have N354 := Fr.app N353 Nq354
  obtain ⟨cq355, kq355, q355a, q355b, q355c⟩ := isOf hZ e354 G353_0
  obtain ⟨_, _, ⟨T355, L355, k355, n355⟩, -, X355, ⟨Lc355, hQ355, l355, y355, z355⟩, st355⟩ := X354.virtualBack hx (y := (⟨"com/example/caddis/caddis/XmlNesting", "leave", "()V"⟩ : MethodName)) (z := (⟨"com/example/caddis/caddis/XmlNesting", "leave", "()V"⟩ : MethodName)) hown (mvT hZ (hw _ (List.mem_of_getElem? (i := 34) rfl))) (mvT hZ (hw _ (List.mem_of_getElem? (i := 35) rfl))) (notFace_of_selects (args := #[]) (mvT hZ (hw _ (List.mem_of_getElem? (i := 37) rfl)))) (mvT hZ (hw _ (List.mem_of_getElem? (i := 37) rfl))) (mvT hZ (hw _ (List.mem_of_getElem? (i := 36) rfl))) (by decide) (backOf (W := 0) (rlv2 l Z a0 hw [] b349 ar350 (va + vb) vb (upd (upd (fun _ => (0 : Int32)) 0 va) 1 vb) T353.heap n0 Z353 G353_0 G353_1 G353_2 G353_3 G353_4 gz349 na350 rfl) hZ (hw _ (List.mem_of_getElem? (i := 38) rfl)) (hw _ (List.mem_of_getElem? (i := 3) rfl)) (by decide) (by decide)) q355a q355c (g := (mkF m 80 #[.val (.int vp), .val (.int vq), .val (.int vr), .val (.int vs), .val (.int vt), .val (.int va), .val (.int vb), .val (.int vc), .val (.int vy), .val (.int vx), .val (.ref b349), .val (.int (1 : Int32)), .val (.int (1 : Int32)), .unset, .unset, .unset, .unset, .unset, .unset] [(.ref b349)])) rfl (by rw [hml]; rfl) (Steps.refl _) (argsL := []) (rest := []) (lenOf pd_4 rfl) rfl (by show 2 * 0 + _ ≤ _; exact Nat.le_of_eq rfl) (hb hby at_80) (fun _ _ => ⟨rfl, e354, (by decide : 2 + 0 ≤ _), (by decide : 1003 + 0 ≤ _)⟩)
  dsimp only [Pt.U, Pt.locs, Pt.cells, Pt.slots] at X355 l355 y355 z355 st355 hQ355
  subst l355 y355 z355
  obtain ⟨rfl, Nq355, Kq355, G355_0, G355_1, G355_2, G355_3⟩ := hQ355
  have N355 := Fr.app N354 Nq355
  have zA356 := G353_4.keep Kq355 (ninS (Ne.symm na350) nin0)
  have Z355 := Nat.le_trans Z353 Kq355.1
  have Od355 := Od353.keep Kq355 (allS gz349 all0)
  rw [eB] at G355_3
  obtain ⟨cq357, kq357, q357a, q357b, q357c⟩ := isOf hZ rfl G355_0
  obtain ⟨_, _, ⟨T357, L357, k357, n357⟩, -, X357, ⟨Lc357, hQ357, l357, y357, z357⟩, st357⟩ := X355.virtualBack hx (y := (⟨"com/example/caddis/caddis/XmlNesting", "enter", "(I)Ljava/util/Optional;"⟩ : MethodName)) (z := (⟨"com/example/caddis/caddis/XmlNesting", "enter", "(I)Ljava/util/Optional;"⟩ : MethodName)) hown (mvT hZ (hw _ (List.mem_of_getElem? (i := 13) rfl))) (mvT hZ (hw _ (List.mem_of_getElem? (i := 14) rfl))) (notFace_of_selects (args := #[]) (mvT hZ (hw _ (List.mem_of_getElem? (i := 16) rfl)))) (mvT hZ (hw _ (List.mem_of_getElem? (i := 16) rfl))) (mvT hZ (hw _ (List.mem_of_getElem? (i := 15) rfl))) (by decide) (backOf (W := 0) (ren1 l Z a0 hw [] b349 ar350 em va vc (upd (upd (fun _ => (0 : Int32)) 0 va) 1 vb) T355.heap n0 Z355 G355_0 G355_1 G355_2 G355_3 zA356 gz349 ga350 na350 (Se.ext Od355.2) hc105) hZ (hw _ (List.mem_of_getElem? (i := 17) rfl)) (hw _ (List.mem_of_getElem? (i := 3) rfl)) (by decide) (by decide)) q357a q357c (g := (mkF m 87 #[.val (.int vp), .val (.int vq), .val (.int vr), .val (.int vs), .val (.int vt), .val (.int va), .val (.int vb), .val (.int vc), .val (.int vy), .val (.int vx), .val (.ref b349), .val (.int (1 : Int32)), .val (.int (1 : Int32)), .unset, .unset, .unset, .unset, .unset, .unset] [(.int vc), (.ref b349)])) rfl (by rw [hml]; rfl) (Steps.refl _) (argsL := [(.int vc)]) (rest := []) (lenOf pd_5 rfl) rfl (by show 2 * 0 + _ ≤ _; exact Nat.le_of_eq rfl) (hb hby at_87) (fun _ _ => ⟨rfl, rfl, (by decide : 2 + 0 ≤ _), (by decide : 1003 + 0 ≤ _)⟩)
  dsimp only [Pt.U, Pt.locs, Pt.cells, Pt.slots] at X357 l357 y357 z357 st357 hQ357
  subst l357 y357 z357
  obtain ⟨rfl, Nq357, Kq357, G357_0, G357_1, G357_2, G357_3, G357_4⟩ := hQ357
  have N357 := Fr.app N355 Nq357
  have Z357 := Nat.le_trans Z355 Kq357.1
  have Od357 := Od355.keep Kq357 (allS gz349 (allS ga350 all0))
  obtain ⟨cq358, kq358, q358a, q358b, q358c⟩ := isOf hZ rfl (Ee.ext Od357.2)
  obtain ⟨_, _, ⟨T358, L358, k358, n358⟩, -, X358, ⟨Lc358, hQ358, l358, y358, z358⟩, st358⟩ := X357.virtualBack hx (y := (⟨"java/util/Optional", "isEmpty", "()Z"⟩ : MethodName)) (z := (⟨"java/util/Optional", "isEmpty", "()Z"⟩ : MethodName)) hown (mvT hZ (hw _ (List.mem_of_getElem? (i := 27) rfl))) (mvT hZ (hw _ (List.mem_of_getElem? (i := 28) rfl))) (notFace_of_selects (args := #[]) (mvT hZ (hw _ (List.mem_of_getElem? (i := 30) rfl)))) (mvT hZ (hw _ (List.mem_of_getElem? (i := 30) rfl))) (mvT hZ (hw _ (List.mem_of_getElem? (i := 29) rfl))) (by decide) (backOf (W := 0) (ris1 l Z a0 hw [] em T357.heap n0 Z357 (Fe.ext Od357.2)) hZ (hw _ (List.mem_of_getElem? (i := 31) rfl)) (hw _ (List.mem_of_getElem? (i := 24) rfl)) (by decide) (by decide)) q358a q358c (g := (mkF m 90 #[.val (.int vp), .val (.int vq), .val (.int vr), .val (.int vs), .val (.int vt), .val (.int va), .val (.int vb), .val (.int vc), .val (.int vy), .val (.int vx), .val (.ref b349), .val (.int (1 : Int32)), .val (.int (1 : Int32)), .unset, .unset, .unset, .unset, .unset, .unset] [(.ref em)])) rfl (by rw [hml]; rfl) (Steps.refl _) (argsL := []) (rest := []) (lenOf pd_6 rfl) rfl (by show 2 * 0 + _ ≤ _; exact Nat.le_of_eq rfl) (hb hby at_90) (fun _ _ => ⟨rfl, rfl, (by decide : 2 + 0 ≤ _), (by decide : 1003 + 0 ≤ _)⟩)
  dsimp only [Pt.U, Pt.locs, Pt.cells, Pt.slots] at X358 l358 y358 z358 st358 hQ358
  subst l358 y358 z358
  obtain ⟨rfl, Nq358, e358⟩ := hQ358
  have N358 := Fr.app N357 Nq358
  obtain ⟨cq359, kq359, q359a, q359b, q359c⟩ := isOf hZ e358 G357_0
  obtain ⟨_, _, ⟨T359, L359, k359, n359⟩, -, X359, ⟨Lc359, hQ359, l359, y359, z359⟩, st359⟩ := X358.virtualBack hx (y := (⟨"com/example/caddis/caddis/XmlNesting", "leave", "()V"⟩ : MethodName)) (z := (⟨"com/example/caddis/caddis/XmlNesting", "leave", "()V"⟩ : MethodName)) hown (mvT hZ (hw _ (List.mem_of_getElem? (i := 34) rfl))) (mvT hZ (hw _ (List.mem_of_getElem? (i := 35) rfl))) (notFace_of_selects (args := #[]) (mvT hZ (hw _ (List.mem_of_getElem? (i := 37) rfl)))) (mvT hZ (hw _ (List.mem_of_getElem? (i := 37) rfl))) (mvT hZ (hw _ (List.mem_of_getElem? (i := 36) rfl))) (by decide) (backOf (W := 0) (rlv2 l Z a0 hw [] b349 ar350 (va + vc) vc (upd (upd (upd (fun _ => (0 : Int32)) 0 va) 1 vb) 1 vc) T357.heap n0 Z357 G357_0 G357_1 G357_2 G357_3 G357_4 gz349 na350 rfl) hZ (hw _ (List.mem_of_getElem? (i := 38) rfl)) (hw _ (List.mem_of_getElem? (i := 3) rfl)) (by decide) (by decide)) q359a q359c (g := (mkF m 130 #[.val (.int vp), .val (.int vq), .val (.int vr), .val (.int vs), .val (.int vt), .val (.int va), .val (.int vb), .val (.int vc), .val (.int vy), .val (.int vx), .val (.ref b349), .val (.int (1 : Int32)), .val (.int (1 : Int32)), .val (.int (1 : Int32)), .val (.int (1 : Int32)), .unset, .unset, .unset, .unset] [(.ref b349)])) rfl (by rw [hml]; rfl) (Steps.refl _) (argsL := []) (rest := []) (lenOf pd_4 rfl) rfl (by show 2 * 0 + _ ≤ _; exact Nat.le_of_eq rfl) (hb hby at_130) (fun _ _ => ⟨rfl, e358, (by decide : 2 + 0 ≤ _), (by decide : 1003 + 0 ≤ _)⟩)
  dsimp only [Pt.U, Pt.locs, Pt.cells, Pt.slots] at X359 l359 y359 z359 st359 hQ359
  subst l359 y359 z359
  obtain ⟨rfl, Nq359, Kq359, G359_0, G359_1, G359_2, G359_3⟩ := hQ359
  have N359 := Fr.app N358 Nq359
  have zA360 := G357_4.keep Kq359 (ninS (Ne.symm na350) nin0)
  have Z359 := Nat.le_trans Z357 Kq359.1
  have Od359 := Od357.keep Kq359 (allS gz349 all0)
  rw [eC] at G359_3
  obtain ⟨cq361, kq361, q361a, q361b, q361c⟩ := isOf hZ rfl G359_0
  obtain ⟨_, _, ⟨T361, L361, k361, n361⟩, -, X361, ⟨Lc361, hQ361, l361, y361, z361⟩, st361⟩ := X359.virtualBack hx (y := (⟨"com/example/caddis/caddis/XmlNesting", "enter", "(I)Ljava/util/Optional;"⟩ : MethodName)) (z := (⟨"com/example/caddis/caddis/XmlNesting", "enter", "(I)Ljava/util/Optional;"⟩ : MethodName)) hown (mvT hZ (hw _ (List.mem_of_getElem? (i := 13) rfl))) (mvT hZ (hw _ (List.mem_of_getElem? (i := 14) rfl))) (notFace_of_selects (args := #[]) (mvT hZ (hw _ (List.mem_of_getElem? (i := 16) rfl)))) (mvT hZ (hw _ (List.mem_of_getElem? (i := 16) rfl))) (mvT hZ (hw _ (List.mem_of_getElem? (i := 15) rfl))) (by decide) (backOf (W := 0) (ren1 l Z a0 hw [] b349 ar350 em va vy (upd (upd (upd (fun _ => (0 : Int32)) 0 va) 1 vb) 1 vc) T359.heap n0 Z359 G359_0 G359_1 G359_2 G359_3 zA360 gz349 ga350 na350 (Se.ext Od359.2) hc155) hZ (hw _ (List.mem_of_getElem? (i := 17) rfl)) (hw _ (List.mem_of_getElem? (i := 3) rfl)) (by decide) (by decide)) q361a q361c (g := (mkF m 137 #[.val (.int vp), .val (.int vq), .val (.int vr), .val (.int vs), .val (.int vt), .val (.int va), .val (.int vb), .val (.int vc), .val (.int vy), .val (.int vx), .val (.ref b349), .val (.int (1 : Int32)), .val (.int (1 : Int32)), .val (.int (1 : Int32)), .val (.int (1 : Int32)), .unset, .unset, .unset, .unset] [(.int vy), (.ref b349)])) rfl (by rw [hml]; rfl) (Steps.refl _) (argsL := [(.int vy)]) (rest := []) (lenOf pd_5 rfl) rfl (by show 2 * 0 + _ ≤ _; exact Nat.le_of_eq rfl) (hb hby at_137) (fun _ _ => ⟨rfl, rfl, (by decide : 2 + 0 ≤ _), (by decide : 1003 + 0 ≤ _)⟩)
  dsimp only [Pt.U, Pt.locs, Pt.cells, Pt.slots] at X361 l361 y361 z361 st361 hQ361
  subst l361 y361 z361
  obtain ⟨rfl, Nq361, Kq361, G361_0, G361_1, G361_2, G361_3, G361_4⟩ := hQ361
  have N361 := Fr.app N359 Nq361
  have Z361 := Nat.le_trans Z359 Kq361.1
  have Od361 := Od359.keep Kq361 (allS gz349 (allS ga350 all0))
  obtain ⟨cq362, kq362, q362a, q362b, q362c⟩ := isOf hZ rfl (Ee.ext Od361.2)
  obtain ⟨_, _, ⟨T362, L362, k362, n362⟩, -, X362, ⟨Lc362, hQ362, l362, y362, z362⟩, st362⟩ := X361.virtualBack hx (y := (⟨"java/util/Optional", "isEmpty", "()Z"⟩ : MethodName)) (z := (⟨"java/util/Optional", "isEmpty", "()Z"⟩ : MethodName)) hown (mvT hZ (hw _ (List.mem_of_getElem? (i := 27) rfl))) (mvT hZ (hw _ (List.mem_of_getElem? (i := 28) rfl))) (notFace_of_selects (args := #[]) (mvT hZ (hw _ (List.mem_of_getElem? (i := 30) rfl)))) (mvT hZ (hw _ (List.mem_of_getElem? (i := 30) rfl))) (mvT hZ (hw _ (List.mem_of_getElem? (i := 29) rfl))) (by decide) (backOf (W := 0) (ris1 l Z a0 hw [] em T361.heap n0 Z361 (Fe.ext Od361.2)) hZ (hw _ (List.mem_of_getElem? (i := 31) rfl)) (hw _ (List.mem_of_getElem? (i := 24) rfl)) (by decide) (by decide)) q362a q362c (g := (mkF m 140 #[.val (.int vp), .val (.int vq), .val (.int vr), .val (.int vs), .val (.int vt), .val (.int va), .val (.int vb), .val (.int vc), .val (.int vy), .val (.int vx), .val (.ref b349), .val (.int (1 : Int32)), .val (.int (1 : Int32)), .val (.int (1 : Int32)), .val (.int (1 : Int32)), .unset, .unset, .unset, .unset] [(.ref em)])) rfl (by rw [hml]; rfl) (Steps.refl _) (argsL := []) (rest := []) (lenOf pd_6 rfl) rfl (by show 2 * 0 + _ ≤ _; exact Nat.le_of_eq rfl) (hb hby at_140) (fun _ _ => ⟨rfl, rfl, (by decide : 2 + 0 ≤ _), (by decide : 1003 + 0 ≤ _)⟩)
  dsimp only [Pt.U, Pt.locs, Pt.cells, Pt.slots] at X362 l362 y362 z362 st362 hQ362
  subst l362 y362 z362
  obtain ⟨rfl, Nq362, e362⟩ := hQ362
  have N362 := Fr.app N361 Nq362
  obtain ⟨cq363, kq363, q363a, q363b, q363c⟩ := isOf hZ e362 G361_0
  obtain ⟨_, _, ⟨T363, L363, k363, n363⟩, -, X363, ⟨Lc363, hQ363, l363, y363, z363⟩, st363⟩ := X362.virtualBack hx (y := (⟨"com/example/caddis/caddis/XmlNesting", "leave", "()V"⟩ : MethodName)) (z := (⟨"com/example/caddis/caddis/XmlNesting", "leave", "()V"⟩ : MethodName)) hown (mvT hZ (hw _ (List.mem_of_getElem? (i := 34) rfl))) (mvT hZ (hw _ (List.mem_of_getElem? (i := 35) rfl))) (notFace_of_selects (args := #[]) (mvT hZ (hw _ (List.mem_of_getElem? (i := 37) rfl)))) (mvT hZ (hw _ (List.mem_of_getElem? (i := 37) rfl))) (mvT hZ (hw _ (List.mem_of_getElem? (i := 36) rfl))) (by decide) (backOf (W := 0) (rlv2 l Z a0 hw [] b349 ar350 (va + vy) vy (upd (upd (upd (upd (fun _ => (0 : Int32)) 0 va) 1 vb) 1 vc) 1 vy) T361.heap n0 Z361 G361_0 G361_1 G361_2 G361_3 G361_4 gz349 na350 rfl) hZ (hw _ (List.mem_of_getElem? (i := 38) rfl)) (hw _ (List.mem_of_getElem? (i := 3) rfl)) (by decide) (by decide)) q363a q363c (g := (mkF m 180 #[.val (.int vp), .val (.int vq), .val (.int vr), .val (.int vs), .val (.int vt), .val (.int va), .val (.int vb), .val (.int vc), .val (.int vy), .val (.int vx), .val (.ref b349), .val (.int (1 : Int32)), .val (.int (1 : Int32)), .val (.int (1 : Int32)), .val (.int (1 : Int32)), .val (.int (1 : Int32)), .val (.int (1 : Int32)), .unset, .unset] [(.ref b349)])) rfl (by rw [hml]; rfl) (Steps.refl _) (argsL := []) (rest := []) (lenOf pd_4 rfl) rfl (by show 2 * 0 + _ ≤ _; exact Nat.le_of_eq rfl) (hb hby at_180) (fun _ _ => ⟨rfl, e362, (by decide : 2 + 0 ≤ _), (by decide : 1003 + 0 ≤ _)⟩)
  dsimp only [Pt.U, Pt.locs, Pt.cells, Pt.slots] at X363 l363 y363 z363 st363 hQ363
  subst l363 y363 z363
  obtain ⟨rfl, Nq363, Kq363, G363_0, G363_1, G363_2, G363_3⟩ := hQ363
  have N363 := Fr.app N362 Nq363
  have zA364 := G361_4.keep Kq363 (ninS (Ne.symm na350) nin0)
  have Z363 := Nat.le_trans Z361 Kq363.1
  have Od363 := Od361.keep Kq363 (allS gz349 all0)
  rw [eY] at G363_3
  obtain ⟨cq365, kq365, q365a, q365b, q365c⟩ := isOf hZ rfl G363_0
  obtain ⟨_, _, ⟨T365, L365, k365, n365⟩, -, X365, ⟨Lc365, hQ365, l365, y365, z365⟩, st365⟩ := X363.virtualBack hx (y := (⟨"com/example/caddis/caddis/XmlNesting", "leave", "()V"⟩ : MethodName)) (z := (⟨"com/example/caddis/caddis/XmlNesting", "leave", "()V"⟩ : MethodName)) hown (mvT hZ (hw _ (List.mem_of_getElem? (i := 34) rfl))) (mvT hZ (hw _ (List.mem_of_getElem? (i := 35) rfl))) (notFace_of_selects (args := #[]) (mvT hZ (hw _ (List.mem_of_getElem? (i := 37) rfl)))) (mvT hZ (hw _ (List.mem_of_getElem? (i := 37) rfl))) (mvT hZ (hw _ (List.mem_of_getElem? (i := 36) rfl))) (by decide) (backOf (W := 0) (rlv1 l Z a0 hw [] b349 ar350 va va (upd (upd (upd (upd (fun _ => (0 : Int32)) 0 va) 1 vb) 1 vc) 1 vy) T363.heap n0 Z363 G363_0 G363_1 G363_2 G363_3 zA364 gz349 na350 rfl) hZ (hw _ (List.mem_of_getElem? (i := 38) rfl)) (hw _ (List.mem_of_getElem? (i := 3) rfl)) (by decide) (by decide)) q365a q365c (g := (mkF m 185 #[.val (.int vp), .val (.int vq), .val (.int vr), .val (.int vs), .val (.int vt), .val (.int va), .val (.int vb), .val (.int vc), .val (.int vy), .val (.int vx), .val (.ref b349), .val (.int (1 : Int32)), .val (.int (1 : Int32)), .val (.int (1 : Int32)), .val (.int (1 : Int32)), .val (.int (1 : Int32)), .val (.int (1 : Int32)), .unset, .unset] [(.ref b349)])) rfl (by rw [hml]; rfl) (Steps.refl _) (argsL := []) (rest := []) (lenOf pd_4 rfl) rfl (by show 2 * 0 + _ ≤ _; exact Nat.le_of_eq rfl) (hb hby at_185) (fun _ _ => ⟨rfl, rfl, (by decide : 2 + 0 ≤ _), (by decide : 1003 + 0 ≤ _)⟩)
  dsimp only [Pt.U, Pt.locs, Pt.cells, Pt.slots] at X365 l365 y365 z365 st365 hQ365
  subst l365 y365 z365
  obtain ⟨rfl, Nq365, Kq365, G365_0, G365_1, G365_2, G365_3⟩ := hQ365
  have N365 := Fr.app N363 Nq365
  have zA366 := zA364.keep Kq365 (ninS (Ne.symm na350) nin0)
  have Z365 := Nat.le_trans Z363 Kq365.1
  have Od365 := Od363.keep Kq365 (allS gz349 all0)
  rw [eZ] at G365_3
  obtain ⟨cq367, kq367, q367a, q367b, q367c⟩ := isOf hZ rfl G365_0
  obtain ⟨_, _, ⟨T367, L367, k367, n367⟩, -, X367, ⟨Lc367, hQ367, l367, y367, z367⟩, st367⟩ := X365.virtualBack hx (y := (⟨"com/example/caddis/caddis/XmlNesting", "enter", "(I)Ljava/util/Optional;"⟩ : MethodName)) (z := (⟨"com/example/caddis/caddis/XmlNesting", "enter", "(I)Ljava/util/Optional;"⟩ : MethodName)) hown (mvT hZ (hw _ (List.mem_of_getElem? (i := 13) rfl))) (mvT hZ (hw _ (List.mem_of_getElem? (i := 14) rfl))) (notFace_of_selects (args := #[]) (mvT hZ (hw _ (List.mem_of_getElem? (i := 16) rfl)))) (mvT hZ (hw _ (List.mem_of_getElem? (i := 16) rfl))) (mvT hZ (hw _ (List.mem_of_getElem? (i := 15) rfl))) (by decide) (backOf (W := 0) (ren0 l Z a0 hw [] b349 ar350 em (0 : Int32) vx (upd (upd (upd (upd (fun _ => (0 : Int32)) 0 va) 1 vb) 1 vc) 1 vy) T365.heap n0 Z365 G365_0 G365_1 G365_2 G365_3 zA366 gz349 ga350 na350 (Se.ext Od365.2) (by rw [eX]; exact hc207)) hZ (hw _ (List.mem_of_getElem? (i := 17) rfl)) (hw _ (List.mem_of_getElem? (i := 3) rfl)) (by decide) (by decide)) q367a q367c (g := (mkF m 192 #[.val (.int vp), .val (.int vq), .val (.int vr), .val (.int vs), .val (.int vt), .val (.int va), .val (.int vb), .val (.int vc), .val (.int vy), .val (.int vx), .val (.ref b349), .val (.int (1 : Int32)), .val (.int (1 : Int32)), .val (.int (1 : Int32)), .val (.int (1 : Int32)), .val (.int (1 : Int32)), .val (.int (1 : Int32)), .unset, .unset] [(.int vx), (.ref b349)])) rfl (by rw [hml]; rfl) (Steps.refl _) (argsL := [(.int vx)]) (rest := []) (lenOf pd_5 rfl) rfl (by show 2 * 0 + _ ≤ _; exact Nat.le_of_eq rfl) (hb hby at_192) (fun _ _ => ⟨rfl, rfl, (by decide : 2 + 0 ≤ _), (by decide : 1003 + 0 ≤ _)⟩)
  dsimp only [Pt.U, Pt.locs, Pt.cells, Pt.slots] at X367 l367 y367 z367 st367 hQ367
  subst l367 y367 z367
  obtain ⟨rfl, Nq367, Kq367, G367_0, G367_1, G367_2, G367_3, G367_4⟩ := hQ367
  have N367 := Fr.app N365 Nq367
  have Z367 := Nat.le_trans Z365 Kq367.1
  have Od367 := Od365.keep Kq367 (allS gz349 (allS ga350 all0))
  rw [eX] at G367_3
  obtain ⟨cq368, kq368, q368a, q368b, q368c⟩ := isOf hZ rfl (Ee.ext Od367.2)
  obtain ⟨_, _, ⟨T368, L368, k368, n368⟩, -, X368, ⟨Lc368, hQ368, l368, y368, z368⟩, st368⟩ := X367.virtualBack hx (y := (⟨"java/util/Optional", "isEmpty", "()Z"⟩ : MethodName)) (z := (⟨"java/util/Optional", "isEmpty", "()Z"⟩ : MethodName)) hown (mvT hZ (hw _ (List.mem_of_getElem? (i := 27) rfl))) (mvT hZ (hw _ (List.mem_of_getElem? (i := 28) rfl))) (notFace_of_selects (args := #[]) (mvT hZ (hw _ (List.mem_of_getElem? (i := 30) rfl)))) (mvT hZ (hw _ (List.mem_of_getElem? (i := 30) rfl))) (mvT hZ (hw _ (List.mem_of_getElem? (i := 29) rfl))) (by decide) (backOf (W := 0) (ris1 l Z a0 hw [] em T367.heap n0 Z367 (Fe.ext Od367.2)) hZ (hw _ (List.mem_of_getElem? (i := 31) rfl)) (hw _ (List.mem_of_getElem? (i := 24) rfl)) (by decide) (by decide)) q368a q368c (g := (mkF m 195 #[.val (.int vp), .val (.int vq), .val (.int vr), .val (.int vs), .val (.int vt), .val (.int va), .val (.int vb), .val (.int vc), .val (.int vy), .val (.int vx), .val (.ref b349), .val (.int (1 : Int32)), .val (.int (1 : Int32)), .val (.int (1 : Int32)), .val (.int (1 : Int32)), .val (.int (1 : Int32)), .val (.int (1 : Int32)), .unset, .unset] [(.ref em)])) rfl (by rw [hml]; rfl) (Steps.refl _) (argsL := []) (rest := []) (lenOf pd_6 rfl) rfl (by show 2 * 0 + _ ≤ _; exact Nat.le_of_eq rfl) (hb hby at_195) (fun _ _ => ⟨rfl, rfl, (by decide : 2 + 0 ≤ _), (by decide : 1003 + 0 ≤ _)⟩)
  dsimp only [Pt.U, Pt.locs, Pt.cells, Pt.slots] at X368 l368 y368 z368 st368 hQ368
  subst l368 y368 z368
  obtain ⟨rfl, Nq368, e368⟩ := hQ368
  have N368 := Fr.app N367 Nq368
  obtain ⟨fs, hr, hrun, hended, hW, hsame⟩ := X368.leave (v := some (.int (1 : Int32))) (fun h => by rw [Bd.returns] at h; cases h)
  refine ⟨_, _, pre0 _ ?_, hrun, hended, _, _, rfl, ?_, Jvm.RoadKit.wide ⟨⟨_, rfl⟩, hW, hsame.mono (by decide) (by decide)⟩⟩
  · show Steps p.tables e below (s₁.setTop (mkF m 0 #[.val (.int vp), .val (.int vq), .val (.int vr), .val (.int vs), .val (.int vt), .unset, .unset, .unset, .unset, .unset, .unset, .unset, .unset, .unset, .unset, .unset, .unset, .unset, .unset] [])) _
    refine pA vp vq vr vs vt va vb vc vy vx X0 hx hZ hw hby hown qa qb qc qy qx hnz _ ?_
    show Steps p.tables e below (s₁.setTop (mkF m 45 #[.val (.int vp), .val (.int vq), .val (.int vr), .val (.int vs), .val (.int vt), .val (.int va), .val (.int vb), .val (.int vc), .val (.int vy), .val (.int vx), .unset, .unset, .unset, .unset, .unset, .unset, .unset, .unset, .unset] [])) _
    refine st349 _ ?_
    show Steps p.tables e below (T349.setTop (mkF m 48 #[.val (.int vp), .val (.int vq), .val (.int vr), .val (.int vs), .val (.int vt), .val (.int va), .val (.int vb), .val (.int vc), .val (.int vy), .val (.int vx), .unset, .unset, .unset, .unset, .unset, .unset, .unset, .unset, .unset] [(.ref b349)])) _
    refine XS.dup X349.here hx rfl (hb hby at_48) rfl rfl ?_
    show Steps p.tables e below (T349.setTop (mkF m 49 #[.val (.int vp), .val (.int vq), .val (.int vr), .val (.int vs), .val (.int vt), .val (.int va), .val (.int vb), .val (.int vc), .val (.int vy), .val (.int vx), .unset, .unset, .unset, .unset, .unset, .unset, .unset, .unset, .unset] [(.ref b349), (.ref b349)])) _
    refine st350.trans ?_
    show Steps p.tables e below (T350.setTop (mkF m 52 #[.val (.int vp), .val (.int vq), .val (.int vr), .val (.int vs), .val (.int vt), .val (.int va), .val (.int vb), .val (.int vc), .val (.int vy), .val (.int vx), .unset, .unset, .unset, .unset, .unset, .unset, .unset, .unset, .unset] [(.ref b349)])) _
    refine XS.astore X350.here hx rfl (hb hby at_52) rfl rfl (l' := #[.val (.int vp), .val (.int vq), .val (.int vr), .val (.int vs), .val (.int vt), .val (.int va), .val (.int vb), .val (.int vc), .val (.int vy), .val (.int vx), .val (.ref b349), .unset, .unset, .unset, .unset, .unset, .unset, .unset, .unset]) rfl ?_
    show Steps p.tables e below (T350.setTop (mkF m 54 #[.val (.int vp), .val (.int vq), .val (.int vr), .val (.int vs), .val (.int vt), .val (.int va), .val (.int vb), .val (.int vc), .val (.int vy), .val (.int vx), .val (.ref b349), .unset, .unset, .unset, .unset, .unset, .unset, .unset, .unset] [])) _
    refine XS.aload X350.here hx rfl (hb hby at_54) rfl rfl ?_
    show Steps p.tables e below (T350.setTop (mkF m 56 #[.val (.int vp), .val (.int vq), .val (.int vr), .val (.int vs), .val (.int vt), .val (.int va), .val (.int vb), .val (.int vc), .val (.int vy), .val (.int vx), .val (.ref b349), .unset, .unset, .unset, .unset, .unset, .unset, .unset, .unset] [(.ref b349)])) _
    refine XS.iload X350.here hx rfl (hb hby at_56) rfl ?_
    show Steps p.tables e below (T350.setTop (mkF m 58 #[.val (.int vp), .val (.int vq), .val (.int vr), .val (.int vs), .val (.int vt), .val (.int va), .val (.int vb), .val (.int vc), .val (.int vy), .val (.int vx), .val (.ref b349), .unset, .unset, .unset, .unset, .unset, .unset, .unset, .unset] [(.int va), (.ref b349)])) _
    refine st351.trans ?_
    show Steps p.tables e below (T351.setTop (mkF m 61 #[.val (.int vp), .val (.int vq), .val (.int vr), .val (.int vs), .val (.int vt), .val (.int va), .val (.int vb), .val (.int vc), .val (.int vy), .val (.int vx), .val (.ref b349), .unset, .unset, .unset, .unset, .unset, .unset, .unset, .unset] [(.ref em)])) _
    refine st352.trans ?_
    show Steps p.tables e below (T352.setTop (mkF m 64 #[.val (.int vp), .val (.int vq), .val (.int vr), .val (.int vs), .val (.int vt), .val (.int va), .val (.int vb), .val (.int vc), .val (.int vy), .val (.int vx), .val (.ref b349), .unset, .unset, .unset, .unset, .unset, .unset, .unset, .unset] [(.int (1 : Int32))])) _
    refine XS.istore X352.here hx rfl (hb hby at_64) rfl (l' := #[.val (.int vp), .val (.int vq), .val (.int vr), .val (.int vs), .val (.int vt), .val (.int va), .val (.int vb), .val (.int vc), .val (.int vy), .val (.int vx), .val (.ref b349), .val (.int (1 : Int32)), .unset, .unset, .unset, .unset, .unset, .unset, .unset]) rfl ?_
    show Steps p.tables e below (T352.setTop (mkF m 66 #[.val (.int vp), .val (.int vq), .val (.int vr), .val (.int vs), .val (.int vt), .val (.int va), .val (.int vb), .val (.int vc), .val (.int vy), .val (.int vx), .val (.ref b349), .val (.int (1 : Int32)), .unset, .unset, .unset, .unset, .unset, .unset, .unset] [])) _
    refine XS.aload X352.here hx rfl (hb hby at_66) rfl rfl ?_
    show Steps p.tables e below (T352.setTop (mkF m 68 #[.val (.int vp), .val (.int vq), .val (.int vr), .val (.int vs), .val (.int vt), .val (.int va), .val (.int vb), .val (.int vc), .val (.int vy), .val (.int vx), .val (.ref b349), .val (.int (1 : Int32)), .unset, .unset, .unset, .unset, .unset, .unset, .unset] [(.ref b349)])) _
    refine XS.iload X352.here hx rfl (hb hby at_68) rfl ?_
    show Steps p.tables e below (T352.setTop (mkF m 70 #[.val (.int vp), .val (.int vq), .val (.int vr), .val (.int vs), .val (.int vt), .val (.int va), .val (.int vb), .val (.int vc), .val (.int vy), .val (.int vx), .val (.ref b349), .val (.int (1 : Int32)), .unset, .unset, .unset, .unset, .unset, .unset, .unset] [(.int vb), (.ref b349)])) _
    refine st353.trans ?_
    show Steps p.tables e below (T353.setTop (mkF m 73 #[.val (.int vp), .val (.int vq), .val (.int vr), .val (.int vs), .val (.int vt), .val (.int va), .val (.int vb), .val (.int vc), .val (.int vy), .val (.int vx), .val (.ref b349), .val (.int (1 : Int32)), .unset, .unset, .unset, .unset, .unset, .unset, .unset] [(.ref em)])) _
    refine st354.trans ?_
    show Steps p.tables e below (T354.setTop (mkF m 76 #[.val (.int vp), .val (.int vq), .val (.int vr), .val (.int vs), .val (.int vt), .val (.int va), .val (.int vb), .val (.int vc), .val (.int vy), .val (.int vx), .val (.ref b349), .val (.int (1 : Int32)), .unset, .unset, .unset, .unset, .unset, .unset, .unset] [(.int (1 : Int32))])) _
    refine XS.istore X354.here hx rfl (hb hby at_76) rfl (l' := #[.val (.int vp), .val (.int vq), .val (.int vr), .val (.int vs), .val (.int vt), .val (.int va), .val (.int vb), .val (.int vc), .val (.int vy), .val (.int vx), .val (.ref b349), .val (.int (1 : Int32)), .val (.int (1 : Int32)), .unset, .unset, .unset, .unset, .unset, .unset]) rfl ?_
    show Steps p.tables e below (T354.setTop (mkF m 78 #[.val (.int vp), .val (.int vq), .val (.int vr), .val (.int vs), .val (.int vt), .val (.int va), .val (.int vb), .val (.int vc), .val (.int vy), .val (.int vx), .val (.ref b349), .val (.int (1 : Int32)), .val (.int (1 : Int32)), .unset, .unset, .unset, .unset, .unset, .unset] [])) _
    refine XS.aload X354.here hx rfl (hb hby at_78) rfl rfl ?_
    show Steps p.tables e below (T354.setTop (mkF m 80 #[.val (.int vp), .val (.int vq), .val (.int vr), .val (.int vs), .val (.int vt), .val (.int va), .val (.int vb), .val (.int vc), .val (.int vy), .val (.int vx), .val (.ref b349), .val (.int (1 : Int32)), .val (.int (1 : Int32)), .unset, .unset, .unset, .unset, .unset, .unset] [(.ref b349)])) _
    refine st355.trans ?_
    show Steps p.tables e below (T355.setTop (mkF m 83 #[.val (.int vp), .val (.int vq), .val (.int vr), .val (.int vs), .val (.int vt), .val (.int va), .val (.int vb), .val (.int vc), .val (.int vy), .val (.int vx), .val (.ref b349), .val (.int (1 : Int32)), .val (.int (1 : Int32)), .unset, .unset, .unset, .unset, .unset, .unset] [])) _
    refine XS.aload X355.here hx rfl (hb hby at_83) rfl rfl ?_
    show Steps p.tables e below (T355.setTop (mkF m 85 #[.val (.int vp), .val (.int vq), .val (.int vr), .val (.int vs), .val (.int vt), .val (.int va), .val (.int vb), .val (.int vc), .val (.int vy), .val (.int vx), .val (.ref b349), .val (.int (1 : Int32)), .val (.int (1 : Int32)), .unset, .unset, .unset, .unset, .unset, .unset] [(.ref b349)])) _
    refine XS.iload X355.here hx rfl (hb hby at_85) rfl ?_
    show Steps p.tables e below (T355.setTop (mkF m 87 #[.val (.int vp), .val (.int vq), .val (.int vr), .val (.int vs), .val (.int vt), .val (.int va), .val (.int vb), .val (.int vc), .val (.int vy), .val (.int vx), .val (.ref b349), .val (.int (1 : Int32)), .val (.int (1 : Int32)), .unset, .unset, .unset, .unset, .unset, .unset] [(.int vc), (.ref b349)])) _
    refine st357.trans ?_
    show Steps p.tables e below (T357.setTop (mkF m 90 #[.val (.int vp), .val (.int vq), .val (.int vr), .val (.int vs), .val (.int vt), .val (.int va), .val (.int vb), .val (.int vc), .val (.int vy), .val (.int vx), .val (.ref b349), .val (.int (1 : Int32)), .val (.int (1 : Int32)), .unset, .unset, .unset, .unset, .unset, .unset] [(.ref em)])) _
    refine st358.trans ?_
    show Steps p.tables e below (T358.setTop (mkF m 93 #[.val (.int vp), .val (.int vq), .val (.int vr), .val (.int vs), .val (.int vt), .val (.int va), .val (.int vb), .val (.int vc), .val (.int vy), .val (.int vx), .val (.ref b349), .val (.int (1 : Int32)), .val (.int (1 : Int32)), .unset, .unset, .unset, .unset, .unset, .unset] [(.int (1 : Int32))])) _
    refine XS.istore X358.here hx rfl (hb hby at_93) rfl (l' := #[.val (.int vp), .val (.int vq), .val (.int vr), .val (.int vs), .val (.int vt), .val (.int va), .val (.int vb), .val (.int vc), .val (.int vy), .val (.int vx), .val (.ref b349), .val (.int (1 : Int32)), .val (.int (1 : Int32)), .val (.int (1 : Int32)), .unset, .unset, .unset, .unset, .unset]) rfl ?_
    show Steps p.tables e below (T358.setTop (mkF m 95 #[.val (.int vp), .val (.int vq), .val (.int vr), .val (.int vs), .val (.int vt), .val (.int va), .val (.int vb), .val (.int vc), .val (.int vy), .val (.int vx), .val (.ref b349), .val (.int (1 : Int32)), .val (.int (1 : Int32)), .val (.int (1 : Int32)), .unset, .unset, .unset, .unset, .unset] [])) _
    refine XS.iload X358.here hx rfl (hb hby at_95) rfl ?_
    show Steps p.tables e below (T358.setTop (mkF m 97 #[.val (.int vp), .val (.int vq), .val (.int vr), .val (.int vs), .val (.int vt), .val (.int va), .val (.int vb), .val (.int vc), .val (.int vy), .val (.int vx), .val (.ref b349), .val (.int (1 : Int32)), .val (.int (1 : Int32)), .val (.int (1 : Int32)), .unset, .unset, .unset, .unset, .unset] [(.int (1 : Int32))])) _
    refine XS.iload X358.here hx rfl (hb hby at_97) rfl ?_
    show Steps p.tables e below (T358.setTop (mkF m 99 #[.val (.int vp), .val (.int vq), .val (.int vr), .val (.int vs), .val (.int vt), .val (.int va), .val (.int vb), .val (.int vc), .val (.int vy), .val (.int vx), .val (.ref b349), .val (.int (1 : Int32)), .val (.int (1 : Int32)), .val (.int (1 : Int32)), .unset, .unset, .unset, .unset, .unset] [(.int va), (.int (1 : Int32))])) _
    refine XS.iload X358.here hx rfl (hb hby at_99) rfl ?_
    show Steps p.tables e below (T358.setTop (mkF m 101 #[.val (.int vp), .val (.int vq), .val (.int vr), .val (.int vs), .val (.int vt), .val (.int va), .val (.int vb), .val (.int vc), .val (.int vy), .val (.int vx), .val (.ref b349), .val (.int (1 : Int32)), .val (.int (1 : Int32)), .val (.int (1 : Int32)), .unset, .unset, .unset, .unset, .unset] [(.int vc), (.int va), (.int (1 : Int32))])) _
    refine XS.iadd X358.here hx rfl (hb hby at_101) rfl ?_
    show Steps p.tables e below (T358.setTop (mkF m 102 #[.val (.int vp), .val (.int vq), .val (.int vr), .val (.int vs), .val (.int vt), .val (.int va), .val (.int vb), .val (.int vc), .val (.int vy), .val (.int vx), .val (.ref b349), .val (.int (1 : Int32)), .val (.int (1 : Int32)), .val (.int (1 : Int32)), .unset, .unset, .unset, .unset, .unset] [(.int (va + vc)), (.int (1 : Int32))])) _
    refine XS.sipush X358.here hx rfl (hb hby at_102) ?_
    show Steps p.tables e below (T358.setTop (mkF m 105 #[.val (.int vp), .val (.int vq), .val (.int vr), .val (.int vs), .val (.int vt), .val (.int va), .val (.int vb), .val (.int vc), .val (.int vy), .val (.int vx), .val (.ref b349), .val (.int (1 : Int32)), .val (.int (1 : Int32)), .val (.int (1 : Int32)), .unset, .unset, .unset, .unset, .unset] [(.int (1000 : Int32)), (.int (va + vc)), (.int (1 : Int32))])) _
    refine XS.icmpNo X358.here hx rfl (hb hby at_105) rfl (flt hc105).2.2.1 ?_
    show Steps p.tables e below (T358.setTop (mkF m 108 #[.val (.int vp), .val (.int vq), .val (.int vr), .val (.int vs), .val (.int vt), .val (.int va), .val (.int vb), .val (.int vc), .val (.int vy), .val (.int vx), .val (.ref b349), .val (.int (1 : Int32)), .val (.int (1 : Int32)), .val (.int (1 : Int32)), .unset, .unset, .unset, .unset, .unset] [(.int (1 : Int32))])) _
    refine XS.iconst X358.here hx rfl (hb hby at_108) ?_
    show Steps p.tables e below (T358.setTop (mkF m 109 #[.val (.int vp), .val (.int vq), .val (.int vr), .val (.int vs), .val (.int vt), .val (.int va), .val (.int vb), .val (.int vc), .val (.int vy), .val (.int vx), .val (.ref b349), .val (.int (1 : Int32)), .val (.int (1 : Int32)), .val (.int (1 : Int32)), .unset, .unset, .unset, .unset, .unset] [(.int (1 : Int32)), (.int (1 : Int32))])) _
    refine XS.goto X358.here hx rfl (pc0 := 109) (pc' := 113) rfl (hb hby at_109) (by decide) (by decide) ?_
    show Steps p.tables e below (T358.setTop (mkF m 113 #[.val (.int vp), .val (.int vq), .val (.int vr), .val (.int vs), .val (.int vt), .val (.int va), .val (.int vb), .val (.int vc), .val (.int vy), .val (.int vx), .val (.ref b349), .val (.int (1 : Int32)), .val (.int (1 : Int32)), .val (.int (1 : Int32)), .unset, .unset, .unset, .unset, .unset] [(.int (1 : Int32)), (.int (1 : Int32))])) _
    refine XS.icmpNo X358.here hx rfl (hb hby at_113) rfl (teq (by decide)).2 ?_
    show Steps p.tables e below (T358.setTop (mkF m 116 #[.val (.int vp), .val (.int vq), .val (.int vr), .val (.int vs), .val (.int vt), .val (.int va), .val (.int vb), .val (.int vc), .val (.int vy), .val (.int vx), .val (.ref b349), .val (.int (1 : Int32)), .val (.int (1 : Int32)), .val (.int (1 : Int32)), .unset, .unset, .unset, .unset, .unset] [])) _
    refine XS.iconst X358.here hx rfl (hb hby at_116) ?_
    show Steps p.tables e below (T358.setTop (mkF m 117 #[.val (.int vp), .val (.int vq), .val (.int vr), .val (.int vs), .val (.int vt), .val (.int va), .val (.int vb), .val (.int vc), .val (.int vy), .val (.int vx), .val (.ref b349), .val (.int (1 : Int32)), .val (.int (1 : Int32)), .val (.int (1 : Int32)), .unset, .unset, .unset, .unset, .unset] [(.int (1 : Int32))])) _
    refine XS.goto X358.here hx rfl (pc0 := 117) (pc' := 121) rfl (hb hby at_117) (by decide) (by decide) ?_
    show Steps p.tables e below (T358.setTop (mkF m 121 #[.val (.int vp), .val (.int vq), .val (.int vr), .val (.int vs), .val (.int vt), .val (.int va), .val (.int vb), .val (.int vc), .val (.int vy), .val (.int vx), .val (.ref b349), .val (.int (1 : Int32)), .val (.int (1 : Int32)), .val (.int (1 : Int32)), .unset, .unset, .unset, .unset, .unset] [(.int (1 : Int32))])) _
    refine XS.istore X358.here hx rfl (hb hby at_121) rfl (l' := #[.val (.int vp), .val (.int vq), .val (.int vr), .val (.int vs), .val (.int vt), .val (.int va), .val (.int vb), .val (.int vc), .val (.int vy), .val (.int vx), .val (.ref b349), .val (.int (1 : Int32)), .val (.int (1 : Int32)), .val (.int (1 : Int32)), .val (.int (1 : Int32)), .unset, .unset, .unset, .unset]) rfl ?_
    show Steps p.tables e below (T358.setTop (mkF m 123 #[.val (.int vp), .val (.int vq), .val (.int vr), .val (.int vs), .val (.int vt), .val (.int va), .val (.int vb), .val (.int vc), .val (.int vy), .val (.int vx), .val (.ref b349), .val (.int (1 : Int32)), .val (.int (1 : Int32)), .val (.int (1 : Int32)), .val (.int (1 : Int32)), .unset, .unset, .unset, .unset] [])) _
    refine XS.iload X358.here hx rfl (hb hby at_123) rfl ?_
    show Steps p.tables e below (T358.setTop (mkF m 125 #[.val (.int vp), .val (.int vq), .val (.int vr), .val (.int vs), .val (.int vt), .val (.int va), .val (.int vb), .val (.int vc), .val (.int vy), .val (.int vx), .val (.ref b349), .val (.int (1 : Int32)), .val (.int (1 : Int32)), .val (.int (1 : Int32)), .val (.int (1 : Int32)), .unset, .unset, .unset, .unset] [(.int (1 : Int32))])) _
    refine XS.ifNo X358.here hx rfl (hb hby at_125) rfl ((if0 _ _).trans (feq (by decide)).1) ?_
    show Steps p.tables e below (T358.setTop (mkF m 128 #[.val (.int vp), .val (.int vq), .val (.int vr), .val (.int vs), .val (.int vt), .val (.int va), .val (.int vb), .val (.int vc), .val (.int vy), .val (.int vx), .val (.ref b349), .val (.int (1 : Int32)), .val (.int (1 : Int32)), .val (.int (1 : Int32)), .val (.int (1 : Int32)), .unset, .unset, .unset, .unset] [])) _
    refine XS.aload X358.here hx rfl (hb hby at_128) rfl rfl ?_
    show Steps p.tables e below (T358.setTop (mkF m 130 #[.val (.int vp), .val (.int vq), .val (.int vr), .val (.int vs), .val (.int vt), .val (.int va), .val (.int vb), .val (.int vc), .val (.int vy), .val (.int vx), .val (.ref b349), .val (.int (1 : Int32)), .val (.int (1 : Int32)), .val (.int (1 : Int32)), .val (.int (1 : Int32)), .unset, .unset, .unset, .unset] [(.ref b349)])) _
    refine st359.trans ?_
    show Steps p.tables e below (T359.setTop (mkF m 133 #[.val (.int vp), .val (.int vq), .val (.int vr), .val (.int vs), .val (.int vt), .val (.int va), .val (.int vb), .val (.int vc), .val (.int vy), .val (.int vx), .val (.ref b349), .val (.int (1 : Int32)), .val (.int (1 : Int32)), .val (.int (1 : Int32)), .val (.int (1 : Int32)), .unset, .unset, .unset, .unset] [])) _
    refine XS.aload X359.here hx rfl (hb hby at_133) rfl rfl ?_
    show Steps p.tables e below (T359.setTop (mkF m 135 #[.val (.int vp), .val (.int vq), .val (.int vr), .val (.int vs), .val (.int vt), .val (.int va), .val (.int vb), .val (.int vc), .val (.int vy), .val (.int vx), .val (.ref b349), .val (.int (1 : Int32)), .val (.int (1 : Int32)), .val (.int (1 : Int32)), .val (.int (1 : Int32)), .unset, .unset, .unset, .unset] [(.ref b349)])) _
    refine XS.iload X359.here hx rfl (hb hby at_135) rfl ?_
    show Steps p.tables e below (T359.setTop (mkF m 137 #[.val (.int vp), .val (.int vq), .val (.int vr), .val (.int vs), .val (.int vt), .val (.int va), .val (.int vb), .val (.int vc), .val (.int vy), .val (.int vx), .val (.ref b349), .val (.int (1 : Int32)), .val (.int (1 : Int32)), .val (.int (1 : Int32)), .val (.int (1 : Int32)), .unset, .unset, .unset, .unset] [(.int vy), (.ref b349)])) _
    refine st361.trans ?_
    show Steps p.tables e below (T361.setTop (mkF m 140 #[.val (.int vp), .val (.int vq), .val (.int vr), .val (.int vs), .val (.int vt), .val (.int va), .val (.int vb), .val (.int vc), .val (.int vy), .val (.int vx), .val (.ref b349), .val (.int (1 : Int32)), .val (.int (1 : Int32)), .val (.int (1 : Int32)), .val (.int (1 : Int32)), .unset, .unset, .unset, .unset] [(.ref em)])) _
    refine st362.trans ?_
    show Steps p.tables e below (T362.setTop (mkF m 143 #[.val (.int vp), .val (.int vq), .val (.int vr), .val (.int vs), .val (.int vt), .val (.int va), .val (.int vb), .val (.int vc), .val (.int vy), .val (.int vx), .val (.ref b349), .val (.int (1 : Int32)), .val (.int (1 : Int32)), .val (.int (1 : Int32)), .val (.int (1 : Int32)), .unset, .unset, .unset, .unset] [(.int (1 : Int32))])) _
    refine XS.istore X362.here hx rfl (hb hby at_143) rfl (l' := #[.val (.int vp), .val (.int vq), .val (.int vr), .val (.int vs), .val (.int vt), .val (.int va), .val (.int vb), .val (.int vc), .val (.int vy), .val (.int vx), .val (.ref b349), .val (.int (1 : Int32)), .val (.int (1 : Int32)), .val (.int (1 : Int32)), .val (.int (1 : Int32)), .val (.int (1 : Int32)), .unset, .unset, .unset]) rfl ?_
    show Steps p.tables e below (T362.setTop (mkF m 145 #[.val (.int vp), .val (.int vq), .val (.int vr), .val (.int vs), .val (.int vt), .val (.int va), .val (.int vb), .val (.int vc), .val (.int vy), .val (.int vx), .val (.ref b349), .val (.int (1 : Int32)), .val (.int (1 : Int32)), .val (.int (1 : Int32)), .val (.int (1 : Int32)), .val (.int (1 : Int32)), .unset, .unset, .unset] [])) _
    refine XS.iload X362.here hx rfl (hb hby at_145) rfl ?_
    show Steps p.tables e below (T362.setTop (mkF m 147 #[.val (.int vp), .val (.int vq), .val (.int vr), .val (.int vs), .val (.int vt), .val (.int va), .val (.int vb), .val (.int vc), .val (.int vy), .val (.int vx), .val (.ref b349), .val (.int (1 : Int32)), .val (.int (1 : Int32)), .val (.int (1 : Int32)), .val (.int (1 : Int32)), .val (.int (1 : Int32)), .unset, .unset, .unset] [(.int (1 : Int32))])) _
    refine XS.iload X362.here hx rfl (hb hby at_147) rfl ?_
    show Steps p.tables e below (T362.setTop (mkF m 149 #[.val (.int vp), .val (.int vq), .val (.int vr), .val (.int vs), .val (.int vt), .val (.int va), .val (.int vb), .val (.int vc), .val (.int vy), .val (.int vx), .val (.ref b349), .val (.int (1 : Int32)), .val (.int (1 : Int32)), .val (.int (1 : Int32)), .val (.int (1 : Int32)), .val (.int (1 : Int32)), .unset, .unset, .unset] [(.int va), (.int (1 : Int32))])) _
    refine XS.iload X362.here hx rfl (hb hby at_149) rfl ?_
    show Steps p.tables e below (T362.setTop (mkF m 151 #[.val (.int vp), .val (.int vq), .val (.int vr), .val (.int vs), .val (.int vt), .val (.int va), .val (.int vb), .val (.int vc), .val (.int vy), .val (.int vx), .val (.ref b349), .val (.int (1 : Int32)), .val (.int (1 : Int32)), .val (.int (1 : Int32)), .val (.int (1 : Int32)), .val (.int (1 : Int32)), .unset, .unset, .unset] [(.int vy), (.int va), (.int (1 : Int32))])) _
    refine XS.iadd X362.here hx rfl (hb hby at_151) rfl ?_
    show Steps p.tables e below (T362.setTop (mkF m 152 #[.val (.int vp), .val (.int vq), .val (.int vr), .val (.int vs), .val (.int vt), .val (.int va), .val (.int vb), .val (.int vc), .val (.int vy), .val (.int vx), .val (.ref b349), .val (.int (1 : Int32)), .val (.int (1 : Int32)), .val (.int (1 : Int32)), .val (.int (1 : Int32)), .val (.int (1 : Int32)), .unset, .unset, .unset] [(.int (va + vy)), (.int (1 : Int32))])) _
    refine XS.sipush X362.here hx rfl (hb hby at_152) ?_
    show Steps p.tables e below (T362.setTop (mkF m 155 #[.val (.int vp), .val (.int vq), .val (.int vr), .val (.int vs), .val (.int vt), .val (.int va), .val (.int vb), .val (.int vc), .val (.int vy), .val (.int vx), .val (.ref b349), .val (.int (1 : Int32)), .val (.int (1 : Int32)), .val (.int (1 : Int32)), .val (.int (1 : Int32)), .val (.int (1 : Int32)), .unset, .unset, .unset] [(.int (1000 : Int32)), (.int (va + vy)), (.int (1 : Int32))])) _
    refine XS.icmpNo X362.here hx rfl (hb hby at_155) rfl (flt hc155).2.2.1 ?_
    show Steps p.tables e below (T362.setTop (mkF m 158 #[.val (.int vp), .val (.int vq), .val (.int vr), .val (.int vs), .val (.int vt), .val (.int va), .val (.int vb), .val (.int vc), .val (.int vy), .val (.int vx), .val (.ref b349), .val (.int (1 : Int32)), .val (.int (1 : Int32)), .val (.int (1 : Int32)), .val (.int (1 : Int32)), .val (.int (1 : Int32)), .unset, .unset, .unset] [(.int (1 : Int32))])) _
    refine XS.iconst X362.here hx rfl (hb hby at_158) ?_
    show Steps p.tables e below (T362.setTop (mkF m 159 #[.val (.int vp), .val (.int vq), .val (.int vr), .val (.int vs), .val (.int vt), .val (.int va), .val (.int vb), .val (.int vc), .val (.int vy), .val (.int vx), .val (.ref b349), .val (.int (1 : Int32)), .val (.int (1 : Int32)), .val (.int (1 : Int32)), .val (.int (1 : Int32)), .val (.int (1 : Int32)), .unset, .unset, .unset] [(.int (1 : Int32)), (.int (1 : Int32))])) _
    refine XS.goto X362.here hx rfl (pc0 := 159) (pc' := 163) rfl (hb hby at_159) (by decide) (by decide) ?_
    show Steps p.tables e below (T362.setTop (mkF m 163 #[.val (.int vp), .val (.int vq), .val (.int vr), .val (.int vs), .val (.int vt), .val (.int va), .val (.int vb), .val (.int vc), .val (.int vy), .val (.int vx), .val (.ref b349), .val (.int (1 : Int32)), .val (.int (1 : Int32)), .val (.int (1 : Int32)), .val (.int (1 : Int32)), .val (.int (1 : Int32)), .unset, .unset, .unset] [(.int (1 : Int32)), (.int (1 : Int32))])) _
    refine XS.icmpNo X362.here hx rfl (hb hby at_163) rfl (teq (by decide)).2 ?_
    show Steps p.tables e below (T362.setTop (mkF m 166 #[.val (.int vp), .val (.int vq), .val (.int vr), .val (.int vs), .val (.int vt), .val (.int va), .val (.int vb), .val (.int vc), .val (.int vy), .val (.int vx), .val (.ref b349), .val (.int (1 : Int32)), .val (.int (1 : Int32)), .val (.int (1 : Int32)), .val (.int (1 : Int32)), .val (.int (1 : Int32)), .unset, .unset, .unset] [])) _
    refine XS.iconst X362.here hx rfl (hb hby at_166) ?_
    show Steps p.tables e below (T362.setTop (mkF m 167 #[.val (.int vp), .val (.int vq), .val (.int vr), .val (.int vs), .val (.int vt), .val (.int va), .val (.int vb), .val (.int vc), .val (.int vy), .val (.int vx), .val (.ref b349), .val (.int (1 : Int32)), .val (.int (1 : Int32)), .val (.int (1 : Int32)), .val (.int (1 : Int32)), .val (.int (1 : Int32)), .unset, .unset, .unset] [(.int (1 : Int32))])) _
    refine XS.goto X362.here hx rfl (pc0 := 167) (pc' := 171) rfl (hb hby at_167) (by decide) (by decide) ?_
    show Steps p.tables e below (T362.setTop (mkF m 171 #[.val (.int vp), .val (.int vq), .val (.int vr), .val (.int vs), .val (.int vt), .val (.int va), .val (.int vb), .val (.int vc), .val (.int vy), .val (.int vx), .val (.ref b349), .val (.int (1 : Int32)), .val (.int (1 : Int32)), .val (.int (1 : Int32)), .val (.int (1 : Int32)), .val (.int (1 : Int32)), .unset, .unset, .unset] [(.int (1 : Int32))])) _
    refine XS.istore X362.here hx rfl (hb hby at_171) rfl (l' := #[.val (.int vp), .val (.int vq), .val (.int vr), .val (.int vs), .val (.int vt), .val (.int va), .val (.int vb), .val (.int vc), .val (.int vy), .val (.int vx), .val (.ref b349), .val (.int (1 : Int32)), .val (.int (1 : Int32)), .val (.int (1 : Int32)), .val (.int (1 : Int32)), .val (.int (1 : Int32)), .val (.int (1 : Int32)), .unset, .unset]) rfl ?_
    show Steps p.tables e below (T362.setTop (mkF m 173 #[.val (.int vp), .val (.int vq), .val (.int vr), .val (.int vs), .val (.int vt), .val (.int va), .val (.int vb), .val (.int vc), .val (.int vy), .val (.int vx), .val (.ref b349), .val (.int (1 : Int32)), .val (.int (1 : Int32)), .val (.int (1 : Int32)), .val (.int (1 : Int32)), .val (.int (1 : Int32)), .val (.int (1 : Int32)), .unset, .unset] [])) _
    refine XS.iload X362.here hx rfl (hb hby at_173) rfl ?_
    show Steps p.tables e below (T362.setTop (mkF m 175 #[.val (.int vp), .val (.int vq), .val (.int vr), .val (.int vs), .val (.int vt), .val (.int va), .val (.int vb), .val (.int vc), .val (.int vy), .val (.int vx), .val (.ref b349), .val (.int (1 : Int32)), .val (.int (1 : Int32)), .val (.int (1 : Int32)), .val (.int (1 : Int32)), .val (.int (1 : Int32)), .val (.int (1 : Int32)), .unset, .unset] [(.int (1 : Int32))])) _
    refine XS.ifNo X362.here hx rfl (hb hby at_175) rfl ((if0 _ _).trans (feq (by decide)).1) ?_
    show Steps p.tables e below (T362.setTop (mkF m 178 #[.val (.int vp), .val (.int vq), .val (.int vr), .val (.int vs), .val (.int vt), .val (.int va), .val (.int vb), .val (.int vc), .val (.int vy), .val (.int vx), .val (.ref b349), .val (.int (1 : Int32)), .val (.int (1 : Int32)), .val (.int (1 : Int32)), .val (.int (1 : Int32)), .val (.int (1 : Int32)), .val (.int (1 : Int32)), .unset, .unset] [])) _
    refine XS.aload X362.here hx rfl (hb hby at_178) rfl rfl ?_
    show Steps p.tables e below (T362.setTop (mkF m 180 #[.val (.int vp), .val (.int vq), .val (.int vr), .val (.int vs), .val (.int vt), .val (.int va), .val (.int vb), .val (.int vc), .val (.int vy), .val (.int vx), .val (.ref b349), .val (.int (1 : Int32)), .val (.int (1 : Int32)), .val (.int (1 : Int32)), .val (.int (1 : Int32)), .val (.int (1 : Int32)), .val (.int (1 : Int32)), .unset, .unset] [(.ref b349)])) _
    refine st363.trans ?_
    show Steps p.tables e below (T363.setTop (mkF m 183 #[.val (.int vp), .val (.int vq), .val (.int vr), .val (.int vs), .val (.int vt), .val (.int va), .val (.int vb), .val (.int vc), .val (.int vy), .val (.int vx), .val (.ref b349), .val (.int (1 : Int32)), .val (.int (1 : Int32)), .val (.int (1 : Int32)), .val (.int (1 : Int32)), .val (.int (1 : Int32)), .val (.int (1 : Int32)), .unset, .unset] [])) _
    refine XS.aload X363.here hx rfl (hb hby at_183) rfl rfl ?_
    show Steps p.tables e below (T363.setTop (mkF m 185 #[.val (.int vp), .val (.int vq), .val (.int vr), .val (.int vs), .val (.int vt), .val (.int va), .val (.int vb), .val (.int vc), .val (.int vy), .val (.int vx), .val (.ref b349), .val (.int (1 : Int32)), .val (.int (1 : Int32)), .val (.int (1 : Int32)), .val (.int (1 : Int32)), .val (.int (1 : Int32)), .val (.int (1 : Int32)), .unset, .unset] [(.ref b349)])) _
    refine st365.trans ?_
    show Steps p.tables e below (T365.setTop (mkF m 188 #[.val (.int vp), .val (.int vq), .val (.int vr), .val (.int vs), .val (.int vt), .val (.int va), .val (.int vb), .val (.int vc), .val (.int vy), .val (.int vx), .val (.ref b349), .val (.int (1 : Int32)), .val (.int (1 : Int32)), .val (.int (1 : Int32)), .val (.int (1 : Int32)), .val (.int (1 : Int32)), .val (.int (1 : Int32)), .unset, .unset] [])) _
    refine XS.aload X365.here hx rfl (hb hby at_188) rfl rfl ?_
    show Steps p.tables e below (T365.setTop (mkF m 190 #[.val (.int vp), .val (.int vq), .val (.int vr), .val (.int vs), .val (.int vt), .val (.int va), .val (.int vb), .val (.int vc), .val (.int vy), .val (.int vx), .val (.ref b349), .val (.int (1 : Int32)), .val (.int (1 : Int32)), .val (.int (1 : Int32)), .val (.int (1 : Int32)), .val (.int (1 : Int32)), .val (.int (1 : Int32)), .unset, .unset] [(.ref b349)])) _
    refine XS.iload X365.here hx rfl (hb hby at_190) rfl ?_
    show Steps p.tables e below (T365.setTop (mkF m 192 #[.val (.int vp), .val (.int vq), .val (.int vr), .val (.int vs), .val (.int vt), .val (.int va), .val (.int vb), .val (.int vc), .val (.int vy), .val (.int vx), .val (.ref b349), .val (.int (1 : Int32)), .val (.int (1 : Int32)), .val (.int (1 : Int32)), .val (.int (1 : Int32)), .val (.int (1 : Int32)), .val (.int (1 : Int32)), .unset, .unset] [(.int vx), (.ref b349)])) _
    refine st367.trans ?_
    show Steps p.tables e below (T367.setTop (mkF m 195 #[.val (.int vp), .val (.int vq), .val (.int vr), .val (.int vs), .val (.int vt), .val (.int va), .val (.int vb), .val (.int vc), .val (.int vy), .val (.int vx), .val (.ref b349), .val (.int (1 : Int32)), .val (.int (1 : Int32)), .val (.int (1 : Int32)), .val (.int (1 : Int32)), .val (.int (1 : Int32)), .val (.int (1 : Int32)), .unset, .unset] [(.ref em)])) _
    refine st368.trans ?_
    show Steps p.tables e below (T368.setTop (mkF m 198 #[.val (.int vp), .val (.int vq), .val (.int vr), .val (.int vs), .val (.int vt), .val (.int va), .val (.int vb), .val (.int vc), .val (.int vy), .val (.int vx), .val (.ref b349), .val (.int (1 : Int32)), .val (.int (1 : Int32)), .val (.int (1 : Int32)), .val (.int (1 : Int32)), .val (.int (1 : Int32)), .val (.int (1 : Int32)), .unset, .unset] [(.int (1 : Int32))])) _
    refine XS.istore X368.here hx rfl (hb hby at_198) rfl (l' := #[.val (.int vp), .val (.int vq), .val (.int vr), .val (.int vs), .val (.int vt), .val (.int va), .val (.int vb), .val (.int vc), .val (.int vy), .val (.int vx), .val (.ref b349), .val (.int (1 : Int32)), .val (.int (1 : Int32)), .val (.int (1 : Int32)), .val (.int (1 : Int32)), .val (.int (1 : Int32)), .val (.int (1 : Int32)), .val (.int (1 : Int32)), .unset]) rfl ?_
    show Steps p.tables e below (T368.setTop (mkF m 200 #[.val (.int vp), .val (.int vq), .val (.int vr), .val (.int vs), .val (.int vt), .val (.int va), .val (.int vb), .val (.int vc), .val (.int vy), .val (.int vx), .val (.ref b349), .val (.int (1 : Int32)), .val (.int (1 : Int32)), .val (.int (1 : Int32)), .val (.int (1 : Int32)), .val (.int (1 : Int32)), .val (.int (1 : Int32)), .val (.int (1 : Int32)), .unset] [])) _
    refine XS.iload X368.here hx rfl (hb hby at_200) rfl ?_
    show Steps p.tables e below (T368.setTop (mkF m 202 #[.val (.int vp), .val (.int vq), .val (.int vr), .val (.int vs), .val (.int vt), .val (.int va), .val (.int vb), .val (.int vc), .val (.int vy), .val (.int vx), .val (.ref b349), .val (.int (1 : Int32)), .val (.int (1 : Int32)), .val (.int (1 : Int32)), .val (.int (1 : Int32)), .val (.int (1 : Int32)), .val (.int (1 : Int32)), .val (.int (1 : Int32)), .unset] [(.int (1 : Int32))])) _
    refine XS.iload X368.here hx rfl (hb hby at_202) rfl ?_
    show Steps p.tables e below (T368.setTop (mkF m 204 #[.val (.int vp), .val (.int vq), .val (.int vr), .val (.int vs), .val (.int vt), .val (.int va), .val (.int vb), .val (.int vc), .val (.int vy), .val (.int vx), .val (.ref b349), .val (.int (1 : Int32)), .val (.int (1 : Int32)), .val (.int (1 : Int32)), .val (.int (1 : Int32)), .val (.int (1 : Int32)), .val (.int (1 : Int32)), .val (.int (1 : Int32)), .unset] [(.int vx), (.int (1 : Int32))])) _
    refine XS.sipush X368.here hx rfl (hb hby at_204) ?_
    show Steps p.tables e below (T368.setTop (mkF m 207 #[.val (.int vp), .val (.int vq), .val (.int vr), .val (.int vs), .val (.int vt), .val (.int va), .val (.int vb), .val (.int vc), .val (.int vy), .val (.int vx), .val (.ref b349), .val (.int (1 : Int32)), .val (.int (1 : Int32)), .val (.int (1 : Int32)), .val (.int (1 : Int32)), .val (.int (1 : Int32)), .val (.int (1 : Int32)), .val (.int (1 : Int32)), .unset] [(.int (1000 : Int32)), (.int vx), (.int (1 : Int32))])) _
    refine XS.icmpNo X368.here hx rfl (hb hby at_207) rfl (flt hc207).2.2.1 ?_
    show Steps p.tables e below (T368.setTop (mkF m 210 #[.val (.int vp), .val (.int vq), .val (.int vr), .val (.int vs), .val (.int vt), .val (.int va), .val (.int vb), .val (.int vc), .val (.int vy), .val (.int vx), .val (.ref b349), .val (.int (1 : Int32)), .val (.int (1 : Int32)), .val (.int (1 : Int32)), .val (.int (1 : Int32)), .val (.int (1 : Int32)), .val (.int (1 : Int32)), .val (.int (1 : Int32)), .unset] [(.int (1 : Int32))])) _
    refine XS.iconst X368.here hx rfl (hb hby at_210) ?_
    show Steps p.tables e below (T368.setTop (mkF m 211 #[.val (.int vp), .val (.int vq), .val (.int vr), .val (.int vs), .val (.int vt), .val (.int va), .val (.int vb), .val (.int vc), .val (.int vy), .val (.int vx), .val (.ref b349), .val (.int (1 : Int32)), .val (.int (1 : Int32)), .val (.int (1 : Int32)), .val (.int (1 : Int32)), .val (.int (1 : Int32)), .val (.int (1 : Int32)), .val (.int (1 : Int32)), .unset] [(.int (1 : Int32)), (.int (1 : Int32))])) _
    refine XS.goto X368.here hx rfl (pc0 := 211) (pc' := 215) rfl (hb hby at_211) (by decide) (by decide) ?_
    show Steps p.tables e below (T368.setTop (mkF m 215 #[.val (.int vp), .val (.int vq), .val (.int vr), .val (.int vs), .val (.int vt), .val (.int va), .val (.int vb), .val (.int vc), .val (.int vy), .val (.int vx), .val (.ref b349), .val (.int (1 : Int32)), .val (.int (1 : Int32)), .val (.int (1 : Int32)), .val (.int (1 : Int32)), .val (.int (1 : Int32)), .val (.int (1 : Int32)), .val (.int (1 : Int32)), .unset] [(.int (1 : Int32)), (.int (1 : Int32))])) _
    refine XS.icmpNo X368.here hx rfl (hb hby at_215) rfl (teq (by decide)).2 ?_
    show Steps p.tables e below (T368.setTop (mkF m 218 #[.val (.int vp), .val (.int vq), .val (.int vr), .val (.int vs), .val (.int vt), .val (.int va), .val (.int vb), .val (.int vc), .val (.int vy), .val (.int vx), .val (.ref b349), .val (.int (1 : Int32)), .val (.int (1 : Int32)), .val (.int (1 : Int32)), .val (.int (1 : Int32)), .val (.int (1 : Int32)), .val (.int (1 : Int32)), .val (.int (1 : Int32)), .unset] [])) _
    refine XS.iconst X368.here hx rfl (hb hby at_218) ?_
    show Steps p.tables e below (T368.setTop (mkF m 219 #[.val (.int vp), .val (.int vq), .val (.int vr), .val (.int vs), .val (.int vt), .val (.int va), .val (.int vb), .val (.int vc), .val (.int vy), .val (.int vx), .val (.ref b349), .val (.int (1 : Int32)), .val (.int (1 : Int32)), .val (.int (1 : Int32)), .val (.int (1 : Int32)), .val (.int (1 : Int32)), .val (.int (1 : Int32)), .val (.int (1 : Int32)), .unset] [(.int (1 : Int32))])) _
    refine XS.goto X368.here hx rfl (pc0 := 219) (pc' := 223) rfl (hb hby at_219) (by decide) (by decide) ?_
    show Steps p.tables e below (T368.setTop (mkF m 223 #[.val (.int vp), .val (.int vq), .val (.int vr), .val (.int vs), .val (.int vt), .val (.int va), .val (.int vb), .val (.int vc), .val (.int vy), .val (.int vx), .val (.ref b349), .val (.int (1 : Int32)), .val (.int (1 : Int32)), .val (.int (1 : Int32)), .val (.int (1 : Int32)), .val (.int (1 : Int32)), .val (.int (1 : Int32)), .val (.int (1 : Int32)), .unset] [(.int (1 : Int32))])) _
    refine XS.istore X368.here hx rfl (hb hby at_223) rfl (l' := #[.val (.int vp), .val (.int vq), .val (.int vr), .val (.int vs), .val (.int vt), .val (.int va), .val (.int vb), .val (.int vc), .val (.int vy), .val (.int vx), .val (.ref b349), .val (.int (1 : Int32)), .val (.int (1 : Int32)), .val (.int (1 : Int32)), .val (.int (1 : Int32)), .val (.int (1 : Int32)), .val (.int (1 : Int32)), .val (.int (1 : Int32)), .val (.int (1 : Int32))]) rfl ?_
    show Steps p.tables e below (T368.setTop (mkF m 225 #[.val (.int vp), .val (.int vq), .val (.int vr), .val (.int vs), .val (.int vt), .val (.int va), .val (.int vb), .val (.int vc), .val (.int vy), .val (.int vx), .val (.ref b349), .val (.int (1 : Int32)), .val (.int (1 : Int32)), .val (.int (1 : Int32)), .val (.int (1 : Int32)), .val (.int (1 : Int32)), .val (.int (1 : Int32)), .val (.int (1 : Int32)), .val (.int (1 : Int32))] [])) _
    refine XS.iload X368.here hx rfl (hb hby at_225) rfl ?_
    show Steps p.tables e below (T368.setTop (mkF m 227 #[.val (.int vp), .val (.int vq), .val (.int vr), .val (.int vs), .val (.int vt), .val (.int va), .val (.int vb), .val (.int vc), .val (.int vy), .val (.int vx), .val (.ref b349), .val (.int (1 : Int32)), .val (.int (1 : Int32)), .val (.int (1 : Int32)), .val (.int (1 : Int32)), .val (.int (1 : Int32)), .val (.int (1 : Int32)), .val (.int (1 : Int32)), .val (.int (1 : Int32))] [(.int (1 : Int32))])) _
    refine XS.ifNo X368.here hx rfl (hb hby at_227) rfl ((if0 _ _).trans (feq (by decide)).1) ?_
    show Steps p.tables e below (T368.setTop (mkF m 230 #[.val (.int vp), .val (.int vq), .val (.int vr), .val (.int vs), .val (.int vt), .val (.int va), .val (.int vb), .val (.int vc), .val (.int vy), .val (.int vx), .val (.ref b349), .val (.int (1 : Int32)), .val (.int (1 : Int32)), .val (.int (1 : Int32)), .val (.int (1 : Int32)), .val (.int (1 : Int32)), .val (.int (1 : Int32)), .val (.int (1 : Int32)), .val (.int (1 : Int32))] [])) _
    refine XS.iload X368.here hx rfl (hb hby at_230) rfl ?_
    show Steps p.tables e below (T368.setTop (mkF m 232 #[.val (.int vp), .val (.int vq), .val (.int vr), .val (.int vs), .val (.int vt), .val (.int va), .val (.int vb), .val (.int vc), .val (.int vy), .val (.int vx), .val (.ref b349), .val (.int (1 : Int32)), .val (.int (1 : Int32)), .val (.int (1 : Int32)), .val (.int (1 : Int32)), .val (.int (1 : Int32)), .val (.int (1 : Int32)), .val (.int (1 : Int32)), .val (.int (1 : Int32))] [(.int (1 : Int32))])) _
    refine XS.ifNo X368.here hx rfl (hb hby at_232) rfl ((if0 _ _).trans (feq (by decide)).1) ?_
    show Steps p.tables e below (T368.setTop (mkF m 235 #[.val (.int vp), .val (.int vq), .val (.int vr), .val (.int vs), .val (.int vt), .val (.int va), .val (.int vb), .val (.int vc), .val (.int vy), .val (.int vx), .val (.ref b349), .val (.int (1 : Int32)), .val (.int (1 : Int32)), .val (.int (1 : Int32)), .val (.int (1 : Int32)), .val (.int (1 : Int32)), .val (.int (1 : Int32)), .val (.int (1 : Int32)), .val (.int (1 : Int32))] [])) _
    refine XS.iload X368.here hx rfl (hb hby at_235) rfl ?_
    show Steps p.tables e below (T368.setTop (mkF m 237 #[.val (.int vp), .val (.int vq), .val (.int vr), .val (.int vs), .val (.int vt), .val (.int va), .val (.int vb), .val (.int vc), .val (.int vy), .val (.int vx), .val (.ref b349), .val (.int (1 : Int32)), .val (.int (1 : Int32)), .val (.int (1 : Int32)), .val (.int (1 : Int32)), .val (.int (1 : Int32)), .val (.int (1 : Int32)), .val (.int (1 : Int32)), .val (.int (1 : Int32))] [(.int (1 : Int32))])) _
    refine XS.ifNo X368.here hx rfl (hb hby at_237) rfl ((if0 _ _).trans (feq (by decide)).1) ?_
    show Steps p.tables e below (T368.setTop (mkF m 240 #[.val (.int vp), .val (.int vq), .val (.int vr), .val (.int vs), .val (.int vt), .val (.int va), .val (.int vb), .val (.int vc), .val (.int vy), .val (.int vx), .val (.ref b349), .val (.int (1 : Int32)), .val (.int (1 : Int32)), .val (.int (1 : Int32)), .val (.int (1 : Int32)), .val (.int (1 : Int32)), .val (.int (1 : Int32)), .val (.int (1 : Int32)), .val (.int (1 : Int32))] [])) _
    refine XS.iload X368.here hx rfl (hb hby at_240) rfl ?_
    show Steps p.tables e below (T368.setTop (mkF m 242 #[.val (.int vp), .val (.int vq), .val (.int vr), .val (.int vs), .val (.int vt), .val (.int va), .val (.int vb), .val (.int vc), .val (.int vy), .val (.int vx), .val (.ref b349), .val (.int (1 : Int32)), .val (.int (1 : Int32)), .val (.int (1 : Int32)), .val (.int (1 : Int32)), .val (.int (1 : Int32)), .val (.int (1 : Int32)), .val (.int (1 : Int32)), .val (.int (1 : Int32))] [(.int (1 : Int32))])) _
    refine XS.ifNo X368.here hx rfl (hb hby at_242) rfl ((if0 _ _).trans (feq (by decide)).1) ?_
    show Steps p.tables e below (T368.setTop (mkF m 245 #[.val (.int vp), .val (.int vq), .val (.int vr), .val (.int vs), .val (.int vt), .val (.int va), .val (.int vb), .val (.int vc), .val (.int vy), .val (.int vx), .val (.ref b349), .val (.int (1 : Int32)), .val (.int (1 : Int32)), .val (.int (1 : Int32)), .val (.int (1 : Int32)), .val (.int (1 : Int32)), .val (.int (1 : Int32)), .val (.int (1 : Int32)), .val (.int (1 : Int32))] [])) _
    refine XS.iload X368.here hx rfl (hb hby at_245) rfl ?_
    show Steps p.tables e below (T368.setTop (mkF m 247 #[.val (.int vp), .val (.int vq), .val (.int vr), .val (.int vs), .val (.int vt), .val (.int va), .val (.int vb), .val (.int vc), .val (.int vy), .val (.int vx), .val (.ref b349), .val (.int (1 : Int32)), .val (.int (1 : Int32)), .val (.int (1 : Int32)), .val (.int (1 : Int32)), .val (.int (1 : Int32)), .val (.int (1 : Int32)), .val (.int (1 : Int32)), .val (.int (1 : Int32))] [(.int (1 : Int32))])) _
    refine XS.ifNo X368.here hx rfl (hb hby at_247) rfl ((if0 _ _).trans (feq (by decide)).1) ?_
    show Steps p.tables e below (T368.setTop (mkF m 250 #[.val (.int vp), .val (.int vq), .val (.int vr), .val (.int vs), .val (.int vt), .val (.int va), .val (.int vb), .val (.int vc), .val (.int vy), .val (.int vx), .val (.ref b349), .val (.int (1 : Int32)), .val (.int (1 : Int32)), .val (.int (1 : Int32)), .val (.int (1 : Int32)), .val (.int (1 : Int32)), .val (.int (1 : Int32)), .val (.int (1 : Int32)), .val (.int (1 : Int32))] [])) _
    refine XS.iconst X368.here hx rfl (hb hby at_250) ?_
    show Steps p.tables e below (T368.setTop (mkF m 251 #[.val (.int vp), .val (.int vq), .val (.int vr), .val (.int vs), .val (.int vt), .val (.int va), .val (.int vb), .val (.int vc), .val (.int vy), .val (.int vx), .val (.ref b349), .val (.int (1 : Int32)), .val (.int (1 : Int32)), .val (.int (1 : Int32)), .val (.int (1 : Int32)), .val (.int (1 : Int32)), .val (.int (1 : Int32)), .val (.int (1 : Int32)), .val (.int (1 : Int32))] [(.int (1 : Int32))])) _
    refine XS.goto X368.here hx rfl (pc0 := 251) (pc' := 255) rfl (hb hby at_251) (by decide) (by decide) ?_
    show Steps p.tables e below (T368.setTop (mkF m 255 #[.val (.int vp), .val (.int vq), .val (.int vr), .val (.int vs), .val (.int vt), .val (.int va), .val (.int vb), .val (.int vc), .val (.int vy), .val (.int vx), .val (.ref b349), .val (.int (1 : Int32)), .val (.int (1 : Int32)), .val (.int (1 : Int32)), .val (.int (1 : Int32)), .val (.int (1 : Int32)), .val (.int (1 : Int32)), .val (.int (1 : Int32)), .val (.int (1 : Int32))] [(.int (1 : Int32))])) _
    exact retN X368 hx (t := .boolean) Bd.returns (by simp) (hb hby at_255) hr
  · show QL n0 _ T368.heap _
    rw [e368]
    exact ⟨rfl, N368⟩
theorem nums (vp vq vr vs vt : Int32) : ∃ va vb vc vy vx : Int32, (((vp &&& (2147483647 : Int32)) % (1001 : Int32)) = va ∧ ((vq &&& (2147483647 : Int32)) % ((1001 : Int32) - va)) = vb ∧ (vr &&& (2047 : Int32)) = vc ∧ (vt &&& (2047 : Int32)) = vy ∧ (vs &&& (2047 : Int32)) = vx) ∧ (1001 : Int32) - va ≠ 0 ∧ ¬ ((1000 : Int32) < (0 : Int32) + va) ∧ ¬ ((1000 : Int32) < va + vb) := by
  refine ⟨_, _, _, _, _, ⟨rfl, rfl, rfl, rfl, rfl⟩, ?_⟩
  have a1 := c_and vp 2147483647 (by decide)
  have a2 := (c_iremV (vp &&& (2147483647 : Int32)) 1001).1 a1.1 (by decide)
  have q1 : (1001 : Int32).toInt = 1001 := by decide
  have q2 : (1000 : Int32).toInt = 1000 := by decide
  have q0 : (0 : Int32).toInt = 0 := by decide
  rw [q1] at a2
  generalize ((vp &&& (2147483647 : Int32)) % (1001 : Int32)) = va at *
  have s1 := c_isub 1001 va
  have r1 := rng32 ((1001 : Int32) - va)
  have b1 := c_and vq 2147483647 (by decide)
  rw [q1] at s1
  have e1 : ((1001 : Int32) - va).toInt = 1001 - va.toInt := by omega
  have b2 := (c_iremV (vq &&& (2147483647 : Int32)) ((1001 : Int32) - va)).1 b1.1 (by rw [e1]; omega)
  rw [e1] at b2
  generalize (vq &&& (2147483647 : Int32)) % ((1001 : Int32) - va) = vb at *
  have t1 := c_iadd va vb
  have r2 := rng32 (va + vb)
  have e2 : (va + vb).toInt = va.toInt + vb.toInt := by omega
  refine ⟨fun q => ?_, ?_, ?_⟩
  · have := congrArg Int32.toInt q
    rw [e1, q0] at this; omega
  · rw [Int32.zero_add, Int32.lt_iff_toInt_lt, q2]; omega
  · rw [Int32.lt_iff_toInt_lt, q2, e2]; omega
theorem rm0 (l : Launch) (Z : State) (a0 : Array Value) (hw : ∀ d ∈ tables_1, d.before a0 Z = true) (ws : List Jvm.Cond) (vp vq vr vs vt : Int32) (em : Addr) (h0 : Heap) (n0 : Nat) (Z0 : n0 ≤ h0.size) (Od0 : Old Z n0 h0) (Se : Sta Z Z.heap "java/util/Optional" "EMPTY" "Ljava/util/Optional;" (.ref em)) (Ee : Exa Z Z.heap em "java/util/Optional") (Fe : Fld Z Z.heap em "java/util/Optional" "value" "Ljava/lang/Object;" .null) :
    MetFree l x (head1 (Jvm.Cond.code x code maxLocals ret :: ws) room_1) (fun zA zU => zA = #[(.int vp), (.int vq), (.int vr), (.int vs), (.int vt)] ∧ Z.Warmed39 zU.vm ∧ zU.heap = h0) (fun _ _ _ _ _ => True) (fun _ zU zO zW => ∃ zV zL, zO = .returned zV ∧ QL n0 zV zW.heap zL ∧ ReturnedEndW zU zO zW zL room_1.cells room_1.slots) := by
  obtain ⟨va, vb, vc, vy, vx, ⟨ha, hb, hc, hy, hx1⟩, hnz, hA, hB⟩ := nums vp vq vr vs vt
  have eb : va + vb - vb = va := Int32.add_sub_cancel va vb
  have ec : va + vc - vc = va := Int32.add_sub_cancel va vc
  have ey : va + vy - vy = va := Int32.add_sub_cancel va vy
  have eA : (0 : Int32) + va = va := Int32.zero_add va
  have eX : (0 : Int32) + vx = vx := Int32.zero_add vx
  have eZ : va - va = 0 := Int32.sub_self va
  by_cases kc : (1000 : Int32) < va + vc <;> by_cases ky : (1000 : Int32) < va + vy <;> by_cases kx : (1000 : Int32) < vx
  · exact rm0_000 l Z a0 hw ws vp vq vr vs vt va vb vc vy vx em h0 n0 Z0 ha hb hc hy hx1 hnz Od0 Se Ee Fe hA hB eA eb ec ey eZ eX kc ky kx
  · exact rm0_001 l Z a0 hw ws vp vq vr vs vt va vb vc vy vx em h0 n0 Z0 ha hb hc hy hx1 hnz Od0 Se Ee Fe hA hB eA eb ec ey eZ eX kc ky kx
  · exact rm0_010 l Z a0 hw ws vp vq vr vs vt va vb vc vy vx em h0 n0 Z0 ha hb hc hy hx1 hnz Od0 Se Ee Fe hA hB eA eb ec ey eZ eX kc ky kx
  · exact rm0_011 l Z a0 hw ws vp vq vr vs vt va vb vc vy vx em h0 n0 Z0 ha hb hc hy hx1 hnz Od0 Se Ee Fe hA hB eA eb ec ey eZ eX kc ky kx
  · exact rm0_100 l Z a0 hw ws vp vq vr vs vt va vb vc vy vx em h0 n0 Z0 ha hb hc hy hx1 hnz Od0 Se Ee Fe hA hB eA eb ec ey eZ eX kc ky kx
  · exact rm0_101 l Z a0 hw ws vp vq vr vs vt va vb vc vy vx em h0 n0 Z0 ha hb hc hy hx1 hnz Od0 Se Ee Fe hA hB eA eb ec ey eZ eX kc ky kx
  · exact rm0_110 l Z a0 hw ws vp vq vr vs vt va vb vc vy vx em h0 n0 Z0 ha hb hc hy hx1 hnz Od0 Se Ee Fe hA hB eA eb ec ey eZ eX kc ky kx
  · exact rm0_111 l Z a0 hw ws vp vq vr vs vt va vb vc vy vx em h0 n0 Z0 ha hb hc hy hx1 hnz Od0 Se Ee Fe hA hB eA eb ec ey eZ eX kc ky kx
set_option maxRecDepth 65536 in
set_option maxHeartbeats 40000000 in
theorem comes_1 {Post : Tables → Env → Array Value → State → Outcome → State → Prop} (hpost : ∀ tb e args s v u, (limb_1_1.after args s (.returned v) u = true ∧ limb_1_2.after args s (.returned v) u = true ∧ True) → ReturnedEndW s (.returned v) u (Jvm.fieldLocs frame_1_writes args s ++ Jvm.arrayLocs frame_1_arrays args s ++ Jvm.staticLocs frame_1_statics s) 24 3136 → Post tb e args s (.returned v) u) :
    ArmFor flags0 classFile x code maxLocals ret World_1 tables_1 room_1 Calls_1 rest_1 Pre_1 Post := by
  intro l hfl _ _ p e ha hc hk s m args below hf hA hF happ hP
  obtain ⟨hcalls, hrest, hpre⟩ := hP
  obtain ⟨-, -, -, hnamed, -, -, -, hat⟩ := (Spec.applies_iff hf).mp happ
  obtain ⟨hg, hn⟩ := and_e (Cond.before_iff.mp (show (Jvm.Cond.and given_1 narrow_1).before args s = true from hpre))
  obtain ⟨gc, hg⟩ := and_e hg
  obtain ⟨ga0, hg⟩ := and_e hg
  obtain ⟨ga1, hg⟩ := and_e hg
  obtain ⟨ga2, hg⟩ := and_e hg
  obtain ⟨ga3, hg⟩ := and_e hg
  have ga4 := hg
  obtain ⟨w0, w1, w2, w3, w4, rfl⟩ : ∃ w0 w1 w2 w3 w4 : Value, args = #[w0, w1, w2, w3, w4] := by
    have hs : args.size = 5 := by simpa [Cond.value, given_1] using gc
    obtain ⟨L⟩ := args
    match L, hs with
    | [w0, w1, w2, w3, w4], _ => exact ⟨w0, w1, w2, w3, w4, rfl⟩
  have hw := fun d (hd : d ∈ tables_1) => atoms_spec (ws := Jvm.Cond.code x code maxLocals ret :: tables_1) hat d (List.mem_cons_of_mem _ hd)
  have hfit : Fit s := fun {y c} hc i hi => by
    obtain ⟨ha, rfl⟩ := Array.getElem?_eq_some_iff.mp hc
    have q := List.all_eq_true.mp ((Array.all_eq_true_iff_forall_mem.mp hF) _ (Array.getElem_mem ha)) i (List.mem_range.mpr hi)
    simpa [Array.getElem?_eq_getElem hi] using q
  obtain ⟨i0, ei0⟩ := is_v ga0
  obtain rfl : w0 = (.int i0) := Option.some.inj ei0
  obtain ⟨i1, ei1⟩ := is_v ga1
  obtain rfl : w1 = (.int i1) := Option.some.inj ei1
  obtain ⟨i2, ei2⟩ := is_v ga2
  obtain rfl : w2 = (.int i2) := Option.some.inj ei2
  obtain ⟨i3, ei3⟩ := is_v ga3
  obtain rfl : w3 = (.int i3) := Option.some.inj ei3
  obtain ⟨i4, ei4⟩ := is_v ga4
  obtain rfl : w4 = (.int i4) := Option.some.inj ei4
  obtain ⟨hsets, hown0⟩ := atoms_of _ (rest_1_c_eq ▸ (show rest_1_c.before _ s = true from hrest))
  have hx2 := Cond.before_iff.mp (hsets _ (List.mem_of_getElem? (i := 2) rfl))
  have hx3 := Cond.before_iff.mp (hsets _ (List.mem_of_getElem? (i := 3) rfl))
  obtain ⟨em, ev⟩ := exa_v hx2
  have Ee := Exa.start ev hx2
  have Se := Sta.start ev (Or.inl (hsets _ (List.mem_of_getElem? (i := 1) rfl)))
  have Fe : Fld s s.heap em "java/util/Optional" "value" "Ljava/lang/Object;" .null := Fld.start (by rw [← fld_at ev]; exact null_v hx3)
  obtain ⟨n, o, h1, h2, h3, _, L, rfl, ⟨rfl, N⟩, hq⟩ := rm0 l s _ hw tables_1 i0 i1 i2 i3 i4 em s.heap s.heap.size (Nat.le_refl _) (Old.start s) Se Ee Fe p e ha hc hk s m _ below hf ((Spec.applies_iff_loose hf).mp happ).1 ⟨rfl, State.Warmed39.refl s, rfl⟩ trivial
  refine ⟨n, _, h1, h2, h3, hpost _ _ _ _ _ _ ⟨Cond.after_iff.mpr rfl, Cond.after_iff.mpr (eq_i res_at (Term.int_eval (1)) rfl), trivial⟩ ⟨hq.1, hq.2.1, hq.2.2.1, (hq.2.2.2.sift fun y hy => Or.inr (N y hy)).mono (by decide) (by decide)⟩⟩
theorem main_1_1 : Claimed_1_1 := comes_1 fun _ _ _ _ _ _ h hF => ⟨h.1, hF⟩
theorem main_1_2 : Claimed_1_2 := comes_1 fun _ _ _ _ _ _ h hF => ⟨h.2.1, hF⟩
end Jvm.Pilot.@@N@@
namespace Jvm.Pilot.@@N@@
open Jvm Jvm.ClassFile Sem Op Lib Jvm.Free Jvm.Stand Jvm.Pilot.@@N@@.Jvm.D
/-! MADE BY PROGRAM (witnessworld.py) out of the Statement's table words and the real class files: 16 classes; the members and pool entries that the words name. The judged class is class 1, her method 1. -/
namespace start1
open Jvm.ClassFile
def u (s : String) : CpInfo := .utf8 (stringToUtf16 s)
/-- a pool by its gaps: so many unusable entries, then the entry; so many at the end -/
def gap : Nat → List CpInfo → List CpInfo
  | 0, r => r
  | n + 1, r => .unusable :: gap n r
def poolList (es : List (Nat × CpInfo)) (last : Nat) : List CpInfo := es.foldr (fun e r => gap e.1 (e.2 :: r)) (gap last [])
def pool (es : List (Nat × CpInfo)) (last : Nat) : Array CpInfo := ⟨poolList es last⟩
def fileOf (pool : Array CpInfo) (this : Nat) (attrs : Array Attribute := #[]) (ms : Array MethodInfo := #[]) (fl : Nat := 33) (sup : Nat := 0) (ifs : Array Nat := #[]) (fds : Array FieldInfo := #[]) : ClassFile where
  minorVersion := 0
  majorVersion := 65
  constantPool := pool
  accessFlags := fl
  thisClass := this
  superClass := sup
  interfaces := ifs
  fields := fds
  methods := ms
  attributes := attrs
def plain (name : String) (sup : Option ClassId) : Class where
  name := name
  kind := .ordinary
  loader := none
  accessFlags := 33
  super := sup
  interfaces := #[]
  cf := none
  fields := #[]
  methods := #[]
  instanceTypes := #[]
  staticTypes := #[]
  resolved := #[]
  callSites := []
  init := .initialized
  statics := none
  mirror := none

def pool0 : Array CpInfo := pool [(5, u "<init>"), (0, u "()V"), (1, .class_ 10), (1, u "java/lang/Object")] 113

def k0c0 : Code := { maxStack := 0, maxLocals := 1, code := object_method_1_code, exceptionTable := #[], attributes := #[] }
def k0m0 : Method := { name := "<init>", desc := "()V", sig := { parameters := [], returnType := none }, accessFlags := 1, code := some k0c0 }
/-- java/lang/Object -/
def k0 : Class := { plain "java/lang/Object" none with
  accessFlags := 33
  interfaces := #[]
  cf := some (fileOf pool0 8 #[] #[{ accessFlags := 1, nameIndex := 5, descriptorIndex := 6, attributes := #[] }] 33 0 #[] #[])
  fields := #[]
  methods := #[k0m0]
  instanceTypes := #[]
  staticTypes := #[]
  resolved := Array.replicate 124 none
  statics := none }

def pool1 : Array CpInfo := pool [(2, .class_ 4), (0, .nameAndType 5 6), (0, u "java/lang/Object"), (0, u "<init>"), (0, u "()V"), (0, .integer 2147483647), (0, .class_ 9), (0, u "com/example/caddis/caddis/XmlNesting"), (0, .methodref 8 3), (0, .methodref 8 12), (0, .nameAndType 13 14), (0, u "enter"), (0, u "(I)Ljava/util/Optional;"), (0, .methodref 16 17), (0, .class_ 18), (0, .nameAndType 19 20), (0, u "java/util/Optional"), (0, u "isEmpty"), (0, u "()Z"), (0, .methodref 8 22), (0, .nameAndType 23 6), (0, u "leave"), (0, .class_ 25), (0, u "com/example/caddis/caddis/XmlNestingLeavePinLaw"), (2, u "law"), (0, u "(IIIII)Z")] 3

def k1m0 : Method := { name := "<init>", desc := "()V", sig := { parameters := [], returnType := none }, accessFlags := 1, code := none }
def k1c1 : Code := { maxStack := 3, maxLocals := 19, code := code, exceptionTable := #[], attributes := #[] }
def k1m1 : Method := { name := "law", desc := "(IIIII)Z", sig := { parameters := [.int, .int, .int, .int, .int], returnType := some .boolean }, accessFlags := 9, code := some k1c1 }
/-- com/example/caddis/caddis/XmlNestingLeavePinLaw -/
def k1 : Class := { plain "com/example/caddis/caddis/XmlNestingLeavePinLaw" (some 0) with
  accessFlags := 49
  interfaces := #[]
  cf := some (fileOf pool1 24 #[] #[{ accessFlags := 1, nameIndex := 5, descriptorIndex := 6, attributes := #[] }, { accessFlags := 9, nameIndex := 28, descriptorIndex := 29, attributes := #[] }] 49 2 #[] #[])
  fields := #[]
  methods := #[k1m0, k1m1]
  instanceTypes := #[]
  staticTypes := #[]
  resolved := Array.replicate 33 none
  statics := none }

def pool2 : Array CpInfo := pool [(1, .methodref 2 3), (0, .class_ 4), (0, .nameAndType 5 6), (0, u "java/lang/Object"), (0, u "<init>"), (0, u "()V"), (0, .class_ 8), (0, u "com/example/caddis/caddis/XmlNesting"), (0, .fieldref 7 10), (0, .nameAndType 11 12), (0, u "declared"), (0, u "[I"), (0, .fieldref 7 14), (0, .nameAndType 15 16), (0, u "depth"), (0, u "I"), (2, .methodref 20 21), (0, .class_ 22), (0, .nameAndType 23 24), (0, u "java/util/Optional"), (0, u "of"), (0, u "(Ljava/lang/Object;)Ljava/util/Optional;"), (0, .fieldref 7 26), (0, .nameAndType 27 16), (0, u "declarations"), (0, .string 29), (0, u "it has more than 1000 namespace declarations in force at once"), (0, .methodref 20 31), (0, .nameAndType 32 33), (0, u "empty"), (0, u "()Ljava/util/Optional;"), (0, u "MAX_DEPTH"), (2, u "MAX_DECLARATIONS"), (2, u "enter"), (0, u "(I)Ljava/util/Optional;"), (3, u "leave")] 2

def k2c0 : Code := { maxStack := 2, maxLocals := 1, code := prog_17_method_1_code, exceptionTable := #[], attributes := #[] }
def k2m0 : Method := { name := "<init>", desc := "()V", sig := { parameters := [], returnType := none }, accessFlags := 1, code := some k2c0 }
def k2c1 : Code := { maxStack := 3, maxLocals := 2, code := prog_17_method_2_code, exceptionTable := #[], attributes := #[] }
def k2m1 : Method := { name := "enter", desc := "(I)Ljava/util/Optional;", sig := { parameters := [.int], returnType := some (.object "java/util/Optional") }, accessFlags := 1, code := some k2c1 }
def k2c2 : Code := { maxStack := 4, maxLocals := 1, code := prog_17_method_3_code, exceptionTable := #[], attributes := #[] }
def k2m2 : Method := { name := "leave", desc := "()V", sig := { parameters := [], returnType := none }, accessFlags := 1, code := some k2c2 }
/-- com/example/caddis/caddis/XmlNesting -/
def k2 : Class := { plain "com/example/caddis/caddis/XmlNesting" (some 0) with
  accessFlags := 33
  interfaces := #[]
  cf := some (fileOf pool2 7 #[] #[{ accessFlags := 1, nameIndex := 5, descriptorIndex := 6, attributes := #[] }, { accessFlags := 1, nameIndex := 40, descriptorIndex := 41, attributes := #[] }, { accessFlags := 1, nameIndex := 45, descriptorIndex := 6, attributes := #[] }] 33 2 #[] #[{ accessFlags := 25, nameIndex := 34, descriptorIndex := 16, attributes := #[] }, { accessFlags := 25, nameIndex := 37, descriptorIndex := 16, attributes := #[] }, { accessFlags := 18, nameIndex := 11, descriptorIndex := 12, attributes := #[] }, { accessFlags := 2, nameIndex := 15, descriptorIndex := 16, attributes := #[] }, { accessFlags := 2, nameIndex := 27, descriptorIndex := 16, attributes := #[] }])
  fields := #[{ name := "MAX_DEPTH", type := .int, accessFlags := 25, slot := 0, constantValue := 0 }, { name := "MAX_DECLARATIONS", type := .int, accessFlags := 25, slot := 1, constantValue := 0 }, { name := "declared", type := (.array .int), accessFlags := 18, slot := 0, constantValue := 0 }, { name := "depth", type := .int, accessFlags := 2, slot := 1, constantValue := 0 }, { name := "declarations", type := .int, accessFlags := 2, slot := 2, constantValue := 0 }]
  methods := #[k2m0, k2m1, k2m2]
  instanceTypes := #[(.array .int), .int, .int]
  staticTypes := #[.int, .int]
  resolved := Array.replicate 48 none
  statics := none }

def pool3 : Array CpInfo := pool [(1, .fieldref 2 3), (0, .class_ 4), (0, .nameAndType 5 6), (0, u "java/util/Optional"), (0, u "EMPTY"), (0, u "Ljava/util/Optional;"), (0, .methodref 8 9), (0, .class_ 10), (0, .nameAndType 11 12), (0, u "java/lang/Object"), (0, u "<init>"), (0, u "()V"), (0, .fieldref 2 14), (0, .nameAndType 15 16), (0, u "value"), (0, u "Ljava/lang/Object;"), (0, .methodref 18 19), (0, .class_ 20), (0, .nameAndType 21 22), (0, u "java/util/Objects"), (0, u "requireNonNull"), (0, u "(Ljava/lang/Object;)Ljava/lang/Object;"), (0, .methodref 2 24), (0, .nameAndType 11 25), (0, u "(Ljava/lang/Object;)V"), (19, u "isEmpty"), (0, u "()Z"), (8, u "empty"), (0, u "()Ljava/util/Optional;"), (8, u "(Ljava/lang/Object;)Ljava/util/Optional;"), (16, u "of")] 104

def k3c0 : Code := { maxStack := 1, maxLocals := 1, code := jdk_32_method_1_code, exceptionTable := #[], attributes := #[] }
def k3m0 : Method := { name := "empty", desc := "()Ljava/util/Optional;", sig := { parameters := [], returnType := some (.object "java/util/Optional") }, accessFlags := 9, code := some k3c0 }
def k3c1 : Code := { maxStack := 2, maxLocals := 2, code := jdk_32_method_2_code, exceptionTable := #[], attributes := #[] }
def k3m1 : Method := { name := "<init>", desc := "(Ljava/lang/Object;)V", sig := { parameters := [(.object "java/lang/Object")], returnType := none }, accessFlags := 2, code := some k3c1 }
def k3c2 : Code := { maxStack := 3, maxLocals := 1, code := jdk_32_method_3_code, exceptionTable := #[], attributes := #[] }
def k3m2 : Method := { name := "of", desc := "(Ljava/lang/Object;)Ljava/util/Optional;", sig := { parameters := [(.object "java/lang/Object")], returnType := some (.object "java/util/Optional") }, accessFlags := 9, code := some k3c2 }
def k3c3 : Code := { maxStack := 1, maxLocals := 1, code := jdk_32_method_7_code, exceptionTable := #[], attributes := #[] }
def k3m3 : Method := { name := "isEmpty", desc := "()Z", sig := { parameters := [], returnType := some .boolean }, accessFlags := 1, code := some k3c3 }
/-- java/util/Optional -/
def k3 : Class := { plain "java/util/Optional" (some 0) with
  accessFlags := 49
  interfaces := #[]
  cf := some (fileOf pool3 2 #[] #[{ accessFlags := 9, nameIndex := 55, descriptorIndex := 56, attributes := #[] }, { accessFlags := 2, nameIndex := 11, descriptorIndex := 25, attributes := #[] }, { accessFlags := 9, nameIndex := 82, descriptorIndex := 65, attributes := #[] }, { accessFlags := 1, nameIndex := 45, descriptorIndex := 46, attributes := #[] }] 49 8 #[] #[{ accessFlags := 26, nameIndex := 5, descriptorIndex := 6, attributes := #[] }, { accessFlags := 18, nameIndex := 15, descriptorIndex := 16, attributes := #[] }])
  fields := #[{ name := "EMPTY", type := (.object "java/util/Optional"), accessFlags := 26, slot := 0, constantValue := 0 }, { name := "value", type := (.object "java/lang/Object"), accessFlags := 18, slot := 0, constantValue := 0 }]
  methods := #[k3m0, k3m1, k3m2, k3m3]
  instanceTypes := #[(.object "java/lang/Object")]
  staticTypes := #[(.object "java/util/Optional")]
  resolved := Array.replicate 187 none
  statics := some 0 }

def pool4 : Array CpInfo := pool [(1, .class_ 2), (0, u "java/io/Serializable"), (0, .class_ 4), (0, u "java/lang/Object")] 2

/-- java/io/Serializable -/
def k4 : Class := { plain "java/io/Serializable" (some 0) with
  accessFlags := 1537
  interfaces := #[]
  cf := some (fileOf pool4 1 #[] #[] 1537 3 #[] #[])
  fields := #[]
  methods := #[]
  instanceTypes := #[]
  staticTypes := #[]
  resolved := Array.replicate 7 none
  statics := none }

def pool5 : Array CpInfo := pool [(1, .class_ 2), (0, u "java/lang/Comparable"), (0, .class_ 4), (0, u "java/lang/Object")] 7

/-- java/lang/Comparable -/
def k5 : Class := { plain "java/lang/Comparable" (some 0) with
  accessFlags := 1537
  interfaces := #[]
  cf := some (fileOf pool5 1 #[] #[] 1537 3 #[] #[])
  fields := #[]
  methods := #[]
  instanceTypes := #[]
  staticTypes := #[]
  resolved := Array.replicate 12 none
  statics := none }

def pool6 : Array CpInfo := pool [(2, .class_ 4), (1, u "java/lang/CharSequence"), (42, .class_ 48), (0, u "java/lang/CharSequence$1CodePointIterator"), (10, .class_ 60), (0, u "java/lang/CharSequence$1CharIterator"), (5, .class_ 67), (0, u "java/lang/Object")] 63

/-- java/lang/CharSequence -/
def k6 : Class := { plain "java/lang/CharSequence" (some 0) with
  accessFlags := 1537
  interfaces := #[]
  cf := some (fileOf pool6 2 #[.nestMembers #[47, 59]] #[] 1537 66 #[] #[])
  fields := #[]
  methods := #[]
  instanceTypes := #[]
  staticTypes := #[]
  resolved := Array.replicate 131 none
  statics := none }

def pool7 : Array CpInfo := pool [(1, .class_ 2), (0, u "java/lang/constant/Constable"), (0, .class_ 4), (0, u "java/lang/Object")] 6

/-- java/lang/constant/Constable -/
def k7 : Class := { plain "java/lang/constant/Constable" (some 0) with
  accessFlags := 1537
  interfaces := #[]
  cf := some (fileOf pool7 1 #[] #[] 1537 3 #[] #[])
  fields := #[]
  methods := #[]
  instanceTypes := #[]
  staticTypes := #[]
  resolved := Array.replicate 11 none
  statics := none }

def pool8 : Array CpInfo := pool [(1, .class_ 2), (0, u "java/lang/constant/ConstantDesc"), (0, .class_ 4), (0, u "java/lang/Object")] 32

/-- java/lang/constant/ConstantDesc -/
def k8 : Class := { plain "java/lang/constant/ConstantDesc" (some 0) with
  accessFlags := 1537
  interfaces := #[]
  cf := some (fileOf pool8 1 #[] #[] 1537 3 #[] #[])
  fields := #[]
  methods := #[]
  instanceTypes := #[]
  staticTypes := #[]
  resolved := Array.replicate 37 none
  statics := none }

def pool9 : Array CpInfo := pool [(2, .class_ 4), (1, u "java/lang/Object"), (0, u "<init>"), (0, u "()V"), (3, .class_ 12), (1, u "java/lang/String"), (0, u "value"), (0, u "[B"), (2, u "coder"), (0, u "B"), (2, u "hash"), (0, u "I"), (2, u "hashIsZero"), (0, u "Z"), (13, u "COMPACT_STRINGS"), (534, .class_ 576), (0, u "java/lang/CharSequence"), (22, u "CASE_INSENSITIVE_ORDER"), (0, u "Ljava/util/Comparator;"), (500, u "serialPersistentFields"), (0, u "[Ljava/io/ObjectStreamField;"), (0, .class_ 1104), (0, u "java/lang/String$CaseInsensitiveComparator"), (1, .class_ 1107), (0, u "java/io/Serializable"), (0, .class_ 1109), (0, u "java/lang/Comparable"), (0, .class_ 1111), (0, u "java/lang/constant/Constable"), (0, .class_ 1113), (0, u "java/lang/constant/ConstantDesc"), (2, u "serialVersionUID"), (0, u "J"), (3, u "REPL"), (0, u "C"), (2, u "LATIN1"), (1, u "UTF16")] 323

def k9m0 : Method := { name := "<init>", desc := "()V", sig := { parameters := [], returnType := none }, accessFlags := 1, code := none }
/-- java/lang/String -/
def k9 : Class := { plain "java/lang/String" (some 0) with
  accessFlags := 49
  interfaces := #[4, 5, 6, 7, 8]
  cf := some (fileOf pool9 10 #[.nestMembers #[1103]] #[{ accessFlags := 1, nameIndex := 5, descriptorIndex := 6, attributes := #[] }] 49 2 #[1106, 1108, 575, 1110, 1112] #[{ accessFlags := 18, nameIndex := 13, descriptorIndex := 14, attributes := #[] }, { accessFlags := 18, nameIndex := 17, descriptorIndex := 18, attributes := #[] }, { accessFlags := 2, nameIndex := 21, descriptorIndex := 22, attributes := #[] }, { accessFlags := 2, nameIndex := 25, descriptorIndex := 26, attributes := #[] }, { accessFlags := 26, nameIndex := 1116, descriptorIndex := 1117, attributes := #[] }, { accessFlags := 24, nameIndex := 40, descriptorIndex := 26, attributes := #[] }, { accessFlags := 26, nameIndex := 1101, descriptorIndex := 1102, attributes := #[] }, { accessFlags := 26, nameIndex := 1121, descriptorIndex := 1122, attributes := #[] }, { accessFlags := 25, nameIndex := 599, descriptorIndex := 600, attributes := #[] }, { accessFlags := 24, nameIndex := 1125, descriptorIndex := 18, attributes := #[] }, { accessFlags := 24, nameIndex := 1127, descriptorIndex := 18, attributes := #[] }])
  fields := #[{ name := "value", type := (.array .byte), accessFlags := 18, slot := 0, constantValue := 0 }, { name := "coder", type := .byte, accessFlags := 18, slot := 1, constantValue := 0 }, { name := "hash", type := .int, accessFlags := 2, slot := 2, constantValue := 0 }, { name := "hashIsZero", type := .boolean, accessFlags := 2, slot := 3, constantValue := 0 }, { name := "serialVersionUID", type := .long, accessFlags := 26, slot := 0, constantValue := 0 }, { name := "COMPACT_STRINGS", type := .boolean, accessFlags := 24, slot := 1, constantValue := 0 }, { name := "serialPersistentFields", type := (.array (.object "java/io/ObjectStreamField")), accessFlags := 26, slot := 2, constantValue := 0 }, { name := "REPL", type := .char, accessFlags := 26, slot := 3, constantValue := 0 }, { name := "CASE_INSENSITIVE_ORDER", type := (.object "java/util/Comparator"), accessFlags := 25, slot := 4, constantValue := 0 }, { name := "LATIN1", type := .byte, accessFlags := 24, slot := 5, constantValue := 0 }, { name := "UTF16", type := .byte, accessFlags := 24, slot := 6, constantValue := 0 }]
  methods := #[k9m0]
  instanceTypes := #[(.array .byte), .byte, .int, .boolean]
  staticTypes := #[.long, .boolean, (.array (.object "java/io/ObjectStreamField")), .char, (.object "java/util/Comparator"), .byte, .byte]
  resolved := Array.replicate 1451 none
  statics := none }

def pool10 : Array CpInfo := pool [(2, .class_ 4), (1, u "java/lang/Object"), (0, u "<init>"), (0, u "()V"), (35, .class_ 44), (1, u "java/util/Objects"), (0, u "requireNonNull"), (0, u "(Ljava/lang/Object;)Ljava/lang/Object;")] 137

def k10m0 : Method := { name := "<init>", desc := "()V", sig := { parameters := [], returnType := none }, accessFlags := 2, code := none }
def k10c1 : Code := { maxStack := 2, maxLocals := 1, code := jdk_31_method_10_code, exceptionTable := #[], attributes := #[] }
def k10m1 : Method := { name := "requireNonNull", desc := "(Ljava/lang/Object;)Ljava/lang/Object;", sig := { parameters := [(.object "java/lang/Object")], returnType := some (.object "java/lang/Object") }, accessFlags := 9, code := some k10c1 }
/-- java/util/Objects -/
def k10 : Class := { plain "java/util/Objects" (some 0) with
  accessFlags := 49
  interfaces := #[]
  cf := some (fileOf pool10 42 #[] #[{ accessFlags := 2, nameIndex := 5, descriptorIndex := 6, attributes := #[] }, { accessFlags := 9, nameIndex := 45, descriptorIndex := 46, attributes := #[] }] 49 2 #[] #[])
  fields := #[]
  methods := #[k10m0, k10m1]
  instanceTypes := #[]
  staticTypes := #[]
  resolved := Array.replicate 184 none
  statics := none }

def pool11 : Array CpInfo := pool [(1, u "java/lang/Cloneable"), (0, .class_ 1), (0, u "java/lang/Object"), (0, .class_ 3)] 3

/-- java/lang/Cloneable -/
def k11 : Class := { plain "java/lang/Cloneable" (some 0) with
  accessFlags := 1537
  interfaces := #[]
  cf := some (fileOf pool11 2 #[] #[] 1537 4 #[] #[])
  fields := #[]
  methods := #[]
  instanceTypes := #[]
  staticTypes := #[]
  resolved := Array.replicate 8 none
  statics := none }

/-- the primitive byte -/
def k12 : Class := { plain "byte" none with kind := .primitive 'B', accessFlags := 0x411 }
/-- [B -/
def k13 : Class := { plain "[B" (some 0) with kind := .array 12 .byte, interfaces := #[11, 4], accessFlags := 1041 }

/-- the primitive int -/
def k14 : Class := { plain "int" none with kind := .primitive 'I', accessFlags := 0x411 }
/-- [I -/
def k15 : Class := { plain "[I" (some 0) with kind := .array 14 .int, interfaces := #[11, 4], accessFlags := 1041 }

def heap : Heap := #[{ cls := 3, slots := #[.ref 1], vm := .statics 3 },
  { cls := 3, slots := #[.null], vm := .none }]
def classes : Array Class := #[k0, k1, k2, k3, k4, k5, k6, k7, k8, k9, k10, k11, k12, k13, k14, k15]
def interned : List (Array UInt16 × Addr) := []
def slotsUsed : Nat := 2
def theMethod : MethodId := ⟨1, 1⟩
def args0 : Array Value := #[.int 5, .int 6, .int 7, .int 5, .int 6]
def aboutOver (below : List Frame) : State where
  vm := { classes := classes, interned := interned.toArray }
  heap := heap
  slotsUsed := slotsUsed
  threads := #[{ frames := .invoking theMethod args0 :: below }]
def below0 : List Frame := [.native { method := ⟨0, 0⟩, args := #[] }]
def about1 : State := aboutOver below0
def p0 : Program := .bare "" "" ""
def e0 : Env := launch0.env 0 0 0
theorem w_frames : about1.frames = Frame.invoking theMethod args0 :: below0 := rfl
set_option maxRecDepth 65536 in
theorem w_args : argsFit about1.vm theMethod args0 = true := by decide +kernel
set_option maxRecDepth 65536 in
theorem w_heap : heapFits about1 = true := by decide +kernel
set_option maxRecDepth 65536 in
theorem w_runnable : about1.curStatus? = some .runnable := by decide +kernel
set_option maxRecDepth 65536 in
theorem w_alone : about1.alone = true := by decide +kernel
set_option maxRecDepth 65536 in
theorem w_named : about1.methodNamed? x = some theMethod := by decide +kernel
set_option maxRecDepth 65536 in
theorem w_hears : about1.hears theMethod below0 = true := by decide +kernel
set_option maxRecDepth 65536 in
theorem w_ripe : about1.ripe theMethod args0 below0 = true := by decide +kernel
theorem w_running : about1.status = .running := rfl
set_option maxRecDepth 65536 in
theorem w_room : about1.hasRoom e0.platform room_1 = true :=
  launch0.hasRoom_least _ room_1 (by decide +kernel) (by decide +kernel) (by decide +kernel) (by decide +kernel) (by decide +kernel) (by decide +kernel)
theorem allAtoms_all (ts : List Jvm.Cond) (a : Array Jvm.Value) (st : Jvm.State) : (allAtoms ts).before a st = ts.all (fun c => c.before a st) := by
  induction ts with
  | nil => rfl
  | cons c t ih =>
    show (Jvm.Cond.and c (allAtoms t)).before a st = _
    rw [Jvm.Cond.before_and, ih, List.all_cons]
def words1 : List Jvm.Cond := Jvm.Cond.code x code maxLocals ret :: tables_1
/-- a 'code' word, met by the world's own term for the bytes: nothing is compared byte by byte -/
theorem code_word {y : MethodName} {bytes : ByteArray} {mx : Nat} {rt : Option FieldType} {a : Array Value} {s : State} {m : MethodId} {meth : Method} {c : Code} (h1 : s.methodNamed? y = some m) (h2 : s.vm.method? m = some meth) (h3 : meth.code = some c) (h4 : c.code = bytes)
    (h5 : (c.maxLocals == mx && c.exceptionTable.isEmpty && decide (c.maxStack ≤ mostOperands) && decide (meth.sig.returnType = rt) && !meth.locks && decide (parseMethodDescriptor y.desc = some meth.sig)) = true) : (Jvm.Cond.code y bytes mx rt).before a s = true := by
  simp only [Bool.and_eq_true, beq_iff_eq, Bool.not_eq_true', decide_eq_true_eq] at h5
  obtain ⟨⟨⟨⟨⟨g1, g2⟩, g3⟩, g4⟩, g5⟩, g6⟩ := h5
  simp [Cond.before, Cond.holds, Cond.value, h1, h2, h3, h4, g1, g2, g3, g4, g5, g6]
def isCode : Jvm.Cond → Bool
  | .code _ _ _ _ => true
  | _ => false
theorem all_split {L : List Jvm.Cond} {P : Jvm.Cond → Bool} (h1 : L.all (fun c => isCode c || P c) = true) (h2 : ∀ c ∈ L.filter isCode, P c = true) : L.all P = true := by
  refine List.all_eq_true.mpr fun c hc => ?_
  have h := List.all_eq_true.mp h1 c hc
  rcases Bool.eq_false_or_eq_true (isCode c) with hi | hi
  · exact h2 c (List.mem_filter.mpr ⟨hc, hi⟩)
  · simpa [hi] using h
set_option maxRecDepth 65536 in
theorem w_c0 : (Jvm.Cond.code x code maxLocals ret).before args0 about1 = true := code_word (m := ⟨1, 1⟩) (meth := k1m1) (c := k1c1) (by decide +kernel) rfl rfl rfl (by decide +kernel)
set_option maxRecDepth 65536 in
theorem w_c1 : (Jvm.Cond.code ({ cls := "com/example/caddis/caddis/XmlNesting", name := "<init>", desc := "()V" } : Jvm.MethodName) prog_17_method_1_code (1 : Nat) (Option.none : Option Jvm.ClassFile.FieldType)).before args0 about1 = true := code_word (m := ⟨2, 0⟩) (meth := k2m0) (c := k2c0) (by decide +kernel) rfl rfl rfl (by decide +kernel)
set_option maxRecDepth 65536 in
theorem w_c2 : (Jvm.Cond.code ({ cls := "java/lang/Object", name := "<init>", desc := "()V" } : Jvm.MethodName) object_method_1_code (1 : Nat) (Option.none : Option Jvm.ClassFile.FieldType)).before args0 about1 = true := code_word (m := ⟨0, 0⟩) (meth := k0m0) (c := k0c0) (by decide +kernel) rfl rfl rfl (by decide +kernel)
set_option maxRecDepth 65536 in
theorem w_c3 : (Jvm.Cond.code ({ cls := "com/example/caddis/caddis/XmlNesting", name := "enter", desc := "(I)Ljava/util/Optional;" } : Jvm.MethodName) prog_17_method_2_code (2 : Nat) (Option.some (Jvm.ClassFile.FieldType.object "java/util/Optional"))).before args0 about1 = true := code_word (m := ⟨2, 1⟩) (meth := k2m1) (c := k2c1) (by decide +kernel) rfl rfl rfl (by decide +kernel)
set_option maxRecDepth 65536 in
theorem w_c4 : (Jvm.Cond.code ({ cls := "java/util/Optional", name := "empty", desc := "()Ljava/util/Optional;" } : Jvm.MethodName) jdk_32_method_1_code (1 : Nat) (Option.some (Jvm.ClassFile.FieldType.object "java/util/Optional"))).before args0 about1 = true := code_word (m := ⟨3, 0⟩) (meth := k3m0) (c := k3c0) (by decide +kernel) rfl rfl rfl (by decide +kernel)
set_option maxRecDepth 65536 in
theorem w_c5 : (Jvm.Cond.code ({ cls := "java/util/Optional", name := "isEmpty", desc := "()Z" } : Jvm.MethodName) jdk_32_method_7_code (1 : Nat) (Option.some Jvm.ClassFile.FieldType.boolean)).before args0 about1 = true := code_word (m := ⟨3, 3⟩) (meth := k3m3) (c := k3c3) (by decide +kernel) rfl rfl rfl (by decide +kernel)
set_option maxRecDepth 65536 in
theorem w_c6 : (Jvm.Cond.code ({ cls := "com/example/caddis/caddis/XmlNesting", name := "leave", desc := "()V" } : Jvm.MethodName) prog_17_method_3_code (1 : Nat) (Option.none : Option Jvm.ClassFile.FieldType)).before args0 about1 = true := code_word (m := ⟨2, 2⟩) (meth := k2m2) (c := k2c2) (by decide +kernel) rfl rfl rfl (by decide +kernel)
set_option maxRecDepth 65536 in
theorem w_c7 : (Jvm.Cond.code ({ cls := "java/util/Optional", name := "of", desc := "(Ljava/lang/Object;)Ljava/util/Optional;" } : Jvm.MethodName) jdk_32_method_3_code (1 : Nat) (Option.some (Jvm.ClassFile.FieldType.object "java/util/Optional"))).before args0 about1 = true := code_word (m := ⟨3, 2⟩) (meth := k3m2) (c := k3c2) (by decide +kernel) rfl rfl rfl (by decide +kernel)
set_option maxRecDepth 65536 in
theorem w_c8 : (Jvm.Cond.code ({ cls := "java/util/Objects", name := "requireNonNull", desc := "(Ljava/lang/Object;)Ljava/lang/Object;" } : Jvm.MethodName) jdk_31_method_10_code (1 : Nat) (Option.some (Jvm.ClassFile.FieldType.object "java/lang/Object"))).before args0 about1 = true := code_word (m := ⟨10, 1⟩) (meth := k10m1) (c := k10c1) (by decide +kernel) rfl rfl rfl (by decide +kernel)
set_option maxRecDepth 65536 in
theorem w_c9 : (Jvm.Cond.code ({ cls := "java/util/Optional", name := "<init>", desc := "(Ljava/lang/Object;)V" } : Jvm.MethodName) jdk_32_method_2_code (2 : Nat) (Option.none : Option Jvm.ClassFile.FieldType)).before args0 about1 = true := code_word (m := ⟨3, 1⟩) (meth := k3m1) (c := k3c1) (by decide +kernel) rfl rfl rfl (by decide +kernel)
def codes1 : List Jvm.Cond := [Jvm.Cond.code x code maxLocals ret, Jvm.Cond.code ({ cls := "com/example/caddis/caddis/XmlNesting", name := "<init>", desc := "()V" } : Jvm.MethodName) prog_17_method_1_code (1 : Nat) (Option.none : Option Jvm.ClassFile.FieldType), Jvm.Cond.code ({ cls := "java/lang/Object", name := "<init>", desc := "()V" } : Jvm.MethodName) object_method_1_code (1 : Nat) (Option.none : Option Jvm.ClassFile.FieldType), Jvm.Cond.code ({ cls := "com/example/caddis/caddis/XmlNesting", name := "enter", desc := "(I)Ljava/util/Optional;" } : Jvm.MethodName) prog_17_method_2_code (2 : Nat) (Option.some (Jvm.ClassFile.FieldType.object "java/util/Optional")), Jvm.Cond.code ({ cls := "java/util/Optional", name := "empty", desc := "()Ljava/util/Optional;" } : Jvm.MethodName) jdk_32_method_1_code (1 : Nat) (Option.some (Jvm.ClassFile.FieldType.object "java/util/Optional")), Jvm.Cond.code ({ cls := "java/util/Optional", name := "isEmpty", desc := "()Z" } : Jvm.MethodName) jdk_32_method_7_code (1 : Nat) (Option.some Jvm.ClassFile.FieldType.boolean), Jvm.Cond.code ({ cls := "com/example/caddis/caddis/XmlNesting", name := "leave", desc := "()V" } : Jvm.MethodName) prog_17_method_3_code (1 : Nat) (Option.none : Option Jvm.ClassFile.FieldType), Jvm.Cond.code ({ cls := "java/util/Optional", name := "of", desc := "(Ljava/lang/Object;)Ljava/util/Optional;" } : Jvm.MethodName) jdk_32_method_3_code (1 : Nat) (Option.some (Jvm.ClassFile.FieldType.object "java/util/Optional")), Jvm.Cond.code ({ cls := "java/util/Objects", name := "requireNonNull", desc := "(Ljava/lang/Object;)Ljava/lang/Object;" } : Jvm.MethodName) jdk_31_method_10_code (1 : Nat) (Option.some (Jvm.ClassFile.FieldType.object "java/lang/Object")), Jvm.Cond.code ({ cls := "java/util/Optional", name := "<init>", desc := "(Ljava/lang/Object;)V" } : Jvm.MethodName) jdk_32_method_2_code (2 : Nat) (Option.none : Option Jvm.ClassFile.FieldType)]
set_option maxRecDepth 65536 in
theorem codes_eq : words1.filter isCode = codes1 := rfl
theorem w_codes : ∀ c ∈ words1.filter isCode, c.before args0 about1 = true := by
  rw [codes_eq]
  intro c hc
  simp only [codes1, List.mem_cons, List.not_mem_nil, or_false] at hc
  rcases hc with rfl | rfl | rfl | rfl | rfl | rfl | rfl | rfl | rfl | rfl
  · exact w_c0
  · exact w_c1
  · exact w_c2
  · exact w_c3
  · exact w_c4
  · exact w_c5
  · exact w_c6
  · exact w_c7
  · exact w_c8
  · exact w_c9
set_option maxRecDepth 65536 in
theorem w_t1 : (words1.take 24).all (fun c => isCode c || c.before args0 about1) = true := by decide +kernel
set_option maxRecDepth 65536 in
theorem w_t2 : ((words1.drop 24).take 24).all (fun c => isCode c || c.before args0 about1) = true := by decide +kernel
set_option maxRecDepth 65536 in
theorem w_t3 : ((words1.drop 24).drop 24).all (fun c => isCode c || c.before args0 about1) = true := by decide +kernel
theorem w_tables : (allAtoms (Jvm.Cond.code x code maxLocals ret :: tables_1)).before args0 about1 = true := by
  rw [allAtoms_all]
  show words1.all (fun c => c.before args0 about1) = true
  refine all_split ?_ w_codes
  rw [← List.take_append_drop 24 words1, List.all_append, w_t1, ← List.take_append_drop 24 (words1.drop 24), List.all_append, w_t2, w_t3]
  rfl
set_option maxRecDepth 65536 in
theorem w_rest : rest_1_c.before args0 about1 = true := by decide +kernel
set_option maxRecDepth 65536 in
theorem w_case : (Jvm.Cond.and given_1 narrow_1).before args0 about1 = true := by decide +kernel
theorem w_applies : (headSpec (Jvm.Cond.code x code maxLocals ret :: tables_1) room_1).applies x e0.platform about1 = true :=
  (Spec.applies_iff w_frames).mpr ⟨w_running, w_runnable, w_alone, w_named, w_hears, w_ripe, w_room, w_tables⟩
theorem atStart : AtStart classFile x code maxLocals ret World_1 tables_1 room_1 Calls_1 rest_1 Pre_1 launch0 p0 e0 about1 theMethod args0 below0 :=
  ⟨lists_1, trivial, launch0.admits_env _ _ _, launch0.least_env, fairChoices_fair.cas, fairChoices_fair.clock, w_frames, w_args, w_heap, w_applies, trivial, w_rest, w_case⟩
end start1
theorem witness_1 : WitnessClaimed_1 := ⟨start1.p0, start1.e0, start1.about1, start1.theMethod, start1.args0, start1.below0, start1.atStart⟩
end Jvm.Pilot.@@N@@
