import JvmDerived
import JvmDerived.Pilot.@@N@@Statement
import JvmDerived.Pilot.@@N@@Code
set_option linter.unusedVariables false
set_option linter.unusedSimpArgs false
namespace Jvm.RoadKit
open Sem ClassFile Op Lib Jvm.Stand Jvm.Free Jvm.LawKit
section New
variable {p : Program} {l : Launch} {e : Env} {R : Room} {s : State} {m : MethodId} {args : Array Value} {below : List Frame} {meth : Method} {c : Code} {T : State} {locs : List Loc} {cells slots : Nat}
theorem retI (X : Stand p l e R s m args below meth c T locs cells slots) (hx : p.tables.exec = Jvm.exec) {pc : Nat} {Ls : Array Slot} {z : Int32} {rest : List Value} (hret : meth.sig.returnType = some .int) (hd : decode c.code pc = .ok (.ireturn, 1)) {fs : List Frame}
    (hl : ∀ (f : JFrame) (acts : List Action), f.method = m → f.locked = none → f.entered = [] → (doReturn e (T.setTop f) acts (some (.int z))).1 = T.setFrames fs) : Steps p.tables e below (T.setTop (mkF m pc Ls (.int z :: rest))) (T.setFrames fs) := by
  have hm' : T.vm.method? m = some meth := X.method'
  have hn : narrow .int (.int z) = .int z := rfl
  show Steps p.tables e below (T.setTop { method := m, pc := pc, locals := Ls, stack := _ :: rest, locked := none }) _
  jvm_step X.here [X.here.top, hx, hd, hm', hret, hn]
  first | (intro acts; rw [hl _ acts rfl rfl rfl]) | rw [hl _ _ rfl rfl rfl]
  exact Steps.refl _
theorem lsw {g : JFrame} {target : State} (X : Stand p l e R s m args below meth c T locs cells slots) (hx : p.tables.exec = Jvm.exec) (hg : g.method = m) {dflt : Int} {pairs : Array (Int × Int)} {len : Nat} {o : Int} {x : Int32} {rest : List Value} {pc0 pc' : Nat} (hpc : g.pc = pc0) (hd : decode c.code g.pc = .ok (.lookupswitch dflt pairs, len)) (hs : g.stack = .int x :: rest)
    (hso : ∀ (a b a' b' : Int), ((a, b), a', b') ∈ pairs.toList.zip pairs.toList.tail → a < a') (hq : lookupswitch.offset pairs.toList dflt x.toInt = o) (ho : 0 ≤ (pc0 : Int) + o) (hp : ((pc0 : Int) + o).toNat = pc') (hr : Steps p.tables e below (T.setTop { g with pc := pc', stack := rest }) target) : Steps p.tables e below (T.setTop g) target := by
  subst hg hpc hp
  jvm_step X.here [X.here.top, hx, hd, hs, hq, ho, lookupswitch.wp_chain]
  exact ⟨hso, hr⟩
end New
end Jvm.RoadKit
namespace Jvm.Pilot.@@N@@
open Jvm Jvm.ClassFile Sem Op Lib Jvm.Free Jvm.Stand Jvm.LawKit Jvm.RoadKit Bundle Jvm.Pilot.@@N@@.Jvm.D
/-- a value comes back, the heap as it was -/
def QV (w : Value) (h0 : Heap) (n0 : Nat) (v : Option Value) (h : Heap) (L : List Loc) : Prop := v = some w ∧ Fr n0 L ∧ h = h0
def QL (n0 : Nat) (v : Option Value) (h : Heap) (L : List Loc) : Prop := v = some (.int 1) ∧ Fr n0 L
/-- an array of ints: its length and what each place holds -/
def IA (Z : State) (h : Heap) (a : Addr) (n : Nat) (f : Nat → Int32) : Prop := ∃ c : Cell, Arr Z h a c .int ∧ c.slots.size = n ∧ ∀ j, j < n → c.slots[j]? = some (.int (f j))
def upd (f : Nat → Int32) (i : Nat) (v : Int32) : Nat → Int32 := fun j => if j = i then v else f j
section IAs
variable {Z : State} {h h' : Heap} {a b : Addr} {n : Nat} {f : Nat → Int32} {sl : Nat} {v : Value} {ws : List Addr}
theorem IA.lt (F : IA Z h a n f) : a < h.size := by obtain ⟨c, A, -⟩ := F; exact A.lt
theorem IA.ext (F : IA Z h a n f) (E : Ext h h') : IA Z h' a n f := by obtain ⟨c, A, r⟩ := F; exact ⟨c, A.ext E, r⟩
theorem IA.other (F : IA Z h b n f) (W : Wr h h' a sl v) (q : b ≠ a) : IA Z h' b n f := by obtain ⟨c, A, r⟩ := F; exact ⟨c, A.other W q, r⟩
theorem IA.keep (F : IA Z h a n f) (K : Keep h h' ws) (q : a ∉ ws) : IA Z h' a n f := by obtain ⟨c, A, r⟩ := F; exact ⟨c, ⟨K.2.1 a c A.1 q, A.2⟩, r⟩
theorem IA.new {k : ClassId} {z : Int32} (A : Arr Z h a (newA k .int z) .int) (hn : z.toNatClampNeg = n) : IA Z h a n (fun _ => (0 : Int32)) := ⟨_, A, by rw [sz_new]; exact hn, fun j hj => by simp [newA, hn, hj, defaultValue]⟩
theorem IA.set {c : Cell} {j x : Int32} {i : Nat} (A : Arr Z h a c .int) (S : c.slots.size = n) (H : ∀ j, j < n → c.slots[j]? = some (.int (f j))) (W : Wr h h' a j.toNatClampNeg (.int x)) (hi : j.toNatClampNeg = i) (hl : i < n) : IA Z h' a n (upd f i x) := by
  refine ⟨_, A.same W, by rw [sz_set]; exact S, fun y hy => ?_⟩
  rw [hi]
  by_cases u : y = i
  · subst u; simp [Cell.setSlot, upd, S, hl]
  · simp only [Cell.setSlot, upd, if_neg u]; rw [Array.getElem?_setIfInBounds_ne (Ne.symm u)]; exact H y hy
theorem IA.inb {c : Cell} {j : Int32} {i : Nat} (S : c.slots.size = n) (h0 : ¬ j < 0) (hi : j.toNatClampNeg = i) (hl : i < n) : ¬ (j < 0 ∨ c.slots.size ≤ j.toNatClampNeg) := by
  rw [S, hi]; exact fun q => q.elim h0 fun q => absurd hl (Nat.not_lt.mpr q)
theorem IA.at {c : Cell} {j x : Int32} {i : Nat} (H : ∀ j, j < n → c.slots[j]? = some (.int (f j))) (hi : j.toNatClampNeg = i) (hl : i < n) (hv : f i = x) : c.slots[j.toNatClampNeg]? = some (.int x) := by
  rw [hi, H i hl, hv]
end IAs
theorem IA.congr {Z : State} {h : Heap} {a : Addr} {n : Nat} {f g : Nat → Int32} (F : IA Z h a n f) (q : ∀ j, j < n → f j = g j) : IA Z h a n g := by
  obtain ⟨c, A, S, H⟩ := F
  exact ⟨c, A, S, fun j hj => by rw [← q j hj]; exact H j hj⟩
theorem psel {s : State} {args : Array Value} {y : MethodName} {n : Nat} (wi : (Jvm.Cond.instantiable y.cls n).before args s = true) (wp : (Jvm.Cond.privateMethod y).before args s = true) (wm : (Jvm.Cond.instanceMethod y).before args s = true) (hy : y.cls ≠ "java/lang/invoke/MethodHandle" ∧ y.cls ≠ "java/lang/invoke/VarHandle") : (Jvm.Cond.selects y.cls y y).before args s = true := by
  obtain ⟨c, k, h1, h2, -, h4, -, -⟩ := Cond.instantiable_spec wi
  simp only [Bool.or_eq_false_iff] at h4
  exact Stand.selects_self_of_private h1 h2 h4.1 (Cond.privateMethod_at wp) wm hy
def CS (Z : State) (h : Heap) (cn vs lo hi tb ca : Addr) (sz vc : Int32) (fv fl fh ft fc : Nat → Int32) : Prop := Exa Z h cn "com/example/sealed_paths/sealedpaths/core/Conditions" ∧ Fld Z h cn "com/example/sealed_paths/sealedpaths/core/Conditions" "variables" "[I" (.ref vs) ∧ Fld Z h cn "com/example/sealed_paths/sealedpaths/core/Conditions" "lows" "[I" (.ref lo) ∧ Fld Z h cn "com/example/sealed_paths/sealedpaths/core/Conditions" "highs" "[I" (.ref hi) ∧ Fld Z h cn "com/example/sealed_paths/sealedpaths/core/Conditions" "table" "[I" (.ref tb) ∧ Fld Z h cn "com/example/sealed_paths/sealedpaths/core/Conditions" "cached" "[I" (.ref ca) ∧ Fld Z h cn "com/example/sealed_paths/sealedpaths/core/Conditions" "limit" "I" (.int (16 : Int32)) ∧ Fld Z h cn "com/example/sealed_paths/sealedpaths/core/Conditions" "size" "I" (.int sz) ∧ Fld Z h cn "com/example/sealed_paths/sealedpaths/core/Conditions" "variableCount" "I" (.int vc) ∧ IA Z h vs 1024 fv ∧ IA Z h lo 1024 fl ∧ IA Z h hi 1024 fh ∧ IA Z h tb 2048 ft ∧ IA Z h ca 16384 fc
def DS (n0 : Nat) (cn vs lo hi tb ca : Addr) : Prop := n0 ≤ cn ∧ n0 ≤ vs ∧ n0 ≤ lo ∧ n0 ≤ hi ∧ n0 ≤ tb ∧ n0 ≤ ca ∧ cn ≠ vs ∧ cn ≠ lo ∧ cn ≠ hi ∧ cn ≠ tb ∧ cn ≠ ca ∧ vs ≠ lo ∧ vs ≠ hi ∧ vs ≠ tb ∧ vs ≠ ca ∧ lo ≠ hi ∧ lo ≠ tb ∧ lo ≠ ca ∧ hi ≠ tb ∧ hi ≠ ca ∧ tb ≠ ca
def QC (r : Value) (Z : State) (cn vs lo hi tb ca : Addr) (sz vc : Int32) (fv fl fh ft fc : Nat → Int32) (h0 : Heap) (n0 : Nat) (v : Option Value) (h : Heap) (L : List Loc) : Prop := v = some r ∧ Fr n0 L ∧ Keep h0 h [cn, vs, lo, hi, tb, ca] ∧ CS Z h cn vs lo hi tb ca sz vc fv fl fh ft fc
theorem d3_0 : decode jdk_65_method_103_code 0 = .ok (.iconst 0, 1) := by decide +kernel
theorem d3_1 : decode jdk_65_method_103_code 1 = .ok (.istore_n 2, 1) := by decide +kernel
theorem d3_2 : decode jdk_65_method_103_code 2 = .ok (.aload_n 0, 1) := by decide +kernel
theorem d3_3 : decode jdk_65_method_103_code 3 = .ok (.arraylength, 1) := by decide +kernel
theorem d3_4 : decode jdk_65_method_103_code 4 = .ok (.istore_n 3, 1) := by decide +kernel
theorem d3_5 : decode jdk_65_method_103_code 5 = .ok (.iload_n 2, 1) := by decide +kernel
theorem d3_6 : decode jdk_65_method_103_code 6 = .ok (.iload_n 3, 1) := by decide +kernel
theorem d3_7 : decode jdk_65_method_103_code 7 = .ok (.if_icmp .ge 13, 3) := by decide +kernel
theorem d3_10 : decode jdk_65_method_103_code 10 = .ok (.aload_n 0, 1) := by decide +kernel
theorem d3_11 : decode jdk_65_method_103_code 11 = .ok (.iload_n 2, 1) := by decide +kernel
theorem d3_12 : decode jdk_65_method_103_code 12 = .ok (.iload_n 1, 1) := by decide +kernel
theorem d3_13 : decode jdk_65_method_103_code 13 = .ok (.iastore, 1) := by decide +kernel
theorem d3_14 : decode jdk_65_method_103_code 14 = .ok (.iinc 2 1, 3) := by decide +kernel
theorem d3_17 : decode jdk_65_method_103_code 17 = .ok (.goto (-12), 3) := by decide +kernel
theorem d3_20 : decode jdk_65_method_103_code 20 = .ok (.return_, 1) := by decide +kernel
theorem pn_Arrays : plainName "java/util/Arrays" = true := by first | (simp [plainName, overriddenIn]; done) | decide +kernel
theorem fillLoop {p : Program} {l : Launch} {e : Env} {R : Room} {s : State} {m : MethodId} {args : Array Value} {below : List Frame} {meth : Method} {c : Code} {cells slots : Nat} {Z : State} (hx : p.tables.exec = Jvm.exec) (hZ : Z.Warmed39 s.vm) (hby : c.code = jdk_65_method_103_code) (d : Addr) (x1 : Int32) (n : Nat) (hn : n < 2 ^ 31) (n0 : Nat) (gd : n0 ≤ d) :
    ∀ (k i : Nat) (T : State) (locs : List Loc) (h : Heap) (f : Nat → Int32), i + k = n → Stand p l e R s m args below meth c T locs cells slots → T.heap = h → Fr n0 locs → IA Z h d n f → (∀ j, j < i → f j = x1) →
      ∃ (T' : State) (locs' : List Loc) (h' : Heap), Stand p l e R s m args below meth c T' locs' cells slots ∧ T'.heap = h' ∧ Fr n0 locs' ∧ IA Z h' d n (fun _ => x1) ∧ Keep h h' [d] ∧
        ∀ target, Steps p.tables e below (T'.setTop (mkF m 20 #[.val (.ref d), .val (.int x1), .val (.int n.toInt32), .val (.int n.toInt32)] [])) target → Steps p.tables e below (T.setTop (mkF m 5 #[.val (.ref d), .val (.int x1), .val (.int i.toInt32), .val (.int n.toInt32)] [])) target := by
  have nn : n.toInt32.toInt = n := len_toInt hn
  intro k
  induction k with
  | zero =>
    intro i T locs h f hi X eT N V hf
    have hin : i = n := by omega
    subst hin
    refine ⟨T, locs, h, X, eT, N, V.congr hf, Keep.refl _ _, fun target kt => ?_⟩
    refine XS.iloadN X.here hx rfl (hb hby d3_5) rfl ?_
    show Steps p.tables e below (T.setTop (mkF m 6 #[.val (.ref d), .val (.int x1), .val (.int i.toInt32), .val (.int i.toInt32)] [(.int i.toInt32)])) _
    refine XS.iloadN X.here hx rfl (hb hby d3_6) rfl ?_
    show Steps p.tables e below (T.setTop (mkF m 7 #[.val (.ref d), .val (.int x1), .val (.int i.toInt32), .val (.int i.toInt32)] [(.int i.toInt32), (.int i.toInt32)])) _
    refine XS.icmpYes X.here hx rfl (pc0 := 7) (pc' := 20) rfl (hb hby d3_7) rfl (flt (by rw [Int32.lt_iff_toInt_lt]; omega : ¬ i.toInt32 < i.toInt32)).2.1 (by decide) (by decide) ?_
    exact kt
  | succ k ih =>
    intro i T locs h f hi X eT N V hf
    have ii : i.toInt32.toInt = i := len_toInt (by omega)
    have i1 : (i + 1).toInt32.toInt = (i + 1 : Nat) := len_toInt (by omega)
    have ic : i.toInt32.toNatClampNeg = i := by simp only [Int32.toNatClampNeg, ii]; rfl
    have inc : i.toInt32 + Int32.ofInt 1 = (i + 1).toInt32 := by
      have q := c_iadd i.toInt32 (Int32.ofInt 1)
      have r := rng32 (i.toInt32 + Int32.ofInt 1)
      have o1 : (Int32.ofInt 1).toInt = 1 := by decide
      rw [ii, o1] at q
      refine Int32.toInt_inj.mp ?_
      rw [i1]; omega
    obtain ⟨cl, Ar, Sz, Hz⟩ := V
    have z0 : (0 : Int32).toInt = 0 := by decide
    have hin := IA.inb (j := i.toInt32) (i := i) Sz (by rw [Int32.lt_iff_toInt_lt, ii, z0]; omega) ic (by omega)
    obtain ⟨T1, h1, X1, e1, W1, st1⟩ := stI X hx hZ eT Ar (j := i.toInt32) hin (g := (mkF m 13 #[.val (.ref d), .val (.int x1), .val (.int i.toInt32), .val (.int n.toInt32)] [(.int x1), (.int i.toInt32), (.ref d)])) rfl rfl (hb hby d3_13)
    have V1 := IA.set Ar Sz Hz W1 ic (by omega)
    have N1 := Fr.snoc X1 N gd
    obtain ⟨T', locs', h', X', e', N', V', K', st'⟩ := ih (i + 1) T1 _ h1 _ (by omega) X1 e1 N1 V1 (fun j hj => by
      simp only [upd]; split
      · rfl
      · exact hf j (by omega))
    refine ⟨T', locs', h', X', e', N', V', (Keep.of_wr W1).trans K' (fun y hy => Or.inl hy), fun target kt => ?_⟩
    refine XS.iloadN X.here hx rfl (hb hby d3_5) rfl ?_
    show Steps p.tables e below (T.setTop (mkF m 6 #[.val (.ref d), .val (.int x1), .val (.int i.toInt32), .val (.int n.toInt32)] [(.int i.toInt32)])) _
    refine XS.iloadN X.here hx rfl (hb hby d3_6) rfl ?_
    show Steps p.tables e below (T.setTop (mkF m 7 #[.val (.ref d), .val (.int x1), .val (.int i.toInt32), .val (.int n.toInt32)] [(.int n.toInt32), (.int i.toInt32)])) _
    refine XS.icmpNo X.here hx rfl (hb hby d3_7) rfl (tlt (by rw [Int32.lt_iff_toInt_lt]; omega : i.toInt32 < n.toInt32)).2.1 ?_
    show Steps p.tables e below (T.setTop (mkF m 10 #[.val (.ref d), .val (.int x1), .val (.int i.toInt32), .val (.int n.toInt32)] [])) _
    refine XS.aloadN X.here hx rfl (hb hby d3_10) rfl rfl ?_
    show Steps p.tables e below (T.setTop (mkF m 11 #[.val (.ref d), .val (.int x1), .val (.int i.toInt32), .val (.int n.toInt32)] [(.ref d)])) _
    refine XS.iloadN X.here hx rfl (hb hby d3_11) rfl ?_
    show Steps p.tables e below (T.setTop (mkF m 12 #[.val (.ref d), .val (.int x1), .val (.int i.toInt32), .val (.int n.toInt32)] [(.int i.toInt32), (.ref d)])) _
    refine XS.iloadN X.here hx rfl (hb hby d3_12) rfl ?_
    show Steps p.tables e below (T.setTop (mkF m 13 #[.val (.ref d), .val (.int x1), .val (.int i.toInt32), .val (.int n.toInt32)] [(.int x1), (.int i.toInt32), (.ref d)])) _
    refine st1 _ ?_
    show Steps p.tables e below (T1.setTop (mkF m 14 #[.val (.ref d), .val (.int x1), .val (.int i.toInt32), .val (.int n.toInt32)] [])) _
    refine XS.iinc X1.here hx rfl (hb hby d3_14) rfl (l' := #[.val (.ref d), .val (.int x1), .val (.int (i + 1).toInt32), .val (.int n.toInt32)]) (by rw [inc]; rfl) ?_
    show Steps p.tables e below (T1.setTop (mkF m 17 #[.val (.ref d), .val (.int x1), .val (.int (i + 1).toInt32), .val (.int n.toInt32)] [])) _
    refine XS.goto X1.here hx rfl (pc0 := 17) (pc' := 5) rfl (hb hby d3_17) (by decide) (by decide) ?_
    show Steps p.tables e below (T1.setTop (mkF m 5 #[.val (.ref d), .val (.int x1), .val (.int (i + 1).toInt32), .val (.int n.toInt32)] [])) _
    exact st' _ kt
def QFl (Z : State) (d : Addr) (x1 : Int32) (n : Nat) (h0 : Heap) (n0 : Nat) (v : Option Value) (h : Heap) (L : List Loc) : Prop := v = none ∧ Fr n0 L ∧ Keep h0 h [d] ∧ IA Z h d n (fun _ => x1)
theorem ef_fill (m : MethodId) (x0 : Addr) (x1 : Int32) : entryFrame m #[(.ref x0), (.int x1)] 4 = mkF m 0 #[.val (.ref x0), .val (.int x1), .unset, .unset] [] := by first | (simp [entryFrame, mkF, argsToLocals, Value.category]; done) | rfl
theorem rfill (l : Launch) (Z : State) (a0 : Array Value) (hw : ∀ d ∈ tables_1, d.before a0 Z = true) (ws : List Jvm.Cond) (d : Addr) (x1 : Int32) (n : Nat) (f : Nat → Int32) (h0 : Heap) (n0 : Nat) (Z0 : n0 ≤ h0.size) (hn : n < 2 ^ 31) (V : IA Z h0 d n f) (gd : n0 ≤ d) :
    MetFree l (⟨"java/util/Arrays", "fill", "([II)V"⟩ : MethodName) (head1 (Jvm.Cond.code (⟨"java/util/Arrays", "fill", "([II)V"⟩ : MethodName) jdk_65_method_103_code 4 none :: ws) ({ frames := 0, cells := 0, slots := 0, locals := 0 } : Room)) (fun zA zU => zA = #[(.ref d), (.int x1)] ∧ Z.Warmed39 zU.vm ∧ zU.heap = h0) (fun _ _ _ _ _ => True) (fun _ zU zO zW => ∃ zV zL, zO = .returned zV ∧ QFl Z d x1 n h0 n0 zV zW.heap zL ∧ FrameEnd zU zO zW zL ({ frames := 0, cells := 0, slots := 0, locals := 0 } : Room).cells ({ frames := 0, cells := 0, slots := 0, locals := 0 } : Room).slots) := by
  refine MetFree.of_bodySF (plainFor_of_name pn_Arrays) hisR ?_
  intro p e s m args below meth c s₁ Bd hml0 hP hK
  obtain ⟨rfl, hZ, hh⟩ := hP
  have hx := Bd.exec
  have hby := Bd.bytes
  have X0 : Stand p l e ({ frames := 0, cells := 0, slots := 0, locals := 0 } : Room) s m #[(.ref d), (.int x1)] below meth c s₁ [] 0 0 := Stand.of_body Bd
  have e0 : s₁.heap = h0 := by rw [← hh, Bd.state]; rfl
  obtain ⟨T', locs', h', X', e', N', V', K', st'⟩ := fillLoop hx hZ hby d x1 n hn n0 gd n 0 s₁ [] h0 f (Nat.zero_add _) X0 e0 (Fr.nil n0) V (fun j hj => absurd hj (Nat.not_lt_zero _))
  obtain ⟨cl, Ar, Sz, Hz⟩ := V
  obtain ⟨fs, hr, hrun, hended, hW, hsame⟩ := X'.leave (v := none) (fun _ => rfl)
  refine ⟨_, _, castTop (ef_fill m d x1) ?_, hrun, hended, _, _, rfl, ?_, ⟨_, rfl⟩, hW, hsame.mono (by decide) (by decide)⟩
  · show Steps p.tables e below (s₁.setTop (mkF m 0 #[.val (.ref d), .val (.int x1), .unset, .unset] [])) _
    refine XS.iconst X0.here hx rfl (hb hby d3_0) ?_
    show Steps p.tables e below (s₁.setTop (mkF m 1 #[.val (.ref d), .val (.int x1), .unset, .unset] [(.int (0 : Int32))])) _
    refine XS.istoreN X0.here hx rfl (hb hby d3_1) rfl (l' := #[.val (.ref d), .val (.int x1), .val (.int (0 : Int32)), .unset]) rfl ?_
    show Steps p.tables e below (s₁.setTop (mkF m 2 #[.val (.ref d), .val (.int x1), .val (.int (0 : Int32)), .unset] [])) _
    refine XS.aloadN X0.here hx rfl (hb hby d3_2) rfl rfl ?_
    show Steps p.tables e below (s₁.setTop (mkF m 3 #[.val (.ref d), .val (.int x1), .val (.int (0 : Int32)), .unset] [(.ref d)])) _
    refine X0.arraylength hx (by rw [e0]; exact Ar.1) (State.isArrayOf_alike hZ.alike Ar.2.1) (g := (mkF m 3 #[.val (.ref d), .val (.int x1), .val (.int (0 : Int32)), .unset] [(.ref d)])) rfl rfl (hb hby d3_3) _ ?_
    rw [Sz]
    show Steps p.tables e below (s₁.setTop (mkF m 4 #[.val (.ref d), .val (.int x1), .val (.int (0 : Int32)), .unset] [(.int n.toInt32)])) _
    refine XS.istoreN X0.here hx rfl (hb hby d3_4) rfl (l' := #[.val (.ref d), .val (.int x1), .val (.int (0 : Int32)), .val (.int n.toInt32)]) rfl ?_
    refine st' _ ?_
    exact X'.returnOut hx Bd.returns (hb hby d3_20) hr
  · show QFl Z d x1 n h0 n0 _ T'.heap _
    rw [e']
    exact ⟨rfl, N', K', V'⟩
def QI (Z : State) (cn : Addr) (h0 : Heap) (n0 : Nat) (v : Option Value) (h : Heap) (L : List Loc) : Prop := ∃ vs lo hi tb ca : Addr, v = none ∧ Fr n0 L ∧ Keep h0 h [cn] ∧ DS n0 cn vs lo hi tb ca ∧ CS Z h cn vs lo hi tb ca 2 0 (upd (upd (fun _ => (0 : Int32)) 0 (2147483647 : Int32)) 1 (2147483647 : Int32)) (fun _ => (0 : Int32)) (fun _ => (0 : Int32)) (fun _ => (-1 : Int32)) (fun _ => (-1 : Int32))
theorem d1_0 : decode prog_13_method_1_code 0 = .ok (.aload_n 0, 1) := by decide +kernel
theorem d1_1 : decode prog_13_method_1_code 1 = .ok (.invokespecial 3, 3) := by decide +kernel
theorem d1_4 : decode prog_13_method_1_code 4 = .ok (.aload_n 0, 1) := by decide +kernel
theorem d1_5 : decode prog_13_method_1_code 5 = .ok (.sipush 1024, 3) := by decide +kernel
theorem d1_8 : decode prog_13_method_1_code 8 = .ok (.newarray .int, 2) := by decide +kernel
theorem d1_10 : decode prog_13_method_1_code 10 = .ok (.putfield 9, 3) := by decide +kernel
theorem d1_13 : decode prog_13_method_1_code 13 = .ok (.aload_n 0, 1) := by decide +kernel
theorem d1_14 : decode prog_13_method_1_code 14 = .ok (.sipush 1024, 3) := by decide +kernel
theorem d1_17 : decode prog_13_method_1_code 17 = .ok (.newarray .int, 2) := by decide +kernel
theorem d1_19 : decode prog_13_method_1_code 19 = .ok (.putfield 15, 3) := by decide +kernel
theorem d1_22 : decode prog_13_method_1_code 22 = .ok (.aload_n 0, 1) := by decide +kernel
theorem d1_23 : decode prog_13_method_1_code 23 = .ok (.sipush 1024, 3) := by decide +kernel
theorem d1_26 : decode prog_13_method_1_code 26 = .ok (.newarray .int, 2) := by decide +kernel
theorem d1_28 : decode prog_13_method_1_code 28 = .ok (.putfield 18, 3) := by decide +kernel
theorem d1_31 : decode prog_13_method_1_code 31 = .ok (.aload_n 0, 1) := by decide +kernel
theorem d1_32 : decode prog_13_method_1_code 32 = .ok (.sipush 2048, 3) := by decide +kernel
theorem d1_35 : decode prog_13_method_1_code 35 = .ok (.newarray .int, 2) := by decide +kernel
theorem d1_37 : decode prog_13_method_1_code 37 = .ok (.putfield 21, 3) := by decide +kernel
theorem d1_40 : decode prog_13_method_1_code 40 = .ok (.aload_n 0, 1) := by decide +kernel
theorem d1_41 : decode prog_13_method_1_code 41 = .ok (.sipush 16384, 3) := by decide +kernel
theorem d1_44 : decode prog_13_method_1_code 44 = .ok (.newarray .int, 2) := by decide +kernel
theorem d1_46 : decode prog_13_method_1_code 46 = .ok (.putfield 24, 3) := by decide +kernel
theorem d1_49 : decode prog_13_method_1_code 49 = .ok (.aload_n 0, 1) := by decide +kernel
theorem d1_50 : decode prog_13_method_1_code 50 = .ok (.iload_n 1, 1) := by decide +kernel
theorem d1_51 : decode prog_13_method_1_code 51 = .ok (.putfield 27, 3) := by decide +kernel
theorem d1_54 : decode prog_13_method_1_code 54 = .ok (.aload_n 0, 1) := by decide +kernel
theorem d1_55 : decode prog_13_method_1_code 55 = .ok (.getfield 21, 3) := by decide +kernel
theorem d1_58 : decode prog_13_method_1_code 58 = .ok (.iconst (-1), 1) := by decide +kernel
theorem d1_59 : decode prog_13_method_1_code 59 = .ok (.invokestatic 31, 3) := by decide +kernel
theorem pd_0 : parseMethodDescriptor "([II)V" = some ⟨[(.array .int), .int], none⟩ := by decide +kernel
theorem d1_62 : decode prog_13_method_1_code 62 = .ok (.aload_n 0, 1) := by decide +kernel
theorem d1_63 : decode prog_13_method_1_code 63 = .ok (.getfield 24, 3) := by decide +kernel
theorem d1_66 : decode prog_13_method_1_code 66 = .ok (.iconst (-1), 1) := by decide +kernel
theorem d1_67 : decode prog_13_method_1_code 67 = .ok (.invokestatic 31, 3) := by decide +kernel
theorem d1_70 : decode prog_13_method_1_code 70 = .ok (.aload_n 0, 1) := by decide +kernel
theorem d1_71 : decode prog_13_method_1_code 71 = .ok (.getfield 9, 3) := by decide +kernel
theorem d1_74 : decode prog_13_method_1_code 74 = .ok (.iconst 0, 1) := by decide +kernel
theorem d1_75 : decode prog_13_method_1_code 75 = .ok (.ldc 37, 2) := by decide +kernel
theorem d1_77 : decode prog_13_method_1_code 77 = .ok (.iastore, 1) := by decide +kernel
theorem d1_78 : decode prog_13_method_1_code 78 = .ok (.aload_n 0, 1) := by decide +kernel
theorem d1_79 : decode prog_13_method_1_code 79 = .ok (.getfield 9, 3) := by decide +kernel
theorem d1_82 : decode prog_13_method_1_code 82 = .ok (.iconst 1, 1) := by decide +kernel
theorem d1_83 : decode prog_13_method_1_code 83 = .ok (.ldc 37, 2) := by decide +kernel
theorem d1_85 : decode prog_13_method_1_code 85 = .ok (.iastore, 1) := by decide +kernel
theorem d1_86 : decode prog_13_method_1_code 86 = .ok (.aload_n 0, 1) := by decide +kernel
theorem d1_87 : decode prog_13_method_1_code 87 = .ok (.iconst 2, 1) := by decide +kernel
theorem d1_88 : decode prog_13_method_1_code 88 = .ok (.putfield 38, 3) := by decide +kernel
theorem d1_91 : decode prog_13_method_1_code 91 = .ok (.return_, 1) := by decide +kernel
theorem ef_1_RI (m : MethodId) (x0 : Addr) (x1 : Int32) : entryFrame m #[(.ref x0), (.int x1)] 2 = mkF m 0 #[.val (.ref x0), .val (.int x1)] [] := by first | (simp [entryFrame, mkF, argsToLocals, Value.category]; done) | rfl
theorem pn_Conditions : plainName "com/example/sealed_paths/sealedpaths/core/Conditions" = true := by first | (simp [plainName, overriddenIn]; done) | decide +kernel
set_option maxRecDepth 65536 in
set_option maxHeartbeats 40000000 in
theorem rini (l : Launch) (Z : State) (a0 : Array Value) (hw : ∀ d ∈ tables_1, d.before a0 Z = true) (ws : List Jvm.Cond) (cn : Addr) (h0 : Heap) (n0 : Nat) (Z0 : n0 ≤ h0.size) (Ec : Exa Z h0 cn "com/example/sealed_paths/sealedpaths/core/Conditions") (F_variables : Fld Z h0 cn "com/example/sealed_paths/sealedpaths/core/Conditions" "variables" "[I" .null) (F_lows : Fld Z h0 cn "com/example/sealed_paths/sealedpaths/core/Conditions" "lows" "[I" .null) (F_highs : Fld Z h0 cn "com/example/sealed_paths/sealedpaths/core/Conditions" "highs" "[I" .null) (F_table : Fld Z h0 cn "com/example/sealed_paths/sealedpaths/core/Conditions" "table" "[I" .null) (F_cached : Fld Z h0 cn "com/example/sealed_paths/sealedpaths/core/Conditions" "cached" "[I" .null) (F_limit : Fld Z h0 cn "com/example/sealed_paths/sealedpaths/core/Conditions" "limit" "I" (.int (0 : Int32))) (F_size : Fld Z h0 cn "com/example/sealed_paths/sealedpaths/core/Conditions" "size" "I" (.int (0 : Int32))) (F_vc : Fld Z h0 cn "com/example/sealed_paths/sealedpaths/core/Conditions" "variableCount" "I" (.int (0 : Int32))) (g_cn : n0 ≤ cn) :
    MetFree l (⟨"com/example/sealed_paths/sealedpaths/core/Conditions", "<init>", "(I)V"⟩ : MethodName) (head1 (Jvm.Cond.code (⟨"com/example/sealed_paths/sealedpaths/core/Conditions", "<init>", "(I)V"⟩ : MethodName) prog_13_method_1_code 2 none :: ws) ({ frames := 1, cells := 5, slots := 21504, locals := 15 } : Room)) (fun zA zU => zA = #[(.ref cn), (.int (16 : Int32))] ∧ Z.Warmed39 zU.vm ∧ zU.heap = h0) (fun _ _ _ _ _ => True) (fun _ zU zO zW => ∃ zV zL, zO = .returned zV ∧ QI Z cn h0 n0 zV zW.heap zL ∧ FrameEnd zU zO zW zL ({ frames := 1, cells := 5, slots := 21504, locals := 15 } : Room).cells ({ frames := 1, cells := 5, slots := 21504, locals := 15 } : Room).slots) := by
  refine MetFree.of_bodySF (plainFor_of_name pn_Conditions) hisR ?_
  intro p e s m args below meth c s₁ Bd hml0 hP hK
  obtain ⟨rfl, hZ, hh⟩ := hP
  have hx := Bd.exec
  have hby := Bd.bytes
  have hml : c.maxLocals = 2 := hml0
  have hown : s.vm.findClass "com/example/sealed_paths/sealedpaths/core/Conditions" = some m.cls := findClass_of_methodNamed Bd.named
  have hnm := (name_of_methodNamed Bd.named Bd.method).1
  have X0 : Stand p l e ({ frames := 1, cells := 5, slots := 21504, locals := 15 } : Room) s m #[(.ref cn), (.int (16 : Int32))] below meth c s₁ [] 0 0 := Stand.of_body Bd
  have e0 : s₁.heap = h0 := by rw [← hh, Bd.state]; rfl
  have N0 := Fr.nil n0
  have pre0 : ∀ zt, Steps p.tables e below (s₁.setTop (mkF m 0 #[.val (.ref cn), .val (.int (16 : Int32))] [])) zt → Steps p.tables e below (s₁.setTop (entryFrame m #[(.ref cn), (.int (16 : Int32))] 2)) zt := fun zt zk => castTop (ef_1_RI m cn (16 : Int32)) zk
  obtain ⟨T1, X1, e1, st1⟩ := initO X0 hx hZ hown (hw _ (List.mem_of_getElem? (i := 6) rfl)) (hw _ (List.mem_of_getElem? (i := 7) rfl)) (hw _ (List.mem_of_getElem? (i := 8) rfl)) e0 (g := (mkF m 1 #[.val (.ref cn), .val (.int (16 : Int32))] [(.ref cn)])) rfl (by rw [hml]; rfl) rfl (hb hby d1_1) (by decide) (W := 0) (by show 2 * 0 + _ ≤ _; exact Nat.le_of_eq rfl) (by decide)
  obtain ⟨T2, h2, k2, X2, e2, E2, A2, st2⟩ := newP X1 hx hZ (hw _ (List.mem_of_getElem? (i := 9) rfl)) e1 (g := (mkF m 8 #[.val (.ref cn), .val (.int (16 : Int32))] [(.int (1024 : Int32)), (.ref cn)])) rfl (hb hby d1_8) rfl (by decide) (cap := 1024) (by decide) (by decide) (by decide) (by decide)
  obtain ⟨b2, g2⟩ : ∃ z, z = h0.size := ⟨_, rfl⟩
  rw [← g2] at A2 st2
  have gz2 : n0 ≤ b2 := Nat.le_trans Z0 (Nat.le_of_eq g2.symm)
  have sz2 : h0.size ≤ b2 := Nat.le_trans (Keep.refl h0 [cn]).1 (Nat.le_of_eq g2.symm)
  have ne_cn_b2 : cn ≠ b2 := Nat.ne_of_lt (Nat.lt_of_lt_of_le F_variables.lt (Nat.le_of_eq g2.symm))
  have zF3 := F_variables.ext E2
  have zF4 := F_lows.ext E2
  have zF5 := F_highs.ext E2
  have zF6 := F_table.ext E2
  have zF7 := F_cached.ext E2
  have zF8 := F_limit.ext E2
  have zF9 := F_size.ext E2
  have zF10 := F_vc.ext E2
  have zE11 := Ec.ext E2
  have Z2 := Nat.le_trans Z0 E2.1
  have K2 := (Keep.refl h0 [cn]).ext E2
  have V2 := IA.new (n := 1024) A2 (by decide)
  obtain ⟨T12, h12, X12, e12, W12, st12⟩ := putF X2 hx hZ hown (host := "") (Or.inl (hw _ (List.mem_of_getElem? (i := 10) rfl))) Via.refl e2 zF3 zE11 (Or.inl (hw _ (List.mem_of_getElem? (i := 11) rfl))) (hw _ (List.mem_of_getElem? (i := 1) rfl)) (ty := (.array .int)) (by decide) rfl rfl (g := (mkF m 10 #[.val (.ref cn), .val (.int (16 : Int32))] [(.ref b2), (.ref cn)])) rfl rfl (hb hby d1_10)
  have N12 := Fr.snoc X12 N0 g_cn
  have zF13 := zF3.same W12
  have zF14 := zF4.other W12 (Or.inr (slot_ne (Or.inl (hw _ (List.mem_of_getElem? (i := 13) rfl))) (Or.inl (hw _ (List.mem_of_getElem? (i := 11) rfl))) (by decide) (t := (.array .int)) (t' := (.array .int)) (by decide) (by decide)))
  have zF15 := zF5.other W12 (Or.inr (slot_ne (Or.inl (hw _ (List.mem_of_getElem? (i := 15) rfl))) (Or.inl (hw _ (List.mem_of_getElem? (i := 11) rfl))) (by decide) (t := (.array .int)) (t' := (.array .int)) (by decide) (by decide)))
  have zF16 := zF6.other W12 (Or.inr (slot_ne (Or.inl (hw _ (List.mem_of_getElem? (i := 17) rfl))) (Or.inl (hw _ (List.mem_of_getElem? (i := 11) rfl))) (by decide) (t := (.array .int)) (t' := (.array .int)) (by decide) (by decide)))
  have zF17 := zF7.other W12 (Or.inr (slot_ne (Or.inl (hw _ (List.mem_of_getElem? (i := 19) rfl))) (Or.inl (hw _ (List.mem_of_getElem? (i := 11) rfl))) (by decide) (t := (.array .int)) (t' := (.array .int)) (by decide) (by decide)))
  have zF18 := zF8.other W12 (Or.inr (slot_ne (Or.inr (hw _ (List.mem_of_getElem? (i := 21) rfl))) (Or.inl (hw _ (List.mem_of_getElem? (i := 11) rfl))) (by decide) (t := .int) (t' := (.array .int)) (by decide) (by decide)))
  have zF19 := zF9.other W12 (Or.inr (slot_ne (Or.inl (hw _ (List.mem_of_getElem? (i := 28) rfl))) (Or.inl (hw _ (List.mem_of_getElem? (i := 11) rfl))) (by decide) (t := .int) (t' := (.array .int)) (by decide) (by decide)))
  have zF20 := zF10.other W12 (Or.inr (slot_ne (Or.inl (hw _ (List.mem_of_getElem? (i := 35) rfl))) (Or.inl (hw _ (List.mem_of_getElem? (i := 11) rfl))) (by decide) (t := .int) (t' := (.array .int)) (by decide) (by decide)))
  have zE21 := zE11.wr W12
  have zA22 := V2.other W12 (Ne.symm ne_cn_b2)
  have Z12 := Nat.le_trans Z2 (Keep.of_wr W12).1
  have K12 := K2.wr W12 (Or.inl (List.mem_of_getElem? (i := 0) rfl))
  obtain ⟨T23, h23, k23, X23, e23, E23, A23, st23⟩ := newP X12 hx hZ (hw _ (List.mem_of_getElem? (i := 9) rfl)) e12 (g := (mkF m 17 #[.val (.ref cn), .val (.int (16 : Int32))] [(.int (1024 : Int32)), (.ref cn)])) rfl (hb hby d1_17) rfl (by decide) (cap := 1024) (by decide) (by decide) (by decide) (by decide)
  obtain ⟨b23, g23⟩ : ∃ z, z = h12.size := ⟨_, rfl⟩
  rw [← g23] at A23 st23
  have gz23 : n0 ≤ b23 := Nat.le_trans Z12 (Nat.le_of_eq g23.symm)
  have sz23 : h0.size ≤ b23 := Nat.le_trans K12.1 (Nat.le_of_eq g23.symm)
  have ne_cn_b23 : cn ≠ b23 := Nat.ne_of_lt (Nat.lt_of_lt_of_le zF13.lt (Nat.le_of_eq g23.symm))
  have ne_b2_b23 : b2 ≠ b23 := Nat.ne_of_lt (Nat.lt_of_lt_of_le zA22.lt (Nat.le_of_eq g23.symm))
  have zF24 := zF13.ext E23
  have zF25 := zF14.ext E23
  have zF26 := zF15.ext E23
  have zF27 := zF16.ext E23
  have zF28 := zF17.ext E23
  have zF29 := zF18.ext E23
  have zF30 := zF19.ext E23
  have zF31 := zF20.ext E23
  have zE32 := zE21.ext E23
  have zA33 := zA22.ext E23
  have Z23 := Nat.le_trans Z12 E23.1
  have K23 := K12.ext E23
  have V23 := IA.new (n := 1024) A23 (by decide)
  obtain ⟨T34, h34, X34, e34, W34, st34⟩ := putF X23 hx hZ hown (host := "") (Or.inl (hw _ (List.mem_of_getElem? (i := 12) rfl))) Via.refl e23 zF25 zE32 (Or.inl (hw _ (List.mem_of_getElem? (i := 13) rfl))) (hw _ (List.mem_of_getElem? (i := 1) rfl)) (ty := (.array .int)) (by decide) rfl rfl (g := (mkF m 19 #[.val (.ref cn), .val (.int (16 : Int32))] [(.ref b23), (.ref cn)])) rfl rfl (hb hby d1_19)
  have N34 := Fr.snoc X34 N12 g_cn
  have zF35 := zF24.other W34 (Or.inr (slot_ne (Or.inl (hw _ (List.mem_of_getElem? (i := 11) rfl))) (Or.inl (hw _ (List.mem_of_getElem? (i := 13) rfl))) (by decide) (t := (.array .int)) (t' := (.array .int)) (by decide) (by decide)))
  have zF36 := zF25.same W34
  have zF37 := zF26.other W34 (Or.inr (slot_ne (Or.inl (hw _ (List.mem_of_getElem? (i := 15) rfl))) (Or.inl (hw _ (List.mem_of_getElem? (i := 13) rfl))) (by decide) (t := (.array .int)) (t' := (.array .int)) (by decide) (by decide)))
  have zF38 := zF27.other W34 (Or.inr (slot_ne (Or.inl (hw _ (List.mem_of_getElem? (i := 17) rfl))) (Or.inl (hw _ (List.mem_of_getElem? (i := 13) rfl))) (by decide) (t := (.array .int)) (t' := (.array .int)) (by decide) (by decide)))
  have zF39 := zF28.other W34 (Or.inr (slot_ne (Or.inl (hw _ (List.mem_of_getElem? (i := 19) rfl))) (Or.inl (hw _ (List.mem_of_getElem? (i := 13) rfl))) (by decide) (t := (.array .int)) (t' := (.array .int)) (by decide) (by decide)))
  have zF40 := zF29.other W34 (Or.inr (slot_ne (Or.inr (hw _ (List.mem_of_getElem? (i := 21) rfl))) (Or.inl (hw _ (List.mem_of_getElem? (i := 13) rfl))) (by decide) (t := .int) (t' := (.array .int)) (by decide) (by decide)))
  have zF41 := zF30.other W34 (Or.inr (slot_ne (Or.inl (hw _ (List.mem_of_getElem? (i := 28) rfl))) (Or.inl (hw _ (List.mem_of_getElem? (i := 13) rfl))) (by decide) (t := .int) (t' := (.array .int)) (by decide) (by decide)))
  have zF42 := zF31.other W34 (Or.inr (slot_ne (Or.inl (hw _ (List.mem_of_getElem? (i := 35) rfl))) (Or.inl (hw _ (List.mem_of_getElem? (i := 13) rfl))) (by decide) (t := .int) (t' := (.array .int)) (by decide) (by decide)))
  have zE43 := zE32.wr W34
  have zA44 := zA33.other W34 (Ne.symm ne_cn_b2)
  have zA45 := V23.other W34 (Ne.symm ne_cn_b23)
  have Z34 := Nat.le_trans Z23 (Keep.of_wr W34).1
  have K34 := K23.wr W34 (Or.inl (List.mem_of_getElem? (i := 0) rfl))
  obtain ⟨T46, h46, k46, X46, e46, E46, A46, st46⟩ := newP X34 hx hZ (hw _ (List.mem_of_getElem? (i := 9) rfl)) e34 (g := (mkF m 26 #[.val (.ref cn), .val (.int (16 : Int32))] [(.int (1024 : Int32)), (.ref cn)])) rfl (hb hby d1_26) rfl (by decide) (cap := 1024) (by decide) (by decide) (by decide) (by decide)
  obtain ⟨b46, g46⟩ : ∃ z, z = h34.size := ⟨_, rfl⟩
  rw [← g46] at A46 st46
  have gz46 : n0 ≤ b46 := Nat.le_trans Z34 (Nat.le_of_eq g46.symm)
  have sz46 : h0.size ≤ b46 := Nat.le_trans K34.1 (Nat.le_of_eq g46.symm)
  have ne_cn_b46 : cn ≠ b46 := Nat.ne_of_lt (Nat.lt_of_lt_of_le zF35.lt (Nat.le_of_eq g46.symm))
  have ne_b2_b46 : b2 ≠ b46 := Nat.ne_of_lt (Nat.lt_of_lt_of_le zA44.lt (Nat.le_of_eq g46.symm))
  have ne_b23_b46 : b23 ≠ b46 := Nat.ne_of_lt (Nat.lt_of_lt_of_le zA45.lt (Nat.le_of_eq g46.symm))
  have zF47 := zF35.ext E46
  have zF48 := zF36.ext E46
  have zF49 := zF37.ext E46
  have zF50 := zF38.ext E46
  have zF51 := zF39.ext E46
  have zF52 := zF40.ext E46
  have zF53 := zF41.ext E46
  have zF54 := zF42.ext E46
  have zE55 := zE43.ext E46
  have zA56 := zA44.ext E46
  have zA57 := zA45.ext E46
  have Z46 := Nat.le_trans Z34 E46.1
  have K46 := K34.ext E46
  have V46 := IA.new (n := 1024) A46 (by decide)
  obtain ⟨T58, h58, X58, e58, W58, st58⟩ := putF X46 hx hZ hown (host := "") (Or.inl (hw _ (List.mem_of_getElem? (i := 14) rfl))) Via.refl e46 zF49 zE55 (Or.inl (hw _ (List.mem_of_getElem? (i := 15) rfl))) (hw _ (List.mem_of_getElem? (i := 1) rfl)) (ty := (.array .int)) (by decide) rfl rfl (g := (mkF m 28 #[.val (.ref cn), .val (.int (16 : Int32))] [(.ref b46), (.ref cn)])) rfl rfl (hb hby d1_28)
  have N58 := Fr.snoc X58 N34 g_cn
  have zF59 := zF47.other W58 (Or.inr (slot_ne (Or.inl (hw _ (List.mem_of_getElem? (i := 11) rfl))) (Or.inl (hw _ (List.mem_of_getElem? (i := 15) rfl))) (by decide) (t := (.array .int)) (t' := (.array .int)) (by decide) (by decide)))
  have zF60 := zF48.other W58 (Or.inr (slot_ne (Or.inl (hw _ (List.mem_of_getElem? (i := 13) rfl))) (Or.inl (hw _ (List.mem_of_getElem? (i := 15) rfl))) (by decide) (t := (.array .int)) (t' := (.array .int)) (by decide) (by decide)))
  have zF61 := zF49.same W58
  have zF62 := zF50.other W58 (Or.inr (slot_ne (Or.inl (hw _ (List.mem_of_getElem? (i := 17) rfl))) (Or.inl (hw _ (List.mem_of_getElem? (i := 15) rfl))) (by decide) (t := (.array .int)) (t' := (.array .int)) (by decide) (by decide)))
  have zF63 := zF51.other W58 (Or.inr (slot_ne (Or.inl (hw _ (List.mem_of_getElem? (i := 19) rfl))) (Or.inl (hw _ (List.mem_of_getElem? (i := 15) rfl))) (by decide) (t := (.array .int)) (t' := (.array .int)) (by decide) (by decide)))
  have zF64 := zF52.other W58 (Or.inr (slot_ne (Or.inr (hw _ (List.mem_of_getElem? (i := 21) rfl))) (Or.inl (hw _ (List.mem_of_getElem? (i := 15) rfl))) (by decide) (t := .int) (t' := (.array .int)) (by decide) (by decide)))
  have zF65 := zF53.other W58 (Or.inr (slot_ne (Or.inl (hw _ (List.mem_of_getElem? (i := 28) rfl))) (Or.inl (hw _ (List.mem_of_getElem? (i := 15) rfl))) (by decide) (t := .int) (t' := (.array .int)) (by decide) (by decide)))
  have zF66 := zF54.other W58 (Or.inr (slot_ne (Or.inl (hw _ (List.mem_of_getElem? (i := 35) rfl))) (Or.inl (hw _ (List.mem_of_getElem? (i := 15) rfl))) (by decide) (t := .int) (t' := (.array .int)) (by decide) (by decide)))
  have zE67 := zE55.wr W58
  have zA68 := zA56.other W58 (Ne.symm ne_cn_b2)
  have zA69 := zA57.other W58 (Ne.symm ne_cn_b23)
  have zA70 := V46.other W58 (Ne.symm ne_cn_b46)
  have Z58 := Nat.le_trans Z46 (Keep.of_wr W58).1
  have K58 := K46.wr W58 (Or.inl (List.mem_of_getElem? (i := 0) rfl))
  obtain ⟨T71, h71, k71, X71, e71, E71, A71, st71⟩ := newP X58 hx hZ (hw _ (List.mem_of_getElem? (i := 9) rfl)) e58 (g := (mkF m 35 #[.val (.ref cn), .val (.int (16 : Int32))] [(.int (2048 : Int32)), (.ref cn)])) rfl (hb hby d1_35) rfl (by decide) (cap := 2048) (by decide) (by decide) (by decide) (by decide)
  obtain ⟨b71, g71⟩ : ∃ z, z = h58.size := ⟨_, rfl⟩
  rw [← g71] at A71 st71
  have gz71 : n0 ≤ b71 := Nat.le_trans Z58 (Nat.le_of_eq g71.symm)
  have sz71 : h0.size ≤ b71 := Nat.le_trans K58.1 (Nat.le_of_eq g71.symm)
  have ne_cn_b71 : cn ≠ b71 := Nat.ne_of_lt (Nat.lt_of_lt_of_le zF59.lt (Nat.le_of_eq g71.symm))
  have ne_b2_b71 : b2 ≠ b71 := Nat.ne_of_lt (Nat.lt_of_lt_of_le zA68.lt (Nat.le_of_eq g71.symm))
  have ne_b23_b71 : b23 ≠ b71 := Nat.ne_of_lt (Nat.lt_of_lt_of_le zA69.lt (Nat.le_of_eq g71.symm))
  have ne_b46_b71 : b46 ≠ b71 := Nat.ne_of_lt (Nat.lt_of_lt_of_le zA70.lt (Nat.le_of_eq g71.symm))
  have zF72 := zF59.ext E71
  have zF73 := zF60.ext E71
  have zF74 := zF61.ext E71
  have zF75 := zF62.ext E71
  have zF76 := zF63.ext E71
  have zF77 := zF64.ext E71
  have zF78 := zF65.ext E71
  have zF79 := zF66.ext E71
  have zE80 := zE67.ext E71
  have zA81 := zA68.ext E71
  have zA82 := zA69.ext E71
  have zA83 := zA70.ext E71
  have Z71 := Nat.le_trans Z58 E71.1
  have K71 := K58.ext E71
  have V71 := IA.new (n := 2048) A71 (by decide)
  obtain ⟨T84, h84, X84, e84, W84, st84⟩ := putF X71 hx hZ hown (host := "") (Or.inl (hw _ (List.mem_of_getElem? (i := 16) rfl))) Via.refl e71 zF75 zE80 (Or.inl (hw _ (List.mem_of_getElem? (i := 17) rfl))) (hw _ (List.mem_of_getElem? (i := 1) rfl)) (ty := (.array .int)) (by decide) rfl rfl (g := (mkF m 37 #[.val (.ref cn), .val (.int (16 : Int32))] [(.ref b71), (.ref cn)])) rfl rfl (hb hby d1_37)
  have N84 := Fr.snoc X84 N58 g_cn
  have zF85 := zF72.other W84 (Or.inr (slot_ne (Or.inl (hw _ (List.mem_of_getElem? (i := 11) rfl))) (Or.inl (hw _ (List.mem_of_getElem? (i := 17) rfl))) (by decide) (t := (.array .int)) (t' := (.array .int)) (by decide) (by decide)))
  have zF86 := zF73.other W84 (Or.inr (slot_ne (Or.inl (hw _ (List.mem_of_getElem? (i := 13) rfl))) (Or.inl (hw _ (List.mem_of_getElem? (i := 17) rfl))) (by decide) (t := (.array .int)) (t' := (.array .int)) (by decide) (by decide)))
  have zF87 := zF74.other W84 (Or.inr (slot_ne (Or.inl (hw _ (List.mem_of_getElem? (i := 15) rfl))) (Or.inl (hw _ (List.mem_of_getElem? (i := 17) rfl))) (by decide) (t := (.array .int)) (t' := (.array .int)) (by decide) (by decide)))
  have zF88 := zF75.same W84
  have zF89 := zF76.other W84 (Or.inr (slot_ne (Or.inl (hw _ (List.mem_of_getElem? (i := 19) rfl))) (Or.inl (hw _ (List.mem_of_getElem? (i := 17) rfl))) (by decide) (t := (.array .int)) (t' := (.array .int)) (by decide) (by decide)))
  have zF90 := zF77.other W84 (Or.inr (slot_ne (Or.inr (hw _ (List.mem_of_getElem? (i := 21) rfl))) (Or.inl (hw _ (List.mem_of_getElem? (i := 17) rfl))) (by decide) (t := .int) (t' := (.array .int)) (by decide) (by decide)))
  have zF91 := zF78.other W84 (Or.inr (slot_ne (Or.inl (hw _ (List.mem_of_getElem? (i := 28) rfl))) (Or.inl (hw _ (List.mem_of_getElem? (i := 17) rfl))) (by decide) (t := .int) (t' := (.array .int)) (by decide) (by decide)))
  have zF92 := zF79.other W84 (Or.inr (slot_ne (Or.inl (hw _ (List.mem_of_getElem? (i := 35) rfl))) (Or.inl (hw _ (List.mem_of_getElem? (i := 17) rfl))) (by decide) (t := .int) (t' := (.array .int)) (by decide) (by decide)))
  have zE93 := zE80.wr W84
  have zA94 := zA81.other W84 (Ne.symm ne_cn_b2)
  have zA95 := zA82.other W84 (Ne.symm ne_cn_b23)
  have zA96 := zA83.other W84 (Ne.symm ne_cn_b46)
  have zA97 := V71.other W84 (Ne.symm ne_cn_b71)
  have Z84 := Nat.le_trans Z71 (Keep.of_wr W84).1
  have K84 := K71.wr W84 (Or.inl (List.mem_of_getElem? (i := 0) rfl))
  obtain ⟨T98, h98, k98, X98, e98, E98, A98, st98⟩ := newP X84 hx hZ (hw _ (List.mem_of_getElem? (i := 9) rfl)) e84 (g := (mkF m 44 #[.val (.ref cn), .val (.int (16 : Int32))] [(.int (16384 : Int32)), (.ref cn)])) rfl (hb hby d1_44) rfl (by decide) (cap := 16384) (by decide) (by decide) (by decide) (by decide)
  obtain ⟨b98, g98⟩ : ∃ z, z = h84.size := ⟨_, rfl⟩
  rw [← g98] at A98 st98
  have gz98 : n0 ≤ b98 := Nat.le_trans Z84 (Nat.le_of_eq g98.symm)
  have sz98 : h0.size ≤ b98 := Nat.le_trans K84.1 (Nat.le_of_eq g98.symm)
  have ne_cn_b98 : cn ≠ b98 := Nat.ne_of_lt (Nat.lt_of_lt_of_le zF85.lt (Nat.le_of_eq g98.symm))
  have ne_b2_b98 : b2 ≠ b98 := Nat.ne_of_lt (Nat.lt_of_lt_of_le zA94.lt (Nat.le_of_eq g98.symm))
  have ne_b23_b98 : b23 ≠ b98 := Nat.ne_of_lt (Nat.lt_of_lt_of_le zA95.lt (Nat.le_of_eq g98.symm))
  have ne_b46_b98 : b46 ≠ b98 := Nat.ne_of_lt (Nat.lt_of_lt_of_le zA96.lt (Nat.le_of_eq g98.symm))
  have ne_b71_b98 : b71 ≠ b98 := Nat.ne_of_lt (Nat.lt_of_lt_of_le zA97.lt (Nat.le_of_eq g98.symm))
  have zF99 := zF85.ext E98
  have zF100 := zF86.ext E98
  have zF101 := zF87.ext E98
  have zF102 := zF88.ext E98
  have zF103 := zF89.ext E98
  have zF104 := zF90.ext E98
  have zF105 := zF91.ext E98
  have zF106 := zF92.ext E98
  have zE107 := zE93.ext E98
  have zA108 := zA94.ext E98
  have zA109 := zA95.ext E98
  have zA110 := zA96.ext E98
  have zA111 := zA97.ext E98
  have Z98 := Nat.le_trans Z84 E98.1
  have K98 := K84.ext E98
  have V98 := IA.new (n := 16384) A98 (by decide)
  obtain ⟨T112, h112, X112, e112, W112, st112⟩ := putF X98 hx hZ hown (host := "") (Or.inl (hw _ (List.mem_of_getElem? (i := 18) rfl))) Via.refl e98 zF103 zE107 (Or.inl (hw _ (List.mem_of_getElem? (i := 19) rfl))) (hw _ (List.mem_of_getElem? (i := 1) rfl)) (ty := (.array .int)) (by decide) rfl rfl (g := (mkF m 46 #[.val (.ref cn), .val (.int (16 : Int32))] [(.ref b98), (.ref cn)])) rfl rfl (hb hby d1_46)
  have N112 := Fr.snoc X112 N84 g_cn
  have zF113 := zF99.other W112 (Or.inr (slot_ne (Or.inl (hw _ (List.mem_of_getElem? (i := 11) rfl))) (Or.inl (hw _ (List.mem_of_getElem? (i := 19) rfl))) (by decide) (t := (.array .int)) (t' := (.array .int)) (by decide) (by decide)))
  have zF114 := zF100.other W112 (Or.inr (slot_ne (Or.inl (hw _ (List.mem_of_getElem? (i := 13) rfl))) (Or.inl (hw _ (List.mem_of_getElem? (i := 19) rfl))) (by decide) (t := (.array .int)) (t' := (.array .int)) (by decide) (by decide)))
  have zF115 := zF101.other W112 (Or.inr (slot_ne (Or.inl (hw _ (List.mem_of_getElem? (i := 15) rfl))) (Or.inl (hw _ (List.mem_of_getElem? (i := 19) rfl))) (by decide) (t := (.array .int)) (t' := (.array .int)) (by decide) (by decide)))
  have zF116 := zF102.other W112 (Or.inr (slot_ne (Or.inl (hw _ (List.mem_of_getElem? (i := 17) rfl))) (Or.inl (hw _ (List.mem_of_getElem? (i := 19) rfl))) (by decide) (t := (.array .int)) (t' := (.array .int)) (by decide) (by decide)))
  have zF117 := zF103.same W112
  have zF118 := zF104.other W112 (Or.inr (slot_ne (Or.inr (hw _ (List.mem_of_getElem? (i := 21) rfl))) (Or.inl (hw _ (List.mem_of_getElem? (i := 19) rfl))) (by decide) (t := .int) (t' := (.array .int)) (by decide) (by decide)))
  have zF119 := zF105.other W112 (Or.inr (slot_ne (Or.inl (hw _ (List.mem_of_getElem? (i := 28) rfl))) (Or.inl (hw _ (List.mem_of_getElem? (i := 19) rfl))) (by decide) (t := .int) (t' := (.array .int)) (by decide) (by decide)))
  have zF120 := zF106.other W112 (Or.inr (slot_ne (Or.inl (hw _ (List.mem_of_getElem? (i := 35) rfl))) (Or.inl (hw _ (List.mem_of_getElem? (i := 19) rfl))) (by decide) (t := .int) (t' := (.array .int)) (by decide) (by decide)))
  have zE121 := zE107.wr W112
  have zA122 := zA108.other W112 (Ne.symm ne_cn_b2)
  have zA123 := zA109.other W112 (Ne.symm ne_cn_b23)
  have zA124 := zA110.other W112 (Ne.symm ne_cn_b46)
  have zA125 := zA111.other W112 (Ne.symm ne_cn_b71)
  have zA126 := V98.other W112 (Ne.symm ne_cn_b98)
  have Z112 := Nat.le_trans Z98 (Keep.of_wr W112).1
  have K112 := K98.wr W112 (Or.inl (List.mem_of_getElem? (i := 0) rfl))
  obtain ⟨T127, h127, X127, e127, W127, st127⟩ := putF X112 hx hZ hown (host := "") (Or.inl (hw _ (List.mem_of_getElem? (i := 20) rfl))) Via.refl e112 zF118 zE121 (Or.inr ⟨(hw _ (List.mem_of_getElem? (i := 21) rfl)), rfl, hnm⟩) (hw _ (List.mem_of_getElem? (i := 1) rfl)) (ty := .int) (by decide) rfl rfl (g := (mkF m 51 #[.val (.ref cn), .val (.int (16 : Int32))] [(.int (16 : Int32)), (.ref cn)])) rfl rfl (hb hby d1_51)
  have N127 := Fr.snoc X127 N112 g_cn
  have zF128 := zF113.other W127 (Or.inr (slot_ne (Or.inl (hw _ (List.mem_of_getElem? (i := 11) rfl))) (Or.inr (hw _ (List.mem_of_getElem? (i := 21) rfl))) (by decide) (t := (.array .int)) (t' := .int) (by decide) (by decide)))
  have zF129 := zF114.other W127 (Or.inr (slot_ne (Or.inl (hw _ (List.mem_of_getElem? (i := 13) rfl))) (Or.inr (hw _ (List.mem_of_getElem? (i := 21) rfl))) (by decide) (t := (.array .int)) (t' := .int) (by decide) (by decide)))
  have zF130 := zF115.other W127 (Or.inr (slot_ne (Or.inl (hw _ (List.mem_of_getElem? (i := 15) rfl))) (Or.inr (hw _ (List.mem_of_getElem? (i := 21) rfl))) (by decide) (t := (.array .int)) (t' := .int) (by decide) (by decide)))
  have zF131 := zF116.other W127 (Or.inr (slot_ne (Or.inl (hw _ (List.mem_of_getElem? (i := 17) rfl))) (Or.inr (hw _ (List.mem_of_getElem? (i := 21) rfl))) (by decide) (t := (.array .int)) (t' := .int) (by decide) (by decide)))
  have zF132 := zF117.other W127 (Or.inr (slot_ne (Or.inl (hw _ (List.mem_of_getElem? (i := 19) rfl))) (Or.inr (hw _ (List.mem_of_getElem? (i := 21) rfl))) (by decide) (t := (.array .int)) (t' := .int) (by decide) (by decide)))
  have zF133 := zF118.same W127
  have zF134 := zF119.other W127 (Or.inr (slot_ne (Or.inl (hw _ (List.mem_of_getElem? (i := 28) rfl))) (Or.inr (hw _ (List.mem_of_getElem? (i := 21) rfl))) (by decide) (t := .int) (t' := .int) (by decide) (by decide)))
  have zF135 := zF120.other W127 (Or.inr (slot_ne (Or.inl (hw _ (List.mem_of_getElem? (i := 35) rfl))) (Or.inr (hw _ (List.mem_of_getElem? (i := 21) rfl))) (by decide) (t := .int) (t' := .int) (by decide) (by decide)))
  have zE136 := zE121.wr W127
  have zA137 := zA122.other W127 (Ne.symm ne_cn_b2)
  have zA138 := zA123.other W127 (Ne.symm ne_cn_b23)
  have zA139 := zA124.other W127 (Ne.symm ne_cn_b46)
  have zA140 := zA125.other W127 (Ne.symm ne_cn_b71)
  have zA141 := zA126.other W127 (Ne.symm ne_cn_b98)
  have Z127 := Nat.le_trans Z112 (Keep.of_wr W127).1
  have K127 := K112.wr W127 (Or.inl (List.mem_of_getElem? (i := 0) rfl))
  obtain ⟨T142, X142, e142, st142⟩ := getF X127 hx hZ hown (host := "") (Or.inl (hw _ (List.mem_of_getElem? (i := 16) rfl))) Via.refl e127 zF131 (g := (mkF m 55 #[.val (.ref cn), .val (.int (16 : Int32))] [(.ref cn)])) rfl rfl (hb hby d1_55)
  obtain ⟨_, _, ⟨T143, L143, k143, n143⟩, -, X143, ⟨Lc143, hQ143, l143, y143, z143⟩, st143⟩ := Jvm.LawKit.callS X142 hx (y := (⟨"java/util/Arrays", "fill", "([II)V"⟩ : MethodName)) hown (mvT hZ (hw _ (List.mem_of_getElem? (i := 22) rfl))) (mvT hZ (hw _ (List.mem_of_getElem? (i := 23) rfl))) (mvT hZ (hw _ (List.mem_of_getElem? (i := 24) rfl))) (mvT hZ (hw _ (List.mem_of_getElem? (i := 25) rfl))) (by decide) (backOf (W := 0) (rfill l Z a0 hw [] b71 (-1 : Int32) 2048 (fun _ => (0 : Int32)) h127 n0 Z127 (by decide) zA140 gz71) hZ (hw _ (List.mem_of_getElem? (i := 25) rfl)) (hw _ (List.mem_of_getElem? (i := 24) rfl)) (by decide) (by decide)) (g := (mkF m 59 #[.val (.ref cn), .val (.int (16 : Int32))] [(.int (-1 : Int32)), (.ref b71)])) rfl (by rw [hml]; rfl) (argsL := [(.ref b71), (.int (-1 : Int32))]) (rest := []) (lenOf pd_0 rfl) rfl (by show 2 * 0 + _ ≤ _; exact Nat.le_of_eq rfl) (hb hby d1_59) (fun _ _ => ⟨rfl, e142, (by decide : 5 + 0 ≤ _), (by decide : 21504 + 0 ≤ _)⟩)
  dsimp only [Pt.U, Pt.locs, Pt.cells, Pt.slots] at X143 l143 y143 z143 st143 hQ143
  subst l143 y143 z143
  obtain ⟨rfl, Nq143, Kq143, G143_0⟩ := hQ143
  have N143 := Fr.app N127 Nq143
  have zF144 := zF128.keep Kq143 (ninS ne_cn_b71 nin0)
  have zF145 := zF129.keep Kq143 (ninS ne_cn_b71 nin0)
  have zF146 := zF130.keep Kq143 (ninS ne_cn_b71 nin0)
  have zF147 := zF131.keep Kq143 (ninS ne_cn_b71 nin0)
  have zF148 := zF132.keep Kq143 (ninS ne_cn_b71 nin0)
  have zF149 := zF133.keep Kq143 (ninS ne_cn_b71 nin0)
  have zF150 := zF134.keep Kq143 (ninS ne_cn_b71 nin0)
  have zF151 := zF135.keep Kq143 (ninS ne_cn_b71 nin0)
  have zE152 := zE136.keep Kq143
  have zA153 := zA137.keep Kq143 (ninS ne_b2_b71 nin0)
  have zA154 := zA138.keep Kq143 (ninS ne_b23_b71 nin0)
  have zA155 := zA139.keep Kq143 (ninS ne_b46_b71 nin0)
  have zA156 := zA141.keep Kq143 (ninS (Ne.symm ne_b71_b98) nin0)
  have Z143 := Nat.le_trans Z127 Kq143.1
  have K143 := K127.trans Kq143 (allS (Or.inr sz71) all0)
  obtain ⟨T157, X157, e157, st157⟩ := getF X143 hx hZ hown (host := "") (Or.inl (hw _ (List.mem_of_getElem? (i := 18) rfl))) Via.refl rfl zF148 (g := (mkF m 63 #[.val (.ref cn), .val (.int (16 : Int32))] [(.ref cn)])) rfl rfl (hb hby d1_63)
  obtain ⟨_, _, ⟨T158, L158, k158, n158⟩, -, X158, ⟨Lc158, hQ158, l158, y158, z158⟩, st158⟩ := Jvm.LawKit.callS X157 hx (y := (⟨"java/util/Arrays", "fill", "([II)V"⟩ : MethodName)) hown (mvT hZ (hw _ (List.mem_of_getElem? (i := 22) rfl))) (mvT hZ (hw _ (List.mem_of_getElem? (i := 23) rfl))) (mvT hZ (hw _ (List.mem_of_getElem? (i := 24) rfl))) (mvT hZ (hw _ (List.mem_of_getElem? (i := 25) rfl))) (by decide) (backOf (W := 0) (rfill l Z a0 hw [] b98 (-1 : Int32) 16384 (fun _ => (0 : Int32)) T143.heap n0 Z143 (by decide) zA156 gz98) hZ (hw _ (List.mem_of_getElem? (i := 25) rfl)) (hw _ (List.mem_of_getElem? (i := 24) rfl)) (by decide) (by decide)) (g := (mkF m 67 #[.val (.ref cn), .val (.int (16 : Int32))] [(.int (-1 : Int32)), (.ref b98)])) rfl (by rw [hml]; rfl) (argsL := [(.ref b98), (.int (-1 : Int32))]) (rest := []) (lenOf pd_0 rfl) rfl (by show 2 * 0 + _ ≤ _; exact Nat.le_of_eq rfl) (hb hby d1_67) (fun _ _ => ⟨rfl, e157, (by decide : 5 + 0 ≤ _), (by decide : 21504 + 0 ≤ _)⟩)
  dsimp only [Pt.U, Pt.locs, Pt.cells, Pt.slots] at X158 l158 y158 z158 st158 hQ158
  subst l158 y158 z158
  obtain ⟨rfl, Nq158, Kq158, G158_0⟩ := hQ158
  have N158 := Fr.app N143 Nq158
  have zF159 := zF144.keep Kq158 (ninS ne_cn_b98 nin0)
  have zF160 := zF145.keep Kq158 (ninS ne_cn_b98 nin0)
  have zF161 := zF146.keep Kq158 (ninS ne_cn_b98 nin0)
  have zF162 := zF147.keep Kq158 (ninS ne_cn_b98 nin0)
  have zF163 := zF148.keep Kq158 (ninS ne_cn_b98 nin0)
  have zF164 := zF149.keep Kq158 (ninS ne_cn_b98 nin0)
  have zF165 := zF150.keep Kq158 (ninS ne_cn_b98 nin0)
  have zF166 := zF151.keep Kq158 (ninS ne_cn_b98 nin0)
  have zE167 := zE152.keep Kq158
  have zA168 := zA153.keep Kq158 (ninS ne_b2_b98 nin0)
  have zA169 := zA154.keep Kq158 (ninS ne_b23_b98 nin0)
  have zA170 := zA155.keep Kq158 (ninS ne_b46_b98 nin0)
  have zA171 := G143_0.keep Kq158 (ninS ne_b71_b98 nin0)
  have Z158 := Nat.le_trans Z143 Kq158.1
  have K158 := K143.trans Kq158 (allS (Or.inr sz98) all0)
  obtain ⟨T172, X172, e172, st172⟩ := getF X158 hx hZ hown (host := "") (Or.inl (hw _ (List.mem_of_getElem? (i := 10) rfl))) Via.refl rfl zF159 (g := (mkF m 71 #[.val (.ref cn), .val (.int (16 : Int32))] [(.ref cn)])) rfl rfl (hb hby d1_71)
  obtain ⟨cl173, Ar173, Sz173, Hz173⟩ := id zA168
  have hin173 := IA.inb (j := (0 : Int32)) (i := 0) Sz173 (by decide) (by decide) (by decide)
  obtain ⟨T174, h174, X174, e174, W174, st174⟩ := stI X172 hx hZ e172 Ar173 (j := (0 : Int32)) hin173 (g := (mkF m 77 #[.val (.ref cn), .val (.int (16 : Int32))] [(.int (2147483647 : Int32)), (.int (0 : Int32)), (.ref b2)])) rfl rfl (hb hby d1_77)
  have V174 : IA Z h174 b2 1024 (upd (fun _ => (0 : Int32)) 0 (2147483647 : Int32)) := IA.set Ar173 Sz173 Hz173 W174 (by decide) (by decide)
  have N174 := Fr.snoc X174 N158 gz2
  have zF175 := zF159.other W174 (Or.inl ne_cn_b2)
  have zF176 := zF160.other W174 (Or.inl ne_cn_b2)
  have zF177 := zF161.other W174 (Or.inl ne_cn_b2)
  have zF178 := zF162.other W174 (Or.inl ne_cn_b2)
  have zF179 := zF163.other W174 (Or.inl ne_cn_b2)
  have zF180 := zF164.other W174 (Or.inl ne_cn_b2)
  have zF181 := zF165.other W174 (Or.inl ne_cn_b2)
  have zF182 := zF166.other W174 (Or.inl ne_cn_b2)
  have zE183 := zE167.wr W174
  have zA184 := zA169.other W174 (Ne.symm ne_b2_b23)
  have zA185 := zA170.other W174 (Ne.symm ne_b2_b46)
  have zA186 := zA171.other W174 (Ne.symm ne_b2_b71)
  have zA187 := G158_0.other W174 (Ne.symm ne_b2_b98)
  have Z174 := Nat.le_trans Z158 (Keep.of_wr W174).1
  have K174 := K158.wr W174 (Or.inr sz2)
  obtain ⟨T188, X188, e188, st188⟩ := getF X174 hx hZ hown (host := "") (Or.inl (hw _ (List.mem_of_getElem? (i := 10) rfl))) Via.refl e174 zF175 (g := (mkF m 79 #[.val (.ref cn), .val (.int (16 : Int32))] [(.ref cn)])) rfl rfl (hb hby d1_79)
  obtain ⟨cl189, Ar189, Sz189, Hz189⟩ := id V174
  have hin189 := IA.inb (j := (1 : Int32)) (i := 1) Sz189 (by decide) (by decide) (by decide)
  obtain ⟨T190, h190, X190, e190, W190, st190⟩ := stI X188 hx hZ e188 Ar189 (j := (1 : Int32)) hin189 (g := (mkF m 85 #[.val (.ref cn), .val (.int (16 : Int32))] [(.int (2147483647 : Int32)), (.int (1 : Int32)), (.ref b2)])) rfl rfl (hb hby d1_85)
  have V190 : IA Z h190 b2 1024 (upd (upd (fun _ => (0 : Int32)) 0 (2147483647 : Int32)) 1 (2147483647 : Int32)) := IA.set Ar189 Sz189 Hz189 W190 (by decide) (by decide)
  have N190 := Fr.snoc X190 N174 gz2
  have zF191 := zF175.other W190 (Or.inl ne_cn_b2)
  have zF192 := zF176.other W190 (Or.inl ne_cn_b2)
  have zF193 := zF177.other W190 (Or.inl ne_cn_b2)
  have zF194 := zF178.other W190 (Or.inl ne_cn_b2)
  have zF195 := zF179.other W190 (Or.inl ne_cn_b2)
  have zF196 := zF180.other W190 (Or.inl ne_cn_b2)
  have zF197 := zF181.other W190 (Or.inl ne_cn_b2)
  have zF198 := zF182.other W190 (Or.inl ne_cn_b2)
  have zE199 := zE183.wr W190
  have zA200 := zA184.other W190 (Ne.symm ne_b2_b23)
  have zA201 := zA185.other W190 (Ne.symm ne_b2_b46)
  have zA202 := zA186.other W190 (Ne.symm ne_b2_b71)
  have zA203 := zA187.other W190 (Ne.symm ne_b2_b98)
  have Z190 := Nat.le_trans Z174 (Keep.of_wr W190).1
  have K190 := K174.wr W190 (Or.inr sz2)
  obtain ⟨T204, h204, X204, e204, W204, st204⟩ := putF X190 hx hZ hown (host := "") (Or.inl (hw _ (List.mem_of_getElem? (i := 27) rfl))) Via.refl e190 zF197 zE199 (Or.inl (hw _ (List.mem_of_getElem? (i := 28) rfl))) (hw _ (List.mem_of_getElem? (i := 1) rfl)) (ty := .int) (by decide) rfl rfl (g := (mkF m 88 #[.val (.ref cn), .val (.int (16 : Int32))] [(.int (2 : Int32)), (.ref cn)])) rfl rfl (hb hby d1_88)
  have N204 := Fr.snoc X204 N190 g_cn
  have zF205 := zF191.other W204 (Or.inr (slot_ne (Or.inl (hw _ (List.mem_of_getElem? (i := 11) rfl))) (Or.inl (hw _ (List.mem_of_getElem? (i := 28) rfl))) (by decide) (t := (.array .int)) (t' := .int) (by decide) (by decide)))
  have zF206 := zF192.other W204 (Or.inr (slot_ne (Or.inl (hw _ (List.mem_of_getElem? (i := 13) rfl))) (Or.inl (hw _ (List.mem_of_getElem? (i := 28) rfl))) (by decide) (t := (.array .int)) (t' := .int) (by decide) (by decide)))
  have zF207 := zF193.other W204 (Or.inr (slot_ne (Or.inl (hw _ (List.mem_of_getElem? (i := 15) rfl))) (Or.inl (hw _ (List.mem_of_getElem? (i := 28) rfl))) (by decide) (t := (.array .int)) (t' := .int) (by decide) (by decide)))
  have zF208 := zF194.other W204 (Or.inr (slot_ne (Or.inl (hw _ (List.mem_of_getElem? (i := 17) rfl))) (Or.inl (hw _ (List.mem_of_getElem? (i := 28) rfl))) (by decide) (t := (.array .int)) (t' := .int) (by decide) (by decide)))
  have zF209 := zF195.other W204 (Or.inr (slot_ne (Or.inl (hw _ (List.mem_of_getElem? (i := 19) rfl))) (Or.inl (hw _ (List.mem_of_getElem? (i := 28) rfl))) (by decide) (t := (.array .int)) (t' := .int) (by decide) (by decide)))
  have zF210 := zF196.other W204 (Or.inr (slot_ne (Or.inr (hw _ (List.mem_of_getElem? (i := 21) rfl))) (Or.inl (hw _ (List.mem_of_getElem? (i := 28) rfl))) (by decide) (t := .int) (t' := .int) (by decide) (by decide)))
  have zF211 := zF197.same W204
  have zF212 := zF198.other W204 (Or.inr (slot_ne (Or.inl (hw _ (List.mem_of_getElem? (i := 35) rfl))) (Or.inl (hw _ (List.mem_of_getElem? (i := 28) rfl))) (by decide) (t := .int) (t' := .int) (by decide) (by decide)))
  have zE213 := zE199.wr W204
  have zA214 := zA200.other W204 (Ne.symm ne_cn_b23)
  have zA215 := zA201.other W204 (Ne.symm ne_cn_b46)
  have zA216 := zA202.other W204 (Ne.symm ne_cn_b71)
  have zA217 := zA203.other W204 (Ne.symm ne_cn_b98)
  have zA218 := V190.other W204 (Ne.symm ne_cn_b2)
  have Z204 := Nat.le_trans Z190 (Keep.of_wr W204).1
  have K204 := K190.wr W204 (Or.inl (List.mem_of_getElem? (i := 0) rfl))
  obtain ⟨fs, hr, hrun, hended, hW, hsame⟩ := X204.leave (v := none) (fun _ => rfl)
  refine ⟨_, _, pre0 _ ?_, hrun, hended, _, _, rfl, ?_, ⟨_, rfl⟩, hW, hsame.mono (by decide) (by decide)⟩
  · show Steps p.tables e below (s₁.setTop (mkF m 0 #[.val (.ref cn), .val (.int (16 : Int32))] [])) _
    refine XS.aloadN X0.here hx rfl (hb hby d1_0) rfl rfl ?_
    show Steps p.tables e below (s₁.setTop (mkF m 1 #[.val (.ref cn), .val (.int (16 : Int32))] [(.ref cn)])) _
    refine st1 _ ?_
    show Steps p.tables e below (T1.setTop (mkF m 4 #[.val (.ref cn), .val (.int (16 : Int32))] [])) _
    refine XS.aloadN X1.here hx rfl (hb hby d1_4) rfl rfl ?_
    show Steps p.tables e below (T1.setTop (mkF m 5 #[.val (.ref cn), .val (.int (16 : Int32))] [(.ref cn)])) _
    refine XS.sipush X1.here hx rfl (hb hby d1_5) ?_
    show Steps p.tables e below (T1.setTop (mkF m 8 #[.val (.ref cn), .val (.int (16 : Int32))] [(.int (1024 : Int32)), (.ref cn)])) _
    refine st2 _ ?_
    show Steps p.tables e below (T2.setTop (mkF m 10 #[.val (.ref cn), .val (.int (16 : Int32))] [(.ref b2), (.ref cn)])) _
    refine st12 _ ?_
    show Steps p.tables e below (T12.setTop (mkF m 13 #[.val (.ref cn), .val (.int (16 : Int32))] [])) _
    refine XS.aloadN X12.here hx rfl (hb hby d1_13) rfl rfl ?_
    show Steps p.tables e below (T12.setTop (mkF m 14 #[.val (.ref cn), .val (.int (16 : Int32))] [(.ref cn)])) _
    refine XS.sipush X12.here hx rfl (hb hby d1_14) ?_
    show Steps p.tables e below (T12.setTop (mkF m 17 #[.val (.ref cn), .val (.int (16 : Int32))] [(.int (1024 : Int32)), (.ref cn)])) _
    refine st23 _ ?_
    show Steps p.tables e below (T23.setTop (mkF m 19 #[.val (.ref cn), .val (.int (16 : Int32))] [(.ref b23), (.ref cn)])) _
    refine st34 _ ?_
    show Steps p.tables e below (T34.setTop (mkF m 22 #[.val (.ref cn), .val (.int (16 : Int32))] [])) _
    refine XS.aloadN X34.here hx rfl (hb hby d1_22) rfl rfl ?_
    show Steps p.tables e below (T34.setTop (mkF m 23 #[.val (.ref cn), .val (.int (16 : Int32))] [(.ref cn)])) _
    refine XS.sipush X34.here hx rfl (hb hby d1_23) ?_
    show Steps p.tables e below (T34.setTop (mkF m 26 #[.val (.ref cn), .val (.int (16 : Int32))] [(.int (1024 : Int32)), (.ref cn)])) _
    refine st46 _ ?_
    show Steps p.tables e below (T46.setTop (mkF m 28 #[.val (.ref cn), .val (.int (16 : Int32))] [(.ref b46), (.ref cn)])) _
    refine st58 _ ?_
    show Steps p.tables e below (T58.setTop (mkF m 31 #[.val (.ref cn), .val (.int (16 : Int32))] [])) _
    refine XS.aloadN X58.here hx rfl (hb hby d1_31) rfl rfl ?_
    show Steps p.tables e below (T58.setTop (mkF m 32 #[.val (.ref cn), .val (.int (16 : Int32))] [(.ref cn)])) _
    refine XS.sipush X58.here hx rfl (hb hby d1_32) ?_
    show Steps p.tables e below (T58.setTop (mkF m 35 #[.val (.ref cn), .val (.int (16 : Int32))] [(.int (2048 : Int32)), (.ref cn)])) _
    refine st71 _ ?_
    show Steps p.tables e below (T71.setTop (mkF m 37 #[.val (.ref cn), .val (.int (16 : Int32))] [(.ref b71), (.ref cn)])) _
    refine st84 _ ?_
    show Steps p.tables e below (T84.setTop (mkF m 40 #[.val (.ref cn), .val (.int (16 : Int32))] [])) _
    refine XS.aloadN X84.here hx rfl (hb hby d1_40) rfl rfl ?_
    show Steps p.tables e below (T84.setTop (mkF m 41 #[.val (.ref cn), .val (.int (16 : Int32))] [(.ref cn)])) _
    refine XS.sipush X84.here hx rfl (hb hby d1_41) ?_
    show Steps p.tables e below (T84.setTop (mkF m 44 #[.val (.ref cn), .val (.int (16 : Int32))] [(.int (16384 : Int32)), (.ref cn)])) _
    refine st98 _ ?_
    show Steps p.tables e below (T98.setTop (mkF m 46 #[.val (.ref cn), .val (.int (16 : Int32))] [(.ref b98), (.ref cn)])) _
    refine st112 _ ?_
    show Steps p.tables e below (T112.setTop (mkF m 49 #[.val (.ref cn), .val (.int (16 : Int32))] [])) _
    refine XS.aloadN X112.here hx rfl (hb hby d1_49) rfl rfl ?_
    show Steps p.tables e below (T112.setTop (mkF m 50 #[.val (.ref cn), .val (.int (16 : Int32))] [(.ref cn)])) _
    refine XS.iloadN X112.here hx rfl (hb hby d1_50) rfl ?_
    show Steps p.tables e below (T112.setTop (mkF m 51 #[.val (.ref cn), .val (.int (16 : Int32))] [(.int (16 : Int32)), (.ref cn)])) _
    refine st127 _ ?_
    show Steps p.tables e below (T127.setTop (mkF m 54 #[.val (.ref cn), .val (.int (16 : Int32))] [])) _
    refine XS.aloadN X127.here hx rfl (hb hby d1_54) rfl rfl ?_
    show Steps p.tables e below (T127.setTop (mkF m 55 #[.val (.ref cn), .val (.int (16 : Int32))] [(.ref cn)])) _
    refine st142 _ ?_
    show Steps p.tables e below (T142.setTop (mkF m 58 #[.val (.ref cn), .val (.int (16 : Int32))] [(.ref b71)])) _
    refine XS.iconst X142.here hx rfl (hb hby d1_58) ?_
    show Steps p.tables e below (T142.setTop (mkF m 59 #[.val (.ref cn), .val (.int (16 : Int32))] [(.int (-1 : Int32)), (.ref b71)])) _
    refine st143 _ ?_
    show Steps p.tables e below (T143.setTop (mkF m 62 #[.val (.ref cn), .val (.int (16 : Int32))] [])) _
    refine XS.aloadN X143.here hx rfl (hb hby d1_62) rfl rfl ?_
    show Steps p.tables e below (T143.setTop (mkF m 63 #[.val (.ref cn), .val (.int (16 : Int32))] [(.ref cn)])) _
    refine st157 _ ?_
    show Steps p.tables e below (T157.setTop (mkF m 66 #[.val (.ref cn), .val (.int (16 : Int32))] [(.ref b98)])) _
    refine XS.iconst X157.here hx rfl (hb hby d1_66) ?_
    show Steps p.tables e below (T157.setTop (mkF m 67 #[.val (.ref cn), .val (.int (16 : Int32))] [(.int (-1 : Int32)), (.ref b98)])) _
    refine st158 _ ?_
    show Steps p.tables e below (T158.setTop (mkF m 70 #[.val (.ref cn), .val (.int (16 : Int32))] [])) _
    refine XS.aloadN X158.here hx rfl (hb hby d1_70) rfl rfl ?_
    show Steps p.tables e below (T158.setTop (mkF m 71 #[.val (.ref cn), .val (.int (16 : Int32))] [(.ref cn)])) _
    refine st172 _ ?_
    show Steps p.tables e below (T172.setTop (mkF m 74 #[.val (.ref cn), .val (.int (16 : Int32))] [(.ref b2)])) _
    refine XS.iconst X172.here hx rfl (hb hby d1_74) ?_
    show Steps p.tables e below (T172.setTop (mkF m 75 #[.val (.ref cn), .val (.int (16 : Int32))] [(.int (0 : Int32)), (.ref b2)])) _
    refine X172.ldcInt hx hown (mvT hZ (hw _ (List.mem_of_getElem? (i := 26) rfl))) (g := (mkF m 75 #[.val (.ref cn), .val (.int (16 : Int32))] [(.int (0 : Int32)), (.ref b2)])) rfl (hb hby d1_75) _ ?_
    show Steps p.tables e below (T172.setTop (mkF m 77 #[.val (.ref cn), .val (.int (16 : Int32))] [(.int (2147483647 : Int32)), (.int (0 : Int32)), (.ref b2)])) _
    refine st174 _ ?_
    show Steps p.tables e below (T174.setTop (mkF m 78 #[.val (.ref cn), .val (.int (16 : Int32))] [])) _
    refine XS.aloadN X174.here hx rfl (hb hby d1_78) rfl rfl ?_
    show Steps p.tables e below (T174.setTop (mkF m 79 #[.val (.ref cn), .val (.int (16 : Int32))] [(.ref cn)])) _
    refine st188 _ ?_
    show Steps p.tables e below (T188.setTop (mkF m 82 #[.val (.ref cn), .val (.int (16 : Int32))] [(.ref b2)])) _
    refine XS.iconst X188.here hx rfl (hb hby d1_82) ?_
    show Steps p.tables e below (T188.setTop (mkF m 83 #[.val (.ref cn), .val (.int (16 : Int32))] [(.int (1 : Int32)), (.ref b2)])) _
    refine X188.ldcInt hx hown (mvT hZ (hw _ (List.mem_of_getElem? (i := 26) rfl))) (g := (mkF m 83 #[.val (.ref cn), .val (.int (16 : Int32))] [(.int (1 : Int32)), (.ref b2)])) rfl (hb hby d1_83) _ ?_
    show Steps p.tables e below (T188.setTop (mkF m 85 #[.val (.ref cn), .val (.int (16 : Int32))] [(.int (2147483647 : Int32)), (.int (1 : Int32)), (.ref b2)])) _
    refine st190 _ ?_
    show Steps p.tables e below (T190.setTop (mkF m 86 #[.val (.ref cn), .val (.int (16 : Int32))] [])) _
    refine XS.aloadN X190.here hx rfl (hb hby d1_86) rfl rfl ?_
    show Steps p.tables e below (T190.setTop (mkF m 87 #[.val (.ref cn), .val (.int (16 : Int32))] [(.ref cn)])) _
    refine XS.iconst X190.here hx rfl (hb hby d1_87) ?_
    show Steps p.tables e below (T190.setTop (mkF m 88 #[.val (.ref cn), .val (.int (16 : Int32))] [(.int (2 : Int32)), (.ref cn)])) _
    refine st204 _ ?_
    show Steps p.tables e below (T204.setTop (mkF m 91 #[.val (.ref cn), .val (.int (16 : Int32))] [])) _
    exact X204.returnOut hx Bd.returns (hb hby d1_91) hr
  · show QI Z cn h0 n0 _ T204.heap _
    rw [e204]
    exact ⟨b2, b23, b46, b71, b98, rfl, N204, K204, ⟨g_cn, gz2, gz23, gz46, gz71, gz98, ne_cn_b2, ne_cn_b23, ne_cn_b46, ne_cn_b71, ne_cn_b98, ne_b2_b23, ne_b2_b46, ne_b2_b71, ne_b2_b98, ne_b23_b46, ne_b23_b71, ne_b23_b98, ne_b46_b71, ne_b46_b98, ne_b71_b98⟩, ⟨zE213, zF205, zF206, zF207, zF208, zF209, zF210, zF211, zF212, zA218, zA214, zA215, zA216, zA217⟩⟩
theorem d6_0 : decode prog_13_method_14_code 0 = .ok (.iload_n 0, 1) := by decide +kernel
theorem d6_1 : decode prog_13_method_14_code 1 = .ok (.ldc 77, 2) := by decide +kernel
theorem d6_3 : decode prog_13_method_14_code 3 = .ok (.imul, 1) := by decide +kernel
theorem d6_4 : decode prog_13_method_14_code 4 = .ok (.iload_n 1, 1) := by decide +kernel
theorem d6_5 : decode prog_13_method_14_code 5 = .ok (.iadd, 1) := by decide +kernel
theorem d6_6 : decode prog_13_method_14_code 6 = .ok (.ldc 78, 2) := by decide +kernel
theorem d6_8 : decode prog_13_method_14_code 8 = .ok (.imul, 1) := by decide +kernel
theorem d6_9 : decode prog_13_method_14_code 9 = .ok (.iload_n 2, 1) := by decide +kernel
theorem d6_10 : decode prog_13_method_14_code 10 = .ok (.iadd, 1) := by decide +kernel
theorem d6_11 : decode prog_13_method_14_code 11 = .ok (.ldc 101, 2) := by decide +kernel
theorem d6_13 : decode prog_13_method_14_code 13 = .ok (.imul, 1) := by decide +kernel
theorem d6_14 : decode prog_13_method_14_code 14 = .ok (.iconst 1, 1) := by decide +kernel
theorem d6_15 : decode prog_13_method_14_code 15 = .ok (.iushr, 1) := by decide +kernel
theorem d6_16 : decode prog_13_method_14_code 16 = .ok (.ireturn, 1) := by decide +kernel
theorem ef_6_III (m : MethodId) (x0 : Int32) (x1 : Int32) (x2 : Int32) : entryFrame m #[(.int x0), (.int x1), (.int x2)] 3 = mkF m 0 #[.val (.int x0), .val (.int x1), .val (.int x2)] [] := by first | (simp [entryFrame, mkF, argsToLocals, Value.category]; done) | rfl
set_option maxRecDepth 65536 in
set_option maxHeartbeats 40000000 in
theorem rh1 (l : Launch) (Z : State) (a0 : Array Value) (hw : ∀ d ∈ tables_1, d.before a0 Z = true) (ws : List Jvm.Cond)  (h0 : Heap) (n0 : Nat) (Z0 : n0 ≤ h0.size)  :
    MetFree l (⟨"com/example/sealed_paths/sealedpaths/core/Conditions", "hash", "(III)I"⟩ : MethodName) (head1 (Jvm.Cond.code (⟨"com/example/sealed_paths/sealedpaths/core/Conditions", "hash", "(III)I"⟩ : MethodName) prog_13_method_14_code 3 (some .int) :: ws) ({ frames := 0, cells := 0, slots := 0, locals := 0 } : Room)) (fun zA zU => zA = #[(.int (0 : Int32)), (.int (0 : Int32)), (.int (1 : Int32))] ∧ Z.Warmed39 zU.vm ∧ zU.heap = h0) (fun _ _ _ _ _ => True) (fun _ zU zO zW => ∃ zV zL, zO = .returned zV ∧ QV (.int (1633244954 : Int32)) h0 n0 zV zW.heap zL ∧ FrameEnd zU zO zW zL ({ frames := 0, cells := 0, slots := 0, locals := 0 } : Room).cells ({ frames := 0, cells := 0, slots := 0, locals := 0 } : Room).slots) := by
  refine MetFree.of_bodySF (plainFor_of_name pn_Conditions) hisR ?_
  intro p e s m args below meth c s₁ Bd hml0 hP hK
  obtain ⟨rfl, hZ, hh⟩ := hP
  have hx := Bd.exec
  have hby := Bd.bytes
  have hml : c.maxLocals = 3 := hml0
  have hown : s.vm.findClass "com/example/sealed_paths/sealedpaths/core/Conditions" = some m.cls := findClass_of_methodNamed Bd.named
  have hnm := (name_of_methodNamed Bd.named Bd.method).1
  have X0 : Stand p l e ({ frames := 0, cells := 0, slots := 0, locals := 0 } : Room) s m #[(.int (0 : Int32)), (.int (0 : Int32)), (.int (1 : Int32))] below meth c s₁ [] 0 0 := Stand.of_body Bd
  have e0 : s₁.heap = h0 := by rw [← hh, Bd.state]; rfl
  have N0 := Fr.nil n0
  have pre0 : ∀ zt, Steps p.tables e below (s₁.setTop (mkF m 0 #[.val (.int (0 : Int32)), .val (.int (0 : Int32)), .val (.int (1 : Int32))] [])) zt → Steps p.tables e below (s₁.setTop (entryFrame m #[(.int (0 : Int32)), (.int (0 : Int32)), (.int (1 : Int32))] 3)) zt := fun zt zk => castTop (ef_6_III m (0 : Int32) (0 : Int32) (1 : Int32)) zk
  obtain ⟨fs, hr, hrun, hended, hW, hsame⟩ := X0.leave (v := some (.int (1633244954 : Int32))) (fun h => by rw [Bd.returns] at h; cases h)
  refine ⟨_, _, pre0 _ ?_, hrun, hended, _, _, rfl, ?_, ⟨_, rfl⟩, hW, hsame.mono (by decide) (by decide)⟩
  · show Steps p.tables e below (s₁.setTop (mkF m 0 #[.val (.int (0 : Int32)), .val (.int (0 : Int32)), .val (.int (1 : Int32))] [])) _
    refine XS.iloadN X0.here hx rfl (hb hby d6_0) rfl ?_
    show Steps p.tables e below (s₁.setTop (mkF m 1 #[.val (.int (0 : Int32)), .val (.int (0 : Int32)), .val (.int (1 : Int32))] [(.int (0 : Int32))])) _
    refine X0.ldcInt hx hown (mvT hZ (hw _ (List.mem_of_getElem? (i := 43) rfl))) (g := (mkF m 1 #[.val (.int (0 : Int32)), .val (.int (0 : Int32)), .val (.int (1 : Int32))] [(.int (0 : Int32))])) rfl (hb hby d6_1) _ ?_
    show Steps p.tables e below (s₁.setTop (mkF m 3 #[.val (.int (0 : Int32)), .val (.int (0 : Int32)), .val (.int (1 : Int32))] [(.int (-1640531535 : Int32)), (.int (0 : Int32))])) _
    refine XS.imul X0.here hx rfl (hb hby d6_3) rfl ?_
    show Steps p.tables e below (s₁.setTop (mkF m 4 #[.val (.int (0 : Int32)), .val (.int (0 : Int32)), .val (.int (1 : Int32))] [(.int (0 : Int32))])) _
    refine XS.iloadN X0.here hx rfl (hb hby d6_4) rfl ?_
    show Steps p.tables e below (s₁.setTop (mkF m 5 #[.val (.int (0 : Int32)), .val (.int (0 : Int32)), .val (.int (1 : Int32))] [(.int (0 : Int32)), (.int (0 : Int32))])) _
    refine XS.iadd X0.here hx rfl (hb hby d6_5) rfl ?_
    show Steps p.tables e below (s₁.setTop (mkF m 6 #[.val (.int (0 : Int32)), .val (.int (0 : Int32)), .val (.int (1 : Int32))] [(.int (0 : Int32))])) _
    refine X0.ldcInt hx hown (mvT hZ (hw _ (List.mem_of_getElem? (i := 44) rfl))) (g := (mkF m 6 #[.val (.int (0 : Int32)), .val (.int (0 : Int32)), .val (.int (1 : Int32))] [(.int (0 : Int32))])) rfl (hb hby d6_6) _ ?_
    show Steps p.tables e below (s₁.setTop (mkF m 8 #[.val (.int (0 : Int32)), .val (.int (0 : Int32)), .val (.int (1 : Int32))] [(.int (-2048144789 : Int32)), (.int (0 : Int32))])) _
    refine XS.imul X0.here hx rfl (hb hby d6_8) rfl ?_
    show Steps p.tables e below (s₁.setTop (mkF m 9 #[.val (.int (0 : Int32)), .val (.int (0 : Int32)), .val (.int (1 : Int32))] [(.int (0 : Int32))])) _
    refine XS.iloadN X0.here hx rfl (hb hby d6_9) rfl ?_
    show Steps p.tables e below (s₁.setTop (mkF m 10 #[.val (.int (0 : Int32)), .val (.int (0 : Int32)), .val (.int (1 : Int32))] [(.int (1 : Int32)), (.int (0 : Int32))])) _
    refine XS.iadd X0.here hx rfl (hb hby d6_10) rfl ?_
    show Steps p.tables e below (s₁.setTop (mkF m 11 #[.val (.int (0 : Int32)), .val (.int (0 : Int32)), .val (.int (1 : Int32))] [(.int (1 : Int32))])) _
    refine X0.ldcInt hx hown (mvT hZ (hw _ (List.mem_of_getElem? (i := 45) rfl))) (g := (mkF m 11 #[.val (.int (0 : Int32)), .val (.int (0 : Int32)), .val (.int (1 : Int32))] [(.int (1 : Int32))])) rfl (hb hby d6_11) _ ?_
    show Steps p.tables e below (s₁.setTop (mkF m 13 #[.val (.int (0 : Int32)), .val (.int (0 : Int32)), .val (.int (1 : Int32))] [(.int (-1028477387 : Int32)), (.int (1 : Int32))])) _
    refine XS.imul X0.here hx rfl (hb hby d6_13) rfl ?_
    show Steps p.tables e below (s₁.setTop (mkF m 14 #[.val (.int (0 : Int32)), .val (.int (0 : Int32)), .val (.int (1 : Int32))] [(.int (-1028477387 : Int32))])) _
    refine XS.iconst X0.here hx rfl (hb hby d6_14) ?_
    show Steps p.tables e below (s₁.setTop (mkF m 15 #[.val (.int (0 : Int32)), .val (.int (0 : Int32)), .val (.int (1 : Int32))] [(.int (1 : Int32)), (.int (-1028477387 : Int32))])) _
    refine XS.iushr X0.here hx rfl (hb hby d6_15) rfl ?_
    show Steps p.tables e below (s₁.setTop (mkF m 16 #[.val (.int (0 : Int32)), .val (.int (0 : Int32)), .val (.int (1 : Int32))] [(.int (1633244954 : Int32))])) _
    exact retI X0 hx Bd.returns (hb hby d6_16) hr
  · show QV (.int (1633244954 : Int32)) h0 n0 _ s₁.heap _
    rw [e0]
    exact ⟨rfl, N0, rfl⟩
set_option maxRecDepth 65536 in
set_option maxHeartbeats 40000000 in
theorem rh2 (l : Launch) (Z : State) (a0 : Array Value) (hw : ∀ d ∈ tables_1, d.before a0 Z = true) (ws : List Jvm.Cond)  (h0 : Heap) (n0 : Nat) (Z0 : n0 ≤ h0.size)  :
    MetFree l (⟨"com/example/sealed_paths/sealedpaths/core/Conditions", "hash", "(III)I"⟩ : MethodName) (head1 (Jvm.Cond.code (⟨"com/example/sealed_paths/sealedpaths/core/Conditions", "hash", "(III)I"⟩ : MethodName) prog_13_method_14_code 3 (some .int) :: ws) ({ frames := 0, cells := 0, slots := 0, locals := 0 } : Room)) (fun zA zU => zA = #[(.int (0 : Int32)), (.int (1 : Int32)), (.int (0 : Int32))] ∧ Z.Warmed39 zU.vm ∧ zU.heap = h0) (fun _ _ _ _ _ => True) (fun _ zU zO zW => ∃ zV zL, zO = .returned zV ∧ QV (.int (1759891731 : Int32)) h0 n0 zV zW.heap zL ∧ FrameEnd zU zO zW zL ({ frames := 0, cells := 0, slots := 0, locals := 0 } : Room).cells ({ frames := 0, cells := 0, slots := 0, locals := 0 } : Room).slots) := by
  refine MetFree.of_bodySF (plainFor_of_name pn_Conditions) hisR ?_
  intro p e s m args below meth c s₁ Bd hml0 hP hK
  obtain ⟨rfl, hZ, hh⟩ := hP
  have hx := Bd.exec
  have hby := Bd.bytes
  have hml : c.maxLocals = 3 := hml0
  have hown : s.vm.findClass "com/example/sealed_paths/sealedpaths/core/Conditions" = some m.cls := findClass_of_methodNamed Bd.named
  have hnm := (name_of_methodNamed Bd.named Bd.method).1
  have X0 : Stand p l e ({ frames := 0, cells := 0, slots := 0, locals := 0 } : Room) s m #[(.int (0 : Int32)), (.int (1 : Int32)), (.int (0 : Int32))] below meth c s₁ [] 0 0 := Stand.of_body Bd
  have e0 : s₁.heap = h0 := by rw [← hh, Bd.state]; rfl
  have N0 := Fr.nil n0
  have pre0 : ∀ zt, Steps p.tables e below (s₁.setTop (mkF m 0 #[.val (.int (0 : Int32)), .val (.int (1 : Int32)), .val (.int (0 : Int32))] [])) zt → Steps p.tables e below (s₁.setTop (entryFrame m #[(.int (0 : Int32)), (.int (1 : Int32)), (.int (0 : Int32))] 3)) zt := fun zt zk => castTop (ef_6_III m (0 : Int32) (1 : Int32) (0 : Int32)) zk
  obtain ⟨fs, hr, hrun, hended, hW, hsame⟩ := X0.leave (v := some (.int (1759891731 : Int32))) (fun h => by rw [Bd.returns] at h; cases h)
  refine ⟨_, _, pre0 _ ?_, hrun, hended, _, _, rfl, ?_, ⟨_, rfl⟩, hW, hsame.mono (by decide) (by decide)⟩
  · show Steps p.tables e below (s₁.setTop (mkF m 0 #[.val (.int (0 : Int32)), .val (.int (1 : Int32)), .val (.int (0 : Int32))] [])) _
    refine XS.iloadN X0.here hx rfl (hb hby d6_0) rfl ?_
    show Steps p.tables e below (s₁.setTop (mkF m 1 #[.val (.int (0 : Int32)), .val (.int (1 : Int32)), .val (.int (0 : Int32))] [(.int (0 : Int32))])) _
    refine X0.ldcInt hx hown (mvT hZ (hw _ (List.mem_of_getElem? (i := 43) rfl))) (g := (mkF m 1 #[.val (.int (0 : Int32)), .val (.int (1 : Int32)), .val (.int (0 : Int32))] [(.int (0 : Int32))])) rfl (hb hby d6_1) _ ?_
    show Steps p.tables e below (s₁.setTop (mkF m 3 #[.val (.int (0 : Int32)), .val (.int (1 : Int32)), .val (.int (0 : Int32))] [(.int (-1640531535 : Int32)), (.int (0 : Int32))])) _
    refine XS.imul X0.here hx rfl (hb hby d6_3) rfl ?_
    show Steps p.tables e below (s₁.setTop (mkF m 4 #[.val (.int (0 : Int32)), .val (.int (1 : Int32)), .val (.int (0 : Int32))] [(.int (0 : Int32))])) _
    refine XS.iloadN X0.here hx rfl (hb hby d6_4) rfl ?_
    show Steps p.tables e below (s₁.setTop (mkF m 5 #[.val (.int (0 : Int32)), .val (.int (1 : Int32)), .val (.int (0 : Int32))] [(.int (1 : Int32)), (.int (0 : Int32))])) _
    refine XS.iadd X0.here hx rfl (hb hby d6_5) rfl ?_
    show Steps p.tables e below (s₁.setTop (mkF m 6 #[.val (.int (0 : Int32)), .val (.int (1 : Int32)), .val (.int (0 : Int32))] [(.int (1 : Int32))])) _
    refine X0.ldcInt hx hown (mvT hZ (hw _ (List.mem_of_getElem? (i := 44) rfl))) (g := (mkF m 6 #[.val (.int (0 : Int32)), .val (.int (1 : Int32)), .val (.int (0 : Int32))] [(.int (1 : Int32))])) rfl (hb hby d6_6) _ ?_
    show Steps p.tables e below (s₁.setTop (mkF m 8 #[.val (.int (0 : Int32)), .val (.int (1 : Int32)), .val (.int (0 : Int32))] [(.int (-2048144789 : Int32)), (.int (1 : Int32))])) _
    refine XS.imul X0.here hx rfl (hb hby d6_8) rfl ?_
    show Steps p.tables e below (s₁.setTop (mkF m 9 #[.val (.int (0 : Int32)), .val (.int (1 : Int32)), .val (.int (0 : Int32))] [(.int (-2048144789 : Int32))])) _
    refine XS.iloadN X0.here hx rfl (hb hby d6_9) rfl ?_
    show Steps p.tables e below (s₁.setTop (mkF m 10 #[.val (.int (0 : Int32)), .val (.int (1 : Int32)), .val (.int (0 : Int32))] [(.int (0 : Int32)), (.int (-2048144789 : Int32))])) _
    refine XS.iadd X0.here hx rfl (hb hby d6_10) rfl ?_
    show Steps p.tables e below (s₁.setTop (mkF m 11 #[.val (.int (0 : Int32)), .val (.int (1 : Int32)), .val (.int (0 : Int32))] [(.int (-2048144789 : Int32))])) _
    refine X0.ldcInt hx hown (mvT hZ (hw _ (List.mem_of_getElem? (i := 45) rfl))) (g := (mkF m 11 #[.val (.int (0 : Int32)), .val (.int (1 : Int32)), .val (.int (0 : Int32))] [(.int (-2048144789 : Int32))])) rfl (hb hby d6_11) _ ?_
    show Steps p.tables e below (s₁.setTop (mkF m 13 #[.val (.int (0 : Int32)), .val (.int (1 : Int32)), .val (.int (0 : Int32))] [(.int (-1028477387 : Int32)), (.int (-2048144789 : Int32))])) _
    refine XS.imul X0.here hx rfl (hb hby d6_13) rfl ?_
    show Steps p.tables e below (s₁.setTop (mkF m 14 #[.val (.int (0 : Int32)), .val (.int (1 : Int32)), .val (.int (0 : Int32))] [(.int (-775183833 : Int32))])) _
    refine XS.iconst X0.here hx rfl (hb hby d6_14) ?_
    show Steps p.tables e below (s₁.setTop (mkF m 15 #[.val (.int (0 : Int32)), .val (.int (1 : Int32)), .val (.int (0 : Int32))] [(.int (1 : Int32)), (.int (-775183833 : Int32))])) _
    refine XS.iushr X0.here hx rfl (hb hby d6_15) rfl ?_
    show Steps p.tables e below (s₁.setTop (mkF m 16 #[.val (.int (0 : Int32)), .val (.int (1 : Int32)), .val (.int (0 : Int32))] [(.int (1759891731 : Int32))])) _
    exact retI X0 hx Bd.returns (hb hby d6_16) hr
  · show QV (.int (1759891731 : Int32)) h0 n0 _ s₁.heap _
    rw [e0]
    exact ⟨rfl, N0, rfl⟩
theorem d10_0 : decode prog_13_method_7_code 0 = .ok (.iload_n 0, 1) := by decide +kernel
theorem d10_1 : decode prog_13_method_7_code 1 = .ok (.ifCond .eq 8, 3) := by decide +kernel
theorem d10_9 : decode prog_13_method_7_code 9 = .ok (.iconst 1, 1) := by decide +kernel
theorem d10_10 : decode prog_13_method_7_code 10 = .ok (.goto 4, 3) := by decide +kernel
theorem d10_14 : decode prog_13_method_7_code 14 = .ok (.ireturn, 1) := by decide +kernel
theorem ef_10_I (m : MethodId) (x0 : Int32) : entryFrame m #[(.int x0)] 1 = mkF m 0 #[.val (.int x0)] [] := by first | (simp [entryFrame, mkF, argsToLocals, Value.category]; done) | rfl
set_option maxRecDepth 65536 in
set_option maxHeartbeats 40000000 in
theorem ric0 (l : Launch) (Z : State) (a0 : Array Value) (hw : ∀ d ∈ tables_1, d.before a0 Z = true) (ws : List Jvm.Cond) (k : Int32) (h0 : Heap) (n0 : Nat) (Z0 : n0 ≤ h0.size)  (hc1 : k = (0 : Int32)) :
    MetFree l (⟨"com/example/sealed_paths/sealedpaths/core/Conditions", "isConstant", "(I)Z"⟩ : MethodName) (head1 (Jvm.Cond.code (⟨"com/example/sealed_paths/sealedpaths/core/Conditions", "isConstant", "(I)Z"⟩ : MethodName) prog_13_method_7_code 1 (some .boolean) :: ws) ({ frames := 0, cells := 0, slots := 0, locals := 0 } : Room)) (fun zA zU => zA = #[(.int k)] ∧ Z.Warmed39 zU.vm ∧ zU.heap = h0) (fun _ _ _ _ _ => True) (fun _ zU zO zW => ∃ zV zL, zO = .returned zV ∧ QV (.int 1) h0 n0 zV zW.heap zL ∧ FrameEnd zU zO zW zL ({ frames := 0, cells := 0, slots := 0, locals := 0 } : Room).cells ({ frames := 0, cells := 0, slots := 0, locals := 0 } : Room).slots) := by
  refine MetFree.of_bodySF (plainFor_of_name pn_Conditions) hisR ?_
  intro p e s m args below meth c s₁ Bd hml0 hP hK
  obtain ⟨rfl, hZ, hh⟩ := hP
  have hx := Bd.exec
  have hby := Bd.bytes
  have hml : c.maxLocals = 1 := hml0
  have hown : s.vm.findClass "com/example/sealed_paths/sealedpaths/core/Conditions" = some m.cls := findClass_of_methodNamed Bd.named
  have hnm := (name_of_methodNamed Bd.named Bd.method).1
  have X0 : Stand p l e ({ frames := 0, cells := 0, slots := 0, locals := 0 } : Room) s m #[(.int k)] below meth c s₁ [] 0 0 := Stand.of_body Bd
  have e0 : s₁.heap = h0 := by rw [← hh, Bd.state]; rfl
  have N0 := Fr.nil n0
  have pre0 : ∀ zt, Steps p.tables e below (s₁.setTop (mkF m 0 #[.val (.int k)] [])) zt → Steps p.tables e below (s₁.setTop (entryFrame m #[(.int k)] 1)) zt := fun zt zk => castTop (ef_10_I m k) zk
  obtain ⟨fs, hr, hrun, hended, hW, hsame⟩ := X0.leave (v := some (.int (1 : Int32))) (fun h => by rw [Bd.returns] at h; cases h)
  refine ⟨_, _, pre0 _ ?_, hrun, hended, _, _, rfl, ?_, ⟨_, rfl⟩, hW, hsame.mono (by decide) (by decide)⟩
  · show Steps p.tables e below (s₁.setTop (mkF m 0 #[.val (.int k)] [])) _
    refine XS.iloadN X0.here hx rfl (hb hby d10_0) rfl ?_
    show Steps p.tables e below (s₁.setTop (mkF m 1 #[.val (.int k)] [(.int k)])) _
    refine XS.ifYes X0.here hx rfl (pc0 := 1) (pc' := 9) rfl (hb hby d10_1) rfl ((if0 _ _).trans (teq hc1).1) (by decide) (by decide) ?_
    show Steps p.tables e below (s₁.setTop (mkF m 9 #[.val (.int k)] [])) _
    refine XS.iconst X0.here hx rfl (hb hby d10_9) ?_
    show Steps p.tables e below (s₁.setTop (mkF m 10 #[.val (.int k)] [(.int (1 : Int32))])) _
    refine XS.goto X0.here hx rfl (pc0 := 10) (pc' := 14) rfl (hb hby d10_10) (by decide) (by decide) ?_
    show Steps p.tables e below (s₁.setTop (mkF m 14 #[.val (.int k)] [(.int (1 : Int32))])) _
    exact retN X0 hx (t := .boolean) Bd.returns (by simp) (hb hby d10_14) hr
  · show QV (.int 1) h0 n0 _ s₁.heap _
    rw [e0]
    exact ⟨rfl, N0, rfl⟩
theorem d10_4 : decode prog_13_method_7_code 4 = .ok (.iload_n 0, 1) := by decide +kernel
theorem d10_5 : decode prog_13_method_7_code 5 = .ok (.iconst 1, 1) := by decide +kernel
theorem d10_6 : decode prog_13_method_7_code 6 = .ok (.if_icmp .ne 7, 3) := by decide +kernel
set_option maxRecDepth 65536 in
set_option maxHeartbeats 40000000 in
theorem ric1 (l : Launch) (Z : State) (a0 : Array Value) (hw : ∀ d ∈ tables_1, d.before a0 Z = true) (ws : List Jvm.Cond) (k : Int32) (h0 : Heap) (n0 : Nat) (Z0 : n0 ≤ h0.size)  (hc1 : ¬ (k = (0 : Int32))) (hc6 : k = (1 : Int32)) :
    MetFree l (⟨"com/example/sealed_paths/sealedpaths/core/Conditions", "isConstant", "(I)Z"⟩ : MethodName) (head1 (Jvm.Cond.code (⟨"com/example/sealed_paths/sealedpaths/core/Conditions", "isConstant", "(I)Z"⟩ : MethodName) prog_13_method_7_code 1 (some .boolean) :: ws) ({ frames := 0, cells := 0, slots := 0, locals := 0 } : Room)) (fun zA zU => zA = #[(.int k)] ∧ Z.Warmed39 zU.vm ∧ zU.heap = h0) (fun _ _ _ _ _ => True) (fun _ zU zO zW => ∃ zV zL, zO = .returned zV ∧ QV (.int 1) h0 n0 zV zW.heap zL ∧ FrameEnd zU zO zW zL ({ frames := 0, cells := 0, slots := 0, locals := 0 } : Room).cells ({ frames := 0, cells := 0, slots := 0, locals := 0 } : Room).slots) := by
  refine MetFree.of_bodySF (plainFor_of_name pn_Conditions) hisR ?_
  intro p e s m args below meth c s₁ Bd hml0 hP hK
  obtain ⟨rfl, hZ, hh⟩ := hP
  have hx := Bd.exec
  have hby := Bd.bytes
  have hml : c.maxLocals = 1 := hml0
  have hown : s.vm.findClass "com/example/sealed_paths/sealedpaths/core/Conditions" = some m.cls := findClass_of_methodNamed Bd.named
  have hnm := (name_of_methodNamed Bd.named Bd.method).1
  have X0 : Stand p l e ({ frames := 0, cells := 0, slots := 0, locals := 0 } : Room) s m #[(.int k)] below meth c s₁ [] 0 0 := Stand.of_body Bd
  have e0 : s₁.heap = h0 := by rw [← hh, Bd.state]; rfl
  have N0 := Fr.nil n0
  have pre0 : ∀ zt, Steps p.tables e below (s₁.setTop (mkF m 0 #[.val (.int k)] [])) zt → Steps p.tables e below (s₁.setTop (entryFrame m #[(.int k)] 1)) zt := fun zt zk => castTop (ef_10_I m k) zk
  obtain ⟨fs, hr, hrun, hended, hW, hsame⟩ := X0.leave (v := some (.int (1 : Int32))) (fun h => by rw [Bd.returns] at h; cases h)
  refine ⟨_, _, pre0 _ ?_, hrun, hended, _, _, rfl, ?_, ⟨_, rfl⟩, hW, hsame.mono (by decide) (by decide)⟩
  · show Steps p.tables e below (s₁.setTop (mkF m 0 #[.val (.int k)] [])) _
    refine XS.iloadN X0.here hx rfl (hb hby d10_0) rfl ?_
    show Steps p.tables e below (s₁.setTop (mkF m 1 #[.val (.int k)] [(.int k)])) _
    refine XS.ifNo X0.here hx rfl (hb hby d10_1) rfl ((if0 _ _).trans (feq hc1).1) ?_
    show Steps p.tables e below (s₁.setTop (mkF m 4 #[.val (.int k)] [])) _
    refine XS.iloadN X0.here hx rfl (hb hby d10_4) rfl ?_
    show Steps p.tables e below (s₁.setTop (mkF m 5 #[.val (.int k)] [(.int k)])) _
    refine XS.iconst X0.here hx rfl (hb hby d10_5) ?_
    show Steps p.tables e below (s₁.setTop (mkF m 6 #[.val (.int k)] [(.int (1 : Int32)), (.int k)])) _
    refine XS.icmpNo X0.here hx rfl (hb hby d10_6) rfl (teq hc6).2 ?_
    show Steps p.tables e below (s₁.setTop (mkF m 9 #[.val (.int k)] [])) _
    refine XS.iconst X0.here hx rfl (hb hby d10_9) ?_
    show Steps p.tables e below (s₁.setTop (mkF m 10 #[.val (.int k)] [(.int (1 : Int32))])) _
    refine XS.goto X0.here hx rfl (pc0 := 10) (pc' := 14) rfl (hb hby d10_10) (by decide) (by decide) ?_
    show Steps p.tables e below (s₁.setTop (mkF m 14 #[.val (.int k)] [(.int (1 : Int32))])) _
    exact retN X0 hx (t := .boolean) Bd.returns (by simp) (hb hby d10_14) hr
  · show QV (.int 1) h0 n0 _ s₁.heap _
    rw [e0]
    exact ⟨rfl, N0, rfl⟩
theorem d10_13 : decode prog_13_method_7_code 13 = .ok (.iconst 0, 1) := by decide +kernel
set_option maxRecDepth 65536 in
set_option maxHeartbeats 40000000 in
theorem ric2 (l : Launch) (Z : State) (a0 : Array Value) (hw : ∀ d ∈ tables_1, d.before a0 Z = true) (ws : List Jvm.Cond) (k : Int32) (h0 : Heap) (n0 : Nat) (Z0 : n0 ≤ h0.size)  (hc1 : ¬ (k = (0 : Int32))) (hc6 : ¬ (k = (1 : Int32))) :
    MetFree l (⟨"com/example/sealed_paths/sealedpaths/core/Conditions", "isConstant", "(I)Z"⟩ : MethodName) (head1 (Jvm.Cond.code (⟨"com/example/sealed_paths/sealedpaths/core/Conditions", "isConstant", "(I)Z"⟩ : MethodName) prog_13_method_7_code 1 (some .boolean) :: ws) ({ frames := 0, cells := 0, slots := 0, locals := 0 } : Room)) (fun zA zU => zA = #[(.int k)] ∧ Z.Warmed39 zU.vm ∧ zU.heap = h0) (fun _ _ _ _ _ => True) (fun _ zU zO zW => ∃ zV zL, zO = .returned zV ∧ QV (.int 0) h0 n0 zV zW.heap zL ∧ FrameEnd zU zO zW zL ({ frames := 0, cells := 0, slots := 0, locals := 0 } : Room).cells ({ frames := 0, cells := 0, slots := 0, locals := 0 } : Room).slots) := by
  refine MetFree.of_bodySF (plainFor_of_name pn_Conditions) hisR ?_
  intro p e s m args below meth c s₁ Bd hml0 hP hK
  obtain ⟨rfl, hZ, hh⟩ := hP
  have hx := Bd.exec
  have hby := Bd.bytes
  have hml : c.maxLocals = 1 := hml0
  have hown : s.vm.findClass "com/example/sealed_paths/sealedpaths/core/Conditions" = some m.cls := findClass_of_methodNamed Bd.named
  have hnm := (name_of_methodNamed Bd.named Bd.method).1
  have X0 : Stand p l e ({ frames := 0, cells := 0, slots := 0, locals := 0 } : Room) s m #[(.int k)] below meth c s₁ [] 0 0 := Stand.of_body Bd
  have e0 : s₁.heap = h0 := by rw [← hh, Bd.state]; rfl
  have N0 := Fr.nil n0
  have pre0 : ∀ zt, Steps p.tables e below (s₁.setTop (mkF m 0 #[.val (.int k)] [])) zt → Steps p.tables e below (s₁.setTop (entryFrame m #[(.int k)] 1)) zt := fun zt zk => castTop (ef_10_I m k) zk
  obtain ⟨fs, hr, hrun, hended, hW, hsame⟩ := X0.leave (v := some (.int (0 : Int32))) (fun h => by rw [Bd.returns] at h; cases h)
  refine ⟨_, _, pre0 _ ?_, hrun, hended, _, _, rfl, ?_, ⟨_, rfl⟩, hW, hsame.mono (by decide) (by decide)⟩
  · show Steps p.tables e below (s₁.setTop (mkF m 0 #[.val (.int k)] [])) _
    refine XS.iloadN X0.here hx rfl (hb hby d10_0) rfl ?_
    show Steps p.tables e below (s₁.setTop (mkF m 1 #[.val (.int k)] [(.int k)])) _
    refine XS.ifNo X0.here hx rfl (hb hby d10_1) rfl ((if0 _ _).trans (feq hc1).1) ?_
    show Steps p.tables e below (s₁.setTop (mkF m 4 #[.val (.int k)] [])) _
    refine XS.iloadN X0.here hx rfl (hb hby d10_4) rfl ?_
    show Steps p.tables e below (s₁.setTop (mkF m 5 #[.val (.int k)] [(.int k)])) _
    refine XS.iconst X0.here hx rfl (hb hby d10_5) ?_
    show Steps p.tables e below (s₁.setTop (mkF m 6 #[.val (.int k)] [(.int (1 : Int32)), (.int k)])) _
    refine XS.icmpYes X0.here hx rfl (pc0 := 6) (pc' := 13) rfl (hb hby d10_6) rfl (feq hc6).2 (by decide) (by decide) ?_
    show Steps p.tables e below (s₁.setTop (mkF m 13 #[.val (.int k)] [])) _
    refine XS.iconst X0.here hx rfl (hb hby d10_13) ?_
    show Steps p.tables e below (s₁.setTop (mkF m 14 #[.val (.int k)] [(.int (0 : Int32))])) _
    exact retN X0 hx (t := .boolean) Bd.returns (by simp) (hb hby d10_14) hr
  · show QV (.int 0) h0 n0 _ s₁.heap _
    rw [e0]
    exact ⟨rfl, N0, rfl⟩
theorem d11_0 : decode jdk_29_method_69_code 0 = .ok (.iload_n 0, 1) := by decide +kernel
theorem d11_1 : decode jdk_29_method_69_code 1 = .ok (.iload_n 1, 1) := by decide +kernel
theorem d11_2 : decode jdk_29_method_69_code 2 = .ok (.if_icmp .gt 7, 3) := by decide +kernel
theorem d11_5 : decode jdk_29_method_69_code 5 = .ok (.iload_n 0, 1) := by decide +kernel
theorem d11_6 : decode jdk_29_method_69_code 6 = .ok (.goto 4, 3) := by decide +kernel
theorem d11_10 : decode jdk_29_method_69_code 10 = .ok (.ireturn, 1) := by decide +kernel
theorem ef_11_II (m : MethodId) (x0 : Int32) (x1 : Int32) : entryFrame m #[(.int x0), (.int x1)] 2 = mkF m 0 #[.val (.int x0), .val (.int x1)] [] := by first | (simp [entryFrame, mkF, argsToLocals, Value.category]; done) | rfl
set_option maxRecDepth 65536 in
set_option maxHeartbeats 40000000 in
theorem rmin23 (l : Launch) (Z : State) (a0 : Array Value) (hw : ∀ d ∈ tables_1, d.before a0 Z = true) (ws : List Jvm.Cond)  (h0 : Heap) (n0 : Nat) (Z0 : n0 ≤ h0.size)  :
    MetFree l (⟨"java/lang/Math", "min", "(II)I"⟩ : MethodName) (head1 (Jvm.Cond.code (⟨"java/lang/Math", "min", "(II)I"⟩ : MethodName) jdk_29_method_69_code 2 (some .int) :: ws) ({ frames := 0, cells := 0, slots := 0, locals := 0 } : Room)) (fun zA zU => zA = #[(.int (2 : Int32)), (.int (3 : Int32))] ∧ Z.Warmed39 zU.vm ∧ zU.heap = h0) (fun _ _ _ _ _ => True) (fun _ zU zO zW => ∃ zV zL, zO = .returned zV ∧ QV (.int (2 : Int32)) h0 n0 zV zW.heap zL ∧ FrameEnd zU zO zW zL ({ frames := 0, cells := 0, slots := 0, locals := 0 } : Room).cells ({ frames := 0, cells := 0, slots := 0, locals := 0 } : Room).slots) := by
  refine MetFree.of_bodySF (Jvm.Free.JP.mathPlain rfl (by decide +kernel)) hisR ?_
  intro p e s m args below meth c s₁ Bd hml0 hP hK
  obtain ⟨rfl, hZ, hh⟩ := hP
  have hx := Bd.exec
  have hby := Bd.bytes
  have hml : c.maxLocals = 2 := hml0
  have hown : s.vm.findClass "java/lang/Math" = some m.cls := findClass_of_methodNamed Bd.named
  have hnm := (name_of_methodNamed Bd.named Bd.method).1
  have X0 : Stand p l e ({ frames := 0, cells := 0, slots := 0, locals := 0 } : Room) s m #[(.int (2 : Int32)), (.int (3 : Int32))] below meth c s₁ [] 0 0 := Stand.of_body Bd
  have e0 : s₁.heap = h0 := by rw [← hh, Bd.state]; rfl
  have N0 := Fr.nil n0
  have pre0 : ∀ zt, Steps p.tables e below (s₁.setTop (mkF m 0 #[.val (.int (2 : Int32)), .val (.int (3 : Int32))] [])) zt → Steps p.tables e below (s₁.setTop (entryFrame m #[(.int (2 : Int32)), (.int (3 : Int32))] 2)) zt := fun zt zk => castTop (ef_11_II m (2 : Int32) (3 : Int32)) zk
  obtain ⟨fs, hr, hrun, hended, hW, hsame⟩ := X0.leave (v := some (.int (2 : Int32))) (fun h => by rw [Bd.returns] at h; cases h)
  refine ⟨_, _, pre0 _ ?_, hrun, hended, _, _, rfl, ?_, ⟨_, rfl⟩, hW, hsame.mono (by decide) (by decide)⟩
  · show Steps p.tables e below (s₁.setTop (mkF m 0 #[.val (.int (2 : Int32)), .val (.int (3 : Int32))] [])) _
    refine XS.iloadN X0.here hx rfl (hb hby d11_0) rfl ?_
    show Steps p.tables e below (s₁.setTop (mkF m 1 #[.val (.int (2 : Int32)), .val (.int (3 : Int32))] [(.int (2 : Int32))])) _
    refine XS.iloadN X0.here hx rfl (hb hby d11_1) rfl ?_
    show Steps p.tables e below (s₁.setTop (mkF m 2 #[.val (.int (2 : Int32)), .val (.int (3 : Int32))] [(.int (3 : Int32)), (.int (2 : Int32))])) _
    refine XS.icmpNo X0.here hx rfl (hb hby d11_2) rfl (flt (by decide)).2.2.1 ?_
    show Steps p.tables e below (s₁.setTop (mkF m 5 #[.val (.int (2 : Int32)), .val (.int (3 : Int32))] [])) _
    refine XS.iloadN X0.here hx rfl (hb hby d11_5) rfl ?_
    show Steps p.tables e below (s₁.setTop (mkF m 6 #[.val (.int (2 : Int32)), .val (.int (3 : Int32))] [(.int (2 : Int32))])) _
    refine XS.goto X0.here hx rfl (pc0 := 6) (pc' := 10) rfl (hb hby d11_6) (by decide) (by decide) ?_
    show Steps p.tables e below (s₁.setTop (mkF m 10 #[.val (.int (2 : Int32)), .val (.int (3 : Int32))] [(.int (2 : Int32))])) _
    exact retI X0 hx Bd.returns (hb hby d11_10) hr
  · show QV (.int (2 : Int32)) h0 n0 _ s₁.heap _
    rw [e0]
    exact ⟨rfl, N0, rfl⟩
set_option maxRecDepth 65536 in
set_option maxHeartbeats 40000000 in
theorem rmin00 (l : Launch) (Z : State) (a0 : Array Value) (hw : ∀ d ∈ tables_1, d.before a0 Z = true) (ws : List Jvm.Cond)  (h0 : Heap) (n0 : Nat) (Z0 : n0 ≤ h0.size)  :
    MetFree l (⟨"java/lang/Math", "min", "(II)I"⟩ : MethodName) (head1 (Jvm.Cond.code (⟨"java/lang/Math", "min", "(II)I"⟩ : MethodName) jdk_29_method_69_code 2 (some .int) :: ws) ({ frames := 0, cells := 0, slots := 0, locals := 0 } : Room)) (fun zA zU => zA = #[(.int (0 : Int32)), (.int (0 : Int32))] ∧ Z.Warmed39 zU.vm ∧ zU.heap = h0) (fun _ _ _ _ _ => True) (fun _ zU zO zW => ∃ zV zL, zO = .returned zV ∧ QV (.int (0 : Int32)) h0 n0 zV zW.heap zL ∧ FrameEnd zU zO zW zL ({ frames := 0, cells := 0, slots := 0, locals := 0 } : Room).cells ({ frames := 0, cells := 0, slots := 0, locals := 0 } : Room).slots) := by
  refine MetFree.of_bodySF (Jvm.Free.JP.mathPlain rfl (by decide +kernel)) hisR ?_
  intro p e s m args below meth c s₁ Bd hml0 hP hK
  obtain ⟨rfl, hZ, hh⟩ := hP
  have hx := Bd.exec
  have hby := Bd.bytes
  have hml : c.maxLocals = 2 := hml0
  have hown : s.vm.findClass "java/lang/Math" = some m.cls := findClass_of_methodNamed Bd.named
  have hnm := (name_of_methodNamed Bd.named Bd.method).1
  have X0 : Stand p l e ({ frames := 0, cells := 0, slots := 0, locals := 0 } : Room) s m #[(.int (0 : Int32)), (.int (0 : Int32))] below meth c s₁ [] 0 0 := Stand.of_body Bd
  have e0 : s₁.heap = h0 := by rw [← hh, Bd.state]; rfl
  have N0 := Fr.nil n0
  have pre0 : ∀ zt, Steps p.tables e below (s₁.setTop (mkF m 0 #[.val (.int (0 : Int32)), .val (.int (0 : Int32))] [])) zt → Steps p.tables e below (s₁.setTop (entryFrame m #[(.int (0 : Int32)), (.int (0 : Int32))] 2)) zt := fun zt zk => castTop (ef_11_II m (0 : Int32) (0 : Int32)) zk
  obtain ⟨fs, hr, hrun, hended, hW, hsame⟩ := X0.leave (v := some (.int (0 : Int32))) (fun h => by rw [Bd.returns] at h; cases h)
  refine ⟨_, _, pre0 _ ?_, hrun, hended, _, _, rfl, ?_, ⟨_, rfl⟩, hW, hsame.mono (by decide) (by decide)⟩
  · show Steps p.tables e below (s₁.setTop (mkF m 0 #[.val (.int (0 : Int32)), .val (.int (0 : Int32))] [])) _
    refine XS.iloadN X0.here hx rfl (hb hby d11_0) rfl ?_
    show Steps p.tables e below (s₁.setTop (mkF m 1 #[.val (.int (0 : Int32)), .val (.int (0 : Int32))] [(.int (0 : Int32))])) _
    refine XS.iloadN X0.here hx rfl (hb hby d11_1) rfl ?_
    show Steps p.tables e below (s₁.setTop (mkF m 2 #[.val (.int (0 : Int32)), .val (.int (0 : Int32))] [(.int (0 : Int32)), (.int (0 : Int32))])) _
    refine XS.icmpNo X0.here hx rfl (hb hby d11_2) rfl (flt (by decide)).2.2.1 ?_
    show Steps p.tables e below (s₁.setTop (mkF m 5 #[.val (.int (0 : Int32)), .val (.int (0 : Int32))] [])) _
    refine XS.iloadN X0.here hx rfl (hb hby d11_5) rfl ?_
    show Steps p.tables e below (s₁.setTop (mkF m 6 #[.val (.int (0 : Int32)), .val (.int (0 : Int32))] [(.int (0 : Int32))])) _
    refine XS.goto X0.here hx rfl (pc0 := 6) (pc' := 10) rfl (hb hby d11_6) (by decide) (by decide) ?_
    show Steps p.tables e below (s₁.setTop (mkF m 10 #[.val (.int (0 : Int32)), .val (.int (0 : Int32))] [(.int (0 : Int32))])) _
    exact retI X0 hx Bd.returns (hb hby d11_10) hr
  · show QV (.int (0 : Int32)) h0 n0 _ s₁.heap _
    rw [e0]
    exact ⟨rfl, N0, rfl⟩
theorem d16_0 : decode jdk_29_method_65_code 0 = .ok (.iload_n 0, 1) := by decide +kernel
theorem d16_1 : decode jdk_29_method_65_code 1 = .ok (.iload_n 1, 1) := by decide +kernel
theorem d16_2 : decode jdk_29_method_65_code 2 = .ok (.if_icmp .lt 7, 3) := by decide +kernel
theorem d16_9 : decode jdk_29_method_65_code 9 = .ok (.iload_n 1, 1) := by decide +kernel
theorem d16_10 : decode jdk_29_method_65_code 10 = .ok (.ireturn, 1) := by decide +kernel
theorem ef_16_II (m : MethodId) (x0 : Int32) (x1 : Int32) : entryFrame m #[(.int x0), (.int x1)] 2 = mkF m 0 #[.val (.int x0), .val (.int x1)] [] := by first | (simp [entryFrame, mkF, argsToLocals, Value.category]; done) | rfl
set_option maxRecDepth 65536 in
set_option maxHeartbeats 40000000 in
theorem rmax23 (l : Launch) (Z : State) (a0 : Array Value) (hw : ∀ d ∈ tables_1, d.before a0 Z = true) (ws : List Jvm.Cond)  (h0 : Heap) (n0 : Nat) (Z0 : n0 ≤ h0.size)  :
    MetFree l (⟨"java/lang/Math", "max", "(II)I"⟩ : MethodName) (head1 (Jvm.Cond.code (⟨"java/lang/Math", "max", "(II)I"⟩ : MethodName) jdk_29_method_65_code 2 (some .int) :: ws) ({ frames := 0, cells := 0, slots := 0, locals := 0 } : Room)) (fun zA zU => zA = #[(.int (2 : Int32)), (.int (3 : Int32))] ∧ Z.Warmed39 zU.vm ∧ zU.heap = h0) (fun _ _ _ _ _ => True) (fun _ zU zO zW => ∃ zV zL, zO = .returned zV ∧ QV (.int (3 : Int32)) h0 n0 zV zW.heap zL ∧ FrameEnd zU zO zW zL ({ frames := 0, cells := 0, slots := 0, locals := 0 } : Room).cells ({ frames := 0, cells := 0, slots := 0, locals := 0 } : Room).slots) := by
  refine MetFree.of_bodySF (Jvm.Free.JP.mathPlain rfl (by decide +kernel)) hisR ?_
  intro p e s m args below meth c s₁ Bd hml0 hP hK
  obtain ⟨rfl, hZ, hh⟩ := hP
  have hx := Bd.exec
  have hby := Bd.bytes
  have hml : c.maxLocals = 2 := hml0
  have hown : s.vm.findClass "java/lang/Math" = some m.cls := findClass_of_methodNamed Bd.named
  have hnm := (name_of_methodNamed Bd.named Bd.method).1
  have X0 : Stand p l e ({ frames := 0, cells := 0, slots := 0, locals := 0 } : Room) s m #[(.int (2 : Int32)), (.int (3 : Int32))] below meth c s₁ [] 0 0 := Stand.of_body Bd
  have e0 : s₁.heap = h0 := by rw [← hh, Bd.state]; rfl
  have N0 := Fr.nil n0
  have pre0 : ∀ zt, Steps p.tables e below (s₁.setTop (mkF m 0 #[.val (.int (2 : Int32)), .val (.int (3 : Int32))] [])) zt → Steps p.tables e below (s₁.setTop (entryFrame m #[(.int (2 : Int32)), (.int (3 : Int32))] 2)) zt := fun zt zk => castTop (ef_16_II m (2 : Int32) (3 : Int32)) zk
  obtain ⟨fs, hr, hrun, hended, hW, hsame⟩ := X0.leave (v := some (.int (3 : Int32))) (fun h => by rw [Bd.returns] at h; cases h)
  refine ⟨_, _, pre0 _ ?_, hrun, hended, _, _, rfl, ?_, ⟨_, rfl⟩, hW, hsame.mono (by decide) (by decide)⟩
  · show Steps p.tables e below (s₁.setTop (mkF m 0 #[.val (.int (2 : Int32)), .val (.int (3 : Int32))] [])) _
    refine XS.iloadN X0.here hx rfl (hb hby d16_0) rfl ?_
    show Steps p.tables e below (s₁.setTop (mkF m 1 #[.val (.int (2 : Int32)), .val (.int (3 : Int32))] [(.int (2 : Int32))])) _
    refine XS.iloadN X0.here hx rfl (hb hby d16_1) rfl ?_
    show Steps p.tables e below (s₁.setTop (mkF m 2 #[.val (.int (2 : Int32)), .val (.int (3 : Int32))] [(.int (3 : Int32)), (.int (2 : Int32))])) _
    refine XS.icmpYes X0.here hx rfl (pc0 := 2) (pc' := 9) rfl (hb hby d16_2) rfl (tlt (by decide)).1 (by decide) (by decide) ?_
    show Steps p.tables e below (s₁.setTop (mkF m 9 #[.val (.int (2 : Int32)), .val (.int (3 : Int32))] [])) _
    refine XS.iloadN X0.here hx rfl (hb hby d16_9) rfl ?_
    show Steps p.tables e below (s₁.setTop (mkF m 10 #[.val (.int (2 : Int32)), .val (.int (3 : Int32))] [(.int (3 : Int32))])) _
    exact retI X0 hx Bd.returns (hb hby d16_10) hr
  · show QV (.int (3 : Int32)) h0 n0 _ s₁.heap _
    rw [e0]
    exact ⟨rfl, N0, rfl⟩
def IC (Z : State) (ch : Addr) (cl : Cell) (b0 b1 : Addr) : Prop := Sta Z Z.heap "java/lang/Integer$IntegerCache" "high" "I" (.int (127 : Int32)) ∧ Sta Z Z.heap "java/lang/Integer$IntegerCache" "cache" "[Ljava/lang/Integer;" (.ref ch) ∧ Arr Z Z.heap ch cl (.object "java/lang/Integer") ∧ cl.slots.size = 256 ∧ cl.slots[128]? = some (.ref b0) ∧ cl.slots[129]? = some (.ref b1) ∧ Exa Z Z.heap b0 "java/lang/Integer" ∧ Exa Z Z.heap b1 "java/lang/Integer" ∧ Fld Z Z.heap b0 "java/lang/Integer" "value" "I" (.int (0 : Int32)) ∧ Fld Z Z.heap b1 "java/lang/Integer" "value" "I" (.int (1 : Int32))
theorem d13_0 : decode jdk_33_method_22_code 0 = .ok (.iload_n 0, 1) := by decide +kernel
theorem d13_1 : decode jdk_33_method_22_code 1 = .ok (.bipush (-128), 2) := by decide +kernel
theorem d13_3 : decode jdk_33_method_22_code 3 = .ok (.if_icmp .lt 20, 3) := by decide +kernel
theorem d13_6 : decode jdk_33_method_22_code 6 = .ok (.iload_n 0, 1) := by decide +kernel
theorem d13_7 : decode jdk_33_method_22_code 7 = .ok (.getstatic 191, 3) := by decide +kernel
theorem d13_10 : decode jdk_33_method_22_code 10 = .ok (.if_icmp .gt 13, 3) := by decide +kernel
theorem d13_13 : decode jdk_33_method_22_code 13 = .ok (.getstatic 195, 3) := by decide +kernel
theorem d13_16 : decode jdk_33_method_22_code 16 = .ok (.iload_n 0, 1) := by decide +kernel
theorem d13_17 : decode jdk_33_method_22_code 17 = .ok (.sipush 128, 3) := by decide +kernel
theorem d13_20 : decode jdk_33_method_22_code 20 = .ok (.iadd, 1) := by decide +kernel
theorem d13_21 : decode jdk_33_method_22_code 21 = .ok (.aaload, 1) := by decide +kernel
theorem d13_22 : decode jdk_33_method_22_code 22 = .ok (.areturn, 1) := by decide +kernel
theorem ef_13_I (m : MethodId) (x0 : Int32) : entryFrame m #[(.int x0)] 1 = mkF m 0 #[.val (.int x0)] [] := by first | (simp [entryFrame, mkF, argsToLocals, Value.category]; done) | rfl
theorem pn_Integer : plainName "java/lang/Integer" = true := by first | (simp [plainName, overriddenIn]; done) | decide +kernel
set_option maxRecDepth 65536 in
set_option maxHeartbeats 40000000 in
theorem rvo0 (l : Launch) (Z : State) (a0 : Array Value) (hw : ∀ d ∈ tables_1, d.before a0 Z = true) (ws : List Jvm.Cond) (ch : Addr) (cl : Cell) (b0 b1 : Addr) (h0 : Heap) (n0 : Nat) (Z0 : n0 ≤ h0.size) (Od : Old Z n0 h0) (hI : IC Z ch cl b0 b1) :
    MetFree l (⟨"java/lang/Integer", "valueOf", "(I)Ljava/lang/Integer;"⟩ : MethodName) (head1 (Jvm.Cond.code (⟨"java/lang/Integer", "valueOf", "(I)Ljava/lang/Integer;"⟩ : MethodName) jdk_33_method_22_code 1 (some (.object "java/lang/Integer")) :: ws) ({ frames := 0, cells := 0, slots := 0, locals := 0 } : Room)) (fun zA zU => zA = #[(.int (0 : Int32))] ∧ Z.Warmed39 zU.vm ∧ zU.heap = h0) (fun _ _ _ _ _ => True) (fun _ zU zO zW => ∃ zV zL, zO = .returned zV ∧ QV (.ref b0) h0 n0 zV zW.heap zL ∧ FrameEnd zU zO zW zL ({ frames := 0, cells := 0, slots := 0, locals := 0 } : Room).cells ({ frames := 0, cells := 0, slots := 0, locals := 0 } : Room).slots) := by
  refine MetFree.of_bodySF (plainFor_of_name pn_Integer) hisR ?_
  intro p e s m args below meth c s₁ Bd hml0 hP hK
  obtain ⟨rfl, hZ, hh⟩ := hP
  have hx := Bd.exec
  have hby := Bd.bytes
  have hml : c.maxLocals = 1 := hml0
  have hown : s.vm.findClass "java/lang/Integer" = some m.cls := findClass_of_methodNamed Bd.named
  have hnm := (name_of_methodNamed Bd.named Bd.method).1
  have X0 : Stand p l e ({ frames := 0, cells := 0, slots := 0, locals := 0 } : Room) s m #[(.int (0 : Int32))] below meth c s₁ [] 0 0 := Stand.of_body Bd
  have e0 : s₁.heap = h0 := by rw [← hh, Bd.state]; rfl
  have N0 := Fr.nil n0
  have pre0 : ∀ zt, Steps p.tables e below (s₁.setTop (mkF m 0 #[.val (.int (0 : Int32))] [])) zt → Steps p.tables e below (s₁.setTop (entryFrame m #[(.int (0 : Int32))] 1)) zt := fun zt zk => castTop (ef_13_I m (0 : Int32)) zk
  obtain ⟨Sh, Sc, Ach, Sz, A128, A129, Eb0, Eb1, Fb0, Fb1⟩ := hI
  obtain ⟨T219, X219, e219, st219⟩ := getS2 X0 hx hZ hown (host := "") (Or.inl (hw _ (List.mem_of_getElem? (i := 73) rfl))) Via.refl e0 (Sh.ext Od.2) (g := (mkF m 7 #[.val (.int (0 : Int32))] [(.int (0 : Int32))])) rfl (hb hby d13_7)
  obtain ⟨T220, X220, e220, st220⟩ := getS2 X219 hx hZ hown (host := "") (Or.inl (hw _ (List.mem_of_getElem? (i := 75) rfl))) Via.refl e219 (Sc.ext Od.2) (g := (mkF m 13 #[.val (.int (0 : Int32))] [])) rfl (hb hby d13_13)
  have Ar221 := (Ach.ext Od.2)
  obtain ⟨fs, hr, hrun, hended, hW, hsame⟩ := X220.leave (v := some (.ref b0)) (fun h => by rw [Bd.returns] at h; cases h)
  refine ⟨_, _, pre0 _ ?_, hrun, hended, _, _, rfl, ?_, ⟨_, rfl⟩, hW, hsame.mono (by decide) (by decide)⟩
  · show Steps p.tables e below (s₁.setTop (mkF m 0 #[.val (.int (0 : Int32))] [])) _
    refine XS.iloadN X0.here hx rfl (hb hby d13_0) rfl ?_
    show Steps p.tables e below (s₁.setTop (mkF m 1 #[.val (.int (0 : Int32))] [(.int (0 : Int32))])) _
    refine XS.bipush X0.here hx rfl (hb hby d13_1) ?_
    show Steps p.tables e below (s₁.setTop (mkF m 3 #[.val (.int (0 : Int32))] [(.int (-128 : Int32)), (.int (0 : Int32))])) _
    refine XS.icmpNo X0.here hx rfl (hb hby d13_3) rfl (flt (by decide)).1 ?_
    show Steps p.tables e below (s₁.setTop (mkF m 6 #[.val (.int (0 : Int32))] [])) _
    refine XS.iloadN X0.here hx rfl (hb hby d13_6) rfl ?_
    show Steps p.tables e below (s₁.setTop (mkF m 7 #[.val (.int (0 : Int32))] [(.int (0 : Int32))])) _
    refine st219 _ ?_
    show Steps p.tables e below (T219.setTop (mkF m 10 #[.val (.int (0 : Int32))] [(.int (127 : Int32)), (.int (0 : Int32))])) _
    refine XS.icmpNo X219.here hx rfl (hb hby d13_10) rfl (flt (by decide)).2.2.1 ?_
    show Steps p.tables e below (T219.setTop (mkF m 13 #[.val (.int (0 : Int32))] [])) _
    refine st220 _ ?_
    show Steps p.tables e below (T220.setTop (mkF m 16 #[.val (.int (0 : Int32))] [(.ref ch)])) _
    refine XS.iloadN X220.here hx rfl (hb hby d13_16) rfl ?_
    show Steps p.tables e below (T220.setTop (mkF m 17 #[.val (.int (0 : Int32))] [(.int (0 : Int32)), (.ref ch)])) _
    refine XS.sipush X220.here hx rfl (hb hby d13_17) ?_
    show Steps p.tables e below (T220.setTop (mkF m 20 #[.val (.int (0 : Int32))] [(.int (128 : Int32)), (.int (0 : Int32)), (.ref ch)])) _
    refine XS.iadd X220.here hx rfl (hb hby d13_20) rfl ?_
    show Steps p.tables e below (T220.setTop (mkF m 21 #[.val (.int (0 : Int32))] [(.int (128 : Int32)), (.ref ch)])) _
    refine X220.aaload hx (j := (128 : Int32)) (v := (.ref b0)) (by rw [e220]; exact Ar221.1) (State.isArrayOf_alike hZ.alike Ar221.2.1) rfl Ar221.2.2 (by rw [Sz]; decide) A128 (g := (mkF m 21 #[.val (.int (0 : Int32))] [(.int (128 : Int32)), (.ref ch)])) rfl rfl (hb hby d13_21) _ ?_
    show Steps p.tables e below (T220.setTop (mkF m 22 #[.val (.int (0 : Int32))] [(.ref b0)])) _
    jvm_step X220.here [X220.here.top, hx, (hb hby d13_22), X220.method', Bd.returns, Value.isRef, FieldType.isReference]
    first | (intro acts; rw [hr _ acts rfl rfl rfl]) | rw [hr _ _ rfl rfl rfl]
    exact Steps.refl _
  · show QV (.ref b0) h0 n0 _ T220.heap _
    rw [e220]
    exact ⟨rfl, N0, rfl⟩
set_option maxRecDepth 65536 in
set_option maxHeartbeats 40000000 in
theorem rvo1 (l : Launch) (Z : State) (a0 : Array Value) (hw : ∀ d ∈ tables_1, d.before a0 Z = true) (ws : List Jvm.Cond) (ch : Addr) (cl : Cell) (b0 b1 : Addr) (h0 : Heap) (n0 : Nat) (Z0 : n0 ≤ h0.size) (Od : Old Z n0 h0) (hI : IC Z ch cl b0 b1) :
    MetFree l (⟨"java/lang/Integer", "valueOf", "(I)Ljava/lang/Integer;"⟩ : MethodName) (head1 (Jvm.Cond.code (⟨"java/lang/Integer", "valueOf", "(I)Ljava/lang/Integer;"⟩ : MethodName) jdk_33_method_22_code 1 (some (.object "java/lang/Integer")) :: ws) ({ frames := 0, cells := 0, slots := 0, locals := 0 } : Room)) (fun zA zU => zA = #[(.int (1 : Int32))] ∧ Z.Warmed39 zU.vm ∧ zU.heap = h0) (fun _ _ _ _ _ => True) (fun _ zU zO zW => ∃ zV zL, zO = .returned zV ∧ QV (.ref b1) h0 n0 zV zW.heap zL ∧ FrameEnd zU zO zW zL ({ frames := 0, cells := 0, slots := 0, locals := 0 } : Room).cells ({ frames := 0, cells := 0, slots := 0, locals := 0 } : Room).slots) := by
  refine MetFree.of_bodySF (plainFor_of_name pn_Integer) hisR ?_
  intro p e s m args below meth c s₁ Bd hml0 hP hK
  obtain ⟨rfl, hZ, hh⟩ := hP
  have hx := Bd.exec
  have hby := Bd.bytes
  have hml : c.maxLocals = 1 := hml0
  have hown : s.vm.findClass "java/lang/Integer" = some m.cls := findClass_of_methodNamed Bd.named
  have hnm := (name_of_methodNamed Bd.named Bd.method).1
  have X0 : Stand p l e ({ frames := 0, cells := 0, slots := 0, locals := 0 } : Room) s m #[(.int (1 : Int32))] below meth c s₁ [] 0 0 := Stand.of_body Bd
  have e0 : s₁.heap = h0 := by rw [← hh, Bd.state]; rfl
  have N0 := Fr.nil n0
  have pre0 : ∀ zt, Steps p.tables e below (s₁.setTop (mkF m 0 #[.val (.int (1 : Int32))] [])) zt → Steps p.tables e below (s₁.setTop (entryFrame m #[(.int (1 : Int32))] 1)) zt := fun zt zk => castTop (ef_13_I m (1 : Int32)) zk
  obtain ⟨Sh, Sc, Ach, Sz, A128, A129, Eb0, Eb1, Fb0, Fb1⟩ := hI
  obtain ⟨T222, X222, e222, st222⟩ := getS2 X0 hx hZ hown (host := "") (Or.inl (hw _ (List.mem_of_getElem? (i := 73) rfl))) Via.refl e0 (Sh.ext Od.2) (g := (mkF m 7 #[.val (.int (1 : Int32))] [(.int (1 : Int32))])) rfl (hb hby d13_7)
  obtain ⟨T223, X223, e223, st223⟩ := getS2 X222 hx hZ hown (host := "") (Or.inl (hw _ (List.mem_of_getElem? (i := 75) rfl))) Via.refl e222 (Sc.ext Od.2) (g := (mkF m 13 #[.val (.int (1 : Int32))] [])) rfl (hb hby d13_13)
  have Ar224 := (Ach.ext Od.2)
  obtain ⟨fs, hr, hrun, hended, hW, hsame⟩ := X223.leave (v := some (.ref b1)) (fun h => by rw [Bd.returns] at h; cases h)
  refine ⟨_, _, pre0 _ ?_, hrun, hended, _, _, rfl, ?_, ⟨_, rfl⟩, hW, hsame.mono (by decide) (by decide)⟩
  · show Steps p.tables e below (s₁.setTop (mkF m 0 #[.val (.int (1 : Int32))] [])) _
    refine XS.iloadN X0.here hx rfl (hb hby d13_0) rfl ?_
    show Steps p.tables e below (s₁.setTop (mkF m 1 #[.val (.int (1 : Int32))] [(.int (1 : Int32))])) _
    refine XS.bipush X0.here hx rfl (hb hby d13_1) ?_
    show Steps p.tables e below (s₁.setTop (mkF m 3 #[.val (.int (1 : Int32))] [(.int (-128 : Int32)), (.int (1 : Int32))])) _
    refine XS.icmpNo X0.here hx rfl (hb hby d13_3) rfl (flt (by decide)).1 ?_
    show Steps p.tables e below (s₁.setTop (mkF m 6 #[.val (.int (1 : Int32))] [])) _
    refine XS.iloadN X0.here hx rfl (hb hby d13_6) rfl ?_
    show Steps p.tables e below (s₁.setTop (mkF m 7 #[.val (.int (1 : Int32))] [(.int (1 : Int32))])) _
    refine st222 _ ?_
    show Steps p.tables e below (T222.setTop (mkF m 10 #[.val (.int (1 : Int32))] [(.int (127 : Int32)), (.int (1 : Int32))])) _
    refine XS.icmpNo X222.here hx rfl (hb hby d13_10) rfl (flt (by decide)).2.2.1 ?_
    show Steps p.tables e below (T222.setTop (mkF m 13 #[.val (.int (1 : Int32))] [])) _
    refine st223 _ ?_
    show Steps p.tables e below (T223.setTop (mkF m 16 #[.val (.int (1 : Int32))] [(.ref ch)])) _
    refine XS.iloadN X223.here hx rfl (hb hby d13_16) rfl ?_
    show Steps p.tables e below (T223.setTop (mkF m 17 #[.val (.int (1 : Int32))] [(.int (1 : Int32)), (.ref ch)])) _
    refine XS.sipush X223.here hx rfl (hb hby d13_17) ?_
    show Steps p.tables e below (T223.setTop (mkF m 20 #[.val (.int (1 : Int32))] [(.int (128 : Int32)), (.int (1 : Int32)), (.ref ch)])) _
    refine XS.iadd X223.here hx rfl (hb hby d13_20) rfl ?_
    show Steps p.tables e below (T223.setTop (mkF m 21 #[.val (.int (1 : Int32))] [(.int (129 : Int32)), (.ref ch)])) _
    refine X223.aaload hx (j := (129 : Int32)) (v := (.ref b1)) (by rw [e223]; exact Ar224.1) (State.isArrayOf_alike hZ.alike Ar224.2.1) rfl Ar224.2.2 (by rw [Sz]; decide) A129 (g := (mkF m 21 #[.val (.int (1 : Int32))] [(.int (129 : Int32)), (.ref ch)])) rfl rfl (hb hby d13_21) _ ?_
    show Steps p.tables e below (T223.setTop (mkF m 22 #[.val (.int (1 : Int32))] [(.ref b1)])) _
    jvm_step X223.here [X223.here.top, hx, (hb hby d13_22), X223.method', Bd.returns, Value.isRef, FieldType.isReference]
    first | (intro acts; rw [hr _ acts rfl rfl rfl]) | rw [hr _ _ rfl rfl rfl]
    exact Steps.refl _
  · show QV (.ref b1) h0 n0 _ T223.heap _
    rw [e223]
    exact ⟨rfl, N0, rfl⟩
theorem d14_0 : decode jdk_33_method_27_code 0 = .ok (.aload_n 0, 1) := by decide +kernel
theorem d14_1 : decode jdk_33_method_27_code 1 = .ok (.getfield 205, 3) := by decide +kernel
theorem d14_4 : decode jdk_33_method_27_code 4 = .ok (.ireturn, 1) := by decide +kernel
theorem ef_14_R (m : MethodId) (x0 : Addr) : entryFrame m #[(.ref x0)] 1 = mkF m 0 #[.val (.ref x0)] [] := by first | (simp [entryFrame, mkF, argsToLocals, Value.category]; done) | rfl
set_option maxRecDepth 65536 in
set_option maxHeartbeats 40000000 in
theorem riv (l : Launch) (Z : State) (a0 : Array Value) (hw : ∀ d ∈ tables_1, d.before a0 Z = true) (ws : List Jvm.Cond) (b : Addr) (k : Int32) (h0 : Heap) (n0 : Nat) (Z0 : n0 ≤ h0.size) (F : Fld Z h0 b "java/lang/Integer" "value" "I" (.int k)) :
    MetFree l (⟨"java/lang/Integer", "intValue", "()I"⟩ : MethodName) (head1 (Jvm.Cond.code (⟨"java/lang/Integer", "intValue", "()I"⟩ : MethodName) jdk_33_method_27_code 1 (some .int) :: ws) ({ frames := 0, cells := 0, slots := 0, locals := 0 } : Room)) (fun zA zU => zA = #[(.ref b)] ∧ Z.Warmed39 zU.vm ∧ zU.heap = h0) (fun _ _ _ _ _ => True) (fun _ zU zO zW => ∃ zV zL, zO = .returned zV ∧ QV (.int k) h0 n0 zV zW.heap zL ∧ FrameEnd zU zO zW zL ({ frames := 0, cells := 0, slots := 0, locals := 0 } : Room).cells ({ frames := 0, cells := 0, slots := 0, locals := 0 } : Room).slots) := by
  refine MetFree.of_bodySF (plainFor_of_name pn_Integer) hisR ?_
  intro p e s m args below meth c s₁ Bd hml0 hP hK
  obtain ⟨rfl, hZ, hh⟩ := hP
  have hx := Bd.exec
  have hby := Bd.bytes
  have hml : c.maxLocals = 1 := hml0
  have hown : s.vm.findClass "java/lang/Integer" = some m.cls := findClass_of_methodNamed Bd.named
  have hnm := (name_of_methodNamed Bd.named Bd.method).1
  have X0 : Stand p l e ({ frames := 0, cells := 0, slots := 0, locals := 0 } : Room) s m #[(.ref b)] below meth c s₁ [] 0 0 := Stand.of_body Bd
  have e0 : s₁.heap = h0 := by rw [← hh, Bd.state]; rfl
  have N0 := Fr.nil n0
  have pre0 : ∀ zt, Steps p.tables e below (s₁.setTop (mkF m 0 #[.val (.ref b)] [])) zt → Steps p.tables e below (s₁.setTop (entryFrame m #[(.ref b)] 1)) zt := fun zt zk => castTop (ef_14_R m b) zk
  obtain ⟨T225, X225, e225, st225⟩ := getF X0 hx hZ hown (host := "") (Or.inl (hw _ (List.mem_of_getElem? (i := 81) rfl))) Via.refl e0 F (g := (mkF m 1 #[.val (.ref b)] [(.ref b)])) rfl rfl (hb hby d14_1)
  obtain ⟨fs, hr, hrun, hended, hW, hsame⟩ := X225.leave (v := some (.int k)) (fun h => by rw [Bd.returns] at h; cases h)
  refine ⟨_, _, pre0 _ ?_, hrun, hended, _, _, rfl, ?_, ⟨_, rfl⟩, hW, hsame.mono (by decide) (by decide)⟩
  · show Steps p.tables e below (s₁.setTop (mkF m 0 #[.val (.ref b)] [])) _
    refine XS.aloadN X0.here hx rfl (hb hby d14_0) rfl rfl ?_
    show Steps p.tables e below (s₁.setTop (mkF m 1 #[.val (.ref b)] [(.ref b)])) _
    refine st225 _ ?_
    show Steps p.tables e below (T225.setTop (mkF m 4 #[.val (.ref b)] [(.int k)])) _
    exact retI X225 hx Bd.returns (hb hby d14_4) hr
  · show QV (.int k) h0 n0 _ T225.heap _
    rw [e225]
    exact ⟨rfl, N0, rfl⟩
theorem d9_0 : decode prog_13_method_10_code 0 = .ok (.aconst_null, 1) := by decide +kernel
theorem d9_1 : decode prog_13_method_10_code 1 = .ok (.astore_n 3, 1) := by decide +kernel
theorem d9_2 : decode prog_13_method_10_code 2 = .ok (.iload_n 0, 1) := by decide +kernel
theorem d9_3 : decode prog_13_method_10_code 3 = .ok (.iconst 3, 1) := by decide +kernel
theorem d9_4 : decode prog_13_method_10_code 4 = .ok (.if_icmp .ne 24, 3) := by decide +kernel
theorem d9_7 : decode prog_13_method_10_code 7 = .ok (.iload_n 1, 1) := by decide +kernel
theorem d9_8 : decode prog_13_method_10_code 8 = .ok (.invokestatic 51, 3) := by decide +kernel
theorem pd_1 : parseMethodDescriptor "(I)Z" = some ⟨[.int], some .boolean⟩ := by decide +kernel
theorem d9_11 : decode prog_13_method_10_code 11 = .ok (.ifCond .eq 12, 3) := by decide +kernel
theorem d9_23 : decode prog_13_method_10_code 23 = .ok (.aconst_null, 1) := by decide +kernel
theorem d9_24 : decode prog_13_method_10_code 24 = .ok (.astore_n 3, 1) := by decide +kernel
theorem d9_25 : decode prog_13_method_10_code 25 = .ok (.goto 118, 3) := by decide +kernel
theorem d9_143 : decode prog_13_method_10_code 143 = .ok (.aload_n 3, 1) := by decide +kernel
theorem d9_144 : decode prog_13_method_10_code 144 = .ok (.areturn, 1) := by decide +kernel
theorem ef_9_III (m : MethodId) (x0 : Int32) (x1 : Int32) (x2 : Int32) : entryFrame m #[(.int x0), (.int x1), (.int x2)] 4 = mkF m 0 #[.val (.int x0), .val (.int x1), .val (.int x2), .unset] [] := by first | (simp [entryFrame, mkF, argsToLocals, Value.category]; done) | rfl
set_option maxRecDepth 65536 in
set_option maxHeartbeats 40000000 in
theorem rse322 (l : Launch) (Z : State) (a0 : Array Value) (hw : ∀ d ∈ tables_1, d.before a0 Z = true) (ws : List Jvm.Cond) (ch : Addr) (cl : Cell) (b0 b1 : Addr) (h0 : Heap) (n0 : Nat) (Z0 : n0 ≤ h0.size) (Od : Old Z n0 h0) (hI : IC Z ch cl b0 b1) :
    MetFree l (⟨"com/example/sealed_paths/sealedpaths/core/Conditions", "settled", "(III)Ljava/lang/Integer;"⟩ : MethodName) (head1 (Jvm.Cond.code (⟨"com/example/sealed_paths/sealedpaths/core/Conditions", "settled", "(III)Ljava/lang/Integer;"⟩ : MethodName) prog_13_method_10_code 4 (some (.object "java/lang/Integer")) :: ws) ({ frames := 1, cells := 0, slots := 0, locals := 12 } : Room)) (fun zA zU => zA = #[(.int (3 : Int32)), (.int (2 : Int32)), (.int (2 : Int32))] ∧ Z.Warmed39 zU.vm ∧ zU.heap = h0) (fun _ _ _ _ _ => True) (fun _ zU zO zW => ∃ zV zL, zO = .returned zV ∧ QV .null h0 n0 zV zW.heap zL ∧ FrameEnd zU zO zW zL ({ frames := 1, cells := 0, slots := 0, locals := 12 } : Room).cells ({ frames := 1, cells := 0, slots := 0, locals := 12 } : Room).slots) := by
  refine MetFree.of_bodySF (plainFor_of_name pn_Conditions) hisR ?_
  intro p e s m args below meth c s₁ Bd hml0 hP hK
  obtain ⟨rfl, hZ, hh⟩ := hP
  have hx := Bd.exec
  have hby := Bd.bytes
  have hml : c.maxLocals = 4 := hml0
  have hown : s.vm.findClass "com/example/sealed_paths/sealedpaths/core/Conditions" = some m.cls := findClass_of_methodNamed Bd.named
  have hnm := (name_of_methodNamed Bd.named Bd.method).1
  have X0 : Stand p l e ({ frames := 1, cells := 0, slots := 0, locals := 12 } : Room) s m #[(.int (3 : Int32)), (.int (2 : Int32)), (.int (2 : Int32))] below meth c s₁ [] 0 0 := Stand.of_body Bd
  have e0 : s₁.heap = h0 := by rw [← hh, Bd.state]; rfl
  have N0 := Fr.nil n0
  have pre0 : ∀ zt, Steps p.tables e below (s₁.setTop (mkF m 0 #[.val (.int (3 : Int32)), .val (.int (2 : Int32)), .val (.int (2 : Int32)), .unset] [])) zt → Steps p.tables e below (s₁.setTop (entryFrame m #[(.int (3 : Int32)), (.int (2 : Int32)), (.int (2 : Int32))] 4)) zt := fun zt zk => castTop (ef_9_III m (3 : Int32) (2 : Int32) (2 : Int32)) zk
  have hI0 := hI
  obtain ⟨Sh, Sc, Ach, Sz, A128, A129, Eb0, Eb1, Fb0, Fb1⟩ := hI
  obtain ⟨_, _, ⟨T226, L226, k226, n226⟩, -, X226, ⟨Lc226, hQ226, l226, y226, z226⟩, st226⟩ := Jvm.LawKit.callS X0 hx (y := (⟨"com/example/sealed_paths/sealedpaths/core/Conditions", "isConstant", "(I)Z"⟩ : MethodName)) hown (mvT hZ (hw _ (List.mem_of_getElem? (i := 58) rfl))) (mvT hZ (hw _ (List.mem_of_getElem? (i := 59) rfl))) (mvT hZ (hw _ (List.mem_of_getElem? (i := 2) rfl))) (mvT hZ (hw _ (List.mem_of_getElem? (i := 60) rfl))) (by decide) (backOf (W := 0) (ric2 l Z a0 hw [] (2 : Int32) h0 n0 Z0 (by decide) (by decide)) hZ (hw _ (List.mem_of_getElem? (i := 60) rfl)) (hw _ (List.mem_of_getElem? (i := 2) rfl)) (by decide) (by decide)) (g := (mkF m 8 #[.val (.int (3 : Int32)), .val (.int (2 : Int32)), .val (.int (2 : Int32)), .val .null] [(.int (2 : Int32))])) rfl (by rw [hml]; rfl) (argsL := [(.int (2 : Int32))]) (rest := []) (lenOf pd_1 rfl) rfl (by show 2 * 0 + _ ≤ _; exact Nat.le_of_eq rfl) (hb hby d9_8) (fun _ _ => ⟨rfl, e0, (by decide : 0 + 0 ≤ _), (by decide : 0 + 0 ≤ _)⟩)
  dsimp only [Pt.U, Pt.locs, Pt.cells, Pt.slots] at X226 l226 y226 z226 st226 hQ226
  subst l226 y226 z226
  obtain ⟨rfl, Nq226, e226⟩ := hQ226
  have N226 := Fr.app N0 Nq226
  obtain ⟨fs, hr, hrun, hended, hW, hsame⟩ := X226.leave (v := some .null) (fun h => by rw [Bd.returns] at h; cases h)
  refine ⟨_, _, pre0 _ ?_, hrun, hended, _, _, rfl, ?_, ⟨_, rfl⟩, hW, hsame.mono (by decide) (by decide)⟩
  · show Steps p.tables e below (s₁.setTop (mkF m 0 #[.val (.int (3 : Int32)), .val (.int (2 : Int32)), .val (.int (2 : Int32)), .unset] [])) _
    refine XS.aconstNull X0.here hx rfl (hb hby d9_0) ?_
    show Steps p.tables e below (s₁.setTop (mkF m 1 #[.val (.int (3 : Int32)), .val (.int (2 : Int32)), .val (.int (2 : Int32)), .unset] [.null])) _
    refine XS.astoreN X0.here hx rfl (hb hby d9_1) rfl rfl (l' := #[.val (.int (3 : Int32)), .val (.int (2 : Int32)), .val (.int (2 : Int32)), .val .null]) rfl ?_
    show Steps p.tables e below (s₁.setTop (mkF m 2 #[.val (.int (3 : Int32)), .val (.int (2 : Int32)), .val (.int (2 : Int32)), .val .null] [])) _
    refine XS.iloadN X0.here hx rfl (hb hby d9_2) rfl ?_
    show Steps p.tables e below (s₁.setTop (mkF m 3 #[.val (.int (3 : Int32)), .val (.int (2 : Int32)), .val (.int (2 : Int32)), .val .null] [(.int (3 : Int32))])) _
    refine XS.iconst X0.here hx rfl (hb hby d9_3) ?_
    show Steps p.tables e below (s₁.setTop (mkF m 4 #[.val (.int (3 : Int32)), .val (.int (2 : Int32)), .val (.int (2 : Int32)), .val .null] [(.int (3 : Int32)), (.int (3 : Int32))])) _
    refine XS.icmpNo X0.here hx rfl (hb hby d9_4) rfl (teq (by decide)).2 ?_
    show Steps p.tables e below (s₁.setTop (mkF m 7 #[.val (.int (3 : Int32)), .val (.int (2 : Int32)), .val (.int (2 : Int32)), .val .null] [])) _
    refine XS.iloadN X0.here hx rfl (hb hby d9_7) rfl ?_
    show Steps p.tables e below (s₁.setTop (mkF m 8 #[.val (.int (3 : Int32)), .val (.int (2 : Int32)), .val (.int (2 : Int32)), .val .null] [(.int (2 : Int32))])) _
    refine st226 _ ?_
    show Steps p.tables e below (T226.setTop (mkF m 11 #[.val (.int (3 : Int32)), .val (.int (2 : Int32)), .val (.int (2 : Int32)), .val .null] [(.int (0 : Int32))])) _
    refine XS.ifYes X226.here hx rfl (pc0 := 11) (pc' := 23) rfl (hb hby d9_11) rfl ((if0 _ _).trans (teq (by decide)).1) (by decide) (by decide) ?_
    show Steps p.tables e below (T226.setTop (mkF m 23 #[.val (.int (3 : Int32)), .val (.int (2 : Int32)), .val (.int (2 : Int32)), .val .null] [])) _
    refine XS.aconstNull X226.here hx rfl (hb hby d9_23) ?_
    show Steps p.tables e below (T226.setTop (mkF m 24 #[.val (.int (3 : Int32)), .val (.int (2 : Int32)), .val (.int (2 : Int32)), .val .null] [.null])) _
    refine XS.astoreN X226.here hx rfl (hb hby d9_24) rfl rfl (l' := #[.val (.int (3 : Int32)), .val (.int (2 : Int32)), .val (.int (2 : Int32)), .val .null]) rfl ?_
    show Steps p.tables e below (T226.setTop (mkF m 25 #[.val (.int (3 : Int32)), .val (.int (2 : Int32)), .val (.int (2 : Int32)), .val .null] [])) _
    refine XS.goto X226.here hx rfl (pc0 := 25) (pc' := 143) rfl (hb hby d9_25) (by decide) (by decide) ?_
    show Steps p.tables e below (T226.setTop (mkF m 143 #[.val (.int (3 : Int32)), .val (.int (2 : Int32)), .val (.int (2 : Int32)), .val .null] [])) _
    refine XS.aloadN X226.here hx rfl (hb hby d9_143) rfl rfl ?_
    show Steps p.tables e below (T226.setTop (mkF m 144 #[.val (.int (3 : Int32)), .val (.int (2 : Int32)), .val (.int (2 : Int32)), .val .null] [.null])) _
    jvm_step X226.here [X226.here.top, hx, (hb hby d9_144), X226.method', Bd.returns, Value.isRef, FieldType.isReference]
    first | (intro acts; rw [hr _ acts rfl rfl rfl]) | rw [hr _ _ rfl rfl rfl]
    exact Steps.refl _
  · show QV .null h0 n0 _ T226.heap _
    rw [e226]
    exact ⟨rfl, N226, rfl⟩
theorem d9_28 : decode prog_13_method_10_code 28 = .ok (.iload_n 1, 1) := by decide +kernel
theorem d9_29 : decode prog_13_method_10_code 29 = .ok (.iload_n 2, 1) := by decide +kernel
theorem d9_30 : decode prog_13_method_10_code 30 = .ok (.if_icmp .ne 11, 3) := by decide +kernel
theorem d9_41 : decode prog_13_method_10_code 41 = .ok (.iload_n 0, 1) := by decide +kernel
theorem d9_42 : decode prog_13_method_10_code 42 = .ok (.iconst 1, 1) := by decide +kernel
theorem d9_43 : decode prog_13_method_10_code 43 = .ok (.if_icmp .ne 19, 3) := by decide +kernel
theorem d9_46 : decode prog_13_method_10_code 46 = .ok (.iload_n 1, 1) := by decide +kernel
theorem d9_47 : decode prog_13_method_10_code 47 = .ok (.ifCond .eq 7, 3) := by decide +kernel
theorem d9_50 : decode prog_13_method_10_code 50 = .ok (.iload_n 2, 1) := by decide +kernel
theorem d9_51 : decode prog_13_method_10_code 51 = .ok (.ifCond .ne 11, 3) := by decide +kernel
theorem d9_62 : decode prog_13_method_10_code 62 = .ok (.iload_n 0, 1) := by decide +kernel
theorem d9_63 : decode prog_13_method_10_code 63 = .ok (.iconst 1, 1) := by decide +kernel
theorem d9_64 : decode prog_13_method_10_code 64 = .ok (.if_icmp .ne 30, 3) := by decide +kernel
theorem d9_67 : decode prog_13_method_10_code 67 = .ok (.iload_n 1, 1) := by decide +kernel
theorem d9_68 : decode prog_13_method_10_code 68 = .ok (.iconst 1, 1) := by decide +kernel
theorem d9_69 : decode prog_13_method_10_code 69 = .ok (.if_icmp .eq 8, 3) := by decide +kernel
theorem d9_72 : decode prog_13_method_10_code 72 = .ok (.iload_n 2, 1) := by decide +kernel
theorem d9_73 : decode prog_13_method_10_code 73 = .ok (.iconst 1, 1) := by decide +kernel
theorem d9_74 : decode prog_13_method_10_code 74 = .ok (.if_icmp .ne 20, 3) := by decide +kernel
theorem d9_94 : decode prog_13_method_10_code 94 = .ok (.iload_n 0, 1) := by decide +kernel
theorem d9_95 : decode prog_13_method_10_code 95 = .ok (.iconst 2, 1) := by decide +kernel
theorem d9_96 : decode prog_13_method_10_code 96 = .ok (.if_icmp .ne 21, 3) := by decide +kernel
theorem d9_117 : decode prog_13_method_10_code 117 = .ok (.iload_n 0, 1) := by decide +kernel
theorem d9_118 : decode prog_13_method_10_code 118 = .ok (.iconst 2, 1) := by decide +kernel
theorem d9_119 : decode prog_13_method_10_code 119 = .ok (.if_icmp .ne 24, 3) := by decide +kernel
set_option maxRecDepth 65536 in
set_option maxHeartbeats 40000000 in
theorem rse123 (l : Launch) (Z : State) (a0 : Array Value) (hw : ∀ d ∈ tables_1, d.before a0 Z = true) (ws : List Jvm.Cond) (ch : Addr) (cl : Cell) (b0 b1 : Addr) (h0 : Heap) (n0 : Nat) (Z0 : n0 ≤ h0.size) (Od : Old Z n0 h0) (hI : IC Z ch cl b0 b1) :
    MetFree l (⟨"com/example/sealed_paths/sealedpaths/core/Conditions", "settled", "(III)Ljava/lang/Integer;"⟩ : MethodName) (head1 (Jvm.Cond.code (⟨"com/example/sealed_paths/sealedpaths/core/Conditions", "settled", "(III)Ljava/lang/Integer;"⟩ : MethodName) prog_13_method_10_code 4 (some (.object "java/lang/Integer")) :: ws) ({ frames := 1, cells := 0, slots := 0, locals := 12 } : Room)) (fun zA zU => zA = #[(.int (1 : Int32)), (.int (2 : Int32)), (.int (3 : Int32))] ∧ Z.Warmed39 zU.vm ∧ zU.heap = h0) (fun _ _ _ _ _ => True) (fun _ zU zO zW => ∃ zV zL, zO = .returned zV ∧ QV .null h0 n0 zV zW.heap zL ∧ FrameEnd zU zO zW zL ({ frames := 1, cells := 0, slots := 0, locals := 12 } : Room).cells ({ frames := 1, cells := 0, slots := 0, locals := 12 } : Room).slots) := by
  refine MetFree.of_bodySF (plainFor_of_name pn_Conditions) hisR ?_
  intro p e s m args below meth c s₁ Bd hml0 hP hK
  obtain ⟨rfl, hZ, hh⟩ := hP
  have hx := Bd.exec
  have hby := Bd.bytes
  have hml : c.maxLocals = 4 := hml0
  have hown : s.vm.findClass "com/example/sealed_paths/sealedpaths/core/Conditions" = some m.cls := findClass_of_methodNamed Bd.named
  have hnm := (name_of_methodNamed Bd.named Bd.method).1
  have X0 : Stand p l e ({ frames := 1, cells := 0, slots := 0, locals := 12 } : Room) s m #[(.int (1 : Int32)), (.int (2 : Int32)), (.int (3 : Int32))] below meth c s₁ [] 0 0 := Stand.of_body Bd
  have e0 : s₁.heap = h0 := by rw [← hh, Bd.state]; rfl
  have N0 := Fr.nil n0
  have pre0 : ∀ zt, Steps p.tables e below (s₁.setTop (mkF m 0 #[.val (.int (1 : Int32)), .val (.int (2 : Int32)), .val (.int (3 : Int32)), .unset] [])) zt → Steps p.tables e below (s₁.setTop (entryFrame m #[(.int (1 : Int32)), (.int (2 : Int32)), (.int (3 : Int32))] 4)) zt := fun zt zk => castTop (ef_9_III m (1 : Int32) (2 : Int32) (3 : Int32)) zk
  have hI0 := hI
  obtain ⟨Sh, Sc, Ach, Sz, A128, A129, Eb0, Eb1, Fb0, Fb1⟩ := hI
  obtain ⟨fs, hr, hrun, hended, hW, hsame⟩ := X0.leave (v := some .null) (fun h => by rw [Bd.returns] at h; cases h)
  refine ⟨_, _, pre0 _ ?_, hrun, hended, _, _, rfl, ?_, ⟨_, rfl⟩, hW, hsame.mono (by decide) (by decide)⟩
  · show Steps p.tables e below (s₁.setTop (mkF m 0 #[.val (.int (1 : Int32)), .val (.int (2 : Int32)), .val (.int (3 : Int32)), .unset] [])) _
    refine XS.aconstNull X0.here hx rfl (hb hby d9_0) ?_
    show Steps p.tables e below (s₁.setTop (mkF m 1 #[.val (.int (1 : Int32)), .val (.int (2 : Int32)), .val (.int (3 : Int32)), .unset] [.null])) _
    refine XS.astoreN X0.here hx rfl (hb hby d9_1) rfl rfl (l' := #[.val (.int (1 : Int32)), .val (.int (2 : Int32)), .val (.int (3 : Int32)), .val .null]) rfl ?_
    show Steps p.tables e below (s₁.setTop (mkF m 2 #[.val (.int (1 : Int32)), .val (.int (2 : Int32)), .val (.int (3 : Int32)), .val .null] [])) _
    refine XS.iloadN X0.here hx rfl (hb hby d9_2) rfl ?_
    show Steps p.tables e below (s₁.setTop (mkF m 3 #[.val (.int (1 : Int32)), .val (.int (2 : Int32)), .val (.int (3 : Int32)), .val .null] [(.int (1 : Int32))])) _
    refine XS.iconst X0.here hx rfl (hb hby d9_3) ?_
    show Steps p.tables e below (s₁.setTop (mkF m 4 #[.val (.int (1 : Int32)), .val (.int (2 : Int32)), .val (.int (3 : Int32)), .val .null] [(.int (3 : Int32)), (.int (1 : Int32))])) _
    refine XS.icmpYes X0.here hx rfl (pc0 := 4) (pc' := 28) rfl (hb hby d9_4) rfl (feq (by decide)).2 (by decide) (by decide) ?_
    show Steps p.tables e below (s₁.setTop (mkF m 28 #[.val (.int (1 : Int32)), .val (.int (2 : Int32)), .val (.int (3 : Int32)), .val .null] [])) _
    refine XS.iloadN X0.here hx rfl (hb hby d9_28) rfl ?_
    show Steps p.tables e below (s₁.setTop (mkF m 29 #[.val (.int (1 : Int32)), .val (.int (2 : Int32)), .val (.int (3 : Int32)), .val .null] [(.int (2 : Int32))])) _
    refine XS.iloadN X0.here hx rfl (hb hby d9_29) rfl ?_
    show Steps p.tables e below (s₁.setTop (mkF m 30 #[.val (.int (1 : Int32)), .val (.int (2 : Int32)), .val (.int (3 : Int32)), .val .null] [(.int (3 : Int32)), (.int (2 : Int32))])) _
    refine XS.icmpYes X0.here hx rfl (pc0 := 30) (pc' := 41) rfl (hb hby d9_30) rfl (feq (by decide)).2 (by decide) (by decide) ?_
    show Steps p.tables e below (s₁.setTop (mkF m 41 #[.val (.int (1 : Int32)), .val (.int (2 : Int32)), .val (.int (3 : Int32)), .val .null] [])) _
    refine XS.iloadN X0.here hx rfl (hb hby d9_41) rfl ?_
    show Steps p.tables e below (s₁.setTop (mkF m 42 #[.val (.int (1 : Int32)), .val (.int (2 : Int32)), .val (.int (3 : Int32)), .val .null] [(.int (1 : Int32))])) _
    refine XS.iconst X0.here hx rfl (hb hby d9_42) ?_
    show Steps p.tables e below (s₁.setTop (mkF m 43 #[.val (.int (1 : Int32)), .val (.int (2 : Int32)), .val (.int (3 : Int32)), .val .null] [(.int (1 : Int32)), (.int (1 : Int32))])) _
    refine XS.icmpNo X0.here hx rfl (hb hby d9_43) rfl (teq (by decide)).2 ?_
    show Steps p.tables e below (s₁.setTop (mkF m 46 #[.val (.int (1 : Int32)), .val (.int (2 : Int32)), .val (.int (3 : Int32)), .val .null] [])) _
    refine XS.iloadN X0.here hx rfl (hb hby d9_46) rfl ?_
    show Steps p.tables e below (s₁.setTop (mkF m 47 #[.val (.int (1 : Int32)), .val (.int (2 : Int32)), .val (.int (3 : Int32)), .val .null] [(.int (2 : Int32))])) _
    refine XS.ifNo X0.here hx rfl (hb hby d9_47) rfl ((if0 _ _).trans (feq (by decide)).1) ?_
    show Steps p.tables e below (s₁.setTop (mkF m 50 #[.val (.int (1 : Int32)), .val (.int (2 : Int32)), .val (.int (3 : Int32)), .val .null] [])) _
    refine XS.iloadN X0.here hx rfl (hb hby d9_50) rfl ?_
    show Steps p.tables e below (s₁.setTop (mkF m 51 #[.val (.int (1 : Int32)), .val (.int (2 : Int32)), .val (.int (3 : Int32)), .val .null] [(.int (3 : Int32))])) _
    refine XS.ifYes X0.here hx rfl (pc0 := 51) (pc' := 62) rfl (hb hby d9_51) rfl ((if0 _ _).trans (feq (by decide)).2) (by decide) (by decide) ?_
    show Steps p.tables e below (s₁.setTop (mkF m 62 #[.val (.int (1 : Int32)), .val (.int (2 : Int32)), .val (.int (3 : Int32)), .val .null] [])) _
    refine XS.iloadN X0.here hx rfl (hb hby d9_62) rfl ?_
    show Steps p.tables e below (s₁.setTop (mkF m 63 #[.val (.int (1 : Int32)), .val (.int (2 : Int32)), .val (.int (3 : Int32)), .val .null] [(.int (1 : Int32))])) _
    refine XS.iconst X0.here hx rfl (hb hby d9_63) ?_
    show Steps p.tables e below (s₁.setTop (mkF m 64 #[.val (.int (1 : Int32)), .val (.int (2 : Int32)), .val (.int (3 : Int32)), .val .null] [(.int (1 : Int32)), (.int (1 : Int32))])) _
    refine XS.icmpNo X0.here hx rfl (hb hby d9_64) rfl (teq (by decide)).2 ?_
    show Steps p.tables e below (s₁.setTop (mkF m 67 #[.val (.int (1 : Int32)), .val (.int (2 : Int32)), .val (.int (3 : Int32)), .val .null] [])) _
    refine XS.iloadN X0.here hx rfl (hb hby d9_67) rfl ?_
    show Steps p.tables e below (s₁.setTop (mkF m 68 #[.val (.int (1 : Int32)), .val (.int (2 : Int32)), .val (.int (3 : Int32)), .val .null] [(.int (2 : Int32))])) _
    refine XS.iconst X0.here hx rfl (hb hby d9_68) ?_
    show Steps p.tables e below (s₁.setTop (mkF m 69 #[.val (.int (1 : Int32)), .val (.int (2 : Int32)), .val (.int (3 : Int32)), .val .null] [(.int (1 : Int32)), (.int (2 : Int32))])) _
    refine XS.icmpNo X0.here hx rfl (hb hby d9_69) rfl (feq (by decide)).1 ?_
    show Steps p.tables e below (s₁.setTop (mkF m 72 #[.val (.int (1 : Int32)), .val (.int (2 : Int32)), .val (.int (3 : Int32)), .val .null] [])) _
    refine XS.iloadN X0.here hx rfl (hb hby d9_72) rfl ?_
    show Steps p.tables e below (s₁.setTop (mkF m 73 #[.val (.int (1 : Int32)), .val (.int (2 : Int32)), .val (.int (3 : Int32)), .val .null] [(.int (3 : Int32))])) _
    refine XS.iconst X0.here hx rfl (hb hby d9_73) ?_
    show Steps p.tables e below (s₁.setTop (mkF m 74 #[.val (.int (1 : Int32)), .val (.int (2 : Int32)), .val (.int (3 : Int32)), .val .null] [(.int (1 : Int32)), (.int (3 : Int32))])) _
    refine XS.icmpYes X0.here hx rfl (pc0 := 74) (pc' := 94) rfl (hb hby d9_74) rfl (feq (by decide)).2 (by decide) (by decide) ?_
    show Steps p.tables e below (s₁.setTop (mkF m 94 #[.val (.int (1 : Int32)), .val (.int (2 : Int32)), .val (.int (3 : Int32)), .val .null] [])) _
    refine XS.iloadN X0.here hx rfl (hb hby d9_94) rfl ?_
    show Steps p.tables e below (s₁.setTop (mkF m 95 #[.val (.int (1 : Int32)), .val (.int (2 : Int32)), .val (.int (3 : Int32)), .val .null] [(.int (1 : Int32))])) _
    refine XS.iconst X0.here hx rfl (hb hby d9_95) ?_
    show Steps p.tables e below (s₁.setTop (mkF m 96 #[.val (.int (1 : Int32)), .val (.int (2 : Int32)), .val (.int (3 : Int32)), .val .null] [(.int (2 : Int32)), (.int (1 : Int32))])) _
    refine XS.icmpYes X0.here hx rfl (pc0 := 96) (pc' := 117) rfl (hb hby d9_96) rfl (feq (by decide)).2 (by decide) (by decide) ?_
    show Steps p.tables e below (s₁.setTop (mkF m 117 #[.val (.int (1 : Int32)), .val (.int (2 : Int32)), .val (.int (3 : Int32)), .val .null] [])) _
    refine XS.iloadN X0.here hx rfl (hb hby d9_117) rfl ?_
    show Steps p.tables e below (s₁.setTop (mkF m 118 #[.val (.int (1 : Int32)), .val (.int (2 : Int32)), .val (.int (3 : Int32)), .val .null] [(.int (1 : Int32))])) _
    refine XS.iconst X0.here hx rfl (hb hby d9_118) ?_
    show Steps p.tables e below (s₁.setTop (mkF m 119 #[.val (.int (1 : Int32)), .val (.int (2 : Int32)), .val (.int (3 : Int32)), .val .null] [(.int (2 : Int32)), (.int (1 : Int32))])) _
    refine XS.icmpYes X0.here hx rfl (pc0 := 119) (pc' := 143) rfl (hb hby d9_119) rfl (feq (by decide)).2 (by decide) (by decide) ?_
    show Steps p.tables e below (s₁.setTop (mkF m 143 #[.val (.int (1 : Int32)), .val (.int (2 : Int32)), .val (.int (3 : Int32)), .val .null] [])) _
    refine XS.aloadN X0.here hx rfl (hb hby d9_143) rfl rfl ?_
    show Steps p.tables e below (s₁.setTop (mkF m 144 #[.val (.int (1 : Int32)), .val (.int (2 : Int32)), .val (.int (3 : Int32)), .val .null] [.null])) _
    jvm_step X0.here [X0.here.top, hx, (hb hby d9_144), X0.method', Bd.returns, Value.isRef, FieldType.isReference]
    first | (intro acts; rw [hr _ acts rfl rfl rfl]) | rw [hr _ _ rfl rfl rfl]
    exact Steps.refl _
  · show QV .null h0 n0 _ s₁.heap _
    rw [e0]
    exact ⟨rfl, N0, rfl⟩
theorem d9_99 : decode prog_13_method_10_code 99 = .ok (.iload_n 1, 1) := by decide +kernel
theorem d9_100 : decode prog_13_method_10_code 100 = .ok (.iconst 1, 1) := by decide +kernel
theorem d9_101 : decode prog_13_method_10_code 101 = .ok (.if_icmp .eq 8, 3) := by decide +kernel
theorem d9_104 : decode prog_13_method_10_code 104 = .ok (.iload_n 2, 1) := by decide +kernel
theorem d9_105 : decode prog_13_method_10_code 105 = .ok (.iconst 1, 1) := by decide +kernel
theorem d9_106 : decode prog_13_method_10_code 106 = .ok (.if_icmp .ne 11, 3) := by decide +kernel
theorem d9_122 : decode prog_13_method_10_code 122 = .ok (.iload_n 1, 1) := by decide +kernel
theorem d9_123 : decode prog_13_method_10_code 123 = .ok (.ifCond .eq 7, 3) := by decide +kernel
theorem d9_126 : decode prog_13_method_10_code 126 = .ok (.iload_n 2, 1) := by decide +kernel
theorem d9_127 : decode prog_13_method_10_code 127 = .ok (.ifCond .ne 16, 3) := by decide +kernel
set_option maxRecDepth 65536 in
set_option maxHeartbeats 40000000 in
theorem rse223 (l : Launch) (Z : State) (a0 : Array Value) (hw : ∀ d ∈ tables_1, d.before a0 Z = true) (ws : List Jvm.Cond) (ch : Addr) (cl : Cell) (b0 b1 : Addr) (h0 : Heap) (n0 : Nat) (Z0 : n0 ≤ h0.size) (Od : Old Z n0 h0) (hI : IC Z ch cl b0 b1) :
    MetFree l (⟨"com/example/sealed_paths/sealedpaths/core/Conditions", "settled", "(III)Ljava/lang/Integer;"⟩ : MethodName) (head1 (Jvm.Cond.code (⟨"com/example/sealed_paths/sealedpaths/core/Conditions", "settled", "(III)Ljava/lang/Integer;"⟩ : MethodName) prog_13_method_10_code 4 (some (.object "java/lang/Integer")) :: ws) ({ frames := 1, cells := 0, slots := 0, locals := 12 } : Room)) (fun zA zU => zA = #[(.int (2 : Int32)), (.int (2 : Int32)), (.int (3 : Int32))] ∧ Z.Warmed39 zU.vm ∧ zU.heap = h0) (fun _ _ _ _ _ => True) (fun _ zU zO zW => ∃ zV zL, zO = .returned zV ∧ QV .null h0 n0 zV zW.heap zL ∧ FrameEnd zU zO zW zL ({ frames := 1, cells := 0, slots := 0, locals := 12 } : Room).cells ({ frames := 1, cells := 0, slots := 0, locals := 12 } : Room).slots) := by
  refine MetFree.of_bodySF (plainFor_of_name pn_Conditions) hisR ?_
  intro p e s m args below meth c s₁ Bd hml0 hP hK
  obtain ⟨rfl, hZ, hh⟩ := hP
  have hx := Bd.exec
  have hby := Bd.bytes
  have hml : c.maxLocals = 4 := hml0
  have hown : s.vm.findClass "com/example/sealed_paths/sealedpaths/core/Conditions" = some m.cls := findClass_of_methodNamed Bd.named
  have hnm := (name_of_methodNamed Bd.named Bd.method).1
  have X0 : Stand p l e ({ frames := 1, cells := 0, slots := 0, locals := 12 } : Room) s m #[(.int (2 : Int32)), (.int (2 : Int32)), (.int (3 : Int32))] below meth c s₁ [] 0 0 := Stand.of_body Bd
  have e0 : s₁.heap = h0 := by rw [← hh, Bd.state]; rfl
  have N0 := Fr.nil n0
  have pre0 : ∀ zt, Steps p.tables e below (s₁.setTop (mkF m 0 #[.val (.int (2 : Int32)), .val (.int (2 : Int32)), .val (.int (3 : Int32)), .unset] [])) zt → Steps p.tables e below (s₁.setTop (entryFrame m #[(.int (2 : Int32)), (.int (2 : Int32)), (.int (3 : Int32))] 4)) zt := fun zt zk => castTop (ef_9_III m (2 : Int32) (2 : Int32) (3 : Int32)) zk
  have hI0 := hI
  obtain ⟨Sh, Sc, Ach, Sz, A128, A129, Eb0, Eb1, Fb0, Fb1⟩ := hI
  obtain ⟨fs, hr, hrun, hended, hW, hsame⟩ := X0.leave (v := some .null) (fun h => by rw [Bd.returns] at h; cases h)
  refine ⟨_, _, pre0 _ ?_, hrun, hended, _, _, rfl, ?_, ⟨_, rfl⟩, hW, hsame.mono (by decide) (by decide)⟩
  · show Steps p.tables e below (s₁.setTop (mkF m 0 #[.val (.int (2 : Int32)), .val (.int (2 : Int32)), .val (.int (3 : Int32)), .unset] [])) _
    refine XS.aconstNull X0.here hx rfl (hb hby d9_0) ?_
    show Steps p.tables e below (s₁.setTop (mkF m 1 #[.val (.int (2 : Int32)), .val (.int (2 : Int32)), .val (.int (3 : Int32)), .unset] [.null])) _
    refine XS.astoreN X0.here hx rfl (hb hby d9_1) rfl rfl (l' := #[.val (.int (2 : Int32)), .val (.int (2 : Int32)), .val (.int (3 : Int32)), .val .null]) rfl ?_
    show Steps p.tables e below (s₁.setTop (mkF m 2 #[.val (.int (2 : Int32)), .val (.int (2 : Int32)), .val (.int (3 : Int32)), .val .null] [])) _
    refine XS.iloadN X0.here hx rfl (hb hby d9_2) rfl ?_
    show Steps p.tables e below (s₁.setTop (mkF m 3 #[.val (.int (2 : Int32)), .val (.int (2 : Int32)), .val (.int (3 : Int32)), .val .null] [(.int (2 : Int32))])) _
    refine XS.iconst X0.here hx rfl (hb hby d9_3) ?_
    show Steps p.tables e below (s₁.setTop (mkF m 4 #[.val (.int (2 : Int32)), .val (.int (2 : Int32)), .val (.int (3 : Int32)), .val .null] [(.int (3 : Int32)), (.int (2 : Int32))])) _
    refine XS.icmpYes X0.here hx rfl (pc0 := 4) (pc' := 28) rfl (hb hby d9_4) rfl (feq (by decide)).2 (by decide) (by decide) ?_
    show Steps p.tables e below (s₁.setTop (mkF m 28 #[.val (.int (2 : Int32)), .val (.int (2 : Int32)), .val (.int (3 : Int32)), .val .null] [])) _
    refine XS.iloadN X0.here hx rfl (hb hby d9_28) rfl ?_
    show Steps p.tables e below (s₁.setTop (mkF m 29 #[.val (.int (2 : Int32)), .val (.int (2 : Int32)), .val (.int (3 : Int32)), .val .null] [(.int (2 : Int32))])) _
    refine XS.iloadN X0.here hx rfl (hb hby d9_29) rfl ?_
    show Steps p.tables e below (s₁.setTop (mkF m 30 #[.val (.int (2 : Int32)), .val (.int (2 : Int32)), .val (.int (3 : Int32)), .val .null] [(.int (3 : Int32)), (.int (2 : Int32))])) _
    refine XS.icmpYes X0.here hx rfl (pc0 := 30) (pc' := 41) rfl (hb hby d9_30) rfl (feq (by decide)).2 (by decide) (by decide) ?_
    show Steps p.tables e below (s₁.setTop (mkF m 41 #[.val (.int (2 : Int32)), .val (.int (2 : Int32)), .val (.int (3 : Int32)), .val .null] [])) _
    refine XS.iloadN X0.here hx rfl (hb hby d9_41) rfl ?_
    show Steps p.tables e below (s₁.setTop (mkF m 42 #[.val (.int (2 : Int32)), .val (.int (2 : Int32)), .val (.int (3 : Int32)), .val .null] [(.int (2 : Int32))])) _
    refine XS.iconst X0.here hx rfl (hb hby d9_42) ?_
    show Steps p.tables e below (s₁.setTop (mkF m 43 #[.val (.int (2 : Int32)), .val (.int (2 : Int32)), .val (.int (3 : Int32)), .val .null] [(.int (1 : Int32)), (.int (2 : Int32))])) _
    refine XS.icmpYes X0.here hx rfl (pc0 := 43) (pc' := 62) rfl (hb hby d9_43) rfl (feq (by decide)).2 (by decide) (by decide) ?_
    show Steps p.tables e below (s₁.setTop (mkF m 62 #[.val (.int (2 : Int32)), .val (.int (2 : Int32)), .val (.int (3 : Int32)), .val .null] [])) _
    refine XS.iloadN X0.here hx rfl (hb hby d9_62) rfl ?_
    show Steps p.tables e below (s₁.setTop (mkF m 63 #[.val (.int (2 : Int32)), .val (.int (2 : Int32)), .val (.int (3 : Int32)), .val .null] [(.int (2 : Int32))])) _
    refine XS.iconst X0.here hx rfl (hb hby d9_63) ?_
    show Steps p.tables e below (s₁.setTop (mkF m 64 #[.val (.int (2 : Int32)), .val (.int (2 : Int32)), .val (.int (3 : Int32)), .val .null] [(.int (1 : Int32)), (.int (2 : Int32))])) _
    refine XS.icmpYes X0.here hx rfl (pc0 := 64) (pc' := 94) rfl (hb hby d9_64) rfl (feq (by decide)).2 (by decide) (by decide) ?_
    show Steps p.tables e below (s₁.setTop (mkF m 94 #[.val (.int (2 : Int32)), .val (.int (2 : Int32)), .val (.int (3 : Int32)), .val .null] [])) _
    refine XS.iloadN X0.here hx rfl (hb hby d9_94) rfl ?_
    show Steps p.tables e below (s₁.setTop (mkF m 95 #[.val (.int (2 : Int32)), .val (.int (2 : Int32)), .val (.int (3 : Int32)), .val .null] [(.int (2 : Int32))])) _
    refine XS.iconst X0.here hx rfl (hb hby d9_95) ?_
    show Steps p.tables e below (s₁.setTop (mkF m 96 #[.val (.int (2 : Int32)), .val (.int (2 : Int32)), .val (.int (3 : Int32)), .val .null] [(.int (2 : Int32)), (.int (2 : Int32))])) _
    refine XS.icmpNo X0.here hx rfl (hb hby d9_96) rfl (teq (by decide)).2 ?_
    show Steps p.tables e below (s₁.setTop (mkF m 99 #[.val (.int (2 : Int32)), .val (.int (2 : Int32)), .val (.int (3 : Int32)), .val .null] [])) _
    refine XS.iloadN X0.here hx rfl (hb hby d9_99) rfl ?_
    show Steps p.tables e below (s₁.setTop (mkF m 100 #[.val (.int (2 : Int32)), .val (.int (2 : Int32)), .val (.int (3 : Int32)), .val .null] [(.int (2 : Int32))])) _
    refine XS.iconst X0.here hx rfl (hb hby d9_100) ?_
    show Steps p.tables e below (s₁.setTop (mkF m 101 #[.val (.int (2 : Int32)), .val (.int (2 : Int32)), .val (.int (3 : Int32)), .val .null] [(.int (1 : Int32)), (.int (2 : Int32))])) _
    refine XS.icmpNo X0.here hx rfl (hb hby d9_101) rfl (feq (by decide)).1 ?_
    show Steps p.tables e below (s₁.setTop (mkF m 104 #[.val (.int (2 : Int32)), .val (.int (2 : Int32)), .val (.int (3 : Int32)), .val .null] [])) _
    refine XS.iloadN X0.here hx rfl (hb hby d9_104) rfl ?_
    show Steps p.tables e below (s₁.setTop (mkF m 105 #[.val (.int (2 : Int32)), .val (.int (2 : Int32)), .val (.int (3 : Int32)), .val .null] [(.int (3 : Int32))])) _
    refine XS.iconst X0.here hx rfl (hb hby d9_105) ?_
    show Steps p.tables e below (s₁.setTop (mkF m 106 #[.val (.int (2 : Int32)), .val (.int (2 : Int32)), .val (.int (3 : Int32)), .val .null] [(.int (1 : Int32)), (.int (3 : Int32))])) _
    refine XS.icmpYes X0.here hx rfl (pc0 := 106) (pc' := 117) rfl (hb hby d9_106) rfl (feq (by decide)).2 (by decide) (by decide) ?_
    show Steps p.tables e below (s₁.setTop (mkF m 117 #[.val (.int (2 : Int32)), .val (.int (2 : Int32)), .val (.int (3 : Int32)), .val .null] [])) _
    refine XS.iloadN X0.here hx rfl (hb hby d9_117) rfl ?_
    show Steps p.tables e below (s₁.setTop (mkF m 118 #[.val (.int (2 : Int32)), .val (.int (2 : Int32)), .val (.int (3 : Int32)), .val .null] [(.int (2 : Int32))])) _
    refine XS.iconst X0.here hx rfl (hb hby d9_118) ?_
    show Steps p.tables e below (s₁.setTop (mkF m 119 #[.val (.int (2 : Int32)), .val (.int (2 : Int32)), .val (.int (3 : Int32)), .val .null] [(.int (2 : Int32)), (.int (2 : Int32))])) _
    refine XS.icmpNo X0.here hx rfl (hb hby d9_119) rfl (teq (by decide)).2 ?_
    show Steps p.tables e below (s₁.setTop (mkF m 122 #[.val (.int (2 : Int32)), .val (.int (2 : Int32)), .val (.int (3 : Int32)), .val .null] [])) _
    refine XS.iloadN X0.here hx rfl (hb hby d9_122) rfl ?_
    show Steps p.tables e below (s₁.setTop (mkF m 123 #[.val (.int (2 : Int32)), .val (.int (2 : Int32)), .val (.int (3 : Int32)), .val .null] [(.int (2 : Int32))])) _
    refine XS.ifNo X0.here hx rfl (hb hby d9_123) rfl ((if0 _ _).trans (feq (by decide)).1) ?_
    show Steps p.tables e below (s₁.setTop (mkF m 126 #[.val (.int (2 : Int32)), .val (.int (2 : Int32)), .val (.int (3 : Int32)), .val .null] [])) _
    refine XS.iloadN X0.here hx rfl (hb hby d9_126) rfl ?_
    show Steps p.tables e below (s₁.setTop (mkF m 127 #[.val (.int (2 : Int32)), .val (.int (2 : Int32)), .val (.int (3 : Int32)), .val .null] [(.int (3 : Int32))])) _
    refine XS.ifYes X0.here hx rfl (pc0 := 127) (pc' := 143) rfl (hb hby d9_127) rfl ((if0 _ _).trans (feq (by decide)).2) (by decide) (by decide) ?_
    show Steps p.tables e below (s₁.setTop (mkF m 143 #[.val (.int (2 : Int32)), .val (.int (2 : Int32)), .val (.int (3 : Int32)), .val .null] [])) _
    refine XS.aloadN X0.here hx rfl (hb hby d9_143) rfl rfl ?_
    show Steps p.tables e below (s₁.setTop (mkF m 144 #[.val (.int (2 : Int32)), .val (.int (2 : Int32)), .val (.int (3 : Int32)), .val .null] [.null])) _
    jvm_step X0.here [X0.here.top, hx, (hb hby d9_144), X0.method', Bd.returns, Value.isRef, FieldType.isReference]
    first | (intro acts; rw [hr _ acts rfl rfl rfl]) | rw [hr _ _ rfl rfl rfl]
    exact Steps.refl _
  · show QV .null h0 n0 _ s₁.heap _
    rw [e0]
    exact ⟨rfl, N0, rfl⟩
theorem d9_14 : decode prog_13_method_10_code 14 = .ok (.iconst 1, 1) := by decide +kernel
theorem d9_15 : decode prog_13_method_10_code 15 = .ok (.iload_n 1, 1) := by decide +kernel
theorem d9_16 : decode prog_13_method_10_code 16 = .ok (.isub, 1) := by decide +kernel
theorem d9_17 : decode prog_13_method_10_code 17 = .ok (.invokestatic 83, 3) := by decide +kernel
theorem pd_2 : parseMethodDescriptor "(I)Ljava/lang/Integer;" = some ⟨[.int], some (.object "java/lang/Integer")⟩ := by decide +kernel
theorem d9_20 : decode prog_13_method_10_code 20 = .ok (.goto 4, 3) := by decide +kernel
set_option maxRecDepth 65536 in
set_option maxHeartbeats 40000000 in
theorem rse300 (l : Launch) (Z : State) (a0 : Array Value) (hw : ∀ d ∈ tables_1, d.before a0 Z = true) (ws : List Jvm.Cond) (ch : Addr) (cl : Cell) (b0 b1 : Addr) (h0 : Heap) (n0 : Nat) (Z0 : n0 ≤ h0.size) (Od : Old Z n0 h0) (hI : IC Z ch cl b0 b1) :
    MetFree l (⟨"com/example/sealed_paths/sealedpaths/core/Conditions", "settled", "(III)Ljava/lang/Integer;"⟩ : MethodName) (head1 (Jvm.Cond.code (⟨"com/example/sealed_paths/sealedpaths/core/Conditions", "settled", "(III)Ljava/lang/Integer;"⟩ : MethodName) prog_13_method_10_code 4 (some (.object "java/lang/Integer")) :: ws) ({ frames := 1, cells := 0, slots := 0, locals := 12 } : Room)) (fun zA zU => zA = #[(.int (3 : Int32)), (.int (0 : Int32)), (.int (0 : Int32))] ∧ Z.Warmed39 zU.vm ∧ zU.heap = h0) (fun _ _ _ _ _ => True) (fun _ zU zO zW => ∃ zV zL, zO = .returned zV ∧ QV (.ref b1) h0 n0 zV zW.heap zL ∧ FrameEnd zU zO zW zL ({ frames := 1, cells := 0, slots := 0, locals := 12 } : Room).cells ({ frames := 1, cells := 0, slots := 0, locals := 12 } : Room).slots) := by
  refine MetFree.of_bodySF (plainFor_of_name pn_Conditions) hisR ?_
  intro p e s m args below meth c s₁ Bd hml0 hP hK
  obtain ⟨rfl, hZ, hh⟩ := hP
  have hx := Bd.exec
  have hby := Bd.bytes
  have hml : c.maxLocals = 4 := hml0
  have hown : s.vm.findClass "com/example/sealed_paths/sealedpaths/core/Conditions" = some m.cls := findClass_of_methodNamed Bd.named
  have hnm := (name_of_methodNamed Bd.named Bd.method).1
  have X0 : Stand p l e ({ frames := 1, cells := 0, slots := 0, locals := 12 } : Room) s m #[(.int (3 : Int32)), (.int (0 : Int32)), (.int (0 : Int32))] below meth c s₁ [] 0 0 := Stand.of_body Bd
  have e0 : s₁.heap = h0 := by rw [← hh, Bd.state]; rfl
  have N0 := Fr.nil n0
  have pre0 : ∀ zt, Steps p.tables e below (s₁.setTop (mkF m 0 #[.val (.int (3 : Int32)), .val (.int (0 : Int32)), .val (.int (0 : Int32)), .unset] [])) zt → Steps p.tables e below (s₁.setTop (entryFrame m #[(.int (3 : Int32)), (.int (0 : Int32)), (.int (0 : Int32))] 4)) zt := fun zt zk => castTop (ef_9_III m (3 : Int32) (0 : Int32) (0 : Int32)) zk
  have hI0 := hI
  obtain ⟨Sh, Sc, Ach, Sz, A128, A129, Eb0, Eb1, Fb0, Fb1⟩ := hI
  obtain ⟨_, _, ⟨T227, L227, k227, n227⟩, -, X227, ⟨Lc227, hQ227, l227, y227, z227⟩, st227⟩ := Jvm.LawKit.callS X0 hx (y := (⟨"com/example/sealed_paths/sealedpaths/core/Conditions", "isConstant", "(I)Z"⟩ : MethodName)) hown (mvT hZ (hw _ (List.mem_of_getElem? (i := 58) rfl))) (mvT hZ (hw _ (List.mem_of_getElem? (i := 59) rfl))) (mvT hZ (hw _ (List.mem_of_getElem? (i := 2) rfl))) (mvT hZ (hw _ (List.mem_of_getElem? (i := 60) rfl))) (by decide) (backOf (W := 0) (ric0 l Z a0 hw [] (0 : Int32) h0 n0 Z0 (by decide)) hZ (hw _ (List.mem_of_getElem? (i := 60) rfl)) (hw _ (List.mem_of_getElem? (i := 2) rfl)) (by decide) (by decide)) (g := (mkF m 8 #[.val (.int (3 : Int32)), .val (.int (0 : Int32)), .val (.int (0 : Int32)), .val .null] [(.int (0 : Int32))])) rfl (by rw [hml]; rfl) (argsL := [(.int (0 : Int32))]) (rest := []) (lenOf pd_1 rfl) rfl (by show 2 * 0 + _ ≤ _; exact Nat.le_of_eq rfl) (hb hby d9_8) (fun _ _ => ⟨rfl, e0, (by decide : 0 + 0 ≤ _), (by decide : 0 + 0 ≤ _)⟩)
  dsimp only [Pt.U, Pt.locs, Pt.cells, Pt.slots] at X227 l227 y227 z227 st227 hQ227
  subst l227 y227 z227
  obtain ⟨rfl, Nq227, e227⟩ := hQ227
  have N227 := Fr.app N0 Nq227
  obtain ⟨_, _, ⟨T228, L228, k228, n228⟩, -, X228, ⟨Lc228, hQ228, l228, y228, z228⟩, st228⟩ := Jvm.LawKit.callS X227 hx (y := (⟨"java/lang/Integer", "valueOf", "(I)Ljava/lang/Integer;"⟩ : MethodName)) hown (mvT hZ (hw _ (List.mem_of_getElem? (i := 69) rfl))) (mvT hZ (hw _ (List.mem_of_getElem? (i := 70) rfl))) (mvT hZ (hw _ (List.mem_of_getElem? (i := 71) rfl))) (mvT hZ (hw _ (List.mem_of_getElem? (i := 72) rfl))) (by decide) (backOf (W := 0) (rvo1 l Z a0 hw [] ch cl b0 b1 h0 n0 Z0 Od hI0) hZ (hw _ (List.mem_of_getElem? (i := 72) rfl)) (hw _ (List.mem_of_getElem? (i := 71) rfl)) (by decide) (by decide)) (g := (mkF m 17 #[.val (.int (3 : Int32)), .val (.int (0 : Int32)), .val (.int (0 : Int32)), .val .null] [(.int (1 : Int32))])) rfl (by rw [hml]; rfl) (argsL := [(.int (1 : Int32))]) (rest := []) (lenOf pd_2 rfl) rfl (by show 2 * 0 + _ ≤ _; exact Nat.le_of_eq rfl) (hb hby d9_17) (fun _ _ => ⟨rfl, e227, (by decide : 0 + 0 ≤ _), (by decide : 0 + 0 ≤ _)⟩)
  dsimp only [Pt.U, Pt.locs, Pt.cells, Pt.slots] at X228 l228 y228 z228 st228 hQ228
  subst l228 y228 z228
  obtain ⟨rfl, Nq228, e228⟩ := hQ228
  have N228 := Fr.app N227 Nq228
  obtain ⟨fs, hr, hrun, hended, hW, hsame⟩ := X228.leave (v := some (.ref b1)) (fun h => by rw [Bd.returns] at h; cases h)
  refine ⟨_, _, pre0 _ ?_, hrun, hended, _, _, rfl, ?_, ⟨_, rfl⟩, hW, hsame.mono (by decide) (by decide)⟩
  · show Steps p.tables e below (s₁.setTop (mkF m 0 #[.val (.int (3 : Int32)), .val (.int (0 : Int32)), .val (.int (0 : Int32)), .unset] [])) _
    refine XS.aconstNull X0.here hx rfl (hb hby d9_0) ?_
    show Steps p.tables e below (s₁.setTop (mkF m 1 #[.val (.int (3 : Int32)), .val (.int (0 : Int32)), .val (.int (0 : Int32)), .unset] [.null])) _
    refine XS.astoreN X0.here hx rfl (hb hby d9_1) rfl rfl (l' := #[.val (.int (3 : Int32)), .val (.int (0 : Int32)), .val (.int (0 : Int32)), .val .null]) rfl ?_
    show Steps p.tables e below (s₁.setTop (mkF m 2 #[.val (.int (3 : Int32)), .val (.int (0 : Int32)), .val (.int (0 : Int32)), .val .null] [])) _
    refine XS.iloadN X0.here hx rfl (hb hby d9_2) rfl ?_
    show Steps p.tables e below (s₁.setTop (mkF m 3 #[.val (.int (3 : Int32)), .val (.int (0 : Int32)), .val (.int (0 : Int32)), .val .null] [(.int (3 : Int32))])) _
    refine XS.iconst X0.here hx rfl (hb hby d9_3) ?_
    show Steps p.tables e below (s₁.setTop (mkF m 4 #[.val (.int (3 : Int32)), .val (.int (0 : Int32)), .val (.int (0 : Int32)), .val .null] [(.int (3 : Int32)), (.int (3 : Int32))])) _
    refine XS.icmpNo X0.here hx rfl (hb hby d9_4) rfl (teq (by decide)).2 ?_
    show Steps p.tables e below (s₁.setTop (mkF m 7 #[.val (.int (3 : Int32)), .val (.int (0 : Int32)), .val (.int (0 : Int32)), .val .null] [])) _
    refine XS.iloadN X0.here hx rfl (hb hby d9_7) rfl ?_
    show Steps p.tables e below (s₁.setTop (mkF m 8 #[.val (.int (3 : Int32)), .val (.int (0 : Int32)), .val (.int (0 : Int32)), .val .null] [(.int (0 : Int32))])) _
    refine st227 _ ?_
    show Steps p.tables e below (T227.setTop (mkF m 11 #[.val (.int (3 : Int32)), .val (.int (0 : Int32)), .val (.int (0 : Int32)), .val .null] [(.int (1 : Int32))])) _
    refine XS.ifNo X227.here hx rfl (hb hby d9_11) rfl ((if0 _ _).trans (feq (by decide)).1) ?_
    show Steps p.tables e below (T227.setTop (mkF m 14 #[.val (.int (3 : Int32)), .val (.int (0 : Int32)), .val (.int (0 : Int32)), .val .null] [])) _
    refine XS.iconst X227.here hx rfl (hb hby d9_14) ?_
    show Steps p.tables e below (T227.setTop (mkF m 15 #[.val (.int (3 : Int32)), .val (.int (0 : Int32)), .val (.int (0 : Int32)), .val .null] [(.int (1 : Int32))])) _
    refine XS.iloadN X227.here hx rfl (hb hby d9_15) rfl ?_
    show Steps p.tables e below (T227.setTop (mkF m 16 #[.val (.int (3 : Int32)), .val (.int (0 : Int32)), .val (.int (0 : Int32)), .val .null] [(.int (0 : Int32)), (.int (1 : Int32))])) _
    refine XS.isub X227.here hx rfl (hb hby d9_16) rfl ?_
    show Steps p.tables e below (T227.setTop (mkF m 17 #[.val (.int (3 : Int32)), .val (.int (0 : Int32)), .val (.int (0 : Int32)), .val .null] [(.int (1 : Int32))])) _
    refine st228 _ ?_
    show Steps p.tables e below (T228.setTop (mkF m 20 #[.val (.int (3 : Int32)), .val (.int (0 : Int32)), .val (.int (0 : Int32)), .val .null] [(.ref b1)])) _
    refine XS.goto X228.here hx rfl (pc0 := 20) (pc' := 24) rfl (hb hby d9_20) (by decide) (by decide) ?_
    show Steps p.tables e below (T228.setTop (mkF m 24 #[.val (.int (3 : Int32)), .val (.int (0 : Int32)), .val (.int (0 : Int32)), .val .null] [(.ref b1)])) _
    refine XS.astoreN X228.here hx rfl (hb hby d9_24) rfl rfl (l' := #[.val (.int (3 : Int32)), .val (.int (0 : Int32)), .val (.int (0 : Int32)), .val (.ref b1)]) rfl ?_
    show Steps p.tables e below (T228.setTop (mkF m 25 #[.val (.int (3 : Int32)), .val (.int (0 : Int32)), .val (.int (0 : Int32)), .val (.ref b1)] [])) _
    refine XS.goto X228.here hx rfl (pc0 := 25) (pc' := 143) rfl (hb hby d9_25) (by decide) (by decide) ?_
    show Steps p.tables e below (T228.setTop (mkF m 143 #[.val (.int (3 : Int32)), .val (.int (0 : Int32)), .val (.int (0 : Int32)), .val (.ref b1)] [])) _
    refine XS.aloadN X228.here hx rfl (hb hby d9_143) rfl rfl ?_
    show Steps p.tables e below (T228.setTop (mkF m 144 #[.val (.int (3 : Int32)), .val (.int (0 : Int32)), .val (.int (0 : Int32)), .val (.ref b1)] [(.ref b1)])) _
    jvm_step X228.here [X228.here.top, hx, (hb hby d9_144), X228.method', Bd.returns, Value.isRef, FieldType.isReference]
    first | (intro acts; rw [hr _ acts rfl rfl rfl]) | rw [hr _ _ rfl rfl rfl]
    exact Steps.refl _
  · show QV (.ref b1) h0 n0 _ T228.heap _
    rw [e228]
    exact ⟨rfl, N228, rfl⟩
set_option maxRecDepth 65536 in
set_option maxHeartbeats 40000000 in
theorem rse311 (l : Launch) (Z : State) (a0 : Array Value) (hw : ∀ d ∈ tables_1, d.before a0 Z = true) (ws : List Jvm.Cond) (ch : Addr) (cl : Cell) (b0 b1 : Addr) (h0 : Heap) (n0 : Nat) (Z0 : n0 ≤ h0.size) (Od : Old Z n0 h0) (hI : IC Z ch cl b0 b1) :
    MetFree l (⟨"com/example/sealed_paths/sealedpaths/core/Conditions", "settled", "(III)Ljava/lang/Integer;"⟩ : MethodName) (head1 (Jvm.Cond.code (⟨"com/example/sealed_paths/sealedpaths/core/Conditions", "settled", "(III)Ljava/lang/Integer;"⟩ : MethodName) prog_13_method_10_code 4 (some (.object "java/lang/Integer")) :: ws) ({ frames := 1, cells := 0, slots := 0, locals := 12 } : Room)) (fun zA zU => zA = #[(.int (3 : Int32)), (.int (1 : Int32)), (.int (1 : Int32))] ∧ Z.Warmed39 zU.vm ∧ zU.heap = h0) (fun _ _ _ _ _ => True) (fun _ zU zO zW => ∃ zV zL, zO = .returned zV ∧ QV (.ref b0) h0 n0 zV zW.heap zL ∧ FrameEnd zU zO zW zL ({ frames := 1, cells := 0, slots := 0, locals := 12 } : Room).cells ({ frames := 1, cells := 0, slots := 0, locals := 12 } : Room).slots) := by
  refine MetFree.of_bodySF (plainFor_of_name pn_Conditions) hisR ?_
  intro p e s m args below meth c s₁ Bd hml0 hP hK
  obtain ⟨rfl, hZ, hh⟩ := hP
  have hx := Bd.exec
  have hby := Bd.bytes
  have hml : c.maxLocals = 4 := hml0
  have hown : s.vm.findClass "com/example/sealed_paths/sealedpaths/core/Conditions" = some m.cls := findClass_of_methodNamed Bd.named
  have hnm := (name_of_methodNamed Bd.named Bd.method).1
  have X0 : Stand p l e ({ frames := 1, cells := 0, slots := 0, locals := 12 } : Room) s m #[(.int (3 : Int32)), (.int (1 : Int32)), (.int (1 : Int32))] below meth c s₁ [] 0 0 := Stand.of_body Bd
  have e0 : s₁.heap = h0 := by rw [← hh, Bd.state]; rfl
  have N0 := Fr.nil n0
  have pre0 : ∀ zt, Steps p.tables e below (s₁.setTop (mkF m 0 #[.val (.int (3 : Int32)), .val (.int (1 : Int32)), .val (.int (1 : Int32)), .unset] [])) zt → Steps p.tables e below (s₁.setTop (entryFrame m #[(.int (3 : Int32)), (.int (1 : Int32)), (.int (1 : Int32))] 4)) zt := fun zt zk => castTop (ef_9_III m (3 : Int32) (1 : Int32) (1 : Int32)) zk
  have hI0 := hI
  obtain ⟨Sh, Sc, Ach, Sz, A128, A129, Eb0, Eb1, Fb0, Fb1⟩ := hI
  obtain ⟨_, _, ⟨T229, L229, k229, n229⟩, -, X229, ⟨Lc229, hQ229, l229, y229, z229⟩, st229⟩ := Jvm.LawKit.callS X0 hx (y := (⟨"com/example/sealed_paths/sealedpaths/core/Conditions", "isConstant", "(I)Z"⟩ : MethodName)) hown (mvT hZ (hw _ (List.mem_of_getElem? (i := 58) rfl))) (mvT hZ (hw _ (List.mem_of_getElem? (i := 59) rfl))) (mvT hZ (hw _ (List.mem_of_getElem? (i := 2) rfl))) (mvT hZ (hw _ (List.mem_of_getElem? (i := 60) rfl))) (by decide) (backOf (W := 0) (ric1 l Z a0 hw [] (1 : Int32) h0 n0 Z0 (by decide) (by decide)) hZ (hw _ (List.mem_of_getElem? (i := 60) rfl)) (hw _ (List.mem_of_getElem? (i := 2) rfl)) (by decide) (by decide)) (g := (mkF m 8 #[.val (.int (3 : Int32)), .val (.int (1 : Int32)), .val (.int (1 : Int32)), .val .null] [(.int (1 : Int32))])) rfl (by rw [hml]; rfl) (argsL := [(.int (1 : Int32))]) (rest := []) (lenOf pd_1 rfl) rfl (by show 2 * 0 + _ ≤ _; exact Nat.le_of_eq rfl) (hb hby d9_8) (fun _ _ => ⟨rfl, e0, (by decide : 0 + 0 ≤ _), (by decide : 0 + 0 ≤ _)⟩)
  dsimp only [Pt.U, Pt.locs, Pt.cells, Pt.slots] at X229 l229 y229 z229 st229 hQ229
  subst l229 y229 z229
  obtain ⟨rfl, Nq229, e229⟩ := hQ229
  have N229 := Fr.app N0 Nq229
  obtain ⟨_, _, ⟨T230, L230, k230, n230⟩, -, X230, ⟨Lc230, hQ230, l230, y230, z230⟩, st230⟩ := Jvm.LawKit.callS X229 hx (y := (⟨"java/lang/Integer", "valueOf", "(I)Ljava/lang/Integer;"⟩ : MethodName)) hown (mvT hZ (hw _ (List.mem_of_getElem? (i := 69) rfl))) (mvT hZ (hw _ (List.mem_of_getElem? (i := 70) rfl))) (mvT hZ (hw _ (List.mem_of_getElem? (i := 71) rfl))) (mvT hZ (hw _ (List.mem_of_getElem? (i := 72) rfl))) (by decide) (backOf (W := 0) (rvo0 l Z a0 hw [] ch cl b0 b1 h0 n0 Z0 Od hI0) hZ (hw _ (List.mem_of_getElem? (i := 72) rfl)) (hw _ (List.mem_of_getElem? (i := 71) rfl)) (by decide) (by decide)) (g := (mkF m 17 #[.val (.int (3 : Int32)), .val (.int (1 : Int32)), .val (.int (1 : Int32)), .val .null] [(.int (0 : Int32))])) rfl (by rw [hml]; rfl) (argsL := [(.int (0 : Int32))]) (rest := []) (lenOf pd_2 rfl) rfl (by show 2 * 0 + _ ≤ _; exact Nat.le_of_eq rfl) (hb hby d9_17) (fun _ _ => ⟨rfl, e229, (by decide : 0 + 0 ≤ _), (by decide : 0 + 0 ≤ _)⟩)
  dsimp only [Pt.U, Pt.locs, Pt.cells, Pt.slots] at X230 l230 y230 z230 st230 hQ230
  subst l230 y230 z230
  obtain ⟨rfl, Nq230, e230⟩ := hQ230
  have N230 := Fr.app N229 Nq230
  obtain ⟨fs, hr, hrun, hended, hW, hsame⟩ := X230.leave (v := some (.ref b0)) (fun h => by rw [Bd.returns] at h; cases h)
  refine ⟨_, _, pre0 _ ?_, hrun, hended, _, _, rfl, ?_, ⟨_, rfl⟩, hW, hsame.mono (by decide) (by decide)⟩
  · show Steps p.tables e below (s₁.setTop (mkF m 0 #[.val (.int (3 : Int32)), .val (.int (1 : Int32)), .val (.int (1 : Int32)), .unset] [])) _
    refine XS.aconstNull X0.here hx rfl (hb hby d9_0) ?_
    show Steps p.tables e below (s₁.setTop (mkF m 1 #[.val (.int (3 : Int32)), .val (.int (1 : Int32)), .val (.int (1 : Int32)), .unset] [.null])) _
    refine XS.astoreN X0.here hx rfl (hb hby d9_1) rfl rfl (l' := #[.val (.int (3 : Int32)), .val (.int (1 : Int32)), .val (.int (1 : Int32)), .val .null]) rfl ?_
    show Steps p.tables e below (s₁.setTop (mkF m 2 #[.val (.int (3 : Int32)), .val (.int (1 : Int32)), .val (.int (1 : Int32)), .val .null] [])) _
    refine XS.iloadN X0.here hx rfl (hb hby d9_2) rfl ?_
    show Steps p.tables e below (s₁.setTop (mkF m 3 #[.val (.int (3 : Int32)), .val (.int (1 : Int32)), .val (.int (1 : Int32)), .val .null] [(.int (3 : Int32))])) _
    refine XS.iconst X0.here hx rfl (hb hby d9_3) ?_
    show Steps p.tables e below (s₁.setTop (mkF m 4 #[.val (.int (3 : Int32)), .val (.int (1 : Int32)), .val (.int (1 : Int32)), .val .null] [(.int (3 : Int32)), (.int (3 : Int32))])) _
    refine XS.icmpNo X0.here hx rfl (hb hby d9_4) rfl (teq (by decide)).2 ?_
    show Steps p.tables e below (s₁.setTop (mkF m 7 #[.val (.int (3 : Int32)), .val (.int (1 : Int32)), .val (.int (1 : Int32)), .val .null] [])) _
    refine XS.iloadN X0.here hx rfl (hb hby d9_7) rfl ?_
    show Steps p.tables e below (s₁.setTop (mkF m 8 #[.val (.int (3 : Int32)), .val (.int (1 : Int32)), .val (.int (1 : Int32)), .val .null] [(.int (1 : Int32))])) _
    refine st229 _ ?_
    show Steps p.tables e below (T229.setTop (mkF m 11 #[.val (.int (3 : Int32)), .val (.int (1 : Int32)), .val (.int (1 : Int32)), .val .null] [(.int (1 : Int32))])) _
    refine XS.ifNo X229.here hx rfl (hb hby d9_11) rfl ((if0 _ _).trans (feq (by decide)).1) ?_
    show Steps p.tables e below (T229.setTop (mkF m 14 #[.val (.int (3 : Int32)), .val (.int (1 : Int32)), .val (.int (1 : Int32)), .val .null] [])) _
    refine XS.iconst X229.here hx rfl (hb hby d9_14) ?_
    show Steps p.tables e below (T229.setTop (mkF m 15 #[.val (.int (3 : Int32)), .val (.int (1 : Int32)), .val (.int (1 : Int32)), .val .null] [(.int (1 : Int32))])) _
    refine XS.iloadN X229.here hx rfl (hb hby d9_15) rfl ?_
    show Steps p.tables e below (T229.setTop (mkF m 16 #[.val (.int (3 : Int32)), .val (.int (1 : Int32)), .val (.int (1 : Int32)), .val .null] [(.int (1 : Int32)), (.int (1 : Int32))])) _
    refine XS.isub X229.here hx rfl (hb hby d9_16) rfl ?_
    show Steps p.tables e below (T229.setTop (mkF m 17 #[.val (.int (3 : Int32)), .val (.int (1 : Int32)), .val (.int (1 : Int32)), .val .null] [(.int (0 : Int32))])) _
    refine st230 _ ?_
    show Steps p.tables e below (T230.setTop (mkF m 20 #[.val (.int (3 : Int32)), .val (.int (1 : Int32)), .val (.int (1 : Int32)), .val .null] [(.ref b0)])) _
    refine XS.goto X230.here hx rfl (pc0 := 20) (pc' := 24) rfl (hb hby d9_20) (by decide) (by decide) ?_
    show Steps p.tables e below (T230.setTop (mkF m 24 #[.val (.int (3 : Int32)), .val (.int (1 : Int32)), .val (.int (1 : Int32)), .val .null] [(.ref b0)])) _
    refine XS.astoreN X230.here hx rfl (hb hby d9_24) rfl rfl (l' := #[.val (.int (3 : Int32)), .val (.int (1 : Int32)), .val (.int (1 : Int32)), .val (.ref b0)]) rfl ?_
    show Steps p.tables e below (T230.setTop (mkF m 25 #[.val (.int (3 : Int32)), .val (.int (1 : Int32)), .val (.int (1 : Int32)), .val (.ref b0)] [])) _
    refine XS.goto X230.here hx rfl (pc0 := 25) (pc' := 143) rfl (hb hby d9_25) (by decide) (by decide) ?_
    show Steps p.tables e below (T230.setTop (mkF m 143 #[.val (.int (3 : Int32)), .val (.int (1 : Int32)), .val (.int (1 : Int32)), .val (.ref b0)] [])) _
    refine XS.aloadN X230.here hx rfl (hb hby d9_143) rfl rfl ?_
    show Steps p.tables e below (T230.setTop (mkF m 144 #[.val (.int (3 : Int32)), .val (.int (1 : Int32)), .val (.int (1 : Int32)), .val (.ref b0)] [(.ref b0)])) _
    jvm_step X230.here [X230.here.top, hx, (hb hby d9_144), X230.method', Bd.returns, Value.isRef, FieldType.isReference]
    first | (intro acts; rw [hr _ acts rfl rfl rfl]) | rw [hr _ _ rfl rfl rfl]
    exact Steps.refl _
  · show QV (.ref b0) h0 n0 _ T230.heap _
    rw [e230]
    exact ⟨rfl, N230, rfl⟩
theorem d9_54 : decode prog_13_method_10_code 54 = .ok (.iconst 0, 1) := by decide +kernel
theorem d9_55 : decode prog_13_method_10_code 55 = .ok (.invokestatic 83, 3) := by decide +kernel
theorem d9_58 : decode prog_13_method_10_code 58 = .ok (.astore_n 3, 1) := by decide +kernel
theorem d9_59 : decode prog_13_method_10_code 59 = .ok (.goto 84, 3) := by decide +kernel
set_option maxRecDepth 65536 in
set_option maxHeartbeats 40000000 in
theorem rse101 (l : Launch) (Z : State) (a0 : Array Value) (hw : ∀ d ∈ tables_1, d.before a0 Z = true) (ws : List Jvm.Cond) (ch : Addr) (cl : Cell) (b0 b1 : Addr) (h0 : Heap) (n0 : Nat) (Z0 : n0 ≤ h0.size) (Od : Old Z n0 h0) (hI : IC Z ch cl b0 b1) :
    MetFree l (⟨"com/example/sealed_paths/sealedpaths/core/Conditions", "settled", "(III)Ljava/lang/Integer;"⟩ : MethodName) (head1 (Jvm.Cond.code (⟨"com/example/sealed_paths/sealedpaths/core/Conditions", "settled", "(III)Ljava/lang/Integer;"⟩ : MethodName) prog_13_method_10_code 4 (some (.object "java/lang/Integer")) :: ws) ({ frames := 1, cells := 0, slots := 0, locals := 12 } : Room)) (fun zA zU => zA = #[(.int (1 : Int32)), (.int (0 : Int32)), (.int (1 : Int32))] ∧ Z.Warmed39 zU.vm ∧ zU.heap = h0) (fun _ _ _ _ _ => True) (fun _ zU zO zW => ∃ zV zL, zO = .returned zV ∧ QV (.ref b0) h0 n0 zV zW.heap zL ∧ FrameEnd zU zO zW zL ({ frames := 1, cells := 0, slots := 0, locals := 12 } : Room).cells ({ frames := 1, cells := 0, slots := 0, locals := 12 } : Room).slots) := by
  refine MetFree.of_bodySF (plainFor_of_name pn_Conditions) hisR ?_
  intro p e s m args below meth c s₁ Bd hml0 hP hK
  obtain ⟨rfl, hZ, hh⟩ := hP
  have hx := Bd.exec
  have hby := Bd.bytes
  have hml : c.maxLocals = 4 := hml0
  have hown : s.vm.findClass "com/example/sealed_paths/sealedpaths/core/Conditions" = some m.cls := findClass_of_methodNamed Bd.named
  have hnm := (name_of_methodNamed Bd.named Bd.method).1
  have X0 : Stand p l e ({ frames := 1, cells := 0, slots := 0, locals := 12 } : Room) s m #[(.int (1 : Int32)), (.int (0 : Int32)), (.int (1 : Int32))] below meth c s₁ [] 0 0 := Stand.of_body Bd
  have e0 : s₁.heap = h0 := by rw [← hh, Bd.state]; rfl
  have N0 := Fr.nil n0
  have pre0 : ∀ zt, Steps p.tables e below (s₁.setTop (mkF m 0 #[.val (.int (1 : Int32)), .val (.int (0 : Int32)), .val (.int (1 : Int32)), .unset] [])) zt → Steps p.tables e below (s₁.setTop (entryFrame m #[(.int (1 : Int32)), (.int (0 : Int32)), (.int (1 : Int32))] 4)) zt := fun zt zk => castTop (ef_9_III m (1 : Int32) (0 : Int32) (1 : Int32)) zk
  have hI0 := hI
  obtain ⟨Sh, Sc, Ach, Sz, A128, A129, Eb0, Eb1, Fb0, Fb1⟩ := hI
  obtain ⟨_, _, ⟨T231, L231, k231, n231⟩, -, X231, ⟨Lc231, hQ231, l231, y231, z231⟩, st231⟩ := Jvm.LawKit.callS X0 hx (y := (⟨"java/lang/Integer", "valueOf", "(I)Ljava/lang/Integer;"⟩ : MethodName)) hown (mvT hZ (hw _ (List.mem_of_getElem? (i := 69) rfl))) (mvT hZ (hw _ (List.mem_of_getElem? (i := 70) rfl))) (mvT hZ (hw _ (List.mem_of_getElem? (i := 71) rfl))) (mvT hZ (hw _ (List.mem_of_getElem? (i := 72) rfl))) (by decide) (backOf (W := 0) (rvo0 l Z a0 hw [] ch cl b0 b1 h0 n0 Z0 Od hI0) hZ (hw _ (List.mem_of_getElem? (i := 72) rfl)) (hw _ (List.mem_of_getElem? (i := 71) rfl)) (by decide) (by decide)) (g := (mkF m 55 #[.val (.int (1 : Int32)), .val (.int (0 : Int32)), .val (.int (1 : Int32)), .val .null] [(.int (0 : Int32))])) rfl (by rw [hml]; rfl) (argsL := [(.int (0 : Int32))]) (rest := []) (lenOf pd_2 rfl) rfl (by show 2 * 0 + _ ≤ _; exact Nat.le_of_eq rfl) (hb hby d9_55) (fun _ _ => ⟨rfl, e0, (by decide : 0 + 0 ≤ _), (by decide : 0 + 0 ≤ _)⟩)
  dsimp only [Pt.U, Pt.locs, Pt.cells, Pt.slots] at X231 l231 y231 z231 st231 hQ231
  subst l231 y231 z231
  obtain ⟨rfl, Nq231, e231⟩ := hQ231
  have N231 := Fr.app N0 Nq231
  obtain ⟨fs, hr, hrun, hended, hW, hsame⟩ := X231.leave (v := some (.ref b0)) (fun h => by rw [Bd.returns] at h; cases h)
  refine ⟨_, _, pre0 _ ?_, hrun, hended, _, _, rfl, ?_, ⟨_, rfl⟩, hW, hsame.mono (by decide) (by decide)⟩
  · show Steps p.tables e below (s₁.setTop (mkF m 0 #[.val (.int (1 : Int32)), .val (.int (0 : Int32)), .val (.int (1 : Int32)), .unset] [])) _
    refine XS.aconstNull X0.here hx rfl (hb hby d9_0) ?_
    show Steps p.tables e below (s₁.setTop (mkF m 1 #[.val (.int (1 : Int32)), .val (.int (0 : Int32)), .val (.int (1 : Int32)), .unset] [.null])) _
    refine XS.astoreN X0.here hx rfl (hb hby d9_1) rfl rfl (l' := #[.val (.int (1 : Int32)), .val (.int (0 : Int32)), .val (.int (1 : Int32)), .val .null]) rfl ?_
    show Steps p.tables e below (s₁.setTop (mkF m 2 #[.val (.int (1 : Int32)), .val (.int (0 : Int32)), .val (.int (1 : Int32)), .val .null] [])) _
    refine XS.iloadN X0.here hx rfl (hb hby d9_2) rfl ?_
    show Steps p.tables e below (s₁.setTop (mkF m 3 #[.val (.int (1 : Int32)), .val (.int (0 : Int32)), .val (.int (1 : Int32)), .val .null] [(.int (1 : Int32))])) _
    refine XS.iconst X0.here hx rfl (hb hby d9_3) ?_
    show Steps p.tables e below (s₁.setTop (mkF m 4 #[.val (.int (1 : Int32)), .val (.int (0 : Int32)), .val (.int (1 : Int32)), .val .null] [(.int (3 : Int32)), (.int (1 : Int32))])) _
    refine XS.icmpYes X0.here hx rfl (pc0 := 4) (pc' := 28) rfl (hb hby d9_4) rfl (feq (by decide)).2 (by decide) (by decide) ?_
    show Steps p.tables e below (s₁.setTop (mkF m 28 #[.val (.int (1 : Int32)), .val (.int (0 : Int32)), .val (.int (1 : Int32)), .val .null] [])) _
    refine XS.iloadN X0.here hx rfl (hb hby d9_28) rfl ?_
    show Steps p.tables e below (s₁.setTop (mkF m 29 #[.val (.int (1 : Int32)), .val (.int (0 : Int32)), .val (.int (1 : Int32)), .val .null] [(.int (0 : Int32))])) _
    refine XS.iloadN X0.here hx rfl (hb hby d9_29) rfl ?_
    show Steps p.tables e below (s₁.setTop (mkF m 30 #[.val (.int (1 : Int32)), .val (.int (0 : Int32)), .val (.int (1 : Int32)), .val .null] [(.int (1 : Int32)), (.int (0 : Int32))])) _
    refine XS.icmpYes X0.here hx rfl (pc0 := 30) (pc' := 41) rfl (hb hby d9_30) rfl (feq (by decide)).2 (by decide) (by decide) ?_
    show Steps p.tables e below (s₁.setTop (mkF m 41 #[.val (.int (1 : Int32)), .val (.int (0 : Int32)), .val (.int (1 : Int32)), .val .null] [])) _
    refine XS.iloadN X0.here hx rfl (hb hby d9_41) rfl ?_
    show Steps p.tables e below (s₁.setTop (mkF m 42 #[.val (.int (1 : Int32)), .val (.int (0 : Int32)), .val (.int (1 : Int32)), .val .null] [(.int (1 : Int32))])) _
    refine XS.iconst X0.here hx rfl (hb hby d9_42) ?_
    show Steps p.tables e below (s₁.setTop (mkF m 43 #[.val (.int (1 : Int32)), .val (.int (0 : Int32)), .val (.int (1 : Int32)), .val .null] [(.int (1 : Int32)), (.int (1 : Int32))])) _
    refine XS.icmpNo X0.here hx rfl (hb hby d9_43) rfl (teq (by decide)).2 ?_
    show Steps p.tables e below (s₁.setTop (mkF m 46 #[.val (.int (1 : Int32)), .val (.int (0 : Int32)), .val (.int (1 : Int32)), .val .null] [])) _
    refine XS.iloadN X0.here hx rfl (hb hby d9_46) rfl ?_
    show Steps p.tables e below (s₁.setTop (mkF m 47 #[.val (.int (1 : Int32)), .val (.int (0 : Int32)), .val (.int (1 : Int32)), .val .null] [(.int (0 : Int32))])) _
    refine XS.ifYes X0.here hx rfl (pc0 := 47) (pc' := 54) rfl (hb hby d9_47) rfl ((if0 _ _).trans (teq (by decide)).1) (by decide) (by decide) ?_
    show Steps p.tables e below (s₁.setTop (mkF m 54 #[.val (.int (1 : Int32)), .val (.int (0 : Int32)), .val (.int (1 : Int32)), .val .null] [])) _
    refine XS.iconst X0.here hx rfl (hb hby d9_54) ?_
    show Steps p.tables e below (s₁.setTop (mkF m 55 #[.val (.int (1 : Int32)), .val (.int (0 : Int32)), .val (.int (1 : Int32)), .val .null] [(.int (0 : Int32))])) _
    refine st231 _ ?_
    show Steps p.tables e below (T231.setTop (mkF m 58 #[.val (.int (1 : Int32)), .val (.int (0 : Int32)), .val (.int (1 : Int32)), .val .null] [(.ref b0)])) _
    refine XS.astoreN X231.here hx rfl (hb hby d9_58) rfl rfl (l' := #[.val (.int (1 : Int32)), .val (.int (0 : Int32)), .val (.int (1 : Int32)), .val (.ref b0)]) rfl ?_
    show Steps p.tables e below (T231.setTop (mkF m 59 #[.val (.int (1 : Int32)), .val (.int (0 : Int32)), .val (.int (1 : Int32)), .val (.ref b0)] [])) _
    refine XS.goto X231.here hx rfl (pc0 := 59) (pc' := 143) rfl (hb hby d9_59) (by decide) (by decide) ?_
    show Steps p.tables e below (T231.setTop (mkF m 143 #[.val (.int (1 : Int32)), .val (.int (0 : Int32)), .val (.int (1 : Int32)), .val (.ref b0)] [])) _
    refine XS.aloadN X231.here hx rfl (hb hby d9_143) rfl rfl ?_
    show Steps p.tables e below (T231.setTop (mkF m 144 #[.val (.int (1 : Int32)), .val (.int (0 : Int32)), .val (.int (1 : Int32)), .val (.ref b0)] [(.ref b0)])) _
    jvm_step X231.here [X231.here.top, hx, (hb hby d9_144), X231.method', Bd.returns, Value.isRef, FieldType.isReference]
    first | (intro acts; rw [hr _ acts rfl rfl rfl]) | rw [hr _ _ rfl rfl rfl]
    exact Steps.refl _
  · show QV (.ref b0) h0 n0 _ T231.heap _
    rw [e231]
    exact ⟨rfl, N231, rfl⟩
set_option maxRecDepth 65536 in
set_option maxHeartbeats 40000000 in
theorem rse110 (l : Launch) (Z : State) (a0 : Array Value) (hw : ∀ d ∈ tables_1, d.before a0 Z = true) (ws : List Jvm.Cond) (ch : Addr) (cl : Cell) (b0 b1 : Addr) (h0 : Heap) (n0 : Nat) (Z0 : n0 ≤ h0.size) (Od : Old Z n0 h0) (hI : IC Z ch cl b0 b1) :
    MetFree l (⟨"com/example/sealed_paths/sealedpaths/core/Conditions", "settled", "(III)Ljava/lang/Integer;"⟩ : MethodName) (head1 (Jvm.Cond.code (⟨"com/example/sealed_paths/sealedpaths/core/Conditions", "settled", "(III)Ljava/lang/Integer;"⟩ : MethodName) prog_13_method_10_code 4 (some (.object "java/lang/Integer")) :: ws) ({ frames := 1, cells := 0, slots := 0, locals := 12 } : Room)) (fun zA zU => zA = #[(.int (1 : Int32)), (.int (1 : Int32)), (.int (0 : Int32))] ∧ Z.Warmed39 zU.vm ∧ zU.heap = h0) (fun _ _ _ _ _ => True) (fun _ zU zO zW => ∃ zV zL, zO = .returned zV ∧ QV (.ref b0) h0 n0 zV zW.heap zL ∧ FrameEnd zU zO zW zL ({ frames := 1, cells := 0, slots := 0, locals := 12 } : Room).cells ({ frames := 1, cells := 0, slots := 0, locals := 12 } : Room).slots) := by
  refine MetFree.of_bodySF (plainFor_of_name pn_Conditions) hisR ?_
  intro p e s m args below meth c s₁ Bd hml0 hP hK
  obtain ⟨rfl, hZ, hh⟩ := hP
  have hx := Bd.exec
  have hby := Bd.bytes
  have hml : c.maxLocals = 4 := hml0
  have hown : s.vm.findClass "com/example/sealed_paths/sealedpaths/core/Conditions" = some m.cls := findClass_of_methodNamed Bd.named
  have hnm := (name_of_methodNamed Bd.named Bd.method).1
  have X0 : Stand p l e ({ frames := 1, cells := 0, slots := 0, locals := 12 } : Room) s m #[(.int (1 : Int32)), (.int (1 : Int32)), (.int (0 : Int32))] below meth c s₁ [] 0 0 := Stand.of_body Bd
  have e0 : s₁.heap = h0 := by rw [← hh, Bd.state]; rfl
  have N0 := Fr.nil n0
  have pre0 : ∀ zt, Steps p.tables e below (s₁.setTop (mkF m 0 #[.val (.int (1 : Int32)), .val (.int (1 : Int32)), .val (.int (0 : Int32)), .unset] [])) zt → Steps p.tables e below (s₁.setTop (entryFrame m #[(.int (1 : Int32)), (.int (1 : Int32)), (.int (0 : Int32))] 4)) zt := fun zt zk => castTop (ef_9_III m (1 : Int32) (1 : Int32) (0 : Int32)) zk
  have hI0 := hI
  obtain ⟨Sh, Sc, Ach, Sz, A128, A129, Eb0, Eb1, Fb0, Fb1⟩ := hI
  obtain ⟨_, _, ⟨T232, L232, k232, n232⟩, -, X232, ⟨Lc232, hQ232, l232, y232, z232⟩, st232⟩ := Jvm.LawKit.callS X0 hx (y := (⟨"java/lang/Integer", "valueOf", "(I)Ljava/lang/Integer;"⟩ : MethodName)) hown (mvT hZ (hw _ (List.mem_of_getElem? (i := 69) rfl))) (mvT hZ (hw _ (List.mem_of_getElem? (i := 70) rfl))) (mvT hZ (hw _ (List.mem_of_getElem? (i := 71) rfl))) (mvT hZ (hw _ (List.mem_of_getElem? (i := 72) rfl))) (by decide) (backOf (W := 0) (rvo0 l Z a0 hw [] ch cl b0 b1 h0 n0 Z0 Od hI0) hZ (hw _ (List.mem_of_getElem? (i := 72) rfl)) (hw _ (List.mem_of_getElem? (i := 71) rfl)) (by decide) (by decide)) (g := (mkF m 55 #[.val (.int (1 : Int32)), .val (.int (1 : Int32)), .val (.int (0 : Int32)), .val .null] [(.int (0 : Int32))])) rfl (by rw [hml]; rfl) (argsL := [(.int (0 : Int32))]) (rest := []) (lenOf pd_2 rfl) rfl (by show 2 * 0 + _ ≤ _; exact Nat.le_of_eq rfl) (hb hby d9_55) (fun _ _ => ⟨rfl, e0, (by decide : 0 + 0 ≤ _), (by decide : 0 + 0 ≤ _)⟩)
  dsimp only [Pt.U, Pt.locs, Pt.cells, Pt.slots] at X232 l232 y232 z232 st232 hQ232
  subst l232 y232 z232
  obtain ⟨rfl, Nq232, e232⟩ := hQ232
  have N232 := Fr.app N0 Nq232
  obtain ⟨fs, hr, hrun, hended, hW, hsame⟩ := X232.leave (v := some (.ref b0)) (fun h => by rw [Bd.returns] at h; cases h)
  refine ⟨_, _, pre0 _ ?_, hrun, hended, _, _, rfl, ?_, ⟨_, rfl⟩, hW, hsame.mono (by decide) (by decide)⟩
  · show Steps p.tables e below (s₁.setTop (mkF m 0 #[.val (.int (1 : Int32)), .val (.int (1 : Int32)), .val (.int (0 : Int32)), .unset] [])) _
    refine XS.aconstNull X0.here hx rfl (hb hby d9_0) ?_
    show Steps p.tables e below (s₁.setTop (mkF m 1 #[.val (.int (1 : Int32)), .val (.int (1 : Int32)), .val (.int (0 : Int32)), .unset] [.null])) _
    refine XS.astoreN X0.here hx rfl (hb hby d9_1) rfl rfl (l' := #[.val (.int (1 : Int32)), .val (.int (1 : Int32)), .val (.int (0 : Int32)), .val .null]) rfl ?_
    show Steps p.tables e below (s₁.setTop (mkF m 2 #[.val (.int (1 : Int32)), .val (.int (1 : Int32)), .val (.int (0 : Int32)), .val .null] [])) _
    refine XS.iloadN X0.here hx rfl (hb hby d9_2) rfl ?_
    show Steps p.tables e below (s₁.setTop (mkF m 3 #[.val (.int (1 : Int32)), .val (.int (1 : Int32)), .val (.int (0 : Int32)), .val .null] [(.int (1 : Int32))])) _
    refine XS.iconst X0.here hx rfl (hb hby d9_3) ?_
    show Steps p.tables e below (s₁.setTop (mkF m 4 #[.val (.int (1 : Int32)), .val (.int (1 : Int32)), .val (.int (0 : Int32)), .val .null] [(.int (3 : Int32)), (.int (1 : Int32))])) _
    refine XS.icmpYes X0.here hx rfl (pc0 := 4) (pc' := 28) rfl (hb hby d9_4) rfl (feq (by decide)).2 (by decide) (by decide) ?_
    show Steps p.tables e below (s₁.setTop (mkF m 28 #[.val (.int (1 : Int32)), .val (.int (1 : Int32)), .val (.int (0 : Int32)), .val .null] [])) _
    refine XS.iloadN X0.here hx rfl (hb hby d9_28) rfl ?_
    show Steps p.tables e below (s₁.setTop (mkF m 29 #[.val (.int (1 : Int32)), .val (.int (1 : Int32)), .val (.int (0 : Int32)), .val .null] [(.int (1 : Int32))])) _
    refine XS.iloadN X0.here hx rfl (hb hby d9_29) rfl ?_
    show Steps p.tables e below (s₁.setTop (mkF m 30 #[.val (.int (1 : Int32)), .val (.int (1 : Int32)), .val (.int (0 : Int32)), .val .null] [(.int (0 : Int32)), (.int (1 : Int32))])) _
    refine XS.icmpYes X0.here hx rfl (pc0 := 30) (pc' := 41) rfl (hb hby d9_30) rfl (feq (by decide)).2 (by decide) (by decide) ?_
    show Steps p.tables e below (s₁.setTop (mkF m 41 #[.val (.int (1 : Int32)), .val (.int (1 : Int32)), .val (.int (0 : Int32)), .val .null] [])) _
    refine XS.iloadN X0.here hx rfl (hb hby d9_41) rfl ?_
    show Steps p.tables e below (s₁.setTop (mkF m 42 #[.val (.int (1 : Int32)), .val (.int (1 : Int32)), .val (.int (0 : Int32)), .val .null] [(.int (1 : Int32))])) _
    refine XS.iconst X0.here hx rfl (hb hby d9_42) ?_
    show Steps p.tables e below (s₁.setTop (mkF m 43 #[.val (.int (1 : Int32)), .val (.int (1 : Int32)), .val (.int (0 : Int32)), .val .null] [(.int (1 : Int32)), (.int (1 : Int32))])) _
    refine XS.icmpNo X0.here hx rfl (hb hby d9_43) rfl (teq (by decide)).2 ?_
    show Steps p.tables e below (s₁.setTop (mkF m 46 #[.val (.int (1 : Int32)), .val (.int (1 : Int32)), .val (.int (0 : Int32)), .val .null] [])) _
    refine XS.iloadN X0.here hx rfl (hb hby d9_46) rfl ?_
    show Steps p.tables e below (s₁.setTop (mkF m 47 #[.val (.int (1 : Int32)), .val (.int (1 : Int32)), .val (.int (0 : Int32)), .val .null] [(.int (1 : Int32))])) _
    refine XS.ifNo X0.here hx rfl (hb hby d9_47) rfl ((if0 _ _).trans (feq (by decide)).1) ?_
    show Steps p.tables e below (s₁.setTop (mkF m 50 #[.val (.int (1 : Int32)), .val (.int (1 : Int32)), .val (.int (0 : Int32)), .val .null] [])) _
    refine XS.iloadN X0.here hx rfl (hb hby d9_50) rfl ?_
    show Steps p.tables e below (s₁.setTop (mkF m 51 #[.val (.int (1 : Int32)), .val (.int (1 : Int32)), .val (.int (0 : Int32)), .val .null] [(.int (0 : Int32))])) _
    refine XS.ifNo X0.here hx rfl (hb hby d9_51) rfl ((if0 _ _).trans (teq (by decide)).2) ?_
    show Steps p.tables e below (s₁.setTop (mkF m 54 #[.val (.int (1 : Int32)), .val (.int (1 : Int32)), .val (.int (0 : Int32)), .val .null] [])) _
    refine XS.iconst X0.here hx rfl (hb hby d9_54) ?_
    show Steps p.tables e below (s₁.setTop (mkF m 55 #[.val (.int (1 : Int32)), .val (.int (1 : Int32)), .val (.int (0 : Int32)), .val .null] [(.int (0 : Int32))])) _
    refine st232 _ ?_
    show Steps p.tables e below (T232.setTop (mkF m 58 #[.val (.int (1 : Int32)), .val (.int (1 : Int32)), .val (.int (0 : Int32)), .val .null] [(.ref b0)])) _
    refine XS.astoreN X232.here hx rfl (hb hby d9_58) rfl rfl (l' := #[.val (.int (1 : Int32)), .val (.int (1 : Int32)), .val (.int (0 : Int32)), .val (.ref b0)]) rfl ?_
    show Steps p.tables e below (T232.setTop (mkF m 59 #[.val (.int (1 : Int32)), .val (.int (1 : Int32)), .val (.int (0 : Int32)), .val (.ref b0)] [])) _
    refine XS.goto X232.here hx rfl (pc0 := 59) (pc' := 143) rfl (hb hby d9_59) (by decide) (by decide) ?_
    show Steps p.tables e below (T232.setTop (mkF m 143 #[.val (.int (1 : Int32)), .val (.int (1 : Int32)), .val (.int (0 : Int32)), .val (.ref b0)] [])) _
    refine XS.aloadN X232.here hx rfl (hb hby d9_143) rfl rfl ?_
    show Steps p.tables e below (T232.setTop (mkF m 144 #[.val (.int (1 : Int32)), .val (.int (1 : Int32)), .val (.int (0 : Int32)), .val (.ref b0)] [(.ref b0)])) _
    jvm_step X232.here [X232.here.top, hx, (hb hby d9_144), X232.method', Bd.returns, Value.isRef, FieldType.isReference]
    first | (intro acts; rw [hr _ acts rfl rfl rfl]) | rw [hr _ _ rfl rfl rfl]
    exact Steps.refl _
  · show QV (.ref b0) h0 n0 _ T232.heap _
    rw [e232]
    exact ⟨rfl, N232, rfl⟩
theorem d9_109 : decode prog_13_method_10_code 109 = .ok (.iconst 1, 1) := by decide +kernel
theorem d9_110 : decode prog_13_method_10_code 110 = .ok (.invokestatic 83, 3) := by decide +kernel
theorem d9_113 : decode prog_13_method_10_code 113 = .ok (.astore_n 3, 1) := by decide +kernel
theorem d9_114 : decode prog_13_method_10_code 114 = .ok (.goto 29, 3) := by decide +kernel
set_option maxRecDepth 65536 in
set_option maxHeartbeats 40000000 in
theorem rse201 (l : Launch) (Z : State) (a0 : Array Value) (hw : ∀ d ∈ tables_1, d.before a0 Z = true) (ws : List Jvm.Cond) (ch : Addr) (cl : Cell) (b0 b1 : Addr) (h0 : Heap) (n0 : Nat) (Z0 : n0 ≤ h0.size) (Od : Old Z n0 h0) (hI : IC Z ch cl b0 b1) :
    MetFree l (⟨"com/example/sealed_paths/sealedpaths/core/Conditions", "settled", "(III)Ljava/lang/Integer;"⟩ : MethodName) (head1 (Jvm.Cond.code (⟨"com/example/sealed_paths/sealedpaths/core/Conditions", "settled", "(III)Ljava/lang/Integer;"⟩ : MethodName) prog_13_method_10_code 4 (some (.object "java/lang/Integer")) :: ws) ({ frames := 1, cells := 0, slots := 0, locals := 12 } : Room)) (fun zA zU => zA = #[(.int (2 : Int32)), (.int (0 : Int32)), (.int (1 : Int32))] ∧ Z.Warmed39 zU.vm ∧ zU.heap = h0) (fun _ _ _ _ _ => True) (fun _ zU zO zW => ∃ zV zL, zO = .returned zV ∧ QV (.ref b1) h0 n0 zV zW.heap zL ∧ FrameEnd zU zO zW zL ({ frames := 1, cells := 0, slots := 0, locals := 12 } : Room).cells ({ frames := 1, cells := 0, slots := 0, locals := 12 } : Room).slots) := by
  refine MetFree.of_bodySF (plainFor_of_name pn_Conditions) hisR ?_
  intro p e s m args below meth c s₁ Bd hml0 hP hK
  obtain ⟨rfl, hZ, hh⟩ := hP
  have hx := Bd.exec
  have hby := Bd.bytes
  have hml : c.maxLocals = 4 := hml0
  have hown : s.vm.findClass "com/example/sealed_paths/sealedpaths/core/Conditions" = some m.cls := findClass_of_methodNamed Bd.named
  have hnm := (name_of_methodNamed Bd.named Bd.method).1
  have X0 : Stand p l e ({ frames := 1, cells := 0, slots := 0, locals := 12 } : Room) s m #[(.int (2 : Int32)), (.int (0 : Int32)), (.int (1 : Int32))] below meth c s₁ [] 0 0 := Stand.of_body Bd
  have e0 : s₁.heap = h0 := by rw [← hh, Bd.state]; rfl
  have N0 := Fr.nil n0
  have pre0 : ∀ zt, Steps p.tables e below (s₁.setTop (mkF m 0 #[.val (.int (2 : Int32)), .val (.int (0 : Int32)), .val (.int (1 : Int32)), .unset] [])) zt → Steps p.tables e below (s₁.setTop (entryFrame m #[(.int (2 : Int32)), (.int (0 : Int32)), (.int (1 : Int32))] 4)) zt := fun zt zk => castTop (ef_9_III m (2 : Int32) (0 : Int32) (1 : Int32)) zk
  have hI0 := hI
  obtain ⟨Sh, Sc, Ach, Sz, A128, A129, Eb0, Eb1, Fb0, Fb1⟩ := hI
  obtain ⟨_, _, ⟨T233, L233, k233, n233⟩, -, X233, ⟨Lc233, hQ233, l233, y233, z233⟩, st233⟩ := Jvm.LawKit.callS X0 hx (y := (⟨"java/lang/Integer", "valueOf", "(I)Ljava/lang/Integer;"⟩ : MethodName)) hown (mvT hZ (hw _ (List.mem_of_getElem? (i := 69) rfl))) (mvT hZ (hw _ (List.mem_of_getElem? (i := 70) rfl))) (mvT hZ (hw _ (List.mem_of_getElem? (i := 71) rfl))) (mvT hZ (hw _ (List.mem_of_getElem? (i := 72) rfl))) (by decide) (backOf (W := 0) (rvo1 l Z a0 hw [] ch cl b0 b1 h0 n0 Z0 Od hI0) hZ (hw _ (List.mem_of_getElem? (i := 72) rfl)) (hw _ (List.mem_of_getElem? (i := 71) rfl)) (by decide) (by decide)) (g := (mkF m 110 #[.val (.int (2 : Int32)), .val (.int (0 : Int32)), .val (.int (1 : Int32)), .val .null] [(.int (1 : Int32))])) rfl (by rw [hml]; rfl) (argsL := [(.int (1 : Int32))]) (rest := []) (lenOf pd_2 rfl) rfl (by show 2 * 0 + _ ≤ _; exact Nat.le_of_eq rfl) (hb hby d9_110) (fun _ _ => ⟨rfl, e0, (by decide : 0 + 0 ≤ _), (by decide : 0 + 0 ≤ _)⟩)
  dsimp only [Pt.U, Pt.locs, Pt.cells, Pt.slots] at X233 l233 y233 z233 st233 hQ233
  subst l233 y233 z233
  obtain ⟨rfl, Nq233, e233⟩ := hQ233
  have N233 := Fr.app N0 Nq233
  obtain ⟨fs, hr, hrun, hended, hW, hsame⟩ := X233.leave (v := some (.ref b1)) (fun h => by rw [Bd.returns] at h; cases h)
  refine ⟨_, _, pre0 _ ?_, hrun, hended, _, _, rfl, ?_, ⟨_, rfl⟩, hW, hsame.mono (by decide) (by decide)⟩
  · show Steps p.tables e below (s₁.setTop (mkF m 0 #[.val (.int (2 : Int32)), .val (.int (0 : Int32)), .val (.int (1 : Int32)), .unset] [])) _
    refine XS.aconstNull X0.here hx rfl (hb hby d9_0) ?_
    show Steps p.tables e below (s₁.setTop (mkF m 1 #[.val (.int (2 : Int32)), .val (.int (0 : Int32)), .val (.int (1 : Int32)), .unset] [.null])) _
    refine XS.astoreN X0.here hx rfl (hb hby d9_1) rfl rfl (l' := #[.val (.int (2 : Int32)), .val (.int (0 : Int32)), .val (.int (1 : Int32)), .val .null]) rfl ?_
    show Steps p.tables e below (s₁.setTop (mkF m 2 #[.val (.int (2 : Int32)), .val (.int (0 : Int32)), .val (.int (1 : Int32)), .val .null] [])) _
    refine XS.iloadN X0.here hx rfl (hb hby d9_2) rfl ?_
    show Steps p.tables e below (s₁.setTop (mkF m 3 #[.val (.int (2 : Int32)), .val (.int (0 : Int32)), .val (.int (1 : Int32)), .val .null] [(.int (2 : Int32))])) _
    refine XS.iconst X0.here hx rfl (hb hby d9_3) ?_
    show Steps p.tables e below (s₁.setTop (mkF m 4 #[.val (.int (2 : Int32)), .val (.int (0 : Int32)), .val (.int (1 : Int32)), .val .null] [(.int (3 : Int32)), (.int (2 : Int32))])) _
    refine XS.icmpYes X0.here hx rfl (pc0 := 4) (pc' := 28) rfl (hb hby d9_4) rfl (feq (by decide)).2 (by decide) (by decide) ?_
    show Steps p.tables e below (s₁.setTop (mkF m 28 #[.val (.int (2 : Int32)), .val (.int (0 : Int32)), .val (.int (1 : Int32)), .val .null] [])) _
    refine XS.iloadN X0.here hx rfl (hb hby d9_28) rfl ?_
    show Steps p.tables e below (s₁.setTop (mkF m 29 #[.val (.int (2 : Int32)), .val (.int (0 : Int32)), .val (.int (1 : Int32)), .val .null] [(.int (0 : Int32))])) _
    refine XS.iloadN X0.here hx rfl (hb hby d9_29) rfl ?_
    show Steps p.tables e below (s₁.setTop (mkF m 30 #[.val (.int (2 : Int32)), .val (.int (0 : Int32)), .val (.int (1 : Int32)), .val .null] [(.int (1 : Int32)), (.int (0 : Int32))])) _
    refine XS.icmpYes X0.here hx rfl (pc0 := 30) (pc' := 41) rfl (hb hby d9_30) rfl (feq (by decide)).2 (by decide) (by decide) ?_
    show Steps p.tables e below (s₁.setTop (mkF m 41 #[.val (.int (2 : Int32)), .val (.int (0 : Int32)), .val (.int (1 : Int32)), .val .null] [])) _
    refine XS.iloadN X0.here hx rfl (hb hby d9_41) rfl ?_
    show Steps p.tables e below (s₁.setTop (mkF m 42 #[.val (.int (2 : Int32)), .val (.int (0 : Int32)), .val (.int (1 : Int32)), .val .null] [(.int (2 : Int32))])) _
    refine XS.iconst X0.here hx rfl (hb hby d9_42) ?_
    show Steps p.tables e below (s₁.setTop (mkF m 43 #[.val (.int (2 : Int32)), .val (.int (0 : Int32)), .val (.int (1 : Int32)), .val .null] [(.int (1 : Int32)), (.int (2 : Int32))])) _
    refine XS.icmpYes X0.here hx rfl (pc0 := 43) (pc' := 62) rfl (hb hby d9_43) rfl (feq (by decide)).2 (by decide) (by decide) ?_
    show Steps p.tables e below (s₁.setTop (mkF m 62 #[.val (.int (2 : Int32)), .val (.int (0 : Int32)), .val (.int (1 : Int32)), .val .null] [])) _
    refine XS.iloadN X0.here hx rfl (hb hby d9_62) rfl ?_
    show Steps p.tables e below (s₁.setTop (mkF m 63 #[.val (.int (2 : Int32)), .val (.int (0 : Int32)), .val (.int (1 : Int32)), .val .null] [(.int (2 : Int32))])) _
    refine XS.iconst X0.here hx rfl (hb hby d9_63) ?_
    show Steps p.tables e below (s₁.setTop (mkF m 64 #[.val (.int (2 : Int32)), .val (.int (0 : Int32)), .val (.int (1 : Int32)), .val .null] [(.int (1 : Int32)), (.int (2 : Int32))])) _
    refine XS.icmpYes X0.here hx rfl (pc0 := 64) (pc' := 94) rfl (hb hby d9_64) rfl (feq (by decide)).2 (by decide) (by decide) ?_
    show Steps p.tables e below (s₁.setTop (mkF m 94 #[.val (.int (2 : Int32)), .val (.int (0 : Int32)), .val (.int (1 : Int32)), .val .null] [])) _
    refine XS.iloadN X0.here hx rfl (hb hby d9_94) rfl ?_
    show Steps p.tables e below (s₁.setTop (mkF m 95 #[.val (.int (2 : Int32)), .val (.int (0 : Int32)), .val (.int (1 : Int32)), .val .null] [(.int (2 : Int32))])) _
    refine XS.iconst X0.here hx rfl (hb hby d9_95) ?_
    show Steps p.tables e below (s₁.setTop (mkF m 96 #[.val (.int (2 : Int32)), .val (.int (0 : Int32)), .val (.int (1 : Int32)), .val .null] [(.int (2 : Int32)), (.int (2 : Int32))])) _
    refine XS.icmpNo X0.here hx rfl (hb hby d9_96) rfl (teq (by decide)).2 ?_
    show Steps p.tables e below (s₁.setTop (mkF m 99 #[.val (.int (2 : Int32)), .val (.int (0 : Int32)), .val (.int (1 : Int32)), .val .null] [])) _
    refine XS.iloadN X0.here hx rfl (hb hby d9_99) rfl ?_
    show Steps p.tables e below (s₁.setTop (mkF m 100 #[.val (.int (2 : Int32)), .val (.int (0 : Int32)), .val (.int (1 : Int32)), .val .null] [(.int (0 : Int32))])) _
    refine XS.iconst X0.here hx rfl (hb hby d9_100) ?_
    show Steps p.tables e below (s₁.setTop (mkF m 101 #[.val (.int (2 : Int32)), .val (.int (0 : Int32)), .val (.int (1 : Int32)), .val .null] [(.int (1 : Int32)), (.int (0 : Int32))])) _
    refine XS.icmpNo X0.here hx rfl (hb hby d9_101) rfl (feq (by decide)).1 ?_
    show Steps p.tables e below (s₁.setTop (mkF m 104 #[.val (.int (2 : Int32)), .val (.int (0 : Int32)), .val (.int (1 : Int32)), .val .null] [])) _
    refine XS.iloadN X0.here hx rfl (hb hby d9_104) rfl ?_
    show Steps p.tables e below (s₁.setTop (mkF m 105 #[.val (.int (2 : Int32)), .val (.int (0 : Int32)), .val (.int (1 : Int32)), .val .null] [(.int (1 : Int32))])) _
    refine XS.iconst X0.here hx rfl (hb hby d9_105) ?_
    show Steps p.tables e below (s₁.setTop (mkF m 106 #[.val (.int (2 : Int32)), .val (.int (0 : Int32)), .val (.int (1 : Int32)), .val .null] [(.int (1 : Int32)), (.int (1 : Int32))])) _
    refine XS.icmpNo X0.here hx rfl (hb hby d9_106) rfl (teq (by decide)).2 ?_
    show Steps p.tables e below (s₁.setTop (mkF m 109 #[.val (.int (2 : Int32)), .val (.int (0 : Int32)), .val (.int (1 : Int32)), .val .null] [])) _
    refine XS.iconst X0.here hx rfl (hb hby d9_109) ?_
    show Steps p.tables e below (s₁.setTop (mkF m 110 #[.val (.int (2 : Int32)), .val (.int (0 : Int32)), .val (.int (1 : Int32)), .val .null] [(.int (1 : Int32))])) _
    refine st233 _ ?_
    show Steps p.tables e below (T233.setTop (mkF m 113 #[.val (.int (2 : Int32)), .val (.int (0 : Int32)), .val (.int (1 : Int32)), .val .null] [(.ref b1)])) _
    refine XS.astoreN X233.here hx rfl (hb hby d9_113) rfl rfl (l' := #[.val (.int (2 : Int32)), .val (.int (0 : Int32)), .val (.int (1 : Int32)), .val (.ref b1)]) rfl ?_
    show Steps p.tables e below (T233.setTop (mkF m 114 #[.val (.int (2 : Int32)), .val (.int (0 : Int32)), .val (.int (1 : Int32)), .val (.ref b1)] [])) _
    refine XS.goto X233.here hx rfl (pc0 := 114) (pc' := 143) rfl (hb hby d9_114) (by decide) (by decide) ?_
    show Steps p.tables e below (T233.setTop (mkF m 143 #[.val (.int (2 : Int32)), .val (.int (0 : Int32)), .val (.int (1 : Int32)), .val (.ref b1)] [])) _
    refine XS.aloadN X233.here hx rfl (hb hby d9_143) rfl rfl ?_
    show Steps p.tables e below (T233.setTop (mkF m 144 #[.val (.int (2 : Int32)), .val (.int (0 : Int32)), .val (.int (1 : Int32)), .val (.ref b1)] [(.ref b1)])) _
    jvm_step X233.here [X233.here.top, hx, (hb hby d9_144), X233.method', Bd.returns, Value.isRef, FieldType.isReference]
    first | (intro acts; rw [hr _ acts rfl rfl rfl]) | rw [hr _ _ rfl rfl rfl]
    exact Steps.refl _
  · show QV (.ref b1) h0 n0 _ T233.heap _
    rw [e233]
    exact ⟨rfl, N233, rfl⟩
set_option maxRecDepth 65536 in
set_option maxHeartbeats 40000000 in
theorem rse210 (l : Launch) (Z : State) (a0 : Array Value) (hw : ∀ d ∈ tables_1, d.before a0 Z = true) (ws : List Jvm.Cond) (ch : Addr) (cl : Cell) (b0 b1 : Addr) (h0 : Heap) (n0 : Nat) (Z0 : n0 ≤ h0.size) (Od : Old Z n0 h0) (hI : IC Z ch cl b0 b1) :
    MetFree l (⟨"com/example/sealed_paths/sealedpaths/core/Conditions", "settled", "(III)Ljava/lang/Integer;"⟩ : MethodName) (head1 (Jvm.Cond.code (⟨"com/example/sealed_paths/sealedpaths/core/Conditions", "settled", "(III)Ljava/lang/Integer;"⟩ : MethodName) prog_13_method_10_code 4 (some (.object "java/lang/Integer")) :: ws) ({ frames := 1, cells := 0, slots := 0, locals := 12 } : Room)) (fun zA zU => zA = #[(.int (2 : Int32)), (.int (1 : Int32)), (.int (0 : Int32))] ∧ Z.Warmed39 zU.vm ∧ zU.heap = h0) (fun _ _ _ _ _ => True) (fun _ zU zO zW => ∃ zV zL, zO = .returned zV ∧ QV (.ref b1) h0 n0 zV zW.heap zL ∧ FrameEnd zU zO zW zL ({ frames := 1, cells := 0, slots := 0, locals := 12 } : Room).cells ({ frames := 1, cells := 0, slots := 0, locals := 12 } : Room).slots) := by
  refine MetFree.of_bodySF (plainFor_of_name pn_Conditions) hisR ?_
  intro p e s m args below meth c s₁ Bd hml0 hP hK
  obtain ⟨rfl, hZ, hh⟩ := hP
  have hx := Bd.exec
  have hby := Bd.bytes
  have hml : c.maxLocals = 4 := hml0
  have hown : s.vm.findClass "com/example/sealed_paths/sealedpaths/core/Conditions" = some m.cls := findClass_of_methodNamed Bd.named
  have hnm := (name_of_methodNamed Bd.named Bd.method).1
  have X0 : Stand p l e ({ frames := 1, cells := 0, slots := 0, locals := 12 } : Room) s m #[(.int (2 : Int32)), (.int (1 : Int32)), (.int (0 : Int32))] below meth c s₁ [] 0 0 := Stand.of_body Bd
  have e0 : s₁.heap = h0 := by rw [← hh, Bd.state]; rfl
  have N0 := Fr.nil n0
  have pre0 : ∀ zt, Steps p.tables e below (s₁.setTop (mkF m 0 #[.val (.int (2 : Int32)), .val (.int (1 : Int32)), .val (.int (0 : Int32)), .unset] [])) zt → Steps p.tables e below (s₁.setTop (entryFrame m #[(.int (2 : Int32)), (.int (1 : Int32)), (.int (0 : Int32))] 4)) zt := fun zt zk => castTop (ef_9_III m (2 : Int32) (1 : Int32) (0 : Int32)) zk
  have hI0 := hI
  obtain ⟨Sh, Sc, Ach, Sz, A128, A129, Eb0, Eb1, Fb0, Fb1⟩ := hI
  obtain ⟨_, _, ⟨T234, L234, k234, n234⟩, -, X234, ⟨Lc234, hQ234, l234, y234, z234⟩, st234⟩ := Jvm.LawKit.callS X0 hx (y := (⟨"java/lang/Integer", "valueOf", "(I)Ljava/lang/Integer;"⟩ : MethodName)) hown (mvT hZ (hw _ (List.mem_of_getElem? (i := 69) rfl))) (mvT hZ (hw _ (List.mem_of_getElem? (i := 70) rfl))) (mvT hZ (hw _ (List.mem_of_getElem? (i := 71) rfl))) (mvT hZ (hw _ (List.mem_of_getElem? (i := 72) rfl))) (by decide) (backOf (W := 0) (rvo1 l Z a0 hw [] ch cl b0 b1 h0 n0 Z0 Od hI0) hZ (hw _ (List.mem_of_getElem? (i := 72) rfl)) (hw _ (List.mem_of_getElem? (i := 71) rfl)) (by decide) (by decide)) (g := (mkF m 110 #[.val (.int (2 : Int32)), .val (.int (1 : Int32)), .val (.int (0 : Int32)), .val .null] [(.int (1 : Int32))])) rfl (by rw [hml]; rfl) (argsL := [(.int (1 : Int32))]) (rest := []) (lenOf pd_2 rfl) rfl (by show 2 * 0 + _ ≤ _; exact Nat.le_of_eq rfl) (hb hby d9_110) (fun _ _ => ⟨rfl, e0, (by decide : 0 + 0 ≤ _), (by decide : 0 + 0 ≤ _)⟩)
  dsimp only [Pt.U, Pt.locs, Pt.cells, Pt.slots] at X234 l234 y234 z234 st234 hQ234
  subst l234 y234 z234
  obtain ⟨rfl, Nq234, e234⟩ := hQ234
  have N234 := Fr.app N0 Nq234
  obtain ⟨fs, hr, hrun, hended, hW, hsame⟩ := X234.leave (v := some (.ref b1)) (fun h => by rw [Bd.returns] at h; cases h)
  refine ⟨_, _, pre0 _ ?_, hrun, hended, _, _, rfl, ?_, ⟨_, rfl⟩, hW, hsame.mono (by decide) (by decide)⟩
  · show Steps p.tables e below (s₁.setTop (mkF m 0 #[.val (.int (2 : Int32)), .val (.int (1 : Int32)), .val (.int (0 : Int32)), .unset] [])) _
    refine XS.aconstNull X0.here hx rfl (hb hby d9_0) ?_
    show Steps p.tables e below (s₁.setTop (mkF m 1 #[.val (.int (2 : Int32)), .val (.int (1 : Int32)), .val (.int (0 : Int32)), .unset] [.null])) _
    refine XS.astoreN X0.here hx rfl (hb hby d9_1) rfl rfl (l' := #[.val (.int (2 : Int32)), .val (.int (1 : Int32)), .val (.int (0 : Int32)), .val .null]) rfl ?_
    show Steps p.tables e below (s₁.setTop (mkF m 2 #[.val (.int (2 : Int32)), .val (.int (1 : Int32)), .val (.int (0 : Int32)), .val .null] [])) _
    refine XS.iloadN X0.here hx rfl (hb hby d9_2) rfl ?_
    show Steps p.tables e below (s₁.setTop (mkF m 3 #[.val (.int (2 : Int32)), .val (.int (1 : Int32)), .val (.int (0 : Int32)), .val .null] [(.int (2 : Int32))])) _
    refine XS.iconst X0.here hx rfl (hb hby d9_3) ?_
    show Steps p.tables e below (s₁.setTop (mkF m 4 #[.val (.int (2 : Int32)), .val (.int (1 : Int32)), .val (.int (0 : Int32)), .val .null] [(.int (3 : Int32)), (.int (2 : Int32))])) _
    refine XS.icmpYes X0.here hx rfl (pc0 := 4) (pc' := 28) rfl (hb hby d9_4) rfl (feq (by decide)).2 (by decide) (by decide) ?_
    show Steps p.tables e below (s₁.setTop (mkF m 28 #[.val (.int (2 : Int32)), .val (.int (1 : Int32)), .val (.int (0 : Int32)), .val .null] [])) _
    refine XS.iloadN X0.here hx rfl (hb hby d9_28) rfl ?_
    show Steps p.tables e below (s₁.setTop (mkF m 29 #[.val (.int (2 : Int32)), .val (.int (1 : Int32)), .val (.int (0 : Int32)), .val .null] [(.int (1 : Int32))])) _
    refine XS.iloadN X0.here hx rfl (hb hby d9_29) rfl ?_
    show Steps p.tables e below (s₁.setTop (mkF m 30 #[.val (.int (2 : Int32)), .val (.int (1 : Int32)), .val (.int (0 : Int32)), .val .null] [(.int (0 : Int32)), (.int (1 : Int32))])) _
    refine XS.icmpYes X0.here hx rfl (pc0 := 30) (pc' := 41) rfl (hb hby d9_30) rfl (feq (by decide)).2 (by decide) (by decide) ?_
    show Steps p.tables e below (s₁.setTop (mkF m 41 #[.val (.int (2 : Int32)), .val (.int (1 : Int32)), .val (.int (0 : Int32)), .val .null] [])) _
    refine XS.iloadN X0.here hx rfl (hb hby d9_41) rfl ?_
    show Steps p.tables e below (s₁.setTop (mkF m 42 #[.val (.int (2 : Int32)), .val (.int (1 : Int32)), .val (.int (0 : Int32)), .val .null] [(.int (2 : Int32))])) _
    refine XS.iconst X0.here hx rfl (hb hby d9_42) ?_
    show Steps p.tables e below (s₁.setTop (mkF m 43 #[.val (.int (2 : Int32)), .val (.int (1 : Int32)), .val (.int (0 : Int32)), .val .null] [(.int (1 : Int32)), (.int (2 : Int32))])) _
    refine XS.icmpYes X0.here hx rfl (pc0 := 43) (pc' := 62) rfl (hb hby d9_43) rfl (feq (by decide)).2 (by decide) (by decide) ?_
    show Steps p.tables e below (s₁.setTop (mkF m 62 #[.val (.int (2 : Int32)), .val (.int (1 : Int32)), .val (.int (0 : Int32)), .val .null] [])) _
    refine XS.iloadN X0.here hx rfl (hb hby d9_62) rfl ?_
    show Steps p.tables e below (s₁.setTop (mkF m 63 #[.val (.int (2 : Int32)), .val (.int (1 : Int32)), .val (.int (0 : Int32)), .val .null] [(.int (2 : Int32))])) _
    refine XS.iconst X0.here hx rfl (hb hby d9_63) ?_
    show Steps p.tables e below (s₁.setTop (mkF m 64 #[.val (.int (2 : Int32)), .val (.int (1 : Int32)), .val (.int (0 : Int32)), .val .null] [(.int (1 : Int32)), (.int (2 : Int32))])) _
    refine XS.icmpYes X0.here hx rfl (pc0 := 64) (pc' := 94) rfl (hb hby d9_64) rfl (feq (by decide)).2 (by decide) (by decide) ?_
    show Steps p.tables e below (s₁.setTop (mkF m 94 #[.val (.int (2 : Int32)), .val (.int (1 : Int32)), .val (.int (0 : Int32)), .val .null] [])) _
    refine XS.iloadN X0.here hx rfl (hb hby d9_94) rfl ?_
    show Steps p.tables e below (s₁.setTop (mkF m 95 #[.val (.int (2 : Int32)), .val (.int (1 : Int32)), .val (.int (0 : Int32)), .val .null] [(.int (2 : Int32))])) _
    refine XS.iconst X0.here hx rfl (hb hby d9_95) ?_
    show Steps p.tables e below (s₁.setTop (mkF m 96 #[.val (.int (2 : Int32)), .val (.int (1 : Int32)), .val (.int (0 : Int32)), .val .null] [(.int (2 : Int32)), (.int (2 : Int32))])) _
    refine XS.icmpNo X0.here hx rfl (hb hby d9_96) rfl (teq (by decide)).2 ?_
    show Steps p.tables e below (s₁.setTop (mkF m 99 #[.val (.int (2 : Int32)), .val (.int (1 : Int32)), .val (.int (0 : Int32)), .val .null] [])) _
    refine XS.iloadN X0.here hx rfl (hb hby d9_99) rfl ?_
    show Steps p.tables e below (s₁.setTop (mkF m 100 #[.val (.int (2 : Int32)), .val (.int (1 : Int32)), .val (.int (0 : Int32)), .val .null] [(.int (1 : Int32))])) _
    refine XS.iconst X0.here hx rfl (hb hby d9_100) ?_
    show Steps p.tables e below (s₁.setTop (mkF m 101 #[.val (.int (2 : Int32)), .val (.int (1 : Int32)), .val (.int (0 : Int32)), .val .null] [(.int (1 : Int32)), (.int (1 : Int32))])) _
    refine XS.icmpYes X0.here hx rfl (pc0 := 101) (pc' := 109) rfl (hb hby d9_101) rfl (teq (by decide)).1 (by decide) (by decide) ?_
    show Steps p.tables e below (s₁.setTop (mkF m 109 #[.val (.int (2 : Int32)), .val (.int (1 : Int32)), .val (.int (0 : Int32)), .val .null] [])) _
    refine XS.iconst X0.here hx rfl (hb hby d9_109) ?_
    show Steps p.tables e below (s₁.setTop (mkF m 110 #[.val (.int (2 : Int32)), .val (.int (1 : Int32)), .val (.int (0 : Int32)), .val .null] [(.int (1 : Int32))])) _
    refine st234 _ ?_
    show Steps p.tables e below (T234.setTop (mkF m 113 #[.val (.int (2 : Int32)), .val (.int (1 : Int32)), .val (.int (0 : Int32)), .val .null] [(.ref b1)])) _
    refine XS.astoreN X234.here hx rfl (hb hby d9_113) rfl rfl (l' := #[.val (.int (2 : Int32)), .val (.int (1 : Int32)), .val (.int (0 : Int32)), .val (.ref b1)]) rfl ?_
    show Steps p.tables e below (T234.setTop (mkF m 114 #[.val (.int (2 : Int32)), .val (.int (1 : Int32)), .val (.int (0 : Int32)), .val (.ref b1)] [])) _
    refine XS.goto X234.here hx rfl (pc0 := 114) (pc' := 143) rfl (hb hby d9_114) (by decide) (by decide) ?_
    show Steps p.tables e below (T234.setTop (mkF m 143 #[.val (.int (2 : Int32)), .val (.int (1 : Int32)), .val (.int (0 : Int32)), .val (.ref b1)] [])) _
    refine XS.aloadN X234.here hx rfl (hb hby d9_143) rfl rfl ?_
    show Steps p.tables e below (T234.setTop (mkF m 144 #[.val (.int (2 : Int32)), .val (.int (1 : Int32)), .val (.int (0 : Int32)), .val (.ref b1)] [(.ref b1)])) _
    jvm_step X234.here [X234.here.top, hx, (hb hby d9_144), X234.method', Bd.returns, Value.isRef, FieldType.isReference]
    first | (intro acts; rw [hr _ acts rfl rfl rfl]) | rw [hr _ _ rfl rfl rfl]
    exact Steps.refl _
  · show QV (.ref b1) h0 n0 _ T234.heap _
    rw [e234]
    exact ⟨rfl, N234, rfl⟩
theorem d8_0 : decode prog_13_method_9_code 0 = .ok (.iload_n 1, 1) := by decide +kernel
theorem d8_1 : decode prog_13_method_9_code 1 = .ok (.iload_n 2, 1) := by decide +kernel
theorem d8_2 : decode prog_13_method_9_code 2 = .ok (.iload_n 3, 1) := by decide +kernel
theorem d8_3 : decode prog_13_method_9_code 3 = .ok (.invokestatic 60, 3) := by decide +kernel
theorem pd_3 : parseMethodDescriptor "(III)Ljava/lang/Integer;" = some ⟨[.int, .int, .int], some (.object "java/lang/Integer")⟩ := by decide +kernel
theorem d8_6 : decode prog_13_method_9_code 6 = .ok (.astore 4, 2) := by decide +kernel
theorem d8_8 : decode prog_13_method_9_code 8 = .ok (.aload 4, 2) := by decide +kernel
theorem d8_10 : decode prog_13_method_9_code 10 = .ok (.ifnull 9, 3) := by decide +kernel
theorem d8_13 : decode prog_13_method_9_code 13 = .ok (.aload 4, 2) := by decide +kernel
theorem d8_15 : decode prog_13_method_9_code 15 = .ok (.invokevirtual 64, 3) := by decide +kernel
theorem pd_4 : parseMethodDescriptor "()I" = some ⟨[], some .int⟩ := by decide +kernel
theorem d8_18 : decode prog_13_method_9_code 18 = .ok (.ireturn, 1) := by decide +kernel
theorem ef_8_RIII (m : MethodId) (x0 : Addr) (x1 : Int32) (x2 : Int32) (x3 : Int32) : entryFrame m #[(.ref x0), (.int x1), (.int x2), (.int x3)] 12 = mkF m 0 #[.val (.ref x0), .val (.int x1), .val (.int x2), .val (.int x3), .unset, .unset, .unset, .unset, .unset, .unset, .unset, .unset] [] := by first | (simp [entryFrame, mkF, argsToLocals, Value.category]; done) | rfl
set_option maxRecDepth 65536 in
set_option maxHeartbeats 40000000 in
theorem ras300 (l : Launch) (Z : State) (a0 : Array Value) (hw : ∀ d ∈ tables_1, d.before a0 Z = true) (ws : List Jvm.Cond) (cn : Addr) (ch : Addr) (cl : Cell) (b0 b1 : Addr) (h0 : Heap) (n0 : Nat) (Z0 : n0 ≤ h0.size) (Od : Old Z n0 h0) (hI : IC Z ch cl b0 b1) :
    MetFree l (⟨"com/example/sealed_paths/sealedpaths/core/Conditions", "apply", "(III)I"⟩ : MethodName) (head1 (Jvm.Cond.code (⟨"com/example/sealed_paths/sealedpaths/core/Conditions", "apply", "(III)I"⟩ : MethodName) prog_13_method_9_code 12 (some .int) :: ws) ({ frames := 2, cells := 0, slots := 0, locals := 27 } : Room)) (fun zA zU => zA = #[(.ref cn), (.int (3 : Int32)), (.int (0 : Int32)), (.int (0 : Int32))] ∧ Z.Warmed39 zU.vm ∧ zU.heap = h0) (fun _ _ _ _ _ => True) (fun _ zU zO zW => ∃ zV zL, zO = .returned zV ∧ QV (.int (1 : Int32)) h0 n0 zV zW.heap zL ∧ FrameEnd zU zO zW zL ({ frames := 2, cells := 0, slots := 0, locals := 27 } : Room).cells ({ frames := 2, cells := 0, slots := 0, locals := 27 } : Room).slots) := by
  refine MetFree.of_bodySF (plainFor_of_name pn_Conditions) hisR ?_
  intro p e s m args below meth c s₁ Bd hml0 hP hK
  obtain ⟨rfl, hZ, hh⟩ := hP
  have hx := Bd.exec
  have hby := Bd.bytes
  have hml : c.maxLocals = 12 := hml0
  have hown : s.vm.findClass "com/example/sealed_paths/sealedpaths/core/Conditions" = some m.cls := findClass_of_methodNamed Bd.named
  have hnm := (name_of_methodNamed Bd.named Bd.method).1
  have X0 : Stand p l e ({ frames := 2, cells := 0, slots := 0, locals := 27 } : Room) s m #[(.ref cn), (.int (3 : Int32)), (.int (0 : Int32)), (.int (0 : Int32))] below meth c s₁ [] 0 0 := Stand.of_body Bd
  have e0 : s₁.heap = h0 := by rw [← hh, Bd.state]; rfl
  have N0 := Fr.nil n0
  have pre0 : ∀ zt, Steps p.tables e below (s₁.setTop (mkF m 0 #[.val (.ref cn), .val (.int (3 : Int32)), .val (.int (0 : Int32)), .val (.int (0 : Int32)), .unset, .unset, .unset, .unset, .unset, .unset, .unset, .unset] [])) zt → Steps p.tables e below (s₁.setTop (entryFrame m #[(.ref cn), (.int (3 : Int32)), (.int (0 : Int32)), (.int (0 : Int32))] 12)) zt := fun zt zk => castTop (ef_8_RIII m cn (3 : Int32) (0 : Int32) (0 : Int32)) zk
  have hI0 := hI
  obtain ⟨Sh, Sc, Ach, Sz, A128, A129, Eb0, Eb1, Fb0, Fb1⟩ := hI
  obtain ⟨_, _, ⟨T235, L235, k235, n235⟩, -, X235, ⟨Lc235, hQ235, l235, y235, z235⟩, st235⟩ := Jvm.LawKit.callS X0 hx (y := (⟨"com/example/sealed_paths/sealedpaths/core/Conditions", "settled", "(III)Ljava/lang/Integer;"⟩ : MethodName)) hown (mvT hZ (hw _ (List.mem_of_getElem? (i := 55) rfl))) (mvT hZ (hw _ (List.mem_of_getElem? (i := 56) rfl))) (mvT hZ (hw _ (List.mem_of_getElem? (i := 2) rfl))) (mvT hZ (hw _ (List.mem_of_getElem? (i := 57) rfl))) (by decide) (backOf (W := 0) (rse300 l Z a0 hw [] ch cl b0 b1 h0 n0 Z0 Od hI0) hZ (hw _ (List.mem_of_getElem? (i := 57) rfl)) (hw _ (List.mem_of_getElem? (i := 2) rfl)) (by decide) (by decide)) (g := (mkF m 3 #[.val (.ref cn), .val (.int (3 : Int32)), .val (.int (0 : Int32)), .val (.int (0 : Int32)), .unset, .unset, .unset, .unset, .unset, .unset, .unset, .unset] [(.int (0 : Int32)), (.int (0 : Int32)), (.int (3 : Int32))])) rfl (by rw [hml]; rfl) (argsL := [(.int (3 : Int32)), (.int (0 : Int32)), (.int (0 : Int32))]) (rest := []) (lenOf pd_3 rfl) rfl (by show 2 * 0 + _ ≤ _; exact Nat.le_of_eq rfl) (hb hby d8_3) (fun _ _ => ⟨rfl, e0, (by decide : 0 + 0 ≤ _), (by decide : 0 + 0 ≤ _)⟩)
  dsimp only [Pt.U, Pt.locs, Pt.cells, Pt.slots] at X235 l235 y235 z235 st235 hQ235
  subst l235 y235 z235
  obtain ⟨rfl, Nq235, e235⟩ := hQ235
  have N235 := Fr.app N0 Nq235
  obtain ⟨cq236, kq236, q236a, q236b, q236c⟩ := isOf hZ e235 (Eb1.ext Od.2)
  obtain ⟨_, _, ⟨T236, L236, k236, n236⟩, -, X236, ⟨Lc236, hQ236, l236, y236, z236⟩, st236⟩ := X235.virtualBack hx (y := (⟨"java/lang/Integer", "intValue", "()I"⟩ : MethodName)) (z := (⟨"java/lang/Integer", "intValue", "()I"⟩ : MethodName)) hown (mvT hZ (hw _ (List.mem_of_getElem? (i := 76) rfl))) (mvT hZ (hw _ (List.mem_of_getElem? (i := 77) rfl))) (notFace_of_selects (args := #[]) (mvT hZ (hw _ (List.mem_of_getElem? (i := 79) rfl)))) (mvT hZ (hw _ (List.mem_of_getElem? (i := 79) rfl))) (mvT hZ (hw _ (List.mem_of_getElem? (i := 78) rfl))) (by decide) (backOf (W := 0) (riv l Z a0 hw [] b1 (1 : Int32) h0 n0 Z0 (Fb1.ext Od.2)) hZ (hw _ (List.mem_of_getElem? (i := 80) rfl)) (hw _ (List.mem_of_getElem? (i := 71) rfl)) (by decide) (by decide)) q236a q236c (g := (mkF m 15 #[.val (.ref cn), .val (.int (3 : Int32)), .val (.int (0 : Int32)), .val (.int (0 : Int32)), .val (.ref b1), .unset, .unset, .unset, .unset, .unset, .unset, .unset] [(.ref b1)])) rfl (by rw [hml]; rfl) (Steps.refl _) (argsL := []) (rest := []) (lenOf pd_4 rfl) rfl (by show 2 * 0 + _ ≤ _; exact Nat.le_of_eq rfl) (hb hby d8_15) (fun _ _ => ⟨rfl, e235, (by decide : 0 + 0 ≤ _), (by decide : 0 + 0 ≤ _)⟩)
  dsimp only [Pt.U, Pt.locs, Pt.cells, Pt.slots] at X236 l236 y236 z236 st236 hQ236
  subst l236 y236 z236
  obtain ⟨rfl, Nq236, e236⟩ := hQ236
  have N236 := Fr.app N235 Nq236
  obtain ⟨fs, hr, hrun, hended, hW, hsame⟩ := X236.leave (v := some (.int (1 : Int32))) (fun h => by rw [Bd.returns] at h; cases h)
  refine ⟨_, _, pre0 _ ?_, hrun, hended, _, _, rfl, ?_, ⟨_, rfl⟩, hW, hsame.mono (by decide) (by decide)⟩
  · show Steps p.tables e below (s₁.setTop (mkF m 0 #[.val (.ref cn), .val (.int (3 : Int32)), .val (.int (0 : Int32)), .val (.int (0 : Int32)), .unset, .unset, .unset, .unset, .unset, .unset, .unset, .unset] [])) _
    refine XS.iloadN X0.here hx rfl (hb hby d8_0) rfl ?_
    show Steps p.tables e below (s₁.setTop (mkF m 1 #[.val (.ref cn), .val (.int (3 : Int32)), .val (.int (0 : Int32)), .val (.int (0 : Int32)), .unset, .unset, .unset, .unset, .unset, .unset, .unset, .unset] [(.int (3 : Int32))])) _
    refine XS.iloadN X0.here hx rfl (hb hby d8_1) rfl ?_
    show Steps p.tables e below (s₁.setTop (mkF m 2 #[.val (.ref cn), .val (.int (3 : Int32)), .val (.int (0 : Int32)), .val (.int (0 : Int32)), .unset, .unset, .unset, .unset, .unset, .unset, .unset, .unset] [(.int (0 : Int32)), (.int (3 : Int32))])) _
    refine XS.iloadN X0.here hx rfl (hb hby d8_2) rfl ?_
    show Steps p.tables e below (s₁.setTop (mkF m 3 #[.val (.ref cn), .val (.int (3 : Int32)), .val (.int (0 : Int32)), .val (.int (0 : Int32)), .unset, .unset, .unset, .unset, .unset, .unset, .unset, .unset] [(.int (0 : Int32)), (.int (0 : Int32)), (.int (3 : Int32))])) _
    refine st235 _ ?_
    show Steps p.tables e below (T235.setTop (mkF m 6 #[.val (.ref cn), .val (.int (3 : Int32)), .val (.int (0 : Int32)), .val (.int (0 : Int32)), .unset, .unset, .unset, .unset, .unset, .unset, .unset, .unset] [(.ref b1)])) _
    refine XS.astore X235.here hx rfl (hb hby d8_6) rfl rfl (l' := #[.val (.ref cn), .val (.int (3 : Int32)), .val (.int (0 : Int32)), .val (.int (0 : Int32)), .val (.ref b1), .unset, .unset, .unset, .unset, .unset, .unset, .unset]) rfl ?_
    show Steps p.tables e below (T235.setTop (mkF m 8 #[.val (.ref cn), .val (.int (3 : Int32)), .val (.int (0 : Int32)), .val (.int (0 : Int32)), .val (.ref b1), .unset, .unset, .unset, .unset, .unset, .unset, .unset] [])) _
    refine XS.aload X235.here hx rfl (hb hby d8_8) rfl rfl ?_
    show Steps p.tables e below (T235.setTop (mkF m 10 #[.val (.ref cn), .val (.int (3 : Int32)), .val (.int (0 : Int32)), .val (.int (0 : Int32)), .val (.ref b1), .unset, .unset, .unset, .unset, .unset, .unset, .unset] [(.ref b1)])) _
    refine XS.ifnullNo X235.here hx rfl (hb hby d8_10) rfl ?_
    show Steps p.tables e below (T235.setTop (mkF m 13 #[.val (.ref cn), .val (.int (3 : Int32)), .val (.int (0 : Int32)), .val (.int (0 : Int32)), .val (.ref b1), .unset, .unset, .unset, .unset, .unset, .unset, .unset] [])) _
    refine XS.aload X235.here hx rfl (hb hby d8_13) rfl rfl ?_
    show Steps p.tables e below (T235.setTop (mkF m 15 #[.val (.ref cn), .val (.int (3 : Int32)), .val (.int (0 : Int32)), .val (.int (0 : Int32)), .val (.ref b1), .unset, .unset, .unset, .unset, .unset, .unset, .unset] [(.ref b1)])) _
    refine st236.trans ?_
    show Steps p.tables e below (T236.setTop (mkF m 18 #[.val (.ref cn), .val (.int (3 : Int32)), .val (.int (0 : Int32)), .val (.int (0 : Int32)), .val (.ref b1), .unset, .unset, .unset, .unset, .unset, .unset, .unset] [(.int (1 : Int32))])) _
    exact retI X236 hx Bd.returns (hb hby d8_18) hr
  · show QV (.int (1 : Int32)) h0 n0 _ T236.heap _
    rw [e236]
    exact ⟨rfl, N236, rfl⟩
set_option maxRecDepth 65536 in
set_option maxHeartbeats 40000000 in
theorem ras311 (l : Launch) (Z : State) (a0 : Array Value) (hw : ∀ d ∈ tables_1, d.before a0 Z = true) (ws : List Jvm.Cond) (cn : Addr) (ch : Addr) (cl : Cell) (b0 b1 : Addr) (h0 : Heap) (n0 : Nat) (Z0 : n0 ≤ h0.size) (Od : Old Z n0 h0) (hI : IC Z ch cl b0 b1) :
    MetFree l (⟨"com/example/sealed_paths/sealedpaths/core/Conditions", "apply", "(III)I"⟩ : MethodName) (head1 (Jvm.Cond.code (⟨"com/example/sealed_paths/sealedpaths/core/Conditions", "apply", "(III)I"⟩ : MethodName) prog_13_method_9_code 12 (some .int) :: ws) ({ frames := 2, cells := 0, slots := 0, locals := 27 } : Room)) (fun zA zU => zA = #[(.ref cn), (.int (3 : Int32)), (.int (1 : Int32)), (.int (1 : Int32))] ∧ Z.Warmed39 zU.vm ∧ zU.heap = h0) (fun _ _ _ _ _ => True) (fun _ zU zO zW => ∃ zV zL, zO = .returned zV ∧ QV (.int (0 : Int32)) h0 n0 zV zW.heap zL ∧ FrameEnd zU zO zW zL ({ frames := 2, cells := 0, slots := 0, locals := 27 } : Room).cells ({ frames := 2, cells := 0, slots := 0, locals := 27 } : Room).slots) := by
  refine MetFree.of_bodySF (plainFor_of_name pn_Conditions) hisR ?_
  intro p e s m args below meth c s₁ Bd hml0 hP hK
  obtain ⟨rfl, hZ, hh⟩ := hP
  have hx := Bd.exec
  have hby := Bd.bytes
  have hml : c.maxLocals = 12 := hml0
  have hown : s.vm.findClass "com/example/sealed_paths/sealedpaths/core/Conditions" = some m.cls := findClass_of_methodNamed Bd.named
  have hnm := (name_of_methodNamed Bd.named Bd.method).1
  have X0 : Stand p l e ({ frames := 2, cells := 0, slots := 0, locals := 27 } : Room) s m #[(.ref cn), (.int (3 : Int32)), (.int (1 : Int32)), (.int (1 : Int32))] below meth c s₁ [] 0 0 := Stand.of_body Bd
  have e0 : s₁.heap = h0 := by rw [← hh, Bd.state]; rfl
  have N0 := Fr.nil n0
  have pre0 : ∀ zt, Steps p.tables e below (s₁.setTop (mkF m 0 #[.val (.ref cn), .val (.int (3 : Int32)), .val (.int (1 : Int32)), .val (.int (1 : Int32)), .unset, .unset, .unset, .unset, .unset, .unset, .unset, .unset] [])) zt → Steps p.tables e below (s₁.setTop (entryFrame m #[(.ref cn), (.int (3 : Int32)), (.int (1 : Int32)), (.int (1 : Int32))] 12)) zt := fun zt zk => castTop (ef_8_RIII m cn (3 : Int32) (1 : Int32) (1 : Int32)) zk
  have hI0 := hI
  obtain ⟨Sh, Sc, Ach, Sz, A128, A129, Eb0, Eb1, Fb0, Fb1⟩ := hI
  obtain ⟨_, _, ⟨T237, L237, k237, n237⟩, -, X237, ⟨Lc237, hQ237, l237, y237, z237⟩, st237⟩ := Jvm.LawKit.callS X0 hx (y := (⟨"com/example/sealed_paths/sealedpaths/core/Conditions", "settled", "(III)Ljava/lang/Integer;"⟩ : MethodName)) hown (mvT hZ (hw _ (List.mem_of_getElem? (i := 55) rfl))) (mvT hZ (hw _ (List.mem_of_getElem? (i := 56) rfl))) (mvT hZ (hw _ (List.mem_of_getElem? (i := 2) rfl))) (mvT hZ (hw _ (List.mem_of_getElem? (i := 57) rfl))) (by decide) (backOf (W := 0) (rse311 l Z a0 hw [] ch cl b0 b1 h0 n0 Z0 Od hI0) hZ (hw _ (List.mem_of_getElem? (i := 57) rfl)) (hw _ (List.mem_of_getElem? (i := 2) rfl)) (by decide) (by decide)) (g := (mkF m 3 #[.val (.ref cn), .val (.int (3 : Int32)), .val (.int (1 : Int32)), .val (.int (1 : Int32)), .unset, .unset, .unset, .unset, .unset, .unset, .unset, .unset] [(.int (1 : Int32)), (.int (1 : Int32)), (.int (3 : Int32))])) rfl (by rw [hml]; rfl) (argsL := [(.int (3 : Int32)), (.int (1 : Int32)), (.int (1 : Int32))]) (rest := []) (lenOf pd_3 rfl) rfl (by show 2 * 0 + _ ≤ _; exact Nat.le_of_eq rfl) (hb hby d8_3) (fun _ _ => ⟨rfl, e0, (by decide : 0 + 0 ≤ _), (by decide : 0 + 0 ≤ _)⟩)
  dsimp only [Pt.U, Pt.locs, Pt.cells, Pt.slots] at X237 l237 y237 z237 st237 hQ237
  subst l237 y237 z237
  obtain ⟨rfl, Nq237, e237⟩ := hQ237
  have N237 := Fr.app N0 Nq237
  obtain ⟨cq238, kq238, q238a, q238b, q238c⟩ := isOf hZ e237 (Eb0.ext Od.2)
  obtain ⟨_, _, ⟨T238, L238, k238, n238⟩, -, X238, ⟨Lc238, hQ238, l238, y238, z238⟩, st238⟩ := X237.virtualBack hx (y := (⟨"java/lang/Integer", "intValue", "()I"⟩ : MethodName)) (z := (⟨"java/lang/Integer", "intValue", "()I"⟩ : MethodName)) hown (mvT hZ (hw _ (List.mem_of_getElem? (i := 76) rfl))) (mvT hZ (hw _ (List.mem_of_getElem? (i := 77) rfl))) (notFace_of_selects (args := #[]) (mvT hZ (hw _ (List.mem_of_getElem? (i := 79) rfl)))) (mvT hZ (hw _ (List.mem_of_getElem? (i := 79) rfl))) (mvT hZ (hw _ (List.mem_of_getElem? (i := 78) rfl))) (by decide) (backOf (W := 0) (riv l Z a0 hw [] b0 (0 : Int32) h0 n0 Z0 (Fb0.ext Od.2)) hZ (hw _ (List.mem_of_getElem? (i := 80) rfl)) (hw _ (List.mem_of_getElem? (i := 71) rfl)) (by decide) (by decide)) q238a q238c (g := (mkF m 15 #[.val (.ref cn), .val (.int (3 : Int32)), .val (.int (1 : Int32)), .val (.int (1 : Int32)), .val (.ref b0), .unset, .unset, .unset, .unset, .unset, .unset, .unset] [(.ref b0)])) rfl (by rw [hml]; rfl) (Steps.refl _) (argsL := []) (rest := []) (lenOf pd_4 rfl) rfl (by show 2 * 0 + _ ≤ _; exact Nat.le_of_eq rfl) (hb hby d8_15) (fun _ _ => ⟨rfl, e237, (by decide : 0 + 0 ≤ _), (by decide : 0 + 0 ≤ _)⟩)
  dsimp only [Pt.U, Pt.locs, Pt.cells, Pt.slots] at X238 l238 y238 z238 st238 hQ238
  subst l238 y238 z238
  obtain ⟨rfl, Nq238, e238⟩ := hQ238
  have N238 := Fr.app N237 Nq238
  obtain ⟨fs, hr, hrun, hended, hW, hsame⟩ := X238.leave (v := some (.int (0 : Int32))) (fun h => by rw [Bd.returns] at h; cases h)
  refine ⟨_, _, pre0 _ ?_, hrun, hended, _, _, rfl, ?_, ⟨_, rfl⟩, hW, hsame.mono (by decide) (by decide)⟩
  · show Steps p.tables e below (s₁.setTop (mkF m 0 #[.val (.ref cn), .val (.int (3 : Int32)), .val (.int (1 : Int32)), .val (.int (1 : Int32)), .unset, .unset, .unset, .unset, .unset, .unset, .unset, .unset] [])) _
    refine XS.iloadN X0.here hx rfl (hb hby d8_0) rfl ?_
    show Steps p.tables e below (s₁.setTop (mkF m 1 #[.val (.ref cn), .val (.int (3 : Int32)), .val (.int (1 : Int32)), .val (.int (1 : Int32)), .unset, .unset, .unset, .unset, .unset, .unset, .unset, .unset] [(.int (3 : Int32))])) _
    refine XS.iloadN X0.here hx rfl (hb hby d8_1) rfl ?_
    show Steps p.tables e below (s₁.setTop (mkF m 2 #[.val (.ref cn), .val (.int (3 : Int32)), .val (.int (1 : Int32)), .val (.int (1 : Int32)), .unset, .unset, .unset, .unset, .unset, .unset, .unset, .unset] [(.int (1 : Int32)), (.int (3 : Int32))])) _
    refine XS.iloadN X0.here hx rfl (hb hby d8_2) rfl ?_
    show Steps p.tables e below (s₁.setTop (mkF m 3 #[.val (.ref cn), .val (.int (3 : Int32)), .val (.int (1 : Int32)), .val (.int (1 : Int32)), .unset, .unset, .unset, .unset, .unset, .unset, .unset, .unset] [(.int (1 : Int32)), (.int (1 : Int32)), (.int (3 : Int32))])) _
    refine st237 _ ?_
    show Steps p.tables e below (T237.setTop (mkF m 6 #[.val (.ref cn), .val (.int (3 : Int32)), .val (.int (1 : Int32)), .val (.int (1 : Int32)), .unset, .unset, .unset, .unset, .unset, .unset, .unset, .unset] [(.ref b0)])) _
    refine XS.astore X237.here hx rfl (hb hby d8_6) rfl rfl (l' := #[.val (.ref cn), .val (.int (3 : Int32)), .val (.int (1 : Int32)), .val (.int (1 : Int32)), .val (.ref b0), .unset, .unset, .unset, .unset, .unset, .unset, .unset]) rfl ?_
    show Steps p.tables e below (T237.setTop (mkF m 8 #[.val (.ref cn), .val (.int (3 : Int32)), .val (.int (1 : Int32)), .val (.int (1 : Int32)), .val (.ref b0), .unset, .unset, .unset, .unset, .unset, .unset, .unset] [])) _
    refine XS.aload X237.here hx rfl (hb hby d8_8) rfl rfl ?_
    show Steps p.tables e below (T237.setTop (mkF m 10 #[.val (.ref cn), .val (.int (3 : Int32)), .val (.int (1 : Int32)), .val (.int (1 : Int32)), .val (.ref b0), .unset, .unset, .unset, .unset, .unset, .unset, .unset] [(.ref b0)])) _
    refine XS.ifnullNo X237.here hx rfl (hb hby d8_10) rfl ?_
    show Steps p.tables e below (T237.setTop (mkF m 13 #[.val (.ref cn), .val (.int (3 : Int32)), .val (.int (1 : Int32)), .val (.int (1 : Int32)), .val (.ref b0), .unset, .unset, .unset, .unset, .unset, .unset, .unset] [])) _
    refine XS.aload X237.here hx rfl (hb hby d8_13) rfl rfl ?_
    show Steps p.tables e below (T237.setTop (mkF m 15 #[.val (.ref cn), .val (.int (3 : Int32)), .val (.int (1 : Int32)), .val (.int (1 : Int32)), .val (.ref b0), .unset, .unset, .unset, .unset, .unset, .unset, .unset] [(.ref b0)])) _
    refine st238.trans ?_
    show Steps p.tables e below (T238.setTop (mkF m 18 #[.val (.ref cn), .val (.int (3 : Int32)), .val (.int (1 : Int32)), .val (.int (1 : Int32)), .val (.ref b0), .unset, .unset, .unset, .unset, .unset, .unset, .unset] [(.int (0 : Int32))])) _
    exact retI X238 hx Bd.returns (hb hby d8_18) hr
  · show QV (.int (0 : Int32)) h0 n0 _ T238.heap _
    rw [e238]
    exact ⟨rfl, N238, rfl⟩
set_option maxRecDepth 65536 in
set_option maxHeartbeats 40000000 in
theorem ras101 (l : Launch) (Z : State) (a0 : Array Value) (hw : ∀ d ∈ tables_1, d.before a0 Z = true) (ws : List Jvm.Cond) (cn : Addr) (ch : Addr) (cl : Cell) (b0 b1 : Addr) (h0 : Heap) (n0 : Nat) (Z0 : n0 ≤ h0.size) (Od : Old Z n0 h0) (hI : IC Z ch cl b0 b1) :
    MetFree l (⟨"com/example/sealed_paths/sealedpaths/core/Conditions", "apply", "(III)I"⟩ : MethodName) (head1 (Jvm.Cond.code (⟨"com/example/sealed_paths/sealedpaths/core/Conditions", "apply", "(III)I"⟩ : MethodName) prog_13_method_9_code 12 (some .int) :: ws) ({ frames := 2, cells := 0, slots := 0, locals := 27 } : Room)) (fun zA zU => zA = #[(.ref cn), (.int (1 : Int32)), (.int (0 : Int32)), (.int (1 : Int32))] ∧ Z.Warmed39 zU.vm ∧ zU.heap = h0) (fun _ _ _ _ _ => True) (fun _ zU zO zW => ∃ zV zL, zO = .returned zV ∧ QV (.int (0 : Int32)) h0 n0 zV zW.heap zL ∧ FrameEnd zU zO zW zL ({ frames := 2, cells := 0, slots := 0, locals := 27 } : Room).cells ({ frames := 2, cells := 0, slots := 0, locals := 27 } : Room).slots) := by
  refine MetFree.of_bodySF (plainFor_of_name pn_Conditions) hisR ?_
  intro p e s m args below meth c s₁ Bd hml0 hP hK
  obtain ⟨rfl, hZ, hh⟩ := hP
  have hx := Bd.exec
  have hby := Bd.bytes
  have hml : c.maxLocals = 12 := hml0
  have hown : s.vm.findClass "com/example/sealed_paths/sealedpaths/core/Conditions" = some m.cls := findClass_of_methodNamed Bd.named
  have hnm := (name_of_methodNamed Bd.named Bd.method).1
  have X0 : Stand p l e ({ frames := 2, cells := 0, slots := 0, locals := 27 } : Room) s m #[(.ref cn), (.int (1 : Int32)), (.int (0 : Int32)), (.int (1 : Int32))] below meth c s₁ [] 0 0 := Stand.of_body Bd
  have e0 : s₁.heap = h0 := by rw [← hh, Bd.state]; rfl
  have N0 := Fr.nil n0
  have pre0 : ∀ zt, Steps p.tables e below (s₁.setTop (mkF m 0 #[.val (.ref cn), .val (.int (1 : Int32)), .val (.int (0 : Int32)), .val (.int (1 : Int32)), .unset, .unset, .unset, .unset, .unset, .unset, .unset, .unset] [])) zt → Steps p.tables e below (s₁.setTop (entryFrame m #[(.ref cn), (.int (1 : Int32)), (.int (0 : Int32)), (.int (1 : Int32))] 12)) zt := fun zt zk => castTop (ef_8_RIII m cn (1 : Int32) (0 : Int32) (1 : Int32)) zk
  have hI0 := hI
  obtain ⟨Sh, Sc, Ach, Sz, A128, A129, Eb0, Eb1, Fb0, Fb1⟩ := hI
  obtain ⟨_, _, ⟨T239, L239, k239, n239⟩, -, X239, ⟨Lc239, hQ239, l239, y239, z239⟩, st239⟩ := Jvm.LawKit.callS X0 hx (y := (⟨"com/example/sealed_paths/sealedpaths/core/Conditions", "settled", "(III)Ljava/lang/Integer;"⟩ : MethodName)) hown (mvT hZ (hw _ (List.mem_of_getElem? (i := 55) rfl))) (mvT hZ (hw _ (List.mem_of_getElem? (i := 56) rfl))) (mvT hZ (hw _ (List.mem_of_getElem? (i := 2) rfl))) (mvT hZ (hw _ (List.mem_of_getElem? (i := 57) rfl))) (by decide) (backOf (W := 0) (rse101 l Z a0 hw [] ch cl b0 b1 h0 n0 Z0 Od hI0) hZ (hw _ (List.mem_of_getElem? (i := 57) rfl)) (hw _ (List.mem_of_getElem? (i := 2) rfl)) (by decide) (by decide)) (g := (mkF m 3 #[.val (.ref cn), .val (.int (1 : Int32)), .val (.int (0 : Int32)), .val (.int (1 : Int32)), .unset, .unset, .unset, .unset, .unset, .unset, .unset, .unset] [(.int (1 : Int32)), (.int (0 : Int32)), (.int (1 : Int32))])) rfl (by rw [hml]; rfl) (argsL := [(.int (1 : Int32)), (.int (0 : Int32)), (.int (1 : Int32))]) (rest := []) (lenOf pd_3 rfl) rfl (by show 2 * 0 + _ ≤ _; exact Nat.le_of_eq rfl) (hb hby d8_3) (fun _ _ => ⟨rfl, e0, (by decide : 0 + 0 ≤ _), (by decide : 0 + 0 ≤ _)⟩)
  dsimp only [Pt.U, Pt.locs, Pt.cells, Pt.slots] at X239 l239 y239 z239 st239 hQ239
  subst l239 y239 z239
  obtain ⟨rfl, Nq239, e239⟩ := hQ239
  have N239 := Fr.app N0 Nq239
  obtain ⟨cq240, kq240, q240a, q240b, q240c⟩ := isOf hZ e239 (Eb0.ext Od.2)
  obtain ⟨_, _, ⟨T240, L240, k240, n240⟩, -, X240, ⟨Lc240, hQ240, l240, y240, z240⟩, st240⟩ := X239.virtualBack hx (y := (⟨"java/lang/Integer", "intValue", "()I"⟩ : MethodName)) (z := (⟨"java/lang/Integer", "intValue", "()I"⟩ : MethodName)) hown (mvT hZ (hw _ (List.mem_of_getElem? (i := 76) rfl))) (mvT hZ (hw _ (List.mem_of_getElem? (i := 77) rfl))) (notFace_of_selects (args := #[]) (mvT hZ (hw _ (List.mem_of_getElem? (i := 79) rfl)))) (mvT hZ (hw _ (List.mem_of_getElem? (i := 79) rfl))) (mvT hZ (hw _ (List.mem_of_getElem? (i := 78) rfl))) (by decide) (backOf (W := 0) (riv l Z a0 hw [] b0 (0 : Int32) h0 n0 Z0 (Fb0.ext Od.2)) hZ (hw _ (List.mem_of_getElem? (i := 80) rfl)) (hw _ (List.mem_of_getElem? (i := 71) rfl)) (by decide) (by decide)) q240a q240c (g := (mkF m 15 #[.val (.ref cn), .val (.int (1 : Int32)), .val (.int (0 : Int32)), .val (.int (1 : Int32)), .val (.ref b0), .unset, .unset, .unset, .unset, .unset, .unset, .unset] [(.ref b0)])) rfl (by rw [hml]; rfl) (Steps.refl _) (argsL := []) (rest := []) (lenOf pd_4 rfl) rfl (by show 2 * 0 + _ ≤ _; exact Nat.le_of_eq rfl) (hb hby d8_15) (fun _ _ => ⟨rfl, e239, (by decide : 0 + 0 ≤ _), (by decide : 0 + 0 ≤ _)⟩)
  dsimp only [Pt.U, Pt.locs, Pt.cells, Pt.slots] at X240 l240 y240 z240 st240 hQ240
  subst l240 y240 z240
  obtain ⟨rfl, Nq240, e240⟩ := hQ240
  have N240 := Fr.app N239 Nq240
  obtain ⟨fs, hr, hrun, hended, hW, hsame⟩ := X240.leave (v := some (.int (0 : Int32))) (fun h => by rw [Bd.returns] at h; cases h)
  refine ⟨_, _, pre0 _ ?_, hrun, hended, _, _, rfl, ?_, ⟨_, rfl⟩, hW, hsame.mono (by decide) (by decide)⟩
  · show Steps p.tables e below (s₁.setTop (mkF m 0 #[.val (.ref cn), .val (.int (1 : Int32)), .val (.int (0 : Int32)), .val (.int (1 : Int32)), .unset, .unset, .unset, .unset, .unset, .unset, .unset, .unset] [])) _
    refine XS.iloadN X0.here hx rfl (hb hby d8_0) rfl ?_
    show Steps p.tables e below (s₁.setTop (mkF m 1 #[.val (.ref cn), .val (.int (1 : Int32)), .val (.int (0 : Int32)), .val (.int (1 : Int32)), .unset, .unset, .unset, .unset, .unset, .unset, .unset, .unset] [(.int (1 : Int32))])) _
    refine XS.iloadN X0.here hx rfl (hb hby d8_1) rfl ?_
    show Steps p.tables e below (s₁.setTop (mkF m 2 #[.val (.ref cn), .val (.int (1 : Int32)), .val (.int (0 : Int32)), .val (.int (1 : Int32)), .unset, .unset, .unset, .unset, .unset, .unset, .unset, .unset] [(.int (0 : Int32)), (.int (1 : Int32))])) _
    refine XS.iloadN X0.here hx rfl (hb hby d8_2) rfl ?_
    show Steps p.tables e below (s₁.setTop (mkF m 3 #[.val (.ref cn), .val (.int (1 : Int32)), .val (.int (0 : Int32)), .val (.int (1 : Int32)), .unset, .unset, .unset, .unset, .unset, .unset, .unset, .unset] [(.int (1 : Int32)), (.int (0 : Int32)), (.int (1 : Int32))])) _
    refine st239 _ ?_
    show Steps p.tables e below (T239.setTop (mkF m 6 #[.val (.ref cn), .val (.int (1 : Int32)), .val (.int (0 : Int32)), .val (.int (1 : Int32)), .unset, .unset, .unset, .unset, .unset, .unset, .unset, .unset] [(.ref b0)])) _
    refine XS.astore X239.here hx rfl (hb hby d8_6) rfl rfl (l' := #[.val (.ref cn), .val (.int (1 : Int32)), .val (.int (0 : Int32)), .val (.int (1 : Int32)), .val (.ref b0), .unset, .unset, .unset, .unset, .unset, .unset, .unset]) rfl ?_
    show Steps p.tables e below (T239.setTop (mkF m 8 #[.val (.ref cn), .val (.int (1 : Int32)), .val (.int (0 : Int32)), .val (.int (1 : Int32)), .val (.ref b0), .unset, .unset, .unset, .unset, .unset, .unset, .unset] [])) _
    refine XS.aload X239.here hx rfl (hb hby d8_8) rfl rfl ?_
    show Steps p.tables e below (T239.setTop (mkF m 10 #[.val (.ref cn), .val (.int (1 : Int32)), .val (.int (0 : Int32)), .val (.int (1 : Int32)), .val (.ref b0), .unset, .unset, .unset, .unset, .unset, .unset, .unset] [(.ref b0)])) _
    refine XS.ifnullNo X239.here hx rfl (hb hby d8_10) rfl ?_
    show Steps p.tables e below (T239.setTop (mkF m 13 #[.val (.ref cn), .val (.int (1 : Int32)), .val (.int (0 : Int32)), .val (.int (1 : Int32)), .val (.ref b0), .unset, .unset, .unset, .unset, .unset, .unset, .unset] [])) _
    refine XS.aload X239.here hx rfl (hb hby d8_13) rfl rfl ?_
    show Steps p.tables e below (T239.setTop (mkF m 15 #[.val (.ref cn), .val (.int (1 : Int32)), .val (.int (0 : Int32)), .val (.int (1 : Int32)), .val (.ref b0), .unset, .unset, .unset, .unset, .unset, .unset, .unset] [(.ref b0)])) _
    refine st240.trans ?_
    show Steps p.tables e below (T240.setTop (mkF m 18 #[.val (.ref cn), .val (.int (1 : Int32)), .val (.int (0 : Int32)), .val (.int (1 : Int32)), .val (.ref b0), .unset, .unset, .unset, .unset, .unset, .unset, .unset] [(.int (0 : Int32))])) _
    exact retI X240 hx Bd.returns (hb hby d8_18) hr
  · show QV (.int (0 : Int32)) h0 n0 _ T240.heap _
    rw [e240]
    exact ⟨rfl, N240, rfl⟩
set_option maxRecDepth 65536 in
set_option maxHeartbeats 40000000 in
theorem ras110 (l : Launch) (Z : State) (a0 : Array Value) (hw : ∀ d ∈ tables_1, d.before a0 Z = true) (ws : List Jvm.Cond) (cn : Addr) (ch : Addr) (cl : Cell) (b0 b1 : Addr) (h0 : Heap) (n0 : Nat) (Z0 : n0 ≤ h0.size) (Od : Old Z n0 h0) (hI : IC Z ch cl b0 b1) :
    MetFree l (⟨"com/example/sealed_paths/sealedpaths/core/Conditions", "apply", "(III)I"⟩ : MethodName) (head1 (Jvm.Cond.code (⟨"com/example/sealed_paths/sealedpaths/core/Conditions", "apply", "(III)I"⟩ : MethodName) prog_13_method_9_code 12 (some .int) :: ws) ({ frames := 2, cells := 0, slots := 0, locals := 27 } : Room)) (fun zA zU => zA = #[(.ref cn), (.int (1 : Int32)), (.int (1 : Int32)), (.int (0 : Int32))] ∧ Z.Warmed39 zU.vm ∧ zU.heap = h0) (fun _ _ _ _ _ => True) (fun _ zU zO zW => ∃ zV zL, zO = .returned zV ∧ QV (.int (0 : Int32)) h0 n0 zV zW.heap zL ∧ FrameEnd zU zO zW zL ({ frames := 2, cells := 0, slots := 0, locals := 27 } : Room).cells ({ frames := 2, cells := 0, slots := 0, locals := 27 } : Room).slots) := by
  refine MetFree.of_bodySF (plainFor_of_name pn_Conditions) hisR ?_
  intro p e s m args below meth c s₁ Bd hml0 hP hK
  obtain ⟨rfl, hZ, hh⟩ := hP
  have hx := Bd.exec
  have hby := Bd.bytes
  have hml : c.maxLocals = 12 := hml0
  have hown : s.vm.findClass "com/example/sealed_paths/sealedpaths/core/Conditions" = some m.cls := findClass_of_methodNamed Bd.named
  have hnm := (name_of_methodNamed Bd.named Bd.method).1
  have X0 : Stand p l e ({ frames := 2, cells := 0, slots := 0, locals := 27 } : Room) s m #[(.ref cn), (.int (1 : Int32)), (.int (1 : Int32)), (.int (0 : Int32))] below meth c s₁ [] 0 0 := Stand.of_body Bd
  have e0 : s₁.heap = h0 := by rw [← hh, Bd.state]; rfl
  have N0 := Fr.nil n0
  have pre0 : ∀ zt, Steps p.tables e below (s₁.setTop (mkF m 0 #[.val (.ref cn), .val (.int (1 : Int32)), .val (.int (1 : Int32)), .val (.int (0 : Int32)), .unset, .unset, .unset, .unset, .unset, .unset, .unset, .unset] [])) zt → Steps p.tables e below (s₁.setTop (entryFrame m #[(.ref cn), (.int (1 : Int32)), (.int (1 : Int32)), (.int (0 : Int32))] 12)) zt := fun zt zk => castTop (ef_8_RIII m cn (1 : Int32) (1 : Int32) (0 : Int32)) zk
  have hI0 := hI
  obtain ⟨Sh, Sc, Ach, Sz, A128, A129, Eb0, Eb1, Fb0, Fb1⟩ := hI
  obtain ⟨_, _, ⟨T241, L241, k241, n241⟩, -, X241, ⟨Lc241, hQ241, l241, y241, z241⟩, st241⟩ := Jvm.LawKit.callS X0 hx (y := (⟨"com/example/sealed_paths/sealedpaths/core/Conditions", "settled", "(III)Ljava/lang/Integer;"⟩ : MethodName)) hown (mvT hZ (hw _ (List.mem_of_getElem? (i := 55) rfl))) (mvT hZ (hw _ (List.mem_of_getElem? (i := 56) rfl))) (mvT hZ (hw _ (List.mem_of_getElem? (i := 2) rfl))) (mvT hZ (hw _ (List.mem_of_getElem? (i := 57) rfl))) (by decide) (backOf (W := 0) (rse110 l Z a0 hw [] ch cl b0 b1 h0 n0 Z0 Od hI0) hZ (hw _ (List.mem_of_getElem? (i := 57) rfl)) (hw _ (List.mem_of_getElem? (i := 2) rfl)) (by decide) (by decide)) (g := (mkF m 3 #[.val (.ref cn), .val (.int (1 : Int32)), .val (.int (1 : Int32)), .val (.int (0 : Int32)), .unset, .unset, .unset, .unset, .unset, .unset, .unset, .unset] [(.int (0 : Int32)), (.int (1 : Int32)), (.int (1 : Int32))])) rfl (by rw [hml]; rfl) (argsL := [(.int (1 : Int32)), (.int (1 : Int32)), (.int (0 : Int32))]) (rest := []) (lenOf pd_3 rfl) rfl (by show 2 * 0 + _ ≤ _; exact Nat.le_of_eq rfl) (hb hby d8_3) (fun _ _ => ⟨rfl, e0, (by decide : 0 + 0 ≤ _), (by decide : 0 + 0 ≤ _)⟩)
  dsimp only [Pt.U, Pt.locs, Pt.cells, Pt.slots] at X241 l241 y241 z241 st241 hQ241
  subst l241 y241 z241
  obtain ⟨rfl, Nq241, e241⟩ := hQ241
  have N241 := Fr.app N0 Nq241
  obtain ⟨cq242, kq242, q242a, q242b, q242c⟩ := isOf hZ e241 (Eb0.ext Od.2)
  obtain ⟨_, _, ⟨T242, L242, k242, n242⟩, -, X242, ⟨Lc242, hQ242, l242, y242, z242⟩, st242⟩ := X241.virtualBack hx (y := (⟨"java/lang/Integer", "intValue", "()I"⟩ : MethodName)) (z := (⟨"java/lang/Integer", "intValue", "()I"⟩ : MethodName)) hown (mvT hZ (hw _ (List.mem_of_getElem? (i := 76) rfl))) (mvT hZ (hw _ (List.mem_of_getElem? (i := 77) rfl))) (notFace_of_selects (args := #[]) (mvT hZ (hw _ (List.mem_of_getElem? (i := 79) rfl)))) (mvT hZ (hw _ (List.mem_of_getElem? (i := 79) rfl))) (mvT hZ (hw _ (List.mem_of_getElem? (i := 78) rfl))) (by decide) (backOf (W := 0) (riv l Z a0 hw [] b0 (0 : Int32) h0 n0 Z0 (Fb0.ext Od.2)) hZ (hw _ (List.mem_of_getElem? (i := 80) rfl)) (hw _ (List.mem_of_getElem? (i := 71) rfl)) (by decide) (by decide)) q242a q242c (g := (mkF m 15 #[.val (.ref cn), .val (.int (1 : Int32)), .val (.int (1 : Int32)), .val (.int (0 : Int32)), .val (.ref b0), .unset, .unset, .unset, .unset, .unset, .unset, .unset] [(.ref b0)])) rfl (by rw [hml]; rfl) (Steps.refl _) (argsL := []) (rest := []) (lenOf pd_4 rfl) rfl (by show 2 * 0 + _ ≤ _; exact Nat.le_of_eq rfl) (hb hby d8_15) (fun _ _ => ⟨rfl, e241, (by decide : 0 + 0 ≤ _), (by decide : 0 + 0 ≤ _)⟩)
  dsimp only [Pt.U, Pt.locs, Pt.cells, Pt.slots] at X242 l242 y242 z242 st242 hQ242
  subst l242 y242 z242
  obtain ⟨rfl, Nq242, e242⟩ := hQ242
  have N242 := Fr.app N241 Nq242
  obtain ⟨fs, hr, hrun, hended, hW, hsame⟩ := X242.leave (v := some (.int (0 : Int32))) (fun h => by rw [Bd.returns] at h; cases h)
  refine ⟨_, _, pre0 _ ?_, hrun, hended, _, _, rfl, ?_, ⟨_, rfl⟩, hW, hsame.mono (by decide) (by decide)⟩
  · show Steps p.tables e below (s₁.setTop (mkF m 0 #[.val (.ref cn), .val (.int (1 : Int32)), .val (.int (1 : Int32)), .val (.int (0 : Int32)), .unset, .unset, .unset, .unset, .unset, .unset, .unset, .unset] [])) _
    refine XS.iloadN X0.here hx rfl (hb hby d8_0) rfl ?_
    show Steps p.tables e below (s₁.setTop (mkF m 1 #[.val (.ref cn), .val (.int (1 : Int32)), .val (.int (1 : Int32)), .val (.int (0 : Int32)), .unset, .unset, .unset, .unset, .unset, .unset, .unset, .unset] [(.int (1 : Int32))])) _
    refine XS.iloadN X0.here hx rfl (hb hby d8_1) rfl ?_
    show Steps p.tables e below (s₁.setTop (mkF m 2 #[.val (.ref cn), .val (.int (1 : Int32)), .val (.int (1 : Int32)), .val (.int (0 : Int32)), .unset, .unset, .unset, .unset, .unset, .unset, .unset, .unset] [(.int (1 : Int32)), (.int (1 : Int32))])) _
    refine XS.iloadN X0.here hx rfl (hb hby d8_2) rfl ?_
    show Steps p.tables e below (s₁.setTop (mkF m 3 #[.val (.ref cn), .val (.int (1 : Int32)), .val (.int (1 : Int32)), .val (.int (0 : Int32)), .unset, .unset, .unset, .unset, .unset, .unset, .unset, .unset] [(.int (0 : Int32)), (.int (1 : Int32)), (.int (1 : Int32))])) _
    refine st241 _ ?_
    show Steps p.tables e below (T241.setTop (mkF m 6 #[.val (.ref cn), .val (.int (1 : Int32)), .val (.int (1 : Int32)), .val (.int (0 : Int32)), .unset, .unset, .unset, .unset, .unset, .unset, .unset, .unset] [(.ref b0)])) _
    refine XS.astore X241.here hx rfl (hb hby d8_6) rfl rfl (l' := #[.val (.ref cn), .val (.int (1 : Int32)), .val (.int (1 : Int32)), .val (.int (0 : Int32)), .val (.ref b0), .unset, .unset, .unset, .unset, .unset, .unset, .unset]) rfl ?_
    show Steps p.tables e below (T241.setTop (mkF m 8 #[.val (.ref cn), .val (.int (1 : Int32)), .val (.int (1 : Int32)), .val (.int (0 : Int32)), .val (.ref b0), .unset, .unset, .unset, .unset, .unset, .unset, .unset] [])) _
    refine XS.aload X241.here hx rfl (hb hby d8_8) rfl rfl ?_
    show Steps p.tables e below (T241.setTop (mkF m 10 #[.val (.ref cn), .val (.int (1 : Int32)), .val (.int (1 : Int32)), .val (.int (0 : Int32)), .val (.ref b0), .unset, .unset, .unset, .unset, .unset, .unset, .unset] [(.ref b0)])) _
    refine XS.ifnullNo X241.here hx rfl (hb hby d8_10) rfl ?_
    show Steps p.tables e below (T241.setTop (mkF m 13 #[.val (.ref cn), .val (.int (1 : Int32)), .val (.int (1 : Int32)), .val (.int (0 : Int32)), .val (.ref b0), .unset, .unset, .unset, .unset, .unset, .unset, .unset] [])) _
    refine XS.aload X241.here hx rfl (hb hby d8_13) rfl rfl ?_
    show Steps p.tables e below (T241.setTop (mkF m 15 #[.val (.ref cn), .val (.int (1 : Int32)), .val (.int (1 : Int32)), .val (.int (0 : Int32)), .val (.ref b0), .unset, .unset, .unset, .unset, .unset, .unset, .unset] [(.ref b0)])) _
    refine st242.trans ?_
    show Steps p.tables e below (T242.setTop (mkF m 18 #[.val (.ref cn), .val (.int (1 : Int32)), .val (.int (1 : Int32)), .val (.int (0 : Int32)), .val (.ref b0), .unset, .unset, .unset, .unset, .unset, .unset, .unset] [(.int (0 : Int32))])) _
    exact retI X242 hx Bd.returns (hb hby d8_18) hr
  · show QV (.int (0 : Int32)) h0 n0 _ T242.heap _
    rw [e242]
    exact ⟨rfl, N242, rfl⟩
set_option maxRecDepth 65536 in
set_option maxHeartbeats 40000000 in
theorem ras201 (l : Launch) (Z : State) (a0 : Array Value) (hw : ∀ d ∈ tables_1, d.before a0 Z = true) (ws : List Jvm.Cond) (cn : Addr) (ch : Addr) (cl : Cell) (b0 b1 : Addr) (h0 : Heap) (n0 : Nat) (Z0 : n0 ≤ h0.size) (Od : Old Z n0 h0) (hI : IC Z ch cl b0 b1) :
    MetFree l (⟨"com/example/sealed_paths/sealedpaths/core/Conditions", "apply", "(III)I"⟩ : MethodName) (head1 (Jvm.Cond.code (⟨"com/example/sealed_paths/sealedpaths/core/Conditions", "apply", "(III)I"⟩ : MethodName) prog_13_method_9_code 12 (some .int) :: ws) ({ frames := 2, cells := 0, slots := 0, locals := 27 } : Room)) (fun zA zU => zA = #[(.ref cn), (.int (2 : Int32)), (.int (0 : Int32)), (.int (1 : Int32))] ∧ Z.Warmed39 zU.vm ∧ zU.heap = h0) (fun _ _ _ _ _ => True) (fun _ zU zO zW => ∃ zV zL, zO = .returned zV ∧ QV (.int (1 : Int32)) h0 n0 zV zW.heap zL ∧ FrameEnd zU zO zW zL ({ frames := 2, cells := 0, slots := 0, locals := 27 } : Room).cells ({ frames := 2, cells := 0, slots := 0, locals := 27 } : Room).slots) := by
  refine MetFree.of_bodySF (plainFor_of_name pn_Conditions) hisR ?_
  intro p e s m args below meth c s₁ Bd hml0 hP hK
  obtain ⟨rfl, hZ, hh⟩ := hP
  have hx := Bd.exec
  have hby := Bd.bytes
  have hml : c.maxLocals = 12 := hml0
  have hown : s.vm.findClass "com/example/sealed_paths/sealedpaths/core/Conditions" = some m.cls := findClass_of_methodNamed Bd.named
  have hnm := (name_of_methodNamed Bd.named Bd.method).1
  have X0 : Stand p l e ({ frames := 2, cells := 0, slots := 0, locals := 27 } : Room) s m #[(.ref cn), (.int (2 : Int32)), (.int (0 : Int32)), (.int (1 : Int32))] below meth c s₁ [] 0 0 := Stand.of_body Bd
  have e0 : s₁.heap = h0 := by rw [← hh, Bd.state]; rfl
  have N0 := Fr.nil n0
  have pre0 : ∀ zt, Steps p.tables e below (s₁.setTop (mkF m 0 #[.val (.ref cn), .val (.int (2 : Int32)), .val (.int (0 : Int32)), .val (.int (1 : Int32)), .unset, .unset, .unset, .unset, .unset, .unset, .unset, .unset] [])) zt → Steps p.tables e below (s₁.setTop (entryFrame m #[(.ref cn), (.int (2 : Int32)), (.int (0 : Int32)), (.int (1 : Int32))] 12)) zt := fun zt zk => castTop (ef_8_RIII m cn (2 : Int32) (0 : Int32) (1 : Int32)) zk
  have hI0 := hI
  obtain ⟨Sh, Sc, Ach, Sz, A128, A129, Eb0, Eb1, Fb0, Fb1⟩ := hI
  obtain ⟨_, _, ⟨T243, L243, k243, n243⟩, -, X243, ⟨Lc243, hQ243, l243, y243, z243⟩, st243⟩ := Jvm.LawKit.callS X0 hx (y := (⟨"com/example/sealed_paths/sealedpaths/core/Conditions", "settled", "(III)Ljava/lang/Integer;"⟩ : MethodName)) hown (mvT hZ (hw _ (List.mem_of_getElem? (i := 55) rfl))) (mvT hZ (hw _ (List.mem_of_getElem? (i := 56) rfl))) (mvT hZ (hw _ (List.mem_of_getElem? (i := 2) rfl))) (mvT hZ (hw _ (List.mem_of_getElem? (i := 57) rfl))) (by decide) (backOf (W := 0) (rse201 l Z a0 hw [] ch cl b0 b1 h0 n0 Z0 Od hI0) hZ (hw _ (List.mem_of_getElem? (i := 57) rfl)) (hw _ (List.mem_of_getElem? (i := 2) rfl)) (by decide) (by decide)) (g := (mkF m 3 #[.val (.ref cn), .val (.int (2 : Int32)), .val (.int (0 : Int32)), .val (.int (1 : Int32)), .unset, .unset, .unset, .unset, .unset, .unset, .unset, .unset] [(.int (1 : Int32)), (.int (0 : Int32)), (.int (2 : Int32))])) rfl (by rw [hml]; rfl) (argsL := [(.int (2 : Int32)), (.int (0 : Int32)), (.int (1 : Int32))]) (rest := []) (lenOf pd_3 rfl) rfl (by show 2 * 0 + _ ≤ _; exact Nat.le_of_eq rfl) (hb hby d8_3) (fun _ _ => ⟨rfl, e0, (by decide : 0 + 0 ≤ _), (by decide : 0 + 0 ≤ _)⟩)
  dsimp only [Pt.U, Pt.locs, Pt.cells, Pt.slots] at X243 l243 y243 z243 st243 hQ243
  subst l243 y243 z243
  obtain ⟨rfl, Nq243, e243⟩ := hQ243
  have N243 := Fr.app N0 Nq243
  obtain ⟨cq244, kq244, q244a, q244b, q244c⟩ := isOf hZ e243 (Eb1.ext Od.2)
  obtain ⟨_, _, ⟨T244, L244, k244, n244⟩, -, X244, ⟨Lc244, hQ244, l244, y244, z244⟩, st244⟩ := X243.virtualBack hx (y := (⟨"java/lang/Integer", "intValue", "()I"⟩ : MethodName)) (z := (⟨"java/lang/Integer", "intValue", "()I"⟩ : MethodName)) hown (mvT hZ (hw _ (List.mem_of_getElem? (i := 76) rfl))) (mvT hZ (hw _ (List.mem_of_getElem? (i := 77) rfl))) (notFace_of_selects (args := #[]) (mvT hZ (hw _ (List.mem_of_getElem? (i := 79) rfl)))) (mvT hZ (hw _ (List.mem_of_getElem? (i := 79) rfl))) (mvT hZ (hw _ (List.mem_of_getElem? (i := 78) rfl))) (by decide) (backOf (W := 0) (riv l Z a0 hw [] b1 (1 : Int32) h0 n0 Z0 (Fb1.ext Od.2)) hZ (hw _ (List.mem_of_getElem? (i := 80) rfl)) (hw _ (List.mem_of_getElem? (i := 71) rfl)) (by decide) (by decide)) q244a q244c (g := (mkF m 15 #[.val (.ref cn), .val (.int (2 : Int32)), .val (.int (0 : Int32)), .val (.int (1 : Int32)), .val (.ref b1), .unset, .unset, .unset, .unset, .unset, .unset, .unset] [(.ref b1)])) rfl (by rw [hml]; rfl) (Steps.refl _) (argsL := []) (rest := []) (lenOf pd_4 rfl) rfl (by show 2 * 0 + _ ≤ _; exact Nat.le_of_eq rfl) (hb hby d8_15) (fun _ _ => ⟨rfl, e243, (by decide : 0 + 0 ≤ _), (by decide : 0 + 0 ≤ _)⟩)
  dsimp only [Pt.U, Pt.locs, Pt.cells, Pt.slots] at X244 l244 y244 z244 st244 hQ244
  subst l244 y244 z244
  obtain ⟨rfl, Nq244, e244⟩ := hQ244
  have N244 := Fr.app N243 Nq244
  obtain ⟨fs, hr, hrun, hended, hW, hsame⟩ := X244.leave (v := some (.int (1 : Int32))) (fun h => by rw [Bd.returns] at h; cases h)
  refine ⟨_, _, pre0 _ ?_, hrun, hended, _, _, rfl, ?_, ⟨_, rfl⟩, hW, hsame.mono (by decide) (by decide)⟩
  · show Steps p.tables e below (s₁.setTop (mkF m 0 #[.val (.ref cn), .val (.int (2 : Int32)), .val (.int (0 : Int32)), .val (.int (1 : Int32)), .unset, .unset, .unset, .unset, .unset, .unset, .unset, .unset] [])) _
    refine XS.iloadN X0.here hx rfl (hb hby d8_0) rfl ?_
    show Steps p.tables e below (s₁.setTop (mkF m 1 #[.val (.ref cn), .val (.int (2 : Int32)), .val (.int (0 : Int32)), .val (.int (1 : Int32)), .unset, .unset, .unset, .unset, .unset, .unset, .unset, .unset] [(.int (2 : Int32))])) _
    refine XS.iloadN X0.here hx rfl (hb hby d8_1) rfl ?_
    show Steps p.tables e below (s₁.setTop (mkF m 2 #[.val (.ref cn), .val (.int (2 : Int32)), .val (.int (0 : Int32)), .val (.int (1 : Int32)), .unset, .unset, .unset, .unset, .unset, .unset, .unset, .unset] [(.int (0 : Int32)), (.int (2 : Int32))])) _
    refine XS.iloadN X0.here hx rfl (hb hby d8_2) rfl ?_
    show Steps p.tables e below (s₁.setTop (mkF m 3 #[.val (.ref cn), .val (.int (2 : Int32)), .val (.int (0 : Int32)), .val (.int (1 : Int32)), .unset, .unset, .unset, .unset, .unset, .unset, .unset, .unset] [(.int (1 : Int32)), (.int (0 : Int32)), (.int (2 : Int32))])) _
    refine st243 _ ?_
    show Steps p.tables e below (T243.setTop (mkF m 6 #[.val (.ref cn), .val (.int (2 : Int32)), .val (.int (0 : Int32)), .val (.int (1 : Int32)), .unset, .unset, .unset, .unset, .unset, .unset, .unset, .unset] [(.ref b1)])) _
    refine XS.astore X243.here hx rfl (hb hby d8_6) rfl rfl (l' := #[.val (.ref cn), .val (.int (2 : Int32)), .val (.int (0 : Int32)), .val (.int (1 : Int32)), .val (.ref b1), .unset, .unset, .unset, .unset, .unset, .unset, .unset]) rfl ?_
    show Steps p.tables e below (T243.setTop (mkF m 8 #[.val (.ref cn), .val (.int (2 : Int32)), .val (.int (0 : Int32)), .val (.int (1 : Int32)), .val (.ref b1), .unset, .unset, .unset, .unset, .unset, .unset, .unset] [])) _
    refine XS.aload X243.here hx rfl (hb hby d8_8) rfl rfl ?_
    show Steps p.tables e below (T243.setTop (mkF m 10 #[.val (.ref cn), .val (.int (2 : Int32)), .val (.int (0 : Int32)), .val (.int (1 : Int32)), .val (.ref b1), .unset, .unset, .unset, .unset, .unset, .unset, .unset] [(.ref b1)])) _
    refine XS.ifnullNo X243.here hx rfl (hb hby d8_10) rfl ?_
    show Steps p.tables e below (T243.setTop (mkF m 13 #[.val (.ref cn), .val (.int (2 : Int32)), .val (.int (0 : Int32)), .val (.int (1 : Int32)), .val (.ref b1), .unset, .unset, .unset, .unset, .unset, .unset, .unset] [])) _
    refine XS.aload X243.here hx rfl (hb hby d8_13) rfl rfl ?_
    show Steps p.tables e below (T243.setTop (mkF m 15 #[.val (.ref cn), .val (.int (2 : Int32)), .val (.int (0 : Int32)), .val (.int (1 : Int32)), .val (.ref b1), .unset, .unset, .unset, .unset, .unset, .unset, .unset] [(.ref b1)])) _
    refine st244.trans ?_
    show Steps p.tables e below (T244.setTop (mkF m 18 #[.val (.ref cn), .val (.int (2 : Int32)), .val (.int (0 : Int32)), .val (.int (1 : Int32)), .val (.ref b1), .unset, .unset, .unset, .unset, .unset, .unset, .unset] [(.int (1 : Int32))])) _
    exact retI X244 hx Bd.returns (hb hby d8_18) hr
  · show QV (.int (1 : Int32)) h0 n0 _ T244.heap _
    rw [e244]
    exact ⟨rfl, N244, rfl⟩
set_option maxRecDepth 65536 in
set_option maxHeartbeats 40000000 in
theorem ras210 (l : Launch) (Z : State) (a0 : Array Value) (hw : ∀ d ∈ tables_1, d.before a0 Z = true) (ws : List Jvm.Cond) (cn : Addr) (ch : Addr) (cl : Cell) (b0 b1 : Addr) (h0 : Heap) (n0 : Nat) (Z0 : n0 ≤ h0.size) (Od : Old Z n0 h0) (hI : IC Z ch cl b0 b1) :
    MetFree l (⟨"com/example/sealed_paths/sealedpaths/core/Conditions", "apply", "(III)I"⟩ : MethodName) (head1 (Jvm.Cond.code (⟨"com/example/sealed_paths/sealedpaths/core/Conditions", "apply", "(III)I"⟩ : MethodName) prog_13_method_9_code 12 (some .int) :: ws) ({ frames := 2, cells := 0, slots := 0, locals := 27 } : Room)) (fun zA zU => zA = #[(.ref cn), (.int (2 : Int32)), (.int (1 : Int32)), (.int (0 : Int32))] ∧ Z.Warmed39 zU.vm ∧ zU.heap = h0) (fun _ _ _ _ _ => True) (fun _ zU zO zW => ∃ zV zL, zO = .returned zV ∧ QV (.int (1 : Int32)) h0 n0 zV zW.heap zL ∧ FrameEnd zU zO zW zL ({ frames := 2, cells := 0, slots := 0, locals := 27 } : Room).cells ({ frames := 2, cells := 0, slots := 0, locals := 27 } : Room).slots) := by
  refine MetFree.of_bodySF (plainFor_of_name pn_Conditions) hisR ?_
  intro p e s m args below meth c s₁ Bd hml0 hP hK
  obtain ⟨rfl, hZ, hh⟩ := hP
  have hx := Bd.exec
  have hby := Bd.bytes
  have hml : c.maxLocals = 12 := hml0
  have hown : s.vm.findClass "com/example/sealed_paths/sealedpaths/core/Conditions" = some m.cls := findClass_of_methodNamed Bd.named
  have hnm := (name_of_methodNamed Bd.named Bd.method).1
  have X0 : Stand p l e ({ frames := 2, cells := 0, slots := 0, locals := 27 } : Room) s m #[(.ref cn), (.int (2 : Int32)), (.int (1 : Int32)), (.int (0 : Int32))] below meth c s₁ [] 0 0 := Stand.of_body Bd
  have e0 : s₁.heap = h0 := by rw [← hh, Bd.state]; rfl
  have N0 := Fr.nil n0
  have pre0 : ∀ zt, Steps p.tables e below (s₁.setTop (mkF m 0 #[.val (.ref cn), .val (.int (2 : Int32)), .val (.int (1 : Int32)), .val (.int (0 : Int32)), .unset, .unset, .unset, .unset, .unset, .unset, .unset, .unset] [])) zt → Steps p.tables e below (s₁.setTop (entryFrame m #[(.ref cn), (.int (2 : Int32)), (.int (1 : Int32)), (.int (0 : Int32))] 12)) zt := fun zt zk => castTop (ef_8_RIII m cn (2 : Int32) (1 : Int32) (0 : Int32)) zk
  have hI0 := hI
  obtain ⟨Sh, Sc, Ach, Sz, A128, A129, Eb0, Eb1, Fb0, Fb1⟩ := hI
  obtain ⟨_, _, ⟨T245, L245, k245, n245⟩, -, X245, ⟨Lc245, hQ245, l245, y245, z245⟩, st245⟩ := Jvm.LawKit.callS X0 hx (y := (⟨"com/example/sealed_paths/sealedpaths/core/Conditions", "settled", "(III)Ljava/lang/Integer;"⟩ : MethodName)) hown (mvT hZ (hw _ (List.mem_of_getElem? (i := 55) rfl))) (mvT hZ (hw _ (List.mem_of_getElem? (i := 56) rfl))) (mvT hZ (hw _ (List.mem_of_getElem? (i := 2) rfl))) (mvT hZ (hw _ (List.mem_of_getElem? (i := 57) rfl))) (by decide) (backOf (W := 0) (rse210 l Z a0 hw [] ch cl b0 b1 h0 n0 Z0 Od hI0) hZ (hw _ (List.mem_of_getElem? (i := 57) rfl)) (hw _ (List.mem_of_getElem? (i := 2) rfl)) (by decide) (by decide)) (g := (mkF m 3 #[.val (.ref cn), .val (.int (2 : Int32)), .val (.int (1 : Int32)), .val (.int (0 : Int32)), .unset, .unset, .unset, .unset, .unset, .unset, .unset, .unset] [(.int (0 : Int32)), (.int (1 : Int32)), (.int (2 : Int32))])) rfl (by rw [hml]; rfl) (argsL := [(.int (2 : Int32)), (.int (1 : Int32)), (.int (0 : Int32))]) (rest := []) (lenOf pd_3 rfl) rfl (by show 2 * 0 + _ ≤ _; exact Nat.le_of_eq rfl) (hb hby d8_3) (fun _ _ => ⟨rfl, e0, (by decide : 0 + 0 ≤ _), (by decide : 0 + 0 ≤ _)⟩)
  dsimp only [Pt.U, Pt.locs, Pt.cells, Pt.slots] at X245 l245 y245 z245 st245 hQ245
  subst l245 y245 z245
  obtain ⟨rfl, Nq245, e245⟩ := hQ245
  have N245 := Fr.app N0 Nq245
  obtain ⟨cq246, kq246, q246a, q246b, q246c⟩ := isOf hZ e245 (Eb1.ext Od.2)
  obtain ⟨_, _, ⟨T246, L246, k246, n246⟩, -, X246, ⟨Lc246, hQ246, l246, y246, z246⟩, st246⟩ := X245.virtualBack hx (y := (⟨"java/lang/Integer", "intValue", "()I"⟩ : MethodName)) (z := (⟨"java/lang/Integer", "intValue", "()I"⟩ : MethodName)) hown (mvT hZ (hw _ (List.mem_of_getElem? (i := 76) rfl))) (mvT hZ (hw _ (List.mem_of_getElem? (i := 77) rfl))) (notFace_of_selects (args := #[]) (mvT hZ (hw _ (List.mem_of_getElem? (i := 79) rfl)))) (mvT hZ (hw _ (List.mem_of_getElem? (i := 79) rfl))) (mvT hZ (hw _ (List.mem_of_getElem? (i := 78) rfl))) (by decide) (backOf (W := 0) (riv l Z a0 hw [] b1 (1 : Int32) h0 n0 Z0 (Fb1.ext Od.2)) hZ (hw _ (List.mem_of_getElem? (i := 80) rfl)) (hw _ (List.mem_of_getElem? (i := 71) rfl)) (by decide) (by decide)) q246a q246c (g := (mkF m 15 #[.val (.ref cn), .val (.int (2 : Int32)), .val (.int (1 : Int32)), .val (.int (0 : Int32)), .val (.ref b1), .unset, .unset, .unset, .unset, .unset, .unset, .unset] [(.ref b1)])) rfl (by rw [hml]; rfl) (Steps.refl _) (argsL := []) (rest := []) (lenOf pd_4 rfl) rfl (by show 2 * 0 + _ ≤ _; exact Nat.le_of_eq rfl) (hb hby d8_15) (fun _ _ => ⟨rfl, e245, (by decide : 0 + 0 ≤ _), (by decide : 0 + 0 ≤ _)⟩)
  dsimp only [Pt.U, Pt.locs, Pt.cells, Pt.slots] at X246 l246 y246 z246 st246 hQ246
  subst l246 y246 z246
  obtain ⟨rfl, Nq246, e246⟩ := hQ246
  have N246 := Fr.app N245 Nq246
  obtain ⟨fs, hr, hrun, hended, hW, hsame⟩ := X246.leave (v := some (.int (1 : Int32))) (fun h => by rw [Bd.returns] at h; cases h)
  refine ⟨_, _, pre0 _ ?_, hrun, hended, _, _, rfl, ?_, ⟨_, rfl⟩, hW, hsame.mono (by decide) (by decide)⟩
  · show Steps p.tables e below (s₁.setTop (mkF m 0 #[.val (.ref cn), .val (.int (2 : Int32)), .val (.int (1 : Int32)), .val (.int (0 : Int32)), .unset, .unset, .unset, .unset, .unset, .unset, .unset, .unset] [])) _
    refine XS.iloadN X0.here hx rfl (hb hby d8_0) rfl ?_
    show Steps p.tables e below (s₁.setTop (mkF m 1 #[.val (.ref cn), .val (.int (2 : Int32)), .val (.int (1 : Int32)), .val (.int (0 : Int32)), .unset, .unset, .unset, .unset, .unset, .unset, .unset, .unset] [(.int (2 : Int32))])) _
    refine XS.iloadN X0.here hx rfl (hb hby d8_1) rfl ?_
    show Steps p.tables e below (s₁.setTop (mkF m 2 #[.val (.ref cn), .val (.int (2 : Int32)), .val (.int (1 : Int32)), .val (.int (0 : Int32)), .unset, .unset, .unset, .unset, .unset, .unset, .unset, .unset] [(.int (1 : Int32)), (.int (2 : Int32))])) _
    refine XS.iloadN X0.here hx rfl (hb hby d8_2) rfl ?_
    show Steps p.tables e below (s₁.setTop (mkF m 3 #[.val (.ref cn), .val (.int (2 : Int32)), .val (.int (1 : Int32)), .val (.int (0 : Int32)), .unset, .unset, .unset, .unset, .unset, .unset, .unset, .unset] [(.int (0 : Int32)), (.int (1 : Int32)), (.int (2 : Int32))])) _
    refine st245 _ ?_
    show Steps p.tables e below (T245.setTop (mkF m 6 #[.val (.ref cn), .val (.int (2 : Int32)), .val (.int (1 : Int32)), .val (.int (0 : Int32)), .unset, .unset, .unset, .unset, .unset, .unset, .unset, .unset] [(.ref b1)])) _
    refine XS.astore X245.here hx rfl (hb hby d8_6) rfl rfl (l' := #[.val (.ref cn), .val (.int (2 : Int32)), .val (.int (1 : Int32)), .val (.int (0 : Int32)), .val (.ref b1), .unset, .unset, .unset, .unset, .unset, .unset, .unset]) rfl ?_
    show Steps p.tables e below (T245.setTop (mkF m 8 #[.val (.ref cn), .val (.int (2 : Int32)), .val (.int (1 : Int32)), .val (.int (0 : Int32)), .val (.ref b1), .unset, .unset, .unset, .unset, .unset, .unset, .unset] [])) _
    refine XS.aload X245.here hx rfl (hb hby d8_8) rfl rfl ?_
    show Steps p.tables e below (T245.setTop (mkF m 10 #[.val (.ref cn), .val (.int (2 : Int32)), .val (.int (1 : Int32)), .val (.int (0 : Int32)), .val (.ref b1), .unset, .unset, .unset, .unset, .unset, .unset, .unset] [(.ref b1)])) _
    refine XS.ifnullNo X245.here hx rfl (hb hby d8_10) rfl ?_
    show Steps p.tables e below (T245.setTop (mkF m 13 #[.val (.ref cn), .val (.int (2 : Int32)), .val (.int (1 : Int32)), .val (.int (0 : Int32)), .val (.ref b1), .unset, .unset, .unset, .unset, .unset, .unset, .unset] [])) _
    refine XS.aload X245.here hx rfl (hb hby d8_13) rfl rfl ?_
    show Steps p.tables e below (T245.setTop (mkF m 15 #[.val (.ref cn), .val (.int (2 : Int32)), .val (.int (1 : Int32)), .val (.int (0 : Int32)), .val (.ref b1), .unset, .unset, .unset, .unset, .unset, .unset, .unset] [(.ref b1)])) _
    refine st246.trans ?_
    show Steps p.tables e below (T246.setTop (mkF m 18 #[.val (.ref cn), .val (.int (2 : Int32)), .val (.int (1 : Int32)), .val (.int (0 : Int32)), .val (.ref b1), .unset, .unset, .unset, .unset, .unset, .unset, .unset] [(.int (1 : Int32))])) _
    exact retI X246 hx Bd.returns (hb hby d8_18) hr
  · show QV (.int (1 : Int32)) h0 n0 _ T246.heap _
    rw [e246]
    exact ⟨rfl, N246, rfl⟩
theorem d5_0 : decode prog_13_method_12_code 0 = .ok (.iload_n 2, 1) := by decide +kernel
theorem d5_1 : decode prog_13_method_12_code 1 = .ok (.iload_n 3, 1) := by decide +kernel
theorem d5_2 : decode prog_13_method_12_code 2 = .ok (.if_icmp .ne 5, 3) := by decide +kernel
theorem d5_5 : decode prog_13_method_12_code 5 = .ok (.iload_n 2, 1) := by decide +kernel
theorem d5_6 : decode prog_13_method_12_code 6 = .ok (.ireturn, 1) := by decide +kernel
theorem ef_5_RIII (m : MethodId) (x0 : Addr) (x1 : Int32) (x2 : Int32) (x3 : Int32) : entryFrame m #[(.ref x0), (.int x1), (.int x2), (.int x3)] 6 = mkF m 0 #[.val (.ref x0), .val (.int x1), .val (.int x2), .val (.int x3), .unset, .unset] [] := by first | (simp [entryFrame, mkF, argsToLocals, Value.category]; done) | rfl
set_option maxRecDepth 65536 in
set_option maxHeartbeats 40000000 in
theorem rneq (l : Launch) (Z : State) (a0 : Array Value) (hw : ∀ d ∈ tables_1, d.before a0 Z = true) (ws : List Jvm.Cond) (cn : Addr) (vr q : Int32) (h0 : Heap) (n0 : Nat) (Z0 : n0 ≤ h0.size)  :
    MetFree l (⟨"com/example/sealed_paths/sealedpaths/core/Conditions", "node", "(III)I"⟩ : MethodName) (head1 (Jvm.Cond.code (⟨"com/example/sealed_paths/sealedpaths/core/Conditions", "node", "(III)I"⟩ : MethodName) prog_13_method_12_code 6 (some .int) :: ws) ({ frames := 1, cells := 0, slots := 0, locals := 14 } : Room)) (fun zA zU => zA = #[(.ref cn), (.int vr), (.int q), (.int q)] ∧ Z.Warmed39 zU.vm ∧ zU.heap = h0) (fun _ _ _ _ _ => True) (fun _ zU zO zW => ∃ zV zL, zO = .returned zV ∧ QV (.int q) h0 n0 zV zW.heap zL ∧ FrameEnd zU zO zW zL ({ frames := 1, cells := 0, slots := 0, locals := 14 } : Room).cells ({ frames := 1, cells := 0, slots := 0, locals := 14 } : Room).slots) := by
  refine MetFree.of_bodySF (plainFor_of_name pn_Conditions) hisR ?_
  intro p e s m args below meth c s₁ Bd hml0 hP hK
  obtain ⟨rfl, hZ, hh⟩ := hP
  have hx := Bd.exec
  have hby := Bd.bytes
  have hml : c.maxLocals = 6 := hml0
  have hown : s.vm.findClass "com/example/sealed_paths/sealedpaths/core/Conditions" = some m.cls := findClass_of_methodNamed Bd.named
  have hnm := (name_of_methodNamed Bd.named Bd.method).1
  have X0 : Stand p l e ({ frames := 1, cells := 0, slots := 0, locals := 14 } : Room) s m #[(.ref cn), (.int vr), (.int q), (.int q)] below meth c s₁ [] 0 0 := Stand.of_body Bd
  have e0 : s₁.heap = h0 := by rw [← hh, Bd.state]; rfl
  have N0 := Fr.nil n0
  have pre0 : ∀ zt, Steps p.tables e below (s₁.setTop (mkF m 0 #[.val (.ref cn), .val (.int vr), .val (.int q), .val (.int q), .unset, .unset] [])) zt → Steps p.tables e below (s₁.setTop (entryFrame m #[(.ref cn), (.int vr), (.int q), (.int q)] 6)) zt := fun zt zk => castTop (ef_5_RIII m cn vr q q) zk
  obtain ⟨fs, hr, hrun, hended, hW, hsame⟩ := X0.leave (v := some (.int q)) (fun h => by rw [Bd.returns] at h; cases h)
  refine ⟨_, _, pre0 _ ?_, hrun, hended, _, _, rfl, ?_, ⟨_, rfl⟩, hW, hsame.mono (by decide) (by decide)⟩
  · show Steps p.tables e below (s₁.setTop (mkF m 0 #[.val (.ref cn), .val (.int vr), .val (.int q), .val (.int q), .unset, .unset] [])) _
    refine XS.iloadN X0.here hx rfl (hb hby d5_0) rfl ?_
    show Steps p.tables e below (s₁.setTop (mkF m 1 #[.val (.ref cn), .val (.int vr), .val (.int q), .val (.int q), .unset, .unset] [(.int q)])) _
    refine XS.iloadN X0.here hx rfl (hb hby d5_1) rfl ?_
    show Steps p.tables e below (s₁.setTop (mkF m 2 #[.val (.ref cn), .val (.int vr), .val (.int q), .val (.int q), .unset, .unset] [(.int q), (.int q)])) _
    refine XS.icmpNo X0.here hx rfl (hb hby d5_2) rfl (teq rfl).2 ?_
    show Steps p.tables e below (s₁.setTop (mkF m 5 #[.val (.ref cn), .val (.int vr), .val (.int q), .val (.int q), .unset, .unset] [])) _
    refine XS.iloadN X0.here hx rfl (hb hby d5_5) rfl ?_
    show Steps p.tables e below (s₁.setTop (mkF m 6 #[.val (.ref cn), .val (.int vr), .val (.int q), .val (.int q), .unset, .unset] [(.int q)])) _
    exact retI X0 hx Bd.returns (hb hby d5_6) hr
  · show QV (.int q) h0 n0 _ s₁.heap _
    rw [e0]
    exact ⟨rfl, N0, rfl⟩
theorem d5_7 : decode prog_13_method_12_code 7 = .ok (.iload_n 1, 1) := by decide +kernel
theorem d5_8 : decode prog_13_method_12_code 8 = .ok (.iload_n 2, 1) := by decide +kernel
theorem d5_9 : decode prog_13_method_12_code 9 = .ok (.iload_n 3, 1) := by decide +kernel
theorem d5_10 : decode prog_13_method_12_code 10 = .ok (.invokestatic 87, 3) := by decide +kernel
theorem pd_5 : parseMethodDescriptor "(III)I" = some ⟨[.int, .int, .int], some .int⟩ := by decide +kernel
theorem d5_13 : decode prog_13_method_12_code 13 = .ok (.aload_n 0, 1) := by decide +kernel
theorem d5_14 : decode prog_13_method_12_code 14 = .ok (.getfield 21, 3) := by decide +kernel
theorem d5_17 : decode prog_13_method_12_code 17 = .ok (.arraylength, 1) := by decide +kernel
theorem d5_18 : decode prog_13_method_12_code 18 = .ok (.iconst 1, 1) := by decide +kernel
theorem d5_19 : decode prog_13_method_12_code 19 = .ok (.isub, 1) := by decide +kernel
theorem d5_20 : decode prog_13_method_12_code 20 = .ok (.iand, 1) := by decide +kernel
theorem d5_21 : decode prog_13_method_12_code 21 = .ok (.istore 4, 2) := by decide +kernel
theorem d5_23 : decode prog_13_method_12_code 23 = .ok (.aload_n 0, 1) := by decide +kernel
theorem d5_24 : decode prog_13_method_12_code 24 = .ok (.getfield 21, 3) := by decide +kernel
theorem d5_27 : decode prog_13_method_12_code 27 = .ok (.iload 4, 2) := by decide +kernel
theorem d5_29 : decode prog_13_method_12_code 29 = .ok (.iaload, 1) := by decide +kernel
theorem d5_30 : decode prog_13_method_12_code 30 = .ok (.iconst (-1), 1) := by decide +kernel
theorem d5_31 : decode prog_13_method_12_code 31 = .ok (.if_icmp .eq 65, 3) := by decide +kernel
theorem d5_96 : decode prog_13_method_12_code 96 = .ok (.aload_n 0, 1) := by decide +kernel
theorem d5_97 : decode prog_13_method_12_code 97 = .ok (.getfield 38, 3) := by decide +kernel
theorem d5_100 : decode prog_13_method_12_code 100 = .ok (.aload_n 0, 1) := by decide +kernel
theorem d5_101 : decode prog_13_method_12_code 101 = .ok (.getfield 27, 3) := by decide +kernel
theorem d5_104 : decode prog_13_method_12_code 104 = .ok (.if_icmp .ne 11, 3) := by decide +kernel
theorem d5_115 : decode prog_13_method_12_code 115 = .ok (.aload_n 0, 1) := by decide +kernel
theorem d5_116 : decode prog_13_method_12_code 116 = .ok (.getfield 38, 3) := by decide +kernel
theorem d5_119 : decode prog_13_method_12_code 119 = .ok (.aload_n 0, 1) := by decide +kernel
theorem d5_120 : decode prog_13_method_12_code 120 = .ok (.getfield 9, 3) := by decide +kernel
theorem d5_123 : decode prog_13_method_12_code 123 = .ok (.arraylength, 1) := by decide +kernel
theorem d5_124 : decode prog_13_method_12_code 124 = .ok (.if_icmp .ne 54, 3) := by decide +kernel
theorem d5_178 : decode prog_13_method_12_code 178 = .ok (.aload_n 0, 1) := by decide +kernel
theorem d5_179 : decode prog_13_method_12_code 179 = .ok (.dup, 1) := by decide +kernel
theorem d5_180 : decode prog_13_method_12_code 180 = .ok (.getfield 38, 3) := by decide +kernel
theorem d5_183 : decode prog_13_method_12_code 183 = .ok (.dup_x1, 1) := by decide +kernel
theorem d5_184 : decode prog_13_method_12_code 184 = .ok (.iconst 1, 1) := by decide +kernel
theorem d5_185 : decode prog_13_method_12_code 185 = .ok (.iadd, 1) := by decide +kernel
theorem d5_186 : decode prog_13_method_12_code 186 = .ok (.putfield 38, 3) := by decide +kernel
theorem d5_189 : decode prog_13_method_12_code 189 = .ok (.istore 5, 2) := by decide +kernel
theorem d5_191 : decode prog_13_method_12_code 191 = .ok (.aload_n 0, 1) := by decide +kernel
theorem d5_192 : decode prog_13_method_12_code 192 = .ok (.getfield 9, 3) := by decide +kernel
theorem d5_195 : decode prog_13_method_12_code 195 = .ok (.iload 5, 2) := by decide +kernel
theorem d5_197 : decode prog_13_method_12_code 197 = .ok (.iload_n 1, 1) := by decide +kernel
theorem d5_198 : decode prog_13_method_12_code 198 = .ok (.iastore, 1) := by decide +kernel
theorem d5_199 : decode prog_13_method_12_code 199 = .ok (.aload_n 0, 1) := by decide +kernel
theorem d5_200 : decode prog_13_method_12_code 200 = .ok (.getfield 15, 3) := by decide +kernel
theorem d5_203 : decode prog_13_method_12_code 203 = .ok (.iload 5, 2) := by decide +kernel
theorem d5_205 : decode prog_13_method_12_code 205 = .ok (.iload_n 2, 1) := by decide +kernel
theorem d5_206 : decode prog_13_method_12_code 206 = .ok (.iastore, 1) := by decide +kernel
theorem d5_207 : decode prog_13_method_12_code 207 = .ok (.aload_n 0, 1) := by decide +kernel
theorem d5_208 : decode prog_13_method_12_code 208 = .ok (.getfield 18, 3) := by decide +kernel
theorem d5_211 : decode prog_13_method_12_code 211 = .ok (.iload 5, 2) := by decide +kernel
theorem d5_213 : decode prog_13_method_12_code 213 = .ok (.iload_n 3, 1) := by decide +kernel
theorem d5_214 : decode prog_13_method_12_code 214 = .ok (.iastore, 1) := by decide +kernel
theorem d5_215 : decode prog_13_method_12_code 215 = .ok (.aload_n 0, 1) := by decide +kernel
theorem d5_216 : decode prog_13_method_12_code 216 = .ok (.getfield 21, 3) := by decide +kernel
theorem d5_219 : decode prog_13_method_12_code 219 = .ok (.iload 4, 2) := by decide +kernel
theorem d5_221 : decode prog_13_method_12_code 221 = .ok (.iload 5, 2) := by decide +kernel
theorem d5_223 : decode prog_13_method_12_code 223 = .ok (.iastore, 1) := by decide +kernel
theorem d5_224 : decode prog_13_method_12_code 224 = .ok (.iconst 2, 1) := by decide +kernel
theorem d5_225 : decode prog_13_method_12_code 225 = .ok (.aload_n 0, 1) := by decide +kernel
theorem d5_226 : decode prog_13_method_12_code 226 = .ok (.getfield 38, 3) := by decide +kernel
theorem d5_229 : decode prog_13_method_12_code 229 = .ok (.imul, 1) := by decide +kernel
theorem d5_230 : decode prog_13_method_12_code 230 = .ok (.aload_n 0, 1) := by decide +kernel
theorem d5_231 : decode prog_13_method_12_code 231 = .ok (.getfield 21, 3) := by decide +kernel
theorem d5_234 : decode prog_13_method_12_code 234 = .ok (.arraylength, 1) := by decide +kernel
theorem d5_235 : decode prog_13_method_12_code 235 = .ok (.if_icmp .le 7, 3) := by decide +kernel
theorem d5_242 : decode prog_13_method_12_code 242 = .ok (.iload 5, 2) := by decide +kernel
theorem d5_244 : decode prog_13_method_12_code 244 = .ok (.ireturn, 1) := by decide +kernel
set_option maxRecDepth 65536 in
set_option maxHeartbeats 40000000 in
theorem rn1 (l : Launch) (Z : State) (a0 : Array Value) (hw : ∀ d ∈ tables_1, d.before a0 Z = true) (ws : List Jvm.Cond) (cn vs lo hi tb ca : Addr) (vc : Int32) (fv fl fh ft fc : Nat → Int32) (h0 : Heap) (n0 : Nat) (Z0 : n0 ≤ h0.size) (hC : CS Z h0 cn vs lo hi tb ca (2 : Int32) vc fv fl fh ft fc) (hD : DS n0 cn vs lo hi tb ca) (hslot : ft 1818 = (-1 : Int32)) :
    MetFree l (⟨"com/example/sealed_paths/sealedpaths/core/Conditions", "node", "(III)I"⟩ : MethodName) (head1 (Jvm.Cond.code (⟨"com/example/sealed_paths/sealedpaths/core/Conditions", "node", "(III)I"⟩ : MethodName) prog_13_method_12_code 6 (some .int) :: ws) ({ frames := 1, cells := 0, slots := 0, locals := 14 } : Room)) (fun zA zU => zA = #[(.ref cn), (.int (0 : Int32)), (.int (0 : Int32)), (.int (1 : Int32))] ∧ Z.Warmed39 zU.vm ∧ zU.heap = h0) (fun _ _ _ _ _ => True) (fun _ zU zO zW => ∃ zV zL, zO = .returned zV ∧ QC (.int (2 : Int32)) Z cn vs lo hi tb ca (3 : Int32) vc (upd fv 2 (0 : Int32)) (upd fl 2 (0 : Int32)) (upd fh 2 (1 : Int32)) (upd ft 1818 (2 : Int32)) fc h0 n0 zV zW.heap zL ∧ FrameEnd zU zO zW zL ({ frames := 1, cells := 0, slots := 0, locals := 14 } : Room).cells ({ frames := 1, cells := 0, slots := 0, locals := 14 } : Room).slots) := by
  refine MetFree.of_bodySF (plainFor_of_name pn_Conditions) hisR ?_
  intro p e s m args below meth c s₁ Bd hml0 hP hK
  obtain ⟨rfl, hZ, hh⟩ := hP
  have hx := Bd.exec
  have hby := Bd.bytes
  have hml : c.maxLocals = 6 := hml0
  have hown : s.vm.findClass "com/example/sealed_paths/sealedpaths/core/Conditions" = some m.cls := findClass_of_methodNamed Bd.named
  have hnm := (name_of_methodNamed Bd.named Bd.method).1
  have X0 : Stand p l e ({ frames := 1, cells := 0, slots := 0, locals := 14 } : Room) s m #[(.ref cn), (.int (0 : Int32)), (.int (0 : Int32)), (.int (1 : Int32))] below meth c s₁ [] 0 0 := Stand.of_body Bd
  have e0 : s₁.heap = h0 := by rw [← hh, Bd.state]; rfl
  have N0 := Fr.nil n0
  have pre0 : ∀ zt, Steps p.tables e below (s₁.setTop (mkF m 0 #[.val (.ref cn), .val (.int (0 : Int32)), .val (.int (0 : Int32)), .val (.int (1 : Int32)), .unset, .unset] [])) zt → Steps p.tables e below (s₁.setTop (entryFrame m #[(.ref cn), (.int (0 : Int32)), (.int (0 : Int32)), (.int (1 : Int32))] 6)) zt := fun zt zk => castTop (ef_5_RIII m cn (0 : Int32) (0 : Int32) (1 : Int32)) zk
  obtain ⟨Ec, F_variables, F_lows, F_highs, F_table, F_cached, F_limit, F_size, F_vc, V_vs, V_lo, V_hi, V_tb, V_ca⟩ := hC
  obtain ⟨g_cn, g_vs, g_lo, g_hi, g_tb, g_ca, ne_cn_vs, ne_cn_lo, ne_cn_hi, ne_cn_tb, ne_cn_ca, ne_vs_lo, ne_vs_hi, ne_vs_tb, ne_vs_ca, ne_lo_hi, ne_lo_tb, ne_lo_ca, ne_hi_tb, ne_hi_ca, ne_tb_ca⟩ := hD
  obtain ⟨_, _, ⟨T247, L247, k247, n247⟩, -, X247, ⟨Lc247, hQ247, l247, y247, z247⟩, st247⟩ := Jvm.LawKit.callS X0 hx (y := (⟨"com/example/sealed_paths/sealedpaths/core/Conditions", "hash", "(III)I"⟩ : MethodName)) hown (mvT hZ (hw _ (List.mem_of_getElem? (i := 40) rfl))) (mvT hZ (hw _ (List.mem_of_getElem? (i := 41) rfl))) (mvT hZ (hw _ (List.mem_of_getElem? (i := 2) rfl))) (mvT hZ (hw _ (List.mem_of_getElem? (i := 42) rfl))) (by decide) (backOf (W := 0) (rh1 l Z a0 hw [] h0 n0 Z0) hZ (hw _ (List.mem_of_getElem? (i := 42) rfl)) (hw _ (List.mem_of_getElem? (i := 2) rfl)) (by decide) (by decide)) (g := (mkF m 10 #[.val (.ref cn), .val (.int (0 : Int32)), .val (.int (0 : Int32)), .val (.int (1 : Int32)), .unset, .unset] [(.int (1 : Int32)), (.int (0 : Int32)), (.int (0 : Int32))])) rfl (by rw [hml]; rfl) (argsL := [(.int (0 : Int32)), (.int (0 : Int32)), (.int (1 : Int32))]) (rest := []) (lenOf pd_5 rfl) rfl (by show 2 * 0 + _ ≤ _; exact Nat.le_of_eq rfl) (hb hby d5_10) (fun _ _ => ⟨rfl, e0, (by decide : 0 + 0 ≤ _), (by decide : 0 + 0 ≤ _)⟩)
  dsimp only [Pt.U, Pt.locs, Pt.cells, Pt.slots] at X247 l247 y247 z247 st247 hQ247
  subst l247 y247 z247
  obtain ⟨rfl, Nq247, e247⟩ := hQ247
  have N247 := Fr.app N0 Nq247
  obtain ⟨T248, X248, e248, st248⟩ := getF X247 hx hZ hown (host := "") (Or.inl (hw _ (List.mem_of_getElem? (i := 16) rfl))) Via.refl e247 F_table (g := (mkF m 14 #[.val (.ref cn), .val (.int (0 : Int32)), .val (.int (0 : Int32)), .val (.int (1 : Int32)), .unset, .unset] [(.ref cn), (.int (1633244954 : Int32))])) rfl rfl (hb hby d5_14)
  obtain ⟨cl249, Ar249, Sz249, Hz249⟩ := id V_tb
  obtain ⟨T250, X250, e250, st250⟩ := getF X248 hx hZ hown (host := "") (Or.inl (hw _ (List.mem_of_getElem? (i := 16) rfl))) Via.refl e248 F_table (g := (mkF m 24 #[.val (.ref cn), .val (.int (0 : Int32)), .val (.int (0 : Int32)), .val (.int (1 : Int32)), .val (.int (1818 : Int32)), .unset] [(.ref cn)])) rfl rfl (hb hby d5_24)
  obtain ⟨cl251, Ar251, Sz251, Hz251⟩ := id V_tb
  have hin251 := IA.inb (j := (1818 : Int32)) (i := 1818) Sz251 (by decide) (by decide) (by decide)
  have hat251 := IA.at (j := (1818 : Int32)) (x := (-1 : Int32)) Hz251 (by decide) (by decide) hslot
  obtain ⟨T252, X252, e252, st252⟩ := getF X250 hx hZ hown (host := "") (Or.inl (hw _ (List.mem_of_getElem? (i := 27) rfl))) Via.refl e250 F_size (g := (mkF m 97 #[.val (.ref cn), .val (.int (0 : Int32)), .val (.int (0 : Int32)), .val (.int (1 : Int32)), .val (.int (1818 : Int32)), .unset] [(.ref cn)])) rfl rfl (hb hby d5_97)
  obtain ⟨T253, X253, e253, st253⟩ := getF X252 hx hZ hown (host := "") (Or.inl (hw _ (List.mem_of_getElem? (i := 20) rfl))) Via.refl e252 F_limit (g := (mkF m 101 #[.val (.ref cn), .val (.int (0 : Int32)), .val (.int (0 : Int32)), .val (.int (1 : Int32)), .val (.int (1818 : Int32)), .unset] [(.ref cn), (.int (2 : Int32))])) rfl rfl (hb hby d5_101)
  obtain ⟨T254, X254, e254, st254⟩ := getF X253 hx hZ hown (host := "") (Or.inl (hw _ (List.mem_of_getElem? (i := 27) rfl))) Via.refl e253 F_size (g := (mkF m 116 #[.val (.ref cn), .val (.int (0 : Int32)), .val (.int (0 : Int32)), .val (.int (1 : Int32)), .val (.int (1818 : Int32)), .unset] [(.ref cn)])) rfl rfl (hb hby d5_116)
  obtain ⟨T255, X255, e255, st255⟩ := getF X254 hx hZ hown (host := "") (Or.inl (hw _ (List.mem_of_getElem? (i := 10) rfl))) Via.refl e254 F_variables (g := (mkF m 120 #[.val (.ref cn), .val (.int (0 : Int32)), .val (.int (0 : Int32)), .val (.int (1 : Int32)), .val (.int (1818 : Int32)), .unset] [(.ref cn), (.int (2 : Int32))])) rfl rfl (hb hby d5_120)
  obtain ⟨cl256, Ar256, Sz256, Hz256⟩ := id V_vs
  obtain ⟨T257, X257, e257, st257⟩ := getF X255 hx hZ hown (host := "") (Or.inl (hw _ (List.mem_of_getElem? (i := 27) rfl))) Via.refl e255 F_size (g := (mkF m 180 #[.val (.ref cn), .val (.int (0 : Int32)), .val (.int (0 : Int32)), .val (.int (1 : Int32)), .val (.int (1818 : Int32)), .unset] [(.ref cn), (.ref cn)])) rfl rfl (hb hby d5_180)
  obtain ⟨T258, h258, X258, e258, W258, st258⟩ := putF X257 hx hZ hown (host := "") (Or.inl (hw _ (List.mem_of_getElem? (i := 27) rfl))) Via.refl e257 F_size Ec (Or.inl (hw _ (List.mem_of_getElem? (i := 28) rfl))) (hw _ (List.mem_of_getElem? (i := 1) rfl)) (ty := .int) (by decide) rfl rfl (g := (mkF m 186 #[.val (.ref cn), .val (.int (0 : Int32)), .val (.int (0 : Int32)), .val (.int (1 : Int32)), .val (.int (1818 : Int32)), .unset] [(.int (3 : Int32)), (.ref cn), (.int (2 : Int32))])) rfl rfl (hb hby d5_186)
  have N258 := Fr.snoc X258 N247 g_cn
  have zF259 := F_variables.other W258 (Or.inr (slot_ne (Or.inl (hw _ (List.mem_of_getElem? (i := 11) rfl))) (Or.inl (hw _ (List.mem_of_getElem? (i := 28) rfl))) (by decide) (t := (.array .int)) (t' := .int) (by decide) (by decide)))
  have zF260 := F_lows.other W258 (Or.inr (slot_ne (Or.inl (hw _ (List.mem_of_getElem? (i := 13) rfl))) (Or.inl (hw _ (List.mem_of_getElem? (i := 28) rfl))) (by decide) (t := (.array .int)) (t' := .int) (by decide) (by decide)))
  have zF261 := F_highs.other W258 (Or.inr (slot_ne (Or.inl (hw _ (List.mem_of_getElem? (i := 15) rfl))) (Or.inl (hw _ (List.mem_of_getElem? (i := 28) rfl))) (by decide) (t := (.array .int)) (t' := .int) (by decide) (by decide)))
  have zF262 := F_table.other W258 (Or.inr (slot_ne (Or.inl (hw _ (List.mem_of_getElem? (i := 17) rfl))) (Or.inl (hw _ (List.mem_of_getElem? (i := 28) rfl))) (by decide) (t := (.array .int)) (t' := .int) (by decide) (by decide)))
  have zF263 := F_cached.other W258 (Or.inr (slot_ne (Or.inl (hw _ (List.mem_of_getElem? (i := 19) rfl))) (Or.inl (hw _ (List.mem_of_getElem? (i := 28) rfl))) (by decide) (t := (.array .int)) (t' := .int) (by decide) (by decide)))
  have zF264 := F_limit.other W258 (Or.inr (slot_ne (Or.inr (hw _ (List.mem_of_getElem? (i := 21) rfl))) (Or.inl (hw _ (List.mem_of_getElem? (i := 28) rfl))) (by decide) (t := .int) (t' := .int) (by decide) (by decide)))
  have zF265 := F_size.same W258
  have zF266 := F_vc.other W258 (Or.inr (slot_ne (Or.inl (hw _ (List.mem_of_getElem? (i := 35) rfl))) (Or.inl (hw _ (List.mem_of_getElem? (i := 28) rfl))) (by decide) (t := .int) (t' := .int) (by decide) (by decide)))
  have zE267 := Ec.wr W258
  have zA268 := V_vs.other W258 (Ne.symm ne_cn_vs)
  have zA269 := V_lo.other W258 (Ne.symm ne_cn_lo)
  have zA270 := V_hi.other W258 (Ne.symm ne_cn_hi)
  have zA271 := V_tb.other W258 (Ne.symm ne_cn_tb)
  have zA272 := V_ca.other W258 (Ne.symm ne_cn_ca)
  have Z258 := Nat.le_trans Z0 (Keep.of_wr W258).1
  have K258 := (Keep.refl h0 [cn, vs, lo, hi, tb, ca]).wr W258 (Or.inl (List.mem_of_getElem? (i := 0) rfl))
  obtain ⟨T273, X273, e273, st273⟩ := getF X258 hx hZ hown (host := "") (Or.inl (hw _ (List.mem_of_getElem? (i := 10) rfl))) Via.refl e258 zF259 (g := (mkF m 192 #[.val (.ref cn), .val (.int (0 : Int32)), .val (.int (0 : Int32)), .val (.int (1 : Int32)), .val (.int (1818 : Int32)), .val (.int (2 : Int32))] [(.ref cn)])) rfl rfl (hb hby d5_192)
  obtain ⟨cl274, Ar274, Sz274, Hz274⟩ := id zA268
  have hin274 := IA.inb (j := (2 : Int32)) (i := 2) Sz274 (by decide) (by decide) (by decide)
  obtain ⟨T275, h275, X275, e275, W275, st275⟩ := stI X273 hx hZ e273 Ar274 (j := (2 : Int32)) hin274 (g := (mkF m 198 #[.val (.ref cn), .val (.int (0 : Int32)), .val (.int (0 : Int32)), .val (.int (1 : Int32)), .val (.int (1818 : Int32)), .val (.int (2 : Int32))] [(.int (0 : Int32)), (.int (2 : Int32)), (.ref vs)])) rfl rfl (hb hby d5_198)
  have V275 : IA Z h275 vs 1024 (upd fv 2 (0 : Int32)) := IA.set Ar274 Sz274 Hz274 W275 (by decide) (by decide)
  have N275 := Fr.snoc X275 N258 g_vs
  have zF276 := zF259.other W275 (Or.inl ne_cn_vs)
  have zF277 := zF260.other W275 (Or.inl ne_cn_vs)
  have zF278 := zF261.other W275 (Or.inl ne_cn_vs)
  have zF279 := zF262.other W275 (Or.inl ne_cn_vs)
  have zF280 := zF263.other W275 (Or.inl ne_cn_vs)
  have zF281 := zF264.other W275 (Or.inl ne_cn_vs)
  have zF282 := zF265.other W275 (Or.inl ne_cn_vs)
  have zF283 := zF266.other W275 (Or.inl ne_cn_vs)
  have zE284 := zE267.wr W275
  have zA285 := zA269.other W275 (Ne.symm ne_vs_lo)
  have zA286 := zA270.other W275 (Ne.symm ne_vs_hi)
  have zA287 := zA271.other W275 (Ne.symm ne_vs_tb)
  have zA288 := zA272.other W275 (Ne.symm ne_vs_ca)
  have Z275 := Nat.le_trans Z258 (Keep.of_wr W275).1
  have K275 := K258.wr W275 (Or.inl (List.mem_of_getElem? (i := 1) rfl))
  obtain ⟨T289, X289, e289, st289⟩ := getF X275 hx hZ hown (host := "") (Or.inl (hw _ (List.mem_of_getElem? (i := 12) rfl))) Via.refl e275 zF277 (g := (mkF m 200 #[.val (.ref cn), .val (.int (0 : Int32)), .val (.int (0 : Int32)), .val (.int (1 : Int32)), .val (.int (1818 : Int32)), .val (.int (2 : Int32))] [(.ref cn)])) rfl rfl (hb hby d5_200)
  obtain ⟨cl290, Ar290, Sz290, Hz290⟩ := id zA285
  have hin290 := IA.inb (j := (2 : Int32)) (i := 2) Sz290 (by decide) (by decide) (by decide)
  obtain ⟨T291, h291, X291, e291, W291, st291⟩ := stI X289 hx hZ e289 Ar290 (j := (2 : Int32)) hin290 (g := (mkF m 206 #[.val (.ref cn), .val (.int (0 : Int32)), .val (.int (0 : Int32)), .val (.int (1 : Int32)), .val (.int (1818 : Int32)), .val (.int (2 : Int32))] [(.int (0 : Int32)), (.int (2 : Int32)), (.ref lo)])) rfl rfl (hb hby d5_206)
  have V291 : IA Z h291 lo 1024 (upd fl 2 (0 : Int32)) := IA.set Ar290 Sz290 Hz290 W291 (by decide) (by decide)
  have N291 := Fr.snoc X291 N275 g_lo
  have zF292 := zF276.other W291 (Or.inl ne_cn_lo)
  have zF293 := zF277.other W291 (Or.inl ne_cn_lo)
  have zF294 := zF278.other W291 (Or.inl ne_cn_lo)
  have zF295 := zF279.other W291 (Or.inl ne_cn_lo)
  have zF296 := zF280.other W291 (Or.inl ne_cn_lo)
  have zF297 := zF281.other W291 (Or.inl ne_cn_lo)
  have zF298 := zF282.other W291 (Or.inl ne_cn_lo)
  have zF299 := zF283.other W291 (Or.inl ne_cn_lo)
  have zE300 := zE284.wr W291
  have zA301 := zA286.other W291 (Ne.symm ne_lo_hi)
  have zA302 := zA287.other W291 (Ne.symm ne_lo_tb)
  have zA303 := zA288.other W291 (Ne.symm ne_lo_ca)
  have zA304 := V275.other W291 ne_vs_lo
  have Z291 := Nat.le_trans Z275 (Keep.of_wr W291).1
  have K291 := K275.wr W291 (Or.inl (List.mem_of_getElem? (i := 2) rfl))
  obtain ⟨T305, X305, e305, st305⟩ := getF X291 hx hZ hown (host := "") (Or.inl (hw _ (List.mem_of_getElem? (i := 14) rfl))) Via.refl e291 zF294 (g := (mkF m 208 #[.val (.ref cn), .val (.int (0 : Int32)), .val (.int (0 : Int32)), .val (.int (1 : Int32)), .val (.int (1818 : Int32)), .val (.int (2 : Int32))] [(.ref cn)])) rfl rfl (hb hby d5_208)
  obtain ⟨cl306, Ar306, Sz306, Hz306⟩ := id zA301
  have hin306 := IA.inb (j := (2 : Int32)) (i := 2) Sz306 (by decide) (by decide) (by decide)
  obtain ⟨T307, h307, X307, e307, W307, st307⟩ := stI X305 hx hZ e305 Ar306 (j := (2 : Int32)) hin306 (g := (mkF m 214 #[.val (.ref cn), .val (.int (0 : Int32)), .val (.int (0 : Int32)), .val (.int (1 : Int32)), .val (.int (1818 : Int32)), .val (.int (2 : Int32))] [(.int (1 : Int32)), (.int (2 : Int32)), (.ref hi)])) rfl rfl (hb hby d5_214)
  have V307 : IA Z h307 hi 1024 (upd fh 2 (1 : Int32)) := IA.set Ar306 Sz306 Hz306 W307 (by decide) (by decide)
  have N307 := Fr.snoc X307 N291 g_hi
  have zF308 := zF292.other W307 (Or.inl ne_cn_hi)
  have zF309 := zF293.other W307 (Or.inl ne_cn_hi)
  have zF310 := zF294.other W307 (Or.inl ne_cn_hi)
  have zF311 := zF295.other W307 (Or.inl ne_cn_hi)
  have zF312 := zF296.other W307 (Or.inl ne_cn_hi)
  have zF313 := zF297.other W307 (Or.inl ne_cn_hi)
  have zF314 := zF298.other W307 (Or.inl ne_cn_hi)
  have zF315 := zF299.other W307 (Or.inl ne_cn_hi)
  have zE316 := zE300.wr W307
  have zA317 := zA302.other W307 (Ne.symm ne_hi_tb)
  have zA318 := zA303.other W307 (Ne.symm ne_hi_ca)
  have zA319 := zA304.other W307 ne_vs_hi
  have zA320 := V291.other W307 ne_lo_hi
  have Z307 := Nat.le_trans Z291 (Keep.of_wr W307).1
  have K307 := K291.wr W307 (Or.inl (List.mem_of_getElem? (i := 3) rfl))
  obtain ⟨T321, X321, e321, st321⟩ := getF X307 hx hZ hown (host := "") (Or.inl (hw _ (List.mem_of_getElem? (i := 16) rfl))) Via.refl e307 zF311 (g := (mkF m 216 #[.val (.ref cn), .val (.int (0 : Int32)), .val (.int (0 : Int32)), .val (.int (1 : Int32)), .val (.int (1818 : Int32)), .val (.int (2 : Int32))] [(.ref cn)])) rfl rfl (hb hby d5_216)
  obtain ⟨cl322, Ar322, Sz322, Hz322⟩ := id zA317
  have hin322 := IA.inb (j := (1818 : Int32)) (i := 1818) Sz322 (by decide) (by decide) (by decide)
  obtain ⟨T323, h323, X323, e323, W323, st323⟩ := stI X321 hx hZ e321 Ar322 (j := (1818 : Int32)) hin322 (g := (mkF m 223 #[.val (.ref cn), .val (.int (0 : Int32)), .val (.int (0 : Int32)), .val (.int (1 : Int32)), .val (.int (1818 : Int32)), .val (.int (2 : Int32))] [(.int (2 : Int32)), (.int (1818 : Int32)), (.ref tb)])) rfl rfl (hb hby d5_223)
  have V323 : IA Z h323 tb 2048 (upd ft 1818 (2 : Int32)) := IA.set Ar322 Sz322 Hz322 W323 (by decide) (by decide)
  have N323 := Fr.snoc X323 N307 g_tb
  have zF324 := zF308.other W323 (Or.inl ne_cn_tb)
  have zF325 := zF309.other W323 (Or.inl ne_cn_tb)
  have zF326 := zF310.other W323 (Or.inl ne_cn_tb)
  have zF327 := zF311.other W323 (Or.inl ne_cn_tb)
  have zF328 := zF312.other W323 (Or.inl ne_cn_tb)
  have zF329 := zF313.other W323 (Or.inl ne_cn_tb)
  have zF330 := zF314.other W323 (Or.inl ne_cn_tb)
  have zF331 := zF315.other W323 (Or.inl ne_cn_tb)
  have zE332 := zE316.wr W323
  have zA333 := zA318.other W323 (Ne.symm ne_tb_ca)
  have zA334 := zA319.other W323 ne_vs_tb
  have zA335 := zA320.other W323 ne_lo_tb
  have zA336 := V307.other W323 ne_hi_tb
  have Z323 := Nat.le_trans Z307 (Keep.of_wr W323).1
  have K323 := K307.wr W323 (Or.inl (List.mem_of_getElem? (i := 4) rfl))
  obtain ⟨T337, X337, e337, st337⟩ := getF X323 hx hZ hown (host := "") (Or.inl (hw _ (List.mem_of_getElem? (i := 27) rfl))) Via.refl e323 zF330 (g := (mkF m 226 #[.val (.ref cn), .val (.int (0 : Int32)), .val (.int (0 : Int32)), .val (.int (1 : Int32)), .val (.int (1818 : Int32)), .val (.int (2 : Int32))] [(.ref cn), (.int (2 : Int32))])) rfl rfl (hb hby d5_226)
  obtain ⟨T338, X338, e338, st338⟩ := getF X337 hx hZ hown (host := "") (Or.inl (hw _ (List.mem_of_getElem? (i := 16) rfl))) Via.refl e337 zF327 (g := (mkF m 231 #[.val (.ref cn), .val (.int (0 : Int32)), .val (.int (0 : Int32)), .val (.int (1 : Int32)), .val (.int (1818 : Int32)), .val (.int (2 : Int32))] [(.ref cn), (.int (6 : Int32))])) rfl rfl (hb hby d5_231)
  obtain ⟨cl339, Ar339, Sz339, Hz339⟩ := id V323
  obtain ⟨fs, hr, hrun, hended, hW, hsame⟩ := X338.leave (v := some (.int (2 : Int32))) (fun h => by rw [Bd.returns] at h; cases h)
  refine ⟨_, _, pre0 _ ?_, hrun, hended, _, _, rfl, ?_, ⟨_, rfl⟩, hW, hsame.mono (by decide) (by decide)⟩
  · show Steps p.tables e below (s₁.setTop (mkF m 0 #[.val (.ref cn), .val (.int (0 : Int32)), .val (.int (0 : Int32)), .val (.int (1 : Int32)), .unset, .unset] [])) _
    refine XS.iloadN X0.here hx rfl (hb hby d5_0) rfl ?_
    show Steps p.tables e below (s₁.setTop (mkF m 1 #[.val (.ref cn), .val (.int (0 : Int32)), .val (.int (0 : Int32)), .val (.int (1 : Int32)), .unset, .unset] [(.int (0 : Int32))])) _
    refine XS.iloadN X0.here hx rfl (hb hby d5_1) rfl ?_
    show Steps p.tables e below (s₁.setTop (mkF m 2 #[.val (.ref cn), .val (.int (0 : Int32)), .val (.int (0 : Int32)), .val (.int (1 : Int32)), .unset, .unset] [(.int (1 : Int32)), (.int (0 : Int32))])) _
    refine XS.icmpYes X0.here hx rfl (pc0 := 2) (pc' := 7) rfl (hb hby d5_2) rfl (feq (by decide)).2 (by decide) (by decide) ?_
    show Steps p.tables e below (s₁.setTop (mkF m 7 #[.val (.ref cn), .val (.int (0 : Int32)), .val (.int (0 : Int32)), .val (.int (1 : Int32)), .unset, .unset] [])) _
    refine XS.iloadN X0.here hx rfl (hb hby d5_7) rfl ?_
    show Steps p.tables e below (s₁.setTop (mkF m 8 #[.val (.ref cn), .val (.int (0 : Int32)), .val (.int (0 : Int32)), .val (.int (1 : Int32)), .unset, .unset] [(.int (0 : Int32))])) _
    refine XS.iloadN X0.here hx rfl (hb hby d5_8) rfl ?_
    show Steps p.tables e below (s₁.setTop (mkF m 9 #[.val (.ref cn), .val (.int (0 : Int32)), .val (.int (0 : Int32)), .val (.int (1 : Int32)), .unset, .unset] [(.int (0 : Int32)), (.int (0 : Int32))])) _
    refine XS.iloadN X0.here hx rfl (hb hby d5_9) rfl ?_
    show Steps p.tables e below (s₁.setTop (mkF m 10 #[.val (.ref cn), .val (.int (0 : Int32)), .val (.int (0 : Int32)), .val (.int (1 : Int32)), .unset, .unset] [(.int (1 : Int32)), (.int (0 : Int32)), (.int (0 : Int32))])) _
    refine st247 _ ?_
    show Steps p.tables e below (T247.setTop (mkF m 13 #[.val (.ref cn), .val (.int (0 : Int32)), .val (.int (0 : Int32)), .val (.int (1 : Int32)), .unset, .unset] [(.int (1633244954 : Int32))])) _
    refine XS.aloadN X247.here hx rfl (hb hby d5_13) rfl rfl ?_
    show Steps p.tables e below (T247.setTop (mkF m 14 #[.val (.ref cn), .val (.int (0 : Int32)), .val (.int (0 : Int32)), .val (.int (1 : Int32)), .unset, .unset] [(.ref cn), (.int (1633244954 : Int32))])) _
    refine st248 _ ?_
    show Steps p.tables e below (T248.setTop (mkF m 17 #[.val (.ref cn), .val (.int (0 : Int32)), .val (.int (0 : Int32)), .val (.int (1 : Int32)), .unset, .unset] [(.ref tb), (.int (1633244954 : Int32))])) _
    refine X248.arraylength hx (by rw [e248]; exact Ar249.1) (State.isArrayOf_alike hZ.alike Ar249.2.1) (g := (mkF m 17 #[.val (.ref cn), .val (.int (0 : Int32)), .val (.int (0 : Int32)), .val (.int (1 : Int32)), .unset, .unset] [(.ref tb), (.int (1633244954 : Int32))])) rfl rfl (hb hby d5_17) _ ?_
    rw [show cl249.slots.size.toInt32 = (2048 : Int32) from by rw [Sz249]; decide]
    show Steps p.tables e below (T248.setTop (mkF m 18 #[.val (.ref cn), .val (.int (0 : Int32)), .val (.int (0 : Int32)), .val (.int (1 : Int32)), .unset, .unset] [(.int (2048 : Int32)), (.int (1633244954 : Int32))])) _
    refine XS.iconst X248.here hx rfl (hb hby d5_18) ?_
    show Steps p.tables e below (T248.setTop (mkF m 19 #[.val (.ref cn), .val (.int (0 : Int32)), .val (.int (0 : Int32)), .val (.int (1 : Int32)), .unset, .unset] [(.int (1 : Int32)), (.int (2048 : Int32)), (.int (1633244954 : Int32))])) _
    refine XS.isub X248.here hx rfl (hb hby d5_19) rfl ?_
    show Steps p.tables e below (T248.setTop (mkF m 20 #[.val (.ref cn), .val (.int (0 : Int32)), .val (.int (0 : Int32)), .val (.int (1 : Int32)), .unset, .unset] [(.int (2047 : Int32)), (.int (1633244954 : Int32))])) _
    refine XS.iand X248.here hx rfl (hb hby d5_20) rfl ?_
    show Steps p.tables e below (T248.setTop (mkF m 21 #[.val (.ref cn), .val (.int (0 : Int32)), .val (.int (0 : Int32)), .val (.int (1 : Int32)), .unset, .unset] [(.int (1818 : Int32))])) _
    refine XS.istore X248.here hx rfl (hb hby d5_21) rfl (l' := #[.val (.ref cn), .val (.int (0 : Int32)), .val (.int (0 : Int32)), .val (.int (1 : Int32)), .val (.int (1818 : Int32)), .unset]) rfl ?_
    show Steps p.tables e below (T248.setTop (mkF m 23 #[.val (.ref cn), .val (.int (0 : Int32)), .val (.int (0 : Int32)), .val (.int (1 : Int32)), .val (.int (1818 : Int32)), .unset] [])) _
    refine XS.aloadN X248.here hx rfl (hb hby d5_23) rfl rfl ?_
    show Steps p.tables e below (T248.setTop (mkF m 24 #[.val (.ref cn), .val (.int (0 : Int32)), .val (.int (0 : Int32)), .val (.int (1 : Int32)), .val (.int (1818 : Int32)), .unset] [(.ref cn)])) _
    refine st250 _ ?_
    show Steps p.tables e below (T250.setTop (mkF m 27 #[.val (.ref cn), .val (.int (0 : Int32)), .val (.int (0 : Int32)), .val (.int (1 : Int32)), .val (.int (1818 : Int32)), .unset] [(.ref tb)])) _
    refine XS.iload X250.here hx rfl (hb hby d5_27) rfl ?_
    show Steps p.tables e below (T250.setTop (mkF m 29 #[.val (.ref cn), .val (.int (0 : Int32)), .val (.int (0 : Int32)), .val (.int (1 : Int32)), .val (.int (1818 : Int32)), .unset] [(.int (1818 : Int32)), (.ref tb)])) _
    refine X250.iaload hx (j := (1818 : Int32)) (v := (.int (-1 : Int32))) (by rw [e250]; exact Ar251.1) (State.isArrayOf_alike hZ.alike Ar251.2.1) Ar251.2.2 hin251 hat251 (g := (mkF m 29 #[.val (.ref cn), .val (.int (0 : Int32)), .val (.int (0 : Int32)), .val (.int (1 : Int32)), .val (.int (1818 : Int32)), .unset] [(.int (1818 : Int32)), (.ref tb)])) rfl rfl (hb hby d5_29) _ ?_
    show Steps p.tables e below (T250.setTop (mkF m 30 #[.val (.ref cn), .val (.int (0 : Int32)), .val (.int (0 : Int32)), .val (.int (1 : Int32)), .val (.int (1818 : Int32)), .unset] [(.int (-1 : Int32))])) _
    refine XS.iconst X250.here hx rfl (hb hby d5_30) ?_
    show Steps p.tables e below (T250.setTop (mkF m 31 #[.val (.ref cn), .val (.int (0 : Int32)), .val (.int (0 : Int32)), .val (.int (1 : Int32)), .val (.int (1818 : Int32)), .unset] [(.int (-1 : Int32)), (.int (-1 : Int32))])) _
    refine XS.icmpYes X250.here hx rfl (pc0 := 31) (pc' := 96) rfl (hb hby d5_31) rfl (teq (by decide)).1 (by decide) (by decide) ?_
    show Steps p.tables e below (T250.setTop (mkF m 96 #[.val (.ref cn), .val (.int (0 : Int32)), .val (.int (0 : Int32)), .val (.int (1 : Int32)), .val (.int (1818 : Int32)), .unset] [])) _
    refine XS.aloadN X250.here hx rfl (hb hby d5_96) rfl rfl ?_
    show Steps p.tables e below (T250.setTop (mkF m 97 #[.val (.ref cn), .val (.int (0 : Int32)), .val (.int (0 : Int32)), .val (.int (1 : Int32)), .val (.int (1818 : Int32)), .unset] [(.ref cn)])) _
    refine st252 _ ?_
    show Steps p.tables e below (T252.setTop (mkF m 100 #[.val (.ref cn), .val (.int (0 : Int32)), .val (.int (0 : Int32)), .val (.int (1 : Int32)), .val (.int (1818 : Int32)), .unset] [(.int (2 : Int32))])) _
    refine XS.aloadN X252.here hx rfl (hb hby d5_100) rfl rfl ?_
    show Steps p.tables e below (T252.setTop (mkF m 101 #[.val (.ref cn), .val (.int (0 : Int32)), .val (.int (0 : Int32)), .val (.int (1 : Int32)), .val (.int (1818 : Int32)), .unset] [(.ref cn), (.int (2 : Int32))])) _
    refine st253 _ ?_
    show Steps p.tables e below (T253.setTop (mkF m 104 #[.val (.ref cn), .val (.int (0 : Int32)), .val (.int (0 : Int32)), .val (.int (1 : Int32)), .val (.int (1818 : Int32)), .unset] [(.int (16 : Int32)), (.int (2 : Int32))])) _
    refine XS.icmpYes X253.here hx rfl (pc0 := 104) (pc' := 115) rfl (hb hby d5_104) rfl (feq (by decide)).2 (by decide) (by decide) ?_
    show Steps p.tables e below (T253.setTop (mkF m 115 #[.val (.ref cn), .val (.int (0 : Int32)), .val (.int (0 : Int32)), .val (.int (1 : Int32)), .val (.int (1818 : Int32)), .unset] [])) _
    refine XS.aloadN X253.here hx rfl (hb hby d5_115) rfl rfl ?_
    show Steps p.tables e below (T253.setTop (mkF m 116 #[.val (.ref cn), .val (.int (0 : Int32)), .val (.int (0 : Int32)), .val (.int (1 : Int32)), .val (.int (1818 : Int32)), .unset] [(.ref cn)])) _
    refine st254 _ ?_
    show Steps p.tables e below (T254.setTop (mkF m 119 #[.val (.ref cn), .val (.int (0 : Int32)), .val (.int (0 : Int32)), .val (.int (1 : Int32)), .val (.int (1818 : Int32)), .unset] [(.int (2 : Int32))])) _
    refine XS.aloadN X254.here hx rfl (hb hby d5_119) rfl rfl ?_
    show Steps p.tables e below (T254.setTop (mkF m 120 #[.val (.ref cn), .val (.int (0 : Int32)), .val (.int (0 : Int32)), .val (.int (1 : Int32)), .val (.int (1818 : Int32)), .unset] [(.ref cn), (.int (2 : Int32))])) _
    refine st255 _ ?_
    show Steps p.tables e below (T255.setTop (mkF m 123 #[.val (.ref cn), .val (.int (0 : Int32)), .val (.int (0 : Int32)), .val (.int (1 : Int32)), .val (.int (1818 : Int32)), .unset] [(.ref vs), (.int (2 : Int32))])) _
    refine X255.arraylength hx (by rw [e255]; exact Ar256.1) (State.isArrayOf_alike hZ.alike Ar256.2.1) (g := (mkF m 123 #[.val (.ref cn), .val (.int (0 : Int32)), .val (.int (0 : Int32)), .val (.int (1 : Int32)), .val (.int (1818 : Int32)), .unset] [(.ref vs), (.int (2 : Int32))])) rfl rfl (hb hby d5_123) _ ?_
    rw [show cl256.slots.size.toInt32 = (1024 : Int32) from by rw [Sz256]; decide]
    show Steps p.tables e below (T255.setTop (mkF m 124 #[.val (.ref cn), .val (.int (0 : Int32)), .val (.int (0 : Int32)), .val (.int (1 : Int32)), .val (.int (1818 : Int32)), .unset] [(.int (1024 : Int32)), (.int (2 : Int32))])) _
    refine XS.icmpYes X255.here hx rfl (pc0 := 124) (pc' := 178) rfl (hb hby d5_124) rfl (feq (by decide)).2 (by decide) (by decide) ?_
    show Steps p.tables e below (T255.setTop (mkF m 178 #[.val (.ref cn), .val (.int (0 : Int32)), .val (.int (0 : Int32)), .val (.int (1 : Int32)), .val (.int (1818 : Int32)), .unset] [])) _
    refine XS.aloadN X255.here hx rfl (hb hby d5_178) rfl rfl ?_
    show Steps p.tables e below (T255.setTop (mkF m 179 #[.val (.ref cn), .val (.int (0 : Int32)), .val (.int (0 : Int32)), .val (.int (1 : Int32)), .val (.int (1818 : Int32)), .unset] [(.ref cn)])) _
    refine XS.dup X255.here hx rfl (hb hby d5_179) rfl rfl ?_
    show Steps p.tables e below (T255.setTop (mkF m 180 #[.val (.ref cn), .val (.int (0 : Int32)), .val (.int (0 : Int32)), .val (.int (1 : Int32)), .val (.int (1818 : Int32)), .unset] [(.ref cn), (.ref cn)])) _
    refine st257 _ ?_
    show Steps p.tables e below (T257.setTop (mkF m 183 #[.val (.ref cn), .val (.int (0 : Int32)), .val (.int (0 : Int32)), .val (.int (1 : Int32)), .val (.int (1818 : Int32)), .unset] [(.int (2 : Int32)), (.ref cn)])) _
    refine XS.dupX1 X257.here hx rfl (hb hby d5_183) rfl rfl rfl ?_
    show Steps p.tables e below (T257.setTop (mkF m 184 #[.val (.ref cn), .val (.int (0 : Int32)), .val (.int (0 : Int32)), .val (.int (1 : Int32)), .val (.int (1818 : Int32)), .unset] [(.int (2 : Int32)), (.ref cn), (.int (2 : Int32))])) _
    refine XS.iconst X257.here hx rfl (hb hby d5_184) ?_
    show Steps p.tables e below (T257.setTop (mkF m 185 #[.val (.ref cn), .val (.int (0 : Int32)), .val (.int (0 : Int32)), .val (.int (1 : Int32)), .val (.int (1818 : Int32)), .unset] [(.int (1 : Int32)), (.int (2 : Int32)), (.ref cn), (.int (2 : Int32))])) _
    refine XS.iadd X257.here hx rfl (hb hby d5_185) rfl ?_
    show Steps p.tables e below (T257.setTop (mkF m 186 #[.val (.ref cn), .val (.int (0 : Int32)), .val (.int (0 : Int32)), .val (.int (1 : Int32)), .val (.int (1818 : Int32)), .unset] [(.int (3 : Int32)), (.ref cn), (.int (2 : Int32))])) _
    refine st258 _ ?_
    show Steps p.tables e below (T258.setTop (mkF m 189 #[.val (.ref cn), .val (.int (0 : Int32)), .val (.int (0 : Int32)), .val (.int (1 : Int32)), .val (.int (1818 : Int32)), .unset] [(.int (2 : Int32))])) _
    refine XS.istore X258.here hx rfl (hb hby d5_189) rfl (l' := #[.val (.ref cn), .val (.int (0 : Int32)), .val (.int (0 : Int32)), .val (.int (1 : Int32)), .val (.int (1818 : Int32)), .val (.int (2 : Int32))]) rfl ?_
    show Steps p.tables e below (T258.setTop (mkF m 191 #[.val (.ref cn), .val (.int (0 : Int32)), .val (.int (0 : Int32)), .val (.int (1 : Int32)), .val (.int (1818 : Int32)), .val (.int (2 : Int32))] [])) _
    refine XS.aloadN X258.here hx rfl (hb hby d5_191) rfl rfl ?_
    show Steps p.tables e below (T258.setTop (mkF m 192 #[.val (.ref cn), .val (.int (0 : Int32)), .val (.int (0 : Int32)), .val (.int (1 : Int32)), .val (.int (1818 : Int32)), .val (.int (2 : Int32))] [(.ref cn)])) _
    refine st273 _ ?_
    show Steps p.tables e below (T273.setTop (mkF m 195 #[.val (.ref cn), .val (.int (0 : Int32)), .val (.int (0 : Int32)), .val (.int (1 : Int32)), .val (.int (1818 : Int32)), .val (.int (2 : Int32))] [(.ref vs)])) _
    refine XS.iload X273.here hx rfl (hb hby d5_195) rfl ?_
    show Steps p.tables e below (T273.setTop (mkF m 197 #[.val (.ref cn), .val (.int (0 : Int32)), .val (.int (0 : Int32)), .val (.int (1 : Int32)), .val (.int (1818 : Int32)), .val (.int (2 : Int32))] [(.int (2 : Int32)), (.ref vs)])) _
    refine XS.iloadN X273.here hx rfl (hb hby d5_197) rfl ?_
    show Steps p.tables e below (T273.setTop (mkF m 198 #[.val (.ref cn), .val (.int (0 : Int32)), .val (.int (0 : Int32)), .val (.int (1 : Int32)), .val (.int (1818 : Int32)), .val (.int (2 : Int32))] [(.int (0 : Int32)), (.int (2 : Int32)), (.ref vs)])) _
    refine st275 _ ?_
    show Steps p.tables e below (T275.setTop (mkF m 199 #[.val (.ref cn), .val (.int (0 : Int32)), .val (.int (0 : Int32)), .val (.int (1 : Int32)), .val (.int (1818 : Int32)), .val (.int (2 : Int32))] [])) _
    refine XS.aloadN X275.here hx rfl (hb hby d5_199) rfl rfl ?_
    show Steps p.tables e below (T275.setTop (mkF m 200 #[.val (.ref cn), .val (.int (0 : Int32)), .val (.int (0 : Int32)), .val (.int (1 : Int32)), .val (.int (1818 : Int32)), .val (.int (2 : Int32))] [(.ref cn)])) _
    refine st289 _ ?_
    show Steps p.tables e below (T289.setTop (mkF m 203 #[.val (.ref cn), .val (.int (0 : Int32)), .val (.int (0 : Int32)), .val (.int (1 : Int32)), .val (.int (1818 : Int32)), .val (.int (2 : Int32))] [(.ref lo)])) _
    refine XS.iload X289.here hx rfl (hb hby d5_203) rfl ?_
    show Steps p.tables e below (T289.setTop (mkF m 205 #[.val (.ref cn), .val (.int (0 : Int32)), .val (.int (0 : Int32)), .val (.int (1 : Int32)), .val (.int (1818 : Int32)), .val (.int (2 : Int32))] [(.int (2 : Int32)), (.ref lo)])) _
    refine XS.iloadN X289.here hx rfl (hb hby d5_205) rfl ?_
    show Steps p.tables e below (T289.setTop (mkF m 206 #[.val (.ref cn), .val (.int (0 : Int32)), .val (.int (0 : Int32)), .val (.int (1 : Int32)), .val (.int (1818 : Int32)), .val (.int (2 : Int32))] [(.int (0 : Int32)), (.int (2 : Int32)), (.ref lo)])) _
    refine st291 _ ?_
    show Steps p.tables e below (T291.setTop (mkF m 207 #[.val (.ref cn), .val (.int (0 : Int32)), .val (.int (0 : Int32)), .val (.int (1 : Int32)), .val (.int (1818 : Int32)), .val (.int (2 : Int32))] [])) _
    refine XS.aloadN X291.here hx rfl (hb hby d5_207) rfl rfl ?_
    show Steps p.tables e below (T291.setTop (mkF m 208 #[.val (.ref cn), .val (.int (0 : Int32)), .val (.int (0 : Int32)), .val (.int (1 : Int32)), .val (.int (1818 : Int32)), .val (.int (2 : Int32))] [(.ref cn)])) _
    refine st305 _ ?_
    show Steps p.tables e below (T305.setTop (mkF m 211 #[.val (.ref cn), .val (.int (0 : Int32)), .val (.int (0 : Int32)), .val (.int (1 : Int32)), .val (.int (1818 : Int32)), .val (.int (2 : Int32))] [(.ref hi)])) _
    refine XS.iload X305.here hx rfl (hb hby d5_211) rfl ?_
    show Steps p.tables e below (T305.setTop (mkF m 213 #[.val (.ref cn), .val (.int (0 : Int32)), .val (.int (0 : Int32)), .val (.int (1 : Int32)), .val (.int (1818 : Int32)), .val (.int (2 : Int32))] [(.int (2 : Int32)), (.ref hi)])) _
    refine XS.iloadN X305.here hx rfl (hb hby d5_213) rfl ?_
    show Steps p.tables e below (T305.setTop (mkF m 214 #[.val (.ref cn), .val (.int (0 : Int32)), .val (.int (0 : Int32)), .val (.int (1 : Int32)), .val (.int (1818 : Int32)), .val (.int (2 : Int32))] [(.int (1 : Int32)), (.int (2 : Int32)), (.ref hi)])) _
    refine st307 _ ?_
    show Steps p.tables e below (T307.setTop (mkF m 215 #[.val (.ref cn), .val (.int (0 : Int32)), .val (.int (0 : Int32)), .val (.int (1 : Int32)), .val (.int (1818 : Int32)), .val (.int (2 : Int32))] [])) _
    refine XS.aloadN X307.here hx rfl (hb hby d5_215) rfl rfl ?_
    show Steps p.tables e below (T307.setTop (mkF m 216 #[.val (.ref cn), .val (.int (0 : Int32)), .val (.int (0 : Int32)), .val (.int (1 : Int32)), .val (.int (1818 : Int32)), .val (.int (2 : Int32))] [(.ref cn)])) _
    refine st321 _ ?_
    show Steps p.tables e below (T321.setTop (mkF m 219 #[.val (.ref cn), .val (.int (0 : Int32)), .val (.int (0 : Int32)), .val (.int (1 : Int32)), .val (.int (1818 : Int32)), .val (.int (2 : Int32))] [(.ref tb)])) _
    refine XS.iload X321.here hx rfl (hb hby d5_219) rfl ?_
    show Steps p.tables e below (T321.setTop (mkF m 221 #[.val (.ref cn), .val (.int (0 : Int32)), .val (.int (0 : Int32)), .val (.int (1 : Int32)), .val (.int (1818 : Int32)), .val (.int (2 : Int32))] [(.int (1818 : Int32)), (.ref tb)])) _
    refine XS.iload X321.here hx rfl (hb hby d5_221) rfl ?_
    show Steps p.tables e below (T321.setTop (mkF m 223 #[.val (.ref cn), .val (.int (0 : Int32)), .val (.int (0 : Int32)), .val (.int (1 : Int32)), .val (.int (1818 : Int32)), .val (.int (2 : Int32))] [(.int (2 : Int32)), (.int (1818 : Int32)), (.ref tb)])) _
    refine st323 _ ?_
    show Steps p.tables e below (T323.setTop (mkF m 224 #[.val (.ref cn), .val (.int (0 : Int32)), .val (.int (0 : Int32)), .val (.int (1 : Int32)), .val (.int (1818 : Int32)), .val (.int (2 : Int32))] [])) _
    refine XS.iconst X323.here hx rfl (hb hby d5_224) ?_
    show Steps p.tables e below (T323.setTop (mkF m 225 #[.val (.ref cn), .val (.int (0 : Int32)), .val (.int (0 : Int32)), .val (.int (1 : Int32)), .val (.int (1818 : Int32)), .val (.int (2 : Int32))] [(.int (2 : Int32))])) _
    refine XS.aloadN X323.here hx rfl (hb hby d5_225) rfl rfl ?_
    show Steps p.tables e below (T323.setTop (mkF m 226 #[.val (.ref cn), .val (.int (0 : Int32)), .val (.int (0 : Int32)), .val (.int (1 : Int32)), .val (.int (1818 : Int32)), .val (.int (2 : Int32))] [(.ref cn), (.int (2 : Int32))])) _
    refine st337 _ ?_
    show Steps p.tables e below (T337.setTop (mkF m 229 #[.val (.ref cn), .val (.int (0 : Int32)), .val (.int (0 : Int32)), .val (.int (1 : Int32)), .val (.int (1818 : Int32)), .val (.int (2 : Int32))] [(.int (3 : Int32)), (.int (2 : Int32))])) _
    refine XS.imul X337.here hx rfl (hb hby d5_229) rfl ?_
    show Steps p.tables e below (T337.setTop (mkF m 230 #[.val (.ref cn), .val (.int (0 : Int32)), .val (.int (0 : Int32)), .val (.int (1 : Int32)), .val (.int (1818 : Int32)), .val (.int (2 : Int32))] [(.int (6 : Int32))])) _
    refine XS.aloadN X337.here hx rfl (hb hby d5_230) rfl rfl ?_
    show Steps p.tables e below (T337.setTop (mkF m 231 #[.val (.ref cn), .val (.int (0 : Int32)), .val (.int (0 : Int32)), .val (.int (1 : Int32)), .val (.int (1818 : Int32)), .val (.int (2 : Int32))] [(.ref cn), (.int (6 : Int32))])) _
    refine st338 _ ?_
    show Steps p.tables e below (T338.setTop (mkF m 234 #[.val (.ref cn), .val (.int (0 : Int32)), .val (.int (0 : Int32)), .val (.int (1 : Int32)), .val (.int (1818 : Int32)), .val (.int (2 : Int32))] [(.ref tb), (.int (6 : Int32))])) _
    refine X338.arraylength hx (by rw [e338]; exact Ar339.1) (State.isArrayOf_alike hZ.alike Ar339.2.1) (g := (mkF m 234 #[.val (.ref cn), .val (.int (0 : Int32)), .val (.int (0 : Int32)), .val (.int (1 : Int32)), .val (.int (1818 : Int32)), .val (.int (2 : Int32))] [(.ref tb), (.int (6 : Int32))])) rfl rfl (hb hby d5_234) _ ?_
    rw [show cl339.slots.size.toInt32 = (2048 : Int32) from by rw [Sz339]; decide]
    show Steps p.tables e below (T338.setTop (mkF m 235 #[.val (.ref cn), .val (.int (0 : Int32)), .val (.int (0 : Int32)), .val (.int (1 : Int32)), .val (.int (1818 : Int32)), .val (.int (2 : Int32))] [(.int (2048 : Int32)), (.int (6 : Int32))])) _
    refine XS.icmpYes X338.here hx rfl (pc0 := 235) (pc' := 242) rfl (hb hby d5_235) rfl (flt (by decide)).2.2.2 (by decide) (by decide) ?_
    show Steps p.tables e below (T338.setTop (mkF m 242 #[.val (.ref cn), .val (.int (0 : Int32)), .val (.int (0 : Int32)), .val (.int (1 : Int32)), .val (.int (1818 : Int32)), .val (.int (2 : Int32))] [])) _
    refine XS.iload X338.here hx rfl (hb hby d5_242) rfl ?_
    show Steps p.tables e below (T338.setTop (mkF m 244 #[.val (.ref cn), .val (.int (0 : Int32)), .val (.int (0 : Int32)), .val (.int (1 : Int32)), .val (.int (1818 : Int32)), .val (.int (2 : Int32))] [(.int (2 : Int32))])) _
    exact retI X338 hx Bd.returns (hb hby d5_244) hr
  · show QC (.int (2 : Int32)) Z cn vs lo hi tb ca (3 : Int32) vc (upd fv 2 (0 : Int32)) (upd fl 2 (0 : Int32)) (upd fh 2 (1 : Int32)) (upd ft 1818 (2 : Int32)) fc h0 n0 _ T338.heap _
    rw [e338]
    exact ⟨rfl, N323, K323, zE332, zF324, zF325, zF326, zF327, zF328, zF329, zF330, zF331, zA334, zA335, zA336, V323, zA333⟩
set_option maxRecDepth 65536 in
set_option maxHeartbeats 40000000 in
theorem rn2 (l : Launch) (Z : State) (a0 : Array Value) (hw : ∀ d ∈ tables_1, d.before a0 Z = true) (ws : List Jvm.Cond) (cn vs lo hi tb ca : Addr) (vc : Int32) (fv fl fh ft fc : Nat → Int32) (h0 : Heap) (n0 : Nat) (Z0 : n0 ≤ h0.size) (hC : CS Z h0 cn vs lo hi tb ca (3 : Int32) vc fv fl fh ft fc) (hD : DS n0 cn vs lo hi tb ca) (hslot : ft 275 = (-1 : Int32)) :
    MetFree l (⟨"com/example/sealed_paths/sealedpaths/core/Conditions", "node", "(III)I"⟩ : MethodName) (head1 (Jvm.Cond.code (⟨"com/example/sealed_paths/sealedpaths/core/Conditions", "node", "(III)I"⟩ : MethodName) prog_13_method_12_code 6 (some .int) :: ws) ({ frames := 1, cells := 0, slots := 0, locals := 14 } : Room)) (fun zA zU => zA = #[(.ref cn), (.int (0 : Int32)), (.int (1 : Int32)), (.int (0 : Int32))] ∧ Z.Warmed39 zU.vm ∧ zU.heap = h0) (fun _ _ _ _ _ => True) (fun _ zU zO zW => ∃ zV zL, zO = .returned zV ∧ QC (.int (3 : Int32)) Z cn vs lo hi tb ca (4 : Int32) vc (upd fv 3 (0 : Int32)) (upd fl 3 (1 : Int32)) (upd fh 3 (0 : Int32)) (upd ft 275 (3 : Int32)) fc h0 n0 zV zW.heap zL ∧ FrameEnd zU zO zW zL ({ frames := 1, cells := 0, slots := 0, locals := 14 } : Room).cells ({ frames := 1, cells := 0, slots := 0, locals := 14 } : Room).slots) := by
  refine MetFree.of_bodySF (plainFor_of_name pn_Conditions) hisR ?_
  intro p e s m args below meth c s₁ Bd hml0 hP hK
  obtain ⟨rfl, hZ, hh⟩ := hP
  have hx := Bd.exec
  have hby := Bd.bytes
  have hml : c.maxLocals = 6 := hml0
  have hown : s.vm.findClass "com/example/sealed_paths/sealedpaths/core/Conditions" = some m.cls := findClass_of_methodNamed Bd.named
  have hnm := (name_of_methodNamed Bd.named Bd.method).1
  have X0 : Stand p l e ({ frames := 1, cells := 0, slots := 0, locals := 14 } : Room) s m #[(.ref cn), (.int (0 : Int32)), (.int (1 : Int32)), (.int (0 : Int32))] below meth c s₁ [] 0 0 := Stand.of_body Bd
  have e0 : s₁.heap = h0 := by rw [← hh, Bd.state]; rfl
  have N0 := Fr.nil n0
  have pre0 : ∀ zt, Steps p.tables e below (s₁.setTop (mkF m 0 #[.val (.ref cn), .val (.int (0 : Int32)), .val (.int (1 : Int32)), .val (.int (0 : Int32)), .unset, .unset] [])) zt → Steps p.tables e below (s₁.setTop (entryFrame m #[(.ref cn), (.int (0 : Int32)), (.int (1 : Int32)), (.int (0 : Int32))] 6)) zt := fun zt zk => castTop (ef_5_RIII m cn (0 : Int32) (1 : Int32) (0 : Int32)) zk
  obtain ⟨Ec, F_variables, F_lows, F_highs, F_table, F_cached, F_limit, F_size, F_vc, V_vs, V_lo, V_hi, V_tb, V_ca⟩ := hC
  obtain ⟨g_cn, g_vs, g_lo, g_hi, g_tb, g_ca, ne_cn_vs, ne_cn_lo, ne_cn_hi, ne_cn_tb, ne_cn_ca, ne_vs_lo, ne_vs_hi, ne_vs_tb, ne_vs_ca, ne_lo_hi, ne_lo_tb, ne_lo_ca, ne_hi_tb, ne_hi_ca, ne_tb_ca⟩ := hD
  obtain ⟨_, _, ⟨T340, L340, k340, n340⟩, -, X340, ⟨Lc340, hQ340, l340, y340, z340⟩, st340⟩ := Jvm.LawKit.callS X0 hx (y := (⟨"com/example/sealed_paths/sealedpaths/core/Conditions", "hash", "(III)I"⟩ : MethodName)) hown (mvT hZ (hw _ (List.mem_of_getElem? (i := 40) rfl))) (mvT hZ (hw _ (List.mem_of_getElem? (i := 41) rfl))) (mvT hZ (hw _ (List.mem_of_getElem? (i := 2) rfl))) (mvT hZ (hw _ (List.mem_of_getElem? (i := 42) rfl))) (by decide) (backOf (W := 0) (rh2 l Z a0 hw [] h0 n0 Z0) hZ (hw _ (List.mem_of_getElem? (i := 42) rfl)) (hw _ (List.mem_of_getElem? (i := 2) rfl)) (by decide) (by decide)) (g := (mkF m 10 #[.val (.ref cn), .val (.int (0 : Int32)), .val (.int (1 : Int32)), .val (.int (0 : Int32)), .unset, .unset] [(.int (0 : Int32)), (.int (1 : Int32)), (.int (0 : Int32))])) rfl (by rw [hml]; rfl) (argsL := [(.int (0 : Int32)), (.int (1 : Int32)), (.int (0 : Int32))]) (rest := []) (lenOf pd_5 rfl) rfl (by show 2 * 0 + _ ≤ _; exact Nat.le_of_eq rfl) (hb hby d5_10) (fun _ _ => ⟨rfl, e0, (by decide : 0 + 0 ≤ _), (by decide : 0 + 0 ≤ _)⟩)
  dsimp only [Pt.U, Pt.locs, Pt.cells, Pt.slots] at X340 l340 y340 z340 st340 hQ340
  subst l340 y340 z340
  obtain ⟨rfl, Nq340, e340⟩ := hQ340
  have N340 := Fr.app N0 Nq340
  obtain ⟨T341, X341, e341, st341⟩ := getF X340 hx hZ hown (host := "") (Or.inl (hw _ (List.mem_of_getElem? (i := 16) rfl))) Via.refl e340 F_table (g := (mkF m 14 #[.val (.ref cn), .val (.int (0 : Int32)), .val (.int (1 : Int32)), .val (.int (0 : Int32)), .unset, .unset] [(.ref cn), (.int (1759891731 : Int32))])) rfl rfl (hb hby d5_14)
  obtain ⟨cl342, Ar342, Sz342, Hz342⟩ := id V_tb
  obtain ⟨T343, X343, e343, st343⟩ := getF X341 hx hZ hown (host := "") (Or.inl (hw _ (List.mem_of_getElem? (i := 16) rfl))) Via.refl e341 F_table (g := (mkF m 24 #[.val (.ref cn), .val (.int (0 : Int32)), .val (.int (1 : Int32)), .val (.int (0 : Int32)), .val (.int (275 : Int32)), .unset] [(.ref cn)])) rfl rfl (hb hby d5_24)
  obtain ⟨cl344, Ar344, Sz344, Hz344⟩ := id V_tb
  have hin344 := IA.inb (j := (275 : Int32)) (i := 275) Sz344 (by decide) (by decide) (by decide)
  have hat344 := IA.at (j := (275 : Int32)) (x := (-1 : Int32)) Hz344 (by decide) (by decide) hslot
  obtain ⟨T345, X345, e345, st345⟩ := getF X343 hx hZ hown (host := "") (Or.inl (hw _ (List.mem_of_getElem? (i := 27) rfl))) Via.refl e343 F_size (g := (mkF m 97 #[.val (.ref cn), .val (.int (0 : Int32)), .val (.int (1 : Int32)), .val (.int (0 : Int32)), .val (.int (275 : Int32)), .unset] [(.ref cn)])) rfl rfl (hb hby d5_97)
  obtain ⟨T346, X346, e346, st346⟩ := getF X345 hx hZ hown (host := "") (Or.inl (hw _ (List.mem_of_getElem? (i := 20) rfl))) Via.refl e345 F_limit (g := (mkF m 101 #[.val (.ref cn), .val (.int (0 : Int32)), .val (.int (1 : Int32)), .val (.int (0 : Int32)), .val (.int (275 : Int32)), .unset] [(.ref cn), (.int (3 : Int32))])) rfl rfl (hb hby d5_101)
  obtain ⟨T347, X347, e347, st347⟩ := getF X346 hx hZ hown (host := "") (Or.inl (hw _ (List.mem_of_getElem? (i := 27) rfl))) Via.refl e346 F_size (g := (mkF m 116 #[.val (.ref cn), .val (.int (0 : Int32)), .val (.int (1 : Int32)), .val (.int (0 : Int32)), .val (.int (275 : Int32)), .unset] [(.ref cn)])) rfl rfl (hb hby d5_116)
  obtain ⟨T348, X348, e348, st348⟩ := getF X347 hx hZ hown (host := "") (Or.inl (hw _ (List.mem_of_getElem? (i := 10) rfl))) Via.refl e347 F_variables (g := (mkF m 120 #[.val (.ref cn), .val (.int (0 : Int32)), .val (.int (1 : Int32)), .val (.int (0 : Int32)), .val (.int (275 : Int32)), .unset] [(.ref cn), (.int (3 : Int32))])) rfl rfl (hb hby d5_120)
  obtain ⟨cl349, Ar349, Sz349, Hz349⟩ := id V_vs
  obtain ⟨T350, X350, e350, st350⟩ := getF X348 hx hZ hown (host := "") (Or.inl (hw _ (List.mem_of_getElem? (i := 27) rfl))) Via.refl e348 F_size (g := (mkF m 180 #[.val (.ref cn), .val (.int (0 : Int32)), .val (.int (1 : Int32)), .val (.int (0 : Int32)), .val (.int (275 : Int32)), .unset] [(.ref cn), (.ref cn)])) rfl rfl (hb hby d5_180)
  obtain ⟨T351, h351, X351, e351, W351, st351⟩ := putF X350 hx hZ hown (host := "") (Or.inl (hw _ (List.mem_of_getElem? (i := 27) rfl))) Via.refl e350 F_size Ec (Or.inl (hw _ (List.mem_of_getElem? (i := 28) rfl))) (hw _ (List.mem_of_getElem? (i := 1) rfl)) (ty := .int) (by decide) rfl rfl (g := (mkF m 186 #[.val (.ref cn), .val (.int (0 : Int32)), .val (.int (1 : Int32)), .val (.int (0 : Int32)), .val (.int (275 : Int32)), .unset] [(.int (4 : Int32)), (.ref cn), (.int (3 : Int32))])) rfl rfl (hb hby d5_186)
  have N351 := Fr.snoc X351 N340 g_cn
  have zF352 := F_variables.other W351 (Or.inr (slot_ne (Or.inl (hw _ (List.mem_of_getElem? (i := 11) rfl))) (Or.inl (hw _ (List.mem_of_getElem? (i := 28) rfl))) (by decide) (t := (.array .int)) (t' := .int) (by decide) (by decide)))
  have zF353 := F_lows.other W351 (Or.inr (slot_ne (Or.inl (hw _ (List.mem_of_getElem? (i := 13) rfl))) (Or.inl (hw _ (List.mem_of_getElem? (i := 28) rfl))) (by decide) (t := (.array .int)) (t' := .int) (by decide) (by decide)))
  have zF354 := F_highs.other W351 (Or.inr (slot_ne (Or.inl (hw _ (List.mem_of_getElem? (i := 15) rfl))) (Or.inl (hw _ (List.mem_of_getElem? (i := 28) rfl))) (by decide) (t := (.array .int)) (t' := .int) (by decide) (by decide)))
  have zF355 := F_table.other W351 (Or.inr (slot_ne (Or.inl (hw _ (List.mem_of_getElem? (i := 17) rfl))) (Or.inl (hw _ (List.mem_of_getElem? (i := 28) rfl))) (by decide) (t := (.array .int)) (t' := .int) (by decide) (by decide)))
  have zF356 := F_cached.other W351 (Or.inr (slot_ne (Or.inl (hw _ (List.mem_of_getElem? (i := 19) rfl))) (Or.inl (hw _ (List.mem_of_getElem? (i := 28) rfl))) (by decide) (t := (.array .int)) (t' := .int) (by decide) (by decide)))
  have zF357 := F_limit.other W351 (Or.inr (slot_ne (Or.inr (hw _ (List.mem_of_getElem? (i := 21) rfl))) (Or.inl (hw _ (List.mem_of_getElem? (i := 28) rfl))) (by decide) (t := .int) (t' := .int) (by decide) (by decide)))
  have zF358 := F_size.same W351
  have zF359 := F_vc.other W351 (Or.inr (slot_ne (Or.inl (hw _ (List.mem_of_getElem? (i := 35) rfl))) (Or.inl (hw _ (List.mem_of_getElem? (i := 28) rfl))) (by decide) (t := .int) (t' := .int) (by decide) (by decide)))
  have zE360 := Ec.wr W351
  have zA361 := V_vs.other W351 (Ne.symm ne_cn_vs)
  have zA362 := V_lo.other W351 (Ne.symm ne_cn_lo)
  have zA363 := V_hi.other W351 (Ne.symm ne_cn_hi)
  have zA364 := V_tb.other W351 (Ne.symm ne_cn_tb)
  have zA365 := V_ca.other W351 (Ne.symm ne_cn_ca)
  have Z351 := Nat.le_trans Z0 (Keep.of_wr W351).1
  have K351 := (Keep.refl h0 [cn, vs, lo, hi, tb, ca]).wr W351 (Or.inl (List.mem_of_getElem? (i := 0) rfl))
  obtain ⟨T366, X366, e366, st366⟩ := getF X351 hx hZ hown (host := "") (Or.inl (hw _ (List.mem_of_getElem? (i := 10) rfl))) Via.refl e351 zF352 (g := (mkF m 192 #[.val (.ref cn), .val (.int (0 : Int32)), .val (.int (1 : Int32)), .val (.int (0 : Int32)), .val (.int (275 : Int32)), .val (.int (3 : Int32))] [(.ref cn)])) rfl rfl (hb hby d5_192)
  obtain ⟨cl367, Ar367, Sz367, Hz367⟩ := id zA361
  have hin367 := IA.inb (j := (3 : Int32)) (i := 3) Sz367 (by decide) (by decide) (by decide)
  obtain ⟨T368, h368, X368, e368, W368, st368⟩ := stI X366 hx hZ e366 Ar367 (j := (3 : Int32)) hin367 (g := (mkF m 198 #[.val (.ref cn), .val (.int (0 : Int32)), .val (.int (1 : Int32)), .val (.int (0 : Int32)), .val (.int (275 : Int32)), .val (.int (3 : Int32))] [(.int (0 : Int32)), (.int (3 : Int32)), (.ref vs)])) rfl rfl (hb hby d5_198)
  have V368 : IA Z h368 vs 1024 (upd fv 3 (0 : Int32)) := IA.set Ar367 Sz367 Hz367 W368 (by decide) (by decide)
  have N368 := Fr.snoc X368 N351 g_vs
  have zF369 := zF352.other W368 (Or.inl ne_cn_vs)
  have zF370 := zF353.other W368 (Or.inl ne_cn_vs)
  have zF371 := zF354.other W368 (Or.inl ne_cn_vs)
  have zF372 := zF355.other W368 (Or.inl ne_cn_vs)
  have zF373 := zF356.other W368 (Or.inl ne_cn_vs)
  have zF374 := zF357.other W368 (Or.inl ne_cn_vs)
  have zF375 := zF358.other W368 (Or.inl ne_cn_vs)
  have zF376 := zF359.other W368 (Or.inl ne_cn_vs)
  have zE377 := zE360.wr W368
  have zA378 := zA362.other W368 (Ne.symm ne_vs_lo)
  have zA379 := zA363.other W368 (Ne.symm ne_vs_hi)
  have zA380 := zA364.other W368 (Ne.symm ne_vs_tb)
  have zA381 := zA365.other W368 (Ne.symm ne_vs_ca)
  have Z368 := Nat.le_trans Z351 (Keep.of_wr W368).1
  have K368 := K351.wr W368 (Or.inl (List.mem_of_getElem? (i := 1) rfl))
  obtain ⟨T382, X382, e382, st382⟩ := getF X368 hx hZ hown (host := "") (Or.inl (hw _ (List.mem_of_getElem? (i := 12) rfl))) Via.refl e368 zF370 (g := (mkF m 200 #[.val (.ref cn), .val (.int (0 : Int32)), .val (.int (1 : Int32)), .val (.int (0 : Int32)), .val (.int (275 : Int32)), .val (.int (3 : Int32))] [(.ref cn)])) rfl rfl (hb hby d5_200)
  obtain ⟨cl383, Ar383, Sz383, Hz383⟩ := id zA378
  have hin383 := IA.inb (j := (3 : Int32)) (i := 3) Sz383 (by decide) (by decide) (by decide)
  obtain ⟨T384, h384, X384, e384, W384, st384⟩ := stI X382 hx hZ e382 Ar383 (j := (3 : Int32)) hin383 (g := (mkF m 206 #[.val (.ref cn), .val (.int (0 : Int32)), .val (.int (1 : Int32)), .val (.int (0 : Int32)), .val (.int (275 : Int32)), .val (.int (3 : Int32))] [(.int (1 : Int32)), (.int (3 : Int32)), (.ref lo)])) rfl rfl (hb hby d5_206)
  have V384 : IA Z h384 lo 1024 (upd fl 3 (1 : Int32)) := IA.set Ar383 Sz383 Hz383 W384 (by decide) (by decide)
  have N384 := Fr.snoc X384 N368 g_lo
  have zF385 := zF369.other W384 (Or.inl ne_cn_lo)
  have zF386 := zF370.other W384 (Or.inl ne_cn_lo)
  have zF387 := zF371.other W384 (Or.inl ne_cn_lo)
  have zF388 := zF372.other W384 (Or.inl ne_cn_lo)
  have zF389 := zF373.other W384 (Or.inl ne_cn_lo)
  have zF390 := zF374.other W384 (Or.inl ne_cn_lo)
  have zF391 := zF375.other W384 (Or.inl ne_cn_lo)
  have zF392 := zF376.other W384 (Or.inl ne_cn_lo)
  have zE393 := zE377.wr W384
  have zA394 := zA379.other W384 (Ne.symm ne_lo_hi)
  have zA395 := zA380.other W384 (Ne.symm ne_lo_tb)
  have zA396 := zA381.other W384 (Ne.symm ne_lo_ca)
  have zA397 := V368.other W384 ne_vs_lo
  have Z384 := Nat.le_trans Z368 (Keep.of_wr W384).1
  have K384 := K368.wr W384 (Or.inl (List.mem_of_getElem? (i := 2) rfl))
  obtain ⟨T398, X398, e398, st398⟩ := getF X384 hx hZ hown (host := "") (Or.inl (hw _ (List.mem_of_getElem? (i := 14) rfl))) Via.refl e384 zF387 (g := (mkF m 208 #[.val (.ref cn), .val (.int (0 : Int32)), .val (.int (1 : Int32)), .val (.int (0 : Int32)), .val (.int (275 : Int32)), .val (.int (3 : Int32))] [(.ref cn)])) rfl rfl (hb hby d5_208)
  obtain ⟨cl399, Ar399, Sz399, Hz399⟩ := id zA394
  have hin399 := IA.inb (j := (3 : Int32)) (i := 3) Sz399 (by decide) (by decide) (by decide)
  obtain ⟨T400, h400, X400, e400, W400, st400⟩ := stI X398 hx hZ e398 Ar399 (j := (3 : Int32)) hin399 (g := (mkF m 214 #[.val (.ref cn), .val (.int (0 : Int32)), .val (.int (1 : Int32)), .val (.int (0 : Int32)), .val (.int (275 : Int32)), .val (.int (3 : Int32))] [(.int (0 : Int32)), (.int (3 : Int32)), (.ref hi)])) rfl rfl (hb hby d5_214)
  have V400 : IA Z h400 hi 1024 (upd fh 3 (0 : Int32)) := IA.set Ar399 Sz399 Hz399 W400 (by decide) (by decide)
  have N400 := Fr.snoc X400 N384 g_hi
  have zF401 := zF385.other W400 (Or.inl ne_cn_hi)
  have zF402 := zF386.other W400 (Or.inl ne_cn_hi)
  have zF403 := zF387.other W400 (Or.inl ne_cn_hi)
  have zF404 := zF388.other W400 (Or.inl ne_cn_hi)
  have zF405 := zF389.other W400 (Or.inl ne_cn_hi)
  have zF406 := zF390.other W400 (Or.inl ne_cn_hi)
  have zF407 := zF391.other W400 (Or.inl ne_cn_hi)
  have zF408 := zF392.other W400 (Or.inl ne_cn_hi)
  have zE409 := zE393.wr W400
  have zA410 := zA395.other W400 (Ne.symm ne_hi_tb)
  have zA411 := zA396.other W400 (Ne.symm ne_hi_ca)
  have zA412 := zA397.other W400 ne_vs_hi
  have zA413 := V384.other W400 ne_lo_hi
  have Z400 := Nat.le_trans Z384 (Keep.of_wr W400).1
  have K400 := K384.wr W400 (Or.inl (List.mem_of_getElem? (i := 3) rfl))
  obtain ⟨T414, X414, e414, st414⟩ := getF X400 hx hZ hown (host := "") (Or.inl (hw _ (List.mem_of_getElem? (i := 16) rfl))) Via.refl e400 zF404 (g := (mkF m 216 #[.val (.ref cn), .val (.int (0 : Int32)), .val (.int (1 : Int32)), .val (.int (0 : Int32)), .val (.int (275 : Int32)), .val (.int (3 : Int32))] [(.ref cn)])) rfl rfl (hb hby d5_216)
  obtain ⟨cl415, Ar415, Sz415, Hz415⟩ := id zA410
  have hin415 := IA.inb (j := (275 : Int32)) (i := 275) Sz415 (by decide) (by decide) (by decide)
  obtain ⟨T416, h416, X416, e416, W416, st416⟩ := stI X414 hx hZ e414 Ar415 (j := (275 : Int32)) hin415 (g := (mkF m 223 #[.val (.ref cn), .val (.int (0 : Int32)), .val (.int (1 : Int32)), .val (.int (0 : Int32)), .val (.int (275 : Int32)), .val (.int (3 : Int32))] [(.int (3 : Int32)), (.int (275 : Int32)), (.ref tb)])) rfl rfl (hb hby d5_223)
  have V416 : IA Z h416 tb 2048 (upd ft 275 (3 : Int32)) := IA.set Ar415 Sz415 Hz415 W416 (by decide) (by decide)
  have N416 := Fr.snoc X416 N400 g_tb
  have zF417 := zF401.other W416 (Or.inl ne_cn_tb)
  have zF418 := zF402.other W416 (Or.inl ne_cn_tb)
  have zF419 := zF403.other W416 (Or.inl ne_cn_tb)
  have zF420 := zF404.other W416 (Or.inl ne_cn_tb)
  have zF421 := zF405.other W416 (Or.inl ne_cn_tb)
  have zF422 := zF406.other W416 (Or.inl ne_cn_tb)
  have zF423 := zF407.other W416 (Or.inl ne_cn_tb)
  have zF424 := zF408.other W416 (Or.inl ne_cn_tb)
  have zE425 := zE409.wr W416
  have zA426 := zA411.other W416 (Ne.symm ne_tb_ca)
  have zA427 := zA412.other W416 ne_vs_tb
  have zA428 := zA413.other W416 ne_lo_tb
  have zA429 := V400.other W416 ne_hi_tb
  have Z416 := Nat.le_trans Z400 (Keep.of_wr W416).1
  have K416 := K400.wr W416 (Or.inl (List.mem_of_getElem? (i := 4) rfl))
  obtain ⟨T430, X430, e430, st430⟩ := getF X416 hx hZ hown (host := "") (Or.inl (hw _ (List.mem_of_getElem? (i := 27) rfl))) Via.refl e416 zF423 (g := (mkF m 226 #[.val (.ref cn), .val (.int (0 : Int32)), .val (.int (1 : Int32)), .val (.int (0 : Int32)), .val (.int (275 : Int32)), .val (.int (3 : Int32))] [(.ref cn), (.int (2 : Int32))])) rfl rfl (hb hby d5_226)
  obtain ⟨T431, X431, e431, st431⟩ := getF X430 hx hZ hown (host := "") (Or.inl (hw _ (List.mem_of_getElem? (i := 16) rfl))) Via.refl e430 zF420 (g := (mkF m 231 #[.val (.ref cn), .val (.int (0 : Int32)), .val (.int (1 : Int32)), .val (.int (0 : Int32)), .val (.int (275 : Int32)), .val (.int (3 : Int32))] [(.ref cn), (.int (8 : Int32))])) rfl rfl (hb hby d5_231)
  obtain ⟨cl432, Ar432, Sz432, Hz432⟩ := id V416
  obtain ⟨fs, hr, hrun, hended, hW, hsame⟩ := X431.leave (v := some (.int (3 : Int32))) (fun h => by rw [Bd.returns] at h; cases h)
  refine ⟨_, _, pre0 _ ?_, hrun, hended, _, _, rfl, ?_, ⟨_, rfl⟩, hW, hsame.mono (by decide) (by decide)⟩
  · show Steps p.tables e below (s₁.setTop (mkF m 0 #[.val (.ref cn), .val (.int (0 : Int32)), .val (.int (1 : Int32)), .val (.int (0 : Int32)), .unset, .unset] [])) _
    refine XS.iloadN X0.here hx rfl (hb hby d5_0) rfl ?_
    show Steps p.tables e below (s₁.setTop (mkF m 1 #[.val (.ref cn), .val (.int (0 : Int32)), .val (.int (1 : Int32)), .val (.int (0 : Int32)), .unset, .unset] [(.int (1 : Int32))])) _
    refine XS.iloadN X0.here hx rfl (hb hby d5_1) rfl ?_
    show Steps p.tables e below (s₁.setTop (mkF m 2 #[.val (.ref cn), .val (.int (0 : Int32)), .val (.int (1 : Int32)), .val (.int (0 : Int32)), .unset, .unset] [(.int (0 : Int32)), (.int (1 : Int32))])) _
    refine XS.icmpYes X0.here hx rfl (pc0 := 2) (pc' := 7) rfl (hb hby d5_2) rfl (feq (by decide)).2 (by decide) (by decide) ?_
    show Steps p.tables e below (s₁.setTop (mkF m 7 #[.val (.ref cn), .val (.int (0 : Int32)), .val (.int (1 : Int32)), .val (.int (0 : Int32)), .unset, .unset] [])) _
    refine XS.iloadN X0.here hx rfl (hb hby d5_7) rfl ?_
    show Steps p.tables e below (s₁.setTop (mkF m 8 #[.val (.ref cn), .val (.int (0 : Int32)), .val (.int (1 : Int32)), .val (.int (0 : Int32)), .unset, .unset] [(.int (0 : Int32))])) _
    refine XS.iloadN X0.here hx rfl (hb hby d5_8) rfl ?_
    show Steps p.tables e below (s₁.setTop (mkF m 9 #[.val (.ref cn), .val (.int (0 : Int32)), .val (.int (1 : Int32)), .val (.int (0 : Int32)), .unset, .unset] [(.int (1 : Int32)), (.int (0 : Int32))])) _
    refine XS.iloadN X0.here hx rfl (hb hby d5_9) rfl ?_
    show Steps p.tables e below (s₁.setTop (mkF m 10 #[.val (.ref cn), .val (.int (0 : Int32)), .val (.int (1 : Int32)), .val (.int (0 : Int32)), .unset, .unset] [(.int (0 : Int32)), (.int (1 : Int32)), (.int (0 : Int32))])) _
    refine st340 _ ?_
    show Steps p.tables e below (T340.setTop (mkF m 13 #[.val (.ref cn), .val (.int (0 : Int32)), .val (.int (1 : Int32)), .val (.int (0 : Int32)), .unset, .unset] [(.int (1759891731 : Int32))])) _
    refine XS.aloadN X340.here hx rfl (hb hby d5_13) rfl rfl ?_
    show Steps p.tables e below (T340.setTop (mkF m 14 #[.val (.ref cn), .val (.int (0 : Int32)), .val (.int (1 : Int32)), .val (.int (0 : Int32)), .unset, .unset] [(.ref cn), (.int (1759891731 : Int32))])) _
    refine st341 _ ?_
    show Steps p.tables e below (T341.setTop (mkF m 17 #[.val (.ref cn), .val (.int (0 : Int32)), .val (.int (1 : Int32)), .val (.int (0 : Int32)), .unset, .unset] [(.ref tb), (.int (1759891731 : Int32))])) _
    refine X341.arraylength hx (by rw [e341]; exact Ar342.1) (State.isArrayOf_alike hZ.alike Ar342.2.1) (g := (mkF m 17 #[.val (.ref cn), .val (.int (0 : Int32)), .val (.int (1 : Int32)), .val (.int (0 : Int32)), .unset, .unset] [(.ref tb), (.int (1759891731 : Int32))])) rfl rfl (hb hby d5_17) _ ?_
    rw [show cl342.slots.size.toInt32 = (2048 : Int32) from by rw [Sz342]; decide]
    show Steps p.tables e below (T341.setTop (mkF m 18 #[.val (.ref cn), .val (.int (0 : Int32)), .val (.int (1 : Int32)), .val (.int (0 : Int32)), .unset, .unset] [(.int (2048 : Int32)), (.int (1759891731 : Int32))])) _
    refine XS.iconst X341.here hx rfl (hb hby d5_18) ?_
    show Steps p.tables e below (T341.setTop (mkF m 19 #[.val (.ref cn), .val (.int (0 : Int32)), .val (.int (1 : Int32)), .val (.int (0 : Int32)), .unset, .unset] [(.int (1 : Int32)), (.int (2048 : Int32)), (.int (1759891731 : Int32))])) _
    refine XS.isub X341.here hx rfl (hb hby d5_19) rfl ?_
    show Steps p.tables e below (T341.setTop (mkF m 20 #[.val (.ref cn), .val (.int (0 : Int32)), .val (.int (1 : Int32)), .val (.int (0 : Int32)), .unset, .unset] [(.int (2047 : Int32)), (.int (1759891731 : Int32))])) _
    refine XS.iand X341.here hx rfl (hb hby d5_20) rfl ?_
    show Steps p.tables e below (T341.setTop (mkF m 21 #[.val (.ref cn), .val (.int (0 : Int32)), .val (.int (1 : Int32)), .val (.int (0 : Int32)), .unset, .unset] [(.int (275 : Int32))])) _
    refine XS.istore X341.here hx rfl (hb hby d5_21) rfl (l' := #[.val (.ref cn), .val (.int (0 : Int32)), .val (.int (1 : Int32)), .val (.int (0 : Int32)), .val (.int (275 : Int32)), .unset]) rfl ?_
    show Steps p.tables e below (T341.setTop (mkF m 23 #[.val (.ref cn), .val (.int (0 : Int32)), .val (.int (1 : Int32)), .val (.int (0 : Int32)), .val (.int (275 : Int32)), .unset] [])) _
    refine XS.aloadN X341.here hx rfl (hb hby d5_23) rfl rfl ?_
    show Steps p.tables e below (T341.setTop (mkF m 24 #[.val (.ref cn), .val (.int (0 : Int32)), .val (.int (1 : Int32)), .val (.int (0 : Int32)), .val (.int (275 : Int32)), .unset] [(.ref cn)])) _
    refine st343 _ ?_
    show Steps p.tables e below (T343.setTop (mkF m 27 #[.val (.ref cn), .val (.int (0 : Int32)), .val (.int (1 : Int32)), .val (.int (0 : Int32)), .val (.int (275 : Int32)), .unset] [(.ref tb)])) _
    refine XS.iload X343.here hx rfl (hb hby d5_27) rfl ?_
    show Steps p.tables e below (T343.setTop (mkF m 29 #[.val (.ref cn), .val (.int (0 : Int32)), .val (.int (1 : Int32)), .val (.int (0 : Int32)), .val (.int (275 : Int32)), .unset] [(.int (275 : Int32)), (.ref tb)])) _
    refine X343.iaload hx (j := (275 : Int32)) (v := (.int (-1 : Int32))) (by rw [e343]; exact Ar344.1) (State.isArrayOf_alike hZ.alike Ar344.2.1) Ar344.2.2 hin344 hat344 (g := (mkF m 29 #[.val (.ref cn), .val (.int (0 : Int32)), .val (.int (1 : Int32)), .val (.int (0 : Int32)), .val (.int (275 : Int32)), .unset] [(.int (275 : Int32)), (.ref tb)])) rfl rfl (hb hby d5_29) _ ?_
    show Steps p.tables e below (T343.setTop (mkF m 30 #[.val (.ref cn), .val (.int (0 : Int32)), .val (.int (1 : Int32)), .val (.int (0 : Int32)), .val (.int (275 : Int32)), .unset] [(.int (-1 : Int32))])) _
    refine XS.iconst X343.here hx rfl (hb hby d5_30) ?_
    show Steps p.tables e below (T343.setTop (mkF m 31 #[.val (.ref cn), .val (.int (0 : Int32)), .val (.int (1 : Int32)), .val (.int (0 : Int32)), .val (.int (275 : Int32)), .unset] [(.int (-1 : Int32)), (.int (-1 : Int32))])) _
    refine XS.icmpYes X343.here hx rfl (pc0 := 31) (pc' := 96) rfl (hb hby d5_31) rfl (teq (by decide)).1 (by decide) (by decide) ?_
    show Steps p.tables e below (T343.setTop (mkF m 96 #[.val (.ref cn), .val (.int (0 : Int32)), .val (.int (1 : Int32)), .val (.int (0 : Int32)), .val (.int (275 : Int32)), .unset] [])) _
    refine XS.aloadN X343.here hx rfl (hb hby d5_96) rfl rfl ?_
    show Steps p.tables e below (T343.setTop (mkF m 97 #[.val (.ref cn), .val (.int (0 : Int32)), .val (.int (1 : Int32)), .val (.int (0 : Int32)), .val (.int (275 : Int32)), .unset] [(.ref cn)])) _
    refine st345 _ ?_
    show Steps p.tables e below (T345.setTop (mkF m 100 #[.val (.ref cn), .val (.int (0 : Int32)), .val (.int (1 : Int32)), .val (.int (0 : Int32)), .val (.int (275 : Int32)), .unset] [(.int (3 : Int32))])) _
    refine XS.aloadN X345.here hx rfl (hb hby d5_100) rfl rfl ?_
    show Steps p.tables e below (T345.setTop (mkF m 101 #[.val (.ref cn), .val (.int (0 : Int32)), .val (.int (1 : Int32)), .val (.int (0 : Int32)), .val (.int (275 : Int32)), .unset] [(.ref cn), (.int (3 : Int32))])) _
    refine st346 _ ?_
    show Steps p.tables e below (T346.setTop (mkF m 104 #[.val (.ref cn), .val (.int (0 : Int32)), .val (.int (1 : Int32)), .val (.int (0 : Int32)), .val (.int (275 : Int32)), .unset] [(.int (16 : Int32)), (.int (3 : Int32))])) _
    refine XS.icmpYes X346.here hx rfl (pc0 := 104) (pc' := 115) rfl (hb hby d5_104) rfl (feq (by decide)).2 (by decide) (by decide) ?_
    show Steps p.tables e below (T346.setTop (mkF m 115 #[.val (.ref cn), .val (.int (0 : Int32)), .val (.int (1 : Int32)), .val (.int (0 : Int32)), .val (.int (275 : Int32)), .unset] [])) _
    refine XS.aloadN X346.here hx rfl (hb hby d5_115) rfl rfl ?_
    show Steps p.tables e below (T346.setTop (mkF m 116 #[.val (.ref cn), .val (.int (0 : Int32)), .val (.int (1 : Int32)), .val (.int (0 : Int32)), .val (.int (275 : Int32)), .unset] [(.ref cn)])) _
    refine st347 _ ?_
    show Steps p.tables e below (T347.setTop (mkF m 119 #[.val (.ref cn), .val (.int (0 : Int32)), .val (.int (1 : Int32)), .val (.int (0 : Int32)), .val (.int (275 : Int32)), .unset] [(.int (3 : Int32))])) _
    refine XS.aloadN X347.here hx rfl (hb hby d5_119) rfl rfl ?_
    show Steps p.tables e below (T347.setTop (mkF m 120 #[.val (.ref cn), .val (.int (0 : Int32)), .val (.int (1 : Int32)), .val (.int (0 : Int32)), .val (.int (275 : Int32)), .unset] [(.ref cn), (.int (3 : Int32))])) _
    refine st348 _ ?_
    show Steps p.tables e below (T348.setTop (mkF m 123 #[.val (.ref cn), .val (.int (0 : Int32)), .val (.int (1 : Int32)), .val (.int (0 : Int32)), .val (.int (275 : Int32)), .unset] [(.ref vs), (.int (3 : Int32))])) _
    refine X348.arraylength hx (by rw [e348]; exact Ar349.1) (State.isArrayOf_alike hZ.alike Ar349.2.1) (g := (mkF m 123 #[.val (.ref cn), .val (.int (0 : Int32)), .val (.int (1 : Int32)), .val (.int (0 : Int32)), .val (.int (275 : Int32)), .unset] [(.ref vs), (.int (3 : Int32))])) rfl rfl (hb hby d5_123) _ ?_
    rw [show cl349.slots.size.toInt32 = (1024 : Int32) from by rw [Sz349]; decide]
    show Steps p.tables e below (T348.setTop (mkF m 124 #[.val (.ref cn), .val (.int (0 : Int32)), .val (.int (1 : Int32)), .val (.int (0 : Int32)), .val (.int (275 : Int32)), .unset] [(.int (1024 : Int32)), (.int (3 : Int32))])) _
    refine XS.icmpYes X348.here hx rfl (pc0 := 124) (pc' := 178) rfl (hb hby d5_124) rfl (feq (by decide)).2 (by decide) (by decide) ?_
    show Steps p.tables e below (T348.setTop (mkF m 178 #[.val (.ref cn), .val (.int (0 : Int32)), .val (.int (1 : Int32)), .val (.int (0 : Int32)), .val (.int (275 : Int32)), .unset] [])) _
    refine XS.aloadN X348.here hx rfl (hb hby d5_178) rfl rfl ?_
    show Steps p.tables e below (T348.setTop (mkF m 179 #[.val (.ref cn), .val (.int (0 : Int32)), .val (.int (1 : Int32)), .val (.int (0 : Int32)), .val (.int (275 : Int32)), .unset] [(.ref cn)])) _
    refine XS.dup X348.here hx rfl (hb hby d5_179) rfl rfl ?_
    show Steps p.tables e below (T348.setTop (mkF m 180 #[.val (.ref cn), .val (.int (0 : Int32)), .val (.int (1 : Int32)), .val (.int (0 : Int32)), .val (.int (275 : Int32)), .unset] [(.ref cn), (.ref cn)])) _
    refine st350 _ ?_
    show Steps p.tables e below (T350.setTop (mkF m 183 #[.val (.ref cn), .val (.int (0 : Int32)), .val (.int (1 : Int32)), .val (.int (0 : Int32)), .val (.int (275 : Int32)), .unset] [(.int (3 : Int32)), (.ref cn)])) _
    refine XS.dupX1 X350.here hx rfl (hb hby d5_183) rfl rfl rfl ?_
    show Steps p.tables e below (T350.setTop (mkF m 184 #[.val (.ref cn), .val (.int (0 : Int32)), .val (.int (1 : Int32)), .val (.int (0 : Int32)), .val (.int (275 : Int32)), .unset] [(.int (3 : Int32)), (.ref cn), (.int (3 : Int32))])) _
    refine XS.iconst X350.here hx rfl (hb hby d5_184) ?_
    show Steps p.tables e below (T350.setTop (mkF m 185 #[.val (.ref cn), .val (.int (0 : Int32)), .val (.int (1 : Int32)), .val (.int (0 : Int32)), .val (.int (275 : Int32)), .unset] [(.int (1 : Int32)), (.int (3 : Int32)), (.ref cn), (.int (3 : Int32))])) _
    refine XS.iadd X350.here hx rfl (hb hby d5_185) rfl ?_
    show Steps p.tables e below (T350.setTop (mkF m 186 #[.val (.ref cn), .val (.int (0 : Int32)), .val (.int (1 : Int32)), .val (.int (0 : Int32)), .val (.int (275 : Int32)), .unset] [(.int (4 : Int32)), (.ref cn), (.int (3 : Int32))])) _
    refine st351 _ ?_
    show Steps p.tables e below (T351.setTop (mkF m 189 #[.val (.ref cn), .val (.int (0 : Int32)), .val (.int (1 : Int32)), .val (.int (0 : Int32)), .val (.int (275 : Int32)), .unset] [(.int (3 : Int32))])) _
    refine XS.istore X351.here hx rfl (hb hby d5_189) rfl (l' := #[.val (.ref cn), .val (.int (0 : Int32)), .val (.int (1 : Int32)), .val (.int (0 : Int32)), .val (.int (275 : Int32)), .val (.int (3 : Int32))]) rfl ?_
    show Steps p.tables e below (T351.setTop (mkF m 191 #[.val (.ref cn), .val (.int (0 : Int32)), .val (.int (1 : Int32)), .val (.int (0 : Int32)), .val (.int (275 : Int32)), .val (.int (3 : Int32))] [])) _
    refine XS.aloadN X351.here hx rfl (hb hby d5_191) rfl rfl ?_
    show Steps p.tables e below (T351.setTop (mkF m 192 #[.val (.ref cn), .val (.int (0 : Int32)), .val (.int (1 : Int32)), .val (.int (0 : Int32)), .val (.int (275 : Int32)), .val (.int (3 : Int32))] [(.ref cn)])) _
    refine st366 _ ?_
    show Steps p.tables e below (T366.setTop (mkF m 195 #[.val (.ref cn), .val (.int (0 : Int32)), .val (.int (1 : Int32)), .val (.int (0 : Int32)), .val (.int (275 : Int32)), .val (.int (3 : Int32))] [(.ref vs)])) _
    refine XS.iload X366.here hx rfl (hb hby d5_195) rfl ?_
    show Steps p.tables e below (T366.setTop (mkF m 197 #[.val (.ref cn), .val (.int (0 : Int32)), .val (.int (1 : Int32)), .val (.int (0 : Int32)), .val (.int (275 : Int32)), .val (.int (3 : Int32))] [(.int (3 : Int32)), (.ref vs)])) _
    refine XS.iloadN X366.here hx rfl (hb hby d5_197) rfl ?_
    show Steps p.tables e below (T366.setTop (mkF m 198 #[.val (.ref cn), .val (.int (0 : Int32)), .val (.int (1 : Int32)), .val (.int (0 : Int32)), .val (.int (275 : Int32)), .val (.int (3 : Int32))] [(.int (0 : Int32)), (.int (3 : Int32)), (.ref vs)])) _
    refine st368 _ ?_
    show Steps p.tables e below (T368.setTop (mkF m 199 #[.val (.ref cn), .val (.int (0 : Int32)), .val (.int (1 : Int32)), .val (.int (0 : Int32)), .val (.int (275 : Int32)), .val (.int (3 : Int32))] [])) _
    refine XS.aloadN X368.here hx rfl (hb hby d5_199) rfl rfl ?_
    show Steps p.tables e below (T368.setTop (mkF m 200 #[.val (.ref cn), .val (.int (0 : Int32)), .val (.int (1 : Int32)), .val (.int (0 : Int32)), .val (.int (275 : Int32)), .val (.int (3 : Int32))] [(.ref cn)])) _
    refine st382 _ ?_
    show Steps p.tables e below (T382.setTop (mkF m 203 #[.val (.ref cn), .val (.int (0 : Int32)), .val (.int (1 : Int32)), .val (.int (0 : Int32)), .val (.int (275 : Int32)), .val (.int (3 : Int32))] [(.ref lo)])) _
    refine XS.iload X382.here hx rfl (hb hby d5_203) rfl ?_
    show Steps p.tables e below (T382.setTop (mkF m 205 #[.val (.ref cn), .val (.int (0 : Int32)), .val (.int (1 : Int32)), .val (.int (0 : Int32)), .val (.int (275 : Int32)), .val (.int (3 : Int32))] [(.int (3 : Int32)), (.ref lo)])) _
    refine XS.iloadN X382.here hx rfl (hb hby d5_205) rfl ?_
    show Steps p.tables e below (T382.setTop (mkF m 206 #[.val (.ref cn), .val (.int (0 : Int32)), .val (.int (1 : Int32)), .val (.int (0 : Int32)), .val (.int (275 : Int32)), .val (.int (3 : Int32))] [(.int (1 : Int32)), (.int (3 : Int32)), (.ref lo)])) _
    refine st384 _ ?_
    show Steps p.tables e below (T384.setTop (mkF m 207 #[.val (.ref cn), .val (.int (0 : Int32)), .val (.int (1 : Int32)), .val (.int (0 : Int32)), .val (.int (275 : Int32)), .val (.int (3 : Int32))] [])) _
    refine XS.aloadN X384.here hx rfl (hb hby d5_207) rfl rfl ?_
    show Steps p.tables e below (T384.setTop (mkF m 208 #[.val (.ref cn), .val (.int (0 : Int32)), .val (.int (1 : Int32)), .val (.int (0 : Int32)), .val (.int (275 : Int32)), .val (.int (3 : Int32))] [(.ref cn)])) _
    refine st398 _ ?_
    show Steps p.tables e below (T398.setTop (mkF m 211 #[.val (.ref cn), .val (.int (0 : Int32)), .val (.int (1 : Int32)), .val (.int (0 : Int32)), .val (.int (275 : Int32)), .val (.int (3 : Int32))] [(.ref hi)])) _
    refine XS.iload X398.here hx rfl (hb hby d5_211) rfl ?_
    show Steps p.tables e below (T398.setTop (mkF m 213 #[.val (.ref cn), .val (.int (0 : Int32)), .val (.int (1 : Int32)), .val (.int (0 : Int32)), .val (.int (275 : Int32)), .val (.int (3 : Int32))] [(.int (3 : Int32)), (.ref hi)])) _
    refine XS.iloadN X398.here hx rfl (hb hby d5_213) rfl ?_
    show Steps p.tables e below (T398.setTop (mkF m 214 #[.val (.ref cn), .val (.int (0 : Int32)), .val (.int (1 : Int32)), .val (.int (0 : Int32)), .val (.int (275 : Int32)), .val (.int (3 : Int32))] [(.int (0 : Int32)), (.int (3 : Int32)), (.ref hi)])) _
    refine st400 _ ?_
    show Steps p.tables e below (T400.setTop (mkF m 215 #[.val (.ref cn), .val (.int (0 : Int32)), .val (.int (1 : Int32)), .val (.int (0 : Int32)), .val (.int (275 : Int32)), .val (.int (3 : Int32))] [])) _
    refine XS.aloadN X400.here hx rfl (hb hby d5_215) rfl rfl ?_
    show Steps p.tables e below (T400.setTop (mkF m 216 #[.val (.ref cn), .val (.int (0 : Int32)), .val (.int (1 : Int32)), .val (.int (0 : Int32)), .val (.int (275 : Int32)), .val (.int (3 : Int32))] [(.ref cn)])) _
    refine st414 _ ?_
    show Steps p.tables e below (T414.setTop (mkF m 219 #[.val (.ref cn), .val (.int (0 : Int32)), .val (.int (1 : Int32)), .val (.int (0 : Int32)), .val (.int (275 : Int32)), .val (.int (3 : Int32))] [(.ref tb)])) _
    refine XS.iload X414.here hx rfl (hb hby d5_219) rfl ?_
    show Steps p.tables e below (T414.setTop (mkF m 221 #[.val (.ref cn), .val (.int (0 : Int32)), .val (.int (1 : Int32)), .val (.int (0 : Int32)), .val (.int (275 : Int32)), .val (.int (3 : Int32))] [(.int (275 : Int32)), (.ref tb)])) _
    refine XS.iload X414.here hx rfl (hb hby d5_221) rfl ?_
    show Steps p.tables e below (T414.setTop (mkF m 223 #[.val (.ref cn), .val (.int (0 : Int32)), .val (.int (1 : Int32)), .val (.int (0 : Int32)), .val (.int (275 : Int32)), .val (.int (3 : Int32))] [(.int (3 : Int32)), (.int (275 : Int32)), (.ref tb)])) _
    refine st416 _ ?_
    show Steps p.tables e below (T416.setTop (mkF m 224 #[.val (.ref cn), .val (.int (0 : Int32)), .val (.int (1 : Int32)), .val (.int (0 : Int32)), .val (.int (275 : Int32)), .val (.int (3 : Int32))] [])) _
    refine XS.iconst X416.here hx rfl (hb hby d5_224) ?_
    show Steps p.tables e below (T416.setTop (mkF m 225 #[.val (.ref cn), .val (.int (0 : Int32)), .val (.int (1 : Int32)), .val (.int (0 : Int32)), .val (.int (275 : Int32)), .val (.int (3 : Int32))] [(.int (2 : Int32))])) _
    refine XS.aloadN X416.here hx rfl (hb hby d5_225) rfl rfl ?_
    show Steps p.tables e below (T416.setTop (mkF m 226 #[.val (.ref cn), .val (.int (0 : Int32)), .val (.int (1 : Int32)), .val (.int (0 : Int32)), .val (.int (275 : Int32)), .val (.int (3 : Int32))] [(.ref cn), (.int (2 : Int32))])) _
    refine st430 _ ?_
    show Steps p.tables e below (T430.setTop (mkF m 229 #[.val (.ref cn), .val (.int (0 : Int32)), .val (.int (1 : Int32)), .val (.int (0 : Int32)), .val (.int (275 : Int32)), .val (.int (3 : Int32))] [(.int (4 : Int32)), (.int (2 : Int32))])) _
    refine XS.imul X430.here hx rfl (hb hby d5_229) rfl ?_
    show Steps p.tables e below (T430.setTop (mkF m 230 #[.val (.ref cn), .val (.int (0 : Int32)), .val (.int (1 : Int32)), .val (.int (0 : Int32)), .val (.int (275 : Int32)), .val (.int (3 : Int32))] [(.int (8 : Int32))])) _
    refine XS.aloadN X430.here hx rfl (hb hby d5_230) rfl rfl ?_
    show Steps p.tables e below (T430.setTop (mkF m 231 #[.val (.ref cn), .val (.int (0 : Int32)), .val (.int (1 : Int32)), .val (.int (0 : Int32)), .val (.int (275 : Int32)), .val (.int (3 : Int32))] [(.ref cn), (.int (8 : Int32))])) _
    refine st431 _ ?_
    show Steps p.tables e below (T431.setTop (mkF m 234 #[.val (.ref cn), .val (.int (0 : Int32)), .val (.int (1 : Int32)), .val (.int (0 : Int32)), .val (.int (275 : Int32)), .val (.int (3 : Int32))] [(.ref tb), (.int (8 : Int32))])) _
    refine X431.arraylength hx (by rw [e431]; exact Ar432.1) (State.isArrayOf_alike hZ.alike Ar432.2.1) (g := (mkF m 234 #[.val (.ref cn), .val (.int (0 : Int32)), .val (.int (1 : Int32)), .val (.int (0 : Int32)), .val (.int (275 : Int32)), .val (.int (3 : Int32))] [(.ref tb), (.int (8 : Int32))])) rfl rfl (hb hby d5_234) _ ?_
    rw [show cl432.slots.size.toInt32 = (2048 : Int32) from by rw [Sz432]; decide]
    show Steps p.tables e below (T431.setTop (mkF m 235 #[.val (.ref cn), .val (.int (0 : Int32)), .val (.int (1 : Int32)), .val (.int (0 : Int32)), .val (.int (275 : Int32)), .val (.int (3 : Int32))] [(.int (2048 : Int32)), (.int (8 : Int32))])) _
    refine XS.icmpYes X431.here hx rfl (pc0 := 235) (pc' := 242) rfl (hb hby d5_235) rfl (flt (by decide)).2.2.2 (by decide) (by decide) ?_
    show Steps p.tables e below (T431.setTop (mkF m 242 #[.val (.ref cn), .val (.int (0 : Int32)), .val (.int (1 : Int32)), .val (.int (0 : Int32)), .val (.int (275 : Int32)), .val (.int (3 : Int32))] [])) _
    refine XS.iload X431.here hx rfl (hb hby d5_242) rfl ?_
    show Steps p.tables e below (T431.setTop (mkF m 244 #[.val (.ref cn), .val (.int (0 : Int32)), .val (.int (1 : Int32)), .val (.int (0 : Int32)), .val (.int (275 : Int32)), .val (.int (3 : Int32))] [(.int (3 : Int32))])) _
    exact retI X431 hx Bd.returns (hb hby d5_244) hr
  · show QC (.int (3 : Int32)) Z cn vs lo hi tb ca (4 : Int32) vc (upd fv 3 (0 : Int32)) (upd fl 3 (1 : Int32)) (upd fh 3 (0 : Int32)) (upd ft 275 (3 : Int32)) fc h0 n0 _ T431.heap _
    rw [e431]
    exact ⟨rfl, N416, K416, zE425, zF417, zF418, zF419, zF420, zF421, zF422, zF423, zF424, zA427, zA428, zA429, V416, zA426⟩
theorem d12_0 : decode prog_13_method_11_code 0 = .ok (.iload_n 1, 1) := by decide +kernel
theorem d12_1 : decode prog_13_method_11_code 1 = .ok (.istore 4, 2) := by decide +kernel
theorem d12_3 : decode prog_13_method_11_code 3 = .ok (.aload_n 0, 1) := by decide +kernel
theorem d12_4 : decode prog_13_method_11_code 4 = .ok (.getfield 9, 3) := by decide +kernel
theorem d12_7 : decode prog_13_method_11_code 7 = .ok (.iload_n 1, 1) := by decide +kernel
theorem d12_8 : decode prog_13_method_11_code 8 = .ok (.iaload, 1) := by decide +kernel
theorem d12_9 : decode prog_13_method_11_code 9 = .ok (.iload_n 2, 1) := by decide +kernel
theorem d12_10 : decode prog_13_method_11_code 10 = .ok (.if_icmp .ne 24, 3) := by decide +kernel
theorem d12_13 : decode prog_13_method_11_code 13 = .ok (.iload_n 3, 1) := by decide +kernel
theorem d12_14 : decode prog_13_method_11_code 14 = .ok (.ifCond .eq 12, 3) := by decide +kernel
theorem d12_26 : decode prog_13_method_11_code 26 = .ok (.aload_n 0, 1) := by decide +kernel
theorem d12_27 : decode prog_13_method_11_code 27 = .ok (.getfield 15, 3) := by decide +kernel
theorem d12_30 : decode prog_13_method_11_code 30 = .ok (.iload_n 1, 1) := by decide +kernel
theorem d12_31 : decode prog_13_method_11_code 31 = .ok (.iaload, 1) := by decide +kernel
theorem d12_32 : decode prog_13_method_11_code 32 = .ok (.istore 4, 2) := by decide +kernel
theorem d12_34 : decode prog_13_method_11_code 34 = .ok (.iload 4, 2) := by decide +kernel
theorem d12_36 : decode prog_13_method_11_code 36 = .ok (.ireturn, 1) := by decide +kernel
theorem ef_12_RIII (m : MethodId) (x0 : Addr) (x1 : Int32) (x2 : Int32) (x3 : Int32) : entryFrame m #[(.ref x0), (.int x1), (.int x2), (.int x3)] 5 = mkF m 0 #[.val (.ref x0), .val (.int x1), .val (.int x2), .val (.int x3), .unset] [] := by first | (simp [entryFrame, mkF, argsToLocals, Value.category]; done) | rfl
set_option maxRecDepth 65536 in
set_option maxHeartbeats 40000000 in
theorem rbr20 (l : Launch) (Z : State) (a0 : Array Value) (hw : ∀ d ∈ tables_1, d.before a0 Z = true) (ws : List Jvm.Cond) (cn vs lo hi tb ca : Addr) (sz vc w : Int32) (fv fl fh ft fc : Nat → Int32) (h0 : Heap) (n0 : Nat) (Z0 : n0 ≤ h0.size) (hC : CS Z h0 cn vs lo hi tb ca sz vc fv fl fh ft fc) (hD : DS n0 cn vs lo hi tb ca) (hv : fv 2 = (0 : Int32)) (hw1 : fl 2 = w) :
    MetFree l (⟨"com/example/sealed_paths/sealedpaths/core/Conditions", "branch", "(IIZ)I"⟩ : MethodName) (head1 (Jvm.Cond.code (⟨"com/example/sealed_paths/sealedpaths/core/Conditions", "branch", "(IIZ)I"⟩ : MethodName) prog_13_method_11_code 5 (some .int) :: ws) ({ frames := 0, cells := 0, slots := 0, locals := 0 } : Room)) (fun zA zU => zA = #[(.ref cn), (.int (2 : Int32)), (.int (0 : Int32)), (.int (0 : Int32))] ∧ Z.Warmed39 zU.vm ∧ zU.heap = h0) (fun _ _ _ _ _ => True) (fun _ zU zO zW => ∃ zV zL, zO = .returned zV ∧ QV (.int w) h0 n0 zV zW.heap zL ∧ FrameEnd zU zO zW zL ({ frames := 0, cells := 0, slots := 0, locals := 0 } : Room).cells ({ frames := 0, cells := 0, slots := 0, locals := 0 } : Room).slots) := by
  refine MetFree.of_bodySF (plainFor_of_name pn_Conditions) hisR ?_
  intro p e s m args below meth c s₁ Bd hml0 hP hK
  obtain ⟨rfl, hZ, hh⟩ := hP
  have hx := Bd.exec
  have hby := Bd.bytes
  have hml : c.maxLocals = 5 := hml0
  have hown : s.vm.findClass "com/example/sealed_paths/sealedpaths/core/Conditions" = some m.cls := findClass_of_methodNamed Bd.named
  have hnm := (name_of_methodNamed Bd.named Bd.method).1
  have X0 : Stand p l e ({ frames := 0, cells := 0, slots := 0, locals := 0 } : Room) s m #[(.ref cn), (.int (2 : Int32)), (.int (0 : Int32)), (.int (0 : Int32))] below meth c s₁ [] 0 0 := Stand.of_body Bd
  have e0 : s₁.heap = h0 := by rw [← hh, Bd.state]; rfl
  have N0 := Fr.nil n0
  have pre0 : ∀ zt, Steps p.tables e below (s₁.setTop (mkF m 0 #[.val (.ref cn), .val (.int (2 : Int32)), .val (.int (0 : Int32)), .val (.int (0 : Int32)), .unset] [])) zt → Steps p.tables e below (s₁.setTop (entryFrame m #[(.ref cn), (.int (2 : Int32)), (.int (0 : Int32)), (.int (0 : Int32))] 5)) zt := fun zt zk => castTop (ef_12_RIII m cn (2 : Int32) (0 : Int32) (0 : Int32)) zk
  obtain ⟨Ec, F_variables, F_lows, F_highs, F_table, F_cached, F_limit, F_size, F_vc, V_vs, V_lo, V_hi, V_tb, V_ca⟩ := hC
  obtain ⟨g_cn, g_vs, g_lo, g_hi, g_tb, g_ca, ne_cn_vs, ne_cn_lo, ne_cn_hi, ne_cn_tb, ne_cn_ca, ne_vs_lo, ne_vs_hi, ne_vs_tb, ne_vs_ca, ne_lo_hi, ne_lo_tb, ne_lo_ca, ne_hi_tb, ne_hi_ca, ne_tb_ca⟩ := hD
  obtain ⟨T433, X433, e433, st433⟩ := getF X0 hx hZ hown (host := "") (Or.inl (hw _ (List.mem_of_getElem? (i := 10) rfl))) Via.refl e0 F_variables (g := (mkF m 4 #[.val (.ref cn), .val (.int (2 : Int32)), .val (.int (0 : Int32)), .val (.int (0 : Int32)), .val (.int (2 : Int32))] [(.ref cn)])) rfl rfl (hb hby d12_4)
  obtain ⟨cl434, Ar434, Sz434, Hz434⟩ := id V_vs
  have hin434 := IA.inb (j := (2 : Int32)) (i := 2) Sz434 (by decide) (by decide) (by decide)
  have hat434 := IA.at (j := (2 : Int32)) (x := (0 : Int32)) Hz434 (by decide) (by decide) hv
  obtain ⟨T435, X435, e435, st435⟩ := getF X433 hx hZ hown (host := "") (Or.inl (hw _ (List.mem_of_getElem? (i := 12) rfl))) Via.refl e433 F_lows (g := (mkF m 27 #[.val (.ref cn), .val (.int (2 : Int32)), .val (.int (0 : Int32)), .val (.int (0 : Int32)), .val (.int (2 : Int32))] [(.ref cn)])) rfl rfl (hb hby d12_27)
  obtain ⟨cl436, Ar436, Sz436, Hz436⟩ := id V_lo
  have hin436 := IA.inb (j := (2 : Int32)) (i := 2) Sz436 (by decide) (by decide) (by decide)
  have hat436 := IA.at (j := (2 : Int32)) (x := w) Hz436 (by decide) (by decide) hw1
  obtain ⟨fs, hr, hrun, hended, hW, hsame⟩ := X435.leave (v := some (.int w)) (fun h => by rw [Bd.returns] at h; cases h)
  refine ⟨_, _, pre0 _ ?_, hrun, hended, _, _, rfl, ?_, ⟨_, rfl⟩, hW, hsame.mono (by decide) (by decide)⟩
  · show Steps p.tables e below (s₁.setTop (mkF m 0 #[.val (.ref cn), .val (.int (2 : Int32)), .val (.int (0 : Int32)), .val (.int (0 : Int32)), .unset] [])) _
    refine XS.iloadN X0.here hx rfl (hb hby d12_0) rfl ?_
    show Steps p.tables e below (s₁.setTop (mkF m 1 #[.val (.ref cn), .val (.int (2 : Int32)), .val (.int (0 : Int32)), .val (.int (0 : Int32)), .unset] [(.int (2 : Int32))])) _
    refine XS.istore X0.here hx rfl (hb hby d12_1) rfl (l' := #[.val (.ref cn), .val (.int (2 : Int32)), .val (.int (0 : Int32)), .val (.int (0 : Int32)), .val (.int (2 : Int32))]) rfl ?_
    show Steps p.tables e below (s₁.setTop (mkF m 3 #[.val (.ref cn), .val (.int (2 : Int32)), .val (.int (0 : Int32)), .val (.int (0 : Int32)), .val (.int (2 : Int32))] [])) _
    refine XS.aloadN X0.here hx rfl (hb hby d12_3) rfl rfl ?_
    show Steps p.tables e below (s₁.setTop (mkF m 4 #[.val (.ref cn), .val (.int (2 : Int32)), .val (.int (0 : Int32)), .val (.int (0 : Int32)), .val (.int (2 : Int32))] [(.ref cn)])) _
    refine st433 _ ?_
    show Steps p.tables e below (T433.setTop (mkF m 7 #[.val (.ref cn), .val (.int (2 : Int32)), .val (.int (0 : Int32)), .val (.int (0 : Int32)), .val (.int (2 : Int32))] [(.ref vs)])) _
    refine XS.iloadN X433.here hx rfl (hb hby d12_7) rfl ?_
    show Steps p.tables e below (T433.setTop (mkF m 8 #[.val (.ref cn), .val (.int (2 : Int32)), .val (.int (0 : Int32)), .val (.int (0 : Int32)), .val (.int (2 : Int32))] [(.int (2 : Int32)), (.ref vs)])) _
    refine X433.iaload hx (j := (2 : Int32)) (v := (.int (0 : Int32))) (by rw [e433]; exact Ar434.1) (State.isArrayOf_alike hZ.alike Ar434.2.1) Ar434.2.2 hin434 hat434 (g := (mkF m 8 #[.val (.ref cn), .val (.int (2 : Int32)), .val (.int (0 : Int32)), .val (.int (0 : Int32)), .val (.int (2 : Int32))] [(.int (2 : Int32)), (.ref vs)])) rfl rfl (hb hby d12_8) _ ?_
    show Steps p.tables e below (T433.setTop (mkF m 9 #[.val (.ref cn), .val (.int (2 : Int32)), .val (.int (0 : Int32)), .val (.int (0 : Int32)), .val (.int (2 : Int32))] [(.int (0 : Int32))])) _
    refine XS.iloadN X433.here hx rfl (hb hby d12_9) rfl ?_
    show Steps p.tables e below (T433.setTop (mkF m 10 #[.val (.ref cn), .val (.int (2 : Int32)), .val (.int (0 : Int32)), .val (.int (0 : Int32)), .val (.int (2 : Int32))] [(.int (0 : Int32)), (.int (0 : Int32))])) _
    refine XS.icmpNo X433.here hx rfl (hb hby d12_10) rfl (teq (by decide)).2 ?_
    show Steps p.tables e below (T433.setTop (mkF m 13 #[.val (.ref cn), .val (.int (2 : Int32)), .val (.int (0 : Int32)), .val (.int (0 : Int32)), .val (.int (2 : Int32))] [])) _
    refine XS.iloadN X433.here hx rfl (hb hby d12_13) rfl ?_
    show Steps p.tables e below (T433.setTop (mkF m 14 #[.val (.ref cn), .val (.int (2 : Int32)), .val (.int (0 : Int32)), .val (.int (0 : Int32)), .val (.int (2 : Int32))] [(.int (0 : Int32))])) _
    refine XS.ifYes X433.here hx rfl (pc0 := 14) (pc' := 26) rfl (hb hby d12_14) rfl ((if0 _ _).trans (teq (by decide)).1) (by decide) (by decide) ?_
    show Steps p.tables e below (T433.setTop (mkF m 26 #[.val (.ref cn), .val (.int (2 : Int32)), .val (.int (0 : Int32)), .val (.int (0 : Int32)), .val (.int (2 : Int32))] [])) _
    refine XS.aloadN X433.here hx rfl (hb hby d12_26) rfl rfl ?_
    show Steps p.tables e below (T433.setTop (mkF m 27 #[.val (.ref cn), .val (.int (2 : Int32)), .val (.int (0 : Int32)), .val (.int (0 : Int32)), .val (.int (2 : Int32))] [(.ref cn)])) _
    refine st435 _ ?_
    show Steps p.tables e below (T435.setTop (mkF m 30 #[.val (.ref cn), .val (.int (2 : Int32)), .val (.int (0 : Int32)), .val (.int (0 : Int32)), .val (.int (2 : Int32))] [(.ref lo)])) _
    refine XS.iloadN X435.here hx rfl (hb hby d12_30) rfl ?_
    show Steps p.tables e below (T435.setTop (mkF m 31 #[.val (.ref cn), .val (.int (2 : Int32)), .val (.int (0 : Int32)), .val (.int (0 : Int32)), .val (.int (2 : Int32))] [(.int (2 : Int32)), (.ref lo)])) _
    refine X435.iaload hx (j := (2 : Int32)) (v := (.int w)) (by rw [e435]; exact Ar436.1) (State.isArrayOf_alike hZ.alike Ar436.2.1) Ar436.2.2 hin436 hat436 (g := (mkF m 31 #[.val (.ref cn), .val (.int (2 : Int32)), .val (.int (0 : Int32)), .val (.int (0 : Int32)), .val (.int (2 : Int32))] [(.int (2 : Int32)), (.ref lo)])) rfl rfl (hb hby d12_31) _ ?_
    show Steps p.tables e below (T435.setTop (mkF m 32 #[.val (.ref cn), .val (.int (2 : Int32)), .val (.int (0 : Int32)), .val (.int (0 : Int32)), .val (.int (2 : Int32))] [(.int w)])) _
    refine XS.istore X435.here hx rfl (hb hby d12_32) rfl (l' := #[.val (.ref cn), .val (.int (2 : Int32)), .val (.int (0 : Int32)), .val (.int (0 : Int32)), .val (.int w)]) rfl ?_
    show Steps p.tables e below (T435.setTop (mkF m 34 #[.val (.ref cn), .val (.int (2 : Int32)), .val (.int (0 : Int32)), .val (.int (0 : Int32)), .val (.int w)] [])) _
    refine XS.iload X435.here hx rfl (hb hby d12_34) rfl ?_
    show Steps p.tables e below (T435.setTop (mkF m 36 #[.val (.ref cn), .val (.int (2 : Int32)), .val (.int (0 : Int32)), .val (.int (0 : Int32)), .val (.int w)] [(.int w)])) _
    exact retI X435 hx Bd.returns (hb hby d12_36) hr
  · show QV (.int w) h0 n0 _ T435.heap _
    rw [e435]
    exact ⟨rfl, N0, rfl⟩
theorem d12_17 : decode prog_13_method_11_code 17 = .ok (.aload_n 0, 1) := by decide +kernel
theorem d12_18 : decode prog_13_method_11_code 18 = .ok (.getfield 18, 3) := by decide +kernel
theorem d12_21 : decode prog_13_method_11_code 21 = .ok (.iload_n 1, 1) := by decide +kernel
theorem d12_22 : decode prog_13_method_11_code 22 = .ok (.iaload, 1) := by decide +kernel
theorem d12_23 : decode prog_13_method_11_code 23 = .ok (.goto 9, 3) := by decide +kernel
set_option maxRecDepth 65536 in
set_option maxHeartbeats 40000000 in
theorem rbr21 (l : Launch) (Z : State) (a0 : Array Value) (hw : ∀ d ∈ tables_1, d.before a0 Z = true) (ws : List Jvm.Cond) (cn vs lo hi tb ca : Addr) (sz vc w : Int32) (fv fl fh ft fc : Nat → Int32) (h0 : Heap) (n0 : Nat) (Z0 : n0 ≤ h0.size) (hC : CS Z h0 cn vs lo hi tb ca sz vc fv fl fh ft fc) (hD : DS n0 cn vs lo hi tb ca) (hv : fv 2 = (0 : Int32)) (hw1 : fh 2 = w) :
    MetFree l (⟨"com/example/sealed_paths/sealedpaths/core/Conditions", "branch", "(IIZ)I"⟩ : MethodName) (head1 (Jvm.Cond.code (⟨"com/example/sealed_paths/sealedpaths/core/Conditions", "branch", "(IIZ)I"⟩ : MethodName) prog_13_method_11_code 5 (some .int) :: ws) ({ frames := 0, cells := 0, slots := 0, locals := 0 } : Room)) (fun zA zU => zA = #[(.ref cn), (.int (2 : Int32)), (.int (0 : Int32)), (.int (1 : Int32))] ∧ Z.Warmed39 zU.vm ∧ zU.heap = h0) (fun _ _ _ _ _ => True) (fun _ zU zO zW => ∃ zV zL, zO = .returned zV ∧ QV (.int w) h0 n0 zV zW.heap zL ∧ FrameEnd zU zO zW zL ({ frames := 0, cells := 0, slots := 0, locals := 0 } : Room).cells ({ frames := 0, cells := 0, slots := 0, locals := 0 } : Room).slots) := by
  refine MetFree.of_bodySF (plainFor_of_name pn_Conditions) hisR ?_
  intro p e s m args below meth c s₁ Bd hml0 hP hK
  obtain ⟨rfl, hZ, hh⟩ := hP
  have hx := Bd.exec
  have hby := Bd.bytes
  have hml : c.maxLocals = 5 := hml0
  have hown : s.vm.findClass "com/example/sealed_paths/sealedpaths/core/Conditions" = some m.cls := findClass_of_methodNamed Bd.named
  have hnm := (name_of_methodNamed Bd.named Bd.method).1
  have X0 : Stand p l e ({ frames := 0, cells := 0, slots := 0, locals := 0 } : Room) s m #[(.ref cn), (.int (2 : Int32)), (.int (0 : Int32)), (.int (1 : Int32))] below meth c s₁ [] 0 0 := Stand.of_body Bd
  have e0 : s₁.heap = h0 := by rw [← hh, Bd.state]; rfl
  have N0 := Fr.nil n0
  have pre0 : ∀ zt, Steps p.tables e below (s₁.setTop (mkF m 0 #[.val (.ref cn), .val (.int (2 : Int32)), .val (.int (0 : Int32)), .val (.int (1 : Int32)), .unset] [])) zt → Steps p.tables e below (s₁.setTop (entryFrame m #[(.ref cn), (.int (2 : Int32)), (.int (0 : Int32)), (.int (1 : Int32))] 5)) zt := fun zt zk => castTop (ef_12_RIII m cn (2 : Int32) (0 : Int32) (1 : Int32)) zk
  obtain ⟨Ec, F_variables, F_lows, F_highs, F_table, F_cached, F_limit, F_size, F_vc, V_vs, V_lo, V_hi, V_tb, V_ca⟩ := hC
  obtain ⟨g_cn, g_vs, g_lo, g_hi, g_tb, g_ca, ne_cn_vs, ne_cn_lo, ne_cn_hi, ne_cn_tb, ne_cn_ca, ne_vs_lo, ne_vs_hi, ne_vs_tb, ne_vs_ca, ne_lo_hi, ne_lo_tb, ne_lo_ca, ne_hi_tb, ne_hi_ca, ne_tb_ca⟩ := hD
  obtain ⟨T437, X437, e437, st437⟩ := getF X0 hx hZ hown (host := "") (Or.inl (hw _ (List.mem_of_getElem? (i := 10) rfl))) Via.refl e0 F_variables (g := (mkF m 4 #[.val (.ref cn), .val (.int (2 : Int32)), .val (.int (0 : Int32)), .val (.int (1 : Int32)), .val (.int (2 : Int32))] [(.ref cn)])) rfl rfl (hb hby d12_4)
  obtain ⟨cl438, Ar438, Sz438, Hz438⟩ := id V_vs
  have hin438 := IA.inb (j := (2 : Int32)) (i := 2) Sz438 (by decide) (by decide) (by decide)
  have hat438 := IA.at (j := (2 : Int32)) (x := (0 : Int32)) Hz438 (by decide) (by decide) hv
  obtain ⟨T439, X439, e439, st439⟩ := getF X437 hx hZ hown (host := "") (Or.inl (hw _ (List.mem_of_getElem? (i := 14) rfl))) Via.refl e437 F_highs (g := (mkF m 18 #[.val (.ref cn), .val (.int (2 : Int32)), .val (.int (0 : Int32)), .val (.int (1 : Int32)), .val (.int (2 : Int32))] [(.ref cn)])) rfl rfl (hb hby d12_18)
  obtain ⟨cl440, Ar440, Sz440, Hz440⟩ := id V_hi
  have hin440 := IA.inb (j := (2 : Int32)) (i := 2) Sz440 (by decide) (by decide) (by decide)
  have hat440 := IA.at (j := (2 : Int32)) (x := w) Hz440 (by decide) (by decide) hw1
  obtain ⟨fs, hr, hrun, hended, hW, hsame⟩ := X439.leave (v := some (.int w)) (fun h => by rw [Bd.returns] at h; cases h)
  refine ⟨_, _, pre0 _ ?_, hrun, hended, _, _, rfl, ?_, ⟨_, rfl⟩, hW, hsame.mono (by decide) (by decide)⟩
  · show Steps p.tables e below (s₁.setTop (mkF m 0 #[.val (.ref cn), .val (.int (2 : Int32)), .val (.int (0 : Int32)), .val (.int (1 : Int32)), .unset] [])) _
    refine XS.iloadN X0.here hx rfl (hb hby d12_0) rfl ?_
    show Steps p.tables e below (s₁.setTop (mkF m 1 #[.val (.ref cn), .val (.int (2 : Int32)), .val (.int (0 : Int32)), .val (.int (1 : Int32)), .unset] [(.int (2 : Int32))])) _
    refine XS.istore X0.here hx rfl (hb hby d12_1) rfl (l' := #[.val (.ref cn), .val (.int (2 : Int32)), .val (.int (0 : Int32)), .val (.int (1 : Int32)), .val (.int (2 : Int32))]) rfl ?_
    show Steps p.tables e below (s₁.setTop (mkF m 3 #[.val (.ref cn), .val (.int (2 : Int32)), .val (.int (0 : Int32)), .val (.int (1 : Int32)), .val (.int (2 : Int32))] [])) _
    refine XS.aloadN X0.here hx rfl (hb hby d12_3) rfl rfl ?_
    show Steps p.tables e below (s₁.setTop (mkF m 4 #[.val (.ref cn), .val (.int (2 : Int32)), .val (.int (0 : Int32)), .val (.int (1 : Int32)), .val (.int (2 : Int32))] [(.ref cn)])) _
    refine st437 _ ?_
    show Steps p.tables e below (T437.setTop (mkF m 7 #[.val (.ref cn), .val (.int (2 : Int32)), .val (.int (0 : Int32)), .val (.int (1 : Int32)), .val (.int (2 : Int32))] [(.ref vs)])) _
    refine XS.iloadN X437.here hx rfl (hb hby d12_7) rfl ?_
    show Steps p.tables e below (T437.setTop (mkF m 8 #[.val (.ref cn), .val (.int (2 : Int32)), .val (.int (0 : Int32)), .val (.int (1 : Int32)), .val (.int (2 : Int32))] [(.int (2 : Int32)), (.ref vs)])) _
    refine X437.iaload hx (j := (2 : Int32)) (v := (.int (0 : Int32))) (by rw [e437]; exact Ar438.1) (State.isArrayOf_alike hZ.alike Ar438.2.1) Ar438.2.2 hin438 hat438 (g := (mkF m 8 #[.val (.ref cn), .val (.int (2 : Int32)), .val (.int (0 : Int32)), .val (.int (1 : Int32)), .val (.int (2 : Int32))] [(.int (2 : Int32)), (.ref vs)])) rfl rfl (hb hby d12_8) _ ?_
    show Steps p.tables e below (T437.setTop (mkF m 9 #[.val (.ref cn), .val (.int (2 : Int32)), .val (.int (0 : Int32)), .val (.int (1 : Int32)), .val (.int (2 : Int32))] [(.int (0 : Int32))])) _
    refine XS.iloadN X437.here hx rfl (hb hby d12_9) rfl ?_
    show Steps p.tables e below (T437.setTop (mkF m 10 #[.val (.ref cn), .val (.int (2 : Int32)), .val (.int (0 : Int32)), .val (.int (1 : Int32)), .val (.int (2 : Int32))] [(.int (0 : Int32)), (.int (0 : Int32))])) _
    refine XS.icmpNo X437.here hx rfl (hb hby d12_10) rfl (teq (by decide)).2 ?_
    show Steps p.tables e below (T437.setTop (mkF m 13 #[.val (.ref cn), .val (.int (2 : Int32)), .val (.int (0 : Int32)), .val (.int (1 : Int32)), .val (.int (2 : Int32))] [])) _
    refine XS.iloadN X437.here hx rfl (hb hby d12_13) rfl ?_
    show Steps p.tables e below (T437.setTop (mkF m 14 #[.val (.ref cn), .val (.int (2 : Int32)), .val (.int (0 : Int32)), .val (.int (1 : Int32)), .val (.int (2 : Int32))] [(.int (1 : Int32))])) _
    refine XS.ifNo X437.here hx rfl (hb hby d12_14) rfl ((if0 _ _).trans (feq (by decide)).1) ?_
    show Steps p.tables e below (T437.setTop (mkF m 17 #[.val (.ref cn), .val (.int (2 : Int32)), .val (.int (0 : Int32)), .val (.int (1 : Int32)), .val (.int (2 : Int32))] [])) _
    refine XS.aloadN X437.here hx rfl (hb hby d12_17) rfl rfl ?_
    show Steps p.tables e below (T437.setTop (mkF m 18 #[.val (.ref cn), .val (.int (2 : Int32)), .val (.int (0 : Int32)), .val (.int (1 : Int32)), .val (.int (2 : Int32))] [(.ref cn)])) _
    refine st439 _ ?_
    show Steps p.tables e below (T439.setTop (mkF m 21 #[.val (.ref cn), .val (.int (2 : Int32)), .val (.int (0 : Int32)), .val (.int (1 : Int32)), .val (.int (2 : Int32))] [(.ref hi)])) _
    refine XS.iloadN X439.here hx rfl (hb hby d12_21) rfl ?_
    show Steps p.tables e below (T439.setTop (mkF m 22 #[.val (.ref cn), .val (.int (2 : Int32)), .val (.int (0 : Int32)), .val (.int (1 : Int32)), .val (.int (2 : Int32))] [(.int (2 : Int32)), (.ref hi)])) _
    refine X439.iaload hx (j := (2 : Int32)) (v := (.int w)) (by rw [e439]; exact Ar440.1) (State.isArrayOf_alike hZ.alike Ar440.2.1) Ar440.2.2 hin440 hat440 (g := (mkF m 22 #[.val (.ref cn), .val (.int (2 : Int32)), .val (.int (0 : Int32)), .val (.int (1 : Int32)), .val (.int (2 : Int32))] [(.int (2 : Int32)), (.ref hi)])) rfl rfl (hb hby d12_22) _ ?_
    show Steps p.tables e below (T439.setTop (mkF m 23 #[.val (.ref cn), .val (.int (2 : Int32)), .val (.int (0 : Int32)), .val (.int (1 : Int32)), .val (.int (2 : Int32))] [(.int w)])) _
    refine XS.goto X439.here hx rfl (pc0 := 23) (pc' := 32) rfl (hb hby d12_23) (by decide) (by decide) ?_
    show Steps p.tables e below (T439.setTop (mkF m 32 #[.val (.ref cn), .val (.int (2 : Int32)), .val (.int (0 : Int32)), .val (.int (1 : Int32)), .val (.int (2 : Int32))] [(.int w)])) _
    refine XS.istore X439.here hx rfl (hb hby d12_32) rfl (l' := #[.val (.ref cn), .val (.int (2 : Int32)), .val (.int (0 : Int32)), .val (.int (1 : Int32)), .val (.int w)]) rfl ?_
    show Steps p.tables e below (T439.setTop (mkF m 34 #[.val (.ref cn), .val (.int (2 : Int32)), .val (.int (0 : Int32)), .val (.int (1 : Int32)), .val (.int w)] [])) _
    refine XS.iload X439.here hx rfl (hb hby d12_34) rfl ?_
    show Steps p.tables e below (T439.setTop (mkF m 36 #[.val (.ref cn), .val (.int (2 : Int32)), .val (.int (0 : Int32)), .val (.int (1 : Int32)), .val (.int w)] [(.int w)])) _
    exact retI X439 hx Bd.returns (hb hby d12_36) hr
  · show QV (.int w) h0 n0 _ T439.heap _
    rw [e439]
    exact ⟨rfl, N0, rfl⟩
set_option maxRecDepth 65536 in
set_option maxHeartbeats 40000000 in
theorem rbr30 (l : Launch) (Z : State) (a0 : Array Value) (hw : ∀ d ∈ tables_1, d.before a0 Z = true) (ws : List Jvm.Cond) (cn vs lo hi tb ca : Addr) (sz vc w : Int32) (fv fl fh ft fc : Nat → Int32) (h0 : Heap) (n0 : Nat) (Z0 : n0 ≤ h0.size) (hC : CS Z h0 cn vs lo hi tb ca sz vc fv fl fh ft fc) (hD : DS n0 cn vs lo hi tb ca) (hv : fv 3 = (0 : Int32)) (hw1 : fl 3 = w) :
    MetFree l (⟨"com/example/sealed_paths/sealedpaths/core/Conditions", "branch", "(IIZ)I"⟩ : MethodName) (head1 (Jvm.Cond.code (⟨"com/example/sealed_paths/sealedpaths/core/Conditions", "branch", "(IIZ)I"⟩ : MethodName) prog_13_method_11_code 5 (some .int) :: ws) ({ frames := 0, cells := 0, slots := 0, locals := 0 } : Room)) (fun zA zU => zA = #[(.ref cn), (.int (3 : Int32)), (.int (0 : Int32)), (.int (0 : Int32))] ∧ Z.Warmed39 zU.vm ∧ zU.heap = h0) (fun _ _ _ _ _ => True) (fun _ zU zO zW => ∃ zV zL, zO = .returned zV ∧ QV (.int w) h0 n0 zV zW.heap zL ∧ FrameEnd zU zO zW zL ({ frames := 0, cells := 0, slots := 0, locals := 0 } : Room).cells ({ frames := 0, cells := 0, slots := 0, locals := 0 } : Room).slots) := by
  refine MetFree.of_bodySF (plainFor_of_name pn_Conditions) hisR ?_
  intro p e s m args below meth c s₁ Bd hml0 hP hK
  obtain ⟨rfl, hZ, hh⟩ := hP
  have hx := Bd.exec
  have hby := Bd.bytes
  have hml : c.maxLocals = 5 := hml0
  have hown : s.vm.findClass "com/example/sealed_paths/sealedpaths/core/Conditions" = some m.cls := findClass_of_methodNamed Bd.named
  have hnm := (name_of_methodNamed Bd.named Bd.method).1
  have X0 : Stand p l e ({ frames := 0, cells := 0, slots := 0, locals := 0 } : Room) s m #[(.ref cn), (.int (3 : Int32)), (.int (0 : Int32)), (.int (0 : Int32))] below meth c s₁ [] 0 0 := Stand.of_body Bd
  have e0 : s₁.heap = h0 := by rw [← hh, Bd.state]; rfl
  have N0 := Fr.nil n0
  have pre0 : ∀ zt, Steps p.tables e below (s₁.setTop (mkF m 0 #[.val (.ref cn), .val (.int (3 : Int32)), .val (.int (0 : Int32)), .val (.int (0 : Int32)), .unset] [])) zt → Steps p.tables e below (s₁.setTop (entryFrame m #[(.ref cn), (.int (3 : Int32)), (.int (0 : Int32)), (.int (0 : Int32))] 5)) zt := fun zt zk => castTop (ef_12_RIII m cn (3 : Int32) (0 : Int32) (0 : Int32)) zk
  obtain ⟨Ec, F_variables, F_lows, F_highs, F_table, F_cached, F_limit, F_size, F_vc, V_vs, V_lo, V_hi, V_tb, V_ca⟩ := hC
  obtain ⟨g_cn, g_vs, g_lo, g_hi, g_tb, g_ca, ne_cn_vs, ne_cn_lo, ne_cn_hi, ne_cn_tb, ne_cn_ca, ne_vs_lo, ne_vs_hi, ne_vs_tb, ne_vs_ca, ne_lo_hi, ne_lo_tb, ne_lo_ca, ne_hi_tb, ne_hi_ca, ne_tb_ca⟩ := hD
  obtain ⟨T441, X441, e441, st441⟩ := getF X0 hx hZ hown (host := "") (Or.inl (hw _ (List.mem_of_getElem? (i := 10) rfl))) Via.refl e0 F_variables (g := (mkF m 4 #[.val (.ref cn), .val (.int (3 : Int32)), .val (.int (0 : Int32)), .val (.int (0 : Int32)), .val (.int (3 : Int32))] [(.ref cn)])) rfl rfl (hb hby d12_4)
  obtain ⟨cl442, Ar442, Sz442, Hz442⟩ := id V_vs
  have hin442 := IA.inb (j := (3 : Int32)) (i := 3) Sz442 (by decide) (by decide) (by decide)
  have hat442 := IA.at (j := (3 : Int32)) (x := (0 : Int32)) Hz442 (by decide) (by decide) hv
  obtain ⟨T443, X443, e443, st443⟩ := getF X441 hx hZ hown (host := "") (Or.inl (hw _ (List.mem_of_getElem? (i := 12) rfl))) Via.refl e441 F_lows (g := (mkF m 27 #[.val (.ref cn), .val (.int (3 : Int32)), .val (.int (0 : Int32)), .val (.int (0 : Int32)), .val (.int (3 : Int32))] [(.ref cn)])) rfl rfl (hb hby d12_27)
  obtain ⟨cl444, Ar444, Sz444, Hz444⟩ := id V_lo
  have hin444 := IA.inb (j := (3 : Int32)) (i := 3) Sz444 (by decide) (by decide) (by decide)
  have hat444 := IA.at (j := (3 : Int32)) (x := w) Hz444 (by decide) (by decide) hw1
  obtain ⟨fs, hr, hrun, hended, hW, hsame⟩ := X443.leave (v := some (.int w)) (fun h => by rw [Bd.returns] at h; cases h)
  refine ⟨_, _, pre0 _ ?_, hrun, hended, _, _, rfl, ?_, ⟨_, rfl⟩, hW, hsame.mono (by decide) (by decide)⟩
  · show Steps p.tables e below (s₁.setTop (mkF m 0 #[.val (.ref cn), .val (.int (3 : Int32)), .val (.int (0 : Int32)), .val (.int (0 : Int32)), .unset] [])) _
    refine XS.iloadN X0.here hx rfl (hb hby d12_0) rfl ?_
    show Steps p.tables e below (s₁.setTop (mkF m 1 #[.val (.ref cn), .val (.int (3 : Int32)), .val (.int (0 : Int32)), .val (.int (0 : Int32)), .unset] [(.int (3 : Int32))])) _
    refine XS.istore X0.here hx rfl (hb hby d12_1) rfl (l' := #[.val (.ref cn), .val (.int (3 : Int32)), .val (.int (0 : Int32)), .val (.int (0 : Int32)), .val (.int (3 : Int32))]) rfl ?_
    show Steps p.tables e below (s₁.setTop (mkF m 3 #[.val (.ref cn), .val (.int (3 : Int32)), .val (.int (0 : Int32)), .val (.int (0 : Int32)), .val (.int (3 : Int32))] [])) _
    refine XS.aloadN X0.here hx rfl (hb hby d12_3) rfl rfl ?_
    show Steps p.tables e below (s₁.setTop (mkF m 4 #[.val (.ref cn), .val (.int (3 : Int32)), .val (.int (0 : Int32)), .val (.int (0 : Int32)), .val (.int (3 : Int32))] [(.ref cn)])) _
    refine st441 _ ?_
    show Steps p.tables e below (T441.setTop (mkF m 7 #[.val (.ref cn), .val (.int (3 : Int32)), .val (.int (0 : Int32)), .val (.int (0 : Int32)), .val (.int (3 : Int32))] [(.ref vs)])) _
    refine XS.iloadN X441.here hx rfl (hb hby d12_7) rfl ?_
    show Steps p.tables e below (T441.setTop (mkF m 8 #[.val (.ref cn), .val (.int (3 : Int32)), .val (.int (0 : Int32)), .val (.int (0 : Int32)), .val (.int (3 : Int32))] [(.int (3 : Int32)), (.ref vs)])) _
    refine X441.iaload hx (j := (3 : Int32)) (v := (.int (0 : Int32))) (by rw [e441]; exact Ar442.1) (State.isArrayOf_alike hZ.alike Ar442.2.1) Ar442.2.2 hin442 hat442 (g := (mkF m 8 #[.val (.ref cn), .val (.int (3 : Int32)), .val (.int (0 : Int32)), .val (.int (0 : Int32)), .val (.int (3 : Int32))] [(.int (3 : Int32)), (.ref vs)])) rfl rfl (hb hby d12_8) _ ?_
    show Steps p.tables e below (T441.setTop (mkF m 9 #[.val (.ref cn), .val (.int (3 : Int32)), .val (.int (0 : Int32)), .val (.int (0 : Int32)), .val (.int (3 : Int32))] [(.int (0 : Int32))])) _
    refine XS.iloadN X441.here hx rfl (hb hby d12_9) rfl ?_
    show Steps p.tables e below (T441.setTop (mkF m 10 #[.val (.ref cn), .val (.int (3 : Int32)), .val (.int (0 : Int32)), .val (.int (0 : Int32)), .val (.int (3 : Int32))] [(.int (0 : Int32)), (.int (0 : Int32))])) _
    refine XS.icmpNo X441.here hx rfl (hb hby d12_10) rfl (teq (by decide)).2 ?_
    show Steps p.tables e below (T441.setTop (mkF m 13 #[.val (.ref cn), .val (.int (3 : Int32)), .val (.int (0 : Int32)), .val (.int (0 : Int32)), .val (.int (3 : Int32))] [])) _
    refine XS.iloadN X441.here hx rfl (hb hby d12_13) rfl ?_
    show Steps p.tables e below (T441.setTop (mkF m 14 #[.val (.ref cn), .val (.int (3 : Int32)), .val (.int (0 : Int32)), .val (.int (0 : Int32)), .val (.int (3 : Int32))] [(.int (0 : Int32))])) _
    refine XS.ifYes X441.here hx rfl (pc0 := 14) (pc' := 26) rfl (hb hby d12_14) rfl ((if0 _ _).trans (teq (by decide)).1) (by decide) (by decide) ?_
    show Steps p.tables e below (T441.setTop (mkF m 26 #[.val (.ref cn), .val (.int (3 : Int32)), .val (.int (0 : Int32)), .val (.int (0 : Int32)), .val (.int (3 : Int32))] [])) _
    refine XS.aloadN X441.here hx rfl (hb hby d12_26) rfl rfl ?_
    show Steps p.tables e below (T441.setTop (mkF m 27 #[.val (.ref cn), .val (.int (3 : Int32)), .val (.int (0 : Int32)), .val (.int (0 : Int32)), .val (.int (3 : Int32))] [(.ref cn)])) _
    refine st443 _ ?_
    show Steps p.tables e below (T443.setTop (mkF m 30 #[.val (.ref cn), .val (.int (3 : Int32)), .val (.int (0 : Int32)), .val (.int (0 : Int32)), .val (.int (3 : Int32))] [(.ref lo)])) _
    refine XS.iloadN X443.here hx rfl (hb hby d12_30) rfl ?_
    show Steps p.tables e below (T443.setTop (mkF m 31 #[.val (.ref cn), .val (.int (3 : Int32)), .val (.int (0 : Int32)), .val (.int (0 : Int32)), .val (.int (3 : Int32))] [(.int (3 : Int32)), (.ref lo)])) _
    refine X443.iaload hx (j := (3 : Int32)) (v := (.int w)) (by rw [e443]; exact Ar444.1) (State.isArrayOf_alike hZ.alike Ar444.2.1) Ar444.2.2 hin444 hat444 (g := (mkF m 31 #[.val (.ref cn), .val (.int (3 : Int32)), .val (.int (0 : Int32)), .val (.int (0 : Int32)), .val (.int (3 : Int32))] [(.int (3 : Int32)), (.ref lo)])) rfl rfl (hb hby d12_31) _ ?_
    show Steps p.tables e below (T443.setTop (mkF m 32 #[.val (.ref cn), .val (.int (3 : Int32)), .val (.int (0 : Int32)), .val (.int (0 : Int32)), .val (.int (3 : Int32))] [(.int w)])) _
    refine XS.istore X443.here hx rfl (hb hby d12_32) rfl (l' := #[.val (.ref cn), .val (.int (3 : Int32)), .val (.int (0 : Int32)), .val (.int (0 : Int32)), .val (.int w)]) rfl ?_
    show Steps p.tables e below (T443.setTop (mkF m 34 #[.val (.ref cn), .val (.int (3 : Int32)), .val (.int (0 : Int32)), .val (.int (0 : Int32)), .val (.int w)] [])) _
    refine XS.iload X443.here hx rfl (hb hby d12_34) rfl ?_
    show Steps p.tables e below (T443.setTop (mkF m 36 #[.val (.ref cn), .val (.int (3 : Int32)), .val (.int (0 : Int32)), .val (.int (0 : Int32)), .val (.int w)] [(.int w)])) _
    exact retI X443 hx Bd.returns (hb hby d12_36) hr
  · show QV (.int w) h0 n0 _ T443.heap _
    rw [e443]
    exact ⟨rfl, N0, rfl⟩
set_option maxRecDepth 65536 in
set_option maxHeartbeats 40000000 in
theorem rbr31 (l : Launch) (Z : State) (a0 : Array Value) (hw : ∀ d ∈ tables_1, d.before a0 Z = true) (ws : List Jvm.Cond) (cn vs lo hi tb ca : Addr) (sz vc w : Int32) (fv fl fh ft fc : Nat → Int32) (h0 : Heap) (n0 : Nat) (Z0 : n0 ≤ h0.size) (hC : CS Z h0 cn vs lo hi tb ca sz vc fv fl fh ft fc) (hD : DS n0 cn vs lo hi tb ca) (hv : fv 3 = (0 : Int32)) (hw1 : fh 3 = w) :
    MetFree l (⟨"com/example/sealed_paths/sealedpaths/core/Conditions", "branch", "(IIZ)I"⟩ : MethodName) (head1 (Jvm.Cond.code (⟨"com/example/sealed_paths/sealedpaths/core/Conditions", "branch", "(IIZ)I"⟩ : MethodName) prog_13_method_11_code 5 (some .int) :: ws) ({ frames := 0, cells := 0, slots := 0, locals := 0 } : Room)) (fun zA zU => zA = #[(.ref cn), (.int (3 : Int32)), (.int (0 : Int32)), (.int (1 : Int32))] ∧ Z.Warmed39 zU.vm ∧ zU.heap = h0) (fun _ _ _ _ _ => True) (fun _ zU zO zW => ∃ zV zL, zO = .returned zV ∧ QV (.int w) h0 n0 zV zW.heap zL ∧ FrameEnd zU zO zW zL ({ frames := 0, cells := 0, slots := 0, locals := 0 } : Room).cells ({ frames := 0, cells := 0, slots := 0, locals := 0 } : Room).slots) := by
  refine MetFree.of_bodySF (plainFor_of_name pn_Conditions) hisR ?_
  intro p e s m args below meth c s₁ Bd hml0 hP hK
  obtain ⟨rfl, hZ, hh⟩ := hP
  have hx := Bd.exec
  have hby := Bd.bytes
  have hml : c.maxLocals = 5 := hml0
  have hown : s.vm.findClass "com/example/sealed_paths/sealedpaths/core/Conditions" = some m.cls := findClass_of_methodNamed Bd.named
  have hnm := (name_of_methodNamed Bd.named Bd.method).1
  have X0 : Stand p l e ({ frames := 0, cells := 0, slots := 0, locals := 0 } : Room) s m #[(.ref cn), (.int (3 : Int32)), (.int (0 : Int32)), (.int (1 : Int32))] below meth c s₁ [] 0 0 := Stand.of_body Bd
  have e0 : s₁.heap = h0 := by rw [← hh, Bd.state]; rfl
  have N0 := Fr.nil n0
  have pre0 : ∀ zt, Steps p.tables e below (s₁.setTop (mkF m 0 #[.val (.ref cn), .val (.int (3 : Int32)), .val (.int (0 : Int32)), .val (.int (1 : Int32)), .unset] [])) zt → Steps p.tables e below (s₁.setTop (entryFrame m #[(.ref cn), (.int (3 : Int32)), (.int (0 : Int32)), (.int (1 : Int32))] 5)) zt := fun zt zk => castTop (ef_12_RIII m cn (3 : Int32) (0 : Int32) (1 : Int32)) zk
  obtain ⟨Ec, F_variables, F_lows, F_highs, F_table, F_cached, F_limit, F_size, F_vc, V_vs, V_lo, V_hi, V_tb, V_ca⟩ := hC
  obtain ⟨g_cn, g_vs, g_lo, g_hi, g_tb, g_ca, ne_cn_vs, ne_cn_lo, ne_cn_hi, ne_cn_tb, ne_cn_ca, ne_vs_lo, ne_vs_hi, ne_vs_tb, ne_vs_ca, ne_lo_hi, ne_lo_tb, ne_lo_ca, ne_hi_tb, ne_hi_ca, ne_tb_ca⟩ := hD
  obtain ⟨T445, X445, e445, st445⟩ := getF X0 hx hZ hown (host := "") (Or.inl (hw _ (List.mem_of_getElem? (i := 10) rfl))) Via.refl e0 F_variables (g := (mkF m 4 #[.val (.ref cn), .val (.int (3 : Int32)), .val (.int (0 : Int32)), .val (.int (1 : Int32)), .val (.int (3 : Int32))] [(.ref cn)])) rfl rfl (hb hby d12_4)
  obtain ⟨cl446, Ar446, Sz446, Hz446⟩ := id V_vs
  have hin446 := IA.inb (j := (3 : Int32)) (i := 3) Sz446 (by decide) (by decide) (by decide)
  have hat446 := IA.at (j := (3 : Int32)) (x := (0 : Int32)) Hz446 (by decide) (by decide) hv
  obtain ⟨T447, X447, e447, st447⟩ := getF X445 hx hZ hown (host := "") (Or.inl (hw _ (List.mem_of_getElem? (i := 14) rfl))) Via.refl e445 F_highs (g := (mkF m 18 #[.val (.ref cn), .val (.int (3 : Int32)), .val (.int (0 : Int32)), .val (.int (1 : Int32)), .val (.int (3 : Int32))] [(.ref cn)])) rfl rfl (hb hby d12_18)
  obtain ⟨cl448, Ar448, Sz448, Hz448⟩ := id V_hi
  have hin448 := IA.inb (j := (3 : Int32)) (i := 3) Sz448 (by decide) (by decide) (by decide)
  have hat448 := IA.at (j := (3 : Int32)) (x := w) Hz448 (by decide) (by decide) hw1
  obtain ⟨fs, hr, hrun, hended, hW, hsame⟩ := X447.leave (v := some (.int w)) (fun h => by rw [Bd.returns] at h; cases h)
  refine ⟨_, _, pre0 _ ?_, hrun, hended, _, _, rfl, ?_, ⟨_, rfl⟩, hW, hsame.mono (by decide) (by decide)⟩
  · show Steps p.tables e below (s₁.setTop (mkF m 0 #[.val (.ref cn), .val (.int (3 : Int32)), .val (.int (0 : Int32)), .val (.int (1 : Int32)), .unset] [])) _
    refine XS.iloadN X0.here hx rfl (hb hby d12_0) rfl ?_
    show Steps p.tables e below (s₁.setTop (mkF m 1 #[.val (.ref cn), .val (.int (3 : Int32)), .val (.int (0 : Int32)), .val (.int (1 : Int32)), .unset] [(.int (3 : Int32))])) _
    refine XS.istore X0.here hx rfl (hb hby d12_1) rfl (l' := #[.val (.ref cn), .val (.int (3 : Int32)), .val (.int (0 : Int32)), .val (.int (1 : Int32)), .val (.int (3 : Int32))]) rfl ?_
    show Steps p.tables e below (s₁.setTop (mkF m 3 #[.val (.ref cn), .val (.int (3 : Int32)), .val (.int (0 : Int32)), .val (.int (1 : Int32)), .val (.int (3 : Int32))] [])) _
    refine XS.aloadN X0.here hx rfl (hb hby d12_3) rfl rfl ?_
    show Steps p.tables e below (s₁.setTop (mkF m 4 #[.val (.ref cn), .val (.int (3 : Int32)), .val (.int (0 : Int32)), .val (.int (1 : Int32)), .val (.int (3 : Int32))] [(.ref cn)])) _
    refine st445 _ ?_
    show Steps p.tables e below (T445.setTop (mkF m 7 #[.val (.ref cn), .val (.int (3 : Int32)), .val (.int (0 : Int32)), .val (.int (1 : Int32)), .val (.int (3 : Int32))] [(.ref vs)])) _
    refine XS.iloadN X445.here hx rfl (hb hby d12_7) rfl ?_
    show Steps p.tables e below (T445.setTop (mkF m 8 #[.val (.ref cn), .val (.int (3 : Int32)), .val (.int (0 : Int32)), .val (.int (1 : Int32)), .val (.int (3 : Int32))] [(.int (3 : Int32)), (.ref vs)])) _
    refine X445.iaload hx (j := (3 : Int32)) (v := (.int (0 : Int32))) (by rw [e445]; exact Ar446.1) (State.isArrayOf_alike hZ.alike Ar446.2.1) Ar446.2.2 hin446 hat446 (g := (mkF m 8 #[.val (.ref cn), .val (.int (3 : Int32)), .val (.int (0 : Int32)), .val (.int (1 : Int32)), .val (.int (3 : Int32))] [(.int (3 : Int32)), (.ref vs)])) rfl rfl (hb hby d12_8) _ ?_
    show Steps p.tables e below (T445.setTop (mkF m 9 #[.val (.ref cn), .val (.int (3 : Int32)), .val (.int (0 : Int32)), .val (.int (1 : Int32)), .val (.int (3 : Int32))] [(.int (0 : Int32))])) _
    refine XS.iloadN X445.here hx rfl (hb hby d12_9) rfl ?_
    show Steps p.tables e below (T445.setTop (mkF m 10 #[.val (.ref cn), .val (.int (3 : Int32)), .val (.int (0 : Int32)), .val (.int (1 : Int32)), .val (.int (3 : Int32))] [(.int (0 : Int32)), (.int (0 : Int32))])) _
    refine XS.icmpNo X445.here hx rfl (hb hby d12_10) rfl (teq (by decide)).2 ?_
    show Steps p.tables e below (T445.setTop (mkF m 13 #[.val (.ref cn), .val (.int (3 : Int32)), .val (.int (0 : Int32)), .val (.int (1 : Int32)), .val (.int (3 : Int32))] [])) _
    refine XS.iloadN X445.here hx rfl (hb hby d12_13) rfl ?_
    show Steps p.tables e below (T445.setTop (mkF m 14 #[.val (.ref cn), .val (.int (3 : Int32)), .val (.int (0 : Int32)), .val (.int (1 : Int32)), .val (.int (3 : Int32))] [(.int (1 : Int32))])) _
    refine XS.ifNo X445.here hx rfl (hb hby d12_14) rfl ((if0 _ _).trans (feq (by decide)).1) ?_
    show Steps p.tables e below (T445.setTop (mkF m 17 #[.val (.ref cn), .val (.int (3 : Int32)), .val (.int (0 : Int32)), .val (.int (1 : Int32)), .val (.int (3 : Int32))] [])) _
    refine XS.aloadN X445.here hx rfl (hb hby d12_17) rfl rfl ?_
    show Steps p.tables e below (T445.setTop (mkF m 18 #[.val (.ref cn), .val (.int (3 : Int32)), .val (.int (0 : Int32)), .val (.int (1 : Int32)), .val (.int (3 : Int32))] [(.ref cn)])) _
    refine st447 _ ?_
    show Steps p.tables e below (T447.setTop (mkF m 21 #[.val (.ref cn), .val (.int (3 : Int32)), .val (.int (0 : Int32)), .val (.int (1 : Int32)), .val (.int (3 : Int32))] [(.ref hi)])) _
    refine XS.iloadN X447.here hx rfl (hb hby d12_21) rfl ?_
    show Steps p.tables e below (T447.setTop (mkF m 22 #[.val (.ref cn), .val (.int (3 : Int32)), .val (.int (0 : Int32)), .val (.int (1 : Int32)), .val (.int (3 : Int32))] [(.int (3 : Int32)), (.ref hi)])) _
    refine X447.iaload hx (j := (3 : Int32)) (v := (.int w)) (by rw [e447]; exact Ar448.1) (State.isArrayOf_alike hZ.alike Ar448.2.1) Ar448.2.2 hin448 hat448 (g := (mkF m 22 #[.val (.ref cn), .val (.int (3 : Int32)), .val (.int (0 : Int32)), .val (.int (1 : Int32)), .val (.int (3 : Int32))] [(.int (3 : Int32)), (.ref hi)])) rfl rfl (hb hby d12_22) _ ?_
    show Steps p.tables e below (T447.setTop (mkF m 23 #[.val (.ref cn), .val (.int (3 : Int32)), .val (.int (0 : Int32)), .val (.int (1 : Int32)), .val (.int (3 : Int32))] [(.int w)])) _
    refine XS.goto X447.here hx rfl (pc0 := 23) (pc' := 32) rfl (hb hby d12_23) (by decide) (by decide) ?_
    show Steps p.tables e below (T447.setTop (mkF m 32 #[.val (.ref cn), .val (.int (3 : Int32)), .val (.int (0 : Int32)), .val (.int (1 : Int32)), .val (.int (3 : Int32))] [(.int w)])) _
    refine XS.istore X447.here hx rfl (hb hby d12_32) rfl (l' := #[.val (.ref cn), .val (.int (3 : Int32)), .val (.int (0 : Int32)), .val (.int (1 : Int32)), .val (.int w)]) rfl ?_
    show Steps p.tables e below (T447.setTop (mkF m 34 #[.val (.ref cn), .val (.int (3 : Int32)), .val (.int (0 : Int32)), .val (.int (1 : Int32)), .val (.int w)] [])) _
    refine XS.iload X447.here hx rfl (hb hby d12_34) rfl ?_
    show Steps p.tables e below (T447.setTop (mkF m 36 #[.val (.ref cn), .val (.int (3 : Int32)), .val (.int (0 : Int32)), .val (.int (1 : Int32)), .val (.int w)] [(.int w)])) _
    exact retI X447 hx Bd.returns (hb hby d12_36) hr
  · show QV (.int w) h0 n0 _ T447.heap _
    rw [e447]
    exact ⟨rfl, N0, rfl⟩
theorem d8_19 : decode prog_13_method_9_code 19 = .ok (.iload_n 1, 1) := by decide +kernel
theorem d8_20 : decode prog_13_method_9_code 20 = .ok (.iconst 3, 1) := by decide +kernel
theorem d8_21 : decode prog_13_method_9_code 21 = .ok (.if_icmp .ne 7, 3) := by decide +kernel
theorem d8_24 : decode prog_13_method_9_code 24 = .ok (.iload_n 2, 1) := by decide +kernel
theorem d8_25 : decode prog_13_method_9_code 25 = .ok (.goto 8, 3) := by decide +kernel
theorem d8_33 : decode prog_13_method_9_code 33 = .ok (.istore 5, 2) := by decide +kernel
theorem d8_35 : decode prog_13_method_9_code 35 = .ok (.iload_n 1, 1) := by decide +kernel
theorem d8_36 : decode prog_13_method_9_code 36 = .ok (.iconst 3, 1) := by decide +kernel
theorem d8_37 : decode prog_13_method_9_code 37 = .ok (.if_icmp .ne 7, 3) := by decide +kernel
theorem d8_40 : decode prog_13_method_9_code 40 = .ok (.iload_n 2, 1) := by decide +kernel
theorem d8_41 : decode prog_13_method_9_code 41 = .ok (.goto 8, 3) := by decide +kernel
theorem d8_49 : decode prog_13_method_9_code 49 = .ok (.istore 6, 2) := by decide +kernel
theorem d8_51 : decode prog_13_method_9_code 51 = .ok (.iload_n 1, 1) := by decide +kernel
theorem d8_52 : decode prog_13_method_9_code 52 = .ok (.bipush 31, 2) := by decide +kernel
theorem d8_54 : decode prog_13_method_9_code 54 = .ok (.imul, 1) := by decide +kernel
theorem d8_55 : decode prog_13_method_9_code 55 = .ok (.iload 5, 2) := by decide +kernel
theorem d8_57 : decode prog_13_method_9_code 57 = .ok (.iadd, 1) := by decide +kernel
theorem d8_58 : decode prog_13_method_9_code 58 = .ok (.ldc 77, 2) := by decide +kernel
theorem d8_60 : decode prog_13_method_9_code 60 = .ok (.imul, 1) := by decide +kernel
theorem d8_61 : decode prog_13_method_9_code 61 = .ok (.iload 6, 2) := by decide +kernel
theorem d8_63 : decode prog_13_method_9_code 63 = .ok (.iadd, 1) := by decide +kernel
theorem d8_64 : decode prog_13_method_9_code 64 = .ok (.ldc 78, 2) := by decide +kernel
theorem d8_66 : decode prog_13_method_9_code 66 = .ok (.imul, 1) := by decide +kernel
theorem d8_67 : decode prog_13_method_9_code 67 = .ok (.iconst 1, 1) := by decide +kernel
theorem d8_68 : decode prog_13_method_9_code 68 = .ok (.iushr, 1) := by decide +kernel
theorem d8_69 : decode prog_13_method_9_code 69 = .ok (.aload_n 0, 1) := by decide +kernel
theorem d8_70 : decode prog_13_method_9_code 70 = .ok (.getfield 24, 3) := by decide +kernel
theorem d8_73 : decode prog_13_method_9_code 73 = .ok (.arraylength, 1) := by decide +kernel
theorem d8_74 : decode prog_13_method_9_code 74 = .ok (.iconst 4, 1) := by decide +kernel
theorem d8_75 : decode prog_13_method_9_code 75 = .ok (.idiv, 1) := by decide +kernel
theorem d8_76 : decode prog_13_method_9_code 76 = .ok (.iconst 1, 1) := by decide +kernel
theorem d8_77 : decode prog_13_method_9_code 77 = .ok (.isub, 1) := by decide +kernel
theorem d8_78 : decode prog_13_method_9_code 78 = .ok (.iand, 1) := by decide +kernel
theorem d8_79 : decode prog_13_method_9_code 79 = .ok (.istore 7, 2) := by decide +kernel
theorem d8_81 : decode prog_13_method_9_code 81 = .ok (.aload_n 0, 1) := by decide +kernel
theorem d8_82 : decode prog_13_method_9_code 82 = .ok (.getfield 24, 3) := by decide +kernel
theorem d8_85 : decode prog_13_method_9_code 85 = .ok (.iconst 4, 1) := by decide +kernel
theorem d8_86 : decode prog_13_method_9_code 86 = .ok (.iload 7, 2) := by decide +kernel
theorem d8_88 : decode prog_13_method_9_code 88 = .ok (.imul, 1) := by decide +kernel
theorem d8_89 : decode prog_13_method_9_code 89 = .ok (.iaload, 1) := by decide +kernel
theorem d8_90 : decode prog_13_method_9_code 90 = .ok (.iload_n 1, 1) := by decide +kernel
theorem d8_91 : decode prog_13_method_9_code 91 = .ok (.if_icmp .ne 47, 3) := by decide +kernel
theorem d8_138 : decode prog_13_method_9_code 138 = .ok (.aload_n 0, 1) := by decide +kernel
theorem d8_139 : decode prog_13_method_9_code 139 = .ok (.getfield 9, 3) := by decide +kernel
theorem d8_142 : decode prog_13_method_9_code 142 = .ok (.iload 5, 2) := by decide +kernel
theorem d8_144 : decode prog_13_method_9_code 144 = .ok (.iaload, 1) := by decide +kernel
theorem d8_145 : decode prog_13_method_9_code 145 = .ok (.aload_n 0, 1) := by decide +kernel
theorem d8_146 : decode prog_13_method_9_code 146 = .ok (.getfield 9, 3) := by decide +kernel
theorem d8_149 : decode prog_13_method_9_code 149 = .ok (.iload 6, 2) := by decide +kernel
theorem d8_151 : decode prog_13_method_9_code 151 = .ok (.iaload, 1) := by decide +kernel
theorem d8_152 : decode prog_13_method_9_code 152 = .ok (.invokestatic 68, 3) := by decide +kernel
theorem pd_6 : parseMethodDescriptor "(II)I" = some ⟨[.int, .int], some .int⟩ := by decide +kernel
theorem d8_155 : decode prog_13_method_9_code 155 = .ok (.istore 8, 2) := by decide +kernel
theorem d8_157 : decode prog_13_method_9_code 157 = .ok (.aload_n 0, 1) := by decide +kernel
theorem d8_158 : decode prog_13_method_9_code 158 = .ok (.iload_n 1, 1) := by decide +kernel
theorem d8_159 : decode prog_13_method_9_code 159 = .ok (.aload_n 0, 1) := by decide +kernel
theorem d8_160 : decode prog_13_method_9_code 160 = .ok (.iload 5, 2) := by decide +kernel
theorem d8_162 : decode prog_13_method_9_code 162 = .ok (.iload 8, 2) := by decide +kernel
theorem d8_164 : decode prog_13_method_9_code 164 = .ok (.iconst 0, 1) := by decide +kernel
theorem d8_165 : decode prog_13_method_9_code 165 = .ok (.invokevirtual 79, 3) := by decide +kernel
theorem pd_7 : parseMethodDescriptor "(IIZ)I" = some ⟨[.int, .int, .boolean], some .int⟩ := by decide +kernel
theorem d8_168 : decode prog_13_method_9_code 168 = .ok (.aload_n 0, 1) := by decide +kernel
theorem d8_169 : decode prog_13_method_9_code 169 = .ok (.iload 6, 2) := by decide +kernel
theorem d8_171 : decode prog_13_method_9_code 171 = .ok (.iload 8, 2) := by decide +kernel
theorem d8_173 : decode prog_13_method_9_code 173 = .ok (.iconst 0, 1) := by decide +kernel
theorem d8_174 : decode prog_13_method_9_code 174 = .ok (.invokevirtual 79, 3) := by decide +kernel
theorem d8_177 : decode prog_13_method_9_code 177 = .ok (.invokevirtual 48, 3) := by decide +kernel
theorem d8_180 : decode prog_13_method_9_code 180 = .ok (.istore 9, 2) := by decide +kernel
theorem d8_182 : decode prog_13_method_9_code 182 = .ok (.aload_n 0, 1) := by decide +kernel
theorem d8_183 : decode prog_13_method_9_code 183 = .ok (.iload_n 1, 1) := by decide +kernel
theorem d8_184 : decode prog_13_method_9_code 184 = .ok (.aload_n 0, 1) := by decide +kernel
theorem d8_185 : decode prog_13_method_9_code 185 = .ok (.iload 5, 2) := by decide +kernel
theorem d8_187 : decode prog_13_method_9_code 187 = .ok (.iload 8, 2) := by decide +kernel
theorem d8_189 : decode prog_13_method_9_code 189 = .ok (.iconst 1, 1) := by decide +kernel
theorem d8_190 : decode prog_13_method_9_code 190 = .ok (.invokevirtual 79, 3) := by decide +kernel
theorem d8_193 : decode prog_13_method_9_code 193 = .ok (.aload_n 0, 1) := by decide +kernel
theorem d8_194 : decode prog_13_method_9_code 194 = .ok (.iload 6, 2) := by decide +kernel
theorem d8_196 : decode prog_13_method_9_code 196 = .ok (.iload 8, 2) := by decide +kernel
theorem d8_198 : decode prog_13_method_9_code 198 = .ok (.iconst 1, 1) := by decide +kernel
theorem d8_199 : decode prog_13_method_9_code 199 = .ok (.invokevirtual 79, 3) := by decide +kernel
theorem d8_202 : decode prog_13_method_9_code 202 = .ok (.invokevirtual 48, 3) := by decide +kernel
theorem d8_205 : decode prog_13_method_9_code 205 = .ok (.istore 10, 2) := by decide +kernel
theorem d8_207 : decode prog_13_method_9_code 207 = .ok (.aload_n 0, 1) := by decide +kernel
theorem d8_208 : decode prog_13_method_9_code 208 = .ok (.iload 8, 2) := by decide +kernel
theorem d8_210 : decode prog_13_method_9_code 210 = .ok (.iload 9, 2) := by decide +kernel
theorem d8_212 : decode prog_13_method_9_code 212 = .ok (.iload 10, 2) := by decide +kernel
theorem d8_214 : decode prog_13_method_9_code 214 = .ok (.invokevirtual 44, 3) := by decide +kernel
theorem d8_217 : decode prog_13_method_9_code 217 = .ok (.istore 11, 2) := by decide +kernel
theorem d8_219 : decode prog_13_method_9_code 219 = .ok (.iload_n 1, 1) := by decide +kernel
theorem d8_220 : decode prog_13_method_9_code 220 = .ok (.bipush 31, 2) := by decide +kernel
theorem d8_222 : decode prog_13_method_9_code 222 = .ok (.imul, 1) := by decide +kernel
theorem d8_223 : decode prog_13_method_9_code 223 = .ok (.iload 5, 2) := by decide +kernel
theorem d8_225 : decode prog_13_method_9_code 225 = .ok (.iadd, 1) := by decide +kernel
theorem d8_226 : decode prog_13_method_9_code 226 = .ok (.ldc 77, 2) := by decide +kernel
theorem d8_228 : decode prog_13_method_9_code 228 = .ok (.imul, 1) := by decide +kernel
theorem d8_229 : decode prog_13_method_9_code 229 = .ok (.iload 6, 2) := by decide +kernel
theorem d8_231 : decode prog_13_method_9_code 231 = .ok (.iadd, 1) := by decide +kernel
theorem d8_232 : decode prog_13_method_9_code 232 = .ok (.ldc 78, 2) := by decide +kernel
theorem d8_234 : decode prog_13_method_9_code 234 = .ok (.imul, 1) := by decide +kernel
theorem d8_235 : decode prog_13_method_9_code 235 = .ok (.iconst 1, 1) := by decide +kernel
theorem d8_236 : decode prog_13_method_9_code 236 = .ok (.iushr, 1) := by decide +kernel
theorem d8_237 : decode prog_13_method_9_code 237 = .ok (.aload_n 0, 1) := by decide +kernel
theorem d8_238 : decode prog_13_method_9_code 238 = .ok (.getfield 24, 3) := by decide +kernel
theorem d8_241 : decode prog_13_method_9_code 241 = .ok (.arraylength, 1) := by decide +kernel
theorem d8_242 : decode prog_13_method_9_code 242 = .ok (.iconst 4, 1) := by decide +kernel
theorem d8_243 : decode prog_13_method_9_code 243 = .ok (.idiv, 1) := by decide +kernel
theorem d8_244 : decode prog_13_method_9_code 244 = .ok (.iconst 1, 1) := by decide +kernel
theorem d8_245 : decode prog_13_method_9_code 245 = .ok (.isub, 1) := by decide +kernel
theorem d8_246 : decode prog_13_method_9_code 246 = .ok (.iand, 1) := by decide +kernel
theorem d8_247 : decode prog_13_method_9_code 247 = .ok (.istore 7, 2) := by decide +kernel
theorem d8_249 : decode prog_13_method_9_code 249 = .ok (.aload_n 0, 1) := by decide +kernel
theorem d8_250 : decode prog_13_method_9_code 250 = .ok (.getfield 24, 3) := by decide +kernel
theorem d8_253 : decode prog_13_method_9_code 253 = .ok (.iconst 4, 1) := by decide +kernel
theorem d8_254 : decode prog_13_method_9_code 254 = .ok (.iload 7, 2) := by decide +kernel
theorem d8_256 : decode prog_13_method_9_code 256 = .ok (.imul, 1) := by decide +kernel
theorem d8_257 : decode prog_13_method_9_code 257 = .ok (.iload_n 1, 1) := by decide +kernel
theorem d8_258 : decode prog_13_method_9_code 258 = .ok (.iastore, 1) := by decide +kernel
theorem d8_259 : decode prog_13_method_9_code 259 = .ok (.aload_n 0, 1) := by decide +kernel
theorem d8_260 : decode prog_13_method_9_code 260 = .ok (.getfield 24, 3) := by decide +kernel
theorem d8_263 : decode prog_13_method_9_code 263 = .ok (.iconst 4, 1) := by decide +kernel
theorem d8_264 : decode prog_13_method_9_code 264 = .ok (.iload 7, 2) := by decide +kernel
theorem d8_266 : decode prog_13_method_9_code 266 = .ok (.imul, 1) := by decide +kernel
theorem d8_267 : decode prog_13_method_9_code 267 = .ok (.iconst 1, 1) := by decide +kernel
theorem d8_268 : decode prog_13_method_9_code 268 = .ok (.iadd, 1) := by decide +kernel
theorem d8_269 : decode prog_13_method_9_code 269 = .ok (.iload 5, 2) := by decide +kernel
theorem d8_271 : decode prog_13_method_9_code 271 = .ok (.iastore, 1) := by decide +kernel
theorem d8_272 : decode prog_13_method_9_code 272 = .ok (.aload_n 0, 1) := by decide +kernel
theorem d8_273 : decode prog_13_method_9_code 273 = .ok (.getfield 24, 3) := by decide +kernel
theorem d8_276 : decode prog_13_method_9_code 276 = .ok (.iconst 4, 1) := by decide +kernel
theorem d8_277 : decode prog_13_method_9_code 277 = .ok (.iload 7, 2) := by decide +kernel
theorem d8_279 : decode prog_13_method_9_code 279 = .ok (.imul, 1) := by decide +kernel
theorem d8_280 : decode prog_13_method_9_code 280 = .ok (.iconst 2, 1) := by decide +kernel
theorem d8_281 : decode prog_13_method_9_code 281 = .ok (.iadd, 1) := by decide +kernel
theorem d8_282 : decode prog_13_method_9_code 282 = .ok (.iload 6, 2) := by decide +kernel
theorem d8_284 : decode prog_13_method_9_code 284 = .ok (.iastore, 1) := by decide +kernel
theorem d8_285 : decode prog_13_method_9_code 285 = .ok (.aload_n 0, 1) := by decide +kernel
theorem d8_286 : decode prog_13_method_9_code 286 = .ok (.getfield 24, 3) := by decide +kernel
theorem d8_289 : decode prog_13_method_9_code 289 = .ok (.iconst 4, 1) := by decide +kernel
theorem d8_290 : decode prog_13_method_9_code 290 = .ok (.iload 7, 2) := by decide +kernel
theorem d8_292 : decode prog_13_method_9_code 292 = .ok (.imul, 1) := by decide +kernel
theorem d8_293 : decode prog_13_method_9_code 293 = .ok (.iconst 3, 1) := by decide +kernel
theorem d8_294 : decode prog_13_method_9_code 294 = .ok (.iadd, 1) := by decide +kernel
theorem d8_295 : decode prog_13_method_9_code 295 = .ok (.iload 11, 2) := by decide +kernel
theorem d8_297 : decode prog_13_method_9_code 297 = .ok (.iastore, 1) := by decide +kernel
theorem d8_298 : decode prog_13_method_9_code 298 = .ok (.iload 11, 2) := by decide +kernel
theorem d8_300 : decode prog_13_method_9_code 300 = .ok (.ireturn, 1) := by decide +kernel
set_option maxRecDepth 65536 in
set_option maxHeartbeats 40000000 in
theorem rap3 (l : Launch) (Z : State) (a0 : Array Value) (hw : ∀ d ∈ tables_1, d.before a0 Z = true) (ws : List Jvm.Cond) (cn vs lo hi tb ca : Addr) (vc : Int32) (fv fl fh ft fc : Nat → Int32) (ch : Addr) (cl : Cell) (b0 b1 : Addr) (h0 : Heap) (n0 : Nat) (Z0 : n0 ≤ h0.size) (hC : CS Z h0 cn vs lo hi tb ca (3 : Int32) vc fv fl fh ft fc) (hD : DS n0 cn vs lo hi tb ca) (Od : Old Z n0 h0) (hI : IC Z ch cl b0 b1) (hv2 : fv 2 = (0 : Int32)) (hl2 : fl 2 = (0 : Int32)) (hh2 : fh 2 = (1 : Int32)) (hca : fc 6132 = (-1 : Int32)) (hslot : ft 275 = (-1 : Int32)) :
    MetFree l (⟨"com/example/sealed_paths/sealedpaths/core/Conditions", "apply", "(III)I"⟩ : MethodName) (head1 (Jvm.Cond.code (⟨"com/example/sealed_paths/sealedpaths/core/Conditions", "apply", "(III)I"⟩ : MethodName) prog_13_method_9_code 12 (some .int) :: ws) ({ frames := 3, cells := 0, slots := 0, locals := 50 } : Room)) (fun zA zU => zA = #[(.ref cn), (.int (3 : Int32)), (.int (2 : Int32)), (.int (2 : Int32))] ∧ Z.Warmed39 zU.vm ∧ zU.heap = h0) (fun _ _ _ _ _ => True) (fun _ zU zO zW => ∃ zV zL, zO = .returned zV ∧ QC (.int (3 : Int32)) Z cn vs lo hi tb ca (4 : Int32) vc (upd fv 3 (0 : Int32)) (upd fl 3 (1 : Int32)) (upd fh 3 (0 : Int32)) (upd ft 275 (3 : Int32)) (upd (upd (upd (upd fc 6132 (3 : Int32)) 6133 (2 : Int32)) 6134 (2 : Int32)) 6135 (3 : Int32)) h0 n0 zV zW.heap zL ∧ FrameEnd zU zO zW zL ({ frames := 3, cells := 0, slots := 0, locals := 50 } : Room).cells ({ frames := 3, cells := 0, slots := 0, locals := 50 } : Room).slots) := by
  refine MetFree.of_bodySF (plainFor_of_name pn_Conditions) hisR ?_
  intro p e s m args below meth c s₁ Bd hml0 hP hK
  obtain ⟨rfl, hZ, hh⟩ := hP
  have hx := Bd.exec
  have hby := Bd.bytes
  have hml : c.maxLocals = 12 := hml0
  have hown : s.vm.findClass "com/example/sealed_paths/sealedpaths/core/Conditions" = some m.cls := findClass_of_methodNamed Bd.named
  have hnm := (name_of_methodNamed Bd.named Bd.method).1
  have X0 : Stand p l e ({ frames := 3, cells := 0, slots := 0, locals := 50 } : Room) s m #[(.ref cn), (.int (3 : Int32)), (.int (2 : Int32)), (.int (2 : Int32))] below meth c s₁ [] 0 0 := Stand.of_body Bd
  have e0 : s₁.heap = h0 := by rw [← hh, Bd.state]; rfl
  have N0 := Fr.nil n0
  have pre0 : ∀ zt, Steps p.tables e below (s₁.setTop (mkF m 0 #[.val (.ref cn), .val (.int (3 : Int32)), .val (.int (2 : Int32)), .val (.int (2 : Int32)), .unset, .unset, .unset, .unset, .unset, .unset, .unset, .unset] [])) zt → Steps p.tables e below (s₁.setTop (entryFrame m #[(.ref cn), (.int (3 : Int32)), (.int (2 : Int32)), (.int (2 : Int32))] 12)) zt := fun zt zk => castTop (ef_8_RIII m cn (3 : Int32) (2 : Int32) (2 : Int32)) zk
  have hD0 := hD
  have hI0 := hI
  obtain ⟨Sh, Sc, Ach, Sz, A128, A129, Eb0, Eb1, Fb0, Fb1⟩ := hI
  obtain ⟨Ec, F_variables, F_lows, F_highs, F_table, F_cached, F_limit, F_size, F_vc, V_vs, V_lo, V_hi, V_tb, V_ca⟩ := hC
  obtain ⟨g_cn, g_vs, g_lo, g_hi, g_tb, g_ca, ne_cn_vs, ne_cn_lo, ne_cn_hi, ne_cn_tb, ne_cn_ca, ne_vs_lo, ne_vs_hi, ne_vs_tb, ne_vs_ca, ne_lo_hi, ne_lo_tb, ne_lo_ca, ne_hi_tb, ne_hi_ca, ne_tb_ca⟩ := hD
  obtain ⟨_, _, ⟨T449, L449, k449, n449⟩, -, X449, ⟨Lc449, hQ449, l449, y449, z449⟩, st449⟩ := Jvm.LawKit.callS X0 hx (y := (⟨"com/example/sealed_paths/sealedpaths/core/Conditions", "settled", "(III)Ljava/lang/Integer;"⟩ : MethodName)) hown (mvT hZ (hw _ (List.mem_of_getElem? (i := 55) rfl))) (mvT hZ (hw _ (List.mem_of_getElem? (i := 56) rfl))) (mvT hZ (hw _ (List.mem_of_getElem? (i := 2) rfl))) (mvT hZ (hw _ (List.mem_of_getElem? (i := 57) rfl))) (by decide) (backOf (W := 0) (rse322 l Z a0 hw [] ch cl b0 b1 h0 n0 Z0 Od hI0) hZ (hw _ (List.mem_of_getElem? (i := 57) rfl)) (hw _ (List.mem_of_getElem? (i := 2) rfl)) (by decide) (by decide)) (g := (mkF m 3 #[.val (.ref cn), .val (.int (3 : Int32)), .val (.int (2 : Int32)), .val (.int (2 : Int32)), .unset, .unset, .unset, .unset, .unset, .unset, .unset, .unset] [(.int (2 : Int32)), (.int (2 : Int32)), (.int (3 : Int32))])) rfl (by rw [hml]; rfl) (argsL := [(.int (3 : Int32)), (.int (2 : Int32)), (.int (2 : Int32))]) (rest := []) (lenOf pd_3 rfl) rfl (by show 2 * 0 + _ ≤ _; exact Nat.le_of_eq rfl) (hb hby d8_3) (fun _ _ => ⟨rfl, e0, (by decide : 0 + 0 ≤ _), (by decide : 0 + 0 ≤ _)⟩)
  dsimp only [Pt.U, Pt.locs, Pt.cells, Pt.slots] at X449 l449 y449 z449 st449 hQ449
  subst l449 y449 z449
  obtain ⟨rfl, Nq449, e449⟩ := hQ449
  have N449 := Fr.app N0 Nq449
  obtain ⟨T450, X450, e450, st450⟩ := getF X449 hx hZ hown (host := "") (Or.inl (hw _ (List.mem_of_getElem? (i := 18) rfl))) Via.refl e449 F_cached (g := (mkF m 70 #[.val (.ref cn), .val (.int (3 : Int32)), .val (.int (2 : Int32)), .val (.int (2 : Int32)), .val .null, .val (.int (2 : Int32)), .val (.int (2 : Int32)), .unset, .unset, .unset, .unset, .unset] [(.ref cn), (.int (237819389 : Int32))])) rfl rfl (hb hby d8_70)
  obtain ⟨cl451, Ar451, Sz451, Hz451⟩ := id V_ca
  obtain ⟨T452, X452, e452, st452⟩ := getF X450 hx hZ hown (host := "") (Or.inl (hw _ (List.mem_of_getElem? (i := 18) rfl))) Via.refl e450 F_cached (g := (mkF m 82 #[.val (.ref cn), .val (.int (3 : Int32)), .val (.int (2 : Int32)), .val (.int (2 : Int32)), .val .null, .val (.int (2 : Int32)), .val (.int (2 : Int32)), .val (.int (1533 : Int32)), .unset, .unset, .unset, .unset] [(.ref cn)])) rfl rfl (hb hby d8_82)
  obtain ⟨cl453, Ar453, Sz453, Hz453⟩ := id V_ca
  have hin453 := IA.inb (j := (6132 : Int32)) (i := 6132) Sz453 (by decide) (by decide) (by decide)
  have hat453 := IA.at (j := (6132 : Int32)) (x := (-1 : Int32)) Hz453 (by decide) (by decide) hca
  obtain ⟨T454, X454, e454, st454⟩ := getF X452 hx hZ hown (host := "") (Or.inl (hw _ (List.mem_of_getElem? (i := 10) rfl))) Via.refl e452 F_variables (g := (mkF m 139 #[.val (.ref cn), .val (.int (3 : Int32)), .val (.int (2 : Int32)), .val (.int (2 : Int32)), .val .null, .val (.int (2 : Int32)), .val (.int (2 : Int32)), .val (.int (1533 : Int32)), .unset, .unset, .unset, .unset] [(.ref cn)])) rfl rfl (hb hby d8_139)
  obtain ⟨cl455, Ar455, Sz455, Hz455⟩ := id V_vs
  have hin455 := IA.inb (j := (2 : Int32)) (i := 2) Sz455 (by decide) (by decide) (by decide)
  have hat455 := IA.at (j := (2 : Int32)) (x := (0 : Int32)) Hz455 (by decide) (by decide) hv2
  obtain ⟨T456, X456, e456, st456⟩ := getF X454 hx hZ hown (host := "") (Or.inl (hw _ (List.mem_of_getElem? (i := 10) rfl))) Via.refl e454 F_variables (g := (mkF m 146 #[.val (.ref cn), .val (.int (3 : Int32)), .val (.int (2 : Int32)), .val (.int (2 : Int32)), .val .null, .val (.int (2 : Int32)), .val (.int (2 : Int32)), .val (.int (1533 : Int32)), .unset, .unset, .unset, .unset] [(.ref cn), (.int (0 : Int32))])) rfl rfl (hb hby d8_146)
  obtain ⟨cl457, Ar457, Sz457, Hz457⟩ := id V_vs
  have hin457 := IA.inb (j := (2 : Int32)) (i := 2) Sz457 (by decide) (by decide) (by decide)
  have hat457 := IA.at (j := (2 : Int32)) (x := (0 : Int32)) Hz457 (by decide) (by decide) hv2
  obtain ⟨_, _, ⟨T458, L458, k458, n458⟩, -, X458, ⟨Lc458, hQ458, l458, y458, z458⟩, st458⟩ := Jvm.LawKit.callS X456 hx (y := (⟨"java/lang/Math", "min", "(II)I"⟩ : MethodName)) hown (mvT hZ (hw _ (List.mem_of_getElem? (i := 61) rfl))) (mvT hZ (hw _ (List.mem_of_getElem? (i := 62) rfl))) (mvT hZ (hw _ (List.mem_of_getElem? (i := 63) rfl))) (mvT hZ (hw _ (List.mem_of_getElem? (i := 64) rfl))) (by decide) (backOf (W := 0) (rmin00 l Z a0 hw [] h0 n0 Z0) hZ (hw _ (List.mem_of_getElem? (i := 64) rfl)) (hw _ (List.mem_of_getElem? (i := 63) rfl)) (by decide) (by decide)) (g := (mkF m 152 #[.val (.ref cn), .val (.int (3 : Int32)), .val (.int (2 : Int32)), .val (.int (2 : Int32)), .val .null, .val (.int (2 : Int32)), .val (.int (2 : Int32)), .val (.int (1533 : Int32)), .unset, .unset, .unset, .unset] [(.int (0 : Int32)), (.int (0 : Int32))])) rfl (by rw [hml]; rfl) (argsL := [(.int (0 : Int32)), (.int (0 : Int32))]) (rest := []) (lenOf pd_6 rfl) rfl (by show 2 * 0 + _ ≤ _; exact Nat.le_of_eq rfl) (hb hby d8_152) (fun _ _ => ⟨rfl, e456, (by decide : 0 + 0 ≤ _), (by decide : 0 + 0 ≤ _)⟩)
  dsimp only [Pt.U, Pt.locs, Pt.cells, Pt.slots] at X458 l458 y458 z458 st458 hQ458
  subst l458 y458 z458
  obtain ⟨rfl, Nq458, e458⟩ := hQ458
  have N458 := Fr.app N449 Nq458
  obtain ⟨cq459, q459, q459'⟩ := Ec.cell
  obtain ⟨_, _, ⟨T459, L459, k459, n459⟩, -, X459, ⟨Lc459, hQ459, l459, y459, z459⟩, st459⟩ := X458.privateBack hx (y := (⟨"com/example/sealed_paths/sealedpaths/core/Conditions", "branch", "(IIZ)I"⟩ : MethodName)) hown (mvT hZ (hw _ (List.mem_of_getElem? (i := 65) rfl))) (mvT hZ (hw _ (List.mem_of_getElem? (i := 66) rfl))) (psel (mvT hZ (hw _ (List.mem_of_getElem? (i := 1) rfl))) (mvP hZ (hw _ (List.mem_of_getElem? (i := 67) rfl))) (mvT hZ (hw _ (List.mem_of_getElem? (i := 66) rfl))) (by decide)) (Cond.privateMethod_at (mvP hZ (hw _ (List.mem_of_getElem? (i := 67) rfl)) (args := #[]))) (mvT hZ (hw _ (List.mem_of_getElem? (i := 68) rfl))) (by decide) (backOf (W := 2) (rbr20 l Z a0 hw [] cn vs lo hi tb ca (3 : Int32) vc (0 : Int32) fv fl fh ft fc h0 n0 Z0 ⟨Ec, F_variables, F_lows, F_highs, F_table, F_cached, F_limit, F_size, F_vc, V_vs, V_lo, V_hi, V_tb, V_ca⟩ hD0 hv2 hl2) hZ (hw _ (List.mem_of_getElem? (i := 68) rfl)) (hw _ (List.mem_of_getElem? (i := 2) rfl)) (by decide) (by decide)) (g := (mkF m 165 #[.val (.ref cn), .val (.int (3 : Int32)), .val (.int (2 : Int32)), .val (.int (2 : Int32)), .val .null, .val (.int (2 : Int32)), .val (.int (2 : Int32)), .val (.int (1533 : Int32)), .val (.int (0 : Int32)), .unset, .unset, .unset] [(.int (0 : Int32)), (.int (0 : Int32)), (.int (2 : Int32)), (.ref cn), (.int (3 : Int32)), (.ref cn)])) rfl (by rw [hml]; rfl) (Steps.refl _) (a := cn) (by rw [e458]; exact q459) q459' (argsL := [(.int (2 : Int32)), (.int (0 : Int32)), (.int (0 : Int32))]) (rest := [(.int (3 : Int32)), (.ref cn)]) (lenOf pd_7 rfl) rfl (by show 2 * 0 + _ ≤ _; exact Nat.le_of_eq rfl) (hb hby d8_165) (fun _ _ => ⟨rfl, e458, (by decide : 0 + 0 ≤ _), (by decide : 0 + 0 ≤ _)⟩)
  dsimp only [Pt.U, Pt.locs, Pt.cells, Pt.slots] at X459 l459 y459 z459 st459 hQ459
  subst l459 y459 z459
  obtain ⟨rfl, Nq459, e459⟩ := hQ459
  have N459 := Fr.app N458 Nq459
  obtain ⟨cq460, q460, q460'⟩ := Ec.cell
  obtain ⟨_, _, ⟨T460, L460, k460, n460⟩, -, X460, ⟨Lc460, hQ460, l460, y460, z460⟩, st460⟩ := X459.privateBack hx (y := (⟨"com/example/sealed_paths/sealedpaths/core/Conditions", "branch", "(IIZ)I"⟩ : MethodName)) hown (mvT hZ (hw _ (List.mem_of_getElem? (i := 65) rfl))) (mvT hZ (hw _ (List.mem_of_getElem? (i := 66) rfl))) (psel (mvT hZ (hw _ (List.mem_of_getElem? (i := 1) rfl))) (mvP hZ (hw _ (List.mem_of_getElem? (i := 67) rfl))) (mvT hZ (hw _ (List.mem_of_getElem? (i := 66) rfl))) (by decide)) (Cond.privateMethod_at (mvP hZ (hw _ (List.mem_of_getElem? (i := 67) rfl)) (args := #[]))) (mvT hZ (hw _ (List.mem_of_getElem? (i := 68) rfl))) (by decide) (backOf (W := 3) (rbr20 l Z a0 hw [] cn vs lo hi tb ca (3 : Int32) vc (0 : Int32) fv fl fh ft fc h0 n0 Z0 ⟨Ec, F_variables, F_lows, F_highs, F_table, F_cached, F_limit, F_size, F_vc, V_vs, V_lo, V_hi, V_tb, V_ca⟩ hD0 hv2 hl2) hZ (hw _ (List.mem_of_getElem? (i := 68) rfl)) (hw _ (List.mem_of_getElem? (i := 2) rfl)) (by decide) (by decide)) (g := (mkF m 174 #[.val (.ref cn), .val (.int (3 : Int32)), .val (.int (2 : Int32)), .val (.int (2 : Int32)), .val .null, .val (.int (2 : Int32)), .val (.int (2 : Int32)), .val (.int (1533 : Int32)), .val (.int (0 : Int32)), .unset, .unset, .unset] [(.int (0 : Int32)), (.int (0 : Int32)), (.int (2 : Int32)), (.ref cn), (.int (0 : Int32)), (.int (3 : Int32)), (.ref cn)])) rfl (by rw [hml]; rfl) (Steps.refl _) (a := cn) (by rw [e459]; exact q460) q460' (argsL := [(.int (2 : Int32)), (.int (0 : Int32)), (.int (0 : Int32))]) (rest := [(.int (0 : Int32)), (.int (3 : Int32)), (.ref cn)]) (lenOf pd_7 rfl) rfl (by show 2 * 0 + _ ≤ _; exact Nat.le_of_eq rfl) (hb hby d8_174) (fun _ _ => ⟨rfl, e459, (by decide : 0 + 0 ≤ _), (by decide : 0 + 0 ≤ _)⟩)
  dsimp only [Pt.U, Pt.locs, Pt.cells, Pt.slots] at X460 l460 y460 z460 st460 hQ460
  subst l460 y460 z460
  obtain ⟨rfl, Nq460, e460⟩ := hQ460
  have N460 := Fr.app N459 Nq460
  obtain ⟨cq461, q461, q461'⟩ := Ec.cell
  obtain ⟨_, _, ⟨T461, L461, k461, n461⟩, -, X461, ⟨Lc461, hQ461, l461, y461, z461⟩, st461⟩ := X460.privateBack hx (y := (⟨"com/example/sealed_paths/sealedpaths/core/Conditions", "apply", "(III)I"⟩ : MethodName)) hown (mvT hZ (hw _ (List.mem_of_getElem? (i := 51) rfl))) (mvT hZ (hw _ (List.mem_of_getElem? (i := 52) rfl))) (psel (mvT hZ (hw _ (List.mem_of_getElem? (i := 1) rfl))) (mvP hZ (hw _ (List.mem_of_getElem? (i := 53) rfl))) (mvT hZ (hw _ (List.mem_of_getElem? (i := 52) rfl))) (by decide)) (Cond.privateMethod_at (mvP hZ (hw _ (List.mem_of_getElem? (i := 53) rfl)) (args := #[]))) (mvT hZ (hw _ (List.mem_of_getElem? (i := 54) rfl))) (by decide) (backOf (W := 0) (ras300 l Z a0 hw [] cn ch cl b0 b1 h0 n0 Z0 Od hI0) hZ (hw _ (List.mem_of_getElem? (i := 54) rfl)) (hw _ (List.mem_of_getElem? (i := 2) rfl)) (by decide) (by decide)) (g := (mkF m 177 #[.val (.ref cn), .val (.int (3 : Int32)), .val (.int (2 : Int32)), .val (.int (2 : Int32)), .val .null, .val (.int (2 : Int32)), .val (.int (2 : Int32)), .val (.int (1533 : Int32)), .val (.int (0 : Int32)), .unset, .unset, .unset] [(.int (0 : Int32)), (.int (0 : Int32)), (.int (3 : Int32)), (.ref cn)])) rfl (by rw [hml]; rfl) (Steps.refl _) (a := cn) (by rw [e460]; exact q461) q461' (argsL := [(.int (3 : Int32)), (.int (0 : Int32)), (.int (0 : Int32))]) (rest := []) (lenOf pd_5 rfl) rfl (by show 2 * 0 + _ ≤ _; exact Nat.le_of_eq rfl) (hb hby d8_177) (fun _ _ => ⟨rfl, e460, (by decide : 0 + 0 ≤ _), (by decide : 0 + 0 ≤ _)⟩)
  dsimp only [Pt.U, Pt.locs, Pt.cells, Pt.slots] at X461 l461 y461 z461 st461 hQ461
  subst l461 y461 z461
  obtain ⟨rfl, Nq461, e461⟩ := hQ461
  have N461 := Fr.app N460 Nq461
  obtain ⟨cq462, q462, q462'⟩ := Ec.cell
  obtain ⟨_, _, ⟨T462, L462, k462, n462⟩, -, X462, ⟨Lc462, hQ462, l462, y462, z462⟩, st462⟩ := X461.privateBack hx (y := (⟨"com/example/sealed_paths/sealedpaths/core/Conditions", "branch", "(IIZ)I"⟩ : MethodName)) hown (mvT hZ (hw _ (List.mem_of_getElem? (i := 65) rfl))) (mvT hZ (hw _ (List.mem_of_getElem? (i := 66) rfl))) (psel (mvT hZ (hw _ (List.mem_of_getElem? (i := 1) rfl))) (mvP hZ (hw _ (List.mem_of_getElem? (i := 67) rfl))) (mvT hZ (hw _ (List.mem_of_getElem? (i := 66) rfl))) (by decide)) (Cond.privateMethod_at (mvP hZ (hw _ (List.mem_of_getElem? (i := 67) rfl)) (args := #[]))) (mvT hZ (hw _ (List.mem_of_getElem? (i := 68) rfl))) (by decide) (backOf (W := 2) (rbr21 l Z a0 hw [] cn vs lo hi tb ca (3 : Int32) vc (1 : Int32) fv fl fh ft fc h0 n0 Z0 ⟨Ec, F_variables, F_lows, F_highs, F_table, F_cached, F_limit, F_size, F_vc, V_vs, V_lo, V_hi, V_tb, V_ca⟩ hD0 hv2 hh2) hZ (hw _ (List.mem_of_getElem? (i := 68) rfl)) (hw _ (List.mem_of_getElem? (i := 2) rfl)) (by decide) (by decide)) (g := (mkF m 190 #[.val (.ref cn), .val (.int (3 : Int32)), .val (.int (2 : Int32)), .val (.int (2 : Int32)), .val .null, .val (.int (2 : Int32)), .val (.int (2 : Int32)), .val (.int (1533 : Int32)), .val (.int (0 : Int32)), .val (.int (1 : Int32)), .unset, .unset] [(.int (1 : Int32)), (.int (0 : Int32)), (.int (2 : Int32)), (.ref cn), (.int (3 : Int32)), (.ref cn)])) rfl (by rw [hml]; rfl) (Steps.refl _) (a := cn) (by rw [e461]; exact q462) q462' (argsL := [(.int (2 : Int32)), (.int (0 : Int32)), (.int (1 : Int32))]) (rest := [(.int (3 : Int32)), (.ref cn)]) (lenOf pd_7 rfl) rfl (by show 2 * 0 + _ ≤ _; exact Nat.le_of_eq rfl) (hb hby d8_190) (fun _ _ => ⟨rfl, e461, (by decide : 0 + 0 ≤ _), (by decide : 0 + 0 ≤ _)⟩)
  dsimp only [Pt.U, Pt.locs, Pt.cells, Pt.slots] at X462 l462 y462 z462 st462 hQ462
  subst l462 y462 z462
  obtain ⟨rfl, Nq462, e462⟩ := hQ462
  have N462 := Fr.app N461 Nq462
  obtain ⟨cq463, q463, q463'⟩ := Ec.cell
  obtain ⟨_, _, ⟨T463, L463, k463, n463⟩, -, X463, ⟨Lc463, hQ463, l463, y463, z463⟩, st463⟩ := X462.privateBack hx (y := (⟨"com/example/sealed_paths/sealedpaths/core/Conditions", "branch", "(IIZ)I"⟩ : MethodName)) hown (mvT hZ (hw _ (List.mem_of_getElem? (i := 65) rfl))) (mvT hZ (hw _ (List.mem_of_getElem? (i := 66) rfl))) (psel (mvT hZ (hw _ (List.mem_of_getElem? (i := 1) rfl))) (mvP hZ (hw _ (List.mem_of_getElem? (i := 67) rfl))) (mvT hZ (hw _ (List.mem_of_getElem? (i := 66) rfl))) (by decide)) (Cond.privateMethod_at (mvP hZ (hw _ (List.mem_of_getElem? (i := 67) rfl)) (args := #[]))) (mvT hZ (hw _ (List.mem_of_getElem? (i := 68) rfl))) (by decide) (backOf (W := 3) (rbr21 l Z a0 hw [] cn vs lo hi tb ca (3 : Int32) vc (1 : Int32) fv fl fh ft fc h0 n0 Z0 ⟨Ec, F_variables, F_lows, F_highs, F_table, F_cached, F_limit, F_size, F_vc, V_vs, V_lo, V_hi, V_tb, V_ca⟩ hD0 hv2 hh2) hZ (hw _ (List.mem_of_getElem? (i := 68) rfl)) (hw _ (List.mem_of_getElem? (i := 2) rfl)) (by decide) (by decide)) (g := (mkF m 199 #[.val (.ref cn), .val (.int (3 : Int32)), .val (.int (2 : Int32)), .val (.int (2 : Int32)), .val .null, .val (.int (2 : Int32)), .val (.int (2 : Int32)), .val (.int (1533 : Int32)), .val (.int (0 : Int32)), .val (.int (1 : Int32)), .unset, .unset] [(.int (1 : Int32)), (.int (0 : Int32)), (.int (2 : Int32)), (.ref cn), (.int (1 : Int32)), (.int (3 : Int32)), (.ref cn)])) rfl (by rw [hml]; rfl) (Steps.refl _) (a := cn) (by rw [e462]; exact q463) q463' (argsL := [(.int (2 : Int32)), (.int (0 : Int32)), (.int (1 : Int32))]) (rest := [(.int (1 : Int32)), (.int (3 : Int32)), (.ref cn)]) (lenOf pd_7 rfl) rfl (by show 2 * 0 + _ ≤ _; exact Nat.le_of_eq rfl) (hb hby d8_199) (fun _ _ => ⟨rfl, e462, (by decide : 0 + 0 ≤ _), (by decide : 0 + 0 ≤ _)⟩)
  dsimp only [Pt.U, Pt.locs, Pt.cells, Pt.slots] at X463 l463 y463 z463 st463 hQ463
  subst l463 y463 z463
  obtain ⟨rfl, Nq463, e463⟩ := hQ463
  have N463 := Fr.app N462 Nq463
  obtain ⟨cq464, q464, q464'⟩ := Ec.cell
  obtain ⟨_, _, ⟨T464, L464, k464, n464⟩, -, X464, ⟨Lc464, hQ464, l464, y464, z464⟩, st464⟩ := X463.privateBack hx (y := (⟨"com/example/sealed_paths/sealedpaths/core/Conditions", "apply", "(III)I"⟩ : MethodName)) hown (mvT hZ (hw _ (List.mem_of_getElem? (i := 51) rfl))) (mvT hZ (hw _ (List.mem_of_getElem? (i := 52) rfl))) (psel (mvT hZ (hw _ (List.mem_of_getElem? (i := 1) rfl))) (mvP hZ (hw _ (List.mem_of_getElem? (i := 53) rfl))) (mvT hZ (hw _ (List.mem_of_getElem? (i := 52) rfl))) (by decide)) (Cond.privateMethod_at (mvP hZ (hw _ (List.mem_of_getElem? (i := 53) rfl)) (args := #[]))) (mvT hZ (hw _ (List.mem_of_getElem? (i := 54) rfl))) (by decide) (backOf (W := 0) (ras311 l Z a0 hw [] cn ch cl b0 b1 h0 n0 Z0 Od hI0) hZ (hw _ (List.mem_of_getElem? (i := 54) rfl)) (hw _ (List.mem_of_getElem? (i := 2) rfl)) (by decide) (by decide)) (g := (mkF m 202 #[.val (.ref cn), .val (.int (3 : Int32)), .val (.int (2 : Int32)), .val (.int (2 : Int32)), .val .null, .val (.int (2 : Int32)), .val (.int (2 : Int32)), .val (.int (1533 : Int32)), .val (.int (0 : Int32)), .val (.int (1 : Int32)), .unset, .unset] [(.int (1 : Int32)), (.int (1 : Int32)), (.int (3 : Int32)), (.ref cn)])) rfl (by rw [hml]; rfl) (Steps.refl _) (a := cn) (by rw [e463]; exact q464) q464' (argsL := [(.int (3 : Int32)), (.int (1 : Int32)), (.int (1 : Int32))]) (rest := []) (lenOf pd_5 rfl) rfl (by show 2 * 0 + _ ≤ _; exact Nat.le_of_eq rfl) (hb hby d8_202) (fun _ _ => ⟨rfl, e463, (by decide : 0 + 0 ≤ _), (by decide : 0 + 0 ≤ _)⟩)
  dsimp only [Pt.U, Pt.locs, Pt.cells, Pt.slots] at X464 l464 y464 z464 st464 hQ464
  subst l464 y464 z464
  obtain ⟨rfl, Nq464, e464⟩ := hQ464
  have N464 := Fr.app N463 Nq464
  obtain ⟨cq465, q465, q465'⟩ := Ec.cell
  obtain ⟨_, _, ⟨T465, L465, k465, n465⟩, -, X465, ⟨Lc465, hQ465, l465, y465, z465⟩, st465⟩ := X464.privateBack hx (y := (⟨"com/example/sealed_paths/sealedpaths/core/Conditions", "node", "(III)I"⟩ : MethodName)) hown (mvT hZ (hw _ (List.mem_of_getElem? (i := 36) rfl))) (mvT hZ (hw _ (List.mem_of_getElem? (i := 37) rfl))) (psel (mvT hZ (hw _ (List.mem_of_getElem? (i := 1) rfl))) (mvP hZ (hw _ (List.mem_of_getElem? (i := 38) rfl))) (mvT hZ (hw _ (List.mem_of_getElem? (i := 37) rfl))) (by decide)) (Cond.privateMethod_at (mvP hZ (hw _ (List.mem_of_getElem? (i := 38) rfl)) (args := #[]))) (mvT hZ (hw _ (List.mem_of_getElem? (i := 39) rfl))) (by decide) (backOf (W := 0) (rn2 l Z a0 hw [] cn vs lo hi tb ca vc fv fl fh ft fc h0 n0 Z0 ⟨Ec, F_variables, F_lows, F_highs, F_table, F_cached, F_limit, F_size, F_vc, V_vs, V_lo, V_hi, V_tb, V_ca⟩ hD0 hslot) hZ (hw _ (List.mem_of_getElem? (i := 39) rfl)) (hw _ (List.mem_of_getElem? (i := 2) rfl)) (by decide) (by decide)) (g := (mkF m 214 #[.val (.ref cn), .val (.int (3 : Int32)), .val (.int (2 : Int32)), .val (.int (2 : Int32)), .val .null, .val (.int (2 : Int32)), .val (.int (2 : Int32)), .val (.int (1533 : Int32)), .val (.int (0 : Int32)), .val (.int (1 : Int32)), .val (.int (0 : Int32)), .unset] [(.int (0 : Int32)), (.int (1 : Int32)), (.int (0 : Int32)), (.ref cn)])) rfl (by rw [hml]; rfl) (Steps.refl _) (a := cn) (by rw [e464]; exact q465) q465' (argsL := [(.int (0 : Int32)), (.int (1 : Int32)), (.int (0 : Int32))]) (rest := []) (lenOf pd_5 rfl) rfl (by show 2 * 0 + _ ≤ _; exact Nat.le_of_eq rfl) (hb hby d8_214) (fun _ _ => ⟨rfl, e464, (by decide : 0 + 0 ≤ _), (by decide : 0 + 0 ≤ _)⟩)
  dsimp only [Pt.U, Pt.locs, Pt.cells, Pt.slots] at X465 l465 y465 z465 st465 hQ465
  subst l465 y465 z465
  obtain ⟨rfl, Nq465, Kq465, G465_0, G465_1, G465_2, G465_3, G465_4, G465_5, G465_6, G465_7, G465_8, G465_9, G465_10, G465_11, G465_12, G465_13⟩ := hQ465
  have N465 := Fr.app N464 Nq465
  have Z465 := Nat.le_trans Z0 Kq465.1
  have Od465 := Od.keep Kq465 (allS g_cn (allS g_vs (allS g_lo (allS g_hi (allS g_tb (allS g_ca all0))))))
  have K465 := (Keep.refl h0 [cn, vs, lo, hi, tb, ca]).trans Kq465 (allS (Or.inl (List.mem_of_getElem? (i := 0) rfl)) (allS (Or.inl (List.mem_of_getElem? (i := 1) rfl)) (allS (Or.inl (List.mem_of_getElem? (i := 2) rfl)) (allS (Or.inl (List.mem_of_getElem? (i := 3) rfl)) (allS (Or.inl (List.mem_of_getElem? (i := 4) rfl)) (allS (Or.inl (List.mem_of_getElem? (i := 5) rfl)) all0))))))
  obtain ⟨T466, X466, e466, st466⟩ := getF X465 hx hZ hown (host := "") (Or.inl (hw _ (List.mem_of_getElem? (i := 18) rfl))) Via.refl rfl G465_5 (g := (mkF m 238 #[.val (.ref cn), .val (.int (3 : Int32)), .val (.int (2 : Int32)), .val (.int (2 : Int32)), .val .null, .val (.int (2 : Int32)), .val (.int (2 : Int32)), .val (.int (1533 : Int32)), .val (.int (0 : Int32)), .val (.int (1 : Int32)), .val (.int (0 : Int32)), .val (.int (3 : Int32))] [(.ref cn), (.int (237819389 : Int32))])) rfl rfl (hb hby d8_238)
  obtain ⟨cl467, Ar467, Sz467, Hz467⟩ := id G465_13
  obtain ⟨T468, X468, e468, st468⟩ := getF X466 hx hZ hown (host := "") (Or.inl (hw _ (List.mem_of_getElem? (i := 18) rfl))) Via.refl e466 G465_5 (g := (mkF m 250 #[.val (.ref cn), .val (.int (3 : Int32)), .val (.int (2 : Int32)), .val (.int (2 : Int32)), .val .null, .val (.int (2 : Int32)), .val (.int (2 : Int32)), .val (.int (1533 : Int32)), .val (.int (0 : Int32)), .val (.int (1 : Int32)), .val (.int (0 : Int32)), .val (.int (3 : Int32))] [(.ref cn)])) rfl rfl (hb hby d8_250)
  obtain ⟨cl469, Ar469, Sz469, Hz469⟩ := id G465_13
  have hin469 := IA.inb (j := (6132 : Int32)) (i := 6132) Sz469 (by decide) (by decide) (by decide)
  obtain ⟨T470, h470, X470, e470, W470, st470⟩ := stI X468 hx hZ e468 Ar469 (j := (6132 : Int32)) hin469 (g := (mkF m 258 #[.val (.ref cn), .val (.int (3 : Int32)), .val (.int (2 : Int32)), .val (.int (2 : Int32)), .val .null, .val (.int (2 : Int32)), .val (.int (2 : Int32)), .val (.int (1533 : Int32)), .val (.int (0 : Int32)), .val (.int (1 : Int32)), .val (.int (0 : Int32)), .val (.int (3 : Int32))] [(.int (3 : Int32)), (.int (6132 : Int32)), (.ref ca)])) rfl rfl (hb hby d8_258)
  have V470 : IA Z h470 ca 16384 (upd fc 6132 (3 : Int32)) := IA.set Ar469 Sz469 Hz469 W470 (by decide) (by decide)
  have N470 := Fr.snoc X470 N465 g_ca
  have zF471 := G465_1.other W470 (Or.inl ne_cn_ca)
  have zF472 := G465_2.other W470 (Or.inl ne_cn_ca)
  have zF473 := G465_3.other W470 (Or.inl ne_cn_ca)
  have zF474 := G465_4.other W470 (Or.inl ne_cn_ca)
  have zF475 := G465_5.other W470 (Or.inl ne_cn_ca)
  have zF476 := G465_6.other W470 (Or.inl ne_cn_ca)
  have zF477 := G465_7.other W470 (Or.inl ne_cn_ca)
  have zF478 := G465_8.other W470 (Or.inl ne_cn_ca)
  have zE479 := G465_0.wr W470
  have zA480 := G465_9.other W470 ne_vs_ca
  have zA481 := G465_10.other W470 ne_lo_ca
  have zA482 := G465_11.other W470 ne_hi_ca
  have zA483 := G465_12.other W470 ne_tb_ca
  have Z470 := Nat.le_trans Z465 (Keep.of_wr W470).1
  have K470 := K465.wr W470 (Or.inl (List.mem_of_getElem? (i := 5) rfl))
  have Od470 := Od465.wr W470 g_ca
  obtain ⟨T484, X484, e484, st484⟩ := getF X470 hx hZ hown (host := "") (Or.inl (hw _ (List.mem_of_getElem? (i := 18) rfl))) Via.refl e470 zF475 (g := (mkF m 260 #[.val (.ref cn), .val (.int (3 : Int32)), .val (.int (2 : Int32)), .val (.int (2 : Int32)), .val .null, .val (.int (2 : Int32)), .val (.int (2 : Int32)), .val (.int (1533 : Int32)), .val (.int (0 : Int32)), .val (.int (1 : Int32)), .val (.int (0 : Int32)), .val (.int (3 : Int32))] [(.ref cn)])) rfl rfl (hb hby d8_260)
  obtain ⟨cl485, Ar485, Sz485, Hz485⟩ := id V470
  have hin485 := IA.inb (j := (6133 : Int32)) (i := 6133) Sz485 (by decide) (by decide) (by decide)
  obtain ⟨T486, h486, X486, e486, W486, st486⟩ := stI X484 hx hZ e484 Ar485 (j := (6133 : Int32)) hin485 (g := (mkF m 271 #[.val (.ref cn), .val (.int (3 : Int32)), .val (.int (2 : Int32)), .val (.int (2 : Int32)), .val .null, .val (.int (2 : Int32)), .val (.int (2 : Int32)), .val (.int (1533 : Int32)), .val (.int (0 : Int32)), .val (.int (1 : Int32)), .val (.int (0 : Int32)), .val (.int (3 : Int32))] [(.int (2 : Int32)), (.int (6133 : Int32)), (.ref ca)])) rfl rfl (hb hby d8_271)
  have V486 : IA Z h486 ca 16384 (upd (upd fc 6132 (3 : Int32)) 6133 (2 : Int32)) := IA.set Ar485 Sz485 Hz485 W486 (by decide) (by decide)
  have N486 := Fr.snoc X486 N470 g_ca
  have zF487 := zF471.other W486 (Or.inl ne_cn_ca)
  have zF488 := zF472.other W486 (Or.inl ne_cn_ca)
  have zF489 := zF473.other W486 (Or.inl ne_cn_ca)
  have zF490 := zF474.other W486 (Or.inl ne_cn_ca)
  have zF491 := zF475.other W486 (Or.inl ne_cn_ca)
  have zF492 := zF476.other W486 (Or.inl ne_cn_ca)
  have zF493 := zF477.other W486 (Or.inl ne_cn_ca)
  have zF494 := zF478.other W486 (Or.inl ne_cn_ca)
  have zE495 := zE479.wr W486
  have zA496 := zA480.other W486 ne_vs_ca
  have zA497 := zA481.other W486 ne_lo_ca
  have zA498 := zA482.other W486 ne_hi_ca
  have zA499 := zA483.other W486 ne_tb_ca
  have Z486 := Nat.le_trans Z470 (Keep.of_wr W486).1
  have K486 := K470.wr W486 (Or.inl (List.mem_of_getElem? (i := 5) rfl))
  have Od486 := Od470.wr W486 g_ca
  obtain ⟨T500, X500, e500, st500⟩ := getF X486 hx hZ hown (host := "") (Or.inl (hw _ (List.mem_of_getElem? (i := 18) rfl))) Via.refl e486 zF491 (g := (mkF m 273 #[.val (.ref cn), .val (.int (3 : Int32)), .val (.int (2 : Int32)), .val (.int (2 : Int32)), .val .null, .val (.int (2 : Int32)), .val (.int (2 : Int32)), .val (.int (1533 : Int32)), .val (.int (0 : Int32)), .val (.int (1 : Int32)), .val (.int (0 : Int32)), .val (.int (3 : Int32))] [(.ref cn)])) rfl rfl (hb hby d8_273)
  obtain ⟨cl501, Ar501, Sz501, Hz501⟩ := id V486
  have hin501 := IA.inb (j := (6134 : Int32)) (i := 6134) Sz501 (by decide) (by decide) (by decide)
  obtain ⟨T502, h502, X502, e502, W502, st502⟩ := stI X500 hx hZ e500 Ar501 (j := (6134 : Int32)) hin501 (g := (mkF m 284 #[.val (.ref cn), .val (.int (3 : Int32)), .val (.int (2 : Int32)), .val (.int (2 : Int32)), .val .null, .val (.int (2 : Int32)), .val (.int (2 : Int32)), .val (.int (1533 : Int32)), .val (.int (0 : Int32)), .val (.int (1 : Int32)), .val (.int (0 : Int32)), .val (.int (3 : Int32))] [(.int (2 : Int32)), (.int (6134 : Int32)), (.ref ca)])) rfl rfl (hb hby d8_284)
  have V502 : IA Z h502 ca 16384 (upd (upd (upd fc 6132 (3 : Int32)) 6133 (2 : Int32)) 6134 (2 : Int32)) := IA.set Ar501 Sz501 Hz501 W502 (by decide) (by decide)
  have N502 := Fr.snoc X502 N486 g_ca
  have zF503 := zF487.other W502 (Or.inl ne_cn_ca)
  have zF504 := zF488.other W502 (Or.inl ne_cn_ca)
  have zF505 := zF489.other W502 (Or.inl ne_cn_ca)
  have zF506 := zF490.other W502 (Or.inl ne_cn_ca)
  have zF507 := zF491.other W502 (Or.inl ne_cn_ca)
  have zF508 := zF492.other W502 (Or.inl ne_cn_ca)
  have zF509 := zF493.other W502 (Or.inl ne_cn_ca)
  have zF510 := zF494.other W502 (Or.inl ne_cn_ca)
  have zE511 := zE495.wr W502
  have zA512 := zA496.other W502 ne_vs_ca
  have zA513 := zA497.other W502 ne_lo_ca
  have zA514 := zA498.other W502 ne_hi_ca
  have zA515 := zA499.other W502 ne_tb_ca
  have Z502 := Nat.le_trans Z486 (Keep.of_wr W502).1
  have K502 := K486.wr W502 (Or.inl (List.mem_of_getElem? (i := 5) rfl))
  have Od502 := Od486.wr W502 g_ca
  obtain ⟨T516, X516, e516, st516⟩ := getF X502 hx hZ hown (host := "") (Or.inl (hw _ (List.mem_of_getElem? (i := 18) rfl))) Via.refl e502 zF507 (g := (mkF m 286 #[.val (.ref cn), .val (.int (3 : Int32)), .val (.int (2 : Int32)), .val (.int (2 : Int32)), .val .null, .val (.int (2 : Int32)), .val (.int (2 : Int32)), .val (.int (1533 : Int32)), .val (.int (0 : Int32)), .val (.int (1 : Int32)), .val (.int (0 : Int32)), .val (.int (3 : Int32))] [(.ref cn)])) rfl rfl (hb hby d8_286)
  obtain ⟨cl517, Ar517, Sz517, Hz517⟩ := id V502
  have hin517 := IA.inb (j := (6135 : Int32)) (i := 6135) Sz517 (by decide) (by decide) (by decide)
  obtain ⟨T518, h518, X518, e518, W518, st518⟩ := stI X516 hx hZ e516 Ar517 (j := (6135 : Int32)) hin517 (g := (mkF m 297 #[.val (.ref cn), .val (.int (3 : Int32)), .val (.int (2 : Int32)), .val (.int (2 : Int32)), .val .null, .val (.int (2 : Int32)), .val (.int (2 : Int32)), .val (.int (1533 : Int32)), .val (.int (0 : Int32)), .val (.int (1 : Int32)), .val (.int (0 : Int32)), .val (.int (3 : Int32))] [(.int (3 : Int32)), (.int (6135 : Int32)), (.ref ca)])) rfl rfl (hb hby d8_297)
  have V518 : IA Z h518 ca 16384 (upd (upd (upd (upd fc 6132 (3 : Int32)) 6133 (2 : Int32)) 6134 (2 : Int32)) 6135 (3 : Int32)) := IA.set Ar517 Sz517 Hz517 W518 (by decide) (by decide)
  have N518 := Fr.snoc X518 N502 g_ca
  have zF519 := zF503.other W518 (Or.inl ne_cn_ca)
  have zF520 := zF504.other W518 (Or.inl ne_cn_ca)
  have zF521 := zF505.other W518 (Or.inl ne_cn_ca)
  have zF522 := zF506.other W518 (Or.inl ne_cn_ca)
  have zF523 := zF507.other W518 (Or.inl ne_cn_ca)
  have zF524 := zF508.other W518 (Or.inl ne_cn_ca)
  have zF525 := zF509.other W518 (Or.inl ne_cn_ca)
  have zF526 := zF510.other W518 (Or.inl ne_cn_ca)
  have zE527 := zE511.wr W518
  have zA528 := zA512.other W518 ne_vs_ca
  have zA529 := zA513.other W518 ne_lo_ca
  have zA530 := zA514.other W518 ne_hi_ca
  have zA531 := zA515.other W518 ne_tb_ca
  have Z518 := Nat.le_trans Z502 (Keep.of_wr W518).1
  have K518 := K502.wr W518 (Or.inl (List.mem_of_getElem? (i := 5) rfl))
  have Od518 := Od502.wr W518 g_ca
  obtain ⟨fs, hr, hrun, hended, hW, hsame⟩ := X518.leave (v := some (.int (3 : Int32))) (fun h => by rw [Bd.returns] at h; cases h)
  refine ⟨_, _, pre0 _ ?_, hrun, hended, _, _, rfl, ?_, ⟨_, rfl⟩, hW, hsame.mono (by decide) (by decide)⟩
  · show Steps p.tables e below (s₁.setTop (mkF m 0 #[.val (.ref cn), .val (.int (3 : Int32)), .val (.int (2 : Int32)), .val (.int (2 : Int32)), .unset, .unset, .unset, .unset, .unset, .unset, .unset, .unset] [])) _
    refine XS.iloadN X0.here hx rfl (hb hby d8_0) rfl ?_
    show Steps p.tables e below (s₁.setTop (mkF m 1 #[.val (.ref cn), .val (.int (3 : Int32)), .val (.int (2 : Int32)), .val (.int (2 : Int32)), .unset, .unset, .unset, .unset, .unset, .unset, .unset, .unset] [(.int (3 : Int32))])) _
    refine XS.iloadN X0.here hx rfl (hb hby d8_1) rfl ?_
    show Steps p.tables e below (s₁.setTop (mkF m 2 #[.val (.ref cn), .val (.int (3 : Int32)), .val (.int (2 : Int32)), .val (.int (2 : Int32)), .unset, .unset, .unset, .unset, .unset, .unset, .unset, .unset] [(.int (2 : Int32)), (.int (3 : Int32))])) _
    refine XS.iloadN X0.here hx rfl (hb hby d8_2) rfl ?_
    show Steps p.tables e below (s₁.setTop (mkF m 3 #[.val (.ref cn), .val (.int (3 : Int32)), .val (.int (2 : Int32)), .val (.int (2 : Int32)), .unset, .unset, .unset, .unset, .unset, .unset, .unset, .unset] [(.int (2 : Int32)), (.int (2 : Int32)), (.int (3 : Int32))])) _
    refine st449 _ ?_
    show Steps p.tables e below (T449.setTop (mkF m 6 #[.val (.ref cn), .val (.int (3 : Int32)), .val (.int (2 : Int32)), .val (.int (2 : Int32)), .unset, .unset, .unset, .unset, .unset, .unset, .unset, .unset] [.null])) _
    refine XS.astore X449.here hx rfl (hb hby d8_6) rfl rfl (l' := #[.val (.ref cn), .val (.int (3 : Int32)), .val (.int (2 : Int32)), .val (.int (2 : Int32)), .val .null, .unset, .unset, .unset, .unset, .unset, .unset, .unset]) rfl ?_
    show Steps p.tables e below (T449.setTop (mkF m 8 #[.val (.ref cn), .val (.int (3 : Int32)), .val (.int (2 : Int32)), .val (.int (2 : Int32)), .val .null, .unset, .unset, .unset, .unset, .unset, .unset, .unset] [])) _
    refine XS.aload X449.here hx rfl (hb hby d8_8) rfl rfl ?_
    show Steps p.tables e below (T449.setTop (mkF m 10 #[.val (.ref cn), .val (.int (3 : Int32)), .val (.int (2 : Int32)), .val (.int (2 : Int32)), .val .null, .unset, .unset, .unset, .unset, .unset, .unset, .unset] [.null])) _
    refine XS.ifnullYes X449.here hx rfl (pc0 := 10) (pc' := 19) rfl (hb hby d8_10) rfl (by decide) (by decide) ?_
    show Steps p.tables e below (T449.setTop (mkF m 19 #[.val (.ref cn), .val (.int (3 : Int32)), .val (.int (2 : Int32)), .val (.int (2 : Int32)), .val .null, .unset, .unset, .unset, .unset, .unset, .unset, .unset] [])) _
    refine XS.iloadN X449.here hx rfl (hb hby d8_19) rfl ?_
    show Steps p.tables e below (T449.setTop (mkF m 20 #[.val (.ref cn), .val (.int (3 : Int32)), .val (.int (2 : Int32)), .val (.int (2 : Int32)), .val .null, .unset, .unset, .unset, .unset, .unset, .unset, .unset] [(.int (3 : Int32))])) _
    refine XS.iconst X449.here hx rfl (hb hby d8_20) ?_
    show Steps p.tables e below (T449.setTop (mkF m 21 #[.val (.ref cn), .val (.int (3 : Int32)), .val (.int (2 : Int32)), .val (.int (2 : Int32)), .val .null, .unset, .unset, .unset, .unset, .unset, .unset, .unset] [(.int (3 : Int32)), (.int (3 : Int32))])) _
    refine XS.icmpNo X449.here hx rfl (hb hby d8_21) rfl (teq (by decide)).2 ?_
    show Steps p.tables e below (T449.setTop (mkF m 24 #[.val (.ref cn), .val (.int (3 : Int32)), .val (.int (2 : Int32)), .val (.int (2 : Int32)), .val .null, .unset, .unset, .unset, .unset, .unset, .unset, .unset] [])) _
    refine XS.iloadN X449.here hx rfl (hb hby d8_24) rfl ?_
    show Steps p.tables e below (T449.setTop (mkF m 25 #[.val (.ref cn), .val (.int (3 : Int32)), .val (.int (2 : Int32)), .val (.int (2 : Int32)), .val .null, .unset, .unset, .unset, .unset, .unset, .unset, .unset] [(.int (2 : Int32))])) _
    refine XS.goto X449.here hx rfl (pc0 := 25) (pc' := 33) rfl (hb hby d8_25) (by decide) (by decide) ?_
    show Steps p.tables e below (T449.setTop (mkF m 33 #[.val (.ref cn), .val (.int (3 : Int32)), .val (.int (2 : Int32)), .val (.int (2 : Int32)), .val .null, .unset, .unset, .unset, .unset, .unset, .unset, .unset] [(.int (2 : Int32))])) _
    refine XS.istore X449.here hx rfl (hb hby d8_33) rfl (l' := #[.val (.ref cn), .val (.int (3 : Int32)), .val (.int (2 : Int32)), .val (.int (2 : Int32)), .val .null, .val (.int (2 : Int32)), .unset, .unset, .unset, .unset, .unset, .unset]) rfl ?_
    show Steps p.tables e below (T449.setTop (mkF m 35 #[.val (.ref cn), .val (.int (3 : Int32)), .val (.int (2 : Int32)), .val (.int (2 : Int32)), .val .null, .val (.int (2 : Int32)), .unset, .unset, .unset, .unset, .unset, .unset] [])) _
    refine XS.iloadN X449.here hx rfl (hb hby d8_35) rfl ?_
    show Steps p.tables e below (T449.setTop (mkF m 36 #[.val (.ref cn), .val (.int (3 : Int32)), .val (.int (2 : Int32)), .val (.int (2 : Int32)), .val .null, .val (.int (2 : Int32)), .unset, .unset, .unset, .unset, .unset, .unset] [(.int (3 : Int32))])) _
    refine XS.iconst X449.here hx rfl (hb hby d8_36) ?_
    show Steps p.tables e below (T449.setTop (mkF m 37 #[.val (.ref cn), .val (.int (3 : Int32)), .val (.int (2 : Int32)), .val (.int (2 : Int32)), .val .null, .val (.int (2 : Int32)), .unset, .unset, .unset, .unset, .unset, .unset] [(.int (3 : Int32)), (.int (3 : Int32))])) _
    refine XS.icmpNo X449.here hx rfl (hb hby d8_37) rfl (teq (by decide)).2 ?_
    show Steps p.tables e below (T449.setTop (mkF m 40 #[.val (.ref cn), .val (.int (3 : Int32)), .val (.int (2 : Int32)), .val (.int (2 : Int32)), .val .null, .val (.int (2 : Int32)), .unset, .unset, .unset, .unset, .unset, .unset] [])) _
    refine XS.iloadN X449.here hx rfl (hb hby d8_40) rfl ?_
    show Steps p.tables e below (T449.setTop (mkF m 41 #[.val (.ref cn), .val (.int (3 : Int32)), .val (.int (2 : Int32)), .val (.int (2 : Int32)), .val .null, .val (.int (2 : Int32)), .unset, .unset, .unset, .unset, .unset, .unset] [(.int (2 : Int32))])) _
    refine XS.goto X449.here hx rfl (pc0 := 41) (pc' := 49) rfl (hb hby d8_41) (by decide) (by decide) ?_
    show Steps p.tables e below (T449.setTop (mkF m 49 #[.val (.ref cn), .val (.int (3 : Int32)), .val (.int (2 : Int32)), .val (.int (2 : Int32)), .val .null, .val (.int (2 : Int32)), .unset, .unset, .unset, .unset, .unset, .unset] [(.int (2 : Int32))])) _
    refine XS.istore X449.here hx rfl (hb hby d8_49) rfl (l' := #[.val (.ref cn), .val (.int (3 : Int32)), .val (.int (2 : Int32)), .val (.int (2 : Int32)), .val .null, .val (.int (2 : Int32)), .val (.int (2 : Int32)), .unset, .unset, .unset, .unset, .unset]) rfl ?_
    show Steps p.tables e below (T449.setTop (mkF m 51 #[.val (.ref cn), .val (.int (3 : Int32)), .val (.int (2 : Int32)), .val (.int (2 : Int32)), .val .null, .val (.int (2 : Int32)), .val (.int (2 : Int32)), .unset, .unset, .unset, .unset, .unset] [])) _
    refine XS.iloadN X449.here hx rfl (hb hby d8_51) rfl ?_
    show Steps p.tables e below (T449.setTop (mkF m 52 #[.val (.ref cn), .val (.int (3 : Int32)), .val (.int (2 : Int32)), .val (.int (2 : Int32)), .val .null, .val (.int (2 : Int32)), .val (.int (2 : Int32)), .unset, .unset, .unset, .unset, .unset] [(.int (3 : Int32))])) _
    refine XS.bipush X449.here hx rfl (hb hby d8_52) ?_
    show Steps p.tables e below (T449.setTop (mkF m 54 #[.val (.ref cn), .val (.int (3 : Int32)), .val (.int (2 : Int32)), .val (.int (2 : Int32)), .val .null, .val (.int (2 : Int32)), .val (.int (2 : Int32)), .unset, .unset, .unset, .unset, .unset] [(.int (31 : Int32)), (.int (3 : Int32))])) _
    refine XS.imul X449.here hx rfl (hb hby d8_54) rfl ?_
    show Steps p.tables e below (T449.setTop (mkF m 55 #[.val (.ref cn), .val (.int (3 : Int32)), .val (.int (2 : Int32)), .val (.int (2 : Int32)), .val .null, .val (.int (2 : Int32)), .val (.int (2 : Int32)), .unset, .unset, .unset, .unset, .unset] [(.int (93 : Int32))])) _
    refine XS.iload X449.here hx rfl (hb hby d8_55) rfl ?_
    show Steps p.tables e below (T449.setTop (mkF m 57 #[.val (.ref cn), .val (.int (3 : Int32)), .val (.int (2 : Int32)), .val (.int (2 : Int32)), .val .null, .val (.int (2 : Int32)), .val (.int (2 : Int32)), .unset, .unset, .unset, .unset, .unset] [(.int (2 : Int32)), (.int (93 : Int32))])) _
    refine XS.iadd X449.here hx rfl (hb hby d8_57) rfl ?_
    show Steps p.tables e below (T449.setTop (mkF m 58 #[.val (.ref cn), .val (.int (3 : Int32)), .val (.int (2 : Int32)), .val (.int (2 : Int32)), .val .null, .val (.int (2 : Int32)), .val (.int (2 : Int32)), .unset, .unset, .unset, .unset, .unset] [(.int (95 : Int32))])) _
    refine X449.ldcInt hx hown (mvT hZ (hw _ (List.mem_of_getElem? (i := 43) rfl))) (g := (mkF m 58 #[.val (.ref cn), .val (.int (3 : Int32)), .val (.int (2 : Int32)), .val (.int (2 : Int32)), .val .null, .val (.int (2 : Int32)), .val (.int (2 : Int32)), .unset, .unset, .unset, .unset, .unset] [(.int (95 : Int32))])) rfl (hb hby d8_58) _ ?_
    show Steps p.tables e below (T449.setTop (mkF m 60 #[.val (.ref cn), .val (.int (3 : Int32)), .val (.int (2 : Int32)), .val (.int (2 : Int32)), .val .null, .val (.int (2 : Int32)), .val (.int (2 : Int32)), .unset, .unset, .unset, .unset, .unset] [(.int (-1640531535 : Int32)), (.int (95 : Int32))])) _
    refine XS.imul X449.here hx rfl (hb hby d8_60) rfl ?_
    show Steps p.tables e below (T449.setTop (mkF m 61 #[.val (.ref cn), .val (.int (3 : Int32)), .val (.int (2 : Int32)), .val (.int (2 : Int32)), .val .null, .val (.int (2 : Int32)), .val (.int (2 : Int32)), .unset, .unset, .unset, .unset, .unset] [(.int (-1231673169 : Int32))])) _
    refine XS.iload X449.here hx rfl (hb hby d8_61) rfl ?_
    show Steps p.tables e below (T449.setTop (mkF m 63 #[.val (.ref cn), .val (.int (3 : Int32)), .val (.int (2 : Int32)), .val (.int (2 : Int32)), .val .null, .val (.int (2 : Int32)), .val (.int (2 : Int32)), .unset, .unset, .unset, .unset, .unset] [(.int (2 : Int32)), (.int (-1231673169 : Int32))])) _
    refine XS.iadd X449.here hx rfl (hb hby d8_63) rfl ?_
    show Steps p.tables e below (T449.setTop (mkF m 64 #[.val (.ref cn), .val (.int (3 : Int32)), .val (.int (2 : Int32)), .val (.int (2 : Int32)), .val .null, .val (.int (2 : Int32)), .val (.int (2 : Int32)), .unset, .unset, .unset, .unset, .unset] [(.int (-1231673167 : Int32))])) _
    refine X449.ldcInt hx hown (mvT hZ (hw _ (List.mem_of_getElem? (i := 44) rfl))) (g := (mkF m 64 #[.val (.ref cn), .val (.int (3 : Int32)), .val (.int (2 : Int32)), .val (.int (2 : Int32)), .val .null, .val (.int (2 : Int32)), .val (.int (2 : Int32)), .unset, .unset, .unset, .unset, .unset] [(.int (-1231673167 : Int32))])) rfl (hb hby d8_64) _ ?_
    show Steps p.tables e below (T449.setTop (mkF m 66 #[.val (.ref cn), .val (.int (3 : Int32)), .val (.int (2 : Int32)), .val (.int (2 : Int32)), .val .null, .val (.int (2 : Int32)), .val (.int (2 : Int32)), .unset, .unset, .unset, .unset, .unset] [(.int (-2048144789 : Int32)), (.int (-1231673167 : Int32))])) _
    refine XS.imul X449.here hx rfl (hb hby d8_66) rfl ?_
    show Steps p.tables e below (T449.setTop (mkF m 67 #[.val (.ref cn), .val (.int (3 : Int32)), .val (.int (2 : Int32)), .val (.int (2 : Int32)), .val .null, .val (.int (2 : Int32)), .val (.int (2 : Int32)), .unset, .unset, .unset, .unset, .unset] [(.int (475638779 : Int32))])) _
    refine XS.iconst X449.here hx rfl (hb hby d8_67) ?_
    show Steps p.tables e below (T449.setTop (mkF m 68 #[.val (.ref cn), .val (.int (3 : Int32)), .val (.int (2 : Int32)), .val (.int (2 : Int32)), .val .null, .val (.int (2 : Int32)), .val (.int (2 : Int32)), .unset, .unset, .unset, .unset, .unset] [(.int (1 : Int32)), (.int (475638779 : Int32))])) _
    refine XS.iushr X449.here hx rfl (hb hby d8_68) rfl ?_
    show Steps p.tables e below (T449.setTop (mkF m 69 #[.val (.ref cn), .val (.int (3 : Int32)), .val (.int (2 : Int32)), .val (.int (2 : Int32)), .val .null, .val (.int (2 : Int32)), .val (.int (2 : Int32)), .unset, .unset, .unset, .unset, .unset] [(.int (237819389 : Int32))])) _
    refine XS.aloadN X449.here hx rfl (hb hby d8_69) rfl rfl ?_
    show Steps p.tables e below (T449.setTop (mkF m 70 #[.val (.ref cn), .val (.int (3 : Int32)), .val (.int (2 : Int32)), .val (.int (2 : Int32)), .val .null, .val (.int (2 : Int32)), .val (.int (2 : Int32)), .unset, .unset, .unset, .unset, .unset] [(.ref cn), (.int (237819389 : Int32))])) _
    refine st450 _ ?_
    show Steps p.tables e below (T450.setTop (mkF m 73 #[.val (.ref cn), .val (.int (3 : Int32)), .val (.int (2 : Int32)), .val (.int (2 : Int32)), .val .null, .val (.int (2 : Int32)), .val (.int (2 : Int32)), .unset, .unset, .unset, .unset, .unset] [(.ref ca), (.int (237819389 : Int32))])) _
    refine X450.arraylength hx (by rw [e450]; exact Ar451.1) (State.isArrayOf_alike hZ.alike Ar451.2.1) (g := (mkF m 73 #[.val (.ref cn), .val (.int (3 : Int32)), .val (.int (2 : Int32)), .val (.int (2 : Int32)), .val .null, .val (.int (2 : Int32)), .val (.int (2 : Int32)), .unset, .unset, .unset, .unset, .unset] [(.ref ca), (.int (237819389 : Int32))])) rfl rfl (hb hby d8_73) _ ?_
    rw [show cl451.slots.size.toInt32 = (16384 : Int32) from by rw [Sz451]; decide]
    show Steps p.tables e below (T450.setTop (mkF m 74 #[.val (.ref cn), .val (.int (3 : Int32)), .val (.int (2 : Int32)), .val (.int (2 : Int32)), .val .null, .val (.int (2 : Int32)), .val (.int (2 : Int32)), .unset, .unset, .unset, .unset, .unset] [(.int (16384 : Int32)), (.int (237819389 : Int32))])) _
    refine XS.iconst X450.here hx rfl (hb hby d8_74) ?_
    show Steps p.tables e below (T450.setTop (mkF m 75 #[.val (.ref cn), .val (.int (3 : Int32)), .val (.int (2 : Int32)), .val (.int (2 : Int32)), .val .null, .val (.int (2 : Int32)), .val (.int (2 : Int32)), .unset, .unset, .unset, .unset, .unset] [(.int (4 : Int32)), (.int (16384 : Int32)), (.int (237819389 : Int32))])) _
    refine XS.idiv X450.here hx rfl (hb hby d8_75) rfl (by decide) ?_
    show Steps p.tables e below (T450.setTop (mkF m 76 #[.val (.ref cn), .val (.int (3 : Int32)), .val (.int (2 : Int32)), .val (.int (2 : Int32)), .val .null, .val (.int (2 : Int32)), .val (.int (2 : Int32)), .unset, .unset, .unset, .unset, .unset] [(.int (4096 : Int32)), (.int (237819389 : Int32))])) _
    refine XS.iconst X450.here hx rfl (hb hby d8_76) ?_
    show Steps p.tables e below (T450.setTop (mkF m 77 #[.val (.ref cn), .val (.int (3 : Int32)), .val (.int (2 : Int32)), .val (.int (2 : Int32)), .val .null, .val (.int (2 : Int32)), .val (.int (2 : Int32)), .unset, .unset, .unset, .unset, .unset] [(.int (1 : Int32)), (.int (4096 : Int32)), (.int (237819389 : Int32))])) _
    refine XS.isub X450.here hx rfl (hb hby d8_77) rfl ?_
    show Steps p.tables e below (T450.setTop (mkF m 78 #[.val (.ref cn), .val (.int (3 : Int32)), .val (.int (2 : Int32)), .val (.int (2 : Int32)), .val .null, .val (.int (2 : Int32)), .val (.int (2 : Int32)), .unset, .unset, .unset, .unset, .unset] [(.int (4095 : Int32)), (.int (237819389 : Int32))])) _
    refine XS.iand X450.here hx rfl (hb hby d8_78) rfl ?_
    show Steps p.tables e below (T450.setTop (mkF m 79 #[.val (.ref cn), .val (.int (3 : Int32)), .val (.int (2 : Int32)), .val (.int (2 : Int32)), .val .null, .val (.int (2 : Int32)), .val (.int (2 : Int32)), .unset, .unset, .unset, .unset, .unset] [(.int (1533 : Int32))])) _
    refine XS.istore X450.here hx rfl (hb hby d8_79) rfl (l' := #[.val (.ref cn), .val (.int (3 : Int32)), .val (.int (2 : Int32)), .val (.int (2 : Int32)), .val .null, .val (.int (2 : Int32)), .val (.int (2 : Int32)), .val (.int (1533 : Int32)), .unset, .unset, .unset, .unset]) rfl ?_
    show Steps p.tables e below (T450.setTop (mkF m 81 #[.val (.ref cn), .val (.int (3 : Int32)), .val (.int (2 : Int32)), .val (.int (2 : Int32)), .val .null, .val (.int (2 : Int32)), .val (.int (2 : Int32)), .val (.int (1533 : Int32)), .unset, .unset, .unset, .unset] [])) _
    refine XS.aloadN X450.here hx rfl (hb hby d8_81) rfl rfl ?_
    show Steps p.tables e below (T450.setTop (mkF m 82 #[.val (.ref cn), .val (.int (3 : Int32)), .val (.int (2 : Int32)), .val (.int (2 : Int32)), .val .null, .val (.int (2 : Int32)), .val (.int (2 : Int32)), .val (.int (1533 : Int32)), .unset, .unset, .unset, .unset] [(.ref cn)])) _
    refine st452 _ ?_
    show Steps p.tables e below (T452.setTop (mkF m 85 #[.val (.ref cn), .val (.int (3 : Int32)), .val (.int (2 : Int32)), .val (.int (2 : Int32)), .val .null, .val (.int (2 : Int32)), .val (.int (2 : Int32)), .val (.int (1533 : Int32)), .unset, .unset, .unset, .unset] [(.ref ca)])) _
    refine XS.iconst X452.here hx rfl (hb hby d8_85) ?_
    show Steps p.tables e below (T452.setTop (mkF m 86 #[.val (.ref cn), .val (.int (3 : Int32)), .val (.int (2 : Int32)), .val (.int (2 : Int32)), .val .null, .val (.int (2 : Int32)), .val (.int (2 : Int32)), .val (.int (1533 : Int32)), .unset, .unset, .unset, .unset] [(.int (4 : Int32)), (.ref ca)])) _
    refine XS.iload X452.here hx rfl (hb hby d8_86) rfl ?_
    show Steps p.tables e below (T452.setTop (mkF m 88 #[.val (.ref cn), .val (.int (3 : Int32)), .val (.int (2 : Int32)), .val (.int (2 : Int32)), .val .null, .val (.int (2 : Int32)), .val (.int (2 : Int32)), .val (.int (1533 : Int32)), .unset, .unset, .unset, .unset] [(.int (1533 : Int32)), (.int (4 : Int32)), (.ref ca)])) _
    refine XS.imul X452.here hx rfl (hb hby d8_88) rfl ?_
    show Steps p.tables e below (T452.setTop (mkF m 89 #[.val (.ref cn), .val (.int (3 : Int32)), .val (.int (2 : Int32)), .val (.int (2 : Int32)), .val .null, .val (.int (2 : Int32)), .val (.int (2 : Int32)), .val (.int (1533 : Int32)), .unset, .unset, .unset, .unset] [(.int (6132 : Int32)), (.ref ca)])) _
    refine X452.iaload hx (j := (6132 : Int32)) (v := (.int (-1 : Int32))) (by rw [e452]; exact Ar453.1) (State.isArrayOf_alike hZ.alike Ar453.2.1) Ar453.2.2 hin453 hat453 (g := (mkF m 89 #[.val (.ref cn), .val (.int (3 : Int32)), .val (.int (2 : Int32)), .val (.int (2 : Int32)), .val .null, .val (.int (2 : Int32)), .val (.int (2 : Int32)), .val (.int (1533 : Int32)), .unset, .unset, .unset, .unset] [(.int (6132 : Int32)), (.ref ca)])) rfl rfl (hb hby d8_89) _ ?_
    show Steps p.tables e below (T452.setTop (mkF m 90 #[.val (.ref cn), .val (.int (3 : Int32)), .val (.int (2 : Int32)), .val (.int (2 : Int32)), .val .null, .val (.int (2 : Int32)), .val (.int (2 : Int32)), .val (.int (1533 : Int32)), .unset, .unset, .unset, .unset] [(.int (-1 : Int32))])) _
    refine XS.iloadN X452.here hx rfl (hb hby d8_90) rfl ?_
    show Steps p.tables e below (T452.setTop (mkF m 91 #[.val (.ref cn), .val (.int (3 : Int32)), .val (.int (2 : Int32)), .val (.int (2 : Int32)), .val .null, .val (.int (2 : Int32)), .val (.int (2 : Int32)), .val (.int (1533 : Int32)), .unset, .unset, .unset, .unset] [(.int (3 : Int32)), (.int (-1 : Int32))])) _
    refine XS.icmpYes X452.here hx rfl (pc0 := 91) (pc' := 138) rfl (hb hby d8_91) rfl (feq (by decide)).2 (by decide) (by decide) ?_
    show Steps p.tables e below (T452.setTop (mkF m 138 #[.val (.ref cn), .val (.int (3 : Int32)), .val (.int (2 : Int32)), .val (.int (2 : Int32)), .val .null, .val (.int (2 : Int32)), .val (.int (2 : Int32)), .val (.int (1533 : Int32)), .unset, .unset, .unset, .unset] [])) _
    refine XS.aloadN X452.here hx rfl (hb hby d8_138) rfl rfl ?_
    show Steps p.tables e below (T452.setTop (mkF m 139 #[.val (.ref cn), .val (.int (3 : Int32)), .val (.int (2 : Int32)), .val (.int (2 : Int32)), .val .null, .val (.int (2 : Int32)), .val (.int (2 : Int32)), .val (.int (1533 : Int32)), .unset, .unset, .unset, .unset] [(.ref cn)])) _
    refine st454 _ ?_
    show Steps p.tables e below (T454.setTop (mkF m 142 #[.val (.ref cn), .val (.int (3 : Int32)), .val (.int (2 : Int32)), .val (.int (2 : Int32)), .val .null, .val (.int (2 : Int32)), .val (.int (2 : Int32)), .val (.int (1533 : Int32)), .unset, .unset, .unset, .unset] [(.ref vs)])) _
    refine XS.iload X454.here hx rfl (hb hby d8_142) rfl ?_
    show Steps p.tables e below (T454.setTop (mkF m 144 #[.val (.ref cn), .val (.int (3 : Int32)), .val (.int (2 : Int32)), .val (.int (2 : Int32)), .val .null, .val (.int (2 : Int32)), .val (.int (2 : Int32)), .val (.int (1533 : Int32)), .unset, .unset, .unset, .unset] [(.int (2 : Int32)), (.ref vs)])) _
    refine X454.iaload hx (j := (2 : Int32)) (v := (.int (0 : Int32))) (by rw [e454]; exact Ar455.1) (State.isArrayOf_alike hZ.alike Ar455.2.1) Ar455.2.2 hin455 hat455 (g := (mkF m 144 #[.val (.ref cn), .val (.int (3 : Int32)), .val (.int (2 : Int32)), .val (.int (2 : Int32)), .val .null, .val (.int (2 : Int32)), .val (.int (2 : Int32)), .val (.int (1533 : Int32)), .unset, .unset, .unset, .unset] [(.int (2 : Int32)), (.ref vs)])) rfl rfl (hb hby d8_144) _ ?_
    show Steps p.tables e below (T454.setTop (mkF m 145 #[.val (.ref cn), .val (.int (3 : Int32)), .val (.int (2 : Int32)), .val (.int (2 : Int32)), .val .null, .val (.int (2 : Int32)), .val (.int (2 : Int32)), .val (.int (1533 : Int32)), .unset, .unset, .unset, .unset] [(.int (0 : Int32))])) _
    refine XS.aloadN X454.here hx rfl (hb hby d8_145) rfl rfl ?_
    show Steps p.tables e below (T454.setTop (mkF m 146 #[.val (.ref cn), .val (.int (3 : Int32)), .val (.int (2 : Int32)), .val (.int (2 : Int32)), .val .null, .val (.int (2 : Int32)), .val (.int (2 : Int32)), .val (.int (1533 : Int32)), .unset, .unset, .unset, .unset] [(.ref cn), (.int (0 : Int32))])) _
    refine st456 _ ?_
    show Steps p.tables e below (T456.setTop (mkF m 149 #[.val (.ref cn), .val (.int (3 : Int32)), .val (.int (2 : Int32)), .val (.int (2 : Int32)), .val .null, .val (.int (2 : Int32)), .val (.int (2 : Int32)), .val (.int (1533 : Int32)), .unset, .unset, .unset, .unset] [(.ref vs), (.int (0 : Int32))])) _
    refine XS.iload X456.here hx rfl (hb hby d8_149) rfl ?_
    show Steps p.tables e below (T456.setTop (mkF m 151 #[.val (.ref cn), .val (.int (3 : Int32)), .val (.int (2 : Int32)), .val (.int (2 : Int32)), .val .null, .val (.int (2 : Int32)), .val (.int (2 : Int32)), .val (.int (1533 : Int32)), .unset, .unset, .unset, .unset] [(.int (2 : Int32)), (.ref vs), (.int (0 : Int32))])) _
    refine X456.iaload hx (j := (2 : Int32)) (v := (.int (0 : Int32))) (by rw [e456]; exact Ar457.1) (State.isArrayOf_alike hZ.alike Ar457.2.1) Ar457.2.2 hin457 hat457 (g := (mkF m 151 #[.val (.ref cn), .val (.int (3 : Int32)), .val (.int (2 : Int32)), .val (.int (2 : Int32)), .val .null, .val (.int (2 : Int32)), .val (.int (2 : Int32)), .val (.int (1533 : Int32)), .unset, .unset, .unset, .unset] [(.int (2 : Int32)), (.ref vs), (.int (0 : Int32))])) rfl rfl (hb hby d8_151) _ ?_
    show Steps p.tables e below (T456.setTop (mkF m 152 #[.val (.ref cn), .val (.int (3 : Int32)), .val (.int (2 : Int32)), .val (.int (2 : Int32)), .val .null, .val (.int (2 : Int32)), .val (.int (2 : Int32)), .val (.int (1533 : Int32)), .unset, .unset, .unset, .unset] [(.int (0 : Int32)), (.int (0 : Int32))])) _
    refine st458 _ ?_
    show Steps p.tables e below (T458.setTop (mkF m 155 #[.val (.ref cn), .val (.int (3 : Int32)), .val (.int (2 : Int32)), .val (.int (2 : Int32)), .val .null, .val (.int (2 : Int32)), .val (.int (2 : Int32)), .val (.int (1533 : Int32)), .unset, .unset, .unset, .unset] [(.int (0 : Int32))])) _
    refine XS.istore X458.here hx rfl (hb hby d8_155) rfl (l' := #[.val (.ref cn), .val (.int (3 : Int32)), .val (.int (2 : Int32)), .val (.int (2 : Int32)), .val .null, .val (.int (2 : Int32)), .val (.int (2 : Int32)), .val (.int (1533 : Int32)), .val (.int (0 : Int32)), .unset, .unset, .unset]) rfl ?_
    show Steps p.tables e below (T458.setTop (mkF m 157 #[.val (.ref cn), .val (.int (3 : Int32)), .val (.int (2 : Int32)), .val (.int (2 : Int32)), .val .null, .val (.int (2 : Int32)), .val (.int (2 : Int32)), .val (.int (1533 : Int32)), .val (.int (0 : Int32)), .unset, .unset, .unset] [])) _
    refine XS.aloadN X458.here hx rfl (hb hby d8_157) rfl rfl ?_
    show Steps p.tables e below (T458.setTop (mkF m 158 #[.val (.ref cn), .val (.int (3 : Int32)), .val (.int (2 : Int32)), .val (.int (2 : Int32)), .val .null, .val (.int (2 : Int32)), .val (.int (2 : Int32)), .val (.int (1533 : Int32)), .val (.int (0 : Int32)), .unset, .unset, .unset] [(.ref cn)])) _
    refine XS.iloadN X458.here hx rfl (hb hby d8_158) rfl ?_
    show Steps p.tables e below (T458.setTop (mkF m 159 #[.val (.ref cn), .val (.int (3 : Int32)), .val (.int (2 : Int32)), .val (.int (2 : Int32)), .val .null, .val (.int (2 : Int32)), .val (.int (2 : Int32)), .val (.int (1533 : Int32)), .val (.int (0 : Int32)), .unset, .unset, .unset] [(.int (3 : Int32)), (.ref cn)])) _
    refine XS.aloadN X458.here hx rfl (hb hby d8_159) rfl rfl ?_
    show Steps p.tables e below (T458.setTop (mkF m 160 #[.val (.ref cn), .val (.int (3 : Int32)), .val (.int (2 : Int32)), .val (.int (2 : Int32)), .val .null, .val (.int (2 : Int32)), .val (.int (2 : Int32)), .val (.int (1533 : Int32)), .val (.int (0 : Int32)), .unset, .unset, .unset] [(.ref cn), (.int (3 : Int32)), (.ref cn)])) _
    refine XS.iload X458.here hx rfl (hb hby d8_160) rfl ?_
    show Steps p.tables e below (T458.setTop (mkF m 162 #[.val (.ref cn), .val (.int (3 : Int32)), .val (.int (2 : Int32)), .val (.int (2 : Int32)), .val .null, .val (.int (2 : Int32)), .val (.int (2 : Int32)), .val (.int (1533 : Int32)), .val (.int (0 : Int32)), .unset, .unset, .unset] [(.int (2 : Int32)), (.ref cn), (.int (3 : Int32)), (.ref cn)])) _
    refine XS.iload X458.here hx rfl (hb hby d8_162) rfl ?_
    show Steps p.tables e below (T458.setTop (mkF m 164 #[.val (.ref cn), .val (.int (3 : Int32)), .val (.int (2 : Int32)), .val (.int (2 : Int32)), .val .null, .val (.int (2 : Int32)), .val (.int (2 : Int32)), .val (.int (1533 : Int32)), .val (.int (0 : Int32)), .unset, .unset, .unset] [(.int (0 : Int32)), (.int (2 : Int32)), (.ref cn), (.int (3 : Int32)), (.ref cn)])) _
    refine XS.iconst X458.here hx rfl (hb hby d8_164) ?_
    show Steps p.tables e below (T458.setTop (mkF m 165 #[.val (.ref cn), .val (.int (3 : Int32)), .val (.int (2 : Int32)), .val (.int (2 : Int32)), .val .null, .val (.int (2 : Int32)), .val (.int (2 : Int32)), .val (.int (1533 : Int32)), .val (.int (0 : Int32)), .unset, .unset, .unset] [(.int (0 : Int32)), (.int (0 : Int32)), (.int (2 : Int32)), (.ref cn), (.int (3 : Int32)), (.ref cn)])) _
    refine st459.trans ?_
    show Steps p.tables e below (T459.setTop (mkF m 168 #[.val (.ref cn), .val (.int (3 : Int32)), .val (.int (2 : Int32)), .val (.int (2 : Int32)), .val .null, .val (.int (2 : Int32)), .val (.int (2 : Int32)), .val (.int (1533 : Int32)), .val (.int (0 : Int32)), .unset, .unset, .unset] [(.int (0 : Int32)), (.int (3 : Int32)), (.ref cn)])) _
    refine XS.aloadN X459.here hx rfl (hb hby d8_168) rfl rfl ?_
    show Steps p.tables e below (T459.setTop (mkF m 169 #[.val (.ref cn), .val (.int (3 : Int32)), .val (.int (2 : Int32)), .val (.int (2 : Int32)), .val .null, .val (.int (2 : Int32)), .val (.int (2 : Int32)), .val (.int (1533 : Int32)), .val (.int (0 : Int32)), .unset, .unset, .unset] [(.ref cn), (.int (0 : Int32)), (.int (3 : Int32)), (.ref cn)])) _
    refine XS.iload X459.here hx rfl (hb hby d8_169) rfl ?_
    show Steps p.tables e below (T459.setTop (mkF m 171 #[.val (.ref cn), .val (.int (3 : Int32)), .val (.int (2 : Int32)), .val (.int (2 : Int32)), .val .null, .val (.int (2 : Int32)), .val (.int (2 : Int32)), .val (.int (1533 : Int32)), .val (.int (0 : Int32)), .unset, .unset, .unset] [(.int (2 : Int32)), (.ref cn), (.int (0 : Int32)), (.int (3 : Int32)), (.ref cn)])) _
    refine XS.iload X459.here hx rfl (hb hby d8_171) rfl ?_
    show Steps p.tables e below (T459.setTop (mkF m 173 #[.val (.ref cn), .val (.int (3 : Int32)), .val (.int (2 : Int32)), .val (.int (2 : Int32)), .val .null, .val (.int (2 : Int32)), .val (.int (2 : Int32)), .val (.int (1533 : Int32)), .val (.int (0 : Int32)), .unset, .unset, .unset] [(.int (0 : Int32)), (.int (2 : Int32)), (.ref cn), (.int (0 : Int32)), (.int (3 : Int32)), (.ref cn)])) _
    refine XS.iconst X459.here hx rfl (hb hby d8_173) ?_
    show Steps p.tables e below (T459.setTop (mkF m 174 #[.val (.ref cn), .val (.int (3 : Int32)), .val (.int (2 : Int32)), .val (.int (2 : Int32)), .val .null, .val (.int (2 : Int32)), .val (.int (2 : Int32)), .val (.int (1533 : Int32)), .val (.int (0 : Int32)), .unset, .unset, .unset] [(.int (0 : Int32)), (.int (0 : Int32)), (.int (2 : Int32)), (.ref cn), (.int (0 : Int32)), (.int (3 : Int32)), (.ref cn)])) _
    refine st460.trans ?_
    show Steps p.tables e below (T460.setTop (mkF m 177 #[.val (.ref cn), .val (.int (3 : Int32)), .val (.int (2 : Int32)), .val (.int (2 : Int32)), .val .null, .val (.int (2 : Int32)), .val (.int (2 : Int32)), .val (.int (1533 : Int32)), .val (.int (0 : Int32)), .unset, .unset, .unset] [(.int (0 : Int32)), (.int (0 : Int32)), (.int (3 : Int32)), (.ref cn)])) _
    refine st461.trans ?_
    show Steps p.tables e below (T461.setTop (mkF m 180 #[.val (.ref cn), .val (.int (3 : Int32)), .val (.int (2 : Int32)), .val (.int (2 : Int32)), .val .null, .val (.int (2 : Int32)), .val (.int (2 : Int32)), .val (.int (1533 : Int32)), .val (.int (0 : Int32)), .unset, .unset, .unset] [(.int (1 : Int32))])) _
    refine XS.istore X461.here hx rfl (hb hby d8_180) rfl (l' := #[.val (.ref cn), .val (.int (3 : Int32)), .val (.int (2 : Int32)), .val (.int (2 : Int32)), .val .null, .val (.int (2 : Int32)), .val (.int (2 : Int32)), .val (.int (1533 : Int32)), .val (.int (0 : Int32)), .val (.int (1 : Int32)), .unset, .unset]) rfl ?_
    show Steps p.tables e below (T461.setTop (mkF m 182 #[.val (.ref cn), .val (.int (3 : Int32)), .val (.int (2 : Int32)), .val (.int (2 : Int32)), .val .null, .val (.int (2 : Int32)), .val (.int (2 : Int32)), .val (.int (1533 : Int32)), .val (.int (0 : Int32)), .val (.int (1 : Int32)), .unset, .unset] [])) _
    refine XS.aloadN X461.here hx rfl (hb hby d8_182) rfl rfl ?_
    show Steps p.tables e below (T461.setTop (mkF m 183 #[.val (.ref cn), .val (.int (3 : Int32)), .val (.int (2 : Int32)), .val (.int (2 : Int32)), .val .null, .val (.int (2 : Int32)), .val (.int (2 : Int32)), .val (.int (1533 : Int32)), .val (.int (0 : Int32)), .val (.int (1 : Int32)), .unset, .unset] [(.ref cn)])) _
    refine XS.iloadN X461.here hx rfl (hb hby d8_183) rfl ?_
    show Steps p.tables e below (T461.setTop (mkF m 184 #[.val (.ref cn), .val (.int (3 : Int32)), .val (.int (2 : Int32)), .val (.int (2 : Int32)), .val .null, .val (.int (2 : Int32)), .val (.int (2 : Int32)), .val (.int (1533 : Int32)), .val (.int (0 : Int32)), .val (.int (1 : Int32)), .unset, .unset] [(.int (3 : Int32)), (.ref cn)])) _
    refine XS.aloadN X461.here hx rfl (hb hby d8_184) rfl rfl ?_
    show Steps p.tables e below (T461.setTop (mkF m 185 #[.val (.ref cn), .val (.int (3 : Int32)), .val (.int (2 : Int32)), .val (.int (2 : Int32)), .val .null, .val (.int (2 : Int32)), .val (.int (2 : Int32)), .val (.int (1533 : Int32)), .val (.int (0 : Int32)), .val (.int (1 : Int32)), .unset, .unset] [(.ref cn), (.int (3 : Int32)), (.ref cn)])) _
    refine XS.iload X461.here hx rfl (hb hby d8_185) rfl ?_
    show Steps p.tables e below (T461.setTop (mkF m 187 #[.val (.ref cn), .val (.int (3 : Int32)), .val (.int (2 : Int32)), .val (.int (2 : Int32)), .val .null, .val (.int (2 : Int32)), .val (.int (2 : Int32)), .val (.int (1533 : Int32)), .val (.int (0 : Int32)), .val (.int (1 : Int32)), .unset, .unset] [(.int (2 : Int32)), (.ref cn), (.int (3 : Int32)), (.ref cn)])) _
    refine XS.iload X461.here hx rfl (hb hby d8_187) rfl ?_
    show Steps p.tables e below (T461.setTop (mkF m 189 #[.val (.ref cn), .val (.int (3 : Int32)), .val (.int (2 : Int32)), .val (.int (2 : Int32)), .val .null, .val (.int (2 : Int32)), .val (.int (2 : Int32)), .val (.int (1533 : Int32)), .val (.int (0 : Int32)), .val (.int (1 : Int32)), .unset, .unset] [(.int (0 : Int32)), (.int (2 : Int32)), (.ref cn), (.int (3 : Int32)), (.ref cn)])) _
    refine XS.iconst X461.here hx rfl (hb hby d8_189) ?_
    show Steps p.tables e below (T461.setTop (mkF m 190 #[.val (.ref cn), .val (.int (3 : Int32)), .val (.int (2 : Int32)), .val (.int (2 : Int32)), .val .null, .val (.int (2 : Int32)), .val (.int (2 : Int32)), .val (.int (1533 : Int32)), .val (.int (0 : Int32)), .val (.int (1 : Int32)), .unset, .unset] [(.int (1 : Int32)), (.int (0 : Int32)), (.int (2 : Int32)), (.ref cn), (.int (3 : Int32)), (.ref cn)])) _
    refine st462.trans ?_
    show Steps p.tables e below (T462.setTop (mkF m 193 #[.val (.ref cn), .val (.int (3 : Int32)), .val (.int (2 : Int32)), .val (.int (2 : Int32)), .val .null, .val (.int (2 : Int32)), .val (.int (2 : Int32)), .val (.int (1533 : Int32)), .val (.int (0 : Int32)), .val (.int (1 : Int32)), .unset, .unset] [(.int (1 : Int32)), (.int (3 : Int32)), (.ref cn)])) _
    refine XS.aloadN X462.here hx rfl (hb hby d8_193) rfl rfl ?_
    show Steps p.tables e below (T462.setTop (mkF m 194 #[.val (.ref cn), .val (.int (3 : Int32)), .val (.int (2 : Int32)), .val (.int (2 : Int32)), .val .null, .val (.int (2 : Int32)), .val (.int (2 : Int32)), .val (.int (1533 : Int32)), .val (.int (0 : Int32)), .val (.int (1 : Int32)), .unset, .unset] [(.ref cn), (.int (1 : Int32)), (.int (3 : Int32)), (.ref cn)])) _
    refine XS.iload X462.here hx rfl (hb hby d8_194) rfl ?_
    show Steps p.tables e below (T462.setTop (mkF m 196 #[.val (.ref cn), .val (.int (3 : Int32)), .val (.int (2 : Int32)), .val (.int (2 : Int32)), .val .null, .val (.int (2 : Int32)), .val (.int (2 : Int32)), .val (.int (1533 : Int32)), .val (.int (0 : Int32)), .val (.int (1 : Int32)), .unset, .unset] [(.int (2 : Int32)), (.ref cn), (.int (1 : Int32)), (.int (3 : Int32)), (.ref cn)])) _
    refine XS.iload X462.here hx rfl (hb hby d8_196) rfl ?_
    show Steps p.tables e below (T462.setTop (mkF m 198 #[.val (.ref cn), .val (.int (3 : Int32)), .val (.int (2 : Int32)), .val (.int (2 : Int32)), .val .null, .val (.int (2 : Int32)), .val (.int (2 : Int32)), .val (.int (1533 : Int32)), .val (.int (0 : Int32)), .val (.int (1 : Int32)), .unset, .unset] [(.int (0 : Int32)), (.int (2 : Int32)), (.ref cn), (.int (1 : Int32)), (.int (3 : Int32)), (.ref cn)])) _
    refine XS.iconst X462.here hx rfl (hb hby d8_198) ?_
    show Steps p.tables e below (T462.setTop (mkF m 199 #[.val (.ref cn), .val (.int (3 : Int32)), .val (.int (2 : Int32)), .val (.int (2 : Int32)), .val .null, .val (.int (2 : Int32)), .val (.int (2 : Int32)), .val (.int (1533 : Int32)), .val (.int (0 : Int32)), .val (.int (1 : Int32)), .unset, .unset] [(.int (1 : Int32)), (.int (0 : Int32)), (.int (2 : Int32)), (.ref cn), (.int (1 : Int32)), (.int (3 : Int32)), (.ref cn)])) _
    refine st463.trans ?_
    show Steps p.tables e below (T463.setTop (mkF m 202 #[.val (.ref cn), .val (.int (3 : Int32)), .val (.int (2 : Int32)), .val (.int (2 : Int32)), .val .null, .val (.int (2 : Int32)), .val (.int (2 : Int32)), .val (.int (1533 : Int32)), .val (.int (0 : Int32)), .val (.int (1 : Int32)), .unset, .unset] [(.int (1 : Int32)), (.int (1 : Int32)), (.int (3 : Int32)), (.ref cn)])) _
    refine st464.trans ?_
    show Steps p.tables e below (T464.setTop (mkF m 205 #[.val (.ref cn), .val (.int (3 : Int32)), .val (.int (2 : Int32)), .val (.int (2 : Int32)), .val .null, .val (.int (2 : Int32)), .val (.int (2 : Int32)), .val (.int (1533 : Int32)), .val (.int (0 : Int32)), .val (.int (1 : Int32)), .unset, .unset] [(.int (0 : Int32))])) _
    refine XS.istore X464.here hx rfl (hb hby d8_205) rfl (l' := #[.val (.ref cn), .val (.int (3 : Int32)), .val (.int (2 : Int32)), .val (.int (2 : Int32)), .val .null, .val (.int (2 : Int32)), .val (.int (2 : Int32)), .val (.int (1533 : Int32)), .val (.int (0 : Int32)), .val (.int (1 : Int32)), .val (.int (0 : Int32)), .unset]) rfl ?_
    show Steps p.tables e below (T464.setTop (mkF m 207 #[.val (.ref cn), .val (.int (3 : Int32)), .val (.int (2 : Int32)), .val (.int (2 : Int32)), .val .null, .val (.int (2 : Int32)), .val (.int (2 : Int32)), .val (.int (1533 : Int32)), .val (.int (0 : Int32)), .val (.int (1 : Int32)), .val (.int (0 : Int32)), .unset] [])) _
    refine XS.aloadN X464.here hx rfl (hb hby d8_207) rfl rfl ?_
    show Steps p.tables e below (T464.setTop (mkF m 208 #[.val (.ref cn), .val (.int (3 : Int32)), .val (.int (2 : Int32)), .val (.int (2 : Int32)), .val .null, .val (.int (2 : Int32)), .val (.int (2 : Int32)), .val (.int (1533 : Int32)), .val (.int (0 : Int32)), .val (.int (1 : Int32)), .val (.int (0 : Int32)), .unset] [(.ref cn)])) _
    refine XS.iload X464.here hx rfl (hb hby d8_208) rfl ?_
    show Steps p.tables e below (T464.setTop (mkF m 210 #[.val (.ref cn), .val (.int (3 : Int32)), .val (.int (2 : Int32)), .val (.int (2 : Int32)), .val .null, .val (.int (2 : Int32)), .val (.int (2 : Int32)), .val (.int (1533 : Int32)), .val (.int (0 : Int32)), .val (.int (1 : Int32)), .val (.int (0 : Int32)), .unset] [(.int (0 : Int32)), (.ref cn)])) _
    refine XS.iload X464.here hx rfl (hb hby d8_210) rfl ?_
    show Steps p.tables e below (T464.setTop (mkF m 212 #[.val (.ref cn), .val (.int (3 : Int32)), .val (.int (2 : Int32)), .val (.int (2 : Int32)), .val .null, .val (.int (2 : Int32)), .val (.int (2 : Int32)), .val (.int (1533 : Int32)), .val (.int (0 : Int32)), .val (.int (1 : Int32)), .val (.int (0 : Int32)), .unset] [(.int (1 : Int32)), (.int (0 : Int32)), (.ref cn)])) _
    refine XS.iload X464.here hx rfl (hb hby d8_212) rfl ?_
    show Steps p.tables e below (T464.setTop (mkF m 214 #[.val (.ref cn), .val (.int (3 : Int32)), .val (.int (2 : Int32)), .val (.int (2 : Int32)), .val .null, .val (.int (2 : Int32)), .val (.int (2 : Int32)), .val (.int (1533 : Int32)), .val (.int (0 : Int32)), .val (.int (1 : Int32)), .val (.int (0 : Int32)), .unset] [(.int (0 : Int32)), (.int (1 : Int32)), (.int (0 : Int32)), (.ref cn)])) _
    refine st465.trans ?_
    show Steps p.tables e below (T465.setTop (mkF m 217 #[.val (.ref cn), .val (.int (3 : Int32)), .val (.int (2 : Int32)), .val (.int (2 : Int32)), .val .null, .val (.int (2 : Int32)), .val (.int (2 : Int32)), .val (.int (1533 : Int32)), .val (.int (0 : Int32)), .val (.int (1 : Int32)), .val (.int (0 : Int32)), .unset] [(.int (3 : Int32))])) _
    refine XS.istore X465.here hx rfl (hb hby d8_217) rfl (l' := #[.val (.ref cn), .val (.int (3 : Int32)), .val (.int (2 : Int32)), .val (.int (2 : Int32)), .val .null, .val (.int (2 : Int32)), .val (.int (2 : Int32)), .val (.int (1533 : Int32)), .val (.int (0 : Int32)), .val (.int (1 : Int32)), .val (.int (0 : Int32)), .val (.int (3 : Int32))]) rfl ?_
    show Steps p.tables e below (T465.setTop (mkF m 219 #[.val (.ref cn), .val (.int (3 : Int32)), .val (.int (2 : Int32)), .val (.int (2 : Int32)), .val .null, .val (.int (2 : Int32)), .val (.int (2 : Int32)), .val (.int (1533 : Int32)), .val (.int (0 : Int32)), .val (.int (1 : Int32)), .val (.int (0 : Int32)), .val (.int (3 : Int32))] [])) _
    refine XS.iloadN X465.here hx rfl (hb hby d8_219) rfl ?_
    show Steps p.tables e below (T465.setTop (mkF m 220 #[.val (.ref cn), .val (.int (3 : Int32)), .val (.int (2 : Int32)), .val (.int (2 : Int32)), .val .null, .val (.int (2 : Int32)), .val (.int (2 : Int32)), .val (.int (1533 : Int32)), .val (.int (0 : Int32)), .val (.int (1 : Int32)), .val (.int (0 : Int32)), .val (.int (3 : Int32))] [(.int (3 : Int32))])) _
    refine XS.bipush X465.here hx rfl (hb hby d8_220) ?_
    show Steps p.tables e below (T465.setTop (mkF m 222 #[.val (.ref cn), .val (.int (3 : Int32)), .val (.int (2 : Int32)), .val (.int (2 : Int32)), .val .null, .val (.int (2 : Int32)), .val (.int (2 : Int32)), .val (.int (1533 : Int32)), .val (.int (0 : Int32)), .val (.int (1 : Int32)), .val (.int (0 : Int32)), .val (.int (3 : Int32))] [(.int (31 : Int32)), (.int (3 : Int32))])) _
    refine XS.imul X465.here hx rfl (hb hby d8_222) rfl ?_
    show Steps p.tables e below (T465.setTop (mkF m 223 #[.val (.ref cn), .val (.int (3 : Int32)), .val (.int (2 : Int32)), .val (.int (2 : Int32)), .val .null, .val (.int (2 : Int32)), .val (.int (2 : Int32)), .val (.int (1533 : Int32)), .val (.int (0 : Int32)), .val (.int (1 : Int32)), .val (.int (0 : Int32)), .val (.int (3 : Int32))] [(.int (93 : Int32))])) _
    refine XS.iload X465.here hx rfl (hb hby d8_223) rfl ?_
    show Steps p.tables e below (T465.setTop (mkF m 225 #[.val (.ref cn), .val (.int (3 : Int32)), .val (.int (2 : Int32)), .val (.int (2 : Int32)), .val .null, .val (.int (2 : Int32)), .val (.int (2 : Int32)), .val (.int (1533 : Int32)), .val (.int (0 : Int32)), .val (.int (1 : Int32)), .val (.int (0 : Int32)), .val (.int (3 : Int32))] [(.int (2 : Int32)), (.int (93 : Int32))])) _
    refine XS.iadd X465.here hx rfl (hb hby d8_225) rfl ?_
    show Steps p.tables e below (T465.setTop (mkF m 226 #[.val (.ref cn), .val (.int (3 : Int32)), .val (.int (2 : Int32)), .val (.int (2 : Int32)), .val .null, .val (.int (2 : Int32)), .val (.int (2 : Int32)), .val (.int (1533 : Int32)), .val (.int (0 : Int32)), .val (.int (1 : Int32)), .val (.int (0 : Int32)), .val (.int (3 : Int32))] [(.int (95 : Int32))])) _
    refine X465.ldcInt hx hown (mvT hZ (hw _ (List.mem_of_getElem? (i := 43) rfl))) (g := (mkF m 226 #[.val (.ref cn), .val (.int (3 : Int32)), .val (.int (2 : Int32)), .val (.int (2 : Int32)), .val .null, .val (.int (2 : Int32)), .val (.int (2 : Int32)), .val (.int (1533 : Int32)), .val (.int (0 : Int32)), .val (.int (1 : Int32)), .val (.int (0 : Int32)), .val (.int (3 : Int32))] [(.int (95 : Int32))])) rfl (hb hby d8_226) _ ?_
    show Steps p.tables e below (T465.setTop (mkF m 228 #[.val (.ref cn), .val (.int (3 : Int32)), .val (.int (2 : Int32)), .val (.int (2 : Int32)), .val .null, .val (.int (2 : Int32)), .val (.int (2 : Int32)), .val (.int (1533 : Int32)), .val (.int (0 : Int32)), .val (.int (1 : Int32)), .val (.int (0 : Int32)), .val (.int (3 : Int32))] [(.int (-1640531535 : Int32)), (.int (95 : Int32))])) _
    refine XS.imul X465.here hx rfl (hb hby d8_228) rfl ?_
    show Steps p.tables e below (T465.setTop (mkF m 229 #[.val (.ref cn), .val (.int (3 : Int32)), .val (.int (2 : Int32)), .val (.int (2 : Int32)), .val .null, .val (.int (2 : Int32)), .val (.int (2 : Int32)), .val (.int (1533 : Int32)), .val (.int (0 : Int32)), .val (.int (1 : Int32)), .val (.int (0 : Int32)), .val (.int (3 : Int32))] [(.int (-1231673169 : Int32))])) _
    refine XS.iload X465.here hx rfl (hb hby d8_229) rfl ?_
    show Steps p.tables e below (T465.setTop (mkF m 231 #[.val (.ref cn), .val (.int (3 : Int32)), .val (.int (2 : Int32)), .val (.int (2 : Int32)), .val .null, .val (.int (2 : Int32)), .val (.int (2 : Int32)), .val (.int (1533 : Int32)), .val (.int (0 : Int32)), .val (.int (1 : Int32)), .val (.int (0 : Int32)), .val (.int (3 : Int32))] [(.int (2 : Int32)), (.int (-1231673169 : Int32))])) _
    refine XS.iadd X465.here hx rfl (hb hby d8_231) rfl ?_
    show Steps p.tables e below (T465.setTop (mkF m 232 #[.val (.ref cn), .val (.int (3 : Int32)), .val (.int (2 : Int32)), .val (.int (2 : Int32)), .val .null, .val (.int (2 : Int32)), .val (.int (2 : Int32)), .val (.int (1533 : Int32)), .val (.int (0 : Int32)), .val (.int (1 : Int32)), .val (.int (0 : Int32)), .val (.int (3 : Int32))] [(.int (-1231673167 : Int32))])) _
    refine X465.ldcInt hx hown (mvT hZ (hw _ (List.mem_of_getElem? (i := 44) rfl))) (g := (mkF m 232 #[.val (.ref cn), .val (.int (3 : Int32)), .val (.int (2 : Int32)), .val (.int (2 : Int32)), .val .null, .val (.int (2 : Int32)), .val (.int (2 : Int32)), .val (.int (1533 : Int32)), .val (.int (0 : Int32)), .val (.int (1 : Int32)), .val (.int (0 : Int32)), .val (.int (3 : Int32))] [(.int (-1231673167 : Int32))])) rfl (hb hby d8_232) _ ?_
    show Steps p.tables e below (T465.setTop (mkF m 234 #[.val (.ref cn), .val (.int (3 : Int32)), .val (.int (2 : Int32)), .val (.int (2 : Int32)), .val .null, .val (.int (2 : Int32)), .val (.int (2 : Int32)), .val (.int (1533 : Int32)), .val (.int (0 : Int32)), .val (.int (1 : Int32)), .val (.int (0 : Int32)), .val (.int (3 : Int32))] [(.int (-2048144789 : Int32)), (.int (-1231673167 : Int32))])) _
    refine XS.imul X465.here hx rfl (hb hby d8_234) rfl ?_
    show Steps p.tables e below (T465.setTop (mkF m 235 #[.val (.ref cn), .val (.int (3 : Int32)), .val (.int (2 : Int32)), .val (.int (2 : Int32)), .val .null, .val (.int (2 : Int32)), .val (.int (2 : Int32)), .val (.int (1533 : Int32)), .val (.int (0 : Int32)), .val (.int (1 : Int32)), .val (.int (0 : Int32)), .val (.int (3 : Int32))] [(.int (475638779 : Int32))])) _
    refine XS.iconst X465.here hx rfl (hb hby d8_235) ?_
    show Steps p.tables e below (T465.setTop (mkF m 236 #[.val (.ref cn), .val (.int (3 : Int32)), .val (.int (2 : Int32)), .val (.int (2 : Int32)), .val .null, .val (.int (2 : Int32)), .val (.int (2 : Int32)), .val (.int (1533 : Int32)), .val (.int (0 : Int32)), .val (.int (1 : Int32)), .val (.int (0 : Int32)), .val (.int (3 : Int32))] [(.int (1 : Int32)), (.int (475638779 : Int32))])) _
    refine XS.iushr X465.here hx rfl (hb hby d8_236) rfl ?_
    show Steps p.tables e below (T465.setTop (mkF m 237 #[.val (.ref cn), .val (.int (3 : Int32)), .val (.int (2 : Int32)), .val (.int (2 : Int32)), .val .null, .val (.int (2 : Int32)), .val (.int (2 : Int32)), .val (.int (1533 : Int32)), .val (.int (0 : Int32)), .val (.int (1 : Int32)), .val (.int (0 : Int32)), .val (.int (3 : Int32))] [(.int (237819389 : Int32))])) _
    refine XS.aloadN X465.here hx rfl (hb hby d8_237) rfl rfl ?_
    show Steps p.tables e below (T465.setTop (mkF m 238 #[.val (.ref cn), .val (.int (3 : Int32)), .val (.int (2 : Int32)), .val (.int (2 : Int32)), .val .null, .val (.int (2 : Int32)), .val (.int (2 : Int32)), .val (.int (1533 : Int32)), .val (.int (0 : Int32)), .val (.int (1 : Int32)), .val (.int (0 : Int32)), .val (.int (3 : Int32))] [(.ref cn), (.int (237819389 : Int32))])) _
    refine st466 _ ?_
    show Steps p.tables e below (T466.setTop (mkF m 241 #[.val (.ref cn), .val (.int (3 : Int32)), .val (.int (2 : Int32)), .val (.int (2 : Int32)), .val .null, .val (.int (2 : Int32)), .val (.int (2 : Int32)), .val (.int (1533 : Int32)), .val (.int (0 : Int32)), .val (.int (1 : Int32)), .val (.int (0 : Int32)), .val (.int (3 : Int32))] [(.ref ca), (.int (237819389 : Int32))])) _
    refine X466.arraylength hx (by rw [e466]; exact Ar467.1) (State.isArrayOf_alike hZ.alike Ar467.2.1) (g := (mkF m 241 #[.val (.ref cn), .val (.int (3 : Int32)), .val (.int (2 : Int32)), .val (.int (2 : Int32)), .val .null, .val (.int (2 : Int32)), .val (.int (2 : Int32)), .val (.int (1533 : Int32)), .val (.int (0 : Int32)), .val (.int (1 : Int32)), .val (.int (0 : Int32)), .val (.int (3 : Int32))] [(.ref ca), (.int (237819389 : Int32))])) rfl rfl (hb hby d8_241) _ ?_
    rw [show cl467.slots.size.toInt32 = (16384 : Int32) from by rw [Sz467]; decide]
    show Steps p.tables e below (T466.setTop (mkF m 242 #[.val (.ref cn), .val (.int (3 : Int32)), .val (.int (2 : Int32)), .val (.int (2 : Int32)), .val .null, .val (.int (2 : Int32)), .val (.int (2 : Int32)), .val (.int (1533 : Int32)), .val (.int (0 : Int32)), .val (.int (1 : Int32)), .val (.int (0 : Int32)), .val (.int (3 : Int32))] [(.int (16384 : Int32)), (.int (237819389 : Int32))])) _
    refine XS.iconst X466.here hx rfl (hb hby d8_242) ?_
    show Steps p.tables e below (T466.setTop (mkF m 243 #[.val (.ref cn), .val (.int (3 : Int32)), .val (.int (2 : Int32)), .val (.int (2 : Int32)), .val .null, .val (.int (2 : Int32)), .val (.int (2 : Int32)), .val (.int (1533 : Int32)), .val (.int (0 : Int32)), .val (.int (1 : Int32)), .val (.int (0 : Int32)), .val (.int (3 : Int32))] [(.int (4 : Int32)), (.int (16384 : Int32)), (.int (237819389 : Int32))])) _
    refine XS.idiv X466.here hx rfl (hb hby d8_243) rfl (by decide) ?_
    show Steps p.tables e below (T466.setTop (mkF m 244 #[.val (.ref cn), .val (.int (3 : Int32)), .val (.int (2 : Int32)), .val (.int (2 : Int32)), .val .null, .val (.int (2 : Int32)), .val (.int (2 : Int32)), .val (.int (1533 : Int32)), .val (.int (0 : Int32)), .val (.int (1 : Int32)), .val (.int (0 : Int32)), .val (.int (3 : Int32))] [(.int (4096 : Int32)), (.int (237819389 : Int32))])) _
    refine XS.iconst X466.here hx rfl (hb hby d8_244) ?_
    show Steps p.tables e below (T466.setTop (mkF m 245 #[.val (.ref cn), .val (.int (3 : Int32)), .val (.int (2 : Int32)), .val (.int (2 : Int32)), .val .null, .val (.int (2 : Int32)), .val (.int (2 : Int32)), .val (.int (1533 : Int32)), .val (.int (0 : Int32)), .val (.int (1 : Int32)), .val (.int (0 : Int32)), .val (.int (3 : Int32))] [(.int (1 : Int32)), (.int (4096 : Int32)), (.int (237819389 : Int32))])) _
    refine XS.isub X466.here hx rfl (hb hby d8_245) rfl ?_
    show Steps p.tables e below (T466.setTop (mkF m 246 #[.val (.ref cn), .val (.int (3 : Int32)), .val (.int (2 : Int32)), .val (.int (2 : Int32)), .val .null, .val (.int (2 : Int32)), .val (.int (2 : Int32)), .val (.int (1533 : Int32)), .val (.int (0 : Int32)), .val (.int (1 : Int32)), .val (.int (0 : Int32)), .val (.int (3 : Int32))] [(.int (4095 : Int32)), (.int (237819389 : Int32))])) _
    refine XS.iand X466.here hx rfl (hb hby d8_246) rfl ?_
    show Steps p.tables e below (T466.setTop (mkF m 247 #[.val (.ref cn), .val (.int (3 : Int32)), .val (.int (2 : Int32)), .val (.int (2 : Int32)), .val .null, .val (.int (2 : Int32)), .val (.int (2 : Int32)), .val (.int (1533 : Int32)), .val (.int (0 : Int32)), .val (.int (1 : Int32)), .val (.int (0 : Int32)), .val (.int (3 : Int32))] [(.int (1533 : Int32))])) _
    refine XS.istore X466.here hx rfl (hb hby d8_247) rfl (l' := #[.val (.ref cn), .val (.int (3 : Int32)), .val (.int (2 : Int32)), .val (.int (2 : Int32)), .val .null, .val (.int (2 : Int32)), .val (.int (2 : Int32)), .val (.int (1533 : Int32)), .val (.int (0 : Int32)), .val (.int (1 : Int32)), .val (.int (0 : Int32)), .val (.int (3 : Int32))]) rfl ?_
    show Steps p.tables e below (T466.setTop (mkF m 249 #[.val (.ref cn), .val (.int (3 : Int32)), .val (.int (2 : Int32)), .val (.int (2 : Int32)), .val .null, .val (.int (2 : Int32)), .val (.int (2 : Int32)), .val (.int (1533 : Int32)), .val (.int (0 : Int32)), .val (.int (1 : Int32)), .val (.int (0 : Int32)), .val (.int (3 : Int32))] [])) _
    refine XS.aloadN X466.here hx rfl (hb hby d8_249) rfl rfl ?_
    show Steps p.tables e below (T466.setTop (mkF m 250 #[.val (.ref cn), .val (.int (3 : Int32)), .val (.int (2 : Int32)), .val (.int (2 : Int32)), .val .null, .val (.int (2 : Int32)), .val (.int (2 : Int32)), .val (.int (1533 : Int32)), .val (.int (0 : Int32)), .val (.int (1 : Int32)), .val (.int (0 : Int32)), .val (.int (3 : Int32))] [(.ref cn)])) _
    refine st468 _ ?_
    show Steps p.tables e below (T468.setTop (mkF m 253 #[.val (.ref cn), .val (.int (3 : Int32)), .val (.int (2 : Int32)), .val (.int (2 : Int32)), .val .null, .val (.int (2 : Int32)), .val (.int (2 : Int32)), .val (.int (1533 : Int32)), .val (.int (0 : Int32)), .val (.int (1 : Int32)), .val (.int (0 : Int32)), .val (.int (3 : Int32))] [(.ref ca)])) _
    refine XS.iconst X468.here hx rfl (hb hby d8_253) ?_
    show Steps p.tables e below (T468.setTop (mkF m 254 #[.val (.ref cn), .val (.int (3 : Int32)), .val (.int (2 : Int32)), .val (.int (2 : Int32)), .val .null, .val (.int (2 : Int32)), .val (.int (2 : Int32)), .val (.int (1533 : Int32)), .val (.int (0 : Int32)), .val (.int (1 : Int32)), .val (.int (0 : Int32)), .val (.int (3 : Int32))] [(.int (4 : Int32)), (.ref ca)])) _
    refine XS.iload X468.here hx rfl (hb hby d8_254) rfl ?_
    show Steps p.tables e below (T468.setTop (mkF m 256 #[.val (.ref cn), .val (.int (3 : Int32)), .val (.int (2 : Int32)), .val (.int (2 : Int32)), .val .null, .val (.int (2 : Int32)), .val (.int (2 : Int32)), .val (.int (1533 : Int32)), .val (.int (0 : Int32)), .val (.int (1 : Int32)), .val (.int (0 : Int32)), .val (.int (3 : Int32))] [(.int (1533 : Int32)), (.int (4 : Int32)), (.ref ca)])) _
    refine XS.imul X468.here hx rfl (hb hby d8_256) rfl ?_
    show Steps p.tables e below (T468.setTop (mkF m 257 #[.val (.ref cn), .val (.int (3 : Int32)), .val (.int (2 : Int32)), .val (.int (2 : Int32)), .val .null, .val (.int (2 : Int32)), .val (.int (2 : Int32)), .val (.int (1533 : Int32)), .val (.int (0 : Int32)), .val (.int (1 : Int32)), .val (.int (0 : Int32)), .val (.int (3 : Int32))] [(.int (6132 : Int32)), (.ref ca)])) _
    refine XS.iloadN X468.here hx rfl (hb hby d8_257) rfl ?_
    show Steps p.tables e below (T468.setTop (mkF m 258 #[.val (.ref cn), .val (.int (3 : Int32)), .val (.int (2 : Int32)), .val (.int (2 : Int32)), .val .null, .val (.int (2 : Int32)), .val (.int (2 : Int32)), .val (.int (1533 : Int32)), .val (.int (0 : Int32)), .val (.int (1 : Int32)), .val (.int (0 : Int32)), .val (.int (3 : Int32))] [(.int (3 : Int32)), (.int (6132 : Int32)), (.ref ca)])) _
    refine st470 _ ?_
    show Steps p.tables e below (T470.setTop (mkF m 259 #[.val (.ref cn), .val (.int (3 : Int32)), .val (.int (2 : Int32)), .val (.int (2 : Int32)), .val .null, .val (.int (2 : Int32)), .val (.int (2 : Int32)), .val (.int (1533 : Int32)), .val (.int (0 : Int32)), .val (.int (1 : Int32)), .val (.int (0 : Int32)), .val (.int (3 : Int32))] [])) _
    refine XS.aloadN X470.here hx rfl (hb hby d8_259) rfl rfl ?_
    show Steps p.tables e below (T470.setTop (mkF m 260 #[.val (.ref cn), .val (.int (3 : Int32)), .val (.int (2 : Int32)), .val (.int (2 : Int32)), .val .null, .val (.int (2 : Int32)), .val (.int (2 : Int32)), .val (.int (1533 : Int32)), .val (.int (0 : Int32)), .val (.int (1 : Int32)), .val (.int (0 : Int32)), .val (.int (3 : Int32))] [(.ref cn)])) _
    refine st484 _ ?_
    show Steps p.tables e below (T484.setTop (mkF m 263 #[.val (.ref cn), .val (.int (3 : Int32)), .val (.int (2 : Int32)), .val (.int (2 : Int32)), .val .null, .val (.int (2 : Int32)), .val (.int (2 : Int32)), .val (.int (1533 : Int32)), .val (.int (0 : Int32)), .val (.int (1 : Int32)), .val (.int (0 : Int32)), .val (.int (3 : Int32))] [(.ref ca)])) _
    refine XS.iconst X484.here hx rfl (hb hby d8_263) ?_
    show Steps p.tables e below (T484.setTop (mkF m 264 #[.val (.ref cn), .val (.int (3 : Int32)), .val (.int (2 : Int32)), .val (.int (2 : Int32)), .val .null, .val (.int (2 : Int32)), .val (.int (2 : Int32)), .val (.int (1533 : Int32)), .val (.int (0 : Int32)), .val (.int (1 : Int32)), .val (.int (0 : Int32)), .val (.int (3 : Int32))] [(.int (4 : Int32)), (.ref ca)])) _
    refine XS.iload X484.here hx rfl (hb hby d8_264) rfl ?_
    show Steps p.tables e below (T484.setTop (mkF m 266 #[.val (.ref cn), .val (.int (3 : Int32)), .val (.int (2 : Int32)), .val (.int (2 : Int32)), .val .null, .val (.int (2 : Int32)), .val (.int (2 : Int32)), .val (.int (1533 : Int32)), .val (.int (0 : Int32)), .val (.int (1 : Int32)), .val (.int (0 : Int32)), .val (.int (3 : Int32))] [(.int (1533 : Int32)), (.int (4 : Int32)), (.ref ca)])) _
    refine XS.imul X484.here hx rfl (hb hby d8_266) rfl ?_
    show Steps p.tables e below (T484.setTop (mkF m 267 #[.val (.ref cn), .val (.int (3 : Int32)), .val (.int (2 : Int32)), .val (.int (2 : Int32)), .val .null, .val (.int (2 : Int32)), .val (.int (2 : Int32)), .val (.int (1533 : Int32)), .val (.int (0 : Int32)), .val (.int (1 : Int32)), .val (.int (0 : Int32)), .val (.int (3 : Int32))] [(.int (6132 : Int32)), (.ref ca)])) _
    refine XS.iconst X484.here hx rfl (hb hby d8_267) ?_
    show Steps p.tables e below (T484.setTop (mkF m 268 #[.val (.ref cn), .val (.int (3 : Int32)), .val (.int (2 : Int32)), .val (.int (2 : Int32)), .val .null, .val (.int (2 : Int32)), .val (.int (2 : Int32)), .val (.int (1533 : Int32)), .val (.int (0 : Int32)), .val (.int (1 : Int32)), .val (.int (0 : Int32)), .val (.int (3 : Int32))] [(.int (1 : Int32)), (.int (6132 : Int32)), (.ref ca)])) _
    refine XS.iadd X484.here hx rfl (hb hby d8_268) rfl ?_
    show Steps p.tables e below (T484.setTop (mkF m 269 #[.val (.ref cn), .val (.int (3 : Int32)), .val (.int (2 : Int32)), .val (.int (2 : Int32)), .val .null, .val (.int (2 : Int32)), .val (.int (2 : Int32)), .val (.int (1533 : Int32)), .val (.int (0 : Int32)), .val (.int (1 : Int32)), .val (.int (0 : Int32)), .val (.int (3 : Int32))] [(.int (6133 : Int32)), (.ref ca)])) _
    refine XS.iload X484.here hx rfl (hb hby d8_269) rfl ?_
    show Steps p.tables e below (T484.setTop (mkF m 271 #[.val (.ref cn), .val (.int (3 : Int32)), .val (.int (2 : Int32)), .val (.int (2 : Int32)), .val .null, .val (.int (2 : Int32)), .val (.int (2 : Int32)), .val (.int (1533 : Int32)), .val (.int (0 : Int32)), .val (.int (1 : Int32)), .val (.int (0 : Int32)), .val (.int (3 : Int32))] [(.int (2 : Int32)), (.int (6133 : Int32)), (.ref ca)])) _
    refine st486 _ ?_
    show Steps p.tables e below (T486.setTop (mkF m 272 #[.val (.ref cn), .val (.int (3 : Int32)), .val (.int (2 : Int32)), .val (.int (2 : Int32)), .val .null, .val (.int (2 : Int32)), .val (.int (2 : Int32)), .val (.int (1533 : Int32)), .val (.int (0 : Int32)), .val (.int (1 : Int32)), .val (.int (0 : Int32)), .val (.int (3 : Int32))] [])) _
    refine XS.aloadN X486.here hx rfl (hb hby d8_272) rfl rfl ?_
    show Steps p.tables e below (T486.setTop (mkF m 273 #[.val (.ref cn), .val (.int (3 : Int32)), .val (.int (2 : Int32)), .val (.int (2 : Int32)), .val .null, .val (.int (2 : Int32)), .val (.int (2 : Int32)), .val (.int (1533 : Int32)), .val (.int (0 : Int32)), .val (.int (1 : Int32)), .val (.int (0 : Int32)), .val (.int (3 : Int32))] [(.ref cn)])) _
    refine st500 _ ?_
    show Steps p.tables e below (T500.setTop (mkF m 276 #[.val (.ref cn), .val (.int (3 : Int32)), .val (.int (2 : Int32)), .val (.int (2 : Int32)), .val .null, .val (.int (2 : Int32)), .val (.int (2 : Int32)), .val (.int (1533 : Int32)), .val (.int (0 : Int32)), .val (.int (1 : Int32)), .val (.int (0 : Int32)), .val (.int (3 : Int32))] [(.ref ca)])) _
    refine XS.iconst X500.here hx rfl (hb hby d8_276) ?_
    show Steps p.tables e below (T500.setTop (mkF m 277 #[.val (.ref cn), .val (.int (3 : Int32)), .val (.int (2 : Int32)), .val (.int (2 : Int32)), .val .null, .val (.int (2 : Int32)), .val (.int (2 : Int32)), .val (.int (1533 : Int32)), .val (.int (0 : Int32)), .val (.int (1 : Int32)), .val (.int (0 : Int32)), .val (.int (3 : Int32))] [(.int (4 : Int32)), (.ref ca)])) _
    refine XS.iload X500.here hx rfl (hb hby d8_277) rfl ?_
    show Steps p.tables e below (T500.setTop (mkF m 279 #[.val (.ref cn), .val (.int (3 : Int32)), .val (.int (2 : Int32)), .val (.int (2 : Int32)), .val .null, .val (.int (2 : Int32)), .val (.int (2 : Int32)), .val (.int (1533 : Int32)), .val (.int (0 : Int32)), .val (.int (1 : Int32)), .val (.int (0 : Int32)), .val (.int (3 : Int32))] [(.int (1533 : Int32)), (.int (4 : Int32)), (.ref ca)])) _
    refine XS.imul X500.here hx rfl (hb hby d8_279) rfl ?_
    show Steps p.tables e below (T500.setTop (mkF m 280 #[.val (.ref cn), .val (.int (3 : Int32)), .val (.int (2 : Int32)), .val (.int (2 : Int32)), .val .null, .val (.int (2 : Int32)), .val (.int (2 : Int32)), .val (.int (1533 : Int32)), .val (.int (0 : Int32)), .val (.int (1 : Int32)), .val (.int (0 : Int32)), .val (.int (3 : Int32))] [(.int (6132 : Int32)), (.ref ca)])) _
    refine XS.iconst X500.here hx rfl (hb hby d8_280) ?_
    show Steps p.tables e below (T500.setTop (mkF m 281 #[.val (.ref cn), .val (.int (3 : Int32)), .val (.int (2 : Int32)), .val (.int (2 : Int32)), .val .null, .val (.int (2 : Int32)), .val (.int (2 : Int32)), .val (.int (1533 : Int32)), .val (.int (0 : Int32)), .val (.int (1 : Int32)), .val (.int (0 : Int32)), .val (.int (3 : Int32))] [(.int (2 : Int32)), (.int (6132 : Int32)), (.ref ca)])) _
    refine XS.iadd X500.here hx rfl (hb hby d8_281) rfl ?_
    show Steps p.tables e below (T500.setTop (mkF m 282 #[.val (.ref cn), .val (.int (3 : Int32)), .val (.int (2 : Int32)), .val (.int (2 : Int32)), .val .null, .val (.int (2 : Int32)), .val (.int (2 : Int32)), .val (.int (1533 : Int32)), .val (.int (0 : Int32)), .val (.int (1 : Int32)), .val (.int (0 : Int32)), .val (.int (3 : Int32))] [(.int (6134 : Int32)), (.ref ca)])) _
    refine XS.iload X500.here hx rfl (hb hby d8_282) rfl ?_
    show Steps p.tables e below (T500.setTop (mkF m 284 #[.val (.ref cn), .val (.int (3 : Int32)), .val (.int (2 : Int32)), .val (.int (2 : Int32)), .val .null, .val (.int (2 : Int32)), .val (.int (2 : Int32)), .val (.int (1533 : Int32)), .val (.int (0 : Int32)), .val (.int (1 : Int32)), .val (.int (0 : Int32)), .val (.int (3 : Int32))] [(.int (2 : Int32)), (.int (6134 : Int32)), (.ref ca)])) _
    refine st502 _ ?_
    show Steps p.tables e below (T502.setTop (mkF m 285 #[.val (.ref cn), .val (.int (3 : Int32)), .val (.int (2 : Int32)), .val (.int (2 : Int32)), .val .null, .val (.int (2 : Int32)), .val (.int (2 : Int32)), .val (.int (1533 : Int32)), .val (.int (0 : Int32)), .val (.int (1 : Int32)), .val (.int (0 : Int32)), .val (.int (3 : Int32))] [])) _
    refine XS.aloadN X502.here hx rfl (hb hby d8_285) rfl rfl ?_
    show Steps p.tables e below (T502.setTop (mkF m 286 #[.val (.ref cn), .val (.int (3 : Int32)), .val (.int (2 : Int32)), .val (.int (2 : Int32)), .val .null, .val (.int (2 : Int32)), .val (.int (2 : Int32)), .val (.int (1533 : Int32)), .val (.int (0 : Int32)), .val (.int (1 : Int32)), .val (.int (0 : Int32)), .val (.int (3 : Int32))] [(.ref cn)])) _
    refine st516 _ ?_
    show Steps p.tables e below (T516.setTop (mkF m 289 #[.val (.ref cn), .val (.int (3 : Int32)), .val (.int (2 : Int32)), .val (.int (2 : Int32)), .val .null, .val (.int (2 : Int32)), .val (.int (2 : Int32)), .val (.int (1533 : Int32)), .val (.int (0 : Int32)), .val (.int (1 : Int32)), .val (.int (0 : Int32)), .val (.int (3 : Int32))] [(.ref ca)])) _
    refine XS.iconst X516.here hx rfl (hb hby d8_289) ?_
    show Steps p.tables e below (T516.setTop (mkF m 290 #[.val (.ref cn), .val (.int (3 : Int32)), .val (.int (2 : Int32)), .val (.int (2 : Int32)), .val .null, .val (.int (2 : Int32)), .val (.int (2 : Int32)), .val (.int (1533 : Int32)), .val (.int (0 : Int32)), .val (.int (1 : Int32)), .val (.int (0 : Int32)), .val (.int (3 : Int32))] [(.int (4 : Int32)), (.ref ca)])) _
    refine XS.iload X516.here hx rfl (hb hby d8_290) rfl ?_
    show Steps p.tables e below (T516.setTop (mkF m 292 #[.val (.ref cn), .val (.int (3 : Int32)), .val (.int (2 : Int32)), .val (.int (2 : Int32)), .val .null, .val (.int (2 : Int32)), .val (.int (2 : Int32)), .val (.int (1533 : Int32)), .val (.int (0 : Int32)), .val (.int (1 : Int32)), .val (.int (0 : Int32)), .val (.int (3 : Int32))] [(.int (1533 : Int32)), (.int (4 : Int32)), (.ref ca)])) _
    refine XS.imul X516.here hx rfl (hb hby d8_292) rfl ?_
    show Steps p.tables e below (T516.setTop (mkF m 293 #[.val (.ref cn), .val (.int (3 : Int32)), .val (.int (2 : Int32)), .val (.int (2 : Int32)), .val .null, .val (.int (2 : Int32)), .val (.int (2 : Int32)), .val (.int (1533 : Int32)), .val (.int (0 : Int32)), .val (.int (1 : Int32)), .val (.int (0 : Int32)), .val (.int (3 : Int32))] [(.int (6132 : Int32)), (.ref ca)])) _
    refine XS.iconst X516.here hx rfl (hb hby d8_293) ?_
    show Steps p.tables e below (T516.setTop (mkF m 294 #[.val (.ref cn), .val (.int (3 : Int32)), .val (.int (2 : Int32)), .val (.int (2 : Int32)), .val .null, .val (.int (2 : Int32)), .val (.int (2 : Int32)), .val (.int (1533 : Int32)), .val (.int (0 : Int32)), .val (.int (1 : Int32)), .val (.int (0 : Int32)), .val (.int (3 : Int32))] [(.int (3 : Int32)), (.int (6132 : Int32)), (.ref ca)])) _
    refine XS.iadd X516.here hx rfl (hb hby d8_294) rfl ?_
    show Steps p.tables e below (T516.setTop (mkF m 295 #[.val (.ref cn), .val (.int (3 : Int32)), .val (.int (2 : Int32)), .val (.int (2 : Int32)), .val .null, .val (.int (2 : Int32)), .val (.int (2 : Int32)), .val (.int (1533 : Int32)), .val (.int (0 : Int32)), .val (.int (1 : Int32)), .val (.int (0 : Int32)), .val (.int (3 : Int32))] [(.int (6135 : Int32)), (.ref ca)])) _
    refine XS.iload X516.here hx rfl (hb hby d8_295) rfl ?_
    show Steps p.tables e below (T516.setTop (mkF m 297 #[.val (.ref cn), .val (.int (3 : Int32)), .val (.int (2 : Int32)), .val (.int (2 : Int32)), .val .null, .val (.int (2 : Int32)), .val (.int (2 : Int32)), .val (.int (1533 : Int32)), .val (.int (0 : Int32)), .val (.int (1 : Int32)), .val (.int (0 : Int32)), .val (.int (3 : Int32))] [(.int (3 : Int32)), (.int (6135 : Int32)), (.ref ca)])) _
    refine st518 _ ?_
    show Steps p.tables e below (T518.setTop (mkF m 298 #[.val (.ref cn), .val (.int (3 : Int32)), .val (.int (2 : Int32)), .val (.int (2 : Int32)), .val .null, .val (.int (2 : Int32)), .val (.int (2 : Int32)), .val (.int (1533 : Int32)), .val (.int (0 : Int32)), .val (.int (1 : Int32)), .val (.int (0 : Int32)), .val (.int (3 : Int32))] [])) _
    refine XS.iload X518.here hx rfl (hb hby d8_298) rfl ?_
    show Steps p.tables e below (T518.setTop (mkF m 300 #[.val (.ref cn), .val (.int (3 : Int32)), .val (.int (2 : Int32)), .val (.int (2 : Int32)), .val .null, .val (.int (2 : Int32)), .val (.int (2 : Int32)), .val (.int (1533 : Int32)), .val (.int (0 : Int32)), .val (.int (1 : Int32)), .val (.int (0 : Int32)), .val (.int (3 : Int32))] [(.int (3 : Int32))])) _
    exact retI X518 hx Bd.returns (hb hby d8_300) hr
  · show QC (.int (3 : Int32)) Z cn vs lo hi tb ca (4 : Int32) vc (upd fv 3 (0 : Int32)) (upd fl 3 (1 : Int32)) (upd fh 3 (0 : Int32)) (upd ft 275 (3 : Int32)) (upd (upd (upd (upd fc 6132 (3 : Int32)) 6133 (2 : Int32)) 6134 (2 : Int32)) 6135 (3 : Int32)) h0 n0 _ T518.heap _
    rw [e518]
    exact ⟨rfl, N518, K518, zE527, zF519, zF520, zF521, zF522, zF523, zF524, zF525, zF526, zA528, zA529, zA530, zA531, V518⟩
theorem d8_28 : decode prog_13_method_9_code 28 = .ok (.iload_n 2, 1) := by decide +kernel
theorem d8_29 : decode prog_13_method_9_code 29 = .ok (.iload_n 3, 1) := by decide +kernel
theorem d8_30 : decode prog_13_method_9_code 30 = .ok (.invokestatic 68, 3) := by decide +kernel
theorem d8_44 : decode prog_13_method_9_code 44 = .ok (.iload_n 2, 1) := by decide +kernel
theorem d8_45 : decode prog_13_method_9_code 45 = .ok (.iload_n 3, 1) := by decide +kernel
theorem d8_46 : decode prog_13_method_9_code 46 = .ok (.invokestatic 74, 3) := by decide +kernel
set_option maxRecDepth 65536 in
set_option maxHeartbeats 40000000 in
theorem rap1 (l : Launch) (Z : State) (a0 : Array Value) (hw : ∀ d ∈ tables_1, d.before a0 Z = true) (ws : List Jvm.Cond) (cn vs lo hi tb ca : Addr) (vc : Int32) (fv fl fh ft fc : Nat → Int32) (ch : Addr) (cl : Cell) (b0 b1 : Addr) (h0 : Heap) (n0 : Nat) (Z0 : n0 ≤ h0.size) (hC : CS Z h0 cn vs lo hi tb ca (4 : Int32) vc fv fl fh ft fc) (hD : DS n0 cn vs lo hi tb ca) (Od : Old Z n0 h0) (hI : IC Z ch cl b0 b1) (hv2 : fv 2 = (0 : Int32)) (hl2 : fl 2 = (0 : Int32)) (hh2 : fh 2 = (1 : Int32)) (hv3 : fv 3 = (0 : Int32)) (hl3 : fl 3 = (1 : Int32)) (hh3 : fh 3 = (0 : Int32)) (hca : fc 2872 = (-1 : Int32)) :
    MetFree l (⟨"com/example/sealed_paths/sealedpaths/core/Conditions", "apply", "(III)I"⟩ : MethodName) (head1 (Jvm.Cond.code (⟨"com/example/sealed_paths/sealedpaths/core/Conditions", "apply", "(III)I"⟩ : MethodName) prog_13_method_9_code 12 (some .int) :: ws) ({ frames := 3, cells := 0, slots := 0, locals := 50 } : Room)) (fun zA zU => zA = #[(.ref cn), (.int (1 : Int32)), (.int (2 : Int32)), (.int (3 : Int32))] ∧ Z.Warmed39 zU.vm ∧ zU.heap = h0) (fun _ _ _ _ _ => True) (fun _ zU zO zW => ∃ zV zL, zO = .returned zV ∧ QC (.int (0 : Int32)) Z cn vs lo hi tb ca (4 : Int32) vc fv fl fh ft (upd (upd (upd (upd fc 2872 (1 : Int32)) 2873 (2 : Int32)) 2874 (3 : Int32)) 2875 (0 : Int32)) h0 n0 zV zW.heap zL ∧ FrameEnd zU zO zW zL ({ frames := 3, cells := 0, slots := 0, locals := 50 } : Room).cells ({ frames := 3, cells := 0, slots := 0, locals := 50 } : Room).slots) := by
  refine MetFree.of_bodySF (plainFor_of_name pn_Conditions) hisR ?_
  intro p e s m args below meth c s₁ Bd hml0 hP hK
  obtain ⟨rfl, hZ, hh⟩ := hP
  have hx := Bd.exec
  have hby := Bd.bytes
  have hml : c.maxLocals = 12 := hml0
  have hown : s.vm.findClass "com/example/sealed_paths/sealedpaths/core/Conditions" = some m.cls := findClass_of_methodNamed Bd.named
  have hnm := (name_of_methodNamed Bd.named Bd.method).1
  have X0 : Stand p l e ({ frames := 3, cells := 0, slots := 0, locals := 50 } : Room) s m #[(.ref cn), (.int (1 : Int32)), (.int (2 : Int32)), (.int (3 : Int32))] below meth c s₁ [] 0 0 := Stand.of_body Bd
  have e0 : s₁.heap = h0 := by rw [← hh, Bd.state]; rfl
  have N0 := Fr.nil n0
  have pre0 : ∀ zt, Steps p.tables e below (s₁.setTop (mkF m 0 #[.val (.ref cn), .val (.int (1 : Int32)), .val (.int (2 : Int32)), .val (.int (3 : Int32)), .unset, .unset, .unset, .unset, .unset, .unset, .unset, .unset] [])) zt → Steps p.tables e below (s₁.setTop (entryFrame m #[(.ref cn), (.int (1 : Int32)), (.int (2 : Int32)), (.int (3 : Int32))] 12)) zt := fun zt zk => castTop (ef_8_RIII m cn (1 : Int32) (2 : Int32) (3 : Int32)) zk
  have hD0 := hD
  have hI0 := hI
  obtain ⟨Sh, Sc, Ach, Sz, A128, A129, Eb0, Eb1, Fb0, Fb1⟩ := hI
  obtain ⟨Ec, F_variables, F_lows, F_highs, F_table, F_cached, F_limit, F_size, F_vc, V_vs, V_lo, V_hi, V_tb, V_ca⟩ := hC
  obtain ⟨g_cn, g_vs, g_lo, g_hi, g_tb, g_ca, ne_cn_vs, ne_cn_lo, ne_cn_hi, ne_cn_tb, ne_cn_ca, ne_vs_lo, ne_vs_hi, ne_vs_tb, ne_vs_ca, ne_lo_hi, ne_lo_tb, ne_lo_ca, ne_hi_tb, ne_hi_ca, ne_tb_ca⟩ := hD
  obtain ⟨_, _, ⟨T532, L532, k532, n532⟩, -, X532, ⟨Lc532, hQ532, l532, y532, z532⟩, st532⟩ := Jvm.LawKit.callS X0 hx (y := (⟨"com/example/sealed_paths/sealedpaths/core/Conditions", "settled", "(III)Ljava/lang/Integer;"⟩ : MethodName)) hown (mvT hZ (hw _ (List.mem_of_getElem? (i := 55) rfl))) (mvT hZ (hw _ (List.mem_of_getElem? (i := 56) rfl))) (mvT hZ (hw _ (List.mem_of_getElem? (i := 2) rfl))) (mvT hZ (hw _ (List.mem_of_getElem? (i := 57) rfl))) (by decide) (backOf (W := 0) (rse123 l Z a0 hw [] ch cl b0 b1 h0 n0 Z0 Od hI0) hZ (hw _ (List.mem_of_getElem? (i := 57) rfl)) (hw _ (List.mem_of_getElem? (i := 2) rfl)) (by decide) (by decide)) (g := (mkF m 3 #[.val (.ref cn), .val (.int (1 : Int32)), .val (.int (2 : Int32)), .val (.int (3 : Int32)), .unset, .unset, .unset, .unset, .unset, .unset, .unset, .unset] [(.int (3 : Int32)), (.int (2 : Int32)), (.int (1 : Int32))])) rfl (by rw [hml]; rfl) (argsL := [(.int (1 : Int32)), (.int (2 : Int32)), (.int (3 : Int32))]) (rest := []) (lenOf pd_3 rfl) rfl (by show 2 * 0 + _ ≤ _; exact Nat.le_of_eq rfl) (hb hby d8_3) (fun _ _ => ⟨rfl, e0, (by decide : 0 + 0 ≤ _), (by decide : 0 + 0 ≤ _)⟩)
  dsimp only [Pt.U, Pt.locs, Pt.cells, Pt.slots] at X532 l532 y532 z532 st532 hQ532
  subst l532 y532 z532
  obtain ⟨rfl, Nq532, e532⟩ := hQ532
  have N532 := Fr.app N0 Nq532
  obtain ⟨_, _, ⟨T533, L533, k533, n533⟩, -, X533, ⟨Lc533, hQ533, l533, y533, z533⟩, st533⟩ := Jvm.LawKit.callS X532 hx (y := (⟨"java/lang/Math", "min", "(II)I"⟩ : MethodName)) hown (mvT hZ (hw _ (List.mem_of_getElem? (i := 61) rfl))) (mvT hZ (hw _ (List.mem_of_getElem? (i := 62) rfl))) (mvT hZ (hw _ (List.mem_of_getElem? (i := 63) rfl))) (mvT hZ (hw _ (List.mem_of_getElem? (i := 64) rfl))) (by decide) (backOf (W := 0) (rmin23 l Z a0 hw [] h0 n0 Z0) hZ (hw _ (List.mem_of_getElem? (i := 64) rfl)) (hw _ (List.mem_of_getElem? (i := 63) rfl)) (by decide) (by decide)) (g := (mkF m 30 #[.val (.ref cn), .val (.int (1 : Int32)), .val (.int (2 : Int32)), .val (.int (3 : Int32)), .val .null, .unset, .unset, .unset, .unset, .unset, .unset, .unset] [(.int (3 : Int32)), (.int (2 : Int32))])) rfl (by rw [hml]; rfl) (argsL := [(.int (2 : Int32)), (.int (3 : Int32))]) (rest := []) (lenOf pd_6 rfl) rfl (by show 2 * 0 + _ ≤ _; exact Nat.le_of_eq rfl) (hb hby d8_30) (fun _ _ => ⟨rfl, e532, (by decide : 0 + 0 ≤ _), (by decide : 0 + 0 ≤ _)⟩)
  dsimp only [Pt.U, Pt.locs, Pt.cells, Pt.slots] at X533 l533 y533 z533 st533 hQ533
  subst l533 y533 z533
  obtain ⟨rfl, Nq533, e533⟩ := hQ533
  have N533 := Fr.app N532 Nq533
  obtain ⟨_, _, ⟨T534, L534, k534, n534⟩, -, X534, ⟨Lc534, hQ534, l534, y534, z534⟩, st534⟩ := Jvm.LawKit.callS X533 hx (y := (⟨"java/lang/Math", "max", "(II)I"⟩ : MethodName)) hown (mvT hZ (hw _ (List.mem_of_getElem? (i := 88) rfl))) (mvT hZ (hw _ (List.mem_of_getElem? (i := 89) rfl))) (mvT hZ (hw _ (List.mem_of_getElem? (i := 63) rfl))) (mvT hZ (hw _ (List.mem_of_getElem? (i := 90) rfl))) (by decide) (backOf (W := 0) (rmax23 l Z a0 hw [] h0 n0 Z0) hZ (hw _ (List.mem_of_getElem? (i := 90) rfl)) (hw _ (List.mem_of_getElem? (i := 63) rfl)) (by decide) (by decide)) (g := (mkF m 46 #[.val (.ref cn), .val (.int (1 : Int32)), .val (.int (2 : Int32)), .val (.int (3 : Int32)), .val .null, .val (.int (2 : Int32)), .unset, .unset, .unset, .unset, .unset, .unset] [(.int (3 : Int32)), (.int (2 : Int32))])) rfl (by rw [hml]; rfl) (argsL := [(.int (2 : Int32)), (.int (3 : Int32))]) (rest := []) (lenOf pd_6 rfl) rfl (by show 2 * 0 + _ ≤ _; exact Nat.le_of_eq rfl) (hb hby d8_46) (fun _ _ => ⟨rfl, e533, (by decide : 0 + 0 ≤ _), (by decide : 0 + 0 ≤ _)⟩)
  dsimp only [Pt.U, Pt.locs, Pt.cells, Pt.slots] at X534 l534 y534 z534 st534 hQ534
  subst l534 y534 z534
  obtain ⟨rfl, Nq534, e534⟩ := hQ534
  have N534 := Fr.app N533 Nq534
  obtain ⟨T535, X535, e535, st535⟩ := getF X534 hx hZ hown (host := "") (Or.inl (hw _ (List.mem_of_getElem? (i := 18) rfl))) Via.refl e534 F_cached (g := (mkF m 70 #[.val (.ref cn), .val (.int (1 : Int32)), .val (.int (2 : Int32)), .val (.int (3 : Int32)), .val .null, .val (.int (2 : Int32)), .val (.int (3 : Int32)), .unset, .unset, .unset, .unset, .unset] [(.ref cn), (.int (750936782 : Int32))])) rfl rfl (hb hby d8_70)
  obtain ⟨cl536, Ar536, Sz536, Hz536⟩ := id V_ca
  obtain ⟨T537, X537, e537, st537⟩ := getF X535 hx hZ hown (host := "") (Or.inl (hw _ (List.mem_of_getElem? (i := 18) rfl))) Via.refl e535 F_cached (g := (mkF m 82 #[.val (.ref cn), .val (.int (1 : Int32)), .val (.int (2 : Int32)), .val (.int (3 : Int32)), .val .null, .val (.int (2 : Int32)), .val (.int (3 : Int32)), .val (.int (718 : Int32)), .unset, .unset, .unset, .unset] [(.ref cn)])) rfl rfl (hb hby d8_82)
  obtain ⟨cl538, Ar538, Sz538, Hz538⟩ := id V_ca
  have hin538 := IA.inb (j := (2872 : Int32)) (i := 2872) Sz538 (by decide) (by decide) (by decide)
  have hat538 := IA.at (j := (2872 : Int32)) (x := (-1 : Int32)) Hz538 (by decide) (by decide) hca
  obtain ⟨T539, X539, e539, st539⟩ := getF X537 hx hZ hown (host := "") (Or.inl (hw _ (List.mem_of_getElem? (i := 10) rfl))) Via.refl e537 F_variables (g := (mkF m 139 #[.val (.ref cn), .val (.int (1 : Int32)), .val (.int (2 : Int32)), .val (.int (3 : Int32)), .val .null, .val (.int (2 : Int32)), .val (.int (3 : Int32)), .val (.int (718 : Int32)), .unset, .unset, .unset, .unset] [(.ref cn)])) rfl rfl (hb hby d8_139)
  obtain ⟨cl540, Ar540, Sz540, Hz540⟩ := id V_vs
  have hin540 := IA.inb (j := (2 : Int32)) (i := 2) Sz540 (by decide) (by decide) (by decide)
  have hat540 := IA.at (j := (2 : Int32)) (x := (0 : Int32)) Hz540 (by decide) (by decide) hv2
  obtain ⟨T541, X541, e541, st541⟩ := getF X539 hx hZ hown (host := "") (Or.inl (hw _ (List.mem_of_getElem? (i := 10) rfl))) Via.refl e539 F_variables (g := (mkF m 146 #[.val (.ref cn), .val (.int (1 : Int32)), .val (.int (2 : Int32)), .val (.int (3 : Int32)), .val .null, .val (.int (2 : Int32)), .val (.int (3 : Int32)), .val (.int (718 : Int32)), .unset, .unset, .unset, .unset] [(.ref cn), (.int (0 : Int32))])) rfl rfl (hb hby d8_146)
  obtain ⟨cl542, Ar542, Sz542, Hz542⟩ := id V_vs
  have hin542 := IA.inb (j := (3 : Int32)) (i := 3) Sz542 (by decide) (by decide) (by decide)
  have hat542 := IA.at (j := (3 : Int32)) (x := (0 : Int32)) Hz542 (by decide) (by decide) hv3
  obtain ⟨_, _, ⟨T543, L543, k543, n543⟩, -, X543, ⟨Lc543, hQ543, l543, y543, z543⟩, st543⟩ := Jvm.LawKit.callS X541 hx (y := (⟨"java/lang/Math", "min", "(II)I"⟩ : MethodName)) hown (mvT hZ (hw _ (List.mem_of_getElem? (i := 61) rfl))) (mvT hZ (hw _ (List.mem_of_getElem? (i := 62) rfl))) (mvT hZ (hw _ (List.mem_of_getElem? (i := 63) rfl))) (mvT hZ (hw _ (List.mem_of_getElem? (i := 64) rfl))) (by decide) (backOf (W := 0) (rmin00 l Z a0 hw [] h0 n0 Z0) hZ (hw _ (List.mem_of_getElem? (i := 64) rfl)) (hw _ (List.mem_of_getElem? (i := 63) rfl)) (by decide) (by decide)) (g := (mkF m 152 #[.val (.ref cn), .val (.int (1 : Int32)), .val (.int (2 : Int32)), .val (.int (3 : Int32)), .val .null, .val (.int (2 : Int32)), .val (.int (3 : Int32)), .val (.int (718 : Int32)), .unset, .unset, .unset, .unset] [(.int (0 : Int32)), (.int (0 : Int32))])) rfl (by rw [hml]; rfl) (argsL := [(.int (0 : Int32)), (.int (0 : Int32))]) (rest := []) (lenOf pd_6 rfl) rfl (by show 2 * 0 + _ ≤ _; exact Nat.le_of_eq rfl) (hb hby d8_152) (fun _ _ => ⟨rfl, e541, (by decide : 0 + 0 ≤ _), (by decide : 0 + 0 ≤ _)⟩)
  dsimp only [Pt.U, Pt.locs, Pt.cells, Pt.slots] at X543 l543 y543 z543 st543 hQ543
  subst l543 y543 z543
  obtain ⟨rfl, Nq543, e543⟩ := hQ543
  have N543 := Fr.app N534 Nq543
  obtain ⟨cq544, q544, q544'⟩ := Ec.cell
  obtain ⟨_, _, ⟨T544, L544, k544, n544⟩, -, X544, ⟨Lc544, hQ544, l544, y544, z544⟩, st544⟩ := X543.privateBack hx (y := (⟨"com/example/sealed_paths/sealedpaths/core/Conditions", "branch", "(IIZ)I"⟩ : MethodName)) hown (mvT hZ (hw _ (List.mem_of_getElem? (i := 65) rfl))) (mvT hZ (hw _ (List.mem_of_getElem? (i := 66) rfl))) (psel (mvT hZ (hw _ (List.mem_of_getElem? (i := 1) rfl))) (mvP hZ (hw _ (List.mem_of_getElem? (i := 67) rfl))) (mvT hZ (hw _ (List.mem_of_getElem? (i := 66) rfl))) (by decide)) (Cond.privateMethod_at (mvP hZ (hw _ (List.mem_of_getElem? (i := 67) rfl)) (args := #[]))) (mvT hZ (hw _ (List.mem_of_getElem? (i := 68) rfl))) (by decide) (backOf (W := 2) (rbr20 l Z a0 hw [] cn vs lo hi tb ca (4 : Int32) vc (0 : Int32) fv fl fh ft fc h0 n0 Z0 ⟨Ec, F_variables, F_lows, F_highs, F_table, F_cached, F_limit, F_size, F_vc, V_vs, V_lo, V_hi, V_tb, V_ca⟩ hD0 hv2 hl2) hZ (hw _ (List.mem_of_getElem? (i := 68) rfl)) (hw _ (List.mem_of_getElem? (i := 2) rfl)) (by decide) (by decide)) (g := (mkF m 165 #[.val (.ref cn), .val (.int (1 : Int32)), .val (.int (2 : Int32)), .val (.int (3 : Int32)), .val .null, .val (.int (2 : Int32)), .val (.int (3 : Int32)), .val (.int (718 : Int32)), .val (.int (0 : Int32)), .unset, .unset, .unset] [(.int (0 : Int32)), (.int (0 : Int32)), (.int (2 : Int32)), (.ref cn), (.int (1 : Int32)), (.ref cn)])) rfl (by rw [hml]; rfl) (Steps.refl _) (a := cn) (by rw [e543]; exact q544) q544' (argsL := [(.int (2 : Int32)), (.int (0 : Int32)), (.int (0 : Int32))]) (rest := [(.int (1 : Int32)), (.ref cn)]) (lenOf pd_7 rfl) rfl (by show 2 * 0 + _ ≤ _; exact Nat.le_of_eq rfl) (hb hby d8_165) (fun _ _ => ⟨rfl, e543, (by decide : 0 + 0 ≤ _), (by decide : 0 + 0 ≤ _)⟩)
  dsimp only [Pt.U, Pt.locs, Pt.cells, Pt.slots] at X544 l544 y544 z544 st544 hQ544
  subst l544 y544 z544
  obtain ⟨rfl, Nq544, e544⟩ := hQ544
  have N544 := Fr.app N543 Nq544
  obtain ⟨cq545, q545, q545'⟩ := Ec.cell
  obtain ⟨_, _, ⟨T545, L545, k545, n545⟩, -, X545, ⟨Lc545, hQ545, l545, y545, z545⟩, st545⟩ := X544.privateBack hx (y := (⟨"com/example/sealed_paths/sealedpaths/core/Conditions", "branch", "(IIZ)I"⟩ : MethodName)) hown (mvT hZ (hw _ (List.mem_of_getElem? (i := 65) rfl))) (mvT hZ (hw _ (List.mem_of_getElem? (i := 66) rfl))) (psel (mvT hZ (hw _ (List.mem_of_getElem? (i := 1) rfl))) (mvP hZ (hw _ (List.mem_of_getElem? (i := 67) rfl))) (mvT hZ (hw _ (List.mem_of_getElem? (i := 66) rfl))) (by decide)) (Cond.privateMethod_at (mvP hZ (hw _ (List.mem_of_getElem? (i := 67) rfl)) (args := #[]))) (mvT hZ (hw _ (List.mem_of_getElem? (i := 68) rfl))) (by decide) (backOf (W := 3) (rbr30 l Z a0 hw [] cn vs lo hi tb ca (4 : Int32) vc (1 : Int32) fv fl fh ft fc h0 n0 Z0 ⟨Ec, F_variables, F_lows, F_highs, F_table, F_cached, F_limit, F_size, F_vc, V_vs, V_lo, V_hi, V_tb, V_ca⟩ hD0 hv3 hl3) hZ (hw _ (List.mem_of_getElem? (i := 68) rfl)) (hw _ (List.mem_of_getElem? (i := 2) rfl)) (by decide) (by decide)) (g := (mkF m 174 #[.val (.ref cn), .val (.int (1 : Int32)), .val (.int (2 : Int32)), .val (.int (3 : Int32)), .val .null, .val (.int (2 : Int32)), .val (.int (3 : Int32)), .val (.int (718 : Int32)), .val (.int (0 : Int32)), .unset, .unset, .unset] [(.int (0 : Int32)), (.int (0 : Int32)), (.int (3 : Int32)), (.ref cn), (.int (0 : Int32)), (.int (1 : Int32)), (.ref cn)])) rfl (by rw [hml]; rfl) (Steps.refl _) (a := cn) (by rw [e544]; exact q545) q545' (argsL := [(.int (3 : Int32)), (.int (0 : Int32)), (.int (0 : Int32))]) (rest := [(.int (0 : Int32)), (.int (1 : Int32)), (.ref cn)]) (lenOf pd_7 rfl) rfl (by show 2 * 0 + _ ≤ _; exact Nat.le_of_eq rfl) (hb hby d8_174) (fun _ _ => ⟨rfl, e544, (by decide : 0 + 0 ≤ _), (by decide : 0 + 0 ≤ _)⟩)
  dsimp only [Pt.U, Pt.locs, Pt.cells, Pt.slots] at X545 l545 y545 z545 st545 hQ545
  subst l545 y545 z545
  obtain ⟨rfl, Nq545, e545⟩ := hQ545
  have N545 := Fr.app N544 Nq545
  obtain ⟨cq546, q546, q546'⟩ := Ec.cell
  obtain ⟨_, _, ⟨T546, L546, k546, n546⟩, -, X546, ⟨Lc546, hQ546, l546, y546, z546⟩, st546⟩ := X545.privateBack hx (y := (⟨"com/example/sealed_paths/sealedpaths/core/Conditions", "apply", "(III)I"⟩ : MethodName)) hown (mvT hZ (hw _ (List.mem_of_getElem? (i := 51) rfl))) (mvT hZ (hw _ (List.mem_of_getElem? (i := 52) rfl))) (psel (mvT hZ (hw _ (List.mem_of_getElem? (i := 1) rfl))) (mvP hZ (hw _ (List.mem_of_getElem? (i := 53) rfl))) (mvT hZ (hw _ (List.mem_of_getElem? (i := 52) rfl))) (by decide)) (Cond.privateMethod_at (mvP hZ (hw _ (List.mem_of_getElem? (i := 53) rfl)) (args := #[]))) (mvT hZ (hw _ (List.mem_of_getElem? (i := 54) rfl))) (by decide) (backOf (W := 0) (ras101 l Z a0 hw [] cn ch cl b0 b1 h0 n0 Z0 Od hI0) hZ (hw _ (List.mem_of_getElem? (i := 54) rfl)) (hw _ (List.mem_of_getElem? (i := 2) rfl)) (by decide) (by decide)) (g := (mkF m 177 #[.val (.ref cn), .val (.int (1 : Int32)), .val (.int (2 : Int32)), .val (.int (3 : Int32)), .val .null, .val (.int (2 : Int32)), .val (.int (3 : Int32)), .val (.int (718 : Int32)), .val (.int (0 : Int32)), .unset, .unset, .unset] [(.int (1 : Int32)), (.int (0 : Int32)), (.int (1 : Int32)), (.ref cn)])) rfl (by rw [hml]; rfl) (Steps.refl _) (a := cn) (by rw [e545]; exact q546) q546' (argsL := [(.int (1 : Int32)), (.int (0 : Int32)), (.int (1 : Int32))]) (rest := []) (lenOf pd_5 rfl) rfl (by show 2 * 0 + _ ≤ _; exact Nat.le_of_eq rfl) (hb hby d8_177) (fun _ _ => ⟨rfl, e545, (by decide : 0 + 0 ≤ _), (by decide : 0 + 0 ≤ _)⟩)
  dsimp only [Pt.U, Pt.locs, Pt.cells, Pt.slots] at X546 l546 y546 z546 st546 hQ546
  subst l546 y546 z546
  obtain ⟨rfl, Nq546, e546⟩ := hQ546
  have N546 := Fr.app N545 Nq546
  obtain ⟨cq547, q547, q547'⟩ := Ec.cell
  obtain ⟨_, _, ⟨T547, L547, k547, n547⟩, -, X547, ⟨Lc547, hQ547, l547, y547, z547⟩, st547⟩ := X546.privateBack hx (y := (⟨"com/example/sealed_paths/sealedpaths/core/Conditions", "branch", "(IIZ)I"⟩ : MethodName)) hown (mvT hZ (hw _ (List.mem_of_getElem? (i := 65) rfl))) (mvT hZ (hw _ (List.mem_of_getElem? (i := 66) rfl))) (psel (mvT hZ (hw _ (List.mem_of_getElem? (i := 1) rfl))) (mvP hZ (hw _ (List.mem_of_getElem? (i := 67) rfl))) (mvT hZ (hw _ (List.mem_of_getElem? (i := 66) rfl))) (by decide)) (Cond.privateMethod_at (mvP hZ (hw _ (List.mem_of_getElem? (i := 67) rfl)) (args := #[]))) (mvT hZ (hw _ (List.mem_of_getElem? (i := 68) rfl))) (by decide) (backOf (W := 2) (rbr21 l Z a0 hw [] cn vs lo hi tb ca (4 : Int32) vc (1 : Int32) fv fl fh ft fc h0 n0 Z0 ⟨Ec, F_variables, F_lows, F_highs, F_table, F_cached, F_limit, F_size, F_vc, V_vs, V_lo, V_hi, V_tb, V_ca⟩ hD0 hv2 hh2) hZ (hw _ (List.mem_of_getElem? (i := 68) rfl)) (hw _ (List.mem_of_getElem? (i := 2) rfl)) (by decide) (by decide)) (g := (mkF m 190 #[.val (.ref cn), .val (.int (1 : Int32)), .val (.int (2 : Int32)), .val (.int (3 : Int32)), .val .null, .val (.int (2 : Int32)), .val (.int (3 : Int32)), .val (.int (718 : Int32)), .val (.int (0 : Int32)), .val (.int (0 : Int32)), .unset, .unset] [(.int (1 : Int32)), (.int (0 : Int32)), (.int (2 : Int32)), (.ref cn), (.int (1 : Int32)), (.ref cn)])) rfl (by rw [hml]; rfl) (Steps.refl _) (a := cn) (by rw [e546]; exact q547) q547' (argsL := [(.int (2 : Int32)), (.int (0 : Int32)), (.int (1 : Int32))]) (rest := [(.int (1 : Int32)), (.ref cn)]) (lenOf pd_7 rfl) rfl (by show 2 * 0 + _ ≤ _; exact Nat.le_of_eq rfl) (hb hby d8_190) (fun _ _ => ⟨rfl, e546, (by decide : 0 + 0 ≤ _), (by decide : 0 + 0 ≤ _)⟩)
  dsimp only [Pt.U, Pt.locs, Pt.cells, Pt.slots] at X547 l547 y547 z547 st547 hQ547
  subst l547 y547 z547
  obtain ⟨rfl, Nq547, e547⟩ := hQ547
  have N547 := Fr.app N546 Nq547
  obtain ⟨cq548, q548, q548'⟩ := Ec.cell
  obtain ⟨_, _, ⟨T548, L548, k548, n548⟩, -, X548, ⟨Lc548, hQ548, l548, y548, z548⟩, st548⟩ := X547.privateBack hx (y := (⟨"com/example/sealed_paths/sealedpaths/core/Conditions", "branch", "(IIZ)I"⟩ : MethodName)) hown (mvT hZ (hw _ (List.mem_of_getElem? (i := 65) rfl))) (mvT hZ (hw _ (List.mem_of_getElem? (i := 66) rfl))) (psel (mvT hZ (hw _ (List.mem_of_getElem? (i := 1) rfl))) (mvP hZ (hw _ (List.mem_of_getElem? (i := 67) rfl))) (mvT hZ (hw _ (List.mem_of_getElem? (i := 66) rfl))) (by decide)) (Cond.privateMethod_at (mvP hZ (hw _ (List.mem_of_getElem? (i := 67) rfl)) (args := #[]))) (mvT hZ (hw _ (List.mem_of_getElem? (i := 68) rfl))) (by decide) (backOf (W := 3) (rbr31 l Z a0 hw [] cn vs lo hi tb ca (4 : Int32) vc (0 : Int32) fv fl fh ft fc h0 n0 Z0 ⟨Ec, F_variables, F_lows, F_highs, F_table, F_cached, F_limit, F_size, F_vc, V_vs, V_lo, V_hi, V_tb, V_ca⟩ hD0 hv3 hh3) hZ (hw _ (List.mem_of_getElem? (i := 68) rfl)) (hw _ (List.mem_of_getElem? (i := 2) rfl)) (by decide) (by decide)) (g := (mkF m 199 #[.val (.ref cn), .val (.int (1 : Int32)), .val (.int (2 : Int32)), .val (.int (3 : Int32)), .val .null, .val (.int (2 : Int32)), .val (.int (3 : Int32)), .val (.int (718 : Int32)), .val (.int (0 : Int32)), .val (.int (0 : Int32)), .unset, .unset] [(.int (1 : Int32)), (.int (0 : Int32)), (.int (3 : Int32)), (.ref cn), (.int (1 : Int32)), (.int (1 : Int32)), (.ref cn)])) rfl (by rw [hml]; rfl) (Steps.refl _) (a := cn) (by rw [e547]; exact q548) q548' (argsL := [(.int (3 : Int32)), (.int (0 : Int32)), (.int (1 : Int32))]) (rest := [(.int (1 : Int32)), (.int (1 : Int32)), (.ref cn)]) (lenOf pd_7 rfl) rfl (by show 2 * 0 + _ ≤ _; exact Nat.le_of_eq rfl) (hb hby d8_199) (fun _ _ => ⟨rfl, e547, (by decide : 0 + 0 ≤ _), (by decide : 0 + 0 ≤ _)⟩)
  dsimp only [Pt.U, Pt.locs, Pt.cells, Pt.slots] at X548 l548 y548 z548 st548 hQ548
  subst l548 y548 z548
  obtain ⟨rfl, Nq548, e548⟩ := hQ548
  have N548 := Fr.app N547 Nq548
  obtain ⟨cq549, q549, q549'⟩ := Ec.cell
  obtain ⟨_, _, ⟨T549, L549, k549, n549⟩, -, X549, ⟨Lc549, hQ549, l549, y549, z549⟩, st549⟩ := X548.privateBack hx (y := (⟨"com/example/sealed_paths/sealedpaths/core/Conditions", "apply", "(III)I"⟩ : MethodName)) hown (mvT hZ (hw _ (List.mem_of_getElem? (i := 51) rfl))) (mvT hZ (hw _ (List.mem_of_getElem? (i := 52) rfl))) (psel (mvT hZ (hw _ (List.mem_of_getElem? (i := 1) rfl))) (mvP hZ (hw _ (List.mem_of_getElem? (i := 53) rfl))) (mvT hZ (hw _ (List.mem_of_getElem? (i := 52) rfl))) (by decide)) (Cond.privateMethod_at (mvP hZ (hw _ (List.mem_of_getElem? (i := 53) rfl)) (args := #[]))) (mvT hZ (hw _ (List.mem_of_getElem? (i := 54) rfl))) (by decide) (backOf (W := 0) (ras110 l Z a0 hw [] cn ch cl b0 b1 h0 n0 Z0 Od hI0) hZ (hw _ (List.mem_of_getElem? (i := 54) rfl)) (hw _ (List.mem_of_getElem? (i := 2) rfl)) (by decide) (by decide)) (g := (mkF m 202 #[.val (.ref cn), .val (.int (1 : Int32)), .val (.int (2 : Int32)), .val (.int (3 : Int32)), .val .null, .val (.int (2 : Int32)), .val (.int (3 : Int32)), .val (.int (718 : Int32)), .val (.int (0 : Int32)), .val (.int (0 : Int32)), .unset, .unset] [(.int (0 : Int32)), (.int (1 : Int32)), (.int (1 : Int32)), (.ref cn)])) rfl (by rw [hml]; rfl) (Steps.refl _) (a := cn) (by rw [e548]; exact q549) q549' (argsL := [(.int (1 : Int32)), (.int (1 : Int32)), (.int (0 : Int32))]) (rest := []) (lenOf pd_5 rfl) rfl (by show 2 * 0 + _ ≤ _; exact Nat.le_of_eq rfl) (hb hby d8_202) (fun _ _ => ⟨rfl, e548, (by decide : 0 + 0 ≤ _), (by decide : 0 + 0 ≤ _)⟩)
  dsimp only [Pt.U, Pt.locs, Pt.cells, Pt.slots] at X549 l549 y549 z549 st549 hQ549
  subst l549 y549 z549
  obtain ⟨rfl, Nq549, e549⟩ := hQ549
  have N549 := Fr.app N548 Nq549
  obtain ⟨cq550, q550, q550'⟩ := Ec.cell
  obtain ⟨_, _, ⟨T550, L550, k550, n550⟩, -, X550, ⟨Lc550, hQ550, l550, y550, z550⟩, st550⟩ := X549.privateBack hx (y := (⟨"com/example/sealed_paths/sealedpaths/core/Conditions", "node", "(III)I"⟩ : MethodName)) hown (mvT hZ (hw _ (List.mem_of_getElem? (i := 36) rfl))) (mvT hZ (hw _ (List.mem_of_getElem? (i := 37) rfl))) (psel (mvT hZ (hw _ (List.mem_of_getElem? (i := 1) rfl))) (mvP hZ (hw _ (List.mem_of_getElem? (i := 38) rfl))) (mvT hZ (hw _ (List.mem_of_getElem? (i := 37) rfl))) (by decide)) (Cond.privateMethod_at (mvP hZ (hw _ (List.mem_of_getElem? (i := 38) rfl)) (args := #[]))) (mvT hZ (hw _ (List.mem_of_getElem? (i := 39) rfl))) (by decide) (backOf (W := 0) (rneq l Z a0 hw [] cn (0 : Int32) (0 : Int32) h0 n0 Z0) hZ (hw _ (List.mem_of_getElem? (i := 39) rfl)) (hw _ (List.mem_of_getElem? (i := 2) rfl)) (by decide) (by decide)) (g := (mkF m 214 #[.val (.ref cn), .val (.int (1 : Int32)), .val (.int (2 : Int32)), .val (.int (3 : Int32)), .val .null, .val (.int (2 : Int32)), .val (.int (3 : Int32)), .val (.int (718 : Int32)), .val (.int (0 : Int32)), .val (.int (0 : Int32)), .val (.int (0 : Int32)), .unset] [(.int (0 : Int32)), (.int (0 : Int32)), (.int (0 : Int32)), (.ref cn)])) rfl (by rw [hml]; rfl) (Steps.refl _) (a := cn) (by rw [e549]; exact q550) q550' (argsL := [(.int (0 : Int32)), (.int (0 : Int32)), (.int (0 : Int32))]) (rest := []) (lenOf pd_5 rfl) rfl (by show 2 * 0 + _ ≤ _; exact Nat.le_of_eq rfl) (hb hby d8_214) (fun _ _ => ⟨rfl, e549, (by decide : 0 + 0 ≤ _), (by decide : 0 + 0 ≤ _)⟩)
  dsimp only [Pt.U, Pt.locs, Pt.cells, Pt.slots] at X550 l550 y550 z550 st550 hQ550
  subst l550 y550 z550
  obtain ⟨rfl, Nq550, e550⟩ := hQ550
  have N550 := Fr.app N549 Nq550
  obtain ⟨T551, X551, e551, st551⟩ := getF X550 hx hZ hown (host := "") (Or.inl (hw _ (List.mem_of_getElem? (i := 18) rfl))) Via.refl e550 F_cached (g := (mkF m 238 #[.val (.ref cn), .val (.int (1 : Int32)), .val (.int (2 : Int32)), .val (.int (3 : Int32)), .val .null, .val (.int (2 : Int32)), .val (.int (3 : Int32)), .val (.int (718 : Int32)), .val (.int (0 : Int32)), .val (.int (0 : Int32)), .val (.int (0 : Int32)), .val (.int (0 : Int32))] [(.ref cn), (.int (750936782 : Int32))])) rfl rfl (hb hby d8_238)
  obtain ⟨cl552, Ar552, Sz552, Hz552⟩ := id V_ca
  obtain ⟨T553, X553, e553, st553⟩ := getF X551 hx hZ hown (host := "") (Or.inl (hw _ (List.mem_of_getElem? (i := 18) rfl))) Via.refl e551 F_cached (g := (mkF m 250 #[.val (.ref cn), .val (.int (1 : Int32)), .val (.int (2 : Int32)), .val (.int (3 : Int32)), .val .null, .val (.int (2 : Int32)), .val (.int (3 : Int32)), .val (.int (718 : Int32)), .val (.int (0 : Int32)), .val (.int (0 : Int32)), .val (.int (0 : Int32)), .val (.int (0 : Int32))] [(.ref cn)])) rfl rfl (hb hby d8_250)
  obtain ⟨cl554, Ar554, Sz554, Hz554⟩ := id V_ca
  have hin554 := IA.inb (j := (2872 : Int32)) (i := 2872) Sz554 (by decide) (by decide) (by decide)
  obtain ⟨T555, h555, X555, e555, W555, st555⟩ := stI X553 hx hZ e553 Ar554 (j := (2872 : Int32)) hin554 (g := (mkF m 258 #[.val (.ref cn), .val (.int (1 : Int32)), .val (.int (2 : Int32)), .val (.int (3 : Int32)), .val .null, .val (.int (2 : Int32)), .val (.int (3 : Int32)), .val (.int (718 : Int32)), .val (.int (0 : Int32)), .val (.int (0 : Int32)), .val (.int (0 : Int32)), .val (.int (0 : Int32))] [(.int (1 : Int32)), (.int (2872 : Int32)), (.ref ca)])) rfl rfl (hb hby d8_258)
  have V555 : IA Z h555 ca 16384 (upd fc 2872 (1 : Int32)) := IA.set Ar554 Sz554 Hz554 W555 (by decide) (by decide)
  have N555 := Fr.snoc X555 N550 g_ca
  have zF556 := F_variables.other W555 (Or.inl ne_cn_ca)
  have zF557 := F_lows.other W555 (Or.inl ne_cn_ca)
  have zF558 := F_highs.other W555 (Or.inl ne_cn_ca)
  have zF559 := F_table.other W555 (Or.inl ne_cn_ca)
  have zF560 := F_cached.other W555 (Or.inl ne_cn_ca)
  have zF561 := F_limit.other W555 (Or.inl ne_cn_ca)
  have zF562 := F_size.other W555 (Or.inl ne_cn_ca)
  have zF563 := F_vc.other W555 (Or.inl ne_cn_ca)
  have zE564 := Ec.wr W555
  have zA565 := V_vs.other W555 ne_vs_ca
  have zA566 := V_lo.other W555 ne_lo_ca
  have zA567 := V_hi.other W555 ne_hi_ca
  have zA568 := V_tb.other W555 ne_tb_ca
  have Z555 := Nat.le_trans Z0 (Keep.of_wr W555).1
  have K555 := (Keep.refl h0 [cn, vs, lo, hi, tb, ca]).wr W555 (Or.inl (List.mem_of_getElem? (i := 5) rfl))
  have Od555 := Od.wr W555 g_ca
  obtain ⟨T569, X569, e569, st569⟩ := getF X555 hx hZ hown (host := "") (Or.inl (hw _ (List.mem_of_getElem? (i := 18) rfl))) Via.refl e555 zF560 (g := (mkF m 260 #[.val (.ref cn), .val (.int (1 : Int32)), .val (.int (2 : Int32)), .val (.int (3 : Int32)), .val .null, .val (.int (2 : Int32)), .val (.int (3 : Int32)), .val (.int (718 : Int32)), .val (.int (0 : Int32)), .val (.int (0 : Int32)), .val (.int (0 : Int32)), .val (.int (0 : Int32))] [(.ref cn)])) rfl rfl (hb hby d8_260)
  obtain ⟨cl570, Ar570, Sz570, Hz570⟩ := id V555
  have hin570 := IA.inb (j := (2873 : Int32)) (i := 2873) Sz570 (by decide) (by decide) (by decide)
  obtain ⟨T571, h571, X571, e571, W571, st571⟩ := stI X569 hx hZ e569 Ar570 (j := (2873 : Int32)) hin570 (g := (mkF m 271 #[.val (.ref cn), .val (.int (1 : Int32)), .val (.int (2 : Int32)), .val (.int (3 : Int32)), .val .null, .val (.int (2 : Int32)), .val (.int (3 : Int32)), .val (.int (718 : Int32)), .val (.int (0 : Int32)), .val (.int (0 : Int32)), .val (.int (0 : Int32)), .val (.int (0 : Int32))] [(.int (2 : Int32)), (.int (2873 : Int32)), (.ref ca)])) rfl rfl (hb hby d8_271)
  have V571 : IA Z h571 ca 16384 (upd (upd fc 2872 (1 : Int32)) 2873 (2 : Int32)) := IA.set Ar570 Sz570 Hz570 W571 (by decide) (by decide)
  have N571 := Fr.snoc X571 N555 g_ca
  have zF572 := zF556.other W571 (Or.inl ne_cn_ca)
  have zF573 := zF557.other W571 (Or.inl ne_cn_ca)
  have zF574 := zF558.other W571 (Or.inl ne_cn_ca)
  have zF575 := zF559.other W571 (Or.inl ne_cn_ca)
  have zF576 := zF560.other W571 (Or.inl ne_cn_ca)
  have zF577 := zF561.other W571 (Or.inl ne_cn_ca)
  have zF578 := zF562.other W571 (Or.inl ne_cn_ca)
  have zF579 := zF563.other W571 (Or.inl ne_cn_ca)
  have zE580 := zE564.wr W571
  have zA581 := zA565.other W571 ne_vs_ca
  have zA582 := zA566.other W571 ne_lo_ca
  have zA583 := zA567.other W571 ne_hi_ca
  have zA584 := zA568.other W571 ne_tb_ca
  have Z571 := Nat.le_trans Z555 (Keep.of_wr W571).1
  have K571 := K555.wr W571 (Or.inl (List.mem_of_getElem? (i := 5) rfl))
  have Od571 := Od555.wr W571 g_ca
  obtain ⟨T585, X585, e585, st585⟩ := getF X571 hx hZ hown (host := "") (Or.inl (hw _ (List.mem_of_getElem? (i := 18) rfl))) Via.refl e571 zF576 (g := (mkF m 273 #[.val (.ref cn), .val (.int (1 : Int32)), .val (.int (2 : Int32)), .val (.int (3 : Int32)), .val .null, .val (.int (2 : Int32)), .val (.int (3 : Int32)), .val (.int (718 : Int32)), .val (.int (0 : Int32)), .val (.int (0 : Int32)), .val (.int (0 : Int32)), .val (.int (0 : Int32))] [(.ref cn)])) rfl rfl (hb hby d8_273)
  obtain ⟨cl586, Ar586, Sz586, Hz586⟩ := id V571
  have hin586 := IA.inb (j := (2874 : Int32)) (i := 2874) Sz586 (by decide) (by decide) (by decide)
  obtain ⟨T587, h587, X587, e587, W587, st587⟩ := stI X585 hx hZ e585 Ar586 (j := (2874 : Int32)) hin586 (g := (mkF m 284 #[.val (.ref cn), .val (.int (1 : Int32)), .val (.int (2 : Int32)), .val (.int (3 : Int32)), .val .null, .val (.int (2 : Int32)), .val (.int (3 : Int32)), .val (.int (718 : Int32)), .val (.int (0 : Int32)), .val (.int (0 : Int32)), .val (.int (0 : Int32)), .val (.int (0 : Int32))] [(.int (3 : Int32)), (.int (2874 : Int32)), (.ref ca)])) rfl rfl (hb hby d8_284)
  have V587 : IA Z h587 ca 16384 (upd (upd (upd fc 2872 (1 : Int32)) 2873 (2 : Int32)) 2874 (3 : Int32)) := IA.set Ar586 Sz586 Hz586 W587 (by decide) (by decide)
  have N587 := Fr.snoc X587 N571 g_ca
  have zF588 := zF572.other W587 (Or.inl ne_cn_ca)
  have zF589 := zF573.other W587 (Or.inl ne_cn_ca)
  have zF590 := zF574.other W587 (Or.inl ne_cn_ca)
  have zF591 := zF575.other W587 (Or.inl ne_cn_ca)
  have zF592 := zF576.other W587 (Or.inl ne_cn_ca)
  have zF593 := zF577.other W587 (Or.inl ne_cn_ca)
  have zF594 := zF578.other W587 (Or.inl ne_cn_ca)
  have zF595 := zF579.other W587 (Or.inl ne_cn_ca)
  have zE596 := zE580.wr W587
  have zA597 := zA581.other W587 ne_vs_ca
  have zA598 := zA582.other W587 ne_lo_ca
  have zA599 := zA583.other W587 ne_hi_ca
  have zA600 := zA584.other W587 ne_tb_ca
  have Z587 := Nat.le_trans Z571 (Keep.of_wr W587).1
  have K587 := K571.wr W587 (Or.inl (List.mem_of_getElem? (i := 5) rfl))
  have Od587 := Od571.wr W587 g_ca
  obtain ⟨T601, X601, e601, st601⟩ := getF X587 hx hZ hown (host := "") (Or.inl (hw _ (List.mem_of_getElem? (i := 18) rfl))) Via.refl e587 zF592 (g := (mkF m 286 #[.val (.ref cn), .val (.int (1 : Int32)), .val (.int (2 : Int32)), .val (.int (3 : Int32)), .val .null, .val (.int (2 : Int32)), .val (.int (3 : Int32)), .val (.int (718 : Int32)), .val (.int (0 : Int32)), .val (.int (0 : Int32)), .val (.int (0 : Int32)), .val (.int (0 : Int32))] [(.ref cn)])) rfl rfl (hb hby d8_286)
  obtain ⟨cl602, Ar602, Sz602, Hz602⟩ := id V587
  have hin602 := IA.inb (j := (2875 : Int32)) (i := 2875) Sz602 (by decide) (by decide) (by decide)
  obtain ⟨T603, h603, X603, e603, W603, st603⟩ := stI X601 hx hZ e601 Ar602 (j := (2875 : Int32)) hin602 (g := (mkF m 297 #[.val (.ref cn), .val (.int (1 : Int32)), .val (.int (2 : Int32)), .val (.int (3 : Int32)), .val .null, .val (.int (2 : Int32)), .val (.int (3 : Int32)), .val (.int (718 : Int32)), .val (.int (0 : Int32)), .val (.int (0 : Int32)), .val (.int (0 : Int32)), .val (.int (0 : Int32))] [(.int (0 : Int32)), (.int (2875 : Int32)), (.ref ca)])) rfl rfl (hb hby d8_297)
  have V603 : IA Z h603 ca 16384 (upd (upd (upd (upd fc 2872 (1 : Int32)) 2873 (2 : Int32)) 2874 (3 : Int32)) 2875 (0 : Int32)) := IA.set Ar602 Sz602 Hz602 W603 (by decide) (by decide)
  have N603 := Fr.snoc X603 N587 g_ca
  have zF604 := zF588.other W603 (Or.inl ne_cn_ca)
  have zF605 := zF589.other W603 (Or.inl ne_cn_ca)
  have zF606 := zF590.other W603 (Or.inl ne_cn_ca)
  have zF607 := zF591.other W603 (Or.inl ne_cn_ca)
  have zF608 := zF592.other W603 (Or.inl ne_cn_ca)
  have zF609 := zF593.other W603 (Or.inl ne_cn_ca)
  have zF610 := zF594.other W603 (Or.inl ne_cn_ca)
  have zF611 := zF595.other W603 (Or.inl ne_cn_ca)
  have zE612 := zE596.wr W603
  have zA613 := zA597.other W603 ne_vs_ca
  have zA614 := zA598.other W603 ne_lo_ca
  have zA615 := zA599.other W603 ne_hi_ca
  have zA616 := zA600.other W603 ne_tb_ca
  have Z603 := Nat.le_trans Z587 (Keep.of_wr W603).1
  have K603 := K587.wr W603 (Or.inl (List.mem_of_getElem? (i := 5) rfl))
  have Od603 := Od587.wr W603 g_ca
  obtain ⟨fs, hr, hrun, hended, hW, hsame⟩ := X603.leave (v := some (.int (0 : Int32))) (fun h => by rw [Bd.returns] at h; cases h)
  refine ⟨_, _, pre0 _ ?_, hrun, hended, _, _, rfl, ?_, ⟨_, rfl⟩, hW, hsame.mono (by decide) (by decide)⟩
  · show Steps p.tables e below (s₁.setTop (mkF m 0 #[.val (.ref cn), .val (.int (1 : Int32)), .val (.int (2 : Int32)), .val (.int (3 : Int32)), .unset, .unset, .unset, .unset, .unset, .unset, .unset, .unset] [])) _
    refine XS.iloadN X0.here hx rfl (hb hby d8_0) rfl ?_
    show Steps p.tables e below (s₁.setTop (mkF m 1 #[.val (.ref cn), .val (.int (1 : Int32)), .val (.int (2 : Int32)), .val (.int (3 : Int32)), .unset, .unset, .unset, .unset, .unset, .unset, .unset, .unset] [(.int (1 : Int32))])) _
    refine XS.iloadN X0.here hx rfl (hb hby d8_1) rfl ?_
    show Steps p.tables e below (s₁.setTop (mkF m 2 #[.val (.ref cn), .val (.int (1 : Int32)), .val (.int (2 : Int32)), .val (.int (3 : Int32)), .unset, .unset, .unset, .unset, .unset, .unset, .unset, .unset] [(.int (2 : Int32)), (.int (1 : Int32))])) _
    refine XS.iloadN X0.here hx rfl (hb hby d8_2) rfl ?_
    show Steps p.tables e below (s₁.setTop (mkF m 3 #[.val (.ref cn), .val (.int (1 : Int32)), .val (.int (2 : Int32)), .val (.int (3 : Int32)), .unset, .unset, .unset, .unset, .unset, .unset, .unset, .unset] [(.int (3 : Int32)), (.int (2 : Int32)), (.int (1 : Int32))])) _
    refine st532 _ ?_
    show Steps p.tables e below (T532.setTop (mkF m 6 #[.val (.ref cn), .val (.int (1 : Int32)), .val (.int (2 : Int32)), .val (.int (3 : Int32)), .unset, .unset, .unset, .unset, .unset, .unset, .unset, .unset] [.null])) _
    refine XS.astore X532.here hx rfl (hb hby d8_6) rfl rfl (l' := #[.val (.ref cn), .val (.int (1 : Int32)), .val (.int (2 : Int32)), .val (.int (3 : Int32)), .val .null, .unset, .unset, .unset, .unset, .unset, .unset, .unset]) rfl ?_
    show Steps p.tables e below (T532.setTop (mkF m 8 #[.val (.ref cn), .val (.int (1 : Int32)), .val (.int (2 : Int32)), .val (.int (3 : Int32)), .val .null, .unset, .unset, .unset, .unset, .unset, .unset, .unset] [])) _
    refine XS.aload X532.here hx rfl (hb hby d8_8) rfl rfl ?_
    show Steps p.tables e below (T532.setTop (mkF m 10 #[.val (.ref cn), .val (.int (1 : Int32)), .val (.int (2 : Int32)), .val (.int (3 : Int32)), .val .null, .unset, .unset, .unset, .unset, .unset, .unset, .unset] [.null])) _
    refine XS.ifnullYes X532.here hx rfl (pc0 := 10) (pc' := 19) rfl (hb hby d8_10) rfl (by decide) (by decide) ?_
    show Steps p.tables e below (T532.setTop (mkF m 19 #[.val (.ref cn), .val (.int (1 : Int32)), .val (.int (2 : Int32)), .val (.int (3 : Int32)), .val .null, .unset, .unset, .unset, .unset, .unset, .unset, .unset] [])) _
    refine XS.iloadN X532.here hx rfl (hb hby d8_19) rfl ?_
    show Steps p.tables e below (T532.setTop (mkF m 20 #[.val (.ref cn), .val (.int (1 : Int32)), .val (.int (2 : Int32)), .val (.int (3 : Int32)), .val .null, .unset, .unset, .unset, .unset, .unset, .unset, .unset] [(.int (1 : Int32))])) _
    refine XS.iconst X532.here hx rfl (hb hby d8_20) ?_
    show Steps p.tables e below (T532.setTop (mkF m 21 #[.val (.ref cn), .val (.int (1 : Int32)), .val (.int (2 : Int32)), .val (.int (3 : Int32)), .val .null, .unset, .unset, .unset, .unset, .unset, .unset, .unset] [(.int (3 : Int32)), (.int (1 : Int32))])) _
    refine XS.icmpYes X532.here hx rfl (pc0 := 21) (pc' := 28) rfl (hb hby d8_21) rfl (feq (by decide)).2 (by decide) (by decide) ?_
    show Steps p.tables e below (T532.setTop (mkF m 28 #[.val (.ref cn), .val (.int (1 : Int32)), .val (.int (2 : Int32)), .val (.int (3 : Int32)), .val .null, .unset, .unset, .unset, .unset, .unset, .unset, .unset] [])) _
    refine XS.iloadN X532.here hx rfl (hb hby d8_28) rfl ?_
    show Steps p.tables e below (T532.setTop (mkF m 29 #[.val (.ref cn), .val (.int (1 : Int32)), .val (.int (2 : Int32)), .val (.int (3 : Int32)), .val .null, .unset, .unset, .unset, .unset, .unset, .unset, .unset] [(.int (2 : Int32))])) _
    refine XS.iloadN X532.here hx rfl (hb hby d8_29) rfl ?_
    show Steps p.tables e below (T532.setTop (mkF m 30 #[.val (.ref cn), .val (.int (1 : Int32)), .val (.int (2 : Int32)), .val (.int (3 : Int32)), .val .null, .unset, .unset, .unset, .unset, .unset, .unset, .unset] [(.int (3 : Int32)), (.int (2 : Int32))])) _
    refine st533 _ ?_
    show Steps p.tables e below (T533.setTop (mkF m 33 #[.val (.ref cn), .val (.int (1 : Int32)), .val (.int (2 : Int32)), .val (.int (3 : Int32)), .val .null, .unset, .unset, .unset, .unset, .unset, .unset, .unset] [(.int (2 : Int32))])) _
    refine XS.istore X533.here hx rfl (hb hby d8_33) rfl (l' := #[.val (.ref cn), .val (.int (1 : Int32)), .val (.int (2 : Int32)), .val (.int (3 : Int32)), .val .null, .val (.int (2 : Int32)), .unset, .unset, .unset, .unset, .unset, .unset]) rfl ?_
    show Steps p.tables e below (T533.setTop (mkF m 35 #[.val (.ref cn), .val (.int (1 : Int32)), .val (.int (2 : Int32)), .val (.int (3 : Int32)), .val .null, .val (.int (2 : Int32)), .unset, .unset, .unset, .unset, .unset, .unset] [])) _
    refine XS.iloadN X533.here hx rfl (hb hby d8_35) rfl ?_
    show Steps p.tables e below (T533.setTop (mkF m 36 #[.val (.ref cn), .val (.int (1 : Int32)), .val (.int (2 : Int32)), .val (.int (3 : Int32)), .val .null, .val (.int (2 : Int32)), .unset, .unset, .unset, .unset, .unset, .unset] [(.int (1 : Int32))])) _
    refine XS.iconst X533.here hx rfl (hb hby d8_36) ?_
    show Steps p.tables e below (T533.setTop (mkF m 37 #[.val (.ref cn), .val (.int (1 : Int32)), .val (.int (2 : Int32)), .val (.int (3 : Int32)), .val .null, .val (.int (2 : Int32)), .unset, .unset, .unset, .unset, .unset, .unset] [(.int (3 : Int32)), (.int (1 : Int32))])) _
    refine XS.icmpYes X533.here hx rfl (pc0 := 37) (pc' := 44) rfl (hb hby d8_37) rfl (feq (by decide)).2 (by decide) (by decide) ?_
    show Steps p.tables e below (T533.setTop (mkF m 44 #[.val (.ref cn), .val (.int (1 : Int32)), .val (.int (2 : Int32)), .val (.int (3 : Int32)), .val .null, .val (.int (2 : Int32)), .unset, .unset, .unset, .unset, .unset, .unset] [])) _
    refine XS.iloadN X533.here hx rfl (hb hby d8_44) rfl ?_
    show Steps p.tables e below (T533.setTop (mkF m 45 #[.val (.ref cn), .val (.int (1 : Int32)), .val (.int (2 : Int32)), .val (.int (3 : Int32)), .val .null, .val (.int (2 : Int32)), .unset, .unset, .unset, .unset, .unset, .unset] [(.int (2 : Int32))])) _
    refine XS.iloadN X533.here hx rfl (hb hby d8_45) rfl ?_
    show Steps p.tables e below (T533.setTop (mkF m 46 #[.val (.ref cn), .val (.int (1 : Int32)), .val (.int (2 : Int32)), .val (.int (3 : Int32)), .val .null, .val (.int (2 : Int32)), .unset, .unset, .unset, .unset, .unset, .unset] [(.int (3 : Int32)), (.int (2 : Int32))])) _
    refine st534 _ ?_
    show Steps p.tables e below (T534.setTop (mkF m 49 #[.val (.ref cn), .val (.int (1 : Int32)), .val (.int (2 : Int32)), .val (.int (3 : Int32)), .val .null, .val (.int (2 : Int32)), .unset, .unset, .unset, .unset, .unset, .unset] [(.int (3 : Int32))])) _
    refine XS.istore X534.here hx rfl (hb hby d8_49) rfl (l' := #[.val (.ref cn), .val (.int (1 : Int32)), .val (.int (2 : Int32)), .val (.int (3 : Int32)), .val .null, .val (.int (2 : Int32)), .val (.int (3 : Int32)), .unset, .unset, .unset, .unset, .unset]) rfl ?_
    show Steps p.tables e below (T534.setTop (mkF m 51 #[.val (.ref cn), .val (.int (1 : Int32)), .val (.int (2 : Int32)), .val (.int (3 : Int32)), .val .null, .val (.int (2 : Int32)), .val (.int (3 : Int32)), .unset, .unset, .unset, .unset, .unset] [])) _
    refine XS.iloadN X534.here hx rfl (hb hby d8_51) rfl ?_
    show Steps p.tables e below (T534.setTop (mkF m 52 #[.val (.ref cn), .val (.int (1 : Int32)), .val (.int (2 : Int32)), .val (.int (3 : Int32)), .val .null, .val (.int (2 : Int32)), .val (.int (3 : Int32)), .unset, .unset, .unset, .unset, .unset] [(.int (1 : Int32))])) _
    refine XS.bipush X534.here hx rfl (hb hby d8_52) ?_
    show Steps p.tables e below (T534.setTop (mkF m 54 #[.val (.ref cn), .val (.int (1 : Int32)), .val (.int (2 : Int32)), .val (.int (3 : Int32)), .val .null, .val (.int (2 : Int32)), .val (.int (3 : Int32)), .unset, .unset, .unset, .unset, .unset] [(.int (31 : Int32)), (.int (1 : Int32))])) _
    refine XS.imul X534.here hx rfl (hb hby d8_54) rfl ?_
    show Steps p.tables e below (T534.setTop (mkF m 55 #[.val (.ref cn), .val (.int (1 : Int32)), .val (.int (2 : Int32)), .val (.int (3 : Int32)), .val .null, .val (.int (2 : Int32)), .val (.int (3 : Int32)), .unset, .unset, .unset, .unset, .unset] [(.int (31 : Int32))])) _
    refine XS.iload X534.here hx rfl (hb hby d8_55) rfl ?_
    show Steps p.tables e below (T534.setTop (mkF m 57 #[.val (.ref cn), .val (.int (1 : Int32)), .val (.int (2 : Int32)), .val (.int (3 : Int32)), .val .null, .val (.int (2 : Int32)), .val (.int (3 : Int32)), .unset, .unset, .unset, .unset, .unset] [(.int (2 : Int32)), (.int (31 : Int32))])) _
    refine XS.iadd X534.here hx rfl (hb hby d8_57) rfl ?_
    show Steps p.tables e below (T534.setTop (mkF m 58 #[.val (.ref cn), .val (.int (1 : Int32)), .val (.int (2 : Int32)), .val (.int (3 : Int32)), .val .null, .val (.int (2 : Int32)), .val (.int (3 : Int32)), .unset, .unset, .unset, .unset, .unset] [(.int (33 : Int32))])) _
    refine X534.ldcInt hx hown (mvT hZ (hw _ (List.mem_of_getElem? (i := 43) rfl))) (g := (mkF m 58 #[.val (.ref cn), .val (.int (1 : Int32)), .val (.int (2 : Int32)), .val (.int (3 : Int32)), .val .null, .val (.int (2 : Int32)), .val (.int (3 : Int32)), .unset, .unset, .unset, .unset, .unset] [(.int (33 : Int32))])) rfl (hb hby d8_58) _ ?_
    show Steps p.tables e below (T534.setTop (mkF m 60 #[.val (.ref cn), .val (.int (1 : Int32)), .val (.int (2 : Int32)), .val (.int (3 : Int32)), .val .null, .val (.int (2 : Int32)), .val (.int (3 : Int32)), .unset, .unset, .unset, .unset, .unset] [(.int (-1640531535 : Int32)), (.int (33 : Int32))])) _
    refine XS.imul X534.here hx rfl (hb hby d8_60) rfl ?_
    show Steps p.tables e below (T534.setTop (mkF m 61 #[.val (.ref cn), .val (.int (1 : Int32)), .val (.int (2 : Int32)), .val (.int (3 : Int32)), .val .null, .val (.int (2 : Int32)), .val (.int (3 : Int32)), .unset, .unset, .unset, .unset, .unset] [(.int (1697034193 : Int32))])) _
    refine XS.iload X534.here hx rfl (hb hby d8_61) rfl ?_
    show Steps p.tables e below (T534.setTop (mkF m 63 #[.val (.ref cn), .val (.int (1 : Int32)), .val (.int (2 : Int32)), .val (.int (3 : Int32)), .val .null, .val (.int (2 : Int32)), .val (.int (3 : Int32)), .unset, .unset, .unset, .unset, .unset] [(.int (3 : Int32)), (.int (1697034193 : Int32))])) _
    refine XS.iadd X534.here hx rfl (hb hby d8_63) rfl ?_
    show Steps p.tables e below (T534.setTop (mkF m 64 #[.val (.ref cn), .val (.int (1 : Int32)), .val (.int (2 : Int32)), .val (.int (3 : Int32)), .val .null, .val (.int (2 : Int32)), .val (.int (3 : Int32)), .unset, .unset, .unset, .unset, .unset] [(.int (1697034196 : Int32))])) _
    refine X534.ldcInt hx hown (mvT hZ (hw _ (List.mem_of_getElem? (i := 44) rfl))) (g := (mkF m 64 #[.val (.ref cn), .val (.int (1 : Int32)), .val (.int (2 : Int32)), .val (.int (3 : Int32)), .val .null, .val (.int (2 : Int32)), .val (.int (3 : Int32)), .unset, .unset, .unset, .unset, .unset] [(.int (1697034196 : Int32))])) rfl (hb hby d8_64) _ ?_
    show Steps p.tables e below (T534.setTop (mkF m 66 #[.val (.ref cn), .val (.int (1 : Int32)), .val (.int (2 : Int32)), .val (.int (3 : Int32)), .val .null, .val (.int (2 : Int32)), .val (.int (3 : Int32)), .unset, .unset, .unset, .unset, .unset] [(.int (-2048144789 : Int32)), (.int (1697034196 : Int32))])) _
    refine XS.imul X534.here hx rfl (hb hby d8_66) rfl ?_
    show Steps p.tables e below (T534.setTop (mkF m 67 #[.val (.ref cn), .val (.int (1 : Int32)), .val (.int (2 : Int32)), .val (.int (3 : Int32)), .val .null, .val (.int (2 : Int32)), .val (.int (3 : Int32)), .unset, .unset, .unset, .unset, .unset] [(.int (1501873564 : Int32))])) _
    refine XS.iconst X534.here hx rfl (hb hby d8_67) ?_
    show Steps p.tables e below (T534.setTop (mkF m 68 #[.val (.ref cn), .val (.int (1 : Int32)), .val (.int (2 : Int32)), .val (.int (3 : Int32)), .val .null, .val (.int (2 : Int32)), .val (.int (3 : Int32)), .unset, .unset, .unset, .unset, .unset] [(.int (1 : Int32)), (.int (1501873564 : Int32))])) _
    refine XS.iushr X534.here hx rfl (hb hby d8_68) rfl ?_
    show Steps p.tables e below (T534.setTop (mkF m 69 #[.val (.ref cn), .val (.int (1 : Int32)), .val (.int (2 : Int32)), .val (.int (3 : Int32)), .val .null, .val (.int (2 : Int32)), .val (.int (3 : Int32)), .unset, .unset, .unset, .unset, .unset] [(.int (750936782 : Int32))])) _
    refine XS.aloadN X534.here hx rfl (hb hby d8_69) rfl rfl ?_
    show Steps p.tables e below (T534.setTop (mkF m 70 #[.val (.ref cn), .val (.int (1 : Int32)), .val (.int (2 : Int32)), .val (.int (3 : Int32)), .val .null, .val (.int (2 : Int32)), .val (.int (3 : Int32)), .unset, .unset, .unset, .unset, .unset] [(.ref cn), (.int (750936782 : Int32))])) _
    refine st535 _ ?_
    show Steps p.tables e below (T535.setTop (mkF m 73 #[.val (.ref cn), .val (.int (1 : Int32)), .val (.int (2 : Int32)), .val (.int (3 : Int32)), .val .null, .val (.int (2 : Int32)), .val (.int (3 : Int32)), .unset, .unset, .unset, .unset, .unset] [(.ref ca), (.int (750936782 : Int32))])) _
    refine X535.arraylength hx (by rw [e535]; exact Ar536.1) (State.isArrayOf_alike hZ.alike Ar536.2.1) (g := (mkF m 73 #[.val (.ref cn), .val (.int (1 : Int32)), .val (.int (2 : Int32)), .val (.int (3 : Int32)), .val .null, .val (.int (2 : Int32)), .val (.int (3 : Int32)), .unset, .unset, .unset, .unset, .unset] [(.ref ca), (.int (750936782 : Int32))])) rfl rfl (hb hby d8_73) _ ?_
    rw [show cl536.slots.size.toInt32 = (16384 : Int32) from by rw [Sz536]; decide]
    show Steps p.tables e below (T535.setTop (mkF m 74 #[.val (.ref cn), .val (.int (1 : Int32)), .val (.int (2 : Int32)), .val (.int (3 : Int32)), .val .null, .val (.int (2 : Int32)), .val (.int (3 : Int32)), .unset, .unset, .unset, .unset, .unset] [(.int (16384 : Int32)), (.int (750936782 : Int32))])) _
    refine XS.iconst X535.here hx rfl (hb hby d8_74) ?_
    show Steps p.tables e below (T535.setTop (mkF m 75 #[.val (.ref cn), .val (.int (1 : Int32)), .val (.int (2 : Int32)), .val (.int (3 : Int32)), .val .null, .val (.int (2 : Int32)), .val (.int (3 : Int32)), .unset, .unset, .unset, .unset, .unset] [(.int (4 : Int32)), (.int (16384 : Int32)), (.int (750936782 : Int32))])) _
    refine XS.idiv X535.here hx rfl (hb hby d8_75) rfl (by decide) ?_
    show Steps p.tables e below (T535.setTop (mkF m 76 #[.val (.ref cn), .val (.int (1 : Int32)), .val (.int (2 : Int32)), .val (.int (3 : Int32)), .val .null, .val (.int (2 : Int32)), .val (.int (3 : Int32)), .unset, .unset, .unset, .unset, .unset] [(.int (4096 : Int32)), (.int (750936782 : Int32))])) _
    refine XS.iconst X535.here hx rfl (hb hby d8_76) ?_
    show Steps p.tables e below (T535.setTop (mkF m 77 #[.val (.ref cn), .val (.int (1 : Int32)), .val (.int (2 : Int32)), .val (.int (3 : Int32)), .val .null, .val (.int (2 : Int32)), .val (.int (3 : Int32)), .unset, .unset, .unset, .unset, .unset] [(.int (1 : Int32)), (.int (4096 : Int32)), (.int (750936782 : Int32))])) _
    refine XS.isub X535.here hx rfl (hb hby d8_77) rfl ?_
    show Steps p.tables e below (T535.setTop (mkF m 78 #[.val (.ref cn), .val (.int (1 : Int32)), .val (.int (2 : Int32)), .val (.int (3 : Int32)), .val .null, .val (.int (2 : Int32)), .val (.int (3 : Int32)), .unset, .unset, .unset, .unset, .unset] [(.int (4095 : Int32)), (.int (750936782 : Int32))])) _
    refine XS.iand X535.here hx rfl (hb hby d8_78) rfl ?_
    show Steps p.tables e below (T535.setTop (mkF m 79 #[.val (.ref cn), .val (.int (1 : Int32)), .val (.int (2 : Int32)), .val (.int (3 : Int32)), .val .null, .val (.int (2 : Int32)), .val (.int (3 : Int32)), .unset, .unset, .unset, .unset, .unset] [(.int (718 : Int32))])) _
    refine XS.istore X535.here hx rfl (hb hby d8_79) rfl (l' := #[.val (.ref cn), .val (.int (1 : Int32)), .val (.int (2 : Int32)), .val (.int (3 : Int32)), .val .null, .val (.int (2 : Int32)), .val (.int (3 : Int32)), .val (.int (718 : Int32)), .unset, .unset, .unset, .unset]) rfl ?_
    show Steps p.tables e below (T535.setTop (mkF m 81 #[.val (.ref cn), .val (.int (1 : Int32)), .val (.int (2 : Int32)), .val (.int (3 : Int32)), .val .null, .val (.int (2 : Int32)), .val (.int (3 : Int32)), .val (.int (718 : Int32)), .unset, .unset, .unset, .unset] [])) _
    refine XS.aloadN X535.here hx rfl (hb hby d8_81) rfl rfl ?_
    show Steps p.tables e below (T535.setTop (mkF m 82 #[.val (.ref cn), .val (.int (1 : Int32)), .val (.int (2 : Int32)), .val (.int (3 : Int32)), .val .null, .val (.int (2 : Int32)), .val (.int (3 : Int32)), .val (.int (718 : Int32)), .unset, .unset, .unset, .unset] [(.ref cn)])) _
    refine st537 _ ?_
    show Steps p.tables e below (T537.setTop (mkF m 85 #[.val (.ref cn), .val (.int (1 : Int32)), .val (.int (2 : Int32)), .val (.int (3 : Int32)), .val .null, .val (.int (2 : Int32)), .val (.int (3 : Int32)), .val (.int (718 : Int32)), .unset, .unset, .unset, .unset] [(.ref ca)])) _
    refine XS.iconst X537.here hx rfl (hb hby d8_85) ?_
    show Steps p.tables e below (T537.setTop (mkF m 86 #[.val (.ref cn), .val (.int (1 : Int32)), .val (.int (2 : Int32)), .val (.int (3 : Int32)), .val .null, .val (.int (2 : Int32)), .val (.int (3 : Int32)), .val (.int (718 : Int32)), .unset, .unset, .unset, .unset] [(.int (4 : Int32)), (.ref ca)])) _
    refine XS.iload X537.here hx rfl (hb hby d8_86) rfl ?_
    show Steps p.tables e below (T537.setTop (mkF m 88 #[.val (.ref cn), .val (.int (1 : Int32)), .val (.int (2 : Int32)), .val (.int (3 : Int32)), .val .null, .val (.int (2 : Int32)), .val (.int (3 : Int32)), .val (.int (718 : Int32)), .unset, .unset, .unset, .unset] [(.int (718 : Int32)), (.int (4 : Int32)), (.ref ca)])) _
    refine XS.imul X537.here hx rfl (hb hby d8_88) rfl ?_
    show Steps p.tables e below (T537.setTop (mkF m 89 #[.val (.ref cn), .val (.int (1 : Int32)), .val (.int (2 : Int32)), .val (.int (3 : Int32)), .val .null, .val (.int (2 : Int32)), .val (.int (3 : Int32)), .val (.int (718 : Int32)), .unset, .unset, .unset, .unset] [(.int (2872 : Int32)), (.ref ca)])) _
    refine X537.iaload hx (j := (2872 : Int32)) (v := (.int (-1 : Int32))) (by rw [e537]; exact Ar538.1) (State.isArrayOf_alike hZ.alike Ar538.2.1) Ar538.2.2 hin538 hat538 (g := (mkF m 89 #[.val (.ref cn), .val (.int (1 : Int32)), .val (.int (2 : Int32)), .val (.int (3 : Int32)), .val .null, .val (.int (2 : Int32)), .val (.int (3 : Int32)), .val (.int (718 : Int32)), .unset, .unset, .unset, .unset] [(.int (2872 : Int32)), (.ref ca)])) rfl rfl (hb hby d8_89) _ ?_
    show Steps p.tables e below (T537.setTop (mkF m 90 #[.val (.ref cn), .val (.int (1 : Int32)), .val (.int (2 : Int32)), .val (.int (3 : Int32)), .val .null, .val (.int (2 : Int32)), .val (.int (3 : Int32)), .val (.int (718 : Int32)), .unset, .unset, .unset, .unset] [(.int (-1 : Int32))])) _
    refine XS.iloadN X537.here hx rfl (hb hby d8_90) rfl ?_
    show Steps p.tables e below (T537.setTop (mkF m 91 #[.val (.ref cn), .val (.int (1 : Int32)), .val (.int (2 : Int32)), .val (.int (3 : Int32)), .val .null, .val (.int (2 : Int32)), .val (.int (3 : Int32)), .val (.int (718 : Int32)), .unset, .unset, .unset, .unset] [(.int (1 : Int32)), (.int (-1 : Int32))])) _
    refine XS.icmpYes X537.here hx rfl (pc0 := 91) (pc' := 138) rfl (hb hby d8_91) rfl (feq (by decide)).2 (by decide) (by decide) ?_
    show Steps p.tables e below (T537.setTop (mkF m 138 #[.val (.ref cn), .val (.int (1 : Int32)), .val (.int (2 : Int32)), .val (.int (3 : Int32)), .val .null, .val (.int (2 : Int32)), .val (.int (3 : Int32)), .val (.int (718 : Int32)), .unset, .unset, .unset, .unset] [])) _
    refine XS.aloadN X537.here hx rfl (hb hby d8_138) rfl rfl ?_
    show Steps p.tables e below (T537.setTop (mkF m 139 #[.val (.ref cn), .val (.int (1 : Int32)), .val (.int (2 : Int32)), .val (.int (3 : Int32)), .val .null, .val (.int (2 : Int32)), .val (.int (3 : Int32)), .val (.int (718 : Int32)), .unset, .unset, .unset, .unset] [(.ref cn)])) _
    refine st539 _ ?_
    show Steps p.tables e below (T539.setTop (mkF m 142 #[.val (.ref cn), .val (.int (1 : Int32)), .val (.int (2 : Int32)), .val (.int (3 : Int32)), .val .null, .val (.int (2 : Int32)), .val (.int (3 : Int32)), .val (.int (718 : Int32)), .unset, .unset, .unset, .unset] [(.ref vs)])) _
    refine XS.iload X539.here hx rfl (hb hby d8_142) rfl ?_
    show Steps p.tables e below (T539.setTop (mkF m 144 #[.val (.ref cn), .val (.int (1 : Int32)), .val (.int (2 : Int32)), .val (.int (3 : Int32)), .val .null, .val (.int (2 : Int32)), .val (.int (3 : Int32)), .val (.int (718 : Int32)), .unset, .unset, .unset, .unset] [(.int (2 : Int32)), (.ref vs)])) _
    refine X539.iaload hx (j := (2 : Int32)) (v := (.int (0 : Int32))) (by rw [e539]; exact Ar540.1) (State.isArrayOf_alike hZ.alike Ar540.2.1) Ar540.2.2 hin540 hat540 (g := (mkF m 144 #[.val (.ref cn), .val (.int (1 : Int32)), .val (.int (2 : Int32)), .val (.int (3 : Int32)), .val .null, .val (.int (2 : Int32)), .val (.int (3 : Int32)), .val (.int (718 : Int32)), .unset, .unset, .unset, .unset] [(.int (2 : Int32)), (.ref vs)])) rfl rfl (hb hby d8_144) _ ?_
    show Steps p.tables e below (T539.setTop (mkF m 145 #[.val (.ref cn), .val (.int (1 : Int32)), .val (.int (2 : Int32)), .val (.int (3 : Int32)), .val .null, .val (.int (2 : Int32)), .val (.int (3 : Int32)), .val (.int (718 : Int32)), .unset, .unset, .unset, .unset] [(.int (0 : Int32))])) _
    refine XS.aloadN X539.here hx rfl (hb hby d8_145) rfl rfl ?_
    show Steps p.tables e below (T539.setTop (mkF m 146 #[.val (.ref cn), .val (.int (1 : Int32)), .val (.int (2 : Int32)), .val (.int (3 : Int32)), .val .null, .val (.int (2 : Int32)), .val (.int (3 : Int32)), .val (.int (718 : Int32)), .unset, .unset, .unset, .unset] [(.ref cn), (.int (0 : Int32))])) _
    refine st541 _ ?_
    show Steps p.tables e below (T541.setTop (mkF m 149 #[.val (.ref cn), .val (.int (1 : Int32)), .val (.int (2 : Int32)), .val (.int (3 : Int32)), .val .null, .val (.int (2 : Int32)), .val (.int (3 : Int32)), .val (.int (718 : Int32)), .unset, .unset, .unset, .unset] [(.ref vs), (.int (0 : Int32))])) _
    refine XS.iload X541.here hx rfl (hb hby d8_149) rfl ?_
    show Steps p.tables e below (T541.setTop (mkF m 151 #[.val (.ref cn), .val (.int (1 : Int32)), .val (.int (2 : Int32)), .val (.int (3 : Int32)), .val .null, .val (.int (2 : Int32)), .val (.int (3 : Int32)), .val (.int (718 : Int32)), .unset, .unset, .unset, .unset] [(.int (3 : Int32)), (.ref vs), (.int (0 : Int32))])) _
    refine X541.iaload hx (j := (3 : Int32)) (v := (.int (0 : Int32))) (by rw [e541]; exact Ar542.1) (State.isArrayOf_alike hZ.alike Ar542.2.1) Ar542.2.2 hin542 hat542 (g := (mkF m 151 #[.val (.ref cn), .val (.int (1 : Int32)), .val (.int (2 : Int32)), .val (.int (3 : Int32)), .val .null, .val (.int (2 : Int32)), .val (.int (3 : Int32)), .val (.int (718 : Int32)), .unset, .unset, .unset, .unset] [(.int (3 : Int32)), (.ref vs), (.int (0 : Int32))])) rfl rfl (hb hby d8_151) _ ?_
    show Steps p.tables e below (T541.setTop (mkF m 152 #[.val (.ref cn), .val (.int (1 : Int32)), .val (.int (2 : Int32)), .val (.int (3 : Int32)), .val .null, .val (.int (2 : Int32)), .val (.int (3 : Int32)), .val (.int (718 : Int32)), .unset, .unset, .unset, .unset] [(.int (0 : Int32)), (.int (0 : Int32))])) _
    refine st543 _ ?_
    show Steps p.tables e below (T543.setTop (mkF m 155 #[.val (.ref cn), .val (.int (1 : Int32)), .val (.int (2 : Int32)), .val (.int (3 : Int32)), .val .null, .val (.int (2 : Int32)), .val (.int (3 : Int32)), .val (.int (718 : Int32)), .unset, .unset, .unset, .unset] [(.int (0 : Int32))])) _
    refine XS.istore X543.here hx rfl (hb hby d8_155) rfl (l' := #[.val (.ref cn), .val (.int (1 : Int32)), .val (.int (2 : Int32)), .val (.int (3 : Int32)), .val .null, .val (.int (2 : Int32)), .val (.int (3 : Int32)), .val (.int (718 : Int32)), .val (.int (0 : Int32)), .unset, .unset, .unset]) rfl ?_
    show Steps p.tables e below (T543.setTop (mkF m 157 #[.val (.ref cn), .val (.int (1 : Int32)), .val (.int (2 : Int32)), .val (.int (3 : Int32)), .val .null, .val (.int (2 : Int32)), .val (.int (3 : Int32)), .val (.int (718 : Int32)), .val (.int (0 : Int32)), .unset, .unset, .unset] [])) _
    refine XS.aloadN X543.here hx rfl (hb hby d8_157) rfl rfl ?_
    show Steps p.tables e below (T543.setTop (mkF m 158 #[.val (.ref cn), .val (.int (1 : Int32)), .val (.int (2 : Int32)), .val (.int (3 : Int32)), .val .null, .val (.int (2 : Int32)), .val (.int (3 : Int32)), .val (.int (718 : Int32)), .val (.int (0 : Int32)), .unset, .unset, .unset] [(.ref cn)])) _
    refine XS.iloadN X543.here hx rfl (hb hby d8_158) rfl ?_
    show Steps p.tables e below (T543.setTop (mkF m 159 #[.val (.ref cn), .val (.int (1 : Int32)), .val (.int (2 : Int32)), .val (.int (3 : Int32)), .val .null, .val (.int (2 : Int32)), .val (.int (3 : Int32)), .val (.int (718 : Int32)), .val (.int (0 : Int32)), .unset, .unset, .unset] [(.int (1 : Int32)), (.ref cn)])) _
    refine XS.aloadN X543.here hx rfl (hb hby d8_159) rfl rfl ?_
    show Steps p.tables e below (T543.setTop (mkF m 160 #[.val (.ref cn), .val (.int (1 : Int32)), .val (.int (2 : Int32)), .val (.int (3 : Int32)), .val .null, .val (.int (2 : Int32)), .val (.int (3 : Int32)), .val (.int (718 : Int32)), .val (.int (0 : Int32)), .unset, .unset, .unset] [(.ref cn), (.int (1 : Int32)), (.ref cn)])) _
    refine XS.iload X543.here hx rfl (hb hby d8_160) rfl ?_
    show Steps p.tables e below (T543.setTop (mkF m 162 #[.val (.ref cn), .val (.int (1 : Int32)), .val (.int (2 : Int32)), .val (.int (3 : Int32)), .val .null, .val (.int (2 : Int32)), .val (.int (3 : Int32)), .val (.int (718 : Int32)), .val (.int (0 : Int32)), .unset, .unset, .unset] [(.int (2 : Int32)), (.ref cn), (.int (1 : Int32)), (.ref cn)])) _
    refine XS.iload X543.here hx rfl (hb hby d8_162) rfl ?_
    show Steps p.tables e below (T543.setTop (mkF m 164 #[.val (.ref cn), .val (.int (1 : Int32)), .val (.int (2 : Int32)), .val (.int (3 : Int32)), .val .null, .val (.int (2 : Int32)), .val (.int (3 : Int32)), .val (.int (718 : Int32)), .val (.int (0 : Int32)), .unset, .unset, .unset] [(.int (0 : Int32)), (.int (2 : Int32)), (.ref cn), (.int (1 : Int32)), (.ref cn)])) _
    refine XS.iconst X543.here hx rfl (hb hby d8_164) ?_
    show Steps p.tables e below (T543.setTop (mkF m 165 #[.val (.ref cn), .val (.int (1 : Int32)), .val (.int (2 : Int32)), .val (.int (3 : Int32)), .val .null, .val (.int (2 : Int32)), .val (.int (3 : Int32)), .val (.int (718 : Int32)), .val (.int (0 : Int32)), .unset, .unset, .unset] [(.int (0 : Int32)), (.int (0 : Int32)), (.int (2 : Int32)), (.ref cn), (.int (1 : Int32)), (.ref cn)])) _
    refine st544.trans ?_
    show Steps p.tables e below (T544.setTop (mkF m 168 #[.val (.ref cn), .val (.int (1 : Int32)), .val (.int (2 : Int32)), .val (.int (3 : Int32)), .val .null, .val (.int (2 : Int32)), .val (.int (3 : Int32)), .val (.int (718 : Int32)), .val (.int (0 : Int32)), .unset, .unset, .unset] [(.int (0 : Int32)), (.int (1 : Int32)), (.ref cn)])) _
    refine XS.aloadN X544.here hx rfl (hb hby d8_168) rfl rfl ?_
    show Steps p.tables e below (T544.setTop (mkF m 169 #[.val (.ref cn), .val (.int (1 : Int32)), .val (.int (2 : Int32)), .val (.int (3 : Int32)), .val .null, .val (.int (2 : Int32)), .val (.int (3 : Int32)), .val (.int (718 : Int32)), .val (.int (0 : Int32)), .unset, .unset, .unset] [(.ref cn), (.int (0 : Int32)), (.int (1 : Int32)), (.ref cn)])) _
    refine XS.iload X544.here hx rfl (hb hby d8_169) rfl ?_
    show Steps p.tables e below (T544.setTop (mkF m 171 #[.val (.ref cn), .val (.int (1 : Int32)), .val (.int (2 : Int32)), .val (.int (3 : Int32)), .val .null, .val (.int (2 : Int32)), .val (.int (3 : Int32)), .val (.int (718 : Int32)), .val (.int (0 : Int32)), .unset, .unset, .unset] [(.int (3 : Int32)), (.ref cn), (.int (0 : Int32)), (.int (1 : Int32)), (.ref cn)])) _
    refine XS.iload X544.here hx rfl (hb hby d8_171) rfl ?_
    show Steps p.tables e below (T544.setTop (mkF m 173 #[.val (.ref cn), .val (.int (1 : Int32)), .val (.int (2 : Int32)), .val (.int (3 : Int32)), .val .null, .val (.int (2 : Int32)), .val (.int (3 : Int32)), .val (.int (718 : Int32)), .val (.int (0 : Int32)), .unset, .unset, .unset] [(.int (0 : Int32)), (.int (3 : Int32)), (.ref cn), (.int (0 : Int32)), (.int (1 : Int32)), (.ref cn)])) _
    refine XS.iconst X544.here hx rfl (hb hby d8_173) ?_
    show Steps p.tables e below (T544.setTop (mkF m 174 #[.val (.ref cn), .val (.int (1 : Int32)), .val (.int (2 : Int32)), .val (.int (3 : Int32)), .val .null, .val (.int (2 : Int32)), .val (.int (3 : Int32)), .val (.int (718 : Int32)), .val (.int (0 : Int32)), .unset, .unset, .unset] [(.int (0 : Int32)), (.int (0 : Int32)), (.int (3 : Int32)), (.ref cn), (.int (0 : Int32)), (.int (1 : Int32)), (.ref cn)])) _
    refine st545.trans ?_
    show Steps p.tables e below (T545.setTop (mkF m 177 #[.val (.ref cn), .val (.int (1 : Int32)), .val (.int (2 : Int32)), .val (.int (3 : Int32)), .val .null, .val (.int (2 : Int32)), .val (.int (3 : Int32)), .val (.int (718 : Int32)), .val (.int (0 : Int32)), .unset, .unset, .unset] [(.int (1 : Int32)), (.int (0 : Int32)), (.int (1 : Int32)), (.ref cn)])) _
    refine st546.trans ?_
    show Steps p.tables e below (T546.setTop (mkF m 180 #[.val (.ref cn), .val (.int (1 : Int32)), .val (.int (2 : Int32)), .val (.int (3 : Int32)), .val .null, .val (.int (2 : Int32)), .val (.int (3 : Int32)), .val (.int (718 : Int32)), .val (.int (0 : Int32)), .unset, .unset, .unset] [(.int (0 : Int32))])) _
    refine XS.istore X546.here hx rfl (hb hby d8_180) rfl (l' := #[.val (.ref cn), .val (.int (1 : Int32)), .val (.int (2 : Int32)), .val (.int (3 : Int32)), .val .null, .val (.int (2 : Int32)), .val (.int (3 : Int32)), .val (.int (718 : Int32)), .val (.int (0 : Int32)), .val (.int (0 : Int32)), .unset, .unset]) rfl ?_
    show Steps p.tables e below (T546.setTop (mkF m 182 #[.val (.ref cn), .val (.int (1 : Int32)), .val (.int (2 : Int32)), .val (.int (3 : Int32)), .val .null, .val (.int (2 : Int32)), .val (.int (3 : Int32)), .val (.int (718 : Int32)), .val (.int (0 : Int32)), .val (.int (0 : Int32)), .unset, .unset] [])) _
    refine XS.aloadN X546.here hx rfl (hb hby d8_182) rfl rfl ?_
    show Steps p.tables e below (T546.setTop (mkF m 183 #[.val (.ref cn), .val (.int (1 : Int32)), .val (.int (2 : Int32)), .val (.int (3 : Int32)), .val .null, .val (.int (2 : Int32)), .val (.int (3 : Int32)), .val (.int (718 : Int32)), .val (.int (0 : Int32)), .val (.int (0 : Int32)), .unset, .unset] [(.ref cn)])) _
    refine XS.iloadN X546.here hx rfl (hb hby d8_183) rfl ?_
    show Steps p.tables e below (T546.setTop (mkF m 184 #[.val (.ref cn), .val (.int (1 : Int32)), .val (.int (2 : Int32)), .val (.int (3 : Int32)), .val .null, .val (.int (2 : Int32)), .val (.int (3 : Int32)), .val (.int (718 : Int32)), .val (.int (0 : Int32)), .val (.int (0 : Int32)), .unset, .unset] [(.int (1 : Int32)), (.ref cn)])) _
    refine XS.aloadN X546.here hx rfl (hb hby d8_184) rfl rfl ?_
    show Steps p.tables e below (T546.setTop (mkF m 185 #[.val (.ref cn), .val (.int (1 : Int32)), .val (.int (2 : Int32)), .val (.int (3 : Int32)), .val .null, .val (.int (2 : Int32)), .val (.int (3 : Int32)), .val (.int (718 : Int32)), .val (.int (0 : Int32)), .val (.int (0 : Int32)), .unset, .unset] [(.ref cn), (.int (1 : Int32)), (.ref cn)])) _
    refine XS.iload X546.here hx rfl (hb hby d8_185) rfl ?_
    show Steps p.tables e below (T546.setTop (mkF m 187 #[.val (.ref cn), .val (.int (1 : Int32)), .val (.int (2 : Int32)), .val (.int (3 : Int32)), .val .null, .val (.int (2 : Int32)), .val (.int (3 : Int32)), .val (.int (718 : Int32)), .val (.int (0 : Int32)), .val (.int (0 : Int32)), .unset, .unset] [(.int (2 : Int32)), (.ref cn), (.int (1 : Int32)), (.ref cn)])) _
    refine XS.iload X546.here hx rfl (hb hby d8_187) rfl ?_
    show Steps p.tables e below (T546.setTop (mkF m 189 #[.val (.ref cn), .val (.int (1 : Int32)), .val (.int (2 : Int32)), .val (.int (3 : Int32)), .val .null, .val (.int (2 : Int32)), .val (.int (3 : Int32)), .val (.int (718 : Int32)), .val (.int (0 : Int32)), .val (.int (0 : Int32)), .unset, .unset] [(.int (0 : Int32)), (.int (2 : Int32)), (.ref cn), (.int (1 : Int32)), (.ref cn)])) _
    refine XS.iconst X546.here hx rfl (hb hby d8_189) ?_
    show Steps p.tables e below (T546.setTop (mkF m 190 #[.val (.ref cn), .val (.int (1 : Int32)), .val (.int (2 : Int32)), .val (.int (3 : Int32)), .val .null, .val (.int (2 : Int32)), .val (.int (3 : Int32)), .val (.int (718 : Int32)), .val (.int (0 : Int32)), .val (.int (0 : Int32)), .unset, .unset] [(.int (1 : Int32)), (.int (0 : Int32)), (.int (2 : Int32)), (.ref cn), (.int (1 : Int32)), (.ref cn)])) _
    refine st547.trans ?_
    show Steps p.tables e below (T547.setTop (mkF m 193 #[.val (.ref cn), .val (.int (1 : Int32)), .val (.int (2 : Int32)), .val (.int (3 : Int32)), .val .null, .val (.int (2 : Int32)), .val (.int (3 : Int32)), .val (.int (718 : Int32)), .val (.int (0 : Int32)), .val (.int (0 : Int32)), .unset, .unset] [(.int (1 : Int32)), (.int (1 : Int32)), (.ref cn)])) _
    refine XS.aloadN X547.here hx rfl (hb hby d8_193) rfl rfl ?_
    show Steps p.tables e below (T547.setTop (mkF m 194 #[.val (.ref cn), .val (.int (1 : Int32)), .val (.int (2 : Int32)), .val (.int (3 : Int32)), .val .null, .val (.int (2 : Int32)), .val (.int (3 : Int32)), .val (.int (718 : Int32)), .val (.int (0 : Int32)), .val (.int (0 : Int32)), .unset, .unset] [(.ref cn), (.int (1 : Int32)), (.int (1 : Int32)), (.ref cn)])) _
    refine XS.iload X547.here hx rfl (hb hby d8_194) rfl ?_
    show Steps p.tables e below (T547.setTop (mkF m 196 #[.val (.ref cn), .val (.int (1 : Int32)), .val (.int (2 : Int32)), .val (.int (3 : Int32)), .val .null, .val (.int (2 : Int32)), .val (.int (3 : Int32)), .val (.int (718 : Int32)), .val (.int (0 : Int32)), .val (.int (0 : Int32)), .unset, .unset] [(.int (3 : Int32)), (.ref cn), (.int (1 : Int32)), (.int (1 : Int32)), (.ref cn)])) _
    refine XS.iload X547.here hx rfl (hb hby d8_196) rfl ?_
    show Steps p.tables e below (T547.setTop (mkF m 198 #[.val (.ref cn), .val (.int (1 : Int32)), .val (.int (2 : Int32)), .val (.int (3 : Int32)), .val .null, .val (.int (2 : Int32)), .val (.int (3 : Int32)), .val (.int (718 : Int32)), .val (.int (0 : Int32)), .val (.int (0 : Int32)), .unset, .unset] [(.int (0 : Int32)), (.int (3 : Int32)), (.ref cn), (.int (1 : Int32)), (.int (1 : Int32)), (.ref cn)])) _
    refine XS.iconst X547.here hx rfl (hb hby d8_198) ?_
    show Steps p.tables e below (T547.setTop (mkF m 199 #[.val (.ref cn), .val (.int (1 : Int32)), .val (.int (2 : Int32)), .val (.int (3 : Int32)), .val .null, .val (.int (2 : Int32)), .val (.int (3 : Int32)), .val (.int (718 : Int32)), .val (.int (0 : Int32)), .val (.int (0 : Int32)), .unset, .unset] [(.int (1 : Int32)), (.int (0 : Int32)), (.int (3 : Int32)), (.ref cn), (.int (1 : Int32)), (.int (1 : Int32)), (.ref cn)])) _
    refine st548.trans ?_
    show Steps p.tables e below (T548.setTop (mkF m 202 #[.val (.ref cn), .val (.int (1 : Int32)), .val (.int (2 : Int32)), .val (.int (3 : Int32)), .val .null, .val (.int (2 : Int32)), .val (.int (3 : Int32)), .val (.int (718 : Int32)), .val (.int (0 : Int32)), .val (.int (0 : Int32)), .unset, .unset] [(.int (0 : Int32)), (.int (1 : Int32)), (.int (1 : Int32)), (.ref cn)])) _
    refine st549.trans ?_
    show Steps p.tables e below (T549.setTop (mkF m 205 #[.val (.ref cn), .val (.int (1 : Int32)), .val (.int (2 : Int32)), .val (.int (3 : Int32)), .val .null, .val (.int (2 : Int32)), .val (.int (3 : Int32)), .val (.int (718 : Int32)), .val (.int (0 : Int32)), .val (.int (0 : Int32)), .unset, .unset] [(.int (0 : Int32))])) _
    refine XS.istore X549.here hx rfl (hb hby d8_205) rfl (l' := #[.val (.ref cn), .val (.int (1 : Int32)), .val (.int (2 : Int32)), .val (.int (3 : Int32)), .val .null, .val (.int (2 : Int32)), .val (.int (3 : Int32)), .val (.int (718 : Int32)), .val (.int (0 : Int32)), .val (.int (0 : Int32)), .val (.int (0 : Int32)), .unset]) rfl ?_
    show Steps p.tables e below (T549.setTop (mkF m 207 #[.val (.ref cn), .val (.int (1 : Int32)), .val (.int (2 : Int32)), .val (.int (3 : Int32)), .val .null, .val (.int (2 : Int32)), .val (.int (3 : Int32)), .val (.int (718 : Int32)), .val (.int (0 : Int32)), .val (.int (0 : Int32)), .val (.int (0 : Int32)), .unset] [])) _
    refine XS.aloadN X549.here hx rfl (hb hby d8_207) rfl rfl ?_
    show Steps p.tables e below (T549.setTop (mkF m 208 #[.val (.ref cn), .val (.int (1 : Int32)), .val (.int (2 : Int32)), .val (.int (3 : Int32)), .val .null, .val (.int (2 : Int32)), .val (.int (3 : Int32)), .val (.int (718 : Int32)), .val (.int (0 : Int32)), .val (.int (0 : Int32)), .val (.int (0 : Int32)), .unset] [(.ref cn)])) _
    refine XS.iload X549.here hx rfl (hb hby d8_208) rfl ?_
    show Steps p.tables e below (T549.setTop (mkF m 210 #[.val (.ref cn), .val (.int (1 : Int32)), .val (.int (2 : Int32)), .val (.int (3 : Int32)), .val .null, .val (.int (2 : Int32)), .val (.int (3 : Int32)), .val (.int (718 : Int32)), .val (.int (0 : Int32)), .val (.int (0 : Int32)), .val (.int (0 : Int32)), .unset] [(.int (0 : Int32)), (.ref cn)])) _
    refine XS.iload X549.here hx rfl (hb hby d8_210) rfl ?_
    show Steps p.tables e below (T549.setTop (mkF m 212 #[.val (.ref cn), .val (.int (1 : Int32)), .val (.int (2 : Int32)), .val (.int (3 : Int32)), .val .null, .val (.int (2 : Int32)), .val (.int (3 : Int32)), .val (.int (718 : Int32)), .val (.int (0 : Int32)), .val (.int (0 : Int32)), .val (.int (0 : Int32)), .unset] [(.int (0 : Int32)), (.int (0 : Int32)), (.ref cn)])) _
    refine XS.iload X549.here hx rfl (hb hby d8_212) rfl ?_
    show Steps p.tables e below (T549.setTop (mkF m 214 #[.val (.ref cn), .val (.int (1 : Int32)), .val (.int (2 : Int32)), .val (.int (3 : Int32)), .val .null, .val (.int (2 : Int32)), .val (.int (3 : Int32)), .val (.int (718 : Int32)), .val (.int (0 : Int32)), .val (.int (0 : Int32)), .val (.int (0 : Int32)), .unset] [(.int (0 : Int32)), (.int (0 : Int32)), (.int (0 : Int32)), (.ref cn)])) _
    refine st550.trans ?_
    show Steps p.tables e below (T550.setTop (mkF m 217 #[.val (.ref cn), .val (.int (1 : Int32)), .val (.int (2 : Int32)), .val (.int (3 : Int32)), .val .null, .val (.int (2 : Int32)), .val (.int (3 : Int32)), .val (.int (718 : Int32)), .val (.int (0 : Int32)), .val (.int (0 : Int32)), .val (.int (0 : Int32)), .unset] [(.int (0 : Int32))])) _
    refine XS.istore X550.here hx rfl (hb hby d8_217) rfl (l' := #[.val (.ref cn), .val (.int (1 : Int32)), .val (.int (2 : Int32)), .val (.int (3 : Int32)), .val .null, .val (.int (2 : Int32)), .val (.int (3 : Int32)), .val (.int (718 : Int32)), .val (.int (0 : Int32)), .val (.int (0 : Int32)), .val (.int (0 : Int32)), .val (.int (0 : Int32))]) rfl ?_
    show Steps p.tables e below (T550.setTop (mkF m 219 #[.val (.ref cn), .val (.int (1 : Int32)), .val (.int (2 : Int32)), .val (.int (3 : Int32)), .val .null, .val (.int (2 : Int32)), .val (.int (3 : Int32)), .val (.int (718 : Int32)), .val (.int (0 : Int32)), .val (.int (0 : Int32)), .val (.int (0 : Int32)), .val (.int (0 : Int32))] [])) _
    refine XS.iloadN X550.here hx rfl (hb hby d8_219) rfl ?_
    show Steps p.tables e below (T550.setTop (mkF m 220 #[.val (.ref cn), .val (.int (1 : Int32)), .val (.int (2 : Int32)), .val (.int (3 : Int32)), .val .null, .val (.int (2 : Int32)), .val (.int (3 : Int32)), .val (.int (718 : Int32)), .val (.int (0 : Int32)), .val (.int (0 : Int32)), .val (.int (0 : Int32)), .val (.int (0 : Int32))] [(.int (1 : Int32))])) _
    refine XS.bipush X550.here hx rfl (hb hby d8_220) ?_
    show Steps p.tables e below (T550.setTop (mkF m 222 #[.val (.ref cn), .val (.int (1 : Int32)), .val (.int (2 : Int32)), .val (.int (3 : Int32)), .val .null, .val (.int (2 : Int32)), .val (.int (3 : Int32)), .val (.int (718 : Int32)), .val (.int (0 : Int32)), .val (.int (0 : Int32)), .val (.int (0 : Int32)), .val (.int (0 : Int32))] [(.int (31 : Int32)), (.int (1 : Int32))])) _
    refine XS.imul X550.here hx rfl (hb hby d8_222) rfl ?_
    show Steps p.tables e below (T550.setTop (mkF m 223 #[.val (.ref cn), .val (.int (1 : Int32)), .val (.int (2 : Int32)), .val (.int (3 : Int32)), .val .null, .val (.int (2 : Int32)), .val (.int (3 : Int32)), .val (.int (718 : Int32)), .val (.int (0 : Int32)), .val (.int (0 : Int32)), .val (.int (0 : Int32)), .val (.int (0 : Int32))] [(.int (31 : Int32))])) _
    refine XS.iload X550.here hx rfl (hb hby d8_223) rfl ?_
    show Steps p.tables e below (T550.setTop (mkF m 225 #[.val (.ref cn), .val (.int (1 : Int32)), .val (.int (2 : Int32)), .val (.int (3 : Int32)), .val .null, .val (.int (2 : Int32)), .val (.int (3 : Int32)), .val (.int (718 : Int32)), .val (.int (0 : Int32)), .val (.int (0 : Int32)), .val (.int (0 : Int32)), .val (.int (0 : Int32))] [(.int (2 : Int32)), (.int (31 : Int32))])) _
    refine XS.iadd X550.here hx rfl (hb hby d8_225) rfl ?_
    show Steps p.tables e below (T550.setTop (mkF m 226 #[.val (.ref cn), .val (.int (1 : Int32)), .val (.int (2 : Int32)), .val (.int (3 : Int32)), .val .null, .val (.int (2 : Int32)), .val (.int (3 : Int32)), .val (.int (718 : Int32)), .val (.int (0 : Int32)), .val (.int (0 : Int32)), .val (.int (0 : Int32)), .val (.int (0 : Int32))] [(.int (33 : Int32))])) _
    refine X550.ldcInt hx hown (mvT hZ (hw _ (List.mem_of_getElem? (i := 43) rfl))) (g := (mkF m 226 #[.val (.ref cn), .val (.int (1 : Int32)), .val (.int (2 : Int32)), .val (.int (3 : Int32)), .val .null, .val (.int (2 : Int32)), .val (.int (3 : Int32)), .val (.int (718 : Int32)), .val (.int (0 : Int32)), .val (.int (0 : Int32)), .val (.int (0 : Int32)), .val (.int (0 : Int32))] [(.int (33 : Int32))])) rfl (hb hby d8_226) _ ?_
    show Steps p.tables e below (T550.setTop (mkF m 228 #[.val (.ref cn), .val (.int (1 : Int32)), .val (.int (2 : Int32)), .val (.int (3 : Int32)), .val .null, .val (.int (2 : Int32)), .val (.int (3 : Int32)), .val (.int (718 : Int32)), .val (.int (0 : Int32)), .val (.int (0 : Int32)), .val (.int (0 : Int32)), .val (.int (0 : Int32))] [(.int (-1640531535 : Int32)), (.int (33 : Int32))])) _
    refine XS.imul X550.here hx rfl (hb hby d8_228) rfl ?_
    show Steps p.tables e below (T550.setTop (mkF m 229 #[.val (.ref cn), .val (.int (1 : Int32)), .val (.int (2 : Int32)), .val (.int (3 : Int32)), .val .null, .val (.int (2 : Int32)), .val (.int (3 : Int32)), .val (.int (718 : Int32)), .val (.int (0 : Int32)), .val (.int (0 : Int32)), .val (.int (0 : Int32)), .val (.int (0 : Int32))] [(.int (1697034193 : Int32))])) _
    refine XS.iload X550.here hx rfl (hb hby d8_229) rfl ?_
    show Steps p.tables e below (T550.setTop (mkF m 231 #[.val (.ref cn), .val (.int (1 : Int32)), .val (.int (2 : Int32)), .val (.int (3 : Int32)), .val .null, .val (.int (2 : Int32)), .val (.int (3 : Int32)), .val (.int (718 : Int32)), .val (.int (0 : Int32)), .val (.int (0 : Int32)), .val (.int (0 : Int32)), .val (.int (0 : Int32))] [(.int (3 : Int32)), (.int (1697034193 : Int32))])) _
    refine XS.iadd X550.here hx rfl (hb hby d8_231) rfl ?_
    show Steps p.tables e below (T550.setTop (mkF m 232 #[.val (.ref cn), .val (.int (1 : Int32)), .val (.int (2 : Int32)), .val (.int (3 : Int32)), .val .null, .val (.int (2 : Int32)), .val (.int (3 : Int32)), .val (.int (718 : Int32)), .val (.int (0 : Int32)), .val (.int (0 : Int32)), .val (.int (0 : Int32)), .val (.int (0 : Int32))] [(.int (1697034196 : Int32))])) _
    refine X550.ldcInt hx hown (mvT hZ (hw _ (List.mem_of_getElem? (i := 44) rfl))) (g := (mkF m 232 #[.val (.ref cn), .val (.int (1 : Int32)), .val (.int (2 : Int32)), .val (.int (3 : Int32)), .val .null, .val (.int (2 : Int32)), .val (.int (3 : Int32)), .val (.int (718 : Int32)), .val (.int (0 : Int32)), .val (.int (0 : Int32)), .val (.int (0 : Int32)), .val (.int (0 : Int32))] [(.int (1697034196 : Int32))])) rfl (hb hby d8_232) _ ?_
    show Steps p.tables e below (T550.setTop (mkF m 234 #[.val (.ref cn), .val (.int (1 : Int32)), .val (.int (2 : Int32)), .val (.int (3 : Int32)), .val .null, .val (.int (2 : Int32)), .val (.int (3 : Int32)), .val (.int (718 : Int32)), .val (.int (0 : Int32)), .val (.int (0 : Int32)), .val (.int (0 : Int32)), .val (.int (0 : Int32))] [(.int (-2048144789 : Int32)), (.int (1697034196 : Int32))])) _
    refine XS.imul X550.here hx rfl (hb hby d8_234) rfl ?_
    show Steps p.tables e below (T550.setTop (mkF m 235 #[.val (.ref cn), .val (.int (1 : Int32)), .val (.int (2 : Int32)), .val (.int (3 : Int32)), .val .null, .val (.int (2 : Int32)), .val (.int (3 : Int32)), .val (.int (718 : Int32)), .val (.int (0 : Int32)), .val (.int (0 : Int32)), .val (.int (0 : Int32)), .val (.int (0 : Int32))] [(.int (1501873564 : Int32))])) _
    refine XS.iconst X550.here hx rfl (hb hby d8_235) ?_
    show Steps p.tables e below (T550.setTop (mkF m 236 #[.val (.ref cn), .val (.int (1 : Int32)), .val (.int (2 : Int32)), .val (.int (3 : Int32)), .val .null, .val (.int (2 : Int32)), .val (.int (3 : Int32)), .val (.int (718 : Int32)), .val (.int (0 : Int32)), .val (.int (0 : Int32)), .val (.int (0 : Int32)), .val (.int (0 : Int32))] [(.int (1 : Int32)), (.int (1501873564 : Int32))])) _
    refine XS.iushr X550.here hx rfl (hb hby d8_236) rfl ?_
    show Steps p.tables e below (T550.setTop (mkF m 237 #[.val (.ref cn), .val (.int (1 : Int32)), .val (.int (2 : Int32)), .val (.int (3 : Int32)), .val .null, .val (.int (2 : Int32)), .val (.int (3 : Int32)), .val (.int (718 : Int32)), .val (.int (0 : Int32)), .val (.int (0 : Int32)), .val (.int (0 : Int32)), .val (.int (0 : Int32))] [(.int (750936782 : Int32))])) _
    refine XS.aloadN X550.here hx rfl (hb hby d8_237) rfl rfl ?_
    show Steps p.tables e below (T550.setTop (mkF m 238 #[.val (.ref cn), .val (.int (1 : Int32)), .val (.int (2 : Int32)), .val (.int (3 : Int32)), .val .null, .val (.int (2 : Int32)), .val (.int (3 : Int32)), .val (.int (718 : Int32)), .val (.int (0 : Int32)), .val (.int (0 : Int32)), .val (.int (0 : Int32)), .val (.int (0 : Int32))] [(.ref cn), (.int (750936782 : Int32))])) _
    refine st551 _ ?_
    show Steps p.tables e below (T551.setTop (mkF m 241 #[.val (.ref cn), .val (.int (1 : Int32)), .val (.int (2 : Int32)), .val (.int (3 : Int32)), .val .null, .val (.int (2 : Int32)), .val (.int (3 : Int32)), .val (.int (718 : Int32)), .val (.int (0 : Int32)), .val (.int (0 : Int32)), .val (.int (0 : Int32)), .val (.int (0 : Int32))] [(.ref ca), (.int (750936782 : Int32))])) _
    refine X551.arraylength hx (by rw [e551]; exact Ar552.1) (State.isArrayOf_alike hZ.alike Ar552.2.1) (g := (mkF m 241 #[.val (.ref cn), .val (.int (1 : Int32)), .val (.int (2 : Int32)), .val (.int (3 : Int32)), .val .null, .val (.int (2 : Int32)), .val (.int (3 : Int32)), .val (.int (718 : Int32)), .val (.int (0 : Int32)), .val (.int (0 : Int32)), .val (.int (0 : Int32)), .val (.int (0 : Int32))] [(.ref ca), (.int (750936782 : Int32))])) rfl rfl (hb hby d8_241) _ ?_
    rw [show cl552.slots.size.toInt32 = (16384 : Int32) from by rw [Sz552]; decide]
    show Steps p.tables e below (T551.setTop (mkF m 242 #[.val (.ref cn), .val (.int (1 : Int32)), .val (.int (2 : Int32)), .val (.int (3 : Int32)), .val .null, .val (.int (2 : Int32)), .val (.int (3 : Int32)), .val (.int (718 : Int32)), .val (.int (0 : Int32)), .val (.int (0 : Int32)), .val (.int (0 : Int32)), .val (.int (0 : Int32))] [(.int (16384 : Int32)), (.int (750936782 : Int32))])) _
    refine XS.iconst X551.here hx rfl (hb hby d8_242) ?_
    show Steps p.tables e below (T551.setTop (mkF m 243 #[.val (.ref cn), .val (.int (1 : Int32)), .val (.int (2 : Int32)), .val (.int (3 : Int32)), .val .null, .val (.int (2 : Int32)), .val (.int (3 : Int32)), .val (.int (718 : Int32)), .val (.int (0 : Int32)), .val (.int (0 : Int32)), .val (.int (0 : Int32)), .val (.int (0 : Int32))] [(.int (4 : Int32)), (.int (16384 : Int32)), (.int (750936782 : Int32))])) _
    refine XS.idiv X551.here hx rfl (hb hby d8_243) rfl (by decide) ?_
    show Steps p.tables e below (T551.setTop (mkF m 244 #[.val (.ref cn), .val (.int (1 : Int32)), .val (.int (2 : Int32)), .val (.int (3 : Int32)), .val .null, .val (.int (2 : Int32)), .val (.int (3 : Int32)), .val (.int (718 : Int32)), .val (.int (0 : Int32)), .val (.int (0 : Int32)), .val (.int (0 : Int32)), .val (.int (0 : Int32))] [(.int (4096 : Int32)), (.int (750936782 : Int32))])) _
    refine XS.iconst X551.here hx rfl (hb hby d8_244) ?_
    show Steps p.tables e below (T551.setTop (mkF m 245 #[.val (.ref cn), .val (.int (1 : Int32)), .val (.int (2 : Int32)), .val (.int (3 : Int32)), .val .null, .val (.int (2 : Int32)), .val (.int (3 : Int32)), .val (.int (718 : Int32)), .val (.int (0 : Int32)), .val (.int (0 : Int32)), .val (.int (0 : Int32)), .val (.int (0 : Int32))] [(.int (1 : Int32)), (.int (4096 : Int32)), (.int (750936782 : Int32))])) _
    refine XS.isub X551.here hx rfl (hb hby d8_245) rfl ?_
    show Steps p.tables e below (T551.setTop (mkF m 246 #[.val (.ref cn), .val (.int (1 : Int32)), .val (.int (2 : Int32)), .val (.int (3 : Int32)), .val .null, .val (.int (2 : Int32)), .val (.int (3 : Int32)), .val (.int (718 : Int32)), .val (.int (0 : Int32)), .val (.int (0 : Int32)), .val (.int (0 : Int32)), .val (.int (0 : Int32))] [(.int (4095 : Int32)), (.int (750936782 : Int32))])) _
    refine XS.iand X551.here hx rfl (hb hby d8_246) rfl ?_
    show Steps p.tables e below (T551.setTop (mkF m 247 #[.val (.ref cn), .val (.int (1 : Int32)), .val (.int (2 : Int32)), .val (.int (3 : Int32)), .val .null, .val (.int (2 : Int32)), .val (.int (3 : Int32)), .val (.int (718 : Int32)), .val (.int (0 : Int32)), .val (.int (0 : Int32)), .val (.int (0 : Int32)), .val (.int (0 : Int32))] [(.int (718 : Int32))])) _
    refine XS.istore X551.here hx rfl (hb hby d8_247) rfl (l' := #[.val (.ref cn), .val (.int (1 : Int32)), .val (.int (2 : Int32)), .val (.int (3 : Int32)), .val .null, .val (.int (2 : Int32)), .val (.int (3 : Int32)), .val (.int (718 : Int32)), .val (.int (0 : Int32)), .val (.int (0 : Int32)), .val (.int (0 : Int32)), .val (.int (0 : Int32))]) rfl ?_
    show Steps p.tables e below (T551.setTop (mkF m 249 #[.val (.ref cn), .val (.int (1 : Int32)), .val (.int (2 : Int32)), .val (.int (3 : Int32)), .val .null, .val (.int (2 : Int32)), .val (.int (3 : Int32)), .val (.int (718 : Int32)), .val (.int (0 : Int32)), .val (.int (0 : Int32)), .val (.int (0 : Int32)), .val (.int (0 : Int32))] [])) _
    refine XS.aloadN X551.here hx rfl (hb hby d8_249) rfl rfl ?_
    show Steps p.tables e below (T551.setTop (mkF m 250 #[.val (.ref cn), .val (.int (1 : Int32)), .val (.int (2 : Int32)), .val (.int (3 : Int32)), .val .null, .val (.int (2 : Int32)), .val (.int (3 : Int32)), .val (.int (718 : Int32)), .val (.int (0 : Int32)), .val (.int (0 : Int32)), .val (.int (0 : Int32)), .val (.int (0 : Int32))] [(.ref cn)])) _
    refine st553 _ ?_
    show Steps p.tables e below (T553.setTop (mkF m 253 #[.val (.ref cn), .val (.int (1 : Int32)), .val (.int (2 : Int32)), .val (.int (3 : Int32)), .val .null, .val (.int (2 : Int32)), .val (.int (3 : Int32)), .val (.int (718 : Int32)), .val (.int (0 : Int32)), .val (.int (0 : Int32)), .val (.int (0 : Int32)), .val (.int (0 : Int32))] [(.ref ca)])) _
    refine XS.iconst X553.here hx rfl (hb hby d8_253) ?_
    show Steps p.tables e below (T553.setTop (mkF m 254 #[.val (.ref cn), .val (.int (1 : Int32)), .val (.int (2 : Int32)), .val (.int (3 : Int32)), .val .null, .val (.int (2 : Int32)), .val (.int (3 : Int32)), .val (.int (718 : Int32)), .val (.int (0 : Int32)), .val (.int (0 : Int32)), .val (.int (0 : Int32)), .val (.int (0 : Int32))] [(.int (4 : Int32)), (.ref ca)])) _
    refine XS.iload X553.here hx rfl (hb hby d8_254) rfl ?_
    show Steps p.tables e below (T553.setTop (mkF m 256 #[.val (.ref cn), .val (.int (1 : Int32)), .val (.int (2 : Int32)), .val (.int (3 : Int32)), .val .null, .val (.int (2 : Int32)), .val (.int (3 : Int32)), .val (.int (718 : Int32)), .val (.int (0 : Int32)), .val (.int (0 : Int32)), .val (.int (0 : Int32)), .val (.int (0 : Int32))] [(.int (718 : Int32)), (.int (4 : Int32)), (.ref ca)])) _
    refine XS.imul X553.here hx rfl (hb hby d8_256) rfl ?_
    show Steps p.tables e below (T553.setTop (mkF m 257 #[.val (.ref cn), .val (.int (1 : Int32)), .val (.int (2 : Int32)), .val (.int (3 : Int32)), .val .null, .val (.int (2 : Int32)), .val (.int (3 : Int32)), .val (.int (718 : Int32)), .val (.int (0 : Int32)), .val (.int (0 : Int32)), .val (.int (0 : Int32)), .val (.int (0 : Int32))] [(.int (2872 : Int32)), (.ref ca)])) _
    refine XS.iloadN X553.here hx rfl (hb hby d8_257) rfl ?_
    show Steps p.tables e below (T553.setTop (mkF m 258 #[.val (.ref cn), .val (.int (1 : Int32)), .val (.int (2 : Int32)), .val (.int (3 : Int32)), .val .null, .val (.int (2 : Int32)), .val (.int (3 : Int32)), .val (.int (718 : Int32)), .val (.int (0 : Int32)), .val (.int (0 : Int32)), .val (.int (0 : Int32)), .val (.int (0 : Int32))] [(.int (1 : Int32)), (.int (2872 : Int32)), (.ref ca)])) _
    refine st555 _ ?_
    show Steps p.tables e below (T555.setTop (mkF m 259 #[.val (.ref cn), .val (.int (1 : Int32)), .val (.int (2 : Int32)), .val (.int (3 : Int32)), .val .null, .val (.int (2 : Int32)), .val (.int (3 : Int32)), .val (.int (718 : Int32)), .val (.int (0 : Int32)), .val (.int (0 : Int32)), .val (.int (0 : Int32)), .val (.int (0 : Int32))] [])) _
    refine XS.aloadN X555.here hx rfl (hb hby d8_259) rfl rfl ?_
    show Steps p.tables e below (T555.setTop (mkF m 260 #[.val (.ref cn), .val (.int (1 : Int32)), .val (.int (2 : Int32)), .val (.int (3 : Int32)), .val .null, .val (.int (2 : Int32)), .val (.int (3 : Int32)), .val (.int (718 : Int32)), .val (.int (0 : Int32)), .val (.int (0 : Int32)), .val (.int (0 : Int32)), .val (.int (0 : Int32))] [(.ref cn)])) _
    refine st569 _ ?_
    show Steps p.tables e below (T569.setTop (mkF m 263 #[.val (.ref cn), .val (.int (1 : Int32)), .val (.int (2 : Int32)), .val (.int (3 : Int32)), .val .null, .val (.int (2 : Int32)), .val (.int (3 : Int32)), .val (.int (718 : Int32)), .val (.int (0 : Int32)), .val (.int (0 : Int32)), .val (.int (0 : Int32)), .val (.int (0 : Int32))] [(.ref ca)])) _
    refine XS.iconst X569.here hx rfl (hb hby d8_263) ?_
    show Steps p.tables e below (T569.setTop (mkF m 264 #[.val (.ref cn), .val (.int (1 : Int32)), .val (.int (2 : Int32)), .val (.int (3 : Int32)), .val .null, .val (.int (2 : Int32)), .val (.int (3 : Int32)), .val (.int (718 : Int32)), .val (.int (0 : Int32)), .val (.int (0 : Int32)), .val (.int (0 : Int32)), .val (.int (0 : Int32))] [(.int (4 : Int32)), (.ref ca)])) _
    refine XS.iload X569.here hx rfl (hb hby d8_264) rfl ?_
    show Steps p.tables e below (T569.setTop (mkF m 266 #[.val (.ref cn), .val (.int (1 : Int32)), .val (.int (2 : Int32)), .val (.int (3 : Int32)), .val .null, .val (.int (2 : Int32)), .val (.int (3 : Int32)), .val (.int (718 : Int32)), .val (.int (0 : Int32)), .val (.int (0 : Int32)), .val (.int (0 : Int32)), .val (.int (0 : Int32))] [(.int (718 : Int32)), (.int (4 : Int32)), (.ref ca)])) _
    refine XS.imul X569.here hx rfl (hb hby d8_266) rfl ?_
    show Steps p.tables e below (T569.setTop (mkF m 267 #[.val (.ref cn), .val (.int (1 : Int32)), .val (.int (2 : Int32)), .val (.int (3 : Int32)), .val .null, .val (.int (2 : Int32)), .val (.int (3 : Int32)), .val (.int (718 : Int32)), .val (.int (0 : Int32)), .val (.int (0 : Int32)), .val (.int (0 : Int32)), .val (.int (0 : Int32))] [(.int (2872 : Int32)), (.ref ca)])) _
    refine XS.iconst X569.here hx rfl (hb hby d8_267) ?_
    show Steps p.tables e below (T569.setTop (mkF m 268 #[.val (.ref cn), .val (.int (1 : Int32)), .val (.int (2 : Int32)), .val (.int (3 : Int32)), .val .null, .val (.int (2 : Int32)), .val (.int (3 : Int32)), .val (.int (718 : Int32)), .val (.int (0 : Int32)), .val (.int (0 : Int32)), .val (.int (0 : Int32)), .val (.int (0 : Int32))] [(.int (1 : Int32)), (.int (2872 : Int32)), (.ref ca)])) _
    refine XS.iadd X569.here hx rfl (hb hby d8_268) rfl ?_
    show Steps p.tables e below (T569.setTop (mkF m 269 #[.val (.ref cn), .val (.int (1 : Int32)), .val (.int (2 : Int32)), .val (.int (3 : Int32)), .val .null, .val (.int (2 : Int32)), .val (.int (3 : Int32)), .val (.int (718 : Int32)), .val (.int (0 : Int32)), .val (.int (0 : Int32)), .val (.int (0 : Int32)), .val (.int (0 : Int32))] [(.int (2873 : Int32)), (.ref ca)])) _
    refine XS.iload X569.here hx rfl (hb hby d8_269) rfl ?_
    show Steps p.tables e below (T569.setTop (mkF m 271 #[.val (.ref cn), .val (.int (1 : Int32)), .val (.int (2 : Int32)), .val (.int (3 : Int32)), .val .null, .val (.int (2 : Int32)), .val (.int (3 : Int32)), .val (.int (718 : Int32)), .val (.int (0 : Int32)), .val (.int (0 : Int32)), .val (.int (0 : Int32)), .val (.int (0 : Int32))] [(.int (2 : Int32)), (.int (2873 : Int32)), (.ref ca)])) _
    refine st571 _ ?_
    show Steps p.tables e below (T571.setTop (mkF m 272 #[.val (.ref cn), .val (.int (1 : Int32)), .val (.int (2 : Int32)), .val (.int (3 : Int32)), .val .null, .val (.int (2 : Int32)), .val (.int (3 : Int32)), .val (.int (718 : Int32)), .val (.int (0 : Int32)), .val (.int (0 : Int32)), .val (.int (0 : Int32)), .val (.int (0 : Int32))] [])) _
    refine XS.aloadN X571.here hx rfl (hb hby d8_272) rfl rfl ?_
    show Steps p.tables e below (T571.setTop (mkF m 273 #[.val (.ref cn), .val (.int (1 : Int32)), .val (.int (2 : Int32)), .val (.int (3 : Int32)), .val .null, .val (.int (2 : Int32)), .val (.int (3 : Int32)), .val (.int (718 : Int32)), .val (.int (0 : Int32)), .val (.int (0 : Int32)), .val (.int (0 : Int32)), .val (.int (0 : Int32))] [(.ref cn)])) _
    refine st585 _ ?_
    show Steps p.tables e below (T585.setTop (mkF m 276 #[.val (.ref cn), .val (.int (1 : Int32)), .val (.int (2 : Int32)), .val (.int (3 : Int32)), .val .null, .val (.int (2 : Int32)), .val (.int (3 : Int32)), .val (.int (718 : Int32)), .val (.int (0 : Int32)), .val (.int (0 : Int32)), .val (.int (0 : Int32)), .val (.int (0 : Int32))] [(.ref ca)])) _
    refine XS.iconst X585.here hx rfl (hb hby d8_276) ?_
    show Steps p.tables e below (T585.setTop (mkF m 277 #[.val (.ref cn), .val (.int (1 : Int32)), .val (.int (2 : Int32)), .val (.int (3 : Int32)), .val .null, .val (.int (2 : Int32)), .val (.int (3 : Int32)), .val (.int (718 : Int32)), .val (.int (0 : Int32)), .val (.int (0 : Int32)), .val (.int (0 : Int32)), .val (.int (0 : Int32))] [(.int (4 : Int32)), (.ref ca)])) _
    refine XS.iload X585.here hx rfl (hb hby d8_277) rfl ?_
    show Steps p.tables e below (T585.setTop (mkF m 279 #[.val (.ref cn), .val (.int (1 : Int32)), .val (.int (2 : Int32)), .val (.int (3 : Int32)), .val .null, .val (.int (2 : Int32)), .val (.int (3 : Int32)), .val (.int (718 : Int32)), .val (.int (0 : Int32)), .val (.int (0 : Int32)), .val (.int (0 : Int32)), .val (.int (0 : Int32))] [(.int (718 : Int32)), (.int (4 : Int32)), (.ref ca)])) _
    refine XS.imul X585.here hx rfl (hb hby d8_279) rfl ?_
    show Steps p.tables e below (T585.setTop (mkF m 280 #[.val (.ref cn), .val (.int (1 : Int32)), .val (.int (2 : Int32)), .val (.int (3 : Int32)), .val .null, .val (.int (2 : Int32)), .val (.int (3 : Int32)), .val (.int (718 : Int32)), .val (.int (0 : Int32)), .val (.int (0 : Int32)), .val (.int (0 : Int32)), .val (.int (0 : Int32))] [(.int (2872 : Int32)), (.ref ca)])) _
    refine XS.iconst X585.here hx rfl (hb hby d8_280) ?_
    show Steps p.tables e below (T585.setTop (mkF m 281 #[.val (.ref cn), .val (.int (1 : Int32)), .val (.int (2 : Int32)), .val (.int (3 : Int32)), .val .null, .val (.int (2 : Int32)), .val (.int (3 : Int32)), .val (.int (718 : Int32)), .val (.int (0 : Int32)), .val (.int (0 : Int32)), .val (.int (0 : Int32)), .val (.int (0 : Int32))] [(.int (2 : Int32)), (.int (2872 : Int32)), (.ref ca)])) _
    refine XS.iadd X585.here hx rfl (hb hby d8_281) rfl ?_
    show Steps p.tables e below (T585.setTop (mkF m 282 #[.val (.ref cn), .val (.int (1 : Int32)), .val (.int (2 : Int32)), .val (.int (3 : Int32)), .val .null, .val (.int (2 : Int32)), .val (.int (3 : Int32)), .val (.int (718 : Int32)), .val (.int (0 : Int32)), .val (.int (0 : Int32)), .val (.int (0 : Int32)), .val (.int (0 : Int32))] [(.int (2874 : Int32)), (.ref ca)])) _
    refine XS.iload X585.here hx rfl (hb hby d8_282) rfl ?_
    show Steps p.tables e below (T585.setTop (mkF m 284 #[.val (.ref cn), .val (.int (1 : Int32)), .val (.int (2 : Int32)), .val (.int (3 : Int32)), .val .null, .val (.int (2 : Int32)), .val (.int (3 : Int32)), .val (.int (718 : Int32)), .val (.int (0 : Int32)), .val (.int (0 : Int32)), .val (.int (0 : Int32)), .val (.int (0 : Int32))] [(.int (3 : Int32)), (.int (2874 : Int32)), (.ref ca)])) _
    refine st587 _ ?_
    show Steps p.tables e below (T587.setTop (mkF m 285 #[.val (.ref cn), .val (.int (1 : Int32)), .val (.int (2 : Int32)), .val (.int (3 : Int32)), .val .null, .val (.int (2 : Int32)), .val (.int (3 : Int32)), .val (.int (718 : Int32)), .val (.int (0 : Int32)), .val (.int (0 : Int32)), .val (.int (0 : Int32)), .val (.int (0 : Int32))] [])) _
    refine XS.aloadN X587.here hx rfl (hb hby d8_285) rfl rfl ?_
    show Steps p.tables e below (T587.setTop (mkF m 286 #[.val (.ref cn), .val (.int (1 : Int32)), .val (.int (2 : Int32)), .val (.int (3 : Int32)), .val .null, .val (.int (2 : Int32)), .val (.int (3 : Int32)), .val (.int (718 : Int32)), .val (.int (0 : Int32)), .val (.int (0 : Int32)), .val (.int (0 : Int32)), .val (.int (0 : Int32))] [(.ref cn)])) _
    refine st601 _ ?_
    show Steps p.tables e below (T601.setTop (mkF m 289 #[.val (.ref cn), .val (.int (1 : Int32)), .val (.int (2 : Int32)), .val (.int (3 : Int32)), .val .null, .val (.int (2 : Int32)), .val (.int (3 : Int32)), .val (.int (718 : Int32)), .val (.int (0 : Int32)), .val (.int (0 : Int32)), .val (.int (0 : Int32)), .val (.int (0 : Int32))] [(.ref ca)])) _
    refine XS.iconst X601.here hx rfl (hb hby d8_289) ?_
    show Steps p.tables e below (T601.setTop (mkF m 290 #[.val (.ref cn), .val (.int (1 : Int32)), .val (.int (2 : Int32)), .val (.int (3 : Int32)), .val .null, .val (.int (2 : Int32)), .val (.int (3 : Int32)), .val (.int (718 : Int32)), .val (.int (0 : Int32)), .val (.int (0 : Int32)), .val (.int (0 : Int32)), .val (.int (0 : Int32))] [(.int (4 : Int32)), (.ref ca)])) _
    refine XS.iload X601.here hx rfl (hb hby d8_290) rfl ?_
    show Steps p.tables e below (T601.setTop (mkF m 292 #[.val (.ref cn), .val (.int (1 : Int32)), .val (.int (2 : Int32)), .val (.int (3 : Int32)), .val .null, .val (.int (2 : Int32)), .val (.int (3 : Int32)), .val (.int (718 : Int32)), .val (.int (0 : Int32)), .val (.int (0 : Int32)), .val (.int (0 : Int32)), .val (.int (0 : Int32))] [(.int (718 : Int32)), (.int (4 : Int32)), (.ref ca)])) _
    refine XS.imul X601.here hx rfl (hb hby d8_292) rfl ?_
    show Steps p.tables e below (T601.setTop (mkF m 293 #[.val (.ref cn), .val (.int (1 : Int32)), .val (.int (2 : Int32)), .val (.int (3 : Int32)), .val .null, .val (.int (2 : Int32)), .val (.int (3 : Int32)), .val (.int (718 : Int32)), .val (.int (0 : Int32)), .val (.int (0 : Int32)), .val (.int (0 : Int32)), .val (.int (0 : Int32))] [(.int (2872 : Int32)), (.ref ca)])) _
    refine XS.iconst X601.here hx rfl (hb hby d8_293) ?_
    show Steps p.tables e below (T601.setTop (mkF m 294 #[.val (.ref cn), .val (.int (1 : Int32)), .val (.int (2 : Int32)), .val (.int (3 : Int32)), .val .null, .val (.int (2 : Int32)), .val (.int (3 : Int32)), .val (.int (718 : Int32)), .val (.int (0 : Int32)), .val (.int (0 : Int32)), .val (.int (0 : Int32)), .val (.int (0 : Int32))] [(.int (3 : Int32)), (.int (2872 : Int32)), (.ref ca)])) _
    refine XS.iadd X601.here hx rfl (hb hby d8_294) rfl ?_
    show Steps p.tables e below (T601.setTop (mkF m 295 #[.val (.ref cn), .val (.int (1 : Int32)), .val (.int (2 : Int32)), .val (.int (3 : Int32)), .val .null, .val (.int (2 : Int32)), .val (.int (3 : Int32)), .val (.int (718 : Int32)), .val (.int (0 : Int32)), .val (.int (0 : Int32)), .val (.int (0 : Int32)), .val (.int (0 : Int32))] [(.int (2875 : Int32)), (.ref ca)])) _
    refine XS.iload X601.here hx rfl (hb hby d8_295) rfl ?_
    show Steps p.tables e below (T601.setTop (mkF m 297 #[.val (.ref cn), .val (.int (1 : Int32)), .val (.int (2 : Int32)), .val (.int (3 : Int32)), .val .null, .val (.int (2 : Int32)), .val (.int (3 : Int32)), .val (.int (718 : Int32)), .val (.int (0 : Int32)), .val (.int (0 : Int32)), .val (.int (0 : Int32)), .val (.int (0 : Int32))] [(.int (0 : Int32)), (.int (2875 : Int32)), (.ref ca)])) _
    refine st603 _ ?_
    show Steps p.tables e below (T603.setTop (mkF m 298 #[.val (.ref cn), .val (.int (1 : Int32)), .val (.int (2 : Int32)), .val (.int (3 : Int32)), .val .null, .val (.int (2 : Int32)), .val (.int (3 : Int32)), .val (.int (718 : Int32)), .val (.int (0 : Int32)), .val (.int (0 : Int32)), .val (.int (0 : Int32)), .val (.int (0 : Int32))] [])) _
    refine XS.iload X603.here hx rfl (hb hby d8_298) rfl ?_
    show Steps p.tables e below (T603.setTop (mkF m 300 #[.val (.ref cn), .val (.int (1 : Int32)), .val (.int (2 : Int32)), .val (.int (3 : Int32)), .val .null, .val (.int (2 : Int32)), .val (.int (3 : Int32)), .val (.int (718 : Int32)), .val (.int (0 : Int32)), .val (.int (0 : Int32)), .val (.int (0 : Int32)), .val (.int (0 : Int32))] [(.int (0 : Int32))])) _
    exact retI X603 hx Bd.returns (hb hby d8_300) hr
  · show QC (.int (0 : Int32)) Z cn vs lo hi tb ca (4 : Int32) vc fv fl fh ft (upd (upd (upd (upd fc 2872 (1 : Int32)) 2873 (2 : Int32)) 2874 (3 : Int32)) 2875 (0 : Int32)) h0 n0 _ T603.heap _
    rw [e603]
    exact ⟨rfl, N603, K603, zE612, zF604, zF605, zF606, zF607, zF608, zF609, zF610, zF611, zA613, zA614, zA615, zA616, V603⟩
set_option maxRecDepth 65536 in
set_option maxHeartbeats 40000000 in
theorem rap2 (l : Launch) (Z : State) (a0 : Array Value) (hw : ∀ d ∈ tables_1, d.before a0 Z = true) (ws : List Jvm.Cond) (cn vs lo hi tb ca : Addr) (vc : Int32) (fv fl fh ft fc : Nat → Int32) (ch : Addr) (cl : Cell) (b0 b1 : Addr) (h0 : Heap) (n0 : Nat) (Z0 : n0 ≤ h0.size) (hC : CS Z h0 cn vs lo hi tb ca (4 : Int32) vc fv fl fh ft fc) (hD : DS n0 cn vs lo hi tb ca) (Od : Old Z n0 h0) (hI : IC Z ch cl b0 b1) (hv2 : fv 2 = (0 : Int32)) (hl2 : fl 2 = (0 : Int32)) (hh2 : fh 2 = (1 : Int32)) (hv3 : fv 3 = (0 : Int32)) (hl3 : fl 3 = (1 : Int32)) (hh3 : fh 3 = (0 : Int32)) (hca : fc 15360 = (-1 : Int32)) :
    MetFree l (⟨"com/example/sealed_paths/sealedpaths/core/Conditions", "apply", "(III)I"⟩ : MethodName) (head1 (Jvm.Cond.code (⟨"com/example/sealed_paths/sealedpaths/core/Conditions", "apply", "(III)I"⟩ : MethodName) prog_13_method_9_code 12 (some .int) :: ws) ({ frames := 3, cells := 0, slots := 0, locals := 50 } : Room)) (fun zA zU => zA = #[(.ref cn), (.int (2 : Int32)), (.int (2 : Int32)), (.int (3 : Int32))] ∧ Z.Warmed39 zU.vm ∧ zU.heap = h0) (fun _ _ _ _ _ => True) (fun _ zU zO zW => ∃ zV zL, zO = .returned zV ∧ QC (.int (1 : Int32)) Z cn vs lo hi tb ca (4 : Int32) vc fv fl fh ft (upd (upd (upd (upd fc 15360 (2 : Int32)) 15361 (2 : Int32)) 15362 (3 : Int32)) 15363 (1 : Int32)) h0 n0 zV zW.heap zL ∧ FrameEnd zU zO zW zL ({ frames := 3, cells := 0, slots := 0, locals := 50 } : Room).cells ({ frames := 3, cells := 0, slots := 0, locals := 50 } : Room).slots) := by
  refine MetFree.of_bodySF (plainFor_of_name pn_Conditions) hisR ?_
  intro p e s m args below meth c s₁ Bd hml0 hP hK
  obtain ⟨rfl, hZ, hh⟩ := hP
  have hx := Bd.exec
  have hby := Bd.bytes
  have hml : c.maxLocals = 12 := hml0
  have hown : s.vm.findClass "com/example/sealed_paths/sealedpaths/core/Conditions" = some m.cls := findClass_of_methodNamed Bd.named
  have hnm := (name_of_methodNamed Bd.named Bd.method).1
  have X0 : Stand p l e ({ frames := 3, cells := 0, slots := 0, locals := 50 } : Room) s m #[(.ref cn), (.int (2 : Int32)), (.int (2 : Int32)), (.int (3 : Int32))] below meth c s₁ [] 0 0 := Stand.of_body Bd
  have e0 : s₁.heap = h0 := by rw [← hh, Bd.state]; rfl
  have N0 := Fr.nil n0
  have pre0 : ∀ zt, Steps p.tables e below (s₁.setTop (mkF m 0 #[.val (.ref cn), .val (.int (2 : Int32)), .val (.int (2 : Int32)), .val (.int (3 : Int32)), .unset, .unset, .unset, .unset, .unset, .unset, .unset, .unset] [])) zt → Steps p.tables e below (s₁.setTop (entryFrame m #[(.ref cn), (.int (2 : Int32)), (.int (2 : Int32)), (.int (3 : Int32))] 12)) zt := fun zt zk => castTop (ef_8_RIII m cn (2 : Int32) (2 : Int32) (3 : Int32)) zk
  have hD0 := hD
  have hI0 := hI
  obtain ⟨Sh, Sc, Ach, Sz, A128, A129, Eb0, Eb1, Fb0, Fb1⟩ := hI
  obtain ⟨Ec, F_variables, F_lows, F_highs, F_table, F_cached, F_limit, F_size, F_vc, V_vs, V_lo, V_hi, V_tb, V_ca⟩ := hC
  obtain ⟨g_cn, g_vs, g_lo, g_hi, g_tb, g_ca, ne_cn_vs, ne_cn_lo, ne_cn_hi, ne_cn_tb, ne_cn_ca, ne_vs_lo, ne_vs_hi, ne_vs_tb, ne_vs_ca, ne_lo_hi, ne_lo_tb, ne_lo_ca, ne_hi_tb, ne_hi_ca, ne_tb_ca⟩ := hD
  obtain ⟨_, _, ⟨T617, L617, k617, n617⟩, -, X617, ⟨Lc617, hQ617, l617, y617, z617⟩, st617⟩ := Jvm.LawKit.callS X0 hx (y := (⟨"com/example/sealed_paths/sealedpaths/core/Conditions", "settled", "(III)Ljava/lang/Integer;"⟩ : MethodName)) hown (mvT hZ (hw _ (List.mem_of_getElem? (i := 55) rfl))) (mvT hZ (hw _ (List.mem_of_getElem? (i := 56) rfl))) (mvT hZ (hw _ (List.mem_of_getElem? (i := 2) rfl))) (mvT hZ (hw _ (List.mem_of_getElem? (i := 57) rfl))) (by decide) (backOf (W := 0) (rse223 l Z a0 hw [] ch cl b0 b1 h0 n0 Z0 Od hI0) hZ (hw _ (List.mem_of_getElem? (i := 57) rfl)) (hw _ (List.mem_of_getElem? (i := 2) rfl)) (by decide) (by decide)) (g := (mkF m 3 #[.val (.ref cn), .val (.int (2 : Int32)), .val (.int (2 : Int32)), .val (.int (3 : Int32)), .unset, .unset, .unset, .unset, .unset, .unset, .unset, .unset] [(.int (3 : Int32)), (.int (2 : Int32)), (.int (2 : Int32))])) rfl (by rw [hml]; rfl) (argsL := [(.int (2 : Int32)), (.int (2 : Int32)), (.int (3 : Int32))]) (rest := []) (lenOf pd_3 rfl) rfl (by show 2 * 0 + _ ≤ _; exact Nat.le_of_eq rfl) (hb hby d8_3) (fun _ _ => ⟨rfl, e0, (by decide : 0 + 0 ≤ _), (by decide : 0 + 0 ≤ _)⟩)
  dsimp only [Pt.U, Pt.locs, Pt.cells, Pt.slots] at X617 l617 y617 z617 st617 hQ617
  subst l617 y617 z617
  obtain ⟨rfl, Nq617, e617⟩ := hQ617
  have N617 := Fr.app N0 Nq617
  obtain ⟨_, _, ⟨T618, L618, k618, n618⟩, -, X618, ⟨Lc618, hQ618, l618, y618, z618⟩, st618⟩ := Jvm.LawKit.callS X617 hx (y := (⟨"java/lang/Math", "min", "(II)I"⟩ : MethodName)) hown (mvT hZ (hw _ (List.mem_of_getElem? (i := 61) rfl))) (mvT hZ (hw _ (List.mem_of_getElem? (i := 62) rfl))) (mvT hZ (hw _ (List.mem_of_getElem? (i := 63) rfl))) (mvT hZ (hw _ (List.mem_of_getElem? (i := 64) rfl))) (by decide) (backOf (W := 0) (rmin23 l Z a0 hw [] h0 n0 Z0) hZ (hw _ (List.mem_of_getElem? (i := 64) rfl)) (hw _ (List.mem_of_getElem? (i := 63) rfl)) (by decide) (by decide)) (g := (mkF m 30 #[.val (.ref cn), .val (.int (2 : Int32)), .val (.int (2 : Int32)), .val (.int (3 : Int32)), .val .null, .unset, .unset, .unset, .unset, .unset, .unset, .unset] [(.int (3 : Int32)), (.int (2 : Int32))])) rfl (by rw [hml]; rfl) (argsL := [(.int (2 : Int32)), (.int (3 : Int32))]) (rest := []) (lenOf pd_6 rfl) rfl (by show 2 * 0 + _ ≤ _; exact Nat.le_of_eq rfl) (hb hby d8_30) (fun _ _ => ⟨rfl, e617, (by decide : 0 + 0 ≤ _), (by decide : 0 + 0 ≤ _)⟩)
  dsimp only [Pt.U, Pt.locs, Pt.cells, Pt.slots] at X618 l618 y618 z618 st618 hQ618
  subst l618 y618 z618
  obtain ⟨rfl, Nq618, e618⟩ := hQ618
  have N618 := Fr.app N617 Nq618
  obtain ⟨_, _, ⟨T619, L619, k619, n619⟩, -, X619, ⟨Lc619, hQ619, l619, y619, z619⟩, st619⟩ := Jvm.LawKit.callS X618 hx (y := (⟨"java/lang/Math", "max", "(II)I"⟩ : MethodName)) hown (mvT hZ (hw _ (List.mem_of_getElem? (i := 88) rfl))) (mvT hZ (hw _ (List.mem_of_getElem? (i := 89) rfl))) (mvT hZ (hw _ (List.mem_of_getElem? (i := 63) rfl))) (mvT hZ (hw _ (List.mem_of_getElem? (i := 90) rfl))) (by decide) (backOf (W := 0) (rmax23 l Z a0 hw [] h0 n0 Z0) hZ (hw _ (List.mem_of_getElem? (i := 90) rfl)) (hw _ (List.mem_of_getElem? (i := 63) rfl)) (by decide) (by decide)) (g := (mkF m 46 #[.val (.ref cn), .val (.int (2 : Int32)), .val (.int (2 : Int32)), .val (.int (3 : Int32)), .val .null, .val (.int (2 : Int32)), .unset, .unset, .unset, .unset, .unset, .unset] [(.int (3 : Int32)), (.int (2 : Int32))])) rfl (by rw [hml]; rfl) (argsL := [(.int (2 : Int32)), (.int (3 : Int32))]) (rest := []) (lenOf pd_6 rfl) rfl (by show 2 * 0 + _ ≤ _; exact Nat.le_of_eq rfl) (hb hby d8_46) (fun _ _ => ⟨rfl, e618, (by decide : 0 + 0 ≤ _), (by decide : 0 + 0 ≤ _)⟩)
  dsimp only [Pt.U, Pt.locs, Pt.cells, Pt.slots] at X619 l619 y619 z619 st619 hQ619
  subst l619 y619 z619
  obtain ⟨rfl, Nq619, e619⟩ := hQ619
  have N619 := Fr.app N618 Nq619
  obtain ⟨T620, X620, e620, st620⟩ := getF X619 hx hZ hown (host := "") (Or.inl (hw _ (List.mem_of_getElem? (i := 18) rfl))) Via.refl e619 F_cached (g := (mkF m 70 #[.val (.ref cn), .val (.int (2 : Int32)), .val (.int (2 : Int32)), .val (.int (3 : Int32)), .val .null, .val (.int (2 : Int32)), .val (.int (3 : Int32)), .unset, .unset, .unset, .unset, .unset] [(.ref cn), (.int (2129825536 : Int32))])) rfl rfl (hb hby d8_70)
  obtain ⟨cl621, Ar621, Sz621, Hz621⟩ := id V_ca
  obtain ⟨T622, X622, e622, st622⟩ := getF X620 hx hZ hown (host := "") (Or.inl (hw _ (List.mem_of_getElem? (i := 18) rfl))) Via.refl e620 F_cached (g := (mkF m 82 #[.val (.ref cn), .val (.int (2 : Int32)), .val (.int (2 : Int32)), .val (.int (3 : Int32)), .val .null, .val (.int (2 : Int32)), .val (.int (3 : Int32)), .val (.int (3840 : Int32)), .unset, .unset, .unset, .unset] [(.ref cn)])) rfl rfl (hb hby d8_82)
  obtain ⟨cl623, Ar623, Sz623, Hz623⟩ := id V_ca
  have hin623 := IA.inb (j := (15360 : Int32)) (i := 15360) Sz623 (by decide) (by decide) (by decide)
  have hat623 := IA.at (j := (15360 : Int32)) (x := (-1 : Int32)) Hz623 (by decide) (by decide) hca
  obtain ⟨T624, X624, e624, st624⟩ := getF X622 hx hZ hown (host := "") (Or.inl (hw _ (List.mem_of_getElem? (i := 10) rfl))) Via.refl e622 F_variables (g := (mkF m 139 #[.val (.ref cn), .val (.int (2 : Int32)), .val (.int (2 : Int32)), .val (.int (3 : Int32)), .val .null, .val (.int (2 : Int32)), .val (.int (3 : Int32)), .val (.int (3840 : Int32)), .unset, .unset, .unset, .unset] [(.ref cn)])) rfl rfl (hb hby d8_139)
  obtain ⟨cl625, Ar625, Sz625, Hz625⟩ := id V_vs
  have hin625 := IA.inb (j := (2 : Int32)) (i := 2) Sz625 (by decide) (by decide) (by decide)
  have hat625 := IA.at (j := (2 : Int32)) (x := (0 : Int32)) Hz625 (by decide) (by decide) hv2
  obtain ⟨T626, X626, e626, st626⟩ := getF X624 hx hZ hown (host := "") (Or.inl (hw _ (List.mem_of_getElem? (i := 10) rfl))) Via.refl e624 F_variables (g := (mkF m 146 #[.val (.ref cn), .val (.int (2 : Int32)), .val (.int (2 : Int32)), .val (.int (3 : Int32)), .val .null, .val (.int (2 : Int32)), .val (.int (3 : Int32)), .val (.int (3840 : Int32)), .unset, .unset, .unset, .unset] [(.ref cn), (.int (0 : Int32))])) rfl rfl (hb hby d8_146)
  obtain ⟨cl627, Ar627, Sz627, Hz627⟩ := id V_vs
  have hin627 := IA.inb (j := (3 : Int32)) (i := 3) Sz627 (by decide) (by decide) (by decide)
  have hat627 := IA.at (j := (3 : Int32)) (x := (0 : Int32)) Hz627 (by decide) (by decide) hv3
  obtain ⟨_, _, ⟨T628, L628, k628, n628⟩, -, X628, ⟨Lc628, hQ628, l628, y628, z628⟩, st628⟩ := Jvm.LawKit.callS X626 hx (y := (⟨"java/lang/Math", "min", "(II)I"⟩ : MethodName)) hown (mvT hZ (hw _ (List.mem_of_getElem? (i := 61) rfl))) (mvT hZ (hw _ (List.mem_of_getElem? (i := 62) rfl))) (mvT hZ (hw _ (List.mem_of_getElem? (i := 63) rfl))) (mvT hZ (hw _ (List.mem_of_getElem? (i := 64) rfl))) (by decide) (backOf (W := 0) (rmin00 l Z a0 hw [] h0 n0 Z0) hZ (hw _ (List.mem_of_getElem? (i := 64) rfl)) (hw _ (List.mem_of_getElem? (i := 63) rfl)) (by decide) (by decide)) (g := (mkF m 152 #[.val (.ref cn), .val (.int (2 : Int32)), .val (.int (2 : Int32)), .val (.int (3 : Int32)), .val .null, .val (.int (2 : Int32)), .val (.int (3 : Int32)), .val (.int (3840 : Int32)), .unset, .unset, .unset, .unset] [(.int (0 : Int32)), (.int (0 : Int32))])) rfl (by rw [hml]; rfl) (argsL := [(.int (0 : Int32)), (.int (0 : Int32))]) (rest := []) (lenOf pd_6 rfl) rfl (by show 2 * 0 + _ ≤ _; exact Nat.le_of_eq rfl) (hb hby d8_152) (fun _ _ => ⟨rfl, e626, (by decide : 0 + 0 ≤ _), (by decide : 0 + 0 ≤ _)⟩)
  dsimp only [Pt.U, Pt.locs, Pt.cells, Pt.slots] at X628 l628 y628 z628 st628 hQ628
  subst l628 y628 z628
  obtain ⟨rfl, Nq628, e628⟩ := hQ628
  have N628 := Fr.app N619 Nq628
  obtain ⟨cq629, q629, q629'⟩ := Ec.cell
  obtain ⟨_, _, ⟨T629, L629, k629, n629⟩, -, X629, ⟨Lc629, hQ629, l629, y629, z629⟩, st629⟩ := X628.privateBack hx (y := (⟨"com/example/sealed_paths/sealedpaths/core/Conditions", "branch", "(IIZ)I"⟩ : MethodName)) hown (mvT hZ (hw _ (List.mem_of_getElem? (i := 65) rfl))) (mvT hZ (hw _ (List.mem_of_getElem? (i := 66) rfl))) (psel (mvT hZ (hw _ (List.mem_of_getElem? (i := 1) rfl))) (mvP hZ (hw _ (List.mem_of_getElem? (i := 67) rfl))) (mvT hZ (hw _ (List.mem_of_getElem? (i := 66) rfl))) (by decide)) (Cond.privateMethod_at (mvP hZ (hw _ (List.mem_of_getElem? (i := 67) rfl)) (args := #[]))) (mvT hZ (hw _ (List.mem_of_getElem? (i := 68) rfl))) (by decide) (backOf (W := 2) (rbr20 l Z a0 hw [] cn vs lo hi tb ca (4 : Int32) vc (0 : Int32) fv fl fh ft fc h0 n0 Z0 ⟨Ec, F_variables, F_lows, F_highs, F_table, F_cached, F_limit, F_size, F_vc, V_vs, V_lo, V_hi, V_tb, V_ca⟩ hD0 hv2 hl2) hZ (hw _ (List.mem_of_getElem? (i := 68) rfl)) (hw _ (List.mem_of_getElem? (i := 2) rfl)) (by decide) (by decide)) (g := (mkF m 165 #[.val (.ref cn), .val (.int (2 : Int32)), .val (.int (2 : Int32)), .val (.int (3 : Int32)), .val .null, .val (.int (2 : Int32)), .val (.int (3 : Int32)), .val (.int (3840 : Int32)), .val (.int (0 : Int32)), .unset, .unset, .unset] [(.int (0 : Int32)), (.int (0 : Int32)), (.int (2 : Int32)), (.ref cn), (.int (2 : Int32)), (.ref cn)])) rfl (by rw [hml]; rfl) (Steps.refl _) (a := cn) (by rw [e628]; exact q629) q629' (argsL := [(.int (2 : Int32)), (.int (0 : Int32)), (.int (0 : Int32))]) (rest := [(.int (2 : Int32)), (.ref cn)]) (lenOf pd_7 rfl) rfl (by show 2 * 0 + _ ≤ _; exact Nat.le_of_eq rfl) (hb hby d8_165) (fun _ _ => ⟨rfl, e628, (by decide : 0 + 0 ≤ _), (by decide : 0 + 0 ≤ _)⟩)
  dsimp only [Pt.U, Pt.locs, Pt.cells, Pt.slots] at X629 l629 y629 z629 st629 hQ629
  subst l629 y629 z629
  obtain ⟨rfl, Nq629, e629⟩ := hQ629
  have N629 := Fr.app N628 Nq629
  obtain ⟨cq630, q630, q630'⟩ := Ec.cell
  obtain ⟨_, _, ⟨T630, L630, k630, n630⟩, -, X630, ⟨Lc630, hQ630, l630, y630, z630⟩, st630⟩ := X629.privateBack hx (y := (⟨"com/example/sealed_paths/sealedpaths/core/Conditions", "branch", "(IIZ)I"⟩ : MethodName)) hown (mvT hZ (hw _ (List.mem_of_getElem? (i := 65) rfl))) (mvT hZ (hw _ (List.mem_of_getElem? (i := 66) rfl))) (psel (mvT hZ (hw _ (List.mem_of_getElem? (i := 1) rfl))) (mvP hZ (hw _ (List.mem_of_getElem? (i := 67) rfl))) (mvT hZ (hw _ (List.mem_of_getElem? (i := 66) rfl))) (by decide)) (Cond.privateMethod_at (mvP hZ (hw _ (List.mem_of_getElem? (i := 67) rfl)) (args := #[]))) (mvT hZ (hw _ (List.mem_of_getElem? (i := 68) rfl))) (by decide) (backOf (W := 3) (rbr30 l Z a0 hw [] cn vs lo hi tb ca (4 : Int32) vc (1 : Int32) fv fl fh ft fc h0 n0 Z0 ⟨Ec, F_variables, F_lows, F_highs, F_table, F_cached, F_limit, F_size, F_vc, V_vs, V_lo, V_hi, V_tb, V_ca⟩ hD0 hv3 hl3) hZ (hw _ (List.mem_of_getElem? (i := 68) rfl)) (hw _ (List.mem_of_getElem? (i := 2) rfl)) (by decide) (by decide)) (g := (mkF m 174 #[.val (.ref cn), .val (.int (2 : Int32)), .val (.int (2 : Int32)), .val (.int (3 : Int32)), .val .null, .val (.int (2 : Int32)), .val (.int (3 : Int32)), .val (.int (3840 : Int32)), .val (.int (0 : Int32)), .unset, .unset, .unset] [(.int (0 : Int32)), (.int (0 : Int32)), (.int (3 : Int32)), (.ref cn), (.int (0 : Int32)), (.int (2 : Int32)), (.ref cn)])) rfl (by rw [hml]; rfl) (Steps.refl _) (a := cn) (by rw [e629]; exact q630) q630' (argsL := [(.int (3 : Int32)), (.int (0 : Int32)), (.int (0 : Int32))]) (rest := [(.int (0 : Int32)), (.int (2 : Int32)), (.ref cn)]) (lenOf pd_7 rfl) rfl (by show 2 * 0 + _ ≤ _; exact Nat.le_of_eq rfl) (hb hby d8_174) (fun _ _ => ⟨rfl, e629, (by decide : 0 + 0 ≤ _), (by decide : 0 + 0 ≤ _)⟩)
  dsimp only [Pt.U, Pt.locs, Pt.cells, Pt.slots] at X630 l630 y630 z630 st630 hQ630
  subst l630 y630 z630
  obtain ⟨rfl, Nq630, e630⟩ := hQ630
  have N630 := Fr.app N629 Nq630
  obtain ⟨cq631, q631, q631'⟩ := Ec.cell
  obtain ⟨_, _, ⟨T631, L631, k631, n631⟩, -, X631, ⟨Lc631, hQ631, l631, y631, z631⟩, st631⟩ := X630.privateBack hx (y := (⟨"com/example/sealed_paths/sealedpaths/core/Conditions", "apply", "(III)I"⟩ : MethodName)) hown (mvT hZ (hw _ (List.mem_of_getElem? (i := 51) rfl))) (mvT hZ (hw _ (List.mem_of_getElem? (i := 52) rfl))) (psel (mvT hZ (hw _ (List.mem_of_getElem? (i := 1) rfl))) (mvP hZ (hw _ (List.mem_of_getElem? (i := 53) rfl))) (mvT hZ (hw _ (List.mem_of_getElem? (i := 52) rfl))) (by decide)) (Cond.privateMethod_at (mvP hZ (hw _ (List.mem_of_getElem? (i := 53) rfl)) (args := #[]))) (mvT hZ (hw _ (List.mem_of_getElem? (i := 54) rfl))) (by decide) (backOf (W := 0) (ras201 l Z a0 hw [] cn ch cl b0 b1 h0 n0 Z0 Od hI0) hZ (hw _ (List.mem_of_getElem? (i := 54) rfl)) (hw _ (List.mem_of_getElem? (i := 2) rfl)) (by decide) (by decide)) (g := (mkF m 177 #[.val (.ref cn), .val (.int (2 : Int32)), .val (.int (2 : Int32)), .val (.int (3 : Int32)), .val .null, .val (.int (2 : Int32)), .val (.int (3 : Int32)), .val (.int (3840 : Int32)), .val (.int (0 : Int32)), .unset, .unset, .unset] [(.int (1 : Int32)), (.int (0 : Int32)), (.int (2 : Int32)), (.ref cn)])) rfl (by rw [hml]; rfl) (Steps.refl _) (a := cn) (by rw [e630]; exact q631) q631' (argsL := [(.int (2 : Int32)), (.int (0 : Int32)), (.int (1 : Int32))]) (rest := []) (lenOf pd_5 rfl) rfl (by show 2 * 0 + _ ≤ _; exact Nat.le_of_eq rfl) (hb hby d8_177) (fun _ _ => ⟨rfl, e630, (by decide : 0 + 0 ≤ _), (by decide : 0 + 0 ≤ _)⟩)
  dsimp only [Pt.U, Pt.locs, Pt.cells, Pt.slots] at X631 l631 y631 z631 st631 hQ631
  subst l631 y631 z631
  obtain ⟨rfl, Nq631, e631⟩ := hQ631
  have N631 := Fr.app N630 Nq631
  obtain ⟨cq632, q632, q632'⟩ := Ec.cell
  obtain ⟨_, _, ⟨T632, L632, k632, n632⟩, -, X632, ⟨Lc632, hQ632, l632, y632, z632⟩, st632⟩ := X631.privateBack hx (y := (⟨"com/example/sealed_paths/sealedpaths/core/Conditions", "branch", "(IIZ)I"⟩ : MethodName)) hown (mvT hZ (hw _ (List.mem_of_getElem? (i := 65) rfl))) (mvT hZ (hw _ (List.mem_of_getElem? (i := 66) rfl))) (psel (mvT hZ (hw _ (List.mem_of_getElem? (i := 1) rfl))) (mvP hZ (hw _ (List.mem_of_getElem? (i := 67) rfl))) (mvT hZ (hw _ (List.mem_of_getElem? (i := 66) rfl))) (by decide)) (Cond.privateMethod_at (mvP hZ (hw _ (List.mem_of_getElem? (i := 67) rfl)) (args := #[]))) (mvT hZ (hw _ (List.mem_of_getElem? (i := 68) rfl))) (by decide) (backOf (W := 2) (rbr21 l Z a0 hw [] cn vs lo hi tb ca (4 : Int32) vc (1 : Int32) fv fl fh ft fc h0 n0 Z0 ⟨Ec, F_variables, F_lows, F_highs, F_table, F_cached, F_limit, F_size, F_vc, V_vs, V_lo, V_hi, V_tb, V_ca⟩ hD0 hv2 hh2) hZ (hw _ (List.mem_of_getElem? (i := 68) rfl)) (hw _ (List.mem_of_getElem? (i := 2) rfl)) (by decide) (by decide)) (g := (mkF m 190 #[.val (.ref cn), .val (.int (2 : Int32)), .val (.int (2 : Int32)), .val (.int (3 : Int32)), .val .null, .val (.int (2 : Int32)), .val (.int (3 : Int32)), .val (.int (3840 : Int32)), .val (.int (0 : Int32)), .val (.int (1 : Int32)), .unset, .unset] [(.int (1 : Int32)), (.int (0 : Int32)), (.int (2 : Int32)), (.ref cn), (.int (2 : Int32)), (.ref cn)])) rfl (by rw [hml]; rfl) (Steps.refl _) (a := cn) (by rw [e631]; exact q632) q632' (argsL := [(.int (2 : Int32)), (.int (0 : Int32)), (.int (1 : Int32))]) (rest := [(.int (2 : Int32)), (.ref cn)]) (lenOf pd_7 rfl) rfl (by show 2 * 0 + _ ≤ _; exact Nat.le_of_eq rfl) (hb hby d8_190) (fun _ _ => ⟨rfl, e631, (by decide : 0 + 0 ≤ _), (by decide : 0 + 0 ≤ _)⟩)
  dsimp only [Pt.U, Pt.locs, Pt.cells, Pt.slots] at X632 l632 y632 z632 st632 hQ632
  subst l632 y632 z632
  obtain ⟨rfl, Nq632, e632⟩ := hQ632
  have N632 := Fr.app N631 Nq632
  obtain ⟨cq633, q633, q633'⟩ := Ec.cell
  obtain ⟨_, _, ⟨T633, L633, k633, n633⟩, -, X633, ⟨Lc633, hQ633, l633, y633, z633⟩, st633⟩ := X632.privateBack hx (y := (⟨"com/example/sealed_paths/sealedpaths/core/Conditions", "branch", "(IIZ)I"⟩ : MethodName)) hown (mvT hZ (hw _ (List.mem_of_getElem? (i := 65) rfl))) (mvT hZ (hw _ (List.mem_of_getElem? (i := 66) rfl))) (psel (mvT hZ (hw _ (List.mem_of_getElem? (i := 1) rfl))) (mvP hZ (hw _ (List.mem_of_getElem? (i := 67) rfl))) (mvT hZ (hw _ (List.mem_of_getElem? (i := 66) rfl))) (by decide)) (Cond.privateMethod_at (mvP hZ (hw _ (List.mem_of_getElem? (i := 67) rfl)) (args := #[]))) (mvT hZ (hw _ (List.mem_of_getElem? (i := 68) rfl))) (by decide) (backOf (W := 3) (rbr31 l Z a0 hw [] cn vs lo hi tb ca (4 : Int32) vc (0 : Int32) fv fl fh ft fc h0 n0 Z0 ⟨Ec, F_variables, F_lows, F_highs, F_table, F_cached, F_limit, F_size, F_vc, V_vs, V_lo, V_hi, V_tb, V_ca⟩ hD0 hv3 hh3) hZ (hw _ (List.mem_of_getElem? (i := 68) rfl)) (hw _ (List.mem_of_getElem? (i := 2) rfl)) (by decide) (by decide)) (g := (mkF m 199 #[.val (.ref cn), .val (.int (2 : Int32)), .val (.int (2 : Int32)), .val (.int (3 : Int32)), .val .null, .val (.int (2 : Int32)), .val (.int (3 : Int32)), .val (.int (3840 : Int32)), .val (.int (0 : Int32)), .val (.int (1 : Int32)), .unset, .unset] [(.int (1 : Int32)), (.int (0 : Int32)), (.int (3 : Int32)), (.ref cn), (.int (1 : Int32)), (.int (2 : Int32)), (.ref cn)])) rfl (by rw [hml]; rfl) (Steps.refl _) (a := cn) (by rw [e632]; exact q633) q633' (argsL := [(.int (3 : Int32)), (.int (0 : Int32)), (.int (1 : Int32))]) (rest := [(.int (1 : Int32)), (.int (2 : Int32)), (.ref cn)]) (lenOf pd_7 rfl) rfl (by show 2 * 0 + _ ≤ _; exact Nat.le_of_eq rfl) (hb hby d8_199) (fun _ _ => ⟨rfl, e632, (by decide : 0 + 0 ≤ _), (by decide : 0 + 0 ≤ _)⟩)
  dsimp only [Pt.U, Pt.locs, Pt.cells, Pt.slots] at X633 l633 y633 z633 st633 hQ633
  subst l633 y633 z633
  obtain ⟨rfl, Nq633, e633⟩ := hQ633
  have N633 := Fr.app N632 Nq633
  obtain ⟨cq634, q634, q634'⟩ := Ec.cell
  obtain ⟨_, _, ⟨T634, L634, k634, n634⟩, -, X634, ⟨Lc634, hQ634, l634, y634, z634⟩, st634⟩ := X633.privateBack hx (y := (⟨"com/example/sealed_paths/sealedpaths/core/Conditions", "apply", "(III)I"⟩ : MethodName)) hown (mvT hZ (hw _ (List.mem_of_getElem? (i := 51) rfl))) (mvT hZ (hw _ (List.mem_of_getElem? (i := 52) rfl))) (psel (mvT hZ (hw _ (List.mem_of_getElem? (i := 1) rfl))) (mvP hZ (hw _ (List.mem_of_getElem? (i := 53) rfl))) (mvT hZ (hw _ (List.mem_of_getElem? (i := 52) rfl))) (by decide)) (Cond.privateMethod_at (mvP hZ (hw _ (List.mem_of_getElem? (i := 53) rfl)) (args := #[]))) (mvT hZ (hw _ (List.mem_of_getElem? (i := 54) rfl))) (by decide) (backOf (W := 0) (ras210 l Z a0 hw [] cn ch cl b0 b1 h0 n0 Z0 Od hI0) hZ (hw _ (List.mem_of_getElem? (i := 54) rfl)) (hw _ (List.mem_of_getElem? (i := 2) rfl)) (by decide) (by decide)) (g := (mkF m 202 #[.val (.ref cn), .val (.int (2 : Int32)), .val (.int (2 : Int32)), .val (.int (3 : Int32)), .val .null, .val (.int (2 : Int32)), .val (.int (3 : Int32)), .val (.int (3840 : Int32)), .val (.int (0 : Int32)), .val (.int (1 : Int32)), .unset, .unset] [(.int (0 : Int32)), (.int (1 : Int32)), (.int (2 : Int32)), (.ref cn)])) rfl (by rw [hml]; rfl) (Steps.refl _) (a := cn) (by rw [e633]; exact q634) q634' (argsL := [(.int (2 : Int32)), (.int (1 : Int32)), (.int (0 : Int32))]) (rest := []) (lenOf pd_5 rfl) rfl (by show 2 * 0 + _ ≤ _; exact Nat.le_of_eq rfl) (hb hby d8_202) (fun _ _ => ⟨rfl, e633, (by decide : 0 + 0 ≤ _), (by decide : 0 + 0 ≤ _)⟩)
  dsimp only [Pt.U, Pt.locs, Pt.cells, Pt.slots] at X634 l634 y634 z634 st634 hQ634
  subst l634 y634 z634
  obtain ⟨rfl, Nq634, e634⟩ := hQ634
  have N634 := Fr.app N633 Nq634
  obtain ⟨cq635, q635, q635'⟩ := Ec.cell
  obtain ⟨_, _, ⟨T635, L635, k635, n635⟩, -, X635, ⟨Lc635, hQ635, l635, y635, z635⟩, st635⟩ := X634.privateBack hx (y := (⟨"com/example/sealed_paths/sealedpaths/core/Conditions", "node", "(III)I"⟩ : MethodName)) hown (mvT hZ (hw _ (List.mem_of_getElem? (i := 36) rfl))) (mvT hZ (hw _ (List.mem_of_getElem? (i := 37) rfl))) (psel (mvT hZ (hw _ (List.mem_of_getElem? (i := 1) rfl))) (mvP hZ (hw _ (List.mem_of_getElem? (i := 38) rfl))) (mvT hZ (hw _ (List.mem_of_getElem? (i := 37) rfl))) (by decide)) (Cond.privateMethod_at (mvP hZ (hw _ (List.mem_of_getElem? (i := 38) rfl)) (args := #[]))) (mvT hZ (hw _ (List.mem_of_getElem? (i := 39) rfl))) (by decide) (backOf (W := 0) (rneq l Z a0 hw [] cn (0 : Int32) (1 : Int32) h0 n0 Z0) hZ (hw _ (List.mem_of_getElem? (i := 39) rfl)) (hw _ (List.mem_of_getElem? (i := 2) rfl)) (by decide) (by decide)) (g := (mkF m 214 #[.val (.ref cn), .val (.int (2 : Int32)), .val (.int (2 : Int32)), .val (.int (3 : Int32)), .val .null, .val (.int (2 : Int32)), .val (.int (3 : Int32)), .val (.int (3840 : Int32)), .val (.int (0 : Int32)), .val (.int (1 : Int32)), .val (.int (1 : Int32)), .unset] [(.int (1 : Int32)), (.int (1 : Int32)), (.int (0 : Int32)), (.ref cn)])) rfl (by rw [hml]; rfl) (Steps.refl _) (a := cn) (by rw [e634]; exact q635) q635' (argsL := [(.int (0 : Int32)), (.int (1 : Int32)), (.int (1 : Int32))]) (rest := []) (lenOf pd_5 rfl) rfl (by show 2 * 0 + _ ≤ _; exact Nat.le_of_eq rfl) (hb hby d8_214) (fun _ _ => ⟨rfl, e634, (by decide : 0 + 0 ≤ _), (by decide : 0 + 0 ≤ _)⟩)
  dsimp only [Pt.U, Pt.locs, Pt.cells, Pt.slots] at X635 l635 y635 z635 st635 hQ635
  subst l635 y635 z635
  obtain ⟨rfl, Nq635, e635⟩ := hQ635
  have N635 := Fr.app N634 Nq635
  obtain ⟨T636, X636, e636, st636⟩ := getF X635 hx hZ hown (host := "") (Or.inl (hw _ (List.mem_of_getElem? (i := 18) rfl))) Via.refl e635 F_cached (g := (mkF m 238 #[.val (.ref cn), .val (.int (2 : Int32)), .val (.int (2 : Int32)), .val (.int (3 : Int32)), .val .null, .val (.int (2 : Int32)), .val (.int (3 : Int32)), .val (.int (3840 : Int32)), .val (.int (0 : Int32)), .val (.int (1 : Int32)), .val (.int (1 : Int32)), .val (.int (1 : Int32))] [(.ref cn), (.int (2129825536 : Int32))])) rfl rfl (hb hby d8_238)
  obtain ⟨cl637, Ar637, Sz637, Hz637⟩ := id V_ca
  obtain ⟨T638, X638, e638, st638⟩ := getF X636 hx hZ hown (host := "") (Or.inl (hw _ (List.mem_of_getElem? (i := 18) rfl))) Via.refl e636 F_cached (g := (mkF m 250 #[.val (.ref cn), .val (.int (2 : Int32)), .val (.int (2 : Int32)), .val (.int (3 : Int32)), .val .null, .val (.int (2 : Int32)), .val (.int (3 : Int32)), .val (.int (3840 : Int32)), .val (.int (0 : Int32)), .val (.int (1 : Int32)), .val (.int (1 : Int32)), .val (.int (1 : Int32))] [(.ref cn)])) rfl rfl (hb hby d8_250)
  obtain ⟨cl639, Ar639, Sz639, Hz639⟩ := id V_ca
  have hin639 := IA.inb (j := (15360 : Int32)) (i := 15360) Sz639 (by decide) (by decide) (by decide)
  obtain ⟨T640, h640, X640, e640, W640, st640⟩ := stI X638 hx hZ e638 Ar639 (j := (15360 : Int32)) hin639 (g := (mkF m 258 #[.val (.ref cn), .val (.int (2 : Int32)), .val (.int (2 : Int32)), .val (.int (3 : Int32)), .val .null, .val (.int (2 : Int32)), .val (.int (3 : Int32)), .val (.int (3840 : Int32)), .val (.int (0 : Int32)), .val (.int (1 : Int32)), .val (.int (1 : Int32)), .val (.int (1 : Int32))] [(.int (2 : Int32)), (.int (15360 : Int32)), (.ref ca)])) rfl rfl (hb hby d8_258)
  have V640 : IA Z h640 ca 16384 (upd fc 15360 (2 : Int32)) := IA.set Ar639 Sz639 Hz639 W640 (by decide) (by decide)
  have N640 := Fr.snoc X640 N635 g_ca
  have zF641 := F_variables.other W640 (Or.inl ne_cn_ca)
  have zF642 := F_lows.other W640 (Or.inl ne_cn_ca)
  have zF643 := F_highs.other W640 (Or.inl ne_cn_ca)
  have zF644 := F_table.other W640 (Or.inl ne_cn_ca)
  have zF645 := F_cached.other W640 (Or.inl ne_cn_ca)
  have zF646 := F_limit.other W640 (Or.inl ne_cn_ca)
  have zF647 := F_size.other W640 (Or.inl ne_cn_ca)
  have zF648 := F_vc.other W640 (Or.inl ne_cn_ca)
  have zE649 := Ec.wr W640
  have zA650 := V_vs.other W640 ne_vs_ca
  have zA651 := V_lo.other W640 ne_lo_ca
  have zA652 := V_hi.other W640 ne_hi_ca
  have zA653 := V_tb.other W640 ne_tb_ca
  have Z640 := Nat.le_trans Z0 (Keep.of_wr W640).1
  have K640 := (Keep.refl h0 [cn, vs, lo, hi, tb, ca]).wr W640 (Or.inl (List.mem_of_getElem? (i := 5) rfl))
  have Od640 := Od.wr W640 g_ca
  obtain ⟨T654, X654, e654, st654⟩ := getF X640 hx hZ hown (host := "") (Or.inl (hw _ (List.mem_of_getElem? (i := 18) rfl))) Via.refl e640 zF645 (g := (mkF m 260 #[.val (.ref cn), .val (.int (2 : Int32)), .val (.int (2 : Int32)), .val (.int (3 : Int32)), .val .null, .val (.int (2 : Int32)), .val (.int (3 : Int32)), .val (.int (3840 : Int32)), .val (.int (0 : Int32)), .val (.int (1 : Int32)), .val (.int (1 : Int32)), .val (.int (1 : Int32))] [(.ref cn)])) rfl rfl (hb hby d8_260)
  obtain ⟨cl655, Ar655, Sz655, Hz655⟩ := id V640
  have hin655 := IA.inb (j := (15361 : Int32)) (i := 15361) Sz655 (by decide) (by decide) (by decide)
  obtain ⟨T656, h656, X656, e656, W656, st656⟩ := stI X654 hx hZ e654 Ar655 (j := (15361 : Int32)) hin655 (g := (mkF m 271 #[.val (.ref cn), .val (.int (2 : Int32)), .val (.int (2 : Int32)), .val (.int (3 : Int32)), .val .null, .val (.int (2 : Int32)), .val (.int (3 : Int32)), .val (.int (3840 : Int32)), .val (.int (0 : Int32)), .val (.int (1 : Int32)), .val (.int (1 : Int32)), .val (.int (1 : Int32))] [(.int (2 : Int32)), (.int (15361 : Int32)), (.ref ca)])) rfl rfl (hb hby d8_271)
  have V656 : IA Z h656 ca 16384 (upd (upd fc 15360 (2 : Int32)) 15361 (2 : Int32)) := IA.set Ar655 Sz655 Hz655 W656 (by decide) (by decide)
  have N656 := Fr.snoc X656 N640 g_ca
  have zF657 := zF641.other W656 (Or.inl ne_cn_ca)
  have zF658 := zF642.other W656 (Or.inl ne_cn_ca)
  have zF659 := zF643.other W656 (Or.inl ne_cn_ca)
  have zF660 := zF644.other W656 (Or.inl ne_cn_ca)
  have zF661 := zF645.other W656 (Or.inl ne_cn_ca)
  have zF662 := zF646.other W656 (Or.inl ne_cn_ca)
  have zF663 := zF647.other W656 (Or.inl ne_cn_ca)
  have zF664 := zF648.other W656 (Or.inl ne_cn_ca)
  have zE665 := zE649.wr W656
  have zA666 := zA650.other W656 ne_vs_ca
  have zA667 := zA651.other W656 ne_lo_ca
  have zA668 := zA652.other W656 ne_hi_ca
  have zA669 := zA653.other W656 ne_tb_ca
  have Z656 := Nat.le_trans Z640 (Keep.of_wr W656).1
  have K656 := K640.wr W656 (Or.inl (List.mem_of_getElem? (i := 5) rfl))
  have Od656 := Od640.wr W656 g_ca
  obtain ⟨T670, X670, e670, st670⟩ := getF X656 hx hZ hown (host := "") (Or.inl (hw _ (List.mem_of_getElem? (i := 18) rfl))) Via.refl e656 zF661 (g := (mkF m 273 #[.val (.ref cn), .val (.int (2 : Int32)), .val (.int (2 : Int32)), .val (.int (3 : Int32)), .val .null, .val (.int (2 : Int32)), .val (.int (3 : Int32)), .val (.int (3840 : Int32)), .val (.int (0 : Int32)), .val (.int (1 : Int32)), .val (.int (1 : Int32)), .val (.int (1 : Int32))] [(.ref cn)])) rfl rfl (hb hby d8_273)
  obtain ⟨cl671, Ar671, Sz671, Hz671⟩ := id V656
  have hin671 := IA.inb (j := (15362 : Int32)) (i := 15362) Sz671 (by decide) (by decide) (by decide)
  obtain ⟨T672, h672, X672, e672, W672, st672⟩ := stI X670 hx hZ e670 Ar671 (j := (15362 : Int32)) hin671 (g := (mkF m 284 #[.val (.ref cn), .val (.int (2 : Int32)), .val (.int (2 : Int32)), .val (.int (3 : Int32)), .val .null, .val (.int (2 : Int32)), .val (.int (3 : Int32)), .val (.int (3840 : Int32)), .val (.int (0 : Int32)), .val (.int (1 : Int32)), .val (.int (1 : Int32)), .val (.int (1 : Int32))] [(.int (3 : Int32)), (.int (15362 : Int32)), (.ref ca)])) rfl rfl (hb hby d8_284)
  have V672 : IA Z h672 ca 16384 (upd (upd (upd fc 15360 (2 : Int32)) 15361 (2 : Int32)) 15362 (3 : Int32)) := IA.set Ar671 Sz671 Hz671 W672 (by decide) (by decide)
  have N672 := Fr.snoc X672 N656 g_ca
  have zF673 := zF657.other W672 (Or.inl ne_cn_ca)
  have zF674 := zF658.other W672 (Or.inl ne_cn_ca)
  have zF675 := zF659.other W672 (Or.inl ne_cn_ca)
  have zF676 := zF660.other W672 (Or.inl ne_cn_ca)
  have zF677 := zF661.other W672 (Or.inl ne_cn_ca)
  have zF678 := zF662.other W672 (Or.inl ne_cn_ca)
  have zF679 := zF663.other W672 (Or.inl ne_cn_ca)
  have zF680 := zF664.other W672 (Or.inl ne_cn_ca)
  have zE681 := zE665.wr W672
  have zA682 := zA666.other W672 ne_vs_ca
  have zA683 := zA667.other W672 ne_lo_ca
  have zA684 := zA668.other W672 ne_hi_ca
  have zA685 := zA669.other W672 ne_tb_ca
  have Z672 := Nat.le_trans Z656 (Keep.of_wr W672).1
  have K672 := K656.wr W672 (Or.inl (List.mem_of_getElem? (i := 5) rfl))
  have Od672 := Od656.wr W672 g_ca
  obtain ⟨T686, X686, e686, st686⟩ := getF X672 hx hZ hown (host := "") (Or.inl (hw _ (List.mem_of_getElem? (i := 18) rfl))) Via.refl e672 zF677 (g := (mkF m 286 #[.val (.ref cn), .val (.int (2 : Int32)), .val (.int (2 : Int32)), .val (.int (3 : Int32)), .val .null, .val (.int (2 : Int32)), .val (.int (3 : Int32)), .val (.int (3840 : Int32)), .val (.int (0 : Int32)), .val (.int (1 : Int32)), .val (.int (1 : Int32)), .val (.int (1 : Int32))] [(.ref cn)])) rfl rfl (hb hby d8_286)
  obtain ⟨cl687, Ar687, Sz687, Hz687⟩ := id V672
  have hin687 := IA.inb (j := (15363 : Int32)) (i := 15363) Sz687 (by decide) (by decide) (by decide)
  obtain ⟨T688, h688, X688, e688, W688, st688⟩ := stI X686 hx hZ e686 Ar687 (j := (15363 : Int32)) hin687 (g := (mkF m 297 #[.val (.ref cn), .val (.int (2 : Int32)), .val (.int (2 : Int32)), .val (.int (3 : Int32)), .val .null, .val (.int (2 : Int32)), .val (.int (3 : Int32)), .val (.int (3840 : Int32)), .val (.int (0 : Int32)), .val (.int (1 : Int32)), .val (.int (1 : Int32)), .val (.int (1 : Int32))] [(.int (1 : Int32)), (.int (15363 : Int32)), (.ref ca)])) rfl rfl (hb hby d8_297)
  have V688 : IA Z h688 ca 16384 (upd (upd (upd (upd fc 15360 (2 : Int32)) 15361 (2 : Int32)) 15362 (3 : Int32)) 15363 (1 : Int32)) := IA.set Ar687 Sz687 Hz687 W688 (by decide) (by decide)
  have N688 := Fr.snoc X688 N672 g_ca
  have zF689 := zF673.other W688 (Or.inl ne_cn_ca)
  have zF690 := zF674.other W688 (Or.inl ne_cn_ca)
  have zF691 := zF675.other W688 (Or.inl ne_cn_ca)
  have zF692 := zF676.other W688 (Or.inl ne_cn_ca)
  have zF693 := zF677.other W688 (Or.inl ne_cn_ca)
  have zF694 := zF678.other W688 (Or.inl ne_cn_ca)
  have zF695 := zF679.other W688 (Or.inl ne_cn_ca)
  have zF696 := zF680.other W688 (Or.inl ne_cn_ca)
  have zE697 := zE681.wr W688
  have zA698 := zA682.other W688 ne_vs_ca
  have zA699 := zA683.other W688 ne_lo_ca
  have zA700 := zA684.other W688 ne_hi_ca
  have zA701 := zA685.other W688 ne_tb_ca
  have Z688 := Nat.le_trans Z672 (Keep.of_wr W688).1
  have K688 := K672.wr W688 (Or.inl (List.mem_of_getElem? (i := 5) rfl))
  have Od688 := Od672.wr W688 g_ca
  obtain ⟨fs, hr, hrun, hended, hW, hsame⟩ := X688.leave (v := some (.int (1 : Int32))) (fun h => by rw [Bd.returns] at h; cases h)
  refine ⟨_, _, pre0 _ ?_, hrun, hended, _, _, rfl, ?_, ⟨_, rfl⟩, hW, hsame.mono (by decide) (by decide)⟩
  · show Steps p.tables e below (s₁.setTop (mkF m 0 #[.val (.ref cn), .val (.int (2 : Int32)), .val (.int (2 : Int32)), .val (.int (3 : Int32)), .unset, .unset, .unset, .unset, .unset, .unset, .unset, .unset] [])) _
    refine XS.iloadN X0.here hx rfl (hb hby d8_0) rfl ?_
    show Steps p.tables e below (s₁.setTop (mkF m 1 #[.val (.ref cn), .val (.int (2 : Int32)), .val (.int (2 : Int32)), .val (.int (3 : Int32)), .unset, .unset, .unset, .unset, .unset, .unset, .unset, .unset] [(.int (2 : Int32))])) _
    refine XS.iloadN X0.here hx rfl (hb hby d8_1) rfl ?_
    show Steps p.tables e below (s₁.setTop (mkF m 2 #[.val (.ref cn), .val (.int (2 : Int32)), .val (.int (2 : Int32)), .val (.int (3 : Int32)), .unset, .unset, .unset, .unset, .unset, .unset, .unset, .unset] [(.int (2 : Int32)), (.int (2 : Int32))])) _
    refine XS.iloadN X0.here hx rfl (hb hby d8_2) rfl ?_
    show Steps p.tables e below (s₁.setTop (mkF m 3 #[.val (.ref cn), .val (.int (2 : Int32)), .val (.int (2 : Int32)), .val (.int (3 : Int32)), .unset, .unset, .unset, .unset, .unset, .unset, .unset, .unset] [(.int (3 : Int32)), (.int (2 : Int32)), (.int (2 : Int32))])) _
    refine st617 _ ?_
    show Steps p.tables e below (T617.setTop (mkF m 6 #[.val (.ref cn), .val (.int (2 : Int32)), .val (.int (2 : Int32)), .val (.int (3 : Int32)), .unset, .unset, .unset, .unset, .unset, .unset, .unset, .unset] [.null])) _
    refine XS.astore X617.here hx rfl (hb hby d8_6) rfl rfl (l' := #[.val (.ref cn), .val (.int (2 : Int32)), .val (.int (2 : Int32)), .val (.int (3 : Int32)), .val .null, .unset, .unset, .unset, .unset, .unset, .unset, .unset]) rfl ?_
    show Steps p.tables e below (T617.setTop (mkF m 8 #[.val (.ref cn), .val (.int (2 : Int32)), .val (.int (2 : Int32)), .val (.int (3 : Int32)), .val .null, .unset, .unset, .unset, .unset, .unset, .unset, .unset] [])) _
    refine XS.aload X617.here hx rfl (hb hby d8_8) rfl rfl ?_
    show Steps p.tables e below (T617.setTop (mkF m 10 #[.val (.ref cn), .val (.int (2 : Int32)), .val (.int (2 : Int32)), .val (.int (3 : Int32)), .val .null, .unset, .unset, .unset, .unset, .unset, .unset, .unset] [.null])) _
    refine XS.ifnullYes X617.here hx rfl (pc0 := 10) (pc' := 19) rfl (hb hby d8_10) rfl (by decide) (by decide) ?_
    show Steps p.tables e below (T617.setTop (mkF m 19 #[.val (.ref cn), .val (.int (2 : Int32)), .val (.int (2 : Int32)), .val (.int (3 : Int32)), .val .null, .unset, .unset, .unset, .unset, .unset, .unset, .unset] [])) _
    refine XS.iloadN X617.here hx rfl (hb hby d8_19) rfl ?_
    show Steps p.tables e below (T617.setTop (mkF m 20 #[.val (.ref cn), .val (.int (2 : Int32)), .val (.int (2 : Int32)), .val (.int (3 : Int32)), .val .null, .unset, .unset, .unset, .unset, .unset, .unset, .unset] [(.int (2 : Int32))])) _
    refine XS.iconst X617.here hx rfl (hb hby d8_20) ?_
    show Steps p.tables e below (T617.setTop (mkF m 21 #[.val (.ref cn), .val (.int (2 : Int32)), .val (.int (2 : Int32)), .val (.int (3 : Int32)), .val .null, .unset, .unset, .unset, .unset, .unset, .unset, .unset] [(.int (3 : Int32)), (.int (2 : Int32))])) _
    refine XS.icmpYes X617.here hx rfl (pc0 := 21) (pc' := 28) rfl (hb hby d8_21) rfl (feq (by decide)).2 (by decide) (by decide) ?_
    show Steps p.tables e below (T617.setTop (mkF m 28 #[.val (.ref cn), .val (.int (2 : Int32)), .val (.int (2 : Int32)), .val (.int (3 : Int32)), .val .null, .unset, .unset, .unset, .unset, .unset, .unset, .unset] [])) _
    refine XS.iloadN X617.here hx rfl (hb hby d8_28) rfl ?_
    show Steps p.tables e below (T617.setTop (mkF m 29 #[.val (.ref cn), .val (.int (2 : Int32)), .val (.int (2 : Int32)), .val (.int (3 : Int32)), .val .null, .unset, .unset, .unset, .unset, .unset, .unset, .unset] [(.int (2 : Int32))])) _
    refine XS.iloadN X617.here hx rfl (hb hby d8_29) rfl ?_
    show Steps p.tables e below (T617.setTop (mkF m 30 #[.val (.ref cn), .val (.int (2 : Int32)), .val (.int (2 : Int32)), .val (.int (3 : Int32)), .val .null, .unset, .unset, .unset, .unset, .unset, .unset, .unset] [(.int (3 : Int32)), (.int (2 : Int32))])) _
    refine st618 _ ?_
    show Steps p.tables e below (T618.setTop (mkF m 33 #[.val (.ref cn), .val (.int (2 : Int32)), .val (.int (2 : Int32)), .val (.int (3 : Int32)), .val .null, .unset, .unset, .unset, .unset, .unset, .unset, .unset] [(.int (2 : Int32))])) _
    refine XS.istore X618.here hx rfl (hb hby d8_33) rfl (l' := #[.val (.ref cn), .val (.int (2 : Int32)), .val (.int (2 : Int32)), .val (.int (3 : Int32)), .val .null, .val (.int (2 : Int32)), .unset, .unset, .unset, .unset, .unset, .unset]) rfl ?_
    show Steps p.tables e below (T618.setTop (mkF m 35 #[.val (.ref cn), .val (.int (2 : Int32)), .val (.int (2 : Int32)), .val (.int (3 : Int32)), .val .null, .val (.int (2 : Int32)), .unset, .unset, .unset, .unset, .unset, .unset] [])) _
    refine XS.iloadN X618.here hx rfl (hb hby d8_35) rfl ?_
    show Steps p.tables e below (T618.setTop (mkF m 36 #[.val (.ref cn), .val (.int (2 : Int32)), .val (.int (2 : Int32)), .val (.int (3 : Int32)), .val .null, .val (.int (2 : Int32)), .unset, .unset, .unset, .unset, .unset, .unset] [(.int (2 : Int32))])) _
    refine XS.iconst X618.here hx rfl (hb hby d8_36) ?_
    show Steps p.tables e below (T618.setTop (mkF m 37 #[.val (.ref cn), .val (.int (2 : Int32)), .val (.int (2 : Int32)), .val (.int (3 : Int32)), .val .null, .val (.int (2 : Int32)), .unset, .unset, .unset, .unset, .unset, .unset] [(.int (3 : Int32)), (.int (2 : Int32))])) _
    refine XS.icmpYes X618.here hx rfl (pc0 := 37) (pc' := 44) rfl (hb hby d8_37) rfl (feq (by decide)).2 (by decide) (by decide) ?_
    show Steps p.tables e below (T618.setTop (mkF m 44 #[.val (.ref cn), .val (.int (2 : Int32)), .val (.int (2 : Int32)), .val (.int (3 : Int32)), .val .null, .val (.int (2 : Int32)), .unset, .unset, .unset, .unset, .unset, .unset] [])) _
    refine XS.iloadN X618.here hx rfl (hb hby d8_44) rfl ?_
    show Steps p.tables e below (T618.setTop (mkF m 45 #[.val (.ref cn), .val (.int (2 : Int32)), .val (.int (2 : Int32)), .val (.int (3 : Int32)), .val .null, .val (.int (2 : Int32)), .unset, .unset, .unset, .unset, .unset, .unset] [(.int (2 : Int32))])) _
    refine XS.iloadN X618.here hx rfl (hb hby d8_45) rfl ?_
    show Steps p.tables e below (T618.setTop (mkF m 46 #[.val (.ref cn), .val (.int (2 : Int32)), .val (.int (2 : Int32)), .val (.int (3 : Int32)), .val .null, .val (.int (2 : Int32)), .unset, .unset, .unset, .unset, .unset, .unset] [(.int (3 : Int32)), (.int (2 : Int32))])) _
    refine st619 _ ?_
    show Steps p.tables e below (T619.setTop (mkF m 49 #[.val (.ref cn), .val (.int (2 : Int32)), .val (.int (2 : Int32)), .val (.int (3 : Int32)), .val .null, .val (.int (2 : Int32)), .unset, .unset, .unset, .unset, .unset, .unset] [(.int (3 : Int32))])) _
    refine XS.istore X619.here hx rfl (hb hby d8_49) rfl (l' := #[.val (.ref cn), .val (.int (2 : Int32)), .val (.int (2 : Int32)), .val (.int (3 : Int32)), .val .null, .val (.int (2 : Int32)), .val (.int (3 : Int32)), .unset, .unset, .unset, .unset, .unset]) rfl ?_
    show Steps p.tables e below (T619.setTop (mkF m 51 #[.val (.ref cn), .val (.int (2 : Int32)), .val (.int (2 : Int32)), .val (.int (3 : Int32)), .val .null, .val (.int (2 : Int32)), .val (.int (3 : Int32)), .unset, .unset, .unset, .unset, .unset] [])) _
    refine XS.iloadN X619.here hx rfl (hb hby d8_51) rfl ?_
    show Steps p.tables e below (T619.setTop (mkF m 52 #[.val (.ref cn), .val (.int (2 : Int32)), .val (.int (2 : Int32)), .val (.int (3 : Int32)), .val .null, .val (.int (2 : Int32)), .val (.int (3 : Int32)), .unset, .unset, .unset, .unset, .unset] [(.int (2 : Int32))])) _
    refine XS.bipush X619.here hx rfl (hb hby d8_52) ?_
    show Steps p.tables e below (T619.setTop (mkF m 54 #[.val (.ref cn), .val (.int (2 : Int32)), .val (.int (2 : Int32)), .val (.int (3 : Int32)), .val .null, .val (.int (2 : Int32)), .val (.int (3 : Int32)), .unset, .unset, .unset, .unset, .unset] [(.int (31 : Int32)), (.int (2 : Int32))])) _
    refine XS.imul X619.here hx rfl (hb hby d8_54) rfl ?_
    show Steps p.tables e below (T619.setTop (mkF m 55 #[.val (.ref cn), .val (.int (2 : Int32)), .val (.int (2 : Int32)), .val (.int (3 : Int32)), .val .null, .val (.int (2 : Int32)), .val (.int (3 : Int32)), .unset, .unset, .unset, .unset, .unset] [(.int (62 : Int32))])) _
    refine XS.iload X619.here hx rfl (hb hby d8_55) rfl ?_
    show Steps p.tables e below (T619.setTop (mkF m 57 #[.val (.ref cn), .val (.int (2 : Int32)), .val (.int (2 : Int32)), .val (.int (3 : Int32)), .val .null, .val (.int (2 : Int32)), .val (.int (3 : Int32)), .unset, .unset, .unset, .unset, .unset] [(.int (2 : Int32)), (.int (62 : Int32))])) _
    refine XS.iadd X619.here hx rfl (hb hby d8_57) rfl ?_
    show Steps p.tables e below (T619.setTop (mkF m 58 #[.val (.ref cn), .val (.int (2 : Int32)), .val (.int (2 : Int32)), .val (.int (3 : Int32)), .val .null, .val (.int (2 : Int32)), .val (.int (3 : Int32)), .unset, .unset, .unset, .unset, .unset] [(.int (64 : Int32))])) _
    refine X619.ldcInt hx hown (mvT hZ (hw _ (List.mem_of_getElem? (i := 43) rfl))) (g := (mkF m 58 #[.val (.ref cn), .val (.int (2 : Int32)), .val (.int (2 : Int32)), .val (.int (3 : Int32)), .val .null, .val (.int (2 : Int32)), .val (.int (3 : Int32)), .unset, .unset, .unset, .unset, .unset] [(.int (64 : Int32))])) rfl (hb hby d8_58) _ ?_
    show Steps p.tables e below (T619.setTop (mkF m 60 #[.val (.ref cn), .val (.int (2 : Int32)), .val (.int (2 : Int32)), .val (.int (3 : Int32)), .val .null, .val (.int (2 : Int32)), .val (.int (3 : Int32)), .unset, .unset, .unset, .unset, .unset] [(.int (-1640531535 : Int32)), (.int (64 : Int32))])) _
    refine XS.imul X619.here hx rfl (hb hby d8_60) rfl ?_
    show Steps p.tables e below (T619.setTop (mkF m 61 #[.val (.ref cn), .val (.int (2 : Int32)), .val (.int (2 : Int32)), .val (.int (3 : Int32)), .val .null, .val (.int (2 : Int32)), .val (.int (3 : Int32)), .unset, .unset, .unset, .unset, .unset] [(.int (-1914803136 : Int32))])) _
    refine XS.iload X619.here hx rfl (hb hby d8_61) rfl ?_
    show Steps p.tables e below (T619.setTop (mkF m 63 #[.val (.ref cn), .val (.int (2 : Int32)), .val (.int (2 : Int32)), .val (.int (3 : Int32)), .val .null, .val (.int (2 : Int32)), .val (.int (3 : Int32)), .unset, .unset, .unset, .unset, .unset] [(.int (3 : Int32)), (.int (-1914803136 : Int32))])) _
    refine XS.iadd X619.here hx rfl (hb hby d8_63) rfl ?_
    show Steps p.tables e below (T619.setTop (mkF m 64 #[.val (.ref cn), .val (.int (2 : Int32)), .val (.int (2 : Int32)), .val (.int (3 : Int32)), .val .null, .val (.int (2 : Int32)), .val (.int (3 : Int32)), .unset, .unset, .unset, .unset, .unset] [(.int (-1914803133 : Int32))])) _
    refine X619.ldcInt hx hown (mvT hZ (hw _ (List.mem_of_getElem? (i := 44) rfl))) (g := (mkF m 64 #[.val (.ref cn), .val (.int (2 : Int32)), .val (.int (2 : Int32)), .val (.int (3 : Int32)), .val .null, .val (.int (2 : Int32)), .val (.int (3 : Int32)), .unset, .unset, .unset, .unset, .unset] [(.int (-1914803133 : Int32))])) rfl (hb hby d8_64) _ ?_
    show Steps p.tables e below (T619.setTop (mkF m 66 #[.val (.ref cn), .val (.int (2 : Int32)), .val (.int (2 : Int32)), .val (.int (3 : Int32)), .val .null, .val (.int (2 : Int32)), .val (.int (3 : Int32)), .unset, .unset, .unset, .unset, .unset] [(.int (-2048144789 : Int32)), (.int (-1914803133 : Int32))])) _
    refine XS.imul X619.here hx rfl (hb hby d8_66) rfl ?_
    show Steps p.tables e below (T619.setTop (mkF m 67 #[.val (.ref cn), .val (.int (2 : Int32)), .val (.int (2 : Int32)), .val (.int (3 : Int32)), .val .null, .val (.int (2 : Int32)), .val (.int (3 : Int32)), .unset, .unset, .unset, .unset, .unset] [(.int (-35316223 : Int32))])) _
    refine XS.iconst X619.here hx rfl (hb hby d8_67) ?_
    show Steps p.tables e below (T619.setTop (mkF m 68 #[.val (.ref cn), .val (.int (2 : Int32)), .val (.int (2 : Int32)), .val (.int (3 : Int32)), .val .null, .val (.int (2 : Int32)), .val (.int (3 : Int32)), .unset, .unset, .unset, .unset, .unset] [(.int (1 : Int32)), (.int (-35316223 : Int32))])) _
    refine XS.iushr X619.here hx rfl (hb hby d8_68) rfl ?_
    show Steps p.tables e below (T619.setTop (mkF m 69 #[.val (.ref cn), .val (.int (2 : Int32)), .val (.int (2 : Int32)), .val (.int (3 : Int32)), .val .null, .val (.int (2 : Int32)), .val (.int (3 : Int32)), .unset, .unset, .unset, .unset, .unset] [(.int (2129825536 : Int32))])) _
    refine XS.aloadN X619.here hx rfl (hb hby d8_69) rfl rfl ?_
    show Steps p.tables e below (T619.setTop (mkF m 70 #[.val (.ref cn), .val (.int (2 : Int32)), .val (.int (2 : Int32)), .val (.int (3 : Int32)), .val .null, .val (.int (2 : Int32)), .val (.int (3 : Int32)), .unset, .unset, .unset, .unset, .unset] [(.ref cn), (.int (2129825536 : Int32))])) _
    refine st620 _ ?_
    show Steps p.tables e below (T620.setTop (mkF m 73 #[.val (.ref cn), .val (.int (2 : Int32)), .val (.int (2 : Int32)), .val (.int (3 : Int32)), .val .null, .val (.int (2 : Int32)), .val (.int (3 : Int32)), .unset, .unset, .unset, .unset, .unset] [(.ref ca), (.int (2129825536 : Int32))])) _
    refine X620.arraylength hx (by rw [e620]; exact Ar621.1) (State.isArrayOf_alike hZ.alike Ar621.2.1) (g := (mkF m 73 #[.val (.ref cn), .val (.int (2 : Int32)), .val (.int (2 : Int32)), .val (.int (3 : Int32)), .val .null, .val (.int (2 : Int32)), .val (.int (3 : Int32)), .unset, .unset, .unset, .unset, .unset] [(.ref ca), (.int (2129825536 : Int32))])) rfl rfl (hb hby d8_73) _ ?_
    rw [show cl621.slots.size.toInt32 = (16384 : Int32) from by rw [Sz621]; decide]
    show Steps p.tables e below (T620.setTop (mkF m 74 #[.val (.ref cn), .val (.int (2 : Int32)), .val (.int (2 : Int32)), .val (.int (3 : Int32)), .val .null, .val (.int (2 : Int32)), .val (.int (3 : Int32)), .unset, .unset, .unset, .unset, .unset] [(.int (16384 : Int32)), (.int (2129825536 : Int32))])) _
    refine XS.iconst X620.here hx rfl (hb hby d8_74) ?_
    show Steps p.tables e below (T620.setTop (mkF m 75 #[.val (.ref cn), .val (.int (2 : Int32)), .val (.int (2 : Int32)), .val (.int (3 : Int32)), .val .null, .val (.int (2 : Int32)), .val (.int (3 : Int32)), .unset, .unset, .unset, .unset, .unset] [(.int (4 : Int32)), (.int (16384 : Int32)), (.int (2129825536 : Int32))])) _
    refine XS.idiv X620.here hx rfl (hb hby d8_75) rfl (by decide) ?_
    show Steps p.tables e below (T620.setTop (mkF m 76 #[.val (.ref cn), .val (.int (2 : Int32)), .val (.int (2 : Int32)), .val (.int (3 : Int32)), .val .null, .val (.int (2 : Int32)), .val (.int (3 : Int32)), .unset, .unset, .unset, .unset, .unset] [(.int (4096 : Int32)), (.int (2129825536 : Int32))])) _
    refine XS.iconst X620.here hx rfl (hb hby d8_76) ?_
    show Steps p.tables e below (T620.setTop (mkF m 77 #[.val (.ref cn), .val (.int (2 : Int32)), .val (.int (2 : Int32)), .val (.int (3 : Int32)), .val .null, .val (.int (2 : Int32)), .val (.int (3 : Int32)), .unset, .unset, .unset, .unset, .unset] [(.int (1 : Int32)), (.int (4096 : Int32)), (.int (2129825536 : Int32))])) _
    refine XS.isub X620.here hx rfl (hb hby d8_77) rfl ?_
    show Steps p.tables e below (T620.setTop (mkF m 78 #[.val (.ref cn), .val (.int (2 : Int32)), .val (.int (2 : Int32)), .val (.int (3 : Int32)), .val .null, .val (.int (2 : Int32)), .val (.int (3 : Int32)), .unset, .unset, .unset, .unset, .unset] [(.int (4095 : Int32)), (.int (2129825536 : Int32))])) _
    refine XS.iand X620.here hx rfl (hb hby d8_78) rfl ?_
    show Steps p.tables e below (T620.setTop (mkF m 79 #[.val (.ref cn), .val (.int (2 : Int32)), .val (.int (2 : Int32)), .val (.int (3 : Int32)), .val .null, .val (.int (2 : Int32)), .val (.int (3 : Int32)), .unset, .unset, .unset, .unset, .unset] [(.int (3840 : Int32))])) _
    refine XS.istore X620.here hx rfl (hb hby d8_79) rfl (l' := #[.val (.ref cn), .val (.int (2 : Int32)), .val (.int (2 : Int32)), .val (.int (3 : Int32)), .val .null, .val (.int (2 : Int32)), .val (.int (3 : Int32)), .val (.int (3840 : Int32)), .unset, .unset, .unset, .unset]) rfl ?_
    show Steps p.tables e below (T620.setTop (mkF m 81 #[.val (.ref cn), .val (.int (2 : Int32)), .val (.int (2 : Int32)), .val (.int (3 : Int32)), .val .null, .val (.int (2 : Int32)), .val (.int (3 : Int32)), .val (.int (3840 : Int32)), .unset, .unset, .unset, .unset] [])) _
    refine XS.aloadN X620.here hx rfl (hb hby d8_81) rfl rfl ?_
    show Steps p.tables e below (T620.setTop (mkF m 82 #[.val (.ref cn), .val (.int (2 : Int32)), .val (.int (2 : Int32)), .val (.int (3 : Int32)), .val .null, .val (.int (2 : Int32)), .val (.int (3 : Int32)), .val (.int (3840 : Int32)), .unset, .unset, .unset, .unset] [(.ref cn)])) _
    refine st622 _ ?_
    show Steps p.tables e below (T622.setTop (mkF m 85 #[.val (.ref cn), .val (.int (2 : Int32)), .val (.int (2 : Int32)), .val (.int (3 : Int32)), .val .null, .val (.int (2 : Int32)), .val (.int (3 : Int32)), .val (.int (3840 : Int32)), .unset, .unset, .unset, .unset] [(.ref ca)])) _
    refine XS.iconst X622.here hx rfl (hb hby d8_85) ?_
    show Steps p.tables e below (T622.setTop (mkF m 86 #[.val (.ref cn), .val (.int (2 : Int32)), .val (.int (2 : Int32)), .val (.int (3 : Int32)), .val .null, .val (.int (2 : Int32)), .val (.int (3 : Int32)), .val (.int (3840 : Int32)), .unset, .unset, .unset, .unset] [(.int (4 : Int32)), (.ref ca)])) _
    refine XS.iload X622.here hx rfl (hb hby d8_86) rfl ?_
    show Steps p.tables e below (T622.setTop (mkF m 88 #[.val (.ref cn), .val (.int (2 : Int32)), .val (.int (2 : Int32)), .val (.int (3 : Int32)), .val .null, .val (.int (2 : Int32)), .val (.int (3 : Int32)), .val (.int (3840 : Int32)), .unset, .unset, .unset, .unset] [(.int (3840 : Int32)), (.int (4 : Int32)), (.ref ca)])) _
    refine XS.imul X622.here hx rfl (hb hby d8_88) rfl ?_
    show Steps p.tables e below (T622.setTop (mkF m 89 #[.val (.ref cn), .val (.int (2 : Int32)), .val (.int (2 : Int32)), .val (.int (3 : Int32)), .val .null, .val (.int (2 : Int32)), .val (.int (3 : Int32)), .val (.int (3840 : Int32)), .unset, .unset, .unset, .unset] [(.int (15360 : Int32)), (.ref ca)])) _
    refine X622.iaload hx (j := (15360 : Int32)) (v := (.int (-1 : Int32))) (by rw [e622]; exact Ar623.1) (State.isArrayOf_alike hZ.alike Ar623.2.1) Ar623.2.2 hin623 hat623 (g := (mkF m 89 #[.val (.ref cn), .val (.int (2 : Int32)), .val (.int (2 : Int32)), .val (.int (3 : Int32)), .val .null, .val (.int (2 : Int32)), .val (.int (3 : Int32)), .val (.int (3840 : Int32)), .unset, .unset, .unset, .unset] [(.int (15360 : Int32)), (.ref ca)])) rfl rfl (hb hby d8_89) _ ?_
    show Steps p.tables e below (T622.setTop (mkF m 90 #[.val (.ref cn), .val (.int (2 : Int32)), .val (.int (2 : Int32)), .val (.int (3 : Int32)), .val .null, .val (.int (2 : Int32)), .val (.int (3 : Int32)), .val (.int (3840 : Int32)), .unset, .unset, .unset, .unset] [(.int (-1 : Int32))])) _
    refine XS.iloadN X622.here hx rfl (hb hby d8_90) rfl ?_
    show Steps p.tables e below (T622.setTop (mkF m 91 #[.val (.ref cn), .val (.int (2 : Int32)), .val (.int (2 : Int32)), .val (.int (3 : Int32)), .val .null, .val (.int (2 : Int32)), .val (.int (3 : Int32)), .val (.int (3840 : Int32)), .unset, .unset, .unset, .unset] [(.int (2 : Int32)), (.int (-1 : Int32))])) _
    refine XS.icmpYes X622.here hx rfl (pc0 := 91) (pc' := 138) rfl (hb hby d8_91) rfl (feq (by decide)).2 (by decide) (by decide) ?_
    show Steps p.tables e below (T622.setTop (mkF m 138 #[.val (.ref cn), .val (.int (2 : Int32)), .val (.int (2 : Int32)), .val (.int (3 : Int32)), .val .null, .val (.int (2 : Int32)), .val (.int (3 : Int32)), .val (.int (3840 : Int32)), .unset, .unset, .unset, .unset] [])) _
    refine XS.aloadN X622.here hx rfl (hb hby d8_138) rfl rfl ?_
    show Steps p.tables e below (T622.setTop (mkF m 139 #[.val (.ref cn), .val (.int (2 : Int32)), .val (.int (2 : Int32)), .val (.int (3 : Int32)), .val .null, .val (.int (2 : Int32)), .val (.int (3 : Int32)), .val (.int (3840 : Int32)), .unset, .unset, .unset, .unset] [(.ref cn)])) _
    refine st624 _ ?_
    show Steps p.tables e below (T624.setTop (mkF m 142 #[.val (.ref cn), .val (.int (2 : Int32)), .val (.int (2 : Int32)), .val (.int (3 : Int32)), .val .null, .val (.int (2 : Int32)), .val (.int (3 : Int32)), .val (.int (3840 : Int32)), .unset, .unset, .unset, .unset] [(.ref vs)])) _
    refine XS.iload X624.here hx rfl (hb hby d8_142) rfl ?_
    show Steps p.tables e below (T624.setTop (mkF m 144 #[.val (.ref cn), .val (.int (2 : Int32)), .val (.int (2 : Int32)), .val (.int (3 : Int32)), .val .null, .val (.int (2 : Int32)), .val (.int (3 : Int32)), .val (.int (3840 : Int32)), .unset, .unset, .unset, .unset] [(.int (2 : Int32)), (.ref vs)])) _
    refine X624.iaload hx (j := (2 : Int32)) (v := (.int (0 : Int32))) (by rw [e624]; exact Ar625.1) (State.isArrayOf_alike hZ.alike Ar625.2.1) Ar625.2.2 hin625 hat625 (g := (mkF m 144 #[.val (.ref cn), .val (.int (2 : Int32)), .val (.int (2 : Int32)), .val (.int (3 : Int32)), .val .null, .val (.int (2 : Int32)), .val (.int (3 : Int32)), .val (.int (3840 : Int32)), .unset, .unset, .unset, .unset] [(.int (2 : Int32)), (.ref vs)])) rfl rfl (hb hby d8_144) _ ?_
    show Steps p.tables e below (T624.setTop (mkF m 145 #[.val (.ref cn), .val (.int (2 : Int32)), .val (.int (2 : Int32)), .val (.int (3 : Int32)), .val .null, .val (.int (2 : Int32)), .val (.int (3 : Int32)), .val (.int (3840 : Int32)), .unset, .unset, .unset, .unset] [(.int (0 : Int32))])) _
    refine XS.aloadN X624.here hx rfl (hb hby d8_145) rfl rfl ?_
    show Steps p.tables e below (T624.setTop (mkF m 146 #[.val (.ref cn), .val (.int (2 : Int32)), .val (.int (2 : Int32)), .val (.int (3 : Int32)), .val .null, .val (.int (2 : Int32)), .val (.int (3 : Int32)), .val (.int (3840 : Int32)), .unset, .unset, .unset, .unset] [(.ref cn), (.int (0 : Int32))])) _
    refine st626 _ ?_
    show Steps p.tables e below (T626.setTop (mkF m 149 #[.val (.ref cn), .val (.int (2 : Int32)), .val (.int (2 : Int32)), .val (.int (3 : Int32)), .val .null, .val (.int (2 : Int32)), .val (.int (3 : Int32)), .val (.int (3840 : Int32)), .unset, .unset, .unset, .unset] [(.ref vs), (.int (0 : Int32))])) _
    refine XS.iload X626.here hx rfl (hb hby d8_149) rfl ?_
    show Steps p.tables e below (T626.setTop (mkF m 151 #[.val (.ref cn), .val (.int (2 : Int32)), .val (.int (2 : Int32)), .val (.int (3 : Int32)), .val .null, .val (.int (2 : Int32)), .val (.int (3 : Int32)), .val (.int (3840 : Int32)), .unset, .unset, .unset, .unset] [(.int (3 : Int32)), (.ref vs), (.int (0 : Int32))])) _
    refine X626.iaload hx (j := (3 : Int32)) (v := (.int (0 : Int32))) (by rw [e626]; exact Ar627.1) (State.isArrayOf_alike hZ.alike Ar627.2.1) Ar627.2.2 hin627 hat627 (g := (mkF m 151 #[.val (.ref cn), .val (.int (2 : Int32)), .val (.int (2 : Int32)), .val (.int (3 : Int32)), .val .null, .val (.int (2 : Int32)), .val (.int (3 : Int32)), .val (.int (3840 : Int32)), .unset, .unset, .unset, .unset] [(.int (3 : Int32)), (.ref vs), (.int (0 : Int32))])) rfl rfl (hb hby d8_151) _ ?_
    show Steps p.tables e below (T626.setTop (mkF m 152 #[.val (.ref cn), .val (.int (2 : Int32)), .val (.int (2 : Int32)), .val (.int (3 : Int32)), .val .null, .val (.int (2 : Int32)), .val (.int (3 : Int32)), .val (.int (3840 : Int32)), .unset, .unset, .unset, .unset] [(.int (0 : Int32)), (.int (0 : Int32))])) _
    refine st628 _ ?_
    show Steps p.tables e below (T628.setTop (mkF m 155 #[.val (.ref cn), .val (.int (2 : Int32)), .val (.int (2 : Int32)), .val (.int (3 : Int32)), .val .null, .val (.int (2 : Int32)), .val (.int (3 : Int32)), .val (.int (3840 : Int32)), .unset, .unset, .unset, .unset] [(.int (0 : Int32))])) _
    refine XS.istore X628.here hx rfl (hb hby d8_155) rfl (l' := #[.val (.ref cn), .val (.int (2 : Int32)), .val (.int (2 : Int32)), .val (.int (3 : Int32)), .val .null, .val (.int (2 : Int32)), .val (.int (3 : Int32)), .val (.int (3840 : Int32)), .val (.int (0 : Int32)), .unset, .unset, .unset]) rfl ?_
    show Steps p.tables e below (T628.setTop (mkF m 157 #[.val (.ref cn), .val (.int (2 : Int32)), .val (.int (2 : Int32)), .val (.int (3 : Int32)), .val .null, .val (.int (2 : Int32)), .val (.int (3 : Int32)), .val (.int (3840 : Int32)), .val (.int (0 : Int32)), .unset, .unset, .unset] [])) _
    refine XS.aloadN X628.here hx rfl (hb hby d8_157) rfl rfl ?_
    show Steps p.tables e below (T628.setTop (mkF m 158 #[.val (.ref cn), .val (.int (2 : Int32)), .val (.int (2 : Int32)), .val (.int (3 : Int32)), .val .null, .val (.int (2 : Int32)), .val (.int (3 : Int32)), .val (.int (3840 : Int32)), .val (.int (0 : Int32)), .unset, .unset, .unset] [(.ref cn)])) _
    refine XS.iloadN X628.here hx rfl (hb hby d8_158) rfl ?_
    show Steps p.tables e below (T628.setTop (mkF m 159 #[.val (.ref cn), .val (.int (2 : Int32)), .val (.int (2 : Int32)), .val (.int (3 : Int32)), .val .null, .val (.int (2 : Int32)), .val (.int (3 : Int32)), .val (.int (3840 : Int32)), .val (.int (0 : Int32)), .unset, .unset, .unset] [(.int (2 : Int32)), (.ref cn)])) _
    refine XS.aloadN X628.here hx rfl (hb hby d8_159) rfl rfl ?_
    show Steps p.tables e below (T628.setTop (mkF m 160 #[.val (.ref cn), .val (.int (2 : Int32)), .val (.int (2 : Int32)), .val (.int (3 : Int32)), .val .null, .val (.int (2 : Int32)), .val (.int (3 : Int32)), .val (.int (3840 : Int32)), .val (.int (0 : Int32)), .unset, .unset, .unset] [(.ref cn), (.int (2 : Int32)), (.ref cn)])) _
    refine XS.iload X628.here hx rfl (hb hby d8_160) rfl ?_
    show Steps p.tables e below (T628.setTop (mkF m 162 #[.val (.ref cn), .val (.int (2 : Int32)), .val (.int (2 : Int32)), .val (.int (3 : Int32)), .val .null, .val (.int (2 : Int32)), .val (.int (3 : Int32)), .val (.int (3840 : Int32)), .val (.int (0 : Int32)), .unset, .unset, .unset] [(.int (2 : Int32)), (.ref cn), (.int (2 : Int32)), (.ref cn)])) _
    refine XS.iload X628.here hx rfl (hb hby d8_162) rfl ?_
    show Steps p.tables e below (T628.setTop (mkF m 164 #[.val (.ref cn), .val (.int (2 : Int32)), .val (.int (2 : Int32)), .val (.int (3 : Int32)), .val .null, .val (.int (2 : Int32)), .val (.int (3 : Int32)), .val (.int (3840 : Int32)), .val (.int (0 : Int32)), .unset, .unset, .unset] [(.int (0 : Int32)), (.int (2 : Int32)), (.ref cn), (.int (2 : Int32)), (.ref cn)])) _
    refine XS.iconst X628.here hx rfl (hb hby d8_164) ?_
    show Steps p.tables e below (T628.setTop (mkF m 165 #[.val (.ref cn), .val (.int (2 : Int32)), .val (.int (2 : Int32)), .val (.int (3 : Int32)), .val .null, .val (.int (2 : Int32)), .val (.int (3 : Int32)), .val (.int (3840 : Int32)), .val (.int (0 : Int32)), .unset, .unset, .unset] [(.int (0 : Int32)), (.int (0 : Int32)), (.int (2 : Int32)), (.ref cn), (.int (2 : Int32)), (.ref cn)])) _
    refine st629.trans ?_
    show Steps p.tables e below (T629.setTop (mkF m 168 #[.val (.ref cn), .val (.int (2 : Int32)), .val (.int (2 : Int32)), .val (.int (3 : Int32)), .val .null, .val (.int (2 : Int32)), .val (.int (3 : Int32)), .val (.int (3840 : Int32)), .val (.int (0 : Int32)), .unset, .unset, .unset] [(.int (0 : Int32)), (.int (2 : Int32)), (.ref cn)])) _
    refine XS.aloadN X629.here hx rfl (hb hby d8_168) rfl rfl ?_
    show Steps p.tables e below (T629.setTop (mkF m 169 #[.val (.ref cn), .val (.int (2 : Int32)), .val (.int (2 : Int32)), .val (.int (3 : Int32)), .val .null, .val (.int (2 : Int32)), .val (.int (3 : Int32)), .val (.int (3840 : Int32)), .val (.int (0 : Int32)), .unset, .unset, .unset] [(.ref cn), (.int (0 : Int32)), (.int (2 : Int32)), (.ref cn)])) _
    refine XS.iload X629.here hx rfl (hb hby d8_169) rfl ?_
    show Steps p.tables e below (T629.setTop (mkF m 171 #[.val (.ref cn), .val (.int (2 : Int32)), .val (.int (2 : Int32)), .val (.int (3 : Int32)), .val .null, .val (.int (2 : Int32)), .val (.int (3 : Int32)), .val (.int (3840 : Int32)), .val (.int (0 : Int32)), .unset, .unset, .unset] [(.int (3 : Int32)), (.ref cn), (.int (0 : Int32)), (.int (2 : Int32)), (.ref cn)])) _
    refine XS.iload X629.here hx rfl (hb hby d8_171) rfl ?_
    show Steps p.tables e below (T629.setTop (mkF m 173 #[.val (.ref cn), .val (.int (2 : Int32)), .val (.int (2 : Int32)), .val (.int (3 : Int32)), .val .null, .val (.int (2 : Int32)), .val (.int (3 : Int32)), .val (.int (3840 : Int32)), .val (.int (0 : Int32)), .unset, .unset, .unset] [(.int (0 : Int32)), (.int (3 : Int32)), (.ref cn), (.int (0 : Int32)), (.int (2 : Int32)), (.ref cn)])) _
    refine XS.iconst X629.here hx rfl (hb hby d8_173) ?_
    show Steps p.tables e below (T629.setTop (mkF m 174 #[.val (.ref cn), .val (.int (2 : Int32)), .val (.int (2 : Int32)), .val (.int (3 : Int32)), .val .null, .val (.int (2 : Int32)), .val (.int (3 : Int32)), .val (.int (3840 : Int32)), .val (.int (0 : Int32)), .unset, .unset, .unset] [(.int (0 : Int32)), (.int (0 : Int32)), (.int (3 : Int32)), (.ref cn), (.int (0 : Int32)), (.int (2 : Int32)), (.ref cn)])) _
    refine st630.trans ?_
    show Steps p.tables e below (T630.setTop (mkF m 177 #[.val (.ref cn), .val (.int (2 : Int32)), .val (.int (2 : Int32)), .val (.int (3 : Int32)), .val .null, .val (.int (2 : Int32)), .val (.int (3 : Int32)), .val (.int (3840 : Int32)), .val (.int (0 : Int32)), .unset, .unset, .unset] [(.int (1 : Int32)), (.int (0 : Int32)), (.int (2 : Int32)), (.ref cn)])) _
    refine st631.trans ?_
    show Steps p.tables e below (T631.setTop (mkF m 180 #[.val (.ref cn), .val (.int (2 : Int32)), .val (.int (2 : Int32)), .val (.int (3 : Int32)), .val .null, .val (.int (2 : Int32)), .val (.int (3 : Int32)), .val (.int (3840 : Int32)), .val (.int (0 : Int32)), .unset, .unset, .unset] [(.int (1 : Int32))])) _
    refine XS.istore X631.here hx rfl (hb hby d8_180) rfl (l' := #[.val (.ref cn), .val (.int (2 : Int32)), .val (.int (2 : Int32)), .val (.int (3 : Int32)), .val .null, .val (.int (2 : Int32)), .val (.int (3 : Int32)), .val (.int (3840 : Int32)), .val (.int (0 : Int32)), .val (.int (1 : Int32)), .unset, .unset]) rfl ?_
    show Steps p.tables e below (T631.setTop (mkF m 182 #[.val (.ref cn), .val (.int (2 : Int32)), .val (.int (2 : Int32)), .val (.int (3 : Int32)), .val .null, .val (.int (2 : Int32)), .val (.int (3 : Int32)), .val (.int (3840 : Int32)), .val (.int (0 : Int32)), .val (.int (1 : Int32)), .unset, .unset] [])) _
    refine XS.aloadN X631.here hx rfl (hb hby d8_182) rfl rfl ?_
    show Steps p.tables e below (T631.setTop (mkF m 183 #[.val (.ref cn), .val (.int (2 : Int32)), .val (.int (2 : Int32)), .val (.int (3 : Int32)), .val .null, .val (.int (2 : Int32)), .val (.int (3 : Int32)), .val (.int (3840 : Int32)), .val (.int (0 : Int32)), .val (.int (1 : Int32)), .unset, .unset] [(.ref cn)])) _
    refine XS.iloadN X631.here hx rfl (hb hby d8_183) rfl ?_
    show Steps p.tables e below (T631.setTop (mkF m 184 #[.val (.ref cn), .val (.int (2 : Int32)), .val (.int (2 : Int32)), .val (.int (3 : Int32)), .val .null, .val (.int (2 : Int32)), .val (.int (3 : Int32)), .val (.int (3840 : Int32)), .val (.int (0 : Int32)), .val (.int (1 : Int32)), .unset, .unset] [(.int (2 : Int32)), (.ref cn)])) _
    refine XS.aloadN X631.here hx rfl (hb hby d8_184) rfl rfl ?_
    show Steps p.tables e below (T631.setTop (mkF m 185 #[.val (.ref cn), .val (.int (2 : Int32)), .val (.int (2 : Int32)), .val (.int (3 : Int32)), .val .null, .val (.int (2 : Int32)), .val (.int (3 : Int32)), .val (.int (3840 : Int32)), .val (.int (0 : Int32)), .val (.int (1 : Int32)), .unset, .unset] [(.ref cn), (.int (2 : Int32)), (.ref cn)])) _
    refine XS.iload X631.here hx rfl (hb hby d8_185) rfl ?_
    show Steps p.tables e below (T631.setTop (mkF m 187 #[.val (.ref cn), .val (.int (2 : Int32)), .val (.int (2 : Int32)), .val (.int (3 : Int32)), .val .null, .val (.int (2 : Int32)), .val (.int (3 : Int32)), .val (.int (3840 : Int32)), .val (.int (0 : Int32)), .val (.int (1 : Int32)), .unset, .unset] [(.int (2 : Int32)), (.ref cn), (.int (2 : Int32)), (.ref cn)])) _
    refine XS.iload X631.here hx rfl (hb hby d8_187) rfl ?_
    show Steps p.tables e below (T631.setTop (mkF m 189 #[.val (.ref cn), .val (.int (2 : Int32)), .val (.int (2 : Int32)), .val (.int (3 : Int32)), .val .null, .val (.int (2 : Int32)), .val (.int (3 : Int32)), .val (.int (3840 : Int32)), .val (.int (0 : Int32)), .val (.int (1 : Int32)), .unset, .unset] [(.int (0 : Int32)), (.int (2 : Int32)), (.ref cn), (.int (2 : Int32)), (.ref cn)])) _
    refine XS.iconst X631.here hx rfl (hb hby d8_189) ?_
    show Steps p.tables e below (T631.setTop (mkF m 190 #[.val (.ref cn), .val (.int (2 : Int32)), .val (.int (2 : Int32)), .val (.int (3 : Int32)), .val .null, .val (.int (2 : Int32)), .val (.int (3 : Int32)), .val (.int (3840 : Int32)), .val (.int (0 : Int32)), .val (.int (1 : Int32)), .unset, .unset] [(.int (1 : Int32)), (.int (0 : Int32)), (.int (2 : Int32)), (.ref cn), (.int (2 : Int32)), (.ref cn)])) _
    refine st632.trans ?_
    show Steps p.tables e below (T632.setTop (mkF m 193 #[.val (.ref cn), .val (.int (2 : Int32)), .val (.int (2 : Int32)), .val (.int (3 : Int32)), .val .null, .val (.int (2 : Int32)), .val (.int (3 : Int32)), .val (.int (3840 : Int32)), .val (.int (0 : Int32)), .val (.int (1 : Int32)), .unset, .unset] [(.int (1 : Int32)), (.int (2 : Int32)), (.ref cn)])) _
    refine XS.aloadN X632.here hx rfl (hb hby d8_193) rfl rfl ?_
    show Steps p.tables e below (T632.setTop (mkF m 194 #[.val (.ref cn), .val (.int (2 : Int32)), .val (.int (2 : Int32)), .val (.int (3 : Int32)), .val .null, .val (.int (2 : Int32)), .val (.int (3 : Int32)), .val (.int (3840 : Int32)), .val (.int (0 : Int32)), .val (.int (1 : Int32)), .unset, .unset] [(.ref cn), (.int (1 : Int32)), (.int (2 : Int32)), (.ref cn)])) _
    refine XS.iload X632.here hx rfl (hb hby d8_194) rfl ?_
    show Steps p.tables e below (T632.setTop (mkF m 196 #[.val (.ref cn), .val (.int (2 : Int32)), .val (.int (2 : Int32)), .val (.int (3 : Int32)), .val .null, .val (.int (2 : Int32)), .val (.int (3 : Int32)), .val (.int (3840 : Int32)), .val (.int (0 : Int32)), .val (.int (1 : Int32)), .unset, .unset] [(.int (3 : Int32)), (.ref cn), (.int (1 : Int32)), (.int (2 : Int32)), (.ref cn)])) _
    refine XS.iload X632.here hx rfl (hb hby d8_196) rfl ?_
    show Steps p.tables e below (T632.setTop (mkF m 198 #[.val (.ref cn), .val (.int (2 : Int32)), .val (.int (2 : Int32)), .val (.int (3 : Int32)), .val .null, .val (.int (2 : Int32)), .val (.int (3 : Int32)), .val (.int (3840 : Int32)), .val (.int (0 : Int32)), .val (.int (1 : Int32)), .unset, .unset] [(.int (0 : Int32)), (.int (3 : Int32)), (.ref cn), (.int (1 : Int32)), (.int (2 : Int32)), (.ref cn)])) _
    refine XS.iconst X632.here hx rfl (hb hby d8_198) ?_
    show Steps p.tables e below (T632.setTop (mkF m 199 #[.val (.ref cn), .val (.int (2 : Int32)), .val (.int (2 : Int32)), .val (.int (3 : Int32)), .val .null, .val (.int (2 : Int32)), .val (.int (3 : Int32)), .val (.int (3840 : Int32)), .val (.int (0 : Int32)), .val (.int (1 : Int32)), .unset, .unset] [(.int (1 : Int32)), (.int (0 : Int32)), (.int (3 : Int32)), (.ref cn), (.int (1 : Int32)), (.int (2 : Int32)), (.ref cn)])) _
    refine st633.trans ?_
    show Steps p.tables e below (T633.setTop (mkF m 202 #[.val (.ref cn), .val (.int (2 : Int32)), .val (.int (2 : Int32)), .val (.int (3 : Int32)), .val .null, .val (.int (2 : Int32)), .val (.int (3 : Int32)), .val (.int (3840 : Int32)), .val (.int (0 : Int32)), .val (.int (1 : Int32)), .unset, .unset] [(.int (0 : Int32)), (.int (1 : Int32)), (.int (2 : Int32)), (.ref cn)])) _
    refine st634.trans ?_
    show Steps p.tables e below (T634.setTop (mkF m 205 #[.val (.ref cn), .val (.int (2 : Int32)), .val (.int (2 : Int32)), .val (.int (3 : Int32)), .val .null, .val (.int (2 : Int32)), .val (.int (3 : Int32)), .val (.int (3840 : Int32)), .val (.int (0 : Int32)), .val (.int (1 : Int32)), .unset, .unset] [(.int (1 : Int32))])) _
    refine XS.istore X634.here hx rfl (hb hby d8_205) rfl (l' := #[.val (.ref cn), .val (.int (2 : Int32)), .val (.int (2 : Int32)), .val (.int (3 : Int32)), .val .null, .val (.int (2 : Int32)), .val (.int (3 : Int32)), .val (.int (3840 : Int32)), .val (.int (0 : Int32)), .val (.int (1 : Int32)), .val (.int (1 : Int32)), .unset]) rfl ?_
    show Steps p.tables e below (T634.setTop (mkF m 207 #[.val (.ref cn), .val (.int (2 : Int32)), .val (.int (2 : Int32)), .val (.int (3 : Int32)), .val .null, .val (.int (2 : Int32)), .val (.int (3 : Int32)), .val (.int (3840 : Int32)), .val (.int (0 : Int32)), .val (.int (1 : Int32)), .val (.int (1 : Int32)), .unset] [])) _
    refine XS.aloadN X634.here hx rfl (hb hby d8_207) rfl rfl ?_
    show Steps p.tables e below (T634.setTop (mkF m 208 #[.val (.ref cn), .val (.int (2 : Int32)), .val (.int (2 : Int32)), .val (.int (3 : Int32)), .val .null, .val (.int (2 : Int32)), .val (.int (3 : Int32)), .val (.int (3840 : Int32)), .val (.int (0 : Int32)), .val (.int (1 : Int32)), .val (.int (1 : Int32)), .unset] [(.ref cn)])) _
    refine XS.iload X634.here hx rfl (hb hby d8_208) rfl ?_
    show Steps p.tables e below (T634.setTop (mkF m 210 #[.val (.ref cn), .val (.int (2 : Int32)), .val (.int (2 : Int32)), .val (.int (3 : Int32)), .val .null, .val (.int (2 : Int32)), .val (.int (3 : Int32)), .val (.int (3840 : Int32)), .val (.int (0 : Int32)), .val (.int (1 : Int32)), .val (.int (1 : Int32)), .unset] [(.int (0 : Int32)), (.ref cn)])) _
    refine XS.iload X634.here hx rfl (hb hby d8_210) rfl ?_
    show Steps p.tables e below (T634.setTop (mkF m 212 #[.val (.ref cn), .val (.int (2 : Int32)), .val (.int (2 : Int32)), .val (.int (3 : Int32)), .val .null, .val (.int (2 : Int32)), .val (.int (3 : Int32)), .val (.int (3840 : Int32)), .val (.int (0 : Int32)), .val (.int (1 : Int32)), .val (.int (1 : Int32)), .unset] [(.int (1 : Int32)), (.int (0 : Int32)), (.ref cn)])) _
    refine XS.iload X634.here hx rfl (hb hby d8_212) rfl ?_
    show Steps p.tables e below (T634.setTop (mkF m 214 #[.val (.ref cn), .val (.int (2 : Int32)), .val (.int (2 : Int32)), .val (.int (3 : Int32)), .val .null, .val (.int (2 : Int32)), .val (.int (3 : Int32)), .val (.int (3840 : Int32)), .val (.int (0 : Int32)), .val (.int (1 : Int32)), .val (.int (1 : Int32)), .unset] [(.int (1 : Int32)), (.int (1 : Int32)), (.int (0 : Int32)), (.ref cn)])) _
    refine st635.trans ?_
    show Steps p.tables e below (T635.setTop (mkF m 217 #[.val (.ref cn), .val (.int (2 : Int32)), .val (.int (2 : Int32)), .val (.int (3 : Int32)), .val .null, .val (.int (2 : Int32)), .val (.int (3 : Int32)), .val (.int (3840 : Int32)), .val (.int (0 : Int32)), .val (.int (1 : Int32)), .val (.int (1 : Int32)), .unset] [(.int (1 : Int32))])) _
    refine XS.istore X635.here hx rfl (hb hby d8_217) rfl (l' := #[.val (.ref cn), .val (.int (2 : Int32)), .val (.int (2 : Int32)), .val (.int (3 : Int32)), .val .null, .val (.int (2 : Int32)), .val (.int (3 : Int32)), .val (.int (3840 : Int32)), .val (.int (0 : Int32)), .val (.int (1 : Int32)), .val (.int (1 : Int32)), .val (.int (1 : Int32))]) rfl ?_
    show Steps p.tables e below (T635.setTop (mkF m 219 #[.val (.ref cn), .val (.int (2 : Int32)), .val (.int (2 : Int32)), .val (.int (3 : Int32)), .val .null, .val (.int (2 : Int32)), .val (.int (3 : Int32)), .val (.int (3840 : Int32)), .val (.int (0 : Int32)), .val (.int (1 : Int32)), .val (.int (1 : Int32)), .val (.int (1 : Int32))] [])) _
    refine XS.iloadN X635.here hx rfl (hb hby d8_219) rfl ?_
    show Steps p.tables e below (T635.setTop (mkF m 220 #[.val (.ref cn), .val (.int (2 : Int32)), .val (.int (2 : Int32)), .val (.int (3 : Int32)), .val .null, .val (.int (2 : Int32)), .val (.int (3 : Int32)), .val (.int (3840 : Int32)), .val (.int (0 : Int32)), .val (.int (1 : Int32)), .val (.int (1 : Int32)), .val (.int (1 : Int32))] [(.int (2 : Int32))])) _
    refine XS.bipush X635.here hx rfl (hb hby d8_220) ?_
    show Steps p.tables e below (T635.setTop (mkF m 222 #[.val (.ref cn), .val (.int (2 : Int32)), .val (.int (2 : Int32)), .val (.int (3 : Int32)), .val .null, .val (.int (2 : Int32)), .val (.int (3 : Int32)), .val (.int (3840 : Int32)), .val (.int (0 : Int32)), .val (.int (1 : Int32)), .val (.int (1 : Int32)), .val (.int (1 : Int32))] [(.int (31 : Int32)), (.int (2 : Int32))])) _
    refine XS.imul X635.here hx rfl (hb hby d8_222) rfl ?_
    show Steps p.tables e below (T635.setTop (mkF m 223 #[.val (.ref cn), .val (.int (2 : Int32)), .val (.int (2 : Int32)), .val (.int (3 : Int32)), .val .null, .val (.int (2 : Int32)), .val (.int (3 : Int32)), .val (.int (3840 : Int32)), .val (.int (0 : Int32)), .val (.int (1 : Int32)), .val (.int (1 : Int32)), .val (.int (1 : Int32))] [(.int (62 : Int32))])) _
    refine XS.iload X635.here hx rfl (hb hby d8_223) rfl ?_
    show Steps p.tables e below (T635.setTop (mkF m 225 #[.val (.ref cn), .val (.int (2 : Int32)), .val (.int (2 : Int32)), .val (.int (3 : Int32)), .val .null, .val (.int (2 : Int32)), .val (.int (3 : Int32)), .val (.int (3840 : Int32)), .val (.int (0 : Int32)), .val (.int (1 : Int32)), .val (.int (1 : Int32)), .val (.int (1 : Int32))] [(.int (2 : Int32)), (.int (62 : Int32))])) _
    refine XS.iadd X635.here hx rfl (hb hby d8_225) rfl ?_
    show Steps p.tables e below (T635.setTop (mkF m 226 #[.val (.ref cn), .val (.int (2 : Int32)), .val (.int (2 : Int32)), .val (.int (3 : Int32)), .val .null, .val (.int (2 : Int32)), .val (.int (3 : Int32)), .val (.int (3840 : Int32)), .val (.int (0 : Int32)), .val (.int (1 : Int32)), .val (.int (1 : Int32)), .val (.int (1 : Int32))] [(.int (64 : Int32))])) _
    refine X635.ldcInt hx hown (mvT hZ (hw _ (List.mem_of_getElem? (i := 43) rfl))) (g := (mkF m 226 #[.val (.ref cn), .val (.int (2 : Int32)), .val (.int (2 : Int32)), .val (.int (3 : Int32)), .val .null, .val (.int (2 : Int32)), .val (.int (3 : Int32)), .val (.int (3840 : Int32)), .val (.int (0 : Int32)), .val (.int (1 : Int32)), .val (.int (1 : Int32)), .val (.int (1 : Int32))] [(.int (64 : Int32))])) rfl (hb hby d8_226) _ ?_
    show Steps p.tables e below (T635.setTop (mkF m 228 #[.val (.ref cn), .val (.int (2 : Int32)), .val (.int (2 : Int32)), .val (.int (3 : Int32)), .val .null, .val (.int (2 : Int32)), .val (.int (3 : Int32)), .val (.int (3840 : Int32)), .val (.int (0 : Int32)), .val (.int (1 : Int32)), .val (.int (1 : Int32)), .val (.int (1 : Int32))] [(.int (-1640531535 : Int32)), (.int (64 : Int32))])) _
    refine XS.imul X635.here hx rfl (hb hby d8_228) rfl ?_
    show Steps p.tables e below (T635.setTop (mkF m 229 #[.val (.ref cn), .val (.int (2 : Int32)), .val (.int (2 : Int32)), .val (.int (3 : Int32)), .val .null, .val (.int (2 : Int32)), .val (.int (3 : Int32)), .val (.int (3840 : Int32)), .val (.int (0 : Int32)), .val (.int (1 : Int32)), .val (.int (1 : Int32)), .val (.int (1 : Int32))] [(.int (-1914803136 : Int32))])) _
    refine XS.iload X635.here hx rfl (hb hby d8_229) rfl ?_
    show Steps p.tables e below (T635.setTop (mkF m 231 #[.val (.ref cn), .val (.int (2 : Int32)), .val (.int (2 : Int32)), .val (.int (3 : Int32)), .val .null, .val (.int (2 : Int32)), .val (.int (3 : Int32)), .val (.int (3840 : Int32)), .val (.int (0 : Int32)), .val (.int (1 : Int32)), .val (.int (1 : Int32)), .val (.int (1 : Int32))] [(.int (3 : Int32)), (.int (-1914803136 : Int32))])) _
    refine XS.iadd X635.here hx rfl (hb hby d8_231) rfl ?_
    show Steps p.tables e below (T635.setTop (mkF m 232 #[.val (.ref cn), .val (.int (2 : Int32)), .val (.int (2 : Int32)), .val (.int (3 : Int32)), .val .null, .val (.int (2 : Int32)), .val (.int (3 : Int32)), .val (.int (3840 : Int32)), .val (.int (0 : Int32)), .val (.int (1 : Int32)), .val (.int (1 : Int32)), .val (.int (1 : Int32))] [(.int (-1914803133 : Int32))])) _
    refine X635.ldcInt hx hown (mvT hZ (hw _ (List.mem_of_getElem? (i := 44) rfl))) (g := (mkF m 232 #[.val (.ref cn), .val (.int (2 : Int32)), .val (.int (2 : Int32)), .val (.int (3 : Int32)), .val .null, .val (.int (2 : Int32)), .val (.int (3 : Int32)), .val (.int (3840 : Int32)), .val (.int (0 : Int32)), .val (.int (1 : Int32)), .val (.int (1 : Int32)), .val (.int (1 : Int32))] [(.int (-1914803133 : Int32))])) rfl (hb hby d8_232) _ ?_
    show Steps p.tables e below (T635.setTop (mkF m 234 #[.val (.ref cn), .val (.int (2 : Int32)), .val (.int (2 : Int32)), .val (.int (3 : Int32)), .val .null, .val (.int (2 : Int32)), .val (.int (3 : Int32)), .val (.int (3840 : Int32)), .val (.int (0 : Int32)), .val (.int (1 : Int32)), .val (.int (1 : Int32)), .val (.int (1 : Int32))] [(.int (-2048144789 : Int32)), (.int (-1914803133 : Int32))])) _
    refine XS.imul X635.here hx rfl (hb hby d8_234) rfl ?_
    show Steps p.tables e below (T635.setTop (mkF m 235 #[.val (.ref cn), .val (.int (2 : Int32)), .val (.int (2 : Int32)), .val (.int (3 : Int32)), .val .null, .val (.int (2 : Int32)), .val (.int (3 : Int32)), .val (.int (3840 : Int32)), .val (.int (0 : Int32)), .val (.int (1 : Int32)), .val (.int (1 : Int32)), .val (.int (1 : Int32))] [(.int (-35316223 : Int32))])) _
    refine XS.iconst X635.here hx rfl (hb hby d8_235) ?_
    show Steps p.tables e below (T635.setTop (mkF m 236 #[.val (.ref cn), .val (.int (2 : Int32)), .val (.int (2 : Int32)), .val (.int (3 : Int32)), .val .null, .val (.int (2 : Int32)), .val (.int (3 : Int32)), .val (.int (3840 : Int32)), .val (.int (0 : Int32)), .val (.int (1 : Int32)), .val (.int (1 : Int32)), .val (.int (1 : Int32))] [(.int (1 : Int32)), (.int (-35316223 : Int32))])) _
    refine XS.iushr X635.here hx rfl (hb hby d8_236) rfl ?_
    show Steps p.tables e below (T635.setTop (mkF m 237 #[.val (.ref cn), .val (.int (2 : Int32)), .val (.int (2 : Int32)), .val (.int (3 : Int32)), .val .null, .val (.int (2 : Int32)), .val (.int (3 : Int32)), .val (.int (3840 : Int32)), .val (.int (0 : Int32)), .val (.int (1 : Int32)), .val (.int (1 : Int32)), .val (.int (1 : Int32))] [(.int (2129825536 : Int32))])) _
    refine XS.aloadN X635.here hx rfl (hb hby d8_237) rfl rfl ?_
    show Steps p.tables e below (T635.setTop (mkF m 238 #[.val (.ref cn), .val (.int (2 : Int32)), .val (.int (2 : Int32)), .val (.int (3 : Int32)), .val .null, .val (.int (2 : Int32)), .val (.int (3 : Int32)), .val (.int (3840 : Int32)), .val (.int (0 : Int32)), .val (.int (1 : Int32)), .val (.int (1 : Int32)), .val (.int (1 : Int32))] [(.ref cn), (.int (2129825536 : Int32))])) _
    refine st636 _ ?_
    show Steps p.tables e below (T636.setTop (mkF m 241 #[.val (.ref cn), .val (.int (2 : Int32)), .val (.int (2 : Int32)), .val (.int (3 : Int32)), .val .null, .val (.int (2 : Int32)), .val (.int (3 : Int32)), .val (.int (3840 : Int32)), .val (.int (0 : Int32)), .val (.int (1 : Int32)), .val (.int (1 : Int32)), .val (.int (1 : Int32))] [(.ref ca), (.int (2129825536 : Int32))])) _
    refine X636.arraylength hx (by rw [e636]; exact Ar637.1) (State.isArrayOf_alike hZ.alike Ar637.2.1) (g := (mkF m 241 #[.val (.ref cn), .val (.int (2 : Int32)), .val (.int (2 : Int32)), .val (.int (3 : Int32)), .val .null, .val (.int (2 : Int32)), .val (.int (3 : Int32)), .val (.int (3840 : Int32)), .val (.int (0 : Int32)), .val (.int (1 : Int32)), .val (.int (1 : Int32)), .val (.int (1 : Int32))] [(.ref ca), (.int (2129825536 : Int32))])) rfl rfl (hb hby d8_241) _ ?_
    rw [show cl637.slots.size.toInt32 = (16384 : Int32) from by rw [Sz637]; decide]
    show Steps p.tables e below (T636.setTop (mkF m 242 #[.val (.ref cn), .val (.int (2 : Int32)), .val (.int (2 : Int32)), .val (.int (3 : Int32)), .val .null, .val (.int (2 : Int32)), .val (.int (3 : Int32)), .val (.int (3840 : Int32)), .val (.int (0 : Int32)), .val (.int (1 : Int32)), .val (.int (1 : Int32)), .val (.int (1 : Int32))] [(.int (16384 : Int32)), (.int (2129825536 : Int32))])) _
    refine XS.iconst X636.here hx rfl (hb hby d8_242) ?_
    show Steps p.tables e below (T636.setTop (mkF m 243 #[.val (.ref cn), .val (.int (2 : Int32)), .val (.int (2 : Int32)), .val (.int (3 : Int32)), .val .null, .val (.int (2 : Int32)), .val (.int (3 : Int32)), .val (.int (3840 : Int32)), .val (.int (0 : Int32)), .val (.int (1 : Int32)), .val (.int (1 : Int32)), .val (.int (1 : Int32))] [(.int (4 : Int32)), (.int (16384 : Int32)), (.int (2129825536 : Int32))])) _
    refine XS.idiv X636.here hx rfl (hb hby d8_243) rfl (by decide) ?_
    show Steps p.tables e below (T636.setTop (mkF m 244 #[.val (.ref cn), .val (.int (2 : Int32)), .val (.int (2 : Int32)), .val (.int (3 : Int32)), .val .null, .val (.int (2 : Int32)), .val (.int (3 : Int32)), .val (.int (3840 : Int32)), .val (.int (0 : Int32)), .val (.int (1 : Int32)), .val (.int (1 : Int32)), .val (.int (1 : Int32))] [(.int (4096 : Int32)), (.int (2129825536 : Int32))])) _
    refine XS.iconst X636.here hx rfl (hb hby d8_244) ?_
    show Steps p.tables e below (T636.setTop (mkF m 245 #[.val (.ref cn), .val (.int (2 : Int32)), .val (.int (2 : Int32)), .val (.int (3 : Int32)), .val .null, .val (.int (2 : Int32)), .val (.int (3 : Int32)), .val (.int (3840 : Int32)), .val (.int (0 : Int32)), .val (.int (1 : Int32)), .val (.int (1 : Int32)), .val (.int (1 : Int32))] [(.int (1 : Int32)), (.int (4096 : Int32)), (.int (2129825536 : Int32))])) _
    refine XS.isub X636.here hx rfl (hb hby d8_245) rfl ?_
    show Steps p.tables e below (T636.setTop (mkF m 246 #[.val (.ref cn), .val (.int (2 : Int32)), .val (.int (2 : Int32)), .val (.int (3 : Int32)), .val .null, .val (.int (2 : Int32)), .val (.int (3 : Int32)), .val (.int (3840 : Int32)), .val (.int (0 : Int32)), .val (.int (1 : Int32)), .val (.int (1 : Int32)), .val (.int (1 : Int32))] [(.int (4095 : Int32)), (.int (2129825536 : Int32))])) _
    refine XS.iand X636.here hx rfl (hb hby d8_246) rfl ?_
    show Steps p.tables e below (T636.setTop (mkF m 247 #[.val (.ref cn), .val (.int (2 : Int32)), .val (.int (2 : Int32)), .val (.int (3 : Int32)), .val .null, .val (.int (2 : Int32)), .val (.int (3 : Int32)), .val (.int (3840 : Int32)), .val (.int (0 : Int32)), .val (.int (1 : Int32)), .val (.int (1 : Int32)), .val (.int (1 : Int32))] [(.int (3840 : Int32))])) _
    refine XS.istore X636.here hx rfl (hb hby d8_247) rfl (l' := #[.val (.ref cn), .val (.int (2 : Int32)), .val (.int (2 : Int32)), .val (.int (3 : Int32)), .val .null, .val (.int (2 : Int32)), .val (.int (3 : Int32)), .val (.int (3840 : Int32)), .val (.int (0 : Int32)), .val (.int (1 : Int32)), .val (.int (1 : Int32)), .val (.int (1 : Int32))]) rfl ?_
    show Steps p.tables e below (T636.setTop (mkF m 249 #[.val (.ref cn), .val (.int (2 : Int32)), .val (.int (2 : Int32)), .val (.int (3 : Int32)), .val .null, .val (.int (2 : Int32)), .val (.int (3 : Int32)), .val (.int (3840 : Int32)), .val (.int (0 : Int32)), .val (.int (1 : Int32)), .val (.int (1 : Int32)), .val (.int (1 : Int32))] [])) _
    refine XS.aloadN X636.here hx rfl (hb hby d8_249) rfl rfl ?_
    show Steps p.tables e below (T636.setTop (mkF m 250 #[.val (.ref cn), .val (.int (2 : Int32)), .val (.int (2 : Int32)), .val (.int (3 : Int32)), .val .null, .val (.int (2 : Int32)), .val (.int (3 : Int32)), .val (.int (3840 : Int32)), .val (.int (0 : Int32)), .val (.int (1 : Int32)), .val (.int (1 : Int32)), .val (.int (1 : Int32))] [(.ref cn)])) _
    refine st638 _ ?_
    show Steps p.tables e below (T638.setTop (mkF m 253 #[.val (.ref cn), .val (.int (2 : Int32)), .val (.int (2 : Int32)), .val (.int (3 : Int32)), .val .null, .val (.int (2 : Int32)), .val (.int (3 : Int32)), .val (.int (3840 : Int32)), .val (.int (0 : Int32)), .val (.int (1 : Int32)), .val (.int (1 : Int32)), .val (.int (1 : Int32))] [(.ref ca)])) _
    refine XS.iconst X638.here hx rfl (hb hby d8_253) ?_
    show Steps p.tables e below (T638.setTop (mkF m 254 #[.val (.ref cn), .val (.int (2 : Int32)), .val (.int (2 : Int32)), .val (.int (3 : Int32)), .val .null, .val (.int (2 : Int32)), .val (.int (3 : Int32)), .val (.int (3840 : Int32)), .val (.int (0 : Int32)), .val (.int (1 : Int32)), .val (.int (1 : Int32)), .val (.int (1 : Int32))] [(.int (4 : Int32)), (.ref ca)])) _
    refine XS.iload X638.here hx rfl (hb hby d8_254) rfl ?_
    show Steps p.tables e below (T638.setTop (mkF m 256 #[.val (.ref cn), .val (.int (2 : Int32)), .val (.int (2 : Int32)), .val (.int (3 : Int32)), .val .null, .val (.int (2 : Int32)), .val (.int (3 : Int32)), .val (.int (3840 : Int32)), .val (.int (0 : Int32)), .val (.int (1 : Int32)), .val (.int (1 : Int32)), .val (.int (1 : Int32))] [(.int (3840 : Int32)), (.int (4 : Int32)), (.ref ca)])) _
    refine XS.imul X638.here hx rfl (hb hby d8_256) rfl ?_
    show Steps p.tables e below (T638.setTop (mkF m 257 #[.val (.ref cn), .val (.int (2 : Int32)), .val (.int (2 : Int32)), .val (.int (3 : Int32)), .val .null, .val (.int (2 : Int32)), .val (.int (3 : Int32)), .val (.int (3840 : Int32)), .val (.int (0 : Int32)), .val (.int (1 : Int32)), .val (.int (1 : Int32)), .val (.int (1 : Int32))] [(.int (15360 : Int32)), (.ref ca)])) _
    refine XS.iloadN X638.here hx rfl (hb hby d8_257) rfl ?_
    show Steps p.tables e below (T638.setTop (mkF m 258 #[.val (.ref cn), .val (.int (2 : Int32)), .val (.int (2 : Int32)), .val (.int (3 : Int32)), .val .null, .val (.int (2 : Int32)), .val (.int (3 : Int32)), .val (.int (3840 : Int32)), .val (.int (0 : Int32)), .val (.int (1 : Int32)), .val (.int (1 : Int32)), .val (.int (1 : Int32))] [(.int (2 : Int32)), (.int (15360 : Int32)), (.ref ca)])) _
    refine st640 _ ?_
    show Steps p.tables e below (T640.setTop (mkF m 259 #[.val (.ref cn), .val (.int (2 : Int32)), .val (.int (2 : Int32)), .val (.int (3 : Int32)), .val .null, .val (.int (2 : Int32)), .val (.int (3 : Int32)), .val (.int (3840 : Int32)), .val (.int (0 : Int32)), .val (.int (1 : Int32)), .val (.int (1 : Int32)), .val (.int (1 : Int32))] [])) _
    refine XS.aloadN X640.here hx rfl (hb hby d8_259) rfl rfl ?_
    show Steps p.tables e below (T640.setTop (mkF m 260 #[.val (.ref cn), .val (.int (2 : Int32)), .val (.int (2 : Int32)), .val (.int (3 : Int32)), .val .null, .val (.int (2 : Int32)), .val (.int (3 : Int32)), .val (.int (3840 : Int32)), .val (.int (0 : Int32)), .val (.int (1 : Int32)), .val (.int (1 : Int32)), .val (.int (1 : Int32))] [(.ref cn)])) _
    refine st654 _ ?_
    show Steps p.tables e below (T654.setTop (mkF m 263 #[.val (.ref cn), .val (.int (2 : Int32)), .val (.int (2 : Int32)), .val (.int (3 : Int32)), .val .null, .val (.int (2 : Int32)), .val (.int (3 : Int32)), .val (.int (3840 : Int32)), .val (.int (0 : Int32)), .val (.int (1 : Int32)), .val (.int (1 : Int32)), .val (.int (1 : Int32))] [(.ref ca)])) _
    refine XS.iconst X654.here hx rfl (hb hby d8_263) ?_
    show Steps p.tables e below (T654.setTop (mkF m 264 #[.val (.ref cn), .val (.int (2 : Int32)), .val (.int (2 : Int32)), .val (.int (3 : Int32)), .val .null, .val (.int (2 : Int32)), .val (.int (3 : Int32)), .val (.int (3840 : Int32)), .val (.int (0 : Int32)), .val (.int (1 : Int32)), .val (.int (1 : Int32)), .val (.int (1 : Int32))] [(.int (4 : Int32)), (.ref ca)])) _
    refine XS.iload X654.here hx rfl (hb hby d8_264) rfl ?_
    show Steps p.tables e below (T654.setTop (mkF m 266 #[.val (.ref cn), .val (.int (2 : Int32)), .val (.int (2 : Int32)), .val (.int (3 : Int32)), .val .null, .val (.int (2 : Int32)), .val (.int (3 : Int32)), .val (.int (3840 : Int32)), .val (.int (0 : Int32)), .val (.int (1 : Int32)), .val (.int (1 : Int32)), .val (.int (1 : Int32))] [(.int (3840 : Int32)), (.int (4 : Int32)), (.ref ca)])) _
    refine XS.imul X654.here hx rfl (hb hby d8_266) rfl ?_
    show Steps p.tables e below (T654.setTop (mkF m 267 #[.val (.ref cn), .val (.int (2 : Int32)), .val (.int (2 : Int32)), .val (.int (3 : Int32)), .val .null, .val (.int (2 : Int32)), .val (.int (3 : Int32)), .val (.int (3840 : Int32)), .val (.int (0 : Int32)), .val (.int (1 : Int32)), .val (.int (1 : Int32)), .val (.int (1 : Int32))] [(.int (15360 : Int32)), (.ref ca)])) _
    refine XS.iconst X654.here hx rfl (hb hby d8_267) ?_
    show Steps p.tables e below (T654.setTop (mkF m 268 #[.val (.ref cn), .val (.int (2 : Int32)), .val (.int (2 : Int32)), .val (.int (3 : Int32)), .val .null, .val (.int (2 : Int32)), .val (.int (3 : Int32)), .val (.int (3840 : Int32)), .val (.int (0 : Int32)), .val (.int (1 : Int32)), .val (.int (1 : Int32)), .val (.int (1 : Int32))] [(.int (1 : Int32)), (.int (15360 : Int32)), (.ref ca)])) _
    refine XS.iadd X654.here hx rfl (hb hby d8_268) rfl ?_
    show Steps p.tables e below (T654.setTop (mkF m 269 #[.val (.ref cn), .val (.int (2 : Int32)), .val (.int (2 : Int32)), .val (.int (3 : Int32)), .val .null, .val (.int (2 : Int32)), .val (.int (3 : Int32)), .val (.int (3840 : Int32)), .val (.int (0 : Int32)), .val (.int (1 : Int32)), .val (.int (1 : Int32)), .val (.int (1 : Int32))] [(.int (15361 : Int32)), (.ref ca)])) _
    refine XS.iload X654.here hx rfl (hb hby d8_269) rfl ?_
    show Steps p.tables e below (T654.setTop (mkF m 271 #[.val (.ref cn), .val (.int (2 : Int32)), .val (.int (2 : Int32)), .val (.int (3 : Int32)), .val .null, .val (.int (2 : Int32)), .val (.int (3 : Int32)), .val (.int (3840 : Int32)), .val (.int (0 : Int32)), .val (.int (1 : Int32)), .val (.int (1 : Int32)), .val (.int (1 : Int32))] [(.int (2 : Int32)), (.int (15361 : Int32)), (.ref ca)])) _
    refine st656 _ ?_
    show Steps p.tables e below (T656.setTop (mkF m 272 #[.val (.ref cn), .val (.int (2 : Int32)), .val (.int (2 : Int32)), .val (.int (3 : Int32)), .val .null, .val (.int (2 : Int32)), .val (.int (3 : Int32)), .val (.int (3840 : Int32)), .val (.int (0 : Int32)), .val (.int (1 : Int32)), .val (.int (1 : Int32)), .val (.int (1 : Int32))] [])) _
    refine XS.aloadN X656.here hx rfl (hb hby d8_272) rfl rfl ?_
    show Steps p.tables e below (T656.setTop (mkF m 273 #[.val (.ref cn), .val (.int (2 : Int32)), .val (.int (2 : Int32)), .val (.int (3 : Int32)), .val .null, .val (.int (2 : Int32)), .val (.int (3 : Int32)), .val (.int (3840 : Int32)), .val (.int (0 : Int32)), .val (.int (1 : Int32)), .val (.int (1 : Int32)), .val (.int (1 : Int32))] [(.ref cn)])) _
    refine st670 _ ?_
    show Steps p.tables e below (T670.setTop (mkF m 276 #[.val (.ref cn), .val (.int (2 : Int32)), .val (.int (2 : Int32)), .val (.int (3 : Int32)), .val .null, .val (.int (2 : Int32)), .val (.int (3 : Int32)), .val (.int (3840 : Int32)), .val (.int (0 : Int32)), .val (.int (1 : Int32)), .val (.int (1 : Int32)), .val (.int (1 : Int32))] [(.ref ca)])) _
    refine XS.iconst X670.here hx rfl (hb hby d8_276) ?_
    show Steps p.tables e below (T670.setTop (mkF m 277 #[.val (.ref cn), .val (.int (2 : Int32)), .val (.int (2 : Int32)), .val (.int (3 : Int32)), .val .null, .val (.int (2 : Int32)), .val (.int (3 : Int32)), .val (.int (3840 : Int32)), .val (.int (0 : Int32)), .val (.int (1 : Int32)), .val (.int (1 : Int32)), .val (.int (1 : Int32))] [(.int (4 : Int32)), (.ref ca)])) _
    refine XS.iload X670.here hx rfl (hb hby d8_277) rfl ?_
    show Steps p.tables e below (T670.setTop (mkF m 279 #[.val (.ref cn), .val (.int (2 : Int32)), .val (.int (2 : Int32)), .val (.int (3 : Int32)), .val .null, .val (.int (2 : Int32)), .val (.int (3 : Int32)), .val (.int (3840 : Int32)), .val (.int (0 : Int32)), .val (.int (1 : Int32)), .val (.int (1 : Int32)), .val (.int (1 : Int32))] [(.int (3840 : Int32)), (.int (4 : Int32)), (.ref ca)])) _
    refine XS.imul X670.here hx rfl (hb hby d8_279) rfl ?_
    show Steps p.tables e below (T670.setTop (mkF m 280 #[.val (.ref cn), .val (.int (2 : Int32)), .val (.int (2 : Int32)), .val (.int (3 : Int32)), .val .null, .val (.int (2 : Int32)), .val (.int (3 : Int32)), .val (.int (3840 : Int32)), .val (.int (0 : Int32)), .val (.int (1 : Int32)), .val (.int (1 : Int32)), .val (.int (1 : Int32))] [(.int (15360 : Int32)), (.ref ca)])) _
    refine XS.iconst X670.here hx rfl (hb hby d8_280) ?_
    show Steps p.tables e below (T670.setTop (mkF m 281 #[.val (.ref cn), .val (.int (2 : Int32)), .val (.int (2 : Int32)), .val (.int (3 : Int32)), .val .null, .val (.int (2 : Int32)), .val (.int (3 : Int32)), .val (.int (3840 : Int32)), .val (.int (0 : Int32)), .val (.int (1 : Int32)), .val (.int (1 : Int32)), .val (.int (1 : Int32))] [(.int (2 : Int32)), (.int (15360 : Int32)), (.ref ca)])) _
    refine XS.iadd X670.here hx rfl (hb hby d8_281) rfl ?_
    show Steps p.tables e below (T670.setTop (mkF m 282 #[.val (.ref cn), .val (.int (2 : Int32)), .val (.int (2 : Int32)), .val (.int (3 : Int32)), .val .null, .val (.int (2 : Int32)), .val (.int (3 : Int32)), .val (.int (3840 : Int32)), .val (.int (0 : Int32)), .val (.int (1 : Int32)), .val (.int (1 : Int32)), .val (.int (1 : Int32))] [(.int (15362 : Int32)), (.ref ca)])) _
    refine XS.iload X670.here hx rfl (hb hby d8_282) rfl ?_
    show Steps p.tables e below (T670.setTop (mkF m 284 #[.val (.ref cn), .val (.int (2 : Int32)), .val (.int (2 : Int32)), .val (.int (3 : Int32)), .val .null, .val (.int (2 : Int32)), .val (.int (3 : Int32)), .val (.int (3840 : Int32)), .val (.int (0 : Int32)), .val (.int (1 : Int32)), .val (.int (1 : Int32)), .val (.int (1 : Int32))] [(.int (3 : Int32)), (.int (15362 : Int32)), (.ref ca)])) _
    refine st672 _ ?_
    show Steps p.tables e below (T672.setTop (mkF m 285 #[.val (.ref cn), .val (.int (2 : Int32)), .val (.int (2 : Int32)), .val (.int (3 : Int32)), .val .null, .val (.int (2 : Int32)), .val (.int (3 : Int32)), .val (.int (3840 : Int32)), .val (.int (0 : Int32)), .val (.int (1 : Int32)), .val (.int (1 : Int32)), .val (.int (1 : Int32))] [])) _
    refine XS.aloadN X672.here hx rfl (hb hby d8_285) rfl rfl ?_
    show Steps p.tables e below (T672.setTop (mkF m 286 #[.val (.ref cn), .val (.int (2 : Int32)), .val (.int (2 : Int32)), .val (.int (3 : Int32)), .val .null, .val (.int (2 : Int32)), .val (.int (3 : Int32)), .val (.int (3840 : Int32)), .val (.int (0 : Int32)), .val (.int (1 : Int32)), .val (.int (1 : Int32)), .val (.int (1 : Int32))] [(.ref cn)])) _
    refine st686 _ ?_
    show Steps p.tables e below (T686.setTop (mkF m 289 #[.val (.ref cn), .val (.int (2 : Int32)), .val (.int (2 : Int32)), .val (.int (3 : Int32)), .val .null, .val (.int (2 : Int32)), .val (.int (3 : Int32)), .val (.int (3840 : Int32)), .val (.int (0 : Int32)), .val (.int (1 : Int32)), .val (.int (1 : Int32)), .val (.int (1 : Int32))] [(.ref ca)])) _
    refine XS.iconst X686.here hx rfl (hb hby d8_289) ?_
    show Steps p.tables e below (T686.setTop (mkF m 290 #[.val (.ref cn), .val (.int (2 : Int32)), .val (.int (2 : Int32)), .val (.int (3 : Int32)), .val .null, .val (.int (2 : Int32)), .val (.int (3 : Int32)), .val (.int (3840 : Int32)), .val (.int (0 : Int32)), .val (.int (1 : Int32)), .val (.int (1 : Int32)), .val (.int (1 : Int32))] [(.int (4 : Int32)), (.ref ca)])) _
    refine XS.iload X686.here hx rfl (hb hby d8_290) rfl ?_
    show Steps p.tables e below (T686.setTop (mkF m 292 #[.val (.ref cn), .val (.int (2 : Int32)), .val (.int (2 : Int32)), .val (.int (3 : Int32)), .val .null, .val (.int (2 : Int32)), .val (.int (3 : Int32)), .val (.int (3840 : Int32)), .val (.int (0 : Int32)), .val (.int (1 : Int32)), .val (.int (1 : Int32)), .val (.int (1 : Int32))] [(.int (3840 : Int32)), (.int (4 : Int32)), (.ref ca)])) _
    refine XS.imul X686.here hx rfl (hb hby d8_292) rfl ?_
    show Steps p.tables e below (T686.setTop (mkF m 293 #[.val (.ref cn), .val (.int (2 : Int32)), .val (.int (2 : Int32)), .val (.int (3 : Int32)), .val .null, .val (.int (2 : Int32)), .val (.int (3 : Int32)), .val (.int (3840 : Int32)), .val (.int (0 : Int32)), .val (.int (1 : Int32)), .val (.int (1 : Int32)), .val (.int (1 : Int32))] [(.int (15360 : Int32)), (.ref ca)])) _
    refine XS.iconst X686.here hx rfl (hb hby d8_293) ?_
    show Steps p.tables e below (T686.setTop (mkF m 294 #[.val (.ref cn), .val (.int (2 : Int32)), .val (.int (2 : Int32)), .val (.int (3 : Int32)), .val .null, .val (.int (2 : Int32)), .val (.int (3 : Int32)), .val (.int (3840 : Int32)), .val (.int (0 : Int32)), .val (.int (1 : Int32)), .val (.int (1 : Int32)), .val (.int (1 : Int32))] [(.int (3 : Int32)), (.int (15360 : Int32)), (.ref ca)])) _
    refine XS.iadd X686.here hx rfl (hb hby d8_294) rfl ?_
    show Steps p.tables e below (T686.setTop (mkF m 295 #[.val (.ref cn), .val (.int (2 : Int32)), .val (.int (2 : Int32)), .val (.int (3 : Int32)), .val .null, .val (.int (2 : Int32)), .val (.int (3 : Int32)), .val (.int (3840 : Int32)), .val (.int (0 : Int32)), .val (.int (1 : Int32)), .val (.int (1 : Int32)), .val (.int (1 : Int32))] [(.int (15363 : Int32)), (.ref ca)])) _
    refine XS.iload X686.here hx rfl (hb hby d8_295) rfl ?_
    show Steps p.tables e below (T686.setTop (mkF m 297 #[.val (.ref cn), .val (.int (2 : Int32)), .val (.int (2 : Int32)), .val (.int (3 : Int32)), .val .null, .val (.int (2 : Int32)), .val (.int (3 : Int32)), .val (.int (3840 : Int32)), .val (.int (0 : Int32)), .val (.int (1 : Int32)), .val (.int (1 : Int32)), .val (.int (1 : Int32))] [(.int (1 : Int32)), (.int (15363 : Int32)), (.ref ca)])) _
    refine st688 _ ?_
    show Steps p.tables e below (T688.setTop (mkF m 298 #[.val (.ref cn), .val (.int (2 : Int32)), .val (.int (2 : Int32)), .val (.int (3 : Int32)), .val .null, .val (.int (2 : Int32)), .val (.int (3 : Int32)), .val (.int (3840 : Int32)), .val (.int (0 : Int32)), .val (.int (1 : Int32)), .val (.int (1 : Int32)), .val (.int (1 : Int32))] [])) _
    refine XS.iload X688.here hx rfl (hb hby d8_298) rfl ?_
    show Steps p.tables e below (T688.setTop (mkF m 300 #[.val (.ref cn), .val (.int (2 : Int32)), .val (.int (2 : Int32)), .val (.int (3 : Int32)), .val .null, .val (.int (2 : Int32)), .val (.int (3 : Int32)), .val (.int (3840 : Int32)), .val (.int (0 : Int32)), .val (.int (1 : Int32)), .val (.int (1 : Int32)), .val (.int (1 : Int32))] [(.int (1 : Int32))])) _
    exact retI X688 hx Bd.returns (hb hby d8_300) hr
  · show QC (.int (1 : Int32)) Z cn vs lo hi tb ca (4 : Int32) vc fv fl fh ft (upd (upd (upd (upd fc 15360 (2 : Int32)) 15361 (2 : Int32)) 15362 (3 : Int32)) 15363 (1 : Int32)) h0 n0 _ T688.heap _
    rw [e688]
    exact ⟨rfl, N688, K688, zE697, zF689, zF690, zF691, zF692, zF693, zF694, zF695, zF696, zA698, zA699, zA700, zA701, V688⟩
theorem d7_0 : decode prog_13_method_5_code 0 = .ok (.aload_n 0, 1) := by decide +kernel
theorem d7_1 : decode prog_13_method_5_code 1 = .ok (.iconst 3, 1) := by decide +kernel
theorem d7_2 : decode prog_13_method_5_code 2 = .ok (.iload_n 1, 1) := by decide +kernel
theorem d7_3 : decode prog_13_method_5_code 3 = .ok (.iload_n 1, 1) := by decide +kernel
theorem d7_4 : decode prog_13_method_5_code 4 = .ok (.invokevirtual 48, 3) := by decide +kernel
theorem d7_7 : decode prog_13_method_5_code 7 = .ok (.ireturn, 1) := by decide +kernel
theorem ef_7_RI (m : MethodId) (x0 : Addr) (x1 : Int32) : entryFrame m #[(.ref x0), (.int x1)] 2 = mkF m 0 #[.val (.ref x0), .val (.int x1)] [] := by first | (simp [entryFrame, mkF, argsToLocals, Value.category]; done) | rfl
set_option maxRecDepth 65536 in
set_option maxHeartbeats 40000000 in
theorem rnot (l : Launch) (Z : State) (a0 : Array Value) (hw : ∀ d ∈ tables_1, d.before a0 Z = true) (ws : List Jvm.Cond) (cn vs lo hi tb ca : Addr) (vc : Int32) (fv fl fh ft fc : Nat → Int32) (ch : Addr) (cl : Cell) (b0 b1 : Addr) (h0 : Heap) (n0 : Nat) (Z0 : n0 ≤ h0.size) (hC : CS Z h0 cn vs lo hi tb ca (3 : Int32) vc fv fl fh ft fc) (hD : DS n0 cn vs lo hi tb ca) (Od : Old Z n0 h0) (hI : IC Z ch cl b0 b1) (hv2 : fv 2 = (0 : Int32)) (hl2 : fl 2 = (0 : Int32)) (hh2 : fh 2 = (1 : Int32)) (hca : fc 6132 = (-1 : Int32)) (hslot : ft 275 = (-1 : Int32)) :
    MetFree l (⟨"com/example/sealed_paths/sealedpaths/core/Conditions", "not", "(I)I"⟩ : MethodName) (head1 (Jvm.Cond.code (⟨"com/example/sealed_paths/sealedpaths/core/Conditions", "not", "(I)I"⟩ : MethodName) prog_13_method_5_code 2 (some .int) :: ws) ({ frames := 4, cells := 0, slots := 0, locals := 73 } : Room)) (fun zA zU => zA = #[(.ref cn), (.int (2 : Int32))] ∧ Z.Warmed39 zU.vm ∧ zU.heap = h0) (fun _ _ _ _ _ => True) (fun _ zU zO zW => ∃ zV zL, zO = .returned zV ∧ QC (.int (3 : Int32)) Z cn vs lo hi tb ca (4 : Int32) vc (upd fv 3 (0 : Int32)) (upd fl 3 (1 : Int32)) (upd fh 3 (0 : Int32)) (upd ft 275 (3 : Int32)) (upd (upd (upd (upd fc 6132 (3 : Int32)) 6133 (2 : Int32)) 6134 (2 : Int32)) 6135 (3 : Int32)) h0 n0 zV zW.heap zL ∧ FrameEnd zU zO zW zL ({ frames := 4, cells := 0, slots := 0, locals := 73 } : Room).cells ({ frames := 4, cells := 0, slots := 0, locals := 73 } : Room).slots) := by
  refine MetFree.of_bodySF (plainFor_of_name pn_Conditions) hisR ?_
  intro p e s m args below meth c s₁ Bd hml0 hP hK
  obtain ⟨rfl, hZ, hh⟩ := hP
  have hx := Bd.exec
  have hby := Bd.bytes
  have hml : c.maxLocals = 2 := hml0
  have hown : s.vm.findClass "com/example/sealed_paths/sealedpaths/core/Conditions" = some m.cls := findClass_of_methodNamed Bd.named
  have hnm := (name_of_methodNamed Bd.named Bd.method).1
  have X0 : Stand p l e ({ frames := 4, cells := 0, slots := 0, locals := 73 } : Room) s m #[(.ref cn), (.int (2 : Int32))] below meth c s₁ [] 0 0 := Stand.of_body Bd
  have e0 : s₁.heap = h0 := by rw [← hh, Bd.state]; rfl
  have N0 := Fr.nil n0
  have pre0 : ∀ zt, Steps p.tables e below (s₁.setTop (mkF m 0 #[.val (.ref cn), .val (.int (2 : Int32))] [])) zt → Steps p.tables e below (s₁.setTop (entryFrame m #[(.ref cn), (.int (2 : Int32))] 2)) zt := fun zt zk => castTop (ef_7_RI m cn (2 : Int32)) zk
  have hD0 := hD
  obtain ⟨Ec, F_variables, F_lows, F_highs, F_table, F_cached, F_limit, F_size, F_vc, V_vs, V_lo, V_hi, V_tb, V_ca⟩ := hC
  obtain ⟨g_cn, g_vs, g_lo, g_hi, g_tb, g_ca, ne_cn_vs, ne_cn_lo, ne_cn_hi, ne_cn_tb, ne_cn_ca, ne_vs_lo, ne_vs_hi, ne_vs_tb, ne_vs_ca, ne_lo_hi, ne_lo_tb, ne_lo_ca, ne_hi_tb, ne_hi_ca, ne_tb_ca⟩ := hD
  obtain ⟨cq702, q702, q702'⟩ := Ec.cell
  obtain ⟨_, _, ⟨T702, L702, k702, n702⟩, -, X702, ⟨Lc702, hQ702, l702, y702, z702⟩, st702⟩ := X0.privateBack hx (y := (⟨"com/example/sealed_paths/sealedpaths/core/Conditions", "apply", "(III)I"⟩ : MethodName)) hown (mvT hZ (hw _ (List.mem_of_getElem? (i := 51) rfl))) (mvT hZ (hw _ (List.mem_of_getElem? (i := 52) rfl))) (psel (mvT hZ (hw _ (List.mem_of_getElem? (i := 1) rfl))) (mvP hZ (hw _ (List.mem_of_getElem? (i := 53) rfl))) (mvT hZ (hw _ (List.mem_of_getElem? (i := 52) rfl))) (by decide)) (Cond.privateMethod_at (mvP hZ (hw _ (List.mem_of_getElem? (i := 53) rfl)) (args := #[]))) (mvT hZ (hw _ (List.mem_of_getElem? (i := 54) rfl))) (by decide) (backOf (W := 0) (rap3 l Z a0 hw [] cn vs lo hi tb ca vc fv fl fh ft fc ch cl b0 b1 h0 n0 Z0 ⟨Ec, F_variables, F_lows, F_highs, F_table, F_cached, F_limit, F_size, F_vc, V_vs, V_lo, V_hi, V_tb, V_ca⟩ hD0 Od hI hv2 hl2 hh2 hca hslot) hZ (hw _ (List.mem_of_getElem? (i := 54) rfl)) (hw _ (List.mem_of_getElem? (i := 2) rfl)) (by decide) (by decide)) (g := (mkF m 4 #[.val (.ref cn), .val (.int (2 : Int32))] [(.int (2 : Int32)), (.int (2 : Int32)), (.int (3 : Int32)), (.ref cn)])) rfl (by rw [hml]; rfl) (Steps.refl _) (a := cn) (by rw [e0]; exact q702) q702' (argsL := [(.int (3 : Int32)), (.int (2 : Int32)), (.int (2 : Int32))]) (rest := []) (lenOf pd_5 rfl) rfl (by show 2 * 0 + _ ≤ _; exact Nat.le_of_eq rfl) (hb hby d7_4) (fun _ _ => ⟨rfl, e0, (by decide : 0 + 0 ≤ _), (by decide : 0 + 0 ≤ _)⟩)
  dsimp only [Pt.U, Pt.locs, Pt.cells, Pt.slots] at X702 l702 y702 z702 st702 hQ702
  subst l702 y702 z702
  obtain ⟨rfl, Nq702, Kq702, G702_0, G702_1, G702_2, G702_3, G702_4, G702_5, G702_6, G702_7, G702_8, G702_9, G702_10, G702_11, G702_12, G702_13⟩ := hQ702
  have N702 := Fr.app N0 Nq702
  have Z702 := Nat.le_trans Z0 Kq702.1
  have K702 := (Keep.refl h0 [cn, vs, lo, hi, tb, ca]).trans Kq702 (allS (Or.inl (List.mem_of_getElem? (i := 0) rfl)) (allS (Or.inl (List.mem_of_getElem? (i := 1) rfl)) (allS (Or.inl (List.mem_of_getElem? (i := 2) rfl)) (allS (Or.inl (List.mem_of_getElem? (i := 3) rfl)) (allS (Or.inl (List.mem_of_getElem? (i := 4) rfl)) (allS (Or.inl (List.mem_of_getElem? (i := 5) rfl)) all0))))))
  obtain ⟨fs, hr, hrun, hended, hW, hsame⟩ := X702.leave (v := some (.int (3 : Int32))) (fun h => by rw [Bd.returns] at h; cases h)
  refine ⟨_, _, pre0 _ ?_, hrun, hended, _, _, rfl, ?_, ⟨_, rfl⟩, hW, hsame.mono (by decide) (by decide)⟩
  · show Steps p.tables e below (s₁.setTop (mkF m 0 #[.val (.ref cn), .val (.int (2 : Int32))] [])) _
    refine XS.aloadN X0.here hx rfl (hb hby d7_0) rfl rfl ?_
    show Steps p.tables e below (s₁.setTop (mkF m 1 #[.val (.ref cn), .val (.int (2 : Int32))] [(.ref cn)])) _
    refine XS.iconst X0.here hx rfl (hb hby d7_1) ?_
    show Steps p.tables e below (s₁.setTop (mkF m 2 #[.val (.ref cn), .val (.int (2 : Int32))] [(.int (3 : Int32)), (.ref cn)])) _
    refine XS.iloadN X0.here hx rfl (hb hby d7_2) rfl ?_
    show Steps p.tables e below (s₁.setTop (mkF m 3 #[.val (.ref cn), .val (.int (2 : Int32))] [(.int (2 : Int32)), (.int (3 : Int32)), (.ref cn)])) _
    refine XS.iloadN X0.here hx rfl (hb hby d7_3) rfl ?_
    show Steps p.tables e below (s₁.setTop (mkF m 4 #[.val (.ref cn), .val (.int (2 : Int32))] [(.int (2 : Int32)), (.int (2 : Int32)), (.int (3 : Int32)), (.ref cn)])) _
    refine st702.trans ?_
    show Steps p.tables e below (T702.setTop (mkF m 7 #[.val (.ref cn), .val (.int (2 : Int32))] [(.int (3 : Int32))])) _
    exact retI X702 hx Bd.returns (hb hby d7_7) hr
  · show QC (.int (3 : Int32)) Z cn vs lo hi tb ca (4 : Int32) vc (upd fv 3 (0 : Int32)) (upd fl 3 (1 : Int32)) (upd fh 3 (0 : Int32)) (upd ft 275 (3 : Int32)) (upd (upd (upd (upd fc 6132 (3 : Int32)) 6133 (2 : Int32)) 6134 (2 : Int32)) 6135 (3 : Int32)) h0 n0 _ T702.heap _
    exact ⟨rfl, N702, K702, G702_0, G702_1, G702_2, G702_3, G702_4, G702_5, G702_6, G702_7, G702_8, G702_9, G702_10, G702_11, G702_12, G702_13⟩
theorem d15_0 : decode prog_13_method_3_code 0 = .ok (.aload_n 0, 1) := by decide +kernel
theorem d15_1 : decode prog_13_method_3_code 1 = .ok (.iconst 1, 1) := by decide +kernel
theorem d15_2 : decode prog_13_method_3_code 2 = .ok (.iload_n 1, 1) := by decide +kernel
theorem d15_3 : decode prog_13_method_3_code 3 = .ok (.iload_n 2, 1) := by decide +kernel
theorem d15_4 : decode prog_13_method_3_code 4 = .ok (.invokevirtual 48, 3) := by decide +kernel
theorem d15_7 : decode prog_13_method_3_code 7 = .ok (.ireturn, 1) := by decide +kernel
theorem ef_15_RII (m : MethodId) (x0 : Addr) (x1 : Int32) (x2 : Int32) : entryFrame m #[(.ref x0), (.int x1), (.int x2)] 3 = mkF m 0 #[.val (.ref x0), .val (.int x1), .val (.int x2)] [] := by first | (simp [entryFrame, mkF, argsToLocals, Value.category]; done) | rfl
set_option maxRecDepth 65536 in
set_option maxHeartbeats 40000000 in
theorem rand (l : Launch) (Z : State) (a0 : Array Value) (hw : ∀ d ∈ tables_1, d.before a0 Z = true) (ws : List Jvm.Cond) (cn vs lo hi tb ca : Addr) (vc : Int32) (fv fl fh ft fc : Nat → Int32) (ch : Addr) (cl : Cell) (b0 b1 : Addr) (h0 : Heap) (n0 : Nat) (Z0 : n0 ≤ h0.size) (hC : CS Z h0 cn vs lo hi tb ca (4 : Int32) vc fv fl fh ft fc) (hD : DS n0 cn vs lo hi tb ca) (Od : Old Z n0 h0) (hI : IC Z ch cl b0 b1) (hv2 : fv 2 = (0 : Int32)) (hl2 : fl 2 = (0 : Int32)) (hh2 : fh 2 = (1 : Int32)) (hv3 : fv 3 = (0 : Int32)) (hl3 : fl 3 = (1 : Int32)) (hh3 : fh 3 = (0 : Int32)) (hca : fc 2872 = (-1 : Int32)) :
    MetFree l (⟨"com/example/sealed_paths/sealedpaths/core/Conditions", "and", "(II)I"⟩ : MethodName) (head1 (Jvm.Cond.code (⟨"com/example/sealed_paths/sealedpaths/core/Conditions", "and", "(II)I"⟩ : MethodName) prog_13_method_3_code 3 (some .int) :: ws) ({ frames := 4, cells := 0, slots := 0, locals := 73 } : Room)) (fun zA zU => zA = #[(.ref cn), (.int (2 : Int32)), (.int (3 : Int32))] ∧ Z.Warmed39 zU.vm ∧ zU.heap = h0) (fun _ _ _ _ _ => True) (fun _ zU zO zW => ∃ zV zL, zO = .returned zV ∧ QC (.int (0 : Int32)) Z cn vs lo hi tb ca (4 : Int32) vc fv fl fh ft (upd (upd (upd (upd fc 2872 (1 : Int32)) 2873 (2 : Int32)) 2874 (3 : Int32)) 2875 (0 : Int32)) h0 n0 zV zW.heap zL ∧ FrameEnd zU zO zW zL ({ frames := 4, cells := 0, slots := 0, locals := 73 } : Room).cells ({ frames := 4, cells := 0, slots := 0, locals := 73 } : Room).slots) := by
  refine MetFree.of_bodySF (plainFor_of_name pn_Conditions) hisR ?_
  intro p e s m args below meth c s₁ Bd hml0 hP hK
  obtain ⟨rfl, hZ, hh⟩ := hP
  have hx := Bd.exec
  have hby := Bd.bytes
  have hml : c.maxLocals = 3 := hml0
  have hown : s.vm.findClass "com/example/sealed_paths/sealedpaths/core/Conditions" = some m.cls := findClass_of_methodNamed Bd.named
  have hnm := (name_of_methodNamed Bd.named Bd.method).1
  have X0 : Stand p l e ({ frames := 4, cells := 0, slots := 0, locals := 73 } : Room) s m #[(.ref cn), (.int (2 : Int32)), (.int (3 : Int32))] below meth c s₁ [] 0 0 := Stand.of_body Bd
  have e0 : s₁.heap = h0 := by rw [← hh, Bd.state]; rfl
  have N0 := Fr.nil n0
  have pre0 : ∀ zt, Steps p.tables e below (s₁.setTop (mkF m 0 #[.val (.ref cn), .val (.int (2 : Int32)), .val (.int (3 : Int32))] [])) zt → Steps p.tables e below (s₁.setTop (entryFrame m #[(.ref cn), (.int (2 : Int32)), (.int (3 : Int32))] 3)) zt := fun zt zk => castTop (ef_15_RII m cn (2 : Int32) (3 : Int32)) zk
  have hD0 := hD
  obtain ⟨Ec, F_variables, F_lows, F_highs, F_table, F_cached, F_limit, F_size, F_vc, V_vs, V_lo, V_hi, V_tb, V_ca⟩ := hC
  obtain ⟨g_cn, g_vs, g_lo, g_hi, g_tb, g_ca, ne_cn_vs, ne_cn_lo, ne_cn_hi, ne_cn_tb, ne_cn_ca, ne_vs_lo, ne_vs_hi, ne_vs_tb, ne_vs_ca, ne_lo_hi, ne_lo_tb, ne_lo_ca, ne_hi_tb, ne_hi_ca, ne_tb_ca⟩ := hD
  obtain ⟨cq703, q703, q703'⟩ := Ec.cell
  obtain ⟨_, _, ⟨T703, L703, k703, n703⟩, -, X703, ⟨Lc703, hQ703, l703, y703, z703⟩, st703⟩ := X0.privateBack hx (y := (⟨"com/example/sealed_paths/sealedpaths/core/Conditions", "apply", "(III)I"⟩ : MethodName)) hown (mvT hZ (hw _ (List.mem_of_getElem? (i := 51) rfl))) (mvT hZ (hw _ (List.mem_of_getElem? (i := 52) rfl))) (psel (mvT hZ (hw _ (List.mem_of_getElem? (i := 1) rfl))) (mvP hZ (hw _ (List.mem_of_getElem? (i := 53) rfl))) (mvT hZ (hw _ (List.mem_of_getElem? (i := 52) rfl))) (by decide)) (Cond.privateMethod_at (mvP hZ (hw _ (List.mem_of_getElem? (i := 53) rfl)) (args := #[]))) (mvT hZ (hw _ (List.mem_of_getElem? (i := 54) rfl))) (by decide) (backOf (W := 0) (rap1 l Z a0 hw [] cn vs lo hi tb ca vc fv fl fh ft fc ch cl b0 b1 h0 n0 Z0 ⟨Ec, F_variables, F_lows, F_highs, F_table, F_cached, F_limit, F_size, F_vc, V_vs, V_lo, V_hi, V_tb, V_ca⟩ hD0 Od hI hv2 hl2 hh2 hv3 hl3 hh3 hca) hZ (hw _ (List.mem_of_getElem? (i := 54) rfl)) (hw _ (List.mem_of_getElem? (i := 2) rfl)) (by decide) (by decide)) (g := (mkF m 4 #[.val (.ref cn), .val (.int (2 : Int32)), .val (.int (3 : Int32))] [(.int (3 : Int32)), (.int (2 : Int32)), (.int (1 : Int32)), (.ref cn)])) rfl (by rw [hml]; rfl) (Steps.refl _) (a := cn) (by rw [e0]; exact q703) q703' (argsL := [(.int (1 : Int32)), (.int (2 : Int32)), (.int (3 : Int32))]) (rest := []) (lenOf pd_5 rfl) rfl (by show 2 * 0 + _ ≤ _; exact Nat.le_of_eq rfl) (hb hby d15_4) (fun _ _ => ⟨rfl, e0, (by decide : 0 + 0 ≤ _), (by decide : 0 + 0 ≤ _)⟩)
  dsimp only [Pt.U, Pt.locs, Pt.cells, Pt.slots] at X703 l703 y703 z703 st703 hQ703
  subst l703 y703 z703
  obtain ⟨rfl, Nq703, Kq703, G703_0, G703_1, G703_2, G703_3, G703_4, G703_5, G703_6, G703_7, G703_8, G703_9, G703_10, G703_11, G703_12, G703_13⟩ := hQ703
  have N703 := Fr.app N0 Nq703
  have Z703 := Nat.le_trans Z0 Kq703.1
  have K703 := (Keep.refl h0 [cn, vs, lo, hi, tb, ca]).trans Kq703 (allS (Or.inl (List.mem_of_getElem? (i := 0) rfl)) (allS (Or.inl (List.mem_of_getElem? (i := 1) rfl)) (allS (Or.inl (List.mem_of_getElem? (i := 2) rfl)) (allS (Or.inl (List.mem_of_getElem? (i := 3) rfl)) (allS (Or.inl (List.mem_of_getElem? (i := 4) rfl)) (allS (Or.inl (List.mem_of_getElem? (i := 5) rfl)) all0))))))
  obtain ⟨fs, hr, hrun, hended, hW, hsame⟩ := X703.leave (v := some (.int (0 : Int32))) (fun h => by rw [Bd.returns] at h; cases h)
  refine ⟨_, _, pre0 _ ?_, hrun, hended, _, _, rfl, ?_, ⟨_, rfl⟩, hW, hsame.mono (by decide) (by decide)⟩
  · show Steps p.tables e below (s₁.setTop (mkF m 0 #[.val (.ref cn), .val (.int (2 : Int32)), .val (.int (3 : Int32))] [])) _
    refine XS.aloadN X0.here hx rfl (hb hby d15_0) rfl rfl ?_
    show Steps p.tables e below (s₁.setTop (mkF m 1 #[.val (.ref cn), .val (.int (2 : Int32)), .val (.int (3 : Int32))] [(.ref cn)])) _
    refine XS.iconst X0.here hx rfl (hb hby d15_1) ?_
    show Steps p.tables e below (s₁.setTop (mkF m 2 #[.val (.ref cn), .val (.int (2 : Int32)), .val (.int (3 : Int32))] [(.int (1 : Int32)), (.ref cn)])) _
    refine XS.iloadN X0.here hx rfl (hb hby d15_2) rfl ?_
    show Steps p.tables e below (s₁.setTop (mkF m 3 #[.val (.ref cn), .val (.int (2 : Int32)), .val (.int (3 : Int32))] [(.int (2 : Int32)), (.int (1 : Int32)), (.ref cn)])) _
    refine XS.iloadN X0.here hx rfl (hb hby d15_3) rfl ?_
    show Steps p.tables e below (s₁.setTop (mkF m 4 #[.val (.ref cn), .val (.int (2 : Int32)), .val (.int (3 : Int32))] [(.int (3 : Int32)), (.int (2 : Int32)), (.int (1 : Int32)), (.ref cn)])) _
    refine st703.trans ?_
    show Steps p.tables e below (T703.setTop (mkF m 7 #[.val (.ref cn), .val (.int (2 : Int32)), .val (.int (3 : Int32))] [(.int (0 : Int32))])) _
    exact retI X703 hx Bd.returns (hb hby d15_7) hr
  · show QC (.int (0 : Int32)) Z cn vs lo hi tb ca (4 : Int32) vc fv fl fh ft (upd (upd (upd (upd fc 2872 (1 : Int32)) 2873 (2 : Int32)) 2874 (3 : Int32)) 2875 (0 : Int32)) h0 n0 _ T703.heap _
    exact ⟨rfl, N703, K703, G703_0, G703_1, G703_2, G703_3, G703_4, G703_5, G703_6, G703_7, G703_8, G703_9, G703_10, G703_11, G703_12, G703_13⟩
theorem d17_0 : decode prog_13_method_4_code 0 = .ok (.aload_n 0, 1) := by decide +kernel
theorem d17_1 : decode prog_13_method_4_code 1 = .ok (.iconst 2, 1) := by decide +kernel
theorem d17_2 : decode prog_13_method_4_code 2 = .ok (.iload_n 1, 1) := by decide +kernel
theorem d17_3 : decode prog_13_method_4_code 3 = .ok (.iload_n 2, 1) := by decide +kernel
theorem d17_4 : decode prog_13_method_4_code 4 = .ok (.invokevirtual 48, 3) := by decide +kernel
theorem d17_7 : decode prog_13_method_4_code 7 = .ok (.ireturn, 1) := by decide +kernel
theorem ef_17_RII (m : MethodId) (x0 : Addr) (x1 : Int32) (x2 : Int32) : entryFrame m #[(.ref x0), (.int x1), (.int x2)] 3 = mkF m 0 #[.val (.ref x0), .val (.int x1), .val (.int x2)] [] := by first | (simp [entryFrame, mkF, argsToLocals, Value.category]; done) | rfl
set_option maxRecDepth 65536 in
set_option maxHeartbeats 40000000 in
theorem ror (l : Launch) (Z : State) (a0 : Array Value) (hw : ∀ d ∈ tables_1, d.before a0 Z = true) (ws : List Jvm.Cond) (cn vs lo hi tb ca : Addr) (vc : Int32) (fv fl fh ft fc : Nat → Int32) (ch : Addr) (cl : Cell) (b0 b1 : Addr) (h0 : Heap) (n0 : Nat) (Z0 : n0 ≤ h0.size) (hC : CS Z h0 cn vs lo hi tb ca (4 : Int32) vc fv fl fh ft fc) (hD : DS n0 cn vs lo hi tb ca) (Od : Old Z n0 h0) (hI : IC Z ch cl b0 b1) (hv2 : fv 2 = (0 : Int32)) (hl2 : fl 2 = (0 : Int32)) (hh2 : fh 2 = (1 : Int32)) (hv3 : fv 3 = (0 : Int32)) (hl3 : fl 3 = (1 : Int32)) (hh3 : fh 3 = (0 : Int32)) (hca : fc 15360 = (-1 : Int32)) :
    MetFree l (⟨"com/example/sealed_paths/sealedpaths/core/Conditions", "or", "(II)I"⟩ : MethodName) (head1 (Jvm.Cond.code (⟨"com/example/sealed_paths/sealedpaths/core/Conditions", "or", "(II)I"⟩ : MethodName) prog_13_method_4_code 3 (some .int) :: ws) ({ frames := 4, cells := 0, slots := 0, locals := 73 } : Room)) (fun zA zU => zA = #[(.ref cn), (.int (2 : Int32)), (.int (3 : Int32))] ∧ Z.Warmed39 zU.vm ∧ zU.heap = h0) (fun _ _ _ _ _ => True) (fun _ zU zO zW => ∃ zV zL, zO = .returned zV ∧ QC (.int (1 : Int32)) Z cn vs lo hi tb ca (4 : Int32) vc fv fl fh ft (upd (upd (upd (upd fc 15360 (2 : Int32)) 15361 (2 : Int32)) 15362 (3 : Int32)) 15363 (1 : Int32)) h0 n0 zV zW.heap zL ∧ FrameEnd zU zO zW zL ({ frames := 4, cells := 0, slots := 0, locals := 73 } : Room).cells ({ frames := 4, cells := 0, slots := 0, locals := 73 } : Room).slots) := by
  refine MetFree.of_bodySF (plainFor_of_name pn_Conditions) hisR ?_
  intro p e s m args below meth c s₁ Bd hml0 hP hK
  obtain ⟨rfl, hZ, hh⟩ := hP
  have hx := Bd.exec
  have hby := Bd.bytes
  have hml : c.maxLocals = 3 := hml0
  have hown : s.vm.findClass "com/example/sealed_paths/sealedpaths/core/Conditions" = some m.cls := findClass_of_methodNamed Bd.named
  have hnm := (name_of_methodNamed Bd.named Bd.method).1
  have X0 : Stand p l e ({ frames := 4, cells := 0, slots := 0, locals := 73 } : Room) s m #[(.ref cn), (.int (2 : Int32)), (.int (3 : Int32))] below meth c s₁ [] 0 0 := Stand.of_body Bd
  have e0 : s₁.heap = h0 := by rw [← hh, Bd.state]; rfl
  have N0 := Fr.nil n0
  have pre0 : ∀ zt, Steps p.tables e below (s₁.setTop (mkF m 0 #[.val (.ref cn), .val (.int (2 : Int32)), .val (.int (3 : Int32))] [])) zt → Steps p.tables e below (s₁.setTop (entryFrame m #[(.ref cn), (.int (2 : Int32)), (.int (3 : Int32))] 3)) zt := fun zt zk => castTop (ef_17_RII m cn (2 : Int32) (3 : Int32)) zk
  have hD0 := hD
  obtain ⟨Ec, F_variables, F_lows, F_highs, F_table, F_cached, F_limit, F_size, F_vc, V_vs, V_lo, V_hi, V_tb, V_ca⟩ := hC
  obtain ⟨g_cn, g_vs, g_lo, g_hi, g_tb, g_ca, ne_cn_vs, ne_cn_lo, ne_cn_hi, ne_cn_tb, ne_cn_ca, ne_vs_lo, ne_vs_hi, ne_vs_tb, ne_vs_ca, ne_lo_hi, ne_lo_tb, ne_lo_ca, ne_hi_tb, ne_hi_ca, ne_tb_ca⟩ := hD
  obtain ⟨cq704, q704, q704'⟩ := Ec.cell
  obtain ⟨_, _, ⟨T704, L704, k704, n704⟩, -, X704, ⟨Lc704, hQ704, l704, y704, z704⟩, st704⟩ := X0.privateBack hx (y := (⟨"com/example/sealed_paths/sealedpaths/core/Conditions", "apply", "(III)I"⟩ : MethodName)) hown (mvT hZ (hw _ (List.mem_of_getElem? (i := 51) rfl))) (mvT hZ (hw _ (List.mem_of_getElem? (i := 52) rfl))) (psel (mvT hZ (hw _ (List.mem_of_getElem? (i := 1) rfl))) (mvP hZ (hw _ (List.mem_of_getElem? (i := 53) rfl))) (mvT hZ (hw _ (List.mem_of_getElem? (i := 52) rfl))) (by decide)) (Cond.privateMethod_at (mvP hZ (hw _ (List.mem_of_getElem? (i := 53) rfl)) (args := #[]))) (mvT hZ (hw _ (List.mem_of_getElem? (i := 54) rfl))) (by decide) (backOf (W := 0) (rap2 l Z a0 hw [] cn vs lo hi tb ca vc fv fl fh ft fc ch cl b0 b1 h0 n0 Z0 ⟨Ec, F_variables, F_lows, F_highs, F_table, F_cached, F_limit, F_size, F_vc, V_vs, V_lo, V_hi, V_tb, V_ca⟩ hD0 Od hI hv2 hl2 hh2 hv3 hl3 hh3 hca) hZ (hw _ (List.mem_of_getElem? (i := 54) rfl)) (hw _ (List.mem_of_getElem? (i := 2) rfl)) (by decide) (by decide)) (g := (mkF m 4 #[.val (.ref cn), .val (.int (2 : Int32)), .val (.int (3 : Int32))] [(.int (3 : Int32)), (.int (2 : Int32)), (.int (2 : Int32)), (.ref cn)])) rfl (by rw [hml]; rfl) (Steps.refl _) (a := cn) (by rw [e0]; exact q704) q704' (argsL := [(.int (2 : Int32)), (.int (2 : Int32)), (.int (3 : Int32))]) (rest := []) (lenOf pd_5 rfl) rfl (by show 2 * 0 + _ ≤ _; exact Nat.le_of_eq rfl) (hb hby d17_4) (fun _ _ => ⟨rfl, e0, (by decide : 0 + 0 ≤ _), (by decide : 0 + 0 ≤ _)⟩)
  dsimp only [Pt.U, Pt.locs, Pt.cells, Pt.slots] at X704 l704 y704 z704 st704 hQ704
  subst l704 y704 z704
  obtain ⟨rfl, Nq704, Kq704, G704_0, G704_1, G704_2, G704_3, G704_4, G704_5, G704_6, G704_7, G704_8, G704_9, G704_10, G704_11, G704_12, G704_13⟩ := hQ704
  have N704 := Fr.app N0 Nq704
  have Z704 := Nat.le_trans Z0 Kq704.1
  have K704 := (Keep.refl h0 [cn, vs, lo, hi, tb, ca]).trans Kq704 (allS (Or.inl (List.mem_of_getElem? (i := 0) rfl)) (allS (Or.inl (List.mem_of_getElem? (i := 1) rfl)) (allS (Or.inl (List.mem_of_getElem? (i := 2) rfl)) (allS (Or.inl (List.mem_of_getElem? (i := 3) rfl)) (allS (Or.inl (List.mem_of_getElem? (i := 4) rfl)) (allS (Or.inl (List.mem_of_getElem? (i := 5) rfl)) all0))))))
  obtain ⟨fs, hr, hrun, hended, hW, hsame⟩ := X704.leave (v := some (.int (1 : Int32))) (fun h => by rw [Bd.returns] at h; cases h)
  refine ⟨_, _, pre0 _ ?_, hrun, hended, _, _, rfl, ?_, ⟨_, rfl⟩, hW, hsame.mono (by decide) (by decide)⟩
  · show Steps p.tables e below (s₁.setTop (mkF m 0 #[.val (.ref cn), .val (.int (2 : Int32)), .val (.int (3 : Int32))] [])) _
    refine XS.aloadN X0.here hx rfl (hb hby d17_0) rfl rfl ?_
    show Steps p.tables e below (s₁.setTop (mkF m 1 #[.val (.ref cn), .val (.int (2 : Int32)), .val (.int (3 : Int32))] [(.ref cn)])) _
    refine XS.iconst X0.here hx rfl (hb hby d17_1) ?_
    show Steps p.tables e below (s₁.setTop (mkF m 2 #[.val (.ref cn), .val (.int (2 : Int32)), .val (.int (3 : Int32))] [(.int (2 : Int32)), (.ref cn)])) _
    refine XS.iloadN X0.here hx rfl (hb hby d17_2) rfl ?_
    show Steps p.tables e below (s₁.setTop (mkF m 3 #[.val (.ref cn), .val (.int (2 : Int32)), .val (.int (3 : Int32))] [(.int (2 : Int32)), (.int (2 : Int32)), (.ref cn)])) _
    refine XS.iloadN X0.here hx rfl (hb hby d17_3) rfl ?_
    show Steps p.tables e below (s₁.setTop (mkF m 4 #[.val (.ref cn), .val (.int (2 : Int32)), .val (.int (3 : Int32))] [(.int (3 : Int32)), (.int (2 : Int32)), (.int (2 : Int32)), (.ref cn)])) _
    refine st704.trans ?_
    show Steps p.tables e below (T704.setTop (mkF m 7 #[.val (.ref cn), .val (.int (2 : Int32)), .val (.int (3 : Int32))] [(.int (1 : Int32))])) _
    exact retI X704 hx Bd.returns (hb hby d17_7) hr
  · show QC (.int (1 : Int32)) Z cn vs lo hi tb ca (4 : Int32) vc fv fl fh ft (upd (upd (upd (upd fc 15360 (2 : Int32)) 15361 (2 : Int32)) 15362 (3 : Int32)) 15363 (1 : Int32)) h0 n0 _ T704.heap _
    exact ⟨rfl, N704, K704, G704_0, G704_1, G704_2, G704_3, G704_4, G704_5, G704_6, G704_7, G704_8, G704_9, G704_10, G704_11, G704_12, G704_13⟩
theorem d4_0 : decode prog_13_method_2_code 0 = .ok (.aload_n 0, 1) := by decide +kernel
theorem d4_1 : decode prog_13_method_2_code 1 = .ok (.aload_n 0, 1) := by decide +kernel
theorem d4_2 : decode prog_13_method_2_code 2 = .ok (.dup, 1) := by decide +kernel
theorem d4_3 : decode prog_13_method_2_code 3 = .ok (.getfield 41, 3) := by decide +kernel
theorem d4_6 : decode prog_13_method_2_code 6 = .ok (.dup_x1, 1) := by decide +kernel
theorem d4_7 : decode prog_13_method_2_code 7 = .ok (.iconst 1, 1) := by decide +kernel
theorem d4_8 : decode prog_13_method_2_code 8 = .ok (.iadd, 1) := by decide +kernel
theorem d4_9 : decode prog_13_method_2_code 9 = .ok (.putfield 41, 3) := by decide +kernel
theorem d4_12 : decode prog_13_method_2_code 12 = .ok (.iconst 0, 1) := by decide +kernel
theorem d4_13 : decode prog_13_method_2_code 13 = .ok (.iconst 1, 1) := by decide +kernel
theorem d4_14 : decode prog_13_method_2_code 14 = .ok (.invokevirtual 44, 3) := by decide +kernel
theorem d4_17 : decode prog_13_method_2_code 17 = .ok (.ireturn, 1) := by decide +kernel
theorem ef_4_R (m : MethodId) (x0 : Addr) : entryFrame m #[(.ref x0)] 1 = mkF m 0 #[.val (.ref x0)] [] := by first | (simp [entryFrame, mkF, argsToLocals, Value.category]; done) | rfl
set_option maxRecDepth 65536 in
set_option maxHeartbeats 40000000 in
theorem rnv (l : Launch) (Z : State) (a0 : Array Value) (hw : ∀ d ∈ tables_1, d.before a0 Z = true) (ws : List Jvm.Cond) (cn vs lo hi tb ca : Addr) (fv fl fh ft fc : Nat → Int32) (h0 : Heap) (n0 : Nat) (Z0 : n0 ≤ h0.size) (hC : CS Z h0 cn vs lo hi tb ca (2 : Int32) (0 : Int32) fv fl fh ft fc) (hD : DS n0 cn vs lo hi tb ca) (hslot : ft 1818 = (-1 : Int32)) :
    MetFree l (⟨"com/example/sealed_paths/sealedpaths/core/Conditions", "newVariable", "()I"⟩ : MethodName) (head1 (Jvm.Cond.code (⟨"com/example/sealed_paths/sealedpaths/core/Conditions", "newVariable", "()I"⟩ : MethodName) prog_13_method_2_code 1 (some .int) :: ws) ({ frames := 2, cells := 0, slots := 0, locals := 31 } : Room)) (fun zA zU => zA = #[(.ref cn)] ∧ Z.Warmed39 zU.vm ∧ zU.heap = h0) (fun _ _ _ _ _ => True) (fun _ zU zO zW => ∃ zV zL, zO = .returned zV ∧ QC (.int (2 : Int32)) Z cn vs lo hi tb ca 3 1 (upd fv 2 (0 : Int32)) (upd fl 2 (0 : Int32)) (upd fh 2 (1 : Int32)) (upd ft 1818 (2 : Int32)) fc h0 n0 zV zW.heap zL ∧ FrameEnd zU zO zW zL ({ frames := 2, cells := 0, slots := 0, locals := 31 } : Room).cells ({ frames := 2, cells := 0, slots := 0, locals := 31 } : Room).slots) := by
  refine MetFree.of_bodySF (plainFor_of_name pn_Conditions) hisR ?_
  intro p e s m args below meth c s₁ Bd hml0 hP hK
  obtain ⟨rfl, hZ, hh⟩ := hP
  have hx := Bd.exec
  have hby := Bd.bytes
  have hml : c.maxLocals = 1 := hml0
  have hown : s.vm.findClass "com/example/sealed_paths/sealedpaths/core/Conditions" = some m.cls := findClass_of_methodNamed Bd.named
  have hnm := (name_of_methodNamed Bd.named Bd.method).1
  have X0 : Stand p l e ({ frames := 2, cells := 0, slots := 0, locals := 31 } : Room) s m #[(.ref cn)] below meth c s₁ [] 0 0 := Stand.of_body Bd
  have e0 : s₁.heap = h0 := by rw [← hh, Bd.state]; rfl
  have N0 := Fr.nil n0
  have pre0 : ∀ zt, Steps p.tables e below (s₁.setTop (mkF m 0 #[.val (.ref cn)] [])) zt → Steps p.tables e below (s₁.setTop (entryFrame m #[(.ref cn)] 1)) zt := fun zt zk => castTop (ef_4_R m cn) zk
  have hD0 := hD
  obtain ⟨Ec, F_variables, F_lows, F_highs, F_table, F_cached, F_limit, F_size, F_vc, V_vs, V_lo, V_hi, V_tb, V_ca⟩ := hC
  obtain ⟨g_cn, g_vs, g_lo, g_hi, g_tb, g_ca, ne_cn_vs, ne_cn_lo, ne_cn_hi, ne_cn_tb, ne_cn_ca, ne_vs_lo, ne_vs_hi, ne_vs_tb, ne_vs_ca, ne_lo_hi, ne_lo_tb, ne_lo_ca, ne_hi_tb, ne_hi_ca, ne_tb_ca⟩ := hD
  obtain ⟨T705, X705, e705, st705⟩ := getF X0 hx hZ hown (host := "") (Or.inl (hw _ (List.mem_of_getElem? (i := 34) rfl))) Via.refl e0 F_vc (g := (mkF m 3 #[.val (.ref cn)] [(.ref cn), (.ref cn), (.ref cn)])) rfl rfl (hb hby d4_3)
  obtain ⟨T706, h706, X706, e706, W706, st706⟩ := putF X705 hx hZ hown (host := "") (Or.inl (hw _ (List.mem_of_getElem? (i := 34) rfl))) Via.refl e705 F_vc Ec (Or.inl (hw _ (List.mem_of_getElem? (i := 35) rfl))) (hw _ (List.mem_of_getElem? (i := 1) rfl)) (ty := .int) (by decide) rfl rfl (g := (mkF m 9 #[.val (.ref cn)] [(.int (1 : Int32)), (.ref cn), (.int (0 : Int32)), (.ref cn)])) rfl rfl (hb hby d4_9)
  have N706 := Fr.snoc X706 N0 g_cn
  have zF707 := F_variables.other W706 (Or.inr (slot_ne (Or.inl (hw _ (List.mem_of_getElem? (i := 11) rfl))) (Or.inl (hw _ (List.mem_of_getElem? (i := 35) rfl))) (by decide) (t := (.array .int)) (t' := .int) (by decide) (by decide)))
  have zF708 := F_lows.other W706 (Or.inr (slot_ne (Or.inl (hw _ (List.mem_of_getElem? (i := 13) rfl))) (Or.inl (hw _ (List.mem_of_getElem? (i := 35) rfl))) (by decide) (t := (.array .int)) (t' := .int) (by decide) (by decide)))
  have zF709 := F_highs.other W706 (Or.inr (slot_ne (Or.inl (hw _ (List.mem_of_getElem? (i := 15) rfl))) (Or.inl (hw _ (List.mem_of_getElem? (i := 35) rfl))) (by decide) (t := (.array .int)) (t' := .int) (by decide) (by decide)))
  have zF710 := F_table.other W706 (Or.inr (slot_ne (Or.inl (hw _ (List.mem_of_getElem? (i := 17) rfl))) (Or.inl (hw _ (List.mem_of_getElem? (i := 35) rfl))) (by decide) (t := (.array .int)) (t' := .int) (by decide) (by decide)))
  have zF711 := F_cached.other W706 (Or.inr (slot_ne (Or.inl (hw _ (List.mem_of_getElem? (i := 19) rfl))) (Or.inl (hw _ (List.mem_of_getElem? (i := 35) rfl))) (by decide) (t := (.array .int)) (t' := .int) (by decide) (by decide)))
  have zF712 := F_limit.other W706 (Or.inr (slot_ne (Or.inr (hw _ (List.mem_of_getElem? (i := 21) rfl))) (Or.inl (hw _ (List.mem_of_getElem? (i := 35) rfl))) (by decide) (t := .int) (t' := .int) (by decide) (by decide)))
  have zF713 := F_size.other W706 (Or.inr (slot_ne (Or.inl (hw _ (List.mem_of_getElem? (i := 28) rfl))) (Or.inl (hw _ (List.mem_of_getElem? (i := 35) rfl))) (by decide) (t := .int) (t' := .int) (by decide) (by decide)))
  have zF714 := F_vc.same W706
  have zE715 := Ec.wr W706
  have zA716 := V_vs.other W706 (Ne.symm ne_cn_vs)
  have zA717 := V_lo.other W706 (Ne.symm ne_cn_lo)
  have zA718 := V_hi.other W706 (Ne.symm ne_cn_hi)
  have zA719 := V_tb.other W706 (Ne.symm ne_cn_tb)
  have zA720 := V_ca.other W706 (Ne.symm ne_cn_ca)
  have Z706 := Nat.le_trans Z0 (Keep.of_wr W706).1
  have K706 := (Keep.refl h0 [cn, vs, lo, hi, tb, ca]).wr W706 (Or.inl (List.mem_of_getElem? (i := 0) rfl))
  obtain ⟨cq721, q721, q721'⟩ := zE715.cell
  obtain ⟨_, _, ⟨T721, L721, k721, n721⟩, -, X721, ⟨Lc721, hQ721, l721, y721, z721⟩, st721⟩ := X706.privateBack hx (y := (⟨"com/example/sealed_paths/sealedpaths/core/Conditions", "node", "(III)I"⟩ : MethodName)) hown (mvT hZ (hw _ (List.mem_of_getElem? (i := 36) rfl))) (mvT hZ (hw _ (List.mem_of_getElem? (i := 37) rfl))) (psel (mvT hZ (hw _ (List.mem_of_getElem? (i := 1) rfl))) (mvP hZ (hw _ (List.mem_of_getElem? (i := 38) rfl))) (mvT hZ (hw _ (List.mem_of_getElem? (i := 37) rfl))) (by decide)) (Cond.privateMethod_at (mvP hZ (hw _ (List.mem_of_getElem? (i := 38) rfl)) (args := #[]))) (mvT hZ (hw _ (List.mem_of_getElem? (i := 39) rfl))) (by decide) (backOf (W := 0) (rn1 l Z a0 hw [] cn vs lo hi tb ca (1 : Int32) fv fl fh ft fc h706 n0 Z706 ⟨zE715, zF707, zF708, zF709, zF710, zF711, zF712, zF713, zF714, zA716, zA717, zA718, zA719, zA720⟩ hD0 hslot) hZ (hw _ (List.mem_of_getElem? (i := 39) rfl)) (hw _ (List.mem_of_getElem? (i := 2) rfl)) (by decide) (by decide)) (g := (mkF m 14 #[.val (.ref cn)] [(.int (1 : Int32)), (.int (0 : Int32)), (.int (0 : Int32)), (.ref cn)])) rfl (by rw [hml]; rfl) (Steps.refl _) (a := cn) (by rw [e706]; exact q721) q721' (argsL := [(.int (0 : Int32)), (.int (0 : Int32)), (.int (1 : Int32))]) (rest := []) (lenOf pd_5 rfl) rfl (by show 2 * 0 + _ ≤ _; exact Nat.le_of_eq rfl) (hb hby d4_14) (fun _ _ => ⟨rfl, e706, (by decide : 0 + 0 ≤ _), (by decide : 0 + 0 ≤ _)⟩)
  dsimp only [Pt.U, Pt.locs, Pt.cells, Pt.slots] at X721 l721 y721 z721 st721 hQ721
  subst l721 y721 z721
  obtain ⟨rfl, Nq721, Kq721, G721_0, G721_1, G721_2, G721_3, G721_4, G721_5, G721_6, G721_7, G721_8, G721_9, G721_10, G721_11, G721_12, G721_13⟩ := hQ721
  have N721 := Fr.app N706 Nq721
  have Z721 := Nat.le_trans Z706 Kq721.1
  have K721 := K706.trans Kq721 (allS (Or.inl (List.mem_of_getElem? (i := 0) rfl)) (allS (Or.inl (List.mem_of_getElem? (i := 1) rfl)) (allS (Or.inl (List.mem_of_getElem? (i := 2) rfl)) (allS (Or.inl (List.mem_of_getElem? (i := 3) rfl)) (allS (Or.inl (List.mem_of_getElem? (i := 4) rfl)) (allS (Or.inl (List.mem_of_getElem? (i := 5) rfl)) all0))))))
  obtain ⟨fs, hr, hrun, hended, hW, hsame⟩ := X721.leave (v := some (.int (2 : Int32))) (fun h => by rw [Bd.returns] at h; cases h)
  refine ⟨_, _, pre0 _ ?_, hrun, hended, _, _, rfl, ?_, ⟨_, rfl⟩, hW, hsame.mono (by decide) (by decide)⟩
  · show Steps p.tables e below (s₁.setTop (mkF m 0 #[.val (.ref cn)] [])) _
    refine XS.aloadN X0.here hx rfl (hb hby d4_0) rfl rfl ?_
    show Steps p.tables e below (s₁.setTop (mkF m 1 #[.val (.ref cn)] [(.ref cn)])) _
    refine XS.aloadN X0.here hx rfl (hb hby d4_1) rfl rfl ?_
    show Steps p.tables e below (s₁.setTop (mkF m 2 #[.val (.ref cn)] [(.ref cn), (.ref cn)])) _
    refine XS.dup X0.here hx rfl (hb hby d4_2) rfl rfl ?_
    show Steps p.tables e below (s₁.setTop (mkF m 3 #[.val (.ref cn)] [(.ref cn), (.ref cn), (.ref cn)])) _
    refine st705 _ ?_
    show Steps p.tables e below (T705.setTop (mkF m 6 #[.val (.ref cn)] [(.int (0 : Int32)), (.ref cn), (.ref cn)])) _
    refine XS.dupX1 X705.here hx rfl (hb hby d4_6) rfl rfl rfl ?_
    show Steps p.tables e below (T705.setTop (mkF m 7 #[.val (.ref cn)] [(.int (0 : Int32)), (.ref cn), (.int (0 : Int32)), (.ref cn)])) _
    refine XS.iconst X705.here hx rfl (hb hby d4_7) ?_
    show Steps p.tables e below (T705.setTop (mkF m 8 #[.val (.ref cn)] [(.int (1 : Int32)), (.int (0 : Int32)), (.ref cn), (.int (0 : Int32)), (.ref cn)])) _
    refine XS.iadd X705.here hx rfl (hb hby d4_8) rfl ?_
    show Steps p.tables e below (T705.setTop (mkF m 9 #[.val (.ref cn)] [(.int (1 : Int32)), (.ref cn), (.int (0 : Int32)), (.ref cn)])) _
    refine st706 _ ?_
    show Steps p.tables e below (T706.setTop (mkF m 12 #[.val (.ref cn)] [(.int (0 : Int32)), (.ref cn)])) _
    refine XS.iconst X706.here hx rfl (hb hby d4_12) ?_
    show Steps p.tables e below (T706.setTop (mkF m 13 #[.val (.ref cn)] [(.int (0 : Int32)), (.int (0 : Int32)), (.ref cn)])) _
    refine XS.iconst X706.here hx rfl (hb hby d4_13) ?_
    show Steps p.tables e below (T706.setTop (mkF m 14 #[.val (.ref cn)] [(.int (1 : Int32)), (.int (0 : Int32)), (.int (0 : Int32)), (.ref cn)])) _
    refine st721.trans ?_
    show Steps p.tables e below (T721.setTop (mkF m 17 #[.val (.ref cn)] [(.int (2 : Int32))])) _
    exact retI X721 hx Bd.returns (hb hby d4_17) hr
  · show QC (.int (2 : Int32)) Z cn vs lo hi tb ca 3 1 (upd fv 2 (0 : Int32)) (upd fl 2 (0 : Int32)) (upd fh 2 (1 : Int32)) (upd ft 1818 (2 : Int32)) fc h0 n0 _ T721.heap _
    exact ⟨rfl, N721, K721, G721_0, G721_1, G721_2, G721_3, G721_4, G721_5, G721_6, G721_7, G721_8, G721_9, G721_10, G721_11, G721_12, G721_13⟩
def IcV (k b : Int32) : Prop := (k = 0 ∧ b = 1) ∨ (¬ (k = 0) ∧ k = 1 ∧ b = 1) ∨ (¬ (k = 0) ∧ ¬ (k = 1) ∧ b = 0)
theorem pd_8 : parseMethodDescriptor "(I)V" = some ⟨[.int], none⟩ := by decide +kernel
theorem pd_9 : parseMethodDescriptor "(I)I" = some ⟨[.int], some .int⟩ := by decide +kernel
theorem ef_0_I (m : MethodId) (x0 : Int32) : entryFrame m #[(.int x0)] maxLocals = mkF m 0 #[.val (.int x0), .unset, .unset, .unset, .unset, .unset, .unset, .unset] [] := by first | (simp [entryFrame, mkF, argsToLocals, Value.category, maxLocals]; done) | rfl
theorem pn_ConditionsIsConstantPinLaw : plainName "com/example/sealed_paths/sealedpaths/core/ConditionsIsConstantPinLaw" = true := by first | (simp [plainName, overriddenIn]; done) | decide +kernel
set_option maxRecDepth 65536 in
set_option maxHeartbeats 40000000 in
theorem rm0_0 (l : Launch) (Z : State) (a0 : Array Value) (hw : ∀ d ∈ tables_1, d.before a0 Z = true) (ws : List Jvm.Cond) (fx : Int32) (ch : Addr) (cl : Cell) (b0 b1 : Addr) (h0 : Heap) (n0 : Nat) (Z0 : n0 ≤ h0.size) (Od : Old Z n0 h0) (hI : IC Z ch cl b0 b1) (hc86 : fx = (0 : Int32)) :
    MetFree l x (head1 (Jvm.Cond.code x code maxLocals ret :: ws) room_1) (fun zA zU => zA = #[(.int fx)] ∧ Z.Warmed39 zU.vm ∧ zU.heap = h0) (fun _ _ _ _ _ => True) (fun _ zU zO zW => ∃ zV zL, zO = .returned zV ∧ QL n0 zV zW.heap zL ∧ FrameEnd zU zO zW zL room_1.cells room_1.slots) := by
  refine MetFree.of_bodySF (plainFor_of_name pn_ConditionsIsConstantPinLaw) hisR ?_
  intro p e s m args below meth c s₁ Bd hml0 hP hK
  obtain ⟨rfl, hZ, hh⟩ := hP
  have hx := Bd.exec
  have hby := Bd.bytes
  have hml : c.maxLocals = 8 := hml0
  have hown : s.vm.findClass "com/example/sealed_paths/sealedpaths/core/ConditionsIsConstantPinLaw" = some m.cls := findClass_of_methodNamed Bd.named
  have hnm := (name_of_methodNamed Bd.named Bd.method).1
  have X0 : Stand p l e room_1 s m #[(.int fx)] below meth c s₁ [] 0 0 := Stand.of_body Bd
  have e0 : s₁.heap = h0 := by rw [← hh, Bd.state]; rfl
  have N0 := Fr.nil n0
  have pre0 : ∀ zt, Steps p.tables e below (s₁.setTop (mkF m 0 #[.val (.int fx), .unset, .unset, .unset, .unset, .unset, .unset, .unset] [])) zt → Steps p.tables e below (s₁.setTop (entryFrame m #[(.int fx)] maxLocals)) zt := fun zt zk => castTop (ef_0_I m fx) zk
  have hI0 := hI
  obtain ⟨Sh, Sc, Ach, Sz, A128, A129, Eb0, Eb1, Fb0, Fb1⟩ := hI
  obtain ⟨T722, h722, X722, e722, E722, A722, D722, -, st722⟩ := newO X0 hx hZ hown (hw _ (List.mem_of_getElem? (i := 0) rfl)) (hw _ (List.mem_of_getElem? (i := 1) rfl)) (hw _ (List.mem_of_getElem? (i := 2) rfl)) e0 (g := (mkF m 0 #[.val (.int fx), .unset, .unset, .unset, .unset, .unset, .unset, .unset] [])) rfl (hb hby at_0) (by decide) (by decide)
  obtain ⟨b722, g722⟩ : ∃ z, z = h0.size := ⟨_, rfl⟩
  rw [← g722] at A722 D722 st722
  have gz722 : n0 ≤ b722 := Nat.le_trans Z0 (Nat.le_of_eq g722.symm)
  have Z722 := Nat.le_trans Z0 E722.1
  have Od722 := Od.ext E722
  have F722_variables : Fld Z h722 b722 "com/example/sealed_paths/sealedpaths/core/Conditions" "variables" "[I" .null := D722 (Or.inl (hw _ (List.mem_of_getElem? (i := 11) rfl))) (ty := (.array .int)) (by decide)
  have F722_lows : Fld Z h722 b722 "com/example/sealed_paths/sealedpaths/core/Conditions" "lows" "[I" .null := D722 (Or.inl (hw _ (List.mem_of_getElem? (i := 13) rfl))) (ty := (.array .int)) (by decide)
  have F722_highs : Fld Z h722 b722 "com/example/sealed_paths/sealedpaths/core/Conditions" "highs" "[I" .null := D722 (Or.inl (hw _ (List.mem_of_getElem? (i := 15) rfl))) (ty := (.array .int)) (by decide)
  have F722_table : Fld Z h722 b722 "com/example/sealed_paths/sealedpaths/core/Conditions" "table" "[I" .null := D722 (Or.inl (hw _ (List.mem_of_getElem? (i := 17) rfl))) (ty := (.array .int)) (by decide)
  have F722_cached : Fld Z h722 b722 "com/example/sealed_paths/sealedpaths/core/Conditions" "cached" "[I" .null := D722 (Or.inl (hw _ (List.mem_of_getElem? (i := 19) rfl))) (ty := (.array .int)) (by decide)
  have F722_limit : Fld Z h722 b722 "com/example/sealed_paths/sealedpaths/core/Conditions" "limit" "I" (.int (0 : Int32)) := D722 (Or.inr (hw _ (List.mem_of_getElem? (i := 21) rfl))) (ty := .int) (by decide)
  have F722_size : Fld Z h722 b722 "com/example/sealed_paths/sealedpaths/core/Conditions" "size" "I" (.int (0 : Int32)) := D722 (Or.inl (hw _ (List.mem_of_getElem? (i := 28) rfl))) (ty := .int) (by decide)
  have F722_variableCount : Fld Z h722 b722 "com/example/sealed_paths/sealedpaths/core/Conditions" "variableCount" "I" (.int (0 : Int32)) := D722 (Or.inl (hw _ (List.mem_of_getElem? (i := 35) rfl))) (ty := .int) (by decide)
  obtain ⟨_, _, ⟨T723, L723, k723, n723⟩, -, X723, ⟨Lc723, hQ723, l723, y723, z723⟩, st723⟩ := X722.specialBack hx (y := (⟨"com/example/sealed_paths/sealedpaths/core/Conditions", "<init>", "(I)V"⟩ : MethodName)) rfl hown (mvT hZ (hw _ (List.mem_of_getElem? (i := 3) rfl))) (mvT hZ (hw _ (List.mem_of_getElem? (i := 4) rfl))) (mvT hZ (hw _ (List.mem_of_getElem? (i := 5) rfl))) (by decide) (backOf (W := 1) (rini l Z a0 hw [] b722 h722 n0 Z722 A722 F722_variables F722_lows F722_highs F722_table F722_cached F722_limit F722_size F722_variableCount gz722) hZ (hw _ (List.mem_of_getElem? (i := 5) rfl)) (hw _ (List.mem_of_getElem? (i := 2) rfl)) (by decide) (by decide)) (g := (mkF m 6 #[.val (.int fx), .unset, .unset, .unset, .unset, .unset, .unset, .unset] [(.int (16 : Int32)), (.ref b722), (.ref b722)])) rfl (by rw [hml]; rfl) (Steps.refl _) (a := b722) (argsL := [(.int (16 : Int32))]) (rest := [(.ref b722)]) (lenOf pd_8 rfl) rfl (by show 2 * 0 + _ ≤ _; exact Nat.le_of_eq rfl) (hb hby at_6) (fun _ _ => ⟨rfl, e722, (by decide : 1 + 5 ≤ _), (by decide : 8 + 21504 ≤ _)⟩)
  dsimp only [Pt.U, Pt.locs, Pt.cells, Pt.slots] at X723 l723 y723 z723 st723 hQ723
  subst l723 y723 z723
  obtain ⟨vs723, lo723, hi723, tb723, ca723, rfl, Nq723, Kq723, hD723, G723_1, G723_2, G723_3, G723_4, G723_5, G723_6, G723_7, G723_8, G723_9, G723_10, G723_11, G723_12, G723_13, G723_14⟩ := hQ723
  have N723 := Fr.app N0 Nq723
  have Z723 := Nat.le_trans Z722 Kq723.1
  have Od723 := Od722.keep Kq723 (allS gz722 all0)
  have hE723 := hD723
  obtain ⟨gq723_0, gq723_1, gq723_2, gq723_3, gq723_4, gq723_5, nq723_0, nq723_1, nq723_2, nq723_3, nq723_4, nq723_5, nq723_6, nq723_7, nq723_8, nq723_9, nq723_10, nq723_11, nq723_12, nq723_13, nq723_14⟩ := hD723
  obtain ⟨cq724, kq724, q724a, q724b, q724c⟩ := isOf hZ rfl G723_1
  obtain ⟨_, _, ⟨T724, L724, k724, n724⟩, -, X724, ⟨Lc724, hQ724, l724, y724, z724⟩, st724⟩ := X723.virtualBack hx (y := (⟨"com/example/sealed_paths/sealedpaths/core/Conditions", "newVariable", "()I"⟩ : MethodName)) (z := (⟨"com/example/sealed_paths/sealedpaths/core/Conditions", "newVariable", "()I"⟩ : MethodName)) hown (mvT hZ (hw _ (List.mem_of_getElem? (i := 29) rfl))) (mvT hZ (hw _ (List.mem_of_getElem? (i := 30) rfl))) (notFace_of_selects (args := #[]) (mvT hZ (hw _ (List.mem_of_getElem? (i := 32) rfl)))) (mvT hZ (hw _ (List.mem_of_getElem? (i := 32) rfl))) (mvT hZ (hw _ (List.mem_of_getElem? (i := 31) rfl))) (by decide) (backOf (W := 0) (rnv l Z a0 hw [] b722 vs723 lo723 hi723 tb723 ca723 (upd (upd (fun _ => (0 : Int32)) 0 (2147483647 : Int32)) 1 (2147483647 : Int32)) (fun _ => (0 : Int32)) (fun _ => (0 : Int32)) (fun _ => (-1 : Int32)) (fun _ => (-1 : Int32)) T723.heap n0 Z723 ⟨G723_1, G723_2, G723_3, G723_4, G723_5, G723_6, G723_7, G723_8, G723_9, G723_10, G723_11, G723_12, G723_13, G723_14⟩ hE723 rfl) hZ (hw _ (List.mem_of_getElem? (i := 33) rfl)) (hw _ (List.mem_of_getElem? (i := 2) rfl)) (by decide) (by decide)) q724a q724c (g := (mkF m 11 #[.val (.int fx), .val (.ref b722), .unset, .unset, .unset, .unset, .unset, .unset] [(.ref b722)])) rfl (by rw [hml]; rfl) (Steps.refl _) (argsL := []) (rest := []) (lenOf pd_4 rfl) rfl (by show 2 * 0 + _ ≤ _; exact Nat.le_of_eq rfl) (hb hby at_11) (fun _ _ => ⟨rfl, rfl, (by decide : 6 + 0 ≤ _), (by decide : 21512 + 0 ≤ _)⟩)
  dsimp only [Pt.U, Pt.locs, Pt.cells, Pt.slots] at X724 l724 y724 z724 st724 hQ724
  subst l724 y724 z724
  obtain ⟨rfl, Nq724, Kq724, G724_0, G724_1, G724_2, G724_3, G724_4, G724_5, G724_6, G724_7, G724_8, G724_9, G724_10, G724_11, G724_12, G724_13⟩ := hQ724
  have N724 := Fr.app N723 Nq724
  have Z724 := Nat.le_trans Z723 Kq724.1
  have Od724 := Od723.keep Kq724 (allS gq723_0 (allS gq723_1 (allS gq723_2 (allS gq723_3 (allS gq723_4 (allS gq723_5 all0))))))
  obtain ⟨cq725, kq725, q725a, q725b, q725c⟩ := isOf hZ rfl G724_0
  obtain ⟨_, _, ⟨T725, L725, k725, n725⟩, -, X725, ⟨Lc725, hQ725, l725, y725, z725⟩, st725⟩ := X724.virtualBack hx (y := (⟨"com/example/sealed_paths/sealedpaths/core/Conditions", "not", "(I)I"⟩ : MethodName)) (z := (⟨"com/example/sealed_paths/sealedpaths/core/Conditions", "not", "(I)I"⟩ : MethodName)) hown (mvT hZ (hw _ (List.mem_of_getElem? (i := 46) rfl))) (mvT hZ (hw _ (List.mem_of_getElem? (i := 47) rfl))) (notFace_of_selects (args := #[]) (mvT hZ (hw _ (List.mem_of_getElem? (i := 49) rfl)))) (mvT hZ (hw _ (List.mem_of_getElem? (i := 49) rfl))) (mvT hZ (hw _ (List.mem_of_getElem? (i := 48) rfl))) (by decide) (backOf (W := 0) (rnot l Z a0 hw [] b722 vs723 lo723 hi723 tb723 ca723 (1 : Int32) (upd (upd (upd (fun _ => (0 : Int32)) 0 (2147483647 : Int32)) 1 (2147483647 : Int32)) 2 (0 : Int32)) (upd (fun _ => (0 : Int32)) 2 (0 : Int32)) (upd (fun _ => (0 : Int32)) 2 (1 : Int32)) (upd (fun _ => (-1 : Int32)) 1818 (2 : Int32)) (fun _ => (-1 : Int32)) ch cl b0 b1 T724.heap n0 Z724 ⟨G724_0, G724_1, G724_2, G724_3, G724_4, G724_5, G724_6, G724_7, G724_8, G724_9, G724_10, G724_11, G724_12, G724_13⟩ hE723 Od724 hI0 rfl rfl rfl rfl rfl) hZ (hw _ (List.mem_of_getElem? (i := 50) rfl)) (hw _ (List.mem_of_getElem? (i := 2) rfl)) (by decide) (by decide)) q725a q725c (g := (mkF m 17 #[.val (.int fx), .val (.ref b722), .val (.int (2 : Int32)), .unset, .unset, .unset, .unset, .unset] [(.int (2 : Int32)), (.ref b722)])) rfl (by rw [hml]; rfl) (Steps.refl _) (argsL := [(.int (2 : Int32))]) (rest := []) (lenOf pd_9 rfl) rfl (by show 2 * 0 + _ ≤ _; exact Nat.le_of_eq rfl) (hb hby at_17) (fun _ _ => ⟨rfl, rfl, (by decide : 6 + 0 ≤ _), (by decide : 21512 + 0 ≤ _)⟩)
  dsimp only [Pt.U, Pt.locs, Pt.cells, Pt.slots] at X725 l725 y725 z725 st725 hQ725
  subst l725 y725 z725
  obtain ⟨rfl, Nq725, Kq725, G725_0, G725_1, G725_2, G725_3, G725_4, G725_5, G725_6, G725_7, G725_8, G725_9, G725_10, G725_11, G725_12, G725_13⟩ := hQ725
  have N725 := Fr.app N724 Nq725
  have Z725 := Nat.le_trans Z724 Kq725.1
  have Od725 := Od724.keep Kq725 (allS gq723_0 (allS gq723_1 (allS gq723_2 (allS gq723_3 (allS gq723_4 (allS gq723_5 all0))))))
  obtain ⟨cq726, kq726, q726a, q726b, q726c⟩ := isOf hZ rfl G725_0
  obtain ⟨_, _, ⟨T726, L726, k726, n726⟩, -, X726, ⟨Lc726, hQ726, l726, y726, z726⟩, st726⟩ := X725.virtualBack hx (y := (⟨"com/example/sealed_paths/sealedpaths/core/Conditions", "and", "(II)I"⟩ : MethodName)) (z := (⟨"com/example/sealed_paths/sealedpaths/core/Conditions", "and", "(II)I"⟩ : MethodName)) hown (mvT hZ (hw _ (List.mem_of_getElem? (i := 83) rfl))) (mvT hZ (hw _ (List.mem_of_getElem? (i := 84) rfl))) (notFace_of_selects (args := #[]) (mvT hZ (hw _ (List.mem_of_getElem? (i := 86) rfl)))) (mvT hZ (hw _ (List.mem_of_getElem? (i := 86) rfl))) (mvT hZ (hw _ (List.mem_of_getElem? (i := 85) rfl))) (by decide) (backOf (W := 0) (rand l Z a0 hw [] b722 vs723 lo723 hi723 tb723 ca723 (1 : Int32) (upd (upd (upd (upd (fun _ => (0 : Int32)) 0 (2147483647 : Int32)) 1 (2147483647 : Int32)) 2 (0 : Int32)) 3 (0 : Int32)) (upd (upd (fun _ => (0 : Int32)) 2 (0 : Int32)) 3 (1 : Int32)) (upd (upd (fun _ => (0 : Int32)) 2 (1 : Int32)) 3 (0 : Int32)) (upd (upd (fun _ => (-1 : Int32)) 1818 (2 : Int32)) 275 (3 : Int32)) (upd (upd (upd (upd (fun _ => (-1 : Int32)) 6132 (3 : Int32)) 6133 (2 : Int32)) 6134 (2 : Int32)) 6135 (3 : Int32)) ch cl b0 b1 T725.heap n0 Z725 ⟨G725_0, G725_1, G725_2, G725_3, G725_4, G725_5, G725_6, G725_7, G725_8, G725_9, G725_10, G725_11, G725_12, G725_13⟩ hE723 Od725 hI0 rfl rfl rfl rfl rfl rfl rfl) hZ (hw _ (List.mem_of_getElem? (i := 87) rfl)) (hw _ (List.mem_of_getElem? (i := 2) rfl)) (by decide) (by decide)) q726a q726c (g := (mkF m 24 #[.val (.int fx), .val (.ref b722), .val (.int (2 : Int32)), .val (.int (3 : Int32)), .unset, .unset, .unset, .unset] [(.int (3 : Int32)), (.int (2 : Int32)), (.ref b722)])) rfl (by rw [hml]; rfl) (Steps.refl _) (argsL := [(.int (2 : Int32)), (.int (3 : Int32))]) (rest := []) (lenOf pd_6 rfl) rfl (by show 2 * 0 + _ ≤ _; exact Nat.le_of_eq rfl) (hb hby at_24) (fun _ _ => ⟨rfl, rfl, (by decide : 6 + 0 ≤ _), (by decide : 21512 + 0 ≤ _)⟩)
  dsimp only [Pt.U, Pt.locs, Pt.cells, Pt.slots] at X726 l726 y726 z726 st726 hQ726
  subst l726 y726 z726
  obtain ⟨rfl, Nq726, Kq726, G726_0, G726_1, G726_2, G726_3, G726_4, G726_5, G726_6, G726_7, G726_8, G726_9, G726_10, G726_11, G726_12, G726_13⟩ := hQ726
  have N726 := Fr.app N725 Nq726
  have Z726 := Nat.le_trans Z725 Kq726.1
  have Od726 := Od725.keep Kq726 (allS gq723_0 (allS gq723_1 (allS gq723_2 (allS gq723_3 (allS gq723_4 (allS gq723_5 all0))))))
  obtain ⟨cq727, kq727, q727a, q727b, q727c⟩ := isOf hZ rfl G726_0
  obtain ⟨_, _, ⟨T727, L727, k727, n727⟩, -, X727, ⟨Lc727, hQ727, l727, y727, z727⟩, st727⟩ := X726.virtualBack hx (y := (⟨"com/example/sealed_paths/sealedpaths/core/Conditions", "or", "(II)I"⟩ : MethodName)) (z := (⟨"com/example/sealed_paths/sealedpaths/core/Conditions", "or", "(II)I"⟩ : MethodName)) hown (mvT hZ (hw _ (List.mem_of_getElem? (i := 91) rfl))) (mvT hZ (hw _ (List.mem_of_getElem? (i := 92) rfl))) (notFace_of_selects (args := #[]) (mvT hZ (hw _ (List.mem_of_getElem? (i := 94) rfl)))) (mvT hZ (hw _ (List.mem_of_getElem? (i := 94) rfl))) (mvT hZ (hw _ (List.mem_of_getElem? (i := 93) rfl))) (by decide) (backOf (W := 0) (ror l Z a0 hw [] b722 vs723 lo723 hi723 tb723 ca723 (1 : Int32) (upd (upd (upd (upd (fun _ => (0 : Int32)) 0 (2147483647 : Int32)) 1 (2147483647 : Int32)) 2 (0 : Int32)) 3 (0 : Int32)) (upd (upd (fun _ => (0 : Int32)) 2 (0 : Int32)) 3 (1 : Int32)) (upd (upd (fun _ => (0 : Int32)) 2 (1 : Int32)) 3 (0 : Int32)) (upd (upd (fun _ => (-1 : Int32)) 1818 (2 : Int32)) 275 (3 : Int32)) (upd (upd (upd (upd (upd (upd (upd (upd (fun _ => (-1 : Int32)) 6132 (3 : Int32)) 6133 (2 : Int32)) 6134 (2 : Int32)) 6135 (3 : Int32)) 2872 (1 : Int32)) 2873 (2 : Int32)) 2874 (3 : Int32)) 2875 (0 : Int32)) ch cl b0 b1 T726.heap n0 Z726 ⟨G726_0, G726_1, G726_2, G726_3, G726_4, G726_5, G726_6, G726_7, G726_8, G726_9, G726_10, G726_11, G726_12, G726_13⟩ hE723 Od726 hI0 rfl rfl rfl rfl rfl rfl rfl) hZ (hw _ (List.mem_of_getElem? (i := 95) rfl)) (hw _ (List.mem_of_getElem? (i := 2) rfl)) (by decide) (by decide)) q727a q727c (g := (mkF m 32 #[.val (.int fx), .val (.ref b722), .val (.int (2 : Int32)), .val (.int (3 : Int32)), .val (.int (0 : Int32)), .unset, .unset, .unset] [(.int (3 : Int32)), (.int (2 : Int32)), (.ref b722)])) rfl (by rw [hml]; rfl) (Steps.refl _) (argsL := [(.int (2 : Int32)), (.int (3 : Int32))]) (rest := []) (lenOf pd_6 rfl) rfl (by show 2 * 0 + _ ≤ _; exact Nat.le_of_eq rfl) (hb hby at_32) (fun _ _ => ⟨rfl, rfl, (by decide : 6 + 0 ≤ _), (by decide : 21512 + 0 ≤ _)⟩)
  dsimp only [Pt.U, Pt.locs, Pt.cells, Pt.slots] at X727 l727 y727 z727 st727 hQ727
  subst l727 y727 z727
  obtain ⟨rfl, Nq727, Kq727, G727_0, G727_1, G727_2, G727_3, G727_4, G727_5, G727_6, G727_7, G727_8, G727_9, G727_10, G727_11, G727_12, G727_13⟩ := hQ727
  have N727 := Fr.app N726 Nq727
  have Z727 := Nat.le_trans Z726 Kq727.1
  have Od727 := Od726.keep Kq727 (allS gq723_0 (allS gq723_1 (allS gq723_2 (allS gq723_3 (allS gq723_4 (allS gq723_5 all0))))))
  obtain ⟨_, _, ⟨T728, L728, k728, n728⟩, -, X728, ⟨Lc728, hQ728, l728, y728, z728⟩, st728⟩ := Jvm.LawKit.callS X727 hx (y := (⟨"com/example/sealed_paths/sealedpaths/core/Conditions", "isConstant", "(I)Z"⟩ : MethodName)) hown (mvT hZ (hw _ (List.mem_of_getElem? (i := 96) rfl))) (mvT hZ (hw _ (List.mem_of_getElem? (i := 59) rfl))) (mvT hZ (hw _ (List.mem_of_getElem? (i := 2) rfl))) (mvT hZ (hw _ (List.mem_of_getElem? (i := 60) rfl))) (by decide) (backOf (W := 0) (ric2 l Z a0 hw [] (2 : Int32) T727.heap n0 Z727 (by decide) (by decide)) hZ (hw _ (List.mem_of_getElem? (i := 60) rfl)) (hw _ (List.mem_of_getElem? (i := 2) rfl)) (by decide) (by decide)) (g := (mkF m 38 #[.val (.int fx), .val (.ref b722), .val (.int (2 : Int32)), .val (.int (3 : Int32)), .val (.int (0 : Int32)), .val (.int (1 : Int32)), .unset, .unset] [(.int (2 : Int32))])) rfl (by rw [hml]; rfl) (argsL := [(.int (2 : Int32))]) (rest := []) (lenOf pd_1 rfl) rfl (by show 2 * 0 + _ ≤ _; exact Nat.le_of_eq rfl) (hb hby at_38) (fun _ _ => ⟨rfl, rfl, (by decide : 6 + 0 ≤ _), (by decide : 21512 + 0 ≤ _)⟩)
  dsimp only [Pt.U, Pt.locs, Pt.cells, Pt.slots] at X728 l728 y728 z728 st728 hQ728
  subst l728 y728 z728
  obtain ⟨rfl, Nq728, e728⟩ := hQ728
  have N728 := Fr.app N727 Nq728
  obtain ⟨_, _, ⟨T729, L729, k729, n729⟩, -, X729, ⟨Lc729, hQ729, l729, y729, z729⟩, st729⟩ := Jvm.LawKit.callS X728 hx (y := (⟨"com/example/sealed_paths/sealedpaths/core/Conditions", "isConstant", "(I)Z"⟩ : MethodName)) hown (mvT hZ (hw _ (List.mem_of_getElem? (i := 96) rfl))) (mvT hZ (hw _ (List.mem_of_getElem? (i := 59) rfl))) (mvT hZ (hw _ (List.mem_of_getElem? (i := 2) rfl))) (mvT hZ (hw _ (List.mem_of_getElem? (i := 60) rfl))) (by decide) (backOf (W := 0) (ric2 l Z a0 hw [] (3 : Int32) T727.heap n0 Z727 (by decide) (by decide)) hZ (hw _ (List.mem_of_getElem? (i := 60) rfl)) (hw _ (List.mem_of_getElem? (i := 2) rfl)) (by decide) (by decide)) (g := (mkF m 45 #[.val (.int fx), .val (.ref b722), .val (.int (2 : Int32)), .val (.int (3 : Int32)), .val (.int (0 : Int32)), .val (.int (1 : Int32)), .unset, .unset] [(.int (3 : Int32))])) rfl (by rw [hml]; rfl) (argsL := [(.int (3 : Int32))]) (rest := []) (lenOf pd_1 rfl) rfl (by show 2 * 0 + _ ≤ _; exact Nat.le_of_eq rfl) (hb hby at_45) (fun _ _ => ⟨rfl, e728, (by decide : 6 + 0 ≤ _), (by decide : 21512 + 0 ≤ _)⟩)
  dsimp only [Pt.U, Pt.locs, Pt.cells, Pt.slots] at X729 l729 y729 z729 st729 hQ729
  subst l729 y729 z729
  obtain ⟨rfl, Nq729, e729⟩ := hQ729
  have N729 := Fr.app N728 Nq729
  obtain ⟨_, _, ⟨T730, L730, k730, n730⟩, -, X730, ⟨Lc730, hQ730, l730, y730, z730⟩, st730⟩ := Jvm.LawKit.callS X729 hx (y := (⟨"com/example/sealed_paths/sealedpaths/core/Conditions", "isConstant", "(I)Z"⟩ : MethodName)) hown (mvT hZ (hw _ (List.mem_of_getElem? (i := 96) rfl))) (mvT hZ (hw _ (List.mem_of_getElem? (i := 59) rfl))) (mvT hZ (hw _ (List.mem_of_getElem? (i := 2) rfl))) (mvT hZ (hw _ (List.mem_of_getElem? (i := 60) rfl))) (by decide) (backOf (W := 0) (ric0 l Z a0 hw [] (0 : Int32) T727.heap n0 Z727 (by decide)) hZ (hw _ (List.mem_of_getElem? (i := 60) rfl)) (hw _ (List.mem_of_getElem? (i := 2) rfl)) (by decide) (by decide)) (g := (mkF m 53 #[.val (.int fx), .val (.ref b722), .val (.int (2 : Int32)), .val (.int (3 : Int32)), .val (.int (0 : Int32)), .val (.int (1 : Int32)), .unset, .unset] [(.int (0 : Int32))])) rfl (by rw [hml]; rfl) (argsL := [(.int (0 : Int32))]) (rest := []) (lenOf pd_1 rfl) rfl (by show 2 * 0 + _ ≤ _; exact Nat.le_of_eq rfl) (hb hby at_53) (fun _ _ => ⟨rfl, e729, (by decide : 6 + 0 ≤ _), (by decide : 21512 + 0 ≤ _)⟩)
  dsimp only [Pt.U, Pt.locs, Pt.cells, Pt.slots] at X730 l730 y730 z730 st730 hQ730
  subst l730 y730 z730
  obtain ⟨rfl, Nq730, e730⟩ := hQ730
  have N730 := Fr.app N729 Nq730
  obtain ⟨_, _, ⟨T731, L731, k731, n731⟩, -, X731, ⟨Lc731, hQ731, l731, y731, z731⟩, st731⟩ := Jvm.LawKit.callS X730 hx (y := (⟨"com/example/sealed_paths/sealedpaths/core/Conditions", "isConstant", "(I)Z"⟩ : MethodName)) hown (mvT hZ (hw _ (List.mem_of_getElem? (i := 96) rfl))) (mvT hZ (hw _ (List.mem_of_getElem? (i := 59) rfl))) (mvT hZ (hw _ (List.mem_of_getElem? (i := 2) rfl))) (mvT hZ (hw _ (List.mem_of_getElem? (i := 60) rfl))) (by decide) (backOf (W := 0) (ric1 l Z a0 hw [] (1 : Int32) T727.heap n0 Z727 (by decide) (by decide)) hZ (hw _ (List.mem_of_getElem? (i := 60) rfl)) (hw _ (List.mem_of_getElem? (i := 2) rfl)) (by decide) (by decide)) (g := (mkF m 61 #[.val (.int fx), .val (.ref b722), .val (.int (2 : Int32)), .val (.int (3 : Int32)), .val (.int (0 : Int32)), .val (.int (1 : Int32)), .unset, .unset] [(.int (1 : Int32))])) rfl (by rw [hml]; rfl) (argsL := [(.int (1 : Int32))]) (rest := []) (lenOf pd_1 rfl) rfl (by show 2 * 0 + _ ≤ _; exact Nat.le_of_eq rfl) (hb hby at_61) (fun _ _ => ⟨rfl, e730, (by decide : 6 + 0 ≤ _), (by decide : 21512 + 0 ≤ _)⟩)
  dsimp only [Pt.U, Pt.locs, Pt.cells, Pt.slots] at X731 l731 y731 z731 st731 hQ731
  subst l731 y731 z731
  obtain ⟨rfl, Nq731, e731⟩ := hQ731
  have N731 := Fr.app N730 Nq731
  obtain ⟨_, _, ⟨T732, L732, k732, n732⟩, -, X732, ⟨Lc732, hQ732, l732, y732, z732⟩, st732⟩ := Jvm.LawKit.callS X731 hx (y := (⟨"com/example/sealed_paths/sealedpaths/core/Conditions", "isConstant", "(I)Z"⟩ : MethodName)) hown (mvT hZ (hw _ (List.mem_of_getElem? (i := 96) rfl))) (mvT hZ (hw _ (List.mem_of_getElem? (i := 59) rfl))) (mvT hZ (hw _ (List.mem_of_getElem? (i := 2) rfl))) (mvT hZ (hw _ (List.mem_of_getElem? (i := 60) rfl))) (by decide) (backOf (W := 0) (ric0 l Z a0 hw [] fx T727.heap n0 Z727 hc86) hZ (hw _ (List.mem_of_getElem? (i := 60) rfl)) (hw _ (List.mem_of_getElem? (i := 2) rfl)) (by decide) (by decide)) (g := (mkF m 82 #[.val (.int fx), .val (.ref b722), .val (.int (2 : Int32)), .val (.int (3 : Int32)), .val (.int (0 : Int32)), .val (.int (1 : Int32)), .val (.int (1 : Int32)), .unset] [(.int fx)])) rfl (by rw [hml]; rfl) (argsL := [(.int fx)]) (rest := []) (lenOf pd_1 rfl) rfl (by show 2 * 0 + _ ≤ _; exact Nat.le_of_eq rfl) (hb hby at_82) (fun _ _ => ⟨rfl, e731, (by decide : 6 + 0 ≤ _), (by decide : 21512 + 0 ≤ _)⟩)
  dsimp only [Pt.U, Pt.locs, Pt.cells, Pt.slots] at X732 l732 y732 z732 st732 hQ732
  subst l732 y732 z732
  obtain ⟨rfl, Nq732, e732⟩ := hQ732
  have N732 := Fr.app N731 Nq732
  obtain ⟨fs, hr, hrun, hended, hW, hsame⟩ := X732.leave (v := some (.int (1 : Int32))) (fun h => by rw [Bd.returns] at h; cases h)
  refine ⟨_, _, pre0 _ ?_, hrun, hended, _, _, rfl, ?_, ⟨_, rfl⟩, hW, hsame.mono (by decide) (by decide)⟩
  · show Steps p.tables e below (s₁.setTop (mkF m 0 #[.val (.int fx), .unset, .unset, .unset, .unset, .unset, .unset, .unset] [])) _
    refine st722 _ ?_
    show Steps p.tables e below (T722.setTop (mkF m 3 #[.val (.int fx), .unset, .unset, .unset, .unset, .unset, .unset, .unset] [(.ref b722)])) _
    refine XS.dup X722.here hx rfl (hb hby at_3) rfl rfl ?_
    show Steps p.tables e below (T722.setTop (mkF m 4 #[.val (.int fx), .unset, .unset, .unset, .unset, .unset, .unset, .unset] [(.ref b722), (.ref b722)])) _
    refine XS.bipush X722.here hx rfl (hb hby at_4) ?_
    show Steps p.tables e below (T722.setTop (mkF m 6 #[.val (.int fx), .unset, .unset, .unset, .unset, .unset, .unset, .unset] [(.int (16 : Int32)), (.ref b722), (.ref b722)])) _
    refine st723.trans ?_
    show Steps p.tables e below (T723.setTop (mkF m 9 #[.val (.int fx), .unset, .unset, .unset, .unset, .unset, .unset, .unset] [(.ref b722)])) _
    refine XS.astoreN X723.here hx rfl (hb hby at_9) rfl rfl (l' := #[.val (.int fx), .val (.ref b722), .unset, .unset, .unset, .unset, .unset, .unset]) rfl ?_
    show Steps p.tables e below (T723.setTop (mkF m 10 #[.val (.int fx), .val (.ref b722), .unset, .unset, .unset, .unset, .unset, .unset] [])) _
    refine XS.aloadN X723.here hx rfl (hb hby at_10) rfl rfl ?_
    show Steps p.tables e below (T723.setTop (mkF m 11 #[.val (.int fx), .val (.ref b722), .unset, .unset, .unset, .unset, .unset, .unset] [(.ref b722)])) _
    refine st724.trans ?_
    show Steps p.tables e below (T724.setTop (mkF m 14 #[.val (.int fx), .val (.ref b722), .unset, .unset, .unset, .unset, .unset, .unset] [(.int (2 : Int32))])) _
    refine XS.istoreN X724.here hx rfl (hb hby at_14) rfl (l' := #[.val (.int fx), .val (.ref b722), .val (.int (2 : Int32)), .unset, .unset, .unset, .unset, .unset]) rfl ?_
    show Steps p.tables e below (T724.setTop (mkF m 15 #[.val (.int fx), .val (.ref b722), .val (.int (2 : Int32)), .unset, .unset, .unset, .unset, .unset] [])) _
    refine XS.aloadN X724.here hx rfl (hb hby at_15) rfl rfl ?_
    show Steps p.tables e below (T724.setTop (mkF m 16 #[.val (.int fx), .val (.ref b722), .val (.int (2 : Int32)), .unset, .unset, .unset, .unset, .unset] [(.ref b722)])) _
    refine XS.iloadN X724.here hx rfl (hb hby at_16) rfl ?_
    show Steps p.tables e below (T724.setTop (mkF m 17 #[.val (.int fx), .val (.ref b722), .val (.int (2 : Int32)), .unset, .unset, .unset, .unset, .unset] [(.int (2 : Int32)), (.ref b722)])) _
    refine st725.trans ?_
    show Steps p.tables e below (T725.setTop (mkF m 20 #[.val (.int fx), .val (.ref b722), .val (.int (2 : Int32)), .unset, .unset, .unset, .unset, .unset] [(.int (3 : Int32))])) _
    refine XS.istoreN X725.here hx rfl (hb hby at_20) rfl (l' := #[.val (.int fx), .val (.ref b722), .val (.int (2 : Int32)), .val (.int (3 : Int32)), .unset, .unset, .unset, .unset]) rfl ?_
    show Steps p.tables e below (T725.setTop (mkF m 21 #[.val (.int fx), .val (.ref b722), .val (.int (2 : Int32)), .val (.int (3 : Int32)), .unset, .unset, .unset, .unset] [])) _
    refine XS.aloadN X725.here hx rfl (hb hby at_21) rfl rfl ?_
    show Steps p.tables e below (T725.setTop (mkF m 22 #[.val (.int fx), .val (.ref b722), .val (.int (2 : Int32)), .val (.int (3 : Int32)), .unset, .unset, .unset, .unset] [(.ref b722)])) _
    refine XS.iloadN X725.here hx rfl (hb hby at_22) rfl ?_
    show Steps p.tables e below (T725.setTop (mkF m 23 #[.val (.int fx), .val (.ref b722), .val (.int (2 : Int32)), .val (.int (3 : Int32)), .unset, .unset, .unset, .unset] [(.int (2 : Int32)), (.ref b722)])) _
    refine XS.iloadN X725.here hx rfl (hb hby at_23) rfl ?_
    show Steps p.tables e below (T725.setTop (mkF m 24 #[.val (.int fx), .val (.ref b722), .val (.int (2 : Int32)), .val (.int (3 : Int32)), .unset, .unset, .unset, .unset] [(.int (3 : Int32)), (.int (2 : Int32)), (.ref b722)])) _
    refine st726.trans ?_
    show Steps p.tables e below (T726.setTop (mkF m 27 #[.val (.int fx), .val (.ref b722), .val (.int (2 : Int32)), .val (.int (3 : Int32)), .unset, .unset, .unset, .unset] [(.int (0 : Int32))])) _
    refine XS.istore X726.here hx rfl (hb hby at_27) rfl (l' := #[.val (.int fx), .val (.ref b722), .val (.int (2 : Int32)), .val (.int (3 : Int32)), .val (.int (0 : Int32)), .unset, .unset, .unset]) rfl ?_
    show Steps p.tables e below (T726.setTop (mkF m 29 #[.val (.int fx), .val (.ref b722), .val (.int (2 : Int32)), .val (.int (3 : Int32)), .val (.int (0 : Int32)), .unset, .unset, .unset] [])) _
    refine XS.aloadN X726.here hx rfl (hb hby at_29) rfl rfl ?_
    show Steps p.tables e below (T726.setTop (mkF m 30 #[.val (.int fx), .val (.ref b722), .val (.int (2 : Int32)), .val (.int (3 : Int32)), .val (.int (0 : Int32)), .unset, .unset, .unset] [(.ref b722)])) _
    refine XS.iloadN X726.here hx rfl (hb hby at_30) rfl ?_
    show Steps p.tables e below (T726.setTop (mkF m 31 #[.val (.int fx), .val (.ref b722), .val (.int (2 : Int32)), .val (.int (3 : Int32)), .val (.int (0 : Int32)), .unset, .unset, .unset] [(.int (2 : Int32)), (.ref b722)])) _
    refine XS.iloadN X726.here hx rfl (hb hby at_31) rfl ?_
    show Steps p.tables e below (T726.setTop (mkF m 32 #[.val (.int fx), .val (.ref b722), .val (.int (2 : Int32)), .val (.int (3 : Int32)), .val (.int (0 : Int32)), .unset, .unset, .unset] [(.int (3 : Int32)), (.int (2 : Int32)), (.ref b722)])) _
    refine st727.trans ?_
    show Steps p.tables e below (T727.setTop (mkF m 35 #[.val (.int fx), .val (.ref b722), .val (.int (2 : Int32)), .val (.int (3 : Int32)), .val (.int (0 : Int32)), .unset, .unset, .unset] [(.int (1 : Int32))])) _
    refine XS.istore X727.here hx rfl (hb hby at_35) rfl (l' := #[.val (.int fx), .val (.ref b722), .val (.int (2 : Int32)), .val (.int (3 : Int32)), .val (.int (0 : Int32)), .val (.int (1 : Int32)), .unset, .unset]) rfl ?_
    show Steps p.tables e below (T727.setTop (mkF m 37 #[.val (.int fx), .val (.ref b722), .val (.int (2 : Int32)), .val (.int (3 : Int32)), .val (.int (0 : Int32)), .val (.int (1 : Int32)), .unset, .unset] [])) _
    refine XS.iloadN X727.here hx rfl (hb hby at_37) rfl ?_
    show Steps p.tables e below (T727.setTop (mkF m 38 #[.val (.int fx), .val (.ref b722), .val (.int (2 : Int32)), .val (.int (3 : Int32)), .val (.int (0 : Int32)), .val (.int (1 : Int32)), .unset, .unset] [(.int (2 : Int32))])) _
    refine st728 _ ?_
    show Steps p.tables e below (T728.setTop (mkF m 41 #[.val (.int fx), .val (.ref b722), .val (.int (2 : Int32)), .val (.int (3 : Int32)), .val (.int (0 : Int32)), .val (.int (1 : Int32)), .unset, .unset] [(.int (0 : Int32))])) _
    refine XS.ifNo X728.here hx rfl (hb hby at_41) rfl ((if0 _ _).trans (teq (by decide)).2) ?_
    show Steps p.tables e below (T728.setTop (mkF m 44 #[.val (.int fx), .val (.ref b722), .val (.int (2 : Int32)), .val (.int (3 : Int32)), .val (.int (0 : Int32)), .val (.int (1 : Int32)), .unset, .unset] [])) _
    refine XS.iloadN X728.here hx rfl (hb hby at_44) rfl ?_
    show Steps p.tables e below (T728.setTop (mkF m 45 #[.val (.int fx), .val (.ref b722), .val (.int (2 : Int32)), .val (.int (3 : Int32)), .val (.int (0 : Int32)), .val (.int (1 : Int32)), .unset, .unset] [(.int (3 : Int32))])) _
    refine st729 _ ?_
    show Steps p.tables e below (T729.setTop (mkF m 48 #[.val (.int fx), .val (.ref b722), .val (.int (2 : Int32)), .val (.int (3 : Int32)), .val (.int (0 : Int32)), .val (.int (1 : Int32)), .unset, .unset] [(.int (0 : Int32))])) _
    refine XS.ifNo X729.here hx rfl (hb hby at_48) rfl ((if0 _ _).trans (teq (by decide)).2) ?_
    show Steps p.tables e below (T729.setTop (mkF m 51 #[.val (.int fx), .val (.ref b722), .val (.int (2 : Int32)), .val (.int (3 : Int32)), .val (.int (0 : Int32)), .val (.int (1 : Int32)), .unset, .unset] [])) _
    refine XS.iload X729.here hx rfl (hb hby at_51) rfl ?_
    show Steps p.tables e below (T729.setTop (mkF m 53 #[.val (.int fx), .val (.ref b722), .val (.int (2 : Int32)), .val (.int (3 : Int32)), .val (.int (0 : Int32)), .val (.int (1 : Int32)), .unset, .unset] [(.int (0 : Int32))])) _
    refine st730 _ ?_
    show Steps p.tables e below (T730.setTop (mkF m 56 #[.val (.int fx), .val (.ref b722), .val (.int (2 : Int32)), .val (.int (3 : Int32)), .val (.int (0 : Int32)), .val (.int (1 : Int32)), .unset, .unset] [(.int (1 : Int32))])) _
    refine XS.ifNo X730.here hx rfl (hb hby at_56) rfl ((if0 _ _).trans (feq (by decide)).1) ?_
    show Steps p.tables e below (T730.setTop (mkF m 59 #[.val (.int fx), .val (.ref b722), .val (.int (2 : Int32)), .val (.int (3 : Int32)), .val (.int (0 : Int32)), .val (.int (1 : Int32)), .unset, .unset] [])) _
    refine XS.iload X730.here hx rfl (hb hby at_59) rfl ?_
    show Steps p.tables e below (T730.setTop (mkF m 61 #[.val (.int fx), .val (.ref b722), .val (.int (2 : Int32)), .val (.int (3 : Int32)), .val (.int (0 : Int32)), .val (.int (1 : Int32)), .unset, .unset] [(.int (1 : Int32))])) _
    refine st731 _ ?_
    show Steps p.tables e below (T731.setTop (mkF m 64 #[.val (.int fx), .val (.ref b722), .val (.int (2 : Int32)), .val (.int (3 : Int32)), .val (.int (0 : Int32)), .val (.int (1 : Int32)), .unset, .unset] [(.int (1 : Int32))])) _
    refine XS.ifNo X731.here hx rfl (hb hby at_64) rfl ((if0 _ _).trans (feq (by decide)).1) ?_
    show Steps p.tables e below (T731.setTop (mkF m 67 #[.val (.int fx), .val (.ref b722), .val (.int (2 : Int32)), .val (.int (3 : Int32)), .val (.int (0 : Int32)), .val (.int (1 : Int32)), .unset, .unset] [])) _
    refine XS.iload X731.here hx rfl (hb hby at_67) rfl ?_
    show Steps p.tables e below (T731.setTop (mkF m 69 #[.val (.int fx), .val (.ref b722), .val (.int (2 : Int32)), .val (.int (3 : Int32)), .val (.int (0 : Int32)), .val (.int (1 : Int32)), .unset, .unset] [(.int (0 : Int32))])) _
    refine XS.iload X731.here hx rfl (hb hby at_69) rfl ?_
    show Steps p.tables e below (T731.setTop (mkF m 71 #[.val (.int fx), .val (.ref b722), .val (.int (2 : Int32)), .val (.int (3 : Int32)), .val (.int (0 : Int32)), .val (.int (1 : Int32)), .unset, .unset] [(.int (1 : Int32)), (.int (0 : Int32))])) _
    refine XS.icmpNo X731.here hx rfl (hb hby at_71) rfl (feq (by decide)).1 ?_
    show Steps p.tables e below (T731.setTop (mkF m 74 #[.val (.int fx), .val (.ref b722), .val (.int (2 : Int32)), .val (.int (3 : Int32)), .val (.int (0 : Int32)), .val (.int (1 : Int32)), .unset, .unset] [])) _
    refine XS.iconst X731.here hx rfl (hb hby at_74) ?_
    show Steps p.tables e below (T731.setTop (mkF m 75 #[.val (.int fx), .val (.ref b722), .val (.int (2 : Int32)), .val (.int (3 : Int32)), .val (.int (0 : Int32)), .val (.int (1 : Int32)), .unset, .unset] [(.int (1 : Int32))])) _
    refine XS.goto X731.here hx rfl (pc0 := 75) (pc' := 79) rfl (hb hby at_75) (by decide) (by decide) ?_
    show Steps p.tables e below (T731.setTop (mkF m 79 #[.val (.int fx), .val (.ref b722), .val (.int (2 : Int32)), .val (.int (3 : Int32)), .val (.int (0 : Int32)), .val (.int (1 : Int32)), .unset, .unset] [(.int (1 : Int32))])) _
    refine XS.istore X731.here hx rfl (hb hby at_79) rfl (l' := #[.val (.int fx), .val (.ref b722), .val (.int (2 : Int32)), .val (.int (3 : Int32)), .val (.int (0 : Int32)), .val (.int (1 : Int32)), .val (.int (1 : Int32)), .unset]) rfl ?_
    show Steps p.tables e below (T731.setTop (mkF m 81 #[.val (.int fx), .val (.ref b722), .val (.int (2 : Int32)), .val (.int (3 : Int32)), .val (.int (0 : Int32)), .val (.int (1 : Int32)), .val (.int (1 : Int32)), .unset] [])) _
    refine XS.iloadN X731.here hx rfl (hb hby at_81) rfl ?_
    show Steps p.tables e below (T731.setTop (mkF m 82 #[.val (.int fx), .val (.ref b722), .val (.int (2 : Int32)), .val (.int (3 : Int32)), .val (.int (0 : Int32)), .val (.int (1 : Int32)), .val (.int (1 : Int32)), .unset] [(.int fx)])) _
    refine st732 _ ?_
    show Steps p.tables e below (T732.setTop (mkF m 85 #[.val (.int fx), .val (.ref b722), .val (.int (2 : Int32)), .val (.int (3 : Int32)), .val (.int (0 : Int32)), .val (.int (1 : Int32)), .val (.int (1 : Int32)), .unset] [(.int (1 : Int32))])) _
    refine XS.iloadN X732.here hx rfl (hb hby at_85) rfl ?_
    show Steps p.tables e below (T732.setTop (mkF m 86 #[.val (.int fx), .val (.ref b722), .val (.int (2 : Int32)), .val (.int (3 : Int32)), .val (.int (0 : Int32)), .val (.int (1 : Int32)), .val (.int (1 : Int32)), .unset] [(.int fx), (.int (1 : Int32))])) _
    refine XS.ifYes X732.here hx rfl (pc0 := 86) (pc' := 94) rfl (hb hby at_86) rfl ((if0 _ _).trans (teq hc86).1) (by decide) (by decide) ?_
    show Steps p.tables e below (T732.setTop (mkF m 94 #[.val (.int fx), .val (.ref b722), .val (.int (2 : Int32)), .val (.int (3 : Int32)), .val (.int (0 : Int32)), .val (.int (1 : Int32)), .val (.int (1 : Int32)), .unset] [(.int (1 : Int32))])) _
    refine XS.iconst X732.here hx rfl (hb hby at_94) ?_
    show Steps p.tables e below (T732.setTop (mkF m 95 #[.val (.int fx), .val (.ref b722), .val (.int (2 : Int32)), .val (.int (3 : Int32)), .val (.int (0 : Int32)), .val (.int (1 : Int32)), .val (.int (1 : Int32)), .unset] [(.int (1 : Int32)), (.int (1 : Int32))])) _
    refine XS.goto X732.here hx rfl (pc0 := 95) (pc' := 99) rfl (hb hby at_95) (by decide) (by decide) ?_
    show Steps p.tables e below (T732.setTop (mkF m 99 #[.val (.int fx), .val (.ref b722), .val (.int (2 : Int32)), .val (.int (3 : Int32)), .val (.int (0 : Int32)), .val (.int (1 : Int32)), .val (.int (1 : Int32)), .unset] [(.int (1 : Int32)), (.int (1 : Int32))])) _
    refine XS.icmpNo X732.here hx rfl (hb hby at_99) rfl (teq (by decide)).2 ?_
    show Steps p.tables e below (T732.setTop (mkF m 102 #[.val (.int fx), .val (.ref b722), .val (.int (2 : Int32)), .val (.int (3 : Int32)), .val (.int (0 : Int32)), .val (.int (1 : Int32)), .val (.int (1 : Int32)), .unset] [])) _
    refine XS.iconst X732.here hx rfl (hb hby at_102) ?_
    show Steps p.tables e below (T732.setTop (mkF m 103 #[.val (.int fx), .val (.ref b722), .val (.int (2 : Int32)), .val (.int (3 : Int32)), .val (.int (0 : Int32)), .val (.int (1 : Int32)), .val (.int (1 : Int32)), .unset] [(.int (1 : Int32))])) _
    refine XS.goto X732.here hx rfl (pc0 := 103) (pc' := 107) rfl (hb hby at_103) (by decide) (by decide) ?_
    show Steps p.tables e below (T732.setTop (mkF m 107 #[.val (.int fx), .val (.ref b722), .val (.int (2 : Int32)), .val (.int (3 : Int32)), .val (.int (0 : Int32)), .val (.int (1 : Int32)), .val (.int (1 : Int32)), .unset] [(.int (1 : Int32))])) _
    refine XS.istore X732.here hx rfl (hb hby at_107) rfl (l' := #[.val (.int fx), .val (.ref b722), .val (.int (2 : Int32)), .val (.int (3 : Int32)), .val (.int (0 : Int32)), .val (.int (1 : Int32)), .val (.int (1 : Int32)), .val (.int (1 : Int32))]) rfl ?_
    show Steps p.tables e below (T732.setTop (mkF m 109 #[.val (.int fx), .val (.ref b722), .val (.int (2 : Int32)), .val (.int (3 : Int32)), .val (.int (0 : Int32)), .val (.int (1 : Int32)), .val (.int (1 : Int32)), .val (.int (1 : Int32))] [])) _
    refine XS.iload X732.here hx rfl (hb hby at_109) rfl ?_
    show Steps p.tables e below (T732.setTop (mkF m 111 #[.val (.int fx), .val (.ref b722), .val (.int (2 : Int32)), .val (.int (3 : Int32)), .val (.int (0 : Int32)), .val (.int (1 : Int32)), .val (.int (1 : Int32)), .val (.int (1 : Int32))] [(.int (1 : Int32))])) _
    refine XS.ifNo X732.here hx rfl (hb hby at_111) rfl ((if0 _ _).trans (feq (by decide)).1) ?_
    show Steps p.tables e below (T732.setTop (mkF m 114 #[.val (.int fx), .val (.ref b722), .val (.int (2 : Int32)), .val (.int (3 : Int32)), .val (.int (0 : Int32)), .val (.int (1 : Int32)), .val (.int (1 : Int32)), .val (.int (1 : Int32))] [])) _
    refine XS.iload X732.here hx rfl (hb hby at_114) rfl ?_
    show Steps p.tables e below (T732.setTop (mkF m 116 #[.val (.int fx), .val (.ref b722), .val (.int (2 : Int32)), .val (.int (3 : Int32)), .val (.int (0 : Int32)), .val (.int (1 : Int32)), .val (.int (1 : Int32)), .val (.int (1 : Int32))] [(.int (1 : Int32))])) _
    refine XS.ifNo X732.here hx rfl (hb hby at_116) rfl ((if0 _ _).trans (feq (by decide)).1) ?_
    show Steps p.tables e below (T732.setTop (mkF m 119 #[.val (.int fx), .val (.ref b722), .val (.int (2 : Int32)), .val (.int (3 : Int32)), .val (.int (0 : Int32)), .val (.int (1 : Int32)), .val (.int (1 : Int32)), .val (.int (1 : Int32))] [])) _
    refine XS.iconst X732.here hx rfl (hb hby at_119) ?_
    show Steps p.tables e below (T732.setTop (mkF m 120 #[.val (.int fx), .val (.ref b722), .val (.int (2 : Int32)), .val (.int (3 : Int32)), .val (.int (0 : Int32)), .val (.int (1 : Int32)), .val (.int (1 : Int32)), .val (.int (1 : Int32))] [(.int (1 : Int32))])) _
    refine XS.goto X732.here hx rfl (pc0 := 120) (pc' := 124) rfl (hb hby at_120) (by decide) (by decide) ?_
    show Steps p.tables e below (T732.setTop (mkF m 124 #[.val (.int fx), .val (.ref b722), .val (.int (2 : Int32)), .val (.int (3 : Int32)), .val (.int (0 : Int32)), .val (.int (1 : Int32)), .val (.int (1 : Int32)), .val (.int (1 : Int32))] [(.int (1 : Int32))])) _
    exact retN X732 hx (t := .boolean) Bd.returns (by simp) (hb hby at_124) hr
  · show QL n0 _ T732.heap _
    rw [e732]
    exact ⟨rfl, N732⟩
set_option maxRecDepth 65536 in
set_option maxHeartbeats 40000000 in
theorem rm0_1 (l : Launch) (Z : State) (a0 : Array Value) (hw : ∀ d ∈ tables_1, d.before a0 Z = true) (ws : List Jvm.Cond) (fx : Int32) (ch : Addr) (cl : Cell) (b0 b1 : Addr) (h0 : Heap) (n0 : Nat) (Z0 : n0 ≤ h0.size) (Od : Old Z n0 h0) (hI : IC Z ch cl b0 b1) (hc86 : ¬ (fx = (0 : Int32))) (hc91 : fx = (1 : Int32)) :
    MetFree l x (head1 (Jvm.Cond.code x code maxLocals ret :: ws) room_1) (fun zA zU => zA = #[(.int fx)] ∧ Z.Warmed39 zU.vm ∧ zU.heap = h0) (fun _ _ _ _ _ => True) (fun _ zU zO zW => ∃ zV zL, zO = .returned zV ∧ QL n0 zV zW.heap zL ∧ FrameEnd zU zO zW zL room_1.cells room_1.slots) := by
  refine MetFree.of_bodySF (plainFor_of_name pn_ConditionsIsConstantPinLaw) hisR ?_
  intro p e s m args below meth c s₁ Bd hml0 hP hK
  obtain ⟨rfl, hZ, hh⟩ := hP
  have hx := Bd.exec
  have hby := Bd.bytes
  have hml : c.maxLocals = 8 := hml0
  have hown : s.vm.findClass "com/example/sealed_paths/sealedpaths/core/ConditionsIsConstantPinLaw" = some m.cls := findClass_of_methodNamed Bd.named
  have hnm := (name_of_methodNamed Bd.named Bd.method).1
  have X0 : Stand p l e room_1 s m #[(.int fx)] below meth c s₁ [] 0 0 := Stand.of_body Bd
  have e0 : s₁.heap = h0 := by rw [← hh, Bd.state]; rfl
  have N0 := Fr.nil n0
  have pre0 : ∀ zt, Steps p.tables e below (s₁.setTop (mkF m 0 #[.val (.int fx), .unset, .unset, .unset, .unset, .unset, .unset, .unset] [])) zt → Steps p.tables e below (s₁.setTop (entryFrame m #[(.int fx)] maxLocals)) zt := fun zt zk => castTop (ef_0_I m fx) zk
  have hI0 := hI
  obtain ⟨Sh, Sc, Ach, Sz, A128, A129, Eb0, Eb1, Fb0, Fb1⟩ := hI
  obtain ⟨T733, h733, X733, e733, E733, A733, D733, -, st733⟩ := newO X0 hx hZ hown (hw _ (List.mem_of_getElem? (i := 0) rfl)) (hw _ (List.mem_of_getElem? (i := 1) rfl)) (hw _ (List.mem_of_getElem? (i := 2) rfl)) e0 (g := (mkF m 0 #[.val (.int fx), .unset, .unset, .unset, .unset, .unset, .unset, .unset] [])) rfl (hb hby at_0) (by decide) (by decide)
  obtain ⟨b733, g733⟩ : ∃ z, z = h0.size := ⟨_, rfl⟩
  rw [← g733] at A733 D733 st733
  have gz733 : n0 ≤ b733 := Nat.le_trans Z0 (Nat.le_of_eq g733.symm)
  have Z733 := Nat.le_trans Z0 E733.1
  have Od733 := Od.ext E733
  have F733_variables : Fld Z h733 b733 "com/example/sealed_paths/sealedpaths/core/Conditions" "variables" "[I" .null := D733 (Or.inl (hw _ (List.mem_of_getElem? (i := 11) rfl))) (ty := (.array .int)) (by decide)
  have F733_lows : Fld Z h733 b733 "com/example/sealed_paths/sealedpaths/core/Conditions" "lows" "[I" .null := D733 (Or.inl (hw _ (List.mem_of_getElem? (i := 13) rfl))) (ty := (.array .int)) (by decide)
  have F733_highs : Fld Z h733 b733 "com/example/sealed_paths/sealedpaths/core/Conditions" "highs" "[I" .null := D733 (Or.inl (hw _ (List.mem_of_getElem? (i := 15) rfl))) (ty := (.array .int)) (by decide)
  have F733_table : Fld Z h733 b733 "com/example/sealed_paths/sealedpaths/core/Conditions" "table" "[I" .null := D733 (Or.inl (hw _ (List.mem_of_getElem? (i := 17) rfl))) (ty := (.array .int)) (by decide)
  have F733_cached : Fld Z h733 b733 "com/example/sealed_paths/sealedpaths/core/Conditions" "cached" "[I" .null := D733 (Or.inl (hw _ (List.mem_of_getElem? (i := 19) rfl))) (ty := (.array .int)) (by decide)
  have F733_limit : Fld Z h733 b733 "com/example/sealed_paths/sealedpaths/core/Conditions" "limit" "I" (.int (0 : Int32)) := D733 (Or.inr (hw _ (List.mem_of_getElem? (i := 21) rfl))) (ty := .int) (by decide)
  have F733_size : Fld Z h733 b733 "com/example/sealed_paths/sealedpaths/core/Conditions" "size" "I" (.int (0 : Int32)) := D733 (Or.inl (hw _ (List.mem_of_getElem? (i := 28) rfl))) (ty := .int) (by decide)
  have F733_variableCount : Fld Z h733 b733 "com/example/sealed_paths/sealedpaths/core/Conditions" "variableCount" "I" (.int (0 : Int32)) := D733 (Or.inl (hw _ (List.mem_of_getElem? (i := 35) rfl))) (ty := .int) (by decide)
  obtain ⟨_, _, ⟨T734, L734, k734, n734⟩, -, X734, ⟨Lc734, hQ734, l734, y734, z734⟩, st734⟩ := X733.specialBack hx (y := (⟨"com/example/sealed_paths/sealedpaths/core/Conditions", "<init>", "(I)V"⟩ : MethodName)) rfl hown (mvT hZ (hw _ (List.mem_of_getElem? (i := 3) rfl))) (mvT hZ (hw _ (List.mem_of_getElem? (i := 4) rfl))) (mvT hZ (hw _ (List.mem_of_getElem? (i := 5) rfl))) (by decide) (backOf (W := 1) (rini l Z a0 hw [] b733 h733 n0 Z733 A733 F733_variables F733_lows F733_highs F733_table F733_cached F733_limit F733_size F733_variableCount gz733) hZ (hw _ (List.mem_of_getElem? (i := 5) rfl)) (hw _ (List.mem_of_getElem? (i := 2) rfl)) (by decide) (by decide)) (g := (mkF m 6 #[.val (.int fx), .unset, .unset, .unset, .unset, .unset, .unset, .unset] [(.int (16 : Int32)), (.ref b733), (.ref b733)])) rfl (by rw [hml]; rfl) (Steps.refl _) (a := b733) (argsL := [(.int (16 : Int32))]) (rest := [(.ref b733)]) (lenOf pd_8 rfl) rfl (by show 2 * 0 + _ ≤ _; exact Nat.le_of_eq rfl) (hb hby at_6) (fun _ _ => ⟨rfl, e733, (by decide : 1 + 5 ≤ _), (by decide : 8 + 21504 ≤ _)⟩)
  dsimp only [Pt.U, Pt.locs, Pt.cells, Pt.slots] at X734 l734 y734 z734 st734 hQ734
  subst l734 y734 z734
  obtain ⟨vs734, lo734, hi734, tb734, ca734, rfl, Nq734, Kq734, hD734, G734_1, G734_2, G734_3, G734_4, G734_5, G734_6, G734_7, G734_8, G734_9, G734_10, G734_11, G734_12, G734_13, G734_14⟩ := hQ734
  have N734 := Fr.app N0 Nq734
  have Z734 := Nat.le_trans Z733 Kq734.1
  have Od734 := Od733.keep Kq734 (allS gz733 all0)
  have hE734 := hD734
  obtain ⟨gq734_0, gq734_1, gq734_2, gq734_3, gq734_4, gq734_5, nq734_0, nq734_1, nq734_2, nq734_3, nq734_4, nq734_5, nq734_6, nq734_7, nq734_8, nq734_9, nq734_10, nq734_11, nq734_12, nq734_13, nq734_14⟩ := hD734
  obtain ⟨cq735, kq735, q735a, q735b, q735c⟩ := isOf hZ rfl G734_1
  obtain ⟨_, _, ⟨T735, L735, k735, n735⟩, -, X735, ⟨Lc735, hQ735, l735, y735, z735⟩, st735⟩ := X734.virtualBack hx (y := (⟨"com/example/sealed_paths/sealedpaths/core/Conditions", "newVariable", "()I"⟩ : MethodName)) (z := (⟨"com/example/sealed_paths/sealedpaths/core/Conditions", "newVariable", "()I"⟩ : MethodName)) hown (mvT hZ (hw _ (List.mem_of_getElem? (i := 29) rfl))) (mvT hZ (hw _ (List.mem_of_getElem? (i := 30) rfl))) (notFace_of_selects (args := #[]) (mvT hZ (hw _ (List.mem_of_getElem? (i := 32) rfl)))) (mvT hZ (hw _ (List.mem_of_getElem? (i := 32) rfl))) (mvT hZ (hw _ (List.mem_of_getElem? (i := 31) rfl))) (by decide) (backOf (W := 0) (rnv l Z a0 hw [] b733 vs734 lo734 hi734 tb734 ca734 (upd (upd (fun _ => (0 : Int32)) 0 (2147483647 : Int32)) 1 (2147483647 : Int32)) (fun _ => (0 : Int32)) (fun _ => (0 : Int32)) (fun _ => (-1 : Int32)) (fun _ => (-1 : Int32)) T734.heap n0 Z734 ⟨G734_1, G734_2, G734_3, G734_4, G734_5, G734_6, G734_7, G734_8, G734_9, G734_10, G734_11, G734_12, G734_13, G734_14⟩ hE734 rfl) hZ (hw _ (List.mem_of_getElem? (i := 33) rfl)) (hw _ (List.mem_of_getElem? (i := 2) rfl)) (by decide) (by decide)) q735a q735c (g := (mkF m 11 #[.val (.int fx), .val (.ref b733), .unset, .unset, .unset, .unset, .unset, .unset] [(.ref b733)])) rfl (by rw [hml]; rfl) (Steps.refl _) (argsL := []) (rest := []) (lenOf pd_4 rfl) rfl (by show 2 * 0 + _ ≤ _; exact Nat.le_of_eq rfl) (hb hby at_11) (fun _ _ => ⟨rfl, rfl, (by decide : 6 + 0 ≤ _), (by decide : 21512 + 0 ≤ _)⟩)
  dsimp only [Pt.U, Pt.locs, Pt.cells, Pt.slots] at X735 l735 y735 z735 st735 hQ735
  subst l735 y735 z735
  obtain ⟨rfl, Nq735, Kq735, G735_0, G735_1, G735_2, G735_3, G735_4, G735_5, G735_6, G735_7, G735_8, G735_9, G735_10, G735_11, G735_12, G735_13⟩ := hQ735
  have N735 := Fr.app N734 Nq735
  have Z735 := Nat.le_trans Z734 Kq735.1
  have Od735 := Od734.keep Kq735 (allS gq734_0 (allS gq734_1 (allS gq734_2 (allS gq734_3 (allS gq734_4 (allS gq734_5 all0))))))
  obtain ⟨cq736, kq736, q736a, q736b, q736c⟩ := isOf hZ rfl G735_0
  obtain ⟨_, _, ⟨T736, L736, k736, n736⟩, -, X736, ⟨Lc736, hQ736, l736, y736, z736⟩, st736⟩ := X735.virtualBack hx (y := (⟨"com/example/sealed_paths/sealedpaths/core/Conditions", "not", "(I)I"⟩ : MethodName)) (z := (⟨"com/example/sealed_paths/sealedpaths/core/Conditions", "not", "(I)I"⟩ : MethodName)) hown (mvT hZ (hw _ (List.mem_of_getElem? (i := 46) rfl))) (mvT hZ (hw _ (List.mem_of_getElem? (i := 47) rfl))) (notFace_of_selects (args := #[]) (mvT hZ (hw _ (List.mem_of_getElem? (i := 49) rfl)))) (mvT hZ (hw _ (List.mem_of_getElem? (i := 49) rfl))) (mvT hZ (hw _ (List.mem_of_getElem? (i := 48) rfl))) (by decide) (backOf (W := 0) (rnot l Z a0 hw [] b733 vs734 lo734 hi734 tb734 ca734 (1 : Int32) (upd (upd (upd (fun _ => (0 : Int32)) 0 (2147483647 : Int32)) 1 (2147483647 : Int32)) 2 (0 : Int32)) (upd (fun _ => (0 : Int32)) 2 (0 : Int32)) (upd (fun _ => (0 : Int32)) 2 (1 : Int32)) (upd (fun _ => (-1 : Int32)) 1818 (2 : Int32)) (fun _ => (-1 : Int32)) ch cl b0 b1 T735.heap n0 Z735 ⟨G735_0, G735_1, G735_2, G735_3, G735_4, G735_5, G735_6, G735_7, G735_8, G735_9, G735_10, G735_11, G735_12, G735_13⟩ hE734 Od735 hI0 rfl rfl rfl rfl rfl) hZ (hw _ (List.mem_of_getElem? (i := 50) rfl)) (hw _ (List.mem_of_getElem? (i := 2) rfl)) (by decide) (by decide)) q736a q736c (g := (mkF m 17 #[.val (.int fx), .val (.ref b733), .val (.int (2 : Int32)), .unset, .unset, .unset, .unset, .unset] [(.int (2 : Int32)), (.ref b733)])) rfl (by rw [hml]; rfl) (Steps.refl _) (argsL := [(.int (2 : Int32))]) (rest := []) (lenOf pd_9 rfl) rfl (by show 2 * 0 + _ ≤ _; exact Nat.le_of_eq rfl) (hb hby at_17) (fun _ _ => ⟨rfl, rfl, (by decide : 6 + 0 ≤ _), (by decide : 21512 + 0 ≤ _)⟩)
  dsimp only [Pt.U, Pt.locs, Pt.cells, Pt.slots] at X736 l736 y736 z736 st736 hQ736
  subst l736 y736 z736
  obtain ⟨rfl, Nq736, Kq736, G736_0, G736_1, G736_2, G736_3, G736_4, G736_5, G736_6, G736_7, G736_8, G736_9, G736_10, G736_11, G736_12, G736_13⟩ := hQ736
  have N736 := Fr.app N735 Nq736
  have Z736 := Nat.le_trans Z735 Kq736.1
  have Od736 := Od735.keep Kq736 (allS gq734_0 (allS gq734_1 (allS gq734_2 (allS gq734_3 (allS gq734_4 (allS gq734_5 all0))))))
  obtain ⟨cq737, kq737, q737a, q737b, q737c⟩ := isOf hZ rfl G736_0
  obtain ⟨_, _, ⟨T737, L737, k737, n737⟩, -, X737, ⟨Lc737, hQ737, l737, y737, z737⟩, st737⟩ := X736.virtualBack hx (y := (⟨"com/example/sealed_paths/sealedpaths/core/Conditions", "and", "(II)I"⟩ : MethodName)) (z := (⟨"com/example/sealed_paths/sealedpaths/core/Conditions", "and", "(II)I"⟩ : MethodName)) hown (mvT hZ (hw _ (List.mem_of_getElem? (i := 83) rfl))) (mvT hZ (hw _ (List.mem_of_getElem? (i := 84) rfl))) (notFace_of_selects (args := #[]) (mvT hZ (hw _ (List.mem_of_getElem? (i := 86) rfl)))) (mvT hZ (hw _ (List.mem_of_getElem? (i := 86) rfl))) (mvT hZ (hw _ (List.mem_of_getElem? (i := 85) rfl))) (by decide) (backOf (W := 0) (rand l Z a0 hw [] b733 vs734 lo734 hi734 tb734 ca734 (1 : Int32) (upd (upd (upd (upd (fun _ => (0 : Int32)) 0 (2147483647 : Int32)) 1 (2147483647 : Int32)) 2 (0 : Int32)) 3 (0 : Int32)) (upd (upd (fun _ => (0 : Int32)) 2 (0 : Int32)) 3 (1 : Int32)) (upd (upd (fun _ => (0 : Int32)) 2 (1 : Int32)) 3 (0 : Int32)) (upd (upd (fun _ => (-1 : Int32)) 1818 (2 : Int32)) 275 (3 : Int32)) (upd (upd (upd (upd (fun _ => (-1 : Int32)) 6132 (3 : Int32)) 6133 (2 : Int32)) 6134 (2 : Int32)) 6135 (3 : Int32)) ch cl b0 b1 T736.heap n0 Z736 ⟨G736_0, G736_1, G736_2, G736_3, G736_4, G736_5, G736_6, G736_7, G736_8, G736_9, G736_10, G736_11, G736_12, G736_13⟩ hE734 Od736 hI0 rfl rfl rfl rfl rfl rfl rfl) hZ (hw _ (List.mem_of_getElem? (i := 87) rfl)) (hw _ (List.mem_of_getElem? (i := 2) rfl)) (by decide) (by decide)) q737a q737c (g := (mkF m 24 #[.val (.int fx), .val (.ref b733), .val (.int (2 : Int32)), .val (.int (3 : Int32)), .unset, .unset, .unset, .unset] [(.int (3 : Int32)), (.int (2 : Int32)), (.ref b733)])) rfl (by rw [hml]; rfl) (Steps.refl _) (argsL := [(.int (2 : Int32)), (.int (3 : Int32))]) (rest := []) (lenOf pd_6 rfl) rfl (by show 2 * 0 + _ ≤ _; exact Nat.le_of_eq rfl) (hb hby at_24) (fun _ _ => ⟨rfl, rfl, (by decide : 6 + 0 ≤ _), (by decide : 21512 + 0 ≤ _)⟩)
  dsimp only [Pt.U, Pt.locs, Pt.cells, Pt.slots] at X737 l737 y737 z737 st737 hQ737
  subst l737 y737 z737
  obtain ⟨rfl, Nq737, Kq737, G737_0, G737_1, G737_2, G737_3, G737_4, G737_5, G737_6, G737_7, G737_8, G737_9, G737_10, G737_11, G737_12, G737_13⟩ := hQ737
  have N737 := Fr.app N736 Nq737
  have Z737 := Nat.le_trans Z736 Kq737.1
  have Od737 := Od736.keep Kq737 (allS gq734_0 (allS gq734_1 (allS gq734_2 (allS gq734_3 (allS gq734_4 (allS gq734_5 all0))))))
  obtain ⟨cq738, kq738, q738a, q738b, q738c⟩ := isOf hZ rfl G737_0
  obtain ⟨_, _, ⟨T738, L738, k738, n738⟩, -, X738, ⟨Lc738, hQ738, l738, y738, z738⟩, st738⟩ := X737.virtualBack hx (y := (⟨"com/example/sealed_paths/sealedpaths/core/Conditions", "or", "(II)I"⟩ : MethodName)) (z := (⟨"com/example/sealed_paths/sealedpaths/core/Conditions", "or", "(II)I"⟩ : MethodName)) hown (mvT hZ (hw _ (List.mem_of_getElem? (i := 91) rfl))) (mvT hZ (hw _ (List.mem_of_getElem? (i := 92) rfl))) (notFace_of_selects (args := #[]) (mvT hZ (hw _ (List.mem_of_getElem? (i := 94) rfl)))) (mvT hZ (hw _ (List.mem_of_getElem? (i := 94) rfl))) (mvT hZ (hw _ (List.mem_of_getElem? (i := 93) rfl))) (by decide) (backOf (W := 0) (ror l Z a0 hw [] b733 vs734 lo734 hi734 tb734 ca734 (1 : Int32) (upd (upd (upd (upd (fun _ => (0 : Int32)) 0 (2147483647 : Int32)) 1 (2147483647 : Int32)) 2 (0 : Int32)) 3 (0 : Int32)) (upd (upd (fun _ => (0 : Int32)) 2 (0 : Int32)) 3 (1 : Int32)) (upd (upd (fun _ => (0 : Int32)) 2 (1 : Int32)) 3 (0 : Int32)) (upd (upd (fun _ => (-1 : Int32)) 1818 (2 : Int32)) 275 (3 : Int32)) (upd (upd (upd (upd (upd (upd (upd (upd (fun _ => (-1 : Int32)) 6132 (3 : Int32)) 6133 (2 : Int32)) 6134 (2 : Int32)) 6135 (3 : Int32)) 2872 (1 : Int32)) 2873 (2 : Int32)) 2874 (3 : Int32)) 2875 (0 : Int32)) ch cl b0 b1 T737.heap n0 Z737 ⟨G737_0, G737_1, G737_2, G737_3, G737_4, G737_5, G737_6, G737_7, G737_8, G737_9, G737_10, G737_11, G737_12, G737_13⟩ hE734 Od737 hI0 rfl rfl rfl rfl rfl rfl rfl) hZ (hw _ (List.mem_of_getElem? (i := 95) rfl)) (hw _ (List.mem_of_getElem? (i := 2) rfl)) (by decide) (by decide)) q738a q738c (g := (mkF m 32 #[.val (.int fx), .val (.ref b733), .val (.int (2 : Int32)), .val (.int (3 : Int32)), .val (.int (0 : Int32)), .unset, .unset, .unset] [(.int (3 : Int32)), (.int (2 : Int32)), (.ref b733)])) rfl (by rw [hml]; rfl) (Steps.refl _) (argsL := [(.int (2 : Int32)), (.int (3 : Int32))]) (rest := []) (lenOf pd_6 rfl) rfl (by show 2 * 0 + _ ≤ _; exact Nat.le_of_eq rfl) (hb hby at_32) (fun _ _ => ⟨rfl, rfl, (by decide : 6 + 0 ≤ _), (by decide : 21512 + 0 ≤ _)⟩)
  dsimp only [Pt.U, Pt.locs, Pt.cells, Pt.slots] at X738 l738 y738 z738 st738 hQ738
  subst l738 y738 z738
  obtain ⟨rfl, Nq738, Kq738, G738_0, G738_1, G738_2, G738_3, G738_4, G738_5, G738_6, G738_7, G738_8, G738_9, G738_10, G738_11, G738_12, G738_13⟩ := hQ738
  have N738 := Fr.app N737 Nq738
  have Z738 := Nat.le_trans Z737 Kq738.1
  have Od738 := Od737.keep Kq738 (allS gq734_0 (allS gq734_1 (allS gq734_2 (allS gq734_3 (allS gq734_4 (allS gq734_5 all0))))))
  obtain ⟨_, _, ⟨T739, L739, k739, n739⟩, -, X739, ⟨Lc739, hQ739, l739, y739, z739⟩, st739⟩ := Jvm.LawKit.callS X738 hx (y := (⟨"com/example/sealed_paths/sealedpaths/core/Conditions", "isConstant", "(I)Z"⟩ : MethodName)) hown (mvT hZ (hw _ (List.mem_of_getElem? (i := 96) rfl))) (mvT hZ (hw _ (List.mem_of_getElem? (i := 59) rfl))) (mvT hZ (hw _ (List.mem_of_getElem? (i := 2) rfl))) (mvT hZ (hw _ (List.mem_of_getElem? (i := 60) rfl))) (by decide) (backOf (W := 0) (ric2 l Z a0 hw [] (2 : Int32) T738.heap n0 Z738 (by decide) (by decide)) hZ (hw _ (List.mem_of_getElem? (i := 60) rfl)) (hw _ (List.mem_of_getElem? (i := 2) rfl)) (by decide) (by decide)) (g := (mkF m 38 #[.val (.int fx), .val (.ref b733), .val (.int (2 : Int32)), .val (.int (3 : Int32)), .val (.int (0 : Int32)), .val (.int (1 : Int32)), .unset, .unset] [(.int (2 : Int32))])) rfl (by rw [hml]; rfl) (argsL := [(.int (2 : Int32))]) (rest := []) (lenOf pd_1 rfl) rfl (by show 2 * 0 + _ ≤ _; exact Nat.le_of_eq rfl) (hb hby at_38) (fun _ _ => ⟨rfl, rfl, (by decide : 6 + 0 ≤ _), (by decide : 21512 + 0 ≤ _)⟩)
  dsimp only [Pt.U, Pt.locs, Pt.cells, Pt.slots] at X739 l739 y739 z739 st739 hQ739
  subst l739 y739 z739
  obtain ⟨rfl, Nq739, e739⟩ := hQ739
  have N739 := Fr.app N738 Nq739
  obtain ⟨_, _, ⟨T740, L740, k740, n740⟩, -, X740, ⟨Lc740, hQ740, l740, y740, z740⟩, st740⟩ := Jvm.LawKit.callS X739 hx (y := (⟨"com/example/sealed_paths/sealedpaths/core/Conditions", "isConstant", "(I)Z"⟩ : MethodName)) hown (mvT hZ (hw _ (List.mem_of_getElem? (i := 96) rfl))) (mvT hZ (hw _ (List.mem_of_getElem? (i := 59) rfl))) (mvT hZ (hw _ (List.mem_of_getElem? (i := 2) rfl))) (mvT hZ (hw _ (List.mem_of_getElem? (i := 60) rfl))) (by decide) (backOf (W := 0) (ric2 l Z a0 hw [] (3 : Int32) T738.heap n0 Z738 (by decide) (by decide)) hZ (hw _ (List.mem_of_getElem? (i := 60) rfl)) (hw _ (List.mem_of_getElem? (i := 2) rfl)) (by decide) (by decide)) (g := (mkF m 45 #[.val (.int fx), .val (.ref b733), .val (.int (2 : Int32)), .val (.int (3 : Int32)), .val (.int (0 : Int32)), .val (.int (1 : Int32)), .unset, .unset] [(.int (3 : Int32))])) rfl (by rw [hml]; rfl) (argsL := [(.int (3 : Int32))]) (rest := []) (lenOf pd_1 rfl) rfl (by show 2 * 0 + _ ≤ _; exact Nat.le_of_eq rfl) (hb hby at_45) (fun _ _ => ⟨rfl, e739, (by decide : 6 + 0 ≤ _), (by decide : 21512 + 0 ≤ _)⟩)
  dsimp only [Pt.U, Pt.locs, Pt.cells, Pt.slots] at X740 l740 y740 z740 st740 hQ740
  subst l740 y740 z740
  obtain ⟨rfl, Nq740, e740⟩ := hQ740
  have N740 := Fr.app N739 Nq740
  obtain ⟨_, _, ⟨T741, L741, k741, n741⟩, -, X741, ⟨Lc741, hQ741, l741, y741, z741⟩, st741⟩ := Jvm.LawKit.callS X740 hx (y := (⟨"com/example/sealed_paths/sealedpaths/core/Conditions", "isConstant", "(I)Z"⟩ : MethodName)) hown (mvT hZ (hw _ (List.mem_of_getElem? (i := 96) rfl))) (mvT hZ (hw _ (List.mem_of_getElem? (i := 59) rfl))) (mvT hZ (hw _ (List.mem_of_getElem? (i := 2) rfl))) (mvT hZ (hw _ (List.mem_of_getElem? (i := 60) rfl))) (by decide) (backOf (W := 0) (ric0 l Z a0 hw [] (0 : Int32) T738.heap n0 Z738 (by decide)) hZ (hw _ (List.mem_of_getElem? (i := 60) rfl)) (hw _ (List.mem_of_getElem? (i := 2) rfl)) (by decide) (by decide)) (g := (mkF m 53 #[.val (.int fx), .val (.ref b733), .val (.int (2 : Int32)), .val (.int (3 : Int32)), .val (.int (0 : Int32)), .val (.int (1 : Int32)), .unset, .unset] [(.int (0 : Int32))])) rfl (by rw [hml]; rfl) (argsL := [(.int (0 : Int32))]) (rest := []) (lenOf pd_1 rfl) rfl (by show 2 * 0 + _ ≤ _; exact Nat.le_of_eq rfl) (hb hby at_53) (fun _ _ => ⟨rfl, e740, (by decide : 6 + 0 ≤ _), (by decide : 21512 + 0 ≤ _)⟩)
  dsimp only [Pt.U, Pt.locs, Pt.cells, Pt.slots] at X741 l741 y741 z741 st741 hQ741
  subst l741 y741 z741
  obtain ⟨rfl, Nq741, e741⟩ := hQ741
  have N741 := Fr.app N740 Nq741
  obtain ⟨_, _, ⟨T742, L742, k742, n742⟩, -, X742, ⟨Lc742, hQ742, l742, y742, z742⟩, st742⟩ := Jvm.LawKit.callS X741 hx (y := (⟨"com/example/sealed_paths/sealedpaths/core/Conditions", "isConstant", "(I)Z"⟩ : MethodName)) hown (mvT hZ (hw _ (List.mem_of_getElem? (i := 96) rfl))) (mvT hZ (hw _ (List.mem_of_getElem? (i := 59) rfl))) (mvT hZ (hw _ (List.mem_of_getElem? (i := 2) rfl))) (mvT hZ (hw _ (List.mem_of_getElem? (i := 60) rfl))) (by decide) (backOf (W := 0) (ric1 l Z a0 hw [] (1 : Int32) T738.heap n0 Z738 (by decide) (by decide)) hZ (hw _ (List.mem_of_getElem? (i := 60) rfl)) (hw _ (List.mem_of_getElem? (i := 2) rfl)) (by decide) (by decide)) (g := (mkF m 61 #[.val (.int fx), .val (.ref b733), .val (.int (2 : Int32)), .val (.int (3 : Int32)), .val (.int (0 : Int32)), .val (.int (1 : Int32)), .unset, .unset] [(.int (1 : Int32))])) rfl (by rw [hml]; rfl) (argsL := [(.int (1 : Int32))]) (rest := []) (lenOf pd_1 rfl) rfl (by show 2 * 0 + _ ≤ _; exact Nat.le_of_eq rfl) (hb hby at_61) (fun _ _ => ⟨rfl, e741, (by decide : 6 + 0 ≤ _), (by decide : 21512 + 0 ≤ _)⟩)
  dsimp only [Pt.U, Pt.locs, Pt.cells, Pt.slots] at X742 l742 y742 z742 st742 hQ742
  subst l742 y742 z742
  obtain ⟨rfl, Nq742, e742⟩ := hQ742
  have N742 := Fr.app N741 Nq742
  obtain ⟨_, _, ⟨T743, L743, k743, n743⟩, -, X743, ⟨Lc743, hQ743, l743, y743, z743⟩, st743⟩ := Jvm.LawKit.callS X742 hx (y := (⟨"com/example/sealed_paths/sealedpaths/core/Conditions", "isConstant", "(I)Z"⟩ : MethodName)) hown (mvT hZ (hw _ (List.mem_of_getElem? (i := 96) rfl))) (mvT hZ (hw _ (List.mem_of_getElem? (i := 59) rfl))) (mvT hZ (hw _ (List.mem_of_getElem? (i := 2) rfl))) (mvT hZ (hw _ (List.mem_of_getElem? (i := 60) rfl))) (by decide) (backOf (W := 0) (ric1 l Z a0 hw [] fx T738.heap n0 Z738 hc86 hc91) hZ (hw _ (List.mem_of_getElem? (i := 60) rfl)) (hw _ (List.mem_of_getElem? (i := 2) rfl)) (by decide) (by decide)) (g := (mkF m 82 #[.val (.int fx), .val (.ref b733), .val (.int (2 : Int32)), .val (.int (3 : Int32)), .val (.int (0 : Int32)), .val (.int (1 : Int32)), .val (.int (1 : Int32)), .unset] [(.int fx)])) rfl (by rw [hml]; rfl) (argsL := [(.int fx)]) (rest := []) (lenOf pd_1 rfl) rfl (by show 2 * 0 + _ ≤ _; exact Nat.le_of_eq rfl) (hb hby at_82) (fun _ _ => ⟨rfl, e742, (by decide : 6 + 0 ≤ _), (by decide : 21512 + 0 ≤ _)⟩)
  dsimp only [Pt.U, Pt.locs, Pt.cells, Pt.slots] at X743 l743 y743 z743 st743 hQ743
  subst l743 y743 z743
  obtain ⟨rfl, Nq743, e743⟩ := hQ743
  have N743 := Fr.app N742 Nq743
  obtain ⟨fs, hr, hrun, hended, hW, hsame⟩ := X743.leave (v := some (.int (1 : Int32))) (fun h => by rw [Bd.returns] at h; cases h)
  refine ⟨_, _, pre0 _ ?_, hrun, hended, _, _, rfl, ?_, ⟨_, rfl⟩, hW, hsame.mono (by decide) (by decide)⟩
  · show Steps p.tables e below (s₁.setTop (mkF m 0 #[.val (.int fx), .unset, .unset, .unset, .unset, .unset, .unset, .unset] [])) _
    refine st733 _ ?_
    show Steps p.tables e below (T733.setTop (mkF m 3 #[.val (.int fx), .unset, .unset, .unset, .unset, .unset, .unset, .unset] [(.ref b733)])) _
    refine XS.dup X733.here hx rfl (hb hby at_3) rfl rfl ?_
    show Steps p.tables e below (T733.setTop (mkF m 4 #[.val (.int fx), .unset, .unset, .unset, .unset, .unset, .unset, .unset] [(.ref b733), (.ref b733)])) _
    refine XS.bipush X733.here hx rfl (hb hby at_4) ?_
    show Steps p.tables e below (T733.setTop (mkF m 6 #[.val (.int fx), .unset, .unset, .unset, .unset, .unset, .unset, .unset] [(.int (16 : Int32)), (.ref b733), (.ref b733)])) _
    refine st734.trans ?_
    show Steps p.tables e below (T734.setTop (mkF m 9 #[.val (.int fx), .unset, .unset, .unset, .unset, .unset, .unset, .unset] [(.ref b733)])) _
    refine XS.astoreN X734.here hx rfl (hb hby at_9) rfl rfl (l' := #[.val (.int fx), .val (.ref b733), .unset, .unset, .unset, .unset, .unset, .unset]) rfl ?_
    show Steps p.tables e below (T734.setTop (mkF m 10 #[.val (.int fx), .val (.ref b733), .unset, .unset, .unset, .unset, .unset, .unset] [])) _
    refine XS.aloadN X734.here hx rfl (hb hby at_10) rfl rfl ?_
    show Steps p.tables e below (T734.setTop (mkF m 11 #[.val (.int fx), .val (.ref b733), .unset, .unset, .unset, .unset, .unset, .unset] [(.ref b733)])) _
    refine st735.trans ?_
    show Steps p.tables e below (T735.setTop (mkF m 14 #[.val (.int fx), .val (.ref b733), .unset, .unset, .unset, .unset, .unset, .unset] [(.int (2 : Int32))])) _
    refine XS.istoreN X735.here hx rfl (hb hby at_14) rfl (l' := #[.val (.int fx), .val (.ref b733), .val (.int (2 : Int32)), .unset, .unset, .unset, .unset, .unset]) rfl ?_
    show Steps p.tables e below (T735.setTop (mkF m 15 #[.val (.int fx), .val (.ref b733), .val (.int (2 : Int32)), .unset, .unset, .unset, .unset, .unset] [])) _
    refine XS.aloadN X735.here hx rfl (hb hby at_15) rfl rfl ?_
    show Steps p.tables e below (T735.setTop (mkF m 16 #[.val (.int fx), .val (.ref b733), .val (.int (2 : Int32)), .unset, .unset, .unset, .unset, .unset] [(.ref b733)])) _
    refine XS.iloadN X735.here hx rfl (hb hby at_16) rfl ?_
    show Steps p.tables e below (T735.setTop (mkF m 17 #[.val (.int fx), .val (.ref b733), .val (.int (2 : Int32)), .unset, .unset, .unset, .unset, .unset] [(.int (2 : Int32)), (.ref b733)])) _
    refine st736.trans ?_
    show Steps p.tables e below (T736.setTop (mkF m 20 #[.val (.int fx), .val (.ref b733), .val (.int (2 : Int32)), .unset, .unset, .unset, .unset, .unset] [(.int (3 : Int32))])) _
    refine XS.istoreN X736.here hx rfl (hb hby at_20) rfl (l' := #[.val (.int fx), .val (.ref b733), .val (.int (2 : Int32)), .val (.int (3 : Int32)), .unset, .unset, .unset, .unset]) rfl ?_
    show Steps p.tables e below (T736.setTop (mkF m 21 #[.val (.int fx), .val (.ref b733), .val (.int (2 : Int32)), .val (.int (3 : Int32)), .unset, .unset, .unset, .unset] [])) _
    refine XS.aloadN X736.here hx rfl (hb hby at_21) rfl rfl ?_
    show Steps p.tables e below (T736.setTop (mkF m 22 #[.val (.int fx), .val (.ref b733), .val (.int (2 : Int32)), .val (.int (3 : Int32)), .unset, .unset, .unset, .unset] [(.ref b733)])) _
    refine XS.iloadN X736.here hx rfl (hb hby at_22) rfl ?_
    show Steps p.tables e below (T736.setTop (mkF m 23 #[.val (.int fx), .val (.ref b733), .val (.int (2 : Int32)), .val (.int (3 : Int32)), .unset, .unset, .unset, .unset] [(.int (2 : Int32)), (.ref b733)])) _
    refine XS.iloadN X736.here hx rfl (hb hby at_23) rfl ?_
    show Steps p.tables e below (T736.setTop (mkF m 24 #[.val (.int fx), .val (.ref b733), .val (.int (2 : Int32)), .val (.int (3 : Int32)), .unset, .unset, .unset, .unset] [(.int (3 : Int32)), (.int (2 : Int32)), (.ref b733)])) _
    refine st737.trans ?_
    show Steps p.tables e below (T737.setTop (mkF m 27 #[.val (.int fx), .val (.ref b733), .val (.int (2 : Int32)), .val (.int (3 : Int32)), .unset, .unset, .unset, .unset] [(.int (0 : Int32))])) _
    refine XS.istore X737.here hx rfl (hb hby at_27) rfl (l' := #[.val (.int fx), .val (.ref b733), .val (.int (2 : Int32)), .val (.int (3 : Int32)), .val (.int (0 : Int32)), .unset, .unset, .unset]) rfl ?_
    show Steps p.tables e below (T737.setTop (mkF m 29 #[.val (.int fx), .val (.ref b733), .val (.int (2 : Int32)), .val (.int (3 : Int32)), .val (.int (0 : Int32)), .unset, .unset, .unset] [])) _
    refine XS.aloadN X737.here hx rfl (hb hby at_29) rfl rfl ?_
    show Steps p.tables e below (T737.setTop (mkF m 30 #[.val (.int fx), .val (.ref b733), .val (.int (2 : Int32)), .val (.int (3 : Int32)), .val (.int (0 : Int32)), .unset, .unset, .unset] [(.ref b733)])) _
    refine XS.iloadN X737.here hx rfl (hb hby at_30) rfl ?_
    show Steps p.tables e below (T737.setTop (mkF m 31 #[.val (.int fx), .val (.ref b733), .val (.int (2 : Int32)), .val (.int (3 : Int32)), .val (.int (0 : Int32)), .unset, .unset, .unset] [(.int (2 : Int32)), (.ref b733)])) _
    refine XS.iloadN X737.here hx rfl (hb hby at_31) rfl ?_
    show Steps p.tables e below (T737.setTop (mkF m 32 #[.val (.int fx), .val (.ref b733), .val (.int (2 : Int32)), .val (.int (3 : Int32)), .val (.int (0 : Int32)), .unset, .unset, .unset] [(.int (3 : Int32)), (.int (2 : Int32)), (.ref b733)])) _
    refine st738.trans ?_
    show Steps p.tables e below (T738.setTop (mkF m 35 #[.val (.int fx), .val (.ref b733), .val (.int (2 : Int32)), .val (.int (3 : Int32)), .val (.int (0 : Int32)), .unset, .unset, .unset] [(.int (1 : Int32))])) _
    refine XS.istore X738.here hx rfl (hb hby at_35) rfl (l' := #[.val (.int fx), .val (.ref b733), .val (.int (2 : Int32)), .val (.int (3 : Int32)), .val (.int (0 : Int32)), .val (.int (1 : Int32)), .unset, .unset]) rfl ?_
    show Steps p.tables e below (T738.setTop (mkF m 37 #[.val (.int fx), .val (.ref b733), .val (.int (2 : Int32)), .val (.int (3 : Int32)), .val (.int (0 : Int32)), .val (.int (1 : Int32)), .unset, .unset] [])) _
    refine XS.iloadN X738.here hx rfl (hb hby at_37) rfl ?_
    show Steps p.tables e below (T738.setTop (mkF m 38 #[.val (.int fx), .val (.ref b733), .val (.int (2 : Int32)), .val (.int (3 : Int32)), .val (.int (0 : Int32)), .val (.int (1 : Int32)), .unset, .unset] [(.int (2 : Int32))])) _
    refine st739 _ ?_
    show Steps p.tables e below (T739.setTop (mkF m 41 #[.val (.int fx), .val (.ref b733), .val (.int (2 : Int32)), .val (.int (3 : Int32)), .val (.int (0 : Int32)), .val (.int (1 : Int32)), .unset, .unset] [(.int (0 : Int32))])) _
    refine XS.ifNo X739.here hx rfl (hb hby at_41) rfl ((if0 _ _).trans (teq (by decide)).2) ?_
    show Steps p.tables e below (T739.setTop (mkF m 44 #[.val (.int fx), .val (.ref b733), .val (.int (2 : Int32)), .val (.int (3 : Int32)), .val (.int (0 : Int32)), .val (.int (1 : Int32)), .unset, .unset] [])) _
    refine XS.iloadN X739.here hx rfl (hb hby at_44) rfl ?_
    show Steps p.tables e below (T739.setTop (mkF m 45 #[.val (.int fx), .val (.ref b733), .val (.int (2 : Int32)), .val (.int (3 : Int32)), .val (.int (0 : Int32)), .val (.int (1 : Int32)), .unset, .unset] [(.int (3 : Int32))])) _
    refine st740 _ ?_
    show Steps p.tables e below (T740.setTop (mkF m 48 #[.val (.int fx), .val (.ref b733), .val (.int (2 : Int32)), .val (.int (3 : Int32)), .val (.int (0 : Int32)), .val (.int (1 : Int32)), .unset, .unset] [(.int (0 : Int32))])) _
    refine XS.ifNo X740.here hx rfl (hb hby at_48) rfl ((if0 _ _).trans (teq (by decide)).2) ?_
    show Steps p.tables e below (T740.setTop (mkF m 51 #[.val (.int fx), .val (.ref b733), .val (.int (2 : Int32)), .val (.int (3 : Int32)), .val (.int (0 : Int32)), .val (.int (1 : Int32)), .unset, .unset] [])) _
    refine XS.iload X740.here hx rfl (hb hby at_51) rfl ?_
    show Steps p.tables e below (T740.setTop (mkF m 53 #[.val (.int fx), .val (.ref b733), .val (.int (2 : Int32)), .val (.int (3 : Int32)), .val (.int (0 : Int32)), .val (.int (1 : Int32)), .unset, .unset] [(.int (0 : Int32))])) _
    refine st741 _ ?_
    show Steps p.tables e below (T741.setTop (mkF m 56 #[.val (.int fx), .val (.ref b733), .val (.int (2 : Int32)), .val (.int (3 : Int32)), .val (.int (0 : Int32)), .val (.int (1 : Int32)), .unset, .unset] [(.int (1 : Int32))])) _
    refine XS.ifNo X741.here hx rfl (hb hby at_56) rfl ((if0 _ _).trans (feq (by decide)).1) ?_
    show Steps p.tables e below (T741.setTop (mkF m 59 #[.val (.int fx), .val (.ref b733), .val (.int (2 : Int32)), .val (.int (3 : Int32)), .val (.int (0 : Int32)), .val (.int (1 : Int32)), .unset, .unset] [])) _
    refine XS.iload X741.here hx rfl (hb hby at_59) rfl ?_
    show Steps p.tables e below (T741.setTop (mkF m 61 #[.val (.int fx), .val (.ref b733), .val (.int (2 : Int32)), .val (.int (3 : Int32)), .val (.int (0 : Int32)), .val (.int (1 : Int32)), .unset, .unset] [(.int (1 : Int32))])) _
    refine st742 _ ?_
    show Steps p.tables e below (T742.setTop (mkF m 64 #[.val (.int fx), .val (.ref b733), .val (.int (2 : Int32)), .val (.int (3 : Int32)), .val (.int (0 : Int32)), .val (.int (1 : Int32)), .unset, .unset] [(.int (1 : Int32))])) _
    refine XS.ifNo X742.here hx rfl (hb hby at_64) rfl ((if0 _ _).trans (feq (by decide)).1) ?_
    show Steps p.tables e below (T742.setTop (mkF m 67 #[.val (.int fx), .val (.ref b733), .val (.int (2 : Int32)), .val (.int (3 : Int32)), .val (.int (0 : Int32)), .val (.int (1 : Int32)), .unset, .unset] [])) _
    refine XS.iload X742.here hx rfl (hb hby at_67) rfl ?_
    show Steps p.tables e below (T742.setTop (mkF m 69 #[.val (.int fx), .val (.ref b733), .val (.int (2 : Int32)), .val (.int (3 : Int32)), .val (.int (0 : Int32)), .val (.int (1 : Int32)), .unset, .unset] [(.int (0 : Int32))])) _
    refine XS.iload X742.here hx rfl (hb hby at_69) rfl ?_
    show Steps p.tables e below (T742.setTop (mkF m 71 #[.val (.int fx), .val (.ref b733), .val (.int (2 : Int32)), .val (.int (3 : Int32)), .val (.int (0 : Int32)), .val (.int (1 : Int32)), .unset, .unset] [(.int (1 : Int32)), (.int (0 : Int32))])) _
    refine XS.icmpNo X742.here hx rfl (hb hby at_71) rfl (feq (by decide)).1 ?_
    show Steps p.tables e below (T742.setTop (mkF m 74 #[.val (.int fx), .val (.ref b733), .val (.int (2 : Int32)), .val (.int (3 : Int32)), .val (.int (0 : Int32)), .val (.int (1 : Int32)), .unset, .unset] [])) _
    refine XS.iconst X742.here hx rfl (hb hby at_74) ?_
    show Steps p.tables e below (T742.setTop (mkF m 75 #[.val (.int fx), .val (.ref b733), .val (.int (2 : Int32)), .val (.int (3 : Int32)), .val (.int (0 : Int32)), .val (.int (1 : Int32)), .unset, .unset] [(.int (1 : Int32))])) _
    refine XS.goto X742.here hx rfl (pc0 := 75) (pc' := 79) rfl (hb hby at_75) (by decide) (by decide) ?_
    show Steps p.tables e below (T742.setTop (mkF m 79 #[.val (.int fx), .val (.ref b733), .val (.int (2 : Int32)), .val (.int (3 : Int32)), .val (.int (0 : Int32)), .val (.int (1 : Int32)), .unset, .unset] [(.int (1 : Int32))])) _
    refine XS.istore X742.here hx rfl (hb hby at_79) rfl (l' := #[.val (.int fx), .val (.ref b733), .val (.int (2 : Int32)), .val (.int (3 : Int32)), .val (.int (0 : Int32)), .val (.int (1 : Int32)), .val (.int (1 : Int32)), .unset]) rfl ?_
    show Steps p.tables e below (T742.setTop (mkF m 81 #[.val (.int fx), .val (.ref b733), .val (.int (2 : Int32)), .val (.int (3 : Int32)), .val (.int (0 : Int32)), .val (.int (1 : Int32)), .val (.int (1 : Int32)), .unset] [])) _
    refine XS.iloadN X742.here hx rfl (hb hby at_81) rfl ?_
    show Steps p.tables e below (T742.setTop (mkF m 82 #[.val (.int fx), .val (.ref b733), .val (.int (2 : Int32)), .val (.int (3 : Int32)), .val (.int (0 : Int32)), .val (.int (1 : Int32)), .val (.int (1 : Int32)), .unset] [(.int fx)])) _
    refine st743 _ ?_
    show Steps p.tables e below (T743.setTop (mkF m 85 #[.val (.int fx), .val (.ref b733), .val (.int (2 : Int32)), .val (.int (3 : Int32)), .val (.int (0 : Int32)), .val (.int (1 : Int32)), .val (.int (1 : Int32)), .unset] [(.int (1 : Int32))])) _
    refine XS.iloadN X743.here hx rfl (hb hby at_85) rfl ?_
    show Steps p.tables e below (T743.setTop (mkF m 86 #[.val (.int fx), .val (.ref b733), .val (.int (2 : Int32)), .val (.int (3 : Int32)), .val (.int (0 : Int32)), .val (.int (1 : Int32)), .val (.int (1 : Int32)), .unset] [(.int fx), (.int (1 : Int32))])) _
    refine XS.ifNo X743.here hx rfl (hb hby at_86) rfl ((if0 _ _).trans (feq hc86).1) ?_
    show Steps p.tables e below (T743.setTop (mkF m 89 #[.val (.int fx), .val (.ref b733), .val (.int (2 : Int32)), .val (.int (3 : Int32)), .val (.int (0 : Int32)), .val (.int (1 : Int32)), .val (.int (1 : Int32)), .unset] [(.int (1 : Int32))])) _
    refine XS.iloadN X743.here hx rfl (hb hby at_89) rfl ?_
    show Steps p.tables e below (T743.setTop (mkF m 90 #[.val (.int fx), .val (.ref b733), .val (.int (2 : Int32)), .val (.int (3 : Int32)), .val (.int (0 : Int32)), .val (.int (1 : Int32)), .val (.int (1 : Int32)), .unset] [(.int fx), (.int (1 : Int32))])) _
    refine XS.iconst X743.here hx rfl (hb hby at_90) ?_
    show Steps p.tables e below (T743.setTop (mkF m 91 #[.val (.int fx), .val (.ref b733), .val (.int (2 : Int32)), .val (.int (3 : Int32)), .val (.int (0 : Int32)), .val (.int (1 : Int32)), .val (.int (1 : Int32)), .unset] [(.int (1 : Int32)), (.int fx), (.int (1 : Int32))])) _
    refine XS.icmpNo X743.here hx rfl (hb hby at_91) rfl (teq hc91).2 ?_
    show Steps p.tables e below (T743.setTop (mkF m 94 #[.val (.int fx), .val (.ref b733), .val (.int (2 : Int32)), .val (.int (3 : Int32)), .val (.int (0 : Int32)), .val (.int (1 : Int32)), .val (.int (1 : Int32)), .unset] [(.int (1 : Int32))])) _
    refine XS.iconst X743.here hx rfl (hb hby at_94) ?_
    show Steps p.tables e below (T743.setTop (mkF m 95 #[.val (.int fx), .val (.ref b733), .val (.int (2 : Int32)), .val (.int (3 : Int32)), .val (.int (0 : Int32)), .val (.int (1 : Int32)), .val (.int (1 : Int32)), .unset] [(.int (1 : Int32)), (.int (1 : Int32))])) _
    refine XS.goto X743.here hx rfl (pc0 := 95) (pc' := 99) rfl (hb hby at_95) (by decide) (by decide) ?_
    show Steps p.tables e below (T743.setTop (mkF m 99 #[.val (.int fx), .val (.ref b733), .val (.int (2 : Int32)), .val (.int (3 : Int32)), .val (.int (0 : Int32)), .val (.int (1 : Int32)), .val (.int (1 : Int32)), .unset] [(.int (1 : Int32)), (.int (1 : Int32))])) _
    refine XS.icmpNo X743.here hx rfl (hb hby at_99) rfl (teq (by decide)).2 ?_
    show Steps p.tables e below (T743.setTop (mkF m 102 #[.val (.int fx), .val (.ref b733), .val (.int (2 : Int32)), .val (.int (3 : Int32)), .val (.int (0 : Int32)), .val (.int (1 : Int32)), .val (.int (1 : Int32)), .unset] [])) _
    refine XS.iconst X743.here hx rfl (hb hby at_102) ?_
    show Steps p.tables e below (T743.setTop (mkF m 103 #[.val (.int fx), .val (.ref b733), .val (.int (2 : Int32)), .val (.int (3 : Int32)), .val (.int (0 : Int32)), .val (.int (1 : Int32)), .val (.int (1 : Int32)), .unset] [(.int (1 : Int32))])) _
    refine XS.goto X743.here hx rfl (pc0 := 103) (pc' := 107) rfl (hb hby at_103) (by decide) (by decide) ?_
    show Steps p.tables e below (T743.setTop (mkF m 107 #[.val (.int fx), .val (.ref b733), .val (.int (2 : Int32)), .val (.int (3 : Int32)), .val (.int (0 : Int32)), .val (.int (1 : Int32)), .val (.int (1 : Int32)), .unset] [(.int (1 : Int32))])) _
    refine XS.istore X743.here hx rfl (hb hby at_107) rfl (l' := #[.val (.int fx), .val (.ref b733), .val (.int (2 : Int32)), .val (.int (3 : Int32)), .val (.int (0 : Int32)), .val (.int (1 : Int32)), .val (.int (1 : Int32)), .val (.int (1 : Int32))]) rfl ?_
    show Steps p.tables e below (T743.setTop (mkF m 109 #[.val (.int fx), .val (.ref b733), .val (.int (2 : Int32)), .val (.int (3 : Int32)), .val (.int (0 : Int32)), .val (.int (1 : Int32)), .val (.int (1 : Int32)), .val (.int (1 : Int32))] [])) _
    refine XS.iload X743.here hx rfl (hb hby at_109) rfl ?_
    show Steps p.tables e below (T743.setTop (mkF m 111 #[.val (.int fx), .val (.ref b733), .val (.int (2 : Int32)), .val (.int (3 : Int32)), .val (.int (0 : Int32)), .val (.int (1 : Int32)), .val (.int (1 : Int32)), .val (.int (1 : Int32))] [(.int (1 : Int32))])) _
    refine XS.ifNo X743.here hx rfl (hb hby at_111) rfl ((if0 _ _).trans (feq (by decide)).1) ?_
    show Steps p.tables e below (T743.setTop (mkF m 114 #[.val (.int fx), .val (.ref b733), .val (.int (2 : Int32)), .val (.int (3 : Int32)), .val (.int (0 : Int32)), .val (.int (1 : Int32)), .val (.int (1 : Int32)), .val (.int (1 : Int32))] [])) _
    refine XS.iload X743.here hx rfl (hb hby at_114) rfl ?_
    show Steps p.tables e below (T743.setTop (mkF m 116 #[.val (.int fx), .val (.ref b733), .val (.int (2 : Int32)), .val (.int (3 : Int32)), .val (.int (0 : Int32)), .val (.int (1 : Int32)), .val (.int (1 : Int32)), .val (.int (1 : Int32))] [(.int (1 : Int32))])) _
    refine XS.ifNo X743.here hx rfl (hb hby at_116) rfl ((if0 _ _).trans (feq (by decide)).1) ?_
    show Steps p.tables e below (T743.setTop (mkF m 119 #[.val (.int fx), .val (.ref b733), .val (.int (2 : Int32)), .val (.int (3 : Int32)), .val (.int (0 : Int32)), .val (.int (1 : Int32)), .val (.int (1 : Int32)), .val (.int (1 : Int32))] [])) _
    refine XS.iconst X743.here hx rfl (hb hby at_119) ?_
    show Steps p.tables e below (T743.setTop (mkF m 120 #[.val (.int fx), .val (.ref b733), .val (.int (2 : Int32)), .val (.int (3 : Int32)), .val (.int (0 : Int32)), .val (.int (1 : Int32)), .val (.int (1 : Int32)), .val (.int (1 : Int32))] [(.int (1 : Int32))])) _
    refine XS.goto X743.here hx rfl (pc0 := 120) (pc' := 124) rfl (hb hby at_120) (by decide) (by decide) ?_
    show Steps p.tables e below (T743.setTop (mkF m 124 #[.val (.int fx), .val (.ref b733), .val (.int (2 : Int32)), .val (.int (3 : Int32)), .val (.int (0 : Int32)), .val (.int (1 : Int32)), .val (.int (1 : Int32)), .val (.int (1 : Int32))] [(.int (1 : Int32))])) _
    exact retN X743 hx (t := .boolean) Bd.returns (by simp) (hb hby at_124) hr
  · show QL n0 _ T743.heap _
    rw [e743]
    exact ⟨rfl, N743⟩
set_option maxRecDepth 65536 in
set_option maxHeartbeats 40000000 in
theorem rm0_2 (l : Launch) (Z : State) (a0 : Array Value) (hw : ∀ d ∈ tables_1, d.before a0 Z = true) (ws : List Jvm.Cond) (fx : Int32) (ch : Addr) (cl : Cell) (b0 b1 : Addr) (h0 : Heap) (n0 : Nat) (Z0 : n0 ≤ h0.size) (Od : Old Z n0 h0) (hI : IC Z ch cl b0 b1) (hc86 : ¬ (fx = (0 : Int32))) (hc91 : ¬ (fx = (1 : Int32))) :
    MetFree l x (head1 (Jvm.Cond.code x code maxLocals ret :: ws) room_1) (fun zA zU => zA = #[(.int fx)] ∧ Z.Warmed39 zU.vm ∧ zU.heap = h0) (fun _ _ _ _ _ => True) (fun _ zU zO zW => ∃ zV zL, zO = .returned zV ∧ QL n0 zV zW.heap zL ∧ FrameEnd zU zO zW zL room_1.cells room_1.slots) := by
  refine MetFree.of_bodySF (plainFor_of_name pn_ConditionsIsConstantPinLaw) hisR ?_
  intro p e s m args below meth c s₁ Bd hml0 hP hK
  obtain ⟨rfl, hZ, hh⟩ := hP
  have hx := Bd.exec
  have hby := Bd.bytes
  have hml : c.maxLocals = 8 := hml0
  have hown : s.vm.findClass "com/example/sealed_paths/sealedpaths/core/ConditionsIsConstantPinLaw" = some m.cls := findClass_of_methodNamed Bd.named
  have hnm := (name_of_methodNamed Bd.named Bd.method).1
  have X0 : Stand p l e room_1 s m #[(.int fx)] below meth c s₁ [] 0 0 := Stand.of_body Bd
  have e0 : s₁.heap = h0 := by rw [← hh, Bd.state]; rfl
  have N0 := Fr.nil n0
  have pre0 : ∀ zt, Steps p.tables e below (s₁.setTop (mkF m 0 #[.val (.int fx), .unset, .unset, .unset, .unset, .unset, .unset, .unset] [])) zt → Steps p.tables e below (s₁.setTop (entryFrame m #[(.int fx)] maxLocals)) zt := fun zt zk => castTop (ef_0_I m fx) zk
  have hI0 := hI
  obtain ⟨Sh, Sc, Ach, Sz, A128, A129, Eb0, Eb1, Fb0, Fb1⟩ := hI
  obtain ⟨T744, h744, X744, e744, E744, A744, D744, -, st744⟩ := newO X0 hx hZ hown (hw _ (List.mem_of_getElem? (i := 0) rfl)) (hw _ (List.mem_of_getElem? (i := 1) rfl)) (hw _ (List.mem_of_getElem? (i := 2) rfl)) e0 (g := (mkF m 0 #[.val (.int fx), .unset, .unset, .unset, .unset, .unset, .unset, .unset] [])) rfl (hb hby at_0) (by decide) (by decide)
  obtain ⟨b744, g744⟩ : ∃ z, z = h0.size := ⟨_, rfl⟩
  rw [← g744] at A744 D744 st744
  have gz744 : n0 ≤ b744 := Nat.le_trans Z0 (Nat.le_of_eq g744.symm)
  have Z744 := Nat.le_trans Z0 E744.1
  have Od744 := Od.ext E744
  have F744_variables : Fld Z h744 b744 "com/example/sealed_paths/sealedpaths/core/Conditions" "variables" "[I" .null := D744 (Or.inl (hw _ (List.mem_of_getElem? (i := 11) rfl))) (ty := (.array .int)) (by decide)
  have F744_lows : Fld Z h744 b744 "com/example/sealed_paths/sealedpaths/core/Conditions" "lows" "[I" .null := D744 (Or.inl (hw _ (List.mem_of_getElem? (i := 13) rfl))) (ty := (.array .int)) (by decide)
  have F744_highs : Fld Z h744 b744 "com/example/sealed_paths/sealedpaths/core/Conditions" "highs" "[I" .null := D744 (Or.inl (hw _ (List.mem_of_getElem? (i := 15) rfl))) (ty := (.array .int)) (by decide)
  have F744_table : Fld Z h744 b744 "com/example/sealed_paths/sealedpaths/core/Conditions" "table" "[I" .null := D744 (Or.inl (hw _ (List.mem_of_getElem? (i := 17) rfl))) (ty := (.array .int)) (by decide)
  have F744_cached : Fld Z h744 b744 "com/example/sealed_paths/sealedpaths/core/Conditions" "cached" "[I" .null := D744 (Or.inl (hw _ (List.mem_of_getElem? (i := 19) rfl))) (ty := (.array .int)) (by decide)
  have F744_limit : Fld Z h744 b744 "com/example/sealed_paths/sealedpaths/core/Conditions" "limit" "I" (.int (0 : Int32)) := D744 (Or.inr (hw _ (List.mem_of_getElem? (i := 21) rfl))) (ty := .int) (by decide)
  have F744_size : Fld Z h744 b744 "com/example/sealed_paths/sealedpaths/core/Conditions" "size" "I" (.int (0 : Int32)) := D744 (Or.inl (hw _ (List.mem_of_getElem? (i := 28) rfl))) (ty := .int) (by decide)
  have F744_variableCount : Fld Z h744 b744 "com/example/sealed_paths/sealedpaths/core/Conditions" "variableCount" "I" (.int (0 : Int32)) := D744 (Or.inl (hw _ (List.mem_of_getElem? (i := 35) rfl))) (ty := .int) (by decide)
  obtain ⟨_, _, ⟨T745, L745, k745, n745⟩, -, X745, ⟨Lc745, hQ745, l745, y745, z745⟩, st745⟩ := X744.specialBack hx (y := (⟨"com/example/sealed_paths/sealedpaths/core/Conditions", "<init>", "(I)V"⟩ : MethodName)) rfl hown (mvT hZ (hw _ (List.mem_of_getElem? (i := 3) rfl))) (mvT hZ (hw _ (List.mem_of_getElem? (i := 4) rfl))) (mvT hZ (hw _ (List.mem_of_getElem? (i := 5) rfl))) (by decide) (backOf (W := 1) (rini l Z a0 hw [] b744 h744 n0 Z744 A744 F744_variables F744_lows F744_highs F744_table F744_cached F744_limit F744_size F744_variableCount gz744) hZ (hw _ (List.mem_of_getElem? (i := 5) rfl)) (hw _ (List.mem_of_getElem? (i := 2) rfl)) (by decide) (by decide)) (g := (mkF m 6 #[.val (.int fx), .unset, .unset, .unset, .unset, .unset, .unset, .unset] [(.int (16 : Int32)), (.ref b744), (.ref b744)])) rfl (by rw [hml]; rfl) (Steps.refl _) (a := b744) (argsL := [(.int (16 : Int32))]) (rest := [(.ref b744)]) (lenOf pd_8 rfl) rfl (by show 2 * 0 + _ ≤ _; exact Nat.le_of_eq rfl) (hb hby at_6) (fun _ _ => ⟨rfl, e744, (by decide : 1 + 5 ≤ _), (by decide : 8 + 21504 ≤ _)⟩)
  dsimp only [Pt.U, Pt.locs, Pt.cells, Pt.slots] at X745 l745 y745 z745 st745 hQ745
  subst l745 y745 z745
  obtain ⟨vs745, lo745, hi745, tb745, ca745, rfl, Nq745, Kq745, hD745, G745_1, G745_2, G745_3, G745_4, G745_5, G745_6, G745_7, G745_8, G745_9, G745_10, G745_11, G745_12, G745_13, G745_14⟩ := hQ745
  have N745 := Fr.app N0 Nq745
  have Z745 := Nat.le_trans Z744 Kq745.1
  have Od745 := Od744.keep Kq745 (allS gz744 all0)
  have hE745 := hD745
  obtain ⟨gq745_0, gq745_1, gq745_2, gq745_3, gq745_4, gq745_5, nq745_0, nq745_1, nq745_2, nq745_3, nq745_4, nq745_5, nq745_6, nq745_7, nq745_8, nq745_9, nq745_10, nq745_11, nq745_12, nq745_13, nq745_14⟩ := hD745
  obtain ⟨cq746, kq746, q746a, q746b, q746c⟩ := isOf hZ rfl G745_1
  obtain ⟨_, _, ⟨T746, L746, k746, n746⟩, -, X746, ⟨Lc746, hQ746, l746, y746, z746⟩, st746⟩ := X745.virtualBack hx (y := (⟨"com/example/sealed_paths/sealedpaths/core/Conditions", "newVariable", "()I"⟩ : MethodName)) (z := (⟨"com/example/sealed_paths/sealedpaths/core/Conditions", "newVariable", "()I"⟩ : MethodName)) hown (mvT hZ (hw _ (List.mem_of_getElem? (i := 29) rfl))) (mvT hZ (hw _ (List.mem_of_getElem? (i := 30) rfl))) (notFace_of_selects (args := #[]) (mvT hZ (hw _ (List.mem_of_getElem? (i := 32) rfl)))) (mvT hZ (hw _ (List.mem_of_getElem? (i := 32) rfl))) (mvT hZ (hw _ (List.mem_of_getElem? (i := 31) rfl))) (by decide) (backOf (W := 0) (rnv l Z a0 hw [] b744 vs745 lo745 hi745 tb745 ca745 (upd (upd (fun _ => (0 : Int32)) 0 (2147483647 : Int32)) 1 (2147483647 : Int32)) (fun _ => (0 : Int32)) (fun _ => (0 : Int32)) (fun _ => (-1 : Int32)) (fun _ => (-1 : Int32)) T745.heap n0 Z745 ⟨G745_1, G745_2, G745_3, G745_4, G745_5, G745_6, G745_7, G745_8, G745_9, G745_10, G745_11, G745_12, G745_13, G745_14⟩ hE745 rfl) hZ (hw _ (List.mem_of_getElem? (i := 33) rfl)) (hw _ (List.mem_of_getElem? (i := 2) rfl)) (by decide) (by decide)) q746a q746c (g := (mkF m 11 #[.val (.int fx), .val (.ref b744), .unset, .unset, .unset, .unset, .unset, .unset] [(.ref b744)])) rfl (by rw [hml]; rfl) (Steps.refl _) (argsL := []) (rest := []) (lenOf pd_4 rfl) rfl (by show 2 * 0 + _ ≤ _; exact Nat.le_of_eq rfl) (hb hby at_11) (fun _ _ => ⟨rfl, rfl, (by decide : 6 + 0 ≤ _), (by decide : 21512 + 0 ≤ _)⟩)
  dsimp only [Pt.U, Pt.locs, Pt.cells, Pt.slots] at X746 l746 y746 z746 st746 hQ746
  subst l746 y746 z746
  obtain ⟨rfl, Nq746, Kq746, G746_0, G746_1, G746_2, G746_3, G746_4, G746_5, G746_6, G746_7, G746_8, G746_9, G746_10, G746_11, G746_12, G746_13⟩ := hQ746
  have N746 := Fr.app N745 Nq746
  have Z746 := Nat.le_trans Z745 Kq746.1
  have Od746 := Od745.keep Kq746 (allS gq745_0 (allS gq745_1 (allS gq745_2 (allS gq745_3 (allS gq745_4 (allS gq745_5 all0))))))
  obtain ⟨cq747, kq747, q747a, q747b, q747c⟩ := isOf hZ rfl G746_0
  obtain ⟨_, _, ⟨T747, L747, k747, n747⟩, -, X747, ⟨Lc747, hQ747, l747, y747, z747⟩, st747⟩ := X746.virtualBack hx (y := (⟨"com/example/sealed_paths/sealedpaths/core/Conditions", "not", "(I)I"⟩ : MethodName)) (z := (⟨"com/example/sealed_paths/sealedpaths/core/Conditions", "not", "(I)I"⟩ : MethodName)) hown (mvT hZ (hw _ (List.mem_of_getElem? (i := 46) rfl))) (mvT hZ (hw _ (List.mem_of_getElem? (i := 47) rfl))) (notFace_of_selects (args := #[]) (mvT hZ (hw _ (List.mem_of_getElem? (i := 49) rfl)))) (mvT hZ (hw _ (List.mem_of_getElem? (i := 49) rfl))) (mvT hZ (hw _ (List.mem_of_getElem? (i := 48) rfl))) (by decide) (backOf (W := 0) (rnot l Z a0 hw [] b744 vs745 lo745 hi745 tb745 ca745 (1 : Int32) (upd (upd (upd (fun _ => (0 : Int32)) 0 (2147483647 : Int32)) 1 (2147483647 : Int32)) 2 (0 : Int32)) (upd (fun _ => (0 : Int32)) 2 (0 : Int32)) (upd (fun _ => (0 : Int32)) 2 (1 : Int32)) (upd (fun _ => (-1 : Int32)) 1818 (2 : Int32)) (fun _ => (-1 : Int32)) ch cl b0 b1 T746.heap n0 Z746 ⟨G746_0, G746_1, G746_2, G746_3, G746_4, G746_5, G746_6, G746_7, G746_8, G746_9, G746_10, G746_11, G746_12, G746_13⟩ hE745 Od746 hI0 rfl rfl rfl rfl rfl) hZ (hw _ (List.mem_of_getElem? (i := 50) rfl)) (hw _ (List.mem_of_getElem? (i := 2) rfl)) (by decide) (by decide)) q747a q747c (g := (mkF m 17 #[.val (.int fx), .val (.ref b744), .val (.int (2 : Int32)), .unset, .unset, .unset, .unset, .unset] [(.int (2 : Int32)), (.ref b744)])) rfl (by rw [hml]; rfl) (Steps.refl _) (argsL := [(.int (2 : Int32))]) (rest := []) (lenOf pd_9 rfl) rfl (by show 2 * 0 + _ ≤ _; exact Nat.le_of_eq rfl) (hb hby at_17) (fun _ _ => ⟨rfl, rfl, (by decide : 6 + 0 ≤ _), (by decide : 21512 + 0 ≤ _)⟩)
  dsimp only [Pt.U, Pt.locs, Pt.cells, Pt.slots] at X747 l747 y747 z747 st747 hQ747
  subst l747 y747 z747
  obtain ⟨rfl, Nq747, Kq747, G747_0, G747_1, G747_2, G747_3, G747_4, G747_5, G747_6, G747_7, G747_8, G747_9, G747_10, G747_11, G747_12, G747_13⟩ := hQ747
  have N747 := Fr.app N746 Nq747
  have Z747 := Nat.le_trans Z746 Kq747.1
  have Od747 := Od746.keep Kq747 (allS gq745_0 (allS gq745_1 (allS gq745_2 (allS gq745_3 (allS gq745_4 (allS gq745_5 all0))))))
  obtain ⟨cq748, kq748, q748a, q748b, q748c⟩ := isOf hZ rfl G747_0
  obtain ⟨_, _, ⟨T748, L748, k748, n748⟩, -, X748, ⟨Lc748, hQ748, l748, y748, z748⟩, st748⟩ := X747.virtualBack hx (y := (⟨"com/example/sealed_paths/sealedpaths/core/Conditions", "and", "(II)I"⟩ : MethodName)) (z := (⟨"com/example/sealed_paths/sealedpaths/core/Conditions", "and", "(II)I"⟩ : MethodName)) hown (mvT hZ (hw _ (List.mem_of_getElem? (i := 83) rfl))) (mvT hZ (hw _ (List.mem_of_getElem? (i := 84) rfl))) (notFace_of_selects (args := #[]) (mvT hZ (hw _ (List.mem_of_getElem? (i := 86) rfl)))) (mvT hZ (hw _ (List.mem_of_getElem? (i := 86) rfl))) (mvT hZ (hw _ (List.mem_of_getElem? (i := 85) rfl))) (by decide) (backOf (W := 0) (rand l Z a0 hw [] b744 vs745 lo745 hi745 tb745 ca745 (1 : Int32) (upd (upd (upd (upd (fun _ => (0 : Int32)) 0 (2147483647 : Int32)) 1 (2147483647 : Int32)) 2 (0 : Int32)) 3 (0 : Int32)) (upd (upd (fun _ => (0 : Int32)) 2 (0 : Int32)) 3 (1 : Int32)) (upd (upd (fun _ => (0 : Int32)) 2 (1 : Int32)) 3 (0 : Int32)) (upd (upd (fun _ => (-1 : Int32)) 1818 (2 : Int32)) 275 (3 : Int32)) (upd (upd (upd (upd (fun _ => (-1 : Int32)) 6132 (3 : Int32)) 6133 (2 : Int32)) 6134 (2 : Int32)) 6135 (3 : Int32)) ch cl b0 b1 T747.heap n0 Z747 ⟨G747_0, G747_1, G747_2, G747_3, G747_4, G747_5, G747_6, G747_7, G747_8, G747_9, G747_10, G747_11, G747_12, G747_13⟩ hE745 Od747 hI0 rfl rfl rfl rfl rfl rfl rfl) hZ (hw _ (List.mem_of_getElem? (i := 87) rfl)) (hw _ (List.mem_of_getElem? (i := 2) rfl)) (by decide) (by decide)) q748a q748c (g := (mkF m 24 #[.val (.int fx), .val (.ref b744), .val (.int (2 : Int32)), .val (.int (3 : Int32)), .unset, .unset, .unset, .unset] [(.int (3 : Int32)), (.int (2 : Int32)), (.ref b744)])) rfl (by rw [hml]; rfl) (Steps.refl _) (argsL := [(.int (2 : Int32)), (.int (3 : Int32))]) (rest := []) (lenOf pd_6 rfl) rfl (by show 2 * 0 + _ ≤ _; exact Nat.le_of_eq rfl) (hb hby at_24) (fun _ _ => ⟨rfl, rfl, (by decide : 6 + 0 ≤ _), (by decide : 21512 + 0 ≤ _)⟩)
  dsimp only [Pt.U, Pt.locs, Pt.cells, Pt.slots] at X748 l748 y748 z748 st748 hQ748
  subst l748 y748 z748
  obtain ⟨rfl, Nq748, Kq748, G748_0, G748_1, G748_2, G748_3, G748_4, G748_5, G748_6, G748_7, G748_8, G748_9, G748_10, G748_11, G748_12, G748_13⟩ := hQ748
  have N748 := Fr.app N747 Nq748
  have Z748 := Nat.le_trans Z747 Kq748.1
  have Od748 := Od747.keep Kq748 (allS gq745_0 (allS gq745_1 (allS gq745_2 (allS gq745_3 (allS gq745_4 (allS gq745_5 all0))))))
  obtain ⟨cq749, kq749, q749a, q749b, q749c⟩ := isOf hZ rfl G748_0
  obtain ⟨_, _, ⟨T749, L749, k749, n749⟩, -, X749, ⟨Lc749, hQ749, l749, y749, z749⟩, st749⟩ := X748.virtualBack hx (y := (⟨"com/example/sealed_paths/sealedpaths/core/Conditions", "or", "(II)I"⟩ : MethodName)) (z := (⟨"com/example/sealed_paths/sealedpaths/core/Conditions", "or", "(II)I"⟩ : MethodName)) hown (mvT hZ (hw _ (List.mem_of_getElem? (i := 91) rfl))) (mvT hZ (hw _ (List.mem_of_getElem? (i := 92) rfl))) (notFace_of_selects (args := #[]) (mvT hZ (hw _ (List.mem_of_getElem? (i := 94) rfl)))) (mvT hZ (hw _ (List.mem_of_getElem? (i := 94) rfl))) (mvT hZ (hw _ (List.mem_of_getElem? (i := 93) rfl))) (by decide) (backOf (W := 0) (ror l Z a0 hw [] b744 vs745 lo745 hi745 tb745 ca745 (1 : Int32) (upd (upd (upd (upd (fun _ => (0 : Int32)) 0 (2147483647 : Int32)) 1 (2147483647 : Int32)) 2 (0 : Int32)) 3 (0 : Int32)) (upd (upd (fun _ => (0 : Int32)) 2 (0 : Int32)) 3 (1 : Int32)) (upd (upd (fun _ => (0 : Int32)) 2 (1 : Int32)) 3 (0 : Int32)) (upd (upd (fun _ => (-1 : Int32)) 1818 (2 : Int32)) 275 (3 : Int32)) (upd (upd (upd (upd (upd (upd (upd (upd (fun _ => (-1 : Int32)) 6132 (3 : Int32)) 6133 (2 : Int32)) 6134 (2 : Int32)) 6135 (3 : Int32)) 2872 (1 : Int32)) 2873 (2 : Int32)) 2874 (3 : Int32)) 2875 (0 : Int32)) ch cl b0 b1 T748.heap n0 Z748 ⟨G748_0, G748_1, G748_2, G748_3, G748_4, G748_5, G748_6, G748_7, G748_8, G748_9, G748_10, G748_11, G748_12, G748_13⟩ hE745 Od748 hI0 rfl rfl rfl rfl rfl rfl rfl) hZ (hw _ (List.mem_of_getElem? (i := 95) rfl)) (hw _ (List.mem_of_getElem? (i := 2) rfl)) (by decide) (by decide)) q749a q749c (g := (mkF m 32 #[.val (.int fx), .val (.ref b744), .val (.int (2 : Int32)), .val (.int (3 : Int32)), .val (.int (0 : Int32)), .unset, .unset, .unset] [(.int (3 : Int32)), (.int (2 : Int32)), (.ref b744)])) rfl (by rw [hml]; rfl) (Steps.refl _) (argsL := [(.int (2 : Int32)), (.int (3 : Int32))]) (rest := []) (lenOf pd_6 rfl) rfl (by show 2 * 0 + _ ≤ _; exact Nat.le_of_eq rfl) (hb hby at_32) (fun _ _ => ⟨rfl, rfl, (by decide : 6 + 0 ≤ _), (by decide : 21512 + 0 ≤ _)⟩)
  dsimp only [Pt.U, Pt.locs, Pt.cells, Pt.slots] at X749 l749 y749 z749 st749 hQ749
  subst l749 y749 z749
  obtain ⟨rfl, Nq749, Kq749, G749_0, G749_1, G749_2, G749_3, G749_4, G749_5, G749_6, G749_7, G749_8, G749_9, G749_10, G749_11, G749_12, G749_13⟩ := hQ749
  have N749 := Fr.app N748 Nq749
  have Z749 := Nat.le_trans Z748 Kq749.1
  have Od749 := Od748.keep Kq749 (allS gq745_0 (allS gq745_1 (allS gq745_2 (allS gq745_3 (allS gq745_4 (allS gq745_5 all0))))))
  obtain ⟨_, _, ⟨T750, L750, k750, n750⟩, -, X750, ⟨Lc750, hQ750, l750, y750, z750⟩, st750⟩ := Jvm.LawKit.callS X749 hx (y := (⟨"com/example/sealed_paths/sealedpaths/core/Conditions", "isConstant", "(I)Z"⟩ : MethodName)) hown (mvT hZ (hw _ (List.mem_of_getElem? (i := 96) rfl))) (mvT hZ (hw _ (List.mem_of_getElem? (i := 59) rfl))) (mvT hZ (hw _ (List.mem_of_getElem? (i := 2) rfl))) (mvT hZ (hw _ (List.mem_of_getElem? (i := 60) rfl))) (by decide) (backOf (W := 0) (ric2 l Z a0 hw [] (2 : Int32) T749.heap n0 Z749 (by decide) (by decide)) hZ (hw _ (List.mem_of_getElem? (i := 60) rfl)) (hw _ (List.mem_of_getElem? (i := 2) rfl)) (by decide) (by decide)) (g := (mkF m 38 #[.val (.int fx), .val (.ref b744), .val (.int (2 : Int32)), .val (.int (3 : Int32)), .val (.int (0 : Int32)), .val (.int (1 : Int32)), .unset, .unset] [(.int (2 : Int32))])) rfl (by rw [hml]; rfl) (argsL := [(.int (2 : Int32))]) (rest := []) (lenOf pd_1 rfl) rfl (by show 2 * 0 + _ ≤ _; exact Nat.le_of_eq rfl) (hb hby at_38) (fun _ _ => ⟨rfl, rfl, (by decide : 6 + 0 ≤ _), (by decide : 21512 + 0 ≤ _)⟩)
  dsimp only [Pt.U, Pt.locs, Pt.cells, Pt.slots] at X750 l750 y750 z750 st750 hQ750
  subst l750 y750 z750
  obtain ⟨rfl, Nq750, e750⟩ := hQ750
  have N750 := Fr.app N749 Nq750
  obtain ⟨_, _, ⟨T751, L751, k751, n751⟩, -, X751, ⟨Lc751, hQ751, l751, y751, z751⟩, st751⟩ := Jvm.LawKit.callS X750 hx (y := (⟨"com/example/sealed_paths/sealedpaths/core/Conditions", "isConstant", "(I)Z"⟩ : MethodName)) hown (mvT hZ (hw _ (List.mem_of_getElem? (i := 96) rfl))) (mvT hZ (hw _ (List.mem_of_getElem? (i := 59) rfl))) (mvT hZ (hw _ (List.mem_of_getElem? (i := 2) rfl))) (mvT hZ (hw _ (List.mem_of_getElem? (i := 60) rfl))) (by decide) (backOf (W := 0) (ric2 l Z a0 hw [] (3 : Int32) T749.heap n0 Z749 (by decide) (by decide)) hZ (hw _ (List.mem_of_getElem? (i := 60) rfl)) (hw _ (List.mem_of_getElem? (i := 2) rfl)) (by decide) (by decide)) (g := (mkF m 45 #[.val (.int fx), .val (.ref b744), .val (.int (2 : Int32)), .val (.int (3 : Int32)), .val (.int (0 : Int32)), .val (.int (1 : Int32)), .unset, .unset] [(.int (3 : Int32))])) rfl (by rw [hml]; rfl) (argsL := [(.int (3 : Int32))]) (rest := []) (lenOf pd_1 rfl) rfl (by show 2 * 0 + _ ≤ _; exact Nat.le_of_eq rfl) (hb hby at_45) (fun _ _ => ⟨rfl, e750, (by decide : 6 + 0 ≤ _), (by decide : 21512 + 0 ≤ _)⟩)
  dsimp only [Pt.U, Pt.locs, Pt.cells, Pt.slots] at X751 l751 y751 z751 st751 hQ751
  subst l751 y751 z751
  obtain ⟨rfl, Nq751, e751⟩ := hQ751
  have N751 := Fr.app N750 Nq751
  obtain ⟨_, _, ⟨T752, L752, k752, n752⟩, -, X752, ⟨Lc752, hQ752, l752, y752, z752⟩, st752⟩ := Jvm.LawKit.callS X751 hx (y := (⟨"com/example/sealed_paths/sealedpaths/core/Conditions", "isConstant", "(I)Z"⟩ : MethodName)) hown (mvT hZ (hw _ (List.mem_of_getElem? (i := 96) rfl))) (mvT hZ (hw _ (List.mem_of_getElem? (i := 59) rfl))) (mvT hZ (hw _ (List.mem_of_getElem? (i := 2) rfl))) (mvT hZ (hw _ (List.mem_of_getElem? (i := 60) rfl))) (by decide) (backOf (W := 0) (ric0 l Z a0 hw [] (0 : Int32) T749.heap n0 Z749 (by decide)) hZ (hw _ (List.mem_of_getElem? (i := 60) rfl)) (hw _ (List.mem_of_getElem? (i := 2) rfl)) (by decide) (by decide)) (g := (mkF m 53 #[.val (.int fx), .val (.ref b744), .val (.int (2 : Int32)), .val (.int (3 : Int32)), .val (.int (0 : Int32)), .val (.int (1 : Int32)), .unset, .unset] [(.int (0 : Int32))])) rfl (by rw [hml]; rfl) (argsL := [(.int (0 : Int32))]) (rest := []) (lenOf pd_1 rfl) rfl (by show 2 * 0 + _ ≤ _; exact Nat.le_of_eq rfl) (hb hby at_53) (fun _ _ => ⟨rfl, e751, (by decide : 6 + 0 ≤ _), (by decide : 21512 + 0 ≤ _)⟩)
  dsimp only [Pt.U, Pt.locs, Pt.cells, Pt.slots] at X752 l752 y752 z752 st752 hQ752
  subst l752 y752 z752
  obtain ⟨rfl, Nq752, e752⟩ := hQ752
  have N752 := Fr.app N751 Nq752
  obtain ⟨_, _, ⟨T753, L753, k753, n753⟩, -, X753, ⟨Lc753, hQ753, l753, y753, z753⟩, st753⟩ := Jvm.LawKit.callS X752 hx (y := (⟨"com/example/sealed_paths/sealedpaths/core/Conditions", "isConstant", "(I)Z"⟩ : MethodName)) hown (mvT hZ (hw _ (List.mem_of_getElem? (i := 96) rfl))) (mvT hZ (hw _ (List.mem_of_getElem? (i := 59) rfl))) (mvT hZ (hw _ (List.mem_of_getElem? (i := 2) rfl))) (mvT hZ (hw _ (List.mem_of_getElem? (i := 60) rfl))) (by decide) (backOf (W := 0) (ric1 l Z a0 hw [] (1 : Int32) T749.heap n0 Z749 (by decide) (by decide)) hZ (hw _ (List.mem_of_getElem? (i := 60) rfl)) (hw _ (List.mem_of_getElem? (i := 2) rfl)) (by decide) (by decide)) (g := (mkF m 61 #[.val (.int fx), .val (.ref b744), .val (.int (2 : Int32)), .val (.int (3 : Int32)), .val (.int (0 : Int32)), .val (.int (1 : Int32)), .unset, .unset] [(.int (1 : Int32))])) rfl (by rw [hml]; rfl) (argsL := [(.int (1 : Int32))]) (rest := []) (lenOf pd_1 rfl) rfl (by show 2 * 0 + _ ≤ _; exact Nat.le_of_eq rfl) (hb hby at_61) (fun _ _ => ⟨rfl, e752, (by decide : 6 + 0 ≤ _), (by decide : 21512 + 0 ≤ _)⟩)
  dsimp only [Pt.U, Pt.locs, Pt.cells, Pt.slots] at X753 l753 y753 z753 st753 hQ753
  subst l753 y753 z753
  obtain ⟨rfl, Nq753, e753⟩ := hQ753
  have N753 := Fr.app N752 Nq753
  obtain ⟨_, _, ⟨T754, L754, k754, n754⟩, -, X754, ⟨Lc754, hQ754, l754, y754, z754⟩, st754⟩ := Jvm.LawKit.callS X753 hx (y := (⟨"com/example/sealed_paths/sealedpaths/core/Conditions", "isConstant", "(I)Z"⟩ : MethodName)) hown (mvT hZ (hw _ (List.mem_of_getElem? (i := 96) rfl))) (mvT hZ (hw _ (List.mem_of_getElem? (i := 59) rfl))) (mvT hZ (hw _ (List.mem_of_getElem? (i := 2) rfl))) (mvT hZ (hw _ (List.mem_of_getElem? (i := 60) rfl))) (by decide) (backOf (W := 0) (ric2 l Z a0 hw [] fx T749.heap n0 Z749 hc86 hc91) hZ (hw _ (List.mem_of_getElem? (i := 60) rfl)) (hw _ (List.mem_of_getElem? (i := 2) rfl)) (by decide) (by decide)) (g := (mkF m 82 #[.val (.int fx), .val (.ref b744), .val (.int (2 : Int32)), .val (.int (3 : Int32)), .val (.int (0 : Int32)), .val (.int (1 : Int32)), .val (.int (1 : Int32)), .unset] [(.int fx)])) rfl (by rw [hml]; rfl) (argsL := [(.int fx)]) (rest := []) (lenOf pd_1 rfl) rfl (by show 2 * 0 + _ ≤ _; exact Nat.le_of_eq rfl) (hb hby at_82) (fun _ _ => ⟨rfl, e753, (by decide : 6 + 0 ≤ _), (by decide : 21512 + 0 ≤ _)⟩)
  dsimp only [Pt.U, Pt.locs, Pt.cells, Pt.slots] at X754 l754 y754 z754 st754 hQ754
  subst l754 y754 z754
  obtain ⟨rfl, Nq754, e754⟩ := hQ754
  have N754 := Fr.app N753 Nq754
  obtain ⟨fs, hr, hrun, hended, hW, hsame⟩ := X754.leave (v := some (.int (1 : Int32))) (fun h => by rw [Bd.returns] at h; cases h)
  refine ⟨_, _, pre0 _ ?_, hrun, hended, _, _, rfl, ?_, ⟨_, rfl⟩, hW, hsame.mono (by decide) (by decide)⟩
  · show Steps p.tables e below (s₁.setTop (mkF m 0 #[.val (.int fx), .unset, .unset, .unset, .unset, .unset, .unset, .unset] [])) _
    refine st744 _ ?_
    show Steps p.tables e below (T744.setTop (mkF m 3 #[.val (.int fx), .unset, .unset, .unset, .unset, .unset, .unset, .unset] [(.ref b744)])) _
    refine XS.dup X744.here hx rfl (hb hby at_3) rfl rfl ?_
    show Steps p.tables e below (T744.setTop (mkF m 4 #[.val (.int fx), .unset, .unset, .unset, .unset, .unset, .unset, .unset] [(.ref b744), (.ref b744)])) _
    refine XS.bipush X744.here hx rfl (hb hby at_4) ?_
    show Steps p.tables e below (T744.setTop (mkF m 6 #[.val (.int fx), .unset, .unset, .unset, .unset, .unset, .unset, .unset] [(.int (16 : Int32)), (.ref b744), (.ref b744)])) _
    refine st745.trans ?_
    show Steps p.tables e below (T745.setTop (mkF m 9 #[.val (.int fx), .unset, .unset, .unset, .unset, .unset, .unset, .unset] [(.ref b744)])) _
    refine XS.astoreN X745.here hx rfl (hb hby at_9) rfl rfl (l' := #[.val (.int fx), .val (.ref b744), .unset, .unset, .unset, .unset, .unset, .unset]) rfl ?_
    show Steps p.tables e below (T745.setTop (mkF m 10 #[.val (.int fx), .val (.ref b744), .unset, .unset, .unset, .unset, .unset, .unset] [])) _
    refine XS.aloadN X745.here hx rfl (hb hby at_10) rfl rfl ?_
    show Steps p.tables e below (T745.setTop (mkF m 11 #[.val (.int fx), .val (.ref b744), .unset, .unset, .unset, .unset, .unset, .unset] [(.ref b744)])) _
    refine st746.trans ?_
    show Steps p.tables e below (T746.setTop (mkF m 14 #[.val (.int fx), .val (.ref b744), .unset, .unset, .unset, .unset, .unset, .unset] [(.int (2 : Int32))])) _
    refine XS.istoreN X746.here hx rfl (hb hby at_14) rfl (l' := #[.val (.int fx), .val (.ref b744), .val (.int (2 : Int32)), .unset, .unset, .unset, .unset, .unset]) rfl ?_
    show Steps p.tables e below (T746.setTop (mkF m 15 #[.val (.int fx), .val (.ref b744), .val (.int (2 : Int32)), .unset, .unset, .unset, .unset, .unset] [])) _
    refine XS.aloadN X746.here hx rfl (hb hby at_15) rfl rfl ?_
    show Steps p.tables e below (T746.setTop (mkF m 16 #[.val (.int fx), .val (.ref b744), .val (.int (2 : Int32)), .unset, .unset, .unset, .unset, .unset] [(.ref b744)])) _
    refine XS.iloadN X746.here hx rfl (hb hby at_16) rfl ?_
    show Steps p.tables e below (T746.setTop (mkF m 17 #[.val (.int fx), .val (.ref b744), .val (.int (2 : Int32)), .unset, .unset, .unset, .unset, .unset] [(.int (2 : Int32)), (.ref b744)])) _
    refine st747.trans ?_
    show Steps p.tables e below (T747.setTop (mkF m 20 #[.val (.int fx), .val (.ref b744), .val (.int (2 : Int32)), .unset, .unset, .unset, .unset, .unset] [(.int (3 : Int32))])) _
    refine XS.istoreN X747.here hx rfl (hb hby at_20) rfl (l' := #[.val (.int fx), .val (.ref b744), .val (.int (2 : Int32)), .val (.int (3 : Int32)), .unset, .unset, .unset, .unset]) rfl ?_
    show Steps p.tables e below (T747.setTop (mkF m 21 #[.val (.int fx), .val (.ref b744), .val (.int (2 : Int32)), .val (.int (3 : Int32)), .unset, .unset, .unset, .unset] [])) _
    refine XS.aloadN X747.here hx rfl (hb hby at_21) rfl rfl ?_
    show Steps p.tables e below (T747.setTop (mkF m 22 #[.val (.int fx), .val (.ref b744), .val (.int (2 : Int32)), .val (.int (3 : Int32)), .unset, .unset, .unset, .unset] [(.ref b744)])) _
    refine XS.iloadN X747.here hx rfl (hb hby at_22) rfl ?_
    show Steps p.tables e below (T747.setTop (mkF m 23 #[.val (.int fx), .val (.ref b744), .val (.int (2 : Int32)), .val (.int (3 : Int32)), .unset, .unset, .unset, .unset] [(.int (2 : Int32)), (.ref b744)])) _
    refine XS.iloadN X747.here hx rfl (hb hby at_23) rfl ?_
    show Steps p.tables e below (T747.setTop (mkF m 24 #[.val (.int fx), .val (.ref b744), .val (.int (2 : Int32)), .val (.int (3 : Int32)), .unset, .unset, .unset, .unset] [(.int (3 : Int32)), (.int (2 : Int32)), (.ref b744)])) _
    refine st748.trans ?_
    show Steps p.tables e below (T748.setTop (mkF m 27 #[.val (.int fx), .val (.ref b744), .val (.int (2 : Int32)), .val (.int (3 : Int32)), .unset, .unset, .unset, .unset] [(.int (0 : Int32))])) _
    refine XS.istore X748.here hx rfl (hb hby at_27) rfl (l' := #[.val (.int fx), .val (.ref b744), .val (.int (2 : Int32)), .val (.int (3 : Int32)), .val (.int (0 : Int32)), .unset, .unset, .unset]) rfl ?_
    show Steps p.tables e below (T748.setTop (mkF m 29 #[.val (.int fx), .val (.ref b744), .val (.int (2 : Int32)), .val (.int (3 : Int32)), .val (.int (0 : Int32)), .unset, .unset, .unset] [])) _
    refine XS.aloadN X748.here hx rfl (hb hby at_29) rfl rfl ?_
    show Steps p.tables e below (T748.setTop (mkF m 30 #[.val (.int fx), .val (.ref b744), .val (.int (2 : Int32)), .val (.int (3 : Int32)), .val (.int (0 : Int32)), .unset, .unset, .unset] [(.ref b744)])) _
    refine XS.iloadN X748.here hx rfl (hb hby at_30) rfl ?_
    show Steps p.tables e below (T748.setTop (mkF m 31 #[.val (.int fx), .val (.ref b744), .val (.int (2 : Int32)), .val (.int (3 : Int32)), .val (.int (0 : Int32)), .unset, .unset, .unset] [(.int (2 : Int32)), (.ref b744)])) _
    refine XS.iloadN X748.here hx rfl (hb hby at_31) rfl ?_
    show Steps p.tables e below (T748.setTop (mkF m 32 #[.val (.int fx), .val (.ref b744), .val (.int (2 : Int32)), .val (.int (3 : Int32)), .val (.int (0 : Int32)), .unset, .unset, .unset] [(.int (3 : Int32)), (.int (2 : Int32)), (.ref b744)])) _
    refine st749.trans ?_
    show Steps p.tables e below (T749.setTop (mkF m 35 #[.val (.int fx), .val (.ref b744), .val (.int (2 : Int32)), .val (.int (3 : Int32)), .val (.int (0 : Int32)), .unset, .unset, .unset] [(.int (1 : Int32))])) _
    refine XS.istore X749.here hx rfl (hb hby at_35) rfl (l' := #[.val (.int fx), .val (.ref b744), .val (.int (2 : Int32)), .val (.int (3 : Int32)), .val (.int (0 : Int32)), .val (.int (1 : Int32)), .unset, .unset]) rfl ?_
    show Steps p.tables e below (T749.setTop (mkF m 37 #[.val (.int fx), .val (.ref b744), .val (.int (2 : Int32)), .val (.int (3 : Int32)), .val (.int (0 : Int32)), .val (.int (1 : Int32)), .unset, .unset] [])) _
    refine XS.iloadN X749.here hx rfl (hb hby at_37) rfl ?_
    show Steps p.tables e below (T749.setTop (mkF m 38 #[.val (.int fx), .val (.ref b744), .val (.int (2 : Int32)), .val (.int (3 : Int32)), .val (.int (0 : Int32)), .val (.int (1 : Int32)), .unset, .unset] [(.int (2 : Int32))])) _
    refine st750 _ ?_
    show Steps p.tables e below (T750.setTop (mkF m 41 #[.val (.int fx), .val (.ref b744), .val (.int (2 : Int32)), .val (.int (3 : Int32)), .val (.int (0 : Int32)), .val (.int (1 : Int32)), .unset, .unset] [(.int (0 : Int32))])) _
    refine XS.ifNo X750.here hx rfl (hb hby at_41) rfl ((if0 _ _).trans (teq (by decide)).2) ?_
    show Steps p.tables e below (T750.setTop (mkF m 44 #[.val (.int fx), .val (.ref b744), .val (.int (2 : Int32)), .val (.int (3 : Int32)), .val (.int (0 : Int32)), .val (.int (1 : Int32)), .unset, .unset] [])) _
    refine XS.iloadN X750.here hx rfl (hb hby at_44) rfl ?_
    show Steps p.tables e below (T750.setTop (mkF m 45 #[.val (.int fx), .val (.ref b744), .val (.int (2 : Int32)), .val (.int (3 : Int32)), .val (.int (0 : Int32)), .val (.int (1 : Int32)), .unset, .unset] [(.int (3 : Int32))])) _
    refine st751 _ ?_
    show Steps p.tables e below (T751.setTop (mkF m 48 #[.val (.int fx), .val (.ref b744), .val (.int (2 : Int32)), .val (.int (3 : Int32)), .val (.int (0 : Int32)), .val (.int (1 : Int32)), .unset, .unset] [(.int (0 : Int32))])) _
    refine XS.ifNo X751.here hx rfl (hb hby at_48) rfl ((if0 _ _).trans (teq (by decide)).2) ?_
    show Steps p.tables e below (T751.setTop (mkF m 51 #[.val (.int fx), .val (.ref b744), .val (.int (2 : Int32)), .val (.int (3 : Int32)), .val (.int (0 : Int32)), .val (.int (1 : Int32)), .unset, .unset] [])) _
    refine XS.iload X751.here hx rfl (hb hby at_51) rfl ?_
    show Steps p.tables e below (T751.setTop (mkF m 53 #[.val (.int fx), .val (.ref b744), .val (.int (2 : Int32)), .val (.int (3 : Int32)), .val (.int (0 : Int32)), .val (.int (1 : Int32)), .unset, .unset] [(.int (0 : Int32))])) _
    refine st752 _ ?_
    show Steps p.tables e below (T752.setTop (mkF m 56 #[.val (.int fx), .val (.ref b744), .val (.int (2 : Int32)), .val (.int (3 : Int32)), .val (.int (0 : Int32)), .val (.int (1 : Int32)), .unset, .unset] [(.int (1 : Int32))])) _
    refine XS.ifNo X752.here hx rfl (hb hby at_56) rfl ((if0 _ _).trans (feq (by decide)).1) ?_
    show Steps p.tables e below (T752.setTop (mkF m 59 #[.val (.int fx), .val (.ref b744), .val (.int (2 : Int32)), .val (.int (3 : Int32)), .val (.int (0 : Int32)), .val (.int (1 : Int32)), .unset, .unset] [])) _
    refine XS.iload X752.here hx rfl (hb hby at_59) rfl ?_
    show Steps p.tables e below (T752.setTop (mkF m 61 #[.val (.int fx), .val (.ref b744), .val (.int (2 : Int32)), .val (.int (3 : Int32)), .val (.int (0 : Int32)), .val (.int (1 : Int32)), .unset, .unset] [(.int (1 : Int32))])) _
    refine st753 _ ?_
    show Steps p.tables e below (T753.setTop (mkF m 64 #[.val (.int fx), .val (.ref b744), .val (.int (2 : Int32)), .val (.int (3 : Int32)), .val (.int (0 : Int32)), .val (.int (1 : Int32)), .unset, .unset] [(.int (1 : Int32))])) _
    refine XS.ifNo X753.here hx rfl (hb hby at_64) rfl ((if0 _ _).trans (feq (by decide)).1) ?_
    show Steps p.tables e below (T753.setTop (mkF m 67 #[.val (.int fx), .val (.ref b744), .val (.int (2 : Int32)), .val (.int (3 : Int32)), .val (.int (0 : Int32)), .val (.int (1 : Int32)), .unset, .unset] [])) _
    refine XS.iload X753.here hx rfl (hb hby at_67) rfl ?_
    show Steps p.tables e below (T753.setTop (mkF m 69 #[.val (.int fx), .val (.ref b744), .val (.int (2 : Int32)), .val (.int (3 : Int32)), .val (.int (0 : Int32)), .val (.int (1 : Int32)), .unset, .unset] [(.int (0 : Int32))])) _
    refine XS.iload X753.here hx rfl (hb hby at_69) rfl ?_
    show Steps p.tables e below (T753.setTop (mkF m 71 #[.val (.int fx), .val (.ref b744), .val (.int (2 : Int32)), .val (.int (3 : Int32)), .val (.int (0 : Int32)), .val (.int (1 : Int32)), .unset, .unset] [(.int (1 : Int32)), (.int (0 : Int32))])) _
    refine XS.icmpNo X753.here hx rfl (hb hby at_71) rfl (feq (by decide)).1 ?_
    show Steps p.tables e below (T753.setTop (mkF m 74 #[.val (.int fx), .val (.ref b744), .val (.int (2 : Int32)), .val (.int (3 : Int32)), .val (.int (0 : Int32)), .val (.int (1 : Int32)), .unset, .unset] [])) _
    refine XS.iconst X753.here hx rfl (hb hby at_74) ?_
    show Steps p.tables e below (T753.setTop (mkF m 75 #[.val (.int fx), .val (.ref b744), .val (.int (2 : Int32)), .val (.int (3 : Int32)), .val (.int (0 : Int32)), .val (.int (1 : Int32)), .unset, .unset] [(.int (1 : Int32))])) _
    refine XS.goto X753.here hx rfl (pc0 := 75) (pc' := 79) rfl (hb hby at_75) (by decide) (by decide) ?_
    show Steps p.tables e below (T753.setTop (mkF m 79 #[.val (.int fx), .val (.ref b744), .val (.int (2 : Int32)), .val (.int (3 : Int32)), .val (.int (0 : Int32)), .val (.int (1 : Int32)), .unset, .unset] [(.int (1 : Int32))])) _
    refine XS.istore X753.here hx rfl (hb hby at_79) rfl (l' := #[.val (.int fx), .val (.ref b744), .val (.int (2 : Int32)), .val (.int (3 : Int32)), .val (.int (0 : Int32)), .val (.int (1 : Int32)), .val (.int (1 : Int32)), .unset]) rfl ?_
    show Steps p.tables e below (T753.setTop (mkF m 81 #[.val (.int fx), .val (.ref b744), .val (.int (2 : Int32)), .val (.int (3 : Int32)), .val (.int (0 : Int32)), .val (.int (1 : Int32)), .val (.int (1 : Int32)), .unset] [])) _
    refine XS.iloadN X753.here hx rfl (hb hby at_81) rfl ?_
    show Steps p.tables e below (T753.setTop (mkF m 82 #[.val (.int fx), .val (.ref b744), .val (.int (2 : Int32)), .val (.int (3 : Int32)), .val (.int (0 : Int32)), .val (.int (1 : Int32)), .val (.int (1 : Int32)), .unset] [(.int fx)])) _
    refine st754 _ ?_
    show Steps p.tables e below (T754.setTop (mkF m 85 #[.val (.int fx), .val (.ref b744), .val (.int (2 : Int32)), .val (.int (3 : Int32)), .val (.int (0 : Int32)), .val (.int (1 : Int32)), .val (.int (1 : Int32)), .unset] [(.int (0 : Int32))])) _
    refine XS.iloadN X754.here hx rfl (hb hby at_85) rfl ?_
    show Steps p.tables e below (T754.setTop (mkF m 86 #[.val (.int fx), .val (.ref b744), .val (.int (2 : Int32)), .val (.int (3 : Int32)), .val (.int (0 : Int32)), .val (.int (1 : Int32)), .val (.int (1 : Int32)), .unset] [(.int fx), (.int (0 : Int32))])) _
    refine XS.ifNo X754.here hx rfl (hb hby at_86) rfl ((if0 _ _).trans (feq hc86).1) ?_
    show Steps p.tables e below (T754.setTop (mkF m 89 #[.val (.int fx), .val (.ref b744), .val (.int (2 : Int32)), .val (.int (3 : Int32)), .val (.int (0 : Int32)), .val (.int (1 : Int32)), .val (.int (1 : Int32)), .unset] [(.int (0 : Int32))])) _
    refine XS.iloadN X754.here hx rfl (hb hby at_89) rfl ?_
    show Steps p.tables e below (T754.setTop (mkF m 90 #[.val (.int fx), .val (.ref b744), .val (.int (2 : Int32)), .val (.int (3 : Int32)), .val (.int (0 : Int32)), .val (.int (1 : Int32)), .val (.int (1 : Int32)), .unset] [(.int fx), (.int (0 : Int32))])) _
    refine XS.iconst X754.here hx rfl (hb hby at_90) ?_
    show Steps p.tables e below (T754.setTop (mkF m 91 #[.val (.int fx), .val (.ref b744), .val (.int (2 : Int32)), .val (.int (3 : Int32)), .val (.int (0 : Int32)), .val (.int (1 : Int32)), .val (.int (1 : Int32)), .unset] [(.int (1 : Int32)), (.int fx), (.int (0 : Int32))])) _
    refine XS.icmpYes X754.here hx rfl (pc0 := 91) (pc' := 98) rfl (hb hby at_91) rfl (feq hc91).2 (by decide) (by decide) ?_
    show Steps p.tables e below (T754.setTop (mkF m 98 #[.val (.int fx), .val (.ref b744), .val (.int (2 : Int32)), .val (.int (3 : Int32)), .val (.int (0 : Int32)), .val (.int (1 : Int32)), .val (.int (1 : Int32)), .unset] [(.int (0 : Int32))])) _
    refine XS.iconst X754.here hx rfl (hb hby at_98) ?_
    show Steps p.tables e below (T754.setTop (mkF m 99 #[.val (.int fx), .val (.ref b744), .val (.int (2 : Int32)), .val (.int (3 : Int32)), .val (.int (0 : Int32)), .val (.int (1 : Int32)), .val (.int (1 : Int32)), .unset] [(.int (0 : Int32)), (.int (0 : Int32))])) _
    refine XS.icmpNo X754.here hx rfl (hb hby at_99) rfl (teq (by decide)).2 ?_
    show Steps p.tables e below (T754.setTop (mkF m 102 #[.val (.int fx), .val (.ref b744), .val (.int (2 : Int32)), .val (.int (3 : Int32)), .val (.int (0 : Int32)), .val (.int (1 : Int32)), .val (.int (1 : Int32)), .unset] [])) _
    refine XS.iconst X754.here hx rfl (hb hby at_102) ?_
    show Steps p.tables e below (T754.setTop (mkF m 103 #[.val (.int fx), .val (.ref b744), .val (.int (2 : Int32)), .val (.int (3 : Int32)), .val (.int (0 : Int32)), .val (.int (1 : Int32)), .val (.int (1 : Int32)), .unset] [(.int (1 : Int32))])) _
    refine XS.goto X754.here hx rfl (pc0 := 103) (pc' := 107) rfl (hb hby at_103) (by decide) (by decide) ?_
    show Steps p.tables e below (T754.setTop (mkF m 107 #[.val (.int fx), .val (.ref b744), .val (.int (2 : Int32)), .val (.int (3 : Int32)), .val (.int (0 : Int32)), .val (.int (1 : Int32)), .val (.int (1 : Int32)), .unset] [(.int (1 : Int32))])) _
    refine XS.istore X754.here hx rfl (hb hby at_107) rfl (l' := #[.val (.int fx), .val (.ref b744), .val (.int (2 : Int32)), .val (.int (3 : Int32)), .val (.int (0 : Int32)), .val (.int (1 : Int32)), .val (.int (1 : Int32)), .val (.int (1 : Int32))]) rfl ?_
    show Steps p.tables e below (T754.setTop (mkF m 109 #[.val (.int fx), .val (.ref b744), .val (.int (2 : Int32)), .val (.int (3 : Int32)), .val (.int (0 : Int32)), .val (.int (1 : Int32)), .val (.int (1 : Int32)), .val (.int (1 : Int32))] [])) _
    refine XS.iload X754.here hx rfl (hb hby at_109) rfl ?_
    show Steps p.tables e below (T754.setTop (mkF m 111 #[.val (.int fx), .val (.ref b744), .val (.int (2 : Int32)), .val (.int (3 : Int32)), .val (.int (0 : Int32)), .val (.int (1 : Int32)), .val (.int (1 : Int32)), .val (.int (1 : Int32))] [(.int (1 : Int32))])) _
    refine XS.ifNo X754.here hx rfl (hb hby at_111) rfl ((if0 _ _).trans (feq (by decide)).1) ?_
    show Steps p.tables e below (T754.setTop (mkF m 114 #[.val (.int fx), .val (.ref b744), .val (.int (2 : Int32)), .val (.int (3 : Int32)), .val (.int (0 : Int32)), .val (.int (1 : Int32)), .val (.int (1 : Int32)), .val (.int (1 : Int32))] [])) _
    refine XS.iload X754.here hx rfl (hb hby at_114) rfl ?_
    show Steps p.tables e below (T754.setTop (mkF m 116 #[.val (.int fx), .val (.ref b744), .val (.int (2 : Int32)), .val (.int (3 : Int32)), .val (.int (0 : Int32)), .val (.int (1 : Int32)), .val (.int (1 : Int32)), .val (.int (1 : Int32))] [(.int (1 : Int32))])) _
    refine XS.ifNo X754.here hx rfl (hb hby at_116) rfl ((if0 _ _).trans (feq (by decide)).1) ?_
    show Steps p.tables e below (T754.setTop (mkF m 119 #[.val (.int fx), .val (.ref b744), .val (.int (2 : Int32)), .val (.int (3 : Int32)), .val (.int (0 : Int32)), .val (.int (1 : Int32)), .val (.int (1 : Int32)), .val (.int (1 : Int32))] [])) _
    refine XS.iconst X754.here hx rfl (hb hby at_119) ?_
    show Steps p.tables e below (T754.setTop (mkF m 120 #[.val (.int fx), .val (.ref b744), .val (.int (2 : Int32)), .val (.int (3 : Int32)), .val (.int (0 : Int32)), .val (.int (1 : Int32)), .val (.int (1 : Int32)), .val (.int (1 : Int32))] [(.int (1 : Int32))])) _
    refine XS.goto X754.here hx rfl (pc0 := 120) (pc' := 124) rfl (hb hby at_120) (by decide) (by decide) ?_
    show Steps p.tables e below (T754.setTop (mkF m 124 #[.val (.int fx), .val (.ref b744), .val (.int (2 : Int32)), .val (.int (3 : Int32)), .val (.int (0 : Int32)), .val (.int (1 : Int32)), .val (.int (1 : Int32)), .val (.int (1 : Int32))] [(.int (1 : Int32))])) _
    exact retN X754 hx (t := .boolean) Bd.returns (by simp) (hb hby at_124) hr
  · show QL n0 _ T754.heap _
    rw [e754]
    exact ⟨rfl, N754⟩
theorem rm0 (l : Launch) (Z : State) (a0 : Array Value) (hw : ∀ d ∈ tables_1, d.before a0 Z = true) (ws : List Jvm.Cond) (fx : Int32) (ch : Addr) (cl : Cell) (b0 b1 : Addr) (h0 : Heap) (n0 : Nat) (Z0 : n0 ≤ h0.size) (Od : Old Z n0 h0) (hI : IC Z ch cl b0 b1) :
    MetFree l x (head1 (Jvm.Cond.code x code maxLocals ret :: ws) room_1) (fun zA zU => zA = #[(.int fx)] ∧ Z.Warmed39 zU.vm ∧ zU.heap = h0) (fun _ _ _ _ _ => True) (fun _ zU zO zW => ∃ zV zL, zO = .returned zV ∧ QL n0 zV zW.heap zL ∧ FrameEnd zU zO zW zL room_1.cells room_1.slots) := by
  by_cases h1 : fx = (0 : Int32)
  · exact rm0_0 l Z a0 hw ws fx ch cl b0 b1 h0 n0 Z0 Od hI h1
  · by_cases h2 : fx = (1 : Int32)
    · exact rm0_1 l Z a0 hw ws fx ch cl b0 b1 h0 n0 Z0 Od hI h1 h2
    · exact rm0_2 l Z a0 hw ws fx ch cl b0 b1 h0 n0 Z0 Od hI h1 h2
theorem len_small {args : Array Value} {s : State} {t : Term} {a : Addr} {cl : Cell} {v : Value} (h : (Term.length t).eval args s none [] s = some v) (ht : t.eval args s none [] s = some (.ref a)) (hc : s.arrayAt? a = some cl) : cl.slots.size < 2 ^ 31 := by
  simp only [Term.eval, ht, hc, Option.bind_eq_bind, Option.bind_some] at h
  by_cases q : cl.slots.size < 2 ^ 31
  · exact q
  · simp [q] at h
theorem idxv {j : Int32} (nn : ¬ j < 0) : Int32.ofNat j.toNatClampNeg = j := (back32 nn).1
set_option maxRecDepth 65536 in
set_option maxHeartbeats 40000000 in
theorem comes_1 {Post : Tables → Env → Array Value → State → Outcome → State → Prop} (hpost : ∀ tb e args s v u, (limb_1_1.after args s (.returned v) u = true ∧ limb_1_2.after args s (.returned v) u = true ∧ True) → FrameEnd s (.returned v) u (Jvm.fieldLocs frame_1_writes args s ++ Jvm.arrayLocs frame_1_arrays args s ++ Jvm.staticLocs frame_1_statics s) 24 43136 → Post tb e args s (.returned v) u) :
    ArmFor flags0 classFile x code maxLocals ret World_1 tables_1 room_1 Calls_1 rest_1 Pre_1 Post := by
  intro l hfl _ _ p e ha hc hk s m args below hf hA hF happ hP
  obtain ⟨hcalls, hrest, hpre⟩ := hP
  obtain ⟨-, -, -, hnamed, -, -, -, hat⟩ := (Spec.applies_iff hf).mp happ
  obtain ⟨hg, hn⟩ := and_e (Cond.before_iff.mp (show (Jvm.Cond.and given_1 narrow_1).before args s = true from hpre))
  obtain ⟨gc, hg⟩ := and_e hg
  have ga0 := hg
  obtain ⟨w0, rfl⟩ : ∃ w0 : Value, args = #[w0] := by
    have hs : args.size = 1 := by simpa [Cond.value, given_1] using gc
    obtain ⟨L⟩ := args
    match L, hs with
    | [w0], _ => exact ⟨w0, rfl⟩
  have hw := fun d (hd : d ∈ tables_1) => atoms_spec (ws := Jvm.Cond.code x code maxLocals ret :: tables_1) hat d (List.mem_cons_of_mem _ hd)
  have hfit : Fit s := fun {y c} hc i hi => by
    obtain ⟨ha, rfl⟩ := Array.getElem?_eq_some_iff.mp hc
    have q := List.all_eq_true.mp ((Array.all_eq_true_iff_forall_mem.mp hF) _ (Array.getElem_mem ha)) i (List.mem_range.mpr hi)
    simpa [Array.getElem?_eq_getElem hi] using q
  obtain ⟨i0, ei0⟩ := is_v ga0
  obtain rfl : w0 = (.int i0) := Option.some.inj ei0
  obtain ⟨hsets, hown0⟩ := atoms_of _ (rest_1_c_eq ▸ (show rest_1_c.before _ s = true from hrest))
  have evh := Cond.eq_int (hsets _ (List.mem_of_getElem? (i := 3) rfl)) (Term.int_eval (127 : Int32))
  have Sh := Sta.start evh (Or.inl (hsets _ (List.mem_of_getElem? (i := 1) rfl)))
  have c4 := Cond.before_iff.mp (hsets _ (List.mem_of_getElem? (i := 4) rfl))
  obtain ⟨ch, evc⟩ := arr_v c4
  have Sc := Sta.start evc (Or.inr ⟨(hw _ (List.mem_of_getElem? (i := 74) rfl)), (hsets _ (List.mem_of_getElem? (i := 2) rfl))⟩)
  obtain ⟨cl, Ach⟩ := Arr.start evc c4
  have evl := Cond.eq_int (hsets _ (List.mem_of_getElem? (i := 6) rfl)) (Term.int_eval (256 : Int32))
  obtain ⟨al, cq, el1, el2, el3⟩ := Term.length_spec evl
  obtain rfl : al = ch := Value.ref.inj (Option.some.inj (el1.symm.trans evc))
  obtain rfl : cq = cl := Option.some.inj (el2.symm.trans (Ach.fin (Vm.Alike.refl _)))
  have small : cq.slots.size < 2 ^ 31 := len_small evl evc (Ach.fin (Vm.Alike.refl _))
  have e256 : cq.slots.size.toInt32 = (256 : Int32) := (Value.int.inj el3).symm
  have hall := Cond.before_iff.mp (hsets _ (List.mem_of_getElem? (i := 7) rfl))
  have bx := Bxs.start (t := (Jvm.Term.static "java/lang/Integer$IntegerCache" "cache" "[Ljava/lang/Integer;")) (F := .sub (.index 0) (.int (128 : Int32))) (val := fun j => .int (j - 128)) (fun idx => by simpa [Term.eval] using evc) Ach small e256 (by decide) hall (fun X j nn h => eqv_i (by simp [Term.eval, idxv nn]) h)
  have s256 : cq.slots.size = 256 := by rw [bx.2.1]; decide
  obtain ⟨b0, q0, Eb0, Fb0⟩ := bx.2.2.2 (128 : Int32) (by rw [s256]; decide)
  obtain ⟨b1, q1, Eb1, Fb1⟩ := bx.2.2.2 (129 : Int32) (by rw [s256]; decide)
  have hI : IC s al cq b0 b1 := ⟨Sh, Sc, Ach, s256, q0, q1, Eb0, Eb1, Fb0, Fb1⟩
  obtain ⟨n, o, h1, h2, h3, _, L, rfl, ⟨rfl, N⟩, hq⟩ := rm0 l s _ hw tables_1 i0 al cq b0 b1 s.heap s.heap.size (Nat.le_refl _) (Old.start s) hI p e ha hc hk s m _ below hf ((Spec.applies_iff_loose hf).mp happ).1 ⟨rfl, State.Warmed39.refl s, rfl⟩ trivial
  refine ⟨n, _, h1, h2, h3, hpost _ _ _ _ _ _ ⟨Cond.after_iff.mpr rfl, Cond.after_iff.mpr (eq_i res_at (Term.int_eval (1)) rfl), trivial⟩ ⟨hq.1, hq.2.1, (hq.2.2.sift fun y hy => Or.inr (N y hy)).mono (by decide) (by decide)⟩⟩
theorem main_1_1 : Claimed_1_1 := comes_1 fun _ _ _ _ _ _ h hF => ⟨h.1, hF⟩
theorem main_1_2 : Claimed_1_2 := comes_1 fun _ _ _ _ _ _ h hF => ⟨h.2.1, hF⟩
end Jvm.Pilot.@@N@@
namespace Jvm.Pilot.@@N@@
open Jvm Jvm.ClassFile Sem Op Lib Jvm.Free Jvm.Stand Jvm.Pilot.@@N@@.Jvm.D
/-! MADE BY PROGRAM (witnessworld.py) out of the Statement's table words and the real class files: 18 classes; the members and pool entries that the words name. The judged class is class 1, her method 1. -/
namespace start1
open Jvm.ClassFile
def u (s : String) : CpInfo := .utf8 (stringToUtf16 s)
/-- a pool by its gaps: so many unusable entries, then the entry; so many at the end -/
def gap : Nat → List CpInfo → List CpInfo
  | 0, r => r
  | n + 1, r => .unusable :: gap n r
def poolList (es : List (Nat × CpInfo)) (last : Nat) : List CpInfo := es.foldr (fun e r => gap e.1 (e.2 :: r)) (gap last [])
def pool (es : List (Nat × CpInfo)) (last : Nat) : Array CpInfo := ⟨poolList es last⟩
def fileOf (pool : Array CpInfo) (this : Nat) (attrs : Array Attribute := #[]) (ms : Array MethodInfo := #[]) (fl : Nat := 33) (sup : Nat := 0) (ifs : Array Nat := #[]) (fds : Array FieldInfo := #[]) : ClassFile where
  minorVersion := 0
  majorVersion := 65
  constantPool := pool
  accessFlags := fl
  thisClass := this
  superClass := sup
  interfaces := ifs
  fields := fds
  methods := ms
  attributes := attrs
def plain (name : String) (sup : Option ClassId) : Class where
  name := name
  kind := .ordinary
  loader := none
  accessFlags := 33
  super := sup
  interfaces := #[]
  cf := none
  fields := #[]
  methods := #[]
  instanceTypes := #[]
  staticTypes := #[]
  resolved := #[]
  callSites := []
  init := .initialized
  statics := none
  mirror := none

def pool0 : Array CpInfo := pool [(5, u "<init>"), (0, u "()V"), (1, .class_ 10), (1, u "java/lang/Object")] 113

def k0c0 : Code := { maxStack := 0, maxLocals := 1, code := object_method_1_code, exceptionTable := #[], attributes := #[] }
def k0m0 : Method := { name := "<init>", desc := "()V", sig := { parameters := [], returnType := none }, accessFlags := 1, code := some k0c0 }
/-- java/lang/Object -/
def k0 : Class := { plain "java/lang/Object" none with
  accessFlags := 33
  interfaces := #[]
  cf := some (fileOf pool0 8 #[] #[{ accessFlags := 1, nameIndex := 5, descriptorIndex := 6, attributes := #[] }] 33 0 #[] #[])
  fields := #[]
  methods := #[k0m0]
  instanceTypes := #[]
  staticTypes := #[]
  resolved := Array.replicate 124 none
  statics := none }

def pool1 : Array CpInfo := pool [(2, .class_ 4), (1, u "java/lang/Object"), (0, u "<init>"), (0, u "()V"), (0, .class_ 8), (0, u "com/example/sealed_paths/sealedpaths/core/Conditions"), (0, .methodref 7 10), (0, .nameAndType 5 11), (0, u "(I)V"), (0, .methodref 7 13), (0, .nameAndType 14 15), (0, u "newVariable"), (0, u "()I"), (0, .methodref 7 17), (0, .nameAndType 18 19), (0, u "not"), (0, u "(I)I"), (0, .methodref 7 21), (0, .nameAndType 22 23), (0, u "and"), (0, u "(II)I"), (0, .methodref 7 25), (0, .nameAndType 26 23), (0, u "or"), (0, .methodref 7 28), (0, .nameAndType 29 30), (0, u "isConstant"), (0, u "(I)Z"), (0, .class_ 32), (0, u "com/example/sealed_paths/sealedpaths/core/ConditionsIsConstantPinLaw"), (2, u "law")] 3

def k1m0 : Method := { name := "<init>", desc := "()V", sig := { parameters := [], returnType := none }, accessFlags := 1, code := none }
def k1c1 : Code := { maxStack := 3, maxLocals := 8, code := code, exceptionTable := #[], attributes := #[] }
def k1m1 : Method := { name := "law", desc := "(I)Z", sig := { parameters := [.int], returnType := some .boolean }, accessFlags := 9, code := some k1c1 }
/-- com/example/sealed_paths/sealedpaths/core/ConditionsIsConstantPinLaw -/
def k1 : Class := { plain "com/example/sealed_paths/sealedpaths/core/ConditionsIsConstantPinLaw" (some 0) with
  accessFlags := 49
  interfaces := #[]
  cf := some (fileOf pool1 31 #[] #[{ accessFlags := 1, nameIndex := 5, descriptorIndex := 6, attributes := #[] }, { accessFlags := 9, nameIndex := 35, descriptorIndex := 30, attributes := #[] }] 49 2 #[] #[])
  fields := #[]
  methods := #[k1m0, k1m1]
  instanceTypes := #[]
  staticTypes := #[]
  resolved := Array.replicate 39 none
  statics := none }

def pool2 : Array CpInfo := pool [(1, .class_ 2), (0, u "java/lang/Integer"), (0, .methodref 4 5), (0, .class_ 6), (0, .nameAndType 7 8), (0, u "java/lang/Object"), (0, u "<init>"), (0, u "()V"), (0, .fieldref 10 11), (0, .class_ 12), (0, .nameAndType 13 14), (0, u "com/example/sealed_paths/sealedpaths/core/Conditions"), (0, u "variables"), (0, u "[I"), (0, .fieldref 10 16), (0, .nameAndType 17 14), (0, u "lows"), (0, .fieldref 10 19), (0, .nameAndType 20 14), (0, u "highs"), (0, .fieldref 10 22), (0, .nameAndType 23 14), (0, u "table"), (0, .fieldref 10 25), (0, .nameAndType 26 14), (0, u "cached"), (0, .fieldref 10 28), (0, .nameAndType 29 30), (0, u "limit"), (0, u "I"), (0, .methodref 32 33), (0, .class_ 34), (0, .nameAndType 35 36), (0, u "java/util/Arrays"), (0, u "fill"), (0, u "([II)V"), (0, .integer 2147483647), (0, .fieldref 10 39), (0, .nameAndType 40 30), (0, u "size"), (0, .fieldref 10 42), (0, .nameAndType 43 30), (0, u "variableCount"), (0, .methodref 10 45), (0, .nameAndType 46 47), (0, u "node"), (0, u "(III)I"), (0, .methodref 10 49), (0, .nameAndType 50 47), (0, u "apply"), (0, .methodref 10 52), (0, .nameAndType 53 54), (0, u "isConstant"), (0, u "(I)Z"), (5, .methodref 10 61), (0, .nameAndType 62 63), (0, u "settled"), (0, u "(III)Ljava/lang/Integer;"), (0, .methodref 1 65), (0, .nameAndType 66 67), (0, u "intValue"), (0, u "()I"), (0, .methodref 69 70), (0, .class_ 71), (0, .nameAndType 72 73), (0, u "java/lang/Math"), (0, u "min"), (0, u "(II)I"), (0, .methodref 69 75), (0, .nameAndType 76 73), (0, u "max"), (0, .integer 2654435761), (0, .integer 2246822507), (0, .methodref 10 80), (0, .nameAndType 81 82), (0, u "branch"), (0, u "(IIZ)I"), (0, .methodref 1 84), (0, .nameAndType 85 86), (0, u "valueOf"), (0, u "(I)Ljava/lang/Integer;"), (0, .methodref 10 88), (0, .nameAndType 89 47), (0, u "hash"), (0, .class_ 91), (0, u "com/example/sealed_paths/sealedpaths/core/Conditions$TooComplex"), (9, .integer 3266489909), (0, u "FALSE"), (2, u "TRUE"), (1, u "CONSTANT"), (0, u "AND"), (0, u "OR"), (1, u "NOT"), (1, u "EMPTY"), (1, u "MOST_CACHED"), (0, u "(I)V"), (2, u "newVariable"), (0, u "and"), (0, u "or"), (0, u "not"), (0, u "(I)I")] 9

def k2c0 : Code := { maxStack := 3, maxLocals := 2, code := prog_13_method_1_code, exceptionTable := #[], attributes := #[] }
def k2m0 : Method := { name := "<init>", desc := "(I)V", sig := { parameters := [.int], returnType := none }, accessFlags := 0, code := some k2c0 }
def k2c1 : Code := { maxStack := 5, maxLocals := 1, code := prog_13_method_2_code, exceptionTable := #[], attributes := #[] }
def k2m1 : Method := { name := "newVariable", desc := "()I", sig := { parameters := [], returnType := some .int }, accessFlags := 0, code := some k2c1 }
def k2c2 : Code := { maxStack := 4, maxLocals := 3, code := prog_13_method_3_code, exceptionTable := #[], attributes := #[] }
def k2m2 : Method := { name := "and", desc := "(II)I", sig := { parameters := [.int, .int], returnType := some .int }, accessFlags := 0, code := some k2c2 }
def k2c3 : Code := { maxStack := 4, maxLocals := 3, code := prog_13_method_4_code, exceptionTable := #[], attributes := #[] }
def k2m3 : Method := { name := "or", desc := "(II)I", sig := { parameters := [.int, .int], returnType := some .int }, accessFlags := 0, code := some k2c3 }
def k2c4 : Code := { maxStack := 4, maxLocals := 2, code := prog_13_method_5_code, exceptionTable := #[], attributes := #[] }
def k2m4 : Method := { name := "not", desc := "(I)I", sig := { parameters := [.int], returnType := some .int }, accessFlags := 0, code := some k2c4 }
def k2c5 : Code := { maxStack := 2, maxLocals := 1, code := prog_13_method_7_code, exceptionTable := #[], attributes := #[] }
def k2m5 : Method := { name := "isConstant", desc := "(I)Z", sig := { parameters := [.int], returnType := some .boolean }, accessFlags := 8, code := some k2c5 }
def k2c6 : Code := { maxStack := 7, maxLocals := 12, code := prog_13_method_9_code, exceptionTable := #[], attributes := #[] }
def k2m6 : Method := { name := "apply", desc := "(III)I", sig := { parameters := [.int, .int, .int], returnType := some .int }, accessFlags := 2, code := some k2c6 }
def k2c7 : Code := { maxStack := 2, maxLocals := 4, code := prog_13_method_10_code, exceptionTable := #[], attributes := #[] }
def k2m7 : Method := { name := "settled", desc := "(III)Ljava/lang/Integer;", sig := { parameters := [.int, .int, .int], returnType := some (.object "java/lang/Integer") }, accessFlags := 10, code := some k2c7 }
def k2c8 : Code := { maxStack := 2, maxLocals := 5, code := prog_13_method_11_code, exceptionTable := #[], attributes := #[] }
def k2m8 : Method := { name := "branch", desc := "(IIZ)I", sig := { parameters := [.int, .int, .boolean], returnType := some .int }, accessFlags := 2, code := some k2c8 }
def k2c9 : Code := { maxStack := 4, maxLocals := 6, code := prog_13_method_12_code, exceptionTable := #[], attributes := #[] }
def k2m9 : Method := { name := "node", desc := "(III)I", sig := { parameters := [.int, .int, .int], returnType := some .int }, accessFlags := 2, code := some k2c9 }
def k2c10 : Code := { maxStack := 2, maxLocals := 3, code := prog_13_method_14_code, exceptionTable := #[], attributes := #[] }
def k2m10 : Method := { name := "hash", desc := "(III)I", sig := { parameters := [.int, .int, .int], returnType := some .int }, accessFlags := 10, code := some k2c10 }
/-- com/example/sealed_paths/sealedpaths/core/Conditions -/
def k2 : Class := { plain "com/example/sealed_paths/sealedpaths/core/Conditions" (some 0) with
  accessFlags := 48
  interfaces := #[]
  cf := some (fileOf pool2 10 #[.nestMembers #[90]] #[{ accessFlags := 0, nameIndex := 7, descriptorIndex := 116, attributes := #[] }, { accessFlags := 0, nameIndex := 119, descriptorIndex := 67, attributes := #[] }, { accessFlags := 0, nameIndex := 120, descriptorIndex := 73, attributes := #[] }, { accessFlags := 0, nameIndex := 121, descriptorIndex := 73, attributes := #[] }, { accessFlags := 0, nameIndex := 122, descriptorIndex := 123, attributes := #[] }, { accessFlags := 8, nameIndex := 53, descriptorIndex := 54, attributes := #[] }, { accessFlags := 2, nameIndex := 50, descriptorIndex := 47, attributes := #[] }, { accessFlags := 10, nameIndex := 62, descriptorIndex := 63, attributes := #[] }, { accessFlags := 2, nameIndex := 81, descriptorIndex := 82, attributes := #[] }, { accessFlags := 2, nameIndex := 46, descriptorIndex := 47, attributes := #[] }, { accessFlags := 10, nameIndex := 89, descriptorIndex := 47, attributes := #[] }] 48 4 #[] #[{ accessFlags := 24, nameIndex := 102, descriptorIndex := 30, attributes := #[] }, { accessFlags := 24, nameIndex := 105, descriptorIndex := 30, attributes := #[] }, { accessFlags := 26, nameIndex := 107, descriptorIndex := 30, attributes := #[] }, { accessFlags := 26, nameIndex := 108, descriptorIndex := 30, attributes := #[] }, { accessFlags := 26, nameIndex := 109, descriptorIndex := 30, attributes := #[] }, { accessFlags := 26, nameIndex := 111, descriptorIndex := 30, attributes := #[] }, { accessFlags := 26, nameIndex := 113, descriptorIndex := 30, attributes := #[] }, { accessFlags := 26, nameIndex := 115, descriptorIndex := 30, attributes := #[] }, { accessFlags := 18, nameIndex := 29, descriptorIndex := 30, attributes := #[] }, { accessFlags := 2, nameIndex := 13, descriptorIndex := 14, attributes := #[] }, { accessFlags := 2, nameIndex := 17, descriptorIndex := 14, attributes := #[] }, { accessFlags := 2, nameIndex := 20, descriptorIndex := 14, attributes := #[] }, { accessFlags := 2, nameIndex := 40, descriptorIndex := 30, attributes := #[] }, { accessFlags := 2, nameIndex := 23, descriptorIndex := 14, attributes := #[] }, { accessFlags := 2, nameIndex := 26, descriptorIndex := 14, attributes := #[] }, { accessFlags := 2, nameIndex := 43, descriptorIndex := 30, attributes := #[] }])
  fields := #[{ name := "FALSE", type := .int, accessFlags := 24, slot := 0, constantValue := 0 }, { name := "TRUE", type := .int, accessFlags := 24, slot := 1, constantValue := 0 }, { name := "CONSTANT", type := .int, accessFlags := 26, slot := 2, constantValue := 0 }, { name := "AND", type := .int, accessFlags := 26, slot := 3, constantValue := 0 }, { name := "OR", type := .int, accessFlags := 26, slot := 4, constantValue := 0 }, { name := "NOT", type := .int, accessFlags := 26, slot := 5, constantValue := 0 }, { name := "EMPTY", type := .int, accessFlags := 26, slot := 6, constantValue := 0 }, { name := "MOST_CACHED", type := .int, accessFlags := 26, slot := 7, constantValue := 0 }, { name := "limit", type := .int, accessFlags := 18, slot := 0, constantValue := 0 }, { name := "variables", type := (.array .int), accessFlags := 2, slot := 1, constantValue := 0 }, { name := "lows", type := (.array .int), accessFlags := 2, slot := 2, constantValue := 0 }, { name := "highs", type := (.array .int), accessFlags := 2, slot := 3, constantValue := 0 }, { name := "size", type := .int, accessFlags := 2, slot := 4, constantValue := 0 }, { name := "table", type := (.array .int), accessFlags := 2, slot := 5, constantValue := 0 }, { name := "cached", type := (.array .int), accessFlags := 2, slot := 6, constantValue := 0 }, { name := "variableCount", type := .int, accessFlags := 2, slot := 7, constantValue := 0 }]
  methods := #[k2m0, k2m1, k2m2, k2m3, k2m4, k2m5, k2m6, k2m7, k2m8, k2m9, k2m10]
  instanceTypes := #[.int, (.array .int), (.array .int), (.array .int), .int, (.array .int), (.array .int), .int]
  staticTypes := #[.int, .int, .int, .int, .int, .int, .int, .int]
  resolved := Array.replicate 133 none
  statics := none }

def pool3 : Array CpInfo := pool [(2, .class_ 4), (1, u "java/lang/Object"), (0, u "<init>"), (0, u "()V"), (7, .class_ 16), (1, u "java/util/Arrays"), (57, .class_ 76), (1, u "java/util/Arrays$NaturalOrder"), (36, .class_ 115), (1, u "java/util/Arrays$LegacyMergeSort"), (1, u "Z"), (257, .class_ 376), (0, u "java/util/Arrays$ArrayList"), (68, u "$assertionsDisabled"), (269, u "MIN_ARRAY_SORT_GRAN"), (0, u "I"), (2, u "INSERTIONSORT_THRESHOLD"), (120, u "fill"), (4, u "([II)V"), (129, .class_ 976), (0, u "java/util/Arrays$ArrayItr")] 52

def k3m0 : Method := { name := "<init>", desc := "()V", sig := { parameters := [], returnType := none }, accessFlags := 2, code := none }
def k3c1 : Code := { maxStack := 3, maxLocals := 4, code := jdk_65_method_103_code, exceptionTable := #[], attributes := #[] }
def k3m1 : Method := { name := "fill", desc := "([II)V", sig := { parameters := [(.array .int), .int], returnType := none }, accessFlags := 9, code := some k3c1 }
/-- java/util/Arrays -/
def k3 : Class := { plain "java/util/Arrays" (some 0) with
  accessFlags := 49
  interfaces := #[]
  cf := some (fileOf pool3 14 #[.nestMembers #[975, 375, 113, 74]] #[{ accessFlags := 2, nameIndex := 5, descriptorIndex := 6, attributes := #[] }, { accessFlags := 9, nameIndex := 840, descriptorIndex := 845, attributes := #[] }] 49 2 #[] #[{ accessFlags := 26, nameIndex := 715, descriptorIndex := 716, attributes := #[] }, { accessFlags := 26, nameIndex := 719, descriptorIndex := 716, attributes := #[] }, { accessFlags := 4120, nameIndex := 445, descriptorIndex := 117, attributes := #[] }])
  fields := #[{ name := "MIN_ARRAY_SORT_GRAN", type := .int, accessFlags := 26, slot := 0, constantValue := 0 }, { name := "INSERTIONSORT_THRESHOLD", type := .int, accessFlags := 26, slot := 1, constantValue := 0 }, { name := "$assertionsDisabled", type := .boolean, accessFlags := 4120, slot := 2, constantValue := 0 }]
  methods := #[k3m0, k3m1]
  instanceTypes := #[]
  staticTypes := #[.int, .int, .boolean]
  resolved := Array.replicate 1029 none
  statics := none }

def pool4 : Array CpInfo := pool [(1, .class_ 2), (0, u "java/lang/Math"), (1, .class_ 6), (1, u "java/lang/Object"), (0, u "<init>"), (0, u "()V"), (89, .class_ 100), (1, u "java/lang/Math$RandomNumberGeneratorHolder"), (71, u "negativeZeroFloatBits"), (0, u "J"), (2, u "negativeZeroDoubleBits"), (21, u "max"), (2, u "min"), (43, u "$assertionsDisabled"), (0, u "Z"), (88, u "(II)I"), (2, u "twoToTheDoubleScaleDown"), (0, u "D"), (4, u "twoToTheDoubleScaleUp"), (9, u "E"), (3, u "PI"), (2, u "TAU"), (2, u "DEGREES_TO_RADIANS"), (0, u "RADIANS_TO_DEGREES")] 94

def k4m0 : Method := { name := "<init>", desc := "()V", sig := { parameters := [], returnType := none }, accessFlags := 2, code := none }
def k4c1 : Code := { maxStack := 2, maxLocals := 2, code := jdk_29_method_65_code, exceptionTable := #[], attributes := #[] }
def k4m1 : Method := { name := "max", desc := "(II)I", sig := { parameters := [.int, .int], returnType := some .int }, accessFlags := 9, code := some k4c1 }
def k4c2 : Code := { maxStack := 2, maxLocals := 2, code := jdk_29_method_69_code, exceptionTable := #[], attributes := #[] }
def k4m2 : Method := { name := "min", desc := "(II)I", sig := { parameters := [.int, .int], returnType := some .int }, accessFlags := 9, code := some k4c2 }
/-- java/lang/Math -/
def k4 : Class := { plain "java/lang/Math" (some 0) with
  accessFlags := 49
  interfaces := #[]
  cf := some (fileOf pool4 1 #[.nestMembers #[98]] #[{ accessFlags := 2, nameIndex := 7, descriptorIndex := 8, attributes := #[] }, { accessFlags := 9, nameIndex := 198, descriptorIndex := 335, attributes := #[] }, { accessFlags := 9, nameIndex := 201, descriptorIndex := 335, attributes := #[] }] 49 4 #[] #[{ accessFlags := 25, nameIndex := 354, descriptorIndex := 339, attributes := #[] }, { accessFlags := 25, nameIndex := 358, descriptorIndex := 339, attributes := #[] }, { accessFlags := 25, nameIndex := 361, descriptorIndex := 339, attributes := #[] }, { accessFlags := 26, nameIndex := 364, descriptorIndex := 339, attributes := #[] }, { accessFlags := 26, nameIndex := 365, descriptorIndex := 339, attributes := #[] }, { accessFlags := 26, nameIndex := 172, descriptorIndex := 173, attributes := #[] }, { accessFlags := 26, nameIndex := 176, descriptorIndex := 173, attributes := #[] }, { accessFlags := 8, nameIndex := 344, descriptorIndex := 339, attributes := #[] }, { accessFlags := 8, nameIndex := 338, descriptorIndex := 339, attributes := #[] }, { accessFlags := 4120, nameIndex := 245, descriptorIndex := 246, attributes := #[] }])
  fields := #[{ name := "E", type := .double, accessFlags := 25, slot := 0, constantValue := 0 }, { name := "PI", type := .double, accessFlags := 25, slot := 1, constantValue := 0 }, { name := "TAU", type := .double, accessFlags := 25, slot := 2, constantValue := 0 }, { name := "DEGREES_TO_RADIANS", type := .double, accessFlags := 26, slot := 3, constantValue := 0 }, { name := "RADIANS_TO_DEGREES", type := .double, accessFlags := 26, slot := 4, constantValue := 0 }, { name := "negativeZeroFloatBits", type := .long, accessFlags := 26, slot := 5, constantValue := 0 }, { name := "negativeZeroDoubleBits", type := .long, accessFlags := 26, slot := 6, constantValue := 0 }, { name := "twoToTheDoubleScaleUp", type := .double, accessFlags := 8, slot := 7, constantValue := 0 }, { name := "twoToTheDoubleScaleDown", type := .double, accessFlags := 8, slot := 8, constantValue := 0 }, { name := "$assertionsDisabled", type := .boolean, accessFlags := 4120, slot := 9, constantValue := 0 }]
  methods := #[k4m0, k4m1, k4m2]
  instanceTypes := #[]
  staticTypes := #[.double, .double, .double, .double, .double, .long, .long, .double, .double, .boolean]
  resolved := Array.replicate 460 none
  statics := none }

def pool5 : Array CpInfo := pool [(1, .class_ 2), (0, u "java/io/Serializable"), (0, .class_ 4), (0, u "java/lang/Object")] 2

/-- java/io/Serializable -/
def k5 : Class := { plain "java/io/Serializable" (some 0) with
  accessFlags := 1537
  interfaces := #[]
  cf := some (fileOf pool5 1 #[] #[] 1537 3 #[] #[])
  fields := #[]
  methods := #[]
  instanceTypes := #[]
  staticTypes := #[]
  resolved := Array.replicate 7 none
  statics := none }

def pool6 : Array CpInfo := pool [(2, .class_ 4), (1, u "java/lang/Object"), (0, u "<init>"), (0, u "()V"), (1, .class_ 10), (1, u "java/lang/Number"), (2, .class_ 14), (0, u "java/io/Serializable"), (0, u "serialVersionUID"), (0, u "J")] 20

def k6m0 : Method := { name := "<init>", desc := "()V", sig := { parameters := [], returnType := none }, accessFlags := 1, code := none }
/-- java/lang/Number -/
def k6 : Class := { plain "java/lang/Number" (some 0) with
  accessFlags := 1057
  interfaces := #[5]
  cf := some (fileOf pool6 8 #[] #[{ accessFlags := 1, nameIndex := 5, descriptorIndex := 6, attributes := #[] }] 1057 2 #[13] #[{ accessFlags := 26, nameIndex := 15, descriptorIndex := 16, attributes := #[] }])
  fields := #[{ name := "serialVersionUID", type := .long, accessFlags := 26, slot := 0, constantValue := 0 }]
  methods := #[k6m0]
  instanceTypes := #[]
  staticTypes := #[.long]
  resolved := Array.replicate 37 none
  statics := none }

def pool7 : Array CpInfo := pool [(1, .class_ 2), (0, u "java/lang/Comparable"), (0, .class_ 4), (0, u "java/lang/Object")] 7

/-- java/lang/Comparable -/
def k7 : Class := { plain "java/lang/Comparable" (some 0) with
  accessFlags := 1537
  interfaces := #[]
  cf := some (fileOf pool7 1 #[] #[] 1537 3 #[] #[])
  fields := #[]
  methods := #[]
  instanceTypes := #[]
  staticTypes := #[]
  resolved := Array.replicate 12 none
  statics := none }

def pool8 : Array CpInfo := pool [(1, .class_ 2), (0, u "java/lang/constant/Constable"), (0, .class_ 4), (0, u "java/lang/Object")] 6

/-- java/lang/constant/Constable -/
def k8 : Class := { plain "java/lang/constant/Constable" (some 0) with
  accessFlags := 1537
  interfaces := #[]
  cf := some (fileOf pool8 1 #[] #[] 1537 3 #[] #[])
  fields := #[]
  methods := #[]
  instanceTypes := #[]
  staticTypes := #[]
  resolved := Array.replicate 11 none
  statics := none }

def pool9 : Array CpInfo := pool [(1, .class_ 2), (0, u "java/lang/constant/ConstantDesc"), (0, .class_ 4), (0, u "java/lang/Object")] 32

/-- java/lang/constant/ConstantDesc -/
def k9 : Class := { plain "java/lang/constant/ConstantDesc" (some 0) with
  accessFlags := 1537
  interfaces := #[]
  cf := some (fileOf pool9 1 #[] #[] 1537 3 #[] #[])
  fields := #[]
  methods := #[]
  instanceTypes := #[]
  staticTypes := #[]
  resolved := Array.replicate 37 none
  statics := none }

def pool10 : Array CpInfo := pool [(1, .class_ 2), (0, u "java/lang/Integer"), (16, u "digits"), (0, u "[C"), (64, u "DigitOnes"), (0, u "[B"), (2, u "DigitTens"), (31, u "()I"), (65, u "valueOf"), (0, u "(I)Ljava/lang/Integer;"), (0, .class_ 190), (0, u "java/lang/Integer$IntegerCache"), (0, .fieldref 189 192), (0, .nameAndType 193 194), (0, u "high"), (0, u "I"), (0, .fieldref 189 196), (0, .nameAndType 197 198), (0, u "cache"), (0, u "[Ljava/lang/Integer;"), (4, .class_ 204), (0, u "java/lang/Number"), (0, .fieldref 1 206), (0, .nameAndType 207 194), (0, u "value"), (5, u "intValue"), (88, u "TYPE"), (0, u "Ljava/lang/Class;"), (0, .class_ 305), (0, u "java/lang/Comparable"), (0, .class_ 307), (0, u "java/lang/constant/Constable"), (0, .class_ 309), (0, u "java/lang/constant/ConstantDesc"), (0, u "MIN_VALUE"), (1, u "MAX_VALUE"), (3, u "SIZE"), (1, u "BYTES"), (1, u "serialVersionUID"), (0, u "J")] 131

def k10c0 : Code := { maxStack := 3, maxLocals := 1, code := jdk_33_method_22_code, exceptionTable := #[], attributes := #[] }
def k10m0 : Method := { name := "valueOf", desc := "(I)Ljava/lang/Integer;", sig := { parameters := [.int], returnType := some (.object "java/lang/Integer") }, accessFlags := 9, code := some k10c0 }
def k10c1 : Code := { maxStack := 1, maxLocals := 1, code := jdk_33_method_27_code, exceptionTable := #[], attributes := #[] }
def k10m1 : Method := { name := "intValue", desc := "()I", sig := { parameters := [], returnType := some .int }, accessFlags := 1, code := some k10c1 }
/-- java/lang/Integer -/
def k10 : Class := { plain "java/lang/Integer" (some 6) with
  accessFlags := 49
  interfaces := #[7, 8, 9]
  cf := some (fileOf pool10 1 #[.nestMembers #[189]] #[{ accessFlags := 9, nameIndex := 187, descriptorIndex := 188, attributes := #[] }, { accessFlags := 1, nameIndex := 213, descriptorIndex := 121, attributes := #[] }] 49 203 #[304, 306, 308] #[{ accessFlags := 25, nameIndex := 310, descriptorIndex := 194, attributes := #[] }, { accessFlags := 25, nameIndex := 312, descriptorIndex := 194, attributes := #[] }, { accessFlags := 25, nameIndex := 302, descriptorIndex := 303, attributes := #[] }, { accessFlags := 24, nameIndex := 19, descriptorIndex := 20, attributes := #[] }, { accessFlags := 24, nameIndex := 89, descriptorIndex := 86, attributes := #[] }, { accessFlags := 24, nameIndex := 85, descriptorIndex := 86, attributes := #[] }, { accessFlags := 18, nameIndex := 207, descriptorIndex := 194, attributes := #[] }, { accessFlags := 25, nameIndex := 316, descriptorIndex := 194, attributes := #[] }, { accessFlags := 25, nameIndex := 318, descriptorIndex := 194, attributes := #[] }, { accessFlags := 26, nameIndex := 320, descriptorIndex := 321, attributes := #[] }])
  fields := #[{ name := "MIN_VALUE", type := .int, accessFlags := 25, slot := 0, constantValue := 0 }, { name := "MAX_VALUE", type := .int, accessFlags := 25, slot := 1, constantValue := 0 }, { name := "TYPE", type := (.object "java/lang/Class"), accessFlags := 25, slot := 2, constantValue := 0 }, { name := "digits", type := (.array .char), accessFlags := 24, slot := 3, constantValue := 0 }, { name := "DigitTens", type := (.array .byte), accessFlags := 24, slot := 4, constantValue := 0 }, { name := "DigitOnes", type := (.array .byte), accessFlags := 24, slot := 5, constantValue := 0 }, { name := "value", type := .int, accessFlags := 18, slot := 0, constantValue := 0 }, { name := "SIZE", type := .int, accessFlags := 25, slot := 6, constantValue := 0 }, { name := "BYTES", type := .int, accessFlags := 25, slot := 7, constantValue := 0 }, { name := "serialVersionUID", type := .long, accessFlags := 26, slot := 8, constantValue := 0 }]
  methods := #[k10m0, k10m1]
  instanceTypes := #[.int]
  staticTypes := #[.int, .int, (.object "java/lang/Class"), (.array .char), (.array .byte), (.array .byte), .int, .int, .long]
  resolved := Array.replicate 453 none
  statics := none }

def pool11 : Array CpInfo := pool [(2, .class_ 4), (1, u "java/lang/Object"), (0, u "<init>"), (0, u "()V"), (0, .class_ 8), (0, u "java/lang/Integer"), (7, .class_ 18), (1, u "java/lang/Integer$IntegerCache"), (0, u "$assertionsDisabled"), (0, u "Z"), (26, u "high"), (0, u "I"), (8, u "archivedCache"), (0, u "[Ljava/lang/Integer;"), (12, u "cache"), (0, u "low")] 27

def k11m0 : Method := { name := "<init>", desc := "()V", sig := { parameters := [], returnType := none }, accessFlags := 2, code := none }
/-- java/lang/Integer$IntegerCache -/
def k11 : Class := { plain "java/lang/Integer$IntegerCache" (some 0) with
  accessFlags := 48
  interfaces := #[]
  cf := some (fileOf pool11 16 #[.nestHost 7] #[{ accessFlags := 2, nameIndex := 5, descriptorIndex := 6, attributes := #[] }] 48 2 #[] #[{ accessFlags := 24, nameIndex := 72, descriptorIndex := 48, attributes := #[] }, { accessFlags := 24, nameIndex := 47, descriptorIndex := 48, attributes := #[] }, { accessFlags := 24, nameIndex := 71, descriptorIndex := 58, attributes := #[] }, { accessFlags := 8, nameIndex := 57, descriptorIndex := 58, attributes := #[] }, { accessFlags := 4120, nameIndex := 19, descriptorIndex := 20, attributes := #[] }])
  fields := #[{ name := "low", type := .int, accessFlags := 24, slot := 0, constantValue := 0 }, { name := "high", type := .int, accessFlags := 24, slot := 1, constantValue := 0 }, { name := "cache", type := (.array (.object "java/lang/Integer")), accessFlags := 24, slot := 2, constantValue := 0 }, { name := "archivedCache", type := (.array (.object "java/lang/Integer")), accessFlags := 8, slot := 3, constantValue := 0 }, { name := "$assertionsDisabled", type := .boolean, accessFlags := 4120, slot := 4, constantValue := 0 }]
  methods := #[k11m0]
  instanceTypes := #[]
  staticTypes := #[.int, .int, (.array (.object "java/lang/Integer")), (.array (.object "java/lang/Integer")), .boolean]
  resolved := Array.replicate 100 none
  statics := some 0 }

def pool12 : Array CpInfo := pool [(1, u "java/lang/Cloneable"), (0, .class_ 1), (0, u "java/lang/Object"), (0, .class_ 3)] 3

/-- java/lang/Cloneable -/
def k12 : Class := { plain "java/lang/Cloneable" (some 0) with
  accessFlags := 1537
  interfaces := #[]
  cf := some (fileOf pool12 2 #[] #[] 1537 4 #[] #[])
  fields := #[]
  methods := #[]
  instanceTypes := #[]
  staticTypes := #[]
  resolved := Array.replicate 8 none
  statics := none }

/-- the primitive byte -/
def k13 : Class := { plain "byte" none with kind := .primitive 'B', accessFlags := 0x411 }
/-- [B -/
def k14 : Class := { plain "[B" (some 0) with kind := .array 13 .byte, interfaces := #[12, 5], accessFlags := 1041 }

/-- the primitive int -/
def k15 : Class := { plain "int" none with kind := .primitive 'I', accessFlags := 0x411 }
/-- [I -/
def k16 : Class := { plain "[I" (some 0) with kind := .array 15 .int, interfaces := #[12, 5], accessFlags := 1041 }

/-- [Ljava/lang/Integer; -/
def k17 : Class := { plain "[Ljava/lang/Integer;" (some 0) with kind := .array 10 (.object "java/lang/Integer"), interfaces := #[12, 5], accessFlags := 1041 }

def heap : Heap := #[{ cls := 11, slots := #[.int 0, .int 127, .ref 1, .null, .int 0], vm := .statics 11 },
  { cls := 17, slots := #[.ref 2, .ref 3, .ref 4, .ref 5, .ref 6, .ref 7, .ref 8, .ref 9, .ref 10, .ref 11, .ref 12, .ref 13, .ref 14, .ref 15, .ref 16, .ref 17, .ref 18, .ref 19, .ref 20, .ref 21, .ref 22, .ref 23, .ref 24, .ref 25, .ref 26, .ref 27, .ref 28, .ref 29, .ref 30, .ref 31, .ref 32, .ref 33, .ref 34, .ref 35, .ref 36, .ref 37, .ref 38, .ref 39, .ref 40, .ref 41, .ref 42, .ref 43, .ref 44, .ref 45, .ref 46, .ref 47, .ref 48, .ref 49, .ref 50, .ref 51, .ref 52, .ref 53, .ref 54, .ref 55, .ref 56, .ref 57, .ref 58, .ref 59, .ref 60, .ref 61, .ref 62, .ref 63, .ref 64, .ref 65, .ref 66, .ref 67, .ref 68, .ref 69, .ref 70, .ref 71, .ref 72, .ref 73, .ref 74, .ref 75, .ref 76, .ref 77, .ref 78, .ref 79, .ref 80, .ref 81, .ref 82, .ref 83, .ref 84, .ref 85, .ref 86, .ref 87, .ref 88, .ref 89, .ref 90, .ref 91, .ref 92, .ref 93, .ref 94, .ref 95, .ref 96, .ref 97, .ref 98, .ref 99, .ref 100, .ref 101, .ref 102, .ref 103, .ref 104, .ref 105, .ref 106, .ref 107, .ref 108, .ref 109, .ref 110, .ref 111, .ref 112, .ref 113, .ref 114, .ref 115, .ref 116, .ref 117, .ref 118, .ref 119, .ref 120, .ref 121, .ref 122, .ref 123, .ref 124, .ref 125, .ref 126, .ref 127, .ref 128, .ref 129, .ref 130, .ref 131, .ref 132, .ref 133, .ref 134, .ref 135, .ref 136, .ref 137, .ref 138, .ref 139, .ref 140, .ref 141, .ref 142, .ref 143, .ref 144, .ref 145, .ref 146, .ref 147, .ref 148, .ref 149, .ref 150, .ref 151, .ref 152, .ref 153, .ref 154, .ref 155, .ref 156, .ref 157, .ref 158, .ref 159, .ref 160, .ref 161, .ref 162, .ref 163, .ref 164, .ref 165, .ref 166, .ref 167, .ref 168, .ref 169, .ref 170, .ref 171, .ref 172, .ref 173, .ref 174, .ref 175, .ref 176, .ref 177, .ref 178, .ref 179, .ref 180, .ref 181, .ref 182, .ref 183, .ref 184, .ref 185, .ref 186, .ref 187, .ref 188, .ref 189, .ref 190, .ref 191, .ref 192, .ref 193, .ref 194, .ref 195, .ref 196, .ref 197, .ref 198, .ref 199, .ref 200, .ref 201, .ref 202, .ref 203, .ref 204, .ref 205, .ref 206, .ref 207, .ref 208, .ref 209, .ref 210, .ref 211, .ref 212, .ref 213, .ref 214, .ref 215, .ref 216, .ref 217, .ref 218, .ref 219, .ref 220, .ref 221, .ref 222, .ref 223, .ref 224, .ref 225, .ref 226, .ref 227, .ref 228, .ref 229, .ref 230, .ref 231, .ref 232, .ref 233, .ref 234, .ref 235, .ref 236, .ref 237, .ref 238, .ref 239, .ref 240, .ref 241, .ref 242, .ref 243, .ref 244, .ref 245, .ref 246, .ref 247, .ref 248, .ref 249, .ref 250, .ref 251, .ref 252, .ref 253, .ref 254, .ref 255, .ref 256, .ref 257], vm := .none },
  { cls := 10, slots := #[.int (-128)], vm := .none },
  { cls := 10, slots := #[.int (-127)], vm := .none },
  { cls := 10, slots := #[.int (-126)], vm := .none },
  { cls := 10, slots := #[.int (-125)], vm := .none },
  { cls := 10, slots := #[.int (-124)], vm := .none },
  { cls := 10, slots := #[.int (-123)], vm := .none },
  { cls := 10, slots := #[.int (-122)], vm := .none },
  { cls := 10, slots := #[.int (-121)], vm := .none },
  { cls := 10, slots := #[.int (-120)], vm := .none },
  { cls := 10, slots := #[.int (-119)], vm := .none },
  { cls := 10, slots := #[.int (-118)], vm := .none },
  { cls := 10, slots := #[.int (-117)], vm := .none },
  { cls := 10, slots := #[.int (-116)], vm := .none },
  { cls := 10, slots := #[.int (-115)], vm := .none },
  { cls := 10, slots := #[.int (-114)], vm := .none },
  { cls := 10, slots := #[.int (-113)], vm := .none },
  { cls := 10, slots := #[.int (-112)], vm := .none },
  { cls := 10, slots := #[.int (-111)], vm := .none },
  { cls := 10, slots := #[.int (-110)], vm := .none },
  { cls := 10, slots := #[.int (-109)], vm := .none },
  { cls := 10, slots := #[.int (-108)], vm := .none },
  { cls := 10, slots := #[.int (-107)], vm := .none },
  { cls := 10, slots := #[.int (-106)], vm := .none },
  { cls := 10, slots := #[.int (-105)], vm := .none },
  { cls := 10, slots := #[.int (-104)], vm := .none },
  { cls := 10, slots := #[.int (-103)], vm := .none },
  { cls := 10, slots := #[.int (-102)], vm := .none },
  { cls := 10, slots := #[.int (-101)], vm := .none },
  { cls := 10, slots := #[.int (-100)], vm := .none },
  { cls := 10, slots := #[.int (-99)], vm := .none },
  { cls := 10, slots := #[.int (-98)], vm := .none },
  { cls := 10, slots := #[.int (-97)], vm := .none },
  { cls := 10, slots := #[.int (-96)], vm := .none },
  { cls := 10, slots := #[.int (-95)], vm := .none },
  { cls := 10, slots := #[.int (-94)], vm := .none },
  { cls := 10, slots := #[.int (-93)], vm := .none },
  { cls := 10, slots := #[.int (-92)], vm := .none },
  { cls := 10, slots := #[.int (-91)], vm := .none },
  { cls := 10, slots := #[.int (-90)], vm := .none },
  { cls := 10, slots := #[.int (-89)], vm := .none },
  { cls := 10, slots := #[.int (-88)], vm := .none },
  { cls := 10, slots := #[.int (-87)], vm := .none },
  { cls := 10, slots := #[.int (-86)], vm := .none },
  { cls := 10, slots := #[.int (-85)], vm := .none },
  { cls := 10, slots := #[.int (-84)], vm := .none },
  { cls := 10, slots := #[.int (-83)], vm := .none },
  { cls := 10, slots := #[.int (-82)], vm := .none },
  { cls := 10, slots := #[.int (-81)], vm := .none },
  { cls := 10, slots := #[.int (-80)], vm := .none },
  { cls := 10, slots := #[.int (-79)], vm := .none },
  { cls := 10, slots := #[.int (-78)], vm := .none },
  { cls := 10, slots := #[.int (-77)], vm := .none },
  { cls := 10, slots := #[.int (-76)], vm := .none },
  { cls := 10, slots := #[.int (-75)], vm := .none },
  { cls := 10, slots := #[.int (-74)], vm := .none },
  { cls := 10, slots := #[.int (-73)], vm := .none },
  { cls := 10, slots := #[.int (-72)], vm := .none },
  { cls := 10, slots := #[.int (-71)], vm := .none },
  { cls := 10, slots := #[.int (-70)], vm := .none },
  { cls := 10, slots := #[.int (-69)], vm := .none },
  { cls := 10, slots := #[.int (-68)], vm := .none },
  { cls := 10, slots := #[.int (-67)], vm := .none },
  { cls := 10, slots := #[.int (-66)], vm := .none },
  { cls := 10, slots := #[.int (-65)], vm := .none },
  { cls := 10, slots := #[.int (-64)], vm := .none },
  { cls := 10, slots := #[.int (-63)], vm := .none },
  { cls := 10, slots := #[.int (-62)], vm := .none },
  { cls := 10, slots := #[.int (-61)], vm := .none },
  { cls := 10, slots := #[.int (-60)], vm := .none },
  { cls := 10, slots := #[.int (-59)], vm := .none },
  { cls := 10, slots := #[.int (-58)], vm := .none },
  { cls := 10, slots := #[.int (-57)], vm := .none },
  { cls := 10, slots := #[.int (-56)], vm := .none },
  { cls := 10, slots := #[.int (-55)], vm := .none },
  { cls := 10, slots := #[.int (-54)], vm := .none },
  { cls := 10, slots := #[.int (-53)], vm := .none },
  { cls := 10, slots := #[.int (-52)], vm := .none },
  { cls := 10, slots := #[.int (-51)], vm := .none },
  { cls := 10, slots := #[.int (-50)], vm := .none },
  { cls := 10, slots := #[.int (-49)], vm := .none },
  { cls := 10, slots := #[.int (-48)], vm := .none },
  { cls := 10, slots := #[.int (-47)], vm := .none },
  { cls := 10, slots := #[.int (-46)], vm := .none },
  { cls := 10, slots := #[.int (-45)], vm := .none },
  { cls := 10, slots := #[.int (-44)], vm := .none },
  { cls := 10, slots := #[.int (-43)], vm := .none },
  { cls := 10, slots := #[.int (-42)], vm := .none },
  { cls := 10, slots := #[.int (-41)], vm := .none },
  { cls := 10, slots := #[.int (-40)], vm := .none },
  { cls := 10, slots := #[.int (-39)], vm := .none },
  { cls := 10, slots := #[.int (-38)], vm := .none },
  { cls := 10, slots := #[.int (-37)], vm := .none },
  { cls := 10, slots := #[.int (-36)], vm := .none },
  { cls := 10, slots := #[.int (-35)], vm := .none },
  { cls := 10, slots := #[.int (-34)], vm := .none },
  { cls := 10, slots := #[.int (-33)], vm := .none },
  { cls := 10, slots := #[.int (-32)], vm := .none },
  { cls := 10, slots := #[.int (-31)], vm := .none },
  { cls := 10, slots := #[.int (-30)], vm := .none },
  { cls := 10, slots := #[.int (-29)], vm := .none },
  { cls := 10, slots := #[.int (-28)], vm := .none },
  { cls := 10, slots := #[.int (-27)], vm := .none },
  { cls := 10, slots := #[.int (-26)], vm := .none },
  { cls := 10, slots := #[.int (-25)], vm := .none },
  { cls := 10, slots := #[.int (-24)], vm := .none },
  { cls := 10, slots := #[.int (-23)], vm := .none },
  { cls := 10, slots := #[.int (-22)], vm := .none },
  { cls := 10, slots := #[.int (-21)], vm := .none },
  { cls := 10, slots := #[.int (-20)], vm := .none },
  { cls := 10, slots := #[.int (-19)], vm := .none },
  { cls := 10, slots := #[.int (-18)], vm := .none },
  { cls := 10, slots := #[.int (-17)], vm := .none },
  { cls := 10, slots := #[.int (-16)], vm := .none },
  { cls := 10, slots := #[.int (-15)], vm := .none },
  { cls := 10, slots := #[.int (-14)], vm := .none },
  { cls := 10, slots := #[.int (-13)], vm := .none },
  { cls := 10, slots := #[.int (-12)], vm := .none },
  { cls := 10, slots := #[.int (-11)], vm := .none },
  { cls := 10, slots := #[.int (-10)], vm := .none },
  { cls := 10, slots := #[.int (-9)], vm := .none },
  { cls := 10, slots := #[.int (-8)], vm := .none },
  { cls := 10, slots := #[.int (-7)], vm := .none },
  { cls := 10, slots := #[.int (-6)], vm := .none },
  { cls := 10, slots := #[.int (-5)], vm := .none },
  { cls := 10, slots := #[.int (-4)], vm := .none },
  { cls := 10, slots := #[.int (-3)], vm := .none },
  { cls := 10, slots := #[.int (-2)], vm := .none },
  { cls := 10, slots := #[.int (-1)], vm := .none },
  { cls := 10, slots := #[.int 0], vm := .none },
  { cls := 10, slots := #[.int 1], vm := .none },
  { cls := 10, slots := #[.int 2], vm := .none },
  { cls := 10, slots := #[.int 3], vm := .none },
  { cls := 10, slots := #[.int 4], vm := .none },
  { cls := 10, slots := #[.int 5], vm := .none },
  { cls := 10, slots := #[.int 6], vm := .none },
  { cls := 10, slots := #[.int 7], vm := .none },
  { cls := 10, slots := #[.int 8], vm := .none },
  { cls := 10, slots := #[.int 9], vm := .none },
  { cls := 10, slots := #[.int 10], vm := .none },
  { cls := 10, slots := #[.int 11], vm := .none },
  { cls := 10, slots := #[.int 12], vm := .none },
  { cls := 10, slots := #[.int 13], vm := .none },
  { cls := 10, slots := #[.int 14], vm := .none },
  { cls := 10, slots := #[.int 15], vm := .none },
  { cls := 10, slots := #[.int 16], vm := .none },
  { cls := 10, slots := #[.int 17], vm := .none },
  { cls := 10, slots := #[.int 18], vm := .none },
  { cls := 10, slots := #[.int 19], vm := .none },
  { cls := 10, slots := #[.int 20], vm := .none },
  { cls := 10, slots := #[.int 21], vm := .none },
  { cls := 10, slots := #[.int 22], vm := .none },
  { cls := 10, slots := #[.int 23], vm := .none },
  { cls := 10, slots := #[.int 24], vm := .none },
  { cls := 10, slots := #[.int 25], vm := .none },
  { cls := 10, slots := #[.int 26], vm := .none },
  { cls := 10, slots := #[.int 27], vm := .none },
  { cls := 10, slots := #[.int 28], vm := .none },
  { cls := 10, slots := #[.int 29], vm := .none },
  { cls := 10, slots := #[.int 30], vm := .none },
  { cls := 10, slots := #[.int 31], vm := .none },
  { cls := 10, slots := #[.int 32], vm := .none },
  { cls := 10, slots := #[.int 33], vm := .none },
  { cls := 10, slots := #[.int 34], vm := .none },
  { cls := 10, slots := #[.int 35], vm := .none },
  { cls := 10, slots := #[.int 36], vm := .none },
  { cls := 10, slots := #[.int 37], vm := .none },
  { cls := 10, slots := #[.int 38], vm := .none },
  { cls := 10, slots := #[.int 39], vm := .none },
  { cls := 10, slots := #[.int 40], vm := .none },
  { cls := 10, slots := #[.int 41], vm := .none },
  { cls := 10, slots := #[.int 42], vm := .none },
  { cls := 10, slots := #[.int 43], vm := .none },
  { cls := 10, slots := #[.int 44], vm := .none },
  { cls := 10, slots := #[.int 45], vm := .none },
  { cls := 10, slots := #[.int 46], vm := .none },
  { cls := 10, slots := #[.int 47], vm := .none },
  { cls := 10, slots := #[.int 48], vm := .none },
  { cls := 10, slots := #[.int 49], vm := .none },
  { cls := 10, slots := #[.int 50], vm := .none },
  { cls := 10, slots := #[.int 51], vm := .none },
  { cls := 10, slots := #[.int 52], vm := .none },
  { cls := 10, slots := #[.int 53], vm := .none },
  { cls := 10, slots := #[.int 54], vm := .none },
  { cls := 10, slots := #[.int 55], vm := .none },
  { cls := 10, slots := #[.int 56], vm := .none },
  { cls := 10, slots := #[.int 57], vm := .none },
  { cls := 10, slots := #[.int 58], vm := .none },
  { cls := 10, slots := #[.int 59], vm := .none },
  { cls := 10, slots := #[.int 60], vm := .none },
  { cls := 10, slots := #[.int 61], vm := .none },
  { cls := 10, slots := #[.int 62], vm := .none },
  { cls := 10, slots := #[.int 63], vm := .none },
  { cls := 10, slots := #[.int 64], vm := .none },
  { cls := 10, slots := #[.int 65], vm := .none },
  { cls := 10, slots := #[.int 66], vm := .none },
  { cls := 10, slots := #[.int 67], vm := .none },
  { cls := 10, slots := #[.int 68], vm := .none },
  { cls := 10, slots := #[.int 69], vm := .none },
  { cls := 10, slots := #[.int 70], vm := .none },
  { cls := 10, slots := #[.int 71], vm := .none },
  { cls := 10, slots := #[.int 72], vm := .none },
  { cls := 10, slots := #[.int 73], vm := .none },
  { cls := 10, slots := #[.int 74], vm := .none },
  { cls := 10, slots := #[.int 75], vm := .none },
  { cls := 10, slots := #[.int 76], vm := .none },
  { cls := 10, slots := #[.int 77], vm := .none },
  { cls := 10, slots := #[.int 78], vm := .none },
  { cls := 10, slots := #[.int 79], vm := .none },
  { cls := 10, slots := #[.int 80], vm := .none },
  { cls := 10, slots := #[.int 81], vm := .none },
  { cls := 10, slots := #[.int 82], vm := .none },
  { cls := 10, slots := #[.int 83], vm := .none },
  { cls := 10, slots := #[.int 84], vm := .none },
  { cls := 10, slots := #[.int 85], vm := .none },
  { cls := 10, slots := #[.int 86], vm := .none },
  { cls := 10, slots := #[.int 87], vm := .none },
  { cls := 10, slots := #[.int 88], vm := .none },
  { cls := 10, slots := #[.int 89], vm := .none },
  { cls := 10, slots := #[.int 90], vm := .none },
  { cls := 10, slots := #[.int 91], vm := .none },
  { cls := 10, slots := #[.int 92], vm := .none },
  { cls := 10, slots := #[.int 93], vm := .none },
  { cls := 10, slots := #[.int 94], vm := .none },
  { cls := 10, slots := #[.int 95], vm := .none },
  { cls := 10, slots := #[.int 96], vm := .none },
  { cls := 10, slots := #[.int 97], vm := .none },
  { cls := 10, slots := #[.int 98], vm := .none },
  { cls := 10, slots := #[.int 99], vm := .none },
  { cls := 10, slots := #[.int 100], vm := .none },
  { cls := 10, slots := #[.int 101], vm := .none },
  { cls := 10, slots := #[.int 102], vm := .none },
  { cls := 10, slots := #[.int 103], vm := .none },
  { cls := 10, slots := #[.int 104], vm := .none },
  { cls := 10, slots := #[.int 105], vm := .none },
  { cls := 10, slots := #[.int 106], vm := .none },
  { cls := 10, slots := #[.int 107], vm := .none },
  { cls := 10, slots := #[.int 108], vm := .none },
  { cls := 10, slots := #[.int 109], vm := .none },
  { cls := 10, slots := #[.int 110], vm := .none },
  { cls := 10, slots := #[.int 111], vm := .none },
  { cls := 10, slots := #[.int 112], vm := .none },
  { cls := 10, slots := #[.int 113], vm := .none },
  { cls := 10, slots := #[.int 114], vm := .none },
  { cls := 10, slots := #[.int 115], vm := .none },
  { cls := 10, slots := #[.int 116], vm := .none },
  { cls := 10, slots := #[.int 117], vm := .none },
  { cls := 10, slots := #[.int 118], vm := .none },
  { cls := 10, slots := #[.int 119], vm := .none },
  { cls := 10, slots := #[.int 120], vm := .none },
  { cls := 10, slots := #[.int 121], vm := .none },
  { cls := 10, slots := #[.int 122], vm := .none },
  { cls := 10, slots := #[.int 123], vm := .none },
  { cls := 10, slots := #[.int 124], vm := .none },
  { cls := 10, slots := #[.int 125], vm := .none },
  { cls := 10, slots := #[.int 126], vm := .none },
  { cls := 10, slots := #[.int 127], vm := .none }]
def classes : Array Class := #[k0, k1, k2, k3, k4, k5, k6, k7, k8, k9, k10, k11, k12, k13, k14, k15, k16, k17]
def interned : List (Array UInt16 × Addr) := []
def slotsUsed : Nat := 517
def theMethod : MethodId := ⟨1, 1⟩
def args0 : Array Value := #[.int 5]
def aboutOver (below : List Frame) : State where
  vm := { classes := classes, interned := interned.toArray }
  heap := heap
  slotsUsed := slotsUsed
  threads := #[{ frames := .invoking theMethod args0 :: below }]
def below0 : List Frame := [.native { method := ⟨0, 0⟩, args := #[] }]
def about1 : State := aboutOver below0
def p0 : Program := .bare "" "" ""
def e0 : Env := launch0.env 0 0 0
theorem w_frames : about1.frames = Frame.invoking theMethod args0 :: below0 := rfl
set_option maxRecDepth 65536 in
theorem w_args : argsFit about1.vm theMethod args0 = true := by decide +kernel
set_option maxRecDepth 65536 in
theorem w_heap : heapFits about1 = true := by decide +kernel
set_option maxRecDepth 65536 in
theorem w_runnable : about1.curStatus? = some .runnable := by decide +kernel
set_option maxRecDepth 65536 in
theorem w_alone : about1.alone = true := by decide +kernel
set_option maxRecDepth 65536 in
theorem w_named : about1.methodNamed? x = some theMethod := by decide +kernel
set_option maxRecDepth 65536 in
theorem w_hears : about1.hears theMethod below0 = true := by decide +kernel
set_option maxRecDepth 65536 in
theorem w_ripe : about1.ripe theMethod args0 below0 = true := by decide +kernel
theorem w_running : about1.status = .running := rfl
set_option maxRecDepth 65536 in
theorem w_room : about1.hasRoom e0.platform room_1 = true :=
  launch0.hasRoom_least _ room_1 (by decide +kernel) (by decide +kernel) (by decide +kernel) (by decide +kernel) (by decide +kernel) (by decide +kernel)
theorem allAtoms_all (ts : List Jvm.Cond) (a : Array Jvm.Value) (st : Jvm.State) : (allAtoms ts).before a st = ts.all (fun c => c.before a st) := by
  induction ts with
  | nil => rfl
  | cons c t ih =>
    show (Jvm.Cond.and c (allAtoms t)).before a st = _
    rw [Jvm.Cond.before_and, ih, List.all_cons]
def words1 : List Jvm.Cond := Jvm.Cond.code x code maxLocals ret :: tables_1
/-- a 'code' word, met by the world's own term for the bytes: nothing is compared byte by byte -/
theorem code_word {y : MethodName} {bytes : ByteArray} {mx : Nat} {rt : Option FieldType} {a : Array Value} {s : State} {m : MethodId} {meth : Method} {c : Code} (h1 : s.methodNamed? y = some m) (h2 : s.vm.method? m = some meth) (h3 : meth.code = some c) (h4 : c.code = bytes)
    (h5 : (c.maxLocals == mx && c.exceptionTable.isEmpty && decide (c.maxStack ≤ mostOperands) && decide (meth.sig.returnType = rt) && !meth.locks && decide (parseMethodDescriptor y.desc = some meth.sig)) = true) : (Jvm.Cond.code y bytes mx rt).before a s = true := by
  simp only [Bool.and_eq_true, beq_iff_eq, Bool.not_eq_true', decide_eq_true_eq] at h5
  obtain ⟨⟨⟨⟨⟨g1, g2⟩, g3⟩, g4⟩, g5⟩, g6⟩ := h5
  simp [Cond.before, Cond.holds, Cond.value, h1, h2, h3, h4, g1, g2, g3, g4, g5, g6]
def isCode : Jvm.Cond → Bool
  | .code _ _ _ _ => true
  | _ => false
theorem all_split {L : List Jvm.Cond} {P : Jvm.Cond → Bool} (h1 : L.all (fun c => isCode c || P c) = true) (h2 : ∀ c ∈ L.filter isCode, P c = true) : L.all P = true := by
  refine List.all_eq_true.mpr fun c hc => ?_
  have h := List.all_eq_true.mp h1 c hc
  rcases Bool.eq_false_or_eq_true (isCode c) with hi | hi
  · exact h2 c (List.mem_filter.mpr ⟨hc, hi⟩)
  · simpa [hi] using h
set_option maxRecDepth 65536 in
theorem w_c0 : (Jvm.Cond.code x code maxLocals ret).before args0 about1 = true := code_word (m := ⟨1, 1⟩) (meth := k1m1) (c := k1c1) (by decide +kernel) rfl rfl rfl (by decide +kernel)
set_option maxRecDepth 65536 in
theorem w_c1 : (Jvm.Cond.code ({ cls := "com/example/sealed_paths/sealedpaths/core/Conditions", name := "<init>", desc := "(I)V" } : Jvm.MethodName) prog_13_method_1_code (2 : Nat) (Option.none : Option Jvm.ClassFile.FieldType)).before args0 about1 = true := code_word (m := ⟨2, 0⟩) (meth := k2m0) (c := k2c0) (by decide +kernel) rfl rfl rfl (by decide +kernel)
set_option maxRecDepth 65536 in
theorem w_c2 : (Jvm.Cond.code ({ cls := "java/lang/Object", name := "<init>", desc := "()V" } : Jvm.MethodName) object_method_1_code (1 : Nat) (Option.none : Option Jvm.ClassFile.FieldType)).before args0 about1 = true := code_word (m := ⟨0, 0⟩) (meth := k0m0) (c := k0c0) (by decide +kernel) rfl rfl rfl (by decide +kernel)
set_option maxRecDepth 65536 in
theorem w_c3 : (Jvm.Cond.code ({ cls := "java/util/Arrays", name := "fill", desc := "([II)V" } : Jvm.MethodName) jdk_65_method_103_code (4 : Nat) (Option.none : Option Jvm.ClassFile.FieldType)).before args0 about1 = true := code_word (m := ⟨3, 1⟩) (meth := k3m1) (c := k3c1) (by decide +kernel) rfl rfl rfl (by decide +kernel)
set_option maxRecDepth 65536 in
theorem w_c4 : (Jvm.Cond.code ({ cls := "com/example/sealed_paths/sealedpaths/core/Conditions", name := "newVariable", desc := "()I" } : Jvm.MethodName) prog_13_method_2_code (1 : Nat) (Option.some Jvm.ClassFile.FieldType.int)).before args0 about1 = true := code_word (m := ⟨2, 1⟩) (meth := k2m1) (c := k2c1) (by decide +kernel) rfl rfl rfl (by decide +kernel)
set_option maxRecDepth 65536 in
theorem w_c5 : (Jvm.Cond.code ({ cls := "com/example/sealed_paths/sealedpaths/core/Conditions", name := "node", desc := "(III)I" } : Jvm.MethodName) prog_13_method_12_code (6 : Nat) (Option.some Jvm.ClassFile.FieldType.int)).before args0 about1 = true := code_word (m := ⟨2, 9⟩) (meth := k2m9) (c := k2c9) (by decide +kernel) rfl rfl rfl (by decide +kernel)
set_option maxRecDepth 65536 in
theorem w_c6 : (Jvm.Cond.code ({ cls := "com/example/sealed_paths/sealedpaths/core/Conditions", name := "hash", desc := "(III)I" } : Jvm.MethodName) prog_13_method_14_code (3 : Nat) (Option.some Jvm.ClassFile.FieldType.int)).before args0 about1 = true := code_word (m := ⟨2, 10⟩) (meth := k2m10) (c := k2c10) (by decide +kernel) rfl rfl rfl (by decide +kernel)
set_option maxRecDepth 65536 in
theorem w_c7 : (Jvm.Cond.code ({ cls := "com/example/sealed_paths/sealedpaths/core/Conditions", name := "not", desc := "(I)I" } : Jvm.MethodName) prog_13_method_5_code (2 : Nat) (Option.some Jvm.ClassFile.FieldType.int)).before args0 about1 = true := code_word (m := ⟨2, 4⟩) (meth := k2m4) (c := k2c4) (by decide +kernel) rfl rfl rfl (by decide +kernel)
set_option maxRecDepth 65536 in
theorem w_c8 : (Jvm.Cond.code ({ cls := "com/example/sealed_paths/sealedpaths/core/Conditions", name := "apply", desc := "(III)I" } : Jvm.MethodName) prog_13_method_9_code (12 : Nat) (Option.some Jvm.ClassFile.FieldType.int)).before args0 about1 = true := code_word (m := ⟨2, 6⟩) (meth := k2m6) (c := k2c6) (by decide +kernel) rfl rfl rfl (by decide +kernel)
set_option maxRecDepth 65536 in
theorem w_c9 : (Jvm.Cond.code ({ cls := "com/example/sealed_paths/sealedpaths/core/Conditions", name := "settled", desc := "(III)Ljava/lang/Integer;" } : Jvm.MethodName) prog_13_method_10_code (4 : Nat) (Option.some (Jvm.ClassFile.FieldType.object "java/lang/Integer"))).before args0 about1 = true := code_word (m := ⟨2, 7⟩) (meth := k2m7) (c := k2c7) (by decide +kernel) rfl rfl rfl (by decide +kernel)
set_option maxRecDepth 65536 in
theorem w_c10 : (Jvm.Cond.code ({ cls := "com/example/sealed_paths/sealedpaths/core/Conditions", name := "isConstant", desc := "(I)Z" } : Jvm.MethodName) prog_13_method_7_code (1 : Nat) (Option.some Jvm.ClassFile.FieldType.boolean)).before args0 about1 = true := code_word (m := ⟨2, 5⟩) (meth := k2m5) (c := k2c5) (by decide +kernel) rfl rfl rfl (by decide +kernel)
set_option maxRecDepth 65536 in
theorem w_c11 : (Jvm.Cond.code ({ cls := "java/lang/Math", name := "min", desc := "(II)I" } : Jvm.MethodName) jdk_29_method_69_code (2 : Nat) (Option.some Jvm.ClassFile.FieldType.int)).before args0 about1 = true := code_word (m := ⟨4, 2⟩) (meth := k4m2) (c := k4c2) (by decide +kernel) rfl rfl rfl (by decide +kernel)
set_option maxRecDepth 65536 in
theorem w_c12 : (Jvm.Cond.code ({ cls := "com/example/sealed_paths/sealedpaths/core/Conditions", name := "branch", desc := "(IIZ)I" } : Jvm.MethodName) prog_13_method_11_code (5 : Nat) (Option.some Jvm.ClassFile.FieldType.int)).before args0 about1 = true := code_word (m := ⟨2, 8⟩) (meth := k2m8) (c := k2c8) (by decide +kernel) rfl rfl rfl (by decide +kernel)
set_option maxRecDepth 65536 in
theorem w_c13 : (Jvm.Cond.code ({ cls := "java/lang/Integer", name := "valueOf", desc := "(I)Ljava/lang/Integer;" } : Jvm.MethodName) jdk_33_method_22_code (1 : Nat) (Option.some (Jvm.ClassFile.FieldType.object "java/lang/Integer"))).before args0 about1 = true := code_word (m := ⟨10, 0⟩) (meth := k10m0) (c := k10c0) (by decide +kernel) rfl rfl rfl (by decide +kernel)
set_option maxRecDepth 65536 in
theorem w_c14 : (Jvm.Cond.code ({ cls := "java/lang/Integer", name := "intValue", desc := "()I" } : Jvm.MethodName) jdk_33_method_27_code (1 : Nat) (Option.some Jvm.ClassFile.FieldType.int)).before args0 about1 = true := code_word (m := ⟨10, 1⟩) (meth := k10m1) (c := k10c1) (by decide +kernel) rfl rfl rfl (by decide +kernel)
set_option maxRecDepth 65536 in
theorem w_c15 : (Jvm.Cond.code ({ cls := "com/example/sealed_paths/sealedpaths/core/Conditions", name := "and", desc := "(II)I" } : Jvm.MethodName) prog_13_method_3_code (3 : Nat) (Option.some Jvm.ClassFile.FieldType.int)).before args0 about1 = true := code_word (m := ⟨2, 2⟩) (meth := k2m2) (c := k2c2) (by decide +kernel) rfl rfl rfl (by decide +kernel)
set_option maxRecDepth 65536 in
theorem w_c16 : (Jvm.Cond.code ({ cls := "java/lang/Math", name := "max", desc := "(II)I" } : Jvm.MethodName) jdk_29_method_65_code (2 : Nat) (Option.some Jvm.ClassFile.FieldType.int)).before args0 about1 = true := code_word (m := ⟨4, 1⟩) (meth := k4m1) (c := k4c1) (by decide +kernel) rfl rfl rfl (by decide +kernel)
set_option maxRecDepth 65536 in
theorem w_c17 : (Jvm.Cond.code ({ cls := "com/example/sealed_paths/sealedpaths/core/Conditions", name := "or", desc := "(II)I" } : Jvm.MethodName) prog_13_method_4_code (3 : Nat) (Option.some Jvm.ClassFile.FieldType.int)).before args0 about1 = true := code_word (m := ⟨2, 3⟩) (meth := k2m3) (c := k2c3) (by decide +kernel) rfl rfl rfl (by decide +kernel)
def codes1 : List Jvm.Cond := [Jvm.Cond.code x code maxLocals ret, Jvm.Cond.code ({ cls := "com/example/sealed_paths/sealedpaths/core/Conditions", name := "<init>", desc := "(I)V" } : Jvm.MethodName) prog_13_method_1_code (2 : Nat) (Option.none : Option Jvm.ClassFile.FieldType), Jvm.Cond.code ({ cls := "java/lang/Object", name := "<init>", desc := "()V" } : Jvm.MethodName) object_method_1_code (1 : Nat) (Option.none : Option Jvm.ClassFile.FieldType), Jvm.Cond.code ({ cls := "java/util/Arrays", name := "fill", desc := "([II)V" } : Jvm.MethodName) jdk_65_method_103_code (4 : Nat) (Option.none : Option Jvm.ClassFile.FieldType), Jvm.Cond.code ({ cls := "com/example/sealed_paths/sealedpaths/core/Conditions", name := "newVariable", desc := "()I" } : Jvm.MethodName) prog_13_method_2_code (1 : Nat) (Option.some Jvm.ClassFile.FieldType.int), Jvm.Cond.code ({ cls := "com/example/sealed_paths/sealedpaths/core/Conditions", name := "node", desc := "(III)I" } : Jvm.MethodName) prog_13_method_12_code (6 : Nat) (Option.some Jvm.ClassFile.FieldType.int), Jvm.Cond.code ({ cls := "com/example/sealed_paths/sealedpaths/core/Conditions", name := "hash", desc := "(III)I" } : Jvm.MethodName) prog_13_method_14_code (3 : Nat) (Option.some Jvm.ClassFile.FieldType.int), Jvm.Cond.code ({ cls := "com/example/sealed_paths/sealedpaths/core/Conditions", name := "not", desc := "(I)I" } : Jvm.MethodName) prog_13_method_5_code (2 : Nat) (Option.some Jvm.ClassFile.FieldType.int), Jvm.Cond.code ({ cls := "com/example/sealed_paths/sealedpaths/core/Conditions", name := "apply", desc := "(III)I" } : Jvm.MethodName) prog_13_method_9_code (12 : Nat) (Option.some Jvm.ClassFile.FieldType.int), Jvm.Cond.code ({ cls := "com/example/sealed_paths/sealedpaths/core/Conditions", name := "settled", desc := "(III)Ljava/lang/Integer;" } : Jvm.MethodName) prog_13_method_10_code (4 : Nat) (Option.some (Jvm.ClassFile.FieldType.object "java/lang/Integer")), Jvm.Cond.code ({ cls := "com/example/sealed_paths/sealedpaths/core/Conditions", name := "isConstant", desc := "(I)Z" } : Jvm.MethodName) prog_13_method_7_code (1 : Nat) (Option.some Jvm.ClassFile.FieldType.boolean), Jvm.Cond.code ({ cls := "java/lang/Math", name := "min", desc := "(II)I" } : Jvm.MethodName) jdk_29_method_69_code (2 : Nat) (Option.some Jvm.ClassFile.FieldType.int), Jvm.Cond.code ({ cls := "com/example/sealed_paths/sealedpaths/core/Conditions", name := "branch", desc := "(IIZ)I" } : Jvm.MethodName) prog_13_method_11_code (5 : Nat) (Option.some Jvm.ClassFile.FieldType.int), Jvm.Cond.code ({ cls := "java/lang/Integer", name := "valueOf", desc := "(I)Ljava/lang/Integer;" } : Jvm.MethodName) jdk_33_method_22_code (1 : Nat) (Option.some (Jvm.ClassFile.FieldType.object "java/lang/Integer")), Jvm.Cond.code ({ cls := "java/lang/Integer", name := "intValue", desc := "()I" } : Jvm.MethodName) jdk_33_method_27_code (1 : Nat) (Option.some Jvm.ClassFile.FieldType.int), Jvm.Cond.code ({ cls := "com/example/sealed_paths/sealedpaths/core/Conditions", name := "and", desc := "(II)I" } : Jvm.MethodName) prog_13_method_3_code (3 : Nat) (Option.some Jvm.ClassFile.FieldType.int), Jvm.Cond.code ({ cls := "java/lang/Math", name := "max", desc := "(II)I" } : Jvm.MethodName) jdk_29_method_65_code (2 : Nat) (Option.some Jvm.ClassFile.FieldType.int), Jvm.Cond.code ({ cls := "com/example/sealed_paths/sealedpaths/core/Conditions", name := "or", desc := "(II)I" } : Jvm.MethodName) prog_13_method_4_code (3 : Nat) (Option.some Jvm.ClassFile.FieldType.int)]
set_option maxRecDepth 65536 in
theorem codes_eq : words1.filter isCode = codes1 := rfl
theorem w_codes : ∀ c ∈ words1.filter isCode, c.before args0 about1 = true := by
  rw [codes_eq]
  intro c hc
  simp only [codes1, List.mem_cons, List.not_mem_nil, or_false] at hc
  rcases hc with rfl | rfl | rfl | rfl | rfl | rfl | rfl | rfl | rfl | rfl | rfl | rfl | rfl | rfl | rfl | rfl | rfl | rfl
  · exact w_c0
  · exact w_c1
  · exact w_c2
  · exact w_c3
  · exact w_c4
  · exact w_c5
  · exact w_c6
  · exact w_c7
  · exact w_c8
  · exact w_c9
  · exact w_c10
  · exact w_c11
  · exact w_c12
  · exact w_c13
  · exact w_c14
  · exact w_c15
  · exact w_c16
  · exact w_c17
set_option maxRecDepth 65536 in
theorem w_t1 : (words1.take 24).all (fun c => isCode c || c.before args0 about1) = true := by decide +kernel
set_option maxRecDepth 65536 in
theorem w_t2 : ((words1.drop 24).take 24).all (fun c => isCode c || c.before args0 about1) = true := by decide +kernel
set_option maxRecDepth 65536 in
theorem w_t3 : (((words1.drop 24).drop 24).take 24).all (fun c => isCode c || c.before args0 about1) = true := by decide +kernel
set_option maxRecDepth 65536 in
theorem w_t4 : ((((words1.drop 24).drop 24).drop 24).take 24).all (fun c => isCode c || c.before args0 about1) = true := by decide +kernel
set_option maxRecDepth 65536 in
theorem w_t5 : ((((words1.drop 24).drop 24).drop 24).drop 24).all (fun c => isCode c || c.before args0 about1) = true := by decide +kernel
theorem w_tables : (allAtoms (Jvm.Cond.code x code maxLocals ret :: tables_1)).before args0 about1 = true := by
  rw [allAtoms_all]
  show words1.all (fun c => c.before args0 about1) = true
  refine all_split ?_ w_codes
  rw [← List.take_append_drop 24 words1, List.all_append, w_t1, ← List.take_append_drop 24 (words1.drop 24), List.all_append, w_t2, ← List.take_append_drop 24 ((words1.drop 24).drop 24), List.all_append, w_t3, ← List.take_append_drop 24 (((words1.drop 24).drop 24).drop 24), List.all_append, w_t4, w_t5]
  rfl
set_option maxRecDepth 65536 in
theorem w_rest : rest_1_c.before args0 about1 = true := by decide +kernel
set_option maxRecDepth 65536 in
theorem w_case : (Jvm.Cond.and given_1 narrow_1).before args0 about1 = true := by decide +kernel
theorem w_applies : (headSpec (Jvm.Cond.code x code maxLocals ret :: tables_1) room_1).applies x e0.platform about1 = true :=
  (Spec.applies_iff w_frames).mpr ⟨w_running, w_runnable, w_alone, w_named, w_hears, w_ripe, w_room, w_tables⟩
theorem atStart : AtStart classFile x code maxLocals ret World_1 tables_1 room_1 Calls_1 rest_1 Pre_1 launch0 p0 e0 about1 theMethod args0 below0 :=
  ⟨lists_1, trivial, launch0.admits_env _ _ _, launch0.least_env, fairChoices_fair.cas, fairChoices_fair.clock, w_frames, w_args, w_heap, w_applies, trivial, w_rest, w_case⟩
end start1
theorem witness_1 : WitnessClaimed_1 := ⟨start1.p0, start1.e0, start1.about1, start1.theMethod, start1.args0, start1.below0, start1.atStart⟩
end Jvm.Pilot.@@N@@
