import JvmDerived
import JvmDerived.Pilot.@@N@@Statement
import JvmDerived.Pilot.@@N@@Code
set_option linter.unusedVariables false
set_option linter.unusedSimpArgs false
namespace Jvm.RoadKit
open Sem ClassFile Op Lib Jvm.Stand Jvm.Free Jvm.LawKit
section New
variable {p : Program} {l : Launch} {e : Env} {R : Room} {s : State} {m : MethodId} {args : Array Value} {below : List Frame} {meth : Method} {c : Code} {T : State} {locs : List Loc} {cells slots : Nat}
theorem retI (X : Stand p l e R s m args below meth c T locs cells slots) (hx : p.tables.exec = Jvm.exec) {pc : Nat} {Ls : Array Slot} {z : Int32} {rest : List Value} (hret : meth.sig.returnType = some .int) (hd : decode c.code pc = .ok (.ireturn, 1)) {fs : List Frame}
    (hl : ∀ (f : JFrame) (acts : List Action), f.method = m → f.locked = none → f.entered = [] → (doReturn e (T.setTop f) acts (some (.int z))).1 = T.setFrames fs) : Steps p.tables e below (T.setTop (mkF m pc Ls (.int z :: rest))) (T.setFrames fs) := by
  have hm' : T.vm.method? m = some meth := X.method'
  have hn : narrow .int (.int z) = .int z := rfl
  show Steps p.tables e below (T.setTop { method := m, pc := pc, locals := Ls, stack := _ :: rest, locked := none }) _
  jvm_step X.here [X.here.top, hx, hd, hm', hret, hn]
  first | (intro acts; rw [hl _ acts rfl rfl rfl]) | rw [hl _ _ rfl rfl rfl]
  exact Steps.refl _
end New
end Jvm.RoadKit
namespace Jvm.Pilot.@@N@@
open Jvm Jvm.ClassFile Sem Op Lib Jvm.Free Jvm.Stand Jvm.LawKit Jvm.RoadKit Bundle Jvm.Pilot.@@N@@.Jvm.D
abbrev own_S (p : Program) (e : Env) (below : List Frame) (S T : State) (f : JFrame) : Prop := ∀ tt, Steps p.tables e below (T.setTop f) tt → Steps p.tables e below S tt
theorem own_eqI {args : Array Value} {first s : State} {o : Option Outcome} {idx : List Nat} {t : Term} {k : Int32} (h : (Jvm.Cond.eq t (.int k)).value args first o s idx = some true) : t.eval args first o idx s = some (.int k) := by
  simp only [Jvm.Cond.value, Term.eval] at h
  cases ht : t.eval args first o idx s with
  | none => simp [ht] at h
  | some x => cases x <;> simp [ht] at h ⊢; exact h
def own_Mir (Z : State) (C : String) (a : Addr) : Prop := ∃ (c : ClassId) (k : Class), Z.vm.findClass C = some c ∧ Z.vm.classes[c]? = some k ∧ k.mirror = some a
theorem own_mirS {Z s : State} {C : String} {a : Addr} (hZ : Z.Warmed39 s.vm) (M : own_Mir Z C a) : own_Mir s C a := by
  obtain ⟨c, k, h1, h2, h3⟩ := M
  obtain ⟨k', h4, h5⟩ := hZ.alike.2.2 _ _ h2
  exact ⟨c, k', by rw [hZ.alike.findClass]; exact h1, h4, by rw [h5]; exact h3⟩
theorem own_mirE {s : State} {args : Array Value} {C : String} {a : Addr} (M : own_Mir s C a) : (Term.mirror C).eval args s none [] s = some (.ref a) := by
  obtain ⟨c, k, h1, h2, h3⟩ := M
  simp [Term.eval, h1, h2, h3]
theorem own_ldcM {p : Program} {l : Launch} {e : Env} {R : Room} {s : State} {m : MethodId} {args : Array Value} {below : List Frame} {meth : Method} {c : Code} {T : State} {locs : List Loc} {cells slots : Nat} {Z : State} {a0 : Array Value} {h : Heap} (X : Stand p l e R s m args below meth c T locs cells slots) (hx : p.tables.exec = Jvm.exec) (hZ : Z.Warmed39 s.vm) {own C : String} {index : Nat} {a : Addr} (hown : s.vm.findClass own = some m.cls) (w : (Jvm.Cond.classLink own index C).before a0 Z = true) (eT : T.heap = h) (M : own_Mir Z C a) {g : JFrame} (hg : g.method = m) (hd : decode c.code g.pc = .ok (.ldc index, 2)) :
    ∃ T', Stand p l e R s m args below meth c T' locs cells slots ∧ T'.heap = h ∧ ∀ target, Steps p.tables e below (T'.setTop { g with pc := g.pc + 2, stack := .ref a :: g.stack }) target → Steps p.tables e below (T.setTop g) target := by
  obtain ⟨vm', X', st⟩ := X.ldcMirror hx hown (mvT hZ w) (own_mirE (own_mirS hZ M)) hg hd
  exact ⟨_, X', eT, st⟩
theorem own_mvI {Z s : State} {a0 args : Array Value} {R O n d : String} (hZ : Z.Warmed39 s.vm) (w : (Jvm.Cond.interfaceMethod R O n d).before a0 Z = true) : (Jvm.Cond.interfaceMethod R O n d).before args s = true := by
  have h := hZ.alike
  have h1 : (Jvm.Cond.interfaceMethod R O n d).before a0 (Z.setVm s.vm) = (Jvm.Cond.interfaceMethod R O n d).before a0 Z := by
    simp only [Cond.before, Cond.holds, Cond.value, State.vm_setVm, h.findClass, State.methodFound?_setVm h, State.methodNamed?_setVm h, arm_isInterface_setVm h]
  have h2 := h1.trans w
  exact h2
theorem own_gcI {p : Program} {l : Launch} {e : Env} {R : Room} {s : State} {m : MethodId} {args : Array Value} {below : List Frame} {meth : Method} {c : Code} {T : State} {locs : List Loc} {cells slots : Nat} {Z : State} {a0 : Array Value} {h : Heap} (X : Stand p l e R s m args below meth c T locs cells slots) (hx : p.tables.exec = Jvm.exec) (hZ : Z.Warmed39 s.vm) {own C : String} {index count : Nat} {a mr : Addr} (hown : s.vm.findClass own = some m.cls) {xi : MethodName} (w1 : (Jvm.Cond.methodLink own index xi).before a0 Z = true) (w2 : (Jvm.Cond.declares Jvm.Stand.gcN).before a0 Z = true) (w3 : (Jvm.Cond.interfaceMethod xi.cls "java/lang/Object" xi.name xi.desc).before a0 Z = true) (w4 : (Jvm.Cond.selects C xi Jvm.Stand.gcN).before a0 Z = true) (w5 : (Jvm.Cond.instanceMethod Jvm.Stand.gcN).before a0 Z = true) (w6 : (Jvm.Cond.publicMethod Jvm.Stand.gcN).before a0 Z = true) (w7 : (Jvm.Cond.unhidden C xi.name xi.desc).before a0 Z = true) (w8 : (Jvm.Cond.castable C xi.cls).before a0 Z = true) (w9 : (Jvm.Cond.native Jvm.Stand.gcN).before a0 Z = true)
    (hxi : xi.cls ≠ "java/lang/invoke/MethodHandle" ∧ xi.cls ≠ "java/lang/invoke/VarHandle") (hxo : xi.cls ≠ "java/lang/Object") (hname : xi.name = "getClass") (hdesc : xi.desc = "()Ljava/lang/Class;") (eT : T.heap = h) (E : Exa Z h a C) (M : own_Mir Z C mr) {g : JFrame} (hg : g.method = m) (hsize : g.locals.size = c.maxLocals) {rest : List Value} (hs : g.stack = .ref a :: rest) (hd : decode c.code g.pc = .ok (.invokeinterface index count, 5)) (hf : 1 ≤ R.frames) (hl : 2 * g.monitorRoom + (rest.map fun v => v.category).sum + (nativeFrameWords "java/lang/Object" "getClass" 1 + 11) ≤ R.locals) :
    ∃ T', Stand p l e R s m args below meth c T' locs cells slots ∧ T'.heap = h ∧ ∀ target, Steps p.tables e below (T'.setTop { g with pc := g.pc + 5, stack := .ref mr :: rest }) target → Steps p.tables e below (T.setTop g) target := by
  obtain ⟨cB, kB, q1, q2, q3⟩ := isOf hZ eT E
  obtain ⟨c', k', m1, m2, m3⟩ := own_mirS hZ M
  cases q1.symm.trans m1
  cases q2.symm.trans m2
  obtain ⟨vm', X', st⟩ := X.getClassOfI hx hown (mvT hZ w1) (mvT hZ w2) (own_mvI hZ w3) (mvT hZ w4) (mvT hZ w5) (mvT hZ w6) (mvT hZ w7) (mvT hZ w8) (mvT hZ w9) hxi hxo hname hdesc q1 q2 q3 m3 hg hsize hs hd hf hl
  exact ⟨_, X', eT, st⟩
theorem pn0 : plainName "java/util/AbstractCollection" = true := by first | (simp [plainName, overriddenIn]; done) | decide +kernel
theorem d5_0 : decode jdk_22_method_1_code 0 = .ok (.aload_n 0, 1) := by decide +kernel
theorem d5_1 : decode jdk_22_method_1_code 1 = .ok (.invokespecial 1, 3) := by decide +kernel
theorem d5_4 : decode jdk_22_method_1_code 4 = .ok (.return_, 1) := by decide +kernel
theorem ef5 (m : MethodId) (x0 : Addr) : entryFrame m #[(.ref x0)] 1 = mkF m 0 #[.val (.ref x0)] [] := by first | (simp [entryFrame, mkF, argsToLocals, Value.category]; done) | rfl
def Q5 (Z : State) (o1 : Addr) (h0 : Heap) (n0 : Nat) (v : Option Value) (h : Heap) (L : List Loc) : Prop := v = none ∧ Fr n0 L ∧ h = h0
set_option maxRecDepth 65536 in
set_option maxHeartbeats 40000000 in
theorem rm5 (l : Launch) (Z : State) (a0 : Array Value) (hw : ∀ d ∈ tables_1, d.before a0 Z = true) (ws : List Jvm.Cond) (o1 : Addr) (h0 : Heap) (n0 : Nat) (Z0 : n0 ≤ h0.size) :
    MetFree l (⟨"java/util/AbstractCollection", "<init>", "()V"⟩ : MethodName) (head1 (Jvm.Cond.code (⟨"java/util/AbstractCollection", "<init>", "()V"⟩ : MethodName) jdk_22_method_1_code 1 none :: ws) ({ frames := 1, cells := 0, slots := 0, locals := 12 } : Room)) (fun aa UU => aa = #[(.ref o1)] ∧ Z.Warmed39 UU.vm ∧ UU.heap = h0) (fun _ _ _ _ _ => True) (fun _ UU oo UU' => ∃ vv LL, oo = .returned vv ∧ Q5 Z o1 h0 n0 vv UU'.heap LL ∧ FrameEnd UU oo UU' LL ({ frames := 1, cells := 0, slots := 0, locals := 12 } : Room).cells ({ frames := 1, cells := 0, slots := 0, locals := 12 } : Room).slots) := by
  have W : ∀ {d : Jvm.Cond} (i : Nat), tables_1[i]? = some d → d.before a0 Z = true := fun i h => hw _ (List.mem_of_getElem? h)
  refine MetFree.of_bodySF (plainFor_of_name pn0) hisR ?_
  intro p e s m args below meth c s₁ Bd hml0 hP hK
  obtain ⟨rfl, hZ, hh⟩ := hP
  have hx := Bd.exec
  have hby := Bd.bytes
  have hml : c.maxLocals = 1 := hml0
  have hown : s.vm.findClass "java/util/AbstractCollection" = some m.cls := findClass_of_methodNamed Bd.named
  have hnm := (name_of_methodNamed Bd.named Bd.method).1
  have X0 : Stand p l e ({ frames := 1, cells := 0, slots := 0, locals := 12 } : Room) s m #[(.ref o1)] below meth c s₁ [] 0 0 := Stand.of_body Bd
  have e0 : s₁.heap = h0 := by rw [← hh, Bd.state]; rfl
  have N0 := Fr.nil n0
  have pre0 : ∀ tt, Steps p.tables e below (s₁.setTop (mkF m 0 #[rv o1] [])) tt → Steps p.tables e below (s₁.setTop (entryFrame m #[(.ref o1)] 1)) tt := fun tt kt => castTop (ef5 m o1) kt
  obtain ⟨ST, hST⟩ : ∃ z : State, z = s₁.setTop (mkF m 0 #[rv o1] []) := ⟨_, rfl⟩
  rw [← hST] at pre0
  have go101 : own_S p e below ST s₁ (mkF m 1 #[rv o1] [(.ref o1)]) := fun tt kt => (by
      rw [hST]
      show Steps p.tables e below (s₁.setTop (mkF m 0 #[rv o1] [])) _
      refine XS.aloadN X0.here hx rfl (hb hby d5_0) rfl rfl ?_
      exact kt)
  obtain ⟨T102, X102, e102, st102⟩ := initO X0 hx hZ hown (W 34 rfl) (W 11 rfl) (W 12 rfl) e0 (g := (mkF m 1 #[rv o1] [(.ref o1)])) rfl (by rw [hml]; rfl) rfl (hb hby d5_1) (by decide) (W := 0) (by show 2 * 0 + _ ≤ _; exact Nat.le_of_eq rfl) (by decide)
  have go103 : own_S p e below ST T102 (mkF m 4 #[rv o1] []) := fun tt kt => go101 tt (st102 _ kt)
  obtain ⟨fs, hr, hrun, hended, hW, hsame⟩ := X102.leave (v := none) (fun _ => rfl)
  refine ⟨_, _, pre0 _ (go103 _ ?_), hrun, hended, _, _, rfl, ?_, ⟨_, rfl⟩, hW, hsame.mono (by decide) (by decide)⟩
  · exact X102.returnOut hx Bd.returns (hb hby d5_4) hr
  · show Q5 Z o1 h0 n0 _ T102.heap _
    rw [e102]
    exact ⟨rfl, N0, rfl⟩
theorem pn4 : plainName "java/util/AbstractList" = true := by first | (simp [plainName, overriddenIn]; done) | decide +kernel
theorem d4_0 : decode jdk_39_method_1_code 0 = .ok (.aload_n 0, 1) := by decide +kernel
theorem d4_1 : decode jdk_39_method_1_code 1 = .ok (.invokespecial 1, 3) := by decide +kernel
theorem pd7 : parseMethodDescriptor "()V" = some ⟨[], none⟩ := by decide +kernel
theorem d4_4 : decode jdk_39_method_1_code 4 = .ok (.aload_n 0, 1) := by decide +kernel
theorem d4_5 : decode jdk_39_method_1_code 5 = .ok (.iconst 0, 1) := by decide +kernel
theorem d4_6 : decode jdk_39_method_1_code 6 = .ok (.putfield 7, 3) := by decide +kernel
theorem d4_9 : decode jdk_39_method_1_code 9 = .ok (.return_, 1) := by decide +kernel
theorem ef4a (m : MethodId) (x0 : Addr) : entryFrame m #[(.ref x0)] 1 = mkF m 0 #[.val (.ref x0)] [] := by first | (simp [entryFrame, mkF, argsToLocals, Value.category]; done) | rfl
def Q4a (Z : State) (o1 : Addr) (h0 : Heap) (n0 : Nat) (v : Option Value) (h : Heap) (L : List Loc) : Prop := v = none ∧ Fr n0 L ∧ Keep h0 h [o1] ∧ Fld Z h o1 "java/util/AbstractList" "modCount" "I" (.int (0 : Int32)) ∧ Fld Z h o1 "java/util/ArrayList" "elementData" "[Ljava/lang/Object;" .null ∧ Fld Z h o1 "java/util/ArrayList" "size" "I" (.int (0 : Int32))
set_option maxRecDepth 65536 in
set_option maxHeartbeats 40000000 in
theorem rm4a (l : Launch) (Z : State) (a0 : Array Value) (hw : ∀ d ∈ tables_1, d.before a0 Z = true) (ws : List Jvm.Cond) (o1 : Addr) (h0 : Heap) (n0 : Nat) (Z0 : n0 ≤ h0.size) (F1 : Fld Z h0 o1 "java/util/AbstractList" "modCount" "I" (.int (0 : Int32))) (F2 : Fld Z h0 o1 "java/util/ArrayList" "elementData" "[Ljava/lang/Object;" .null) (F3 : Fld Z h0 o1 "java/util/ArrayList" "size" "I" (.int (0 : Int32))) (E1 : Exa Z h0 o1 "java/util/ArrayList") (g1 : n0 ≤ o1) :
    MetFree l (⟨"java/util/AbstractList", "<init>", "()V"⟩ : MethodName) (head1 (Jvm.Cond.code (⟨"java/util/AbstractList", "<init>", "()V"⟩ : MethodName) jdk_39_method_1_code 1 none :: ws) ({ frames := 2, cells := 0, slots := 0, locals := 24 } : Room)) (fun aa UU => aa = #[(.ref o1)] ∧ Z.Warmed39 UU.vm ∧ UU.heap = h0) (fun _ _ _ _ _ => True) (fun _ UU oo UU' => ∃ vv LL, oo = .returned vv ∧ Q4a Z o1 h0 n0 vv UU'.heap LL ∧ FrameEnd UU oo UU' LL ({ frames := 2, cells := 0, slots := 0, locals := 24 } : Room).cells ({ frames := 2, cells := 0, slots := 0, locals := 24 } : Room).slots) := by
  have W : ∀ {d : Jvm.Cond} (i : Nat), tables_1[i]? = some d → d.before a0 Z = true := fun i h => hw _ (List.mem_of_getElem? h)
  refine MetFree.of_bodySF (plainFor_of_name pn4) hisR ?_
  intro p e s m args below meth c s₁ Bd hml0 hP hK
  obtain ⟨rfl, hZ, hh⟩ := hP
  have hx := Bd.exec
  have hby := Bd.bytes
  have hml : c.maxLocals = 1 := hml0
  have hown : s.vm.findClass "java/util/AbstractList" = some m.cls := findClass_of_methodNamed Bd.named
  have hnm := (name_of_methodNamed Bd.named Bd.method).1
  have X0 : Stand p l e ({ frames := 2, cells := 0, slots := 0, locals := 24 } : Room) s m #[(.ref o1)] below meth c s₁ [] 0 0 := Stand.of_body Bd
  have e0 : s₁.heap = h0 := by rw [← hh, Bd.state]; rfl
  have N0 := Fr.nil n0
  have pre0 : ∀ tt, Steps p.tables e below (s₁.setTop (mkF m 0 #[rv o1] [])) tt → Steps p.tables e below (s₁.setTop (entryFrame m #[(.ref o1)] 1)) tt := fun tt kt => castTop (ef4a m o1) kt
  obtain ⟨ST, hST⟩ : ∃ z : State, z = s₁.setTop (mkF m 0 #[rv o1] []) := ⟨_, rfl⟩
  rw [← hST] at pre0
  have KC0 : Keep h0 h0 [o1] := Keep.refl h0 [o1]
  have go104 : own_S p e below ST s₁ (mkF m 1 #[rv o1] [(.ref o1)]) := fun tt kt => (by
      rw [hST]
      show Steps p.tables e below (s₁.setTop (mkF m 0 #[rv o1] [])) _
      refine XS.aloadN X0.here hx rfl (hb hby d4_0) rfl rfl ?_
      exact kt)
  obtain ⟨_, _, ⟨T105, L105, k105, n105⟩, -, X105, ⟨Lc105, hQ105, l105, y105, z105⟩, st105⟩ := X0.specialBack hx (y := (⟨"java/util/AbstractCollection", "<init>", "()V"⟩ : MethodName)) rfl hown (mvT hZ (W 28 rfl)) (mvT hZ (W 29 rfl)) (mvT hZ (W 33 rfl)) (by decide) (backOf (W := 0) (rm5 l Z a0 hw [] o1 h0 n0 Z0 ) hZ (W 33 rfl) (W 32 rfl) (by decide) (by decide)) (g := (mkF m 1 #[rv o1] [(.ref o1)])) rfl (by rw [hml]; rfl) (Steps.refl _) (a := o1) (argsL := []) (rest := []) (lenOf pd7 rfl) rfl (by show 2 * 0 + _ ≤ _; exact Nat.le_of_eq rfl) (hb hby d4_1) (fun _ _ => ⟨rfl, e0, (by decide : 0 + 0 ≤ _), (by decide : 0 + 0 ≤ _)⟩)
  dsimp only [Pt.U, Pt.locs, Pt.cells, Pt.slots] at X105 l105 y105 z105 st105 hQ105
  subst l105 y105 z105
  obtain ⟨rfl, Nq105, eh105⟩ := hQ105
  have N105 := Fr.app N0 Nq105
  have go106 : own_S p e below ST T105 (mkF m 4 #[rv o1] []) := fun tt kt => go104 tt (st105.trans kt)
  have go107 : own_S p e below ST T105 (mkF m 6 #[rv o1] [(.int (0 : Int32)), (.ref o1)]) := fun tt kt => go106 tt (by
      refine XS.aloadN X105.here hx rfl (hb hby d4_4) rfl rfl ?_
      refine XS.iconst X105.here hx rfl (hb hby d4_5) ?_
      exact kt)
  obtain ⟨T108, h108, X108, e108, W108, st108⟩ := putF X105 hx hZ hown (host := "") (Or.inl (W 35 rfl)) Via.refl eh105 F1 E1 (Or.inl (W 36 rfl)) (W 17 rfl) (ty := .int) (by decide) rfl rfl (g := (mkF m 6 #[rv o1] [(.int (0 : Int32)), (.ref o1)])) rfl rfl (hb hby d4_6)
  have Fw108 := F1.same W108
  have N108 := Fr.snoc X108 N105 g1
  have go109 : own_S p e below ST T108 (mkF m 9 #[rv o1] []) := fun tt kt => go107 tt (st108 _ kt)
  have KC108 : Keep h0 h108 [o1] := KC0.wr W108 (Or.inl (List.mem_of_getElem? (i := 0) rfl))
  have f110 := (F2.other W108 (Or.inr (slot_ne (Or.inl (W 39 rfl)) (Or.inl (W 36 rfl)) (by decide) (t := (.array (.object "java/lang/Object"))) (t' := .int) (by decide) (by decide))))
  have f111 := (F3.other W108 (Or.inr (slot_ne (Or.inl (W 85 rfl)) (Or.inl (W 36 rfl)) (by decide) (t := .int) (t' := .int) (by decide) (by decide))))
  obtain ⟨fs, hr, hrun, hended, hW, hsame⟩ := X108.leave (v := none) (fun _ => rfl)
  refine ⟨_, _, pre0 _ (go109 _ ?_), hrun, hended, _, _, rfl, ?_, ⟨_, rfl⟩, hW, hsame.mono (by decide) (by decide)⟩
  · exact X108.returnOut hx Bd.returns (hb hby d4_9) hr
  · show Q4a Z o1 h0 n0 _ T108.heap _
    rw [e108]
    exact ⟨rfl, N108, KC108, Fw108, f110, f111⟩
theorem ef4c (m : MethodId) (x0 : Addr) : entryFrame m #[(.ref x0)] 1 = mkF m 0 #[.val (.ref x0)] [] := by first | (simp [entryFrame, mkF, argsToLocals, Value.category]; done) | rfl
def Q4c (Z : State) (o1 : Addr) (h0 : Heap) (n0 : Nat) (v : Option Value) (h : Heap) (L : List Loc) : Prop := v = none ∧ Fr n0 L ∧ Keep h0 h [o1] ∧ Fld Z h o1 "java/util/AbstractList" "modCount" "I" (.int (0 : Int32)) ∧ Fld Z h o1 "java/util/Collections$CopiesList" "n" "I" (.int (0 : Int32)) ∧ Fld Z h o1 "java/util/Collections$CopiesList" "element" "Ljava/lang/Object;" .null
set_option maxRecDepth 65536 in
set_option maxHeartbeats 40000000 in
theorem rm4c (l : Launch) (Z : State) (a0 : Array Value) (hw : ∀ d ∈ tables_1, d.before a0 Z = true) (ws : List Jvm.Cond) (o1 : Addr) (h0 : Heap) (n0 : Nat) (Z0 : n0 ≤ h0.size) (F1 : Fld Z h0 o1 "java/util/AbstractList" "modCount" "I" (.int (0 : Int32))) (F2 : Fld Z h0 o1 "java/util/Collections$CopiesList" "n" "I" (.int (0 : Int32))) (F3 : Fld Z h0 o1 "java/util/Collections$CopiesList" "element" "Ljava/lang/Object;" .null) (E1 : Exa Z h0 o1 "java/util/Collections$CopiesList") (g1 : n0 ≤ o1) :
    MetFree l (⟨"java/util/AbstractList", "<init>", "()V"⟩ : MethodName) (head1 (Jvm.Cond.code (⟨"java/util/AbstractList", "<init>", "()V"⟩ : MethodName) jdk_39_method_1_code 1 none :: ws) ({ frames := 2, cells := 0, slots := 0, locals := 24 } : Room)) (fun aa UU => aa = #[(.ref o1)] ∧ Z.Warmed39 UU.vm ∧ UU.heap = h0) (fun _ _ _ _ _ => True) (fun _ UU oo UU' => ∃ vv LL, oo = .returned vv ∧ Q4c Z o1 h0 n0 vv UU'.heap LL ∧ FrameEnd UU oo UU' LL ({ frames := 2, cells := 0, slots := 0, locals := 24 } : Room).cells ({ frames := 2, cells := 0, slots := 0, locals := 24 } : Room).slots) := by
  have W : ∀ {d : Jvm.Cond} (i : Nat), tables_1[i]? = some d → d.before a0 Z = true := fun i h => hw _ (List.mem_of_getElem? h)
  refine MetFree.of_bodySF (plainFor_of_name pn4) hisR ?_
  intro p e s m args below meth c s₁ Bd hml0 hP hK
  obtain ⟨rfl, hZ, hh⟩ := hP
  have hx := Bd.exec
  have hby := Bd.bytes
  have hml : c.maxLocals = 1 := hml0
  have hown : s.vm.findClass "java/util/AbstractList" = some m.cls := findClass_of_methodNamed Bd.named
  have hnm := (name_of_methodNamed Bd.named Bd.method).1
  have X0 : Stand p l e ({ frames := 2, cells := 0, slots := 0, locals := 24 } : Room) s m #[(.ref o1)] below meth c s₁ [] 0 0 := Stand.of_body Bd
  have e0 : s₁.heap = h0 := by rw [← hh, Bd.state]; rfl
  have N0 := Fr.nil n0
  have pre0 : ∀ tt, Steps p.tables e below (s₁.setTop (mkF m 0 #[rv o1] [])) tt → Steps p.tables e below (s₁.setTop (entryFrame m #[(.ref o1)] 1)) tt := fun tt kt => castTop (ef4c m o1) kt
  obtain ⟨ST, hST⟩ : ∃ z : State, z = s₁.setTop (mkF m 0 #[rv o1] []) := ⟨_, rfl⟩
  rw [← hST] at pre0
  have KC0 : Keep h0 h0 [o1] := Keep.refl h0 [o1]
  have go112 : own_S p e below ST s₁ (mkF m 1 #[rv o1] [(.ref o1)]) := fun tt kt => (by
      rw [hST]
      show Steps p.tables e below (s₁.setTop (mkF m 0 #[rv o1] [])) _
      refine XS.aloadN X0.here hx rfl (hb hby d4_0) rfl rfl ?_
      exact kt)
  obtain ⟨_, _, ⟨T113, L113, k113, n113⟩, -, X113, ⟨Lc113, hQ113, l113, y113, z113⟩, st113⟩ := X0.specialBack hx (y := (⟨"java/util/AbstractCollection", "<init>", "()V"⟩ : MethodName)) rfl hown (mvT hZ (W 28 rfl)) (mvT hZ (W 29 rfl)) (mvT hZ (W 33 rfl)) (by decide) (backOf (W := 0) (rm5 l Z a0 hw [] o1 h0 n0 Z0 ) hZ (W 33 rfl) (W 32 rfl) (by decide) (by decide)) (g := (mkF m 1 #[rv o1] [(.ref o1)])) rfl (by rw [hml]; rfl) (Steps.refl _) (a := o1) (argsL := []) (rest := []) (lenOf pd7 rfl) rfl (by show 2 * 0 + _ ≤ _; exact Nat.le_of_eq rfl) (hb hby d4_1) (fun _ _ => ⟨rfl, e0, (by decide : 0 + 0 ≤ _), (by decide : 0 + 0 ≤ _)⟩)
  dsimp only [Pt.U, Pt.locs, Pt.cells, Pt.slots] at X113 l113 y113 z113 st113 hQ113
  subst l113 y113 z113
  obtain ⟨rfl, Nq113, eh113⟩ := hQ113
  have N113 := Fr.app N0 Nq113
  have go114 : own_S p e below ST T113 (mkF m 4 #[rv o1] []) := fun tt kt => go112 tt (st113.trans kt)
  have go115 : own_S p e below ST T113 (mkF m 6 #[rv o1] [(.int (0 : Int32)), (.ref o1)]) := fun tt kt => go114 tt (by
      refine XS.aloadN X113.here hx rfl (hb hby d4_4) rfl rfl ?_
      refine XS.iconst X113.here hx rfl (hb hby d4_5) ?_
      exact kt)
  obtain ⟨T116, h116, X116, e116, W116, st116⟩ := putF X113 hx hZ hown (host := "") (Or.inl (W 35 rfl)) Via.refl eh113 F1 E1 (Or.inl (W 64 rfl)) (W 55 rfl) (ty := .int) (by decide) rfl rfl (g := (mkF m 6 #[rv o1] [(.int (0 : Int32)), (.ref o1)])) rfl rfl (hb hby d4_6)
  have Fw116 := F1.same W116
  have N116 := Fr.snoc X116 N113 g1
  have go117 : own_S p e below ST T116 (mkF m 9 #[rv o1] []) := fun tt kt => go115 tt (st116 _ kt)
  have KC116 : Keep h0 h116 [o1] := KC0.wr W116 (Or.inl (List.mem_of_getElem? (i := 0) rfl))
  have f118 := (F2.other W116 (Or.inr (slot_ne (Or.inr (W 67 rfl)) (Or.inl (W 64 rfl)) (by decide) (t := .int) (t' := .int) (by decide) (by decide))))
  have f119 := (F3.other W116 (Or.inr (slot_ne (Or.inr (W 69 rfl)) (Or.inl (W 64 rfl)) (by decide) (t := (.object "java/lang/Object")) (t' := .int) (by decide) (by decide))))
  obtain ⟨fs, hr, hrun, hended, hW, hsame⟩ := X116.leave (v := none) (fun _ => rfl)
  refine ⟨_, _, pre0 _ (go117 _ ?_), hrun, hended, _, _, rfl, ?_, ⟨_, rfl⟩, hW, hsame.mono (by decide) (by decide)⟩
  · exact X116.returnOut hx Bd.returns (hb hby d4_9) hr
  · show Q4c Z o1 h0 n0 _ T116.heap _
    rw [e116]
    exact ⟨rfl, N116, KC116, Fw116, f118, f119⟩
theorem pn12 : plainName "java/util/ArrayList" = true := by first | (simp [plainName, overriddenIn]; done) | decide +kernel
theorem d3_0 : decode jdk_38_method_2_code 0 = .ok (.aload_n 0, 1) := by decide +kernel
theorem d3_1 : decode jdk_38_method_2_code 1 = .ok (.invokespecial 1, 3) := by decide +kernel
theorem d3_4 : decode jdk_38_method_2_code 4 = .ok (.aload_n 0, 1) := by decide +kernel
theorem d3_5 : decode jdk_38_method_2_code 5 = .ok (.getstatic 39, 3) := by decide +kernel
theorem d3_8 : decode jdk_38_method_2_code 8 = .ok (.putfield 9, 3) := by decide +kernel
theorem d3_11 : decode jdk_38_method_2_code 11 = .ok (.return_, 1) := by decide +kernel
theorem ef3 (m : MethodId) (x0 : Addr) : entryFrame m #[(.ref x0)] 1 = mkF m 0 #[.val (.ref x0)] [] := by first | (simp [entryFrame, mkF, argsToLocals, Value.category]; done) | rfl
def Q3 (Z : State) (o1 : Addr) (ad : Addr) (h0 : Heap) (n0 : Nat) (v : Option Value) (h : Heap) (L : List Loc) : Prop := v = none ∧ Fr n0 L ∧ Keep h0 h [o1]
set_option maxRecDepth 65536 in
set_option maxHeartbeats 40000000 in
theorem rm3 (l : Launch) (Z : State) (a0 : Array Value) (hw : ∀ d ∈ tables_1, d.before a0 Z = true) (ws : List Jvm.Cond) (o1 : Addr) (ad : Addr) (h0 : Heap) (n0 : Nat) (Z0 : n0 ≤ h0.size) (F1 : Fld Z h0 o1 "java/util/AbstractList" "modCount" "I" (.int (0 : Int32))) (F2 : Fld Z h0 o1 "java/util/ArrayList" "elementData" "[Ljava/lang/Object;" .null) (F3 : Fld Z h0 o1 "java/util/ArrayList" "size" "I" (.int (0 : Int32))) (E1 : Exa Z h0 o1 "java/util/ArrayList") (g1 : n0 ≤ o1) (SD : Sta Z Z.heap "java/util/ArrayList" "DEFAULTCAPACITY_EMPTY_ELEMENTDATA" "[Ljava/lang/Object;" (.ref ad)) (OL : Old Z n0 h0) :
    MetFree l (⟨"java/util/ArrayList", "<init>", "()V"⟩ : MethodName) (head1 (Jvm.Cond.code (⟨"java/util/ArrayList", "<init>", "()V"⟩ : MethodName) jdk_38_method_2_code 1 none :: ws) ({ frames := 3, cells := 0, slots := 0, locals := 36 } : Room)) (fun aa UU => aa = #[(.ref o1)] ∧ Z.Warmed39 UU.vm ∧ UU.heap = h0) (fun _ _ _ _ _ => True) (fun _ UU oo UU' => ∃ vv LL, oo = .returned vv ∧ Q3 Z o1 ad h0 n0 vv UU'.heap LL ∧ FrameEnd UU oo UU' LL ({ frames := 3, cells := 0, slots := 0, locals := 36 } : Room).cells ({ frames := 3, cells := 0, slots := 0, locals := 36 } : Room).slots) := by
  have W : ∀ {d : Jvm.Cond} (i : Nat), tables_1[i]? = some d → d.before a0 Z = true := fun i h => hw _ (List.mem_of_getElem? h)
  refine MetFree.of_bodySF (plainFor_of_name pn12) hisR ?_
  intro p e s m args below meth c s₁ Bd hml0 hP hK
  obtain ⟨rfl, hZ, hh⟩ := hP
  have hx := Bd.exec
  have hby := Bd.bytes
  have hml : c.maxLocals = 1 := hml0
  have hown : s.vm.findClass "java/util/ArrayList" = some m.cls := findClass_of_methodNamed Bd.named
  have hnm := (name_of_methodNamed Bd.named Bd.method).1
  have X0 : Stand p l e ({ frames := 3, cells := 0, slots := 0, locals := 36 } : Room) s m #[(.ref o1)] below meth c s₁ [] 0 0 := Stand.of_body Bd
  have e0 : s₁.heap = h0 := by rw [← hh, Bd.state]; rfl
  have N0 := Fr.nil n0
  have pre0 : ∀ tt, Steps p.tables e below (s₁.setTop (mkF m 0 #[rv o1] [])) tt → Steps p.tables e below (s₁.setTop (entryFrame m #[(.ref o1)] 1)) tt := fun tt kt => castTop (ef3 m o1) kt
  obtain ⟨ST, hST⟩ : ∃ z : State, z = s₁.setTop (mkF m 0 #[rv o1] []) := ⟨_, rfl⟩
  rw [← hST] at pre0
  have KC0 : Keep h0 h0 [o1] := Keep.refl h0 [o1]
  have go120 : own_S p e below ST s₁ (mkF m 1 #[rv o1] [(.ref o1)]) := fun tt kt => (by
      rw [hST]
      show Steps p.tables e below (s₁.setTop (mkF m 0 #[rv o1] [])) _
      refine XS.aloadN X0.here hx rfl (hb hby d3_0) rfl rfl ?_
      exact kt)
  obtain ⟨_, _, ⟨T121, L121, k121, n121⟩, -, X121, ⟨Lc121, hQ121, l121, y121, z121⟩, st121⟩ := X0.specialBack hx (y := (⟨"java/util/AbstractList", "<init>", "()V"⟩ : MethodName)) rfl hown (mvT hZ (W 22 rfl)) (mvT hZ (W 23 rfl)) (mvT hZ (W 27 rfl)) (by decide) (backOf (W := 0) (rm4a l Z a0 hw [] o1 h0 n0 Z0 F1 F2 F3 E1 g1) hZ (W 27 rfl) (W 26 rfl) (by decide) (by decide)) (g := (mkF m 1 #[rv o1] [(.ref o1)])) rfl (by rw [hml]; rfl) (Steps.refl _) (a := o1) (argsL := []) (rest := []) (lenOf pd7 rfl) rfl (by show 2 * 0 + _ ≤ _; exact Nat.le_of_eq rfl) (hb hby d3_1) (fun _ _ => ⟨rfl, e0, (by decide : 0 + 0 ≤ _), (by decide : 0 + 0 ≤ _)⟩)
  dsimp only [Pt.U, Pt.locs, Pt.cells, Pt.slots] at X121 l121 y121 z121 st121 hQ121
  subst l121 y121 z121
  obtain ⟨rfl, Nq121, K121, Fa121, Fb121, Fc121⟩ := hQ121
  have N121 := Fr.app N0 Nq121
  have go122 : own_S p e below ST T121 (mkF m 4 #[rv o1] []) := fun tt kt => go120 tt (st121.trans kt)
  have KC121 : Keep h0 T121.heap [o1] := KC0.trans K121 (allS (Or.inl (List.mem_of_getElem? (i := 0) rfl)) all0)
  have go123 : own_S p e below ST T121 (mkF m 5 #[rv o1] [(.ref o1)]) := fun tt kt => go122 tt (by
      refine XS.aloadN X121.here hx rfl (hb hby d3_4) rfl rfl ?_
      exact kt)
  have f125 := (OL.keep K121 (allS g1 all0))
  obtain ⟨T124, X124, e124, st124⟩ := getS2 X121 hx hZ hown (host := "") (Or.inl (W 37 rfl)) Via.refl rfl (SD.ext f125.2) (g := (mkF m 5 #[rv o1] [(.ref o1)])) rfl (hb hby d3_5)
  have go126 : own_S p e below ST T124 (mkF m 8 #[rv o1] [(.ref ad), (.ref o1)]) := fun tt kt => go123 tt (st124 _ kt)
  have f128 := (E1.keep K121)
  obtain ⟨T127, h127, X127, e127, W127, st127⟩ := putF X124 hx hZ hown (host := "") (Or.inl (W 38 rfl)) Via.refl e124 Fb121 f128 (Or.inl (W 39 rfl)) (W 17 rfl) (ty := (.array (.object "java/lang/Object"))) (by decide) rfl rfl (g := (mkF m 8 #[rv o1] [(.ref ad), (.ref o1)])) rfl rfl (hb hby d3_8)
  have Fw127 := Fb121.same W127
  have N127 := Fr.snoc X127 N121 g1
  have go129 : own_S p e below ST T127 (mkF m 11 #[rv o1] []) := fun tt kt => go126 tt (st127 _ kt)
  have KC127 : Keep h0 h127 [o1] := KC121.wr W127 (Or.inl (List.mem_of_getElem? (i := 0) rfl))
  obtain ⟨fs, hr, hrun, hended, hW, hsame⟩ := X127.leave (v := none) (fun _ => rfl)
  refine ⟨_, _, pre0 _ (go129 _ ?_), hrun, hended, _, _, rfl, ?_, ⟨_, rfl⟩, hW, hsame.mono (by decide) (by decide)⟩
  · exact X127.returnOut hx Bd.returns (hb hby d3_11) hr
  · show Q3 Z o1 ad h0 n0 _ T127.heap _
    rw [e127]
    exact ⟨rfl, N127, KC127⟩
theorem d6_0 : decode jdk_29_method_65_code 0 = .ok (.iload_n 0, 1) := by decide +kernel
theorem d6_1 : decode jdk_29_method_65_code 1 = .ok (.iload_n 1, 1) := by decide +kernel
theorem d6_2 : decode jdk_29_method_65_code 2 = .ok (.if_icmp .lt 7, 3) := by decide +kernel
theorem d6_5 : decode jdk_29_method_65_code 5 = .ok (.iload_n 0, 1) := by decide +kernel
theorem d6_6 : decode jdk_29_method_65_code 6 = .ok (.goto 4, 3) := by decide +kernel
theorem d6_10 : decode jdk_29_method_65_code 10 = .ok (.ireturn, 1) := by decide +kernel
theorem ef6 (m : MethodId) (x0 : Int32) (x1 : Int32) : entryFrame m #[(.int x0), (.int x1)] 2 = mkF m 0 #[.val (.int x0), .val (.int x1)] [] := by first | (simp [entryFrame, mkF, argsToLocals, Value.category]; done) | rfl
def Q6 (Z : State)  (h0 : Heap) (n0 : Nat) (v : Option Value) (h : Heap) (L : List Loc) : Prop := v = some (.int 1) ∧ Fr n0 L ∧ h = h0
set_option maxRecDepth 65536 in
set_option maxHeartbeats 40000000 in
theorem rm6 (l : Launch) (Z : State) (a0 : Array Value) (hw : ∀ d ∈ tables_1, d.before a0 Z = true) (ws : List Jvm.Cond)  (h0 : Heap) (n0 : Nat) (Z0 : n0 ≤ h0.size) :
    MetFree l (⟨"java/lang/Math", "max", "(II)I"⟩ : MethodName) (head1 (Jvm.Cond.code (⟨"java/lang/Math", "max", "(II)I"⟩ : MethodName) jdk_29_method_65_code 2 (some .int) :: ws) ({ frames := 0, cells := 0, slots := 0, locals := 0 } : Room)) (fun aa UU => aa = #[(.int (1 : Int32)), (.int (1 : Int32))] ∧ Z.Warmed39 UU.vm ∧ UU.heap = h0) (fun _ _ _ _ _ => True) (fun _ UU oo UU' => ∃ vv LL, oo = .returned vv ∧ Q6 Z  h0 n0 vv UU'.heap LL ∧ FrameEnd UU oo UU' LL ({ frames := 0, cells := 0, slots := 0, locals := 0 } : Room).cells ({ frames := 0, cells := 0, slots := 0, locals := 0 } : Room).slots) := by
  have W : ∀ {d : Jvm.Cond} (i : Nat), tables_1[i]? = some d → d.before a0 Z = true := fun i h => hw _ (List.mem_of_getElem? h)
  refine MetFree.of_bodySF (Jvm.Free.JP.mathPlain rfl (by decide +kernel)) hisR ?_
  intro p e s m args below meth c s₁ Bd hml0 hP hK
  obtain ⟨rfl, hZ, hh⟩ := hP
  have hx := Bd.exec
  have hby := Bd.bytes
  have hml : c.maxLocals = 2 := hml0
  have hown : s.vm.findClass "java/lang/Math" = some m.cls := findClass_of_methodNamed Bd.named
  have hnm := (name_of_methodNamed Bd.named Bd.method).1
  have X0 : Stand p l e ({ frames := 0, cells := 0, slots := 0, locals := 0 } : Room) s m #[(.int (1 : Int32)), (.int (1 : Int32))] below meth c s₁ [] 0 0 := Stand.of_body Bd
  have e0 : s₁.heap = h0 := by rw [← hh, Bd.state]; rfl
  have N0 := Fr.nil n0
  have pre0 : ∀ tt, Steps p.tables e below (s₁.setTop (mkF m 0 #[iv (1 : Int32), iv (1 : Int32)] [])) tt → Steps p.tables e below (s₁.setTop (entryFrame m #[(.int (1 : Int32)), (.int (1 : Int32))] 2)) tt := fun tt kt => castTop (ef6 m (1 : Int32) (1 : Int32)) kt
  obtain ⟨ST, hST⟩ : ∃ z : State, z = s₁.setTop (mkF m 0 #[iv (1 : Int32), iv (1 : Int32)] []) := ⟨_, rfl⟩
  rw [← hST] at pre0
  have go130 : own_S p e below ST s₁ (mkF m 10 #[iv (1 : Int32), iv (1 : Int32)] [(.int (1 : Int32))]) := fun tt kt => (by
      rw [hST]
      show Steps p.tables e below (s₁.setTop (mkF m 0 #[iv (1 : Int32), iv (1 : Int32)] [])) _
      refine XS.iloadN X0.here hx rfl (hb hby d6_0) rfl ?_
      refine XS.iloadN X0.here hx rfl (hb hby d6_1) rfl ?_
      refine XS.icmpNo X0.here hx rfl (hb hby d6_2) rfl (flt (by decide : ¬ ((1 : Int32) < (1 : Int32)))).1 ?_
      refine XS.iloadN X0.here hx rfl (hb hby d6_5) rfl ?_
      refine XS.goto X0.here hx rfl (pc0 := 6) (pc' := 10) rfl (hb hby d6_6) (by decide) (by decide) ?_
      exact kt)
  obtain ⟨fs, hr, hrun, hended, hW, hsame⟩ := X0.leave (v := some (.int (1 : Int32))) (fun h => by rw [Bd.returns] at h; cases h)
  refine ⟨_, _, pre0 _ (go130 _ ?_), hrun, hended, _, _, rfl, ?_, ⟨_, rfl⟩, hW, hsame.mono (by decide) (by decide)⟩
  · exact retI X0 hx Bd.returns (hb hby d6_10) hr
  · show Q6 Z  h0 n0 _ s₁.heap _
    rw [e0]
    exact ⟨rfl, N0, rfl⟩
theorem d12_0 : decode jdk_29_method_69_code 0 = .ok (.iload_n 0, 1) := by decide +kernel
theorem d12_1 : decode jdk_29_method_69_code 1 = .ok (.iload_n 1, 1) := by decide +kernel
theorem d12_2 : decode jdk_29_method_69_code 2 = .ok (.if_icmp .gt 7, 3) := by decide +kernel
theorem d12_5 : decode jdk_29_method_69_code 5 = .ok (.iload_n 0, 1) := by decide +kernel
theorem d12_6 : decode jdk_29_method_69_code 6 = .ok (.goto 4, 3) := by decide +kernel
theorem d12_10 : decode jdk_29_method_69_code 10 = .ok (.ireturn, 1) := by decide +kernel
theorem ef12 (m : MethodId) (x0 : Int32) (x1 : Int32) : entryFrame m #[(.int x0), (.int x1)] 2 = mkF m 0 #[.val (.int x0), .val (.int x1)] [] := by first | (simp [entryFrame, mkF, argsToLocals, Value.category]; done) | rfl
def Q12 (Z : State)  (h0 : Heap) (n0 : Nat) (v : Option Value) (h : Heap) (L : List Loc) : Prop := v = some (.int 1) ∧ Fr n0 L ∧ h = h0
set_option maxRecDepth 65536 in
set_option maxHeartbeats 40000000 in
theorem rm12 (l : Launch) (Z : State) (a0 : Array Value) (hw : ∀ d ∈ tables_1, d.before a0 Z = true) (ws : List Jvm.Cond)  (h0 : Heap) (n0 : Nat) (Z0 : n0 ≤ h0.size) :
    MetFree l (⟨"java/lang/Math", "min", "(II)I"⟩ : MethodName) (head1 (Jvm.Cond.code (⟨"java/lang/Math", "min", "(II)I"⟩ : MethodName) jdk_29_method_69_code 2 (some .int) :: ws) ({ frames := 0, cells := 0, slots := 0, locals := 0 } : Room)) (fun aa UU => aa = #[(.int (1 : Int32)), (.int (1 : Int32))] ∧ Z.Warmed39 UU.vm ∧ UU.heap = h0) (fun _ _ _ _ _ => True) (fun _ UU oo UU' => ∃ vv LL, oo = .returned vv ∧ Q12 Z  h0 n0 vv UU'.heap LL ∧ FrameEnd UU oo UU' LL ({ frames := 0, cells := 0, slots := 0, locals := 0 } : Room).cells ({ frames := 0, cells := 0, slots := 0, locals := 0 } : Room).slots) := by
  have W : ∀ {d : Jvm.Cond} (i : Nat), tables_1[i]? = some d → d.before a0 Z = true := fun i h => hw _ (List.mem_of_getElem? h)
  refine MetFree.of_bodySF (Jvm.Free.JP.mathPlain rfl (by decide +kernel)) hisR ?_
  intro p e s m args below meth c s₁ Bd hml0 hP hK
  obtain ⟨rfl, hZ, hh⟩ := hP
  have hx := Bd.exec
  have hby := Bd.bytes
  have hml : c.maxLocals = 2 := hml0
  have hown : s.vm.findClass "java/lang/Math" = some m.cls := findClass_of_methodNamed Bd.named
  have hnm := (name_of_methodNamed Bd.named Bd.method).1
  have X0 : Stand p l e ({ frames := 0, cells := 0, slots := 0, locals := 0 } : Room) s m #[(.int (1 : Int32)), (.int (1 : Int32))] below meth c s₁ [] 0 0 := Stand.of_body Bd
  have e0 : s₁.heap = h0 := by rw [← hh, Bd.state]; rfl
  have N0 := Fr.nil n0
  have pre0 : ∀ tt, Steps p.tables e below (s₁.setTop (mkF m 0 #[iv (1 : Int32), iv (1 : Int32)] [])) tt → Steps p.tables e below (s₁.setTop (entryFrame m #[(.int (1 : Int32)), (.int (1 : Int32))] 2)) tt := fun tt kt => castTop (ef12 m (1 : Int32) (1 : Int32)) kt
  obtain ⟨ST, hST⟩ : ∃ z : State, z = s₁.setTop (mkF m 0 #[iv (1 : Int32), iv (1 : Int32)] []) := ⟨_, rfl⟩
  rw [← hST] at pre0
  have go131 : own_S p e below ST s₁ (mkF m 10 #[iv (1 : Int32), iv (1 : Int32)] [(.int (1 : Int32))]) := fun tt kt => (by
      rw [hST]
      show Steps p.tables e below (s₁.setTop (mkF m 0 #[iv (1 : Int32), iv (1 : Int32)] [])) _
      refine XS.iloadN X0.here hx rfl (hb hby d12_0) rfl ?_
      refine XS.iloadN X0.here hx rfl (hb hby d12_1) rfl ?_
      refine XS.icmpNo X0.here hx rfl (hb hby d12_2) rfl (flt (by decide : ¬ ((1 : Int32) < (1 : Int32)))).2.2.1 ?_
      refine XS.iloadN X0.here hx rfl (hb hby d12_5) rfl ?_
      refine XS.goto X0.here hx rfl (pc0 := 6) (pc' := 10) rfl (hb hby d12_6) (by decide) (by decide) ?_
      exact kt)
  obtain ⟨fs, hr, hrun, hended, hW, hsame⟩ := X0.leave (v := some (.int (1 : Int32))) (fun h => by rw [Bd.returns] at h; cases h)
  refine ⟨_, _, pre0 _ (go131 _ ?_), hrun, hended, _, _, rfl, ?_, ⟨_, rfl⟩, hW, hsame.mono (by decide) (by decide)⟩
  · exact retI X0 hx Bd.returns (hb hby d12_10) hr
  · show Q12 Z  h0 n0 _ s₁.heap _
    rw [e0]
    exact ⟨rfl, N0, rfl⟩
theorem pn31 : plainName "java/util/Collections$CopiesList" = true := by first | (simp [plainName, overriddenIn]; done) | decide +kernel
theorem d8_0 : decode jdk_2479_method_1_code 0 = .ok (.aload_n 0, 1) := by decide +kernel
theorem d8_1 : decode jdk_2479_method_1_code 1 = .ok (.invokespecial 1, 3) := by decide +kernel
theorem d8_4 : decode jdk_2479_method_1_code 4 = .ok (.getstatic 7, 3) := by decide +kernel
theorem d8_7 : decode jdk_2479_method_1_code 7 = .ok (.ifCond .ne 15, 3) := by decide +kernel
theorem d8_22 : decode jdk_2479_method_1_code 22 = .ok (.aload_n 0, 1) := by decide +kernel
theorem d8_23 : decode jdk_2479_method_1_code 23 = .ok (.iload_n 1, 1) := by decide +kernel
theorem d8_24 : decode jdk_2479_method_1_code 24 = .ok (.putfield 16, 3) := by decide +kernel
theorem d8_27 : decode jdk_2479_method_1_code 27 = .ok (.aload_n 0, 1) := by decide +kernel
theorem d8_28 : decode jdk_2479_method_1_code 28 = .ok (.aload_n 2, 1) := by decide +kernel
theorem d8_29 : decode jdk_2479_method_1_code 29 = .ok (.putfield 20, 3) := by decide +kernel
theorem d8_32 : decode jdk_2479_method_1_code 32 = .ok (.return_, 1) := by decide +kernel
theorem ef8 (m : MethodId) (x0 : Addr) (x1 : Int32) : entryFrame m #[(.ref x0), (.int x1), .null] 3 = mkF m 0 #[.val (.ref x0), .val (.int x1), .val .null] [] := by first | (simp [entryFrame, mkF, argsToLocals, Value.category]; done) | rfl
def Q8 (Z : State) (o1 : Addr) (h0 : Heap) (n0 : Nat) (v : Option Value) (h : Heap) (L : List Loc) : Prop := v = none ∧ Fr n0 L ∧ Keep h0 h [o1] ∧ Fld Z h o1 "java/util/Collections$CopiesList" "n" "I" (.int (1 : Int32)) ∧ Fld Z h o1 "java/util/Collections$CopiesList" "element" "Ljava/lang/Object;" .null
set_option maxRecDepth 65536 in
set_option maxHeartbeats 40000000 in
theorem rm8 (l : Launch) (Z : State) (a0 : Array Value) (hw : ∀ d ∈ tables_1, d.before a0 Z = true) (ws : List Jvm.Cond) (o1 : Addr) (h0 : Heap) (n0 : Nat) (Z0 : n0 ≤ h0.size) (F1 : Fld Z h0 o1 "java/util/AbstractList" "modCount" "I" (.int (0 : Int32))) (F2 : Fld Z h0 o1 "java/util/Collections$CopiesList" "n" "I" (.int (0 : Int32))) (F3 : Fld Z h0 o1 "java/util/Collections$CopiesList" "element" "Ljava/lang/Object;" .null) (E1 : Exa Z h0 o1 "java/util/Collections$CopiesList") (g1 : n0 ≤ o1) (SA : Sta Z Z.heap "java/util/Collections$CopiesList" "$assertionsDisabled" "Z" (.int (1 : Int32))) (OL : Old Z n0 h0) :
    MetFree l (⟨"java/util/Collections$CopiesList", "<init>", "(ILjava/lang/Object;)V"⟩ : MethodName) (head1 (Jvm.Cond.code (⟨"java/util/Collections$CopiesList", "<init>", "(ILjava/lang/Object;)V"⟩ : MethodName) jdk_2479_method_1_code 3 none :: ws) ({ frames := 3, cells := 0, slots := 0, locals := 36 } : Room)) (fun aa UU => aa = #[(.ref o1), (.int (1 : Int32)), .null] ∧ Z.Warmed39 UU.vm ∧ UU.heap = h0) (fun _ _ _ _ _ => True) (fun _ UU oo UU' => ∃ vv LL, oo = .returned vv ∧ Q8 Z o1 h0 n0 vv UU'.heap LL ∧ FrameEnd UU oo UU' LL ({ frames := 3, cells := 0, slots := 0, locals := 36 } : Room).cells ({ frames := 3, cells := 0, slots := 0, locals := 36 } : Room).slots) := by
  have W : ∀ {d : Jvm.Cond} (i : Nat), tables_1[i]? = some d → d.before a0 Z = true := fun i h => hw _ (List.mem_of_getElem? h)
  refine MetFree.of_bodySF (plainFor_of_name pn31) hisR ?_
  intro p e s m args below meth c s₁ Bd hml0 hP hK
  obtain ⟨rfl, hZ, hh⟩ := hP
  have hx := Bd.exec
  have hby := Bd.bytes
  have hml : c.maxLocals = 3 := hml0
  have hown : s.vm.findClass "java/util/Collections$CopiesList" = some m.cls := findClass_of_methodNamed Bd.named
  have hnm := (name_of_methodNamed Bd.named Bd.method).1
  have X0 : Stand p l e ({ frames := 3, cells := 0, slots := 0, locals := 36 } : Room) s m #[(.ref o1), (.int (1 : Int32)), .null] below meth c s₁ [] 0 0 := Stand.of_body Bd
  have e0 : s₁.heap = h0 := by rw [← hh, Bd.state]; rfl
  have N0 := Fr.nil n0
  have pre0 : ∀ tt, Steps p.tables e below (s₁.setTop (mkF m 0 #[rv o1, iv (1 : Int32), .val .null] [])) tt → Steps p.tables e below (s₁.setTop (entryFrame m #[(.ref o1), (.int (1 : Int32)), .null] 3)) tt := fun tt kt => castTop (ef8 m o1 (1 : Int32)) kt
  obtain ⟨ST, hST⟩ : ∃ z : State, z = s₁.setTop (mkF m 0 #[rv o1, iv (1 : Int32), .val .null] []) := ⟨_, rfl⟩
  rw [← hST] at pre0
  have KC0 : Keep h0 h0 [o1] := Keep.refl h0 [o1]
  have go132 : own_S p e below ST s₁ (mkF m 1 #[rv o1, iv (1 : Int32), .val .null] [(.ref o1)]) := fun tt kt => (by
      rw [hST]
      show Steps p.tables e below (s₁.setTop (mkF m 0 #[rv o1, iv (1 : Int32), .val .null] [])) _
      refine XS.aloadN X0.here hx rfl (hb hby d8_0) rfl rfl ?_
      exact kt)
  obtain ⟨_, _, ⟨T133, L133, k133, n133⟩, -, X133, ⟨Lc133, hQ133, l133, y133, z133⟩, st133⟩ := X0.specialBack hx (y := (⟨"java/util/AbstractList", "<init>", "()V"⟩ : MethodName)) rfl hown (mvT hZ (W 61 rfl)) (mvT hZ (W 23 rfl)) (mvT hZ (W 27 rfl)) (by decide) (backOf (W := 0) (rm4c l Z a0 hw [] o1 h0 n0 Z0 F1 F2 F3 E1 g1) hZ (W 27 rfl) (W 26 rfl) (by decide) (by decide)) (g := (mkF m 1 #[rv o1, iv (1 : Int32), .val .null] [(.ref o1)])) rfl (by rw [hml]; rfl) (Steps.refl _) (a := o1) (argsL := []) (rest := []) (lenOf pd7 rfl) rfl (by show 2 * 0 + _ ≤ _; exact Nat.le_of_eq rfl) (hb hby d8_1) (fun _ _ => ⟨rfl, e0, (by decide : 0 + 0 ≤ _), (by decide : 0 + 0 ≤ _)⟩)
  dsimp only [Pt.U, Pt.locs, Pt.cells, Pt.slots] at X133 l133 y133 z133 st133 hQ133
  subst l133 y133 z133
  obtain ⟨rfl, Nq133, K133, Fa133, Fb133, Fc133⟩ := hQ133
  have N133 := Fr.app N0 Nq133
  have go134 : own_S p e below ST T133 (mkF m 4 #[rv o1, iv (1 : Int32), .val .null] []) := fun tt kt => go132 tt (st133.trans kt)
  have KC133 : Keep h0 T133.heap [o1] := KC0.trans K133 (allS (Or.inl (List.mem_of_getElem? (i := 0) rfl)) all0)
  have f136 := (OL.keep K133 (allS g1 all0))
  obtain ⟨T135, X135, e135, st135⟩ := getS2 X133 hx hZ hown (host := "") (Or.inl (W 65 rfl)) Via.refl rfl (SA.ext f136.2) (g := (mkF m 4 #[rv o1, iv (1 : Int32), .val .null] [])) rfl (hb hby d8_4)
  have go137 : own_S p e below ST T135 (mkF m 7 #[rv o1, iv (1 : Int32), .val .null] [(.int (1 : Int32))]) := fun tt kt => go134 tt (st135 _ kt)
  have go138 : own_S p e below ST T135 (mkF m 24 #[rv o1, iv (1 : Int32), .val .null] [(.int (1 : Int32)), (.ref o1)]) := fun tt kt => go137 tt (by
      refine XS.ifYes X135.here hx rfl (pc0 := 7) (pc' := 22) rfl (hb hby d8_7) rfl ((if0 _ _).trans (feq (by decide : ¬ ((1 : Int32) = (0 : Int32)))).2) (by decide) (by decide) ?_
      refine XS.aloadN X135.here hx rfl (hb hby d8_22) rfl rfl ?_
      refine XS.iloadN X135.here hx rfl (hb hby d8_23) rfl ?_
      exact kt)
  have f140 := (E1.keep K133)
  obtain ⟨T139, h139, X139, e139, W139, st139⟩ := putF X135 hx hZ hown (host := "") (Or.inl (W 66 rfl)) Via.refl e135 Fb133 f140 (Or.inr ⟨(W 67 rfl), rfl, hnm⟩) (W 55 rfl) (ty := .int) (by decide) rfl rfl (g := (mkF m 24 #[rv o1, iv (1 : Int32), .val .null] [(.int (1 : Int32)), (.ref o1)])) rfl rfl (hb hby d8_24)
  have Fw139 := Fb133.same W139
  have N139 := Fr.snoc X139 N133 g1
  have go141 : own_S p e below ST T139 (mkF m 27 #[rv o1, iv (1 : Int32), .val .null] []) := fun tt kt => go138 tt (st139 _ kt)
  have KC139 : Keep h0 h139 [o1] := KC133.wr W139 (Or.inl (List.mem_of_getElem? (i := 0) rfl))
  have go142 : own_S p e below ST T139 (mkF m 29 #[rv o1, iv (1 : Int32), .val .null] [.null, (.ref o1)]) := fun tt kt => go141 tt (by
      refine XS.aloadN X139.here hx rfl (hb hby d8_27) rfl rfl ?_
      refine XS.aloadN X139.here hx rfl (hb hby d8_28) rfl rfl ?_
      exact kt)
  have f144 := (Fc133.other W139 (Or.inr (slot_ne (Or.inr (W 69 rfl)) (Or.inr (W 67 rfl)) (by decide) (t := (.object "java/lang/Object")) (t' := .int) (by decide) (by decide))))
  have f145 := (f140.wr W139)
  obtain ⟨T143, h143, X143, e143, W143, st143⟩ := putF X139 hx hZ hown (host := "") (Or.inl (W 68 rfl)) Via.refl e139 f144 f145 (Or.inr ⟨(W 69 rfl), rfl, hnm⟩) (W 55 rfl) (ty := (.object "java/lang/Object")) (by decide) rfl rfl (g := (mkF m 29 #[rv o1, iv (1 : Int32), .val .null] [.null, (.ref o1)])) rfl rfl (hb hby d8_29)
  have Fw143 := f144.same W143
  have N143 := Fr.snoc X143 N139 g1
  have go146 : own_S p e below ST T143 (mkF m 32 #[rv o1, iv (1 : Int32), .val .null] []) := fun tt kt => go142 tt (st143 _ kt)
  have KC143 : Keep h0 h143 [o1] := KC139.wr W143 (Or.inl (List.mem_of_getElem? (i := 0) rfl))
  have f147 := (Fw139.other W143 (Or.inr (slot_ne (Or.inr (W 67 rfl)) (Or.inr (W 69 rfl)) (by decide) (t := .int) (t' := (.object "java/lang/Object")) (by decide) (by decide))))
  obtain ⟨fs, hr, hrun, hended, hW, hsame⟩ := X143.leave (v := none) (fun _ => rfl)
  refine ⟨_, _, pre0 _ (go146 _ ?_), hrun, hended, _, _, rfl, ?_, ⟨_, rfl⟩, hW, hsame.mono (by decide) (by decide)⟩
  · exact X143.returnOut hx Bd.returns (hb hby d8_32) hr
  · show Q8 Z o1 h0 n0 _ T143.heap _
    rw [e143]
    exact ⟨rfl, N143, KC143, f147, Fw143⟩
theorem pn43 : plainName "java/util/Collections" = true := by first | (simp [plainName, overriddenIn]; done) | decide +kernel
theorem d7_0 : decode jdk_79_method_76_code 0 = .ok (.iload_n 0, 1) := by decide +kernel
theorem d7_1 : decode jdk_79_method_76_code 1 = .ok (.ifCond .ge 31, 3) := by decide +kernel
theorem d7_32 : decode jdk_79_method_76_code 32 = .ok (.new 417, 3) := by decide +kernel
theorem d7_35 : decode jdk_79_method_76_code 35 = .ok (.dup, 1) := by decide +kernel
theorem d7_36 : decode jdk_79_method_76_code 36 = .ok (.iload_n 0, 1) := by decide +kernel
theorem d7_37 : decode jdk_79_method_76_code 37 = .ok (.aload_n 1, 1) := by decide +kernel
theorem d7_38 : decode jdk_79_method_76_code 38 = .ok (.invokespecial 419, 3) := by decide +kernel
theorem pd51 : parseMethodDescriptor "(ILjava/lang/Object;)V" = some ⟨[.int, (.object "java/lang/Object")], none⟩ := by decide +kernel
theorem d7_41 : decode jdk_79_method_76_code 41 = .ok (.areturn, 1) := by decide +kernel
theorem ef7 (m : MethodId) (x0 : Int32) : entryFrame m #[(.int x0), .null] 2 = mkF m 0 #[.val (.int x0), .val .null] [] := by first | (simp [entryFrame, mkF, argsToLocals, Value.category]; done) | rfl
def Q7 (Z : State)  (h0 : Heap) (n0 : Nat) (v : Option Value) (h : Heap) (L : List Loc) : Prop := ∃ b : Addr, v = some (.ref b) ∧ Fr n0 L ∧ Keep h0 h [] ∧ Exa Z h b "java/util/Collections$CopiesList" ∧ Fld Z h b "java/util/Collections$CopiesList" "n" "I" (.int (1 : Int32)) ∧ Fld Z h b "java/util/Collections$CopiesList" "element" "Ljava/lang/Object;" .null ∧ n0 ≤ b ∧ h0.size ≤ b
set_option maxRecDepth 65536 in
set_option maxHeartbeats 40000000 in
theorem rm7 (l : Launch) (Z : State) (a0 : Array Value) (hw : ∀ d ∈ tables_1, d.before a0 Z = true) (ws : List Jvm.Cond)  (h0 : Heap) (n0 : Nat) (Z0 : n0 ≤ h0.size) (SA : Sta Z Z.heap "java/util/Collections$CopiesList" "$assertionsDisabled" "Z" (.int (1 : Int32))) (OL : Old Z n0 h0) :
    MetFree l (⟨"java/util/Collections", "nCopies", "(ILjava/lang/Object;)Ljava/util/List;"⟩ : MethodName) (head1 (Jvm.Cond.code (⟨"java/util/Collections", "nCopies", "(ILjava/lang/Object;)Ljava/util/List;"⟩ : MethodName) jdk_79_method_76_code 2 (some (.object "java/util/List")) :: ws) ({ frames := 4, cells := 1, slots := 3, locals := 51 } : Room)) (fun aa UU => aa = #[(.int (1 : Int32)), .null] ∧ Z.Warmed39 UU.vm ∧ UU.heap = h0) (fun _ _ _ _ _ => True) (fun _ UU oo UU' => ∃ vv LL, oo = .returned vv ∧ Q7 Z  h0 n0 vv UU'.heap LL ∧ FrameEnd UU oo UU' LL ({ frames := 4, cells := 1, slots := 3, locals := 51 } : Room).cells ({ frames := 4, cells := 1, slots := 3, locals := 51 } : Room).slots) := by
  have W : ∀ {d : Jvm.Cond} (i : Nat), tables_1[i]? = some d → d.before a0 Z = true := fun i h => hw _ (List.mem_of_getElem? h)
  refine MetFree.of_bodySF (plainFor_of_name pn43) hisR ?_
  intro p e s m args below meth c s₁ Bd hml0 hP hK
  obtain ⟨rfl, hZ, hh⟩ := hP
  have hx := Bd.exec
  have hby := Bd.bytes
  have hml : c.maxLocals = 2 := hml0
  have hown : s.vm.findClass "java/util/Collections" = some m.cls := findClass_of_methodNamed Bd.named
  have hnm := (name_of_methodNamed Bd.named Bd.method).1
  have X0 : Stand p l e ({ frames := 4, cells := 1, slots := 3, locals := 51 } : Room) s m #[(.int (1 : Int32)), .null] below meth c s₁ [] 0 0 := Stand.of_body Bd
  have e0 : s₁.heap = h0 := by rw [← hh, Bd.state]; rfl
  have N0 := Fr.nil n0
  have pre0 : ∀ tt, Steps p.tables e below (s₁.setTop (mkF m 0 #[iv (1 : Int32), .val .null] [])) tt → Steps p.tables e below (s₁.setTop (entryFrame m #[(.int (1 : Int32)), .null] 2)) tt := fun tt kt => castTop (ef7 m (1 : Int32)) kt
  obtain ⟨ST, hST⟩ : ∃ z : State, z = s₁.setTop (mkF m 0 #[iv (1 : Int32), .val .null] []) := ⟨_, rfl⟩
  rw [← hST] at pre0
  have KC0 : Keep h0 h0 [] := Keep.refl h0 []
  have go148 : own_S p e below ST s₁ (mkF m 32 #[iv (1 : Int32), .val .null] []) := fun tt kt => (by
      rw [hST]
      show Steps p.tables e below (s₁.setTop (mkF m 0 #[iv (1 : Int32), .val .null] [])) _
      refine XS.iloadN X0.here hx rfl (hb hby d7_0) rfl ?_
      refine XS.ifYes X0.here hx rfl (pc0 := 1) (pc' := 32) rfl (hb hby d7_1) rfl ((if0 _ _).trans (flt (by decide : ¬ ((1 : Int32) < (0 : Int32)))).2.1) (by decide) (by decide) ?_
      exact kt)
  obtain ⟨b149, g149⟩ : ∃ z, z = h0.size := ⟨_, rfl⟩
  obtain ⟨T149, h149, X149, e149, E149, A149, D149, -, st149⟩ := newO X0 hx hZ hown (W 54 rfl) (W 55 rfl) (W 56 rfl) e0 (g := (mkF m 32 #[iv (1 : Int32), .val .null] [])) rfl (hb hby d7_32) (by decide) (by decide)
  rw [← g149] at A149 D149 st149
  have ge_b149 : n0 ≤ b149 := Nat.le_trans Z0 (Nat.le_of_eq g149.symm)
  have sz_b149 : h0.size ≤ b149 := Nat.le_trans KC0.1 (Nat.le_of_eq g149.symm)
  have F149_modCount : Fld Z h149 b149 "java/util/AbstractList" "modCount" "I" (.int (0 : Int32)) := D149 (Or.inl (W 64 rfl)) (ty := .int) (by decide)
  have F149_n : Fld Z h149 b149 "java/util/Collections$CopiesList" "n" "I" (.int (0 : Int32)) := D149 (Or.inr (W 67 rfl)) (ty := .int) (by decide)
  have F149_element : Fld Z h149 b149 "java/util/Collections$CopiesList" "element" "Ljava/lang/Object;" .null := D149 (Or.inr (W 69 rfl)) (ty := (.object "java/lang/Object")) (by decide)
  have KC149 : Keep h0 h149 [] := KC0.ext E149
  have go150 : own_S p e below ST T149 (mkF m 35 #[iv (1 : Int32), .val .null] [(.ref b149)]) := fun tt kt => go148 tt (st149 _ kt)
  have go151 : own_S p e below ST T149 (mkF m 38 #[iv (1 : Int32), .val .null] [.null, (.int (1 : Int32)), (.ref b149), (.ref b149)]) := fun tt kt => go150 tt (by
      refine XS.dup X149.here hx rfl (hb hby d7_35) rfl rfl ?_
      refine XS.iloadN X149.here hx rfl (hb hby d7_36) rfl ?_
      refine XS.aloadN X149.here hx rfl (hb hby d7_37) rfl rfl ?_
      exact kt)
  have f152 := (OL.ext E149)
  have zs154 := (Nat.le_trans Z0 E149.1)
  obtain ⟨_, _, ⟨T153, L153, k153, n153⟩, -, X153, ⟨Lc153, hQ153, l153, y153, z153⟩, st153⟩ := X149.specialBack hx (y := (⟨"java/util/Collections$CopiesList", "<init>", "(ILjava/lang/Object;)V"⟩ : MethodName)) rfl hown (mvT hZ (W 57 rfl)) (mvT hZ (W 58 rfl)) (mvT hZ (W 60 rfl)) (by decide) (backOf (W := 1) (rm8 l Z a0 hw [] b149 h149 n0 zs154 F149_modCount F149_n F149_element A149 ge_b149 SA f152) hZ (W 60 rfl) (W 56 rfl) (by decide) (by decide)) (g := (mkF m 38 #[iv (1 : Int32), .val .null] [.null, (.int (1 : Int32)), (.ref b149), (.ref b149)])) rfl (by rw [hml]; rfl) (Steps.refl _) (a := b149) (argsL := [(.int (1 : Int32)), .null]) (rest := [(.ref b149)]) (lenOf pd51 rfl) rfl (by show 2 * 0 + _ ≤ _; exact Nat.le_of_eq rfl) (hb hby d7_38) (fun _ _ => ⟨rfl, e149, (by decide : 1 + 0 ≤ _), (by decide : 3 + 0 ≤ _)⟩)
  dsimp only [Pt.U, Pt.locs, Pt.cells, Pt.slots] at X153 l153 y153 z153 st153 hQ153
  subst l153 y153 z153
  obtain ⟨rfl, Nq153, K153, Fa153, Fb153⟩ := hQ153
  have N153 := Fr.app N0 Nq153
  have go155 : own_S p e below ST T153 (mkF m 41 #[iv (1 : Int32), .val .null] [(.ref b149)]) := fun tt kt => go151 tt (st153.trans kt)
  have KC153 : Keep h0 T153.heap [] := KC149.trans K153 (allS (Or.inr sz_b149) all0)
  have f156 := (A149.keep K153)
  obtain ⟨fs, hr, hrun, hended, hW, hsame⟩ := X153.leave (v := some (.ref b149)) (fun h => by rw [Bd.returns] at h; cases h)
  refine ⟨_, _, pre0 _ (go155 _ ?_), hrun, hended, _, _, rfl, ?_, ⟨_, rfl⟩, hW, hsame.mono (by decide) (by decide)⟩
  · exact retOut X153 hx Bd.returns rfl (Or.inr (Or.inr (Or.inr (Or.inr ⟨rfl, rfl, rfl⟩)))) (hb hby d7_41) hr
  · show Q7 Z  h0 n0 _ T153.heap _
    exact ⟨b149, rfl, N153, KC153, f156, Fa153, Fb153, ge_b149, sz_b149⟩
theorem d10_0 : decode jdk_2479_method_8_code 0 = .ok (.aload_n 0, 1) := by decide +kernel
theorem d10_1 : decode jdk_2479_method_8_code 1 = .ok (.getfield 16, 3) := by decide +kernel
theorem d10_4 : decode jdk_2479_method_8_code 4 = .ok (.anewarray 50, 3) := by decide +kernel
theorem d10_7 : decode jdk_2479_method_8_code 7 = .ok (.astore_n 1, 1) := by decide +kernel
theorem d10_8 : decode jdk_2479_method_8_code 8 = .ok (.aload_n 0, 1) := by decide +kernel
theorem d10_9 : decode jdk_2479_method_8_code 9 = .ok (.getfield 20, 3) := by decide +kernel
theorem d10_12 : decode jdk_2479_method_8_code 12 = .ok (.ifnull 16, 3) := by decide +kernel
theorem d10_28 : decode jdk_2479_method_8_code 28 = .ok (.aload_n 1, 1) := by decide +kernel
theorem d10_29 : decode jdk_2479_method_8_code 29 = .ok (.areturn, 1) := by decide +kernel
theorem ef10 (m : MethodId) (x0 : Addr) : entryFrame m #[(.ref x0)] 2 = mkF m 0 #[.val (.ref x0), .unset] [] := by first | (simp [entryFrame, mkF, argsToLocals, Value.category]; done) | rfl
def Q10 (Z : State) (o1 : Addr) (h0 : Heap) (n0 : Nat) (v : Option Value) (h : Heap) (L : List Loc) : Prop := ∃ (b : Addr) (kb : ClassId), v = some (.ref b) ∧ Fr n0 L ∧ Keep h0 h [] ∧ Arv Z h b kb (.object "java/lang/Object") (1 : Int32) [.null] .null ∧ n0 ≤ b ∧ h0.size ≤ b
set_option maxRecDepth 65536 in
set_option maxHeartbeats 40000000 in
theorem rm10 (l : Launch) (Z : State) (a0 : Array Value) (hw : ∀ d ∈ tables_1, d.before a0 Z = true) (ws : List Jvm.Cond) (o1 : Addr) (h0 : Heap) (n0 : Nat) (Z0 : n0 ≤ h0.size) (F1 : Fld Z h0 o1 "java/util/Collections$CopiesList" "n" "I" (.int (1 : Int32))) (F2 : Fld Z h0 o1 "java/util/Collections$CopiesList" "element" "Ljava/lang/Object;" .null) :
    MetFree l (⟨"java/util/Collections$CopiesList", "toArray", "()[Ljava/lang/Object;"⟩ : MethodName) (head1 (Jvm.Cond.code (⟨"java/util/Collections$CopiesList", "toArray", "()[Ljava/lang/Object;"⟩ : MethodName) jdk_2479_method_8_code 2 (some (.array (.object "java/lang/Object"))) :: ws) ({ frames := 0, cells := 1, slots := 1, locals := 0 } : Room)) (fun aa UU => aa = #[(.ref o1)] ∧ Z.Warmed39 UU.vm ∧ UU.heap = h0) (fun _ _ _ _ _ => True) (fun _ UU oo UU' => ∃ vv LL, oo = .returned vv ∧ Q10 Z o1 h0 n0 vv UU'.heap LL ∧ FrameEnd UU oo UU' LL ({ frames := 0, cells := 1, slots := 1, locals := 0 } : Room).cells ({ frames := 0, cells := 1, slots := 1, locals := 0 } : Room).slots) := by
  have W : ∀ {d : Jvm.Cond} (i : Nat), tables_1[i]? = some d → d.before a0 Z = true := fun i h => hw _ (List.mem_of_getElem? h)
  refine MetFree.of_bodySF (plainFor_of_name pn31) hisR ?_
  intro p e s m args below meth c s₁ Bd hml0 hP hK
  obtain ⟨rfl, hZ, hh⟩ := hP
  have hx := Bd.exec
  have hby := Bd.bytes
  have hml : c.maxLocals = 2 := hml0
  have hown : s.vm.findClass "java/util/Collections$CopiesList" = some m.cls := findClass_of_methodNamed Bd.named
  have hnm := (name_of_methodNamed Bd.named Bd.method).1
  have X0 : Stand p l e ({ frames := 0, cells := 1, slots := 1, locals := 0 } : Room) s m #[(.ref o1)] below meth c s₁ [] 0 0 := Stand.of_body Bd
  have e0 : s₁.heap = h0 := by rw [← hh, Bd.state]; rfl
  have N0 := Fr.nil n0
  have pre0 : ∀ tt, Steps p.tables e below (s₁.setTop (mkF m 0 #[rv o1, .unset] [])) tt → Steps p.tables e below (s₁.setTop (entryFrame m #[(.ref o1)] 2)) tt := fun tt kt => castTop (ef10 m o1) kt
  obtain ⟨ST, hST⟩ : ∃ z : State, z = s₁.setTop (mkF m 0 #[rv o1, .unset] []) := ⟨_, rfl⟩
  rw [← hST] at pre0
  have KC0 : Keep h0 h0 [] := Keep.refl h0 []
  have go157 : own_S p e below ST s₁ (mkF m 1 #[rv o1, .unset] [(.ref o1)]) := fun tt kt => (by
      rw [hST]
      show Steps p.tables e below (s₁.setTop (mkF m 0 #[rv o1, .unset] [])) _
      refine XS.aloadN X0.here hx rfl (hb hby d10_0) rfl rfl ?_
      exact kt)
  obtain ⟨T158, X158, e158, st158⟩ := getF X0 hx hZ hown (host := "") (Or.inl (W 66 rfl)) Via.refl e0 F1 (g := (mkF m 1 #[rv o1, .unset] [(.ref o1)])) rfl rfl (hb hby d10_1)
  have go159 : own_S p e below ST T158 (mkF m 4 #[rv o1, .unset] [(.int (1 : Int32))]) := fun tt kt => go157 tt (st158 _ kt)
  obtain ⟨b160, g160⟩ : ∃ z, z = h0.size := ⟨_, rfl⟩
  obtain ⟨T160, h160, k160, X160, e160, E160, A160, O160, st160⟩ := newR X158 hx hZ hown (W 82 rfl) (W 83 rfl) e158 (g := (mkF m 4 #[rv o1, .unset] [(.int (1 : Int32))])) rfl (hb hby d10_4) rfl (by decide) (cap := 1) (by decide) (by decide) (by decide) (by decide)
  rw [← g160] at A160 st160
  have neo1_b160 : o1 ≠ b160 := Nat.ne_of_lt (Nat.lt_of_lt_of_le F1.lt (Nat.le_of_eq g160.symm))
  have ge_b160 : n0 ≤ b160 := Nat.le_trans Z0 (Nat.le_of_eq g160.symm)
  have sz_b160 : h0.size ≤ b160 := Nat.le_trans KC0.1 (Nat.le_of_eq g160.symm)
  have V160 : Arv Z h160 b160 k160 (.object "java/lang/Object") (1 : Int32) [.null] .null := (Arv.new A160 (by decide)).pad (pad_rep [] .null 1)
  have KC160 : Keep h0 h160 [] := KC0.ext E160
  have go161 : own_S p e below ST T160 (mkF m 7 #[rv o1, .unset] [(.ref b160)]) := fun tt kt => go159 tt (st160 _ kt)
  have go162 : own_S p e below ST T160 (mkF m 9 #[rv o1, rv b160] [(.ref o1)]) := fun tt kt => go161 tt (by
      refine XS.astoreN X160.here hx rfl (hb hby d10_7) rfl rfl (l' := #[rv o1, rv b160]) rfl ?_
      refine XS.aloadN X160.here hx rfl (hb hby d10_8) rfl rfl ?_
      exact kt)
  have f163 := (F2.ext E160)
  obtain ⟨T164, X164, e164, st164⟩ := getF X160 hx hZ hown (host := "") (Or.inl (W 68 rfl)) Via.refl e160 f163 (g := (mkF m 9 #[rv o1, rv b160] [(.ref o1)])) rfl rfl (hb hby d10_9)
  have go165 : own_S p e below ST T164 (mkF m 12 #[rv o1, rv b160] [.null]) := fun tt kt => go162 tt (st164 _ kt)
  have go166 : own_S p e below ST T164 (mkF m 29 #[rv o1, rv b160] [(.ref b160)]) := fun tt kt => go165 tt (by
      refine XS.ifnullYes X164.here hx rfl (pc0 := 12) (pc' := 28) rfl (hb hby d10_12) rfl (by decide) (by decide) ?_
      refine XS.aloadN X164.here hx rfl (hb hby d10_28) rfl rfl ?_
      exact kt)
  obtain ⟨fs, hr, hrun, hended, hW, hsame⟩ := X164.leave (v := some (.ref b160)) (fun h => by rw [Bd.returns] at h; cases h)
  refine ⟨_, _, pre0 _ (go166 _ ?_), hrun, hended, _, _, rfl, ?_, ⟨_, rfl⟩, hW, hsame.mono (by decide) (by decide)⟩
  · exact retOut X164 hx Bd.returns rfl (Or.inr (Or.inr (Or.inr (Or.inr ⟨rfl, rfl, rfl⟩)))) (hb hby d10_29) hr
  · show Q10 Z o1 h0 n0 _ T164.heap _
    rw [e164]
    exact ⟨b160, k160, rfl, N0, KC160, V160, ge_b160, sz_b160⟩
theorem pn62 : plainName "java/util/Arrays" = true := by first | (simp [plainName, overriddenIn]; done) | decide +kernel
theorem d11_0 : decode jdk_65_method_120_code 0 = .ok (.aload_n 2, 1) := by decide +kernel
theorem d11_1 : decode jdk_65_method_120_code 1 = .ok (.ldc 110, 2) := by decide +kernel
theorem d11_3 : decode jdk_65_method_120_code 3 = .ok (.if_acmp .ne 10, 3) := by decide +kernel
theorem d11_6 : decode jdk_65_method_120_code 6 = .ok (.iload_n 1, 1) := by decide +kernel
theorem d11_7 : decode jdk_65_method_120_code 7 = .ok (.anewarray 2, 3) := by decide +kernel
theorem d11_10 : decode jdk_65_method_120_code 10 = .ok (.goto 14, 3) := by decide +kernel
theorem d11_24 : decode jdk_65_method_120_code 24 = .ok (.astore_n 3, 1) := by decide +kernel
theorem d11_25 : decode jdk_65_method_120_code 25 = .ok (.aload_n 0, 1) := by decide +kernel
theorem d11_26 : decode jdk_65_method_120_code 26 = .ok (.iconst 0, 1) := by decide +kernel
theorem d11_27 : decode jdk_65_method_120_code 27 = .ok (.aload_n 3, 1) := by decide +kernel
theorem d11_28 : decode jdk_65_method_120_code 28 = .ok (.iconst 0, 1) := by decide +kernel
theorem d11_29 : decode jdk_65_method_120_code 29 = .ok (.aload_n 0, 1) := by decide +kernel
theorem d11_30 : decode jdk_65_method_120_code 30 = .ok (.arraylength, 1) := by decide +kernel
theorem d11_31 : decode jdk_65_method_120_code 31 = .ok (.iload_n 1, 1) := by decide +kernel
theorem d11_32 : decode jdk_65_method_120_code 32 = .ok (.invokestatic 304, 3) := by decide +kernel
theorem pd78 : parseMethodDescriptor "(II)I" = some ⟨[.int, .int], some .int⟩ := by decide +kernel
theorem d11_35 : decode jdk_65_method_120_code 35 = .ok (.invokestatic 150, 3) := by decide +kernel
theorem d11_38 : decode jdk_65_method_120_code 38 = .ok (.aload_n 3, 1) := by decide +kernel
theorem d11_39 : decode jdk_65_method_120_code 39 = .ok (.areturn, 1) := by decide +kernel
theorem ef11 (m : MethodId) (x0 : Addr) (x1 : Int32) (x2 : Addr) : entryFrame m #[(.ref x0), (.int x1), (.ref x2)] 4 = mkF m 0 #[.val (.ref x0), .val (.int x1), .val (.ref x2), .unset] [] := by first | (simp [entryFrame, mkF, argsToLocals, Value.category]; done) | rfl
def Q11 (Z : State) (o1 : Addr) (k1 : ClassId) (mO : Addr) (h0 : Heap) (n0 : Nat) (v : Option Value) (h : Heap) (L : List Loc) : Prop := ∃ b : Addr, v = some (.ref b) ∧ Fr n0 L ∧ Keep h0 h []
set_option maxRecDepth 65536 in
set_option maxHeartbeats 40000000 in
theorem rm11 (l : Launch) (Z : State) (a0 : Array Value) (hw : ∀ d ∈ tables_1, d.before a0 Z = true) (ws : List Jvm.Cond) (o1 : Addr) (k1 : ClassId) (mO : Addr) (h0 : Heap) (n0 : Nat) (Z0 : n0 ≤ h0.size) (V1 : Arv Z h0 o1 k1 (.object "java/lang/Object") (1 : Int32) [.null] .null) (MO : own_Mir Z "[Ljava/lang/Object;" mO) :
    MetFree l (⟨"java/util/Arrays", "copyOf", "([Ljava/lang/Object;ILjava/lang/Class;)[Ljava/lang/Object;"⟩ : MethodName) (head1 (Jvm.Cond.code (⟨"java/util/Arrays", "copyOf", "([Ljava/lang/Object;ILjava/lang/Class;)[Ljava/lang/Object;"⟩ : MethodName) jdk_65_method_120_code 4 (some (.array (.object "java/lang/Object"))) :: ws) ({ frames := 1, cells := 1, slots := 1, locals := 40 } : Room)) (fun aa UU => aa = #[(.ref o1), (.int (1 : Int32)), (.ref mO)] ∧ Z.Warmed39 UU.vm ∧ UU.heap = h0) (fun _ _ _ _ _ => True) (fun _ UU oo UU' => ∃ vv LL, oo = .returned vv ∧ Q11 Z o1 k1 mO h0 n0 vv UU'.heap LL ∧ FrameEnd UU oo UU' LL ({ frames := 1, cells := 1, slots := 1, locals := 40 } : Room).cells ({ frames := 1, cells := 1, slots := 1, locals := 40 } : Room).slots) := by
  have W : ∀ {d : Jvm.Cond} (i : Nat), tables_1[i]? = some d → d.before a0 Z = true := fun i h => hw _ (List.mem_of_getElem? h)
  refine MetFree.of_bodySF (plainFor_of_name pn62) hisR ?_
  intro p e s m args below meth c s₁ Bd hml0 hP hK
  obtain ⟨rfl, hZ, hh⟩ := hP
  have hx := Bd.exec
  have hby := Bd.bytes
  have hml : c.maxLocals = 4 := hml0
  have hown : s.vm.findClass "java/util/Arrays" = some m.cls := findClass_of_methodNamed Bd.named
  have hnm := (name_of_methodNamed Bd.named Bd.method).1
  have X0 : Stand p l e ({ frames := 1, cells := 1, slots := 1, locals := 40 } : Room) s m #[(.ref o1), (.int (1 : Int32)), (.ref mO)] below meth c s₁ [] 0 0 := Stand.of_body Bd
  have e0 : s₁.heap = h0 := by rw [← hh, Bd.state]; rfl
  have N0 := Fr.nil n0
  have pre0 : ∀ tt, Steps p.tables e below (s₁.setTop (mkF m 0 #[rv o1, iv (1 : Int32), rv mO, .unset] [])) tt → Steps p.tables e below (s₁.setTop (entryFrame m #[(.ref o1), (.int (1 : Int32)), (.ref mO)] 4)) tt := fun tt kt => castTop (ef11 m o1 (1 : Int32) mO) kt
  obtain ⟨ST, hST⟩ : ∃ z : State, z = s₁.setTop (mkF m 0 #[rv o1, iv (1 : Int32), rv mO, .unset] []) := ⟨_, rfl⟩
  rw [← hST] at pre0
  have KC0 : Keep h0 h0 [] := Keep.refl h0 []
  have go167 : own_S p e below ST s₁ (mkF m 1 #[rv o1, iv (1 : Int32), rv mO, .unset] [(.ref mO)]) := fun tt kt => (by
      rw [hST]
      show Steps p.tables e below (s₁.setTop (mkF m 0 #[rv o1, iv (1 : Int32), rv mO, .unset] [])) _
      refine XS.aloadN X0.here hx rfl (hb hby d11_0) rfl rfl ?_
      exact kt)
  obtain ⟨T168, X168, e168, st168⟩ := own_ldcM X0 hx hZ hown (W 102 rfl) e0 MO (g := (mkF m 1 #[rv o1, iv (1 : Int32), rv mO, .unset] [(.ref mO)])) rfl (hb hby d11_1)
  have go169 : own_S p e below ST T168 (mkF m 3 #[rv o1, iv (1 : Int32), rv mO, .unset] [(.ref mO), (.ref mO)]) := fun tt kt => go167 tt (st168 _ kt)
  have go170 : own_S p e below ST T168 (mkF m 7 #[rv o1, iv (1 : Int32), rv mO, .unset] [(.int (1 : Int32))]) := fun tt kt => go169 tt (by
      refine Jvm.RoadKit.acmp (g := (mkF m 3 #[rv o1, iv (1 : Int32), rv mO, .unset] [(.ref mO), (.ref mO)])) X168 hx rfl rfl rfl (pc0 := 3) (pc' := 6) (same := true) rfl (hb hby d11_3) rfl (decide_eq_true rfl) (by decide) (by decide) ?_
      refine XS.iloadN X168.here hx rfl (hb hby d11_6) rfl ?_
      exact kt)
  obtain ⟨b171, g171⟩ : ∃ z, z = h0.size := ⟨_, rfl⟩
  obtain ⟨T171, h171, k171, X171, e171, E171, A171, O171, st171⟩ := newR X168 hx hZ hown (W 103 rfl) (W 83 rfl) e168 (g := (mkF m 7 #[rv o1, iv (1 : Int32), rv mO, .unset] [(.int (1 : Int32))])) rfl (hb hby d11_7) rfl (by decide) (cap := 1) (by decide) (by decide) (by decide) (by decide)
  rw [← g171] at A171 st171
  have neo1_b171 : o1 ≠ b171 := Nat.ne_of_lt (Nat.lt_of_lt_of_le V1.lt (Nat.le_of_eq g171.symm))
  have ge_b171 : n0 ≤ b171 := Nat.le_trans Z0 (Nat.le_of_eq g171.symm)
  have sz_b171 : h0.size ≤ b171 := Nat.le_trans KC0.1 (Nat.le_of_eq g171.symm)
  have V171 : Arv Z h171 b171 k171 (.object "java/lang/Object") (1 : Int32) [.null] .null := (Arv.new A171 (by decide)).pad (pad_rep [] .null 1)
  have KC171 : Keep h0 h171 [] := KC0.ext E171
  have go172 : own_S p e below ST T171 (mkF m 10 #[rv o1, iv (1 : Int32), rv mO, .unset] [(.ref b171)]) := fun tt kt => go170 tt (st171 _ kt)
  have go173 : own_S p e below ST T171 (mkF m 30 #[rv o1, iv (1 : Int32), rv mO, rv b171] [(.ref o1), (.int (0 : Int32)), (.ref b171), (.int (0 : Int32)), (.ref o1)]) := fun tt kt => go172 tt (by
      refine XS.goto X171.here hx rfl (pc0 := 10) (pc' := 24) rfl (hb hby d11_10) (by decide) (by decide) ?_
      refine XS.astoreN X171.here hx rfl (hb hby d11_24) rfl rfl (l' := #[rv o1, iv (1 : Int32), rv mO, rv b171]) rfl ?_
      refine XS.aloadN X171.here hx rfl (hb hby d11_25) rfl rfl ?_
      refine XS.iconst X171.here hx rfl (hb hby d11_26) ?_
      refine XS.aloadN X171.here hx rfl (hb hby d11_27) rfl rfl ?_
      refine XS.iconst X171.here hx rfl (hb hby d11_28) ?_
      show Steps p.tables e below (T171.setTop (mkF m 29 #[rv o1, iv (1 : Int32), rv mO, rv b171] [(.int (0 : Int32)), (.ref b171), (.int (0 : Int32)), (.ref o1)])) _
      refine XS.aloadN X171.here hx rfl (hb hby d11_29) rfl rfl ?_
      exact kt)
  have f175 := (V1.ext E171)
  obtain ⟨cl174, Ar174, q174, S174, M174, H174, G174⟩ := id f175
  have go176 : own_S p e below ST T171 (mkF m 31 #[rv o1, iv (1 : Int32), rv mO, rv b171] [(.int (1 : Int32)), (.int (0 : Int32)), (.ref b171), (.int (0 : Int32)), (.ref o1)]) := fun tt kt => go173 tt (by
      refine X171.arraylength hx (by rw [e171]; exact Ar174.1) (State.isArrayOf_alike hZ.alike Ar174.2.1) (g := (mkF m 30 #[rv o1, iv (1 : Int32), rv mO, rv b171] [(.ref o1), (.int (0 : Int32)), (.ref b171), (.int (0 : Int32)), (.ref o1)])) rfl rfl (hb hby d11_30) _ ?_
      rw [len_of S174 M174]
      exact kt)
  have go177 : own_S p e below ST T171 (mkF m 32 #[rv o1, iv (1 : Int32), rv mO, rv b171] [(.int (1 : Int32)), (.int (1 : Int32)), (.int (0 : Int32)), (.ref b171), (.int (0 : Int32)), (.ref o1)]) := fun tt kt => go176 tt (by
      refine XS.iloadN X171.here hx rfl (hb hby d11_31) rfl ?_
      exact kt)
  have zs179 := (Nat.le_trans Z0 E171.1)
  obtain ⟨_, _, ⟨T178, L178, k178, n178⟩, -, X178, ⟨Lc178, hQ178, l178, y178, z178⟩, st178⟩ := Jvm.LawKit.callS X171 hx (y := (⟨"java/lang/Math", "min", "(II)I"⟩ : MethodName)) hown (mvT hZ (W 104 rfl)) (mvT hZ (W 105 rfl)) (mvT hZ (W 46 rfl)) (mvT hZ (W 106 rfl)) (by decide) (backOf (W := 4) (rm12 l Z a0 hw []  h171 n0 zs179 ) hZ (W 106 rfl) (W 46 rfl) (by decide) (by decide)) (g := (mkF m 32 #[rv o1, iv (1 : Int32), rv mO, rv b171] [(.int (1 : Int32)), (.int (1 : Int32)), (.int (0 : Int32)), (.ref b171), (.int (0 : Int32)), (.ref o1)])) rfl (by rw [hml]; rfl) (argsL := [(.int (1 : Int32)), (.int (1 : Int32))]) (rest := [(.int (0 : Int32)), (.ref b171), (.int (0 : Int32)), (.ref o1)]) (lenOf pd78 rfl) rfl (by show 2 * 0 + _ ≤ _; exact Nat.le_of_eq rfl) (hb hby d11_32) (fun _ _ => ⟨rfl, e171, (by decide : 1 + 0 ≤ _), (by decide : 1 + 0 ≤ _)⟩)
  dsimp only [Pt.U, Pt.locs, Pt.cells, Pt.slots] at X178 l178 y178 z178 st178 hQ178
  subst l178 y178 z178
  obtain ⟨rfl, Nq178, eh178⟩ := hQ178
  have N178 := Fr.app N0 Nq178
  have go180 : own_S p e below ST T178 (mkF m 35 #[rv o1, iv (1 : Int32), rv mO, rv b171] [(.int (1 : Int32)), (.int (0 : Int32)), (.ref b171), (.int (0 : Int32)), (.ref o1)]) := fun tt kt => go177 tt (st178 _ kt)
  obtain ⟨T181, h181, L181, X181, e181, N181, K181, V181, st181⟩ := cpA X178 hx hZ hown (W 107 rfl) (W 110 rfl) (W 108 rfl) (W 109 rfl) eh178 f175 V171 (us := [.null]) (Or.inr ⟨rfl, rfl, ⟨Or.inl rfl, trivial⟩⟩) (by decide) (by decide) (by decide) (by decide) (by decide) rfl (by decide) N178 ge_b171 (g := (mkF m 35 #[rv o1, iv (1 : Int32), rv mO, rv b171] [(.int (1 : Int32)), (.int (0 : Int32)), (.ref b171), (.int (0 : Int32)), (.ref o1)])) rfl (by rw [hml]; rfl) rfl (hb hby d11_35) (by decide) (W := 0) (by show 2 * 0 + _ ≤ _; exact Nat.le_of_eq rfl) (by decide)
  have KC181 : Keep h0 h181 [] := KC171.trans K181 (allS (Or.inr sz_b171) all0)
  have go182 : own_S p e below ST T181 (mkF m 38 #[rv o1, iv (1 : Int32), rv mO, rv b171] []) := fun tt kt => go180 tt (st181 _ kt)
  have go183 : own_S p e below ST T181 (mkF m 39 #[rv o1, iv (1 : Int32), rv mO, rv b171] [(.ref b171)]) := fun tt kt => go182 tt (by
      refine XS.aloadN X181.here hx rfl (hb hby d11_38) rfl rfl ?_
      exact kt)
  obtain ⟨fs, hr, hrun, hended, hW, hsame⟩ := X181.leave (v := some (.ref b171)) (fun h => by rw [Bd.returns] at h; cases h)
  refine ⟨_, _, pre0 _ (go183 _ ?_), hrun, hended, _, _, rfl, ?_, ⟨_, rfl⟩, hW, hsame.mono (by decide) (by decide)⟩
  · exact retOut X181 hx Bd.returns rfl (Or.inr (Or.inr (Or.inr (Or.inr ⟨rfl, rfl, rfl⟩)))) (hb hby d11_39) hr
  · show Q11 Z o1 k1 mO h0 n0 _ T181.heap _
    rw [e181]
    exact ⟨b171, rfl, N181, KC181⟩
theorem d9_0 : decode jdk_38_method_3_code 0 = .ok (.aload_n 0, 1) := by decide +kernel
theorem d9_1 : decode jdk_38_method_3_code 1 = .ok (.invokespecial 1, 3) := by decide +kernel
theorem d9_4 : decode jdk_38_method_3_code 4 = .ok (.aload_n 1, 1) := by decide +kernel
theorem d9_5 : decode jdk_38_method_3_code 5 = .ok (.invokeinterface 42 1, 5) := by decide +kernel
theorem pd86 : parseMethodDescriptor "()[Ljava/lang/Object;" = some ⟨[], some (.array (.object "java/lang/Object"))⟩ := by decide +kernel
theorem d9_10 : decode jdk_38_method_3_code 10 = .ok (.astore_n 2, 1) := by decide +kernel
theorem d9_11 : decode jdk_38_method_3_code 11 = .ok (.aload_n 0, 1) := by decide +kernel
theorem d9_12 : decode jdk_38_method_3_code 12 = .ok (.aload_n 2, 1) := by decide +kernel
theorem d9_13 : decode jdk_38_method_3_code 13 = .ok (.arraylength, 1) := by decide +kernel
theorem d9_14 : decode jdk_38_method_3_code 14 = .ok (.dup_x1, 1) := by decide +kernel
theorem d9_15 : decode jdk_38_method_3_code 15 = .ok (.putfield 48, 3) := by decide +kernel
theorem d9_18 : decode jdk_38_method_3_code 18 = .ok (.ifCond .eq 39, 3) := by decide +kernel
theorem d9_21 : decode jdk_38_method_3_code 21 = .ok (.aload_n 1, 1) := by decide +kernel
theorem d9_22 : decode jdk_38_method_3_code 22 = .ok (.invokeinterface 52 1, 5) := by decide +kernel
theorem d9_27 : decode jdk_38_method_3_code 27 = .ok (.ldc 10, 2) := by decide +kernel
theorem d9_29 : decode jdk_38_method_3_code 29 = .ok (.if_acmp .ne 11, 3) := by decide +kernel
theorem d9_32 : decode jdk_38_method_3_code 32 = .ok (.aload_n 0, 1) := by decide +kernel
theorem d9_33 : decode jdk_38_method_3_code 33 = .ok (.aload_n 2, 1) := by decide +kernel
theorem d9_34 : decode jdk_38_method_3_code 34 = .ok (.putfield 9, 3) := by decide +kernel
theorem d9_37 : decode jdk_38_method_3_code 37 = .ok (.goto 27, 3) := by decide +kernel
theorem d9_64 : decode jdk_38_method_3_code 64 = .ok (.return_, 1) := by decide +kernel
theorem d9_40 : decode jdk_38_method_3_code 40 = .ok (.aload_n 0, 1) := by decide +kernel
theorem d9_41 : decode jdk_38_method_3_code 41 = .ok (.aload_n 2, 1) := by decide +kernel
theorem d9_42 : decode jdk_38_method_3_code 42 = .ok (.aload_n 0, 1) := by decide +kernel
theorem d9_43 : decode jdk_38_method_3_code 43 = .ok (.getfield 48, 3) := by decide +kernel
theorem d9_46 : decode jdk_38_method_3_code 46 = .ok (.ldc 56, 2) := by decide +kernel
theorem d9_48 : decode jdk_38_method_3_code 48 = .ok (.invokestatic 57, 3) := by decide +kernel
theorem pd109 : parseMethodDescriptor "([Ljava/lang/Object;ILjava/lang/Class;)[Ljava/lang/Object;" = some ⟨[(.array (.object "java/lang/Object")), .int, (.object "java/lang/Class")], some (.array (.object "java/lang/Object"))⟩ := by decide +kernel
theorem d9_51 : decode jdk_38_method_3_code 51 = .ok (.putfield 9, 3) := by decide +kernel
theorem d9_54 : decode jdk_38_method_3_code 54 = .ok (.goto 10, 3) := by decide +kernel
theorem ef9 (m : MethodId) (x0 : Addr) (x1 : Addr) : entryFrame m #[(.ref x0), (.ref x1)] 3 = mkF m 0 #[.val (.ref x0), .val (.ref x1), .unset] [] := by first | (simp [entryFrame, mkF, argsToLocals, Value.category]; done) | rfl
def Q9 (Z : State) (o1 : Addr) (o2 : Addr) (mC : Addr) (mA : Addr) (mO : Addr) (h0 : Heap) (n0 : Nat) (v : Option Value) (h : Heap) (L : List Loc) : Prop := v = none ∧ Fr n0 L ∧ Keep h0 h [o1]
set_option maxRecDepth 65536 in
set_option maxHeartbeats 40000000 in
theorem rm9 (l : Launch) (Z : State) (a0 : Array Value) (hw : ∀ d ∈ tables_1, d.before a0 Z = true) (ws : List Jvm.Cond) (o1 : Addr) (o2 : Addr) (mC : Addr) (mA : Addr) (mO : Addr) (h0 : Heap) (n0 : Nat) (Z0 : n0 ≤ h0.size) (F1 : Fld Z h0 o1 "java/util/AbstractList" "modCount" "I" (.int (0 : Int32))) (F2 : Fld Z h0 o1 "java/util/ArrayList" "elementData" "[Ljava/lang/Object;" .null) (F3 : Fld Z h0 o1 "java/util/ArrayList" "size" "I" (.int (0 : Int32))) (E1 : Exa Z h0 o1 "java/util/ArrayList") (g1 : n0 ≤ o1) (E2 : Exa Z h0 o2 "java/util/Collections$CopiesList") (G1 : Fld Z h0 o2 "java/util/Collections$CopiesList" "n" "I" (.int (1 : Int32))) (G2 : Fld Z h0 o2 "java/util/Collections$CopiesList" "element" "Ljava/lang/Object;" .null) (n12 : o1 ≠ o2) (MC : own_Mir Z "java/util/Collections$CopiesList" mC) (MA : own_Mir Z "java/util/ArrayList" mA) (MO : own_Mir Z "[Ljava/lang/Object;" mO) :
    MetFree l (⟨"java/util/ArrayList", "<init>", "(Ljava/util/Collection;)V"⟩ : MethodName) (head1 (Jvm.Cond.code (⟨"java/util/ArrayList", "<init>", "(Ljava/util/Collection;)V"⟩ : MethodName) jdk_38_method_3_code 3 none :: ws) ({ frames := 3, cells := 2, slots := 2, locals := 56 } : Room)) (fun aa UU => aa = #[(.ref o1), (.ref o2)] ∧ Z.Warmed39 UU.vm ∧ UU.heap = h0) (fun _ _ _ _ _ => True) (fun _ UU oo UU' => ∃ vv LL, oo = .returned vv ∧ Q9 Z o1 o2 mC mA mO h0 n0 vv UU'.heap LL ∧ FrameEnd UU oo UU' LL ({ frames := 3, cells := 2, slots := 2, locals := 56 } : Room).cells ({ frames := 3, cells := 2, slots := 2, locals := 56 } : Room).slots) := by
  have W : ∀ {d : Jvm.Cond} (i : Nat), tables_1[i]? = some d → d.before a0 Z = true := fun i h => hw _ (List.mem_of_getElem? h)
  refine MetFree.of_bodySF (plainFor_of_name pn12) hisR ?_
  intro p e s m args below meth c s₁ Bd hml0 hP hK
  obtain ⟨rfl, hZ, hh⟩ := hP
  have hx := Bd.exec
  have hby := Bd.bytes
  have hml : c.maxLocals = 3 := hml0
  have hown : s.vm.findClass "java/util/ArrayList" = some m.cls := findClass_of_methodNamed Bd.named
  have hnm := (name_of_methodNamed Bd.named Bd.method).1
  have X0 : Stand p l e ({ frames := 3, cells := 2, slots := 2, locals := 56 } : Room) s m #[(.ref o1), (.ref o2)] below meth c s₁ [] 0 0 := Stand.of_body Bd
  have e0 : s₁.heap = h0 := by rw [← hh, Bd.state]; rfl
  have N0 := Fr.nil n0
  have pre0 : ∀ tt, Steps p.tables e below (s₁.setTop (mkF m 0 #[rv o1, rv o2, .unset] [])) tt → Steps p.tables e below (s₁.setTop (entryFrame m #[(.ref o1), (.ref o2)] 3)) tt := fun tt kt => castTop (ef9 m o1 o2) kt
  obtain ⟨ST, hST⟩ : ∃ z : State, z = s₁.setTop (mkF m 0 #[rv o1, rv o2, .unset] []) := ⟨_, rfl⟩
  rw [← hST] at pre0
  have KC0 : Keep h0 h0 [o1] := Keep.refl h0 [o1]
  have go184 : own_S p e below ST s₁ (mkF m 1 #[rv o1, rv o2, .unset] [(.ref o1)]) := fun tt kt => (by
      rw [hST]
      show Steps p.tables e below (s₁.setTop (mkF m 0 #[rv o1, rv o2, .unset] [])) _
      refine XS.aloadN X0.here hx rfl (hb hby d9_0) rfl rfl ?_
      exact kt)
  obtain ⟨_, _, ⟨T185, L185, k185, n185⟩, -, X185, ⟨Lc185, hQ185, l185, y185, z185⟩, st185⟩ := X0.specialBack hx (y := (⟨"java/util/AbstractList", "<init>", "()V"⟩ : MethodName)) rfl hown (mvT hZ (W 22 rfl)) (mvT hZ (W 23 rfl)) (mvT hZ (W 27 rfl)) (by decide) (backOf (W := 0) (rm4a l Z a0 hw [] o1 h0 n0 Z0 F1 F2 F3 E1 g1) hZ (W 27 rfl) (W 26 rfl) (by decide) (by decide)) (g := (mkF m 1 #[rv o1, rv o2, .unset] [(.ref o1)])) rfl (by rw [hml]; rfl) (Steps.refl _) (a := o1) (argsL := []) (rest := []) (lenOf pd7 rfl) rfl (by show 2 * 0 + _ ≤ _; exact Nat.le_of_eq rfl) (hb hby d9_1) (fun _ _ => ⟨rfl, e0, (by decide : 0 + 0 ≤ _), (by decide : 0 + 0 ≤ _)⟩)
  dsimp only [Pt.U, Pt.locs, Pt.cells, Pt.slots] at X185 l185 y185 z185 st185 hQ185
  subst l185 y185 z185
  obtain ⟨rfl, Nq185, K185, Fa185, Fb185, Fc185⟩ := hQ185
  have N185 := Fr.app N0 Nq185
  have go186 : own_S p e below ST T185 (mkF m 4 #[rv o1, rv o2, .unset] []) := fun tt kt => go184 tt (st185.trans kt)
  have KC185 : Keep h0 T185.heap [o1] := KC0.trans K185 (allS (Or.inl (List.mem_of_getElem? (i := 0) rfl)) all0)
  have go187 : own_S p e below ST T185 (mkF m 5 #[rv o1, rv o2, .unset] [(.ref o2)]) := fun tt kt => go186 tt (by
      refine XS.aloadN X185.here hx rfl (hb hby d9_4) rfl rfl ?_
      exact kt)
  have f188 := (G1.keep K185 (ninS (Ne.symm n12) nin0))
  have f189 := (G2.keep K185 (ninS (Ne.symm n12) nin0))
  have f190 := (E1.keep K185)
  have f191 := (E2.keep K185)
  have zs193 := (Nat.le_trans Z0 K185.1)
  obtain ⟨cq192, kq192, q192a, q192b, q192c⟩ := isOf hZ rfl f191
  obtain ⟨_, _, ⟨T192, L192, k192, n192⟩, -, X192, ⟨Lc192, hQ192, l192, y192, z192⟩, st192⟩ := X185.interfaceBack hx (xi := (⟨"java/util/Collection", "toArray", "()[Ljava/lang/Object;"⟩ : MethodName)) (y := (⟨"java/util/Collections$CopiesList", "toArray", "()[Ljava/lang/Object;"⟩ : MethodName)) hown (mvT hZ (W 73 rfl)) (mvT hZ (W 74 rfl)) (mvT hZ (W 75 rfl)) (mvT hZ (W 76 rfl)) (mvT hZ (W 77 rfl)) (mvT hZ (W 78 rfl)) (mvT hZ (W 79 rfl)) (mvT hZ (W 80 rfl)) (by decide) (backOf (W := 0) (rm10 l Z a0 hw [] o2 T185.heap n0 zs193 f188 f189) hZ (W 81 rfl) (W 56 rfl) (by decide) (by decide)) q192a q192b q192c (g := (mkF m 5 #[rv o1, rv o2, .unset] [(.ref o2)])) rfl (by rw [hml]; rfl) (Steps.refl _) (argsL := []) (rest := []) (lenOf pd86 rfl) rfl (by show 2 * 0 + _ ≤ _; exact Nat.le_of_eq rfl) (hb hby d9_5) (fun _ _ => ⟨rfl, rfl, (by decide : 0 + 1 ≤ _), (by decide : 0 + 1 ≤ _)⟩)
  dsimp only [Pt.U, Pt.locs, Pt.cells, Pt.slots] at X192 l192 y192 z192 st192 hQ192
  subst l192 y192 z192
  obtain ⟨b192, kb192, rfl, Nq192, K192, Vb192, gb192, zb192⟩ := hQ192
  have N192 := Fr.app N185 Nq192
  have go194 : own_S p e below ST T192 (mkF m 10 #[rv o1, rv o2, .unset] [(.ref b192)]) := fun tt kt => go187 tt (st192.trans kt)
  have KC192 : Keep h0 T192.heap [o1] := KC185.trans K192 all0
  have neo1_b192 : o1 ≠ b192 := Nat.ne_of_lt (Nat.lt_of_lt_of_le f190.lt zb192)
  have neo2_b192 : o2 ≠ b192 := Nat.ne_of_lt (Nat.lt_of_lt_of_le f191.lt zb192)
  have go195 : own_S p e below ST T192 (mkF m 13 #[rv o1, rv o2, rv b192] [(.ref b192), (.ref o1)]) := fun tt kt => go194 tt (by
      refine XS.astoreN X192.here hx rfl (hb hby d9_10) rfl rfl (l' := #[rv o1, rv o2, rv b192]) rfl ?_
      refine XS.aloadN X192.here hx rfl (hb hby d9_11) rfl rfl ?_
      refine XS.aloadN X192.here hx rfl (hb hby d9_12) rfl rfl ?_
      exact kt)
  obtain ⟨cl196, Ar196, q196, S196, M196, H196, G196⟩ := id Vb192
  have go197 : own_S p e below ST T192 (mkF m 14 #[rv o1, rv o2, rv b192] [(.int (1 : Int32)), (.ref o1)]) := fun tt kt => go195 tt (by
      refine X192.arraylength hx (by exact Ar196.1) (State.isArrayOf_alike hZ.alike Ar196.2.1) (g := (mkF m 13 #[rv o1, rv o2, rv b192] [(.ref b192), (.ref o1)])) rfl rfl (hb hby d9_13) _ ?_
      rw [len_of S196 M196]
      exact kt)
  have go198 : own_S p e below ST T192 (mkF m 15 #[rv o1, rv o2, rv b192] [(.int (1 : Int32)), (.ref o1), (.int (1 : Int32))]) := fun tt kt => go197 tt (by
      refine XS.dupX1 X192.here hx rfl (hb hby d9_14) rfl rfl rfl ?_
      exact kt)
  have f200 := (Fc185.keep K192 nin0)
  have f201 := (f190.keep K192)
  obtain ⟨T199, h199, X199, e199, W199, st199⟩ := putF X192 hx hZ hown (host := "") (Or.inl (W 84 rfl)) Via.refl rfl f200 f201 (Or.inl (W 85 rfl)) (W 17 rfl) (ty := .int) (by decide) rfl rfl (g := (mkF m 15 #[rv o1, rv o2, rv b192] [(.int (1 : Int32)), (.ref o1), (.int (1 : Int32))])) rfl rfl (hb hby d9_15)
  have Fw199 := f200.same W199
  have N199 := Fr.snoc X199 N192 g1
  have go202 : own_S p e below ST T199 (mkF m 18 #[rv o1, rv o2, rv b192] [(.int (1 : Int32))]) := fun tt kt => go198 tt (st199 _ kt)
  have KC199 : Keep h0 h199 [o1] := KC192.wr W199 (Or.inl (List.mem_of_getElem? (i := 0) rfl))
  have go203 : own_S p e below ST T199 (mkF m 22 #[rv o1, rv o2, rv b192] [(.ref o2)]) := fun tt kt => go202 tt (by
      refine XS.ifNo X199.here hx rfl (hb hby d9_18) rfl ((if0 _ _).trans (feq (by decide : ¬ ((1 : Int32) = (0 : Int32)))).1) ?_
      refine XS.aloadN X199.here hx rfl (hb hby d9_21) rfl rfl ?_
      exact kt)
  have f205 := ((f191.keep K192).wr W199)
  obtain ⟨T204, X204, e204, st204⟩ := own_gcI X199 hx hZ hown (xi := (⟨"java/util/Collection", "getClass", "()Ljava/lang/Class;"⟩ : MethodName)) (W 86 rfl) (W 87 rfl) (W 88 rfl) (W 89 rfl) (W 90 rfl) (W 91 rfl) (W 92 rfl) (W 80 rfl) (W 93 rfl) ⟨by decide, by decide⟩ (by decide) rfl rfl e199 f205 MC (g := (mkF m 22 #[rv o1, rv o2, rv b192] [(.ref o2)])) rfl (by rw [hml]; rfl) rfl (hb hby d9_22) (by decide) (by first | decide | (show 2 * 0 + 0 + (nativeFrameWords "java/lang/Object" "getClass" 1 + 11) ≤ _; decide))
  have go206 : own_S p e below ST T204 (mkF m 27 #[rv o1, rv o2, rv b192] [(.ref mC)]) := fun tt kt => go203 tt (st204 _ kt)
  obtain ⟨T207, X207, e207, st207⟩ := own_ldcM X204 hx hZ hown (W 94 rfl) e204 MA (g := (mkF m 27 #[rv o1, rv o2, rv b192] [(.ref mC)])) rfl (hb hby d9_27)
  have go208 : own_S p e below ST T207 (mkF m 29 #[rv o1, rv o2, rv b192] [(.ref mA), (.ref mC)]) := fun tt kt => go206 tt (st207 _ kt)
  by_cases hmm : mC = mA
  · have go209 : own_S p e below ST T207 (mkF m 34 #[rv o1, rv o2, rv b192] [(.ref b192), (.ref o1)]) := fun tt kt => go208 tt (by
        refine Jvm.RoadKit.acmp (g := (mkF m 29 #[rv o1, rv o2, rv b192] [(.ref mA), (.ref mC)])) X207 hx rfl rfl rfl (pc0 := 29) (pc' := 32) (same := true) rfl (hb hby d9_29) rfl (decide_eq_true (congrArg Value.ref hmm)) (by decide) (by decide) ?_
        refine XS.aloadN X207.here hx rfl (hb hby d9_32) rfl rfl ?_
        refine XS.aloadN X207.here hx rfl (hb hby d9_33) rfl rfl ?_
        exact kt)
    have f211 := ((Fb185.keep K192 nin0).other W199 (Or.inr (slot_ne (Or.inl (W 39 rfl)) (Or.inl (W 85 rfl)) (by decide) (t := (.array (.object "java/lang/Object"))) (t' := .int) (by decide) (by decide))))
    have f212 := (f201.wr W199)
    obtain ⟨T210, h210, X210, e210, W210, st210⟩ := putF X207 hx hZ hown (host := "") (Or.inl (W 38 rfl)) Via.refl e207 f211 f212 (Or.inl (W 39 rfl)) (W 17 rfl) (ty := (.array (.object "java/lang/Object"))) (by decide) rfl rfl (g := (mkF m 34 #[rv o1, rv o2, rv b192] [(.ref b192), (.ref o1)])) rfl rfl (hb hby d9_34)
    have Fw210 := f211.same W210
    have N210 := Fr.snoc X210 N199 g1
    have go213 : own_S p e below ST T210 (mkF m 37 #[rv o1, rv o2, rv b192] []) := fun tt kt => go209 tt (st210 _ kt)
    have KC210 : Keep h0 h210 [o1] := KC199.wr W210 (Or.inl (List.mem_of_getElem? (i := 0) rfl))
    have go214 : own_S p e below ST T210 (mkF m 64 #[rv o1, rv o2, rv b192] []) := fun tt kt => go213 tt (by
        refine XS.goto X210.here hx rfl (pc0 := 37) (pc' := 64) rfl (hb hby d9_37) (by decide) (by decide) ?_
        exact kt)
    obtain ⟨fs, hr, hrun, hended, hW, hsame⟩ := X210.leave (v := none) (fun _ => rfl)
    refine ⟨_, _, pre0 _ (go214 _ ?_), hrun, hended, _, _, rfl, ?_, ⟨_, rfl⟩, hW, hsame.mono (by decide) (by decide)⟩
    · exact X210.returnOut hx Bd.returns (hb hby d9_64) hr
    · show Q9 Z o1 o2 mC mA mO h0 n0 _ T210.heap _
      rw [e210]
      exact ⟨rfl, N210, KC210⟩
  · have go215 : own_S p e below ST T207 (mkF m 43 #[rv o1, rv o2, rv b192] [(.ref o1), (.ref b192), (.ref o1)]) := fun tt kt => go208 tt (by
        refine Jvm.RoadKit.acmp (g := (mkF m 29 #[rv o1, rv o2, rv b192] [(.ref mA), (.ref mC)])) X207 hx rfl rfl rfl (pc0 := 29) (pc' := 40) (same := false) rfl (hb hby d9_29) rfl (decide_eq_false fun q => hmm (Value.ref.inj q)) (by decide) (by decide) ?_
        refine XS.aloadN X207.here hx rfl (hb hby d9_40) rfl rfl ?_
        refine XS.aloadN X207.here hx rfl (hb hby d9_41) rfl rfl ?_
        refine XS.aloadN X207.here hx rfl (hb hby d9_42) rfl rfl ?_
        exact kt)
    obtain ⟨T216, X216, e216, st216⟩ := getF X207 hx hZ hown (host := "") (Or.inl (W 84 rfl)) Via.refl e207 Fw199 (g := (mkF m 43 #[rv o1, rv o2, rv b192] [(.ref o1), (.ref b192), (.ref o1)])) rfl rfl (hb hby d9_43)
    have go217 : own_S p e below ST T216 (mkF m 46 #[rv o1, rv o2, rv b192] [(.int (1 : Int32)), (.ref b192), (.ref o1)]) := fun tt kt => go215 tt (st216 _ kt)
    obtain ⟨T218, X218, e218, st218⟩ := own_ldcM X216 hx hZ hown (W 96 rfl) e216 MO (g := (mkF m 46 #[rv o1, rv o2, rv b192] [(.int (1 : Int32)), (.ref b192), (.ref o1)])) rfl (hb hby d9_46)
    have go219 : own_S p e below ST T218 (mkF m 48 #[rv o1, rv o2, rv b192] [(.ref mO), (.int (1 : Int32)), (.ref b192), (.ref o1)]) := fun tt kt => go217 tt (st218 _ kt)
    have f220 := (Vb192.other W199 (Ne.symm neo1_b192))
    have zs222 := (Nat.le_trans (Nat.le_trans zs193 K192.1) (Keep.of_wr W199).1)
    obtain ⟨_, _, ⟨T221, L221, k221, n221⟩, -, X221, ⟨Lc221, hQ221, l221, y221, z221⟩, st221⟩ := Jvm.LawKit.callS X218 hx (y := (⟨"java/util/Arrays", "copyOf", "([Ljava/lang/Object;ILjava/lang/Class;)[Ljava/lang/Object;"⟩ : MethodName)) hown (mvT hZ (W 98 rfl)) (mvT hZ (W 99 rfl)) (mvT hZ (W 100 rfl)) (mvT hZ (W 101 rfl)) (by decide) (backOf (W := 1) (rm11 l Z a0 hw [] b192 kb192 mO h199 n0 zs222 f220 MO) hZ (W 101 rfl) (W 100 rfl) (by decide) (by decide)) (g := (mkF m 48 #[rv o1, rv o2, rv b192] [(.ref mO), (.int (1 : Int32)), (.ref b192), (.ref o1)])) rfl (by rw [hml]; rfl) (argsL := [(.ref b192), (.int (1 : Int32)), (.ref mO)]) (rest := [(.ref o1)]) (lenOf pd109 rfl) rfl (by show 2 * 0 + _ ≤ _; exact Nat.le_of_eq rfl) (hb hby d9_48) (fun _ _ => ⟨rfl, e218, (by decide : 1 + 1 ≤ _), (by decide : 1 + 1 ≤ _)⟩)
    dsimp only [Pt.U, Pt.locs, Pt.cells, Pt.slots] at X221 l221 y221 z221 st221 hQ221
    subst l221 y221 z221
    obtain ⟨b221, rfl, Nq221, K221⟩ := hQ221
    have N221 := Fr.app N199 Nq221
    have go223 : own_S p e below ST T221 (mkF m 51 #[rv o1, rv o2, rv b192] [(.ref b221), (.ref o1)]) := fun tt kt => go219 tt (st221 _ kt)
    have KC221 : Keep h0 T221.heap [o1] := KC199.trans K221 all0
    have f225 := (((Fb185.keep K192 nin0).other W199 (Or.inr (slot_ne (Or.inl (W 39 rfl)) (Or.inl (W 85 rfl)) (by decide) (t := (.array (.object "java/lang/Object"))) (t' := .int) (by decide) (by decide)))).keep K221 nin0)
    have f226 := ((f201.wr W199).keep K221)
    obtain ⟨T224, h224, X224, e224, W224, st224⟩ := putF X221 hx hZ hown (host := "") (Or.inl (W 38 rfl)) Via.refl rfl f225 f226 (Or.inl (W 39 rfl)) (W 17 rfl) (ty := (.array (.object "java/lang/Object"))) (by decide) rfl rfl (g := (mkF m 51 #[rv o1, rv o2, rv b192] [(.ref b221), (.ref o1)])) rfl rfl (hb hby d9_51)
    have Fw224 := f225.same W224
    have N224 := Fr.snoc X224 N221 g1
    have go227 : own_S p e below ST T224 (mkF m 54 #[rv o1, rv o2, rv b192] []) := fun tt kt => go223 tt (st224 _ kt)
    have KC224 : Keep h0 h224 [o1] := KC221.wr W224 (Or.inl (List.mem_of_getElem? (i := 0) rfl))
    have go228 : own_S p e below ST T224 (mkF m 64 #[rv o1, rv o2, rv b192] []) := fun tt kt => go227 tt (by
        refine XS.goto X224.here hx rfl (pc0 := 54) (pc' := 64) rfl (hb hby d9_54) (by decide) (by decide) ?_
        exact kt)
    obtain ⟨fs, hr, hrun, hended, hW, hsame⟩ := X224.leave (v := none) (fun _ => rfl)
    refine ⟨_, _, pre0 _ (go228 _ ?_), hrun, hended, _, _, rfl, ?_, ⟨_, rfl⟩, hW, hsame.mono (by decide) (by decide)⟩
    · exact X224.returnOut hx Bd.returns (hb hby d9_64) hr
    · show Q9 Z o1 o2 mC mA mO h0 n0 _ T224.heap _
      rw [e224]
      exact ⟨rfl, N224, KC224⟩
theorem pn112 : plainName "com/example/ruleseer/ruleseer/gdl/Relation" = true := by first | (simp [plainName, overriddenIn]; done) | decide +kernel
theorem d1_0 : decode prog_88_method_1_code 0 = .ok (.aload_n 0, 1) := by decide +kernel
theorem d1_1 : decode prog_88_method_1_code 1 = .ok (.invokespecial 1, 3) := by decide +kernel
theorem d1_4 : decode prog_88_method_1_code 4 = .ok (.aload_n 0, 1) := by decide +kernel
theorem d1_5 : decode prog_88_method_1_code 5 = .ok (.bipush 16, 2) := by decide +kernel
theorem d1_7 : decode prog_88_method_1_code 7 = .ok (.newarray .int, 2) := by decide +kernel
theorem d1_9 : decode prog_88_method_1_code 9 = .ok (.putfield 7, 3) := by decide +kernel
theorem d1_12 : decode prog_88_method_1_code 12 = .ok (.aload_n 0, 1) := by decide +kernel
theorem d1_13 : decode prog_88_method_1_code 13 = .ok (.new 13, 3) := by decide +kernel
theorem d1_16 : decode prog_88_method_1_code 16 = .ok (.dup, 1) := by decide +kernel
theorem d1_17 : decode prog_88_method_1_code 17 = .ok (.invokespecial 15, 3) := by decide +kernel
theorem d1_20 : decode prog_88_method_1_code 20 = .ok (.putfield 16, 3) := by decide +kernel
theorem d1_23 : decode prog_88_method_1_code 23 = .ok (.aload_n 0, 1) := by decide +kernel
theorem d1_24 : decode prog_88_method_1_code 24 = .ok (.iload_n 1, 1) := by decide +kernel
theorem d1_25 : decode prog_88_method_1_code 25 = .ok (.putfield 20, 3) := by decide +kernel
theorem d1_28 : decode prog_88_method_1_code 28 = .ok (.aload_n 0, 1) := by decide +kernel
theorem d1_29 : decode prog_88_method_1_code 29 = .ok (.iload_n 1, 1) := by decide +kernel
theorem d1_30 : decode prog_88_method_1_code 30 = .ok (.iconst 1, 1) := by decide +kernel
theorem d1_31 : decode prog_88_method_1_code 31 = .ok (.invokestatic 24, 3) := by decide +kernel
theorem d1_34 : decode prog_88_method_1_code 34 = .ok (.iconst 4, 1) := by decide +kernel
theorem d1_35 : decode prog_88_method_1_code 35 = .ok (.imul, 1) := by decide +kernel
theorem d1_36 : decode prog_88_method_1_code 36 = .ok (.newarray .int, 2) := by decide +kernel
theorem d1_38 : decode prog_88_method_1_code 38 = .ok (.putfield 30, 3) := by decide +kernel
theorem d1_41 : decode prog_88_method_1_code 41 = .ok (.aload_n 0, 1) := by decide +kernel
theorem d1_42 : decode prog_88_method_1_code 42 = .ok (.new 13, 3) := by decide +kernel
theorem d1_45 : decode prog_88_method_1_code 45 = .ok (.dup, 1) := by decide +kernel
theorem d1_46 : decode prog_88_method_1_code 46 = .ok (.iload_n 1, 1) := by decide +kernel
theorem d1_47 : decode prog_88_method_1_code 47 = .ok (.aconst_null, 1) := by decide +kernel
theorem d1_48 : decode prog_88_method_1_code 48 = .ok (.invokestatic 33, 3) := by decide +kernel
theorem pd141 : parseMethodDescriptor "(ILjava/lang/Object;)Ljava/util/List;" = some ⟨[.int, (.object "java/lang/Object")], some (.object "java/util/List")⟩ := by decide +kernel
theorem d1_51 : decode prog_88_method_1_code 51 = .ok (.invokespecial 39, 3) := by decide +kernel
theorem pd143 : parseMethodDescriptor "(Ljava/util/Collection;)V" = some ⟨[(.object "java/util/Collection")], none⟩ := by decide +kernel
theorem d1_54 : decode prog_88_method_1_code 54 = .ok (.putfield 42, 3) := by decide +kernel
theorem d1_57 : decode prog_88_method_1_code 57 = .ok (.return_, 1) := by decide +kernel
theorem ef1 (m : MethodId) (x0 : Addr) (x1 : Int32) : entryFrame m #[(.ref x0), (.int x1)] 2 = mkF m 0 #[.val (.ref x0), .val (.int x1)] [] := by first | (simp [entryFrame, mkF, argsToLocals, Value.category]; done) | rfl
def Q1 (Z : State) (o1 : Addr) (ad : Addr) (mC : Addr) (mA : Addr) (mO : Addr) (h0 : Heap) (n0 : Nat) (v : Option Value) (h : Heap) (L : List Loc) : Prop := v = none ∧ Fr n0 L ∧ Keep h0 h [o1]
set_option maxRecDepth 65536 in
set_option maxHeartbeats 40000000 in
theorem rm1 (l : Launch) (Z : State) (a0 : Array Value) (hw : ∀ d ∈ tables_1, d.before a0 Z = true) (ws : List Jvm.Cond) (o1 : Addr) (ad : Addr) (mC : Addr) (mA : Addr) (mO : Addr) (h0 : Heap) (n0 : Nat) (Z0 : n0 ≤ h0.size) (F1 : Fld Z h0 o1 "com/example/ruleseer/ruleseer/gdl/Relation" "table" "[I" .null) (F2 : Fld Z h0 o1 "com/example/ruleseer/ruleseer/gdl/Relation" "argumentIndexes" "Ljava/util/List;" .null) (F3 : Fld Z h0 o1 "com/example/ruleseer/ruleseer/gdl/Relation" "arity" "I" (.int (0 : Int32))) (F4 : Fld Z h0 o1 "com/example/ruleseer/ruleseer/gdl/Relation" "cells" "[I" .null) (F5 : Fld Z h0 o1 "com/example/ruleseer/ruleseer/gdl/Relation" "indexes" "Ljava/util/List;" .null) (E1 : Exa Z h0 o1 "com/example/ruleseer/ruleseer/gdl/Relation") (g1 : n0 ≤ o1) (SD : Sta Z Z.heap "java/util/ArrayList" "DEFAULTCAPACITY_EMPTY_ELEMENTDATA" "[Ljava/lang/Object;" (.ref ad)) (SA : Sta Z Z.heap "java/util/Collections$CopiesList" "$assertionsDisabled" "Z" (.int (1 : Int32))) (OL : Old Z n0 h0) (MC : own_Mir Z "java/util/Collections$CopiesList" mC) (MA : own_Mir Z "java/util/ArrayList" mA) (MO : own_Mir Z "[Ljava/lang/Object;" mO) :
    MetFree l (⟨"com/example/ruleseer/ruleseer/gdl/Relation", "<init>", "(I)V"⟩ : MethodName) (head1 (Jvm.Cond.code (⟨"com/example/ruleseer/ruleseer/gdl/Relation", "<init>", "(I)V"⟩ : MethodName) prog_88_method_1_code 2 none :: ws) ({ frames := 5, cells := 7, slots := 31, locals := 72 } : Room)) (fun aa UU => aa = #[(.ref o1), (.int (1 : Int32))] ∧ Z.Warmed39 UU.vm ∧ UU.heap = h0) (fun _ _ _ _ _ => True) (fun _ UU oo UU' => ∃ vv LL, oo = .returned vv ∧ Q1 Z o1 ad mC mA mO h0 n0 vv UU'.heap LL ∧ FrameEnd UU oo UU' LL ({ frames := 5, cells := 7, slots := 31, locals := 72 } : Room).cells ({ frames := 5, cells := 7, slots := 31, locals := 72 } : Room).slots) := by
  have W : ∀ {d : Jvm.Cond} (i : Nat), tables_1[i]? = some d → d.before a0 Z = true := fun i h => hw _ (List.mem_of_getElem? h)
  refine MetFree.of_bodySF (plainFor_of_name pn112) hisR ?_
  intro p e s m args below meth c s₁ Bd hml0 hP hK
  obtain ⟨rfl, hZ, hh⟩ := hP
  have hx := Bd.exec
  have hby := Bd.bytes
  have hml : c.maxLocals = 2 := hml0
  have hown : s.vm.findClass "com/example/ruleseer/ruleseer/gdl/Relation" = some m.cls := findClass_of_methodNamed Bd.named
  have hnm := (name_of_methodNamed Bd.named Bd.method).1
  have X0 : Stand p l e ({ frames := 5, cells := 7, slots := 31, locals := 72 } : Room) s m #[(.ref o1), (.int (1 : Int32))] below meth c s₁ [] 0 0 := Stand.of_body Bd
  have e0 : s₁.heap = h0 := by rw [← hh, Bd.state]; rfl
  have N0 := Fr.nil n0
  have pre0 : ∀ tt, Steps p.tables e below (s₁.setTop (mkF m 0 #[rv o1, iv (1 : Int32)] [])) tt → Steps p.tables e below (s₁.setTop (entryFrame m #[(.ref o1), (.int (1 : Int32))] 2)) tt := fun tt kt => castTop (ef1 m o1 (1 : Int32)) kt
  obtain ⟨ST, hST⟩ : ∃ z : State, z = s₁.setTop (mkF m 0 #[rv o1, iv (1 : Int32)] []) := ⟨_, rfl⟩
  rw [← hST] at pre0
  have KC0 : Keep h0 h0 [o1] := Keep.refl h0 [o1]
  have go229 : own_S p e below ST s₁ (mkF m 1 #[rv o1, iv (1 : Int32)] [(.ref o1)]) := fun tt kt => (by
      rw [hST]
      show Steps p.tables e below (s₁.setTop (mkF m 0 #[rv o1, iv (1 : Int32)] [])) _
      refine XS.aloadN X0.here hx rfl (hb hby d1_0) rfl rfl ?_
      exact kt)
  obtain ⟨T230, X230, e230, st230⟩ := initO X0 hx hZ hown (W 10 rfl) (W 11 rfl) (W 12 rfl) e0 (g := (mkF m 1 #[rv o1, iv (1 : Int32)] [(.ref o1)])) rfl (by rw [hml]; rfl) rfl (hb hby d1_1) (by decide) (W := 0) (by show 2 * 0 + _ ≤ _; exact Nat.le_of_eq rfl) (by decide)
  have go231 : own_S p e below ST T230 (mkF m 4 #[rv o1, iv (1 : Int32)] []) := fun tt kt => go229 tt (st230 _ kt)
  have go232 : own_S p e below ST T230 (mkF m 7 #[rv o1, iv (1 : Int32)] [(.int (16 : Int32)), (.ref o1)]) := fun tt kt => go231 tt (by
      refine XS.aloadN X230.here hx rfl (hb hby d1_4) rfl rfl ?_
      refine XS.bipush X230.here hx rfl (hb hby d1_5) ?_
      exact kt)
  obtain ⟨b233, g233⟩ : ∃ z, z = h0.size := ⟨_, rfl⟩
  obtain ⟨T233, h233, k233, X233, e233, E233, A233, st233⟩ := newP X230 hx hZ (W 13 rfl) e230 (g := (mkF m 7 #[rv o1, iv (1 : Int32)] [(.int (16 : Int32)), (.ref o1)])) rfl (hb hby d1_7) rfl (by decide) (cap := 16) (by decide) (by decide) (by decide) (by decide)
  rw [← g233] at A233 st233
  have neo1_b233 : o1 ≠ b233 := Nat.ne_of_lt (Nat.lt_of_lt_of_le E1.lt (Nat.le_of_eq g233.symm))
  have ge_b233 : n0 ≤ b233 := Nat.le_trans Z0 (Nat.le_of_eq g233.symm)
  have sz_b233 : h0.size ≤ b233 := Nat.le_trans KC0.1 (Nat.le_of_eq g233.symm)
  have V233 : Arv Z h233 b233 k233 .int (16 : Int32) [(.int (0 : Int32))] (.int (0 : Int32)) := (Arv.new A233 (by decide)).pad (pad_rep [] (.int (0 : Int32)) 1)
  have KC233 : Keep h0 h233 [o1] := KC0.ext E233
  have go234 : own_S p e below ST T233 (mkF m 9 #[rv o1, iv (1 : Int32)] [(.ref b233), (.ref o1)]) := fun tt kt => go232 tt (st233 _ kt)
  have f236 := (F1.ext E233)
  have f237 := (E1.ext E233)
  obtain ⟨T235, h235, X235, e235, W235, st235⟩ := putF X233 hx hZ hown (host := "") (Or.inl (W 14 rfl)) Via.refl e233 f236 f237 (Or.inl (W 15 rfl)) (W 5 rfl) (ty := (.array .int)) (by decide) rfl rfl (g := (mkF m 9 #[rv o1, iv (1 : Int32)] [(.ref b233), (.ref o1)])) rfl rfl (hb hby d1_9)
  have Fw235 := f236.same W235
  have N235 := Fr.snoc X235 N0 g1
  have go238 : own_S p e below ST T235 (mkF m 12 #[rv o1, iv (1 : Int32)] []) := fun tt kt => go234 tt (st235 _ kt)
  have KC235 : Keep h0 h235 [o1] := KC233.wr W235 (Or.inl (List.mem_of_getElem? (i := 0) rfl))
  have go239 : own_S p e below ST T235 (mkF m 13 #[rv o1, iv (1 : Int32)] [(.ref o1)]) := fun tt kt => go238 tt (by
      refine XS.aloadN X235.here hx rfl (hb hby d1_12) rfl rfl ?_
      exact kt)
  have f241 := (f237.wr W235)
  have f242 := (V233.other W235 (Ne.symm neo1_b233))
  have zs243 := (Nat.le_trans (Nat.le_trans Z0 E233.1) (Keep.of_wr W235).1)
  obtain ⟨b240, g240⟩ : ∃ z, z = h235.size := ⟨_, rfl⟩
  obtain ⟨T240, h240, X240, e240, E240, A240, D240, -, st240⟩ := newO X235 hx hZ hown (W 16 rfl) (W 17 rfl) (W 18 rfl) e235 (g := (mkF m 13 #[rv o1, iv (1 : Int32)] [(.ref o1)])) rfl (hb hby d1_13) (by decide) (by decide)
  rw [← g240] at A240 D240 st240
  have neo1_b240 : o1 ≠ b240 := Nat.ne_of_lt (Nat.lt_of_lt_of_le f241.lt (Nat.le_of_eq g240.symm))
  have neb233_b240 : b233 ≠ b240 := Nat.ne_of_lt (Nat.lt_of_lt_of_le f242.lt (Nat.le_of_eq g240.symm))
  have ge_b240 : n0 ≤ b240 := Nat.le_trans zs243 (Nat.le_of_eq g240.symm)
  have sz_b240 : h0.size ≤ b240 := Nat.le_trans KC235.1 (Nat.le_of_eq g240.symm)
  have F240_modCount : Fld Z h240 b240 "java/util/AbstractList" "modCount" "I" (.int (0 : Int32)) := D240 (Or.inl (W 36 rfl)) (ty := .int) (by decide)
  have F240_elementData : Fld Z h240 b240 "java/util/ArrayList" "elementData" "[Ljava/lang/Object;" .null := D240 (Or.inl (W 39 rfl)) (ty := (.array (.object "java/lang/Object"))) (by decide)
  have F240_size : Fld Z h240 b240 "java/util/ArrayList" "size" "I" (.int (0 : Int32)) := D240 (Or.inl (W 85 rfl)) (ty := .int) (by decide)
  have KC240 : Keep h0 h240 [o1] := KC235.ext E240
  have go244 : own_S p e below ST T240 (mkF m 16 #[rv o1, iv (1 : Int32)] [(.ref b240), (.ref o1)]) := fun tt kt => go239 tt (st240 _ kt)
  have go245 : own_S p e below ST T240 (mkF m 17 #[rv o1, iv (1 : Int32)] [(.ref b240), (.ref b240), (.ref o1)]) := fun tt kt => go244 tt (by
      refine XS.dup X240.here hx rfl (hb hby d1_16) rfl rfl ?_
      exact kt)
  have f246 := (((OL.ext E233).wr W235 g1).ext E240)
  have zs248 := (Nat.le_trans zs243 E240.1)
  obtain ⟨_, _, ⟨T247, L247, k247, n247⟩, -, X247, ⟨Lc247, hQ247, l247, y247, z247⟩, st247⟩ := X240.specialBack hx (y := (⟨"java/util/ArrayList", "<init>", "()V"⟩ : MethodName)) rfl hown (mvT hZ (W 19 rfl)) (mvT hZ (W 20 rfl)) (mvT hZ (W 21 rfl)) (by decide) (backOf (W := 2) (rm3 l Z a0 hw [] b240 ad h240 n0 zs248 F240_modCount F240_elementData F240_size A240 ge_b240 SD f246) hZ (W 21 rfl) (W 18 rfl) (by decide) (by decide)) (g := (mkF m 17 #[rv o1, iv (1 : Int32)] [(.ref b240), (.ref b240), (.ref o1)])) rfl (by rw [hml]; rfl) (Steps.refl _) (a := b240) (argsL := []) (rest := [(.ref b240), (.ref o1)]) (lenOf pd7 rfl) rfl (by show 2 * 0 + _ ≤ _; exact Nat.le_of_eq rfl) (hb hby d1_17) (fun _ _ => ⟨rfl, e240, (by decide : 2 + 0 ≤ _), (by decide : 19 + 0 ≤ _)⟩)
  dsimp only [Pt.U, Pt.locs, Pt.cells, Pt.slots] at X247 l247 y247 z247 st247 hQ247
  subst l247 y247 z247
  obtain ⟨rfl, Nq247, K247⟩ := hQ247
  have N247 := Fr.app N235 Nq247
  have go249 : own_S p e below ST T247 (mkF m 20 #[rv o1, iv (1 : Int32)] [(.ref b240), (.ref o1)]) := fun tt kt => go245 tt (st247.trans kt)
  have KC247 : Keep h0 T247.heap [o1] := KC240.trans K247 (allS (Or.inr sz_b240) all0)
  have f251 := ((((F2.ext E233).other W235 (Or.inr (slot_ne (Or.inr (W 41 rfl)) (Or.inl (W 15 rfl)) (by decide) (t := (.object "java/util/List")) (t' := (.array .int)) (by decide) (by decide)))).ext E240).keep K247 (ninS neo1_b240 nin0))
  have f252 := ((f241.ext E240).keep K247)
  obtain ⟨T250, h250, X250, e250, W250, st250⟩ := putF X247 hx hZ hown (host := "") (Or.inl (W 40 rfl)) Via.refl rfl f251 f252 (Or.inr ⟨(W 41 rfl), rfl, hnm⟩) (W 5 rfl) (ty := (.object "java/util/List")) (by decide) rfl rfl (g := (mkF m 20 #[rv o1, iv (1 : Int32)] [(.ref b240), (.ref o1)])) rfl rfl (hb hby d1_20)
  have Fw250 := f251.same W250
  have N250 := Fr.snoc X250 N247 g1
  have go253 : own_S p e below ST T250 (mkF m 23 #[rv o1, iv (1 : Int32)] []) := fun tt kt => go249 tt (st250 _ kt)
  have KC250 : Keep h0 h250 [o1] := KC247.wr W250 (Or.inl (List.mem_of_getElem? (i := 0) rfl))
  have go254 : own_S p e below ST T250 (mkF m 25 #[rv o1, iv (1 : Int32)] [(.int (1 : Int32)), (.ref o1)]) := fun tt kt => go253 tt (by
      refine XS.aloadN X250.here hx rfl (hb hby d1_23) rfl rfl ?_
      refine XS.iloadN X250.here hx rfl (hb hby d1_24) rfl ?_
      exact kt)
  have f256 := (((((F3.ext E233).other W235 (Or.inr (slot_ne (Or.inr (W 43 rfl)) (Or.inl (W 15 rfl)) (by decide) (t := .int) (t' := (.array .int)) (by decide) (by decide)))).ext E240).keep K247 (ninS neo1_b240 nin0)).other W250 (Or.inr (slot_ne (Or.inr (W 43 rfl)) (Or.inr (W 41 rfl)) (by decide) (t := .int) (t' := (.object "java/util/List")) (by decide) (by decide))))
  have f257 := (f252.wr W250)
  obtain ⟨T255, h255, X255, e255, W255, st255⟩ := putF X250 hx hZ hown (host := "") (Or.inl (W 42 rfl)) Via.refl e250 f256 f257 (Or.inr ⟨(W 43 rfl), rfl, hnm⟩) (W 5 rfl) (ty := .int) (by decide) rfl rfl (g := (mkF m 25 #[rv o1, iv (1 : Int32)] [(.int (1 : Int32)), (.ref o1)])) rfl rfl (hb hby d1_25)
  have Fw255 := f256.same W255
  have N255 := Fr.snoc X255 N250 g1
  have go258 : own_S p e below ST T255 (mkF m 28 #[rv o1, iv (1 : Int32)] []) := fun tt kt => go254 tt (st255 _ kt)
  have KC255 : Keep h0 h255 [o1] := KC250.wr W255 (Or.inl (List.mem_of_getElem? (i := 0) rfl))
  have go259 : own_S p e below ST T255 (mkF m 31 #[rv o1, iv (1 : Int32)] [(.int (1 : Int32)), (.int (1 : Int32)), (.ref o1)]) := fun tt kt => go258 tt (by
      refine XS.aloadN X255.here hx rfl (hb hby d1_28) rfl rfl ?_
      refine XS.iloadN X255.here hx rfl (hb hby d1_29) rfl ?_
      refine XS.iconst X255.here hx rfl (hb hby d1_30) ?_
      exact kt)
  have zs261 := (Nat.le_trans (Nat.le_trans (Nat.le_trans zs248 K247.1) (Keep.of_wr W250).1) (Keep.of_wr W255).1)
  obtain ⟨_, _, ⟨T260, L260, k260, n260⟩, -, X260, ⟨Lc260, hQ260, l260, y260, z260⟩, st260⟩ := Jvm.LawKit.callS X255 hx (y := (⟨"java/lang/Math", "max", "(II)I"⟩ : MethodName)) hown (mvT hZ (W 44 rfl)) (mvT hZ (W 45 rfl)) (mvT hZ (W 46 rfl)) (mvT hZ (W 47 rfl)) (by decide) (backOf (W := 1) (rm6 l Z a0 hw []  h255 n0 zs261 ) hZ (W 47 rfl) (W 46 rfl) (by decide) (by decide)) (g := (mkF m 31 #[rv o1, iv (1 : Int32)] [(.int (1 : Int32)), (.int (1 : Int32)), (.ref o1)])) rfl (by rw [hml]; rfl) (argsL := [(.int (1 : Int32)), (.int (1 : Int32))]) (rest := [(.ref o1)]) (lenOf pd78 rfl) rfl (by show 2 * 0 + _ ≤ _; exact Nat.le_of_eq rfl) (hb hby d1_31) (fun _ _ => ⟨rfl, e255, (by decide : 2 + 0 ≤ _), (by decide : 19 + 0 ≤ _)⟩)
  dsimp only [Pt.U, Pt.locs, Pt.cells, Pt.slots] at X260 l260 y260 z260 st260 hQ260
  subst l260 y260 z260
  obtain ⟨rfl, Nq260, eh260⟩ := hQ260
  have N260 := Fr.app N255 Nq260
  have go262 : own_S p e below ST T260 (mkF m 34 #[rv o1, iv (1 : Int32)] [(.int (1 : Int32)), (.ref o1)]) := fun tt kt => go259 tt (st260 _ kt)
  have go263 : own_S p e below ST T260 (mkF m 36 #[rv o1, iv (1 : Int32)] [(.int (4 : Int32)), (.ref o1)]) := fun tt kt => go262 tt (by
      refine XS.iconst X260.here hx rfl (hb hby d1_34) ?_
      refine XS.imul X260.here hx rfl (hb hby d1_35) rfl ?_
      exact kt)
  have f265 := (f257.wr W255)
  have f266 := ((((f242.ext E240).keep K247 (ninS neb233_b240 nin0)).other W250 (Ne.symm neo1_b233)).other W255 (Ne.symm neo1_b233))
  have f267 := (((A240.keep K247).wr W250).wr W255)
  obtain ⟨b264, g264⟩ : ∃ z, z = h255.size := ⟨_, rfl⟩
  obtain ⟨T264, h264, k264, X264, e264, E264, A264, st264⟩ := newP X260 hx hZ (W 13 rfl) eh260 (g := (mkF m 36 #[rv o1, iv (1 : Int32)] [(.int (4 : Int32)), (.ref o1)])) rfl (hb hby d1_36) rfl (by decide) (cap := 4) (by decide) (by decide) (by decide) (by decide)
  rw [← g264] at A264 st264
  have neo1_b264 : o1 ≠ b264 := Nat.ne_of_lt (Nat.lt_of_lt_of_le f265.lt (Nat.le_of_eq g264.symm))
  have neb233_b264 : b233 ≠ b264 := Nat.ne_of_lt (Nat.lt_of_lt_of_le f266.lt (Nat.le_of_eq g264.symm))
  have neb240_b264 : b240 ≠ b264 := Nat.ne_of_lt (Nat.lt_of_lt_of_le f267.lt (Nat.le_of_eq g264.symm))
  have ge_b264 : n0 ≤ b264 := Nat.le_trans zs261 (Nat.le_of_eq g264.symm)
  have sz_b264 : h0.size ≤ b264 := Nat.le_trans KC255.1 (Nat.le_of_eq g264.symm)
  have V264 : Arv Z h264 b264 k264 .int (4 : Int32) [(.int (0 : Int32))] (.int (0 : Int32)) := (Arv.new A264 (by decide)).pad (pad_rep [] (.int (0 : Int32)) 1)
  have KC264 : Keep h0 h264 [o1] := KC255.ext E264
  have go268 : own_S p e below ST T264 (mkF m 38 #[rv o1, iv (1 : Int32)] [(.ref b264), (.ref o1)]) := fun tt kt => go263 tt (st264 _ kt)
  have f270 := (((((((F4.ext E233).other W235 (Or.inr (slot_ne (Or.inl (W 49 rfl)) (Or.inl (W 15 rfl)) (by decide) (t := (.array .int)) (t' := (.array .int)) (by decide) (by decide)))).ext E240).keep K247 (ninS neo1_b240 nin0)).other W250 (Or.inr (slot_ne (Or.inl (W 49 rfl)) (Or.inr (W 41 rfl)) (by decide) (t := (.array .int)) (t' := (.object "java/util/List")) (by decide) (by decide)))).other W255 (Or.inr (slot_ne (Or.inl (W 49 rfl)) (Or.inr (W 43 rfl)) (by decide) (t := (.array .int)) (t' := .int) (by decide) (by decide)))).ext E264)
  have f271 := (f265.ext E264)
  obtain ⟨T269, h269, X269, e269, W269, st269⟩ := putF X264 hx hZ hown (host := "") (Or.inl (W 48 rfl)) Via.refl e264 f270 f271 (Or.inl (W 49 rfl)) (W 5 rfl) (ty := (.array .int)) (by decide) rfl rfl (g := (mkF m 38 #[rv o1, iv (1 : Int32)] [(.ref b264), (.ref o1)])) rfl rfl (hb hby d1_38)
  have Fw269 := f270.same W269
  have N269 := Fr.snoc X269 N260 g1
  have go272 : own_S p e below ST T269 (mkF m 41 #[rv o1, iv (1 : Int32)] []) := fun tt kt => go268 tt (st269 _ kt)
  have KC269 : Keep h0 h269 [o1] := KC264.wr W269 (Or.inl (List.mem_of_getElem? (i := 0) rfl))
  have go273 : own_S p e below ST T269 (mkF m 42 #[rv o1, iv (1 : Int32)] [(.ref o1)]) := fun tt kt => go272 tt (by
      refine XS.aloadN X269.here hx rfl (hb hby d1_41) rfl rfl ?_
      exact kt)
  have f275 := (f271.wr W269)
  have f276 := ((f266.ext E264).other W269 (Ne.symm neo1_b233))
  have f277 := ((f267.ext E264).wr W269)
  have f278 := (V264.other W269 (Ne.symm neo1_b264))
  have zs279 := (Nat.le_trans (Nat.le_trans zs261 E264.1) (Keep.of_wr W269).1)
  obtain ⟨b274, g274⟩ : ∃ z, z = h269.size := ⟨_, rfl⟩
  obtain ⟨T274, h274, X274, e274, E274, A274, D274, -, st274⟩ := newO X269 hx hZ hown (W 16 rfl) (W 17 rfl) (W 18 rfl) e269 (g := (mkF m 42 #[rv o1, iv (1 : Int32)] [(.ref o1)])) rfl (hb hby d1_42) (by decide) (by decide)
  rw [← g274] at A274 D274 st274
  have neo1_b274 : o1 ≠ b274 := Nat.ne_of_lt (Nat.lt_of_lt_of_le f275.lt (Nat.le_of_eq g274.symm))
  have neb233_b274 : b233 ≠ b274 := Nat.ne_of_lt (Nat.lt_of_lt_of_le f276.lt (Nat.le_of_eq g274.symm))
  have neb240_b274 : b240 ≠ b274 := Nat.ne_of_lt (Nat.lt_of_lt_of_le f277.lt (Nat.le_of_eq g274.symm))
  have neb264_b274 : b264 ≠ b274 := Nat.ne_of_lt (Nat.lt_of_lt_of_le f278.lt (Nat.le_of_eq g274.symm))
  have ge_b274 : n0 ≤ b274 := Nat.le_trans zs279 (Nat.le_of_eq g274.symm)
  have sz_b274 : h0.size ≤ b274 := Nat.le_trans KC269.1 (Nat.le_of_eq g274.symm)
  have F274_modCount : Fld Z h274 b274 "java/util/AbstractList" "modCount" "I" (.int (0 : Int32)) := D274 (Or.inl (W 36 rfl)) (ty := .int) (by decide)
  have F274_elementData : Fld Z h274 b274 "java/util/ArrayList" "elementData" "[Ljava/lang/Object;" .null := D274 (Or.inl (W 39 rfl)) (ty := (.array (.object "java/lang/Object"))) (by decide)
  have F274_size : Fld Z h274 b274 "java/util/ArrayList" "size" "I" (.int (0 : Int32)) := D274 (Or.inl (W 85 rfl)) (ty := .int) (by decide)
  have KC274 : Keep h0 h274 [o1] := KC269.ext E274
  have go280 : own_S p e below ST T274 (mkF m 45 #[rv o1, iv (1 : Int32)] [(.ref b274), (.ref o1)]) := fun tt kt => go273 tt (st274 _ kt)
  have go281 : own_S p e below ST T274 (mkF m 48 #[rv o1, iv (1 : Int32)] [.null, (.int (1 : Int32)), (.ref b274), (.ref b274), (.ref o1)]) := fun tt kt => go280 tt (by
      refine XS.dup X274.here hx rfl (hb hby d1_45) rfl rfl ?_
      refine XS.iloadN X274.here hx rfl (hb hby d1_46) rfl ?_
      refine XS.aconstNull X274.here hx rfl (hb hby d1_47) ?_
      exact kt)
  have f282 := ((((((f246.keep K247 (allS ge_b240 all0)).wr W250 g1).wr W255 g1).ext E264).wr W269 g1).ext E274)
  have f283 := (f275.ext E274)
  have f284 := (f276.ext E274)
  have f285 := (f277.ext E274)
  have f286 := (f278.ext E274)
  have zs288 := (Nat.le_trans zs279 E274.1)
  obtain ⟨_, _, ⟨T287, L287, k287, n287⟩, -, X287, ⟨Lc287, hQ287, l287, y287, z287⟩, st287⟩ := Jvm.LawKit.callS X274 hx (y := (⟨"java/util/Collections", "nCopies", "(ILjava/lang/Object;)Ljava/util/List;"⟩ : MethodName)) hown (mvT hZ (W 50 rfl)) (mvT hZ (W 51 rfl)) (mvT hZ (W 52 rfl)) (mvT hZ (W 53 rfl)) (by decide) (backOf (W := 3) (rm7 l Z a0 hw []  h274 n0 zs288 SA f282) hZ (W 53 rfl) (W 52 rfl) (by decide) (by decide)) (g := (mkF m 48 #[rv o1, iv (1 : Int32)] [.null, (.int (1 : Int32)), (.ref b274), (.ref b274), (.ref o1)])) rfl (by rw [hml]; rfl) (argsL := [(.int (1 : Int32)), .null]) (rest := [(.ref b274), (.ref b274), (.ref o1)]) (lenOf pd141 rfl) rfl (by show 2 * 0 + _ ≤ _; exact Nat.le_of_eq rfl) (hb hby d1_48) (fun _ _ => ⟨rfl, e274, (by decide : 4 + 1 ≤ _), (by decide : 26 + 3 ≤ _)⟩)
  dsimp only [Pt.U, Pt.locs, Pt.cells, Pt.slots] at X287 l287 y287 z287 st287 hQ287
  subst l287 y287 z287
  obtain ⟨b287, rfl, Nq287, K287, Eb287, Fa287, Fb287, gb287, zb287⟩ := hQ287
  have N287 := Fr.app N269 Nq287
  have go289 : own_S p e below ST T287 (mkF m 51 #[rv o1, iv (1 : Int32)] [(.ref b287), (.ref b274), (.ref b274), (.ref o1)]) := fun tt kt => go281 tt (st287 _ kt)
  have KC287 : Keep h0 T287.heap [o1] := KC274.trans K287 all0
  have neo1_b287 : o1 ≠ b287 := Nat.ne_of_lt (Nat.lt_of_lt_of_le f283.lt zb287)
  have neb233_b287 : b233 ≠ b287 := Nat.ne_of_lt (Nat.lt_of_lt_of_le f284.lt zb287)
  have neb240_b287 : b240 ≠ b287 := Nat.ne_of_lt (Nat.lt_of_lt_of_le f285.lt zb287)
  have neb264_b287 : b264 ≠ b287 := Nat.ne_of_lt (Nat.lt_of_lt_of_le f286.lt zb287)
  have neb274_b287 : b274 ≠ b287 := Nat.ne_of_lt (Nat.lt_of_lt_of_le A274.lt zb287)
  have f290 := (F274_modCount.keep K287 nin0)
  have f291 := (F274_elementData.keep K287 nin0)
  have f292 := (F274_size.keep K287 nin0)
  have f293 := (A274.keep K287)
  have zs295 := (Nat.le_trans zs288 K287.1)
  obtain ⟨_, _, ⟨T294, L294, k294, n294⟩, -, X294, ⟨Lc294, hQ294, l294, y294, z294⟩, st294⟩ := X287.specialBack hx (y := (⟨"java/util/ArrayList", "<init>", "(Ljava/util/Collection;)V"⟩ : MethodName)) rfl hown (mvT hZ (W 70 rfl)) (mvT hZ (W 71 rfl)) (mvT hZ (W 72 rfl)) (by decide) (backOf (W := 2) (rm9 l Z a0 hw [] b274 b287 mC mA mO T287.heap n0 zs295 f290 f291 f292 f293 ge_b274 Eb287 Fa287 Fb287 neb274_b287 MC MA MO) hZ (W 72 rfl) (W 18 rfl) (by decide) (by decide)) (g := (mkF m 51 #[rv o1, iv (1 : Int32)] [(.ref b287), (.ref b274), (.ref b274), (.ref o1)])) rfl (by rw [hml]; rfl) (Steps.refl _) (a := b274) (argsL := [(.ref b287)]) (rest := [(.ref b274), (.ref o1)]) (lenOf pd143 rfl) rfl (by show 2 * 0 + _ ≤ _; exact Nat.le_of_eq rfl) (hb hby d1_51) (fun _ _ => ⟨rfl, rfl, (by decide : 5 + 2 ≤ _), (by decide : 29 + 2 ≤ _)⟩)
  dsimp only [Pt.U, Pt.locs, Pt.cells, Pt.slots] at X294 l294 y294 z294 st294 hQ294
  subst l294 y294 z294
  obtain ⟨rfl, Nq294, K294⟩ := hQ294
  have N294 := Fr.app N287 Nq294
  have go296 : own_S p e below ST T294 (mkF m 54 #[rv o1, iv (1 : Int32)] [(.ref b274), (.ref o1)]) := fun tt kt => go289 tt (st294.trans kt)
  have KC294 : Keep h0 T294.heap [o1] := KC287.trans K294 (allS (Or.inr sz_b274) all0)
  have f298 := (((((((((((F5.ext E233).other W235 (Or.inr (slot_ne (Or.inr (W 112 rfl)) (Or.inl (W 15 rfl)) (by decide) (t := (.object "java/util/List")) (t' := (.array .int)) (by decide) (by decide)))).ext E240).keep K247 (ninS neo1_b240 nin0)).other W250 (Or.inr (slot_ne (Or.inr (W 112 rfl)) (Or.inr (W 41 rfl)) (by decide) (t := (.object "java/util/List")) (t' := (.object "java/util/List")) (by decide) (by decide)))).other W255 (Or.inr (slot_ne (Or.inr (W 112 rfl)) (Or.inr (W 43 rfl)) (by decide) (t := (.object "java/util/List")) (t' := .int) (by decide) (by decide)))).ext E264).other W269 (Or.inr (slot_ne (Or.inr (W 112 rfl)) (Or.inl (W 49 rfl)) (by decide) (t := (.object "java/util/List")) (t' := (.array .int)) (by decide) (by decide)))).ext E274).keep K287 nin0).keep K294 (ninS neo1_b274 nin0))
  have f299 := ((f283.keep K287).keep K294)
  obtain ⟨T297, h297, X297, e297, W297, st297⟩ := putF X294 hx hZ hown (host := "") (Or.inl (W 111 rfl)) Via.refl rfl f298 f299 (Or.inr ⟨(W 112 rfl), rfl, hnm⟩) (W 5 rfl) (ty := (.object "java/util/List")) (by decide) rfl rfl (g := (mkF m 54 #[rv o1, iv (1 : Int32)] [(.ref b274), (.ref o1)])) rfl rfl (hb hby d1_54)
  have Fw297 := f298.same W297
  have N297 := Fr.snoc X297 N294 g1
  have go300 : own_S p e below ST T297 (mkF m 57 #[rv o1, iv (1 : Int32)] []) := fun tt kt => go296 tt (st297 _ kt)
  have KC297 : Keep h0 h297 [o1] := KC294.wr W297 (Or.inl (List.mem_of_getElem? (i := 0) rfl))
  obtain ⟨fs, hr, hrun, hended, hW, hsame⟩ := X297.leave (v := none) (fun _ => rfl)
  refine ⟨_, _, pre0 _ (go300 _ ?_), hrun, hended, _, _, rfl, ?_, ⟨_, rfl⟩, hW, hsame.mono (by decide) (by decide)⟩
  · exact X297.returnOut hx Bd.returns (hb hby d1_57) hr
  · show Q1 Z o1 ad mC mA mO h0 n0 _ T297.heap _
    rw [e297]
    exact ⟨rfl, N297, KC297⟩
theorem pn146 : plainName "java/lang/Record" = true := by first | (simp [plainName, overriddenIn]; done) | decide +kernel
theorem d14_0 : decode jdk_30_method_1_code 0 = .ok (.aload_n 0, 1) := by decide +kernel
theorem d14_1 : decode jdk_30_method_1_code 1 = .ok (.invokespecial 1, 3) := by decide +kernel
theorem d14_4 : decode jdk_30_method_1_code 4 = .ok (.return_, 1) := by decide +kernel
theorem ef14 (m : MethodId) (x0 : Addr) : entryFrame m #[(.ref x0)] 1 = mkF m 0 #[.val (.ref x0)] [] := by first | (simp [entryFrame, mkF, argsToLocals, Value.category]; done) | rfl
def Q14 (Z : State) (o1 : Addr) (h0 : Heap) (n0 : Nat) (v : Option Value) (h : Heap) (L : List Loc) : Prop := v = none ∧ Fr n0 L ∧ h = h0
set_option maxRecDepth 65536 in
set_option maxHeartbeats 40000000 in
theorem rm14 (l : Launch) (Z : State) (a0 : Array Value) (hw : ∀ d ∈ tables_1, d.before a0 Z = true) (ws : List Jvm.Cond) (o1 : Addr) (h0 : Heap) (n0 : Nat) (Z0 : n0 ≤ h0.size) :
    MetFree l (⟨"java/lang/Record", "<init>", "()V"⟩ : MethodName) (head1 (Jvm.Cond.code (⟨"java/lang/Record", "<init>", "()V"⟩ : MethodName) jdk_30_method_1_code 1 none :: ws) ({ frames := 1, cells := 0, slots := 0, locals := 12 } : Room)) (fun aa UU => aa = #[(.ref o1)] ∧ Z.Warmed39 UU.vm ∧ UU.heap = h0) (fun _ _ _ _ _ => True) (fun _ UU oo UU' => ∃ vv LL, oo = .returned vv ∧ Q14 Z o1 h0 n0 vv UU'.heap LL ∧ FrameEnd UU oo UU' LL ({ frames := 1, cells := 0, slots := 0, locals := 12 } : Room).cells ({ frames := 1, cells := 0, slots := 0, locals := 12 } : Room).slots) := by
  have W : ∀ {d : Jvm.Cond} (i : Nat), tables_1[i]? = some d → d.before a0 Z = true := fun i h => hw _ (List.mem_of_getElem? h)
  refine MetFree.of_bodySF (plainFor_of_name pn146) hisR ?_
  intro p e s m args below meth c s₁ Bd hml0 hP hK
  obtain ⟨rfl, hZ, hh⟩ := hP
  have hx := Bd.exec
  have hby := Bd.bytes
  have hml : c.maxLocals = 1 := hml0
  have hown : s.vm.findClass "java/lang/Record" = some m.cls := findClass_of_methodNamed Bd.named
  have hnm := (name_of_methodNamed Bd.named Bd.method).1
  have X0 : Stand p l e ({ frames := 1, cells := 0, slots := 0, locals := 12 } : Room) s m #[(.ref o1)] below meth c s₁ [] 0 0 := Stand.of_body Bd
  have e0 : s₁.heap = h0 := by rw [← hh, Bd.state]; rfl
  have N0 := Fr.nil n0
  have pre0 : ∀ tt, Steps p.tables e below (s₁.setTop (mkF m 0 #[rv o1] [])) tt → Steps p.tables e below (s₁.setTop (entryFrame m #[(.ref o1)] 1)) tt := fun tt kt => castTop (ef14 m o1) kt
  obtain ⟨ST, hST⟩ : ∃ z : State, z = s₁.setTop (mkF m 0 #[rv o1] []) := ⟨_, rfl⟩
  rw [← hST] at pre0
  have go301 : own_S p e below ST s₁ (mkF m 1 #[rv o1] [(.ref o1)]) := fun tt kt => (by
      rw [hST]
      show Steps p.tables e below (s₁.setTop (mkF m 0 #[rv o1] [])) _
      refine XS.aloadN X0.here hx rfl (hb hby d14_0) rfl rfl ?_
      exact kt)
  obtain ⟨T302, X302, e302, st302⟩ := initO X0 hx hZ hown (W 121 rfl) (W 11 rfl) (W 12 rfl) e0 (g := (mkF m 1 #[rv o1] [(.ref o1)])) rfl (by rw [hml]; rfl) rfl (hb hby d14_1) (by decide) (W := 0) (by show 2 * 0 + _ ≤ _; exact Nat.le_of_eq rfl) (by decide)
  have go303 : own_S p e below ST T302 (mkF m 4 #[rv o1] []) := fun tt kt => go301 tt (st302 _ kt)
  obtain ⟨fs, hr, hrun, hended, hW, hsame⟩ := X302.leave (v := none) (fun _ => rfl)
  refine ⟨_, _, pre0 _ (go303 _ ?_), hrun, hended, _, _, rfl, ?_, ⟨_, rfl⟩, hW, hsame.mono (by decide) (by decide)⟩
  · exact X302.returnOut hx Bd.returns (hb hby d14_4) hr
  · show Q14 Z o1 h0 n0 _ T302.heap _
    rw [e302]
    exact ⟨rfl, N0, rfl⟩
theorem pn150 : plainName "com/example/ruleseer/ruleseer/gdl/GroundNetwork$Atoms" = true := by first | (simp [plainName, overriddenIn]; done) | decide +kernel
theorem d13_0 : decode prog_60_method_1_code 0 = .ok (.aload_n 0, 1) := by decide +kernel
theorem d13_1 : decode prog_60_method_1_code 1 = .ok (.invokespecial 3, 3) := by decide +kernel
theorem d13_4 : decode prog_60_method_1_code 4 = .ok (.aload_n 0, 1) := by decide +kernel
theorem d13_5 : decode prog_60_method_1_code 5 = .ok (.aload_n 1, 1) := by decide +kernel
theorem d13_6 : decode prog_60_method_1_code 6 = .ok (.putfield 9, 3) := by decide +kernel
theorem d13_9 : decode prog_60_method_1_code 9 = .ok (.aload_n 0, 1) := by decide +kernel
theorem d13_10 : decode prog_60_method_1_code 10 = .ok (.iload_n 2, 1) := by decide +kernel
theorem d13_11 : decode prog_60_method_1_code 11 = .ok (.putfield 15, 3) := by decide +kernel
theorem d13_14 : decode prog_60_method_1_code 14 = .ok (.aload_n 0, 1) := by decide +kernel
theorem d13_15 : decode prog_60_method_1_code 15 = .ok (.iload_n 3, 1) := by decide +kernel
theorem d13_16 : decode prog_60_method_1_code 16 = .ok (.putfield 19, 3) := by decide +kernel
theorem d13_19 : decode prog_60_method_1_code 19 = .ok (.return_, 1) := by decide +kernel
theorem ef13 (m : MethodId) (x0 : Addr) (x1 : Addr) (x2 : Int32) (x3 : Int32) : entryFrame m #[(.ref x0), (.ref x1), (.int x2), (.int x3)] 4 = mkF m 0 #[.val (.ref x0), .val (.ref x1), .val (.int x2), .val (.int x3)] [] := by first | (simp [entryFrame, mkF, argsToLocals, Value.category]; done) | rfl
def Q13 (Z : State) (o1 : Addr) (o2 : Addr) (p1 : Int32) (p2 : Int32) (h0 : Heap) (n0 : Nat) (v : Option Value) (h : Heap) (L : List Loc) : Prop := v = none ∧ Fr n0 L ∧ Keep h0 h [o1] ∧ Fld Z h o1 "com/example/ruleseer/ruleseer/gdl/GroundNetwork$Atoms" "first" "I" (.int p1) ∧ Fld Z h o1 "com/example/ruleseer/ruleseer/gdl/GroundNetwork$Atoms" "settled" "Z" (.int (nar .boolean p2))
set_option maxRecDepth 65536 in
set_option maxHeartbeats 40000000 in
theorem rm13 (l : Launch) (Z : State) (a0 : Array Value) (hw : ∀ d ∈ tables_1, d.before a0 Z = true) (ws : List Jvm.Cond) (o1 : Addr) (o2 : Addr) (p1 : Int32) (p2 : Int32) (h0 : Heap) (n0 : Nat) (Z0 : n0 ≤ h0.size) (F1 : Fld Z h0 o1 "com/example/ruleseer/ruleseer/gdl/GroundNetwork$Atoms" "rows" "Lcom/example/ruleseer/ruleseer/gdl/Relation;" .null) (F2 : Fld Z h0 o1 "com/example/ruleseer/ruleseer/gdl/GroundNetwork$Atoms" "first" "I" (.int (0 : Int32))) (F3 : Fld Z h0 o1 "com/example/ruleseer/ruleseer/gdl/GroundNetwork$Atoms" "settled" "Z" (.int (0 : Int32))) (E1 : Exa Z h0 o1 "com/example/ruleseer/ruleseer/gdl/GroundNetwork$Atoms") (g1 : n0 ≤ o1) :
    MetFree l (⟨"com/example/ruleseer/ruleseer/gdl/GroundNetwork$Atoms", "<init>", "(Lcom/example/ruleseer/ruleseer/gdl/Relation;IZ)V"⟩ : MethodName) (head1 (Jvm.Cond.code (⟨"com/example/ruleseer/ruleseer/gdl/GroundNetwork$Atoms", "<init>", "(Lcom/example/ruleseer/ruleseer/gdl/Relation;IZ)V"⟩ : MethodName) prog_60_method_1_code 4 none :: ws) ({ frames := 2, cells := 0, slots := 0, locals := 24 } : Room)) (fun aa UU => aa = #[(.ref o1), (.ref o2), (.int p1), (.int p2)] ∧ Z.Warmed39 UU.vm ∧ UU.heap = h0) (fun _ _ _ _ _ => True) (fun _ UU oo UU' => ∃ vv LL, oo = .returned vv ∧ Q13 Z o1 o2 p1 p2 h0 n0 vv UU'.heap LL ∧ FrameEnd UU oo UU' LL ({ frames := 2, cells := 0, slots := 0, locals := 24 } : Room).cells ({ frames := 2, cells := 0, slots := 0, locals := 24 } : Room).slots) := by
  have W : ∀ {d : Jvm.Cond} (i : Nat), tables_1[i]? = some d → d.before a0 Z = true := fun i h => hw _ (List.mem_of_getElem? h)
  refine MetFree.of_bodySF (plainFor_of_name pn150) hisR ?_
  intro p e s m args below meth c s₁ Bd hml0 hP hK
  obtain ⟨rfl, hZ, hh⟩ := hP
  have hx := Bd.exec
  have hby := Bd.bytes
  have hml : c.maxLocals = 4 := hml0
  have hown : s.vm.findClass "com/example/ruleseer/ruleseer/gdl/GroundNetwork$Atoms" = some m.cls := findClass_of_methodNamed Bd.named
  have hnm := (name_of_methodNamed Bd.named Bd.method).1
  have X0 : Stand p l e ({ frames := 2, cells := 0, slots := 0, locals := 24 } : Room) s m #[(.ref o1), (.ref o2), (.int p1), (.int p2)] below meth c s₁ [] 0 0 := Stand.of_body Bd
  have e0 : s₁.heap = h0 := by rw [← hh, Bd.state]; rfl
  have N0 := Fr.nil n0
  have pre0 : ∀ tt, Steps p.tables e below (s₁.setTop (mkF m 0 #[rv o1, rv o2, iv p1, iv p2] [])) tt → Steps p.tables e below (s₁.setTop (entryFrame m #[(.ref o1), (.ref o2), (.int p1), (.int p2)] 4)) tt := fun tt kt => castTop (ef13 m o1 o2 p1 p2) kt
  obtain ⟨ST, hST⟩ : ∃ z : State, z = s₁.setTop (mkF m 0 #[rv o1, rv o2, iv p1, iv p2] []) := ⟨_, rfl⟩
  rw [← hST] at pre0
  have KC0 : Keep h0 h0 [o1] := Keep.refl h0 [o1]
  have go304 : own_S p e below ST s₁ (mkF m 1 #[rv o1, rv o2, iv p1, iv p2] [(.ref o1)]) := fun tt kt => (by
      rw [hST]
      show Steps p.tables e below (s₁.setTop (mkF m 0 #[rv o1, rv o2, iv p1, iv p2] [])) _
      refine XS.aloadN X0.here hx rfl (hb hby d13_0) rfl rfl ?_
      exact kt)
  obtain ⟨_, _, ⟨T305, L305, k305, n305⟩, -, X305, ⟨Lc305, hQ305, l305, y305, z305⟩, st305⟩ := X0.specialBack hx (y := (⟨"java/lang/Record", "<init>", "()V"⟩ : MethodName)) rfl hown (mvT hZ (W 116 rfl)) (mvT hZ (W 117 rfl)) (mvT hZ (W 120 rfl)) (by decide) (backOf (W := 0) (rm14 l Z a0 hw [] o1 h0 n0 Z0 ) hZ (W 120 rfl) (W 119 rfl) (by decide) (by decide)) (g := (mkF m 1 #[rv o1, rv o2, iv p1, iv p2] [(.ref o1)])) rfl (by rw [hml]; rfl) (Steps.refl _) (a := o1) (argsL := []) (rest := []) (lenOf pd7 rfl) rfl (by show 2 * 0 + _ ≤ _; exact Nat.le_of_eq rfl) (hb hby d13_1) (fun _ _ => ⟨rfl, e0, (by decide : 0 + 0 ≤ _), (by decide : 0 + 0 ≤ _)⟩)
  dsimp only [Pt.U, Pt.locs, Pt.cells, Pt.slots] at X305 l305 y305 z305 st305 hQ305
  subst l305 y305 z305
  obtain ⟨rfl, Nq305, eh305⟩ := hQ305
  have N305 := Fr.app N0 Nq305
  have go306 : own_S p e below ST T305 (mkF m 4 #[rv o1, rv o2, iv p1, iv p2] []) := fun tt kt => go304 tt (st305.trans kt)
  have go307 : own_S p e below ST T305 (mkF m 6 #[rv o1, rv o2, iv p1, iv p2] [(.ref o2), (.ref o1)]) := fun tt kt => go306 tt (by
      refine XS.aloadN X305.here hx rfl (hb hby d13_4) rfl rfl ?_
      refine XS.aloadN X305.here hx rfl (hb hby d13_5) rfl rfl ?_
      exact kt)
  obtain ⟨T308, h308, X308, e308, W308, st308⟩ := putF X305 hx hZ hown (host := "") (Or.inl (W 122 rfl)) Via.refl eh305 F1 E1 (Or.inr ⟨(W 123 rfl), rfl, hnm⟩) (W 2 rfl) (ty := (.object "com/example/ruleseer/ruleseer/gdl/Relation")) (by decide) rfl rfl (g := (mkF m 6 #[rv o1, rv o2, iv p1, iv p2] [(.ref o2), (.ref o1)])) rfl rfl (hb hby d13_6)
  have Fw308 := F1.same W308
  have N308 := Fr.snoc X308 N305 g1
  have go309 : own_S p e below ST T308 (mkF m 9 #[rv o1, rv o2, iv p1, iv p2] []) := fun tt kt => go307 tt (st308 _ kt)
  have KC308 : Keep h0 h308 [o1] := KC0.wr W308 (Or.inl (List.mem_of_getElem? (i := 0) rfl))
  have go310 : own_S p e below ST T308 (mkF m 11 #[rv o1, rv o2, iv p1, iv p2] [(.int p1), (.ref o1)]) := fun tt kt => go309 tt (by
      refine XS.aloadN X308.here hx rfl (hb hby d13_9) rfl rfl ?_
      refine XS.iloadN X308.here hx rfl (hb hby d13_10) rfl ?_
      exact kt)
  have f312 := (F2.other W308 (Or.inr (slot_ne (Or.inr (W 125 rfl)) (Or.inr (W 123 rfl)) (by decide) (t := .int) (t' := (.object "com/example/ruleseer/ruleseer/gdl/Relation")) (by decide) (by decide))))
  have f313 := (E1.wr W308)
  obtain ⟨T311, h311, X311, e311, W311, st311⟩ := putF X308 hx hZ hown (host := "") (Or.inl (W 124 rfl)) Via.refl e308 f312 f313 (Or.inr ⟨(W 125 rfl), rfl, hnm⟩) (W 2 rfl) (ty := .int) (by decide) rfl rfl (g := (mkF m 11 #[rv o1, rv o2, iv p1, iv p2] [(.int p1), (.ref o1)])) rfl rfl (hb hby d13_11)
  have Fw311 := f312.same W311
  have N311 := Fr.snoc X311 N308 g1
  have go314 : own_S p e below ST T311 (mkF m 14 #[rv o1, rv o2, iv p1, iv p2] []) := fun tt kt => go310 tt (st311 _ kt)
  have KC311 : Keep h0 h311 [o1] := KC308.wr W311 (Or.inl (List.mem_of_getElem? (i := 0) rfl))
  have go315 : own_S p e below ST T311 (mkF m 16 #[rv o1, rv o2, iv p1, iv p2] [(.int p2), (.ref o1)]) := fun tt kt => go314 tt (by
      refine XS.aloadN X311.here hx rfl (hb hby d13_14) rfl rfl ?_
      refine XS.iloadN X311.here hx rfl (hb hby d13_15) rfl ?_
      exact kt)
  have f317 := ((F3.other W308 (Or.inr (slot_ne (Or.inr (W 127 rfl)) (Or.inr (W 123 rfl)) (by decide) (t := .boolean) (t' := (.object "com/example/ruleseer/ruleseer/gdl/Relation")) (by decide) (by decide)))).other W311 (Or.inr (slot_ne (Or.inr (W 127 rfl)) (Or.inr (W 125 rfl)) (by decide) (t := .boolean) (t' := .int) (by decide) (by decide))))
  have f318 := (f313.wr W311)
  obtain ⟨T316, h316, X316, e316, W316, st316⟩ := putFN X311 hx hZ hown (W 126 rfl) Via.refl e311 f317 f318 (Or.inr ⟨(W 127 rfl), rfl, hnm⟩) (W 2 rfl) (ty := .boolean) (v' := (.int (nar .boolean p2))) (by decide) rfl (fits_nar_bool _) (g := (mkF m 16 #[rv o1, rv o2, iv p1, iv p2] [(.int p2), (.ref o1)])) rfl rfl (hb hby d13_16)
  have Fw316 := f317.same W316
  have N316 := Fr.snoc X316 N311 g1
  have go319 : own_S p e below ST T316 (mkF m 19 #[rv o1, rv o2, iv p1, iv p2] []) := fun tt kt => go315 tt (st316 _ kt)
  have KC316 : Keep h0 h316 [o1] := KC311.wr W316 (Or.inl (List.mem_of_getElem? (i := 0) rfl))
  have f320 := (Fw311.other W316 (Or.inr (slot_ne (Or.inr (W 125 rfl)) (Or.inr (W 127 rfl)) (by decide) (t := .int) (t' := .boolean) (by decide) (by decide))))
  obtain ⟨fs, hr, hrun, hended, hW, hsame⟩ := X316.leave (v := none) (fun _ => rfl)
  refine ⟨_, _, pre0 _ (go319 _ ?_), hrun, hended, _, _, rfl, ?_, ⟨_, rfl⟩, hW, hsame.mono (by decide) (by decide)⟩
  · exact X316.returnOut hx Bd.returns (hb hby d13_19) hr
  · show Q13 Z o1 o2 p1 p2 h0 n0 _ T316.heap _
    rw [e316]
    exact ⟨rfl, N316, KC316, f320, Fw316⟩
theorem d15_0 : decode prog_60_method_2_code 0 = .ok (.aload_n 0, 1) := by decide +kernel
theorem d15_1 : decode prog_60_method_2_code 1 = .ok (.getfield 19, 3) := by decide +kernel
theorem d15_4 : decode prog_60_method_2_code 4 = .ok (.ifCond .eq 7, 3) := by decide +kernel
theorem d15_11 : decode prog_60_method_2_code 11 = .ok (.aload_n 0, 1) := by decide +kernel
theorem d15_12 : decode prog_60_method_2_code 12 = .ok (.getfield 15, 3) := by decide +kernel
theorem d15_15 : decode prog_60_method_2_code 15 = .ok (.iload_n 1, 1) := by decide +kernel
theorem d15_16 : decode prog_60_method_2_code 16 = .ok (.iadd, 1) := by decide +kernel
theorem d15_17 : decode prog_60_method_2_code 17 = .ok (.ireturn, 1) := by decide +kernel
theorem ef15s0 (m : MethodId) (x0 : Addr) (x1 : Int32) : entryFrame m #[(.ref x0), (.int x1)] 2 = mkF m 0 #[.val (.ref x0), .val (.int x1)] [] := by first | (simp [entryFrame, mkF, argsToLocals, Value.category]; done) | rfl
def Q15s0 (Z : State) (o1 : Addr) (ii : Int32) (fi : Int32) (h0 : Heap) (n0 : Nat) (v : Option Value) (h : Heap) (L : List Loc) : Prop := v = some (.int (fi + ii)) ∧ Fr n0 L ∧ h = h0
set_option maxRecDepth 65536 in
set_option maxHeartbeats 40000000 in
theorem rm15s0 (l : Launch) (Z : State) (a0 : Array Value) (hw : ∀ d ∈ tables_1, d.before a0 Z = true) (ws : List Jvm.Cond) (o1 : Addr) (ii : Int32) (fi : Int32) (h0 : Heap) (n0 : Nat) (Z0 : n0 ≤ h0.size) (F1 : Fld Z h0 o1 "com/example/ruleseer/ruleseer/gdl/GroundNetwork$Atoms" "first" "I" (.int fi)) (F2 : Fld Z h0 o1 "com/example/ruleseer/ruleseer/gdl/GroundNetwork$Atoms" "settled" "Z" (.int (nar .boolean (0 : Int32)))) :
    MetFree l (⟨"com/example/ruleseer/ruleseer/gdl/GroundNetwork$Atoms", "proposition", "(I)I"⟩ : MethodName) (head1 (Jvm.Cond.code (⟨"com/example/ruleseer/ruleseer/gdl/GroundNetwork$Atoms", "proposition", "(I)I"⟩ : MethodName) prog_60_method_2_code 2 (some .int) :: ws) ({ frames := 0, cells := 0, slots := 0, locals := 0 } : Room)) (fun aa UU => aa = #[(.ref o1), (.int ii)] ∧ Z.Warmed39 UU.vm ∧ UU.heap = h0) (fun _ _ _ _ _ => True) (fun _ UU oo UU' => ∃ vv LL, oo = .returned vv ∧ Q15s0 Z o1 ii fi h0 n0 vv UU'.heap LL ∧ FrameEnd UU oo UU' LL ({ frames := 0, cells := 0, slots := 0, locals := 0 } : Room).cells ({ frames := 0, cells := 0, slots := 0, locals := 0 } : Room).slots) := by
  have W : ∀ {d : Jvm.Cond} (i : Nat), tables_1[i]? = some d → d.before a0 Z = true := fun i h => hw _ (List.mem_of_getElem? h)
  refine MetFree.of_bodySF (plainFor_of_name pn150) hisR ?_
  intro p e s m args below meth c s₁ Bd hml0 hP hK
  obtain ⟨rfl, hZ, hh⟩ := hP
  have hx := Bd.exec
  have hby := Bd.bytes
  have hml : c.maxLocals = 2 := hml0
  have hown : s.vm.findClass "com/example/ruleseer/ruleseer/gdl/GroundNetwork$Atoms" = some m.cls := findClass_of_methodNamed Bd.named
  have hnm := (name_of_methodNamed Bd.named Bd.method).1
  have X0 : Stand p l e ({ frames := 0, cells := 0, slots := 0, locals := 0 } : Room) s m #[(.ref o1), (.int ii)] below meth c s₁ [] 0 0 := Stand.of_body Bd
  have e0 : s₁.heap = h0 := by rw [← hh, Bd.state]; rfl
  have N0 := Fr.nil n0
  have pre0 : ∀ tt, Steps p.tables e below (s₁.setTop (mkF m 0 #[rv o1, iv ii] [])) tt → Steps p.tables e below (s₁.setTop (entryFrame m #[(.ref o1), (.int ii)] 2)) tt := fun tt kt => castTop (ef15s0 m o1 ii) kt
  obtain ⟨ST, hST⟩ : ∃ z : State, z = s₁.setTop (mkF m 0 #[rv o1, iv ii] []) := ⟨_, rfl⟩
  rw [← hST] at pre0
  have go321 : own_S p e below ST s₁ (mkF m 1 #[rv o1, iv ii] [(.ref o1)]) := fun tt kt => (by
      rw [hST]
      show Steps p.tables e below (s₁.setTop (mkF m 0 #[rv o1, iv ii] [])) _
      refine XS.aloadN X0.here hx rfl (hb hby d15_0) rfl rfl ?_
      exact kt)
  obtain ⟨T322, X322, e322, st322⟩ := getF X0 hx hZ hown (host := "") (Or.inl (W 126 rfl)) Via.refl e0 F2 (g := (mkF m 1 #[rv o1, iv ii] [(.ref o1)])) rfl rfl (hb hby d15_1)
  have go323 : own_S p e below ST T322 (mkF m 4 #[rv o1, iv ii] [(.int (nar .boolean (0 : Int32)))]) := fun tt kt => go321 tt (st322 _ kt)
  have go324 : own_S p e below ST T322 (mkF m 12 #[rv o1, iv ii] [(.ref o1)]) := fun tt kt => go323 tt (by
      refine XS.ifYes X322.here hx rfl (pc0 := 4) (pc' := 11) rfl (hb hby d15_4) rfl ((if0 _ _).trans (teq (by decide)).1) (by decide) (by decide) ?_
      refine XS.aloadN X322.here hx rfl (hb hby d15_11) rfl rfl ?_
      exact kt)
  obtain ⟨T325, X325, e325, st325⟩ := getF X322 hx hZ hown (host := "") (Or.inl (W 124 rfl)) Via.refl e322 F1 (g := (mkF m 12 #[rv o1, iv ii] [(.ref o1)])) rfl rfl (hb hby d15_12)
  have go326 : own_S p e below ST T325 (mkF m 15 #[rv o1, iv ii] [(.int fi)]) := fun tt kt => go324 tt (st325 _ kt)
  have go327 : own_S p e below ST T325 (mkF m 17 #[rv o1, iv ii] [(.int (fi + ii))]) := fun tt kt => go326 tt (by
      refine XS.iloadN X325.here hx rfl (hb hby d15_15) rfl ?_
      refine XS.iadd X325.here hx rfl (hb hby d15_16) rfl ?_
      exact kt)
  obtain ⟨fs, hr, hrun, hended, hW, hsame⟩ := X325.leave (v := some (.int (fi + ii))) (fun h => by rw [Bd.returns] at h; cases h)
  refine ⟨_, _, pre0 _ (go327 _ ?_), hrun, hended, _, _, rfl, ?_, ⟨_, rfl⟩, hW, hsame.mono (by decide) (by decide)⟩
  · exact retI X325 hx Bd.returns (hb hby d15_17) hr
  · show Q15s0 Z o1 ii fi h0 n0 _ T325.heap _
    rw [e325]
    exact ⟨rfl, N0, rfl⟩
theorem d15_7 : decode prog_60_method_2_code 7 = .ok (.iconst 0, 1) := by decide +kernel
theorem d15_8 : decode prog_60_method_2_code 8 = .ok (.goto 9, 3) := by decide +kernel
theorem ef15s1 (m : MethodId) (x0 : Addr) (x1 : Int32) : entryFrame m #[(.ref x0), (.int x1)] 2 = mkF m 0 #[.val (.ref x0), .val (.int x1)] [] := by first | (simp [entryFrame, mkF, argsToLocals, Value.category]; done) | rfl
def Q15s1 (Z : State) (o1 : Addr) (ii : Int32) (fi : Int32) (h0 : Heap) (n0 : Nat) (v : Option Value) (h : Heap) (L : List Loc) : Prop := v = some (.int 0) ∧ Fr n0 L ∧ h = h0
set_option maxRecDepth 65536 in
set_option maxHeartbeats 40000000 in
theorem rm15s1 (l : Launch) (Z : State) (a0 : Array Value) (hw : ∀ d ∈ tables_1, d.before a0 Z = true) (ws : List Jvm.Cond) (o1 : Addr) (ii : Int32) (fi : Int32) (h0 : Heap) (n0 : Nat) (Z0 : n0 ≤ h0.size) (F1 : Fld Z h0 o1 "com/example/ruleseer/ruleseer/gdl/GroundNetwork$Atoms" "first" "I" (.int fi)) (F2 : Fld Z h0 o1 "com/example/ruleseer/ruleseer/gdl/GroundNetwork$Atoms" "settled" "Z" (.int (nar .boolean (1 : Int32)))) :
    MetFree l (⟨"com/example/ruleseer/ruleseer/gdl/GroundNetwork$Atoms", "proposition", "(I)I"⟩ : MethodName) (head1 (Jvm.Cond.code (⟨"com/example/ruleseer/ruleseer/gdl/GroundNetwork$Atoms", "proposition", "(I)I"⟩ : MethodName) prog_60_method_2_code 2 (some .int) :: ws) ({ frames := 0, cells := 0, slots := 0, locals := 0 } : Room)) (fun aa UU => aa = #[(.ref o1), (.int ii)] ∧ Z.Warmed39 UU.vm ∧ UU.heap = h0) (fun _ _ _ _ _ => True) (fun _ UU oo UU' => ∃ vv LL, oo = .returned vv ∧ Q15s1 Z o1 ii fi h0 n0 vv UU'.heap LL ∧ FrameEnd UU oo UU' LL ({ frames := 0, cells := 0, slots := 0, locals := 0 } : Room).cells ({ frames := 0, cells := 0, slots := 0, locals := 0 } : Room).slots) := by
  have W : ∀ {d : Jvm.Cond} (i : Nat), tables_1[i]? = some d → d.before a0 Z = true := fun i h => hw _ (List.mem_of_getElem? h)
  refine MetFree.of_bodySF (plainFor_of_name pn150) hisR ?_
  intro p e s m args below meth c s₁ Bd hml0 hP hK
  obtain ⟨rfl, hZ, hh⟩ := hP
  have hx := Bd.exec
  have hby := Bd.bytes
  have hml : c.maxLocals = 2 := hml0
  have hown : s.vm.findClass "com/example/ruleseer/ruleseer/gdl/GroundNetwork$Atoms" = some m.cls := findClass_of_methodNamed Bd.named
  have hnm := (name_of_methodNamed Bd.named Bd.method).1
  have X0 : Stand p l e ({ frames := 0, cells := 0, slots := 0, locals := 0 } : Room) s m #[(.ref o1), (.int ii)] below meth c s₁ [] 0 0 := Stand.of_body Bd
  have e0 : s₁.heap = h0 := by rw [← hh, Bd.state]; rfl
  have N0 := Fr.nil n0
  have pre0 : ∀ tt, Steps p.tables e below (s₁.setTop (mkF m 0 #[rv o1, iv ii] [])) tt → Steps p.tables e below (s₁.setTop (entryFrame m #[(.ref o1), (.int ii)] 2)) tt := fun tt kt => castTop (ef15s1 m o1 ii) kt
  obtain ⟨ST, hST⟩ : ∃ z : State, z = s₁.setTop (mkF m 0 #[rv o1, iv ii] []) := ⟨_, rfl⟩
  rw [← hST] at pre0
  have go328 : own_S p e below ST s₁ (mkF m 1 #[rv o1, iv ii] [(.ref o1)]) := fun tt kt => (by
      rw [hST]
      show Steps p.tables e below (s₁.setTop (mkF m 0 #[rv o1, iv ii] [])) _
      refine XS.aloadN X0.here hx rfl (hb hby d15_0) rfl rfl ?_
      exact kt)
  obtain ⟨T329, X329, e329, st329⟩ := getF X0 hx hZ hown (host := "") (Or.inl (W 126 rfl)) Via.refl e0 F2 (g := (mkF m 1 #[rv o1, iv ii] [(.ref o1)])) rfl rfl (hb hby d15_1)
  have go330 : own_S p e below ST T329 (mkF m 4 #[rv o1, iv ii] [(.int (nar .boolean (1 : Int32)))]) := fun tt kt => go328 tt (st329 _ kt)
  have go331 : own_S p e below ST T329 (mkF m 17 #[rv o1, iv ii] [(.int (0 : Int32))]) := fun tt kt => go330 tt (by
      refine XS.ifNo X329.here hx rfl (hb hby d15_4) rfl ((if0 _ _).trans (feq (by decide)).1) ?_
      refine XS.iconst X329.here hx rfl (hb hby d15_7) ?_
      refine XS.goto X329.here hx rfl (pc0 := 8) (pc' := 17) rfl (hb hby d15_8) (by decide) (by decide) ?_
      exact kt)
  obtain ⟨fs, hr, hrun, hended, hW, hsame⟩ := X329.leave (v := some (.int (0 : Int32))) (fun h => by rw [Bd.returns] at h; cases h)
  refine ⟨_, _, pre0 _ (go331 _ ?_), hrun, hended, _, _, rfl, ?_, ⟨_, rfl⟩, hW, hsame.mono (by decide) (by decide)⟩
  · exact retI X329 hx Bd.returns (hb hby d15_17) hr
  · show Q15s1 Z o1 ii fi h0 n0 _ T329.heap _
    rw [e329]
    exact ⟨rfl, N0, rfl⟩
theorem pn173 : plainName "com/example/ruleseer/ruleseer/gdl/AtomsPropositionPinLaw" = true := by first | (simp [plainName, overriddenIn]; done) | decide +kernel
theorem pd174 : parseMethodDescriptor "(I)V" = some ⟨[.int], none⟩ := by decide +kernel
theorem pd175 : parseMethodDescriptor "(Lcom/example/ruleseer/ruleseer/gdl/Relation;IZ)V" = some ⟨[(.object "com/example/ruleseer/ruleseer/gdl/Relation"), .int, .boolean], none⟩ := by decide +kernel
theorem pd176 : parseMethodDescriptor "(I)I" = some ⟨[.int], some .int⟩ := by decide +kernel
theorem ef0s0 (m : MethodId) (x0 : Int32) (x1 : Int32) (x2 : Int32) : entryFrame m #[(.int x0), (.int x1), (.int x2)] maxLocals = mkF m 0 #[.val (.int x0), .val (.int x1), .val (.int x2), .unset, .unset, .unset, .unset, .unset, .unset] [] := by first | (simp [entryFrame, mkF, argsToLocals, Value.category, maxLocals]; done) | rfl
def Q0s0 (Z : State) (fi : Int32) (rs : Int32) (fl : Int32) (ad : Addr) (mC : Addr) (mA : Addr) (mO : Addr) (h0 : Heap) (n0 : Nat) (v : Option Value) (h : Heap) (L : List Loc) : Prop := v = some (.int 1) ∧ Fr n0 L
set_option maxRecDepth 65536 in
set_option maxHeartbeats 40000000 in
theorem rm0s0 (l : Launch) (Z : State) (a0 : Array Value) (hw : ∀ d ∈ tables_1, d.before a0 Z = true) (ws : List Jvm.Cond) (fi : Int32) (rs : Int32) (fl : Int32) (ad : Addr) (mC : Addr) (mA : Addr) (mO : Addr) (h0 : Heap) (n0 : Nat) (Z0 : n0 ≤ h0.size) (SD : Sta Z Z.heap "java/util/ArrayList" "DEFAULTCAPACITY_EMPTY_ELEMENTDATA" "[Ljava/lang/Object;" (.ref ad)) (SA : Sta Z Z.heap "java/util/Collections$CopiesList" "$assertionsDisabled" "Z" (.int (1 : Int32))) (OL : Old Z n0 h0) (MC : own_Mir Z "java/util/Collections$CopiesList" mC) (MA : own_Mir Z "java/util/ArrayList" mA) (MO : own_Mir Z "[Ljava/lang/Object;" mO) (hb1 : (fl &&& (1 : Int32) = (0 : Int32))) :
    MetFree l x (head1 (Jvm.Cond.code x code maxLocals ret :: ws) room_1) (fun aa UU => aa = #[(.int fi), (.int rs), (.int fl)] ∧ Z.Warmed39 UU.vm ∧ UU.heap = h0) (fun _ _ _ _ _ => True) (fun _ UU oo UU' => ∃ vv LL, oo = .returned vv ∧ Q0s0 Z fi rs fl ad mC mA mO h0 n0 vv UU'.heap LL ∧ FrameEnd UU oo UU' LL room_1.cells room_1.slots) := by
  have W : ∀ {d : Jvm.Cond} (i : Nat), tables_1[i]? = some d → d.before a0 Z = true := fun i h => hw _ (List.mem_of_getElem? h)
  refine MetFree.of_bodySF (plainFor_of_name pn173) hisR ?_
  intro p e s m args below meth c s₁ Bd hml0 hP hK
  obtain ⟨rfl, hZ, hh⟩ := hP
  have hx := Bd.exec
  have hby := Bd.bytes
  have hml : c.maxLocals = 9 := hml0
  have hown : s.vm.findClass "com/example/ruleseer/ruleseer/gdl/AtomsPropositionPinLaw" = some m.cls := findClass_of_methodNamed Bd.named
  have hnm := (name_of_methodNamed Bd.named Bd.method).1
  have X0 : Stand p l e room_1 s m #[(.int fi), (.int rs), (.int fl)] below meth c s₁ [] 0 0 := Stand.of_body Bd
  have e0 : s₁.heap = h0 := by rw [← hh, Bd.state]; rfl
  have N0 := Fr.nil n0
  have pre0 : ∀ tt, Steps p.tables e below (s₁.setTop (mkF m 0 #[iv fi, iv rs, iv fl, .unset, .unset, .unset, .unset, .unset, .unset] [])) tt → Steps p.tables e below (s₁.setTop (entryFrame m #[(.int fi), (.int rs), (.int fl)] maxLocals)) tt := fun tt kt => castTop (ef0s0 m fi rs fl) kt
  obtain ⟨ST, hST⟩ : ∃ z : State, z = s₁.setTop (mkF m 0 #[iv fi, iv rs, iv fl, .unset, .unset, .unset, .unset, .unset, .unset] []) := ⟨_, rfl⟩
  rw [← hST] at pre0
  have go332 : own_S p e below ST s₁ (mkF m 16 #[iv fi, iv rs, iv fl, iv (0 : Int32), .unset, .unset, .unset, .unset, .unset] [(.int (rs &&& (2147483647 : Int32)))]) := fun tt kt => (by
      rw [hST]
      show Steps p.tables e below (s₁.setTop (mkF m 0 #[iv fi, iv rs, iv fl, .unset, .unset, .unset, .unset, .unset, .unset] [])) _
      refine XS.iloadN X0.here hx rfl (hb hby at_0) rfl ?_
      refine XS.iconst X0.here hx rfl (hb hby at_1) ?_
      refine XS.iand X0.here hx rfl (hb hby at_2) rfl ?_
      refine XS.ifYes X0.here hx rfl (pc0 := 3) (pc' := 10) rfl (hb hby at_3) rfl ((if0 _ _).trans (teq hb1).1) (by decide) (by decide) ?_
      refine XS.iconst X0.here hx rfl (hb hby at_10) ?_
      refine XS.istoreN X0.here hx rfl (hb hby at_11) rfl (l' := #[iv fi, iv rs, iv fl, iv (0 : Int32), .unset, .unset, .unset, .unset, .unset]) rfl ?_
      show Steps p.tables e below (s₁.setTop (mkF m 12 #[iv fi, iv rs, iv fl, iv (0 : Int32), .unset, .unset, .unset, .unset, .unset] [])) _
      refine XS.iloadN X0.here hx rfl (hb hby at_12) rfl ?_
      refine X0.ldcInt hx hown (mvT hZ (W 0 rfl)) (g := (mkF m 13 #[iv fi, iv rs, iv fl, iv (0 : Int32), .unset, .unset, .unset, .unset, .unset] [(.int rs)])) rfl (hb hby at_13) _ ?_
      refine XS.iand X0.here hx rfl (hb hby at_15) rfl ?_
      exact kt)
  obtain ⟨ro, hro⟩ : ∃ z : Int32, z = (rs &&& (2147483647 : Int32)) := ⟨_, rfl⟩
  rw [← hro] at go332
  have go333 : own_S p e below ST s₁ (mkF m 18 #[iv fi, iv rs, iv fl, iv (0 : Int32), iv ro, .unset, .unset, .unset, .unset] []) := fun tt kt => go332 tt (by
      refine XS.istore X0.here hx rfl (hb hby at_16) rfl (l' := #[iv fi, iv rs, iv fl, iv (0 : Int32), iv ro, .unset, .unset, .unset, .unset]) rfl ?_
      exact kt)
  obtain ⟨b334, g334⟩ : ∃ z, z = h0.size := ⟨_, rfl⟩
  obtain ⟨T334, h334, X334, e334, E334, A334, D334, -, st334⟩ := newO X0 hx hZ hown (W 1 rfl) (W 2 rfl) (W 3 rfl) e0 (g := (mkF m 18 #[iv fi, iv rs, iv fl, iv (0 : Int32), iv ro, .unset, .unset, .unset, .unset] [])) rfl (hb hby at_18) (by decide) (by decide)
  rw [← g334] at A334 D334 st334
  have ge_b334 : n0 ≤ b334 := Nat.le_trans Z0 (Nat.le_of_eq g334.symm)
  have F334_rows : Fld Z h334 b334 "com/example/ruleseer/ruleseer/gdl/GroundNetwork$Atoms" "rows" "Lcom/example/ruleseer/ruleseer/gdl/Relation;" .null := D334 (Or.inr (W 123 rfl)) (ty := (.object "com/example/ruleseer/ruleseer/gdl/Relation")) (by decide)
  have F334_first : Fld Z h334 b334 "com/example/ruleseer/ruleseer/gdl/GroundNetwork$Atoms" "first" "I" (.int (0 : Int32)) := D334 (Or.inr (W 125 rfl)) (ty := .int) (by decide)
  have F334_settled : Fld Z h334 b334 "com/example/ruleseer/ruleseer/gdl/GroundNetwork$Atoms" "settled" "Z" (.int (0 : Int32)) := D334 (Or.inr (W 127 rfl)) (ty := .boolean) (by decide)
  have go335 : own_S p e below ST T334 (mkF m 21 #[iv fi, iv rs, iv fl, iv (0 : Int32), iv ro, .unset, .unset, .unset, .unset] [(.ref b334)]) := fun tt kt => go333 tt (st334 _ kt)
  have go336 : own_S p e below ST T334 (mkF m 22 #[iv fi, iv rs, iv fl, iv (0 : Int32), iv ro, .unset, .unset, .unset, .unset] [(.ref b334), (.ref b334)]) := fun tt kt => go335 tt (by
      refine XS.dup X334.here hx rfl (hb hby at_21) rfl rfl ?_
      exact kt)
  have zs338 := (Nat.le_trans Z0 E334.1)
  obtain ⟨b337, g337⟩ : ∃ z, z = h334.size := ⟨_, rfl⟩
  obtain ⟨T337, h337, X337, e337, E337, A337, D337, -, st337⟩ := newO X334 hx hZ hown (W 4 rfl) (W 5 rfl) (W 6 rfl) e334 (g := (mkF m 22 #[iv fi, iv rs, iv fl, iv (0 : Int32), iv ro, .unset, .unset, .unset, .unset] [(.ref b334), (.ref b334)])) rfl (hb hby at_22) (by decide) (by decide)
  rw [← g337] at A337 D337 st337
  have neb334_b337 : b334 ≠ b337 := Nat.ne_of_lt (Nat.lt_of_lt_of_le A334.lt (Nat.le_of_eq g337.symm))
  have ge_b337 : n0 ≤ b337 := Nat.le_trans zs338 (Nat.le_of_eq g337.symm)
  have F337_table : Fld Z h337 b337 "com/example/ruleseer/ruleseer/gdl/Relation" "table" "[I" .null := D337 (Or.inl (W 15 rfl)) (ty := (.array .int)) (by decide)
  have F337_argumentIndexes : Fld Z h337 b337 "com/example/ruleseer/ruleseer/gdl/Relation" "argumentIndexes" "Ljava/util/List;" .null := D337 (Or.inr (W 41 rfl)) (ty := (.object "java/util/List")) (by decide)
  have F337_arity : Fld Z h337 b337 "com/example/ruleseer/ruleseer/gdl/Relation" "arity" "I" (.int (0 : Int32)) := D337 (Or.inr (W 43 rfl)) (ty := .int) (by decide)
  have F337_cells : Fld Z h337 b337 "com/example/ruleseer/ruleseer/gdl/Relation" "cells" "[I" .null := D337 (Or.inl (W 49 rfl)) (ty := (.array .int)) (by decide)
  have F337_indexes : Fld Z h337 b337 "com/example/ruleseer/ruleseer/gdl/Relation" "indexes" "Ljava/util/List;" .null := D337 (Or.inr (W 112 rfl)) (ty := (.object "java/util/List")) (by decide)
  have go339 : own_S p e below ST T337 (mkF m 25 #[iv fi, iv rs, iv fl, iv (0 : Int32), iv ro, .unset, .unset, .unset, .unset] [(.ref b337), (.ref b334), (.ref b334)]) := fun tt kt => go336 tt (st337 _ kt)
  have go340 : own_S p e below ST T337 (mkF m 27 #[iv fi, iv rs, iv fl, iv (0 : Int32), iv ro, .unset, .unset, .unset, .unset] [(.int (1 : Int32)), (.ref b337), (.ref b337), (.ref b334), (.ref b334)]) := fun tt kt => go339 tt (by
      refine XS.dup X337.here hx rfl (hb hby at_25) rfl rfl ?_
      refine XS.iconst X337.here hx rfl (hb hby at_26) ?_
      exact kt)
  have f341 := ((OL.ext E334).ext E337)
  have zs343 := (Nat.le_trans zs338 E337.1)
  obtain ⟨_, _, ⟨T342, L342, k342, n342⟩, -, X342, ⟨Lc342, hQ342, l342, y342, z342⟩, st342⟩ := X337.specialBack hx (y := (⟨"com/example/ruleseer/ruleseer/gdl/Relation", "<init>", "(I)V"⟩ : MethodName)) rfl hown (mvT hZ (W 7 rfl)) (mvT hZ (W 8 rfl)) (mvT hZ (W 9 rfl)) (by decide) (backOf (W := 3) (rm1 l Z a0 hw [] b337 ad mC mA mO h337 n0 zs343 F337_table F337_argumentIndexes F337_arity F337_cells F337_indexes A337 ge_b337 SD SA f341 MC MA MO) hZ (W 9 rfl) (W 6 rfl) (by decide) (by decide)) (g := (mkF m 27 #[iv fi, iv rs, iv fl, iv (0 : Int32), iv ro, .unset, .unset, .unset, .unset] [(.int (1 : Int32)), (.ref b337), (.ref b337), (.ref b334), (.ref b334)])) rfl (by rw [hml]; rfl) (Steps.refl _) (a := b337) (argsL := [(.int (1 : Int32))]) (rest := [(.ref b337), (.ref b334), (.ref b334)]) (lenOf pd174 rfl) rfl (by show 2 * 0 + _ ≤ _; exact Nat.le_of_eq rfl) (hb hby at_27) (fun _ _ => ⟨rfl, e337, (by decide : 2 + 7 ≤ _), (by decide : 9 + 31 ≤ _)⟩)
  dsimp only [Pt.U, Pt.locs, Pt.cells, Pt.slots] at X342 l342 y342 z342 st342 hQ342
  subst l342 y342 z342
  obtain ⟨rfl, Nq342, K342⟩ := hQ342
  have N342 := Fr.app N0 Nq342
  have go344 : own_S p e below ST T342 (mkF m 30 #[iv fi, iv rs, iv fl, iv (0 : Int32), iv ro, .unset, .unset, .unset, .unset] [(.ref b337), (.ref b334), (.ref b334)]) := fun tt kt => go340 tt (st342.trans kt)
  have go345 : own_S p e below ST T342 (mkF m 32 #[iv fi, iv rs, iv fl, iv (0 : Int32), iv ro, .unset, .unset, .unset, .unset] [(.int (0 : Int32)), (.int fi), (.ref b337), (.ref b334), (.ref b334)]) := fun tt kt => go344 tt (by
      refine XS.iloadN X342.here hx rfl (hb hby at_30) rfl ?_
      refine XS.iloadN X342.here hx rfl (hb hby at_31) rfl ?_
      exact kt)
  have f346 := ((F334_rows.ext E337).keep K342 (ninS neb334_b337 nin0))
  have f347 := ((F334_first.ext E337).keep K342 (ninS neb334_b337 nin0))
  have f348 := ((F334_settled.ext E337).keep K342 (ninS neb334_b337 nin0))
  have f349 := ((A334.ext E337).keep K342)
  have zs351 := (Nat.le_trans zs343 K342.1)
  obtain ⟨_, _, ⟨T350, L350, k350, n350⟩, -, X350, ⟨Lc350, hQ350, l350, y350, z350⟩, st350⟩ := X342.specialBack hx (y := (⟨"com/example/ruleseer/ruleseer/gdl/GroundNetwork$Atoms", "<init>", "(Lcom/example/ruleseer/ruleseer/gdl/Relation;IZ)V"⟩ : MethodName)) rfl hown (mvT hZ (W 113 rfl)) (mvT hZ (W 114 rfl)) (mvT hZ (W 115 rfl)) (by decide) (backOf (W := 1) (rm13 l Z a0 hw [] b334 b337 fi (0 : Int32) T342.heap n0 zs351 f346 f347 f348 f349 ge_b334) hZ (W 115 rfl) (W 3 rfl) (by decide) (by decide)) (g := (mkF m 32 #[iv fi, iv rs, iv fl, iv (0 : Int32), iv ro, .unset, .unset, .unset, .unset] [(.int (0 : Int32)), (.int fi), (.ref b337), (.ref b334), (.ref b334)])) rfl (by rw [hml]; rfl) (Steps.refl _) (a := b334) (argsL := [(.ref b337), (.int fi), (.int (0 : Int32))]) (rest := [(.ref b334)]) (lenOf pd175 rfl) rfl (by show 2 * 0 + _ ≤ _; exact Nat.le_of_eq rfl) (hb hby at_32) (fun _ _ => ⟨rfl, rfl, (by decide : 9 + 0 ≤ _), (by decide : 40 + 0 ≤ _)⟩)
  dsimp only [Pt.U, Pt.locs, Pt.cells, Pt.slots] at X350 l350 y350 z350 st350 hQ350
  subst l350 y350 z350
  obtain ⟨rfl, Nq350, K350, Fa350, Fb350⟩ := hQ350
  have N350 := Fr.app N342 Nq350
  have go352 : own_S p e below ST T350 (mkF m 35 #[iv fi, iv rs, iv fl, iv (0 : Int32), iv ro, .unset, .unset, .unset, .unset] [(.ref b334)]) := fun tt kt => go345 tt (st350.trans kt)
  have go353 : own_S p e below ST T350 (mkF m 40 #[iv fi, iv rs, iv fl, iv (0 : Int32), iv ro, rv b334, .unset, .unset, .unset] [(.int (0 : Int32)), (.ref b334)]) := fun tt kt => go352 tt (by
      refine XS.astore X350.here hx rfl (hb hby at_35) rfl rfl (l' := #[iv fi, iv rs, iv fl, iv (0 : Int32), iv ro, rv b334, .unset, .unset, .unset]) rfl ?_
      refine XS.aload X350.here hx rfl (hb hby at_37) rfl rfl ?_
      refine XS.iconst X350.here hx rfl (hb hby at_39) ?_
      exact kt)
  have zs355 := (Nat.le_trans zs351 K350.1)
  have f356 := (f349.keep K350)
  obtain ⟨cq354, kq354, q354a, q354b, q354c⟩ := isOf hZ rfl f356
  obtain ⟨_, _, ⟨T354, L354, k354, n354⟩, -, X354, ⟨Lc354, hQ354, l354, y354, z354⟩, st354⟩ := X350.virtualBack hx (y := (⟨"com/example/ruleseer/ruleseer/gdl/GroundNetwork$Atoms", "proposition", "(I)I"⟩ : MethodName)) (z := (⟨"com/example/ruleseer/ruleseer/gdl/GroundNetwork$Atoms", "proposition", "(I)I"⟩ : MethodName)) hown (mvT hZ (W 128 rfl)) (mvT hZ (W 129 rfl)) (notFace_of_selects (args := #[]) (mvT hZ (W 131 rfl))) (mvT hZ (W 131 rfl)) (mvT hZ (W 130 rfl)) (by decide) (backOf (W := 0) (rm15s0 l Z a0 hw [] b334 (0 : Int32) fi T350.heap n0 zs355 Fa350 Fb350) hZ (W 132 rfl) (W 3 rfl) (by decide) (by decide)) q354a q354c (g := (mkF m 40 #[iv fi, iv rs, iv fl, iv (0 : Int32), iv ro, rv b334, .unset, .unset, .unset] [(.int (0 : Int32)), (.ref b334)])) rfl (by rw [hml]; rfl) (Steps.refl _) (argsL := [(.int (0 : Int32))]) (rest := []) (lenOf pd176 rfl) rfl (by show 2 * 0 + _ ≤ _; exact Nat.le_of_eq rfl) (hb hby at_40) (fun _ _ => ⟨rfl, rfl, (by decide : 9 + 0 ≤ _), (by decide : 40 + 0 ≤ _)⟩)
  dsimp only [Pt.U, Pt.locs, Pt.cells, Pt.slots] at X354 l354 y354 z354 st354 hQ354
  subst l354 y354 z354
  obtain ⟨rfl, Nq354, eh354⟩ := hQ354
  have N354 := Fr.app N350 Nq354
  have go357 : own_S p e below ST T354 (mkF m 43 #[iv fi, iv rs, iv fl, iv (0 : Int32), iv ro, rv b334, .unset, .unset, .unset] [(.int (fi + (0 : Int32)))]) := fun tt kt => go353 tt (st354.trans kt)
  have go358 : own_S p e below ST T354 (mkF m 49 #[iv fi, iv rs, iv fl, iv (0 : Int32), iv ro, rv b334, iv (fi + (0 : Int32)), .unset, .unset] [(.int ro), (.ref b334)]) := fun tt kt => go357 tt (by
      refine XS.istore X354.here hx rfl (hb hby at_43) rfl (l' := #[iv fi, iv rs, iv fl, iv (0 : Int32), iv ro, rv b334, iv (fi + (0 : Int32)), .unset, .unset]) rfl ?_
      refine XS.aload X354.here hx rfl (hb hby at_45) rfl rfl ?_
      refine XS.iload X354.here hx rfl (hb hby at_47) rfl ?_
      exact kt)
  obtain ⟨cq359, kq359, q359a, q359b, q359c⟩ := isOf hZ eh354 f356
  obtain ⟨_, _, ⟨T359, L359, k359, n359⟩, -, X359, ⟨Lc359, hQ359, l359, y359, z359⟩, st359⟩ := X354.virtualBack hx (y := (⟨"com/example/ruleseer/ruleseer/gdl/GroundNetwork$Atoms", "proposition", "(I)I"⟩ : MethodName)) (z := (⟨"com/example/ruleseer/ruleseer/gdl/GroundNetwork$Atoms", "proposition", "(I)I"⟩ : MethodName)) hown (mvT hZ (W 128 rfl)) (mvT hZ (W 129 rfl)) (notFace_of_selects (args := #[]) (mvT hZ (W 131 rfl))) (mvT hZ (W 131 rfl)) (mvT hZ (W 130 rfl)) (by decide) (backOf (W := 0) (rm15s0 l Z a0 hw [] b334 ro fi T350.heap n0 zs355 Fa350 Fb350) hZ (W 132 rfl) (W 3 rfl) (by decide) (by decide)) q359a q359c (g := (mkF m 49 #[iv fi, iv rs, iv fl, iv (0 : Int32), iv ro, rv b334, iv (fi + (0 : Int32)), .unset, .unset] [(.int ro), (.ref b334)])) rfl (by rw [hml]; rfl) (Steps.refl _) (argsL := [(.int ro)]) (rest := []) (lenOf pd176 rfl) rfl (by show 2 * 0 + _ ≤ _; exact Nat.le_of_eq rfl) (hb hby at_49) (fun _ _ => ⟨rfl, eh354, (by decide : 9 + 0 ≤ _), (by decide : 40 + 0 ≤ _)⟩)
  dsimp only [Pt.U, Pt.locs, Pt.cells, Pt.slots] at X359 l359 y359 z359 st359 hQ359
  subst l359 y359 z359
  obtain ⟨rfl, Nq359, eh359⟩ := hQ359
  have N359 := Fr.app N354 Nq359
  have go360 : own_S p e below ST T359 (mkF m 52 #[iv fi, iv rs, iv fl, iv (0 : Int32), iv ro, rv b334, iv (fi + (0 : Int32)), .unset, .unset] [(.int (fi + ro))]) := fun tt kt => go358 tt (st359.trans kt)
  have go361 : own_S p e below ST T359 (mkF m 60 #[iv fi, iv rs, iv fl, iv (0 : Int32), iv ro, rv b334, iv (fi + (0 : Int32)), iv (fi + ro), .unset] [(.int (ro + (1 : Int32))), (.ref b334)]) := fun tt kt => go360 tt (by
      refine XS.istore X359.here hx rfl (hb hby at_52) rfl (l' := #[iv fi, iv rs, iv fl, iv (0 : Int32), iv ro, rv b334, iv (fi + (0 : Int32)), iv (fi + ro), .unset]) rfl ?_
      refine XS.aload X359.here hx rfl (hb hby at_54) rfl rfl ?_
      refine XS.iload X359.here hx rfl (hb hby at_56) rfl ?_
      refine XS.iconst X359.here hx rfl (hb hby at_58) ?_
      refine XS.iadd X359.here hx rfl (hb hby at_59) rfl ?_
      exact kt)
  obtain ⟨cq362, kq362, q362a, q362b, q362c⟩ := isOf hZ eh359 f356
  obtain ⟨_, _, ⟨T362, L362, k362, n362⟩, -, X362, ⟨Lc362, hQ362, l362, y362, z362⟩, st362⟩ := X359.virtualBack hx (y := (⟨"com/example/ruleseer/ruleseer/gdl/GroundNetwork$Atoms", "proposition", "(I)I"⟩ : MethodName)) (z := (⟨"com/example/ruleseer/ruleseer/gdl/GroundNetwork$Atoms", "proposition", "(I)I"⟩ : MethodName)) hown (mvT hZ (W 128 rfl)) (mvT hZ (W 129 rfl)) (notFace_of_selects (args := #[]) (mvT hZ (W 131 rfl))) (mvT hZ (W 131 rfl)) (mvT hZ (W 130 rfl)) (by decide) (backOf (W := 0) (rm15s0 l Z a0 hw [] b334 (ro + (1 : Int32)) fi T350.heap n0 zs355 Fa350 Fb350) hZ (W 132 rfl) (W 3 rfl) (by decide) (by decide)) q362a q362c (g := (mkF m 60 #[iv fi, iv rs, iv fl, iv (0 : Int32), iv ro, rv b334, iv (fi + (0 : Int32)), iv (fi + ro), .unset] [(.int (ro + (1 : Int32))), (.ref b334)])) rfl (by rw [hml]; rfl) (Steps.refl _) (argsL := [(.int (ro + (1 : Int32)))]) (rest := []) (lenOf pd176 rfl) rfl (by show 2 * 0 + _ ≤ _; exact Nat.le_of_eq rfl) (hb hby at_60) (fun _ _ => ⟨rfl, eh359, (by decide : 9 + 0 ≤ _), (by decide : 40 + 0 ≤ _)⟩)
  dsimp only [Pt.U, Pt.locs, Pt.cells, Pt.slots] at X362 l362 y362 z362 st362 hQ362
  subst l362 y362 z362
  obtain ⟨rfl, Nq362, eh362⟩ := hQ362
  have N362 := Fr.app N359 Nq362
  have go363 : own_S p e below ST T362 (mkF m 63 #[iv fi, iv rs, iv fl, iv (0 : Int32), iv ro, rv b334, iv (fi + (0 : Int32)), iv (fi + ro), .unset] [(.int (fi + (ro + (1 : Int32))))]) := fun tt kt => go361 tt (st362.trans kt)
  have go364 : own_S p e below ST T362 (mkF m 93 #[iv fi, iv rs, iv fl, iv (0 : Int32), iv ro, rv b334, iv (fi + (0 : Int32)), iv (fi + ro), iv (fi + (ro + (1 : Int32)))] [(.int fi), (.int (fi + (0 : Int32)))]) := fun tt kt => go363 tt (by
      refine XS.istore X362.here hx rfl (hb hby at_63) rfl (l' := #[iv fi, iv rs, iv fl, iv (0 : Int32), iv ro, rv b334, iv (fi + (0 : Int32)), iv (fi + ro), iv (fi + (ro + (1 : Int32)))]) rfl ?_
      refine XS.iloadN X362.here hx rfl (hb hby at_65) rfl ?_
      refine XS.ifYes X362.here hx rfl (pc0 := 66) (pc' := 90) rfl (hb hby at_66) rfl ((if0 _ _).trans (teq (by decide : (0 : Int32) = (0 : Int32))).1) (by decide) (by decide) ?_
      refine XS.iload X362.here hx rfl (hb hby at_90) rfl ?_
      refine XS.iloadN X362.here hx rfl (hb hby at_92) rfl ?_
      exact kt)
  have hf1 : (fi + (0 : Int32)) = fi := by simp only [Int32.add_zero, Int32.add_assoc]
  have go365 : own_S p e below ST T362 (mkF m 102 #[iv fi, iv rs, iv fl, iv (0 : Int32), iv ro, rv b334, iv (fi + (0 : Int32)), iv (fi + ro), iv (fi + (ro + (1 : Int32)))] [(.int ((fi + ro) + (1 : Int32))), (.int (fi + (ro + (1 : Int32))))]) := fun tt kt => go364 tt (by
      refine XS.icmpNo X362.here hx rfl (hb hby at_93) rfl (teq hf1).2 ?_
      refine XS.iload X362.here hx rfl (hb hby at_96) rfl ?_
      refine XS.iload X362.here hx rfl (hb hby at_98) rfl ?_
      refine XS.iconst X362.here hx rfl (hb hby at_100) ?_
      refine XS.iadd X362.here hx rfl (hb hby at_101) rfl ?_
      exact kt)
  have hf2 : (fi + (ro + (1 : Int32))) = ((fi + ro) + (1 : Int32)) := by simp only [Int32.add_zero, Int32.add_assoc]
  have go366 : own_S p e below ST T362 (mkF m 119 #[iv fi, iv rs, iv fl, iv (0 : Int32), iv ro, rv b334, iv (fi + (0 : Int32)), iv (fi + ro), iv (fi + (ro + (1 : Int32)))] [(.int (1 : Int32))]) := fun tt kt => go365 tt (by
      refine XS.icmpNo X362.here hx rfl (hb hby at_102) rfl (teq hf2).2 ?_
      refine XS.iload X362.here hx rfl (hb hby at_105) rfl ?_
      refine XS.iloadN X362.here hx rfl (hb hby at_107) rfl ?_
      refine XS.iload X362.here hx rfl (hb hby at_108) rfl ?_
      refine XS.iadd X362.here hx rfl (hb hby at_110) rfl ?_
      refine XS.icmpNo X362.here hx rfl (hb hby at_111) rfl (teq (rfl : (fi + ro) = (fi + ro))).2 ?_
      show Steps p.tables e below (T362.setTop (mkF m 114 #[iv fi, iv rs, iv fl, iv (0 : Int32), iv ro, rv b334, iv (fi + (0 : Int32)), iv (fi + ro), iv (fi + (ro + (1 : Int32)))] [])) _
      refine XS.iconst X362.here hx rfl (hb hby at_114) ?_
      refine XS.goto X362.here hx rfl (pc0 := 115) (pc' := 119) rfl (hb hby at_115) (by decide) (by decide) ?_
      exact kt)
  obtain ⟨fs, hr, hrun, hended, hW, hsame⟩ := X362.leave (v := some (.int (1 : Int32))) (fun h => by rw [Bd.returns] at h; cases h)
  refine ⟨_, _, pre0 _ (go366 _ ?_), hrun, hended, _, _, rfl, ?_, ⟨_, rfl⟩, hW, hsame.mono (by decide) (by decide)⟩
  · exact retN X362 hx (t := .boolean) Bd.returns (by simp) (hb hby at_119) hr
  · show Q0s0 Z fi rs fl ad mC mA mO h0 n0 _ T362.heap _
    rw [eh362]
    exact ⟨rfl, N362⟩
theorem ef0s1 (m : MethodId) (x0 : Int32) (x1 : Int32) (x2 : Int32) : entryFrame m #[(.int x0), (.int x1), (.int x2)] maxLocals = mkF m 0 #[.val (.int x0), .val (.int x1), .val (.int x2), .unset, .unset, .unset, .unset, .unset, .unset] [] := by first | (simp [entryFrame, mkF, argsToLocals, Value.category, maxLocals]; done) | rfl
def Q0s1 (Z : State) (fi : Int32) (rs : Int32) (fl : Int32) (ad : Addr) (mC : Addr) (mA : Addr) (mO : Addr) (h0 : Heap) (n0 : Nat) (v : Option Value) (h : Heap) (L : List Loc) : Prop := v = some (.int 1) ∧ Fr n0 L
set_option maxRecDepth 65536 in
set_option maxHeartbeats 40000000 in
theorem rm0s1 (l : Launch) (Z : State) (a0 : Array Value) (hw : ∀ d ∈ tables_1, d.before a0 Z = true) (ws : List Jvm.Cond) (fi : Int32) (rs : Int32) (fl : Int32) (ad : Addr) (mC : Addr) (mA : Addr) (mO : Addr) (h0 : Heap) (n0 : Nat) (Z0 : n0 ≤ h0.size) (SD : Sta Z Z.heap "java/util/ArrayList" "DEFAULTCAPACITY_EMPTY_ELEMENTDATA" "[Ljava/lang/Object;" (.ref ad)) (SA : Sta Z Z.heap "java/util/Collections$CopiesList" "$assertionsDisabled" "Z" (.int (1 : Int32))) (OL : Old Z n0 h0) (MC : own_Mir Z "java/util/Collections$CopiesList" mC) (MA : own_Mir Z "java/util/ArrayList" mA) (MO : own_Mir Z "[Ljava/lang/Object;" mO) (hb1 : ¬ (fl &&& (1 : Int32) = (0 : Int32))) :
    MetFree l x (head1 (Jvm.Cond.code x code maxLocals ret :: ws) room_1) (fun aa UU => aa = #[(.int fi), (.int rs), (.int fl)] ∧ Z.Warmed39 UU.vm ∧ UU.heap = h0) (fun _ _ _ _ _ => True) (fun _ UU oo UU' => ∃ vv LL, oo = .returned vv ∧ Q0s1 Z fi rs fl ad mC mA mO h0 n0 vv UU'.heap LL ∧ FrameEnd UU oo UU' LL room_1.cells room_1.slots) := by
  have W : ∀ {d : Jvm.Cond} (i : Nat), tables_1[i]? = some d → d.before a0 Z = true := fun i h => hw _ (List.mem_of_getElem? h)
  refine MetFree.of_bodySF (plainFor_of_name pn173) hisR ?_
  intro p e s m args below meth c s₁ Bd hml0 hP hK
  obtain ⟨rfl, hZ, hh⟩ := hP
  have hx := Bd.exec
  have hby := Bd.bytes
  have hml : c.maxLocals = 9 := hml0
  have hown : s.vm.findClass "com/example/ruleseer/ruleseer/gdl/AtomsPropositionPinLaw" = some m.cls := findClass_of_methodNamed Bd.named
  have hnm := (name_of_methodNamed Bd.named Bd.method).1
  have X0 : Stand p l e room_1 s m #[(.int fi), (.int rs), (.int fl)] below meth c s₁ [] 0 0 := Stand.of_body Bd
  have e0 : s₁.heap = h0 := by rw [← hh, Bd.state]; rfl
  have N0 := Fr.nil n0
  have pre0 : ∀ tt, Steps p.tables e below (s₁.setTop (mkF m 0 #[iv fi, iv rs, iv fl, .unset, .unset, .unset, .unset, .unset, .unset] [])) tt → Steps p.tables e below (s₁.setTop (entryFrame m #[(.int fi), (.int rs), (.int fl)] maxLocals)) tt := fun tt kt => castTop (ef0s1 m fi rs fl) kt
  obtain ⟨ST, hST⟩ : ∃ z : State, z = s₁.setTop (mkF m 0 #[iv fi, iv rs, iv fl, .unset, .unset, .unset, .unset, .unset, .unset] []) := ⟨_, rfl⟩
  rw [← hST] at pre0
  have go367 : own_S p e below ST s₁ (mkF m 16 #[iv fi, iv rs, iv fl, iv (1 : Int32), .unset, .unset, .unset, .unset, .unset] [(.int (rs &&& (2147483647 : Int32)))]) := fun tt kt => (by
      rw [hST]
      show Steps p.tables e below (s₁.setTop (mkF m 0 #[iv fi, iv rs, iv fl, .unset, .unset, .unset, .unset, .unset, .unset] [])) _
      refine XS.iloadN X0.here hx rfl (hb hby at_0) rfl ?_
      refine XS.iconst X0.here hx rfl (hb hby at_1) ?_
      refine XS.iand X0.here hx rfl (hb hby at_2) rfl ?_
      refine XS.ifNo X0.here hx rfl (hb hby at_3) rfl ((if0 _ _).trans (feq hb1).1) ?_
      refine XS.iconst X0.here hx rfl (hb hby at_6) ?_
      refine XS.goto X0.here hx rfl (pc0 := 7) (pc' := 11) rfl (hb hby at_7) (by decide) (by decide) ?_
      show Steps p.tables e below (s₁.setTop (mkF m 11 #[iv fi, iv rs, iv fl, .unset, .unset, .unset, .unset, .unset, .unset] [(.int (1 : Int32))])) _
      refine XS.istoreN X0.here hx rfl (hb hby at_11) rfl (l' := #[iv fi, iv rs, iv fl, iv (1 : Int32), .unset, .unset, .unset, .unset, .unset]) rfl ?_
      refine XS.iloadN X0.here hx rfl (hb hby at_12) rfl ?_
      refine X0.ldcInt hx hown (mvT hZ (W 0 rfl)) (g := (mkF m 13 #[iv fi, iv rs, iv fl, iv (1 : Int32), .unset, .unset, .unset, .unset, .unset] [(.int rs)])) rfl (hb hby at_13) _ ?_
      refine XS.iand X0.here hx rfl (hb hby at_15) rfl ?_
      exact kt)
  obtain ⟨ro, hro⟩ : ∃ z : Int32, z = (rs &&& (2147483647 : Int32)) := ⟨_, rfl⟩
  rw [← hro] at go367
  have go368 : own_S p e below ST s₁ (mkF m 18 #[iv fi, iv rs, iv fl, iv (1 : Int32), iv ro, .unset, .unset, .unset, .unset] []) := fun tt kt => go367 tt (by
      refine XS.istore X0.here hx rfl (hb hby at_16) rfl (l' := #[iv fi, iv rs, iv fl, iv (1 : Int32), iv ro, .unset, .unset, .unset, .unset]) rfl ?_
      exact kt)
  obtain ⟨b369, g369⟩ : ∃ z, z = h0.size := ⟨_, rfl⟩
  obtain ⟨T369, h369, X369, e369, E369, A369, D369, -, st369⟩ := newO X0 hx hZ hown (W 1 rfl) (W 2 rfl) (W 3 rfl) e0 (g := (mkF m 18 #[iv fi, iv rs, iv fl, iv (1 : Int32), iv ro, .unset, .unset, .unset, .unset] [])) rfl (hb hby at_18) (by decide) (by decide)
  rw [← g369] at A369 D369 st369
  have ge_b369 : n0 ≤ b369 := Nat.le_trans Z0 (Nat.le_of_eq g369.symm)
  have F369_rows : Fld Z h369 b369 "com/example/ruleseer/ruleseer/gdl/GroundNetwork$Atoms" "rows" "Lcom/example/ruleseer/ruleseer/gdl/Relation;" .null := D369 (Or.inr (W 123 rfl)) (ty := (.object "com/example/ruleseer/ruleseer/gdl/Relation")) (by decide)
  have F369_first : Fld Z h369 b369 "com/example/ruleseer/ruleseer/gdl/GroundNetwork$Atoms" "first" "I" (.int (0 : Int32)) := D369 (Or.inr (W 125 rfl)) (ty := .int) (by decide)
  have F369_settled : Fld Z h369 b369 "com/example/ruleseer/ruleseer/gdl/GroundNetwork$Atoms" "settled" "Z" (.int (0 : Int32)) := D369 (Or.inr (W 127 rfl)) (ty := .boolean) (by decide)
  have go370 : own_S p e below ST T369 (mkF m 21 #[iv fi, iv rs, iv fl, iv (1 : Int32), iv ro, .unset, .unset, .unset, .unset] [(.ref b369)]) := fun tt kt => go368 tt (st369 _ kt)
  have go371 : own_S p e below ST T369 (mkF m 22 #[iv fi, iv rs, iv fl, iv (1 : Int32), iv ro, .unset, .unset, .unset, .unset] [(.ref b369), (.ref b369)]) := fun tt kt => go370 tt (by
      refine XS.dup X369.here hx rfl (hb hby at_21) rfl rfl ?_
      exact kt)
  have zs373 := (Nat.le_trans Z0 E369.1)
  obtain ⟨b372, g372⟩ : ∃ z, z = h369.size := ⟨_, rfl⟩
  obtain ⟨T372, h372, X372, e372, E372, A372, D372, -, st372⟩ := newO X369 hx hZ hown (W 4 rfl) (W 5 rfl) (W 6 rfl) e369 (g := (mkF m 22 #[iv fi, iv rs, iv fl, iv (1 : Int32), iv ro, .unset, .unset, .unset, .unset] [(.ref b369), (.ref b369)])) rfl (hb hby at_22) (by decide) (by decide)
  rw [← g372] at A372 D372 st372
  have neb369_b372 : b369 ≠ b372 := Nat.ne_of_lt (Nat.lt_of_lt_of_le A369.lt (Nat.le_of_eq g372.symm))
  have ge_b372 : n0 ≤ b372 := Nat.le_trans zs373 (Nat.le_of_eq g372.symm)
  have F372_table : Fld Z h372 b372 "com/example/ruleseer/ruleseer/gdl/Relation" "table" "[I" .null := D372 (Or.inl (W 15 rfl)) (ty := (.array .int)) (by decide)
  have F372_argumentIndexes : Fld Z h372 b372 "com/example/ruleseer/ruleseer/gdl/Relation" "argumentIndexes" "Ljava/util/List;" .null := D372 (Or.inr (W 41 rfl)) (ty := (.object "java/util/List")) (by decide)
  have F372_arity : Fld Z h372 b372 "com/example/ruleseer/ruleseer/gdl/Relation" "arity" "I" (.int (0 : Int32)) := D372 (Or.inr (W 43 rfl)) (ty := .int) (by decide)
  have F372_cells : Fld Z h372 b372 "com/example/ruleseer/ruleseer/gdl/Relation" "cells" "[I" .null := D372 (Or.inl (W 49 rfl)) (ty := (.array .int)) (by decide)
  have F372_indexes : Fld Z h372 b372 "com/example/ruleseer/ruleseer/gdl/Relation" "indexes" "Ljava/util/List;" .null := D372 (Or.inr (W 112 rfl)) (ty := (.object "java/util/List")) (by decide)
  have go374 : own_S p e below ST T372 (mkF m 25 #[iv fi, iv rs, iv fl, iv (1 : Int32), iv ro, .unset, .unset, .unset, .unset] [(.ref b372), (.ref b369), (.ref b369)]) := fun tt kt => go371 tt (st372 _ kt)
  have go375 : own_S p e below ST T372 (mkF m 27 #[iv fi, iv rs, iv fl, iv (1 : Int32), iv ro, .unset, .unset, .unset, .unset] [(.int (1 : Int32)), (.ref b372), (.ref b372), (.ref b369), (.ref b369)]) := fun tt kt => go374 tt (by
      refine XS.dup X372.here hx rfl (hb hby at_25) rfl rfl ?_
      refine XS.iconst X372.here hx rfl (hb hby at_26) ?_
      exact kt)
  have f376 := ((OL.ext E369).ext E372)
  have zs378 := (Nat.le_trans zs373 E372.1)
  obtain ⟨_, _, ⟨T377, L377, k377, n377⟩, -, X377, ⟨Lc377, hQ377, l377, y377, z377⟩, st377⟩ := X372.specialBack hx (y := (⟨"com/example/ruleseer/ruleseer/gdl/Relation", "<init>", "(I)V"⟩ : MethodName)) rfl hown (mvT hZ (W 7 rfl)) (mvT hZ (W 8 rfl)) (mvT hZ (W 9 rfl)) (by decide) (backOf (W := 3) (rm1 l Z a0 hw [] b372 ad mC mA mO h372 n0 zs378 F372_table F372_argumentIndexes F372_arity F372_cells F372_indexes A372 ge_b372 SD SA f376 MC MA MO) hZ (W 9 rfl) (W 6 rfl) (by decide) (by decide)) (g := (mkF m 27 #[iv fi, iv rs, iv fl, iv (1 : Int32), iv ro, .unset, .unset, .unset, .unset] [(.int (1 : Int32)), (.ref b372), (.ref b372), (.ref b369), (.ref b369)])) rfl (by rw [hml]; rfl) (Steps.refl _) (a := b372) (argsL := [(.int (1 : Int32))]) (rest := [(.ref b372), (.ref b369), (.ref b369)]) (lenOf pd174 rfl) rfl (by show 2 * 0 + _ ≤ _; exact Nat.le_of_eq rfl) (hb hby at_27) (fun _ _ => ⟨rfl, e372, (by decide : 2 + 7 ≤ _), (by decide : 9 + 31 ≤ _)⟩)
  dsimp only [Pt.U, Pt.locs, Pt.cells, Pt.slots] at X377 l377 y377 z377 st377 hQ377
  subst l377 y377 z377
  obtain ⟨rfl, Nq377, K377⟩ := hQ377
  have N377 := Fr.app N0 Nq377
  have go379 : own_S p e below ST T377 (mkF m 30 #[iv fi, iv rs, iv fl, iv (1 : Int32), iv ro, .unset, .unset, .unset, .unset] [(.ref b372), (.ref b369), (.ref b369)]) := fun tt kt => go375 tt (st377.trans kt)
  have go380 : own_S p e below ST T377 (mkF m 32 #[iv fi, iv rs, iv fl, iv (1 : Int32), iv ro, .unset, .unset, .unset, .unset] [(.int (1 : Int32)), (.int fi), (.ref b372), (.ref b369), (.ref b369)]) := fun tt kt => go379 tt (by
      refine XS.iloadN X377.here hx rfl (hb hby at_30) rfl ?_
      refine XS.iloadN X377.here hx rfl (hb hby at_31) rfl ?_
      exact kt)
  have f381 := ((F369_rows.ext E372).keep K377 (ninS neb369_b372 nin0))
  have f382 := ((F369_first.ext E372).keep K377 (ninS neb369_b372 nin0))
  have f383 := ((F369_settled.ext E372).keep K377 (ninS neb369_b372 nin0))
  have f384 := ((A369.ext E372).keep K377)
  have zs386 := (Nat.le_trans zs378 K377.1)
  obtain ⟨_, _, ⟨T385, L385, k385, n385⟩, -, X385, ⟨Lc385, hQ385, l385, y385, z385⟩, st385⟩ := X377.specialBack hx (y := (⟨"com/example/ruleseer/ruleseer/gdl/GroundNetwork$Atoms", "<init>", "(Lcom/example/ruleseer/ruleseer/gdl/Relation;IZ)V"⟩ : MethodName)) rfl hown (mvT hZ (W 113 rfl)) (mvT hZ (W 114 rfl)) (mvT hZ (W 115 rfl)) (by decide) (backOf (W := 1) (rm13 l Z a0 hw [] b369 b372 fi (1 : Int32) T377.heap n0 zs386 f381 f382 f383 f384 ge_b369) hZ (W 115 rfl) (W 3 rfl) (by decide) (by decide)) (g := (mkF m 32 #[iv fi, iv rs, iv fl, iv (1 : Int32), iv ro, .unset, .unset, .unset, .unset] [(.int (1 : Int32)), (.int fi), (.ref b372), (.ref b369), (.ref b369)])) rfl (by rw [hml]; rfl) (Steps.refl _) (a := b369) (argsL := [(.ref b372), (.int fi), (.int (1 : Int32))]) (rest := [(.ref b369)]) (lenOf pd175 rfl) rfl (by show 2 * 0 + _ ≤ _; exact Nat.le_of_eq rfl) (hb hby at_32) (fun _ _ => ⟨rfl, rfl, (by decide : 9 + 0 ≤ _), (by decide : 40 + 0 ≤ _)⟩)
  dsimp only [Pt.U, Pt.locs, Pt.cells, Pt.slots] at X385 l385 y385 z385 st385 hQ385
  subst l385 y385 z385
  obtain ⟨rfl, Nq385, K385, Fa385, Fb385⟩ := hQ385
  have N385 := Fr.app N377 Nq385
  have go387 : own_S p e below ST T385 (mkF m 35 #[iv fi, iv rs, iv fl, iv (1 : Int32), iv ro, .unset, .unset, .unset, .unset] [(.ref b369)]) := fun tt kt => go380 tt (st385.trans kt)
  have go388 : own_S p e below ST T385 (mkF m 40 #[iv fi, iv rs, iv fl, iv (1 : Int32), iv ro, rv b369, .unset, .unset, .unset] [(.int (0 : Int32)), (.ref b369)]) := fun tt kt => go387 tt (by
      refine XS.astore X385.here hx rfl (hb hby at_35) rfl rfl (l' := #[iv fi, iv rs, iv fl, iv (1 : Int32), iv ro, rv b369, .unset, .unset, .unset]) rfl ?_
      refine XS.aload X385.here hx rfl (hb hby at_37) rfl rfl ?_
      refine XS.iconst X385.here hx rfl (hb hby at_39) ?_
      exact kt)
  have zs390 := (Nat.le_trans zs386 K385.1)
  have f391 := (f384.keep K385)
  obtain ⟨cq389, kq389, q389a, q389b, q389c⟩ := isOf hZ rfl f391
  obtain ⟨_, _, ⟨T389, L389, k389, n389⟩, -, X389, ⟨Lc389, hQ389, l389, y389, z389⟩, st389⟩ := X385.virtualBack hx (y := (⟨"com/example/ruleseer/ruleseer/gdl/GroundNetwork$Atoms", "proposition", "(I)I"⟩ : MethodName)) (z := (⟨"com/example/ruleseer/ruleseer/gdl/GroundNetwork$Atoms", "proposition", "(I)I"⟩ : MethodName)) hown (mvT hZ (W 128 rfl)) (mvT hZ (W 129 rfl)) (notFace_of_selects (args := #[]) (mvT hZ (W 131 rfl))) (mvT hZ (W 131 rfl)) (mvT hZ (W 130 rfl)) (by decide) (backOf (W := 0) (rm15s1 l Z a0 hw [] b369 (0 : Int32) fi T385.heap n0 zs390 Fa385 Fb385) hZ (W 132 rfl) (W 3 rfl) (by decide) (by decide)) q389a q389c (g := (mkF m 40 #[iv fi, iv rs, iv fl, iv (1 : Int32), iv ro, rv b369, .unset, .unset, .unset] [(.int (0 : Int32)), (.ref b369)])) rfl (by rw [hml]; rfl) (Steps.refl _) (argsL := [(.int (0 : Int32))]) (rest := []) (lenOf pd176 rfl) rfl (by show 2 * 0 + _ ≤ _; exact Nat.le_of_eq rfl) (hb hby at_40) (fun _ _ => ⟨rfl, rfl, (by decide : 9 + 0 ≤ _), (by decide : 40 + 0 ≤ _)⟩)
  dsimp only [Pt.U, Pt.locs, Pt.cells, Pt.slots] at X389 l389 y389 z389 st389 hQ389
  subst l389 y389 z389
  obtain ⟨rfl, Nq389, eh389⟩ := hQ389
  have N389 := Fr.app N385 Nq389
  have go392 : own_S p e below ST T389 (mkF m 43 #[iv fi, iv rs, iv fl, iv (1 : Int32), iv ro, rv b369, .unset, .unset, .unset] [(.int (0 : Int32))]) := fun tt kt => go388 tt (st389.trans kt)
  have go393 : own_S p e below ST T389 (mkF m 49 #[iv fi, iv rs, iv fl, iv (1 : Int32), iv ro, rv b369, iv (0 : Int32), .unset, .unset] [(.int ro), (.ref b369)]) := fun tt kt => go392 tt (by
      refine XS.istore X389.here hx rfl (hb hby at_43) rfl (l' := #[iv fi, iv rs, iv fl, iv (1 : Int32), iv ro, rv b369, iv (0 : Int32), .unset, .unset]) rfl ?_
      refine XS.aload X389.here hx rfl (hb hby at_45) rfl rfl ?_
      refine XS.iload X389.here hx rfl (hb hby at_47) rfl ?_
      exact kt)
  obtain ⟨cq394, kq394, q394a, q394b, q394c⟩ := isOf hZ eh389 f391
  obtain ⟨_, _, ⟨T394, L394, k394, n394⟩, -, X394, ⟨Lc394, hQ394, l394, y394, z394⟩, st394⟩ := X389.virtualBack hx (y := (⟨"com/example/ruleseer/ruleseer/gdl/GroundNetwork$Atoms", "proposition", "(I)I"⟩ : MethodName)) (z := (⟨"com/example/ruleseer/ruleseer/gdl/GroundNetwork$Atoms", "proposition", "(I)I"⟩ : MethodName)) hown (mvT hZ (W 128 rfl)) (mvT hZ (W 129 rfl)) (notFace_of_selects (args := #[]) (mvT hZ (W 131 rfl))) (mvT hZ (W 131 rfl)) (mvT hZ (W 130 rfl)) (by decide) (backOf (W := 0) (rm15s1 l Z a0 hw [] b369 ro fi T385.heap n0 zs390 Fa385 Fb385) hZ (W 132 rfl) (W 3 rfl) (by decide) (by decide)) q394a q394c (g := (mkF m 49 #[iv fi, iv rs, iv fl, iv (1 : Int32), iv ro, rv b369, iv (0 : Int32), .unset, .unset] [(.int ro), (.ref b369)])) rfl (by rw [hml]; rfl) (Steps.refl _) (argsL := [(.int ro)]) (rest := []) (lenOf pd176 rfl) rfl (by show 2 * 0 + _ ≤ _; exact Nat.le_of_eq rfl) (hb hby at_49) (fun _ _ => ⟨rfl, eh389, (by decide : 9 + 0 ≤ _), (by decide : 40 + 0 ≤ _)⟩)
  dsimp only [Pt.U, Pt.locs, Pt.cells, Pt.slots] at X394 l394 y394 z394 st394 hQ394
  subst l394 y394 z394
  obtain ⟨rfl, Nq394, eh394⟩ := hQ394
  have N394 := Fr.app N389 Nq394
  have go395 : own_S p e below ST T394 (mkF m 52 #[iv fi, iv rs, iv fl, iv (1 : Int32), iv ro, rv b369, iv (0 : Int32), .unset, .unset] [(.int (0 : Int32))]) := fun tt kt => go393 tt (st394.trans kt)
  have go396 : own_S p e below ST T394 (mkF m 60 #[iv fi, iv rs, iv fl, iv (1 : Int32), iv ro, rv b369, iv (0 : Int32), iv (0 : Int32), .unset] [(.int (ro + (1 : Int32))), (.ref b369)]) := fun tt kt => go395 tt (by
      refine XS.istore X394.here hx rfl (hb hby at_52) rfl (l' := #[iv fi, iv rs, iv fl, iv (1 : Int32), iv ro, rv b369, iv (0 : Int32), iv (0 : Int32), .unset]) rfl ?_
      refine XS.aload X394.here hx rfl (hb hby at_54) rfl rfl ?_
      refine XS.iload X394.here hx rfl (hb hby at_56) rfl ?_
      refine XS.iconst X394.here hx rfl (hb hby at_58) ?_
      refine XS.iadd X394.here hx rfl (hb hby at_59) rfl ?_
      exact kt)
  obtain ⟨cq397, kq397, q397a, q397b, q397c⟩ := isOf hZ eh394 f391
  obtain ⟨_, _, ⟨T397, L397, k397, n397⟩, -, X397, ⟨Lc397, hQ397, l397, y397, z397⟩, st397⟩ := X394.virtualBack hx (y := (⟨"com/example/ruleseer/ruleseer/gdl/GroundNetwork$Atoms", "proposition", "(I)I"⟩ : MethodName)) (z := (⟨"com/example/ruleseer/ruleseer/gdl/GroundNetwork$Atoms", "proposition", "(I)I"⟩ : MethodName)) hown (mvT hZ (W 128 rfl)) (mvT hZ (W 129 rfl)) (notFace_of_selects (args := #[]) (mvT hZ (W 131 rfl))) (mvT hZ (W 131 rfl)) (mvT hZ (W 130 rfl)) (by decide) (backOf (W := 0) (rm15s1 l Z a0 hw [] b369 (ro + (1 : Int32)) fi T385.heap n0 zs390 Fa385 Fb385) hZ (W 132 rfl) (W 3 rfl) (by decide) (by decide)) q397a q397c (g := (mkF m 60 #[iv fi, iv rs, iv fl, iv (1 : Int32), iv ro, rv b369, iv (0 : Int32), iv (0 : Int32), .unset] [(.int (ro + (1 : Int32))), (.ref b369)])) rfl (by rw [hml]; rfl) (Steps.refl _) (argsL := [(.int (ro + (1 : Int32)))]) (rest := []) (lenOf pd176 rfl) rfl (by show 2 * 0 + _ ≤ _; exact Nat.le_of_eq rfl) (hb hby at_60) (fun _ _ => ⟨rfl, eh394, (by decide : 9 + 0 ≤ _), (by decide : 40 + 0 ≤ _)⟩)
  dsimp only [Pt.U, Pt.locs, Pt.cells, Pt.slots] at X397 l397 y397 z397 st397 hQ397
  subst l397 y397 z397
  obtain ⟨rfl, Nq397, eh397⟩ := hQ397
  have N397 := Fr.app N394 Nq397
  have go398 : own_S p e below ST T397 (mkF m 63 #[iv fi, iv rs, iv fl, iv (1 : Int32), iv ro, rv b369, iv (0 : Int32), iv (0 : Int32), .unset] [(.int (0 : Int32))]) := fun tt kt => go396 tt (st397.trans kt)
  have go399 : own_S p e below ST T397 (mkF m 89 #[iv fi, iv rs, iv fl, iv (1 : Int32), iv ro, rv b369, iv (0 : Int32), iv (0 : Int32), iv (0 : Int32)] [(.int (1 : Int32))]) := fun tt kt => go398 tt (by
      refine XS.istore X397.here hx rfl (hb hby at_63) rfl (l' := #[iv fi, iv rs, iv fl, iv (1 : Int32), iv ro, rv b369, iv (0 : Int32), iv (0 : Int32), iv (0 : Int32)]) rfl ?_
      refine XS.iloadN X397.here hx rfl (hb hby at_65) rfl ?_
      refine XS.ifNo X397.here hx rfl (hb hby at_66) rfl ((if0 _ _).trans (feq (by decide : ¬ ((1 : Int32) = (0 : Int32)))).1) ?_
      refine XS.iload X397.here hx rfl (hb hby at_69) rfl ?_
      refine XS.ifNo X397.here hx rfl (hb hby at_71) rfl ((if0 _ _).trans (teq (by decide : (0 : Int32) = (0 : Int32))).2) ?_
      refine XS.iload X397.here hx rfl (hb hby at_74) rfl ?_
      show Steps p.tables e below (T397.setTop (mkF m 76 #[iv fi, iv rs, iv fl, iv (1 : Int32), iv ro, rv b369, iv (0 : Int32), iv (0 : Int32), iv (0 : Int32)] [(.int (0 : Int32))])) _
      refine XS.ifNo X397.here hx rfl (hb hby at_76) rfl ((if0 _ _).trans (teq (by decide : (0 : Int32) = (0 : Int32))).2) ?_
      refine XS.iload X397.here hx rfl (hb hby at_79) rfl ?_
      refine XS.ifNo X397.here hx rfl (hb hby at_81) rfl ((if0 _ _).trans (teq (by decide : (0 : Int32) = (0 : Int32))).2) ?_
      refine XS.iconst X397.here hx rfl (hb hby at_84) ?_
      refine XS.goto X397.here hx rfl (pc0 := 85) (pc' := 89) rfl (hb hby at_85) (by decide) (by decide) ?_
      exact kt)
  obtain ⟨fs, hr, hrun, hended, hW, hsame⟩ := X397.leave (v := some (.int (1 : Int32))) (fun h => by rw [Bd.returns] at h; cases h)
  refine ⟨_, _, pre0 _ (go399 _ ?_), hrun, hended, _, _, rfl, ?_, ⟨_, rfl⟩, hW, hsame.mono (by decide) (by decide)⟩
  · exact retN X397 hx (t := .boolean) Bd.returns (by simp) (hb hby at_89) hr
  · show Q0s1 Z fi rs fl ad mC mA mO h0 n0 _ T397.heap _
    rw [eh397]
    exact ⟨rfl, N397⟩
theorem rm0 (l : Launch) (Z : State) (a0 : Array Value) (hw : ∀ d ∈ tables_1, d.before a0 Z = true) (ws : List Jvm.Cond) (fi : Int32) (rs : Int32) (fl : Int32) (ad : Addr) (mC : Addr) (mA : Addr) (mO : Addr) (h0 : Heap) (n0 : Nat) (Z0 : n0 ≤ h0.size) (SD : Sta Z Z.heap "java/util/ArrayList" "DEFAULTCAPACITY_EMPTY_ELEMENTDATA" "[Ljava/lang/Object;" (.ref ad)) (SA : Sta Z Z.heap "java/util/Collections$CopiesList" "$assertionsDisabled" "Z" (.int (1 : Int32))) (OL : Old Z n0 h0) (MC : own_Mir Z "java/util/Collections$CopiesList" mC) (MA : own_Mir Z "java/util/ArrayList" mA) (MO : own_Mir Z "[Ljava/lang/Object;" mO) :
    MetFree l x (head1 (Jvm.Cond.code x code maxLocals ret :: ws) room_1) (fun aa UU => aa = #[(.int fi), (.int rs), (.int fl)] ∧ Z.Warmed39 UU.vm ∧ UU.heap = h0) (fun _ _ _ _ _ => True) (fun _ UU oo UU' => ∃ vv LL, oo = .returned vv ∧ Q0s0 Z fi rs fl ad mC mA mO h0 n0 vv UU'.heap LL ∧ FrameEnd UU oo UU' LL room_1.cells room_1.slots) := by
  by_cases q1 : fl &&& (1 : Int32) = (0 : Int32)
  · exact rm0s0 l Z a0 hw ws fi rs fl ad mC mA mO h0 n0 Z0 SD SA OL MC MA MO q1
  · exact rm0s1 l Z a0 hw ws fi rs fl ad mC mA mO h0 n0 Z0 SD SA OL MC MA MO q1
set_option maxRecDepth 65536 in
set_option maxHeartbeats 40000000 in
theorem comes_1 {Post : Tables → Env → Array Value → State → Outcome → State → Prop} (hpost : ∀ tb e args s v u, (limb_1_1.after args s (.returned v) u = true ∧ limb_1_2.after args s (.returned v) u = true ∧ True) → FrameEnd s (.returned v) u (Jvm.fieldLocs frame_1_writes args s ++ Jvm.arrayLocs frame_1_arrays args s ++ Jvm.staticLocs frame_1_statics s) 32 192 → Post tb e args s (.returned v) u) :
    ArmFor flags0 classFile x code maxLocals ret World_1 tables_1 room_1 Calls_1 rest_1 Pre_1 Post := by
  intro l hfl _ _ p e ha hc hk s m args below hf hA hF happ hP
  obtain ⟨hcalls, hrest, hpre⟩ := hP
  obtain ⟨-, -, -, hnamed, -, -, -, hat⟩ := (Spec.applies_iff hf).mp happ
  obtain ⟨hg, hn⟩ := and_e (Cond.before_iff.mp (show (Jvm.Cond.and given_1 narrow_1).before args s = true from hpre))
  obtain ⟨gg1, gg2⟩ := and_e hg
  obtain ⟨gg3, gg4⟩ := and_e gg2
  obtain ⟨gg5, gg6⟩ := and_e gg4
  obtain ⟨w0, w1, w2, rfl⟩ : ∃ w0 w1 w2 : Value, args = #[w0, w1, w2] := by
    have hs : args.size = 3 := by simpa [Cond.value, given_1] using gg1
    obtain ⟨L⟩ := args
    match L, hs with
    | [w0, w1, w2], _ => exact ⟨w0, w1, w2, rfl⟩
  have hw := fun d (hd : d ∈ tables_1) => atoms_spec (ws := Jvm.Cond.code x code maxLocals ret :: tables_1) hat d (List.mem_cons_of_mem _ hd)
  have W : ∀ {d : Jvm.Cond} (i : Nat), tables_1[i]? = some d → d.before _ s = true := fun i h => hw _ (List.mem_of_getElem? h)
  have hfit : Fit s := fun {y c} hc i hi => by
    obtain ⟨ha, rfl⟩ := Array.getElem?_eq_some_iff.mp hc
    have q := List.all_eq_true.mp ((Array.all_eq_true_iff_forall_mem.mp hF) _ (Array.getElem_mem ha)) i (List.mem_range.mpr hi)
    simpa [Array.getElem?_eq_getElem hi] using q
  obtain ⟨hsets, hown0⟩ := atoms_of _ (rest_1_c_eq ▸ (show rest_1_c.before _ s = true from hrest))
  obtain ⟨i0, ei0⟩ := is_v gg3
  obtain rfl : w0 = (.int i0) := Option.some.inj ei0
  obtain ⟨i1, ei1⟩ := is_v gg5
  obtain rfl : w1 = (.int i1) := Option.some.inj ei1
  obtain ⟨i2, ei2⟩ := is_v gg6
  obtain rfl : w2 = (.int i2) := Option.some.inj ei2
  obtain ⟨ad, ev_ad⟩ := arr_v (Cond.before_iff.mp (hsets _ (List.mem_of_getElem? (i := 6) rfl)))
  have SD := Sta.start ev_ad (Or.inr ⟨(W 18 rfl), (hsets _ (List.mem_of_getElem? (i := 2) rfl))⟩)
  have SA := Sta.start (own_eqI (Cond.before_iff.mp (hsets _ (List.mem_of_getElem? (i := 11) rfl)))) (Or.inl (hsets _ (List.mem_of_getElem? (i := 10) rfl)))
  have OL := Old.start s
  obtain ⟨⟨c1, k1, mC, z1, z2, z3, -⟩, ⟨c2, k2, mA, z4, z5, z6, -⟩, ⟨c3, k3, mO, z7, z8, z9, -⟩, -⟩ := hcalls
  have MC : own_Mir s "java/util/Collections$CopiesList" mC := ⟨c1, k1, z1, z2, z3⟩
  have MA : own_Mir s "java/util/ArrayList" mA := ⟨c2, k2, z4, z5, z6⟩
  have MO : own_Mir s "[Ljava/lang/Object;" mO := ⟨c3, k3, z7, z8, z9⟩
  obtain ⟨n, o, h1, h2, h3, _, L, rfl, ⟨rfl, N⟩, hq⟩ := rm0 l s _ hw tables_1 i0 i1 i2 ad mC mA mO s.heap s.heap.size (Nat.le_refl _) SD SA OL MC MA MO p e ha hc hk s m _ below hf ((Spec.applies_iff_loose hf).mp happ).1 ⟨rfl, State.Warmed39.refl s, rfl⟩ trivial
  refine ⟨n, _, h1, h2, h3, hpost _ _ _ _ _ _ ⟨Cond.after_iff.mpr rfl, Cond.after_iff.mpr (eq_i res_at (Term.int_eval (1)) rfl), trivial⟩ ⟨hq.1, hq.2.1, (hq.2.2.sift fun y hy => Or.inr (N y hy)).mono (by decide) (by decide)⟩⟩
theorem main_1_1 : Claimed_1_1 := comes_1 fun _ _ _ _ _ _ h hF => ⟨h.1, hF⟩
theorem main_1_2 : Claimed_1_2 := comes_1 fun _ _ _ _ _ _ h hF => ⟨h.2.1, hF⟩
end Jvm.Pilot.@@N@@
namespace Jvm.Pilot.@@N@@
open Jvm Jvm.ClassFile Sem Op Lib Jvm.Free Jvm.Stand Jvm.Pilot.@@N@@.Jvm.D
/-! MADE BY PROGRAM (witnessworld.py) out of the Statement's table words and the real class files: 26 classes; the members and pool entries that the words name. The judged class is class 1, her method 1. -/
namespace start1
open Jvm.ClassFile
def u (s : String) : CpInfo := .utf8 (stringToUtf16 s)
/-- a pool by its gaps: so many unusable entries, then the entry; so many at the end -/
def gap : Nat → List CpInfo → List CpInfo
  | 0, r => r
  | n + 1, r => .unusable :: gap n r
def poolList (es : List (Nat × CpInfo)) (last : Nat) : List CpInfo := es.foldr (fun e r => gap e.1 (e.2 :: r)) (gap last [])
def pool (es : List (Nat × CpInfo)) (last : Nat) : Array CpInfo := ⟨poolList es last⟩
def fileOf (pool : Array CpInfo) (this : Nat) (attrs : Array Attribute := #[]) (ms : Array MethodInfo := #[]) (fl : Nat := 33) (sup : Nat := 0) (ifs : Array Nat := #[]) (fds : Array FieldInfo := #[]) : ClassFile where
  minorVersion := 0
  majorVersion := 65
  constantPool := pool
  accessFlags := fl
  thisClass := this
  superClass := sup
  interfaces := ifs
  fields := fds
  methods := ms
  attributes := attrs
def plain (name : String) (sup : Option ClassId) : Class where
  name := name
  kind := .ordinary
  loader := none
  accessFlags := 33
  super := sup
  interfaces := #[]
  cf := none
  fields := #[]
  methods := #[]
  instanceTypes := #[]
  staticTypes := #[]
  resolved := #[]
  callSites := []
  init := .initialized
  statics := none
  mirror := none

def pool0 : Array CpInfo := pool [(5, u "<init>"), (0, u "()V"), (1, .class_ 10), (1, u "java/lang/Object"), (0, u "getClass"), (0, u "()Ljava/lang/Class;")] 111

def k0c0 : Code := { maxStack := 0, maxLocals := 1, code := object_method_1_code, exceptionTable := #[], attributes := #[] }
def k0m0 : Method := { name := "<init>", desc := "()V", sig := { parameters := [], returnType := none }, accessFlags := 1, code := some k0c0 }
def k0m1 : Method := { name := "getClass", desc := "()Ljava/lang/Class;", sig := { parameters := [], returnType := some (.object "java/lang/Class") }, accessFlags := 273, code := none }
/-- java/lang/Object -/
def k0 : Class := { plain "java/lang/Object" none with
  accessFlags := 33
  interfaces := #[]
  cf := some (fileOf pool0 8 #[] #[{ accessFlags := 1, nameIndex := 5, descriptorIndex := 6, attributes := #[] }, { accessFlags := 273, nameIndex := 11, descriptorIndex := 12, attributes := #[] }] 33 0 #[] #[])
  fields := #[]
  methods := #[k0m0, k0m1]
  instanceTypes := #[]
  staticTypes := #[]
  resolved := Array.replicate 124 none
  statics := none }

def pool1 : Array CpInfo := pool [(2, .class_ 4), (1, u "java/lang/Object"), (0, u "<init>"), (0, u "()V"), (0, .integer 2147483647), (0, .class_ 9), (0, u "com/example/ruleseer/ruleseer/gdl/GroundNetwork$Atoms"), (0, .class_ 11), (0, u "com/example/ruleseer/ruleseer/gdl/Relation"), (0, .methodref 10 13), (0, .nameAndType 5 14), (0, u "(I)V"), (0, .methodref 8 16), (0, .nameAndType 5 17), (0, u "(Lcom/example/ruleseer/ruleseer/gdl/Relation;IZ)V"), (0, .methodref 8 19), (0, .nameAndType 20 21), (0, u "proposition"), (0, u "(I)I"), (0, .class_ 23), (0, u "com/example/ruleseer/ruleseer/gdl/AtomsPropositionPinLaw"), (2, u "law"), (0, u "(III)Z")] 7

def k1m0 : Method := { name := "<init>", desc := "()V", sig := { parameters := [], returnType := none }, accessFlags := 1, code := none }
def k1c1 : Code := { maxStack := 5, maxLocals := 9, code := code, exceptionTable := #[], attributes := #[] }
def k1m1 : Method := { name := "law", desc := "(III)Z", sig := { parameters := [.int, .int, .int], returnType := some .boolean }, accessFlags := 9, code := some k1c1 }
/-- com/example/ruleseer/ruleseer/gdl/AtomsPropositionPinLaw -/
def k1 : Class := { plain "com/example/ruleseer/ruleseer/gdl/AtomsPropositionPinLaw" (some 0) with
  accessFlags := 49
  interfaces := #[]
  cf := some (fileOf pool1 22 #[] #[{ accessFlags := 1, nameIndex := 5, descriptorIndex := 6, attributes := #[] }, { accessFlags := 9, nameIndex := 26, descriptorIndex := 27, attributes := #[] }] 49 2 #[] #[])
  fields := #[]
  methods := #[k1m0, k1m1]
  instanceTypes := #[]
  staticTypes := #[]
  resolved := Array.replicate 35 none
  statics := none }

def pool2 : Array CpInfo := pool [(1, .methodref 2 3), (0, .class_ 4), (0, .nameAndType 5 6), (0, u "java/lang/Object"), (0, u "<init>"), (0, u "()V"), (0, .class_ 8), (0, u "java/lang/Record")] 13

def k2c0 : Code := { maxStack := 1, maxLocals := 1, code := jdk_30_method_1_code, exceptionTable := #[], attributes := #[] }
def k2m0 : Method := { name := "<init>", desc := "()V", sig := { parameters := [], returnType := none }, accessFlags := 4, code := some k2c0 }
/-- java/lang/Record -/
def k2 : Class := { plain "java/lang/Record" (some 0) with
  accessFlags := 1057
  interfaces := #[]
  cf := some (fileOf pool2 7 #[] #[{ accessFlags := 4, nameIndex := 5, descriptorIndex := 6, attributes := #[] }] 1057 2 #[] #[])
  fields := #[]
  methods := #[k2m0]
  instanceTypes := #[]
  staticTypes := #[]
  resolved := Array.replicate 22 none
  statics := none }

def pool3 : Array CpInfo := pool [(1, .class_ 2), (0, u "com/example/ruleseer/ruleseer/gdl/GroundNetwork"), (0, .methodref 4 5), (0, .class_ 6), (0, .nameAndType 7 8), (0, u "java/lang/Record"), (0, u "<init>"), (0, u "()V"), (0, .fieldref 10 11), (0, .class_ 12), (0, .nameAndType 13 14), (0, u "com/example/ruleseer/ruleseer/gdl/GroundNetwork$Atoms"), (0, u "rows"), (0, u "Lcom/example/ruleseer/ruleseer/gdl/Relation;"), (0, .fieldref 10 16), (0, .nameAndType 17 18), (0, u "first"), (0, u "I"), (0, .fieldref 10 20), (0, .nameAndType 21 22), (0, u "settled"), (0, u "Z"), (12, u "(Lcom/example/ruleseer/ruleseer/gdl/Relation;IZ)V"), (3, u "proposition"), (0, u "(I)I")] 30

def k3c0 : Code := { maxStack := 2, maxLocals := 4, code := prog_60_method_1_code, exceptionTable := #[], attributes := #[] }
def k3m0 : Method := { name := "<init>", desc := "(Lcom/example/ruleseer/ruleseer/gdl/Relation;IZ)V", sig := { parameters := [(.object "com/example/ruleseer/ruleseer/gdl/Relation"), .int, .boolean], returnType := none }, accessFlags := 0, code := some k3c0 }
def k3c1 : Code := { maxStack := 2, maxLocals := 2, code := prog_60_method_2_code, exceptionTable := #[], attributes := #[] }
def k3m1 : Method := { name := "proposition", desc := "(I)I", sig := { parameters := [.int], returnType := some .int }, accessFlags := 0, code := some k3c1 }
/-- com/example/ruleseer/ruleseer/gdl/GroundNetwork$Atoms -/
def k3 : Class := { plain "com/example/ruleseer/ruleseer/gdl/GroundNetwork$Atoms" (some 2) with
  accessFlags := 48
  interfaces := #[]
  cf := some (fileOf pool3 10 #[.nestHost 1] #[{ accessFlags := 0, nameIndex := 7, descriptorIndex := 35, attributes := #[] }, { accessFlags := 0, nameIndex := 39, descriptorIndex := 40, attributes := #[] }] 48 4 #[] #[{ accessFlags := 18, nameIndex := 13, descriptorIndex := 14, attributes := #[] }, { accessFlags := 18, nameIndex := 17, descriptorIndex := 18, attributes := #[] }, { accessFlags := 18, nameIndex := 21, descriptorIndex := 22, attributes := #[] }])
  fields := #[{ name := "rows", type := (.object "com/example/ruleseer/ruleseer/gdl/Relation"), accessFlags := 18, slot := 0, constantValue := 0 }, { name := "first", type := .int, accessFlags := 18, slot := 1, constantValue := 0 }, { name := "settled", type := .boolean, accessFlags := 18, slot := 2, constantValue := 0 }]
  methods := #[k3m0, k3m1]
  instanceTypes := #[(.object "com/example/ruleseer/ruleseer/gdl/Relation"), .int, .boolean]
  staticTypes := #[]
  resolved := Array.replicate 71 none
  statics := none }

def pool4 : Array CpInfo := pool [(1, .methodref 2 3), (0, .class_ 4), (0, .nameAndType 5 6), (0, u "java/lang/Object"), (0, u "<init>"), (0, u "()V"), (0, .fieldref 8 9), (0, .class_ 10), (0, .nameAndType 11 12), (0, u "com/example/ruleseer/ruleseer/gdl/Relation"), (0, u "table"), (0, u "[I"), (0, .class_ 14), (0, u "java/util/ArrayList"), (0, .methodref 13 3), (0, .fieldref 8 17), (0, .nameAndType 18 19), (0, u "argumentIndexes"), (0, u "Ljava/util/List;"), (0, .fieldref 8 21), (0, .nameAndType 22 23), (0, u "arity"), (0, u "I"), (0, .methodref 25 26), (0, .class_ 27), (0, .nameAndType 28 29), (0, u "java/lang/Math"), (0, u "max"), (0, u "(II)I"), (0, .fieldref 8 31), (0, .nameAndType 32 12), (0, u "cells"), (0, .methodref 34 35), (0, .class_ 36), (0, .nameAndType 37 38), (0, u "java/util/Collections"), (0, u "nCopies"), (0, u "(ILjava/lang/Object;)Ljava/util/List;"), (0, .methodref 13 40), (0, .nameAndType 5 41), (0, u "(Ljava/util/Collection;)V"), (0, .fieldref 8 43), (0, .nameAndType 44 19), (0, u "indexes"), (2, u "(I)V"), (7, u "size"), (49, .class_ 106), (0, u "com/example/ruleseer/ruleseer/gdl/Relation$Rows"), (9, u "NO_ROWS"), (0, u "Lcom/example/ruleseer/ruleseer/gdl/Relation$Rows;"), (7, .class_ 126), (0, u "com/example/ruleseer/ruleseer/gdl/Relation$ArgumentIndex")] 93

def k4c0 : Code := { maxStack := 5, maxLocals := 2, code := prog_88_method_1_code, exceptionTable := #[], attributes := #[] }
def k4m0 : Method := { name := "<init>", desc := "(I)V", sig := { parameters := [.int], returnType := none }, accessFlags := 0, code := some k4c0 }
/-- com/example/ruleseer/ruleseer/gdl/Relation -/
def k4 : Class := { plain "com/example/ruleseer/ruleseer/gdl/Relation" (some 0) with
  accessFlags := 48
  interfaces := #[]
  cf := some (fileOf pool4 8 #[.nestMembers #[105, 125]] #[{ accessFlags := 0, nameIndex := 5, descriptorIndex := 47, attributes := #[] }] 48 2 #[] #[{ accessFlags := 26, nameIndex := 116, descriptorIndex := 117, attributes := #[] }, { accessFlags := 18, nameIndex := 22, descriptorIndex := 23, attributes := #[] }, { accessFlags := 2, nameIndex := 32, descriptorIndex := 12, attributes := #[] }, { accessFlags := 2, nameIndex := 55, descriptorIndex := 23, attributes := #[] }, { accessFlags := 2, nameIndex := 11, descriptorIndex := 12, attributes := #[] }, { accessFlags := 18, nameIndex := 44, descriptorIndex := 19, attributes := #[] }, { accessFlags := 18, nameIndex := 18, descriptorIndex := 19, attributes := #[] }])
  fields := #[{ name := "NO_ROWS", type := (.object "com/example/ruleseer/ruleseer/gdl/Relation$Rows"), accessFlags := 26, slot := 0, constantValue := 0 }, { name := "arity", type := .int, accessFlags := 18, slot := 0, constantValue := 0 }, { name := "cells", type := (.array .int), accessFlags := 2, slot := 1, constantValue := 0 }, { name := "size", type := .int, accessFlags := 2, slot := 2, constantValue := 0 }, { name := "table", type := (.array .int), accessFlags := 2, slot := 3, constantValue := 0 }, { name := "indexes", type := (.object "java/util/List"), accessFlags := 18, slot := 4, constantValue := 0 }, { name := "argumentIndexes", type := (.object "java/util/List"), accessFlags := 18, slot := 5, constantValue := 0 }]
  methods := #[k4m0]
  instanceTypes := #[.int, (.array .int), .int, (.array .int), (.object "java/util/List"), (.object "java/util/List")]
  staticTypes := #[(.object "com/example/ruleseer/ruleseer/gdl/Relation$Rows")]
  resolved := Array.replicate 220 none
  statics := none }

def pool5 : Array CpInfo := pool [(8, .class_ 10), (1, u "java/lang/Iterable"), (24, .class_ 36), (0, u "java/lang/Object")] 25

/-- java/lang/Iterable -/
def k5 : Class := { plain "java/lang/Iterable" (some 0) with
  accessFlags := 1537
  interfaces := #[]
  cf := some (fileOf pool5 8 #[] #[] 1537 35 #[] #[])
  fields := #[]
  methods := #[]
  instanceTypes := #[]
  staticTypes := #[]
  resolved := Array.replicate 62 none
  statics := none }

def pool6 : Array CpInfo := pool [(10, .class_ 12), (1, u "java/util/Collection"), (0, u "toArray"), (46, .class_ 61), (0, u "java/lang/Object"), (0, .class_ 63), (0, u "java/lang/Iterable"), (6, u "()[Ljava/lang/Object;")] 44

def k6m0 : Method := { name := "toArray", desc := "()[Ljava/lang/Object;", sig := { parameters := [], returnType := some (.array (.object "java/lang/Object")) }, accessFlags := 1025, code := none }
/-- java/util/Collection -/
def k6 : Class := { plain "java/util/Collection" (some 0) with
  accessFlags := 1537
  interfaces := #[5]
  cf := some (fileOf pool6 10 #[] #[{ accessFlags := 1025, nameIndex := 13, descriptorIndex := 70, attributes := #[] }] 1537 60 #[62] #[])
  fields := #[]
  methods := #[k6m0]
  instanceTypes := #[]
  staticTypes := #[]
  resolved := Array.replicate 115 none
  statics := none }

def pool7 : Array CpInfo := pool [(1, .methodref 2 3), (0, .class_ 4), (0, .nameAndType 5 6), (0, u "java/lang/Object"), (0, u "<init>"), (0, u "()V"), (1, .class_ 10), (1, u "java/util/AbstractCollection"), (66, .class_ 78), (0, u "java/util/Collection")] 81

def k7c0 : Code := { maxStack := 1, maxLocals := 1, code := jdk_22_method_1_code, exceptionTable := #[], attributes := #[] }
def k7m0 : Method := { name := "<init>", desc := "()V", sig := { parameters := [], returnType := none }, accessFlags := 4, code := some k7c0 }
/-- java/util/AbstractCollection -/
def k7 : Class := { plain "java/util/AbstractCollection" (some 0) with
  accessFlags := 1057
  interfaces := #[6]
  cf := some (fileOf pool7 8 #[] #[{ accessFlags := 4, nameIndex := 5, descriptorIndex := 6, attributes := #[] }] 1057 2 #[77] #[])
  fields := #[]
  methods := #[k7m0]
  instanceTypes := #[]
  staticTypes := #[]
  resolved := Array.replicate 160 none
  statics := none }

def pool8 : Array CpInfo := pool [(8, .class_ 10), (1, u "java/util/SequencedCollection"), (15, .class_ 27), (0, u "java/lang/Object"), (0, .class_ 29), (0, u "java/util/Collection")] 27

/-- java/util/SequencedCollection -/
def k8 : Class := { plain "java/util/SequencedCollection" (some 0) with
  accessFlags := 1537
  interfaces := #[6]
  cf := some (fileOf pool8 8 #[] #[] 1537 26 #[28] #[])
  fields := #[]
  methods := #[]
  instanceTypes := #[]
  staticTypes := #[]
  resolved := Array.replicate 57 none
  statics := none }

def pool9 : Array CpInfo := pool [(8, .class_ 10), (1, u "java/util/List"), (92, .class_ 104), (0, u "java/lang/Object"), (15, .class_ 121), (0, u "java/util/SequencedCollection")] 129

/-- java/util/List -/
def k9 : Class := { plain "java/util/List" (some 0) with
  accessFlags := 1537
  interfaces := #[8]
  cf := some (fileOf pool9 8 #[] #[] 1537 103 #[120] #[])
  fields := #[]
  methods := #[]
  instanceTypes := #[]
  staticTypes := #[]
  resolved := Array.replicate 251 none
  statics := none }

def pool10 : Array CpInfo := pool [(1, .methodref 2 3), (0, .class_ 4), (0, .nameAndType 5 6), (0, u "java/util/AbstractCollection"), (0, u "<init>"), (0, u "()V"), (0, .fieldref 8 9), (0, .class_ 10), (0, .nameAndType 11 12), (0, u "java/util/AbstractList"), (0, u "modCount"), (0, u "I"), (64, .class_ 78), (0, u "java/util/AbstractList$Itr"), (3, .class_ 83), (0, u "java/util/AbstractList$ListItr"), (9, .class_ 94), (0, u "java/util/AbstractList$RandomAccessSubList"), (3, .class_ 99), (0, u "java/util/AbstractList$SubList"), (33, .class_ 134), (0, u "java/util/List"), (73, .class_ 209), (0, u "java/util/AbstractList$SubList$1"), (0, .class_ 211), (0, u "java/util/AbstractList$RandomAccessSpliterator")] 6

def k10c0 : Code := { maxStack := 2, maxLocals := 1, code := jdk_39_method_1_code, exceptionTable := #[], attributes := #[] }
def k10m0 : Method := { name := "<init>", desc := "()V", sig := { parameters := [], returnType := none }, accessFlags := 4, code := some k10c0 }
/-- java/util/AbstractList -/
def k10 : Class := { plain "java/util/AbstractList" (some 7) with
  accessFlags := 1057
  interfaces := #[9]
  cf := some (fileOf pool10 8 #[.nestMembers #[93, 98, 208, 210, 82, 77]] #[{ accessFlags := 4, nameIndex := 5, descriptorIndex := 6, attributes := #[] }] 1057 2 #[133] #[{ accessFlags := 132, nameIndex := 11, descriptorIndex := 12, attributes := #[] }])
  fields := #[{ name := "modCount", type := .int, accessFlags := 132, slot := 0, constantValue := 0 }]
  methods := #[k10m0]
  instanceTypes := #[.int]
  staticTypes := #[]
  resolved := Array.replicate 218 none
  statics := none }

def pool11 : Array CpInfo := pool [(1, .class_ 2), (0, u "java/util/RandomAccess"), (0, .class_ 4), (0, u "java/lang/Object")] 2

/-- java/util/RandomAccess -/
def k11 : Class := { plain "java/util/RandomAccess" (some 0) with
  accessFlags := 1537
  interfaces := #[]
  cf := some (fileOf pool11 1 #[] #[] 1537 3 #[] #[])
  fields := #[]
  methods := #[]
  instanceTypes := #[]
  staticTypes := #[]
  resolved := Array.replicate 7 none
  statics := none }

def pool12 : Array CpInfo := pool [(1, .class_ 2), (0, u "java/lang/Cloneable"), (0, .class_ 4), (0, u "java/lang/Object")] 2

/-- java/lang/Cloneable -/
def k12 : Class := { plain "java/lang/Cloneable" (some 0) with
  accessFlags := 1537
  interfaces := #[]
  cf := some (fileOf pool12 1 #[] #[] 1537 3 #[] #[])
  fields := #[]
  methods := #[]
  instanceTypes := #[]
  staticTypes := #[]
  resolved := Array.replicate 7 none
  statics := none }

def pool13 : Array CpInfo := pool [(1, .class_ 2), (0, u "java/io/Serializable"), (0, .class_ 4), (0, u "java/lang/Object")] 2

/-- java/io/Serializable -/
def k13 : Class := { plain "java/io/Serializable" (some 0) with
  accessFlags := 1537
  interfaces := #[]
  cf := some (fileOf pool13 1 #[] #[] 1537 3 #[] #[])
  fields := #[]
  methods := #[]
  instanceTypes := #[]
  staticTypes := #[]
  resolved := Array.replicate 7 none
  statics := none }

def pool14 : Array CpInfo := pool [(1, .methodref 2 3), (0, .class_ 4), (0, .nameAndType 5 6), (0, u "java/util/AbstractList"), (0, u "<init>"), (0, u "()V"), (2, .fieldref 10 11), (0, .class_ 12), (0, .nameAndType 13 14), (0, u "java/util/ArrayList"), (0, u "elementData"), (0, u "[Ljava/lang/Object;"), (2, u "EMPTY_ELEMENTDATA"), (21, .fieldref 10 40), (0, .nameAndType 41 14), (0, u "DEFAULTCAPACITY_EMPTY_ELEMENTDATA"), (0, .interfaceMethodref 43 44), (0, .class_ 45), (0, .nameAndType 46 47), (0, u "java/util/Collection"), (0, u "toArray"), (0, u "()[Ljava/lang/Object;"), (0, .fieldref 10 49), (0, .nameAndType 50 51), (0, u "size"), (0, u "I"), (0, .interfaceMethodref 43 53), (0, .nameAndType 54 55), (0, u "getClass"), (0, u "()Ljava/lang/Class;"), (0, .class_ 14), (0, .methodref 58 59), (0, .class_ 60), (0, .nameAndType 61 62), (0, u "java/util/Arrays"), (0, u "copyOf"), (0, u "([Ljava/lang/Object;ILjava/lang/Class;)[Ljava/lang/Object;"), (85, .class_ 149), (0, u "java/util/List"), (112, .class_ 263), (0, u "java/util/ArrayList$ListItr"), (3, .class_ 268), (0, u "java/util/ArrayList$Itr"), (7, .class_ 277), (0, u "java/util/ArrayList$SubList"), (12, .class_ 291), (0, u "java/util/ArrayList$ArrayListSpliterator"), (37, .class_ 330), (0, u "java/util/RandomAccess"), (0, .class_ 332), (0, u "java/lang/Cloneable"), (0, .class_ 334), (0, u "java/io/Serializable"), (0, u "serialVersionUID"), (0, u "J"), (3, u "DEFAULT_CAPACITY"), (10, u "(Ljava/util/Collection;)V"), (148, .class_ 501), (0, u "java/util/ArrayList$SubList$2"), (0, .class_ 503), (0, u "java/util/ArrayList$SubList$1")] 5

def k14c0 : Code := { maxStack := 2, maxLocals := 1, code := jdk_38_method_2_code, exceptionTable := #[], attributes := #[] }
def k14m0 : Method := { name := "<init>", desc := "()V", sig := { parameters := [], returnType := none }, accessFlags := 1, code := some k14c0 }
def k14c1 : Code := { maxStack := 4, maxLocals := 3, code := jdk_38_method_3_code, exceptionTable := #[], attributes := #[] }
def k14m1 : Method := { name := "<init>", desc := "(Ljava/util/Collection;)V", sig := { parameters := [(.object "java/util/Collection")], returnType := none }, accessFlags := 1, code := some k14c1 }
/-- java/util/ArrayList -/
def k14 : Class := { plain "java/util/ArrayList" (some 10) with
  accessFlags := 33
  interfaces := #[9, 11, 12, 13]
  cf := some (fileOf pool14 10 #[.nestMembers #[290, 276, 500, 502, 262, 267]] #[{ accessFlags := 1, nameIndex := 5, descriptorIndex := 6, attributes := #[] }, { accessFlags := 1, nameIndex := 5, descriptorIndex := 351, attributes := #[] }] 33 2 #[148, 329, 331, 333] #[{ accessFlags := 26, nameIndex := 335, descriptorIndex := 336, attributes := #[] }, { accessFlags := 26, nameIndex := 340, descriptorIndex := 51, attributes := #[] }, { accessFlags := 26, nameIndex := 17, descriptorIndex := 14, attributes := #[] }, { accessFlags := 26, nameIndex := 41, descriptorIndex := 14, attributes := #[] }, { accessFlags := 128, nameIndex := 13, descriptorIndex := 14, attributes := #[] }, { accessFlags := 2, nameIndex := 50, descriptorIndex := 51, attributes := #[] }])
  fields := #[{ name := "serialVersionUID", type := .long, accessFlags := 26, slot := 0, constantValue := 0 }, { name := "DEFAULT_CAPACITY", type := .int, accessFlags := 26, slot := 1, constantValue := 0 }, { name := "EMPTY_ELEMENTDATA", type := (.array (.object "java/lang/Object")), accessFlags := 26, slot := 2, constantValue := 0 }, { name := "DEFAULTCAPACITY_EMPTY_ELEMENTDATA", type := (.array (.object "java/lang/Object")), accessFlags := 26, slot := 3, constantValue := 0 }, { name := "elementData", type := (.array (.object "java/lang/Object")), accessFlags := 128, slot := 1, constantValue := 0 }, { name := "size", type := .int, accessFlags := 2, slot := 2, constantValue := 0 }]
  methods := #[k14m0, k14m1]
  instanceTypes := #[.int, (.array (.object "java/lang/Object")), .int]
  staticTypes := #[.long, .int, (.array (.object "java/lang/Object")), (.array (.object "java/lang/Object"))]
  resolved := Array.replicate 509 none
  mirror := some 3
  statics := some 0 }

def pool15 : Array CpInfo := pool [(1, .class_ 2), (0, u "java/lang/Math"), (1, .class_ 6), (1, u "java/lang/Object"), (0, u "<init>"), (0, u "()V"), (89, .class_ 100), (1, u "java/lang/Math$RandomNumberGeneratorHolder"), (71, u "negativeZeroFloatBits"), (0, u "J"), (2, u "negativeZeroDoubleBits"), (21, u "max"), (2, u "min"), (43, u "$assertionsDisabled"), (0, u "Z"), (88, u "(II)I"), (2, u "twoToTheDoubleScaleDown"), (0, u "D"), (4, u "twoToTheDoubleScaleUp"), (9, u "E"), (3, u "PI"), (2, u "TAU"), (2, u "DEGREES_TO_RADIANS"), (0, u "RADIANS_TO_DEGREES")] 94

def k15m0 : Method := { name := "<init>", desc := "()V", sig := { parameters := [], returnType := none }, accessFlags := 2, code := none }
def k15c1 : Code := { maxStack := 2, maxLocals := 2, code := jdk_29_method_65_code, exceptionTable := #[], attributes := #[] }
def k15m1 : Method := { name := "max", desc := "(II)I", sig := { parameters := [.int, .int], returnType := some .int }, accessFlags := 9, code := some k15c1 }
def k15c2 : Code := { maxStack := 2, maxLocals := 2, code := jdk_29_method_69_code, exceptionTable := #[], attributes := #[] }
def k15m2 : Method := { name := "min", desc := "(II)I", sig := { parameters := [.int, .int], returnType := some .int }, accessFlags := 9, code := some k15c2 }
/-- java/lang/Math -/
def k15 : Class := { plain "java/lang/Math" (some 0) with
  accessFlags := 49
  interfaces := #[]
  cf := some (fileOf pool15 1 #[.nestMembers #[98]] #[{ accessFlags := 2, nameIndex := 7, descriptorIndex := 8, attributes := #[] }, { accessFlags := 9, nameIndex := 198, descriptorIndex := 335, attributes := #[] }, { accessFlags := 9, nameIndex := 201, descriptorIndex := 335, attributes := #[] }] 49 4 #[] #[{ accessFlags := 25, nameIndex := 354, descriptorIndex := 339, attributes := #[] }, { accessFlags := 25, nameIndex := 358, descriptorIndex := 339, attributes := #[] }, { accessFlags := 25, nameIndex := 361, descriptorIndex := 339, attributes := #[] }, { accessFlags := 26, nameIndex := 364, descriptorIndex := 339, attributes := #[] }, { accessFlags := 26, nameIndex := 365, descriptorIndex := 339, attributes := #[] }, { accessFlags := 26, nameIndex := 172, descriptorIndex := 173, attributes := #[] }, { accessFlags := 26, nameIndex := 176, descriptorIndex := 173, attributes := #[] }, { accessFlags := 8, nameIndex := 344, descriptorIndex := 339, attributes := #[] }, { accessFlags := 8, nameIndex := 338, descriptorIndex := 339, attributes := #[] }, { accessFlags := 4120, nameIndex := 245, descriptorIndex := 246, attributes := #[] }])
  fields := #[{ name := "E", type := .double, accessFlags := 25, slot := 0, constantValue := 0 }, { name := "PI", type := .double, accessFlags := 25, slot := 1, constantValue := 0 }, { name := "TAU", type := .double, accessFlags := 25, slot := 2, constantValue := 0 }, { name := "DEGREES_TO_RADIANS", type := .double, accessFlags := 26, slot := 3, constantValue := 0 }, { name := "RADIANS_TO_DEGREES", type := .double, accessFlags := 26, slot := 4, constantValue := 0 }, { name := "negativeZeroFloatBits", type := .long, accessFlags := 26, slot := 5, constantValue := 0 }, { name := "negativeZeroDoubleBits", type := .long, accessFlags := 26, slot := 6, constantValue := 0 }, { name := "twoToTheDoubleScaleUp", type := .double, accessFlags := 8, slot := 7, constantValue := 0 }, { name := "twoToTheDoubleScaleDown", type := .double, accessFlags := 8, slot := 8, constantValue := 0 }, { name := "$assertionsDisabled", type := .boolean, accessFlags := 4120, slot := 9, constantValue := 0 }]
  methods := #[k15m0, k15m1, k15m2]
  instanceTypes := #[]
  staticTypes := #[.double, .double, .double, .double, .double, .long, .long, .double, .double, .boolean]
  resolved := Array.replicate 460 none
  statics := none }

def pool16 : Array CpInfo := pool [(2, .class_ 4), (1, u "java/lang/Object"), (0, u "<init>"), (0, u "()V"), (12, .class_ 20), (0, u "java/util/Collections"), (63, u "r"), (0, u "Ljava/util/Random;"), (80, .class_ 167), (0, u "java/util/Collections$UnmodifiableCollection"), (6, .class_ 175), (0, u "java/util/Collections$UnmodifiableSequencedCollection"), (6, .class_ 183), (0, u "java/util/Collections$UnmodifiableSet"), (6, .class_ 191), (0, u "java/util/Collections$UnmodifiableSequencedSet"), (6, .class_ 199), (0, u "java/util/Collections$UnmodifiableSortedSet"), (6, .class_ 207), (0, u "java/util/Collections$UnmodifiableNavigableSet"), (4, .class_ 213), (0, u "java/util/Collections$UnmodifiableList"), (1, .class_ 216), (0, u "java/util/Collections$UnmodifiableRandomAccessList"), (6, .class_ 224), (0, u "java/util/Collections$UnmodifiableMap"), (6, .class_ 232), (0, u "java/util/Collections$UnmodifiableSequencedMap"), (4, .class_ 238), (0, u "java/util/Collections$UnmodifiableSortedMap"), (6, .class_ 246), (0, u "java/util/Collections$UnmodifiableNavigableMap"), (3, .class_ 251), (0, u "java/util/Collections$SynchronizedCollection"), (4, .class_ 257), (0, u "java/util/Collections$SynchronizedSet"), (4, .class_ 263), (0, u "java/util/Collections$SynchronizedSortedSet"), (1, .class_ 266), (0, u "java/util/Collections$SynchronizedNavigableSet"), (1, .class_ 269), (0, u "java/util/Collections$SynchronizedRandomAccessList"), (1, .class_ 272), (0, u "java/util/Collections$SynchronizedList"), (5, .class_ 279), (0, u "java/util/Collections$SynchronizedMap"), (1, .class_ 282), (0, u "java/util/Collections$SynchronizedSortedMap"), (1, .class_ 285), (0, u "java/util/Collections$SynchronizedNavigableMap"), (1, .class_ 288), (0, u "java/util/Collections$CheckedCollection"), (11, .class_ 301), (0, u "java/util/Collections$CheckedQueue"), (3, .class_ 306), (0, u "java/util/Collections$CheckedSet"), (3, .class_ 311), (0, u "java/util/Collections$CheckedSortedSet"), (3, .class_ 316), (0, u "java/util/Collections$CheckedNavigableSet"), (3, .class_ 321), (0, u "java/util/Collections$CheckedRandomAccessList"), (3, .class_ 326), (0, u "java/util/Collections$CheckedList"), (1, .class_ 329), (0, u "java/util/Collections$CheckedMap"), (3, .class_ 334), (0, u "java/util/Collections$CheckedSortedMap"), (3, .class_ 339), (0, u "java/util/Collections$CheckedNavigableMap"), (4, .class_ 346), (1, u "java/util/Collections$EmptyIterator"), (3, .class_ 352), (1, u "java/util/Collections$EmptyListIterator"), (2, .class_ 357), (1, u "java/util/Collections$EmptyEnumeration"), (4, u "EMPTY_SET"), (0, u "Ljava/util/Set;"), (6, u "EMPTY_LIST"), (0, u "Ljava/util/List;"), (2, u "EMPTY_MAP"), (0, u "Ljava/util/Map;"), (4, .class_ 381), (0, u "java/util/Collections$SingletonSet"), (2, .class_ 385), (0, u "java/util/Collections$1"), (1, .class_ 388), (0, u "java/util/Collections$2"), (1, .class_ 391), (0, u "java/util/Collections$SingletonList"), (1, .class_ 394), (0, u "java/util/Collections$SingletonMap"), (22, .class_ 418), (0, u "java/util/Collections$CopiesList"), (0, .methodref 417 420), (0, .nameAndType 5 421), (0, u "(ILjava/lang/Object;)V"), (1, .class_ 425), (1, u "java/util/Collections$ReverseComparator"), (8, .class_ 435), (0, u "java/util/Collections$ReverseComparator2"), (6, .class_ 443), (0, u "java/util/Collections$3"), (25, .class_ 470), (0, u "java/util/Collections$SetFromMap"), (2, .class_ 474), (0, u "java/util/Collections$SequencedSetFromMap"), (3, .class_ 479), (0, u "java/util/Collections$AsLIFOQueue"), (11, .class_ 492), (0, u "java/util/Collections$EmptySet"), (1, .class_ 495), (0, u "java/util/Collections$EmptyList"), (1, .class_ 498), (0, u "java/util/Collections$EmptyMap"), (1, u "BINARYSEARCH_THRESHOLD"), (0, u "I"), (2, u "REVERSE_THRESHOLD"), (1, u "SHUFFLE_THRESHOLD"), (1, u "FILL_THRESHOLD"), (1, u "ROTATE_THRESHOLD"), (1, u "COPY_THRESHOLD"), (1, u "REPLACEALL_THRESHOLD"), (1, u "INDEXOFSUBLIST_THRESHOLD"), (273, u "nCopies"), (0, u "(ILjava/lang/Object;)Ljava/util/List;"), (58, .class_ 851), (0, u "java/util/Collections$CheckedMap$CheckedEntrySet"), (0, .class_ 853), (0, u "java/util/Collections$CheckedMap$CheckedEntrySet$CheckedEntry"), (0, .class_ 855), (0, u "java/util/Collections$CheckedMap$CheckedEntrySet$1"), (0, .class_ 857), (0, u "java/util/Collections$CheckedList$1"), (0, .class_ 859), (0, u "java/util/Collections$CheckedCollection$1"), (0, .class_ 861), (0, u "java/util/Collections$UnmodifiableNavigableMap$EmptyNavigableMap"), (0, .class_ 863), (0, u "java/util/Collections$UnmodifiableMap$UnmodifiableEntrySet"), (0, .class_ 865), (0, u "java/util/Collections$UnmodifiableMap$UnmodifiableEntrySet$UnmodifiableEntry"), (0, .class_ 867), (0, u "java/util/Collections$UnmodifiableMap$UnmodifiableEntrySet$UnmodifiableEntrySetSpliterator"), (0, .class_ 869), (0, u "java/util/Collections$UnmodifiableMap$UnmodifiableEntrySet$1"), (0, .class_ 871), (0, u "java/util/Collections$UnmodifiableList$1"), (0, .class_ 873), (0, u "java/util/Collections$UnmodifiableNavigableSet$EmptyNavigableSet"), (0, .class_ 875), (0, u "java/util/Collections$UnmodifiableCollection$1")] 57

def k16m0 : Method := { name := "<init>", desc := "()V", sig := { parameters := [], returnType := none }, accessFlags := 2, code := none }
def k16c1 : Code := { maxStack := 4, maxLocals := 2, code := jdk_79_method_76_code, exceptionTable := #[], attributes := #[] }
def k16m1 : Method := { name := "nCopies", desc := "(ILjava/lang/Object;)Ljava/util/List;", sig := { parameters := [.int, (.object "java/lang/Object")], returnType := some (.object "java/util/List") }, accessFlags := 9, code := some k16c1 }
/-- java/util/Collections -/
def k16 : Class := { plain "java/util/Collections" (some 0) with
  accessFlags := 33
  interfaces := #[]
  cf := some (fileOf pool16 19 #[.nestMembers #[478, 473, 469, 434, 423, 417, 393, 390, 380, 497, 494, 491, 355, 350, 344, 338, 333, 328, 850, 852, 854, 320, 325, 856, 315, 310, 305, 300, 287, 858, 284, 281, 278, 268, 271, 265, 262, 256, 250, 245, 860, 237, 231, 223, 862, 864, 866, 868, 215, 212, 870, 206, 872, 198, 190, 182, 174, 166, 874, 442, 387, 384]] #[{ accessFlags := 2, nameIndex := 5, descriptorIndex := 6, attributes := #[] }, { accessFlags := 9, nameIndex := 790, descriptorIndex := 791, attributes := #[] }] 33 2 #[] #[{ accessFlags := 26, nameIndex := 500, descriptorIndex := 501, attributes := #[] }, { accessFlags := 26, nameIndex := 504, descriptorIndex := 501, attributes := #[] }, { accessFlags := 26, nameIndex := 506, descriptorIndex := 501, attributes := #[] }, { accessFlags := 26, nameIndex := 508, descriptorIndex := 501, attributes := #[] }, { accessFlags := 26, nameIndex := 510, descriptorIndex := 501, attributes := #[] }, { accessFlags := 26, nameIndex := 512, descriptorIndex := 501, attributes := #[] }, { accessFlags := 26, nameIndex := 514, descriptorIndex := 501, attributes := #[] }, { accessFlags := 26, nameIndex := 516, descriptorIndex := 501, attributes := #[] }, { accessFlags := 10, nameIndex := 84, descriptorIndex := 85, attributes := #[] }, { accessFlags := 25, nameIndex := 362, descriptorIndex := 363, attributes := #[] }, { accessFlags := 25, nameIndex := 370, descriptorIndex := 371, attributes := #[] }, { accessFlags := 25, nameIndex := 374, descriptorIndex := 375, attributes := #[] }])
  fields := #[{ name := "BINARYSEARCH_THRESHOLD", type := .int, accessFlags := 26, slot := 0, constantValue := 0 }, { name := "REVERSE_THRESHOLD", type := .int, accessFlags := 26, slot := 1, constantValue := 0 }, { name := "SHUFFLE_THRESHOLD", type := .int, accessFlags := 26, slot := 2, constantValue := 0 }, { name := "FILL_THRESHOLD", type := .int, accessFlags := 26, slot := 3, constantValue := 0 }, { name := "ROTATE_THRESHOLD", type := .int, accessFlags := 26, slot := 4, constantValue := 0 }, { name := "COPY_THRESHOLD", type := .int, accessFlags := 26, slot := 5, constantValue := 0 }, { name := "REPLACEALL_THRESHOLD", type := .int, accessFlags := 26, slot := 6, constantValue := 0 }, { name := "INDEXOFSUBLIST_THRESHOLD", type := .int, accessFlags := 26, slot := 7, constantValue := 0 }, { name := "r", type := (.object "java/util/Random"), accessFlags := 10, slot := 8, constantValue := 0 }, { name := "EMPTY_SET", type := (.object "java/util/Set"), accessFlags := 25, slot := 9, constantValue := 0 }, { name := "EMPTY_LIST", type := (.object "java/util/List"), accessFlags := 25, slot := 10, constantValue := 0 }, { name := "EMPTY_MAP", type := (.object "java/util/Map"), accessFlags := 25, slot := 11, constantValue := 0 }]
  methods := #[k16m0, k16m1]
  instanceTypes := #[]
  staticTypes := #[.int, .int, .int, .int, .int, .int, .int, .int, (.object "java/util/Random"), (.object "java/util/Set"), (.object "java/util/List"), (.object "java/util/Map")]
  resolved := Array.replicate 933 none
  statics := none }

def pool17 : Array CpInfo := pool [(1, .methodref 2 3), (0, .class_ 4), (0, .nameAndType 5 6), (0, u "java/util/AbstractList"), (0, u "<init>"), (0, u "()V"), (0, .fieldref 8 9), (0, .class_ 10), (0, .nameAndType 11 12), (0, u "java/util/Collections$CopiesList"), (0, u "$assertionsDisabled"), (0, u "Z"), (3, .fieldref 8 17), (0, .nameAndType 18 19), (0, u "n"), (0, u "I"), (0, .fieldref 8 21), (0, .nameAndType 22 23), (0, u "element"), (0, u "Ljava/lang/Object;"), (1, .class_ 27), (1, u "java/util/Collections"), (22, .class_ 51), (0, u "java/lang/Object"), (57, u "(ILjava/lang/Object;)V"), (78, .class_ 189), (0, u "java/util/RandomAccess"), (0, .class_ 191), (0, u "java/io/Serializable"), (0, u "serialVersionUID"), (0, u "J"), (32, u "toArray"), (0, u "()[Ljava/lang/Object;")] 58

def k17c0 : Code := { maxStack := 2, maxLocals := 3, code := jdk_2479_method_1_code, exceptionTable := #[], attributes := #[] }
def k17m0 : Method := { name := "<init>", desc := "(ILjava/lang/Object;)V", sig := { parameters := [.int, (.object "java/lang/Object")], returnType := none }, accessFlags := 0, code := some k17c0 }
def k17c1 : Code := { maxStack := 4, maxLocals := 2, code := jdk_2479_method_8_code, exceptionTable := #[], attributes := #[] }
def k17m1 : Method := { name := "toArray", desc := "()[Ljava/lang/Object;", sig := { parameters := [], returnType := some (.array (.object "java/lang/Object")) }, accessFlags := 1, code := some k17c1 }
/-- java/util/Collections$CopiesList -/
def k17 : Class := { plain "java/util/Collections$CopiesList" (some 10) with
  accessFlags := 32
  interfaces := #[11, 13]
  cf := some (fileOf pool17 8 #[.nestHost 25] #[{ accessFlags := 0, nameIndex := 5, descriptorIndex := 109, attributes := #[] }, { accessFlags := 1, nameIndex := 226, descriptorIndex := 227, attributes := #[] }] 32 2 #[188, 190] #[{ accessFlags := 26, nameIndex := 192, descriptorIndex := 193, attributes := #[] }, { accessFlags := 16, nameIndex := 18, descriptorIndex := 19, attributes := #[] }, { accessFlags := 16, nameIndex := 22, descriptorIndex := 23, attributes := #[] }, { accessFlags := 4120, nameIndex := 11, descriptorIndex := 12, attributes := #[] }])
  fields := #[{ name := "serialVersionUID", type := .long, accessFlags := 26, slot := 0, constantValue := 0 }, { name := "n", type := .int, accessFlags := 16, slot := 1, constantValue := 0 }, { name := "element", type := (.object "java/lang/Object"), accessFlags := 16, slot := 2, constantValue := 0 }, { name := "$assertionsDisabled", type := .boolean, accessFlags := 4120, slot := 1, constantValue := 0 }]
  methods := #[k17m0, k17m1]
  instanceTypes := #[.int, .int, (.object "java/lang/Object")]
  staticTypes := #[.long, .boolean]
  resolved := Array.replicate 286 none
  mirror := some 2
  statics := some 1 }

def pool18 : Array CpInfo := pool [(2, .class_ 4), (1, u "java/lang/Object"), (0, u "<init>"), (0, u "()V"), (7, .class_ 16), (1, u "java/util/Arrays"), (57, .class_ 76), (1, u "java/util/Arrays$NaturalOrder"), (33, .class_ 111), (0, u "[Ljava/lang/Object;"), (1, .class_ 115), (1, u "java/util/Arrays$LegacyMergeSort"), (1, u "Z"), (32, .methodref 151 152), (0, .class_ 153), (0, .nameAndType 154 155), (0, u "java/lang/System"), (0, u "arraycopy"), (0, u "(Ljava/lang/Object;ILjava/lang/Object;II)V"), (146, u "copyOf"), (0, u "([Ljava/lang/Object;ILjava/lang/Class;)[Ljava/lang/Object;"), (0, .methodref 305 306), (0, .class_ 307), (0, .nameAndType 308 309), (0, u "java/lang/Math"), (0, u "min"), (0, u "(II)I"), (65, .class_ 376), (0, u "java/util/Arrays$ArrayList"), (68, u "$assertionsDisabled"), (269, u "MIN_ARRAY_SORT_GRAN"), (0, u "I"), (2, u "INSERTIONSORT_THRESHOLD"), (255, .class_ 976), (0, u "java/util/Arrays$ArrayItr")] 52

def k18m0 : Method := { name := "<init>", desc := "()V", sig := { parameters := [], returnType := none }, accessFlags := 2, code := none }
def k18c1 : Code := { maxStack := 6, maxLocals := 4, code := jdk_65_method_120_code, exceptionTable := #[], attributes := #[] }
def k18m1 : Method := { name := "copyOf", desc := "([Ljava/lang/Object;ILjava/lang/Class;)[Ljava/lang/Object;", sig := { parameters := [(.array (.object "java/lang/Object")), .int, (.object "java/lang/Class")], returnType := some (.array (.object "java/lang/Object")) }, accessFlags := 9, code := some k18c1 }
/-- java/util/Arrays -/
def k18 : Class := { plain "java/util/Arrays" (some 0) with
  accessFlags := 49
  interfaces := #[]
  cf := some (fileOf pool18 14 #[.nestMembers #[975, 375, 113, 74]] #[{ accessFlags := 2, nameIndex := 5, descriptorIndex := 6, attributes := #[] }, { accessFlags := 9, nameIndex := 302, descriptorIndex := 303, attributes := #[] }] 49 2 #[] #[{ accessFlags := 26, nameIndex := 715, descriptorIndex := 716, attributes := #[] }, { accessFlags := 26, nameIndex := 719, descriptorIndex := 716, attributes := #[] }, { accessFlags := 4120, nameIndex := 445, descriptorIndex := 117, attributes := #[] }])
  fields := #[{ name := "MIN_ARRAY_SORT_GRAN", type := .int, accessFlags := 26, slot := 0, constantValue := 0 }, { name := "INSERTIONSORT_THRESHOLD", type := .int, accessFlags := 26, slot := 1, constantValue := 0 }, { name := "$assertionsDisabled", type := .boolean, accessFlags := 4120, slot := 2, constantValue := 0 }]
  methods := #[k18m0, k18m1]
  instanceTypes := #[]
  staticTypes := #[.int, .int, .boolean]
  resolved := Array.replicate 1029 none
  statics := none }

def pool19 : Array CpInfo := pool [(2, .class_ 4), (1, u "java/lang/Object"), (0, u "<init>"), (0, u "()V"), (1, .class_ 10), (1, u "java/lang/System"), (0, u "allowSecurityManager"), (0, u "I"), (16, u "cons"), (0, u "Ljava/io/Console;"), (77, .class_ 110), (1, u "java/lang/System$CallersHolder"), (43, u "initialErrStream"), (0, u "Ljava/io/PrintStream;"), (19, u "security"), (0, u "Ljava/lang/SecurityManager;"), (31, .class_ 209), (0, u "java/lang/System$1"), (7, u "props"), (0, u "Ljava/util/Properties;"), (2, u "lineSeparator"), (0, u "Ljava/lang/String;"), (96, .class_ 321), (1, u "java/lang/System$LoggerFinder"), (5, .class_ 328), (0, u "java/lang/System$Logger"), (67, u "err"), (2, u "out"), (91, u "notSupportedJnuEncoding"), (15, u "in"), (17, u "initialIn"), (0, u "Ljava/io/InputStream;"), (35, u "bootLayer"), (0, u "Ljava/lang/ModuleLayer;"), (99, .class_ 664), (0, u "java/lang/System$2"), (9, u "NEVER"), (2, u "MAYBE"), (49, u "arraycopy"), (0, u "(Ljava/lang/Object;ILjava/lang/Object;II)V"), (72, .class_ 802), (0, u "java/lang/System$Logger$Level")] 31

def k19m0 : Method := { name := "<init>", desc := "()V", sig := { parameters := [], returnType := none }, accessFlags := 2, code := none }
def k19m1 : Method := { name := "arraycopy", desc := "(Ljava/lang/Object;ILjava/lang/Object;II)V", sig := { parameters := [(.object "java/lang/Object"), .int, (.object "java/lang/Object"), .int, .int], returnType := none }, accessFlags := 265, code := none }
/-- java/lang/System -/
def k19 : Class := { plain "java/lang/System" (some 0) with
  accessFlags := 49
  interfaces := #[]
  cf := some (fileOf pool19 8 #[.nestMembers #[319, 327, 801, 108, 663, 208]] #[{ accessFlags := 2, nameIndex := 5, descriptorIndex := 6, attributes := #[] }, { accessFlags := 265, nameIndex := 727, descriptorIndex := 728, attributes := #[] }] 49 2 #[] #[{ accessFlags := 25, nameIndex := 507, descriptorIndex := 526, attributes := #[] }, { accessFlags := 25, nameIndex := 399, descriptorIndex := 155, attributes := #[] }, { accessFlags := 25, nameIndex := 396, descriptorIndex := 155, attributes := #[] }, { accessFlags := 10, nameIndex := 525, descriptorIndex := 526, attributes := #[] }, { accessFlags := 26, nameIndex := 674, descriptorIndex := 12, attributes := #[] }, { accessFlags := 26, nameIndex := 677, descriptorIndex := 12, attributes := #[] }, { accessFlags := 10, nameIndex := 11, descriptorIndex := 12, attributes := #[] }, { accessFlags := 74, nameIndex := 175, descriptorIndex := 176, attributes := #[] }, { accessFlags := 10, nameIndex := 491, descriptorIndex := 222, attributes := #[] }, { accessFlags := 74, nameIndex := 29, descriptorIndex := 30, attributes := #[] }, { accessFlags := 74, nameIndex := 154, descriptorIndex := 155, attributes := #[] }, { accessFlags := 10, nameIndex := 217, descriptorIndex := 218, attributes := #[] }, { accessFlags := 10, nameIndex := 221, descriptorIndex := 222, attributes := #[] }, { accessFlags := 8, nameIndex := 562, descriptorIndex := 563, attributes := #[] }])
  fields := #[{ name := "in", type := (.object "java/io/InputStream"), accessFlags := 25, slot := 0, constantValue := 0 }, { name := "out", type := (.object "java/io/PrintStream"), accessFlags := 25, slot := 1, constantValue := 0 }, { name := "err", type := (.object "java/io/PrintStream"), accessFlags := 25, slot := 2, constantValue := 0 }, { name := "initialIn", type := (.object "java/io/InputStream"), accessFlags := 10, slot := 3, constantValue := 0 }, { name := "NEVER", type := .int, accessFlags := 26, slot := 4, constantValue := 0 }, { name := "MAYBE", type := .int, accessFlags := 26, slot := 5, constantValue := 0 }, { name := "allowSecurityManager", type := .int, accessFlags := 10, slot := 6, constantValue := 0 }, { name := "security", type := (.object "java/lang/SecurityManager"), accessFlags := 74, slot := 7, constantValue := 0 }, { name := "notSupportedJnuEncoding", type := (.object "java/lang/String"), accessFlags := 10, slot := 8, constantValue := 0 }, { name := "cons", type := (.object "java/io/Console"), accessFlags := 74, slot := 9, constantValue := 0 }, { name := "initialErrStream", type := (.object "java/io/PrintStream"), accessFlags := 74, slot := 10, constantValue := 0 }, { name := "props", type := (.object "java/util/Properties"), accessFlags := 10, slot := 11, constantValue := 0 }, { name := "lineSeparator", type := (.object "java/lang/String"), accessFlags := 10, slot := 12, constantValue := 0 }, { name := "bootLayer", type := (.object "java/lang/ModuleLayer"), accessFlags := 8, slot := 13, constantValue := 0 }]
  methods := #[k19m0, k19m1]
  instanceTypes := #[]
  staticTypes := #[(.object "java/io/InputStream"), (.object "java/io/PrintStream"), (.object "java/io/PrintStream"), (.object "java/io/InputStream"), .int, .int, .int, (.object "java/lang/SecurityManager"), (.object "java/lang/String"), (.object "java/io/Console"), (.object "java/io/PrintStream"), (.object "java/util/Properties"), (.object "java/lang/String"), (.object "java/lang/ModuleLayer")]
  resolved := Array.replicate 834 none
  statics := none }

def pool20 : Array CpInfo := pool [(1, u "java/lang/Class"), (0, .class_ 1), (0, u "java/lang/Object"), (0, .class_ 3)] 0

/-- java/lang/Class -/
def k20 : Class := { plain "java/lang/Class" (some 0) with
  accessFlags := 49
  interfaces := #[]
  cf := some (fileOf pool20 2 #[] #[] 49 4 #[] #[])
  fields := #[]
  methods := #[]
  instanceTypes := #[]
  staticTypes := #[]
  resolved := Array.replicate 5 none
  statics := none }

/-- the primitive byte -/
def k21 : Class := { plain "byte" none with kind := .primitive 'B', accessFlags := 0x411 }
/-- [B -/
def k22 : Class := { plain "[B" (some 0) with kind := .array 21 .byte, interfaces := #[12, 13], accessFlags := 1041 }

/-- the primitive int -/
def k23 : Class := { plain "int" none with kind := .primitive 'I', accessFlags := 0x411 }
/-- [I -/
def k24 : Class := { plain "[I" (some 0) with kind := .array 23 .int, interfaces := #[12, 13], accessFlags := 1041 }

/-- [Ljava/lang/Object; -/
def k25 : Class := { plain "[Ljava/lang/Object;" (some 0) with kind := .array 0 (.object "java/lang/Object"), interfaces := #[12, 13], accessFlags := 1041, mirror := some 4 }

def heap : Heap := #[{ cls := 14, slots := #[.long 0, .int 0, .ref 5, .ref 6], vm := .statics 14 },
  { cls := 17, slots := #[.long 0, .int 1], vm := .statics 17 },
  { cls := 20, slots := #[], vm := .mirror 17 },
  { cls := 20, slots := #[], vm := .mirror 14 },
  { cls := 20, slots := #[], vm := .mirror 25 },
  { cls := 25, slots := #[], vm := .none },
  { cls := 25, slots := #[], vm := .none }]
def classes : Array Class := #[k0, k1, k2, k3, k4, k5, k6, k7, k8, k9, k10, k11, k12, k13, k14, k15, k16, k17, k18, k19, k20, k21, k22, k23, k24, k25]
def interned : List (Array UInt16 × Addr) := []
def slotsUsed : Nat := 6
def theMethod : MethodId := ⟨1, 1⟩
def args0 : Array Value := #[.int 5, .int 9, .int 2]
def aboutOver (below : List Frame) : State where
  vm := { classes := classes, interned := interned.toArray }
  heap := heap
  slotsUsed := slotsUsed
  threads := #[{ frames := .invoking theMethod args0 :: below }]
def below0 : List Frame := [.native { method := ⟨0, 0⟩, args := #[] }]
def about1 : State := aboutOver below0
def p0 : Program := .bare "" "" ""
def e0 : Env := launch0.env 0 0 0
theorem w_frames : about1.frames = Frame.invoking theMethod args0 :: below0 := rfl
set_option maxRecDepth 65536 in
theorem w_args : argsFit about1.vm theMethod args0 = true := by decide +kernel
set_option maxRecDepth 65536 in
theorem w_heap : heapFits about1 = true := by decide +kernel
set_option maxRecDepth 65536 in
theorem w_runnable : about1.curStatus? = some .runnable := by decide +kernel
set_option maxRecDepth 65536 in
theorem w_alone : about1.alone = true := by decide +kernel
set_option maxRecDepth 65536 in
theorem w_named : about1.methodNamed? x = some theMethod := by decide +kernel
set_option maxRecDepth 65536 in
theorem w_hears : about1.hears theMethod below0 = true := by decide +kernel
set_option maxRecDepth 65536 in
theorem w_ripe : about1.ripe theMethod args0 below0 = true := by decide +kernel
theorem w_running : about1.status = .running := rfl
set_option maxRecDepth 65536 in
theorem w_room : about1.hasRoom e0.platform room_1 = true :=
  launch0.hasRoom_least _ room_1 (by decide +kernel) (by decide +kernel) (by decide +kernel) (by decide +kernel) (by decide +kernel) (by decide +kernel)
theorem allAtoms_all (ts : List Jvm.Cond) (a : Array Jvm.Value) (st : Jvm.State) : (allAtoms ts).before a st = ts.all (fun c => c.before a st) := by
  induction ts with
  | nil => rfl
  | cons c t ih =>
    show (Jvm.Cond.and c (allAtoms t)).before a st = _
    rw [Jvm.Cond.before_and, ih, List.all_cons]
def words1 : List Jvm.Cond := Jvm.Cond.code x code maxLocals ret :: tables_1
/-- a 'code' word, met by the world's own term for the bytes: nothing is compared byte by byte -/
theorem code_word {y : MethodName} {bytes : ByteArray} {mx : Nat} {rt : Option FieldType} {a : Array Value} {s : State} {m : MethodId} {meth : Method} {c : Code} (h1 : s.methodNamed? y = some m) (h2 : s.vm.method? m = some meth) (h3 : meth.code = some c) (h4 : c.code = bytes)
    (h5 : (c.maxLocals == mx && c.exceptionTable.isEmpty && decide (c.maxStack ≤ mostOperands) && decide (meth.sig.returnType = rt) && !meth.locks && decide (parseMethodDescriptor y.desc = some meth.sig)) = true) : (Jvm.Cond.code y bytes mx rt).before a s = true := by
  simp only [Bool.and_eq_true, beq_iff_eq, Bool.not_eq_true', decide_eq_true_eq] at h5
  obtain ⟨⟨⟨⟨⟨g1, g2⟩, g3⟩, g4⟩, g5⟩, g6⟩ := h5
  simp [Cond.before, Cond.holds, Cond.value, h1, h2, h3, h4, g1, g2, g3, g4, g5, g6]
def isCode : Jvm.Cond → Bool
  | .code _ _ _ _ => true
  | _ => false
theorem all_split {L : List Jvm.Cond} {P : Jvm.Cond → Bool} (h1 : L.all (fun c => isCode c || P c) = true) (h2 : ∀ c ∈ L.filter isCode, P c = true) : L.all P = true := by
  refine List.all_eq_true.mpr fun c hc => ?_
  have h := List.all_eq_true.mp h1 c hc
  rcases Bool.eq_false_or_eq_true (isCode c) with hi | hi
  · exact h2 c (List.mem_filter.mpr ⟨hc, hi⟩)
  · simpa [hi] using h
set_option maxRecDepth 65536 in
theorem w_c0 : (Jvm.Cond.code x code maxLocals ret).before args0 about1 = true := code_word (m := ⟨1, 1⟩) (meth := k1m1) (c := k1c1) (by decide +kernel) rfl rfl rfl (by decide +kernel)
set_option maxRecDepth 65536 in
theorem w_c1 : (Jvm.Cond.code ({ cls := "com/example/ruleseer/ruleseer/gdl/Relation", name := "<init>", desc := "(I)V" } : Jvm.MethodName) prog_88_method_1_code (2 : Nat) (Option.none : Option Jvm.ClassFile.FieldType)).before args0 about1 = true := code_word (m := ⟨4, 0⟩) (meth := k4m0) (c := k4c0) (by decide +kernel) rfl rfl rfl (by decide +kernel)
set_option maxRecDepth 65536 in
theorem w_c2 : (Jvm.Cond.code ({ cls := "java/lang/Object", name := "<init>", desc := "()V" } : Jvm.MethodName) object_method_1_code (1 : Nat) (Option.none : Option Jvm.ClassFile.FieldType)).before args0 about1 = true := code_word (m := ⟨0, 0⟩) (meth := k0m0) (c := k0c0) (by decide +kernel) rfl rfl rfl (by decide +kernel)
set_option maxRecDepth 65536 in
theorem w_c3 : (Jvm.Cond.code ({ cls := "java/util/ArrayList", name := "<init>", desc := "()V" } : Jvm.MethodName) jdk_38_method_2_code (1 : Nat) (Option.none : Option Jvm.ClassFile.FieldType)).before args0 about1 = true := code_word (m := ⟨14, 0⟩) (meth := k14m0) (c := k14c0) (by decide +kernel) rfl rfl rfl (by decide +kernel)
set_option maxRecDepth 65536 in
theorem w_c4 : (Jvm.Cond.code ({ cls := "java/util/AbstractList", name := "<init>", desc := "()V" } : Jvm.MethodName) jdk_39_method_1_code (1 : Nat) (Option.none : Option Jvm.ClassFile.FieldType)).before args0 about1 = true := code_word (m := ⟨10, 0⟩) (meth := k10m0) (c := k10c0) (by decide +kernel) rfl rfl rfl (by decide +kernel)
set_option maxRecDepth 65536 in
theorem w_c5 : (Jvm.Cond.code ({ cls := "java/util/AbstractCollection", name := "<init>", desc := "()V" } : Jvm.MethodName) jdk_22_method_1_code (1 : Nat) (Option.none : Option Jvm.ClassFile.FieldType)).before args0 about1 = true := code_word (m := ⟨7, 0⟩) (meth := k7m0) (c := k7c0) (by decide +kernel) rfl rfl rfl (by decide +kernel)
set_option maxRecDepth 65536 in
theorem w_c6 : (Jvm.Cond.code ({ cls := "java/lang/Math", name := "max", desc := "(II)I" } : Jvm.MethodName) jdk_29_method_65_code (2 : Nat) (Option.some Jvm.ClassFile.FieldType.int)).before args0 about1 = true := code_word (m := ⟨15, 1⟩) (meth := k15m1) (c := k15c1) (by decide +kernel) rfl rfl rfl (by decide +kernel)
set_option maxRecDepth 65536 in
theorem w_c7 : (Jvm.Cond.code ({ cls := "java/util/Collections", name := "nCopies", desc := "(ILjava/lang/Object;)Ljava/util/List;" } : Jvm.MethodName) jdk_79_method_76_code (2 : Nat) (Option.some (Jvm.ClassFile.FieldType.object "java/util/List"))).before args0 about1 = true := code_word (m := ⟨16, 1⟩) (meth := k16m1) (c := k16c1) (by decide +kernel) rfl rfl rfl (by decide +kernel)
set_option maxRecDepth 65536 in
theorem w_c8 : (Jvm.Cond.code ({ cls := "java/util/Collections$CopiesList", name := "<init>", desc := "(ILjava/lang/Object;)V" } : Jvm.MethodName) jdk_2479_method_1_code (3 : Nat) (Option.none : Option Jvm.ClassFile.FieldType)).before args0 about1 = true := code_word (m := ⟨17, 0⟩) (meth := k17m0) (c := k17c0) (by decide +kernel) rfl rfl rfl (by decide +kernel)
set_option maxRecDepth 65536 in
theorem w_c9 : (Jvm.Cond.code ({ cls := "java/util/ArrayList", name := "<init>", desc := "(Ljava/util/Collection;)V" } : Jvm.MethodName) jdk_38_method_3_code (3 : Nat) (Option.none : Option Jvm.ClassFile.FieldType)).before args0 about1 = true := code_word (m := ⟨14, 1⟩) (meth := k14m1) (c := k14c1) (by decide +kernel) rfl rfl rfl (by decide +kernel)
set_option maxRecDepth 65536 in
theorem w_c10 : (Jvm.Cond.code ({ cls := "java/util/Collections$CopiesList", name := "toArray", desc := "()[Ljava/lang/Object;" } : Jvm.MethodName) jdk_2479_method_8_code (2 : Nat) (Option.some (Jvm.ClassFile.FieldType.array (Jvm.ClassFile.FieldType.object "java/lang/Object")))).before args0 about1 = true := code_word (m := ⟨17, 1⟩) (meth := k17m1) (c := k17c1) (by decide +kernel) rfl rfl rfl (by decide +kernel)
set_option maxRecDepth 65536 in
theorem w_c11 : (Jvm.Cond.code ({ cls := "java/util/Arrays", name := "copyOf", desc := "([Ljava/lang/Object;ILjava/lang/Class;)[Ljava/lang/Object;" } : Jvm.MethodName) jdk_65_method_120_code (4 : Nat) (Option.some (Jvm.ClassFile.FieldType.array (Jvm.ClassFile.FieldType.object "java/lang/Object")))).before args0 about1 = true := code_word (m := ⟨18, 1⟩) (meth := k18m1) (c := k18c1) (by decide +kernel) rfl rfl rfl (by decide +kernel)
set_option maxRecDepth 65536 in
theorem w_c12 : (Jvm.Cond.code ({ cls := "java/lang/Math", name := "min", desc := "(II)I" } : Jvm.MethodName) jdk_29_method_69_code (2 : Nat) (Option.some Jvm.ClassFile.FieldType.int)).before args0 about1 = true := code_word (m := ⟨15, 2⟩) (meth := k15m2) (c := k15c2) (by decide +kernel) rfl rfl rfl (by decide +kernel)
set_option maxRecDepth 65536 in
theorem w_c13 : (Jvm.Cond.code ({ cls := "com/example/ruleseer/ruleseer/gdl/GroundNetwork$Atoms", name := "<init>", desc := "(Lcom/example/ruleseer/ruleseer/gdl/Relation;IZ)V" } : Jvm.MethodName) prog_60_method_1_code (4 : Nat) (Option.none : Option Jvm.ClassFile.FieldType)).before args0 about1 = true := code_word (m := ⟨3, 0⟩) (meth := k3m0) (c := k3c0) (by decide +kernel) rfl rfl rfl (by decide +kernel)
set_option maxRecDepth 65536 in
theorem w_c14 : (Jvm.Cond.code ({ cls := "java/lang/Record", name := "<init>", desc := "()V" } : Jvm.MethodName) jdk_30_method_1_code (1 : Nat) (Option.none : Option Jvm.ClassFile.FieldType)).before args0 about1 = true := code_word (m := ⟨2, 0⟩) (meth := k2m0) (c := k2c0) (by decide +kernel) rfl rfl rfl (by decide +kernel)
set_option maxRecDepth 65536 in
theorem w_c15 : (Jvm.Cond.code ({ cls := "com/example/ruleseer/ruleseer/gdl/GroundNetwork$Atoms", name := "proposition", desc := "(I)I" } : Jvm.MethodName) prog_60_method_2_code (2 : Nat) (Option.some Jvm.ClassFile.FieldType.int)).before args0 about1 = true := code_word (m := ⟨3, 1⟩) (meth := k3m1) (c := k3c1) (by decide +kernel) rfl rfl rfl (by decide +kernel)
def codes1 : List Jvm.Cond := [Jvm.Cond.code x code maxLocals ret, Jvm.Cond.code ({ cls := "com/example/ruleseer/ruleseer/gdl/Relation", name := "<init>", desc := "(I)V" } : Jvm.MethodName) prog_88_method_1_code (2 : Nat) (Option.none : Option Jvm.ClassFile.FieldType), Jvm.Cond.code ({ cls := "java/lang/Object", name := "<init>", desc := "()V" } : Jvm.MethodName) object_method_1_code (1 : Nat) (Option.none : Option Jvm.ClassFile.FieldType), Jvm.Cond.code ({ cls := "java/util/ArrayList", name := "<init>", desc := "()V" } : Jvm.MethodName) jdk_38_method_2_code (1 : Nat) (Option.none : Option Jvm.ClassFile.FieldType), Jvm.Cond.code ({ cls := "java/util/AbstractList", name := "<init>", desc := "()V" } : Jvm.MethodName) jdk_39_method_1_code (1 : Nat) (Option.none : Option Jvm.ClassFile.FieldType), Jvm.Cond.code ({ cls := "java/util/AbstractCollection", name := "<init>", desc := "()V" } : Jvm.MethodName) jdk_22_method_1_code (1 : Nat) (Option.none : Option Jvm.ClassFile.FieldType), Jvm.Cond.code ({ cls := "java/lang/Math", name := "max", desc := "(II)I" } : Jvm.MethodName) jdk_29_method_65_code (2 : Nat) (Option.some Jvm.ClassFile.FieldType.int), Jvm.Cond.code ({ cls := "java/util/Collections", name := "nCopies", desc := "(ILjava/lang/Object;)Ljava/util/List;" } : Jvm.MethodName) jdk_79_method_76_code (2 : Nat) (Option.some (Jvm.ClassFile.FieldType.object "java/util/List")), Jvm.Cond.code ({ cls := "java/util/Collections$CopiesList", name := "<init>", desc := "(ILjava/lang/Object;)V" } : Jvm.MethodName) jdk_2479_method_1_code (3 : Nat) (Option.none : Option Jvm.ClassFile.FieldType), Jvm.Cond.code ({ cls := "java/util/ArrayList", name := "<init>", desc := "(Ljava/util/Collection;)V" } : Jvm.MethodName) jdk_38_method_3_code (3 : Nat) (Option.none : Option Jvm.ClassFile.FieldType), Jvm.Cond.code ({ cls := "java/util/Collections$CopiesList", name := "toArray", desc := "()[Ljava/lang/Object;" } : Jvm.MethodName) jdk_2479_method_8_code (2 : Nat) (Option.some (Jvm.ClassFile.FieldType.array (Jvm.ClassFile.FieldType.object "java/lang/Object"))), Jvm.Cond.code ({ cls := "java/util/Arrays", name := "copyOf", desc := "([Ljava/lang/Object;ILjava/lang/Class;)[Ljava/lang/Object;" } : Jvm.MethodName) jdk_65_method_120_code (4 : Nat) (Option.some (Jvm.ClassFile.FieldType.array (Jvm.ClassFile.FieldType.object "java/lang/Object"))), Jvm.Cond.code ({ cls := "java/lang/Math", name := "min", desc := "(II)I" } : Jvm.MethodName) jdk_29_method_69_code (2 : Nat) (Option.some Jvm.ClassFile.FieldType.int), Jvm.Cond.code ({ cls := "com/example/ruleseer/ruleseer/gdl/GroundNetwork$Atoms", name := "<init>", desc := "(Lcom/example/ruleseer/ruleseer/gdl/Relation;IZ)V" } : Jvm.MethodName) prog_60_method_1_code (4 : Nat) (Option.none : Option Jvm.ClassFile.FieldType), Jvm.Cond.code ({ cls := "java/lang/Record", name := "<init>", desc := "()V" } : Jvm.MethodName) jdk_30_method_1_code (1 : Nat) (Option.none : Option Jvm.ClassFile.FieldType), Jvm.Cond.code ({ cls := "com/example/ruleseer/ruleseer/gdl/GroundNetwork$Atoms", name := "proposition", desc := "(I)I" } : Jvm.MethodName) prog_60_method_2_code (2 : Nat) (Option.some Jvm.ClassFile.FieldType.int)]
set_option maxRecDepth 65536 in
theorem codes_eq : words1.filter isCode = codes1 := rfl
theorem w_codes : ∀ c ∈ words1.filter isCode, c.before args0 about1 = true := by
  rw [codes_eq]
  intro c hc
  simp only [codes1, List.mem_cons, List.not_mem_nil, or_false] at hc
  rcases hc with rfl | rfl | rfl | rfl | rfl | rfl | rfl | rfl | rfl | rfl | rfl | rfl | rfl | rfl | rfl | rfl
  · exact w_c0
  · exact w_c1
  · exact w_c2
  · exact w_c3
  · exact w_c4
  · exact w_c5
  · exact w_c6
  · exact w_c7
  · exact w_c8
  · exact w_c9
  · exact w_c10
  · exact w_c11
  · exact w_c12
  · exact w_c13
  · exact w_c14
  · exact w_c15
set_option maxRecDepth 65536 in
theorem w_t1 : (words1.take 24).all (fun c => isCode c || c.before args0 about1) = true := by decide +kernel
set_option maxRecDepth 65536 in
theorem w_t2 : ((words1.drop 24).take 24).all (fun c => isCode c || c.before args0 about1) = true := by decide +kernel
set_option maxRecDepth 65536 in
theorem w_t3 : (((words1.drop 24).drop 24).take 24).all (fun c => isCode c || c.before args0 about1) = true := by decide +kernel
set_option maxRecDepth 65536 in
theorem w_t4 : ((((words1.drop 24).drop 24).drop 24).take 24).all (fun c => isCode c || c.before args0 about1) = true := by decide +kernel
set_option maxRecDepth 65536 in
theorem w_t5 : (((((words1.drop 24).drop 24).drop 24).drop 24).take 24).all (fun c => isCode c || c.before args0 about1) = true := by decide +kernel
set_option maxRecDepth 65536 in
theorem w_t6 : (((((words1.drop 24).drop 24).drop 24).drop 24).drop 24).all (fun c => isCode c || c.before args0 about1) = true := by decide +kernel
theorem w_tables : (allAtoms (Jvm.Cond.code x code maxLocals ret :: tables_1)).before args0 about1 = true := by
  rw [allAtoms_all]
  show words1.all (fun c => c.before args0 about1) = true
  refine all_split ?_ w_codes
  rw [← List.take_append_drop 24 words1, List.all_append, w_t1, ← List.take_append_drop 24 (words1.drop 24), List.all_append, w_t2, ← List.take_append_drop 24 ((words1.drop 24).drop 24), List.all_append, w_t3, ← List.take_append_drop 24 (((words1.drop 24).drop 24).drop 24), List.all_append, w_t4, ← List.take_append_drop 24 ((((words1.drop 24).drop 24).drop 24).drop 24), List.all_append, w_t5, w_t6]
  rfl
set_option maxRecDepth 65536 in
theorem w_rest : rest_1_c.before args0 about1 = true := by decide +kernel
set_option maxRecDepth 65536 in
theorem w_case : (Jvm.Cond.and given_1 narrow_1).before args0 about1 = true := by decide +kernel
theorem w_applies : (headSpec (Jvm.Cond.code x code maxLocals ret :: tables_1) room_1).applies x e0.platform about1 = true :=
  (Spec.applies_iff w_frames).mpr ⟨w_running, w_runnable, w_alone, w_named, w_hears, w_ripe, w_room, w_tables⟩
theorem atStart : AtStart classFile x code maxLocals ret World_1 tables_1 room_1 Calls_1 rest_1 Pre_1 launch0 p0 e0 about1 theMethod args0 below0 :=
  ⟨lists_1, trivial, launch0.admits_env _ _ _, launch0.least_env, fairChoices_fair.cas, fairChoices_fair.clock, w_frames, w_args, w_heap, w_applies, ⟨⟨17, k17, 2, by decide +kernel, rfl, rfl, _, rfl, rfl⟩, ⟨⟨14, k14, 3, by decide +kernel, rfl, rfl, _, rfl, rfl⟩, ⟨⟨25, k25, 4, by decide +kernel, rfl, rfl, _, rfl, rfl⟩, trivial⟩⟩⟩, w_rest, w_case⟩
end start1
theorem witness_1 : WitnessClaimed_1 := ⟨start1.p0, start1.e0, start1.about1, start1.theMethod, start1.args0, start1.below0, start1.atStart⟩
end Jvm.Pilot.@@N@@
