import JvmDerived
import JvmDerived.Pilot.@@N@@Statement
import JvmDerived.Pilot.@@N@@Code
set_option linter.unusedVariables false
set_option linter.unusedSimpArgs false
namespace Jvm.RoadKit
open Sem ClassFile Op Lib Jvm.Stand Jvm.Free Jvm.LawKit
section New
variable {p : Program} {l : Launch} {e : Env} {R : Room} {s : State} {m : MethodId} {args : Array Value} {below : List Frame} {meth : Method} {c : Code} {T : State} {locs : List Loc} {cells slots : Nat}
theorem retI (X : Stand p l e R s m args below meth c T locs cells slots) (hx : p.tables.exec = Jvm.exec) {pc : Nat} {Ls : Array Slot} {z : Int32} {rest : List Value} (hret : meth.sig.returnType = some .int) (hd : decode c.code pc = .ok (.ireturn, 1)) {fs : List Frame}
    (hl : ∀ (f : JFrame) (acts : List Action), f.method = m → f.locked = none → f.entered = [] → (doReturn e (T.setTop f) acts (some (.int z))).1 = T.setFrames fs) : Steps p.tables e below (T.setTop (mkF m pc Ls (.int z :: rest))) (T.setFrames fs) := by
  have hm' : T.vm.method? m = some meth := X.method'
  have hn : narrow .int (.int z) = .int z := rfl
  show Steps p.tables e below (T.setTop { method := m, pc := pc, locals := Ls, stack := _ :: rest, locked := none }) _
  jvm_step X.here [X.here.top, hx, hd, hm', hret, hn]
  first | (intro acts; rw [hl _ acts rfl rfl rfl]) | rw [hl _ _ rfl rfl rfl]
  exact Steps.refl _
end New
end Jvm.RoadKit
namespace Jvm.Pilot.@@N@@
open Jvm Jvm.ClassFile Sem Op Lib Jvm.Free Jvm.Stand Jvm.LawKit Jvm.RoadKit Bundle Jvm.Pilot.@@N@@.Jvm.D
abbrev own_S (p : Program) (e : Env) (below : List Frame) (S T : State) (f : JFrame) : Prop := ∀ tt, Steps p.tables e below (T.setTop f) tt → Steps p.tables e below S tt
theorem own_eqI {args : Array Value} {first s : State} {o : Option Outcome} {idx : List Nat} {t : Term} {k : Int32} (h : (Jvm.Cond.eq t (.int k)).value args first o s idx = some true) : t.eval args first o idx s = some (.int k) := by
  simp only [Jvm.Cond.value, Term.eval] at h
  cases ht : t.eval args first o idx s with
  | none => simp [ht] at h
  | some x => cases x <;> simp [ht] at h ⊢; exact h
theorem own_len {args : Array Value} {s : State} {t : Term} {x : Addr} {cl : Cell} {ty : FieldType} {k : Int32} (ht : t.eval args s none [] s = some (.ref x)) (A : Arr s s.heap x cl ty) (h : (Term.length t).eval args s none [] s = some (.int k)) : cl.slots.size < 2 ^ 31 ∧ cl.slots.size.toInt32 = k := by
  have ha : s.arrayAt? x = some cl := A.fin (State.Warmed39.refl s).alike
  simpa [Term.eval, ht, ha] using h
def own_or (nc : Addr) (w : Value) : Value := if w = .null then .ref nc else w
def own_row (Z : State) (h : Heap) (n0 : Nat) (g bc : Addr) (v : Value) (L : List Value) : Prop := (v = .null ∧ L = [.null, .null, .null, .null]) ∨ (∃ (r : Addr) (kr : ClassId), v = .ref r ∧ Arv Z h r kr (.object "java/util/BitSet") (4 : Int32) L .null ∧ Ovr Z kr "java/util/BitSet" ∧ L.length = 4 ∧ n0 ≤ r ∧ r ≠ g ∧ r ≠ bc)
def own_GR (Z : State) (h : Heap) (n0 : Nat) (g : Addr) (L0 L1 : List Value) : Prop := ∃ (bc : Addr) (kc : ClassId) (v0 v1 : Value), Fld Z h g "com/example/brancher/brancher/service/Group" "choices" "[[Ljava/util/BitSet;" (.ref bc) ∧ Arv Z h bc kc (.array (.object "java/util/BitSet")) (2 : Int32) [v0, v1] .null ∧ OvrA Z kc (.object "java/util/BitSet") "[Ljava/util/BitSet;" ∧ own_row Z h n0 g bc v0 L0 ∧ own_row Z h n0 g bc v1 L1 ∧ (v0 = .null ∨ v0 ≠ v1) ∧ n0 ≤ bc ∧ g ≠ bc ∧ L0.length = 4 ∧ L1.length = 4

theorem pn0 : plainName "java/util/AbstractCollection" = true := by first | (simp [plainName, overriddenIn]; done) | decide +kernel
theorem d12_0 : decode jdk_22_method_1_code 0 = .ok (.aload_n 0, 1) := by decide +kernel
theorem d12_1 : decode jdk_22_method_1_code 1 = .ok (.invokespecial 1, 3) := by decide +kernel
theorem d12_4 : decode jdk_22_method_1_code 4 = .ok (.return_, 1) := by decide +kernel
theorem ef12 (m : MethodId) (x0 : Addr) : entryFrame m #[(.ref x0)] 1 = mkF m 0 #[.val (.ref x0)] [] := by first | (simp [entryFrame, mkF, argsToLocals, Value.category]; done) | rfl
def Q12 (Z : State) (o1 : Addr) (h0 : Heap) (n0 : Nat) (v : Option Value) (h : Heap) (L : List Loc) : Prop := v = none ∧ Fr n0 L ∧ h = h0
set_option maxRecDepth 65536 in
set_option maxHeartbeats 40000000 in
theorem rm12 (l : Launch) (Z : State) (a0 : Array Value) (hw : ∀ d ∈ tables_1, d.before a0 Z = true) (ws : List Jvm.Cond) (o1 : Addr) (h0 : Heap) (n0 : Nat) (Z0 : n0 ≤ h0.size) :
    MetFree l (⟨"java/util/AbstractCollection", "<init>", "()V"⟩ : MethodName) (head1 (Jvm.Cond.code (⟨"java/util/AbstractCollection", "<init>", "()V"⟩ : MethodName) jdk_22_method_1_code 1 none :: ws) ({ frames := 1, cells := 0, slots := 0, locals := 12 } : Room)) (fun aa UU => aa = #[(.ref o1)] ∧ Z.Warmed39 UU.vm ∧ UU.heap = h0) (fun _ _ _ _ _ => True) (fun _ UU oo UU' => ∃ vv LL, oo = .returned vv ∧ Q12 Z o1 h0 n0 vv UU'.heap LL ∧ FrameEnd UU oo UU' LL ({ frames := 1, cells := 0, slots := 0, locals := 12 } : Room).cells ({ frames := 1, cells := 0, slots := 0, locals := 12 } : Room).slots) := by
  have W : ∀ {d : Jvm.Cond} (i : Nat), tables_1[i]? = some d → d.before a0 Z = true := fun i h => hw _ (List.mem_of_getElem? h)
  refine MetFree.of_bodySF (plainFor_of_name pn0) hisR ?_
  intro p e s m args below meth c s₁ Bd hml0 hP hK
  obtain ⟨rfl, hZ, hh⟩ := hP
  have hx := Bd.exec
  have hby := Bd.bytes
  have hml : c.maxLocals = 1 := hml0
  have hown : s.vm.findClass "java/util/AbstractCollection" = some m.cls := findClass_of_methodNamed Bd.named
  have hnm := (name_of_methodNamed Bd.named Bd.method).1
  have X0 : Stand p l e ({ frames := 1, cells := 0, slots := 0, locals := 12 } : Room) s m #[(.ref o1)] below meth c s₁ [] 0 0 := Stand.of_body Bd
  have e0 : s₁.heap = h0 := by rw [← hh, Bd.state]; rfl
  have N0 := Fr.nil n0
  have pre0 : ∀ tt, Steps p.tables e below (s₁.setTop (mkF m 0 #[rv o1] [])) tt → Steps p.tables e below (s₁.setTop (entryFrame m #[(.ref o1)] 1)) tt := fun tt kt => castTop (ef12 m o1) kt
  obtain ⟨ST, hST⟩ : ∃ z : State, z = s₁.setTop (mkF m 0 #[rv o1] []) := ⟨_, rfl⟩
  rw [← hST] at pre0
  have go101 : own_S p e below ST s₁ (mkF m 1 #[rv o1] [(.ref o1)]) := fun tt kt => (by
      rw [hST]
      show Steps p.tables e below (s₁.setTop (mkF m 0 #[rv o1] [])) _
      refine XS.aloadN X0.here hx rfl (hb hby d12_0) rfl rfl ?_
      exact kt)
  obtain ⟨T102, X102, e102, st102⟩ := initO X0 hx hZ hown (W 70 rfl) (W 7 rfl) (W 8 rfl) e0 (g := (mkF m 1 #[rv o1] [(.ref o1)])) rfl (by rw [hml]; rfl) rfl (hb hby d12_1) (by decide) (W := 0) (by show 2 * 0 + _ ≤ _; exact Nat.le_of_eq rfl) (by decide)
  have go103 : own_S p e below ST T102 (mkF m 4 #[rv o1] []) := fun tt kt => go101 tt (st102 _ kt)
  obtain ⟨fs, hr, hrun, hended, hW, hsame⟩ := X102.leave (v := none) (fun _ => rfl) (hlocks := by first | exact BodyLoose.notSynchronized Bd | exact Body.notSynchronized Bd)
  refine ⟨_, _, pre0 _ (go103 _ ?_), hrun, hended, _, _, rfl, ?_, ⟨_, rfl⟩, hW, hsame.mono (by decide) (by decide)⟩
  · exact X102.returnOut hx Bd.returns (hb hby d12_4) hr
  · show Q12 Z o1 h0 n0 _ T102.heap _
    rw [e102]
    exact ⟨rfl, N0, rfl⟩
theorem pn4 : plainName "java/util/AbstractList" = true := by first | (simp [plainName, overriddenIn]; done) | decide +kernel
theorem d11_0 : decode jdk_39_method_1_code 0 = .ok (.aload_n 0, 1) := by decide +kernel
theorem d11_1 : decode jdk_39_method_1_code 1 = .ok (.invokespecial 1, 3) := by decide +kernel
theorem pd7 : parseMethodDescriptor "()V" = some ⟨[], none⟩ := by decide +kernel
theorem d11_4 : decode jdk_39_method_1_code 4 = .ok (.aload_n 0, 1) := by decide +kernel
theorem d11_5 : decode jdk_39_method_1_code 5 = .ok (.iconst 0, 1) := by decide +kernel
theorem d11_6 : decode jdk_39_method_1_code 6 = .ok (.putfield 7, 3) := by decide +kernel
theorem d11_9 : decode jdk_39_method_1_code 9 = .ok (.return_, 1) := by decide +kernel
theorem ef11 (m : MethodId) (x0 : Addr) : entryFrame m #[(.ref x0)] 1 = mkF m 0 #[.val (.ref x0)] [] := by first | (simp [entryFrame, mkF, argsToLocals, Value.category]; done) | rfl
def Q11 (Z : State) (o1 : Addr) (h0 : Heap) (n0 : Nat) (v : Option Value) (h : Heap) (L : List Loc) : Prop := v = none ∧ Fr n0 L ∧ Keep h0 h [o1] ∧ Fld Z h o1 "java/util/AbstractList" "modCount" "I" (.int (0 : Int32)) ∧ Fld Z h o1 "java/util/ArrayList" "elementData" "[Ljava/lang/Object;" .null ∧ Fld Z h o1 "java/util/ArrayList" "size" "I" (.int (0 : Int32))
set_option maxRecDepth 65536 in
set_option maxHeartbeats 40000000 in
theorem rm11 (l : Launch) (Z : State) (a0 : Array Value) (hw : ∀ d ∈ tables_1, d.before a0 Z = true) (ws : List Jvm.Cond) (o1 : Addr) (h0 : Heap) (n0 : Nat) (Z0 : n0 ≤ h0.size) (F1 : Fld Z h0 o1 "java/util/AbstractList" "modCount" "I" (.int (0 : Int32))) (F2 : Fld Z h0 o1 "java/util/ArrayList" "elementData" "[Ljava/lang/Object;" .null) (F3 : Fld Z h0 o1 "java/util/ArrayList" "size" "I" (.int (0 : Int32))) (E1 : Exa Z h0 o1 "java/util/ArrayList") (g1 : n0 ≤ o1) :
    MetFree l (⟨"java/util/AbstractList", "<init>", "()V"⟩ : MethodName) (head1 (Jvm.Cond.code (⟨"java/util/AbstractList", "<init>", "()V"⟩ : MethodName) jdk_39_method_1_code 1 none :: ws) ({ frames := 2, cells := 0, slots := 0, locals := 24 } : Room)) (fun aa UU => aa = #[(.ref o1)] ∧ Z.Warmed39 UU.vm ∧ UU.heap = h0) (fun _ _ _ _ _ => True) (fun _ UU oo UU' => ∃ vv LL, oo = .returned vv ∧ Q11 Z o1 h0 n0 vv UU'.heap LL ∧ FrameEnd UU oo UU' LL ({ frames := 2, cells := 0, slots := 0, locals := 24 } : Room).cells ({ frames := 2, cells := 0, slots := 0, locals := 24 } : Room).slots) := by
  have W : ∀ {d : Jvm.Cond} (i : Nat), tables_1[i]? = some d → d.before a0 Z = true := fun i h => hw _ (List.mem_of_getElem? h)
  refine MetFree.of_bodySF (plainFor_of_name pn4) hisR ?_
  intro p e s m args below meth c s₁ Bd hml0 hP hK
  obtain ⟨rfl, hZ, hh⟩ := hP
  have hx := Bd.exec
  have hby := Bd.bytes
  have hml : c.maxLocals = 1 := hml0
  have hown : s.vm.findClass "java/util/AbstractList" = some m.cls := findClass_of_methodNamed Bd.named
  have hnm := (name_of_methodNamed Bd.named Bd.method).1
  have X0 : Stand p l e ({ frames := 2, cells := 0, slots := 0, locals := 24 } : Room) s m #[(.ref o1)] below meth c s₁ [] 0 0 := Stand.of_body Bd
  have e0 : s₁.heap = h0 := by rw [← hh, Bd.state]; rfl
  have N0 := Fr.nil n0
  have pre0 : ∀ tt, Steps p.tables e below (s₁.setTop (mkF m 0 #[rv o1] [])) tt → Steps p.tables e below (s₁.setTop (entryFrame m #[(.ref o1)] 1)) tt := fun tt kt => castTop (ef11 m o1) kt
  obtain ⟨ST, hST⟩ : ∃ z : State, z = s₁.setTop (mkF m 0 #[rv o1] []) := ⟨_, rfl⟩
  rw [← hST] at pre0
  have KC0 : Keep h0 h0 [o1] := Keep.refl h0 [o1]
  have go104 : own_S p e below ST s₁ (mkF m 1 #[rv o1] [(.ref o1)]) := fun tt kt => (by
      rw [hST]
      show Steps p.tables e below (s₁.setTop (mkF m 0 #[rv o1] [])) _
      refine XS.aloadN X0.here hx rfl (hb hby d11_0) rfl rfl ?_
      exact kt)
  obtain ⟨_, _, ⟨T105, L105, k105, n105⟩, -, X105, ⟨Lc105, hQ105, l105, y105, z105⟩, st105⟩ := X0.specialBack hx (y := (⟨"java/util/AbstractCollection", "<init>", "()V"⟩ : MethodName)) rfl hown (mvT hZ (W 64 rfl)) (mvT hZ (W 65 rfl)) (mvT hZ (W 69 rfl)) (by decide) (backOf (W := 0) (rm12 l Z a0 hw [] o1 h0 n0 Z0 ) hZ (W 69 rfl) (W 68 rfl) (by decide) (by decide)) (g := (mkF m 1 #[rv o1] [(.ref o1)])) rfl (by rw [hml]; rfl) (Steps.refl _) (a := o1) (argsL := []) (rest := []) (lenOf pd7 rfl) rfl (by show 2 * 0 + _ ≤ _; exact Nat.le_of_eq rfl) (hb hby d11_1) (fun _ _ => ⟨rfl, e0, (by decide : 0 + 0 ≤ _), (by decide : 0 + 0 ≤ _)⟩)
  dsimp only [Pt.U, Pt.locs, Pt.cells, Pt.slots] at X105 l105 y105 z105 st105 hQ105
  subst l105 y105 z105
  obtain ⟨rfl, Nq105, eh105⟩ := hQ105
  have N105 := Fr.app N0 Nq105
  have go106 : own_S p e below ST T105 (mkF m 4 #[rv o1] []) := fun tt kt => go104 tt (st105.trans kt)
  have go107 : own_S p e below ST T105 (mkF m 6 #[rv o1] [(.int (0 : Int32)), (.ref o1)]) := fun tt kt => go106 tt (by
      refine XS.aloadN X105.here hx rfl (hb hby d11_4) rfl rfl ?_
      refine XS.iconst X105.here hx rfl (hb hby d11_5) ?_
      exact kt)
  obtain ⟨T108, h108, X108, e108, W108, st108⟩ := putF X105 hx hZ hown (host := "") (Or.inl (W 71 rfl)) Via.refl eh105 F1 E1 (Or.inl (W 72 rfl)) (W 53 rfl) (ty := .int) (by decide) rfl rfl (g := (mkF m 6 #[rv o1] [(.int (0 : Int32)), (.ref o1)])) rfl rfl (hb hby d11_6)
  have Fw108 := F1.same W108
  have N108 := Fr.snoc X108 N105 g1
  have go109 : own_S p e below ST T108 (mkF m 9 #[rv o1] []) := fun tt kt => go107 tt (st108 _ kt)
  have KC108 : Keep h0 h108 [o1] := KC0.wr W108 (Or.inl (List.mem_of_getElem? (i := 0) rfl))
  have f110 := (F2.other W108 (Or.inr (slot_ne (Or.inl (W 75 rfl)) (Or.inl (W 72 rfl)) (by decide) (t := (.array (.object "java/lang/Object"))) (t' := .int) (by decide) (by decide))))
  have f111 := (F3.other W108 (Or.inr (slot_ne (Or.inl (W 121 rfl)) (Or.inl (W 72 rfl)) (by decide) (t := .int) (t' := .int) (by decide) (by decide))))
  obtain ⟨fs, hr, hrun, hended, hW, hsame⟩ := X108.leave (v := none) (fun _ => rfl) (hlocks := by first | exact BodyLoose.notSynchronized Bd | exact Body.notSynchronized Bd)
  refine ⟨_, _, pre0 _ (go109 _ ?_), hrun, hended, _, _, rfl, ?_, ⟨_, rfl⟩, hW, hsame.mono (by decide) (by decide)⟩
  · exact X108.returnOut hx Bd.returns (hb hby d11_9) hr
  · show Q11 Z o1 h0 n0 _ T108.heap _
    rw [e108]
    exact ⟨rfl, N108, KC108, Fw108, f110, f111⟩
theorem pn12 : plainName "java/util/ArrayList" = true := by first | (simp [plainName, overriddenIn]; done) | decide +kernel
theorem d10_0 : decode jdk_38_method_2_code 0 = .ok (.aload_n 0, 1) := by decide +kernel
theorem d10_1 : decode jdk_38_method_2_code 1 = .ok (.invokespecial 1, 3) := by decide +kernel
theorem d10_4 : decode jdk_38_method_2_code 4 = .ok (.aload_n 0, 1) := by decide +kernel
theorem d10_5 : decode jdk_38_method_2_code 5 = .ok (.getstatic 39, 3) := by decide +kernel
theorem d10_8 : decode jdk_38_method_2_code 8 = .ok (.putfield 9, 3) := by decide +kernel
theorem d10_11 : decode jdk_38_method_2_code 11 = .ok (.return_, 1) := by decide +kernel
theorem ef10 (m : MethodId) (x0 : Addr) : entryFrame m #[(.ref x0)] 1 = mkF m 0 #[.val (.ref x0)] [] := by first | (simp [entryFrame, mkF, argsToLocals, Value.category]; done) | rfl
def Q10 (Z : State) (o1 : Addr) (ad : Addr) (h0 : Heap) (n0 : Nat) (v : Option Value) (h : Heap) (L : List Loc) : Prop := v = none ∧ Fr n0 L ∧ Keep h0 h [o1] ∧ Fld Z h o1 "java/util/AbstractList" "modCount" "I" (.int (0 : Int32)) ∧ Fld Z h o1 "java/util/ArrayList" "elementData" "[Ljava/lang/Object;" (.ref ad) ∧ Fld Z h o1 "java/util/ArrayList" "size" "I" (.int (0 : Int32))
set_option maxRecDepth 65536 in
set_option maxHeartbeats 40000000 in
theorem rm10 (l : Launch) (Z : State) (a0 : Array Value) (hw : ∀ d ∈ tables_1, d.before a0 Z = true) (ws : List Jvm.Cond) (o1 : Addr) (ad : Addr) (h0 : Heap) (n0 : Nat) (Z0 : n0 ≤ h0.size) (F1 : Fld Z h0 o1 "java/util/AbstractList" "modCount" "I" (.int (0 : Int32))) (F2 : Fld Z h0 o1 "java/util/ArrayList" "elementData" "[Ljava/lang/Object;" .null) (F3 : Fld Z h0 o1 "java/util/ArrayList" "size" "I" (.int (0 : Int32))) (E1 : Exa Z h0 o1 "java/util/ArrayList") (g1 : n0 ≤ o1) (SD : Sta Z Z.heap "java/util/ArrayList" "DEFAULTCAPACITY_EMPTY_ELEMENTDATA" "[Ljava/lang/Object;" (.ref ad)) (OL : Old Z n0 h0) :
    MetFree l (⟨"java/util/ArrayList", "<init>", "()V"⟩ : MethodName) (head1 (Jvm.Cond.code (⟨"java/util/ArrayList", "<init>", "()V"⟩ : MethodName) jdk_38_method_2_code 1 none :: ws) ({ frames := 3, cells := 0, slots := 0, locals := 36 } : Room)) (fun aa UU => aa = #[(.ref o1)] ∧ Z.Warmed39 UU.vm ∧ UU.heap = h0) (fun _ _ _ _ _ => True) (fun _ UU oo UU' => ∃ vv LL, oo = .returned vv ∧ Q10 Z o1 ad h0 n0 vv UU'.heap LL ∧ FrameEnd UU oo UU' LL ({ frames := 3, cells := 0, slots := 0, locals := 36 } : Room).cells ({ frames := 3, cells := 0, slots := 0, locals := 36 } : Room).slots) := by
  have W : ∀ {d : Jvm.Cond} (i : Nat), tables_1[i]? = some d → d.before a0 Z = true := fun i h => hw _ (List.mem_of_getElem? h)
  refine MetFree.of_bodySF (plainFor_of_name pn12) hisR ?_
  intro p e s m args below meth c s₁ Bd hml0 hP hK
  obtain ⟨rfl, hZ, hh⟩ := hP
  have hx := Bd.exec
  have hby := Bd.bytes
  have hml : c.maxLocals = 1 := hml0
  have hown : s.vm.findClass "java/util/ArrayList" = some m.cls := findClass_of_methodNamed Bd.named
  have hnm := (name_of_methodNamed Bd.named Bd.method).1
  have X0 : Stand p l e ({ frames := 3, cells := 0, slots := 0, locals := 36 } : Room) s m #[(.ref o1)] below meth c s₁ [] 0 0 := Stand.of_body Bd
  have e0 : s₁.heap = h0 := by rw [← hh, Bd.state]; rfl
  have N0 := Fr.nil n0
  have pre0 : ∀ tt, Steps p.tables e below (s₁.setTop (mkF m 0 #[rv o1] [])) tt → Steps p.tables e below (s₁.setTop (entryFrame m #[(.ref o1)] 1)) tt := fun tt kt => castTop (ef10 m o1) kt
  obtain ⟨ST, hST⟩ : ∃ z : State, z = s₁.setTop (mkF m 0 #[rv o1] []) := ⟨_, rfl⟩
  rw [← hST] at pre0
  have KC0 : Keep h0 h0 [o1] := Keep.refl h0 [o1]
  have go112 : own_S p e below ST s₁ (mkF m 1 #[rv o1] [(.ref o1)]) := fun tt kt => (by
      rw [hST]
      show Steps p.tables e below (s₁.setTop (mkF m 0 #[rv o1] [])) _
      refine XS.aloadN X0.here hx rfl (hb hby d10_0) rfl rfl ?_
      exact kt)
  obtain ⟨_, _, ⟨T113, L113, k113, n113⟩, -, X113, ⟨Lc113, hQ113, l113, y113, z113⟩, st113⟩ := X0.specialBack hx (y := (⟨"java/util/AbstractList", "<init>", "()V"⟩ : MethodName)) rfl hown (mvT hZ (W 58 rfl)) (mvT hZ (W 59 rfl)) (mvT hZ (W 63 rfl)) (by decide) (backOf (W := 0) (rm11 l Z a0 hw [] o1 h0 n0 Z0 F1 F2 F3 E1 g1) hZ (W 63 rfl) (W 62 rfl) (by decide) (by decide)) (g := (mkF m 1 #[rv o1] [(.ref o1)])) rfl (by rw [hml]; rfl) (Steps.refl _) (a := o1) (argsL := []) (rest := []) (lenOf pd7 rfl) rfl (by show 2 * 0 + _ ≤ _; exact Nat.le_of_eq rfl) (hb hby d10_1) (fun _ _ => ⟨rfl, e0, (by decide : 0 + 0 ≤ _), (by decide : 0 + 0 ≤ _)⟩)
  dsimp only [Pt.U, Pt.locs, Pt.cells, Pt.slots] at X113 l113 y113 z113 st113 hQ113
  subst l113 y113 z113
  obtain ⟨rfl, Nq113, K113, Fa113, Fb113, Fc113⟩ := hQ113
  have N113 := Fr.app N0 Nq113
  have go114 : own_S p e below ST T113 (mkF m 4 #[rv o1] []) := fun tt kt => go112 tt (st113.trans kt)
  have KC113 : Keep h0 T113.heap [o1] := KC0.trans K113 (allS (Or.inl (List.mem_of_getElem? (i := 0) rfl)) all0)
  have go115 : own_S p e below ST T113 (mkF m 5 #[rv o1] [(.ref o1)]) := fun tt kt => go114 tt (by
      refine XS.aloadN X113.here hx rfl (hb hby d10_4) rfl rfl ?_
      exact kt)
  have f117 := (OL.keep K113 (allS g1 all0))
  obtain ⟨T116, X116, e116, st116⟩ := getS2 X113 hx hZ hown (host := "") (Or.inl (W 73 rfl)) Via.refl rfl (SD.ext f117.2) (g := (mkF m 5 #[rv o1] [(.ref o1)])) rfl (hb hby d10_5)
  have go118 : own_S p e below ST T116 (mkF m 8 #[rv o1] [(.ref ad), (.ref o1)]) := fun tt kt => go115 tt (st116 _ kt)
  have f120 := (E1.keep K113)
  obtain ⟨T119, h119, X119, e119, W119, st119⟩ := putF X116 hx hZ hown (host := "") (Or.inl (W 74 rfl)) Via.refl e116 Fb113 f120 (Or.inl (W 75 rfl)) (W 53 rfl) (ty := (.array (.object "java/lang/Object"))) (by decide) rfl rfl (g := (mkF m 8 #[rv o1] [(.ref ad), (.ref o1)])) rfl rfl (hb hby d10_8)
  have Fw119 := Fb113.same W119
  have N119 := Fr.snoc X119 N113 g1
  have go121 : own_S p e below ST T119 (mkF m 11 #[rv o1] []) := fun tt kt => go118 tt (st119 _ kt)
  have KC119 : Keep h0 h119 [o1] := KC113.wr W119 (Or.inl (List.mem_of_getElem? (i := 0) rfl))
  have f122 := (Fa113.other W119 (Or.inr (slot_ne (Or.inl (W 72 rfl)) (Or.inl (W 75 rfl)) (by decide) (t := .int) (t' := (.array (.object "java/lang/Object"))) (by decide) (by decide))))
  have f123 := (Fc113.other W119 (Or.inr (slot_ne (Or.inl (W 121 rfl)) (Or.inl (W 75 rfl)) (by decide) (t := .int) (t' := (.array (.object "java/lang/Object"))) (by decide) (by decide))))
  obtain ⟨fs, hr, hrun, hended, hW, hsame⟩ := X119.leave (v := none) (fun _ => rfl) (hlocks := by first | exact BodyLoose.notSynchronized Bd | exact Body.notSynchronized Bd)
  refine ⟨_, _, pre0 _ (go121 _ ?_), hrun, hended, _, _, rfl, ?_, ⟨_, rfl⟩, hW, hsame.mono (by decide) (by decide)⟩
  · exact X119.returnOut hx Bd.returns (hb hby d10_11) hr
  · show Q10 Z o1 ad h0 n0 _ T119.heap _
    rw [e119]
    exact ⟨rfl, N119, KC119, f122, Fw119, f123⟩
theorem d18_0 : decode jdk_29_method_65_code 0 = .ok (.iload_n 0, 1) := by decide +kernel
theorem d18_1 : decode jdk_29_method_65_code 1 = .ok (.iload_n 1, 1) := by decide +kernel
theorem d18_2 : decode jdk_29_method_65_code 2 = .ok (.if_icmp .lt 7, 3) := by decide +kernel
theorem d18_5 : decode jdk_29_method_65_code 5 = .ok (.iload_n 0, 1) := by decide +kernel
theorem d18_6 : decode jdk_29_method_65_code 6 = .ok (.goto 4, 3) := by decide +kernel
theorem d18_10 : decode jdk_29_method_65_code 10 = .ok (.ireturn, 1) := by decide +kernel
theorem ef18 (m : MethodId) (x0 : Int32) (x1 : Int32) : entryFrame m #[(.int x0), (.int x1)] 2 = mkF m 0 #[.val (.int x0), .val (.int x1)] [] := by first | (simp [entryFrame, mkF, argsToLocals, Value.category]; done) | rfl
def Q18 (Z : State)  (h0 : Heap) (n0 : Nat) (v : Option Value) (h : Heap) (L : List Loc) : Prop := v = some (.int 10) ∧ Fr n0 L ∧ h = h0
set_option maxRecDepth 65536 in
set_option maxHeartbeats 40000000 in
theorem rm18 (l : Launch) (Z : State) (a0 : Array Value) (hw : ∀ d ∈ tables_1, d.before a0 Z = true) (ws : List Jvm.Cond)  (h0 : Heap) (n0 : Nat) (Z0 : n0 ≤ h0.size) :
    MetFree l (⟨"java/lang/Math", "max", "(II)I"⟩ : MethodName) (head1 (Jvm.Cond.code (⟨"java/lang/Math", "max", "(II)I"⟩ : MethodName) jdk_29_method_65_code 2 (some .int) :: ws) ({ frames := 0, cells := 0, slots := 0, locals := 0 } : Room)) (fun aa UU => aa = #[(.int (10 : Int32)), (.int (1 : Int32))] ∧ Z.Warmed39 UU.vm ∧ UU.heap = h0) (fun _ _ _ _ _ => True) (fun _ UU oo UU' => ∃ vv LL, oo = .returned vv ∧ Q18 Z  h0 n0 vv UU'.heap LL ∧ FrameEnd UU oo UU' LL ({ frames := 0, cells := 0, slots := 0, locals := 0 } : Room).cells ({ frames := 0, cells := 0, slots := 0, locals := 0 } : Room).slots) := by
  have W : ∀ {d : Jvm.Cond} (i : Nat), tables_1[i]? = some d → d.before a0 Z = true := fun i h => hw _ (List.mem_of_getElem? h)
  refine MetFree.of_bodySF (Jvm.Free.JP.mathPlain rfl (by decide +kernel)) hisR ?_
  intro p e s m args below meth c s₁ Bd hml0 hP hK
  obtain ⟨rfl, hZ, hh⟩ := hP
  have hx := Bd.exec
  have hby := Bd.bytes
  have hml : c.maxLocals = 2 := hml0
  have hown : s.vm.findClass "java/lang/Math" = some m.cls := findClass_of_methodNamed Bd.named
  have hnm := (name_of_methodNamed Bd.named Bd.method).1
  have X0 : Stand p l e ({ frames := 0, cells := 0, slots := 0, locals := 0 } : Room) s m #[(.int (10 : Int32)), (.int (1 : Int32))] below meth c s₁ [] 0 0 := Stand.of_body Bd
  have e0 : s₁.heap = h0 := by rw [← hh, Bd.state]; rfl
  have N0 := Fr.nil n0
  have pre0 : ∀ tt, Steps p.tables e below (s₁.setTop (mkF m 0 #[iv (10 : Int32), iv (1 : Int32)] [])) tt → Steps p.tables e below (s₁.setTop (entryFrame m #[(.int (10 : Int32)), (.int (1 : Int32))] 2)) tt := fun tt kt => castTop (ef18 m (10 : Int32) (1 : Int32)) kt
  obtain ⟨ST, hST⟩ : ∃ z : State, z = s₁.setTop (mkF m 0 #[iv (10 : Int32), iv (1 : Int32)] []) := ⟨_, rfl⟩
  rw [← hST] at pre0
  have go124 : own_S p e below ST s₁ (mkF m 10 #[iv (10 : Int32), iv (1 : Int32)] [(.int (10 : Int32))]) := fun tt kt => (by
      rw [hST]
      show Steps p.tables e below (s₁.setTop (mkF m 0 #[iv (10 : Int32), iv (1 : Int32)] [])) _
      refine XS.iloadN X0.here hx rfl (hb hby d18_0) rfl ?_
      refine XS.iloadN X0.here hx rfl (hb hby d18_1) rfl ?_
      refine XS.icmpNo X0.here hx rfl (hb hby d18_2) rfl (flt (by decide : ¬ ((10 : Int32) < (1 : Int32)))).1 ?_
      refine XS.iloadN X0.here hx rfl (hb hby d18_5) rfl ?_
      refine XS.goto X0.here hx rfl (pc0 := 6) (pc' := 10) rfl (hb hby d18_6) (by decide) (by decide) ?_
      exact kt)
  obtain ⟨fs, hr, hrun, hended, hW, hsame⟩ := X0.leave (v := some (.int (10 : Int32))) (fun h => by rw [Bd.returns] at h; cases h) (hlocks := by first | exact BodyLoose.notSynchronized Bd | exact Body.notSynchronized Bd)
  refine ⟨_, _, pre0 _ (go124 _ ?_), hrun, hended, _, _, rfl, ?_, ⟨_, rfl⟩, hW, hsame.mono (by decide) (by decide)⟩
  · exact retI X0 hx Bd.returns (hb hby d18_10) hr
  · show Q18 Z  h0 n0 _ s₁.heap _
    rw [e0]
    exact ⟨rfl, N0, rfl⟩
theorem d17_0 : decode jdk_38_method_6_code 0 = .ok (.aload_n 0, 1) := by decide +kernel
theorem d17_1 : decode jdk_38_method_6_code 1 = .ok (.getfield 9, 3) := by decide +kernel
theorem d17_4 : decode jdk_38_method_6_code 4 = .ok (.arraylength, 1) := by decide +kernel
theorem d17_5 : decode jdk_38_method_6_code 5 = .ok (.istore_n 2, 1) := by decide +kernel
theorem d17_6 : decode jdk_38_method_6_code 6 = .ok (.iload_n 2, 1) := by decide +kernel
theorem d17_7 : decode jdk_38_method_6_code 7 = .ok (.ifCond .gt 13, 3) := by decide +kernel
theorem d17_10 : decode jdk_38_method_6_code 10 = .ok (.aload_n 0, 1) := by decide +kernel
theorem d17_11 : decode jdk_38_method_6_code 11 = .ok (.getfield 9, 3) := by decide +kernel
theorem d17_14 : decode jdk_38_method_6_code 14 = .ok (.getstatic 39, 3) := by decide +kernel
theorem d17_17 : decode jdk_38_method_6_code 17 = .ok (.if_acmp .eq 28, 3) := by decide +kernel
theorem d17_45 : decode jdk_38_method_6_code 45 = .ok (.aload_n 0, 1) := by decide +kernel
theorem d17_46 : decode jdk_38_method_6_code 46 = .ok (.bipush 10, 2) := by decide +kernel
theorem d17_48 : decode jdk_38_method_6_code 48 = .ok (.iload_n 1, 1) := by decide +kernel
theorem d17_49 : decode jdk_38_method_6_code 49 = .ok (.invokestatic 79, 3) := by decide +kernel
theorem pd39 : parseMethodDescriptor "(II)I" = some ⟨[.int, .int], some .int⟩ := by decide +kernel
theorem d17_52 : decode jdk_38_method_6_code 52 = .ok (.anewarray 7, 3) := by decide +kernel
theorem d17_55 : decode jdk_38_method_6_code 55 = .ok (.dup_x1, 1) := by decide +kernel
theorem d17_56 : decode jdk_38_method_6_code 56 = .ok (.putfield 9, 3) := by decide +kernel
theorem d17_59 : decode jdk_38_method_6_code 59 = .ok (.areturn, 1) := by decide +kernel
theorem ef17 (m : MethodId) (x0 : Addr) (x1 : Int32) : entryFrame m #[(.ref x0), (.int x1)] 4 = mkF m 0 #[.val (.ref x0), .val (.int x1), .unset, .unset] [] := by first | (simp [entryFrame, mkF, argsToLocals, Value.category]; done) | rfl
def Q17 (Z : State) (o1 : Addr) (mc : Int32) (ad : Addr) (kd : ClassId) (h0 : Heap) (n0 : Nat) (v : Option Value) (h : Heap) (L : List Loc) : Prop := ∃ (b : Addr) (kb : ClassId), v = some (.ref b) ∧ Fr n0 L ∧ Keep h0 h [o1] ∧ Fld Z h o1 "java/util/AbstractList" "modCount" "I" (.int mc) ∧ Fld Z h o1 "java/util/ArrayList" "elementData" "[Ljava/lang/Object;" (.ref b) ∧ Fld Z h o1 "java/util/ArrayList" "size" "I" (.int (0 : Int32)) ∧ Arv Z h b kb (.object "java/lang/Object") (10 : Int32) [.null, .null] .null ∧ n0 ≤ b ∧ h0.size ≤ b ∧ o1 ≠ b ∧ Ovr Z kb "java/lang/Object"
set_option maxRecDepth 65536 in
set_option maxHeartbeats 40000000 in
theorem rm17 (l : Launch) (Z : State) (a0 : Array Value) (hw : ∀ d ∈ tables_1, d.before a0 Z = true) (ws : List Jvm.Cond) (o1 : Addr) (mc : Int32) (ad : Addr) (kd : ClassId) (h0 : Heap) (n0 : Nat) (Z0 : n0 ≤ h0.size) (F1 : Fld Z h0 o1 "java/util/AbstractList" "modCount" "I" (.int mc)) (F2 : Fld Z h0 o1 "java/util/ArrayList" "elementData" "[Ljava/lang/Object;" (.ref ad)) (F3 : Fld Z h0 o1 "java/util/ArrayList" "size" "I" (.int (0 : Int32))) (E1 : Exa Z h0 o1 "java/util/ArrayList") (g1 : n0 ≤ o1) (SD : Sta Z Z.heap "java/util/ArrayList" "DEFAULTCAPACITY_EMPTY_ELEMENTDATA" "[Ljava/lang/Object;" (.ref ad)) (VD : Arv Z Z.heap ad kd (.object "java/lang/Object") (0 : Int32) [] .null) (OL : Old Z n0 h0) :
    MetFree l (⟨"java/util/ArrayList", "grow", "(I)[Ljava/lang/Object;"⟩ : MethodName) (head1 (Jvm.Cond.code (⟨"java/util/ArrayList", "grow", "(I)[Ljava/lang/Object;"⟩ : MethodName) jdk_38_method_6_code 4 (some (.array (.object "java/lang/Object"))) :: ws) ({ frames := 1, cells := 1, slots := 10, locals := 14 } : Room)) (fun aa UU => aa = #[(.ref o1), (.int (1 : Int32))] ∧ Z.Warmed39 UU.vm ∧ UU.heap = h0) (fun _ _ _ _ _ => True) (fun _ UU oo UU' => ∃ vv LL, oo = .returned vv ∧ Q17 Z o1 mc ad kd h0 n0 vv UU'.heap LL ∧ FrameEnd UU oo UU' LL ({ frames := 1, cells := 1, slots := 10, locals := 14 } : Room).cells ({ frames := 1, cells := 1, slots := 10, locals := 14 } : Room).slots) := by
  have W : ∀ {d : Jvm.Cond} (i : Nat), tables_1[i]? = some d → d.before a0 Z = true := fun i h => hw _ (List.mem_of_getElem? h)
  refine MetFree.of_bodySF (plainFor_of_name pn12) hisR ?_
  intro p e s m args below meth c s₁ Bd hml0 hP hK
  obtain ⟨rfl, hZ, hh⟩ := hP
  have hx := Bd.exec
  have hby := Bd.bytes
  have hml : c.maxLocals = 4 := hml0
  have hown : s.vm.findClass "java/util/ArrayList" = some m.cls := findClass_of_methodNamed Bd.named
  have hnm := (name_of_methodNamed Bd.named Bd.method).1
  have X0 : Stand p l e ({ frames := 1, cells := 1, slots := 10, locals := 14 } : Room) s m #[(.ref o1), (.int (1 : Int32))] below meth c s₁ [] 0 0 := Stand.of_body Bd
  have e0 : s₁.heap = h0 := by rw [← hh, Bd.state]; rfl
  have N0 := Fr.nil n0
  have pre0 : ∀ tt, Steps p.tables e below (s₁.setTop (mkF m 0 #[rv o1, iv (1 : Int32), .unset, .unset] [])) tt → Steps p.tables e below (s₁.setTop (entryFrame m #[(.ref o1), (.int (1 : Int32))] 4)) tt := fun tt kt => castTop (ef17 m o1 (1 : Int32)) kt
  obtain ⟨ST, hST⟩ : ∃ z : State, z = s₁.setTop (mkF m 0 #[rv o1, iv (1 : Int32), .unset, .unset] []) := ⟨_, rfl⟩
  rw [← hST] at pre0
  have KC0 : Keep h0 h0 [o1] := Keep.refl h0 [o1]
  have go125 : own_S p e below ST s₁ (mkF m 1 #[rv o1, iv (1 : Int32), .unset, .unset] [(.ref o1)]) := fun tt kt => (by
      rw [hST]
      show Steps p.tables e below (s₁.setTop (mkF m 0 #[rv o1, iv (1 : Int32), .unset, .unset] [])) _
      refine XS.aloadN X0.here hx rfl (hb hby d17_0) rfl rfl ?_
      exact kt)
  obtain ⟨T126, X126, e126, st126⟩ := getF X0 hx hZ hown (host := "") (Or.inl (W 74 rfl)) Via.refl e0 F2 (g := (mkF m 1 #[rv o1, iv (1 : Int32), .unset, .unset] [(.ref o1)])) rfl rfl (hb hby d17_1)
  have go127 : own_S p e below ST T126 (mkF m 4 #[rv o1, iv (1 : Int32), .unset, .unset] [(.ref ad)]) := fun tt kt => go125 tt (st126 _ kt)
  obtain ⟨cl128, Ar128, q128, S128, M128, H128, G128⟩ := id (VD.ext OL.2)
  have go129 : own_S p e below ST T126 (mkF m 5 #[rv o1, iv (1 : Int32), .unset, .unset] [(.int (0 : Int32))]) := fun tt kt => go127 tt (by
      refine X126.arraylength hx (by rw [e126]; exact Ar128.1) (State.isArrayOf_alike hZ.alike Ar128.2.1) (g := (mkF m 4 #[rv o1, iv (1 : Int32), .unset, .unset] [(.ref ad)])) rfl rfl (hb hby d17_4) _ ?_
      rw [len_of S128 M128]
      exact kt)
  have go130 : own_S p e below ST T126 (mkF m 11 #[rv o1, iv (1 : Int32), iv (0 : Int32), .unset] [(.ref o1)]) := fun tt kt => go129 tt (by
      refine XS.istoreN X126.here hx rfl (hb hby d17_5) rfl (l' := #[rv o1, iv (1 : Int32), iv (0 : Int32), .unset]) rfl ?_
      refine XS.iloadN X126.here hx rfl (hb hby d17_6) rfl ?_
      refine XS.ifNo X126.here hx rfl (hb hby d17_7) rfl ((if0 _ _).trans (flt (by decide : ¬ ((0 : Int32) < (0 : Int32)))).2.2.1) ?_
      refine XS.aloadN X126.here hx rfl (hb hby d17_10) rfl rfl ?_
      exact kt)
  obtain ⟨T131, X131, e131, st131⟩ := getF X126 hx hZ hown (host := "") (Or.inl (W 74 rfl)) Via.refl e126 F2 (g := (mkF m 11 #[rv o1, iv (1 : Int32), iv (0 : Int32), .unset] [(.ref o1)])) rfl rfl (hb hby d17_11)
  have go132 : own_S p e below ST T131 (mkF m 14 #[rv o1, iv (1 : Int32), iv (0 : Int32), .unset] [(.ref ad)]) := fun tt kt => go130 tt (st131 _ kt)
  obtain ⟨T133, X133, e133, st133⟩ := getS2 X131 hx hZ hown (host := "") (Or.inl (W 73 rfl)) Via.refl e131 (SD.ext OL.2) (g := (mkF m 14 #[rv o1, iv (1 : Int32), iv (0 : Int32), .unset] [(.ref ad)])) rfl (hb hby d17_14)
  have go134 : own_S p e below ST T133 (mkF m 17 #[rv o1, iv (1 : Int32), iv (0 : Int32), .unset] [(.ref ad), (.ref ad)]) := fun tt kt => go132 tt (st133 _ kt)
  have go135 : own_S p e below ST T133 (mkF m 49 #[rv o1, iv (1 : Int32), iv (0 : Int32), .unset] [(.int (1 : Int32)), (.int (10 : Int32)), (.ref o1)]) := fun tt kt => go134 tt (by
      refine Jvm.RoadKit.acmp (g := (mkF m 17 #[rv o1, iv (1 : Int32), iv (0 : Int32), .unset] [(.ref ad), (.ref ad)])) X133 hx rfl rfl rfl (pc0 := 17) (pc' := 45) (same := true) rfl (hb hby d17_17) rfl (decide_eq_true rfl) (by decide) (by decide) ?_
      refine XS.aloadN X133.here hx rfl (hb hby d17_45) rfl rfl ?_
      refine XS.bipush X133.here hx rfl (hb hby d17_46) ?_
      refine XS.iloadN X133.here hx rfl (hb hby d17_48) rfl ?_
      exact kt)
  obtain ⟨_, _, ⟨T136, L136, k136, n136⟩, -, X136, ⟨Lc136, hQ136, l136, y136, z136⟩, st136⟩ := Jvm.LawKit.callS X133 hx (y := (⟨"java/lang/Math", "max", "(II)I"⟩ : MethodName)) hown (mvT hZ (W 137 rfl)) (mvT hZ (W 138 rfl)) (mvT hZ (W 139 rfl)) (mvT hZ (W 140 rfl)) (by decide) (backOf (W := 1) (rm18 l Z a0 hw []  h0 n0 Z0 ) hZ (W 140 rfl) (W 139 rfl) (by decide) (by decide)) (g := (mkF m 49 #[rv o1, iv (1 : Int32), iv (0 : Int32), .unset] [(.int (1 : Int32)), (.int (10 : Int32)), (.ref o1)])) rfl (by rw [hml]; rfl) (argsL := [(.int (10 : Int32)), (.int (1 : Int32))]) (rest := [(.ref o1)]) (lenOf pd39 rfl) rfl (by show 2 * 0 + _ ≤ _; exact Nat.le_of_eq rfl) (hb hby d17_49) (fun _ _ => ⟨rfl, e133, (by decide : 0 + 0 ≤ _), (by decide : 0 + 0 ≤ _)⟩)
  dsimp only [Pt.U, Pt.locs, Pt.cells, Pt.slots] at X136 l136 y136 z136 st136 hQ136
  subst l136 y136 z136
  obtain ⟨rfl, Nq136, eh136⟩ := hQ136
  have N136 := Fr.app N0 Nq136
  have go137 : own_S p e below ST T136 (mkF m 52 #[rv o1, iv (1 : Int32), iv (0 : Int32), .unset] [(.int (10 : Int32)), (.ref o1)]) := fun tt kt => go135 tt (st136 _ kt)
  obtain ⟨b138, g138⟩ : ∃ z, z = h0.size := ⟨_, rfl⟩
  obtain ⟨T138, h138, k138, X138, e138, E138, A138, O138, st138⟩ := newR X136 hx hZ hown (W 141 rfl) (W 142 rfl) eh136 (g := (mkF m 52 #[rv o1, iv (1 : Int32), iv (0 : Int32), .unset] [(.int (10 : Int32)), (.ref o1)])) rfl (hb hby d17_52) rfl (by decide) (cap := 10) (by decide) (by decide) (by decide) (by decide)
  rw [← g138] at A138 st138
  have neo1_b138 : o1 ≠ b138 := Nat.ne_of_lt (Nat.lt_of_lt_of_le E1.lt (Nat.le_of_eq g138.symm))
  have ge_b138 : n0 ≤ b138 := Nat.le_trans Z0 (Nat.le_of_eq g138.symm)
  have sz_b138 : h0.size ≤ b138 := Nat.le_trans KC0.1 (Nat.le_of_eq g138.symm)
  have V138 : Arv Z h138 b138 k138 (.object "java/lang/Object") (10 : Int32) [.null, .null] .null := (Arv.new A138 (by decide)).pad (pad_rep [] .null 2)
  have KC138 : Keep h0 h138 [o1] := KC0.ext E138
  have go139 : own_S p e below ST T138 (mkF m 55 #[rv o1, iv (1 : Int32), iv (0 : Int32), .unset] [(.ref b138), (.ref o1)]) := fun tt kt => go137 tt (st138 _ kt)
  have go140 : own_S p e below ST T138 (mkF m 56 #[rv o1, iv (1 : Int32), iv (0 : Int32), .unset] [(.ref b138), (.ref o1), (.ref b138)]) := fun tt kt => go139 tt (by
      refine XS.dupX1 X138.here hx rfl (hb hby d17_55) rfl rfl rfl ?_
      exact kt)
  have f142 := (F2.ext E138)
  have f143 := (E1.ext E138)
  obtain ⟨T141, h141, X141, e141, W141, st141⟩ := putF X138 hx hZ hown (host := "") (Or.inl (W 74 rfl)) Via.refl e138 f142 f143 (Or.inl (W 75 rfl)) (W 53 rfl) (ty := (.array (.object "java/lang/Object"))) (by decide) rfl rfl (g := (mkF m 56 #[rv o1, iv (1 : Int32), iv (0 : Int32), .unset] [(.ref b138), (.ref o1), (.ref b138)])) rfl rfl (hb hby d17_56)
  have Fw141 := f142.same W141
  have N141 := Fr.snoc X141 N136 g1
  have go144 : own_S p e below ST T141 (mkF m 59 #[rv o1, iv (1 : Int32), iv (0 : Int32), .unset] [(.ref b138)]) := fun tt kt => go140 tt (st141 _ kt)
  have KC141 : Keep h0 h141 [o1] := KC138.wr W141 (Or.inl (List.mem_of_getElem? (i := 0) rfl))
  have f145 := ((F1.ext E138).other W141 (Or.inr (slot_ne (Or.inl (W 72 rfl)) (Or.inl (W 75 rfl)) (by decide) (t := .int) (t' := (.array (.object "java/lang/Object"))) (by decide) (by decide))))
  have f146 := ((F3.ext E138).other W141 (Or.inr (slot_ne (Or.inl (W 121 rfl)) (Or.inl (W 75 rfl)) (by decide) (t := .int) (t' := (.array (.object "java/lang/Object"))) (by decide) (by decide))))
  have f147 := (V138.other W141 (Ne.symm neo1_b138))
  obtain ⟨fs, hr, hrun, hended, hW, hsame⟩ := X141.leave (v := some (.ref b138)) (fun h => by rw [Bd.returns] at h; cases h) (hlocks := by first | exact BodyLoose.notSynchronized Bd | exact Body.notSynchronized Bd)
  refine ⟨_, _, pre0 _ (go144 _ ?_), hrun, hended, _, _, rfl, ?_, ⟨_, rfl⟩, hW, hsame.mono (by decide) (by decide)⟩
  · exact retOut X141 hx Bd.returns rfl (Or.inr (Or.inr (Or.inr (Or.inr ⟨rfl, rfl, rfl⟩)))) (hb hby d17_59) hr
  · show Q17 Z o1 mc ad kd h0 n0 _ T141.heap _
    rw [e141]
    exact ⟨b138, k138, rfl, N141, KC141, f145, Fw141, f146, f147, ge_b138, sz_b138, neo1_b138, O138⟩
theorem d16_0 : decode jdk_38_method_7_code 0 = .ok (.aload_n 0, 1) := by decide +kernel
theorem d16_1 : decode jdk_38_method_7_code 1 = .ok (.aload_n 0, 1) := by decide +kernel
theorem d16_2 : decode jdk_38_method_7_code 2 = .ok (.getfield 48, 3) := by decide +kernel
theorem d16_5 : decode jdk_38_method_7_code 5 = .ok (.iconst 1, 1) := by decide +kernel
theorem d16_6 : decode jdk_38_method_7_code 6 = .ok (.iadd, 1) := by decide +kernel
theorem d16_7 : decode jdk_38_method_7_code 7 = .ok (.invokevirtual 69, 3) := by decide +kernel
theorem pd50 : parseMethodDescriptor "(I)[Ljava/lang/Object;" = some ⟨[.int], some (.array (.object "java/lang/Object"))⟩ := by decide +kernel
theorem d16_10 : decode jdk_38_method_7_code 10 = .ok (.areturn, 1) := by decide +kernel
theorem ef16 (m : MethodId) (x0 : Addr) : entryFrame m #[(.ref x0)] 1 = mkF m 0 #[.val (.ref x0)] [] := by first | (simp [entryFrame, mkF, argsToLocals, Value.category]; done) | rfl
def Q16 (Z : State) (o1 : Addr) (mc : Int32) (ad : Addr) (kd : ClassId) (h0 : Heap) (n0 : Nat) (v : Option Value) (h : Heap) (L : List Loc) : Prop := ∃ (b : Addr) (kb : ClassId), v = some (.ref b) ∧ Fr n0 L ∧ Keep h0 h [o1] ∧ Fld Z h o1 "java/util/AbstractList" "modCount" "I" (.int mc) ∧ Fld Z h o1 "java/util/ArrayList" "elementData" "[Ljava/lang/Object;" (.ref b) ∧ Fld Z h o1 "java/util/ArrayList" "size" "I" (.int (0 : Int32)) ∧ Arv Z h b kb (.object "java/lang/Object") (10 : Int32) [.null, .null] .null ∧ n0 ≤ b ∧ h0.size ≤ b ∧ o1 ≠ b ∧ Ovr Z kb "java/lang/Object"
set_option maxRecDepth 65536 in
set_option maxHeartbeats 40000000 in
theorem rm16 (l : Launch) (Z : State) (a0 : Array Value) (hw : ∀ d ∈ tables_1, d.before a0 Z = true) (ws : List Jvm.Cond) (o1 : Addr) (mc : Int32) (ad : Addr) (kd : ClassId) (h0 : Heap) (n0 : Nat) (Z0 : n0 ≤ h0.size) (F1 : Fld Z h0 o1 "java/util/AbstractList" "modCount" "I" (.int mc)) (F2 : Fld Z h0 o1 "java/util/ArrayList" "elementData" "[Ljava/lang/Object;" (.ref ad)) (F3 : Fld Z h0 o1 "java/util/ArrayList" "size" "I" (.int (0 : Int32))) (E1 : Exa Z h0 o1 "java/util/ArrayList") (g1 : n0 ≤ o1) (SD : Sta Z Z.heap "java/util/ArrayList" "DEFAULTCAPACITY_EMPTY_ELEMENTDATA" "[Ljava/lang/Object;" (.ref ad)) (VD : Arv Z Z.heap ad kd (.object "java/lang/Object") (0 : Int32) [] .null) (OL : Old Z n0 h0) :
    MetFree l (⟨"java/util/ArrayList", "grow", "()[Ljava/lang/Object;"⟩ : MethodName) (head1 (Jvm.Cond.code (⟨"java/util/ArrayList", "grow", "()[Ljava/lang/Object;"⟩ : MethodName) jdk_38_method_7_code 1 (some (.array (.object "java/lang/Object"))) :: ws) ({ frames := 2, cells := 1, slots := 10, locals := 29 } : Room)) (fun aa UU => aa = #[(.ref o1)] ∧ Z.Warmed39 UU.vm ∧ UU.heap = h0) (fun _ _ _ _ _ => True) (fun _ UU oo UU' => ∃ vv LL, oo = .returned vv ∧ Q16 Z o1 mc ad kd h0 n0 vv UU'.heap LL ∧ FrameEnd UU oo UU' LL ({ frames := 2, cells := 1, slots := 10, locals := 29 } : Room).cells ({ frames := 2, cells := 1, slots := 10, locals := 29 } : Room).slots) := by
  have W : ∀ {d : Jvm.Cond} (i : Nat), tables_1[i]? = some d → d.before a0 Z = true := fun i h => hw _ (List.mem_of_getElem? h)
  refine MetFree.of_bodySF (plainFor_of_name pn12) hisR ?_
  intro p e s m args below meth c s₁ Bd hml0 hP hK
  obtain ⟨rfl, hZ, hh⟩ := hP
  have hx := Bd.exec
  have hby := Bd.bytes
  have hml : c.maxLocals = 1 := hml0
  have hown : s.vm.findClass "java/util/ArrayList" = some m.cls := findClass_of_methodNamed Bd.named
  have hnm := (name_of_methodNamed Bd.named Bd.method).1
  have X0 : Stand p l e ({ frames := 2, cells := 1, slots := 10, locals := 29 } : Room) s m #[(.ref o1)] below meth c s₁ [] 0 0 := Stand.of_body Bd
  have e0 : s₁.heap = h0 := by rw [← hh, Bd.state]; rfl
  have N0 := Fr.nil n0
  have pre0 : ∀ tt, Steps p.tables e below (s₁.setTop (mkF m 0 #[rv o1] [])) tt → Steps p.tables e below (s₁.setTop (entryFrame m #[(.ref o1)] 1)) tt := fun tt kt => castTop (ef16 m o1) kt
  obtain ⟨ST, hST⟩ : ∃ z : State, z = s₁.setTop (mkF m 0 #[rv o1] []) := ⟨_, rfl⟩
  rw [← hST] at pre0
  have KC0 : Keep h0 h0 [o1] := Keep.refl h0 [o1]
  have go148 : own_S p e below ST s₁ (mkF m 2 #[rv o1] [(.ref o1), (.ref o1)]) := fun tt kt => (by
      rw [hST]
      show Steps p.tables e below (s₁.setTop (mkF m 0 #[rv o1] [])) _
      refine XS.aloadN X0.here hx rfl (hb hby d16_0) rfl rfl ?_
      refine XS.aloadN X0.here hx rfl (hb hby d16_1) rfl rfl ?_
      exact kt)
  obtain ⟨T149, X149, e149, st149⟩ := getF X0 hx hZ hown (host := "") (Or.inl (W 120 rfl)) Via.refl e0 F3 (g := (mkF m 2 #[rv o1] [(.ref o1), (.ref o1)])) rfl rfl (hb hby d16_2)
  have go150 : own_S p e below ST T149 (mkF m 5 #[rv o1] [(.int (0 : Int32)), (.ref o1)]) := fun tt kt => go148 tt (st149 _ kt)
  have go151 : own_S p e below ST T149 (mkF m 7 #[rv o1] [(.int (1 : Int32)), (.ref o1)]) := fun tt kt => go150 tt (by
      refine XS.iconst X149.here hx rfl (hb hby d16_5) ?_
      refine XS.iadd X149.here hx rfl (hb hby d16_6) rfl ?_
      exact kt)
  obtain ⟨cq152, q152, q152'⟩ := E1.cell
  obtain ⟨_, _, ⟨T152, L152, k152, n152⟩, -, X152, ⟨Lc152, hQ152, l152, y152, z152⟩, st152⟩ := X149.privateBack hx (y := (⟨"java/util/ArrayList", "grow", "(I)[Ljava/lang/Object;"⟩ : MethodName)) hown (mvT hZ (W 132 rfl)) (mvT hZ (W 133 rfl)) (mvT hZ (W 135 rfl)) (Cond.privateMethod_at (mvP hZ (W 134 rfl) (args := #[]))) (mvT hZ (W 136 rfl)) (by decide) (backOf (W := 0) (rm17 l Z a0 hw [] o1 mc ad kd h0 n0 Z0 F1 F2 F3 E1 g1 SD VD OL) hZ (W 136 rfl) (W 54 rfl) (by decide) (by decide)) (g := (mkF m 7 #[rv o1] [(.int (1 : Int32)), (.ref o1)])) rfl (by rw [hml]; rfl) (Steps.refl _) (a := o1) (by rw [e149]; exact q152) q152' (argsL := [(.int (1 : Int32))]) (rest := []) (lenOf pd50 rfl) rfl (by show 2 * 0 + _ ≤ _; exact Nat.le_of_eq rfl) (hb hby d16_7) (fun _ _ => ⟨rfl, e149, (by decide : 0 + 1 ≤ _), (by decide : 0 + 10 ≤ _)⟩)
  dsimp only [Pt.U, Pt.locs, Pt.cells, Pt.slots] at X152 l152 y152 z152 st152 hQ152
  subst l152 y152 z152
  obtain ⟨b152, kb152, rfl, Nq152, K152, Fa152, Fb152, Fc152, Vb152, gb152, zb152, nb152, ob152⟩ := hQ152
  have N152 := Fr.app N0 Nq152
  have go153 : own_S p e below ST T152 (mkF m 10 #[rv o1] [(.ref b152)]) := fun tt kt => go151 tt (st152.trans kt)
  have KC152 : Keep h0 T152.heap [o1] := KC0.trans K152 (allS (Or.inl (List.mem_of_getElem? (i := 0) rfl)) all0)
  obtain ⟨fs, hr, hrun, hended, hW, hsame⟩ := X152.leave (v := some (.ref b152)) (fun h => by rw [Bd.returns] at h; cases h) (hlocks := by first | exact BodyLoose.notSynchronized Bd | exact Body.notSynchronized Bd)
  refine ⟨_, _, pre0 _ (go153 _ ?_), hrun, hended, _, _, rfl, ?_, ⟨_, rfl⟩, hW, hsame.mono (by decide) (by decide)⟩
  · exact retOut X152 hx Bd.returns rfl (Or.inr (Or.inr (Or.inr (Or.inr ⟨rfl, rfl, rfl⟩)))) (hb hby d16_10) hr
  · show Q16 Z o1 mc ad kd h0 n0 _ T152.heap _
    exact ⟨b152, kb152, rfl, N152, KC152, Fa152, Fb152, Fc152, Vb152, gb152, (Nat.le_trans KC0.1 zb152), nb152, ob152⟩
theorem d15_0 : decode jdk_38_method_24_code 0 = .ok (.iload_n 3, 1) := by decide +kernel
theorem d15_1 : decode jdk_38_method_24_code 1 = .ok (.aload_n 2, 1) := by decide +kernel
theorem d15_2 : decode jdk_38_method_24_code 2 = .ok (.arraylength, 1) := by decide +kernel
theorem d15_3 : decode jdk_38_method_24_code 3 = .ok (.if_icmp .ne 8, 3) := by decide +kernel
theorem d15_6 : decode jdk_38_method_24_code 6 = .ok (.aload_n 0, 1) := by decide +kernel
theorem d15_7 : decode jdk_38_method_24_code 7 = .ok (.invokevirtual 129, 3) := by decide +kernel
theorem pd58 : parseMethodDescriptor "()[Ljava/lang/Object;" = some ⟨[], some (.array (.object "java/lang/Object"))⟩ := by decide +kernel
theorem d15_10 : decode jdk_38_method_24_code 10 = .ok (.astore_n 2, 1) := by decide +kernel
theorem d15_11 : decode jdk_38_method_24_code 11 = .ok (.aload_n 2, 1) := by decide +kernel
theorem d15_12 : decode jdk_38_method_24_code 12 = .ok (.iload_n 3, 1) := by decide +kernel
theorem d15_13 : decode jdk_38_method_24_code 13 = .ok (.aload_n 1, 1) := by decide +kernel
theorem d15_14 : decode jdk_38_method_24_code 14 = .ok (.aastore, 1) := by decide +kernel
theorem d15_15 : decode jdk_38_method_24_code 15 = .ok (.aload_n 0, 1) := by decide +kernel
theorem d15_16 : decode jdk_38_method_24_code 16 = .ok (.iload_n 3, 1) := by decide +kernel
theorem d15_17 : decode jdk_38_method_24_code 17 = .ok (.iconst 1, 1) := by decide +kernel
theorem d15_18 : decode jdk_38_method_24_code 18 = .ok (.iadd, 1) := by decide +kernel
theorem d15_19 : decode jdk_38_method_24_code 19 = .ok (.putfield 48, 3) := by decide +kernel
theorem d15_22 : decode jdk_38_method_24_code 22 = .ok (.return_, 1) := by decide +kernel
theorem ef15k0 (m : MethodId) (x0 : Addr) (x1 : Addr) (x2 : Addr) (x3 : Int32) : entryFrame m #[(.ref x0), (.ref x1), (.ref x2), (.int x3)] 4 = mkF m 0 #[.val (.ref x0), .val (.ref x1), .val (.ref x2), .val (.int x3)] [] := by first | (simp [entryFrame, mkF, argsToLocals, Value.category]; done) | rfl
def Q15k0 (Z : State) (o1 : Addr) (e1 : Addr) (mc : Int32) (ad : Addr) (kd : ClassId) (h0 : Heap) (n0 : Nat) (v : Option Value) (h : Heap) (L : List Loc) : Prop := ∃ (b : Addr) (kb : ClassId), v = none ∧ Fr n0 L ∧ Keep h0 h [o1] ∧ Fld Z h o1 "java/util/AbstractList" "modCount" "I" (.int mc) ∧ Fld Z h o1 "java/util/ArrayList" "elementData" "[Ljava/lang/Object;" (.ref b) ∧ Fld Z h o1 "java/util/ArrayList" "size" "I" (.int (1 : Int32)) ∧ Arv Z h b kb (.object "java/lang/Object") (10 : Int32) [(.ref e1), .null] .null ∧ n0 ≤ b ∧ h0.size ≤ b ∧ o1 ≠ b ∧ Ovr Z kb "java/lang/Object"
set_option maxRecDepth 65536 in
set_option maxHeartbeats 40000000 in
theorem rm15k0 (l : Launch) (Z : State) (a0 : Array Value) (hw : ∀ d ∈ tables_1, d.before a0 Z = true) (ws : List Jvm.Cond) (o1 : Addr) (e1 : Addr) (mc : Int32) (ad : Addr) (kd : ClassId) (h0 : Heap) (n0 : Nat) (Z0 : n0 ≤ h0.size) (F1 : Fld Z h0 o1 "java/util/AbstractList" "modCount" "I" (.int mc)) (F2 : Fld Z h0 o1 "java/util/ArrayList" "elementData" "[Ljava/lang/Object;" (.ref ad)) (F3 : Fld Z h0 o1 "java/util/ArrayList" "size" "I" (.int (0 : Int32))) (E1 : Exa Z h0 o1 "java/util/ArrayList") (g1 : n0 ≤ o1) (SD : Sta Z Z.heap "java/util/ArrayList" "DEFAULTCAPACITY_EMPTY_ELEMENTDATA" "[Ljava/lang/Object;" (.ref ad)) (VD : Arv Z Z.heap ad kd (.object "java/lang/Object") (0 : Int32) [] .null) (OL : Old Z n0 h0) (E2 : Exa Z h0 e1 "java/util/ArrayList") (n12 : o1 ≠ e1) :
    MetFree l (⟨"java/util/ArrayList", "add", "(Ljava/lang/Object;[Ljava/lang/Object;I)V"⟩ : MethodName) (head1 (Jvm.Cond.code (⟨"java/util/ArrayList", "add", "(Ljava/lang/Object;[Ljava/lang/Object;I)V"⟩ : MethodName) jdk_38_method_24_code 4 none :: ws) ({ frames := 3, cells := 1, slots := 10, locals := 41 } : Room)) (fun aa UU => aa = #[(.ref o1), (.ref e1), (.ref ad), (.int (0 : Int32))] ∧ Z.Warmed39 UU.vm ∧ UU.heap = h0) (fun _ _ _ _ _ => True) (fun _ UU oo UU' => ∃ vv LL, oo = .returned vv ∧ Q15k0 Z o1 e1 mc ad kd h0 n0 vv UU'.heap LL ∧ FrameEnd UU oo UU' LL ({ frames := 3, cells := 1, slots := 10, locals := 41 } : Room).cells ({ frames := 3, cells := 1, slots := 10, locals := 41 } : Room).slots) := by
  have W : ∀ {d : Jvm.Cond} (i : Nat), tables_1[i]? = some d → d.before a0 Z = true := fun i h => hw _ (List.mem_of_getElem? h)
  refine MetFree.of_bodySF (plainFor_of_name pn12) hisR ?_
  intro p e s m args below meth c s₁ Bd hml0 hP hK
  obtain ⟨rfl, hZ, hh⟩ := hP
  have hx := Bd.exec
  have hby := Bd.bytes
  have hml : c.maxLocals = 4 := hml0
  have hown : s.vm.findClass "java/util/ArrayList" = some m.cls := findClass_of_methodNamed Bd.named
  have hnm := (name_of_methodNamed Bd.named Bd.method).1
  have X0 : Stand p l e ({ frames := 3, cells := 1, slots := 10, locals := 41 } : Room) s m #[(.ref o1), (.ref e1), (.ref ad), (.int (0 : Int32))] below meth c s₁ [] 0 0 := Stand.of_body Bd
  have e0 : s₁.heap = h0 := by rw [← hh, Bd.state]; rfl
  have N0 := Fr.nil n0
  have pre0 : ∀ tt, Steps p.tables e below (s₁.setTop (mkF m 0 #[rv o1, rv e1, rv ad, iv (0 : Int32)] [])) tt → Steps p.tables e below (s₁.setTop (entryFrame m #[(.ref o1), (.ref e1), (.ref ad), (.int (0 : Int32))] 4)) tt := fun tt kt => castTop (ef15k0 m o1 e1 ad (0 : Int32)) kt
  obtain ⟨ST, hST⟩ : ∃ z : State, z = s₁.setTop (mkF m 0 #[rv o1, rv e1, rv ad, iv (0 : Int32)] []) := ⟨_, rfl⟩
  rw [← hST] at pre0
  have KC0 : Keep h0 h0 [o1] := Keep.refl h0 [o1]
  have go154 : own_S p e below ST s₁ (mkF m 2 #[rv o1, rv e1, rv ad, iv (0 : Int32)] [(.ref ad), (.int (0 : Int32))]) := fun tt kt => (by
      rw [hST]
      show Steps p.tables e below (s₁.setTop (mkF m 0 #[rv o1, rv e1, rv ad, iv (0 : Int32)] [])) _
      refine XS.iloadN X0.here hx rfl (hb hby d15_0) rfl ?_
      refine XS.aloadN X0.here hx rfl (hb hby d15_1) rfl rfl ?_
      exact kt)
  obtain ⟨cl155, Ar155, q155, S155, M155, H155, G155⟩ := id (VD.ext OL.2)
  have go156 : own_S p e below ST s₁ (mkF m 3 #[rv o1, rv e1, rv ad, iv (0 : Int32)] [(.int (0 : Int32)), (.int (0 : Int32))]) := fun tt kt => go154 tt (by
      refine X0.arraylength hx (by rw [e0]; exact Ar155.1) (State.isArrayOf_alike hZ.alike Ar155.2.1) (g := (mkF m 2 #[rv o1, rv e1, rv ad, iv (0 : Int32)] [(.ref ad), (.int (0 : Int32))])) rfl rfl (hb hby d15_2) _ ?_
      rw [len_of S155 M155]
      exact kt)
  have go157 : own_S p e below ST s₁ (mkF m 7 #[rv o1, rv e1, rv ad, iv (0 : Int32)] [(.ref o1)]) := fun tt kt => go156 tt (by
      refine XS.icmpNo X0.here hx rfl (hb hby d15_3) rfl (teq (by decide : (0 : Int32) = (0 : Int32))).2 ?_
      refine XS.aloadN X0.here hx rfl (hb hby d15_6) rfl rfl ?_
      exact kt)
  obtain ⟨cq158, q158, q158'⟩ := E1.cell
  obtain ⟨_, _, ⟨T158, L158, k158, n158⟩, -, X158, ⟨Lc158, hQ158, l158, y158, z158⟩, st158⟩ := X0.privateBack hx (y := (⟨"java/util/ArrayList", "grow", "()[Ljava/lang/Object;"⟩ : MethodName)) hown (mvT hZ (W 127 rfl)) (mvT hZ (W 128 rfl)) (mvT hZ (W 130 rfl)) (Cond.privateMethod_at (mvP hZ (W 129 rfl) (args := #[]))) (mvT hZ (W 131 rfl)) (by decide) (backOf (W := 0) (rm16 l Z a0 hw [] o1 mc ad kd h0 n0 Z0 F1 F2 F3 E1 g1 SD VD OL) hZ (W 131 rfl) (W 54 rfl) (by decide) (by decide)) (g := (mkF m 7 #[rv o1, rv e1, rv ad, iv (0 : Int32)] [(.ref o1)])) rfl (by rw [hml]; rfl) (Steps.refl _) (a := o1) (by rw [e0]; exact q158) q158' (argsL := []) (rest := []) (lenOf pd58 rfl) rfl (by show 2 * 0 + _ ≤ _; exact Nat.le_of_eq rfl) (hb hby d15_7) (fun _ _ => ⟨rfl, e0, (by decide : 0 + 1 ≤ _), (by decide : 0 + 10 ≤ _)⟩)
  dsimp only [Pt.U, Pt.locs, Pt.cells, Pt.slots] at X158 l158 y158 z158 st158 hQ158
  subst l158 y158 z158
  obtain ⟨b158, kb158, rfl, Nq158, K158, Fa158, Fb158, Fc158, Vb158, gb158, zb158, nb158, ob158⟩ := hQ158
  have N158 := Fr.app N0 Nq158
  have go159 : own_S p e below ST T158 (mkF m 10 #[rv o1, rv e1, rv ad, iv (0 : Int32)] [(.ref b158)]) := fun tt kt => go157 tt (st158.trans kt)
  have KC158 : Keep h0 T158.heap [o1] := KC0.trans K158 (allS (Or.inl (List.mem_of_getElem? (i := 0) rfl)) all0)
  have go160 : own_S p e below ST T158 (mkF m 14 #[rv o1, rv e1, rv b158, iv (0 : Int32)] [(.ref e1), (.int (0 : Int32)), (.ref b158)]) := fun tt kt => go159 tt (by
      refine XS.astoreN X158.here hx rfl (hb hby d15_10) rfl rfl (l' := #[rv o1, rv e1, rv b158, iv (0 : Int32)]) rfl ?_
      refine XS.aloadN X158.here hx rfl (hb hby d15_11) rfl rfl ?_
      refine XS.iloadN X158.here hx rfl (hb hby d15_12) rfl ?_
      refine XS.aloadN X158.here hx rfl (hb hby d15_13) rfl rfl ?_
      exact kt)
  obtain ⟨cl161, Ar161, q161, S161, M161, H161, G161⟩ := id Vb158
  have hin161 : ¬ ((0 : Int32) < 0 ∨ cl161.slots.size ≤ ((0 : Int32)).toNatClampNeg) := inb_of S161 ⟨by decide, by decide⟩
  have f162 := (E2.keep K158)
  obtain ⟨T161, h161, X161, e161, W161, st161⟩ := stR X158 hx hZ rfl Ar161 (j := (0 : Int32)) hin161 rfl (Sto.ofV Ar161 q161 ob158 (Ins.of_exa f162 (W 143 rfl))) (g := (mkF m 14 #[rv o1, rv e1, rv b158, iv (0 : Int32)] [(.ref e1), (.int (0 : Int32)), (.ref b158)])) rfl rfl (hb hby d15_14)
  have V161 : Arv Z h161 b158 kb158 (.object "java/lang/Object") (10 : Int32) [(.ref e1), .null] .null := Arv.set Ar161 q161 S161 M161 H161 G161 rfl W161 0 rfl (Nat.le_of_ble_eq_true rfl)
  have N161 := Fr.snoc X161 N158 gb158
  have KC161 : Keep h0 h161 [o1] := KC158.wr W161 (Or.inr (Nat.le_trans KC0.1 zb158))
  have go163 : own_S p e below ST T161 (mkF m 15 #[rv o1, rv e1, rv b158, iv (0 : Int32)] []) := fun tt kt => go160 tt (st161 _ kt)
  have go164 : own_S p e below ST T161 (mkF m 19 #[rv o1, rv e1, rv b158, iv (0 : Int32)] [(.int (1 : Int32)), (.ref o1)]) := fun tt kt => go163 tt (by
      refine XS.aloadN X161.here hx rfl (hb hby d15_15) rfl rfl ?_
      refine XS.iloadN X161.here hx rfl (hb hby d15_16) rfl ?_
      refine XS.iconst X161.here hx rfl (hb hby d15_17) ?_
      refine XS.iadd X161.here hx rfl (hb hby d15_18) rfl ?_
      exact kt)
  have f166 := (Fc158.other W161 (Or.inl nb158))
  have f167 := ((E1.keep K158).wr W161)
  obtain ⟨T165, h165, X165, e165, W165, st165⟩ := putF X161 hx hZ hown (host := "") (Or.inl (W 120 rfl)) Via.refl e161 f166 f167 (Or.inl (W 121 rfl)) (W 53 rfl) (ty := .int) (by decide) rfl rfl (g := (mkF m 19 #[rv o1, rv e1, rv b158, iv (0 : Int32)] [(.int (1 : Int32)), (.ref o1)])) rfl rfl (hb hby d15_19)
  have Fw165 := f166.same W165
  have N165 := Fr.snoc X165 N161 g1
  have go168 : own_S p e below ST T165 (mkF m 22 #[rv o1, rv e1, rv b158, iv (0 : Int32)] []) := fun tt kt => go164 tt (st165 _ kt)
  have KC165 : Keep h0 h165 [o1] := KC161.wr W165 (Or.inl (List.mem_of_getElem? (i := 0) rfl))
  have f169 := ((Fa158.other W161 (Or.inl nb158)).other W165 (Or.inr (slot_ne (Or.inl (W 72 rfl)) (Or.inl (W 121 rfl)) (by decide) (t := .int) (t' := .int) (by decide) (by decide))))
  have f170 := ((Fb158.other W161 (Or.inl nb158)).other W165 (Or.inr (slot_ne (Or.inl (W 75 rfl)) (Or.inl (W 121 rfl)) (by decide) (t := (.array (.object "java/lang/Object"))) (t' := .int) (by decide) (by decide))))
  have f171 := (V161.other W165 (Ne.symm nb158))
  obtain ⟨fs, hr, hrun, hended, hW, hsame⟩ := X165.leave (v := none) (fun _ => rfl) (hlocks := by first | exact BodyLoose.notSynchronized Bd | exact Body.notSynchronized Bd)
  refine ⟨_, _, pre0 _ (go168 _ ?_), hrun, hended, _, _, rfl, ?_, ⟨_, rfl⟩, hW, hsame.mono (by decide) (by decide)⟩
  · exact X165.returnOut hx Bd.returns (hb hby d15_22) hr
  · show Q15k0 Z o1 e1 mc ad kd h0 n0 _ T165.heap _
    rw [e165]
    exact ⟨b158, kb158, rfl, N165, KC165, f169, f170, Fw165, f171, gb158, (Nat.le_trans KC0.1 zb158), nb158, ob158⟩
theorem d14_0 : decode jdk_38_method_25_code 0 = .ok (.aload_n 0, 1) := by decide +kernel
theorem d14_1 : decode jdk_38_method_25_code 1 = .ok (.dup, 1) := by decide +kernel
theorem d14_2 : decode jdk_38_method_25_code 2 = .ok (.getfield 63, 3) := by decide +kernel
theorem d14_5 : decode jdk_38_method_25_code 5 = .ok (.iconst 1, 1) := by decide +kernel
theorem d14_6 : decode jdk_38_method_25_code 6 = .ok (.iadd, 1) := by decide +kernel
theorem d14_7 : decode jdk_38_method_25_code 7 = .ok (.putfield 63, 3) := by decide +kernel
theorem d14_10 : decode jdk_38_method_25_code 10 = .ok (.aload_n 0, 1) := by decide +kernel
theorem d14_11 : decode jdk_38_method_25_code 11 = .ok (.aload_n 1, 1) := by decide +kernel
theorem d14_12 : decode jdk_38_method_25_code 12 = .ok (.aload_n 0, 1) := by decide +kernel
theorem d14_13 : decode jdk_38_method_25_code 13 = .ok (.getfield 9, 3) := by decide +kernel
theorem d14_16 : decode jdk_38_method_25_code 16 = .ok (.aload_n 0, 1) := by decide +kernel
theorem d14_17 : decode jdk_38_method_25_code 17 = .ok (.getfield 48, 3) := by decide +kernel
theorem d14_20 : decode jdk_38_method_25_code 20 = .ok (.invokevirtual 131, 3) := by decide +kernel
theorem pd83 : parseMethodDescriptor "(Ljava/lang/Object;[Ljava/lang/Object;I)V" = some ⟨[(.object "java/lang/Object"), (.array (.object "java/lang/Object")), .int], none⟩ := by decide +kernel
theorem d14_23 : decode jdk_38_method_25_code 23 = .ok (.iconst 1, 1) := by decide +kernel
theorem d14_24 : decode jdk_38_method_25_code 24 = .ok (.ireturn, 1) := by decide +kernel
theorem ef14k0 (m : MethodId) (x0 : Addr) (x1 : Addr) : entryFrame m #[(.ref x0), (.ref x1)] 2 = mkF m 0 #[.val (.ref x0), .val (.ref x1)] [] := by first | (simp [entryFrame, mkF, argsToLocals, Value.category]; done) | rfl
def Q14k0 (Z : State) (o1 : Addr) (e1 : Addr) (mc : Int32) (ad : Addr) (kd : ClassId) (h0 : Heap) (n0 : Nat) (v : Option Value) (h : Heap) (L : List Loc) : Prop := ∃ (b : Addr) (kb : ClassId), v = some (.int 1) ∧ Fr n0 L ∧ Keep h0 h [o1] ∧ Fld Z h o1 "java/util/AbstractList" "modCount" "I" (.int (mc + 1)) ∧ Fld Z h o1 "java/util/ArrayList" "elementData" "[Ljava/lang/Object;" (.ref b) ∧ Fld Z h o1 "java/util/ArrayList" "size" "I" (.int (1 : Int32)) ∧ Arv Z h b kb (.object "java/lang/Object") (10 : Int32) [(.ref e1), .null] .null ∧ n0 ≤ b ∧ h0.size ≤ b ∧ o1 ≠ b ∧ Ovr Z kb "java/lang/Object"
set_option maxRecDepth 65536 in
set_option maxHeartbeats 40000000 in
theorem rm14k0 (l : Launch) (Z : State) (a0 : Array Value) (hw : ∀ d ∈ tables_1, d.before a0 Z = true) (ws : List Jvm.Cond) (o1 : Addr) (e1 : Addr) (mc : Int32) (ad : Addr) (kd : ClassId) (h0 : Heap) (n0 : Nat) (Z0 : n0 ≤ h0.size) (F1 : Fld Z h0 o1 "java/util/AbstractList" "modCount" "I" (.int mc)) (F2 : Fld Z h0 o1 "java/util/ArrayList" "elementData" "[Ljava/lang/Object;" (.ref ad)) (F3 : Fld Z h0 o1 "java/util/ArrayList" "size" "I" (.int (0 : Int32))) (E1 : Exa Z h0 o1 "java/util/ArrayList") (g1 : n0 ≤ o1) (SD : Sta Z Z.heap "java/util/ArrayList" "DEFAULTCAPACITY_EMPTY_ELEMENTDATA" "[Ljava/lang/Object;" (.ref ad)) (VD : Arv Z Z.heap ad kd (.object "java/lang/Object") (0 : Int32) [] .null) (OL : Old Z n0 h0) (E2 : Exa Z h0 e1 "java/util/ArrayList") (n12 : o1 ≠ e1) :
    MetFree l (⟨"java/util/ArrayList", "add", "(Ljava/lang/Object;)Z"⟩ : MethodName) (head1 (Jvm.Cond.code (⟨"java/util/ArrayList", "add", "(Ljava/lang/Object;)Z"⟩ : MethodName) jdk_38_method_25_code 2 (some .boolean) :: ws) ({ frames := 4, cells := 1, slots := 10, locals := 56 } : Room)) (fun aa UU => aa = #[(.ref o1), (.ref e1)] ∧ Z.Warmed39 UU.vm ∧ UU.heap = h0) (fun _ _ _ _ _ => True) (fun _ UU oo UU' => ∃ vv LL, oo = .returned vv ∧ Q14k0 Z o1 e1 mc ad kd h0 n0 vv UU'.heap LL ∧ FrameEnd UU oo UU' LL ({ frames := 4, cells := 1, slots := 10, locals := 56 } : Room).cells ({ frames := 4, cells := 1, slots := 10, locals := 56 } : Room).slots) := by
  have W : ∀ {d : Jvm.Cond} (i : Nat), tables_1[i]? = some d → d.before a0 Z = true := fun i h => hw _ (List.mem_of_getElem? h)
  refine MetFree.of_bodySF (plainFor_of_name pn12) hisR ?_
  intro p e s m args below meth c s₁ Bd hml0 hP hK
  obtain ⟨rfl, hZ, hh⟩ := hP
  have hx := Bd.exec
  have hby := Bd.bytes
  have hml : c.maxLocals = 2 := hml0
  have hown : s.vm.findClass "java/util/ArrayList" = some m.cls := findClass_of_methodNamed Bd.named
  have hnm := (name_of_methodNamed Bd.named Bd.method).1
  have X0 : Stand p l e ({ frames := 4, cells := 1, slots := 10, locals := 56 } : Room) s m #[(.ref o1), (.ref e1)] below meth c s₁ [] 0 0 := Stand.of_body Bd
  have e0 : s₁.heap = h0 := by rw [← hh, Bd.state]; rfl
  have N0 := Fr.nil n0
  have pre0 : ∀ tt, Steps p.tables e below (s₁.setTop (mkF m 0 #[rv o1, rv e1] [])) tt → Steps p.tables e below (s₁.setTop (entryFrame m #[(.ref o1), (.ref e1)] 2)) tt := fun tt kt => castTop (ef14k0 m o1 e1) kt
  obtain ⟨ST, hST⟩ : ∃ z : State, z = s₁.setTop (mkF m 0 #[rv o1, rv e1] []) := ⟨_, rfl⟩
  rw [← hST] at pre0
  have KC0 : Keep h0 h0 [o1] := Keep.refl h0 [o1]
  have go172 : own_S p e below ST s₁ (mkF m 2 #[rv o1, rv e1] [(.ref o1), (.ref o1)]) := fun tt kt => (by
      rw [hST]
      show Steps p.tables e below (s₁.setTop (mkF m 0 #[rv o1, rv e1] [])) _
      refine XS.aloadN X0.here hx rfl (hb hby d14_0) rfl rfl ?_
      refine XS.dup X0.here hx rfl (hb hby d14_1) rfl rfl ?_
      exact kt)
  obtain ⟨T173, X173, e173, st173⟩ := getF X0 hx hZ hown (host := "") (Or.inl (W 118 rfl)) (Via.of (W 119 rfl)) e0 F1 (g := (mkF m 2 #[rv o1, rv e1] [(.ref o1), (.ref o1)])) rfl rfl (hb hby d14_2)
  have go174 : own_S p e below ST T173 (mkF m 5 #[rv o1, rv e1] [(.int mc), (.ref o1)]) := fun tt kt => go172 tt (st173 _ kt)
  have go175 : own_S p e below ST T173 (mkF m 7 #[rv o1, rv e1] [(.int (mc + (1 : Int32))), (.ref o1)]) := fun tt kt => go174 tt (by
      refine XS.iconst X173.here hx rfl (hb hby d14_5) ?_
      refine XS.iadd X173.here hx rfl (hb hby d14_6) rfl ?_
      exact kt)
  obtain ⟨T176, h176, X176, e176, W176, st176⟩ := putF X173 hx hZ hown (host := "") (Or.inl (W 118 rfl)) (Via.of (W 119 rfl)) e173 F1 E1 (Or.inl (W 72 rfl)) (W 53 rfl) (ty := .int) (by decide) rfl rfl (g := (mkF m 7 #[rv o1, rv e1] [(.int (mc + (1 : Int32))), (.ref o1)])) rfl rfl (hb hby d14_7)
  have Fw176 := F1.same W176
  have N176 := Fr.snoc X176 N0 g1
  have go177 : own_S p e below ST T176 (mkF m 10 #[rv o1, rv e1] []) := fun tt kt => go175 tt (st176 _ kt)
  have KC176 : Keep h0 h176 [o1] := KC0.wr W176 (Or.inl (List.mem_of_getElem? (i := 0) rfl))
  have go178 : own_S p e below ST T176 (mkF m 13 #[rv o1, rv e1] [(.ref o1), (.ref e1), (.ref o1)]) := fun tt kt => go177 tt (by
      refine XS.aloadN X176.here hx rfl (hb hby d14_10) rfl rfl ?_
      refine XS.aloadN X176.here hx rfl (hb hby d14_11) rfl rfl ?_
      refine XS.aloadN X176.here hx rfl (hb hby d14_12) rfl rfl ?_
      exact kt)
  have f179 := (F2.other W176 (Or.inr (slot_ne (Or.inl (W 75 rfl)) (Or.inl (W 72 rfl)) (by decide) (t := (.array (.object "java/lang/Object"))) (t' := .int) (by decide) (by decide))))
  obtain ⟨T180, X180, e180, st180⟩ := getF X176 hx hZ hown (host := "") (Or.inl (W 74 rfl)) Via.refl e176 f179 (g := (mkF m 13 #[rv o1, rv e1] [(.ref o1), (.ref e1), (.ref o1)])) rfl rfl (hb hby d14_13)
  have go181 : own_S p e below ST T180 (mkF m 16 #[rv o1, rv e1] [(.ref ad), (.ref e1), (.ref o1)]) := fun tt kt => go178 tt (st180 _ kt)
  have go182 : own_S p e below ST T180 (mkF m 17 #[rv o1, rv e1] [(.ref o1), (.ref ad), (.ref e1), (.ref o1)]) := fun tt kt => go181 tt (by
      refine XS.aloadN X180.here hx rfl (hb hby d14_16) rfl rfl ?_
      exact kt)
  have f183 := (F3.other W176 (Or.inr (slot_ne (Or.inl (W 121 rfl)) (Or.inl (W 72 rfl)) (by decide) (t := .int) (t' := .int) (by decide) (by decide))))
  obtain ⟨T184, X184, e184, st184⟩ := getF X180 hx hZ hown (host := "") (Or.inl (W 120 rfl)) Via.refl e180 f183 (g := (mkF m 17 #[rv o1, rv e1] [(.ref o1), (.ref ad), (.ref e1), (.ref o1)])) rfl rfl (hb hby d14_17)
  have go185 : own_S p e below ST T184 (mkF m 20 #[rv o1, rv e1] [(.int (0 : Int32)), (.ref ad), (.ref e1), (.ref o1)]) := fun tt kt => go182 tt (st184 _ kt)
  have f186 := (E1.wr W176)
  have f187 := (OL.wr W176 g1)
  have f188 := (E2.wr W176)
  have zs190 := (Nat.le_trans Z0 (Keep.of_wr W176).1)
  obtain ⟨cq189, q189, q189'⟩ := f186.cell
  obtain ⟨_, _, ⟨T189, L189, k189, n189⟩, -, X189, ⟨Lc189, hQ189, l189, y189, z189⟩, st189⟩ := X184.privateBack hx (y := (⟨"java/util/ArrayList", "add", "(Ljava/lang/Object;[Ljava/lang/Object;I)V"⟩ : MethodName)) hown (mvT hZ (W 122 rfl)) (mvT hZ (W 123 rfl)) (mvT hZ (W 125 rfl)) (Cond.privateMethod_at (mvP hZ (W 124 rfl) (args := #[]))) (mvT hZ (W 126 rfl)) (by decide) (backOf (W := 0) (rm15k0 l Z a0 hw [] o1 e1 (mc + (1 : Int32)) ad kd h176 n0 zs190 Fw176 f179 f183 f186 g1 SD VD f187 f188 n12) hZ (W 126 rfl) (W 54 rfl) (by decide) (by decide)) (g := (mkF m 20 #[rv o1, rv e1] [(.int (0 : Int32)), (.ref ad), (.ref e1), (.ref o1)])) rfl (by rw [hml]; rfl) (Steps.refl _) (a := o1) (by rw [e184]; exact q189) q189' (argsL := [(.ref e1), (.ref ad), (.int (0 : Int32))]) (rest := []) (lenOf pd83 rfl) rfl (by show 2 * 0 + _ ≤ _; exact Nat.le_of_eq rfl) (hb hby d14_20) (fun _ _ => ⟨rfl, e184, (by decide : 0 + 1 ≤ _), (by decide : 0 + 10 ≤ _)⟩)
  dsimp only [Pt.U, Pt.locs, Pt.cells, Pt.slots] at X189 l189 y189 z189 st189 hQ189
  subst l189 y189 z189
  obtain ⟨b189, kb189, rfl, Nq189, K189, Fa189, Fb189, Fc189, Vb189, gb189, zb189, nb189, ob189⟩ := hQ189
  have N189 := Fr.app N176 Nq189
  have go191 : own_S p e below ST T189 (mkF m 23 #[rv o1, rv e1] []) := fun tt kt => go185 tt (st189.trans kt)
  have KC189 : Keep h0 T189.heap [o1] := KC176.trans K189 (allS (Or.inl (List.mem_of_getElem? (i := 0) rfl)) all0)
  have go192 : own_S p e below ST T189 (mkF m 24 #[rv o1, rv e1] [(.int (1 : Int32))]) := fun tt kt => go191 tt (by
      refine XS.iconst X189.here hx rfl (hb hby d14_23) ?_
      exact kt)
  obtain ⟨fs, hr, hrun, hended, hW, hsame⟩ := X189.leave (v := some (.int (1 : Int32))) (fun h => by rw [Bd.returns] at h; cases h) (hlocks := by first | exact BodyLoose.notSynchronized Bd | exact Body.notSynchronized Bd)
  refine ⟨_, _, pre0 _ (go192 _ ?_), hrun, hended, _, _, rfl, ?_, ⟨_, rfl⟩, hW, hsame.mono (by decide) (by decide)⟩
  · exact retN X189 hx (t := .boolean) Bd.returns (by simp) (hb hby d14_24) hr
  · show Q14k0 Z o1 e1 mc ad kd h0 n0 _ T189.heap _
    exact ⟨b189, kb189, rfl, N189, KC189, Fa189, Fb189, Fc189, Vb189, gb189, (Nat.le_trans KC176.1 zb189), nb189, ob189⟩
theorem ef15k1 (m : MethodId) (x0 : Addr) (x1 : Addr) (x2 : Addr) (x3 : Int32) : entryFrame m #[(.ref x0), (.ref x1), (.ref x2), (.int x3)] 4 = mkF m 0 #[.val (.ref x0), .val (.ref x1), .val (.ref x2), .val (.int x3)] [] := by first | (simp [entryFrame, mkF, argsToLocals, Value.category]; done) | rfl
def Q15k1 (Z : State) (o1 : Addr) (e1 : Addr) (mc : Int32) (b1 : Addr) (k1 : ClassId) (ev0 : Value) (h0 : Heap) (n0 : Nat) (v : Option Value) (h : Heap) (L : List Loc) : Prop := v = none ∧ Fr n0 L ∧ Keep h0 h [o1, b1]
set_option maxRecDepth 65536 in
set_option maxHeartbeats 40000000 in
theorem rm15k1 (l : Launch) (Z : State) (a0 : Array Value) (hw : ∀ d ∈ tables_1, d.before a0 Z = true) (ws : List Jvm.Cond) (o1 : Addr) (e1 : Addr) (mc : Int32) (b1 : Addr) (k1 : ClassId) (ev0 : Value) (h0 : Heap) (n0 : Nat) (Z0 : n0 ≤ h0.size) (F1 : Fld Z h0 o1 "java/util/AbstractList" "modCount" "I" (.int mc)) (F2 : Fld Z h0 o1 "java/util/ArrayList" "elementData" "[Ljava/lang/Object;" (.ref b1)) (F3 : Fld Z h0 o1 "java/util/ArrayList" "size" "I" (.int (1 : Int32))) (E1 : Exa Z h0 o1 "java/util/ArrayList") (g1 : n0 ≤ o1) (V1 : Arv Z h0 b1 k1 (.object "java/lang/Object") (10 : Int32) [ev0, .null] .null) (g2 : n0 ≤ b1) (n1 : o1 ≠ b1) (O1 : Ovr Z k1 "java/lang/Object") (E2 : Exa Z h0 e1 "java/util/ArrayList") (n12 : o1 ≠ e1) :
    MetFree l (⟨"java/util/ArrayList", "add", "(Ljava/lang/Object;[Ljava/lang/Object;I)V"⟩ : MethodName) (head1 (Jvm.Cond.code (⟨"java/util/ArrayList", "add", "(Ljava/lang/Object;[Ljava/lang/Object;I)V"⟩ : MethodName) jdk_38_method_24_code 4 none :: ws) ({ frames := 0, cells := 0, slots := 0, locals := 0 } : Room)) (fun aa UU => aa = #[(.ref o1), (.ref e1), (.ref b1), (.int (1 : Int32))] ∧ Z.Warmed39 UU.vm ∧ UU.heap = h0) (fun _ _ _ _ _ => True) (fun _ UU oo UU' => ∃ vv LL, oo = .returned vv ∧ Q15k1 Z o1 e1 mc b1 k1 ev0 h0 n0 vv UU'.heap LL ∧ FrameEnd UU oo UU' LL ({ frames := 0, cells := 0, slots := 0, locals := 0 } : Room).cells ({ frames := 0, cells := 0, slots := 0, locals := 0 } : Room).slots) := by
  have W : ∀ {d : Jvm.Cond} (i : Nat), tables_1[i]? = some d → d.before a0 Z = true := fun i h => hw _ (List.mem_of_getElem? h)
  refine MetFree.of_bodySF (plainFor_of_name pn12) hisR ?_
  intro p e s m args below meth c s₁ Bd hml0 hP hK
  obtain ⟨rfl, hZ, hh⟩ := hP
  have hx := Bd.exec
  have hby := Bd.bytes
  have hml : c.maxLocals = 4 := hml0
  have hown : s.vm.findClass "java/util/ArrayList" = some m.cls := findClass_of_methodNamed Bd.named
  have hnm := (name_of_methodNamed Bd.named Bd.method).1
  have X0 : Stand p l e ({ frames := 0, cells := 0, slots := 0, locals := 0 } : Room) s m #[(.ref o1), (.ref e1), (.ref b1), (.int (1 : Int32))] below meth c s₁ [] 0 0 := Stand.of_body Bd
  have e0 : s₁.heap = h0 := by rw [← hh, Bd.state]; rfl
  have N0 := Fr.nil n0
  have pre0 : ∀ tt, Steps p.tables e below (s₁.setTop (mkF m 0 #[rv o1, rv e1, rv b1, iv (1 : Int32)] [])) tt → Steps p.tables e below (s₁.setTop (entryFrame m #[(.ref o1), (.ref e1), (.ref b1), (.int (1 : Int32))] 4)) tt := fun tt kt => castTop (ef15k1 m o1 e1 b1 (1 : Int32)) kt
  obtain ⟨ST, hST⟩ : ∃ z : State, z = s₁.setTop (mkF m 0 #[rv o1, rv e1, rv b1, iv (1 : Int32)] []) := ⟨_, rfl⟩
  rw [← hST] at pre0
  have KC0 : Keep h0 h0 [o1, b1] := Keep.refl h0 [o1, b1]
  have go193 : own_S p e below ST s₁ (mkF m 2 #[rv o1, rv e1, rv b1, iv (1 : Int32)] [(.ref b1), (.int (1 : Int32))]) := fun tt kt => (by
      rw [hST]
      show Steps p.tables e below (s₁.setTop (mkF m 0 #[rv o1, rv e1, rv b1, iv (1 : Int32)] [])) _
      refine XS.iloadN X0.here hx rfl (hb hby d15_0) rfl ?_
      refine XS.aloadN X0.here hx rfl (hb hby d15_1) rfl rfl ?_
      exact kt)
  obtain ⟨cl194, Ar194, q194, S194, M194, H194, G194⟩ := id V1
  have go195 : own_S p e below ST s₁ (mkF m 3 #[rv o1, rv e1, rv b1, iv (1 : Int32)] [(.int (10 : Int32)), (.int (1 : Int32))]) := fun tt kt => go193 tt (by
      refine X0.arraylength hx (by rw [e0]; exact Ar194.1) (State.isArrayOf_alike hZ.alike Ar194.2.1) (g := (mkF m 2 #[rv o1, rv e1, rv b1, iv (1 : Int32)] [(.ref b1), (.int (1 : Int32))])) rfl rfl (hb hby d15_2) _ ?_
      rw [len_of S194 M194]
      exact kt)
  have go196 : own_S p e below ST s₁ (mkF m 14 #[rv o1, rv e1, rv b1, iv (1 : Int32)] [(.ref e1), (.int (1 : Int32)), (.ref b1)]) := fun tt kt => go195 tt (by
      refine XS.icmpYes X0.here hx rfl (pc0 := 3) (pc' := 11) rfl (hb hby d15_3) rfl (feq (by decide : ¬ ((1 : Int32) = (10 : Int32)))).2 (by decide) (by decide) ?_
      refine XS.aloadN X0.here hx rfl (hb hby d15_11) rfl rfl ?_
      refine XS.iloadN X0.here hx rfl (hb hby d15_12) rfl ?_
      refine XS.aloadN X0.here hx rfl (hb hby d15_13) rfl rfl ?_
      exact kt)
  obtain ⟨cl197, Ar197, q197, S197, M197, H197, G197⟩ := id V1
  have hin197 : ¬ ((1 : Int32) < 0 ∨ cl197.slots.size ≤ ((1 : Int32)).toNatClampNeg) := inb_of S197 ⟨by decide, by decide⟩
  obtain ⟨T197, h197, X197, e197, W197, st197⟩ := stR X0 hx hZ e0 Ar197 (j := (1 : Int32)) hin197 rfl (Sto.ofV Ar197 q197 O1 (Ins.of_exa E2 (W 143 rfl))) (g := (mkF m 14 #[rv o1, rv e1, rv b1, iv (1 : Int32)] [(.ref e1), (.int (1 : Int32)), (.ref b1)])) rfl rfl (hb hby d15_14)
  have V197 : Arv Z h197 b1 k1 (.object "java/lang/Object") (10 : Int32) [ev0, (.ref e1)] .null := Arv.set Ar197 q197 S197 M197 H197 G197 rfl W197 1 rfl (Nat.le_of_ble_eq_true rfl)
  have N197 := Fr.snoc X197 N0 g2
  have KC197 : Keep h0 h197 [o1, b1] := KC0.wr W197 (Or.inl (List.mem_of_getElem? (i := 1) rfl))
  have go198 : own_S p e below ST T197 (mkF m 15 #[rv o1, rv e1, rv b1, iv (1 : Int32)] []) := fun tt kt => go196 tt (st197 _ kt)
  have go199 : own_S p e below ST T197 (mkF m 19 #[rv o1, rv e1, rv b1, iv (1 : Int32)] [(.int (2 : Int32)), (.ref o1)]) := fun tt kt => go198 tt (by
      refine XS.aloadN X197.here hx rfl (hb hby d15_15) rfl rfl ?_
      refine XS.iloadN X197.here hx rfl (hb hby d15_16) rfl ?_
      refine XS.iconst X197.here hx rfl (hb hby d15_17) ?_
      refine XS.iadd X197.here hx rfl (hb hby d15_18) rfl ?_
      exact kt)
  have f201 := (F3.other W197 (Or.inl n1))
  have f202 := (E1.wr W197)
  obtain ⟨T200, h200, X200, e200, W200, st200⟩ := putF X197 hx hZ hown (host := "") (Or.inl (W 120 rfl)) Via.refl e197 f201 f202 (Or.inl (W 121 rfl)) (W 53 rfl) (ty := .int) (by decide) rfl rfl (g := (mkF m 19 #[rv o1, rv e1, rv b1, iv (1 : Int32)] [(.int (2 : Int32)), (.ref o1)])) rfl rfl (hb hby d15_19)
  have Fw200 := f201.same W200
  have N200 := Fr.snoc X200 N197 g1
  have go203 : own_S p e below ST T200 (mkF m 22 #[rv o1, rv e1, rv b1, iv (1 : Int32)] []) := fun tt kt => go199 tt (st200 _ kt)
  have KC200 : Keep h0 h200 [o1, b1] := KC197.wr W200 (Or.inl (List.mem_of_getElem? (i := 0) rfl))
  obtain ⟨fs, hr, hrun, hended, hW, hsame⟩ := X200.leave (v := none) (fun _ => rfl) (hlocks := by first | exact BodyLoose.notSynchronized Bd | exact Body.notSynchronized Bd)
  refine ⟨_, _, pre0 _ (go203 _ ?_), hrun, hended, _, _, rfl, ?_, ⟨_, rfl⟩, hW, hsame.mono (by decide) (by decide)⟩
  · exact X200.returnOut hx Bd.returns (hb hby d15_22) hr
  · show Q15k1 Z o1 e1 mc b1 k1 ev0 h0 n0 _ T200.heap _
    rw [e200]
    exact ⟨rfl, N200, KC200⟩
theorem ef14k1 (m : MethodId) (x0 : Addr) (x1 : Addr) : entryFrame m #[(.ref x0), (.ref x1)] 2 = mkF m 0 #[.val (.ref x0), .val (.ref x1)] [] := by first | (simp [entryFrame, mkF, argsToLocals, Value.category]; done) | rfl
def Q14k1 (Z : State) (o1 : Addr) (e1 : Addr) (mc : Int32) (b1 : Addr) (k1 : ClassId) (ev0 : Value) (h0 : Heap) (n0 : Nat) (v : Option Value) (h : Heap) (L : List Loc) : Prop := v = some (.int 1) ∧ Fr n0 L ∧ Keep h0 h [o1, b1]
set_option maxRecDepth 65536 in
set_option maxHeartbeats 40000000 in
theorem rm14k1 (l : Launch) (Z : State) (a0 : Array Value) (hw : ∀ d ∈ tables_1, d.before a0 Z = true) (ws : List Jvm.Cond) (o1 : Addr) (e1 : Addr) (mc : Int32) (b1 : Addr) (k1 : ClassId) (ev0 : Value) (h0 : Heap) (n0 : Nat) (Z0 : n0 ≤ h0.size) (F1 : Fld Z h0 o1 "java/util/AbstractList" "modCount" "I" (.int mc)) (F2 : Fld Z h0 o1 "java/util/ArrayList" "elementData" "[Ljava/lang/Object;" (.ref b1)) (F3 : Fld Z h0 o1 "java/util/ArrayList" "size" "I" (.int (1 : Int32))) (E1 : Exa Z h0 o1 "java/util/ArrayList") (g1 : n0 ≤ o1) (V1 : Arv Z h0 b1 k1 (.object "java/lang/Object") (10 : Int32) [ev0, .null] .null) (g2 : n0 ≤ b1) (n1 : o1 ≠ b1) (O1 : Ovr Z k1 "java/lang/Object") (E2 : Exa Z h0 e1 "java/util/ArrayList") (n12 : o1 ≠ e1) :
    MetFree l (⟨"java/util/ArrayList", "add", "(Ljava/lang/Object;)Z"⟩ : MethodName) (head1 (Jvm.Cond.code (⟨"java/util/ArrayList", "add", "(Ljava/lang/Object;)Z"⟩ : MethodName) jdk_38_method_25_code 2 (some .boolean) :: ws) ({ frames := 1, cells := 0, slots := 0, locals := 15 } : Room)) (fun aa UU => aa = #[(.ref o1), (.ref e1)] ∧ Z.Warmed39 UU.vm ∧ UU.heap = h0) (fun _ _ _ _ _ => True) (fun _ UU oo UU' => ∃ vv LL, oo = .returned vv ∧ Q14k1 Z o1 e1 mc b1 k1 ev0 h0 n0 vv UU'.heap LL ∧ FrameEnd UU oo UU' LL ({ frames := 1, cells := 0, slots := 0, locals := 15 } : Room).cells ({ frames := 1, cells := 0, slots := 0, locals := 15 } : Room).slots) := by
  have W : ∀ {d : Jvm.Cond} (i : Nat), tables_1[i]? = some d → d.before a0 Z = true := fun i h => hw _ (List.mem_of_getElem? h)
  refine MetFree.of_bodySF (plainFor_of_name pn12) hisR ?_
  intro p e s m args below meth c s₁ Bd hml0 hP hK
  obtain ⟨rfl, hZ, hh⟩ := hP
  have hx := Bd.exec
  have hby := Bd.bytes
  have hml : c.maxLocals = 2 := hml0
  have hown : s.vm.findClass "java/util/ArrayList" = some m.cls := findClass_of_methodNamed Bd.named
  have hnm := (name_of_methodNamed Bd.named Bd.method).1
  have X0 : Stand p l e ({ frames := 1, cells := 0, slots := 0, locals := 15 } : Room) s m #[(.ref o1), (.ref e1)] below meth c s₁ [] 0 0 := Stand.of_body Bd
  have e0 : s₁.heap = h0 := by rw [← hh, Bd.state]; rfl
  have N0 := Fr.nil n0
  have pre0 : ∀ tt, Steps p.tables e below (s₁.setTop (mkF m 0 #[rv o1, rv e1] [])) tt → Steps p.tables e below (s₁.setTop (entryFrame m #[(.ref o1), (.ref e1)] 2)) tt := fun tt kt => castTop (ef14k1 m o1 e1) kt
  obtain ⟨ST, hST⟩ : ∃ z : State, z = s₁.setTop (mkF m 0 #[rv o1, rv e1] []) := ⟨_, rfl⟩
  rw [← hST] at pre0
  have KC0 : Keep h0 h0 [o1, b1] := Keep.refl h0 [o1, b1]
  have go204 : own_S p e below ST s₁ (mkF m 2 #[rv o1, rv e1] [(.ref o1), (.ref o1)]) := fun tt kt => (by
      rw [hST]
      show Steps p.tables e below (s₁.setTop (mkF m 0 #[rv o1, rv e1] [])) _
      refine XS.aloadN X0.here hx rfl (hb hby d14_0) rfl rfl ?_
      refine XS.dup X0.here hx rfl (hb hby d14_1) rfl rfl ?_
      exact kt)
  obtain ⟨T205, X205, e205, st205⟩ := getF X0 hx hZ hown (host := "") (Or.inl (W 118 rfl)) (Via.of (W 119 rfl)) e0 F1 (g := (mkF m 2 #[rv o1, rv e1] [(.ref o1), (.ref o1)])) rfl rfl (hb hby d14_2)
  have go206 : own_S p e below ST T205 (mkF m 5 #[rv o1, rv e1] [(.int mc), (.ref o1)]) := fun tt kt => go204 tt (st205 _ kt)
  have go207 : own_S p e below ST T205 (mkF m 7 #[rv o1, rv e1] [(.int (mc + (1 : Int32))), (.ref o1)]) := fun tt kt => go206 tt (by
      refine XS.iconst X205.here hx rfl (hb hby d14_5) ?_
      refine XS.iadd X205.here hx rfl (hb hby d14_6) rfl ?_
      exact kt)
  obtain ⟨T208, h208, X208, e208, W208, st208⟩ := putF X205 hx hZ hown (host := "") (Or.inl (W 118 rfl)) (Via.of (W 119 rfl)) e205 F1 E1 (Or.inl (W 72 rfl)) (W 53 rfl) (ty := .int) (by decide) rfl rfl (g := (mkF m 7 #[rv o1, rv e1] [(.int (mc + (1 : Int32))), (.ref o1)])) rfl rfl (hb hby d14_7)
  have Fw208 := F1.same W208
  have N208 := Fr.snoc X208 N0 g1
  have go209 : own_S p e below ST T208 (mkF m 10 #[rv o1, rv e1] []) := fun tt kt => go207 tt (st208 _ kt)
  have KC208 : Keep h0 h208 [o1, b1] := KC0.wr W208 (Or.inl (List.mem_of_getElem? (i := 0) rfl))
  have go210 : own_S p e below ST T208 (mkF m 13 #[rv o1, rv e1] [(.ref o1), (.ref e1), (.ref o1)]) := fun tt kt => go209 tt (by
      refine XS.aloadN X208.here hx rfl (hb hby d14_10) rfl rfl ?_
      refine XS.aloadN X208.here hx rfl (hb hby d14_11) rfl rfl ?_
      refine XS.aloadN X208.here hx rfl (hb hby d14_12) rfl rfl ?_
      exact kt)
  have f211 := (F2.other W208 (Or.inr (slot_ne (Or.inl (W 75 rfl)) (Or.inl (W 72 rfl)) (by decide) (t := (.array (.object "java/lang/Object"))) (t' := .int) (by decide) (by decide))))
  obtain ⟨T212, X212, e212, st212⟩ := getF X208 hx hZ hown (host := "") (Or.inl (W 74 rfl)) Via.refl e208 f211 (g := (mkF m 13 #[rv o1, rv e1] [(.ref o1), (.ref e1), (.ref o1)])) rfl rfl (hb hby d14_13)
  have go213 : own_S p e below ST T212 (mkF m 16 #[rv o1, rv e1] [(.ref b1), (.ref e1), (.ref o1)]) := fun tt kt => go210 tt (st212 _ kt)
  have go214 : own_S p e below ST T212 (mkF m 17 #[rv o1, rv e1] [(.ref o1), (.ref b1), (.ref e1), (.ref o1)]) := fun tt kt => go213 tt (by
      refine XS.aloadN X212.here hx rfl (hb hby d14_16) rfl rfl ?_
      exact kt)
  have f215 := (F3.other W208 (Or.inr (slot_ne (Or.inl (W 121 rfl)) (Or.inl (W 72 rfl)) (by decide) (t := .int) (t' := .int) (by decide) (by decide))))
  obtain ⟨T216, X216, e216, st216⟩ := getF X212 hx hZ hown (host := "") (Or.inl (W 120 rfl)) Via.refl e212 f215 (g := (mkF m 17 #[rv o1, rv e1] [(.ref o1), (.ref b1), (.ref e1), (.ref o1)])) rfl rfl (hb hby d14_17)
  have go217 : own_S p e below ST T216 (mkF m 20 #[rv o1, rv e1] [(.int (1 : Int32)), (.ref b1), (.ref e1), (.ref o1)]) := fun tt kt => go214 tt (st216 _ kt)
  have f218 := (E1.wr W208)
  have f219 := (V1.other W208 (Ne.symm n1))
  have f220 := (E2.wr W208)
  have zs222 := (Nat.le_trans Z0 (Keep.of_wr W208).1)
  obtain ⟨cq221, q221, q221'⟩ := f218.cell
  obtain ⟨_, _, ⟨T221, L221, k221, n221⟩, -, X221, ⟨Lc221, hQ221, l221, y221, z221⟩, st221⟩ := X216.privateBack hx (y := (⟨"java/util/ArrayList", "add", "(Ljava/lang/Object;[Ljava/lang/Object;I)V"⟩ : MethodName)) hown (mvT hZ (W 122 rfl)) (mvT hZ (W 123 rfl)) (mvT hZ (W 125 rfl)) (Cond.privateMethod_at (mvP hZ (W 124 rfl) (args := #[]))) (mvT hZ (W 126 rfl)) (by decide) (backOf (W := 0) (rm15k1 l Z a0 hw [] o1 e1 (mc + (1 : Int32)) b1 k1 ev0 h208 n0 zs222 Fw208 f211 f215 f218 g1 f219 g2 n1 O1 f220 n12) hZ (W 126 rfl) (W 54 rfl) (by decide) (by decide)) (g := (mkF m 20 #[rv o1, rv e1] [(.int (1 : Int32)), (.ref b1), (.ref e1), (.ref o1)])) rfl (by rw [hml]; rfl) (Steps.refl _) (a := o1) (by rw [e216]; exact q221) q221' (argsL := [(.ref e1), (.ref b1), (.int (1 : Int32))]) (rest := []) (lenOf pd83 rfl) rfl (by show 2 * 0 + _ ≤ _; exact Nat.le_of_eq rfl) (hb hby d14_20) (fun _ _ => ⟨rfl, e216, (by decide : 0 + 0 ≤ _), (by decide : 0 + 0 ≤ _)⟩)
  dsimp only [Pt.U, Pt.locs, Pt.cells, Pt.slots] at X221 l221 y221 z221 st221 hQ221
  subst l221 y221 z221
  obtain ⟨rfl, Nq221, K221⟩ := hQ221
  have N221 := Fr.app N208 Nq221
  have go223 : own_S p e below ST T221 (mkF m 23 #[rv o1, rv e1] []) := fun tt kt => go217 tt (st221.trans kt)
  have KC221 : Keep h0 T221.heap [o1, b1] := KC208.trans K221 (allS (Or.inl (List.mem_of_getElem? (i := 0) rfl)) (allS (Or.inl (List.mem_of_getElem? (i := 1) rfl)) all0))
  have go224 : own_S p e below ST T221 (mkF m 24 #[rv o1, rv e1] [(.int (1 : Int32))]) := fun tt kt => go223 tt (by
      refine XS.iconst X221.here hx rfl (hb hby d14_23) ?_
      exact kt)
  obtain ⟨fs, hr, hrun, hended, hW, hsame⟩ := X221.leave (v := some (.int (1 : Int32))) (fun h => by rw [Bd.returns] at h; cases h) (hlocks := by first | exact BodyLoose.notSynchronized Bd | exact Body.notSynchronized Bd)
  refine ⟨_, _, pre0 _ (go224 _ ?_), hrun, hended, _, _, rfl, ?_, ⟨_, rfl⟩, hW, hsame.mono (by decide) (by decide)⟩
  · exact retN X221 hx (t := .boolean) Bd.returns (by simp) (hb hby d14_24) hr
  · show Q14k1 Z o1 e1 mc b1 k1 ev0 h0 n0 _ T221.heap _
    exact ⟨rfl, N221, KC221⟩
theorem pn86 : plainName "java/util/BitSet" = true := by first | (simp [plainName, overriddenIn]; done) | decide +kernel
theorem d4_0 : decode jdk_92_method_1_code 0 = .ok (.iload_n 0, 1) := by decide +kernel
theorem d4_1 : decode jdk_92_method_1_code 1 = .ok (.bipush 6, 2) := by decide +kernel
theorem d4_3 : decode jdk_92_method_1_code 3 = .ok (.ishr, 1) := by decide +kernel
theorem d4_4 : decode jdk_92_method_1_code 4 = .ok (.ireturn, 1) := by decide +kernel
theorem ef4 (m : MethodId) (x0 : Int32) : entryFrame m #[(.int x0)] 1 = mkF m 0 #[.val (.int x0)] [] := by first | (simp [entryFrame, mkF, argsToLocals, Value.category]; done) | rfl
def Q4 (Z : State) (ii : Int32) (h0 : Heap) (n0 : Nat) (v : Option Value) (h : Heap) (L : List Loc) : Prop := v = some (.int 0) ∧ Fr n0 L ∧ h = h0
set_option maxRecDepth 65536 in
set_option maxHeartbeats 40000000 in
theorem rm4 (l : Launch) (Z : State) (a0 : Array Value) (hw : ∀ d ∈ tables_1, d.before a0 Z = true) (ws : List Jvm.Cond) (ii : Int32) (h0 : Heap) (n0 : Nat) (Z0 : n0 ≤ h0.size) (h6 : ii >>> ((6 : Int32) &&& 31) = 0) :
    MetFree l (⟨"java/util/BitSet", "wordIndex", "(I)I"⟩ : MethodName) (head1 (Jvm.Cond.code (⟨"java/util/BitSet", "wordIndex", "(I)I"⟩ : MethodName) jdk_92_method_1_code 1 (some .int) :: ws) ({ frames := 0, cells := 0, slots := 0, locals := 0 } : Room)) (fun aa UU => aa = #[(.int ii)] ∧ Z.Warmed39 UU.vm ∧ UU.heap = h0) (fun _ _ _ _ _ => True) (fun _ UU oo UU' => ∃ vv LL, oo = .returned vv ∧ Q4 Z ii h0 n0 vv UU'.heap LL ∧ FrameEnd UU oo UU' LL ({ frames := 0, cells := 0, slots := 0, locals := 0 } : Room).cells ({ frames := 0, cells := 0, slots := 0, locals := 0 } : Room).slots) := by
  have W : ∀ {d : Jvm.Cond} (i : Nat), tables_1[i]? = some d → d.before a0 Z = true := fun i h => hw _ (List.mem_of_getElem? h)
  refine MetFree.of_bodySF (plainFor_of_name pn86) hisR ?_
  intro p e s m args below meth c s₁ Bd hml0 hP hK
  obtain ⟨rfl, hZ, hh⟩ := hP
  have hx := Bd.exec
  have hby := Bd.bytes
  have hml : c.maxLocals = 1 := hml0
  have hown : s.vm.findClass "java/util/BitSet" = some m.cls := findClass_of_methodNamed Bd.named
  have hnm := (name_of_methodNamed Bd.named Bd.method).1
  have X0 : Stand p l e ({ frames := 0, cells := 0, slots := 0, locals := 0 } : Room) s m #[(.int ii)] below meth c s₁ [] 0 0 := Stand.of_body Bd
  have e0 : s₁.heap = h0 := by rw [← hh, Bd.state]; rfl
  have N0 := Fr.nil n0
  have pre0 : ∀ tt, Steps p.tables e below (s₁.setTop (mkF m 0 #[iv ii] [])) tt → Steps p.tables e below (s₁.setTop (entryFrame m #[(.int ii)] 1)) tt := fun tt kt => castTop (ef4 m ii) kt
  obtain ⟨ST, hST⟩ : ∃ z : State, z = s₁.setTop (mkF m 0 #[iv ii] []) := ⟨_, rfl⟩
  rw [← hST] at pre0
  have go225 : own_S p e below ST s₁ (mkF m 4 #[iv ii] [(.int (ii >>> ((6 : Int32) &&& 31)))]) := fun tt kt => (by
      rw [hST]
      show Steps p.tables e below (s₁.setTop (mkF m 0 #[iv ii] [])) _
      refine XS.iloadN X0.here hx rfl (hb hby d4_0) rfl ?_
      refine XS.bipush X0.here hx rfl (hb hby d4_1) ?_
      refine XS.ishr X0.here hx rfl (hb hby d4_3) rfl ?_
      exact kt)
  obtain ⟨fs, hr, hrun, hended, hW, hsame⟩ := X0.leave (v := some (.int (ii >>> ((6 : Int32) &&& 31)))) (fun h => by rw [Bd.returns] at h; cases h) (hlocks := by first | exact BodyLoose.notSynchronized Bd | exact Body.notSynchronized Bd)
  refine ⟨_, _, pre0 _ (go225 _ ?_), hrun, hended, _, _, rfl, ?_, ⟨_, rfl⟩, hW, hsame.mono (by decide) (by decide)⟩
  · exact retI X0 hx Bd.returns (hb hby d4_4) hr
  · show Q4 Z ii h0 n0 _ s₁.heap _
    rw [e0]
    exact ⟨(by rw [h6]), N0, rfl⟩
theorem d3_0 : decode jdk_92_method_6_code 0 = .ok (.aload_n 0, 1) := by decide +kernel
theorem d3_1 : decode jdk_92_method_6_code 1 = .ok (.iload_n 1, 1) := by decide +kernel
theorem d3_2 : decode jdk_92_method_6_code 2 = .ok (.iconst 1, 1) := by decide +kernel
theorem d3_3 : decode jdk_92_method_6_code 3 = .ok (.isub, 1) := by decide +kernel
theorem d3_4 : decode jdk_92_method_6_code 4 = .ok (.invokestatic 52, 3) := by decide +kernel
theorem pd96 : parseMethodDescriptor "(I)I" = some ⟨[.int], some .int⟩ := by decide +kernel
theorem d3_7 : decode jdk_92_method_6_code 7 = .ok (.iconst 1, 1) := by decide +kernel
theorem d3_8 : decode jdk_92_method_6_code 8 = .ok (.iadd, 1) := by decide +kernel
theorem d3_9 : decode jdk_92_method_6_code 9 = .ok (.newarray .long, 2) := by decide +kernel
theorem d3_11 : decode jdk_92_method_6_code 11 = .ok (.putfield 11, 3) := by decide +kernel
theorem d3_14 : decode jdk_92_method_6_code 14 = .ok (.return_, 1) := by decide +kernel
theorem ef3 (m : MethodId) (x0 : Addr) (x1 : Int32) : entryFrame m #[(.ref x0), (.int x1)] 2 = mkF m 0 #[.val (.ref x0), .val (.int x1)] [] := by first | (simp [entryFrame, mkF, argsToLocals, Value.category]; done) | rfl
def Q3 (Z : State) (o1 : Addr) (u1 : Value) (u2 : Value) (h0 : Heap) (n0 : Nat) (v : Option Value) (h : Heap) (L : List Loc) : Prop := ∃ (b : Addr) (kb : ClassId), v = none ∧ Fr n0 L ∧ Keep h0 h [o1] ∧ Fld Z h o1 "java/util/BitSet" "wordsInUse" "I" u1 ∧ Fld Z h o1 "java/util/BitSet" "sizeIsSticky" "Z" u2 ∧ Fld Z h o1 "java/util/BitSet" "words" "[J" (.ref b) ∧ Arv Z h b kb .long (1 : Int32) [(.long (0 : Int64))] (.long (0 : Int64)) ∧ n0 ≤ b ∧ h0.size ≤ b ∧ o1 ≠ b
set_option maxRecDepth 65536 in
set_option maxHeartbeats 40000000 in
theorem rm3 (l : Launch) (Z : State) (a0 : Array Value) (hw : ∀ d ∈ tables_1, d.before a0 Z = true) (ws : List Jvm.Cond) (o1 : Addr) (u1 : Value) (u2 : Value) (h0 : Heap) (n0 : Nat) (Z0 : n0 ≤ h0.size) (F1 : Fld Z h0 o1 "java/util/BitSet" "wordsInUse" "I" u1) (F2 : Fld Z h0 o1 "java/util/BitSet" "sizeIsSticky" "Z" u2) (F3 : Fld Z h0 o1 "java/util/BitSet" "words" "[J" .null) (E1 : Exa Z h0 o1 "java/util/BitSet") (g1 : n0 ≤ o1) :
    MetFree l (⟨"java/util/BitSet", "initWords", "(I)V"⟩ : MethodName) (head1 (Jvm.Cond.code (⟨"java/util/BitSet", "initWords", "(I)V"⟩ : MethodName) jdk_92_method_6_code 2 none :: ws) ({ frames := 1, cells := 1, slots := 1, locals := 13 } : Room)) (fun aa UU => aa = #[(.ref o1), (.int (64 : Int32))] ∧ Z.Warmed39 UU.vm ∧ UU.heap = h0) (fun _ _ _ _ _ => True) (fun _ UU oo UU' => ∃ vv LL, oo = .returned vv ∧ Q3 Z o1 u1 u2 h0 n0 vv UU'.heap LL ∧ FrameEnd UU oo UU' LL ({ frames := 1, cells := 1, slots := 1, locals := 13 } : Room).cells ({ frames := 1, cells := 1, slots := 1, locals := 13 } : Room).slots) := by
  have W : ∀ {d : Jvm.Cond} (i : Nat), tables_1[i]? = some d → d.before a0 Z = true := fun i h => hw _ (List.mem_of_getElem? h)
  refine MetFree.of_bodySF (plainFor_of_name pn86) hisR ?_
  intro p e s m args below meth c s₁ Bd hml0 hP hK
  obtain ⟨rfl, hZ, hh⟩ := hP
  have hx := Bd.exec
  have hby := Bd.bytes
  have hml : c.maxLocals = 2 := hml0
  have hown : s.vm.findClass "java/util/BitSet" = some m.cls := findClass_of_methodNamed Bd.named
  have hnm := (name_of_methodNamed Bd.named Bd.method).1
  have X0 : Stand p l e ({ frames := 1, cells := 1, slots := 1, locals := 13 } : Room) s m #[(.ref o1), (.int (64 : Int32))] below meth c s₁ [] 0 0 := Stand.of_body Bd
  have e0 : s₁.heap = h0 := by rw [← hh, Bd.state]; rfl
  have N0 := Fr.nil n0
  have pre0 : ∀ tt, Steps p.tables e below (s₁.setTop (mkF m 0 #[rv o1, iv (64 : Int32)] [])) tt → Steps p.tables e below (s₁.setTop (entryFrame m #[(.ref o1), (.int (64 : Int32))] 2)) tt := fun tt kt => castTop (ef3 m o1 (64 : Int32)) kt
  obtain ⟨ST, hST⟩ : ∃ z : State, z = s₁.setTop (mkF m 0 #[rv o1, iv (64 : Int32)] []) := ⟨_, rfl⟩
  rw [← hST] at pre0
  have KC0 : Keep h0 h0 [o1] := Keep.refl h0 [o1]
  have go226 : own_S p e below ST s₁ (mkF m 4 #[rv o1, iv (64 : Int32)] [(.int (63 : Int32)), (.ref o1)]) := fun tt kt => (by
      rw [hST]
      show Steps p.tables e below (s₁.setTop (mkF m 0 #[rv o1, iv (64 : Int32)] [])) _
      refine XS.aloadN X0.here hx rfl (hb hby d3_0) rfl rfl ?_
      refine XS.iloadN X0.here hx rfl (hb hby d3_1) rfl ?_
      refine XS.iconst X0.here hx rfl (hb hby d3_2) ?_
      refine XS.isub X0.here hx rfl (hb hby d3_3) rfl ?_
      exact kt)
  obtain ⟨_, _, ⟨T227, L227, k227, n227⟩, -, X227, ⟨Lc227, hQ227, l227, y227, z227⟩, st227⟩ := Jvm.LawKit.callS X0 hx (y := (⟨"java/util/BitSet", "wordIndex", "(I)I"⟩ : MethodName)) hown (mvT hZ (W 18 rfl)) (mvT hZ (W 19 rfl)) (mvT hZ (W 2 rfl)) (mvT hZ (W 20 rfl)) (by decide) (backOf (W := 1) (rm4 l Z a0 hw [] (63 : Int32) h0 n0 Z0 (by decide)) hZ (W 20 rfl) (W 2 rfl) (by decide) (by decide)) (g := (mkF m 4 #[rv o1, iv (64 : Int32)] [(.int (63 : Int32)), (.ref o1)])) rfl (by rw [hml]; rfl) (argsL := [(.int (63 : Int32))]) (rest := [(.ref o1)]) (lenOf pd96 rfl) rfl (by show 2 * 0 + _ ≤ _; exact Nat.le_of_eq rfl) (hb hby d3_4) (fun _ _ => ⟨rfl, e0, (by decide : 0 + 0 ≤ _), (by decide : 0 + 0 ≤ _)⟩)
  dsimp only [Pt.U, Pt.locs, Pt.cells, Pt.slots] at X227 l227 y227 z227 st227 hQ227
  subst l227 y227 z227
  obtain ⟨rfl, Nq227, eh227⟩ := hQ227
  have N227 := Fr.app N0 Nq227
  have go228 : own_S p e below ST T227 (mkF m 7 #[rv o1, iv (64 : Int32)] [(.int (0 : Int32)), (.ref o1)]) := fun tt kt => go226 tt (st227 _ kt)
  have go229 : own_S p e below ST T227 (mkF m 9 #[rv o1, iv (64 : Int32)] [(.int (1 : Int32)), (.ref o1)]) := fun tt kt => go228 tt (by
      refine XS.iconst X227.here hx rfl (hb hby d3_7) ?_
      refine XS.iadd X227.here hx rfl (hb hby d3_8) rfl ?_
      exact kt)
  obtain ⟨b230, g230⟩ : ∃ z, z = h0.size := ⟨_, rfl⟩
  obtain ⟨T230, h230, k230, X230, e230, E230, A230, st230⟩ := newP X227 hx hZ (W 21 rfl) eh227 (g := (mkF m 9 #[rv o1, iv (64 : Int32)] [(.int (1 : Int32)), (.ref o1)])) rfl (hb hby d3_9) rfl (by decide) (cap := 1) (by decide) (by decide) (by decide) (by decide)
  rw [← g230] at A230 st230
  have neo1_b230 : o1 ≠ b230 := Nat.ne_of_lt (Nat.lt_of_lt_of_le E1.lt (Nat.le_of_eq g230.symm))
  have ge_b230 : n0 ≤ b230 := Nat.le_trans Z0 (Nat.le_of_eq g230.symm)
  have sz_b230 : h0.size ≤ b230 := Nat.le_trans KC0.1 (Nat.le_of_eq g230.symm)
  have V230 : Arv Z h230 b230 k230 .long (1 : Int32) [(.long (0 : Int64))] (.long (0 : Int64)) := (Arv.new A230 (by decide)).pad (pad_rep [] (.long (0 : Int64)) 1)
  have KC230 : Keep h0 h230 [o1] := KC0.ext E230
  have go231 : own_S p e below ST T230 (mkF m 11 #[rv o1, iv (64 : Int32)] [(.ref b230), (.ref o1)]) := fun tt kt => go229 tt (st230 _ kt)
  have f233 := (F3.ext E230)
  have f234 := (E1.ext E230)
  obtain ⟨T232, h232, X232, e232, W232, st232⟩ := putF X230 hx hZ hown (host := "") (Or.inl (W 22 rfl)) Via.refl e230 f233 f234 (Or.inl (W 23 rfl)) (W 1 rfl) (ty := (.array .long)) (by decide) rfl rfl (g := (mkF m 11 #[rv o1, iv (64 : Int32)] [(.ref b230), (.ref o1)])) rfl rfl (hb hby d3_11)
  have Fw232 := f233.same W232
  have N232 := Fr.snoc X232 N227 g1
  have go235 : own_S p e below ST T232 (mkF m 14 #[rv o1, iv (64 : Int32)] []) := fun tt kt => go231 tt (st232 _ kt)
  have KC232 : Keep h0 h232 [o1] := KC230.wr W232 (Or.inl (List.mem_of_getElem? (i := 0) rfl))
  have f236 := ((F1.ext E230).other W232 (Or.inr (slot_ne (Or.inl (W 10 rfl)) (Or.inl (W 23 rfl)) (by decide) (t := .int) (t' := (.array .long)) (by decide) (by decide))))
  have f237 := ((F2.ext E230).other W232 (Or.inr (slot_ne (Or.inl (W 12 rfl)) (Or.inl (W 23 rfl)) (by decide) (t := .boolean) (t' := (.array .long)) (by decide) (by decide))))
  have f238 := (V230.other W232 (Ne.symm neo1_b230))
  obtain ⟨fs, hr, hrun, hended, hW, hsame⟩ := X232.leave (v := none) (fun _ => rfl) (hlocks := by first | exact BodyLoose.notSynchronized Bd | exact Body.notSynchronized Bd)
  refine ⟨_, _, pre0 _ (go235 _ ?_), hrun, hended, _, _, rfl, ?_, ⟨_, rfl⟩, hW, hsame.mono (by decide) (by decide)⟩
  · exact X232.returnOut hx Bd.returns (hb hby d3_14) hr
  · show Q3 Z o1 u1 u2 h0 n0 _ T232.heap _
    rw [e232]
    exact ⟨b230, k230, rfl, N232, KC232, f236, f237, Fw232, f238, ge_b230, sz_b230, neo1_b230⟩
theorem d1_0 : decode jdk_92_method_4_code 0 = .ok (.aload_n 0, 1) := by decide +kernel
theorem d1_1 : decode jdk_92_method_4_code 1 = .ok (.invokespecial 21, 3) := by decide +kernel
theorem d1_4 : decode jdk_92_method_4_code 4 = .ok (.aload_n 0, 1) := by decide +kernel
theorem d1_5 : decode jdk_92_method_4_code 5 = .ok (.iconst 0, 1) := by decide +kernel
theorem d1_6 : decode jdk_92_method_4_code 6 = .ok (.putfield 7, 3) := by decide +kernel
theorem d1_9 : decode jdk_92_method_4_code 9 = .ok (.aload_n 0, 1) := by decide +kernel
theorem d1_10 : decode jdk_92_method_4_code 10 = .ok (.iconst 0, 1) := by decide +kernel
theorem d1_11 : decode jdk_92_method_4_code 11 = .ok (.putfield 24, 3) := by decide +kernel
theorem d1_14 : decode jdk_92_method_4_code 14 = .ok (.aload_n 0, 1) := by decide +kernel
theorem d1_15 : decode jdk_92_method_4_code 15 = .ok (.bipush 64, 2) := by decide +kernel
theorem d1_17 : decode jdk_92_method_4_code 17 = .ok (.invokevirtual 27, 3) := by decide +kernel
theorem pd113 : parseMethodDescriptor "(I)V" = some ⟨[.int], none⟩ := by decide +kernel
theorem d1_20 : decode jdk_92_method_4_code 20 = .ok (.aload_n 0, 1) := by decide +kernel
theorem d1_21 : decode jdk_92_method_4_code 21 = .ok (.iconst 0, 1) := by decide +kernel
theorem d1_22 : decode jdk_92_method_4_code 22 = .ok (.putfield 24, 3) := by decide +kernel
theorem d1_25 : decode jdk_92_method_4_code 25 = .ok (.return_, 1) := by decide +kernel
theorem ef1 (m : MethodId) (x0 : Addr) : entryFrame m #[(.ref x0)] 1 = mkF m 0 #[.val (.ref x0)] [] := by first | (simp [entryFrame, mkF, argsToLocals, Value.category]; done) | rfl
def Q1 (Z : State) (o1 : Addr) (h0 : Heap) (n0 : Nat) (v : Option Value) (h : Heap) (L : List Loc) : Prop := ∃ (b : Addr) (kb : ClassId), v = none ∧ Fr n0 L ∧ Keep h0 h [o1] ∧ Fld Z h o1 "java/util/BitSet" "wordsInUse" "I" (.int (0 : Int32)) ∧ Fld Z h o1 "java/util/BitSet" "sizeIsSticky" "Z" (.int (nar .boolean (0 : Int32))) ∧ Fld Z h o1 "java/util/BitSet" "words" "[J" (.ref b) ∧ Arv Z h b kb .long (1 : Int32) [(.long (0 : Int64))] (.long (0 : Int64)) ∧ n0 ≤ b ∧ h0.size ≤ b ∧ o1 ≠ b
set_option maxRecDepth 65536 in
set_option maxHeartbeats 40000000 in
theorem rm1 (l : Launch) (Z : State) (a0 : Array Value) (hw : ∀ d ∈ tables_1, d.before a0 Z = true) (ws : List Jvm.Cond) (o1 : Addr) (h0 : Heap) (n0 : Nat) (Z0 : n0 ≤ h0.size) (F1 : Fld Z h0 o1 "java/util/BitSet" "wordsInUse" "I" (.int (0 : Int32))) (F2 : Fld Z h0 o1 "java/util/BitSet" "sizeIsSticky" "Z" (.int (0 : Int32))) (F3 : Fld Z h0 o1 "java/util/BitSet" "words" "[J" .null) (E1 : Exa Z h0 o1 "java/util/BitSet") (g1 : n0 ≤ o1) :
    MetFree l (⟨"java/util/BitSet", "<init>", "()V"⟩ : MethodName) (head1 (Jvm.Cond.code (⟨"java/util/BitSet", "<init>", "()V"⟩ : MethodName) jdk_92_method_4_code 1 none :: ws) ({ frames := 2, cells := 1, slots := 1, locals := 26 } : Room)) (fun aa UU => aa = #[(.ref o1)] ∧ Z.Warmed39 UU.vm ∧ UU.heap = h0) (fun _ _ _ _ _ => True) (fun _ UU oo UU' => ∃ vv LL, oo = .returned vv ∧ Q1 Z o1 h0 n0 vv UU'.heap LL ∧ FrameEnd UU oo UU' LL ({ frames := 2, cells := 1, slots := 1, locals := 26 } : Room).cells ({ frames := 2, cells := 1, slots := 1, locals := 26 } : Room).slots) := by
  have W : ∀ {d : Jvm.Cond} (i : Nat), tables_1[i]? = some d → d.before a0 Z = true := fun i h => hw _ (List.mem_of_getElem? h)
  refine MetFree.of_bodySF (plainFor_of_name pn86) hisR ?_
  intro p e s m args below meth c s₁ Bd hml0 hP hK
  obtain ⟨rfl, hZ, hh⟩ := hP
  have hx := Bd.exec
  have hby := Bd.bytes
  have hml : c.maxLocals = 1 := hml0
  have hown : s.vm.findClass "java/util/BitSet" = some m.cls := findClass_of_methodNamed Bd.named
  have hnm := (name_of_methodNamed Bd.named Bd.method).1
  have X0 : Stand p l e ({ frames := 2, cells := 1, slots := 1, locals := 26 } : Room) s m #[(.ref o1)] below meth c s₁ [] 0 0 := Stand.of_body Bd
  have e0 : s₁.heap = h0 := by rw [← hh, Bd.state]; rfl
  have N0 := Fr.nil n0
  have pre0 : ∀ tt, Steps p.tables e below (s₁.setTop (mkF m 0 #[rv o1] [])) tt → Steps p.tables e below (s₁.setTop (entryFrame m #[(.ref o1)] 1)) tt := fun tt kt => castTop (ef1 m o1) kt
  obtain ⟨ST, hST⟩ : ∃ z : State, z = s₁.setTop (mkF m 0 #[rv o1] []) := ⟨_, rfl⟩
  rw [← hST] at pre0
  have KC0 : Keep h0 h0 [o1] := Keep.refl h0 [o1]
  have go239 : own_S p e below ST s₁ (mkF m 1 #[rv o1] [(.ref o1)]) := fun tt kt => (by
      rw [hST]
      show Steps p.tables e below (s₁.setTop (mkF m 0 #[rv o1] [])) _
      refine XS.aloadN X0.here hx rfl (hb hby d1_0) rfl rfl ?_
      exact kt)
  obtain ⟨T240, X240, e240, st240⟩ := initO X0 hx hZ hown (W 6 rfl) (W 7 rfl) (W 8 rfl) e0 (g := (mkF m 1 #[rv o1] [(.ref o1)])) rfl (by rw [hml]; rfl) rfl (hb hby d1_1) (by decide) (W := 0) (by show 2 * 0 + _ ≤ _; exact Nat.le_of_eq rfl) (by decide)
  have go241 : own_S p e below ST T240 (mkF m 4 #[rv o1] []) := fun tt kt => go239 tt (st240 _ kt)
  have go242 : own_S p e below ST T240 (mkF m 6 #[rv o1] [(.int (0 : Int32)), (.ref o1)]) := fun tt kt => go241 tt (by
      refine XS.aloadN X240.here hx rfl (hb hby d1_4) rfl rfl ?_
      refine XS.iconst X240.here hx rfl (hb hby d1_5) ?_
      exact kt)
  obtain ⟨T243, h243, X243, e243, W243, st243⟩ := putF X240 hx hZ hown (host := "") (Or.inl (W 9 rfl)) Via.refl e240 F1 E1 (Or.inl (W 10 rfl)) (W 1 rfl) (ty := .int) (by decide) rfl rfl (g := (mkF m 6 #[rv o1] [(.int (0 : Int32)), (.ref o1)])) rfl rfl (hb hby d1_6)
  have Fw243 := F1.same W243
  have N243 := Fr.snoc X243 N0 g1
  have go244 : own_S p e below ST T243 (mkF m 9 #[rv o1] []) := fun tt kt => go242 tt (st243 _ kt)
  have KC243 : Keep h0 h243 [o1] := KC0.wr W243 (Or.inl (List.mem_of_getElem? (i := 0) rfl))
  have go245 : own_S p e below ST T243 (mkF m 11 #[rv o1] [(.int (0 : Int32)), (.ref o1)]) := fun tt kt => go244 tt (by
      refine XS.aloadN X243.here hx rfl (hb hby d1_9) rfl rfl ?_
      refine XS.iconst X243.here hx rfl (hb hby d1_10) ?_
      exact kt)
  have f247 := (F2.other W243 (Or.inr (slot_ne (Or.inl (W 12 rfl)) (Or.inl (W 10 rfl)) (by decide) (t := .boolean) (t' := .int) (by decide) (by decide))))
  have f248 := (E1.wr W243)
  obtain ⟨T246, h246, X246, e246, W246, st246⟩ := putFN X243 hx hZ hown (W 11 rfl) Via.refl e243 f247 f248 (Or.inl (W 12 rfl)) (W 1 rfl) (ty := .boolean) (v' := (.int (nar .boolean (0 : Int32)))) (by decide) rfl (fits_nar_bool _) (g := (mkF m 11 #[rv o1] [(.int (0 : Int32)), (.ref o1)])) rfl rfl (hb hby d1_11)
  have Fw246 := f247.same W246
  have N246 := Fr.snoc X246 N243 g1
  have go249 : own_S p e below ST T246 (mkF m 14 #[rv o1] []) := fun tt kt => go245 tt (st246 _ kt)
  have KC246 : Keep h0 h246 [o1] := KC243.wr W246 (Or.inl (List.mem_of_getElem? (i := 0) rfl))
  have go250 : own_S p e below ST T246 (mkF m 17 #[rv o1] [(.int (64 : Int32)), (.ref o1)]) := fun tt kt => go249 tt (by
      refine XS.aloadN X246.here hx rfl (hb hby d1_14) rfl rfl ?_
      refine XS.bipush X246.here hx rfl (hb hby d1_15) ?_
      exact kt)
  have f251 := (Fw243.other W246 (Or.inr (slot_ne (Or.inl (W 10 rfl)) (Or.inl (W 12 rfl)) (by decide) (t := .int) (t' := .boolean) (by decide) (by decide))))
  have f252 := ((F3.other W243 (Or.inr (slot_ne (Or.inl (W 23 rfl)) (Or.inl (W 10 rfl)) (by decide) (t := (.array .long)) (t' := .int) (by decide) (by decide)))).other W246 (Or.inr (slot_ne (Or.inl (W 23 rfl)) (Or.inl (W 12 rfl)) (by decide) (t := (.array .long)) (t' := .boolean) (by decide) (by decide))))
  have f253 := (f248.wr W246)
  have zs255 := (Nat.le_trans (Nat.le_trans Z0 (Keep.of_wr W243).1) (Keep.of_wr W246).1)
  obtain ⟨cq254, q254, q254'⟩ := f253.cell
  obtain ⟨_, _, ⟨T254, L254, k254, n254⟩, -, X254, ⟨Lc254, hQ254, l254, y254, z254⟩, st254⟩ := X246.privateBack hx (y := (⟨"java/util/BitSet", "initWords", "(I)V"⟩ : MethodName)) hown (mvT hZ (W 13 rfl)) (mvT hZ (W 14 rfl)) (mvT hZ (W 16 rfl)) (Cond.privateMethod_at (mvP hZ (W 15 rfl) (args := #[]))) (mvT hZ (W 17 rfl)) (by decide) (backOf (W := 0) (rm3 l Z a0 hw [] o1 _ _ h246 n0 zs255 f251 Fw246 f252 f253 g1) hZ (W 17 rfl) (W 2 rfl) (by decide) (by decide)) (g := (mkF m 17 #[rv o1] [(.int (64 : Int32)), (.ref o1)])) rfl (by rw [hml]; rfl) (Steps.refl _) (a := o1) (by rw [e246]; exact q254) q254' (argsL := [(.int (64 : Int32))]) (rest := []) (lenOf pd113 rfl) rfl (by show 2 * 0 + _ ≤ _; exact Nat.le_of_eq rfl) (hb hby d1_17) (fun _ _ => ⟨rfl, e246, (by decide : 0 + 1 ≤ _), (by decide : 0 + 1 ≤ _)⟩)
  dsimp only [Pt.U, Pt.locs, Pt.cells, Pt.slots] at X254 l254 y254 z254 st254 hQ254
  subst l254 y254 z254
  obtain ⟨b254, kb254, rfl, Nq254, K254, Fa254, Fb254, Fc254, Vb254, gb254, zb254, nb254⟩ := hQ254
  have N254 := Fr.app N246 Nq254
  have go256 : own_S p e below ST T254 (mkF m 20 #[rv o1] []) := fun tt kt => go250 tt (st254.trans kt)
  have KC254 : Keep h0 T254.heap [o1] := KC246.trans K254 (allS (Or.inl (List.mem_of_getElem? (i := 0) rfl)) all0)
  have go257 : own_S p e below ST T254 (mkF m 22 #[rv o1] [(.int (0 : Int32)), (.ref o1)]) := fun tt kt => go256 tt (by
      refine XS.aloadN X254.here hx rfl (hb hby d1_20) rfl rfl ?_
      refine XS.iconst X254.here hx rfl (hb hby d1_21) ?_
      exact kt)
  have f259 := (f253.keep K254)
  obtain ⟨T258, h258, X258, e258, W258, st258⟩ := putFN X254 hx hZ hown (W 11 rfl) Via.refl rfl Fb254 f259 (Or.inl (W 12 rfl)) (W 1 rfl) (ty := .boolean) (v' := (.int (nar .boolean (0 : Int32)))) (by decide) rfl (fits_nar_bool _) (g := (mkF m 22 #[rv o1] [(.int (0 : Int32)), (.ref o1)])) rfl rfl (hb hby d1_22)
  have Fw258 := Fb254.same W258
  have N258 := Fr.snoc X258 N254 g1
  have go260 : own_S p e below ST T258 (mkF m 25 #[rv o1] []) := fun tt kt => go257 tt (st258 _ kt)
  have KC258 : Keep h0 h258 [o1] := KC254.wr W258 (Or.inl (List.mem_of_getElem? (i := 0) rfl))
  have f261 := (Fa254.other W258 (Or.inr (slot_ne (Or.inl (W 10 rfl)) (Or.inl (W 12 rfl)) (by decide) (t := .int) (t' := .boolean) (by decide) (by decide))))
  have f262 := (Fc254.other W258 (Or.inr (slot_ne (Or.inl (W 23 rfl)) (Or.inl (W 12 rfl)) (by decide) (t := (.array .long)) (t' := .boolean) (by decide) (by decide))))
  have f263 := (Vb254.other W258 (Ne.symm nb254))
  obtain ⟨fs, hr, hrun, hended, hW, hsame⟩ := X258.leave (v := none) (fun _ => rfl) (hlocks := by first | exact BodyLoose.notSynchronized Bd | exact Body.notSynchronized Bd)
  refine ⟨_, _, pre0 _ (go260 _ ?_), hrun, hended, _, _, rfl, ?_, ⟨_, rfl⟩, hW, hsame.mono (by decide) (by decide)⟩
  · exact X258.returnOut hx Bd.returns (hb hby d1_25) hr
  · show Q1 Z o1 h0 n0 _ T258.heap _
    rw [e258]
    exact ⟨b254, kb254, rfl, N258, KC258, f261, Fw258, f262, f263, gb254, (Nat.le_trans KC246.1 zb254), nb254⟩
theorem d7_0 : decode jdk_92_method_14_code 0 = .ok (.aload_n 0, 1) := by decide +kernel
theorem d7_1 : decode jdk_92_method_14_code 1 = .ok (.getfield 11, 3) := by decide +kernel
theorem d7_4 : decode jdk_92_method_14_code 4 = .ok (.arraylength, 1) := by decide +kernel
theorem d7_5 : decode jdk_92_method_14_code 5 = .ok (.iload_n 1, 1) := by decide +kernel
theorem d7_6 : decode jdk_92_method_14_code 6 = .ok (.if_icmp .ge 32, 3) := by decide +kernel
theorem d7_38 : decode jdk_92_method_14_code 38 = .ok (.return_, 1) := by decide +kernel
theorem ef7 (m : MethodId) (x0 : Addr) (x1 : Int32) : entryFrame m #[(.ref x0), (.int x1)] 3 = mkF m 0 #[.val (.ref x0), .val (.int x1), .unset] [] := by first | (simp [entryFrame, mkF, argsToLocals, Value.category]; done) | rfl
def Q7 (Z : State) (o1 : Addr) (b1 : Addr) (k1 : ClassId) (u2 : Value) (h0 : Heap) (n0 : Nat) (v : Option Value) (h : Heap) (L : List Loc) : Prop := v = none ∧ Fr n0 L ∧ h = h0
set_option maxRecDepth 65536 in
set_option maxHeartbeats 40000000 in
theorem rm7 (l : Launch) (Z : State) (a0 : Array Value) (hw : ∀ d ∈ tables_1, d.before a0 Z = true) (ws : List Jvm.Cond) (o1 : Addr) (b1 : Addr) (k1 : ClassId) (u2 : Value) (h0 : Heap) (n0 : Nat) (Z0 : n0 ≤ h0.size) (F1 : Fld Z h0 o1 "java/util/BitSet" "wordsInUse" "I" (.int (0 : Int32))) (F2 : Fld Z h0 o1 "java/util/BitSet" "sizeIsSticky" "Z" u2) (F3 : Fld Z h0 o1 "java/util/BitSet" "words" "[J" (.ref b1)) (E1 : Exa Z h0 o1 "java/util/BitSet") (g1 : n0 ≤ o1) (V1 : Arv Z h0 b1 k1 .long (1 : Int32) [(.long (0 : Int64))] (.long (0 : Int64))) (g2 : n0 ≤ b1) (n1 : o1 ≠ b1) :
    MetFree l (⟨"java/util/BitSet", "ensureCapacity", "(I)V"⟩ : MethodName) (head1 (Jvm.Cond.code (⟨"java/util/BitSet", "ensureCapacity", "(I)V"⟩ : MethodName) jdk_92_method_14_code 3 none :: ws) ({ frames := 0, cells := 0, slots := 0, locals := 0 } : Room)) (fun aa UU => aa = #[(.ref o1), (.int (1 : Int32))] ∧ Z.Warmed39 UU.vm ∧ UU.heap = h0) (fun _ _ _ _ _ => True) (fun _ UU oo UU' => ∃ vv LL, oo = .returned vv ∧ Q7 Z o1 b1 k1 u2 h0 n0 vv UU'.heap LL ∧ FrameEnd UU oo UU' LL ({ frames := 0, cells := 0, slots := 0, locals := 0 } : Room).cells ({ frames := 0, cells := 0, slots := 0, locals := 0 } : Room).slots) := by
  have W : ∀ {d : Jvm.Cond} (i : Nat), tables_1[i]? = some d → d.before a0 Z = true := fun i h => hw _ (List.mem_of_getElem? h)
  refine MetFree.of_bodySF (plainFor_of_name pn86) hisR ?_
  intro p e s m args below meth c s₁ Bd hml0 hP hK
  obtain ⟨rfl, hZ, hh⟩ := hP
  have hx := Bd.exec
  have hby := Bd.bytes
  have hml : c.maxLocals = 3 := hml0
  have hown : s.vm.findClass "java/util/BitSet" = some m.cls := findClass_of_methodNamed Bd.named
  have hnm := (name_of_methodNamed Bd.named Bd.method).1
  have X0 : Stand p l e ({ frames := 0, cells := 0, slots := 0, locals := 0 } : Room) s m #[(.ref o1), (.int (1 : Int32))] below meth c s₁ [] 0 0 := Stand.of_body Bd
  have e0 : s₁.heap = h0 := by rw [← hh, Bd.state]; rfl
  have N0 := Fr.nil n0
  have pre0 : ∀ tt, Steps p.tables e below (s₁.setTop (mkF m 0 #[rv o1, iv (1 : Int32), .unset] [])) tt → Steps p.tables e below (s₁.setTop (entryFrame m #[(.ref o1), (.int (1 : Int32))] 3)) tt := fun tt kt => castTop (ef7 m o1 (1 : Int32)) kt
  obtain ⟨ST, hST⟩ : ∃ z : State, z = s₁.setTop (mkF m 0 #[rv o1, iv (1 : Int32), .unset] []) := ⟨_, rfl⟩
  rw [← hST] at pre0
  have go264 : own_S p e below ST s₁ (mkF m 1 #[rv o1, iv (1 : Int32), .unset] [(.ref o1)]) := fun tt kt => (by
      rw [hST]
      show Steps p.tables e below (s₁.setTop (mkF m 0 #[rv o1, iv (1 : Int32), .unset] [])) _
      refine XS.aloadN X0.here hx rfl (hb hby d7_0) rfl rfl ?_
      exact kt)
  obtain ⟨T265, X265, e265, st265⟩ := getF X0 hx hZ hown (host := "") (Or.inl (W 22 rfl)) Via.refl e0 F3 (g := (mkF m 1 #[rv o1, iv (1 : Int32), .unset] [(.ref o1)])) rfl rfl (hb hby d7_1)
  have go266 : own_S p e below ST T265 (mkF m 4 #[rv o1, iv (1 : Int32), .unset] [(.ref b1)]) := fun tt kt => go264 tt (st265 _ kt)
  obtain ⟨cl267, Ar267, q267, S267, M267, H267, G267⟩ := id V1
  have go268 : own_S p e below ST T265 (mkF m 5 #[rv o1, iv (1 : Int32), .unset] [(.int (1 : Int32))]) := fun tt kt => go266 tt (by
      refine X265.arraylength hx (by rw [e265]; exact Ar267.1) (State.isArrayOf_alike hZ.alike Ar267.2.1) (g := (mkF m 4 #[rv o1, iv (1 : Int32), .unset] [(.ref b1)])) rfl rfl (hb hby d7_4) _ ?_
      rw [len_of S267 M267]
      exact kt)
  have go269 : own_S p e below ST T265 (mkF m 38 #[rv o1, iv (1 : Int32), .unset] []) := fun tt kt => go268 tt (by
      refine XS.iloadN X265.here hx rfl (hb hby d7_5) rfl ?_
      refine XS.icmpYes X265.here hx rfl (pc0 := 6) (pc' := 38) rfl (hb hby d7_6) rfl (flt (by decide : ¬ ((1 : Int32) < (1 : Int32)))).2.1 (by decide) (by decide) ?_
      exact kt)
  obtain ⟨fs, hr, hrun, hended, hW, hsame⟩ := X265.leave (v := none) (fun _ => rfl) (hlocks := by first | exact BodyLoose.notSynchronized Bd | exact Body.notSynchronized Bd)
  refine ⟨_, _, pre0 _ (go269 _ ?_), hrun, hended, _, _, rfl, ?_, ⟨_, rfl⟩, hW, hsame.mono (by decide) (by decide)⟩
  · exact X265.returnOut hx Bd.returns (hb hby d7_38) hr
  · show Q7 Z o1 b1 k1 u2 h0 n0 _ T265.heap _
    rw [e265]
    exact ⟨rfl, N0, rfl⟩
theorem d6_0 : decode jdk_92_method_15_code 0 = .ok (.iload_n 1, 1) := by decide +kernel
theorem d6_1 : decode jdk_92_method_15_code 1 = .ok (.iconst 1, 1) := by decide +kernel
theorem d6_2 : decode jdk_92_method_15_code 2 = .ok (.iadd, 1) := by decide +kernel
theorem d6_3 : decode jdk_92_method_15_code 3 = .ok (.istore_n 2, 1) := by decide +kernel
theorem d6_4 : decode jdk_92_method_15_code 4 = .ok (.aload_n 0, 1) := by decide +kernel
theorem d6_5 : decode jdk_92_method_15_code 5 = .ok (.getfield 7, 3) := by decide +kernel
theorem d6_8 : decode jdk_92_method_15_code 8 = .ok (.iload_n 2, 1) := by decide +kernel
theorem d6_9 : decode jdk_92_method_15_code 9 = .ok (.if_icmp .ge 13, 3) := by decide +kernel
theorem d6_12 : decode jdk_92_method_15_code 12 = .ok (.aload_n 0, 1) := by decide +kernel
theorem d6_13 : decode jdk_92_method_15_code 13 = .ok (.iload_n 2, 1) := by decide +kernel
theorem d6_14 : decode jdk_92_method_15_code 14 = .ok (.invokevirtual 139, 3) := by decide +kernel
theorem d6_17 : decode jdk_92_method_15_code 17 = .ok (.aload_n 0, 1) := by decide +kernel
theorem d6_18 : decode jdk_92_method_15_code 18 = .ok (.iload_n 2, 1) := by decide +kernel
theorem d6_19 : decode jdk_92_method_15_code 19 = .ok (.putfield 7, 3) := by decide +kernel
theorem d6_22 : decode jdk_92_method_15_code 22 = .ok (.return_, 1) := by decide +kernel
theorem ef6 (m : MethodId) (x0 : Addr) (x1 : Int32) : entryFrame m #[(.ref x0), (.int x1)] 3 = mkF m 0 #[.val (.ref x0), .val (.int x1), .unset] [] := by first | (simp [entryFrame, mkF, argsToLocals, Value.category]; done) | rfl
def Q6 (Z : State) (o1 : Addr) (b1 : Addr) (k1 : ClassId) (u2 : Value) (h0 : Heap) (n0 : Nat) (v : Option Value) (h : Heap) (L : List Loc) : Prop := v = none ∧ Fr n0 L ∧ Keep h0 h [o1] ∧ Fld Z h o1 "java/util/BitSet" "wordsInUse" "I" (.int (1 : Int32)) ∧ Fld Z h o1 "java/util/BitSet" "sizeIsSticky" "Z" u2 ∧ Fld Z h o1 "java/util/BitSet" "words" "[J" (.ref b1)
set_option maxRecDepth 65536 in
set_option maxHeartbeats 40000000 in
theorem rm6 (l : Launch) (Z : State) (a0 : Array Value) (hw : ∀ d ∈ tables_1, d.before a0 Z = true) (ws : List Jvm.Cond) (o1 : Addr) (b1 : Addr) (k1 : ClassId) (u2 : Value) (h0 : Heap) (n0 : Nat) (Z0 : n0 ≤ h0.size) (F1 : Fld Z h0 o1 "java/util/BitSet" "wordsInUse" "I" (.int (0 : Int32))) (F2 : Fld Z h0 o1 "java/util/BitSet" "sizeIsSticky" "Z" u2) (F3 : Fld Z h0 o1 "java/util/BitSet" "words" "[J" (.ref b1)) (E1 : Exa Z h0 o1 "java/util/BitSet") (g1 : n0 ≤ o1) (V1 : Arv Z h0 b1 k1 .long (1 : Int32) [(.long (0 : Int64))] (.long (0 : Int64))) (g2 : n0 ≤ b1) (n1 : o1 ≠ b1) :
    MetFree l (⟨"java/util/BitSet", "expandTo", "(I)V"⟩ : MethodName) (head1 (Jvm.Cond.code (⟨"java/util/BitSet", "expandTo", "(I)V"⟩ : MethodName) jdk_92_method_15_code 3 none :: ws) ({ frames := 1, cells := 0, slots := 0, locals := 14 } : Room)) (fun aa UU => aa = #[(.ref o1), (.int (0 : Int32))] ∧ Z.Warmed39 UU.vm ∧ UU.heap = h0) (fun _ _ _ _ _ => True) (fun _ UU oo UU' => ∃ vv LL, oo = .returned vv ∧ Q6 Z o1 b1 k1 u2 h0 n0 vv UU'.heap LL ∧ FrameEnd UU oo UU' LL ({ frames := 1, cells := 0, slots := 0, locals := 14 } : Room).cells ({ frames := 1, cells := 0, slots := 0, locals := 14 } : Room).slots) := by
  have W : ∀ {d : Jvm.Cond} (i : Nat), tables_1[i]? = some d → d.before a0 Z = true := fun i h => hw _ (List.mem_of_getElem? h)
  refine MetFree.of_bodySF (plainFor_of_name pn86) hisR ?_
  intro p e s m args below meth c s₁ Bd hml0 hP hK
  obtain ⟨rfl, hZ, hh⟩ := hP
  have hx := Bd.exec
  have hby := Bd.bytes
  have hml : c.maxLocals = 3 := hml0
  have hown : s.vm.findClass "java/util/BitSet" = some m.cls := findClass_of_methodNamed Bd.named
  have hnm := (name_of_methodNamed Bd.named Bd.method).1
  have X0 : Stand p l e ({ frames := 1, cells := 0, slots := 0, locals := 14 } : Room) s m #[(.ref o1), (.int (0 : Int32))] below meth c s₁ [] 0 0 := Stand.of_body Bd
  have e0 : s₁.heap = h0 := by rw [← hh, Bd.state]; rfl
  have N0 := Fr.nil n0
  have pre0 : ∀ tt, Steps p.tables e below (s₁.setTop (mkF m 0 #[rv o1, iv (0 : Int32), .unset] [])) tt → Steps p.tables e below (s₁.setTop (entryFrame m #[(.ref o1), (.int (0 : Int32))] 3)) tt := fun tt kt => castTop (ef6 m o1 (0 : Int32)) kt
  obtain ⟨ST, hST⟩ : ∃ z : State, z = s₁.setTop (mkF m 0 #[rv o1, iv (0 : Int32), .unset] []) := ⟨_, rfl⟩
  rw [← hST] at pre0
  have KC0 : Keep h0 h0 [o1] := Keep.refl h0 [o1]
  have go270 : own_S p e below ST s₁ (mkF m 5 #[rv o1, iv (0 : Int32), iv (1 : Int32)] [(.ref o1)]) := fun tt kt => (by
      rw [hST]
      show Steps p.tables e below (s₁.setTop (mkF m 0 #[rv o1, iv (0 : Int32), .unset] [])) _
      refine XS.iloadN X0.here hx rfl (hb hby d6_0) rfl ?_
      refine XS.iconst X0.here hx rfl (hb hby d6_1) ?_
      refine XS.iadd X0.here hx rfl (hb hby d6_2) rfl ?_
      refine XS.istoreN X0.here hx rfl (hb hby d6_3) rfl (l' := #[rv o1, iv (0 : Int32), iv (1 : Int32)]) rfl ?_
      refine XS.aloadN X0.here hx rfl (hb hby d6_4) rfl rfl ?_
      exact kt)
  obtain ⟨T271, X271, e271, st271⟩ := getF X0 hx hZ hown (host := "") (Or.inl (W 9 rfl)) Via.refl e0 F1 (g := (mkF m 5 #[rv o1, iv (0 : Int32), iv (1 : Int32)] [(.ref o1)])) rfl rfl (hb hby d6_5)
  have go272 : own_S p e below ST T271 (mkF m 8 #[rv o1, iv (0 : Int32), iv (1 : Int32)] [(.int (0 : Int32))]) := fun tt kt => go270 tt (st271 _ kt)
  have go273 : own_S p e below ST T271 (mkF m 14 #[rv o1, iv (0 : Int32), iv (1 : Int32)] [(.int (1 : Int32)), (.ref o1)]) := fun tt kt => go272 tt (by
      refine XS.iloadN X271.here hx rfl (hb hby d6_8) rfl ?_
      refine XS.icmpNo X271.here hx rfl (hb hby d6_9) rfl (tlt (by decide : (0 : Int32) < (1 : Int32))).2.1 ?_
      refine XS.aloadN X271.here hx rfl (hb hby d6_12) rfl rfl ?_
      refine XS.iloadN X271.here hx rfl (hb hby d6_13) rfl ?_
      exact kt)
  obtain ⟨cq274, q274, q274'⟩ := E1.cell
  obtain ⟨_, _, ⟨T274, L274, k274, n274⟩, -, X274, ⟨Lc274, hQ274, l274, y274, z274⟩, st274⟩ := X271.privateBack hx (y := (⟨"java/util/BitSet", "ensureCapacity", "(I)V"⟩ : MethodName)) hown (mvT hZ (W 34 rfl)) (mvT hZ (W 35 rfl)) (mvT hZ (W 37 rfl)) (Cond.privateMethod_at (mvP hZ (W 36 rfl) (args := #[]))) (mvT hZ (W 38 rfl)) (by decide) (backOf (W := 0) (rm7 l Z a0 hw [] o1 b1 k1 u2 h0 n0 Z0 F1 F2 F3 E1 g1 V1 g2 n1) hZ (W 38 rfl) (W 2 rfl) (by decide) (by decide)) (g := (mkF m 14 #[rv o1, iv (0 : Int32), iv (1 : Int32)] [(.int (1 : Int32)), (.ref o1)])) rfl (by rw [hml]; rfl) (Steps.refl _) (a := o1) (by rw [e271]; exact q274) q274' (argsL := [(.int (1 : Int32))]) (rest := []) (lenOf pd113 rfl) rfl (by show 2 * 0 + _ ≤ _; exact Nat.le_of_eq rfl) (hb hby d6_14) (fun _ _ => ⟨rfl, e271, (by decide : 0 + 0 ≤ _), (by decide : 0 + 0 ≤ _)⟩)
  dsimp only [Pt.U, Pt.locs, Pt.cells, Pt.slots] at X274 l274 y274 z274 st274 hQ274
  subst l274 y274 z274
  obtain ⟨rfl, Nq274, eh274⟩ := hQ274
  have N274 := Fr.app N0 Nq274
  have go275 : own_S p e below ST T274 (mkF m 17 #[rv o1, iv (0 : Int32), iv (1 : Int32)] []) := fun tt kt => go273 tt (st274.trans kt)
  have go276 : own_S p e below ST T274 (mkF m 19 #[rv o1, iv (0 : Int32), iv (1 : Int32)] [(.int (1 : Int32)), (.ref o1)]) := fun tt kt => go275 tt (by
      refine XS.aloadN X274.here hx rfl (hb hby d6_17) rfl rfl ?_
      refine XS.iloadN X274.here hx rfl (hb hby d6_18) rfl ?_
      exact kt)
  obtain ⟨T277, h277, X277, e277, W277, st277⟩ := putF X274 hx hZ hown (host := "") (Or.inl (W 9 rfl)) Via.refl eh274 F1 E1 (Or.inl (W 10 rfl)) (W 1 rfl) (ty := .int) (by decide) rfl rfl (g := (mkF m 19 #[rv o1, iv (0 : Int32), iv (1 : Int32)] [(.int (1 : Int32)), (.ref o1)])) rfl rfl (hb hby d6_19)
  have Fw277 := F1.same W277
  have N277 := Fr.snoc X277 N274 g1
  have go278 : own_S p e below ST T277 (mkF m 22 #[rv o1, iv (0 : Int32), iv (1 : Int32)] []) := fun tt kt => go276 tt (st277 _ kt)
  have KC277 : Keep h0 h277 [o1] := KC0.wr W277 (Or.inl (List.mem_of_getElem? (i := 0) rfl))
  have f279 := (F2.other W277 (Or.inr (slot_ne (Or.inl (W 12 rfl)) (Or.inl (W 10 rfl)) (by decide) (t := .boolean) (t' := .int) (by decide) (by decide))))
  have f280 := (F3.other W277 (Or.inr (slot_ne (Or.inl (W 23 rfl)) (Or.inl (W 10 rfl)) (by decide) (t := (.array .long)) (t' := .int) (by decide) (by decide))))
  obtain ⟨fs, hr, hrun, hended, hW, hsame⟩ := X277.leave (v := none) (fun _ => rfl) (hlocks := by first | exact BodyLoose.notSynchronized Bd | exact Body.notSynchronized Bd)
  refine ⟨_, _, pre0 _ (go278 _ ?_), hrun, hended, _, _, rfl, ?_, ⟨_, rfl⟩, hW, hsame.mono (by decide) (by decide)⟩
  · exact X277.returnOut hx Bd.returns (hb hby d6_22) hr
  · show Q6 Z o1 b1 k1 u2 h0 n0 _ T277.heap _
    rw [e277]
    exact ⟨rfl, N277, KC277, Fw277, f279, f280⟩
theorem d8_0 : decode jdk_92_method_2_code 0 = .ok (.getstatic 3, 3) := by decide +kernel
theorem d8_3 : decode jdk_92_method_2_code 3 = .ok (.ifCond .ne 34, 3) := by decide +kernel
theorem d8_37 : decode jdk_92_method_2_code 37 = .ok (.getstatic 3, 3) := by decide +kernel
theorem d8_40 : decode jdk_92_method_2_code 40 = .ok (.ifCond .ne 30, 3) := by decide +kernel
theorem d8_70 : decode jdk_92_method_2_code 70 = .ok (.getstatic 3, 3) := by decide +kernel
theorem d8_73 : decode jdk_92_method_2_code 73 = .ok (.ifCond .ne 37, 3) := by decide +kernel
theorem d8_110 : decode jdk_92_method_2_code 110 = .ok (.return_, 1) := by decide +kernel
theorem ef8 (m : MethodId) (x0 : Addr) : entryFrame m #[(.ref x0)] 1 = mkF m 0 #[.val (.ref x0)] [] := by first | (simp [entryFrame, mkF, argsToLocals, Value.category]; done) | rfl
def Q8 (Z : State) (o1 : Addr) (h0 : Heap) (n0 : Nat) (v : Option Value) (h : Heap) (L : List Loc) : Prop := v = none ∧ Fr n0 L ∧ h = h0
set_option maxRecDepth 65536 in
set_option maxHeartbeats 40000000 in
theorem rm8 (l : Launch) (Z : State) (a0 : Array Value) (hw : ∀ d ∈ tables_1, d.before a0 Z = true) (ws : List Jvm.Cond) (o1 : Addr) (h0 : Heap) (n0 : Nat) (Z0 : n0 ≤ h0.size) (SB : Sta Z Z.heap "java/util/BitSet" "$assertionsDisabled" "Z" (.int (1 : Int32))) (OL : Old Z n0 h0) :
    MetFree l (⟨"java/util/BitSet", "checkInvariants", "()V"⟩ : MethodName) (head1 (Jvm.Cond.code (⟨"java/util/BitSet", "checkInvariants", "()V"⟩ : MethodName) jdk_92_method_2_code 1 none :: ws) ({ frames := 0, cells := 0, slots := 0, locals := 0 } : Room)) (fun aa UU => aa = #[(.ref o1)] ∧ Z.Warmed39 UU.vm ∧ UU.heap = h0) (fun _ _ _ _ _ => True) (fun _ UU oo UU' => ∃ vv LL, oo = .returned vv ∧ Q8 Z o1 h0 n0 vv UU'.heap LL ∧ FrameEnd UU oo UU' LL ({ frames := 0, cells := 0, slots := 0, locals := 0 } : Room).cells ({ frames := 0, cells := 0, slots := 0, locals := 0 } : Room).slots) := by
  have W : ∀ {d : Jvm.Cond} (i : Nat), tables_1[i]? = some d → d.before a0 Z = true := fun i h => hw _ (List.mem_of_getElem? h)
  refine MetFree.of_bodySF (plainFor_of_name pn86) hisR ?_
  intro p e s m args below meth c s₁ Bd hml0 hP hK
  obtain ⟨rfl, hZ, hh⟩ := hP
  have hx := Bd.exec
  have hby := Bd.bytes
  have hml : c.maxLocals = 1 := hml0
  have hown : s.vm.findClass "java/util/BitSet" = some m.cls := findClass_of_methodNamed Bd.named
  have hnm := (name_of_methodNamed Bd.named Bd.method).1
  have X0 : Stand p l e ({ frames := 0, cells := 0, slots := 0, locals := 0 } : Room) s m #[(.ref o1)] below meth c s₁ [] 0 0 := Stand.of_body Bd
  have e0 : s₁.heap = h0 := by rw [← hh, Bd.state]; rfl
  have N0 := Fr.nil n0
  have pre0 : ∀ tt, Steps p.tables e below (s₁.setTop (mkF m 0 #[rv o1] [])) tt → Steps p.tables e below (s₁.setTop (entryFrame m #[(.ref o1)] 1)) tt := fun tt kt => castTop (ef8 m o1) kt
  obtain ⟨ST, hST⟩ : ∃ z : State, z = s₁.setTop (mkF m 0 #[rv o1] []) := ⟨_, rfl⟩
  rw [← hST] at pre0
  obtain ⟨T281, X281, e281, st281⟩ := getS2 X0 hx hZ hown (host := "") (Or.inl (W 44 rfl)) Via.refl e0 (SB.ext OL.2) (g := (mkF m 0 #[rv o1] [])) rfl (hb hby d8_0)
  have go282 : own_S p e below ST T281 (mkF m 3 #[rv o1] [(.int (1 : Int32))]) := fun tt kt => (by rw [hST]; exact st281 _ kt)
  have go283 : own_S p e below ST T281 (mkF m 37 #[rv o1] []) := fun tt kt => go282 tt (by
      refine XS.ifYes X281.here hx rfl (pc0 := 3) (pc' := 37) rfl (hb hby d8_3) rfl ((if0 _ _).trans (feq (by decide : ¬ ((1 : Int32) = (0 : Int32)))).2) (by decide) (by decide) ?_
      exact kt)
  obtain ⟨T284, X284, e284, st284⟩ := getS2 X281 hx hZ hown (host := "") (Or.inl (W 44 rfl)) Via.refl e281 (SB.ext OL.2) (g := (mkF m 37 #[rv o1] [])) rfl (hb hby d8_37)
  have go285 : own_S p e below ST T284 (mkF m 40 #[rv o1] [(.int (1 : Int32))]) := fun tt kt => go283 tt (st284 _ kt)
  have go286 : own_S p e below ST T284 (mkF m 70 #[rv o1] []) := fun tt kt => go285 tt (by
      refine XS.ifYes X284.here hx rfl (pc0 := 40) (pc' := 70) rfl (hb hby d8_40) rfl ((if0 _ _).trans (feq (by decide : ¬ ((1 : Int32) = (0 : Int32)))).2) (by decide) (by decide) ?_
      exact kt)
  obtain ⟨T287, X287, e287, st287⟩ := getS2 X284 hx hZ hown (host := "") (Or.inl (W 44 rfl)) Via.refl e284 (SB.ext OL.2) (g := (mkF m 70 #[rv o1] [])) rfl (hb hby d8_70)
  have go288 : own_S p e below ST T287 (mkF m 73 #[rv o1] [(.int (1 : Int32))]) := fun tt kt => go286 tt (st287 _ kt)
  have go289 : own_S p e below ST T287 (mkF m 110 #[rv o1] []) := fun tt kt => go288 tt (by
      refine XS.ifYes X287.here hx rfl (pc0 := 73) (pc' := 110) rfl (hb hby d8_73) rfl ((if0 _ _).trans (feq (by decide : ¬ ((1 : Int32) = (0 : Int32)))).2) (by decide) (by decide) ?_
      exact kt)
  obtain ⟨fs, hr, hrun, hended, hW, hsame⟩ := X287.leave (v := none) (fun _ => rfl) (hlocks := by first | exact BodyLoose.notSynchronized Bd | exact Body.notSynchronized Bd)
  refine ⟨_, _, pre0 _ (go289 _ ?_), hrun, hended, _, _, rfl, ?_, ⟨_, rfl⟩, hW, hsame.mono (by decide) (by decide)⟩
  · exact X287.returnOut hx Bd.returns (hb hby d8_110) hr
  · show Q8 Z o1 h0 n0 _ T287.heap _
    rw [e287]
    exact ⟨rfl, N0, rfl⟩
theorem d5_0 : decode jdk_92_method_19_code 0 = .ok (.iload_n 1, 1) := by decide +kernel
theorem d5_1 : decode jdk_92_method_19_code 1 = .ok (.ifCond .ge 30, 3) := by decide +kernel
theorem d5_31 : decode jdk_92_method_19_code 31 = .ok (.iload_n 1, 1) := by decide +kernel
theorem d5_32 : decode jdk_92_method_19_code 32 = .ok (.invokestatic 52, 3) := by decide +kernel
theorem d5_35 : decode jdk_92_method_19_code 35 = .ok (.istore_n 2, 1) := by decide +kernel
theorem d5_36 : decode jdk_92_method_19_code 36 = .ok (.aload_n 0, 1) := by decide +kernel
theorem d5_37 : decode jdk_92_method_19_code 37 = .ok (.iload_n 2, 1) := by decide +kernel
theorem d5_38 : decode jdk_92_method_19_code 38 = .ok (.invokevirtual 155, 3) := by decide +kernel
theorem d5_41 : decode jdk_92_method_19_code 41 = .ok (.aload_n 0, 1) := by decide +kernel
theorem d5_42 : decode jdk_92_method_19_code 42 = .ok (.getfield 11, 3) := by decide +kernel
theorem d5_45 : decode jdk_92_method_19_code 45 = .ok (.iload_n 2, 1) := by decide +kernel
theorem d5_46 : decode jdk_92_method_19_code 46 = .ok (.dup2, 1) := by decide +kernel
theorem d5_47 : decode jdk_92_method_19_code 47 = .ok (.laload, 1) := by decide +kernel
theorem d5_48 : decode jdk_92_method_19_code 48 = .ok (.lconst 1, 1) := by decide +kernel
theorem d5_49 : decode jdk_92_method_19_code 49 = .ok (.iload_n 1, 1) := by decide +kernel
theorem d5_50 : decode jdk_92_method_19_code 50 = .ok (.lshl, 1) := by decide +kernel
theorem d5_51 : decode jdk_92_method_19_code 51 = .ok (.lor, 1) := by decide +kernel
theorem d5_52 : decode jdk_92_method_19_code 52 = .ok (.lastore, 1) := by decide +kernel
theorem d5_53 : decode jdk_92_method_19_code 53 = .ok (.aload_n 0, 1) := by decide +kernel
theorem d5_54 : decode jdk_92_method_19_code 54 = .ok (.invokevirtual 56, 3) := by decide +kernel
theorem d5_57 : decode jdk_92_method_19_code 57 = .ok (.return_, 1) := by decide +kernel
theorem ef5 (m : MethodId) (x0 : Addr) (x1 : Int32) : entryFrame m #[(.ref x0), (.int x1)] 3 = mkF m 0 #[.val (.ref x0), .val (.int x1), .unset] [] := by first | (simp [entryFrame, mkF, argsToLocals, Value.category]; done) | rfl
def Q5 (Z : State) (o1 : Addr) (b1 : Addr) (k1 : ClassId) (u2 : Value) (ii : Int32) (h0 : Heap) (n0 : Nat) (v : Option Value) (h : Heap) (L : List Loc) : Prop := v = none ∧ Fr n0 L ∧ Keep h0 h [o1, b1] ∧ Fld Z h o1 "java/util/BitSet" "wordsInUse" "I" (.int (1 : Int32))
set_option maxRecDepth 65536 in
set_option maxHeartbeats 40000000 in
theorem rm5 (l : Launch) (Z : State) (a0 : Array Value) (hw : ∀ d ∈ tables_1, d.before a0 Z = true) (ws : List Jvm.Cond) (o1 : Addr) (b1 : Addr) (k1 : ClassId) (u2 : Value) (ii : Int32) (h0 : Heap) (n0 : Nat) (Z0 : n0 ≤ h0.size) (F1 : Fld Z h0 o1 "java/util/BitSet" "wordsInUse" "I" (.int (0 : Int32))) (F2 : Fld Z h0 o1 "java/util/BitSet" "sizeIsSticky" "Z" u2) (F3 : Fld Z h0 o1 "java/util/BitSet" "words" "[J" (.ref b1)) (E1 : Exa Z h0 o1 "java/util/BitSet") (g1 : n0 ≤ o1) (V1 : Arv Z h0 b1 k1 .long (1 : Int32) [(.long (0 : Int64))] (.long (0 : Int64))) (g2 : n0 ≤ b1) (n1 : o1 ≠ b1) (hi0 : ¬ ii < 0) (h6 : ii >>> ((6 : Int32) &&& 31) = 0) (SB : Sta Z Z.heap "java/util/BitSet" "$assertionsDisabled" "Z" (.int (1 : Int32))) (OL : Old Z n0 h0) :
    MetFree l (⟨"java/util/BitSet", "set", "(I)V"⟩ : MethodName) (head1 (Jvm.Cond.code (⟨"java/util/BitSet", "set", "(I)V"⟩ : MethodName) jdk_92_method_19_code 3 none :: ws) ({ frames := 2, cells := 0, slots := 0, locals := 28 } : Room)) (fun aa UU => aa = #[(.ref o1), (.int ii)] ∧ Z.Warmed39 UU.vm ∧ UU.heap = h0) (fun _ _ _ _ _ => True) (fun _ UU oo UU' => ∃ vv LL, oo = .returned vv ∧ Q5 Z o1 b1 k1 u2 ii h0 n0 vv UU'.heap LL ∧ FrameEnd UU oo UU' LL ({ frames := 2, cells := 0, slots := 0, locals := 28 } : Room).cells ({ frames := 2, cells := 0, slots := 0, locals := 28 } : Room).slots) := by
  have W : ∀ {d : Jvm.Cond} (i : Nat), tables_1[i]? = some d → d.before a0 Z = true := fun i h => hw _ (List.mem_of_getElem? h)
  refine MetFree.of_bodySF (plainFor_of_name pn86) hisR ?_
  intro p e s m args below meth c s₁ Bd hml0 hP hK
  obtain ⟨rfl, hZ, hh⟩ := hP
  have hx := Bd.exec
  have hby := Bd.bytes
  have hml : c.maxLocals = 3 := hml0
  have hown : s.vm.findClass "java/util/BitSet" = some m.cls := findClass_of_methodNamed Bd.named
  have hnm := (name_of_methodNamed Bd.named Bd.method).1
  have X0 : Stand p l e ({ frames := 2, cells := 0, slots := 0, locals := 28 } : Room) s m #[(.ref o1), (.int ii)] below meth c s₁ [] 0 0 := Stand.of_body Bd
  have e0 : s₁.heap = h0 := by rw [← hh, Bd.state]; rfl
  have N0 := Fr.nil n0
  have pre0 : ∀ tt, Steps p.tables e below (s₁.setTop (mkF m 0 #[rv o1, iv ii, .unset] [])) tt → Steps p.tables e below (s₁.setTop (entryFrame m #[(.ref o1), (.int ii)] 3)) tt := fun tt kt => castTop (ef5 m o1 ii) kt
  obtain ⟨ST, hST⟩ : ∃ z : State, z = s₁.setTop (mkF m 0 #[rv o1, iv ii, .unset] []) := ⟨_, rfl⟩
  rw [← hST] at pre0
  have KC0 : Keep h0 h0 [o1, b1] := Keep.refl h0 [o1, b1]
  have go290 : own_S p e below ST s₁ (mkF m 32 #[rv o1, iv ii, .unset] [(.int ii)]) := fun tt kt => (by
      rw [hST]
      show Steps p.tables e below (s₁.setTop (mkF m 0 #[rv o1, iv ii, .unset] [])) _
      refine XS.iloadN X0.here hx rfl (hb hby d5_0) rfl ?_
      refine XS.ifYes X0.here hx rfl (pc0 := 1) (pc' := 31) rfl (hb hby d5_1) rfl ((if0 _ _).trans (flt hi0).2.1) (by decide) (by decide) ?_
      refine XS.iloadN X0.here hx rfl (hb hby d5_31) rfl ?_
      exact kt)
  obtain ⟨_, _, ⟨T291, L291, k291, n291⟩, -, X291, ⟨Lc291, hQ291, l291, y291, z291⟩, st291⟩ := Jvm.LawKit.callS X0 hx (y := (⟨"java/util/BitSet", "wordIndex", "(I)I"⟩ : MethodName)) hown (mvT hZ (W 18 rfl)) (mvT hZ (W 19 rfl)) (mvT hZ (W 2 rfl)) (mvT hZ (W 20 rfl)) (by decide) (backOf (W := 0) (rm4 l Z a0 hw [] ii h0 n0 Z0 h6) hZ (W 20 rfl) (W 2 rfl) (by decide) (by decide)) (g := (mkF m 32 #[rv o1, iv ii, .unset] [(.int ii)])) rfl (by rw [hml]; rfl) (argsL := [(.int ii)]) (rest := []) (lenOf pd96 rfl) rfl (by show 2 * 0 + _ ≤ _; exact Nat.le_of_eq rfl) (hb hby d5_32) (fun _ _ => ⟨rfl, e0, (by decide : 0 + 0 ≤ _), (by decide : 0 + 0 ≤ _)⟩)
  dsimp only [Pt.U, Pt.locs, Pt.cells, Pt.slots] at X291 l291 y291 z291 st291 hQ291
  subst l291 y291 z291
  obtain ⟨rfl, Nq291, eh291⟩ := hQ291
  have N291 := Fr.app N0 Nq291
  have go292 : own_S p e below ST T291 (mkF m 35 #[rv o1, iv ii, .unset] [(.int (0 : Int32))]) := fun tt kt => go290 tt (st291 _ kt)
  have go293 : own_S p e below ST T291 (mkF m 38 #[rv o1, iv ii, iv (0 : Int32)] [(.int (0 : Int32)), (.ref o1)]) := fun tt kt => go292 tt (by
      refine XS.istoreN X291.here hx rfl (hb hby d5_35) rfl (l' := #[rv o1, iv ii, iv (0 : Int32)]) rfl ?_
      refine XS.aloadN X291.here hx rfl (hb hby d5_36) rfl rfl ?_
      refine XS.iloadN X291.here hx rfl (hb hby d5_37) rfl ?_
      exact kt)
  obtain ⟨cq294, q294, q294'⟩ := E1.cell
  obtain ⟨_, _, ⟨T294, L294, k294, n294⟩, -, X294, ⟨Lc294, hQ294, l294, y294, z294⟩, st294⟩ := X291.privateBack hx (y := (⟨"java/util/BitSet", "expandTo", "(I)V"⟩ : MethodName)) hown (mvT hZ (W 29 rfl)) (mvT hZ (W 30 rfl)) (mvT hZ (W 32 rfl)) (Cond.privateMethod_at (mvP hZ (W 31 rfl) (args := #[]))) (mvT hZ (W 33 rfl)) (by decide) (backOf (W := 0) (rm6 l Z a0 hw [] o1 b1 k1 u2 h0 n0 Z0 F1 F2 F3 E1 g1 V1 g2 n1) hZ (W 33 rfl) (W 2 rfl) (by decide) (by decide)) (g := (mkF m 38 #[rv o1, iv ii, iv (0 : Int32)] [(.int (0 : Int32)), (.ref o1)])) rfl (by rw [hml]; rfl) (Steps.refl _) (a := o1) (by rw [eh291]; exact q294) q294' (argsL := [(.int (0 : Int32))]) (rest := []) (lenOf pd113 rfl) rfl (by show 2 * 0 + _ ≤ _; exact Nat.le_of_eq rfl) (hb hby d5_38) (fun _ _ => ⟨rfl, eh291, (by decide : 0 + 0 ≤ _), (by decide : 0 + 0 ≤ _)⟩)
  dsimp only [Pt.U, Pt.locs, Pt.cells, Pt.slots] at X294 l294 y294 z294 st294 hQ294
  subst l294 y294 z294
  obtain ⟨rfl, Nq294, K294, Fa294, Fb294, Fc294⟩ := hQ294
  have N294 := Fr.app N291 Nq294
  have go295 : own_S p e below ST T294 (mkF m 41 #[rv o1, iv ii, iv (0 : Int32)] []) := fun tt kt => go293 tt (st294.trans kt)
  have KC294 : Keep h0 T294.heap [o1, b1] := KC0.trans K294 (allS (Or.inl (List.mem_of_getElem? (i := 0) rfl)) all0)
  have go296 : own_S p e below ST T294 (mkF m 42 #[rv o1, iv ii, iv (0 : Int32)] [(.ref o1)]) := fun tt kt => go295 tt (by
      refine XS.aloadN X294.here hx rfl (hb hby d5_41) rfl rfl ?_
      exact kt)
  obtain ⟨T297, X297, e297, st297⟩ := getF X294 hx hZ hown (host := "") (Or.inl (W 22 rfl)) Via.refl rfl Fc294 (g := (mkF m 42 #[rv o1, iv ii, iv (0 : Int32)] [(.ref o1)])) rfl rfl (hb hby d5_42)
  have go298 : own_S p e below ST T297 (mkF m 45 #[rv o1, iv ii, iv (0 : Int32)] [(.ref b1)]) := fun tt kt => go296 tt (st297 _ kt)
  have go299 : own_S p e below ST T297 (mkF m 47 #[rv o1, iv ii, iv (0 : Int32)] [(.int (0 : Int32)), (.ref b1), (.int (0 : Int32)), (.ref b1)]) := fun tt kt => go298 tt (by
      refine XS.iloadN X297.here hx rfl (hb hby d5_45) rfl ?_
      refine XT.dup2 X297.here hx rfl (hb hby d5_46) rfl rfl rfl ?_
      exact kt)
  have f301 := (V1.keep K294 (ninS (Ne.symm n1) nin0))
  obtain ⟨cl300, Ar300, q300, S300, M300, H300, G300⟩ := id f301
  have hin300 : ¬ ((0 : Int32) < 0 ∨ cl300.slots.size ≤ ((0 : Int32)).toNatClampNeg) := inb_of S300 ⟨by decide, by decide⟩
  have hat300 : cl300.slots[((0 : Int32)).toNatClampNeg]? = some (.long (0 : Int64)) := H300.at hin300 rfl
  have go302 : own_S p e below ST T297 (mkF m 48 #[rv o1, iv ii, iv (0 : Int32)] [(.long (0 : Int64)), (.int (0 : Int32)), (.ref b1)]) := fun tt kt => go299 tt (by
      refine X297.laload hx (j := (0 : Int32)) (v := (.long (0 : Int64))) (by rw [e297]; exact Ar300.1) (State.isArrayOf_alike hZ.alike Ar300.2.1) Ar300.2.2 hin300 hat300 (g := (mkF m 47 #[rv o1, iv ii, iv (0 : Int32)] [(.int (0 : Int32)), (.ref b1), (.int (0 : Int32)), (.ref b1)])) rfl rfl (hb hby d5_47) _ ?_
      exact kt)
  have go303 : own_S p e below ST T297 (mkF m 52 #[rv o1, iv ii, iv (0 : Int32)] [(.long ((0 : Int64) ||| ((1 : Int64) <<< (ii &&& 0x3f).toInt64))), (.int (0 : Int32)), (.ref b1)]) := fun tt kt => go302 tt (by
      refine XS.lconst X297.here hx rfl (hb hby d5_48) ?_
      refine XS.iloadN X297.here hx rfl (hb hby d5_49) rfl ?_
      refine XS.lshl X297.here hx rfl (hb hby d5_50) rfl ?_
      refine XS.lor X297.here hx rfl (hb hby d5_51) rfl ?_
      exact kt)
  obtain ⟨cl304, Ar304, q304, S304, M304, H304, G304⟩ := id f301
  have hin304 : ¬ ((0 : Int32) < 0 ∨ cl304.slots.size ≤ ((0 : Int32)).toNatClampNeg) := inb_of S304 ⟨by decide, by decide⟩
  obtain ⟨T304, h304, X304, e304, W304, st304⟩ := stJ X297 hx hZ e297 Ar304 (j := (0 : Int32)) hin304 (g := (mkF m 52 #[rv o1, iv ii, iv (0 : Int32)] [(.long ((0 : Int64) ||| ((1 : Int64) <<< (ii &&& 0x3f).toInt64))), (.int (0 : Int32)), (.ref b1)])) rfl rfl (hb hby d5_52)
  have V304 : Arv Z h304 b1 k1 .long (1 : Int32) [(.long ((0 : Int64) ||| ((1 : Int64) <<< (ii &&& 0x3f).toInt64)))] (.long (0 : Int64)) := Arv.set Ar304 q304 S304 M304 H304 G304 rfl W304 0 rfl (Nat.le_of_ble_eq_true rfl)
  have N304 := Fr.snoc X304 N294 g2
  have KC304 : Keep h0 h304 [o1, b1] := KC294.wr W304 (Or.inl (List.mem_of_getElem? (i := 1) rfl))
  have go305 : own_S p e below ST T304 (mkF m 53 #[rv o1, iv ii, iv (0 : Int32)] []) := fun tt kt => go303 tt (st304 _ kt)
  have go306 : own_S p e below ST T304 (mkF m 54 #[rv o1, iv ii, iv (0 : Int32)] [(.ref o1)]) := fun tt kt => go305 tt (by
      refine XS.aloadN X304.here hx rfl (hb hby d5_53) rfl rfl ?_
      exact kt)
  have f307 := ((OL.keep K294 (allS g1 all0)).wr W304 g2)
  have zs309 := (Nat.le_trans (Nat.le_trans Z0 K294.1) (Keep.of_wr W304).1)
  have f310 := ((E1.keep K294).wr W304)
  obtain ⟨cq308, q308, q308'⟩ := f310.cell
  obtain ⟨_, _, ⟨T308, L308, k308, n308⟩, -, X308, ⟨Lc308, hQ308, l308, y308, z308⟩, st308⟩ := X304.privateBack hx (y := (⟨"java/util/BitSet", "checkInvariants", "()V"⟩ : MethodName)) hown (mvT hZ (W 39 rfl)) (mvT hZ (W 40 rfl)) (mvT hZ (W 42 rfl)) (Cond.privateMethod_at (mvP hZ (W 41 rfl) (args := #[]))) (mvT hZ (W 43 rfl)) (by decide) (backOf (W := 0) (rm8 l Z a0 hw [] o1 h304 n0 zs309 SB f307) hZ (W 43 rfl) (W 2 rfl) (by decide) (by decide)) (g := (mkF m 54 #[rv o1, iv ii, iv (0 : Int32)] [(.ref o1)])) rfl (by rw [hml]; rfl) (Steps.refl _) (a := o1) (by rw [e304]; exact q308) q308' (argsL := []) (rest := []) (lenOf pd7 rfl) rfl (by show 2 * 0 + _ ≤ _; exact Nat.le_of_eq rfl) (hb hby d5_54) (fun _ _ => ⟨rfl, e304, (by decide : 0 + 0 ≤ _), (by decide : 0 + 0 ≤ _)⟩)
  dsimp only [Pt.U, Pt.locs, Pt.cells, Pt.slots] at X308 l308 y308 z308 st308 hQ308
  subst l308 y308 z308
  obtain ⟨rfl, Nq308, eh308⟩ := hQ308
  have N308 := Fr.app N304 Nq308
  have go311 : own_S p e below ST T308 (mkF m 57 #[rv o1, iv ii, iv (0 : Int32)] []) := fun tt kt => go306 tt (st308.trans kt)
  have f312 := (Fa294.other W304 (Or.inl n1))
  obtain ⟨fs, hr, hrun, hended, hW, hsame⟩ := X308.leave (v := none) (fun _ => rfl) (hlocks := by first | exact BodyLoose.notSynchronized Bd | exact Body.notSynchronized Bd)
  refine ⟨_, _, pre0 _ (go311 _ ?_), hrun, hended, _, _, rfl, ?_, ⟨_, rfl⟩, hW, hsame.mono (by decide) (by decide)⟩
  · exact X308.returnOut hx Bd.returns (hb hby d5_57) hr
  · show Q5 Z o1 b1 k1 u2 ii h0 n0 _ T308.heap _
    rw [eh308]
    exact ⟨rfl, N308, KC304, f312⟩
theorem d21_0 : decode jdk_92_method_33_code 0 = .ok (.aload_n 0, 1) := by decide +kernel
theorem d21_1 : decode jdk_92_method_33_code 1 = .ok (.getfield 7, 3) := by decide +kernel
theorem d21_4 : decode jdk_92_method_33_code 4 = .ok (.ifCond .ne 7, 3) := by decide +kernel
theorem d21_7 : decode jdk_92_method_33_code 7 = .ok (.iconst 1, 1) := by decide +kernel
theorem d21_8 : decode jdk_92_method_33_code 8 = .ok (.goto 4, 3) := by decide +kernel
theorem d21_12 : decode jdk_92_method_33_code 12 = .ok (.ireturn, 1) := by decide +kernel
theorem ef21u0 (m : MethodId) (x0 : Addr) : entryFrame m #[(.ref x0)] 1 = mkF m 0 #[.val (.ref x0)] [] := by first | (simp [entryFrame, mkF, argsToLocals, Value.category]; done) | rfl
def Q21u0 (Z : State) (o1 : Addr) (h0 : Heap) (n0 : Nat) (v : Option Value) (h : Heap) (L : List Loc) : Prop := v = some (.int 1) ∧ Fr n0 L ∧ h = h0
set_option maxRecDepth 65536 in
set_option maxHeartbeats 40000000 in
theorem rm21u0 (l : Launch) (Z : State) (a0 : Array Value) (hw : ∀ d ∈ tables_1, d.before a0 Z = true) (ws : List Jvm.Cond) (o1 : Addr) (h0 : Heap) (n0 : Nat) (Z0 : n0 ≤ h0.size) (F1 : Fld Z h0 o1 "java/util/BitSet" "wordsInUse" "I" (.int (0 : Int32))) :
    MetFree l (⟨"java/util/BitSet", "isEmpty", "()Z"⟩ : MethodName) (head1 (Jvm.Cond.code (⟨"java/util/BitSet", "isEmpty", "()Z"⟩ : MethodName) jdk_92_method_33_code 1 (some .boolean) :: ws) ({ frames := 0, cells := 0, slots := 0, locals := 0 } : Room)) (fun aa UU => aa = #[(.ref o1)] ∧ Z.Warmed39 UU.vm ∧ UU.heap = h0) (fun _ _ _ _ _ => True) (fun _ UU oo UU' => ∃ vv LL, oo = .returned vv ∧ Q21u0 Z o1 h0 n0 vv UU'.heap LL ∧ FrameEnd UU oo UU' LL ({ frames := 0, cells := 0, slots := 0, locals := 0 } : Room).cells ({ frames := 0, cells := 0, slots := 0, locals := 0 } : Room).slots) := by
  have W : ∀ {d : Jvm.Cond} (i : Nat), tables_1[i]? = some d → d.before a0 Z = true := fun i h => hw _ (List.mem_of_getElem? h)
  refine MetFree.of_bodySF (plainFor_of_name pn86) hisR ?_
  intro p e s m args below meth c s₁ Bd hml0 hP hK
  obtain ⟨rfl, hZ, hh⟩ := hP
  have hx := Bd.exec
  have hby := Bd.bytes
  have hml : c.maxLocals = 1 := hml0
  have hown : s.vm.findClass "java/util/BitSet" = some m.cls := findClass_of_methodNamed Bd.named
  have hnm := (name_of_methodNamed Bd.named Bd.method).1
  have X0 : Stand p l e ({ frames := 0, cells := 0, slots := 0, locals := 0 } : Room) s m #[(.ref o1)] below meth c s₁ [] 0 0 := Stand.of_body Bd
  have e0 : s₁.heap = h0 := by rw [← hh, Bd.state]; rfl
  have N0 := Fr.nil n0
  have pre0 : ∀ tt, Steps p.tables e below (s₁.setTop (mkF m 0 #[rv o1] [])) tt → Steps p.tables e below (s₁.setTop (entryFrame m #[(.ref o1)] 1)) tt := fun tt kt => castTop (ef21u0 m o1) kt
  obtain ⟨ST, hST⟩ : ∃ z : State, z = s₁.setTop (mkF m 0 #[rv o1] []) := ⟨_, rfl⟩
  rw [← hST] at pre0
  have go313 : own_S p e below ST s₁ (mkF m 1 #[rv o1] [(.ref o1)]) := fun tt kt => (by
      rw [hST]
      show Steps p.tables e below (s₁.setTop (mkF m 0 #[rv o1] [])) _
      refine XS.aloadN X0.here hx rfl (hb hby d21_0) rfl rfl ?_
      exact kt)
  obtain ⟨T314, X314, e314, st314⟩ := getF X0 hx hZ hown (host := "") (Or.inl (W 9 rfl)) Via.refl e0 F1 (g := (mkF m 1 #[rv o1] [(.ref o1)])) rfl rfl (hb hby d21_1)
  have go315 : own_S p e below ST T314 (mkF m 4 #[rv o1] [(.int (0 : Int32))]) := fun tt kt => go313 tt (st314 _ kt)
  have go316 : own_S p e below ST T314 (mkF m 12 #[rv o1] [(.int (1 : Int32))]) := fun tt kt => go315 tt (by
      refine XS.ifNo X314.here hx rfl (hb hby d21_4) rfl ((if0 _ _).trans (teq (by decide : (0 : Int32) = (0 : Int32))).2) ?_
      refine XS.iconst X314.here hx rfl (hb hby d21_7) ?_
      refine XS.goto X314.here hx rfl (pc0 := 8) (pc' := 12) rfl (hb hby d21_8) (by decide) (by decide) ?_
      exact kt)
  obtain ⟨fs, hr, hrun, hended, hW, hsame⟩ := X314.leave (v := some (.int (1 : Int32))) (fun h => by rw [Bd.returns] at h; cases h) (hlocks := by first | exact BodyLoose.notSynchronized Bd | exact Body.notSynchronized Bd)
  refine ⟨_, _, pre0 _ (go316 _ ?_), hrun, hended, _, _, rfl, ?_, ⟨_, rfl⟩, hW, hsame.mono (by decide) (by decide)⟩
  · exact retN X314 hx (t := .boolean) Bd.returns (by simp) (hb hby d21_12) hr
  · show Q21u0 Z o1 h0 n0 _ T314.heap _
    rw [e314]
    exact ⟨rfl, N0, rfl⟩
theorem d21_11 : decode jdk_92_method_33_code 11 = .ok (.iconst 0, 1) := by decide +kernel
theorem ef21u1 (m : MethodId) (x0 : Addr) : entryFrame m #[(.ref x0)] 1 = mkF m 0 #[.val (.ref x0)] [] := by first | (simp [entryFrame, mkF, argsToLocals, Value.category]; done) | rfl
def Q21u1 (Z : State) (o1 : Addr) (h0 : Heap) (n0 : Nat) (v : Option Value) (h : Heap) (L : List Loc) : Prop := v = some (.int 0) ∧ Fr n0 L ∧ h = h0
set_option maxRecDepth 65536 in
set_option maxHeartbeats 40000000 in
theorem rm21u1 (l : Launch) (Z : State) (a0 : Array Value) (hw : ∀ d ∈ tables_1, d.before a0 Z = true) (ws : List Jvm.Cond) (o1 : Addr) (h0 : Heap) (n0 : Nat) (Z0 : n0 ≤ h0.size) (F1 : Fld Z h0 o1 "java/util/BitSet" "wordsInUse" "I" (.int (1 : Int32))) :
    MetFree l (⟨"java/util/BitSet", "isEmpty", "()Z"⟩ : MethodName) (head1 (Jvm.Cond.code (⟨"java/util/BitSet", "isEmpty", "()Z"⟩ : MethodName) jdk_92_method_33_code 1 (some .boolean) :: ws) ({ frames := 0, cells := 0, slots := 0, locals := 0 } : Room)) (fun aa UU => aa = #[(.ref o1)] ∧ Z.Warmed39 UU.vm ∧ UU.heap = h0) (fun _ _ _ _ _ => True) (fun _ UU oo UU' => ∃ vv LL, oo = .returned vv ∧ Q21u1 Z o1 h0 n0 vv UU'.heap LL ∧ FrameEnd UU oo UU' LL ({ frames := 0, cells := 0, slots := 0, locals := 0 } : Room).cells ({ frames := 0, cells := 0, slots := 0, locals := 0 } : Room).slots) := by
  have W : ∀ {d : Jvm.Cond} (i : Nat), tables_1[i]? = some d → d.before a0 Z = true := fun i h => hw _ (List.mem_of_getElem? h)
  refine MetFree.of_bodySF (plainFor_of_name pn86) hisR ?_
  intro p e s m args below meth c s₁ Bd hml0 hP hK
  obtain ⟨rfl, hZ, hh⟩ := hP
  have hx := Bd.exec
  have hby := Bd.bytes
  have hml : c.maxLocals = 1 := hml0
  have hown : s.vm.findClass "java/util/BitSet" = some m.cls := findClass_of_methodNamed Bd.named
  have hnm := (name_of_methodNamed Bd.named Bd.method).1
  have X0 : Stand p l e ({ frames := 0, cells := 0, slots := 0, locals := 0 } : Room) s m #[(.ref o1)] below meth c s₁ [] 0 0 := Stand.of_body Bd
  have e0 : s₁.heap = h0 := by rw [← hh, Bd.state]; rfl
  have N0 := Fr.nil n0
  have pre0 : ∀ tt, Steps p.tables e below (s₁.setTop (mkF m 0 #[rv o1] [])) tt → Steps p.tables e below (s₁.setTop (entryFrame m #[(.ref o1)] 1)) tt := fun tt kt => castTop (ef21u1 m o1) kt
  obtain ⟨ST, hST⟩ : ∃ z : State, z = s₁.setTop (mkF m 0 #[rv o1] []) := ⟨_, rfl⟩
  rw [← hST] at pre0
  have go317 : own_S p e below ST s₁ (mkF m 1 #[rv o1] [(.ref o1)]) := fun tt kt => (by
      rw [hST]
      show Steps p.tables e below (s₁.setTop (mkF m 0 #[rv o1] [])) _
      refine XS.aloadN X0.here hx rfl (hb hby d21_0) rfl rfl ?_
      exact kt)
  obtain ⟨T318, X318, e318, st318⟩ := getF X0 hx hZ hown (host := "") (Or.inl (W 9 rfl)) Via.refl e0 F1 (g := (mkF m 1 #[rv o1] [(.ref o1)])) rfl rfl (hb hby d21_1)
  have go319 : own_S p e below ST T318 (mkF m 4 #[rv o1] [(.int (1 : Int32))]) := fun tt kt => go317 tt (st318 _ kt)
  have go320 : own_S p e below ST T318 (mkF m 12 #[rv o1] [(.int (0 : Int32))]) := fun tt kt => go319 tt (by
      refine XS.ifYes X318.here hx rfl (pc0 := 4) (pc' := 11) rfl (hb hby d21_4) rfl ((if0 _ _).trans (feq (by decide : ¬ ((1 : Int32) = (0 : Int32)))).2) (by decide) (by decide) ?_
      refine XS.iconst X318.here hx rfl (hb hby d21_11) ?_
      exact kt)
  obtain ⟨fs, hr, hrun, hended, hW, hsame⟩ := X318.leave (v := some (.int (0 : Int32))) (fun h => by rw [Bd.returns] at h; cases h) (hlocks := by first | exact BodyLoose.notSynchronized Bd | exact Body.notSynchronized Bd)
  refine ⟨_, _, pre0 _ (go320 _ ?_), hrun, hended, _, _, rfl, ?_, ⟨_, rfl⟩, hW, hsame.mono (by decide) (by decide)⟩
  · exact retN X318 hx (t := .boolean) Bd.returns (by simp) (hb hby d21_12) hr
  · show Q21u1 Z o1 h0 n0 _ T318.heap _
    rw [e318]
    exact ⟨rfl, N0, rfl⟩
theorem pn174 : plainName "com/example/brancher/brancher/service/Element" = true := by first | (simp [plainName, overriddenIn]; done) | decide +kernel
theorem d13_0 : decode prog_67_method_1_code 0 = .ok (.aload_n 0, 1) := by decide +kernel
theorem d13_1 : decode prog_67_method_1_code 1 = .ok (.invokespecial 1, 3) := by decide +kernel
theorem d13_4 : decode prog_67_method_1_code 4 = .ok (.aload_n 0, 1) := by decide +kernel
theorem d13_5 : decode prog_67_method_1_code 5 = .ok (.new 7, 3) := by decide +kernel
theorem d13_8 : decode prog_67_method_1_code 8 = .ok (.dup, 1) := by decide +kernel
theorem d13_9 : decode prog_67_method_1_code 9 = .ok (.invokespecial 9, 3) := by decide +kernel
theorem d13_12 : decode prog_67_method_1_code 12 = .ok (.putfield 10, 3) := by decide +kernel
theorem d13_15 : decode prog_67_method_1_code 15 = .ok (.aload_n 0, 1) := by decide +kernel
theorem d13_16 : decode prog_67_method_1_code 16 = .ok (.new 16, 3) := by decide +kernel
theorem d13_19 : decode prog_67_method_1_code 19 = .ok (.dup, 1) := by decide +kernel
theorem d13_20 : decode prog_67_method_1_code 20 = .ok (.invokespecial 18, 3) := by decide +kernel
theorem d13_23 : decode prog_67_method_1_code 23 = .ok (.putfield 19, 3) := by decide +kernel
theorem d13_26 : decode prog_67_method_1_code 26 = .ok (.aload_n 0, 1) := by decide +kernel
theorem d13_27 : decode prog_67_method_1_code 27 = .ok (.new 16, 3) := by decide +kernel
theorem d13_30 : decode prog_67_method_1_code 30 = .ok (.dup, 1) := by decide +kernel
theorem d13_31 : decode prog_67_method_1_code 31 = .ok (.invokespecial 18, 3) := by decide +kernel
theorem d13_34 : decode prog_67_method_1_code 34 = .ok (.putfield 23, 3) := by decide +kernel
theorem d13_37 : decode prog_67_method_1_code 37 = .ok (.aload_n 0, 1) := by decide +kernel
theorem d13_38 : decode prog_67_method_1_code 38 = .ok (.new 16, 3) := by decide +kernel
theorem d13_41 : decode prog_67_method_1_code 41 = .ok (.dup, 1) := by decide +kernel
theorem d13_42 : decode prog_67_method_1_code 42 = .ok (.invokespecial 18, 3) := by decide +kernel
theorem d13_45 : decode prog_67_method_1_code 45 = .ok (.putfield 26, 3) := by decide +kernel
theorem d13_48 : decode prog_67_method_1_code 48 = .ok (.return_, 1) := by decide +kernel
theorem ef13 (m : MethodId) (x0 : Addr) : entryFrame m #[(.ref x0)] 1 = mkF m 0 #[.val (.ref x0)] [] := by first | (simp [entryFrame, mkF, argsToLocals, Value.category]; done) | rfl
def Q13 (Z : State) (o1 : Addr) (ad : Addr) (kd : ClassId) (h0 : Heap) (n0 : Nat) (v : Option Value) (h : Heap) (L : List Loc) : Prop := v = none ∧ Fr n0 L ∧ Keep h0 h [o1]
set_option maxRecDepth 65536 in
set_option maxHeartbeats 40000000 in
theorem rm13 (l : Launch) (Z : State) (a0 : Array Value) (hw : ∀ d ∈ tables_1, d.before a0 Z = true) (ws : List Jvm.Cond) (o1 : Addr) (ad : Addr) (kd : ClassId) (h0 : Heap) (n0 : Nat) (Z0 : n0 ≤ h0.size) (F1 : Fld Z h0 o1 "com/example/brancher/brancher/service/Element" "names" "Ljava/util/BitSet;" .null) (F2 : Fld Z h0 o1 "com/example/brancher/brancher/service/Element" "roles" "Ljava/util/List;" .null) (F3 : Fld Z h0 o1 "com/example/brancher/brancher/service/Element" "successors" "Ljava/util/List;" .null) (F4 : Fld Z h0 o1 "com/example/brancher/brancher/service/Element" "slots" "Ljava/util/List;" .null) (E1 : Exa Z h0 o1 "com/example/brancher/brancher/service/Element") (g1 : n0 ≤ o1) (SD : Sta Z Z.heap "java/util/ArrayList" "DEFAULTCAPACITY_EMPTY_ELEMENTDATA" "[Ljava/lang/Object;" (.ref ad)) (VD : Arv Z Z.heap ad kd (.object "java/lang/Object") (0 : Int32) [] .null) (OL : Old Z n0 h0) :
    MetFree l (⟨"com/example/brancher/brancher/service/Element", "<init>", "()V"⟩ : MethodName) (head1 (Jvm.Cond.code (⟨"com/example/brancher/brancher/service/Element", "<init>", "()V"⟩ : MethodName) prog_67_method_1_code 1 none :: ws) ({ frames := 4, cells := 5, slots := 13, locals := 50 } : Room)) (fun aa UU => aa = #[(.ref o1)] ∧ Z.Warmed39 UU.vm ∧ UU.heap = h0) (fun _ _ _ _ _ => True) (fun _ UU oo UU' => ∃ vv LL, oo = .returned vv ∧ Q13 Z o1 ad kd h0 n0 vv UU'.heap LL ∧ FrameEnd UU oo UU' LL ({ frames := 4, cells := 5, slots := 13, locals := 50 } : Room).cells ({ frames := 4, cells := 5, slots := 13, locals := 50 } : Room).slots) := by
  have W : ∀ {d : Jvm.Cond} (i : Nat), tables_1[i]? = some d → d.before a0 Z = true := fun i h => hw _ (List.mem_of_getElem? h)
  refine MetFree.of_bodySF (plainFor_of_name pn174) hisR ?_
  intro p e s m args below meth c s₁ Bd hml0 hP hK
  obtain ⟨rfl, hZ, hh⟩ := hP
  have hx := Bd.exec
  have hby := Bd.bytes
  have hml : c.maxLocals = 1 := hml0
  have hown : s.vm.findClass "com/example/brancher/brancher/service/Element" = some m.cls := findClass_of_methodNamed Bd.named
  have hnm := (name_of_methodNamed Bd.named Bd.method).1
  have X0 : Stand p l e ({ frames := 4, cells := 5, slots := 13, locals := 50 } : Room) s m #[(.ref o1)] below meth c s₁ [] 0 0 := Stand.of_body Bd
  have e0 : s₁.heap = h0 := by rw [← hh, Bd.state]; rfl
  have N0 := Fr.nil n0
  have pre0 : ∀ tt, Steps p.tables e below (s₁.setTop (mkF m 0 #[rv o1] [])) tt → Steps p.tables e below (s₁.setTop (entryFrame m #[(.ref o1)] 1)) tt := fun tt kt => castTop (ef13 m o1) kt
  obtain ⟨ST, hST⟩ : ∃ z : State, z = s₁.setTop (mkF m 0 #[rv o1] []) := ⟨_, rfl⟩
  rw [← hST] at pre0
  have KC0 : Keep h0 h0 [o1] := Keep.refl h0 [o1]
  have go321 : own_S p e below ST s₁ (mkF m 1 #[rv o1] [(.ref o1)]) := fun tt kt => (by
      rw [hST]
      show Steps p.tables e below (s₁.setTop (mkF m 0 #[rv o1] [])) _
      refine XS.aloadN X0.here hx rfl (hb hby d13_0) rfl rfl ?_
      exact kt)
  obtain ⟨T322, X322, e322, st322⟩ := initO X0 hx hZ hown (W 95 rfl) (W 7 rfl) (W 8 rfl) e0 (g := (mkF m 1 #[rv o1] [(.ref o1)])) rfl (by rw [hml]; rfl) rfl (hb hby d13_1) (by decide) (W := 0) (by show 2 * 0 + _ ≤ _; exact Nat.le_of_eq rfl) (by decide)
  have go323 : own_S p e below ST T322 (mkF m 4 #[rv o1] []) := fun tt kt => go321 tt (st322 _ kt)
  have go324 : own_S p e below ST T322 (mkF m 5 #[rv o1] [(.ref o1)]) := fun tt kt => go323 tt (by
      refine XS.aloadN X322.here hx rfl (hb hby d13_4) rfl rfl ?_
      exact kt)
  obtain ⟨b325, g325⟩ : ∃ z, z = h0.size := ⟨_, rfl⟩
  obtain ⟨T325, h325, X325, e325, E325, A325, D325, -, st325⟩ := newO X322 hx hZ hown (W 96 rfl) (W 1 rfl) (W 2 rfl) e322 (g := (mkF m 5 #[rv o1] [(.ref o1)])) rfl (hb hby d13_5) (by decide) (by decide)
  rw [← g325] at A325 D325 st325
  have neo1_b325 : o1 ≠ b325 := Nat.ne_of_lt (Nat.lt_of_lt_of_le E1.lt (Nat.le_of_eq g325.symm))
  have ge_b325 : n0 ≤ b325 := Nat.le_trans Z0 (Nat.le_of_eq g325.symm)
  have sz_b325 : h0.size ≤ b325 := Nat.le_trans KC0.1 (Nat.le_of_eq g325.symm)
  have F325_wordsInUse : Fld Z h325 b325 "java/util/BitSet" "wordsInUse" "I" (.int (0 : Int32)) := D325 (Or.inl (W 10 rfl)) (ty := .int) (by decide)
  have F325_sizeIsSticky : Fld Z h325 b325 "java/util/BitSet" "sizeIsSticky" "Z" (.int (0 : Int32)) := D325 (Or.inl (W 12 rfl)) (ty := .boolean) (by decide)
  have F325_words : Fld Z h325 b325 "java/util/BitSet" "words" "[J" .null := D325 (Or.inl (W 23 rfl)) (ty := (.array .long)) (by decide)
  have KC325 : Keep h0 h325 [o1] := KC0.ext E325
  have go326 : own_S p e below ST T325 (mkF m 8 #[rv o1] [(.ref b325), (.ref o1)]) := fun tt kt => go324 tt (st325 _ kt)
  have go327 : own_S p e below ST T325 (mkF m 9 #[rv o1] [(.ref b325), (.ref b325), (.ref o1)]) := fun tt kt => go326 tt (by
      refine XS.dup X325.here hx rfl (hb hby d13_8) rfl rfl ?_
      exact kt)
  have zs329 := (Nat.le_trans Z0 E325.1)
  obtain ⟨_, _, ⟨T328, L328, k328, n328⟩, -, X328, ⟨Lc328, hQ328, l328, y328, z328⟩, st328⟩ := X325.specialBack hx (y := (⟨"java/util/BitSet", "<init>", "()V"⟩ : MethodName)) rfl hown (mvT hZ (W 97 rfl)) (mvT hZ (W 4 rfl)) (mvT hZ (W 5 rfl)) (by decide) (backOf (W := 2) (rm1 l Z a0 hw [] b325 h325 n0 zs329 F325_wordsInUse F325_sizeIsSticky F325_words A325 ge_b325) hZ (W 5 rfl) (W 2 rfl) (by decide) (by decide)) (g := (mkF m 9 #[rv o1] [(.ref b325), (.ref b325), (.ref o1)])) rfl (by rw [hml]; rfl) (Steps.refl _) (a := b325) (argsL := []) (rest := [(.ref b325), (.ref o1)]) (lenOf pd7 rfl) rfl (by show 2 * 0 + _ ≤ _; exact Nat.le_of_eq rfl) (hb hby d13_9) (fun _ _ => ⟨rfl, e325, (by decide : 1 + 1 ≤ _), (by decide : 3 + 1 ≤ _)⟩)
  dsimp only [Pt.U, Pt.locs, Pt.cells, Pt.slots] at X328 l328 y328 z328 st328 hQ328
  subst l328 y328 z328
  obtain ⟨b328, kb328, rfl, Nq328, K328, Fa328, Fb328, Fc328, Vb328, gb328, zb328, nb328⟩ := hQ328
  have N328 := Fr.app N0 Nq328
  have go330 : own_S p e below ST T328 (mkF m 12 #[rv o1] [(.ref b325), (.ref o1)]) := fun tt kt => go327 tt (st328.trans kt)
  have KC328 : Keep h0 T328.heap [o1] := KC325.trans K328 (allS (Or.inr sz_b325) all0)
  have f332 := ((F1.ext E325).keep K328 (ninS neo1_b325 nin0))
  have f333 := ((E1.ext E325).keep K328)
  obtain ⟨T331, h331, X331, e331, W331, st331⟩ := putF X328 hx hZ hown (host := "") (Or.inl (W 98 rfl)) Via.refl rfl f332 f333 (Or.inr ⟨(W 99 rfl), rfl, hnm⟩) (W 90 rfl) (ty := (.object "java/util/BitSet")) (by decide) rfl rfl (g := (mkF m 12 #[rv o1] [(.ref b325), (.ref o1)])) rfl rfl (hb hby d13_12)
  have Fw331 := f332.same W331
  have N331 := Fr.snoc X331 N328 g1
  have go334 : own_S p e below ST T331 (mkF m 15 #[rv o1] []) := fun tt kt => go330 tt (st331 _ kt)
  have KC331 : Keep h0 h331 [o1] := KC328.wr W331 (Or.inl (List.mem_of_getElem? (i := 0) rfl))
  have go335 : own_S p e below ST T331 (mkF m 16 #[rv o1] [(.ref o1)]) := fun tt kt => go334 tt (by
      refine XS.aloadN X331.here hx rfl (hb hby d13_15) rfl rfl ?_
      exact kt)
  have f337 := (f333.wr W331)
  have f338 := ((A325.keep K328).wr W331)
  have zs339 := (Nat.le_trans (Nat.le_trans zs329 K328.1) (Keep.of_wr W331).1)
  obtain ⟨b336, g336⟩ : ∃ z, z = h331.size := ⟨_, rfl⟩
  obtain ⟨T336, h336, X336, e336, E336, A336, D336, -, st336⟩ := newO X331 hx hZ hown (W 100 rfl) (W 53 rfl) (W 54 rfl) e331 (g := (mkF m 16 #[rv o1] [(.ref o1)])) rfl (hb hby d13_16) (by decide) (by decide)
  rw [← g336] at A336 D336 st336
  have neo1_b336 : o1 ≠ b336 := Nat.ne_of_lt (Nat.lt_of_lt_of_le f337.lt (Nat.le_of_eq g336.symm))
  have neb325_b336 : b325 ≠ b336 := Nat.ne_of_lt (Nat.lt_of_lt_of_le f338.lt (Nat.le_of_eq g336.symm))
  have ge_b336 : n0 ≤ b336 := Nat.le_trans zs339 (Nat.le_of_eq g336.symm)
  have sz_b336 : h0.size ≤ b336 := Nat.le_trans KC331.1 (Nat.le_of_eq g336.symm)
  have F336_modCount : Fld Z h336 b336 "java/util/AbstractList" "modCount" "I" (.int (0 : Int32)) := D336 (Or.inl (W 72 rfl)) (ty := .int) (by decide)
  have F336_elementData : Fld Z h336 b336 "java/util/ArrayList" "elementData" "[Ljava/lang/Object;" .null := D336 (Or.inl (W 75 rfl)) (ty := (.array (.object "java/lang/Object"))) (by decide)
  have F336_size : Fld Z h336 b336 "java/util/ArrayList" "size" "I" (.int (0 : Int32)) := D336 (Or.inl (W 121 rfl)) (ty := .int) (by decide)
  have KC336 : Keep h0 h336 [o1] := KC331.ext E336
  have go340 : own_S p e below ST T336 (mkF m 19 #[rv o1] [(.ref b336), (.ref o1)]) := fun tt kt => go335 tt (st336 _ kt)
  have go341 : own_S p e below ST T336 (mkF m 20 #[rv o1] [(.ref b336), (.ref b336), (.ref o1)]) := fun tt kt => go340 tt (by
      refine XS.dup X336.here hx rfl (hb hby d13_19) rfl rfl ?_
      exact kt)
  have f342 := ((((OL.ext E325).keep K328 (allS ge_b325 all0)).wr W331 g1).ext E336)
  have zs344 := (Nat.le_trans zs339 E336.1)
  obtain ⟨_, _, ⟨T343, L343, k343, n343⟩, -, X343, ⟨Lc343, hQ343, l343, y343, z343⟩, st343⟩ := X336.specialBack hx (y := (⟨"java/util/ArrayList", "<init>", "()V"⟩ : MethodName)) rfl hown (mvT hZ (W 101 rfl)) (mvT hZ (W 56 rfl)) (mvT hZ (W 57 rfl)) (by decide) (backOf (W := 2) (rm10 l Z a0 hw [] b336 ad h336 n0 zs344 F336_modCount F336_elementData F336_size A336 ge_b336 SD f342) hZ (W 57 rfl) (W 54 rfl) (by decide) (by decide)) (g := (mkF m 20 #[rv o1] [(.ref b336), (.ref b336), (.ref o1)])) rfl (by rw [hml]; rfl) (Steps.refl _) (a := b336) (argsL := []) (rest := [(.ref b336), (.ref o1)]) (lenOf pd7 rfl) rfl (by show 2 * 0 + _ ≤ _; exact Nat.le_of_eq rfl) (hb hby d13_20) (fun _ _ => ⟨rfl, e336, (by decide : 3 + 0 ≤ _), (by decide : 7 + 0 ≤ _)⟩)
  dsimp only [Pt.U, Pt.locs, Pt.cells, Pt.slots] at X343 l343 y343 z343 st343 hQ343
  subst l343 y343 z343
  obtain ⟨rfl, Nq343, K343, Fa343, Fb343, Fc343⟩ := hQ343
  have N343 := Fr.app N331 Nq343
  have go345 : own_S p e below ST T343 (mkF m 23 #[rv o1] [(.ref b336), (.ref o1)]) := fun tt kt => go341 tt (st343.trans kt)
  have KC343 : Keep h0 T343.heap [o1] := KC336.trans K343 (allS (Or.inr sz_b336) all0)
  have f347 := (((((F2.ext E325).keep K328 (ninS neo1_b325 nin0)).other W331 (Or.inr (slot_ne (Or.inr (W 103 rfl)) (Or.inr (W 99 rfl)) (by decide) (t := (.object "java/util/List")) (t' := (.object "java/util/BitSet")) (by decide) (by decide)))).ext E336).keep K343 (ninS neo1_b336 nin0))
  have f348 := ((f337.ext E336).keep K343)
  obtain ⟨T346, h346, X346, e346, W346, st346⟩ := putF X343 hx hZ hown (host := "") (Or.inl (W 102 rfl)) Via.refl rfl f347 f348 (Or.inr ⟨(W 103 rfl), rfl, hnm⟩) (W 90 rfl) (ty := (.object "java/util/List")) (by decide) rfl rfl (g := (mkF m 23 #[rv o1] [(.ref b336), (.ref o1)])) rfl rfl (hb hby d13_23)
  have Fw346 := f347.same W346
  have N346 := Fr.snoc X346 N343 g1
  have go349 : own_S p e below ST T346 (mkF m 26 #[rv o1] []) := fun tt kt => go345 tt (st346 _ kt)
  have KC346 : Keep h0 h346 [o1] := KC343.wr W346 (Or.inl (List.mem_of_getElem? (i := 0) rfl))
  have go350 : own_S p e below ST T346 (mkF m 27 #[rv o1] [(.ref o1)]) := fun tt kt => go349 tt (by
      refine XS.aloadN X346.here hx rfl (hb hby d13_26) rfl rfl ?_
      exact kt)
  have f352 := (f348.wr W346)
  have f353 := (((f338.ext E336).keep K343).wr W346)
  have f354 := ((A336.keep K343).wr W346)
  have zs355 := (Nat.le_trans (Nat.le_trans zs344 K343.1) (Keep.of_wr W346).1)
  obtain ⟨b351, g351⟩ : ∃ z, z = h346.size := ⟨_, rfl⟩
  obtain ⟨T351, h351, X351, e351, E351, A351, D351, -, st351⟩ := newO X346 hx hZ hown (W 100 rfl) (W 53 rfl) (W 54 rfl) e346 (g := (mkF m 27 #[rv o1] [(.ref o1)])) rfl (hb hby d13_27) (by decide) (by decide)
  rw [← g351] at A351 D351 st351
  have neo1_b351 : o1 ≠ b351 := Nat.ne_of_lt (Nat.lt_of_lt_of_le f352.lt (Nat.le_of_eq g351.symm))
  have neb325_b351 : b325 ≠ b351 := Nat.ne_of_lt (Nat.lt_of_lt_of_le f353.lt (Nat.le_of_eq g351.symm))
  have neb336_b351 : b336 ≠ b351 := Nat.ne_of_lt (Nat.lt_of_lt_of_le f354.lt (Nat.le_of_eq g351.symm))
  have ge_b351 : n0 ≤ b351 := Nat.le_trans zs355 (Nat.le_of_eq g351.symm)
  have sz_b351 : h0.size ≤ b351 := Nat.le_trans KC346.1 (Nat.le_of_eq g351.symm)
  have F351_modCount : Fld Z h351 b351 "java/util/AbstractList" "modCount" "I" (.int (0 : Int32)) := D351 (Or.inl (W 72 rfl)) (ty := .int) (by decide)
  have F351_elementData : Fld Z h351 b351 "java/util/ArrayList" "elementData" "[Ljava/lang/Object;" .null := D351 (Or.inl (W 75 rfl)) (ty := (.array (.object "java/lang/Object"))) (by decide)
  have F351_size : Fld Z h351 b351 "java/util/ArrayList" "size" "I" (.int (0 : Int32)) := D351 (Or.inl (W 121 rfl)) (ty := .int) (by decide)
  have KC351 : Keep h0 h351 [o1] := KC346.ext E351
  have go356 : own_S p e below ST T351 (mkF m 30 #[rv o1] [(.ref b351), (.ref o1)]) := fun tt kt => go350 tt (st351 _ kt)
  have go357 : own_S p e below ST T351 (mkF m 31 #[rv o1] [(.ref b351), (.ref b351), (.ref o1)]) := fun tt kt => go356 tt (by
      refine XS.dup X351.here hx rfl (hb hby d13_30) rfl rfl ?_
      exact kt)
  have f358 := (((f342.keep K343 (allS ge_b336 all0)).wr W346 g1).ext E351)
  have zs360 := (Nat.le_trans zs355 E351.1)
  obtain ⟨_, _, ⟨T359, L359, k359, n359⟩, -, X359, ⟨Lc359, hQ359, l359, y359, z359⟩, st359⟩ := X351.specialBack hx (y := (⟨"java/util/ArrayList", "<init>", "()V"⟩ : MethodName)) rfl hown (mvT hZ (W 101 rfl)) (mvT hZ (W 56 rfl)) (mvT hZ (W 57 rfl)) (by decide) (backOf (W := 2) (rm10 l Z a0 hw [] b351 ad h351 n0 zs360 F351_modCount F351_elementData F351_size A351 ge_b351 SD f358) hZ (W 57 rfl) (W 54 rfl) (by decide) (by decide)) (g := (mkF m 31 #[rv o1] [(.ref b351), (.ref b351), (.ref o1)])) rfl (by rw [hml]; rfl) (Steps.refl _) (a := b351) (argsL := []) (rest := [(.ref b351), (.ref o1)]) (lenOf pd7 rfl) rfl (by show 2 * 0 + _ ≤ _; exact Nat.le_of_eq rfl) (hb hby d13_31) (fun _ _ => ⟨rfl, e351, (by decide : 4 + 0 ≤ _), (by decide : 10 + 0 ≤ _)⟩)
  dsimp only [Pt.U, Pt.locs, Pt.cells, Pt.slots] at X359 l359 y359 z359 st359 hQ359
  subst l359 y359 z359
  obtain ⟨rfl, Nq359, K359, Fa359, Fb359, Fc359⟩ := hQ359
  have N359 := Fr.app N346 Nq359
  have go361 : own_S p e below ST T359 (mkF m 34 #[rv o1] [(.ref b351), (.ref o1)]) := fun tt kt => go357 tt (st359.trans kt)
  have KC359 : Keep h0 T359.heap [o1] := KC351.trans K359 (allS (Or.inr sz_b351) all0)
  have f363 := ((((((((F3.ext E325).keep K328 (ninS neo1_b325 nin0)).other W331 (Or.inr (slot_ne (Or.inr (W 105 rfl)) (Or.inr (W 99 rfl)) (by decide) (t := (.object "java/util/List")) (t' := (.object "java/util/BitSet")) (by decide) (by decide)))).ext E336).keep K343 (ninS neo1_b336 nin0)).other W346 (Or.inr (slot_ne (Or.inr (W 105 rfl)) (Or.inr (W 103 rfl)) (by decide) (t := (.object "java/util/List")) (t' := (.object "java/util/List")) (by decide) (by decide)))).ext E351).keep K359 (ninS neo1_b351 nin0))
  have f364 := ((f352.ext E351).keep K359)
  obtain ⟨T362, h362, X362, e362, W362, st362⟩ := putF X359 hx hZ hown (host := "") (Or.inl (W 104 rfl)) Via.refl rfl f363 f364 (Or.inr ⟨(W 105 rfl), rfl, hnm⟩) (W 90 rfl) (ty := (.object "java/util/List")) (by decide) rfl rfl (g := (mkF m 34 #[rv o1] [(.ref b351), (.ref o1)])) rfl rfl (hb hby d13_34)
  have Fw362 := f363.same W362
  have N362 := Fr.snoc X362 N359 g1
  have go365 : own_S p e below ST T362 (mkF m 37 #[rv o1] []) := fun tt kt => go361 tt (st362 _ kt)
  have KC362 : Keep h0 h362 [o1] := KC359.wr W362 (Or.inl (List.mem_of_getElem? (i := 0) rfl))
  have go366 : own_S p e below ST T362 (mkF m 38 #[rv o1] [(.ref o1)]) := fun tt kt => go365 tt (by
      refine XS.aloadN X362.here hx rfl (hb hby d13_37) rfl rfl ?_
      exact kt)
  have f368 := (f364.wr W362)
  have f369 := (((f353.ext E351).keep K359).wr W362)
  have f370 := (((f354.ext E351).keep K359).wr W362)
  have f371 := ((A351.keep K359).wr W362)
  have zs372 := (Nat.le_trans (Nat.le_trans zs360 K359.1) (Keep.of_wr W362).1)
  obtain ⟨b367, g367⟩ : ∃ z, z = h362.size := ⟨_, rfl⟩
  obtain ⟨T367, h367, X367, e367, E367, A367, D367, -, st367⟩ := newO X362 hx hZ hown (W 100 rfl) (W 53 rfl) (W 54 rfl) e362 (g := (mkF m 38 #[rv o1] [(.ref o1)])) rfl (hb hby d13_38) (by decide) (by decide)
  rw [← g367] at A367 D367 st367
  have neo1_b367 : o1 ≠ b367 := Nat.ne_of_lt (Nat.lt_of_lt_of_le f368.lt (Nat.le_of_eq g367.symm))
  have neb325_b367 : b325 ≠ b367 := Nat.ne_of_lt (Nat.lt_of_lt_of_le f369.lt (Nat.le_of_eq g367.symm))
  have neb336_b367 : b336 ≠ b367 := Nat.ne_of_lt (Nat.lt_of_lt_of_le f370.lt (Nat.le_of_eq g367.symm))
  have neb351_b367 : b351 ≠ b367 := Nat.ne_of_lt (Nat.lt_of_lt_of_le f371.lt (Nat.le_of_eq g367.symm))
  have ge_b367 : n0 ≤ b367 := Nat.le_trans zs372 (Nat.le_of_eq g367.symm)
  have sz_b367 : h0.size ≤ b367 := Nat.le_trans KC362.1 (Nat.le_of_eq g367.symm)
  have F367_modCount : Fld Z h367 b367 "java/util/AbstractList" "modCount" "I" (.int (0 : Int32)) := D367 (Or.inl (W 72 rfl)) (ty := .int) (by decide)
  have F367_elementData : Fld Z h367 b367 "java/util/ArrayList" "elementData" "[Ljava/lang/Object;" .null := D367 (Or.inl (W 75 rfl)) (ty := (.array (.object "java/lang/Object"))) (by decide)
  have F367_size : Fld Z h367 b367 "java/util/ArrayList" "size" "I" (.int (0 : Int32)) := D367 (Or.inl (W 121 rfl)) (ty := .int) (by decide)
  have KC367 : Keep h0 h367 [o1] := KC362.ext E367
  have go373 : own_S p e below ST T367 (mkF m 41 #[rv o1] [(.ref b367), (.ref o1)]) := fun tt kt => go366 tt (st367 _ kt)
  have go374 : own_S p e below ST T367 (mkF m 42 #[rv o1] [(.ref b367), (.ref b367), (.ref o1)]) := fun tt kt => go373 tt (by
      refine XS.dup X367.here hx rfl (hb hby d13_41) rfl rfl ?_
      exact kt)
  have f375 := (((f358.keep K359 (allS ge_b351 all0)).wr W362 g1).ext E367)
  have zs377 := (Nat.le_trans zs372 E367.1)
  obtain ⟨_, _, ⟨T376, L376, k376, n376⟩, -, X376, ⟨Lc376, hQ376, l376, y376, z376⟩, st376⟩ := X367.specialBack hx (y := (⟨"java/util/ArrayList", "<init>", "()V"⟩ : MethodName)) rfl hown (mvT hZ (W 101 rfl)) (mvT hZ (W 56 rfl)) (mvT hZ (W 57 rfl)) (by decide) (backOf (W := 2) (rm10 l Z a0 hw [] b367 ad h367 n0 zs377 F367_modCount F367_elementData F367_size A367 ge_b367 SD f375) hZ (W 57 rfl) (W 54 rfl) (by decide) (by decide)) (g := (mkF m 42 #[rv o1] [(.ref b367), (.ref b367), (.ref o1)])) rfl (by rw [hml]; rfl) (Steps.refl _) (a := b367) (argsL := []) (rest := [(.ref b367), (.ref o1)]) (lenOf pd7 rfl) rfl (by show 2 * 0 + _ ≤ _; exact Nat.le_of_eq rfl) (hb hby d13_42) (fun _ _ => ⟨rfl, e367, (by decide : 5 + 0 ≤ _), (by decide : 13 + 0 ≤ _)⟩)
  dsimp only [Pt.U, Pt.locs, Pt.cells, Pt.slots] at X376 l376 y376 z376 st376 hQ376
  subst l376 y376 z376
  obtain ⟨rfl, Nq376, K376, Fa376, Fb376, Fc376⟩ := hQ376
  have N376 := Fr.app N362 Nq376
  have go378 : own_S p e below ST T376 (mkF m 45 #[rv o1] [(.ref b367), (.ref o1)]) := fun tt kt => go374 tt (st376.trans kt)
  have KC376 : Keep h0 T376.heap [o1] := KC367.trans K376 (allS (Or.inr sz_b367) all0)
  have f380 := (((((((((((F4.ext E325).keep K328 (ninS neo1_b325 nin0)).other W331 (Or.inr (slot_ne (Or.inr (W 107 rfl)) (Or.inr (W 99 rfl)) (by decide) (t := (.object "java/util/List")) (t' := (.object "java/util/BitSet")) (by decide) (by decide)))).ext E336).keep K343 (ninS neo1_b336 nin0)).other W346 (Or.inr (slot_ne (Or.inr (W 107 rfl)) (Or.inr (W 103 rfl)) (by decide) (t := (.object "java/util/List")) (t' := (.object "java/util/List")) (by decide) (by decide)))).ext E351).keep K359 (ninS neo1_b351 nin0)).other W362 (Or.inr (slot_ne (Or.inr (W 107 rfl)) (Or.inr (W 105 rfl)) (by decide) (t := (.object "java/util/List")) (t' := (.object "java/util/List")) (by decide) (by decide)))).ext E367).keep K376 (ninS neo1_b367 nin0))
  have f381 := ((f368.ext E367).keep K376)
  obtain ⟨T379, h379, X379, e379, W379, st379⟩ := putF X376 hx hZ hown (host := "") (Or.inl (W 106 rfl)) Via.refl rfl f380 f381 (Or.inr ⟨(W 107 rfl), rfl, hnm⟩) (W 90 rfl) (ty := (.object "java/util/List")) (by decide) rfl rfl (g := (mkF m 45 #[rv o1] [(.ref b367), (.ref o1)])) rfl rfl (hb hby d13_45)
  have Fw379 := f380.same W379
  have N379 := Fr.snoc X379 N376 g1
  have go382 : own_S p e below ST T379 (mkF m 48 #[rv o1] []) := fun tt kt => go378 tt (st379 _ kt)
  have KC379 : Keep h0 h379 [o1] := KC376.wr W379 (Or.inl (List.mem_of_getElem? (i := 0) rfl))
  obtain ⟨fs, hr, hrun, hended, hW, hsame⟩ := X379.leave (v := none) (fun _ => rfl) (hlocks := by first | exact BodyLoose.notSynchronized Bd | exact Body.notSynchronized Bd)
  refine ⟨_, _, pre0 _ (go382 _ ?_), hrun, hended, _, _, rfl, ?_, ⟨_, rfl⟩, hW, hsame.mono (by decide) (by decide)⟩
  · exact X379.returnOut hx Bd.returns (hb hby d13_48) hr
  · show Q13 Z o1 ad kd h0 n0 _ T379.heap _
    rw [e379]
    exact ⟨rfl, N379, KC379⟩
theorem pn198 : plainName "com/example/brancher/brancher/service/Group" = true := by first | (simp [plainName, overriddenIn]; done) | decide +kernel
theorem d9_0 : decode prog_74_method_1_code 0 = .ok (.aload_n 0, 1) := by decide +kernel
theorem d9_1 : decode prog_74_method_1_code 1 = .ok (.invokespecial 1, 3) := by decide +kernel
theorem d9_4 : decode prog_74_method_1_code 4 = .ok (.aload_n 0, 1) := by decide +kernel
theorem d9_5 : decode prog_74_method_1_code 5 = .ok (.new 7, 3) := by decide +kernel
theorem d9_8 : decode prog_74_method_1_code 8 = .ok (.dup, 1) := by decide +kernel
theorem d9_9 : decode prog_74_method_1_code 9 = .ok (.invokespecial 9, 3) := by decide +kernel
theorem d9_12 : decode prog_74_method_1_code 12 = .ok (.putfield 10, 3) := by decide +kernel
theorem d9_15 : decode prog_74_method_1_code 15 = .ok (.aload_n 0, 1) := by decide +kernel
theorem d9_16 : decode prog_74_method_1_code 16 = .ok (.iload_n 1, 1) := by decide +kernel
theorem d9_17 : decode prog_74_method_1_code 17 = .ok (.anewarray 16, 3) := by decide +kernel
theorem d9_20 : decode prog_74_method_1_code 20 = .ok (.putfield 18, 3) := by decide +kernel
theorem d9_23 : decode prog_74_method_1_code 23 = .ok (.aload_n 0, 1) := by decide +kernel
theorem d9_24 : decode prog_74_method_1_code 24 = .ok (.aconst_null, 1) := by decide +kernel
theorem d9_25 : decode prog_74_method_1_code 25 = .ok (.putfield 22, 3) := by decide +kernel
theorem d9_28 : decode prog_74_method_1_code 28 = .ok (.aload_n 0, 1) := by decide +kernel
theorem d9_29 : decode prog_74_method_1_code 29 = .ok (.iconst 0, 1) := by decide +kernel
theorem d9_30 : decode prog_74_method_1_code 30 = .ok (.putfield 26, 3) := by decide +kernel
theorem d9_33 : decode prog_74_method_1_code 33 = .ok (.aload_n 0, 1) := by decide +kernel
theorem d9_34 : decode prog_74_method_1_code 34 = .ok (.iload_n 1, 1) := by decide +kernel
theorem d9_35 : decode prog_74_method_1_code 35 = .ok (.anewarray 30, 3) := by decide +kernel
theorem d9_38 : decode prog_74_method_1_code 38 = .ok (.putfield 32, 3) := by decide +kernel
theorem d9_41 : decode prog_74_method_1_code 41 = .ok (.iconst 0, 1) := by decide +kernel
theorem d9_42 : decode prog_74_method_1_code 42 = .ok (.istore_n 2, 1) := by decide +kernel
theorem d9_43 : decode prog_74_method_1_code 43 = .ok (.iload_n 2, 1) := by decide +kernel
theorem d9_44 : decode prog_74_method_1_code 44 = .ok (.iload_n 1, 1) := by decide +kernel
theorem d9_45 : decode prog_74_method_1_code 45 = .ok (.if_icmp .ge 39, 3) := by decide +kernel
theorem d9_48 : decode prog_74_method_1_code 48 = .ok (.aload_n 0, 1) := by decide +kernel
theorem d9_49 : decode prog_74_method_1_code 49 = .ok (.getfield 18, 3) := by decide +kernel
theorem d9_52 : decode prog_74_method_1_code 52 = .ok (.iload_n 2, 1) := by decide +kernel
theorem d9_53 : decode prog_74_method_1_code 53 = .ok (.new 16, 3) := by decide +kernel
theorem d9_56 : decode prog_74_method_1_code 56 = .ok (.dup, 1) := by decide +kernel
theorem d9_57 : decode prog_74_method_1_code 57 = .ok (.invokespecial 36, 3) := by decide +kernel
theorem d9_60 : decode prog_74_method_1_code 60 = .ok (.aastore, 1) := by decide +kernel
theorem d9_61 : decode prog_74_method_1_code 61 = .ok (.aload_n 0, 1) := by decide +kernel
theorem d9_62 : decode prog_74_method_1_code 62 = .ok (.getfield 10, 3) := by decide +kernel
theorem d9_65 : decode prog_74_method_1_code 65 = .ok (.new 7, 3) := by decide +kernel
theorem d9_68 : decode prog_74_method_1_code 68 = .ok (.dup, 1) := by decide +kernel
theorem d9_69 : decode prog_74_method_1_code 69 = .ok (.invokespecial 9, 3) := by decide +kernel
theorem d9_72 : decode prog_74_method_1_code 72 = .ok (.invokeinterface 37 2, 5) := by decide +kernel
theorem pd238 : parseMethodDescriptor "(Ljava/lang/Object;)Z" = some ⟨[(.object "java/lang/Object")], some .boolean⟩ := by decide +kernel
theorem d9_77 : decode prog_74_method_1_code 77 = .ok (.pop, 1) := by decide +kernel
theorem d9_78 : decode prog_74_method_1_code 78 = .ok (.iinc 2 1, 3) := by decide +kernel
theorem d9_81 : decode prog_74_method_1_code 81 = .ok (.goto (-38), 3) := by decide +kernel
theorem d9_84 : decode prog_74_method_1_code 84 = .ok (.return_, 1) := by decide +kernel
theorem ef9 (m : MethodId) (x0 : Addr) (x1 : Int32) : entryFrame m #[(.ref x0), (.int x1)] 3 = mkF m 0 #[.val (.ref x0), .val (.int x1), .unset] [] := by first | (simp [entryFrame, mkF, argsToLocals, Value.category]; done) | rfl
def Q9 (Z : State) (o1 : Addr) (ad : Addr) (kd : ClassId) (h0 : Heap) (n0 : Nat) (v : Option Value) (h : Heap) (L : List Loc) : Prop := ∃ (bc : Addr) (kc : ClassId), v = none ∧ Fr n0 L ∧ Keep h0 h [o1] ∧ Fld Z h o1 "com/example/brancher/brancher/service/Group" "choices" "[[Ljava/util/BitSet;" (.ref bc) ∧ Arv Z h bc kc (.array (.object "java/util/BitSet")) (2 : Int32) [.null, .null] .null ∧ OvrA Z kc (.object "java/util/BitSet") "[Ljava/util/BitSet;" ∧ n0 ≤ bc ∧ o1 ≠ bc
set_option maxRecDepth 65536 in
set_option maxHeartbeats 40000000 in
theorem rm9 (l : Launch) (Z : State) (a0 : Array Value) (hw : ∀ d ∈ tables_1, d.before a0 Z = true) (ws : List Jvm.Cond) (o1 : Addr) (ad : Addr) (kd : ClassId) (h0 : Heap) (n0 : Nat) (Z0 : n0 ≤ h0.size) (F1 : Fld Z h0 o1 "com/example/brancher/brancher/service/Group" "edges" "Ljava/util/List;" .null) (F2 : Fld Z h0 o1 "com/example/brancher/brancher/service/Group" "elements" "[Lcom/example/brancher/brancher/service/Element;" .null) (F3 : Fld Z h0 o1 "com/example/brancher/brancher/service/Group" "parent" "Lcom/example/brancher/brancher/service/Group$Parent;" .null) (F4 : Fld Z h0 o1 "com/example/brancher/brancher/service/Group" "level" "I" (.int (0 : Int32))) (F5 : Fld Z h0 o1 "com/example/brancher/brancher/service/Group" "choices" "[[Ljava/util/BitSet;" .null) (E1 : Exa Z h0 o1 "com/example/brancher/brancher/service/Group") (g1 : n0 ≤ o1) (SD : Sta Z Z.heap "java/util/ArrayList" "DEFAULTCAPACITY_EMPTY_ELEMENTDATA" "[Ljava/lang/Object;" (.ref ad)) (VD : Arv Z Z.heap ad kd (.object "java/lang/Object") (0 : Int32) [] .null) (OL : Old Z n0 h0) :
    MetFree l (⟨"com/example/brancher/brancher/service/Group", "<init>", "(I)V"⟩ : MethodName) (head1 (Jvm.Cond.code (⟨"com/example/brancher/brancher/service/Group", "<init>", "(I)V"⟩ : MethodName) prog_74_method_1_code 3 none :: ws) ({ frames := 5, cells := 18, slots := 57, locals := 69 } : Room)) (fun aa UU => aa = #[(.ref o1), (.int (2 : Int32))] ∧ Z.Warmed39 UU.vm ∧ UU.heap = h0) (fun _ _ _ _ _ => True) (fun _ UU oo UU' => ∃ vv LL, oo = .returned vv ∧ Q9 Z o1 ad kd h0 n0 vv UU'.heap LL ∧ FrameEnd UU oo UU' LL ({ frames := 5, cells := 18, slots := 57, locals := 69 } : Room).cells ({ frames := 5, cells := 18, slots := 57, locals := 69 } : Room).slots) := by
  have W : ∀ {d : Jvm.Cond} (i : Nat), tables_1[i]? = some d → d.before a0 Z = true := fun i h => hw _ (List.mem_of_getElem? h)
  refine MetFree.of_bodySF (plainFor_of_name pn198) hisR ?_
  intro p e s m args below meth c s₁ Bd hml0 hP hK
  obtain ⟨rfl, hZ, hh⟩ := hP
  have hx := Bd.exec
  have hby := Bd.bytes
  have hml : c.maxLocals = 3 := hml0
  have hown : s.vm.findClass "com/example/brancher/brancher/service/Group" = some m.cls := findClass_of_methodNamed Bd.named
  have hnm := (name_of_methodNamed Bd.named Bd.method).1
  have X0 : Stand p l e ({ frames := 5, cells := 18, slots := 57, locals := 69 } : Room) s m #[(.ref o1), (.int (2 : Int32))] below meth c s₁ [] 0 0 := Stand.of_body Bd
  have e0 : s₁.heap = h0 := by rw [← hh, Bd.state]; rfl
  have N0 := Fr.nil n0
  have pre0 : ∀ tt, Steps p.tables e below (s₁.setTop (mkF m 0 #[rv o1, iv (2 : Int32), .unset] [])) tt → Steps p.tables e below (s₁.setTop (entryFrame m #[(.ref o1), (.int (2 : Int32))] 3)) tt := fun tt kt => castTop (ef9 m o1 (2 : Int32)) kt
  obtain ⟨ST, hST⟩ : ∃ z : State, z = s₁.setTop (mkF m 0 #[rv o1, iv (2 : Int32), .unset] []) := ⟨_, rfl⟩
  rw [← hST] at pre0
  have KC0 : Keep h0 h0 [o1] := Keep.refl h0 [o1]
  have go383 : own_S p e below ST s₁ (mkF m 1 #[rv o1, iv (2 : Int32), .unset] [(.ref o1)]) := fun tt kt => (by
      rw [hST]
      show Steps p.tables e below (s₁.setTop (mkF m 0 #[rv o1, iv (2 : Int32), .unset] [])) _
      refine XS.aloadN X0.here hx rfl (hb hby d9_0) rfl rfl ?_
      exact kt)
  obtain ⟨T384, X384, e384, st384⟩ := initO X0 hx hZ hown (W 51 rfl) (W 7 rfl) (W 8 rfl) e0 (g := (mkF m 1 #[rv o1, iv (2 : Int32), .unset] [(.ref o1)])) rfl (by rw [hml]; rfl) rfl (hb hby d9_1) (by decide) (W := 0) (by show 2 * 0 + _ ≤ _; exact Nat.le_of_eq rfl) (by decide)
  have go385 : own_S p e below ST T384 (mkF m 4 #[rv o1, iv (2 : Int32), .unset] []) := fun tt kt => go383 tt (st384 _ kt)
  have go386 : own_S p e below ST T384 (mkF m 5 #[rv o1, iv (2 : Int32), .unset] [(.ref o1)]) := fun tt kt => go385 tt (by
      refine XS.aloadN X384.here hx rfl (hb hby d9_4) rfl rfl ?_
      exact kt)
  obtain ⟨b387, g387⟩ : ∃ z, z = h0.size := ⟨_, rfl⟩
  obtain ⟨T387, h387, X387, e387, E387, A387, D387, -, st387⟩ := newO X384 hx hZ hown (W 52 rfl) (W 53 rfl) (W 54 rfl) e384 (g := (mkF m 5 #[rv o1, iv (2 : Int32), .unset] [(.ref o1)])) rfl (hb hby d9_5) (by decide) (by decide)
  rw [← g387] at A387 D387 st387
  have neo1_b387 : o1 ≠ b387 := Nat.ne_of_lt (Nat.lt_of_lt_of_le E1.lt (Nat.le_of_eq g387.symm))
  have ge_b387 : n0 ≤ b387 := Nat.le_trans Z0 (Nat.le_of_eq g387.symm)
  have sz_b387 : h0.size ≤ b387 := Nat.le_trans KC0.1 (Nat.le_of_eq g387.symm)
  have F387_modCount : Fld Z h387 b387 "java/util/AbstractList" "modCount" "I" (.int (0 : Int32)) := D387 (Or.inl (W 72 rfl)) (ty := .int) (by decide)
  have F387_elementData : Fld Z h387 b387 "java/util/ArrayList" "elementData" "[Ljava/lang/Object;" .null := D387 (Or.inl (W 75 rfl)) (ty := (.array (.object "java/lang/Object"))) (by decide)
  have F387_size : Fld Z h387 b387 "java/util/ArrayList" "size" "I" (.int (0 : Int32)) := D387 (Or.inl (W 121 rfl)) (ty := .int) (by decide)
  have KC387 : Keep h0 h387 [o1] := KC0.ext E387
  have go388 : own_S p e below ST T387 (mkF m 8 #[rv o1, iv (2 : Int32), .unset] [(.ref b387), (.ref o1)]) := fun tt kt => go386 tt (st387 _ kt)
  have go389 : own_S p e below ST T387 (mkF m 9 #[rv o1, iv (2 : Int32), .unset] [(.ref b387), (.ref b387), (.ref o1)]) := fun tt kt => go388 tt (by
      refine XS.dup X387.here hx rfl (hb hby d9_8) rfl rfl ?_
      exact kt)
  have f390 := (OL.ext E387)
  have zs392 := (Nat.le_trans Z0 E387.1)
  obtain ⟨_, _, ⟨T391, L391, k391, n391⟩, -, X391, ⟨Lc391, hQ391, l391, y391, z391⟩, st391⟩ := X387.specialBack hx (y := (⟨"java/util/ArrayList", "<init>", "()V"⟩ : MethodName)) rfl hown (mvT hZ (W 55 rfl)) (mvT hZ (W 56 rfl)) (mvT hZ (W 57 rfl)) (by decide) (backOf (W := 2) (rm10 l Z a0 hw [] b387 ad h387 n0 zs392 F387_modCount F387_elementData F387_size A387 ge_b387 SD f390) hZ (W 57 rfl) (W 54 rfl) (by decide) (by decide)) (g := (mkF m 9 #[rv o1, iv (2 : Int32), .unset] [(.ref b387), (.ref b387), (.ref o1)])) rfl (by rw [hml]; rfl) (Steps.refl _) (a := b387) (argsL := []) (rest := [(.ref b387), (.ref o1)]) (lenOf pd7 rfl) rfl (by show 2 * 0 + _ ≤ _; exact Nat.le_of_eq rfl) (hb hby d9_9) (fun _ _ => ⟨rfl, e387, (by decide : 1 + 0 ≤ _), (by decide : 3 + 0 ≤ _)⟩)
  dsimp only [Pt.U, Pt.locs, Pt.cells, Pt.slots] at X391 l391 y391 z391 st391 hQ391
  subst l391 y391 z391
  obtain ⟨rfl, Nq391, K391, Fa391, Fb391, Fc391⟩ := hQ391
  have N391 := Fr.app N0 Nq391
  have go393 : own_S p e below ST T391 (mkF m 12 #[rv o1, iv (2 : Int32), .unset] [(.ref b387), (.ref o1)]) := fun tt kt => go389 tt (st391.trans kt)
  have KC391 : Keep h0 T391.heap [o1] := KC387.trans K391 (allS (Or.inr sz_b387) all0)
  have f395 := ((F1.ext E387).keep K391 (ninS neo1_b387 nin0))
  have f396 := ((E1.ext E387).keep K391)
  obtain ⟨T394, h394, X394, e394, W394, st394⟩ := putF X391 hx hZ hown (host := "") (Or.inl (W 76 rfl)) Via.refl rfl f395 f396 (Or.inr ⟨(W 77 rfl), rfl, hnm⟩) (W 46 rfl) (ty := (.object "java/util/List")) (by decide) rfl rfl (g := (mkF m 12 #[rv o1, iv (2 : Int32), .unset] [(.ref b387), (.ref o1)])) rfl rfl (hb hby d9_12)
  have Fw394 := f395.same W394
  have N394 := Fr.snoc X394 N391 g1
  have go397 : own_S p e below ST T394 (mkF m 15 #[rv o1, iv (2 : Int32), .unset] []) := fun tt kt => go393 tt (st394 _ kt)
  have KC394 : Keep h0 h394 [o1] := KC391.wr W394 (Or.inl (List.mem_of_getElem? (i := 0) rfl))
  have go398 : own_S p e below ST T394 (mkF m 17 #[rv o1, iv (2 : Int32), .unset] [(.int (2 : Int32)), (.ref o1)]) := fun tt kt => go397 tt (by
      refine XS.aloadN X394.here hx rfl (hb hby d9_15) rfl rfl ?_
      refine XS.iloadN X394.here hx rfl (hb hby d9_16) rfl ?_
      exact kt)
  have f400 := (f396.wr W394)
  have f401 := ((A387.keep K391).wr W394)
  have zs402 := (Nat.le_trans (Nat.le_trans zs392 K391.1) (Keep.of_wr W394).1)
  obtain ⟨b399, g399⟩ : ∃ z, z = h394.size := ⟨_, rfl⟩
  obtain ⟨T399, h399, k399, X399, e399, E399, A399, Ex399, O399, st399⟩ := newRE X394 hx hZ hown (W 78 rfl) (W 79 rfl) e394 (g := (mkF m 17 #[rv o1, iv (2 : Int32), .unset] [(.int (2 : Int32)), (.ref o1)])) rfl (hb hby d9_17) rfl (by decide) (cap := 2) (by decide) (by decide) (by decide) (by decide) (ad := "[Lcom/example/brancher/brancher/service/Element;") (by first | rfl | decide +kernel)
  rw [← g399] at A399 Ex399 st399
  have neo1_b399 : o1 ≠ b399 := Nat.ne_of_lt (Nat.lt_of_lt_of_le f400.lt (Nat.le_of_eq g399.symm))
  have neb387_b399 : b387 ≠ b399 := Nat.ne_of_lt (Nat.lt_of_lt_of_le f401.lt (Nat.le_of_eq g399.symm))
  have ge_b399 : n0 ≤ b399 := Nat.le_trans zs402 (Nat.le_of_eq g399.symm)
  have sz_b399 : h0.size ≤ b399 := Nat.le_trans KC394.1 (Nat.le_of_eq g399.symm)
  have V399 : Arv Z h399 b399 k399 (.object "com/example/brancher/brancher/service/Element") (2 : Int32) [.null, .null] .null := (Arv.new A399 (by decide)).pad (pad_rep [] .null 2)
  have KC399 : Keep h0 h399 [o1] := KC394.ext E399
  have go403 : own_S p e below ST T399 (mkF m 20 #[rv o1, iv (2 : Int32), .unset] [(.ref b399), (.ref o1)]) := fun tt kt => go398 tt (st399 _ kt)
  have f405 := ((((F2.ext E387).keep K391 (ninS neo1_b387 nin0)).other W394 (Or.inr (slot_ne (Or.inr (W 81 rfl)) (Or.inr (W 77 rfl)) (by decide) (t := (.array (.object "com/example/brancher/brancher/service/Element"))) (t' := (.object "java/util/List")) (by decide) (by decide)))).ext E399)
  have f406 := (f400.ext E399)
  obtain ⟨T404, h404, X404, e404, W404, st404⟩ := putF X399 hx hZ hown (host := "") (Or.inl (W 80 rfl)) Via.refl e399 f405 f406 (Or.inr ⟨(W 81 rfl), rfl, hnm⟩) (W 46 rfl) (ty := (.array (.object "com/example/brancher/brancher/service/Element"))) (by decide) rfl rfl (g := (mkF m 20 #[rv o1, iv (2 : Int32), .unset] [(.ref b399), (.ref o1)])) rfl rfl (hb hby d9_20)
  have Fw404 := f405.same W404
  have N404 := Fr.snoc X404 N394 g1
  have go407 : own_S p e below ST T404 (mkF m 23 #[rv o1, iv (2 : Int32), .unset] []) := fun tt kt => go403 tt (st404 _ kt)
  have KC404 : Keep h0 h404 [o1] := KC399.wr W404 (Or.inl (List.mem_of_getElem? (i := 0) rfl))
  have go408 : own_S p e below ST T404 (mkF m 25 #[rv o1, iv (2 : Int32), .unset] [.null, (.ref o1)]) := fun tt kt => go407 tt (by
      refine XS.aloadN X404.here hx rfl (hb hby d9_23) rfl rfl ?_
      refine XS.aconstNull X404.here hx rfl (hb hby d9_24) ?_
      exact kt)
  have f410 := (((((F3.ext E387).keep K391 (ninS neo1_b387 nin0)).other W394 (Or.inr (slot_ne (Or.inr (W 83 rfl)) (Or.inr (W 77 rfl)) (by decide) (t := (.object "com/example/brancher/brancher/service/Group$Parent")) (t' := (.object "java/util/List")) (by decide) (by decide)))).ext E399).other W404 (Or.inr (slot_ne (Or.inr (W 83 rfl)) (Or.inr (W 81 rfl)) (by decide) (t := (.object "com/example/brancher/brancher/service/Group$Parent")) (t' := (.array (.object "com/example/brancher/brancher/service/Element"))) (by decide) (by decide))))
  have f411 := (f406.wr W404)
  obtain ⟨T409, h409, X409, e409, W409, st409⟩ := putF X404 hx hZ hown (host := "") (Or.inl (W 82 rfl)) Via.refl e404 f410 f411 (Or.inr ⟨(W 83 rfl), rfl, hnm⟩) (W 46 rfl) (ty := (.object "com/example/brancher/brancher/service/Group$Parent")) (by decide) rfl rfl (g := (mkF m 25 #[rv o1, iv (2 : Int32), .unset] [.null, (.ref o1)])) rfl rfl (hb hby d9_25)
  have Fw409 := f410.same W409
  have N409 := Fr.snoc X409 N404 g1
  have go412 : own_S p e below ST T409 (mkF m 28 #[rv o1, iv (2 : Int32), .unset] []) := fun tt kt => go408 tt (st409 _ kt)
  have KC409 : Keep h0 h409 [o1] := KC404.wr W409 (Or.inl (List.mem_of_getElem? (i := 0) rfl))
  have go413 : own_S p e below ST T409 (mkF m 30 #[rv o1, iv (2 : Int32), .unset] [(.int (0 : Int32)), (.ref o1)]) := fun tt kt => go412 tt (by
      refine XS.aloadN X409.here hx rfl (hb hby d9_28) rfl rfl ?_
      refine XS.iconst X409.here hx rfl (hb hby d9_29) ?_
      exact kt)
  have f415 := ((((((F4.ext E387).keep K391 (ninS neo1_b387 nin0)).other W394 (Or.inr (slot_ne (Or.inr (W 85 rfl)) (Or.inr (W 77 rfl)) (by decide) (t := .int) (t' := (.object "java/util/List")) (by decide) (by decide)))).ext E399).other W404 (Or.inr (slot_ne (Or.inr (W 85 rfl)) (Or.inr (W 81 rfl)) (by decide) (t := .int) (t' := (.array (.object "com/example/brancher/brancher/service/Element"))) (by decide) (by decide)))).other W409 (Or.inr (slot_ne (Or.inr (W 85 rfl)) (Or.inr (W 83 rfl)) (by decide) (t := .int) (t' := (.object "com/example/brancher/brancher/service/Group$Parent")) (by decide) (by decide))))
  have f416 := (f411.wr W409)
  obtain ⟨T414, h414, X414, e414, W414, st414⟩ := putF X409 hx hZ hown (host := "") (Or.inl (W 84 rfl)) Via.refl e409 f415 f416 (Or.inr ⟨(W 85 rfl), rfl, hnm⟩) (W 46 rfl) (ty := .int) (by decide) rfl rfl (g := (mkF m 30 #[rv o1, iv (2 : Int32), .unset] [(.int (0 : Int32)), (.ref o1)])) rfl rfl (hb hby d9_30)
  have Fw414 := f415.same W414
  have N414 := Fr.snoc X414 N409 g1
  have go417 : own_S p e below ST T414 (mkF m 33 #[rv o1, iv (2 : Int32), .unset] []) := fun tt kt => go413 tt (st414 _ kt)
  have KC414 : Keep h0 h414 [o1] := KC409.wr W414 (Or.inl (List.mem_of_getElem? (i := 0) rfl))
  have go418 : own_S p e below ST T414 (mkF m 35 #[rv o1, iv (2 : Int32), .unset] [(.int (2 : Int32)), (.ref o1)]) := fun tt kt => go417 tt (by
      refine XS.aloadN X414.here hx rfl (hb hby d9_33) rfl rfl ?_
      refine XS.iloadN X414.here hx rfl (hb hby d9_34) rfl ?_
      exact kt)
  have f420 := (f416.wr W414)
  have f421 := ((((f401.ext E399).wr W404).wr W409).wr W414)
  have f422 := (((Ex399.wr W404).wr W409).wr W414)
  have zs423 := (Nat.le_trans (Nat.le_trans (Nat.le_trans (Nat.le_trans zs402 E399.1) (Keep.of_wr W404).1) (Keep.of_wr W409).1) (Keep.of_wr W414).1)
  obtain ⟨b419, g419⟩ : ∃ z, z = h414.size := ⟨_, rfl⟩
  obtain ⟨T419, h419, k419, X419, e419, E419, A419, Ex419, O419, st419⟩ := newRA X414 hx hZ hown (by first | rfl | decide +kernel) (W 86 rfl) (W 87 rfl) e414 (g := (mkF m 35 #[rv o1, iv (2 : Int32), .unset] [(.int (2 : Int32)), (.ref o1)])) rfl (hb hby d9_35) rfl (by decide) (cap := 2) (by decide) (by decide) (by decide) (by decide) (ad := "[[Ljava/util/BitSet;") (by first | rfl | decide +kernel)
  rw [← g419] at A419 Ex419 st419
  have neo1_b419 : o1 ≠ b419 := Nat.ne_of_lt (Nat.lt_of_lt_of_le f420.lt (Nat.le_of_eq g419.symm))
  have neb387_b419 : b387 ≠ b419 := Nat.ne_of_lt (Nat.lt_of_lt_of_le f421.lt (Nat.le_of_eq g419.symm))
  have neb399_b419 : b399 ≠ b419 := Nat.ne_of_lt (Nat.lt_of_lt_of_le f422.lt (Nat.le_of_eq g419.symm))
  have ge_b419 : n0 ≤ b419 := Nat.le_trans zs423 (Nat.le_of_eq g419.symm)
  have sz_b419 : h0.size ≤ b419 := Nat.le_trans KC414.1 (Nat.le_of_eq g419.symm)
  have V419 : Arv Z h419 b419 k419 (.array (.object "java/util/BitSet")) (2 : Int32) [.null, .null] .null := (Arv.new A419 (by decide)).pad (pad_rep [] .null 2)
  have KC419 : Keep h0 h419 [o1] := KC414.ext E419
  have go424 : own_S p e below ST T419 (mkF m 38 #[rv o1, iv (2 : Int32), .unset] [(.ref b419), (.ref o1)]) := fun tt kt => go418 tt (st419 _ kt)
  have f426 := ((((((((F5.ext E387).keep K391 (ninS neo1_b387 nin0)).other W394 (Or.inr (slot_ne (Or.inr (W 89 rfl)) (Or.inr (W 77 rfl)) (by decide) (t := (.array (.array (.object "java/util/BitSet")))) (t' := (.object "java/util/List")) (by decide) (by decide)))).ext E399).other W404 (Or.inr (slot_ne (Or.inr (W 89 rfl)) (Or.inr (W 81 rfl)) (by decide) (t := (.array (.array (.object "java/util/BitSet")))) (t' := (.array (.object "com/example/brancher/brancher/service/Element"))) (by decide) (by decide)))).other W409 (Or.inr (slot_ne (Or.inr (W 89 rfl)) (Or.inr (W 83 rfl)) (by decide) (t := (.array (.array (.object "java/util/BitSet")))) (t' := (.object "com/example/brancher/brancher/service/Group$Parent")) (by decide) (by decide)))).other W414 (Or.inr (slot_ne (Or.inr (W 89 rfl)) (Or.inr (W 85 rfl)) (by decide) (t := (.array (.array (.object "java/util/BitSet")))) (t' := .int) (by decide) (by decide)))).ext E419)
  have f427 := (f420.ext E419)
  obtain ⟨T425, h425, X425, e425, W425, st425⟩ := putF X419 hx hZ hown (host := "") (Or.inl (W 88 rfl)) Via.refl e419 f426 f427 (Or.inr ⟨(W 89 rfl), rfl, hnm⟩) (W 46 rfl) (ty := (.array (.array (.object "java/util/BitSet")))) (by decide) rfl rfl (g := (mkF m 38 #[rv o1, iv (2 : Int32), .unset] [(.ref b419), (.ref o1)])) rfl rfl (hb hby d9_38)
  have Fw425 := f426.same W425
  have N425 := Fr.snoc X425 N414 g1
  have go428 : own_S p e below ST T425 (mkF m 41 #[rv o1, iv (2 : Int32), .unset] []) := fun tt kt => go424 tt (st425 _ kt)
  have KC425 : Keep h0 h425 [o1] := KC419.wr W425 (Or.inl (List.mem_of_getElem? (i := 0) rfl))
  have go429 : own_S p e below ST T425 (mkF m 49 #[rv o1, iv (2 : Int32), iv (0 : Int32)] [(.ref o1)]) := fun tt kt => go428 tt (by
      refine XS.iconst X425.here hx rfl (hb hby d9_41) ?_
      refine XS.istoreN X425.here hx rfl (hb hby d9_42) rfl (l' := #[rv o1, iv (2 : Int32), iv (0 : Int32)]) rfl ?_
      refine XS.iloadN X425.here hx rfl (hb hby d9_43) rfl ?_
      refine XS.iloadN X425.here hx rfl (hb hby d9_44) rfl ?_
      refine XS.icmpNo X425.here hx rfl (hb hby d9_45) rfl (tlt (by decide : (0 : Int32) < (2 : Int32))).2.1 ?_
      refine XS.aloadN X425.here hx rfl (hb hby d9_48) rfl rfl ?_
      exact kt)
  have f430 := ((((Fw404.other W409 (Or.inr (slot_ne (Or.inr (W 81 rfl)) (Or.inr (W 83 rfl)) (by decide) (t := (.array (.object "com/example/brancher/brancher/service/Element"))) (t' := (.object "com/example/brancher/brancher/service/Group$Parent")) (by decide) (by decide)))).other W414 (Or.inr (slot_ne (Or.inr (W 81 rfl)) (Or.inr (W 85 rfl)) (by decide) (t := (.array (.object "com/example/brancher/brancher/service/Element"))) (t' := .int) (by decide) (by decide)))).ext E419).other W425 (Or.inr (slot_ne (Or.inr (W 81 rfl)) (Or.inr (W 89 rfl)) (by decide) (t := (.array (.object "com/example/brancher/brancher/service/Element"))) (t' := (.array (.array (.object "java/util/BitSet")))) (by decide) (by decide))))
  obtain ⟨T431, X431, e431, st431⟩ := getF X425 hx hZ hown (host := "") (Or.inl (W 80 rfl)) Via.refl e425 f430 (g := (mkF m 49 #[rv o1, iv (2 : Int32), iv (0 : Int32)] [(.ref o1)])) rfl rfl (hb hby d9_49)
  have go432 : own_S p e below ST T431 (mkF m 52 #[rv o1, iv (2 : Int32), iv (0 : Int32)] [(.ref b399)]) := fun tt kt => go429 tt (st431 _ kt)
  have go433 : own_S p e below ST T431 (mkF m 53 #[rv o1, iv (2 : Int32), iv (0 : Int32)] [(.int (0 : Int32)), (.ref b399)]) := fun tt kt => go432 tt (by
      refine XS.iloadN X431.here hx rfl (hb hby d9_52) rfl ?_
      exact kt)
  have f435 := (f427.wr W425)
  have f436 := ((f421.ext E419).wr W425)
  have f437 := ((f422.ext E419).wr W425)
  have f438 := (Ex419.wr W425)
  have zs439 := (Nat.le_trans (Nat.le_trans zs423 E419.1) (Keep.of_wr W425).1)
  obtain ⟨b434, g434⟩ : ∃ z, z = h425.size := ⟨_, rfl⟩
  obtain ⟨T434, h434, X434, e434, E434, A434, D434, -, st434⟩ := newO X431 hx hZ hown (W 78 rfl) (W 90 rfl) (W 91 rfl) e431 (g := (mkF m 53 #[rv o1, iv (2 : Int32), iv (0 : Int32)] [(.int (0 : Int32)), (.ref b399)])) rfl (hb hby d9_53) (by decide) (by decide)
  rw [← g434] at A434 D434 st434
  have neo1_b434 : o1 ≠ b434 := Nat.ne_of_lt (Nat.lt_of_lt_of_le f435.lt (Nat.le_of_eq g434.symm))
  have neb387_b434 : b387 ≠ b434 := Nat.ne_of_lt (Nat.lt_of_lt_of_le f436.lt (Nat.le_of_eq g434.symm))
  have neb399_b434 : b399 ≠ b434 := Nat.ne_of_lt (Nat.lt_of_lt_of_le f437.lt (Nat.le_of_eq g434.symm))
  have neb419_b434 : b419 ≠ b434 := Nat.ne_of_lt (Nat.lt_of_lt_of_le f438.lt (Nat.le_of_eq g434.symm))
  have ge_b434 : n0 ≤ b434 := Nat.le_trans zs439 (Nat.le_of_eq g434.symm)
  have sz_b434 : h0.size ≤ b434 := Nat.le_trans KC425.1 (Nat.le_of_eq g434.symm)
  have F434_names : Fld Z h434 b434 "com/example/brancher/brancher/service/Element" "names" "Ljava/util/BitSet;" .null := D434 (Or.inr (W 99 rfl)) (ty := (.object "java/util/BitSet")) (by decide)
  have F434_roles : Fld Z h434 b434 "com/example/brancher/brancher/service/Element" "roles" "Ljava/util/List;" .null := D434 (Or.inr (W 103 rfl)) (ty := (.object "java/util/List")) (by decide)
  have F434_successors : Fld Z h434 b434 "com/example/brancher/brancher/service/Element" "successors" "Ljava/util/List;" .null := D434 (Or.inr (W 105 rfl)) (ty := (.object "java/util/List")) (by decide)
  have F434_slots : Fld Z h434 b434 "com/example/brancher/brancher/service/Element" "slots" "Ljava/util/List;" .null := D434 (Or.inr (W 107 rfl)) (ty := (.object "java/util/List")) (by decide)
  have KC434 : Keep h0 h434 [o1] := KC425.ext E434
  have go440 : own_S p e below ST T434 (mkF m 56 #[rv o1, iv (2 : Int32), iv (0 : Int32)] [(.ref b434), (.int (0 : Int32)), (.ref b399)]) := fun tt kt => go433 tt (st434 _ kt)
  have go441 : own_S p e below ST T434 (mkF m 57 #[rv o1, iv (2 : Int32), iv (0 : Int32)] [(.ref b434), (.ref b434), (.int (0 : Int32)), (.ref b399)]) := fun tt kt => go440 tt (by
      refine XS.dup X434.here hx rfl (hb hby d9_56) rfl rfl ?_
      exact kt)
  have f442 := (((((((((f390.keep K391 (allS ge_b387 all0)).wr W394 g1).ext E399).wr W404 g1).wr W409 g1).wr W414 g1).ext E419).wr W425 g1).ext E434)
  have zs444 := (Nat.le_trans zs439 E434.1)
  obtain ⟨_, _, ⟨T443, L443, k443, n443⟩, -, X443, ⟨Lc443, hQ443, l443, y443, z443⟩, st443⟩ := X434.specialBack hx (y := (⟨"com/example/brancher/brancher/service/Element", "<init>", "()V"⟩ : MethodName)) rfl hown (mvT hZ (W 92 rfl)) (mvT hZ (W 93 rfl)) (mvT hZ (W 94 rfl)) (by decide) (backOf (W := 3) (rm13 l Z a0 hw [] b434 ad kd h434 n0 zs444 F434_names F434_roles F434_successors F434_slots A434 ge_b434 SD VD f442) hZ (W 94 rfl) (W 91 rfl) (by decide) (by decide)) (g := (mkF m 57 #[rv o1, iv (2 : Int32), iv (0 : Int32)] [(.ref b434), (.ref b434), (.int (0 : Int32)), (.ref b399)])) rfl (by rw [hml]; rfl) (Steps.refl _) (a := b434) (argsL := []) (rest := [(.ref b434), (.int (0 : Int32)), (.ref b399)]) (lenOf pd7 rfl) rfl (by show 2 * 0 + _ ≤ _; exact Nat.le_of_eq rfl) (hb hby d9_57) (fun _ _ => ⟨rfl, e434, (by decide : 4 + 5 ≤ _), (by decide : 11 + 13 ≤ _)⟩)
  dsimp only [Pt.U, Pt.locs, Pt.cells, Pt.slots] at X443 l443 y443 z443 st443 hQ443
  subst l443 y443 z443
  obtain ⟨rfl, Nq443, K443⟩ := hQ443
  have N443 := Fr.app N425 Nq443
  have go445 : own_S p e below ST T443 (mkF m 60 #[rv o1, iv (2 : Int32), iv (0 : Int32)] [(.ref b434), (.int (0 : Int32)), (.ref b399)]) := fun tt kt => go441 tt (st443.trans kt)
  have KC443 : Keep h0 T443.heap [o1] := KC434.trans K443 (allS (Or.inr sz_b434) all0)
  have f447 := (((((((V399.other W404 (Ne.symm neo1_b399)).other W409 (Ne.symm neo1_b399)).other W414 (Ne.symm neo1_b399)).ext E419).other W425 (Ne.symm neo1_b399)).ext E434).keep K443 (ninS neb399_b434 nin0))
  obtain ⟨cl446, Ar446, q446, S446, M446, H446, G446⟩ := id f447
  have hin446 : ¬ ((0 : Int32) < 0 ∨ cl446.slots.size ≤ ((0 : Int32)).toNatClampNeg) := inb_of S446 ⟨by decide, by decide⟩
  have f448 := (A434.keep K443)
  obtain ⟨T446, h446, X446, e446, W446, st446⟩ := stR X443 hx hZ rfl Ar446 (j := (0 : Int32)) hin446 rfl (Sto.ofV Ar446 q446 O399 (Ins.self f448)) (g := (mkF m 60 #[rv o1, iv (2 : Int32), iv (0 : Int32)] [(.ref b434), (.int (0 : Int32)), (.ref b399)])) rfl rfl (hb hby d9_60)
  have V446 : Arv Z h446 b399 k399 (.object "com/example/brancher/brancher/service/Element") (2 : Int32) [(.ref b434), .null] .null := Arv.set Ar446 q446 S446 M446 H446 G446 rfl W446 0 rfl (Nat.le_of_ble_eq_true rfl)
  have N446 := Fr.snoc X446 N443 ge_b399
  have KC446 : Keep h0 h446 [o1] := KC443.wr W446 (Or.inr sz_b399)
  have go449 : own_S p e below ST T446 (mkF m 61 #[rv o1, iv (2 : Int32), iv (0 : Int32)] []) := fun tt kt => go445 tt (st446 _ kt)
  have go450 : own_S p e below ST T446 (mkF m 62 #[rv o1, iv (2 : Int32), iv (0 : Int32)] [(.ref o1)]) := fun tt kt => go449 tt (by
      refine XS.aloadN X446.here hx rfl (hb hby d9_61) rfl rfl ?_
      exact kt)
  have f451 := (((((((((Fw394.ext E399).other W404 (Or.inr (slot_ne (Or.inr (W 77 rfl)) (Or.inr (W 81 rfl)) (by decide) (t := (.object "java/util/List")) (t' := (.array (.object "com/example/brancher/brancher/service/Element"))) (by decide) (by decide)))).other W409 (Or.inr (slot_ne (Or.inr (W 77 rfl)) (Or.inr (W 83 rfl)) (by decide) (t := (.object "java/util/List")) (t' := (.object "com/example/brancher/brancher/service/Group$Parent")) (by decide) (by decide)))).other W414 (Or.inr (slot_ne (Or.inr (W 77 rfl)) (Or.inr (W 85 rfl)) (by decide) (t := (.object "java/util/List")) (t' := .int) (by decide) (by decide)))).ext E419).other W425 (Or.inr (slot_ne (Or.inr (W 77 rfl)) (Or.inr (W 89 rfl)) (by decide) (t := (.object "java/util/List")) (t' := (.array (.array (.object "java/util/BitSet")))) (by decide) (by decide)))).ext E434).keep K443 (ninS neo1_b434 nin0)).other W446 (Or.inl neo1_b399))
  obtain ⟨T452, X452, e452, st452⟩ := getF X446 hx hZ hown (host := "") (Or.inl (W 76 rfl)) Via.refl e446 f451 (g := (mkF m 62 #[rv o1, iv (2 : Int32), iv (0 : Int32)] [(.ref o1)])) rfl rfl (hb hby d9_62)
  have go453 : own_S p e below ST T452 (mkF m 65 #[rv o1, iv (2 : Int32), iv (0 : Int32)] [(.ref b387)]) := fun tt kt => go450 tt (st452 _ kt)
  have f455 := (((f435.ext E434).keep K443).wr W446)
  have f456 := (((f436.ext E434).keep K443).wr W446)
  have f457 := (((f437.ext E434).keep K443).wr W446)
  have f458 := (((f438.ext E434).keep K443).wr W446)
  have f459 := (f448.wr W446)
  have zs460 := (Nat.le_trans (Nat.le_trans zs444 K443.1) (Keep.of_wr W446).1)
  obtain ⟨b454, g454⟩ : ∃ z, z = h446.size := ⟨_, rfl⟩
  obtain ⟨T454, h454, X454, e454, E454, A454, D454, -, st454⟩ := newO X452 hx hZ hown (W 52 rfl) (W 53 rfl) (W 54 rfl) e452 (g := (mkF m 65 #[rv o1, iv (2 : Int32), iv (0 : Int32)] [(.ref b387)])) rfl (hb hby d9_65) (by decide) (by decide)
  rw [← g454] at A454 D454 st454
  have neo1_b454 : o1 ≠ b454 := Nat.ne_of_lt (Nat.lt_of_lt_of_le f455.lt (Nat.le_of_eq g454.symm))
  have neb387_b454 : b387 ≠ b454 := Nat.ne_of_lt (Nat.lt_of_lt_of_le f456.lt (Nat.le_of_eq g454.symm))
  have neb399_b454 : b399 ≠ b454 := Nat.ne_of_lt (Nat.lt_of_lt_of_le f457.lt (Nat.le_of_eq g454.symm))
  have neb419_b454 : b419 ≠ b454 := Nat.ne_of_lt (Nat.lt_of_lt_of_le f458.lt (Nat.le_of_eq g454.symm))
  have neb434_b454 : b434 ≠ b454 := Nat.ne_of_lt (Nat.lt_of_lt_of_le f459.lt (Nat.le_of_eq g454.symm))
  have ge_b454 : n0 ≤ b454 := Nat.le_trans zs460 (Nat.le_of_eq g454.symm)
  have sz_b454 : h0.size ≤ b454 := Nat.le_trans KC446.1 (Nat.le_of_eq g454.symm)
  have F454_modCount : Fld Z h454 b454 "java/util/AbstractList" "modCount" "I" (.int (0 : Int32)) := D454 (Or.inl (W 72 rfl)) (ty := .int) (by decide)
  have F454_elementData : Fld Z h454 b454 "java/util/ArrayList" "elementData" "[Ljava/lang/Object;" .null := D454 (Or.inl (W 75 rfl)) (ty := (.array (.object "java/lang/Object"))) (by decide)
  have F454_size : Fld Z h454 b454 "java/util/ArrayList" "size" "I" (.int (0 : Int32)) := D454 (Or.inl (W 121 rfl)) (ty := .int) (by decide)
  have KC454 : Keep h0 h454 [o1] := KC446.ext E454
  have go461 : own_S p e below ST T454 (mkF m 68 #[rv o1, iv (2 : Int32), iv (0 : Int32)] [(.ref b454), (.ref b387)]) := fun tt kt => go453 tt (st454 _ kt)
  have go462 : own_S p e below ST T454 (mkF m 69 #[rv o1, iv (2 : Int32), iv (0 : Int32)] [(.ref b454), (.ref b454), (.ref b387)]) := fun tt kt => go461 tt (by
      refine XS.dup X454.here hx rfl (hb hby d9_68) rfl rfl ?_
      exact kt)
  have f463 := (((f442.keep K443 (allS ge_b434 all0)).wr W446 ge_b399).ext E454)
  have zs465 := (Nat.le_trans zs460 E454.1)
  obtain ⟨_, _, ⟨T464, L464, k464, n464⟩, -, X464, ⟨Lc464, hQ464, l464, y464, z464⟩, st464⟩ := X454.specialBack hx (y := (⟨"java/util/ArrayList", "<init>", "()V"⟩ : MethodName)) rfl hown (mvT hZ (W 55 rfl)) (mvT hZ (W 56 rfl)) (mvT hZ (W 57 rfl)) (by decide) (backOf (W := 2) (rm10 l Z a0 hw [] b454 ad h454 n0 zs465 F454_modCount F454_elementData F454_size A454 ge_b454 SD f463) hZ (W 57 rfl) (W 54 rfl) (by decide) (by decide)) (g := (mkF m 69 #[rv o1, iv (2 : Int32), iv (0 : Int32)] [(.ref b454), (.ref b454), (.ref b387)])) rfl (by rw [hml]; rfl) (Steps.refl _) (a := b454) (argsL := []) (rest := [(.ref b454), (.ref b387)]) (lenOf pd7 rfl) rfl (by show 2 * 0 + _ ≤ _; exact Nat.le_of_eq rfl) (hb hby d9_69) (fun _ _ => ⟨rfl, e454, (by decide : 10 + 0 ≤ _), (by decide : 27 + 0 ≤ _)⟩)
  dsimp only [Pt.U, Pt.locs, Pt.cells, Pt.slots] at X464 l464 y464 z464 st464 hQ464
  subst l464 y464 z464
  obtain ⟨rfl, Nq464, K464, Fa464, Fb464, Fc464⟩ := hQ464
  have N464 := Fr.app N446 Nq464
  have go466 : own_S p e below ST T464 (mkF m 72 #[rv o1, iv (2 : Int32), iv (0 : Int32)] [(.ref b454), (.ref b387)]) := fun tt kt => go462 tt (st464.trans kt)
  have KC464 : Keep h0 T464.heap [o1] := KC454.trans K464 (allS (Or.inr sz_b454) all0)
  have f467 := ((((((((((((Fa391.other W394 (Or.inl (Ne.symm neo1_b387))).ext E399).other W404 (Or.inl (Ne.symm neo1_b387))).other W409 (Or.inl (Ne.symm neo1_b387))).other W414 (Or.inl (Ne.symm neo1_b387))).ext E419).other W425 (Or.inl (Ne.symm neo1_b387))).ext E434).keep K443 (ninS neb387_b434 nin0)).other W446 (Or.inl neb387_b399)).ext E454).keep K464 (ninS neb387_b454 nin0))
  have f468 := ((((((((((((Fb391.other W394 (Or.inl (Ne.symm neo1_b387))).ext E399).other W404 (Or.inl (Ne.symm neo1_b387))).other W409 (Or.inl (Ne.symm neo1_b387))).other W414 (Or.inl (Ne.symm neo1_b387))).ext E419).other W425 (Or.inl (Ne.symm neo1_b387))).ext E434).keep K443 (ninS neb387_b434 nin0)).other W446 (Or.inl neb387_b399)).ext E454).keep K464 (ninS neb387_b454 nin0))
  have f469 := ((((((((((((Fc391.other W394 (Or.inl (Ne.symm neo1_b387))).ext E399).other W404 (Or.inl (Ne.symm neo1_b387))).other W409 (Or.inl (Ne.symm neo1_b387))).other W414 (Or.inl (Ne.symm neo1_b387))).ext E419).other W425 (Or.inl (Ne.symm neo1_b387))).ext E434).keep K443 (ninS neb387_b434 nin0)).other W446 (Or.inl neb387_b399)).ext E454).keep K464 (ninS neb387_b454 nin0))
  have f470 := ((f456.ext E454).keep K464)
  have f471 := (f463.keep K464 (allS ge_b454 all0))
  have f472 := (A454.keep K464)
  have f473 := ((f455.ext E454).keep K464)
  have f474 := ((f457.ext E454).keep K464)
  have f475 := ((f458.ext E454).keep K464)
  have f476 := ((f459.ext E454).keep K464)
  have zs478 := (Nat.le_trans zs465 K464.1)
  obtain ⟨cq477, kq477, q477a, q477b, q477c⟩ := isOf hZ rfl f470
  obtain ⟨_, _, ⟨T477, L477, k477, n477⟩, -, X477, ⟨Lc477, hQ477, l477, y477, z477⟩, st477⟩ := X464.interfaceBack hx (xi := (⟨"java/util/List", "add", "(Ljava/lang/Object;)Z"⟩ : MethodName)) (y := (⟨"java/util/ArrayList", "add", "(Ljava/lang/Object;)Z"⟩ : MethodName)) hown (mvT hZ (W 109 rfl)) (mvT hZ (W 110 rfl)) (mvT hZ (W 111 rfl)) (mvT hZ (W 112 rfl)) (mvT hZ (W 113 rfl)) (mvT hZ (W 114 rfl)) (mvT hZ (W 115 rfl)) (mvT hZ (W 116 rfl)) (by decide) (backOf (W := 0) (rm14k0 l Z a0 hw [] b387 b454 (0 : Int32) ad kd T464.heap n0 zs478 f467 f468 f469 f470 ge_b387 SD VD f471 f472 neb387_b454) hZ (W 117 rfl) (W 54 rfl) (by decide) (by decide)) q477a q477b q477c (g := (mkF m 72 #[rv o1, iv (2 : Int32), iv (0 : Int32)] [(.ref b454), (.ref b387)])) rfl (by rw [hml]; rfl) (Steps.refl _) (argsL := [(.ref b454)]) (rest := []) (lenOf pd238 rfl) rfl (by show 2 * 0 + _ ≤ _; exact Nat.le_of_eq rfl) (hb hby d9_72) (fun _ _ => ⟨rfl, rfl, (by decide : 10 + 1 ≤ _), (by decide : 27 + 10 ≤ _)⟩)
  dsimp only [Pt.U, Pt.locs, Pt.cells, Pt.slots] at X477 l477 y477 z477 st477 hQ477
  subst l477 y477 z477
  obtain ⟨b477, kb477, rfl, Nq477, K477, Fa477, Fb477, Fc477, Vb477, gb477, zb477, nb477, ob477⟩ := hQ477
  have N477 := Fr.app N464 Nq477
  have go479 : own_S p e below ST T477 (mkF m 77 #[rv o1, iv (2 : Int32), iv (0 : Int32)] [(.int (1 : Int32))]) := fun tt kt => go466 tt (st477.trans kt)
  have KC477 : Keep h0 T477.heap [o1] := KC464.trans K477 (allS (Or.inr sz_b387) all0)
  have neo1_b477 : o1 ≠ b477 := Nat.ne_of_lt (Nat.lt_of_lt_of_le f473.lt zb477)
  have neb399_b477 : b399 ≠ b477 := Nat.ne_of_lt (Nat.lt_of_lt_of_le f474.lt zb477)
  have neb419_b477 : b419 ≠ b477 := Nat.ne_of_lt (Nat.lt_of_lt_of_le f475.lt zb477)
  have neb434_b477 : b434 ≠ b477 := Nat.ne_of_lt (Nat.lt_of_lt_of_le f476.lt zb477)
  have neb454_b477 : b454 ≠ b477 := Nat.ne_of_lt (Nat.lt_of_lt_of_le f472.lt zb477)
  have go480 : own_S p e below ST T477 (mkF m 49 #[rv o1, iv (2 : Int32), iv (1 : Int32)] [(.ref o1)]) := fun tt kt => go479 tt (by
      refine XS.pop X477.here hx rfl (hb hby d9_77) rfl rfl ?_
      refine XS.iinc X477.here hx rfl (hb hby d9_78) rfl (l' := #[rv o1, iv (2 : Int32), iv (1 : Int32)]) rfl ?_
      refine XS.goto X477.here hx rfl (pc0 := 81) (pc' := 43) rfl (hb hby d9_81) (by decide) (by decide) ?_
      refine XS.iloadN X477.here hx rfl (hb hby d9_43) rfl ?_
      refine XS.iloadN X477.here hx rfl (hb hby d9_44) rfl ?_
      refine XS.icmpNo X477.here hx rfl (hb hby d9_45) rfl (tlt (by decide : (1 : Int32) < (2 : Int32))).2.1 ?_
      show Steps p.tables e below (T477.setTop (mkF m 48 #[rv o1, iv (2 : Int32), iv (1 : Int32)] [])) _
      refine XS.aloadN X477.here hx rfl (hb hby d9_48) rfl rfl ?_
      exact kt)
  have f481 := ((((((f430.ext E434).keep K443 (ninS neo1_b434 nin0)).other W446 (Or.inl neo1_b399)).ext E454).keep K464 (ninS neo1_b454 nin0)).keep K477 (ninS neo1_b387 nin0))
  obtain ⟨T482, X482, e482, st482⟩ := getF X477 hx hZ hown (host := "") (Or.inl (W 80 rfl)) Via.refl rfl f481 (g := (mkF m 49 #[rv o1, iv (2 : Int32), iv (1 : Int32)] [(.ref o1)])) rfl rfl (hb hby d9_49)
  have go483 : own_S p e below ST T482 (mkF m 52 #[rv o1, iv (2 : Int32), iv (1 : Int32)] [(.ref b399)]) := fun tt kt => go480 tt (st482 _ kt)
  have go484 : own_S p e below ST T482 (mkF m 53 #[rv o1, iv (2 : Int32), iv (1 : Int32)] [(.int (1 : Int32)), (.ref b399)]) := fun tt kt => go483 tt (by
      refine XS.iloadN X482.here hx rfl (hb hby d9_52) rfl ?_
      exact kt)
  have f486 := (f473.keep K477)
  have f487 := (f470.keep K477)
  have f488 := (f474.keep K477)
  have f489 := (f475.keep K477)
  have f490 := (f476.keep K477)
  have f491 := (f472.keep K477)
  have zs492 := (Nat.le_trans zs478 K477.1)
  obtain ⟨b485, g485⟩ : ∃ z, z = T477.heap.size := ⟨_, rfl⟩
  obtain ⟨T485, h485, X485, e485, E485, A485, D485, -, st485⟩ := newO X482 hx hZ hown (W 78 rfl) (W 90 rfl) (W 91 rfl) e482 (g := (mkF m 53 #[rv o1, iv (2 : Int32), iv (1 : Int32)] [(.int (1 : Int32)), (.ref b399)])) rfl (hb hby d9_53) (by decide) (by decide)
  rw [← g485] at A485 D485 st485
  have neo1_b485 : o1 ≠ b485 := Nat.ne_of_lt (Nat.lt_of_lt_of_le f486.lt (Nat.le_of_eq g485.symm))
  have neb387_b485 : b387 ≠ b485 := Nat.ne_of_lt (Nat.lt_of_lt_of_le f487.lt (Nat.le_of_eq g485.symm))
  have neb399_b485 : b399 ≠ b485 := Nat.ne_of_lt (Nat.lt_of_lt_of_le f488.lt (Nat.le_of_eq g485.symm))
  have neb419_b485 : b419 ≠ b485 := Nat.ne_of_lt (Nat.lt_of_lt_of_le f489.lt (Nat.le_of_eq g485.symm))
  have neb434_b485 : b434 ≠ b485 := Nat.ne_of_lt (Nat.lt_of_lt_of_le f490.lt (Nat.le_of_eq g485.symm))
  have neb454_b485 : b454 ≠ b485 := Nat.ne_of_lt (Nat.lt_of_lt_of_le f491.lt (Nat.le_of_eq g485.symm))
  have neb477_b485 : b477 ≠ b485 := Nat.ne_of_lt (Nat.lt_of_lt_of_le Vb477.lt (Nat.le_of_eq g485.symm))
  have ge_b485 : n0 ≤ b485 := Nat.le_trans zs492 (Nat.le_of_eq g485.symm)
  have sz_b485 : h0.size ≤ b485 := Nat.le_trans KC477.1 (Nat.le_of_eq g485.symm)
  have F485_names : Fld Z h485 b485 "com/example/brancher/brancher/service/Element" "names" "Ljava/util/BitSet;" .null := D485 (Or.inr (W 99 rfl)) (ty := (.object "java/util/BitSet")) (by decide)
  have F485_roles : Fld Z h485 b485 "com/example/brancher/brancher/service/Element" "roles" "Ljava/util/List;" .null := D485 (Or.inr (W 103 rfl)) (ty := (.object "java/util/List")) (by decide)
  have F485_successors : Fld Z h485 b485 "com/example/brancher/brancher/service/Element" "successors" "Ljava/util/List;" .null := D485 (Or.inr (W 105 rfl)) (ty := (.object "java/util/List")) (by decide)
  have F485_slots : Fld Z h485 b485 "com/example/brancher/brancher/service/Element" "slots" "Ljava/util/List;" .null := D485 (Or.inr (W 107 rfl)) (ty := (.object "java/util/List")) (by decide)
  have KC485 : Keep h0 h485 [o1] := KC477.ext E485
  have go493 : own_S p e below ST T485 (mkF m 56 #[rv o1, iv (2 : Int32), iv (1 : Int32)] [(.ref b485), (.int (1 : Int32)), (.ref b399)]) := fun tt kt => go484 tt (st485 _ kt)
  have go494 : own_S p e below ST T485 (mkF m 57 #[rv o1, iv (2 : Int32), iv (1 : Int32)] [(.ref b485), (.ref b485), (.int (1 : Int32)), (.ref b399)]) := fun tt kt => go493 tt (by
      refine XS.dup X485.here hx rfl (hb hby d9_56) rfl rfl ?_
      exact kt)
  have f495 := ((f471.keep K477 (allS ge_b387 all0)).ext E485)
  have zs497 := (Nat.le_trans zs492 E485.1)
  obtain ⟨_, _, ⟨T496, L496, k496, n496⟩, -, X496, ⟨Lc496, hQ496, l496, y496, z496⟩, st496⟩ := X485.specialBack hx (y := (⟨"com/example/brancher/brancher/service/Element", "<init>", "()V"⟩ : MethodName)) rfl hown (mvT hZ (W 92 rfl)) (mvT hZ (W 93 rfl)) (mvT hZ (W 94 rfl)) (by decide) (backOf (W := 3) (rm13 l Z a0 hw [] b485 ad kd h485 n0 zs497 F485_names F485_roles F485_successors F485_slots A485 ge_b485 SD VD f495) hZ (W 94 rfl) (W 91 rfl) (by decide) (by decide)) (g := (mkF m 57 #[rv o1, iv (2 : Int32), iv (1 : Int32)] [(.ref b485), (.ref b485), (.int (1 : Int32)), (.ref b399)])) rfl (by rw [hml]; rfl) (Steps.refl _) (a := b485) (argsL := []) (rest := [(.ref b485), (.int (1 : Int32)), (.ref b399)]) (lenOf pd7 rfl) rfl (by show 2 * 0 + _ ≤ _; exact Nat.le_of_eq rfl) (hb hby d9_57) (fun _ _ => ⟨rfl, e485, (by decide : 12 + 5 ≤ _), (by decide : 41 + 13 ≤ _)⟩)
  dsimp only [Pt.U, Pt.locs, Pt.cells, Pt.slots] at X496 l496 y496 z496 st496 hQ496
  subst l496 y496 z496
  obtain ⟨rfl, Nq496, K496⟩ := hQ496
  have N496 := Fr.app N477 Nq496
  have go498 : own_S p e below ST T496 (mkF m 60 #[rv o1, iv (2 : Int32), iv (1 : Int32)] [(.ref b485), (.int (1 : Int32)), (.ref b399)]) := fun tt kt => go494 tt (st496.trans kt)
  have KC496 : Keep h0 T496.heap [o1] := KC485.trans K496 (allS (Or.inr sz_b485) all0)
  have f500 := (((((V446.ext E454).keep K464 (ninS neb399_b454 nin0)).keep K477 (ninS (Ne.symm neb387_b399) nin0)).ext E485).keep K496 (ninS neb399_b485 nin0))
  obtain ⟨cl499, Ar499, q499, S499, M499, H499, G499⟩ := id f500
  have hin499 : ¬ ((1 : Int32) < 0 ∨ cl499.slots.size ≤ ((1 : Int32)).toNatClampNeg) := inb_of S499 ⟨by decide, by decide⟩
  have f501 := (A485.keep K496)
  obtain ⟨T499, h499, X499, e499, W499, st499⟩ := stR X496 hx hZ rfl Ar499 (j := (1 : Int32)) hin499 rfl (Sto.ofV Ar499 q499 O399 (Ins.self f501)) (g := (mkF m 60 #[rv o1, iv (2 : Int32), iv (1 : Int32)] [(.ref b485), (.int (1 : Int32)), (.ref b399)])) rfl rfl (hb hby d9_60)
  have V499 : Arv Z h499 b399 k399 (.object "com/example/brancher/brancher/service/Element") (2 : Int32) [(.ref b434), (.ref b485)] .null := Arv.set Ar499 q499 S499 M499 H499 G499 rfl W499 1 rfl (Nat.le_of_ble_eq_true rfl)
  have N499 := Fr.snoc X499 N496 ge_b399
  have KC499 : Keep h0 h499 [o1] := KC496.wr W499 (Or.inr sz_b399)
  have go502 : own_S p e below ST T499 (mkF m 61 #[rv o1, iv (2 : Int32), iv (1 : Int32)] []) := fun tt kt => go498 tt (st499 _ kt)
  have go503 : own_S p e below ST T499 (mkF m 62 #[rv o1, iv (2 : Int32), iv (1 : Int32)] [(.ref o1)]) := fun tt kt => go502 tt (by
      refine XS.aloadN X499.here hx rfl (hb hby d9_61) rfl rfl ?_
      exact kt)
  have f504 := ((((((f451.ext E454).keep K464 (ninS neo1_b454 nin0)).keep K477 (ninS neo1_b387 nin0)).ext E485).keep K496 (ninS neo1_b485 nin0)).other W499 (Or.inl neo1_b399))
  obtain ⟨T505, X505, e505, st505⟩ := getF X499 hx hZ hown (host := "") (Or.inl (W 76 rfl)) Via.refl e499 f504 (g := (mkF m 62 #[rv o1, iv (2 : Int32), iv (1 : Int32)] [(.ref o1)])) rfl rfl (hb hby d9_62)
  have go506 : own_S p e below ST T505 (mkF m 65 #[rv o1, iv (2 : Int32), iv (1 : Int32)] [(.ref b387)]) := fun tt kt => go503 tt (st505 _ kt)
  have f508 := (((f486.ext E485).keep K496).wr W499)
  have f509 := (((f487.ext E485).keep K496).wr W499)
  have f510 := (((f488.ext E485).keep K496).wr W499)
  have f511 := (((f489.ext E485).keep K496).wr W499)
  have f512 := (((f490.ext E485).keep K496).wr W499)
  have f513 := (((f491.ext E485).keep K496).wr W499)
  have f514 := (((Vb477.ext E485).keep K496 (ninS neb477_b485 nin0)).other W499 (Ne.symm neb399_b477))
  have f515 := (f501.wr W499)
  have zs516 := (Nat.le_trans (Nat.le_trans zs497 K496.1) (Keep.of_wr W499).1)
  obtain ⟨b507, g507⟩ : ∃ z, z = h499.size := ⟨_, rfl⟩
  obtain ⟨T507, h507, X507, e507, E507, A507, D507, -, st507⟩ := newO X505 hx hZ hown (W 52 rfl) (W 53 rfl) (W 54 rfl) e505 (g := (mkF m 65 #[rv o1, iv (2 : Int32), iv (1 : Int32)] [(.ref b387)])) rfl (hb hby d9_65) (by decide) (by decide)
  rw [← g507] at A507 D507 st507
  have neo1_b507 : o1 ≠ b507 := Nat.ne_of_lt (Nat.lt_of_lt_of_le f508.lt (Nat.le_of_eq g507.symm))
  have neb387_b507 : b387 ≠ b507 := Nat.ne_of_lt (Nat.lt_of_lt_of_le f509.lt (Nat.le_of_eq g507.symm))
  have neb399_b507 : b399 ≠ b507 := Nat.ne_of_lt (Nat.lt_of_lt_of_le f510.lt (Nat.le_of_eq g507.symm))
  have neb419_b507 : b419 ≠ b507 := Nat.ne_of_lt (Nat.lt_of_lt_of_le f511.lt (Nat.le_of_eq g507.symm))
  have neb434_b507 : b434 ≠ b507 := Nat.ne_of_lt (Nat.lt_of_lt_of_le f512.lt (Nat.le_of_eq g507.symm))
  have neb454_b507 : b454 ≠ b507 := Nat.ne_of_lt (Nat.lt_of_lt_of_le f513.lt (Nat.le_of_eq g507.symm))
  have neb477_b507 : b477 ≠ b507 := Nat.ne_of_lt (Nat.lt_of_lt_of_le f514.lt (Nat.le_of_eq g507.symm))
  have neb485_b507 : b485 ≠ b507 := Nat.ne_of_lt (Nat.lt_of_lt_of_le f515.lt (Nat.le_of_eq g507.symm))
  have ge_b507 : n0 ≤ b507 := Nat.le_trans zs516 (Nat.le_of_eq g507.symm)
  have sz_b507 : h0.size ≤ b507 := Nat.le_trans KC499.1 (Nat.le_of_eq g507.symm)
  have F507_modCount : Fld Z h507 b507 "java/util/AbstractList" "modCount" "I" (.int (0 : Int32)) := D507 (Or.inl (W 72 rfl)) (ty := .int) (by decide)
  have F507_elementData : Fld Z h507 b507 "java/util/ArrayList" "elementData" "[Ljava/lang/Object;" .null := D507 (Or.inl (W 75 rfl)) (ty := (.array (.object "java/lang/Object"))) (by decide)
  have F507_size : Fld Z h507 b507 "java/util/ArrayList" "size" "I" (.int (0 : Int32)) := D507 (Or.inl (W 121 rfl)) (ty := .int) (by decide)
  have KC507 : Keep h0 h507 [o1] := KC499.ext E507
  have go517 : own_S p e below ST T507 (mkF m 68 #[rv o1, iv (2 : Int32), iv (1 : Int32)] [(.ref b507), (.ref b387)]) := fun tt kt => go506 tt (st507 _ kt)
  have go518 : own_S p e below ST T507 (mkF m 69 #[rv o1, iv (2 : Int32), iv (1 : Int32)] [(.ref b507), (.ref b507), (.ref b387)]) := fun tt kt => go517 tt (by
      refine XS.dup X507.here hx rfl (hb hby d9_68) rfl rfl ?_
      exact kt)
  have f519 := (((f495.keep K496 (allS ge_b485 all0)).wr W499 ge_b399).ext E507)
  have zs521 := (Nat.le_trans zs516 E507.1)
  obtain ⟨_, _, ⟨T520, L520, k520, n520⟩, -, X520, ⟨Lc520, hQ520, l520, y520, z520⟩, st520⟩ := X507.specialBack hx (y := (⟨"java/util/ArrayList", "<init>", "()V"⟩ : MethodName)) rfl hown (mvT hZ (W 55 rfl)) (mvT hZ (W 56 rfl)) (mvT hZ (W 57 rfl)) (by decide) (backOf (W := 2) (rm10 l Z a0 hw [] b507 ad h507 n0 zs521 F507_modCount F507_elementData F507_size A507 ge_b507 SD f519) hZ (W 57 rfl) (W 54 rfl) (by decide) (by decide)) (g := (mkF m 69 #[rv o1, iv (2 : Int32), iv (1 : Int32)] [(.ref b507), (.ref b507), (.ref b387)])) rfl (by rw [hml]; rfl) (Steps.refl _) (a := b507) (argsL := []) (rest := [(.ref b507), (.ref b387)]) (lenOf pd7 rfl) rfl (by show 2 * 0 + _ ≤ _; exact Nat.le_of_eq rfl) (hb hby d9_69) (fun _ _ => ⟨rfl, e507, (by decide : 18 + 0 ≤ _), (by decide : 57 + 0 ≤ _)⟩)
  dsimp only [Pt.U, Pt.locs, Pt.cells, Pt.slots] at X520 l520 y520 z520 st520 hQ520
  subst l520 y520 z520
  obtain ⟨rfl, Nq520, K520, Fa520, Fb520, Fc520⟩ := hQ520
  have N520 := Fr.app N499 Nq520
  have go522 : own_S p e below ST T520 (mkF m 72 #[rv o1, iv (2 : Int32), iv (1 : Int32)] [(.ref b507), (.ref b387)]) := fun tt kt => go518 tt (st520.trans kt)
  have KC520 : Keep h0 T520.heap [o1] := KC507.trans K520 (allS (Or.inr sz_b507) all0)
  have f523 := (((((Fa477.ext E485).keep K496 (ninS neb387_b485 nin0)).other W499 (Or.inl neb387_b399)).ext E507).keep K520 (ninS neb387_b507 nin0))
  have f524 := (((((Fb477.ext E485).keep K496 (ninS neb387_b485 nin0)).other W499 (Or.inl neb387_b399)).ext E507).keep K520 (ninS neb387_b507 nin0))
  have f525 := (((((Fc477.ext E485).keep K496 (ninS neb387_b485 nin0)).other W499 (Or.inl neb387_b399)).ext E507).keep K520 (ninS neb387_b507 nin0))
  have f526 := ((f509.ext E507).keep K520)
  have f527 := ((f514.ext E507).keep K520 (ninS neb477_b507 nin0))
  have f528 := (A507.keep K520)
  have zs530 := (Nat.le_trans zs521 K520.1)
  obtain ⟨cq529, kq529, q529a, q529b, q529c⟩ := isOf hZ rfl f526
  obtain ⟨_, _, ⟨T529, L529, k529, n529⟩, -, X529, ⟨Lc529, hQ529, l529, y529, z529⟩, st529⟩ := X520.interfaceBack hx (xi := (⟨"java/util/List", "add", "(Ljava/lang/Object;)Z"⟩ : MethodName)) (y := (⟨"java/util/ArrayList", "add", "(Ljava/lang/Object;)Z"⟩ : MethodName)) hown (mvT hZ (W 109 rfl)) (mvT hZ (W 110 rfl)) (mvT hZ (W 111 rfl)) (mvT hZ (W 112 rfl)) (mvT hZ (W 113 rfl)) (mvT hZ (W 114 rfl)) (mvT hZ (W 115 rfl)) (mvT hZ (W 116 rfl)) (by decide) (backOf (W := 0) (rm14k1 l Z a0 hw [] b387 b507 (1 : Int32) b477 kb477 _ T520.heap n0 zs530 f523 f524 f525 f526 ge_b387 f527 gb477 nb477 ob477 f528 neb387_b507) hZ (W 117 rfl) (W 54 rfl) (by decide) (by decide)) q529a q529b q529c (g := (mkF m 72 #[rv o1, iv (2 : Int32), iv (1 : Int32)] [(.ref b507), (.ref b387)])) rfl (by rw [hml]; rfl) (Steps.refl _) (argsL := [(.ref b507)]) (rest := []) (lenOf pd238 rfl) rfl (by show 2 * 0 + _ ≤ _; exact Nat.le_of_eq rfl) (hb hby d9_72) (fun _ _ => ⟨rfl, rfl, (by decide : 18 + 0 ≤ _), (by decide : 57 + 0 ≤ _)⟩)
  dsimp only [Pt.U, Pt.locs, Pt.cells, Pt.slots] at X529 l529 y529 z529 st529 hQ529
  subst l529 y529 z529
  obtain ⟨rfl, Nq529, K529⟩ := hQ529
  have N529 := Fr.app N520 Nq529
  have go531 : own_S p e below ST T529 (mkF m 77 #[rv o1, iv (2 : Int32), iv (1 : Int32)] [(.int (1 : Int32))]) := fun tt kt => go522 tt (st529.trans kt)
  have KC529 : Keep h0 T529.heap [o1] := KC520.trans K529 (allS (Or.inr sz_b387) (allS (Or.inr (Nat.le_trans KC464.1 zb477)) all0))
  have go532 : own_S p e below ST T529 (mkF m 84 #[rv o1, iv (2 : Int32), iv (2 : Int32)] []) := fun tt kt => go531 tt (by
      refine XS.pop X529.here hx rfl (hb hby d9_77) rfl rfl ?_
      refine XS.iinc X529.here hx rfl (hb hby d9_78) rfl (l' := #[rv o1, iv (2 : Int32), iv (2 : Int32)]) rfl ?_
      refine XS.goto X529.here hx rfl (pc0 := 81) (pc' := 43) rfl (hb hby d9_81) (by decide) (by decide) ?_
      refine XS.iloadN X529.here hx rfl (hb hby d9_43) rfl ?_
      refine XS.iloadN X529.here hx rfl (hb hby d9_44) rfl ?_
      refine XS.icmpYes X529.here hx rfl (pc0 := 45) (pc' := 84) rfl (hb hby d9_45) rfl (flt (by decide : ¬ ((2 : Int32) < (2 : Int32)))).2.1 (by decide) (by decide) ?_
      exact kt)
  have f533 := ((((((((((((Fw425.ext E434).keep K443 (ninS neo1_b434 nin0)).other W446 (Or.inl neo1_b399)).ext E454).keep K464 (ninS neo1_b454 nin0)).keep K477 (ninS neo1_b387 nin0)).ext E485).keep K496 (ninS neo1_b485 nin0)).other W499 (Or.inl neo1_b399)).ext E507).keep K520 (ninS neo1_b507 nin0)).keep K529 (ninS neo1_b387 (ninS neo1_b477 nin0)))
  have f534 := (((((((((((((V419.other W425 (Ne.symm neo1_b419)).ext E434).keep K443 (ninS neb419_b434 nin0)).other W446 (Ne.symm neb399_b419)).ext E454).keep K464 (ninS neb419_b454 nin0)).keep K477 (ninS (Ne.symm neb387_b419) nin0)).ext E485).keep K496 (ninS neb419_b485 nin0)).other W499 (Ne.symm neb399_b419)).ext E507).keep K520 (ninS neb419_b507 nin0)).keep K529 (ninS (Ne.symm neb387_b419) (ninS neb419_b477 nin0)))
  obtain ⟨fs, hr, hrun, hended, hW, hsame⟩ := X529.leave (v := none) (fun _ => rfl) (hlocks := by first | exact BodyLoose.notSynchronized Bd | exact Body.notSynchronized Bd)
  refine ⟨_, _, pre0 _ (go532 _ ?_), hrun, hended, _, _, rfl, ?_, ⟨_, rfl⟩, hW, hsame.mono (by decide) (by decide)⟩
  · exact X529.returnOut hx Bd.returns (hb hby d9_84) hr
  · show Q9 Z o1 ad kd h0 n0 _ T529.heap _
    exact ⟨b419, k419, rfl, N529, KC529, f533, f534, O419, ge_b419, neo1_b419⟩
theorem own_in4 {s : Int32} (h : s = 0 ∨ s = 1 ∨ s = 2 ∨ s = 3) : ¬ s < 0 ∧ s < 4 := by rcases h with rfl | rfl | rfl | rfl <;> decide
theorem own_lt4 {s : Int32} {L : List Value} (h : s = 0 ∨ s = 1 ∨ s = 2 ∨ s = 3) (l : L.length = 4) : s.toNatClampNeg < L.length := by rw [l]; rcases h with rfl | rfl | rfl | rfl <;> decide
theorem own_arvne {Z : State} {h : Heap} {a b : Addr} {C : String} {a0 : Array Value} {n : Nat} {k : ClassId} {ty : FieldType} {z : Int32} {vs : List Value} {d : Value} (F : Exa Z h a C) (wi : (Jvm.Cond.instantiable C n).before a0 Z = true) (V : Arv Z h b k ty z vs d) : a ≠ b := by
  obtain ⟨c, A, -⟩ := V; exact ne_arr F wi A
theorem own_rowk {Z : State} {h h' : Heap} {n0 : Nat} {g bc : Addr} {v : Value} {L : List Value} {ws : List Addr} (R : own_row Z h n0 g bc v L) (K : Keep h h' ws) (q : ∀ r, v = .ref r → r ∉ ws) : own_row Z h' n0 g bc v L := by
  rcases R with R | ⟨r, kr, e, V, r1⟩
  · exact Or.inl R
  · exact Or.inr ⟨r, kr, e, V.keep K (q r e), r1⟩
theorem own_rowlt {Z : State} {h : Heap} {n0 : Nat} {g bc : Addr} {v : Value} {L : List Value} (R : own_row Z h n0 g bc v L) : v = .null ∨ ∃ r, v = .ref r ∧ r < h.size ∧ r ≠ g ∧ r ≠ bc := by
  rcases R with R | ⟨r, kr, e, V, _, _, _, r1, r2⟩
  · exact Or.inl R.1
  · exact Or.inr ⟨r, e, V.lt, r1, r2⟩
theorem own_setn {k : Int32} (h : k = 0 ∨ k = 1 ∨ k = 2 ∨ k = 3) : ([.null, .null, .null, .null] : List Value).set k.toNatClampNeg .null = [.null, .null, .null, .null] := by rcases h with rfl | rfl | rfl | rfl <;> rfl
theorem own_getn {k : Int32} (h : k = 0 ∨ k = 1 ∨ k = 2 ∨ k = 3) : ([.null, .null, .null, .null] : List Value).getD k.toNatClampNeg .null = .null := by rcases h with rfl | rfl | rfl | rfl <;> rfl
theorem own_orn (nc : Addr) {w : Value} (h : w = .null) : own_or nc w = .ref nc := by rw [h]; rfl
theorem own_orr (nc : Addr) {w : Value} {a : Addr} (h : w = .ref a) : own_or nc w = .ref a := by rw [h]; unfold own_or; rw [if_neg (by simp)]
theorem own_orref (nc : Addr) {w : Value} (h : w.isRef = true) : (own_or nc w).isRef = true := by
  rcases ref_cases h with rfl | ⟨a, rfl⟩
  · rfl
  · rw [own_orr nc rfl]; rfl
theorem own_iff0 {L M : List Value} : (if (0 : Int32) = 0 then L else M) = L := if_pos rfl
theorem own_iff1 {L M : List Value} : (if (1 : Int32) = 0 then L else M) = M := if_neg (by decide)
theorem d19_0 : decode prog_74_method_4_code 0 = .ok (.aload_n 0, 1) := by decide +kernel
theorem d19_1 : decode prog_74_method_4_code 1 = .ok (.getfield 32, 3) := by decide +kernel
theorem d19_4 : decode prog_74_method_4_code 4 = .ok (.iload_n 1, 1) := by decide +kernel
theorem d19_5 : decode prog_74_method_4_code 5 = .ok (.aaload, 1) := by decide +kernel
theorem d19_6 : decode prog_74_method_4_code 6 = .ok (.astore_n 3, 1) := by decide +kernel
theorem d19_7 : decode prog_74_method_4_code 7 = .ok (.aload_n 3, 1) := by decide +kernel
theorem d19_8 : decode prog_74_method_4_code 8 = .ok (.ifnonnull 7, 3) := by decide +kernel
theorem d19_11 : decode prog_74_method_4_code 11 = .ok (.aconst_null, 1) := by decide +kernel
theorem d19_12 : decode prog_74_method_4_code 12 = .ok (.goto 6, 3) := by decide +kernel
theorem d19_18 : decode prog_74_method_4_code 18 = .ok (.astore 4, 2) := by decide +kernel
theorem d19_20 : decode prog_74_method_4_code 20 = .ok (.aload 4, 2) := by decide +kernel
theorem d19_22 : decode prog_74_method_4_code 22 = .ok (.ifnonnull 9, 3) := by decide +kernel
theorem d19_25 : decode prog_74_method_4_code 25 = .ok (.getstatic 68, 3) := by decide +kernel
theorem d19_28 : decode prog_74_method_4_code 28 = .ok (.goto 5, 3) := by decide +kernel
theorem d19_33 : decode prog_74_method_4_code 33 = .ok (.areturn, 1) := by decide +kernel
theorem ef19m0n (m : MethodId) (x0 : Addr) (x1 : Int32) (x2 : Int32) : entryFrame m #[(.ref x0), (.int x1), (.int x2)] 5 = mkF m 0 #[.val (.ref x0), .val (.int x1), .val (.int x2), .unset, .unset] [] := by first | (simp [entryFrame, mkF, argsToLocals, Value.category]; done) | rfl
def Q19m0n (Z : State) (g : Addr) (kk : Int32) (bc : Addr) (kc : ClassId) (vo : Value) (nc : Addr) (res : Value) (h0 : Heap) (n0 : Nat) (v : Option Value) (h : Heap) (L : List Loc) : Prop := v = some res ∧ Fr n0 L ∧ h = h0
set_option maxRecDepth 65536 in
set_option maxHeartbeats 40000000 in
theorem rm19m0n (l : Launch) (Z : State) (a0 : Array Value) (hw : ∀ d ∈ tables_1, d.before a0 Z = true) (ws : List Jvm.Cond) (g : Addr) (kk : Int32) (bc : Addr) (kc : ClassId) (vo : Value) (nc : Addr) (res : Value) (h0 : Heap) (n0 : Nat) (Z0 : n0 ≤ h0.size) (Fc : Fld Z h0 g "com/example/brancher/brancher/service/Group" "choices" "[[Ljava/util/BitSet;" (.ref bc)) (Vc : Arv Z h0 bc kc (.array (.object "java/util/BitSet")) (2 : Int32) [.null, vo] .null) (hk : kk = 0 ∨ kk = 1 ∨ kk = 2 ∨ kk = 3) (SN : Sta Z Z.heap "com/example/brancher/brancher/service/Group" "NO_CHOICES" "Ljava/util/BitSet;" (.ref nc)) (OL : Old Z n0 h0) (hres : res = .ref nc) :
    MetFree l (⟨"com/example/brancher/brancher/service/Group", "choices", "(II)Ljava/util/BitSet;"⟩ : MethodName) (head1 (Jvm.Cond.code (⟨"com/example/brancher/brancher/service/Group", "choices", "(II)Ljava/util/BitSet;"⟩ : MethodName) prog_74_method_4_code 5 (some (.object "java/util/BitSet")) :: ws) ({ frames := 0, cells := 0, slots := 0, locals := 0 } : Room)) (fun aa UU => aa = #[(.ref g), (.int (0 : Int32)), (.int kk)] ∧ Z.Warmed39 UU.vm ∧ UU.heap = h0) (fun _ _ _ _ _ => True) (fun _ UU oo UU' => ∃ vv LL, oo = .returned vv ∧ Q19m0n Z g kk bc kc vo nc res h0 n0 vv UU'.heap LL ∧ FrameEnd UU oo UU' LL ({ frames := 0, cells := 0, slots := 0, locals := 0 } : Room).cells ({ frames := 0, cells := 0, slots := 0, locals := 0 } : Room).slots) := by
  have W : ∀ {d : Jvm.Cond} (i : Nat), tables_1[i]? = some d → d.before a0 Z = true := fun i h => hw _ (List.mem_of_getElem? h)
  refine MetFree.of_bodySF (plainFor_of_name pn198) hisR ?_
  intro p e s m args below meth c s₁ Bd hml0 hP hK
  obtain ⟨rfl, hZ, hh⟩ := hP
  have hx := Bd.exec
  have hby := Bd.bytes
  have hml : c.maxLocals = 5 := hml0
  have hown : s.vm.findClass "com/example/brancher/brancher/service/Group" = some m.cls := findClass_of_methodNamed Bd.named
  have hnm := (name_of_methodNamed Bd.named Bd.method).1
  have X0 : Stand p l e ({ frames := 0, cells := 0, slots := 0, locals := 0 } : Room) s m #[(.ref g), (.int (0 : Int32)), (.int kk)] below meth c s₁ [] 0 0 := Stand.of_body Bd
  have e0 : s₁.heap = h0 := by rw [← hh, Bd.state]; rfl
  have N0 := Fr.nil n0
  have pre0 : ∀ tt, Steps p.tables e below (s₁.setTop (mkF m 0 #[rv g, iv (0 : Int32), iv kk, .unset, .unset] [])) tt → Steps p.tables e below (s₁.setTop (entryFrame m #[(.ref g), (.int (0 : Int32)), (.int kk)] 5)) tt := fun tt kt => castTop (ef19m0n m g (0 : Int32) kk) kt
  obtain ⟨ST, hST⟩ : ∃ z : State, z = s₁.setTop (mkF m 0 #[rv g, iv (0 : Int32), iv kk, .unset, .unset] []) := ⟨_, rfl⟩
  rw [← hST] at pre0
  have go535 : own_S p e below ST s₁ (mkF m 1 #[rv g, iv (0 : Int32), iv kk, .unset, .unset] [(.ref g)]) := fun tt kt => (by
      rw [hST]
      show Steps p.tables e below (s₁.setTop (mkF m 0 #[rv g, iv (0 : Int32), iv kk, .unset, .unset] [])) _
      refine XS.aloadN X0.here hx rfl (hb hby d19_0) rfl rfl ?_
      exact kt)
  obtain ⟨T536, X536, e536, st536⟩ := getF X0 hx hZ hown (host := "") (Or.inl (W 88 rfl)) Via.refl e0 Fc (g := (mkF m 1 #[rv g, iv (0 : Int32), iv kk, .unset, .unset] [(.ref g)])) rfl rfl (hb hby d19_1)
  have go537 : own_S p e below ST T536 (mkF m 4 #[rv g, iv (0 : Int32), iv kk, .unset, .unset] [(.ref bc)]) := fun tt kt => go535 tt (st536 _ kt)
  have go538 : own_S p e below ST T536 (mkF m 5 #[rv g, iv (0 : Int32), iv kk, .unset, .unset] [(.int (0 : Int32)), (.ref bc)]) := fun tt kt => go537 tt (by
      refine XS.iloadN X536.here hx rfl (hb hby d19_4) rfl ?_
      exact kt)
  obtain ⟨cl539, Ar539, q539, S539, M539, H539, G539⟩ := id Vc
  have hin539 : ¬ ((0 : Int32) < 0 ∨ cl539.slots.size ≤ ((0 : Int32)).toNatClampNeg) := inb_of S539 ⟨by decide, by decide⟩
  have hat539 : cl539.slots[((0 : Int32)).toNatClampNeg]? = some .null := H539.at hin539 rfl
  have go540 : own_S p e below ST T536 (mkF m 6 #[rv g, iv (0 : Int32), iv kk, .unset, .unset] [.null]) := fun tt kt => go538 tt (by
      refine X536.aaload hx (j := (0 : Int32)) (v := .null) (by rw [e536]; exact Ar539.1) (State.isArrayOf_alike hZ.alike Ar539.2.1) rfl Ar539.2.2 hin539 hat539 (g := (mkF m 5 #[rv g, iv (0 : Int32), iv kk, .unset, .unset] [(.int (0 : Int32)), (.ref bc)])) rfl rfl (hb hby d19_5) _ ?_
      exact kt)
  have go541 : own_S p e below ST T536 (mkF m 25 #[rv g, iv (0 : Int32), iv kk, .val .null, .val .null] []) := fun tt kt => go540 tt (by
      refine XS.astoreN X536.here hx rfl (hb hby d19_6) rfl rfl (l' := #[rv g, iv (0 : Int32), iv kk, .val .null, .unset]) rfl ?_
      refine XS.aloadN X536.here hx rfl (hb hby d19_7) rfl rfl ?_
      refine XS.ifnonnullNo X536.here hx rfl (hb hby d19_8) rfl ?_
      refine XS.aconstNull X536.here hx rfl (hb hby d19_11) ?_
      refine XS.goto X536.here hx rfl (pc0 := 12) (pc' := 18) rfl (hb hby d19_12) (by decide) (by decide) ?_
      refine XS.astore X536.here hx rfl (hb hby d19_18) rfl rfl (l' := #[rv g, iv (0 : Int32), iv kk, .val .null, .val .null]) rfl ?_
      show Steps p.tables e below (T536.setTop (mkF m 20 #[rv g, iv (0 : Int32), iv kk, .val .null, .val .null] [])) _
      refine XS.aload X536.here hx rfl (hb hby d19_20) rfl rfl ?_
      refine XS.ifnonnullNo X536.here hx rfl (hb hby d19_22) rfl ?_
      exact kt)
  obtain ⟨T542, X542, e542, st542⟩ := getS2 X536 hx hZ hown (host := "") (Or.inl (W 149 rfl)) Via.refl e536 (SN.ext OL.2) (g := (mkF m 25 #[rv g, iv (0 : Int32), iv kk, .val .null, .val .null] [])) rfl (hb hby d19_25)
  have go543 : own_S p e below ST T542 (mkF m 28 #[rv g, iv (0 : Int32), iv kk, .val .null, .val .null] [(.ref nc)]) := fun tt kt => go541 tt (st542 _ kt)
  have go544 : own_S p e below ST T542 (mkF m 33 #[rv g, iv (0 : Int32), iv kk, .val .null, .val .null] [(.ref nc)]) := fun tt kt => go543 tt (by
      refine XS.goto X542.here hx rfl (pc0 := 28) (pc' := 33) rfl (hb hby d19_28) (by decide) (by decide) ?_
      exact kt)
  obtain ⟨fs, hr, hrun, hended, hW, hsame⟩ := X542.leave (v := some (.ref nc)) (fun h => by rw [Bd.returns] at h; cases h) (hlocks := by first | exact BodyLoose.notSynchronized Bd | exact Body.notSynchronized Bd)
  refine ⟨_, _, pre0 _ (go544 _ ?_), hrun, hended, _, _, rfl, ?_, ⟨_, rfl⟩, hW, hsame.mono (by decide) (by decide)⟩
  · exact retOut X542 hx Bd.returns rfl (Or.inr (Or.inr (Or.inr (Or.inr ⟨rfl, rfl, rfl⟩)))) (hb hby d19_33) hr
  · show Q19m0n Z g kk bc kc vo nc res h0 n0 _ T542.heap _
    rw [e542]
    exact ⟨(by rw [hres]), N0, rfl⟩
theorem d19_15 : decode prog_74_method_4_code 15 = .ok (.aload_n 3, 1) := by decide +kernel
theorem d19_16 : decode prog_74_method_4_code 16 = .ok (.iload_n 2, 1) := by decide +kernel
theorem d19_17 : decode prog_74_method_4_code 17 = .ok (.aaload, 1) := by decide +kernel
theorem ef19m0rn (m : MethodId) (x0 : Addr) (x1 : Int32) (x2 : Int32) : entryFrame m #[(.ref x0), (.int x1), (.int x2)] 5 = mkF m 0 #[.val (.ref x0), .val (.int x1), .val (.int x2), .unset, .unset] [] := by first | (simp [entryFrame, mkF, argsToLocals, Value.category]; done) | rfl
def Q19m0rn (Z : State) (g : Addr) (kk : Int32) (bc : Addr) (kc : ClassId) (vo : Value) (nc : Addr) (res : Value) (r : Addr) (kr : ClassId) (Ls : List Value) (h0 : Heap) (n0 : Nat) (v : Option Value) (h : Heap) (L : List Loc) : Prop := v = some res ∧ Fr n0 L ∧ h = h0
set_option maxRecDepth 65536 in
set_option maxHeartbeats 40000000 in
theorem rm19m0rn (l : Launch) (Z : State) (a0 : Array Value) (hw : ∀ d ∈ tables_1, d.before a0 Z = true) (ws : List Jvm.Cond) (g : Addr) (kk : Int32) (bc : Addr) (kc : ClassId) (vo : Value) (nc : Addr) (res : Value) (r : Addr) (kr : ClassId) (Ls : List Value) (h0 : Heap) (n0 : Nat) (Z0 : n0 ≤ h0.size) (Fc : Fld Z h0 g "com/example/brancher/brancher/service/Group" "choices" "[[Ljava/util/BitSet;" (.ref bc)) (Vc : Arv Z h0 bc kc (.array (.object "java/util/BitSet")) (2 : Int32) [(.ref r), vo] .null) (hk : kk = 0 ∨ kk = 1 ∨ kk = 2 ∨ kk = 3) (SN : Sta Z Z.heap "com/example/brancher/brancher/service/Group" "NO_CHOICES" "Ljava/util/BitSet;" (.ref nc)) (OL : Old Z n0 h0) (hres : res = .ref nc) (Vr : Arv Z h0 r kr (.object "java/util/BitSet") (4 : Int32) Ls .null) (hel : Ls.getD (kk).toNatClampNeg .null = .null) :
    MetFree l (⟨"com/example/brancher/brancher/service/Group", "choices", "(II)Ljava/util/BitSet;"⟩ : MethodName) (head1 (Jvm.Cond.code (⟨"com/example/brancher/brancher/service/Group", "choices", "(II)Ljava/util/BitSet;"⟩ : MethodName) prog_74_method_4_code 5 (some (.object "java/util/BitSet")) :: ws) ({ frames := 0, cells := 0, slots := 0, locals := 0 } : Room)) (fun aa UU => aa = #[(.ref g), (.int (0 : Int32)), (.int kk)] ∧ Z.Warmed39 UU.vm ∧ UU.heap = h0) (fun _ _ _ _ _ => True) (fun _ UU oo UU' => ∃ vv LL, oo = .returned vv ∧ Q19m0rn Z g kk bc kc vo nc res r kr Ls h0 n0 vv UU'.heap LL ∧ FrameEnd UU oo UU' LL ({ frames := 0, cells := 0, slots := 0, locals := 0 } : Room).cells ({ frames := 0, cells := 0, slots := 0, locals := 0 } : Room).slots) := by
  have W : ∀ {d : Jvm.Cond} (i : Nat), tables_1[i]? = some d → d.before a0 Z = true := fun i h => hw _ (List.mem_of_getElem? h)
  refine MetFree.of_bodySF (plainFor_of_name pn198) hisR ?_
  intro p e s m args below meth c s₁ Bd hml0 hP hK
  obtain ⟨rfl, hZ, hh⟩ := hP
  have hx := Bd.exec
  have hby := Bd.bytes
  have hml : c.maxLocals = 5 := hml0
  have hown : s.vm.findClass "com/example/brancher/brancher/service/Group" = some m.cls := findClass_of_methodNamed Bd.named
  have hnm := (name_of_methodNamed Bd.named Bd.method).1
  have X0 : Stand p l e ({ frames := 0, cells := 0, slots := 0, locals := 0 } : Room) s m #[(.ref g), (.int (0 : Int32)), (.int kk)] below meth c s₁ [] 0 0 := Stand.of_body Bd
  have e0 : s₁.heap = h0 := by rw [← hh, Bd.state]; rfl
  have N0 := Fr.nil n0
  have pre0 : ∀ tt, Steps p.tables e below (s₁.setTop (mkF m 0 #[rv g, iv (0 : Int32), iv kk, .unset, .unset] [])) tt → Steps p.tables e below (s₁.setTop (entryFrame m #[(.ref g), (.int (0 : Int32)), (.int kk)] 5)) tt := fun tt kt => castTop (ef19m0rn m g (0 : Int32) kk) kt
  obtain ⟨ST, hST⟩ : ∃ z : State, z = s₁.setTop (mkF m 0 #[rv g, iv (0 : Int32), iv kk, .unset, .unset] []) := ⟨_, rfl⟩
  rw [← hST] at pre0
  have go545 : own_S p e below ST s₁ (mkF m 1 #[rv g, iv (0 : Int32), iv kk, .unset, .unset] [(.ref g)]) := fun tt kt => (by
      rw [hST]
      show Steps p.tables e below (s₁.setTop (mkF m 0 #[rv g, iv (0 : Int32), iv kk, .unset, .unset] [])) _
      refine XS.aloadN X0.here hx rfl (hb hby d19_0) rfl rfl ?_
      exact kt)
  obtain ⟨T546, X546, e546, st546⟩ := getF X0 hx hZ hown (host := "") (Or.inl (W 88 rfl)) Via.refl e0 Fc (g := (mkF m 1 #[rv g, iv (0 : Int32), iv kk, .unset, .unset] [(.ref g)])) rfl rfl (hb hby d19_1)
  have go547 : own_S p e below ST T546 (mkF m 4 #[rv g, iv (0 : Int32), iv kk, .unset, .unset] [(.ref bc)]) := fun tt kt => go545 tt (st546 _ kt)
  have go548 : own_S p e below ST T546 (mkF m 5 #[rv g, iv (0 : Int32), iv kk, .unset, .unset] [(.int (0 : Int32)), (.ref bc)]) := fun tt kt => go547 tt (by
      refine XS.iloadN X546.here hx rfl (hb hby d19_4) rfl ?_
      exact kt)
  obtain ⟨cl549, Ar549, q549, S549, M549, H549, G549⟩ := id Vc
  have hin549 : ¬ ((0 : Int32) < 0 ∨ cl549.slots.size ≤ ((0 : Int32)).toNatClampNeg) := inb_of S549 ⟨by decide, by decide⟩
  have hat549 : cl549.slots[((0 : Int32)).toNatClampNeg]? = some (.ref r) := H549.at hin549 rfl
  have go550 : own_S p e below ST T546 (mkF m 6 #[rv g, iv (0 : Int32), iv kk, .unset, .unset] [(.ref r)]) := fun tt kt => go548 tt (by
      refine X546.aaload hx (j := (0 : Int32)) (v := (.ref r)) (by rw [e546]; exact Ar549.1) (State.isArrayOf_alike hZ.alike Ar549.2.1) rfl Ar549.2.2 hin549 hat549 (g := (mkF m 5 #[rv g, iv (0 : Int32), iv kk, .unset, .unset] [(.int (0 : Int32)), (.ref bc)])) rfl rfl (hb hby d19_5) _ ?_
      exact kt)
  have go551 : own_S p e below ST T546 (mkF m 17 #[rv g, iv (0 : Int32), iv kk, rv r, .unset] [(.int kk), (.ref r)]) := fun tt kt => go550 tt (by
      refine XS.astoreN X546.here hx rfl (hb hby d19_6) rfl rfl (l' := #[rv g, iv (0 : Int32), iv kk, rv r, .unset]) rfl ?_
      refine XS.aloadN X546.here hx rfl (hb hby d19_7) rfl rfl ?_
      refine XS.ifnonnullYes X546.here hx rfl (pc0 := 8) (pc' := 15) rfl (hb hby d19_8) rfl (by decide) (by decide) ?_
      refine XS.aloadN X546.here hx rfl (hb hby d19_15) rfl rfl ?_
      refine XS.iloadN X546.here hx rfl (hb hby d19_16) rfl ?_
      exact kt)
  obtain ⟨cl552, Ar552, q552, S552, M552, H552, G552⟩ := id Vr
  have hin552 : ¬ (kk < 0 ∨ cl552.slots.size ≤ (kk).toNatClampNeg) := inb_of S552 (own_in4 hk)
  have hat552 : cl552.slots[(kk).toNatClampNeg]? = some .null := H552.at hin552 hel
  have go553 : own_S p e below ST T546 (mkF m 18 #[rv g, iv (0 : Int32), iv kk, rv r, .unset] [.null]) := fun tt kt => go551 tt (by
      refine X546.aaload hx (j := kk) (v := .null) (by rw [e546]; exact Ar552.1) (State.isArrayOf_alike hZ.alike Ar552.2.1) rfl Ar552.2.2 hin552 hat552 (g := (mkF m 17 #[rv g, iv (0 : Int32), iv kk, rv r, .unset] [(.int kk), (.ref r)])) rfl rfl (hb hby d19_17) _ ?_
      exact kt)
  have go554 : own_S p e below ST T546 (mkF m 25 #[rv g, iv (0 : Int32), iv kk, rv r, .val .null] []) := fun tt kt => go553 tt (by
      refine XS.astore X546.here hx rfl (hb hby d19_18) rfl rfl (l' := #[rv g, iv (0 : Int32), iv kk, rv r, .val .null]) rfl ?_
      refine XS.aload X546.here hx rfl (hb hby d19_20) rfl rfl ?_
      refine XS.ifnonnullNo X546.here hx rfl (hb hby d19_22) rfl ?_
      exact kt)
  obtain ⟨T555, X555, e555, st555⟩ := getS2 X546 hx hZ hown (host := "") (Or.inl (W 149 rfl)) Via.refl e546 (SN.ext OL.2) (g := (mkF m 25 #[rv g, iv (0 : Int32), iv kk, rv r, .val .null] [])) rfl (hb hby d19_25)
  have go556 : own_S p e below ST T555 (mkF m 28 #[rv g, iv (0 : Int32), iv kk, rv r, .val .null] [(.ref nc)]) := fun tt kt => go554 tt (st555 _ kt)
  have go557 : own_S p e below ST T555 (mkF m 33 #[rv g, iv (0 : Int32), iv kk, rv r, .val .null] [(.ref nc)]) := fun tt kt => go556 tt (by
      refine XS.goto X555.here hx rfl (pc0 := 28) (pc' := 33) rfl (hb hby d19_28) (by decide) (by decide) ?_
      exact kt)
  obtain ⟨fs, hr, hrun, hended, hW, hsame⟩ := X555.leave (v := some (.ref nc)) (fun h => by rw [Bd.returns] at h; cases h) (hlocks := by first | exact BodyLoose.notSynchronized Bd | exact Body.notSynchronized Bd)
  refine ⟨_, _, pre0 _ (go557 _ ?_), hrun, hended, _, _, rfl, ?_, ⟨_, rfl⟩, hW, hsame.mono (by decide) (by decide)⟩
  · exact retOut X555 hx Bd.returns rfl (Or.inr (Or.inr (Or.inr (Or.inr ⟨rfl, rfl, rfl⟩)))) (hb hby d19_33) hr
  · show Q19m0rn Z g kk bc kc vo nc res r kr Ls h0 n0 _ T555.heap _
    rw [e555]
    exact ⟨(by rw [hres]), N0, rfl⟩
theorem d19_31 : decode prog_74_method_4_code 31 = .ok (.aload 4, 2) := by decide +kernel
theorem ef19m0rr (m : MethodId) (x0 : Addr) (x1 : Int32) (x2 : Int32) : entryFrame m #[(.ref x0), (.int x1), (.int x2)] 5 = mkF m 0 #[.val (.ref x0), .val (.int x1), .val (.int x2), .unset, .unset] [] := by first | (simp [entryFrame, mkF, argsToLocals, Value.category]; done) | rfl
def Q19m0rr (Z : State) (g : Addr) (kk : Int32) (bc : Addr) (kc : ClassId) (vo : Value) (nc : Addr) (res : Value) (r : Addr) (kr : ClassId) (Ls : List Value) (e1 : Addr) (h0 : Heap) (n0 : Nat) (v : Option Value) (h : Heap) (L : List Loc) : Prop := v = some res ∧ Fr n0 L ∧ h = h0
set_option maxRecDepth 65536 in
set_option maxHeartbeats 40000000 in
theorem rm19m0rr (l : Launch) (Z : State) (a0 : Array Value) (hw : ∀ d ∈ tables_1, d.before a0 Z = true) (ws : List Jvm.Cond) (g : Addr) (kk : Int32) (bc : Addr) (kc : ClassId) (vo : Value) (nc : Addr) (res : Value) (r : Addr) (kr : ClassId) (Ls : List Value) (e1 : Addr) (h0 : Heap) (n0 : Nat) (Z0 : n0 ≤ h0.size) (Fc : Fld Z h0 g "com/example/brancher/brancher/service/Group" "choices" "[[Ljava/util/BitSet;" (.ref bc)) (Vc : Arv Z h0 bc kc (.array (.object "java/util/BitSet")) (2 : Int32) [(.ref r), vo] .null) (hk : kk = 0 ∨ kk = 1 ∨ kk = 2 ∨ kk = 3) (SN : Sta Z Z.heap "com/example/brancher/brancher/service/Group" "NO_CHOICES" "Ljava/util/BitSet;" (.ref nc)) (OL : Old Z n0 h0) (hres : res = .ref e1) (Vr : Arv Z h0 r kr (.object "java/util/BitSet") (4 : Int32) Ls .null) (hel : Ls.getD (kk).toNatClampNeg .null = .ref e1) :
    MetFree l (⟨"com/example/brancher/brancher/service/Group", "choices", "(II)Ljava/util/BitSet;"⟩ : MethodName) (head1 (Jvm.Cond.code (⟨"com/example/brancher/brancher/service/Group", "choices", "(II)Ljava/util/BitSet;"⟩ : MethodName) prog_74_method_4_code 5 (some (.object "java/util/BitSet")) :: ws) ({ frames := 0, cells := 0, slots := 0, locals := 0 } : Room)) (fun aa UU => aa = #[(.ref g), (.int (0 : Int32)), (.int kk)] ∧ Z.Warmed39 UU.vm ∧ UU.heap = h0) (fun _ _ _ _ _ => True) (fun _ UU oo UU' => ∃ vv LL, oo = .returned vv ∧ Q19m0rr Z g kk bc kc vo nc res r kr Ls e1 h0 n0 vv UU'.heap LL ∧ FrameEnd UU oo UU' LL ({ frames := 0, cells := 0, slots := 0, locals := 0 } : Room).cells ({ frames := 0, cells := 0, slots := 0, locals := 0 } : Room).slots) := by
  have W : ∀ {d : Jvm.Cond} (i : Nat), tables_1[i]? = some d → d.before a0 Z = true := fun i h => hw _ (List.mem_of_getElem? h)
  refine MetFree.of_bodySF (plainFor_of_name pn198) hisR ?_
  intro p e s m args below meth c s₁ Bd hml0 hP hK
  obtain ⟨rfl, hZ, hh⟩ := hP
  have hx := Bd.exec
  have hby := Bd.bytes
  have hml : c.maxLocals = 5 := hml0
  have hown : s.vm.findClass "com/example/brancher/brancher/service/Group" = some m.cls := findClass_of_methodNamed Bd.named
  have hnm := (name_of_methodNamed Bd.named Bd.method).1
  have X0 : Stand p l e ({ frames := 0, cells := 0, slots := 0, locals := 0 } : Room) s m #[(.ref g), (.int (0 : Int32)), (.int kk)] below meth c s₁ [] 0 0 := Stand.of_body Bd
  have e0 : s₁.heap = h0 := by rw [← hh, Bd.state]; rfl
  have N0 := Fr.nil n0
  have pre0 : ∀ tt, Steps p.tables e below (s₁.setTop (mkF m 0 #[rv g, iv (0 : Int32), iv kk, .unset, .unset] [])) tt → Steps p.tables e below (s₁.setTop (entryFrame m #[(.ref g), (.int (0 : Int32)), (.int kk)] 5)) tt := fun tt kt => castTop (ef19m0rr m g (0 : Int32) kk) kt
  obtain ⟨ST, hST⟩ : ∃ z : State, z = s₁.setTop (mkF m 0 #[rv g, iv (0 : Int32), iv kk, .unset, .unset] []) := ⟨_, rfl⟩
  rw [← hST] at pre0
  have go558 : own_S p e below ST s₁ (mkF m 1 #[rv g, iv (0 : Int32), iv kk, .unset, .unset] [(.ref g)]) := fun tt kt => (by
      rw [hST]
      show Steps p.tables e below (s₁.setTop (mkF m 0 #[rv g, iv (0 : Int32), iv kk, .unset, .unset] [])) _
      refine XS.aloadN X0.here hx rfl (hb hby d19_0) rfl rfl ?_
      exact kt)
  obtain ⟨T559, X559, e559, st559⟩ := getF X0 hx hZ hown (host := "") (Or.inl (W 88 rfl)) Via.refl e0 Fc (g := (mkF m 1 #[rv g, iv (0 : Int32), iv kk, .unset, .unset] [(.ref g)])) rfl rfl (hb hby d19_1)
  have go560 : own_S p e below ST T559 (mkF m 4 #[rv g, iv (0 : Int32), iv kk, .unset, .unset] [(.ref bc)]) := fun tt kt => go558 tt (st559 _ kt)
  have go561 : own_S p e below ST T559 (mkF m 5 #[rv g, iv (0 : Int32), iv kk, .unset, .unset] [(.int (0 : Int32)), (.ref bc)]) := fun tt kt => go560 tt (by
      refine XS.iloadN X559.here hx rfl (hb hby d19_4) rfl ?_
      exact kt)
  obtain ⟨cl562, Ar562, q562, S562, M562, H562, G562⟩ := id Vc
  have hin562 : ¬ ((0 : Int32) < 0 ∨ cl562.slots.size ≤ ((0 : Int32)).toNatClampNeg) := inb_of S562 ⟨by decide, by decide⟩
  have hat562 : cl562.slots[((0 : Int32)).toNatClampNeg]? = some (.ref r) := H562.at hin562 rfl
  have go563 : own_S p e below ST T559 (mkF m 6 #[rv g, iv (0 : Int32), iv kk, .unset, .unset] [(.ref r)]) := fun tt kt => go561 tt (by
      refine X559.aaload hx (j := (0 : Int32)) (v := (.ref r)) (by rw [e559]; exact Ar562.1) (State.isArrayOf_alike hZ.alike Ar562.2.1) rfl Ar562.2.2 hin562 hat562 (g := (mkF m 5 #[rv g, iv (0 : Int32), iv kk, .unset, .unset] [(.int (0 : Int32)), (.ref bc)])) rfl rfl (hb hby d19_5) _ ?_
      exact kt)
  have go564 : own_S p e below ST T559 (mkF m 17 #[rv g, iv (0 : Int32), iv kk, rv r, .unset] [(.int kk), (.ref r)]) := fun tt kt => go563 tt (by
      refine XS.astoreN X559.here hx rfl (hb hby d19_6) rfl rfl (l' := #[rv g, iv (0 : Int32), iv kk, rv r, .unset]) rfl ?_
      refine XS.aloadN X559.here hx rfl (hb hby d19_7) rfl rfl ?_
      refine XS.ifnonnullYes X559.here hx rfl (pc0 := 8) (pc' := 15) rfl (hb hby d19_8) rfl (by decide) (by decide) ?_
      refine XS.aloadN X559.here hx rfl (hb hby d19_15) rfl rfl ?_
      refine XS.iloadN X559.here hx rfl (hb hby d19_16) rfl ?_
      exact kt)
  obtain ⟨cl565, Ar565, q565, S565, M565, H565, G565⟩ := id Vr
  have hin565 : ¬ (kk < 0 ∨ cl565.slots.size ≤ (kk).toNatClampNeg) := inb_of S565 (own_in4 hk)
  have hat565 : cl565.slots[(kk).toNatClampNeg]? = some (.ref e1) := H565.at hin565 hel
  have go566 : own_S p e below ST T559 (mkF m 18 #[rv g, iv (0 : Int32), iv kk, rv r, .unset] [(.ref e1)]) := fun tt kt => go564 tt (by
      refine X559.aaload hx (j := kk) (v := (.ref e1)) (by rw [e559]; exact Ar565.1) (State.isArrayOf_alike hZ.alike Ar565.2.1) rfl Ar565.2.2 hin565 hat565 (g := (mkF m 17 #[rv g, iv (0 : Int32), iv kk, rv r, .unset] [(.int kk), (.ref r)])) rfl rfl (hb hby d19_17) _ ?_
      exact kt)
  have go567 : own_S p e below ST T559 (mkF m 33 #[rv g, iv (0 : Int32), iv kk, rv r, rv e1] [(.ref e1)]) := fun tt kt => go566 tt (by
      refine XS.astore X559.here hx rfl (hb hby d19_18) rfl rfl (l' := #[rv g, iv (0 : Int32), iv kk, rv r, rv e1]) rfl ?_
      refine XS.aload X559.here hx rfl (hb hby d19_20) rfl rfl ?_
      refine XS.ifnonnullYes X559.here hx rfl (pc0 := 22) (pc' := 31) rfl (hb hby d19_22) rfl (by decide) (by decide) ?_
      refine XS.aload X559.here hx rfl (hb hby d19_31) rfl rfl ?_
      exact kt)
  obtain ⟨fs, hr, hrun, hended, hW, hsame⟩ := X559.leave (v := some (.ref e1)) (fun h => by rw [Bd.returns] at h; cases h) (hlocks := by first | exact BodyLoose.notSynchronized Bd | exact Body.notSynchronized Bd)
  refine ⟨_, _, pre0 _ (go567 _ ?_), hrun, hended, _, _, rfl, ?_, ⟨_, rfl⟩, hW, hsame.mono (by decide) (by decide)⟩
  · exact retOut X559 hx Bd.returns rfl (Or.inr (Or.inr (Or.inr (Or.inr ⟨rfl, rfl, rfl⟩)))) (hb hby d19_33) hr
  · show Q19m0rr Z g kk bc kc vo nc res r kr Ls e1 h0 n0 _ T559.heap _
    rw [e559]
    exact ⟨(by rw [hres]), N0, rfl⟩
theorem ef19m1n (m : MethodId) (x0 : Addr) (x1 : Int32) (x2 : Int32) : entryFrame m #[(.ref x0), (.int x1), (.int x2)] 5 = mkF m 0 #[.val (.ref x0), .val (.int x1), .val (.int x2), .unset, .unset] [] := by first | (simp [entryFrame, mkF, argsToLocals, Value.category]; done) | rfl
def Q19m1n (Z : State) (g : Addr) (kk : Int32) (bc : Addr) (kc : ClassId) (vo : Value) (nc : Addr) (res : Value) (h0 : Heap) (n0 : Nat) (v : Option Value) (h : Heap) (L : List Loc) : Prop := v = some res ∧ Fr n0 L ∧ h = h0
set_option maxRecDepth 65536 in
set_option maxHeartbeats 40000000 in
theorem rm19m1n (l : Launch) (Z : State) (a0 : Array Value) (hw : ∀ d ∈ tables_1, d.before a0 Z = true) (ws : List Jvm.Cond) (g : Addr) (kk : Int32) (bc : Addr) (kc : ClassId) (vo : Value) (nc : Addr) (res : Value) (h0 : Heap) (n0 : Nat) (Z0 : n0 ≤ h0.size) (Fc : Fld Z h0 g "com/example/brancher/brancher/service/Group" "choices" "[[Ljava/util/BitSet;" (.ref bc)) (Vc : Arv Z h0 bc kc (.array (.object "java/util/BitSet")) (2 : Int32) [vo, .null] .null) (hk : kk = 0 ∨ kk = 1 ∨ kk = 2 ∨ kk = 3) (SN : Sta Z Z.heap "com/example/brancher/brancher/service/Group" "NO_CHOICES" "Ljava/util/BitSet;" (.ref nc)) (OL : Old Z n0 h0) (hres : res = .ref nc) :
    MetFree l (⟨"com/example/brancher/brancher/service/Group", "choices", "(II)Ljava/util/BitSet;"⟩ : MethodName) (head1 (Jvm.Cond.code (⟨"com/example/brancher/brancher/service/Group", "choices", "(II)Ljava/util/BitSet;"⟩ : MethodName) prog_74_method_4_code 5 (some (.object "java/util/BitSet")) :: ws) ({ frames := 0, cells := 0, slots := 0, locals := 0 } : Room)) (fun aa UU => aa = #[(.ref g), (.int (1 : Int32)), (.int kk)] ∧ Z.Warmed39 UU.vm ∧ UU.heap = h0) (fun _ _ _ _ _ => True) (fun _ UU oo UU' => ∃ vv LL, oo = .returned vv ∧ Q19m1n Z g kk bc kc vo nc res h0 n0 vv UU'.heap LL ∧ FrameEnd UU oo UU' LL ({ frames := 0, cells := 0, slots := 0, locals := 0 } : Room).cells ({ frames := 0, cells := 0, slots := 0, locals := 0 } : Room).slots) := by
  have W : ∀ {d : Jvm.Cond} (i : Nat), tables_1[i]? = some d → d.before a0 Z = true := fun i h => hw _ (List.mem_of_getElem? h)
  refine MetFree.of_bodySF (plainFor_of_name pn198) hisR ?_
  intro p e s m args below meth c s₁ Bd hml0 hP hK
  obtain ⟨rfl, hZ, hh⟩ := hP
  have hx := Bd.exec
  have hby := Bd.bytes
  have hml : c.maxLocals = 5 := hml0
  have hown : s.vm.findClass "com/example/brancher/brancher/service/Group" = some m.cls := findClass_of_methodNamed Bd.named
  have hnm := (name_of_methodNamed Bd.named Bd.method).1
  have X0 : Stand p l e ({ frames := 0, cells := 0, slots := 0, locals := 0 } : Room) s m #[(.ref g), (.int (1 : Int32)), (.int kk)] below meth c s₁ [] 0 0 := Stand.of_body Bd
  have e0 : s₁.heap = h0 := by rw [← hh, Bd.state]; rfl
  have N0 := Fr.nil n0
  have pre0 : ∀ tt, Steps p.tables e below (s₁.setTop (mkF m 0 #[rv g, iv (1 : Int32), iv kk, .unset, .unset] [])) tt → Steps p.tables e below (s₁.setTop (entryFrame m #[(.ref g), (.int (1 : Int32)), (.int kk)] 5)) tt := fun tt kt => castTop (ef19m1n m g (1 : Int32) kk) kt
  obtain ⟨ST, hST⟩ : ∃ z : State, z = s₁.setTop (mkF m 0 #[rv g, iv (1 : Int32), iv kk, .unset, .unset] []) := ⟨_, rfl⟩
  rw [← hST] at pre0
  have go568 : own_S p e below ST s₁ (mkF m 1 #[rv g, iv (1 : Int32), iv kk, .unset, .unset] [(.ref g)]) := fun tt kt => (by
      rw [hST]
      show Steps p.tables e below (s₁.setTop (mkF m 0 #[rv g, iv (1 : Int32), iv kk, .unset, .unset] [])) _
      refine XS.aloadN X0.here hx rfl (hb hby d19_0) rfl rfl ?_
      exact kt)
  obtain ⟨T569, X569, e569, st569⟩ := getF X0 hx hZ hown (host := "") (Or.inl (W 88 rfl)) Via.refl e0 Fc (g := (mkF m 1 #[rv g, iv (1 : Int32), iv kk, .unset, .unset] [(.ref g)])) rfl rfl (hb hby d19_1)
  have go570 : own_S p e below ST T569 (mkF m 4 #[rv g, iv (1 : Int32), iv kk, .unset, .unset] [(.ref bc)]) := fun tt kt => go568 tt (st569 _ kt)
  have go571 : own_S p e below ST T569 (mkF m 5 #[rv g, iv (1 : Int32), iv kk, .unset, .unset] [(.int (1 : Int32)), (.ref bc)]) := fun tt kt => go570 tt (by
      refine XS.iloadN X569.here hx rfl (hb hby d19_4) rfl ?_
      exact kt)
  obtain ⟨cl572, Ar572, q572, S572, M572, H572, G572⟩ := id Vc
  have hin572 : ¬ ((1 : Int32) < 0 ∨ cl572.slots.size ≤ ((1 : Int32)).toNatClampNeg) := inb_of S572 ⟨by decide, by decide⟩
  have hat572 : cl572.slots[((1 : Int32)).toNatClampNeg]? = some .null := H572.at hin572 rfl
  have go573 : own_S p e below ST T569 (mkF m 6 #[rv g, iv (1 : Int32), iv kk, .unset, .unset] [.null]) := fun tt kt => go571 tt (by
      refine X569.aaload hx (j := (1 : Int32)) (v := .null) (by rw [e569]; exact Ar572.1) (State.isArrayOf_alike hZ.alike Ar572.2.1) rfl Ar572.2.2 hin572 hat572 (g := (mkF m 5 #[rv g, iv (1 : Int32), iv kk, .unset, .unset] [(.int (1 : Int32)), (.ref bc)])) rfl rfl (hb hby d19_5) _ ?_
      exact kt)
  have go574 : own_S p e below ST T569 (mkF m 25 #[rv g, iv (1 : Int32), iv kk, .val .null, .val .null] []) := fun tt kt => go573 tt (by
      refine XS.astoreN X569.here hx rfl (hb hby d19_6) rfl rfl (l' := #[rv g, iv (1 : Int32), iv kk, .val .null, .unset]) rfl ?_
      refine XS.aloadN X569.here hx rfl (hb hby d19_7) rfl rfl ?_
      refine XS.ifnonnullNo X569.here hx rfl (hb hby d19_8) rfl ?_
      refine XS.aconstNull X569.here hx rfl (hb hby d19_11) ?_
      refine XS.goto X569.here hx rfl (pc0 := 12) (pc' := 18) rfl (hb hby d19_12) (by decide) (by decide) ?_
      refine XS.astore X569.here hx rfl (hb hby d19_18) rfl rfl (l' := #[rv g, iv (1 : Int32), iv kk, .val .null, .val .null]) rfl ?_
      show Steps p.tables e below (T569.setTop (mkF m 20 #[rv g, iv (1 : Int32), iv kk, .val .null, .val .null] [])) _
      refine XS.aload X569.here hx rfl (hb hby d19_20) rfl rfl ?_
      refine XS.ifnonnullNo X569.here hx rfl (hb hby d19_22) rfl ?_
      exact kt)
  obtain ⟨T575, X575, e575, st575⟩ := getS2 X569 hx hZ hown (host := "") (Or.inl (W 149 rfl)) Via.refl e569 (SN.ext OL.2) (g := (mkF m 25 #[rv g, iv (1 : Int32), iv kk, .val .null, .val .null] [])) rfl (hb hby d19_25)
  have go576 : own_S p e below ST T575 (mkF m 28 #[rv g, iv (1 : Int32), iv kk, .val .null, .val .null] [(.ref nc)]) := fun tt kt => go574 tt (st575 _ kt)
  have go577 : own_S p e below ST T575 (mkF m 33 #[rv g, iv (1 : Int32), iv kk, .val .null, .val .null] [(.ref nc)]) := fun tt kt => go576 tt (by
      refine XS.goto X575.here hx rfl (pc0 := 28) (pc' := 33) rfl (hb hby d19_28) (by decide) (by decide) ?_
      exact kt)
  obtain ⟨fs, hr, hrun, hended, hW, hsame⟩ := X575.leave (v := some (.ref nc)) (fun h => by rw [Bd.returns] at h; cases h) (hlocks := by first | exact BodyLoose.notSynchronized Bd | exact Body.notSynchronized Bd)
  refine ⟨_, _, pre0 _ (go577 _ ?_), hrun, hended, _, _, rfl, ?_, ⟨_, rfl⟩, hW, hsame.mono (by decide) (by decide)⟩
  · exact retOut X575 hx Bd.returns rfl (Or.inr (Or.inr (Or.inr (Or.inr ⟨rfl, rfl, rfl⟩)))) (hb hby d19_33) hr
  · show Q19m1n Z g kk bc kc vo nc res h0 n0 _ T575.heap _
    rw [e575]
    exact ⟨(by rw [hres]), N0, rfl⟩
theorem ef19m1rn (m : MethodId) (x0 : Addr) (x1 : Int32) (x2 : Int32) : entryFrame m #[(.ref x0), (.int x1), (.int x2)] 5 = mkF m 0 #[.val (.ref x0), .val (.int x1), .val (.int x2), .unset, .unset] [] := by first | (simp [entryFrame, mkF, argsToLocals, Value.category]; done) | rfl
def Q19m1rn (Z : State) (g : Addr) (kk : Int32) (bc : Addr) (kc : ClassId) (vo : Value) (nc : Addr) (res : Value) (r : Addr) (kr : ClassId) (Ls : List Value) (h0 : Heap) (n0 : Nat) (v : Option Value) (h : Heap) (L : List Loc) : Prop := v = some res ∧ Fr n0 L ∧ h = h0
set_option maxRecDepth 65536 in
set_option maxHeartbeats 40000000 in
theorem rm19m1rn (l : Launch) (Z : State) (a0 : Array Value) (hw : ∀ d ∈ tables_1, d.before a0 Z = true) (ws : List Jvm.Cond) (g : Addr) (kk : Int32) (bc : Addr) (kc : ClassId) (vo : Value) (nc : Addr) (res : Value) (r : Addr) (kr : ClassId) (Ls : List Value) (h0 : Heap) (n0 : Nat) (Z0 : n0 ≤ h0.size) (Fc : Fld Z h0 g "com/example/brancher/brancher/service/Group" "choices" "[[Ljava/util/BitSet;" (.ref bc)) (Vc : Arv Z h0 bc kc (.array (.object "java/util/BitSet")) (2 : Int32) [vo, (.ref r)] .null) (hk : kk = 0 ∨ kk = 1 ∨ kk = 2 ∨ kk = 3) (SN : Sta Z Z.heap "com/example/brancher/brancher/service/Group" "NO_CHOICES" "Ljava/util/BitSet;" (.ref nc)) (OL : Old Z n0 h0) (hres : res = .ref nc) (Vr : Arv Z h0 r kr (.object "java/util/BitSet") (4 : Int32) Ls .null) (hel : Ls.getD (kk).toNatClampNeg .null = .null) :
    MetFree l (⟨"com/example/brancher/brancher/service/Group", "choices", "(II)Ljava/util/BitSet;"⟩ : MethodName) (head1 (Jvm.Cond.code (⟨"com/example/brancher/brancher/service/Group", "choices", "(II)Ljava/util/BitSet;"⟩ : MethodName) prog_74_method_4_code 5 (some (.object "java/util/BitSet")) :: ws) ({ frames := 0, cells := 0, slots := 0, locals := 0 } : Room)) (fun aa UU => aa = #[(.ref g), (.int (1 : Int32)), (.int kk)] ∧ Z.Warmed39 UU.vm ∧ UU.heap = h0) (fun _ _ _ _ _ => True) (fun _ UU oo UU' => ∃ vv LL, oo = .returned vv ∧ Q19m1rn Z g kk bc kc vo nc res r kr Ls h0 n0 vv UU'.heap LL ∧ FrameEnd UU oo UU' LL ({ frames := 0, cells := 0, slots := 0, locals := 0 } : Room).cells ({ frames := 0, cells := 0, slots := 0, locals := 0 } : Room).slots) := by
  have W : ∀ {d : Jvm.Cond} (i : Nat), tables_1[i]? = some d → d.before a0 Z = true := fun i h => hw _ (List.mem_of_getElem? h)
  refine MetFree.of_bodySF (plainFor_of_name pn198) hisR ?_
  intro p e s m args below meth c s₁ Bd hml0 hP hK
  obtain ⟨rfl, hZ, hh⟩ := hP
  have hx := Bd.exec
  have hby := Bd.bytes
  have hml : c.maxLocals = 5 := hml0
  have hown : s.vm.findClass "com/example/brancher/brancher/service/Group" = some m.cls := findClass_of_methodNamed Bd.named
  have hnm := (name_of_methodNamed Bd.named Bd.method).1
  have X0 : Stand p l e ({ frames := 0, cells := 0, slots := 0, locals := 0 } : Room) s m #[(.ref g), (.int (1 : Int32)), (.int kk)] below meth c s₁ [] 0 0 := Stand.of_body Bd
  have e0 : s₁.heap = h0 := by rw [← hh, Bd.state]; rfl
  have N0 := Fr.nil n0
  have pre0 : ∀ tt, Steps p.tables e below (s₁.setTop (mkF m 0 #[rv g, iv (1 : Int32), iv kk, .unset, .unset] [])) tt → Steps p.tables e below (s₁.setTop (entryFrame m #[(.ref g), (.int (1 : Int32)), (.int kk)] 5)) tt := fun tt kt => castTop (ef19m1rn m g (1 : Int32) kk) kt
  obtain ⟨ST, hST⟩ : ∃ z : State, z = s₁.setTop (mkF m 0 #[rv g, iv (1 : Int32), iv kk, .unset, .unset] []) := ⟨_, rfl⟩
  rw [← hST] at pre0
  have go578 : own_S p e below ST s₁ (mkF m 1 #[rv g, iv (1 : Int32), iv kk, .unset, .unset] [(.ref g)]) := fun tt kt => (by
      rw [hST]
      show Steps p.tables e below (s₁.setTop (mkF m 0 #[rv g, iv (1 : Int32), iv kk, .unset, .unset] [])) _
      refine XS.aloadN X0.here hx rfl (hb hby d19_0) rfl rfl ?_
      exact kt)
  obtain ⟨T579, X579, e579, st579⟩ := getF X0 hx hZ hown (host := "") (Or.inl (W 88 rfl)) Via.refl e0 Fc (g := (mkF m 1 #[rv g, iv (1 : Int32), iv kk, .unset, .unset] [(.ref g)])) rfl rfl (hb hby d19_1)
  have go580 : own_S p e below ST T579 (mkF m 4 #[rv g, iv (1 : Int32), iv kk, .unset, .unset] [(.ref bc)]) := fun tt kt => go578 tt (st579 _ kt)
  have go581 : own_S p e below ST T579 (mkF m 5 #[rv g, iv (1 : Int32), iv kk, .unset, .unset] [(.int (1 : Int32)), (.ref bc)]) := fun tt kt => go580 tt (by
      refine XS.iloadN X579.here hx rfl (hb hby d19_4) rfl ?_
      exact kt)
  obtain ⟨cl582, Ar582, q582, S582, M582, H582, G582⟩ := id Vc
  have hin582 : ¬ ((1 : Int32) < 0 ∨ cl582.slots.size ≤ ((1 : Int32)).toNatClampNeg) := inb_of S582 ⟨by decide, by decide⟩
  have hat582 : cl582.slots[((1 : Int32)).toNatClampNeg]? = some (.ref r) := H582.at hin582 rfl
  have go583 : own_S p e below ST T579 (mkF m 6 #[rv g, iv (1 : Int32), iv kk, .unset, .unset] [(.ref r)]) := fun tt kt => go581 tt (by
      refine X579.aaload hx (j := (1 : Int32)) (v := (.ref r)) (by rw [e579]; exact Ar582.1) (State.isArrayOf_alike hZ.alike Ar582.2.1) rfl Ar582.2.2 hin582 hat582 (g := (mkF m 5 #[rv g, iv (1 : Int32), iv kk, .unset, .unset] [(.int (1 : Int32)), (.ref bc)])) rfl rfl (hb hby d19_5) _ ?_
      exact kt)
  have go584 : own_S p e below ST T579 (mkF m 17 #[rv g, iv (1 : Int32), iv kk, rv r, .unset] [(.int kk), (.ref r)]) := fun tt kt => go583 tt (by
      refine XS.astoreN X579.here hx rfl (hb hby d19_6) rfl rfl (l' := #[rv g, iv (1 : Int32), iv kk, rv r, .unset]) rfl ?_
      refine XS.aloadN X579.here hx rfl (hb hby d19_7) rfl rfl ?_
      refine XS.ifnonnullYes X579.here hx rfl (pc0 := 8) (pc' := 15) rfl (hb hby d19_8) rfl (by decide) (by decide) ?_
      refine XS.aloadN X579.here hx rfl (hb hby d19_15) rfl rfl ?_
      refine XS.iloadN X579.here hx rfl (hb hby d19_16) rfl ?_
      exact kt)
  obtain ⟨cl585, Ar585, q585, S585, M585, H585, G585⟩ := id Vr
  have hin585 : ¬ (kk < 0 ∨ cl585.slots.size ≤ (kk).toNatClampNeg) := inb_of S585 (own_in4 hk)
  have hat585 : cl585.slots[(kk).toNatClampNeg]? = some .null := H585.at hin585 hel
  have go586 : own_S p e below ST T579 (mkF m 18 #[rv g, iv (1 : Int32), iv kk, rv r, .unset] [.null]) := fun tt kt => go584 tt (by
      refine X579.aaload hx (j := kk) (v := .null) (by rw [e579]; exact Ar585.1) (State.isArrayOf_alike hZ.alike Ar585.2.1) rfl Ar585.2.2 hin585 hat585 (g := (mkF m 17 #[rv g, iv (1 : Int32), iv kk, rv r, .unset] [(.int kk), (.ref r)])) rfl rfl (hb hby d19_17) _ ?_
      exact kt)
  have go587 : own_S p e below ST T579 (mkF m 25 #[rv g, iv (1 : Int32), iv kk, rv r, .val .null] []) := fun tt kt => go586 tt (by
      refine XS.astore X579.here hx rfl (hb hby d19_18) rfl rfl (l' := #[rv g, iv (1 : Int32), iv kk, rv r, .val .null]) rfl ?_
      refine XS.aload X579.here hx rfl (hb hby d19_20) rfl rfl ?_
      refine XS.ifnonnullNo X579.here hx rfl (hb hby d19_22) rfl ?_
      exact kt)
  obtain ⟨T588, X588, e588, st588⟩ := getS2 X579 hx hZ hown (host := "") (Or.inl (W 149 rfl)) Via.refl e579 (SN.ext OL.2) (g := (mkF m 25 #[rv g, iv (1 : Int32), iv kk, rv r, .val .null] [])) rfl (hb hby d19_25)
  have go589 : own_S p e below ST T588 (mkF m 28 #[rv g, iv (1 : Int32), iv kk, rv r, .val .null] [(.ref nc)]) := fun tt kt => go587 tt (st588 _ kt)
  have go590 : own_S p e below ST T588 (mkF m 33 #[rv g, iv (1 : Int32), iv kk, rv r, .val .null] [(.ref nc)]) := fun tt kt => go589 tt (by
      refine XS.goto X588.here hx rfl (pc0 := 28) (pc' := 33) rfl (hb hby d19_28) (by decide) (by decide) ?_
      exact kt)
  obtain ⟨fs, hr, hrun, hended, hW, hsame⟩ := X588.leave (v := some (.ref nc)) (fun h => by rw [Bd.returns] at h; cases h) (hlocks := by first | exact BodyLoose.notSynchronized Bd | exact Body.notSynchronized Bd)
  refine ⟨_, _, pre0 _ (go590 _ ?_), hrun, hended, _, _, rfl, ?_, ⟨_, rfl⟩, hW, hsame.mono (by decide) (by decide)⟩
  · exact retOut X588 hx Bd.returns rfl (Or.inr (Or.inr (Or.inr (Or.inr ⟨rfl, rfl, rfl⟩)))) (hb hby d19_33) hr
  · show Q19m1rn Z g kk bc kc vo nc res r kr Ls h0 n0 _ T588.heap _
    rw [e588]
    exact ⟨(by rw [hres]), N0, rfl⟩
theorem ef19m1rr (m : MethodId) (x0 : Addr) (x1 : Int32) (x2 : Int32) : entryFrame m #[(.ref x0), (.int x1), (.int x2)] 5 = mkF m 0 #[.val (.ref x0), .val (.int x1), .val (.int x2), .unset, .unset] [] := by first | (simp [entryFrame, mkF, argsToLocals, Value.category]; done) | rfl
def Q19m1rr (Z : State) (g : Addr) (kk : Int32) (bc : Addr) (kc : ClassId) (vo : Value) (nc : Addr) (res : Value) (r : Addr) (kr : ClassId) (Ls : List Value) (e1 : Addr) (h0 : Heap) (n0 : Nat) (v : Option Value) (h : Heap) (L : List Loc) : Prop := v = some res ∧ Fr n0 L ∧ h = h0
set_option maxRecDepth 65536 in
set_option maxHeartbeats 40000000 in
theorem rm19m1rr (l : Launch) (Z : State) (a0 : Array Value) (hw : ∀ d ∈ tables_1, d.before a0 Z = true) (ws : List Jvm.Cond) (g : Addr) (kk : Int32) (bc : Addr) (kc : ClassId) (vo : Value) (nc : Addr) (res : Value) (r : Addr) (kr : ClassId) (Ls : List Value) (e1 : Addr) (h0 : Heap) (n0 : Nat) (Z0 : n0 ≤ h0.size) (Fc : Fld Z h0 g "com/example/brancher/brancher/service/Group" "choices" "[[Ljava/util/BitSet;" (.ref bc)) (Vc : Arv Z h0 bc kc (.array (.object "java/util/BitSet")) (2 : Int32) [vo, (.ref r)] .null) (hk : kk = 0 ∨ kk = 1 ∨ kk = 2 ∨ kk = 3) (SN : Sta Z Z.heap "com/example/brancher/brancher/service/Group" "NO_CHOICES" "Ljava/util/BitSet;" (.ref nc)) (OL : Old Z n0 h0) (hres : res = .ref e1) (Vr : Arv Z h0 r kr (.object "java/util/BitSet") (4 : Int32) Ls .null) (hel : Ls.getD (kk).toNatClampNeg .null = .ref e1) :
    MetFree l (⟨"com/example/brancher/brancher/service/Group", "choices", "(II)Ljava/util/BitSet;"⟩ : MethodName) (head1 (Jvm.Cond.code (⟨"com/example/brancher/brancher/service/Group", "choices", "(II)Ljava/util/BitSet;"⟩ : MethodName) prog_74_method_4_code 5 (some (.object "java/util/BitSet")) :: ws) ({ frames := 0, cells := 0, slots := 0, locals := 0 } : Room)) (fun aa UU => aa = #[(.ref g), (.int (1 : Int32)), (.int kk)] ∧ Z.Warmed39 UU.vm ∧ UU.heap = h0) (fun _ _ _ _ _ => True) (fun _ UU oo UU' => ∃ vv LL, oo = .returned vv ∧ Q19m1rr Z g kk bc kc vo nc res r kr Ls e1 h0 n0 vv UU'.heap LL ∧ FrameEnd UU oo UU' LL ({ frames := 0, cells := 0, slots := 0, locals := 0 } : Room).cells ({ frames := 0, cells := 0, slots := 0, locals := 0 } : Room).slots) := by
  have W : ∀ {d : Jvm.Cond} (i : Nat), tables_1[i]? = some d → d.before a0 Z = true := fun i h => hw _ (List.mem_of_getElem? h)
  refine MetFree.of_bodySF (plainFor_of_name pn198) hisR ?_
  intro p e s m args below meth c s₁ Bd hml0 hP hK
  obtain ⟨rfl, hZ, hh⟩ := hP
  have hx := Bd.exec
  have hby := Bd.bytes
  have hml : c.maxLocals = 5 := hml0
  have hown : s.vm.findClass "com/example/brancher/brancher/service/Group" = some m.cls := findClass_of_methodNamed Bd.named
  have hnm := (name_of_methodNamed Bd.named Bd.method).1
  have X0 : Stand p l e ({ frames := 0, cells := 0, slots := 0, locals := 0 } : Room) s m #[(.ref g), (.int (1 : Int32)), (.int kk)] below meth c s₁ [] 0 0 := Stand.of_body Bd
  have e0 : s₁.heap = h0 := by rw [← hh, Bd.state]; rfl
  have N0 := Fr.nil n0
  have pre0 : ∀ tt, Steps p.tables e below (s₁.setTop (mkF m 0 #[rv g, iv (1 : Int32), iv kk, .unset, .unset] [])) tt → Steps p.tables e below (s₁.setTop (entryFrame m #[(.ref g), (.int (1 : Int32)), (.int kk)] 5)) tt := fun tt kt => castTop (ef19m1rr m g (1 : Int32) kk) kt
  obtain ⟨ST, hST⟩ : ∃ z : State, z = s₁.setTop (mkF m 0 #[rv g, iv (1 : Int32), iv kk, .unset, .unset] []) := ⟨_, rfl⟩
  rw [← hST] at pre0
  have go591 : own_S p e below ST s₁ (mkF m 1 #[rv g, iv (1 : Int32), iv kk, .unset, .unset] [(.ref g)]) := fun tt kt => (by
      rw [hST]
      show Steps p.tables e below (s₁.setTop (mkF m 0 #[rv g, iv (1 : Int32), iv kk, .unset, .unset] [])) _
      refine XS.aloadN X0.here hx rfl (hb hby d19_0) rfl rfl ?_
      exact kt)
  obtain ⟨T592, X592, e592, st592⟩ := getF X0 hx hZ hown (host := "") (Or.inl (W 88 rfl)) Via.refl e0 Fc (g := (mkF m 1 #[rv g, iv (1 : Int32), iv kk, .unset, .unset] [(.ref g)])) rfl rfl (hb hby d19_1)
  have go593 : own_S p e below ST T592 (mkF m 4 #[rv g, iv (1 : Int32), iv kk, .unset, .unset] [(.ref bc)]) := fun tt kt => go591 tt (st592 _ kt)
  have go594 : own_S p e below ST T592 (mkF m 5 #[rv g, iv (1 : Int32), iv kk, .unset, .unset] [(.int (1 : Int32)), (.ref bc)]) := fun tt kt => go593 tt (by
      refine XS.iloadN X592.here hx rfl (hb hby d19_4) rfl ?_
      exact kt)
  obtain ⟨cl595, Ar595, q595, S595, M595, H595, G595⟩ := id Vc
  have hin595 : ¬ ((1 : Int32) < 0 ∨ cl595.slots.size ≤ ((1 : Int32)).toNatClampNeg) := inb_of S595 ⟨by decide, by decide⟩
  have hat595 : cl595.slots[((1 : Int32)).toNatClampNeg]? = some (.ref r) := H595.at hin595 rfl
  have go596 : own_S p e below ST T592 (mkF m 6 #[rv g, iv (1 : Int32), iv kk, .unset, .unset] [(.ref r)]) := fun tt kt => go594 tt (by
      refine X592.aaload hx (j := (1 : Int32)) (v := (.ref r)) (by rw [e592]; exact Ar595.1) (State.isArrayOf_alike hZ.alike Ar595.2.1) rfl Ar595.2.2 hin595 hat595 (g := (mkF m 5 #[rv g, iv (1 : Int32), iv kk, .unset, .unset] [(.int (1 : Int32)), (.ref bc)])) rfl rfl (hb hby d19_5) _ ?_
      exact kt)
  have go597 : own_S p e below ST T592 (mkF m 17 #[rv g, iv (1 : Int32), iv kk, rv r, .unset] [(.int kk), (.ref r)]) := fun tt kt => go596 tt (by
      refine XS.astoreN X592.here hx rfl (hb hby d19_6) rfl rfl (l' := #[rv g, iv (1 : Int32), iv kk, rv r, .unset]) rfl ?_
      refine XS.aloadN X592.here hx rfl (hb hby d19_7) rfl rfl ?_
      refine XS.ifnonnullYes X592.here hx rfl (pc0 := 8) (pc' := 15) rfl (hb hby d19_8) rfl (by decide) (by decide) ?_
      refine XS.aloadN X592.here hx rfl (hb hby d19_15) rfl rfl ?_
      refine XS.iloadN X592.here hx rfl (hb hby d19_16) rfl ?_
      exact kt)
  obtain ⟨cl598, Ar598, q598, S598, M598, H598, G598⟩ := id Vr
  have hin598 : ¬ (kk < 0 ∨ cl598.slots.size ≤ (kk).toNatClampNeg) := inb_of S598 (own_in4 hk)
  have hat598 : cl598.slots[(kk).toNatClampNeg]? = some (.ref e1) := H598.at hin598 hel
  have go599 : own_S p e below ST T592 (mkF m 18 #[rv g, iv (1 : Int32), iv kk, rv r, .unset] [(.ref e1)]) := fun tt kt => go597 tt (by
      refine X592.aaload hx (j := kk) (v := (.ref e1)) (by rw [e592]; exact Ar598.1) (State.isArrayOf_alike hZ.alike Ar598.2.1) rfl Ar598.2.2 hin598 hat598 (g := (mkF m 17 #[rv g, iv (1 : Int32), iv kk, rv r, .unset] [(.int kk), (.ref r)])) rfl rfl (hb hby d19_17) _ ?_
      exact kt)
  have go600 : own_S p e below ST T592 (mkF m 33 #[rv g, iv (1 : Int32), iv kk, rv r, rv e1] [(.ref e1)]) := fun tt kt => go599 tt (by
      refine XS.astore X592.here hx rfl (hb hby d19_18) rfl rfl (l' := #[rv g, iv (1 : Int32), iv kk, rv r, rv e1]) rfl ?_
      refine XS.aload X592.here hx rfl (hb hby d19_20) rfl rfl ?_
      refine XS.ifnonnullYes X592.here hx rfl (pc0 := 22) (pc' := 31) rfl (hb hby d19_22) rfl (by decide) (by decide) ?_
      refine XS.aload X592.here hx rfl (hb hby d19_31) rfl rfl ?_
      exact kt)
  obtain ⟨fs, hr, hrun, hended, hW, hsame⟩ := X592.leave (v := some (.ref e1)) (fun h => by rw [Bd.returns] at h; cases h) (hlocks := by first | exact BodyLoose.notSynchronized Bd | exact Body.notSynchronized Bd)
  refine ⟨_, _, pre0 _ (go600 _ ?_), hrun, hended, _, _, rfl, ?_, ⟨_, rfl⟩, hW, hsame.mono (by decide) (by decide)⟩
  · exact retOut X592 hx Bd.returns rfl (Or.inr (Or.inr (Or.inr (Or.inr ⟨rfl, rfl, rfl⟩)))) (hb hby d19_33) hr
  · show Q19m1rr Z g kk bc kc vo nc res r kr Ls e1 h0 n0 _ T592.heap _
    rw [e592]
    exact ⟨(by rw [hres]), N0, rfl⟩
def QCH (Z : State) (nc : Addr) (res : Value) (h0 : Heap) (n0 : Nat) (v : Option Value) (h : Heap) (L : List Loc) : Prop := v = some res ∧ Fr n0 L ∧ h = h0
theorem own_els {Z : State} {h : Heap} {r : Addr} {kr : ClassId} {L : List Value} {k : Int32} (V : Arv Z h r kr (.object "java/util/BitSet") (4 : Int32) L .null) (hk : k = 0 ∨ k = 1 ∨ k = 2 ∨ k = 3) : (L.getD k.toNatClampNeg .null).isRef = true := by
  obtain ⟨cl, Ar, q, S, M, H, G⟩ := V
  exact fit_R (G _ (by rw [S]; rcases hk with rfl | rfl | rfl | rfl <;> decide)) rfl
set_option maxRecDepth 65536 in
set_option maxHeartbeats 40000000 in
theorem rmCH (l : Launch) (Z : State) (a0 : Array Value) (hw : ∀ d ∈ tables_1, d.before a0 Z = true) (ws : List Jvm.Cond) (g : Addr) (m' kk : Int32) (L0 L1 : List Value) (nc : Addr) (h0 : Heap) (n0 : Nat) (Z0 : n0 ≤ h0.size) (GRh : own_GR Z h0 n0 g L0 L1) (hm : m' = 0 ∨ m' = 1) (hk : kk = 0 ∨ kk = 1 ∨ kk = 2 ∨ kk = 3) (SN : Sta Z Z.heap "com/example/brancher/brancher/service/Group" "NO_CHOICES" "Ljava/util/BitSet;" (.ref nc)) (OL : Old Z n0 h0) :
    MetFree l (⟨"com/example/brancher/brancher/service/Group", "choices", "(II)Ljava/util/BitSet;"⟩ : MethodName) (head1 (Jvm.Cond.code (⟨"com/example/brancher/brancher/service/Group", "choices", "(II)Ljava/util/BitSet;"⟩ : MethodName) prog_74_method_4_code 5 (some (.object "java/util/BitSet")) :: ws) ({ frames := 0, cells := 0, slots := 0, locals := 0 } : Room)) (fun aa UU => aa = #[(.ref g), (.int m'), (.int kk)] ∧ Z.Warmed39 UU.vm ∧ UU.heap = h0) (fun _ _ _ _ _ => True) (fun _ UU oo UU' => ∃ vv LL, oo = .returned vv ∧ QCH Z nc (own_or nc ((if m' = 0 then L0 else L1).getD kk.toNatClampNeg .null)) h0 n0 vv UU'.heap LL ∧ FrameEnd UU oo UU' LL ({ frames := 0, cells := 0, slots := 0, locals := 0 } : Room).cells ({ frames := 0, cells := 0, slots := 0, locals := 0 } : Room).slots) := by
  obtain ⟨bc, kc, v0, v1, Fc, Vc, OA, R0, R1, nv, gb, ng, l0, l1⟩ := GRh
  rcases hm with rfl | rfl
  · rw [own_iff0]
    rcases R0 with ⟨rfl, rfl⟩ | ⟨r, kr, rfl, Vr, Or, lr, gr, n1, n2⟩
    · exact rm19m0n l Z a0 hw ws g kk bc kc v1 nc _ h0 n0 Z0 Fc Vc hk SN OL (own_orn nc (own_getn hk))
    · rcases ref_cases (own_els Vr hk) with e | ⟨a, e⟩
      · exact rm19m0rn l Z a0 hw ws g kk bc kc v1 nc _ r kr L0 h0 n0 Z0 Fc Vc hk SN OL (own_orn nc e) Vr e
      · exact rm19m0rr l Z a0 hw ws g kk bc kc v1 nc _ r kr L0 a h0 n0 Z0 Fc Vc hk SN OL (own_orr nc e) Vr e
  · rw [own_iff1]
    rcases R1 with ⟨rfl, rfl⟩ | ⟨r, kr, rfl, Vr, Or, lr, gr, n1, n2⟩
    · exact rm19m1n l Z a0 hw ws g kk bc kc v0 nc _ h0 n0 Z0 Fc Vc hk SN OL (own_orn nc (own_getn hk))
    · rcases ref_cases (own_els Vr hk) with e | ⟨a, e⟩
      · exact rm19m1rn l Z a0 hw ws g kk bc kc v0 nc _ r kr L1 h0 n0 Z0 Fc Vc hk SN OL (own_orn nc e) Vr e
      · exact rm19m1rr l Z a0 hw ws g kk bc kc v0 nc _ r kr L1 a h0 n0 Z0 Fc Vc hk SN OL (own_orr nc e) Vr e
theorem d20_0 : decode prog_74_method_5_code 0 = .ok (.aload_n 0, 1) := by decide +kernel
theorem d20_1 : decode prog_74_method_5_code 1 = .ok (.getfield 32, 3) := by decide +kernel
theorem d20_4 : decode prog_74_method_5_code 4 = .ok (.iload_n 1, 1) := by decide +kernel
theorem d20_5 : decode prog_74_method_5_code 5 = .ok (.aaload, 1) := by decide +kernel
theorem d20_6 : decode prog_74_method_5_code 6 = .ok (.ifnonnull 21, 3) := by decide +kernel
theorem d20_9 : decode prog_74_method_5_code 9 = .ok (.aload_n 3, 1) := by decide +kernel
theorem d20_10 : decode prog_74_method_5_code 10 = .ok (.invokevirtual 72, 3) := by decide +kernel
theorem pd269 : parseMethodDescriptor "()Z" = some ⟨[], some .boolean⟩ := by decide +kernel
theorem d20_13 : decode prog_74_method_5_code 13 = .ok (.ifCond .ne 14, 3) := by decide +kernel
theorem d20_27 : decode prog_74_method_5_code 27 = .ok (.aload_n 0, 1) := by decide +kernel
theorem d20_28 : decode prog_74_method_5_code 28 = .ok (.getfield 32, 3) := by decide +kernel
theorem d20_31 : decode prog_74_method_5_code 31 = .ok (.iload_n 1, 1) := by decide +kernel
theorem d20_32 : decode prog_74_method_5_code 32 = .ok (.aaload, 1) := by decide +kernel
theorem d20_33 : decode prog_74_method_5_code 33 = .ok (.ifnull 23, 3) := by decide +kernel
theorem d20_56 : decode prog_74_method_5_code 56 = .ok (.return_, 1) := by decide +kernel
theorem ef20m0nu0 (m : MethodId) (x0 : Addr) (x1 : Int32) (x2 : Int32) (x3 : Addr) (x4 : Int32) : entryFrame m #[(.ref x0), (.int x1), (.int x2), (.ref x3), (.int x4)] 5 = mkF m 0 #[.val (.ref x0), .val (.int x1), .val (.int x2), .val (.ref x3), .val (.int x4)] [] := by first | (simp [entryFrame, mkF, argsToLocals, Value.category]; done) | rfl
def Q20m0nu0 (Z : State) (g : Addr) (x1 : Addr) (x2 : Addr) (bc : Addr) (kk : Int32) (kc : ClassId) (vo : Value) (Lm : List Value) (Lo : List Value) (u2 : Value) (M0 : List Value) (M1 : List Value) (h0 : Heap) (n0 : Nat) (v : Option Value) (h : Heap) (L : List Loc) : Prop := v = none ∧ Fr n0 L ∧ Old Z n0 h ∧ own_GR Z h n0 g M0 M1 ∧ Exa Z h x2 "java/util/BitSet" ∧ Fld Z h x2 "java/util/BitSet" "wordsInUse" "I" u2 ∧ Exa Z h g "com/example/brancher/brancher/service/Group" ∧ h0.size ≤ h.size
set_option maxRecDepth 65536 in
set_option maxHeartbeats 40000000 in
theorem rm20m0nu0 (l : Launch) (Z : State) (a0 : Array Value) (hw : ∀ d ∈ tables_1, d.before a0 Z = true) (ws : List Jvm.Cond) (g : Addr) (x1 : Addr) (x2 : Addr) (bc : Addr) (kk : Int32) (kc : ClassId) (vo : Value) (Lm : List Value) (Lo : List Value) (u2 : Value) (M0 : List Value) (M1 : List Value) (h0 : Heap) (n0 : Nat) (Z0 : n0 ≤ h0.size) (Fc : Fld Z h0 g "com/example/brancher/brancher/service/Group" "choices" "[[Ljava/util/BitSet;" (.ref bc)) (Vc : Arv Z h0 bc kc (.array (.object "java/util/BitSet")) (2 : Int32) [.null, vo] .null) (OA : OvrA Z kc (.object "java/util/BitSet") "[Ljava/util/BitSet;") (hk : kk = 0 ∨ kk = 1 ∨ kk = 2 ∨ kk = 3) (OL : Old Z n0 h0) (Eg : Exa Z h0 g "com/example/brancher/brancher/service/Group") (gb : n0 ≤ bc) (ng : g ≠ bc) (E1 : Exa Z h0 x1 "java/util/BitSet") (F1 : Fld Z h0 x1 "java/util/BitSet" "wordsInUse" "I" (.int (0 : Int32))) (E2 : Exa Z h0 x2 "java/util/BitSet") (F2 : Fld Z h0 x2 "java/util/BitSet" "wordsInUse" "I" u2) (Ro : own_row Z h0 n0 g bc vo Lo) (lo : Lo.length = 4) (hMm : M0 = Lm.set (kk).toNatClampNeg .null) (hMo : M1 = Lo) (hLm : Lm = [.null, .null, .null, .null]) :
    MetFree l (⟨"com/example/brancher/brancher/service/Group", "rest", "(IILjava/util/BitSet;I)V"⟩ : MethodName) (head1 (Jvm.Cond.code (⟨"com/example/brancher/brancher/service/Group", "rest", "(IILjava/util/BitSet;I)V"⟩ : MethodName) prog_74_method_5_code 5 none :: ws) ({ frames := 1, cells := 1, slots := 4, locals := 14 } : Room)) (fun aa UU => aa = #[(.ref g), (.int (0 : Int32)), (.int kk), (.ref x1), (.int (4 : Int32))] ∧ Z.Warmed39 UU.vm ∧ UU.heap = h0) (fun _ _ _ _ _ => True) (fun _ UU oo UU' => ∃ vv LL, oo = .returned vv ∧ Q20m0nu0 Z g x1 x2 bc kk kc vo Lm Lo u2 M0 M1 h0 n0 vv UU'.heap LL ∧ FrameEnd UU oo UU' LL ({ frames := 1, cells := 1, slots := 4, locals := 14 } : Room).cells ({ frames := 1, cells := 1, slots := 4, locals := 14 } : Room).slots) := by
  have W : ∀ {d : Jvm.Cond} (i : Nat), tables_1[i]? = some d → d.before a0 Z = true := fun i h => hw _ (List.mem_of_getElem? h)
  refine MetFree.of_bodySF (plainFor_of_name pn198) hisR ?_
  intro p e s m args below meth c s₁ Bd hml0 hP hK
  obtain ⟨rfl, hZ, hh⟩ := hP
  have hx := Bd.exec
  have hby := Bd.bytes
  have hml : c.maxLocals = 5 := hml0
  have hown : s.vm.findClass "com/example/brancher/brancher/service/Group" = some m.cls := findClass_of_methodNamed Bd.named
  have hnm := (name_of_methodNamed Bd.named Bd.method).1
  have X0 : Stand p l e ({ frames := 1, cells := 1, slots := 4, locals := 14 } : Room) s m #[(.ref g), (.int (0 : Int32)), (.int kk), (.ref x1), (.int (4 : Int32))] below meth c s₁ [] 0 0 := Stand.of_body Bd
  have e0 : s₁.heap = h0 := by rw [← hh, Bd.state]; rfl
  have N0 := Fr.nil n0
  have pre0 : ∀ tt, Steps p.tables e below (s₁.setTop (mkF m 0 #[rv g, iv (0 : Int32), iv kk, rv x1, iv (4 : Int32)] [])) tt → Steps p.tables e below (s₁.setTop (entryFrame m #[(.ref g), (.int (0 : Int32)), (.int kk), (.ref x1), (.int (4 : Int32))] 5)) tt := fun tt kt => castTop (ef20m0nu0 m g (0 : Int32) kk x1 (4 : Int32)) kt
  obtain ⟨ST, hST⟩ : ∃ z : State, z = s₁.setTop (mkF m 0 #[rv g, iv (0 : Int32), iv kk, rv x1, iv (4 : Int32)] []) := ⟨_, rfl⟩
  rw [← hST] at pre0
  have nx1_bc := (own_arvne E1 (W 1 rfl) Vc)
  have nx2_bc := (own_arvne E2 (W 1 rfl) Vc)
  have KC0 : Keep h0 h0 [] := Keep.refl h0 []
  have go601 : own_S p e below ST s₁ (mkF m 1 #[rv g, iv (0 : Int32), iv kk, rv x1, iv (4 : Int32)] [(.ref g)]) := fun tt kt => (by
      rw [hST]
      show Steps p.tables e below (s₁.setTop (mkF m 0 #[rv g, iv (0 : Int32), iv kk, rv x1, iv (4 : Int32)] [])) _
      refine XS.aloadN X0.here hx rfl (hb hby d20_0) rfl rfl ?_
      exact kt)
  obtain ⟨T602, X602, e602, st602⟩ := getF X0 hx hZ hown (host := "") (Or.inl (W 88 rfl)) Via.refl e0 Fc (g := (mkF m 1 #[rv g, iv (0 : Int32), iv kk, rv x1, iv (4 : Int32)] [(.ref g)])) rfl rfl (hb hby d20_1)
  have go603 : own_S p e below ST T602 (mkF m 4 #[rv g, iv (0 : Int32), iv kk, rv x1, iv (4 : Int32)] [(.ref bc)]) := fun tt kt => go601 tt (st602 _ kt)
  have go604 : own_S p e below ST T602 (mkF m 5 #[rv g, iv (0 : Int32), iv kk, rv x1, iv (4 : Int32)] [(.int (0 : Int32)), (.ref bc)]) := fun tt kt => go603 tt (by
      refine XS.iloadN X602.here hx rfl (hb hby d20_4) rfl ?_
      exact kt)
  obtain ⟨cl605, Ar605, q605, S605, M605, H605, G605⟩ := id Vc
  have hin605 : ¬ ((0 : Int32) < 0 ∨ cl605.slots.size ≤ ((0 : Int32)).toNatClampNeg) := inb_of S605 ⟨by decide, by decide⟩
  have hat605 : cl605.slots[((0 : Int32)).toNatClampNeg]? = some .null := H605.at hin605 rfl
  have go606 : own_S p e below ST T602 (mkF m 6 #[rv g, iv (0 : Int32), iv kk, rv x1, iv (4 : Int32)] [.null]) := fun tt kt => go604 tt (by
      refine X602.aaload hx (j := (0 : Int32)) (v := .null) (by rw [e602]; exact Ar605.1) (State.isArrayOf_alike hZ.alike Ar605.2.1) rfl Ar605.2.2 hin605 hat605 (g := (mkF m 5 #[rv g, iv (0 : Int32), iv kk, rv x1, iv (4 : Int32)] [(.int (0 : Int32)), (.ref bc)])) rfl rfl (hb hby d20_5) _ ?_
      exact kt)
  have go607 : own_S p e below ST T602 (mkF m 10 #[rv g, iv (0 : Int32), iv kk, rv x1, iv (4 : Int32)] [(.ref x1)]) := fun tt kt => go606 tt (by
      refine XS.ifnonnullNo X602.here hx rfl (hb hby d20_6) rfl ?_
      refine XS.aloadN X602.here hx rfl (hb hby d20_9) rfl rfl ?_
      exact kt)
  obtain ⟨cq608, kq608, q608a, q608b, q608c⟩ := isOf hZ e602 E1
  obtain ⟨_, _, ⟨T608, L608, k608, n608⟩, -, X608, ⟨Lc608, hQ608, l608, y608, z608⟩, st608⟩ := X602.virtualBack hx (y := (⟨"java/util/BitSet", "isEmpty", "()Z"⟩ : MethodName)) (z := (⟨"java/util/BitSet", "isEmpty", "()Z"⟩ : MethodName)) hown (mvT hZ (W 157 rfl)) (mvT hZ (W 158 rfl)) (notFace_of_selects (args := #[]) (mvT hZ (W 160 rfl))) (mvT hZ (W 160 rfl)) (mvT hZ (W 159 rfl)) (by decide) (backOf (W := 0) (rm21u0 l Z a0 hw [] x1 h0 n0 Z0 F1) hZ (W 161 rfl) (W 2 rfl) (by decide) (by decide)) q608a q608c (g := (mkF m 10 #[rv g, iv (0 : Int32), iv kk, rv x1, iv (4 : Int32)] [(.ref x1)])) rfl (by rw [hml]; rfl) (Steps.refl _) (argsL := []) (rest := []) (lenOf pd269 rfl) rfl (by show 2 * 0 + _ ≤ _; exact Nat.le_of_eq rfl) (hb hby d20_10) (fun _ _ => ⟨rfl, e602, (by decide : 0 + 0 ≤ _), (by decide : 0 + 0 ≤ _)⟩)
  dsimp only [Pt.U, Pt.locs, Pt.cells, Pt.slots] at X608 l608 y608 z608 st608 hQ608
  subst l608 y608 z608
  obtain ⟨rfl, Nq608, eh608⟩ := hQ608
  have N608 := Fr.app N0 Nq608
  have go609 : own_S p e below ST T608 (mkF m 13 #[rv g, iv (0 : Int32), iv kk, rv x1, iv (4 : Int32)] [(.int (1 : Int32))]) := fun tt kt => go607 tt (st608.trans kt)
  have go610 : own_S p e below ST T608 (mkF m 28 #[rv g, iv (0 : Int32), iv kk, rv x1, iv (4 : Int32)] [(.ref g)]) := fun tt kt => go609 tt (by
      refine XS.ifYes X608.here hx rfl (pc0 := 13) (pc' := 27) rfl (hb hby d20_13) rfl ((if0 _ _).trans (feq (by decide : ¬ ((1 : Int32) = (0 : Int32)))).2) (by decide) (by decide) ?_
      refine XS.aloadN X608.here hx rfl (hb hby d20_27) rfl rfl ?_
      exact kt)
  obtain ⟨T611, X611, e611, st611⟩ := getF X608 hx hZ hown (host := "") (Or.inl (W 88 rfl)) Via.refl eh608 Fc (g := (mkF m 28 #[rv g, iv (0 : Int32), iv kk, rv x1, iv (4 : Int32)] [(.ref g)])) rfl rfl (hb hby d20_28)
  have go612 : own_S p e below ST T611 (mkF m 31 #[rv g, iv (0 : Int32), iv kk, rv x1, iv (4 : Int32)] [(.ref bc)]) := fun tt kt => go610 tt (st611 _ kt)
  have go613 : own_S p e below ST T611 (mkF m 32 #[rv g, iv (0 : Int32), iv kk, rv x1, iv (4 : Int32)] [(.int (0 : Int32)), (.ref bc)]) := fun tt kt => go612 tt (by
      refine XS.iloadN X611.here hx rfl (hb hby d20_31) rfl ?_
      exact kt)
  obtain ⟨cl614, Ar614, q614, S614, M614, H614, G614⟩ := id Vc
  have hin614 : ¬ ((0 : Int32) < 0 ∨ cl614.slots.size ≤ ((0 : Int32)).toNatClampNeg) := inb_of S614 ⟨by decide, by decide⟩
  have hat614 : cl614.slots[((0 : Int32)).toNatClampNeg]? = some .null := H614.at hin614 rfl
  have go615 : own_S p e below ST T611 (mkF m 33 #[rv g, iv (0 : Int32), iv kk, rv x1, iv (4 : Int32)] [.null]) := fun tt kt => go613 tt (by
      refine X611.aaload hx (j := (0 : Int32)) (v := .null) (by rw [e611]; exact Ar614.1) (State.isArrayOf_alike hZ.alike Ar614.2.1) rfl Ar614.2.2 hin614 hat614 (g := (mkF m 32 #[rv g, iv (0 : Int32), iv kk, rv x1, iv (4 : Int32)] [(.int (0 : Int32)), (.ref bc)])) rfl rfl (hb hby d20_32) _ ?_
      exact kt)
  have go616 : own_S p e below ST T611 (mkF m 56 #[rv g, iv (0 : Int32), iv kk, rv x1, iv (4 : Int32)] []) := fun tt kt => go615 tt (by
      refine XS.ifnullYes X611.here hx rfl (pc0 := 33) (pc' := 56) rfl (hb hby d20_33) rfl (by decide) (by decide) ?_
      exact kt)
  obtain ⟨fs, hr, hrun, hended, hW, hsame⟩ := X611.leave (v := none) (fun _ => rfl) (hlocks := by first | exact BodyLoose.notSynchronized Bd | exact Body.notSynchronized Bd)
  refine ⟨_, _, pre0 _ (go616 _ ?_), hrun, hended, _, _, rfl, ?_, ⟨_, rfl⟩, hW, hsame.mono (by decide) (by decide)⟩
  · exact X611.returnOut hx Bd.returns (hb hby d20_56) hr
  · show Q20m0nu0 Z g x1 x2 bc kk kc vo Lm Lo u2 M0 M1 h0 n0 _ T611.heap _
    rw [e611]
    exact ⟨rfl, N608, OL, ⟨bc, kc, .null, vo, Fc, Vc, OA, Or.inl ⟨rfl, (by rw [hMm, hLm]; exact own_setn hk)⟩, (by rw [hMo]; exact Ro), Or.inl rfl, gb, ng, (by rw [hMm, List.length_set, hLm]; rfl), (by rw [hMo]; exact lo)⟩, E2, F2, Eg, KC0.1⟩
theorem d20_16 : decode prog_74_method_5_code 16 = .ok (.aload_n 0, 1) := by decide +kernel
theorem d20_17 : decode prog_74_method_5_code 17 = .ok (.getfield 32, 3) := by decide +kernel
theorem d20_20 : decode prog_74_method_5_code 20 = .ok (.iload_n 1, 1) := by decide +kernel
theorem d20_21 : decode prog_74_method_5_code 21 = .ok (.iload 4, 2) := by decide +kernel
theorem d20_23 : decode prog_74_method_5_code 23 = .ok (.anewarray 73, 3) := by decide +kernel
theorem d20_26 : decode prog_74_method_5_code 26 = .ok (.aastore, 1) := by decide +kernel
theorem d20_36 : decode prog_74_method_5_code 36 = .ok (.aload_n 0, 1) := by decide +kernel
theorem d20_37 : decode prog_74_method_5_code 37 = .ok (.getfield 32, 3) := by decide +kernel
theorem d20_40 : decode prog_74_method_5_code 40 = .ok (.iload_n 1, 1) := by decide +kernel
theorem d20_41 : decode prog_74_method_5_code 41 = .ok (.aaload, 1) := by decide +kernel
theorem d20_42 : decode prog_74_method_5_code 42 = .ok (.iload_n 2, 1) := by decide +kernel
theorem d20_43 : decode prog_74_method_5_code 43 = .ok (.aload_n 3, 1) := by decide +kernel
theorem d20_44 : decode prog_74_method_5_code 44 = .ok (.invokevirtual 72, 3) := by decide +kernel
theorem d20_47 : decode prog_74_method_5_code 47 = .ok (.ifCond .eq 7, 3) := by decide +kernel
theorem d20_54 : decode prog_74_method_5_code 54 = .ok (.aload_n 3, 1) := by decide +kernel
theorem d20_55 : decode prog_74_method_5_code 55 = .ok (.aastore, 1) := by decide +kernel
theorem ef20m0nu1 (m : MethodId) (x0 : Addr) (x1 : Int32) (x2 : Int32) (x3 : Addr) (x4 : Int32) : entryFrame m #[(.ref x0), (.int x1), (.int x2), (.ref x3), (.int x4)] 5 = mkF m 0 #[.val (.ref x0), .val (.int x1), .val (.int x2), .val (.ref x3), .val (.int x4)] [] := by first | (simp [entryFrame, mkF, argsToLocals, Value.category]; done) | rfl
def Q20m0nu1 (Z : State) (g : Addr) (x1 : Addr) (x2 : Addr) (bc : Addr) (kk : Int32) (kc : ClassId) (vo : Value) (Lm : List Value) (Lo : List Value) (u2 : Value) (M0 : List Value) (M1 : List Value) (h0 : Heap) (n0 : Nat) (v : Option Value) (h : Heap) (L : List Loc) : Prop := v = none ∧ Fr n0 L ∧ Old Z n0 h ∧ own_GR Z h n0 g M0 M1 ∧ Exa Z h x2 "java/util/BitSet" ∧ Fld Z h x2 "java/util/BitSet" "wordsInUse" "I" u2 ∧ Exa Z h g "com/example/brancher/brancher/service/Group" ∧ h0.size ≤ h.size
set_option maxRecDepth 65536 in
set_option maxHeartbeats 40000000 in
theorem rm20m0nu1 (l : Launch) (Z : State) (a0 : Array Value) (hw : ∀ d ∈ tables_1, d.before a0 Z = true) (ws : List Jvm.Cond) (g : Addr) (x1 : Addr) (x2 : Addr) (bc : Addr) (kk : Int32) (kc : ClassId) (vo : Value) (Lm : List Value) (Lo : List Value) (u2 : Value) (M0 : List Value) (M1 : List Value) (h0 : Heap) (n0 : Nat) (Z0 : n0 ≤ h0.size) (Fc : Fld Z h0 g "com/example/brancher/brancher/service/Group" "choices" "[[Ljava/util/BitSet;" (.ref bc)) (Vc : Arv Z h0 bc kc (.array (.object "java/util/BitSet")) (2 : Int32) [.null, vo] .null) (OA : OvrA Z kc (.object "java/util/BitSet") "[Ljava/util/BitSet;") (hk : kk = 0 ∨ kk = 1 ∨ kk = 2 ∨ kk = 3) (OL : Old Z n0 h0) (Eg : Exa Z h0 g "com/example/brancher/brancher/service/Group") (gb : n0 ≤ bc) (ng : g ≠ bc) (E1 : Exa Z h0 x1 "java/util/BitSet") (F1 : Fld Z h0 x1 "java/util/BitSet" "wordsInUse" "I" (.int (1 : Int32))) (E2 : Exa Z h0 x2 "java/util/BitSet") (F2 : Fld Z h0 x2 "java/util/BitSet" "wordsInUse" "I" u2) (Ro : own_row Z h0 n0 g bc vo Lo) (lo : Lo.length = 4) (hMm : M0 = Lm.set (kk).toNatClampNeg (.ref x1)) (hMo : M1 = Lo) (hLm : Lm = [.null, .null, .null, .null]) :
    MetFree l (⟨"com/example/brancher/brancher/service/Group", "rest", "(IILjava/util/BitSet;I)V"⟩ : MethodName) (head1 (Jvm.Cond.code (⟨"com/example/brancher/brancher/service/Group", "rest", "(IILjava/util/BitSet;I)V"⟩ : MethodName) prog_74_method_5_code 5 none :: ws) ({ frames := 1, cells := 1, slots := 4, locals := 14 } : Room)) (fun aa UU => aa = #[(.ref g), (.int (0 : Int32)), (.int kk), (.ref x1), (.int (4 : Int32))] ∧ Z.Warmed39 UU.vm ∧ UU.heap = h0) (fun _ _ _ _ _ => True) (fun _ UU oo UU' => ∃ vv LL, oo = .returned vv ∧ Q20m0nu1 Z g x1 x2 bc kk kc vo Lm Lo u2 M0 M1 h0 n0 vv UU'.heap LL ∧ FrameEnd UU oo UU' LL ({ frames := 1, cells := 1, slots := 4, locals := 14 } : Room).cells ({ frames := 1, cells := 1, slots := 4, locals := 14 } : Room).slots) := by
  have W : ∀ {d : Jvm.Cond} (i : Nat), tables_1[i]? = some d → d.before a0 Z = true := fun i h => hw _ (List.mem_of_getElem? h)
  refine MetFree.of_bodySF (plainFor_of_name pn198) hisR ?_
  intro p e s m args below meth c s₁ Bd hml0 hP hK
  obtain ⟨rfl, hZ, hh⟩ := hP
  have hx := Bd.exec
  have hby := Bd.bytes
  have hml : c.maxLocals = 5 := hml0
  have hown : s.vm.findClass "com/example/brancher/brancher/service/Group" = some m.cls := findClass_of_methodNamed Bd.named
  have hnm := (name_of_methodNamed Bd.named Bd.method).1
  have X0 : Stand p l e ({ frames := 1, cells := 1, slots := 4, locals := 14 } : Room) s m #[(.ref g), (.int (0 : Int32)), (.int kk), (.ref x1), (.int (4 : Int32))] below meth c s₁ [] 0 0 := Stand.of_body Bd
  have e0 : s₁.heap = h0 := by rw [← hh, Bd.state]; rfl
  have N0 := Fr.nil n0
  have pre0 : ∀ tt, Steps p.tables e below (s₁.setTop (mkF m 0 #[rv g, iv (0 : Int32), iv kk, rv x1, iv (4 : Int32)] [])) tt → Steps p.tables e below (s₁.setTop (entryFrame m #[(.ref g), (.int (0 : Int32)), (.int kk), (.ref x1), (.int (4 : Int32))] 5)) tt := fun tt kt => castTop (ef20m0nu1 m g (0 : Int32) kk x1 (4 : Int32)) kt
  obtain ⟨ST, hST⟩ : ∃ z : State, z = s₁.setTop (mkF m 0 #[rv g, iv (0 : Int32), iv kk, rv x1, iv (4 : Int32)] []) := ⟨_, rfl⟩
  rw [← hST] at pre0
  have nx1_bc := (own_arvne E1 (W 1 rfl) Vc)
  have nx2_bc := (own_arvne E2 (W 1 rfl) Vc)
  have KC0 : Keep h0 h0 [bc] := Keep.refl h0 [bc]
  have go617 : own_S p e below ST s₁ (mkF m 1 #[rv g, iv (0 : Int32), iv kk, rv x1, iv (4 : Int32)] [(.ref g)]) := fun tt kt => (by
      rw [hST]
      show Steps p.tables e below (s₁.setTop (mkF m 0 #[rv g, iv (0 : Int32), iv kk, rv x1, iv (4 : Int32)] [])) _
      refine XS.aloadN X0.here hx rfl (hb hby d20_0) rfl rfl ?_
      exact kt)
  obtain ⟨T618, X618, e618, st618⟩ := getF X0 hx hZ hown (host := "") (Or.inl (W 88 rfl)) Via.refl e0 Fc (g := (mkF m 1 #[rv g, iv (0 : Int32), iv kk, rv x1, iv (4 : Int32)] [(.ref g)])) rfl rfl (hb hby d20_1)
  have go619 : own_S p e below ST T618 (mkF m 4 #[rv g, iv (0 : Int32), iv kk, rv x1, iv (4 : Int32)] [(.ref bc)]) := fun tt kt => go617 tt (st618 _ kt)
  have go620 : own_S p e below ST T618 (mkF m 5 #[rv g, iv (0 : Int32), iv kk, rv x1, iv (4 : Int32)] [(.int (0 : Int32)), (.ref bc)]) := fun tt kt => go619 tt (by
      refine XS.iloadN X618.here hx rfl (hb hby d20_4) rfl ?_
      exact kt)
  obtain ⟨cl621, Ar621, q621, S621, M621, H621, G621⟩ := id Vc
  have hin621 : ¬ ((0 : Int32) < 0 ∨ cl621.slots.size ≤ ((0 : Int32)).toNatClampNeg) := inb_of S621 ⟨by decide, by decide⟩
  have hat621 : cl621.slots[((0 : Int32)).toNatClampNeg]? = some .null := H621.at hin621 rfl
  have go622 : own_S p e below ST T618 (mkF m 6 #[rv g, iv (0 : Int32), iv kk, rv x1, iv (4 : Int32)] [.null]) := fun tt kt => go620 tt (by
      refine X618.aaload hx (j := (0 : Int32)) (v := .null) (by rw [e618]; exact Ar621.1) (State.isArrayOf_alike hZ.alike Ar621.2.1) rfl Ar621.2.2 hin621 hat621 (g := (mkF m 5 #[rv g, iv (0 : Int32), iv kk, rv x1, iv (4 : Int32)] [(.int (0 : Int32)), (.ref bc)])) rfl rfl (hb hby d20_5) _ ?_
      exact kt)
  have go623 : own_S p e below ST T618 (mkF m 10 #[rv g, iv (0 : Int32), iv kk, rv x1, iv (4 : Int32)] [(.ref x1)]) := fun tt kt => go622 tt (by
      refine XS.ifnonnullNo X618.here hx rfl (hb hby d20_6) rfl ?_
      refine XS.aloadN X618.here hx rfl (hb hby d20_9) rfl rfl ?_
      exact kt)
  obtain ⟨cq624, kq624, q624a, q624b, q624c⟩ := isOf hZ e618 E1
  obtain ⟨_, _, ⟨T624, L624, k624, n624⟩, -, X624, ⟨Lc624, hQ624, l624, y624, z624⟩, st624⟩ := X618.virtualBack hx (y := (⟨"java/util/BitSet", "isEmpty", "()Z"⟩ : MethodName)) (z := (⟨"java/util/BitSet", "isEmpty", "()Z"⟩ : MethodName)) hown (mvT hZ (W 157 rfl)) (mvT hZ (W 158 rfl)) (notFace_of_selects (args := #[]) (mvT hZ (W 160 rfl))) (mvT hZ (W 160 rfl)) (mvT hZ (W 159 rfl)) (by decide) (backOf (W := 0) (rm21u1 l Z a0 hw [] x1 h0 n0 Z0 F1) hZ (W 161 rfl) (W 2 rfl) (by decide) (by decide)) q624a q624c (g := (mkF m 10 #[rv g, iv (0 : Int32), iv kk, rv x1, iv (4 : Int32)] [(.ref x1)])) rfl (by rw [hml]; rfl) (Steps.refl _) (argsL := []) (rest := []) (lenOf pd269 rfl) rfl (by show 2 * 0 + _ ≤ _; exact Nat.le_of_eq rfl) (hb hby d20_10) (fun _ _ => ⟨rfl, e618, (by decide : 0 + 0 ≤ _), (by decide : 0 + 0 ≤ _)⟩)
  dsimp only [Pt.U, Pt.locs, Pt.cells, Pt.slots] at X624 l624 y624 z624 st624 hQ624
  subst l624 y624 z624
  obtain ⟨rfl, Nq624, eh624⟩ := hQ624
  have N624 := Fr.app N0 Nq624
  have go625 : own_S p e below ST T624 (mkF m 13 #[rv g, iv (0 : Int32), iv kk, rv x1, iv (4 : Int32)] [(.int (0 : Int32))]) := fun tt kt => go623 tt (st624.trans kt)
  have go626 : own_S p e below ST T624 (mkF m 17 #[rv g, iv (0 : Int32), iv kk, rv x1, iv (4 : Int32)] [(.ref g)]) := fun tt kt => go625 tt (by
      refine XS.ifNo X624.here hx rfl (hb hby d20_13) rfl ((if0 _ _).trans (teq (by decide : (0 : Int32) = (0 : Int32))).2) ?_
      refine XS.aloadN X624.here hx rfl (hb hby d20_16) rfl rfl ?_
      exact kt)
  obtain ⟨T627, X627, e627, st627⟩ := getF X624 hx hZ hown (host := "") (Or.inl (W 88 rfl)) Via.refl eh624 Fc (g := (mkF m 17 #[rv g, iv (0 : Int32), iv kk, rv x1, iv (4 : Int32)] [(.ref g)])) rfl rfl (hb hby d20_17)
  have go628 : own_S p e below ST T627 (mkF m 20 #[rv g, iv (0 : Int32), iv kk, rv x1, iv (4 : Int32)] [(.ref bc)]) := fun tt kt => go626 tt (st627 _ kt)
  have go629 : own_S p e below ST T627 (mkF m 23 #[rv g, iv (0 : Int32), iv kk, rv x1, iv (4 : Int32)] [(.int (4 : Int32)), (.int (0 : Int32)), (.ref bc)]) := fun tt kt => go628 tt (by
      refine XS.iloadN X627.here hx rfl (hb hby d20_20) rfl ?_
      refine XS.iload X627.here hx rfl (hb hby d20_21) rfl ?_
      exact kt)
  obtain ⟨b630, g630⟩ : ∃ z, z = h0.size := ⟨_, rfl⟩
  obtain ⟨T630, h630, k630, X630, e630, E630, A630, Ex630, O630, st630⟩ := newRE X627 hx hZ hown (W 162 rfl) (W 163 rfl) e627 (g := (mkF m 23 #[rv g, iv (0 : Int32), iv kk, rv x1, iv (4 : Int32)] [(.int (4 : Int32)), (.int (0 : Int32)), (.ref bc)])) rfl (hb hby d20_23) rfl (by decide) (cap := 4) (by decide) (by decide) (by decide) (by decide) (ad := "[Ljava/util/BitSet;") (by first | rfl | decide +kernel)
  rw [← g630] at A630 Ex630 st630
  have neg_b630 : g ≠ b630 := Nat.ne_of_lt (Nat.lt_of_lt_of_le Fc.lt (Nat.le_of_eq g630.symm))
  have nex1_b630 : x1 ≠ b630 := Nat.ne_of_lt (Nat.lt_of_lt_of_le E1.lt (Nat.le_of_eq g630.symm))
  have nex2_b630 : x2 ≠ b630 := Nat.ne_of_lt (Nat.lt_of_lt_of_le E2.lt (Nat.le_of_eq g630.symm))
  have nebc_b630 : bc ≠ b630 := Nat.ne_of_lt (Nat.lt_of_lt_of_le Vc.lt (Nat.le_of_eq g630.symm))
  have ge_b630 : n0 ≤ b630 := Nat.le_trans Z0 (Nat.le_of_eq g630.symm)
  have sz_b630 : h0.size ≤ b630 := Nat.le_trans KC0.1 (Nat.le_of_eq g630.symm)
  have V630 : Arv Z h630 b630 k630 (.object "java/util/BitSet") (4 : Int32) [.null, .null, .null, .null] .null := (Arv.new A630 (by decide)).pad (pad_rep [] .null 4)
  have KC630 : Keep h0 h630 [bc] := KC0.ext E630
  have go631 : own_S p e below ST T630 (mkF m 26 #[rv g, iv (0 : Int32), iv kk, rv x1, iv (4 : Int32)] [(.ref b630), (.int (0 : Int32)), (.ref bc)]) := fun tt kt => go629 tt (st630 _ kt)
  have f633 := (Vc.ext E630)
  obtain ⟨cl632, Ar632, q632, S632, M632, H632, G632⟩ := id f633
  have hin632 : ¬ ((0 : Int32) < 0 ∨ cl632.slots.size ≤ ((0 : Int32)).toNatClampNeg) := inb_of S632 ⟨by decide, by decide⟩
  obtain ⟨T632, h632, X632, e632, W632, st632⟩ := stR X630 hx hZ e630 Ar632 (j := (0 : Int32)) hin632 rfl (Sto.ofVA Ar632 q632 OA (Ins.self Ex630)) (g := (mkF m 26 #[rv g, iv (0 : Int32), iv kk, rv x1, iv (4 : Int32)] [(.ref b630), (.int (0 : Int32)), (.ref bc)])) rfl rfl (hb hby d20_26)
  have V632 : Arv Z h632 bc kc (.array (.object "java/util/BitSet")) (2 : Int32) [(.ref b630), vo] .null := Arv.set Ar632 q632 S632 M632 H632 G632 rfl W632 0 rfl (Nat.le_of_ble_eq_true rfl)
  have N632 := Fr.snoc X632 N624 gb
  have KC632 : Keep h0 h632 [bc] := KC630.wr W632 (Or.inl (List.mem_of_getElem? (i := 0) rfl))
  have go634 : own_S p e below ST T632 (mkF m 27 #[rv g, iv (0 : Int32), iv kk, rv x1, iv (4 : Int32)] []) := fun tt kt => go631 tt (st632 _ kt)
  have go635 : own_S p e below ST T632 (mkF m 28 #[rv g, iv (0 : Int32), iv kk, rv x1, iv (4 : Int32)] [(.ref g)]) := fun tt kt => go634 tt (by
      refine XS.aloadN X632.here hx rfl (hb hby d20_27) rfl rfl ?_
      exact kt)
  have f636 := ((Fc.ext E630).other W632 (Or.inl ng))
  obtain ⟨T637, X637, e637, st637⟩ := getF X632 hx hZ hown (host := "") (Or.inl (W 88 rfl)) Via.refl e632 f636 (g := (mkF m 28 #[rv g, iv (0 : Int32), iv kk, rv x1, iv (4 : Int32)] [(.ref g)])) rfl rfl (hb hby d20_28)
  have go638 : own_S p e below ST T637 (mkF m 31 #[rv g, iv (0 : Int32), iv kk, rv x1, iv (4 : Int32)] [(.ref bc)]) := fun tt kt => go635 tt (st637 _ kt)
  have go639 : own_S p e below ST T637 (mkF m 32 #[rv g, iv (0 : Int32), iv kk, rv x1, iv (4 : Int32)] [(.int (0 : Int32)), (.ref bc)]) := fun tt kt => go638 tt (by
      refine XS.iloadN X637.here hx rfl (hb hby d20_31) rfl ?_
      exact kt)
  obtain ⟨cl640, Ar640, q640, S640, M640, H640, G640⟩ := id V632
  have hin640 : ¬ ((0 : Int32) < 0 ∨ cl640.slots.size ≤ ((0 : Int32)).toNatClampNeg) := inb_of S640 ⟨by decide, by decide⟩
  have hat640 : cl640.slots[((0 : Int32)).toNatClampNeg]? = some (.ref b630) := H640.at hin640 rfl
  have go641 : own_S p e below ST T637 (mkF m 33 #[rv g, iv (0 : Int32), iv kk, rv x1, iv (4 : Int32)] [(.ref b630)]) := fun tt kt => go639 tt (by
      refine X637.aaload hx (j := (0 : Int32)) (v := (.ref b630)) (by rw [e637]; exact Ar640.1) (State.isArrayOf_alike hZ.alike Ar640.2.1) rfl Ar640.2.2 hin640 hat640 (g := (mkF m 32 #[rv g, iv (0 : Int32), iv kk, rv x1, iv (4 : Int32)] [(.int (0 : Int32)), (.ref bc)])) rfl rfl (hb hby d20_32) _ ?_
      exact kt)
  have go642 : own_S p e below ST T637 (mkF m 37 #[rv g, iv (0 : Int32), iv kk, rv x1, iv (4 : Int32)] [(.ref g)]) := fun tt kt => go641 tt (by
      refine XS.ifnullNo X637.here hx rfl (hb hby d20_33) rfl ?_
      refine XS.aloadN X637.here hx rfl (hb hby d20_36) rfl rfl ?_
      exact kt)
  obtain ⟨T643, X643, e643, st643⟩ := getF X637 hx hZ hown (host := "") (Or.inl (W 88 rfl)) Via.refl e637 f636 (g := (mkF m 37 #[rv g, iv (0 : Int32), iv kk, rv x1, iv (4 : Int32)] [(.ref g)])) rfl rfl (hb hby d20_37)
  have go644 : own_S p e below ST T643 (mkF m 40 #[rv g, iv (0 : Int32), iv kk, rv x1, iv (4 : Int32)] [(.ref bc)]) := fun tt kt => go642 tt (st643 _ kt)
  have go645 : own_S p e below ST T643 (mkF m 41 #[rv g, iv (0 : Int32), iv kk, rv x1, iv (4 : Int32)] [(.int (0 : Int32)), (.ref bc)]) := fun tt kt => go644 tt (by
      refine XS.iloadN X643.here hx rfl (hb hby d20_40) rfl ?_
      exact kt)
  obtain ⟨cl646, Ar646, q646, S646, M646, H646, G646⟩ := id V632
  have hin646 : ¬ ((0 : Int32) < 0 ∨ cl646.slots.size ≤ ((0 : Int32)).toNatClampNeg) := inb_of S646 ⟨by decide, by decide⟩
  have hat646 : cl646.slots[((0 : Int32)).toNatClampNeg]? = some (.ref b630) := H646.at hin646 rfl
  have go647 : own_S p e below ST T643 (mkF m 42 #[rv g, iv (0 : Int32), iv kk, rv x1, iv (4 : Int32)] [(.ref b630)]) := fun tt kt => go645 tt (by
      refine X643.aaload hx (j := (0 : Int32)) (v := (.ref b630)) (by rw [e643]; exact Ar646.1) (State.isArrayOf_alike hZ.alike Ar646.2.1) rfl Ar646.2.2 hin646 hat646 (g := (mkF m 41 #[rv g, iv (0 : Int32), iv kk, rv x1, iv (4 : Int32)] [(.int (0 : Int32)), (.ref bc)])) rfl rfl (hb hby d20_41) _ ?_
      exact kt)
  have go648 : own_S p e below ST T643 (mkF m 44 #[rv g, iv (0 : Int32), iv kk, rv x1, iv (4 : Int32)] [(.ref x1), (.int kk), (.ref b630)]) := fun tt kt => go647 tt (by
      refine XS.iloadN X643.here hx rfl (hb hby d20_42) rfl ?_
      refine XS.aloadN X643.here hx rfl (hb hby d20_43) rfl rfl ?_
      exact kt)
  have f649 := ((F1.ext E630).other W632 (Or.inl nx1_bc))
  have zs651 := (Nat.le_trans (Nat.le_trans Z0 E630.1) (Keep.of_wr W632).1)
  have f652 := ((E1.ext E630).wr W632)
  obtain ⟨cq650, kq650, q650a, q650b, q650c⟩ := isOf hZ e643 f652
  obtain ⟨_, _, ⟨T650, L650, k650, n650⟩, -, X650, ⟨Lc650, hQ650, l650, y650, z650⟩, st650⟩ := X643.virtualBack hx (y := (⟨"java/util/BitSet", "isEmpty", "()Z"⟩ : MethodName)) (z := (⟨"java/util/BitSet", "isEmpty", "()Z"⟩ : MethodName)) hown (mvT hZ (W 157 rfl)) (mvT hZ (W 158 rfl)) (notFace_of_selects (args := #[]) (mvT hZ (W 160 rfl))) (mvT hZ (W 160 rfl)) (mvT hZ (W 159 rfl)) (by decide) (backOf (W := 2) (rm21u1 l Z a0 hw [] x1 h632 n0 zs651 f649) hZ (W 161 rfl) (W 2 rfl) (by decide) (by decide)) q650a q650c (g := (mkF m 44 #[rv g, iv (0 : Int32), iv kk, rv x1, iv (4 : Int32)] [(.ref x1), (.int kk), (.ref b630)])) rfl (by rw [hml]; rfl) (Steps.refl _) (argsL := []) (rest := [(.int kk), (.ref b630)]) (lenOf pd269 rfl) rfl (by show 2 * 0 + _ ≤ _; exact Nat.le_of_eq rfl) (hb hby d20_44) (fun _ _ => ⟨rfl, e643, (by decide : 1 + 0 ≤ _), (by decide : 4 + 0 ≤ _)⟩)
  dsimp only [Pt.U, Pt.locs, Pt.cells, Pt.slots] at X650 l650 y650 z650 st650 hQ650
  subst l650 y650 z650
  obtain ⟨rfl, Nq650, eh650⟩ := hQ650
  have N650 := Fr.app N632 Nq650
  have go653 : own_S p e below ST T650 (mkF m 47 #[rv g, iv (0 : Int32), iv kk, rv x1, iv (4 : Int32)] [(.int (0 : Int32)), (.int kk), (.ref b630)]) := fun tt kt => go648 tt (st650.trans kt)
  have go654 : own_S p e below ST T650 (mkF m 55 #[rv g, iv (0 : Int32), iv kk, rv x1, iv (4 : Int32)] [(.ref x1), (.int kk), (.ref b630)]) := fun tt kt => go653 tt (by
      refine XS.ifYes X650.here hx rfl (pc0 := 47) (pc' := 54) rfl (hb hby d20_47) rfl ((if0 _ _).trans (teq (by decide : (0 : Int32) = (0 : Int32))).1) (by decide) (by decide) ?_
      refine XS.aloadN X650.here hx rfl (hb hby d20_54) rfl rfl ?_
      exact kt)
  have f656 := (V630.other W632 (Ne.symm nebc_b630))
  obtain ⟨cl655, Ar655, q655, S655, M655, H655, G655⟩ := id f656
  have hin655 : ¬ (kk < 0 ∨ cl655.slots.size ≤ (kk).toNatClampNeg) := inb_of S655 (own_in4 hk)
  obtain ⟨T655, h655, X655, e655, W655, st655⟩ := stR X650 hx hZ eh650 Ar655 (j := kk) hin655 rfl (Sto.ofV Ar655 q655 O630 (Ins.self f652)) (g := (mkF m 55 #[rv g, iv (0 : Int32), iv kk, rv x1, iv (4 : Int32)] [(.ref x1), (.int kk), (.ref b630)])) rfl rfl (hb hby d20_55)
  have V655 : Arv Z h655 b630 k630 (.object "java/util/BitSet") (4 : Int32) ([.null, .null, .null, .null].set (kk).toNatClampNeg (.ref x1)) .null := Arv.set Ar655 q655 S655 M655 H655 G655 rfl W655 _ rfl (own_lt4 hk rfl)
  have N655 := Fr.snoc X655 N650 ge_b630
  have KC655 : Keep h0 h655 [bc] := KC632.wr W655 (Or.inr sz_b630)
  have go657 : own_S p e below ST T655 (mkF m 56 #[rv g, iv (0 : Int32), iv kk, rv x1, iv (4 : Int32)] []) := fun tt kt => go654 tt (st655 _ kt)
  have f658 := (f636.other W655 (Or.inl neg_b630))
  have f659 := (V632.other W655 nebc_b630)
  have f660 := (((E2.ext E630).wr W632).wr W655)
  have f661 := (((F2.ext E630).other W632 (Or.inl nx2_bc)).other W655 (Or.inl nex2_b630))
  have f662 := (((Eg.ext E630).wr W632).wr W655)
  have f663 := (((OL.ext E630).wr W632 gb).wr W655 ge_b630)
  obtain ⟨fs, hr, hrun, hended, hW, hsame⟩ := X655.leave (v := none) (fun _ => rfl) (hlocks := by first | exact BodyLoose.notSynchronized Bd | exact Body.notSynchronized Bd)
  refine ⟨_, _, pre0 _ (go657 _ ?_), hrun, hended, _, _, rfl, ?_, ⟨_, rfl⟩, hW, hsame.mono (by decide) (by decide)⟩
  · exact X655.returnOut hx Bd.returns (hb hby d20_56) hr
  · show Q20m0nu1 Z g x1 x2 bc kk kc vo Lm Lo u2 M0 M1 h0 n0 _ T655.heap _
    rw [e655]
    exact ⟨rfl, N655, f663, ⟨bc, kc, (.ref b630), vo, f658, f659, OA, Or.inr ⟨b630, _, rfl, (by rw [hMm, hLm]; exact V655), O630, (by rw [hMm, List.length_set, hLm]; rfl), ge_b630, (Ne.symm neg_b630), (Ne.symm nebc_b630)⟩, (by rw [hMo]; exact own_rowk Ro KC655 (fun r1 e => by rcases own_rowlt Ro with z | ⟨r2, z, _, _, z2⟩; (· rw [z] at e; cases e); (· rw [z] at e; cases e; exact ninS z2 nin0))), Or.inr (fun z => by rcases own_rowlt Ro with y | ⟨r2, y, y1, _⟩; (· rw [y] at z; cases z); (· rw [y] at z; injection z with z; exact absurd y1 (Nat.not_lt.mpr (z ▸ sz_b630)))), gb, ng, (by rw [hMm, List.length_set, hLm]; rfl), (by rw [hMo]; exact lo)⟩, f660, f661, f662, KC655.1⟩
theorem d20_50 : decode prog_74_method_5_code 50 = .ok (.aconst_null, 1) := by decide +kernel
theorem d20_51 : decode prog_74_method_5_code 51 = .ok (.goto 4, 3) := by decide +kernel
theorem ef20m0ru0 (m : MethodId) (x0 : Addr) (x1 : Int32) (x2 : Int32) (x3 : Addr) (x4 : Int32) : entryFrame m #[(.ref x0), (.int x1), (.int x2), (.ref x3), (.int x4)] 5 = mkF m 0 #[.val (.ref x0), .val (.int x1), .val (.int x2), .val (.ref x3), .val (.int x4)] [] := by first | (simp [entryFrame, mkF, argsToLocals, Value.category]; done) | rfl
def Q20m0ru0 (Z : State) (g : Addr) (x1 : Addr) (x2 : Addr) (bc : Addr) (kk : Int32) (kc : ClassId) (vo : Value) (Lm : List Value) (Lo : List Value) (u2 : Value) (M0 : List Value) (M1 : List Value) (r : Addr) (kr : ClassId) (h0 : Heap) (n0 : Nat) (v : Option Value) (h : Heap) (L : List Loc) : Prop := v = none ∧ Fr n0 L ∧ Old Z n0 h ∧ own_GR Z h n0 g M0 M1 ∧ Exa Z h x2 "java/util/BitSet" ∧ Fld Z h x2 "java/util/BitSet" "wordsInUse" "I" u2 ∧ Exa Z h g "com/example/brancher/brancher/service/Group" ∧ h0.size ≤ h.size
set_option maxRecDepth 65536 in
set_option maxHeartbeats 40000000 in
theorem rm20m0ru0 (l : Launch) (Z : State) (a0 : Array Value) (hw : ∀ d ∈ tables_1, d.before a0 Z = true) (ws : List Jvm.Cond) (g : Addr) (x1 : Addr) (x2 : Addr) (bc : Addr) (kk : Int32) (kc : ClassId) (vo : Value) (Lm : List Value) (Lo : List Value) (u2 : Value) (M0 : List Value) (M1 : List Value) (r : Addr) (kr : ClassId) (h0 : Heap) (n0 : Nat) (Z0 : n0 ≤ h0.size) (Fc : Fld Z h0 g "com/example/brancher/brancher/service/Group" "choices" "[[Ljava/util/BitSet;" (.ref bc)) (Vc : Arv Z h0 bc kc (.array (.object "java/util/BitSet")) (2 : Int32) [(.ref r), vo] .null) (OA : OvrA Z kc (.object "java/util/BitSet") "[Ljava/util/BitSet;") (hk : kk = 0 ∨ kk = 1 ∨ kk = 2 ∨ kk = 3) (OL : Old Z n0 h0) (Eg : Exa Z h0 g "com/example/brancher/brancher/service/Group") (gb : n0 ≤ bc) (ng : g ≠ bc) (E1 : Exa Z h0 x1 "java/util/BitSet") (F1 : Fld Z h0 x1 "java/util/BitSet" "wordsInUse" "I" (.int (0 : Int32))) (E2 : Exa Z h0 x2 "java/util/BitSet") (F2 : Fld Z h0 x2 "java/util/BitSet" "wordsInUse" "I" u2) (Ro : own_row Z h0 n0 g bc vo Lo) (lo : Lo.length = 4) (hMm : M0 = Lm.set (kk).toNatClampNeg .null) (hMo : M1 = Lo) (Vr : Arv Z h0 r kr (.object "java/util/BitSet") (4 : Int32) Lm .null) (Or1 : Ovr Z kr "java/util/BitSet") (lr : Lm.length = 4) (gr : n0 ≤ r) (rg : r ≠ g) (rb : r ≠ bc) (ro : .ref r ≠ vo) :
    MetFree l (⟨"com/example/brancher/brancher/service/Group", "rest", "(IILjava/util/BitSet;I)V"⟩ : MethodName) (head1 (Jvm.Cond.code (⟨"com/example/brancher/brancher/service/Group", "rest", "(IILjava/util/BitSet;I)V"⟩ : MethodName) prog_74_method_5_code 5 none :: ws) ({ frames := 1, cells := 1, slots := 4, locals := 14 } : Room)) (fun aa UU => aa = #[(.ref g), (.int (0 : Int32)), (.int kk), (.ref x1), (.int (4 : Int32))] ∧ Z.Warmed39 UU.vm ∧ UU.heap = h0) (fun _ _ _ _ _ => True) (fun _ UU oo UU' => ∃ vv LL, oo = .returned vv ∧ Q20m0ru0 Z g x1 x2 bc kk kc vo Lm Lo u2 M0 M1 r kr h0 n0 vv UU'.heap LL ∧ FrameEnd UU oo UU' LL ({ frames := 1, cells := 1, slots := 4, locals := 14 } : Room).cells ({ frames := 1, cells := 1, slots := 4, locals := 14 } : Room).slots) := by
  have W : ∀ {d : Jvm.Cond} (i : Nat), tables_1[i]? = some d → d.before a0 Z = true := fun i h => hw _ (List.mem_of_getElem? h)
  refine MetFree.of_bodySF (plainFor_of_name pn198) hisR ?_
  intro p e s m args below meth c s₁ Bd hml0 hP hK
  obtain ⟨rfl, hZ, hh⟩ := hP
  have hx := Bd.exec
  have hby := Bd.bytes
  have hml : c.maxLocals = 5 := hml0
  have hown : s.vm.findClass "com/example/brancher/brancher/service/Group" = some m.cls := findClass_of_methodNamed Bd.named
  have hnm := (name_of_methodNamed Bd.named Bd.method).1
  have X0 : Stand p l e ({ frames := 1, cells := 1, slots := 4, locals := 14 } : Room) s m #[(.ref g), (.int (0 : Int32)), (.int kk), (.ref x1), (.int (4 : Int32))] below meth c s₁ [] 0 0 := Stand.of_body Bd
  have e0 : s₁.heap = h0 := by rw [← hh, Bd.state]; rfl
  have N0 := Fr.nil n0
  have pre0 : ∀ tt, Steps p.tables e below (s₁.setTop (mkF m 0 #[rv g, iv (0 : Int32), iv kk, rv x1, iv (4 : Int32)] [])) tt → Steps p.tables e below (s₁.setTop (entryFrame m #[(.ref g), (.int (0 : Int32)), (.int kk), (.ref x1), (.int (4 : Int32))] 5)) tt := fun tt kt => castTop (ef20m0ru0 m g (0 : Int32) kk x1 (4 : Int32)) kt
  obtain ⟨ST, hST⟩ : ∃ z : State, z = s₁.setTop (mkF m 0 #[rv g, iv (0 : Int32), iv kk, rv x1, iv (4 : Int32)] []) := ⟨_, rfl⟩
  rw [← hST] at pre0
  have nx1_bc := (own_arvne E1 (W 1 rfl) Vc)
  have nx2_bc := (own_arvne E2 (W 1 rfl) Vc)
  have nx1_r := (own_arvne E1 (W 1 rfl) Vr)
  have nx2_r := (own_arvne E2 (W 1 rfl) Vr)
  have KC0 : Keep h0 h0 [r] := Keep.refl h0 [r]
  have go664 : own_S p e below ST s₁ (mkF m 1 #[rv g, iv (0 : Int32), iv kk, rv x1, iv (4 : Int32)] [(.ref g)]) := fun tt kt => (by
      rw [hST]
      show Steps p.tables e below (s₁.setTop (mkF m 0 #[rv g, iv (0 : Int32), iv kk, rv x1, iv (4 : Int32)] [])) _
      refine XS.aloadN X0.here hx rfl (hb hby d20_0) rfl rfl ?_
      exact kt)
  obtain ⟨T665, X665, e665, st665⟩ := getF X0 hx hZ hown (host := "") (Or.inl (W 88 rfl)) Via.refl e0 Fc (g := (mkF m 1 #[rv g, iv (0 : Int32), iv kk, rv x1, iv (4 : Int32)] [(.ref g)])) rfl rfl (hb hby d20_1)
  have go666 : own_S p e below ST T665 (mkF m 4 #[rv g, iv (0 : Int32), iv kk, rv x1, iv (4 : Int32)] [(.ref bc)]) := fun tt kt => go664 tt (st665 _ kt)
  have go667 : own_S p e below ST T665 (mkF m 5 #[rv g, iv (0 : Int32), iv kk, rv x1, iv (4 : Int32)] [(.int (0 : Int32)), (.ref bc)]) := fun tt kt => go666 tt (by
      refine XS.iloadN X665.here hx rfl (hb hby d20_4) rfl ?_
      exact kt)
  obtain ⟨cl668, Ar668, q668, S668, M668, H668, G668⟩ := id Vc
  have hin668 : ¬ ((0 : Int32) < 0 ∨ cl668.slots.size ≤ ((0 : Int32)).toNatClampNeg) := inb_of S668 ⟨by decide, by decide⟩
  have hat668 : cl668.slots[((0 : Int32)).toNatClampNeg]? = some (.ref r) := H668.at hin668 rfl
  have go669 : own_S p e below ST T665 (mkF m 6 #[rv g, iv (0 : Int32), iv kk, rv x1, iv (4 : Int32)] [(.ref r)]) := fun tt kt => go667 tt (by
      refine X665.aaload hx (j := (0 : Int32)) (v := (.ref r)) (by rw [e665]; exact Ar668.1) (State.isArrayOf_alike hZ.alike Ar668.2.1) rfl Ar668.2.2 hin668 hat668 (g := (mkF m 5 #[rv g, iv (0 : Int32), iv kk, rv x1, iv (4 : Int32)] [(.int (0 : Int32)), (.ref bc)])) rfl rfl (hb hby d20_5) _ ?_
      exact kt)
  have go670 : own_S p e below ST T665 (mkF m 28 #[rv g, iv (0 : Int32), iv kk, rv x1, iv (4 : Int32)] [(.ref g)]) := fun tt kt => go669 tt (by
      refine XS.ifnonnullYes X665.here hx rfl (pc0 := 6) (pc' := 27) rfl (hb hby d20_6) rfl (by decide) (by decide) ?_
      refine XS.aloadN X665.here hx rfl (hb hby d20_27) rfl rfl ?_
      exact kt)
  obtain ⟨T671, X671, e671, st671⟩ := getF X665 hx hZ hown (host := "") (Or.inl (W 88 rfl)) Via.refl e665 Fc (g := (mkF m 28 #[rv g, iv (0 : Int32), iv kk, rv x1, iv (4 : Int32)] [(.ref g)])) rfl rfl (hb hby d20_28)
  have go672 : own_S p e below ST T671 (mkF m 31 #[rv g, iv (0 : Int32), iv kk, rv x1, iv (4 : Int32)] [(.ref bc)]) := fun tt kt => go670 tt (st671 _ kt)
  have go673 : own_S p e below ST T671 (mkF m 32 #[rv g, iv (0 : Int32), iv kk, rv x1, iv (4 : Int32)] [(.int (0 : Int32)), (.ref bc)]) := fun tt kt => go672 tt (by
      refine XS.iloadN X671.here hx rfl (hb hby d20_31) rfl ?_
      exact kt)
  obtain ⟨cl674, Ar674, q674, S674, M674, H674, G674⟩ := id Vc
  have hin674 : ¬ ((0 : Int32) < 0 ∨ cl674.slots.size ≤ ((0 : Int32)).toNatClampNeg) := inb_of S674 ⟨by decide, by decide⟩
  have hat674 : cl674.slots[((0 : Int32)).toNatClampNeg]? = some (.ref r) := H674.at hin674 rfl
  have go675 : own_S p e below ST T671 (mkF m 33 #[rv g, iv (0 : Int32), iv kk, rv x1, iv (4 : Int32)] [(.ref r)]) := fun tt kt => go673 tt (by
      refine X671.aaload hx (j := (0 : Int32)) (v := (.ref r)) (by rw [e671]; exact Ar674.1) (State.isArrayOf_alike hZ.alike Ar674.2.1) rfl Ar674.2.2 hin674 hat674 (g := (mkF m 32 #[rv g, iv (0 : Int32), iv kk, rv x1, iv (4 : Int32)] [(.int (0 : Int32)), (.ref bc)])) rfl rfl (hb hby d20_32) _ ?_
      exact kt)
  have go676 : own_S p e below ST T671 (mkF m 37 #[rv g, iv (0 : Int32), iv kk, rv x1, iv (4 : Int32)] [(.ref g)]) := fun tt kt => go675 tt (by
      refine XS.ifnullNo X671.here hx rfl (hb hby d20_33) rfl ?_
      refine XS.aloadN X671.here hx rfl (hb hby d20_36) rfl rfl ?_
      exact kt)
  obtain ⟨T677, X677, e677, st677⟩ := getF X671 hx hZ hown (host := "") (Or.inl (W 88 rfl)) Via.refl e671 Fc (g := (mkF m 37 #[rv g, iv (0 : Int32), iv kk, rv x1, iv (4 : Int32)] [(.ref g)])) rfl rfl (hb hby d20_37)
  have go678 : own_S p e below ST T677 (mkF m 40 #[rv g, iv (0 : Int32), iv kk, rv x1, iv (4 : Int32)] [(.ref bc)]) := fun tt kt => go676 tt (st677 _ kt)
  have go679 : own_S p e below ST T677 (mkF m 41 #[rv g, iv (0 : Int32), iv kk, rv x1, iv (4 : Int32)] [(.int (0 : Int32)), (.ref bc)]) := fun tt kt => go678 tt (by
      refine XS.iloadN X677.here hx rfl (hb hby d20_40) rfl ?_
      exact kt)
  obtain ⟨cl680, Ar680, q680, S680, M680, H680, G680⟩ := id Vc
  have hin680 : ¬ ((0 : Int32) < 0 ∨ cl680.slots.size ≤ ((0 : Int32)).toNatClampNeg) := inb_of S680 ⟨by decide, by decide⟩
  have hat680 : cl680.slots[((0 : Int32)).toNatClampNeg]? = some (.ref r) := H680.at hin680 rfl
  have go681 : own_S p e below ST T677 (mkF m 42 #[rv g, iv (0 : Int32), iv kk, rv x1, iv (4 : Int32)] [(.ref r)]) := fun tt kt => go679 tt (by
      refine X677.aaload hx (j := (0 : Int32)) (v := (.ref r)) (by rw [e677]; exact Ar680.1) (State.isArrayOf_alike hZ.alike Ar680.2.1) rfl Ar680.2.2 hin680 hat680 (g := (mkF m 41 #[rv g, iv (0 : Int32), iv kk, rv x1, iv (4 : Int32)] [(.int (0 : Int32)), (.ref bc)])) rfl rfl (hb hby d20_41) _ ?_
      exact kt)
  have go682 : own_S p e below ST T677 (mkF m 44 #[rv g, iv (0 : Int32), iv kk, rv x1, iv (4 : Int32)] [(.ref x1), (.int kk), (.ref r)]) := fun tt kt => go681 tt (by
      refine XS.iloadN X677.here hx rfl (hb hby d20_42) rfl ?_
      refine XS.aloadN X677.here hx rfl (hb hby d20_43) rfl rfl ?_
      exact kt)
  obtain ⟨cq683, kq683, q683a, q683b, q683c⟩ := isOf hZ e677 E1
  obtain ⟨_, _, ⟨T683, L683, k683, n683⟩, -, X683, ⟨Lc683, hQ683, l683, y683, z683⟩, st683⟩ := X677.virtualBack hx (y := (⟨"java/util/BitSet", "isEmpty", "()Z"⟩ : MethodName)) (z := (⟨"java/util/BitSet", "isEmpty", "()Z"⟩ : MethodName)) hown (mvT hZ (W 157 rfl)) (mvT hZ (W 158 rfl)) (notFace_of_selects (args := #[]) (mvT hZ (W 160 rfl))) (mvT hZ (W 160 rfl)) (mvT hZ (W 159 rfl)) (by decide) (backOf (W := 2) (rm21u0 l Z a0 hw [] x1 h0 n0 Z0 F1) hZ (W 161 rfl) (W 2 rfl) (by decide) (by decide)) q683a q683c (g := (mkF m 44 #[rv g, iv (0 : Int32), iv kk, rv x1, iv (4 : Int32)] [(.ref x1), (.int kk), (.ref r)])) rfl (by rw [hml]; rfl) (Steps.refl _) (argsL := []) (rest := [(.int kk), (.ref r)]) (lenOf pd269 rfl) rfl (by show 2 * 0 + _ ≤ _; exact Nat.le_of_eq rfl) (hb hby d20_44) (fun _ _ => ⟨rfl, e677, (by decide : 0 + 0 ≤ _), (by decide : 0 + 0 ≤ _)⟩)
  dsimp only [Pt.U, Pt.locs, Pt.cells, Pt.slots] at X683 l683 y683 z683 st683 hQ683
  subst l683 y683 z683
  obtain ⟨rfl, Nq683, eh683⟩ := hQ683
  have N683 := Fr.app N0 Nq683
  have go684 : own_S p e below ST T683 (mkF m 47 #[rv g, iv (0 : Int32), iv kk, rv x1, iv (4 : Int32)] [(.int (1 : Int32)), (.int kk), (.ref r)]) := fun tt kt => go682 tt (st683.trans kt)
  have go685 : own_S p e below ST T683 (mkF m 55 #[rv g, iv (0 : Int32), iv kk, rv x1, iv (4 : Int32)] [.null, (.int kk), (.ref r)]) := fun tt kt => go684 tt (by
      refine XS.ifNo X683.here hx rfl (hb hby d20_47) rfl ((if0 _ _).trans (feq (by decide : ¬ ((1 : Int32) = (0 : Int32)))).1) ?_
      refine XS.aconstNull X683.here hx rfl (hb hby d20_50) ?_
      refine XS.goto X683.here hx rfl (pc0 := 51) (pc' := 55) rfl (hb hby d20_51) (by decide) (by decide) ?_
      exact kt)
  obtain ⟨cl686, Ar686, q686, S686, M686, H686, G686⟩ := id Vr
  have hin686 : ¬ (kk < 0 ∨ cl686.slots.size ≤ (kk).toNatClampNeg) := inb_of S686 (own_in4 hk)
  obtain ⟨T686, h686, X686, e686, W686, st686⟩ := stR X683 hx hZ eh683 Ar686 (j := kk) hin686 rfl (Or.inl rfl) (g := (mkF m 55 #[rv g, iv (0 : Int32), iv kk, rv x1, iv (4 : Int32)] [.null, (.int kk), (.ref r)])) rfl rfl (hb hby d20_55)
  have V686 : Arv Z h686 r kr (.object "java/util/BitSet") (4 : Int32) (Lm.set (kk).toNatClampNeg .null) .null := Arv.set Ar686 q686 S686 M686 H686 G686 rfl W686 _ rfl (own_lt4 hk lr)
  have N686 := Fr.snoc X686 N683 gr
  have KC686 : Keep h0 h686 [r] := KC0.wr W686 (Or.inl (List.mem_of_getElem? (i := 0) rfl))
  have go687 : own_S p e below ST T686 (mkF m 56 #[rv g, iv (0 : Int32), iv kk, rv x1, iv (4 : Int32)] []) := fun tt kt => go685 tt (st686 _ kt)
  have f688 := (Fc.other W686 (Or.inl (Ne.symm rg)))
  have f689 := (Vc.other W686 (Ne.symm rb))
  have f690 := (E2.wr W686)
  have f691 := (F2.other W686 (Or.inl nx2_r))
  have f692 := (Eg.wr W686)
  have f693 := (OL.wr W686 gr)
  obtain ⟨fs, hr, hrun, hended, hW, hsame⟩ := X686.leave (v := none) (fun _ => rfl) (hlocks := by first | exact BodyLoose.notSynchronized Bd | exact Body.notSynchronized Bd)
  refine ⟨_, _, pre0 _ (go687 _ ?_), hrun, hended, _, _, rfl, ?_, ⟨_, rfl⟩, hW, hsame.mono (by decide) (by decide)⟩
  · exact X686.returnOut hx Bd.returns (hb hby d20_56) hr
  · show Q20m0ru0 Z g x1 x2 bc kk kc vo Lm Lo u2 M0 M1 r kr h0 n0 _ T686.heap _
    rw [e686]
    exact ⟨rfl, N686, f693, ⟨bc, kc, (.ref r), vo, f688, f689, OA, Or.inr ⟨r, _, rfl, (by rw [hMm]; exact V686), Or1, (by rw [hMm, List.length_set]; exact lr), gr, rg, rb⟩, (by rw [hMo]; exact own_rowk Ro KC686 (fun r1 e => ninS (fun z => ro (by rw [e, z])) nin0)), Or.inr ro, gb, ng, (by rw [hMm, List.length_set]; exact lr), (by rw [hMo]; exact lo)⟩, f690, f691, f692, KC686.1⟩
theorem ef20m0ru1 (m : MethodId) (x0 : Addr) (x1 : Int32) (x2 : Int32) (x3 : Addr) (x4 : Int32) : entryFrame m #[(.ref x0), (.int x1), (.int x2), (.ref x3), (.int x4)] 5 = mkF m 0 #[.val (.ref x0), .val (.int x1), .val (.int x2), .val (.ref x3), .val (.int x4)] [] := by first | (simp [entryFrame, mkF, argsToLocals, Value.category]; done) | rfl
def Q20m0ru1 (Z : State) (g : Addr) (x1 : Addr) (x2 : Addr) (bc : Addr) (kk : Int32) (kc : ClassId) (vo : Value) (Lm : List Value) (Lo : List Value) (u2 : Value) (M0 : List Value) (M1 : List Value) (r : Addr) (kr : ClassId) (h0 : Heap) (n0 : Nat) (v : Option Value) (h : Heap) (L : List Loc) : Prop := v = none ∧ Fr n0 L ∧ Old Z n0 h ∧ own_GR Z h n0 g M0 M1 ∧ Exa Z h x2 "java/util/BitSet" ∧ Fld Z h x2 "java/util/BitSet" "wordsInUse" "I" u2 ∧ Exa Z h g "com/example/brancher/brancher/service/Group" ∧ h0.size ≤ h.size
set_option maxRecDepth 65536 in
set_option maxHeartbeats 40000000 in
theorem rm20m0ru1 (l : Launch) (Z : State) (a0 : Array Value) (hw : ∀ d ∈ tables_1, d.before a0 Z = true) (ws : List Jvm.Cond) (g : Addr) (x1 : Addr) (x2 : Addr) (bc : Addr) (kk : Int32) (kc : ClassId) (vo : Value) (Lm : List Value) (Lo : List Value) (u2 : Value) (M0 : List Value) (M1 : List Value) (r : Addr) (kr : ClassId) (h0 : Heap) (n0 : Nat) (Z0 : n0 ≤ h0.size) (Fc : Fld Z h0 g "com/example/brancher/brancher/service/Group" "choices" "[[Ljava/util/BitSet;" (.ref bc)) (Vc : Arv Z h0 bc kc (.array (.object "java/util/BitSet")) (2 : Int32) [(.ref r), vo] .null) (OA : OvrA Z kc (.object "java/util/BitSet") "[Ljava/util/BitSet;") (hk : kk = 0 ∨ kk = 1 ∨ kk = 2 ∨ kk = 3) (OL : Old Z n0 h0) (Eg : Exa Z h0 g "com/example/brancher/brancher/service/Group") (gb : n0 ≤ bc) (ng : g ≠ bc) (E1 : Exa Z h0 x1 "java/util/BitSet") (F1 : Fld Z h0 x1 "java/util/BitSet" "wordsInUse" "I" (.int (1 : Int32))) (E2 : Exa Z h0 x2 "java/util/BitSet") (F2 : Fld Z h0 x2 "java/util/BitSet" "wordsInUse" "I" u2) (Ro : own_row Z h0 n0 g bc vo Lo) (lo : Lo.length = 4) (hMm : M0 = Lm.set (kk).toNatClampNeg (.ref x1)) (hMo : M1 = Lo) (Vr : Arv Z h0 r kr (.object "java/util/BitSet") (4 : Int32) Lm .null) (Or1 : Ovr Z kr "java/util/BitSet") (lr : Lm.length = 4) (gr : n0 ≤ r) (rg : r ≠ g) (rb : r ≠ bc) (ro : .ref r ≠ vo) :
    MetFree l (⟨"com/example/brancher/brancher/service/Group", "rest", "(IILjava/util/BitSet;I)V"⟩ : MethodName) (head1 (Jvm.Cond.code (⟨"com/example/brancher/brancher/service/Group", "rest", "(IILjava/util/BitSet;I)V"⟩ : MethodName) prog_74_method_5_code 5 none :: ws) ({ frames := 1, cells := 1, slots := 4, locals := 14 } : Room)) (fun aa UU => aa = #[(.ref g), (.int (0 : Int32)), (.int kk), (.ref x1), (.int (4 : Int32))] ∧ Z.Warmed39 UU.vm ∧ UU.heap = h0) (fun _ _ _ _ _ => True) (fun _ UU oo UU' => ∃ vv LL, oo = .returned vv ∧ Q20m0ru1 Z g x1 x2 bc kk kc vo Lm Lo u2 M0 M1 r kr h0 n0 vv UU'.heap LL ∧ FrameEnd UU oo UU' LL ({ frames := 1, cells := 1, slots := 4, locals := 14 } : Room).cells ({ frames := 1, cells := 1, slots := 4, locals := 14 } : Room).slots) := by
  have W : ∀ {d : Jvm.Cond} (i : Nat), tables_1[i]? = some d → d.before a0 Z = true := fun i h => hw _ (List.mem_of_getElem? h)
  refine MetFree.of_bodySF (plainFor_of_name pn198) hisR ?_
  intro p e s m args below meth c s₁ Bd hml0 hP hK
  obtain ⟨rfl, hZ, hh⟩ := hP
  have hx := Bd.exec
  have hby := Bd.bytes
  have hml : c.maxLocals = 5 := hml0
  have hown : s.vm.findClass "com/example/brancher/brancher/service/Group" = some m.cls := findClass_of_methodNamed Bd.named
  have hnm := (name_of_methodNamed Bd.named Bd.method).1
  have X0 : Stand p l e ({ frames := 1, cells := 1, slots := 4, locals := 14 } : Room) s m #[(.ref g), (.int (0 : Int32)), (.int kk), (.ref x1), (.int (4 : Int32))] below meth c s₁ [] 0 0 := Stand.of_body Bd
  have e0 : s₁.heap = h0 := by rw [← hh, Bd.state]; rfl
  have N0 := Fr.nil n0
  have pre0 : ∀ tt, Steps p.tables e below (s₁.setTop (mkF m 0 #[rv g, iv (0 : Int32), iv kk, rv x1, iv (4 : Int32)] [])) tt → Steps p.tables e below (s₁.setTop (entryFrame m #[(.ref g), (.int (0 : Int32)), (.int kk), (.ref x1), (.int (4 : Int32))] 5)) tt := fun tt kt => castTop (ef20m0ru1 m g (0 : Int32) kk x1 (4 : Int32)) kt
  obtain ⟨ST, hST⟩ : ∃ z : State, z = s₁.setTop (mkF m 0 #[rv g, iv (0 : Int32), iv kk, rv x1, iv (4 : Int32)] []) := ⟨_, rfl⟩
  rw [← hST] at pre0
  have nx1_bc := (own_arvne E1 (W 1 rfl) Vc)
  have nx2_bc := (own_arvne E2 (W 1 rfl) Vc)
  have nx1_r := (own_arvne E1 (W 1 rfl) Vr)
  have nx2_r := (own_arvne E2 (W 1 rfl) Vr)
  have KC0 : Keep h0 h0 [r] := Keep.refl h0 [r]
  have go694 : own_S p e below ST s₁ (mkF m 1 #[rv g, iv (0 : Int32), iv kk, rv x1, iv (4 : Int32)] [(.ref g)]) := fun tt kt => (by
      rw [hST]
      show Steps p.tables e below (s₁.setTop (mkF m 0 #[rv g, iv (0 : Int32), iv kk, rv x1, iv (4 : Int32)] [])) _
      refine XS.aloadN X0.here hx rfl (hb hby d20_0) rfl rfl ?_
      exact kt)
  obtain ⟨T695, X695, e695, st695⟩ := getF X0 hx hZ hown (host := "") (Or.inl (W 88 rfl)) Via.refl e0 Fc (g := (mkF m 1 #[rv g, iv (0 : Int32), iv kk, rv x1, iv (4 : Int32)] [(.ref g)])) rfl rfl (hb hby d20_1)
  have go696 : own_S p e below ST T695 (mkF m 4 #[rv g, iv (0 : Int32), iv kk, rv x1, iv (4 : Int32)] [(.ref bc)]) := fun tt kt => go694 tt (st695 _ kt)
  have go697 : own_S p e below ST T695 (mkF m 5 #[rv g, iv (0 : Int32), iv kk, rv x1, iv (4 : Int32)] [(.int (0 : Int32)), (.ref bc)]) := fun tt kt => go696 tt (by
      refine XS.iloadN X695.here hx rfl (hb hby d20_4) rfl ?_
      exact kt)
  obtain ⟨cl698, Ar698, q698, S698, M698, H698, G698⟩ := id Vc
  have hin698 : ¬ ((0 : Int32) < 0 ∨ cl698.slots.size ≤ ((0 : Int32)).toNatClampNeg) := inb_of S698 ⟨by decide, by decide⟩
  have hat698 : cl698.slots[((0 : Int32)).toNatClampNeg]? = some (.ref r) := H698.at hin698 rfl
  have go699 : own_S p e below ST T695 (mkF m 6 #[rv g, iv (0 : Int32), iv kk, rv x1, iv (4 : Int32)] [(.ref r)]) := fun tt kt => go697 tt (by
      refine X695.aaload hx (j := (0 : Int32)) (v := (.ref r)) (by rw [e695]; exact Ar698.1) (State.isArrayOf_alike hZ.alike Ar698.2.1) rfl Ar698.2.2 hin698 hat698 (g := (mkF m 5 #[rv g, iv (0 : Int32), iv kk, rv x1, iv (4 : Int32)] [(.int (0 : Int32)), (.ref bc)])) rfl rfl (hb hby d20_5) _ ?_
      exact kt)
  have go700 : own_S p e below ST T695 (mkF m 28 #[rv g, iv (0 : Int32), iv kk, rv x1, iv (4 : Int32)] [(.ref g)]) := fun tt kt => go699 tt (by
      refine XS.ifnonnullYes X695.here hx rfl (pc0 := 6) (pc' := 27) rfl (hb hby d20_6) rfl (by decide) (by decide) ?_
      refine XS.aloadN X695.here hx rfl (hb hby d20_27) rfl rfl ?_
      exact kt)
  obtain ⟨T701, X701, e701, st701⟩ := getF X695 hx hZ hown (host := "") (Or.inl (W 88 rfl)) Via.refl e695 Fc (g := (mkF m 28 #[rv g, iv (0 : Int32), iv kk, rv x1, iv (4 : Int32)] [(.ref g)])) rfl rfl (hb hby d20_28)
  have go702 : own_S p e below ST T701 (mkF m 31 #[rv g, iv (0 : Int32), iv kk, rv x1, iv (4 : Int32)] [(.ref bc)]) := fun tt kt => go700 tt (st701 _ kt)
  have go703 : own_S p e below ST T701 (mkF m 32 #[rv g, iv (0 : Int32), iv kk, rv x1, iv (4 : Int32)] [(.int (0 : Int32)), (.ref bc)]) := fun tt kt => go702 tt (by
      refine XS.iloadN X701.here hx rfl (hb hby d20_31) rfl ?_
      exact kt)
  obtain ⟨cl704, Ar704, q704, S704, M704, H704, G704⟩ := id Vc
  have hin704 : ¬ ((0 : Int32) < 0 ∨ cl704.slots.size ≤ ((0 : Int32)).toNatClampNeg) := inb_of S704 ⟨by decide, by decide⟩
  have hat704 : cl704.slots[((0 : Int32)).toNatClampNeg]? = some (.ref r) := H704.at hin704 rfl
  have go705 : own_S p e below ST T701 (mkF m 33 #[rv g, iv (0 : Int32), iv kk, rv x1, iv (4 : Int32)] [(.ref r)]) := fun tt kt => go703 tt (by
      refine X701.aaload hx (j := (0 : Int32)) (v := (.ref r)) (by rw [e701]; exact Ar704.1) (State.isArrayOf_alike hZ.alike Ar704.2.1) rfl Ar704.2.2 hin704 hat704 (g := (mkF m 32 #[rv g, iv (0 : Int32), iv kk, rv x1, iv (4 : Int32)] [(.int (0 : Int32)), (.ref bc)])) rfl rfl (hb hby d20_32) _ ?_
      exact kt)
  have go706 : own_S p e below ST T701 (mkF m 37 #[rv g, iv (0 : Int32), iv kk, rv x1, iv (4 : Int32)] [(.ref g)]) := fun tt kt => go705 tt (by
      refine XS.ifnullNo X701.here hx rfl (hb hby d20_33) rfl ?_
      refine XS.aloadN X701.here hx rfl (hb hby d20_36) rfl rfl ?_
      exact kt)
  obtain ⟨T707, X707, e707, st707⟩ := getF X701 hx hZ hown (host := "") (Or.inl (W 88 rfl)) Via.refl e701 Fc (g := (mkF m 37 #[rv g, iv (0 : Int32), iv kk, rv x1, iv (4 : Int32)] [(.ref g)])) rfl rfl (hb hby d20_37)
  have go708 : own_S p e below ST T707 (mkF m 40 #[rv g, iv (0 : Int32), iv kk, rv x1, iv (4 : Int32)] [(.ref bc)]) := fun tt kt => go706 tt (st707 _ kt)
  have go709 : own_S p e below ST T707 (mkF m 41 #[rv g, iv (0 : Int32), iv kk, rv x1, iv (4 : Int32)] [(.int (0 : Int32)), (.ref bc)]) := fun tt kt => go708 tt (by
      refine XS.iloadN X707.here hx rfl (hb hby d20_40) rfl ?_
      exact kt)
  obtain ⟨cl710, Ar710, q710, S710, M710, H710, G710⟩ := id Vc
  have hin710 : ¬ ((0 : Int32) < 0 ∨ cl710.slots.size ≤ ((0 : Int32)).toNatClampNeg) := inb_of S710 ⟨by decide, by decide⟩
  have hat710 : cl710.slots[((0 : Int32)).toNatClampNeg]? = some (.ref r) := H710.at hin710 rfl
  have go711 : own_S p e below ST T707 (mkF m 42 #[rv g, iv (0 : Int32), iv kk, rv x1, iv (4 : Int32)] [(.ref r)]) := fun tt kt => go709 tt (by
      refine X707.aaload hx (j := (0 : Int32)) (v := (.ref r)) (by rw [e707]; exact Ar710.1) (State.isArrayOf_alike hZ.alike Ar710.2.1) rfl Ar710.2.2 hin710 hat710 (g := (mkF m 41 #[rv g, iv (0 : Int32), iv kk, rv x1, iv (4 : Int32)] [(.int (0 : Int32)), (.ref bc)])) rfl rfl (hb hby d20_41) _ ?_
      exact kt)
  have go712 : own_S p e below ST T707 (mkF m 44 #[rv g, iv (0 : Int32), iv kk, rv x1, iv (4 : Int32)] [(.ref x1), (.int kk), (.ref r)]) := fun tt kt => go711 tt (by
      refine XS.iloadN X707.here hx rfl (hb hby d20_42) rfl ?_
      refine XS.aloadN X707.here hx rfl (hb hby d20_43) rfl rfl ?_
      exact kt)
  obtain ⟨cq713, kq713, q713a, q713b, q713c⟩ := isOf hZ e707 E1
  obtain ⟨_, _, ⟨T713, L713, k713, n713⟩, -, X713, ⟨Lc713, hQ713, l713, y713, z713⟩, st713⟩ := X707.virtualBack hx (y := (⟨"java/util/BitSet", "isEmpty", "()Z"⟩ : MethodName)) (z := (⟨"java/util/BitSet", "isEmpty", "()Z"⟩ : MethodName)) hown (mvT hZ (W 157 rfl)) (mvT hZ (W 158 rfl)) (notFace_of_selects (args := #[]) (mvT hZ (W 160 rfl))) (mvT hZ (W 160 rfl)) (mvT hZ (W 159 rfl)) (by decide) (backOf (W := 2) (rm21u1 l Z a0 hw [] x1 h0 n0 Z0 F1) hZ (W 161 rfl) (W 2 rfl) (by decide) (by decide)) q713a q713c (g := (mkF m 44 #[rv g, iv (0 : Int32), iv kk, rv x1, iv (4 : Int32)] [(.ref x1), (.int kk), (.ref r)])) rfl (by rw [hml]; rfl) (Steps.refl _) (argsL := []) (rest := [(.int kk), (.ref r)]) (lenOf pd269 rfl) rfl (by show 2 * 0 + _ ≤ _; exact Nat.le_of_eq rfl) (hb hby d20_44) (fun _ _ => ⟨rfl, e707, (by decide : 0 + 0 ≤ _), (by decide : 0 + 0 ≤ _)⟩)
  dsimp only [Pt.U, Pt.locs, Pt.cells, Pt.slots] at X713 l713 y713 z713 st713 hQ713
  subst l713 y713 z713
  obtain ⟨rfl, Nq713, eh713⟩ := hQ713
  have N713 := Fr.app N0 Nq713
  have go714 : own_S p e below ST T713 (mkF m 47 #[rv g, iv (0 : Int32), iv kk, rv x1, iv (4 : Int32)] [(.int (0 : Int32)), (.int kk), (.ref r)]) := fun tt kt => go712 tt (st713.trans kt)
  have go715 : own_S p e below ST T713 (mkF m 55 #[rv g, iv (0 : Int32), iv kk, rv x1, iv (4 : Int32)] [(.ref x1), (.int kk), (.ref r)]) := fun tt kt => go714 tt (by
      refine XS.ifYes X713.here hx rfl (pc0 := 47) (pc' := 54) rfl (hb hby d20_47) rfl ((if0 _ _).trans (teq (by decide : (0 : Int32) = (0 : Int32))).1) (by decide) (by decide) ?_
      refine XS.aloadN X713.here hx rfl (hb hby d20_54) rfl rfl ?_
      exact kt)
  obtain ⟨cl716, Ar716, q716, S716, M716, H716, G716⟩ := id Vr
  have hin716 : ¬ (kk < 0 ∨ cl716.slots.size ≤ (kk).toNatClampNeg) := inb_of S716 (own_in4 hk)
  obtain ⟨T716, h716, X716, e716, W716, st716⟩ := stR X713 hx hZ eh713 Ar716 (j := kk) hin716 rfl (Sto.ofV Ar716 q716 Or1 (Ins.self E1)) (g := (mkF m 55 #[rv g, iv (0 : Int32), iv kk, rv x1, iv (4 : Int32)] [(.ref x1), (.int kk), (.ref r)])) rfl rfl (hb hby d20_55)
  have V716 : Arv Z h716 r kr (.object "java/util/BitSet") (4 : Int32) (Lm.set (kk).toNatClampNeg (.ref x1)) .null := Arv.set Ar716 q716 S716 M716 H716 G716 rfl W716 _ rfl (own_lt4 hk lr)
  have N716 := Fr.snoc X716 N713 gr
  have KC716 : Keep h0 h716 [r] := KC0.wr W716 (Or.inl (List.mem_of_getElem? (i := 0) rfl))
  have go717 : own_S p e below ST T716 (mkF m 56 #[rv g, iv (0 : Int32), iv kk, rv x1, iv (4 : Int32)] []) := fun tt kt => go715 tt (st716 _ kt)
  have f718 := (Fc.other W716 (Or.inl (Ne.symm rg)))
  have f719 := (Vc.other W716 (Ne.symm rb))
  have f720 := (E2.wr W716)
  have f721 := (F2.other W716 (Or.inl nx2_r))
  have f722 := (Eg.wr W716)
  have f723 := (OL.wr W716 gr)
  obtain ⟨fs, hr, hrun, hended, hW, hsame⟩ := X716.leave (v := none) (fun _ => rfl) (hlocks := by first | exact BodyLoose.notSynchronized Bd | exact Body.notSynchronized Bd)
  refine ⟨_, _, pre0 _ (go717 _ ?_), hrun, hended, _, _, rfl, ?_, ⟨_, rfl⟩, hW, hsame.mono (by decide) (by decide)⟩
  · exact X716.returnOut hx Bd.returns (hb hby d20_56) hr
  · show Q20m0ru1 Z g x1 x2 bc kk kc vo Lm Lo u2 M0 M1 r kr h0 n0 _ T716.heap _
    rw [e716]
    exact ⟨rfl, N716, f723, ⟨bc, kc, (.ref r), vo, f718, f719, OA, Or.inr ⟨r, _, rfl, (by rw [hMm]; exact V716), Or1, (by rw [hMm, List.length_set]; exact lr), gr, rg, rb⟩, (by rw [hMo]; exact own_rowk Ro KC716 (fun r1 e => ninS (fun z => ro (by rw [e, z])) nin0)), Or.inr ro, gb, ng, (by rw [hMm, List.length_set]; exact lr), (by rw [hMo]; exact lo)⟩, f720, f721, f722, KC716.1⟩
theorem ef20m1nu0 (m : MethodId) (x0 : Addr) (x1 : Int32) (x2 : Int32) (x3 : Addr) (x4 : Int32) : entryFrame m #[(.ref x0), (.int x1), (.int x2), (.ref x3), (.int x4)] 5 = mkF m 0 #[.val (.ref x0), .val (.int x1), .val (.int x2), .val (.ref x3), .val (.int x4)] [] := by first | (simp [entryFrame, mkF, argsToLocals, Value.category]; done) | rfl
def Q20m1nu0 (Z : State) (g : Addr) (x1 : Addr) (x2 : Addr) (bc : Addr) (kk : Int32) (kc : ClassId) (vo : Value) (Lm : List Value) (Lo : List Value) (u2 : Value) (M0 : List Value) (M1 : List Value) (h0 : Heap) (n0 : Nat) (v : Option Value) (h : Heap) (L : List Loc) : Prop := v = none ∧ Fr n0 L ∧ Old Z n0 h ∧ own_GR Z h n0 g M0 M1 ∧ Exa Z h x2 "java/util/BitSet" ∧ Fld Z h x2 "java/util/BitSet" "wordsInUse" "I" u2 ∧ Exa Z h g "com/example/brancher/brancher/service/Group" ∧ h0.size ≤ h.size
set_option maxRecDepth 65536 in
set_option maxHeartbeats 40000000 in
theorem rm20m1nu0 (l : Launch) (Z : State) (a0 : Array Value) (hw : ∀ d ∈ tables_1, d.before a0 Z = true) (ws : List Jvm.Cond) (g : Addr) (x1 : Addr) (x2 : Addr) (bc : Addr) (kk : Int32) (kc : ClassId) (vo : Value) (Lm : List Value) (Lo : List Value) (u2 : Value) (M0 : List Value) (M1 : List Value) (h0 : Heap) (n0 : Nat) (Z0 : n0 ≤ h0.size) (Fc : Fld Z h0 g "com/example/brancher/brancher/service/Group" "choices" "[[Ljava/util/BitSet;" (.ref bc)) (Vc : Arv Z h0 bc kc (.array (.object "java/util/BitSet")) (2 : Int32) [vo, .null] .null) (OA : OvrA Z kc (.object "java/util/BitSet") "[Ljava/util/BitSet;") (hk : kk = 0 ∨ kk = 1 ∨ kk = 2 ∨ kk = 3) (OL : Old Z n0 h0) (Eg : Exa Z h0 g "com/example/brancher/brancher/service/Group") (gb : n0 ≤ bc) (ng : g ≠ bc) (E1 : Exa Z h0 x1 "java/util/BitSet") (F1 : Fld Z h0 x1 "java/util/BitSet" "wordsInUse" "I" (.int (0 : Int32))) (E2 : Exa Z h0 x2 "java/util/BitSet") (F2 : Fld Z h0 x2 "java/util/BitSet" "wordsInUse" "I" u2) (Ro : own_row Z h0 n0 g bc vo Lo) (lo : Lo.length = 4) (hMm : M1 = Lm.set (kk).toNatClampNeg .null) (hMo : M0 = Lo) (hLm : Lm = [.null, .null, .null, .null]) :
    MetFree l (⟨"com/example/brancher/brancher/service/Group", "rest", "(IILjava/util/BitSet;I)V"⟩ : MethodName) (head1 (Jvm.Cond.code (⟨"com/example/brancher/brancher/service/Group", "rest", "(IILjava/util/BitSet;I)V"⟩ : MethodName) prog_74_method_5_code 5 none :: ws) ({ frames := 1, cells := 1, slots := 4, locals := 14 } : Room)) (fun aa UU => aa = #[(.ref g), (.int (1 : Int32)), (.int kk), (.ref x1), (.int (4 : Int32))] ∧ Z.Warmed39 UU.vm ∧ UU.heap = h0) (fun _ _ _ _ _ => True) (fun _ UU oo UU' => ∃ vv LL, oo = .returned vv ∧ Q20m1nu0 Z g x1 x2 bc kk kc vo Lm Lo u2 M0 M1 h0 n0 vv UU'.heap LL ∧ FrameEnd UU oo UU' LL ({ frames := 1, cells := 1, slots := 4, locals := 14 } : Room).cells ({ frames := 1, cells := 1, slots := 4, locals := 14 } : Room).slots) := by
  have W : ∀ {d : Jvm.Cond} (i : Nat), tables_1[i]? = some d → d.before a0 Z = true := fun i h => hw _ (List.mem_of_getElem? h)
  refine MetFree.of_bodySF (plainFor_of_name pn198) hisR ?_
  intro p e s m args below meth c s₁ Bd hml0 hP hK
  obtain ⟨rfl, hZ, hh⟩ := hP
  have hx := Bd.exec
  have hby := Bd.bytes
  have hml : c.maxLocals = 5 := hml0
  have hown : s.vm.findClass "com/example/brancher/brancher/service/Group" = some m.cls := findClass_of_methodNamed Bd.named
  have hnm := (name_of_methodNamed Bd.named Bd.method).1
  have X0 : Stand p l e ({ frames := 1, cells := 1, slots := 4, locals := 14 } : Room) s m #[(.ref g), (.int (1 : Int32)), (.int kk), (.ref x1), (.int (4 : Int32))] below meth c s₁ [] 0 0 := Stand.of_body Bd
  have e0 : s₁.heap = h0 := by rw [← hh, Bd.state]; rfl
  have N0 := Fr.nil n0
  have pre0 : ∀ tt, Steps p.tables e below (s₁.setTop (mkF m 0 #[rv g, iv (1 : Int32), iv kk, rv x1, iv (4 : Int32)] [])) tt → Steps p.tables e below (s₁.setTop (entryFrame m #[(.ref g), (.int (1 : Int32)), (.int kk), (.ref x1), (.int (4 : Int32))] 5)) tt := fun tt kt => castTop (ef20m1nu0 m g (1 : Int32) kk x1 (4 : Int32)) kt
  obtain ⟨ST, hST⟩ : ∃ z : State, z = s₁.setTop (mkF m 0 #[rv g, iv (1 : Int32), iv kk, rv x1, iv (4 : Int32)] []) := ⟨_, rfl⟩
  rw [← hST] at pre0
  have nx1_bc := (own_arvne E1 (W 1 rfl) Vc)
  have nx2_bc := (own_arvne E2 (W 1 rfl) Vc)
  have KC0 : Keep h0 h0 [] := Keep.refl h0 []
  have go724 : own_S p e below ST s₁ (mkF m 1 #[rv g, iv (1 : Int32), iv kk, rv x1, iv (4 : Int32)] [(.ref g)]) := fun tt kt => (by
      rw [hST]
      show Steps p.tables e below (s₁.setTop (mkF m 0 #[rv g, iv (1 : Int32), iv kk, rv x1, iv (4 : Int32)] [])) _
      refine XS.aloadN X0.here hx rfl (hb hby d20_0) rfl rfl ?_
      exact kt)
  obtain ⟨T725, X725, e725, st725⟩ := getF X0 hx hZ hown (host := "") (Or.inl (W 88 rfl)) Via.refl e0 Fc (g := (mkF m 1 #[rv g, iv (1 : Int32), iv kk, rv x1, iv (4 : Int32)] [(.ref g)])) rfl rfl (hb hby d20_1)
  have go726 : own_S p e below ST T725 (mkF m 4 #[rv g, iv (1 : Int32), iv kk, rv x1, iv (4 : Int32)] [(.ref bc)]) := fun tt kt => go724 tt (st725 _ kt)
  have go727 : own_S p e below ST T725 (mkF m 5 #[rv g, iv (1 : Int32), iv kk, rv x1, iv (4 : Int32)] [(.int (1 : Int32)), (.ref bc)]) := fun tt kt => go726 tt (by
      refine XS.iloadN X725.here hx rfl (hb hby d20_4) rfl ?_
      exact kt)
  obtain ⟨cl728, Ar728, q728, S728, M728, H728, G728⟩ := id Vc
  have hin728 : ¬ ((1 : Int32) < 0 ∨ cl728.slots.size ≤ ((1 : Int32)).toNatClampNeg) := inb_of S728 ⟨by decide, by decide⟩
  have hat728 : cl728.slots[((1 : Int32)).toNatClampNeg]? = some .null := H728.at hin728 rfl
  have go729 : own_S p e below ST T725 (mkF m 6 #[rv g, iv (1 : Int32), iv kk, rv x1, iv (4 : Int32)] [.null]) := fun tt kt => go727 tt (by
      refine X725.aaload hx (j := (1 : Int32)) (v := .null) (by rw [e725]; exact Ar728.1) (State.isArrayOf_alike hZ.alike Ar728.2.1) rfl Ar728.2.2 hin728 hat728 (g := (mkF m 5 #[rv g, iv (1 : Int32), iv kk, rv x1, iv (4 : Int32)] [(.int (1 : Int32)), (.ref bc)])) rfl rfl (hb hby d20_5) _ ?_
      exact kt)
  have go730 : own_S p e below ST T725 (mkF m 10 #[rv g, iv (1 : Int32), iv kk, rv x1, iv (4 : Int32)] [(.ref x1)]) := fun tt kt => go729 tt (by
      refine XS.ifnonnullNo X725.here hx rfl (hb hby d20_6) rfl ?_
      refine XS.aloadN X725.here hx rfl (hb hby d20_9) rfl rfl ?_
      exact kt)
  obtain ⟨cq731, kq731, q731a, q731b, q731c⟩ := isOf hZ e725 E1
  obtain ⟨_, _, ⟨T731, L731, k731, n731⟩, -, X731, ⟨Lc731, hQ731, l731, y731, z731⟩, st731⟩ := X725.virtualBack hx (y := (⟨"java/util/BitSet", "isEmpty", "()Z"⟩ : MethodName)) (z := (⟨"java/util/BitSet", "isEmpty", "()Z"⟩ : MethodName)) hown (mvT hZ (W 157 rfl)) (mvT hZ (W 158 rfl)) (notFace_of_selects (args := #[]) (mvT hZ (W 160 rfl))) (mvT hZ (W 160 rfl)) (mvT hZ (W 159 rfl)) (by decide) (backOf (W := 0) (rm21u0 l Z a0 hw [] x1 h0 n0 Z0 F1) hZ (W 161 rfl) (W 2 rfl) (by decide) (by decide)) q731a q731c (g := (mkF m 10 #[rv g, iv (1 : Int32), iv kk, rv x1, iv (4 : Int32)] [(.ref x1)])) rfl (by rw [hml]; rfl) (Steps.refl _) (argsL := []) (rest := []) (lenOf pd269 rfl) rfl (by show 2 * 0 + _ ≤ _; exact Nat.le_of_eq rfl) (hb hby d20_10) (fun _ _ => ⟨rfl, e725, (by decide : 0 + 0 ≤ _), (by decide : 0 + 0 ≤ _)⟩)
  dsimp only [Pt.U, Pt.locs, Pt.cells, Pt.slots] at X731 l731 y731 z731 st731 hQ731
  subst l731 y731 z731
  obtain ⟨rfl, Nq731, eh731⟩ := hQ731
  have N731 := Fr.app N0 Nq731
  have go732 : own_S p e below ST T731 (mkF m 13 #[rv g, iv (1 : Int32), iv kk, rv x1, iv (4 : Int32)] [(.int (1 : Int32))]) := fun tt kt => go730 tt (st731.trans kt)
  have go733 : own_S p e below ST T731 (mkF m 28 #[rv g, iv (1 : Int32), iv kk, rv x1, iv (4 : Int32)] [(.ref g)]) := fun tt kt => go732 tt (by
      refine XS.ifYes X731.here hx rfl (pc0 := 13) (pc' := 27) rfl (hb hby d20_13) rfl ((if0 _ _).trans (feq (by decide : ¬ ((1 : Int32) = (0 : Int32)))).2) (by decide) (by decide) ?_
      refine XS.aloadN X731.here hx rfl (hb hby d20_27) rfl rfl ?_
      exact kt)
  obtain ⟨T734, X734, e734, st734⟩ := getF X731 hx hZ hown (host := "") (Or.inl (W 88 rfl)) Via.refl eh731 Fc (g := (mkF m 28 #[rv g, iv (1 : Int32), iv kk, rv x1, iv (4 : Int32)] [(.ref g)])) rfl rfl (hb hby d20_28)
  have go735 : own_S p e below ST T734 (mkF m 31 #[rv g, iv (1 : Int32), iv kk, rv x1, iv (4 : Int32)] [(.ref bc)]) := fun tt kt => go733 tt (st734 _ kt)
  have go736 : own_S p e below ST T734 (mkF m 32 #[rv g, iv (1 : Int32), iv kk, rv x1, iv (4 : Int32)] [(.int (1 : Int32)), (.ref bc)]) := fun tt kt => go735 tt (by
      refine XS.iloadN X734.here hx rfl (hb hby d20_31) rfl ?_
      exact kt)
  obtain ⟨cl737, Ar737, q737, S737, M737, H737, G737⟩ := id Vc
  have hin737 : ¬ ((1 : Int32) < 0 ∨ cl737.slots.size ≤ ((1 : Int32)).toNatClampNeg) := inb_of S737 ⟨by decide, by decide⟩
  have hat737 : cl737.slots[((1 : Int32)).toNatClampNeg]? = some .null := H737.at hin737 rfl
  have go738 : own_S p e below ST T734 (mkF m 33 #[rv g, iv (1 : Int32), iv kk, rv x1, iv (4 : Int32)] [.null]) := fun tt kt => go736 tt (by
      refine X734.aaload hx (j := (1 : Int32)) (v := .null) (by rw [e734]; exact Ar737.1) (State.isArrayOf_alike hZ.alike Ar737.2.1) rfl Ar737.2.2 hin737 hat737 (g := (mkF m 32 #[rv g, iv (1 : Int32), iv kk, rv x1, iv (4 : Int32)] [(.int (1 : Int32)), (.ref bc)])) rfl rfl (hb hby d20_32) _ ?_
      exact kt)
  have go739 : own_S p e below ST T734 (mkF m 56 #[rv g, iv (1 : Int32), iv kk, rv x1, iv (4 : Int32)] []) := fun tt kt => go738 tt (by
      refine XS.ifnullYes X734.here hx rfl (pc0 := 33) (pc' := 56) rfl (hb hby d20_33) rfl (by decide) (by decide) ?_
      exact kt)
  obtain ⟨fs, hr, hrun, hended, hW, hsame⟩ := X734.leave (v := none) (fun _ => rfl) (hlocks := by first | exact BodyLoose.notSynchronized Bd | exact Body.notSynchronized Bd)
  refine ⟨_, _, pre0 _ (go739 _ ?_), hrun, hended, _, _, rfl, ?_, ⟨_, rfl⟩, hW, hsame.mono (by decide) (by decide)⟩
  · exact X734.returnOut hx Bd.returns (hb hby d20_56) hr
  · show Q20m1nu0 Z g x1 x2 bc kk kc vo Lm Lo u2 M0 M1 h0 n0 _ T734.heap _
    rw [e734]
    exact ⟨rfl, N731, OL, ⟨bc, kc, vo, .null, Fc, Vc, OA, (by rw [hMo]; exact Ro), Or.inl ⟨rfl, (by rw [hMm, hLm]; exact own_setn hk)⟩, (by rcases own_rowlt Ro with z | ⟨r2, z, _⟩; (· exact Or.inl z); (· exact Or.inr (by rw [z]; simp))), gb, ng, (by rw [hMo]; exact lo), (by rw [hMm, List.length_set, hLm]; rfl)⟩, E2, F2, Eg, KC0.1⟩
theorem ef20m1nu1 (m : MethodId) (x0 : Addr) (x1 : Int32) (x2 : Int32) (x3 : Addr) (x4 : Int32) : entryFrame m #[(.ref x0), (.int x1), (.int x2), (.ref x3), (.int x4)] 5 = mkF m 0 #[.val (.ref x0), .val (.int x1), .val (.int x2), .val (.ref x3), .val (.int x4)] [] := by first | (simp [entryFrame, mkF, argsToLocals, Value.category]; done) | rfl
def Q20m1nu1 (Z : State) (g : Addr) (x1 : Addr) (x2 : Addr) (bc : Addr) (kk : Int32) (kc : ClassId) (vo : Value) (Lm : List Value) (Lo : List Value) (u2 : Value) (M0 : List Value) (M1 : List Value) (h0 : Heap) (n0 : Nat) (v : Option Value) (h : Heap) (L : List Loc) : Prop := v = none ∧ Fr n0 L ∧ Old Z n0 h ∧ own_GR Z h n0 g M0 M1 ∧ Exa Z h x2 "java/util/BitSet" ∧ Fld Z h x2 "java/util/BitSet" "wordsInUse" "I" u2 ∧ Exa Z h g "com/example/brancher/brancher/service/Group" ∧ h0.size ≤ h.size
set_option maxRecDepth 65536 in
set_option maxHeartbeats 40000000 in
theorem rm20m1nu1 (l : Launch) (Z : State) (a0 : Array Value) (hw : ∀ d ∈ tables_1, d.before a0 Z = true) (ws : List Jvm.Cond) (g : Addr) (x1 : Addr) (x2 : Addr) (bc : Addr) (kk : Int32) (kc : ClassId) (vo : Value) (Lm : List Value) (Lo : List Value) (u2 : Value) (M0 : List Value) (M1 : List Value) (h0 : Heap) (n0 : Nat) (Z0 : n0 ≤ h0.size) (Fc : Fld Z h0 g "com/example/brancher/brancher/service/Group" "choices" "[[Ljava/util/BitSet;" (.ref bc)) (Vc : Arv Z h0 bc kc (.array (.object "java/util/BitSet")) (2 : Int32) [vo, .null] .null) (OA : OvrA Z kc (.object "java/util/BitSet") "[Ljava/util/BitSet;") (hk : kk = 0 ∨ kk = 1 ∨ kk = 2 ∨ kk = 3) (OL : Old Z n0 h0) (Eg : Exa Z h0 g "com/example/brancher/brancher/service/Group") (gb : n0 ≤ bc) (ng : g ≠ bc) (E1 : Exa Z h0 x1 "java/util/BitSet") (F1 : Fld Z h0 x1 "java/util/BitSet" "wordsInUse" "I" (.int (1 : Int32))) (E2 : Exa Z h0 x2 "java/util/BitSet") (F2 : Fld Z h0 x2 "java/util/BitSet" "wordsInUse" "I" u2) (Ro : own_row Z h0 n0 g bc vo Lo) (lo : Lo.length = 4) (hMm : M1 = Lm.set (kk).toNatClampNeg (.ref x1)) (hMo : M0 = Lo) (hLm : Lm = [.null, .null, .null, .null]) :
    MetFree l (⟨"com/example/brancher/brancher/service/Group", "rest", "(IILjava/util/BitSet;I)V"⟩ : MethodName) (head1 (Jvm.Cond.code (⟨"com/example/brancher/brancher/service/Group", "rest", "(IILjava/util/BitSet;I)V"⟩ : MethodName) prog_74_method_5_code 5 none :: ws) ({ frames := 1, cells := 1, slots := 4, locals := 14 } : Room)) (fun aa UU => aa = #[(.ref g), (.int (1 : Int32)), (.int kk), (.ref x1), (.int (4 : Int32))] ∧ Z.Warmed39 UU.vm ∧ UU.heap = h0) (fun _ _ _ _ _ => True) (fun _ UU oo UU' => ∃ vv LL, oo = .returned vv ∧ Q20m1nu1 Z g x1 x2 bc kk kc vo Lm Lo u2 M0 M1 h0 n0 vv UU'.heap LL ∧ FrameEnd UU oo UU' LL ({ frames := 1, cells := 1, slots := 4, locals := 14 } : Room).cells ({ frames := 1, cells := 1, slots := 4, locals := 14 } : Room).slots) := by
  have W : ∀ {d : Jvm.Cond} (i : Nat), tables_1[i]? = some d → d.before a0 Z = true := fun i h => hw _ (List.mem_of_getElem? h)
  refine MetFree.of_bodySF (plainFor_of_name pn198) hisR ?_
  intro p e s m args below meth c s₁ Bd hml0 hP hK
  obtain ⟨rfl, hZ, hh⟩ := hP
  have hx := Bd.exec
  have hby := Bd.bytes
  have hml : c.maxLocals = 5 := hml0
  have hown : s.vm.findClass "com/example/brancher/brancher/service/Group" = some m.cls := findClass_of_methodNamed Bd.named
  have hnm := (name_of_methodNamed Bd.named Bd.method).1
  have X0 : Stand p l e ({ frames := 1, cells := 1, slots := 4, locals := 14 } : Room) s m #[(.ref g), (.int (1 : Int32)), (.int kk), (.ref x1), (.int (4 : Int32))] below meth c s₁ [] 0 0 := Stand.of_body Bd
  have e0 : s₁.heap = h0 := by rw [← hh, Bd.state]; rfl
  have N0 := Fr.nil n0
  have pre0 : ∀ tt, Steps p.tables e below (s₁.setTop (mkF m 0 #[rv g, iv (1 : Int32), iv kk, rv x1, iv (4 : Int32)] [])) tt → Steps p.tables e below (s₁.setTop (entryFrame m #[(.ref g), (.int (1 : Int32)), (.int kk), (.ref x1), (.int (4 : Int32))] 5)) tt := fun tt kt => castTop (ef20m1nu1 m g (1 : Int32) kk x1 (4 : Int32)) kt
  obtain ⟨ST, hST⟩ : ∃ z : State, z = s₁.setTop (mkF m 0 #[rv g, iv (1 : Int32), iv kk, rv x1, iv (4 : Int32)] []) := ⟨_, rfl⟩
  rw [← hST] at pre0
  have nx1_bc := (own_arvne E1 (W 1 rfl) Vc)
  have nx2_bc := (own_arvne E2 (W 1 rfl) Vc)
  have KC0 : Keep h0 h0 [bc] := Keep.refl h0 [bc]
  have go740 : own_S p e below ST s₁ (mkF m 1 #[rv g, iv (1 : Int32), iv kk, rv x1, iv (4 : Int32)] [(.ref g)]) := fun tt kt => (by
      rw [hST]
      show Steps p.tables e below (s₁.setTop (mkF m 0 #[rv g, iv (1 : Int32), iv kk, rv x1, iv (4 : Int32)] [])) _
      refine XS.aloadN X0.here hx rfl (hb hby d20_0) rfl rfl ?_
      exact kt)
  obtain ⟨T741, X741, e741, st741⟩ := getF X0 hx hZ hown (host := "") (Or.inl (W 88 rfl)) Via.refl e0 Fc (g := (mkF m 1 #[rv g, iv (1 : Int32), iv kk, rv x1, iv (4 : Int32)] [(.ref g)])) rfl rfl (hb hby d20_1)
  have go742 : own_S p e below ST T741 (mkF m 4 #[rv g, iv (1 : Int32), iv kk, rv x1, iv (4 : Int32)] [(.ref bc)]) := fun tt kt => go740 tt (st741 _ kt)
  have go743 : own_S p e below ST T741 (mkF m 5 #[rv g, iv (1 : Int32), iv kk, rv x1, iv (4 : Int32)] [(.int (1 : Int32)), (.ref bc)]) := fun tt kt => go742 tt (by
      refine XS.iloadN X741.here hx rfl (hb hby d20_4) rfl ?_
      exact kt)
  obtain ⟨cl744, Ar744, q744, S744, M744, H744, G744⟩ := id Vc
  have hin744 : ¬ ((1 : Int32) < 0 ∨ cl744.slots.size ≤ ((1 : Int32)).toNatClampNeg) := inb_of S744 ⟨by decide, by decide⟩
  have hat744 : cl744.slots[((1 : Int32)).toNatClampNeg]? = some .null := H744.at hin744 rfl
  have go745 : own_S p e below ST T741 (mkF m 6 #[rv g, iv (1 : Int32), iv kk, rv x1, iv (4 : Int32)] [.null]) := fun tt kt => go743 tt (by
      refine X741.aaload hx (j := (1 : Int32)) (v := .null) (by rw [e741]; exact Ar744.1) (State.isArrayOf_alike hZ.alike Ar744.2.1) rfl Ar744.2.2 hin744 hat744 (g := (mkF m 5 #[rv g, iv (1 : Int32), iv kk, rv x1, iv (4 : Int32)] [(.int (1 : Int32)), (.ref bc)])) rfl rfl (hb hby d20_5) _ ?_
      exact kt)
  have go746 : own_S p e below ST T741 (mkF m 10 #[rv g, iv (1 : Int32), iv kk, rv x1, iv (4 : Int32)] [(.ref x1)]) := fun tt kt => go745 tt (by
      refine XS.ifnonnullNo X741.here hx rfl (hb hby d20_6) rfl ?_
      refine XS.aloadN X741.here hx rfl (hb hby d20_9) rfl rfl ?_
      exact kt)
  obtain ⟨cq747, kq747, q747a, q747b, q747c⟩ := isOf hZ e741 E1
  obtain ⟨_, _, ⟨T747, L747, k747, n747⟩, -, X747, ⟨Lc747, hQ747, l747, y747, z747⟩, st747⟩ := X741.virtualBack hx (y := (⟨"java/util/BitSet", "isEmpty", "()Z"⟩ : MethodName)) (z := (⟨"java/util/BitSet", "isEmpty", "()Z"⟩ : MethodName)) hown (mvT hZ (W 157 rfl)) (mvT hZ (W 158 rfl)) (notFace_of_selects (args := #[]) (mvT hZ (W 160 rfl))) (mvT hZ (W 160 rfl)) (mvT hZ (W 159 rfl)) (by decide) (backOf (W := 0) (rm21u1 l Z a0 hw [] x1 h0 n0 Z0 F1) hZ (W 161 rfl) (W 2 rfl) (by decide) (by decide)) q747a q747c (g := (mkF m 10 #[rv g, iv (1 : Int32), iv kk, rv x1, iv (4 : Int32)] [(.ref x1)])) rfl (by rw [hml]; rfl) (Steps.refl _) (argsL := []) (rest := []) (lenOf pd269 rfl) rfl (by show 2 * 0 + _ ≤ _; exact Nat.le_of_eq rfl) (hb hby d20_10) (fun _ _ => ⟨rfl, e741, (by decide : 0 + 0 ≤ _), (by decide : 0 + 0 ≤ _)⟩)
  dsimp only [Pt.U, Pt.locs, Pt.cells, Pt.slots] at X747 l747 y747 z747 st747 hQ747
  subst l747 y747 z747
  obtain ⟨rfl, Nq747, eh747⟩ := hQ747
  have N747 := Fr.app N0 Nq747
  have go748 : own_S p e below ST T747 (mkF m 13 #[rv g, iv (1 : Int32), iv kk, rv x1, iv (4 : Int32)] [(.int (0 : Int32))]) := fun tt kt => go746 tt (st747.trans kt)
  have go749 : own_S p e below ST T747 (mkF m 17 #[rv g, iv (1 : Int32), iv kk, rv x1, iv (4 : Int32)] [(.ref g)]) := fun tt kt => go748 tt (by
      refine XS.ifNo X747.here hx rfl (hb hby d20_13) rfl ((if0 _ _).trans (teq (by decide : (0 : Int32) = (0 : Int32))).2) ?_
      refine XS.aloadN X747.here hx rfl (hb hby d20_16) rfl rfl ?_
      exact kt)
  obtain ⟨T750, X750, e750, st750⟩ := getF X747 hx hZ hown (host := "") (Or.inl (W 88 rfl)) Via.refl eh747 Fc (g := (mkF m 17 #[rv g, iv (1 : Int32), iv kk, rv x1, iv (4 : Int32)] [(.ref g)])) rfl rfl (hb hby d20_17)
  have go751 : own_S p e below ST T750 (mkF m 20 #[rv g, iv (1 : Int32), iv kk, rv x1, iv (4 : Int32)] [(.ref bc)]) := fun tt kt => go749 tt (st750 _ kt)
  have go752 : own_S p e below ST T750 (mkF m 23 #[rv g, iv (1 : Int32), iv kk, rv x1, iv (4 : Int32)] [(.int (4 : Int32)), (.int (1 : Int32)), (.ref bc)]) := fun tt kt => go751 tt (by
      refine XS.iloadN X750.here hx rfl (hb hby d20_20) rfl ?_
      refine XS.iload X750.here hx rfl (hb hby d20_21) rfl ?_
      exact kt)
  obtain ⟨b753, g753⟩ : ∃ z, z = h0.size := ⟨_, rfl⟩
  obtain ⟨T753, h753, k753, X753, e753, E753, A753, Ex753, O753, st753⟩ := newRE X750 hx hZ hown (W 162 rfl) (W 163 rfl) e750 (g := (mkF m 23 #[rv g, iv (1 : Int32), iv kk, rv x1, iv (4 : Int32)] [(.int (4 : Int32)), (.int (1 : Int32)), (.ref bc)])) rfl (hb hby d20_23) rfl (by decide) (cap := 4) (by decide) (by decide) (by decide) (by decide) (ad := "[Ljava/util/BitSet;") (by first | rfl | decide +kernel)
  rw [← g753] at A753 Ex753 st753
  have neg_b753 : g ≠ b753 := Nat.ne_of_lt (Nat.lt_of_lt_of_le Fc.lt (Nat.le_of_eq g753.symm))
  have nex1_b753 : x1 ≠ b753 := Nat.ne_of_lt (Nat.lt_of_lt_of_le E1.lt (Nat.le_of_eq g753.symm))
  have nex2_b753 : x2 ≠ b753 := Nat.ne_of_lt (Nat.lt_of_lt_of_le E2.lt (Nat.le_of_eq g753.symm))
  have nebc_b753 : bc ≠ b753 := Nat.ne_of_lt (Nat.lt_of_lt_of_le Vc.lt (Nat.le_of_eq g753.symm))
  have ge_b753 : n0 ≤ b753 := Nat.le_trans Z0 (Nat.le_of_eq g753.symm)
  have sz_b753 : h0.size ≤ b753 := Nat.le_trans KC0.1 (Nat.le_of_eq g753.symm)
  have V753 : Arv Z h753 b753 k753 (.object "java/util/BitSet") (4 : Int32) [.null, .null, .null, .null] .null := (Arv.new A753 (by decide)).pad (pad_rep [] .null 4)
  have KC753 : Keep h0 h753 [bc] := KC0.ext E753
  have go754 : own_S p e below ST T753 (mkF m 26 #[rv g, iv (1 : Int32), iv kk, rv x1, iv (4 : Int32)] [(.ref b753), (.int (1 : Int32)), (.ref bc)]) := fun tt kt => go752 tt (st753 _ kt)
  have f756 := (Vc.ext E753)
  obtain ⟨cl755, Ar755, q755, S755, M755, H755, G755⟩ := id f756
  have hin755 : ¬ ((1 : Int32) < 0 ∨ cl755.slots.size ≤ ((1 : Int32)).toNatClampNeg) := inb_of S755 ⟨by decide, by decide⟩
  obtain ⟨T755, h755, X755, e755, W755, st755⟩ := stR X753 hx hZ e753 Ar755 (j := (1 : Int32)) hin755 rfl (Sto.ofVA Ar755 q755 OA (Ins.self Ex753)) (g := (mkF m 26 #[rv g, iv (1 : Int32), iv kk, rv x1, iv (4 : Int32)] [(.ref b753), (.int (1 : Int32)), (.ref bc)])) rfl rfl (hb hby d20_26)
  have V755 : Arv Z h755 bc kc (.array (.object "java/util/BitSet")) (2 : Int32) [vo, (.ref b753)] .null := Arv.set Ar755 q755 S755 M755 H755 G755 rfl W755 1 rfl (Nat.le_of_ble_eq_true rfl)
  have N755 := Fr.snoc X755 N747 gb
  have KC755 : Keep h0 h755 [bc] := KC753.wr W755 (Or.inl (List.mem_of_getElem? (i := 0) rfl))
  have go757 : own_S p e below ST T755 (mkF m 27 #[rv g, iv (1 : Int32), iv kk, rv x1, iv (4 : Int32)] []) := fun tt kt => go754 tt (st755 _ kt)
  have go758 : own_S p e below ST T755 (mkF m 28 #[rv g, iv (1 : Int32), iv kk, rv x1, iv (4 : Int32)] [(.ref g)]) := fun tt kt => go757 tt (by
      refine XS.aloadN X755.here hx rfl (hb hby d20_27) rfl rfl ?_
      exact kt)
  have f759 := ((Fc.ext E753).other W755 (Or.inl ng))
  obtain ⟨T760, X760, e760, st760⟩ := getF X755 hx hZ hown (host := "") (Or.inl (W 88 rfl)) Via.refl e755 f759 (g := (mkF m 28 #[rv g, iv (1 : Int32), iv kk, rv x1, iv (4 : Int32)] [(.ref g)])) rfl rfl (hb hby d20_28)
  have go761 : own_S p e below ST T760 (mkF m 31 #[rv g, iv (1 : Int32), iv kk, rv x1, iv (4 : Int32)] [(.ref bc)]) := fun tt kt => go758 tt (st760 _ kt)
  have go762 : own_S p e below ST T760 (mkF m 32 #[rv g, iv (1 : Int32), iv kk, rv x1, iv (4 : Int32)] [(.int (1 : Int32)), (.ref bc)]) := fun tt kt => go761 tt (by
      refine XS.iloadN X760.here hx rfl (hb hby d20_31) rfl ?_
      exact kt)
  obtain ⟨cl763, Ar763, q763, S763, M763, H763, G763⟩ := id V755
  have hin763 : ¬ ((1 : Int32) < 0 ∨ cl763.slots.size ≤ ((1 : Int32)).toNatClampNeg) := inb_of S763 ⟨by decide, by decide⟩
  have hat763 : cl763.slots[((1 : Int32)).toNatClampNeg]? = some (.ref b753) := H763.at hin763 rfl
  have go764 : own_S p e below ST T760 (mkF m 33 #[rv g, iv (1 : Int32), iv kk, rv x1, iv (4 : Int32)] [(.ref b753)]) := fun tt kt => go762 tt (by
      refine X760.aaload hx (j := (1 : Int32)) (v := (.ref b753)) (by rw [e760]; exact Ar763.1) (State.isArrayOf_alike hZ.alike Ar763.2.1) rfl Ar763.2.2 hin763 hat763 (g := (mkF m 32 #[rv g, iv (1 : Int32), iv kk, rv x1, iv (4 : Int32)] [(.int (1 : Int32)), (.ref bc)])) rfl rfl (hb hby d20_32) _ ?_
      exact kt)
  have go765 : own_S p e below ST T760 (mkF m 37 #[rv g, iv (1 : Int32), iv kk, rv x1, iv (4 : Int32)] [(.ref g)]) := fun tt kt => go764 tt (by
      refine XS.ifnullNo X760.here hx rfl (hb hby d20_33) rfl ?_
      refine XS.aloadN X760.here hx rfl (hb hby d20_36) rfl rfl ?_
      exact kt)
  obtain ⟨T766, X766, e766, st766⟩ := getF X760 hx hZ hown (host := "") (Or.inl (W 88 rfl)) Via.refl e760 f759 (g := (mkF m 37 #[rv g, iv (1 : Int32), iv kk, rv x1, iv (4 : Int32)] [(.ref g)])) rfl rfl (hb hby d20_37)
  have go767 : own_S p e below ST T766 (mkF m 40 #[rv g, iv (1 : Int32), iv kk, rv x1, iv (4 : Int32)] [(.ref bc)]) := fun tt kt => go765 tt (st766 _ kt)
  have go768 : own_S p e below ST T766 (mkF m 41 #[rv g, iv (1 : Int32), iv kk, rv x1, iv (4 : Int32)] [(.int (1 : Int32)), (.ref bc)]) := fun tt kt => go767 tt (by
      refine XS.iloadN X766.here hx rfl (hb hby d20_40) rfl ?_
      exact kt)
  obtain ⟨cl769, Ar769, q769, S769, M769, H769, G769⟩ := id V755
  have hin769 : ¬ ((1 : Int32) < 0 ∨ cl769.slots.size ≤ ((1 : Int32)).toNatClampNeg) := inb_of S769 ⟨by decide, by decide⟩
  have hat769 : cl769.slots[((1 : Int32)).toNatClampNeg]? = some (.ref b753) := H769.at hin769 rfl
  have go770 : own_S p e below ST T766 (mkF m 42 #[rv g, iv (1 : Int32), iv kk, rv x1, iv (4 : Int32)] [(.ref b753)]) := fun tt kt => go768 tt (by
      refine X766.aaload hx (j := (1 : Int32)) (v := (.ref b753)) (by rw [e766]; exact Ar769.1) (State.isArrayOf_alike hZ.alike Ar769.2.1) rfl Ar769.2.2 hin769 hat769 (g := (mkF m 41 #[rv g, iv (1 : Int32), iv kk, rv x1, iv (4 : Int32)] [(.int (1 : Int32)), (.ref bc)])) rfl rfl (hb hby d20_41) _ ?_
      exact kt)
  have go771 : own_S p e below ST T766 (mkF m 44 #[rv g, iv (1 : Int32), iv kk, rv x1, iv (4 : Int32)] [(.ref x1), (.int kk), (.ref b753)]) := fun tt kt => go770 tt (by
      refine XS.iloadN X766.here hx rfl (hb hby d20_42) rfl ?_
      refine XS.aloadN X766.here hx rfl (hb hby d20_43) rfl rfl ?_
      exact kt)
  have f772 := ((F1.ext E753).other W755 (Or.inl nx1_bc))
  have zs774 := (Nat.le_trans (Nat.le_trans Z0 E753.1) (Keep.of_wr W755).1)
  have f775 := ((E1.ext E753).wr W755)
  obtain ⟨cq773, kq773, q773a, q773b, q773c⟩ := isOf hZ e766 f775
  obtain ⟨_, _, ⟨T773, L773, k773, n773⟩, -, X773, ⟨Lc773, hQ773, l773, y773, z773⟩, st773⟩ := X766.virtualBack hx (y := (⟨"java/util/BitSet", "isEmpty", "()Z"⟩ : MethodName)) (z := (⟨"java/util/BitSet", "isEmpty", "()Z"⟩ : MethodName)) hown (mvT hZ (W 157 rfl)) (mvT hZ (W 158 rfl)) (notFace_of_selects (args := #[]) (mvT hZ (W 160 rfl))) (mvT hZ (W 160 rfl)) (mvT hZ (W 159 rfl)) (by decide) (backOf (W := 2) (rm21u1 l Z a0 hw [] x1 h755 n0 zs774 f772) hZ (W 161 rfl) (W 2 rfl) (by decide) (by decide)) q773a q773c (g := (mkF m 44 #[rv g, iv (1 : Int32), iv kk, rv x1, iv (4 : Int32)] [(.ref x1), (.int kk), (.ref b753)])) rfl (by rw [hml]; rfl) (Steps.refl _) (argsL := []) (rest := [(.int kk), (.ref b753)]) (lenOf pd269 rfl) rfl (by show 2 * 0 + _ ≤ _; exact Nat.le_of_eq rfl) (hb hby d20_44) (fun _ _ => ⟨rfl, e766, (by decide : 1 + 0 ≤ _), (by decide : 4 + 0 ≤ _)⟩)
  dsimp only [Pt.U, Pt.locs, Pt.cells, Pt.slots] at X773 l773 y773 z773 st773 hQ773
  subst l773 y773 z773
  obtain ⟨rfl, Nq773, eh773⟩ := hQ773
  have N773 := Fr.app N755 Nq773
  have go776 : own_S p e below ST T773 (mkF m 47 #[rv g, iv (1 : Int32), iv kk, rv x1, iv (4 : Int32)] [(.int (0 : Int32)), (.int kk), (.ref b753)]) := fun tt kt => go771 tt (st773.trans kt)
  have go777 : own_S p e below ST T773 (mkF m 55 #[rv g, iv (1 : Int32), iv kk, rv x1, iv (4 : Int32)] [(.ref x1), (.int kk), (.ref b753)]) := fun tt kt => go776 tt (by
      refine XS.ifYes X773.here hx rfl (pc0 := 47) (pc' := 54) rfl (hb hby d20_47) rfl ((if0 _ _).trans (teq (by decide : (0 : Int32) = (0 : Int32))).1) (by decide) (by decide) ?_
      refine XS.aloadN X773.here hx rfl (hb hby d20_54) rfl rfl ?_
      exact kt)
  have f779 := (V753.other W755 (Ne.symm nebc_b753))
  obtain ⟨cl778, Ar778, q778, S778, M778, H778, G778⟩ := id f779
  have hin778 : ¬ (kk < 0 ∨ cl778.slots.size ≤ (kk).toNatClampNeg) := inb_of S778 (own_in4 hk)
  obtain ⟨T778, h778, X778, e778, W778, st778⟩ := stR X773 hx hZ eh773 Ar778 (j := kk) hin778 rfl (Sto.ofV Ar778 q778 O753 (Ins.self f775)) (g := (mkF m 55 #[rv g, iv (1 : Int32), iv kk, rv x1, iv (4 : Int32)] [(.ref x1), (.int kk), (.ref b753)])) rfl rfl (hb hby d20_55)
  have V778 : Arv Z h778 b753 k753 (.object "java/util/BitSet") (4 : Int32) ([.null, .null, .null, .null].set (kk).toNatClampNeg (.ref x1)) .null := Arv.set Ar778 q778 S778 M778 H778 G778 rfl W778 _ rfl (own_lt4 hk rfl)
  have N778 := Fr.snoc X778 N773 ge_b753
  have KC778 : Keep h0 h778 [bc] := KC755.wr W778 (Or.inr sz_b753)
  have go780 : own_S p e below ST T778 (mkF m 56 #[rv g, iv (1 : Int32), iv kk, rv x1, iv (4 : Int32)] []) := fun tt kt => go777 tt (st778 _ kt)
  have f781 := (f759.other W778 (Or.inl neg_b753))
  have f782 := (V755.other W778 nebc_b753)
  have f783 := (((E2.ext E753).wr W755).wr W778)
  have f784 := (((F2.ext E753).other W755 (Or.inl nx2_bc)).other W778 (Or.inl nex2_b753))
  have f785 := (((Eg.ext E753).wr W755).wr W778)
  have f786 := (((OL.ext E753).wr W755 gb).wr W778 ge_b753)
  obtain ⟨fs, hr, hrun, hended, hW, hsame⟩ := X778.leave (v := none) (fun _ => rfl) (hlocks := by first | exact BodyLoose.notSynchronized Bd | exact Body.notSynchronized Bd)
  refine ⟨_, _, pre0 _ (go780 _ ?_), hrun, hended, _, _, rfl, ?_, ⟨_, rfl⟩, hW, hsame.mono (by decide) (by decide)⟩
  · exact X778.returnOut hx Bd.returns (hb hby d20_56) hr
  · show Q20m1nu1 Z g x1 x2 bc kk kc vo Lm Lo u2 M0 M1 h0 n0 _ T778.heap _
    rw [e778]
    exact ⟨rfl, N778, f786, ⟨bc, kc, vo, (.ref b753), f781, f782, OA, (by rw [hMo]; exact own_rowk Ro KC778 (fun r1 e => by rcases own_rowlt Ro with z | ⟨r2, z, _, _, z2⟩; (· rw [z] at e; cases e); (· rw [z] at e; cases e; exact ninS z2 nin0))), Or.inr ⟨b753, _, rfl, (by rw [hMm, hLm]; exact V778), O753, (by rw [hMm, List.length_set, hLm]; rfl), ge_b753, (Ne.symm neg_b753), (Ne.symm nebc_b753)⟩, Or.inr (Ne.symm (fun z => by rcases own_rowlt Ro with y | ⟨r2, y, y1, _⟩; (· rw [y] at z; cases z); (· rw [y] at z; injection z with z; exact absurd y1 (Nat.not_lt.mpr (z ▸ sz_b753))))), gb, ng, (by rw [hMo]; exact lo), (by rw [hMm, List.length_set, hLm]; rfl)⟩, f783, f784, f785, KC778.1⟩
theorem ef20m1ru0 (m : MethodId) (x0 : Addr) (x1 : Int32) (x2 : Int32) (x3 : Addr) (x4 : Int32) : entryFrame m #[(.ref x0), (.int x1), (.int x2), (.ref x3), (.int x4)] 5 = mkF m 0 #[.val (.ref x0), .val (.int x1), .val (.int x2), .val (.ref x3), .val (.int x4)] [] := by first | (simp [entryFrame, mkF, argsToLocals, Value.category]; done) | rfl
def Q20m1ru0 (Z : State) (g : Addr) (x1 : Addr) (x2 : Addr) (bc : Addr) (kk : Int32) (kc : ClassId) (vo : Value) (Lm : List Value) (Lo : List Value) (u2 : Value) (M0 : List Value) (M1 : List Value) (r : Addr) (kr : ClassId) (h0 : Heap) (n0 : Nat) (v : Option Value) (h : Heap) (L : List Loc) : Prop := v = none ∧ Fr n0 L ∧ Old Z n0 h ∧ own_GR Z h n0 g M0 M1 ∧ Exa Z h x2 "java/util/BitSet" ∧ Fld Z h x2 "java/util/BitSet" "wordsInUse" "I" u2 ∧ Exa Z h g "com/example/brancher/brancher/service/Group" ∧ h0.size ≤ h.size
set_option maxRecDepth 65536 in
set_option maxHeartbeats 40000000 in
theorem rm20m1ru0 (l : Launch) (Z : State) (a0 : Array Value) (hw : ∀ d ∈ tables_1, d.before a0 Z = true) (ws : List Jvm.Cond) (g : Addr) (x1 : Addr) (x2 : Addr) (bc : Addr) (kk : Int32) (kc : ClassId) (vo : Value) (Lm : List Value) (Lo : List Value) (u2 : Value) (M0 : List Value) (M1 : List Value) (r : Addr) (kr : ClassId) (h0 : Heap) (n0 : Nat) (Z0 : n0 ≤ h0.size) (Fc : Fld Z h0 g "com/example/brancher/brancher/service/Group" "choices" "[[Ljava/util/BitSet;" (.ref bc)) (Vc : Arv Z h0 bc kc (.array (.object "java/util/BitSet")) (2 : Int32) [vo, (.ref r)] .null) (OA : OvrA Z kc (.object "java/util/BitSet") "[Ljava/util/BitSet;") (hk : kk = 0 ∨ kk = 1 ∨ kk = 2 ∨ kk = 3) (OL : Old Z n0 h0) (Eg : Exa Z h0 g "com/example/brancher/brancher/service/Group") (gb : n0 ≤ bc) (ng : g ≠ bc) (E1 : Exa Z h0 x1 "java/util/BitSet") (F1 : Fld Z h0 x1 "java/util/BitSet" "wordsInUse" "I" (.int (0 : Int32))) (E2 : Exa Z h0 x2 "java/util/BitSet") (F2 : Fld Z h0 x2 "java/util/BitSet" "wordsInUse" "I" u2) (Ro : own_row Z h0 n0 g bc vo Lo) (lo : Lo.length = 4) (hMm : M1 = Lm.set (kk).toNatClampNeg .null) (hMo : M0 = Lo) (Vr : Arv Z h0 r kr (.object "java/util/BitSet") (4 : Int32) Lm .null) (Or1 : Ovr Z kr "java/util/BitSet") (lr : Lm.length = 4) (gr : n0 ≤ r) (rg : r ≠ g) (rb : r ≠ bc) (ro : .ref r ≠ vo) :
    MetFree l (⟨"com/example/brancher/brancher/service/Group", "rest", "(IILjava/util/BitSet;I)V"⟩ : MethodName) (head1 (Jvm.Cond.code (⟨"com/example/brancher/brancher/service/Group", "rest", "(IILjava/util/BitSet;I)V"⟩ : MethodName) prog_74_method_5_code 5 none :: ws) ({ frames := 1, cells := 1, slots := 4, locals := 14 } : Room)) (fun aa UU => aa = #[(.ref g), (.int (1 : Int32)), (.int kk), (.ref x1), (.int (4 : Int32))] ∧ Z.Warmed39 UU.vm ∧ UU.heap = h0) (fun _ _ _ _ _ => True) (fun _ UU oo UU' => ∃ vv LL, oo = .returned vv ∧ Q20m1ru0 Z g x1 x2 bc kk kc vo Lm Lo u2 M0 M1 r kr h0 n0 vv UU'.heap LL ∧ FrameEnd UU oo UU' LL ({ frames := 1, cells := 1, slots := 4, locals := 14 } : Room).cells ({ frames := 1, cells := 1, slots := 4, locals := 14 } : Room).slots) := by
  have W : ∀ {d : Jvm.Cond} (i : Nat), tables_1[i]? = some d → d.before a0 Z = true := fun i h => hw _ (List.mem_of_getElem? h)
  refine MetFree.of_bodySF (plainFor_of_name pn198) hisR ?_
  intro p e s m args below meth c s₁ Bd hml0 hP hK
  obtain ⟨rfl, hZ, hh⟩ := hP
  have hx := Bd.exec
  have hby := Bd.bytes
  have hml : c.maxLocals = 5 := hml0
  have hown : s.vm.findClass "com/example/brancher/brancher/service/Group" = some m.cls := findClass_of_methodNamed Bd.named
  have hnm := (name_of_methodNamed Bd.named Bd.method).1
  have X0 : Stand p l e ({ frames := 1, cells := 1, slots := 4, locals := 14 } : Room) s m #[(.ref g), (.int (1 : Int32)), (.int kk), (.ref x1), (.int (4 : Int32))] below meth c s₁ [] 0 0 := Stand.of_body Bd
  have e0 : s₁.heap = h0 := by rw [← hh, Bd.state]; rfl
  have N0 := Fr.nil n0
  have pre0 : ∀ tt, Steps p.tables e below (s₁.setTop (mkF m 0 #[rv g, iv (1 : Int32), iv kk, rv x1, iv (4 : Int32)] [])) tt → Steps p.tables e below (s₁.setTop (entryFrame m #[(.ref g), (.int (1 : Int32)), (.int kk), (.ref x1), (.int (4 : Int32))] 5)) tt := fun tt kt => castTop (ef20m1ru0 m g (1 : Int32) kk x1 (4 : Int32)) kt
  obtain ⟨ST, hST⟩ : ∃ z : State, z = s₁.setTop (mkF m 0 #[rv g, iv (1 : Int32), iv kk, rv x1, iv (4 : Int32)] []) := ⟨_, rfl⟩
  rw [← hST] at pre0
  have nx1_bc := (own_arvne E1 (W 1 rfl) Vc)
  have nx2_bc := (own_arvne E2 (W 1 rfl) Vc)
  have nx1_r := (own_arvne E1 (W 1 rfl) Vr)
  have nx2_r := (own_arvne E2 (W 1 rfl) Vr)
  have KC0 : Keep h0 h0 [r] := Keep.refl h0 [r]
  have go787 : own_S p e below ST s₁ (mkF m 1 #[rv g, iv (1 : Int32), iv kk, rv x1, iv (4 : Int32)] [(.ref g)]) := fun tt kt => (by
      rw [hST]
      show Steps p.tables e below (s₁.setTop (mkF m 0 #[rv g, iv (1 : Int32), iv kk, rv x1, iv (4 : Int32)] [])) _
      refine XS.aloadN X0.here hx rfl (hb hby d20_0) rfl rfl ?_
      exact kt)
  obtain ⟨T788, X788, e788, st788⟩ := getF X0 hx hZ hown (host := "") (Or.inl (W 88 rfl)) Via.refl e0 Fc (g := (mkF m 1 #[rv g, iv (1 : Int32), iv kk, rv x1, iv (4 : Int32)] [(.ref g)])) rfl rfl (hb hby d20_1)
  have go789 : own_S p e below ST T788 (mkF m 4 #[rv g, iv (1 : Int32), iv kk, rv x1, iv (4 : Int32)] [(.ref bc)]) := fun tt kt => go787 tt (st788 _ kt)
  have go790 : own_S p e below ST T788 (mkF m 5 #[rv g, iv (1 : Int32), iv kk, rv x1, iv (4 : Int32)] [(.int (1 : Int32)), (.ref bc)]) := fun tt kt => go789 tt (by
      refine XS.iloadN X788.here hx rfl (hb hby d20_4) rfl ?_
      exact kt)
  obtain ⟨cl791, Ar791, q791, S791, M791, H791, G791⟩ := id Vc
  have hin791 : ¬ ((1 : Int32) < 0 ∨ cl791.slots.size ≤ ((1 : Int32)).toNatClampNeg) := inb_of S791 ⟨by decide, by decide⟩
  have hat791 : cl791.slots[((1 : Int32)).toNatClampNeg]? = some (.ref r) := H791.at hin791 rfl
  have go792 : own_S p e below ST T788 (mkF m 6 #[rv g, iv (1 : Int32), iv kk, rv x1, iv (4 : Int32)] [(.ref r)]) := fun tt kt => go790 tt (by
      refine X788.aaload hx (j := (1 : Int32)) (v := (.ref r)) (by rw [e788]; exact Ar791.1) (State.isArrayOf_alike hZ.alike Ar791.2.1) rfl Ar791.2.2 hin791 hat791 (g := (mkF m 5 #[rv g, iv (1 : Int32), iv kk, rv x1, iv (4 : Int32)] [(.int (1 : Int32)), (.ref bc)])) rfl rfl (hb hby d20_5) _ ?_
      exact kt)
  have go793 : own_S p e below ST T788 (mkF m 28 #[rv g, iv (1 : Int32), iv kk, rv x1, iv (4 : Int32)] [(.ref g)]) := fun tt kt => go792 tt (by
      refine XS.ifnonnullYes X788.here hx rfl (pc0 := 6) (pc' := 27) rfl (hb hby d20_6) rfl (by decide) (by decide) ?_
      refine XS.aloadN X788.here hx rfl (hb hby d20_27) rfl rfl ?_
      exact kt)
  obtain ⟨T794, X794, e794, st794⟩ := getF X788 hx hZ hown (host := "") (Or.inl (W 88 rfl)) Via.refl e788 Fc (g := (mkF m 28 #[rv g, iv (1 : Int32), iv kk, rv x1, iv (4 : Int32)] [(.ref g)])) rfl rfl (hb hby d20_28)
  have go795 : own_S p e below ST T794 (mkF m 31 #[rv g, iv (1 : Int32), iv kk, rv x1, iv (4 : Int32)] [(.ref bc)]) := fun tt kt => go793 tt (st794 _ kt)
  have go796 : own_S p e below ST T794 (mkF m 32 #[rv g, iv (1 : Int32), iv kk, rv x1, iv (4 : Int32)] [(.int (1 : Int32)), (.ref bc)]) := fun tt kt => go795 tt (by
      refine XS.iloadN X794.here hx rfl (hb hby d20_31) rfl ?_
      exact kt)
  obtain ⟨cl797, Ar797, q797, S797, M797, H797, G797⟩ := id Vc
  have hin797 : ¬ ((1 : Int32) < 0 ∨ cl797.slots.size ≤ ((1 : Int32)).toNatClampNeg) := inb_of S797 ⟨by decide, by decide⟩
  have hat797 : cl797.slots[((1 : Int32)).toNatClampNeg]? = some (.ref r) := H797.at hin797 rfl
  have go798 : own_S p e below ST T794 (mkF m 33 #[rv g, iv (1 : Int32), iv kk, rv x1, iv (4 : Int32)] [(.ref r)]) := fun tt kt => go796 tt (by
      refine X794.aaload hx (j := (1 : Int32)) (v := (.ref r)) (by rw [e794]; exact Ar797.1) (State.isArrayOf_alike hZ.alike Ar797.2.1) rfl Ar797.2.2 hin797 hat797 (g := (mkF m 32 #[rv g, iv (1 : Int32), iv kk, rv x1, iv (4 : Int32)] [(.int (1 : Int32)), (.ref bc)])) rfl rfl (hb hby d20_32) _ ?_
      exact kt)
  have go799 : own_S p e below ST T794 (mkF m 37 #[rv g, iv (1 : Int32), iv kk, rv x1, iv (4 : Int32)] [(.ref g)]) := fun tt kt => go798 tt (by
      refine XS.ifnullNo X794.here hx rfl (hb hby d20_33) rfl ?_
      refine XS.aloadN X794.here hx rfl (hb hby d20_36) rfl rfl ?_
      exact kt)
  obtain ⟨T800, X800, e800, st800⟩ := getF X794 hx hZ hown (host := "") (Or.inl (W 88 rfl)) Via.refl e794 Fc (g := (mkF m 37 #[rv g, iv (1 : Int32), iv kk, rv x1, iv (4 : Int32)] [(.ref g)])) rfl rfl (hb hby d20_37)
  have go801 : own_S p e below ST T800 (mkF m 40 #[rv g, iv (1 : Int32), iv kk, rv x1, iv (4 : Int32)] [(.ref bc)]) := fun tt kt => go799 tt (st800 _ kt)
  have go802 : own_S p e below ST T800 (mkF m 41 #[rv g, iv (1 : Int32), iv kk, rv x1, iv (4 : Int32)] [(.int (1 : Int32)), (.ref bc)]) := fun tt kt => go801 tt (by
      refine XS.iloadN X800.here hx rfl (hb hby d20_40) rfl ?_
      exact kt)
  obtain ⟨cl803, Ar803, q803, S803, M803, H803, G803⟩ := id Vc
  have hin803 : ¬ ((1 : Int32) < 0 ∨ cl803.slots.size ≤ ((1 : Int32)).toNatClampNeg) := inb_of S803 ⟨by decide, by decide⟩
  have hat803 : cl803.slots[((1 : Int32)).toNatClampNeg]? = some (.ref r) := H803.at hin803 rfl
  have go804 : own_S p e below ST T800 (mkF m 42 #[rv g, iv (1 : Int32), iv kk, rv x1, iv (4 : Int32)] [(.ref r)]) := fun tt kt => go802 tt (by
      refine X800.aaload hx (j := (1 : Int32)) (v := (.ref r)) (by rw [e800]; exact Ar803.1) (State.isArrayOf_alike hZ.alike Ar803.2.1) rfl Ar803.2.2 hin803 hat803 (g := (mkF m 41 #[rv g, iv (1 : Int32), iv kk, rv x1, iv (4 : Int32)] [(.int (1 : Int32)), (.ref bc)])) rfl rfl (hb hby d20_41) _ ?_
      exact kt)
  have go805 : own_S p e below ST T800 (mkF m 44 #[rv g, iv (1 : Int32), iv kk, rv x1, iv (4 : Int32)] [(.ref x1), (.int kk), (.ref r)]) := fun tt kt => go804 tt (by
      refine XS.iloadN X800.here hx rfl (hb hby d20_42) rfl ?_
      refine XS.aloadN X800.here hx rfl (hb hby d20_43) rfl rfl ?_
      exact kt)
  obtain ⟨cq806, kq806, q806a, q806b, q806c⟩ := isOf hZ e800 E1
  obtain ⟨_, _, ⟨T806, L806, k806, n806⟩, -, X806, ⟨Lc806, hQ806, l806, y806, z806⟩, st806⟩ := X800.virtualBack hx (y := (⟨"java/util/BitSet", "isEmpty", "()Z"⟩ : MethodName)) (z := (⟨"java/util/BitSet", "isEmpty", "()Z"⟩ : MethodName)) hown (mvT hZ (W 157 rfl)) (mvT hZ (W 158 rfl)) (notFace_of_selects (args := #[]) (mvT hZ (W 160 rfl))) (mvT hZ (W 160 rfl)) (mvT hZ (W 159 rfl)) (by decide) (backOf (W := 2) (rm21u0 l Z a0 hw [] x1 h0 n0 Z0 F1) hZ (W 161 rfl) (W 2 rfl) (by decide) (by decide)) q806a q806c (g := (mkF m 44 #[rv g, iv (1 : Int32), iv kk, rv x1, iv (4 : Int32)] [(.ref x1), (.int kk), (.ref r)])) rfl (by rw [hml]; rfl) (Steps.refl _) (argsL := []) (rest := [(.int kk), (.ref r)]) (lenOf pd269 rfl) rfl (by show 2 * 0 + _ ≤ _; exact Nat.le_of_eq rfl) (hb hby d20_44) (fun _ _ => ⟨rfl, e800, (by decide : 0 + 0 ≤ _), (by decide : 0 + 0 ≤ _)⟩)
  dsimp only [Pt.U, Pt.locs, Pt.cells, Pt.slots] at X806 l806 y806 z806 st806 hQ806
  subst l806 y806 z806
  obtain ⟨rfl, Nq806, eh806⟩ := hQ806
  have N806 := Fr.app N0 Nq806
  have go807 : own_S p e below ST T806 (mkF m 47 #[rv g, iv (1 : Int32), iv kk, rv x1, iv (4 : Int32)] [(.int (1 : Int32)), (.int kk), (.ref r)]) := fun tt kt => go805 tt (st806.trans kt)
  have go808 : own_S p e below ST T806 (mkF m 55 #[rv g, iv (1 : Int32), iv kk, rv x1, iv (4 : Int32)] [.null, (.int kk), (.ref r)]) := fun tt kt => go807 tt (by
      refine XS.ifNo X806.here hx rfl (hb hby d20_47) rfl ((if0 _ _).trans (feq (by decide : ¬ ((1 : Int32) = (0 : Int32)))).1) ?_
      refine XS.aconstNull X806.here hx rfl (hb hby d20_50) ?_
      refine XS.goto X806.here hx rfl (pc0 := 51) (pc' := 55) rfl (hb hby d20_51) (by decide) (by decide) ?_
      exact kt)
  obtain ⟨cl809, Ar809, q809, S809, M809, H809, G809⟩ := id Vr
  have hin809 : ¬ (kk < 0 ∨ cl809.slots.size ≤ (kk).toNatClampNeg) := inb_of S809 (own_in4 hk)
  obtain ⟨T809, h809, X809, e809, W809, st809⟩ := stR X806 hx hZ eh806 Ar809 (j := kk) hin809 rfl (Or.inl rfl) (g := (mkF m 55 #[rv g, iv (1 : Int32), iv kk, rv x1, iv (4 : Int32)] [.null, (.int kk), (.ref r)])) rfl rfl (hb hby d20_55)
  have V809 : Arv Z h809 r kr (.object "java/util/BitSet") (4 : Int32) (Lm.set (kk).toNatClampNeg .null) .null := Arv.set Ar809 q809 S809 M809 H809 G809 rfl W809 _ rfl (own_lt4 hk lr)
  have N809 := Fr.snoc X809 N806 gr
  have KC809 : Keep h0 h809 [r] := KC0.wr W809 (Or.inl (List.mem_of_getElem? (i := 0) rfl))
  have go810 : own_S p e below ST T809 (mkF m 56 #[rv g, iv (1 : Int32), iv kk, rv x1, iv (4 : Int32)] []) := fun tt kt => go808 tt (st809 _ kt)
  have f811 := (Fc.other W809 (Or.inl (Ne.symm rg)))
  have f812 := (Vc.other W809 (Ne.symm rb))
  have f813 := (E2.wr W809)
  have f814 := (F2.other W809 (Or.inl nx2_r))
  have f815 := (Eg.wr W809)
  have f816 := (OL.wr W809 gr)
  obtain ⟨fs, hr, hrun, hended, hW, hsame⟩ := X809.leave (v := none) (fun _ => rfl) (hlocks := by first | exact BodyLoose.notSynchronized Bd | exact Body.notSynchronized Bd)
  refine ⟨_, _, pre0 _ (go810 _ ?_), hrun, hended, _, _, rfl, ?_, ⟨_, rfl⟩, hW, hsame.mono (by decide) (by decide)⟩
  · exact X809.returnOut hx Bd.returns (hb hby d20_56) hr
  · show Q20m1ru0 Z g x1 x2 bc kk kc vo Lm Lo u2 M0 M1 r kr h0 n0 _ T809.heap _
    rw [e809]
    exact ⟨rfl, N809, f816, ⟨bc, kc, vo, (.ref r), f811, f812, OA, (by rw [hMo]; exact own_rowk Ro KC809 (fun r1 e => ninS (fun z => ro (by rw [e, z])) nin0)), Or.inr ⟨r, _, rfl, (by rw [hMm]; exact V809), Or1, (by rw [hMm, List.length_set]; exact lr), gr, rg, rb⟩, Or.inr (Ne.symm ro), gb, ng, (by rw [hMo]; exact lo), (by rw [hMm, List.length_set]; exact lr)⟩, f813, f814, f815, KC809.1⟩
theorem ef20m1ru1 (m : MethodId) (x0 : Addr) (x1 : Int32) (x2 : Int32) (x3 : Addr) (x4 : Int32) : entryFrame m #[(.ref x0), (.int x1), (.int x2), (.ref x3), (.int x4)] 5 = mkF m 0 #[.val (.ref x0), .val (.int x1), .val (.int x2), .val (.ref x3), .val (.int x4)] [] := by first | (simp [entryFrame, mkF, argsToLocals, Value.category]; done) | rfl
def Q20m1ru1 (Z : State) (g : Addr) (x1 : Addr) (x2 : Addr) (bc : Addr) (kk : Int32) (kc : ClassId) (vo : Value) (Lm : List Value) (Lo : List Value) (u2 : Value) (M0 : List Value) (M1 : List Value) (r : Addr) (kr : ClassId) (h0 : Heap) (n0 : Nat) (v : Option Value) (h : Heap) (L : List Loc) : Prop := v = none ∧ Fr n0 L ∧ Old Z n0 h ∧ own_GR Z h n0 g M0 M1 ∧ Exa Z h x2 "java/util/BitSet" ∧ Fld Z h x2 "java/util/BitSet" "wordsInUse" "I" u2 ∧ Exa Z h g "com/example/brancher/brancher/service/Group" ∧ h0.size ≤ h.size
set_option maxRecDepth 65536 in
set_option maxHeartbeats 40000000 in
theorem rm20m1ru1 (l : Launch) (Z : State) (a0 : Array Value) (hw : ∀ d ∈ tables_1, d.before a0 Z = true) (ws : List Jvm.Cond) (g : Addr) (x1 : Addr) (x2 : Addr) (bc : Addr) (kk : Int32) (kc : ClassId) (vo : Value) (Lm : List Value) (Lo : List Value) (u2 : Value) (M0 : List Value) (M1 : List Value) (r : Addr) (kr : ClassId) (h0 : Heap) (n0 : Nat) (Z0 : n0 ≤ h0.size) (Fc : Fld Z h0 g "com/example/brancher/brancher/service/Group" "choices" "[[Ljava/util/BitSet;" (.ref bc)) (Vc : Arv Z h0 bc kc (.array (.object "java/util/BitSet")) (2 : Int32) [vo, (.ref r)] .null) (OA : OvrA Z kc (.object "java/util/BitSet") "[Ljava/util/BitSet;") (hk : kk = 0 ∨ kk = 1 ∨ kk = 2 ∨ kk = 3) (OL : Old Z n0 h0) (Eg : Exa Z h0 g "com/example/brancher/brancher/service/Group") (gb : n0 ≤ bc) (ng : g ≠ bc) (E1 : Exa Z h0 x1 "java/util/BitSet") (F1 : Fld Z h0 x1 "java/util/BitSet" "wordsInUse" "I" (.int (1 : Int32))) (E2 : Exa Z h0 x2 "java/util/BitSet") (F2 : Fld Z h0 x2 "java/util/BitSet" "wordsInUse" "I" u2) (Ro : own_row Z h0 n0 g bc vo Lo) (lo : Lo.length = 4) (hMm : M1 = Lm.set (kk).toNatClampNeg (.ref x1)) (hMo : M0 = Lo) (Vr : Arv Z h0 r kr (.object "java/util/BitSet") (4 : Int32) Lm .null) (Or1 : Ovr Z kr "java/util/BitSet") (lr : Lm.length = 4) (gr : n0 ≤ r) (rg : r ≠ g) (rb : r ≠ bc) (ro : .ref r ≠ vo) :
    MetFree l (⟨"com/example/brancher/brancher/service/Group", "rest", "(IILjava/util/BitSet;I)V"⟩ : MethodName) (head1 (Jvm.Cond.code (⟨"com/example/brancher/brancher/service/Group", "rest", "(IILjava/util/BitSet;I)V"⟩ : MethodName) prog_74_method_5_code 5 none :: ws) ({ frames := 1, cells := 1, slots := 4, locals := 14 } : Room)) (fun aa UU => aa = #[(.ref g), (.int (1 : Int32)), (.int kk), (.ref x1), (.int (4 : Int32))] ∧ Z.Warmed39 UU.vm ∧ UU.heap = h0) (fun _ _ _ _ _ => True) (fun _ UU oo UU' => ∃ vv LL, oo = .returned vv ∧ Q20m1ru1 Z g x1 x2 bc kk kc vo Lm Lo u2 M0 M1 r kr h0 n0 vv UU'.heap LL ∧ FrameEnd UU oo UU' LL ({ frames := 1, cells := 1, slots := 4, locals := 14 } : Room).cells ({ frames := 1, cells := 1, slots := 4, locals := 14 } : Room).slots) := by
  have W : ∀ {d : Jvm.Cond} (i : Nat), tables_1[i]? = some d → d.before a0 Z = true := fun i h => hw _ (List.mem_of_getElem? h)
  refine MetFree.of_bodySF (plainFor_of_name pn198) hisR ?_
  intro p e s m args below meth c s₁ Bd hml0 hP hK
  obtain ⟨rfl, hZ, hh⟩ := hP
  have hx := Bd.exec
  have hby := Bd.bytes
  have hml : c.maxLocals = 5 := hml0
  have hown : s.vm.findClass "com/example/brancher/brancher/service/Group" = some m.cls := findClass_of_methodNamed Bd.named
  have hnm := (name_of_methodNamed Bd.named Bd.method).1
  have X0 : Stand p l e ({ frames := 1, cells := 1, slots := 4, locals := 14 } : Room) s m #[(.ref g), (.int (1 : Int32)), (.int kk), (.ref x1), (.int (4 : Int32))] below meth c s₁ [] 0 0 := Stand.of_body Bd
  have e0 : s₁.heap = h0 := by rw [← hh, Bd.state]; rfl
  have N0 := Fr.nil n0
  have pre0 : ∀ tt, Steps p.tables e below (s₁.setTop (mkF m 0 #[rv g, iv (1 : Int32), iv kk, rv x1, iv (4 : Int32)] [])) tt → Steps p.tables e below (s₁.setTop (entryFrame m #[(.ref g), (.int (1 : Int32)), (.int kk), (.ref x1), (.int (4 : Int32))] 5)) tt := fun tt kt => castTop (ef20m1ru1 m g (1 : Int32) kk x1 (4 : Int32)) kt
  obtain ⟨ST, hST⟩ : ∃ z : State, z = s₁.setTop (mkF m 0 #[rv g, iv (1 : Int32), iv kk, rv x1, iv (4 : Int32)] []) := ⟨_, rfl⟩
  rw [← hST] at pre0
  have nx1_bc := (own_arvne E1 (W 1 rfl) Vc)
  have nx2_bc := (own_arvne E2 (W 1 rfl) Vc)
  have nx1_r := (own_arvne E1 (W 1 rfl) Vr)
  have nx2_r := (own_arvne E2 (W 1 rfl) Vr)
  have KC0 : Keep h0 h0 [r] := Keep.refl h0 [r]
  have go817 : own_S p e below ST s₁ (mkF m 1 #[rv g, iv (1 : Int32), iv kk, rv x1, iv (4 : Int32)] [(.ref g)]) := fun tt kt => (by
      rw [hST]
      show Steps p.tables e below (s₁.setTop (mkF m 0 #[rv g, iv (1 : Int32), iv kk, rv x1, iv (4 : Int32)] [])) _
      refine XS.aloadN X0.here hx rfl (hb hby d20_0) rfl rfl ?_
      exact kt)
  obtain ⟨T818, X818, e818, st818⟩ := getF X0 hx hZ hown (host := "") (Or.inl (W 88 rfl)) Via.refl e0 Fc (g := (mkF m 1 #[rv g, iv (1 : Int32), iv kk, rv x1, iv (4 : Int32)] [(.ref g)])) rfl rfl (hb hby d20_1)
  have go819 : own_S p e below ST T818 (mkF m 4 #[rv g, iv (1 : Int32), iv kk, rv x1, iv (4 : Int32)] [(.ref bc)]) := fun tt kt => go817 tt (st818 _ kt)
  have go820 : own_S p e below ST T818 (mkF m 5 #[rv g, iv (1 : Int32), iv kk, rv x1, iv (4 : Int32)] [(.int (1 : Int32)), (.ref bc)]) := fun tt kt => go819 tt (by
      refine XS.iloadN X818.here hx rfl (hb hby d20_4) rfl ?_
      exact kt)
  obtain ⟨cl821, Ar821, q821, S821, M821, H821, G821⟩ := id Vc
  have hin821 : ¬ ((1 : Int32) < 0 ∨ cl821.slots.size ≤ ((1 : Int32)).toNatClampNeg) := inb_of S821 ⟨by decide, by decide⟩
  have hat821 : cl821.slots[((1 : Int32)).toNatClampNeg]? = some (.ref r) := H821.at hin821 rfl
  have go822 : own_S p e below ST T818 (mkF m 6 #[rv g, iv (1 : Int32), iv kk, rv x1, iv (4 : Int32)] [(.ref r)]) := fun tt kt => go820 tt (by
      refine X818.aaload hx (j := (1 : Int32)) (v := (.ref r)) (by rw [e818]; exact Ar821.1) (State.isArrayOf_alike hZ.alike Ar821.2.1) rfl Ar821.2.2 hin821 hat821 (g := (mkF m 5 #[rv g, iv (1 : Int32), iv kk, rv x1, iv (4 : Int32)] [(.int (1 : Int32)), (.ref bc)])) rfl rfl (hb hby d20_5) _ ?_
      exact kt)
  have go823 : own_S p e below ST T818 (mkF m 28 #[rv g, iv (1 : Int32), iv kk, rv x1, iv (4 : Int32)] [(.ref g)]) := fun tt kt => go822 tt (by
      refine XS.ifnonnullYes X818.here hx rfl (pc0 := 6) (pc' := 27) rfl (hb hby d20_6) rfl (by decide) (by decide) ?_
      refine XS.aloadN X818.here hx rfl (hb hby d20_27) rfl rfl ?_
      exact kt)
  obtain ⟨T824, X824, e824, st824⟩ := getF X818 hx hZ hown (host := "") (Or.inl (W 88 rfl)) Via.refl e818 Fc (g := (mkF m 28 #[rv g, iv (1 : Int32), iv kk, rv x1, iv (4 : Int32)] [(.ref g)])) rfl rfl (hb hby d20_28)
  have go825 : own_S p e below ST T824 (mkF m 31 #[rv g, iv (1 : Int32), iv kk, rv x1, iv (4 : Int32)] [(.ref bc)]) := fun tt kt => go823 tt (st824 _ kt)
  have go826 : own_S p e below ST T824 (mkF m 32 #[rv g, iv (1 : Int32), iv kk, rv x1, iv (4 : Int32)] [(.int (1 : Int32)), (.ref bc)]) := fun tt kt => go825 tt (by
      refine XS.iloadN X824.here hx rfl (hb hby d20_31) rfl ?_
      exact kt)
  obtain ⟨cl827, Ar827, q827, S827, M827, H827, G827⟩ := id Vc
  have hin827 : ¬ ((1 : Int32) < 0 ∨ cl827.slots.size ≤ ((1 : Int32)).toNatClampNeg) := inb_of S827 ⟨by decide, by decide⟩
  have hat827 : cl827.slots[((1 : Int32)).toNatClampNeg]? = some (.ref r) := H827.at hin827 rfl
  have go828 : own_S p e below ST T824 (mkF m 33 #[rv g, iv (1 : Int32), iv kk, rv x1, iv (4 : Int32)] [(.ref r)]) := fun tt kt => go826 tt (by
      refine X824.aaload hx (j := (1 : Int32)) (v := (.ref r)) (by rw [e824]; exact Ar827.1) (State.isArrayOf_alike hZ.alike Ar827.2.1) rfl Ar827.2.2 hin827 hat827 (g := (mkF m 32 #[rv g, iv (1 : Int32), iv kk, rv x1, iv (4 : Int32)] [(.int (1 : Int32)), (.ref bc)])) rfl rfl (hb hby d20_32) _ ?_
      exact kt)
  have go829 : own_S p e below ST T824 (mkF m 37 #[rv g, iv (1 : Int32), iv kk, rv x1, iv (4 : Int32)] [(.ref g)]) := fun tt kt => go828 tt (by
      refine XS.ifnullNo X824.here hx rfl (hb hby d20_33) rfl ?_
      refine XS.aloadN X824.here hx rfl (hb hby d20_36) rfl rfl ?_
      exact kt)
  obtain ⟨T830, X830, e830, st830⟩ := getF X824 hx hZ hown (host := "") (Or.inl (W 88 rfl)) Via.refl e824 Fc (g := (mkF m 37 #[rv g, iv (1 : Int32), iv kk, rv x1, iv (4 : Int32)] [(.ref g)])) rfl rfl (hb hby d20_37)
  have go831 : own_S p e below ST T830 (mkF m 40 #[rv g, iv (1 : Int32), iv kk, rv x1, iv (4 : Int32)] [(.ref bc)]) := fun tt kt => go829 tt (st830 _ kt)
  have go832 : own_S p e below ST T830 (mkF m 41 #[rv g, iv (1 : Int32), iv kk, rv x1, iv (4 : Int32)] [(.int (1 : Int32)), (.ref bc)]) := fun tt kt => go831 tt (by
      refine XS.iloadN X830.here hx rfl (hb hby d20_40) rfl ?_
      exact kt)
  obtain ⟨cl833, Ar833, q833, S833, M833, H833, G833⟩ := id Vc
  have hin833 : ¬ ((1 : Int32) < 0 ∨ cl833.slots.size ≤ ((1 : Int32)).toNatClampNeg) := inb_of S833 ⟨by decide, by decide⟩
  have hat833 : cl833.slots[((1 : Int32)).toNatClampNeg]? = some (.ref r) := H833.at hin833 rfl
  have go834 : own_S p e below ST T830 (mkF m 42 #[rv g, iv (1 : Int32), iv kk, rv x1, iv (4 : Int32)] [(.ref r)]) := fun tt kt => go832 tt (by
      refine X830.aaload hx (j := (1 : Int32)) (v := (.ref r)) (by rw [e830]; exact Ar833.1) (State.isArrayOf_alike hZ.alike Ar833.2.1) rfl Ar833.2.2 hin833 hat833 (g := (mkF m 41 #[rv g, iv (1 : Int32), iv kk, rv x1, iv (4 : Int32)] [(.int (1 : Int32)), (.ref bc)])) rfl rfl (hb hby d20_41) _ ?_
      exact kt)
  have go835 : own_S p e below ST T830 (mkF m 44 #[rv g, iv (1 : Int32), iv kk, rv x1, iv (4 : Int32)] [(.ref x1), (.int kk), (.ref r)]) := fun tt kt => go834 tt (by
      refine XS.iloadN X830.here hx rfl (hb hby d20_42) rfl ?_
      refine XS.aloadN X830.here hx rfl (hb hby d20_43) rfl rfl ?_
      exact kt)
  obtain ⟨cq836, kq836, q836a, q836b, q836c⟩ := isOf hZ e830 E1
  obtain ⟨_, _, ⟨T836, L836, k836, n836⟩, -, X836, ⟨Lc836, hQ836, l836, y836, z836⟩, st836⟩ := X830.virtualBack hx (y := (⟨"java/util/BitSet", "isEmpty", "()Z"⟩ : MethodName)) (z := (⟨"java/util/BitSet", "isEmpty", "()Z"⟩ : MethodName)) hown (mvT hZ (W 157 rfl)) (mvT hZ (W 158 rfl)) (notFace_of_selects (args := #[]) (mvT hZ (W 160 rfl))) (mvT hZ (W 160 rfl)) (mvT hZ (W 159 rfl)) (by decide) (backOf (W := 2) (rm21u1 l Z a0 hw [] x1 h0 n0 Z0 F1) hZ (W 161 rfl) (W 2 rfl) (by decide) (by decide)) q836a q836c (g := (mkF m 44 #[rv g, iv (1 : Int32), iv kk, rv x1, iv (4 : Int32)] [(.ref x1), (.int kk), (.ref r)])) rfl (by rw [hml]; rfl) (Steps.refl _) (argsL := []) (rest := [(.int kk), (.ref r)]) (lenOf pd269 rfl) rfl (by show 2 * 0 + _ ≤ _; exact Nat.le_of_eq rfl) (hb hby d20_44) (fun _ _ => ⟨rfl, e830, (by decide : 0 + 0 ≤ _), (by decide : 0 + 0 ≤ _)⟩)
  dsimp only [Pt.U, Pt.locs, Pt.cells, Pt.slots] at X836 l836 y836 z836 st836 hQ836
  subst l836 y836 z836
  obtain ⟨rfl, Nq836, eh836⟩ := hQ836
  have N836 := Fr.app N0 Nq836
  have go837 : own_S p e below ST T836 (mkF m 47 #[rv g, iv (1 : Int32), iv kk, rv x1, iv (4 : Int32)] [(.int (0 : Int32)), (.int kk), (.ref r)]) := fun tt kt => go835 tt (st836.trans kt)
  have go838 : own_S p e below ST T836 (mkF m 55 #[rv g, iv (1 : Int32), iv kk, rv x1, iv (4 : Int32)] [(.ref x1), (.int kk), (.ref r)]) := fun tt kt => go837 tt (by
      refine XS.ifYes X836.here hx rfl (pc0 := 47) (pc' := 54) rfl (hb hby d20_47) rfl ((if0 _ _).trans (teq (by decide : (0 : Int32) = (0 : Int32))).1) (by decide) (by decide) ?_
      refine XS.aloadN X836.here hx rfl (hb hby d20_54) rfl rfl ?_
      exact kt)
  obtain ⟨cl839, Ar839, q839, S839, M839, H839, G839⟩ := id Vr
  have hin839 : ¬ (kk < 0 ∨ cl839.slots.size ≤ (kk).toNatClampNeg) := inb_of S839 (own_in4 hk)
  obtain ⟨T839, h839, X839, e839, W839, st839⟩ := stR X836 hx hZ eh836 Ar839 (j := kk) hin839 rfl (Sto.ofV Ar839 q839 Or1 (Ins.self E1)) (g := (mkF m 55 #[rv g, iv (1 : Int32), iv kk, rv x1, iv (4 : Int32)] [(.ref x1), (.int kk), (.ref r)])) rfl rfl (hb hby d20_55)
  have V839 : Arv Z h839 r kr (.object "java/util/BitSet") (4 : Int32) (Lm.set (kk).toNatClampNeg (.ref x1)) .null := Arv.set Ar839 q839 S839 M839 H839 G839 rfl W839 _ rfl (own_lt4 hk lr)
  have N839 := Fr.snoc X839 N836 gr
  have KC839 : Keep h0 h839 [r] := KC0.wr W839 (Or.inl (List.mem_of_getElem? (i := 0) rfl))
  have go840 : own_S p e below ST T839 (mkF m 56 #[rv g, iv (1 : Int32), iv kk, rv x1, iv (4 : Int32)] []) := fun tt kt => go838 tt (st839 _ kt)
  have f841 := (Fc.other W839 (Or.inl (Ne.symm rg)))
  have f842 := (Vc.other W839 (Ne.symm rb))
  have f843 := (E2.wr W839)
  have f844 := (F2.other W839 (Or.inl nx2_r))
  have f845 := (Eg.wr W839)
  have f846 := (OL.wr W839 gr)
  obtain ⟨fs, hr, hrun, hended, hW, hsame⟩ := X839.leave (v := none) (fun _ => rfl) (hlocks := by first | exact BodyLoose.notSynchronized Bd | exact Body.notSynchronized Bd)
  refine ⟨_, _, pre0 _ (go840 _ ?_), hrun, hended, _, _, rfl, ?_, ⟨_, rfl⟩, hW, hsame.mono (by decide) (by decide)⟩
  · exact X839.returnOut hx Bd.returns (hb hby d20_56) hr
  · show Q20m1ru1 Z g x1 x2 bc kk kc vo Lm Lo u2 M0 M1 r kr h0 n0 _ T839.heap _
    rw [e839]
    exact ⟨rfl, N839, f846, ⟨bc, kc, vo, (.ref r), f841, f842, OA, (by rw [hMo]; exact own_rowk Ro KC839 (fun r1 e => ninS (fun z => ro (by rw [e, z])) nin0)), Or.inr ⟨r, _, rfl, (by rw [hMm]; exact V839), Or1, (by rw [hMm, List.length_set]; exact lr), gr, rg, rb⟩, Or.inr (Ne.symm ro), gb, ng, (by rw [hMo]; exact lo), (by rw [hMm, List.length_set]; exact lr)⟩, f843, f844, f845, KC839.1⟩
def QRS (Z : State) (g x2 : Addr) (u2 : Value) (M0 M1 : List Value) (h0 : Heap) (n0 : Nat) (v : Option Value) (h : Heap) (L : List Loc) : Prop := v = none ∧ Fr n0 L ∧ Old Z n0 h ∧ own_GR Z h n0 g M0 M1 ∧ Exa Z h x2 "java/util/BitSet" ∧ Fld Z h x2 "java/util/BitSet" "wordsInUse" "I" u2 ∧ Exa Z h g "com/example/brancher/brancher/service/Group" ∧ h0.size ≤ h.size
set_option maxRecDepth 65536 in
set_option maxHeartbeats 40000000 in
theorem rmRS0 (l : Launch) (Z : State) (a0 : Array Value) (hw : ∀ d ∈ tables_1, d.before a0 Z = true) (ws : List Jvm.Cond) (g x1 x2 : Addr) (m' kk : Int32) (L0 L1 : List Value) (u2 : Value) (M0 M1 : List Value) (h0 : Heap) (n0 : Nat) (Z0 : n0 ≤ h0.size) (GRh : own_GR Z h0 n0 g L0 L1) (hm : m' = 0 ∨ m' = 1) (hk : kk = 0 ∨ kk = 1 ∨ kk = 2 ∨ kk = 3) (OL : Old Z n0 h0) (Eg : Exa Z h0 g "com/example/brancher/brancher/service/Group") (E1 : Exa Z h0 x1 "java/util/BitSet") (F1 : Fld Z h0 x1 "java/util/BitSet" "wordsInUse" "I" (.int (0 : Int32))) (E2 : Exa Z h0 x2 "java/util/BitSet") (F2 : Fld Z h0 x2 "java/util/BitSet" "wordsInUse" "I" u2) (hM0 : M0 = if m' = 0 then L0.set (kk).toNatClampNeg .null else L0) (hM1 : M1 = if m' = 0 then L1 else L1.set (kk).toNatClampNeg .null) :
    MetFree l (⟨"com/example/brancher/brancher/service/Group", "rest", "(IILjava/util/BitSet;I)V"⟩ : MethodName) (head1 (Jvm.Cond.code (⟨"com/example/brancher/brancher/service/Group", "rest", "(IILjava/util/BitSet;I)V"⟩ : MethodName) prog_74_method_5_code 5 none :: ws) ({ frames := 1, cells := 1, slots := 4, locals := 14 } : Room)) (fun aa UU => aa = #[(.ref g), (.int m'), (.int kk), (.ref x1), (.int (4 : Int32))] ∧ Z.Warmed39 UU.vm ∧ UU.heap = h0) (fun _ _ _ _ _ => True) (fun _ UU oo UU' => ∃ vv LL, oo = .returned vv ∧ QRS Z g x2 u2 M0 M1 h0 n0 vv UU'.heap LL ∧ FrameEnd UU oo UU' LL ({ frames := 1, cells := 1, slots := 4, locals := 14 } : Room).cells ({ frames := 1, cells := 1, slots := 4, locals := 14 } : Room).slots) := by
  obtain ⟨bc, kc, v0, v1, Fc, Vc, OA, R0, R1, nv, gb, ng, l0, l1⟩ := GRh
  rcases hm with rfl | rfl
  · rw [own_iff0] at hM0 hM1
    rcases R0 with ⟨rfl, hL⟩ | ⟨r, kr, rfl, Vr, Or1, lr, gr, rg, rb⟩
    · exact rm20m0nu0 l Z a0 hw ws g x1 x2 bc kk kc v1 L0 L1 u2 M0 M1 h0 n0 Z0 Fc Vc OA hk OL Eg gb ng E1 F1 E2 F2 R1 l1 hM0 hM1 hL
    · exact rm20m0ru0 l Z a0 hw ws g x1 x2 bc kk kc v1 L0 L1 u2 M0 M1 r kr h0 n0 Z0 Fc Vc OA hk OL Eg gb ng E1 F1 E2 F2 R1 l1 hM0 hM1 Vr Or1 lr gr rg rb (nv.resolve_left (by simp))
  · rw [own_iff1] at hM0 hM1
    rcases R1 with ⟨rfl, hL⟩ | ⟨r, kr, rfl, Vr, Or1, lr, gr, rg, rb⟩
    · exact rm20m1nu0 l Z a0 hw ws g x1 x2 bc kk kc v0 L1 L0 u2 M0 M1 h0 n0 Z0 Fc Vc OA hk OL Eg gb ng E1 F1 E2 F2 R0 l0 hM1 hM0 hL
    · exact rm20m1ru0 l Z a0 hw ws g x1 x2 bc kk kc v0 L1 L0 u2 M0 M1 r kr h0 n0 Z0 Fc Vc OA hk OL Eg gb ng E1 F1 E2 F2 R0 l0 hM1 hM0 Vr Or1 lr gr rg rb (by rcases nv with z | z; (· rw [z]; simp); (· exact Ne.symm z))
set_option maxRecDepth 65536 in
set_option maxHeartbeats 40000000 in
theorem rmRS1 (l : Launch) (Z : State) (a0 : Array Value) (hw : ∀ d ∈ tables_1, d.before a0 Z = true) (ws : List Jvm.Cond) (g x1 x2 : Addr) (m' kk : Int32) (L0 L1 : List Value) (u2 : Value) (M0 M1 : List Value) (h0 : Heap) (n0 : Nat) (Z0 : n0 ≤ h0.size) (GRh : own_GR Z h0 n0 g L0 L1) (hm : m' = 0 ∨ m' = 1) (hk : kk = 0 ∨ kk = 1 ∨ kk = 2 ∨ kk = 3) (OL : Old Z n0 h0) (Eg : Exa Z h0 g "com/example/brancher/brancher/service/Group") (E1 : Exa Z h0 x1 "java/util/BitSet") (F1 : Fld Z h0 x1 "java/util/BitSet" "wordsInUse" "I" (.int (1 : Int32))) (E2 : Exa Z h0 x2 "java/util/BitSet") (F2 : Fld Z h0 x2 "java/util/BitSet" "wordsInUse" "I" u2) (hM0 : M0 = if m' = 0 then L0.set (kk).toNatClampNeg (.ref x1) else L0) (hM1 : M1 = if m' = 0 then L1 else L1.set (kk).toNatClampNeg (.ref x1)) :
    MetFree l (⟨"com/example/brancher/brancher/service/Group", "rest", "(IILjava/util/BitSet;I)V"⟩ : MethodName) (head1 (Jvm.Cond.code (⟨"com/example/brancher/brancher/service/Group", "rest", "(IILjava/util/BitSet;I)V"⟩ : MethodName) prog_74_method_5_code 5 none :: ws) ({ frames := 1, cells := 1, slots := 4, locals := 14 } : Room)) (fun aa UU => aa = #[(.ref g), (.int m'), (.int kk), (.ref x1), (.int (4 : Int32))] ∧ Z.Warmed39 UU.vm ∧ UU.heap = h0) (fun _ _ _ _ _ => True) (fun _ UU oo UU' => ∃ vv LL, oo = .returned vv ∧ QRS Z g x2 u2 M0 M1 h0 n0 vv UU'.heap LL ∧ FrameEnd UU oo UU' LL ({ frames := 1, cells := 1, slots := 4, locals := 14 } : Room).cells ({ frames := 1, cells := 1, slots := 4, locals := 14 } : Room).slots) := by
  obtain ⟨bc, kc, v0, v1, Fc, Vc, OA, R0, R1, nv, gb, ng, l0, l1⟩ := GRh
  rcases hm with rfl | rfl
  · rw [own_iff0] at hM0 hM1
    rcases R0 with ⟨rfl, hL⟩ | ⟨r, kr, rfl, Vr, Or1, lr, gr, rg, rb⟩
    · exact rm20m0nu1 l Z a0 hw ws g x1 x2 bc kk kc v1 L0 L1 u2 M0 M1 h0 n0 Z0 Fc Vc OA hk OL Eg gb ng E1 F1 E2 F2 R1 l1 hM0 hM1 hL
    · exact rm20m0ru1 l Z a0 hw ws g x1 x2 bc kk kc v1 L0 L1 u2 M0 M1 r kr h0 n0 Z0 Fc Vc OA hk OL Eg gb ng E1 F1 E2 F2 R1 l1 hM0 hM1 Vr Or1 lr gr rg rb (nv.resolve_left (by simp))
  · rw [own_iff1] at hM0 hM1
    rcases R1 with ⟨rfl, hL⟩ | ⟨r, kr, rfl, Vr, Or1, lr, gr, rg, rb⟩
    · exact rm20m1nu1 l Z a0 hw ws g x1 x2 bc kk kc v0 L1 L0 u2 M0 M1 h0 n0 Z0 Fc Vc OA hk OL Eg gb ng E1 F1 E2 F2 R0 l0 hM1 hM0 hL
    · exact rm20m1ru1 l Z a0 hw ws g x1 x2 bc kk kc v0 L1 L0 u2 M0 M1 r kr h0 n0 Z0 Fc Vc OA hk OL Eg gb ng E1 F1 E2 F2 R0 l0 hM1 hM0 Vr Or1 lr gr rg rb (by rcases nv with z | z; (· rw [z]; simp); (· exact Ne.symm z))
theorem own_01 (x s : Int32) (h : s = x &&& 1) : s = 0 ∨ s = 1 := by
  have h1 := c_mask x 1 1 (by decide) (by decide)
  rw [← h] at h1
  have e4 : ((2 ^ 1 : Nat) : Int) = 2 := by decide
  rw [e4] at h1
  have e0 : (0 : Int32).toInt = 0 := rfl
  have e1 : (1 : Int32).toInt = 1 := rfl
  simp only [← Int32.toInt_inj]
  omega
theorem own_03 (x s : Int32) (h : s = x &&& 3) : s = 0 ∨ s = 1 ∨ s = 2 ∨ s = 3 := by
  have h1 := c_mask x 3 2 (by decide) (by decide)
  rw [← h] at h1
  have e4 : ((2 ^ 2 : Nat) : Int) = 4 := by decide
  rw [e4] at h1
  have e0 : (0 : Int32).toInt = 0 := rfl
  have e1 : (1 : Int32).toInt = 1 := rfl
  have e2 : (2 : Int32).toInt = 2 := rfl
  have e3 : (3 : Int32).toInt = 3 := rfl
  simp only [← Int32.toInt_inj]
  omega
theorem own_63 (x s : Int32) (h : s = x &&& 63) : ¬ s < 0 ∧ s >>> ((6 : Int32) &&& 31) = 0 := by
  have h1 := c_mask x 63 6 (by decide) (by decide)
  rw [← h] at h1
  have e4 : ((2 ^ 6 : Nat) : Int) = 64 := by decide
  rw [e4] at h1
  have h2 := c_ishr s 6 6 (by decide)
  rw [e4] at h2
  have e0 : (0 : Int32).toInt = 0 := rfl
  rw [Int32.lt_iff_toInt_lt, ← Int32.toInt_inj, h2]
  omega
theorem own_sel (m q k j : Int32) (L0 L1 : List Value) (w : Value) (hm : m = 0 ∨ m = 1) (hq : q = 0 ∨ q = 1) (hk : k = 0 ∨ k = 1 ∨ k = 2 ∨ k = 3) (hj : j = 0 ∨ j = 1 ∨ j = 2 ∨ j = 3) (l0 : L0.length = 4) (l1 : L1.length = 4) :
    (if q = 0 then (if m = 0 then L0.set k.toNatClampNeg w else L0) else (if m = 0 then L1 else L1.set k.toNatClampNeg w)).getD j.toNatClampNeg .null = if q = m ∧ j = k then w else (if q = 0 then L0 else L1).getD j.toNatClampNeg .null := by
  match L0, l0, L1, l1 with
  | [a0, a1, a2, a3], _, [b0, b1, b2, b3], _ =>
    rcases hm with rfl | rfl <;> rcases hq with rfl | rfl <;> rcases hk with rfl | rfl | rfl | rfl <;> rcases hj with rfl | rfl | rfl | rfl <;> rfl
theorem own_nn (q j : Int32) (hj : j = 0 ∨ j = 1 ∨ j = 2 ∨ j = 3) : (if q = 0 then ([.null, .null, .null, .null] : List Value) else [.null, .null, .null, .null]).getD j.toNatClampNeg .null = .null := by
  split <;> exact own_getn hj
theorem own_len4 {m : Int32} {L : List Value} {k : Nat} {w : Value} (l : L.length = 4) : (if m = 0 then L.set k w else L).length = 4 ∧ (if m = 0 then L else L.set k w).length = 4 := by
  constructor <;> split <;> simp [l]
theorem pn295 : plainName "com/example/brancher/brancher/service/GroupChoicesPinLaw" = true := by first | (simp [plainName, overriddenIn]; done) | decide +kernel
theorem pd296 : parseMethodDescriptor "(II)Ljava/util/BitSet;" = some ⟨[.int, .int], some (.object "java/util/BitSet")⟩ := by decide +kernel
theorem pd297 : parseMethodDescriptor "(IILjava/util/BitSet;I)V" = some ⟨[.int, .int, (.object "java/util/BitSet"), .int], none⟩ := by decide +kernel
theorem ef0n00 (m : MethodId) (x0 : Int32) (x1 : Int32) (x2 : Int32) (x3 : Int32) (x4 : Int32) (x5 : Int32) : entryFrame m #[(.int x0), (.int x1), (.int x2), (.int x3), (.int x4), (.int x5)] maxLocals = mkF m 0 #[.val (.int x0), .val (.int x1), .val (.int x2), .val (.int x3), .val (.int x4), .val (.int x5), .unset, .unset, .unset, .unset, .unset, .unset, .unset, .unset, .unset, .unset, .unset, .unset, .unset, .unset, .unset, .unset] [] := by first | (simp [entryFrame, mkF, argsToLocals, Value.category, maxLocals]; done) | rfl
def Q0n00 (Z : State) (m1 : Int32) (c1 : Int32) (m2 : Int32) (c2 : Int32) (q' : Int32) (fl : Int32) (ad : Addr) (kd : ClassId) (nc : Addr) (h0 : Heap) (n0 : Nat) (v : Option Value) (h : Heap) (L : List Loc) : Prop := v = some (.int 1) ∧ Fr n0 L
set_option maxRecDepth 65536 in
set_option maxHeartbeats 40000000 in
theorem rm0n00 (l : Launch) (Z : State) (a0 : Array Value) (hw : ∀ d ∈ tables_1, d.before a0 Z = true) (ws : List Jvm.Cond) (m1 : Int32) (c1 : Int32) (m2 : Int32) (c2 : Int32) (q' : Int32) (fl : Int32) (ad : Addr) (kd : ClassId) (nc : Addr) (h0 : Heap) (n0 : Nat) (Z0 : n0 ≤ h0.size) (SD : Sta Z Z.heap "java/util/ArrayList" "DEFAULTCAPACITY_EMPTY_ELEMENTDATA" "[Ljava/lang/Object;" (.ref ad)) (VD : Arv Z Z.heap ad kd (.object "java/lang/Object") (0 : Int32) [] .null) (SB : Sta Z Z.heap "java/util/BitSet" "$assertionsDisabled" "Z" (.int (1 : Int32))) (SN : Sta Z Z.heap "com/example/brancher/brancher/service/Group" "NO_CHOICES" "Ljava/util/BitSet;" (.ref nc)) (OL : Old Z n0 h0) (hb1 : (fl &&& (1 : Int32) = (0 : Int32))) (hb2 : (fl &&& (2 : Int32) = (0 : Int32))) :
    MetFree l x (head1 (Jvm.Cond.code x code maxLocals ret :: ws) room_1) (fun aa UU => aa = #[(.int m1), (.int c1), (.int m2), (.int c2), (.int q'), (.int fl)] ∧ Z.Warmed39 UU.vm ∧ UU.heap = h0) (fun _ _ _ _ _ => True) (fun _ UU oo UU' => ∃ vv LL, oo = .returned vv ∧ Q0n00 Z m1 c1 m2 c2 q' fl ad kd nc h0 n0 vv UU'.heap LL ∧ FrameEnd UU oo UU' LL room_1.cells room_1.slots) := by
  have W : ∀ {d : Jvm.Cond} (i : Nat), tables_1[i]? = some d → d.before a0 Z = true := fun i h => hw _ (List.mem_of_getElem? h)
  refine MetFree.of_bodySF (plainFor_of_name pn295) hisR ?_
  intro p e s m args below meth c s₁ Bd hml0 hP hK
  obtain ⟨rfl, hZ, hh⟩ := hP
  have hx := Bd.exec
  have hby := Bd.bytes
  have hml : c.maxLocals = 22 := hml0
  have hown : s.vm.findClass "com/example/brancher/brancher/service/GroupChoicesPinLaw" = some m.cls := findClass_of_methodNamed Bd.named
  have hnm := (name_of_methodNamed Bd.named Bd.method).1
  have X0 : Stand p l e room_1 s m #[(.int m1), (.int c1), (.int m2), (.int c2), (.int q'), (.int fl)] below meth c s₁ [] 0 0 := Stand.of_body Bd
  have e0 : s₁.heap = h0 := by rw [← hh, Bd.state]; rfl
  have N0 := Fr.nil n0
  have pre0 : ∀ tt, Steps p.tables e below (s₁.setTop (mkF m 0 #[iv m1, iv c1, iv m2, iv c2, iv q', iv fl, .unset, .unset, .unset, .unset, .unset, .unset, .unset, .unset, .unset, .unset, .unset, .unset, .unset, .unset, .unset, .unset] [])) tt → Steps p.tables e below (s₁.setTop (entryFrame m #[(.int m1), (.int c1), (.int m2), (.int c2), (.int q'), (.int fl)] maxLocals)) tt := fun tt kt => castTop (ef0n00 m m1 c1 m2 c2 q' fl) kt
  obtain ⟨ST, hST⟩ : ∃ z : State, z = s₁.setTop (mkF m 0 #[iv m1, iv c1, iv m2, iv c2, iv q', iv fl, .unset, .unset, .unset, .unset, .unset, .unset, .unset, .unset, .unset, .unset, .unset, .unset, .unset, .unset, .unset, .unset] []) := ⟨_, rfl⟩
  rw [← hST] at pre0
  have go847 : own_S p e below ST s₁ (mkF m 3 #[iv m1, iv c1, iv m2, iv c2, iv q', iv fl, .unset, .unset, .unset, .unset, .unset, .unset, .unset, .unset, .unset, .unset, .unset, .unset, .unset, .unset, .unset, .unset] [(.int (m1 &&& (1 : Int32)))]) := fun tt kt => (by
      rw [hST]
      show Steps p.tables e below (s₁.setTop (mkF m 0 #[iv m1, iv c1, iv m2, iv c2, iv q', iv fl, .unset, .unset, .unset, .unset, .unset, .unset, .unset, .unset, .unset, .unset, .unset, .unset, .unset, .unset, .unset, .unset] [])) _
      refine XS.iloadN X0.here hx rfl (hb hby at_0) rfl ?_
      refine XS.iconst X0.here hx rfl (hb hby at_1) ?_
      refine XS.iand X0.here hx rfl (hb hby at_2) rfl ?_
      exact kt)
  obtain ⟨a1, ha1⟩ : ∃ z : Int32, z = (m1 &&& (1 : Int32)) := ⟨_, rfl⟩
  rw [← ha1] at go847
  have ba1 := own_01 _ a1 ha1
  have go848 : own_S p e below ST s₁ (mkF m 8 #[iv m1, iv c1, iv m2, iv c2, iv q', iv fl, iv a1, .unset, .unset, .unset, .unset, .unset, .unset, .unset, .unset, .unset, .unset, .unset, .unset, .unset, .unset, .unset] [(.int (c1 &&& (3 : Int32)))]) := fun tt kt => go847 tt (by
      refine XS.istore X0.here hx rfl (hb hby at_3) rfl (l' := #[iv m1, iv c1, iv m2, iv c2, iv q', iv fl, iv a1, .unset, .unset, .unset, .unset, .unset, .unset, .unset, .unset, .unset, .unset, .unset, .unset, .unset, .unset, .unset]) rfl ?_
      refine XS.iloadN X0.here hx rfl (hb hby at_5) rfl ?_
      refine XS.iconst X0.here hx rfl (hb hby at_6) ?_
      refine XS.iand X0.here hx rfl (hb hby at_7) rfl ?_
      exact kt)
  obtain ⟨k1, hk1⟩ : ∃ z : Int32, z = (c1 &&& (3 : Int32)) := ⟨_, rfl⟩
  rw [← hk1] at go848
  have bk1 := own_03 _ k1 hk1
  have go849 : own_S p e below ST s₁ (mkF m 13 #[iv m1, iv c1, iv m2, iv c2, iv q', iv fl, iv a1, iv k1, .unset, .unset, .unset, .unset, .unset, .unset, .unset, .unset, .unset, .unset, .unset, .unset, .unset, .unset] [(.int (m2 &&& (1 : Int32)))]) := fun tt kt => go848 tt (by
      refine XS.istore X0.here hx rfl (hb hby at_8) rfl (l' := #[iv m1, iv c1, iv m2, iv c2, iv q', iv fl, iv a1, iv k1, .unset, .unset, .unset, .unset, .unset, .unset, .unset, .unset, .unset, .unset, .unset, .unset, .unset, .unset]) rfl ?_
      refine XS.iloadN X0.here hx rfl (hb hby at_10) rfl ?_
      refine XS.iconst X0.here hx rfl (hb hby at_11) ?_
      refine XS.iand X0.here hx rfl (hb hby at_12) rfl ?_
      exact kt)
  obtain ⟨a2, ha2⟩ : ∃ z : Int32, z = (m2 &&& (1 : Int32)) := ⟨_, rfl⟩
  rw [← ha2] at go849
  have ba2 := own_01 _ a2 ha2
  have go850 : own_S p e below ST s₁ (mkF m 18 #[iv m1, iv c1, iv m2, iv c2, iv q', iv fl, iv a1, iv k1, iv a2, .unset, .unset, .unset, .unset, .unset, .unset, .unset, .unset, .unset, .unset, .unset, .unset, .unset] [(.int (c2 &&& (3 : Int32)))]) := fun tt kt => go849 tt (by
      refine XS.istore X0.here hx rfl (hb hby at_13) rfl (l' := #[iv m1, iv c1, iv m2, iv c2, iv q', iv fl, iv a1, iv k1, iv a2, .unset, .unset, .unset, .unset, .unset, .unset, .unset, .unset, .unset, .unset, .unset, .unset, .unset]) rfl ?_
      refine XS.iloadN X0.here hx rfl (hb hby at_15) rfl ?_
      refine XS.iconst X0.here hx rfl (hb hby at_16) ?_
      refine XS.iand X0.here hx rfl (hb hby at_17) rfl ?_
      exact kt)
  obtain ⟨k2, hk2⟩ : ∃ z : Int32, z = (c2 &&& (3 : Int32)) := ⟨_, rfl⟩
  rw [← hk2] at go850
  have bk2 := own_03 _ k2 hk2
  have go851 : own_S p e below ST s₁ (mkF m 24 #[iv m1, iv c1, iv m2, iv c2, iv q', iv fl, iv a1, iv k1, iv a2, iv k2, .unset, .unset, .unset, .unset, .unset, .unset, .unset, .unset, .unset, .unset, .unset, .unset] [(.int (q' &&& (1 : Int32)))]) := fun tt kt => go850 tt (by
      refine XS.istore X0.here hx rfl (hb hby at_18) rfl (l' := #[iv m1, iv c1, iv m2, iv c2, iv q', iv fl, iv a1, iv k1, iv a2, iv k2, .unset, .unset, .unset, .unset, .unset, .unset, .unset, .unset, .unset, .unset, .unset, .unset]) rfl ?_
      refine XS.iload X0.here hx rfl (hb hby at_20) rfl ?_
      refine XS.iconst X0.here hx rfl (hb hby at_22) ?_
      refine XS.iand X0.here hx rfl (hb hby at_23) rfl ?_
      exact kt)
  obtain ⟨qm, hqm⟩ : ∃ z : Int32, z = (q' &&& (1 : Int32)) := ⟨_, rfl⟩
  rw [← hqm] at go851
  have bqm := own_01 _ qm hqm
  have go852 : own_S p e below ST s₁ (mkF m 32 #[iv m1, iv c1, iv m2, iv c2, iv q', iv fl, iv a1, iv k1, iv a2, iv k2, iv qm, .unset, .unset, .unset, .unset, .unset, .unset, .unset, .unset, .unset, .unset, .unset] [(.int (((q'.toUInt32 >>> ((1 : Int32) &&& 31).toUInt32).toInt32) &&& (3 : Int32)))]) := fun tt kt => go851 tt (by
      refine XS.istore X0.here hx rfl (hb hby at_24) rfl (l' := #[iv m1, iv c1, iv m2, iv c2, iv q', iv fl, iv a1, iv k1, iv a2, iv k2, iv qm, .unset, .unset, .unset, .unset, .unset, .unset, .unset, .unset, .unset, .unset, .unset]) rfl ?_
      refine XS.iload X0.here hx rfl (hb hby at_26) rfl ?_
      refine XS.iconst X0.here hx rfl (hb hby at_28) ?_
      refine XS.iushr X0.here hx rfl (hb hby at_29) rfl ?_
      refine XS.iconst X0.here hx rfl (hb hby at_30) ?_
      refine XS.iand X0.here hx rfl (hb hby at_31) rfl ?_
      exact kt)
  obtain ⟨qk, hqk⟩ : ∃ z : Int32, z = (((q'.toUInt32 >>> ((1 : Int32) &&& 31).toUInt32).toInt32) &&& (3 : Int32)) := ⟨_, rfl⟩
  rw [← hqk] at go852
  have bqk := own_03 _ qk hqk
  have go853 : own_S p e below ST s₁ (mkF m 62 #[iv m1, iv c1, iv m2, iv c2, iv q', iv fl, iv a1, iv k1, iv a2, iv k2, iv qm, iv qk, iv (0 : Int32), iv (0 : Int32), .unset, .unset, .unset, .unset, .unset, .unset, .unset, .unset] []) := fun tt kt => go852 tt (by
      refine XS.istore X0.here hx rfl (hb hby at_32) rfl (l' := #[iv m1, iv c1, iv m2, iv c2, iv q', iv fl, iv a1, iv k1, iv a2, iv k2, iv qm, iv qk, .unset, .unset, .unset, .unset, .unset, .unset, .unset, .unset, .unset, .unset]) rfl ?_
      refine XS.iload X0.here hx rfl (hb hby at_34) rfl ?_
      refine XS.iconst X0.here hx rfl (hb hby at_36) ?_
      refine XS.iand X0.here hx rfl (hb hby at_37) rfl ?_
      refine XS.ifYes X0.here hx rfl (pc0 := 38) (pc' := 45) rfl (hb hby at_38) rfl ((if0 _ _).trans (teq hb1).1) (by decide) (by decide) ?_
      refine XS.iconst X0.here hx rfl (hb hby at_45) ?_
      show Steps p.tables e below (s₁.setTop (mkF m 46 #[iv m1, iv c1, iv m2, iv c2, iv q', iv fl, iv a1, iv k1, iv a2, iv k2, iv qm, iv qk, .unset, .unset, .unset, .unset, .unset, .unset, .unset, .unset, .unset, .unset] [(.int (0 : Int32))])) _
      refine XS.istore X0.here hx rfl (hb hby at_46) rfl (l' := #[iv m1, iv c1, iv m2, iv c2, iv q', iv fl, iv a1, iv k1, iv a2, iv k2, iv qm, iv qk, iv (0 : Int32), .unset, .unset, .unset, .unset, .unset, .unset, .unset, .unset, .unset]) rfl ?_
      refine XS.iload X0.here hx rfl (hb hby at_48) rfl ?_
      refine XS.iconst X0.here hx rfl (hb hby at_50) ?_
      refine XS.iand X0.here hx rfl (hb hby at_51) rfl ?_
      refine XS.ifYes X0.here hx rfl (pc0 := 52) (pc' := 59) rfl (hb hby at_52) rfl ((if0 _ _).trans (teq hb2).1) (by decide) (by decide) ?_
      refine XS.iconst X0.here hx rfl (hb hby at_59) ?_
      show Steps p.tables e below (s₁.setTop (mkF m 60 #[iv m1, iv c1, iv m2, iv c2, iv q', iv fl, iv a1, iv k1, iv a2, iv k2, iv qm, iv qk, iv (0 : Int32), .unset, .unset, .unset, .unset, .unset, .unset, .unset, .unset, .unset] [(.int (0 : Int32))])) _
      refine XS.istore X0.here hx rfl (hb hby at_60) rfl (l' := #[iv m1, iv c1, iv m2, iv c2, iv q', iv fl, iv a1, iv k1, iv a2, iv k2, iv qm, iv qk, iv (0 : Int32), iv (0 : Int32), .unset, .unset, .unset, .unset, .unset, .unset, .unset, .unset]) rfl ?_
      exact kt)
  obtain ⟨b854, g854⟩ : ∃ z, z = h0.size := ⟨_, rfl⟩
  obtain ⟨T854, h854, X854, e854, E854, A854, D854, -, st854⟩ := newO X0 hx hZ hown (W 0 rfl) (W 1 rfl) (W 2 rfl) e0 (g := (mkF m 62 #[iv m1, iv c1, iv m2, iv c2, iv q', iv fl, iv a1, iv k1, iv a2, iv k2, iv qm, iv qk, iv (0 : Int32), iv (0 : Int32), .unset, .unset, .unset, .unset, .unset, .unset, .unset, .unset] [])) rfl (hb hby at_62) (by decide) (by decide)
  rw [← g854] at A854 D854 st854
  have ge_b854 : n0 ≤ b854 := Nat.le_trans Z0 (Nat.le_of_eq g854.symm)
  have F854_wordsInUse : Fld Z h854 b854 "java/util/BitSet" "wordsInUse" "I" (.int (0 : Int32)) := D854 (Or.inl (W 10 rfl)) (ty := .int) (by decide)
  have F854_sizeIsSticky : Fld Z h854 b854 "java/util/BitSet" "sizeIsSticky" "Z" (.int (0 : Int32)) := D854 (Or.inl (W 12 rfl)) (ty := .boolean) (by decide)
  have F854_words : Fld Z h854 b854 "java/util/BitSet" "words" "[J" .null := D854 (Or.inl (W 23 rfl)) (ty := (.array .long)) (by decide)
  have go855 : own_S p e below ST T854 (mkF m 65 #[iv m1, iv c1, iv m2, iv c2, iv q', iv fl, iv a1, iv k1, iv a2, iv k2, iv qm, iv qk, iv (0 : Int32), iv (0 : Int32), .unset, .unset, .unset, .unset, .unset, .unset, .unset, .unset] [(.ref b854)]) := fun tt kt => go853 tt (st854 _ kt)
  have go856 : own_S p e below ST T854 (mkF m 66 #[iv m1, iv c1, iv m2, iv c2, iv q', iv fl, iv a1, iv k1, iv a2, iv k2, iv qm, iv qk, iv (0 : Int32), iv (0 : Int32), .unset, .unset, .unset, .unset, .unset, .unset, .unset, .unset] [(.ref b854), (.ref b854)]) := fun tt kt => go855 tt (by
      refine XS.dup X854.here hx rfl (hb hby at_65) rfl rfl ?_
      exact kt)
  have zs858 := (Nat.le_trans Z0 E854.1)
  obtain ⟨_, _, ⟨T857, L857, k857, n857⟩, -, X857, ⟨Lc857, hQ857, l857, y857, z857⟩, st857⟩ := X854.specialBack hx (y := (⟨"java/util/BitSet", "<init>", "()V"⟩ : MethodName)) rfl hown (mvT hZ (W 3 rfl)) (mvT hZ (W 4 rfl)) (mvT hZ (W 5 rfl)) (by decide) (backOf (W := 1) (rm1 l Z a0 hw [] b854 h854 n0 zs858 F854_wordsInUse F854_sizeIsSticky F854_words A854 ge_b854) hZ (W 5 rfl) (W 2 rfl) (by decide) (by decide)) (g := (mkF m 66 #[iv m1, iv c1, iv m2, iv c2, iv q', iv fl, iv a1, iv k1, iv a2, iv k2, iv qm, iv qk, iv (0 : Int32), iv (0 : Int32), .unset, .unset, .unset, .unset, .unset, .unset, .unset, .unset] [(.ref b854), (.ref b854)])) rfl (by rw [hml]; rfl) (Steps.refl _) (a := b854) (argsL := []) (rest := [(.ref b854)]) (lenOf pd7 rfl) rfl (by show 2 * 0 + _ ≤ _; exact Nat.le_of_eq rfl) (hb hby at_66) (fun _ _ => ⟨rfl, e854, (by decide : 1 + 1 ≤ _), (by decide : 3 + 1 ≤ _)⟩)
  dsimp only [Pt.U, Pt.locs, Pt.cells, Pt.slots] at X857 l857 y857 z857 st857 hQ857
  subst l857 y857 z857
  obtain ⟨b857, kb857, rfl, Nq857, K857, Fa857, Fb857, Fc857, Vb857, gb857, zb857, nb857⟩ := hQ857
  have N857 := Fr.app N0 Nq857
  have go859 : own_S p e below ST T857 (mkF m 69 #[iv m1, iv c1, iv m2, iv c2, iv q', iv fl, iv a1, iv k1, iv a2, iv k2, iv qm, iv qk, iv (0 : Int32), iv (0 : Int32), .unset, .unset, .unset, .unset, .unset, .unset, .unset, .unset] [(.ref b854)]) := fun tt kt => go856 tt (st857.trans kt)
  have go860 : own_S p e below ST T857 (mkF m 71 #[iv m1, iv c1, iv m2, iv c2, iv q', iv fl, iv a1, iv k1, iv a2, iv k2, iv qm, iv qk, iv (0 : Int32), iv (0 : Int32), rv b854, .unset, .unset, .unset, .unset, .unset, .unset, .unset] []) := fun tt kt => go859 tt (by
      refine XS.astore X857.here hx rfl (hb hby at_69) rfl rfl (l' := #[iv m1, iv c1, iv m2, iv c2, iv q', iv fl, iv a1, iv k1, iv a2, iv k2, iv qm, iv qk, iv (0 : Int32), iv (0 : Int32), rv b854, .unset, .unset, .unset, .unset, .unset, .unset, .unset]) rfl ?_
      exact kt)
  have f862 := (A854.keep K857)
  have zs863 := (Nat.le_trans zs858 K857.1)
  obtain ⟨b861, g861⟩ : ∃ z, z = T857.heap.size := ⟨_, rfl⟩
  obtain ⟨T861, h861, X861, e861, E861, A861, D861, -, st861⟩ := newO X857 hx hZ hown (W 0 rfl) (W 1 rfl) (W 2 rfl) rfl (g := (mkF m 71 #[iv m1, iv c1, iv m2, iv c2, iv q', iv fl, iv a1, iv k1, iv a2, iv k2, iv qm, iv qk, iv (0 : Int32), iv (0 : Int32), rv b854, .unset, .unset, .unset, .unset, .unset, .unset, .unset] [])) rfl (hb hby at_71) (by decide) (by decide)
  rw [← g861] at A861 D861 st861
  have neb854_b861 : b854 ≠ b861 := Nat.ne_of_lt (Nat.lt_of_lt_of_le f862.lt (Nat.le_of_eq g861.symm))
  have neb857_b861 : b857 ≠ b861 := Nat.ne_of_lt (Nat.lt_of_lt_of_le Vb857.lt (Nat.le_of_eq g861.symm))
  have ge_b861 : n0 ≤ b861 := Nat.le_trans zs863 (Nat.le_of_eq g861.symm)
  have F861_wordsInUse : Fld Z h861 b861 "java/util/BitSet" "wordsInUse" "I" (.int (0 : Int32)) := D861 (Or.inl (W 10 rfl)) (ty := .int) (by decide)
  have F861_sizeIsSticky : Fld Z h861 b861 "java/util/BitSet" "sizeIsSticky" "Z" (.int (0 : Int32)) := D861 (Or.inl (W 12 rfl)) (ty := .boolean) (by decide)
  have F861_words : Fld Z h861 b861 "java/util/BitSet" "words" "[J" .null := D861 (Or.inl (W 23 rfl)) (ty := (.array .long)) (by decide)
  have go864 : own_S p e below ST T861 (mkF m 74 #[iv m1, iv c1, iv m2, iv c2, iv q', iv fl, iv a1, iv k1, iv a2, iv k2, iv qm, iv qk, iv (0 : Int32), iv (0 : Int32), rv b854, .unset, .unset, .unset, .unset, .unset, .unset, .unset] [(.ref b861)]) := fun tt kt => go860 tt (st861 _ kt)
  have go865 : own_S p e below ST T861 (mkF m 75 #[iv m1, iv c1, iv m2, iv c2, iv q', iv fl, iv a1, iv k1, iv a2, iv k2, iv qm, iv qk, iv (0 : Int32), iv (0 : Int32), rv b854, .unset, .unset, .unset, .unset, .unset, .unset, .unset] [(.ref b861), (.ref b861)]) := fun tt kt => go864 tt (by
      refine XS.dup X861.here hx rfl (hb hby at_74) rfl rfl ?_
      exact kt)
  have f866 := (f862.ext E861)
  have f867 := (Vb857.ext E861)
  have zs869 := (Nat.le_trans zs863 E861.1)
  obtain ⟨_, _, ⟨T868, L868, k868, n868⟩, -, X868, ⟨Lc868, hQ868, l868, y868, z868⟩, st868⟩ := X861.specialBack hx (y := (⟨"java/util/BitSet", "<init>", "()V"⟩ : MethodName)) rfl hown (mvT hZ (W 3 rfl)) (mvT hZ (W 4 rfl)) (mvT hZ (W 5 rfl)) (by decide) (backOf (W := 1) (rm1 l Z a0 hw [] b861 h861 n0 zs869 F861_wordsInUse F861_sizeIsSticky F861_words A861 ge_b861) hZ (W 5 rfl) (W 2 rfl) (by decide) (by decide)) (g := (mkF m 75 #[iv m1, iv c1, iv m2, iv c2, iv q', iv fl, iv a1, iv k1, iv a2, iv k2, iv qm, iv qk, iv (0 : Int32), iv (0 : Int32), rv b854, .unset, .unset, .unset, .unset, .unset, .unset, .unset] [(.ref b861), (.ref b861)])) rfl (by rw [hml]; rfl) (Steps.refl _) (a := b861) (argsL := []) (rest := [(.ref b861)]) (lenOf pd7 rfl) rfl (by show 2 * 0 + _ ≤ _; exact Nat.le_of_eq rfl) (hb hby at_75) (fun _ _ => ⟨rfl, e861, (by decide : 3 + 1 ≤ _), (by decide : 7 + 1 ≤ _)⟩)
  dsimp only [Pt.U, Pt.locs, Pt.cells, Pt.slots] at X868 l868 y868 z868 st868 hQ868
  subst l868 y868 z868
  obtain ⟨b868, kb868, rfl, Nq868, K868, Fa868, Fb868, Fc868, Vb868, gb868, zb868, nb868⟩ := hQ868
  have N868 := Fr.app N857 Nq868
  have go870 : own_S p e below ST T868 (mkF m 78 #[iv m1, iv c1, iv m2, iv c2, iv q', iv fl, iv a1, iv k1, iv a2, iv k2, iv qm, iv qk, iv (0 : Int32), iv (0 : Int32), rv b854, .unset, .unset, .unset, .unset, .unset, .unset, .unset] [(.ref b861)]) := fun tt kt => go865 tt (st868.trans kt)
  have neb854_b868 : b854 ≠ b868 := Nat.ne_of_lt (Nat.lt_of_lt_of_le f866.lt zb868)
  have neb857_b868 : b857 ≠ b868 := Nat.ne_of_lt (Nat.lt_of_lt_of_le f867.lt zb868)
  have go871 : own_S p e below ST T868 (mkF m 97 #[iv m1, iv c1, iv m2, iv c2, iv q', iv fl, iv a1, iv k1, iv a2, iv k2, iv qm, iv qk, iv (0 : Int32), iv (0 : Int32), rv b854, rv b861, .unset, .unset, .unset, .unset, .unset, .unset] []) := fun tt kt => go870 tt (by
      refine XS.astore X868.here hx rfl (hb hby at_78) rfl rfl (l' := #[iv m1, iv c1, iv m2, iv c2, iv q', iv fl, iv a1, iv k1, iv a2, iv k2, iv qm, iv qk, iv (0 : Int32), iv (0 : Int32), rv b854, rv b861, .unset, .unset, .unset, .unset, .unset, .unset]) rfl ?_
      refine XS.iload X868.here hx rfl (hb hby at_80) rfl ?_
      refine XS.ifYes X868.here hx rfl (pc0 := 82) (pc' := 97) rfl (hb hby at_82) rfl ((if0 _ _).trans (teq (by decide : (0 : Int32) = (0 : Int32))).1) (by decide) (by decide) ?_
      exact kt)
  have go872 : own_S p e below ST T868 (mkF m 115 #[iv m1, iv c1, iv m2, iv c2, iv q', iv fl, iv a1, iv k1, iv a2, iv k2, iv qm, iv qk, iv (0 : Int32), iv (0 : Int32), rv b854, rv b861, .unset, .unset, .unset, .unset, .unset, .unset] []) := fun tt kt => go871 tt (by
      refine XS.iload X868.here hx rfl (hb hby at_97) rfl ?_
      refine XS.ifYes X868.here hx rfl (pc0 := 99) (pc' := 115) rfl (hb hby at_99) rfl ((if0 _ _).trans (teq (by decide : (0 : Int32) = (0 : Int32))).1) (by decide) (by decide) ?_
      exact kt)
  have f874 := (f866.keep K868)
  have f875 := (f867.keep K868 (ninS neb857_b861 nin0))
  have f876 := (A861.keep K868)
  have zs877 := (Nat.le_trans zs869 K868.1)
  obtain ⟨b873, g873⟩ : ∃ z, z = T868.heap.size := ⟨_, rfl⟩
  obtain ⟨T873, h873, X873, e873, E873, A873, D873, -, st873⟩ := newO X868 hx hZ hown (W 45 rfl) (W 46 rfl) (W 47 rfl) rfl (g := (mkF m 115 #[iv m1, iv c1, iv m2, iv c2, iv q', iv fl, iv a1, iv k1, iv a2, iv k2, iv qm, iv qk, iv (0 : Int32), iv (0 : Int32), rv b854, rv b861, .unset, .unset, .unset, .unset, .unset, .unset] [])) rfl (hb hby at_115) (by decide) (by decide)
  rw [← g873] at A873 D873 st873
  have neb854_b873 : b854 ≠ b873 := Nat.ne_of_lt (Nat.lt_of_lt_of_le f874.lt (Nat.le_of_eq g873.symm))
  have neb857_b873 : b857 ≠ b873 := Nat.ne_of_lt (Nat.lt_of_lt_of_le f875.lt (Nat.le_of_eq g873.symm))
  have neb861_b873 : b861 ≠ b873 := Nat.ne_of_lt (Nat.lt_of_lt_of_le f876.lt (Nat.le_of_eq g873.symm))
  have neb868_b873 : b868 ≠ b873 := Nat.ne_of_lt (Nat.lt_of_lt_of_le Vb868.lt (Nat.le_of_eq g873.symm))
  have ge_b873 : n0 ≤ b873 := Nat.le_trans zs877 (Nat.le_of_eq g873.symm)
  have F873_edges : Fld Z h873 b873 "com/example/brancher/brancher/service/Group" "edges" "Ljava/util/List;" .null := D873 (Or.inr (W 77 rfl)) (ty := (.object "java/util/List")) (by decide)
  have F873_elements : Fld Z h873 b873 "com/example/brancher/brancher/service/Group" "elements" "[Lcom/example/brancher/brancher/service/Element;" .null := D873 (Or.inr (W 81 rfl)) (ty := (.array (.object "com/example/brancher/brancher/service/Element"))) (by decide)
  have F873_parent : Fld Z h873 b873 "com/example/brancher/brancher/service/Group" "parent" "Lcom/example/brancher/brancher/service/Group$Parent;" .null := D873 (Or.inr (W 83 rfl)) (ty := (.object "com/example/brancher/brancher/service/Group$Parent")) (by decide)
  have F873_level : Fld Z h873 b873 "com/example/brancher/brancher/service/Group" "level" "I" (.int (0 : Int32)) := D873 (Or.inr (W 85 rfl)) (ty := .int) (by decide)
  have F873_choices : Fld Z h873 b873 "com/example/brancher/brancher/service/Group" "choices" "[[Ljava/util/BitSet;" .null := D873 (Or.inr (W 89 rfl)) (ty := (.array (.array (.object "java/util/BitSet")))) (by decide)
  have go878 : own_S p e below ST T873 (mkF m 118 #[iv m1, iv c1, iv m2, iv c2, iv q', iv fl, iv a1, iv k1, iv a2, iv k2, iv qm, iv qk, iv (0 : Int32), iv (0 : Int32), rv b854, rv b861, .unset, .unset, .unset, .unset, .unset, .unset] [(.ref b873)]) := fun tt kt => go872 tt (st873 _ kt)
  have go879 : own_S p e below ST T873 (mkF m 120 #[iv m1, iv c1, iv m2, iv c2, iv q', iv fl, iv a1, iv k1, iv a2, iv k2, iv qm, iv qk, iv (0 : Int32), iv (0 : Int32), rv b854, rv b861, .unset, .unset, .unset, .unset, .unset, .unset] [(.int (2 : Int32)), (.ref b873), (.ref b873)]) := fun tt kt => go878 tt (by
      refine XS.dup X873.here hx rfl (hb hby at_118) rfl rfl ?_
      refine XS.iconst X873.here hx rfl (hb hby at_119) ?_
      exact kt)
  have f880 := (((((OL.ext E854).keep K857 (allS ge_b854 all0)).ext E861).keep K868 (allS ge_b861 all0)).ext E873)
  have zs882 := (Nat.le_trans zs877 E873.1)
  obtain ⟨_, _, ⟨T881, L881, k881, n881⟩, -, X881, ⟨Lc881, hQ881, l881, y881, z881⟩, st881⟩ := X873.specialBack hx (y := (⟨"com/example/brancher/brancher/service/Group", "<init>", "(I)V"⟩ : MethodName)) rfl hown (mvT hZ (W 48 rfl)) (mvT hZ (W 49 rfl)) (mvT hZ (W 50 rfl)) (by decide) (backOf (W := 1) (rm9 l Z a0 hw [] b873 ad kd h873 n0 zs882 F873_edges F873_elements F873_parent F873_level F873_choices A873 ge_b873 SD VD f880) hZ (W 50 rfl) (W 47 rfl) (by decide) (by decide)) (g := (mkF m 120 #[iv m1, iv c1, iv m2, iv c2, iv q', iv fl, iv a1, iv k1, iv a2, iv k2, iv qm, iv qk, iv (0 : Int32), iv (0 : Int32), rv b854, rv b861, .unset, .unset, .unset, .unset, .unset, .unset] [(.int (2 : Int32)), (.ref b873), (.ref b873)])) rfl (by rw [hml]; rfl) (Steps.refl _) (a := b873) (argsL := [(.int (2 : Int32))]) (rest := [(.ref b873)]) (lenOf pd113 rfl) rfl (by show 2 * 0 + _ ≤ _; exact Nat.le_of_eq rfl) (hb hby at_120) (fun _ _ => ⟨rfl, e873, (by decide : 5 + 18 ≤ _), (by decide : 14 + 57 ≤ _)⟩)
  dsimp only [Pt.U, Pt.locs, Pt.cells, Pt.slots] at X881 l881 y881 z881 st881 hQ881
  subst l881 y881 z881
  obtain ⟨bc881, kc881, rfl, Nq881, K881, Fc881, Vc881, oc881, gb881, nb881⟩ := hQ881
  have N881 := Fr.app N868 Nq881
  have go883 : own_S p e below ST T881 (mkF m 123 #[iv m1, iv c1, iv m2, iv c2, iv q', iv fl, iv a1, iv k1, iv a2, iv k2, iv qm, iv qk, iv (0 : Int32), iv (0 : Int32), rv b854, rv b861, .unset, .unset, .unset, .unset, .unset, .unset] [(.ref b873)]) := fun tt kt => go879 tt (st881.trans kt)
  have GRi881 : own_GR Z T881.heap n0 b873 [.null, .null, .null, .null] [.null, .null, .null, .null] := ⟨bc881, kc881, .null, .null, Fc881, Vc881, oc881, Or.inl ⟨rfl, rfl⟩, Or.inl ⟨rfl, rfl⟩, Or.inl rfl, gb881, nb881, rfl, rfl⟩
  have go884 : own_S p e below ST T881 (mkF m 131 #[iv m1, iv c1, iv m2, iv c2, iv q', iv fl, iv a1, iv k1, iv a2, iv k2, iv qm, iv qk, iv (0 : Int32), iv (0 : Int32), rv b854, rv b861, rv b873, .unset, .unset, .unset, .unset, .unset] [(.int qk), (.int qm), (.ref b873)]) := fun tt kt => go883 tt (by
      refine XS.astore X881.here hx rfl (hb hby at_123) rfl rfl (l' := #[iv m1, iv c1, iv m2, iv c2, iv q', iv fl, iv a1, iv k1, iv a2, iv k2, iv qm, iv qk, iv (0 : Int32), iv (0 : Int32), rv b854, rv b861, rv b873, .unset, .unset, .unset, .unset, .unset]) rfl ?_
      refine XS.aload X881.here hx rfl (hb hby at_125) rfl rfl ?_
      refine XS.iload X881.here hx rfl (hb hby at_127) rfl ?_
      refine XS.iload X881.here hx rfl (hb hby at_129) rfl ?_
      exact kt)
  have f885 := (f880.keep K881 (allS ge_b873 all0))
  have zs887 := (Nat.le_trans zs882 K881.1)
  have f888 := (A873.keep K881)
  obtain ⟨cq886, kq886, q886a, q886b, q886c⟩ := isOf hZ rfl f888
  obtain ⟨_, _, ⟨T886, L886, k886, n886⟩, -, X886, ⟨Lc886, hQ886, l886, y886, z886⟩, st886⟩ := X881.virtualBack hx (y := (⟨"com/example/brancher/brancher/service/Group", "choices", "(II)Ljava/util/BitSet;"⟩ : MethodName)) (z := (⟨"com/example/brancher/brancher/service/Group", "choices", "(II)Ljava/util/BitSet;"⟩ : MethodName)) hown (mvT hZ (W 144 rfl)) (mvT hZ (W 145 rfl)) (notFace_of_selects (args := #[]) (mvT hZ (W 147 rfl))) (mvT hZ (W 147 rfl)) (mvT hZ (W 146 rfl)) (by decide) (backOf (W := 0) (rmCH l Z a0 hw [] b873 qm qk [.null, .null, .null, .null] [.null, .null, .null, .null] nc T881.heap n0 zs887 GRi881 bqm bqk SN f885) hZ (W 148 rfl) (W 47 rfl) (by decide) (by decide)) q886a q886c (g := (mkF m 131 #[iv m1, iv c1, iv m2, iv c2, iv q', iv fl, iv a1, iv k1, iv a2, iv k2, iv qm, iv qk, iv (0 : Int32), iv (0 : Int32), rv b854, rv b861, rv b873, .unset, .unset, .unset, .unset, .unset] [(.int qk), (.int qm), (.ref b873)])) rfl (by rw [hml]; rfl) (Steps.refl _) (argsL := [(.int qm), (.int qk)]) (rest := []) (lenOf pd296 rfl) rfl (by show 2 * 0 + _ ≤ _; exact Nat.le_of_eq rfl) (hb hby at_131) (fun _ _ => ⟨rfl, rfl, (by decide : 23 + 0 ≤ _), (by decide : 71 + 0 ≤ _)⟩)
  dsimp only [Pt.U, Pt.locs, Pt.cells, Pt.slots] at X886 l886 y886 z886 st886 hQ886
  subst l886 y886 z886
  obtain ⟨rfl, Nq886, eh886⟩ := hQ886
  have N886 := Fr.app N881 Nq886
  have go889 : own_S p e below ST T886 (mkF m 134 #[iv m1, iv c1, iv m2, iv c2, iv q', iv fl, iv a1, iv k1, iv a2, iv k2, iv qm, iv qk, iv (0 : Int32), iv (0 : Int32), rv b854, rv b861, rv b873, .unset, .unset, .unset, .unset, .unset] [(own_or nc ((if qm = 0 then [.null, .null, .null, .null] else [.null, .null, .null, .null]).getD (qk).toNatClampNeg .null))]) := fun tt kt => go884 tt (st886.trans kt)
  have e_1 : own_or nc ((if qm = 0 then ([.null, .null, .null, .null] : List Value) else [.null, .null, .null, .null]).getD (qk).toNatClampNeg .null) = .ref nc := own_orn nc (own_nn qm qk bqk)
  obtain ⟨vo1, hvo1⟩ : ∃ z : Value, z = (own_or nc ((if qm = 0 then [.null, .null, .null, .null] else [.null, .null, .null, .null]).getD (qk).toNatClampNeg .null)) := ⟨_, rfl⟩
  rw [← hvo1] at go889
  replace e_1 := hvo1.trans e_1
  obtain ⟨T890, X890, e890, st890⟩ := getS2 X886 hx hZ hown (host := "") (Or.inl (W 151 rfl)) Via.refl eh886 (SN.ext f885.2) (g := (mkF m 134 #[iv m1, iv c1, iv m2, iv c2, iv q', iv fl, iv a1, iv k1, iv a2, iv k2, iv qm, iv qk, iv (0 : Int32), iv (0 : Int32), rv b854, rv b861, rv b873, .unset, .unset, .unset, .unset, .unset] [vo1])) rfl (hb hby at_134)
  have go891 : own_S p e below ST T890 (mkF m 137 #[iv m1, iv c1, iv m2, iv c2, iv q', iv fl, iv a1, iv k1, iv a2, iv k2, iv qm, iv qk, iv (0 : Int32), iv (0 : Int32), rv b854, rv b861, rv b873, .unset, .unset, .unset, .unset, .unset] [(.ref nc), vo1]) := fun tt kt => go889 tt (st890 _ kt)
  have go892 : own_S p e below ST T890 (mkF m 156 #[iv m1, iv c1, iv m2, iv c2, iv q', iv fl, iv a1, iv k1, iv a2, iv k2, iv qm, iv qk, iv (0 : Int32), iv (0 : Int32), rv b854, rv b861, rv b873, iv (1 : Int32), .unset, .unset, .unset, .unset] [(.int (4 : Int32)), (.ref b854), (.int k1), (.int a1), (.ref b873)]) := fun tt kt => go891 tt (by
      refine Jvm.RoadKit.acmp (g := (mkF m 137 #[iv m1, iv c1, iv m2, iv c2, iv q', iv fl, iv a1, iv k1, iv a2, iv k2, iv qm, iv qk, iv (0 : Int32), iv (0 : Int32), rv b854, rv b861, rv b873, .unset, .unset, .unset, .unset, .unset] [(.ref nc), vo1])) X890 hx rfl (by rw [e_1]; rfl) rfl (pc0 := 137) (pc' := 140) (same := true) rfl (hb hby at_137) rfl (decide_eq_true e_1) (by decide) (by decide) ?_
      refine XS.iconst X890.here hx rfl (hb hby at_140) ?_
      refine XS.goto X890.here hx rfl (pc0 := 141) (pc' := 145) rfl (hb hby at_141) (by decide) (by decide) ?_
      refine XS.istore X890.here hx rfl (hb hby at_145) rfl (l' := #[iv m1, iv c1, iv m2, iv c2, iv q', iv fl, iv a1, iv k1, iv a2, iv k2, iv qm, iv qk, iv (0 : Int32), iv (0 : Int32), rv b854, rv b861, rv b873, iv (1 : Int32), .unset, .unset, .unset, .unset]) rfl ?_
      refine XS.aload X890.here hx rfl (hb hby at_147) rfl rfl ?_
      refine XS.iload X890.here hx rfl (hb hby at_149) rfl ?_
      show Steps p.tables e below (T890.setTop (mkF m 151 #[iv m1, iv c1, iv m2, iv c2, iv q', iv fl, iv a1, iv k1, iv a2, iv k2, iv qm, iv qk, iv (0 : Int32), iv (0 : Int32), rv b854, rv b861, rv b873, iv (1 : Int32), .unset, .unset, .unset, .unset] [(.int a1), (.ref b873)])) _
      refine XS.iload X890.here hx rfl (hb hby at_151) rfl ?_
      refine XS.aload X890.here hx rfl (hb hby at_153) rfl rfl ?_
      refine XS.iconst X890.here hx rfl (hb hby at_155) ?_
      exact kt)
  obtain ⟨M0_1, hM0_1⟩ : ∃ z : List Value, z = if a1 = 0 then ([.null, .null, .null, .null] : List Value).set (k1).toNatClampNeg .null else [.null, .null, .null, .null] := ⟨_, rfl⟩
  obtain ⟨M1_1, hM1_1⟩ : ∃ z : List Value, z = if a1 = 0 then ([.null, .null, .null, .null] : List Value) else ([.null, .null, .null, .null] : List Value).set (k1).toNatClampNeg .null := ⟨_, rfl⟩
  have f893 := ((Fa868.ext E873).keep K881 (ninS neb861_b873 nin0))
  have f894 := ((f876.ext E873).keep K881)
  have f895 := ((f874.ext E873).keep K881)
  have f896 := ((((Fa857.ext E861).keep K868 (ninS neb854_b861 nin0)).ext E873).keep K881 (ninS neb854_b873 nin0))
  obtain ⟨cq897, kq897, q897a, q897b, q897c⟩ := isOf hZ e890 f888
  obtain ⟨_, _, ⟨T897, L897, k897, n897⟩, -, X897, ⟨Lc897, hQ897, l897, y897, z897⟩, st897⟩ := X890.virtualBack hx (y := (⟨"com/example/brancher/brancher/service/Group", "rest", "(IILjava/util/BitSet;I)V"⟩ : MethodName)) (z := (⟨"com/example/brancher/brancher/service/Group", "rest", "(IILjava/util/BitSet;I)V"⟩ : MethodName)) hown (mvT hZ (W 152 rfl)) (mvT hZ (W 153 rfl)) (notFace_of_selects (args := #[]) (mvT hZ (W 155 rfl))) (mvT hZ (W 155 rfl)) (mvT hZ (W 154 rfl)) (by decide) (backOf (W := 0) (rmRS0 l Z a0 hw [] b873 b854 b861 a1 k1 [.null, .null, .null, .null] [.null, .null, .null, .null] _ M0_1 M1_1 T881.heap n0 zs887 GRi881 ba1 bk1 f885 f888 f895 f896 f894 f893 hM0_1 hM1_1) hZ (W 156 rfl) (W 47 rfl) (by decide) (by decide)) q897a q897c (g := (mkF m 156 #[iv m1, iv c1, iv m2, iv c2, iv q', iv fl, iv a1, iv k1, iv a2, iv k2, iv qm, iv qk, iv (0 : Int32), iv (0 : Int32), rv b854, rv b861, rv b873, iv (1 : Int32), .unset, .unset, .unset, .unset] [(.int (4 : Int32)), (.ref b854), (.int k1), (.int a1), (.ref b873)])) rfl (by rw [hml]; rfl) (Steps.refl _) (argsL := [(.int a1), (.int k1), (.ref b854), (.int (4 : Int32))]) (rest := []) (lenOf pd297 rfl) rfl (by show 2 * 0 + _ ≤ _; exact Nat.le_of_eq rfl) (hb hby at_156) (fun _ _ => ⟨rfl, e890, (by decide : 23 + 1 ≤ _), (by decide : 71 + 4 ≤ _)⟩)
  dsimp only [Pt.U, Pt.locs, Pt.cells, Pt.slots] at X897 l897 y897 z897 st897 hQ897
  subst l897 y897 z897
  obtain ⟨rfl, Nq897, Or897, GRr897, Ex897, Fx897, Eg897, sz897⟩ := hQ897
  have N897 := Fr.app N886 Nq897
  have go898 : own_S p e below ST T897 (mkF m 159 #[iv m1, iv c1, iv m2, iv c2, iv q', iv fl, iv a1, iv k1, iv a2, iv k2, iv qm, iv qk, iv (0 : Int32), iv (0 : Int32), rv b854, rv b861, rv b873, iv (1 : Int32), .unset, .unset, .unset, .unset] []) := fun tt kt => go892 tt (st897.trans kt)
  have go899 : own_S p e below ST T897 (mkF m 169 #[iv m1, iv c1, iv m2, iv c2, iv q', iv fl, iv a1, iv k1, iv a2, iv k2, iv qm, iv qk, iv (0 : Int32), iv (0 : Int32), rv b854, rv b861, rv b873, iv (1 : Int32), .unset, .unset, .unset, .unset] []) := fun tt kt => go898 tt (by
      refine XS.iload X897.here hx rfl (hb hby at_159) rfl ?_
      refine XS.ifYes X897.here hx rfl (pc0 := 161) (pc' := 169) rfl (hb hby at_161) rfl ((if0 _ _).trans (teq (by decide : (0 : Int32) = (0 : Int32))).1) (by decide) (by decide) ?_
      exact kt)
  obtain ⟨T900, X900, e900, st900⟩ := getS2 X897 hx hZ hown (host := "") (Or.inl (W 151 rfl)) Via.refl rfl (SN.ext Or897.2) (g := (mkF m 169 #[iv m1, iv c1, iv m2, iv c2, iv q', iv fl, iv a1, iv k1, iv a2, iv k2, iv qm, iv qk, iv (0 : Int32), iv (0 : Int32), rv b854, rv b861, rv b873, iv (1 : Int32), .unset, .unset, .unset, .unset] [])) rfl (hb hby at_169)
  have go901 : own_S p e below ST T900 (mkF m 172 #[iv m1, iv c1, iv m2, iv c2, iv q', iv fl, iv a1, iv k1, iv a2, iv k2, iv qm, iv qk, iv (0 : Int32), iv (0 : Int32), rv b854, rv b861, rv b873, iv (1 : Int32), .unset, .unset, .unset, .unset] [(.ref nc)]) := fun tt kt => go899 tt (st900 _ kt)
  have go902 : own_S p e below ST T900 (mkF m 185 #[iv m1, iv c1, iv m2, iv c2, iv q', iv fl, iv a1, iv k1, iv a2, iv k2, iv qm, iv qk, iv (0 : Int32), iv (0 : Int32), rv b854, rv b861, rv b873, iv (1 : Int32), rv nc, .unset, .unset, .unset] [(.int k1), (.int a1), (.ref b873)]) := fun tt kt => go901 tt (by
      refine XS.astore X900.here hx rfl (hb hby at_172) rfl rfl (l' := #[iv m1, iv c1, iv m2, iv c2, iv q', iv fl, iv a1, iv k1, iv a2, iv k2, iv qm, iv qk, iv (0 : Int32), iv (0 : Int32), rv b854, rv b861, rv b873, iv (1 : Int32), rv nc, .unset, .unset, .unset]) rfl ?_
      refine XS.iload X900.here hx rfl (hb hby at_174) rfl ?_
      refine XS.ifNo X900.here hx rfl (hb hby at_176) rfl ((if0 _ _).trans (feq (by decide : ¬ ((1 : Int32) = (0 : Int32)))).1) ?_
      refine XS.aload X900.here hx rfl (hb hby at_179) rfl rfl ?_
      refine XS.iload X900.here hx rfl (hb hby at_181) rfl ?_
      refine XS.iload X900.here hx rfl (hb hby at_183) rfl ?_
      exact kt)
  have zs904 := (Nat.le_trans zs887 sz897)
  obtain ⟨cq903, kq903, q903a, q903b, q903c⟩ := isOf hZ e900 Eg897
  obtain ⟨_, _, ⟨T903, L903, k903, n903⟩, -, X903, ⟨Lc903, hQ903, l903, y903, z903⟩, st903⟩ := X900.virtualBack hx (y := (⟨"com/example/brancher/brancher/service/Group", "choices", "(II)Ljava/util/BitSet;"⟩ : MethodName)) (z := (⟨"com/example/brancher/brancher/service/Group", "choices", "(II)Ljava/util/BitSet;"⟩ : MethodName)) hown (mvT hZ (W 144 rfl)) (mvT hZ (W 145 rfl)) (notFace_of_selects (args := #[]) (mvT hZ (W 147 rfl))) (mvT hZ (W 147 rfl)) (mvT hZ (W 146 rfl)) (by decide) (backOf (W := 0) (rmCH l Z a0 hw [] b873 a1 k1 M0_1 M1_1 nc T897.heap n0 zs904 GRr897 ba1 bk1 SN Or897) hZ (W 148 rfl) (W 47 rfl) (by decide) (by decide)) q903a q903c (g := (mkF m 185 #[iv m1, iv c1, iv m2, iv c2, iv q', iv fl, iv a1, iv k1, iv a2, iv k2, iv qm, iv qk, iv (0 : Int32), iv (0 : Int32), rv b854, rv b861, rv b873, iv (1 : Int32), rv nc, .unset, .unset, .unset] [(.int k1), (.int a1), (.ref b873)])) rfl (by rw [hml]; rfl) (Steps.refl _) (argsL := [(.int a1), (.int k1)]) (rest := []) (lenOf pd296 rfl) rfl (by show 2 * 0 + _ ≤ _; exact Nat.le_of_eq rfl) (hb hby at_185) (fun _ _ => ⟨rfl, e900, (by decide : 24 + 0 ≤ _), (by decide : 75 + 0 ≤ _)⟩)
  dsimp only [Pt.U, Pt.locs, Pt.cells, Pt.slots] at X903 l903 y903 z903 st903 hQ903
  subst l903 y903 z903
  obtain ⟨rfl, Nq903, eh903⟩ := hQ903
  have N903 := Fr.app N897 Nq903
  have go905 : own_S p e below ST T903 (mkF m 188 #[iv m1, iv c1, iv m2, iv c2, iv q', iv fl, iv a1, iv k1, iv a2, iv k2, iv qm, iv qk, iv (0 : Int32), iv (0 : Int32), rv b854, rv b861, rv b873, iv (1 : Int32), rv nc, .unset, .unset, .unset] [(own_or nc ((if a1 = 0 then M0_1 else M1_1).getD (k1).toNatClampNeg .null))]) := fun tt kt => go902 tt (st903.trans kt)
  have s_1 : ∀ q j, (q = 0 ∨ q = 1) → (j = 0 ∨ j = 1 ∨ j = 2 ∨ j = 3) → (if q = 0 then M0_1 else M1_1).getD (Int32.toNatClampNeg j) .null = if q = a1 ∧ j = k1 then .null else .null := fun q j hq hj => by rw [hM0_1, hM1_1, own_sel a1 q k1 j _ _ _ ba1 hq bk1 hj rfl rfl, own_nn q j hj]
  have e_2 : own_or nc ((if a1 = 0 then M0_1 else M1_1).getD (k1).toNatClampNeg .null) = .ref nc := own_orn nc ((s_1 a1 k1 ba1 bk1).trans (if_pos ⟨rfl, rfl⟩))
  obtain ⟨vo2, hvo2⟩ : ∃ z : Value, z = (own_or nc ((if a1 = 0 then M0_1 else M1_1).getD (k1).toNatClampNeg .null)) := ⟨_, rfl⟩
  rw [← hvo2] at go905
  replace e_2 := hvo2.trans e_2
  have go906 : own_S p e below ST T903 (mkF m 209 #[iv m1, iv c1, iv m2, iv c2, iv q', iv fl, iv a1, iv k1, iv a2, iv k2, iv qm, iv qk, iv (0 : Int32), iv (0 : Int32), rv b854, rv b861, rv b873, iv (1 : Int32), rv nc, .unset, .unset, .unset] [(.int (4 : Int32)), (.ref b861), (.int k2), (.int a2), (.ref b873)]) := fun tt kt => go905 tt (by
      refine XS.aload X903.here hx rfl (hb hby at_188) rfl rfl ?_
      refine Jvm.RoadKit.acmp (g := (mkF m 190 #[iv m1, iv c1, iv m2, iv c2, iv q', iv fl, iv a1, iv k1, iv a2, iv k2, iv qm, iv qk, iv (0 : Int32), iv (0 : Int32), rv b854, rv b861, rv b873, iv (1 : Int32), rv nc, .unset, .unset, .unset] [(.ref nc), vo2])) X903 hx rfl (by rw [e_2]; rfl) rfl (pc0 := 190) (pc' := 193) (same := true) rfl (hb hby at_190) rfl (decide_eq_true e_2) (by decide) (by decide) ?_
      refine XS.iconst X903.here hx rfl (hb hby at_193) ?_
      refine XS.goto X903.here hx rfl (pc0 := 194) (pc' := 198) rfl (hb hby at_194) (by decide) (by decide) ?_
      refine XS.istore X903.here hx rfl (hb hby at_198) rfl (l' := #[iv m1, iv c1, iv m2, iv c2, iv q', iv fl, iv a1, iv k1, iv a2, iv k2, iv qm, iv qk, iv (0 : Int32), iv (0 : Int32), rv b854, rv b861, rv b873, iv (1 : Int32), rv nc, .unset, .unset, .unset]) rfl ?_
      refine XS.aload X903.here hx rfl (hb hby at_200) rfl rfl ?_
      show Steps p.tables e below (T903.setTop (mkF m 202 #[iv m1, iv c1, iv m2, iv c2, iv q', iv fl, iv a1, iv k1, iv a2, iv k2, iv qm, iv qk, iv (0 : Int32), iv (0 : Int32), rv b854, rv b861, rv b873, iv (1 : Int32), rv nc, .unset, .unset, .unset] [(.ref b873)])) _
      refine XS.iload X903.here hx rfl (hb hby at_202) rfl ?_
      refine XS.iload X903.here hx rfl (hb hby at_204) rfl ?_
      refine XS.aload X903.here hx rfl (hb hby at_206) rfl rfl ?_
      refine XS.iconst X903.here hx rfl (hb hby at_208) ?_
      exact kt)
  obtain ⟨M0_2, hM0_2⟩ : ∃ z : List Value, z = if a2 = 0 then M0_1.set (k2).toNatClampNeg .null else M0_1 := ⟨_, rfl⟩
  obtain ⟨M1_2, hM1_2⟩ : ∃ z : List Value, z = if a2 = 0 then M1_1 else M1_1.set (k2).toNatClampNeg .null := ⟨_, rfl⟩
  obtain ⟨cq907, kq907, q907a, q907b, q907c⟩ := isOf hZ eh903 Eg897
  obtain ⟨_, _, ⟨T907, L907, k907, n907⟩, -, X907, ⟨Lc907, hQ907, l907, y907, z907⟩, st907⟩ := X903.virtualBack hx (y := (⟨"com/example/brancher/brancher/service/Group", "rest", "(IILjava/util/BitSet;I)V"⟩ : MethodName)) (z := (⟨"com/example/brancher/brancher/service/Group", "rest", "(IILjava/util/BitSet;I)V"⟩ : MethodName)) hown (mvT hZ (W 152 rfl)) (mvT hZ (W 153 rfl)) (notFace_of_selects (args := #[]) (mvT hZ (W 155 rfl))) (mvT hZ (W 155 rfl)) (mvT hZ (W 154 rfl)) (by decide) (backOf (W := 0) (rmRS0 l Z a0 hw [] b873 b861 b861 a2 k2 M0_1 M1_1 _ M0_2 M1_2 T897.heap n0 zs904 GRr897 ba2 bk2 Or897 Eg897 Ex897 Fx897 Ex897 Fx897 hM0_2 hM1_2) hZ (W 156 rfl) (W 47 rfl) (by decide) (by decide)) q907a q907c (g := (mkF m 209 #[iv m1, iv c1, iv m2, iv c2, iv q', iv fl, iv a1, iv k1, iv a2, iv k2, iv qm, iv qk, iv (0 : Int32), iv (0 : Int32), rv b854, rv b861, rv b873, iv (1 : Int32), rv nc, .unset, .unset, .unset] [(.int (4 : Int32)), (.ref b861), (.int k2), (.int a2), (.ref b873)])) rfl (by rw [hml]; rfl) (Steps.refl _) (argsL := [(.int a2), (.int k2), (.ref b861), (.int (4 : Int32))]) (rest := []) (lenOf pd297 rfl) rfl (by show 2 * 0 + _ ≤ _; exact Nat.le_of_eq rfl) (hb hby at_209) (fun _ _ => ⟨rfl, eh903, (by decide : 24 + 1 ≤ _), (by decide : 75 + 4 ≤ _)⟩)
  dsimp only [Pt.U, Pt.locs, Pt.cells, Pt.slots] at X907 l907 y907 z907 st907 hQ907
  subst l907 y907 z907
  obtain ⟨rfl, Nq907, Or907, GRr907, Ex907, Fx907, Eg907, sz907⟩ := hQ907
  have N907 := Fr.app N903 Nq907
  have go908 : own_S p e below ST T907 (mkF m 212 #[iv m1, iv c1, iv m2, iv c2, iv q', iv fl, iv a1, iv k1, iv a2, iv k2, iv qm, iv qk, iv (0 : Int32), iv (0 : Int32), rv b854, rv b861, rv b873, iv (1 : Int32), rv nc, .unset, .unset, .unset] []) := fun tt kt => go906 tt (st907.trans kt)
  have go909 : own_S p e below ST T907 (mkF m 222 #[iv m1, iv c1, iv m2, iv c2, iv q', iv fl, iv a1, iv k1, iv a2, iv k2, iv qm, iv qk, iv (0 : Int32), iv (0 : Int32), rv b854, rv b861, rv b873, iv (1 : Int32), rv nc, .unset, .unset, .unset] []) := fun tt kt => go908 tt (by
      refine XS.iload X907.here hx rfl (hb hby at_212) rfl ?_
      refine XS.ifYes X907.here hx rfl (pc0 := 214) (pc' := 222) rfl (hb hby at_214) rfl ((if0 _ _).trans (teq (by decide : (0 : Int32) = (0 : Int32))).1) (by decide) (by decide) ?_
      exact kt)
  obtain ⟨T910, X910, e910, st910⟩ := getS2 X907 hx hZ hown (host := "") (Or.inl (W 151 rfl)) Via.refl rfl (SN.ext Or907.2) (g := (mkF m 222 #[iv m1, iv c1, iv m2, iv c2, iv q', iv fl, iv a1, iv k1, iv a2, iv k2, iv qm, iv qk, iv (0 : Int32), iv (0 : Int32), rv b854, rv b861, rv b873, iv (1 : Int32), rv nc, .unset, .unset, .unset] [])) rfl (hb hby at_222)
  have go911 : own_S p e below ST T910 (mkF m 225 #[iv m1, iv c1, iv m2, iv c2, iv q', iv fl, iv a1, iv k1, iv a2, iv k2, iv qm, iv qk, iv (0 : Int32), iv (0 : Int32), rv b854, rv b861, rv b873, iv (1 : Int32), rv nc, .unset, .unset, .unset] [(.ref nc)]) := fun tt kt => go909 tt (st910 _ kt)
  have go912 : own_S p e below ST T910 (mkF m 227 #[iv m1, iv c1, iv m2, iv c2, iv q', iv fl, iv a1, iv k1, iv a2, iv k2, iv qm, iv qk, iv (0 : Int32), iv (0 : Int32), rv b854, rv b861, rv b873, iv (1 : Int32), rv nc, rv nc, .unset, .unset] []) := fun tt kt => go911 tt (by
      refine XS.astore X910.here hx rfl (hb hby at_225) rfl rfl (l' := #[iv m1, iv c1, iv m2, iv c2, iv q', iv fl, iv a1, iv k1, iv a2, iv k2, iv qm, iv qk, iv (0 : Int32), iv (0 : Int32), rv b854, rv b861, rv b873, iv (1 : Int32), rv nc, rv nc, .unset, .unset]) rfl ?_
      exact kt)
  have l_1 : M0_1.length = 4 ∧ M1_1.length = 4 := by rw [hM0_1, hM1_1]; exact ⟨(own_len4 rfl).1, (own_len4 rfl).2⟩
  have s_2 : ∀ q j, (q = 0 ∨ q = 1) → (j = 0 ∨ j = 1 ∨ j = 2 ∨ j = 3) → (if q = 0 then M0_2 else M1_2).getD (Int32.toNatClampNeg j) .null = if q = a2 ∧ j = k2 then .null else (if q = a1 ∧ j = k1 then .null else .null) := fun q j hq hj => by rw [hM0_2, hM1_2, own_sel a2 q k2 j _ _ _ ba2 hq bk2 hj l_1.1 l_1.2, s_1 q j hq hj]
  have go913 : own_S p e below ST T910 (mkF m 231 #[iv m1, iv c1, iv m2, iv c2, iv q', iv fl, iv a1, iv k1, iv a2, iv k2, iv qm, iv qk, iv (0 : Int32), iv (0 : Int32), rv b854, rv b861, rv b873, iv (1 : Int32), rv nc, rv nc, .unset, .unset] [(.int a2), (.int a1)]) := fun tt kt => go912 tt (by
      refine XS.iload X910.here hx rfl (hb hby at_227) rfl ?_
      refine XS.iload X910.here hx rfl (hb hby at_229) rfl ?_
      exact kt)
  obtain ⟨same, hsame, sg914⟩ : ∃ (same : Int32), same = (if a1 = a2 then (if k1 = k2 then (1 : Int32) else (0 : Int32)) else (0 : Int32)) ∧ ∀ tt, Steps p.tables e below (T910.setTop (mkF m 246 #[iv m1, iv c1, iv m2, iv c2, iv q', iv fl, iv a1, iv k1, iv a2, iv k2, iv qm, iv qk, iv (0 : Int32), iv (0 : Int32), rv b854, rv b861, rv b873, iv (1 : Int32), rv nc, rv nc, .unset, .unset] [(.int same)])) tt → Steps p.tables e below (T910.setTop (mkF m 231 #[iv m1, iv c1, iv m2, iv c2, iv q', iv fl, iv a1, iv k1, iv a2, iv k2, iv qm, iv qk, iv (0 : Int32), iv (0 : Int32), rv b854, rv b861, rv b873, iv (1 : Int32), rv nc, rv nc, .unset, .unset] [(.int a2), (.int a1)])) tt := by
    by_cases hd231_0 : a1 = a2
    · by_cases hd238_1 : k1 = k2
      · refine ⟨_, ((if_pos hd231_0).trans (if_pos hd238_1)).symm, fun tt kt => ?_⟩
        show Steps p.tables e below (T910.setTop (mkF m 231 #[iv m1, iv c1, iv m2, iv c2, iv q', iv fl, iv a1, iv k1, iv a2, iv k2, iv qm, iv qk, iv (0 : Int32), iv (0 : Int32), rv b854, rv b861, rv b873, iv (1 : Int32), rv nc, rv nc, .unset, .unset] [(.int a2), (.int a1)])) _
        refine XS.icmpNo X910.here hx rfl (hb hby at_231) rfl (teq hd231_0).2 ?_
        refine XS.iload X910.here hx rfl (hb hby at_234) rfl ?_
        refine XS.iload X910.here hx rfl (hb hby at_236) rfl ?_
        refine XS.icmpNo X910.here hx rfl (hb hby at_238) rfl (teq hd238_1).2 ?_
        refine XS.iconst X910.here hx rfl (hb hby at_241) ?_
        refine XS.goto X910.here hx rfl (pc0 := 242) (pc' := 246) rfl (hb hby at_242) (by decide) (by decide) ?_
        exact kt
      · refine ⟨_, ((if_pos hd231_0).trans (if_neg hd238_1)).symm, fun tt kt => ?_⟩
        show Steps p.tables e below (T910.setTop (mkF m 231 #[iv m1, iv c1, iv m2, iv c2, iv q', iv fl, iv a1, iv k1, iv a2, iv k2, iv qm, iv qk, iv (0 : Int32), iv (0 : Int32), rv b854, rv b861, rv b873, iv (1 : Int32), rv nc, rv nc, .unset, .unset] [(.int a2), (.int a1)])) _
        refine XS.icmpNo X910.here hx rfl (hb hby at_231) rfl (teq hd231_0).2 ?_
        refine XS.iload X910.here hx rfl (hb hby at_234) rfl ?_
        refine XS.iload X910.here hx rfl (hb hby at_236) rfl ?_
        refine XS.icmpYes X910.here hx rfl (pc0 := 238) (pc' := 245) rfl (hb hby at_238) rfl (feq hd238_1).2 (by decide) (by decide) ?_
        refine XS.iconst X910.here hx rfl (hb hby at_245) ?_
        exact kt
    · refine ⟨_, (if_neg hd231_0).symm, fun tt kt => ?_⟩
      show Steps p.tables e below (T910.setTop (mkF m 231 #[iv m1, iv c1, iv m2, iv c2, iv q', iv fl, iv a1, iv k1, iv a2, iv k2, iv qm, iv qk, iv (0 : Int32), iv (0 : Int32), rv b854, rv b861, rv b873, iv (1 : Int32), rv nc, rv nc, .unset, .unset] [(.int a2), (.int a1)])) _
      refine XS.icmpYes X910.here hx rfl (pc0 := 231) (pc' := 245) rfl (hb hby at_231) rfl (feq hd231_0).2 (by decide) (by decide) ?_
      refine XS.iconst X910.here hx rfl (hb hby at_245) ?_
      exact kt
  have go915 : own_S p e below ST T910 (mkF m 246 #[iv m1, iv c1, iv m2, iv c2, iv q', iv fl, iv a1, iv k1, iv a2, iv k2, iv qm, iv qk, iv (0 : Int32), iv (0 : Int32), rv b854, rv b861, rv b873, iv (1 : Int32), rv nc, rv nc, .unset, .unset] [(.int same)]) := fun tt kt => go913 tt (sg914 _ kt)
  have go916 : own_S p e below ST T910 (mkF m 259 #[iv m1, iv c1, iv m2, iv c2, iv q', iv fl, iv a1, iv k1, iv a2, iv k2, iv qm, iv qk, iv (0 : Int32), iv (0 : Int32), rv b854, rv b861, rv b873, iv (1 : Int32), rv nc, rv nc, iv same, .unset] [(.int k2), (.int a2), (.ref b873)]) := fun tt kt => go915 tt (by
      refine XS.istore X910.here hx rfl (hb hby at_246) rfl (l' := #[iv m1, iv c1, iv m2, iv c2, iv q', iv fl, iv a1, iv k1, iv a2, iv k2, iv qm, iv qk, iv (0 : Int32), iv (0 : Int32), rv b854, rv b861, rv b873, iv (1 : Int32), rv nc, rv nc, iv same, .unset]) rfl ?_
      refine XS.iload X910.here hx rfl (hb hby at_248) rfl ?_
      refine XS.ifNo X910.here hx rfl (hb hby at_250) rfl ((if0 _ _).trans (feq (by decide : ¬ ((1 : Int32) = (0 : Int32)))).1) ?_
      refine XS.aload X910.here hx rfl (hb hby at_253) rfl rfl ?_
      refine XS.iload X910.here hx rfl (hb hby at_255) rfl ?_
      refine XS.iload X910.here hx rfl (hb hby at_257) rfl ?_
      exact kt)
  have zs918 := (Nat.le_trans zs904 sz907)
  obtain ⟨cq917, kq917, q917a, q917b, q917c⟩ := isOf hZ e910 Eg907
  obtain ⟨_, _, ⟨T917, L917, k917, n917⟩, -, X917, ⟨Lc917, hQ917, l917, y917, z917⟩, st917⟩ := X910.virtualBack hx (y := (⟨"com/example/brancher/brancher/service/Group", "choices", "(II)Ljava/util/BitSet;"⟩ : MethodName)) (z := (⟨"com/example/brancher/brancher/service/Group", "choices", "(II)Ljava/util/BitSet;"⟩ : MethodName)) hown (mvT hZ (W 144 rfl)) (mvT hZ (W 145 rfl)) (notFace_of_selects (args := #[]) (mvT hZ (W 147 rfl))) (mvT hZ (W 147 rfl)) (mvT hZ (W 146 rfl)) (by decide) (backOf (W := 0) (rmCH l Z a0 hw [] b873 a2 k2 M0_2 M1_2 nc T907.heap n0 zs918 GRr907 ba2 bk2 SN Or907) hZ (W 148 rfl) (W 47 rfl) (by decide) (by decide)) q917a q917c (g := (mkF m 259 #[iv m1, iv c1, iv m2, iv c2, iv q', iv fl, iv a1, iv k1, iv a2, iv k2, iv qm, iv qk, iv (0 : Int32), iv (0 : Int32), rv b854, rv b861, rv b873, iv (1 : Int32), rv nc, rv nc, iv same, .unset] [(.int k2), (.int a2), (.ref b873)])) rfl (by rw [hml]; rfl) (Steps.refl _) (argsL := [(.int a2), (.int k2)]) (rest := []) (lenOf pd296 rfl) rfl (by show 2 * 0 + _ ≤ _; exact Nat.le_of_eq rfl) (hb hby at_259) (fun _ _ => ⟨rfl, e910, (by decide : 25 + 0 ≤ _), (by decide : 79 + 0 ≤ _)⟩)
  dsimp only [Pt.U, Pt.locs, Pt.cells, Pt.slots] at X917 l917 y917 z917 st917 hQ917
  subst l917 y917 z917
  obtain ⟨rfl, Nq917, eh917⟩ := hQ917
  have N917 := Fr.app N907 Nq917
  have go919 : own_S p e below ST T917 (mkF m 262 #[iv m1, iv c1, iv m2, iv c2, iv q', iv fl, iv a1, iv k1, iv a2, iv k2, iv qm, iv qk, iv (0 : Int32), iv (0 : Int32), rv b854, rv b861, rv b873, iv (1 : Int32), rv nc, rv nc, iv same, .unset] [(own_or nc ((if a2 = 0 then M0_2 else M1_2).getD (k2).toNatClampNeg .null))]) := fun tt kt => go916 tt (st917.trans kt)
  have e_3 : own_or nc ((if a2 = 0 then M0_2 else M1_2).getD (k2).toNatClampNeg .null) = .ref nc := own_orn nc ((s_2 a2 k2 ba2 bk2).trans (if_pos ⟨rfl, rfl⟩))
  obtain ⟨vo3, hvo3⟩ : ∃ z : Value, z = (own_or nc ((if a2 = 0 then M0_2 else M1_2).getD (k2).toNatClampNeg .null)) := ⟨_, rfl⟩
  rw [← hvo3] at go919
  replace e_3 := hvo3.trans e_3
  have go920 : own_S p e below ST T917 (mkF m 285 #[iv m1, iv c1, iv m2, iv c2, iv q', iv fl, iv a1, iv k1, iv a2, iv k2, iv qm, iv qk, iv (0 : Int32), iv (0 : Int32), rv b854, rv b861, rv b873, iv (1 : Int32), rv nc, rv nc, iv same, .unset] [(.int k1), (.int a1), (.ref b873)]) := fun tt kt => go919 tt (by
      refine XS.aload X917.here hx rfl (hb hby at_262) rfl rfl ?_
      refine Jvm.RoadKit.acmp (g := (mkF m 264 #[iv m1, iv c1, iv m2, iv c2, iv q', iv fl, iv a1, iv k1, iv a2, iv k2, iv qm, iv qk, iv (0 : Int32), iv (0 : Int32), rv b854, rv b861, rv b873, iv (1 : Int32), rv nc, rv nc, iv same, .unset] [(.ref nc), vo3])) X917 hx rfl (by rw [e_3]; rfl) rfl (pc0 := 264) (pc' := 267) (same := true) rfl (hb hby at_264) rfl (decide_eq_true e_3) (by decide) (by decide) ?_
      refine XS.iconst X917.here hx rfl (hb hby at_267) ?_
      refine XS.goto X917.here hx rfl (pc0 := 268) (pc' := 272) rfl (hb hby at_268) (by decide) (by decide) ?_
      refine XS.istore X917.here hx rfl (hb hby at_272) rfl (l' := #[iv m1, iv c1, iv m2, iv c2, iv q', iv fl, iv a1, iv k1, iv a2, iv k2, iv qm, iv qk, iv (0 : Int32), iv (0 : Int32), rv b854, rv b861, rv b873, iv (1 : Int32), rv nc, rv nc, iv same, .unset]) rfl ?_
      refine XS.iload X917.here hx rfl (hb hby at_274) rfl ?_
      show Steps p.tables e below (T917.setTop (mkF m 276 #[iv m1, iv c1, iv m2, iv c2, iv q', iv fl, iv a1, iv k1, iv a2, iv k2, iv qm, iv qk, iv (0 : Int32), iv (0 : Int32), rv b854, rv b861, rv b873, iv (1 : Int32), rv nc, rv nc, iv same, .unset] [(.int (1 : Int32))])) _
      refine XS.ifNo X917.here hx rfl (hb hby at_276) rfl ((if0 _ _).trans (feq (by decide : ¬ ((1 : Int32) = (0 : Int32)))).1) ?_
      refine XS.aload X917.here hx rfl (hb hby at_279) rfl rfl ?_
      refine XS.iload X917.here hx rfl (hb hby at_281) rfl ?_
      refine XS.iload X917.here hx rfl (hb hby at_283) rfl ?_
      exact kt)
  obtain ⟨cq921, kq921, q921a, q921b, q921c⟩ := isOf hZ eh917 Eg907
  obtain ⟨_, _, ⟨T921, L921, k921, n921⟩, -, X921, ⟨Lc921, hQ921, l921, y921, z921⟩, st921⟩ := X917.virtualBack hx (y := (⟨"com/example/brancher/brancher/service/Group", "choices", "(II)Ljava/util/BitSet;"⟩ : MethodName)) (z := (⟨"com/example/brancher/brancher/service/Group", "choices", "(II)Ljava/util/BitSet;"⟩ : MethodName)) hown (mvT hZ (W 144 rfl)) (mvT hZ (W 145 rfl)) (notFace_of_selects (args := #[]) (mvT hZ (W 147 rfl))) (mvT hZ (W 147 rfl)) (mvT hZ (W 146 rfl)) (by decide) (backOf (W := 0) (rmCH l Z a0 hw [] b873 a1 k1 M0_2 M1_2 nc T907.heap n0 zs918 GRr907 ba1 bk1 SN Or907) hZ (W 148 rfl) (W 47 rfl) (by decide) (by decide)) q921a q921c (g := (mkF m 285 #[iv m1, iv c1, iv m2, iv c2, iv q', iv fl, iv a1, iv k1, iv a2, iv k2, iv qm, iv qk, iv (0 : Int32), iv (0 : Int32), rv b854, rv b861, rv b873, iv (1 : Int32), rv nc, rv nc, iv same, .unset] [(.int k1), (.int a1), (.ref b873)])) rfl (by rw [hml]; rfl) (Steps.refl _) (argsL := [(.int a1), (.int k1)]) (rest := []) (lenOf pd296 rfl) rfl (by show 2 * 0 + _ ≤ _; exact Nat.le_of_eq rfl) (hb hby at_285) (fun _ _ => ⟨rfl, eh917, (by decide : 25 + 0 ≤ _), (by decide : 79 + 0 ≤ _)⟩)
  dsimp only [Pt.U, Pt.locs, Pt.cells, Pt.slots] at X921 l921 y921 z921 st921 hQ921
  subst l921 y921 z921
  obtain ⟨rfl, Nq921, eh921⟩ := hQ921
  have N921 := Fr.app N917 Nq921
  have go922 : own_S p e below ST T921 (mkF m 288 #[iv m1, iv c1, iv m2, iv c2, iv q', iv fl, iv a1, iv k1, iv a2, iv k2, iv qm, iv qk, iv (0 : Int32), iv (0 : Int32), rv b854, rv b861, rv b873, iv (1 : Int32), rv nc, rv nc, iv same, .unset] [(own_or nc ((if a1 = 0 then M0_2 else M1_2).getD (k1).toNatClampNeg .null))]) := fun tt kt => go920 tt (st921.trans kt)
  have e_4 : own_or nc ((if a1 = 0 then M0_2 else M1_2).getD (k1).toNatClampNeg .null) = .ref (if same = (0 : Int32) then nc else nc) := by
    rw [s_2 a1 k1 ba1 bk1, hsame]
    by_cases y1 : a1 = a2 <;> by_cases y2 : k1 = k2 <;> simp [y1, y2, own_or]
  obtain ⟨vo4, hvo4⟩ : ∃ z : Value, z = (own_or nc ((if a1 = 0 then M0_2 else M1_2).getD (k1).toNatClampNeg .null)) := ⟨_, rfl⟩
  rw [← hvo4] at go922
  replace e_4 := hvo4.trans e_4
  have go923 : own_S p e below ST T921 (mkF m 290 #[iv m1, iv c1, iv m2, iv c2, iv q', iv fl, iv a1, iv k1, iv a2, iv k2, iv qm, iv qk, iv (0 : Int32), iv (0 : Int32), rv b854, rv b861, rv b873, iv (1 : Int32), rv nc, rv nc, iv same, .unset] [(.int same), vo4]) := fun tt kt => go922 tt (by
      refine XS.iload X921.here hx rfl (hb hby at_288) rfl ?_
      exact kt)
  have sg924 : ∀ tt, Steps p.tables e below (T921.setTop (mkF m 300 #[iv m1, iv c1, iv m2, iv c2, iv q', iv fl, iv a1, iv k1, iv a2, iv k2, iv qm, iv qk, iv (0 : Int32), iv (0 : Int32), rv b854, rv b861, rv b873, iv (1 : Int32), rv nc, rv nc, iv same, .unset] [(.ref nc), vo4])) tt → Steps p.tables e below (T921.setTop (mkF m 290 #[iv m1, iv c1, iv m2, iv c2, iv q', iv fl, iv a1, iv k1, iv a2, iv k2, iv qm, iv qk, iv (0 : Int32), iv (0 : Int32), rv b854, rv b861, rv b873, iv (1 : Int32), rv nc, rv nc, iv same, .unset] [(.int same), vo4])) tt := by
    by_cases hd290_0 : same = (0 : Int32)
    · refine fun tt kt => ?_
      show Steps p.tables e below (T921.setTop (mkF m 290 #[iv m1, iv c1, iv m2, iv c2, iv q', iv fl, iv a1, iv k1, iv a2, iv k2, iv qm, iv qk, iv (0 : Int32), iv (0 : Int32), rv b854, rv b861, rv b873, iv (1 : Int32), rv nc, rv nc, iv same, .unset] [(.int same), vo4])) _
      refine XS.ifYes X921.here hx rfl (pc0 := 290) (pc' := 298) rfl (hb hby at_290) rfl ((if0 _ _).trans (teq hd290_0).1) (by decide) (by decide) ?_
      refine XS.aload X921.here hx rfl (hb hby at_298) rfl rfl ?_
      exact kt
    · refine fun tt kt => ?_
      show Steps p.tables e below (T921.setTop (mkF m 290 #[iv m1, iv c1, iv m2, iv c2, iv q', iv fl, iv a1, iv k1, iv a2, iv k2, iv qm, iv qk, iv (0 : Int32), iv (0 : Int32), rv b854, rv b861, rv b873, iv (1 : Int32), rv nc, rv nc, iv same, .unset] [(.int same), vo4])) _
      refine XS.ifNo X921.here hx rfl (hb hby at_290) rfl ((if0 _ _).trans (feq hd290_0).1) ?_
      refine XS.aload X921.here hx rfl (hb hby at_293) rfl rfl ?_
      refine XS.goto X921.here hx rfl (pc0 := 295) (pc' := 300) rfl (hb hby at_295) (by decide) (by decide) ?_
      exact kt
  have go925 : own_S p e below ST T921 (mkF m 300 #[iv m1, iv c1, iv m2, iv c2, iv q', iv fl, iv a1, iv k1, iv a2, iv k2, iv qm, iv qk, iv (0 : Int32), iv (0 : Int32), rv b854, rv b861, rv b873, iv (1 : Int32), rv nc, rv nc, iv same, .unset] [(.ref nc), vo4]) := fun tt kt => go923 tt (sg924 _ kt)
  have e_4' : vo4 = .ref nc := by rw [e_4]; split <;> rfl
  have go926 : own_S p e below ST T921 (mkF m 314 #[iv m1, iv c1, iv m2, iv c2, iv q', iv fl, iv a1, iv k1, iv a2, iv k2, iv qm, iv qk, iv (0 : Int32), iv (0 : Int32), rv b854, rv b861, rv b873, iv (1 : Int32), rv nc, rv nc, iv same, .unset] [(.int a2), (.int qm)]) := fun tt kt => go925 tt (by
      refine Jvm.RoadKit.acmp (g := (mkF m 300 #[iv m1, iv c1, iv m2, iv c2, iv q', iv fl, iv a1, iv k1, iv a2, iv k2, iv qm, iv qk, iv (0 : Int32), iv (0 : Int32), rv b854, rv b861, rv b873, iv (1 : Int32), rv nc, rv nc, iv same, .unset] [(.ref nc), vo4])) X921 hx rfl (by rw [e_4]; rfl) rfl (pc0 := 300) (pc' := 303) (same := true) rfl (hb hby at_300) rfl (decide_eq_true e_4') (by decide) (by decide) ?_
      refine XS.iconst X921.here hx rfl (hb hby at_303) ?_
      refine XS.goto X921.here hx rfl (pc0 := 304) (pc' := 308) rfl (hb hby at_304) (by decide) (by decide) ?_
      refine XS.istore X921.here hx rfl (hb hby at_308) rfl (l' := #[iv m1, iv c1, iv m2, iv c2, iv q', iv fl, iv a1, iv k1, iv a2, iv k2, iv qm, iv qk, iv (0 : Int32), iv (0 : Int32), rv b854, rv b861, rv b873, iv (1 : Int32), rv nc, rv nc, iv same, .unset]) rfl ?_
      refine XS.iload X921.here hx rfl (hb hby at_310) rfl ?_
      refine XS.iload X921.here hx rfl (hb hby at_312) rfl ?_
      exact kt)
  by_cases hz314 : qm = a2
  · have go927 : own_S p e below ST T921 (mkF m 317 #[iv m1, iv c1, iv m2, iv c2, iv q', iv fl, iv a1, iv k1, iv a2, iv k2, iv qm, iv qk, iv (0 : Int32), iv (0 : Int32), rv b854, rv b861, rv b873, iv (1 : Int32), rv nc, rv nc, iv same, .unset] []) := fun tt kt => go926 tt (by
        refine XS.icmpNo X921.here hx rfl (hb hby at_314) rfl (teq hz314).2 ?_
        exact kt)
    have go928 : own_S p e below ST T921 (mkF m 321 #[iv m1, iv c1, iv m2, iv c2, iv q', iv fl, iv a1, iv k1, iv a2, iv k2, iv qm, iv qk, iv (0 : Int32), iv (0 : Int32), rv b854, rv b861, rv b873, iv (1 : Int32), rv nc, rv nc, iv same, .unset] [(.int k2), (.int qk)]) := fun tt kt => go927 tt (by
        refine XS.iload X921.here hx rfl (hb hby at_317) rfl ?_
        refine XS.iload X921.here hx rfl (hb hby at_319) rfl ?_
        exact kt)
    by_cases hz321 : qk = k2
    · have go929 : own_S p e below ST T921 (mkF m 324 #[iv m1, iv c1, iv m2, iv c2, iv q', iv fl, iv a1, iv k1, iv a2, iv k2, iv qm, iv qk, iv (0 : Int32), iv (0 : Int32), rv b854, rv b861, rv b873, iv (1 : Int32), rv nc, rv nc, iv same, .unset] []) := fun tt kt => go928 tt (by
          refine XS.icmpNo X921.here hx rfl (hb hby at_321) rfl (teq hz321).2 ?_
          exact kt)
      have go930 : own_S p e below ST T921 (mkF m 368 #[iv m1, iv c1, iv m2, iv c2, iv q', iv fl, iv a1, iv k1, iv a2, iv k2, iv qm, iv qk, iv (0 : Int32), iv (0 : Int32), rv b854, rv b861, rv b873, iv (1 : Int32), rv nc, rv nc, iv same, rv nc] [(.int qk), (.int qm), (.ref b873)]) := fun tt kt => go929 tt (by
          refine XS.aload X921.here hx rfl (hb hby at_324) rfl rfl ?_
          refine XS.astore X921.here hx rfl (hb hby at_326) rfl rfl (l' := #[iv m1, iv c1, iv m2, iv c2, iv q', iv fl, iv a1, iv k1, iv a2, iv k2, iv qm, iv qk, iv (0 : Int32), iv (0 : Int32), rv b854, rv b861, rv b873, iv (1 : Int32), rv nc, rv nc, iv same, rv nc]) rfl ?_
          refine XS.goto X921.here hx rfl (pc0 := 328) (pc' := 357) rfl (hb hby at_328) (by decide) (by decide) ?_
          refine XS.iload X921.here hx rfl (hb hby at_357) rfl ?_
          refine XS.ifNo X921.here hx rfl (hb hby at_359) rfl ((if0 _ _).trans (feq (by decide : ¬ ((1 : Int32) = (0 : Int32)))).1) ?_
          refine XS.aload X921.here hx rfl (hb hby at_362) rfl rfl ?_
          show Steps p.tables e below (T921.setTop (mkF m 364 #[iv m1, iv c1, iv m2, iv c2, iv q', iv fl, iv a1, iv k1, iv a2, iv k2, iv qm, iv qk, iv (0 : Int32), iv (0 : Int32), rv b854, rv b861, rv b873, iv (1 : Int32), rv nc, rv nc, iv same, rv nc] [(.ref b873)])) _
          refine XS.iload X921.here hx rfl (hb hby at_364) rfl ?_
          refine XS.iload X921.here hx rfl (hb hby at_366) rfl ?_
          exact kt)
      obtain ⟨cq931, kq931, q931a, q931b, q931c⟩ := isOf hZ eh921 Eg907
      obtain ⟨_, _, ⟨T931, L931, k931, n931⟩, -, X931, ⟨Lc931, hQ931, l931, y931, z931⟩, st931⟩ := X921.virtualBack hx (y := (⟨"com/example/brancher/brancher/service/Group", "choices", "(II)Ljava/util/BitSet;"⟩ : MethodName)) (z := (⟨"com/example/brancher/brancher/service/Group", "choices", "(II)Ljava/util/BitSet;"⟩ : MethodName)) hown (mvT hZ (W 144 rfl)) (mvT hZ (W 145 rfl)) (notFace_of_selects (args := #[]) (mvT hZ (W 147 rfl))) (mvT hZ (W 147 rfl)) (mvT hZ (W 146 rfl)) (by decide) (backOf (W := 0) (rmCH l Z a0 hw [] b873 qm qk M0_2 M1_2 nc T907.heap n0 zs918 GRr907 bqm bqk SN Or907) hZ (W 148 rfl) (W 47 rfl) (by decide) (by decide)) q931a q931c (g := (mkF m 368 #[iv m1, iv c1, iv m2, iv c2, iv q', iv fl, iv a1, iv k1, iv a2, iv k2, iv qm, iv qk, iv (0 : Int32), iv (0 : Int32), rv b854, rv b861, rv b873, iv (1 : Int32), rv nc, rv nc, iv same, rv nc] [(.int qk), (.int qm), (.ref b873)])) rfl (by rw [hml]; rfl) (Steps.refl _) (argsL := [(.int qm), (.int qk)]) (rest := []) (lenOf pd296 rfl) rfl (by show 2 * 0 + _ ≤ _; exact Nat.le_of_eq rfl) (hb hby at_368) (fun _ _ => ⟨rfl, eh921, (by decide : 25 + 0 ≤ _), (by decide : 79 + 0 ≤ _)⟩)
      dsimp only [Pt.U, Pt.locs, Pt.cells, Pt.slots] at X931 l931 y931 z931 st931 hQ931
      subst l931 y931 z931
      obtain ⟨rfl, Nq931, eh931⟩ := hQ931
      have N931 := Fr.app N921 Nq931
      have go932 : own_S p e below ST T931 (mkF m 371 #[iv m1, iv c1, iv m2, iv c2, iv q', iv fl, iv a1, iv k1, iv a2, iv k2, iv qm, iv qk, iv (0 : Int32), iv (0 : Int32), rv b854, rv b861, rv b873, iv (1 : Int32), rv nc, rv nc, iv same, rv nc] [(own_or nc ((if qm = 0 then M0_2 else M1_2).getD (qk).toNatClampNeg .null))]) := fun tt kt => go930 tt (st931.trans kt)
      have e_5 : own_or nc ((if qm = 0 then M0_2 else M1_2).getD (qk).toNatClampNeg .null) = .ref nc := own_orn nc ((s_2 qm qk bqm bqk).trans (if_pos ⟨hz314, hz321⟩))
      obtain ⟨vo5, hvo5⟩ : ∃ z : Value, z = (own_or nc ((if qm = 0 then M0_2 else M1_2).getD (qk).toNatClampNeg .null)) := ⟨_, rfl⟩
      rw [← hvo5] at go932
      replace e_5 := hvo5.trans e_5
      have go933 : own_S p e below ST T931 (mkF m 385 #[iv m1, iv c1, iv m2, iv c2, iv q', iv fl, iv a1, iv k1, iv a2, iv k2, iv qm, iv qk, iv (0 : Int32), iv (0 : Int32), rv b854, rv b861, rv b873, iv (1 : Int32), rv nc, rv nc, iv same, rv nc] [(.int (1 : Int32))]) := fun tt kt => go932 tt (by
          refine XS.aload X931.here hx rfl (hb hby at_371) rfl rfl ?_
          refine Jvm.RoadKit.acmp (g := (mkF m 373 #[iv m1, iv c1, iv m2, iv c2, iv q', iv fl, iv a1, iv k1, iv a2, iv k2, iv qm, iv qk, iv (0 : Int32), iv (0 : Int32), rv b854, rv b861, rv b873, iv (1 : Int32), rv nc, rv nc, iv same, rv nc] [(.ref nc), vo5])) X931 hx rfl (by rw [e_5]; rfl) rfl (pc0 := 373) (pc' := 376) (same := true) rfl (hb hby at_373) rfl (decide_eq_true e_5) (by decide) (by decide) ?_
          refine XS.iconst X931.here hx rfl (hb hby at_376) ?_
          refine XS.goto X931.here hx rfl (pc0 := 377) (pc' := 381) rfl (hb hby at_377) (by decide) (by decide) ?_
          refine XS.istore X931.here hx rfl (hb hby at_381) rfl (l' := #[iv m1, iv c1, iv m2, iv c2, iv q', iv fl, iv a1, iv k1, iv a2, iv k2, iv qm, iv qk, iv (0 : Int32), iv (0 : Int32), rv b854, rv b861, rv b873, iv (1 : Int32), rv nc, rv nc, iv same, rv nc]) rfl ?_
          refine XS.iload X931.here hx rfl (hb hby at_383) rfl ?_
          exact kt)
      obtain ⟨fs, hr, hrun, hended, hW, hsame⟩ := X931.leave (v := some (.int (1 : Int32))) (fun h => by rw [Bd.returns] at h; cases h) (hlocks := by first | exact BodyLoose.notSynchronized Bd | exact Body.notSynchronized Bd)
      refine ⟨_, _, pre0 _ (go933 _ ?_), hrun, hended, _, _, rfl, ?_, ⟨_, rfl⟩, hW, hsame.mono (by decide) (by decide)⟩
      · exact retN X931 hx (t := .boolean) Bd.returns (by simp) (hb hby at_385) hr
      · show Q0n00 Z m1 c1 m2 c2 q' fl ad kd nc h0 n0 _ T931.heap _
        rw [eh931]
        exact ⟨rfl, N931⟩
    · have go934 : own_S p e below ST T921 (mkF m 331 #[iv m1, iv c1, iv m2, iv c2, iv q', iv fl, iv a1, iv k1, iv a2, iv k2, iv qm, iv qk, iv (0 : Int32), iv (0 : Int32), rv b854, rv b861, rv b873, iv (1 : Int32), rv nc, rv nc, iv same, .unset] []) := fun tt kt => go928 tt (by
          refine XS.icmpYes X921.here hx rfl (pc0 := 321) (pc' := 331) rfl (hb hby at_321) rfl (feq hz321).2 (by decide) (by decide) ?_
          exact kt)
      have go935 : own_S p e below ST T921 (mkF m 335 #[iv m1, iv c1, iv m2, iv c2, iv q', iv fl, iv a1, iv k1, iv a2, iv k2, iv qm, iv qk, iv (0 : Int32), iv (0 : Int32), rv b854, rv b861, rv b873, iv (1 : Int32), rv nc, rv nc, iv same, .unset] [(.int a1), (.int qm)]) := fun tt kt => go934 tt (by
          refine XS.iload X921.here hx rfl (hb hby at_331) rfl ?_
          refine XS.iload X921.here hx rfl (hb hby at_333) rfl ?_
          exact kt)
      by_cases hz335 : qm = a1
      · have go936 : own_S p e below ST T921 (mkF m 338 #[iv m1, iv c1, iv m2, iv c2, iv q', iv fl, iv a1, iv k1, iv a2, iv k2, iv qm, iv qk, iv (0 : Int32), iv (0 : Int32), rv b854, rv b861, rv b873, iv (1 : Int32), rv nc, rv nc, iv same, .unset] []) := fun tt kt => go935 tt (by
            refine XS.icmpNo X921.here hx rfl (hb hby at_335) rfl (teq hz335).2 ?_
            exact kt)
        have go937 : own_S p e below ST T921 (mkF m 342 #[iv m1, iv c1, iv m2, iv c2, iv q', iv fl, iv a1, iv k1, iv a2, iv k2, iv qm, iv qk, iv (0 : Int32), iv (0 : Int32), rv b854, rv b861, rv b873, iv (1 : Int32), rv nc, rv nc, iv same, .unset] [(.int k1), (.int qk)]) := fun tt kt => go936 tt (by
            refine XS.iload X921.here hx rfl (hb hby at_338) rfl ?_
            refine XS.iload X921.here hx rfl (hb hby at_340) rfl ?_
            exact kt)
        by_cases hz342 : qk = k1
        · have go938 : own_S p e below ST T921 (mkF m 345 #[iv m1, iv c1, iv m2, iv c2, iv q', iv fl, iv a1, iv k1, iv a2, iv k2, iv qm, iv qk, iv (0 : Int32), iv (0 : Int32), rv b854, rv b861, rv b873, iv (1 : Int32), rv nc, rv nc, iv same, .unset] []) := fun tt kt => go937 tt (by
              refine XS.icmpNo X921.here hx rfl (hb hby at_342) rfl (teq hz342).2 ?_
              exact kt)
          have go939 : own_S p e below ST T921 (mkF m 368 #[iv m1, iv c1, iv m2, iv c2, iv q', iv fl, iv a1, iv k1, iv a2, iv k2, iv qm, iv qk, iv (0 : Int32), iv (0 : Int32), rv b854, rv b861, rv b873, iv (1 : Int32), rv nc, rv nc, iv same, rv nc] [(.int qk), (.int qm), (.ref b873)]) := fun tt kt => go938 tt (by
              refine XS.aload X921.here hx rfl (hb hby at_345) rfl rfl ?_
              refine XS.astore X921.here hx rfl (hb hby at_347) rfl rfl (l' := #[iv m1, iv c1, iv m2, iv c2, iv q', iv fl, iv a1, iv k1, iv a2, iv k2, iv qm, iv qk, iv (0 : Int32), iv (0 : Int32), rv b854, rv b861, rv b873, iv (1 : Int32), rv nc, rv nc, iv same, rv nc]) rfl ?_
              refine XS.goto X921.here hx rfl (pc0 := 349) (pc' := 357) rfl (hb hby at_349) (by decide) (by decide) ?_
              refine XS.iload X921.here hx rfl (hb hby at_357) rfl ?_
              refine XS.ifNo X921.here hx rfl (hb hby at_359) rfl ((if0 _ _).trans (feq (by decide : ¬ ((1 : Int32) = (0 : Int32)))).1) ?_
              refine XS.aload X921.here hx rfl (hb hby at_362) rfl rfl ?_
              show Steps p.tables e below (T921.setTop (mkF m 364 #[iv m1, iv c1, iv m2, iv c2, iv q', iv fl, iv a1, iv k1, iv a2, iv k2, iv qm, iv qk, iv (0 : Int32), iv (0 : Int32), rv b854, rv b861, rv b873, iv (1 : Int32), rv nc, rv nc, iv same, rv nc] [(.ref b873)])) _
              refine XS.iload X921.here hx rfl (hb hby at_364) rfl ?_
              refine XS.iload X921.here hx rfl (hb hby at_366) rfl ?_
              exact kt)
          obtain ⟨cq940, kq940, q940a, q940b, q940c⟩ := isOf hZ eh921 Eg907
          obtain ⟨_, _, ⟨T940, L940, k940, n940⟩, -, X940, ⟨Lc940, hQ940, l940, y940, z940⟩, st940⟩ := X921.virtualBack hx (y := (⟨"com/example/brancher/brancher/service/Group", "choices", "(II)Ljava/util/BitSet;"⟩ : MethodName)) (z := (⟨"com/example/brancher/brancher/service/Group", "choices", "(II)Ljava/util/BitSet;"⟩ : MethodName)) hown (mvT hZ (W 144 rfl)) (mvT hZ (W 145 rfl)) (notFace_of_selects (args := #[]) (mvT hZ (W 147 rfl))) (mvT hZ (W 147 rfl)) (mvT hZ (W 146 rfl)) (by decide) (backOf (W := 0) (rmCH l Z a0 hw [] b873 qm qk M0_2 M1_2 nc T907.heap n0 zs918 GRr907 bqm bqk SN Or907) hZ (W 148 rfl) (W 47 rfl) (by decide) (by decide)) q940a q940c (g := (mkF m 368 #[iv m1, iv c1, iv m2, iv c2, iv q', iv fl, iv a1, iv k1, iv a2, iv k2, iv qm, iv qk, iv (0 : Int32), iv (0 : Int32), rv b854, rv b861, rv b873, iv (1 : Int32), rv nc, rv nc, iv same, rv nc] [(.int qk), (.int qm), (.ref b873)])) rfl (by rw [hml]; rfl) (Steps.refl _) (argsL := [(.int qm), (.int qk)]) (rest := []) (lenOf pd296 rfl) rfl (by show 2 * 0 + _ ≤ _; exact Nat.le_of_eq rfl) (hb hby at_368) (fun _ _ => ⟨rfl, eh921, (by decide : 25 + 0 ≤ _), (by decide : 79 + 0 ≤ _)⟩)
          dsimp only [Pt.U, Pt.locs, Pt.cells, Pt.slots] at X940 l940 y940 z940 st940 hQ940
          subst l940 y940 z940
          obtain ⟨rfl, Nq940, eh940⟩ := hQ940
          have N940 := Fr.app N921 Nq940
          have go941 : own_S p e below ST T940 (mkF m 371 #[iv m1, iv c1, iv m2, iv c2, iv q', iv fl, iv a1, iv k1, iv a2, iv k2, iv qm, iv qk, iv (0 : Int32), iv (0 : Int32), rv b854, rv b861, rv b873, iv (1 : Int32), rv nc, rv nc, iv same, rv nc] [(own_or nc ((if qm = 0 then M0_2 else M1_2).getD (qk).toNatClampNeg .null))]) := fun tt kt => go939 tt (st940.trans kt)
          have e_5 : own_or nc ((if qm = 0 then M0_2 else M1_2).getD (qk).toNatClampNeg .null) = .ref nc := own_orn nc ((s_2 qm qk bqm bqk).trans ((if_neg fun q => hz321 q.2).trans (if_pos ⟨hz335, hz342⟩)))
          obtain ⟨vo5, hvo5⟩ : ∃ z : Value, z = (own_or nc ((if qm = 0 then M0_2 else M1_2).getD (qk).toNatClampNeg .null)) := ⟨_, rfl⟩
          rw [← hvo5] at go941
          replace e_5 := hvo5.trans e_5
          have go942 : own_S p e below ST T940 (mkF m 385 #[iv m1, iv c1, iv m2, iv c2, iv q', iv fl, iv a1, iv k1, iv a2, iv k2, iv qm, iv qk, iv (0 : Int32), iv (0 : Int32), rv b854, rv b861, rv b873, iv (1 : Int32), rv nc, rv nc, iv same, rv nc] [(.int (1 : Int32))]) := fun tt kt => go941 tt (by
              refine XS.aload X940.here hx rfl (hb hby at_371) rfl rfl ?_
              refine Jvm.RoadKit.acmp (g := (mkF m 373 #[iv m1, iv c1, iv m2, iv c2, iv q', iv fl, iv a1, iv k1, iv a2, iv k2, iv qm, iv qk, iv (0 : Int32), iv (0 : Int32), rv b854, rv b861, rv b873, iv (1 : Int32), rv nc, rv nc, iv same, rv nc] [(.ref nc), vo5])) X940 hx rfl (by rw [e_5]; rfl) rfl (pc0 := 373) (pc' := 376) (same := true) rfl (hb hby at_373) rfl (decide_eq_true e_5) (by decide) (by decide) ?_
              refine XS.iconst X940.here hx rfl (hb hby at_376) ?_
              refine XS.goto X940.here hx rfl (pc0 := 377) (pc' := 381) rfl (hb hby at_377) (by decide) (by decide) ?_
              refine XS.istore X940.here hx rfl (hb hby at_381) rfl (l' := #[iv m1, iv c1, iv m2, iv c2, iv q', iv fl, iv a1, iv k1, iv a2, iv k2, iv qm, iv qk, iv (0 : Int32), iv (0 : Int32), rv b854, rv b861, rv b873, iv (1 : Int32), rv nc, rv nc, iv same, rv nc]) rfl ?_
              refine XS.iload X940.here hx rfl (hb hby at_383) rfl ?_
              exact kt)
          obtain ⟨fs, hr, hrun, hended, hW, hsame⟩ := X940.leave (v := some (.int (1 : Int32))) (fun h => by rw [Bd.returns] at h; cases h) (hlocks := by first | exact BodyLoose.notSynchronized Bd | exact Body.notSynchronized Bd)
          refine ⟨_, _, pre0 _ (go942 _ ?_), hrun, hended, _, _, rfl, ?_, ⟨_, rfl⟩, hW, hsame.mono (by decide) (by decide)⟩
          · exact retN X940 hx (t := .boolean) Bd.returns (by simp) (hb hby at_385) hr
          · show Q0n00 Z m1 c1 m2 c2 q' fl ad kd nc h0 n0 _ T940.heap _
            rw [eh940]
            exact ⟨rfl, N940⟩
        · have go943 : own_S p e below ST T921 (mkF m 352 #[iv m1, iv c1, iv m2, iv c2, iv q', iv fl, iv a1, iv k1, iv a2, iv k2, iv qm, iv qk, iv (0 : Int32), iv (0 : Int32), rv b854, rv b861, rv b873, iv (1 : Int32), rv nc, rv nc, iv same, .unset] []) := fun tt kt => go937 tt (by
              refine XS.icmpYes X921.here hx rfl (pc0 := 342) (pc' := 352) rfl (hb hby at_342) rfl (feq hz342).2 (by decide) (by decide) ?_
              exact kt)
          obtain ⟨T944, X944, e944, st944⟩ := getS2 X921 hx hZ hown (host := "") (Or.inl (W 151 rfl)) Via.refl eh921 (SN.ext Or907.2) (g := (mkF m 352 #[iv m1, iv c1, iv m2, iv c2, iv q', iv fl, iv a1, iv k1, iv a2, iv k2, iv qm, iv qk, iv (0 : Int32), iv (0 : Int32), rv b854, rv b861, rv b873, iv (1 : Int32), rv nc, rv nc, iv same, .unset] [])) rfl (hb hby at_352)
          have go945 : own_S p e below ST T944 (mkF m 355 #[iv m1, iv c1, iv m2, iv c2, iv q', iv fl, iv a1, iv k1, iv a2, iv k2, iv qm, iv qk, iv (0 : Int32), iv (0 : Int32), rv b854, rv b861, rv b873, iv (1 : Int32), rv nc, rv nc, iv same, .unset] [(.ref nc)]) := fun tt kt => go943 tt (st944 _ kt)
          have go946 : own_S p e below ST T944 (mkF m 368 #[iv m1, iv c1, iv m2, iv c2, iv q', iv fl, iv a1, iv k1, iv a2, iv k2, iv qm, iv qk, iv (0 : Int32), iv (0 : Int32), rv b854, rv b861, rv b873, iv (1 : Int32), rv nc, rv nc, iv same, rv nc] [(.int qk), (.int qm), (.ref b873)]) := fun tt kt => go945 tt (by
              refine XS.astore X944.here hx rfl (hb hby at_355) rfl rfl (l' := #[iv m1, iv c1, iv m2, iv c2, iv q', iv fl, iv a1, iv k1, iv a2, iv k2, iv qm, iv qk, iv (0 : Int32), iv (0 : Int32), rv b854, rv b861, rv b873, iv (1 : Int32), rv nc, rv nc, iv same, rv nc]) rfl ?_
              refine XS.iload X944.here hx rfl (hb hby at_357) rfl ?_
              refine XS.ifNo X944.here hx rfl (hb hby at_359) rfl ((if0 _ _).trans (feq (by decide : ¬ ((1 : Int32) = (0 : Int32)))).1) ?_
              refine XS.aload X944.here hx rfl (hb hby at_362) rfl rfl ?_
              refine XS.iload X944.here hx rfl (hb hby at_364) rfl ?_
              refine XS.iload X944.here hx rfl (hb hby at_366) rfl ?_
              exact kt)
          obtain ⟨cq947, kq947, q947a, q947b, q947c⟩ := isOf hZ e944 Eg907
          obtain ⟨_, _, ⟨T947, L947, k947, n947⟩, -, X947, ⟨Lc947, hQ947, l947, y947, z947⟩, st947⟩ := X944.virtualBack hx (y := (⟨"com/example/brancher/brancher/service/Group", "choices", "(II)Ljava/util/BitSet;"⟩ : MethodName)) (z := (⟨"com/example/brancher/brancher/service/Group", "choices", "(II)Ljava/util/BitSet;"⟩ : MethodName)) hown (mvT hZ (W 144 rfl)) (mvT hZ (W 145 rfl)) (notFace_of_selects (args := #[]) (mvT hZ (W 147 rfl))) (mvT hZ (W 147 rfl)) (mvT hZ (W 146 rfl)) (by decide) (backOf (W := 0) (rmCH l Z a0 hw [] b873 qm qk M0_2 M1_2 nc T907.heap n0 zs918 GRr907 bqm bqk SN Or907) hZ (W 148 rfl) (W 47 rfl) (by decide) (by decide)) q947a q947c (g := (mkF m 368 #[iv m1, iv c1, iv m2, iv c2, iv q', iv fl, iv a1, iv k1, iv a2, iv k2, iv qm, iv qk, iv (0 : Int32), iv (0 : Int32), rv b854, rv b861, rv b873, iv (1 : Int32), rv nc, rv nc, iv same, rv nc] [(.int qk), (.int qm), (.ref b873)])) rfl (by rw [hml]; rfl) (Steps.refl _) (argsL := [(.int qm), (.int qk)]) (rest := []) (lenOf pd296 rfl) rfl (by show 2 * 0 + _ ≤ _; exact Nat.le_of_eq rfl) (hb hby at_368) (fun _ _ => ⟨rfl, e944, (by decide : 25 + 0 ≤ _), (by decide : 79 + 0 ≤ _)⟩)
          dsimp only [Pt.U, Pt.locs, Pt.cells, Pt.slots] at X947 l947 y947 z947 st947 hQ947
          subst l947 y947 z947
          obtain ⟨rfl, Nq947, eh947⟩ := hQ947
          have N947 := Fr.app N921 Nq947
          have go948 : own_S p e below ST T947 (mkF m 371 #[iv m1, iv c1, iv m2, iv c2, iv q', iv fl, iv a1, iv k1, iv a2, iv k2, iv qm, iv qk, iv (0 : Int32), iv (0 : Int32), rv b854, rv b861, rv b873, iv (1 : Int32), rv nc, rv nc, iv same, rv nc] [(own_or nc ((if qm = 0 then M0_2 else M1_2).getD (qk).toNatClampNeg .null))]) := fun tt kt => go946 tt (st947.trans kt)
          have go949 : own_S p e below ST T947 (mkF m 373 #[iv m1, iv c1, iv m2, iv c2, iv q', iv fl, iv a1, iv k1, iv a2, iv k2, iv qm, iv qk, iv (0 : Int32), iv (0 : Int32), rv b854, rv b861, rv b873, iv (1 : Int32), rv nc, rv nc, iv same, rv nc] [(.ref nc), (own_or nc ((if qm = 0 then M0_2 else M1_2).getD (qk).toNatClampNeg .null))]) := fun tt kt => go948 tt (by
              refine XS.aload X947.here hx rfl (hb hby at_371) rfl rfl ?_
              exact kt)
          have e_5 : own_or nc ((if qm = 0 then M0_2 else M1_2).getD (qk).toNatClampNeg .null) = .ref nc := own_orn nc ((s_2 qm qk bqm bqk).trans ((if_neg fun q => hz321 q.2).trans (if_neg fun q => hz342 q.2)))
          obtain ⟨vo5, hvo5⟩ : ∃ z : Value, z = (own_or nc ((if qm = 0 then M0_2 else M1_2).getD (qk).toNatClampNeg .null)) := ⟨_, rfl⟩
          rw [← hvo5] at go949
          replace e_5 := hvo5.trans e_5
          have go950 : own_S p e below ST T947 (mkF m 385 #[iv m1, iv c1, iv m2, iv c2, iv q', iv fl, iv a1, iv k1, iv a2, iv k2, iv qm, iv qk, iv (0 : Int32), iv (0 : Int32), rv b854, rv b861, rv b873, iv (1 : Int32), rv nc, rv nc, iv same, rv nc] [(.int (1 : Int32))]) := fun tt kt => go949 tt (by
              refine Jvm.RoadKit.acmp (g := (mkF m 373 #[iv m1, iv c1, iv m2, iv c2, iv q', iv fl, iv a1, iv k1, iv a2, iv k2, iv qm, iv qk, iv (0 : Int32), iv (0 : Int32), rv b854, rv b861, rv b873, iv (1 : Int32), rv nc, rv nc, iv same, rv nc] [(.ref nc), vo5])) X947 hx rfl (by rw [e_5]; rfl) rfl (pc0 := 373) (pc' := 376) (same := true) rfl (hb hby at_373) rfl (decide_eq_true e_5) (by decide) (by decide) ?_
              refine XS.iconst X947.here hx rfl (hb hby at_376) ?_
              refine XS.goto X947.here hx rfl (pc0 := 377) (pc' := 381) rfl (hb hby at_377) (by decide) (by decide) ?_
              refine XS.istore X947.here hx rfl (hb hby at_381) rfl (l' := #[iv m1, iv c1, iv m2, iv c2, iv q', iv fl, iv a1, iv k1, iv a2, iv k2, iv qm, iv qk, iv (0 : Int32), iv (0 : Int32), rv b854, rv b861, rv b873, iv (1 : Int32), rv nc, rv nc, iv same, rv nc]) rfl ?_
              refine XS.iload X947.here hx rfl (hb hby at_383) rfl ?_
              exact kt)
          obtain ⟨fs, hr, hrun, hended, hW, hsame⟩ := X947.leave (v := some (.int (1 : Int32))) (fun h => by rw [Bd.returns] at h; cases h) (hlocks := by first | exact BodyLoose.notSynchronized Bd | exact Body.notSynchronized Bd)
          refine ⟨_, _, pre0 _ (go950 _ ?_), hrun, hended, _, _, rfl, ?_, ⟨_, rfl⟩, hW, hsame.mono (by decide) (by decide)⟩
          · exact retN X947 hx (t := .boolean) Bd.returns (by simp) (hb hby at_385) hr
          · show Q0n00 Z m1 c1 m2 c2 q' fl ad kd nc h0 n0 _ T947.heap _
            rw [eh947]
            exact ⟨rfl, N947⟩
      · have go951 : own_S p e below ST T921 (mkF m 352 #[iv m1, iv c1, iv m2, iv c2, iv q', iv fl, iv a1, iv k1, iv a2, iv k2, iv qm, iv qk, iv (0 : Int32), iv (0 : Int32), rv b854, rv b861, rv b873, iv (1 : Int32), rv nc, rv nc, iv same, .unset] []) := fun tt kt => go935 tt (by
            refine XS.icmpYes X921.here hx rfl (pc0 := 335) (pc' := 352) rfl (hb hby at_335) rfl (feq hz335).2 (by decide) (by decide) ?_
            exact kt)
        obtain ⟨T952, X952, e952, st952⟩ := getS2 X921 hx hZ hown (host := "") (Or.inl (W 151 rfl)) Via.refl eh921 (SN.ext Or907.2) (g := (mkF m 352 #[iv m1, iv c1, iv m2, iv c2, iv q', iv fl, iv a1, iv k1, iv a2, iv k2, iv qm, iv qk, iv (0 : Int32), iv (0 : Int32), rv b854, rv b861, rv b873, iv (1 : Int32), rv nc, rv nc, iv same, .unset] [])) rfl (hb hby at_352)
        have go953 : own_S p e below ST T952 (mkF m 355 #[iv m1, iv c1, iv m2, iv c2, iv q', iv fl, iv a1, iv k1, iv a2, iv k2, iv qm, iv qk, iv (0 : Int32), iv (0 : Int32), rv b854, rv b861, rv b873, iv (1 : Int32), rv nc, rv nc, iv same, .unset] [(.ref nc)]) := fun tt kt => go951 tt (st952 _ kt)
        have go954 : own_S p e below ST T952 (mkF m 368 #[iv m1, iv c1, iv m2, iv c2, iv q', iv fl, iv a1, iv k1, iv a2, iv k2, iv qm, iv qk, iv (0 : Int32), iv (0 : Int32), rv b854, rv b861, rv b873, iv (1 : Int32), rv nc, rv nc, iv same, rv nc] [(.int qk), (.int qm), (.ref b873)]) := fun tt kt => go953 tt (by
            refine XS.astore X952.here hx rfl (hb hby at_355) rfl rfl (l' := #[iv m1, iv c1, iv m2, iv c2, iv q', iv fl, iv a1, iv k1, iv a2, iv k2, iv qm, iv qk, iv (0 : Int32), iv (0 : Int32), rv b854, rv b861, rv b873, iv (1 : Int32), rv nc, rv nc, iv same, rv nc]) rfl ?_
            refine XS.iload X952.here hx rfl (hb hby at_357) rfl ?_
            refine XS.ifNo X952.here hx rfl (hb hby at_359) rfl ((if0 _ _).trans (feq (by decide : ¬ ((1 : Int32) = (0 : Int32)))).1) ?_
            refine XS.aload X952.here hx rfl (hb hby at_362) rfl rfl ?_
            refine XS.iload X952.here hx rfl (hb hby at_364) rfl ?_
            refine XS.iload X952.here hx rfl (hb hby at_366) rfl ?_
            exact kt)
        obtain ⟨cq955, kq955, q955a, q955b, q955c⟩ := isOf hZ e952 Eg907
        obtain ⟨_, _, ⟨T955, L955, k955, n955⟩, -, X955, ⟨Lc955, hQ955, l955, y955, z955⟩, st955⟩ := X952.virtualBack hx (y := (⟨"com/example/brancher/brancher/service/Group", "choices", "(II)Ljava/util/BitSet;"⟩ : MethodName)) (z := (⟨"com/example/brancher/brancher/service/Group", "choices", "(II)Ljava/util/BitSet;"⟩ : MethodName)) hown (mvT hZ (W 144 rfl)) (mvT hZ (W 145 rfl)) (notFace_of_selects (args := #[]) (mvT hZ (W 147 rfl))) (mvT hZ (W 147 rfl)) (mvT hZ (W 146 rfl)) (by decide) (backOf (W := 0) (rmCH l Z a0 hw [] b873 qm qk M0_2 M1_2 nc T907.heap n0 zs918 GRr907 bqm bqk SN Or907) hZ (W 148 rfl) (W 47 rfl) (by decide) (by decide)) q955a q955c (g := (mkF m 368 #[iv m1, iv c1, iv m2, iv c2, iv q', iv fl, iv a1, iv k1, iv a2, iv k2, iv qm, iv qk, iv (0 : Int32), iv (0 : Int32), rv b854, rv b861, rv b873, iv (1 : Int32), rv nc, rv nc, iv same, rv nc] [(.int qk), (.int qm), (.ref b873)])) rfl (by rw [hml]; rfl) (Steps.refl _) (argsL := [(.int qm), (.int qk)]) (rest := []) (lenOf pd296 rfl) rfl (by show 2 * 0 + _ ≤ _; exact Nat.le_of_eq rfl) (hb hby at_368) (fun _ _ => ⟨rfl, e952, (by decide : 25 + 0 ≤ _), (by decide : 79 + 0 ≤ _)⟩)
        dsimp only [Pt.U, Pt.locs, Pt.cells, Pt.slots] at X955 l955 y955 z955 st955 hQ955
        subst l955 y955 z955
        obtain ⟨rfl, Nq955, eh955⟩ := hQ955
        have N955 := Fr.app N921 Nq955
        have go956 : own_S p e below ST T955 (mkF m 371 #[iv m1, iv c1, iv m2, iv c2, iv q', iv fl, iv a1, iv k1, iv a2, iv k2, iv qm, iv qk, iv (0 : Int32), iv (0 : Int32), rv b854, rv b861, rv b873, iv (1 : Int32), rv nc, rv nc, iv same, rv nc] [(own_or nc ((if qm = 0 then M0_2 else M1_2).getD (qk).toNatClampNeg .null))]) := fun tt kt => go954 tt (st955.trans kt)
        have go957 : own_S p e below ST T955 (mkF m 373 #[iv m1, iv c1, iv m2, iv c2, iv q', iv fl, iv a1, iv k1, iv a2, iv k2, iv qm, iv qk, iv (0 : Int32), iv (0 : Int32), rv b854, rv b861, rv b873, iv (1 : Int32), rv nc, rv nc, iv same, rv nc] [(.ref nc), (own_or nc ((if qm = 0 then M0_2 else M1_2).getD (qk).toNatClampNeg .null))]) := fun tt kt => go956 tt (by
            refine XS.aload X955.here hx rfl (hb hby at_371) rfl rfl ?_
            exact kt)
        have e_5 : own_or nc ((if qm = 0 then M0_2 else M1_2).getD (qk).toNatClampNeg .null) = .ref nc := own_orn nc ((s_2 qm qk bqm bqk).trans ((if_neg fun q => hz321 q.2).trans (if_neg fun q => hz335 q.1)))
        obtain ⟨vo5, hvo5⟩ : ∃ z : Value, z = (own_or nc ((if qm = 0 then M0_2 else M1_2).getD (qk).toNatClampNeg .null)) := ⟨_, rfl⟩
        rw [← hvo5] at go957
        replace e_5 := hvo5.trans e_5
        have go958 : own_S p e below ST T955 (mkF m 385 #[iv m1, iv c1, iv m2, iv c2, iv q', iv fl, iv a1, iv k1, iv a2, iv k2, iv qm, iv qk, iv (0 : Int32), iv (0 : Int32), rv b854, rv b861, rv b873, iv (1 : Int32), rv nc, rv nc, iv same, rv nc] [(.int (1 : Int32))]) := fun tt kt => go957 tt (by
            refine Jvm.RoadKit.acmp (g := (mkF m 373 #[iv m1, iv c1, iv m2, iv c2, iv q', iv fl, iv a1, iv k1, iv a2, iv k2, iv qm, iv qk, iv (0 : Int32), iv (0 : Int32), rv b854, rv b861, rv b873, iv (1 : Int32), rv nc, rv nc, iv same, rv nc] [(.ref nc), vo5])) X955 hx rfl (by rw [e_5]; rfl) rfl (pc0 := 373) (pc' := 376) (same := true) rfl (hb hby at_373) rfl (decide_eq_true e_5) (by decide) (by decide) ?_
            refine XS.iconst X955.here hx rfl (hb hby at_376) ?_
            refine XS.goto X955.here hx rfl (pc0 := 377) (pc' := 381) rfl (hb hby at_377) (by decide) (by decide) ?_
            refine XS.istore X955.here hx rfl (hb hby at_381) rfl (l' := #[iv m1, iv c1, iv m2, iv c2, iv q', iv fl, iv a1, iv k1, iv a2, iv k2, iv qm, iv qk, iv (0 : Int32), iv (0 : Int32), rv b854, rv b861, rv b873, iv (1 : Int32), rv nc, rv nc, iv same, rv nc]) rfl ?_
            refine XS.iload X955.here hx rfl (hb hby at_383) rfl ?_
            exact kt)
        obtain ⟨fs, hr, hrun, hended, hW, hsame⟩ := X955.leave (v := some (.int (1 : Int32))) (fun h => by rw [Bd.returns] at h; cases h) (hlocks := by first | exact BodyLoose.notSynchronized Bd | exact Body.notSynchronized Bd)
        refine ⟨_, _, pre0 _ (go958 _ ?_), hrun, hended, _, _, rfl, ?_, ⟨_, rfl⟩, hW, hsame.mono (by decide) (by decide)⟩
        · exact retN X955 hx (t := .boolean) Bd.returns (by simp) (hb hby at_385) hr
        · show Q0n00 Z m1 c1 m2 c2 q' fl ad kd nc h0 n0 _ T955.heap _
          rw [eh955]
          exact ⟨rfl, N955⟩
  · have go959 : own_S p e below ST T921 (mkF m 331 #[iv m1, iv c1, iv m2, iv c2, iv q', iv fl, iv a1, iv k1, iv a2, iv k2, iv qm, iv qk, iv (0 : Int32), iv (0 : Int32), rv b854, rv b861, rv b873, iv (1 : Int32), rv nc, rv nc, iv same, .unset] []) := fun tt kt => go926 tt (by
        refine XS.icmpYes X921.here hx rfl (pc0 := 314) (pc' := 331) rfl (hb hby at_314) rfl (feq hz314).2 (by decide) (by decide) ?_
        exact kt)
    have go960 : own_S p e below ST T921 (mkF m 335 #[iv m1, iv c1, iv m2, iv c2, iv q', iv fl, iv a1, iv k1, iv a2, iv k2, iv qm, iv qk, iv (0 : Int32), iv (0 : Int32), rv b854, rv b861, rv b873, iv (1 : Int32), rv nc, rv nc, iv same, .unset] [(.int a1), (.int qm)]) := fun tt kt => go959 tt (by
        refine XS.iload X921.here hx rfl (hb hby at_331) rfl ?_
        refine XS.iload X921.here hx rfl (hb hby at_333) rfl ?_
        exact kt)
    by_cases hz335 : qm = a1
    · have go961 : own_S p e below ST T921 (mkF m 338 #[iv m1, iv c1, iv m2, iv c2, iv q', iv fl, iv a1, iv k1, iv a2, iv k2, iv qm, iv qk, iv (0 : Int32), iv (0 : Int32), rv b854, rv b861, rv b873, iv (1 : Int32), rv nc, rv nc, iv same, .unset] []) := fun tt kt => go960 tt (by
          refine XS.icmpNo X921.here hx rfl (hb hby at_335) rfl (teq hz335).2 ?_
          exact kt)
      have go962 : own_S p e below ST T921 (mkF m 342 #[iv m1, iv c1, iv m2, iv c2, iv q', iv fl, iv a1, iv k1, iv a2, iv k2, iv qm, iv qk, iv (0 : Int32), iv (0 : Int32), rv b854, rv b861, rv b873, iv (1 : Int32), rv nc, rv nc, iv same, .unset] [(.int k1), (.int qk)]) := fun tt kt => go961 tt (by
          refine XS.iload X921.here hx rfl (hb hby at_338) rfl ?_
          refine XS.iload X921.here hx rfl (hb hby at_340) rfl ?_
          exact kt)
      by_cases hz342 : qk = k1
      · have go963 : own_S p e below ST T921 (mkF m 345 #[iv m1, iv c1, iv m2, iv c2, iv q', iv fl, iv a1, iv k1, iv a2, iv k2, iv qm, iv qk, iv (0 : Int32), iv (0 : Int32), rv b854, rv b861, rv b873, iv (1 : Int32), rv nc, rv nc, iv same, .unset] []) := fun tt kt => go962 tt (by
            refine XS.icmpNo X921.here hx rfl (hb hby at_342) rfl (teq hz342).2 ?_
            exact kt)
        have go964 : own_S p e below ST T921 (mkF m 368 #[iv m1, iv c1, iv m2, iv c2, iv q', iv fl, iv a1, iv k1, iv a2, iv k2, iv qm, iv qk, iv (0 : Int32), iv (0 : Int32), rv b854, rv b861, rv b873, iv (1 : Int32), rv nc, rv nc, iv same, rv nc] [(.int qk), (.int qm), (.ref b873)]) := fun tt kt => go963 tt (by
            refine XS.aload X921.here hx rfl (hb hby at_345) rfl rfl ?_
            refine XS.astore X921.here hx rfl (hb hby at_347) rfl rfl (l' := #[iv m1, iv c1, iv m2, iv c2, iv q', iv fl, iv a1, iv k1, iv a2, iv k2, iv qm, iv qk, iv (0 : Int32), iv (0 : Int32), rv b854, rv b861, rv b873, iv (1 : Int32), rv nc, rv nc, iv same, rv nc]) rfl ?_
            refine XS.goto X921.here hx rfl (pc0 := 349) (pc' := 357) rfl (hb hby at_349) (by decide) (by decide) ?_
            refine XS.iload X921.here hx rfl (hb hby at_357) rfl ?_
            refine XS.ifNo X921.here hx rfl (hb hby at_359) rfl ((if0 _ _).trans (feq (by decide : ¬ ((1 : Int32) = (0 : Int32)))).1) ?_
            refine XS.aload X921.here hx rfl (hb hby at_362) rfl rfl ?_
            show Steps p.tables e below (T921.setTop (mkF m 364 #[iv m1, iv c1, iv m2, iv c2, iv q', iv fl, iv a1, iv k1, iv a2, iv k2, iv qm, iv qk, iv (0 : Int32), iv (0 : Int32), rv b854, rv b861, rv b873, iv (1 : Int32), rv nc, rv nc, iv same, rv nc] [(.ref b873)])) _
            refine XS.iload X921.here hx rfl (hb hby at_364) rfl ?_
            refine XS.iload X921.here hx rfl (hb hby at_366) rfl ?_
            exact kt)
        obtain ⟨cq965, kq965, q965a, q965b, q965c⟩ := isOf hZ eh921 Eg907
        obtain ⟨_, _, ⟨T965, L965, k965, n965⟩, -, X965, ⟨Lc965, hQ965, l965, y965, z965⟩, st965⟩ := X921.virtualBack hx (y := (⟨"com/example/brancher/brancher/service/Group", "choices", "(II)Ljava/util/BitSet;"⟩ : MethodName)) (z := (⟨"com/example/brancher/brancher/service/Group", "choices", "(II)Ljava/util/BitSet;"⟩ : MethodName)) hown (mvT hZ (W 144 rfl)) (mvT hZ (W 145 rfl)) (notFace_of_selects (args := #[]) (mvT hZ (W 147 rfl))) (mvT hZ (W 147 rfl)) (mvT hZ (W 146 rfl)) (by decide) (backOf (W := 0) (rmCH l Z a0 hw [] b873 qm qk M0_2 M1_2 nc T907.heap n0 zs918 GRr907 bqm bqk SN Or907) hZ (W 148 rfl) (W 47 rfl) (by decide) (by decide)) q965a q965c (g := (mkF m 368 #[iv m1, iv c1, iv m2, iv c2, iv q', iv fl, iv a1, iv k1, iv a2, iv k2, iv qm, iv qk, iv (0 : Int32), iv (0 : Int32), rv b854, rv b861, rv b873, iv (1 : Int32), rv nc, rv nc, iv same, rv nc] [(.int qk), (.int qm), (.ref b873)])) rfl (by rw [hml]; rfl) (Steps.refl _) (argsL := [(.int qm), (.int qk)]) (rest := []) (lenOf pd296 rfl) rfl (by show 2 * 0 + _ ≤ _; exact Nat.le_of_eq rfl) (hb hby at_368) (fun _ _ => ⟨rfl, eh921, (by decide : 25 + 0 ≤ _), (by decide : 79 + 0 ≤ _)⟩)
        dsimp only [Pt.U, Pt.locs, Pt.cells, Pt.slots] at X965 l965 y965 z965 st965 hQ965
        subst l965 y965 z965
        obtain ⟨rfl, Nq965, eh965⟩ := hQ965
        have N965 := Fr.app N921 Nq965
        have go966 : own_S p e below ST T965 (mkF m 371 #[iv m1, iv c1, iv m2, iv c2, iv q', iv fl, iv a1, iv k1, iv a2, iv k2, iv qm, iv qk, iv (0 : Int32), iv (0 : Int32), rv b854, rv b861, rv b873, iv (1 : Int32), rv nc, rv nc, iv same, rv nc] [(own_or nc ((if qm = 0 then M0_2 else M1_2).getD (qk).toNatClampNeg .null))]) := fun tt kt => go964 tt (st965.trans kt)
        have e_5 : own_or nc ((if qm = 0 then M0_2 else M1_2).getD (qk).toNatClampNeg .null) = .ref nc := own_orn nc ((s_2 qm qk bqm bqk).trans ((if_neg fun q => hz314 q.1).trans (if_pos ⟨hz335, hz342⟩)))
        obtain ⟨vo5, hvo5⟩ : ∃ z : Value, z = (own_or nc ((if qm = 0 then M0_2 else M1_2).getD (qk).toNatClampNeg .null)) := ⟨_, rfl⟩
        rw [← hvo5] at go966
        replace e_5 := hvo5.trans e_5
        have go967 : own_S p e below ST T965 (mkF m 385 #[iv m1, iv c1, iv m2, iv c2, iv q', iv fl, iv a1, iv k1, iv a2, iv k2, iv qm, iv qk, iv (0 : Int32), iv (0 : Int32), rv b854, rv b861, rv b873, iv (1 : Int32), rv nc, rv nc, iv same, rv nc] [(.int (1 : Int32))]) := fun tt kt => go966 tt (by
            refine XS.aload X965.here hx rfl (hb hby at_371) rfl rfl ?_
            refine Jvm.RoadKit.acmp (g := (mkF m 373 #[iv m1, iv c1, iv m2, iv c2, iv q', iv fl, iv a1, iv k1, iv a2, iv k2, iv qm, iv qk, iv (0 : Int32), iv (0 : Int32), rv b854, rv b861, rv b873, iv (1 : Int32), rv nc, rv nc, iv same, rv nc] [(.ref nc), vo5])) X965 hx rfl (by rw [e_5]; rfl) rfl (pc0 := 373) (pc' := 376) (same := true) rfl (hb hby at_373) rfl (decide_eq_true e_5) (by decide) (by decide) ?_
            refine XS.iconst X965.here hx rfl (hb hby at_376) ?_
            refine XS.goto X965.here hx rfl (pc0 := 377) (pc' := 381) rfl (hb hby at_377) (by decide) (by decide) ?_
            refine XS.istore X965.here hx rfl (hb hby at_381) rfl (l' := #[iv m1, iv c1, iv m2, iv c2, iv q', iv fl, iv a1, iv k1, iv a2, iv k2, iv qm, iv qk, iv (0 : Int32), iv (0 : Int32), rv b854, rv b861, rv b873, iv (1 : Int32), rv nc, rv nc, iv same, rv nc]) rfl ?_
            refine XS.iload X965.here hx rfl (hb hby at_383) rfl ?_
            exact kt)
        obtain ⟨fs, hr, hrun, hended, hW, hsame⟩ := X965.leave (v := some (.int (1 : Int32))) (fun h => by rw [Bd.returns] at h; cases h) (hlocks := by first | exact BodyLoose.notSynchronized Bd | exact Body.notSynchronized Bd)
        refine ⟨_, _, pre0 _ (go967 _ ?_), hrun, hended, _, _, rfl, ?_, ⟨_, rfl⟩, hW, hsame.mono (by decide) (by decide)⟩
        · exact retN X965 hx (t := .boolean) Bd.returns (by simp) (hb hby at_385) hr
        · show Q0n00 Z m1 c1 m2 c2 q' fl ad kd nc h0 n0 _ T965.heap _
          rw [eh965]
          exact ⟨rfl, N965⟩
      · have go968 : own_S p e below ST T921 (mkF m 352 #[iv m1, iv c1, iv m2, iv c2, iv q', iv fl, iv a1, iv k1, iv a2, iv k2, iv qm, iv qk, iv (0 : Int32), iv (0 : Int32), rv b854, rv b861, rv b873, iv (1 : Int32), rv nc, rv nc, iv same, .unset] []) := fun tt kt => go962 tt (by
            refine XS.icmpYes X921.here hx rfl (pc0 := 342) (pc' := 352) rfl (hb hby at_342) rfl (feq hz342).2 (by decide) (by decide) ?_
            exact kt)
        obtain ⟨T969, X969, e969, st969⟩ := getS2 X921 hx hZ hown (host := "") (Or.inl (W 151 rfl)) Via.refl eh921 (SN.ext Or907.2) (g := (mkF m 352 #[iv m1, iv c1, iv m2, iv c2, iv q', iv fl, iv a1, iv k1, iv a2, iv k2, iv qm, iv qk, iv (0 : Int32), iv (0 : Int32), rv b854, rv b861, rv b873, iv (1 : Int32), rv nc, rv nc, iv same, .unset] [])) rfl (hb hby at_352)
        have go970 : own_S p e below ST T969 (mkF m 355 #[iv m1, iv c1, iv m2, iv c2, iv q', iv fl, iv a1, iv k1, iv a2, iv k2, iv qm, iv qk, iv (0 : Int32), iv (0 : Int32), rv b854, rv b861, rv b873, iv (1 : Int32), rv nc, rv nc, iv same, .unset] [(.ref nc)]) := fun tt kt => go968 tt (st969 _ kt)
        have go971 : own_S p e below ST T969 (mkF m 368 #[iv m1, iv c1, iv m2, iv c2, iv q', iv fl, iv a1, iv k1, iv a2, iv k2, iv qm, iv qk, iv (0 : Int32), iv (0 : Int32), rv b854, rv b861, rv b873, iv (1 : Int32), rv nc, rv nc, iv same, rv nc] [(.int qk), (.int qm), (.ref b873)]) := fun tt kt => go970 tt (by
            refine XS.astore X969.here hx rfl (hb hby at_355) rfl rfl (l' := #[iv m1, iv c1, iv m2, iv c2, iv q', iv fl, iv a1, iv k1, iv a2, iv k2, iv qm, iv qk, iv (0 : Int32), iv (0 : Int32), rv b854, rv b861, rv b873, iv (1 : Int32), rv nc, rv nc, iv same, rv nc]) rfl ?_
            refine XS.iload X969.here hx rfl (hb hby at_357) rfl ?_
            refine XS.ifNo X969.here hx rfl (hb hby at_359) rfl ((if0 _ _).trans (feq (by decide : ¬ ((1 : Int32) = (0 : Int32)))).1) ?_
            refine XS.aload X969.here hx rfl (hb hby at_362) rfl rfl ?_
            refine XS.iload X969.here hx rfl (hb hby at_364) rfl ?_
            refine XS.iload X969.here hx rfl (hb hby at_366) rfl ?_
            exact kt)
        obtain ⟨cq972, kq972, q972a, q972b, q972c⟩ := isOf hZ e969 Eg907
        obtain ⟨_, _, ⟨T972, L972, k972, n972⟩, -, X972, ⟨Lc972, hQ972, l972, y972, z972⟩, st972⟩ := X969.virtualBack hx (y := (⟨"com/example/brancher/brancher/service/Group", "choices", "(II)Ljava/util/BitSet;"⟩ : MethodName)) (z := (⟨"com/example/brancher/brancher/service/Group", "choices", "(II)Ljava/util/BitSet;"⟩ : MethodName)) hown (mvT hZ (W 144 rfl)) (mvT hZ (W 145 rfl)) (notFace_of_selects (args := #[]) (mvT hZ (W 147 rfl))) (mvT hZ (W 147 rfl)) (mvT hZ (W 146 rfl)) (by decide) (backOf (W := 0) (rmCH l Z a0 hw [] b873 qm qk M0_2 M1_2 nc T907.heap n0 zs918 GRr907 bqm bqk SN Or907) hZ (W 148 rfl) (W 47 rfl) (by decide) (by decide)) q972a q972c (g := (mkF m 368 #[iv m1, iv c1, iv m2, iv c2, iv q', iv fl, iv a1, iv k1, iv a2, iv k2, iv qm, iv qk, iv (0 : Int32), iv (0 : Int32), rv b854, rv b861, rv b873, iv (1 : Int32), rv nc, rv nc, iv same, rv nc] [(.int qk), (.int qm), (.ref b873)])) rfl (by rw [hml]; rfl) (Steps.refl _) (argsL := [(.int qm), (.int qk)]) (rest := []) (lenOf pd296 rfl) rfl (by show 2 * 0 + _ ≤ _; exact Nat.le_of_eq rfl) (hb hby at_368) (fun _ _ => ⟨rfl, e969, (by decide : 25 + 0 ≤ _), (by decide : 79 + 0 ≤ _)⟩)
        dsimp only [Pt.U, Pt.locs, Pt.cells, Pt.slots] at X972 l972 y972 z972 st972 hQ972
        subst l972 y972 z972
        obtain ⟨rfl, Nq972, eh972⟩ := hQ972
        have N972 := Fr.app N921 Nq972
        have go973 : own_S p e below ST T972 (mkF m 371 #[iv m1, iv c1, iv m2, iv c2, iv q', iv fl, iv a1, iv k1, iv a2, iv k2, iv qm, iv qk, iv (0 : Int32), iv (0 : Int32), rv b854, rv b861, rv b873, iv (1 : Int32), rv nc, rv nc, iv same, rv nc] [(own_or nc ((if qm = 0 then M0_2 else M1_2).getD (qk).toNatClampNeg .null))]) := fun tt kt => go971 tt (st972.trans kt)
        have go974 : own_S p e below ST T972 (mkF m 373 #[iv m1, iv c1, iv m2, iv c2, iv q', iv fl, iv a1, iv k1, iv a2, iv k2, iv qm, iv qk, iv (0 : Int32), iv (0 : Int32), rv b854, rv b861, rv b873, iv (1 : Int32), rv nc, rv nc, iv same, rv nc] [(.ref nc), (own_or nc ((if qm = 0 then M0_2 else M1_2).getD (qk).toNatClampNeg .null))]) := fun tt kt => go973 tt (by
            refine XS.aload X972.here hx rfl (hb hby at_371) rfl rfl ?_
            exact kt)
        have e_5 : own_or nc ((if qm = 0 then M0_2 else M1_2).getD (qk).toNatClampNeg .null) = .ref nc := own_orn nc ((s_2 qm qk bqm bqk).trans ((if_neg fun q => hz314 q.1).trans (if_neg fun q => hz342 q.2)))
        obtain ⟨vo5, hvo5⟩ : ∃ z : Value, z = (own_or nc ((if qm = 0 then M0_2 else M1_2).getD (qk).toNatClampNeg .null)) := ⟨_, rfl⟩
        rw [← hvo5] at go974
        replace e_5 := hvo5.trans e_5
        have go975 : own_S p e below ST T972 (mkF m 385 #[iv m1, iv c1, iv m2, iv c2, iv q', iv fl, iv a1, iv k1, iv a2, iv k2, iv qm, iv qk, iv (0 : Int32), iv (0 : Int32), rv b854, rv b861, rv b873, iv (1 : Int32), rv nc, rv nc, iv same, rv nc] [(.int (1 : Int32))]) := fun tt kt => go974 tt (by
            refine Jvm.RoadKit.acmp (g := (mkF m 373 #[iv m1, iv c1, iv m2, iv c2, iv q', iv fl, iv a1, iv k1, iv a2, iv k2, iv qm, iv qk, iv (0 : Int32), iv (0 : Int32), rv b854, rv b861, rv b873, iv (1 : Int32), rv nc, rv nc, iv same, rv nc] [(.ref nc), vo5])) X972 hx rfl (by rw [e_5]; rfl) rfl (pc0 := 373) (pc' := 376) (same := true) rfl (hb hby at_373) rfl (decide_eq_true e_5) (by decide) (by decide) ?_
            refine XS.iconst X972.here hx rfl (hb hby at_376) ?_
            refine XS.goto X972.here hx rfl (pc0 := 377) (pc' := 381) rfl (hb hby at_377) (by decide) (by decide) ?_
            refine XS.istore X972.here hx rfl (hb hby at_381) rfl (l' := #[iv m1, iv c1, iv m2, iv c2, iv q', iv fl, iv a1, iv k1, iv a2, iv k2, iv qm, iv qk, iv (0 : Int32), iv (0 : Int32), rv b854, rv b861, rv b873, iv (1 : Int32), rv nc, rv nc, iv same, rv nc]) rfl ?_
            refine XS.iload X972.here hx rfl (hb hby at_383) rfl ?_
            exact kt)
        obtain ⟨fs, hr, hrun, hended, hW, hsame⟩ := X972.leave (v := some (.int (1 : Int32))) (fun h => by rw [Bd.returns] at h; cases h) (hlocks := by first | exact BodyLoose.notSynchronized Bd | exact Body.notSynchronized Bd)
        refine ⟨_, _, pre0 _ (go975 _ ?_), hrun, hended, _, _, rfl, ?_, ⟨_, rfl⟩, hW, hsame.mono (by decide) (by decide)⟩
        · exact retN X972 hx (t := .boolean) Bd.returns (by simp) (hb hby at_385) hr
        · show Q0n00 Z m1 c1 m2 c2 q' fl ad kd nc h0 n0 _ T972.heap _
          rw [eh972]
          exact ⟨rfl, N972⟩
    · have go976 : own_S p e below ST T921 (mkF m 352 #[iv m1, iv c1, iv m2, iv c2, iv q', iv fl, iv a1, iv k1, iv a2, iv k2, iv qm, iv qk, iv (0 : Int32), iv (0 : Int32), rv b854, rv b861, rv b873, iv (1 : Int32), rv nc, rv nc, iv same, .unset] []) := fun tt kt => go960 tt (by
          refine XS.icmpYes X921.here hx rfl (pc0 := 335) (pc' := 352) rfl (hb hby at_335) rfl (feq hz335).2 (by decide) (by decide) ?_
          exact kt)
      obtain ⟨T977, X977, e977, st977⟩ := getS2 X921 hx hZ hown (host := "") (Or.inl (W 151 rfl)) Via.refl eh921 (SN.ext Or907.2) (g := (mkF m 352 #[iv m1, iv c1, iv m2, iv c2, iv q', iv fl, iv a1, iv k1, iv a2, iv k2, iv qm, iv qk, iv (0 : Int32), iv (0 : Int32), rv b854, rv b861, rv b873, iv (1 : Int32), rv nc, rv nc, iv same, .unset] [])) rfl (hb hby at_352)
      have go978 : own_S p e below ST T977 (mkF m 355 #[iv m1, iv c1, iv m2, iv c2, iv q', iv fl, iv a1, iv k1, iv a2, iv k2, iv qm, iv qk, iv (0 : Int32), iv (0 : Int32), rv b854, rv b861, rv b873, iv (1 : Int32), rv nc, rv nc, iv same, .unset] [(.ref nc)]) := fun tt kt => go976 tt (st977 _ kt)
      have go979 : own_S p e below ST T977 (mkF m 368 #[iv m1, iv c1, iv m2, iv c2, iv q', iv fl, iv a1, iv k1, iv a2, iv k2, iv qm, iv qk, iv (0 : Int32), iv (0 : Int32), rv b854, rv b861, rv b873, iv (1 : Int32), rv nc, rv nc, iv same, rv nc] [(.int qk), (.int qm), (.ref b873)]) := fun tt kt => go978 tt (by
          refine XS.astore X977.here hx rfl (hb hby at_355) rfl rfl (l' := #[iv m1, iv c1, iv m2, iv c2, iv q', iv fl, iv a1, iv k1, iv a2, iv k2, iv qm, iv qk, iv (0 : Int32), iv (0 : Int32), rv b854, rv b861, rv b873, iv (1 : Int32), rv nc, rv nc, iv same, rv nc]) rfl ?_
          refine XS.iload X977.here hx rfl (hb hby at_357) rfl ?_
          refine XS.ifNo X977.here hx rfl (hb hby at_359) rfl ((if0 _ _).trans (feq (by decide : ¬ ((1 : Int32) = (0 : Int32)))).1) ?_
          refine XS.aload X977.here hx rfl (hb hby at_362) rfl rfl ?_
          refine XS.iload X977.here hx rfl (hb hby at_364) rfl ?_
          refine XS.iload X977.here hx rfl (hb hby at_366) rfl ?_
          exact kt)
      obtain ⟨cq980, kq980, q980a, q980b, q980c⟩ := isOf hZ e977 Eg907
      obtain ⟨_, _, ⟨T980, L980, k980, n980⟩, -, X980, ⟨Lc980, hQ980, l980, y980, z980⟩, st980⟩ := X977.virtualBack hx (y := (⟨"com/example/brancher/brancher/service/Group", "choices", "(II)Ljava/util/BitSet;"⟩ : MethodName)) (z := (⟨"com/example/brancher/brancher/service/Group", "choices", "(II)Ljava/util/BitSet;"⟩ : MethodName)) hown (mvT hZ (W 144 rfl)) (mvT hZ (W 145 rfl)) (notFace_of_selects (args := #[]) (mvT hZ (W 147 rfl))) (mvT hZ (W 147 rfl)) (mvT hZ (W 146 rfl)) (by decide) (backOf (W := 0) (rmCH l Z a0 hw [] b873 qm qk M0_2 M1_2 nc T907.heap n0 zs918 GRr907 bqm bqk SN Or907) hZ (W 148 rfl) (W 47 rfl) (by decide) (by decide)) q980a q980c (g := (mkF m 368 #[iv m1, iv c1, iv m2, iv c2, iv q', iv fl, iv a1, iv k1, iv a2, iv k2, iv qm, iv qk, iv (0 : Int32), iv (0 : Int32), rv b854, rv b861, rv b873, iv (1 : Int32), rv nc, rv nc, iv same, rv nc] [(.int qk), (.int qm), (.ref b873)])) rfl (by rw [hml]; rfl) (Steps.refl _) (argsL := [(.int qm), (.int qk)]) (rest := []) (lenOf pd296 rfl) rfl (by show 2 * 0 + _ ≤ _; exact Nat.le_of_eq rfl) (hb hby at_368) (fun _ _ => ⟨rfl, e977, (by decide : 25 + 0 ≤ _), (by decide : 79 + 0 ≤ _)⟩)
      dsimp only [Pt.U, Pt.locs, Pt.cells, Pt.slots] at X980 l980 y980 z980 st980 hQ980
      subst l980 y980 z980
      obtain ⟨rfl, Nq980, eh980⟩ := hQ980
      have N980 := Fr.app N921 Nq980
      have go981 : own_S p e below ST T980 (mkF m 371 #[iv m1, iv c1, iv m2, iv c2, iv q', iv fl, iv a1, iv k1, iv a2, iv k2, iv qm, iv qk, iv (0 : Int32), iv (0 : Int32), rv b854, rv b861, rv b873, iv (1 : Int32), rv nc, rv nc, iv same, rv nc] [(own_or nc ((if qm = 0 then M0_2 else M1_2).getD (qk).toNatClampNeg .null))]) := fun tt kt => go979 tt (st980.trans kt)
      have go982 : own_S p e below ST T980 (mkF m 373 #[iv m1, iv c1, iv m2, iv c2, iv q', iv fl, iv a1, iv k1, iv a2, iv k2, iv qm, iv qk, iv (0 : Int32), iv (0 : Int32), rv b854, rv b861, rv b873, iv (1 : Int32), rv nc, rv nc, iv same, rv nc] [(.ref nc), (own_or nc ((if qm = 0 then M0_2 else M1_2).getD (qk).toNatClampNeg .null))]) := fun tt kt => go981 tt (by
          refine XS.aload X980.here hx rfl (hb hby at_371) rfl rfl ?_
          exact kt)
      have e_5 : own_or nc ((if qm = 0 then M0_2 else M1_2).getD (qk).toNatClampNeg .null) = .ref nc := own_orn nc ((s_2 qm qk bqm bqk).trans ((if_neg fun q => hz314 q.1).trans (if_neg fun q => hz335 q.1)))
      obtain ⟨vo5, hvo5⟩ : ∃ z : Value, z = (own_or nc ((if qm = 0 then M0_2 else M1_2).getD (qk).toNatClampNeg .null)) := ⟨_, rfl⟩
      rw [← hvo5] at go982
      replace e_5 := hvo5.trans e_5
      have go983 : own_S p e below ST T980 (mkF m 385 #[iv m1, iv c1, iv m2, iv c2, iv q', iv fl, iv a1, iv k1, iv a2, iv k2, iv qm, iv qk, iv (0 : Int32), iv (0 : Int32), rv b854, rv b861, rv b873, iv (1 : Int32), rv nc, rv nc, iv same, rv nc] [(.int (1 : Int32))]) := fun tt kt => go982 tt (by
          refine Jvm.RoadKit.acmp (g := (mkF m 373 #[iv m1, iv c1, iv m2, iv c2, iv q', iv fl, iv a1, iv k1, iv a2, iv k2, iv qm, iv qk, iv (0 : Int32), iv (0 : Int32), rv b854, rv b861, rv b873, iv (1 : Int32), rv nc, rv nc, iv same, rv nc] [(.ref nc), vo5])) X980 hx rfl (by rw [e_5]; rfl) rfl (pc0 := 373) (pc' := 376) (same := true) rfl (hb hby at_373) rfl (decide_eq_true e_5) (by decide) (by decide) ?_
          refine XS.iconst X980.here hx rfl (hb hby at_376) ?_
          refine XS.goto X980.here hx rfl (pc0 := 377) (pc' := 381) rfl (hb hby at_377) (by decide) (by decide) ?_
          refine XS.istore X980.here hx rfl (hb hby at_381) rfl (l' := #[iv m1, iv c1, iv m2, iv c2, iv q', iv fl, iv a1, iv k1, iv a2, iv k2, iv qm, iv qk, iv (0 : Int32), iv (0 : Int32), rv b854, rv b861, rv b873, iv (1 : Int32), rv nc, rv nc, iv same, rv nc]) rfl ?_
          refine XS.iload X980.here hx rfl (hb hby at_383) rfl ?_
          exact kt)
      obtain ⟨fs, hr, hrun, hended, hW, hsame⟩ := X980.leave (v := some (.int (1 : Int32))) (fun h => by rw [Bd.returns] at h; cases h) (hlocks := by first | exact BodyLoose.notSynchronized Bd | exact Body.notSynchronized Bd)
      refine ⟨_, _, pre0 _ (go983 _ ?_), hrun, hended, _, _, rfl, ?_, ⟨_, rfl⟩, hW, hsame.mono (by decide) (by decide)⟩
      · exact retN X980 hx (t := .boolean) Bd.returns (by simp) (hb hby at_385) hr
      · show Q0n00 Z m1 c1 m2 c2 q' fl ad kd nc h0 n0 _ T980.heap _
        rw [eh980]
        exact ⟨rfl, N980⟩
theorem ef0n01 (m : MethodId) (x0 : Int32) (x1 : Int32) (x2 : Int32) (x3 : Int32) (x4 : Int32) (x5 : Int32) : entryFrame m #[(.int x0), (.int x1), (.int x2), (.int x3), (.int x4), (.int x5)] maxLocals = mkF m 0 #[.val (.int x0), .val (.int x1), .val (.int x2), .val (.int x3), .val (.int x4), .val (.int x5), .unset, .unset, .unset, .unset, .unset, .unset, .unset, .unset, .unset, .unset, .unset, .unset, .unset, .unset, .unset, .unset] [] := by first | (simp [entryFrame, mkF, argsToLocals, Value.category, maxLocals]; done) | rfl
def Q0n01 (Z : State) (m1 : Int32) (c1 : Int32) (m2 : Int32) (c2 : Int32) (q' : Int32) (fl : Int32) (ad : Addr) (kd : ClassId) (nc : Addr) (h0 : Heap) (n0 : Nat) (v : Option Value) (h : Heap) (L : List Loc) : Prop := v = some (.int 1) ∧ Fr n0 L
set_option maxRecDepth 65536 in
set_option maxHeartbeats 40000000 in
theorem rm0n01 (l : Launch) (Z : State) (a0 : Array Value) (hw : ∀ d ∈ tables_1, d.before a0 Z = true) (ws : List Jvm.Cond) (m1 : Int32) (c1 : Int32) (m2 : Int32) (c2 : Int32) (q' : Int32) (fl : Int32) (ad : Addr) (kd : ClassId) (nc : Addr) (h0 : Heap) (n0 : Nat) (Z0 : n0 ≤ h0.size) (SD : Sta Z Z.heap "java/util/ArrayList" "DEFAULTCAPACITY_EMPTY_ELEMENTDATA" "[Ljava/lang/Object;" (.ref ad)) (VD : Arv Z Z.heap ad kd (.object "java/lang/Object") (0 : Int32) [] .null) (SB : Sta Z Z.heap "java/util/BitSet" "$assertionsDisabled" "Z" (.int (1 : Int32))) (SN : Sta Z Z.heap "com/example/brancher/brancher/service/Group" "NO_CHOICES" "Ljava/util/BitSet;" (.ref nc)) (OL : Old Z n0 h0) (hb1 : (fl &&& (1 : Int32) = (0 : Int32))) (hb2 : ¬ (fl &&& (2 : Int32) = (0 : Int32))) :
    MetFree l x (head1 (Jvm.Cond.code x code maxLocals ret :: ws) room_1) (fun aa UU => aa = #[(.int m1), (.int c1), (.int m2), (.int c2), (.int q'), (.int fl)] ∧ Z.Warmed39 UU.vm ∧ UU.heap = h0) (fun _ _ _ _ _ => True) (fun _ UU oo UU' => ∃ vv LL, oo = .returned vv ∧ Q0n01 Z m1 c1 m2 c2 q' fl ad kd nc h0 n0 vv UU'.heap LL ∧ FrameEnd UU oo UU' LL room_1.cells room_1.slots) := by
  have W : ∀ {d : Jvm.Cond} (i : Nat), tables_1[i]? = some d → d.before a0 Z = true := fun i h => hw _ (List.mem_of_getElem? h)
  refine MetFree.of_bodySF (plainFor_of_name pn295) hisR ?_
  intro p e s m args below meth c s₁ Bd hml0 hP hK
  obtain ⟨rfl, hZ, hh⟩ := hP
  have hx := Bd.exec
  have hby := Bd.bytes
  have hml : c.maxLocals = 22 := hml0
  have hown : s.vm.findClass "com/example/brancher/brancher/service/GroupChoicesPinLaw" = some m.cls := findClass_of_methodNamed Bd.named
  have hnm := (name_of_methodNamed Bd.named Bd.method).1
  have X0 : Stand p l e room_1 s m #[(.int m1), (.int c1), (.int m2), (.int c2), (.int q'), (.int fl)] below meth c s₁ [] 0 0 := Stand.of_body Bd
  have e0 : s₁.heap = h0 := by rw [← hh, Bd.state]; rfl
  have N0 := Fr.nil n0
  have pre0 : ∀ tt, Steps p.tables e below (s₁.setTop (mkF m 0 #[iv m1, iv c1, iv m2, iv c2, iv q', iv fl, .unset, .unset, .unset, .unset, .unset, .unset, .unset, .unset, .unset, .unset, .unset, .unset, .unset, .unset, .unset, .unset] [])) tt → Steps p.tables e below (s₁.setTop (entryFrame m #[(.int m1), (.int c1), (.int m2), (.int c2), (.int q'), (.int fl)] maxLocals)) tt := fun tt kt => castTop (ef0n01 m m1 c1 m2 c2 q' fl) kt
  obtain ⟨ST, hST⟩ : ∃ z : State, z = s₁.setTop (mkF m 0 #[iv m1, iv c1, iv m2, iv c2, iv q', iv fl, .unset, .unset, .unset, .unset, .unset, .unset, .unset, .unset, .unset, .unset, .unset, .unset, .unset, .unset, .unset, .unset] []) := ⟨_, rfl⟩
  rw [← hST] at pre0
  have go984 : own_S p e below ST s₁ (mkF m 3 #[iv m1, iv c1, iv m2, iv c2, iv q', iv fl, .unset, .unset, .unset, .unset, .unset, .unset, .unset, .unset, .unset, .unset, .unset, .unset, .unset, .unset, .unset, .unset] [(.int (m1 &&& (1 : Int32)))]) := fun tt kt => (by
      rw [hST]
      show Steps p.tables e below (s₁.setTop (mkF m 0 #[iv m1, iv c1, iv m2, iv c2, iv q', iv fl, .unset, .unset, .unset, .unset, .unset, .unset, .unset, .unset, .unset, .unset, .unset, .unset, .unset, .unset, .unset, .unset] [])) _
      refine XS.iloadN X0.here hx rfl (hb hby at_0) rfl ?_
      refine XS.iconst X0.here hx rfl (hb hby at_1) ?_
      refine XS.iand X0.here hx rfl (hb hby at_2) rfl ?_
      exact kt)
  obtain ⟨a1, ha1⟩ : ∃ z : Int32, z = (m1 &&& (1 : Int32)) := ⟨_, rfl⟩
  rw [← ha1] at go984
  have ba1 := own_01 _ a1 ha1
  have go985 : own_S p e below ST s₁ (mkF m 8 #[iv m1, iv c1, iv m2, iv c2, iv q', iv fl, iv a1, .unset, .unset, .unset, .unset, .unset, .unset, .unset, .unset, .unset, .unset, .unset, .unset, .unset, .unset, .unset] [(.int (c1 &&& (3 : Int32)))]) := fun tt kt => go984 tt (by
      refine XS.istore X0.here hx rfl (hb hby at_3) rfl (l' := #[iv m1, iv c1, iv m2, iv c2, iv q', iv fl, iv a1, .unset, .unset, .unset, .unset, .unset, .unset, .unset, .unset, .unset, .unset, .unset, .unset, .unset, .unset, .unset]) rfl ?_
      refine XS.iloadN X0.here hx rfl (hb hby at_5) rfl ?_
      refine XS.iconst X0.here hx rfl (hb hby at_6) ?_
      refine XS.iand X0.here hx rfl (hb hby at_7) rfl ?_
      exact kt)
  obtain ⟨k1, hk1⟩ : ∃ z : Int32, z = (c1 &&& (3 : Int32)) := ⟨_, rfl⟩
  rw [← hk1] at go985
  have bk1 := own_03 _ k1 hk1
  have go986 : own_S p e below ST s₁ (mkF m 13 #[iv m1, iv c1, iv m2, iv c2, iv q', iv fl, iv a1, iv k1, .unset, .unset, .unset, .unset, .unset, .unset, .unset, .unset, .unset, .unset, .unset, .unset, .unset, .unset] [(.int (m2 &&& (1 : Int32)))]) := fun tt kt => go985 tt (by
      refine XS.istore X0.here hx rfl (hb hby at_8) rfl (l' := #[iv m1, iv c1, iv m2, iv c2, iv q', iv fl, iv a1, iv k1, .unset, .unset, .unset, .unset, .unset, .unset, .unset, .unset, .unset, .unset, .unset, .unset, .unset, .unset]) rfl ?_
      refine XS.iloadN X0.here hx rfl (hb hby at_10) rfl ?_
      refine XS.iconst X0.here hx rfl (hb hby at_11) ?_
      refine XS.iand X0.here hx rfl (hb hby at_12) rfl ?_
      exact kt)
  obtain ⟨a2, ha2⟩ : ∃ z : Int32, z = (m2 &&& (1 : Int32)) := ⟨_, rfl⟩
  rw [← ha2] at go986
  have ba2 := own_01 _ a2 ha2
  have go987 : own_S p e below ST s₁ (mkF m 18 #[iv m1, iv c1, iv m2, iv c2, iv q', iv fl, iv a1, iv k1, iv a2, .unset, .unset, .unset, .unset, .unset, .unset, .unset, .unset, .unset, .unset, .unset, .unset, .unset] [(.int (c2 &&& (3 : Int32)))]) := fun tt kt => go986 tt (by
      refine XS.istore X0.here hx rfl (hb hby at_13) rfl (l' := #[iv m1, iv c1, iv m2, iv c2, iv q', iv fl, iv a1, iv k1, iv a2, .unset, .unset, .unset, .unset, .unset, .unset, .unset, .unset, .unset, .unset, .unset, .unset, .unset]) rfl ?_
      refine XS.iloadN X0.here hx rfl (hb hby at_15) rfl ?_
      refine XS.iconst X0.here hx rfl (hb hby at_16) ?_
      refine XS.iand X0.here hx rfl (hb hby at_17) rfl ?_
      exact kt)
  obtain ⟨k2, hk2⟩ : ∃ z : Int32, z = (c2 &&& (3 : Int32)) := ⟨_, rfl⟩
  rw [← hk2] at go987
  have bk2 := own_03 _ k2 hk2
  have go988 : own_S p e below ST s₁ (mkF m 24 #[iv m1, iv c1, iv m2, iv c2, iv q', iv fl, iv a1, iv k1, iv a2, iv k2, .unset, .unset, .unset, .unset, .unset, .unset, .unset, .unset, .unset, .unset, .unset, .unset] [(.int (q' &&& (1 : Int32)))]) := fun tt kt => go987 tt (by
      refine XS.istore X0.here hx rfl (hb hby at_18) rfl (l' := #[iv m1, iv c1, iv m2, iv c2, iv q', iv fl, iv a1, iv k1, iv a2, iv k2, .unset, .unset, .unset, .unset, .unset, .unset, .unset, .unset, .unset, .unset, .unset, .unset]) rfl ?_
      refine XS.iload X0.here hx rfl (hb hby at_20) rfl ?_
      refine XS.iconst X0.here hx rfl (hb hby at_22) ?_
      refine XS.iand X0.here hx rfl (hb hby at_23) rfl ?_
      exact kt)
  obtain ⟨qm, hqm⟩ : ∃ z : Int32, z = (q' &&& (1 : Int32)) := ⟨_, rfl⟩
  rw [← hqm] at go988
  have bqm := own_01 _ qm hqm
  have go989 : own_S p e below ST s₁ (mkF m 32 #[iv m1, iv c1, iv m2, iv c2, iv q', iv fl, iv a1, iv k1, iv a2, iv k2, iv qm, .unset, .unset, .unset, .unset, .unset, .unset, .unset, .unset, .unset, .unset, .unset] [(.int (((q'.toUInt32 >>> ((1 : Int32) &&& 31).toUInt32).toInt32) &&& (3 : Int32)))]) := fun tt kt => go988 tt (by
      refine XS.istore X0.here hx rfl (hb hby at_24) rfl (l' := #[iv m1, iv c1, iv m2, iv c2, iv q', iv fl, iv a1, iv k1, iv a2, iv k2, iv qm, .unset, .unset, .unset, .unset, .unset, .unset, .unset, .unset, .unset, .unset, .unset]) rfl ?_
      refine XS.iload X0.here hx rfl (hb hby at_26) rfl ?_
      refine XS.iconst X0.here hx rfl (hb hby at_28) ?_
      refine XS.iushr X0.here hx rfl (hb hby at_29) rfl ?_
      refine XS.iconst X0.here hx rfl (hb hby at_30) ?_
      refine XS.iand X0.here hx rfl (hb hby at_31) rfl ?_
      exact kt)
  obtain ⟨qk, hqk⟩ : ∃ z : Int32, z = (((q'.toUInt32 >>> ((1 : Int32) &&& 31).toUInt32).toInt32) &&& (3 : Int32)) := ⟨_, rfl⟩
  rw [← hqk] at go989
  have bqk := own_03 _ qk hqk
  have go990 : own_S p e below ST s₁ (mkF m 62 #[iv m1, iv c1, iv m2, iv c2, iv q', iv fl, iv a1, iv k1, iv a2, iv k2, iv qm, iv qk, iv (0 : Int32), iv (1 : Int32), .unset, .unset, .unset, .unset, .unset, .unset, .unset, .unset] []) := fun tt kt => go989 tt (by
      refine XS.istore X0.here hx rfl (hb hby at_32) rfl (l' := #[iv m1, iv c1, iv m2, iv c2, iv q', iv fl, iv a1, iv k1, iv a2, iv k2, iv qm, iv qk, .unset, .unset, .unset, .unset, .unset, .unset, .unset, .unset, .unset, .unset]) rfl ?_
      refine XS.iload X0.here hx rfl (hb hby at_34) rfl ?_
      refine XS.iconst X0.here hx rfl (hb hby at_36) ?_
      refine XS.iand X0.here hx rfl (hb hby at_37) rfl ?_
      refine XS.ifYes X0.here hx rfl (pc0 := 38) (pc' := 45) rfl (hb hby at_38) rfl ((if0 _ _).trans (teq hb1).1) (by decide) (by decide) ?_
      refine XS.iconst X0.here hx rfl (hb hby at_45) ?_
      show Steps p.tables e below (s₁.setTop (mkF m 46 #[iv m1, iv c1, iv m2, iv c2, iv q', iv fl, iv a1, iv k1, iv a2, iv k2, iv qm, iv qk, .unset, .unset, .unset, .unset, .unset, .unset, .unset, .unset, .unset, .unset] [(.int (0 : Int32))])) _
      refine XS.istore X0.here hx rfl (hb hby at_46) rfl (l' := #[iv m1, iv c1, iv m2, iv c2, iv q', iv fl, iv a1, iv k1, iv a2, iv k2, iv qm, iv qk, iv (0 : Int32), .unset, .unset, .unset, .unset, .unset, .unset, .unset, .unset, .unset]) rfl ?_
      refine XS.iload X0.here hx rfl (hb hby at_48) rfl ?_
      refine XS.iconst X0.here hx rfl (hb hby at_50) ?_
      refine XS.iand X0.here hx rfl (hb hby at_51) rfl ?_
      refine XS.ifNo X0.here hx rfl (hb hby at_52) rfl ((if0 _ _).trans (feq hb2).1) ?_
      refine XS.iconst X0.here hx rfl (hb hby at_55) ?_
      show Steps p.tables e below (s₁.setTop (mkF m 56 #[iv m1, iv c1, iv m2, iv c2, iv q', iv fl, iv a1, iv k1, iv a2, iv k2, iv qm, iv qk, iv (0 : Int32), .unset, .unset, .unset, .unset, .unset, .unset, .unset, .unset, .unset] [(.int (1 : Int32))])) _
      refine XS.goto X0.here hx rfl (pc0 := 56) (pc' := 60) rfl (hb hby at_56) (by decide) (by decide) ?_
      refine XS.istore X0.here hx rfl (hb hby at_60) rfl (l' := #[iv m1, iv c1, iv m2, iv c2, iv q', iv fl, iv a1, iv k1, iv a2, iv k2, iv qm, iv qk, iv (0 : Int32), iv (1 : Int32), .unset, .unset, .unset, .unset, .unset, .unset, .unset, .unset]) rfl ?_
      exact kt)
  obtain ⟨b991, g991⟩ : ∃ z, z = h0.size := ⟨_, rfl⟩
  obtain ⟨T991, h991, X991, e991, E991, A991, D991, -, st991⟩ := newO X0 hx hZ hown (W 0 rfl) (W 1 rfl) (W 2 rfl) e0 (g := (mkF m 62 #[iv m1, iv c1, iv m2, iv c2, iv q', iv fl, iv a1, iv k1, iv a2, iv k2, iv qm, iv qk, iv (0 : Int32), iv (1 : Int32), .unset, .unset, .unset, .unset, .unset, .unset, .unset, .unset] [])) rfl (hb hby at_62) (by decide) (by decide)
  rw [← g991] at A991 D991 st991
  have ge_b991 : n0 ≤ b991 := Nat.le_trans Z0 (Nat.le_of_eq g991.symm)
  have F991_wordsInUse : Fld Z h991 b991 "java/util/BitSet" "wordsInUse" "I" (.int (0 : Int32)) := D991 (Or.inl (W 10 rfl)) (ty := .int) (by decide)
  have F991_sizeIsSticky : Fld Z h991 b991 "java/util/BitSet" "sizeIsSticky" "Z" (.int (0 : Int32)) := D991 (Or.inl (W 12 rfl)) (ty := .boolean) (by decide)
  have F991_words : Fld Z h991 b991 "java/util/BitSet" "words" "[J" .null := D991 (Or.inl (W 23 rfl)) (ty := (.array .long)) (by decide)
  have go992 : own_S p e below ST T991 (mkF m 65 #[iv m1, iv c1, iv m2, iv c2, iv q', iv fl, iv a1, iv k1, iv a2, iv k2, iv qm, iv qk, iv (0 : Int32), iv (1 : Int32), .unset, .unset, .unset, .unset, .unset, .unset, .unset, .unset] [(.ref b991)]) := fun tt kt => go990 tt (st991 _ kt)
  have go993 : own_S p e below ST T991 (mkF m 66 #[iv m1, iv c1, iv m2, iv c2, iv q', iv fl, iv a1, iv k1, iv a2, iv k2, iv qm, iv qk, iv (0 : Int32), iv (1 : Int32), .unset, .unset, .unset, .unset, .unset, .unset, .unset, .unset] [(.ref b991), (.ref b991)]) := fun tt kt => go992 tt (by
      refine XS.dup X991.here hx rfl (hb hby at_65) rfl rfl ?_
      exact kt)
  have zs995 := (Nat.le_trans Z0 E991.1)
  obtain ⟨_, _, ⟨T994, L994, k994, n994⟩, -, X994, ⟨Lc994, hQ994, l994, y994, z994⟩, st994⟩ := X991.specialBack hx (y := (⟨"java/util/BitSet", "<init>", "()V"⟩ : MethodName)) rfl hown (mvT hZ (W 3 rfl)) (mvT hZ (W 4 rfl)) (mvT hZ (W 5 rfl)) (by decide) (backOf (W := 1) (rm1 l Z a0 hw [] b991 h991 n0 zs995 F991_wordsInUse F991_sizeIsSticky F991_words A991 ge_b991) hZ (W 5 rfl) (W 2 rfl) (by decide) (by decide)) (g := (mkF m 66 #[iv m1, iv c1, iv m2, iv c2, iv q', iv fl, iv a1, iv k1, iv a2, iv k2, iv qm, iv qk, iv (0 : Int32), iv (1 : Int32), .unset, .unset, .unset, .unset, .unset, .unset, .unset, .unset] [(.ref b991), (.ref b991)])) rfl (by rw [hml]; rfl) (Steps.refl _) (a := b991) (argsL := []) (rest := [(.ref b991)]) (lenOf pd7 rfl) rfl (by show 2 * 0 + _ ≤ _; exact Nat.le_of_eq rfl) (hb hby at_66) (fun _ _ => ⟨rfl, e991, (by decide : 1 + 1 ≤ _), (by decide : 3 + 1 ≤ _)⟩)
  dsimp only [Pt.U, Pt.locs, Pt.cells, Pt.slots] at X994 l994 y994 z994 st994 hQ994
  subst l994 y994 z994
  obtain ⟨b994, kb994, rfl, Nq994, K994, Fa994, Fb994, Fc994, Vb994, gb994, zb994, nb994⟩ := hQ994
  have N994 := Fr.app N0 Nq994
  have go996 : own_S p e below ST T994 (mkF m 69 #[iv m1, iv c1, iv m2, iv c2, iv q', iv fl, iv a1, iv k1, iv a2, iv k2, iv qm, iv qk, iv (0 : Int32), iv (1 : Int32), .unset, .unset, .unset, .unset, .unset, .unset, .unset, .unset] [(.ref b991)]) := fun tt kt => go993 tt (st994.trans kt)
  have go997 : own_S p e below ST T994 (mkF m 71 #[iv m1, iv c1, iv m2, iv c2, iv q', iv fl, iv a1, iv k1, iv a2, iv k2, iv qm, iv qk, iv (0 : Int32), iv (1 : Int32), rv b991, .unset, .unset, .unset, .unset, .unset, .unset, .unset] []) := fun tt kt => go996 tt (by
      refine XS.astore X994.here hx rfl (hb hby at_69) rfl rfl (l' := #[iv m1, iv c1, iv m2, iv c2, iv q', iv fl, iv a1, iv k1, iv a2, iv k2, iv qm, iv qk, iv (0 : Int32), iv (1 : Int32), rv b991, .unset, .unset, .unset, .unset, .unset, .unset, .unset]) rfl ?_
      exact kt)
  have f999 := (A991.keep K994)
  have zs1000 := (Nat.le_trans zs995 K994.1)
  obtain ⟨b998, g998⟩ : ∃ z, z = T994.heap.size := ⟨_, rfl⟩
  obtain ⟨T998, h998, X998, e998, E998, A998, D998, -, st998⟩ := newO X994 hx hZ hown (W 0 rfl) (W 1 rfl) (W 2 rfl) rfl (g := (mkF m 71 #[iv m1, iv c1, iv m2, iv c2, iv q', iv fl, iv a1, iv k1, iv a2, iv k2, iv qm, iv qk, iv (0 : Int32), iv (1 : Int32), rv b991, .unset, .unset, .unset, .unset, .unset, .unset, .unset] [])) rfl (hb hby at_71) (by decide) (by decide)
  rw [← g998] at A998 D998 st998
  have neb991_b998 : b991 ≠ b998 := Nat.ne_of_lt (Nat.lt_of_lt_of_le f999.lt (Nat.le_of_eq g998.symm))
  have neb994_b998 : b994 ≠ b998 := Nat.ne_of_lt (Nat.lt_of_lt_of_le Vb994.lt (Nat.le_of_eq g998.symm))
  have ge_b998 : n0 ≤ b998 := Nat.le_trans zs1000 (Nat.le_of_eq g998.symm)
  have F998_wordsInUse : Fld Z h998 b998 "java/util/BitSet" "wordsInUse" "I" (.int (0 : Int32)) := D998 (Or.inl (W 10 rfl)) (ty := .int) (by decide)
  have F998_sizeIsSticky : Fld Z h998 b998 "java/util/BitSet" "sizeIsSticky" "Z" (.int (0 : Int32)) := D998 (Or.inl (W 12 rfl)) (ty := .boolean) (by decide)
  have F998_words : Fld Z h998 b998 "java/util/BitSet" "words" "[J" .null := D998 (Or.inl (W 23 rfl)) (ty := (.array .long)) (by decide)
  have go1001 : own_S p e below ST T998 (mkF m 74 #[iv m1, iv c1, iv m2, iv c2, iv q', iv fl, iv a1, iv k1, iv a2, iv k2, iv qm, iv qk, iv (0 : Int32), iv (1 : Int32), rv b991, .unset, .unset, .unset, .unset, .unset, .unset, .unset] [(.ref b998)]) := fun tt kt => go997 tt (st998 _ kt)
  have go1002 : own_S p e below ST T998 (mkF m 75 #[iv m1, iv c1, iv m2, iv c2, iv q', iv fl, iv a1, iv k1, iv a2, iv k2, iv qm, iv qk, iv (0 : Int32), iv (1 : Int32), rv b991, .unset, .unset, .unset, .unset, .unset, .unset, .unset] [(.ref b998), (.ref b998)]) := fun tt kt => go1001 tt (by
      refine XS.dup X998.here hx rfl (hb hby at_74) rfl rfl ?_
      exact kt)
  have f1003 := (f999.ext E998)
  have f1004 := (Vb994.ext E998)
  have zs1006 := (Nat.le_trans zs1000 E998.1)
  obtain ⟨_, _, ⟨T1005, L1005, k1005, n1005⟩, -, X1005, ⟨Lc1005, hQ1005, l1005, y1005, z1005⟩, st1005⟩ := X998.specialBack hx (y := (⟨"java/util/BitSet", "<init>", "()V"⟩ : MethodName)) rfl hown (mvT hZ (W 3 rfl)) (mvT hZ (W 4 rfl)) (mvT hZ (W 5 rfl)) (by decide) (backOf (W := 1) (rm1 l Z a0 hw [] b998 h998 n0 zs1006 F998_wordsInUse F998_sizeIsSticky F998_words A998 ge_b998) hZ (W 5 rfl) (W 2 rfl) (by decide) (by decide)) (g := (mkF m 75 #[iv m1, iv c1, iv m2, iv c2, iv q', iv fl, iv a1, iv k1, iv a2, iv k2, iv qm, iv qk, iv (0 : Int32), iv (1 : Int32), rv b991, .unset, .unset, .unset, .unset, .unset, .unset, .unset] [(.ref b998), (.ref b998)])) rfl (by rw [hml]; rfl) (Steps.refl _) (a := b998) (argsL := []) (rest := [(.ref b998)]) (lenOf pd7 rfl) rfl (by show 2 * 0 + _ ≤ _; exact Nat.le_of_eq rfl) (hb hby at_75) (fun _ _ => ⟨rfl, e998, (by decide : 3 + 1 ≤ _), (by decide : 7 + 1 ≤ _)⟩)
  dsimp only [Pt.U, Pt.locs, Pt.cells, Pt.slots] at X1005 l1005 y1005 z1005 st1005 hQ1005
  subst l1005 y1005 z1005
  obtain ⟨b1005, kb1005, rfl, Nq1005, K1005, Fa1005, Fb1005, Fc1005, Vb1005, gb1005, zb1005, nb1005⟩ := hQ1005
  have N1005 := Fr.app N994 Nq1005
  have go1007 : own_S p e below ST T1005 (mkF m 78 #[iv m1, iv c1, iv m2, iv c2, iv q', iv fl, iv a1, iv k1, iv a2, iv k2, iv qm, iv qk, iv (0 : Int32), iv (1 : Int32), rv b991, .unset, .unset, .unset, .unset, .unset, .unset, .unset] [(.ref b998)]) := fun tt kt => go1002 tt (st1005.trans kt)
  have neb991_b1005 : b991 ≠ b1005 := Nat.ne_of_lt (Nat.lt_of_lt_of_le f1003.lt zb1005)
  have neb994_b1005 : b994 ≠ b1005 := Nat.ne_of_lt (Nat.lt_of_lt_of_le f1004.lt zb1005)
  have go1008 : own_S p e below ST T1005 (mkF m 97 #[iv m1, iv c1, iv m2, iv c2, iv q', iv fl, iv a1, iv k1, iv a2, iv k2, iv qm, iv qk, iv (0 : Int32), iv (1 : Int32), rv b991, rv b998, .unset, .unset, .unset, .unset, .unset, .unset] []) := fun tt kt => go1007 tt (by
      refine XS.astore X1005.here hx rfl (hb hby at_78) rfl rfl (l' := #[iv m1, iv c1, iv m2, iv c2, iv q', iv fl, iv a1, iv k1, iv a2, iv k2, iv qm, iv qk, iv (0 : Int32), iv (1 : Int32), rv b991, rv b998, .unset, .unset, .unset, .unset, .unset, .unset]) rfl ?_
      refine XS.iload X1005.here hx rfl (hb hby at_80) rfl ?_
      refine XS.ifYes X1005.here hx rfl (pc0 := 82) (pc' := 97) rfl (hb hby at_82) rfl ((if0 _ _).trans (teq (by decide : (0 : Int32) = (0 : Int32))).1) (by decide) (by decide) ?_
      exact kt)
  have go1009 : own_S p e below ST T1005 (mkF m 112 #[iv m1, iv c1, iv m2, iv c2, iv q', iv fl, iv a1, iv k1, iv a2, iv k2, iv qm, iv qk, iv (0 : Int32), iv (1 : Int32), rv b991, rv b998, .unset, .unset, .unset, .unset, .unset, .unset] [(.int (((fl.toUInt32 >>> ((8 : Int32) &&& 31).toUInt32).toInt32) &&& (63 : Int32))), (.ref b998)]) := fun tt kt => go1008 tt (by
      refine XS.iload X1005.here hx rfl (hb hby at_97) rfl ?_
      refine XS.ifNo X1005.here hx rfl (hb hby at_99) rfl ((if0 _ _).trans (feq (by decide : ¬ ((1 : Int32) = (0 : Int32)))).1) ?_
      refine XS.aload X1005.here hx rfl (hb hby at_102) rfl rfl ?_
      refine XS.iload X1005.here hx rfl (hb hby at_104) rfl ?_
      refine XS.bipush X1005.here hx rfl (hb hby at_106) ?_
      refine XS.iushr X1005.here hx rfl (hb hby at_108) rfl ?_
      show Steps p.tables e below (T1005.setTop (mkF m 109 #[iv m1, iv c1, iv m2, iv c2, iv q', iv fl, iv a1, iv k1, iv a2, iv k2, iv qm, iv qk, iv (0 : Int32), iv (1 : Int32), rv b991, rv b998, .unset, .unset, .unset, .unset, .unset, .unset] [(.int ((fl.toUInt32 >>> ((8 : Int32) &&& 31).toUInt32).toInt32)), (.ref b998)])) _
      refine XS.bipush X1005.here hx rfl (hb hby at_109) ?_
      refine XS.iand X1005.here hx rfl (hb hby at_111) rfl ?_
      exact kt)
  obtain ⟨ii1010, hii1010⟩ : ∃ z : Int32, z = (((fl.toUInt32 >>> ((8 : Int32) &&& 31).toUInt32).toInt32) &&& (63 : Int32)) := ⟨_, rfl⟩
  have bii1010 := own_63 _ ii1010 hii1010
  have f1011 := (A998.keep K1005)
  have f1012 := ((((OL.ext E991).keep K994 (allS ge_b991 all0)).ext E998).keep K1005 (allS ge_b998 all0))
  have zs1014 := (Nat.le_trans zs1006 K1005.1)
  obtain ⟨cq1013, kq1013, q1013a, q1013b, q1013c⟩ := isOf hZ rfl f1011
  obtain ⟨_, _, ⟨T1013, L1013, k1013, n1013⟩, -, X1013, ⟨Lc1013, hQ1013, l1013, y1013, z1013⟩, st1013⟩ := X1005.virtualBack hx (y := (⟨"java/util/BitSet", "set", "(I)V"⟩ : MethodName)) (z := (⟨"java/util/BitSet", "set", "(I)V"⟩ : MethodName)) hown (mvT hZ (W 24 rfl)) (mvT hZ (W 25 rfl)) (notFace_of_selects (args := #[]) (mvT hZ (W 27 rfl))) (mvT hZ (W 27 rfl)) (mvT hZ (W 26 rfl)) (by decide) (backOf (W := 0) (rm5 l Z a0 hw [] b998 b1005 kb1005 _ (((fl.toUInt32 >>> ((8 : Int32) &&& 31).toUInt32).toInt32) &&& (63 : Int32)) T1005.heap n0 zs1014 Fa1005 Fb1005 Fc1005 f1011 ge_b998 Vb1005 gb1005 nb1005 (hii1010 ▸ bii1010.1) (hii1010 ▸ bii1010.2) SB f1012) hZ (W 28 rfl) (W 2 rfl) (by decide) (by decide)) q1013a q1013c (g := (mkF m 112 #[iv m1, iv c1, iv m2, iv c2, iv q', iv fl, iv a1, iv k1, iv a2, iv k2, iv qm, iv qk, iv (0 : Int32), iv (1 : Int32), rv b991, rv b998, .unset, .unset, .unset, .unset, .unset, .unset] [(.int (((fl.toUInt32 >>> ((8 : Int32) &&& 31).toUInt32).toInt32) &&& (63 : Int32))), (.ref b998)])) rfl (by rw [hml]; rfl) (Steps.refl _) (argsL := [(.int (((fl.toUInt32 >>> ((8 : Int32) &&& 31).toUInt32).toInt32) &&& (63 : Int32)))]) (rest := []) (lenOf pd113 rfl) rfl (by show 2 * 0 + _ ≤ _; exact Nat.le_of_eq rfl) (hb hby at_112) (fun _ _ => ⟨rfl, rfl, (by decide : 4 + 0 ≤ _), (by decide : 8 + 0 ≤ _)⟩)
  dsimp only [Pt.U, Pt.locs, Pt.cells, Pt.slots] at X1013 l1013 y1013 z1013 st1013 hQ1013
  subst l1013 y1013 z1013
  obtain ⟨rfl, Nq1013, K1013, Fu1013⟩ := hQ1013
  have N1013 := Fr.app N1005 Nq1013
  have go1015 : own_S p e below ST T1013 (mkF m 115 #[iv m1, iv c1, iv m2, iv c2, iv q', iv fl, iv a1, iv k1, iv a2, iv k2, iv qm, iv qk, iv (0 : Int32), iv (1 : Int32), rv b991, rv b998, .unset, .unset, .unset, .unset, .unset, .unset] []) := fun tt kt => go1009 tt (st1013.trans kt)
  have f1017 := ((f1003.keep K1005).keep K1013)
  have f1018 := ((f1004.keep K1005 (ninS neb994_b998 nin0)).keep K1013 (ninS neb994_b998 (ninS neb994_b1005 nin0)))
  have f1019 := (f1011.keep K1013)
  have zs1020 := (Nat.le_trans zs1014 K1013.1)
  obtain ⟨b1016, g1016⟩ : ∃ z, z = T1013.heap.size := ⟨_, rfl⟩
  obtain ⟨T1016, h1016, X1016, e1016, E1016, A1016, D1016, -, st1016⟩ := newO X1013 hx hZ hown (W 45 rfl) (W 46 rfl) (W 47 rfl) rfl (g := (mkF m 115 #[iv m1, iv c1, iv m2, iv c2, iv q', iv fl, iv a1, iv k1, iv a2, iv k2, iv qm, iv qk, iv (0 : Int32), iv (1 : Int32), rv b991, rv b998, .unset, .unset, .unset, .unset, .unset, .unset] [])) rfl (hb hby at_115) (by decide) (by decide)
  rw [← g1016] at A1016 D1016 st1016
  have neb991_b1016 : b991 ≠ b1016 := Nat.ne_of_lt (Nat.lt_of_lt_of_le f1017.lt (Nat.le_of_eq g1016.symm))
  have neb994_b1016 : b994 ≠ b1016 := Nat.ne_of_lt (Nat.lt_of_lt_of_le f1018.lt (Nat.le_of_eq g1016.symm))
  have neb998_b1016 : b998 ≠ b1016 := Nat.ne_of_lt (Nat.lt_of_lt_of_le f1019.lt (Nat.le_of_eq g1016.symm))
  have ge_b1016 : n0 ≤ b1016 := Nat.le_trans zs1020 (Nat.le_of_eq g1016.symm)
  have F1016_edges : Fld Z h1016 b1016 "com/example/brancher/brancher/service/Group" "edges" "Ljava/util/List;" .null := D1016 (Or.inr (W 77 rfl)) (ty := (.object "java/util/List")) (by decide)
  have F1016_elements : Fld Z h1016 b1016 "com/example/brancher/brancher/service/Group" "elements" "[Lcom/example/brancher/brancher/service/Element;" .null := D1016 (Or.inr (W 81 rfl)) (ty := (.array (.object "com/example/brancher/brancher/service/Element"))) (by decide)
  have F1016_parent : Fld Z h1016 b1016 "com/example/brancher/brancher/service/Group" "parent" "Lcom/example/brancher/brancher/service/Group$Parent;" .null := D1016 (Or.inr (W 83 rfl)) (ty := (.object "com/example/brancher/brancher/service/Group$Parent")) (by decide)
  have F1016_level : Fld Z h1016 b1016 "com/example/brancher/brancher/service/Group" "level" "I" (.int (0 : Int32)) := D1016 (Or.inr (W 85 rfl)) (ty := .int) (by decide)
  have F1016_choices : Fld Z h1016 b1016 "com/example/brancher/brancher/service/Group" "choices" "[[Ljava/util/BitSet;" .null := D1016 (Or.inr (W 89 rfl)) (ty := (.array (.array (.object "java/util/BitSet")))) (by decide)
  have go1021 : own_S p e below ST T1016 (mkF m 118 #[iv m1, iv c1, iv m2, iv c2, iv q', iv fl, iv a1, iv k1, iv a2, iv k2, iv qm, iv qk, iv (0 : Int32), iv (1 : Int32), rv b991, rv b998, .unset, .unset, .unset, .unset, .unset, .unset] [(.ref b1016)]) := fun tt kt => go1015 tt (st1016 _ kt)
  have go1022 : own_S p e below ST T1016 (mkF m 120 #[iv m1, iv c1, iv m2, iv c2, iv q', iv fl, iv a1, iv k1, iv a2, iv k2, iv qm, iv qk, iv (0 : Int32), iv (1 : Int32), rv b991, rv b998, .unset, .unset, .unset, .unset, .unset, .unset] [(.int (2 : Int32)), (.ref b1016), (.ref b1016)]) := fun tt kt => go1021 tt (by
      refine XS.dup X1016.here hx rfl (hb hby at_118) rfl rfl ?_
      refine XS.iconst X1016.here hx rfl (hb hby at_119) ?_
      exact kt)
  have f1023 := ((f1012.keep K1013 (allS ge_b998 (allS gb1005 all0))).ext E1016)
  have zs1025 := (Nat.le_trans zs1020 E1016.1)
  obtain ⟨_, _, ⟨T1024, L1024, k1024, n1024⟩, -, X1024, ⟨Lc1024, hQ1024, l1024, y1024, z1024⟩, st1024⟩ := X1016.specialBack hx (y := (⟨"com/example/brancher/brancher/service/Group", "<init>", "(I)V"⟩ : MethodName)) rfl hown (mvT hZ (W 48 rfl)) (mvT hZ (W 49 rfl)) (mvT hZ (W 50 rfl)) (by decide) (backOf (W := 1) (rm9 l Z a0 hw [] b1016 ad kd h1016 n0 zs1025 F1016_edges F1016_elements F1016_parent F1016_level F1016_choices A1016 ge_b1016 SD VD f1023) hZ (W 50 rfl) (W 47 rfl) (by decide) (by decide)) (g := (mkF m 120 #[iv m1, iv c1, iv m2, iv c2, iv q', iv fl, iv a1, iv k1, iv a2, iv k2, iv qm, iv qk, iv (0 : Int32), iv (1 : Int32), rv b991, rv b998, .unset, .unset, .unset, .unset, .unset, .unset] [(.int (2 : Int32)), (.ref b1016), (.ref b1016)])) rfl (by rw [hml]; rfl) (Steps.refl _) (a := b1016) (argsL := [(.int (2 : Int32))]) (rest := [(.ref b1016)]) (lenOf pd113 rfl) rfl (by show 2 * 0 + _ ≤ _; exact Nat.le_of_eq rfl) (hb hby at_120) (fun _ _ => ⟨rfl, e1016, (by decide : 5 + 18 ≤ _), (by decide : 14 + 57 ≤ _)⟩)
  dsimp only [Pt.U, Pt.locs, Pt.cells, Pt.slots] at X1024 l1024 y1024 z1024 st1024 hQ1024
  subst l1024 y1024 z1024
  obtain ⟨bc1024, kc1024, rfl, Nq1024, K1024, Fc1024, Vc1024, oc1024, gb1024, nb1024⟩ := hQ1024
  have N1024 := Fr.app N1013 Nq1024
  have go1026 : own_S p e below ST T1024 (mkF m 123 #[iv m1, iv c1, iv m2, iv c2, iv q', iv fl, iv a1, iv k1, iv a2, iv k2, iv qm, iv qk, iv (0 : Int32), iv (1 : Int32), rv b991, rv b998, .unset, .unset, .unset, .unset, .unset, .unset] [(.ref b1016)]) := fun tt kt => go1022 tt (st1024.trans kt)
  have GRi1024 : own_GR Z T1024.heap n0 b1016 [.null, .null, .null, .null] [.null, .null, .null, .null] := ⟨bc1024, kc1024, .null, .null, Fc1024, Vc1024, oc1024, Or.inl ⟨rfl, rfl⟩, Or.inl ⟨rfl, rfl⟩, Or.inl rfl, gb1024, nb1024, rfl, rfl⟩
  have go1027 : own_S p e below ST T1024 (mkF m 131 #[iv m1, iv c1, iv m2, iv c2, iv q', iv fl, iv a1, iv k1, iv a2, iv k2, iv qm, iv qk, iv (0 : Int32), iv (1 : Int32), rv b991, rv b998, rv b1016, .unset, .unset, .unset, .unset, .unset] [(.int qk), (.int qm), (.ref b1016)]) := fun tt kt => go1026 tt (by
      refine XS.astore X1024.here hx rfl (hb hby at_123) rfl rfl (l' := #[iv m1, iv c1, iv m2, iv c2, iv q', iv fl, iv a1, iv k1, iv a2, iv k2, iv qm, iv qk, iv (0 : Int32), iv (1 : Int32), rv b991, rv b998, rv b1016, .unset, .unset, .unset, .unset, .unset]) rfl ?_
      refine XS.aload X1024.here hx rfl (hb hby at_125) rfl rfl ?_
      refine XS.iload X1024.here hx rfl (hb hby at_127) rfl ?_
      refine XS.iload X1024.here hx rfl (hb hby at_129) rfl ?_
      exact kt)
  have f1028 := (f1023.keep K1024 (allS ge_b1016 all0))
  have zs1030 := (Nat.le_trans zs1025 K1024.1)
  have f1031 := (A1016.keep K1024)
  obtain ⟨cq1029, kq1029, q1029a, q1029b, q1029c⟩ := isOf hZ rfl f1031
  obtain ⟨_, _, ⟨T1029, L1029, k1029, n1029⟩, -, X1029, ⟨Lc1029, hQ1029, l1029, y1029, z1029⟩, st1029⟩ := X1024.virtualBack hx (y := (⟨"com/example/brancher/brancher/service/Group", "choices", "(II)Ljava/util/BitSet;"⟩ : MethodName)) (z := (⟨"com/example/brancher/brancher/service/Group", "choices", "(II)Ljava/util/BitSet;"⟩ : MethodName)) hown (mvT hZ (W 144 rfl)) (mvT hZ (W 145 rfl)) (notFace_of_selects (args := #[]) (mvT hZ (W 147 rfl))) (mvT hZ (W 147 rfl)) (mvT hZ (W 146 rfl)) (by decide) (backOf (W := 0) (rmCH l Z a0 hw [] b1016 qm qk [.null, .null, .null, .null] [.null, .null, .null, .null] nc T1024.heap n0 zs1030 GRi1024 bqm bqk SN f1028) hZ (W 148 rfl) (W 47 rfl) (by decide) (by decide)) q1029a q1029c (g := (mkF m 131 #[iv m1, iv c1, iv m2, iv c2, iv q', iv fl, iv a1, iv k1, iv a2, iv k2, iv qm, iv qk, iv (0 : Int32), iv (1 : Int32), rv b991, rv b998, rv b1016, .unset, .unset, .unset, .unset, .unset] [(.int qk), (.int qm), (.ref b1016)])) rfl (by rw [hml]; rfl) (Steps.refl _) (argsL := [(.int qm), (.int qk)]) (rest := []) (lenOf pd296 rfl) rfl (by show 2 * 0 + _ ≤ _; exact Nat.le_of_eq rfl) (hb hby at_131) (fun _ _ => ⟨rfl, rfl, (by decide : 23 + 0 ≤ _), (by decide : 71 + 0 ≤ _)⟩)
  dsimp only [Pt.U, Pt.locs, Pt.cells, Pt.slots] at X1029 l1029 y1029 z1029 st1029 hQ1029
  subst l1029 y1029 z1029
  obtain ⟨rfl, Nq1029, eh1029⟩ := hQ1029
  have N1029 := Fr.app N1024 Nq1029
  have go1032 : own_S p e below ST T1029 (mkF m 134 #[iv m1, iv c1, iv m2, iv c2, iv q', iv fl, iv a1, iv k1, iv a2, iv k2, iv qm, iv qk, iv (0 : Int32), iv (1 : Int32), rv b991, rv b998, rv b1016, .unset, .unset, .unset, .unset, .unset] [(own_or nc ((if qm = 0 then [.null, .null, .null, .null] else [.null, .null, .null, .null]).getD (qk).toNatClampNeg .null))]) := fun tt kt => go1027 tt (st1029.trans kt)
  have e_1 : own_or nc ((if qm = 0 then ([.null, .null, .null, .null] : List Value) else [.null, .null, .null, .null]).getD (qk).toNatClampNeg .null) = .ref nc := own_orn nc (own_nn qm qk bqk)
  obtain ⟨vo1, hvo1⟩ : ∃ z : Value, z = (own_or nc ((if qm = 0 then [.null, .null, .null, .null] else [.null, .null, .null, .null]).getD (qk).toNatClampNeg .null)) := ⟨_, rfl⟩
  rw [← hvo1] at go1032
  replace e_1 := hvo1.trans e_1
  obtain ⟨T1033, X1033, e1033, st1033⟩ := getS2 X1029 hx hZ hown (host := "") (Or.inl (W 151 rfl)) Via.refl eh1029 (SN.ext f1028.2) (g := (mkF m 134 #[iv m1, iv c1, iv m2, iv c2, iv q', iv fl, iv a1, iv k1, iv a2, iv k2, iv qm, iv qk, iv (0 : Int32), iv (1 : Int32), rv b991, rv b998, rv b1016, .unset, .unset, .unset, .unset, .unset] [vo1])) rfl (hb hby at_134)
  have go1034 : own_S p e below ST T1033 (mkF m 137 #[iv m1, iv c1, iv m2, iv c2, iv q', iv fl, iv a1, iv k1, iv a2, iv k2, iv qm, iv qk, iv (0 : Int32), iv (1 : Int32), rv b991, rv b998, rv b1016, .unset, .unset, .unset, .unset, .unset] [(.ref nc), vo1]) := fun tt kt => go1032 tt (st1033 _ kt)
  have go1035 : own_S p e below ST T1033 (mkF m 156 #[iv m1, iv c1, iv m2, iv c2, iv q', iv fl, iv a1, iv k1, iv a2, iv k2, iv qm, iv qk, iv (0 : Int32), iv (1 : Int32), rv b991, rv b998, rv b1016, iv (1 : Int32), .unset, .unset, .unset, .unset] [(.int (4 : Int32)), (.ref b991), (.int k1), (.int a1), (.ref b1016)]) := fun tt kt => go1034 tt (by
      refine Jvm.RoadKit.acmp (g := (mkF m 137 #[iv m1, iv c1, iv m2, iv c2, iv q', iv fl, iv a1, iv k1, iv a2, iv k2, iv qm, iv qk, iv (0 : Int32), iv (1 : Int32), rv b991, rv b998, rv b1016, .unset, .unset, .unset, .unset, .unset] [(.ref nc), vo1])) X1033 hx rfl (by rw [e_1]; rfl) rfl (pc0 := 137) (pc' := 140) (same := true) rfl (hb hby at_137) rfl (decide_eq_true e_1) (by decide) (by decide) ?_
      refine XS.iconst X1033.here hx rfl (hb hby at_140) ?_
      refine XS.goto X1033.here hx rfl (pc0 := 141) (pc' := 145) rfl (hb hby at_141) (by decide) (by decide) ?_
      refine XS.istore X1033.here hx rfl (hb hby at_145) rfl (l' := #[iv m1, iv c1, iv m2, iv c2, iv q', iv fl, iv a1, iv k1, iv a2, iv k2, iv qm, iv qk, iv (0 : Int32), iv (1 : Int32), rv b991, rv b998, rv b1016, iv (1 : Int32), .unset, .unset, .unset, .unset]) rfl ?_
      refine XS.aload X1033.here hx rfl (hb hby at_147) rfl rfl ?_
      refine XS.iload X1033.here hx rfl (hb hby at_149) rfl ?_
      show Steps p.tables e below (T1033.setTop (mkF m 151 #[iv m1, iv c1, iv m2, iv c2, iv q', iv fl, iv a1, iv k1, iv a2, iv k2, iv qm, iv qk, iv (0 : Int32), iv (1 : Int32), rv b991, rv b998, rv b1016, iv (1 : Int32), .unset, .unset, .unset, .unset] [(.int a1), (.ref b1016)])) _
      refine XS.iload X1033.here hx rfl (hb hby at_151) rfl ?_
      refine XS.aload X1033.here hx rfl (hb hby at_153) rfl rfl ?_
      refine XS.iconst X1033.here hx rfl (hb hby at_155) ?_
      exact kt)
  obtain ⟨M0_1, hM0_1⟩ : ∃ z : List Value, z = if a1 = 0 then ([.null, .null, .null, .null] : List Value).set (k1).toNatClampNeg .null else [.null, .null, .null, .null] := ⟨_, rfl⟩
  obtain ⟨M1_1, hM1_1⟩ : ∃ z : List Value, z = if a1 = 0 then ([.null, .null, .null, .null] : List Value) else ([.null, .null, .null, .null] : List Value).set (k1).toNatClampNeg .null := ⟨_, rfl⟩
  have f1036 := ((Fu1013.ext E1016).keep K1024 (ninS neb998_b1016 nin0))
  have f1037 := ((f1019.ext E1016).keep K1024)
  have f1038 := ((f1017.ext E1016).keep K1024)
  have f1039 := (((((Fa994.ext E998).keep K1005 (ninS neb991_b998 nin0)).keep K1013 (ninS neb991_b998 (ninS neb991_b1005 nin0))).ext E1016).keep K1024 (ninS neb991_b1016 nin0))
  obtain ⟨cq1040, kq1040, q1040a, q1040b, q1040c⟩ := isOf hZ e1033 f1031
  obtain ⟨_, _, ⟨T1040, L1040, k1040, n1040⟩, -, X1040, ⟨Lc1040, hQ1040, l1040, y1040, z1040⟩, st1040⟩ := X1033.virtualBack hx (y := (⟨"com/example/brancher/brancher/service/Group", "rest", "(IILjava/util/BitSet;I)V"⟩ : MethodName)) (z := (⟨"com/example/brancher/brancher/service/Group", "rest", "(IILjava/util/BitSet;I)V"⟩ : MethodName)) hown (mvT hZ (W 152 rfl)) (mvT hZ (W 153 rfl)) (notFace_of_selects (args := #[]) (mvT hZ (W 155 rfl))) (mvT hZ (W 155 rfl)) (mvT hZ (W 154 rfl)) (by decide) (backOf (W := 0) (rmRS0 l Z a0 hw [] b1016 b991 b998 a1 k1 [.null, .null, .null, .null] [.null, .null, .null, .null] _ M0_1 M1_1 T1024.heap n0 zs1030 GRi1024 ba1 bk1 f1028 f1031 f1038 f1039 f1037 f1036 hM0_1 hM1_1) hZ (W 156 rfl) (W 47 rfl) (by decide) (by decide)) q1040a q1040c (g := (mkF m 156 #[iv m1, iv c1, iv m2, iv c2, iv q', iv fl, iv a1, iv k1, iv a2, iv k2, iv qm, iv qk, iv (0 : Int32), iv (1 : Int32), rv b991, rv b998, rv b1016, iv (1 : Int32), .unset, .unset, .unset, .unset] [(.int (4 : Int32)), (.ref b991), (.int k1), (.int a1), (.ref b1016)])) rfl (by rw [hml]; rfl) (Steps.refl _) (argsL := [(.int a1), (.int k1), (.ref b991), (.int (4 : Int32))]) (rest := []) (lenOf pd297 rfl) rfl (by show 2 * 0 + _ ≤ _; exact Nat.le_of_eq rfl) (hb hby at_156) (fun _ _ => ⟨rfl, e1033, (by decide : 23 + 1 ≤ _), (by decide : 71 + 4 ≤ _)⟩)
  dsimp only [Pt.U, Pt.locs, Pt.cells, Pt.slots] at X1040 l1040 y1040 z1040 st1040 hQ1040
  subst l1040 y1040 z1040
  obtain ⟨rfl, Nq1040, Or1040, GRr1040, Ex1040, Fx1040, Eg1040, sz1040⟩ := hQ1040
  have N1040 := Fr.app N1029 Nq1040
  have go1041 : own_S p e below ST T1040 (mkF m 159 #[iv m1, iv c1, iv m2, iv c2, iv q', iv fl, iv a1, iv k1, iv a2, iv k2, iv qm, iv qk, iv (0 : Int32), iv (1 : Int32), rv b991, rv b998, rv b1016, iv (1 : Int32), .unset, .unset, .unset, .unset] []) := fun tt kt => go1035 tt (st1040.trans kt)
  have go1042 : own_S p e below ST T1040 (mkF m 169 #[iv m1, iv c1, iv m2, iv c2, iv q', iv fl, iv a1, iv k1, iv a2, iv k2, iv qm, iv qk, iv (0 : Int32), iv (1 : Int32), rv b991, rv b998, rv b1016, iv (1 : Int32), .unset, .unset, .unset, .unset] []) := fun tt kt => go1041 tt (by
      refine XS.iload X1040.here hx rfl (hb hby at_159) rfl ?_
      refine XS.ifYes X1040.here hx rfl (pc0 := 161) (pc' := 169) rfl (hb hby at_161) rfl ((if0 _ _).trans (teq (by decide : (0 : Int32) = (0 : Int32))).1) (by decide) (by decide) ?_
      exact kt)
  obtain ⟨T1043, X1043, e1043, st1043⟩ := getS2 X1040 hx hZ hown (host := "") (Or.inl (W 151 rfl)) Via.refl rfl (SN.ext Or1040.2) (g := (mkF m 169 #[iv m1, iv c1, iv m2, iv c2, iv q', iv fl, iv a1, iv k1, iv a2, iv k2, iv qm, iv qk, iv (0 : Int32), iv (1 : Int32), rv b991, rv b998, rv b1016, iv (1 : Int32), .unset, .unset, .unset, .unset] [])) rfl (hb hby at_169)
  have go1044 : own_S p e below ST T1043 (mkF m 172 #[iv m1, iv c1, iv m2, iv c2, iv q', iv fl, iv a1, iv k1, iv a2, iv k2, iv qm, iv qk, iv (0 : Int32), iv (1 : Int32), rv b991, rv b998, rv b1016, iv (1 : Int32), .unset, .unset, .unset, .unset] [(.ref nc)]) := fun tt kt => go1042 tt (st1043 _ kt)
  have go1045 : own_S p e below ST T1043 (mkF m 185 #[iv m1, iv c1, iv m2, iv c2, iv q', iv fl, iv a1, iv k1, iv a2, iv k2, iv qm, iv qk, iv (0 : Int32), iv (1 : Int32), rv b991, rv b998, rv b1016, iv (1 : Int32), rv nc, .unset, .unset, .unset] [(.int k1), (.int a1), (.ref b1016)]) := fun tt kt => go1044 tt (by
      refine XS.astore X1043.here hx rfl (hb hby at_172) rfl rfl (l' := #[iv m1, iv c1, iv m2, iv c2, iv q', iv fl, iv a1, iv k1, iv a2, iv k2, iv qm, iv qk, iv (0 : Int32), iv (1 : Int32), rv b991, rv b998, rv b1016, iv (1 : Int32), rv nc, .unset, .unset, .unset]) rfl ?_
      refine XS.iload X1043.here hx rfl (hb hby at_174) rfl ?_
      refine XS.ifNo X1043.here hx rfl (hb hby at_176) rfl ((if0 _ _).trans (feq (by decide : ¬ ((1 : Int32) = (0 : Int32)))).1) ?_
      refine XS.aload X1043.here hx rfl (hb hby at_179) rfl rfl ?_
      refine XS.iload X1043.here hx rfl (hb hby at_181) rfl ?_
      refine XS.iload X1043.here hx rfl (hb hby at_183) rfl ?_
      exact kt)
  have zs1047 := (Nat.le_trans zs1030 sz1040)
  obtain ⟨cq1046, kq1046, q1046a, q1046b, q1046c⟩ := isOf hZ e1043 Eg1040
  obtain ⟨_, _, ⟨T1046, L1046, k1046, n1046⟩, -, X1046, ⟨Lc1046, hQ1046, l1046, y1046, z1046⟩, st1046⟩ := X1043.virtualBack hx (y := (⟨"com/example/brancher/brancher/service/Group", "choices", "(II)Ljava/util/BitSet;"⟩ : MethodName)) (z := (⟨"com/example/brancher/brancher/service/Group", "choices", "(II)Ljava/util/BitSet;"⟩ : MethodName)) hown (mvT hZ (W 144 rfl)) (mvT hZ (W 145 rfl)) (notFace_of_selects (args := #[]) (mvT hZ (W 147 rfl))) (mvT hZ (W 147 rfl)) (mvT hZ (W 146 rfl)) (by decide) (backOf (W := 0) (rmCH l Z a0 hw [] b1016 a1 k1 M0_1 M1_1 nc T1040.heap n0 zs1047 GRr1040 ba1 bk1 SN Or1040) hZ (W 148 rfl) (W 47 rfl) (by decide) (by decide)) q1046a q1046c (g := (mkF m 185 #[iv m1, iv c1, iv m2, iv c2, iv q', iv fl, iv a1, iv k1, iv a2, iv k2, iv qm, iv qk, iv (0 : Int32), iv (1 : Int32), rv b991, rv b998, rv b1016, iv (1 : Int32), rv nc, .unset, .unset, .unset] [(.int k1), (.int a1), (.ref b1016)])) rfl (by rw [hml]; rfl) (Steps.refl _) (argsL := [(.int a1), (.int k1)]) (rest := []) (lenOf pd296 rfl) rfl (by show 2 * 0 + _ ≤ _; exact Nat.le_of_eq rfl) (hb hby at_185) (fun _ _ => ⟨rfl, e1043, (by decide : 24 + 0 ≤ _), (by decide : 75 + 0 ≤ _)⟩)
  dsimp only [Pt.U, Pt.locs, Pt.cells, Pt.slots] at X1046 l1046 y1046 z1046 st1046 hQ1046
  subst l1046 y1046 z1046
  obtain ⟨rfl, Nq1046, eh1046⟩ := hQ1046
  have N1046 := Fr.app N1040 Nq1046
  have go1048 : own_S p e below ST T1046 (mkF m 188 #[iv m1, iv c1, iv m2, iv c2, iv q', iv fl, iv a1, iv k1, iv a2, iv k2, iv qm, iv qk, iv (0 : Int32), iv (1 : Int32), rv b991, rv b998, rv b1016, iv (1 : Int32), rv nc, .unset, .unset, .unset] [(own_or nc ((if a1 = 0 then M0_1 else M1_1).getD (k1).toNatClampNeg .null))]) := fun tt kt => go1045 tt (st1046.trans kt)
  have s_1 : ∀ q j, (q = 0 ∨ q = 1) → (j = 0 ∨ j = 1 ∨ j = 2 ∨ j = 3) → (if q = 0 then M0_1 else M1_1).getD (Int32.toNatClampNeg j) .null = if q = a1 ∧ j = k1 then .null else .null := fun q j hq hj => by rw [hM0_1, hM1_1, own_sel a1 q k1 j _ _ _ ba1 hq bk1 hj rfl rfl, own_nn q j hj]
  have e_2 : own_or nc ((if a1 = 0 then M0_1 else M1_1).getD (k1).toNatClampNeg .null) = .ref nc := own_orn nc ((s_1 a1 k1 ba1 bk1).trans (if_pos ⟨rfl, rfl⟩))
  obtain ⟨vo2, hvo2⟩ : ∃ z : Value, z = (own_or nc ((if a1 = 0 then M0_1 else M1_1).getD (k1).toNatClampNeg .null)) := ⟨_, rfl⟩
  rw [← hvo2] at go1048
  replace e_2 := hvo2.trans e_2
  have go1049 : own_S p e below ST T1046 (mkF m 209 #[iv m1, iv c1, iv m2, iv c2, iv q', iv fl, iv a1, iv k1, iv a2, iv k2, iv qm, iv qk, iv (0 : Int32), iv (1 : Int32), rv b991, rv b998, rv b1016, iv (1 : Int32), rv nc, .unset, .unset, .unset] [(.int (4 : Int32)), (.ref b998), (.int k2), (.int a2), (.ref b1016)]) := fun tt kt => go1048 tt (by
      refine XS.aload X1046.here hx rfl (hb hby at_188) rfl rfl ?_
      refine Jvm.RoadKit.acmp (g := (mkF m 190 #[iv m1, iv c1, iv m2, iv c2, iv q', iv fl, iv a1, iv k1, iv a2, iv k2, iv qm, iv qk, iv (0 : Int32), iv (1 : Int32), rv b991, rv b998, rv b1016, iv (1 : Int32), rv nc, .unset, .unset, .unset] [(.ref nc), vo2])) X1046 hx rfl (by rw [e_2]; rfl) rfl (pc0 := 190) (pc' := 193) (same := true) rfl (hb hby at_190) rfl (decide_eq_true e_2) (by decide) (by decide) ?_
      refine XS.iconst X1046.here hx rfl (hb hby at_193) ?_
      refine XS.goto X1046.here hx rfl (pc0 := 194) (pc' := 198) rfl (hb hby at_194) (by decide) (by decide) ?_
      refine XS.istore X1046.here hx rfl (hb hby at_198) rfl (l' := #[iv m1, iv c1, iv m2, iv c2, iv q', iv fl, iv a1, iv k1, iv a2, iv k2, iv qm, iv qk, iv (0 : Int32), iv (1 : Int32), rv b991, rv b998, rv b1016, iv (1 : Int32), rv nc, .unset, .unset, .unset]) rfl ?_
      refine XS.aload X1046.here hx rfl (hb hby at_200) rfl rfl ?_
      show Steps p.tables e below (T1046.setTop (mkF m 202 #[iv m1, iv c1, iv m2, iv c2, iv q', iv fl, iv a1, iv k1, iv a2, iv k2, iv qm, iv qk, iv (0 : Int32), iv (1 : Int32), rv b991, rv b998, rv b1016, iv (1 : Int32), rv nc, .unset, .unset, .unset] [(.ref b1016)])) _
      refine XS.iload X1046.here hx rfl (hb hby at_202) rfl ?_
      refine XS.iload X1046.here hx rfl (hb hby at_204) rfl ?_
      refine XS.aload X1046.here hx rfl (hb hby at_206) rfl rfl ?_
      refine XS.iconst X1046.here hx rfl (hb hby at_208) ?_
      exact kt)
  obtain ⟨M0_2, hM0_2⟩ : ∃ z : List Value, z = if a2 = 0 then M0_1.set (k2).toNatClampNeg (.ref b998) else M0_1 := ⟨_, rfl⟩
  obtain ⟨M1_2, hM1_2⟩ : ∃ z : List Value, z = if a2 = 0 then M1_1 else M1_1.set (k2).toNatClampNeg (.ref b998) := ⟨_, rfl⟩
  obtain ⟨cq1050, kq1050, q1050a, q1050b, q1050c⟩ := isOf hZ eh1046 Eg1040
  obtain ⟨_, _, ⟨T1050, L1050, k1050, n1050⟩, -, X1050, ⟨Lc1050, hQ1050, l1050, y1050, z1050⟩, st1050⟩ := X1046.virtualBack hx (y := (⟨"com/example/brancher/brancher/service/Group", "rest", "(IILjava/util/BitSet;I)V"⟩ : MethodName)) (z := (⟨"com/example/brancher/brancher/service/Group", "rest", "(IILjava/util/BitSet;I)V"⟩ : MethodName)) hown (mvT hZ (W 152 rfl)) (mvT hZ (W 153 rfl)) (notFace_of_selects (args := #[]) (mvT hZ (W 155 rfl))) (mvT hZ (W 155 rfl)) (mvT hZ (W 154 rfl)) (by decide) (backOf (W := 0) (rmRS1 l Z a0 hw [] b1016 b998 b998 a2 k2 M0_1 M1_1 _ M0_2 M1_2 T1040.heap n0 zs1047 GRr1040 ba2 bk2 Or1040 Eg1040 Ex1040 Fx1040 Ex1040 Fx1040 hM0_2 hM1_2) hZ (W 156 rfl) (W 47 rfl) (by decide) (by decide)) q1050a q1050c (g := (mkF m 209 #[iv m1, iv c1, iv m2, iv c2, iv q', iv fl, iv a1, iv k1, iv a2, iv k2, iv qm, iv qk, iv (0 : Int32), iv (1 : Int32), rv b991, rv b998, rv b1016, iv (1 : Int32), rv nc, .unset, .unset, .unset] [(.int (4 : Int32)), (.ref b998), (.int k2), (.int a2), (.ref b1016)])) rfl (by rw [hml]; rfl) (Steps.refl _) (argsL := [(.int a2), (.int k2), (.ref b998), (.int (4 : Int32))]) (rest := []) (lenOf pd297 rfl) rfl (by show 2 * 0 + _ ≤ _; exact Nat.le_of_eq rfl) (hb hby at_209) (fun _ _ => ⟨rfl, eh1046, (by decide : 24 + 1 ≤ _), (by decide : 75 + 4 ≤ _)⟩)
  dsimp only [Pt.U, Pt.locs, Pt.cells, Pt.slots] at X1050 l1050 y1050 z1050 st1050 hQ1050
  subst l1050 y1050 z1050
  obtain ⟨rfl, Nq1050, Or1050, GRr1050, Ex1050, Fx1050, Eg1050, sz1050⟩ := hQ1050
  have N1050 := Fr.app N1046 Nq1050
  have go1051 : own_S p e below ST T1050 (mkF m 212 #[iv m1, iv c1, iv m2, iv c2, iv q', iv fl, iv a1, iv k1, iv a2, iv k2, iv qm, iv qk, iv (0 : Int32), iv (1 : Int32), rv b991, rv b998, rv b1016, iv (1 : Int32), rv nc, .unset, .unset, .unset] []) := fun tt kt => go1049 tt (st1050.trans kt)
  have go1052 : own_S p e below ST T1050 (mkF m 227 #[iv m1, iv c1, iv m2, iv c2, iv q', iv fl, iv a1, iv k1, iv a2, iv k2, iv qm, iv qk, iv (0 : Int32), iv (1 : Int32), rv b991, rv b998, rv b1016, iv (1 : Int32), rv nc, rv b998, .unset, .unset] []) := fun tt kt => go1051 tt (by
      refine XS.iload X1050.here hx rfl (hb hby at_212) rfl ?_
      refine XS.ifNo X1050.here hx rfl (hb hby at_214) rfl ((if0 _ _).trans (feq (by decide : ¬ ((1 : Int32) = (0 : Int32)))).1) ?_
      refine XS.aload X1050.here hx rfl (hb hby at_217) rfl rfl ?_
      refine XS.goto X1050.here hx rfl (pc0 := 219) (pc' := 225) rfl (hb hby at_219) (by decide) (by decide) ?_
      refine XS.astore X1050.here hx rfl (hb hby at_225) rfl rfl (l' := #[iv m1, iv c1, iv m2, iv c2, iv q', iv fl, iv a1, iv k1, iv a2, iv k2, iv qm, iv qk, iv (0 : Int32), iv (1 : Int32), rv b991, rv b998, rv b1016, iv (1 : Int32), rv nc, rv b998, .unset, .unset]) rfl ?_
      exact kt)
  have l_1 : M0_1.length = 4 ∧ M1_1.length = 4 := by rw [hM0_1, hM1_1]; exact ⟨(own_len4 rfl).1, (own_len4 rfl).2⟩
  have s_2 : ∀ q j, (q = 0 ∨ q = 1) → (j = 0 ∨ j = 1 ∨ j = 2 ∨ j = 3) → (if q = 0 then M0_2 else M1_2).getD (Int32.toNatClampNeg j) .null = if q = a2 ∧ j = k2 then (.ref b998) else (if q = a1 ∧ j = k1 then .null else .null) := fun q j hq hj => by rw [hM0_2, hM1_2, own_sel a2 q k2 j _ _ _ ba2 hq bk2 hj l_1.1 l_1.2, s_1 q j hq hj]
  have go1053 : own_S p e below ST T1050 (mkF m 231 #[iv m1, iv c1, iv m2, iv c2, iv q', iv fl, iv a1, iv k1, iv a2, iv k2, iv qm, iv qk, iv (0 : Int32), iv (1 : Int32), rv b991, rv b998, rv b1016, iv (1 : Int32), rv nc, rv b998, .unset, .unset] [(.int a2), (.int a1)]) := fun tt kt => go1052 tt (by
      refine XS.iload X1050.here hx rfl (hb hby at_227) rfl ?_
      refine XS.iload X1050.here hx rfl (hb hby at_229) rfl ?_
      exact kt)
  obtain ⟨same, hsame, sg1054⟩ : ∃ (same : Int32), same = (if a1 = a2 then (if k1 = k2 then (1 : Int32) else (0 : Int32)) else (0 : Int32)) ∧ ∀ tt, Steps p.tables e below (T1050.setTop (mkF m 246 #[iv m1, iv c1, iv m2, iv c2, iv q', iv fl, iv a1, iv k1, iv a2, iv k2, iv qm, iv qk, iv (0 : Int32), iv (1 : Int32), rv b991, rv b998, rv b1016, iv (1 : Int32), rv nc, rv b998, .unset, .unset] [(.int same)])) tt → Steps p.tables e below (T1050.setTop (mkF m 231 #[iv m1, iv c1, iv m2, iv c2, iv q', iv fl, iv a1, iv k1, iv a2, iv k2, iv qm, iv qk, iv (0 : Int32), iv (1 : Int32), rv b991, rv b998, rv b1016, iv (1 : Int32), rv nc, rv b998, .unset, .unset] [(.int a2), (.int a1)])) tt := by
    by_cases hd231_0 : a1 = a2
    · by_cases hd238_1 : k1 = k2
      · refine ⟨_, ((if_pos hd231_0).trans (if_pos hd238_1)).symm, fun tt kt => ?_⟩
        show Steps p.tables e below (T1050.setTop (mkF m 231 #[iv m1, iv c1, iv m2, iv c2, iv q', iv fl, iv a1, iv k1, iv a2, iv k2, iv qm, iv qk, iv (0 : Int32), iv (1 : Int32), rv b991, rv b998, rv b1016, iv (1 : Int32), rv nc, rv b998, .unset, .unset] [(.int a2), (.int a1)])) _
        refine XS.icmpNo X1050.here hx rfl (hb hby at_231) rfl (teq hd231_0).2 ?_
        refine XS.iload X1050.here hx rfl (hb hby at_234) rfl ?_
        refine XS.iload X1050.here hx rfl (hb hby at_236) rfl ?_
        refine XS.icmpNo X1050.here hx rfl (hb hby at_238) rfl (teq hd238_1).2 ?_
        refine XS.iconst X1050.here hx rfl (hb hby at_241) ?_
        refine XS.goto X1050.here hx rfl (pc0 := 242) (pc' := 246) rfl (hb hby at_242) (by decide) (by decide) ?_
        exact kt
      · refine ⟨_, ((if_pos hd231_0).trans (if_neg hd238_1)).symm, fun tt kt => ?_⟩
        show Steps p.tables e below (T1050.setTop (mkF m 231 #[iv m1, iv c1, iv m2, iv c2, iv q', iv fl, iv a1, iv k1, iv a2, iv k2, iv qm, iv qk, iv (0 : Int32), iv (1 : Int32), rv b991, rv b998, rv b1016, iv (1 : Int32), rv nc, rv b998, .unset, .unset] [(.int a2), (.int a1)])) _
        refine XS.icmpNo X1050.here hx rfl (hb hby at_231) rfl (teq hd231_0).2 ?_
        refine XS.iload X1050.here hx rfl (hb hby at_234) rfl ?_
        refine XS.iload X1050.here hx rfl (hb hby at_236) rfl ?_
        refine XS.icmpYes X1050.here hx rfl (pc0 := 238) (pc' := 245) rfl (hb hby at_238) rfl (feq hd238_1).2 (by decide) (by decide) ?_
        refine XS.iconst X1050.here hx rfl (hb hby at_245) ?_
        exact kt
    · refine ⟨_, (if_neg hd231_0).symm, fun tt kt => ?_⟩
      show Steps p.tables e below (T1050.setTop (mkF m 231 #[iv m1, iv c1, iv m2, iv c2, iv q', iv fl, iv a1, iv k1, iv a2, iv k2, iv qm, iv qk, iv (0 : Int32), iv (1 : Int32), rv b991, rv b998, rv b1016, iv (1 : Int32), rv nc, rv b998, .unset, .unset] [(.int a2), (.int a1)])) _
      refine XS.icmpYes X1050.here hx rfl (pc0 := 231) (pc' := 245) rfl (hb hby at_231) rfl (feq hd231_0).2 (by decide) (by decide) ?_
      refine XS.iconst X1050.here hx rfl (hb hby at_245) ?_
      exact kt
  have go1055 : own_S p e below ST T1050 (mkF m 246 #[iv m1, iv c1, iv m2, iv c2, iv q', iv fl, iv a1, iv k1, iv a2, iv k2, iv qm, iv qk, iv (0 : Int32), iv (1 : Int32), rv b991, rv b998, rv b1016, iv (1 : Int32), rv nc, rv b998, .unset, .unset] [(.int same)]) := fun tt kt => go1053 tt (sg1054 _ kt)
  have go1056 : own_S p e below ST T1050 (mkF m 259 #[iv m1, iv c1, iv m2, iv c2, iv q', iv fl, iv a1, iv k1, iv a2, iv k2, iv qm, iv qk, iv (0 : Int32), iv (1 : Int32), rv b991, rv b998, rv b1016, iv (1 : Int32), rv nc, rv b998, iv same, .unset] [(.int k2), (.int a2), (.ref b1016)]) := fun tt kt => go1055 tt (by
      refine XS.istore X1050.here hx rfl (hb hby at_246) rfl (l' := #[iv m1, iv c1, iv m2, iv c2, iv q', iv fl, iv a1, iv k1, iv a2, iv k2, iv qm, iv qk, iv (0 : Int32), iv (1 : Int32), rv b991, rv b998, rv b1016, iv (1 : Int32), rv nc, rv b998, iv same, .unset]) rfl ?_
      refine XS.iload X1050.here hx rfl (hb hby at_248) rfl ?_
      refine XS.ifNo X1050.here hx rfl (hb hby at_250) rfl ((if0 _ _).trans (feq (by decide : ¬ ((1 : Int32) = (0 : Int32)))).1) ?_
      refine XS.aload X1050.here hx rfl (hb hby at_253) rfl rfl ?_
      refine XS.iload X1050.here hx rfl (hb hby at_255) rfl ?_
      refine XS.iload X1050.here hx rfl (hb hby at_257) rfl ?_
      exact kt)
  have zs1058 := (Nat.le_trans zs1047 sz1050)
  obtain ⟨cq1057, kq1057, q1057a, q1057b, q1057c⟩ := isOf hZ rfl Eg1050
  obtain ⟨_, _, ⟨T1057, L1057, k1057, n1057⟩, -, X1057, ⟨Lc1057, hQ1057, l1057, y1057, z1057⟩, st1057⟩ := X1050.virtualBack hx (y := (⟨"com/example/brancher/brancher/service/Group", "choices", "(II)Ljava/util/BitSet;"⟩ : MethodName)) (z := (⟨"com/example/brancher/brancher/service/Group", "choices", "(II)Ljava/util/BitSet;"⟩ : MethodName)) hown (mvT hZ (W 144 rfl)) (mvT hZ (W 145 rfl)) (notFace_of_selects (args := #[]) (mvT hZ (W 147 rfl))) (mvT hZ (W 147 rfl)) (mvT hZ (W 146 rfl)) (by decide) (backOf (W := 0) (rmCH l Z a0 hw [] b1016 a2 k2 M0_2 M1_2 nc T1050.heap n0 zs1058 GRr1050 ba2 bk2 SN Or1050) hZ (W 148 rfl) (W 47 rfl) (by decide) (by decide)) q1057a q1057c (g := (mkF m 259 #[iv m1, iv c1, iv m2, iv c2, iv q', iv fl, iv a1, iv k1, iv a2, iv k2, iv qm, iv qk, iv (0 : Int32), iv (1 : Int32), rv b991, rv b998, rv b1016, iv (1 : Int32), rv nc, rv b998, iv same, .unset] [(.int k2), (.int a2), (.ref b1016)])) rfl (by rw [hml]; rfl) (Steps.refl _) (argsL := [(.int a2), (.int k2)]) (rest := []) (lenOf pd296 rfl) rfl (by show 2 * 0 + _ ≤ _; exact Nat.le_of_eq rfl) (hb hby at_259) (fun _ _ => ⟨rfl, rfl, (by decide : 25 + 0 ≤ _), (by decide : 79 + 0 ≤ _)⟩)
  dsimp only [Pt.U, Pt.locs, Pt.cells, Pt.slots] at X1057 l1057 y1057 z1057 st1057 hQ1057
  subst l1057 y1057 z1057
  obtain ⟨rfl, Nq1057, eh1057⟩ := hQ1057
  have N1057 := Fr.app N1050 Nq1057
  have go1059 : own_S p e below ST T1057 (mkF m 262 #[iv m1, iv c1, iv m2, iv c2, iv q', iv fl, iv a1, iv k1, iv a2, iv k2, iv qm, iv qk, iv (0 : Int32), iv (1 : Int32), rv b991, rv b998, rv b1016, iv (1 : Int32), rv nc, rv b998, iv same, .unset] [(own_or nc ((if a2 = 0 then M0_2 else M1_2).getD (k2).toNatClampNeg .null))]) := fun tt kt => go1056 tt (st1057.trans kt)
  have e_3 : own_or nc ((if a2 = 0 then M0_2 else M1_2).getD (k2).toNatClampNeg .null) = .ref b998 := own_orr nc ((s_2 a2 k2 ba2 bk2).trans (if_pos ⟨rfl, rfl⟩))
  obtain ⟨vo3, hvo3⟩ : ∃ z : Value, z = (own_or nc ((if a2 = 0 then M0_2 else M1_2).getD (k2).toNatClampNeg .null)) := ⟨_, rfl⟩
  rw [← hvo3] at go1059
  replace e_3 := hvo3.trans e_3
  have go1060 : own_S p e below ST T1057 (mkF m 285 #[iv m1, iv c1, iv m2, iv c2, iv q', iv fl, iv a1, iv k1, iv a2, iv k2, iv qm, iv qk, iv (0 : Int32), iv (1 : Int32), rv b991, rv b998, rv b1016, iv (1 : Int32), rv nc, rv b998, iv same, .unset] [(.int k1), (.int a1), (.ref b1016)]) := fun tt kt => go1059 tt (by
      refine XS.aload X1057.here hx rfl (hb hby at_262) rfl rfl ?_
      refine Jvm.RoadKit.acmp (g := (mkF m 264 #[iv m1, iv c1, iv m2, iv c2, iv q', iv fl, iv a1, iv k1, iv a2, iv k2, iv qm, iv qk, iv (0 : Int32), iv (1 : Int32), rv b991, rv b998, rv b1016, iv (1 : Int32), rv nc, rv b998, iv same, .unset] [(.ref b998), vo3])) X1057 hx rfl (by rw [e_3]; rfl) rfl (pc0 := 264) (pc' := 267) (same := true) rfl (hb hby at_264) rfl (decide_eq_true e_3) (by decide) (by decide) ?_
      refine XS.iconst X1057.here hx rfl (hb hby at_267) ?_
      refine XS.goto X1057.here hx rfl (pc0 := 268) (pc' := 272) rfl (hb hby at_268) (by decide) (by decide) ?_
      refine XS.istore X1057.here hx rfl (hb hby at_272) rfl (l' := #[iv m1, iv c1, iv m2, iv c2, iv q', iv fl, iv a1, iv k1, iv a2, iv k2, iv qm, iv qk, iv (0 : Int32), iv (1 : Int32), rv b991, rv b998, rv b1016, iv (1 : Int32), rv nc, rv b998, iv same, .unset]) rfl ?_
      refine XS.iload X1057.here hx rfl (hb hby at_274) rfl ?_
      show Steps p.tables e below (T1057.setTop (mkF m 276 #[iv m1, iv c1, iv m2, iv c2, iv q', iv fl, iv a1, iv k1, iv a2, iv k2, iv qm, iv qk, iv (0 : Int32), iv (1 : Int32), rv b991, rv b998, rv b1016, iv (1 : Int32), rv nc, rv b998, iv same, .unset] [(.int (1 : Int32))])) _
      refine XS.ifNo X1057.here hx rfl (hb hby at_276) rfl ((if0 _ _).trans (feq (by decide : ¬ ((1 : Int32) = (0 : Int32)))).1) ?_
      refine XS.aload X1057.here hx rfl (hb hby at_279) rfl rfl ?_
      refine XS.iload X1057.here hx rfl (hb hby at_281) rfl ?_
      refine XS.iload X1057.here hx rfl (hb hby at_283) rfl ?_
      exact kt)
  obtain ⟨cq1061, kq1061, q1061a, q1061b, q1061c⟩ := isOf hZ eh1057 Eg1050
  obtain ⟨_, _, ⟨T1061, L1061, k1061, n1061⟩, -, X1061, ⟨Lc1061, hQ1061, l1061, y1061, z1061⟩, st1061⟩ := X1057.virtualBack hx (y := (⟨"com/example/brancher/brancher/service/Group", "choices", "(II)Ljava/util/BitSet;"⟩ : MethodName)) (z := (⟨"com/example/brancher/brancher/service/Group", "choices", "(II)Ljava/util/BitSet;"⟩ : MethodName)) hown (mvT hZ (W 144 rfl)) (mvT hZ (W 145 rfl)) (notFace_of_selects (args := #[]) (mvT hZ (W 147 rfl))) (mvT hZ (W 147 rfl)) (mvT hZ (W 146 rfl)) (by decide) (backOf (W := 0) (rmCH l Z a0 hw [] b1016 a1 k1 M0_2 M1_2 nc T1050.heap n0 zs1058 GRr1050 ba1 bk1 SN Or1050) hZ (W 148 rfl) (W 47 rfl) (by decide) (by decide)) q1061a q1061c (g := (mkF m 285 #[iv m1, iv c1, iv m2, iv c2, iv q', iv fl, iv a1, iv k1, iv a2, iv k2, iv qm, iv qk, iv (0 : Int32), iv (1 : Int32), rv b991, rv b998, rv b1016, iv (1 : Int32), rv nc, rv b998, iv same, .unset] [(.int k1), (.int a1), (.ref b1016)])) rfl (by rw [hml]; rfl) (Steps.refl _) (argsL := [(.int a1), (.int k1)]) (rest := []) (lenOf pd296 rfl) rfl (by show 2 * 0 + _ ≤ _; exact Nat.le_of_eq rfl) (hb hby at_285) (fun _ _ => ⟨rfl, eh1057, (by decide : 25 + 0 ≤ _), (by decide : 79 + 0 ≤ _)⟩)
  dsimp only [Pt.U, Pt.locs, Pt.cells, Pt.slots] at X1061 l1061 y1061 z1061 st1061 hQ1061
  subst l1061 y1061 z1061
  obtain ⟨rfl, Nq1061, eh1061⟩ := hQ1061
  have N1061 := Fr.app N1057 Nq1061
  have go1062 : own_S p e below ST T1061 (mkF m 288 #[iv m1, iv c1, iv m2, iv c2, iv q', iv fl, iv a1, iv k1, iv a2, iv k2, iv qm, iv qk, iv (0 : Int32), iv (1 : Int32), rv b991, rv b998, rv b1016, iv (1 : Int32), rv nc, rv b998, iv same, .unset] [(own_or nc ((if a1 = 0 then M0_2 else M1_2).getD (k1).toNatClampNeg .null))]) := fun tt kt => go1060 tt (st1061.trans kt)
  have e_4 : own_or nc ((if a1 = 0 then M0_2 else M1_2).getD (k1).toNatClampNeg .null) = .ref (if same = (0 : Int32) then nc else b998) := by
    rw [s_2 a1 k1 ba1 bk1, hsame]
    by_cases y1 : a1 = a2 <;> by_cases y2 : k1 = k2 <;> simp [y1, y2, own_or]
  obtain ⟨vo4, hvo4⟩ : ∃ z : Value, z = (own_or nc ((if a1 = 0 then M0_2 else M1_2).getD (k1).toNatClampNeg .null)) := ⟨_, rfl⟩
  rw [← hvo4] at go1062
  replace e_4 := hvo4.trans e_4
  have go1063 : own_S p e below ST T1061 (mkF m 290 #[iv m1, iv c1, iv m2, iv c2, iv q', iv fl, iv a1, iv k1, iv a2, iv k2, iv qm, iv qk, iv (0 : Int32), iv (1 : Int32), rv b991, rv b998, rv b1016, iv (1 : Int32), rv nc, rv b998, iv same, .unset] [(.int same), vo4]) := fun tt kt => go1062 tt (by
      refine XS.iload X1061.here hx rfl (hb hby at_288) rfl ?_
      exact kt)
  obtain ⟨sl, hsl, sg1064⟩ : ∃ (sl : Addr), sl = (if same = (0 : Int32) then nc else b998) ∧ ∀ tt, Steps p.tables e below (T1061.setTop (mkF m 300 #[iv m1, iv c1, iv m2, iv c2, iv q', iv fl, iv a1, iv k1, iv a2, iv k2, iv qm, iv qk, iv (0 : Int32), iv (1 : Int32), rv b991, rv b998, rv b1016, iv (1 : Int32), rv nc, rv b998, iv same, .unset] [(.ref sl), vo4])) tt → Steps p.tables e below (T1061.setTop (mkF m 290 #[iv m1, iv c1, iv m2, iv c2, iv q', iv fl, iv a1, iv k1, iv a2, iv k2, iv qm, iv qk, iv (0 : Int32), iv (1 : Int32), rv b991, rv b998, rv b1016, iv (1 : Int32), rv nc, rv b998, iv same, .unset] [(.int same), vo4])) tt := by
    by_cases hd290_0 : same = (0 : Int32)
    · refine ⟨_, (if_pos hd290_0).symm, fun tt kt => ?_⟩
      show Steps p.tables e below (T1061.setTop (mkF m 290 #[iv m1, iv c1, iv m2, iv c2, iv q', iv fl, iv a1, iv k1, iv a2, iv k2, iv qm, iv qk, iv (0 : Int32), iv (1 : Int32), rv b991, rv b998, rv b1016, iv (1 : Int32), rv nc, rv b998, iv same, .unset] [(.int same), vo4])) _
      refine XS.ifYes X1061.here hx rfl (pc0 := 290) (pc' := 298) rfl (hb hby at_290) rfl ((if0 _ _).trans (teq hd290_0).1) (by decide) (by decide) ?_
      refine XS.aload X1061.here hx rfl (hb hby at_298) rfl rfl ?_
      exact kt
    · refine ⟨_, (if_neg hd290_0).symm, fun tt kt => ?_⟩
      show Steps p.tables e below (T1061.setTop (mkF m 290 #[iv m1, iv c1, iv m2, iv c2, iv q', iv fl, iv a1, iv k1, iv a2, iv k2, iv qm, iv qk, iv (0 : Int32), iv (1 : Int32), rv b991, rv b998, rv b1016, iv (1 : Int32), rv nc, rv b998, iv same, .unset] [(.int same), vo4])) _
      refine XS.ifNo X1061.here hx rfl (hb hby at_290) rfl ((if0 _ _).trans (feq hd290_0).1) ?_
      refine XS.aload X1061.here hx rfl (hb hby at_293) rfl rfl ?_
      refine XS.goto X1061.here hx rfl (pc0 := 295) (pc' := 300) rfl (hb hby at_295) (by decide) (by decide) ?_
      exact kt
  have go1065 : own_S p e below ST T1061 (mkF m 300 #[iv m1, iv c1, iv m2, iv c2, iv q', iv fl, iv a1, iv k1, iv a2, iv k2, iv qm, iv qk, iv (0 : Int32), iv (1 : Int32), rv b991, rv b998, rv b1016, iv (1 : Int32), rv nc, rv b998, iv same, .unset] [(.ref sl), vo4]) := fun tt kt => go1063 tt (sg1064 _ kt)
  rw [← hsl] at e_4
  have go1066 : own_S p e below ST T1061 (mkF m 314 #[iv m1, iv c1, iv m2, iv c2, iv q', iv fl, iv a1, iv k1, iv a2, iv k2, iv qm, iv qk, iv (0 : Int32), iv (1 : Int32), rv b991, rv b998, rv b1016, iv (1 : Int32), rv nc, rv b998, iv same, .unset] [(.int a2), (.int qm)]) := fun tt kt => go1065 tt (by
      refine Jvm.RoadKit.acmp (g := (mkF m 300 #[iv m1, iv c1, iv m2, iv c2, iv q', iv fl, iv a1, iv k1, iv a2, iv k2, iv qm, iv qk, iv (0 : Int32), iv (1 : Int32), rv b991, rv b998, rv b1016, iv (1 : Int32), rv nc, rv b998, iv same, .unset] [(.ref sl), vo4])) X1061 hx rfl (by rw [e_4]; rfl) rfl (pc0 := 300) (pc' := 303) (same := true) rfl (hb hby at_300) rfl (decide_eq_true e_4) (by decide) (by decide) ?_
      refine XS.iconst X1061.here hx rfl (hb hby at_303) ?_
      refine XS.goto X1061.here hx rfl (pc0 := 304) (pc' := 308) rfl (hb hby at_304) (by decide) (by decide) ?_
      refine XS.istore X1061.here hx rfl (hb hby at_308) rfl (l' := #[iv m1, iv c1, iv m2, iv c2, iv q', iv fl, iv a1, iv k1, iv a2, iv k2, iv qm, iv qk, iv (0 : Int32), iv (1 : Int32), rv b991, rv b998, rv b1016, iv (1 : Int32), rv nc, rv b998, iv same, .unset]) rfl ?_
      refine XS.iload X1061.here hx rfl (hb hby at_310) rfl ?_
      refine XS.iload X1061.here hx rfl (hb hby at_312) rfl ?_
      exact kt)
  by_cases hz314 : qm = a2
  · have go1067 : own_S p e below ST T1061 (mkF m 317 #[iv m1, iv c1, iv m2, iv c2, iv q', iv fl, iv a1, iv k1, iv a2, iv k2, iv qm, iv qk, iv (0 : Int32), iv (1 : Int32), rv b991, rv b998, rv b1016, iv (1 : Int32), rv nc, rv b998, iv same, .unset] []) := fun tt kt => go1066 tt (by
        refine XS.icmpNo X1061.here hx rfl (hb hby at_314) rfl (teq hz314).2 ?_
        exact kt)
    have go1068 : own_S p e below ST T1061 (mkF m 321 #[iv m1, iv c1, iv m2, iv c2, iv q', iv fl, iv a1, iv k1, iv a2, iv k2, iv qm, iv qk, iv (0 : Int32), iv (1 : Int32), rv b991, rv b998, rv b1016, iv (1 : Int32), rv nc, rv b998, iv same, .unset] [(.int k2), (.int qk)]) := fun tt kt => go1067 tt (by
        refine XS.iload X1061.here hx rfl (hb hby at_317) rfl ?_
        refine XS.iload X1061.here hx rfl (hb hby at_319) rfl ?_
        exact kt)
    by_cases hz321 : qk = k2
    · have go1069 : own_S p e below ST T1061 (mkF m 324 #[iv m1, iv c1, iv m2, iv c2, iv q', iv fl, iv a1, iv k1, iv a2, iv k2, iv qm, iv qk, iv (0 : Int32), iv (1 : Int32), rv b991, rv b998, rv b1016, iv (1 : Int32), rv nc, rv b998, iv same, .unset] []) := fun tt kt => go1068 tt (by
          refine XS.icmpNo X1061.here hx rfl (hb hby at_321) rfl (teq hz321).2 ?_
          exact kt)
      have go1070 : own_S p e below ST T1061 (mkF m 368 #[iv m1, iv c1, iv m2, iv c2, iv q', iv fl, iv a1, iv k1, iv a2, iv k2, iv qm, iv qk, iv (0 : Int32), iv (1 : Int32), rv b991, rv b998, rv b1016, iv (1 : Int32), rv nc, rv b998, iv same, rv b998] [(.int qk), (.int qm), (.ref b1016)]) := fun tt kt => go1069 tt (by
          refine XS.aload X1061.here hx rfl (hb hby at_324) rfl rfl ?_
          refine XS.astore X1061.here hx rfl (hb hby at_326) rfl rfl (l' := #[iv m1, iv c1, iv m2, iv c2, iv q', iv fl, iv a1, iv k1, iv a2, iv k2, iv qm, iv qk, iv (0 : Int32), iv (1 : Int32), rv b991, rv b998, rv b1016, iv (1 : Int32), rv nc, rv b998, iv same, rv b998]) rfl ?_
          refine XS.goto X1061.here hx rfl (pc0 := 328) (pc' := 357) rfl (hb hby at_328) (by decide) (by decide) ?_
          refine XS.iload X1061.here hx rfl (hb hby at_357) rfl ?_
          refine XS.ifNo X1061.here hx rfl (hb hby at_359) rfl ((if0 _ _).trans (feq (by decide : ¬ ((1 : Int32) = (0 : Int32)))).1) ?_
          refine XS.aload X1061.here hx rfl (hb hby at_362) rfl rfl ?_
          show Steps p.tables e below (T1061.setTop (mkF m 364 #[iv m1, iv c1, iv m2, iv c2, iv q', iv fl, iv a1, iv k1, iv a2, iv k2, iv qm, iv qk, iv (0 : Int32), iv (1 : Int32), rv b991, rv b998, rv b1016, iv (1 : Int32), rv nc, rv b998, iv same, rv b998] [(.ref b1016)])) _
          refine XS.iload X1061.here hx rfl (hb hby at_364) rfl ?_
          refine XS.iload X1061.here hx rfl (hb hby at_366) rfl ?_
          exact kt)
      obtain ⟨cq1071, kq1071, q1071a, q1071b, q1071c⟩ := isOf hZ eh1061 Eg1050
      obtain ⟨_, _, ⟨T1071, L1071, k1071, n1071⟩, -, X1071, ⟨Lc1071, hQ1071, l1071, y1071, z1071⟩, st1071⟩ := X1061.virtualBack hx (y := (⟨"com/example/brancher/brancher/service/Group", "choices", "(II)Ljava/util/BitSet;"⟩ : MethodName)) (z := (⟨"com/example/brancher/brancher/service/Group", "choices", "(II)Ljava/util/BitSet;"⟩ : MethodName)) hown (mvT hZ (W 144 rfl)) (mvT hZ (W 145 rfl)) (notFace_of_selects (args := #[]) (mvT hZ (W 147 rfl))) (mvT hZ (W 147 rfl)) (mvT hZ (W 146 rfl)) (by decide) (backOf (W := 0) (rmCH l Z a0 hw [] b1016 qm qk M0_2 M1_2 nc T1050.heap n0 zs1058 GRr1050 bqm bqk SN Or1050) hZ (W 148 rfl) (W 47 rfl) (by decide) (by decide)) q1071a q1071c (g := (mkF m 368 #[iv m1, iv c1, iv m2, iv c2, iv q', iv fl, iv a1, iv k1, iv a2, iv k2, iv qm, iv qk, iv (0 : Int32), iv (1 : Int32), rv b991, rv b998, rv b1016, iv (1 : Int32), rv nc, rv b998, iv same, rv b998] [(.int qk), (.int qm), (.ref b1016)])) rfl (by rw [hml]; rfl) (Steps.refl _) (argsL := [(.int qm), (.int qk)]) (rest := []) (lenOf pd296 rfl) rfl (by show 2 * 0 + _ ≤ _; exact Nat.le_of_eq rfl) (hb hby at_368) (fun _ _ => ⟨rfl, eh1061, (by decide : 25 + 0 ≤ _), (by decide : 79 + 0 ≤ _)⟩)
      dsimp only [Pt.U, Pt.locs, Pt.cells, Pt.slots] at X1071 l1071 y1071 z1071 st1071 hQ1071
      subst l1071 y1071 z1071
      obtain ⟨rfl, Nq1071, eh1071⟩ := hQ1071
      have N1071 := Fr.app N1061 Nq1071
      have go1072 : own_S p e below ST T1071 (mkF m 371 #[iv m1, iv c1, iv m2, iv c2, iv q', iv fl, iv a1, iv k1, iv a2, iv k2, iv qm, iv qk, iv (0 : Int32), iv (1 : Int32), rv b991, rv b998, rv b1016, iv (1 : Int32), rv nc, rv b998, iv same, rv b998] [(own_or nc ((if qm = 0 then M0_2 else M1_2).getD (qk).toNatClampNeg .null))]) := fun tt kt => go1070 tt (st1071.trans kt)
      have e_5 : own_or nc ((if qm = 0 then M0_2 else M1_2).getD (qk).toNatClampNeg .null) = .ref b998 := own_orr nc ((s_2 qm qk bqm bqk).trans (if_pos ⟨hz314, hz321⟩))
      obtain ⟨vo5, hvo5⟩ : ∃ z : Value, z = (own_or nc ((if qm = 0 then M0_2 else M1_2).getD (qk).toNatClampNeg .null)) := ⟨_, rfl⟩
      rw [← hvo5] at go1072
      replace e_5 := hvo5.trans e_5
      have go1073 : own_S p e below ST T1071 (mkF m 385 #[iv m1, iv c1, iv m2, iv c2, iv q', iv fl, iv a1, iv k1, iv a2, iv k2, iv qm, iv qk, iv (0 : Int32), iv (1 : Int32), rv b991, rv b998, rv b1016, iv (1 : Int32), rv nc, rv b998, iv same, rv b998] [(.int (1 : Int32))]) := fun tt kt => go1072 tt (by
          refine XS.aload X1071.here hx rfl (hb hby at_371) rfl rfl ?_
          refine Jvm.RoadKit.acmp (g := (mkF m 373 #[iv m1, iv c1, iv m2, iv c2, iv q', iv fl, iv a1, iv k1, iv a2, iv k2, iv qm, iv qk, iv (0 : Int32), iv (1 : Int32), rv b991, rv b998, rv b1016, iv (1 : Int32), rv nc, rv b998, iv same, rv b998] [(.ref b998), vo5])) X1071 hx rfl (by rw [e_5]; rfl) rfl (pc0 := 373) (pc' := 376) (same := true) rfl (hb hby at_373) rfl (decide_eq_true e_5) (by decide) (by decide) ?_
          refine XS.iconst X1071.here hx rfl (hb hby at_376) ?_
          refine XS.goto X1071.here hx rfl (pc0 := 377) (pc' := 381) rfl (hb hby at_377) (by decide) (by decide) ?_
          refine XS.istore X1071.here hx rfl (hb hby at_381) rfl (l' := #[iv m1, iv c1, iv m2, iv c2, iv q', iv fl, iv a1, iv k1, iv a2, iv k2, iv qm, iv qk, iv (0 : Int32), iv (1 : Int32), rv b991, rv b998, rv b1016, iv (1 : Int32), rv nc, rv b998, iv same, rv b998]) rfl ?_
          refine XS.iload X1071.here hx rfl (hb hby at_383) rfl ?_
          exact kt)
      obtain ⟨fs, hr, hrun, hended, hW, hsame⟩ := X1071.leave (v := some (.int (1 : Int32))) (fun h => by rw [Bd.returns] at h; cases h) (hlocks := by first | exact BodyLoose.notSynchronized Bd | exact Body.notSynchronized Bd)
      refine ⟨_, _, pre0 _ (go1073 _ ?_), hrun, hended, _, _, rfl, ?_, ⟨_, rfl⟩, hW, hsame.mono (by decide) (by decide)⟩
      · exact retN X1071 hx (t := .boolean) Bd.returns (by simp) (hb hby at_385) hr
      · show Q0n01 Z m1 c1 m2 c2 q' fl ad kd nc h0 n0 _ T1071.heap _
        rw [eh1071]
        exact ⟨rfl, N1071⟩
    · have go1074 : own_S p e below ST T1061 (mkF m 331 #[iv m1, iv c1, iv m2, iv c2, iv q', iv fl, iv a1, iv k1, iv a2, iv k2, iv qm, iv qk, iv (0 : Int32), iv (1 : Int32), rv b991, rv b998, rv b1016, iv (1 : Int32), rv nc, rv b998, iv same, .unset] []) := fun tt kt => go1068 tt (by
          refine XS.icmpYes X1061.here hx rfl (pc0 := 321) (pc' := 331) rfl (hb hby at_321) rfl (feq hz321).2 (by decide) (by decide) ?_
          exact kt)
      have go1075 : own_S p e below ST T1061 (mkF m 335 #[iv m1, iv c1, iv m2, iv c2, iv q', iv fl, iv a1, iv k1, iv a2, iv k2, iv qm, iv qk, iv (0 : Int32), iv (1 : Int32), rv b991, rv b998, rv b1016, iv (1 : Int32), rv nc, rv b998, iv same, .unset] [(.int a1), (.int qm)]) := fun tt kt => go1074 tt (by
          refine XS.iload X1061.here hx rfl (hb hby at_331) rfl ?_
          refine XS.iload X1061.here hx rfl (hb hby at_333) rfl ?_
          exact kt)
      by_cases hz335 : qm = a1
      · have go1076 : own_S p e below ST T1061 (mkF m 338 #[iv m1, iv c1, iv m2, iv c2, iv q', iv fl, iv a1, iv k1, iv a2, iv k2, iv qm, iv qk, iv (0 : Int32), iv (1 : Int32), rv b991, rv b998, rv b1016, iv (1 : Int32), rv nc, rv b998, iv same, .unset] []) := fun tt kt => go1075 tt (by
            refine XS.icmpNo X1061.here hx rfl (hb hby at_335) rfl (teq hz335).2 ?_
            exact kt)
        have go1077 : own_S p e below ST T1061 (mkF m 342 #[iv m1, iv c1, iv m2, iv c2, iv q', iv fl, iv a1, iv k1, iv a2, iv k2, iv qm, iv qk, iv (0 : Int32), iv (1 : Int32), rv b991, rv b998, rv b1016, iv (1 : Int32), rv nc, rv b998, iv same, .unset] [(.int k1), (.int qk)]) := fun tt kt => go1076 tt (by
            refine XS.iload X1061.here hx rfl (hb hby at_338) rfl ?_
            refine XS.iload X1061.here hx rfl (hb hby at_340) rfl ?_
            exact kt)
        by_cases hz342 : qk = k1
        · have go1078 : own_S p e below ST T1061 (mkF m 345 #[iv m1, iv c1, iv m2, iv c2, iv q', iv fl, iv a1, iv k1, iv a2, iv k2, iv qm, iv qk, iv (0 : Int32), iv (1 : Int32), rv b991, rv b998, rv b1016, iv (1 : Int32), rv nc, rv b998, iv same, .unset] []) := fun tt kt => go1077 tt (by
              refine XS.icmpNo X1061.here hx rfl (hb hby at_342) rfl (teq hz342).2 ?_
              exact kt)
          have go1079 : own_S p e below ST T1061 (mkF m 368 #[iv m1, iv c1, iv m2, iv c2, iv q', iv fl, iv a1, iv k1, iv a2, iv k2, iv qm, iv qk, iv (0 : Int32), iv (1 : Int32), rv b991, rv b998, rv b1016, iv (1 : Int32), rv nc, rv b998, iv same, rv nc] [(.int qk), (.int qm), (.ref b1016)]) := fun tt kt => go1078 tt (by
              refine XS.aload X1061.here hx rfl (hb hby at_345) rfl rfl ?_
              refine XS.astore X1061.here hx rfl (hb hby at_347) rfl rfl (l' := #[iv m1, iv c1, iv m2, iv c2, iv q', iv fl, iv a1, iv k1, iv a2, iv k2, iv qm, iv qk, iv (0 : Int32), iv (1 : Int32), rv b991, rv b998, rv b1016, iv (1 : Int32), rv nc, rv b998, iv same, rv nc]) rfl ?_
              refine XS.goto X1061.here hx rfl (pc0 := 349) (pc' := 357) rfl (hb hby at_349) (by decide) (by decide) ?_
              refine XS.iload X1061.here hx rfl (hb hby at_357) rfl ?_
              refine XS.ifNo X1061.here hx rfl (hb hby at_359) rfl ((if0 _ _).trans (feq (by decide : ¬ ((1 : Int32) = (0 : Int32)))).1) ?_
              refine XS.aload X1061.here hx rfl (hb hby at_362) rfl rfl ?_
              show Steps p.tables e below (T1061.setTop (mkF m 364 #[iv m1, iv c1, iv m2, iv c2, iv q', iv fl, iv a1, iv k1, iv a2, iv k2, iv qm, iv qk, iv (0 : Int32), iv (1 : Int32), rv b991, rv b998, rv b1016, iv (1 : Int32), rv nc, rv b998, iv same, rv nc] [(.ref b1016)])) _
              refine XS.iload X1061.here hx rfl (hb hby at_364) rfl ?_
              refine XS.iload X1061.here hx rfl (hb hby at_366) rfl ?_
              exact kt)
          obtain ⟨cq1080, kq1080, q1080a, q1080b, q1080c⟩ := isOf hZ eh1061 Eg1050
          obtain ⟨_, _, ⟨T1080, L1080, k1080, n1080⟩, -, X1080, ⟨Lc1080, hQ1080, l1080, y1080, z1080⟩, st1080⟩ := X1061.virtualBack hx (y := (⟨"com/example/brancher/brancher/service/Group", "choices", "(II)Ljava/util/BitSet;"⟩ : MethodName)) (z := (⟨"com/example/brancher/brancher/service/Group", "choices", "(II)Ljava/util/BitSet;"⟩ : MethodName)) hown (mvT hZ (W 144 rfl)) (mvT hZ (W 145 rfl)) (notFace_of_selects (args := #[]) (mvT hZ (W 147 rfl))) (mvT hZ (W 147 rfl)) (mvT hZ (W 146 rfl)) (by decide) (backOf (W := 0) (rmCH l Z a0 hw [] b1016 qm qk M0_2 M1_2 nc T1050.heap n0 zs1058 GRr1050 bqm bqk SN Or1050) hZ (W 148 rfl) (W 47 rfl) (by decide) (by decide)) q1080a q1080c (g := (mkF m 368 #[iv m1, iv c1, iv m2, iv c2, iv q', iv fl, iv a1, iv k1, iv a2, iv k2, iv qm, iv qk, iv (0 : Int32), iv (1 : Int32), rv b991, rv b998, rv b1016, iv (1 : Int32), rv nc, rv b998, iv same, rv nc] [(.int qk), (.int qm), (.ref b1016)])) rfl (by rw [hml]; rfl) (Steps.refl _) (argsL := [(.int qm), (.int qk)]) (rest := []) (lenOf pd296 rfl) rfl (by show 2 * 0 + _ ≤ _; exact Nat.le_of_eq rfl) (hb hby at_368) (fun _ _ => ⟨rfl, eh1061, (by decide : 25 + 0 ≤ _), (by decide : 79 + 0 ≤ _)⟩)
          dsimp only [Pt.U, Pt.locs, Pt.cells, Pt.slots] at X1080 l1080 y1080 z1080 st1080 hQ1080
          subst l1080 y1080 z1080
          obtain ⟨rfl, Nq1080, eh1080⟩ := hQ1080
          have N1080 := Fr.app N1061 Nq1080
          have go1081 : own_S p e below ST T1080 (mkF m 371 #[iv m1, iv c1, iv m2, iv c2, iv q', iv fl, iv a1, iv k1, iv a2, iv k2, iv qm, iv qk, iv (0 : Int32), iv (1 : Int32), rv b991, rv b998, rv b1016, iv (1 : Int32), rv nc, rv b998, iv same, rv nc] [(own_or nc ((if qm = 0 then M0_2 else M1_2).getD (qk).toNatClampNeg .null))]) := fun tt kt => go1079 tt (st1080.trans kt)
          have e_5 : own_or nc ((if qm = 0 then M0_2 else M1_2).getD (qk).toNatClampNeg .null) = .ref nc := own_orn nc ((s_2 qm qk bqm bqk).trans ((if_neg fun q => hz321 q.2).trans (if_pos ⟨hz335, hz342⟩)))
          obtain ⟨vo5, hvo5⟩ : ∃ z : Value, z = (own_or nc ((if qm = 0 then M0_2 else M1_2).getD (qk).toNatClampNeg .null)) := ⟨_, rfl⟩
          rw [← hvo5] at go1081
          replace e_5 := hvo5.trans e_5
          have go1082 : own_S p e below ST T1080 (mkF m 385 #[iv m1, iv c1, iv m2, iv c2, iv q', iv fl, iv a1, iv k1, iv a2, iv k2, iv qm, iv qk, iv (0 : Int32), iv (1 : Int32), rv b991, rv b998, rv b1016, iv (1 : Int32), rv nc, rv b998, iv same, rv nc] [(.int (1 : Int32))]) := fun tt kt => go1081 tt (by
              refine XS.aload X1080.here hx rfl (hb hby at_371) rfl rfl ?_
              refine Jvm.RoadKit.acmp (g := (mkF m 373 #[iv m1, iv c1, iv m2, iv c2, iv q', iv fl, iv a1, iv k1, iv a2, iv k2, iv qm, iv qk, iv (0 : Int32), iv (1 : Int32), rv b991, rv b998, rv b1016, iv (1 : Int32), rv nc, rv b998, iv same, rv nc] [(.ref nc), vo5])) X1080 hx rfl (by rw [e_5]; rfl) rfl (pc0 := 373) (pc' := 376) (same := true) rfl (hb hby at_373) rfl (decide_eq_true e_5) (by decide) (by decide) ?_
              refine XS.iconst X1080.here hx rfl (hb hby at_376) ?_
              refine XS.goto X1080.here hx rfl (pc0 := 377) (pc' := 381) rfl (hb hby at_377) (by decide) (by decide) ?_
              refine XS.istore X1080.here hx rfl (hb hby at_381) rfl (l' := #[iv m1, iv c1, iv m2, iv c2, iv q', iv fl, iv a1, iv k1, iv a2, iv k2, iv qm, iv qk, iv (0 : Int32), iv (1 : Int32), rv b991, rv b998, rv b1016, iv (1 : Int32), rv nc, rv b998, iv same, rv nc]) rfl ?_
              refine XS.iload X1080.here hx rfl (hb hby at_383) rfl ?_
              exact kt)
          obtain ⟨fs, hr, hrun, hended, hW, hsame⟩ := X1080.leave (v := some (.int (1 : Int32))) (fun h => by rw [Bd.returns] at h; cases h) (hlocks := by first | exact BodyLoose.notSynchronized Bd | exact Body.notSynchronized Bd)
          refine ⟨_, _, pre0 _ (go1082 _ ?_), hrun, hended, _, _, rfl, ?_, ⟨_, rfl⟩, hW, hsame.mono (by decide) (by decide)⟩
          · exact retN X1080 hx (t := .boolean) Bd.returns (by simp) (hb hby at_385) hr
          · show Q0n01 Z m1 c1 m2 c2 q' fl ad kd nc h0 n0 _ T1080.heap _
            rw [eh1080]
            exact ⟨rfl, N1080⟩
        · have go1083 : own_S p e below ST T1061 (mkF m 352 #[iv m1, iv c1, iv m2, iv c2, iv q', iv fl, iv a1, iv k1, iv a2, iv k2, iv qm, iv qk, iv (0 : Int32), iv (1 : Int32), rv b991, rv b998, rv b1016, iv (1 : Int32), rv nc, rv b998, iv same, .unset] []) := fun tt kt => go1077 tt (by
              refine XS.icmpYes X1061.here hx rfl (pc0 := 342) (pc' := 352) rfl (hb hby at_342) rfl (feq hz342).2 (by decide) (by decide) ?_
              exact kt)
          obtain ⟨T1084, X1084, e1084, st1084⟩ := getS2 X1061 hx hZ hown (host := "") (Or.inl (W 151 rfl)) Via.refl eh1061 (SN.ext Or1050.2) (g := (mkF m 352 #[iv m1, iv c1, iv m2, iv c2, iv q', iv fl, iv a1, iv k1, iv a2, iv k2, iv qm, iv qk, iv (0 : Int32), iv (1 : Int32), rv b991, rv b998, rv b1016, iv (1 : Int32), rv nc, rv b998, iv same, .unset] [])) rfl (hb hby at_352)
          have go1085 : own_S p e below ST T1084 (mkF m 355 #[iv m1, iv c1, iv m2, iv c2, iv q', iv fl, iv a1, iv k1, iv a2, iv k2, iv qm, iv qk, iv (0 : Int32), iv (1 : Int32), rv b991, rv b998, rv b1016, iv (1 : Int32), rv nc, rv b998, iv same, .unset] [(.ref nc)]) := fun tt kt => go1083 tt (st1084 _ kt)
          have go1086 : own_S p e below ST T1084 (mkF m 368 #[iv m1, iv c1, iv m2, iv c2, iv q', iv fl, iv a1, iv k1, iv a2, iv k2, iv qm, iv qk, iv (0 : Int32), iv (1 : Int32), rv b991, rv b998, rv b1016, iv (1 : Int32), rv nc, rv b998, iv same, rv nc] [(.int qk), (.int qm), (.ref b1016)]) := fun tt kt => go1085 tt (by
              refine XS.astore X1084.here hx rfl (hb hby at_355) rfl rfl (l' := #[iv m1, iv c1, iv m2, iv c2, iv q', iv fl, iv a1, iv k1, iv a2, iv k2, iv qm, iv qk, iv (0 : Int32), iv (1 : Int32), rv b991, rv b998, rv b1016, iv (1 : Int32), rv nc, rv b998, iv same, rv nc]) rfl ?_
              refine XS.iload X1084.here hx rfl (hb hby at_357) rfl ?_
              refine XS.ifNo X1084.here hx rfl (hb hby at_359) rfl ((if0 _ _).trans (feq (by decide : ¬ ((1 : Int32) = (0 : Int32)))).1) ?_
              refine XS.aload X1084.here hx rfl (hb hby at_362) rfl rfl ?_
              refine XS.iload X1084.here hx rfl (hb hby at_364) rfl ?_
              refine XS.iload X1084.here hx rfl (hb hby at_366) rfl ?_
              exact kt)
          obtain ⟨cq1087, kq1087, q1087a, q1087b, q1087c⟩ := isOf hZ e1084 Eg1050
          obtain ⟨_, _, ⟨T1087, L1087, k1087, n1087⟩, -, X1087, ⟨Lc1087, hQ1087, l1087, y1087, z1087⟩, st1087⟩ := X1084.virtualBack hx (y := (⟨"com/example/brancher/brancher/service/Group", "choices", "(II)Ljava/util/BitSet;"⟩ : MethodName)) (z := (⟨"com/example/brancher/brancher/service/Group", "choices", "(II)Ljava/util/BitSet;"⟩ : MethodName)) hown (mvT hZ (W 144 rfl)) (mvT hZ (W 145 rfl)) (notFace_of_selects (args := #[]) (mvT hZ (W 147 rfl))) (mvT hZ (W 147 rfl)) (mvT hZ (W 146 rfl)) (by decide) (backOf (W := 0) (rmCH l Z a0 hw [] b1016 qm qk M0_2 M1_2 nc T1050.heap n0 zs1058 GRr1050 bqm bqk SN Or1050) hZ (W 148 rfl) (W 47 rfl) (by decide) (by decide)) q1087a q1087c (g := (mkF m 368 #[iv m1, iv c1, iv m2, iv c2, iv q', iv fl, iv a1, iv k1, iv a2, iv k2, iv qm, iv qk, iv (0 : Int32), iv (1 : Int32), rv b991, rv b998, rv b1016, iv (1 : Int32), rv nc, rv b998, iv same, rv nc] [(.int qk), (.int qm), (.ref b1016)])) rfl (by rw [hml]; rfl) (Steps.refl _) (argsL := [(.int qm), (.int qk)]) (rest := []) (lenOf pd296 rfl) rfl (by show 2 * 0 + _ ≤ _; exact Nat.le_of_eq rfl) (hb hby at_368) (fun _ _ => ⟨rfl, e1084, (by decide : 25 + 0 ≤ _), (by decide : 79 + 0 ≤ _)⟩)
          dsimp only [Pt.U, Pt.locs, Pt.cells, Pt.slots] at X1087 l1087 y1087 z1087 st1087 hQ1087
          subst l1087 y1087 z1087
          obtain ⟨rfl, Nq1087, eh1087⟩ := hQ1087
          have N1087 := Fr.app N1061 Nq1087
          have go1088 : own_S p e below ST T1087 (mkF m 371 #[iv m1, iv c1, iv m2, iv c2, iv q', iv fl, iv a1, iv k1, iv a2, iv k2, iv qm, iv qk, iv (0 : Int32), iv (1 : Int32), rv b991, rv b998, rv b1016, iv (1 : Int32), rv nc, rv b998, iv same, rv nc] [(own_or nc ((if qm = 0 then M0_2 else M1_2).getD (qk).toNatClampNeg .null))]) := fun tt kt => go1086 tt (st1087.trans kt)
          have go1089 : own_S p e below ST T1087 (mkF m 373 #[iv m1, iv c1, iv m2, iv c2, iv q', iv fl, iv a1, iv k1, iv a2, iv k2, iv qm, iv qk, iv (0 : Int32), iv (1 : Int32), rv b991, rv b998, rv b1016, iv (1 : Int32), rv nc, rv b998, iv same, rv nc] [(.ref nc), (own_or nc ((if qm = 0 then M0_2 else M1_2).getD (qk).toNatClampNeg .null))]) := fun tt kt => go1088 tt (by
              refine XS.aload X1087.here hx rfl (hb hby at_371) rfl rfl ?_
              exact kt)
          have e_5 : own_or nc ((if qm = 0 then M0_2 else M1_2).getD (qk).toNatClampNeg .null) = .ref nc := own_orn nc ((s_2 qm qk bqm bqk).trans ((if_neg fun q => hz321 q.2).trans (if_neg fun q => hz342 q.2)))
          obtain ⟨vo5, hvo5⟩ : ∃ z : Value, z = (own_or nc ((if qm = 0 then M0_2 else M1_2).getD (qk).toNatClampNeg .null)) := ⟨_, rfl⟩
          rw [← hvo5] at go1089
          replace e_5 := hvo5.trans e_5
          have go1090 : own_S p e below ST T1087 (mkF m 385 #[iv m1, iv c1, iv m2, iv c2, iv q', iv fl, iv a1, iv k1, iv a2, iv k2, iv qm, iv qk, iv (0 : Int32), iv (1 : Int32), rv b991, rv b998, rv b1016, iv (1 : Int32), rv nc, rv b998, iv same, rv nc] [(.int (1 : Int32))]) := fun tt kt => go1089 tt (by
              refine Jvm.RoadKit.acmp (g := (mkF m 373 #[iv m1, iv c1, iv m2, iv c2, iv q', iv fl, iv a1, iv k1, iv a2, iv k2, iv qm, iv qk, iv (0 : Int32), iv (1 : Int32), rv b991, rv b998, rv b1016, iv (1 : Int32), rv nc, rv b998, iv same, rv nc] [(.ref nc), vo5])) X1087 hx rfl (by rw [e_5]; rfl) rfl (pc0 := 373) (pc' := 376) (same := true) rfl (hb hby at_373) rfl (decide_eq_true e_5) (by decide) (by decide) ?_
              refine XS.iconst X1087.here hx rfl (hb hby at_376) ?_
              refine XS.goto X1087.here hx rfl (pc0 := 377) (pc' := 381) rfl (hb hby at_377) (by decide) (by decide) ?_
              refine XS.istore X1087.here hx rfl (hb hby at_381) rfl (l' := #[iv m1, iv c1, iv m2, iv c2, iv q', iv fl, iv a1, iv k1, iv a2, iv k2, iv qm, iv qk, iv (0 : Int32), iv (1 : Int32), rv b991, rv b998, rv b1016, iv (1 : Int32), rv nc, rv b998, iv same, rv nc]) rfl ?_
              refine XS.iload X1087.here hx rfl (hb hby at_383) rfl ?_
              exact kt)
          obtain ⟨fs, hr, hrun, hended, hW, hsame⟩ := X1087.leave (v := some (.int (1 : Int32))) (fun h => by rw [Bd.returns] at h; cases h) (hlocks := by first | exact BodyLoose.notSynchronized Bd | exact Body.notSynchronized Bd)
          refine ⟨_, _, pre0 _ (go1090 _ ?_), hrun, hended, _, _, rfl, ?_, ⟨_, rfl⟩, hW, hsame.mono (by decide) (by decide)⟩
          · exact retN X1087 hx (t := .boolean) Bd.returns (by simp) (hb hby at_385) hr
          · show Q0n01 Z m1 c1 m2 c2 q' fl ad kd nc h0 n0 _ T1087.heap _
            rw [eh1087]
            exact ⟨rfl, N1087⟩
      · have go1091 : own_S p e below ST T1061 (mkF m 352 #[iv m1, iv c1, iv m2, iv c2, iv q', iv fl, iv a1, iv k1, iv a2, iv k2, iv qm, iv qk, iv (0 : Int32), iv (1 : Int32), rv b991, rv b998, rv b1016, iv (1 : Int32), rv nc, rv b998, iv same, .unset] []) := fun tt kt => go1075 tt (by
            refine XS.icmpYes X1061.here hx rfl (pc0 := 335) (pc' := 352) rfl (hb hby at_335) rfl (feq hz335).2 (by decide) (by decide) ?_
            exact kt)
        obtain ⟨T1092, X1092, e1092, st1092⟩ := getS2 X1061 hx hZ hown (host := "") (Or.inl (W 151 rfl)) Via.refl eh1061 (SN.ext Or1050.2) (g := (mkF m 352 #[iv m1, iv c1, iv m2, iv c2, iv q', iv fl, iv a1, iv k1, iv a2, iv k2, iv qm, iv qk, iv (0 : Int32), iv (1 : Int32), rv b991, rv b998, rv b1016, iv (1 : Int32), rv nc, rv b998, iv same, .unset] [])) rfl (hb hby at_352)
        have go1093 : own_S p e below ST T1092 (mkF m 355 #[iv m1, iv c1, iv m2, iv c2, iv q', iv fl, iv a1, iv k1, iv a2, iv k2, iv qm, iv qk, iv (0 : Int32), iv (1 : Int32), rv b991, rv b998, rv b1016, iv (1 : Int32), rv nc, rv b998, iv same, .unset] [(.ref nc)]) := fun tt kt => go1091 tt (st1092 _ kt)
        have go1094 : own_S p e below ST T1092 (mkF m 368 #[iv m1, iv c1, iv m2, iv c2, iv q', iv fl, iv a1, iv k1, iv a2, iv k2, iv qm, iv qk, iv (0 : Int32), iv (1 : Int32), rv b991, rv b998, rv b1016, iv (1 : Int32), rv nc, rv b998, iv same, rv nc] [(.int qk), (.int qm), (.ref b1016)]) := fun tt kt => go1093 tt (by
            refine XS.astore X1092.here hx rfl (hb hby at_355) rfl rfl (l' := #[iv m1, iv c1, iv m2, iv c2, iv q', iv fl, iv a1, iv k1, iv a2, iv k2, iv qm, iv qk, iv (0 : Int32), iv (1 : Int32), rv b991, rv b998, rv b1016, iv (1 : Int32), rv nc, rv b998, iv same, rv nc]) rfl ?_
            refine XS.iload X1092.here hx rfl (hb hby at_357) rfl ?_
            refine XS.ifNo X1092.here hx rfl (hb hby at_359) rfl ((if0 _ _).trans (feq (by decide : ¬ ((1 : Int32) = (0 : Int32)))).1) ?_
            refine XS.aload X1092.here hx rfl (hb hby at_362) rfl rfl ?_
            refine XS.iload X1092.here hx rfl (hb hby at_364) rfl ?_
            refine XS.iload X1092.here hx rfl (hb hby at_366) rfl ?_
            exact kt)
        obtain ⟨cq1095, kq1095, q1095a, q1095b, q1095c⟩ := isOf hZ e1092 Eg1050
        obtain ⟨_, _, ⟨T1095, L1095, k1095, n1095⟩, -, X1095, ⟨Lc1095, hQ1095, l1095, y1095, z1095⟩, st1095⟩ := X1092.virtualBack hx (y := (⟨"com/example/brancher/brancher/service/Group", "choices", "(II)Ljava/util/BitSet;"⟩ : MethodName)) (z := (⟨"com/example/brancher/brancher/service/Group", "choices", "(II)Ljava/util/BitSet;"⟩ : MethodName)) hown (mvT hZ (W 144 rfl)) (mvT hZ (W 145 rfl)) (notFace_of_selects (args := #[]) (mvT hZ (W 147 rfl))) (mvT hZ (W 147 rfl)) (mvT hZ (W 146 rfl)) (by decide) (backOf (W := 0) (rmCH l Z a0 hw [] b1016 qm qk M0_2 M1_2 nc T1050.heap n0 zs1058 GRr1050 bqm bqk SN Or1050) hZ (W 148 rfl) (W 47 rfl) (by decide) (by decide)) q1095a q1095c (g := (mkF m 368 #[iv m1, iv c1, iv m2, iv c2, iv q', iv fl, iv a1, iv k1, iv a2, iv k2, iv qm, iv qk, iv (0 : Int32), iv (1 : Int32), rv b991, rv b998, rv b1016, iv (1 : Int32), rv nc, rv b998, iv same, rv nc] [(.int qk), (.int qm), (.ref b1016)])) rfl (by rw [hml]; rfl) (Steps.refl _) (argsL := [(.int qm), (.int qk)]) (rest := []) (lenOf pd296 rfl) rfl (by show 2 * 0 + _ ≤ _; exact Nat.le_of_eq rfl) (hb hby at_368) (fun _ _ => ⟨rfl, e1092, (by decide : 25 + 0 ≤ _), (by decide : 79 + 0 ≤ _)⟩)
        dsimp only [Pt.U, Pt.locs, Pt.cells, Pt.slots] at X1095 l1095 y1095 z1095 st1095 hQ1095
        subst l1095 y1095 z1095
        obtain ⟨rfl, Nq1095, eh1095⟩ := hQ1095
        have N1095 := Fr.app N1061 Nq1095
        have go1096 : own_S p e below ST T1095 (mkF m 371 #[iv m1, iv c1, iv m2, iv c2, iv q', iv fl, iv a1, iv k1, iv a2, iv k2, iv qm, iv qk, iv (0 : Int32), iv (1 : Int32), rv b991, rv b998, rv b1016, iv (1 : Int32), rv nc, rv b998, iv same, rv nc] [(own_or nc ((if qm = 0 then M0_2 else M1_2).getD (qk).toNatClampNeg .null))]) := fun tt kt => go1094 tt (st1095.trans kt)
        have go1097 : own_S p e below ST T1095 (mkF m 373 #[iv m1, iv c1, iv m2, iv c2, iv q', iv fl, iv a1, iv k1, iv a2, iv k2, iv qm, iv qk, iv (0 : Int32), iv (1 : Int32), rv b991, rv b998, rv b1016, iv (1 : Int32), rv nc, rv b998, iv same, rv nc] [(.ref nc), (own_or nc ((if qm = 0 then M0_2 else M1_2).getD (qk).toNatClampNeg .null))]) := fun tt kt => go1096 tt (by
            refine XS.aload X1095.here hx rfl (hb hby at_371) rfl rfl ?_
            exact kt)
        have e_5 : own_or nc ((if qm = 0 then M0_2 else M1_2).getD (qk).toNatClampNeg .null) = .ref nc := own_orn nc ((s_2 qm qk bqm bqk).trans ((if_neg fun q => hz321 q.2).trans (if_neg fun q => hz335 q.1)))
        obtain ⟨vo5, hvo5⟩ : ∃ z : Value, z = (own_or nc ((if qm = 0 then M0_2 else M1_2).getD (qk).toNatClampNeg .null)) := ⟨_, rfl⟩
        rw [← hvo5] at go1097
        replace e_5 := hvo5.trans e_5
        have go1098 : own_S p e below ST T1095 (mkF m 385 #[iv m1, iv c1, iv m2, iv c2, iv q', iv fl, iv a1, iv k1, iv a2, iv k2, iv qm, iv qk, iv (0 : Int32), iv (1 : Int32), rv b991, rv b998, rv b1016, iv (1 : Int32), rv nc, rv b998, iv same, rv nc] [(.int (1 : Int32))]) := fun tt kt => go1097 tt (by
            refine Jvm.RoadKit.acmp (g := (mkF m 373 #[iv m1, iv c1, iv m2, iv c2, iv q', iv fl, iv a1, iv k1, iv a2, iv k2, iv qm, iv qk, iv (0 : Int32), iv (1 : Int32), rv b991, rv b998, rv b1016, iv (1 : Int32), rv nc, rv b998, iv same, rv nc] [(.ref nc), vo5])) X1095 hx rfl (by rw [e_5]; rfl) rfl (pc0 := 373) (pc' := 376) (same := true) rfl (hb hby at_373) rfl (decide_eq_true e_5) (by decide) (by decide) ?_
            refine XS.iconst X1095.here hx rfl (hb hby at_376) ?_
            refine XS.goto X1095.here hx rfl (pc0 := 377) (pc' := 381) rfl (hb hby at_377) (by decide) (by decide) ?_
            refine XS.istore X1095.here hx rfl (hb hby at_381) rfl (l' := #[iv m1, iv c1, iv m2, iv c2, iv q', iv fl, iv a1, iv k1, iv a2, iv k2, iv qm, iv qk, iv (0 : Int32), iv (1 : Int32), rv b991, rv b998, rv b1016, iv (1 : Int32), rv nc, rv b998, iv same, rv nc]) rfl ?_
            refine XS.iload X1095.here hx rfl (hb hby at_383) rfl ?_
            exact kt)
        obtain ⟨fs, hr, hrun, hended, hW, hsame⟩ := X1095.leave (v := some (.int (1 : Int32))) (fun h => by rw [Bd.returns] at h; cases h) (hlocks := by first | exact BodyLoose.notSynchronized Bd | exact Body.notSynchronized Bd)
        refine ⟨_, _, pre0 _ (go1098 _ ?_), hrun, hended, _, _, rfl, ?_, ⟨_, rfl⟩, hW, hsame.mono (by decide) (by decide)⟩
        · exact retN X1095 hx (t := .boolean) Bd.returns (by simp) (hb hby at_385) hr
        · show Q0n01 Z m1 c1 m2 c2 q' fl ad kd nc h0 n0 _ T1095.heap _
          rw [eh1095]
          exact ⟨rfl, N1095⟩
  · have go1099 : own_S p e below ST T1061 (mkF m 331 #[iv m1, iv c1, iv m2, iv c2, iv q', iv fl, iv a1, iv k1, iv a2, iv k2, iv qm, iv qk, iv (0 : Int32), iv (1 : Int32), rv b991, rv b998, rv b1016, iv (1 : Int32), rv nc, rv b998, iv same, .unset] []) := fun tt kt => go1066 tt (by
        refine XS.icmpYes X1061.here hx rfl (pc0 := 314) (pc' := 331) rfl (hb hby at_314) rfl (feq hz314).2 (by decide) (by decide) ?_
        exact kt)
    have go1100 : own_S p e below ST T1061 (mkF m 335 #[iv m1, iv c1, iv m2, iv c2, iv q', iv fl, iv a1, iv k1, iv a2, iv k2, iv qm, iv qk, iv (0 : Int32), iv (1 : Int32), rv b991, rv b998, rv b1016, iv (1 : Int32), rv nc, rv b998, iv same, .unset] [(.int a1), (.int qm)]) := fun tt kt => go1099 tt (by
        refine XS.iload X1061.here hx rfl (hb hby at_331) rfl ?_
        refine XS.iload X1061.here hx rfl (hb hby at_333) rfl ?_
        exact kt)
    by_cases hz335 : qm = a1
    · have go1101 : own_S p e below ST T1061 (mkF m 338 #[iv m1, iv c1, iv m2, iv c2, iv q', iv fl, iv a1, iv k1, iv a2, iv k2, iv qm, iv qk, iv (0 : Int32), iv (1 : Int32), rv b991, rv b998, rv b1016, iv (1 : Int32), rv nc, rv b998, iv same, .unset] []) := fun tt kt => go1100 tt (by
          refine XS.icmpNo X1061.here hx rfl (hb hby at_335) rfl (teq hz335).2 ?_
          exact kt)
      have go1102 : own_S p e below ST T1061 (mkF m 342 #[iv m1, iv c1, iv m2, iv c2, iv q', iv fl, iv a1, iv k1, iv a2, iv k2, iv qm, iv qk, iv (0 : Int32), iv (1 : Int32), rv b991, rv b998, rv b1016, iv (1 : Int32), rv nc, rv b998, iv same, .unset] [(.int k1), (.int qk)]) := fun tt kt => go1101 tt (by
          refine XS.iload X1061.here hx rfl (hb hby at_338) rfl ?_
          refine XS.iload X1061.here hx rfl (hb hby at_340) rfl ?_
          exact kt)
      by_cases hz342 : qk = k1
      · have go1103 : own_S p e below ST T1061 (mkF m 345 #[iv m1, iv c1, iv m2, iv c2, iv q', iv fl, iv a1, iv k1, iv a2, iv k2, iv qm, iv qk, iv (0 : Int32), iv (1 : Int32), rv b991, rv b998, rv b1016, iv (1 : Int32), rv nc, rv b998, iv same, .unset] []) := fun tt kt => go1102 tt (by
            refine XS.icmpNo X1061.here hx rfl (hb hby at_342) rfl (teq hz342).2 ?_
            exact kt)
        have go1104 : own_S p e below ST T1061 (mkF m 368 #[iv m1, iv c1, iv m2, iv c2, iv q', iv fl, iv a1, iv k1, iv a2, iv k2, iv qm, iv qk, iv (0 : Int32), iv (1 : Int32), rv b991, rv b998, rv b1016, iv (1 : Int32), rv nc, rv b998, iv same, rv nc] [(.int qk), (.int qm), (.ref b1016)]) := fun tt kt => go1103 tt (by
            refine XS.aload X1061.here hx rfl (hb hby at_345) rfl rfl ?_
            refine XS.astore X1061.here hx rfl (hb hby at_347) rfl rfl (l' := #[iv m1, iv c1, iv m2, iv c2, iv q', iv fl, iv a1, iv k1, iv a2, iv k2, iv qm, iv qk, iv (0 : Int32), iv (1 : Int32), rv b991, rv b998, rv b1016, iv (1 : Int32), rv nc, rv b998, iv same, rv nc]) rfl ?_
            refine XS.goto X1061.here hx rfl (pc0 := 349) (pc' := 357) rfl (hb hby at_349) (by decide) (by decide) ?_
            refine XS.iload X1061.here hx rfl (hb hby at_357) rfl ?_
            refine XS.ifNo X1061.here hx rfl (hb hby at_359) rfl ((if0 _ _).trans (feq (by decide : ¬ ((1 : Int32) = (0 : Int32)))).1) ?_
            refine XS.aload X1061.here hx rfl (hb hby at_362) rfl rfl ?_
            show Steps p.tables e below (T1061.setTop (mkF m 364 #[iv m1, iv c1, iv m2, iv c2, iv q', iv fl, iv a1, iv k1, iv a2, iv k2, iv qm, iv qk, iv (0 : Int32), iv (1 : Int32), rv b991, rv b998, rv b1016, iv (1 : Int32), rv nc, rv b998, iv same, rv nc] [(.ref b1016)])) _
            refine XS.iload X1061.here hx rfl (hb hby at_364) rfl ?_
            refine XS.iload X1061.here hx rfl (hb hby at_366) rfl ?_
            exact kt)
        obtain ⟨cq1105, kq1105, q1105a, q1105b, q1105c⟩ := isOf hZ eh1061 Eg1050
        obtain ⟨_, _, ⟨T1105, L1105, k1105, n1105⟩, -, X1105, ⟨Lc1105, hQ1105, l1105, y1105, z1105⟩, st1105⟩ := X1061.virtualBack hx (y := (⟨"com/example/brancher/brancher/service/Group", "choices", "(II)Ljava/util/BitSet;"⟩ : MethodName)) (z := (⟨"com/example/brancher/brancher/service/Group", "choices", "(II)Ljava/util/BitSet;"⟩ : MethodName)) hown (mvT hZ (W 144 rfl)) (mvT hZ (W 145 rfl)) (notFace_of_selects (args := #[]) (mvT hZ (W 147 rfl))) (mvT hZ (W 147 rfl)) (mvT hZ (W 146 rfl)) (by decide) (backOf (W := 0) (rmCH l Z a0 hw [] b1016 qm qk M0_2 M1_2 nc T1050.heap n0 zs1058 GRr1050 bqm bqk SN Or1050) hZ (W 148 rfl) (W 47 rfl) (by decide) (by decide)) q1105a q1105c (g := (mkF m 368 #[iv m1, iv c1, iv m2, iv c2, iv q', iv fl, iv a1, iv k1, iv a2, iv k2, iv qm, iv qk, iv (0 : Int32), iv (1 : Int32), rv b991, rv b998, rv b1016, iv (1 : Int32), rv nc, rv b998, iv same, rv nc] [(.int qk), (.int qm), (.ref b1016)])) rfl (by rw [hml]; rfl) (Steps.refl _) (argsL := [(.int qm), (.int qk)]) (rest := []) (lenOf pd296 rfl) rfl (by show 2 * 0 + _ ≤ _; exact Nat.le_of_eq rfl) (hb hby at_368) (fun _ _ => ⟨rfl, eh1061, (by decide : 25 + 0 ≤ _), (by decide : 79 + 0 ≤ _)⟩)
        dsimp only [Pt.U, Pt.locs, Pt.cells, Pt.slots] at X1105 l1105 y1105 z1105 st1105 hQ1105
        subst l1105 y1105 z1105
        obtain ⟨rfl, Nq1105, eh1105⟩ := hQ1105
        have N1105 := Fr.app N1061 Nq1105
        have go1106 : own_S p e below ST T1105 (mkF m 371 #[iv m1, iv c1, iv m2, iv c2, iv q', iv fl, iv a1, iv k1, iv a2, iv k2, iv qm, iv qk, iv (0 : Int32), iv (1 : Int32), rv b991, rv b998, rv b1016, iv (1 : Int32), rv nc, rv b998, iv same, rv nc] [(own_or nc ((if qm = 0 then M0_2 else M1_2).getD (qk).toNatClampNeg .null))]) := fun tt kt => go1104 tt (st1105.trans kt)
        have e_5 : own_or nc ((if qm = 0 then M0_2 else M1_2).getD (qk).toNatClampNeg .null) = .ref nc := own_orn nc ((s_2 qm qk bqm bqk).trans ((if_neg fun q => hz314 q.1).trans (if_pos ⟨hz335, hz342⟩)))
        obtain ⟨vo5, hvo5⟩ : ∃ z : Value, z = (own_or nc ((if qm = 0 then M0_2 else M1_2).getD (qk).toNatClampNeg .null)) := ⟨_, rfl⟩
        rw [← hvo5] at go1106
        replace e_5 := hvo5.trans e_5
        have go1107 : own_S p e below ST T1105 (mkF m 385 #[iv m1, iv c1, iv m2, iv c2, iv q', iv fl, iv a1, iv k1, iv a2, iv k2, iv qm, iv qk, iv (0 : Int32), iv (1 : Int32), rv b991, rv b998, rv b1016, iv (1 : Int32), rv nc, rv b998, iv same, rv nc] [(.int (1 : Int32))]) := fun tt kt => go1106 tt (by
            refine XS.aload X1105.here hx rfl (hb hby at_371) rfl rfl ?_
            refine Jvm.RoadKit.acmp (g := (mkF m 373 #[iv m1, iv c1, iv m2, iv c2, iv q', iv fl, iv a1, iv k1, iv a2, iv k2, iv qm, iv qk, iv (0 : Int32), iv (1 : Int32), rv b991, rv b998, rv b1016, iv (1 : Int32), rv nc, rv b998, iv same, rv nc] [(.ref nc), vo5])) X1105 hx rfl (by rw [e_5]; rfl) rfl (pc0 := 373) (pc' := 376) (same := true) rfl (hb hby at_373) rfl (decide_eq_true e_5) (by decide) (by decide) ?_
            refine XS.iconst X1105.here hx rfl (hb hby at_376) ?_
            refine XS.goto X1105.here hx rfl (pc0 := 377) (pc' := 381) rfl (hb hby at_377) (by decide) (by decide) ?_
            refine XS.istore X1105.here hx rfl (hb hby at_381) rfl (l' := #[iv m1, iv c1, iv m2, iv c2, iv q', iv fl, iv a1, iv k1, iv a2, iv k2, iv qm, iv qk, iv (0 : Int32), iv (1 : Int32), rv b991, rv b998, rv b1016, iv (1 : Int32), rv nc, rv b998, iv same, rv nc]) rfl ?_
            refine XS.iload X1105.here hx rfl (hb hby at_383) rfl ?_
            exact kt)
        obtain ⟨fs, hr, hrun, hended, hW, hsame⟩ := X1105.leave (v := some (.int (1 : Int32))) (fun h => by rw [Bd.returns] at h; cases h) (hlocks := by first | exact BodyLoose.notSynchronized Bd | exact Body.notSynchronized Bd)
        refine ⟨_, _, pre0 _ (go1107 _ ?_), hrun, hended, _, _, rfl, ?_, ⟨_, rfl⟩, hW, hsame.mono (by decide) (by decide)⟩
        · exact retN X1105 hx (t := .boolean) Bd.returns (by simp) (hb hby at_385) hr
        · show Q0n01 Z m1 c1 m2 c2 q' fl ad kd nc h0 n0 _ T1105.heap _
          rw [eh1105]
          exact ⟨rfl, N1105⟩
      · have go1108 : own_S p e below ST T1061 (mkF m 352 #[iv m1, iv c1, iv m2, iv c2, iv q', iv fl, iv a1, iv k1, iv a2, iv k2, iv qm, iv qk, iv (0 : Int32), iv (1 : Int32), rv b991, rv b998, rv b1016, iv (1 : Int32), rv nc, rv b998, iv same, .unset] []) := fun tt kt => go1102 tt (by
            refine XS.icmpYes X1061.here hx rfl (pc0 := 342) (pc' := 352) rfl (hb hby at_342) rfl (feq hz342).2 (by decide) (by decide) ?_
            exact kt)
        obtain ⟨T1109, X1109, e1109, st1109⟩ := getS2 X1061 hx hZ hown (host := "") (Or.inl (W 151 rfl)) Via.refl eh1061 (SN.ext Or1050.2) (g := (mkF m 352 #[iv m1, iv c1, iv m2, iv c2, iv q', iv fl, iv a1, iv k1, iv a2, iv k2, iv qm, iv qk, iv (0 : Int32), iv (1 : Int32), rv b991, rv b998, rv b1016, iv (1 : Int32), rv nc, rv b998, iv same, .unset] [])) rfl (hb hby at_352)
        have go1110 : own_S p e below ST T1109 (mkF m 355 #[iv m1, iv c1, iv m2, iv c2, iv q', iv fl, iv a1, iv k1, iv a2, iv k2, iv qm, iv qk, iv (0 : Int32), iv (1 : Int32), rv b991, rv b998, rv b1016, iv (1 : Int32), rv nc, rv b998, iv same, .unset] [(.ref nc)]) := fun tt kt => go1108 tt (st1109 _ kt)
        have go1111 : own_S p e below ST T1109 (mkF m 368 #[iv m1, iv c1, iv m2, iv c2, iv q', iv fl, iv a1, iv k1, iv a2, iv k2, iv qm, iv qk, iv (0 : Int32), iv (1 : Int32), rv b991, rv b998, rv b1016, iv (1 : Int32), rv nc, rv b998, iv same, rv nc] [(.int qk), (.int qm), (.ref b1016)]) := fun tt kt => go1110 tt (by
            refine XS.astore X1109.here hx rfl (hb hby at_355) rfl rfl (l' := #[iv m1, iv c1, iv m2, iv c2, iv q', iv fl, iv a1, iv k1, iv a2, iv k2, iv qm, iv qk, iv (0 : Int32), iv (1 : Int32), rv b991, rv b998, rv b1016, iv (1 : Int32), rv nc, rv b998, iv same, rv nc]) rfl ?_
            refine XS.iload X1109.here hx rfl (hb hby at_357) rfl ?_
            refine XS.ifNo X1109.here hx rfl (hb hby at_359) rfl ((if0 _ _).trans (feq (by decide : ¬ ((1 : Int32) = (0 : Int32)))).1) ?_
            refine XS.aload X1109.here hx rfl (hb hby at_362) rfl rfl ?_
            refine XS.iload X1109.here hx rfl (hb hby at_364) rfl ?_
            refine XS.iload X1109.here hx rfl (hb hby at_366) rfl ?_
            exact kt)
        obtain ⟨cq1112, kq1112, q1112a, q1112b, q1112c⟩ := isOf hZ e1109 Eg1050
        obtain ⟨_, _, ⟨T1112, L1112, k1112, n1112⟩, -, X1112, ⟨Lc1112, hQ1112, l1112, y1112, z1112⟩, st1112⟩ := X1109.virtualBack hx (y := (⟨"com/example/brancher/brancher/service/Group", "choices", "(II)Ljava/util/BitSet;"⟩ : MethodName)) (z := (⟨"com/example/brancher/brancher/service/Group", "choices", "(II)Ljava/util/BitSet;"⟩ : MethodName)) hown (mvT hZ (W 144 rfl)) (mvT hZ (W 145 rfl)) (notFace_of_selects (args := #[]) (mvT hZ (W 147 rfl))) (mvT hZ (W 147 rfl)) (mvT hZ (W 146 rfl)) (by decide) (backOf (W := 0) (rmCH l Z a0 hw [] b1016 qm qk M0_2 M1_2 nc T1050.heap n0 zs1058 GRr1050 bqm bqk SN Or1050) hZ (W 148 rfl) (W 47 rfl) (by decide) (by decide)) q1112a q1112c (g := (mkF m 368 #[iv m1, iv c1, iv m2, iv c2, iv q', iv fl, iv a1, iv k1, iv a2, iv k2, iv qm, iv qk, iv (0 : Int32), iv (1 : Int32), rv b991, rv b998, rv b1016, iv (1 : Int32), rv nc, rv b998, iv same, rv nc] [(.int qk), (.int qm), (.ref b1016)])) rfl (by rw [hml]; rfl) (Steps.refl _) (argsL := [(.int qm), (.int qk)]) (rest := []) (lenOf pd296 rfl) rfl (by show 2 * 0 + _ ≤ _; exact Nat.le_of_eq rfl) (hb hby at_368) (fun _ _ => ⟨rfl, e1109, (by decide : 25 + 0 ≤ _), (by decide : 79 + 0 ≤ _)⟩)
        dsimp only [Pt.U, Pt.locs, Pt.cells, Pt.slots] at X1112 l1112 y1112 z1112 st1112 hQ1112
        subst l1112 y1112 z1112
        obtain ⟨rfl, Nq1112, eh1112⟩ := hQ1112
        have N1112 := Fr.app N1061 Nq1112
        have go1113 : own_S p e below ST T1112 (mkF m 371 #[iv m1, iv c1, iv m2, iv c2, iv q', iv fl, iv a1, iv k1, iv a2, iv k2, iv qm, iv qk, iv (0 : Int32), iv (1 : Int32), rv b991, rv b998, rv b1016, iv (1 : Int32), rv nc, rv b998, iv same, rv nc] [(own_or nc ((if qm = 0 then M0_2 else M1_2).getD (qk).toNatClampNeg .null))]) := fun tt kt => go1111 tt (st1112.trans kt)
        have go1114 : own_S p e below ST T1112 (mkF m 373 #[iv m1, iv c1, iv m2, iv c2, iv q', iv fl, iv a1, iv k1, iv a2, iv k2, iv qm, iv qk, iv (0 : Int32), iv (1 : Int32), rv b991, rv b998, rv b1016, iv (1 : Int32), rv nc, rv b998, iv same, rv nc] [(.ref nc), (own_or nc ((if qm = 0 then M0_2 else M1_2).getD (qk).toNatClampNeg .null))]) := fun tt kt => go1113 tt (by
            refine XS.aload X1112.here hx rfl (hb hby at_371) rfl rfl ?_
            exact kt)
        have e_5 : own_or nc ((if qm = 0 then M0_2 else M1_2).getD (qk).toNatClampNeg .null) = .ref nc := own_orn nc ((s_2 qm qk bqm bqk).trans ((if_neg fun q => hz314 q.1).trans (if_neg fun q => hz342 q.2)))
        obtain ⟨vo5, hvo5⟩ : ∃ z : Value, z = (own_or nc ((if qm = 0 then M0_2 else M1_2).getD (qk).toNatClampNeg .null)) := ⟨_, rfl⟩
        rw [← hvo5] at go1114
        replace e_5 := hvo5.trans e_5
        have go1115 : own_S p e below ST T1112 (mkF m 385 #[iv m1, iv c1, iv m2, iv c2, iv q', iv fl, iv a1, iv k1, iv a2, iv k2, iv qm, iv qk, iv (0 : Int32), iv (1 : Int32), rv b991, rv b998, rv b1016, iv (1 : Int32), rv nc, rv b998, iv same, rv nc] [(.int (1 : Int32))]) := fun tt kt => go1114 tt (by
            refine Jvm.RoadKit.acmp (g := (mkF m 373 #[iv m1, iv c1, iv m2, iv c2, iv q', iv fl, iv a1, iv k1, iv a2, iv k2, iv qm, iv qk, iv (0 : Int32), iv (1 : Int32), rv b991, rv b998, rv b1016, iv (1 : Int32), rv nc, rv b998, iv same, rv nc] [(.ref nc), vo5])) X1112 hx rfl (by rw [e_5]; rfl) rfl (pc0 := 373) (pc' := 376) (same := true) rfl (hb hby at_373) rfl (decide_eq_true e_5) (by decide) (by decide) ?_
            refine XS.iconst X1112.here hx rfl (hb hby at_376) ?_
            refine XS.goto X1112.here hx rfl (pc0 := 377) (pc' := 381) rfl (hb hby at_377) (by decide) (by decide) ?_
            refine XS.istore X1112.here hx rfl (hb hby at_381) rfl (l' := #[iv m1, iv c1, iv m2, iv c2, iv q', iv fl, iv a1, iv k1, iv a2, iv k2, iv qm, iv qk, iv (0 : Int32), iv (1 : Int32), rv b991, rv b998, rv b1016, iv (1 : Int32), rv nc, rv b998, iv same, rv nc]) rfl ?_
            refine XS.iload X1112.here hx rfl (hb hby at_383) rfl ?_
            exact kt)
        obtain ⟨fs, hr, hrun, hended, hW, hsame⟩ := X1112.leave (v := some (.int (1 : Int32))) (fun h => by rw [Bd.returns] at h; cases h) (hlocks := by first | exact BodyLoose.notSynchronized Bd | exact Body.notSynchronized Bd)
        refine ⟨_, _, pre0 _ (go1115 _ ?_), hrun, hended, _, _, rfl, ?_, ⟨_, rfl⟩, hW, hsame.mono (by decide) (by decide)⟩
        · exact retN X1112 hx (t := .boolean) Bd.returns (by simp) (hb hby at_385) hr
        · show Q0n01 Z m1 c1 m2 c2 q' fl ad kd nc h0 n0 _ T1112.heap _
          rw [eh1112]
          exact ⟨rfl, N1112⟩
    · have go1116 : own_S p e below ST T1061 (mkF m 352 #[iv m1, iv c1, iv m2, iv c2, iv q', iv fl, iv a1, iv k1, iv a2, iv k2, iv qm, iv qk, iv (0 : Int32), iv (1 : Int32), rv b991, rv b998, rv b1016, iv (1 : Int32), rv nc, rv b998, iv same, .unset] []) := fun tt kt => go1100 tt (by
          refine XS.icmpYes X1061.here hx rfl (pc0 := 335) (pc' := 352) rfl (hb hby at_335) rfl (feq hz335).2 (by decide) (by decide) ?_
          exact kt)
      obtain ⟨T1117, X1117, e1117, st1117⟩ := getS2 X1061 hx hZ hown (host := "") (Or.inl (W 151 rfl)) Via.refl eh1061 (SN.ext Or1050.2) (g := (mkF m 352 #[iv m1, iv c1, iv m2, iv c2, iv q', iv fl, iv a1, iv k1, iv a2, iv k2, iv qm, iv qk, iv (0 : Int32), iv (1 : Int32), rv b991, rv b998, rv b1016, iv (1 : Int32), rv nc, rv b998, iv same, .unset] [])) rfl (hb hby at_352)
      have go1118 : own_S p e below ST T1117 (mkF m 355 #[iv m1, iv c1, iv m2, iv c2, iv q', iv fl, iv a1, iv k1, iv a2, iv k2, iv qm, iv qk, iv (0 : Int32), iv (1 : Int32), rv b991, rv b998, rv b1016, iv (1 : Int32), rv nc, rv b998, iv same, .unset] [(.ref nc)]) := fun tt kt => go1116 tt (st1117 _ kt)
      have go1119 : own_S p e below ST T1117 (mkF m 368 #[iv m1, iv c1, iv m2, iv c2, iv q', iv fl, iv a1, iv k1, iv a2, iv k2, iv qm, iv qk, iv (0 : Int32), iv (1 : Int32), rv b991, rv b998, rv b1016, iv (1 : Int32), rv nc, rv b998, iv same, rv nc] [(.int qk), (.int qm), (.ref b1016)]) := fun tt kt => go1118 tt (by
          refine XS.astore X1117.here hx rfl (hb hby at_355) rfl rfl (l' := #[iv m1, iv c1, iv m2, iv c2, iv q', iv fl, iv a1, iv k1, iv a2, iv k2, iv qm, iv qk, iv (0 : Int32), iv (1 : Int32), rv b991, rv b998, rv b1016, iv (1 : Int32), rv nc, rv b998, iv same, rv nc]) rfl ?_
          refine XS.iload X1117.here hx rfl (hb hby at_357) rfl ?_
          refine XS.ifNo X1117.here hx rfl (hb hby at_359) rfl ((if0 _ _).trans (feq (by decide : ¬ ((1 : Int32) = (0 : Int32)))).1) ?_
          refine XS.aload X1117.here hx rfl (hb hby at_362) rfl rfl ?_
          refine XS.iload X1117.here hx rfl (hb hby at_364) rfl ?_
          refine XS.iload X1117.here hx rfl (hb hby at_366) rfl ?_
          exact kt)
      obtain ⟨cq1120, kq1120, q1120a, q1120b, q1120c⟩ := isOf hZ e1117 Eg1050
      obtain ⟨_, _, ⟨T1120, L1120, k1120, n1120⟩, -, X1120, ⟨Lc1120, hQ1120, l1120, y1120, z1120⟩, st1120⟩ := X1117.virtualBack hx (y := (⟨"com/example/brancher/brancher/service/Group", "choices", "(II)Ljava/util/BitSet;"⟩ : MethodName)) (z := (⟨"com/example/brancher/brancher/service/Group", "choices", "(II)Ljava/util/BitSet;"⟩ : MethodName)) hown (mvT hZ (W 144 rfl)) (mvT hZ (W 145 rfl)) (notFace_of_selects (args := #[]) (mvT hZ (W 147 rfl))) (mvT hZ (W 147 rfl)) (mvT hZ (W 146 rfl)) (by decide) (backOf (W := 0) (rmCH l Z a0 hw [] b1016 qm qk M0_2 M1_2 nc T1050.heap n0 zs1058 GRr1050 bqm bqk SN Or1050) hZ (W 148 rfl) (W 47 rfl) (by decide) (by decide)) q1120a q1120c (g := (mkF m 368 #[iv m1, iv c1, iv m2, iv c2, iv q', iv fl, iv a1, iv k1, iv a2, iv k2, iv qm, iv qk, iv (0 : Int32), iv (1 : Int32), rv b991, rv b998, rv b1016, iv (1 : Int32), rv nc, rv b998, iv same, rv nc] [(.int qk), (.int qm), (.ref b1016)])) rfl (by rw [hml]; rfl) (Steps.refl _) (argsL := [(.int qm), (.int qk)]) (rest := []) (lenOf pd296 rfl) rfl (by show 2 * 0 + _ ≤ _; exact Nat.le_of_eq rfl) (hb hby at_368) (fun _ _ => ⟨rfl, e1117, (by decide : 25 + 0 ≤ _), (by decide : 79 + 0 ≤ _)⟩)
      dsimp only [Pt.U, Pt.locs, Pt.cells, Pt.slots] at X1120 l1120 y1120 z1120 st1120 hQ1120
      subst l1120 y1120 z1120
      obtain ⟨rfl, Nq1120, eh1120⟩ := hQ1120
      have N1120 := Fr.app N1061 Nq1120
      have go1121 : own_S p e below ST T1120 (mkF m 371 #[iv m1, iv c1, iv m2, iv c2, iv q', iv fl, iv a1, iv k1, iv a2, iv k2, iv qm, iv qk, iv (0 : Int32), iv (1 : Int32), rv b991, rv b998, rv b1016, iv (1 : Int32), rv nc, rv b998, iv same, rv nc] [(own_or nc ((if qm = 0 then M0_2 else M1_2).getD (qk).toNatClampNeg .null))]) := fun tt kt => go1119 tt (st1120.trans kt)
      have go1122 : own_S p e below ST T1120 (mkF m 373 #[iv m1, iv c1, iv m2, iv c2, iv q', iv fl, iv a1, iv k1, iv a2, iv k2, iv qm, iv qk, iv (0 : Int32), iv (1 : Int32), rv b991, rv b998, rv b1016, iv (1 : Int32), rv nc, rv b998, iv same, rv nc] [(.ref nc), (own_or nc ((if qm = 0 then M0_2 else M1_2).getD (qk).toNatClampNeg .null))]) := fun tt kt => go1121 tt (by
          refine XS.aload X1120.here hx rfl (hb hby at_371) rfl rfl ?_
          exact kt)
      have e_5 : own_or nc ((if qm = 0 then M0_2 else M1_2).getD (qk).toNatClampNeg .null) = .ref nc := own_orn nc ((s_2 qm qk bqm bqk).trans ((if_neg fun q => hz314 q.1).trans (if_neg fun q => hz335 q.1)))
      obtain ⟨vo5, hvo5⟩ : ∃ z : Value, z = (own_or nc ((if qm = 0 then M0_2 else M1_2).getD (qk).toNatClampNeg .null)) := ⟨_, rfl⟩
      rw [← hvo5] at go1122
      replace e_5 := hvo5.trans e_5
      have go1123 : own_S p e below ST T1120 (mkF m 385 #[iv m1, iv c1, iv m2, iv c2, iv q', iv fl, iv a1, iv k1, iv a2, iv k2, iv qm, iv qk, iv (0 : Int32), iv (1 : Int32), rv b991, rv b998, rv b1016, iv (1 : Int32), rv nc, rv b998, iv same, rv nc] [(.int (1 : Int32))]) := fun tt kt => go1122 tt (by
          refine Jvm.RoadKit.acmp (g := (mkF m 373 #[iv m1, iv c1, iv m2, iv c2, iv q', iv fl, iv a1, iv k1, iv a2, iv k2, iv qm, iv qk, iv (0 : Int32), iv (1 : Int32), rv b991, rv b998, rv b1016, iv (1 : Int32), rv nc, rv b998, iv same, rv nc] [(.ref nc), vo5])) X1120 hx rfl (by rw [e_5]; rfl) rfl (pc0 := 373) (pc' := 376) (same := true) rfl (hb hby at_373) rfl (decide_eq_true e_5) (by decide) (by decide) ?_
          refine XS.iconst X1120.here hx rfl (hb hby at_376) ?_
          refine XS.goto X1120.here hx rfl (pc0 := 377) (pc' := 381) rfl (hb hby at_377) (by decide) (by decide) ?_
          refine XS.istore X1120.here hx rfl (hb hby at_381) rfl (l' := #[iv m1, iv c1, iv m2, iv c2, iv q', iv fl, iv a1, iv k1, iv a2, iv k2, iv qm, iv qk, iv (0 : Int32), iv (1 : Int32), rv b991, rv b998, rv b1016, iv (1 : Int32), rv nc, rv b998, iv same, rv nc]) rfl ?_
          refine XS.iload X1120.here hx rfl (hb hby at_383) rfl ?_
          exact kt)
      obtain ⟨fs, hr, hrun, hended, hW, hsame⟩ := X1120.leave (v := some (.int (1 : Int32))) (fun h => by rw [Bd.returns] at h; cases h) (hlocks := by first | exact BodyLoose.notSynchronized Bd | exact Body.notSynchronized Bd)
      refine ⟨_, _, pre0 _ (go1123 _ ?_), hrun, hended, _, _, rfl, ?_, ⟨_, rfl⟩, hW, hsame.mono (by decide) (by decide)⟩
      · exact retN X1120 hx (t := .boolean) Bd.returns (by simp) (hb hby at_385) hr
      · show Q0n01 Z m1 c1 m2 c2 q' fl ad kd nc h0 n0 _ T1120.heap _
        rw [eh1120]
        exact ⟨rfl, N1120⟩
theorem ef0n10 (m : MethodId) (x0 : Int32) (x1 : Int32) (x2 : Int32) (x3 : Int32) (x4 : Int32) (x5 : Int32) : entryFrame m #[(.int x0), (.int x1), (.int x2), (.int x3), (.int x4), (.int x5)] maxLocals = mkF m 0 #[.val (.int x0), .val (.int x1), .val (.int x2), .val (.int x3), .val (.int x4), .val (.int x5), .unset, .unset, .unset, .unset, .unset, .unset, .unset, .unset, .unset, .unset, .unset, .unset, .unset, .unset, .unset, .unset] [] := by first | (simp [entryFrame, mkF, argsToLocals, Value.category, maxLocals]; done) | rfl
def Q0n10 (Z : State) (m1 : Int32) (c1 : Int32) (m2 : Int32) (c2 : Int32) (q' : Int32) (fl : Int32) (ad : Addr) (kd : ClassId) (nc : Addr) (h0 : Heap) (n0 : Nat) (v : Option Value) (h : Heap) (L : List Loc) : Prop := v = some (.int 1) ∧ Fr n0 L
set_option maxRecDepth 65536 in
set_option maxHeartbeats 40000000 in
theorem rm0n10 (l : Launch) (Z : State) (a0 : Array Value) (hw : ∀ d ∈ tables_1, d.before a0 Z = true) (ws : List Jvm.Cond) (m1 : Int32) (c1 : Int32) (m2 : Int32) (c2 : Int32) (q' : Int32) (fl : Int32) (ad : Addr) (kd : ClassId) (nc : Addr) (h0 : Heap) (n0 : Nat) (Z0 : n0 ≤ h0.size) (SD : Sta Z Z.heap "java/util/ArrayList" "DEFAULTCAPACITY_EMPTY_ELEMENTDATA" "[Ljava/lang/Object;" (.ref ad)) (VD : Arv Z Z.heap ad kd (.object "java/lang/Object") (0 : Int32) [] .null) (SB : Sta Z Z.heap "java/util/BitSet" "$assertionsDisabled" "Z" (.int (1 : Int32))) (SN : Sta Z Z.heap "com/example/brancher/brancher/service/Group" "NO_CHOICES" "Ljava/util/BitSet;" (.ref nc)) (OL : Old Z n0 h0) (hb1 : ¬ (fl &&& (1 : Int32) = (0 : Int32))) (hb2 : (fl &&& (2 : Int32) = (0 : Int32))) :
    MetFree l x (head1 (Jvm.Cond.code x code maxLocals ret :: ws) room_1) (fun aa UU => aa = #[(.int m1), (.int c1), (.int m2), (.int c2), (.int q'), (.int fl)] ∧ Z.Warmed39 UU.vm ∧ UU.heap = h0) (fun _ _ _ _ _ => True) (fun _ UU oo UU' => ∃ vv LL, oo = .returned vv ∧ Q0n10 Z m1 c1 m2 c2 q' fl ad kd nc h0 n0 vv UU'.heap LL ∧ FrameEnd UU oo UU' LL room_1.cells room_1.slots) := by
  have W : ∀ {d : Jvm.Cond} (i : Nat), tables_1[i]? = some d → d.before a0 Z = true := fun i h => hw _ (List.mem_of_getElem? h)
  refine MetFree.of_bodySF (plainFor_of_name pn295) hisR ?_
  intro p e s m args below meth c s₁ Bd hml0 hP hK
  obtain ⟨rfl, hZ, hh⟩ := hP
  have hx := Bd.exec
  have hby := Bd.bytes
  have hml : c.maxLocals = 22 := hml0
  have hown : s.vm.findClass "com/example/brancher/brancher/service/GroupChoicesPinLaw" = some m.cls := findClass_of_methodNamed Bd.named
  have hnm := (name_of_methodNamed Bd.named Bd.method).1
  have X0 : Stand p l e room_1 s m #[(.int m1), (.int c1), (.int m2), (.int c2), (.int q'), (.int fl)] below meth c s₁ [] 0 0 := Stand.of_body Bd
  have e0 : s₁.heap = h0 := by rw [← hh, Bd.state]; rfl
  have N0 := Fr.nil n0
  have pre0 : ∀ tt, Steps p.tables e below (s₁.setTop (mkF m 0 #[iv m1, iv c1, iv m2, iv c2, iv q', iv fl, .unset, .unset, .unset, .unset, .unset, .unset, .unset, .unset, .unset, .unset, .unset, .unset, .unset, .unset, .unset, .unset] [])) tt → Steps p.tables e below (s₁.setTop (entryFrame m #[(.int m1), (.int c1), (.int m2), (.int c2), (.int q'), (.int fl)] maxLocals)) tt := fun tt kt => castTop (ef0n10 m m1 c1 m2 c2 q' fl) kt
  obtain ⟨ST, hST⟩ : ∃ z : State, z = s₁.setTop (mkF m 0 #[iv m1, iv c1, iv m2, iv c2, iv q', iv fl, .unset, .unset, .unset, .unset, .unset, .unset, .unset, .unset, .unset, .unset, .unset, .unset, .unset, .unset, .unset, .unset] []) := ⟨_, rfl⟩
  rw [← hST] at pre0
  have go1124 : own_S p e below ST s₁ (mkF m 3 #[iv m1, iv c1, iv m2, iv c2, iv q', iv fl, .unset, .unset, .unset, .unset, .unset, .unset, .unset, .unset, .unset, .unset, .unset, .unset, .unset, .unset, .unset, .unset] [(.int (m1 &&& (1 : Int32)))]) := fun tt kt => (by
      rw [hST]
      show Steps p.tables e below (s₁.setTop (mkF m 0 #[iv m1, iv c1, iv m2, iv c2, iv q', iv fl, .unset, .unset, .unset, .unset, .unset, .unset, .unset, .unset, .unset, .unset, .unset, .unset, .unset, .unset, .unset, .unset] [])) _
      refine XS.iloadN X0.here hx rfl (hb hby at_0) rfl ?_
      refine XS.iconst X0.here hx rfl (hb hby at_1) ?_
      refine XS.iand X0.here hx rfl (hb hby at_2) rfl ?_
      exact kt)
  obtain ⟨a1, ha1⟩ : ∃ z : Int32, z = (m1 &&& (1 : Int32)) := ⟨_, rfl⟩
  rw [← ha1] at go1124
  have ba1 := own_01 _ a1 ha1
  have go1125 : own_S p e below ST s₁ (mkF m 8 #[iv m1, iv c1, iv m2, iv c2, iv q', iv fl, iv a1, .unset, .unset, .unset, .unset, .unset, .unset, .unset, .unset, .unset, .unset, .unset, .unset, .unset, .unset, .unset] [(.int (c1 &&& (3 : Int32)))]) := fun tt kt => go1124 tt (by
      refine XS.istore X0.here hx rfl (hb hby at_3) rfl (l' := #[iv m1, iv c1, iv m2, iv c2, iv q', iv fl, iv a1, .unset, .unset, .unset, .unset, .unset, .unset, .unset, .unset, .unset, .unset, .unset, .unset, .unset, .unset, .unset]) rfl ?_
      refine XS.iloadN X0.here hx rfl (hb hby at_5) rfl ?_
      refine XS.iconst X0.here hx rfl (hb hby at_6) ?_
      refine XS.iand X0.here hx rfl (hb hby at_7) rfl ?_
      exact kt)
  obtain ⟨k1, hk1⟩ : ∃ z : Int32, z = (c1 &&& (3 : Int32)) := ⟨_, rfl⟩
  rw [← hk1] at go1125
  have bk1 := own_03 _ k1 hk1
  have go1126 : own_S p e below ST s₁ (mkF m 13 #[iv m1, iv c1, iv m2, iv c2, iv q', iv fl, iv a1, iv k1, .unset, .unset, .unset, .unset, .unset, .unset, .unset, .unset, .unset, .unset, .unset, .unset, .unset, .unset] [(.int (m2 &&& (1 : Int32)))]) := fun tt kt => go1125 tt (by
      refine XS.istore X0.here hx rfl (hb hby at_8) rfl (l' := #[iv m1, iv c1, iv m2, iv c2, iv q', iv fl, iv a1, iv k1, .unset, .unset, .unset, .unset, .unset, .unset, .unset, .unset, .unset, .unset, .unset, .unset, .unset, .unset]) rfl ?_
      refine XS.iloadN X0.here hx rfl (hb hby at_10) rfl ?_
      refine XS.iconst X0.here hx rfl (hb hby at_11) ?_
      refine XS.iand X0.here hx rfl (hb hby at_12) rfl ?_
      exact kt)
  obtain ⟨a2, ha2⟩ : ∃ z : Int32, z = (m2 &&& (1 : Int32)) := ⟨_, rfl⟩
  rw [← ha2] at go1126
  have ba2 := own_01 _ a2 ha2
  have go1127 : own_S p e below ST s₁ (mkF m 18 #[iv m1, iv c1, iv m2, iv c2, iv q', iv fl, iv a1, iv k1, iv a2, .unset, .unset, .unset, .unset, .unset, .unset, .unset, .unset, .unset, .unset, .unset, .unset, .unset] [(.int (c2 &&& (3 : Int32)))]) := fun tt kt => go1126 tt (by
      refine XS.istore X0.here hx rfl (hb hby at_13) rfl (l' := #[iv m1, iv c1, iv m2, iv c2, iv q', iv fl, iv a1, iv k1, iv a2, .unset, .unset, .unset, .unset, .unset, .unset, .unset, .unset, .unset, .unset, .unset, .unset, .unset]) rfl ?_
      refine XS.iloadN X0.here hx rfl (hb hby at_15) rfl ?_
      refine XS.iconst X0.here hx rfl (hb hby at_16) ?_
      refine XS.iand X0.here hx rfl (hb hby at_17) rfl ?_
      exact kt)
  obtain ⟨k2, hk2⟩ : ∃ z : Int32, z = (c2 &&& (3 : Int32)) := ⟨_, rfl⟩
  rw [← hk2] at go1127
  have bk2 := own_03 _ k2 hk2
  have go1128 : own_S p e below ST s₁ (mkF m 24 #[iv m1, iv c1, iv m2, iv c2, iv q', iv fl, iv a1, iv k1, iv a2, iv k2, .unset, .unset, .unset, .unset, .unset, .unset, .unset, .unset, .unset, .unset, .unset, .unset] [(.int (q' &&& (1 : Int32)))]) := fun tt kt => go1127 tt (by
      refine XS.istore X0.here hx rfl (hb hby at_18) rfl (l' := #[iv m1, iv c1, iv m2, iv c2, iv q', iv fl, iv a1, iv k1, iv a2, iv k2, .unset, .unset, .unset, .unset, .unset, .unset, .unset, .unset, .unset, .unset, .unset, .unset]) rfl ?_
      refine XS.iload X0.here hx rfl (hb hby at_20) rfl ?_
      refine XS.iconst X0.here hx rfl (hb hby at_22) ?_
      refine XS.iand X0.here hx rfl (hb hby at_23) rfl ?_
      exact kt)
  obtain ⟨qm, hqm⟩ : ∃ z : Int32, z = (q' &&& (1 : Int32)) := ⟨_, rfl⟩
  rw [← hqm] at go1128
  have bqm := own_01 _ qm hqm
  have go1129 : own_S p e below ST s₁ (mkF m 32 #[iv m1, iv c1, iv m2, iv c2, iv q', iv fl, iv a1, iv k1, iv a2, iv k2, iv qm, .unset, .unset, .unset, .unset, .unset, .unset, .unset, .unset, .unset, .unset, .unset] [(.int (((q'.toUInt32 >>> ((1 : Int32) &&& 31).toUInt32).toInt32) &&& (3 : Int32)))]) := fun tt kt => go1128 tt (by
      refine XS.istore X0.here hx rfl (hb hby at_24) rfl (l' := #[iv m1, iv c1, iv m2, iv c2, iv q', iv fl, iv a1, iv k1, iv a2, iv k2, iv qm, .unset, .unset, .unset, .unset, .unset, .unset, .unset, .unset, .unset, .unset, .unset]) rfl ?_
      refine XS.iload X0.here hx rfl (hb hby at_26) rfl ?_
      refine XS.iconst X0.here hx rfl (hb hby at_28) ?_
      refine XS.iushr X0.here hx rfl (hb hby at_29) rfl ?_
      refine XS.iconst X0.here hx rfl (hb hby at_30) ?_
      refine XS.iand X0.here hx rfl (hb hby at_31) rfl ?_
      exact kt)
  obtain ⟨qk, hqk⟩ : ∃ z : Int32, z = (((q'.toUInt32 >>> ((1 : Int32) &&& 31).toUInt32).toInt32) &&& (3 : Int32)) := ⟨_, rfl⟩
  rw [← hqk] at go1129
  have bqk := own_03 _ qk hqk
  have go1130 : own_S p e below ST s₁ (mkF m 62 #[iv m1, iv c1, iv m2, iv c2, iv q', iv fl, iv a1, iv k1, iv a2, iv k2, iv qm, iv qk, iv (1 : Int32), iv (0 : Int32), .unset, .unset, .unset, .unset, .unset, .unset, .unset, .unset] []) := fun tt kt => go1129 tt (by
      refine XS.istore X0.here hx rfl (hb hby at_32) rfl (l' := #[iv m1, iv c1, iv m2, iv c2, iv q', iv fl, iv a1, iv k1, iv a2, iv k2, iv qm, iv qk, .unset, .unset, .unset, .unset, .unset, .unset, .unset, .unset, .unset, .unset]) rfl ?_
      refine XS.iload X0.here hx rfl (hb hby at_34) rfl ?_
      refine XS.iconst X0.here hx rfl (hb hby at_36) ?_
      refine XS.iand X0.here hx rfl (hb hby at_37) rfl ?_
      refine XS.ifNo X0.here hx rfl (hb hby at_38) rfl ((if0 _ _).trans (feq hb1).1) ?_
      refine XS.iconst X0.here hx rfl (hb hby at_41) ?_
      show Steps p.tables e below (s₁.setTop (mkF m 42 #[iv m1, iv c1, iv m2, iv c2, iv q', iv fl, iv a1, iv k1, iv a2, iv k2, iv qm, iv qk, .unset, .unset, .unset, .unset, .unset, .unset, .unset, .unset, .unset, .unset] [(.int (1 : Int32))])) _
      refine XS.goto X0.here hx rfl (pc0 := 42) (pc' := 46) rfl (hb hby at_42) (by decide) (by decide) ?_
      refine XS.istore X0.here hx rfl (hb hby at_46) rfl (l' := #[iv m1, iv c1, iv m2, iv c2, iv q', iv fl, iv a1, iv k1, iv a2, iv k2, iv qm, iv qk, iv (1 : Int32), .unset, .unset, .unset, .unset, .unset, .unset, .unset, .unset, .unset]) rfl ?_
      refine XS.iload X0.here hx rfl (hb hby at_48) rfl ?_
      refine XS.iconst X0.here hx rfl (hb hby at_50) ?_
      refine XS.iand X0.here hx rfl (hb hby at_51) rfl ?_
      refine XS.ifYes X0.here hx rfl (pc0 := 52) (pc' := 59) rfl (hb hby at_52) rfl ((if0 _ _).trans (teq hb2).1) (by decide) (by decide) ?_
      show Steps p.tables e below (s₁.setTop (mkF m 59 #[iv m1, iv c1, iv m2, iv c2, iv q', iv fl, iv a1, iv k1, iv a2, iv k2, iv qm, iv qk, iv (1 : Int32), .unset, .unset, .unset, .unset, .unset, .unset, .unset, .unset, .unset] [])) _
      refine XS.iconst X0.here hx rfl (hb hby at_59) ?_
      refine XS.istore X0.here hx rfl (hb hby at_60) rfl (l' := #[iv m1, iv c1, iv m2, iv c2, iv q', iv fl, iv a1, iv k1, iv a2, iv k2, iv qm, iv qk, iv (1 : Int32), iv (0 : Int32), .unset, .unset, .unset, .unset, .unset, .unset, .unset, .unset]) rfl ?_
      exact kt)
  obtain ⟨b1131, g1131⟩ : ∃ z, z = h0.size := ⟨_, rfl⟩
  obtain ⟨T1131, h1131, X1131, e1131, E1131, A1131, D1131, -, st1131⟩ := newO X0 hx hZ hown (W 0 rfl) (W 1 rfl) (W 2 rfl) e0 (g := (mkF m 62 #[iv m1, iv c1, iv m2, iv c2, iv q', iv fl, iv a1, iv k1, iv a2, iv k2, iv qm, iv qk, iv (1 : Int32), iv (0 : Int32), .unset, .unset, .unset, .unset, .unset, .unset, .unset, .unset] [])) rfl (hb hby at_62) (by decide) (by decide)
  rw [← g1131] at A1131 D1131 st1131
  have ge_b1131 : n0 ≤ b1131 := Nat.le_trans Z0 (Nat.le_of_eq g1131.symm)
  have F1131_wordsInUse : Fld Z h1131 b1131 "java/util/BitSet" "wordsInUse" "I" (.int (0 : Int32)) := D1131 (Or.inl (W 10 rfl)) (ty := .int) (by decide)
  have F1131_sizeIsSticky : Fld Z h1131 b1131 "java/util/BitSet" "sizeIsSticky" "Z" (.int (0 : Int32)) := D1131 (Or.inl (W 12 rfl)) (ty := .boolean) (by decide)
  have F1131_words : Fld Z h1131 b1131 "java/util/BitSet" "words" "[J" .null := D1131 (Or.inl (W 23 rfl)) (ty := (.array .long)) (by decide)
  have go1132 : own_S p e below ST T1131 (mkF m 65 #[iv m1, iv c1, iv m2, iv c2, iv q', iv fl, iv a1, iv k1, iv a2, iv k2, iv qm, iv qk, iv (1 : Int32), iv (0 : Int32), .unset, .unset, .unset, .unset, .unset, .unset, .unset, .unset] [(.ref b1131)]) := fun tt kt => go1130 tt (st1131 _ kt)
  have go1133 : own_S p e below ST T1131 (mkF m 66 #[iv m1, iv c1, iv m2, iv c2, iv q', iv fl, iv a1, iv k1, iv a2, iv k2, iv qm, iv qk, iv (1 : Int32), iv (0 : Int32), .unset, .unset, .unset, .unset, .unset, .unset, .unset, .unset] [(.ref b1131), (.ref b1131)]) := fun tt kt => go1132 tt (by
      refine XS.dup X1131.here hx rfl (hb hby at_65) rfl rfl ?_
      exact kt)
  have zs1135 := (Nat.le_trans Z0 E1131.1)
  obtain ⟨_, _, ⟨T1134, L1134, k1134, n1134⟩, -, X1134, ⟨Lc1134, hQ1134, l1134, y1134, z1134⟩, st1134⟩ := X1131.specialBack hx (y := (⟨"java/util/BitSet", "<init>", "()V"⟩ : MethodName)) rfl hown (mvT hZ (W 3 rfl)) (mvT hZ (W 4 rfl)) (mvT hZ (W 5 rfl)) (by decide) (backOf (W := 1) (rm1 l Z a0 hw [] b1131 h1131 n0 zs1135 F1131_wordsInUse F1131_sizeIsSticky F1131_words A1131 ge_b1131) hZ (W 5 rfl) (W 2 rfl) (by decide) (by decide)) (g := (mkF m 66 #[iv m1, iv c1, iv m2, iv c2, iv q', iv fl, iv a1, iv k1, iv a2, iv k2, iv qm, iv qk, iv (1 : Int32), iv (0 : Int32), .unset, .unset, .unset, .unset, .unset, .unset, .unset, .unset] [(.ref b1131), (.ref b1131)])) rfl (by rw [hml]; rfl) (Steps.refl _) (a := b1131) (argsL := []) (rest := [(.ref b1131)]) (lenOf pd7 rfl) rfl (by show 2 * 0 + _ ≤ _; exact Nat.le_of_eq rfl) (hb hby at_66) (fun _ _ => ⟨rfl, e1131, (by decide : 1 + 1 ≤ _), (by decide : 3 + 1 ≤ _)⟩)
  dsimp only [Pt.U, Pt.locs, Pt.cells, Pt.slots] at X1134 l1134 y1134 z1134 st1134 hQ1134
  subst l1134 y1134 z1134
  obtain ⟨b1134, kb1134, rfl, Nq1134, K1134, Fa1134, Fb1134, Fc1134, Vb1134, gb1134, zb1134, nb1134⟩ := hQ1134
  have N1134 := Fr.app N0 Nq1134
  have go1136 : own_S p e below ST T1134 (mkF m 69 #[iv m1, iv c1, iv m2, iv c2, iv q', iv fl, iv a1, iv k1, iv a2, iv k2, iv qm, iv qk, iv (1 : Int32), iv (0 : Int32), .unset, .unset, .unset, .unset, .unset, .unset, .unset, .unset] [(.ref b1131)]) := fun tt kt => go1133 tt (st1134.trans kt)
  have go1137 : own_S p e below ST T1134 (mkF m 71 #[iv m1, iv c1, iv m2, iv c2, iv q', iv fl, iv a1, iv k1, iv a2, iv k2, iv qm, iv qk, iv (1 : Int32), iv (0 : Int32), rv b1131, .unset, .unset, .unset, .unset, .unset, .unset, .unset] []) := fun tt kt => go1136 tt (by
      refine XS.astore X1134.here hx rfl (hb hby at_69) rfl rfl (l' := #[iv m1, iv c1, iv m2, iv c2, iv q', iv fl, iv a1, iv k1, iv a2, iv k2, iv qm, iv qk, iv (1 : Int32), iv (0 : Int32), rv b1131, .unset, .unset, .unset, .unset, .unset, .unset, .unset]) rfl ?_
      exact kt)
  have f1139 := (A1131.keep K1134)
  have zs1140 := (Nat.le_trans zs1135 K1134.1)
  obtain ⟨b1138, g1138⟩ : ∃ z, z = T1134.heap.size := ⟨_, rfl⟩
  obtain ⟨T1138, h1138, X1138, e1138, E1138, A1138, D1138, -, st1138⟩ := newO X1134 hx hZ hown (W 0 rfl) (W 1 rfl) (W 2 rfl) rfl (g := (mkF m 71 #[iv m1, iv c1, iv m2, iv c2, iv q', iv fl, iv a1, iv k1, iv a2, iv k2, iv qm, iv qk, iv (1 : Int32), iv (0 : Int32), rv b1131, .unset, .unset, .unset, .unset, .unset, .unset, .unset] [])) rfl (hb hby at_71) (by decide) (by decide)
  rw [← g1138] at A1138 D1138 st1138
  have neb1131_b1138 : b1131 ≠ b1138 := Nat.ne_of_lt (Nat.lt_of_lt_of_le f1139.lt (Nat.le_of_eq g1138.symm))
  have neb1134_b1138 : b1134 ≠ b1138 := Nat.ne_of_lt (Nat.lt_of_lt_of_le Vb1134.lt (Nat.le_of_eq g1138.symm))
  have ge_b1138 : n0 ≤ b1138 := Nat.le_trans zs1140 (Nat.le_of_eq g1138.symm)
  have F1138_wordsInUse : Fld Z h1138 b1138 "java/util/BitSet" "wordsInUse" "I" (.int (0 : Int32)) := D1138 (Or.inl (W 10 rfl)) (ty := .int) (by decide)
  have F1138_sizeIsSticky : Fld Z h1138 b1138 "java/util/BitSet" "sizeIsSticky" "Z" (.int (0 : Int32)) := D1138 (Or.inl (W 12 rfl)) (ty := .boolean) (by decide)
  have F1138_words : Fld Z h1138 b1138 "java/util/BitSet" "words" "[J" .null := D1138 (Or.inl (W 23 rfl)) (ty := (.array .long)) (by decide)
  have go1141 : own_S p e below ST T1138 (mkF m 74 #[iv m1, iv c1, iv m2, iv c2, iv q', iv fl, iv a1, iv k1, iv a2, iv k2, iv qm, iv qk, iv (1 : Int32), iv (0 : Int32), rv b1131, .unset, .unset, .unset, .unset, .unset, .unset, .unset] [(.ref b1138)]) := fun tt kt => go1137 tt (st1138 _ kt)
  have go1142 : own_S p e below ST T1138 (mkF m 75 #[iv m1, iv c1, iv m2, iv c2, iv q', iv fl, iv a1, iv k1, iv a2, iv k2, iv qm, iv qk, iv (1 : Int32), iv (0 : Int32), rv b1131, .unset, .unset, .unset, .unset, .unset, .unset, .unset] [(.ref b1138), (.ref b1138)]) := fun tt kt => go1141 tt (by
      refine XS.dup X1138.here hx rfl (hb hby at_74) rfl rfl ?_
      exact kt)
  have f1143 := (f1139.ext E1138)
  have f1144 := (Vb1134.ext E1138)
  have zs1146 := (Nat.le_trans zs1140 E1138.1)
  obtain ⟨_, _, ⟨T1145, L1145, k1145, n1145⟩, -, X1145, ⟨Lc1145, hQ1145, l1145, y1145, z1145⟩, st1145⟩ := X1138.specialBack hx (y := (⟨"java/util/BitSet", "<init>", "()V"⟩ : MethodName)) rfl hown (mvT hZ (W 3 rfl)) (mvT hZ (W 4 rfl)) (mvT hZ (W 5 rfl)) (by decide) (backOf (W := 1) (rm1 l Z a0 hw [] b1138 h1138 n0 zs1146 F1138_wordsInUse F1138_sizeIsSticky F1138_words A1138 ge_b1138) hZ (W 5 rfl) (W 2 rfl) (by decide) (by decide)) (g := (mkF m 75 #[iv m1, iv c1, iv m2, iv c2, iv q', iv fl, iv a1, iv k1, iv a2, iv k2, iv qm, iv qk, iv (1 : Int32), iv (0 : Int32), rv b1131, .unset, .unset, .unset, .unset, .unset, .unset, .unset] [(.ref b1138), (.ref b1138)])) rfl (by rw [hml]; rfl) (Steps.refl _) (a := b1138) (argsL := []) (rest := [(.ref b1138)]) (lenOf pd7 rfl) rfl (by show 2 * 0 + _ ≤ _; exact Nat.le_of_eq rfl) (hb hby at_75) (fun _ _ => ⟨rfl, e1138, (by decide : 3 + 1 ≤ _), (by decide : 7 + 1 ≤ _)⟩)
  dsimp only [Pt.U, Pt.locs, Pt.cells, Pt.slots] at X1145 l1145 y1145 z1145 st1145 hQ1145
  subst l1145 y1145 z1145
  obtain ⟨b1145, kb1145, rfl, Nq1145, K1145, Fa1145, Fb1145, Fc1145, Vb1145, gb1145, zb1145, nb1145⟩ := hQ1145
  have N1145 := Fr.app N1134 Nq1145
  have go1147 : own_S p e below ST T1145 (mkF m 78 #[iv m1, iv c1, iv m2, iv c2, iv q', iv fl, iv a1, iv k1, iv a2, iv k2, iv qm, iv qk, iv (1 : Int32), iv (0 : Int32), rv b1131, .unset, .unset, .unset, .unset, .unset, .unset, .unset] [(.ref b1138)]) := fun tt kt => go1142 tt (st1145.trans kt)
  have neb1131_b1145 : b1131 ≠ b1145 := Nat.ne_of_lt (Nat.lt_of_lt_of_le f1143.lt zb1145)
  have neb1134_b1145 : b1134 ≠ b1145 := Nat.ne_of_lt (Nat.lt_of_lt_of_le f1144.lt zb1145)
  have go1148 : own_S p e below ST T1145 (mkF m 94 #[iv m1, iv c1, iv m2, iv c2, iv q', iv fl, iv a1, iv k1, iv a2, iv k2, iv qm, iv qk, iv (1 : Int32), iv (0 : Int32), rv b1131, rv b1138, .unset, .unset, .unset, .unset, .unset, .unset] [(.int (((fl.toUInt32 >>> ((2 : Int32) &&& 31).toUInt32).toInt32) &&& (63 : Int32))), (.ref b1131)]) := fun tt kt => go1147 tt (by
      refine XS.astore X1145.here hx rfl (hb hby at_78) rfl rfl (l' := #[iv m1, iv c1, iv m2, iv c2, iv q', iv fl, iv a1, iv k1, iv a2, iv k2, iv qm, iv qk, iv (1 : Int32), iv (0 : Int32), rv b1131, rv b1138, .unset, .unset, .unset, .unset, .unset, .unset]) rfl ?_
      refine XS.iload X1145.here hx rfl (hb hby at_80) rfl ?_
      refine XS.ifNo X1145.here hx rfl (hb hby at_82) rfl ((if0 _ _).trans (feq (by decide : ¬ ((1 : Int32) = (0 : Int32)))).1) ?_
      refine XS.aload X1145.here hx rfl (hb hby at_85) rfl rfl ?_
      refine XS.iload X1145.here hx rfl (hb hby at_87) rfl ?_
      refine XS.iconst X1145.here hx rfl (hb hby at_89) ?_
      show Steps p.tables e below (T1145.setTop (mkF m 90 #[iv m1, iv c1, iv m2, iv c2, iv q', iv fl, iv a1, iv k1, iv a2, iv k2, iv qm, iv qk, iv (1 : Int32), iv (0 : Int32), rv b1131, rv b1138, .unset, .unset, .unset, .unset, .unset, .unset] [(.int (2 : Int32)), (.int fl), (.ref b1131)])) _
      refine XS.iushr X1145.here hx rfl (hb hby at_90) rfl ?_
      refine XS.bipush X1145.here hx rfl (hb hby at_91) ?_
      refine XS.iand X1145.here hx rfl (hb hby at_93) rfl ?_
      exact kt)
  obtain ⟨ii1149, hii1149⟩ : ∃ z : Int32, z = (((fl.toUInt32 >>> ((2 : Int32) &&& 31).toUInt32).toInt32) &&& (63 : Int32)) := ⟨_, rfl⟩
  have bii1149 := own_63 _ ii1149 hii1149
  have f1150 := ((Fa1134.ext E1138).keep K1145 (ninS neb1131_b1138 nin0))
  have f1151 := ((Fb1134.ext E1138).keep K1145 (ninS neb1131_b1138 nin0))
  have f1152 := ((Fc1134.ext E1138).keep K1145 (ninS neb1131_b1138 nin0))
  have f1153 := (f1143.keep K1145)
  have f1154 := (f1144.keep K1145 (ninS neb1134_b1138 nin0))
  have f1155 := ((((OL.ext E1131).keep K1134 (allS ge_b1131 all0)).ext E1138).keep K1145 (allS ge_b1138 all0))
  have zs1157 := (Nat.le_trans zs1146 K1145.1)
  obtain ⟨cq1156, kq1156, q1156a, q1156b, q1156c⟩ := isOf hZ rfl f1153
  obtain ⟨_, _, ⟨T1156, L1156, k1156, n1156⟩, -, X1156, ⟨Lc1156, hQ1156, l1156, y1156, z1156⟩, st1156⟩ := X1145.virtualBack hx (y := (⟨"java/util/BitSet", "set", "(I)V"⟩ : MethodName)) (z := (⟨"java/util/BitSet", "set", "(I)V"⟩ : MethodName)) hown (mvT hZ (W 24 rfl)) (mvT hZ (W 25 rfl)) (notFace_of_selects (args := #[]) (mvT hZ (W 27 rfl))) (mvT hZ (W 27 rfl)) (mvT hZ (W 26 rfl)) (by decide) (backOf (W := 0) (rm5 l Z a0 hw [] b1131 b1134 kb1134 _ (((fl.toUInt32 >>> ((2 : Int32) &&& 31).toUInt32).toInt32) &&& (63 : Int32)) T1145.heap n0 zs1157 f1150 f1151 f1152 f1153 ge_b1131 f1154 gb1134 nb1134 (hii1149 ▸ bii1149.1) (hii1149 ▸ bii1149.2) SB f1155) hZ (W 28 rfl) (W 2 rfl) (by decide) (by decide)) q1156a q1156c (g := (mkF m 94 #[iv m1, iv c1, iv m2, iv c2, iv q', iv fl, iv a1, iv k1, iv a2, iv k2, iv qm, iv qk, iv (1 : Int32), iv (0 : Int32), rv b1131, rv b1138, .unset, .unset, .unset, .unset, .unset, .unset] [(.int (((fl.toUInt32 >>> ((2 : Int32) &&& 31).toUInt32).toInt32) &&& (63 : Int32))), (.ref b1131)])) rfl (by rw [hml]; rfl) (Steps.refl _) (argsL := [(.int (((fl.toUInt32 >>> ((2 : Int32) &&& 31).toUInt32).toInt32) &&& (63 : Int32)))]) (rest := []) (lenOf pd113 rfl) rfl (by show 2 * 0 + _ ≤ _; exact Nat.le_of_eq rfl) (hb hby at_94) (fun _ _ => ⟨rfl, rfl, (by decide : 4 + 0 ≤ _), (by decide : 8 + 0 ≤ _)⟩)
  dsimp only [Pt.U, Pt.locs, Pt.cells, Pt.slots] at X1156 l1156 y1156 z1156 st1156 hQ1156
  subst l1156 y1156 z1156
  obtain ⟨rfl, Nq1156, K1156, Fu1156⟩ := hQ1156
  have N1156 := Fr.app N1145 Nq1156
  have go1158 : own_S p e below ST T1156 (mkF m 97 #[iv m1, iv c1, iv m2, iv c2, iv q', iv fl, iv a1, iv k1, iv a2, iv k2, iv qm, iv qk, iv (1 : Int32), iv (0 : Int32), rv b1131, rv b1138, .unset, .unset, .unset, .unset, .unset, .unset] []) := fun tt kt => go1148 tt (st1156.trans kt)
  have go1159 : own_S p e below ST T1156 (mkF m 115 #[iv m1, iv c1, iv m2, iv c2, iv q', iv fl, iv a1, iv k1, iv a2, iv k2, iv qm, iv qk, iv (1 : Int32), iv (0 : Int32), rv b1131, rv b1138, .unset, .unset, .unset, .unset, .unset, .unset] []) := fun tt kt => go1158 tt (by
      refine XS.iload X1156.here hx rfl (hb hby at_97) rfl ?_
      refine XS.ifYes X1156.here hx rfl (pc0 := 99) (pc' := 115) rfl (hb hby at_99) rfl ((if0 _ _).trans (teq (by decide : (0 : Int32) = (0 : Int32))).1) (by decide) (by decide) ?_
      exact kt)
  have f1161 := (f1153.keep K1156)
  have f1162 := ((A1138.keep K1145).keep K1156)
  have f1163 := (Vb1145.keep K1156 (ninS (Ne.symm neb1131_b1145) (ninS (Ne.symm neb1134_b1145) nin0)))
  have zs1164 := (Nat.le_trans zs1157 K1156.1)
  obtain ⟨b1160, g1160⟩ : ∃ z, z = T1156.heap.size := ⟨_, rfl⟩
  obtain ⟨T1160, h1160, X1160, e1160, E1160, A1160, D1160, -, st1160⟩ := newO X1156 hx hZ hown (W 45 rfl) (W 46 rfl) (W 47 rfl) rfl (g := (mkF m 115 #[iv m1, iv c1, iv m2, iv c2, iv q', iv fl, iv a1, iv k1, iv a2, iv k2, iv qm, iv qk, iv (1 : Int32), iv (0 : Int32), rv b1131, rv b1138, .unset, .unset, .unset, .unset, .unset, .unset] [])) rfl (hb hby at_115) (by decide) (by decide)
  rw [← g1160] at A1160 D1160 st1160
  have neb1131_b1160 : b1131 ≠ b1160 := Nat.ne_of_lt (Nat.lt_of_lt_of_le f1161.lt (Nat.le_of_eq g1160.symm))
  have neb1138_b1160 : b1138 ≠ b1160 := Nat.ne_of_lt (Nat.lt_of_lt_of_le f1162.lt (Nat.le_of_eq g1160.symm))
  have neb1145_b1160 : b1145 ≠ b1160 := Nat.ne_of_lt (Nat.lt_of_lt_of_le f1163.lt (Nat.le_of_eq g1160.symm))
  have ge_b1160 : n0 ≤ b1160 := Nat.le_trans zs1164 (Nat.le_of_eq g1160.symm)
  have F1160_edges : Fld Z h1160 b1160 "com/example/brancher/brancher/service/Group" "edges" "Ljava/util/List;" .null := D1160 (Or.inr (W 77 rfl)) (ty := (.object "java/util/List")) (by decide)
  have F1160_elements : Fld Z h1160 b1160 "com/example/brancher/brancher/service/Group" "elements" "[Lcom/example/brancher/brancher/service/Element;" .null := D1160 (Or.inr (W 81 rfl)) (ty := (.array (.object "com/example/brancher/brancher/service/Element"))) (by decide)
  have F1160_parent : Fld Z h1160 b1160 "com/example/brancher/brancher/service/Group" "parent" "Lcom/example/brancher/brancher/service/Group$Parent;" .null := D1160 (Or.inr (W 83 rfl)) (ty := (.object "com/example/brancher/brancher/service/Group$Parent")) (by decide)
  have F1160_level : Fld Z h1160 b1160 "com/example/brancher/brancher/service/Group" "level" "I" (.int (0 : Int32)) := D1160 (Or.inr (W 85 rfl)) (ty := .int) (by decide)
  have F1160_choices : Fld Z h1160 b1160 "com/example/brancher/brancher/service/Group" "choices" "[[Ljava/util/BitSet;" .null := D1160 (Or.inr (W 89 rfl)) (ty := (.array (.array (.object "java/util/BitSet")))) (by decide)
  have go1165 : own_S p e below ST T1160 (mkF m 118 #[iv m1, iv c1, iv m2, iv c2, iv q', iv fl, iv a1, iv k1, iv a2, iv k2, iv qm, iv qk, iv (1 : Int32), iv (0 : Int32), rv b1131, rv b1138, .unset, .unset, .unset, .unset, .unset, .unset] [(.ref b1160)]) := fun tt kt => go1159 tt (st1160 _ kt)
  have go1166 : own_S p e below ST T1160 (mkF m 120 #[iv m1, iv c1, iv m2, iv c2, iv q', iv fl, iv a1, iv k1, iv a2, iv k2, iv qm, iv qk, iv (1 : Int32), iv (0 : Int32), rv b1131, rv b1138, .unset, .unset, .unset, .unset, .unset, .unset] [(.int (2 : Int32)), (.ref b1160), (.ref b1160)]) := fun tt kt => go1165 tt (by
      refine XS.dup X1160.here hx rfl (hb hby at_118) rfl rfl ?_
      refine XS.iconst X1160.here hx rfl (hb hby at_119) ?_
      exact kt)
  have f1167 := ((f1155.keep K1156 (allS ge_b1131 (allS gb1134 all0))).ext E1160)
  have zs1169 := (Nat.le_trans zs1164 E1160.1)
  obtain ⟨_, _, ⟨T1168, L1168, k1168, n1168⟩, -, X1168, ⟨Lc1168, hQ1168, l1168, y1168, z1168⟩, st1168⟩ := X1160.specialBack hx (y := (⟨"com/example/brancher/brancher/service/Group", "<init>", "(I)V"⟩ : MethodName)) rfl hown (mvT hZ (W 48 rfl)) (mvT hZ (W 49 rfl)) (mvT hZ (W 50 rfl)) (by decide) (backOf (W := 1) (rm9 l Z a0 hw [] b1160 ad kd h1160 n0 zs1169 F1160_edges F1160_elements F1160_parent F1160_level F1160_choices A1160 ge_b1160 SD VD f1167) hZ (W 50 rfl) (W 47 rfl) (by decide) (by decide)) (g := (mkF m 120 #[iv m1, iv c1, iv m2, iv c2, iv q', iv fl, iv a1, iv k1, iv a2, iv k2, iv qm, iv qk, iv (1 : Int32), iv (0 : Int32), rv b1131, rv b1138, .unset, .unset, .unset, .unset, .unset, .unset] [(.int (2 : Int32)), (.ref b1160), (.ref b1160)])) rfl (by rw [hml]; rfl) (Steps.refl _) (a := b1160) (argsL := [(.int (2 : Int32))]) (rest := [(.ref b1160)]) (lenOf pd113 rfl) rfl (by show 2 * 0 + _ ≤ _; exact Nat.le_of_eq rfl) (hb hby at_120) (fun _ _ => ⟨rfl, e1160, (by decide : 5 + 18 ≤ _), (by decide : 14 + 57 ≤ _)⟩)
  dsimp only [Pt.U, Pt.locs, Pt.cells, Pt.slots] at X1168 l1168 y1168 z1168 st1168 hQ1168
  subst l1168 y1168 z1168
  obtain ⟨bc1168, kc1168, rfl, Nq1168, K1168, Fc1168, Vc1168, oc1168, gb1168, nb1168⟩ := hQ1168
  have N1168 := Fr.app N1156 Nq1168
  have go1170 : own_S p e below ST T1168 (mkF m 123 #[iv m1, iv c1, iv m2, iv c2, iv q', iv fl, iv a1, iv k1, iv a2, iv k2, iv qm, iv qk, iv (1 : Int32), iv (0 : Int32), rv b1131, rv b1138, .unset, .unset, .unset, .unset, .unset, .unset] [(.ref b1160)]) := fun tt kt => go1166 tt (st1168.trans kt)
  have GRi1168 : own_GR Z T1168.heap n0 b1160 [.null, .null, .null, .null] [.null, .null, .null, .null] := ⟨bc1168, kc1168, .null, .null, Fc1168, Vc1168, oc1168, Or.inl ⟨rfl, rfl⟩, Or.inl ⟨rfl, rfl⟩, Or.inl rfl, gb1168, nb1168, rfl, rfl⟩
  have go1171 : own_S p e below ST T1168 (mkF m 131 #[iv m1, iv c1, iv m2, iv c2, iv q', iv fl, iv a1, iv k1, iv a2, iv k2, iv qm, iv qk, iv (1 : Int32), iv (0 : Int32), rv b1131, rv b1138, rv b1160, .unset, .unset, .unset, .unset, .unset] [(.int qk), (.int qm), (.ref b1160)]) := fun tt kt => go1170 tt (by
      refine XS.astore X1168.here hx rfl (hb hby at_123) rfl rfl (l' := #[iv m1, iv c1, iv m2, iv c2, iv q', iv fl, iv a1, iv k1, iv a2, iv k2, iv qm, iv qk, iv (1 : Int32), iv (0 : Int32), rv b1131, rv b1138, rv b1160, .unset, .unset, .unset, .unset, .unset]) rfl ?_
      refine XS.aload X1168.here hx rfl (hb hby at_125) rfl rfl ?_
      refine XS.iload X1168.here hx rfl (hb hby at_127) rfl ?_
      refine XS.iload X1168.here hx rfl (hb hby at_129) rfl ?_
      exact kt)
  have f1172 := (f1167.keep K1168 (allS ge_b1160 all0))
  have zs1174 := (Nat.le_trans zs1169 K1168.1)
  have f1175 := (A1160.keep K1168)
  obtain ⟨cq1173, kq1173, q1173a, q1173b, q1173c⟩ := isOf hZ rfl f1175
  obtain ⟨_, _, ⟨T1173, L1173, k1173, n1173⟩, -, X1173, ⟨Lc1173, hQ1173, l1173, y1173, z1173⟩, st1173⟩ := X1168.virtualBack hx (y := (⟨"com/example/brancher/brancher/service/Group", "choices", "(II)Ljava/util/BitSet;"⟩ : MethodName)) (z := (⟨"com/example/brancher/brancher/service/Group", "choices", "(II)Ljava/util/BitSet;"⟩ : MethodName)) hown (mvT hZ (W 144 rfl)) (mvT hZ (W 145 rfl)) (notFace_of_selects (args := #[]) (mvT hZ (W 147 rfl))) (mvT hZ (W 147 rfl)) (mvT hZ (W 146 rfl)) (by decide) (backOf (W := 0) (rmCH l Z a0 hw [] b1160 qm qk [.null, .null, .null, .null] [.null, .null, .null, .null] nc T1168.heap n0 zs1174 GRi1168 bqm bqk SN f1172) hZ (W 148 rfl) (W 47 rfl) (by decide) (by decide)) q1173a q1173c (g := (mkF m 131 #[iv m1, iv c1, iv m2, iv c2, iv q', iv fl, iv a1, iv k1, iv a2, iv k2, iv qm, iv qk, iv (1 : Int32), iv (0 : Int32), rv b1131, rv b1138, rv b1160, .unset, .unset, .unset, .unset, .unset] [(.int qk), (.int qm), (.ref b1160)])) rfl (by rw [hml]; rfl) (Steps.refl _) (argsL := [(.int qm), (.int qk)]) (rest := []) (lenOf pd296 rfl) rfl (by show 2 * 0 + _ ≤ _; exact Nat.le_of_eq rfl) (hb hby at_131) (fun _ _ => ⟨rfl, rfl, (by decide : 23 + 0 ≤ _), (by decide : 71 + 0 ≤ _)⟩)
  dsimp only [Pt.U, Pt.locs, Pt.cells, Pt.slots] at X1173 l1173 y1173 z1173 st1173 hQ1173
  subst l1173 y1173 z1173
  obtain ⟨rfl, Nq1173, eh1173⟩ := hQ1173
  have N1173 := Fr.app N1168 Nq1173
  have go1176 : own_S p e below ST T1173 (mkF m 134 #[iv m1, iv c1, iv m2, iv c2, iv q', iv fl, iv a1, iv k1, iv a2, iv k2, iv qm, iv qk, iv (1 : Int32), iv (0 : Int32), rv b1131, rv b1138, rv b1160, .unset, .unset, .unset, .unset, .unset] [(own_or nc ((if qm = 0 then [.null, .null, .null, .null] else [.null, .null, .null, .null]).getD (qk).toNatClampNeg .null))]) := fun tt kt => go1171 tt (st1173.trans kt)
  have e_1 : own_or nc ((if qm = 0 then ([.null, .null, .null, .null] : List Value) else [.null, .null, .null, .null]).getD (qk).toNatClampNeg .null) = .ref nc := own_orn nc (own_nn qm qk bqk)
  obtain ⟨vo1, hvo1⟩ : ∃ z : Value, z = (own_or nc ((if qm = 0 then [.null, .null, .null, .null] else [.null, .null, .null, .null]).getD (qk).toNatClampNeg .null)) := ⟨_, rfl⟩
  rw [← hvo1] at go1176
  replace e_1 := hvo1.trans e_1
  obtain ⟨T1177, X1177, e1177, st1177⟩ := getS2 X1173 hx hZ hown (host := "") (Or.inl (W 151 rfl)) Via.refl eh1173 (SN.ext f1172.2) (g := (mkF m 134 #[iv m1, iv c1, iv m2, iv c2, iv q', iv fl, iv a1, iv k1, iv a2, iv k2, iv qm, iv qk, iv (1 : Int32), iv (0 : Int32), rv b1131, rv b1138, rv b1160, .unset, .unset, .unset, .unset, .unset] [vo1])) rfl (hb hby at_134)
  have go1178 : own_S p e below ST T1177 (mkF m 137 #[iv m1, iv c1, iv m2, iv c2, iv q', iv fl, iv a1, iv k1, iv a2, iv k2, iv qm, iv qk, iv (1 : Int32), iv (0 : Int32), rv b1131, rv b1138, rv b1160, .unset, .unset, .unset, .unset, .unset] [(.ref nc), vo1]) := fun tt kt => go1176 tt (st1177 _ kt)
  have go1179 : own_S p e below ST T1177 (mkF m 156 #[iv m1, iv c1, iv m2, iv c2, iv q', iv fl, iv a1, iv k1, iv a2, iv k2, iv qm, iv qk, iv (1 : Int32), iv (0 : Int32), rv b1131, rv b1138, rv b1160, iv (1 : Int32), .unset, .unset, .unset, .unset] [(.int (4 : Int32)), (.ref b1131), (.int k1), (.int a1), (.ref b1160)]) := fun tt kt => go1178 tt (by
      refine Jvm.RoadKit.acmp (g := (mkF m 137 #[iv m1, iv c1, iv m2, iv c2, iv q', iv fl, iv a1, iv k1, iv a2, iv k2, iv qm, iv qk, iv (1 : Int32), iv (0 : Int32), rv b1131, rv b1138, rv b1160, .unset, .unset, .unset, .unset, .unset] [(.ref nc), vo1])) X1177 hx rfl (by rw [e_1]; rfl) rfl (pc0 := 137) (pc' := 140) (same := true) rfl (hb hby at_137) rfl (decide_eq_true e_1) (by decide) (by decide) ?_
      refine XS.iconst X1177.here hx rfl (hb hby at_140) ?_
      refine XS.goto X1177.here hx rfl (pc0 := 141) (pc' := 145) rfl (hb hby at_141) (by decide) (by decide) ?_
      refine XS.istore X1177.here hx rfl (hb hby at_145) rfl (l' := #[iv m1, iv c1, iv m2, iv c2, iv q', iv fl, iv a1, iv k1, iv a2, iv k2, iv qm, iv qk, iv (1 : Int32), iv (0 : Int32), rv b1131, rv b1138, rv b1160, iv (1 : Int32), .unset, .unset, .unset, .unset]) rfl ?_
      refine XS.aload X1177.here hx rfl (hb hby at_147) rfl rfl ?_
      refine XS.iload X1177.here hx rfl (hb hby at_149) rfl ?_
      show Steps p.tables e below (T1177.setTop (mkF m 151 #[iv m1, iv c1, iv m2, iv c2, iv q', iv fl, iv a1, iv k1, iv a2, iv k2, iv qm, iv qk, iv (1 : Int32), iv (0 : Int32), rv b1131, rv b1138, rv b1160, iv (1 : Int32), .unset, .unset, .unset, .unset] [(.int a1), (.ref b1160)])) _
      refine XS.iload X1177.here hx rfl (hb hby at_151) rfl ?_
      refine XS.aload X1177.here hx rfl (hb hby at_153) rfl rfl ?_
      refine XS.iconst X1177.here hx rfl (hb hby at_155) ?_
      exact kt)
  obtain ⟨M0_1, hM0_1⟩ : ∃ z : List Value, z = if a1 = 0 then ([.null, .null, .null, .null] : List Value).set (k1).toNatClampNeg (.ref b1131) else [.null, .null, .null, .null] := ⟨_, rfl⟩
  obtain ⟨M1_1, hM1_1⟩ : ∃ z : List Value, z = if a1 = 0 then ([.null, .null, .null, .null] : List Value) else ([.null, .null, .null, .null] : List Value).set (k1).toNatClampNeg (.ref b1131) := ⟨_, rfl⟩
  have f1180 := (((Fa1145.keep K1156 (ninS (Ne.symm neb1131_b1138) (ninS (Ne.symm neb1134_b1138) nin0))).ext E1160).keep K1168 (ninS neb1138_b1160 nin0))
  have f1181 := ((f1162.ext E1160).keep K1168)
  have f1182 := ((f1161.ext E1160).keep K1168)
  have f1183 := ((Fu1156.ext E1160).keep K1168 (ninS neb1131_b1160 nin0))
  obtain ⟨cq1184, kq1184, q1184a, q1184b, q1184c⟩ := isOf hZ e1177 f1175
  obtain ⟨_, _, ⟨T1184, L1184, k1184, n1184⟩, -, X1184, ⟨Lc1184, hQ1184, l1184, y1184, z1184⟩, st1184⟩ := X1177.virtualBack hx (y := (⟨"com/example/brancher/brancher/service/Group", "rest", "(IILjava/util/BitSet;I)V"⟩ : MethodName)) (z := (⟨"com/example/brancher/brancher/service/Group", "rest", "(IILjava/util/BitSet;I)V"⟩ : MethodName)) hown (mvT hZ (W 152 rfl)) (mvT hZ (W 153 rfl)) (notFace_of_selects (args := #[]) (mvT hZ (W 155 rfl))) (mvT hZ (W 155 rfl)) (mvT hZ (W 154 rfl)) (by decide) (backOf (W := 0) (rmRS1 l Z a0 hw [] b1160 b1131 b1138 a1 k1 [.null, .null, .null, .null] [.null, .null, .null, .null] _ M0_1 M1_1 T1168.heap n0 zs1174 GRi1168 ba1 bk1 f1172 f1175 f1182 f1183 f1181 f1180 hM0_1 hM1_1) hZ (W 156 rfl) (W 47 rfl) (by decide) (by decide)) q1184a q1184c (g := (mkF m 156 #[iv m1, iv c1, iv m2, iv c2, iv q', iv fl, iv a1, iv k1, iv a2, iv k2, iv qm, iv qk, iv (1 : Int32), iv (0 : Int32), rv b1131, rv b1138, rv b1160, iv (1 : Int32), .unset, .unset, .unset, .unset] [(.int (4 : Int32)), (.ref b1131), (.int k1), (.int a1), (.ref b1160)])) rfl (by rw [hml]; rfl) (Steps.refl _) (argsL := [(.int a1), (.int k1), (.ref b1131), (.int (4 : Int32))]) (rest := []) (lenOf pd297 rfl) rfl (by show 2 * 0 + _ ≤ _; exact Nat.le_of_eq rfl) (hb hby at_156) (fun _ _ => ⟨rfl, e1177, (by decide : 23 + 1 ≤ _), (by decide : 71 + 4 ≤ _)⟩)
  dsimp only [Pt.U, Pt.locs, Pt.cells, Pt.slots] at X1184 l1184 y1184 z1184 st1184 hQ1184
  subst l1184 y1184 z1184
  obtain ⟨rfl, Nq1184, Or1184, GRr1184, Ex1184, Fx1184, Eg1184, sz1184⟩ := hQ1184
  have N1184 := Fr.app N1173 Nq1184
  have go1185 : own_S p e below ST T1184 (mkF m 159 #[iv m1, iv c1, iv m2, iv c2, iv q', iv fl, iv a1, iv k1, iv a2, iv k2, iv qm, iv qk, iv (1 : Int32), iv (0 : Int32), rv b1131, rv b1138, rv b1160, iv (1 : Int32), .unset, .unset, .unset, .unset] []) := fun tt kt => go1179 tt (st1184.trans kt)
  have go1186 : own_S p e below ST T1184 (mkF m 185 #[iv m1, iv c1, iv m2, iv c2, iv q', iv fl, iv a1, iv k1, iv a2, iv k2, iv qm, iv qk, iv (1 : Int32), iv (0 : Int32), rv b1131, rv b1138, rv b1160, iv (1 : Int32), rv b1131, .unset, .unset, .unset] [(.int k1), (.int a1), (.ref b1160)]) := fun tt kt => go1185 tt (by
      refine XS.iload X1184.here hx rfl (hb hby at_159) rfl ?_
      refine XS.ifNo X1184.here hx rfl (hb hby at_161) rfl ((if0 _ _).trans (feq (by decide : ¬ ((1 : Int32) = (0 : Int32)))).1) ?_
      refine XS.aload X1184.here hx rfl (hb hby at_164) rfl rfl ?_
      refine XS.goto X1184.here hx rfl (pc0 := 166) (pc' := 172) rfl (hb hby at_166) (by decide) (by decide) ?_
      refine XS.astore X1184.here hx rfl (hb hby at_172) rfl rfl (l' := #[iv m1, iv c1, iv m2, iv c2, iv q', iv fl, iv a1, iv k1, iv a2, iv k2, iv qm, iv qk, iv (1 : Int32), iv (0 : Int32), rv b1131, rv b1138, rv b1160, iv (1 : Int32), rv b1131, .unset, .unset, .unset]) rfl ?_
      refine XS.iload X1184.here hx rfl (hb hby at_174) rfl ?_
      show Steps p.tables e below (T1184.setTop (mkF m 176 #[iv m1, iv c1, iv m2, iv c2, iv q', iv fl, iv a1, iv k1, iv a2, iv k2, iv qm, iv qk, iv (1 : Int32), iv (0 : Int32), rv b1131, rv b1138, rv b1160, iv (1 : Int32), rv b1131, .unset, .unset, .unset] [(.int (1 : Int32))])) _
      refine XS.ifNo X1184.here hx rfl (hb hby at_176) rfl ((if0 _ _).trans (feq (by decide : ¬ ((1 : Int32) = (0 : Int32)))).1) ?_
      refine XS.aload X1184.here hx rfl (hb hby at_179) rfl rfl ?_
      refine XS.iload X1184.here hx rfl (hb hby at_181) rfl ?_
      refine XS.iload X1184.here hx rfl (hb hby at_183) rfl ?_
      exact kt)
  have zs1188 := (Nat.le_trans zs1174 sz1184)
  obtain ⟨cq1187, kq1187, q1187a, q1187b, q1187c⟩ := isOf hZ rfl Eg1184
  obtain ⟨_, _, ⟨T1187, L1187, k1187, n1187⟩, -, X1187, ⟨Lc1187, hQ1187, l1187, y1187, z1187⟩, st1187⟩ := X1184.virtualBack hx (y := (⟨"com/example/brancher/brancher/service/Group", "choices", "(II)Ljava/util/BitSet;"⟩ : MethodName)) (z := (⟨"com/example/brancher/brancher/service/Group", "choices", "(II)Ljava/util/BitSet;"⟩ : MethodName)) hown (mvT hZ (W 144 rfl)) (mvT hZ (W 145 rfl)) (notFace_of_selects (args := #[]) (mvT hZ (W 147 rfl))) (mvT hZ (W 147 rfl)) (mvT hZ (W 146 rfl)) (by decide) (backOf (W := 0) (rmCH l Z a0 hw [] b1160 a1 k1 M0_1 M1_1 nc T1184.heap n0 zs1188 GRr1184 ba1 bk1 SN Or1184) hZ (W 148 rfl) (W 47 rfl) (by decide) (by decide)) q1187a q1187c (g := (mkF m 185 #[iv m1, iv c1, iv m2, iv c2, iv q', iv fl, iv a1, iv k1, iv a2, iv k2, iv qm, iv qk, iv (1 : Int32), iv (0 : Int32), rv b1131, rv b1138, rv b1160, iv (1 : Int32), rv b1131, .unset, .unset, .unset] [(.int k1), (.int a1), (.ref b1160)])) rfl (by rw [hml]; rfl) (Steps.refl _) (argsL := [(.int a1), (.int k1)]) (rest := []) (lenOf pd296 rfl) rfl (by show 2 * 0 + _ ≤ _; exact Nat.le_of_eq rfl) (hb hby at_185) (fun _ _ => ⟨rfl, rfl, (by decide : 24 + 0 ≤ _), (by decide : 75 + 0 ≤ _)⟩)
  dsimp only [Pt.U, Pt.locs, Pt.cells, Pt.slots] at X1187 l1187 y1187 z1187 st1187 hQ1187
  subst l1187 y1187 z1187
  obtain ⟨rfl, Nq1187, eh1187⟩ := hQ1187
  have N1187 := Fr.app N1184 Nq1187
  have go1189 : own_S p e below ST T1187 (mkF m 188 #[iv m1, iv c1, iv m2, iv c2, iv q', iv fl, iv a1, iv k1, iv a2, iv k2, iv qm, iv qk, iv (1 : Int32), iv (0 : Int32), rv b1131, rv b1138, rv b1160, iv (1 : Int32), rv b1131, .unset, .unset, .unset] [(own_or nc ((if a1 = 0 then M0_1 else M1_1).getD (k1).toNatClampNeg .null))]) := fun tt kt => go1186 tt (st1187.trans kt)
  have s_1 : ∀ q j, (q = 0 ∨ q = 1) → (j = 0 ∨ j = 1 ∨ j = 2 ∨ j = 3) → (if q = 0 then M0_1 else M1_1).getD (Int32.toNatClampNeg j) .null = if q = a1 ∧ j = k1 then (.ref b1131) else .null := fun q j hq hj => by rw [hM0_1, hM1_1, own_sel a1 q k1 j _ _ _ ba1 hq bk1 hj rfl rfl, own_nn q j hj]
  have e_2 : own_or nc ((if a1 = 0 then M0_1 else M1_1).getD (k1).toNatClampNeg .null) = .ref b1131 := own_orr nc ((s_1 a1 k1 ba1 bk1).trans (if_pos ⟨rfl, rfl⟩))
  obtain ⟨vo2, hvo2⟩ : ∃ z : Value, z = (own_or nc ((if a1 = 0 then M0_1 else M1_1).getD (k1).toNatClampNeg .null)) := ⟨_, rfl⟩
  rw [← hvo2] at go1189
  replace e_2 := hvo2.trans e_2
  have go1190 : own_S p e below ST T1187 (mkF m 209 #[iv m1, iv c1, iv m2, iv c2, iv q', iv fl, iv a1, iv k1, iv a2, iv k2, iv qm, iv qk, iv (1 : Int32), iv (0 : Int32), rv b1131, rv b1138, rv b1160, iv (1 : Int32), rv b1131, .unset, .unset, .unset] [(.int (4 : Int32)), (.ref b1138), (.int k2), (.int a2), (.ref b1160)]) := fun tt kt => go1189 tt (by
      refine XS.aload X1187.here hx rfl (hb hby at_188) rfl rfl ?_
      refine Jvm.RoadKit.acmp (g := (mkF m 190 #[iv m1, iv c1, iv m2, iv c2, iv q', iv fl, iv a1, iv k1, iv a2, iv k2, iv qm, iv qk, iv (1 : Int32), iv (0 : Int32), rv b1131, rv b1138, rv b1160, iv (1 : Int32), rv b1131, .unset, .unset, .unset] [(.ref b1131), vo2])) X1187 hx rfl (by rw [e_2]; rfl) rfl (pc0 := 190) (pc' := 193) (same := true) rfl (hb hby at_190) rfl (decide_eq_true e_2) (by decide) (by decide) ?_
      refine XS.iconst X1187.here hx rfl (hb hby at_193) ?_
      refine XS.goto X1187.here hx rfl (pc0 := 194) (pc' := 198) rfl (hb hby at_194) (by decide) (by decide) ?_
      refine XS.istore X1187.here hx rfl (hb hby at_198) rfl (l' := #[iv m1, iv c1, iv m2, iv c2, iv q', iv fl, iv a1, iv k1, iv a2, iv k2, iv qm, iv qk, iv (1 : Int32), iv (0 : Int32), rv b1131, rv b1138, rv b1160, iv (1 : Int32), rv b1131, .unset, .unset, .unset]) rfl ?_
      refine XS.aload X1187.here hx rfl (hb hby at_200) rfl rfl ?_
      show Steps p.tables e below (T1187.setTop (mkF m 202 #[iv m1, iv c1, iv m2, iv c2, iv q', iv fl, iv a1, iv k1, iv a2, iv k2, iv qm, iv qk, iv (1 : Int32), iv (0 : Int32), rv b1131, rv b1138, rv b1160, iv (1 : Int32), rv b1131, .unset, .unset, .unset] [(.ref b1160)])) _
      refine XS.iload X1187.here hx rfl (hb hby at_202) rfl ?_
      refine XS.iload X1187.here hx rfl (hb hby at_204) rfl ?_
      refine XS.aload X1187.here hx rfl (hb hby at_206) rfl rfl ?_
      refine XS.iconst X1187.here hx rfl (hb hby at_208) ?_
      exact kt)
  obtain ⟨M0_2, hM0_2⟩ : ∃ z : List Value, z = if a2 = 0 then M0_1.set (k2).toNatClampNeg .null else M0_1 := ⟨_, rfl⟩
  obtain ⟨M1_2, hM1_2⟩ : ∃ z : List Value, z = if a2 = 0 then M1_1 else M1_1.set (k2).toNatClampNeg .null := ⟨_, rfl⟩
  obtain ⟨cq1191, kq1191, q1191a, q1191b, q1191c⟩ := isOf hZ eh1187 Eg1184
  obtain ⟨_, _, ⟨T1191, L1191, k1191, n1191⟩, -, X1191, ⟨Lc1191, hQ1191, l1191, y1191, z1191⟩, st1191⟩ := X1187.virtualBack hx (y := (⟨"com/example/brancher/brancher/service/Group", "rest", "(IILjava/util/BitSet;I)V"⟩ : MethodName)) (z := (⟨"com/example/brancher/brancher/service/Group", "rest", "(IILjava/util/BitSet;I)V"⟩ : MethodName)) hown (mvT hZ (W 152 rfl)) (mvT hZ (W 153 rfl)) (notFace_of_selects (args := #[]) (mvT hZ (W 155 rfl))) (mvT hZ (W 155 rfl)) (mvT hZ (W 154 rfl)) (by decide) (backOf (W := 0) (rmRS0 l Z a0 hw [] b1160 b1138 b1138 a2 k2 M0_1 M1_1 _ M0_2 M1_2 T1184.heap n0 zs1188 GRr1184 ba2 bk2 Or1184 Eg1184 Ex1184 Fx1184 Ex1184 Fx1184 hM0_2 hM1_2) hZ (W 156 rfl) (W 47 rfl) (by decide) (by decide)) q1191a q1191c (g := (mkF m 209 #[iv m1, iv c1, iv m2, iv c2, iv q', iv fl, iv a1, iv k1, iv a2, iv k2, iv qm, iv qk, iv (1 : Int32), iv (0 : Int32), rv b1131, rv b1138, rv b1160, iv (1 : Int32), rv b1131, .unset, .unset, .unset] [(.int (4 : Int32)), (.ref b1138), (.int k2), (.int a2), (.ref b1160)])) rfl (by rw [hml]; rfl) (Steps.refl _) (argsL := [(.int a2), (.int k2), (.ref b1138), (.int (4 : Int32))]) (rest := []) (lenOf pd297 rfl) rfl (by show 2 * 0 + _ ≤ _; exact Nat.le_of_eq rfl) (hb hby at_209) (fun _ _ => ⟨rfl, eh1187, (by decide : 24 + 1 ≤ _), (by decide : 75 + 4 ≤ _)⟩)
  dsimp only [Pt.U, Pt.locs, Pt.cells, Pt.slots] at X1191 l1191 y1191 z1191 st1191 hQ1191
  subst l1191 y1191 z1191
  obtain ⟨rfl, Nq1191, Or1191, GRr1191, Ex1191, Fx1191, Eg1191, sz1191⟩ := hQ1191
  have N1191 := Fr.app N1187 Nq1191
  have go1192 : own_S p e below ST T1191 (mkF m 212 #[iv m1, iv c1, iv m2, iv c2, iv q', iv fl, iv a1, iv k1, iv a2, iv k2, iv qm, iv qk, iv (1 : Int32), iv (0 : Int32), rv b1131, rv b1138, rv b1160, iv (1 : Int32), rv b1131, .unset, .unset, .unset] []) := fun tt kt => go1190 tt (st1191.trans kt)
  have go1193 : own_S p e below ST T1191 (mkF m 222 #[iv m1, iv c1, iv m2, iv c2, iv q', iv fl, iv a1, iv k1, iv a2, iv k2, iv qm, iv qk, iv (1 : Int32), iv (0 : Int32), rv b1131, rv b1138, rv b1160, iv (1 : Int32), rv b1131, .unset, .unset, .unset] []) := fun tt kt => go1192 tt (by
      refine XS.iload X1191.here hx rfl (hb hby at_212) rfl ?_
      refine XS.ifYes X1191.here hx rfl (pc0 := 214) (pc' := 222) rfl (hb hby at_214) rfl ((if0 _ _).trans (teq (by decide : (0 : Int32) = (0 : Int32))).1) (by decide) (by decide) ?_
      exact kt)
  obtain ⟨T1194, X1194, e1194, st1194⟩ := getS2 X1191 hx hZ hown (host := "") (Or.inl (W 151 rfl)) Via.refl rfl (SN.ext Or1191.2) (g := (mkF m 222 #[iv m1, iv c1, iv m2, iv c2, iv q', iv fl, iv a1, iv k1, iv a2, iv k2, iv qm, iv qk, iv (1 : Int32), iv (0 : Int32), rv b1131, rv b1138, rv b1160, iv (1 : Int32), rv b1131, .unset, .unset, .unset] [])) rfl (hb hby at_222)
  have go1195 : own_S p e below ST T1194 (mkF m 225 #[iv m1, iv c1, iv m2, iv c2, iv q', iv fl, iv a1, iv k1, iv a2, iv k2, iv qm, iv qk, iv (1 : Int32), iv (0 : Int32), rv b1131, rv b1138, rv b1160, iv (1 : Int32), rv b1131, .unset, .unset, .unset] [(.ref nc)]) := fun tt kt => go1193 tt (st1194 _ kt)
  have go1196 : own_S p e below ST T1194 (mkF m 227 #[iv m1, iv c1, iv m2, iv c2, iv q', iv fl, iv a1, iv k1, iv a2, iv k2, iv qm, iv qk, iv (1 : Int32), iv (0 : Int32), rv b1131, rv b1138, rv b1160, iv (1 : Int32), rv b1131, rv nc, .unset, .unset] []) := fun tt kt => go1195 tt (by
      refine XS.astore X1194.here hx rfl (hb hby at_225) rfl rfl (l' := #[iv m1, iv c1, iv m2, iv c2, iv q', iv fl, iv a1, iv k1, iv a2, iv k2, iv qm, iv qk, iv (1 : Int32), iv (0 : Int32), rv b1131, rv b1138, rv b1160, iv (1 : Int32), rv b1131, rv nc, .unset, .unset]) rfl ?_
      exact kt)
  have l_1 : M0_1.length = 4 ∧ M1_1.length = 4 := by rw [hM0_1, hM1_1]; exact ⟨(own_len4 rfl).1, (own_len4 rfl).2⟩
  have s_2 : ∀ q j, (q = 0 ∨ q = 1) → (j = 0 ∨ j = 1 ∨ j = 2 ∨ j = 3) → (if q = 0 then M0_2 else M1_2).getD (Int32.toNatClampNeg j) .null = if q = a2 ∧ j = k2 then .null else (if q = a1 ∧ j = k1 then (.ref b1131) else .null) := fun q j hq hj => by rw [hM0_2, hM1_2, own_sel a2 q k2 j _ _ _ ba2 hq bk2 hj l_1.1 l_1.2, s_1 q j hq hj]
  have go1197 : own_S p e below ST T1194 (mkF m 231 #[iv m1, iv c1, iv m2, iv c2, iv q', iv fl, iv a1, iv k1, iv a2, iv k2, iv qm, iv qk, iv (1 : Int32), iv (0 : Int32), rv b1131, rv b1138, rv b1160, iv (1 : Int32), rv b1131, rv nc, .unset, .unset] [(.int a2), (.int a1)]) := fun tt kt => go1196 tt (by
      refine XS.iload X1194.here hx rfl (hb hby at_227) rfl ?_
      refine XS.iload X1194.here hx rfl (hb hby at_229) rfl ?_
      exact kt)
  obtain ⟨same, hsame, sg1198⟩ : ∃ (same : Int32), same = (if a1 = a2 then (if k1 = k2 then (1 : Int32) else (0 : Int32)) else (0 : Int32)) ∧ ∀ tt, Steps p.tables e below (T1194.setTop (mkF m 246 #[iv m1, iv c1, iv m2, iv c2, iv q', iv fl, iv a1, iv k1, iv a2, iv k2, iv qm, iv qk, iv (1 : Int32), iv (0 : Int32), rv b1131, rv b1138, rv b1160, iv (1 : Int32), rv b1131, rv nc, .unset, .unset] [(.int same)])) tt → Steps p.tables e below (T1194.setTop (mkF m 231 #[iv m1, iv c1, iv m2, iv c2, iv q', iv fl, iv a1, iv k1, iv a2, iv k2, iv qm, iv qk, iv (1 : Int32), iv (0 : Int32), rv b1131, rv b1138, rv b1160, iv (1 : Int32), rv b1131, rv nc, .unset, .unset] [(.int a2), (.int a1)])) tt := by
    by_cases hd231_0 : a1 = a2
    · by_cases hd238_1 : k1 = k2
      · refine ⟨_, ((if_pos hd231_0).trans (if_pos hd238_1)).symm, fun tt kt => ?_⟩
        show Steps p.tables e below (T1194.setTop (mkF m 231 #[iv m1, iv c1, iv m2, iv c2, iv q', iv fl, iv a1, iv k1, iv a2, iv k2, iv qm, iv qk, iv (1 : Int32), iv (0 : Int32), rv b1131, rv b1138, rv b1160, iv (1 : Int32), rv b1131, rv nc, .unset, .unset] [(.int a2), (.int a1)])) _
        refine XS.icmpNo X1194.here hx rfl (hb hby at_231) rfl (teq hd231_0).2 ?_
        refine XS.iload X1194.here hx rfl (hb hby at_234) rfl ?_
        refine XS.iload X1194.here hx rfl (hb hby at_236) rfl ?_
        refine XS.icmpNo X1194.here hx rfl (hb hby at_238) rfl (teq hd238_1).2 ?_
        refine XS.iconst X1194.here hx rfl (hb hby at_241) ?_
        refine XS.goto X1194.here hx rfl (pc0 := 242) (pc' := 246) rfl (hb hby at_242) (by decide) (by decide) ?_
        exact kt
      · refine ⟨_, ((if_pos hd231_0).trans (if_neg hd238_1)).symm, fun tt kt => ?_⟩
        show Steps p.tables e below (T1194.setTop (mkF m 231 #[iv m1, iv c1, iv m2, iv c2, iv q', iv fl, iv a1, iv k1, iv a2, iv k2, iv qm, iv qk, iv (1 : Int32), iv (0 : Int32), rv b1131, rv b1138, rv b1160, iv (1 : Int32), rv b1131, rv nc, .unset, .unset] [(.int a2), (.int a1)])) _
        refine XS.icmpNo X1194.here hx rfl (hb hby at_231) rfl (teq hd231_0).2 ?_
        refine XS.iload X1194.here hx rfl (hb hby at_234) rfl ?_
        refine XS.iload X1194.here hx rfl (hb hby at_236) rfl ?_
        refine XS.icmpYes X1194.here hx rfl (pc0 := 238) (pc' := 245) rfl (hb hby at_238) rfl (feq hd238_1).2 (by decide) (by decide) ?_
        refine XS.iconst X1194.here hx rfl (hb hby at_245) ?_
        exact kt
    · refine ⟨_, (if_neg hd231_0).symm, fun tt kt => ?_⟩
      show Steps p.tables e below (T1194.setTop (mkF m 231 #[iv m1, iv c1, iv m2, iv c2, iv q', iv fl, iv a1, iv k1, iv a2, iv k2, iv qm, iv qk, iv (1 : Int32), iv (0 : Int32), rv b1131, rv b1138, rv b1160, iv (1 : Int32), rv b1131, rv nc, .unset, .unset] [(.int a2), (.int a1)])) _
      refine XS.icmpYes X1194.here hx rfl (pc0 := 231) (pc' := 245) rfl (hb hby at_231) rfl (feq hd231_0).2 (by decide) (by decide) ?_
      refine XS.iconst X1194.here hx rfl (hb hby at_245) ?_
      exact kt
  have go1199 : own_S p e below ST T1194 (mkF m 246 #[iv m1, iv c1, iv m2, iv c2, iv q', iv fl, iv a1, iv k1, iv a2, iv k2, iv qm, iv qk, iv (1 : Int32), iv (0 : Int32), rv b1131, rv b1138, rv b1160, iv (1 : Int32), rv b1131, rv nc, .unset, .unset] [(.int same)]) := fun tt kt => go1197 tt (sg1198 _ kt)
  have go1200 : own_S p e below ST T1194 (mkF m 259 #[iv m1, iv c1, iv m2, iv c2, iv q', iv fl, iv a1, iv k1, iv a2, iv k2, iv qm, iv qk, iv (1 : Int32), iv (0 : Int32), rv b1131, rv b1138, rv b1160, iv (1 : Int32), rv b1131, rv nc, iv same, .unset] [(.int k2), (.int a2), (.ref b1160)]) := fun tt kt => go1199 tt (by
      refine XS.istore X1194.here hx rfl (hb hby at_246) rfl (l' := #[iv m1, iv c1, iv m2, iv c2, iv q', iv fl, iv a1, iv k1, iv a2, iv k2, iv qm, iv qk, iv (1 : Int32), iv (0 : Int32), rv b1131, rv b1138, rv b1160, iv (1 : Int32), rv b1131, rv nc, iv same, .unset]) rfl ?_
      refine XS.iload X1194.here hx rfl (hb hby at_248) rfl ?_
      refine XS.ifNo X1194.here hx rfl (hb hby at_250) rfl ((if0 _ _).trans (feq (by decide : ¬ ((1 : Int32) = (0 : Int32)))).1) ?_
      refine XS.aload X1194.here hx rfl (hb hby at_253) rfl rfl ?_
      refine XS.iload X1194.here hx rfl (hb hby at_255) rfl ?_
      refine XS.iload X1194.here hx rfl (hb hby at_257) rfl ?_
      exact kt)
  have zs1202 := (Nat.le_trans zs1188 sz1191)
  obtain ⟨cq1201, kq1201, q1201a, q1201b, q1201c⟩ := isOf hZ e1194 Eg1191
  obtain ⟨_, _, ⟨T1201, L1201, k1201, n1201⟩, -, X1201, ⟨Lc1201, hQ1201, l1201, y1201, z1201⟩, st1201⟩ := X1194.virtualBack hx (y := (⟨"com/example/brancher/brancher/service/Group", "choices", "(II)Ljava/util/BitSet;"⟩ : MethodName)) (z := (⟨"com/example/brancher/brancher/service/Group", "choices", "(II)Ljava/util/BitSet;"⟩ : MethodName)) hown (mvT hZ (W 144 rfl)) (mvT hZ (W 145 rfl)) (notFace_of_selects (args := #[]) (mvT hZ (W 147 rfl))) (mvT hZ (W 147 rfl)) (mvT hZ (W 146 rfl)) (by decide) (backOf (W := 0) (rmCH l Z a0 hw [] b1160 a2 k2 M0_2 M1_2 nc T1191.heap n0 zs1202 GRr1191 ba2 bk2 SN Or1191) hZ (W 148 rfl) (W 47 rfl) (by decide) (by decide)) q1201a q1201c (g := (mkF m 259 #[iv m1, iv c1, iv m2, iv c2, iv q', iv fl, iv a1, iv k1, iv a2, iv k2, iv qm, iv qk, iv (1 : Int32), iv (0 : Int32), rv b1131, rv b1138, rv b1160, iv (1 : Int32), rv b1131, rv nc, iv same, .unset] [(.int k2), (.int a2), (.ref b1160)])) rfl (by rw [hml]; rfl) (Steps.refl _) (argsL := [(.int a2), (.int k2)]) (rest := []) (lenOf pd296 rfl) rfl (by show 2 * 0 + _ ≤ _; exact Nat.le_of_eq rfl) (hb hby at_259) (fun _ _ => ⟨rfl, e1194, (by decide : 25 + 0 ≤ _), (by decide : 79 + 0 ≤ _)⟩)
  dsimp only [Pt.U, Pt.locs, Pt.cells, Pt.slots] at X1201 l1201 y1201 z1201 st1201 hQ1201
  subst l1201 y1201 z1201
  obtain ⟨rfl, Nq1201, eh1201⟩ := hQ1201
  have N1201 := Fr.app N1191 Nq1201
  have go1203 : own_S p e below ST T1201 (mkF m 262 #[iv m1, iv c1, iv m2, iv c2, iv q', iv fl, iv a1, iv k1, iv a2, iv k2, iv qm, iv qk, iv (1 : Int32), iv (0 : Int32), rv b1131, rv b1138, rv b1160, iv (1 : Int32), rv b1131, rv nc, iv same, .unset] [(own_or nc ((if a2 = 0 then M0_2 else M1_2).getD (k2).toNatClampNeg .null))]) := fun tt kt => go1200 tt (st1201.trans kt)
  have e_3 : own_or nc ((if a2 = 0 then M0_2 else M1_2).getD (k2).toNatClampNeg .null) = .ref nc := own_orn nc ((s_2 a2 k2 ba2 bk2).trans (if_pos ⟨rfl, rfl⟩))
  obtain ⟨vo3, hvo3⟩ : ∃ z : Value, z = (own_or nc ((if a2 = 0 then M0_2 else M1_2).getD (k2).toNatClampNeg .null)) := ⟨_, rfl⟩
  rw [← hvo3] at go1203
  replace e_3 := hvo3.trans e_3
  have go1204 : own_S p e below ST T1201 (mkF m 285 #[iv m1, iv c1, iv m2, iv c2, iv q', iv fl, iv a1, iv k1, iv a2, iv k2, iv qm, iv qk, iv (1 : Int32), iv (0 : Int32), rv b1131, rv b1138, rv b1160, iv (1 : Int32), rv b1131, rv nc, iv same, .unset] [(.int k1), (.int a1), (.ref b1160)]) := fun tt kt => go1203 tt (by
      refine XS.aload X1201.here hx rfl (hb hby at_262) rfl rfl ?_
      refine Jvm.RoadKit.acmp (g := (mkF m 264 #[iv m1, iv c1, iv m2, iv c2, iv q', iv fl, iv a1, iv k1, iv a2, iv k2, iv qm, iv qk, iv (1 : Int32), iv (0 : Int32), rv b1131, rv b1138, rv b1160, iv (1 : Int32), rv b1131, rv nc, iv same, .unset] [(.ref nc), vo3])) X1201 hx rfl (by rw [e_3]; rfl) rfl (pc0 := 264) (pc' := 267) (same := true) rfl (hb hby at_264) rfl (decide_eq_true e_3) (by decide) (by decide) ?_
      refine XS.iconst X1201.here hx rfl (hb hby at_267) ?_
      refine XS.goto X1201.here hx rfl (pc0 := 268) (pc' := 272) rfl (hb hby at_268) (by decide) (by decide) ?_
      refine XS.istore X1201.here hx rfl (hb hby at_272) rfl (l' := #[iv m1, iv c1, iv m2, iv c2, iv q', iv fl, iv a1, iv k1, iv a2, iv k2, iv qm, iv qk, iv (1 : Int32), iv (0 : Int32), rv b1131, rv b1138, rv b1160, iv (1 : Int32), rv b1131, rv nc, iv same, .unset]) rfl ?_
      refine XS.iload X1201.here hx rfl (hb hby at_274) rfl ?_
      show Steps p.tables e below (T1201.setTop (mkF m 276 #[iv m1, iv c1, iv m2, iv c2, iv q', iv fl, iv a1, iv k1, iv a2, iv k2, iv qm, iv qk, iv (1 : Int32), iv (0 : Int32), rv b1131, rv b1138, rv b1160, iv (1 : Int32), rv b1131, rv nc, iv same, .unset] [(.int (1 : Int32))])) _
      refine XS.ifNo X1201.here hx rfl (hb hby at_276) rfl ((if0 _ _).trans (feq (by decide : ¬ ((1 : Int32) = (0 : Int32)))).1) ?_
      refine XS.aload X1201.here hx rfl (hb hby at_279) rfl rfl ?_
      refine XS.iload X1201.here hx rfl (hb hby at_281) rfl ?_
      refine XS.iload X1201.here hx rfl (hb hby at_283) rfl ?_
      exact kt)
  obtain ⟨cq1205, kq1205, q1205a, q1205b, q1205c⟩ := isOf hZ eh1201 Eg1191
  obtain ⟨_, _, ⟨T1205, L1205, k1205, n1205⟩, -, X1205, ⟨Lc1205, hQ1205, l1205, y1205, z1205⟩, st1205⟩ := X1201.virtualBack hx (y := (⟨"com/example/brancher/brancher/service/Group", "choices", "(II)Ljava/util/BitSet;"⟩ : MethodName)) (z := (⟨"com/example/brancher/brancher/service/Group", "choices", "(II)Ljava/util/BitSet;"⟩ : MethodName)) hown (mvT hZ (W 144 rfl)) (mvT hZ (W 145 rfl)) (notFace_of_selects (args := #[]) (mvT hZ (W 147 rfl))) (mvT hZ (W 147 rfl)) (mvT hZ (W 146 rfl)) (by decide) (backOf (W := 0) (rmCH l Z a0 hw [] b1160 a1 k1 M0_2 M1_2 nc T1191.heap n0 zs1202 GRr1191 ba1 bk1 SN Or1191) hZ (W 148 rfl) (W 47 rfl) (by decide) (by decide)) q1205a q1205c (g := (mkF m 285 #[iv m1, iv c1, iv m2, iv c2, iv q', iv fl, iv a1, iv k1, iv a2, iv k2, iv qm, iv qk, iv (1 : Int32), iv (0 : Int32), rv b1131, rv b1138, rv b1160, iv (1 : Int32), rv b1131, rv nc, iv same, .unset] [(.int k1), (.int a1), (.ref b1160)])) rfl (by rw [hml]; rfl) (Steps.refl _) (argsL := [(.int a1), (.int k1)]) (rest := []) (lenOf pd296 rfl) rfl (by show 2 * 0 + _ ≤ _; exact Nat.le_of_eq rfl) (hb hby at_285) (fun _ _ => ⟨rfl, eh1201, (by decide : 25 + 0 ≤ _), (by decide : 79 + 0 ≤ _)⟩)
  dsimp only [Pt.U, Pt.locs, Pt.cells, Pt.slots] at X1205 l1205 y1205 z1205 st1205 hQ1205
  subst l1205 y1205 z1205
  obtain ⟨rfl, Nq1205, eh1205⟩ := hQ1205
  have N1205 := Fr.app N1201 Nq1205
  have go1206 : own_S p e below ST T1205 (mkF m 288 #[iv m1, iv c1, iv m2, iv c2, iv q', iv fl, iv a1, iv k1, iv a2, iv k2, iv qm, iv qk, iv (1 : Int32), iv (0 : Int32), rv b1131, rv b1138, rv b1160, iv (1 : Int32), rv b1131, rv nc, iv same, .unset] [(own_or nc ((if a1 = 0 then M0_2 else M1_2).getD (k1).toNatClampNeg .null))]) := fun tt kt => go1204 tt (st1205.trans kt)
  have e_4 : own_or nc ((if a1 = 0 then M0_2 else M1_2).getD (k1).toNatClampNeg .null) = .ref (if same = (0 : Int32) then b1131 else nc) := by
    rw [s_2 a1 k1 ba1 bk1, hsame]
    by_cases y1 : a1 = a2 <;> by_cases y2 : k1 = k2 <;> simp [y1, y2, own_or]
  obtain ⟨vo4, hvo4⟩ : ∃ z : Value, z = (own_or nc ((if a1 = 0 then M0_2 else M1_2).getD (k1).toNatClampNeg .null)) := ⟨_, rfl⟩
  rw [← hvo4] at go1206
  replace e_4 := hvo4.trans e_4
  have go1207 : own_S p e below ST T1205 (mkF m 290 #[iv m1, iv c1, iv m2, iv c2, iv q', iv fl, iv a1, iv k1, iv a2, iv k2, iv qm, iv qk, iv (1 : Int32), iv (0 : Int32), rv b1131, rv b1138, rv b1160, iv (1 : Int32), rv b1131, rv nc, iv same, .unset] [(.int same), vo4]) := fun tt kt => go1206 tt (by
      refine XS.iload X1205.here hx rfl (hb hby at_288) rfl ?_
      exact kt)
  obtain ⟨sl, hsl, sg1208⟩ : ∃ (sl : Addr), sl = (if same = (0 : Int32) then b1131 else nc) ∧ ∀ tt, Steps p.tables e below (T1205.setTop (mkF m 300 #[iv m1, iv c1, iv m2, iv c2, iv q', iv fl, iv a1, iv k1, iv a2, iv k2, iv qm, iv qk, iv (1 : Int32), iv (0 : Int32), rv b1131, rv b1138, rv b1160, iv (1 : Int32), rv b1131, rv nc, iv same, .unset] [(.ref sl), vo4])) tt → Steps p.tables e below (T1205.setTop (mkF m 290 #[iv m1, iv c1, iv m2, iv c2, iv q', iv fl, iv a1, iv k1, iv a2, iv k2, iv qm, iv qk, iv (1 : Int32), iv (0 : Int32), rv b1131, rv b1138, rv b1160, iv (1 : Int32), rv b1131, rv nc, iv same, .unset] [(.int same), vo4])) tt := by
    by_cases hd290_0 : same = (0 : Int32)
    · refine ⟨_, (if_pos hd290_0).symm, fun tt kt => ?_⟩
      show Steps p.tables e below (T1205.setTop (mkF m 290 #[iv m1, iv c1, iv m2, iv c2, iv q', iv fl, iv a1, iv k1, iv a2, iv k2, iv qm, iv qk, iv (1 : Int32), iv (0 : Int32), rv b1131, rv b1138, rv b1160, iv (1 : Int32), rv b1131, rv nc, iv same, .unset] [(.int same), vo4])) _
      refine XS.ifYes X1205.here hx rfl (pc0 := 290) (pc' := 298) rfl (hb hby at_290) rfl ((if0 _ _).trans (teq hd290_0).1) (by decide) (by decide) ?_
      refine XS.aload X1205.here hx rfl (hb hby at_298) rfl rfl ?_
      exact kt
    · refine ⟨_, (if_neg hd290_0).symm, fun tt kt => ?_⟩
      show Steps p.tables e below (T1205.setTop (mkF m 290 #[iv m1, iv c1, iv m2, iv c2, iv q', iv fl, iv a1, iv k1, iv a2, iv k2, iv qm, iv qk, iv (1 : Int32), iv (0 : Int32), rv b1131, rv b1138, rv b1160, iv (1 : Int32), rv b1131, rv nc, iv same, .unset] [(.int same), vo4])) _
      refine XS.ifNo X1205.here hx rfl (hb hby at_290) rfl ((if0 _ _).trans (feq hd290_0).1) ?_
      refine XS.aload X1205.here hx rfl (hb hby at_293) rfl rfl ?_
      refine XS.goto X1205.here hx rfl (pc0 := 295) (pc' := 300) rfl (hb hby at_295) (by decide) (by decide) ?_
      exact kt
  have go1209 : own_S p e below ST T1205 (mkF m 300 #[iv m1, iv c1, iv m2, iv c2, iv q', iv fl, iv a1, iv k1, iv a2, iv k2, iv qm, iv qk, iv (1 : Int32), iv (0 : Int32), rv b1131, rv b1138, rv b1160, iv (1 : Int32), rv b1131, rv nc, iv same, .unset] [(.ref sl), vo4]) := fun tt kt => go1207 tt (sg1208 _ kt)
  rw [← hsl] at e_4
  have go1210 : own_S p e below ST T1205 (mkF m 314 #[iv m1, iv c1, iv m2, iv c2, iv q', iv fl, iv a1, iv k1, iv a2, iv k2, iv qm, iv qk, iv (1 : Int32), iv (0 : Int32), rv b1131, rv b1138, rv b1160, iv (1 : Int32), rv b1131, rv nc, iv same, .unset] [(.int a2), (.int qm)]) := fun tt kt => go1209 tt (by
      refine Jvm.RoadKit.acmp (g := (mkF m 300 #[iv m1, iv c1, iv m2, iv c2, iv q', iv fl, iv a1, iv k1, iv a2, iv k2, iv qm, iv qk, iv (1 : Int32), iv (0 : Int32), rv b1131, rv b1138, rv b1160, iv (1 : Int32), rv b1131, rv nc, iv same, .unset] [(.ref sl), vo4])) X1205 hx rfl (by rw [e_4]; rfl) rfl (pc0 := 300) (pc' := 303) (same := true) rfl (hb hby at_300) rfl (decide_eq_true e_4) (by decide) (by decide) ?_
      refine XS.iconst X1205.here hx rfl (hb hby at_303) ?_
      refine XS.goto X1205.here hx rfl (pc0 := 304) (pc' := 308) rfl (hb hby at_304) (by decide) (by decide) ?_
      refine XS.istore X1205.here hx rfl (hb hby at_308) rfl (l' := #[iv m1, iv c1, iv m2, iv c2, iv q', iv fl, iv a1, iv k1, iv a2, iv k2, iv qm, iv qk, iv (1 : Int32), iv (0 : Int32), rv b1131, rv b1138, rv b1160, iv (1 : Int32), rv b1131, rv nc, iv same, .unset]) rfl ?_
      refine XS.iload X1205.here hx rfl (hb hby at_310) rfl ?_
      refine XS.iload X1205.here hx rfl (hb hby at_312) rfl ?_
      exact kt)
  by_cases hz314 : qm = a2
  · have go1211 : own_S p e below ST T1205 (mkF m 317 #[iv m1, iv c1, iv m2, iv c2, iv q', iv fl, iv a1, iv k1, iv a2, iv k2, iv qm, iv qk, iv (1 : Int32), iv (0 : Int32), rv b1131, rv b1138, rv b1160, iv (1 : Int32), rv b1131, rv nc, iv same, .unset] []) := fun tt kt => go1210 tt (by
        refine XS.icmpNo X1205.here hx rfl (hb hby at_314) rfl (teq hz314).2 ?_
        exact kt)
    have go1212 : own_S p e below ST T1205 (mkF m 321 #[iv m1, iv c1, iv m2, iv c2, iv q', iv fl, iv a1, iv k1, iv a2, iv k2, iv qm, iv qk, iv (1 : Int32), iv (0 : Int32), rv b1131, rv b1138, rv b1160, iv (1 : Int32), rv b1131, rv nc, iv same, .unset] [(.int k2), (.int qk)]) := fun tt kt => go1211 tt (by
        refine XS.iload X1205.here hx rfl (hb hby at_317) rfl ?_
        refine XS.iload X1205.here hx rfl (hb hby at_319) rfl ?_
        exact kt)
    by_cases hz321 : qk = k2
    · have go1213 : own_S p e below ST T1205 (mkF m 324 #[iv m1, iv c1, iv m2, iv c2, iv q', iv fl, iv a1, iv k1, iv a2, iv k2, iv qm, iv qk, iv (1 : Int32), iv (0 : Int32), rv b1131, rv b1138, rv b1160, iv (1 : Int32), rv b1131, rv nc, iv same, .unset] []) := fun tt kt => go1212 tt (by
          refine XS.icmpNo X1205.here hx rfl (hb hby at_321) rfl (teq hz321).2 ?_
          exact kt)
      have go1214 : own_S p e below ST T1205 (mkF m 368 #[iv m1, iv c1, iv m2, iv c2, iv q', iv fl, iv a1, iv k1, iv a2, iv k2, iv qm, iv qk, iv (1 : Int32), iv (0 : Int32), rv b1131, rv b1138, rv b1160, iv (1 : Int32), rv b1131, rv nc, iv same, rv nc] [(.int qk), (.int qm), (.ref b1160)]) := fun tt kt => go1213 tt (by
          refine XS.aload X1205.here hx rfl (hb hby at_324) rfl rfl ?_
          refine XS.astore X1205.here hx rfl (hb hby at_326) rfl rfl (l' := #[iv m1, iv c1, iv m2, iv c2, iv q', iv fl, iv a1, iv k1, iv a2, iv k2, iv qm, iv qk, iv (1 : Int32), iv (0 : Int32), rv b1131, rv b1138, rv b1160, iv (1 : Int32), rv b1131, rv nc, iv same, rv nc]) rfl ?_
          refine XS.goto X1205.here hx rfl (pc0 := 328) (pc' := 357) rfl (hb hby at_328) (by decide) (by decide) ?_
          refine XS.iload X1205.here hx rfl (hb hby at_357) rfl ?_
          refine XS.ifNo X1205.here hx rfl (hb hby at_359) rfl ((if0 _ _).trans (feq (by decide : ¬ ((1 : Int32) = (0 : Int32)))).1) ?_
          refine XS.aload X1205.here hx rfl (hb hby at_362) rfl rfl ?_
          show Steps p.tables e below (T1205.setTop (mkF m 364 #[iv m1, iv c1, iv m2, iv c2, iv q', iv fl, iv a1, iv k1, iv a2, iv k2, iv qm, iv qk, iv (1 : Int32), iv (0 : Int32), rv b1131, rv b1138, rv b1160, iv (1 : Int32), rv b1131, rv nc, iv same, rv nc] [(.ref b1160)])) _
          refine XS.iload X1205.here hx rfl (hb hby at_364) rfl ?_
          refine XS.iload X1205.here hx rfl (hb hby at_366) rfl ?_
          exact kt)
      obtain ⟨cq1215, kq1215, q1215a, q1215b, q1215c⟩ := isOf hZ eh1205 Eg1191
      obtain ⟨_, _, ⟨T1215, L1215, k1215, n1215⟩, -, X1215, ⟨Lc1215, hQ1215, l1215, y1215, z1215⟩, st1215⟩ := X1205.virtualBack hx (y := (⟨"com/example/brancher/brancher/service/Group", "choices", "(II)Ljava/util/BitSet;"⟩ : MethodName)) (z := (⟨"com/example/brancher/brancher/service/Group", "choices", "(II)Ljava/util/BitSet;"⟩ : MethodName)) hown (mvT hZ (W 144 rfl)) (mvT hZ (W 145 rfl)) (notFace_of_selects (args := #[]) (mvT hZ (W 147 rfl))) (mvT hZ (W 147 rfl)) (mvT hZ (W 146 rfl)) (by decide) (backOf (W := 0) (rmCH l Z a0 hw [] b1160 qm qk M0_2 M1_2 nc T1191.heap n0 zs1202 GRr1191 bqm bqk SN Or1191) hZ (W 148 rfl) (W 47 rfl) (by decide) (by decide)) q1215a q1215c (g := (mkF m 368 #[iv m1, iv c1, iv m2, iv c2, iv q', iv fl, iv a1, iv k1, iv a2, iv k2, iv qm, iv qk, iv (1 : Int32), iv (0 : Int32), rv b1131, rv b1138, rv b1160, iv (1 : Int32), rv b1131, rv nc, iv same, rv nc] [(.int qk), (.int qm), (.ref b1160)])) rfl (by rw [hml]; rfl) (Steps.refl _) (argsL := [(.int qm), (.int qk)]) (rest := []) (lenOf pd296 rfl) rfl (by show 2 * 0 + _ ≤ _; exact Nat.le_of_eq rfl) (hb hby at_368) (fun _ _ => ⟨rfl, eh1205, (by decide : 25 + 0 ≤ _), (by decide : 79 + 0 ≤ _)⟩)
      dsimp only [Pt.U, Pt.locs, Pt.cells, Pt.slots] at X1215 l1215 y1215 z1215 st1215 hQ1215
      subst l1215 y1215 z1215
      obtain ⟨rfl, Nq1215, eh1215⟩ := hQ1215
      have N1215 := Fr.app N1205 Nq1215
      have go1216 : own_S p e below ST T1215 (mkF m 371 #[iv m1, iv c1, iv m2, iv c2, iv q', iv fl, iv a1, iv k1, iv a2, iv k2, iv qm, iv qk, iv (1 : Int32), iv (0 : Int32), rv b1131, rv b1138, rv b1160, iv (1 : Int32), rv b1131, rv nc, iv same, rv nc] [(own_or nc ((if qm = 0 then M0_2 else M1_2).getD (qk).toNatClampNeg .null))]) := fun tt kt => go1214 tt (st1215.trans kt)
      have e_5 : own_or nc ((if qm = 0 then M0_2 else M1_2).getD (qk).toNatClampNeg .null) = .ref nc := own_orn nc ((s_2 qm qk bqm bqk).trans (if_pos ⟨hz314, hz321⟩))
      obtain ⟨vo5, hvo5⟩ : ∃ z : Value, z = (own_or nc ((if qm = 0 then M0_2 else M1_2).getD (qk).toNatClampNeg .null)) := ⟨_, rfl⟩
      rw [← hvo5] at go1216
      replace e_5 := hvo5.trans e_5
      have go1217 : own_S p e below ST T1215 (mkF m 385 #[iv m1, iv c1, iv m2, iv c2, iv q', iv fl, iv a1, iv k1, iv a2, iv k2, iv qm, iv qk, iv (1 : Int32), iv (0 : Int32), rv b1131, rv b1138, rv b1160, iv (1 : Int32), rv b1131, rv nc, iv same, rv nc] [(.int (1 : Int32))]) := fun tt kt => go1216 tt (by
          refine XS.aload X1215.here hx rfl (hb hby at_371) rfl rfl ?_
          refine Jvm.RoadKit.acmp (g := (mkF m 373 #[iv m1, iv c1, iv m2, iv c2, iv q', iv fl, iv a1, iv k1, iv a2, iv k2, iv qm, iv qk, iv (1 : Int32), iv (0 : Int32), rv b1131, rv b1138, rv b1160, iv (1 : Int32), rv b1131, rv nc, iv same, rv nc] [(.ref nc), vo5])) X1215 hx rfl (by rw [e_5]; rfl) rfl (pc0 := 373) (pc' := 376) (same := true) rfl (hb hby at_373) rfl (decide_eq_true e_5) (by decide) (by decide) ?_
          refine XS.iconst X1215.here hx rfl (hb hby at_376) ?_
          refine XS.goto X1215.here hx rfl (pc0 := 377) (pc' := 381) rfl (hb hby at_377) (by decide) (by decide) ?_
          refine XS.istore X1215.here hx rfl (hb hby at_381) rfl (l' := #[iv m1, iv c1, iv m2, iv c2, iv q', iv fl, iv a1, iv k1, iv a2, iv k2, iv qm, iv qk, iv (1 : Int32), iv (0 : Int32), rv b1131, rv b1138, rv b1160, iv (1 : Int32), rv b1131, rv nc, iv same, rv nc]) rfl ?_
          refine XS.iload X1215.here hx rfl (hb hby at_383) rfl ?_
          exact kt)
      obtain ⟨fs, hr, hrun, hended, hW, hsame⟩ := X1215.leave (v := some (.int (1 : Int32))) (fun h => by rw [Bd.returns] at h; cases h) (hlocks := by first | exact BodyLoose.notSynchronized Bd | exact Body.notSynchronized Bd)
      refine ⟨_, _, pre0 _ (go1217 _ ?_), hrun, hended, _, _, rfl, ?_, ⟨_, rfl⟩, hW, hsame.mono (by decide) (by decide)⟩
      · exact retN X1215 hx (t := .boolean) Bd.returns (by simp) (hb hby at_385) hr
      · show Q0n10 Z m1 c1 m2 c2 q' fl ad kd nc h0 n0 _ T1215.heap _
        rw [eh1215]
        exact ⟨rfl, N1215⟩
    · have go1218 : own_S p e below ST T1205 (mkF m 331 #[iv m1, iv c1, iv m2, iv c2, iv q', iv fl, iv a1, iv k1, iv a2, iv k2, iv qm, iv qk, iv (1 : Int32), iv (0 : Int32), rv b1131, rv b1138, rv b1160, iv (1 : Int32), rv b1131, rv nc, iv same, .unset] []) := fun tt kt => go1212 tt (by
          refine XS.icmpYes X1205.here hx rfl (pc0 := 321) (pc' := 331) rfl (hb hby at_321) rfl (feq hz321).2 (by decide) (by decide) ?_
          exact kt)
      have go1219 : own_S p e below ST T1205 (mkF m 335 #[iv m1, iv c1, iv m2, iv c2, iv q', iv fl, iv a1, iv k1, iv a2, iv k2, iv qm, iv qk, iv (1 : Int32), iv (0 : Int32), rv b1131, rv b1138, rv b1160, iv (1 : Int32), rv b1131, rv nc, iv same, .unset] [(.int a1), (.int qm)]) := fun tt kt => go1218 tt (by
          refine XS.iload X1205.here hx rfl (hb hby at_331) rfl ?_
          refine XS.iload X1205.here hx rfl (hb hby at_333) rfl ?_
          exact kt)
      by_cases hz335 : qm = a1
      · have go1220 : own_S p e below ST T1205 (mkF m 338 #[iv m1, iv c1, iv m2, iv c2, iv q', iv fl, iv a1, iv k1, iv a2, iv k2, iv qm, iv qk, iv (1 : Int32), iv (0 : Int32), rv b1131, rv b1138, rv b1160, iv (1 : Int32), rv b1131, rv nc, iv same, .unset] []) := fun tt kt => go1219 tt (by
            refine XS.icmpNo X1205.here hx rfl (hb hby at_335) rfl (teq hz335).2 ?_
            exact kt)
        have go1221 : own_S p e below ST T1205 (mkF m 342 #[iv m1, iv c1, iv m2, iv c2, iv q', iv fl, iv a1, iv k1, iv a2, iv k2, iv qm, iv qk, iv (1 : Int32), iv (0 : Int32), rv b1131, rv b1138, rv b1160, iv (1 : Int32), rv b1131, rv nc, iv same, .unset] [(.int k1), (.int qk)]) := fun tt kt => go1220 tt (by
            refine XS.iload X1205.here hx rfl (hb hby at_338) rfl ?_
            refine XS.iload X1205.here hx rfl (hb hby at_340) rfl ?_
            exact kt)
        by_cases hz342 : qk = k1
        · have go1222 : own_S p e below ST T1205 (mkF m 345 #[iv m1, iv c1, iv m2, iv c2, iv q', iv fl, iv a1, iv k1, iv a2, iv k2, iv qm, iv qk, iv (1 : Int32), iv (0 : Int32), rv b1131, rv b1138, rv b1160, iv (1 : Int32), rv b1131, rv nc, iv same, .unset] []) := fun tt kt => go1221 tt (by
              refine XS.icmpNo X1205.here hx rfl (hb hby at_342) rfl (teq hz342).2 ?_
              exact kt)
          have go1223 : own_S p e below ST T1205 (mkF m 368 #[iv m1, iv c1, iv m2, iv c2, iv q', iv fl, iv a1, iv k1, iv a2, iv k2, iv qm, iv qk, iv (1 : Int32), iv (0 : Int32), rv b1131, rv b1138, rv b1160, iv (1 : Int32), rv b1131, rv nc, iv same, rv b1131] [(.int qk), (.int qm), (.ref b1160)]) := fun tt kt => go1222 tt (by
              refine XS.aload X1205.here hx rfl (hb hby at_345) rfl rfl ?_
              refine XS.astore X1205.here hx rfl (hb hby at_347) rfl rfl (l' := #[iv m1, iv c1, iv m2, iv c2, iv q', iv fl, iv a1, iv k1, iv a2, iv k2, iv qm, iv qk, iv (1 : Int32), iv (0 : Int32), rv b1131, rv b1138, rv b1160, iv (1 : Int32), rv b1131, rv nc, iv same, rv b1131]) rfl ?_
              refine XS.goto X1205.here hx rfl (pc0 := 349) (pc' := 357) rfl (hb hby at_349) (by decide) (by decide) ?_
              refine XS.iload X1205.here hx rfl (hb hby at_357) rfl ?_
              refine XS.ifNo X1205.here hx rfl (hb hby at_359) rfl ((if0 _ _).trans (feq (by decide : ¬ ((1 : Int32) = (0 : Int32)))).1) ?_
              refine XS.aload X1205.here hx rfl (hb hby at_362) rfl rfl ?_
              show Steps p.tables e below (T1205.setTop (mkF m 364 #[iv m1, iv c1, iv m2, iv c2, iv q', iv fl, iv a1, iv k1, iv a2, iv k2, iv qm, iv qk, iv (1 : Int32), iv (0 : Int32), rv b1131, rv b1138, rv b1160, iv (1 : Int32), rv b1131, rv nc, iv same, rv b1131] [(.ref b1160)])) _
              refine XS.iload X1205.here hx rfl (hb hby at_364) rfl ?_
              refine XS.iload X1205.here hx rfl (hb hby at_366) rfl ?_
              exact kt)
          obtain ⟨cq1224, kq1224, q1224a, q1224b, q1224c⟩ := isOf hZ eh1205 Eg1191
          obtain ⟨_, _, ⟨T1224, L1224, k1224, n1224⟩, -, X1224, ⟨Lc1224, hQ1224, l1224, y1224, z1224⟩, st1224⟩ := X1205.virtualBack hx (y := (⟨"com/example/brancher/brancher/service/Group", "choices", "(II)Ljava/util/BitSet;"⟩ : MethodName)) (z := (⟨"com/example/brancher/brancher/service/Group", "choices", "(II)Ljava/util/BitSet;"⟩ : MethodName)) hown (mvT hZ (W 144 rfl)) (mvT hZ (W 145 rfl)) (notFace_of_selects (args := #[]) (mvT hZ (W 147 rfl))) (mvT hZ (W 147 rfl)) (mvT hZ (W 146 rfl)) (by decide) (backOf (W := 0) (rmCH l Z a0 hw [] b1160 qm qk M0_2 M1_2 nc T1191.heap n0 zs1202 GRr1191 bqm bqk SN Or1191) hZ (W 148 rfl) (W 47 rfl) (by decide) (by decide)) q1224a q1224c (g := (mkF m 368 #[iv m1, iv c1, iv m2, iv c2, iv q', iv fl, iv a1, iv k1, iv a2, iv k2, iv qm, iv qk, iv (1 : Int32), iv (0 : Int32), rv b1131, rv b1138, rv b1160, iv (1 : Int32), rv b1131, rv nc, iv same, rv b1131] [(.int qk), (.int qm), (.ref b1160)])) rfl (by rw [hml]; rfl) (Steps.refl _) (argsL := [(.int qm), (.int qk)]) (rest := []) (lenOf pd296 rfl) rfl (by show 2 * 0 + _ ≤ _; exact Nat.le_of_eq rfl) (hb hby at_368) (fun _ _ => ⟨rfl, eh1205, (by decide : 25 + 0 ≤ _), (by decide : 79 + 0 ≤ _)⟩)
          dsimp only [Pt.U, Pt.locs, Pt.cells, Pt.slots] at X1224 l1224 y1224 z1224 st1224 hQ1224
          subst l1224 y1224 z1224
          obtain ⟨rfl, Nq1224, eh1224⟩ := hQ1224
          have N1224 := Fr.app N1205 Nq1224
          have go1225 : own_S p e below ST T1224 (mkF m 371 #[iv m1, iv c1, iv m2, iv c2, iv q', iv fl, iv a1, iv k1, iv a2, iv k2, iv qm, iv qk, iv (1 : Int32), iv (0 : Int32), rv b1131, rv b1138, rv b1160, iv (1 : Int32), rv b1131, rv nc, iv same, rv b1131] [(own_or nc ((if qm = 0 then M0_2 else M1_2).getD (qk).toNatClampNeg .null))]) := fun tt kt => go1223 tt (st1224.trans kt)
          have e_5 : own_or nc ((if qm = 0 then M0_2 else M1_2).getD (qk).toNatClampNeg .null) = .ref b1131 := own_orr nc ((s_2 qm qk bqm bqk).trans ((if_neg fun q => hz321 q.2).trans (if_pos ⟨hz335, hz342⟩)))
          obtain ⟨vo5, hvo5⟩ : ∃ z : Value, z = (own_or nc ((if qm = 0 then M0_2 else M1_2).getD (qk).toNatClampNeg .null)) := ⟨_, rfl⟩
          rw [← hvo5] at go1225
          replace e_5 := hvo5.trans e_5
          have go1226 : own_S p e below ST T1224 (mkF m 385 #[iv m1, iv c1, iv m2, iv c2, iv q', iv fl, iv a1, iv k1, iv a2, iv k2, iv qm, iv qk, iv (1 : Int32), iv (0 : Int32), rv b1131, rv b1138, rv b1160, iv (1 : Int32), rv b1131, rv nc, iv same, rv b1131] [(.int (1 : Int32))]) := fun tt kt => go1225 tt (by
              refine XS.aload X1224.here hx rfl (hb hby at_371) rfl rfl ?_
              refine Jvm.RoadKit.acmp (g := (mkF m 373 #[iv m1, iv c1, iv m2, iv c2, iv q', iv fl, iv a1, iv k1, iv a2, iv k2, iv qm, iv qk, iv (1 : Int32), iv (0 : Int32), rv b1131, rv b1138, rv b1160, iv (1 : Int32), rv b1131, rv nc, iv same, rv b1131] [(.ref b1131), vo5])) X1224 hx rfl (by rw [e_5]; rfl) rfl (pc0 := 373) (pc' := 376) (same := true) rfl (hb hby at_373) rfl (decide_eq_true e_5) (by decide) (by decide) ?_
              refine XS.iconst X1224.here hx rfl (hb hby at_376) ?_
              refine XS.goto X1224.here hx rfl (pc0 := 377) (pc' := 381) rfl (hb hby at_377) (by decide) (by decide) ?_
              refine XS.istore X1224.here hx rfl (hb hby at_381) rfl (l' := #[iv m1, iv c1, iv m2, iv c2, iv q', iv fl, iv a1, iv k1, iv a2, iv k2, iv qm, iv qk, iv (1 : Int32), iv (0 : Int32), rv b1131, rv b1138, rv b1160, iv (1 : Int32), rv b1131, rv nc, iv same, rv b1131]) rfl ?_
              refine XS.iload X1224.here hx rfl (hb hby at_383) rfl ?_
              exact kt)
          obtain ⟨fs, hr, hrun, hended, hW, hsame⟩ := X1224.leave (v := some (.int (1 : Int32))) (fun h => by rw [Bd.returns] at h; cases h) (hlocks := by first | exact BodyLoose.notSynchronized Bd | exact Body.notSynchronized Bd)
          refine ⟨_, _, pre0 _ (go1226 _ ?_), hrun, hended, _, _, rfl, ?_, ⟨_, rfl⟩, hW, hsame.mono (by decide) (by decide)⟩
          · exact retN X1224 hx (t := .boolean) Bd.returns (by simp) (hb hby at_385) hr
          · show Q0n10 Z m1 c1 m2 c2 q' fl ad kd nc h0 n0 _ T1224.heap _
            rw [eh1224]
            exact ⟨rfl, N1224⟩
        · have go1227 : own_S p e below ST T1205 (mkF m 352 #[iv m1, iv c1, iv m2, iv c2, iv q', iv fl, iv a1, iv k1, iv a2, iv k2, iv qm, iv qk, iv (1 : Int32), iv (0 : Int32), rv b1131, rv b1138, rv b1160, iv (1 : Int32), rv b1131, rv nc, iv same, .unset] []) := fun tt kt => go1221 tt (by
              refine XS.icmpYes X1205.here hx rfl (pc0 := 342) (pc' := 352) rfl (hb hby at_342) rfl (feq hz342).2 (by decide) (by decide) ?_
              exact kt)
          obtain ⟨T1228, X1228, e1228, st1228⟩ := getS2 X1205 hx hZ hown (host := "") (Or.inl (W 151 rfl)) Via.refl eh1205 (SN.ext Or1191.2) (g := (mkF m 352 #[iv m1, iv c1, iv m2, iv c2, iv q', iv fl, iv a1, iv k1, iv a2, iv k2, iv qm, iv qk, iv (1 : Int32), iv (0 : Int32), rv b1131, rv b1138, rv b1160, iv (1 : Int32), rv b1131, rv nc, iv same, .unset] [])) rfl (hb hby at_352)
          have go1229 : own_S p e below ST T1228 (mkF m 355 #[iv m1, iv c1, iv m2, iv c2, iv q', iv fl, iv a1, iv k1, iv a2, iv k2, iv qm, iv qk, iv (1 : Int32), iv (0 : Int32), rv b1131, rv b1138, rv b1160, iv (1 : Int32), rv b1131, rv nc, iv same, .unset] [(.ref nc)]) := fun tt kt => go1227 tt (st1228 _ kt)
          have go1230 : own_S p e below ST T1228 (mkF m 368 #[iv m1, iv c1, iv m2, iv c2, iv q', iv fl, iv a1, iv k1, iv a2, iv k2, iv qm, iv qk, iv (1 : Int32), iv (0 : Int32), rv b1131, rv b1138, rv b1160, iv (1 : Int32), rv b1131, rv nc, iv same, rv nc] [(.int qk), (.int qm), (.ref b1160)]) := fun tt kt => go1229 tt (by
              refine XS.astore X1228.here hx rfl (hb hby at_355) rfl rfl (l' := #[iv m1, iv c1, iv m2, iv c2, iv q', iv fl, iv a1, iv k1, iv a2, iv k2, iv qm, iv qk, iv (1 : Int32), iv (0 : Int32), rv b1131, rv b1138, rv b1160, iv (1 : Int32), rv b1131, rv nc, iv same, rv nc]) rfl ?_
              refine XS.iload X1228.here hx rfl (hb hby at_357) rfl ?_
              refine XS.ifNo X1228.here hx rfl (hb hby at_359) rfl ((if0 _ _).trans (feq (by decide : ¬ ((1 : Int32) = (0 : Int32)))).1) ?_
              refine XS.aload X1228.here hx rfl (hb hby at_362) rfl rfl ?_
              refine XS.iload X1228.here hx rfl (hb hby at_364) rfl ?_
              refine XS.iload X1228.here hx rfl (hb hby at_366) rfl ?_
              exact kt)
          obtain ⟨cq1231, kq1231, q1231a, q1231b, q1231c⟩ := isOf hZ e1228 Eg1191
          obtain ⟨_, _, ⟨T1231, L1231, k1231, n1231⟩, -, X1231, ⟨Lc1231, hQ1231, l1231, y1231, z1231⟩, st1231⟩ := X1228.virtualBack hx (y := (⟨"com/example/brancher/brancher/service/Group", "choices", "(II)Ljava/util/BitSet;"⟩ : MethodName)) (z := (⟨"com/example/brancher/brancher/service/Group", "choices", "(II)Ljava/util/BitSet;"⟩ : MethodName)) hown (mvT hZ (W 144 rfl)) (mvT hZ (W 145 rfl)) (notFace_of_selects (args := #[]) (mvT hZ (W 147 rfl))) (mvT hZ (W 147 rfl)) (mvT hZ (W 146 rfl)) (by decide) (backOf (W := 0) (rmCH l Z a0 hw [] b1160 qm qk M0_2 M1_2 nc T1191.heap n0 zs1202 GRr1191 bqm bqk SN Or1191) hZ (W 148 rfl) (W 47 rfl) (by decide) (by decide)) q1231a q1231c (g := (mkF m 368 #[iv m1, iv c1, iv m2, iv c2, iv q', iv fl, iv a1, iv k1, iv a2, iv k2, iv qm, iv qk, iv (1 : Int32), iv (0 : Int32), rv b1131, rv b1138, rv b1160, iv (1 : Int32), rv b1131, rv nc, iv same, rv nc] [(.int qk), (.int qm), (.ref b1160)])) rfl (by rw [hml]; rfl) (Steps.refl _) (argsL := [(.int qm), (.int qk)]) (rest := []) (lenOf pd296 rfl) rfl (by show 2 * 0 + _ ≤ _; exact Nat.le_of_eq rfl) (hb hby at_368) (fun _ _ => ⟨rfl, e1228, (by decide : 25 + 0 ≤ _), (by decide : 79 + 0 ≤ _)⟩)
          dsimp only [Pt.U, Pt.locs, Pt.cells, Pt.slots] at X1231 l1231 y1231 z1231 st1231 hQ1231
          subst l1231 y1231 z1231
          obtain ⟨rfl, Nq1231, eh1231⟩ := hQ1231
          have N1231 := Fr.app N1205 Nq1231
          have go1232 : own_S p e below ST T1231 (mkF m 371 #[iv m1, iv c1, iv m2, iv c2, iv q', iv fl, iv a1, iv k1, iv a2, iv k2, iv qm, iv qk, iv (1 : Int32), iv (0 : Int32), rv b1131, rv b1138, rv b1160, iv (1 : Int32), rv b1131, rv nc, iv same, rv nc] [(own_or nc ((if qm = 0 then M0_2 else M1_2).getD (qk).toNatClampNeg .null))]) := fun tt kt => go1230 tt (st1231.trans kt)
          have go1233 : own_S p e below ST T1231 (mkF m 373 #[iv m1, iv c1, iv m2, iv c2, iv q', iv fl, iv a1, iv k1, iv a2, iv k2, iv qm, iv qk, iv (1 : Int32), iv (0 : Int32), rv b1131, rv b1138, rv b1160, iv (1 : Int32), rv b1131, rv nc, iv same, rv nc] [(.ref nc), (own_or nc ((if qm = 0 then M0_2 else M1_2).getD (qk).toNatClampNeg .null))]) := fun tt kt => go1232 tt (by
              refine XS.aload X1231.here hx rfl (hb hby at_371) rfl rfl ?_
              exact kt)
          have e_5 : own_or nc ((if qm = 0 then M0_2 else M1_2).getD (qk).toNatClampNeg .null) = .ref nc := own_orn nc ((s_2 qm qk bqm bqk).trans ((if_neg fun q => hz321 q.2).trans (if_neg fun q => hz342 q.2)))
          obtain ⟨vo5, hvo5⟩ : ∃ z : Value, z = (own_or nc ((if qm = 0 then M0_2 else M1_2).getD (qk).toNatClampNeg .null)) := ⟨_, rfl⟩
          rw [← hvo5] at go1233
          replace e_5 := hvo5.trans e_5
          have go1234 : own_S p e below ST T1231 (mkF m 385 #[iv m1, iv c1, iv m2, iv c2, iv q', iv fl, iv a1, iv k1, iv a2, iv k2, iv qm, iv qk, iv (1 : Int32), iv (0 : Int32), rv b1131, rv b1138, rv b1160, iv (1 : Int32), rv b1131, rv nc, iv same, rv nc] [(.int (1 : Int32))]) := fun tt kt => go1233 tt (by
              refine Jvm.RoadKit.acmp (g := (mkF m 373 #[iv m1, iv c1, iv m2, iv c2, iv q', iv fl, iv a1, iv k1, iv a2, iv k2, iv qm, iv qk, iv (1 : Int32), iv (0 : Int32), rv b1131, rv b1138, rv b1160, iv (1 : Int32), rv b1131, rv nc, iv same, rv nc] [(.ref nc), vo5])) X1231 hx rfl (by rw [e_5]; rfl) rfl (pc0 := 373) (pc' := 376) (same := true) rfl (hb hby at_373) rfl (decide_eq_true e_5) (by decide) (by decide) ?_
              refine XS.iconst X1231.here hx rfl (hb hby at_376) ?_
              refine XS.goto X1231.here hx rfl (pc0 := 377) (pc' := 381) rfl (hb hby at_377) (by decide) (by decide) ?_
              refine XS.istore X1231.here hx rfl (hb hby at_381) rfl (l' := #[iv m1, iv c1, iv m2, iv c2, iv q', iv fl, iv a1, iv k1, iv a2, iv k2, iv qm, iv qk, iv (1 : Int32), iv (0 : Int32), rv b1131, rv b1138, rv b1160, iv (1 : Int32), rv b1131, rv nc, iv same, rv nc]) rfl ?_
              refine XS.iload X1231.here hx rfl (hb hby at_383) rfl ?_
              exact kt)
          obtain ⟨fs, hr, hrun, hended, hW, hsame⟩ := X1231.leave (v := some (.int (1 : Int32))) (fun h => by rw [Bd.returns] at h; cases h) (hlocks := by first | exact BodyLoose.notSynchronized Bd | exact Body.notSynchronized Bd)
          refine ⟨_, _, pre0 _ (go1234 _ ?_), hrun, hended, _, _, rfl, ?_, ⟨_, rfl⟩, hW, hsame.mono (by decide) (by decide)⟩
          · exact retN X1231 hx (t := .boolean) Bd.returns (by simp) (hb hby at_385) hr
          · show Q0n10 Z m1 c1 m2 c2 q' fl ad kd nc h0 n0 _ T1231.heap _
            rw [eh1231]
            exact ⟨rfl, N1231⟩
      · have go1235 : own_S p e below ST T1205 (mkF m 352 #[iv m1, iv c1, iv m2, iv c2, iv q', iv fl, iv a1, iv k1, iv a2, iv k2, iv qm, iv qk, iv (1 : Int32), iv (0 : Int32), rv b1131, rv b1138, rv b1160, iv (1 : Int32), rv b1131, rv nc, iv same, .unset] []) := fun tt kt => go1219 tt (by
            refine XS.icmpYes X1205.here hx rfl (pc0 := 335) (pc' := 352) rfl (hb hby at_335) rfl (feq hz335).2 (by decide) (by decide) ?_
            exact kt)
        obtain ⟨T1236, X1236, e1236, st1236⟩ := getS2 X1205 hx hZ hown (host := "") (Or.inl (W 151 rfl)) Via.refl eh1205 (SN.ext Or1191.2) (g := (mkF m 352 #[iv m1, iv c1, iv m2, iv c2, iv q', iv fl, iv a1, iv k1, iv a2, iv k2, iv qm, iv qk, iv (1 : Int32), iv (0 : Int32), rv b1131, rv b1138, rv b1160, iv (1 : Int32), rv b1131, rv nc, iv same, .unset] [])) rfl (hb hby at_352)
        have go1237 : own_S p e below ST T1236 (mkF m 355 #[iv m1, iv c1, iv m2, iv c2, iv q', iv fl, iv a1, iv k1, iv a2, iv k2, iv qm, iv qk, iv (1 : Int32), iv (0 : Int32), rv b1131, rv b1138, rv b1160, iv (1 : Int32), rv b1131, rv nc, iv same, .unset] [(.ref nc)]) := fun tt kt => go1235 tt (st1236 _ kt)
        have go1238 : own_S p e below ST T1236 (mkF m 368 #[iv m1, iv c1, iv m2, iv c2, iv q', iv fl, iv a1, iv k1, iv a2, iv k2, iv qm, iv qk, iv (1 : Int32), iv (0 : Int32), rv b1131, rv b1138, rv b1160, iv (1 : Int32), rv b1131, rv nc, iv same, rv nc] [(.int qk), (.int qm), (.ref b1160)]) := fun tt kt => go1237 tt (by
            refine XS.astore X1236.here hx rfl (hb hby at_355) rfl rfl (l' := #[iv m1, iv c1, iv m2, iv c2, iv q', iv fl, iv a1, iv k1, iv a2, iv k2, iv qm, iv qk, iv (1 : Int32), iv (0 : Int32), rv b1131, rv b1138, rv b1160, iv (1 : Int32), rv b1131, rv nc, iv same, rv nc]) rfl ?_
            refine XS.iload X1236.here hx rfl (hb hby at_357) rfl ?_
            refine XS.ifNo X1236.here hx rfl (hb hby at_359) rfl ((if0 _ _).trans (feq (by decide : ¬ ((1 : Int32) = (0 : Int32)))).1) ?_
            refine XS.aload X1236.here hx rfl (hb hby at_362) rfl rfl ?_
            refine XS.iload X1236.here hx rfl (hb hby at_364) rfl ?_
            refine XS.iload X1236.here hx rfl (hb hby at_366) rfl ?_
            exact kt)
        obtain ⟨cq1239, kq1239, q1239a, q1239b, q1239c⟩ := isOf hZ e1236 Eg1191
        obtain ⟨_, _, ⟨T1239, L1239, k1239, n1239⟩, -, X1239, ⟨Lc1239, hQ1239, l1239, y1239, z1239⟩, st1239⟩ := X1236.virtualBack hx (y := (⟨"com/example/brancher/brancher/service/Group", "choices", "(II)Ljava/util/BitSet;"⟩ : MethodName)) (z := (⟨"com/example/brancher/brancher/service/Group", "choices", "(II)Ljava/util/BitSet;"⟩ : MethodName)) hown (mvT hZ (W 144 rfl)) (mvT hZ (W 145 rfl)) (notFace_of_selects (args := #[]) (mvT hZ (W 147 rfl))) (mvT hZ (W 147 rfl)) (mvT hZ (W 146 rfl)) (by decide) (backOf (W := 0) (rmCH l Z a0 hw [] b1160 qm qk M0_2 M1_2 nc T1191.heap n0 zs1202 GRr1191 bqm bqk SN Or1191) hZ (W 148 rfl) (W 47 rfl) (by decide) (by decide)) q1239a q1239c (g := (mkF m 368 #[iv m1, iv c1, iv m2, iv c2, iv q', iv fl, iv a1, iv k1, iv a2, iv k2, iv qm, iv qk, iv (1 : Int32), iv (0 : Int32), rv b1131, rv b1138, rv b1160, iv (1 : Int32), rv b1131, rv nc, iv same, rv nc] [(.int qk), (.int qm), (.ref b1160)])) rfl (by rw [hml]; rfl) (Steps.refl _) (argsL := [(.int qm), (.int qk)]) (rest := []) (lenOf pd296 rfl) rfl (by show 2 * 0 + _ ≤ _; exact Nat.le_of_eq rfl) (hb hby at_368) (fun _ _ => ⟨rfl, e1236, (by decide : 25 + 0 ≤ _), (by decide : 79 + 0 ≤ _)⟩)
        dsimp only [Pt.U, Pt.locs, Pt.cells, Pt.slots] at X1239 l1239 y1239 z1239 st1239 hQ1239
        subst l1239 y1239 z1239
        obtain ⟨rfl, Nq1239, eh1239⟩ := hQ1239
        have N1239 := Fr.app N1205 Nq1239
        have go1240 : own_S p e below ST T1239 (mkF m 371 #[iv m1, iv c1, iv m2, iv c2, iv q', iv fl, iv a1, iv k1, iv a2, iv k2, iv qm, iv qk, iv (1 : Int32), iv (0 : Int32), rv b1131, rv b1138, rv b1160, iv (1 : Int32), rv b1131, rv nc, iv same, rv nc] [(own_or nc ((if qm = 0 then M0_2 else M1_2).getD (qk).toNatClampNeg .null))]) := fun tt kt => go1238 tt (st1239.trans kt)
        have go1241 : own_S p e below ST T1239 (mkF m 373 #[iv m1, iv c1, iv m2, iv c2, iv q', iv fl, iv a1, iv k1, iv a2, iv k2, iv qm, iv qk, iv (1 : Int32), iv (0 : Int32), rv b1131, rv b1138, rv b1160, iv (1 : Int32), rv b1131, rv nc, iv same, rv nc] [(.ref nc), (own_or nc ((if qm = 0 then M0_2 else M1_2).getD (qk).toNatClampNeg .null))]) := fun tt kt => go1240 tt (by
            refine XS.aload X1239.here hx rfl (hb hby at_371) rfl rfl ?_
            exact kt)
        have e_5 : own_or nc ((if qm = 0 then M0_2 else M1_2).getD (qk).toNatClampNeg .null) = .ref nc := own_orn nc ((s_2 qm qk bqm bqk).trans ((if_neg fun q => hz321 q.2).trans (if_neg fun q => hz335 q.1)))
        obtain ⟨vo5, hvo5⟩ : ∃ z : Value, z = (own_or nc ((if qm = 0 then M0_2 else M1_2).getD (qk).toNatClampNeg .null)) := ⟨_, rfl⟩
        rw [← hvo5] at go1241
        replace e_5 := hvo5.trans e_5
        have go1242 : own_S p e below ST T1239 (mkF m 385 #[iv m1, iv c1, iv m2, iv c2, iv q', iv fl, iv a1, iv k1, iv a2, iv k2, iv qm, iv qk, iv (1 : Int32), iv (0 : Int32), rv b1131, rv b1138, rv b1160, iv (1 : Int32), rv b1131, rv nc, iv same, rv nc] [(.int (1 : Int32))]) := fun tt kt => go1241 tt (by
            refine Jvm.RoadKit.acmp (g := (mkF m 373 #[iv m1, iv c1, iv m2, iv c2, iv q', iv fl, iv a1, iv k1, iv a2, iv k2, iv qm, iv qk, iv (1 : Int32), iv (0 : Int32), rv b1131, rv b1138, rv b1160, iv (1 : Int32), rv b1131, rv nc, iv same, rv nc] [(.ref nc), vo5])) X1239 hx rfl (by rw [e_5]; rfl) rfl (pc0 := 373) (pc' := 376) (same := true) rfl (hb hby at_373) rfl (decide_eq_true e_5) (by decide) (by decide) ?_
            refine XS.iconst X1239.here hx rfl (hb hby at_376) ?_
            refine XS.goto X1239.here hx rfl (pc0 := 377) (pc' := 381) rfl (hb hby at_377) (by decide) (by decide) ?_
            refine XS.istore X1239.here hx rfl (hb hby at_381) rfl (l' := #[iv m1, iv c1, iv m2, iv c2, iv q', iv fl, iv a1, iv k1, iv a2, iv k2, iv qm, iv qk, iv (1 : Int32), iv (0 : Int32), rv b1131, rv b1138, rv b1160, iv (1 : Int32), rv b1131, rv nc, iv same, rv nc]) rfl ?_
            refine XS.iload X1239.here hx rfl (hb hby at_383) rfl ?_
            exact kt)
        obtain ⟨fs, hr, hrun, hended, hW, hsame⟩ := X1239.leave (v := some (.int (1 : Int32))) (fun h => by rw [Bd.returns] at h; cases h) (hlocks := by first | exact BodyLoose.notSynchronized Bd | exact Body.notSynchronized Bd)
        refine ⟨_, _, pre0 _ (go1242 _ ?_), hrun, hended, _, _, rfl, ?_, ⟨_, rfl⟩, hW, hsame.mono (by decide) (by decide)⟩
        · exact retN X1239 hx (t := .boolean) Bd.returns (by simp) (hb hby at_385) hr
        · show Q0n10 Z m1 c1 m2 c2 q' fl ad kd nc h0 n0 _ T1239.heap _
          rw [eh1239]
          exact ⟨rfl, N1239⟩
  · have go1243 : own_S p e below ST T1205 (mkF m 331 #[iv m1, iv c1, iv m2, iv c2, iv q', iv fl, iv a1, iv k1, iv a2, iv k2, iv qm, iv qk, iv (1 : Int32), iv (0 : Int32), rv b1131, rv b1138, rv b1160, iv (1 : Int32), rv b1131, rv nc, iv same, .unset] []) := fun tt kt => go1210 tt (by
        refine XS.icmpYes X1205.here hx rfl (pc0 := 314) (pc' := 331) rfl (hb hby at_314) rfl (feq hz314).2 (by decide) (by decide) ?_
        exact kt)
    have go1244 : own_S p e below ST T1205 (mkF m 335 #[iv m1, iv c1, iv m2, iv c2, iv q', iv fl, iv a1, iv k1, iv a2, iv k2, iv qm, iv qk, iv (1 : Int32), iv (0 : Int32), rv b1131, rv b1138, rv b1160, iv (1 : Int32), rv b1131, rv nc, iv same, .unset] [(.int a1), (.int qm)]) := fun tt kt => go1243 tt (by
        refine XS.iload X1205.here hx rfl (hb hby at_331) rfl ?_
        refine XS.iload X1205.here hx rfl (hb hby at_333) rfl ?_
        exact kt)
    by_cases hz335 : qm = a1
    · have go1245 : own_S p e below ST T1205 (mkF m 338 #[iv m1, iv c1, iv m2, iv c2, iv q', iv fl, iv a1, iv k1, iv a2, iv k2, iv qm, iv qk, iv (1 : Int32), iv (0 : Int32), rv b1131, rv b1138, rv b1160, iv (1 : Int32), rv b1131, rv nc, iv same, .unset] []) := fun tt kt => go1244 tt (by
          refine XS.icmpNo X1205.here hx rfl (hb hby at_335) rfl (teq hz335).2 ?_
          exact kt)
      have go1246 : own_S p e below ST T1205 (mkF m 342 #[iv m1, iv c1, iv m2, iv c2, iv q', iv fl, iv a1, iv k1, iv a2, iv k2, iv qm, iv qk, iv (1 : Int32), iv (0 : Int32), rv b1131, rv b1138, rv b1160, iv (1 : Int32), rv b1131, rv nc, iv same, .unset] [(.int k1), (.int qk)]) := fun tt kt => go1245 tt (by
          refine XS.iload X1205.here hx rfl (hb hby at_338) rfl ?_
          refine XS.iload X1205.here hx rfl (hb hby at_340) rfl ?_
          exact kt)
      by_cases hz342 : qk = k1
      · have go1247 : own_S p e below ST T1205 (mkF m 345 #[iv m1, iv c1, iv m2, iv c2, iv q', iv fl, iv a1, iv k1, iv a2, iv k2, iv qm, iv qk, iv (1 : Int32), iv (0 : Int32), rv b1131, rv b1138, rv b1160, iv (1 : Int32), rv b1131, rv nc, iv same, .unset] []) := fun tt kt => go1246 tt (by
            refine XS.icmpNo X1205.here hx rfl (hb hby at_342) rfl (teq hz342).2 ?_
            exact kt)
        have go1248 : own_S p e below ST T1205 (mkF m 368 #[iv m1, iv c1, iv m2, iv c2, iv q', iv fl, iv a1, iv k1, iv a2, iv k2, iv qm, iv qk, iv (1 : Int32), iv (0 : Int32), rv b1131, rv b1138, rv b1160, iv (1 : Int32), rv b1131, rv nc, iv same, rv b1131] [(.int qk), (.int qm), (.ref b1160)]) := fun tt kt => go1247 tt (by
            refine XS.aload X1205.here hx rfl (hb hby at_345) rfl rfl ?_
            refine XS.astore X1205.here hx rfl (hb hby at_347) rfl rfl (l' := #[iv m1, iv c1, iv m2, iv c2, iv q', iv fl, iv a1, iv k1, iv a2, iv k2, iv qm, iv qk, iv (1 : Int32), iv (0 : Int32), rv b1131, rv b1138, rv b1160, iv (1 : Int32), rv b1131, rv nc, iv same, rv b1131]) rfl ?_
            refine XS.goto X1205.here hx rfl (pc0 := 349) (pc' := 357) rfl (hb hby at_349) (by decide) (by decide) ?_
            refine XS.iload X1205.here hx rfl (hb hby at_357) rfl ?_
            refine XS.ifNo X1205.here hx rfl (hb hby at_359) rfl ((if0 _ _).trans (feq (by decide : ¬ ((1 : Int32) = (0 : Int32)))).1) ?_
            refine XS.aload X1205.here hx rfl (hb hby at_362) rfl rfl ?_
            show Steps p.tables e below (T1205.setTop (mkF m 364 #[iv m1, iv c1, iv m2, iv c2, iv q', iv fl, iv a1, iv k1, iv a2, iv k2, iv qm, iv qk, iv (1 : Int32), iv (0 : Int32), rv b1131, rv b1138, rv b1160, iv (1 : Int32), rv b1131, rv nc, iv same, rv b1131] [(.ref b1160)])) _
            refine XS.iload X1205.here hx rfl (hb hby at_364) rfl ?_
            refine XS.iload X1205.here hx rfl (hb hby at_366) rfl ?_
            exact kt)
        obtain ⟨cq1249, kq1249, q1249a, q1249b, q1249c⟩ := isOf hZ eh1205 Eg1191
        obtain ⟨_, _, ⟨T1249, L1249, k1249, n1249⟩, -, X1249, ⟨Lc1249, hQ1249, l1249, y1249, z1249⟩, st1249⟩ := X1205.virtualBack hx (y := (⟨"com/example/brancher/brancher/service/Group", "choices", "(II)Ljava/util/BitSet;"⟩ : MethodName)) (z := (⟨"com/example/brancher/brancher/service/Group", "choices", "(II)Ljava/util/BitSet;"⟩ : MethodName)) hown (mvT hZ (W 144 rfl)) (mvT hZ (W 145 rfl)) (notFace_of_selects (args := #[]) (mvT hZ (W 147 rfl))) (mvT hZ (W 147 rfl)) (mvT hZ (W 146 rfl)) (by decide) (backOf (W := 0) (rmCH l Z a0 hw [] b1160 qm qk M0_2 M1_2 nc T1191.heap n0 zs1202 GRr1191 bqm bqk SN Or1191) hZ (W 148 rfl) (W 47 rfl) (by decide) (by decide)) q1249a q1249c (g := (mkF m 368 #[iv m1, iv c1, iv m2, iv c2, iv q', iv fl, iv a1, iv k1, iv a2, iv k2, iv qm, iv qk, iv (1 : Int32), iv (0 : Int32), rv b1131, rv b1138, rv b1160, iv (1 : Int32), rv b1131, rv nc, iv same, rv b1131] [(.int qk), (.int qm), (.ref b1160)])) rfl (by rw [hml]; rfl) (Steps.refl _) (argsL := [(.int qm), (.int qk)]) (rest := []) (lenOf pd296 rfl) rfl (by show 2 * 0 + _ ≤ _; exact Nat.le_of_eq rfl) (hb hby at_368) (fun _ _ => ⟨rfl, eh1205, (by decide : 25 + 0 ≤ _), (by decide : 79 + 0 ≤ _)⟩)
        dsimp only [Pt.U, Pt.locs, Pt.cells, Pt.slots] at X1249 l1249 y1249 z1249 st1249 hQ1249
        subst l1249 y1249 z1249
        obtain ⟨rfl, Nq1249, eh1249⟩ := hQ1249
        have N1249 := Fr.app N1205 Nq1249
        have go1250 : own_S p e below ST T1249 (mkF m 371 #[iv m1, iv c1, iv m2, iv c2, iv q', iv fl, iv a1, iv k1, iv a2, iv k2, iv qm, iv qk, iv (1 : Int32), iv (0 : Int32), rv b1131, rv b1138, rv b1160, iv (1 : Int32), rv b1131, rv nc, iv same, rv b1131] [(own_or nc ((if qm = 0 then M0_2 else M1_2).getD (qk).toNatClampNeg .null))]) := fun tt kt => go1248 tt (st1249.trans kt)
        have e_5 : own_or nc ((if qm = 0 then M0_2 else M1_2).getD (qk).toNatClampNeg .null) = .ref b1131 := own_orr nc ((s_2 qm qk bqm bqk).trans ((if_neg fun q => hz314 q.1).trans (if_pos ⟨hz335, hz342⟩)))
        obtain ⟨vo5, hvo5⟩ : ∃ z : Value, z = (own_or nc ((if qm = 0 then M0_2 else M1_2).getD (qk).toNatClampNeg .null)) := ⟨_, rfl⟩
        rw [← hvo5] at go1250
        replace e_5 := hvo5.trans e_5
        have go1251 : own_S p e below ST T1249 (mkF m 385 #[iv m1, iv c1, iv m2, iv c2, iv q', iv fl, iv a1, iv k1, iv a2, iv k2, iv qm, iv qk, iv (1 : Int32), iv (0 : Int32), rv b1131, rv b1138, rv b1160, iv (1 : Int32), rv b1131, rv nc, iv same, rv b1131] [(.int (1 : Int32))]) := fun tt kt => go1250 tt (by
            refine XS.aload X1249.here hx rfl (hb hby at_371) rfl rfl ?_
            refine Jvm.RoadKit.acmp (g := (mkF m 373 #[iv m1, iv c1, iv m2, iv c2, iv q', iv fl, iv a1, iv k1, iv a2, iv k2, iv qm, iv qk, iv (1 : Int32), iv (0 : Int32), rv b1131, rv b1138, rv b1160, iv (1 : Int32), rv b1131, rv nc, iv same, rv b1131] [(.ref b1131), vo5])) X1249 hx rfl (by rw [e_5]; rfl) rfl (pc0 := 373) (pc' := 376) (same := true) rfl (hb hby at_373) rfl (decide_eq_true e_5) (by decide) (by decide) ?_
            refine XS.iconst X1249.here hx rfl (hb hby at_376) ?_
            refine XS.goto X1249.here hx rfl (pc0 := 377) (pc' := 381) rfl (hb hby at_377) (by decide) (by decide) ?_
            refine XS.istore X1249.here hx rfl (hb hby at_381) rfl (l' := #[iv m1, iv c1, iv m2, iv c2, iv q', iv fl, iv a1, iv k1, iv a2, iv k2, iv qm, iv qk, iv (1 : Int32), iv (0 : Int32), rv b1131, rv b1138, rv b1160, iv (1 : Int32), rv b1131, rv nc, iv same, rv b1131]) rfl ?_
            refine XS.iload X1249.here hx rfl (hb hby at_383) rfl ?_
            exact kt)
        obtain ⟨fs, hr, hrun, hended, hW, hsame⟩ := X1249.leave (v := some (.int (1 : Int32))) (fun h => by rw [Bd.returns] at h; cases h) (hlocks := by first | exact BodyLoose.notSynchronized Bd | exact Body.notSynchronized Bd)
        refine ⟨_, _, pre0 _ (go1251 _ ?_), hrun, hended, _, _, rfl, ?_, ⟨_, rfl⟩, hW, hsame.mono (by decide) (by decide)⟩
        · exact retN X1249 hx (t := .boolean) Bd.returns (by simp) (hb hby at_385) hr
        · show Q0n10 Z m1 c1 m2 c2 q' fl ad kd nc h0 n0 _ T1249.heap _
          rw [eh1249]
          exact ⟨rfl, N1249⟩
      · have go1252 : own_S p e below ST T1205 (mkF m 352 #[iv m1, iv c1, iv m2, iv c2, iv q', iv fl, iv a1, iv k1, iv a2, iv k2, iv qm, iv qk, iv (1 : Int32), iv (0 : Int32), rv b1131, rv b1138, rv b1160, iv (1 : Int32), rv b1131, rv nc, iv same, .unset] []) := fun tt kt => go1246 tt (by
            refine XS.icmpYes X1205.here hx rfl (pc0 := 342) (pc' := 352) rfl (hb hby at_342) rfl (feq hz342).2 (by decide) (by decide) ?_
            exact kt)
        obtain ⟨T1253, X1253, e1253, st1253⟩ := getS2 X1205 hx hZ hown (host := "") (Or.inl (W 151 rfl)) Via.refl eh1205 (SN.ext Or1191.2) (g := (mkF m 352 #[iv m1, iv c1, iv m2, iv c2, iv q', iv fl, iv a1, iv k1, iv a2, iv k2, iv qm, iv qk, iv (1 : Int32), iv (0 : Int32), rv b1131, rv b1138, rv b1160, iv (1 : Int32), rv b1131, rv nc, iv same, .unset] [])) rfl (hb hby at_352)
        have go1254 : own_S p e below ST T1253 (mkF m 355 #[iv m1, iv c1, iv m2, iv c2, iv q', iv fl, iv a1, iv k1, iv a2, iv k2, iv qm, iv qk, iv (1 : Int32), iv (0 : Int32), rv b1131, rv b1138, rv b1160, iv (1 : Int32), rv b1131, rv nc, iv same, .unset] [(.ref nc)]) := fun tt kt => go1252 tt (st1253 _ kt)
        have go1255 : own_S p e below ST T1253 (mkF m 368 #[iv m1, iv c1, iv m2, iv c2, iv q', iv fl, iv a1, iv k1, iv a2, iv k2, iv qm, iv qk, iv (1 : Int32), iv (0 : Int32), rv b1131, rv b1138, rv b1160, iv (1 : Int32), rv b1131, rv nc, iv same, rv nc] [(.int qk), (.int qm), (.ref b1160)]) := fun tt kt => go1254 tt (by
            refine XS.astore X1253.here hx rfl (hb hby at_355) rfl rfl (l' := #[iv m1, iv c1, iv m2, iv c2, iv q', iv fl, iv a1, iv k1, iv a2, iv k2, iv qm, iv qk, iv (1 : Int32), iv (0 : Int32), rv b1131, rv b1138, rv b1160, iv (1 : Int32), rv b1131, rv nc, iv same, rv nc]) rfl ?_
            refine XS.iload X1253.here hx rfl (hb hby at_357) rfl ?_
            refine XS.ifNo X1253.here hx rfl (hb hby at_359) rfl ((if0 _ _).trans (feq (by decide : ¬ ((1 : Int32) = (0 : Int32)))).1) ?_
            refine XS.aload X1253.here hx rfl (hb hby at_362) rfl rfl ?_
            refine XS.iload X1253.here hx rfl (hb hby at_364) rfl ?_
            refine XS.iload X1253.here hx rfl (hb hby at_366) rfl ?_
            exact kt)
        obtain ⟨cq1256, kq1256, q1256a, q1256b, q1256c⟩ := isOf hZ e1253 Eg1191
        obtain ⟨_, _, ⟨T1256, L1256, k1256, n1256⟩, -, X1256, ⟨Lc1256, hQ1256, l1256, y1256, z1256⟩, st1256⟩ := X1253.virtualBack hx (y := (⟨"com/example/brancher/brancher/service/Group", "choices", "(II)Ljava/util/BitSet;"⟩ : MethodName)) (z := (⟨"com/example/brancher/brancher/service/Group", "choices", "(II)Ljava/util/BitSet;"⟩ : MethodName)) hown (mvT hZ (W 144 rfl)) (mvT hZ (W 145 rfl)) (notFace_of_selects (args := #[]) (mvT hZ (W 147 rfl))) (mvT hZ (W 147 rfl)) (mvT hZ (W 146 rfl)) (by decide) (backOf (W := 0) (rmCH l Z a0 hw [] b1160 qm qk M0_2 M1_2 nc T1191.heap n0 zs1202 GRr1191 bqm bqk SN Or1191) hZ (W 148 rfl) (W 47 rfl) (by decide) (by decide)) q1256a q1256c (g := (mkF m 368 #[iv m1, iv c1, iv m2, iv c2, iv q', iv fl, iv a1, iv k1, iv a2, iv k2, iv qm, iv qk, iv (1 : Int32), iv (0 : Int32), rv b1131, rv b1138, rv b1160, iv (1 : Int32), rv b1131, rv nc, iv same, rv nc] [(.int qk), (.int qm), (.ref b1160)])) rfl (by rw [hml]; rfl) (Steps.refl _) (argsL := [(.int qm), (.int qk)]) (rest := []) (lenOf pd296 rfl) rfl (by show 2 * 0 + _ ≤ _; exact Nat.le_of_eq rfl) (hb hby at_368) (fun _ _ => ⟨rfl, e1253, (by decide : 25 + 0 ≤ _), (by decide : 79 + 0 ≤ _)⟩)
        dsimp only [Pt.U, Pt.locs, Pt.cells, Pt.slots] at X1256 l1256 y1256 z1256 st1256 hQ1256
        subst l1256 y1256 z1256
        obtain ⟨rfl, Nq1256, eh1256⟩ := hQ1256
        have N1256 := Fr.app N1205 Nq1256
        have go1257 : own_S p e below ST T1256 (mkF m 371 #[iv m1, iv c1, iv m2, iv c2, iv q', iv fl, iv a1, iv k1, iv a2, iv k2, iv qm, iv qk, iv (1 : Int32), iv (0 : Int32), rv b1131, rv b1138, rv b1160, iv (1 : Int32), rv b1131, rv nc, iv same, rv nc] [(own_or nc ((if qm = 0 then M0_2 else M1_2).getD (qk).toNatClampNeg .null))]) := fun tt kt => go1255 tt (st1256.trans kt)
        have go1258 : own_S p e below ST T1256 (mkF m 373 #[iv m1, iv c1, iv m2, iv c2, iv q', iv fl, iv a1, iv k1, iv a2, iv k2, iv qm, iv qk, iv (1 : Int32), iv (0 : Int32), rv b1131, rv b1138, rv b1160, iv (1 : Int32), rv b1131, rv nc, iv same, rv nc] [(.ref nc), (own_or nc ((if qm = 0 then M0_2 else M1_2).getD (qk).toNatClampNeg .null))]) := fun tt kt => go1257 tt (by
            refine XS.aload X1256.here hx rfl (hb hby at_371) rfl rfl ?_
            exact kt)
        have e_5 : own_or nc ((if qm = 0 then M0_2 else M1_2).getD (qk).toNatClampNeg .null) = .ref nc := own_orn nc ((s_2 qm qk bqm bqk).trans ((if_neg fun q => hz314 q.1).trans (if_neg fun q => hz342 q.2)))
        obtain ⟨vo5, hvo5⟩ : ∃ z : Value, z = (own_or nc ((if qm = 0 then M0_2 else M1_2).getD (qk).toNatClampNeg .null)) := ⟨_, rfl⟩
        rw [← hvo5] at go1258
        replace e_5 := hvo5.trans e_5
        have go1259 : own_S p e below ST T1256 (mkF m 385 #[iv m1, iv c1, iv m2, iv c2, iv q', iv fl, iv a1, iv k1, iv a2, iv k2, iv qm, iv qk, iv (1 : Int32), iv (0 : Int32), rv b1131, rv b1138, rv b1160, iv (1 : Int32), rv b1131, rv nc, iv same, rv nc] [(.int (1 : Int32))]) := fun tt kt => go1258 tt (by
            refine Jvm.RoadKit.acmp (g := (mkF m 373 #[iv m1, iv c1, iv m2, iv c2, iv q', iv fl, iv a1, iv k1, iv a2, iv k2, iv qm, iv qk, iv (1 : Int32), iv (0 : Int32), rv b1131, rv b1138, rv b1160, iv (1 : Int32), rv b1131, rv nc, iv same, rv nc] [(.ref nc), vo5])) X1256 hx rfl (by rw [e_5]; rfl) rfl (pc0 := 373) (pc' := 376) (same := true) rfl (hb hby at_373) rfl (decide_eq_true e_5) (by decide) (by decide) ?_
            refine XS.iconst X1256.here hx rfl (hb hby at_376) ?_
            refine XS.goto X1256.here hx rfl (pc0 := 377) (pc' := 381) rfl (hb hby at_377) (by decide) (by decide) ?_
            refine XS.istore X1256.here hx rfl (hb hby at_381) rfl (l' := #[iv m1, iv c1, iv m2, iv c2, iv q', iv fl, iv a1, iv k1, iv a2, iv k2, iv qm, iv qk, iv (1 : Int32), iv (0 : Int32), rv b1131, rv b1138, rv b1160, iv (1 : Int32), rv b1131, rv nc, iv same, rv nc]) rfl ?_
            refine XS.iload X1256.here hx rfl (hb hby at_383) rfl ?_
            exact kt)
        obtain ⟨fs, hr, hrun, hended, hW, hsame⟩ := X1256.leave (v := some (.int (1 : Int32))) (fun h => by rw [Bd.returns] at h; cases h) (hlocks := by first | exact BodyLoose.notSynchronized Bd | exact Body.notSynchronized Bd)
        refine ⟨_, _, pre0 _ (go1259 _ ?_), hrun, hended, _, _, rfl, ?_, ⟨_, rfl⟩, hW, hsame.mono (by decide) (by decide)⟩
        · exact retN X1256 hx (t := .boolean) Bd.returns (by simp) (hb hby at_385) hr
        · show Q0n10 Z m1 c1 m2 c2 q' fl ad kd nc h0 n0 _ T1256.heap _
          rw [eh1256]
          exact ⟨rfl, N1256⟩
    · have go1260 : own_S p e below ST T1205 (mkF m 352 #[iv m1, iv c1, iv m2, iv c2, iv q', iv fl, iv a1, iv k1, iv a2, iv k2, iv qm, iv qk, iv (1 : Int32), iv (0 : Int32), rv b1131, rv b1138, rv b1160, iv (1 : Int32), rv b1131, rv nc, iv same, .unset] []) := fun tt kt => go1244 tt (by
          refine XS.icmpYes X1205.here hx rfl (pc0 := 335) (pc' := 352) rfl (hb hby at_335) rfl (feq hz335).2 (by decide) (by decide) ?_
          exact kt)
      obtain ⟨T1261, X1261, e1261, st1261⟩ := getS2 X1205 hx hZ hown (host := "") (Or.inl (W 151 rfl)) Via.refl eh1205 (SN.ext Or1191.2) (g := (mkF m 352 #[iv m1, iv c1, iv m2, iv c2, iv q', iv fl, iv a1, iv k1, iv a2, iv k2, iv qm, iv qk, iv (1 : Int32), iv (0 : Int32), rv b1131, rv b1138, rv b1160, iv (1 : Int32), rv b1131, rv nc, iv same, .unset] [])) rfl (hb hby at_352)
      have go1262 : own_S p e below ST T1261 (mkF m 355 #[iv m1, iv c1, iv m2, iv c2, iv q', iv fl, iv a1, iv k1, iv a2, iv k2, iv qm, iv qk, iv (1 : Int32), iv (0 : Int32), rv b1131, rv b1138, rv b1160, iv (1 : Int32), rv b1131, rv nc, iv same, .unset] [(.ref nc)]) := fun tt kt => go1260 tt (st1261 _ kt)
      have go1263 : own_S p e below ST T1261 (mkF m 368 #[iv m1, iv c1, iv m2, iv c2, iv q', iv fl, iv a1, iv k1, iv a2, iv k2, iv qm, iv qk, iv (1 : Int32), iv (0 : Int32), rv b1131, rv b1138, rv b1160, iv (1 : Int32), rv b1131, rv nc, iv same, rv nc] [(.int qk), (.int qm), (.ref b1160)]) := fun tt kt => go1262 tt (by
          refine XS.astore X1261.here hx rfl (hb hby at_355) rfl rfl (l' := #[iv m1, iv c1, iv m2, iv c2, iv q', iv fl, iv a1, iv k1, iv a2, iv k2, iv qm, iv qk, iv (1 : Int32), iv (0 : Int32), rv b1131, rv b1138, rv b1160, iv (1 : Int32), rv b1131, rv nc, iv same, rv nc]) rfl ?_
          refine XS.iload X1261.here hx rfl (hb hby at_357) rfl ?_
          refine XS.ifNo X1261.here hx rfl (hb hby at_359) rfl ((if0 _ _).trans (feq (by decide : ¬ ((1 : Int32) = (0 : Int32)))).1) ?_
          refine XS.aload X1261.here hx rfl (hb hby at_362) rfl rfl ?_
          refine XS.iload X1261.here hx rfl (hb hby at_364) rfl ?_
          refine XS.iload X1261.here hx rfl (hb hby at_366) rfl ?_
          exact kt)
      obtain ⟨cq1264, kq1264, q1264a, q1264b, q1264c⟩ := isOf hZ e1261 Eg1191
      obtain ⟨_, _, ⟨T1264, L1264, k1264, n1264⟩, -, X1264, ⟨Lc1264, hQ1264, l1264, y1264, z1264⟩, st1264⟩ := X1261.virtualBack hx (y := (⟨"com/example/brancher/brancher/service/Group", "choices", "(II)Ljava/util/BitSet;"⟩ : MethodName)) (z := (⟨"com/example/brancher/brancher/service/Group", "choices", "(II)Ljava/util/BitSet;"⟩ : MethodName)) hown (mvT hZ (W 144 rfl)) (mvT hZ (W 145 rfl)) (notFace_of_selects (args := #[]) (mvT hZ (W 147 rfl))) (mvT hZ (W 147 rfl)) (mvT hZ (W 146 rfl)) (by decide) (backOf (W := 0) (rmCH l Z a0 hw [] b1160 qm qk M0_2 M1_2 nc T1191.heap n0 zs1202 GRr1191 bqm bqk SN Or1191) hZ (W 148 rfl) (W 47 rfl) (by decide) (by decide)) q1264a q1264c (g := (mkF m 368 #[iv m1, iv c1, iv m2, iv c2, iv q', iv fl, iv a1, iv k1, iv a2, iv k2, iv qm, iv qk, iv (1 : Int32), iv (0 : Int32), rv b1131, rv b1138, rv b1160, iv (1 : Int32), rv b1131, rv nc, iv same, rv nc] [(.int qk), (.int qm), (.ref b1160)])) rfl (by rw [hml]; rfl) (Steps.refl _) (argsL := [(.int qm), (.int qk)]) (rest := []) (lenOf pd296 rfl) rfl (by show 2 * 0 + _ ≤ _; exact Nat.le_of_eq rfl) (hb hby at_368) (fun _ _ => ⟨rfl, e1261, (by decide : 25 + 0 ≤ _), (by decide : 79 + 0 ≤ _)⟩)
      dsimp only [Pt.U, Pt.locs, Pt.cells, Pt.slots] at X1264 l1264 y1264 z1264 st1264 hQ1264
      subst l1264 y1264 z1264
      obtain ⟨rfl, Nq1264, eh1264⟩ := hQ1264
      have N1264 := Fr.app N1205 Nq1264
      have go1265 : own_S p e below ST T1264 (mkF m 371 #[iv m1, iv c1, iv m2, iv c2, iv q', iv fl, iv a1, iv k1, iv a2, iv k2, iv qm, iv qk, iv (1 : Int32), iv (0 : Int32), rv b1131, rv b1138, rv b1160, iv (1 : Int32), rv b1131, rv nc, iv same, rv nc] [(own_or nc ((if qm = 0 then M0_2 else M1_2).getD (qk).toNatClampNeg .null))]) := fun tt kt => go1263 tt (st1264.trans kt)
      have go1266 : own_S p e below ST T1264 (mkF m 373 #[iv m1, iv c1, iv m2, iv c2, iv q', iv fl, iv a1, iv k1, iv a2, iv k2, iv qm, iv qk, iv (1 : Int32), iv (0 : Int32), rv b1131, rv b1138, rv b1160, iv (1 : Int32), rv b1131, rv nc, iv same, rv nc] [(.ref nc), (own_or nc ((if qm = 0 then M0_2 else M1_2).getD (qk).toNatClampNeg .null))]) := fun tt kt => go1265 tt (by
          refine XS.aload X1264.here hx rfl (hb hby at_371) rfl rfl ?_
          exact kt)
      have e_5 : own_or nc ((if qm = 0 then M0_2 else M1_2).getD (qk).toNatClampNeg .null) = .ref nc := own_orn nc ((s_2 qm qk bqm bqk).trans ((if_neg fun q => hz314 q.1).trans (if_neg fun q => hz335 q.1)))
      obtain ⟨vo5, hvo5⟩ : ∃ z : Value, z = (own_or nc ((if qm = 0 then M0_2 else M1_2).getD (qk).toNatClampNeg .null)) := ⟨_, rfl⟩
      rw [← hvo5] at go1266
      replace e_5 := hvo5.trans e_5
      have go1267 : own_S p e below ST T1264 (mkF m 385 #[iv m1, iv c1, iv m2, iv c2, iv q', iv fl, iv a1, iv k1, iv a2, iv k2, iv qm, iv qk, iv (1 : Int32), iv (0 : Int32), rv b1131, rv b1138, rv b1160, iv (1 : Int32), rv b1131, rv nc, iv same, rv nc] [(.int (1 : Int32))]) := fun tt kt => go1266 tt (by
          refine Jvm.RoadKit.acmp (g := (mkF m 373 #[iv m1, iv c1, iv m2, iv c2, iv q', iv fl, iv a1, iv k1, iv a2, iv k2, iv qm, iv qk, iv (1 : Int32), iv (0 : Int32), rv b1131, rv b1138, rv b1160, iv (1 : Int32), rv b1131, rv nc, iv same, rv nc] [(.ref nc), vo5])) X1264 hx rfl (by rw [e_5]; rfl) rfl (pc0 := 373) (pc' := 376) (same := true) rfl (hb hby at_373) rfl (decide_eq_true e_5) (by decide) (by decide) ?_
          refine XS.iconst X1264.here hx rfl (hb hby at_376) ?_
          refine XS.goto X1264.here hx rfl (pc0 := 377) (pc' := 381) rfl (hb hby at_377) (by decide) (by decide) ?_
          refine XS.istore X1264.here hx rfl (hb hby at_381) rfl (l' := #[iv m1, iv c1, iv m2, iv c2, iv q', iv fl, iv a1, iv k1, iv a2, iv k2, iv qm, iv qk, iv (1 : Int32), iv (0 : Int32), rv b1131, rv b1138, rv b1160, iv (1 : Int32), rv b1131, rv nc, iv same, rv nc]) rfl ?_
          refine XS.iload X1264.here hx rfl (hb hby at_383) rfl ?_
          exact kt)
      obtain ⟨fs, hr, hrun, hended, hW, hsame⟩ := X1264.leave (v := some (.int (1 : Int32))) (fun h => by rw [Bd.returns] at h; cases h) (hlocks := by first | exact BodyLoose.notSynchronized Bd | exact Body.notSynchronized Bd)
      refine ⟨_, _, pre0 _ (go1267 _ ?_), hrun, hended, _, _, rfl, ?_, ⟨_, rfl⟩, hW, hsame.mono (by decide) (by decide)⟩
      · exact retN X1264 hx (t := .boolean) Bd.returns (by simp) (hb hby at_385) hr
      · show Q0n10 Z m1 c1 m2 c2 q' fl ad kd nc h0 n0 _ T1264.heap _
        rw [eh1264]
        exact ⟨rfl, N1264⟩
theorem ef0n11 (m : MethodId) (x0 : Int32) (x1 : Int32) (x2 : Int32) (x3 : Int32) (x4 : Int32) (x5 : Int32) : entryFrame m #[(.int x0), (.int x1), (.int x2), (.int x3), (.int x4), (.int x5)] maxLocals = mkF m 0 #[.val (.int x0), .val (.int x1), .val (.int x2), .val (.int x3), .val (.int x4), .val (.int x5), .unset, .unset, .unset, .unset, .unset, .unset, .unset, .unset, .unset, .unset, .unset, .unset, .unset, .unset, .unset, .unset] [] := by first | (simp [entryFrame, mkF, argsToLocals, Value.category, maxLocals]; done) | rfl
def Q0n11 (Z : State) (m1 : Int32) (c1 : Int32) (m2 : Int32) (c2 : Int32) (q' : Int32) (fl : Int32) (ad : Addr) (kd : ClassId) (nc : Addr) (h0 : Heap) (n0 : Nat) (v : Option Value) (h : Heap) (L : List Loc) : Prop := v = some (.int 1) ∧ Fr n0 L
set_option maxRecDepth 65536 in
set_option maxHeartbeats 40000000 in
theorem rm0n11 (l : Launch) (Z : State) (a0 : Array Value) (hw : ∀ d ∈ tables_1, d.before a0 Z = true) (ws : List Jvm.Cond) (m1 : Int32) (c1 : Int32) (m2 : Int32) (c2 : Int32) (q' : Int32) (fl : Int32) (ad : Addr) (kd : ClassId) (nc : Addr) (h0 : Heap) (n0 : Nat) (Z0 : n0 ≤ h0.size) (SD : Sta Z Z.heap "java/util/ArrayList" "DEFAULTCAPACITY_EMPTY_ELEMENTDATA" "[Ljava/lang/Object;" (.ref ad)) (VD : Arv Z Z.heap ad kd (.object "java/lang/Object") (0 : Int32) [] .null) (SB : Sta Z Z.heap "java/util/BitSet" "$assertionsDisabled" "Z" (.int (1 : Int32))) (SN : Sta Z Z.heap "com/example/brancher/brancher/service/Group" "NO_CHOICES" "Ljava/util/BitSet;" (.ref nc)) (OL : Old Z n0 h0) (hb1 : ¬ (fl &&& (1 : Int32) = (0 : Int32))) (hb2 : ¬ (fl &&& (2 : Int32) = (0 : Int32))) :
    MetFree l x (head1 (Jvm.Cond.code x code maxLocals ret :: ws) room_1) (fun aa UU => aa = #[(.int m1), (.int c1), (.int m2), (.int c2), (.int q'), (.int fl)] ∧ Z.Warmed39 UU.vm ∧ UU.heap = h0) (fun _ _ _ _ _ => True) (fun _ UU oo UU' => ∃ vv LL, oo = .returned vv ∧ Q0n11 Z m1 c1 m2 c2 q' fl ad kd nc h0 n0 vv UU'.heap LL ∧ FrameEnd UU oo UU' LL room_1.cells room_1.slots) := by
  have W : ∀ {d : Jvm.Cond} (i : Nat), tables_1[i]? = some d → d.before a0 Z = true := fun i h => hw _ (List.mem_of_getElem? h)
  refine MetFree.of_bodySF (plainFor_of_name pn295) hisR ?_
  intro p e s m args below meth c s₁ Bd hml0 hP hK
  obtain ⟨rfl, hZ, hh⟩ := hP
  have hx := Bd.exec
  have hby := Bd.bytes
  have hml : c.maxLocals = 22 := hml0
  have hown : s.vm.findClass "com/example/brancher/brancher/service/GroupChoicesPinLaw" = some m.cls := findClass_of_methodNamed Bd.named
  have hnm := (name_of_methodNamed Bd.named Bd.method).1
  have X0 : Stand p l e room_1 s m #[(.int m1), (.int c1), (.int m2), (.int c2), (.int q'), (.int fl)] below meth c s₁ [] 0 0 := Stand.of_body Bd
  have e0 : s₁.heap = h0 := by rw [← hh, Bd.state]; rfl
  have N0 := Fr.nil n0
  have pre0 : ∀ tt, Steps p.tables e below (s₁.setTop (mkF m 0 #[iv m1, iv c1, iv m2, iv c2, iv q', iv fl, .unset, .unset, .unset, .unset, .unset, .unset, .unset, .unset, .unset, .unset, .unset, .unset, .unset, .unset, .unset, .unset] [])) tt → Steps p.tables e below (s₁.setTop (entryFrame m #[(.int m1), (.int c1), (.int m2), (.int c2), (.int q'), (.int fl)] maxLocals)) tt := fun tt kt => castTop (ef0n11 m m1 c1 m2 c2 q' fl) kt
  obtain ⟨ST, hST⟩ : ∃ z : State, z = s₁.setTop (mkF m 0 #[iv m1, iv c1, iv m2, iv c2, iv q', iv fl, .unset, .unset, .unset, .unset, .unset, .unset, .unset, .unset, .unset, .unset, .unset, .unset, .unset, .unset, .unset, .unset] []) := ⟨_, rfl⟩
  rw [← hST] at pre0
  have go1268 : own_S p e below ST s₁ (mkF m 3 #[iv m1, iv c1, iv m2, iv c2, iv q', iv fl, .unset, .unset, .unset, .unset, .unset, .unset, .unset, .unset, .unset, .unset, .unset, .unset, .unset, .unset, .unset, .unset] [(.int (m1 &&& (1 : Int32)))]) := fun tt kt => (by
      rw [hST]
      show Steps p.tables e below (s₁.setTop (mkF m 0 #[iv m1, iv c1, iv m2, iv c2, iv q', iv fl, .unset, .unset, .unset, .unset, .unset, .unset, .unset, .unset, .unset, .unset, .unset, .unset, .unset, .unset, .unset, .unset] [])) _
      refine XS.iloadN X0.here hx rfl (hb hby at_0) rfl ?_
      refine XS.iconst X0.here hx rfl (hb hby at_1) ?_
      refine XS.iand X0.here hx rfl (hb hby at_2) rfl ?_
      exact kt)
  obtain ⟨a1, ha1⟩ : ∃ z : Int32, z = (m1 &&& (1 : Int32)) := ⟨_, rfl⟩
  rw [← ha1] at go1268
  have ba1 := own_01 _ a1 ha1
  have go1269 : own_S p e below ST s₁ (mkF m 8 #[iv m1, iv c1, iv m2, iv c2, iv q', iv fl, iv a1, .unset, .unset, .unset, .unset, .unset, .unset, .unset, .unset, .unset, .unset, .unset, .unset, .unset, .unset, .unset] [(.int (c1 &&& (3 : Int32)))]) := fun tt kt => go1268 tt (by
      refine XS.istore X0.here hx rfl (hb hby at_3) rfl (l' := #[iv m1, iv c1, iv m2, iv c2, iv q', iv fl, iv a1, .unset, .unset, .unset, .unset, .unset, .unset, .unset, .unset, .unset, .unset, .unset, .unset, .unset, .unset, .unset]) rfl ?_
      refine XS.iloadN X0.here hx rfl (hb hby at_5) rfl ?_
      refine XS.iconst X0.here hx rfl (hb hby at_6) ?_
      refine XS.iand X0.here hx rfl (hb hby at_7) rfl ?_
      exact kt)
  obtain ⟨k1, hk1⟩ : ∃ z : Int32, z = (c1 &&& (3 : Int32)) := ⟨_, rfl⟩
  rw [← hk1] at go1269
  have bk1 := own_03 _ k1 hk1
  have go1270 : own_S p e below ST s₁ (mkF m 13 #[iv m1, iv c1, iv m2, iv c2, iv q', iv fl, iv a1, iv k1, .unset, .unset, .unset, .unset, .unset, .unset, .unset, .unset, .unset, .unset, .unset, .unset, .unset, .unset] [(.int (m2 &&& (1 : Int32)))]) := fun tt kt => go1269 tt (by
      refine XS.istore X0.here hx rfl (hb hby at_8) rfl (l' := #[iv m1, iv c1, iv m2, iv c2, iv q', iv fl, iv a1, iv k1, .unset, .unset, .unset, .unset, .unset, .unset, .unset, .unset, .unset, .unset, .unset, .unset, .unset, .unset]) rfl ?_
      refine XS.iloadN X0.here hx rfl (hb hby at_10) rfl ?_
      refine XS.iconst X0.here hx rfl (hb hby at_11) ?_
      refine XS.iand X0.here hx rfl (hb hby at_12) rfl ?_
      exact kt)
  obtain ⟨a2, ha2⟩ : ∃ z : Int32, z = (m2 &&& (1 : Int32)) := ⟨_, rfl⟩
  rw [← ha2] at go1270
  have ba2 := own_01 _ a2 ha2
  have go1271 : own_S p e below ST s₁ (mkF m 18 #[iv m1, iv c1, iv m2, iv c2, iv q', iv fl, iv a1, iv k1, iv a2, .unset, .unset, .unset, .unset, .unset, .unset, .unset, .unset, .unset, .unset, .unset, .unset, .unset] [(.int (c2 &&& (3 : Int32)))]) := fun tt kt => go1270 tt (by
      refine XS.istore X0.here hx rfl (hb hby at_13) rfl (l' := #[iv m1, iv c1, iv m2, iv c2, iv q', iv fl, iv a1, iv k1, iv a2, .unset, .unset, .unset, .unset, .unset, .unset, .unset, .unset, .unset, .unset, .unset, .unset, .unset]) rfl ?_
      refine XS.iloadN X0.here hx rfl (hb hby at_15) rfl ?_
      refine XS.iconst X0.here hx rfl (hb hby at_16) ?_
      refine XS.iand X0.here hx rfl (hb hby at_17) rfl ?_
      exact kt)
  obtain ⟨k2, hk2⟩ : ∃ z : Int32, z = (c2 &&& (3 : Int32)) := ⟨_, rfl⟩
  rw [← hk2] at go1271
  have bk2 := own_03 _ k2 hk2
  have go1272 : own_S p e below ST s₁ (mkF m 24 #[iv m1, iv c1, iv m2, iv c2, iv q', iv fl, iv a1, iv k1, iv a2, iv k2, .unset, .unset, .unset, .unset, .unset, .unset, .unset, .unset, .unset, .unset, .unset, .unset] [(.int (q' &&& (1 : Int32)))]) := fun tt kt => go1271 tt (by
      refine XS.istore X0.here hx rfl (hb hby at_18) rfl (l' := #[iv m1, iv c1, iv m2, iv c2, iv q', iv fl, iv a1, iv k1, iv a2, iv k2, .unset, .unset, .unset, .unset, .unset, .unset, .unset, .unset, .unset, .unset, .unset, .unset]) rfl ?_
      refine XS.iload X0.here hx rfl (hb hby at_20) rfl ?_
      refine XS.iconst X0.here hx rfl (hb hby at_22) ?_
      refine XS.iand X0.here hx rfl (hb hby at_23) rfl ?_
      exact kt)
  obtain ⟨qm, hqm⟩ : ∃ z : Int32, z = (q' &&& (1 : Int32)) := ⟨_, rfl⟩
  rw [← hqm] at go1272
  have bqm := own_01 _ qm hqm
  have go1273 : own_S p e below ST s₁ (mkF m 32 #[iv m1, iv c1, iv m2, iv c2, iv q', iv fl, iv a1, iv k1, iv a2, iv k2, iv qm, .unset, .unset, .unset, .unset, .unset, .unset, .unset, .unset, .unset, .unset, .unset] [(.int (((q'.toUInt32 >>> ((1 : Int32) &&& 31).toUInt32).toInt32) &&& (3 : Int32)))]) := fun tt kt => go1272 tt (by
      refine XS.istore X0.here hx rfl (hb hby at_24) rfl (l' := #[iv m1, iv c1, iv m2, iv c2, iv q', iv fl, iv a1, iv k1, iv a2, iv k2, iv qm, .unset, .unset, .unset, .unset, .unset, .unset, .unset, .unset, .unset, .unset, .unset]) rfl ?_
      refine XS.iload X0.here hx rfl (hb hby at_26) rfl ?_
      refine XS.iconst X0.here hx rfl (hb hby at_28) ?_
      refine XS.iushr X0.here hx rfl (hb hby at_29) rfl ?_
      refine XS.iconst X0.here hx rfl (hb hby at_30) ?_
      refine XS.iand X0.here hx rfl (hb hby at_31) rfl ?_
      exact kt)
  obtain ⟨qk, hqk⟩ : ∃ z : Int32, z = (((q'.toUInt32 >>> ((1 : Int32) &&& 31).toUInt32).toInt32) &&& (3 : Int32)) := ⟨_, rfl⟩
  rw [← hqk] at go1273
  have bqk := own_03 _ qk hqk
  have go1274 : own_S p e below ST s₁ (mkF m 62 #[iv m1, iv c1, iv m2, iv c2, iv q', iv fl, iv a1, iv k1, iv a2, iv k2, iv qm, iv qk, iv (1 : Int32), iv (1 : Int32), .unset, .unset, .unset, .unset, .unset, .unset, .unset, .unset] []) := fun tt kt => go1273 tt (by
      refine XS.istore X0.here hx rfl (hb hby at_32) rfl (l' := #[iv m1, iv c1, iv m2, iv c2, iv q', iv fl, iv a1, iv k1, iv a2, iv k2, iv qm, iv qk, .unset, .unset, .unset, .unset, .unset, .unset, .unset, .unset, .unset, .unset]) rfl ?_
      refine XS.iload X0.here hx rfl (hb hby at_34) rfl ?_
      refine XS.iconst X0.here hx rfl (hb hby at_36) ?_
      refine XS.iand X0.here hx rfl (hb hby at_37) rfl ?_
      refine XS.ifNo X0.here hx rfl (hb hby at_38) rfl ((if0 _ _).trans (feq hb1).1) ?_
      refine XS.iconst X0.here hx rfl (hb hby at_41) ?_
      show Steps p.tables e below (s₁.setTop (mkF m 42 #[iv m1, iv c1, iv m2, iv c2, iv q', iv fl, iv a1, iv k1, iv a2, iv k2, iv qm, iv qk, .unset, .unset, .unset, .unset, .unset, .unset, .unset, .unset, .unset, .unset] [(.int (1 : Int32))])) _
      refine XS.goto X0.here hx rfl (pc0 := 42) (pc' := 46) rfl (hb hby at_42) (by decide) (by decide) ?_
      refine XS.istore X0.here hx rfl (hb hby at_46) rfl (l' := #[iv m1, iv c1, iv m2, iv c2, iv q', iv fl, iv a1, iv k1, iv a2, iv k2, iv qm, iv qk, iv (1 : Int32), .unset, .unset, .unset, .unset, .unset, .unset, .unset, .unset, .unset]) rfl ?_
      refine XS.iload X0.here hx rfl (hb hby at_48) rfl ?_
      refine XS.iconst X0.here hx rfl (hb hby at_50) ?_
      refine XS.iand X0.here hx rfl (hb hby at_51) rfl ?_
      refine XS.ifNo X0.here hx rfl (hb hby at_52) rfl ((if0 _ _).trans (feq hb2).1) ?_
      show Steps p.tables e below (s₁.setTop (mkF m 55 #[iv m1, iv c1, iv m2, iv c2, iv q', iv fl, iv a1, iv k1, iv a2, iv k2, iv qm, iv qk, iv (1 : Int32), .unset, .unset, .unset, .unset, .unset, .unset, .unset, .unset, .unset] [])) _
      refine XS.iconst X0.here hx rfl (hb hby at_55) ?_
      refine XS.goto X0.here hx rfl (pc0 := 56) (pc' := 60) rfl (hb hby at_56) (by decide) (by decide) ?_
      refine XS.istore X0.here hx rfl (hb hby at_60) rfl (l' := #[iv m1, iv c1, iv m2, iv c2, iv q', iv fl, iv a1, iv k1, iv a2, iv k2, iv qm, iv qk, iv (1 : Int32), iv (1 : Int32), .unset, .unset, .unset, .unset, .unset, .unset, .unset, .unset]) rfl ?_
      exact kt)
  obtain ⟨b1275, g1275⟩ : ∃ z, z = h0.size := ⟨_, rfl⟩
  obtain ⟨T1275, h1275, X1275, e1275, E1275, A1275, D1275, -, st1275⟩ := newO X0 hx hZ hown (W 0 rfl) (W 1 rfl) (W 2 rfl) e0 (g := (mkF m 62 #[iv m1, iv c1, iv m2, iv c2, iv q', iv fl, iv a1, iv k1, iv a2, iv k2, iv qm, iv qk, iv (1 : Int32), iv (1 : Int32), .unset, .unset, .unset, .unset, .unset, .unset, .unset, .unset] [])) rfl (hb hby at_62) (by decide) (by decide)
  rw [← g1275] at A1275 D1275 st1275
  have ge_b1275 : n0 ≤ b1275 := Nat.le_trans Z0 (Nat.le_of_eq g1275.symm)
  have F1275_wordsInUse : Fld Z h1275 b1275 "java/util/BitSet" "wordsInUse" "I" (.int (0 : Int32)) := D1275 (Or.inl (W 10 rfl)) (ty := .int) (by decide)
  have F1275_sizeIsSticky : Fld Z h1275 b1275 "java/util/BitSet" "sizeIsSticky" "Z" (.int (0 : Int32)) := D1275 (Or.inl (W 12 rfl)) (ty := .boolean) (by decide)
  have F1275_words : Fld Z h1275 b1275 "java/util/BitSet" "words" "[J" .null := D1275 (Or.inl (W 23 rfl)) (ty := (.array .long)) (by decide)
  have go1276 : own_S p e below ST T1275 (mkF m 65 #[iv m1, iv c1, iv m2, iv c2, iv q', iv fl, iv a1, iv k1, iv a2, iv k2, iv qm, iv qk, iv (1 : Int32), iv (1 : Int32), .unset, .unset, .unset, .unset, .unset, .unset, .unset, .unset] [(.ref b1275)]) := fun tt kt => go1274 tt (st1275 _ kt)
  have go1277 : own_S p e below ST T1275 (mkF m 66 #[iv m1, iv c1, iv m2, iv c2, iv q', iv fl, iv a1, iv k1, iv a2, iv k2, iv qm, iv qk, iv (1 : Int32), iv (1 : Int32), .unset, .unset, .unset, .unset, .unset, .unset, .unset, .unset] [(.ref b1275), (.ref b1275)]) := fun tt kt => go1276 tt (by
      refine XS.dup X1275.here hx rfl (hb hby at_65) rfl rfl ?_
      exact kt)
  have zs1279 := (Nat.le_trans Z0 E1275.1)
  obtain ⟨_, _, ⟨T1278, L1278, k1278, n1278⟩, -, X1278, ⟨Lc1278, hQ1278, l1278, y1278, z1278⟩, st1278⟩ := X1275.specialBack hx (y := (⟨"java/util/BitSet", "<init>", "()V"⟩ : MethodName)) rfl hown (mvT hZ (W 3 rfl)) (mvT hZ (W 4 rfl)) (mvT hZ (W 5 rfl)) (by decide) (backOf (W := 1) (rm1 l Z a0 hw [] b1275 h1275 n0 zs1279 F1275_wordsInUse F1275_sizeIsSticky F1275_words A1275 ge_b1275) hZ (W 5 rfl) (W 2 rfl) (by decide) (by decide)) (g := (mkF m 66 #[iv m1, iv c1, iv m2, iv c2, iv q', iv fl, iv a1, iv k1, iv a2, iv k2, iv qm, iv qk, iv (1 : Int32), iv (1 : Int32), .unset, .unset, .unset, .unset, .unset, .unset, .unset, .unset] [(.ref b1275), (.ref b1275)])) rfl (by rw [hml]; rfl) (Steps.refl _) (a := b1275) (argsL := []) (rest := [(.ref b1275)]) (lenOf pd7 rfl) rfl (by show 2 * 0 + _ ≤ _; exact Nat.le_of_eq rfl) (hb hby at_66) (fun _ _ => ⟨rfl, e1275, (by decide : 1 + 1 ≤ _), (by decide : 3 + 1 ≤ _)⟩)
  dsimp only [Pt.U, Pt.locs, Pt.cells, Pt.slots] at X1278 l1278 y1278 z1278 st1278 hQ1278
  subst l1278 y1278 z1278
  obtain ⟨b1278, kb1278, rfl, Nq1278, K1278, Fa1278, Fb1278, Fc1278, Vb1278, gb1278, zb1278, nb1278⟩ := hQ1278
  have N1278 := Fr.app N0 Nq1278
  have go1280 : own_S p e below ST T1278 (mkF m 69 #[iv m1, iv c1, iv m2, iv c2, iv q', iv fl, iv a1, iv k1, iv a2, iv k2, iv qm, iv qk, iv (1 : Int32), iv (1 : Int32), .unset, .unset, .unset, .unset, .unset, .unset, .unset, .unset] [(.ref b1275)]) := fun tt kt => go1277 tt (st1278.trans kt)
  have go1281 : own_S p e below ST T1278 (mkF m 71 #[iv m1, iv c1, iv m2, iv c2, iv q', iv fl, iv a1, iv k1, iv a2, iv k2, iv qm, iv qk, iv (1 : Int32), iv (1 : Int32), rv b1275, .unset, .unset, .unset, .unset, .unset, .unset, .unset] []) := fun tt kt => go1280 tt (by
      refine XS.astore X1278.here hx rfl (hb hby at_69) rfl rfl (l' := #[iv m1, iv c1, iv m2, iv c2, iv q', iv fl, iv a1, iv k1, iv a2, iv k2, iv qm, iv qk, iv (1 : Int32), iv (1 : Int32), rv b1275, .unset, .unset, .unset, .unset, .unset, .unset, .unset]) rfl ?_
      exact kt)
  have f1283 := (A1275.keep K1278)
  have zs1284 := (Nat.le_trans zs1279 K1278.1)
  obtain ⟨b1282, g1282⟩ : ∃ z, z = T1278.heap.size := ⟨_, rfl⟩
  obtain ⟨T1282, h1282, X1282, e1282, E1282, A1282, D1282, -, st1282⟩ := newO X1278 hx hZ hown (W 0 rfl) (W 1 rfl) (W 2 rfl) rfl (g := (mkF m 71 #[iv m1, iv c1, iv m2, iv c2, iv q', iv fl, iv a1, iv k1, iv a2, iv k2, iv qm, iv qk, iv (1 : Int32), iv (1 : Int32), rv b1275, .unset, .unset, .unset, .unset, .unset, .unset, .unset] [])) rfl (hb hby at_71) (by decide) (by decide)
  rw [← g1282] at A1282 D1282 st1282
  have neb1275_b1282 : b1275 ≠ b1282 := Nat.ne_of_lt (Nat.lt_of_lt_of_le f1283.lt (Nat.le_of_eq g1282.symm))
  have neb1278_b1282 : b1278 ≠ b1282 := Nat.ne_of_lt (Nat.lt_of_lt_of_le Vb1278.lt (Nat.le_of_eq g1282.symm))
  have ge_b1282 : n0 ≤ b1282 := Nat.le_trans zs1284 (Nat.le_of_eq g1282.symm)
  have F1282_wordsInUse : Fld Z h1282 b1282 "java/util/BitSet" "wordsInUse" "I" (.int (0 : Int32)) := D1282 (Or.inl (W 10 rfl)) (ty := .int) (by decide)
  have F1282_sizeIsSticky : Fld Z h1282 b1282 "java/util/BitSet" "sizeIsSticky" "Z" (.int (0 : Int32)) := D1282 (Or.inl (W 12 rfl)) (ty := .boolean) (by decide)
  have F1282_words : Fld Z h1282 b1282 "java/util/BitSet" "words" "[J" .null := D1282 (Or.inl (W 23 rfl)) (ty := (.array .long)) (by decide)
  have go1285 : own_S p e below ST T1282 (mkF m 74 #[iv m1, iv c1, iv m2, iv c2, iv q', iv fl, iv a1, iv k1, iv a2, iv k2, iv qm, iv qk, iv (1 : Int32), iv (1 : Int32), rv b1275, .unset, .unset, .unset, .unset, .unset, .unset, .unset] [(.ref b1282)]) := fun tt kt => go1281 tt (st1282 _ kt)
  have go1286 : own_S p e below ST T1282 (mkF m 75 #[iv m1, iv c1, iv m2, iv c2, iv q', iv fl, iv a1, iv k1, iv a2, iv k2, iv qm, iv qk, iv (1 : Int32), iv (1 : Int32), rv b1275, .unset, .unset, .unset, .unset, .unset, .unset, .unset] [(.ref b1282), (.ref b1282)]) := fun tt kt => go1285 tt (by
      refine XS.dup X1282.here hx rfl (hb hby at_74) rfl rfl ?_
      exact kt)
  have f1287 := (f1283.ext E1282)
  have f1288 := (Vb1278.ext E1282)
  have zs1290 := (Nat.le_trans zs1284 E1282.1)
  obtain ⟨_, _, ⟨T1289, L1289, k1289, n1289⟩, -, X1289, ⟨Lc1289, hQ1289, l1289, y1289, z1289⟩, st1289⟩ := X1282.specialBack hx (y := (⟨"java/util/BitSet", "<init>", "()V"⟩ : MethodName)) rfl hown (mvT hZ (W 3 rfl)) (mvT hZ (W 4 rfl)) (mvT hZ (W 5 rfl)) (by decide) (backOf (W := 1) (rm1 l Z a0 hw [] b1282 h1282 n0 zs1290 F1282_wordsInUse F1282_sizeIsSticky F1282_words A1282 ge_b1282) hZ (W 5 rfl) (W 2 rfl) (by decide) (by decide)) (g := (mkF m 75 #[iv m1, iv c1, iv m2, iv c2, iv q', iv fl, iv a1, iv k1, iv a2, iv k2, iv qm, iv qk, iv (1 : Int32), iv (1 : Int32), rv b1275, .unset, .unset, .unset, .unset, .unset, .unset, .unset] [(.ref b1282), (.ref b1282)])) rfl (by rw [hml]; rfl) (Steps.refl _) (a := b1282) (argsL := []) (rest := [(.ref b1282)]) (lenOf pd7 rfl) rfl (by show 2 * 0 + _ ≤ _; exact Nat.le_of_eq rfl) (hb hby at_75) (fun _ _ => ⟨rfl, e1282, (by decide : 3 + 1 ≤ _), (by decide : 7 + 1 ≤ _)⟩)
  dsimp only [Pt.U, Pt.locs, Pt.cells, Pt.slots] at X1289 l1289 y1289 z1289 st1289 hQ1289
  subst l1289 y1289 z1289
  obtain ⟨b1289, kb1289, rfl, Nq1289, K1289, Fa1289, Fb1289, Fc1289, Vb1289, gb1289, zb1289, nb1289⟩ := hQ1289
  have N1289 := Fr.app N1278 Nq1289
  have go1291 : own_S p e below ST T1289 (mkF m 78 #[iv m1, iv c1, iv m2, iv c2, iv q', iv fl, iv a1, iv k1, iv a2, iv k2, iv qm, iv qk, iv (1 : Int32), iv (1 : Int32), rv b1275, .unset, .unset, .unset, .unset, .unset, .unset, .unset] [(.ref b1282)]) := fun tt kt => go1286 tt (st1289.trans kt)
  have neb1275_b1289 : b1275 ≠ b1289 := Nat.ne_of_lt (Nat.lt_of_lt_of_le f1287.lt zb1289)
  have neb1278_b1289 : b1278 ≠ b1289 := Nat.ne_of_lt (Nat.lt_of_lt_of_le f1288.lt zb1289)
  have go1292 : own_S p e below ST T1289 (mkF m 94 #[iv m1, iv c1, iv m2, iv c2, iv q', iv fl, iv a1, iv k1, iv a2, iv k2, iv qm, iv qk, iv (1 : Int32), iv (1 : Int32), rv b1275, rv b1282, .unset, .unset, .unset, .unset, .unset, .unset] [(.int (((fl.toUInt32 >>> ((2 : Int32) &&& 31).toUInt32).toInt32) &&& (63 : Int32))), (.ref b1275)]) := fun tt kt => go1291 tt (by
      refine XS.astore X1289.here hx rfl (hb hby at_78) rfl rfl (l' := #[iv m1, iv c1, iv m2, iv c2, iv q', iv fl, iv a1, iv k1, iv a2, iv k2, iv qm, iv qk, iv (1 : Int32), iv (1 : Int32), rv b1275, rv b1282, .unset, .unset, .unset, .unset, .unset, .unset]) rfl ?_
      refine XS.iload X1289.here hx rfl (hb hby at_80) rfl ?_
      refine XS.ifNo X1289.here hx rfl (hb hby at_82) rfl ((if0 _ _).trans (feq (by decide : ¬ ((1 : Int32) = (0 : Int32)))).1) ?_
      refine XS.aload X1289.here hx rfl (hb hby at_85) rfl rfl ?_
      refine XS.iload X1289.here hx rfl (hb hby at_87) rfl ?_
      refine XS.iconst X1289.here hx rfl (hb hby at_89) ?_
      show Steps p.tables e below (T1289.setTop (mkF m 90 #[iv m1, iv c1, iv m2, iv c2, iv q', iv fl, iv a1, iv k1, iv a2, iv k2, iv qm, iv qk, iv (1 : Int32), iv (1 : Int32), rv b1275, rv b1282, .unset, .unset, .unset, .unset, .unset, .unset] [(.int (2 : Int32)), (.int fl), (.ref b1275)])) _
      refine XS.iushr X1289.here hx rfl (hb hby at_90) rfl ?_
      refine XS.bipush X1289.here hx rfl (hb hby at_91) ?_
      refine XS.iand X1289.here hx rfl (hb hby at_93) rfl ?_
      exact kt)
  obtain ⟨ii1293, hii1293⟩ : ∃ z : Int32, z = (((fl.toUInt32 >>> ((2 : Int32) &&& 31).toUInt32).toInt32) &&& (63 : Int32)) := ⟨_, rfl⟩
  have bii1293 := own_63 _ ii1293 hii1293
  have f1294 := ((Fa1278.ext E1282).keep K1289 (ninS neb1275_b1282 nin0))
  have f1295 := ((Fb1278.ext E1282).keep K1289 (ninS neb1275_b1282 nin0))
  have f1296 := ((Fc1278.ext E1282).keep K1289 (ninS neb1275_b1282 nin0))
  have f1297 := (f1287.keep K1289)
  have f1298 := (f1288.keep K1289 (ninS neb1278_b1282 nin0))
  have f1299 := ((((OL.ext E1275).keep K1278 (allS ge_b1275 all0)).ext E1282).keep K1289 (allS ge_b1282 all0))
  have zs1301 := (Nat.le_trans zs1290 K1289.1)
  obtain ⟨cq1300, kq1300, q1300a, q1300b, q1300c⟩ := isOf hZ rfl f1297
  obtain ⟨_, _, ⟨T1300, L1300, k1300, n1300⟩, -, X1300, ⟨Lc1300, hQ1300, l1300, y1300, z1300⟩, st1300⟩ := X1289.virtualBack hx (y := (⟨"java/util/BitSet", "set", "(I)V"⟩ : MethodName)) (z := (⟨"java/util/BitSet", "set", "(I)V"⟩ : MethodName)) hown (mvT hZ (W 24 rfl)) (mvT hZ (W 25 rfl)) (notFace_of_selects (args := #[]) (mvT hZ (W 27 rfl))) (mvT hZ (W 27 rfl)) (mvT hZ (W 26 rfl)) (by decide) (backOf (W := 0) (rm5 l Z a0 hw [] b1275 b1278 kb1278 _ (((fl.toUInt32 >>> ((2 : Int32) &&& 31).toUInt32).toInt32) &&& (63 : Int32)) T1289.heap n0 zs1301 f1294 f1295 f1296 f1297 ge_b1275 f1298 gb1278 nb1278 (hii1293 ▸ bii1293.1) (hii1293 ▸ bii1293.2) SB f1299) hZ (W 28 rfl) (W 2 rfl) (by decide) (by decide)) q1300a q1300c (g := (mkF m 94 #[iv m1, iv c1, iv m2, iv c2, iv q', iv fl, iv a1, iv k1, iv a2, iv k2, iv qm, iv qk, iv (1 : Int32), iv (1 : Int32), rv b1275, rv b1282, .unset, .unset, .unset, .unset, .unset, .unset] [(.int (((fl.toUInt32 >>> ((2 : Int32) &&& 31).toUInt32).toInt32) &&& (63 : Int32))), (.ref b1275)])) rfl (by rw [hml]; rfl) (Steps.refl _) (argsL := [(.int (((fl.toUInt32 >>> ((2 : Int32) &&& 31).toUInt32).toInt32) &&& (63 : Int32)))]) (rest := []) (lenOf pd113 rfl) rfl (by show 2 * 0 + _ ≤ _; exact Nat.le_of_eq rfl) (hb hby at_94) (fun _ _ => ⟨rfl, rfl, (by decide : 4 + 0 ≤ _), (by decide : 8 + 0 ≤ _)⟩)
  dsimp only [Pt.U, Pt.locs, Pt.cells, Pt.slots] at X1300 l1300 y1300 z1300 st1300 hQ1300
  subst l1300 y1300 z1300
  obtain ⟨rfl, Nq1300, K1300, Fu1300⟩ := hQ1300
  have N1300 := Fr.app N1289 Nq1300
  have go1302 : own_S p e below ST T1300 (mkF m 97 #[iv m1, iv c1, iv m2, iv c2, iv q', iv fl, iv a1, iv k1, iv a2, iv k2, iv qm, iv qk, iv (1 : Int32), iv (1 : Int32), rv b1275, rv b1282, .unset, .unset, .unset, .unset, .unset, .unset] []) := fun tt kt => go1292 tt (st1300.trans kt)
  have go1303 : own_S p e below ST T1300 (mkF m 112 #[iv m1, iv c1, iv m2, iv c2, iv q', iv fl, iv a1, iv k1, iv a2, iv k2, iv qm, iv qk, iv (1 : Int32), iv (1 : Int32), rv b1275, rv b1282, .unset, .unset, .unset, .unset, .unset, .unset] [(.int (((fl.toUInt32 >>> ((8 : Int32) &&& 31).toUInt32).toInt32) &&& (63 : Int32))), (.ref b1282)]) := fun tt kt => go1302 tt (by
      refine XS.iload X1300.here hx rfl (hb hby at_97) rfl ?_
      refine XS.ifNo X1300.here hx rfl (hb hby at_99) rfl ((if0 _ _).trans (feq (by decide : ¬ ((1 : Int32) = (0 : Int32)))).1) ?_
      refine XS.aload X1300.here hx rfl (hb hby at_102) rfl rfl ?_
      refine XS.iload X1300.here hx rfl (hb hby at_104) rfl ?_
      refine XS.bipush X1300.here hx rfl (hb hby at_106) ?_
      refine XS.iushr X1300.here hx rfl (hb hby at_108) rfl ?_
      show Steps p.tables e below (T1300.setTop (mkF m 109 #[iv m1, iv c1, iv m2, iv c2, iv q', iv fl, iv a1, iv k1, iv a2, iv k2, iv qm, iv qk, iv (1 : Int32), iv (1 : Int32), rv b1275, rv b1282, .unset, .unset, .unset, .unset, .unset, .unset] [(.int ((fl.toUInt32 >>> ((8 : Int32) &&& 31).toUInt32).toInt32)), (.ref b1282)])) _
      refine XS.bipush X1300.here hx rfl (hb hby at_109) ?_
      refine XS.iand X1300.here hx rfl (hb hby at_111) rfl ?_
      exact kt)
  obtain ⟨ii1304, hii1304⟩ : ∃ z : Int32, z = (((fl.toUInt32 >>> ((8 : Int32) &&& 31).toUInt32).toInt32) &&& (63 : Int32)) := ⟨_, rfl⟩
  have bii1304 := own_63 _ ii1304 hii1304
  have f1305 := (Fa1289.keep K1300 (ninS (Ne.symm neb1275_b1282) (ninS (Ne.symm neb1278_b1282) nin0)))
  have f1306 := (Fb1289.keep K1300 (ninS (Ne.symm neb1275_b1282) (ninS (Ne.symm neb1278_b1282) nin0)))
  have f1307 := (Fc1289.keep K1300 (ninS (Ne.symm neb1275_b1282) (ninS (Ne.symm neb1278_b1282) nin0)))
  have f1308 := ((A1282.keep K1289).keep K1300)
  have f1309 := (Vb1289.keep K1300 (ninS (Ne.symm neb1275_b1289) (ninS (Ne.symm neb1278_b1289) nin0)))
  have f1310 := (f1299.keep K1300 (allS ge_b1275 (allS gb1278 all0)))
  have zs1312 := (Nat.le_trans zs1301 K1300.1)
  obtain ⟨cq1311, kq1311, q1311a, q1311b, q1311c⟩ := isOf hZ rfl f1308
  obtain ⟨_, _, ⟨T1311, L1311, k1311, n1311⟩, -, X1311, ⟨Lc1311, hQ1311, l1311, y1311, z1311⟩, st1311⟩ := X1300.virtualBack hx (y := (⟨"java/util/BitSet", "set", "(I)V"⟩ : MethodName)) (z := (⟨"java/util/BitSet", "set", "(I)V"⟩ : MethodName)) hown (mvT hZ (W 24 rfl)) (mvT hZ (W 25 rfl)) (notFace_of_selects (args := #[]) (mvT hZ (W 27 rfl))) (mvT hZ (W 27 rfl)) (mvT hZ (W 26 rfl)) (by decide) (backOf (W := 0) (rm5 l Z a0 hw [] b1282 b1289 kb1289 _ (((fl.toUInt32 >>> ((8 : Int32) &&& 31).toUInt32).toInt32) &&& (63 : Int32)) T1300.heap n0 zs1312 f1305 f1306 f1307 f1308 ge_b1282 f1309 gb1289 nb1289 (hii1304 ▸ bii1304.1) (hii1304 ▸ bii1304.2) SB f1310) hZ (W 28 rfl) (W 2 rfl) (by decide) (by decide)) q1311a q1311c (g := (mkF m 112 #[iv m1, iv c1, iv m2, iv c2, iv q', iv fl, iv a1, iv k1, iv a2, iv k2, iv qm, iv qk, iv (1 : Int32), iv (1 : Int32), rv b1275, rv b1282, .unset, .unset, .unset, .unset, .unset, .unset] [(.int (((fl.toUInt32 >>> ((8 : Int32) &&& 31).toUInt32).toInt32) &&& (63 : Int32))), (.ref b1282)])) rfl (by rw [hml]; rfl) (Steps.refl _) (argsL := [(.int (((fl.toUInt32 >>> ((8 : Int32) &&& 31).toUInt32).toInt32) &&& (63 : Int32)))]) (rest := []) (lenOf pd113 rfl) rfl (by show 2 * 0 + _ ≤ _; exact Nat.le_of_eq rfl) (hb hby at_112) (fun _ _ => ⟨rfl, rfl, (by decide : 4 + 0 ≤ _), (by decide : 8 + 0 ≤ _)⟩)
  dsimp only [Pt.U, Pt.locs, Pt.cells, Pt.slots] at X1311 l1311 y1311 z1311 st1311 hQ1311
  subst l1311 y1311 z1311
  obtain ⟨rfl, Nq1311, K1311, Fu1311⟩ := hQ1311
  have N1311 := Fr.app N1300 Nq1311
  have go1313 : own_S p e below ST T1311 (mkF m 115 #[iv m1, iv c1, iv m2, iv c2, iv q', iv fl, iv a1, iv k1, iv a2, iv k2, iv qm, iv qk, iv (1 : Int32), iv (1 : Int32), rv b1275, rv b1282, .unset, .unset, .unset, .unset, .unset, .unset] []) := fun tt kt => go1303 tt (st1311.trans kt)
  have f1315 := ((f1297.keep K1300).keep K1311)
  have f1316 := (f1308.keep K1311)
  have zs1317 := (Nat.le_trans zs1312 K1311.1)
  obtain ⟨b1314, g1314⟩ : ∃ z, z = T1311.heap.size := ⟨_, rfl⟩
  obtain ⟨T1314, h1314, X1314, e1314, E1314, A1314, D1314, -, st1314⟩ := newO X1311 hx hZ hown (W 45 rfl) (W 46 rfl) (W 47 rfl) rfl (g := (mkF m 115 #[iv m1, iv c1, iv m2, iv c2, iv q', iv fl, iv a1, iv k1, iv a2, iv k2, iv qm, iv qk, iv (1 : Int32), iv (1 : Int32), rv b1275, rv b1282, .unset, .unset, .unset, .unset, .unset, .unset] [])) rfl (hb hby at_115) (by decide) (by decide)
  rw [← g1314] at A1314 D1314 st1314
  have neb1275_b1314 : b1275 ≠ b1314 := Nat.ne_of_lt (Nat.lt_of_lt_of_le f1315.lt (Nat.le_of_eq g1314.symm))
  have neb1282_b1314 : b1282 ≠ b1314 := Nat.ne_of_lt (Nat.lt_of_lt_of_le f1316.lt (Nat.le_of_eq g1314.symm))
  have ge_b1314 : n0 ≤ b1314 := Nat.le_trans zs1317 (Nat.le_of_eq g1314.symm)
  have F1314_edges : Fld Z h1314 b1314 "com/example/brancher/brancher/service/Group" "edges" "Ljava/util/List;" .null := D1314 (Or.inr (W 77 rfl)) (ty := (.object "java/util/List")) (by decide)
  have F1314_elements : Fld Z h1314 b1314 "com/example/brancher/brancher/service/Group" "elements" "[Lcom/example/brancher/brancher/service/Element;" .null := D1314 (Or.inr (W 81 rfl)) (ty := (.array (.object "com/example/brancher/brancher/service/Element"))) (by decide)
  have F1314_parent : Fld Z h1314 b1314 "com/example/brancher/brancher/service/Group" "parent" "Lcom/example/brancher/brancher/service/Group$Parent;" .null := D1314 (Or.inr (W 83 rfl)) (ty := (.object "com/example/brancher/brancher/service/Group$Parent")) (by decide)
  have F1314_level : Fld Z h1314 b1314 "com/example/brancher/brancher/service/Group" "level" "I" (.int (0 : Int32)) := D1314 (Or.inr (W 85 rfl)) (ty := .int) (by decide)
  have F1314_choices : Fld Z h1314 b1314 "com/example/brancher/brancher/service/Group" "choices" "[[Ljava/util/BitSet;" .null := D1314 (Or.inr (W 89 rfl)) (ty := (.array (.array (.object "java/util/BitSet")))) (by decide)
  have go1318 : own_S p e below ST T1314 (mkF m 118 #[iv m1, iv c1, iv m2, iv c2, iv q', iv fl, iv a1, iv k1, iv a2, iv k2, iv qm, iv qk, iv (1 : Int32), iv (1 : Int32), rv b1275, rv b1282, .unset, .unset, .unset, .unset, .unset, .unset] [(.ref b1314)]) := fun tt kt => go1313 tt (st1314 _ kt)
  have go1319 : own_S p e below ST T1314 (mkF m 120 #[iv m1, iv c1, iv m2, iv c2, iv q', iv fl, iv a1, iv k1, iv a2, iv k2, iv qm, iv qk, iv (1 : Int32), iv (1 : Int32), rv b1275, rv b1282, .unset, .unset, .unset, .unset, .unset, .unset] [(.int (2 : Int32)), (.ref b1314), (.ref b1314)]) := fun tt kt => go1318 tt (by
      refine XS.dup X1314.here hx rfl (hb hby at_118) rfl rfl ?_
      refine XS.iconst X1314.here hx rfl (hb hby at_119) ?_
      exact kt)
  have f1320 := ((f1310.keep K1311 (allS ge_b1282 (allS gb1289 all0))).ext E1314)
  have zs1322 := (Nat.le_trans zs1317 E1314.1)
  obtain ⟨_, _, ⟨T1321, L1321, k1321, n1321⟩, -, X1321, ⟨Lc1321, hQ1321, l1321, y1321, z1321⟩, st1321⟩ := X1314.specialBack hx (y := (⟨"com/example/brancher/brancher/service/Group", "<init>", "(I)V"⟩ : MethodName)) rfl hown (mvT hZ (W 48 rfl)) (mvT hZ (W 49 rfl)) (mvT hZ (W 50 rfl)) (by decide) (backOf (W := 1) (rm9 l Z a0 hw [] b1314 ad kd h1314 n0 zs1322 F1314_edges F1314_elements F1314_parent F1314_level F1314_choices A1314 ge_b1314 SD VD f1320) hZ (W 50 rfl) (W 47 rfl) (by decide) (by decide)) (g := (mkF m 120 #[iv m1, iv c1, iv m2, iv c2, iv q', iv fl, iv a1, iv k1, iv a2, iv k2, iv qm, iv qk, iv (1 : Int32), iv (1 : Int32), rv b1275, rv b1282, .unset, .unset, .unset, .unset, .unset, .unset] [(.int (2 : Int32)), (.ref b1314), (.ref b1314)])) rfl (by rw [hml]; rfl) (Steps.refl _) (a := b1314) (argsL := [(.int (2 : Int32))]) (rest := [(.ref b1314)]) (lenOf pd113 rfl) rfl (by show 2 * 0 + _ ≤ _; exact Nat.le_of_eq rfl) (hb hby at_120) (fun _ _ => ⟨rfl, e1314, (by decide : 5 + 18 ≤ _), (by decide : 14 + 57 ≤ _)⟩)
  dsimp only [Pt.U, Pt.locs, Pt.cells, Pt.slots] at X1321 l1321 y1321 z1321 st1321 hQ1321
  subst l1321 y1321 z1321
  obtain ⟨bc1321, kc1321, rfl, Nq1321, K1321, Fc1321, Vc1321, oc1321, gb1321, nb1321⟩ := hQ1321
  have N1321 := Fr.app N1311 Nq1321
  have go1323 : own_S p e below ST T1321 (mkF m 123 #[iv m1, iv c1, iv m2, iv c2, iv q', iv fl, iv a1, iv k1, iv a2, iv k2, iv qm, iv qk, iv (1 : Int32), iv (1 : Int32), rv b1275, rv b1282, .unset, .unset, .unset, .unset, .unset, .unset] [(.ref b1314)]) := fun tt kt => go1319 tt (st1321.trans kt)
  have GRi1321 : own_GR Z T1321.heap n0 b1314 [.null, .null, .null, .null] [.null, .null, .null, .null] := ⟨bc1321, kc1321, .null, .null, Fc1321, Vc1321, oc1321, Or.inl ⟨rfl, rfl⟩, Or.inl ⟨rfl, rfl⟩, Or.inl rfl, gb1321, nb1321, rfl, rfl⟩
  have go1324 : own_S p e below ST T1321 (mkF m 131 #[iv m1, iv c1, iv m2, iv c2, iv q', iv fl, iv a1, iv k1, iv a2, iv k2, iv qm, iv qk, iv (1 : Int32), iv (1 : Int32), rv b1275, rv b1282, rv b1314, .unset, .unset, .unset, .unset, .unset] [(.int qk), (.int qm), (.ref b1314)]) := fun tt kt => go1323 tt (by
      refine XS.astore X1321.here hx rfl (hb hby at_123) rfl rfl (l' := #[iv m1, iv c1, iv m2, iv c2, iv q', iv fl, iv a1, iv k1, iv a2, iv k2, iv qm, iv qk, iv (1 : Int32), iv (1 : Int32), rv b1275, rv b1282, rv b1314, .unset, .unset, .unset, .unset, .unset]) rfl ?_
      refine XS.aload X1321.here hx rfl (hb hby at_125) rfl rfl ?_
      refine XS.iload X1321.here hx rfl (hb hby at_127) rfl ?_
      refine XS.iload X1321.here hx rfl (hb hby at_129) rfl ?_
      exact kt)
  have f1325 := (f1320.keep K1321 (allS ge_b1314 all0))
  have zs1327 := (Nat.le_trans zs1322 K1321.1)
  have f1328 := (A1314.keep K1321)
  obtain ⟨cq1326, kq1326, q1326a, q1326b, q1326c⟩ := isOf hZ rfl f1328
  obtain ⟨_, _, ⟨T1326, L1326, k1326, n1326⟩, -, X1326, ⟨Lc1326, hQ1326, l1326, y1326, z1326⟩, st1326⟩ := X1321.virtualBack hx (y := (⟨"com/example/brancher/brancher/service/Group", "choices", "(II)Ljava/util/BitSet;"⟩ : MethodName)) (z := (⟨"com/example/brancher/brancher/service/Group", "choices", "(II)Ljava/util/BitSet;"⟩ : MethodName)) hown (mvT hZ (W 144 rfl)) (mvT hZ (W 145 rfl)) (notFace_of_selects (args := #[]) (mvT hZ (W 147 rfl))) (mvT hZ (W 147 rfl)) (mvT hZ (W 146 rfl)) (by decide) (backOf (W := 0) (rmCH l Z a0 hw [] b1314 qm qk [.null, .null, .null, .null] [.null, .null, .null, .null] nc T1321.heap n0 zs1327 GRi1321 bqm bqk SN f1325) hZ (W 148 rfl) (W 47 rfl) (by decide) (by decide)) q1326a q1326c (g := (mkF m 131 #[iv m1, iv c1, iv m2, iv c2, iv q', iv fl, iv a1, iv k1, iv a2, iv k2, iv qm, iv qk, iv (1 : Int32), iv (1 : Int32), rv b1275, rv b1282, rv b1314, .unset, .unset, .unset, .unset, .unset] [(.int qk), (.int qm), (.ref b1314)])) rfl (by rw [hml]; rfl) (Steps.refl _) (argsL := [(.int qm), (.int qk)]) (rest := []) (lenOf pd296 rfl) rfl (by show 2 * 0 + _ ≤ _; exact Nat.le_of_eq rfl) (hb hby at_131) (fun _ _ => ⟨rfl, rfl, (by decide : 23 + 0 ≤ _), (by decide : 71 + 0 ≤ _)⟩)
  dsimp only [Pt.U, Pt.locs, Pt.cells, Pt.slots] at X1326 l1326 y1326 z1326 st1326 hQ1326
  subst l1326 y1326 z1326
  obtain ⟨rfl, Nq1326, eh1326⟩ := hQ1326
  have N1326 := Fr.app N1321 Nq1326
  have go1329 : own_S p e below ST T1326 (mkF m 134 #[iv m1, iv c1, iv m2, iv c2, iv q', iv fl, iv a1, iv k1, iv a2, iv k2, iv qm, iv qk, iv (1 : Int32), iv (1 : Int32), rv b1275, rv b1282, rv b1314, .unset, .unset, .unset, .unset, .unset] [(own_or nc ((if qm = 0 then [.null, .null, .null, .null] else [.null, .null, .null, .null]).getD (qk).toNatClampNeg .null))]) := fun tt kt => go1324 tt (st1326.trans kt)
  have e_1 : own_or nc ((if qm = 0 then ([.null, .null, .null, .null] : List Value) else [.null, .null, .null, .null]).getD (qk).toNatClampNeg .null) = .ref nc := own_orn nc (own_nn qm qk bqk)
  obtain ⟨vo1, hvo1⟩ : ∃ z : Value, z = (own_or nc ((if qm = 0 then [.null, .null, .null, .null] else [.null, .null, .null, .null]).getD (qk).toNatClampNeg .null)) := ⟨_, rfl⟩
  rw [← hvo1] at go1329
  replace e_1 := hvo1.trans e_1
  obtain ⟨T1330, X1330, e1330, st1330⟩ := getS2 X1326 hx hZ hown (host := "") (Or.inl (W 151 rfl)) Via.refl eh1326 (SN.ext f1325.2) (g := (mkF m 134 #[iv m1, iv c1, iv m2, iv c2, iv q', iv fl, iv a1, iv k1, iv a2, iv k2, iv qm, iv qk, iv (1 : Int32), iv (1 : Int32), rv b1275, rv b1282, rv b1314, .unset, .unset, .unset, .unset, .unset] [vo1])) rfl (hb hby at_134)
  have go1331 : own_S p e below ST T1330 (mkF m 137 #[iv m1, iv c1, iv m2, iv c2, iv q', iv fl, iv a1, iv k1, iv a2, iv k2, iv qm, iv qk, iv (1 : Int32), iv (1 : Int32), rv b1275, rv b1282, rv b1314, .unset, .unset, .unset, .unset, .unset] [(.ref nc), vo1]) := fun tt kt => go1329 tt (st1330 _ kt)
  have go1332 : own_S p e below ST T1330 (mkF m 156 #[iv m1, iv c1, iv m2, iv c2, iv q', iv fl, iv a1, iv k1, iv a2, iv k2, iv qm, iv qk, iv (1 : Int32), iv (1 : Int32), rv b1275, rv b1282, rv b1314, iv (1 : Int32), .unset, .unset, .unset, .unset] [(.int (4 : Int32)), (.ref b1275), (.int k1), (.int a1), (.ref b1314)]) := fun tt kt => go1331 tt (by
      refine Jvm.RoadKit.acmp (g := (mkF m 137 #[iv m1, iv c1, iv m2, iv c2, iv q', iv fl, iv a1, iv k1, iv a2, iv k2, iv qm, iv qk, iv (1 : Int32), iv (1 : Int32), rv b1275, rv b1282, rv b1314, .unset, .unset, .unset, .unset, .unset] [(.ref nc), vo1])) X1330 hx rfl (by rw [e_1]; rfl) rfl (pc0 := 137) (pc' := 140) (same := true) rfl (hb hby at_137) rfl (decide_eq_true e_1) (by decide) (by decide) ?_
      refine XS.iconst X1330.here hx rfl (hb hby at_140) ?_
      refine XS.goto X1330.here hx rfl (pc0 := 141) (pc' := 145) rfl (hb hby at_141) (by decide) (by decide) ?_
      refine XS.istore X1330.here hx rfl (hb hby at_145) rfl (l' := #[iv m1, iv c1, iv m2, iv c2, iv q', iv fl, iv a1, iv k1, iv a2, iv k2, iv qm, iv qk, iv (1 : Int32), iv (1 : Int32), rv b1275, rv b1282, rv b1314, iv (1 : Int32), .unset, .unset, .unset, .unset]) rfl ?_
      refine XS.aload X1330.here hx rfl (hb hby at_147) rfl rfl ?_
      refine XS.iload X1330.here hx rfl (hb hby at_149) rfl ?_
      show Steps p.tables e below (T1330.setTop (mkF m 151 #[iv m1, iv c1, iv m2, iv c2, iv q', iv fl, iv a1, iv k1, iv a2, iv k2, iv qm, iv qk, iv (1 : Int32), iv (1 : Int32), rv b1275, rv b1282, rv b1314, iv (1 : Int32), .unset, .unset, .unset, .unset] [(.int a1), (.ref b1314)])) _
      refine XS.iload X1330.here hx rfl (hb hby at_151) rfl ?_
      refine XS.aload X1330.here hx rfl (hb hby at_153) rfl rfl ?_
      refine XS.iconst X1330.here hx rfl (hb hby at_155) ?_
      exact kt)
  obtain ⟨M0_1, hM0_1⟩ : ∃ z : List Value, z = if a1 = 0 then ([.null, .null, .null, .null] : List Value).set (k1).toNatClampNeg (.ref b1275) else [.null, .null, .null, .null] := ⟨_, rfl⟩
  obtain ⟨M1_1, hM1_1⟩ : ∃ z : List Value, z = if a1 = 0 then ([.null, .null, .null, .null] : List Value) else ([.null, .null, .null, .null] : List Value).set (k1).toNatClampNeg (.ref b1275) := ⟨_, rfl⟩
  have f1333 := ((Fu1311.ext E1314).keep K1321 (ninS neb1282_b1314 nin0))
  have f1334 := ((f1316.ext E1314).keep K1321)
  have f1335 := ((f1315.ext E1314).keep K1321)
  have f1336 := (((Fu1300.keep K1311 (ninS neb1275_b1282 (ninS neb1275_b1289 nin0))).ext E1314).keep K1321 (ninS neb1275_b1314 nin0))
  obtain ⟨cq1337, kq1337, q1337a, q1337b, q1337c⟩ := isOf hZ e1330 f1328
  obtain ⟨_, _, ⟨T1337, L1337, k1337, n1337⟩, -, X1337, ⟨Lc1337, hQ1337, l1337, y1337, z1337⟩, st1337⟩ := X1330.virtualBack hx (y := (⟨"com/example/brancher/brancher/service/Group", "rest", "(IILjava/util/BitSet;I)V"⟩ : MethodName)) (z := (⟨"com/example/brancher/brancher/service/Group", "rest", "(IILjava/util/BitSet;I)V"⟩ : MethodName)) hown (mvT hZ (W 152 rfl)) (mvT hZ (W 153 rfl)) (notFace_of_selects (args := #[]) (mvT hZ (W 155 rfl))) (mvT hZ (W 155 rfl)) (mvT hZ (W 154 rfl)) (by decide) (backOf (W := 0) (rmRS1 l Z a0 hw [] b1314 b1275 b1282 a1 k1 [.null, .null, .null, .null] [.null, .null, .null, .null] _ M0_1 M1_1 T1321.heap n0 zs1327 GRi1321 ba1 bk1 f1325 f1328 f1335 f1336 f1334 f1333 hM0_1 hM1_1) hZ (W 156 rfl) (W 47 rfl) (by decide) (by decide)) q1337a q1337c (g := (mkF m 156 #[iv m1, iv c1, iv m2, iv c2, iv q', iv fl, iv a1, iv k1, iv a2, iv k2, iv qm, iv qk, iv (1 : Int32), iv (1 : Int32), rv b1275, rv b1282, rv b1314, iv (1 : Int32), .unset, .unset, .unset, .unset] [(.int (4 : Int32)), (.ref b1275), (.int k1), (.int a1), (.ref b1314)])) rfl (by rw [hml]; rfl) (Steps.refl _) (argsL := [(.int a1), (.int k1), (.ref b1275), (.int (4 : Int32))]) (rest := []) (lenOf pd297 rfl) rfl (by show 2 * 0 + _ ≤ _; exact Nat.le_of_eq rfl) (hb hby at_156) (fun _ _ => ⟨rfl, e1330, (by decide : 23 + 1 ≤ _), (by decide : 71 + 4 ≤ _)⟩)
  dsimp only [Pt.U, Pt.locs, Pt.cells, Pt.slots] at X1337 l1337 y1337 z1337 st1337 hQ1337
  subst l1337 y1337 z1337
  obtain ⟨rfl, Nq1337, Or1337, GRr1337, Ex1337, Fx1337, Eg1337, sz1337⟩ := hQ1337
  have N1337 := Fr.app N1326 Nq1337
  have go1338 : own_S p e below ST T1337 (mkF m 159 #[iv m1, iv c1, iv m2, iv c2, iv q', iv fl, iv a1, iv k1, iv a2, iv k2, iv qm, iv qk, iv (1 : Int32), iv (1 : Int32), rv b1275, rv b1282, rv b1314, iv (1 : Int32), .unset, .unset, .unset, .unset] []) := fun tt kt => go1332 tt (st1337.trans kt)
  have go1339 : own_S p e below ST T1337 (mkF m 185 #[iv m1, iv c1, iv m2, iv c2, iv q', iv fl, iv a1, iv k1, iv a2, iv k2, iv qm, iv qk, iv (1 : Int32), iv (1 : Int32), rv b1275, rv b1282, rv b1314, iv (1 : Int32), rv b1275, .unset, .unset, .unset] [(.int k1), (.int a1), (.ref b1314)]) := fun tt kt => go1338 tt (by
      refine XS.iload X1337.here hx rfl (hb hby at_159) rfl ?_
      refine XS.ifNo X1337.here hx rfl (hb hby at_161) rfl ((if0 _ _).trans (feq (by decide : ¬ ((1 : Int32) = (0 : Int32)))).1) ?_
      refine XS.aload X1337.here hx rfl (hb hby at_164) rfl rfl ?_
      refine XS.goto X1337.here hx rfl (pc0 := 166) (pc' := 172) rfl (hb hby at_166) (by decide) (by decide) ?_
      refine XS.astore X1337.here hx rfl (hb hby at_172) rfl rfl (l' := #[iv m1, iv c1, iv m2, iv c2, iv q', iv fl, iv a1, iv k1, iv a2, iv k2, iv qm, iv qk, iv (1 : Int32), iv (1 : Int32), rv b1275, rv b1282, rv b1314, iv (1 : Int32), rv b1275, .unset, .unset, .unset]) rfl ?_
      refine XS.iload X1337.here hx rfl (hb hby at_174) rfl ?_
      show Steps p.tables e below (T1337.setTop (mkF m 176 #[iv m1, iv c1, iv m2, iv c2, iv q', iv fl, iv a1, iv k1, iv a2, iv k2, iv qm, iv qk, iv (1 : Int32), iv (1 : Int32), rv b1275, rv b1282, rv b1314, iv (1 : Int32), rv b1275, .unset, .unset, .unset] [(.int (1 : Int32))])) _
      refine XS.ifNo X1337.here hx rfl (hb hby at_176) rfl ((if0 _ _).trans (feq (by decide : ¬ ((1 : Int32) = (0 : Int32)))).1) ?_
      refine XS.aload X1337.here hx rfl (hb hby at_179) rfl rfl ?_
      refine XS.iload X1337.here hx rfl (hb hby at_181) rfl ?_
      refine XS.iload X1337.here hx rfl (hb hby at_183) rfl ?_
      exact kt)
  have zs1341 := (Nat.le_trans zs1327 sz1337)
  obtain ⟨cq1340, kq1340, q1340a, q1340b, q1340c⟩ := isOf hZ rfl Eg1337
  obtain ⟨_, _, ⟨T1340, L1340, k1340, n1340⟩, -, X1340, ⟨Lc1340, hQ1340, l1340, y1340, z1340⟩, st1340⟩ := X1337.virtualBack hx (y := (⟨"com/example/brancher/brancher/service/Group", "choices", "(II)Ljava/util/BitSet;"⟩ : MethodName)) (z := (⟨"com/example/brancher/brancher/service/Group", "choices", "(II)Ljava/util/BitSet;"⟩ : MethodName)) hown (mvT hZ (W 144 rfl)) (mvT hZ (W 145 rfl)) (notFace_of_selects (args := #[]) (mvT hZ (W 147 rfl))) (mvT hZ (W 147 rfl)) (mvT hZ (W 146 rfl)) (by decide) (backOf (W := 0) (rmCH l Z a0 hw [] b1314 a1 k1 M0_1 M1_1 nc T1337.heap n0 zs1341 GRr1337 ba1 bk1 SN Or1337) hZ (W 148 rfl) (W 47 rfl) (by decide) (by decide)) q1340a q1340c (g := (mkF m 185 #[iv m1, iv c1, iv m2, iv c2, iv q', iv fl, iv a1, iv k1, iv a2, iv k2, iv qm, iv qk, iv (1 : Int32), iv (1 : Int32), rv b1275, rv b1282, rv b1314, iv (1 : Int32), rv b1275, .unset, .unset, .unset] [(.int k1), (.int a1), (.ref b1314)])) rfl (by rw [hml]; rfl) (Steps.refl _) (argsL := [(.int a1), (.int k1)]) (rest := []) (lenOf pd296 rfl) rfl (by show 2 * 0 + _ ≤ _; exact Nat.le_of_eq rfl) (hb hby at_185) (fun _ _ => ⟨rfl, rfl, (by decide : 24 + 0 ≤ _), (by decide : 75 + 0 ≤ _)⟩)
  dsimp only [Pt.U, Pt.locs, Pt.cells, Pt.slots] at X1340 l1340 y1340 z1340 st1340 hQ1340
  subst l1340 y1340 z1340
  obtain ⟨rfl, Nq1340, eh1340⟩ := hQ1340
  have N1340 := Fr.app N1337 Nq1340
  have go1342 : own_S p e below ST T1340 (mkF m 188 #[iv m1, iv c1, iv m2, iv c2, iv q', iv fl, iv a1, iv k1, iv a2, iv k2, iv qm, iv qk, iv (1 : Int32), iv (1 : Int32), rv b1275, rv b1282, rv b1314, iv (1 : Int32), rv b1275, .unset, .unset, .unset] [(own_or nc ((if a1 = 0 then M0_1 else M1_1).getD (k1).toNatClampNeg .null))]) := fun tt kt => go1339 tt (st1340.trans kt)
  have s_1 : ∀ q j, (q = 0 ∨ q = 1) → (j = 0 ∨ j = 1 ∨ j = 2 ∨ j = 3) → (if q = 0 then M0_1 else M1_1).getD (Int32.toNatClampNeg j) .null = if q = a1 ∧ j = k1 then (.ref b1275) else .null := fun q j hq hj => by rw [hM0_1, hM1_1, own_sel a1 q k1 j _ _ _ ba1 hq bk1 hj rfl rfl, own_nn q j hj]
  have e_2 : own_or nc ((if a1 = 0 then M0_1 else M1_1).getD (k1).toNatClampNeg .null) = .ref b1275 := own_orr nc ((s_1 a1 k1 ba1 bk1).trans (if_pos ⟨rfl, rfl⟩))
  obtain ⟨vo2, hvo2⟩ : ∃ z : Value, z = (own_or nc ((if a1 = 0 then M0_1 else M1_1).getD (k1).toNatClampNeg .null)) := ⟨_, rfl⟩
  rw [← hvo2] at go1342
  replace e_2 := hvo2.trans e_2
  have go1343 : own_S p e below ST T1340 (mkF m 209 #[iv m1, iv c1, iv m2, iv c2, iv q', iv fl, iv a1, iv k1, iv a2, iv k2, iv qm, iv qk, iv (1 : Int32), iv (1 : Int32), rv b1275, rv b1282, rv b1314, iv (1 : Int32), rv b1275, .unset, .unset, .unset] [(.int (4 : Int32)), (.ref b1282), (.int k2), (.int a2), (.ref b1314)]) := fun tt kt => go1342 tt (by
      refine XS.aload X1340.here hx rfl (hb hby at_188) rfl rfl ?_
      refine Jvm.RoadKit.acmp (g := (mkF m 190 #[iv m1, iv c1, iv m2, iv c2, iv q', iv fl, iv a1, iv k1, iv a2, iv k2, iv qm, iv qk, iv (1 : Int32), iv (1 : Int32), rv b1275, rv b1282, rv b1314, iv (1 : Int32), rv b1275, .unset, .unset, .unset] [(.ref b1275), vo2])) X1340 hx rfl (by rw [e_2]; rfl) rfl (pc0 := 190) (pc' := 193) (same := true) rfl (hb hby at_190) rfl (decide_eq_true e_2) (by decide) (by decide) ?_
      refine XS.iconst X1340.here hx rfl (hb hby at_193) ?_
      refine XS.goto X1340.here hx rfl (pc0 := 194) (pc' := 198) rfl (hb hby at_194) (by decide) (by decide) ?_
      refine XS.istore X1340.here hx rfl (hb hby at_198) rfl (l' := #[iv m1, iv c1, iv m2, iv c2, iv q', iv fl, iv a1, iv k1, iv a2, iv k2, iv qm, iv qk, iv (1 : Int32), iv (1 : Int32), rv b1275, rv b1282, rv b1314, iv (1 : Int32), rv b1275, .unset, .unset, .unset]) rfl ?_
      refine XS.aload X1340.here hx rfl (hb hby at_200) rfl rfl ?_
      show Steps p.tables e below (T1340.setTop (mkF m 202 #[iv m1, iv c1, iv m2, iv c2, iv q', iv fl, iv a1, iv k1, iv a2, iv k2, iv qm, iv qk, iv (1 : Int32), iv (1 : Int32), rv b1275, rv b1282, rv b1314, iv (1 : Int32), rv b1275, .unset, .unset, .unset] [(.ref b1314)])) _
      refine XS.iload X1340.here hx rfl (hb hby at_202) rfl ?_
      refine XS.iload X1340.here hx rfl (hb hby at_204) rfl ?_
      refine XS.aload X1340.here hx rfl (hb hby at_206) rfl rfl ?_
      refine XS.iconst X1340.here hx rfl (hb hby at_208) ?_
      exact kt)
  obtain ⟨M0_2, hM0_2⟩ : ∃ z : List Value, z = if a2 = 0 then M0_1.set (k2).toNatClampNeg (.ref b1282) else M0_1 := ⟨_, rfl⟩
  obtain ⟨M1_2, hM1_2⟩ : ∃ z : List Value, z = if a2 = 0 then M1_1 else M1_1.set (k2).toNatClampNeg (.ref b1282) := ⟨_, rfl⟩
  obtain ⟨cq1344, kq1344, q1344a, q1344b, q1344c⟩ := isOf hZ eh1340 Eg1337
  obtain ⟨_, _, ⟨T1344, L1344, k1344, n1344⟩, -, X1344, ⟨Lc1344, hQ1344, l1344, y1344, z1344⟩, st1344⟩ := X1340.virtualBack hx (y := (⟨"com/example/brancher/brancher/service/Group", "rest", "(IILjava/util/BitSet;I)V"⟩ : MethodName)) (z := (⟨"com/example/brancher/brancher/service/Group", "rest", "(IILjava/util/BitSet;I)V"⟩ : MethodName)) hown (mvT hZ (W 152 rfl)) (mvT hZ (W 153 rfl)) (notFace_of_selects (args := #[]) (mvT hZ (W 155 rfl))) (mvT hZ (W 155 rfl)) (mvT hZ (W 154 rfl)) (by decide) (backOf (W := 0) (rmRS1 l Z a0 hw [] b1314 b1282 b1282 a2 k2 M0_1 M1_1 _ M0_2 M1_2 T1337.heap n0 zs1341 GRr1337 ba2 bk2 Or1337 Eg1337 Ex1337 Fx1337 Ex1337 Fx1337 hM0_2 hM1_2) hZ (W 156 rfl) (W 47 rfl) (by decide) (by decide)) q1344a q1344c (g := (mkF m 209 #[iv m1, iv c1, iv m2, iv c2, iv q', iv fl, iv a1, iv k1, iv a2, iv k2, iv qm, iv qk, iv (1 : Int32), iv (1 : Int32), rv b1275, rv b1282, rv b1314, iv (1 : Int32), rv b1275, .unset, .unset, .unset] [(.int (4 : Int32)), (.ref b1282), (.int k2), (.int a2), (.ref b1314)])) rfl (by rw [hml]; rfl) (Steps.refl _) (argsL := [(.int a2), (.int k2), (.ref b1282), (.int (4 : Int32))]) (rest := []) (lenOf pd297 rfl) rfl (by show 2 * 0 + _ ≤ _; exact Nat.le_of_eq rfl) (hb hby at_209) (fun _ _ => ⟨rfl, eh1340, (by decide : 24 + 1 ≤ _), (by decide : 75 + 4 ≤ _)⟩)
  dsimp only [Pt.U, Pt.locs, Pt.cells, Pt.slots] at X1344 l1344 y1344 z1344 st1344 hQ1344
  subst l1344 y1344 z1344
  obtain ⟨rfl, Nq1344, Or1344, GRr1344, Ex1344, Fx1344, Eg1344, sz1344⟩ := hQ1344
  have N1344 := Fr.app N1340 Nq1344
  have go1345 : own_S p e below ST T1344 (mkF m 212 #[iv m1, iv c1, iv m2, iv c2, iv q', iv fl, iv a1, iv k1, iv a2, iv k2, iv qm, iv qk, iv (1 : Int32), iv (1 : Int32), rv b1275, rv b1282, rv b1314, iv (1 : Int32), rv b1275, .unset, .unset, .unset] []) := fun tt kt => go1343 tt (st1344.trans kt)
  have go1346 : own_S p e below ST T1344 (mkF m 227 #[iv m1, iv c1, iv m2, iv c2, iv q', iv fl, iv a1, iv k1, iv a2, iv k2, iv qm, iv qk, iv (1 : Int32), iv (1 : Int32), rv b1275, rv b1282, rv b1314, iv (1 : Int32), rv b1275, rv b1282, .unset, .unset] []) := fun tt kt => go1345 tt (by
      refine XS.iload X1344.here hx rfl (hb hby at_212) rfl ?_
      refine XS.ifNo X1344.here hx rfl (hb hby at_214) rfl ((if0 _ _).trans (feq (by decide : ¬ ((1 : Int32) = (0 : Int32)))).1) ?_
      refine XS.aload X1344.here hx rfl (hb hby at_217) rfl rfl ?_
      refine XS.goto X1344.here hx rfl (pc0 := 219) (pc' := 225) rfl (hb hby at_219) (by decide) (by decide) ?_
      refine XS.astore X1344.here hx rfl (hb hby at_225) rfl rfl (l' := #[iv m1, iv c1, iv m2, iv c2, iv q', iv fl, iv a1, iv k1, iv a2, iv k2, iv qm, iv qk, iv (1 : Int32), iv (1 : Int32), rv b1275, rv b1282, rv b1314, iv (1 : Int32), rv b1275, rv b1282, .unset, .unset]) rfl ?_
      exact kt)
  have l_1 : M0_1.length = 4 ∧ M1_1.length = 4 := by rw [hM0_1, hM1_1]; exact ⟨(own_len4 rfl).1, (own_len4 rfl).2⟩
  have s_2 : ∀ q j, (q = 0 ∨ q = 1) → (j = 0 ∨ j = 1 ∨ j = 2 ∨ j = 3) → (if q = 0 then M0_2 else M1_2).getD (Int32.toNatClampNeg j) .null = if q = a2 ∧ j = k2 then (.ref b1282) else (if q = a1 ∧ j = k1 then (.ref b1275) else .null) := fun q j hq hj => by rw [hM0_2, hM1_2, own_sel a2 q k2 j _ _ _ ba2 hq bk2 hj l_1.1 l_1.2, s_1 q j hq hj]
  have go1347 : own_S p e below ST T1344 (mkF m 231 #[iv m1, iv c1, iv m2, iv c2, iv q', iv fl, iv a1, iv k1, iv a2, iv k2, iv qm, iv qk, iv (1 : Int32), iv (1 : Int32), rv b1275, rv b1282, rv b1314, iv (1 : Int32), rv b1275, rv b1282, .unset, .unset] [(.int a2), (.int a1)]) := fun tt kt => go1346 tt (by
      refine XS.iload X1344.here hx rfl (hb hby at_227) rfl ?_
      refine XS.iload X1344.here hx rfl (hb hby at_229) rfl ?_
      exact kt)
  obtain ⟨same, hsame, sg1348⟩ : ∃ (same : Int32), same = (if a1 = a2 then (if k1 = k2 then (1 : Int32) else (0 : Int32)) else (0 : Int32)) ∧ ∀ tt, Steps p.tables e below (T1344.setTop (mkF m 246 #[iv m1, iv c1, iv m2, iv c2, iv q', iv fl, iv a1, iv k1, iv a2, iv k2, iv qm, iv qk, iv (1 : Int32), iv (1 : Int32), rv b1275, rv b1282, rv b1314, iv (1 : Int32), rv b1275, rv b1282, .unset, .unset] [(.int same)])) tt → Steps p.tables e below (T1344.setTop (mkF m 231 #[iv m1, iv c1, iv m2, iv c2, iv q', iv fl, iv a1, iv k1, iv a2, iv k2, iv qm, iv qk, iv (1 : Int32), iv (1 : Int32), rv b1275, rv b1282, rv b1314, iv (1 : Int32), rv b1275, rv b1282, .unset, .unset] [(.int a2), (.int a1)])) tt := by
    by_cases hd231_0 : a1 = a2
    · by_cases hd238_1 : k1 = k2
      · refine ⟨_, ((if_pos hd231_0).trans (if_pos hd238_1)).symm, fun tt kt => ?_⟩
        show Steps p.tables e below (T1344.setTop (mkF m 231 #[iv m1, iv c1, iv m2, iv c2, iv q', iv fl, iv a1, iv k1, iv a2, iv k2, iv qm, iv qk, iv (1 : Int32), iv (1 : Int32), rv b1275, rv b1282, rv b1314, iv (1 : Int32), rv b1275, rv b1282, .unset, .unset] [(.int a2), (.int a1)])) _
        refine XS.icmpNo X1344.here hx rfl (hb hby at_231) rfl (teq hd231_0).2 ?_
        refine XS.iload X1344.here hx rfl (hb hby at_234) rfl ?_
        refine XS.iload X1344.here hx rfl (hb hby at_236) rfl ?_
        refine XS.icmpNo X1344.here hx rfl (hb hby at_238) rfl (teq hd238_1).2 ?_
        refine XS.iconst X1344.here hx rfl (hb hby at_241) ?_
        refine XS.goto X1344.here hx rfl (pc0 := 242) (pc' := 246) rfl (hb hby at_242) (by decide) (by decide) ?_
        exact kt
      · refine ⟨_, ((if_pos hd231_0).trans (if_neg hd238_1)).symm, fun tt kt => ?_⟩
        show Steps p.tables e below (T1344.setTop (mkF m 231 #[iv m1, iv c1, iv m2, iv c2, iv q', iv fl, iv a1, iv k1, iv a2, iv k2, iv qm, iv qk, iv (1 : Int32), iv (1 : Int32), rv b1275, rv b1282, rv b1314, iv (1 : Int32), rv b1275, rv b1282, .unset, .unset] [(.int a2), (.int a1)])) _
        refine XS.icmpNo X1344.here hx rfl (hb hby at_231) rfl (teq hd231_0).2 ?_
        refine XS.iload X1344.here hx rfl (hb hby at_234) rfl ?_
        refine XS.iload X1344.here hx rfl (hb hby at_236) rfl ?_
        refine XS.icmpYes X1344.here hx rfl (pc0 := 238) (pc' := 245) rfl (hb hby at_238) rfl (feq hd238_1).2 (by decide) (by decide) ?_
        refine XS.iconst X1344.here hx rfl (hb hby at_245) ?_
        exact kt
    · refine ⟨_, (if_neg hd231_0).symm, fun tt kt => ?_⟩
      show Steps p.tables e below (T1344.setTop (mkF m 231 #[iv m1, iv c1, iv m2, iv c2, iv q', iv fl, iv a1, iv k1, iv a2, iv k2, iv qm, iv qk, iv (1 : Int32), iv (1 : Int32), rv b1275, rv b1282, rv b1314, iv (1 : Int32), rv b1275, rv b1282, .unset, .unset] [(.int a2), (.int a1)])) _
      refine XS.icmpYes X1344.here hx rfl (pc0 := 231) (pc' := 245) rfl (hb hby at_231) rfl (feq hd231_0).2 (by decide) (by decide) ?_
      refine XS.iconst X1344.here hx rfl (hb hby at_245) ?_
      exact kt
  have go1349 : own_S p e below ST T1344 (mkF m 246 #[iv m1, iv c1, iv m2, iv c2, iv q', iv fl, iv a1, iv k1, iv a2, iv k2, iv qm, iv qk, iv (1 : Int32), iv (1 : Int32), rv b1275, rv b1282, rv b1314, iv (1 : Int32), rv b1275, rv b1282, .unset, .unset] [(.int same)]) := fun tt kt => go1347 tt (sg1348 _ kt)
  have go1350 : own_S p e below ST T1344 (mkF m 259 #[iv m1, iv c1, iv m2, iv c2, iv q', iv fl, iv a1, iv k1, iv a2, iv k2, iv qm, iv qk, iv (1 : Int32), iv (1 : Int32), rv b1275, rv b1282, rv b1314, iv (1 : Int32), rv b1275, rv b1282, iv same, .unset] [(.int k2), (.int a2), (.ref b1314)]) := fun tt kt => go1349 tt (by
      refine XS.istore X1344.here hx rfl (hb hby at_246) rfl (l' := #[iv m1, iv c1, iv m2, iv c2, iv q', iv fl, iv a1, iv k1, iv a2, iv k2, iv qm, iv qk, iv (1 : Int32), iv (1 : Int32), rv b1275, rv b1282, rv b1314, iv (1 : Int32), rv b1275, rv b1282, iv same, .unset]) rfl ?_
      refine XS.iload X1344.here hx rfl (hb hby at_248) rfl ?_
      refine XS.ifNo X1344.here hx rfl (hb hby at_250) rfl ((if0 _ _).trans (feq (by decide : ¬ ((1 : Int32) = (0 : Int32)))).1) ?_
      refine XS.aload X1344.here hx rfl (hb hby at_253) rfl rfl ?_
      refine XS.iload X1344.here hx rfl (hb hby at_255) rfl ?_
      refine XS.iload X1344.here hx rfl (hb hby at_257) rfl ?_
      exact kt)
  have zs1352 := (Nat.le_trans zs1341 sz1344)
  obtain ⟨cq1351, kq1351, q1351a, q1351b, q1351c⟩ := isOf hZ rfl Eg1344
  obtain ⟨_, _, ⟨T1351, L1351, k1351, n1351⟩, -, X1351, ⟨Lc1351, hQ1351, l1351, y1351, z1351⟩, st1351⟩ := X1344.virtualBack hx (y := (⟨"com/example/brancher/brancher/service/Group", "choices", "(II)Ljava/util/BitSet;"⟩ : MethodName)) (z := (⟨"com/example/brancher/brancher/service/Group", "choices", "(II)Ljava/util/BitSet;"⟩ : MethodName)) hown (mvT hZ (W 144 rfl)) (mvT hZ (W 145 rfl)) (notFace_of_selects (args := #[]) (mvT hZ (W 147 rfl))) (mvT hZ (W 147 rfl)) (mvT hZ (W 146 rfl)) (by decide) (backOf (W := 0) (rmCH l Z a0 hw [] b1314 a2 k2 M0_2 M1_2 nc T1344.heap n0 zs1352 GRr1344 ba2 bk2 SN Or1344) hZ (W 148 rfl) (W 47 rfl) (by decide) (by decide)) q1351a q1351c (g := (mkF m 259 #[iv m1, iv c1, iv m2, iv c2, iv q', iv fl, iv a1, iv k1, iv a2, iv k2, iv qm, iv qk, iv (1 : Int32), iv (1 : Int32), rv b1275, rv b1282, rv b1314, iv (1 : Int32), rv b1275, rv b1282, iv same, .unset] [(.int k2), (.int a2), (.ref b1314)])) rfl (by rw [hml]; rfl) (Steps.refl _) (argsL := [(.int a2), (.int k2)]) (rest := []) (lenOf pd296 rfl) rfl (by show 2 * 0 + _ ≤ _; exact Nat.le_of_eq rfl) (hb hby at_259) (fun _ _ => ⟨rfl, rfl, (by decide : 25 + 0 ≤ _), (by decide : 79 + 0 ≤ _)⟩)
  dsimp only [Pt.U, Pt.locs, Pt.cells, Pt.slots] at X1351 l1351 y1351 z1351 st1351 hQ1351
  subst l1351 y1351 z1351
  obtain ⟨rfl, Nq1351, eh1351⟩ := hQ1351
  have N1351 := Fr.app N1344 Nq1351
  have go1353 : own_S p e below ST T1351 (mkF m 262 #[iv m1, iv c1, iv m2, iv c2, iv q', iv fl, iv a1, iv k1, iv a2, iv k2, iv qm, iv qk, iv (1 : Int32), iv (1 : Int32), rv b1275, rv b1282, rv b1314, iv (1 : Int32), rv b1275, rv b1282, iv same, .unset] [(own_or nc ((if a2 = 0 then M0_2 else M1_2).getD (k2).toNatClampNeg .null))]) := fun tt kt => go1350 tt (st1351.trans kt)
  have e_3 : own_or nc ((if a2 = 0 then M0_2 else M1_2).getD (k2).toNatClampNeg .null) = .ref b1282 := own_orr nc ((s_2 a2 k2 ba2 bk2).trans (if_pos ⟨rfl, rfl⟩))
  obtain ⟨vo3, hvo3⟩ : ∃ z : Value, z = (own_or nc ((if a2 = 0 then M0_2 else M1_2).getD (k2).toNatClampNeg .null)) := ⟨_, rfl⟩
  rw [← hvo3] at go1353
  replace e_3 := hvo3.trans e_3
  have go1354 : own_S p e below ST T1351 (mkF m 285 #[iv m1, iv c1, iv m2, iv c2, iv q', iv fl, iv a1, iv k1, iv a2, iv k2, iv qm, iv qk, iv (1 : Int32), iv (1 : Int32), rv b1275, rv b1282, rv b1314, iv (1 : Int32), rv b1275, rv b1282, iv same, .unset] [(.int k1), (.int a1), (.ref b1314)]) := fun tt kt => go1353 tt (by
      refine XS.aload X1351.here hx rfl (hb hby at_262) rfl rfl ?_
      refine Jvm.RoadKit.acmp (g := (mkF m 264 #[iv m1, iv c1, iv m2, iv c2, iv q', iv fl, iv a1, iv k1, iv a2, iv k2, iv qm, iv qk, iv (1 : Int32), iv (1 : Int32), rv b1275, rv b1282, rv b1314, iv (1 : Int32), rv b1275, rv b1282, iv same, .unset] [(.ref b1282), vo3])) X1351 hx rfl (by rw [e_3]; rfl) rfl (pc0 := 264) (pc' := 267) (same := true) rfl (hb hby at_264) rfl (decide_eq_true e_3) (by decide) (by decide) ?_
      refine XS.iconst X1351.here hx rfl (hb hby at_267) ?_
      refine XS.goto X1351.here hx rfl (pc0 := 268) (pc' := 272) rfl (hb hby at_268) (by decide) (by decide) ?_
      refine XS.istore X1351.here hx rfl (hb hby at_272) rfl (l' := #[iv m1, iv c1, iv m2, iv c2, iv q', iv fl, iv a1, iv k1, iv a2, iv k2, iv qm, iv qk, iv (1 : Int32), iv (1 : Int32), rv b1275, rv b1282, rv b1314, iv (1 : Int32), rv b1275, rv b1282, iv same, .unset]) rfl ?_
      refine XS.iload X1351.here hx rfl (hb hby at_274) rfl ?_
      show Steps p.tables e below (T1351.setTop (mkF m 276 #[iv m1, iv c1, iv m2, iv c2, iv q', iv fl, iv a1, iv k1, iv a2, iv k2, iv qm, iv qk, iv (1 : Int32), iv (1 : Int32), rv b1275, rv b1282, rv b1314, iv (1 : Int32), rv b1275, rv b1282, iv same, .unset] [(.int (1 : Int32))])) _
      refine XS.ifNo X1351.here hx rfl (hb hby at_276) rfl ((if0 _ _).trans (feq (by decide : ¬ ((1 : Int32) = (0 : Int32)))).1) ?_
      refine XS.aload X1351.here hx rfl (hb hby at_279) rfl rfl ?_
      refine XS.iload X1351.here hx rfl (hb hby at_281) rfl ?_
      refine XS.iload X1351.here hx rfl (hb hby at_283) rfl ?_
      exact kt)
  obtain ⟨cq1355, kq1355, q1355a, q1355b, q1355c⟩ := isOf hZ eh1351 Eg1344
  obtain ⟨_, _, ⟨T1355, L1355, k1355, n1355⟩, -, X1355, ⟨Lc1355, hQ1355, l1355, y1355, z1355⟩, st1355⟩ := X1351.virtualBack hx (y := (⟨"com/example/brancher/brancher/service/Group", "choices", "(II)Ljava/util/BitSet;"⟩ : MethodName)) (z := (⟨"com/example/brancher/brancher/service/Group", "choices", "(II)Ljava/util/BitSet;"⟩ : MethodName)) hown (mvT hZ (W 144 rfl)) (mvT hZ (W 145 rfl)) (notFace_of_selects (args := #[]) (mvT hZ (W 147 rfl))) (mvT hZ (W 147 rfl)) (mvT hZ (W 146 rfl)) (by decide) (backOf (W := 0) (rmCH l Z a0 hw [] b1314 a1 k1 M0_2 M1_2 nc T1344.heap n0 zs1352 GRr1344 ba1 bk1 SN Or1344) hZ (W 148 rfl) (W 47 rfl) (by decide) (by decide)) q1355a q1355c (g := (mkF m 285 #[iv m1, iv c1, iv m2, iv c2, iv q', iv fl, iv a1, iv k1, iv a2, iv k2, iv qm, iv qk, iv (1 : Int32), iv (1 : Int32), rv b1275, rv b1282, rv b1314, iv (1 : Int32), rv b1275, rv b1282, iv same, .unset] [(.int k1), (.int a1), (.ref b1314)])) rfl (by rw [hml]; rfl) (Steps.refl _) (argsL := [(.int a1), (.int k1)]) (rest := []) (lenOf pd296 rfl) rfl (by show 2 * 0 + _ ≤ _; exact Nat.le_of_eq rfl) (hb hby at_285) (fun _ _ => ⟨rfl, eh1351, (by decide : 25 + 0 ≤ _), (by decide : 79 + 0 ≤ _)⟩)
  dsimp only [Pt.U, Pt.locs, Pt.cells, Pt.slots] at X1355 l1355 y1355 z1355 st1355 hQ1355
  subst l1355 y1355 z1355
  obtain ⟨rfl, Nq1355, eh1355⟩ := hQ1355
  have N1355 := Fr.app N1351 Nq1355
  have go1356 : own_S p e below ST T1355 (mkF m 288 #[iv m1, iv c1, iv m2, iv c2, iv q', iv fl, iv a1, iv k1, iv a2, iv k2, iv qm, iv qk, iv (1 : Int32), iv (1 : Int32), rv b1275, rv b1282, rv b1314, iv (1 : Int32), rv b1275, rv b1282, iv same, .unset] [(own_or nc ((if a1 = 0 then M0_2 else M1_2).getD (k1).toNatClampNeg .null))]) := fun tt kt => go1354 tt (st1355.trans kt)
  have e_4 : own_or nc ((if a1 = 0 then M0_2 else M1_2).getD (k1).toNatClampNeg .null) = .ref (if same = (0 : Int32) then b1275 else b1282) := by
    rw [s_2 a1 k1 ba1 bk1, hsame]
    by_cases y1 : a1 = a2 <;> by_cases y2 : k1 = k2 <;> simp [y1, y2, own_or]
  obtain ⟨vo4, hvo4⟩ : ∃ z : Value, z = (own_or nc ((if a1 = 0 then M0_2 else M1_2).getD (k1).toNatClampNeg .null)) := ⟨_, rfl⟩
  rw [← hvo4] at go1356
  replace e_4 := hvo4.trans e_4
  have go1357 : own_S p e below ST T1355 (mkF m 290 #[iv m1, iv c1, iv m2, iv c2, iv q', iv fl, iv a1, iv k1, iv a2, iv k2, iv qm, iv qk, iv (1 : Int32), iv (1 : Int32), rv b1275, rv b1282, rv b1314, iv (1 : Int32), rv b1275, rv b1282, iv same, .unset] [(.int same), vo4]) := fun tt kt => go1356 tt (by
      refine XS.iload X1355.here hx rfl (hb hby at_288) rfl ?_
      exact kt)
  obtain ⟨sl, hsl, sg1358⟩ : ∃ (sl : Addr), sl = (if same = (0 : Int32) then b1275 else b1282) ∧ ∀ tt, Steps p.tables e below (T1355.setTop (mkF m 300 #[iv m1, iv c1, iv m2, iv c2, iv q', iv fl, iv a1, iv k1, iv a2, iv k2, iv qm, iv qk, iv (1 : Int32), iv (1 : Int32), rv b1275, rv b1282, rv b1314, iv (1 : Int32), rv b1275, rv b1282, iv same, .unset] [(.ref sl), vo4])) tt → Steps p.tables e below (T1355.setTop (mkF m 290 #[iv m1, iv c1, iv m2, iv c2, iv q', iv fl, iv a1, iv k1, iv a2, iv k2, iv qm, iv qk, iv (1 : Int32), iv (1 : Int32), rv b1275, rv b1282, rv b1314, iv (1 : Int32), rv b1275, rv b1282, iv same, .unset] [(.int same), vo4])) tt := by
    by_cases hd290_0 : same = (0 : Int32)
    · refine ⟨_, (if_pos hd290_0).symm, fun tt kt => ?_⟩
      show Steps p.tables e below (T1355.setTop (mkF m 290 #[iv m1, iv c1, iv m2, iv c2, iv q', iv fl, iv a1, iv k1, iv a2, iv k2, iv qm, iv qk, iv (1 : Int32), iv (1 : Int32), rv b1275, rv b1282, rv b1314, iv (1 : Int32), rv b1275, rv b1282, iv same, .unset] [(.int same), vo4])) _
      refine XS.ifYes X1355.here hx rfl (pc0 := 290) (pc' := 298) rfl (hb hby at_290) rfl ((if0 _ _).trans (teq hd290_0).1) (by decide) (by decide) ?_
      refine XS.aload X1355.here hx rfl (hb hby at_298) rfl rfl ?_
      exact kt
    · refine ⟨_, (if_neg hd290_0).symm, fun tt kt => ?_⟩
      show Steps p.tables e below (T1355.setTop (mkF m 290 #[iv m1, iv c1, iv m2, iv c2, iv q', iv fl, iv a1, iv k1, iv a2, iv k2, iv qm, iv qk, iv (1 : Int32), iv (1 : Int32), rv b1275, rv b1282, rv b1314, iv (1 : Int32), rv b1275, rv b1282, iv same, .unset] [(.int same), vo4])) _
      refine XS.ifNo X1355.here hx rfl (hb hby at_290) rfl ((if0 _ _).trans (feq hd290_0).1) ?_
      refine XS.aload X1355.here hx rfl (hb hby at_293) rfl rfl ?_
      refine XS.goto X1355.here hx rfl (pc0 := 295) (pc' := 300) rfl (hb hby at_295) (by decide) (by decide) ?_
      exact kt
  have go1359 : own_S p e below ST T1355 (mkF m 300 #[iv m1, iv c1, iv m2, iv c2, iv q', iv fl, iv a1, iv k1, iv a2, iv k2, iv qm, iv qk, iv (1 : Int32), iv (1 : Int32), rv b1275, rv b1282, rv b1314, iv (1 : Int32), rv b1275, rv b1282, iv same, .unset] [(.ref sl), vo4]) := fun tt kt => go1357 tt (sg1358 _ kt)
  rw [← hsl] at e_4
  have go1360 : own_S p e below ST T1355 (mkF m 314 #[iv m1, iv c1, iv m2, iv c2, iv q', iv fl, iv a1, iv k1, iv a2, iv k2, iv qm, iv qk, iv (1 : Int32), iv (1 : Int32), rv b1275, rv b1282, rv b1314, iv (1 : Int32), rv b1275, rv b1282, iv same, .unset] [(.int a2), (.int qm)]) := fun tt kt => go1359 tt (by
      refine Jvm.RoadKit.acmp (g := (mkF m 300 #[iv m1, iv c1, iv m2, iv c2, iv q', iv fl, iv a1, iv k1, iv a2, iv k2, iv qm, iv qk, iv (1 : Int32), iv (1 : Int32), rv b1275, rv b1282, rv b1314, iv (1 : Int32), rv b1275, rv b1282, iv same, .unset] [(.ref sl), vo4])) X1355 hx rfl (by rw [e_4]; rfl) rfl (pc0 := 300) (pc' := 303) (same := true) rfl (hb hby at_300) rfl (decide_eq_true e_4) (by decide) (by decide) ?_
      refine XS.iconst X1355.here hx rfl (hb hby at_303) ?_
      refine XS.goto X1355.here hx rfl (pc0 := 304) (pc' := 308) rfl (hb hby at_304) (by decide) (by decide) ?_
      refine XS.istore X1355.here hx rfl (hb hby at_308) rfl (l' := #[iv m1, iv c1, iv m2, iv c2, iv q', iv fl, iv a1, iv k1, iv a2, iv k2, iv qm, iv qk, iv (1 : Int32), iv (1 : Int32), rv b1275, rv b1282, rv b1314, iv (1 : Int32), rv b1275, rv b1282, iv same, .unset]) rfl ?_
      refine XS.iload X1355.here hx rfl (hb hby at_310) rfl ?_
      refine XS.iload X1355.here hx rfl (hb hby at_312) rfl ?_
      exact kt)
  by_cases hz314 : qm = a2
  · have go1361 : own_S p e below ST T1355 (mkF m 317 #[iv m1, iv c1, iv m2, iv c2, iv q', iv fl, iv a1, iv k1, iv a2, iv k2, iv qm, iv qk, iv (1 : Int32), iv (1 : Int32), rv b1275, rv b1282, rv b1314, iv (1 : Int32), rv b1275, rv b1282, iv same, .unset] []) := fun tt kt => go1360 tt (by
        refine XS.icmpNo X1355.here hx rfl (hb hby at_314) rfl (teq hz314).2 ?_
        exact kt)
    have go1362 : own_S p e below ST T1355 (mkF m 321 #[iv m1, iv c1, iv m2, iv c2, iv q', iv fl, iv a1, iv k1, iv a2, iv k2, iv qm, iv qk, iv (1 : Int32), iv (1 : Int32), rv b1275, rv b1282, rv b1314, iv (1 : Int32), rv b1275, rv b1282, iv same, .unset] [(.int k2), (.int qk)]) := fun tt kt => go1361 tt (by
        refine XS.iload X1355.here hx rfl (hb hby at_317) rfl ?_
        refine XS.iload X1355.here hx rfl (hb hby at_319) rfl ?_
        exact kt)
    by_cases hz321 : qk = k2
    · have go1363 : own_S p e below ST T1355 (mkF m 324 #[iv m1, iv c1, iv m2, iv c2, iv q', iv fl, iv a1, iv k1, iv a2, iv k2, iv qm, iv qk, iv (1 : Int32), iv (1 : Int32), rv b1275, rv b1282, rv b1314, iv (1 : Int32), rv b1275, rv b1282, iv same, .unset] []) := fun tt kt => go1362 tt (by
          refine XS.icmpNo X1355.here hx rfl (hb hby at_321) rfl (teq hz321).2 ?_
          exact kt)
      have go1364 : own_S p e below ST T1355 (mkF m 368 #[iv m1, iv c1, iv m2, iv c2, iv q', iv fl, iv a1, iv k1, iv a2, iv k2, iv qm, iv qk, iv (1 : Int32), iv (1 : Int32), rv b1275, rv b1282, rv b1314, iv (1 : Int32), rv b1275, rv b1282, iv same, rv b1282] [(.int qk), (.int qm), (.ref b1314)]) := fun tt kt => go1363 tt (by
          refine XS.aload X1355.here hx rfl (hb hby at_324) rfl rfl ?_
          refine XS.astore X1355.here hx rfl (hb hby at_326) rfl rfl (l' := #[iv m1, iv c1, iv m2, iv c2, iv q', iv fl, iv a1, iv k1, iv a2, iv k2, iv qm, iv qk, iv (1 : Int32), iv (1 : Int32), rv b1275, rv b1282, rv b1314, iv (1 : Int32), rv b1275, rv b1282, iv same, rv b1282]) rfl ?_
          refine XS.goto X1355.here hx rfl (pc0 := 328) (pc' := 357) rfl (hb hby at_328) (by decide) (by decide) ?_
          refine XS.iload X1355.here hx rfl (hb hby at_357) rfl ?_
          refine XS.ifNo X1355.here hx rfl (hb hby at_359) rfl ((if0 _ _).trans (feq (by decide : ¬ ((1 : Int32) = (0 : Int32)))).1) ?_
          refine XS.aload X1355.here hx rfl (hb hby at_362) rfl rfl ?_
          show Steps p.tables e below (T1355.setTop (mkF m 364 #[iv m1, iv c1, iv m2, iv c2, iv q', iv fl, iv a1, iv k1, iv a2, iv k2, iv qm, iv qk, iv (1 : Int32), iv (1 : Int32), rv b1275, rv b1282, rv b1314, iv (1 : Int32), rv b1275, rv b1282, iv same, rv b1282] [(.ref b1314)])) _
          refine XS.iload X1355.here hx rfl (hb hby at_364) rfl ?_
          refine XS.iload X1355.here hx rfl (hb hby at_366) rfl ?_
          exact kt)
      obtain ⟨cq1365, kq1365, q1365a, q1365b, q1365c⟩ := isOf hZ eh1355 Eg1344
      obtain ⟨_, _, ⟨T1365, L1365, k1365, n1365⟩, -, X1365, ⟨Lc1365, hQ1365, l1365, y1365, z1365⟩, st1365⟩ := X1355.virtualBack hx (y := (⟨"com/example/brancher/brancher/service/Group", "choices", "(II)Ljava/util/BitSet;"⟩ : MethodName)) (z := (⟨"com/example/brancher/brancher/service/Group", "choices", "(II)Ljava/util/BitSet;"⟩ : MethodName)) hown (mvT hZ (W 144 rfl)) (mvT hZ (W 145 rfl)) (notFace_of_selects (args := #[]) (mvT hZ (W 147 rfl))) (mvT hZ (W 147 rfl)) (mvT hZ (W 146 rfl)) (by decide) (backOf (W := 0) (rmCH l Z a0 hw [] b1314 qm qk M0_2 M1_2 nc T1344.heap n0 zs1352 GRr1344 bqm bqk SN Or1344) hZ (W 148 rfl) (W 47 rfl) (by decide) (by decide)) q1365a q1365c (g := (mkF m 368 #[iv m1, iv c1, iv m2, iv c2, iv q', iv fl, iv a1, iv k1, iv a2, iv k2, iv qm, iv qk, iv (1 : Int32), iv (1 : Int32), rv b1275, rv b1282, rv b1314, iv (1 : Int32), rv b1275, rv b1282, iv same, rv b1282] [(.int qk), (.int qm), (.ref b1314)])) rfl (by rw [hml]; rfl) (Steps.refl _) (argsL := [(.int qm), (.int qk)]) (rest := []) (lenOf pd296 rfl) rfl (by show 2 * 0 + _ ≤ _; exact Nat.le_of_eq rfl) (hb hby at_368) (fun _ _ => ⟨rfl, eh1355, (by decide : 25 + 0 ≤ _), (by decide : 79 + 0 ≤ _)⟩)
      dsimp only [Pt.U, Pt.locs, Pt.cells, Pt.slots] at X1365 l1365 y1365 z1365 st1365 hQ1365
      subst l1365 y1365 z1365
      obtain ⟨rfl, Nq1365, eh1365⟩ := hQ1365
      have N1365 := Fr.app N1355 Nq1365
      have go1366 : own_S p e below ST T1365 (mkF m 371 #[iv m1, iv c1, iv m2, iv c2, iv q', iv fl, iv a1, iv k1, iv a2, iv k2, iv qm, iv qk, iv (1 : Int32), iv (1 : Int32), rv b1275, rv b1282, rv b1314, iv (1 : Int32), rv b1275, rv b1282, iv same, rv b1282] [(own_or nc ((if qm = 0 then M0_2 else M1_2).getD (qk).toNatClampNeg .null))]) := fun tt kt => go1364 tt (st1365.trans kt)
      have e_5 : own_or nc ((if qm = 0 then M0_2 else M1_2).getD (qk).toNatClampNeg .null) = .ref b1282 := own_orr nc ((s_2 qm qk bqm bqk).trans (if_pos ⟨hz314, hz321⟩))
      obtain ⟨vo5, hvo5⟩ : ∃ z : Value, z = (own_or nc ((if qm = 0 then M0_2 else M1_2).getD (qk).toNatClampNeg .null)) := ⟨_, rfl⟩
      rw [← hvo5] at go1366
      replace e_5 := hvo5.trans e_5
      have go1367 : own_S p e below ST T1365 (mkF m 385 #[iv m1, iv c1, iv m2, iv c2, iv q', iv fl, iv a1, iv k1, iv a2, iv k2, iv qm, iv qk, iv (1 : Int32), iv (1 : Int32), rv b1275, rv b1282, rv b1314, iv (1 : Int32), rv b1275, rv b1282, iv same, rv b1282] [(.int (1 : Int32))]) := fun tt kt => go1366 tt (by
          refine XS.aload X1365.here hx rfl (hb hby at_371) rfl rfl ?_
          refine Jvm.RoadKit.acmp (g := (mkF m 373 #[iv m1, iv c1, iv m2, iv c2, iv q', iv fl, iv a1, iv k1, iv a2, iv k2, iv qm, iv qk, iv (1 : Int32), iv (1 : Int32), rv b1275, rv b1282, rv b1314, iv (1 : Int32), rv b1275, rv b1282, iv same, rv b1282] [(.ref b1282), vo5])) X1365 hx rfl (by rw [e_5]; rfl) rfl (pc0 := 373) (pc' := 376) (same := true) rfl (hb hby at_373) rfl (decide_eq_true e_5) (by decide) (by decide) ?_
          refine XS.iconst X1365.here hx rfl (hb hby at_376) ?_
          refine XS.goto X1365.here hx rfl (pc0 := 377) (pc' := 381) rfl (hb hby at_377) (by decide) (by decide) ?_
          refine XS.istore X1365.here hx rfl (hb hby at_381) rfl (l' := #[iv m1, iv c1, iv m2, iv c2, iv q', iv fl, iv a1, iv k1, iv a2, iv k2, iv qm, iv qk, iv (1 : Int32), iv (1 : Int32), rv b1275, rv b1282, rv b1314, iv (1 : Int32), rv b1275, rv b1282, iv same, rv b1282]) rfl ?_
          refine XS.iload X1365.here hx rfl (hb hby at_383) rfl ?_
          exact kt)
      obtain ⟨fs, hr, hrun, hended, hW, hsame⟩ := X1365.leave (v := some (.int (1 : Int32))) (fun h => by rw [Bd.returns] at h; cases h) (hlocks := by first | exact BodyLoose.notSynchronized Bd | exact Body.notSynchronized Bd)
      refine ⟨_, _, pre0 _ (go1367 _ ?_), hrun, hended, _, _, rfl, ?_, ⟨_, rfl⟩, hW, hsame.mono (by decide) (by decide)⟩
      · exact retN X1365 hx (t := .boolean) Bd.returns (by simp) (hb hby at_385) hr
      · show Q0n11 Z m1 c1 m2 c2 q' fl ad kd nc h0 n0 _ T1365.heap _
        rw [eh1365]
        exact ⟨rfl, N1365⟩
    · have go1368 : own_S p e below ST T1355 (mkF m 331 #[iv m1, iv c1, iv m2, iv c2, iv q', iv fl, iv a1, iv k1, iv a2, iv k2, iv qm, iv qk, iv (1 : Int32), iv (1 : Int32), rv b1275, rv b1282, rv b1314, iv (1 : Int32), rv b1275, rv b1282, iv same, .unset] []) := fun tt kt => go1362 tt (by
          refine XS.icmpYes X1355.here hx rfl (pc0 := 321) (pc' := 331) rfl (hb hby at_321) rfl (feq hz321).2 (by decide) (by decide) ?_
          exact kt)
      have go1369 : own_S p e below ST T1355 (mkF m 335 #[iv m1, iv c1, iv m2, iv c2, iv q', iv fl, iv a1, iv k1, iv a2, iv k2, iv qm, iv qk, iv (1 : Int32), iv (1 : Int32), rv b1275, rv b1282, rv b1314, iv (1 : Int32), rv b1275, rv b1282, iv same, .unset] [(.int a1), (.int qm)]) := fun tt kt => go1368 tt (by
          refine XS.iload X1355.here hx rfl (hb hby at_331) rfl ?_
          refine XS.iload X1355.here hx rfl (hb hby at_333) rfl ?_
          exact kt)
      by_cases hz335 : qm = a1
      · have go1370 : own_S p e below ST T1355 (mkF m 338 #[iv m1, iv c1, iv m2, iv c2, iv q', iv fl, iv a1, iv k1, iv a2, iv k2, iv qm, iv qk, iv (1 : Int32), iv (1 : Int32), rv b1275, rv b1282, rv b1314, iv (1 : Int32), rv b1275, rv b1282, iv same, .unset] []) := fun tt kt => go1369 tt (by
            refine XS.icmpNo X1355.here hx rfl (hb hby at_335) rfl (teq hz335).2 ?_
            exact kt)
        have go1371 : own_S p e below ST T1355 (mkF m 342 #[iv m1, iv c1, iv m2, iv c2, iv q', iv fl, iv a1, iv k1, iv a2, iv k2, iv qm, iv qk, iv (1 : Int32), iv (1 : Int32), rv b1275, rv b1282, rv b1314, iv (1 : Int32), rv b1275, rv b1282, iv same, .unset] [(.int k1), (.int qk)]) := fun tt kt => go1370 tt (by
            refine XS.iload X1355.here hx rfl (hb hby at_338) rfl ?_
            refine XS.iload X1355.here hx rfl (hb hby at_340) rfl ?_
            exact kt)
        by_cases hz342 : qk = k1
        · have go1372 : own_S p e below ST T1355 (mkF m 345 #[iv m1, iv c1, iv m2, iv c2, iv q', iv fl, iv a1, iv k1, iv a2, iv k2, iv qm, iv qk, iv (1 : Int32), iv (1 : Int32), rv b1275, rv b1282, rv b1314, iv (1 : Int32), rv b1275, rv b1282, iv same, .unset] []) := fun tt kt => go1371 tt (by
              refine XS.icmpNo X1355.here hx rfl (hb hby at_342) rfl (teq hz342).2 ?_
              exact kt)
          have go1373 : own_S p e below ST T1355 (mkF m 368 #[iv m1, iv c1, iv m2, iv c2, iv q', iv fl, iv a1, iv k1, iv a2, iv k2, iv qm, iv qk, iv (1 : Int32), iv (1 : Int32), rv b1275, rv b1282, rv b1314, iv (1 : Int32), rv b1275, rv b1282, iv same, rv b1275] [(.int qk), (.int qm), (.ref b1314)]) := fun tt kt => go1372 tt (by
              refine XS.aload X1355.here hx rfl (hb hby at_345) rfl rfl ?_
              refine XS.astore X1355.here hx rfl (hb hby at_347) rfl rfl (l' := #[iv m1, iv c1, iv m2, iv c2, iv q', iv fl, iv a1, iv k1, iv a2, iv k2, iv qm, iv qk, iv (1 : Int32), iv (1 : Int32), rv b1275, rv b1282, rv b1314, iv (1 : Int32), rv b1275, rv b1282, iv same, rv b1275]) rfl ?_
              refine XS.goto X1355.here hx rfl (pc0 := 349) (pc' := 357) rfl (hb hby at_349) (by decide) (by decide) ?_
              refine XS.iload X1355.here hx rfl (hb hby at_357) rfl ?_
              refine XS.ifNo X1355.here hx rfl (hb hby at_359) rfl ((if0 _ _).trans (feq (by decide : ¬ ((1 : Int32) = (0 : Int32)))).1) ?_
              refine XS.aload X1355.here hx rfl (hb hby at_362) rfl rfl ?_
              show Steps p.tables e below (T1355.setTop (mkF m 364 #[iv m1, iv c1, iv m2, iv c2, iv q', iv fl, iv a1, iv k1, iv a2, iv k2, iv qm, iv qk, iv (1 : Int32), iv (1 : Int32), rv b1275, rv b1282, rv b1314, iv (1 : Int32), rv b1275, rv b1282, iv same, rv b1275] [(.ref b1314)])) _
              refine XS.iload X1355.here hx rfl (hb hby at_364) rfl ?_
              refine XS.iload X1355.here hx rfl (hb hby at_366) rfl ?_
              exact kt)
          obtain ⟨cq1374, kq1374, q1374a, q1374b, q1374c⟩ := isOf hZ eh1355 Eg1344
          obtain ⟨_, _, ⟨T1374, L1374, k1374, n1374⟩, -, X1374, ⟨Lc1374, hQ1374, l1374, y1374, z1374⟩, st1374⟩ := X1355.virtualBack hx (y := (⟨"com/example/brancher/brancher/service/Group", "choices", "(II)Ljava/util/BitSet;"⟩ : MethodName)) (z := (⟨"com/example/brancher/brancher/service/Group", "choices", "(II)Ljava/util/BitSet;"⟩ : MethodName)) hown (mvT hZ (W 144 rfl)) (mvT hZ (W 145 rfl)) (notFace_of_selects (args := #[]) (mvT hZ (W 147 rfl))) (mvT hZ (W 147 rfl)) (mvT hZ (W 146 rfl)) (by decide) (backOf (W := 0) (rmCH l Z a0 hw [] b1314 qm qk M0_2 M1_2 nc T1344.heap n0 zs1352 GRr1344 bqm bqk SN Or1344) hZ (W 148 rfl) (W 47 rfl) (by decide) (by decide)) q1374a q1374c (g := (mkF m 368 #[iv m1, iv c1, iv m2, iv c2, iv q', iv fl, iv a1, iv k1, iv a2, iv k2, iv qm, iv qk, iv (1 : Int32), iv (1 : Int32), rv b1275, rv b1282, rv b1314, iv (1 : Int32), rv b1275, rv b1282, iv same, rv b1275] [(.int qk), (.int qm), (.ref b1314)])) rfl (by rw [hml]; rfl) (Steps.refl _) (argsL := [(.int qm), (.int qk)]) (rest := []) (lenOf pd296 rfl) rfl (by show 2 * 0 + _ ≤ _; exact Nat.le_of_eq rfl) (hb hby at_368) (fun _ _ => ⟨rfl, eh1355, (by decide : 25 + 0 ≤ _), (by decide : 79 + 0 ≤ _)⟩)
          dsimp only [Pt.U, Pt.locs, Pt.cells, Pt.slots] at X1374 l1374 y1374 z1374 st1374 hQ1374
          subst l1374 y1374 z1374
          obtain ⟨rfl, Nq1374, eh1374⟩ := hQ1374
          have N1374 := Fr.app N1355 Nq1374
          have go1375 : own_S p e below ST T1374 (mkF m 371 #[iv m1, iv c1, iv m2, iv c2, iv q', iv fl, iv a1, iv k1, iv a2, iv k2, iv qm, iv qk, iv (1 : Int32), iv (1 : Int32), rv b1275, rv b1282, rv b1314, iv (1 : Int32), rv b1275, rv b1282, iv same, rv b1275] [(own_or nc ((if qm = 0 then M0_2 else M1_2).getD (qk).toNatClampNeg .null))]) := fun tt kt => go1373 tt (st1374.trans kt)
          have e_5 : own_or nc ((if qm = 0 then M0_2 else M1_2).getD (qk).toNatClampNeg .null) = .ref b1275 := own_orr nc ((s_2 qm qk bqm bqk).trans ((if_neg fun q => hz321 q.2).trans (if_pos ⟨hz335, hz342⟩)))
          obtain ⟨vo5, hvo5⟩ : ∃ z : Value, z = (own_or nc ((if qm = 0 then M0_2 else M1_2).getD (qk).toNatClampNeg .null)) := ⟨_, rfl⟩
          rw [← hvo5] at go1375
          replace e_5 := hvo5.trans e_5
          have go1376 : own_S p e below ST T1374 (mkF m 385 #[iv m1, iv c1, iv m2, iv c2, iv q', iv fl, iv a1, iv k1, iv a2, iv k2, iv qm, iv qk, iv (1 : Int32), iv (1 : Int32), rv b1275, rv b1282, rv b1314, iv (1 : Int32), rv b1275, rv b1282, iv same, rv b1275] [(.int (1 : Int32))]) := fun tt kt => go1375 tt (by
              refine XS.aload X1374.here hx rfl (hb hby at_371) rfl rfl ?_
              refine Jvm.RoadKit.acmp (g := (mkF m 373 #[iv m1, iv c1, iv m2, iv c2, iv q', iv fl, iv a1, iv k1, iv a2, iv k2, iv qm, iv qk, iv (1 : Int32), iv (1 : Int32), rv b1275, rv b1282, rv b1314, iv (1 : Int32), rv b1275, rv b1282, iv same, rv b1275] [(.ref b1275), vo5])) X1374 hx rfl (by rw [e_5]; rfl) rfl (pc0 := 373) (pc' := 376) (same := true) rfl (hb hby at_373) rfl (decide_eq_true e_5) (by decide) (by decide) ?_
              refine XS.iconst X1374.here hx rfl (hb hby at_376) ?_
              refine XS.goto X1374.here hx rfl (pc0 := 377) (pc' := 381) rfl (hb hby at_377) (by decide) (by decide) ?_
              refine XS.istore X1374.here hx rfl (hb hby at_381) rfl (l' := #[iv m1, iv c1, iv m2, iv c2, iv q', iv fl, iv a1, iv k1, iv a2, iv k2, iv qm, iv qk, iv (1 : Int32), iv (1 : Int32), rv b1275, rv b1282, rv b1314, iv (1 : Int32), rv b1275, rv b1282, iv same, rv b1275]) rfl ?_
              refine XS.iload X1374.here hx rfl (hb hby at_383) rfl ?_
              exact kt)
          obtain ⟨fs, hr, hrun, hended, hW, hsame⟩ := X1374.leave (v := some (.int (1 : Int32))) (fun h => by rw [Bd.returns] at h; cases h) (hlocks := by first | exact BodyLoose.notSynchronized Bd | exact Body.notSynchronized Bd)
          refine ⟨_, _, pre0 _ (go1376 _ ?_), hrun, hended, _, _, rfl, ?_, ⟨_, rfl⟩, hW, hsame.mono (by decide) (by decide)⟩
          · exact retN X1374 hx (t := .boolean) Bd.returns (by simp) (hb hby at_385) hr
          · show Q0n11 Z m1 c1 m2 c2 q' fl ad kd nc h0 n0 _ T1374.heap _
            rw [eh1374]
            exact ⟨rfl, N1374⟩
        · have go1377 : own_S p e below ST T1355 (mkF m 352 #[iv m1, iv c1, iv m2, iv c2, iv q', iv fl, iv a1, iv k1, iv a2, iv k2, iv qm, iv qk, iv (1 : Int32), iv (1 : Int32), rv b1275, rv b1282, rv b1314, iv (1 : Int32), rv b1275, rv b1282, iv same, .unset] []) := fun tt kt => go1371 tt (by
              refine XS.icmpYes X1355.here hx rfl (pc0 := 342) (pc' := 352) rfl (hb hby at_342) rfl (feq hz342).2 (by decide) (by decide) ?_
              exact kt)
          obtain ⟨T1378, X1378, e1378, st1378⟩ := getS2 X1355 hx hZ hown (host := "") (Or.inl (W 151 rfl)) Via.refl eh1355 (SN.ext Or1344.2) (g := (mkF m 352 #[iv m1, iv c1, iv m2, iv c2, iv q', iv fl, iv a1, iv k1, iv a2, iv k2, iv qm, iv qk, iv (1 : Int32), iv (1 : Int32), rv b1275, rv b1282, rv b1314, iv (1 : Int32), rv b1275, rv b1282, iv same, .unset] [])) rfl (hb hby at_352)
          have go1379 : own_S p e below ST T1378 (mkF m 355 #[iv m1, iv c1, iv m2, iv c2, iv q', iv fl, iv a1, iv k1, iv a2, iv k2, iv qm, iv qk, iv (1 : Int32), iv (1 : Int32), rv b1275, rv b1282, rv b1314, iv (1 : Int32), rv b1275, rv b1282, iv same, .unset] [(.ref nc)]) := fun tt kt => go1377 tt (st1378 _ kt)
          have go1380 : own_S p e below ST T1378 (mkF m 368 #[iv m1, iv c1, iv m2, iv c2, iv q', iv fl, iv a1, iv k1, iv a2, iv k2, iv qm, iv qk, iv (1 : Int32), iv (1 : Int32), rv b1275, rv b1282, rv b1314, iv (1 : Int32), rv b1275, rv b1282, iv same, rv nc] [(.int qk), (.int qm), (.ref b1314)]) := fun tt kt => go1379 tt (by
              refine XS.astore X1378.here hx rfl (hb hby at_355) rfl rfl (l' := #[iv m1, iv c1, iv m2, iv c2, iv q', iv fl, iv a1, iv k1, iv a2, iv k2, iv qm, iv qk, iv (1 : Int32), iv (1 : Int32), rv b1275, rv b1282, rv b1314, iv (1 : Int32), rv b1275, rv b1282, iv same, rv nc]) rfl ?_
              refine XS.iload X1378.here hx rfl (hb hby at_357) rfl ?_
              refine XS.ifNo X1378.here hx rfl (hb hby at_359) rfl ((if0 _ _).trans (feq (by decide : ¬ ((1 : Int32) = (0 : Int32)))).1) ?_
              refine XS.aload X1378.here hx rfl (hb hby at_362) rfl rfl ?_
              refine XS.iload X1378.here hx rfl (hb hby at_364) rfl ?_
              refine XS.iload X1378.here hx rfl (hb hby at_366) rfl ?_
              exact kt)
          obtain ⟨cq1381, kq1381, q1381a, q1381b, q1381c⟩ := isOf hZ e1378 Eg1344
          obtain ⟨_, _, ⟨T1381, L1381, k1381, n1381⟩, -, X1381, ⟨Lc1381, hQ1381, l1381, y1381, z1381⟩, st1381⟩ := X1378.virtualBack hx (y := (⟨"com/example/brancher/brancher/service/Group", "choices", "(II)Ljava/util/BitSet;"⟩ : MethodName)) (z := (⟨"com/example/brancher/brancher/service/Group", "choices", "(II)Ljava/util/BitSet;"⟩ : MethodName)) hown (mvT hZ (W 144 rfl)) (mvT hZ (W 145 rfl)) (notFace_of_selects (args := #[]) (mvT hZ (W 147 rfl))) (mvT hZ (W 147 rfl)) (mvT hZ (W 146 rfl)) (by decide) (backOf (W := 0) (rmCH l Z a0 hw [] b1314 qm qk M0_2 M1_2 nc T1344.heap n0 zs1352 GRr1344 bqm bqk SN Or1344) hZ (W 148 rfl) (W 47 rfl) (by decide) (by decide)) q1381a q1381c (g := (mkF m 368 #[iv m1, iv c1, iv m2, iv c2, iv q', iv fl, iv a1, iv k1, iv a2, iv k2, iv qm, iv qk, iv (1 : Int32), iv (1 : Int32), rv b1275, rv b1282, rv b1314, iv (1 : Int32), rv b1275, rv b1282, iv same, rv nc] [(.int qk), (.int qm), (.ref b1314)])) rfl (by rw [hml]; rfl) (Steps.refl _) (argsL := [(.int qm), (.int qk)]) (rest := []) (lenOf pd296 rfl) rfl (by show 2 * 0 + _ ≤ _; exact Nat.le_of_eq rfl) (hb hby at_368) (fun _ _ => ⟨rfl, e1378, (by decide : 25 + 0 ≤ _), (by decide : 79 + 0 ≤ _)⟩)
          dsimp only [Pt.U, Pt.locs, Pt.cells, Pt.slots] at X1381 l1381 y1381 z1381 st1381 hQ1381
          subst l1381 y1381 z1381
          obtain ⟨rfl, Nq1381, eh1381⟩ := hQ1381
          have N1381 := Fr.app N1355 Nq1381
          have go1382 : own_S p e below ST T1381 (mkF m 371 #[iv m1, iv c1, iv m2, iv c2, iv q', iv fl, iv a1, iv k1, iv a2, iv k2, iv qm, iv qk, iv (1 : Int32), iv (1 : Int32), rv b1275, rv b1282, rv b1314, iv (1 : Int32), rv b1275, rv b1282, iv same, rv nc] [(own_or nc ((if qm = 0 then M0_2 else M1_2).getD (qk).toNatClampNeg .null))]) := fun tt kt => go1380 tt (st1381.trans kt)
          have go1383 : own_S p e below ST T1381 (mkF m 373 #[iv m1, iv c1, iv m2, iv c2, iv q', iv fl, iv a1, iv k1, iv a2, iv k2, iv qm, iv qk, iv (1 : Int32), iv (1 : Int32), rv b1275, rv b1282, rv b1314, iv (1 : Int32), rv b1275, rv b1282, iv same, rv nc] [(.ref nc), (own_or nc ((if qm = 0 then M0_2 else M1_2).getD (qk).toNatClampNeg .null))]) := fun tt kt => go1382 tt (by
              refine XS.aload X1381.here hx rfl (hb hby at_371) rfl rfl ?_
              exact kt)
          have e_5 : own_or nc ((if qm = 0 then M0_2 else M1_2).getD (qk).toNatClampNeg .null) = .ref nc := own_orn nc ((s_2 qm qk bqm bqk).trans ((if_neg fun q => hz321 q.2).trans (if_neg fun q => hz342 q.2)))
          obtain ⟨vo5, hvo5⟩ : ∃ z : Value, z = (own_or nc ((if qm = 0 then M0_2 else M1_2).getD (qk).toNatClampNeg .null)) := ⟨_, rfl⟩
          rw [← hvo5] at go1383
          replace e_5 := hvo5.trans e_5
          have go1384 : own_S p e below ST T1381 (mkF m 385 #[iv m1, iv c1, iv m2, iv c2, iv q', iv fl, iv a1, iv k1, iv a2, iv k2, iv qm, iv qk, iv (1 : Int32), iv (1 : Int32), rv b1275, rv b1282, rv b1314, iv (1 : Int32), rv b1275, rv b1282, iv same, rv nc] [(.int (1 : Int32))]) := fun tt kt => go1383 tt (by
              refine Jvm.RoadKit.acmp (g := (mkF m 373 #[iv m1, iv c1, iv m2, iv c2, iv q', iv fl, iv a1, iv k1, iv a2, iv k2, iv qm, iv qk, iv (1 : Int32), iv (1 : Int32), rv b1275, rv b1282, rv b1314, iv (1 : Int32), rv b1275, rv b1282, iv same, rv nc] [(.ref nc), vo5])) X1381 hx rfl (by rw [e_5]; rfl) rfl (pc0 := 373) (pc' := 376) (same := true) rfl (hb hby at_373) rfl (decide_eq_true e_5) (by decide) (by decide) ?_
              refine XS.iconst X1381.here hx rfl (hb hby at_376) ?_
              refine XS.goto X1381.here hx rfl (pc0 := 377) (pc' := 381) rfl (hb hby at_377) (by decide) (by decide) ?_
              refine XS.istore X1381.here hx rfl (hb hby at_381) rfl (l' := #[iv m1, iv c1, iv m2, iv c2, iv q', iv fl, iv a1, iv k1, iv a2, iv k2, iv qm, iv qk, iv (1 : Int32), iv (1 : Int32), rv b1275, rv b1282, rv b1314, iv (1 : Int32), rv b1275, rv b1282, iv same, rv nc]) rfl ?_
              refine XS.iload X1381.here hx rfl (hb hby at_383) rfl ?_
              exact kt)
          obtain ⟨fs, hr, hrun, hended, hW, hsame⟩ := X1381.leave (v := some (.int (1 : Int32))) (fun h => by rw [Bd.returns] at h; cases h) (hlocks := by first | exact BodyLoose.notSynchronized Bd | exact Body.notSynchronized Bd)
          refine ⟨_, _, pre0 _ (go1384 _ ?_), hrun, hended, _, _, rfl, ?_, ⟨_, rfl⟩, hW, hsame.mono (by decide) (by decide)⟩
          · exact retN X1381 hx (t := .boolean) Bd.returns (by simp) (hb hby at_385) hr
          · show Q0n11 Z m1 c1 m2 c2 q' fl ad kd nc h0 n0 _ T1381.heap _
            rw [eh1381]
            exact ⟨rfl, N1381⟩
      · have go1385 : own_S p e below ST T1355 (mkF m 352 #[iv m1, iv c1, iv m2, iv c2, iv q', iv fl, iv a1, iv k1, iv a2, iv k2, iv qm, iv qk, iv (1 : Int32), iv (1 : Int32), rv b1275, rv b1282, rv b1314, iv (1 : Int32), rv b1275, rv b1282, iv same, .unset] []) := fun tt kt => go1369 tt (by
            refine XS.icmpYes X1355.here hx rfl (pc0 := 335) (pc' := 352) rfl (hb hby at_335) rfl (feq hz335).2 (by decide) (by decide) ?_
            exact kt)
        obtain ⟨T1386, X1386, e1386, st1386⟩ := getS2 X1355 hx hZ hown (host := "") (Or.inl (W 151 rfl)) Via.refl eh1355 (SN.ext Or1344.2) (g := (mkF m 352 #[iv m1, iv c1, iv m2, iv c2, iv q', iv fl, iv a1, iv k1, iv a2, iv k2, iv qm, iv qk, iv (1 : Int32), iv (1 : Int32), rv b1275, rv b1282, rv b1314, iv (1 : Int32), rv b1275, rv b1282, iv same, .unset] [])) rfl (hb hby at_352)
        have go1387 : own_S p e below ST T1386 (mkF m 355 #[iv m1, iv c1, iv m2, iv c2, iv q', iv fl, iv a1, iv k1, iv a2, iv k2, iv qm, iv qk, iv (1 : Int32), iv (1 : Int32), rv b1275, rv b1282, rv b1314, iv (1 : Int32), rv b1275, rv b1282, iv same, .unset] [(.ref nc)]) := fun tt kt => go1385 tt (st1386 _ kt)
        have go1388 : own_S p e below ST T1386 (mkF m 368 #[iv m1, iv c1, iv m2, iv c2, iv q', iv fl, iv a1, iv k1, iv a2, iv k2, iv qm, iv qk, iv (1 : Int32), iv (1 : Int32), rv b1275, rv b1282, rv b1314, iv (1 : Int32), rv b1275, rv b1282, iv same, rv nc] [(.int qk), (.int qm), (.ref b1314)]) := fun tt kt => go1387 tt (by
            refine XS.astore X1386.here hx rfl (hb hby at_355) rfl rfl (l' := #[iv m1, iv c1, iv m2, iv c2, iv q', iv fl, iv a1, iv k1, iv a2, iv k2, iv qm, iv qk, iv (1 : Int32), iv (1 : Int32), rv b1275, rv b1282, rv b1314, iv (1 : Int32), rv b1275, rv b1282, iv same, rv nc]) rfl ?_
            refine XS.iload X1386.here hx rfl (hb hby at_357) rfl ?_
            refine XS.ifNo X1386.here hx rfl (hb hby at_359) rfl ((if0 _ _).trans (feq (by decide : ¬ ((1 : Int32) = (0 : Int32)))).1) ?_
            refine XS.aload X1386.here hx rfl (hb hby at_362) rfl rfl ?_
            refine XS.iload X1386.here hx rfl (hb hby at_364) rfl ?_
            refine XS.iload X1386.here hx rfl (hb hby at_366) rfl ?_
            exact kt)
        obtain ⟨cq1389, kq1389, q1389a, q1389b, q1389c⟩ := isOf hZ e1386 Eg1344
        obtain ⟨_, _, ⟨T1389, L1389, k1389, n1389⟩, -, X1389, ⟨Lc1389, hQ1389, l1389, y1389, z1389⟩, st1389⟩ := X1386.virtualBack hx (y := (⟨"com/example/brancher/brancher/service/Group", "choices", "(II)Ljava/util/BitSet;"⟩ : MethodName)) (z := (⟨"com/example/brancher/brancher/service/Group", "choices", "(II)Ljava/util/BitSet;"⟩ : MethodName)) hown (mvT hZ (W 144 rfl)) (mvT hZ (W 145 rfl)) (notFace_of_selects (args := #[]) (mvT hZ (W 147 rfl))) (mvT hZ (W 147 rfl)) (mvT hZ (W 146 rfl)) (by decide) (backOf (W := 0) (rmCH l Z a0 hw [] b1314 qm qk M0_2 M1_2 nc T1344.heap n0 zs1352 GRr1344 bqm bqk SN Or1344) hZ (W 148 rfl) (W 47 rfl) (by decide) (by decide)) q1389a q1389c (g := (mkF m 368 #[iv m1, iv c1, iv m2, iv c2, iv q', iv fl, iv a1, iv k1, iv a2, iv k2, iv qm, iv qk, iv (1 : Int32), iv (1 : Int32), rv b1275, rv b1282, rv b1314, iv (1 : Int32), rv b1275, rv b1282, iv same, rv nc] [(.int qk), (.int qm), (.ref b1314)])) rfl (by rw [hml]; rfl) (Steps.refl _) (argsL := [(.int qm), (.int qk)]) (rest := []) (lenOf pd296 rfl) rfl (by show 2 * 0 + _ ≤ _; exact Nat.le_of_eq rfl) (hb hby at_368) (fun _ _ => ⟨rfl, e1386, (by decide : 25 + 0 ≤ _), (by decide : 79 + 0 ≤ _)⟩)
        dsimp only [Pt.U, Pt.locs, Pt.cells, Pt.slots] at X1389 l1389 y1389 z1389 st1389 hQ1389
        subst l1389 y1389 z1389
        obtain ⟨rfl, Nq1389, eh1389⟩ := hQ1389
        have N1389 := Fr.app N1355 Nq1389
        have go1390 : own_S p e below ST T1389 (mkF m 371 #[iv m1, iv c1, iv m2, iv c2, iv q', iv fl, iv a1, iv k1, iv a2, iv k2, iv qm, iv qk, iv (1 : Int32), iv (1 : Int32), rv b1275, rv b1282, rv b1314, iv (1 : Int32), rv b1275, rv b1282, iv same, rv nc] [(own_or nc ((if qm = 0 then M0_2 else M1_2).getD (qk).toNatClampNeg .null))]) := fun tt kt => go1388 tt (st1389.trans kt)
        have go1391 : own_S p e below ST T1389 (mkF m 373 #[iv m1, iv c1, iv m2, iv c2, iv q', iv fl, iv a1, iv k1, iv a2, iv k2, iv qm, iv qk, iv (1 : Int32), iv (1 : Int32), rv b1275, rv b1282, rv b1314, iv (1 : Int32), rv b1275, rv b1282, iv same, rv nc] [(.ref nc), (own_or nc ((if qm = 0 then M0_2 else M1_2).getD (qk).toNatClampNeg .null))]) := fun tt kt => go1390 tt (by
            refine XS.aload X1389.here hx rfl (hb hby at_371) rfl rfl ?_
            exact kt)
        have e_5 : own_or nc ((if qm = 0 then M0_2 else M1_2).getD (qk).toNatClampNeg .null) = .ref nc := own_orn nc ((s_2 qm qk bqm bqk).trans ((if_neg fun q => hz321 q.2).trans (if_neg fun q => hz335 q.1)))
        obtain ⟨vo5, hvo5⟩ : ∃ z : Value, z = (own_or nc ((if qm = 0 then M0_2 else M1_2).getD (qk).toNatClampNeg .null)) := ⟨_, rfl⟩
        rw [← hvo5] at go1391
        replace e_5 := hvo5.trans e_5
        have go1392 : own_S p e below ST T1389 (mkF m 385 #[iv m1, iv c1, iv m2, iv c2, iv q', iv fl, iv a1, iv k1, iv a2, iv k2, iv qm, iv qk, iv (1 : Int32), iv (1 : Int32), rv b1275, rv b1282, rv b1314, iv (1 : Int32), rv b1275, rv b1282, iv same, rv nc] [(.int (1 : Int32))]) := fun tt kt => go1391 tt (by
            refine Jvm.RoadKit.acmp (g := (mkF m 373 #[iv m1, iv c1, iv m2, iv c2, iv q', iv fl, iv a1, iv k1, iv a2, iv k2, iv qm, iv qk, iv (1 : Int32), iv (1 : Int32), rv b1275, rv b1282, rv b1314, iv (1 : Int32), rv b1275, rv b1282, iv same, rv nc] [(.ref nc), vo5])) X1389 hx rfl (by rw [e_5]; rfl) rfl (pc0 := 373) (pc' := 376) (same := true) rfl (hb hby at_373) rfl (decide_eq_true e_5) (by decide) (by decide) ?_
            refine XS.iconst X1389.here hx rfl (hb hby at_376) ?_
            refine XS.goto X1389.here hx rfl (pc0 := 377) (pc' := 381) rfl (hb hby at_377) (by decide) (by decide) ?_
            refine XS.istore X1389.here hx rfl (hb hby at_381) rfl (l' := #[iv m1, iv c1, iv m2, iv c2, iv q', iv fl, iv a1, iv k1, iv a2, iv k2, iv qm, iv qk, iv (1 : Int32), iv (1 : Int32), rv b1275, rv b1282, rv b1314, iv (1 : Int32), rv b1275, rv b1282, iv same, rv nc]) rfl ?_
            refine XS.iload X1389.here hx rfl (hb hby at_383) rfl ?_
            exact kt)
        obtain ⟨fs, hr, hrun, hended, hW, hsame⟩ := X1389.leave (v := some (.int (1 : Int32))) (fun h => by rw [Bd.returns] at h; cases h) (hlocks := by first | exact BodyLoose.notSynchronized Bd | exact Body.notSynchronized Bd)
        refine ⟨_, _, pre0 _ (go1392 _ ?_), hrun, hended, _, _, rfl, ?_, ⟨_, rfl⟩, hW, hsame.mono (by decide) (by decide)⟩
        · exact retN X1389 hx (t := .boolean) Bd.returns (by simp) (hb hby at_385) hr
        · show Q0n11 Z m1 c1 m2 c2 q' fl ad kd nc h0 n0 _ T1389.heap _
          rw [eh1389]
          exact ⟨rfl, N1389⟩
  · have go1393 : own_S p e below ST T1355 (mkF m 331 #[iv m1, iv c1, iv m2, iv c2, iv q', iv fl, iv a1, iv k1, iv a2, iv k2, iv qm, iv qk, iv (1 : Int32), iv (1 : Int32), rv b1275, rv b1282, rv b1314, iv (1 : Int32), rv b1275, rv b1282, iv same, .unset] []) := fun tt kt => go1360 tt (by
        refine XS.icmpYes X1355.here hx rfl (pc0 := 314) (pc' := 331) rfl (hb hby at_314) rfl (feq hz314).2 (by decide) (by decide) ?_
        exact kt)
    have go1394 : own_S p e below ST T1355 (mkF m 335 #[iv m1, iv c1, iv m2, iv c2, iv q', iv fl, iv a1, iv k1, iv a2, iv k2, iv qm, iv qk, iv (1 : Int32), iv (1 : Int32), rv b1275, rv b1282, rv b1314, iv (1 : Int32), rv b1275, rv b1282, iv same, .unset] [(.int a1), (.int qm)]) := fun tt kt => go1393 tt (by
        refine XS.iload X1355.here hx rfl (hb hby at_331) rfl ?_
        refine XS.iload X1355.here hx rfl (hb hby at_333) rfl ?_
        exact kt)
    by_cases hz335 : qm = a1
    · have go1395 : own_S p e below ST T1355 (mkF m 338 #[iv m1, iv c1, iv m2, iv c2, iv q', iv fl, iv a1, iv k1, iv a2, iv k2, iv qm, iv qk, iv (1 : Int32), iv (1 : Int32), rv b1275, rv b1282, rv b1314, iv (1 : Int32), rv b1275, rv b1282, iv same, .unset] []) := fun tt kt => go1394 tt (by
          refine XS.icmpNo X1355.here hx rfl (hb hby at_335) rfl (teq hz335).2 ?_
          exact kt)
      have go1396 : own_S p e below ST T1355 (mkF m 342 #[iv m1, iv c1, iv m2, iv c2, iv q', iv fl, iv a1, iv k1, iv a2, iv k2, iv qm, iv qk, iv (1 : Int32), iv (1 : Int32), rv b1275, rv b1282, rv b1314, iv (1 : Int32), rv b1275, rv b1282, iv same, .unset] [(.int k1), (.int qk)]) := fun tt kt => go1395 tt (by
          refine XS.iload X1355.here hx rfl (hb hby at_338) rfl ?_
          refine XS.iload X1355.here hx rfl (hb hby at_340) rfl ?_
          exact kt)
      by_cases hz342 : qk = k1
      · have go1397 : own_S p e below ST T1355 (mkF m 345 #[iv m1, iv c1, iv m2, iv c2, iv q', iv fl, iv a1, iv k1, iv a2, iv k2, iv qm, iv qk, iv (1 : Int32), iv (1 : Int32), rv b1275, rv b1282, rv b1314, iv (1 : Int32), rv b1275, rv b1282, iv same, .unset] []) := fun tt kt => go1396 tt (by
            refine XS.icmpNo X1355.here hx rfl (hb hby at_342) rfl (teq hz342).2 ?_
            exact kt)
        have go1398 : own_S p e below ST T1355 (mkF m 368 #[iv m1, iv c1, iv m2, iv c2, iv q', iv fl, iv a1, iv k1, iv a2, iv k2, iv qm, iv qk, iv (1 : Int32), iv (1 : Int32), rv b1275, rv b1282, rv b1314, iv (1 : Int32), rv b1275, rv b1282, iv same, rv b1275] [(.int qk), (.int qm), (.ref b1314)]) := fun tt kt => go1397 tt (by
            refine XS.aload X1355.here hx rfl (hb hby at_345) rfl rfl ?_
            refine XS.astore X1355.here hx rfl (hb hby at_347) rfl rfl (l' := #[iv m1, iv c1, iv m2, iv c2, iv q', iv fl, iv a1, iv k1, iv a2, iv k2, iv qm, iv qk, iv (1 : Int32), iv (1 : Int32), rv b1275, rv b1282, rv b1314, iv (1 : Int32), rv b1275, rv b1282, iv same, rv b1275]) rfl ?_
            refine XS.goto X1355.here hx rfl (pc0 := 349) (pc' := 357) rfl (hb hby at_349) (by decide) (by decide) ?_
            refine XS.iload X1355.here hx rfl (hb hby at_357) rfl ?_
            refine XS.ifNo X1355.here hx rfl (hb hby at_359) rfl ((if0 _ _).trans (feq (by decide : ¬ ((1 : Int32) = (0 : Int32)))).1) ?_
            refine XS.aload X1355.here hx rfl (hb hby at_362) rfl rfl ?_
            show Steps p.tables e below (T1355.setTop (mkF m 364 #[iv m1, iv c1, iv m2, iv c2, iv q', iv fl, iv a1, iv k1, iv a2, iv k2, iv qm, iv qk, iv (1 : Int32), iv (1 : Int32), rv b1275, rv b1282, rv b1314, iv (1 : Int32), rv b1275, rv b1282, iv same, rv b1275] [(.ref b1314)])) _
            refine XS.iload X1355.here hx rfl (hb hby at_364) rfl ?_
            refine XS.iload X1355.here hx rfl (hb hby at_366) rfl ?_
            exact kt)
        obtain ⟨cq1399, kq1399, q1399a, q1399b, q1399c⟩ := isOf hZ eh1355 Eg1344
        obtain ⟨_, _, ⟨T1399, L1399, k1399, n1399⟩, -, X1399, ⟨Lc1399, hQ1399, l1399, y1399, z1399⟩, st1399⟩ := X1355.virtualBack hx (y := (⟨"com/example/brancher/brancher/service/Group", "choices", "(II)Ljava/util/BitSet;"⟩ : MethodName)) (z := (⟨"com/example/brancher/brancher/service/Group", "choices", "(II)Ljava/util/BitSet;"⟩ : MethodName)) hown (mvT hZ (W 144 rfl)) (mvT hZ (W 145 rfl)) (notFace_of_selects (args := #[]) (mvT hZ (W 147 rfl))) (mvT hZ (W 147 rfl)) (mvT hZ (W 146 rfl)) (by decide) (backOf (W := 0) (rmCH l Z a0 hw [] b1314 qm qk M0_2 M1_2 nc T1344.heap n0 zs1352 GRr1344 bqm bqk SN Or1344) hZ (W 148 rfl) (W 47 rfl) (by decide) (by decide)) q1399a q1399c (g := (mkF m 368 #[iv m1, iv c1, iv m2, iv c2, iv q', iv fl, iv a1, iv k1, iv a2, iv k2, iv qm, iv qk, iv (1 : Int32), iv (1 : Int32), rv b1275, rv b1282, rv b1314, iv (1 : Int32), rv b1275, rv b1282, iv same, rv b1275] [(.int qk), (.int qm), (.ref b1314)])) rfl (by rw [hml]; rfl) (Steps.refl _) (argsL := [(.int qm), (.int qk)]) (rest := []) (lenOf pd296 rfl) rfl (by show 2 * 0 + _ ≤ _; exact Nat.le_of_eq rfl) (hb hby at_368) (fun _ _ => ⟨rfl, eh1355, (by decide : 25 + 0 ≤ _), (by decide : 79 + 0 ≤ _)⟩)
        dsimp only [Pt.U, Pt.locs, Pt.cells, Pt.slots] at X1399 l1399 y1399 z1399 st1399 hQ1399
        subst l1399 y1399 z1399
        obtain ⟨rfl, Nq1399, eh1399⟩ := hQ1399
        have N1399 := Fr.app N1355 Nq1399
        have go1400 : own_S p e below ST T1399 (mkF m 371 #[iv m1, iv c1, iv m2, iv c2, iv q', iv fl, iv a1, iv k1, iv a2, iv k2, iv qm, iv qk, iv (1 : Int32), iv (1 : Int32), rv b1275, rv b1282, rv b1314, iv (1 : Int32), rv b1275, rv b1282, iv same, rv b1275] [(own_or nc ((if qm = 0 then M0_2 else M1_2).getD (qk).toNatClampNeg .null))]) := fun tt kt => go1398 tt (st1399.trans kt)
        have e_5 : own_or nc ((if qm = 0 then M0_2 else M1_2).getD (qk).toNatClampNeg .null) = .ref b1275 := own_orr nc ((s_2 qm qk bqm bqk).trans ((if_neg fun q => hz314 q.1).trans (if_pos ⟨hz335, hz342⟩)))
        obtain ⟨vo5, hvo5⟩ : ∃ z : Value, z = (own_or nc ((if qm = 0 then M0_2 else M1_2).getD (qk).toNatClampNeg .null)) := ⟨_, rfl⟩
        rw [← hvo5] at go1400
        replace e_5 := hvo5.trans e_5
        have go1401 : own_S p e below ST T1399 (mkF m 385 #[iv m1, iv c1, iv m2, iv c2, iv q', iv fl, iv a1, iv k1, iv a2, iv k2, iv qm, iv qk, iv (1 : Int32), iv (1 : Int32), rv b1275, rv b1282, rv b1314, iv (1 : Int32), rv b1275, rv b1282, iv same, rv b1275] [(.int (1 : Int32))]) := fun tt kt => go1400 tt (by
            refine XS.aload X1399.here hx rfl (hb hby at_371) rfl rfl ?_
            refine Jvm.RoadKit.acmp (g := (mkF m 373 #[iv m1, iv c1, iv m2, iv c2, iv q', iv fl, iv a1, iv k1, iv a2, iv k2, iv qm, iv qk, iv (1 : Int32), iv (1 : Int32), rv b1275, rv b1282, rv b1314, iv (1 : Int32), rv b1275, rv b1282, iv same, rv b1275] [(.ref b1275), vo5])) X1399 hx rfl (by rw [e_5]; rfl) rfl (pc0 := 373) (pc' := 376) (same := true) rfl (hb hby at_373) rfl (decide_eq_true e_5) (by decide) (by decide) ?_
            refine XS.iconst X1399.here hx rfl (hb hby at_376) ?_
            refine XS.goto X1399.here hx rfl (pc0 := 377) (pc' := 381) rfl (hb hby at_377) (by decide) (by decide) ?_
            refine XS.istore X1399.here hx rfl (hb hby at_381) rfl (l' := #[iv m1, iv c1, iv m2, iv c2, iv q', iv fl, iv a1, iv k1, iv a2, iv k2, iv qm, iv qk, iv (1 : Int32), iv (1 : Int32), rv b1275, rv b1282, rv b1314, iv (1 : Int32), rv b1275, rv b1282, iv same, rv b1275]) rfl ?_
            refine XS.iload X1399.here hx rfl (hb hby at_383) rfl ?_
            exact kt)
        obtain ⟨fs, hr, hrun, hended, hW, hsame⟩ := X1399.leave (v := some (.int (1 : Int32))) (fun h => by rw [Bd.returns] at h; cases h) (hlocks := by first | exact BodyLoose.notSynchronized Bd | exact Body.notSynchronized Bd)
        refine ⟨_, _, pre0 _ (go1401 _ ?_), hrun, hended, _, _, rfl, ?_, ⟨_, rfl⟩, hW, hsame.mono (by decide) (by decide)⟩
        · exact retN X1399 hx (t := .boolean) Bd.returns (by simp) (hb hby at_385) hr
        · show Q0n11 Z m1 c1 m2 c2 q' fl ad kd nc h0 n0 _ T1399.heap _
          rw [eh1399]
          exact ⟨rfl, N1399⟩
      · have go1402 : own_S p e below ST T1355 (mkF m 352 #[iv m1, iv c1, iv m2, iv c2, iv q', iv fl, iv a1, iv k1, iv a2, iv k2, iv qm, iv qk, iv (1 : Int32), iv (1 : Int32), rv b1275, rv b1282, rv b1314, iv (1 : Int32), rv b1275, rv b1282, iv same, .unset] []) := fun tt kt => go1396 tt (by
            refine XS.icmpYes X1355.here hx rfl (pc0 := 342) (pc' := 352) rfl (hb hby at_342) rfl (feq hz342).2 (by decide) (by decide) ?_
            exact kt)
        obtain ⟨T1403, X1403, e1403, st1403⟩ := getS2 X1355 hx hZ hown (host := "") (Or.inl (W 151 rfl)) Via.refl eh1355 (SN.ext Or1344.2) (g := (mkF m 352 #[iv m1, iv c1, iv m2, iv c2, iv q', iv fl, iv a1, iv k1, iv a2, iv k2, iv qm, iv qk, iv (1 : Int32), iv (1 : Int32), rv b1275, rv b1282, rv b1314, iv (1 : Int32), rv b1275, rv b1282, iv same, .unset] [])) rfl (hb hby at_352)
        have go1404 : own_S p e below ST T1403 (mkF m 355 #[iv m1, iv c1, iv m2, iv c2, iv q', iv fl, iv a1, iv k1, iv a2, iv k2, iv qm, iv qk, iv (1 : Int32), iv (1 : Int32), rv b1275, rv b1282, rv b1314, iv (1 : Int32), rv b1275, rv b1282, iv same, .unset] [(.ref nc)]) := fun tt kt => go1402 tt (st1403 _ kt)
        have go1405 : own_S p e below ST T1403 (mkF m 368 #[iv m1, iv c1, iv m2, iv c2, iv q', iv fl, iv a1, iv k1, iv a2, iv k2, iv qm, iv qk, iv (1 : Int32), iv (1 : Int32), rv b1275, rv b1282, rv b1314, iv (1 : Int32), rv b1275, rv b1282, iv same, rv nc] [(.int qk), (.int qm), (.ref b1314)]) := fun tt kt => go1404 tt (by
            refine XS.astore X1403.here hx rfl (hb hby at_355) rfl rfl (l' := #[iv m1, iv c1, iv m2, iv c2, iv q', iv fl, iv a1, iv k1, iv a2, iv k2, iv qm, iv qk, iv (1 : Int32), iv (1 : Int32), rv b1275, rv b1282, rv b1314, iv (1 : Int32), rv b1275, rv b1282, iv same, rv nc]) rfl ?_
            refine XS.iload X1403.here hx rfl (hb hby at_357) rfl ?_
            refine XS.ifNo X1403.here hx rfl (hb hby at_359) rfl ((if0 _ _).trans (feq (by decide : ¬ ((1 : Int32) = (0 : Int32)))).1) ?_
            refine XS.aload X1403.here hx rfl (hb hby at_362) rfl rfl ?_
            refine XS.iload X1403.here hx rfl (hb hby at_364) rfl ?_
            refine XS.iload X1403.here hx rfl (hb hby at_366) rfl ?_
            exact kt)
        obtain ⟨cq1406, kq1406, q1406a, q1406b, q1406c⟩ := isOf hZ e1403 Eg1344
        obtain ⟨_, _, ⟨T1406, L1406, k1406, n1406⟩, -, X1406, ⟨Lc1406, hQ1406, l1406, y1406, z1406⟩, st1406⟩ := X1403.virtualBack hx (y := (⟨"com/example/brancher/brancher/service/Group", "choices", "(II)Ljava/util/BitSet;"⟩ : MethodName)) (z := (⟨"com/example/brancher/brancher/service/Group", "choices", "(II)Ljava/util/BitSet;"⟩ : MethodName)) hown (mvT hZ (W 144 rfl)) (mvT hZ (W 145 rfl)) (notFace_of_selects (args := #[]) (mvT hZ (W 147 rfl))) (mvT hZ (W 147 rfl)) (mvT hZ (W 146 rfl)) (by decide) (backOf (W := 0) (rmCH l Z a0 hw [] b1314 qm qk M0_2 M1_2 nc T1344.heap n0 zs1352 GRr1344 bqm bqk SN Or1344) hZ (W 148 rfl) (W 47 rfl) (by decide) (by decide)) q1406a q1406c (g := (mkF m 368 #[iv m1, iv c1, iv m2, iv c2, iv q', iv fl, iv a1, iv k1, iv a2, iv k2, iv qm, iv qk, iv (1 : Int32), iv (1 : Int32), rv b1275, rv b1282, rv b1314, iv (1 : Int32), rv b1275, rv b1282, iv same, rv nc] [(.int qk), (.int qm), (.ref b1314)])) rfl (by rw [hml]; rfl) (Steps.refl _) (argsL := [(.int qm), (.int qk)]) (rest := []) (lenOf pd296 rfl) rfl (by show 2 * 0 + _ ≤ _; exact Nat.le_of_eq rfl) (hb hby at_368) (fun _ _ => ⟨rfl, e1403, (by decide : 25 + 0 ≤ _), (by decide : 79 + 0 ≤ _)⟩)
        dsimp only [Pt.U, Pt.locs, Pt.cells, Pt.slots] at X1406 l1406 y1406 z1406 st1406 hQ1406
        subst l1406 y1406 z1406
        obtain ⟨rfl, Nq1406, eh1406⟩ := hQ1406
        have N1406 := Fr.app N1355 Nq1406
        have go1407 : own_S p e below ST T1406 (mkF m 371 #[iv m1, iv c1, iv m2, iv c2, iv q', iv fl, iv a1, iv k1, iv a2, iv k2, iv qm, iv qk, iv (1 : Int32), iv (1 : Int32), rv b1275, rv b1282, rv b1314, iv (1 : Int32), rv b1275, rv b1282, iv same, rv nc] [(own_or nc ((if qm = 0 then M0_2 else M1_2).getD (qk).toNatClampNeg .null))]) := fun tt kt => go1405 tt (st1406.trans kt)
        have go1408 : own_S p e below ST T1406 (mkF m 373 #[iv m1, iv c1, iv m2, iv c2, iv q', iv fl, iv a1, iv k1, iv a2, iv k2, iv qm, iv qk, iv (1 : Int32), iv (1 : Int32), rv b1275, rv b1282, rv b1314, iv (1 : Int32), rv b1275, rv b1282, iv same, rv nc] [(.ref nc), (own_or nc ((if qm = 0 then M0_2 else M1_2).getD (qk).toNatClampNeg .null))]) := fun tt kt => go1407 tt (by
            refine XS.aload X1406.here hx rfl (hb hby at_371) rfl rfl ?_
            exact kt)
        have e_5 : own_or nc ((if qm = 0 then M0_2 else M1_2).getD (qk).toNatClampNeg .null) = .ref nc := own_orn nc ((s_2 qm qk bqm bqk).trans ((if_neg fun q => hz314 q.1).trans (if_neg fun q => hz342 q.2)))
        obtain ⟨vo5, hvo5⟩ : ∃ z : Value, z = (own_or nc ((if qm = 0 then M0_2 else M1_2).getD (qk).toNatClampNeg .null)) := ⟨_, rfl⟩
        rw [← hvo5] at go1408
        replace e_5 := hvo5.trans e_5
        have go1409 : own_S p e below ST T1406 (mkF m 385 #[iv m1, iv c1, iv m2, iv c2, iv q', iv fl, iv a1, iv k1, iv a2, iv k2, iv qm, iv qk, iv (1 : Int32), iv (1 : Int32), rv b1275, rv b1282, rv b1314, iv (1 : Int32), rv b1275, rv b1282, iv same, rv nc] [(.int (1 : Int32))]) := fun tt kt => go1408 tt (by
            refine Jvm.RoadKit.acmp (g := (mkF m 373 #[iv m1, iv c1, iv m2, iv c2, iv q', iv fl, iv a1, iv k1, iv a2, iv k2, iv qm, iv qk, iv (1 : Int32), iv (1 : Int32), rv b1275, rv b1282, rv b1314, iv (1 : Int32), rv b1275, rv b1282, iv same, rv nc] [(.ref nc), vo5])) X1406 hx rfl (by rw [e_5]; rfl) rfl (pc0 := 373) (pc' := 376) (same := true) rfl (hb hby at_373) rfl (decide_eq_true e_5) (by decide) (by decide) ?_
            refine XS.iconst X1406.here hx rfl (hb hby at_376) ?_
            refine XS.goto X1406.here hx rfl (pc0 := 377) (pc' := 381) rfl (hb hby at_377) (by decide) (by decide) ?_
            refine XS.istore X1406.here hx rfl (hb hby at_381) rfl (l' := #[iv m1, iv c1, iv m2, iv c2, iv q', iv fl, iv a1, iv k1, iv a2, iv k2, iv qm, iv qk, iv (1 : Int32), iv (1 : Int32), rv b1275, rv b1282, rv b1314, iv (1 : Int32), rv b1275, rv b1282, iv same, rv nc]) rfl ?_
            refine XS.iload X1406.here hx rfl (hb hby at_383) rfl ?_
            exact kt)
        obtain ⟨fs, hr, hrun, hended, hW, hsame⟩ := X1406.leave (v := some (.int (1 : Int32))) (fun h => by rw [Bd.returns] at h; cases h) (hlocks := by first | exact BodyLoose.notSynchronized Bd | exact Body.notSynchronized Bd)
        refine ⟨_, _, pre0 _ (go1409 _ ?_), hrun, hended, _, _, rfl, ?_, ⟨_, rfl⟩, hW, hsame.mono (by decide) (by decide)⟩
        · exact retN X1406 hx (t := .boolean) Bd.returns (by simp) (hb hby at_385) hr
        · show Q0n11 Z m1 c1 m2 c2 q' fl ad kd nc h0 n0 _ T1406.heap _
          rw [eh1406]
          exact ⟨rfl, N1406⟩
    · have go1410 : own_S p e below ST T1355 (mkF m 352 #[iv m1, iv c1, iv m2, iv c2, iv q', iv fl, iv a1, iv k1, iv a2, iv k2, iv qm, iv qk, iv (1 : Int32), iv (1 : Int32), rv b1275, rv b1282, rv b1314, iv (1 : Int32), rv b1275, rv b1282, iv same, .unset] []) := fun tt kt => go1394 tt (by
          refine XS.icmpYes X1355.here hx rfl (pc0 := 335) (pc' := 352) rfl (hb hby at_335) rfl (feq hz335).2 (by decide) (by decide) ?_
          exact kt)
      obtain ⟨T1411, X1411, e1411, st1411⟩ := getS2 X1355 hx hZ hown (host := "") (Or.inl (W 151 rfl)) Via.refl eh1355 (SN.ext Or1344.2) (g := (mkF m 352 #[iv m1, iv c1, iv m2, iv c2, iv q', iv fl, iv a1, iv k1, iv a2, iv k2, iv qm, iv qk, iv (1 : Int32), iv (1 : Int32), rv b1275, rv b1282, rv b1314, iv (1 : Int32), rv b1275, rv b1282, iv same, .unset] [])) rfl (hb hby at_352)
      have go1412 : own_S p e below ST T1411 (mkF m 355 #[iv m1, iv c1, iv m2, iv c2, iv q', iv fl, iv a1, iv k1, iv a2, iv k2, iv qm, iv qk, iv (1 : Int32), iv (1 : Int32), rv b1275, rv b1282, rv b1314, iv (1 : Int32), rv b1275, rv b1282, iv same, .unset] [(.ref nc)]) := fun tt kt => go1410 tt (st1411 _ kt)
      have go1413 : own_S p e below ST T1411 (mkF m 368 #[iv m1, iv c1, iv m2, iv c2, iv q', iv fl, iv a1, iv k1, iv a2, iv k2, iv qm, iv qk, iv (1 : Int32), iv (1 : Int32), rv b1275, rv b1282, rv b1314, iv (1 : Int32), rv b1275, rv b1282, iv same, rv nc] [(.int qk), (.int qm), (.ref b1314)]) := fun tt kt => go1412 tt (by
          refine XS.astore X1411.here hx rfl (hb hby at_355) rfl rfl (l' := #[iv m1, iv c1, iv m2, iv c2, iv q', iv fl, iv a1, iv k1, iv a2, iv k2, iv qm, iv qk, iv (1 : Int32), iv (1 : Int32), rv b1275, rv b1282, rv b1314, iv (1 : Int32), rv b1275, rv b1282, iv same, rv nc]) rfl ?_
          refine XS.iload X1411.here hx rfl (hb hby at_357) rfl ?_
          refine XS.ifNo X1411.here hx rfl (hb hby at_359) rfl ((if0 _ _).trans (feq (by decide : ¬ ((1 : Int32) = (0 : Int32)))).1) ?_
          refine XS.aload X1411.here hx rfl (hb hby at_362) rfl rfl ?_
          refine XS.iload X1411.here hx rfl (hb hby at_364) rfl ?_
          refine XS.iload X1411.here hx rfl (hb hby at_366) rfl ?_
          exact kt)
      obtain ⟨cq1414, kq1414, q1414a, q1414b, q1414c⟩ := isOf hZ e1411 Eg1344
      obtain ⟨_, _, ⟨T1414, L1414, k1414, n1414⟩, -, X1414, ⟨Lc1414, hQ1414, l1414, y1414, z1414⟩, st1414⟩ := X1411.virtualBack hx (y := (⟨"com/example/brancher/brancher/service/Group", "choices", "(II)Ljava/util/BitSet;"⟩ : MethodName)) (z := (⟨"com/example/brancher/brancher/service/Group", "choices", "(II)Ljava/util/BitSet;"⟩ : MethodName)) hown (mvT hZ (W 144 rfl)) (mvT hZ (W 145 rfl)) (notFace_of_selects (args := #[]) (mvT hZ (W 147 rfl))) (mvT hZ (W 147 rfl)) (mvT hZ (W 146 rfl)) (by decide) (backOf (W := 0) (rmCH l Z a0 hw [] b1314 qm qk M0_2 M1_2 nc T1344.heap n0 zs1352 GRr1344 bqm bqk SN Or1344) hZ (W 148 rfl) (W 47 rfl) (by decide) (by decide)) q1414a q1414c (g := (mkF m 368 #[iv m1, iv c1, iv m2, iv c2, iv q', iv fl, iv a1, iv k1, iv a2, iv k2, iv qm, iv qk, iv (1 : Int32), iv (1 : Int32), rv b1275, rv b1282, rv b1314, iv (1 : Int32), rv b1275, rv b1282, iv same, rv nc] [(.int qk), (.int qm), (.ref b1314)])) rfl (by rw [hml]; rfl) (Steps.refl _) (argsL := [(.int qm), (.int qk)]) (rest := []) (lenOf pd296 rfl) rfl (by show 2 * 0 + _ ≤ _; exact Nat.le_of_eq rfl) (hb hby at_368) (fun _ _ => ⟨rfl, e1411, (by decide : 25 + 0 ≤ _), (by decide : 79 + 0 ≤ _)⟩)
      dsimp only [Pt.U, Pt.locs, Pt.cells, Pt.slots] at X1414 l1414 y1414 z1414 st1414 hQ1414
      subst l1414 y1414 z1414
      obtain ⟨rfl, Nq1414, eh1414⟩ := hQ1414
      have N1414 := Fr.app N1355 Nq1414
      have go1415 : own_S p e below ST T1414 (mkF m 371 #[iv m1, iv c1, iv m2, iv c2, iv q', iv fl, iv a1, iv k1, iv a2, iv k2, iv qm, iv qk, iv (1 : Int32), iv (1 : Int32), rv b1275, rv b1282, rv b1314, iv (1 : Int32), rv b1275, rv b1282, iv same, rv nc] [(own_or nc ((if qm = 0 then M0_2 else M1_2).getD (qk).toNatClampNeg .null))]) := fun tt kt => go1413 tt (st1414.trans kt)
      have go1416 : own_S p e below ST T1414 (mkF m 373 #[iv m1, iv c1, iv m2, iv c2, iv q', iv fl, iv a1, iv k1, iv a2, iv k2, iv qm, iv qk, iv (1 : Int32), iv (1 : Int32), rv b1275, rv b1282, rv b1314, iv (1 : Int32), rv b1275, rv b1282, iv same, rv nc] [(.ref nc), (own_or nc ((if qm = 0 then M0_2 else M1_2).getD (qk).toNatClampNeg .null))]) := fun tt kt => go1415 tt (by
          refine XS.aload X1414.here hx rfl (hb hby at_371) rfl rfl ?_
          exact kt)
      have e_5 : own_or nc ((if qm = 0 then M0_2 else M1_2).getD (qk).toNatClampNeg .null) = .ref nc := own_orn nc ((s_2 qm qk bqm bqk).trans ((if_neg fun q => hz314 q.1).trans (if_neg fun q => hz335 q.1)))
      obtain ⟨vo5, hvo5⟩ : ∃ z : Value, z = (own_or nc ((if qm = 0 then M0_2 else M1_2).getD (qk).toNatClampNeg .null)) := ⟨_, rfl⟩
      rw [← hvo5] at go1416
      replace e_5 := hvo5.trans e_5
      have go1417 : own_S p e below ST T1414 (mkF m 385 #[iv m1, iv c1, iv m2, iv c2, iv q', iv fl, iv a1, iv k1, iv a2, iv k2, iv qm, iv qk, iv (1 : Int32), iv (1 : Int32), rv b1275, rv b1282, rv b1314, iv (1 : Int32), rv b1275, rv b1282, iv same, rv nc] [(.int (1 : Int32))]) := fun tt kt => go1416 tt (by
          refine Jvm.RoadKit.acmp (g := (mkF m 373 #[iv m1, iv c1, iv m2, iv c2, iv q', iv fl, iv a1, iv k1, iv a2, iv k2, iv qm, iv qk, iv (1 : Int32), iv (1 : Int32), rv b1275, rv b1282, rv b1314, iv (1 : Int32), rv b1275, rv b1282, iv same, rv nc] [(.ref nc), vo5])) X1414 hx rfl (by rw [e_5]; rfl) rfl (pc0 := 373) (pc' := 376) (same := true) rfl (hb hby at_373) rfl (decide_eq_true e_5) (by decide) (by decide) ?_
          refine XS.iconst X1414.here hx rfl (hb hby at_376) ?_
          refine XS.goto X1414.here hx rfl (pc0 := 377) (pc' := 381) rfl (hb hby at_377) (by decide) (by decide) ?_
          refine XS.istore X1414.here hx rfl (hb hby at_381) rfl (l' := #[iv m1, iv c1, iv m2, iv c2, iv q', iv fl, iv a1, iv k1, iv a2, iv k2, iv qm, iv qk, iv (1 : Int32), iv (1 : Int32), rv b1275, rv b1282, rv b1314, iv (1 : Int32), rv b1275, rv b1282, iv same, rv nc]) rfl ?_
          refine XS.iload X1414.here hx rfl (hb hby at_383) rfl ?_
          exact kt)
      obtain ⟨fs, hr, hrun, hended, hW, hsame⟩ := X1414.leave (v := some (.int (1 : Int32))) (fun h => by rw [Bd.returns] at h; cases h) (hlocks := by first | exact BodyLoose.notSynchronized Bd | exact Body.notSynchronized Bd)
      refine ⟨_, _, pre0 _ (go1417 _ ?_), hrun, hended, _, _, rfl, ?_, ⟨_, rfl⟩, hW, hsame.mono (by decide) (by decide)⟩
      · exact retN X1414 hx (t := .boolean) Bd.returns (by simp) (hb hby at_385) hr
      · show Q0n11 Z m1 c1 m2 c2 q' fl ad kd nc h0 n0 _ T1414.heap _
        rw [eh1414]
        exact ⟨rfl, N1414⟩
theorem rm0 (l : Launch) (Z : State) (a0 : Array Value) (hw : ∀ d ∈ tables_1, d.before a0 Z = true) (ws : List Jvm.Cond) (m1 : Int32) (c1 : Int32) (m2 : Int32) (c2 : Int32) (q' : Int32) (fl : Int32) (ad : Addr) (kd : ClassId) (nc : Addr) (h0 : Heap) (n0 : Nat) (Z0 : n0 ≤ h0.size) (SD : Sta Z Z.heap "java/util/ArrayList" "DEFAULTCAPACITY_EMPTY_ELEMENTDATA" "[Ljava/lang/Object;" (.ref ad)) (VD : Arv Z Z.heap ad kd (.object "java/lang/Object") (0 : Int32) [] .null) (SB : Sta Z Z.heap "java/util/BitSet" "$assertionsDisabled" "Z" (.int (1 : Int32))) (SN : Sta Z Z.heap "com/example/brancher/brancher/service/Group" "NO_CHOICES" "Ljava/util/BitSet;" (.ref nc)) (OL : Old Z n0 h0) :
    MetFree l x (head1 (Jvm.Cond.code x code maxLocals ret :: ws) room_1) (fun aa UU => aa = #[(.int m1), (.int c1), (.int m2), (.int c2), (.int q'), (.int fl)] ∧ Z.Warmed39 UU.vm ∧ UU.heap = h0) (fun _ _ _ _ _ => True) (fun _ UU oo UU' => ∃ vv LL, oo = .returned vv ∧ Q0n00 Z m1 c1 m2 c2 q' fl ad kd nc h0 n0 vv UU'.heap LL ∧ FrameEnd UU oo UU' LL room_1.cells room_1.slots) := by
  by_cases q1 : fl &&& (1 : Int32) = (0 : Int32) <;> by_cases q2 : fl &&& (2 : Int32) = (0 : Int32)
  · exact rm0n00 l Z a0 hw ws m1 c1 m2 c2 q' fl ad kd nc h0 n0 Z0 SD VD SB SN OL q1 q2
  · exact rm0n01 l Z a0 hw ws m1 c1 m2 c2 q' fl ad kd nc h0 n0 Z0 SD VD SB SN OL q1 q2
  · exact rm0n10 l Z a0 hw ws m1 c1 m2 c2 q' fl ad kd nc h0 n0 Z0 SD VD SB SN OL q1 q2
  · exact rm0n11 l Z a0 hw ws m1 c1 m2 c2 q' fl ad kd nc h0 n0 Z0 SD VD SB SN OL q1 q2
set_option maxRecDepth 65536 in
set_option maxHeartbeats 40000000 in
theorem comes_1 {Post : Tables → Env → Array Value → State → Outcome → State → Prop} (hpost : ∀ tb e args s v u, (limb_1_1.after args s (.returned v) u = true ∧ limb_1_2.after args s (.returned v) u = true ∧ True) → FrameEnd s (.returned v) u (Jvm.fieldLocs frame_1_writes args s ++ Jvm.arrayLocs frame_1_arrays args s ++ Jvm.staticLocs frame_1_statics s) 64 256 → Post tb e args s (.returned v) u) :
    ArmFor flags0 classFile x code maxLocals ret World_1 tables_1 room_1 Calls_1 rest_1 Pre_1 Post := by
  intro l hfl _ _ p e ha hc hk s m args below hf hA hF happ hP
  obtain ⟨hcalls, hrest, hpre⟩ := hP
  obtain ⟨-, -, -, hnamed, -, -, -, hat⟩ := (Spec.applies_iff hf).mp happ
  obtain ⟨hg, hn⟩ := and_e (Cond.before_iff.mp (show (Jvm.Cond.and given_1 narrow_1).before args s = true from hpre))
  obtain ⟨gg1, gg2⟩ := and_e hg
  obtain ⟨gg3, gg4⟩ := and_e gg2
  obtain ⟨gg5, gg6⟩ := and_e gg4
  obtain ⟨gg7, gg8⟩ := and_e gg6
  obtain ⟨gg9, gg10⟩ := and_e gg8
  obtain ⟨gg11, gg12⟩ := and_e gg10
  obtain ⟨w0, w1, w2, w3, w4, w5, rfl⟩ : ∃ w0 w1 w2 w3 w4 w5 : Value, args = #[w0, w1, w2, w3, w4, w5] := by
    have hs : args.size = 6 := by simpa [Cond.value, given_1] using gg1
    obtain ⟨L⟩ := args
    match L, hs with
    | [w0, w1, w2, w3, w4, w5], _ => exact ⟨w0, w1, w2, w3, w4, w5, rfl⟩
  have hw := fun d (hd : d ∈ tables_1) => atoms_spec (ws := Jvm.Cond.code x code maxLocals ret :: tables_1) hat d (List.mem_cons_of_mem _ hd)
  have W : ∀ {d : Jvm.Cond} (i : Nat), tables_1[i]? = some d → d.before _ s = true := fun i h => hw _ (List.mem_of_getElem? h)
  have hfit : Fit s := fun {y c} hc i hi => by
    obtain ⟨ha, rfl⟩ := Array.getElem?_eq_some_iff.mp hc
    have q := List.all_eq_true.mp ((Array.all_eq_true_iff_forall_mem.mp hF) _ (Array.getElem_mem ha)) i (List.mem_range.mpr hi)
    simpa [Array.getElem?_eq_getElem hi] using q
  obtain ⟨hsets, hown0⟩ := atoms_of _ (rest_1_c_eq ▸ (show rest_1_c.before _ s = true from hrest))
  obtain ⟨i0, ei0⟩ := is_v gg3
  obtain rfl : w0 = (.int i0) := Option.some.inj ei0
  obtain ⟨i1, ei1⟩ := is_v gg5
  obtain rfl : w1 = (.int i1) := Option.some.inj ei1
  obtain ⟨i2, ei2⟩ := is_v gg7
  obtain rfl : w2 = (.int i2) := Option.some.inj ei2
  obtain ⟨i3, ei3⟩ := is_v gg9
  obtain rfl : w3 = (.int i3) := Option.some.inj ei3
  obtain ⟨i4, ei4⟩ := is_v gg11
  obtain rfl : w4 = (.int i4) := Option.some.inj ei4
  obtain ⟨i5, ei5⟩ := is_v gg12
  obtain rfl : w5 = (.int i5) := Option.some.inj ei5
  obtain ⟨ad, ev_ad⟩ := arr_v (Cond.before_iff.mp (hsets _ (List.mem_of_getElem? (i := 9) rfl)))
  have SD := Sta.start ev_ad (Or.inr ⟨(W 54 rfl), (hsets _ (List.mem_of_getElem? (i := 5) rfl))⟩)
  obtain ⟨cd, Ad⟩ := Arr.start ev_ad (Cond.before_iff.mp (hsets _ (List.mem_of_getElem? (i := 9) rfl)))
  have Ld := own_len ev_ad Ad (own_eqI (Cond.before_iff.mp (hsets _ (List.mem_of_getElem? (i := 11) rfl))))
  have VD : Arv s s.heap ad cd.cls (.object "java/lang/Object") (0 : Int32) [] .null := Arv.start hfit Ad Ld.1 Ld.2 (by decide) rfl trivial
  have SB := Sta.start (own_eqI (Cond.before_iff.mp (hsets _ (List.mem_of_getElem? (i := 2) rfl)))) (Or.inl (hsets _ (List.mem_of_getElem? (i := 1) rfl)))
  obtain ⟨nc, ev_nc⟩ := exa_v hn
  have SN := Sta.start ev_nc (Or.inr ⟨(W 47 rfl), (W 150 rfl)⟩)
  have OL := Old.start s
  obtain ⟨n, o, h1, h2, h3, _, L, rfl, ⟨rfl, N⟩, hq⟩ := rm0 l s _ hw tables_1 i0 i1 i2 i3 i4 i5 ad cd.cls nc s.heap s.heap.size (Nat.le_refl _) SD VD SB SN OL p e ha hc hk s m _ below hf ((Spec.applies_iff_loose hf).mp happ).1 ⟨rfl, State.Warmed39.refl s, rfl⟩ trivial
  refine ⟨n, _, h1, h2, h3, hpost _ _ _ _ _ _ ⟨Cond.after_iff.mpr rfl, Cond.after_iff.mpr (eq_i res_at (Term.int_eval (1)) rfl), trivial⟩ ⟨hq.1, hq.2.1, (hq.2.2.sift fun y hy => Or.inr (N y hy)).mono (by decide) (by decide)⟩⟩
theorem main_1_1 : Claimed_1_1 := comes_1 fun _ _ _ _ _ _ h hF => ⟨h.1, hF⟩
theorem main_1_2 : Claimed_1_2 := comes_1 fun _ _ _ _ _ _ h hF => ⟨h.2.1, hF⟩
end Jvm.Pilot.@@N@@
namespace Jvm.Pilot.@@N@@
open Jvm Jvm.ClassFile Sem Op Lib Jvm.Free Jvm.Stand Jvm.Pilot.@@N@@.Jvm.D
/-! MADE BY PROGRAM (witnessworld.py) out of the Statement's table words and the real class files: 25 classes; the members and pool entries that the words name. The judged class is class 1, her method 1. -/
namespace start1
open Jvm.ClassFile
def u (s : String) : CpInfo := .utf8 (stringToUtf16 s)
/-- a pool by its gaps: so many unusable entries, then the entry; so many at the end -/
def gap : Nat → List CpInfo → List CpInfo
  | 0, r => r
  | n + 1, r => .unusable :: gap n r
def poolList (es : List (Nat × CpInfo)) (last : Nat) : List CpInfo := es.foldr (fun e r => gap e.1 (e.2 :: r)) (gap last [])
def pool (es : List (Nat × CpInfo)) (last : Nat) : Array CpInfo := ⟨poolList es last⟩
def fileOf (pool : Array CpInfo) (this : Nat) (attrs : Array Attribute := #[]) (ms : Array MethodInfo := #[]) (fl : Nat := 33) (sup : Nat := 0) (ifs : Array Nat := #[]) (fds : Array FieldInfo := #[]) : ClassFile where
  minorVersion := 0
  majorVersion := 65
  constantPool := pool
  accessFlags := fl
  thisClass := this
  superClass := sup
  interfaces := ifs
  fields := fds
  methods := ms
  attributes := attrs
def plain (name : String) (sup : Option ClassId) : Class where
  name := name
  kind := .ordinary
  loader := none
  accessFlags := 33
  super := sup
  interfaces := #[]
  cf := none
  fields := #[]
  methods := #[]
  instanceTypes := #[]
  staticTypes := #[]
  resolved := #[]
  callSites := []
  init := .initialized
  statics := none
  mirror := none

def pool0 : Array CpInfo := pool [(5, u "<init>"), (0, u "()V"), (1, .class_ 10), (1, u "java/lang/Object")] 113

def k0c0 : Code := { maxStack := 0, maxLocals := 1, code := object_method_1_code, exceptionTable := #[], attributes := #[] }
def k0m0 : Method := { name := "<init>", desc := "()V", sig := { parameters := [], returnType := none }, accessFlags := 1, code := some k0c0 }
/-- java/lang/Object -/
def k0 : Class := { plain "java/lang/Object" none with
  accessFlags := 33
  interfaces := #[]
  cf := some (fileOf pool0 8 #[] #[{ accessFlags := 1, nameIndex := 5, descriptorIndex := 6, attributes := #[] }] 33 0 #[] #[])
  fields := #[]
  methods := #[k0m0]
  instanceTypes := #[]
  staticTypes := #[]
  resolved := Array.replicate 124 none
  statics := none }

def pool1 : Array CpInfo := pool [(2, .class_ 4), (0, .nameAndType 5 6), (0, u "java/lang/Object"), (0, u "<init>"), (0, u "()V"), (0, .class_ 8), (0, u "java/util/BitSet"), (0, .methodref 7 3), (0, .methodref 7 11), (0, .nameAndType 12 13), (0, u "set"), (0, u "(I)V"), (0, .class_ 15), (0, u "com/example/brancher/brancher/service/Group"), (0, .methodref 14 17), (0, .nameAndType 5 13), (0, .methodref 14 19), (0, .nameAndType 20 21), (0, u "choices"), (0, u "(II)Ljava/util/BitSet;"), (0, .fieldref 14 23), (0, .nameAndType 24 25), (0, u "NO_CHOICES"), (0, u "Ljava/util/BitSet;"), (0, .methodref 14 27), (0, .nameAndType 28 29), (0, u "rest"), (0, u "(IILjava/util/BitSet;I)V"), (0, .class_ 31), (0, u "com/example/brancher/brancher/service/GroupChoicesPinLaw"), (2, u "law"), (0, u "(IIIIII)Z")] 3

def k1m0 : Method := { name := "<init>", desc := "()V", sig := { parameters := [], returnType := none }, accessFlags := 1, code := none }
def k1c1 : Code := { maxStack := 5, maxLocals := 22, code := code, exceptionTable := #[], attributes := #[] }
def k1m1 : Method := { name := "law", desc := "(IIIIII)Z", sig := { parameters := [.int, .int, .int, .int, .int, .int], returnType := some .boolean }, accessFlags := 9, code := some k1c1 }
/-- com/example/brancher/brancher/service/GroupChoicesPinLaw -/
def k1 : Class := { plain "com/example/brancher/brancher/service/GroupChoicesPinLaw" (some 0) with
  accessFlags := 49
  interfaces := #[]
  cf := some (fileOf pool1 30 #[] #[{ accessFlags := 1, nameIndex := 5, descriptorIndex := 6, attributes := #[] }, { accessFlags := 9, nameIndex := 34, descriptorIndex := 35, attributes := #[] }] 49 2 #[] #[])
  fields := #[]
  methods := #[k1m0, k1m1]
  instanceTypes := #[]
  staticTypes := #[]
  resolved := Array.replicate 39 none
  statics := none }

def pool2 : Array CpInfo := pool [(1, .class_ 2), (0, u "java/lang/Cloneable"), (0, .class_ 4), (0, u "java/lang/Object")] 2

/-- java/lang/Cloneable -/
def k2 : Class := { plain "java/lang/Cloneable" (some 0) with
  accessFlags := 1537
  interfaces := #[]
  cf := some (fileOf pool2 1 #[] #[] 1537 3 #[] #[])
  fields := #[]
  methods := #[]
  instanceTypes := #[]
  staticTypes := #[]
  resolved := Array.replicate 7 none
  statics := none }

def pool3 : Array CpInfo := pool [(1, .class_ 2), (0, u "java/io/Serializable"), (0, .class_ 4), (0, u "java/lang/Object")] 2

/-- java/io/Serializable -/
def k3 : Class := { plain "java/io/Serializable" (some 0) with
  accessFlags := 1537
  interfaces := #[]
  cf := some (fileOf pool3 1 #[] #[] 1537 3 #[] #[])
  fields := #[]
  methods := #[]
  instanceTypes := #[]
  staticTypes := #[]
  resolved := Array.replicate 7 none
  statics := none }

def pool4 : Array CpInfo := pool [(1, .class_ 2), (0, u "java/util/BitSet"), (0, .fieldref 1 4), (0, .nameAndType 5 6), (0, u "$assertionsDisabled"), (0, u "Z"), (0, .fieldref 1 8), (0, .nameAndType 9 10), (0, u "wordsInUse"), (0, u "I"), (0, .fieldref 1 12), (0, .nameAndType 13 14), (0, u "words"), (0, u "[J"), (3, .nameAndType 19 20), (0, u "<init>"), (0, u "()V"), (0, .methodref 22 18), (0, .class_ 23), (0, u "java/lang/Object"), (0, .fieldref 1 25), (0, .nameAndType 26 6), (0, u "sizeIsSticky"), (0, .methodref 1 28), (0, .nameAndType 29 30), (0, u "initWords"), (0, u "(I)V"), (21, .methodref 1 53), (0, .nameAndType 54 55), (0, u "wordIndex"), (0, u "(I)I"), (0, .methodref 1 57), (0, .nameAndType 58 20), (0, u "checkInvariants"), (80, .methodref 1 140), (0, .nameAndType 141 30), (0, u "ensureCapacity"), (13, .methodref 1 156), (0, .nameAndType 157 30), (0, u "expandTo"), (11, u "set"), (99, .class_ 270), (0, u "java/util/BitSet$1BitSetSpliterator"), (14, u "()Z"), (7, u "serialPersistentFields"), (0, u "[Ljava/io/ObjectStreamField;"), (0, .class_ 296), (0, u "java/lang/Cloneable"), (0, .class_ 298), (0, u "java/io/Serializable"), (0, u "ADDRESS_BITS_PER_WORD"), (2, u "BITS_PER_WORD"), (1, u "BIT_INDEX_MASK"), (1, u "WORD_MASK"), (0, u "J"), (0, u "serialVersionUID"), (52, u "isEmpty")] 55

def k4c0 : Code := { maxStack := 2, maxLocals := 1, code := jdk_92_method_1_code, exceptionTable := #[], attributes := #[] }
def k4m0 : Method := { name := "wordIndex", desc := "(I)I", sig := { parameters := [.int], returnType := some .int }, accessFlags := 10, code := some k4c0 }
def k4c1 : Code := { maxStack := 4, maxLocals := 1, code := jdk_92_method_2_code, exceptionTable := #[], attributes := #[] }
def k4m1 : Method := { name := "checkInvariants", desc := "()V", sig := { parameters := [], returnType := none }, accessFlags := 2, code := some k4c1 }
def k4c2 : Code := { maxStack := 2, maxLocals := 1, code := jdk_92_method_4_code, exceptionTable := #[], attributes := #[] }
def k4m2 : Method := { name := "<init>", desc := "()V", sig := { parameters := [], returnType := none }, accessFlags := 1, code := some k4c2 }
def k4c3 : Code := { maxStack := 3, maxLocals := 2, code := jdk_92_method_6_code, exceptionTable := #[], attributes := #[] }
def k4m3 : Method := { name := "initWords", desc := "(I)V", sig := { parameters := [.int], returnType := none }, accessFlags := 2, code := some k4c3 }
def k4c4 : Code := { maxStack := 3, maxLocals := 3, code := jdk_92_method_14_code, exceptionTable := #[], attributes := #[] }
def k4m4 : Method := { name := "ensureCapacity", desc := "(I)V", sig := { parameters := [.int], returnType := none }, accessFlags := 2, code := some k4c4 }
def k4c5 : Code := { maxStack := 2, maxLocals := 3, code := jdk_92_method_15_code, exceptionTable := #[], attributes := #[] }
def k4m5 : Method := { name := "expandTo", desc := "(I)V", sig := { parameters := [.int], returnType := none }, accessFlags := 2, code := some k4c5 }
def k4c6 : Code := { maxStack := 7, maxLocals := 3, code := jdk_92_method_19_code, exceptionTable := #[], attributes := #[] }
def k4m6 : Method := { name := "set", desc := "(I)V", sig := { parameters := [.int], returnType := none }, accessFlags := 1, code := some k4c6 }
def k4c7 : Code := { maxStack := 1, maxLocals := 1, code := jdk_92_method_33_code, exceptionTable := #[], attributes := #[] }
def k4m7 : Method := { name := "isEmpty", desc := "()Z", sig := { parameters := [], returnType := some .boolean }, accessFlags := 1, code := some k4c7 }
/-- java/util/BitSet -/
def k4 : Class := { plain "java/util/BitSet" (some 0) with
  accessFlags := 33
  interfaces := #[2, 3]
  cf := some (fileOf pool4 1 #[.nestMembers #[269]] #[{ accessFlags := 10, nameIndex := 54, descriptorIndex := 55, attributes := #[] }, { accessFlags := 2, nameIndex := 58, descriptorIndex := 20, attributes := #[] }, { accessFlags := 1, nameIndex := 19, descriptorIndex := 20, attributes := #[] }, { accessFlags := 2, nameIndex := 29, descriptorIndex := 30, attributes := #[] }, { accessFlags := 2, nameIndex := 141, descriptorIndex := 30, attributes := #[] }, { accessFlags := 2, nameIndex := 157, descriptorIndex := 30, attributes := #[] }, { accessFlags := 1, nameIndex := 169, descriptorIndex := 30, attributes := #[] }, { accessFlags := 1, nameIndex := 361, descriptorIndex := 285, attributes := #[] }] 33 22 #[295, 297] #[{ accessFlags := 26, nameIndex := 299, descriptorIndex := 10, attributes := #[] }, { accessFlags := 26, nameIndex := 302, descriptorIndex := 10, attributes := #[] }, { accessFlags := 26, nameIndex := 304, descriptorIndex := 10, attributes := #[] }, { accessFlags := 26, nameIndex := 306, descriptorIndex := 307, attributes := #[] }, { accessFlags := 26, nameIndex := 293, descriptorIndex := 294, attributes := #[] }, { accessFlags := 2, nameIndex := 13, descriptorIndex := 14, attributes := #[] }, { accessFlags := 130, nameIndex := 9, descriptorIndex := 10, attributes := #[] }, { accessFlags := 130, nameIndex := 26, descriptorIndex := 6, attributes := #[] }, { accessFlags := 26, nameIndex := 308, descriptorIndex := 307, attributes := #[] }, { accessFlags := 4120, nameIndex := 5, descriptorIndex := 6, attributes := #[] }])
  fields := #[{ name := "ADDRESS_BITS_PER_WORD", type := .int, accessFlags := 26, slot := 0, constantValue := 0 }, { name := "BITS_PER_WORD", type := .int, accessFlags := 26, slot := 1, constantValue := 0 }, { name := "BIT_INDEX_MASK", type := .int, accessFlags := 26, slot := 2, constantValue := 0 }, { name := "WORD_MASK", type := .long, accessFlags := 26, slot := 3, constantValue := 0 }, { name := "serialPersistentFields", type := (.array (.object "java/io/ObjectStreamField")), accessFlags := 26, slot := 4, constantValue := 0 }, { name := "words", type := (.array .long), accessFlags := 2, slot := 0, constantValue := 0 }, { name := "wordsInUse", type := .int, accessFlags := 130, slot := 1, constantValue := 0 }, { name := "sizeIsSticky", type := .boolean, accessFlags := 130, slot := 2, constantValue := 0 }, { name := "serialVersionUID", type := .long, accessFlags := 26, slot := 5, constantValue := 0 }, { name := "$assertionsDisabled", type := .boolean, accessFlags := 4120, slot := 6, constantValue := 0 }]
  methods := #[k4m0, k4m1, k4m2, k4m3, k4m4, k4m5, k4m6, k4m7]
  instanceTypes := #[(.array .long), .int, .boolean]
  staticTypes := #[.int, .int, .int, .long, (.array (.object "java/io/ObjectStreamField")), .long, .boolean]
  resolved := Array.replicate 417 none
  statics := some 0 }

def pool5 : Array CpInfo := pool [(1, .methodref 2 3), (0, .class_ 4), (0, .nameAndType 5 6), (0, u "java/lang/Object"), (0, u "<init>"), (0, u "()V"), (0, .class_ 8), (0, u "java/util/ArrayList"), (0, .methodref 7 3), (0, .fieldref 11 12), (0, .class_ 13), (0, .nameAndType 14 15), (0, u "com/example/brancher/brancher/service/Group"), (0, u "edges"), (0, u "Ljava/util/List;"), (0, .class_ 17), (0, u "com/example/brancher/brancher/service/Element"), (0, .fieldref 11 19), (0, .nameAndType 20 21), (0, u "elements"), (0, u "[Lcom/example/brancher/brancher/service/Element;"), (0, .fieldref 11 23), (0, .nameAndType 24 25), (0, u "parent"), (0, u "Lcom/example/brancher/brancher/service/Group$Parent;"), (0, .fieldref 11 27), (0, .nameAndType 28 29), (0, u "level"), (0, u "I"), (0, .class_ 31), (0, u "[Ljava/util/BitSet;"), (0, .fieldref 11 33), (0, .nameAndType 34 35), (0, u "choices"), (0, u "[[Ljava/util/BitSet;"), (0, .methodref 16 3), (0, .interfaceMethodref 38 39), (0, .class_ 40), (0, .nameAndType 41 42), (0, u "java/util/List"), (0, u "add"), (0, u "(Ljava/lang/Object;)Z"), (1, .class_ 46), (1, u "com/example/brancher/brancher/service/Group$Parent"), (10, .class_ 58), (0, u "com/example/brancher/brancher/service/Group$Edge"), (9, .fieldref 11 69), (0, .nameAndType 70 71), (0, u "NO_CHOICES"), (0, u "Ljava/util/BitSet;"), (0, .methodref 73 74), (0, .class_ 75), (0, .nameAndType 76 77), (0, u "java/util/BitSet"), (0, u "isEmpty"), (0, u "()Z"), (3, u "blocker"), (0, u "Lcom/example/brancher/brancher/service/Element;"), (0, u "(I)V"), (6, u "(II)Ljava/util/BitSet;"), (0, u "rest"), (0, u "(IILjava/util/BitSet;I)V")] 7

def k5c0 : Code := { maxStack := 4, maxLocals := 3, code := prog_74_method_1_code, exceptionTable := #[], attributes := #[] }
def k5m0 : Method := { name := "<init>", desc := "(I)V", sig := { parameters := [.int], returnType := none }, accessFlags := 0, code := some k5c0 }
def k5c1 : Code := { maxStack := 2, maxLocals := 5, code := prog_74_method_4_code, exceptionTable := #[], attributes := #[] }
def k5m1 : Method := { name := "choices", desc := "(II)Ljava/util/BitSet;", sig := { parameters := [.int, .int], returnType := some (.object "java/util/BitSet") }, accessFlags := 0, code := some k5c1 }
def k5c2 : Code := { maxStack := 3, maxLocals := 5, code := prog_74_method_5_code, exceptionTable := #[], attributes := #[] }
def k5m2 : Method := { name := "rest", desc := "(IILjava/util/BitSet;I)V", sig := { parameters := [.int, .int, (.object "java/util/BitSet"), .int], returnType := none }, accessFlags := 0, code := some k5c2 }
/-- com/example/brancher/brancher/service/Group -/
def k5 : Class := { plain "com/example/brancher/brancher/service/Group" (some 0) with
  accessFlags := 32
  interfaces := #[]
  cf := some (fileOf pool5 11 #[.nestMembers #[57, 44]] #[{ accessFlags := 0, nameIndex := 5, descriptorIndex := 83, attributes := #[] }, { accessFlags := 0, nameIndex := 34, descriptorIndex := 90, attributes := #[] }, { accessFlags := 0, nameIndex := 91, descriptorIndex := 92, attributes := #[] }] 32 2 #[] #[{ accessFlags := 24, nameIndex := 70, descriptorIndex := 71, attributes := #[] }, { accessFlags := 16, nameIndex := 20, descriptorIndex := 21, attributes := #[] }, { accessFlags := 16, nameIndex := 24, descriptorIndex := 25, attributes := #[] }, { accessFlags := 16, nameIndex := 28, descriptorIndex := 29, attributes := #[] }, { accessFlags := 16, nameIndex := 14, descriptorIndex := 15, attributes := #[] }, { accessFlags := 0, nameIndex := 81, descriptorIndex := 82, attributes := #[] }, { accessFlags := 18, nameIndex := 34, descriptorIndex := 35, attributes := #[] }])
  fields := #[{ name := "NO_CHOICES", type := (.object "java/util/BitSet"), accessFlags := 24, slot := 0, constantValue := 0 }, { name := "elements", type := (.array (.object "com/example/brancher/brancher/service/Element")), accessFlags := 16, slot := 0, constantValue := 0 }, { name := "parent", type := (.object "com/example/brancher/brancher/service/Group$Parent"), accessFlags := 16, slot := 1, constantValue := 0 }, { name := "level", type := .int, accessFlags := 16, slot := 2, constantValue := 0 }, { name := "edges", type := (.object "java/util/List"), accessFlags := 16, slot := 3, constantValue := 0 }, { name := "blocker", type := (.object "com/example/brancher/brancher/service/Element"), accessFlags := 0, slot := 4, constantValue := 0 }, { name := "choices", type := (.array (.array (.object "java/util/BitSet"))), accessFlags := 18, slot := 5, constantValue := 0 }]
  methods := #[k5m0, k5m1, k5m2]
  instanceTypes := #[(.array (.object "com/example/brancher/brancher/service/Element")), (.object "com/example/brancher/brancher/service/Group$Parent"), .int, (.object "java/util/List"), (.object "com/example/brancher/brancher/service/Element"), (.array (.array (.object "java/util/BitSet")))]
  staticTypes := #[(.object "java/util/BitSet")]
  resolved := Array.replicate 100 none
  statics := some 1 }

def pool6 : Array CpInfo := pool [(8, .class_ 10), (1, u "java/lang/Iterable"), (24, .class_ 36), (0, u "java/lang/Object")] 25

/-- java/lang/Iterable -/
def k6 : Class := { plain "java/lang/Iterable" (some 0) with
  accessFlags := 1537
  interfaces := #[]
  cf := some (fileOf pool6 8 #[] #[] 1537 35 #[] #[])
  fields := #[]
  methods := #[]
  instanceTypes := #[]
  staticTypes := #[]
  resolved := Array.replicate 62 none
  statics := none }

def pool7 : Array CpInfo := pool [(10, .class_ 12), (1, u "java/util/Collection"), (47, .class_ 61), (0, u "java/lang/Object"), (0, .class_ 63), (0, u "java/lang/Iterable")] 51

/-- java/util/Collection -/
def k7 : Class := { plain "java/util/Collection" (some 0) with
  accessFlags := 1537
  interfaces := #[6]
  cf := some (fileOf pool7 10 #[] #[] 1537 60 #[62] #[])
  fields := #[]
  methods := #[]
  instanceTypes := #[]
  staticTypes := #[]
  resolved := Array.replicate 115 none
  statics := none }

def pool8 : Array CpInfo := pool [(1, .methodref 2 3), (0, .class_ 4), (0, .nameAndType 5 6), (0, u "java/lang/Object"), (0, u "<init>"), (0, u "()V"), (1, .class_ 10), (1, u "java/util/AbstractCollection"), (66, .class_ 78), (0, u "java/util/Collection")] 81

def k8c0 : Code := { maxStack := 1, maxLocals := 1, code := jdk_22_method_1_code, exceptionTable := #[], attributes := #[] }
def k8m0 : Method := { name := "<init>", desc := "()V", sig := { parameters := [], returnType := none }, accessFlags := 4, code := some k8c0 }
/-- java/util/AbstractCollection -/
def k8 : Class := { plain "java/util/AbstractCollection" (some 0) with
  accessFlags := 1057
  interfaces := #[7]
  cf := some (fileOf pool8 8 #[] #[{ accessFlags := 4, nameIndex := 5, descriptorIndex := 6, attributes := #[] }] 1057 2 #[77] #[])
  fields := #[]
  methods := #[k8m0]
  instanceTypes := #[]
  staticTypes := #[]
  resolved := Array.replicate 160 none
  statics := none }

def pool9 : Array CpInfo := pool [(8, .class_ 10), (1, u "java/util/SequencedCollection"), (15, .class_ 27), (0, u "java/lang/Object"), (0, .class_ 29), (0, u "java/util/Collection")] 27

/-- java/util/SequencedCollection -/
def k9 : Class := { plain "java/util/SequencedCollection" (some 0) with
  accessFlags := 1537
  interfaces := #[7]
  cf := some (fileOf pool9 8 #[] #[] 1537 26 #[28] #[])
  fields := #[]
  methods := #[]
  instanceTypes := #[]
  staticTypes := #[]
  resolved := Array.replicate 57 none
  statics := none }

def pool10 : Array CpInfo := pool [(8, .class_ 10), (1, u "java/util/List"), (49, u "add"), (3, u "(Ljava/lang/Object;)Z"), (38, .class_ 104), (0, u "java/lang/Object"), (15, .class_ 121), (0, u "java/util/SequencedCollection")] 129

def k10m0 : Method := { name := "add", desc := "(Ljava/lang/Object;)Z", sig := { parameters := [(.object "java/lang/Object")], returnType := some .boolean }, accessFlags := 1025, code := none }
/-- java/util/List -/
def k10 : Class := { plain "java/util/List" (some 0) with
  accessFlags := 1537
  interfaces := #[9]
  cf := some (fileOf pool10 8 #[] #[{ accessFlags := 1025, nameIndex := 60, descriptorIndex := 64, attributes := #[] }] 1537 103 #[120] #[])
  fields := #[]
  methods := #[k10m0]
  instanceTypes := #[]
  staticTypes := #[]
  resolved := Array.replicate 251 none
  statics := none }

def pool11 : Array CpInfo := pool [(1, .methodref 2 3), (0, .class_ 4), (0, .nameAndType 5 6), (0, u "java/util/AbstractCollection"), (0, u "<init>"), (0, u "()V"), (0, .fieldref 8 9), (0, .class_ 10), (0, .nameAndType 11 12), (0, u "java/util/AbstractList"), (0, u "modCount"), (0, u "I"), (64, .class_ 78), (0, u "java/util/AbstractList$Itr"), (3, .class_ 83), (0, u "java/util/AbstractList$ListItr"), (9, .class_ 94), (0, u "java/util/AbstractList$RandomAccessSubList"), (3, .class_ 99), (0, u "java/util/AbstractList$SubList"), (33, .class_ 134), (0, u "java/util/List"), (73, .class_ 209), (0, u "java/util/AbstractList$SubList$1"), (0, .class_ 211), (0, u "java/util/AbstractList$RandomAccessSpliterator")] 6

def k11c0 : Code := { maxStack := 2, maxLocals := 1, code := jdk_39_method_1_code, exceptionTable := #[], attributes := #[] }
def k11m0 : Method := { name := "<init>", desc := "()V", sig := { parameters := [], returnType := none }, accessFlags := 4, code := some k11c0 }
/-- java/util/AbstractList -/
def k11 : Class := { plain "java/util/AbstractList" (some 8) with
  accessFlags := 1057
  interfaces := #[10]
  cf := some (fileOf pool11 8 #[.nestMembers #[93, 98, 208, 210, 82, 77]] #[{ accessFlags := 4, nameIndex := 5, descriptorIndex := 6, attributes := #[] }] 1057 2 #[133] #[{ accessFlags := 132, nameIndex := 11, descriptorIndex := 12, attributes := #[] }])
  fields := #[{ name := "modCount", type := .int, accessFlags := 132, slot := 0, constantValue := 0 }]
  methods := #[k11m0]
  instanceTypes := #[.int]
  staticTypes := #[]
  resolved := Array.replicate 218 none
  statics := none }

def pool12 : Array CpInfo := pool [(1, .class_ 2), (0, u "java/util/RandomAccess"), (0, .class_ 4), (0, u "java/lang/Object")] 2

/-- java/util/RandomAccess -/
def k12 : Class := { plain "java/util/RandomAccess" (some 0) with
  accessFlags := 1537
  interfaces := #[]
  cf := some (fileOf pool12 1 #[] #[] 1537 3 #[] #[])
  fields := #[]
  methods := #[]
  instanceTypes := #[]
  staticTypes := #[]
  resolved := Array.replicate 7 none
  statics := none }

def pool13 : Array CpInfo := pool [(1, .methodref 2 3), (0, .class_ 4), (0, .nameAndType 5 6), (0, u "java/util/AbstractList"), (0, u "<init>"), (0, u "()V"), (0, .class_ 8), (0, u "java/lang/Object"), (0, .fieldref 10 11), (0, .class_ 12), (0, .nameAndType 13 14), (0, u "java/util/ArrayList"), (0, u "elementData"), (0, u "[Ljava/lang/Object;"), (2, u "EMPTY_ELEMENTDATA"), (21, .fieldref 10 40), (0, .nameAndType 41 14), (0, u "DEFAULTCAPACITY_EMPTY_ELEMENTDATA"), (5, u "()[Ljava/lang/Object;"), (0, .fieldref 10 49), (0, .nameAndType 50 51), (0, u "size"), (0, u "I"), (11, .fieldref 10 64), (0, .nameAndType 65 51), (0, u "modCount"), (3, .methodref 10 70), (0, .nameAndType 71 72), (0, u "grow"), (0, u "(I)[Ljava/lang/Object;"), (6, .methodref 80 81), (0, .class_ 82), (0, .nameAndType 83 84), (0, u "java/lang/Math"), (0, u "max"), (0, u "(II)I"), (11, u "(Ljava/lang/Object;)Z"), (32, .methodref 10 130), (0, .nameAndType 71 47), (0, .methodref 10 132), (0, .nameAndType 133 134), (0, u "add"), (0, u "(Ljava/lang/Object;[Ljava/lang/Object;I)V"), (13, .class_ 149), (0, u "java/util/List"), (112, .class_ 263), (0, u "java/util/ArrayList$ListItr"), (3, .class_ 268), (0, u "java/util/ArrayList$Itr"), (7, .class_ 277), (0, u "java/util/ArrayList$SubList"), (12, .class_ 291), (0, u "java/util/ArrayList$ArrayListSpliterator"), (37, .class_ 330), (0, u "java/util/RandomAccess"), (0, .class_ 332), (0, u "java/lang/Cloneable"), (0, .class_ 334), (0, u "java/io/Serializable"), (0, u "serialVersionUID"), (0, u "J"), (3, u "DEFAULT_CAPACITY"), (159, .class_ 501), (0, u "java/util/ArrayList$SubList$2"), (0, .class_ 503), (0, u "java/util/ArrayList$SubList$1")] 5

def k13c0 : Code := { maxStack := 2, maxLocals := 1, code := jdk_38_method_2_code, exceptionTable := #[], attributes := #[] }
def k13m0 : Method := { name := "<init>", desc := "()V", sig := { parameters := [], returnType := none }, accessFlags := 1, code := some k13c0 }
def k13c1 : Code := { maxStack := 4, maxLocals := 4, code := jdk_38_method_6_code, exceptionTable := #[], attributes := #[] }
def k13m1 : Method := { name := "grow", desc := "(I)[Ljava/lang/Object;", sig := { parameters := [.int], returnType := some (.array (.object "java/lang/Object")) }, accessFlags := 2, code := some k13c1 }
def k13c2 : Code := { maxStack := 3, maxLocals := 1, code := jdk_38_method_7_code, exceptionTable := #[], attributes := #[] }
def k13m2 : Method := { name := "grow", desc := "()[Ljava/lang/Object;", sig := { parameters := [], returnType := some (.array (.object "java/lang/Object")) }, accessFlags := 2, code := some k13c2 }
def k13c3 : Code := { maxStack := 3, maxLocals := 4, code := jdk_38_method_24_code, exceptionTable := #[], attributes := #[] }
def k13m3 : Method := { name := "add", desc := "(Ljava/lang/Object;[Ljava/lang/Object;I)V", sig := { parameters := [(.object "java/lang/Object"), (.array (.object "java/lang/Object")), .int], returnType := none }, accessFlags := 2, code := some k13c3 }
def k13c4 : Code := { maxStack := 4, maxLocals := 2, code := jdk_38_method_25_code, exceptionTable := #[], attributes := #[] }
def k13m4 : Method := { name := "add", desc := "(Ljava/lang/Object;)Z", sig := { parameters := [(.object "java/lang/Object")], returnType := some .boolean }, accessFlags := 1, code := some k13c4 }
/-- java/util/ArrayList -/
def k13 : Class := { plain "java/util/ArrayList" (some 11) with
  accessFlags := 33
  interfaces := #[10, 12, 2, 3]
  cf := some (fileOf pool13 10 #[.nestMembers #[290, 276, 500, 502, 262, 267]] #[{ accessFlags := 1, nameIndex := 5, descriptorIndex := 6, attributes := #[] }, { accessFlags := 2, nameIndex := 71, descriptorIndex := 72, attributes := #[] }, { accessFlags := 2, nameIndex := 71, descriptorIndex := 47, attributes := #[] }, { accessFlags := 2, nameIndex := 133, descriptorIndex := 134, attributes := #[] }, { accessFlags := 1, nameIndex := 133, descriptorIndex := 96, attributes := #[] }] 33 2 #[148, 329, 331, 333] #[{ accessFlags := 26, nameIndex := 335, descriptorIndex := 336, attributes := #[] }, { accessFlags := 26, nameIndex := 340, descriptorIndex := 51, attributes := #[] }, { accessFlags := 26, nameIndex := 17, descriptorIndex := 14, attributes := #[] }, { accessFlags := 26, nameIndex := 41, descriptorIndex := 14, attributes := #[] }, { accessFlags := 128, nameIndex := 13, descriptorIndex := 14, attributes := #[] }, { accessFlags := 2, nameIndex := 50, descriptorIndex := 51, attributes := #[] }])
  fields := #[{ name := "serialVersionUID", type := .long, accessFlags := 26, slot := 0, constantValue := 0 }, { name := "DEFAULT_CAPACITY", type := .int, accessFlags := 26, slot := 1, constantValue := 0 }, { name := "EMPTY_ELEMENTDATA", type := (.array (.object "java/lang/Object")), accessFlags := 26, slot := 2, constantValue := 0 }, { name := "DEFAULTCAPACITY_EMPTY_ELEMENTDATA", type := (.array (.object "java/lang/Object")), accessFlags := 26, slot := 3, constantValue := 0 }, { name := "elementData", type := (.array (.object "java/lang/Object")), accessFlags := 128, slot := 1, constantValue := 0 }, { name := "size", type := .int, accessFlags := 2, slot := 2, constantValue := 0 }]
  methods := #[k13m0, k13m1, k13m2, k13m3, k13m4]
  instanceTypes := #[.int, (.array (.object "java/lang/Object")), .int]
  staticTypes := #[.long, .int, (.array (.object "java/lang/Object")), (.array (.object "java/lang/Object"))]
  resolved := Array.replicate 509 none
  statics := some 2 }

def pool14 : Array CpInfo := pool [(1, .methodref 2 3), (0, .class_ 4), (0, .nameAndType 5 6), (0, u "java/lang/Object"), (0, u "<init>"), (0, u "()V"), (0, .class_ 8), (0, u "java/util/BitSet"), (0, .methodref 7 3), (0, .fieldref 11 12), (0, .class_ 13), (0, .nameAndType 14 15), (0, u "com/example/brancher/brancher/service/Element"), (0, u "names"), (0, u "Ljava/util/BitSet;"), (0, .class_ 17), (0, u "java/util/ArrayList"), (0, .methodref 16 3), (0, .fieldref 11 20), (0, .nameAndType 21 22), (0, u "roles"), (0, u "Ljava/util/List;"), (0, .fieldref 11 24), (0, .nameAndType 25 22), (0, u "successors"), (0, .fieldref 11 27), (0, .nameAndType 28 22), (0, u "slots"), (15, .class_ 45), (0, u "com/example/brancher/brancher/service/Element$Slot")] 2

def k14c0 : Code := { maxStack := 3, maxLocals := 1, code := prog_67_method_1_code, exceptionTable := #[], attributes := #[] }
def k14m0 : Method := { name := "<init>", desc := "()V", sig := { parameters := [], returnType := none }, accessFlags := 0, code := some k14c0 }
/-- com/example/brancher/brancher/service/Element -/
def k14 : Class := { plain "com/example/brancher/brancher/service/Element" (some 0) with
  accessFlags := 32
  interfaces := #[]
  cf := some (fileOf pool14 11 #[.nestMembers #[44]] #[{ accessFlags := 0, nameIndex := 5, descriptorIndex := 6, attributes := #[] }] 32 2 #[] #[{ accessFlags := 16, nameIndex := 14, descriptorIndex := 15, attributes := #[] }, { accessFlags := 16, nameIndex := 21, descriptorIndex := 22, attributes := #[] }, { accessFlags := 16, nameIndex := 25, descriptorIndex := 22, attributes := #[] }, { accessFlags := 16, nameIndex := 28, descriptorIndex := 22, attributes := #[] }])
  fields := #[{ name := "names", type := (.object "java/util/BitSet"), accessFlags := 16, slot := 0, constantValue := 0 }, { name := "roles", type := (.object "java/util/List"), accessFlags := 16, slot := 1, constantValue := 0 }, { name := "successors", type := (.object "java/util/List"), accessFlags := 16, slot := 2, constantValue := 0 }, { name := "slots", type := (.object "java/util/List"), accessFlags := 16, slot := 3, constantValue := 0 }]
  methods := #[k14m0]
  instanceTypes := #[(.object "java/util/BitSet"), (.object "java/util/List"), (.object "java/util/List"), (.object "java/util/List")]
  staticTypes := #[]
  resolved := Array.replicate 48 none
  statics := none }

def pool15 : Array CpInfo := pool [(1, .class_ 2), (0, u "java/lang/Math"), (1, .class_ 6), (1, u "java/lang/Object"), (0, u "<init>"), (0, u "()V"), (89, .class_ 100), (1, u "java/lang/Math$RandomNumberGeneratorHolder"), (71, u "negativeZeroFloatBits"), (0, u "J"), (2, u "negativeZeroDoubleBits"), (21, u "max"), (46, u "$assertionsDisabled"), (0, u "Z"), (88, u "(II)I"), (2, u "twoToTheDoubleScaleDown"), (0, u "D"), (4, u "twoToTheDoubleScaleUp"), (9, u "E"), (3, u "PI"), (2, u "TAU"), (2, u "DEGREES_TO_RADIANS"), (0, u "RADIANS_TO_DEGREES")] 94

def k15m0 : Method := { name := "<init>", desc := "()V", sig := { parameters := [], returnType := none }, accessFlags := 2, code := none }
def k15c1 : Code := { maxStack := 2, maxLocals := 2, code := jdk_29_method_65_code, exceptionTable := #[], attributes := #[] }
def k15m1 : Method := { name := "max", desc := "(II)I", sig := { parameters := [.int, .int], returnType := some .int }, accessFlags := 9, code := some k15c1 }
/-- java/lang/Math -/
def k15 : Class := { plain "java/lang/Math" (some 0) with
  accessFlags := 49
  interfaces := #[]
  cf := some (fileOf pool15 1 #[.nestMembers #[98]] #[{ accessFlags := 2, nameIndex := 7, descriptorIndex := 8, attributes := #[] }, { accessFlags := 9, nameIndex := 198, descriptorIndex := 335, attributes := #[] }] 49 4 #[] #[{ accessFlags := 25, nameIndex := 354, descriptorIndex := 339, attributes := #[] }, { accessFlags := 25, nameIndex := 358, descriptorIndex := 339, attributes := #[] }, { accessFlags := 25, nameIndex := 361, descriptorIndex := 339, attributes := #[] }, { accessFlags := 26, nameIndex := 364, descriptorIndex := 339, attributes := #[] }, { accessFlags := 26, nameIndex := 365, descriptorIndex := 339, attributes := #[] }, { accessFlags := 26, nameIndex := 172, descriptorIndex := 173, attributes := #[] }, { accessFlags := 26, nameIndex := 176, descriptorIndex := 173, attributes := #[] }, { accessFlags := 8, nameIndex := 344, descriptorIndex := 339, attributes := #[] }, { accessFlags := 8, nameIndex := 338, descriptorIndex := 339, attributes := #[] }, { accessFlags := 4120, nameIndex := 245, descriptorIndex := 246, attributes := #[] }])
  fields := #[{ name := "E", type := .double, accessFlags := 25, slot := 0, constantValue := 0 }, { name := "PI", type := .double, accessFlags := 25, slot := 1, constantValue := 0 }, { name := "TAU", type := .double, accessFlags := 25, slot := 2, constantValue := 0 }, { name := "DEGREES_TO_RADIANS", type := .double, accessFlags := 26, slot := 3, constantValue := 0 }, { name := "RADIANS_TO_DEGREES", type := .double, accessFlags := 26, slot := 4, constantValue := 0 }, { name := "negativeZeroFloatBits", type := .long, accessFlags := 26, slot := 5, constantValue := 0 }, { name := "negativeZeroDoubleBits", type := .long, accessFlags := 26, slot := 6, constantValue := 0 }, { name := "twoToTheDoubleScaleUp", type := .double, accessFlags := 8, slot := 7, constantValue := 0 }, { name := "twoToTheDoubleScaleDown", type := .double, accessFlags := 8, slot := 8, constantValue := 0 }, { name := "$assertionsDisabled", type := .boolean, accessFlags := 4120, slot := 9, constantValue := 0 }]
  methods := #[k15m0, k15m1]
  instanceTypes := #[]
  staticTypes := #[.double, .double, .double, .double, .double, .long, .long, .double, .double, .boolean]
  resolved := Array.replicate 460 none
  statics := none }

/-- the primitive byte -/
def k16 : Class := { plain "byte" none with kind := .primitive 'B', accessFlags := 0x411 }
/-- [B -/
def k17 : Class := { plain "[B" (some 0) with kind := .array 16 .byte, interfaces := #[2, 3], accessFlags := 1041 }

/-- the primitive int -/
def k18 : Class := { plain "int" none with kind := .primitive 'I', accessFlags := 0x411 }
/-- [I -/
def k19 : Class := { plain "[I" (some 0) with kind := .array 18 .int, interfaces := #[2, 3], accessFlags := 1041 }

/-- the primitive long -/
def k20 : Class := { plain "long" none with kind := .primitive 'J', accessFlags := 0x411 }
/-- [J -/
def k21 : Class := { plain "[J" (some 0) with kind := .array 20 .long, interfaces := #[2, 3], accessFlags := 1041 }

/-- [Lcom/example/brancher/brancher/service/Element; -/
def k22 : Class := { plain "[Lcom/example/brancher/brancher/service/Element;" (some 0) with kind := .array 14 (.object "com/example/brancher/brancher/service/Element"), interfaces := #[2, 3], accessFlags := 1041 }

/-- [Ljava/lang/Object; -/
def k23 : Class := { plain "[Ljava/lang/Object;" (some 0) with kind := .array 0 (.object "java/lang/Object"), interfaces := #[2, 3], accessFlags := 1041 }

/-- [Ljava/util/BitSet; -/
def k24 : Class := { plain "[Ljava/util/BitSet;" (some 0) with kind := .array 4 (.object "java/util/BitSet"), interfaces := #[2, 3], accessFlags := 1041 }

def heap : Heap := #[{ cls := 4, slots := #[.int 0, .int 0, .int 0, .long 0, .null, .long 0, .int 1], vm := .statics 4 },
  { cls := 5, slots := #[.ref 3], vm := .statics 5 },
  { cls := 13, slots := #[.long 0, .int 0, .ref 4, .ref 5], vm := .statics 13 },
  { cls := 4, slots := #[.null, .int 0, .int 0], vm := .none },
  { cls := 23, slots := #[], vm := .none },
  { cls := 23, slots := #[], vm := .none }]
def k25 : Class := { plain "[[Ljava/util/BitSet;" (some 0) with kind := .array 24 (.array (.object "java/util/BitSet")), interfaces := #[2, 3], accessFlags := 1041 }
def classes : Array Class := #[k0, k1, k2, k3, k4, k5, k6, k7, k8, k9, k10, k11, k12, k13, k14, k15, k16, k17, k18, k19, k20, k21, k22, k23, k24, k25]
def interned : List (Array UInt16 × Addr) := []
def slotsUsed : Nat := 15
def theMethod : MethodId := ⟨1, 1⟩
def args0 : Array Value := #[.int 5, .int 1, .int 2, .int 3, .int 4, .int 7]
def aboutOver (below : List Frame) : State where
  vm := { classes := classes, interned := interned.toArray }
  heap := heap
  slotsUsed := slotsUsed
  threads := #[{ frames := .invoking theMethod args0 :: below }]
def below0 : List Frame := [.native { method := ⟨0, 0⟩, args := #[] }]
def about1 : State := aboutOver below0
def p0 : Program := .bare "" "" ""
def e0 : Env := launch0.env 0 0 0
theorem w_frames : about1.frames = Frame.invoking theMethod args0 :: below0 := rfl
set_option maxRecDepth 65536 in
theorem w_args : argsFit about1.vm theMethod args0 = true := by decide +kernel
set_option maxRecDepth 65536 in
theorem w_heap : heapFits about1 = true := by decide +kernel
set_option maxRecDepth 65536 in
theorem w_runnable : about1.curStatus? = some .runnable := by decide +kernel
set_option maxRecDepth 65536 in
theorem w_alone : about1.alone = true := by decide +kernel
set_option maxRecDepth 65536 in
theorem w_named : about1.methodNamed? x = some theMethod := by decide +kernel
set_option maxRecDepth 65536 in
theorem w_hears : about1.hears theMethod below0 = true := by decide +kernel
set_option maxRecDepth 65536 in
theorem w_ripe : about1.ripe theMethod args0 below0 = true := by decide +kernel
theorem w_running : about1.status = .running := rfl
set_option maxRecDepth 65536 in
theorem w_room : about1.hasRoom e0.platform room_1 = true :=
  launch0.hasRoom_least _ room_1 (by decide +kernel) (by decide +kernel) (by decide +kernel) (by decide +kernel) (by decide +kernel) (by decide +kernel)
theorem allAtoms_all (ts : List Jvm.Cond) (a : Array Jvm.Value) (st : Jvm.State) : (allAtoms ts).before a st = ts.all (fun c => c.before a st) := by
  induction ts with
  | nil => rfl
  | cons c t ih =>
    show (Jvm.Cond.and c (allAtoms t)).before a st = _
    rw [Jvm.Cond.before_and, ih, List.all_cons]
def words1 : List Jvm.Cond := Jvm.Cond.code x code maxLocals ret :: tables_1
/-- a 'code' word, met by the world's own term for the bytes: nothing is compared byte by byte -/
theorem code_word {y : MethodName} {bytes : ByteArray} {mx : Nat} {rt : Option FieldType} {a : Array Value} {s : State} {m : MethodId} {meth : Method} {c : Code} (h1 : s.methodNamed? y = some m) (h2 : s.vm.method? m = some meth) (h3 : meth.code = some c) (h4 : c.code = bytes)
    (h5 : (c.maxLocals == mx && c.exceptionTable.isEmpty && decide (c.maxStack ≤ mostOperands) && decide (meth.sig.returnType = rt) && !meth.locks && decide (parseMethodDescriptor y.desc = some meth.sig)) = true) : (Jvm.Cond.code y bytes mx rt).before a s = true := by
  simp only [Bool.and_eq_true, beq_iff_eq, Bool.not_eq_true', decide_eq_true_eq] at h5
  obtain ⟨⟨⟨⟨⟨g1, g2⟩, g3⟩, g4⟩, g5⟩, g6⟩ := h5
  simp [Cond.before, Cond.holds, Cond.value, h1, h2, h3, h4, g1, g2, g3, g4, g5, g6]
def isCode : Jvm.Cond → Bool
  | .code _ _ _ _ => true
  | _ => false
theorem all_split {L : List Jvm.Cond} {P : Jvm.Cond → Bool} (h1 : L.all (fun c => isCode c || P c) = true) (h2 : ∀ c ∈ L.filter isCode, P c = true) : L.all P = true := by
  refine List.all_eq_true.mpr fun c hc => ?_
  have h := List.all_eq_true.mp h1 c hc
  rcases Bool.eq_false_or_eq_true (isCode c) with hi | hi
  · exact h2 c (List.mem_filter.mpr ⟨hc, hi⟩)
  · simpa [hi] using h
set_option maxRecDepth 65536 in
theorem w_c0 : (Jvm.Cond.code x code maxLocals ret).before args0 about1 = true := code_word (m := ⟨1, 1⟩) (meth := k1m1) (c := k1c1) (by decide +kernel) rfl rfl rfl (by decide +kernel)
set_option maxRecDepth 65536 in
theorem w_c1 : (Jvm.Cond.code ({ cls := "java/util/BitSet", name := "<init>", desc := "()V" } : Jvm.MethodName) jdk_92_method_4_code (1 : Nat) (Option.none : Option Jvm.ClassFile.FieldType)).before args0 about1 = true := code_word (m := ⟨4, 2⟩) (meth := k4m2) (c := k4c2) (by decide +kernel) rfl rfl rfl (by decide +kernel)
set_option maxRecDepth 65536 in
theorem w_c2 : (Jvm.Cond.code ({ cls := "java/lang/Object", name := "<init>", desc := "()V" } : Jvm.MethodName) object_method_1_code (1 : Nat) (Option.none : Option Jvm.ClassFile.FieldType)).before args0 about1 = true := code_word (m := ⟨0, 0⟩) (meth := k0m0) (c := k0c0) (by decide +kernel) rfl rfl rfl (by decide +kernel)
set_option maxRecDepth 65536 in
theorem w_c3 : (Jvm.Cond.code ({ cls := "java/util/BitSet", name := "initWords", desc := "(I)V" } : Jvm.MethodName) jdk_92_method_6_code (2 : Nat) (Option.none : Option Jvm.ClassFile.FieldType)).before args0 about1 = true := code_word (m := ⟨4, 3⟩) (meth := k4m3) (c := k4c3) (by decide +kernel) rfl rfl rfl (by decide +kernel)
set_option maxRecDepth 65536 in
theorem w_c4 : (Jvm.Cond.code ({ cls := "java/util/BitSet", name := "wordIndex", desc := "(I)I" } : Jvm.MethodName) jdk_92_method_1_code (1 : Nat) (Option.some Jvm.ClassFile.FieldType.int)).before args0 about1 = true := code_word (m := ⟨4, 0⟩) (meth := k4m0) (c := k4c0) (by decide +kernel) rfl rfl rfl (by decide +kernel)
set_option maxRecDepth 65536 in
theorem w_c5 : (Jvm.Cond.code ({ cls := "java/util/BitSet", name := "set", desc := "(I)V" } : Jvm.MethodName) jdk_92_method_19_code (3 : Nat) (Option.none : Option Jvm.ClassFile.FieldType)).before args0 about1 = true := code_word (m := ⟨4, 6⟩) (meth := k4m6) (c := k4c6) (by decide +kernel) rfl rfl rfl (by decide +kernel)
set_option maxRecDepth 65536 in
theorem w_c6 : (Jvm.Cond.code ({ cls := "java/util/BitSet", name := "expandTo", desc := "(I)V" } : Jvm.MethodName) jdk_92_method_15_code (3 : Nat) (Option.none : Option Jvm.ClassFile.FieldType)).before args0 about1 = true := code_word (m := ⟨4, 5⟩) (meth := k4m5) (c := k4c5) (by decide +kernel) rfl rfl rfl (by decide +kernel)
set_option maxRecDepth 65536 in
theorem w_c7 : (Jvm.Cond.code ({ cls := "java/util/BitSet", name := "ensureCapacity", desc := "(I)V" } : Jvm.MethodName) jdk_92_method_14_code (3 : Nat) (Option.none : Option Jvm.ClassFile.FieldType)).before args0 about1 = true := code_word (m := ⟨4, 4⟩) (meth := k4m4) (c := k4c4) (by decide +kernel) rfl rfl rfl (by decide +kernel)
set_option maxRecDepth 65536 in
theorem w_c8 : (Jvm.Cond.code ({ cls := "java/util/BitSet", name := "checkInvariants", desc := "()V" } : Jvm.MethodName) jdk_92_method_2_code (1 : Nat) (Option.none : Option Jvm.ClassFile.FieldType)).before args0 about1 = true := code_word (m := ⟨4, 1⟩) (meth := k4m1) (c := k4c1) (by decide +kernel) rfl rfl rfl (by decide +kernel)
set_option maxRecDepth 65536 in
theorem w_c9 : (Jvm.Cond.code ({ cls := "com/example/brancher/brancher/service/Group", name := "<init>", desc := "(I)V" } : Jvm.MethodName) prog_74_method_1_code (3 : Nat) (Option.none : Option Jvm.ClassFile.FieldType)).before args0 about1 = true := code_word (m := ⟨5, 0⟩) (meth := k5m0) (c := k5c0) (by decide +kernel) rfl rfl rfl (by decide +kernel)
set_option maxRecDepth 65536 in
theorem w_c10 : (Jvm.Cond.code ({ cls := "java/util/ArrayList", name := "<init>", desc := "()V" } : Jvm.MethodName) jdk_38_method_2_code (1 : Nat) (Option.none : Option Jvm.ClassFile.FieldType)).before args0 about1 = true := code_word (m := ⟨13, 0⟩) (meth := k13m0) (c := k13c0) (by decide +kernel) rfl rfl rfl (by decide +kernel)
set_option maxRecDepth 65536 in
theorem w_c11 : (Jvm.Cond.code ({ cls := "java/util/AbstractList", name := "<init>", desc := "()V" } : Jvm.MethodName) jdk_39_method_1_code (1 : Nat) (Option.none : Option Jvm.ClassFile.FieldType)).before args0 about1 = true := code_word (m := ⟨11, 0⟩) (meth := k11m0) (c := k11c0) (by decide +kernel) rfl rfl rfl (by decide +kernel)
set_option maxRecDepth 65536 in
theorem w_c12 : (Jvm.Cond.code ({ cls := "java/util/AbstractCollection", name := "<init>", desc := "()V" } : Jvm.MethodName) jdk_22_method_1_code (1 : Nat) (Option.none : Option Jvm.ClassFile.FieldType)).before args0 about1 = true := code_word (m := ⟨8, 0⟩) (meth := k8m0) (c := k8c0) (by decide +kernel) rfl rfl rfl (by decide +kernel)
set_option maxRecDepth 65536 in
theorem w_c13 : (Jvm.Cond.code ({ cls := "com/example/brancher/brancher/service/Element", name := "<init>", desc := "()V" } : Jvm.MethodName) prog_67_method_1_code (1 : Nat) (Option.none : Option Jvm.ClassFile.FieldType)).before args0 about1 = true := code_word (m := ⟨14, 0⟩) (meth := k14m0) (c := k14c0) (by decide +kernel) rfl rfl rfl (by decide +kernel)
set_option maxRecDepth 65536 in
theorem w_c14 : (Jvm.Cond.code ({ cls := "java/util/ArrayList", name := "add", desc := "(Ljava/lang/Object;)Z" } : Jvm.MethodName) jdk_38_method_25_code (2 : Nat) (Option.some Jvm.ClassFile.FieldType.boolean)).before args0 about1 = true := code_word (m := ⟨13, 4⟩) (meth := k13m4) (c := k13c4) (by decide +kernel) rfl rfl rfl (by decide +kernel)
set_option maxRecDepth 65536 in
theorem w_c15 : (Jvm.Cond.code ({ cls := "java/util/ArrayList", name := "add", desc := "(Ljava/lang/Object;[Ljava/lang/Object;I)V" } : Jvm.MethodName) jdk_38_method_24_code (4 : Nat) (Option.none : Option Jvm.ClassFile.FieldType)).before args0 about1 = true := code_word (m := ⟨13, 3⟩) (meth := k13m3) (c := k13c3) (by decide +kernel) rfl rfl rfl (by decide +kernel)
set_option maxRecDepth 65536 in
theorem w_c16 : (Jvm.Cond.code ({ cls := "java/util/ArrayList", name := "grow", desc := "()[Ljava/lang/Object;" } : Jvm.MethodName) jdk_38_method_7_code (1 : Nat) (Option.some (Jvm.ClassFile.FieldType.array (Jvm.ClassFile.FieldType.object "java/lang/Object")))).before args0 about1 = true := code_word (m := ⟨13, 2⟩) (meth := k13m2) (c := k13c2) (by decide +kernel) rfl rfl rfl (by decide +kernel)
set_option maxRecDepth 65536 in
theorem w_c17 : (Jvm.Cond.code ({ cls := "java/util/ArrayList", name := "grow", desc := "(I)[Ljava/lang/Object;" } : Jvm.MethodName) jdk_38_method_6_code (4 : Nat) (Option.some (Jvm.ClassFile.FieldType.array (Jvm.ClassFile.FieldType.object "java/lang/Object")))).before args0 about1 = true := code_word (m := ⟨13, 1⟩) (meth := k13m1) (c := k13c1) (by decide +kernel) rfl rfl rfl (by decide +kernel)
set_option maxRecDepth 65536 in
theorem w_c18 : (Jvm.Cond.code ({ cls := "java/lang/Math", name := "max", desc := "(II)I" } : Jvm.MethodName) jdk_29_method_65_code (2 : Nat) (Option.some Jvm.ClassFile.FieldType.int)).before args0 about1 = true := code_word (m := ⟨15, 1⟩) (meth := k15m1) (c := k15c1) (by decide +kernel) rfl rfl rfl (by decide +kernel)
set_option maxRecDepth 65536 in
theorem w_c19 : (Jvm.Cond.code ({ cls := "com/example/brancher/brancher/service/Group", name := "choices", desc := "(II)Ljava/util/BitSet;" } : Jvm.MethodName) prog_74_method_4_code (5 : Nat) (Option.some (Jvm.ClassFile.FieldType.object "java/util/BitSet"))).before args0 about1 = true := code_word (m := ⟨5, 1⟩) (meth := k5m1) (c := k5c1) (by decide +kernel) rfl rfl rfl (by decide +kernel)
set_option maxRecDepth 65536 in
theorem w_c20 : (Jvm.Cond.code ({ cls := "com/example/brancher/brancher/service/Group", name := "rest", desc := "(IILjava/util/BitSet;I)V" } : Jvm.MethodName) prog_74_method_5_code (5 : Nat) (Option.none : Option Jvm.ClassFile.FieldType)).before args0 about1 = true := code_word (m := ⟨5, 2⟩) (meth := k5m2) (c := k5c2) (by decide +kernel) rfl rfl rfl (by decide +kernel)
set_option maxRecDepth 65536 in
theorem w_c21 : (Jvm.Cond.code ({ cls := "java/util/BitSet", name := "isEmpty", desc := "()Z" } : Jvm.MethodName) jdk_92_method_33_code (1 : Nat) (Option.some Jvm.ClassFile.FieldType.boolean)).before args0 about1 = true := code_word (m := ⟨4, 7⟩) (meth := k4m7) (c := k4c7) (by decide +kernel) rfl rfl rfl (by decide +kernel)
def codes1 : List Jvm.Cond := [Jvm.Cond.code x code maxLocals ret, Jvm.Cond.code ({ cls := "java/util/BitSet", name := "<init>", desc := "()V" } : Jvm.MethodName) jdk_92_method_4_code (1 : Nat) (Option.none : Option Jvm.ClassFile.FieldType), Jvm.Cond.code ({ cls := "java/lang/Object", name := "<init>", desc := "()V" } : Jvm.MethodName) object_method_1_code (1 : Nat) (Option.none : Option Jvm.ClassFile.FieldType), Jvm.Cond.code ({ cls := "java/util/BitSet", name := "initWords", desc := "(I)V" } : Jvm.MethodName) jdk_92_method_6_code (2 : Nat) (Option.none : Option Jvm.ClassFile.FieldType), Jvm.Cond.code ({ cls := "java/util/BitSet", name := "wordIndex", desc := "(I)I" } : Jvm.MethodName) jdk_92_method_1_code (1 : Nat) (Option.some Jvm.ClassFile.FieldType.int), Jvm.Cond.code ({ cls := "java/util/BitSet", name := "set", desc := "(I)V" } : Jvm.MethodName) jdk_92_method_19_code (3 : Nat) (Option.none : Option Jvm.ClassFile.FieldType), Jvm.Cond.code ({ cls := "java/util/BitSet", name := "expandTo", desc := "(I)V" } : Jvm.MethodName) jdk_92_method_15_code (3 : Nat) (Option.none : Option Jvm.ClassFile.FieldType), Jvm.Cond.code ({ cls := "java/util/BitSet", name := "ensureCapacity", desc := "(I)V" } : Jvm.MethodName) jdk_92_method_14_code (3 : Nat) (Option.none : Option Jvm.ClassFile.FieldType), Jvm.Cond.code ({ cls := "java/util/BitSet", name := "checkInvariants", desc := "()V" } : Jvm.MethodName) jdk_92_method_2_code (1 : Nat) (Option.none : Option Jvm.ClassFile.FieldType), Jvm.Cond.code ({ cls := "com/example/brancher/brancher/service/Group", name := "<init>", desc := "(I)V" } : Jvm.MethodName) prog_74_method_1_code (3 : Nat) (Option.none : Option Jvm.ClassFile.FieldType), Jvm.Cond.code ({ cls := "java/util/ArrayList", name := "<init>", desc := "()V" } : Jvm.MethodName) jdk_38_method_2_code (1 : Nat) (Option.none : Option Jvm.ClassFile.FieldType), Jvm.Cond.code ({ cls := "java/util/AbstractList", name := "<init>", desc := "()V" } : Jvm.MethodName) jdk_39_method_1_code (1 : Nat) (Option.none : Option Jvm.ClassFile.FieldType), Jvm.Cond.code ({ cls := "java/util/AbstractCollection", name := "<init>", desc := "()V" } : Jvm.MethodName) jdk_22_method_1_code (1 : Nat) (Option.none : Option Jvm.ClassFile.FieldType), Jvm.Cond.code ({ cls := "com/example/brancher/brancher/service/Element", name := "<init>", desc := "()V" } : Jvm.MethodName) prog_67_method_1_code (1 : Nat) (Option.none : Option Jvm.ClassFile.FieldType), Jvm.Cond.code ({ cls := "java/util/ArrayList", name := "add", desc := "(Ljava/lang/Object;)Z" } : Jvm.MethodName) jdk_38_method_25_code (2 : Nat) (Option.some Jvm.ClassFile.FieldType.boolean), Jvm.Cond.code ({ cls := "java/util/ArrayList", name := "add", desc := "(Ljava/lang/Object;[Ljava/lang/Object;I)V" } : Jvm.MethodName) jdk_38_method_24_code (4 : Nat) (Option.none : Option Jvm.ClassFile.FieldType), Jvm.Cond.code ({ cls := "java/util/ArrayList", name := "grow", desc := "()[Ljava/lang/Object;" } : Jvm.MethodName) jdk_38_method_7_code (1 : Nat) (Option.some (Jvm.ClassFile.FieldType.array (Jvm.ClassFile.FieldType.object "java/lang/Object"))), Jvm.Cond.code ({ cls := "java/util/ArrayList", name := "grow", desc := "(I)[Ljava/lang/Object;" } : Jvm.MethodName) jdk_38_method_6_code (4 : Nat) (Option.some (Jvm.ClassFile.FieldType.array (Jvm.ClassFile.FieldType.object "java/lang/Object"))), Jvm.Cond.code ({ cls := "java/lang/Math", name := "max", desc := "(II)I" } : Jvm.MethodName) jdk_29_method_65_code (2 : Nat) (Option.some Jvm.ClassFile.FieldType.int), Jvm.Cond.code ({ cls := "com/example/brancher/brancher/service/Group", name := "choices", desc := "(II)Ljava/util/BitSet;" } : Jvm.MethodName) prog_74_method_4_code (5 : Nat) (Option.some (Jvm.ClassFile.FieldType.object "java/util/BitSet")), Jvm.Cond.code ({ cls := "com/example/brancher/brancher/service/Group", name := "rest", desc := "(IILjava/util/BitSet;I)V" } : Jvm.MethodName) prog_74_method_5_code (5 : Nat) (Option.none : Option Jvm.ClassFile.FieldType), Jvm.Cond.code ({ cls := "java/util/BitSet", name := "isEmpty", desc := "()Z" } : Jvm.MethodName) jdk_92_method_33_code (1 : Nat) (Option.some Jvm.ClassFile.FieldType.boolean)]
set_option maxRecDepth 65536 in
theorem codes_eq : words1.filter isCode = codes1 := rfl
theorem w_codes : ∀ c ∈ words1.filter isCode, c.before args0 about1 = true := by
  rw [codes_eq]
  intro c hc
  simp only [codes1, List.mem_cons, List.not_mem_nil, or_false] at hc
  rcases hc with rfl | rfl | rfl | rfl | rfl | rfl | rfl | rfl | rfl | rfl | rfl | rfl | rfl | rfl | rfl | rfl | rfl | rfl | rfl | rfl | rfl | rfl
  · exact w_c0
  · exact w_c1
  · exact w_c2
  · exact w_c3
  · exact w_c4
  · exact w_c5
  · exact w_c6
  · exact w_c7
  · exact w_c8
  · exact w_c9
  · exact w_c10
  · exact w_c11
  · exact w_c12
  · exact w_c13
  · exact w_c14
  · exact w_c15
  · exact w_c16
  · exact w_c17
  · exact w_c18
  · exact w_c19
  · exact w_c20
  · exact w_c21
set_option maxRecDepth 65536 in
theorem w_t1 : (words1.take 24).all (fun c => isCode c || c.before args0 about1) = true := by decide +kernel
set_option maxRecDepth 65536 in
theorem w_t2 : ((words1.drop 24).take 24).all (fun c => isCode c || c.before args0 about1) = true := by decide +kernel
set_option maxRecDepth 65536 in
theorem w_t3 : (((words1.drop 24).drop 24).take 24).all (fun c => isCode c || c.before args0 about1) = true := by decide +kernel
set_option maxRecDepth 65536 in
theorem w_t4 : ((((words1.drop 24).drop 24).drop 24).take 24).all (fun c => isCode c || c.before args0 about1) = true := by decide +kernel
set_option maxRecDepth 65536 in
theorem w_t5 : (((((words1.drop 24).drop 24).drop 24).drop 24).take 24).all (fun c => isCode c || c.before args0 about1) = true := by decide +kernel
set_option maxRecDepth 65536 in
theorem w_t6 : ((((((words1.drop 24).drop 24).drop 24).drop 24).drop 24).take 24).all (fun c => isCode c || c.before args0 about1) = true := by decide +kernel
set_option maxRecDepth 65536 in
theorem w_t7 : ((((((words1.drop 24).drop 24).drop 24).drop 24).drop 24).drop 24).all (fun c => isCode c || c.before args0 about1) = true := by decide +kernel
theorem w_tables : (allAtoms (Jvm.Cond.code x code maxLocals ret :: tables_1)).before args0 about1 = true := by
  rw [allAtoms_all]
  show words1.all (fun c => c.before args0 about1) = true
  refine all_split ?_ w_codes
  rw [← List.take_append_drop 24 words1, List.all_append, w_t1, ← List.take_append_drop 24 (words1.drop 24), List.all_append, w_t2, ← List.take_append_drop 24 ((words1.drop 24).drop 24), List.all_append, w_t3, ← List.take_append_drop 24 (((words1.drop 24).drop 24).drop 24), List.all_append, w_t4, ← List.take_append_drop 24 ((((words1.drop 24).drop 24).drop 24).drop 24), List.all_append, w_t5, ← List.take_append_drop 24 (((((words1.drop 24).drop 24).drop 24).drop 24).drop 24), List.all_append, w_t6, w_t7]
  rfl
set_option maxRecDepth 65536 in
theorem w_rest : rest_1_c.before args0 about1 = true := by decide +kernel
set_option maxRecDepth 65536 in
theorem w_case : (Jvm.Cond.and given_1 narrow_1).before args0 about1 = true := by decide +kernel
theorem w_applies : (headSpec (Jvm.Cond.code x code maxLocals ret :: tables_1) room_1).applies x e0.platform about1 = true :=
  (Spec.applies_iff w_frames).mpr ⟨w_running, w_runnable, w_alone, w_named, w_hears, w_ripe, w_room, w_tables⟩
theorem atStart : AtStart classFile x code maxLocals ret World_1 tables_1 room_1 Calls_1 rest_1 Pre_1 launch0 p0 e0 about1 theMethod args0 below0 :=
  ⟨lists_1, trivial, launch0.admits_env _ _ _, launch0.least_env, fairChoices_fair.cas, fairChoices_fair.clock, w_frames, w_args, w_heap, w_applies, trivial, w_rest, w_case⟩
end start1
theorem witness_1 : WitnessClaimed_1 := ⟨start1.p0, start1.e0, start1.about1, start1.theMethod, start1.args0, start1.below0, start1.atStart⟩
end Jvm.Pilot.@@N@@
