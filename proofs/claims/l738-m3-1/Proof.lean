import JvmDerived
import JvmDerived.Pilot.@@N@@Statement
import JvmDerived.Pilot.@@N@@Code
set_option linter.unusedVariables false
set_option linter.unusedSimpArgs false
namespace Jvm.RoadKit
open Sem ClassFile Op Lib Jvm.Stand Jvm.Free Jvm.LawKit
section New
variable {p : Program} {l : Launch} {e : Env} {R : Room} {s : State} {m : MethodId} {args : Array Value} {below : List Frame} {meth : Method} {c : Code} {T : State} {locs : List Loc} {cells slots : Nat}
theorem retI (X : Stand p l e R s m args below meth c T locs cells slots) (hx : p.tables.exec = Jvm.exec) {pc : Nat} {Ls : Array Slot} {z : Int32} {rest : List Value} (hret : meth.sig.returnType = some .int) (hd : decode c.code pc = .ok (.ireturn, 1)) {fs : List Frame}
    (hl : ∀ (f : JFrame) (acts : List Action), f.method = m → f.locked = none → f.entered = [] → (doReturn e (T.setTop f) acts (some (.int z))).1 = T.setFrames fs) : Steps p.tables e below (T.setTop (mkF m pc Ls (.int z :: rest))) (T.setFrames fs) := by
  have hm' : T.vm.method? m = some meth := X.method'
  have hn : narrow .int (.int z) = .int z := rfl
  show Steps p.tables e below (T.setTop { method := m, pc := pc, locals := Ls, stack := _ :: rest, locked := none }) _
  jvm_step X.here [X.here.top, hx, hd, hm', hret, hn]
  first | (intro acts; rw [hl _ acts rfl rfl rfl]) | rw [hl _ _ rfl rfl rfl]
  exact Steps.refl _
end New
end Jvm.RoadKit
namespace Jvm.Pilot.@@N@@
open Jvm Jvm.ClassFile Sem Op Lib Jvm.Free Jvm.Stand Jvm.LawKit Jvm.RoadKit Bundle Jvm.Pilot.@@N@@.Jvm.D
abbrev own_S (p : Program) (e : Env) (below : List Frame) (S T : State) (f : JFrame) : Prop := ∀ tt, Steps p.tables e below (T.setTop f) tt → Steps p.tables e below S tt
theorem own_eqI {args : Array Value} {first s : State} {o : Option Outcome} {idx : List Nat} {t : Term} {k : Int32} (h : (Jvm.Cond.eq t (.int k)).value args first o s idx = some true) : t.eval args first o idx s = some (.int k) := by
  simp only [Jvm.Cond.value, Term.eval] at h
  cases ht : t.eval args first o idx s with
  | none => simp [ht] at h
  | some x => cases x <;> simp [ht] at h ⊢; exact h
theorem own_len {args : Array Value} {s : State} {t : Term} {x : Addr} {cl : Cell} {ty : FieldType} {k : Int32} (ht : t.eval args s none [] s = some (.ref x)) (A : Arr s s.heap x cl ty) (h : (Term.length t).eval args s none [] s = some (.int k)) : cl.slots.size < 2 ^ 31 ∧ cl.slots.size.toInt32 = k := by
  have ha : s.arrayAt? x = some cl := A.fin (State.Warmed39.refl s).alike
  simpa [Term.eval, ht, ha] using h
def own_fm (x y : Int32) : Int32 := if x ^^^ y < 0 then (if x % y = 0 then x % y else x % y + y) else x % y
def own_sw (fw st n i : Int32) : Int32 := if fw = 0 then own_fm (st - 1 - i) n else own_fm (i - st) n
def own_cmp (x y : Int32) : Int32 := if x < y then -1 else if x = y then 0 else 1
def own_not (x : Int32) : Int32 := nar .boolean (if x = 0 then 1 else 0)
theorem own_selp {y : MethodName} {s : State} {args : Array Value} {n : Nat} (hy : y.cls ≠ "java/lang/invoke/MethodHandle" ∧ y.cls ≠ "java/lang/invoke/VarHandle") (hins : (Jvm.Cond.instantiable y.cls n).before args s = true) (hpriv : (Jvm.Cond.privateMethod y).before args s = true) (hinst : (Jvm.Cond.instanceMethod y).before args s = true) :
    (Jvm.Cond.selects y.cls y y).before args s = true := by
  obtain ⟨c, k, hc, hk, -, hniab, -, -⟩ := Cond.instantiable_spec hins
  have hni : k.isInterface = false := (Bool.or_eq_false_iff.mp hniab).1
  obtain ⟨mk, methM, hnamed, hmethM, -, -⟩ := Cond.instanceMethod_spec hinst
  have hfound : s.methodFound? y.cls y.name y.desc = some mk := State.methodFound?_of_named hnamed hy
  have hcls : mk.cls = c := Option.some.inj ((findClass_of_methodNamed hnamed).symm.trans hc)
  have hsel : selectMethod {} s.vm c mk = .method mk := selectMethod_private hmethM (Cond.privateMethod_at hpriv mk methM hnamed hmethM)
  simp only [Cond.before, Cond.holds, Cond.value, hc, hfound, hnamed, hsel, hcls, hk]
  simp; exact hni
theorem pn0 : plainName "java/util/AbstractCollection" = true := by first | (simp [plainName, overriddenIn]; done) | decide +kernel
theorem d4_0 : decode jdk_22_method_1_code 0 = .ok (.aload_n 0, 1) := by decide +kernel
theorem d4_1 : decode jdk_22_method_1_code 1 = .ok (.invokespecial 1, 3) := by decide +kernel
theorem d4_4 : decode jdk_22_method_1_code 4 = .ok (.return_, 1) := by decide +kernel
theorem ef4 (m : MethodId) (x0 : Addr) : entryFrame m #[(.ref x0)] 1 = mkF m 0 #[.val (.ref x0)] [] := by first | (simp [entryFrame, mkF, argsToLocals, Value.category]; done) | rfl
def Q4 (Z : State) (o1 : Addr) (h0 : Heap) (n0 : Nat) (v : Option Value) (h : Heap) (L : List Loc) : Prop := v = none ∧ Fr n0 L ∧ h = h0
set_option maxRecDepth 65536 in
set_option maxHeartbeats 40000000 in
theorem rm4 (l : Launch) (Z : State) (a0 : Array Value) (hw : ∀ d ∈ tables_1, d.before a0 Z = true) (ws : List Jvm.Cond) (o1 : Addr) (h0 : Heap) (n0 : Nat) (Z0 : n0 ≤ h0.size) :
    MetFree l (⟨"java/util/AbstractCollection", "<init>", "()V"⟩ : MethodName) (head1 (Jvm.Cond.code (⟨"java/util/AbstractCollection", "<init>", "()V"⟩ : MethodName) jdk_22_method_1_code 1 none :: ws) ({ frames := 1, cells := 0, slots := 0, locals := 12 } : Room)) (fun aa UU => aa = #[(.ref o1)] ∧ Z.Warmed39 UU.vm ∧ UU.heap = h0) (fun _ _ _ _ _ => True) (fun _ UU oo UU' => ∃ vv LL, oo = .returned vv ∧ Q4 Z o1 h0 n0 vv UU'.heap LL ∧ FrameEnd UU oo UU' LL ({ frames := 1, cells := 0, slots := 0, locals := 12 } : Room).cells ({ frames := 1, cells := 0, slots := 0, locals := 12 } : Room).slots) := by
  have W : ∀ {d : Jvm.Cond} (i : Nat), tables_1[i]? = some d → d.before a0 Z = true := fun i h => hw _ (List.mem_of_getElem? h)
  refine MetFree.of_bodySF (plainFor_of_name pn0) hisR ?_
  intro p e s m args below meth c s₁ Bd hml0 hP hK
  obtain ⟨rfl, hZ, hh⟩ := hP
  have hx := Bd.exec
  have hby := Bd.bytes
  have hml : c.maxLocals = 1 := hml0
  have hown : s.vm.findClass "java/util/AbstractCollection" = some m.cls := findClass_of_methodNamed Bd.named
  have hnm := (name_of_methodNamed Bd.named Bd.method).1
  have X0 : Stand p l e ({ frames := 1, cells := 0, slots := 0, locals := 12 } : Room) s m #[(.ref o1)] below meth c s₁ [] 0 0 := Stand.of_body Bd
  have e0 : s₁.heap = h0 := by rw [← hh, Bd.state]; rfl
  have N0 := Fr.nil n0
  have pre0 : ∀ tt, Steps p.tables e below (s₁.setTop (mkF m 0 #[rv o1] [])) tt → Steps p.tables e below (s₁.setTop (entryFrame m #[(.ref o1)] 1)) tt := fun tt kt => castTop (ef4 m o1) kt
  obtain ⟨ST, hST⟩ : ∃ z : State, z = s₁.setTop (mkF m 0 #[rv o1] []) := ⟨_, rfl⟩
  rw [← hST] at pre0
  have go101 : own_S p e below ST s₁ (mkF m 1 #[rv o1] [(.ref o1)]) := fun tt kt => (by
      rw [hST]
      show Steps p.tables e below (s₁.setTop (mkF m 0 #[rv o1] [])) _
      refine XS.aloadN X0.here hx rfl (hb hby d4_0) rfl rfl ?_
      exact kt)
  obtain ⟨T102, X102, e102, st102⟩ := initO X0 hx hZ hown (W 22 rfl) (W 23 rfl) (W 24 rfl) e0 (g := (mkF m 1 #[rv o1] [(.ref o1)])) rfl (by rw [hml]; rfl) rfl (hb hby d4_1) (by decide) (W := 0) (by show 2 * 0 + _ ≤ _; exact Nat.le_of_eq rfl) (by decide)
  have go103 : own_S p e below ST T102 (mkF m 4 #[rv o1] []) := fun tt kt => go101 tt (st102 _ kt)
  obtain ⟨fs, hr, hrun, hended, hW, hsame⟩ := X102.leave (v := none) (fun _ => rfl)
  refine ⟨_, _, pre0 _ (go103 _ ?_), hrun, hended, _, _, rfl, ?_, ⟨_, rfl⟩, hW, hsame.mono (by decide) (by decide)⟩
  · exact X102.returnOut hx Bd.returns (hb hby d4_4) hr
  · show Q4 Z o1 h0 n0 _ T102.heap _
    rw [e102]
    exact ⟨rfl, N0, rfl⟩
theorem pn4 : plainName "java/util/AbstractList" = true := by first | (simp [plainName, overriddenIn]; done) | decide +kernel
theorem d3_0 : decode jdk_39_method_1_code 0 = .ok (.aload_n 0, 1) := by decide +kernel
theorem d3_1 : decode jdk_39_method_1_code 1 = .ok (.invokespecial 1, 3) := by decide +kernel
theorem pd7 : parseMethodDescriptor "()V" = some ⟨[], none⟩ := by decide +kernel
theorem d3_4 : decode jdk_39_method_1_code 4 = .ok (.aload_n 0, 1) := by decide +kernel
theorem d3_5 : decode jdk_39_method_1_code 5 = .ok (.iconst 0, 1) := by decide +kernel
theorem d3_6 : decode jdk_39_method_1_code 6 = .ok (.putfield 7, 3) := by decide +kernel
theorem d3_9 : decode jdk_39_method_1_code 9 = .ok (.return_, 1) := by decide +kernel
theorem ef3 (m : MethodId) (x0 : Addr) : entryFrame m #[(.ref x0)] 1 = mkF m 0 #[.val (.ref x0)] [] := by first | (simp [entryFrame, mkF, argsToLocals, Value.category]; done) | rfl
def Q3 (Z : State) (o1 : Addr) (h0 : Heap) (n0 : Nat) (v : Option Value) (h : Heap) (L : List Loc) : Prop := v = none ∧ Fr n0 L ∧ Keep h0 h [o1] ∧ Fld Z h o1 "java/util/AbstractList" "modCount" "I" (.int (0 : Int32)) ∧ Fld Z h o1 "java/util/ArrayList" "elementData" "[Ljava/lang/Object;" .null ∧ Fld Z h o1 "java/util/ArrayList" "size" "I" (.int (0 : Int32))
set_option maxRecDepth 65536 in
set_option maxHeartbeats 40000000 in
theorem rm3 (l : Launch) (Z : State) (a0 : Array Value) (hw : ∀ d ∈ tables_1, d.before a0 Z = true) (ws : List Jvm.Cond) (o1 : Addr) (h0 : Heap) (n0 : Nat) (Z0 : n0 ≤ h0.size) (F1 : Fld Z h0 o1 "java/util/AbstractList" "modCount" "I" (.int (0 : Int32))) (F2 : Fld Z h0 o1 "java/util/ArrayList" "elementData" "[Ljava/lang/Object;" .null) (F3 : Fld Z h0 o1 "java/util/ArrayList" "size" "I" (.int (0 : Int32))) (E1 : Exa Z h0 o1 "java/util/ArrayList") (g1 : n0 ≤ o1) :
    MetFree l (⟨"java/util/AbstractList", "<init>", "()V"⟩ : MethodName) (head1 (Jvm.Cond.code (⟨"java/util/AbstractList", "<init>", "()V"⟩ : MethodName) jdk_39_method_1_code 1 none :: ws) ({ frames := 2, cells := 0, slots := 0, locals := 24 } : Room)) (fun aa UU => aa = #[(.ref o1)] ∧ Z.Warmed39 UU.vm ∧ UU.heap = h0) (fun _ _ _ _ _ => True) (fun _ UU oo UU' => ∃ vv LL, oo = .returned vv ∧ Q3 Z o1 h0 n0 vv UU'.heap LL ∧ FrameEnd UU oo UU' LL ({ frames := 2, cells := 0, slots := 0, locals := 24 } : Room).cells ({ frames := 2, cells := 0, slots := 0, locals := 24 } : Room).slots) := by
  have W : ∀ {d : Jvm.Cond} (i : Nat), tables_1[i]? = some d → d.before a0 Z = true := fun i h => hw _ (List.mem_of_getElem? h)
  refine MetFree.of_bodySF (plainFor_of_name pn4) hisR ?_
  intro p e s m args below meth c s₁ Bd hml0 hP hK
  obtain ⟨rfl, hZ, hh⟩ := hP
  have hx := Bd.exec
  have hby := Bd.bytes
  have hml : c.maxLocals = 1 := hml0
  have hown : s.vm.findClass "java/util/AbstractList" = some m.cls := findClass_of_methodNamed Bd.named
  have hnm := (name_of_methodNamed Bd.named Bd.method).1
  have X0 : Stand p l e ({ frames := 2, cells := 0, slots := 0, locals := 24 } : Room) s m #[(.ref o1)] below meth c s₁ [] 0 0 := Stand.of_body Bd
  have e0 : s₁.heap = h0 := by rw [← hh, Bd.state]; rfl
  have N0 := Fr.nil n0
  have pre0 : ∀ tt, Steps p.tables e below (s₁.setTop (mkF m 0 #[rv o1] [])) tt → Steps p.tables e below (s₁.setTop (entryFrame m #[(.ref o1)] 1)) tt := fun tt kt => castTop (ef3 m o1) kt
  obtain ⟨ST, hST⟩ : ∃ z : State, z = s₁.setTop (mkF m 0 #[rv o1] []) := ⟨_, rfl⟩
  rw [← hST] at pre0
  have KC0 : Keep h0 h0 [o1] := Keep.refl h0 [o1]
  have go104 : own_S p e below ST s₁ (mkF m 1 #[rv o1] [(.ref o1)]) := fun tt kt => (by
      rw [hST]
      show Steps p.tables e below (s₁.setTop (mkF m 0 #[rv o1] [])) _
      refine XS.aloadN X0.here hx rfl (hb hby d3_0) rfl rfl ?_
      exact kt)
  obtain ⟨_, _, ⟨T105, L105, k105, n105⟩, -, X105, ⟨Lc105, hQ105, l105, y105, z105⟩, st105⟩ := X0.specialBack hx (y := (⟨"java/util/AbstractCollection", "<init>", "()V"⟩ : MethodName)) rfl hown (mvT hZ (W 16 rfl)) (mvT hZ (W 17 rfl)) (mvT hZ (W 21 rfl)) (by decide) (backOf (W := 0) (rm4 l Z a0 hw [] o1 h0 n0 Z0 ) hZ (W 21 rfl) (W 20 rfl) (by decide) (by decide)) (g := (mkF m 1 #[rv o1] [(.ref o1)])) rfl (by rw [hml]; rfl) (Steps.refl _) (a := o1) (argsL := []) (rest := []) (lenOf pd7 rfl) rfl (by show 2 * 0 + _ ≤ _; exact Nat.le_of_eq rfl) (hb hby d3_1) (fun _ _ => ⟨rfl, e0, (by decide : 0 + 0 ≤ _), (by decide : 0 + 0 ≤ _)⟩)
  dsimp only [Pt.U, Pt.locs, Pt.cells, Pt.slots] at X105 l105 y105 z105 st105 hQ105
  subst l105 y105 z105
  obtain ⟨rfl, Nq105, eh105⟩ := hQ105
  have N105 := Fr.app N0 Nq105
  have go106 : own_S p e below ST T105 (mkF m 4 #[rv o1] []) := fun tt kt => go104 tt (st105.trans kt)
  have go107 : own_S p e below ST T105 (mkF m 6 #[rv o1] [(.int (0 : Int32)), (.ref o1)]) := fun tt kt => go106 tt (by
      refine XS.aloadN X105.here hx rfl (hb hby d3_4) rfl rfl ?_
      refine XS.iconst X105.here hx rfl (hb hby d3_5) ?_
      exact kt)
  obtain ⟨T108, h108, X108, e108, W108, st108⟩ := putF X105 hx hZ hown (host := "") (Or.inl (W 25 rfl)) Via.refl eh105 F1 E1 (Or.inl (W 26 rfl)) (W 5 rfl) (ty := .int) (by decide) rfl rfl (g := (mkF m 6 #[rv o1] [(.int (0 : Int32)), (.ref o1)])) rfl rfl (hb hby d3_6)
  have Fw108 := F1.same W108
  have N108 := Fr.snoc X108 N105 g1
  have go109 : own_S p e below ST T108 (mkF m 9 #[rv o1] []) := fun tt kt => go107 tt (st108 _ kt)
  have KC108 : Keep h0 h108 [o1] := KC0.wr W108 (Or.inl (List.mem_of_getElem? (i := 0) rfl))
  have f110 := (F2.other W108 (Or.inr (slot_ne (Or.inl (W 29 rfl)) (Or.inl (W 26 rfl)) (by decide) (t := (.array (.object "java/lang/Object"))) (t' := .int) (by decide) (by decide))))
  have f111 := (F3.other W108 (Or.inr (slot_ne (Or.inl (W 42 rfl)) (Or.inl (W 26 rfl)) (by decide) (t := .int) (t' := .int) (by decide) (by decide))))
  obtain ⟨fs, hr, hrun, hended, hW, hsame⟩ := X108.leave (v := none) (fun _ => rfl)
  refine ⟨_, _, pre0 _ (go109 _ ?_), hrun, hended, _, _, rfl, ?_, ⟨_, rfl⟩, hW, hsame.mono (by decide) (by decide)⟩
  · exact X108.returnOut hx Bd.returns (hb hby d3_9) hr
  · show Q3 Z o1 h0 n0 _ T108.heap _
    rw [e108]
    exact ⟨rfl, N108, KC108, Fw108, f110, f111⟩
theorem pn12 : plainName "java/util/ArrayList" = true := by first | (simp [plainName, overriddenIn]; done) | decide +kernel
theorem d2_0 : decode jdk_38_method_2_code 0 = .ok (.aload_n 0, 1) := by decide +kernel
theorem d2_1 : decode jdk_38_method_2_code 1 = .ok (.invokespecial 1, 3) := by decide +kernel
theorem d2_4 : decode jdk_38_method_2_code 4 = .ok (.aload_n 0, 1) := by decide +kernel
theorem d2_5 : decode jdk_38_method_2_code 5 = .ok (.getstatic 39, 3) := by decide +kernel
theorem d2_8 : decode jdk_38_method_2_code 8 = .ok (.putfield 9, 3) := by decide +kernel
theorem d2_11 : decode jdk_38_method_2_code 11 = .ok (.return_, 1) := by decide +kernel
theorem ef2 (m : MethodId) (x0 : Addr) : entryFrame m #[(.ref x0)] 1 = mkF m 0 #[.val (.ref x0)] [] := by first | (simp [entryFrame, mkF, argsToLocals, Value.category]; done) | rfl
def Q2 (Z : State) (o1 : Addr) (ad : Addr) (h0 : Heap) (n0 : Nat) (v : Option Value) (h : Heap) (L : List Loc) : Prop := v = none ∧ Fr n0 L ∧ Keep h0 h [o1] ∧ Fld Z h o1 "java/util/AbstractList" "modCount" "I" (.int (0 : Int32)) ∧ Fld Z h o1 "java/util/ArrayList" "elementData" "[Ljava/lang/Object;" (.ref ad) ∧ Fld Z h o1 "java/util/ArrayList" "size" "I" (.int (0 : Int32))
set_option maxRecDepth 65536 in
set_option maxHeartbeats 40000000 in
theorem rm2 (l : Launch) (Z : State) (a0 : Array Value) (hw : ∀ d ∈ tables_1, d.before a0 Z = true) (ws : List Jvm.Cond) (o1 : Addr) (ad : Addr) (h0 : Heap) (n0 : Nat) (Z0 : n0 ≤ h0.size) (F1 : Fld Z h0 o1 "java/util/AbstractList" "modCount" "I" (.int (0 : Int32))) (F2 : Fld Z h0 o1 "java/util/ArrayList" "elementData" "[Ljava/lang/Object;" .null) (F3 : Fld Z h0 o1 "java/util/ArrayList" "size" "I" (.int (0 : Int32))) (E1 : Exa Z h0 o1 "java/util/ArrayList") (g1 : n0 ≤ o1) (SD : Sta Z Z.heap "java/util/ArrayList" "DEFAULTCAPACITY_EMPTY_ELEMENTDATA" "[Ljava/lang/Object;" (.ref ad)) (OL : Old Z n0 h0) :
    MetFree l (⟨"java/util/ArrayList", "<init>", "()V"⟩ : MethodName) (head1 (Jvm.Cond.code (⟨"java/util/ArrayList", "<init>", "()V"⟩ : MethodName) jdk_38_method_2_code 1 none :: ws) ({ frames := 3, cells := 0, slots := 0, locals := 36 } : Room)) (fun aa UU => aa = #[(.ref o1)] ∧ Z.Warmed39 UU.vm ∧ UU.heap = h0) (fun _ _ _ _ _ => True) (fun _ UU oo UU' => ∃ vv LL, oo = .returned vv ∧ Q2 Z o1 ad h0 n0 vv UU'.heap LL ∧ FrameEnd UU oo UU' LL ({ frames := 3, cells := 0, slots := 0, locals := 36 } : Room).cells ({ frames := 3, cells := 0, slots := 0, locals := 36 } : Room).slots) := by
  have W : ∀ {d : Jvm.Cond} (i : Nat), tables_1[i]? = some d → d.before a0 Z = true := fun i h => hw _ (List.mem_of_getElem? h)
  refine MetFree.of_bodySF (plainFor_of_name pn12) hisR ?_
  intro p e s m args below meth c s₁ Bd hml0 hP hK
  obtain ⟨rfl, hZ, hh⟩ := hP
  have hx := Bd.exec
  have hby := Bd.bytes
  have hml : c.maxLocals = 1 := hml0
  have hown : s.vm.findClass "java/util/ArrayList" = some m.cls := findClass_of_methodNamed Bd.named
  have hnm := (name_of_methodNamed Bd.named Bd.method).1
  have X0 : Stand p l e ({ frames := 3, cells := 0, slots := 0, locals := 36 } : Room) s m #[(.ref o1)] below meth c s₁ [] 0 0 := Stand.of_body Bd
  have e0 : s₁.heap = h0 := by rw [← hh, Bd.state]; rfl
  have N0 := Fr.nil n0
  have pre0 : ∀ tt, Steps p.tables e below (s₁.setTop (mkF m 0 #[rv o1] [])) tt → Steps p.tables e below (s₁.setTop (entryFrame m #[(.ref o1)] 1)) tt := fun tt kt => castTop (ef2 m o1) kt
  obtain ⟨ST, hST⟩ : ∃ z : State, z = s₁.setTop (mkF m 0 #[rv o1] []) := ⟨_, rfl⟩
  rw [← hST] at pre0
  have KC0 : Keep h0 h0 [o1] := Keep.refl h0 [o1]
  have go112 : own_S p e below ST s₁ (mkF m 1 #[rv o1] [(.ref o1)]) := fun tt kt => (by
      rw [hST]
      show Steps p.tables e below (s₁.setTop (mkF m 0 #[rv o1] [])) _
      refine XS.aloadN X0.here hx rfl (hb hby d2_0) rfl rfl ?_
      exact kt)
  obtain ⟨_, _, ⟨T113, L113, k113, n113⟩, -, X113, ⟨Lc113, hQ113, l113, y113, z113⟩, st113⟩ := X0.specialBack hx (y := (⟨"java/util/AbstractList", "<init>", "()V"⟩ : MethodName)) rfl hown (mvT hZ (W 10 rfl)) (mvT hZ (W 11 rfl)) (mvT hZ (W 15 rfl)) (by decide) (backOf (W := 0) (rm3 l Z a0 hw [] o1 h0 n0 Z0 F1 F2 F3 E1 g1) hZ (W 15 rfl) (W 14 rfl) (by decide) (by decide)) (g := (mkF m 1 #[rv o1] [(.ref o1)])) rfl (by rw [hml]; rfl) (Steps.refl _) (a := o1) (argsL := []) (rest := []) (lenOf pd7 rfl) rfl (by show 2 * 0 + _ ≤ _; exact Nat.le_of_eq rfl) (hb hby d2_1) (fun _ _ => ⟨rfl, e0, (by decide : 0 + 0 ≤ _), (by decide : 0 + 0 ≤ _)⟩)
  dsimp only [Pt.U, Pt.locs, Pt.cells, Pt.slots] at X113 l113 y113 z113 st113 hQ113
  subst l113 y113 z113
  obtain ⟨rfl, Nq113, K113, Fa113, Fb113, Fc113⟩ := hQ113
  have N113 := Fr.app N0 Nq113
  have go114 : own_S p e below ST T113 (mkF m 4 #[rv o1] []) := fun tt kt => go112 tt (st113.trans kt)
  have KC113 : Keep h0 T113.heap [o1] := KC0.trans K113 (allS (Or.inl (List.mem_of_getElem? (i := 0) rfl)) all0)
  have go115 : own_S p e below ST T113 (mkF m 5 #[rv o1] [(.ref o1)]) := fun tt kt => go114 tt (by
      refine XS.aloadN X113.here hx rfl (hb hby d2_4) rfl rfl ?_
      exact kt)
  have f117 := (OL.keep K113 (allS g1 all0))
  obtain ⟨T116, X116, e116, st116⟩ := getS2 X113 hx hZ hown (host := "") (Or.inl (W 27 rfl)) Via.refl rfl (SD.ext f117.2) (g := (mkF m 5 #[rv o1] [(.ref o1)])) rfl (hb hby d2_5)
  have go118 : own_S p e below ST T116 (mkF m 8 #[rv o1] [(.ref ad), (.ref o1)]) := fun tt kt => go115 tt (st116 _ kt)
  have f120 := (E1.keep K113)
  obtain ⟨T119, h119, X119, e119, W119, st119⟩ := putF X116 hx hZ hown (host := "") (Or.inl (W 28 rfl)) Via.refl e116 Fb113 f120 (Or.inl (W 29 rfl)) (W 5 rfl) (ty := (.array (.object "java/lang/Object"))) (by decide) rfl rfl (g := (mkF m 8 #[rv o1] [(.ref ad), (.ref o1)])) rfl rfl (hb hby d2_8)
  have Fw119 := Fb113.same W119
  have N119 := Fr.snoc X119 N113 g1
  have go121 : own_S p e below ST T119 (mkF m 11 #[rv o1] []) := fun tt kt => go118 tt (st119 _ kt)
  have KC119 : Keep h0 h119 [o1] := KC113.wr W119 (Or.inl (List.mem_of_getElem? (i := 0) rfl))
  have f122 := (Fa113.other W119 (Or.inr (slot_ne (Or.inl (W 26 rfl)) (Or.inl (W 29 rfl)) (by decide) (t := .int) (t' := (.array (.object "java/lang/Object"))) (by decide) (by decide))))
  have f123 := (Fc113.other W119 (Or.inr (slot_ne (Or.inl (W 42 rfl)) (Or.inl (W 29 rfl)) (by decide) (t := .int) (t' := (.array (.object "java/lang/Object"))) (by decide) (by decide))))
  obtain ⟨fs, hr, hrun, hended, hW, hsame⟩ := X119.leave (v := none) (fun _ => rfl)
  refine ⟨_, _, pre0 _ (go121 _ ?_), hrun, hended, _, _, rfl, ?_, ⟨_, rfl⟩, hW, hsame.mono (by decide) (by decide)⟩
  · exact X119.returnOut hx Bd.returns (hb hby d2_11) hr
  · show Q2 Z o1 ad h0 n0 _ T119.heap _
    rw [e119]
    exact ⟨rfl, N119, KC119, f122, Fw119, f123⟩
theorem d10_0 : decode jdk_29_method_65_code 0 = .ok (.iload_n 0, 1) := by decide +kernel
theorem d10_1 : decode jdk_29_method_65_code 1 = .ok (.iload_n 1, 1) := by decide +kernel
theorem d10_2 : decode jdk_29_method_65_code 2 = .ok (.if_icmp .lt 7, 3) := by decide +kernel
theorem d10_5 : decode jdk_29_method_65_code 5 = .ok (.iload_n 0, 1) := by decide +kernel
theorem d10_6 : decode jdk_29_method_65_code 6 = .ok (.goto 4, 3) := by decide +kernel
theorem d10_10 : decode jdk_29_method_65_code 10 = .ok (.ireturn, 1) := by decide +kernel
theorem ef10 (m : MethodId) (x0 : Int32) (x1 : Int32) : entryFrame m #[(.int x0), (.int x1)] 2 = mkF m 0 #[.val (.int x0), .val (.int x1)] [] := by first | (simp [entryFrame, mkF, argsToLocals, Value.category]; done) | rfl
def Q10 (Z : State)  (h0 : Heap) (n0 : Nat) (v : Option Value) (h : Heap) (L : List Loc) : Prop := v = some (.int 10) ∧ Fr n0 L ∧ h = h0
set_option maxRecDepth 65536 in
set_option maxHeartbeats 40000000 in
theorem rm10 (l : Launch) (Z : State) (a0 : Array Value) (hw : ∀ d ∈ tables_1, d.before a0 Z = true) (ws : List Jvm.Cond)  (h0 : Heap) (n0 : Nat) (Z0 : n0 ≤ h0.size) :
    MetFree l (⟨"java/lang/Math", "max", "(II)I"⟩ : MethodName) (head1 (Jvm.Cond.code (⟨"java/lang/Math", "max", "(II)I"⟩ : MethodName) jdk_29_method_65_code 2 (some .int) :: ws) ({ frames := 0, cells := 0, slots := 0, locals := 0 } : Room)) (fun aa UU => aa = #[(.int (10 : Int32)), (.int (1 : Int32))] ∧ Z.Warmed39 UU.vm ∧ UU.heap = h0) (fun _ _ _ _ _ => True) (fun _ UU oo UU' => ∃ vv LL, oo = .returned vv ∧ Q10 Z  h0 n0 vv UU'.heap LL ∧ FrameEnd UU oo UU' LL ({ frames := 0, cells := 0, slots := 0, locals := 0 } : Room).cells ({ frames := 0, cells := 0, slots := 0, locals := 0 } : Room).slots) := by
  have W : ∀ {d : Jvm.Cond} (i : Nat), tables_1[i]? = some d → d.before a0 Z = true := fun i h => hw _ (List.mem_of_getElem? h)
  refine MetFree.of_bodySF (Jvm.Free.JP.mathPlain rfl (by decide +kernel)) hisR ?_
  intro p e s m args below meth c s₁ Bd hml0 hP hK
  obtain ⟨rfl, hZ, hh⟩ := hP
  have hx := Bd.exec
  have hby := Bd.bytes
  have hml : c.maxLocals = 2 := hml0
  have hown : s.vm.findClass "java/lang/Math" = some m.cls := findClass_of_methodNamed Bd.named
  have hnm := (name_of_methodNamed Bd.named Bd.method).1
  have X0 : Stand p l e ({ frames := 0, cells := 0, slots := 0, locals := 0 } : Room) s m #[(.int (10 : Int32)), (.int (1 : Int32))] below meth c s₁ [] 0 0 := Stand.of_body Bd
  have e0 : s₁.heap = h0 := by rw [← hh, Bd.state]; rfl
  have N0 := Fr.nil n0
  have pre0 : ∀ tt, Steps p.tables e below (s₁.setTop (mkF m 0 #[iv (10 : Int32), iv (1 : Int32)] [])) tt → Steps p.tables e below (s₁.setTop (entryFrame m #[(.int (10 : Int32)), (.int (1 : Int32))] 2)) tt := fun tt kt => castTop (ef10 m (10 : Int32) (1 : Int32)) kt
  obtain ⟨ST, hST⟩ : ∃ z : State, z = s₁.setTop (mkF m 0 #[iv (10 : Int32), iv (1 : Int32)] []) := ⟨_, rfl⟩
  rw [← hST] at pre0
  have go124 : own_S p e below ST s₁ (mkF m 10 #[iv (10 : Int32), iv (1 : Int32)] [(.int (10 : Int32))]) := fun tt kt => (by
      rw [hST]
      show Steps p.tables e below (s₁.setTop (mkF m 0 #[iv (10 : Int32), iv (1 : Int32)] [])) _
      refine XS.iloadN X0.here hx rfl (hb hby d10_0) rfl ?_
      refine XS.iloadN X0.here hx rfl (hb hby d10_1) rfl ?_
      refine XS.icmpNo X0.here hx rfl (hb hby d10_2) rfl (flt (by decide : ¬ ((10 : Int32) < (1 : Int32)))).1 ?_
      refine XS.iloadN X0.here hx rfl (hb hby d10_5) rfl ?_
      refine XS.goto X0.here hx rfl (pc0 := 6) (pc' := 10) rfl (hb hby d10_6) (by decide) (by decide) ?_
      exact kt)
  obtain ⟨fs, hr, hrun, hended, hW, hsame⟩ := X0.leave (v := some (.int (10 : Int32))) (fun h => by rw [Bd.returns] at h; cases h)
  refine ⟨_, _, pre0 _ (go124 _ ?_), hrun, hended, _, _, rfl, ?_, ⟨_, rfl⟩, hW, hsame.mono (by decide) (by decide)⟩
  · exact retI X0 hx Bd.returns (hb hby d10_10) hr
  · show Q10 Z  h0 n0 _ s₁.heap _
    rw [e0]
    exact ⟨rfl, N0, rfl⟩
theorem d9_0 : decode jdk_38_method_6_code 0 = .ok (.aload_n 0, 1) := by decide +kernel
theorem d9_1 : decode jdk_38_method_6_code 1 = .ok (.getfield 9, 3) := by decide +kernel
theorem d9_4 : decode jdk_38_method_6_code 4 = .ok (.arraylength, 1) := by decide +kernel
theorem d9_5 : decode jdk_38_method_6_code 5 = .ok (.istore_n 2, 1) := by decide +kernel
theorem d9_6 : decode jdk_38_method_6_code 6 = .ok (.iload_n 2, 1) := by decide +kernel
theorem d9_7 : decode jdk_38_method_6_code 7 = .ok (.ifCond .gt 13, 3) := by decide +kernel
theorem d9_10 : decode jdk_38_method_6_code 10 = .ok (.aload_n 0, 1) := by decide +kernel
theorem d9_11 : decode jdk_38_method_6_code 11 = .ok (.getfield 9, 3) := by decide +kernel
theorem d9_14 : decode jdk_38_method_6_code 14 = .ok (.getstatic 39, 3) := by decide +kernel
theorem d9_17 : decode jdk_38_method_6_code 17 = .ok (.if_acmp .eq 28, 3) := by decide +kernel
theorem d9_45 : decode jdk_38_method_6_code 45 = .ok (.aload_n 0, 1) := by decide +kernel
theorem d9_46 : decode jdk_38_method_6_code 46 = .ok (.bipush 10, 2) := by decide +kernel
theorem d9_48 : decode jdk_38_method_6_code 48 = .ok (.iload_n 1, 1) := by decide +kernel
theorem d9_49 : decode jdk_38_method_6_code 49 = .ok (.invokestatic 79, 3) := by decide +kernel
theorem pd39 : parseMethodDescriptor "(II)I" = some ⟨[.int, .int], some .int⟩ := by decide +kernel
theorem d9_52 : decode jdk_38_method_6_code 52 = .ok (.anewarray 7, 3) := by decide +kernel
theorem d9_55 : decode jdk_38_method_6_code 55 = .ok (.dup_x1, 1) := by decide +kernel
theorem d9_56 : decode jdk_38_method_6_code 56 = .ok (.putfield 9, 3) := by decide +kernel
theorem d9_59 : decode jdk_38_method_6_code 59 = .ok (.areturn, 1) := by decide +kernel
theorem ef9 (m : MethodId) (x0 : Addr) (x1 : Int32) : entryFrame m #[(.ref x0), (.int x1)] 4 = mkF m 0 #[.val (.ref x0), .val (.int x1), .unset, .unset] [] := by first | (simp [entryFrame, mkF, argsToLocals, Value.category]; done) | rfl
def Q9 (Z : State) (o1 : Addr) (mc : Int32) (ad : Addr) (kd : ClassId) (h0 : Heap) (n0 : Nat) (v : Option Value) (h : Heap) (L : List Loc) : Prop := ∃ (b : Addr) (kb : ClassId), v = some (.ref b) ∧ Fr n0 L ∧ Keep h0 h [o1] ∧ Fld Z h o1 "java/util/AbstractList" "modCount" "I" (.int mc) ∧ Fld Z h o1 "java/util/ArrayList" "elementData" "[Ljava/lang/Object;" (.ref b) ∧ Fld Z h o1 "java/util/ArrayList" "size" "I" (.int (0 : Int32)) ∧ Arv Z h b kb (.object "java/lang/Object") (10 : Int32) [.null, .null, .null, .null, .null] .null ∧ n0 ≤ b ∧ h0.size ≤ b ∧ o1 ≠ b
set_option maxRecDepth 65536 in
set_option maxHeartbeats 40000000 in
theorem rm9 (l : Launch) (Z : State) (a0 : Array Value) (hw : ∀ d ∈ tables_1, d.before a0 Z = true) (ws : List Jvm.Cond) (o1 : Addr) (mc : Int32) (ad : Addr) (kd : ClassId) (h0 : Heap) (n0 : Nat) (Z0 : n0 ≤ h0.size) (F1 : Fld Z h0 o1 "java/util/AbstractList" "modCount" "I" (.int mc)) (F2 : Fld Z h0 o1 "java/util/ArrayList" "elementData" "[Ljava/lang/Object;" (.ref ad)) (F3 : Fld Z h0 o1 "java/util/ArrayList" "size" "I" (.int (0 : Int32))) (E1 : Exa Z h0 o1 "java/util/ArrayList") (g1 : n0 ≤ o1) (SD : Sta Z Z.heap "java/util/ArrayList" "DEFAULTCAPACITY_EMPTY_ELEMENTDATA" "[Ljava/lang/Object;" (.ref ad)) (VD : Arv Z Z.heap ad kd (.object "java/lang/Object") (0 : Int32) [] .null) (OL : Old Z n0 h0) :
    MetFree l (⟨"java/util/ArrayList", "grow", "(I)[Ljava/lang/Object;"⟩ : MethodName) (head1 (Jvm.Cond.code (⟨"java/util/ArrayList", "grow", "(I)[Ljava/lang/Object;"⟩ : MethodName) jdk_38_method_6_code 4 (some (.array (.object "java/lang/Object"))) :: ws) ({ frames := 1, cells := 1, slots := 10, locals := 14 } : Room)) (fun aa UU => aa = #[(.ref o1), (.int (1 : Int32))] ∧ Z.Warmed39 UU.vm ∧ UU.heap = h0) (fun _ _ _ _ _ => True) (fun _ UU oo UU' => ∃ vv LL, oo = .returned vv ∧ Q9 Z o1 mc ad kd h0 n0 vv UU'.heap LL ∧ FrameEnd UU oo UU' LL ({ frames := 1, cells := 1, slots := 10, locals := 14 } : Room).cells ({ frames := 1, cells := 1, slots := 10, locals := 14 } : Room).slots) := by
  have W : ∀ {d : Jvm.Cond} (i : Nat), tables_1[i]? = some d → d.before a0 Z = true := fun i h => hw _ (List.mem_of_getElem? h)
  refine MetFree.of_bodySF (plainFor_of_name pn12) hisR ?_
  intro p e s m args below meth c s₁ Bd hml0 hP hK
  obtain ⟨rfl, hZ, hh⟩ := hP
  have hx := Bd.exec
  have hby := Bd.bytes
  have hml : c.maxLocals = 4 := hml0
  have hown : s.vm.findClass "java/util/ArrayList" = some m.cls := findClass_of_methodNamed Bd.named
  have hnm := (name_of_methodNamed Bd.named Bd.method).1
  have X0 : Stand p l e ({ frames := 1, cells := 1, slots := 10, locals := 14 } : Room) s m #[(.ref o1), (.int (1 : Int32))] below meth c s₁ [] 0 0 := Stand.of_body Bd
  have e0 : s₁.heap = h0 := by rw [← hh, Bd.state]; rfl
  have N0 := Fr.nil n0
  have pre0 : ∀ tt, Steps p.tables e below (s₁.setTop (mkF m 0 #[rv o1, iv (1 : Int32), .unset, .unset] [])) tt → Steps p.tables e below (s₁.setTop (entryFrame m #[(.ref o1), (.int (1 : Int32))] 4)) tt := fun tt kt => castTop (ef9 m o1 (1 : Int32)) kt
  obtain ⟨ST, hST⟩ : ∃ z : State, z = s₁.setTop (mkF m 0 #[rv o1, iv (1 : Int32), .unset, .unset] []) := ⟨_, rfl⟩
  rw [← hST] at pre0
  have KC0 : Keep h0 h0 [o1] := Keep.refl h0 [o1]
  have go125 : own_S p e below ST s₁ (mkF m 1 #[rv o1, iv (1 : Int32), .unset, .unset] [(.ref o1)]) := fun tt kt => (by
      rw [hST]
      show Steps p.tables e below (s₁.setTop (mkF m 0 #[rv o1, iv (1 : Int32), .unset, .unset] [])) _
      refine XS.aloadN X0.here hx rfl (hb hby d9_0) rfl rfl ?_
      exact kt)
  obtain ⟨T126, X126, e126, st126⟩ := getF X0 hx hZ hown (host := "") (Or.inl (W 28 rfl)) Via.refl e0 F2 (g := (mkF m 1 #[rv o1, iv (1 : Int32), .unset, .unset] [(.ref o1)])) rfl rfl (hb hby d9_1)
  have go127 : own_S p e below ST T126 (mkF m 4 #[rv o1, iv (1 : Int32), .unset, .unset] [(.ref ad)]) := fun tt kt => go125 tt (st126 _ kt)
  obtain ⟨cl128, Ar128, q128, S128, M128, H128, G128⟩ := id (VD.ext OL.2)
  have go129 : own_S p e below ST T126 (mkF m 5 #[rv o1, iv (1 : Int32), .unset, .unset] [(.int (0 : Int32))]) := fun tt kt => go127 tt (by
      refine X126.arraylength hx (by rw [e126]; exact Ar128.1) (State.isArrayOf_alike hZ.alike Ar128.2.1) (g := (mkF m 4 #[rv o1, iv (1 : Int32), .unset, .unset] [(.ref ad)])) rfl rfl (hb hby d9_4) _ ?_
      rw [len_of S128 M128]
      exact kt)
  have go130 : own_S p e below ST T126 (mkF m 11 #[rv o1, iv (1 : Int32), iv (0 : Int32), .unset] [(.ref o1)]) := fun tt kt => go129 tt (by
      refine XS.istoreN X126.here hx rfl (hb hby d9_5) rfl (l' := #[rv o1, iv (1 : Int32), iv (0 : Int32), .unset]) rfl ?_
      refine XS.iloadN X126.here hx rfl (hb hby d9_6) rfl ?_
      refine XS.ifNo X126.here hx rfl (hb hby d9_7) rfl ((if0 _ _).trans (flt (by decide : ¬ ((0 : Int32) < (0 : Int32)))).2.2.1) ?_
      refine XS.aloadN X126.here hx rfl (hb hby d9_10) rfl rfl ?_
      exact kt)
  obtain ⟨T131, X131, e131, st131⟩ := getF X126 hx hZ hown (host := "") (Or.inl (W 28 rfl)) Via.refl e126 F2 (g := (mkF m 11 #[rv o1, iv (1 : Int32), iv (0 : Int32), .unset] [(.ref o1)])) rfl rfl (hb hby d9_11)
  have go132 : own_S p e below ST T131 (mkF m 14 #[rv o1, iv (1 : Int32), iv (0 : Int32), .unset] [(.ref ad)]) := fun tt kt => go130 tt (st131 _ kt)
  obtain ⟨T133, X133, e133, st133⟩ := getS2 X131 hx hZ hown (host := "") (Or.inl (W 27 rfl)) Via.refl e131 (SD.ext OL.2) (g := (mkF m 14 #[rv o1, iv (1 : Int32), iv (0 : Int32), .unset] [(.ref ad)])) rfl (hb hby d9_14)
  have go134 : own_S p e below ST T133 (mkF m 17 #[rv o1, iv (1 : Int32), iv (0 : Int32), .unset] [(.ref ad), (.ref ad)]) := fun tt kt => go132 tt (st133 _ kt)
  have go135 : own_S p e below ST T133 (mkF m 49 #[rv o1, iv (1 : Int32), iv (0 : Int32), .unset] [(.int (1 : Int32)), (.int (10 : Int32)), (.ref o1)]) := fun tt kt => go134 tt (by
      refine Jvm.RoadKit.acmp (g := (mkF m 17 #[rv o1, iv (1 : Int32), iv (0 : Int32), .unset] [(.ref ad), (.ref ad)])) X133 hx rfl rfl rfl (pc0 := 17) (pc' := 45) (same := true) rfl (hb hby d9_17) rfl (decide_eq_true rfl) (by decide) (by decide) ?_
      refine XS.aloadN X133.here hx rfl (hb hby d9_45) rfl rfl ?_
      refine XS.bipush X133.here hx rfl (hb hby d9_46) ?_
      refine XS.iloadN X133.here hx rfl (hb hby d9_48) rfl ?_
      exact kt)
  obtain ⟨_, _, ⟨T136, L136, k136, n136⟩, -, X136, ⟨Lc136, hQ136, l136, y136, z136⟩, st136⟩ := Jvm.LawKit.callS X133 hx (y := (⟨"java/lang/Math", "max", "(II)I"⟩ : MethodName)) hown (mvT hZ (W 58 rfl)) (mvT hZ (W 59 rfl)) (mvT hZ (W 60 rfl)) (mvT hZ (W 61 rfl)) (by decide) (backOf (W := 1) (rm10 l Z a0 hw []  h0 n0 Z0 ) hZ (W 61 rfl) (W 60 rfl) (by decide) (by decide)) (g := (mkF m 49 #[rv o1, iv (1 : Int32), iv (0 : Int32), .unset] [(.int (1 : Int32)), (.int (10 : Int32)), (.ref o1)])) rfl (by rw [hml]; rfl) (argsL := [(.int (10 : Int32)), (.int (1 : Int32))]) (rest := [(.ref o1)]) (lenOf pd39 rfl) rfl (by show 2 * 0 + _ ≤ _; exact Nat.le_of_eq rfl) (hb hby d9_49) (fun _ _ => ⟨rfl, e133, (by decide : 0 + 0 ≤ _), (by decide : 0 + 0 ≤ _)⟩)
  dsimp only [Pt.U, Pt.locs, Pt.cells, Pt.slots] at X136 l136 y136 z136 st136 hQ136
  subst l136 y136 z136
  obtain ⟨rfl, Nq136, eh136⟩ := hQ136
  have N136 := Fr.app N0 Nq136
  have go137 : own_S p e below ST T136 (mkF m 52 #[rv o1, iv (1 : Int32), iv (0 : Int32), .unset] [(.int (10 : Int32)), (.ref o1)]) := fun tt kt => go135 tt (st136 _ kt)
  obtain ⟨b138, g138⟩ : ∃ z, z = h0.size := ⟨_, rfl⟩
  obtain ⟨T138, h138, k138, X138, e138, E138, A138, O138, st138⟩ := newR X136 hx hZ hown (W 62 rfl) (W 63 rfl) eh136 (g := (mkF m 52 #[rv o1, iv (1 : Int32), iv (0 : Int32), .unset] [(.int (10 : Int32)), (.ref o1)])) rfl (hb hby d9_52) rfl (by decide) (cap := 10) (by decide) (by decide) (by decide) (by decide)
  rw [← g138] at A138 st138
  have neo1_b138 : o1 ≠ b138 := Nat.ne_of_lt (Nat.lt_of_lt_of_le E1.lt (Nat.le_of_eq g138.symm))
  have ge_b138 : n0 ≤ b138 := Nat.le_trans Z0 (Nat.le_of_eq g138.symm)
  have sz_b138 : h0.size ≤ b138 := Nat.le_trans KC0.1 (Nat.le_of_eq g138.symm)
  have V138 : Arv Z h138 b138 k138 (.object "java/lang/Object") (10 : Int32) [.null, .null, .null, .null, .null] .null := (Arv.new A138 (by decide)).pad (pad_rep [] .null 5)
  have KC138 : Keep h0 h138 [o1] := KC0.ext E138
  have go139 : own_S p e below ST T138 (mkF m 55 #[rv o1, iv (1 : Int32), iv (0 : Int32), .unset] [(.ref b138), (.ref o1)]) := fun tt kt => go137 tt (st138 _ kt)
  have go140 : own_S p e below ST T138 (mkF m 56 #[rv o1, iv (1 : Int32), iv (0 : Int32), .unset] [(.ref b138), (.ref o1), (.ref b138)]) := fun tt kt => go139 tt (by
      refine XS.dupX1 X138.here hx rfl (hb hby d9_55) rfl rfl rfl ?_
      exact kt)
  have f142 := (F2.ext E138)
  have f143 := (E1.ext E138)
  obtain ⟨T141, h141, X141, e141, W141, st141⟩ := putF X138 hx hZ hown (host := "") (Or.inl (W 28 rfl)) Via.refl e138 f142 f143 (Or.inl (W 29 rfl)) (W 5 rfl) (ty := (.array (.object "java/lang/Object"))) (by decide) rfl rfl (g := (mkF m 56 #[rv o1, iv (1 : Int32), iv (0 : Int32), .unset] [(.ref b138), (.ref o1), (.ref b138)])) rfl rfl (hb hby d9_56)
  have Fw141 := f142.same W141
  have N141 := Fr.snoc X141 N136 g1
  have go144 : own_S p e below ST T141 (mkF m 59 #[rv o1, iv (1 : Int32), iv (0 : Int32), .unset] [(.ref b138)]) := fun tt kt => go140 tt (st141 _ kt)
  have KC141 : Keep h0 h141 [o1] := KC138.wr W141 (Or.inl (List.mem_of_getElem? (i := 0) rfl))
  have f145 := ((F1.ext E138).other W141 (Or.inr (slot_ne (Or.inl (W 26 rfl)) (Or.inl (W 29 rfl)) (by decide) (t := .int) (t' := (.array (.object "java/lang/Object"))) (by decide) (by decide))))
  have f146 := ((F3.ext E138).other W141 (Or.inr (slot_ne (Or.inl (W 42 rfl)) (Or.inl (W 29 rfl)) (by decide) (t := .int) (t' := (.array (.object "java/lang/Object"))) (by decide) (by decide))))
  have f147 := (V138.other W141 (Ne.symm neo1_b138))
  obtain ⟨fs, hr, hrun, hended, hW, hsame⟩ := X141.leave (v := some (.ref b138)) (fun h => by rw [Bd.returns] at h; cases h)
  refine ⟨_, _, pre0 _ (go144 _ ?_), hrun, hended, _, _, rfl, ?_, ⟨_, rfl⟩, hW, hsame.mono (by decide) (by decide)⟩
  · exact retOut X141 hx Bd.returns rfl (Or.inr (Or.inr (Or.inr (Or.inr ⟨rfl, rfl, rfl⟩)))) (hb hby d9_59) hr
  · show Q9 Z o1 mc ad kd h0 n0 _ T141.heap _
    rw [e141]
    exact ⟨b138, k138, rfl, N141, KC141, f145, Fw141, f146, f147, ge_b138, sz_b138, neo1_b138⟩
theorem d8_0 : decode jdk_38_method_7_code 0 = .ok (.aload_n 0, 1) := by decide +kernel
theorem d8_1 : decode jdk_38_method_7_code 1 = .ok (.aload_n 0, 1) := by decide +kernel
theorem d8_2 : decode jdk_38_method_7_code 2 = .ok (.getfield 48, 3) := by decide +kernel
theorem d8_5 : decode jdk_38_method_7_code 5 = .ok (.iconst 1, 1) := by decide +kernel
theorem d8_6 : decode jdk_38_method_7_code 6 = .ok (.iadd, 1) := by decide +kernel
theorem d8_7 : decode jdk_38_method_7_code 7 = .ok (.invokevirtual 69, 3) := by decide +kernel
theorem pd50 : parseMethodDescriptor "(I)[Ljava/lang/Object;" = some ⟨[.int], some (.array (.object "java/lang/Object"))⟩ := by decide +kernel
theorem d8_10 : decode jdk_38_method_7_code 10 = .ok (.areturn, 1) := by decide +kernel
theorem ef8 (m : MethodId) (x0 : Addr) : entryFrame m #[(.ref x0)] 1 = mkF m 0 #[.val (.ref x0)] [] := by first | (simp [entryFrame, mkF, argsToLocals, Value.category]; done) | rfl
def Q8 (Z : State) (o1 : Addr) (mc : Int32) (ad : Addr) (kd : ClassId) (h0 : Heap) (n0 : Nat) (v : Option Value) (h : Heap) (L : List Loc) : Prop := ∃ (b : Addr) (kb : ClassId), v = some (.ref b) ∧ Fr n0 L ∧ Keep h0 h [o1] ∧ Fld Z h o1 "java/util/AbstractList" "modCount" "I" (.int mc) ∧ Fld Z h o1 "java/util/ArrayList" "elementData" "[Ljava/lang/Object;" (.ref b) ∧ Fld Z h o1 "java/util/ArrayList" "size" "I" (.int (0 : Int32)) ∧ Arv Z h b kb (.object "java/lang/Object") (10 : Int32) [.null, .null, .null, .null, .null] .null ∧ n0 ≤ b ∧ h0.size ≤ b ∧ o1 ≠ b
set_option maxRecDepth 65536 in
set_option maxHeartbeats 40000000 in
theorem rm8 (l : Launch) (Z : State) (a0 : Array Value) (hw : ∀ d ∈ tables_1, d.before a0 Z = true) (ws : List Jvm.Cond) (o1 : Addr) (mc : Int32) (ad : Addr) (kd : ClassId) (h0 : Heap) (n0 : Nat) (Z0 : n0 ≤ h0.size) (F1 : Fld Z h0 o1 "java/util/AbstractList" "modCount" "I" (.int mc)) (F2 : Fld Z h0 o1 "java/util/ArrayList" "elementData" "[Ljava/lang/Object;" (.ref ad)) (F3 : Fld Z h0 o1 "java/util/ArrayList" "size" "I" (.int (0 : Int32))) (E1 : Exa Z h0 o1 "java/util/ArrayList") (g1 : n0 ≤ o1) (SD : Sta Z Z.heap "java/util/ArrayList" "DEFAULTCAPACITY_EMPTY_ELEMENTDATA" "[Ljava/lang/Object;" (.ref ad)) (VD : Arv Z Z.heap ad kd (.object "java/lang/Object") (0 : Int32) [] .null) (OL : Old Z n0 h0) :
    MetFree l (⟨"java/util/ArrayList", "grow", "()[Ljava/lang/Object;"⟩ : MethodName) (head1 (Jvm.Cond.code (⟨"java/util/ArrayList", "grow", "()[Ljava/lang/Object;"⟩ : MethodName) jdk_38_method_7_code 1 (some (.array (.object "java/lang/Object"))) :: ws) ({ frames := 2, cells := 1, slots := 10, locals := 29 } : Room)) (fun aa UU => aa = #[(.ref o1)] ∧ Z.Warmed39 UU.vm ∧ UU.heap = h0) (fun _ _ _ _ _ => True) (fun _ UU oo UU' => ∃ vv LL, oo = .returned vv ∧ Q8 Z o1 mc ad kd h0 n0 vv UU'.heap LL ∧ FrameEnd UU oo UU' LL ({ frames := 2, cells := 1, slots := 10, locals := 29 } : Room).cells ({ frames := 2, cells := 1, slots := 10, locals := 29 } : Room).slots) := by
  have W : ∀ {d : Jvm.Cond} (i : Nat), tables_1[i]? = some d → d.before a0 Z = true := fun i h => hw _ (List.mem_of_getElem? h)
  refine MetFree.of_bodySF (plainFor_of_name pn12) hisR ?_
  intro p e s m args below meth c s₁ Bd hml0 hP hK
  obtain ⟨rfl, hZ, hh⟩ := hP
  have hx := Bd.exec
  have hby := Bd.bytes
  have hml : c.maxLocals = 1 := hml0
  have hown : s.vm.findClass "java/util/ArrayList" = some m.cls := findClass_of_methodNamed Bd.named
  have hnm := (name_of_methodNamed Bd.named Bd.method).1
  have X0 : Stand p l e ({ frames := 2, cells := 1, slots := 10, locals := 29 } : Room) s m #[(.ref o1)] below meth c s₁ [] 0 0 := Stand.of_body Bd
  have e0 : s₁.heap = h0 := by rw [← hh, Bd.state]; rfl
  have N0 := Fr.nil n0
  have pre0 : ∀ tt, Steps p.tables e below (s₁.setTop (mkF m 0 #[rv o1] [])) tt → Steps p.tables e below (s₁.setTop (entryFrame m #[(.ref o1)] 1)) tt := fun tt kt => castTop (ef8 m o1) kt
  obtain ⟨ST, hST⟩ : ∃ z : State, z = s₁.setTop (mkF m 0 #[rv o1] []) := ⟨_, rfl⟩
  rw [← hST] at pre0
  have KC0 : Keep h0 h0 [o1] := Keep.refl h0 [o1]
  have go148 : own_S p e below ST s₁ (mkF m 2 #[rv o1] [(.ref o1), (.ref o1)]) := fun tt kt => (by
      rw [hST]
      show Steps p.tables e below (s₁.setTop (mkF m 0 #[rv o1] [])) _
      refine XS.aloadN X0.here hx rfl (hb hby d8_0) rfl rfl ?_
      refine XS.aloadN X0.here hx rfl (hb hby d8_1) rfl rfl ?_
      exact kt)
  obtain ⟨T149, X149, e149, st149⟩ := getF X0 hx hZ hown (host := "") (Or.inl (W 41 rfl)) Via.refl e0 F3 (g := (mkF m 2 #[rv o1] [(.ref o1), (.ref o1)])) rfl rfl (hb hby d8_2)
  have go150 : own_S p e below ST T149 (mkF m 5 #[rv o1] [(.int (0 : Int32)), (.ref o1)]) := fun tt kt => go148 tt (st149 _ kt)
  have go151 : own_S p e below ST T149 (mkF m 7 #[rv o1] [(.int (1 : Int32)), (.ref o1)]) := fun tt kt => go150 tt (by
      refine XS.iconst X149.here hx rfl (hb hby d8_5) ?_
      refine XS.iadd X149.here hx rfl (hb hby d8_6) rfl ?_
      exact kt)
  obtain ⟨cq152, q152, q152'⟩ := E1.cell
  obtain ⟨_, _, ⟨T152, L152, k152, n152⟩, -, X152, ⟨Lc152, hQ152, l152, y152, z152⟩, st152⟩ := X149.privateBack hx (y := (⟨"java/util/ArrayList", "grow", "(I)[Ljava/lang/Object;"⟩ : MethodName)) hown (mvT hZ (W 53 rfl)) (mvT hZ (W 54 rfl)) (mvT hZ (W 56 rfl)) (Cond.privateMethod_at (mvP hZ (W 55 rfl) (args := #[]))) (mvT hZ (W 57 rfl)) (by decide) (backOf (W := 0) (rm9 l Z a0 hw [] o1 mc ad kd h0 n0 Z0 F1 F2 F3 E1 g1 SD VD OL) hZ (W 57 rfl) (W 6 rfl) (by decide) (by decide)) (g := (mkF m 7 #[rv o1] [(.int (1 : Int32)), (.ref o1)])) rfl (by rw [hml]; rfl) (Steps.refl _) (a := o1) (by rw [e149]; exact q152) q152' (argsL := [(.int (1 : Int32))]) (rest := []) (lenOf pd50 rfl) rfl (by show 2 * 0 + _ ≤ _; exact Nat.le_of_eq rfl) (hb hby d8_7) (fun _ _ => ⟨rfl, e149, (by decide : 0 + 1 ≤ _), (by decide : 0 + 10 ≤ _)⟩)
  dsimp only [Pt.U, Pt.locs, Pt.cells, Pt.slots] at X152 l152 y152 z152 st152 hQ152
  subst l152 y152 z152
  obtain ⟨b152, kb152, rfl, Nq152, K152, Fa152, Fb152, Fc152, Vb152, gb152, zb152, nb152⟩ := hQ152
  have N152 := Fr.app N0 Nq152
  have go153 : own_S p e below ST T152 (mkF m 10 #[rv o1] [(.ref b152)]) := fun tt kt => go151 tt (st152.trans kt)
  have KC152 : Keep h0 T152.heap [o1] := KC0.trans K152 (allS (Or.inl (List.mem_of_getElem? (i := 0) rfl)) all0)
  obtain ⟨fs, hr, hrun, hended, hW, hsame⟩ := X152.leave (v := some (.ref b152)) (fun h => by rw [Bd.returns] at h; cases h)
  refine ⟨_, _, pre0 _ (go153 _ ?_), hrun, hended, _, _, rfl, ?_, ⟨_, rfl⟩, hW, hsame.mono (by decide) (by decide)⟩
  · exact retOut X152 hx Bd.returns rfl (Or.inr (Or.inr (Or.inr (Or.inr ⟨rfl, rfl, rfl⟩)))) (hb hby d8_10) hr
  · show Q8 Z o1 mc ad kd h0 n0 _ T152.heap _
    exact ⟨b152, kb152, rfl, N152, KC152, Fa152, Fb152, Fc152, Vb152, gb152, (Nat.le_trans KC0.1 zb152), nb152⟩
theorem d7_0 : decode jdk_38_method_24_code 0 = .ok (.iload_n 3, 1) := by decide +kernel
theorem d7_1 : decode jdk_38_method_24_code 1 = .ok (.aload_n 2, 1) := by decide +kernel
theorem d7_2 : decode jdk_38_method_24_code 2 = .ok (.arraylength, 1) := by decide +kernel
theorem d7_3 : decode jdk_38_method_24_code 3 = .ok (.if_icmp .ne 8, 3) := by decide +kernel
theorem d7_6 : decode jdk_38_method_24_code 6 = .ok (.aload_n 0, 1) := by decide +kernel
theorem d7_7 : decode jdk_38_method_24_code 7 = .ok (.invokevirtual 129, 3) := by decide +kernel
theorem pd58 : parseMethodDescriptor "()[Ljava/lang/Object;" = some ⟨[], some (.array (.object "java/lang/Object"))⟩ := by decide +kernel
theorem d7_10 : decode jdk_38_method_24_code 10 = .ok (.astore_n 2, 1) := by decide +kernel
theorem d7_11 : decode jdk_38_method_24_code 11 = .ok (.aload_n 2, 1) := by decide +kernel
theorem d7_12 : decode jdk_38_method_24_code 12 = .ok (.iload_n 3, 1) := by decide +kernel
theorem d7_13 : decode jdk_38_method_24_code 13 = .ok (.aload_n 1, 1) := by decide +kernel
theorem d7_14 : decode jdk_38_method_24_code 14 = .ok (.aastore, 1) := by decide +kernel
theorem d7_15 : decode jdk_38_method_24_code 15 = .ok (.aload_n 0, 1) := by decide +kernel
theorem d7_16 : decode jdk_38_method_24_code 16 = .ok (.iload_n 3, 1) := by decide +kernel
theorem d7_17 : decode jdk_38_method_24_code 17 = .ok (.iconst 1, 1) := by decide +kernel
theorem d7_18 : decode jdk_38_method_24_code 18 = .ok (.iadd, 1) := by decide +kernel
theorem d7_19 : decode jdk_38_method_24_code 19 = .ok (.putfield 48, 3) := by decide +kernel
theorem d7_22 : decode jdk_38_method_24_code 22 = .ok (.return_, 1) := by decide +kernel
theorem ef7k0 (m : MethodId) (x0 : Addr) (x2 : Addr) (x3 : Int32) : entryFrame m #[(.ref x0), .null, (.ref x2), (.int x3)] 4 = mkF m 0 #[.val (.ref x0), .val .null, .val (.ref x2), .val (.int x3)] [] := by first | (simp [entryFrame, mkF, argsToLocals, Value.category]; done) | rfl
def Q7k0 (Z : State) (o1 : Addr) (mc : Int32) (ad : Addr) (kd : ClassId) (h0 : Heap) (n0 : Nat) (v : Option Value) (h : Heap) (L : List Loc) : Prop := ∃ (b : Addr) (kb : ClassId), v = none ∧ Fr n0 L ∧ Keep h0 h [o1] ∧ Fld Z h o1 "java/util/AbstractList" "modCount" "I" (.int mc) ∧ Fld Z h o1 "java/util/ArrayList" "elementData" "[Ljava/lang/Object;" (.ref b) ∧ Fld Z h o1 "java/util/ArrayList" "size" "I" (.int (1 : Int32)) ∧ Arv Z h b kb (.object "java/lang/Object") (10 : Int32) [.null, .null, .null, .null, .null] .null ∧ n0 ≤ b ∧ h0.size ≤ b ∧ o1 ≠ b
set_option maxRecDepth 65536 in
set_option maxHeartbeats 40000000 in
theorem rm7k0 (l : Launch) (Z : State) (a0 : Array Value) (hw : ∀ d ∈ tables_1, d.before a0 Z = true) (ws : List Jvm.Cond) (o1 : Addr) (mc : Int32) (ad : Addr) (kd : ClassId) (h0 : Heap) (n0 : Nat) (Z0 : n0 ≤ h0.size) (F1 : Fld Z h0 o1 "java/util/AbstractList" "modCount" "I" (.int mc)) (F2 : Fld Z h0 o1 "java/util/ArrayList" "elementData" "[Ljava/lang/Object;" (.ref ad)) (F3 : Fld Z h0 o1 "java/util/ArrayList" "size" "I" (.int (0 : Int32))) (E1 : Exa Z h0 o1 "java/util/ArrayList") (g1 : n0 ≤ o1) (SD : Sta Z Z.heap "java/util/ArrayList" "DEFAULTCAPACITY_EMPTY_ELEMENTDATA" "[Ljava/lang/Object;" (.ref ad)) (VD : Arv Z Z.heap ad kd (.object "java/lang/Object") (0 : Int32) [] .null) (OL : Old Z n0 h0) :
    MetFree l (⟨"java/util/ArrayList", "add", "(Ljava/lang/Object;[Ljava/lang/Object;I)V"⟩ : MethodName) (head1 (Jvm.Cond.code (⟨"java/util/ArrayList", "add", "(Ljava/lang/Object;[Ljava/lang/Object;I)V"⟩ : MethodName) jdk_38_method_24_code 4 none :: ws) ({ frames := 3, cells := 1, slots := 10, locals := 41 } : Room)) (fun aa UU => aa = #[(.ref o1), .null, (.ref ad), (.int (0 : Int32))] ∧ Z.Warmed39 UU.vm ∧ UU.heap = h0) (fun _ _ _ _ _ => True) (fun _ UU oo UU' => ∃ vv LL, oo = .returned vv ∧ Q7k0 Z o1 mc ad kd h0 n0 vv UU'.heap LL ∧ FrameEnd UU oo UU' LL ({ frames := 3, cells := 1, slots := 10, locals := 41 } : Room).cells ({ frames := 3, cells := 1, slots := 10, locals := 41 } : Room).slots) := by
  have W : ∀ {d : Jvm.Cond} (i : Nat), tables_1[i]? = some d → d.before a0 Z = true := fun i h => hw _ (List.mem_of_getElem? h)
  refine MetFree.of_bodySF (plainFor_of_name pn12) hisR ?_
  intro p e s m args below meth c s₁ Bd hml0 hP hK
  obtain ⟨rfl, hZ, hh⟩ := hP
  have hx := Bd.exec
  have hby := Bd.bytes
  have hml : c.maxLocals = 4 := hml0
  have hown : s.vm.findClass "java/util/ArrayList" = some m.cls := findClass_of_methodNamed Bd.named
  have hnm := (name_of_methodNamed Bd.named Bd.method).1
  have X0 : Stand p l e ({ frames := 3, cells := 1, slots := 10, locals := 41 } : Room) s m #[(.ref o1), .null, (.ref ad), (.int (0 : Int32))] below meth c s₁ [] 0 0 := Stand.of_body Bd
  have e0 : s₁.heap = h0 := by rw [← hh, Bd.state]; rfl
  have N0 := Fr.nil n0
  have pre0 : ∀ tt, Steps p.tables e below (s₁.setTop (mkF m 0 #[rv o1, .val .null, rv ad, iv (0 : Int32)] [])) tt → Steps p.tables e below (s₁.setTop (entryFrame m #[(.ref o1), .null, (.ref ad), (.int (0 : Int32))] 4)) tt := fun tt kt => castTop (ef7k0 m o1 ad (0 : Int32)) kt
  obtain ⟨ST, hST⟩ : ∃ z : State, z = s₁.setTop (mkF m 0 #[rv o1, .val .null, rv ad, iv (0 : Int32)] []) := ⟨_, rfl⟩
  rw [← hST] at pre0
  have KC0 : Keep h0 h0 [o1] := Keep.refl h0 [o1]
  have go154 : own_S p e below ST s₁ (mkF m 2 #[rv o1, .val .null, rv ad, iv (0 : Int32)] [(.ref ad), (.int (0 : Int32))]) := fun tt kt => (by
      rw [hST]
      show Steps p.tables e below (s₁.setTop (mkF m 0 #[rv o1, .val .null, rv ad, iv (0 : Int32)] [])) _
      refine XS.iloadN X0.here hx rfl (hb hby d7_0) rfl ?_
      refine XS.aloadN X0.here hx rfl (hb hby d7_1) rfl rfl ?_
      exact kt)
  obtain ⟨cl155, Ar155, q155, S155, M155, H155, G155⟩ := id (VD.ext OL.2)
  have go156 : own_S p e below ST s₁ (mkF m 3 #[rv o1, .val .null, rv ad, iv (0 : Int32)] [(.int (0 : Int32)), (.int (0 : Int32))]) := fun tt kt => go154 tt (by
      refine X0.arraylength hx (by rw [e0]; exact Ar155.1) (State.isArrayOf_alike hZ.alike Ar155.2.1) (g := (mkF m 2 #[rv o1, .val .null, rv ad, iv (0 : Int32)] [(.ref ad), (.int (0 : Int32))])) rfl rfl (hb hby d7_2) _ ?_
      rw [len_of S155 M155]
      exact kt)
  have go157 : own_S p e below ST s₁ (mkF m 7 #[rv o1, .val .null, rv ad, iv (0 : Int32)] [(.ref o1)]) := fun tt kt => go156 tt (by
      refine XS.icmpNo X0.here hx rfl (hb hby d7_3) rfl (teq (by decide : (0 : Int32) = (0 : Int32))).2 ?_
      refine XS.aloadN X0.here hx rfl (hb hby d7_6) rfl rfl ?_
      exact kt)
  obtain ⟨cq158, q158, q158'⟩ := E1.cell
  obtain ⟨_, _, ⟨T158, L158, k158, n158⟩, -, X158, ⟨Lc158, hQ158, l158, y158, z158⟩, st158⟩ := X0.privateBack hx (y := (⟨"java/util/ArrayList", "grow", "()[Ljava/lang/Object;"⟩ : MethodName)) hown (mvT hZ (W 48 rfl)) (mvT hZ (W 49 rfl)) (mvT hZ (W 51 rfl)) (Cond.privateMethod_at (mvP hZ (W 50 rfl) (args := #[]))) (mvT hZ (W 52 rfl)) (by decide) (backOf (W := 0) (rm8 l Z a0 hw [] o1 mc ad kd h0 n0 Z0 F1 F2 F3 E1 g1 SD VD OL) hZ (W 52 rfl) (W 6 rfl) (by decide) (by decide)) (g := (mkF m 7 #[rv o1, .val .null, rv ad, iv (0 : Int32)] [(.ref o1)])) rfl (by rw [hml]; rfl) (Steps.refl _) (a := o1) (by rw [e0]; exact q158) q158' (argsL := []) (rest := []) (lenOf pd58 rfl) rfl (by show 2 * 0 + _ ≤ _; exact Nat.le_of_eq rfl) (hb hby d7_7) (fun _ _ => ⟨rfl, e0, (by decide : 0 + 1 ≤ _), (by decide : 0 + 10 ≤ _)⟩)
  dsimp only [Pt.U, Pt.locs, Pt.cells, Pt.slots] at X158 l158 y158 z158 st158 hQ158
  subst l158 y158 z158
  obtain ⟨b158, kb158, rfl, Nq158, K158, Fa158, Fb158, Fc158, Vb158, gb158, zb158, nb158⟩ := hQ158
  have N158 := Fr.app N0 Nq158
  have go159 : own_S p e below ST T158 (mkF m 10 #[rv o1, .val .null, rv ad, iv (0 : Int32)] [(.ref b158)]) := fun tt kt => go157 tt (st158.trans kt)
  have KC158 : Keep h0 T158.heap [o1] := KC0.trans K158 (allS (Or.inl (List.mem_of_getElem? (i := 0) rfl)) all0)
  have go160 : own_S p e below ST T158 (mkF m 14 #[rv o1, .val .null, rv b158, iv (0 : Int32)] [.null, (.int (0 : Int32)), (.ref b158)]) := fun tt kt => go159 tt (by
      refine XS.astoreN X158.here hx rfl (hb hby d7_10) rfl rfl (l' := #[rv o1, .val .null, rv b158, iv (0 : Int32)]) rfl ?_
      refine XS.aloadN X158.here hx rfl (hb hby d7_11) rfl rfl ?_
      refine XS.iloadN X158.here hx rfl (hb hby d7_12) rfl ?_
      refine XS.aloadN X158.here hx rfl (hb hby d7_13) rfl rfl ?_
      exact kt)
  obtain ⟨cl161, Ar161, q161, S161, M161, H161, G161⟩ := id Vb158
  have hin161 : ¬ ((0 : Int32) < 0 ∨ cl161.slots.size ≤ ((0 : Int32)).toNatClampNeg) := inb_of S161 ⟨by decide, by decide⟩
  obtain ⟨T161, h161, X161, e161, W161, st161⟩ := stR X158 hx hZ rfl Ar161 (j := (0 : Int32)) hin161 rfl (Or.inl rfl) (g := (mkF m 14 #[rv o1, .val .null, rv b158, iv (0 : Int32)] [.null, (.int (0 : Int32)), (.ref b158)])) rfl rfl (hb hby d7_14)
  have V161 : Arv Z h161 b158 kb158 (.object "java/lang/Object") (10 : Int32) [.null, .null, .null, .null, .null] .null := Arv.set Ar161 q161 S161 M161 H161 G161 rfl W161 0 rfl (Nat.le_of_ble_eq_true rfl)
  have N161 := Fr.snoc X161 N158 gb158
  have KC161 : Keep h0 h161 [o1] := KC158.wr W161 (Or.inr (Nat.le_trans KC0.1 zb158))
  have go162 : own_S p e below ST T161 (mkF m 15 #[rv o1, .val .null, rv b158, iv (0 : Int32)] []) := fun tt kt => go160 tt (st161 _ kt)
  have go163 : own_S p e below ST T161 (mkF m 19 #[rv o1, .val .null, rv b158, iv (0 : Int32)] [(.int (1 : Int32)), (.ref o1)]) := fun tt kt => go162 tt (by
      refine XS.aloadN X161.here hx rfl (hb hby d7_15) rfl rfl ?_
      refine XS.iloadN X161.here hx rfl (hb hby d7_16) rfl ?_
      refine XS.iconst X161.here hx rfl (hb hby d7_17) ?_
      refine XS.iadd X161.here hx rfl (hb hby d7_18) rfl ?_
      exact kt)
  have f165 := (Fc158.other W161 (Or.inl nb158))
  have f166 := ((E1.keep K158).wr W161)
  obtain ⟨T164, h164, X164, e164, W164, st164⟩ := putF X161 hx hZ hown (host := "") (Or.inl (W 41 rfl)) Via.refl e161 f165 f166 (Or.inl (W 42 rfl)) (W 5 rfl) (ty := .int) (by decide) rfl rfl (g := (mkF m 19 #[rv o1, .val .null, rv b158, iv (0 : Int32)] [(.int (1 : Int32)), (.ref o1)])) rfl rfl (hb hby d7_19)
  have Fw164 := f165.same W164
  have N164 := Fr.snoc X164 N161 g1
  have go167 : own_S p e below ST T164 (mkF m 22 #[rv o1, .val .null, rv b158, iv (0 : Int32)] []) := fun tt kt => go163 tt (st164 _ kt)
  have KC164 : Keep h0 h164 [o1] := KC161.wr W164 (Or.inl (List.mem_of_getElem? (i := 0) rfl))
  have f168 := ((Fa158.other W161 (Or.inl nb158)).other W164 (Or.inr (slot_ne (Or.inl (W 26 rfl)) (Or.inl (W 42 rfl)) (by decide) (t := .int) (t' := .int) (by decide) (by decide))))
  have f169 := ((Fb158.other W161 (Or.inl nb158)).other W164 (Or.inr (slot_ne (Or.inl (W 29 rfl)) (Or.inl (W 42 rfl)) (by decide) (t := (.array (.object "java/lang/Object"))) (t' := .int) (by decide) (by decide))))
  have f170 := (V161.other W164 (Ne.symm nb158))
  obtain ⟨fs, hr, hrun, hended, hW, hsame⟩ := X164.leave (v := none) (fun _ => rfl)
  refine ⟨_, _, pre0 _ (go167 _ ?_), hrun, hended, _, _, rfl, ?_, ⟨_, rfl⟩, hW, hsame.mono (by decide) (by decide)⟩
  · exact X164.returnOut hx Bd.returns (hb hby d7_22) hr
  · show Q7k0 Z o1 mc ad kd h0 n0 _ T164.heap _
    rw [e164]
    exact ⟨b158, kb158, rfl, N164, KC164, f168, f169, Fw164, f170, gb158, (Nat.le_trans KC0.1 zb158), nb158⟩
theorem d6_0 : decode jdk_38_method_25_code 0 = .ok (.aload_n 0, 1) := by decide +kernel
theorem d6_1 : decode jdk_38_method_25_code 1 = .ok (.dup, 1) := by decide +kernel
theorem d6_2 : decode jdk_38_method_25_code 2 = .ok (.getfield 63, 3) := by decide +kernel
theorem d6_5 : decode jdk_38_method_25_code 5 = .ok (.iconst 1, 1) := by decide +kernel
theorem d6_6 : decode jdk_38_method_25_code 6 = .ok (.iadd, 1) := by decide +kernel
theorem d6_7 : decode jdk_38_method_25_code 7 = .ok (.putfield 63, 3) := by decide +kernel
theorem d6_10 : decode jdk_38_method_25_code 10 = .ok (.aload_n 0, 1) := by decide +kernel
theorem d6_11 : decode jdk_38_method_25_code 11 = .ok (.aload_n 1, 1) := by decide +kernel
theorem d6_12 : decode jdk_38_method_25_code 12 = .ok (.aload_n 0, 1) := by decide +kernel
theorem d6_13 : decode jdk_38_method_25_code 13 = .ok (.getfield 9, 3) := by decide +kernel
theorem d6_16 : decode jdk_38_method_25_code 16 = .ok (.aload_n 0, 1) := by decide +kernel
theorem d6_17 : decode jdk_38_method_25_code 17 = .ok (.getfield 48, 3) := by decide +kernel
theorem d6_20 : decode jdk_38_method_25_code 20 = .ok (.invokevirtual 131, 3) := by decide +kernel
theorem pd83 : parseMethodDescriptor "(Ljava/lang/Object;[Ljava/lang/Object;I)V" = some ⟨[(.object "java/lang/Object"), (.array (.object "java/lang/Object")), .int], none⟩ := by decide +kernel
theorem d6_23 : decode jdk_38_method_25_code 23 = .ok (.iconst 1, 1) := by decide +kernel
theorem d6_24 : decode jdk_38_method_25_code 24 = .ok (.ireturn, 1) := by decide +kernel
theorem ef6k0 (m : MethodId) (x0 : Addr) : entryFrame m #[(.ref x0), .null] 2 = mkF m 0 #[.val (.ref x0), .val .null] [] := by first | (simp [entryFrame, mkF, argsToLocals, Value.category]; done) | rfl
def Q6k0 (Z : State) (o1 : Addr) (mc : Int32) (ad : Addr) (kd : ClassId) (h0 : Heap) (n0 : Nat) (v : Option Value) (h : Heap) (L : List Loc) : Prop := ∃ (b : Addr) (kb : ClassId), v = some (.int 1) ∧ Fr n0 L ∧ Keep h0 h [o1] ∧ Fld Z h o1 "java/util/AbstractList" "modCount" "I" (.int (mc + 1)) ∧ Fld Z h o1 "java/util/ArrayList" "elementData" "[Ljava/lang/Object;" (.ref b) ∧ Fld Z h o1 "java/util/ArrayList" "size" "I" (.int (1 : Int32)) ∧ Arv Z h b kb (.object "java/lang/Object") (10 : Int32) [.null, .null, .null, .null, .null] .null ∧ n0 ≤ b ∧ h0.size ≤ b ∧ o1 ≠ b
set_option maxRecDepth 65536 in
set_option maxHeartbeats 40000000 in
theorem rm6k0 (l : Launch) (Z : State) (a0 : Array Value) (hw : ∀ d ∈ tables_1, d.before a0 Z = true) (ws : List Jvm.Cond) (o1 : Addr) (mc : Int32) (ad : Addr) (kd : ClassId) (h0 : Heap) (n0 : Nat) (Z0 : n0 ≤ h0.size) (F1 : Fld Z h0 o1 "java/util/AbstractList" "modCount" "I" (.int mc)) (F2 : Fld Z h0 o1 "java/util/ArrayList" "elementData" "[Ljava/lang/Object;" (.ref ad)) (F3 : Fld Z h0 o1 "java/util/ArrayList" "size" "I" (.int (0 : Int32))) (E1 : Exa Z h0 o1 "java/util/ArrayList") (g1 : n0 ≤ o1) (SD : Sta Z Z.heap "java/util/ArrayList" "DEFAULTCAPACITY_EMPTY_ELEMENTDATA" "[Ljava/lang/Object;" (.ref ad)) (VD : Arv Z Z.heap ad kd (.object "java/lang/Object") (0 : Int32) [] .null) (OL : Old Z n0 h0) :
    MetFree l (⟨"java/util/ArrayList", "add", "(Ljava/lang/Object;)Z"⟩ : MethodName) (head1 (Jvm.Cond.code (⟨"java/util/ArrayList", "add", "(Ljava/lang/Object;)Z"⟩ : MethodName) jdk_38_method_25_code 2 (some .boolean) :: ws) ({ frames := 4, cells := 1, slots := 10, locals := 56 } : Room)) (fun aa UU => aa = #[(.ref o1), .null] ∧ Z.Warmed39 UU.vm ∧ UU.heap = h0) (fun _ _ _ _ _ => True) (fun _ UU oo UU' => ∃ vv LL, oo = .returned vv ∧ Q6k0 Z o1 mc ad kd h0 n0 vv UU'.heap LL ∧ FrameEnd UU oo UU' LL ({ frames := 4, cells := 1, slots := 10, locals := 56 } : Room).cells ({ frames := 4, cells := 1, slots := 10, locals := 56 } : Room).slots) := by
  have W : ∀ {d : Jvm.Cond} (i : Nat), tables_1[i]? = some d → d.before a0 Z = true := fun i h => hw _ (List.mem_of_getElem? h)
  refine MetFree.of_bodySF (plainFor_of_name pn12) hisR ?_
  intro p e s m args below meth c s₁ Bd hml0 hP hK
  obtain ⟨rfl, hZ, hh⟩ := hP
  have hx := Bd.exec
  have hby := Bd.bytes
  have hml : c.maxLocals = 2 := hml0
  have hown : s.vm.findClass "java/util/ArrayList" = some m.cls := findClass_of_methodNamed Bd.named
  have hnm := (name_of_methodNamed Bd.named Bd.method).1
  have X0 : Stand p l e ({ frames := 4, cells := 1, slots := 10, locals := 56 } : Room) s m #[(.ref o1), .null] below meth c s₁ [] 0 0 := Stand.of_body Bd
  have e0 : s₁.heap = h0 := by rw [← hh, Bd.state]; rfl
  have N0 := Fr.nil n0
  have pre0 : ∀ tt, Steps p.tables e below (s₁.setTop (mkF m 0 #[rv o1, .val .null] [])) tt → Steps p.tables e below (s₁.setTop (entryFrame m #[(.ref o1), .null] 2)) tt := fun tt kt => castTop (ef6k0 m o1) kt
  obtain ⟨ST, hST⟩ : ∃ z : State, z = s₁.setTop (mkF m 0 #[rv o1, .val .null] []) := ⟨_, rfl⟩
  rw [← hST] at pre0
  have KC0 : Keep h0 h0 [o1] := Keep.refl h0 [o1]
  have go171 : own_S p e below ST s₁ (mkF m 2 #[rv o1, .val .null] [(.ref o1), (.ref o1)]) := fun tt kt => (by
      rw [hST]
      show Steps p.tables e below (s₁.setTop (mkF m 0 #[rv o1, .val .null] [])) _
      refine XS.aloadN X0.here hx rfl (hb hby d6_0) rfl rfl ?_
      refine XS.dup X0.here hx rfl (hb hby d6_1) rfl rfl ?_
      exact kt)
  obtain ⟨T172, X172, e172, st172⟩ := getF X0 hx hZ hown (host := "") (Or.inl (W 39 rfl)) (Via.of (W 40 rfl)) e0 F1 (g := (mkF m 2 #[rv o1, .val .null] [(.ref o1), (.ref o1)])) rfl rfl (hb hby d6_2)
  have go173 : own_S p e below ST T172 (mkF m 5 #[rv o1, .val .null] [(.int mc), (.ref o1)]) := fun tt kt => go171 tt (st172 _ kt)
  have go174 : own_S p e below ST T172 (mkF m 7 #[rv o1, .val .null] [(.int (mc + (1 : Int32))), (.ref o1)]) := fun tt kt => go173 tt (by
      refine XS.iconst X172.here hx rfl (hb hby d6_5) ?_
      refine XS.iadd X172.here hx rfl (hb hby d6_6) rfl ?_
      exact kt)
  obtain ⟨T175, h175, X175, e175, W175, st175⟩ := putF X172 hx hZ hown (host := "") (Or.inl (W 39 rfl)) (Via.of (W 40 rfl)) e172 F1 E1 (Or.inl (W 26 rfl)) (W 5 rfl) (ty := .int) (by decide) rfl rfl (g := (mkF m 7 #[rv o1, .val .null] [(.int (mc + (1 : Int32))), (.ref o1)])) rfl rfl (hb hby d6_7)
  have Fw175 := F1.same W175
  have N175 := Fr.snoc X175 N0 g1
  have go176 : own_S p e below ST T175 (mkF m 10 #[rv o1, .val .null] []) := fun tt kt => go174 tt (st175 _ kt)
  have KC175 : Keep h0 h175 [o1] := KC0.wr W175 (Or.inl (List.mem_of_getElem? (i := 0) rfl))
  have go177 : own_S p e below ST T175 (mkF m 13 #[rv o1, .val .null] [(.ref o1), .null, (.ref o1)]) := fun tt kt => go176 tt (by
      refine XS.aloadN X175.here hx rfl (hb hby d6_10) rfl rfl ?_
      refine XS.aloadN X175.here hx rfl (hb hby d6_11) rfl rfl ?_
      refine XS.aloadN X175.here hx rfl (hb hby d6_12) rfl rfl ?_
      exact kt)
  have f178 := (F2.other W175 (Or.inr (slot_ne (Or.inl (W 29 rfl)) (Or.inl (W 26 rfl)) (by decide) (t := (.array (.object "java/lang/Object"))) (t' := .int) (by decide) (by decide))))
  obtain ⟨T179, X179, e179, st179⟩ := getF X175 hx hZ hown (host := "") (Or.inl (W 28 rfl)) Via.refl e175 f178 (g := (mkF m 13 #[rv o1, .val .null] [(.ref o1), .null, (.ref o1)])) rfl rfl (hb hby d6_13)
  have go180 : own_S p e below ST T179 (mkF m 16 #[rv o1, .val .null] [(.ref ad), .null, (.ref o1)]) := fun tt kt => go177 tt (st179 _ kt)
  have go181 : own_S p e below ST T179 (mkF m 17 #[rv o1, .val .null] [(.ref o1), (.ref ad), .null, (.ref o1)]) := fun tt kt => go180 tt (by
      refine XS.aloadN X179.here hx rfl (hb hby d6_16) rfl rfl ?_
      exact kt)
  have f182 := (F3.other W175 (Or.inr (slot_ne (Or.inl (W 42 rfl)) (Or.inl (W 26 rfl)) (by decide) (t := .int) (t' := .int) (by decide) (by decide))))
  obtain ⟨T183, X183, e183, st183⟩ := getF X179 hx hZ hown (host := "") (Or.inl (W 41 rfl)) Via.refl e179 f182 (g := (mkF m 17 #[rv o1, .val .null] [(.ref o1), (.ref ad), .null, (.ref o1)])) rfl rfl (hb hby d6_17)
  have go184 : own_S p e below ST T183 (mkF m 20 #[rv o1, .val .null] [(.int (0 : Int32)), (.ref ad), .null, (.ref o1)]) := fun tt kt => go181 tt (st183 _ kt)
  have f185 := (E1.wr W175)
  have f186 := (OL.wr W175 g1)
  have zs188 := (Nat.le_trans Z0 (Keep.of_wr W175).1)
  obtain ⟨cq187, q187, q187'⟩ := f185.cell
  obtain ⟨_, _, ⟨T187, L187, k187, n187⟩, -, X187, ⟨Lc187, hQ187, l187, y187, z187⟩, st187⟩ := X183.privateBack hx (y := (⟨"java/util/ArrayList", "add", "(Ljava/lang/Object;[Ljava/lang/Object;I)V"⟩ : MethodName)) hown (mvT hZ (W 43 rfl)) (mvT hZ (W 44 rfl)) (mvT hZ (W 46 rfl)) (Cond.privateMethod_at (mvP hZ (W 45 rfl) (args := #[]))) (mvT hZ (W 47 rfl)) (by decide) (backOf (W := 0) (rm7k0 l Z a0 hw [] o1 (mc + (1 : Int32)) ad kd h175 n0 zs188 Fw175 f178 f182 f185 g1 SD VD f186) hZ (W 47 rfl) (W 6 rfl) (by decide) (by decide)) (g := (mkF m 20 #[rv o1, .val .null] [(.int (0 : Int32)), (.ref ad), .null, (.ref o1)])) rfl (by rw [hml]; rfl) (Steps.refl _) (a := o1) (by rw [e183]; exact q187) q187' (argsL := [.null, (.ref ad), (.int (0 : Int32))]) (rest := []) (lenOf pd83 rfl) rfl (by show 2 * 0 + _ ≤ _; exact Nat.le_of_eq rfl) (hb hby d6_20) (fun _ _ => ⟨rfl, e183, (by decide : 0 + 1 ≤ _), (by decide : 0 + 10 ≤ _)⟩)
  dsimp only [Pt.U, Pt.locs, Pt.cells, Pt.slots] at X187 l187 y187 z187 st187 hQ187
  subst l187 y187 z187
  obtain ⟨b187, kb187, rfl, Nq187, K187, Fa187, Fb187, Fc187, Vb187, gb187, zb187, nb187⟩ := hQ187
  have N187 := Fr.app N175 Nq187
  have go189 : own_S p e below ST T187 (mkF m 23 #[rv o1, .val .null] []) := fun tt kt => go184 tt (st187.trans kt)
  have KC187 : Keep h0 T187.heap [o1] := KC175.trans K187 (allS (Or.inl (List.mem_of_getElem? (i := 0) rfl)) all0)
  have go190 : own_S p e below ST T187 (mkF m 24 #[rv o1, .val .null] [(.int (1 : Int32))]) := fun tt kt => go189 tt (by
      refine XS.iconst X187.here hx rfl (hb hby d6_23) ?_
      exact kt)
  obtain ⟨fs, hr, hrun, hended, hW, hsame⟩ := X187.leave (v := some (.int (1 : Int32))) (fun h => by rw [Bd.returns] at h; cases h)
  refine ⟨_, _, pre0 _ (go190 _ ?_), hrun, hended, _, _, rfl, ?_, ⟨_, rfl⟩, hW, hsame.mono (by decide) (by decide)⟩
  · exact retN X187 hx (t := .boolean) Bd.returns (by simp) (hb hby d6_24) hr
  · show Q6k0 Z o1 mc ad kd h0 n0 _ T187.heap _
    exact ⟨b187, kb187, rfl, N187, KC187, Fa187, Fb187, Fc187, Vb187, gb187, (Nat.le_trans KC175.1 zb187), nb187⟩
theorem ef7k1 (m : MethodId) (x0 : Addr) (x2 : Addr) (x3 : Int32) : entryFrame m #[(.ref x0), .null, (.ref x2), (.int x3)] 4 = mkF m 0 #[.val (.ref x0), .val .null, .val (.ref x2), .val (.int x3)] [] := by first | (simp [entryFrame, mkF, argsToLocals, Value.category]; done) | rfl
def Q7k1 (Z : State) (o1 : Addr) (mc : Int32) (b1 : Addr) (k1 : ClassId) (h0 : Heap) (n0 : Nat) (v : Option Value) (h : Heap) (L : List Loc) : Prop := v = none ∧ Fr n0 L ∧ Keep h0 h [o1, b1] ∧ Fld Z h o1 "java/util/AbstractList" "modCount" "I" (.int mc) ∧ Fld Z h o1 "java/util/ArrayList" "elementData" "[Ljava/lang/Object;" (.ref b1) ∧ Fld Z h o1 "java/util/ArrayList" "size" "I" (.int (2 : Int32)) ∧ Arv Z h b1 k1 (.object "java/lang/Object") (10 : Int32) [.null, .null, .null, .null, .null] .null
set_option maxRecDepth 65536 in
set_option maxHeartbeats 40000000 in
theorem rm7k1 (l : Launch) (Z : State) (a0 : Array Value) (hw : ∀ d ∈ tables_1, d.before a0 Z = true) (ws : List Jvm.Cond) (o1 : Addr) (mc : Int32) (b1 : Addr) (k1 : ClassId) (h0 : Heap) (n0 : Nat) (Z0 : n0 ≤ h0.size) (F1 : Fld Z h0 o1 "java/util/AbstractList" "modCount" "I" (.int mc)) (F2 : Fld Z h0 o1 "java/util/ArrayList" "elementData" "[Ljava/lang/Object;" (.ref b1)) (F3 : Fld Z h0 o1 "java/util/ArrayList" "size" "I" (.int (1 : Int32))) (E1 : Exa Z h0 o1 "java/util/ArrayList") (g1 : n0 ≤ o1) (V1 : Arv Z h0 b1 k1 (.object "java/lang/Object") (10 : Int32) [.null, .null, .null, .null, .null] .null) (g2 : n0 ≤ b1) (n1 : o1 ≠ b1) :
    MetFree l (⟨"java/util/ArrayList", "add", "(Ljava/lang/Object;[Ljava/lang/Object;I)V"⟩ : MethodName) (head1 (Jvm.Cond.code (⟨"java/util/ArrayList", "add", "(Ljava/lang/Object;[Ljava/lang/Object;I)V"⟩ : MethodName) jdk_38_method_24_code 4 none :: ws) ({ frames := 0, cells := 0, slots := 0, locals := 0 } : Room)) (fun aa UU => aa = #[(.ref o1), .null, (.ref b1), (.int (1 : Int32))] ∧ Z.Warmed39 UU.vm ∧ UU.heap = h0) (fun _ _ _ _ _ => True) (fun _ UU oo UU' => ∃ vv LL, oo = .returned vv ∧ Q7k1 Z o1 mc b1 k1 h0 n0 vv UU'.heap LL ∧ FrameEnd UU oo UU' LL ({ frames := 0, cells := 0, slots := 0, locals := 0 } : Room).cells ({ frames := 0, cells := 0, slots := 0, locals := 0 } : Room).slots) := by
  have W : ∀ {d : Jvm.Cond} (i : Nat), tables_1[i]? = some d → d.before a0 Z = true := fun i h => hw _ (List.mem_of_getElem? h)
  refine MetFree.of_bodySF (plainFor_of_name pn12) hisR ?_
  intro p e s m args below meth c s₁ Bd hml0 hP hK
  obtain ⟨rfl, hZ, hh⟩ := hP
  have hx := Bd.exec
  have hby := Bd.bytes
  have hml : c.maxLocals = 4 := hml0
  have hown : s.vm.findClass "java/util/ArrayList" = some m.cls := findClass_of_methodNamed Bd.named
  have hnm := (name_of_methodNamed Bd.named Bd.method).1
  have X0 : Stand p l e ({ frames := 0, cells := 0, slots := 0, locals := 0 } : Room) s m #[(.ref o1), .null, (.ref b1), (.int (1 : Int32))] below meth c s₁ [] 0 0 := Stand.of_body Bd
  have e0 : s₁.heap = h0 := by rw [← hh, Bd.state]; rfl
  have N0 := Fr.nil n0
  have pre0 : ∀ tt, Steps p.tables e below (s₁.setTop (mkF m 0 #[rv o1, .val .null, rv b1, iv (1 : Int32)] [])) tt → Steps p.tables e below (s₁.setTop (entryFrame m #[(.ref o1), .null, (.ref b1), (.int (1 : Int32))] 4)) tt := fun tt kt => castTop (ef7k1 m o1 b1 (1 : Int32)) kt
  obtain ⟨ST, hST⟩ : ∃ z : State, z = s₁.setTop (mkF m 0 #[rv o1, .val .null, rv b1, iv (1 : Int32)] []) := ⟨_, rfl⟩
  rw [← hST] at pre0
  have KC0 : Keep h0 h0 [o1, b1] := Keep.refl h0 [o1, b1]
  have go191 : own_S p e below ST s₁ (mkF m 2 #[rv o1, .val .null, rv b1, iv (1 : Int32)] [(.ref b1), (.int (1 : Int32))]) := fun tt kt => (by
      rw [hST]
      show Steps p.tables e below (s₁.setTop (mkF m 0 #[rv o1, .val .null, rv b1, iv (1 : Int32)] [])) _
      refine XS.iloadN X0.here hx rfl (hb hby d7_0) rfl ?_
      refine XS.aloadN X0.here hx rfl (hb hby d7_1) rfl rfl ?_
      exact kt)
  obtain ⟨cl192, Ar192, q192, S192, M192, H192, G192⟩ := id V1
  have go193 : own_S p e below ST s₁ (mkF m 3 #[rv o1, .val .null, rv b1, iv (1 : Int32)] [(.int (10 : Int32)), (.int (1 : Int32))]) := fun tt kt => go191 tt (by
      refine X0.arraylength hx (by rw [e0]; exact Ar192.1) (State.isArrayOf_alike hZ.alike Ar192.2.1) (g := (mkF m 2 #[rv o1, .val .null, rv b1, iv (1 : Int32)] [(.ref b1), (.int (1 : Int32))])) rfl rfl (hb hby d7_2) _ ?_
      rw [len_of S192 M192]
      exact kt)
  have go194 : own_S p e below ST s₁ (mkF m 14 #[rv o1, .val .null, rv b1, iv (1 : Int32)] [.null, (.int (1 : Int32)), (.ref b1)]) := fun tt kt => go193 tt (by
      refine XS.icmpYes X0.here hx rfl (pc0 := 3) (pc' := 11) rfl (hb hby d7_3) rfl (feq (by decide : ¬ ((1 : Int32) = (10 : Int32)))).2 (by decide) (by decide) ?_
      refine XS.aloadN X0.here hx rfl (hb hby d7_11) rfl rfl ?_
      refine XS.iloadN X0.here hx rfl (hb hby d7_12) rfl ?_
      refine XS.aloadN X0.here hx rfl (hb hby d7_13) rfl rfl ?_
      exact kt)
  obtain ⟨cl195, Ar195, q195, S195, M195, H195, G195⟩ := id V1
  have hin195 : ¬ ((1 : Int32) < 0 ∨ cl195.slots.size ≤ ((1 : Int32)).toNatClampNeg) := inb_of S195 ⟨by decide, by decide⟩
  obtain ⟨T195, h195, X195, e195, W195, st195⟩ := stR X0 hx hZ e0 Ar195 (j := (1 : Int32)) hin195 rfl (Or.inl rfl) (g := (mkF m 14 #[rv o1, .val .null, rv b1, iv (1 : Int32)] [.null, (.int (1 : Int32)), (.ref b1)])) rfl rfl (hb hby d7_14)
  have V195 : Arv Z h195 b1 k1 (.object "java/lang/Object") (10 : Int32) [.null, .null, .null, .null, .null] .null := Arv.set Ar195 q195 S195 M195 H195 G195 rfl W195 1 rfl (Nat.le_of_ble_eq_true rfl)
  have N195 := Fr.snoc X195 N0 g2
  have KC195 : Keep h0 h195 [o1, b1] := KC0.wr W195 (Or.inl (List.mem_of_getElem? (i := 1) rfl))
  have go196 : own_S p e below ST T195 (mkF m 15 #[rv o1, .val .null, rv b1, iv (1 : Int32)] []) := fun tt kt => go194 tt (st195 _ kt)
  have go197 : own_S p e below ST T195 (mkF m 19 #[rv o1, .val .null, rv b1, iv (1 : Int32)] [(.int (2 : Int32)), (.ref o1)]) := fun tt kt => go196 tt (by
      refine XS.aloadN X195.here hx rfl (hb hby d7_15) rfl rfl ?_
      refine XS.iloadN X195.here hx rfl (hb hby d7_16) rfl ?_
      refine XS.iconst X195.here hx rfl (hb hby d7_17) ?_
      refine XS.iadd X195.here hx rfl (hb hby d7_18) rfl ?_
      exact kt)
  have f199 := (F3.other W195 (Or.inl n1))
  have f200 := (E1.wr W195)
  obtain ⟨T198, h198, X198, e198, W198, st198⟩ := putF X195 hx hZ hown (host := "") (Or.inl (W 41 rfl)) Via.refl e195 f199 f200 (Or.inl (W 42 rfl)) (W 5 rfl) (ty := .int) (by decide) rfl rfl (g := (mkF m 19 #[rv o1, .val .null, rv b1, iv (1 : Int32)] [(.int (2 : Int32)), (.ref o1)])) rfl rfl (hb hby d7_19)
  have Fw198 := f199.same W198
  have N198 := Fr.snoc X198 N195 g1
  have go201 : own_S p e below ST T198 (mkF m 22 #[rv o1, .val .null, rv b1, iv (1 : Int32)] []) := fun tt kt => go197 tt (st198 _ kt)
  have KC198 : Keep h0 h198 [o1, b1] := KC195.wr W198 (Or.inl (List.mem_of_getElem? (i := 0) rfl))
  have f202 := ((F1.other W195 (Or.inl n1)).other W198 (Or.inr (slot_ne (Or.inl (W 26 rfl)) (Or.inl (W 42 rfl)) (by decide) (t := .int) (t' := .int) (by decide) (by decide))))
  have f203 := ((F2.other W195 (Or.inl n1)).other W198 (Or.inr (slot_ne (Or.inl (W 29 rfl)) (Or.inl (W 42 rfl)) (by decide) (t := (.array (.object "java/lang/Object"))) (t' := .int) (by decide) (by decide))))
  have f204 := (V195.other W198 (Ne.symm n1))
  obtain ⟨fs, hr, hrun, hended, hW, hsame⟩ := X198.leave (v := none) (fun _ => rfl)
  refine ⟨_, _, pre0 _ (go201 _ ?_), hrun, hended, _, _, rfl, ?_, ⟨_, rfl⟩, hW, hsame.mono (by decide) (by decide)⟩
  · exact X198.returnOut hx Bd.returns (hb hby d7_22) hr
  · show Q7k1 Z o1 mc b1 k1 h0 n0 _ T198.heap _
    rw [e198]
    exact ⟨rfl, N198, KC198, f202, f203, Fw198, f204⟩
theorem ef6k1 (m : MethodId) (x0 : Addr) : entryFrame m #[(.ref x0), .null] 2 = mkF m 0 #[.val (.ref x0), .val .null] [] := by first | (simp [entryFrame, mkF, argsToLocals, Value.category]; done) | rfl
def Q6k1 (Z : State) (o1 : Addr) (mc : Int32) (b1 : Addr) (k1 : ClassId) (h0 : Heap) (n0 : Nat) (v : Option Value) (h : Heap) (L : List Loc) : Prop := v = some (.int 1) ∧ Fr n0 L ∧ Keep h0 h [o1, b1] ∧ Fld Z h o1 "java/util/AbstractList" "modCount" "I" (.int (mc + 1)) ∧ Fld Z h o1 "java/util/ArrayList" "elementData" "[Ljava/lang/Object;" (.ref b1) ∧ Fld Z h o1 "java/util/ArrayList" "size" "I" (.int (2 : Int32)) ∧ Arv Z h b1 k1 (.object "java/lang/Object") (10 : Int32) [.null, .null, .null, .null, .null] .null
set_option maxRecDepth 65536 in
set_option maxHeartbeats 40000000 in
theorem rm6k1 (l : Launch) (Z : State) (a0 : Array Value) (hw : ∀ d ∈ tables_1, d.before a0 Z = true) (ws : List Jvm.Cond) (o1 : Addr) (mc : Int32) (b1 : Addr) (k1 : ClassId) (h0 : Heap) (n0 : Nat) (Z0 : n0 ≤ h0.size) (F1 : Fld Z h0 o1 "java/util/AbstractList" "modCount" "I" (.int mc)) (F2 : Fld Z h0 o1 "java/util/ArrayList" "elementData" "[Ljava/lang/Object;" (.ref b1)) (F3 : Fld Z h0 o1 "java/util/ArrayList" "size" "I" (.int (1 : Int32))) (E1 : Exa Z h0 o1 "java/util/ArrayList") (g1 : n0 ≤ o1) (V1 : Arv Z h0 b1 k1 (.object "java/lang/Object") (10 : Int32) [.null, .null, .null, .null, .null] .null) (g2 : n0 ≤ b1) (n1 : o1 ≠ b1) :
    MetFree l (⟨"java/util/ArrayList", "add", "(Ljava/lang/Object;)Z"⟩ : MethodName) (head1 (Jvm.Cond.code (⟨"java/util/ArrayList", "add", "(Ljava/lang/Object;)Z"⟩ : MethodName) jdk_38_method_25_code 2 (some .boolean) :: ws) ({ frames := 1, cells := 0, slots := 0, locals := 15 } : Room)) (fun aa UU => aa = #[(.ref o1), .null] ∧ Z.Warmed39 UU.vm ∧ UU.heap = h0) (fun _ _ _ _ _ => True) (fun _ UU oo UU' => ∃ vv LL, oo = .returned vv ∧ Q6k1 Z o1 mc b1 k1 h0 n0 vv UU'.heap LL ∧ FrameEnd UU oo UU' LL ({ frames := 1, cells := 0, slots := 0, locals := 15 } : Room).cells ({ frames := 1, cells := 0, slots := 0, locals := 15 } : Room).slots) := by
  have W : ∀ {d : Jvm.Cond} (i : Nat), tables_1[i]? = some d → d.before a0 Z = true := fun i h => hw _ (List.mem_of_getElem? h)
  refine MetFree.of_bodySF (plainFor_of_name pn12) hisR ?_
  intro p e s m args below meth c s₁ Bd hml0 hP hK
  obtain ⟨rfl, hZ, hh⟩ := hP
  have hx := Bd.exec
  have hby := Bd.bytes
  have hml : c.maxLocals = 2 := hml0
  have hown : s.vm.findClass "java/util/ArrayList" = some m.cls := findClass_of_methodNamed Bd.named
  have hnm := (name_of_methodNamed Bd.named Bd.method).1
  have X0 : Stand p l e ({ frames := 1, cells := 0, slots := 0, locals := 15 } : Room) s m #[(.ref o1), .null] below meth c s₁ [] 0 0 := Stand.of_body Bd
  have e0 : s₁.heap = h0 := by rw [← hh, Bd.state]; rfl
  have N0 := Fr.nil n0
  have pre0 : ∀ tt, Steps p.tables e below (s₁.setTop (mkF m 0 #[rv o1, .val .null] [])) tt → Steps p.tables e below (s₁.setTop (entryFrame m #[(.ref o1), .null] 2)) tt := fun tt kt => castTop (ef6k1 m o1) kt
  obtain ⟨ST, hST⟩ : ∃ z : State, z = s₁.setTop (mkF m 0 #[rv o1, .val .null] []) := ⟨_, rfl⟩
  rw [← hST] at pre0
  have KC0 : Keep h0 h0 [o1, b1] := Keep.refl h0 [o1, b1]
  have go205 : own_S p e below ST s₁ (mkF m 2 #[rv o1, .val .null] [(.ref o1), (.ref o1)]) := fun tt kt => (by
      rw [hST]
      show Steps p.tables e below (s₁.setTop (mkF m 0 #[rv o1, .val .null] [])) _
      refine XS.aloadN X0.here hx rfl (hb hby d6_0) rfl rfl ?_
      refine XS.dup X0.here hx rfl (hb hby d6_1) rfl rfl ?_
      exact kt)
  obtain ⟨T206, X206, e206, st206⟩ := getF X0 hx hZ hown (host := "") (Or.inl (W 39 rfl)) (Via.of (W 40 rfl)) e0 F1 (g := (mkF m 2 #[rv o1, .val .null] [(.ref o1), (.ref o1)])) rfl rfl (hb hby d6_2)
  have go207 : own_S p e below ST T206 (mkF m 5 #[rv o1, .val .null] [(.int mc), (.ref o1)]) := fun tt kt => go205 tt (st206 _ kt)
  have go208 : own_S p e below ST T206 (mkF m 7 #[rv o1, .val .null] [(.int (mc + (1 : Int32))), (.ref o1)]) := fun tt kt => go207 tt (by
      refine XS.iconst X206.here hx rfl (hb hby d6_5) ?_
      refine XS.iadd X206.here hx rfl (hb hby d6_6) rfl ?_
      exact kt)
  obtain ⟨T209, h209, X209, e209, W209, st209⟩ := putF X206 hx hZ hown (host := "") (Or.inl (W 39 rfl)) (Via.of (W 40 rfl)) e206 F1 E1 (Or.inl (W 26 rfl)) (W 5 rfl) (ty := .int) (by decide) rfl rfl (g := (mkF m 7 #[rv o1, .val .null] [(.int (mc + (1 : Int32))), (.ref o1)])) rfl rfl (hb hby d6_7)
  have Fw209 := F1.same W209
  have N209 := Fr.snoc X209 N0 g1
  have go210 : own_S p e below ST T209 (mkF m 10 #[rv o1, .val .null] []) := fun tt kt => go208 tt (st209 _ kt)
  have KC209 : Keep h0 h209 [o1, b1] := KC0.wr W209 (Or.inl (List.mem_of_getElem? (i := 0) rfl))
  have go211 : own_S p e below ST T209 (mkF m 13 #[rv o1, .val .null] [(.ref o1), .null, (.ref o1)]) := fun tt kt => go210 tt (by
      refine XS.aloadN X209.here hx rfl (hb hby d6_10) rfl rfl ?_
      refine XS.aloadN X209.here hx rfl (hb hby d6_11) rfl rfl ?_
      refine XS.aloadN X209.here hx rfl (hb hby d6_12) rfl rfl ?_
      exact kt)
  have f212 := (F2.other W209 (Or.inr (slot_ne (Or.inl (W 29 rfl)) (Or.inl (W 26 rfl)) (by decide) (t := (.array (.object "java/lang/Object"))) (t' := .int) (by decide) (by decide))))
  obtain ⟨T213, X213, e213, st213⟩ := getF X209 hx hZ hown (host := "") (Or.inl (W 28 rfl)) Via.refl e209 f212 (g := (mkF m 13 #[rv o1, .val .null] [(.ref o1), .null, (.ref o1)])) rfl rfl (hb hby d6_13)
  have go214 : own_S p e below ST T213 (mkF m 16 #[rv o1, .val .null] [(.ref b1), .null, (.ref o1)]) := fun tt kt => go211 tt (st213 _ kt)
  have go215 : own_S p e below ST T213 (mkF m 17 #[rv o1, .val .null] [(.ref o1), (.ref b1), .null, (.ref o1)]) := fun tt kt => go214 tt (by
      refine XS.aloadN X213.here hx rfl (hb hby d6_16) rfl rfl ?_
      exact kt)
  have f216 := (F3.other W209 (Or.inr (slot_ne (Or.inl (W 42 rfl)) (Or.inl (W 26 rfl)) (by decide) (t := .int) (t' := .int) (by decide) (by decide))))
  obtain ⟨T217, X217, e217, st217⟩ := getF X213 hx hZ hown (host := "") (Or.inl (W 41 rfl)) Via.refl e213 f216 (g := (mkF m 17 #[rv o1, .val .null] [(.ref o1), (.ref b1), .null, (.ref o1)])) rfl rfl (hb hby d6_17)
  have go218 : own_S p e below ST T217 (mkF m 20 #[rv o1, .val .null] [(.int (1 : Int32)), (.ref b1), .null, (.ref o1)]) := fun tt kt => go215 tt (st217 _ kt)
  have f219 := (E1.wr W209)
  have f220 := (V1.other W209 (Ne.symm n1))
  have zs222 := (Nat.le_trans Z0 (Keep.of_wr W209).1)
  obtain ⟨cq221, q221, q221'⟩ := f219.cell
  obtain ⟨_, _, ⟨T221, L221, k221, n221⟩, -, X221, ⟨Lc221, hQ221, l221, y221, z221⟩, st221⟩ := X217.privateBack hx (y := (⟨"java/util/ArrayList", "add", "(Ljava/lang/Object;[Ljava/lang/Object;I)V"⟩ : MethodName)) hown (mvT hZ (W 43 rfl)) (mvT hZ (W 44 rfl)) (mvT hZ (W 46 rfl)) (Cond.privateMethod_at (mvP hZ (W 45 rfl) (args := #[]))) (mvT hZ (W 47 rfl)) (by decide) (backOf (W := 0) (rm7k1 l Z a0 hw [] o1 (mc + (1 : Int32)) b1 k1 h209 n0 zs222 Fw209 f212 f216 f219 g1 f220 g2 n1) hZ (W 47 rfl) (W 6 rfl) (by decide) (by decide)) (g := (mkF m 20 #[rv o1, .val .null] [(.int (1 : Int32)), (.ref b1), .null, (.ref o1)])) rfl (by rw [hml]; rfl) (Steps.refl _) (a := o1) (by rw [e217]; exact q221) q221' (argsL := [.null, (.ref b1), (.int (1 : Int32))]) (rest := []) (lenOf pd83 rfl) rfl (by show 2 * 0 + _ ≤ _; exact Nat.le_of_eq rfl) (hb hby d6_20) (fun _ _ => ⟨rfl, e217, (by decide : 0 + 0 ≤ _), (by decide : 0 + 0 ≤ _)⟩)
  dsimp only [Pt.U, Pt.locs, Pt.cells, Pt.slots] at X221 l221 y221 z221 st221 hQ221
  subst l221 y221 z221
  obtain ⟨rfl, Nq221, K221, Fa221, Fb221, Fc221, Vb221⟩ := hQ221
  have N221 := Fr.app N209 Nq221
  have go223 : own_S p e below ST T221 (mkF m 23 #[rv o1, .val .null] []) := fun tt kt => go218 tt (st221.trans kt)
  have KC221 : Keep h0 T221.heap [o1, b1] := KC209.trans K221 (allS (Or.inl (List.mem_of_getElem? (i := 0) rfl)) (allS (Or.inl (List.mem_of_getElem? (i := 1) rfl)) all0))
  have go224 : own_S p e below ST T221 (mkF m 24 #[rv o1, .val .null] [(.int (1 : Int32))]) := fun tt kt => go223 tt (by
      refine XS.iconst X221.here hx rfl (hb hby d6_23) ?_
      exact kt)
  obtain ⟨fs, hr, hrun, hended, hW, hsame⟩ := X221.leave (v := some (.int (1 : Int32))) (fun h => by rw [Bd.returns] at h; cases h)
  refine ⟨_, _, pre0 _ (go224 _ ?_), hrun, hended, _, _, rfl, ?_, ⟨_, rfl⟩, hW, hsame.mono (by decide) (by decide)⟩
  · exact retN X221 hx (t := .boolean) Bd.returns (by simp) (hb hby d6_24) hr
  · show Q6k1 Z o1 mc b1 k1 h0 n0 _ T221.heap _
    exact ⟨rfl, N221, KC221, Fa221, Fb221, Fc221, Vb221⟩
theorem ef7k2 (m : MethodId) (x0 : Addr) (x2 : Addr) (x3 : Int32) : entryFrame m #[(.ref x0), .null, (.ref x2), (.int x3)] 4 = mkF m 0 #[.val (.ref x0), .val .null, .val (.ref x2), .val (.int x3)] [] := by first | (simp [entryFrame, mkF, argsToLocals, Value.category]; done) | rfl
def Q7k2 (Z : State) (o1 : Addr) (mc : Int32) (b1 : Addr) (k1 : ClassId) (h0 : Heap) (n0 : Nat) (v : Option Value) (h : Heap) (L : List Loc) : Prop := v = none ∧ Fr n0 L ∧ Keep h0 h [o1, b1] ∧ Fld Z h o1 "java/util/AbstractList" "modCount" "I" (.int mc) ∧ Fld Z h o1 "java/util/ArrayList" "elementData" "[Ljava/lang/Object;" (.ref b1) ∧ Fld Z h o1 "java/util/ArrayList" "size" "I" (.int (3 : Int32)) ∧ Arv Z h b1 k1 (.object "java/lang/Object") (10 : Int32) [.null, .null, .null, .null, .null] .null
set_option maxRecDepth 65536 in
set_option maxHeartbeats 40000000 in
theorem rm7k2 (l : Launch) (Z : State) (a0 : Array Value) (hw : ∀ d ∈ tables_1, d.before a0 Z = true) (ws : List Jvm.Cond) (o1 : Addr) (mc : Int32) (b1 : Addr) (k1 : ClassId) (h0 : Heap) (n0 : Nat) (Z0 : n0 ≤ h0.size) (F1 : Fld Z h0 o1 "java/util/AbstractList" "modCount" "I" (.int mc)) (F2 : Fld Z h0 o1 "java/util/ArrayList" "elementData" "[Ljava/lang/Object;" (.ref b1)) (F3 : Fld Z h0 o1 "java/util/ArrayList" "size" "I" (.int (2 : Int32))) (E1 : Exa Z h0 o1 "java/util/ArrayList") (g1 : n0 ≤ o1) (V1 : Arv Z h0 b1 k1 (.object "java/lang/Object") (10 : Int32) [.null, .null, .null, .null, .null] .null) (g2 : n0 ≤ b1) (n1 : o1 ≠ b1) :
    MetFree l (⟨"java/util/ArrayList", "add", "(Ljava/lang/Object;[Ljava/lang/Object;I)V"⟩ : MethodName) (head1 (Jvm.Cond.code (⟨"java/util/ArrayList", "add", "(Ljava/lang/Object;[Ljava/lang/Object;I)V"⟩ : MethodName) jdk_38_method_24_code 4 none :: ws) ({ frames := 0, cells := 0, slots := 0, locals := 0 } : Room)) (fun aa UU => aa = #[(.ref o1), .null, (.ref b1), (.int (2 : Int32))] ∧ Z.Warmed39 UU.vm ∧ UU.heap = h0) (fun _ _ _ _ _ => True) (fun _ UU oo UU' => ∃ vv LL, oo = .returned vv ∧ Q7k2 Z o1 mc b1 k1 h0 n0 vv UU'.heap LL ∧ FrameEnd UU oo UU' LL ({ frames := 0, cells := 0, slots := 0, locals := 0 } : Room).cells ({ frames := 0, cells := 0, slots := 0, locals := 0 } : Room).slots) := by
  have W : ∀ {d : Jvm.Cond} (i : Nat), tables_1[i]? = some d → d.before a0 Z = true := fun i h => hw _ (List.mem_of_getElem? h)
  refine MetFree.of_bodySF (plainFor_of_name pn12) hisR ?_
  intro p e s m args below meth c s₁ Bd hml0 hP hK
  obtain ⟨rfl, hZ, hh⟩ := hP
  have hx := Bd.exec
  have hby := Bd.bytes
  have hml : c.maxLocals = 4 := hml0
  have hown : s.vm.findClass "java/util/ArrayList" = some m.cls := findClass_of_methodNamed Bd.named
  have hnm := (name_of_methodNamed Bd.named Bd.method).1
  have X0 : Stand p l e ({ frames := 0, cells := 0, slots := 0, locals := 0 } : Room) s m #[(.ref o1), .null, (.ref b1), (.int (2 : Int32))] below meth c s₁ [] 0 0 := Stand.of_body Bd
  have e0 : s₁.heap = h0 := by rw [← hh, Bd.state]; rfl
  have N0 := Fr.nil n0
  have pre0 : ∀ tt, Steps p.tables e below (s₁.setTop (mkF m 0 #[rv o1, .val .null, rv b1, iv (2 : Int32)] [])) tt → Steps p.tables e below (s₁.setTop (entryFrame m #[(.ref o1), .null, (.ref b1), (.int (2 : Int32))] 4)) tt := fun tt kt => castTop (ef7k2 m o1 b1 (2 : Int32)) kt
  obtain ⟨ST, hST⟩ : ∃ z : State, z = s₁.setTop (mkF m 0 #[rv o1, .val .null, rv b1, iv (2 : Int32)] []) := ⟨_, rfl⟩
  rw [← hST] at pre0
  have KC0 : Keep h0 h0 [o1, b1] := Keep.refl h0 [o1, b1]
  have go225 : own_S p e below ST s₁ (mkF m 2 #[rv o1, .val .null, rv b1, iv (2 : Int32)] [(.ref b1), (.int (2 : Int32))]) := fun tt kt => (by
      rw [hST]
      show Steps p.tables e below (s₁.setTop (mkF m 0 #[rv o1, .val .null, rv b1, iv (2 : Int32)] [])) _
      refine XS.iloadN X0.here hx rfl (hb hby d7_0) rfl ?_
      refine XS.aloadN X0.here hx rfl (hb hby d7_1) rfl rfl ?_
      exact kt)
  obtain ⟨cl226, Ar226, q226, S226, M226, H226, G226⟩ := id V1
  have go227 : own_S p e below ST s₁ (mkF m 3 #[rv o1, .val .null, rv b1, iv (2 : Int32)] [(.int (10 : Int32)), (.int (2 : Int32))]) := fun tt kt => go225 tt (by
      refine X0.arraylength hx (by rw [e0]; exact Ar226.1) (State.isArrayOf_alike hZ.alike Ar226.2.1) (g := (mkF m 2 #[rv o1, .val .null, rv b1, iv (2 : Int32)] [(.ref b1), (.int (2 : Int32))])) rfl rfl (hb hby d7_2) _ ?_
      rw [len_of S226 M226]
      exact kt)
  have go228 : own_S p e below ST s₁ (mkF m 14 #[rv o1, .val .null, rv b1, iv (2 : Int32)] [.null, (.int (2 : Int32)), (.ref b1)]) := fun tt kt => go227 tt (by
      refine XS.icmpYes X0.here hx rfl (pc0 := 3) (pc' := 11) rfl (hb hby d7_3) rfl (feq (by decide : ¬ ((2 : Int32) = (10 : Int32)))).2 (by decide) (by decide) ?_
      refine XS.aloadN X0.here hx rfl (hb hby d7_11) rfl rfl ?_
      refine XS.iloadN X0.here hx rfl (hb hby d7_12) rfl ?_
      refine XS.aloadN X0.here hx rfl (hb hby d7_13) rfl rfl ?_
      exact kt)
  obtain ⟨cl229, Ar229, q229, S229, M229, H229, G229⟩ := id V1
  have hin229 : ¬ ((2 : Int32) < 0 ∨ cl229.slots.size ≤ ((2 : Int32)).toNatClampNeg) := inb_of S229 ⟨by decide, by decide⟩
  obtain ⟨T229, h229, X229, e229, W229, st229⟩ := stR X0 hx hZ e0 Ar229 (j := (2 : Int32)) hin229 rfl (Or.inl rfl) (g := (mkF m 14 #[rv o1, .val .null, rv b1, iv (2 : Int32)] [.null, (.int (2 : Int32)), (.ref b1)])) rfl rfl (hb hby d7_14)
  have V229 : Arv Z h229 b1 k1 (.object "java/lang/Object") (10 : Int32) [.null, .null, .null, .null, .null] .null := Arv.set Ar229 q229 S229 M229 H229 G229 rfl W229 2 rfl (Nat.le_of_ble_eq_true rfl)
  have N229 := Fr.snoc X229 N0 g2
  have KC229 : Keep h0 h229 [o1, b1] := KC0.wr W229 (Or.inl (List.mem_of_getElem? (i := 1) rfl))
  have go230 : own_S p e below ST T229 (mkF m 15 #[rv o1, .val .null, rv b1, iv (2 : Int32)] []) := fun tt kt => go228 tt (st229 _ kt)
  have go231 : own_S p e below ST T229 (mkF m 19 #[rv o1, .val .null, rv b1, iv (2 : Int32)] [(.int (3 : Int32)), (.ref o1)]) := fun tt kt => go230 tt (by
      refine XS.aloadN X229.here hx rfl (hb hby d7_15) rfl rfl ?_
      refine XS.iloadN X229.here hx rfl (hb hby d7_16) rfl ?_
      refine XS.iconst X229.here hx rfl (hb hby d7_17) ?_
      refine XS.iadd X229.here hx rfl (hb hby d7_18) rfl ?_
      exact kt)
  have f233 := (F3.other W229 (Or.inl n1))
  have f234 := (E1.wr W229)
  obtain ⟨T232, h232, X232, e232, W232, st232⟩ := putF X229 hx hZ hown (host := "") (Or.inl (W 41 rfl)) Via.refl e229 f233 f234 (Or.inl (W 42 rfl)) (W 5 rfl) (ty := .int) (by decide) rfl rfl (g := (mkF m 19 #[rv o1, .val .null, rv b1, iv (2 : Int32)] [(.int (3 : Int32)), (.ref o1)])) rfl rfl (hb hby d7_19)
  have Fw232 := f233.same W232
  have N232 := Fr.snoc X232 N229 g1
  have go235 : own_S p e below ST T232 (mkF m 22 #[rv o1, .val .null, rv b1, iv (2 : Int32)] []) := fun tt kt => go231 tt (st232 _ kt)
  have KC232 : Keep h0 h232 [o1, b1] := KC229.wr W232 (Or.inl (List.mem_of_getElem? (i := 0) rfl))
  have f236 := ((F1.other W229 (Or.inl n1)).other W232 (Or.inr (slot_ne (Or.inl (W 26 rfl)) (Or.inl (W 42 rfl)) (by decide) (t := .int) (t' := .int) (by decide) (by decide))))
  have f237 := ((F2.other W229 (Or.inl n1)).other W232 (Or.inr (slot_ne (Or.inl (W 29 rfl)) (Or.inl (W 42 rfl)) (by decide) (t := (.array (.object "java/lang/Object"))) (t' := .int) (by decide) (by decide))))
  have f238 := (V229.other W232 (Ne.symm n1))
  obtain ⟨fs, hr, hrun, hended, hW, hsame⟩ := X232.leave (v := none) (fun _ => rfl)
  refine ⟨_, _, pre0 _ (go235 _ ?_), hrun, hended, _, _, rfl, ?_, ⟨_, rfl⟩, hW, hsame.mono (by decide) (by decide)⟩
  · exact X232.returnOut hx Bd.returns (hb hby d7_22) hr
  · show Q7k2 Z o1 mc b1 k1 h0 n0 _ T232.heap _
    rw [e232]
    exact ⟨rfl, N232, KC232, f236, f237, Fw232, f238⟩
theorem ef6k2 (m : MethodId) (x0 : Addr) : entryFrame m #[(.ref x0), .null] 2 = mkF m 0 #[.val (.ref x0), .val .null] [] := by first | (simp [entryFrame, mkF, argsToLocals, Value.category]; done) | rfl
def Q6k2 (Z : State) (o1 : Addr) (mc : Int32) (b1 : Addr) (k1 : ClassId) (h0 : Heap) (n0 : Nat) (v : Option Value) (h : Heap) (L : List Loc) : Prop := v = some (.int 1) ∧ Fr n0 L ∧ Keep h0 h [o1, b1] ∧ Fld Z h o1 "java/util/AbstractList" "modCount" "I" (.int (mc + 1)) ∧ Fld Z h o1 "java/util/ArrayList" "elementData" "[Ljava/lang/Object;" (.ref b1) ∧ Fld Z h o1 "java/util/ArrayList" "size" "I" (.int (3 : Int32)) ∧ Arv Z h b1 k1 (.object "java/lang/Object") (10 : Int32) [.null, .null, .null, .null, .null] .null
set_option maxRecDepth 65536 in
set_option maxHeartbeats 40000000 in
theorem rm6k2 (l : Launch) (Z : State) (a0 : Array Value) (hw : ∀ d ∈ tables_1, d.before a0 Z = true) (ws : List Jvm.Cond) (o1 : Addr) (mc : Int32) (b1 : Addr) (k1 : ClassId) (h0 : Heap) (n0 : Nat) (Z0 : n0 ≤ h0.size) (F1 : Fld Z h0 o1 "java/util/AbstractList" "modCount" "I" (.int mc)) (F2 : Fld Z h0 o1 "java/util/ArrayList" "elementData" "[Ljava/lang/Object;" (.ref b1)) (F3 : Fld Z h0 o1 "java/util/ArrayList" "size" "I" (.int (2 : Int32))) (E1 : Exa Z h0 o1 "java/util/ArrayList") (g1 : n0 ≤ o1) (V1 : Arv Z h0 b1 k1 (.object "java/lang/Object") (10 : Int32) [.null, .null, .null, .null, .null] .null) (g2 : n0 ≤ b1) (n1 : o1 ≠ b1) :
    MetFree l (⟨"java/util/ArrayList", "add", "(Ljava/lang/Object;)Z"⟩ : MethodName) (head1 (Jvm.Cond.code (⟨"java/util/ArrayList", "add", "(Ljava/lang/Object;)Z"⟩ : MethodName) jdk_38_method_25_code 2 (some .boolean) :: ws) ({ frames := 1, cells := 0, slots := 0, locals := 15 } : Room)) (fun aa UU => aa = #[(.ref o1), .null] ∧ Z.Warmed39 UU.vm ∧ UU.heap = h0) (fun _ _ _ _ _ => True) (fun _ UU oo UU' => ∃ vv LL, oo = .returned vv ∧ Q6k2 Z o1 mc b1 k1 h0 n0 vv UU'.heap LL ∧ FrameEnd UU oo UU' LL ({ frames := 1, cells := 0, slots := 0, locals := 15 } : Room).cells ({ frames := 1, cells := 0, slots := 0, locals := 15 } : Room).slots) := by
  have W : ∀ {d : Jvm.Cond} (i : Nat), tables_1[i]? = some d → d.before a0 Z = true := fun i h => hw _ (List.mem_of_getElem? h)
  refine MetFree.of_bodySF (plainFor_of_name pn12) hisR ?_
  intro p e s m args below meth c s₁ Bd hml0 hP hK
  obtain ⟨rfl, hZ, hh⟩ := hP
  have hx := Bd.exec
  have hby := Bd.bytes
  have hml : c.maxLocals = 2 := hml0
  have hown : s.vm.findClass "java/util/ArrayList" = some m.cls := findClass_of_methodNamed Bd.named
  have hnm := (name_of_methodNamed Bd.named Bd.method).1
  have X0 : Stand p l e ({ frames := 1, cells := 0, slots := 0, locals := 15 } : Room) s m #[(.ref o1), .null] below meth c s₁ [] 0 0 := Stand.of_body Bd
  have e0 : s₁.heap = h0 := by rw [← hh, Bd.state]; rfl
  have N0 := Fr.nil n0
  have pre0 : ∀ tt, Steps p.tables e below (s₁.setTop (mkF m 0 #[rv o1, .val .null] [])) tt → Steps p.tables e below (s₁.setTop (entryFrame m #[(.ref o1), .null] 2)) tt := fun tt kt => castTop (ef6k2 m o1) kt
  obtain ⟨ST, hST⟩ : ∃ z : State, z = s₁.setTop (mkF m 0 #[rv o1, .val .null] []) := ⟨_, rfl⟩
  rw [← hST] at pre0
  have KC0 : Keep h0 h0 [o1, b1] := Keep.refl h0 [o1, b1]
  have go239 : own_S p e below ST s₁ (mkF m 2 #[rv o1, .val .null] [(.ref o1), (.ref o1)]) := fun tt kt => (by
      rw [hST]
      show Steps p.tables e below (s₁.setTop (mkF m 0 #[rv o1, .val .null] [])) _
      refine XS.aloadN X0.here hx rfl (hb hby d6_0) rfl rfl ?_
      refine XS.dup X0.here hx rfl (hb hby d6_1) rfl rfl ?_
      exact kt)
  obtain ⟨T240, X240, e240, st240⟩ := getF X0 hx hZ hown (host := "") (Or.inl (W 39 rfl)) (Via.of (W 40 rfl)) e0 F1 (g := (mkF m 2 #[rv o1, .val .null] [(.ref o1), (.ref o1)])) rfl rfl (hb hby d6_2)
  have go241 : own_S p e below ST T240 (mkF m 5 #[rv o1, .val .null] [(.int mc), (.ref o1)]) := fun tt kt => go239 tt (st240 _ kt)
  have go242 : own_S p e below ST T240 (mkF m 7 #[rv o1, .val .null] [(.int (mc + (1 : Int32))), (.ref o1)]) := fun tt kt => go241 tt (by
      refine XS.iconst X240.here hx rfl (hb hby d6_5) ?_
      refine XS.iadd X240.here hx rfl (hb hby d6_6) rfl ?_
      exact kt)
  obtain ⟨T243, h243, X243, e243, W243, st243⟩ := putF X240 hx hZ hown (host := "") (Or.inl (W 39 rfl)) (Via.of (W 40 rfl)) e240 F1 E1 (Or.inl (W 26 rfl)) (W 5 rfl) (ty := .int) (by decide) rfl rfl (g := (mkF m 7 #[rv o1, .val .null] [(.int (mc + (1 : Int32))), (.ref o1)])) rfl rfl (hb hby d6_7)
  have Fw243 := F1.same W243
  have N243 := Fr.snoc X243 N0 g1
  have go244 : own_S p e below ST T243 (mkF m 10 #[rv o1, .val .null] []) := fun tt kt => go242 tt (st243 _ kt)
  have KC243 : Keep h0 h243 [o1, b1] := KC0.wr W243 (Or.inl (List.mem_of_getElem? (i := 0) rfl))
  have go245 : own_S p e below ST T243 (mkF m 13 #[rv o1, .val .null] [(.ref o1), .null, (.ref o1)]) := fun tt kt => go244 tt (by
      refine XS.aloadN X243.here hx rfl (hb hby d6_10) rfl rfl ?_
      refine XS.aloadN X243.here hx rfl (hb hby d6_11) rfl rfl ?_
      refine XS.aloadN X243.here hx rfl (hb hby d6_12) rfl rfl ?_
      exact kt)
  have f246 := (F2.other W243 (Or.inr (slot_ne (Or.inl (W 29 rfl)) (Or.inl (W 26 rfl)) (by decide) (t := (.array (.object "java/lang/Object"))) (t' := .int) (by decide) (by decide))))
  obtain ⟨T247, X247, e247, st247⟩ := getF X243 hx hZ hown (host := "") (Or.inl (W 28 rfl)) Via.refl e243 f246 (g := (mkF m 13 #[rv o1, .val .null] [(.ref o1), .null, (.ref o1)])) rfl rfl (hb hby d6_13)
  have go248 : own_S p e below ST T247 (mkF m 16 #[rv o1, .val .null] [(.ref b1), .null, (.ref o1)]) := fun tt kt => go245 tt (st247 _ kt)
  have go249 : own_S p e below ST T247 (mkF m 17 #[rv o1, .val .null] [(.ref o1), (.ref b1), .null, (.ref o1)]) := fun tt kt => go248 tt (by
      refine XS.aloadN X247.here hx rfl (hb hby d6_16) rfl rfl ?_
      exact kt)
  have f250 := (F3.other W243 (Or.inr (slot_ne (Or.inl (W 42 rfl)) (Or.inl (W 26 rfl)) (by decide) (t := .int) (t' := .int) (by decide) (by decide))))
  obtain ⟨T251, X251, e251, st251⟩ := getF X247 hx hZ hown (host := "") (Or.inl (W 41 rfl)) Via.refl e247 f250 (g := (mkF m 17 #[rv o1, .val .null] [(.ref o1), (.ref b1), .null, (.ref o1)])) rfl rfl (hb hby d6_17)
  have go252 : own_S p e below ST T251 (mkF m 20 #[rv o1, .val .null] [(.int (2 : Int32)), (.ref b1), .null, (.ref o1)]) := fun tt kt => go249 tt (st251 _ kt)
  have f253 := (E1.wr W243)
  have f254 := (V1.other W243 (Ne.symm n1))
  have zs256 := (Nat.le_trans Z0 (Keep.of_wr W243).1)
  obtain ⟨cq255, q255, q255'⟩ := f253.cell
  obtain ⟨_, _, ⟨T255, L255, k255, n255⟩, -, X255, ⟨Lc255, hQ255, l255, y255, z255⟩, st255⟩ := X251.privateBack hx (y := (⟨"java/util/ArrayList", "add", "(Ljava/lang/Object;[Ljava/lang/Object;I)V"⟩ : MethodName)) hown (mvT hZ (W 43 rfl)) (mvT hZ (W 44 rfl)) (mvT hZ (W 46 rfl)) (Cond.privateMethod_at (mvP hZ (W 45 rfl) (args := #[]))) (mvT hZ (W 47 rfl)) (by decide) (backOf (W := 0) (rm7k2 l Z a0 hw [] o1 (mc + (1 : Int32)) b1 k1 h243 n0 zs256 Fw243 f246 f250 f253 g1 f254 g2 n1) hZ (W 47 rfl) (W 6 rfl) (by decide) (by decide)) (g := (mkF m 20 #[rv o1, .val .null] [(.int (2 : Int32)), (.ref b1), .null, (.ref o1)])) rfl (by rw [hml]; rfl) (Steps.refl _) (a := o1) (by rw [e251]; exact q255) q255' (argsL := [.null, (.ref b1), (.int (2 : Int32))]) (rest := []) (lenOf pd83 rfl) rfl (by show 2 * 0 + _ ≤ _; exact Nat.le_of_eq rfl) (hb hby d6_20) (fun _ _ => ⟨rfl, e251, (by decide : 0 + 0 ≤ _), (by decide : 0 + 0 ≤ _)⟩)
  dsimp only [Pt.U, Pt.locs, Pt.cells, Pt.slots] at X255 l255 y255 z255 st255 hQ255
  subst l255 y255 z255
  obtain ⟨rfl, Nq255, K255, Fa255, Fb255, Fc255, Vb255⟩ := hQ255
  have N255 := Fr.app N243 Nq255
  have go257 : own_S p e below ST T255 (mkF m 23 #[rv o1, .val .null] []) := fun tt kt => go252 tt (st255.trans kt)
  have KC255 : Keep h0 T255.heap [o1, b1] := KC243.trans K255 (allS (Or.inl (List.mem_of_getElem? (i := 0) rfl)) (allS (Or.inl (List.mem_of_getElem? (i := 1) rfl)) all0))
  have go258 : own_S p e below ST T255 (mkF m 24 #[rv o1, .val .null] [(.int (1 : Int32))]) := fun tt kt => go257 tt (by
      refine XS.iconst X255.here hx rfl (hb hby d6_23) ?_
      exact kt)
  obtain ⟨fs, hr, hrun, hended, hW, hsame⟩ := X255.leave (v := some (.int (1 : Int32))) (fun h => by rw [Bd.returns] at h; cases h)
  refine ⟨_, _, pre0 _ (go258 _ ?_), hrun, hended, _, _, rfl, ?_, ⟨_, rfl⟩, hW, hsame.mono (by decide) (by decide)⟩
  · exact retN X255 hx (t := .boolean) Bd.returns (by simp) (hb hby d6_24) hr
  · show Q6k2 Z o1 mc b1 k1 h0 n0 _ T255.heap _
    exact ⟨rfl, N255, KC255, Fa255, Fb255, Fc255, Vb255⟩
theorem ef7k3 (m : MethodId) (x0 : Addr) (x2 : Addr) (x3 : Int32) : entryFrame m #[(.ref x0), .null, (.ref x2), (.int x3)] 4 = mkF m 0 #[.val (.ref x0), .val .null, .val (.ref x2), .val (.int x3)] [] := by first | (simp [entryFrame, mkF, argsToLocals, Value.category]; done) | rfl
def Q7k3 (Z : State) (o1 : Addr) (mc : Int32) (b1 : Addr) (k1 : ClassId) (h0 : Heap) (n0 : Nat) (v : Option Value) (h : Heap) (L : List Loc) : Prop := v = none ∧ Fr n0 L ∧ Keep h0 h [o1, b1] ∧ Fld Z h o1 "java/util/AbstractList" "modCount" "I" (.int mc) ∧ Fld Z h o1 "java/util/ArrayList" "elementData" "[Ljava/lang/Object;" (.ref b1) ∧ Fld Z h o1 "java/util/ArrayList" "size" "I" (.int (4 : Int32)) ∧ Arv Z h b1 k1 (.object "java/lang/Object") (10 : Int32) [.null, .null, .null, .null, .null] .null
set_option maxRecDepth 65536 in
set_option maxHeartbeats 40000000 in
theorem rm7k3 (l : Launch) (Z : State) (a0 : Array Value) (hw : ∀ d ∈ tables_1, d.before a0 Z = true) (ws : List Jvm.Cond) (o1 : Addr) (mc : Int32) (b1 : Addr) (k1 : ClassId) (h0 : Heap) (n0 : Nat) (Z0 : n0 ≤ h0.size) (F1 : Fld Z h0 o1 "java/util/AbstractList" "modCount" "I" (.int mc)) (F2 : Fld Z h0 o1 "java/util/ArrayList" "elementData" "[Ljava/lang/Object;" (.ref b1)) (F3 : Fld Z h0 o1 "java/util/ArrayList" "size" "I" (.int (3 : Int32))) (E1 : Exa Z h0 o1 "java/util/ArrayList") (g1 : n0 ≤ o1) (V1 : Arv Z h0 b1 k1 (.object "java/lang/Object") (10 : Int32) [.null, .null, .null, .null, .null] .null) (g2 : n0 ≤ b1) (n1 : o1 ≠ b1) :
    MetFree l (⟨"java/util/ArrayList", "add", "(Ljava/lang/Object;[Ljava/lang/Object;I)V"⟩ : MethodName) (head1 (Jvm.Cond.code (⟨"java/util/ArrayList", "add", "(Ljava/lang/Object;[Ljava/lang/Object;I)V"⟩ : MethodName) jdk_38_method_24_code 4 none :: ws) ({ frames := 0, cells := 0, slots := 0, locals := 0 } : Room)) (fun aa UU => aa = #[(.ref o1), .null, (.ref b1), (.int (3 : Int32))] ∧ Z.Warmed39 UU.vm ∧ UU.heap = h0) (fun _ _ _ _ _ => True) (fun _ UU oo UU' => ∃ vv LL, oo = .returned vv ∧ Q7k3 Z o1 mc b1 k1 h0 n0 vv UU'.heap LL ∧ FrameEnd UU oo UU' LL ({ frames := 0, cells := 0, slots := 0, locals := 0 } : Room).cells ({ frames := 0, cells := 0, slots := 0, locals := 0 } : Room).slots) := by
  have W : ∀ {d : Jvm.Cond} (i : Nat), tables_1[i]? = some d → d.before a0 Z = true := fun i h => hw _ (List.mem_of_getElem? h)
  refine MetFree.of_bodySF (plainFor_of_name pn12) hisR ?_
  intro p e s m args below meth c s₁ Bd hml0 hP hK
  obtain ⟨rfl, hZ, hh⟩ := hP
  have hx := Bd.exec
  have hby := Bd.bytes
  have hml : c.maxLocals = 4 := hml0
  have hown : s.vm.findClass "java/util/ArrayList" = some m.cls := findClass_of_methodNamed Bd.named
  have hnm := (name_of_methodNamed Bd.named Bd.method).1
  have X0 : Stand p l e ({ frames := 0, cells := 0, slots := 0, locals := 0 } : Room) s m #[(.ref o1), .null, (.ref b1), (.int (3 : Int32))] below meth c s₁ [] 0 0 := Stand.of_body Bd
  have e0 : s₁.heap = h0 := by rw [← hh, Bd.state]; rfl
  have N0 := Fr.nil n0
  have pre0 : ∀ tt, Steps p.tables e below (s₁.setTop (mkF m 0 #[rv o1, .val .null, rv b1, iv (3 : Int32)] [])) tt → Steps p.tables e below (s₁.setTop (entryFrame m #[(.ref o1), .null, (.ref b1), (.int (3 : Int32))] 4)) tt := fun tt kt => castTop (ef7k3 m o1 b1 (3 : Int32)) kt
  obtain ⟨ST, hST⟩ : ∃ z : State, z = s₁.setTop (mkF m 0 #[rv o1, .val .null, rv b1, iv (3 : Int32)] []) := ⟨_, rfl⟩
  rw [← hST] at pre0
  have KC0 : Keep h0 h0 [o1, b1] := Keep.refl h0 [o1, b1]
  have go259 : own_S p e below ST s₁ (mkF m 2 #[rv o1, .val .null, rv b1, iv (3 : Int32)] [(.ref b1), (.int (3 : Int32))]) := fun tt kt => (by
      rw [hST]
      show Steps p.tables e below (s₁.setTop (mkF m 0 #[rv o1, .val .null, rv b1, iv (3 : Int32)] [])) _
      refine XS.iloadN X0.here hx rfl (hb hby d7_0) rfl ?_
      refine XS.aloadN X0.here hx rfl (hb hby d7_1) rfl rfl ?_
      exact kt)
  obtain ⟨cl260, Ar260, q260, S260, M260, H260, G260⟩ := id V1
  have go261 : own_S p e below ST s₁ (mkF m 3 #[rv o1, .val .null, rv b1, iv (3 : Int32)] [(.int (10 : Int32)), (.int (3 : Int32))]) := fun tt kt => go259 tt (by
      refine X0.arraylength hx (by rw [e0]; exact Ar260.1) (State.isArrayOf_alike hZ.alike Ar260.2.1) (g := (mkF m 2 #[rv o1, .val .null, rv b1, iv (3 : Int32)] [(.ref b1), (.int (3 : Int32))])) rfl rfl (hb hby d7_2) _ ?_
      rw [len_of S260 M260]
      exact kt)
  have go262 : own_S p e below ST s₁ (mkF m 14 #[rv o1, .val .null, rv b1, iv (3 : Int32)] [.null, (.int (3 : Int32)), (.ref b1)]) := fun tt kt => go261 tt (by
      refine XS.icmpYes X0.here hx rfl (pc0 := 3) (pc' := 11) rfl (hb hby d7_3) rfl (feq (by decide : ¬ ((3 : Int32) = (10 : Int32)))).2 (by decide) (by decide) ?_
      refine XS.aloadN X0.here hx rfl (hb hby d7_11) rfl rfl ?_
      refine XS.iloadN X0.here hx rfl (hb hby d7_12) rfl ?_
      refine XS.aloadN X0.here hx rfl (hb hby d7_13) rfl rfl ?_
      exact kt)
  obtain ⟨cl263, Ar263, q263, S263, M263, H263, G263⟩ := id V1
  have hin263 : ¬ ((3 : Int32) < 0 ∨ cl263.slots.size ≤ ((3 : Int32)).toNatClampNeg) := inb_of S263 ⟨by decide, by decide⟩
  obtain ⟨T263, h263, X263, e263, W263, st263⟩ := stR X0 hx hZ e0 Ar263 (j := (3 : Int32)) hin263 rfl (Or.inl rfl) (g := (mkF m 14 #[rv o1, .val .null, rv b1, iv (3 : Int32)] [.null, (.int (3 : Int32)), (.ref b1)])) rfl rfl (hb hby d7_14)
  have V263 : Arv Z h263 b1 k1 (.object "java/lang/Object") (10 : Int32) [.null, .null, .null, .null, .null] .null := Arv.set Ar263 q263 S263 M263 H263 G263 rfl W263 3 rfl (Nat.le_of_ble_eq_true rfl)
  have N263 := Fr.snoc X263 N0 g2
  have KC263 : Keep h0 h263 [o1, b1] := KC0.wr W263 (Or.inl (List.mem_of_getElem? (i := 1) rfl))
  have go264 : own_S p e below ST T263 (mkF m 15 #[rv o1, .val .null, rv b1, iv (3 : Int32)] []) := fun tt kt => go262 tt (st263 _ kt)
  have go265 : own_S p e below ST T263 (mkF m 19 #[rv o1, .val .null, rv b1, iv (3 : Int32)] [(.int (4 : Int32)), (.ref o1)]) := fun tt kt => go264 tt (by
      refine XS.aloadN X263.here hx rfl (hb hby d7_15) rfl rfl ?_
      refine XS.iloadN X263.here hx rfl (hb hby d7_16) rfl ?_
      refine XS.iconst X263.here hx rfl (hb hby d7_17) ?_
      refine XS.iadd X263.here hx rfl (hb hby d7_18) rfl ?_
      exact kt)
  have f267 := (F3.other W263 (Or.inl n1))
  have f268 := (E1.wr W263)
  obtain ⟨T266, h266, X266, e266, W266, st266⟩ := putF X263 hx hZ hown (host := "") (Or.inl (W 41 rfl)) Via.refl e263 f267 f268 (Or.inl (W 42 rfl)) (W 5 rfl) (ty := .int) (by decide) rfl rfl (g := (mkF m 19 #[rv o1, .val .null, rv b1, iv (3 : Int32)] [(.int (4 : Int32)), (.ref o1)])) rfl rfl (hb hby d7_19)
  have Fw266 := f267.same W266
  have N266 := Fr.snoc X266 N263 g1
  have go269 : own_S p e below ST T266 (mkF m 22 #[rv o1, .val .null, rv b1, iv (3 : Int32)] []) := fun tt kt => go265 tt (st266 _ kt)
  have KC266 : Keep h0 h266 [o1, b1] := KC263.wr W266 (Or.inl (List.mem_of_getElem? (i := 0) rfl))
  have f270 := ((F1.other W263 (Or.inl n1)).other W266 (Or.inr (slot_ne (Or.inl (W 26 rfl)) (Or.inl (W 42 rfl)) (by decide) (t := .int) (t' := .int) (by decide) (by decide))))
  have f271 := ((F2.other W263 (Or.inl n1)).other W266 (Or.inr (slot_ne (Or.inl (W 29 rfl)) (Or.inl (W 42 rfl)) (by decide) (t := (.array (.object "java/lang/Object"))) (t' := .int) (by decide) (by decide))))
  have f272 := (V263.other W266 (Ne.symm n1))
  obtain ⟨fs, hr, hrun, hended, hW, hsame⟩ := X266.leave (v := none) (fun _ => rfl)
  refine ⟨_, _, pre0 _ (go269 _ ?_), hrun, hended, _, _, rfl, ?_, ⟨_, rfl⟩, hW, hsame.mono (by decide) (by decide)⟩
  · exact X266.returnOut hx Bd.returns (hb hby d7_22) hr
  · show Q7k3 Z o1 mc b1 k1 h0 n0 _ T266.heap _
    rw [e266]
    exact ⟨rfl, N266, KC266, f270, f271, Fw266, f272⟩
theorem ef6k3 (m : MethodId) (x0 : Addr) : entryFrame m #[(.ref x0), .null] 2 = mkF m 0 #[.val (.ref x0), .val .null] [] := by first | (simp [entryFrame, mkF, argsToLocals, Value.category]; done) | rfl
def Q6k3 (Z : State) (o1 : Addr) (mc : Int32) (b1 : Addr) (k1 : ClassId) (h0 : Heap) (n0 : Nat) (v : Option Value) (h : Heap) (L : List Loc) : Prop := v = some (.int 1) ∧ Fr n0 L ∧ Keep h0 h [o1, b1] ∧ Fld Z h o1 "java/util/AbstractList" "modCount" "I" (.int (mc + 1)) ∧ Fld Z h o1 "java/util/ArrayList" "elementData" "[Ljava/lang/Object;" (.ref b1) ∧ Fld Z h o1 "java/util/ArrayList" "size" "I" (.int (4 : Int32)) ∧ Arv Z h b1 k1 (.object "java/lang/Object") (10 : Int32) [.null, .null, .null, .null, .null] .null
set_option maxRecDepth 65536 in
set_option maxHeartbeats 40000000 in
theorem rm6k3 (l : Launch) (Z : State) (a0 : Array Value) (hw : ∀ d ∈ tables_1, d.before a0 Z = true) (ws : List Jvm.Cond) (o1 : Addr) (mc : Int32) (b1 : Addr) (k1 : ClassId) (h0 : Heap) (n0 : Nat) (Z0 : n0 ≤ h0.size) (F1 : Fld Z h0 o1 "java/util/AbstractList" "modCount" "I" (.int mc)) (F2 : Fld Z h0 o1 "java/util/ArrayList" "elementData" "[Ljava/lang/Object;" (.ref b1)) (F3 : Fld Z h0 o1 "java/util/ArrayList" "size" "I" (.int (3 : Int32))) (E1 : Exa Z h0 o1 "java/util/ArrayList") (g1 : n0 ≤ o1) (V1 : Arv Z h0 b1 k1 (.object "java/lang/Object") (10 : Int32) [.null, .null, .null, .null, .null] .null) (g2 : n0 ≤ b1) (n1 : o1 ≠ b1) :
    MetFree l (⟨"java/util/ArrayList", "add", "(Ljava/lang/Object;)Z"⟩ : MethodName) (head1 (Jvm.Cond.code (⟨"java/util/ArrayList", "add", "(Ljava/lang/Object;)Z"⟩ : MethodName) jdk_38_method_25_code 2 (some .boolean) :: ws) ({ frames := 1, cells := 0, slots := 0, locals := 15 } : Room)) (fun aa UU => aa = #[(.ref o1), .null] ∧ Z.Warmed39 UU.vm ∧ UU.heap = h0) (fun _ _ _ _ _ => True) (fun _ UU oo UU' => ∃ vv LL, oo = .returned vv ∧ Q6k3 Z o1 mc b1 k1 h0 n0 vv UU'.heap LL ∧ FrameEnd UU oo UU' LL ({ frames := 1, cells := 0, slots := 0, locals := 15 } : Room).cells ({ frames := 1, cells := 0, slots := 0, locals := 15 } : Room).slots) := by
  have W : ∀ {d : Jvm.Cond} (i : Nat), tables_1[i]? = some d → d.before a0 Z = true := fun i h => hw _ (List.mem_of_getElem? h)
  refine MetFree.of_bodySF (plainFor_of_name pn12) hisR ?_
  intro p e s m args below meth c s₁ Bd hml0 hP hK
  obtain ⟨rfl, hZ, hh⟩ := hP
  have hx := Bd.exec
  have hby := Bd.bytes
  have hml : c.maxLocals = 2 := hml0
  have hown : s.vm.findClass "java/util/ArrayList" = some m.cls := findClass_of_methodNamed Bd.named
  have hnm := (name_of_methodNamed Bd.named Bd.method).1
  have X0 : Stand p l e ({ frames := 1, cells := 0, slots := 0, locals := 15 } : Room) s m #[(.ref o1), .null] below meth c s₁ [] 0 0 := Stand.of_body Bd
  have e0 : s₁.heap = h0 := by rw [← hh, Bd.state]; rfl
  have N0 := Fr.nil n0
  have pre0 : ∀ tt, Steps p.tables e below (s₁.setTop (mkF m 0 #[rv o1, .val .null] [])) tt → Steps p.tables e below (s₁.setTop (entryFrame m #[(.ref o1), .null] 2)) tt := fun tt kt => castTop (ef6k3 m o1) kt
  obtain ⟨ST, hST⟩ : ∃ z : State, z = s₁.setTop (mkF m 0 #[rv o1, .val .null] []) := ⟨_, rfl⟩
  rw [← hST] at pre0
  have KC0 : Keep h0 h0 [o1, b1] := Keep.refl h0 [o1, b1]
  have go273 : own_S p e below ST s₁ (mkF m 2 #[rv o1, .val .null] [(.ref o1), (.ref o1)]) := fun tt kt => (by
      rw [hST]
      show Steps p.tables e below (s₁.setTop (mkF m 0 #[rv o1, .val .null] [])) _
      refine XS.aloadN X0.here hx rfl (hb hby d6_0) rfl rfl ?_
      refine XS.dup X0.here hx rfl (hb hby d6_1) rfl rfl ?_
      exact kt)
  obtain ⟨T274, X274, e274, st274⟩ := getF X0 hx hZ hown (host := "") (Or.inl (W 39 rfl)) (Via.of (W 40 rfl)) e0 F1 (g := (mkF m 2 #[rv o1, .val .null] [(.ref o1), (.ref o1)])) rfl rfl (hb hby d6_2)
  have go275 : own_S p e below ST T274 (mkF m 5 #[rv o1, .val .null] [(.int mc), (.ref o1)]) := fun tt kt => go273 tt (st274 _ kt)
  have go276 : own_S p e below ST T274 (mkF m 7 #[rv o1, .val .null] [(.int (mc + (1 : Int32))), (.ref o1)]) := fun tt kt => go275 tt (by
      refine XS.iconst X274.here hx rfl (hb hby d6_5) ?_
      refine XS.iadd X274.here hx rfl (hb hby d6_6) rfl ?_
      exact kt)
  obtain ⟨T277, h277, X277, e277, W277, st277⟩ := putF X274 hx hZ hown (host := "") (Or.inl (W 39 rfl)) (Via.of (W 40 rfl)) e274 F1 E1 (Or.inl (W 26 rfl)) (W 5 rfl) (ty := .int) (by decide) rfl rfl (g := (mkF m 7 #[rv o1, .val .null] [(.int (mc + (1 : Int32))), (.ref o1)])) rfl rfl (hb hby d6_7)
  have Fw277 := F1.same W277
  have N277 := Fr.snoc X277 N0 g1
  have go278 : own_S p e below ST T277 (mkF m 10 #[rv o1, .val .null] []) := fun tt kt => go276 tt (st277 _ kt)
  have KC277 : Keep h0 h277 [o1, b1] := KC0.wr W277 (Or.inl (List.mem_of_getElem? (i := 0) rfl))
  have go279 : own_S p e below ST T277 (mkF m 13 #[rv o1, .val .null] [(.ref o1), .null, (.ref o1)]) := fun tt kt => go278 tt (by
      refine XS.aloadN X277.here hx rfl (hb hby d6_10) rfl rfl ?_
      refine XS.aloadN X277.here hx rfl (hb hby d6_11) rfl rfl ?_
      refine XS.aloadN X277.here hx rfl (hb hby d6_12) rfl rfl ?_
      exact kt)
  have f280 := (F2.other W277 (Or.inr (slot_ne (Or.inl (W 29 rfl)) (Or.inl (W 26 rfl)) (by decide) (t := (.array (.object "java/lang/Object"))) (t' := .int) (by decide) (by decide))))
  obtain ⟨T281, X281, e281, st281⟩ := getF X277 hx hZ hown (host := "") (Or.inl (W 28 rfl)) Via.refl e277 f280 (g := (mkF m 13 #[rv o1, .val .null] [(.ref o1), .null, (.ref o1)])) rfl rfl (hb hby d6_13)
  have go282 : own_S p e below ST T281 (mkF m 16 #[rv o1, .val .null] [(.ref b1), .null, (.ref o1)]) := fun tt kt => go279 tt (st281 _ kt)
  have go283 : own_S p e below ST T281 (mkF m 17 #[rv o1, .val .null] [(.ref o1), (.ref b1), .null, (.ref o1)]) := fun tt kt => go282 tt (by
      refine XS.aloadN X281.here hx rfl (hb hby d6_16) rfl rfl ?_
      exact kt)
  have f284 := (F3.other W277 (Or.inr (slot_ne (Or.inl (W 42 rfl)) (Or.inl (W 26 rfl)) (by decide) (t := .int) (t' := .int) (by decide) (by decide))))
  obtain ⟨T285, X285, e285, st285⟩ := getF X281 hx hZ hown (host := "") (Or.inl (W 41 rfl)) Via.refl e281 f284 (g := (mkF m 17 #[rv o1, .val .null] [(.ref o1), (.ref b1), .null, (.ref o1)])) rfl rfl (hb hby d6_17)
  have go286 : own_S p e below ST T285 (mkF m 20 #[rv o1, .val .null] [(.int (3 : Int32)), (.ref b1), .null, (.ref o1)]) := fun tt kt => go283 tt (st285 _ kt)
  have f287 := (E1.wr W277)
  have f288 := (V1.other W277 (Ne.symm n1))
  have zs290 := (Nat.le_trans Z0 (Keep.of_wr W277).1)
  obtain ⟨cq289, q289, q289'⟩ := f287.cell
  obtain ⟨_, _, ⟨T289, L289, k289, n289⟩, -, X289, ⟨Lc289, hQ289, l289, y289, z289⟩, st289⟩ := X285.privateBack hx (y := (⟨"java/util/ArrayList", "add", "(Ljava/lang/Object;[Ljava/lang/Object;I)V"⟩ : MethodName)) hown (mvT hZ (W 43 rfl)) (mvT hZ (W 44 rfl)) (mvT hZ (W 46 rfl)) (Cond.privateMethod_at (mvP hZ (W 45 rfl) (args := #[]))) (mvT hZ (W 47 rfl)) (by decide) (backOf (W := 0) (rm7k3 l Z a0 hw [] o1 (mc + (1 : Int32)) b1 k1 h277 n0 zs290 Fw277 f280 f284 f287 g1 f288 g2 n1) hZ (W 47 rfl) (W 6 rfl) (by decide) (by decide)) (g := (mkF m 20 #[rv o1, .val .null] [(.int (3 : Int32)), (.ref b1), .null, (.ref o1)])) rfl (by rw [hml]; rfl) (Steps.refl _) (a := o1) (by rw [e285]; exact q289) q289' (argsL := [.null, (.ref b1), (.int (3 : Int32))]) (rest := []) (lenOf pd83 rfl) rfl (by show 2 * 0 + _ ≤ _; exact Nat.le_of_eq rfl) (hb hby d6_20) (fun _ _ => ⟨rfl, e285, (by decide : 0 + 0 ≤ _), (by decide : 0 + 0 ≤ _)⟩)
  dsimp only [Pt.U, Pt.locs, Pt.cells, Pt.slots] at X289 l289 y289 z289 st289 hQ289
  subst l289 y289 z289
  obtain ⟨rfl, Nq289, K289, Fa289, Fb289, Fc289, Vb289⟩ := hQ289
  have N289 := Fr.app N277 Nq289
  have go291 : own_S p e below ST T289 (mkF m 23 #[rv o1, .val .null] []) := fun tt kt => go286 tt (st289.trans kt)
  have KC289 : Keep h0 T289.heap [o1, b1] := KC277.trans K289 (allS (Or.inl (List.mem_of_getElem? (i := 0) rfl)) (allS (Or.inl (List.mem_of_getElem? (i := 1) rfl)) all0))
  have go292 : own_S p e below ST T289 (mkF m 24 #[rv o1, .val .null] [(.int (1 : Int32))]) := fun tt kt => go291 tt (by
      refine XS.iconst X289.here hx rfl (hb hby d6_23) ?_
      exact kt)
  obtain ⟨fs, hr, hrun, hended, hW, hsame⟩ := X289.leave (v := some (.int (1 : Int32))) (fun h => by rw [Bd.returns] at h; cases h)
  refine ⟨_, _, pre0 _ (go292 _ ?_), hrun, hended, _, _, rfl, ?_, ⟨_, rfl⟩, hW, hsame.mono (by decide) (by decide)⟩
  · exact retN X289 hx (t := .boolean) Bd.returns (by simp) (hb hby d6_24) hr
  · show Q6k3 Z o1 mc b1 k1 h0 n0 _ T289.heap _
    exact ⟨rfl, N289, KC289, Fa289, Fb289, Fc289, Vb289⟩
theorem ef7k4 (m : MethodId) (x0 : Addr) (x2 : Addr) (x3 : Int32) : entryFrame m #[(.ref x0), .null, (.ref x2), (.int x3)] 4 = mkF m 0 #[.val (.ref x0), .val .null, .val (.ref x2), .val (.int x3)] [] := by first | (simp [entryFrame, mkF, argsToLocals, Value.category]; done) | rfl
def Q7k4 (Z : State) (o1 : Addr) (mc : Int32) (b1 : Addr) (k1 : ClassId) (h0 : Heap) (n0 : Nat) (v : Option Value) (h : Heap) (L : List Loc) : Prop := v = none ∧ Fr n0 L ∧ Keep h0 h [o1, b1] ∧ Fld Z h o1 "java/util/AbstractList" "modCount" "I" (.int mc) ∧ Fld Z h o1 "java/util/ArrayList" "elementData" "[Ljava/lang/Object;" (.ref b1) ∧ Fld Z h o1 "java/util/ArrayList" "size" "I" (.int (5 : Int32)) ∧ Arv Z h b1 k1 (.object "java/lang/Object") (10 : Int32) [.null, .null, .null, .null, .null] .null
set_option maxRecDepth 65536 in
set_option maxHeartbeats 40000000 in
theorem rm7k4 (l : Launch) (Z : State) (a0 : Array Value) (hw : ∀ d ∈ tables_1, d.before a0 Z = true) (ws : List Jvm.Cond) (o1 : Addr) (mc : Int32) (b1 : Addr) (k1 : ClassId) (h0 : Heap) (n0 : Nat) (Z0 : n0 ≤ h0.size) (F1 : Fld Z h0 o1 "java/util/AbstractList" "modCount" "I" (.int mc)) (F2 : Fld Z h0 o1 "java/util/ArrayList" "elementData" "[Ljava/lang/Object;" (.ref b1)) (F3 : Fld Z h0 o1 "java/util/ArrayList" "size" "I" (.int (4 : Int32))) (E1 : Exa Z h0 o1 "java/util/ArrayList") (g1 : n0 ≤ o1) (V1 : Arv Z h0 b1 k1 (.object "java/lang/Object") (10 : Int32) [.null, .null, .null, .null, .null] .null) (g2 : n0 ≤ b1) (n1 : o1 ≠ b1) :
    MetFree l (⟨"java/util/ArrayList", "add", "(Ljava/lang/Object;[Ljava/lang/Object;I)V"⟩ : MethodName) (head1 (Jvm.Cond.code (⟨"java/util/ArrayList", "add", "(Ljava/lang/Object;[Ljava/lang/Object;I)V"⟩ : MethodName) jdk_38_method_24_code 4 none :: ws) ({ frames := 0, cells := 0, slots := 0, locals := 0 } : Room)) (fun aa UU => aa = #[(.ref o1), .null, (.ref b1), (.int (4 : Int32))] ∧ Z.Warmed39 UU.vm ∧ UU.heap = h0) (fun _ _ _ _ _ => True) (fun _ UU oo UU' => ∃ vv LL, oo = .returned vv ∧ Q7k4 Z o1 mc b1 k1 h0 n0 vv UU'.heap LL ∧ FrameEnd UU oo UU' LL ({ frames := 0, cells := 0, slots := 0, locals := 0 } : Room).cells ({ frames := 0, cells := 0, slots := 0, locals := 0 } : Room).slots) := by
  have W : ∀ {d : Jvm.Cond} (i : Nat), tables_1[i]? = some d → d.before a0 Z = true := fun i h => hw _ (List.mem_of_getElem? h)
  refine MetFree.of_bodySF (plainFor_of_name pn12) hisR ?_
  intro p e s m args below meth c s₁ Bd hml0 hP hK
  obtain ⟨rfl, hZ, hh⟩ := hP
  have hx := Bd.exec
  have hby := Bd.bytes
  have hml : c.maxLocals = 4 := hml0
  have hown : s.vm.findClass "java/util/ArrayList" = some m.cls := findClass_of_methodNamed Bd.named
  have hnm := (name_of_methodNamed Bd.named Bd.method).1
  have X0 : Stand p l e ({ frames := 0, cells := 0, slots := 0, locals := 0 } : Room) s m #[(.ref o1), .null, (.ref b1), (.int (4 : Int32))] below meth c s₁ [] 0 0 := Stand.of_body Bd
  have e0 : s₁.heap = h0 := by rw [← hh, Bd.state]; rfl
  have N0 := Fr.nil n0
  have pre0 : ∀ tt, Steps p.tables e below (s₁.setTop (mkF m 0 #[rv o1, .val .null, rv b1, iv (4 : Int32)] [])) tt → Steps p.tables e below (s₁.setTop (entryFrame m #[(.ref o1), .null, (.ref b1), (.int (4 : Int32))] 4)) tt := fun tt kt => castTop (ef7k4 m o1 b1 (4 : Int32)) kt
  obtain ⟨ST, hST⟩ : ∃ z : State, z = s₁.setTop (mkF m 0 #[rv o1, .val .null, rv b1, iv (4 : Int32)] []) := ⟨_, rfl⟩
  rw [← hST] at pre0
  have KC0 : Keep h0 h0 [o1, b1] := Keep.refl h0 [o1, b1]
  have go293 : own_S p e below ST s₁ (mkF m 2 #[rv o1, .val .null, rv b1, iv (4 : Int32)] [(.ref b1), (.int (4 : Int32))]) := fun tt kt => (by
      rw [hST]
      show Steps p.tables e below (s₁.setTop (mkF m 0 #[rv o1, .val .null, rv b1, iv (4 : Int32)] [])) _
      refine XS.iloadN X0.here hx rfl (hb hby d7_0) rfl ?_
      refine XS.aloadN X0.here hx rfl (hb hby d7_1) rfl rfl ?_
      exact kt)
  obtain ⟨cl294, Ar294, q294, S294, M294, H294, G294⟩ := id V1
  have go295 : own_S p e below ST s₁ (mkF m 3 #[rv o1, .val .null, rv b1, iv (4 : Int32)] [(.int (10 : Int32)), (.int (4 : Int32))]) := fun tt kt => go293 tt (by
      refine X0.arraylength hx (by rw [e0]; exact Ar294.1) (State.isArrayOf_alike hZ.alike Ar294.2.1) (g := (mkF m 2 #[rv o1, .val .null, rv b1, iv (4 : Int32)] [(.ref b1), (.int (4 : Int32))])) rfl rfl (hb hby d7_2) _ ?_
      rw [len_of S294 M294]
      exact kt)
  have go296 : own_S p e below ST s₁ (mkF m 14 #[rv o1, .val .null, rv b1, iv (4 : Int32)] [.null, (.int (4 : Int32)), (.ref b1)]) := fun tt kt => go295 tt (by
      refine XS.icmpYes X0.here hx rfl (pc0 := 3) (pc' := 11) rfl (hb hby d7_3) rfl (feq (by decide : ¬ ((4 : Int32) = (10 : Int32)))).2 (by decide) (by decide) ?_
      refine XS.aloadN X0.here hx rfl (hb hby d7_11) rfl rfl ?_
      refine XS.iloadN X0.here hx rfl (hb hby d7_12) rfl ?_
      refine XS.aloadN X0.here hx rfl (hb hby d7_13) rfl rfl ?_
      exact kt)
  obtain ⟨cl297, Ar297, q297, S297, M297, H297, G297⟩ := id V1
  have hin297 : ¬ ((4 : Int32) < 0 ∨ cl297.slots.size ≤ ((4 : Int32)).toNatClampNeg) := inb_of S297 ⟨by decide, by decide⟩
  obtain ⟨T297, h297, X297, e297, W297, st297⟩ := stR X0 hx hZ e0 Ar297 (j := (4 : Int32)) hin297 rfl (Or.inl rfl) (g := (mkF m 14 #[rv o1, .val .null, rv b1, iv (4 : Int32)] [.null, (.int (4 : Int32)), (.ref b1)])) rfl rfl (hb hby d7_14)
  have V297 : Arv Z h297 b1 k1 (.object "java/lang/Object") (10 : Int32) [.null, .null, .null, .null, .null] .null := Arv.set Ar297 q297 S297 M297 H297 G297 rfl W297 4 rfl (Nat.le_of_ble_eq_true rfl)
  have N297 := Fr.snoc X297 N0 g2
  have KC297 : Keep h0 h297 [o1, b1] := KC0.wr W297 (Or.inl (List.mem_of_getElem? (i := 1) rfl))
  have go298 : own_S p e below ST T297 (mkF m 15 #[rv o1, .val .null, rv b1, iv (4 : Int32)] []) := fun tt kt => go296 tt (st297 _ kt)
  have go299 : own_S p e below ST T297 (mkF m 19 #[rv o1, .val .null, rv b1, iv (4 : Int32)] [(.int (5 : Int32)), (.ref o1)]) := fun tt kt => go298 tt (by
      refine XS.aloadN X297.here hx rfl (hb hby d7_15) rfl rfl ?_
      refine XS.iloadN X297.here hx rfl (hb hby d7_16) rfl ?_
      refine XS.iconst X297.here hx rfl (hb hby d7_17) ?_
      refine XS.iadd X297.here hx rfl (hb hby d7_18) rfl ?_
      exact kt)
  have f301 := (F3.other W297 (Or.inl n1))
  have f302 := (E1.wr W297)
  obtain ⟨T300, h300, X300, e300, W300, st300⟩ := putF X297 hx hZ hown (host := "") (Or.inl (W 41 rfl)) Via.refl e297 f301 f302 (Or.inl (W 42 rfl)) (W 5 rfl) (ty := .int) (by decide) rfl rfl (g := (mkF m 19 #[rv o1, .val .null, rv b1, iv (4 : Int32)] [(.int (5 : Int32)), (.ref o1)])) rfl rfl (hb hby d7_19)
  have Fw300 := f301.same W300
  have N300 := Fr.snoc X300 N297 g1
  have go303 : own_S p e below ST T300 (mkF m 22 #[rv o1, .val .null, rv b1, iv (4 : Int32)] []) := fun tt kt => go299 tt (st300 _ kt)
  have KC300 : Keep h0 h300 [o1, b1] := KC297.wr W300 (Or.inl (List.mem_of_getElem? (i := 0) rfl))
  have f304 := ((F1.other W297 (Or.inl n1)).other W300 (Or.inr (slot_ne (Or.inl (W 26 rfl)) (Or.inl (W 42 rfl)) (by decide) (t := .int) (t' := .int) (by decide) (by decide))))
  have f305 := ((F2.other W297 (Or.inl n1)).other W300 (Or.inr (slot_ne (Or.inl (W 29 rfl)) (Or.inl (W 42 rfl)) (by decide) (t := (.array (.object "java/lang/Object"))) (t' := .int) (by decide) (by decide))))
  have f306 := (V297.other W300 (Ne.symm n1))
  obtain ⟨fs, hr, hrun, hended, hW, hsame⟩ := X300.leave (v := none) (fun _ => rfl)
  refine ⟨_, _, pre0 _ (go303 _ ?_), hrun, hended, _, _, rfl, ?_, ⟨_, rfl⟩, hW, hsame.mono (by decide) (by decide)⟩
  · exact X300.returnOut hx Bd.returns (hb hby d7_22) hr
  · show Q7k4 Z o1 mc b1 k1 h0 n0 _ T300.heap _
    rw [e300]
    exact ⟨rfl, N300, KC300, f304, f305, Fw300, f306⟩
theorem ef6k4 (m : MethodId) (x0 : Addr) : entryFrame m #[(.ref x0), .null] 2 = mkF m 0 #[.val (.ref x0), .val .null] [] := by first | (simp [entryFrame, mkF, argsToLocals, Value.category]; done) | rfl
def Q6k4 (Z : State) (o1 : Addr) (mc : Int32) (b1 : Addr) (k1 : ClassId) (h0 : Heap) (n0 : Nat) (v : Option Value) (h : Heap) (L : List Loc) : Prop := v = some (.int 1) ∧ Fr n0 L ∧ Keep h0 h [o1, b1] ∧ Fld Z h o1 "java/util/AbstractList" "modCount" "I" (.int (mc + 1)) ∧ Fld Z h o1 "java/util/ArrayList" "elementData" "[Ljava/lang/Object;" (.ref b1) ∧ Fld Z h o1 "java/util/ArrayList" "size" "I" (.int (5 : Int32)) ∧ Arv Z h b1 k1 (.object "java/lang/Object") (10 : Int32) [.null, .null, .null, .null, .null] .null
set_option maxRecDepth 65536 in
set_option maxHeartbeats 40000000 in
theorem rm6k4 (l : Launch) (Z : State) (a0 : Array Value) (hw : ∀ d ∈ tables_1, d.before a0 Z = true) (ws : List Jvm.Cond) (o1 : Addr) (mc : Int32) (b1 : Addr) (k1 : ClassId) (h0 : Heap) (n0 : Nat) (Z0 : n0 ≤ h0.size) (F1 : Fld Z h0 o1 "java/util/AbstractList" "modCount" "I" (.int mc)) (F2 : Fld Z h0 o1 "java/util/ArrayList" "elementData" "[Ljava/lang/Object;" (.ref b1)) (F3 : Fld Z h0 o1 "java/util/ArrayList" "size" "I" (.int (4 : Int32))) (E1 : Exa Z h0 o1 "java/util/ArrayList") (g1 : n0 ≤ o1) (V1 : Arv Z h0 b1 k1 (.object "java/lang/Object") (10 : Int32) [.null, .null, .null, .null, .null] .null) (g2 : n0 ≤ b1) (n1 : o1 ≠ b1) :
    MetFree l (⟨"java/util/ArrayList", "add", "(Ljava/lang/Object;)Z"⟩ : MethodName) (head1 (Jvm.Cond.code (⟨"java/util/ArrayList", "add", "(Ljava/lang/Object;)Z"⟩ : MethodName) jdk_38_method_25_code 2 (some .boolean) :: ws) ({ frames := 1, cells := 0, slots := 0, locals := 15 } : Room)) (fun aa UU => aa = #[(.ref o1), .null] ∧ Z.Warmed39 UU.vm ∧ UU.heap = h0) (fun _ _ _ _ _ => True) (fun _ UU oo UU' => ∃ vv LL, oo = .returned vv ∧ Q6k4 Z o1 mc b1 k1 h0 n0 vv UU'.heap LL ∧ FrameEnd UU oo UU' LL ({ frames := 1, cells := 0, slots := 0, locals := 15 } : Room).cells ({ frames := 1, cells := 0, slots := 0, locals := 15 } : Room).slots) := by
  have W : ∀ {d : Jvm.Cond} (i : Nat), tables_1[i]? = some d → d.before a0 Z = true := fun i h => hw _ (List.mem_of_getElem? h)
  refine MetFree.of_bodySF (plainFor_of_name pn12) hisR ?_
  intro p e s m args below meth c s₁ Bd hml0 hP hK
  obtain ⟨rfl, hZ, hh⟩ := hP
  have hx := Bd.exec
  have hby := Bd.bytes
  have hml : c.maxLocals = 2 := hml0
  have hown : s.vm.findClass "java/util/ArrayList" = some m.cls := findClass_of_methodNamed Bd.named
  have hnm := (name_of_methodNamed Bd.named Bd.method).1
  have X0 : Stand p l e ({ frames := 1, cells := 0, slots := 0, locals := 15 } : Room) s m #[(.ref o1), .null] below meth c s₁ [] 0 0 := Stand.of_body Bd
  have e0 : s₁.heap = h0 := by rw [← hh, Bd.state]; rfl
  have N0 := Fr.nil n0
  have pre0 : ∀ tt, Steps p.tables e below (s₁.setTop (mkF m 0 #[rv o1, .val .null] [])) tt → Steps p.tables e below (s₁.setTop (entryFrame m #[(.ref o1), .null] 2)) tt := fun tt kt => castTop (ef6k4 m o1) kt
  obtain ⟨ST, hST⟩ : ∃ z : State, z = s₁.setTop (mkF m 0 #[rv o1, .val .null] []) := ⟨_, rfl⟩
  rw [← hST] at pre0
  have KC0 : Keep h0 h0 [o1, b1] := Keep.refl h0 [o1, b1]
  have go307 : own_S p e below ST s₁ (mkF m 2 #[rv o1, .val .null] [(.ref o1), (.ref o1)]) := fun tt kt => (by
      rw [hST]
      show Steps p.tables e below (s₁.setTop (mkF m 0 #[rv o1, .val .null] [])) _
      refine XS.aloadN X0.here hx rfl (hb hby d6_0) rfl rfl ?_
      refine XS.dup X0.here hx rfl (hb hby d6_1) rfl rfl ?_
      exact kt)
  obtain ⟨T308, X308, e308, st308⟩ := getF X0 hx hZ hown (host := "") (Or.inl (W 39 rfl)) (Via.of (W 40 rfl)) e0 F1 (g := (mkF m 2 #[rv o1, .val .null] [(.ref o1), (.ref o1)])) rfl rfl (hb hby d6_2)
  have go309 : own_S p e below ST T308 (mkF m 5 #[rv o1, .val .null] [(.int mc), (.ref o1)]) := fun tt kt => go307 tt (st308 _ kt)
  have go310 : own_S p e below ST T308 (mkF m 7 #[rv o1, .val .null] [(.int (mc + (1 : Int32))), (.ref o1)]) := fun tt kt => go309 tt (by
      refine XS.iconst X308.here hx rfl (hb hby d6_5) ?_
      refine XS.iadd X308.here hx rfl (hb hby d6_6) rfl ?_
      exact kt)
  obtain ⟨T311, h311, X311, e311, W311, st311⟩ := putF X308 hx hZ hown (host := "") (Or.inl (W 39 rfl)) (Via.of (W 40 rfl)) e308 F1 E1 (Or.inl (W 26 rfl)) (W 5 rfl) (ty := .int) (by decide) rfl rfl (g := (mkF m 7 #[rv o1, .val .null] [(.int (mc + (1 : Int32))), (.ref o1)])) rfl rfl (hb hby d6_7)
  have Fw311 := F1.same W311
  have N311 := Fr.snoc X311 N0 g1
  have go312 : own_S p e below ST T311 (mkF m 10 #[rv o1, .val .null] []) := fun tt kt => go310 tt (st311 _ kt)
  have KC311 : Keep h0 h311 [o1, b1] := KC0.wr W311 (Or.inl (List.mem_of_getElem? (i := 0) rfl))
  have go313 : own_S p e below ST T311 (mkF m 13 #[rv o1, .val .null] [(.ref o1), .null, (.ref o1)]) := fun tt kt => go312 tt (by
      refine XS.aloadN X311.here hx rfl (hb hby d6_10) rfl rfl ?_
      refine XS.aloadN X311.here hx rfl (hb hby d6_11) rfl rfl ?_
      refine XS.aloadN X311.here hx rfl (hb hby d6_12) rfl rfl ?_
      exact kt)
  have f314 := (F2.other W311 (Or.inr (slot_ne (Or.inl (W 29 rfl)) (Or.inl (W 26 rfl)) (by decide) (t := (.array (.object "java/lang/Object"))) (t' := .int) (by decide) (by decide))))
  obtain ⟨T315, X315, e315, st315⟩ := getF X311 hx hZ hown (host := "") (Or.inl (W 28 rfl)) Via.refl e311 f314 (g := (mkF m 13 #[rv o1, .val .null] [(.ref o1), .null, (.ref o1)])) rfl rfl (hb hby d6_13)
  have go316 : own_S p e below ST T315 (mkF m 16 #[rv o1, .val .null] [(.ref b1), .null, (.ref o1)]) := fun tt kt => go313 tt (st315 _ kt)
  have go317 : own_S p e below ST T315 (mkF m 17 #[rv o1, .val .null] [(.ref o1), (.ref b1), .null, (.ref o1)]) := fun tt kt => go316 tt (by
      refine XS.aloadN X315.here hx rfl (hb hby d6_16) rfl rfl ?_
      exact kt)
  have f318 := (F3.other W311 (Or.inr (slot_ne (Or.inl (W 42 rfl)) (Or.inl (W 26 rfl)) (by decide) (t := .int) (t' := .int) (by decide) (by decide))))
  obtain ⟨T319, X319, e319, st319⟩ := getF X315 hx hZ hown (host := "") (Or.inl (W 41 rfl)) Via.refl e315 f318 (g := (mkF m 17 #[rv o1, .val .null] [(.ref o1), (.ref b1), .null, (.ref o1)])) rfl rfl (hb hby d6_17)
  have go320 : own_S p e below ST T319 (mkF m 20 #[rv o1, .val .null] [(.int (4 : Int32)), (.ref b1), .null, (.ref o1)]) := fun tt kt => go317 tt (st319 _ kt)
  have f321 := (E1.wr W311)
  have f322 := (V1.other W311 (Ne.symm n1))
  have zs324 := (Nat.le_trans Z0 (Keep.of_wr W311).1)
  obtain ⟨cq323, q323, q323'⟩ := f321.cell
  obtain ⟨_, _, ⟨T323, L323, k323, n323⟩, -, X323, ⟨Lc323, hQ323, l323, y323, z323⟩, st323⟩ := X319.privateBack hx (y := (⟨"java/util/ArrayList", "add", "(Ljava/lang/Object;[Ljava/lang/Object;I)V"⟩ : MethodName)) hown (mvT hZ (W 43 rfl)) (mvT hZ (W 44 rfl)) (mvT hZ (W 46 rfl)) (Cond.privateMethod_at (mvP hZ (W 45 rfl) (args := #[]))) (mvT hZ (W 47 rfl)) (by decide) (backOf (W := 0) (rm7k4 l Z a0 hw [] o1 (mc + (1 : Int32)) b1 k1 h311 n0 zs324 Fw311 f314 f318 f321 g1 f322 g2 n1) hZ (W 47 rfl) (W 6 rfl) (by decide) (by decide)) (g := (mkF m 20 #[rv o1, .val .null] [(.int (4 : Int32)), (.ref b1), .null, (.ref o1)])) rfl (by rw [hml]; rfl) (Steps.refl _) (a := o1) (by rw [e319]; exact q323) q323' (argsL := [.null, (.ref b1), (.int (4 : Int32))]) (rest := []) (lenOf pd83 rfl) rfl (by show 2 * 0 + _ ≤ _; exact Nat.le_of_eq rfl) (hb hby d6_20) (fun _ _ => ⟨rfl, e319, (by decide : 0 + 0 ≤ _), (by decide : 0 + 0 ≤ _)⟩)
  dsimp only [Pt.U, Pt.locs, Pt.cells, Pt.slots] at X323 l323 y323 z323 st323 hQ323
  subst l323 y323 z323
  obtain ⟨rfl, Nq323, K323, Fa323, Fb323, Fc323, Vb323⟩ := hQ323
  have N323 := Fr.app N311 Nq323
  have go325 : own_S p e below ST T323 (mkF m 23 #[rv o1, .val .null] []) := fun tt kt => go320 tt (st323.trans kt)
  have KC323 : Keep h0 T323.heap [o1, b1] := KC311.trans K323 (allS (Or.inl (List.mem_of_getElem? (i := 0) rfl)) (allS (Or.inl (List.mem_of_getElem? (i := 1) rfl)) all0))
  have go326 : own_S p e below ST T323 (mkF m 24 #[rv o1, .val .null] [(.int (1 : Int32))]) := fun tt kt => go325 tt (by
      refine XS.iconst X323.here hx rfl (hb hby d6_23) ?_
      exact kt)
  obtain ⟨fs, hr, hrun, hended, hW, hsame⟩ := X323.leave (v := some (.int (1 : Int32))) (fun h => by rw [Bd.returns] at h; cases h)
  refine ⟨_, _, pre0 _ (go326 _ ?_), hrun, hended, _, _, rfl, ?_, ⟨_, rfl⟩, hW, hsame.mono (by decide) (by decide)⟩
  · exact retN X323 hx (t := .boolean) Bd.returns (by simp) (hb hby d6_24) hr
  · show Q6k4 Z o1 mc b1 k1 h0 n0 _ T323.heap _
    exact ⟨rfl, N323, KC323, Fa323, Fb323, Fc323, Vb323⟩
theorem pn86 : plainName "com/example/inscribe/inscribe/geometry/BoundaryOrderMirroredPinLaw" = true := by first | (simp [plainName, overriddenIn]; done) | decide +kernel
theorem d1_0 : decode method_3_code 0 = .ok (.new 27, 3) := by decide +kernel
theorem d1_3 : decode method_3_code 3 = .ok (.dup, 1) := by decide +kernel
theorem d1_4 : decode method_3_code 4 = .ok (.invokespecial 29, 3) := by decide +kernel
theorem d1_7 : decode method_3_code 7 = .ok (.astore_n 1, 1) := by decide +kernel
theorem d1_8 : decode method_3_code 8 = .ok (.aload_n 1, 1) := by decide +kernel
theorem d1_9 : decode method_3_code 9 = .ok (.aconst_null, 1) := by decide +kernel
theorem d1_10 : decode method_3_code 10 = .ok (.invokeinterface 30 2, 5) := by decide +kernel
theorem pd94 : parseMethodDescriptor "(Ljava/lang/Object;)Z" = some ⟨[(.object "java/lang/Object")], some .boolean⟩ := by decide +kernel
theorem d1_15 : decode method_3_code 15 = .ok (.pop, 1) := by decide +kernel
theorem d1_16 : decode method_3_code 16 = .ok (.aload_n 1, 1) := by decide +kernel
theorem d1_17 : decode method_3_code 17 = .ok (.aconst_null, 1) := by decide +kernel
theorem d1_18 : decode method_3_code 18 = .ok (.invokeinterface 30 2, 5) := by decide +kernel
theorem d1_23 : decode method_3_code 23 = .ok (.pop, 1) := by decide +kernel
theorem d1_24 : decode method_3_code 24 = .ok (.iload_n 0, 1) := by decide +kernel
theorem d1_25 : decode method_3_code 25 = .ok (.iconst 2, 1) := by decide +kernel
theorem d1_26 : decode method_3_code 26 = .ok (.if_icmp .le 11, 3) := by decide +kernel
theorem d1_37 : decode method_3_code 37 = .ok (.iload_n 0, 1) := by decide +kernel
theorem d1_38 : decode method_3_code 38 = .ok (.iconst 3, 1) := by decide +kernel
theorem d1_39 : decode method_3_code 39 = .ok (.if_icmp .le 11, 3) := by decide +kernel
theorem d1_50 : decode method_3_code 50 = .ok (.iload_n 0, 1) := by decide +kernel
theorem d1_51 : decode method_3_code 51 = .ok (.iconst 4, 1) := by decide +kernel
theorem d1_52 : decode method_3_code 52 = .ok (.if_icmp .le 11, 3) := by decide +kernel
theorem d1_63 : decode method_3_code 63 = .ok (.aload_n 1, 1) := by decide +kernel
theorem d1_64 : decode method_3_code 64 = .ok (.areturn, 1) := by decide +kernel
theorem ef1k2 (m : MethodId) (x0 : Int32) : entryFrame m #[(.int x0)] 2 = mkF m 0 #[.val (.int x0), .unset] [] := by first | (simp [entryFrame, mkF, argsToLocals, Value.category]; done) | rfl
def Q1k2 (Z : State) (ad : Addr) (kd : ClassId) (h0 : Heap) (n0 : Nat) (v : Option Value) (h : Heap) (L : List Loc) : Prop := ∃ b : Addr, v = some (.ref b) ∧ Fr n0 L ∧ Keep h0 h [] ∧ Exa Z h b "java/util/ArrayList" ∧ Fld Z h b "java/util/ArrayList" "size" "I" (.int (2 : Int32)) ∧ n0 ≤ b ∧ h0.size ≤ b
set_option maxRecDepth 65536 in
set_option maxHeartbeats 40000000 in
theorem rm1k2 (l : Launch) (Z : State) (a0 : Array Value) (hw : ∀ d ∈ tables_1, d.before a0 Z = true) (ws : List Jvm.Cond) (ad : Addr) (kd : ClassId) (h0 : Heap) (n0 : Nat) (Z0 : n0 ≤ h0.size) (SD : Sta Z Z.heap "java/util/ArrayList" "DEFAULTCAPACITY_EMPTY_ELEMENTDATA" "[Ljava/lang/Object;" (.ref ad)) (VD : Arv Z Z.heap ad kd (.object "java/lang/Object") (0 : Int32) [] .null) (OL : Old Z n0 h0) :
    MetFree l (⟨"com/example/inscribe/inscribe/geometry/BoundaryOrderMirroredPinLaw", "nulls", "(I)Ljava/util/List;"⟩ : MethodName) (head1 (Jvm.Cond.code (⟨"com/example/inscribe/inscribe/geometry/BoundaryOrderMirroredPinLaw", "nulls", "(I)Ljava/util/List;"⟩ : MethodName) method_3_code 2 (some (.object "java/util/List")) :: ws) ({ frames := 5, cells := 2, slots := 13, locals := 69 } : Room)) (fun aa UU => aa = #[(.int (2 : Int32))] ∧ Z.Warmed39 UU.vm ∧ UU.heap = h0) (fun _ _ _ _ _ => True) (fun _ UU oo UU' => ∃ vv LL, oo = .returned vv ∧ Q1k2 Z ad kd h0 n0 vv UU'.heap LL ∧ FrameEnd UU oo UU' LL ({ frames := 5, cells := 2, slots := 13, locals := 69 } : Room).cells ({ frames := 5, cells := 2, slots := 13, locals := 69 } : Room).slots) := by
  have W : ∀ {d : Jvm.Cond} (i : Nat), tables_1[i]? = some d → d.before a0 Z = true := fun i h => hw _ (List.mem_of_getElem? h)
  refine MetFree.of_bodySF (plainFor_of_name pn86) hisR ?_
  intro p e s m args below meth c s₁ Bd hml0 hP hK
  obtain ⟨rfl, hZ, hh⟩ := hP
  have hx := Bd.exec
  have hby := Bd.bytes
  have hml : c.maxLocals = 2 := hml0
  have hown : s.vm.findClass "com/example/inscribe/inscribe/geometry/BoundaryOrderMirroredPinLaw" = some m.cls := findClass_of_methodNamed Bd.named
  have hnm := (name_of_methodNamed Bd.named Bd.method).1
  have X0 : Stand p l e ({ frames := 5, cells := 2, slots := 13, locals := 69 } : Room) s m #[(.int (2 : Int32))] below meth c s₁ [] 0 0 := Stand.of_body Bd
  have e0 : s₁.heap = h0 := by rw [← hh, Bd.state]; rfl
  have N0 := Fr.nil n0
  have pre0 : ∀ tt, Steps p.tables e below (s₁.setTop (mkF m 0 #[iv (2 : Int32), .unset] [])) tt → Steps p.tables e below (s₁.setTop (entryFrame m #[(.int (2 : Int32))] 2)) tt := fun tt kt => castTop (ef1k2 m (2 : Int32)) kt
  obtain ⟨ST, hST⟩ : ∃ z : State, z = s₁.setTop (mkF m 0 #[iv (2 : Int32), .unset] []) := ⟨_, rfl⟩
  rw [← hST] at pre0
  have KC0 : Keep h0 h0 [] := Keep.refl h0 []
  obtain ⟨b327, g327⟩ : ∃ z, z = h0.size := ⟨_, rfl⟩
  obtain ⟨T327, h327, X327, e327, E327, A327, D327, -, st327⟩ := newO X0 hx hZ hown (W 4 rfl) (W 5 rfl) (W 6 rfl) e0 (g := (mkF m 0 #[iv (2 : Int32), .unset] [])) rfl (hb hby d1_0) (by decide) (by decide)
  rw [← g327] at A327 D327 st327
  have ge_b327 : n0 ≤ b327 := Nat.le_trans Z0 (Nat.le_of_eq g327.symm)
  have sz_b327 : h0.size ≤ b327 := Nat.le_trans KC0.1 (Nat.le_of_eq g327.symm)
  have F327_modCount : Fld Z h327 b327 "java/util/AbstractList" "modCount" "I" (.int (0 : Int32)) := D327 (Or.inl (W 26 rfl)) (ty := .int) (by decide)
  have F327_elementData : Fld Z h327 b327 "java/util/ArrayList" "elementData" "[Ljava/lang/Object;" .null := D327 (Or.inl (W 29 rfl)) (ty := (.array (.object "java/lang/Object"))) (by decide)
  have F327_size : Fld Z h327 b327 "java/util/ArrayList" "size" "I" (.int (0 : Int32)) := D327 (Or.inl (W 42 rfl)) (ty := .int) (by decide)
  have KC327 : Keep h0 h327 [] := KC0.ext E327
  have go328 : own_S p e below ST T327 (mkF m 3 #[iv (2 : Int32), .unset] [(.ref b327)]) := fun tt kt => (by rw [hST]; exact st327 _ kt)
  have go329 : own_S p e below ST T327 (mkF m 4 #[iv (2 : Int32), .unset] [(.ref b327), (.ref b327)]) := fun tt kt => go328 tt (by
      refine XS.dup X327.here hx rfl (hb hby d1_3) rfl rfl ?_
      exact kt)
  have f330 := (OL.ext E327)
  have zs332 := (Nat.le_trans Z0 E327.1)
  obtain ⟨_, _, ⟨T331, L331, k331, n331⟩, -, X331, ⟨Lc331, hQ331, l331, y331, z331⟩, st331⟩ := X327.specialBack hx (y := (⟨"java/util/ArrayList", "<init>", "()V"⟩ : MethodName)) rfl hown (mvT hZ (W 7 rfl)) (mvT hZ (W 8 rfl)) (mvT hZ (W 9 rfl)) (by decide) (backOf (W := 1) (rm2 l Z a0 hw [] b327 ad h327 n0 zs332 F327_modCount F327_elementData F327_size A327 ge_b327 SD f330) hZ (W 9 rfl) (W 6 rfl) (by decide) (by decide)) (g := (mkF m 4 #[iv (2 : Int32), .unset] [(.ref b327), (.ref b327)])) rfl (by rw [hml]; rfl) (Steps.refl _) (a := b327) (argsL := []) (rest := [(.ref b327)]) (lenOf pd7 rfl) rfl (by show 2 * 0 + _ ≤ _; exact Nat.le_of_eq rfl) (hb hby d1_4) (fun _ _ => ⟨rfl, e327, (by decide : 1 + 0 ≤ _), (by decide : 3 + 0 ≤ _)⟩)
  dsimp only [Pt.U, Pt.locs, Pt.cells, Pt.slots] at X331 l331 y331 z331 st331 hQ331
  subst l331 y331 z331
  obtain ⟨rfl, Nq331, K331, Fa331, Fb331, Fc331⟩ := hQ331
  have N331 := Fr.app N0 Nq331
  have go333 : own_S p e below ST T331 (mkF m 7 #[iv (2 : Int32), .unset] [(.ref b327)]) := fun tt kt => go329 tt (st331.trans kt)
  have KC331 : Keep h0 T331.heap [] := KC327.trans K331 (allS (Or.inr sz_b327) all0)
  have go334 : own_S p e below ST T331 (mkF m 10 #[iv (2 : Int32), rv b327] [.null, (.ref b327)]) := fun tt kt => go333 tt (by
      refine XS.astoreN X331.here hx rfl (hb hby d1_7) rfl rfl (l' := #[iv (2 : Int32), rv b327]) rfl ?_
      refine XS.aloadN X331.here hx rfl (hb hby d1_8) rfl rfl ?_
      refine XS.aconstNull X331.here hx rfl (hb hby d1_9) ?_
      exact kt)
  have f335 := (A327.keep K331)
  have f336 := (f330.keep K331 (allS ge_b327 all0))
  have zs338 := (Nat.le_trans zs332 K331.1)
  obtain ⟨cq337, kq337, q337a, q337b, q337c⟩ := isOf hZ rfl f335
  obtain ⟨_, _, ⟨T337, L337, k337, n337⟩, -, X337, ⟨Lc337, hQ337, l337, y337, z337⟩, st337⟩ := X331.interfaceBack hx (xi := (⟨"java/util/List", "add", "(Ljava/lang/Object;)Z"⟩ : MethodName)) (y := (⟨"java/util/ArrayList", "add", "(Ljava/lang/Object;)Z"⟩ : MethodName)) hown (mvT hZ (W 30 rfl)) (mvT hZ (W 31 rfl)) (mvT hZ (W 32 rfl)) (mvT hZ (W 33 rfl)) (mvT hZ (W 34 rfl)) (mvT hZ (W 35 rfl)) (mvT hZ (W 36 rfl)) (mvT hZ (W 37 rfl)) (by decide) (backOf (W := 0) (rm6k0 l Z a0 hw [] b327 (0 : Int32) ad kd T331.heap n0 zs338 Fa331 Fb331 Fc331 f335 ge_b327 SD VD f336) hZ (W 38 rfl) (W 6 rfl) (by decide) (by decide)) q337a q337b q337c (g := (mkF m 10 #[iv (2 : Int32), rv b327] [.null, (.ref b327)])) rfl (by rw [hml]; rfl) (Steps.refl _) (argsL := [.null]) (rest := []) (lenOf pd94 rfl) rfl (by show 2 * 0 + _ ≤ _; exact Nat.le_of_eq rfl) (hb hby d1_10) (fun _ _ => ⟨rfl, rfl, (by decide : 1 + 1 ≤ _), (by decide : 3 + 10 ≤ _)⟩)
  dsimp only [Pt.U, Pt.locs, Pt.cells, Pt.slots] at X337 l337 y337 z337 st337 hQ337
  subst l337 y337 z337
  obtain ⟨b337, kb337, rfl, Nq337, K337, Fa337, Fb337, Fc337, Vb337, gb337, zb337, nb337⟩ := hQ337
  have N337 := Fr.app N331 Nq337
  have go339 : own_S p e below ST T337 (mkF m 15 #[iv (2 : Int32), rv b327] [(.int (1 : Int32))]) := fun tt kt => go334 tt (st337.trans kt)
  have KC337 : Keep h0 T337.heap [] := KC331.trans K337 (allS (Or.inr sz_b327) all0)
  have go340 : own_S p e below ST T337 (mkF m 18 #[iv (2 : Int32), rv b327] [.null, (.ref b327)]) := fun tt kt => go339 tt (by
      refine XS.pop X337.here hx rfl (hb hby d1_15) rfl rfl ?_
      refine XS.aloadN X337.here hx rfl (hb hby d1_16) rfl rfl ?_
      refine XS.aconstNull X337.here hx rfl (hb hby d1_17) ?_
      exact kt)
  have f341 := (f335.keep K337)
  have zs343 := (Nat.le_trans zs338 K337.1)
  obtain ⟨cq342, kq342, q342a, q342b, q342c⟩ := isOf hZ rfl f341
  obtain ⟨_, _, ⟨T342, L342, k342, n342⟩, -, X342, ⟨Lc342, hQ342, l342, y342, z342⟩, st342⟩ := X337.interfaceBack hx (xi := (⟨"java/util/List", "add", "(Ljava/lang/Object;)Z"⟩ : MethodName)) (y := (⟨"java/util/ArrayList", "add", "(Ljava/lang/Object;)Z"⟩ : MethodName)) hown (mvT hZ (W 30 rfl)) (mvT hZ (W 31 rfl)) (mvT hZ (W 32 rfl)) (mvT hZ (W 33 rfl)) (mvT hZ (W 34 rfl)) (mvT hZ (W 35 rfl)) (mvT hZ (W 36 rfl)) (mvT hZ (W 37 rfl)) (by decide) (backOf (W := 0) (rm6k1 l Z a0 hw [] b327 (1 : Int32) b337 kb337 T337.heap n0 zs343 Fa337 Fb337 Fc337 f341 ge_b327 Vb337 gb337 nb337) hZ (W 38 rfl) (W 6 rfl) (by decide) (by decide)) q342a q342b q342c (g := (mkF m 18 #[iv (2 : Int32), rv b327] [.null, (.ref b327)])) rfl (by rw [hml]; rfl) (Steps.refl _) (argsL := [.null]) (rest := []) (lenOf pd94 rfl) rfl (by show 2 * 0 + _ ≤ _; exact Nat.le_of_eq rfl) (hb hby d1_18) (fun _ _ => ⟨rfl, rfl, (by decide : 2 + 0 ≤ _), (by decide : 13 + 0 ≤ _)⟩)
  dsimp only [Pt.U, Pt.locs, Pt.cells, Pt.slots] at X342 l342 y342 z342 st342 hQ342
  subst l342 y342 z342
  obtain ⟨rfl, Nq342, K342, Fa342, Fb342, Fc342, Vb342⟩ := hQ342
  have N342 := Fr.app N337 Nq342
  have go344 : own_S p e below ST T342 (mkF m 23 #[iv (2 : Int32), rv b327] [(.int (1 : Int32))]) := fun tt kt => go340 tt (st342.trans kt)
  have KC342 : Keep h0 T342.heap [] := KC337.trans K342 (allS (Or.inr sz_b327) (allS (Or.inr (Nat.le_trans KC331.1 zb337)) all0))
  have go345 : own_S p e below ST T342 (mkF m 64 #[iv (2 : Int32), rv b327] [(.ref b327)]) := fun tt kt => go344 tt (by
      refine XS.pop X342.here hx rfl (hb hby d1_23) rfl rfl ?_
      refine XS.iloadN X342.here hx rfl (hb hby d1_24) rfl ?_
      refine XS.iconst X342.here hx rfl (hb hby d1_25) ?_
      refine XS.icmpYes X342.here hx rfl (pc0 := 26) (pc' := 37) rfl (hb hby d1_26) rfl (flt (by decide : ¬ ((2 : Int32) < (2 : Int32)))).2.2.2 (by decide) (by decide) ?_
      refine XS.iloadN X342.here hx rfl (hb hby d1_37) rfl ?_
      refine XS.iconst X342.here hx rfl (hb hby d1_38) ?_
      show Steps p.tables e below (T342.setTop (mkF m 39 #[iv (2 : Int32), rv b327] [(.int (3 : Int32)), (.int (2 : Int32))])) _
      refine XS.icmpYes X342.here hx rfl (pc0 := 39) (pc' := 50) rfl (hb hby d1_39) rfl (flt (by decide : ¬ ((3 : Int32) < (2 : Int32)))).2.2.2 (by decide) (by decide) ?_
      refine XS.iloadN X342.here hx rfl (hb hby d1_50) rfl ?_
      refine XS.iconst X342.here hx rfl (hb hby d1_51) ?_
      refine XS.icmpYes X342.here hx rfl (pc0 := 52) (pc' := 63) rfl (hb hby d1_52) rfl (flt (by decide : ¬ ((4 : Int32) < (2 : Int32)))).2.2.2 (by decide) (by decide) ?_
      refine XS.aloadN X342.here hx rfl (hb hby d1_63) rfl rfl ?_
      exact kt)
  have f346 := (f341.keep K342)
  obtain ⟨fs, hr, hrun, hended, hW, hsame⟩ := X342.leave (v := some (.ref b327)) (fun h => by rw [Bd.returns] at h; cases h)
  refine ⟨_, _, pre0 _ (go345 _ ?_), hrun, hended, _, _, rfl, ?_, ⟨_, rfl⟩, hW, hsame.mono (by decide) (by decide)⟩
  · exact retOut X342 hx Bd.returns rfl (Or.inr (Or.inr (Or.inr (Or.inr ⟨rfl, rfl, rfl⟩)))) (hb hby d1_64) hr
  · show Q1k2 Z ad kd h0 n0 _ T342.heap _
    exact ⟨b327, rfl, N342, KC342, f346, Fc342, ge_b327, sz_b327⟩
theorem d1_29 : decode method_3_code 29 = .ok (.aload_n 1, 1) := by decide +kernel
theorem d1_30 : decode method_3_code 30 = .ok (.aconst_null, 1) := by decide +kernel
theorem d1_31 : decode method_3_code 31 = .ok (.invokeinterface 30 2, 5) := by decide +kernel
theorem d1_36 : decode method_3_code 36 = .ok (.pop, 1) := by decide +kernel
theorem ef1k3 (m : MethodId) (x0 : Int32) : entryFrame m #[(.int x0)] 2 = mkF m 0 #[.val (.int x0), .unset] [] := by first | (simp [entryFrame, mkF, argsToLocals, Value.category]; done) | rfl
def Q1k3 (Z : State) (ad : Addr) (kd : ClassId) (h0 : Heap) (n0 : Nat) (v : Option Value) (h : Heap) (L : List Loc) : Prop := ∃ b : Addr, v = some (.ref b) ∧ Fr n0 L ∧ Keep h0 h [] ∧ Exa Z h b "java/util/ArrayList" ∧ Fld Z h b "java/util/ArrayList" "size" "I" (.int (3 : Int32)) ∧ n0 ≤ b ∧ h0.size ≤ b
set_option maxRecDepth 65536 in
set_option maxHeartbeats 40000000 in
theorem rm1k3 (l : Launch) (Z : State) (a0 : Array Value) (hw : ∀ d ∈ tables_1, d.before a0 Z = true) (ws : List Jvm.Cond) (ad : Addr) (kd : ClassId) (h0 : Heap) (n0 : Nat) (Z0 : n0 ≤ h0.size) (SD : Sta Z Z.heap "java/util/ArrayList" "DEFAULTCAPACITY_EMPTY_ELEMENTDATA" "[Ljava/lang/Object;" (.ref ad)) (VD : Arv Z Z.heap ad kd (.object "java/lang/Object") (0 : Int32) [] .null) (OL : Old Z n0 h0) :
    MetFree l (⟨"com/example/inscribe/inscribe/geometry/BoundaryOrderMirroredPinLaw", "nulls", "(I)Ljava/util/List;"⟩ : MethodName) (head1 (Jvm.Cond.code (⟨"com/example/inscribe/inscribe/geometry/BoundaryOrderMirroredPinLaw", "nulls", "(I)Ljava/util/List;"⟩ : MethodName) method_3_code 2 (some (.object "java/util/List")) :: ws) ({ frames := 5, cells := 2, slots := 13, locals := 69 } : Room)) (fun aa UU => aa = #[(.int (3 : Int32))] ∧ Z.Warmed39 UU.vm ∧ UU.heap = h0) (fun _ _ _ _ _ => True) (fun _ UU oo UU' => ∃ vv LL, oo = .returned vv ∧ Q1k3 Z ad kd h0 n0 vv UU'.heap LL ∧ FrameEnd UU oo UU' LL ({ frames := 5, cells := 2, slots := 13, locals := 69 } : Room).cells ({ frames := 5, cells := 2, slots := 13, locals := 69 } : Room).slots) := by
  have W : ∀ {d : Jvm.Cond} (i : Nat), tables_1[i]? = some d → d.before a0 Z = true := fun i h => hw _ (List.mem_of_getElem? h)
  refine MetFree.of_bodySF (plainFor_of_name pn86) hisR ?_
  intro p e s m args below meth c s₁ Bd hml0 hP hK
  obtain ⟨rfl, hZ, hh⟩ := hP
  have hx := Bd.exec
  have hby := Bd.bytes
  have hml : c.maxLocals = 2 := hml0
  have hown : s.vm.findClass "com/example/inscribe/inscribe/geometry/BoundaryOrderMirroredPinLaw" = some m.cls := findClass_of_methodNamed Bd.named
  have hnm := (name_of_methodNamed Bd.named Bd.method).1
  have X0 : Stand p l e ({ frames := 5, cells := 2, slots := 13, locals := 69 } : Room) s m #[(.int (3 : Int32))] below meth c s₁ [] 0 0 := Stand.of_body Bd
  have e0 : s₁.heap = h0 := by rw [← hh, Bd.state]; rfl
  have N0 := Fr.nil n0
  have pre0 : ∀ tt, Steps p.tables e below (s₁.setTop (mkF m 0 #[iv (3 : Int32), .unset] [])) tt → Steps p.tables e below (s₁.setTop (entryFrame m #[(.int (3 : Int32))] 2)) tt := fun tt kt => castTop (ef1k3 m (3 : Int32)) kt
  obtain ⟨ST, hST⟩ : ∃ z : State, z = s₁.setTop (mkF m 0 #[iv (3 : Int32), .unset] []) := ⟨_, rfl⟩
  rw [← hST] at pre0
  have KC0 : Keep h0 h0 [] := Keep.refl h0 []
  obtain ⟨b347, g347⟩ : ∃ z, z = h0.size := ⟨_, rfl⟩
  obtain ⟨T347, h347, X347, e347, E347, A347, D347, -, st347⟩ := newO X0 hx hZ hown (W 4 rfl) (W 5 rfl) (W 6 rfl) e0 (g := (mkF m 0 #[iv (3 : Int32), .unset] [])) rfl (hb hby d1_0) (by decide) (by decide)
  rw [← g347] at A347 D347 st347
  have ge_b347 : n0 ≤ b347 := Nat.le_trans Z0 (Nat.le_of_eq g347.symm)
  have sz_b347 : h0.size ≤ b347 := Nat.le_trans KC0.1 (Nat.le_of_eq g347.symm)
  have F347_modCount : Fld Z h347 b347 "java/util/AbstractList" "modCount" "I" (.int (0 : Int32)) := D347 (Or.inl (W 26 rfl)) (ty := .int) (by decide)
  have F347_elementData : Fld Z h347 b347 "java/util/ArrayList" "elementData" "[Ljava/lang/Object;" .null := D347 (Or.inl (W 29 rfl)) (ty := (.array (.object "java/lang/Object"))) (by decide)
  have F347_size : Fld Z h347 b347 "java/util/ArrayList" "size" "I" (.int (0 : Int32)) := D347 (Or.inl (W 42 rfl)) (ty := .int) (by decide)
  have KC347 : Keep h0 h347 [] := KC0.ext E347
  have go348 : own_S p e below ST T347 (mkF m 3 #[iv (3 : Int32), .unset] [(.ref b347)]) := fun tt kt => (by rw [hST]; exact st347 _ kt)
  have go349 : own_S p e below ST T347 (mkF m 4 #[iv (3 : Int32), .unset] [(.ref b347), (.ref b347)]) := fun tt kt => go348 tt (by
      refine XS.dup X347.here hx rfl (hb hby d1_3) rfl rfl ?_
      exact kt)
  have f350 := (OL.ext E347)
  have zs352 := (Nat.le_trans Z0 E347.1)
  obtain ⟨_, _, ⟨T351, L351, k351, n351⟩, -, X351, ⟨Lc351, hQ351, l351, y351, z351⟩, st351⟩ := X347.specialBack hx (y := (⟨"java/util/ArrayList", "<init>", "()V"⟩ : MethodName)) rfl hown (mvT hZ (W 7 rfl)) (mvT hZ (W 8 rfl)) (mvT hZ (W 9 rfl)) (by decide) (backOf (W := 1) (rm2 l Z a0 hw [] b347 ad h347 n0 zs352 F347_modCount F347_elementData F347_size A347 ge_b347 SD f350) hZ (W 9 rfl) (W 6 rfl) (by decide) (by decide)) (g := (mkF m 4 #[iv (3 : Int32), .unset] [(.ref b347), (.ref b347)])) rfl (by rw [hml]; rfl) (Steps.refl _) (a := b347) (argsL := []) (rest := [(.ref b347)]) (lenOf pd7 rfl) rfl (by show 2 * 0 + _ ≤ _; exact Nat.le_of_eq rfl) (hb hby d1_4) (fun _ _ => ⟨rfl, e347, (by decide : 1 + 0 ≤ _), (by decide : 3 + 0 ≤ _)⟩)
  dsimp only [Pt.U, Pt.locs, Pt.cells, Pt.slots] at X351 l351 y351 z351 st351 hQ351
  subst l351 y351 z351
  obtain ⟨rfl, Nq351, K351, Fa351, Fb351, Fc351⟩ := hQ351
  have N351 := Fr.app N0 Nq351
  have go353 : own_S p e below ST T351 (mkF m 7 #[iv (3 : Int32), .unset] [(.ref b347)]) := fun tt kt => go349 tt (st351.trans kt)
  have KC351 : Keep h0 T351.heap [] := KC347.trans K351 (allS (Or.inr sz_b347) all0)
  have go354 : own_S p e below ST T351 (mkF m 10 #[iv (3 : Int32), rv b347] [.null, (.ref b347)]) := fun tt kt => go353 tt (by
      refine XS.astoreN X351.here hx rfl (hb hby d1_7) rfl rfl (l' := #[iv (3 : Int32), rv b347]) rfl ?_
      refine XS.aloadN X351.here hx rfl (hb hby d1_8) rfl rfl ?_
      refine XS.aconstNull X351.here hx rfl (hb hby d1_9) ?_
      exact kt)
  have f355 := (A347.keep K351)
  have f356 := (f350.keep K351 (allS ge_b347 all0))
  have zs358 := (Nat.le_trans zs352 K351.1)
  obtain ⟨cq357, kq357, q357a, q357b, q357c⟩ := isOf hZ rfl f355
  obtain ⟨_, _, ⟨T357, L357, k357, n357⟩, -, X357, ⟨Lc357, hQ357, l357, y357, z357⟩, st357⟩ := X351.interfaceBack hx (xi := (⟨"java/util/List", "add", "(Ljava/lang/Object;)Z"⟩ : MethodName)) (y := (⟨"java/util/ArrayList", "add", "(Ljava/lang/Object;)Z"⟩ : MethodName)) hown (mvT hZ (W 30 rfl)) (mvT hZ (W 31 rfl)) (mvT hZ (W 32 rfl)) (mvT hZ (W 33 rfl)) (mvT hZ (W 34 rfl)) (mvT hZ (W 35 rfl)) (mvT hZ (W 36 rfl)) (mvT hZ (W 37 rfl)) (by decide) (backOf (W := 0) (rm6k0 l Z a0 hw [] b347 (0 : Int32) ad kd T351.heap n0 zs358 Fa351 Fb351 Fc351 f355 ge_b347 SD VD f356) hZ (W 38 rfl) (W 6 rfl) (by decide) (by decide)) q357a q357b q357c (g := (mkF m 10 #[iv (3 : Int32), rv b347] [.null, (.ref b347)])) rfl (by rw [hml]; rfl) (Steps.refl _) (argsL := [.null]) (rest := []) (lenOf pd94 rfl) rfl (by show 2 * 0 + _ ≤ _; exact Nat.le_of_eq rfl) (hb hby d1_10) (fun _ _ => ⟨rfl, rfl, (by decide : 1 + 1 ≤ _), (by decide : 3 + 10 ≤ _)⟩)
  dsimp only [Pt.U, Pt.locs, Pt.cells, Pt.slots] at X357 l357 y357 z357 st357 hQ357
  subst l357 y357 z357
  obtain ⟨b357, kb357, rfl, Nq357, K357, Fa357, Fb357, Fc357, Vb357, gb357, zb357, nb357⟩ := hQ357
  have N357 := Fr.app N351 Nq357
  have go359 : own_S p e below ST T357 (mkF m 15 #[iv (3 : Int32), rv b347] [(.int (1 : Int32))]) := fun tt kt => go354 tt (st357.trans kt)
  have KC357 : Keep h0 T357.heap [] := KC351.trans K357 (allS (Or.inr sz_b347) all0)
  have go360 : own_S p e below ST T357 (mkF m 18 #[iv (3 : Int32), rv b347] [.null, (.ref b347)]) := fun tt kt => go359 tt (by
      refine XS.pop X357.here hx rfl (hb hby d1_15) rfl rfl ?_
      refine XS.aloadN X357.here hx rfl (hb hby d1_16) rfl rfl ?_
      refine XS.aconstNull X357.here hx rfl (hb hby d1_17) ?_
      exact kt)
  have f361 := (f355.keep K357)
  have zs363 := (Nat.le_trans zs358 K357.1)
  obtain ⟨cq362, kq362, q362a, q362b, q362c⟩ := isOf hZ rfl f361
  obtain ⟨_, _, ⟨T362, L362, k362, n362⟩, -, X362, ⟨Lc362, hQ362, l362, y362, z362⟩, st362⟩ := X357.interfaceBack hx (xi := (⟨"java/util/List", "add", "(Ljava/lang/Object;)Z"⟩ : MethodName)) (y := (⟨"java/util/ArrayList", "add", "(Ljava/lang/Object;)Z"⟩ : MethodName)) hown (mvT hZ (W 30 rfl)) (mvT hZ (W 31 rfl)) (mvT hZ (W 32 rfl)) (mvT hZ (W 33 rfl)) (mvT hZ (W 34 rfl)) (mvT hZ (W 35 rfl)) (mvT hZ (W 36 rfl)) (mvT hZ (W 37 rfl)) (by decide) (backOf (W := 0) (rm6k1 l Z a0 hw [] b347 (1 : Int32) b357 kb357 T357.heap n0 zs363 Fa357 Fb357 Fc357 f361 ge_b347 Vb357 gb357 nb357) hZ (W 38 rfl) (W 6 rfl) (by decide) (by decide)) q362a q362b q362c (g := (mkF m 18 #[iv (3 : Int32), rv b347] [.null, (.ref b347)])) rfl (by rw [hml]; rfl) (Steps.refl _) (argsL := [.null]) (rest := []) (lenOf pd94 rfl) rfl (by show 2 * 0 + _ ≤ _; exact Nat.le_of_eq rfl) (hb hby d1_18) (fun _ _ => ⟨rfl, rfl, (by decide : 2 + 0 ≤ _), (by decide : 13 + 0 ≤ _)⟩)
  dsimp only [Pt.U, Pt.locs, Pt.cells, Pt.slots] at X362 l362 y362 z362 st362 hQ362
  subst l362 y362 z362
  obtain ⟨rfl, Nq362, K362, Fa362, Fb362, Fc362, Vb362⟩ := hQ362
  have N362 := Fr.app N357 Nq362
  have go364 : own_S p e below ST T362 (mkF m 23 #[iv (3 : Int32), rv b347] [(.int (1 : Int32))]) := fun tt kt => go360 tt (st362.trans kt)
  have KC362 : Keep h0 T362.heap [] := KC357.trans K362 (allS (Or.inr sz_b347) (allS (Or.inr (Nat.le_trans KC351.1 zb357)) all0))
  have go365 : own_S p e below ST T362 (mkF m 31 #[iv (3 : Int32), rv b347] [.null, (.ref b347)]) := fun tt kt => go364 tt (by
      refine XS.pop X362.here hx rfl (hb hby d1_23) rfl rfl ?_
      refine XS.iloadN X362.here hx rfl (hb hby d1_24) rfl ?_
      refine XS.iconst X362.here hx rfl (hb hby d1_25) ?_
      refine XS.icmpNo X362.here hx rfl (hb hby d1_26) rfl (tlt (by decide : (2 : Int32) < (3 : Int32))).2.2.2 ?_
      refine XS.aloadN X362.here hx rfl (hb hby d1_29) rfl rfl ?_
      refine XS.aconstNull X362.here hx rfl (hb hby d1_30) ?_
      exact kt)
  have f366 := (f361.keep K362)
  have zs368 := (Nat.le_trans zs363 K362.1)
  obtain ⟨cq367, kq367, q367a, q367b, q367c⟩ := isOf hZ rfl f366
  obtain ⟨_, _, ⟨T367, L367, k367, n367⟩, -, X367, ⟨Lc367, hQ367, l367, y367, z367⟩, st367⟩ := X362.interfaceBack hx (xi := (⟨"java/util/List", "add", "(Ljava/lang/Object;)Z"⟩ : MethodName)) (y := (⟨"java/util/ArrayList", "add", "(Ljava/lang/Object;)Z"⟩ : MethodName)) hown (mvT hZ (W 30 rfl)) (mvT hZ (W 31 rfl)) (mvT hZ (W 32 rfl)) (mvT hZ (W 33 rfl)) (mvT hZ (W 34 rfl)) (mvT hZ (W 35 rfl)) (mvT hZ (W 36 rfl)) (mvT hZ (W 37 rfl)) (by decide) (backOf (W := 0) (rm6k2 l Z a0 hw [] b347 (2 : Int32) b357 kb357 T362.heap n0 zs368 Fa362 Fb362 Fc362 f366 ge_b347 Vb362 gb357 nb357) hZ (W 38 rfl) (W 6 rfl) (by decide) (by decide)) q367a q367b q367c (g := (mkF m 31 #[iv (3 : Int32), rv b347] [.null, (.ref b347)])) rfl (by rw [hml]; rfl) (Steps.refl _) (argsL := [.null]) (rest := []) (lenOf pd94 rfl) rfl (by show 2 * 0 + _ ≤ _; exact Nat.le_of_eq rfl) (hb hby d1_31) (fun _ _ => ⟨rfl, rfl, (by decide : 2 + 0 ≤ _), (by decide : 13 + 0 ≤ _)⟩)
  dsimp only [Pt.U, Pt.locs, Pt.cells, Pt.slots] at X367 l367 y367 z367 st367 hQ367
  subst l367 y367 z367
  obtain ⟨rfl, Nq367, K367, Fa367, Fb367, Fc367, Vb367⟩ := hQ367
  have N367 := Fr.app N362 Nq367
  have go369 : own_S p e below ST T367 (mkF m 36 #[iv (3 : Int32), rv b347] [(.int (1 : Int32))]) := fun tt kt => go365 tt (st367.trans kt)
  have KC367 : Keep h0 T367.heap [] := KC362.trans K367 (allS (Or.inr sz_b347) (allS (Or.inr (Nat.le_trans KC351.1 zb357)) all0))
  have go370 : own_S p e below ST T367 (mkF m 64 #[iv (3 : Int32), rv b347] [(.ref b347)]) := fun tt kt => go369 tt (by
      refine XS.pop X367.here hx rfl (hb hby d1_36) rfl rfl ?_
      refine XS.iloadN X367.here hx rfl (hb hby d1_37) rfl ?_
      refine XS.iconst X367.here hx rfl (hb hby d1_38) ?_
      refine XS.icmpYes X367.here hx rfl (pc0 := 39) (pc' := 50) rfl (hb hby d1_39) rfl (flt (by decide : ¬ ((3 : Int32) < (3 : Int32)))).2.2.2 (by decide) (by decide) ?_
      refine XS.iloadN X367.here hx rfl (hb hby d1_50) rfl ?_
      refine XS.iconst X367.here hx rfl (hb hby d1_51) ?_
      show Steps p.tables e below (T367.setTop (mkF m 52 #[iv (3 : Int32), rv b347] [(.int (4 : Int32)), (.int (3 : Int32))])) _
      refine XS.icmpYes X367.here hx rfl (pc0 := 52) (pc' := 63) rfl (hb hby d1_52) rfl (flt (by decide : ¬ ((4 : Int32) < (3 : Int32)))).2.2.2 (by decide) (by decide) ?_
      refine XS.aloadN X367.here hx rfl (hb hby d1_63) rfl rfl ?_
      exact kt)
  have f371 := (f366.keep K367)
  obtain ⟨fs, hr, hrun, hended, hW, hsame⟩ := X367.leave (v := some (.ref b347)) (fun h => by rw [Bd.returns] at h; cases h)
  refine ⟨_, _, pre0 _ (go370 _ ?_), hrun, hended, _, _, rfl, ?_, ⟨_, rfl⟩, hW, hsame.mono (by decide) (by decide)⟩
  · exact retOut X367 hx Bd.returns rfl (Or.inr (Or.inr (Or.inr (Or.inr ⟨rfl, rfl, rfl⟩)))) (hb hby d1_64) hr
  · show Q1k3 Z ad kd h0 n0 _ T367.heap _
    exact ⟨b347, rfl, N367, KC367, f371, Fc367, ge_b347, sz_b347⟩
theorem d1_42 : decode method_3_code 42 = .ok (.aload_n 1, 1) := by decide +kernel
theorem d1_43 : decode method_3_code 43 = .ok (.aconst_null, 1) := by decide +kernel
theorem d1_44 : decode method_3_code 44 = .ok (.invokeinterface 30 2, 5) := by decide +kernel
theorem d1_49 : decode method_3_code 49 = .ok (.pop, 1) := by decide +kernel
theorem ef1k4 (m : MethodId) (x0 : Int32) : entryFrame m #[(.int x0)] 2 = mkF m 0 #[.val (.int x0), .unset] [] := by first | (simp [entryFrame, mkF, argsToLocals, Value.category]; done) | rfl
def Q1k4 (Z : State) (ad : Addr) (kd : ClassId) (h0 : Heap) (n0 : Nat) (v : Option Value) (h : Heap) (L : List Loc) : Prop := ∃ b : Addr, v = some (.ref b) ∧ Fr n0 L ∧ Keep h0 h [] ∧ Exa Z h b "java/util/ArrayList" ∧ Fld Z h b "java/util/ArrayList" "size" "I" (.int (4 : Int32)) ∧ n0 ≤ b ∧ h0.size ≤ b
set_option maxRecDepth 65536 in
set_option maxHeartbeats 40000000 in
theorem rm1k4 (l : Launch) (Z : State) (a0 : Array Value) (hw : ∀ d ∈ tables_1, d.before a0 Z = true) (ws : List Jvm.Cond) (ad : Addr) (kd : ClassId) (h0 : Heap) (n0 : Nat) (Z0 : n0 ≤ h0.size) (SD : Sta Z Z.heap "java/util/ArrayList" "DEFAULTCAPACITY_EMPTY_ELEMENTDATA" "[Ljava/lang/Object;" (.ref ad)) (VD : Arv Z Z.heap ad kd (.object "java/lang/Object") (0 : Int32) [] .null) (OL : Old Z n0 h0) :
    MetFree l (⟨"com/example/inscribe/inscribe/geometry/BoundaryOrderMirroredPinLaw", "nulls", "(I)Ljava/util/List;"⟩ : MethodName) (head1 (Jvm.Cond.code (⟨"com/example/inscribe/inscribe/geometry/BoundaryOrderMirroredPinLaw", "nulls", "(I)Ljava/util/List;"⟩ : MethodName) method_3_code 2 (some (.object "java/util/List")) :: ws) ({ frames := 5, cells := 2, slots := 13, locals := 69 } : Room)) (fun aa UU => aa = #[(.int (4 : Int32))] ∧ Z.Warmed39 UU.vm ∧ UU.heap = h0) (fun _ _ _ _ _ => True) (fun _ UU oo UU' => ∃ vv LL, oo = .returned vv ∧ Q1k4 Z ad kd h0 n0 vv UU'.heap LL ∧ FrameEnd UU oo UU' LL ({ frames := 5, cells := 2, slots := 13, locals := 69 } : Room).cells ({ frames := 5, cells := 2, slots := 13, locals := 69 } : Room).slots) := by
  have W : ∀ {d : Jvm.Cond} (i : Nat), tables_1[i]? = some d → d.before a0 Z = true := fun i h => hw _ (List.mem_of_getElem? h)
  refine MetFree.of_bodySF (plainFor_of_name pn86) hisR ?_
  intro p e s m args below meth c s₁ Bd hml0 hP hK
  obtain ⟨rfl, hZ, hh⟩ := hP
  have hx := Bd.exec
  have hby := Bd.bytes
  have hml : c.maxLocals = 2 := hml0
  have hown : s.vm.findClass "com/example/inscribe/inscribe/geometry/BoundaryOrderMirroredPinLaw" = some m.cls := findClass_of_methodNamed Bd.named
  have hnm := (name_of_methodNamed Bd.named Bd.method).1
  have X0 : Stand p l e ({ frames := 5, cells := 2, slots := 13, locals := 69 } : Room) s m #[(.int (4 : Int32))] below meth c s₁ [] 0 0 := Stand.of_body Bd
  have e0 : s₁.heap = h0 := by rw [← hh, Bd.state]; rfl
  have N0 := Fr.nil n0
  have pre0 : ∀ tt, Steps p.tables e below (s₁.setTop (mkF m 0 #[iv (4 : Int32), .unset] [])) tt → Steps p.tables e below (s₁.setTop (entryFrame m #[(.int (4 : Int32))] 2)) tt := fun tt kt => castTop (ef1k4 m (4 : Int32)) kt
  obtain ⟨ST, hST⟩ : ∃ z : State, z = s₁.setTop (mkF m 0 #[iv (4 : Int32), .unset] []) := ⟨_, rfl⟩
  rw [← hST] at pre0
  have KC0 : Keep h0 h0 [] := Keep.refl h0 []
  obtain ⟨b372, g372⟩ : ∃ z, z = h0.size := ⟨_, rfl⟩
  obtain ⟨T372, h372, X372, e372, E372, A372, D372, -, st372⟩ := newO X0 hx hZ hown (W 4 rfl) (W 5 rfl) (W 6 rfl) e0 (g := (mkF m 0 #[iv (4 : Int32), .unset] [])) rfl (hb hby d1_0) (by decide) (by decide)
  rw [← g372] at A372 D372 st372
  have ge_b372 : n0 ≤ b372 := Nat.le_trans Z0 (Nat.le_of_eq g372.symm)
  have sz_b372 : h0.size ≤ b372 := Nat.le_trans KC0.1 (Nat.le_of_eq g372.symm)
  have F372_modCount : Fld Z h372 b372 "java/util/AbstractList" "modCount" "I" (.int (0 : Int32)) := D372 (Or.inl (W 26 rfl)) (ty := .int) (by decide)
  have F372_elementData : Fld Z h372 b372 "java/util/ArrayList" "elementData" "[Ljava/lang/Object;" .null := D372 (Or.inl (W 29 rfl)) (ty := (.array (.object "java/lang/Object"))) (by decide)
  have F372_size : Fld Z h372 b372 "java/util/ArrayList" "size" "I" (.int (0 : Int32)) := D372 (Or.inl (W 42 rfl)) (ty := .int) (by decide)
  have KC372 : Keep h0 h372 [] := KC0.ext E372
  have go373 : own_S p e below ST T372 (mkF m 3 #[iv (4 : Int32), .unset] [(.ref b372)]) := fun tt kt => (by rw [hST]; exact st372 _ kt)
  have go374 : own_S p e below ST T372 (mkF m 4 #[iv (4 : Int32), .unset] [(.ref b372), (.ref b372)]) := fun tt kt => go373 tt (by
      refine XS.dup X372.here hx rfl (hb hby d1_3) rfl rfl ?_
      exact kt)
  have f375 := (OL.ext E372)
  have zs377 := (Nat.le_trans Z0 E372.1)
  obtain ⟨_, _, ⟨T376, L376, k376, n376⟩, -, X376, ⟨Lc376, hQ376, l376, y376, z376⟩, st376⟩ := X372.specialBack hx (y := (⟨"java/util/ArrayList", "<init>", "()V"⟩ : MethodName)) rfl hown (mvT hZ (W 7 rfl)) (mvT hZ (W 8 rfl)) (mvT hZ (W 9 rfl)) (by decide) (backOf (W := 1) (rm2 l Z a0 hw [] b372 ad h372 n0 zs377 F372_modCount F372_elementData F372_size A372 ge_b372 SD f375) hZ (W 9 rfl) (W 6 rfl) (by decide) (by decide)) (g := (mkF m 4 #[iv (4 : Int32), .unset] [(.ref b372), (.ref b372)])) rfl (by rw [hml]; rfl) (Steps.refl _) (a := b372) (argsL := []) (rest := [(.ref b372)]) (lenOf pd7 rfl) rfl (by show 2 * 0 + _ ≤ _; exact Nat.le_of_eq rfl) (hb hby d1_4) (fun _ _ => ⟨rfl, e372, (by decide : 1 + 0 ≤ _), (by decide : 3 + 0 ≤ _)⟩)
  dsimp only [Pt.U, Pt.locs, Pt.cells, Pt.slots] at X376 l376 y376 z376 st376 hQ376
  subst l376 y376 z376
  obtain ⟨rfl, Nq376, K376, Fa376, Fb376, Fc376⟩ := hQ376
  have N376 := Fr.app N0 Nq376
  have go378 : own_S p e below ST T376 (mkF m 7 #[iv (4 : Int32), .unset] [(.ref b372)]) := fun tt kt => go374 tt (st376.trans kt)
  have KC376 : Keep h0 T376.heap [] := KC372.trans K376 (allS (Or.inr sz_b372) all0)
  have go379 : own_S p e below ST T376 (mkF m 10 #[iv (4 : Int32), rv b372] [.null, (.ref b372)]) := fun tt kt => go378 tt (by
      refine XS.astoreN X376.here hx rfl (hb hby d1_7) rfl rfl (l' := #[iv (4 : Int32), rv b372]) rfl ?_
      refine XS.aloadN X376.here hx rfl (hb hby d1_8) rfl rfl ?_
      refine XS.aconstNull X376.here hx rfl (hb hby d1_9) ?_
      exact kt)
  have f380 := (A372.keep K376)
  have f381 := (f375.keep K376 (allS ge_b372 all0))
  have zs383 := (Nat.le_trans zs377 K376.1)
  obtain ⟨cq382, kq382, q382a, q382b, q382c⟩ := isOf hZ rfl f380
  obtain ⟨_, _, ⟨T382, L382, k382, n382⟩, -, X382, ⟨Lc382, hQ382, l382, y382, z382⟩, st382⟩ := X376.interfaceBack hx (xi := (⟨"java/util/List", "add", "(Ljava/lang/Object;)Z"⟩ : MethodName)) (y := (⟨"java/util/ArrayList", "add", "(Ljava/lang/Object;)Z"⟩ : MethodName)) hown (mvT hZ (W 30 rfl)) (mvT hZ (W 31 rfl)) (mvT hZ (W 32 rfl)) (mvT hZ (W 33 rfl)) (mvT hZ (W 34 rfl)) (mvT hZ (W 35 rfl)) (mvT hZ (W 36 rfl)) (mvT hZ (W 37 rfl)) (by decide) (backOf (W := 0) (rm6k0 l Z a0 hw [] b372 (0 : Int32) ad kd T376.heap n0 zs383 Fa376 Fb376 Fc376 f380 ge_b372 SD VD f381) hZ (W 38 rfl) (W 6 rfl) (by decide) (by decide)) q382a q382b q382c (g := (mkF m 10 #[iv (4 : Int32), rv b372] [.null, (.ref b372)])) rfl (by rw [hml]; rfl) (Steps.refl _) (argsL := [.null]) (rest := []) (lenOf pd94 rfl) rfl (by show 2 * 0 + _ ≤ _; exact Nat.le_of_eq rfl) (hb hby d1_10) (fun _ _ => ⟨rfl, rfl, (by decide : 1 + 1 ≤ _), (by decide : 3 + 10 ≤ _)⟩)
  dsimp only [Pt.U, Pt.locs, Pt.cells, Pt.slots] at X382 l382 y382 z382 st382 hQ382
  subst l382 y382 z382
  obtain ⟨b382, kb382, rfl, Nq382, K382, Fa382, Fb382, Fc382, Vb382, gb382, zb382, nb382⟩ := hQ382
  have N382 := Fr.app N376 Nq382
  have go384 : own_S p e below ST T382 (mkF m 15 #[iv (4 : Int32), rv b372] [(.int (1 : Int32))]) := fun tt kt => go379 tt (st382.trans kt)
  have KC382 : Keep h0 T382.heap [] := KC376.trans K382 (allS (Or.inr sz_b372) all0)
  have go385 : own_S p e below ST T382 (mkF m 18 #[iv (4 : Int32), rv b372] [.null, (.ref b372)]) := fun tt kt => go384 tt (by
      refine XS.pop X382.here hx rfl (hb hby d1_15) rfl rfl ?_
      refine XS.aloadN X382.here hx rfl (hb hby d1_16) rfl rfl ?_
      refine XS.aconstNull X382.here hx rfl (hb hby d1_17) ?_
      exact kt)
  have f386 := (f380.keep K382)
  have zs388 := (Nat.le_trans zs383 K382.1)
  obtain ⟨cq387, kq387, q387a, q387b, q387c⟩ := isOf hZ rfl f386
  obtain ⟨_, _, ⟨T387, L387, k387, n387⟩, -, X387, ⟨Lc387, hQ387, l387, y387, z387⟩, st387⟩ := X382.interfaceBack hx (xi := (⟨"java/util/List", "add", "(Ljava/lang/Object;)Z"⟩ : MethodName)) (y := (⟨"java/util/ArrayList", "add", "(Ljava/lang/Object;)Z"⟩ : MethodName)) hown (mvT hZ (W 30 rfl)) (mvT hZ (W 31 rfl)) (mvT hZ (W 32 rfl)) (mvT hZ (W 33 rfl)) (mvT hZ (W 34 rfl)) (mvT hZ (W 35 rfl)) (mvT hZ (W 36 rfl)) (mvT hZ (W 37 rfl)) (by decide) (backOf (W := 0) (rm6k1 l Z a0 hw [] b372 (1 : Int32) b382 kb382 T382.heap n0 zs388 Fa382 Fb382 Fc382 f386 ge_b372 Vb382 gb382 nb382) hZ (W 38 rfl) (W 6 rfl) (by decide) (by decide)) q387a q387b q387c (g := (mkF m 18 #[iv (4 : Int32), rv b372] [.null, (.ref b372)])) rfl (by rw [hml]; rfl) (Steps.refl _) (argsL := [.null]) (rest := []) (lenOf pd94 rfl) rfl (by show 2 * 0 + _ ≤ _; exact Nat.le_of_eq rfl) (hb hby d1_18) (fun _ _ => ⟨rfl, rfl, (by decide : 2 + 0 ≤ _), (by decide : 13 + 0 ≤ _)⟩)
  dsimp only [Pt.U, Pt.locs, Pt.cells, Pt.slots] at X387 l387 y387 z387 st387 hQ387
  subst l387 y387 z387
  obtain ⟨rfl, Nq387, K387, Fa387, Fb387, Fc387, Vb387⟩ := hQ387
  have N387 := Fr.app N382 Nq387
  have go389 : own_S p e below ST T387 (mkF m 23 #[iv (4 : Int32), rv b372] [(.int (1 : Int32))]) := fun tt kt => go385 tt (st387.trans kt)
  have KC387 : Keep h0 T387.heap [] := KC382.trans K387 (allS (Or.inr sz_b372) (allS (Or.inr (Nat.le_trans KC376.1 zb382)) all0))
  have go390 : own_S p e below ST T387 (mkF m 31 #[iv (4 : Int32), rv b372] [.null, (.ref b372)]) := fun tt kt => go389 tt (by
      refine XS.pop X387.here hx rfl (hb hby d1_23) rfl rfl ?_
      refine XS.iloadN X387.here hx rfl (hb hby d1_24) rfl ?_
      refine XS.iconst X387.here hx rfl (hb hby d1_25) ?_
      refine XS.icmpNo X387.here hx rfl (hb hby d1_26) rfl (tlt (by decide : (2 : Int32) < (4 : Int32))).2.2.2 ?_
      refine XS.aloadN X387.here hx rfl (hb hby d1_29) rfl rfl ?_
      refine XS.aconstNull X387.here hx rfl (hb hby d1_30) ?_
      exact kt)
  have f391 := (f386.keep K387)
  have zs393 := (Nat.le_trans zs388 K387.1)
  obtain ⟨cq392, kq392, q392a, q392b, q392c⟩ := isOf hZ rfl f391
  obtain ⟨_, _, ⟨T392, L392, k392, n392⟩, -, X392, ⟨Lc392, hQ392, l392, y392, z392⟩, st392⟩ := X387.interfaceBack hx (xi := (⟨"java/util/List", "add", "(Ljava/lang/Object;)Z"⟩ : MethodName)) (y := (⟨"java/util/ArrayList", "add", "(Ljava/lang/Object;)Z"⟩ : MethodName)) hown (mvT hZ (W 30 rfl)) (mvT hZ (W 31 rfl)) (mvT hZ (W 32 rfl)) (mvT hZ (W 33 rfl)) (mvT hZ (W 34 rfl)) (mvT hZ (W 35 rfl)) (mvT hZ (W 36 rfl)) (mvT hZ (W 37 rfl)) (by decide) (backOf (W := 0) (rm6k2 l Z a0 hw [] b372 (2 : Int32) b382 kb382 T387.heap n0 zs393 Fa387 Fb387 Fc387 f391 ge_b372 Vb387 gb382 nb382) hZ (W 38 rfl) (W 6 rfl) (by decide) (by decide)) q392a q392b q392c (g := (mkF m 31 #[iv (4 : Int32), rv b372] [.null, (.ref b372)])) rfl (by rw [hml]; rfl) (Steps.refl _) (argsL := [.null]) (rest := []) (lenOf pd94 rfl) rfl (by show 2 * 0 + _ ≤ _; exact Nat.le_of_eq rfl) (hb hby d1_31) (fun _ _ => ⟨rfl, rfl, (by decide : 2 + 0 ≤ _), (by decide : 13 + 0 ≤ _)⟩)
  dsimp only [Pt.U, Pt.locs, Pt.cells, Pt.slots] at X392 l392 y392 z392 st392 hQ392
  subst l392 y392 z392
  obtain ⟨rfl, Nq392, K392, Fa392, Fb392, Fc392, Vb392⟩ := hQ392
  have N392 := Fr.app N387 Nq392
  have go394 : own_S p e below ST T392 (mkF m 36 #[iv (4 : Int32), rv b372] [(.int (1 : Int32))]) := fun tt kt => go390 tt (st392.trans kt)
  have KC392 : Keep h0 T392.heap [] := KC387.trans K392 (allS (Or.inr sz_b372) (allS (Or.inr (Nat.le_trans KC376.1 zb382)) all0))
  have go395 : own_S p e below ST T392 (mkF m 44 #[iv (4 : Int32), rv b372] [.null, (.ref b372)]) := fun tt kt => go394 tt (by
      refine XS.pop X392.here hx rfl (hb hby d1_36) rfl rfl ?_
      refine XS.iloadN X392.here hx rfl (hb hby d1_37) rfl ?_
      refine XS.iconst X392.here hx rfl (hb hby d1_38) ?_
      refine XS.icmpNo X392.here hx rfl (hb hby d1_39) rfl (tlt (by decide : (3 : Int32) < (4 : Int32))).2.2.2 ?_
      refine XS.aloadN X392.here hx rfl (hb hby d1_42) rfl rfl ?_
      refine XS.aconstNull X392.here hx rfl (hb hby d1_43) ?_
      exact kt)
  have f396 := (f391.keep K392)
  have zs398 := (Nat.le_trans zs393 K392.1)
  obtain ⟨cq397, kq397, q397a, q397b, q397c⟩ := isOf hZ rfl f396
  obtain ⟨_, _, ⟨T397, L397, k397, n397⟩, -, X397, ⟨Lc397, hQ397, l397, y397, z397⟩, st397⟩ := X392.interfaceBack hx (xi := (⟨"java/util/List", "add", "(Ljava/lang/Object;)Z"⟩ : MethodName)) (y := (⟨"java/util/ArrayList", "add", "(Ljava/lang/Object;)Z"⟩ : MethodName)) hown (mvT hZ (W 30 rfl)) (mvT hZ (W 31 rfl)) (mvT hZ (W 32 rfl)) (mvT hZ (W 33 rfl)) (mvT hZ (W 34 rfl)) (mvT hZ (W 35 rfl)) (mvT hZ (W 36 rfl)) (mvT hZ (W 37 rfl)) (by decide) (backOf (W := 0) (rm6k3 l Z a0 hw [] b372 (3 : Int32) b382 kb382 T392.heap n0 zs398 Fa392 Fb392 Fc392 f396 ge_b372 Vb392 gb382 nb382) hZ (W 38 rfl) (W 6 rfl) (by decide) (by decide)) q397a q397b q397c (g := (mkF m 44 #[iv (4 : Int32), rv b372] [.null, (.ref b372)])) rfl (by rw [hml]; rfl) (Steps.refl _) (argsL := [.null]) (rest := []) (lenOf pd94 rfl) rfl (by show 2 * 0 + _ ≤ _; exact Nat.le_of_eq rfl) (hb hby d1_44) (fun _ _ => ⟨rfl, rfl, (by decide : 2 + 0 ≤ _), (by decide : 13 + 0 ≤ _)⟩)
  dsimp only [Pt.U, Pt.locs, Pt.cells, Pt.slots] at X397 l397 y397 z397 st397 hQ397
  subst l397 y397 z397
  obtain ⟨rfl, Nq397, K397, Fa397, Fb397, Fc397, Vb397⟩ := hQ397
  have N397 := Fr.app N392 Nq397
  have go399 : own_S p e below ST T397 (mkF m 49 #[iv (4 : Int32), rv b372] [(.int (1 : Int32))]) := fun tt kt => go395 tt (st397.trans kt)
  have KC397 : Keep h0 T397.heap [] := KC392.trans K397 (allS (Or.inr sz_b372) (allS (Or.inr (Nat.le_trans KC376.1 zb382)) all0))
  have go400 : own_S p e below ST T397 (mkF m 64 #[iv (4 : Int32), rv b372] [(.ref b372)]) := fun tt kt => go399 tt (by
      refine XS.pop X397.here hx rfl (hb hby d1_49) rfl rfl ?_
      refine XS.iloadN X397.here hx rfl (hb hby d1_50) rfl ?_
      refine XS.iconst X397.here hx rfl (hb hby d1_51) ?_
      refine XS.icmpYes X397.here hx rfl (pc0 := 52) (pc' := 63) rfl (hb hby d1_52) rfl (flt (by decide : ¬ ((4 : Int32) < (4 : Int32)))).2.2.2 (by decide) (by decide) ?_
      refine XS.aloadN X397.here hx rfl (hb hby d1_63) rfl rfl ?_
      exact kt)
  have f401 := (f396.keep K397)
  obtain ⟨fs, hr, hrun, hended, hW, hsame⟩ := X397.leave (v := some (.ref b372)) (fun h => by rw [Bd.returns] at h; cases h)
  refine ⟨_, _, pre0 _ (go400 _ ?_), hrun, hended, _, _, rfl, ?_, ⟨_, rfl⟩, hW, hsame.mono (by decide) (by decide)⟩
  · exact retOut X397 hx Bd.returns rfl (Or.inr (Or.inr (Or.inr (Or.inr ⟨rfl, rfl, rfl⟩)))) (hb hby d1_64) hr
  · show Q1k4 Z ad kd h0 n0 _ T397.heap _
    exact ⟨b372, rfl, N397, KC397, f401, Fc397, ge_b372, sz_b372⟩
theorem d1_55 : decode method_3_code 55 = .ok (.aload_n 1, 1) := by decide +kernel
theorem d1_56 : decode method_3_code 56 = .ok (.aconst_null, 1) := by decide +kernel
theorem d1_57 : decode method_3_code 57 = .ok (.invokeinterface 30 2, 5) := by decide +kernel
theorem d1_62 : decode method_3_code 62 = .ok (.pop, 1) := by decide +kernel
theorem ef1k5 (m : MethodId) (x0 : Int32) : entryFrame m #[(.int x0)] 2 = mkF m 0 #[.val (.int x0), .unset] [] := by first | (simp [entryFrame, mkF, argsToLocals, Value.category]; done) | rfl
def Q1k5 (Z : State) (ad : Addr) (kd : ClassId) (h0 : Heap) (n0 : Nat) (v : Option Value) (h : Heap) (L : List Loc) : Prop := ∃ b : Addr, v = some (.ref b) ∧ Fr n0 L ∧ Keep h0 h [] ∧ Exa Z h b "java/util/ArrayList" ∧ Fld Z h b "java/util/ArrayList" "size" "I" (.int (5 : Int32)) ∧ n0 ≤ b ∧ h0.size ≤ b
set_option maxRecDepth 65536 in
set_option maxHeartbeats 40000000 in
theorem rm1k5 (l : Launch) (Z : State) (a0 : Array Value) (hw : ∀ d ∈ tables_1, d.before a0 Z = true) (ws : List Jvm.Cond) (ad : Addr) (kd : ClassId) (h0 : Heap) (n0 : Nat) (Z0 : n0 ≤ h0.size) (SD : Sta Z Z.heap "java/util/ArrayList" "DEFAULTCAPACITY_EMPTY_ELEMENTDATA" "[Ljava/lang/Object;" (.ref ad)) (VD : Arv Z Z.heap ad kd (.object "java/lang/Object") (0 : Int32) [] .null) (OL : Old Z n0 h0) :
    MetFree l (⟨"com/example/inscribe/inscribe/geometry/BoundaryOrderMirroredPinLaw", "nulls", "(I)Ljava/util/List;"⟩ : MethodName) (head1 (Jvm.Cond.code (⟨"com/example/inscribe/inscribe/geometry/BoundaryOrderMirroredPinLaw", "nulls", "(I)Ljava/util/List;"⟩ : MethodName) method_3_code 2 (some (.object "java/util/List")) :: ws) ({ frames := 5, cells := 2, slots := 13, locals := 69 } : Room)) (fun aa UU => aa = #[(.int (5 : Int32))] ∧ Z.Warmed39 UU.vm ∧ UU.heap = h0) (fun _ _ _ _ _ => True) (fun _ UU oo UU' => ∃ vv LL, oo = .returned vv ∧ Q1k5 Z ad kd h0 n0 vv UU'.heap LL ∧ FrameEnd UU oo UU' LL ({ frames := 5, cells := 2, slots := 13, locals := 69 } : Room).cells ({ frames := 5, cells := 2, slots := 13, locals := 69 } : Room).slots) := by
  have W : ∀ {d : Jvm.Cond} (i : Nat), tables_1[i]? = some d → d.before a0 Z = true := fun i h => hw _ (List.mem_of_getElem? h)
  refine MetFree.of_bodySF (plainFor_of_name pn86) hisR ?_
  intro p e s m args below meth c s₁ Bd hml0 hP hK
  obtain ⟨rfl, hZ, hh⟩ := hP
  have hx := Bd.exec
  have hby := Bd.bytes
  have hml : c.maxLocals = 2 := hml0
  have hown : s.vm.findClass "com/example/inscribe/inscribe/geometry/BoundaryOrderMirroredPinLaw" = some m.cls := findClass_of_methodNamed Bd.named
  have hnm := (name_of_methodNamed Bd.named Bd.method).1
  have X0 : Stand p l e ({ frames := 5, cells := 2, slots := 13, locals := 69 } : Room) s m #[(.int (5 : Int32))] below meth c s₁ [] 0 0 := Stand.of_body Bd
  have e0 : s₁.heap = h0 := by rw [← hh, Bd.state]; rfl
  have N0 := Fr.nil n0
  have pre0 : ∀ tt, Steps p.tables e below (s₁.setTop (mkF m 0 #[iv (5 : Int32), .unset] [])) tt → Steps p.tables e below (s₁.setTop (entryFrame m #[(.int (5 : Int32))] 2)) tt := fun tt kt => castTop (ef1k5 m (5 : Int32)) kt
  obtain ⟨ST, hST⟩ : ∃ z : State, z = s₁.setTop (mkF m 0 #[iv (5 : Int32), .unset] []) := ⟨_, rfl⟩
  rw [← hST] at pre0
  have KC0 : Keep h0 h0 [] := Keep.refl h0 []
  obtain ⟨b402, g402⟩ : ∃ z, z = h0.size := ⟨_, rfl⟩
  obtain ⟨T402, h402, X402, e402, E402, A402, D402, -, st402⟩ := newO X0 hx hZ hown (W 4 rfl) (W 5 rfl) (W 6 rfl) e0 (g := (mkF m 0 #[iv (5 : Int32), .unset] [])) rfl (hb hby d1_0) (by decide) (by decide)
  rw [← g402] at A402 D402 st402
  have ge_b402 : n0 ≤ b402 := Nat.le_trans Z0 (Nat.le_of_eq g402.symm)
  have sz_b402 : h0.size ≤ b402 := Nat.le_trans KC0.1 (Nat.le_of_eq g402.symm)
  have F402_modCount : Fld Z h402 b402 "java/util/AbstractList" "modCount" "I" (.int (0 : Int32)) := D402 (Or.inl (W 26 rfl)) (ty := .int) (by decide)
  have F402_elementData : Fld Z h402 b402 "java/util/ArrayList" "elementData" "[Ljava/lang/Object;" .null := D402 (Or.inl (W 29 rfl)) (ty := (.array (.object "java/lang/Object"))) (by decide)
  have F402_size : Fld Z h402 b402 "java/util/ArrayList" "size" "I" (.int (0 : Int32)) := D402 (Or.inl (W 42 rfl)) (ty := .int) (by decide)
  have KC402 : Keep h0 h402 [] := KC0.ext E402
  have go403 : own_S p e below ST T402 (mkF m 3 #[iv (5 : Int32), .unset] [(.ref b402)]) := fun tt kt => (by rw [hST]; exact st402 _ kt)
  have go404 : own_S p e below ST T402 (mkF m 4 #[iv (5 : Int32), .unset] [(.ref b402), (.ref b402)]) := fun tt kt => go403 tt (by
      refine XS.dup X402.here hx rfl (hb hby d1_3) rfl rfl ?_
      exact kt)
  have f405 := (OL.ext E402)
  have zs407 := (Nat.le_trans Z0 E402.1)
  obtain ⟨_, _, ⟨T406, L406, k406, n406⟩, -, X406, ⟨Lc406, hQ406, l406, y406, z406⟩, st406⟩ := X402.specialBack hx (y := (⟨"java/util/ArrayList", "<init>", "()V"⟩ : MethodName)) rfl hown (mvT hZ (W 7 rfl)) (mvT hZ (W 8 rfl)) (mvT hZ (W 9 rfl)) (by decide) (backOf (W := 1) (rm2 l Z a0 hw [] b402 ad h402 n0 zs407 F402_modCount F402_elementData F402_size A402 ge_b402 SD f405) hZ (W 9 rfl) (W 6 rfl) (by decide) (by decide)) (g := (mkF m 4 #[iv (5 : Int32), .unset] [(.ref b402), (.ref b402)])) rfl (by rw [hml]; rfl) (Steps.refl _) (a := b402) (argsL := []) (rest := [(.ref b402)]) (lenOf pd7 rfl) rfl (by show 2 * 0 + _ ≤ _; exact Nat.le_of_eq rfl) (hb hby d1_4) (fun _ _ => ⟨rfl, e402, (by decide : 1 + 0 ≤ _), (by decide : 3 + 0 ≤ _)⟩)
  dsimp only [Pt.U, Pt.locs, Pt.cells, Pt.slots] at X406 l406 y406 z406 st406 hQ406
  subst l406 y406 z406
  obtain ⟨rfl, Nq406, K406, Fa406, Fb406, Fc406⟩ := hQ406
  have N406 := Fr.app N0 Nq406
  have go408 : own_S p e below ST T406 (mkF m 7 #[iv (5 : Int32), .unset] [(.ref b402)]) := fun tt kt => go404 tt (st406.trans kt)
  have KC406 : Keep h0 T406.heap [] := KC402.trans K406 (allS (Or.inr sz_b402) all0)
  have go409 : own_S p e below ST T406 (mkF m 10 #[iv (5 : Int32), rv b402] [.null, (.ref b402)]) := fun tt kt => go408 tt (by
      refine XS.astoreN X406.here hx rfl (hb hby d1_7) rfl rfl (l' := #[iv (5 : Int32), rv b402]) rfl ?_
      refine XS.aloadN X406.here hx rfl (hb hby d1_8) rfl rfl ?_
      refine XS.aconstNull X406.here hx rfl (hb hby d1_9) ?_
      exact kt)
  have f410 := (A402.keep K406)
  have f411 := (f405.keep K406 (allS ge_b402 all0))
  have zs413 := (Nat.le_trans zs407 K406.1)
  obtain ⟨cq412, kq412, q412a, q412b, q412c⟩ := isOf hZ rfl f410
  obtain ⟨_, _, ⟨T412, L412, k412, n412⟩, -, X412, ⟨Lc412, hQ412, l412, y412, z412⟩, st412⟩ := X406.interfaceBack hx (xi := (⟨"java/util/List", "add", "(Ljava/lang/Object;)Z"⟩ : MethodName)) (y := (⟨"java/util/ArrayList", "add", "(Ljava/lang/Object;)Z"⟩ : MethodName)) hown (mvT hZ (W 30 rfl)) (mvT hZ (W 31 rfl)) (mvT hZ (W 32 rfl)) (mvT hZ (W 33 rfl)) (mvT hZ (W 34 rfl)) (mvT hZ (W 35 rfl)) (mvT hZ (W 36 rfl)) (mvT hZ (W 37 rfl)) (by decide) (backOf (W := 0) (rm6k0 l Z a0 hw [] b402 (0 : Int32) ad kd T406.heap n0 zs413 Fa406 Fb406 Fc406 f410 ge_b402 SD VD f411) hZ (W 38 rfl) (W 6 rfl) (by decide) (by decide)) q412a q412b q412c (g := (mkF m 10 #[iv (5 : Int32), rv b402] [.null, (.ref b402)])) rfl (by rw [hml]; rfl) (Steps.refl _) (argsL := [.null]) (rest := []) (lenOf pd94 rfl) rfl (by show 2 * 0 + _ ≤ _; exact Nat.le_of_eq rfl) (hb hby d1_10) (fun _ _ => ⟨rfl, rfl, (by decide : 1 + 1 ≤ _), (by decide : 3 + 10 ≤ _)⟩)
  dsimp only [Pt.U, Pt.locs, Pt.cells, Pt.slots] at X412 l412 y412 z412 st412 hQ412
  subst l412 y412 z412
  obtain ⟨b412, kb412, rfl, Nq412, K412, Fa412, Fb412, Fc412, Vb412, gb412, zb412, nb412⟩ := hQ412
  have N412 := Fr.app N406 Nq412
  have go414 : own_S p e below ST T412 (mkF m 15 #[iv (5 : Int32), rv b402] [(.int (1 : Int32))]) := fun tt kt => go409 tt (st412.trans kt)
  have KC412 : Keep h0 T412.heap [] := KC406.trans K412 (allS (Or.inr sz_b402) all0)
  have go415 : own_S p e below ST T412 (mkF m 18 #[iv (5 : Int32), rv b402] [.null, (.ref b402)]) := fun tt kt => go414 tt (by
      refine XS.pop X412.here hx rfl (hb hby d1_15) rfl rfl ?_
      refine XS.aloadN X412.here hx rfl (hb hby d1_16) rfl rfl ?_
      refine XS.aconstNull X412.here hx rfl (hb hby d1_17) ?_
      exact kt)
  have f416 := (f410.keep K412)
  have zs418 := (Nat.le_trans zs413 K412.1)
  obtain ⟨cq417, kq417, q417a, q417b, q417c⟩ := isOf hZ rfl f416
  obtain ⟨_, _, ⟨T417, L417, k417, n417⟩, -, X417, ⟨Lc417, hQ417, l417, y417, z417⟩, st417⟩ := X412.interfaceBack hx (xi := (⟨"java/util/List", "add", "(Ljava/lang/Object;)Z"⟩ : MethodName)) (y := (⟨"java/util/ArrayList", "add", "(Ljava/lang/Object;)Z"⟩ : MethodName)) hown (mvT hZ (W 30 rfl)) (mvT hZ (W 31 rfl)) (mvT hZ (W 32 rfl)) (mvT hZ (W 33 rfl)) (mvT hZ (W 34 rfl)) (mvT hZ (W 35 rfl)) (mvT hZ (W 36 rfl)) (mvT hZ (W 37 rfl)) (by decide) (backOf (W := 0) (rm6k1 l Z a0 hw [] b402 (1 : Int32) b412 kb412 T412.heap n0 zs418 Fa412 Fb412 Fc412 f416 ge_b402 Vb412 gb412 nb412) hZ (W 38 rfl) (W 6 rfl) (by decide) (by decide)) q417a q417b q417c (g := (mkF m 18 #[iv (5 : Int32), rv b402] [.null, (.ref b402)])) rfl (by rw [hml]; rfl) (Steps.refl _) (argsL := [.null]) (rest := []) (lenOf pd94 rfl) rfl (by show 2 * 0 + _ ≤ _; exact Nat.le_of_eq rfl) (hb hby d1_18) (fun _ _ => ⟨rfl, rfl, (by decide : 2 + 0 ≤ _), (by decide : 13 + 0 ≤ _)⟩)
  dsimp only [Pt.U, Pt.locs, Pt.cells, Pt.slots] at X417 l417 y417 z417 st417 hQ417
  subst l417 y417 z417
  obtain ⟨rfl, Nq417, K417, Fa417, Fb417, Fc417, Vb417⟩ := hQ417
  have N417 := Fr.app N412 Nq417
  have go419 : own_S p e below ST T417 (mkF m 23 #[iv (5 : Int32), rv b402] [(.int (1 : Int32))]) := fun tt kt => go415 tt (st417.trans kt)
  have KC417 : Keep h0 T417.heap [] := KC412.trans K417 (allS (Or.inr sz_b402) (allS (Or.inr (Nat.le_trans KC406.1 zb412)) all0))
  have go420 : own_S p e below ST T417 (mkF m 31 #[iv (5 : Int32), rv b402] [.null, (.ref b402)]) := fun tt kt => go419 tt (by
      refine XS.pop X417.here hx rfl (hb hby d1_23) rfl rfl ?_
      refine XS.iloadN X417.here hx rfl (hb hby d1_24) rfl ?_
      refine XS.iconst X417.here hx rfl (hb hby d1_25) ?_
      refine XS.icmpNo X417.here hx rfl (hb hby d1_26) rfl (tlt (by decide : (2 : Int32) < (5 : Int32))).2.2.2 ?_
      refine XS.aloadN X417.here hx rfl (hb hby d1_29) rfl rfl ?_
      refine XS.aconstNull X417.here hx rfl (hb hby d1_30) ?_
      exact kt)
  have f421 := (f416.keep K417)
  have zs423 := (Nat.le_trans zs418 K417.1)
  obtain ⟨cq422, kq422, q422a, q422b, q422c⟩ := isOf hZ rfl f421
  obtain ⟨_, _, ⟨T422, L422, k422, n422⟩, -, X422, ⟨Lc422, hQ422, l422, y422, z422⟩, st422⟩ := X417.interfaceBack hx (xi := (⟨"java/util/List", "add", "(Ljava/lang/Object;)Z"⟩ : MethodName)) (y := (⟨"java/util/ArrayList", "add", "(Ljava/lang/Object;)Z"⟩ : MethodName)) hown (mvT hZ (W 30 rfl)) (mvT hZ (W 31 rfl)) (mvT hZ (W 32 rfl)) (mvT hZ (W 33 rfl)) (mvT hZ (W 34 rfl)) (mvT hZ (W 35 rfl)) (mvT hZ (W 36 rfl)) (mvT hZ (W 37 rfl)) (by decide) (backOf (W := 0) (rm6k2 l Z a0 hw [] b402 (2 : Int32) b412 kb412 T417.heap n0 zs423 Fa417 Fb417 Fc417 f421 ge_b402 Vb417 gb412 nb412) hZ (W 38 rfl) (W 6 rfl) (by decide) (by decide)) q422a q422b q422c (g := (mkF m 31 #[iv (5 : Int32), rv b402] [.null, (.ref b402)])) rfl (by rw [hml]; rfl) (Steps.refl _) (argsL := [.null]) (rest := []) (lenOf pd94 rfl) rfl (by show 2 * 0 + _ ≤ _; exact Nat.le_of_eq rfl) (hb hby d1_31) (fun _ _ => ⟨rfl, rfl, (by decide : 2 + 0 ≤ _), (by decide : 13 + 0 ≤ _)⟩)
  dsimp only [Pt.U, Pt.locs, Pt.cells, Pt.slots] at X422 l422 y422 z422 st422 hQ422
  subst l422 y422 z422
  obtain ⟨rfl, Nq422, K422, Fa422, Fb422, Fc422, Vb422⟩ := hQ422
  have N422 := Fr.app N417 Nq422
  have go424 : own_S p e below ST T422 (mkF m 36 #[iv (5 : Int32), rv b402] [(.int (1 : Int32))]) := fun tt kt => go420 tt (st422.trans kt)
  have KC422 : Keep h0 T422.heap [] := KC417.trans K422 (allS (Or.inr sz_b402) (allS (Or.inr (Nat.le_trans KC406.1 zb412)) all0))
  have go425 : own_S p e below ST T422 (mkF m 44 #[iv (5 : Int32), rv b402] [.null, (.ref b402)]) := fun tt kt => go424 tt (by
      refine XS.pop X422.here hx rfl (hb hby d1_36) rfl rfl ?_
      refine XS.iloadN X422.here hx rfl (hb hby d1_37) rfl ?_
      refine XS.iconst X422.here hx rfl (hb hby d1_38) ?_
      refine XS.icmpNo X422.here hx rfl (hb hby d1_39) rfl (tlt (by decide : (3 : Int32) < (5 : Int32))).2.2.2 ?_
      refine XS.aloadN X422.here hx rfl (hb hby d1_42) rfl rfl ?_
      refine XS.aconstNull X422.here hx rfl (hb hby d1_43) ?_
      exact kt)
  have f426 := (f421.keep K422)
  have zs428 := (Nat.le_trans zs423 K422.1)
  obtain ⟨cq427, kq427, q427a, q427b, q427c⟩ := isOf hZ rfl f426
  obtain ⟨_, _, ⟨T427, L427, k427, n427⟩, -, X427, ⟨Lc427, hQ427, l427, y427, z427⟩, st427⟩ := X422.interfaceBack hx (xi := (⟨"java/util/List", "add", "(Ljava/lang/Object;)Z"⟩ : MethodName)) (y := (⟨"java/util/ArrayList", "add", "(Ljava/lang/Object;)Z"⟩ : MethodName)) hown (mvT hZ (W 30 rfl)) (mvT hZ (W 31 rfl)) (mvT hZ (W 32 rfl)) (mvT hZ (W 33 rfl)) (mvT hZ (W 34 rfl)) (mvT hZ (W 35 rfl)) (mvT hZ (W 36 rfl)) (mvT hZ (W 37 rfl)) (by decide) (backOf (W := 0) (rm6k3 l Z a0 hw [] b402 (3 : Int32) b412 kb412 T422.heap n0 zs428 Fa422 Fb422 Fc422 f426 ge_b402 Vb422 gb412 nb412) hZ (W 38 rfl) (W 6 rfl) (by decide) (by decide)) q427a q427b q427c (g := (mkF m 44 #[iv (5 : Int32), rv b402] [.null, (.ref b402)])) rfl (by rw [hml]; rfl) (Steps.refl _) (argsL := [.null]) (rest := []) (lenOf pd94 rfl) rfl (by show 2 * 0 + _ ≤ _; exact Nat.le_of_eq rfl) (hb hby d1_44) (fun _ _ => ⟨rfl, rfl, (by decide : 2 + 0 ≤ _), (by decide : 13 + 0 ≤ _)⟩)
  dsimp only [Pt.U, Pt.locs, Pt.cells, Pt.slots] at X427 l427 y427 z427 st427 hQ427
  subst l427 y427 z427
  obtain ⟨rfl, Nq427, K427, Fa427, Fb427, Fc427, Vb427⟩ := hQ427
  have N427 := Fr.app N422 Nq427
  have go429 : own_S p e below ST T427 (mkF m 49 #[iv (5 : Int32), rv b402] [(.int (1 : Int32))]) := fun tt kt => go425 tt (st427.trans kt)
  have KC427 : Keep h0 T427.heap [] := KC422.trans K427 (allS (Or.inr sz_b402) (allS (Or.inr (Nat.le_trans KC406.1 zb412)) all0))
  have go430 : own_S p e below ST T427 (mkF m 57 #[iv (5 : Int32), rv b402] [.null, (.ref b402)]) := fun tt kt => go429 tt (by
      refine XS.pop X427.here hx rfl (hb hby d1_49) rfl rfl ?_
      refine XS.iloadN X427.here hx rfl (hb hby d1_50) rfl ?_
      refine XS.iconst X427.here hx rfl (hb hby d1_51) ?_
      refine XS.icmpNo X427.here hx rfl (hb hby d1_52) rfl (tlt (by decide : (4 : Int32) < (5 : Int32))).2.2.2 ?_
      refine XS.aloadN X427.here hx rfl (hb hby d1_55) rfl rfl ?_
      refine XS.aconstNull X427.here hx rfl (hb hby d1_56) ?_
      exact kt)
  have f431 := (f426.keep K427)
  have zs433 := (Nat.le_trans zs428 K427.1)
  obtain ⟨cq432, kq432, q432a, q432b, q432c⟩ := isOf hZ rfl f431
  obtain ⟨_, _, ⟨T432, L432, k432, n432⟩, -, X432, ⟨Lc432, hQ432, l432, y432, z432⟩, st432⟩ := X427.interfaceBack hx (xi := (⟨"java/util/List", "add", "(Ljava/lang/Object;)Z"⟩ : MethodName)) (y := (⟨"java/util/ArrayList", "add", "(Ljava/lang/Object;)Z"⟩ : MethodName)) hown (mvT hZ (W 30 rfl)) (mvT hZ (W 31 rfl)) (mvT hZ (W 32 rfl)) (mvT hZ (W 33 rfl)) (mvT hZ (W 34 rfl)) (mvT hZ (W 35 rfl)) (mvT hZ (W 36 rfl)) (mvT hZ (W 37 rfl)) (by decide) (backOf (W := 0) (rm6k4 l Z a0 hw [] b402 (4 : Int32) b412 kb412 T427.heap n0 zs433 Fa427 Fb427 Fc427 f431 ge_b402 Vb427 gb412 nb412) hZ (W 38 rfl) (W 6 rfl) (by decide) (by decide)) q432a q432b q432c (g := (mkF m 57 #[iv (5 : Int32), rv b402] [.null, (.ref b402)])) rfl (by rw [hml]; rfl) (Steps.refl _) (argsL := [.null]) (rest := []) (lenOf pd94 rfl) rfl (by show 2 * 0 + _ ≤ _; exact Nat.le_of_eq rfl) (hb hby d1_57) (fun _ _ => ⟨rfl, rfl, (by decide : 2 + 0 ≤ _), (by decide : 13 + 0 ≤ _)⟩)
  dsimp only [Pt.U, Pt.locs, Pt.cells, Pt.slots] at X432 l432 y432 z432 st432 hQ432
  subst l432 y432 z432
  obtain ⟨rfl, Nq432, K432, Fa432, Fb432, Fc432, Vb432⟩ := hQ432
  have N432 := Fr.app N427 Nq432
  have go434 : own_S p e below ST T432 (mkF m 62 #[iv (5 : Int32), rv b402] [(.int (1 : Int32))]) := fun tt kt => go430 tt (st432.trans kt)
  have KC432 : Keep h0 T432.heap [] := KC427.trans K432 (allS (Or.inr sz_b402) (allS (Or.inr (Nat.le_trans KC406.1 zb412)) all0))
  have go435 : own_S p e below ST T432 (mkF m 64 #[iv (5 : Int32), rv b402] [(.ref b402)]) := fun tt kt => go434 tt (by
      refine XS.pop X432.here hx rfl (hb hby d1_62) rfl rfl ?_
      refine XS.aloadN X432.here hx rfl (hb hby d1_63) rfl rfl ?_
      exact kt)
  have f436 := (f431.keep K432)
  obtain ⟨fs, hr, hrun, hended, hW, hsame⟩ := X432.leave (v := some (.ref b402)) (fun h => by rw [Bd.returns] at h; cases h)
  refine ⟨_, _, pre0 _ (go435 _ ?_), hrun, hended, _, _, rfl, ?_, ⟨_, rfl⟩, hW, hsame.mono (by decide) (by decide)⟩
  · exact retOut X432 hx Bd.returns rfl (Or.inr (Or.inr (Or.inr (Or.inr ⟨rfl, rfl, rfl⟩)))) (hb hby d1_64) hr
  · show Q1k5 Z ad kd h0 n0 _ T432.heap _
    exact ⟨b402, rfl, N432, KC432, f436, Fc432, ge_b402, sz_b402⟩
theorem pn123 : plainName "com/example/inscribe/inscribe/geometry/BoundaryOrder" = true := by first | (simp [plainName, overriddenIn]; done) | decide +kernel
theorem d11_0 : decode prog_27_method_1_code 0 = .ok (.aload_n 0, 1) := by decide +kernel
theorem d11_1 : decode prog_27_method_1_code 1 = .ok (.invokespecial 1, 3) := by decide +kernel
theorem d11_4 : decode prog_27_method_1_code 4 = .ok (.aload_n 0, 1) := by decide +kernel
theorem d11_5 : decode prog_27_method_1_code 5 = .ok (.aload_n 1, 1) := by decide +kernel
theorem d11_6 : decode prog_27_method_1_code 6 = .ok (.putfield 7, 3) := by decide +kernel
theorem d11_9 : decode prog_27_method_1_code 9 = .ok (.aload_n 0, 1) := by decide +kernel
theorem d11_10 : decode prog_27_method_1_code 10 = .ok (.iload_n 2, 1) := by decide +kernel
theorem d11_11 : decode prog_27_method_1_code 11 = .ok (.putfield 13, 3) := by decide +kernel
theorem d11_14 : decode prog_27_method_1_code 14 = .ok (.aload_n 0, 1) := by decide +kernel
theorem d11_15 : decode prog_27_method_1_code 15 = .ok (.iload_n 3, 1) := by decide +kernel
theorem d11_16 : decode prog_27_method_1_code 16 = .ok (.putfield 17, 3) := by decide +kernel
theorem d11_19 : decode prog_27_method_1_code 19 = .ok (.return_, 1) := by decide +kernel
theorem ef11 (m : MethodId) (x0 : Addr) (x1 : Addr) (x2 : Int32) (x3 : Int32) : entryFrame m #[(.ref x0), (.ref x1), (.int x2), (.int x3)] 4 = mkF m 0 #[.val (.ref x0), .val (.ref x1), .val (.int x2), .val (.int x3)] [] := by first | (simp [entryFrame, mkF, argsToLocals, Value.category]; done) | rfl
def Q11 (Z : State) (o1 : Addr) (o2 : Addr) (p1 : Int32) (p2 : Int32) (h0 : Heap) (n0 : Nat) (v : Option Value) (h : Heap) (L : List Loc) : Prop := v = none ∧ Fr n0 L ∧ Keep h0 h [o1] ∧ Fld Z h o1 "com/example/inscribe/inscribe/geometry/BoundaryOrder" "sides" "Ljava/util/List;" (.ref o2) ∧ Fld Z h o1 "com/example/inscribe/inscribe/geometry/BoundaryOrder" "start" "I" (.int p1) ∧ Fld Z h o1 "com/example/inscribe/inscribe/geometry/BoundaryOrder" "forward" "Z" (.int (nar .boolean p2))
set_option maxRecDepth 65536 in
set_option maxHeartbeats 40000000 in
theorem rm11 (l : Launch) (Z : State) (a0 : Array Value) (hw : ∀ d ∈ tables_1, d.before a0 Z = true) (ws : List Jvm.Cond) (o1 : Addr) (o2 : Addr) (p1 : Int32) (p2 : Int32) (h0 : Heap) (n0 : Nat) (Z0 : n0 ≤ h0.size) (F1 : Fld Z h0 o1 "com/example/inscribe/inscribe/geometry/BoundaryOrder" "sides" "Ljava/util/List;" .null) (F2 : Fld Z h0 o1 "com/example/inscribe/inscribe/geometry/BoundaryOrder" "start" "I" (.int (0 : Int32))) (F3 : Fld Z h0 o1 "com/example/inscribe/inscribe/geometry/BoundaryOrder" "forward" "Z" (.int (0 : Int32))) (E1 : Exa Z h0 o1 "com/example/inscribe/inscribe/geometry/BoundaryOrder") (g1 : n0 ≤ o1) :
    MetFree l (⟨"com/example/inscribe/inscribe/geometry/BoundaryOrder", "<init>", "(Ljava/util/List;IZ)V"⟩ : MethodName) (head1 (Jvm.Cond.code (⟨"com/example/inscribe/inscribe/geometry/BoundaryOrder", "<init>", "(Ljava/util/List;IZ)V"⟩ : MethodName) prog_27_method_1_code 4 none :: ws) ({ frames := 1, cells := 0, slots := 0, locals := 12 } : Room)) (fun aa UU => aa = #[(.ref o1), (.ref o2), (.int p1), (.int p2)] ∧ Z.Warmed39 UU.vm ∧ UU.heap = h0) (fun _ _ _ _ _ => True) (fun _ UU oo UU' => ∃ vv LL, oo = .returned vv ∧ Q11 Z o1 o2 p1 p2 h0 n0 vv UU'.heap LL ∧ FrameEnd UU oo UU' LL ({ frames := 1, cells := 0, slots := 0, locals := 12 } : Room).cells ({ frames := 1, cells := 0, slots := 0, locals := 12 } : Room).slots) := by
  have W : ∀ {d : Jvm.Cond} (i : Nat), tables_1[i]? = some d → d.before a0 Z = true := fun i h => hw _ (List.mem_of_getElem? h)
  refine MetFree.of_bodySF (plainFor_of_name pn123) hisR ?_
  intro p e s m args below meth c s₁ Bd hml0 hP hK
  obtain ⟨rfl, hZ, hh⟩ := hP
  have hx := Bd.exec
  have hby := Bd.bytes
  have hml : c.maxLocals = 4 := hml0
  have hown : s.vm.findClass "com/example/inscribe/inscribe/geometry/BoundaryOrder" = some m.cls := findClass_of_methodNamed Bd.named
  have hnm := (name_of_methodNamed Bd.named Bd.method).1
  have X0 : Stand p l e ({ frames := 1, cells := 0, slots := 0, locals := 12 } : Room) s m #[(.ref o1), (.ref o2), (.int p1), (.int p2)] below meth c s₁ [] 0 0 := Stand.of_body Bd
  have e0 : s₁.heap = h0 := by rw [← hh, Bd.state]; rfl
  have N0 := Fr.nil n0
  have pre0 : ∀ tt, Steps p.tables e below (s₁.setTop (mkF m 0 #[rv o1, rv o2, iv p1, iv p2] [])) tt → Steps p.tables e below (s₁.setTop (entryFrame m #[(.ref o1), (.ref o2), (.int p1), (.int p2)] 4)) tt := fun tt kt => castTop (ef11 m o1 o2 p1 p2) kt
  obtain ⟨ST, hST⟩ : ∃ z : State, z = s₁.setTop (mkF m 0 #[rv o1, rv o2, iv p1, iv p2] []) := ⟨_, rfl⟩
  rw [← hST] at pre0
  have KC0 : Keep h0 h0 [o1] := Keep.refl h0 [o1]
  have go437 : own_S p e below ST s₁ (mkF m 1 #[rv o1, rv o2, iv p1, iv p2] [(.ref o1)]) := fun tt kt => (by
      rw [hST]
      show Steps p.tables e below (s₁.setTop (mkF m 0 #[rv o1, rv o2, iv p1, iv p2] [])) _
      refine XS.aloadN X0.here hx rfl (hb hby d11_0) rfl rfl ?_
      exact kt)
  obtain ⟨T438, X438, e438, st438⟩ := initO X0 hx hZ hown (W 71 rfl) (W 23 rfl) (W 24 rfl) e0 (g := (mkF m 1 #[rv o1, rv o2, iv p1, iv p2] [(.ref o1)])) rfl (by rw [hml]; rfl) rfl (hb hby d11_1) (by decide) (W := 0) (by show 2 * 0 + _ ≤ _; exact Nat.le_of_eq rfl) (by decide)
  have go439 : own_S p e below ST T438 (mkF m 4 #[rv o1, rv o2, iv p1, iv p2] []) := fun tt kt => go437 tt (st438 _ kt)
  have go440 : own_S p e below ST T438 (mkF m 6 #[rv o1, rv o2, iv p1, iv p2] [(.ref o2), (.ref o1)]) := fun tt kt => go439 tt (by
      refine XS.aloadN X438.here hx rfl (hb hby d11_4) rfl rfl ?_
      refine XS.aloadN X438.here hx rfl (hb hby d11_5) rfl rfl ?_
      exact kt)
  obtain ⟨T441, h441, X441, e441, W441, st441⟩ := putF X438 hx hZ hown (host := "") (Or.inl (W 72 rfl)) Via.refl e438 F1 E1 (Or.inr ⟨(W 73 rfl), rfl, hnm⟩) (W 66 rfl) (ty := (.object "java/util/List")) (by decide) rfl rfl (g := (mkF m 6 #[rv o1, rv o2, iv p1, iv p2] [(.ref o2), (.ref o1)])) rfl rfl (hb hby d11_6)
  have Fw441 := F1.same W441
  have N441 := Fr.snoc X441 N0 g1
  have go442 : own_S p e below ST T441 (mkF m 9 #[rv o1, rv o2, iv p1, iv p2] []) := fun tt kt => go440 tt (st441 _ kt)
  have KC441 : Keep h0 h441 [o1] := KC0.wr W441 (Or.inl (List.mem_of_getElem? (i := 0) rfl))
  have go443 : own_S p e below ST T441 (mkF m 11 #[rv o1, rv o2, iv p1, iv p2] [(.int p1), (.ref o1)]) := fun tt kt => go442 tt (by
      refine XS.aloadN X441.here hx rfl (hb hby d11_9) rfl rfl ?_
      refine XS.iloadN X441.here hx rfl (hb hby d11_10) rfl ?_
      exact kt)
  have f445 := (F2.other W441 (Or.inr (slot_ne (Or.inr (W 75 rfl)) (Or.inr (W 73 rfl)) (by decide) (t := .int) (t' := (.object "java/util/List")) (by decide) (by decide))))
  have f446 := (E1.wr W441)
  obtain ⟨T444, h444, X444, e444, W444, st444⟩ := putF X441 hx hZ hown (host := "") (Or.inl (W 74 rfl)) Via.refl e441 f445 f446 (Or.inr ⟨(W 75 rfl), rfl, hnm⟩) (W 66 rfl) (ty := .int) (by decide) rfl rfl (g := (mkF m 11 #[rv o1, rv o2, iv p1, iv p2] [(.int p1), (.ref o1)])) rfl rfl (hb hby d11_11)
  have Fw444 := f445.same W444
  have N444 := Fr.snoc X444 N441 g1
  have go447 : own_S p e below ST T444 (mkF m 14 #[rv o1, rv o2, iv p1, iv p2] []) := fun tt kt => go443 tt (st444 _ kt)
  have KC444 : Keep h0 h444 [o1] := KC441.wr W444 (Or.inl (List.mem_of_getElem? (i := 0) rfl))
  have go448 : own_S p e below ST T444 (mkF m 16 #[rv o1, rv o2, iv p1, iv p2] [(.int p2), (.ref o1)]) := fun tt kt => go447 tt (by
      refine XS.aloadN X444.here hx rfl (hb hby d11_14) rfl rfl ?_
      refine XS.iloadN X444.here hx rfl (hb hby d11_15) rfl ?_
      exact kt)
  have f450 := ((F3.other W441 (Or.inr (slot_ne (Or.inr (W 77 rfl)) (Or.inr (W 73 rfl)) (by decide) (t := .boolean) (t' := (.object "java/util/List")) (by decide) (by decide)))).other W444 (Or.inr (slot_ne (Or.inr (W 77 rfl)) (Or.inr (W 75 rfl)) (by decide) (t := .boolean) (t' := .int) (by decide) (by decide))))
  have f451 := (f446.wr W444)
  obtain ⟨T449, h449, X449, e449, W449, st449⟩ := putFN X444 hx hZ hown (W 76 rfl) Via.refl e444 f450 f451 (Or.inr ⟨(W 77 rfl), rfl, hnm⟩) (W 66 rfl) (ty := .boolean) (v' := (.int (nar .boolean p2))) (by decide) rfl (fits_nar_bool _) (g := (mkF m 16 #[rv o1, rv o2, iv p1, iv p2] [(.int p2), (.ref o1)])) rfl rfl (hb hby d11_16)
  have Fw449 := f450.same W449
  have N449 := Fr.snoc X449 N444 g1
  have go452 : own_S p e below ST T449 (mkF m 19 #[rv o1, rv o2, iv p1, iv p2] []) := fun tt kt => go448 tt (st449 _ kt)
  have KC449 : Keep h0 h449 [o1] := KC444.wr W449 (Or.inl (List.mem_of_getElem? (i := 0) rfl))
  have f453 := ((Fw441.other W444 (Or.inr (slot_ne (Or.inr (W 73 rfl)) (Or.inr (W 75 rfl)) (by decide) (t := (.object "java/util/List")) (t' := .int) (by decide) (by decide)))).other W449 (Or.inr (slot_ne (Or.inr (W 73 rfl)) (Or.inr (W 77 rfl)) (by decide) (t := (.object "java/util/List")) (t' := .boolean) (by decide) (by decide))))
  have f454 := (Fw444.other W449 (Or.inr (slot_ne (Or.inr (W 75 rfl)) (Or.inr (W 77 rfl)) (by decide) (t := .int) (t' := .boolean) (by decide) (by decide))))
  obtain ⟨fs, hr, hrun, hended, hW, hsame⟩ := X449.leave (v := none) (fun _ => rfl)
  refine ⟨_, _, pre0 _ (go452 _ ?_), hrun, hended, _, _, rfl, ?_, ⟨_, rfl⟩, hW, hsame.mono (by decide) (by decide)⟩
  · exact X449.returnOut hx Bd.returns (hb hby d11_19) hr
  · show Q11 Z o1 o2 p1 p2 h0 n0 _ T449.heap _
    rw [e449]
    exact ⟨rfl, N449, KC449, f453, f454, Fw449⟩
theorem d12_0 : decode prog_27_method_2_code 0 = .ok (.new 8, 3) := by decide +kernel
theorem d12_3 : decode prog_27_method_2_code 3 = .ok (.dup, 1) := by decide +kernel
theorem d12_4 : decode prog_27_method_2_code 4 = .ok (.aload_n 1, 1) := by decide +kernel
theorem d12_5 : decode prog_27_method_2_code 5 = .ok (.aload_n 0, 1) := by decide +kernel
theorem d12_6 : decode prog_27_method_2_code 6 = .ok (.getfield 13, 3) := by decide +kernel
theorem d12_9 : decode prog_27_method_2_code 9 = .ok (.aload_n 0, 1) := by decide +kernel
theorem d12_10 : decode prog_27_method_2_code 10 = .ok (.getfield 17, 3) := by decide +kernel
theorem d12_13 : decode prog_27_method_2_code 13 = .ok (.ifCond .ne 7, 3) := by decide +kernel
theorem d12_16 : decode prog_27_method_2_code 16 = .ok (.iconst 1, 1) := by decide +kernel
theorem d12_17 : decode prog_27_method_2_code 17 = .ok (.goto 4, 3) := by decide +kernel
theorem d12_20 : decode prog_27_method_2_code 20 = .ok (.iconst 0, 1) := by decide +kernel
theorem d12_21 : decode prog_27_method_2_code 21 = .ok (.invokespecial 21, 3) := by decide +kernel
theorem pd148 : parseMethodDescriptor "(Ljava/util/List;IZ)V" = some ⟨[(.object "java/util/List"), .int, .boolean], none⟩ := by decide +kernel
theorem d12_24 : decode prog_27_method_2_code 24 = .ok (.areturn, 1) := by decide +kernel
theorem ef12 (m : MethodId) (x0 : Addr) (x1 : Addr) : entryFrame m #[(.ref x0), (.ref x1)] 2 = mkF m 0 #[.val (.ref x0), .val (.ref x1)] [] := by first | (simp [entryFrame, mkF, argsToLocals, Value.category]; done) | rfl
def Q12 (Z : State) (o1 : Addr) (o2 : Addr) (st : Int32) (fw : Int32) (h0 : Heap) (n0 : Nat) (v : Option Value) (h : Heap) (L : List Loc) : Prop := ∃ b : Addr, v = some (.ref b) ∧ Fr n0 L ∧ Keep h0 h [] ∧ Exa Z h b "com/example/inscribe/inscribe/geometry/BoundaryOrder" ∧ Fld Z h b "com/example/inscribe/inscribe/geometry/BoundaryOrder" "sides" "Ljava/util/List;" (.ref o2) ∧ Fld Z h b "com/example/inscribe/inscribe/geometry/BoundaryOrder" "start" "I" (.int st) ∧ Fld Z h b "com/example/inscribe/inscribe/geometry/BoundaryOrder" "forward" "Z" (.int (own_not fw)) ∧ h0.size ≤ b
set_option maxRecDepth 65536 in
set_option maxHeartbeats 40000000 in
theorem rm12 (l : Launch) (Z : State) (a0 : Array Value) (hw : ∀ d ∈ tables_1, d.before a0 Z = true) (ws : List Jvm.Cond) (o1 : Addr) (o2 : Addr) (st : Int32) (fw : Int32) (h0 : Heap) (n0 : Nat) (Z0 : n0 ≤ h0.size) (F2 : Fld Z h0 o1 "com/example/inscribe/inscribe/geometry/BoundaryOrder" "start" "I" (.int st)) (F3 : Fld Z h0 o1 "com/example/inscribe/inscribe/geometry/BoundaryOrder" "forward" "Z" (.int fw)) :
    MetFree l (⟨"com/example/inscribe/inscribe/geometry/BoundaryOrder", "mirrored", "(Ljava/util/List;)Lcom/example/inscribe/inscribe/geometry/BoundaryOrder;"⟩ : MethodName) (head1 (Jvm.Cond.code (⟨"com/example/inscribe/inscribe/geometry/BoundaryOrder", "mirrored", "(Ljava/util/List;)Lcom/example/inscribe/inscribe/geometry/BoundaryOrder;"⟩ : MethodName) prog_27_method_2_code 2 (some (.object "com/example/inscribe/inscribe/geometry/BoundaryOrder")) :: ws) ({ frames := 2, cells := 1, slots := 3, locals := 28 } : Room)) (fun aa UU => aa = #[(.ref o1), (.ref o2)] ∧ Z.Warmed39 UU.vm ∧ UU.heap = h0) (fun _ _ _ _ _ => True) (fun _ UU oo UU' => ∃ vv LL, oo = .returned vv ∧ Q12 Z o1 o2 st fw h0 n0 vv UU'.heap LL ∧ FrameEnd UU oo UU' LL ({ frames := 2, cells := 1, slots := 3, locals := 28 } : Room).cells ({ frames := 2, cells := 1, slots := 3, locals := 28 } : Room).slots) := by
  have W : ∀ {d : Jvm.Cond} (i : Nat), tables_1[i]? = some d → d.before a0 Z = true := fun i h => hw _ (List.mem_of_getElem? h)
  refine MetFree.of_bodySF (plainFor_of_name pn123) hisR ?_
  intro p e s m args below meth c s₁ Bd hml0 hP hK
  obtain ⟨rfl, hZ, hh⟩ := hP
  have hx := Bd.exec
  have hby := Bd.bytes
  have hml : c.maxLocals = 2 := hml0
  have hown : s.vm.findClass "com/example/inscribe/inscribe/geometry/BoundaryOrder" = some m.cls := findClass_of_methodNamed Bd.named
  have hnm := (name_of_methodNamed Bd.named Bd.method).1
  have X0 : Stand p l e ({ frames := 2, cells := 1, slots := 3, locals := 28 } : Room) s m #[(.ref o1), (.ref o2)] below meth c s₁ [] 0 0 := Stand.of_body Bd
  have e0 : s₁.heap = h0 := by rw [← hh, Bd.state]; rfl
  have N0 := Fr.nil n0
  have pre0 : ∀ tt, Steps p.tables e below (s₁.setTop (mkF m 0 #[rv o1, rv o2] [])) tt → Steps p.tables e below (s₁.setTop (entryFrame m #[(.ref o1), (.ref o2)] 2)) tt := fun tt kt => castTop (ef12 m o1 o2) kt
  obtain ⟨ST, hST⟩ : ∃ z : State, z = s₁.setTop (mkF m 0 #[rv o1, rv o2] []) := ⟨_, rfl⟩
  rw [← hST] at pre0
  have KC0 : Keep h0 h0 [] := Keep.refl h0 []
  obtain ⟨b455, g455⟩ : ∃ z, z = h0.size := ⟨_, rfl⟩
  obtain ⟨T455, h455, X455, e455, E455, A455, D455, -, st455⟩ := newO X0 hx hZ hown (W 83 rfl) (W 66 rfl) (W 67 rfl) e0 (g := (mkF m 0 #[rv o1, rv o2] [])) rfl (hb hby d12_0) (by decide) (by decide)
  rw [← g455] at A455 D455 st455
  have neo1_b455 : o1 ≠ b455 := Nat.ne_of_lt (Nat.lt_of_lt_of_le F2.lt (Nat.le_of_eq g455.symm))
  have ge_b455 : n0 ≤ b455 := Nat.le_trans Z0 (Nat.le_of_eq g455.symm)
  have sz_b455 : h0.size ≤ b455 := Nat.le_trans KC0.1 (Nat.le_of_eq g455.symm)
  have F455_sides : Fld Z h455 b455 "com/example/inscribe/inscribe/geometry/BoundaryOrder" "sides" "Ljava/util/List;" .null := D455 (Or.inr (W 73 rfl)) (ty := (.object "java/util/List")) (by decide)
  have F455_start : Fld Z h455 b455 "com/example/inscribe/inscribe/geometry/BoundaryOrder" "start" "I" (.int (0 : Int32)) := D455 (Or.inr (W 75 rfl)) (ty := .int) (by decide)
  have F455_forward : Fld Z h455 b455 "com/example/inscribe/inscribe/geometry/BoundaryOrder" "forward" "Z" (.int (0 : Int32)) := D455 (Or.inr (W 77 rfl)) (ty := .boolean) (by decide)
  have KC455 : Keep h0 h455 [] := KC0.ext E455
  have go456 : own_S p e below ST T455 (mkF m 3 #[rv o1, rv o2] [(.ref b455)]) := fun tt kt => (by rw [hST]; exact st455 _ kt)
  have go457 : own_S p e below ST T455 (mkF m 6 #[rv o1, rv o2] [(.ref o1), (.ref o2), (.ref b455), (.ref b455)]) := fun tt kt => go456 tt (by
      refine XS.dup X455.here hx rfl (hb hby d12_3) rfl rfl ?_
      refine XS.aloadN X455.here hx rfl (hb hby d12_4) rfl rfl ?_
      refine XS.aloadN X455.here hx rfl (hb hby d12_5) rfl rfl ?_
      exact kt)
  have f458 := (F2.ext E455)
  obtain ⟨T459, X459, e459, st459⟩ := getF X455 hx hZ hown (host := "") (Or.inl (W 74 rfl)) Via.refl e455 f458 (g := (mkF m 6 #[rv o1, rv o2] [(.ref o1), (.ref o2), (.ref b455), (.ref b455)])) rfl rfl (hb hby d12_6)
  have go460 : own_S p e below ST T459 (mkF m 9 #[rv o1, rv o2] [(.int st), (.ref o2), (.ref b455), (.ref b455)]) := fun tt kt => go457 tt (st459 _ kt)
  have go461 : own_S p e below ST T459 (mkF m 10 #[rv o1, rv o2] [(.ref o1), (.int st), (.ref o2), (.ref b455), (.ref b455)]) := fun tt kt => go460 tt (by
      refine XS.aloadN X459.here hx rfl (hb hby d12_9) rfl rfl ?_
      exact kt)
  have f462 := (F3.ext E455)
  obtain ⟨T463, X463, e463, st463⟩ := getF X459 hx hZ hown (host := "") (Or.inl (W 76 rfl)) Via.refl e459 f462 (g := (mkF m 10 #[rv o1, rv o2] [(.ref o1), (.int st), (.ref o2), (.ref b455), (.ref b455)])) rfl rfl (hb hby d12_10)
  have go464 : own_S p e below ST T463 (mkF m 13 #[rv o1, rv o2] [(.int fw), (.int st), (.ref o2), (.ref b455), (.ref b455)]) := fun tt kt => go461 tt (st463 _ kt)
  obtain ⟨nf, hnf, sg465⟩ : ∃ (nf : Int32), nf = (if fw = (0 : Int32) then (1 : Int32) else (0 : Int32)) ∧ ∀ tt, Steps p.tables e below (T463.setTop (mkF m 21 #[rv o1, rv o2] [(.int nf), (.int st), (.ref o2), (.ref b455), (.ref b455)])) tt → Steps p.tables e below (T463.setTop (mkF m 13 #[rv o1, rv o2] [(.int fw), (.int st), (.ref o2), (.ref b455), (.ref b455)])) tt := by
    by_cases hd13_0 : fw = (0 : Int32)
    · refine ⟨_, (if_pos hd13_0).symm, fun tt kt => ?_⟩
      show Steps p.tables e below (T463.setTop (mkF m 13 #[rv o1, rv o2] [(.int fw), (.int st), (.ref o2), (.ref b455), (.ref b455)])) _
      refine XS.ifNo X463.here hx rfl (hb hby d12_13) rfl ((if0 _ _).trans (teq hd13_0).2) ?_
      refine XS.iconst X463.here hx rfl (hb hby d12_16) ?_
      refine XS.goto X463.here hx rfl (pc0 := 17) (pc' := 21) rfl (hb hby d12_17) (by decide) (by decide) ?_
      exact kt
    · refine ⟨_, (if_neg hd13_0).symm, fun tt kt => ?_⟩
      show Steps p.tables e below (T463.setTop (mkF m 13 #[rv o1, rv o2] [(.int fw), (.int st), (.ref o2), (.ref b455), (.ref b455)])) _
      refine XS.ifYes X463.here hx rfl (pc0 := 13) (pc' := 20) rfl (hb hby d12_13) rfl ((if0 _ _).trans (feq hd13_0).2) (by decide) (by decide) ?_
      refine XS.iconst X463.here hx rfl (hb hby d12_20) ?_
      exact kt
  have go466 : own_S p e below ST T463 (mkF m 21 #[rv o1, rv o2] [(.int nf), (.int st), (.ref o2), (.ref b455), (.ref b455)]) := fun tt kt => go464 tt (sg465 _ kt)
  subst hnf
  have zs468 := (Nat.le_trans Z0 E455.1)
  obtain ⟨_, _, ⟨T467, L467, k467, n467⟩, -, X467, ⟨Lc467, hQ467, l467, y467, z467⟩, st467⟩ := X463.specialBack hx (y := (⟨"com/example/inscribe/inscribe/geometry/BoundaryOrder", "<init>", "(Ljava/util/List;IZ)V"⟩ : MethodName)) rfl hown (mvT hZ (W 84 rfl)) (mvT hZ (W 69 rfl)) (mvT hZ (W 70 rfl)) (by decide) (backOf (W := 1) (rm11 l Z a0 hw [] b455 o2 st (if fw = (0 : Int32) then (1 : Int32) else (0 : Int32)) h455 n0 zs468 F455_sides F455_start F455_forward A455 ge_b455) hZ (W 70 rfl) (W 67 rfl) (by decide) (by decide)) (g := (mkF m 21 #[rv o1, rv o2] [(.int (if fw = (0 : Int32) then (1 : Int32) else (0 : Int32))), (.int st), (.ref o2), (.ref b455), (.ref b455)])) rfl (by rw [hml]; rfl) (Steps.refl _) (a := b455) (argsL := [(.ref o2), (.int st), (.int (if fw = (0 : Int32) then (1 : Int32) else (0 : Int32)))]) (rest := [(.ref b455)]) (lenOf pd148 rfl) rfl (by show 2 * 0 + _ ≤ _; exact Nat.le_of_eq rfl) (hb hby d12_21) (fun _ _ => ⟨rfl, e463, (by decide : 1 + 0 ≤ _), (by decide : 3 + 0 ≤ _)⟩)
  dsimp only [Pt.U, Pt.locs, Pt.cells, Pt.slots] at X467 l467 y467 z467 st467 hQ467
  subst l467 y467 z467
  obtain ⟨rfl, Nq467, K467, Fa467, Fb467, Fc467⟩ := hQ467
  have N467 := Fr.app N0 Nq467
  have go469 : own_S p e below ST T467 (mkF m 24 #[rv o1, rv o2] [(.ref b455)]) := fun tt kt => go466 tt (st467.trans kt)
  have KC467 : Keep h0 T467.heap [] := KC455.trans K467 (allS (Or.inr sz_b455) all0)
  have f470 := (A455.keep K467)
  obtain ⟨fs, hr, hrun, hended, hW, hsame⟩ := X467.leave (v := some (.ref b455)) (fun h => by rw [Bd.returns] at h; cases h)
  refine ⟨_, _, pre0 _ (go469 _ ?_), hrun, hended, _, _, rfl, ?_, ⟨_, rfl⟩, hW, hsame.mono (by decide) (by decide)⟩
  · exact retOut X467 hx Bd.returns rfl (Or.inr (Or.inr (Or.inr (Or.inr ⟨rfl, rfl, rfl⟩)))) (hb hby d12_24) hr
  · show Q12 Z o1 o2 st fw h0 n0 _ T467.heap _
    exact ⟨b455, rfl, N467, KC467, f470, Fa467, Fb467, Fc467, sz_b455⟩
theorem d15_0 : decode jdk_38_method_8_code 0 = .ok (.aload_n 0, 1) := by decide +kernel
theorem d15_1 : decode jdk_38_method_8_code 1 = .ok (.getfield 48, 3) := by decide +kernel
theorem d15_4 : decode jdk_38_method_8_code 4 = .ok (.ireturn, 1) := by decide +kernel
theorem ef15 (m : MethodId) (x0 : Addr) : entryFrame m #[(.ref x0)] 1 = mkF m 0 #[.val (.ref x0)] [] := by first | (simp [entryFrame, mkF, argsToLocals, Value.category]; done) | rfl
def Q15 (Z : State) (o1 : Addr) (sz : Int32) (h0 : Heap) (n0 : Nat) (v : Option Value) (h : Heap) (L : List Loc) : Prop := v = some (.int sz) ∧ Fr n0 L ∧ h = h0
set_option maxRecDepth 65536 in
set_option maxHeartbeats 40000000 in
theorem rm15 (l : Launch) (Z : State) (a0 : Array Value) (hw : ∀ d ∈ tables_1, d.before a0 Z = true) (ws : List Jvm.Cond) (o1 : Addr) (sz : Int32) (h0 : Heap) (n0 : Nat) (Z0 : n0 ≤ h0.size) (F1 : Fld Z h0 o1 "java/util/ArrayList" "size" "I" (.int sz)) :
    MetFree l (⟨"java/util/ArrayList", "size", "()I"⟩ : MethodName) (head1 (Jvm.Cond.code (⟨"java/util/ArrayList", "size", "()I"⟩ : MethodName) jdk_38_method_8_code 1 (some .int) :: ws) ({ frames := 0, cells := 0, slots := 0, locals := 0 } : Room)) (fun aa UU => aa = #[(.ref o1)] ∧ Z.Warmed39 UU.vm ∧ UU.heap = h0) (fun _ _ _ _ _ => True) (fun _ UU oo UU' => ∃ vv LL, oo = .returned vv ∧ Q15 Z o1 sz h0 n0 vv UU'.heap LL ∧ FrameEnd UU oo UU' LL ({ frames := 0, cells := 0, slots := 0, locals := 0 } : Room).cells ({ frames := 0, cells := 0, slots := 0, locals := 0 } : Room).slots) := by
  have W : ∀ {d : Jvm.Cond} (i : Nat), tables_1[i]? = some d → d.before a0 Z = true := fun i h => hw _ (List.mem_of_getElem? h)
  refine MetFree.of_bodySF (plainFor_of_name pn12) hisR ?_
  intro p e s m args below meth c s₁ Bd hml0 hP hK
  obtain ⟨rfl, hZ, hh⟩ := hP
  have hx := Bd.exec
  have hby := Bd.bytes
  have hml : c.maxLocals = 1 := hml0
  have hown : s.vm.findClass "java/util/ArrayList" = some m.cls := findClass_of_methodNamed Bd.named
  have hnm := (name_of_methodNamed Bd.named Bd.method).1
  have X0 : Stand p l e ({ frames := 0, cells := 0, slots := 0, locals := 0 } : Room) s m #[(.ref o1)] below meth c s₁ [] 0 0 := Stand.of_body Bd
  have e0 : s₁.heap = h0 := by rw [← hh, Bd.state]; rfl
  have N0 := Fr.nil n0
  have pre0 : ∀ tt, Steps p.tables e below (s₁.setTop (mkF m 0 #[rv o1] [])) tt → Steps p.tables e below (s₁.setTop (entryFrame m #[(.ref o1)] 1)) tt := fun tt kt => castTop (ef15 m o1) kt
  obtain ⟨ST, hST⟩ : ∃ z : State, z = s₁.setTop (mkF m 0 #[rv o1] []) := ⟨_, rfl⟩
  rw [← hST] at pre0
  have go471 : own_S p e below ST s₁ (mkF m 1 #[rv o1] [(.ref o1)]) := fun tt kt => (by
      rw [hST]
      show Steps p.tables e below (s₁.setTop (mkF m 0 #[rv o1] [])) _
      refine XS.aloadN X0.here hx rfl (hb hby d15_0) rfl rfl ?_
      exact kt)
  obtain ⟨T472, X472, e472, st472⟩ := getF X0 hx hZ hown (host := "") (Or.inl (W 41 rfl)) Via.refl e0 F1 (g := (mkF m 1 #[rv o1] [(.ref o1)])) rfl rfl (hb hby d15_1)
  have go473 : own_S p e below ST T472 (mkF m 4 #[rv o1] [(.int sz)]) := fun tt kt => go471 tt (st472 _ kt)
  obtain ⟨fs, hr, hrun, hended, hW, hsame⟩ := X472.leave (v := some (.int sz)) (fun h => by rw [Bd.returns] at h; cases h)
  refine ⟨_, _, pre0 _ (go473 _ ?_), hrun, hended, _, _, rfl, ?_, ⟨_, rfl⟩, hW, hsame.mono (by decide) (by decide)⟩
  · exact retI X472 hx Bd.returns (hb hby d15_4) hr
  · show Q15 Z o1 sz h0 n0 _ T472.heap _
    rw [e472]
    exact ⟨rfl, N0, rfl⟩
theorem d16_0 : decode jdk_29_method_50_code 0 = .ok (.iload_n 0, 1) := by decide +kernel
theorem d16_1 : decode jdk_29_method_50_code 1 = .ok (.iload_n 1, 1) := by decide +kernel
theorem d16_2 : decode jdk_29_method_50_code 2 = .ok (.irem, 1) := by decide +kernel
theorem d16_3 : decode jdk_29_method_50_code 3 = .ok (.istore_n 2, 1) := by decide +kernel
theorem d16_4 : decode jdk_29_method_50_code 4 = .ok (.iload_n 0, 1) := by decide +kernel
theorem d16_5 : decode jdk_29_method_50_code 5 = .ok (.iload_n 1, 1) := by decide +kernel
theorem d16_6 : decode jdk_29_method_50_code 6 = .ok (.ixor, 1) := by decide +kernel
theorem d16_7 : decode jdk_29_method_50_code 7 = .ok (.ifCond .ge 11, 3) := by decide +kernel
theorem d16_10 : decode jdk_29_method_50_code 10 = .ok (.iload_n 2, 1) := by decide +kernel
theorem d16_11 : decode jdk_29_method_50_code 11 = .ok (.ifCond .eq 7, 3) := by decide +kernel
theorem d16_18 : decode jdk_29_method_50_code 18 = .ok (.iload_n 2, 1) := by decide +kernel
theorem d16_19 : decode jdk_29_method_50_code 19 = .ok (.ireturn, 1) := by decide +kernel
theorem d16_14 : decode jdk_29_method_50_code 14 = .ok (.iload_n 2, 1) := by decide +kernel
theorem d16_15 : decode jdk_29_method_50_code 15 = .ok (.iload_n 1, 1) := by decide +kernel
theorem d16_16 : decode jdk_29_method_50_code 16 = .ok (.iadd, 1) := by decide +kernel
theorem d16_17 : decode jdk_29_method_50_code 17 = .ok (.ireturn, 1) := by decide +kernel
theorem ef16 (m : MethodId) (x0 : Int32) (x1 : Int32) : entryFrame m #[(.int x0), (.int x1)] 3 = mkF m 0 #[.val (.int x0), .val (.int x1), .unset] [] := by first | (simp [entryFrame, mkF, argsToLocals, Value.category]; done) | rfl
def Q16 (Z : State) (x' : Int32) (y' : Int32) (h0 : Heap) (n0 : Nat) (v : Option Value) (h : Heap) (L : List Loc) : Prop := v = some (.int (own_fm x' y')) ∧ Fr n0 L ∧ h = h0
set_option maxRecDepth 65536 in
set_option maxHeartbeats 40000000 in
theorem rm16 (l : Launch) (Z : State) (a0 : Array Value) (hw : ∀ d ∈ tables_1, d.before a0 Z = true) (ws : List Jvm.Cond) (x' : Int32) (y' : Int32) (h0 : Heap) (n0 : Nat) (Z0 : n0 ≤ h0.size) (hy0 : y' ≠ 0) :
    MetFree l (⟨"java/lang/Math", "floorMod", "(II)I"⟩ : MethodName) (head1 (Jvm.Cond.code (⟨"java/lang/Math", "floorMod", "(II)I"⟩ : MethodName) jdk_29_method_50_code 3 (some .int) :: ws) ({ frames := 0, cells := 0, slots := 0, locals := 0 } : Room)) (fun aa UU => aa = #[(.int x'), (.int y')] ∧ Z.Warmed39 UU.vm ∧ UU.heap = h0) (fun _ _ _ _ _ => True) (fun _ UU oo UU' => ∃ vv LL, oo = .returned vv ∧ Q16 Z x' y' h0 n0 vv UU'.heap LL ∧ FrameEnd UU oo UU' LL ({ frames := 0, cells := 0, slots := 0, locals := 0 } : Room).cells ({ frames := 0, cells := 0, slots := 0, locals := 0 } : Room).slots) := by
  have W : ∀ {d : Jvm.Cond} (i : Nat), tables_1[i]? = some d → d.before a0 Z = true := fun i h => hw _ (List.mem_of_getElem? h)
  refine MetFree.of_bodySF (Jvm.Free.JP.mathPlain rfl (by decide +kernel)) hisR ?_
  intro p e s m args below meth c s₁ Bd hml0 hP hK
  obtain ⟨rfl, hZ, hh⟩ := hP
  have hx := Bd.exec
  have hby := Bd.bytes
  have hml : c.maxLocals = 3 := hml0
  have hown : s.vm.findClass "java/lang/Math" = some m.cls := findClass_of_methodNamed Bd.named
  have hnm := (name_of_methodNamed Bd.named Bd.method).1
  have X0 : Stand p l e ({ frames := 0, cells := 0, slots := 0, locals := 0 } : Room) s m #[(.int x'), (.int y')] below meth c s₁ [] 0 0 := Stand.of_body Bd
  have e0 : s₁.heap = h0 := by rw [← hh, Bd.state]; rfl
  have N0 := Fr.nil n0
  have pre0 : ∀ tt, Steps p.tables e below (s₁.setTop (mkF m 0 #[iv x', iv y', .unset] [])) tt → Steps p.tables e below (s₁.setTop (entryFrame m #[(.int x'), (.int y')] 3)) tt := fun tt kt => castTop (ef16 m x' y') kt
  obtain ⟨ST, hST⟩ : ∃ z : State, z = s₁.setTop (mkF m 0 #[iv x', iv y', .unset] []) := ⟨_, rfl⟩
  rw [← hST] at pre0
  have go474 : own_S p e below ST s₁ (mkF m 7 #[iv x', iv y', iv (x' % y')] [(.int (x' ^^^ y'))]) := fun tt kt => (by
      rw [hST]
      show Steps p.tables e below (s₁.setTop (mkF m 0 #[iv x', iv y', .unset] [])) _
      refine XS.iloadN X0.here hx rfl (hb hby d16_0) rfl ?_
      refine XS.iloadN X0.here hx rfl (hb hby d16_1) rfl ?_
      refine iremM (g := (mkF m 2 #[iv x', iv y', .unset] [(.int y'), (.int x')])) X0 hx rfl (hb hby d16_2) rfl hy0 ?_
      refine XS.istoreN X0.here hx rfl (hb hby d16_3) rfl (l' := #[iv x', iv y', iv (x' % y')]) rfl ?_
      refine XS.iloadN X0.here hx rfl (hb hby d16_4) rfl ?_
      refine XS.iloadN X0.here hx rfl (hb hby d16_5) rfl ?_
      show Steps p.tables e below (s₁.setTop (mkF m 6 #[iv x', iv y', iv (x' % y')] [(.int y'), (.int x')])) _
      refine XS.ixor X0.here hx rfl (hb hby d16_6) rfl ?_
      exact kt)
  by_cases c0 : (x' ^^^ y') < (0 : Int32)
  · have go475 : own_S p e below ST s₁ (mkF m 10 #[iv x', iv y', iv (x' % y')] []) := fun tt kt => go474 tt (by
        refine XS.ifNo X0.here hx rfl (hb hby d16_7) rfl ((if0 _ _).trans (tlt c0).2.1) ?_
        exact kt)
    have go476 : own_S p e below ST s₁ (mkF m 11 #[iv x', iv y', iv (x' % y')] [(.int (x' % y'))]) := fun tt kt => go475 tt (by
        refine XS.iloadN X0.here hx rfl (hb hby d16_10) rfl ?_
        exact kt)
    by_cases c1 : (x' % y') = (0 : Int32)
    · have go477 : own_S p e below ST s₁ (mkF m 18 #[iv x', iv y', iv (x' % y')] []) := fun tt kt => go476 tt (by
          refine XS.ifYes X0.here hx rfl (pc0 := 11) (pc' := 18) rfl (hb hby d16_11) rfl ((if0 _ _).trans (teq c1).1) (by decide) (by decide) ?_
          exact kt)
      have go478 : own_S p e below ST s₁ (mkF m 19 #[iv x', iv y', iv (x' % y')] [(.int (x' % y'))]) := fun tt kt => go477 tt (by
          refine XS.iloadN X0.here hx rfl (hb hby d16_18) rfl ?_
          exact kt)
      obtain ⟨fs, hr, hrun, hended, hW, hsame⟩ := X0.leave (v := some (.int (x' % y'))) (fun h => by rw [Bd.returns] at h; cases h)
      refine ⟨_, _, pre0 _ (go478 _ ?_), hrun, hended, _, _, rfl, ?_, ⟨_, rfl⟩, hW, hsame.mono (by decide) (by decide)⟩
      · exact retI X0 hx Bd.returns (hb hby d16_19) hr
      · show Q16 Z x' y' h0 n0 _ s₁.heap _
        rw [e0]
        exact ⟨(by rw [own_fm, if_pos c0, if_pos c1]), N0, rfl⟩
    · have go479 : own_S p e below ST s₁ (mkF m 14 #[iv x', iv y', iv (x' % y')] []) := fun tt kt => go476 tt (by
          refine XS.ifNo X0.here hx rfl (hb hby d16_11) rfl ((if0 _ _).trans (feq c1).1) ?_
          exact kt)
      have go480 : own_S p e below ST s₁ (mkF m 17 #[iv x', iv y', iv (x' % y')] [(.int ((x' % y') + y'))]) := fun tt kt => go479 tt (by
          refine XS.iloadN X0.here hx rfl (hb hby d16_14) rfl ?_
          refine XS.iloadN X0.here hx rfl (hb hby d16_15) rfl ?_
          refine XS.iadd X0.here hx rfl (hb hby d16_16) rfl ?_
          exact kt)
      obtain ⟨fs, hr, hrun, hended, hW, hsame⟩ := X0.leave (v := some (.int ((x' % y') + y'))) (fun h => by rw [Bd.returns] at h; cases h)
      refine ⟨_, _, pre0 _ (go480 _ ?_), hrun, hended, _, _, rfl, ?_, ⟨_, rfl⟩, hW, hsame.mono (by decide) (by decide)⟩
      · exact retI X0 hx Bd.returns (hb hby d16_17) hr
      · show Q16 Z x' y' h0 n0 _ s₁.heap _
        rw [e0]
        exact ⟨(by rw [own_fm, if_pos c0, if_neg c1]), N0, rfl⟩
  · have go481 : own_S p e below ST s₁ (mkF m 18 #[iv x', iv y', iv (x' % y')] []) := fun tt kt => go474 tt (by
        refine XS.ifYes X0.here hx rfl (pc0 := 7) (pc' := 18) rfl (hb hby d16_7) rfl ((if0 _ _).trans (flt c0).2.1) (by decide) (by decide) ?_
        exact kt)
    have go482 : own_S p e below ST s₁ (mkF m 19 #[iv x', iv y', iv (x' % y')] [(.int (x' % y'))]) := fun tt kt => go481 tt (by
        refine XS.iloadN X0.here hx rfl (hb hby d16_18) rfl ?_
        exact kt)
    obtain ⟨fs, hr, hrun, hended, hW, hsame⟩ := X0.leave (v := some (.int (x' % y'))) (fun h => by rw [Bd.returns] at h; cases h)
    refine ⟨_, _, pre0 _ (go482 _ ?_), hrun, hended, _, _, rfl, ?_, ⟨_, rfl⟩, hW, hsame.mono (by decide) (by decide)⟩
    · exact retI X0 hx Bd.returns (hb hby d16_19) hr
    · show Q16 Z x' y' h0 n0 _ s₁.heap _
      rw [e0]
      exact ⟨(by rw [own_fm, if_neg c0]), N0, rfl⟩
theorem pn169 : plainName "java/lang/Integer" = true := by first | (simp [plainName, overriddenIn]; done) | decide +kernel
theorem d17_0 : decode jdk_33_method_40_code 0 = .ok (.iload_n 0, 1) := by decide +kernel
theorem d17_1 : decode jdk_33_method_40_code 1 = .ok (.iload_n 1, 1) := by decide +kernel
theorem d17_2 : decode jdk_33_method_40_code 2 = .ok (.if_icmp .ge 7, 3) := by decide +kernel
theorem d17_5 : decode jdk_33_method_40_code 5 = .ok (.iconst (-1), 1) := by decide +kernel
theorem d17_6 : decode jdk_33_method_40_code 6 = .ok (.goto 13, 3) := by decide +kernel
theorem d17_9 : decode jdk_33_method_40_code 9 = .ok (.iload_n 0, 1) := by decide +kernel
theorem d17_10 : decode jdk_33_method_40_code 10 = .ok (.iload_n 1, 1) := by decide +kernel
theorem d17_11 : decode jdk_33_method_40_code 11 = .ok (.if_icmp .ne 7, 3) := by decide +kernel
theorem d17_14 : decode jdk_33_method_40_code 14 = .ok (.iconst 0, 1) := by decide +kernel
theorem d17_15 : decode jdk_33_method_40_code 15 = .ok (.goto 4, 3) := by decide +kernel
theorem d17_18 : decode jdk_33_method_40_code 18 = .ok (.iconst 1, 1) := by decide +kernel
theorem d17_19 : decode jdk_33_method_40_code 19 = .ok (.ireturn, 1) := by decide +kernel
theorem ef17 (m : MethodId) (x0 : Int32) (x1 : Int32) : entryFrame m #[(.int x0), (.int x1)] 2 = mkF m 0 #[.val (.int x0), .val (.int x1)] [] := by first | (simp [entryFrame, mkF, argsToLocals, Value.category]; done) | rfl
def Q17 (Z : State) (x' : Int32) (y' : Int32) (h0 : Heap) (n0 : Nat) (v : Option Value) (h : Heap) (L : List Loc) : Prop := v = some (.int (own_cmp x' y')) ∧ Fr n0 L ∧ h = h0
set_option maxRecDepth 65536 in
set_option maxHeartbeats 40000000 in
theorem rm17 (l : Launch) (Z : State) (a0 : Array Value) (hw : ∀ d ∈ tables_1, d.before a0 Z = true) (ws : List Jvm.Cond) (x' : Int32) (y' : Int32) (h0 : Heap) (n0 : Nat) (Z0 : n0 ≤ h0.size) :
    MetFree l (⟨"java/lang/Integer", "compare", "(II)I"⟩ : MethodName) (head1 (Jvm.Cond.code (⟨"java/lang/Integer", "compare", "(II)I"⟩ : MethodName) jdk_33_method_40_code 2 (some .int) :: ws) ({ frames := 0, cells := 0, slots := 0, locals := 0 } : Room)) (fun aa UU => aa = #[(.int x'), (.int y')] ∧ Z.Warmed39 UU.vm ∧ UU.heap = h0) (fun _ _ _ _ _ => True) (fun _ UU oo UU' => ∃ vv LL, oo = .returned vv ∧ Q17 Z x' y' h0 n0 vv UU'.heap LL ∧ FrameEnd UU oo UU' LL ({ frames := 0, cells := 0, slots := 0, locals := 0 } : Room).cells ({ frames := 0, cells := 0, slots := 0, locals := 0 } : Room).slots) := by
  have W : ∀ {d : Jvm.Cond} (i : Nat), tables_1[i]? = some d → d.before a0 Z = true := fun i h => hw _ (List.mem_of_getElem? h)
  refine MetFree.of_bodySF (plainFor_of_name pn169) hisR ?_
  intro p e s m args below meth c s₁ Bd hml0 hP hK
  obtain ⟨rfl, hZ, hh⟩ := hP
  have hx := Bd.exec
  have hby := Bd.bytes
  have hml : c.maxLocals = 2 := hml0
  have hown : s.vm.findClass "java/lang/Integer" = some m.cls := findClass_of_methodNamed Bd.named
  have hnm := (name_of_methodNamed Bd.named Bd.method).1
  have X0 : Stand p l e ({ frames := 0, cells := 0, slots := 0, locals := 0 } : Room) s m #[(.int x'), (.int y')] below meth c s₁ [] 0 0 := Stand.of_body Bd
  have e0 : s₁.heap = h0 := by rw [← hh, Bd.state]; rfl
  have N0 := Fr.nil n0
  have pre0 : ∀ tt, Steps p.tables e below (s₁.setTop (mkF m 0 #[iv x', iv y'] [])) tt → Steps p.tables e below (s₁.setTop (entryFrame m #[(.int x'), (.int y')] 2)) tt := fun tt kt => castTop (ef17 m x' y') kt
  obtain ⟨ST, hST⟩ : ∃ z : State, z = s₁.setTop (mkF m 0 #[iv x', iv y'] []) := ⟨_, rfl⟩
  rw [← hST] at pre0
  have go483 : own_S p e below ST s₁ (mkF m 2 #[iv x', iv y'] [(.int y'), (.int x')]) := fun tt kt => (by
      rw [hST]
      show Steps p.tables e below (s₁.setTop (mkF m 0 #[iv x', iv y'] [])) _
      refine XS.iloadN X0.here hx rfl (hb hby d17_0) rfl ?_
      refine XS.iloadN X0.here hx rfl (hb hby d17_1) rfl ?_
      exact kt)
  obtain ⟨v, hv, sg484⟩ : ∃ (v : Int32), v = (if x' < y' then (-1 : Int32) else (if x' = y' then (0 : Int32) else (1 : Int32))) ∧ ∀ tt, Steps p.tables e below (s₁.setTop (mkF m 19 #[iv x', iv y'] [(.int v)])) tt → Steps p.tables e below (s₁.setTop (mkF m 2 #[iv x', iv y'] [(.int y'), (.int x')])) tt := by
    by_cases hd2_0 : x' < y'
    · refine ⟨_, (if_pos hd2_0).symm, fun tt kt => ?_⟩
      show Steps p.tables e below (s₁.setTop (mkF m 2 #[iv x', iv y'] [(.int y'), (.int x')])) _
      refine XS.icmpNo X0.here hx rfl (hb hby d17_2) rfl (tlt hd2_0).2.1 ?_
      refine XS.iconst X0.here hx rfl (hb hby d17_5) ?_
      refine XS.goto X0.here hx rfl (pc0 := 6) (pc' := 19) rfl (hb hby d17_6) (by decide) (by decide) ?_
      exact kt
    · by_cases hd11_1 : x' = y'
      · refine ⟨_, ((if_neg hd2_0).trans (if_pos hd11_1)).symm, fun tt kt => ?_⟩
        show Steps p.tables e below (s₁.setTop (mkF m 2 #[iv x', iv y'] [(.int y'), (.int x')])) _
        refine XS.icmpYes X0.here hx rfl (pc0 := 2) (pc' := 9) rfl (hb hby d17_2) rfl (flt hd2_0).2.1 (by decide) (by decide) ?_
        refine XS.iloadN X0.here hx rfl (hb hby d17_9) rfl ?_
        refine XS.iloadN X0.here hx rfl (hb hby d17_10) rfl ?_
        refine XS.icmpNo X0.here hx rfl (hb hby d17_11) rfl (teq hd11_1).2 ?_
        refine XS.iconst X0.here hx rfl (hb hby d17_14) ?_
        refine XS.goto X0.here hx rfl (pc0 := 15) (pc' := 19) rfl (hb hby d17_15) (by decide) (by decide) ?_
        exact kt
      · refine ⟨_, ((if_neg hd2_0).trans (if_neg hd11_1)).symm, fun tt kt => ?_⟩
        show Steps p.tables e below (s₁.setTop (mkF m 2 #[iv x', iv y'] [(.int y'), (.int x')])) _
        refine XS.icmpYes X0.here hx rfl (pc0 := 2) (pc' := 9) rfl (hb hby d17_2) rfl (flt hd2_0).2.1 (by decide) (by decide) ?_
        refine XS.iloadN X0.here hx rfl (hb hby d17_9) rfl ?_
        refine XS.iloadN X0.here hx rfl (hb hby d17_10) rfl ?_
        refine XS.icmpYes X0.here hx rfl (pc0 := 11) (pc' := 18) rfl (hb hby d17_11) rfl (feq hd11_1).2 (by decide) (by decide) ?_
        refine XS.iconst X0.here hx rfl (hb hby d17_18) ?_
        exact kt
  have go485 : own_S p e below ST s₁ (mkF m 19 #[iv x', iv y'] [(.int v)]) := fun tt kt => go483 tt (sg484 _ kt)
  obtain ⟨fs, hr, hrun, hended, hW, hsame⟩ := X0.leave (v := some (.int v)) (fun h => by rw [Bd.returns] at h; cases h)
  refine ⟨_, _, pre0 _ (go485 _ ?_), hrun, hended, _, _, rfl, ?_, ⟨_, rfl⟩, hW, hsame.mono (by decide) (by decide)⟩
  · exact retI X0 hx Bd.returns (hb hby d17_19) hr
  · show Q17 Z x' y' h0 n0 _ s₁.heap _
    rw [e0]
    exact ⟨(by rw [hv]; rfl), N0, rfl⟩
theorem d14_0 : decode prog_27_method_4_code 0 = .ok (.aload_n 0, 1) := by decide +kernel
theorem d14_1 : decode prog_27_method_4_code 1 = .ok (.getfield 17, 3) := by decide +kernel
theorem d14_4 : decode prog_27_method_4_code 4 = .ok (.ifCond .eq 12, 3) := by decide +kernel
theorem d14_16 : decode prog_27_method_4_code 16 = .ok (.aload_n 0, 1) := by decide +kernel
theorem d14_17 : decode prog_27_method_4_code 17 = .ok (.getfield 13, 3) := by decide +kernel
theorem d14_20 : decode prog_27_method_4_code 20 = .ok (.iconst 1, 1) := by decide +kernel
theorem d14_21 : decode prog_27_method_4_code 21 = .ok (.isub, 1) := by decide +kernel
theorem d14_22 : decode prog_27_method_4_code 22 = .ok (.iload_n 1, 1) := by decide +kernel
theorem d14_23 : decode prog_27_method_4_code 23 = .ok (.isub, 1) := by decide +kernel
theorem d14_24 : decode prog_27_method_4_code 24 = .ok (.istore_n 2, 1) := by decide +kernel
theorem d14_25 : decode prog_27_method_4_code 25 = .ok (.iload_n 2, 1) := by decide +kernel
theorem d14_26 : decode prog_27_method_4_code 26 = .ok (.aload_n 0, 1) := by decide +kernel
theorem d14_27 : decode prog_27_method_4_code 27 = .ok (.getfield 7, 3) := by decide +kernel
theorem d14_30 : decode prog_27_method_4_code 30 = .ok (.invokeinterface 57 1, 5) := by decide +kernel
theorem pd196 : parseMethodDescriptor "()I" = some ⟨[], some .int⟩ := by decide +kernel
theorem d14_35 : decode prog_27_method_4_code 35 = .ok (.invokestatic 61, 3) := by decide +kernel
theorem d14_38 : decode prog_27_method_4_code 38 = .ok (.ireturn, 1) := by decide +kernel
theorem d14_7 : decode prog_27_method_4_code 7 = .ok (.iload_n 1, 1) := by decide +kernel
theorem d14_8 : decode prog_27_method_4_code 8 = .ok (.aload_n 0, 1) := by decide +kernel
theorem d14_9 : decode prog_27_method_4_code 9 = .ok (.getfield 13, 3) := by decide +kernel
theorem d14_12 : decode prog_27_method_4_code 12 = .ok (.isub, 1) := by decide +kernel
theorem d14_13 : decode prog_27_method_4_code 13 = .ok (.goto 11, 3) := by decide +kernel
theorem ef14 (m : MethodId) (x0 : Addr) (x1 : Int32) : entryFrame m #[(.ref x0), (.int x1)] 3 = mkF m 0 #[.val (.ref x0), .val (.int x1), .unset] [] := by first | (simp [entryFrame, mkF, argsToLocals, Value.category]; done) | rfl
def Q14 (Z : State) (o1 : Addr) (ol : Addr) (st : Int32) (fw : Int32) (sz : Int32) (ii : Int32) (h0 : Heap) (n0 : Nat) (v : Option Value) (h : Heap) (L : List Loc) : Prop := v = some (.int (own_sw fw st sz ii)) ∧ Fr n0 L ∧ h = h0
set_option maxRecDepth 65536 in
set_option maxHeartbeats 40000000 in
theorem rm14 (l : Launch) (Z : State) (a0 : Array Value) (hw : ∀ d ∈ tables_1, d.before a0 Z = true) (ws : List Jvm.Cond) (o1 : Addr) (ol : Addr) (st : Int32) (fw : Int32) (sz : Int32) (ii : Int32) (h0 : Heap) (n0 : Nat) (Z0 : n0 ≤ h0.size) (F1 : Fld Z h0 o1 "com/example/inscribe/inscribe/geometry/BoundaryOrder" "sides" "Ljava/util/List;" (.ref ol)) (F2 : Fld Z h0 o1 "com/example/inscribe/inscribe/geometry/BoundaryOrder" "start" "I" (.int st)) (F3 : Fld Z h0 o1 "com/example/inscribe/inscribe/geometry/BoundaryOrder" "forward" "Z" (.int fw)) (E2 : Exa Z h0 ol "java/util/ArrayList") (F4 : Fld Z h0 ol "java/util/ArrayList" "size" "I" (.int sz)) (hs0 : sz ≠ 0) :
    MetFree l (⟨"com/example/inscribe/inscribe/geometry/BoundaryOrder", "sidesWalked", "(I)I"⟩ : MethodName) (head1 (Jvm.Cond.code (⟨"com/example/inscribe/inscribe/geometry/BoundaryOrder", "sidesWalked", "(I)I"⟩ : MethodName) prog_27_method_4_code 3 (some .int) :: ws) ({ frames := 1, cells := 0, slots := 0, locals := 14 } : Room)) (fun aa UU => aa = #[(.ref o1), (.int ii)] ∧ Z.Warmed39 UU.vm ∧ UU.heap = h0) (fun _ _ _ _ _ => True) (fun _ UU oo UU' => ∃ vv LL, oo = .returned vv ∧ Q14 Z o1 ol st fw sz ii h0 n0 vv UU'.heap LL ∧ FrameEnd UU oo UU' LL ({ frames := 1, cells := 0, slots := 0, locals := 14 } : Room).cells ({ frames := 1, cells := 0, slots := 0, locals := 14 } : Room).slots) := by
  have W : ∀ {d : Jvm.Cond} (i : Nat), tables_1[i]? = some d → d.before a0 Z = true := fun i h => hw _ (List.mem_of_getElem? h)
  refine MetFree.of_bodySF (plainFor_of_name pn123) hisR ?_
  intro p e s m args below meth c s₁ Bd hml0 hP hK
  obtain ⟨rfl, hZ, hh⟩ := hP
  have hx := Bd.exec
  have hby := Bd.bytes
  have hml : c.maxLocals = 3 := hml0
  have hown : s.vm.findClass "com/example/inscribe/inscribe/geometry/BoundaryOrder" = some m.cls := findClass_of_methodNamed Bd.named
  have hnm := (name_of_methodNamed Bd.named Bd.method).1
  have X0 : Stand p l e ({ frames := 1, cells := 0, slots := 0, locals := 14 } : Room) s m #[(.ref o1), (.int ii)] below meth c s₁ [] 0 0 := Stand.of_body Bd
  have e0 : s₁.heap = h0 := by rw [← hh, Bd.state]; rfl
  have N0 := Fr.nil n0
  have pre0 : ∀ tt, Steps p.tables e below (s₁.setTop (mkF m 0 #[rv o1, iv ii, .unset] [])) tt → Steps p.tables e below (s₁.setTop (entryFrame m #[(.ref o1), (.int ii)] 3)) tt := fun tt kt => castTop (ef14 m o1 ii) kt
  obtain ⟨ST, hST⟩ : ∃ z : State, z = s₁.setTop (mkF m 0 #[rv o1, iv ii, .unset] []) := ⟨_, rfl⟩
  rw [← hST] at pre0
  have go486 : own_S p e below ST s₁ (mkF m 1 #[rv o1, iv ii, .unset] [(.ref o1)]) := fun tt kt => (by
      rw [hST]
      show Steps p.tables e below (s₁.setTop (mkF m 0 #[rv o1, iv ii, .unset] [])) _
      refine XS.aloadN X0.here hx rfl (hb hby d14_0) rfl rfl ?_
      exact kt)
  obtain ⟨T487, X487, e487, st487⟩ := getF X0 hx hZ hown (host := "") (Or.inl (W 76 rfl)) Via.refl e0 F3 (g := (mkF m 1 #[rv o1, iv ii, .unset] [(.ref o1)])) rfl rfl (hb hby d14_1)
  have go488 : own_S p e below ST T487 (mkF m 4 #[rv o1, iv ii, .unset] [(.int fw)]) := fun tt kt => go486 tt (st487 _ kt)
  by_cases c0 : fw = (0 : Int32)
  · have go489 : own_S p e below ST T487 (mkF m 16 #[rv o1, iv ii, .unset] []) := fun tt kt => go488 tt (by
        refine XS.ifYes X487.here hx rfl (pc0 := 4) (pc' := 16) rfl (hb hby d14_4) rfl ((if0 _ _).trans (teq c0).1) (by decide) (by decide) ?_
        exact kt)
    have go490 : own_S p e below ST T487 (mkF m 17 #[rv o1, iv ii, .unset] [(.ref o1)]) := fun tt kt => go489 tt (by
        refine XS.aloadN X487.here hx rfl (hb hby d14_16) rfl rfl ?_
        exact kt)
    obtain ⟨T491, X491, e491, st491⟩ := getF X487 hx hZ hown (host := "") (Or.inl (W 74 rfl)) Via.refl e487 F2 (g := (mkF m 17 #[rv o1, iv ii, .unset] [(.ref o1)])) rfl rfl (hb hby d14_17)
    have go492 : own_S p e below ST T491 (mkF m 20 #[rv o1, iv ii, .unset] [(.int st)]) := fun tt kt => go490 tt (st491 _ kt)
    have go493 : own_S p e below ST T491 (mkF m 27 #[rv o1, iv ii, iv ((st - (1 : Int32)) - ii)] [(.ref o1), (.int ((st - (1 : Int32)) - ii))]) := fun tt kt => go492 tt (by
        refine XS.iconst X491.here hx rfl (hb hby d14_20) ?_
        refine XS.isub X491.here hx rfl (hb hby d14_21) rfl ?_
        refine XS.iloadN X491.here hx rfl (hb hby d14_22) rfl ?_
        refine XS.isub X491.here hx rfl (hb hby d14_23) rfl ?_
        refine XS.istoreN X491.here hx rfl (hb hby d14_24) rfl (l' := #[rv o1, iv ii, iv ((st - (1 : Int32)) - ii)]) rfl ?_
        refine XS.iloadN X491.here hx rfl (hb hby d14_25) rfl ?_
        show Steps p.tables e below (T491.setTop (mkF m 26 #[rv o1, iv ii, iv ((st - (1 : Int32)) - ii)] [(.int ((st - (1 : Int32)) - ii))])) _
        refine XS.aloadN X491.here hx rfl (hb hby d14_26) rfl rfl ?_
        exact kt)
    obtain ⟨T494, X494, e494, st494⟩ := getF X491 hx hZ hown (host := "") (Or.inl (W 72 rfl)) Via.refl e491 F1 (g := (mkF m 27 #[rv o1, iv ii, iv ((st - (1 : Int32)) - ii)] [(.ref o1), (.int ((st - (1 : Int32)) - ii))])) rfl rfl (hb hby d14_27)
    have go495 : own_S p e below ST T494 (mkF m 30 #[rv o1, iv ii, iv ((st - (1 : Int32)) - ii)] [(.ref ol), (.int ((st - (1 : Int32)) - ii))]) := fun tt kt => go493 tt (st494 _ kt)
    obtain ⟨cq496, kq496, q496a, q496b, q496c⟩ := isOf hZ e494 E2
    obtain ⟨_, _, ⟨T496, L496, k496, n496⟩, -, X496, ⟨Lc496, hQ496, l496, y496, z496⟩, st496⟩ := X494.interfaceBack hx (xi := (⟨"java/util/List", "size", "()I"⟩ : MethodName)) (y := (⟨"java/util/ArrayList", "size", "()I"⟩ : MethodName)) hown (mvT hZ (W 94 rfl)) (mvT hZ (W 95 rfl)) (mvT hZ (W 96 rfl)) (mvT hZ (W 97 rfl)) (mvT hZ (W 98 rfl)) (mvT hZ (W 99 rfl)) (mvT hZ (W 100 rfl)) (mvT hZ (W 37 rfl)) (by decide) (backOf (W := 1) (rm15 l Z a0 hw [] ol sz h0 n0 Z0 F4) hZ (W 101 rfl) (W 6 rfl) (by decide) (by decide)) q496a q496b q496c (g := (mkF m 30 #[rv o1, iv ii, iv ((st - (1 : Int32)) - ii)] [(.ref ol), (.int ((st - (1 : Int32)) - ii))])) rfl (by rw [hml]; rfl) (Steps.refl _) (argsL := []) (rest := [(.int ((st - (1 : Int32)) - ii))]) (lenOf pd196 rfl) rfl (by show 2 * 0 + _ ≤ _; exact Nat.le_of_eq rfl) (hb hby d14_30) (fun _ _ => ⟨rfl, e494, (by decide : 0 + 0 ≤ _), (by decide : 0 + 0 ≤ _)⟩)
    dsimp only [Pt.U, Pt.locs, Pt.cells, Pt.slots] at X496 l496 y496 z496 st496 hQ496
    subst l496 y496 z496
    obtain ⟨rfl, Nq496, eh496⟩ := hQ496
    have N496 := Fr.app N0 Nq496
    have go497 : own_S p e below ST T496 (mkF m 35 #[rv o1, iv ii, iv ((st - (1 : Int32)) - ii)] [(.int sz), (.int ((st - (1 : Int32)) - ii))]) := fun tt kt => go495 tt (st496.trans kt)
    obtain ⟨_, _, ⟨T498, L498, k498, n498⟩, -, X498, ⟨Lc498, hQ498, l498, y498, z498⟩, st498⟩ := Jvm.LawKit.callS X496 hx (y := (⟨"java/lang/Math", "floorMod", "(II)I"⟩ : MethodName)) hown (mvT hZ (W 102 rfl)) (mvT hZ (W 103 rfl)) (mvT hZ (W 60 rfl)) (mvT hZ (W 104 rfl)) (by decide) (backOf (W := 0) (rm16 l Z a0 hw [] ((st - (1 : Int32)) - ii) sz h0 n0 Z0 hs0) hZ (W 104 rfl) (W 60 rfl) (by decide) (by decide)) (g := (mkF m 35 #[rv o1, iv ii, iv ((st - (1 : Int32)) - ii)] [(.int sz), (.int ((st - (1 : Int32)) - ii))])) rfl (by rw [hml]; rfl) (argsL := [(.int ((st - (1 : Int32)) - ii)), (.int sz)]) (rest := []) (lenOf pd39 rfl) rfl (by show 2 * 0 + _ ≤ _; exact Nat.le_of_eq rfl) (hb hby d14_35) (fun _ _ => ⟨rfl, eh496, (by decide : 0 + 0 ≤ _), (by decide : 0 + 0 ≤ _)⟩)
    dsimp only [Pt.U, Pt.locs, Pt.cells, Pt.slots] at X498 l498 y498 z498 st498 hQ498
    subst l498 y498 z498
    obtain ⟨rfl, Nq498, eh498⟩ := hQ498
    have N498 := Fr.app N496 Nq498
    have go499 : own_S p e below ST T498 (mkF m 38 #[rv o1, iv ii, iv ((st - (1 : Int32)) - ii)] [(.int (own_fm ((st - (1 : Int32)) - ii) sz))]) := fun tt kt => go497 tt (st498 _ kt)
    obtain ⟨fs, hr, hrun, hended, hW, hsame⟩ := X498.leave (v := some (.int (own_fm ((st - (1 : Int32)) - ii) sz))) (fun h => by rw [Bd.returns] at h; cases h)
    refine ⟨_, _, pre0 _ (go499 _ ?_), hrun, hended, _, _, rfl, ?_, ⟨_, rfl⟩, hW, hsame.mono (by decide) (by decide)⟩
    · exact retI X498 hx Bd.returns (hb hby d14_38) hr
    · show Q14 Z o1 ol st fw sz ii h0 n0 _ T498.heap _
      rw [eh498]
      exact ⟨(by rw [own_sw, if_pos c0]), N498, rfl⟩
  · have go500 : own_S p e below ST T487 (mkF m 7 #[rv o1, iv ii, .unset] []) := fun tt kt => go488 tt (by
        refine XS.ifNo X487.here hx rfl (hb hby d14_4) rfl ((if0 _ _).trans (feq c0).1) ?_
        exact kt)
    have go501 : own_S p e below ST T487 (mkF m 9 #[rv o1, iv ii, .unset] [(.ref o1), (.int ii)]) := fun tt kt => go500 tt (by
        refine XS.iloadN X487.here hx rfl (hb hby d14_7) rfl ?_
        refine XS.aloadN X487.here hx rfl (hb hby d14_8) rfl rfl ?_
        exact kt)
    obtain ⟨T502, X502, e502, st502⟩ := getF X487 hx hZ hown (host := "") (Or.inl (W 74 rfl)) Via.refl e487 F2 (g := (mkF m 9 #[rv o1, iv ii, .unset] [(.ref o1), (.int ii)])) rfl rfl (hb hby d14_9)
    have go503 : own_S p e below ST T502 (mkF m 12 #[rv o1, iv ii, .unset] [(.int st), (.int ii)]) := fun tt kt => go501 tt (st502 _ kt)
    have go504 : own_S p e below ST T502 (mkF m 27 #[rv o1, iv ii, iv (ii - st)] [(.ref o1), (.int (ii - st))]) := fun tt kt => go503 tt (by
        refine XS.isub X502.here hx rfl (hb hby d14_12) rfl ?_
        refine XS.goto X502.here hx rfl (pc0 := 13) (pc' := 24) rfl (hb hby d14_13) (by decide) (by decide) ?_
        refine XS.istoreN X502.here hx rfl (hb hby d14_24) rfl (l' := #[rv o1, iv ii, iv (ii - st)]) rfl ?_
        refine XS.iloadN X502.here hx rfl (hb hby d14_25) rfl ?_
        refine XS.aloadN X502.here hx rfl (hb hby d14_26) rfl rfl ?_
        exact kt)
    obtain ⟨T505, X505, e505, st505⟩ := getF X502 hx hZ hown (host := "") (Or.inl (W 72 rfl)) Via.refl e502 F1 (g := (mkF m 27 #[rv o1, iv ii, iv (ii - st)] [(.ref o1), (.int (ii - st))])) rfl rfl (hb hby d14_27)
    have go506 : own_S p e below ST T505 (mkF m 30 #[rv o1, iv ii, iv (ii - st)] [(.ref ol), (.int (ii - st))]) := fun tt kt => go504 tt (st505 _ kt)
    obtain ⟨cq507, kq507, q507a, q507b, q507c⟩ := isOf hZ e505 E2
    obtain ⟨_, _, ⟨T507, L507, k507, n507⟩, -, X507, ⟨Lc507, hQ507, l507, y507, z507⟩, st507⟩ := X505.interfaceBack hx (xi := (⟨"java/util/List", "size", "()I"⟩ : MethodName)) (y := (⟨"java/util/ArrayList", "size", "()I"⟩ : MethodName)) hown (mvT hZ (W 94 rfl)) (mvT hZ (W 95 rfl)) (mvT hZ (W 96 rfl)) (mvT hZ (W 97 rfl)) (mvT hZ (W 98 rfl)) (mvT hZ (W 99 rfl)) (mvT hZ (W 100 rfl)) (mvT hZ (W 37 rfl)) (by decide) (backOf (W := 1) (rm15 l Z a0 hw [] ol sz h0 n0 Z0 F4) hZ (W 101 rfl) (W 6 rfl) (by decide) (by decide)) q507a q507b q507c (g := (mkF m 30 #[rv o1, iv ii, iv (ii - st)] [(.ref ol), (.int (ii - st))])) rfl (by rw [hml]; rfl) (Steps.refl _) (argsL := []) (rest := [(.int (ii - st))]) (lenOf pd196 rfl) rfl (by show 2 * 0 + _ ≤ _; exact Nat.le_of_eq rfl) (hb hby d14_30) (fun _ _ => ⟨rfl, e505, (by decide : 0 + 0 ≤ _), (by decide : 0 + 0 ≤ _)⟩)
    dsimp only [Pt.U, Pt.locs, Pt.cells, Pt.slots] at X507 l507 y507 z507 st507 hQ507
    subst l507 y507 z507
    obtain ⟨rfl, Nq507, eh507⟩ := hQ507
    have N507 := Fr.app N0 Nq507
    have go508 : own_S p e below ST T507 (mkF m 35 #[rv o1, iv ii, iv (ii - st)] [(.int sz), (.int (ii - st))]) := fun tt kt => go506 tt (st507.trans kt)
    obtain ⟨_, _, ⟨T509, L509, k509, n509⟩, -, X509, ⟨Lc509, hQ509, l509, y509, z509⟩, st509⟩ := Jvm.LawKit.callS X507 hx (y := (⟨"java/lang/Math", "floorMod", "(II)I"⟩ : MethodName)) hown (mvT hZ (W 102 rfl)) (mvT hZ (W 103 rfl)) (mvT hZ (W 60 rfl)) (mvT hZ (W 104 rfl)) (by decide) (backOf (W := 0) (rm16 l Z a0 hw [] (ii - st) sz h0 n0 Z0 hs0) hZ (W 104 rfl) (W 60 rfl) (by decide) (by decide)) (g := (mkF m 35 #[rv o1, iv ii, iv (ii - st)] [(.int sz), (.int (ii - st))])) rfl (by rw [hml]; rfl) (argsL := [(.int (ii - st)), (.int sz)]) (rest := []) (lenOf pd39 rfl) rfl (by show 2 * 0 + _ ≤ _; exact Nat.le_of_eq rfl) (hb hby d14_35) (fun _ _ => ⟨rfl, eh507, (by decide : 0 + 0 ≤ _), (by decide : 0 + 0 ≤ _)⟩)
    dsimp only [Pt.U, Pt.locs, Pt.cells, Pt.slots] at X509 l509 y509 z509 st509 hQ509
    subst l509 y509 z509
    obtain ⟨rfl, Nq509, eh509⟩ := hQ509
    have N509 := Fr.app N507 Nq509
    have go510 : own_S p e below ST T509 (mkF m 38 #[rv o1, iv ii, iv (ii - st)] [(.int (own_fm (ii - st) sz))]) := fun tt kt => go508 tt (st509 _ kt)
    obtain ⟨fs, hr, hrun, hended, hW, hsame⟩ := X509.leave (v := some (.int (own_fm (ii - st) sz))) (fun h => by rw [Bd.returns] at h; cases h)
    refine ⟨_, _, pre0 _ (go510 _ ?_), hrun, hended, _, _, rfl, ?_, ⟨_, rfl⟩, hW, hsame.mono (by decide) (by decide)⟩
    · exact retI X509 hx Bd.returns (hb hby d14_38) hr
    · show Q14 Z o1 ol st fw sz ii h0 n0 _ T509.heap _
      rw [eh509]
      exact ⟨(by rw [own_sw, if_neg c0]), N509, rfl⟩
theorem d13_0 : decode prog_27_method_3_code 0 = .ok (.iload_n 1, 1) := by decide +kernel
theorem d13_1 : decode prog_27_method_3_code 1 = .ok (.iload_n 3, 1) := by decide +kernel
theorem d13_2 : decode prog_27_method_3_code 2 = .ok (.if_icmp .eq 17, 3) := by decide +kernel
theorem d13_5 : decode prog_27_method_3_code 5 = .ok (.aload_n 0, 1) := by decide +kernel
theorem d13_6 : decode prog_27_method_3_code 6 = .ok (.iload_n 1, 1) := by decide +kernel
theorem d13_7 : decode prog_27_method_3_code 7 = .ok (.invokevirtual 24, 3) := by decide +kernel
theorem pd210 : parseMethodDescriptor "(I)I" = some ⟨[.int], some .int⟩ := by decide +kernel
theorem d13_10 : decode prog_27_method_3_code 10 = .ok (.aload_n 0, 1) := by decide +kernel
theorem d13_11 : decode prog_27_method_3_code 11 = .ok (.iload_n 3, 1) := by decide +kernel
theorem d13_12 : decode prog_27_method_3_code 12 = .ok (.invokevirtual 24, 3) := by decide +kernel
theorem d13_15 : decode prog_27_method_3_code 15 = .ok (.invokestatic 28, 3) := by decide +kernel
theorem d13_18 : decode prog_27_method_3_code 18 = .ok (.ireturn, 1) := by decide +kernel
theorem ef13 (m : MethodId) (x0 : Addr) (x1 : Int32) (x3 : Int32) : entryFrame m #[(.ref x0), (.int x1), .null, (.int x3), .null] 7 = mkF m 0 #[.val (.ref x0), .val (.int x1), .val .null, .val (.int x3), .val .null, .unset, .unset] [] := by first | (simp [entryFrame, mkF, argsToLocals, Value.category]; done) | rfl
def Q13 (Z : State) (o1 : Addr) (ol : Addr) (st : Int32) (fw : Int32) (sz : Int32) (ii : Int32) (jj : Int32) (h0 : Heap) (n0 : Nat) (v : Option Value) (h : Heap) (L : List Loc) : Prop := v = some (.int (own_cmp (own_sw fw st sz ii) (own_sw fw st sz jj))) ∧ Fr n0 L ∧ h = h0
set_option maxRecDepth 65536 in
set_option maxHeartbeats 40000000 in
theorem rm13 (l : Launch) (Z : State) (a0 : Array Value) (hw : ∀ d ∈ tables_1, d.before a0 Z = true) (ws : List Jvm.Cond) (o1 : Addr) (ol : Addr) (st : Int32) (fw : Int32) (sz : Int32) (ii : Int32) (jj : Int32) (h0 : Heap) (n0 : Nat) (Z0 : n0 ≤ h0.size) (F1 : Fld Z h0 o1 "com/example/inscribe/inscribe/geometry/BoundaryOrder" "sides" "Ljava/util/List;" (.ref ol)) (F2 : Fld Z h0 o1 "com/example/inscribe/inscribe/geometry/BoundaryOrder" "start" "I" (.int st)) (F3 : Fld Z h0 o1 "com/example/inscribe/inscribe/geometry/BoundaryOrder" "forward" "Z" (.int fw)) (E2 : Exa Z h0 ol "java/util/ArrayList") (F4 : Fld Z h0 ol "java/util/ArrayList" "size" "I" (.int sz)) (hs0 : sz ≠ 0) (E1 : Exa Z h0 o1 "com/example/inscribe/inscribe/geometry/BoundaryOrder") (hij : ¬ ii = jj) :
    MetFree l (⟨"com/example/inscribe/inscribe/geometry/BoundaryOrder", "compare", "(ILcom/example/inscribe/inscribe/geometry/Point;ILcom/example/inscribe/inscribe/geometry/Point;)I"⟩ : MethodName) (head1 (Jvm.Cond.code (⟨"com/example/inscribe/inscribe/geometry/BoundaryOrder", "compare", "(ILcom/example/inscribe/inscribe/geometry/Point;ILcom/example/inscribe/inscribe/geometry/Point;)I"⟩ : MethodName) prog_27_method_3_code 7 (some .int) :: ws) ({ frames := 2, cells := 0, slots := 0, locals := 29 } : Room)) (fun aa UU => aa = #[(.ref o1), (.int ii), .null, (.int jj), .null] ∧ Z.Warmed39 UU.vm ∧ UU.heap = h0) (fun _ _ _ _ _ => True) (fun _ UU oo UU' => ∃ vv LL, oo = .returned vv ∧ Q13 Z o1 ol st fw sz ii jj h0 n0 vv UU'.heap LL ∧ FrameEnd UU oo UU' LL ({ frames := 2, cells := 0, slots := 0, locals := 29 } : Room).cells ({ frames := 2, cells := 0, slots := 0, locals := 29 } : Room).slots) := by
  have W : ∀ {d : Jvm.Cond} (i : Nat), tables_1[i]? = some d → d.before a0 Z = true := fun i h => hw _ (List.mem_of_getElem? h)
  refine MetFree.of_bodySF (plainFor_of_name pn123) hisR ?_
  intro p e s m args below meth c s₁ Bd hml0 hP hK
  obtain ⟨rfl, hZ, hh⟩ := hP
  have hx := Bd.exec
  have hby := Bd.bytes
  have hml : c.maxLocals = 7 := hml0
  have hown : s.vm.findClass "com/example/inscribe/inscribe/geometry/BoundaryOrder" = some m.cls := findClass_of_methodNamed Bd.named
  have hnm := (name_of_methodNamed Bd.named Bd.method).1
  have X0 : Stand p l e ({ frames := 2, cells := 0, slots := 0, locals := 29 } : Room) s m #[(.ref o1), (.int ii), .null, (.int jj), .null] below meth c s₁ [] 0 0 := Stand.of_body Bd
  have e0 : s₁.heap = h0 := by rw [← hh, Bd.state]; rfl
  have N0 := Fr.nil n0
  have pre0 : ∀ tt, Steps p.tables e below (s₁.setTop (mkF m 0 #[rv o1, iv ii, .val .null, iv jj, .val .null, .unset, .unset] [])) tt → Steps p.tables e below (s₁.setTop (entryFrame m #[(.ref o1), (.int ii), .null, (.int jj), .null] 7)) tt := fun tt kt => castTop (ef13 m o1 ii jj) kt
  obtain ⟨ST, hST⟩ : ∃ z : State, z = s₁.setTop (mkF m 0 #[rv o1, iv ii, .val .null, iv jj, .val .null, .unset, .unset] []) := ⟨_, rfl⟩
  rw [← hST] at pre0
  have go511 : own_S p e below ST s₁ (mkF m 7 #[rv o1, iv ii, .val .null, iv jj, .val .null, .unset, .unset] [(.int ii), (.ref o1)]) := fun tt kt => (by
      rw [hST]
      show Steps p.tables e below (s₁.setTop (mkF m 0 #[rv o1, iv ii, .val .null, iv jj, .val .null, .unset, .unset] [])) _
      refine XS.iloadN X0.here hx rfl (hb hby d13_0) rfl ?_
      refine XS.iloadN X0.here hx rfl (hb hby d13_1) rfl ?_
      refine XS.icmpNo X0.here hx rfl (hb hby d13_2) rfl (feq hij).1 ?_
      refine XS.aloadN X0.here hx rfl (hb hby d13_5) rfl rfl ?_
      refine XS.iloadN X0.here hx rfl (hb hby d13_6) rfl ?_
      exact kt)
  obtain ⟨cq512, q512, q512'⟩ := E1.cell
  obtain ⟨_, _, ⟨T512, L512, k512, n512⟩, -, X512, ⟨Lc512, hQ512, l512, y512, z512⟩, st512⟩ := X0.privateBack hx (y := (⟨"com/example/inscribe/inscribe/geometry/BoundaryOrder", "sidesWalked", "(I)I"⟩ : MethodName)) hown (mvT hZ (W 90 rfl)) (mvT hZ (W 91 rfl)) (own_selp (by decide) (mvT hZ (W 66 rfl)) (mvP hZ (W 92 rfl)) (mvT hZ (W 91 rfl))) (Cond.privateMethod_at (mvP hZ (W 92 rfl) (args := #[]))) (mvT hZ (W 93 rfl)) (by decide) (backOf (W := 0) (rm14 l Z a0 hw [] o1 ol st fw sz ii h0 n0 Z0 F1 F2 F3 E2 F4 hs0) hZ (W 93 rfl) (W 67 rfl) (by decide) (by decide)) (g := (mkF m 7 #[rv o1, iv ii, .val .null, iv jj, .val .null, .unset, .unset] [(.int ii), (.ref o1)])) rfl (by rw [hml]; rfl) (Steps.refl _) (a := o1) (by rw [e0]; exact q512) q512' (argsL := [(.int ii)]) (rest := []) (lenOf pd210 rfl) rfl (by show 2 * 0 + _ ≤ _; exact Nat.le_of_eq rfl) (hb hby d13_7) (fun _ _ => ⟨rfl, e0, (by decide : 0 + 0 ≤ _), (by decide : 0 + 0 ≤ _)⟩)
  dsimp only [Pt.U, Pt.locs, Pt.cells, Pt.slots] at X512 l512 y512 z512 st512 hQ512
  subst l512 y512 z512
  obtain ⟨rfl, Nq512, eh512⟩ := hQ512
  have N512 := Fr.app N0 Nq512
  have go513 : own_S p e below ST T512 (mkF m 10 #[rv o1, iv ii, .val .null, iv jj, .val .null, .unset, .unset] [(.int (own_sw fw st sz ii))]) := fun tt kt => go511 tt (st512.trans kt)
  have go514 : own_S p e below ST T512 (mkF m 12 #[rv o1, iv ii, .val .null, iv jj, .val .null, .unset, .unset] [(.int jj), (.ref o1), (.int (own_sw fw st sz ii))]) := fun tt kt => go513 tt (by
      refine XS.aloadN X512.here hx rfl (hb hby d13_10) rfl rfl ?_
      refine XS.iloadN X512.here hx rfl (hb hby d13_11) rfl ?_
      exact kt)
  obtain ⟨cq515, q515, q515'⟩ := E1.cell
  obtain ⟨_, _, ⟨T515, L515, k515, n515⟩, -, X515, ⟨Lc515, hQ515, l515, y515, z515⟩, st515⟩ := X512.privateBack hx (y := (⟨"com/example/inscribe/inscribe/geometry/BoundaryOrder", "sidesWalked", "(I)I"⟩ : MethodName)) hown (mvT hZ (W 90 rfl)) (mvT hZ (W 91 rfl)) (own_selp (by decide) (mvT hZ (W 66 rfl)) (mvP hZ (W 92 rfl)) (mvT hZ (W 91 rfl))) (Cond.privateMethod_at (mvP hZ (W 92 rfl) (args := #[]))) (mvT hZ (W 93 rfl)) (by decide) (backOf (W := 1) (rm14 l Z a0 hw [] o1 ol st fw sz jj h0 n0 Z0 F1 F2 F3 E2 F4 hs0) hZ (W 93 rfl) (W 67 rfl) (by decide) (by decide)) (g := (mkF m 12 #[rv o1, iv ii, .val .null, iv jj, .val .null, .unset, .unset] [(.int jj), (.ref o1), (.int (own_sw fw st sz ii))])) rfl (by rw [hml]; rfl) (Steps.refl _) (a := o1) (by rw [eh512]; exact q515) q515' (argsL := [(.int jj)]) (rest := [(.int (own_sw fw st sz ii))]) (lenOf pd210 rfl) rfl (by show 2 * 0 + _ ≤ _; exact Nat.le_of_eq rfl) (hb hby d13_12) (fun _ _ => ⟨rfl, eh512, (by decide : 0 + 0 ≤ _), (by decide : 0 + 0 ≤ _)⟩)
  dsimp only [Pt.U, Pt.locs, Pt.cells, Pt.slots] at X515 l515 y515 z515 st515 hQ515
  subst l515 y515 z515
  obtain ⟨rfl, Nq515, eh515⟩ := hQ515
  have N515 := Fr.app N512 Nq515
  have go516 : own_S p e below ST T515 (mkF m 15 #[rv o1, iv ii, .val .null, iv jj, .val .null, .unset, .unset] [(.int (own_sw fw st sz jj)), (.int (own_sw fw st sz ii))]) := fun tt kt => go514 tt (st515.trans kt)
  obtain ⟨_, _, ⟨T517, L517, k517, n517⟩, -, X517, ⟨Lc517, hQ517, l517, y517, z517⟩, st517⟩ := Jvm.LawKit.callS X515 hx (y := (⟨"java/lang/Integer", "compare", "(II)I"⟩ : MethodName)) hown (mvT hZ (W 105 rfl)) (mvT hZ (W 106 rfl)) (mvT hZ (W 107 rfl)) (mvT hZ (W 108 rfl)) (by decide) (backOf (W := 0) (rm17 l Z a0 hw [] (own_sw fw st sz ii) (own_sw fw st sz jj) h0 n0 Z0 ) hZ (W 108 rfl) (W 107 rfl) (by decide) (by decide)) (g := (mkF m 15 #[rv o1, iv ii, .val .null, iv jj, .val .null, .unset, .unset] [(.int (own_sw fw st sz jj)), (.int (own_sw fw st sz ii))])) rfl (by rw [hml]; rfl) (argsL := [(.int (own_sw fw st sz ii)), (.int (own_sw fw st sz jj))]) (rest := []) (lenOf pd39 rfl) rfl (by show 2 * 0 + _ ≤ _; exact Nat.le_of_eq rfl) (hb hby d13_15) (fun _ _ => ⟨rfl, eh515, (by decide : 0 + 0 ≤ _), (by decide : 0 + 0 ≤ _)⟩)
  dsimp only [Pt.U, Pt.locs, Pt.cells, Pt.slots] at X517 l517 y517 z517 st517 hQ517
  subst l517 y517 z517
  obtain ⟨rfl, Nq517, eh517⟩ := hQ517
  have N517 := Fr.app N515 Nq517
  have go518 : own_S p e below ST T517 (mkF m 18 #[rv o1, iv ii, .val .null, iv jj, .val .null, .unset, .unset] [(.int (own_cmp (own_sw fw st sz ii) (own_sw fw st sz jj)))]) := fun tt kt => go516 tt (st517 _ kt)
  obtain ⟨fs, hr, hrun, hended, hW, hsame⟩ := X517.leave (v := some (.int (own_cmp (own_sw fw st sz ii) (own_sw fw st sz jj)))) (fun h => by rw [Bd.returns] at h; cases h)
  refine ⟨_, _, pre0 _ (go518 _ ?_), hrun, hended, _, _, rfl, ?_, ⟨_, rfl⟩, hW, hsame.mono (by decide) (by decide)⟩
  · exact retI X517 hx Bd.returns (hb hby d13_18) hr
  · show Q13 Z o1 ol st fw sz ii jj h0 n0 _ T517.heap _
    rw [eh517]
    exact ⟨rfl, N517, rfl⟩
theorem own_fin (n : Nat) (x m : Int32) (hm : m.toInt = n) (h : 0 ≤ x.toInt ∧ x.toInt < m.toInt) : ∃ k : Fin n, x = Int32.ofNat k.val := by
  have r := rng32 m
  refine ⟨⟨x.toInt.toNat, by omega⟩, ?_⟩
  rw [← Int32.toInt_inj, Int32.toInt_ofNat_small (by show x.toInt.toNat < 2147483648; omega)]; show x.toInt = ((x.toInt.toNat : Nat) : Int); omega
theorem own_in (a x n : Int32) (hn : 0 < n.toInt) (h : x = (a &&& 2147483647) % n) : 0 ≤ x.toInt ∧ x.toInt < n.toInt := by
  have h1 := c_and a 2147483647 (by decide)
  have h2 : ((a &&& 2147483647) % n).toInt = (a &&& 2147483647).toInt % n.toInt := by rw [Int32.toInt_mod, Int.tmod_eq_emod_of_nonneg h1.1]
  rw [← h] at h2
  have h3 := Int.emod_nonneg (a &&& 2147483647).toInt (b := n.toInt) (by omega)
  have h4 := Int.emod_lt_of_pos (a &&& 2147483647).toInt (b := n.toInt) (by omega)
  omega
def own_P (n : Int32) (fw st a b : Int32) : Bool := decide (own_cmp (own_sw (own_not (nar .boolean fw)) st n a) (own_sw (own_not (nar .boolean fw)) st n b) = own_cmp (own_sw (nar .boolean fw) st n b) (own_sw (nar .boolean fw) st n a)) && !decide (own_cmp (own_sw (own_not (nar .boolean fw)) st n a) (own_sw (own_not (nar .boolean fw)) st n b) = 0)
theorem own_n4 (x : Int32) : 2 + (x &&& 3) = 2 ∨ 2 + (x &&& 3) = 3 ∨ 2 + (x &&& 3) = 4 ∨ 2 + (x &&& 3) = 5 := by
  have h1 := c_mask x 3 2 (by decide) (by decide)
  have e4 : ((2 ^ 2 : Nat) : Int) = 4 := by decide
  rw [e4] at h1
  have h2 := c_iadd 2 (x &&& 3)
  have h3 := rng32 (2 + (x &&& 3))
  have e2 : (2 : Int32).toInt = 2 := rfl
  have e3 : (3 : Int32).toInt = 3 := rfl
  have e4 : (4 : Int32).toInt = 4 := rfl
  have e5 : (5 : Int32).toInt = 5 := rfl
  simp only [← Int32.toInt_inj]
  omega
theorem own_all2 : ∀ (f : Fin 2) (s : Fin 2) (a : Fin 2) (g : Fin 1), (decide (Int32.ofNat a.val = (Int32.ofNat a.val + 1 + Int32.ofNat g.val) % 2) = false) ∧ own_P 2 (Int32.ofNat f.val) (Int32.ofNat s.val) (Int32.ofNat a.val) ((Int32.ofNat a.val + 1 + Int32.ofNat g.val) % 2) = true := by decide +kernel
theorem own_law2 (fw st a g b : Int32) (hf : fw = 0 ∨ fw = 1) (hs : 0 ≤ st.toInt ∧ st.toInt < (2 : Int32).toInt) (ha : 0 ≤ a.toInt ∧ a.toInt < (2 : Int32).toInt) (hg : 0 ≤ g.toInt ∧ g.toInt < (1 : Int32).toInt) (hb : b = (a + 1 + g) % 2) : ¬ a = b ∧ own_P 2 fw st a b = true := by
  obtain ⟨kf, rfl⟩ : ∃ k : Fin 2, fw = Int32.ofNat k.val := by rcases hf with rfl | rfl; exact ⟨0, rfl⟩; exact ⟨1, rfl⟩
  obtain ⟨ks, rfl⟩ := own_fin 2 st 2 rfl hs
  obtain ⟨ka, rfl⟩ := own_fin 2 a 2 rfl ha
  obtain ⟨kg, rfl⟩ := own_fin 1 g 1 rfl hg
  subst hb
  have h := own_all2 kf ks ka kg
  exact ⟨of_decide_eq_false h.1, h.2⟩
theorem own_all3 : ∀ (f : Fin 2) (s : Fin 3) (a : Fin 3) (g : Fin 2), (decide (Int32.ofNat a.val = (Int32.ofNat a.val + 1 + Int32.ofNat g.val) % 3) = false) ∧ own_P 3 (Int32.ofNat f.val) (Int32.ofNat s.val) (Int32.ofNat a.val) ((Int32.ofNat a.val + 1 + Int32.ofNat g.val) % 3) = true := by decide +kernel
theorem own_law3 (fw st a g b : Int32) (hf : fw = 0 ∨ fw = 1) (hs : 0 ≤ st.toInt ∧ st.toInt < (3 : Int32).toInt) (ha : 0 ≤ a.toInt ∧ a.toInt < (3 : Int32).toInt) (hg : 0 ≤ g.toInt ∧ g.toInt < (2 : Int32).toInt) (hb : b = (a + 1 + g) % 3) : ¬ a = b ∧ own_P 3 fw st a b = true := by
  obtain ⟨kf, rfl⟩ : ∃ k : Fin 2, fw = Int32.ofNat k.val := by rcases hf with rfl | rfl; exact ⟨0, rfl⟩; exact ⟨1, rfl⟩
  obtain ⟨ks, rfl⟩ := own_fin 3 st 3 rfl hs
  obtain ⟨ka, rfl⟩ := own_fin 3 a 3 rfl ha
  obtain ⟨kg, rfl⟩ := own_fin 2 g 2 rfl hg
  subst hb
  have h := own_all3 kf ks ka kg
  exact ⟨of_decide_eq_false h.1, h.2⟩
theorem own_all4 : ∀ (f : Fin 2) (s : Fin 4) (a : Fin 4) (g : Fin 3), (decide (Int32.ofNat a.val = (Int32.ofNat a.val + 1 + Int32.ofNat g.val) % 4) = false) ∧ own_P 4 (Int32.ofNat f.val) (Int32.ofNat s.val) (Int32.ofNat a.val) ((Int32.ofNat a.val + 1 + Int32.ofNat g.val) % 4) = true := by decide +kernel
theorem own_law4 (fw st a g b : Int32) (hf : fw = 0 ∨ fw = 1) (hs : 0 ≤ st.toInt ∧ st.toInt < (4 : Int32).toInt) (ha : 0 ≤ a.toInt ∧ a.toInt < (4 : Int32).toInt) (hg : 0 ≤ g.toInt ∧ g.toInt < (3 : Int32).toInt) (hb : b = (a + 1 + g) % 4) : ¬ a = b ∧ own_P 4 fw st a b = true := by
  obtain ⟨kf, rfl⟩ : ∃ k : Fin 2, fw = Int32.ofNat k.val := by rcases hf with rfl | rfl; exact ⟨0, rfl⟩; exact ⟨1, rfl⟩
  obtain ⟨ks, rfl⟩ := own_fin 4 st 4 rfl hs
  obtain ⟨ka, rfl⟩ := own_fin 4 a 4 rfl ha
  obtain ⟨kg, rfl⟩ := own_fin 3 g 3 rfl hg
  subst hb
  have h := own_all4 kf ks ka kg
  exact ⟨of_decide_eq_false h.1, h.2⟩
theorem own_all5 : ∀ (f : Fin 2) (s : Fin 5) (a : Fin 5) (g : Fin 4), (decide (Int32.ofNat a.val = (Int32.ofNat a.val + 1 + Int32.ofNat g.val) % 5) = false) ∧ own_P 5 (Int32.ofNat f.val) (Int32.ofNat s.val) (Int32.ofNat a.val) ((Int32.ofNat a.val + 1 + Int32.ofNat g.val) % 5) = true := by decide +kernel
theorem own_law5 (fw st a g b : Int32) (hf : fw = 0 ∨ fw = 1) (hs : 0 ≤ st.toInt ∧ st.toInt < (5 : Int32).toInt) (ha : 0 ≤ a.toInt ∧ a.toInt < (5 : Int32).toInt) (hg : 0 ≤ g.toInt ∧ g.toInt < (4 : Int32).toInt) (hb : b = (a + 1 + g) % 5) : ¬ a = b ∧ own_P 5 fw st a b = true := by
  obtain ⟨kf, rfl⟩ : ∃ k : Fin 2, fw = Int32.ofNat k.val := by rcases hf with rfl | rfl; exact ⟨0, rfl⟩; exact ⟨1, rfl⟩
  obtain ⟨ks, rfl⟩ := own_fin 5 st 5 rfl hs
  obtain ⟨ka, rfl⟩ := own_fin 5 a 5 rfl ha
  obtain ⟨kg, rfl⟩ := own_fin 4 g 4 rfl hg
  subst hb
  have h := own_all5 kf ks ka kg
  exact ⟨of_decide_eq_false h.1, h.2⟩
theorem pd216 : parseMethodDescriptor "(I)Ljava/util/List;" = some ⟨[.int], some (.object "java/util/List")⟩ := by decide +kernel
theorem pd217 : parseMethodDescriptor "(Ljava/util/List;)Lcom/example/inscribe/inscribe/geometry/BoundaryOrder;" = some ⟨[(.object "java/util/List")], some (.object "com/example/inscribe/inscribe/geometry/BoundaryOrder")⟩ := by decide +kernel
theorem pd218 : parseMethodDescriptor "(ILcom/example/inscribe/inscribe/geometry/Point;ILcom/example/inscribe/inscribe/geometry/Point;)I" = some ⟨[.int, (.object "com/example/inscribe/inscribe/geometry/Point"), .int, (.object "com/example/inscribe/inscribe/geometry/Point")], some .int⟩ := by decide +kernel
theorem ef0k2 (m : MethodId) (x0 : Int32) (x1 : Int32) (x2 : Int32) (x3 : Int32) (x4 : Int32) : entryFrame m #[(.int x0), (.int x1), (.int x2), (.int x3), (.int x4)] maxLocals = mkF m 0 #[.val (.int x0), .val (.int x1), .val (.int x2), .val (.int x3), .val (.int x4), .unset, .unset, .unset, .unset, .unset, .unset, .unset, .unset, .unset, .unset, .unset, .unset] [] := by first | (simp [entryFrame, mkF, argsToLocals, Value.category, maxLocals]; done) | rfl
def Q0k2 (Z : State) (si : Int32) (sa : Int32) (fl : Int32) (sd : Int32) (gp : Int32) (ad : Addr) (kd : ClassId) (h0 : Heap) (n0 : Nat) (v : Option Value) (h : Heap) (L : List Loc) : Prop := v = some (.int 1) ∧ Fr n0 L
set_option maxRecDepth 65536 in
set_option maxHeartbeats 40000000 in
theorem rm0k2 (l : Launch) (Z : State) (a0 : Array Value) (hw : ∀ d ∈ tables_1, d.before a0 Z = true) (ws : List Jvm.Cond) (si : Int32) (sa : Int32) (fl : Int32) (sd : Int32) (gp : Int32) (ad : Addr) (kd : ClassId) (h0 : Heap) (n0 : Nat) (Z0 : n0 ≤ h0.size) (SD : Sta Z Z.heap "java/util/ArrayList" "DEFAULTCAPACITY_EMPTY_ELEMENTDATA" "[Ljava/lang/Object;" (.ref ad)) (VD : Arv Z Z.heap ad kd (.object "java/lang/Object") (0 : Int32) [] .null) (OL : Old Z n0 h0) (hk : 2 + (si &&& 3) = 2) :
    MetFree l x (head1 (Jvm.Cond.code x code maxLocals ret :: ws) room_1) (fun aa UU => aa = #[(.int si), (.int sa), (.int fl), (.int sd), (.int gp)] ∧ Z.Warmed39 UU.vm ∧ UU.heap = h0) (fun _ _ _ _ _ => True) (fun _ UU oo UU' => ∃ vv LL, oo = .returned vv ∧ Q0k2 Z si sa fl sd gp ad kd h0 n0 vv UU'.heap LL ∧ FrameEnd UU oo UU' LL room_1.cells room_1.slots) := by
  have W : ∀ {d : Jvm.Cond} (i : Nat), tables_1[i]? = some d → d.before a0 Z = true := fun i h => hw _ (List.mem_of_getElem? h)
  refine MetFree.of_bodySF (plainFor_of_name pn86) hisR ?_
  intro p e s m args below meth c s₁ Bd hml0 hP hK
  obtain ⟨rfl, hZ, hh⟩ := hP
  have hx := Bd.exec
  have hby := Bd.bytes
  have hml : c.maxLocals = 17 := hml0
  have hown : s.vm.findClass "com/example/inscribe/inscribe/geometry/BoundaryOrderMirroredPinLaw" = some m.cls := findClass_of_methodNamed Bd.named
  have hnm := (name_of_methodNamed Bd.named Bd.method).1
  have X0 : Stand p l e room_1 s m #[(.int si), (.int sa), (.int fl), (.int sd), (.int gp)] below meth c s₁ [] 0 0 := Stand.of_body Bd
  have e0 : s₁.heap = h0 := by rw [← hh, Bd.state]; rfl
  have N0 := Fr.nil n0
  have pre0 : ∀ tt, Steps p.tables e below (s₁.setTop (mkF m 0 #[iv si, iv sa, iv fl, iv sd, iv gp, .unset, .unset, .unset, .unset, .unset, .unset, .unset, .unset, .unset, .unset, .unset, .unset] [])) tt → Steps p.tables e below (s₁.setTop (entryFrame m #[(.int si), (.int sa), (.int fl), (.int sd), (.int gp)] maxLocals)) tt := fun tt kt => castTop (ef0k2 m si sa fl sd gp) kt
  obtain ⟨ST, hST⟩ : ∃ z : State, z = s₁.setTop (mkF m 0 #[iv si, iv sa, iv fl, iv sd, iv gp, .unset, .unset, .unset, .unset, .unset, .unset, .unset, .unset, .unset, .unset, .unset, .unset] []) := ⟨_, rfl⟩
  rw [← hST] at pre0
  have go519 : own_S p e below ST s₁ (mkF m 7 #[iv si, iv sa, iv fl, iv sd, iv gp, iv ((2 : Int32) + (si &&& (3 : Int32))), .unset, .unset, .unset, .unset, .unset, .unset, .unset, .unset, .unset, .unset, .unset] []) := fun tt kt => (by
      rw [hST]
      show Steps p.tables e below (s₁.setTop (mkF m 0 #[iv si, iv sa, iv fl, iv sd, iv gp, .unset, .unset, .unset, .unset, .unset, .unset, .unset, .unset, .unset, .unset, .unset, .unset] [])) _
      refine XS.iconst X0.here hx rfl (hb hby at_0) ?_
      refine XS.iloadN X0.here hx rfl (hb hby at_1) rfl ?_
      refine XS.iconst X0.here hx rfl (hb hby at_2) ?_
      refine XS.iand X0.here hx rfl (hb hby at_3) rfl ?_
      refine XS.iadd X0.here hx rfl (hb hby at_4) rfl ?_
      refine XS.istore X0.here hx rfl (hb hby at_5) rfl (l' := #[iv si, iv sa, iv fl, iv sd, iv gp, iv ((2 : Int32) + (si &&& (3 : Int32))), .unset, .unset, .unset, .unset, .unset, .unset, .unset, .unset, .unset, .unset, .unset]) rfl ?_
      exact kt)
  rw [hk] at go519
  have go520 : own_S p e below ST s₁ (mkF m 9 #[iv si, iv sa, iv fl, iv sd, iv gp, iv (2 : Int32), .unset, .unset, .unset, .unset, .unset, .unset, .unset, .unset, .unset, .unset, .unset] [(.int (2 : Int32))]) := fun tt kt => go519 tt (by
      refine XS.iload X0.here hx rfl (hb hby at_7) rfl ?_
      exact kt)
  obtain ⟨_, _, ⟨T521, L521, k521, n521⟩, -, X521, ⟨Lc521, hQ521, l521, y521, z521⟩, st521⟩ := Jvm.LawKit.callS X0 hx (y := (⟨"com/example/inscribe/inscribe/geometry/BoundaryOrderMirroredPinLaw", "nulls", "(I)Ljava/util/List;"⟩ : MethodName)) hown (mvT hZ (W 0 rfl)) (mvT hZ (W 1 rfl)) (mvT hZ (W 2 rfl)) (mvT hZ (W 3 rfl)) (by decide) (backOf (W := 0) (rm1k2 l Z a0 hw [] ad kd h0 n0 Z0 SD VD OL) hZ (W 3 rfl) (W 2 rfl) (by decide) (by decide)) (g := (mkF m 9 #[iv si, iv sa, iv fl, iv sd, iv gp, iv (2 : Int32), .unset, .unset, .unset, .unset, .unset, .unset, .unset, .unset, .unset, .unset, .unset] [(.int (2 : Int32))])) rfl (by rw [hml]; rfl) (argsL := [(.int (2 : Int32))]) (rest := []) (lenOf pd216 rfl) rfl (by show 2 * 0 + _ ≤ _; exact Nat.le_of_eq rfl) (hb hby at_9) (fun _ _ => ⟨rfl, e0, (by decide : 0 + 2 ≤ _), (by decide : 0 + 13 ≤ _)⟩)
  dsimp only [Pt.U, Pt.locs, Pt.cells, Pt.slots] at X521 l521 y521 z521 st521 hQ521
  subst l521 y521 z521
  obtain ⟨b521, rfl, Nq521, K521, Eb521, Fb521, gb521, zb521⟩ := hQ521
  have N521 := Fr.app N0 Nq521
  have go522 : own_S p e below ST T521 (mkF m 12 #[iv si, iv sa, iv fl, iv sd, iv gp, iv (2 : Int32), .unset, .unset, .unset, .unset, .unset, .unset, .unset, .unset, .unset, .unset, .unset] [(.ref b521)]) := fun tt kt => go520 tt (st521 _ kt)
  have go523 : own_S p e below ST T521 (mkF m 16 #[iv si, iv sa, iv fl, iv sd, iv gp, iv (2 : Int32), rv b521, .unset, .unset, .unset, .unset, .unset, .unset, .unset, .unset, .unset, .unset] [(.int (2 : Int32))]) := fun tt kt => go522 tt (by
      refine XS.astore X521.here hx rfl (hb hby at_12) rfl rfl (l' := #[iv si, iv sa, iv fl, iv sd, iv gp, iv (2 : Int32), rv b521, .unset, .unset, .unset, .unset, .unset, .unset, .unset, .unset, .unset, .unset]) rfl ?_
      refine XS.iload X521.here hx rfl (hb hby at_14) rfl ?_
      exact kt)
  have f524 := (OL.keep K521 all0)
  have zs526 := (Nat.le_trans Z0 K521.1)
  obtain ⟨_, _, ⟨T525, L525, k525, n525⟩, -, X525, ⟨Lc525, hQ525, l525, y525, z525⟩, st525⟩ := Jvm.LawKit.callS X521 hx (y := (⟨"com/example/inscribe/inscribe/geometry/BoundaryOrderMirroredPinLaw", "nulls", "(I)Ljava/util/List;"⟩ : MethodName)) hown (mvT hZ (W 0 rfl)) (mvT hZ (W 1 rfl)) (mvT hZ (W 2 rfl)) (mvT hZ (W 3 rfl)) (by decide) (backOf (W := 0) (rm1k2 l Z a0 hw [] ad kd T521.heap n0 zs526 SD VD f524) hZ (W 3 rfl) (W 2 rfl) (by decide) (by decide)) (g := (mkF m 16 #[iv si, iv sa, iv fl, iv sd, iv gp, iv (2 : Int32), rv b521, .unset, .unset, .unset, .unset, .unset, .unset, .unset, .unset, .unset, .unset] [(.int (2 : Int32))])) rfl (by rw [hml]; rfl) (argsL := [(.int (2 : Int32))]) (rest := []) (lenOf pd216 rfl) rfl (by show 2 * 0 + _ ≤ _; exact Nat.le_of_eq rfl) (hb hby at_16) (fun _ _ => ⟨rfl, rfl, (by decide : 2 + 2 ≤ _), (by decide : 13 + 13 ≤ _)⟩)
  dsimp only [Pt.U, Pt.locs, Pt.cells, Pt.slots] at X525 l525 y525 z525 st525 hQ525
  subst l525 y525 z525
  obtain ⟨b525, rfl, Nq525, K525, Eb525, Fb525, gb525, zb525⟩ := hQ525
  have N525 := Fr.app N521 Nq525
  have go527 : own_S p e below ST T525 (mkF m 19 #[iv si, iv sa, iv fl, iv sd, iv gp, iv (2 : Int32), rv b521, .unset, .unset, .unset, .unset, .unset, .unset, .unset, .unset, .unset, .unset] [(.ref b525)]) := fun tt kt => go523 tt (st525 _ kt)
  have go528 : own_S p e below ST T525 (mkF m 28 #[iv si, iv sa, iv fl, iv sd, iv gp, iv (2 : Int32), rv b521, rv b525, .unset, .unset, .unset, .unset, .unset, .unset, .unset, .unset, .unset] [(.int ((sa &&& (2147483647 : Int32)) % (2 : Int32)))]) := fun tt kt => go527 tt (by
      refine XS.astore X525.here hx rfl (hb hby at_19) rfl rfl (l' := #[iv si, iv sa, iv fl, iv sd, iv gp, iv (2 : Int32), rv b521, rv b525, .unset, .unset, .unset, .unset, .unset, .unset, .unset, .unset, .unset]) rfl ?_
      refine XS.iloadN X525.here hx rfl (hb hby at_21) rfl ?_
      refine X525.ldcInt hx hown (mvT hZ (W 64 rfl)) (g := (mkF m 22 #[iv si, iv sa, iv fl, iv sd, iv gp, iv (2 : Int32), rv b521, rv b525, .unset, .unset, .unset, .unset, .unset, .unset, .unset, .unset, .unset] [(.int sa)])) rfl (hb hby at_22) _ ?_
      refine XS.iand X525.here hx rfl (hb hby at_24) rfl ?_
      refine XS.iload X525.here hx rfl (hb hby at_25) rfl ?_
      refine iremM (g := (mkF m 27 #[iv si, iv sa, iv fl, iv sd, iv gp, iv (2 : Int32), rv b521, rv b525, .unset, .unset, .unset, .unset, .unset, .unset, .unset, .unset, .unset] [(.int (2 : Int32)), (.int (sa &&& (2147483647 : Int32)))])) X525 hx rfl (hb hby at_27) rfl (by decide) ?_
      exact kt)
  obtain ⟨st, hst⟩ : ∃ z : Int32, z = ((sa &&& (2147483647 : Int32)) % (2 : Int32)) := ⟨_, rfl⟩
  rw [← hst] at go528
  have hs := own_in sa st (2 : Int32) (by decide) hst
  have go529 : own_S p e below ST T525 (mkF m 37 #[iv si, iv sa, iv fl, iv sd, iv gp, iv (2 : Int32), rv b521, rv b525, iv st, .unset, .unset, .unset, .unset, .unset, .unset, .unset, .unset] [(.int ((sd &&& (2147483647 : Int32)) % (2 : Int32)))]) := fun tt kt => go528 tt (by
      refine XS.istore X525.here hx rfl (hb hby at_28) rfl (l' := #[iv si, iv sa, iv fl, iv sd, iv gp, iv (2 : Int32), rv b521, rv b525, iv st, .unset, .unset, .unset, .unset, .unset, .unset, .unset, .unset]) rfl ?_
      refine XS.iloadN X525.here hx rfl (hb hby at_30) rfl ?_
      refine X525.ldcInt hx hown (mvT hZ (W 64 rfl)) (g := (mkF m 31 #[iv si, iv sa, iv fl, iv sd, iv gp, iv (2 : Int32), rv b521, rv b525, iv st, .unset, .unset, .unset, .unset, .unset, .unset, .unset, .unset] [(.int sd)])) rfl (hb hby at_31) _ ?_
      refine XS.iand X525.here hx rfl (hb hby at_33) rfl ?_
      refine XS.iload X525.here hx rfl (hb hby at_34) rfl ?_
      refine iremM (g := (mkF m 36 #[iv si, iv sa, iv fl, iv sd, iv gp, iv (2 : Int32), rv b521, rv b525, iv st, .unset, .unset, .unset, .unset, .unset, .unset, .unset, .unset] [(.int (2 : Int32)), (.int (sd &&& (2147483647 : Int32)))])) X525 hx rfl (hb hby at_36) rfl (by decide) ?_
      exact kt)
  obtain ⟨a', ha'⟩ : ∃ z : Int32, z = ((sd &&& (2147483647 : Int32)) % (2 : Int32)) := ⟨_, rfl⟩
  rw [← ha'] at go529
  have ha := own_in sd a' (2 : Int32) (by decide) ha'
  have go530 : own_S p e below ST T525 (mkF m 57 #[iv si, iv sa, iv fl, iv sd, iv gp, iv (2 : Int32), rv b521, rv b525, iv st, iv a', .unset, .unset, .unset, .unset, .unset, .unset, .unset] [(.int (((a' + (1 : Int32)) + ((gp &&& (2147483647 : Int32)) % (1 : Int32))) % (2 : Int32)))]) := fun tt kt => go529 tt (by
      refine XS.istore X525.here hx rfl (hb hby at_37) rfl (l' := #[iv si, iv sa, iv fl, iv sd, iv gp, iv (2 : Int32), rv b521, rv b525, iv st, iv a', .unset, .unset, .unset, .unset, .unset, .unset, .unset]) rfl ?_
      refine XS.iload X525.here hx rfl (hb hby at_39) rfl ?_
      refine XS.iconst X525.here hx rfl (hb hby at_41) ?_
      refine XS.iadd X525.here hx rfl (hb hby at_42) rfl ?_
      refine XS.iload X525.here hx rfl (hb hby at_43) rfl ?_
      refine X525.ldcInt hx hown (mvT hZ (W 64 rfl)) (g := (mkF m 45 #[iv si, iv sa, iv fl, iv sd, iv gp, iv (2 : Int32), rv b521, rv b525, iv st, iv a', .unset, .unset, .unset, .unset, .unset, .unset, .unset] [(.int gp), (.int (a' + (1 : Int32)))])) rfl (hb hby at_45) _ ?_
      show Steps p.tables e below (T525.setTop (mkF m 47 #[iv si, iv sa, iv fl, iv sd, iv gp, iv (2 : Int32), rv b521, rv b525, iv st, iv a', .unset, .unset, .unset, .unset, .unset, .unset, .unset] [(.int (2147483647 : Int32)), (.int gp), (.int (a' + (1 : Int32)))])) _
      refine XS.iand X525.here hx rfl (hb hby at_47) rfl ?_
      refine XS.iload X525.here hx rfl (hb hby at_48) rfl ?_
      refine XS.iconst X525.here hx rfl (hb hby at_50) ?_
      refine XS.isub X525.here hx rfl (hb hby at_51) rfl ?_
      refine iremM (g := (mkF m 52 #[iv si, iv sa, iv fl, iv sd, iv gp, iv (2 : Int32), rv b521, rv b525, iv st, iv a', .unset, .unset, .unset, .unset, .unset, .unset, .unset] [(.int (1 : Int32)), (.int (gp &&& (2147483647 : Int32))), (.int (a' + (1 : Int32)))])) X525 hx rfl (hb hby at_52) rfl (by decide) ?_
      refine XS.iadd X525.here hx rfl (hb hby at_53) rfl ?_
      show Steps p.tables e below (T525.setTop (mkF m 54 #[iv si, iv sa, iv fl, iv sd, iv gp, iv (2 : Int32), rv b521, rv b525, iv st, iv a', .unset, .unset, .unset, .unset, .unset, .unset, .unset] [(.int ((a' + (1 : Int32)) + ((gp &&& (2147483647 : Int32)) % (1 : Int32))))])) _
      refine XS.iload X525.here hx rfl (hb hby at_54) rfl ?_
      refine iremM (g := (mkF m 56 #[iv si, iv sa, iv fl, iv sd, iv gp, iv (2 : Int32), rv b521, rv b525, iv st, iv a', .unset, .unset, .unset, .unset, .unset, .unset, .unset] [(.int (2 : Int32)), (.int ((a' + (1 : Int32)) + ((gp &&& (2147483647 : Int32)) % (1 : Int32))))])) X525 hx rfl (hb hby at_56) rfl (by decide) ?_
      exact kt)
  obtain ⟨g', hg'⟩ : ∃ z : Int32, z = ((gp &&& (2147483647 : Int32)) % (1 : Int32)) := ⟨_, rfl⟩
  rw [← hg'] at go530
  have hg := own_in gp g' (1 : Int32) (by decide) hg'
  obtain ⟨b', hb'⟩ : ∃ z : Int32, z = (((a' + (1 : Int32)) + g') % (2 : Int32)) := ⟨_, rfl⟩
  rw [← hb'] at go530
  have go531 : own_S p e below ST T525 (mkF m 62 #[iv si, iv sa, iv fl, iv sd, iv gp, iv (2 : Int32), rv b521, rv b525, iv st, iv a', iv b', .unset, .unset, .unset, .unset, .unset, .unset] [(.int (fl &&& (1 : Int32)))]) := fun tt kt => go530 tt (by
      refine XS.istore X525.here hx rfl (hb hby at_57) rfl (l' := #[iv si, iv sa, iv fl, iv sd, iv gp, iv (2 : Int32), rv b521, rv b525, iv st, iv a', iv b', .unset, .unset, .unset, .unset, .unset, .unset]) rfl ?_
      refine XS.iloadN X525.here hx rfl (hb hby at_59) rfl ?_
      refine XS.iconst X525.here hx rfl (hb hby at_60) ?_
      refine XS.iand X525.here hx rfl (hb hby at_61) rfl ?_
      exact kt)
  obtain ⟨fw, hfw, sg532⟩ : ∃ (fw : Int32), fw = (if (fl &&& (1 : Int32)) = (0 : Int32) then (0 : Int32) else (1 : Int32)) ∧ ∀ tt, Steps p.tables e below (T525.setTop (mkF m 70 #[iv si, iv sa, iv fl, iv sd, iv gp, iv (2 : Int32), rv b521, rv b525, iv st, iv a', iv b', .unset, .unset, .unset, .unset, .unset, .unset] [(.int fw)])) tt → Steps p.tables e below (T525.setTop (mkF m 62 #[iv si, iv sa, iv fl, iv sd, iv gp, iv (2 : Int32), rv b521, rv b525, iv st, iv a', iv b', .unset, .unset, .unset, .unset, .unset, .unset] [(.int (fl &&& (1 : Int32)))])) tt := by
    by_cases hd62_0 : (fl &&& (1 : Int32)) = (0 : Int32)
    · refine ⟨_, (if_pos hd62_0).symm, fun tt kt => ?_⟩
      show Steps p.tables e below (T525.setTop (mkF m 62 #[iv si, iv sa, iv fl, iv sd, iv gp, iv (2 : Int32), rv b521, rv b525, iv st, iv a', iv b', .unset, .unset, .unset, .unset, .unset, .unset] [(.int (fl &&& (1 : Int32)))])) _
      refine XS.ifYes X525.here hx rfl (pc0 := 62) (pc' := 69) rfl (hb hby at_62) rfl ((if0 _ _).trans (teq hd62_0).1) (by decide) (by decide) ?_
      refine XS.iconst X525.here hx rfl (hb hby at_69) ?_
      exact kt
    · refine ⟨_, (if_neg hd62_0).symm, fun tt kt => ?_⟩
      show Steps p.tables e below (T525.setTop (mkF m 62 #[iv si, iv sa, iv fl, iv sd, iv gp, iv (2 : Int32), rv b521, rv b525, iv st, iv a', iv b', .unset, .unset, .unset, .unset, .unset, .unset] [(.int (fl &&& (1 : Int32)))])) _
      refine XS.ifNo X525.here hx rfl (hb hby at_62) rfl ((if0 _ _).trans (feq hd62_0).1) ?_
      refine XS.iconst X525.here hx rfl (hb hby at_65) ?_
      refine XS.goto X525.here hx rfl (pc0 := 66) (pc' := 70) rfl (hb hby at_66) (by decide) (by decide) ?_
      exact kt
  have go533 : own_S p e below ST T525 (mkF m 70 #[iv si, iv sa, iv fl, iv sd, iv gp, iv (2 : Int32), rv b521, rv b525, iv st, iv a', iv b', .unset, .unset, .unset, .unset, .unset, .unset] [(.int fw)]) := fun tt kt => go531 tt (sg532 _ kt)
  have hf : fw = 0 ∨ fw = 1 := by rw [hfw]; split <;> simp
  have hab := own_law2 fw st a' g' b' hf hs ha hg hb'
  have go534 : own_S p e below ST T525 (mkF m 72 #[iv si, iv sa, iv fl, iv sd, iv gp, iv (2 : Int32), rv b521, rv b525, iv st, iv a', iv b', iv fw, .unset, .unset, .unset, .unset, .unset] []) := fun tt kt => go533 tt (by
      refine XS.istore X525.here hx rfl (hb hby at_70) rfl (l' := #[iv si, iv sa, iv fl, iv sd, iv gp, iv (2 : Int32), rv b521, rv b525, iv st, iv a', iv b', iv fw, .unset, .unset, .unset, .unset, .unset]) rfl ?_
      exact kt)
  have f536 := (Eb521.keep K525)
  have zs537 := (Nat.le_trans zs526 K525.1)
  obtain ⟨b535, g535⟩ : ∃ z, z = T525.heap.size := ⟨_, rfl⟩
  obtain ⟨T535, h535, X535, e535, E535, A535, D535, -, st535⟩ := newO X525 hx hZ hown (W 65 rfl) (W 66 rfl) (W 67 rfl) rfl (g := (mkF m 72 #[iv si, iv sa, iv fl, iv sd, iv gp, iv (2 : Int32), rv b521, rv b525, iv st, iv a', iv b', iv fw, .unset, .unset, .unset, .unset, .unset] [])) rfl (hb hby at_72) (by decide) (by decide)
  rw [← g535] at A535 D535 st535
  have neb521_b535 : b521 ≠ b535 := Nat.ne_of_lt (Nat.lt_of_lt_of_le f536.lt (Nat.le_of_eq g535.symm))
  have neb525_b535 : b525 ≠ b535 := Nat.ne_of_lt (Nat.lt_of_lt_of_le Eb525.lt (Nat.le_of_eq g535.symm))
  have ge_b535 : n0 ≤ b535 := Nat.le_trans zs537 (Nat.le_of_eq g535.symm)
  have F535_sides : Fld Z h535 b535 "com/example/inscribe/inscribe/geometry/BoundaryOrder" "sides" "Ljava/util/List;" .null := D535 (Or.inr (W 73 rfl)) (ty := (.object "java/util/List")) (by decide)
  have F535_start : Fld Z h535 b535 "com/example/inscribe/inscribe/geometry/BoundaryOrder" "start" "I" (.int (0 : Int32)) := D535 (Or.inr (W 75 rfl)) (ty := .int) (by decide)
  have F535_forward : Fld Z h535 b535 "com/example/inscribe/inscribe/geometry/BoundaryOrder" "forward" "Z" (.int (0 : Int32)) := D535 (Or.inr (W 77 rfl)) (ty := .boolean) (by decide)
  have go538 : own_S p e below ST T535 (mkF m 75 #[iv si, iv sa, iv fl, iv sd, iv gp, iv (2 : Int32), rv b521, rv b525, iv st, iv a', iv b', iv fw, .unset, .unset, .unset, .unset, .unset] [(.ref b535)]) := fun tt kt => go534 tt (st535 _ kt)
  have go539 : own_S p e below ST T535 (mkF m 82 #[iv si, iv sa, iv fl, iv sd, iv gp, iv (2 : Int32), rv b521, rv b525, iv st, iv a', iv b', iv fw, .unset, .unset, .unset, .unset, .unset] [(.int fw), (.int st), (.ref b521), (.ref b535), (.ref b535)]) := fun tt kt => go538 tt (by
      refine XS.dup X535.here hx rfl (hb hby at_75) rfl rfl ?_
      refine XS.aload X535.here hx rfl (hb hby at_76) rfl rfl ?_
      refine XS.iload X535.here hx rfl (hb hby at_78) rfl ?_
      refine XS.iload X535.here hx rfl (hb hby at_80) rfl ?_
      exact kt)
  have zs541 := (Nat.le_trans zs537 E535.1)
  obtain ⟨_, _, ⟨T540, L540, k540, n540⟩, -, X540, ⟨Lc540, hQ540, l540, y540, z540⟩, st540⟩ := X535.specialBack hx (y := (⟨"com/example/inscribe/inscribe/geometry/BoundaryOrder", "<init>", "(Ljava/util/List;IZ)V"⟩ : MethodName)) rfl hown (mvT hZ (W 68 rfl)) (mvT hZ (W 69 rfl)) (mvT hZ (W 70 rfl)) (by decide) (backOf (W := 1) (rm11 l Z a0 hw [] b535 b521 st fw h535 n0 zs541 F535_sides F535_start F535_forward A535 ge_b535) hZ (W 70 rfl) (W 67 rfl) (by decide) (by decide)) (g := (mkF m 82 #[iv si, iv sa, iv fl, iv sd, iv gp, iv (2 : Int32), rv b521, rv b525, iv st, iv a', iv b', iv fw, .unset, .unset, .unset, .unset, .unset] [(.int fw), (.int st), (.ref b521), (.ref b535), (.ref b535)])) rfl (by rw [hml]; rfl) (Steps.refl _) (a := b535) (argsL := [(.ref b521), (.int st), (.int fw)]) (rest := [(.ref b535)]) (lenOf pd148 rfl) rfl (by show 2 * 0 + _ ≤ _; exact Nat.le_of_eq rfl) (hb hby at_82) (fun _ _ => ⟨rfl, e535, (by decide : 5 + 0 ≤ _), (by decide : 29 + 0 ≤ _)⟩)
  dsimp only [Pt.U, Pt.locs, Pt.cells, Pt.slots] at X540 l540 y540 z540 st540 hQ540
  subst l540 y540 z540
  obtain ⟨rfl, Nq540, K540, Fa540, Fb540, Fc540⟩ := hQ540
  have N540 := Fr.app N525 Nq540
  have go542 : own_S p e below ST T540 (mkF m 85 #[iv si, iv sa, iv fl, iv sd, iv gp, iv (2 : Int32), rv b521, rv b525, iv st, iv a', iv b', iv fw, .unset, .unset, .unset, .unset, .unset] [(.ref b535)]) := fun tt kt => go539 tt (st540.trans kt)
  have go543 : own_S p e below ST T540 (mkF m 91 #[iv si, iv sa, iv fl, iv sd, iv gp, iv (2 : Int32), rv b521, rv b525, iv st, iv a', iv b', iv fw, rv b535, .unset, .unset, .unset, .unset] [(.ref b525), (.ref b535)]) := fun tt kt => go542 tt (by
      refine XS.astore X540.here hx rfl (hb hby at_85) rfl rfl (l' := #[iv si, iv sa, iv fl, iv sd, iv gp, iv (2 : Int32), rv b521, rv b525, iv st, iv a', iv b', iv fw, rv b535, .unset, .unset, .unset, .unset]) rfl ?_
      refine XS.aload X540.here hx rfl (hb hby at_87) rfl rfl ?_
      refine XS.aload X540.here hx rfl (hb hby at_89) rfl rfl ?_
      exact kt)
  have zs545 := (Nat.le_trans zs541 K540.1)
  have f546 := (A535.keep K540)
  obtain ⟨cq544, kq544, q544a, q544b, q544c⟩ := isOf hZ rfl f546
  obtain ⟨_, _, ⟨T544, L544, k544, n544⟩, -, X544, ⟨Lc544, hQ544, l544, y544, z544⟩, st544⟩ := X540.virtualBack hx (y := (⟨"com/example/inscribe/inscribe/geometry/BoundaryOrder", "mirrored", "(Ljava/util/List;)Lcom/example/inscribe/inscribe/geometry/BoundaryOrder;"⟩ : MethodName)) (z := (⟨"com/example/inscribe/inscribe/geometry/BoundaryOrder", "mirrored", "(Ljava/util/List;)Lcom/example/inscribe/inscribe/geometry/BoundaryOrder;"⟩ : MethodName)) hown (mvT hZ (W 78 rfl)) (mvT hZ (W 79 rfl)) (notFace_of_selects (args := #[]) (mvT hZ (W 81 rfl))) (mvT hZ (W 81 rfl)) (mvT hZ (W 80 rfl)) (by decide) (backOf (W := 0) (rm12 l Z a0 hw [] b535 b525 st (nar .boolean fw) T540.heap n0 zs545 Fb540 Fc540) hZ (W 82 rfl) (W 67 rfl) (by decide) (by decide)) q544a q544c (g := (mkF m 91 #[iv si, iv sa, iv fl, iv sd, iv gp, iv (2 : Int32), rv b521, rv b525, iv st, iv a', iv b', iv fw, rv b535, .unset, .unset, .unset, .unset] [(.ref b525), (.ref b535)])) rfl (by rw [hml]; rfl) (Steps.refl _) (argsL := [(.ref b525)]) (rest := []) (lenOf pd217 rfl) rfl (by show 2 * 0 + _ ≤ _; exact Nat.le_of_eq rfl) (hb hby at_91) (fun _ _ => ⟨rfl, rfl, (by decide : 5 + 1 ≤ _), (by decide : 29 + 3 ≤ _)⟩)
  dsimp only [Pt.U, Pt.locs, Pt.cells, Pt.slots] at X544 l544 y544 z544 st544 hQ544
  subst l544 y544 z544
  obtain ⟨b544, rfl, Nq544, K544, Eb544, Fa544, Fb544, Fc544, zb544⟩ := hQ544
  have N544 := Fr.app N540 Nq544
  have go547 : own_S p e below ST T544 (mkF m 94 #[iv si, iv sa, iv fl, iv sd, iv gp, iv (2 : Int32), rv b521, rv b525, iv st, iv a', iv b', iv fw, rv b535, .unset, .unset, .unset, .unset] [(.ref b544)]) := fun tt kt => go543 tt (st544.trans kt)
  have go548 : own_S p e below ST T544 (mkF m 109 #[iv si, iv sa, iv fl, iv sd, iv gp, iv (2 : Int32), rv b521, rv b525, iv st, iv a', iv b', iv fw, rv b535, rv b544, .val .null, .unset, .unset] [.null, (.int a'), .null, (.int b'), (.ref b535)]) := fun tt kt => go547 tt (by
      refine XS.astore X544.here hx rfl (hb hby at_94) rfl rfl (l' := #[iv si, iv sa, iv fl, iv sd, iv gp, iv (2 : Int32), rv b521, rv b525, iv st, iv a', iv b', iv fw, rv b535, rv b544, .unset, .unset, .unset]) rfl ?_
      refine XS.aconstNull X544.here hx rfl (hb hby at_96) ?_
      refine XS.astore X544.here hx rfl (hb hby at_97) rfl rfl (l' := #[iv si, iv sa, iv fl, iv sd, iv gp, iv (2 : Int32), rv b521, rv b525, iv st, iv a', iv b', iv fw, rv b535, rv b544, .val .null, .unset, .unset]) rfl ?_
      refine XS.aload X544.here hx rfl (hb hby at_99) rfl rfl ?_
      refine XS.iload X544.here hx rfl (hb hby at_101) rfl ?_
      refine XS.aload X544.here hx rfl (hb hby at_103) rfl rfl ?_
      show Steps p.tables e below (T544.setTop (mkF m 105 #[iv si, iv sa, iv fl, iv sd, iv gp, iv (2 : Int32), rv b521, rv b525, iv st, iv a', iv b', iv fw, rv b535, rv b544, .val .null, .unset, .unset] [.null, (.int b'), (.ref b535)])) _
      refine XS.iload X544.here hx rfl (hb hby at_105) rfl ?_
      refine XS.aload X544.here hx rfl (hb hby at_107) rfl rfl ?_
      exact kt)
  have f549 := (Fa540.keep K544 nin0)
  have f550 := (Fb540.keep K544 nin0)
  have f551 := (Fc540.keep K544 nin0)
  have f552 := (((f536.ext E535).keep K540).keep K544)
  have f553 := ((((Fb521.keep K525 nin0).ext E535).keep K540 (ninS neb521_b535 nin0)).keep K544 nin0)
  have f554 := (f546.keep K544)
  have zs556 := (Nat.le_trans zs545 K544.1)
  obtain ⟨cq555, kq555, q555a, q555b, q555c⟩ := isOf hZ rfl f554
  obtain ⟨_, _, ⟨T555, L555, k555, n555⟩, -, X555, ⟨Lc555, hQ555, l555, y555, z555⟩, st555⟩ := X544.virtualBack hx (y := (⟨"com/example/inscribe/inscribe/geometry/BoundaryOrder", "compare", "(ILcom/example/inscribe/inscribe/geometry/Point;ILcom/example/inscribe/inscribe/geometry/Point;)I"⟩ : MethodName)) (z := (⟨"com/example/inscribe/inscribe/geometry/BoundaryOrder", "compare", "(ILcom/example/inscribe/inscribe/geometry/Point;ILcom/example/inscribe/inscribe/geometry/Point;)I"⟩ : MethodName)) hown (mvT hZ (W 85 rfl)) (mvT hZ (W 86 rfl)) (notFace_of_selects (args := #[]) (mvT hZ (W 88 rfl))) (mvT hZ (W 88 rfl)) (mvT hZ (W 87 rfl)) (by decide) (backOf (W := 0) (rm13 l Z a0 hw [] b535 b521 st (nar .boolean fw) (2 : Int32) b' a' T544.heap n0 zs556 f549 f550 f551 f552 f553 (by decide) f554 (Ne.symm hab.1)) hZ (W 89 rfl) (W 67 rfl) (by decide) (by decide)) q555a q555c (g := (mkF m 109 #[iv si, iv sa, iv fl, iv sd, iv gp, iv (2 : Int32), rv b521, rv b525, iv st, iv a', iv b', iv fw, rv b535, rv b544, .val .null, .unset, .unset] [.null, (.int a'), .null, (.int b'), (.ref b535)])) rfl (by rw [hml]; rfl) (Steps.refl _) (argsL := [(.int b'), .null, (.int a'), .null]) (rest := []) (lenOf pd218 rfl) rfl (by show 2 * 0 + _ ≤ _; exact Nat.le_of_eq rfl) (hb hby at_109) (fun _ _ => ⟨rfl, rfl, (by decide : 6 + 0 ≤ _), (by decide : 32 + 0 ≤ _)⟩)
  dsimp only [Pt.U, Pt.locs, Pt.cells, Pt.slots] at X555 l555 y555 z555 st555 hQ555
  subst l555 y555 z555
  obtain ⟨rfl, Nq555, eh555⟩ := hQ555
  have N555 := Fr.app N544 Nq555
  have go557 : own_S p e below ST T555 (mkF m 112 #[iv si, iv sa, iv fl, iv sd, iv gp, iv (2 : Int32), rv b521, rv b525, iv st, iv a', iv b', iv fw, rv b535, rv b544, .val .null, .unset, .unset] [(.int (own_cmp (own_sw (nar .boolean fw) st (2 : Int32) b') (own_sw (nar .boolean fw) st (2 : Int32) a')))]) := fun tt kt => go548 tt (st555.trans kt)
  obtain ⟨bef, hbef⟩ : ∃ z : Int32, z = (own_cmp (own_sw (nar .boolean fw) st (2 : Int32) b') (own_sw (nar .boolean fw) st (2 : Int32) a')) := ⟨_, rfl⟩
  rw [← hbef] at go557
  have go558 : own_S p e below ST T555 (mkF m 124 #[iv si, iv sa, iv fl, iv sd, iv gp, iv (2 : Int32), rv b521, rv b525, iv st, iv a', iv b', iv fw, rv b535, rv b544, .val .null, iv bef, .unset] [.null, (.int b'), .null, (.int a'), (.ref b544)]) := fun tt kt => go557 tt (by
      refine XS.istore X555.here hx rfl (hb hby at_112) rfl (l' := #[iv si, iv sa, iv fl, iv sd, iv gp, iv (2 : Int32), rv b521, rv b525, iv st, iv a', iv b', iv fw, rv b535, rv b544, .val .null, iv bef, .unset]) rfl ?_
      refine XS.aload X555.here hx rfl (hb hby at_114) rfl rfl ?_
      refine XS.iload X555.here hx rfl (hb hby at_116) rfl ?_
      refine XS.aload X555.here hx rfl (hb hby at_118) rfl rfl ?_
      refine XS.iload X555.here hx rfl (hb hby at_120) rfl ?_
      refine XS.aload X555.here hx rfl (hb hby at_122) rfl rfl ?_
      exact kt)
  have f559 := (((Eb525.ext E535).keep K540).keep K544)
  have f560 := (((Fb525.ext E535).keep K540 (ninS neb525_b535 nin0)).keep K544 nin0)
  obtain ⟨cq561, kq561, q561a, q561b, q561c⟩ := isOf hZ eh555 Eb544
  obtain ⟨_, _, ⟨T561, L561, k561, n561⟩, -, X561, ⟨Lc561, hQ561, l561, y561, z561⟩, st561⟩ := X555.virtualBack hx (y := (⟨"com/example/inscribe/inscribe/geometry/BoundaryOrder", "compare", "(ILcom/example/inscribe/inscribe/geometry/Point;ILcom/example/inscribe/inscribe/geometry/Point;)I"⟩ : MethodName)) (z := (⟨"com/example/inscribe/inscribe/geometry/BoundaryOrder", "compare", "(ILcom/example/inscribe/inscribe/geometry/Point;ILcom/example/inscribe/inscribe/geometry/Point;)I"⟩ : MethodName)) hown (mvT hZ (W 85 rfl)) (mvT hZ (W 86 rfl)) (notFace_of_selects (args := #[]) (mvT hZ (W 88 rfl))) (mvT hZ (W 88 rfl)) (mvT hZ (W 87 rfl)) (by decide) (backOf (W := 0) (rm13 l Z a0 hw [] b544 b525 st (own_not (nar .boolean fw)) (2 : Int32) a' b' T544.heap n0 zs556 Fa544 Fb544 Fc544 f559 f560 (by decide) Eb544 hab.1) hZ (W 89 rfl) (W 67 rfl) (by decide) (by decide)) q561a q561c (g := (mkF m 124 #[iv si, iv sa, iv fl, iv sd, iv gp, iv (2 : Int32), rv b521, rv b525, iv st, iv a', iv b', iv fw, rv b535, rv b544, .val .null, iv bef, .unset] [.null, (.int b'), .null, (.int a'), (.ref b544)])) rfl (by rw [hml]; rfl) (Steps.refl _) (argsL := [(.int a'), .null, (.int b'), .null]) (rest := []) (lenOf pd218 rfl) rfl (by show 2 * 0 + _ ≤ _; exact Nat.le_of_eq rfl) (hb hby at_124) (fun _ _ => ⟨rfl, eh555, (by decide : 6 + 0 ≤ _), (by decide : 32 + 0 ≤ _)⟩)
  dsimp only [Pt.U, Pt.locs, Pt.cells, Pt.slots] at X561 l561 y561 z561 st561 hQ561
  subst l561 y561 z561
  obtain ⟨rfl, Nq561, eh561⟩ := hQ561
  have N561 := Fr.app N555 Nq561
  have go562 : own_S p e below ST T561 (mkF m 127 #[iv si, iv sa, iv fl, iv sd, iv gp, iv (2 : Int32), rv b521, rv b525, iv st, iv a', iv b', iv fw, rv b535, rv b544, .val .null, iv bef, .unset] [(.int (own_cmp (own_sw (own_not (nar .boolean fw)) st (2 : Int32) a') (own_sw (own_not (nar .boolean fw)) st (2 : Int32) b')))]) := fun tt kt => go558 tt (st561.trans kt)
  obtain ⟨aft, haft⟩ : ∃ z : Int32, z = (own_cmp (own_sw (own_not (nar .boolean fw)) st (2 : Int32) a') (own_sw (own_not (nar .boolean fw)) st (2 : Int32) b')) := ⟨_, rfl⟩
  rw [← haft] at go562
  have hp : aft = bef ∧ ¬ aft = 0 := by rw [haft, hbef]; have q := hab.2; unfold own_P at q; simpa using q
  have go563 : own_S p e below ST T561 (mkF m 133 #[iv si, iv sa, iv fl, iv sd, iv gp, iv (2 : Int32), rv b521, rv b525, iv st, iv a', iv b', iv fw, rv b535, rv b544, .val .null, iv bef, iv aft] [(.int bef), (.int aft)]) := fun tt kt => go562 tt (by
      refine XS.istore X561.here hx rfl (hb hby at_127) rfl (l' := #[iv si, iv sa, iv fl, iv sd, iv gp, iv (2 : Int32), rv b521, rv b525, iv st, iv a', iv b', iv fw, rv b535, rv b544, .val .null, iv bef, iv aft]) rfl ?_
      refine XS.iload X561.here hx rfl (hb hby at_129) rfl ?_
      refine XS.iload X561.here hx rfl (hb hby at_131) rfl ?_
      exact kt)
  have go564 : own_S p e below ST T561 (mkF m 138 #[iv si, iv sa, iv fl, iv sd, iv gp, iv (2 : Int32), rv b521, rv b525, iv st, iv a', iv b', iv fw, rv b535, rv b544, .val .null, iv bef, iv aft] [(.int aft)]) := fun tt kt => go563 tt (by
      refine XS.icmpNo X561.here hx rfl (hb hby at_133) rfl (teq hp.1).2 ?_
      refine XS.iload X561.here hx rfl (hb hby at_136) rfl ?_
      exact kt)
  have go565 : own_S p e below ST T561 (mkF m 146 #[iv si, iv sa, iv fl, iv sd, iv gp, iv (2 : Int32), rv b521, rv b525, iv st, iv a', iv b', iv fw, rv b535, rv b544, .val .null, iv bef, iv aft] [(.int (1 : Int32))]) := fun tt kt => go564 tt (by
      refine XS.ifNo X561.here hx rfl (hb hby at_138) rfl ((if0 _ _).trans (feq hp.2).1) ?_
      refine XS.iconst X561.here hx rfl (hb hby at_141) ?_
      refine XS.goto X561.here hx rfl (pc0 := 142) (pc' := 146) rfl (hb hby at_142) (by decide) (by decide) ?_
      exact kt)
  obtain ⟨fs, hr, hrun, hended, hW, hsame⟩ := X561.leave (v := some (.int (1 : Int32))) (fun h => by rw [Bd.returns] at h; cases h)
  refine ⟨_, _, pre0 _ (go565 _ ?_), hrun, hended, _, _, rfl, ?_, ⟨_, rfl⟩, hW, hsame.mono (by decide) (by decide)⟩
  · exact retN X561 hx (t := .boolean) Bd.returns (by simp) (hb hby at_146) hr
  · show Q0k2 Z si sa fl sd gp ad kd h0 n0 _ T561.heap _
    rw [eh561]
    exact ⟨rfl, N561⟩
theorem ef0k3 (m : MethodId) (x0 : Int32) (x1 : Int32) (x2 : Int32) (x3 : Int32) (x4 : Int32) : entryFrame m #[(.int x0), (.int x1), (.int x2), (.int x3), (.int x4)] maxLocals = mkF m 0 #[.val (.int x0), .val (.int x1), .val (.int x2), .val (.int x3), .val (.int x4), .unset, .unset, .unset, .unset, .unset, .unset, .unset, .unset, .unset, .unset, .unset, .unset] [] := by first | (simp [entryFrame, mkF, argsToLocals, Value.category, maxLocals]; done) | rfl
def Q0k3 (Z : State) (si : Int32) (sa : Int32) (fl : Int32) (sd : Int32) (gp : Int32) (ad : Addr) (kd : ClassId) (h0 : Heap) (n0 : Nat) (v : Option Value) (h : Heap) (L : List Loc) : Prop := v = some (.int 1) ∧ Fr n0 L
set_option maxRecDepth 65536 in
set_option maxHeartbeats 40000000 in
theorem rm0k3 (l : Launch) (Z : State) (a0 : Array Value) (hw : ∀ d ∈ tables_1, d.before a0 Z = true) (ws : List Jvm.Cond) (si : Int32) (sa : Int32) (fl : Int32) (sd : Int32) (gp : Int32) (ad : Addr) (kd : ClassId) (h0 : Heap) (n0 : Nat) (Z0 : n0 ≤ h0.size) (SD : Sta Z Z.heap "java/util/ArrayList" "DEFAULTCAPACITY_EMPTY_ELEMENTDATA" "[Ljava/lang/Object;" (.ref ad)) (VD : Arv Z Z.heap ad kd (.object "java/lang/Object") (0 : Int32) [] .null) (OL : Old Z n0 h0) (hk : 2 + (si &&& 3) = 3) :
    MetFree l x (head1 (Jvm.Cond.code x code maxLocals ret :: ws) room_1) (fun aa UU => aa = #[(.int si), (.int sa), (.int fl), (.int sd), (.int gp)] ∧ Z.Warmed39 UU.vm ∧ UU.heap = h0) (fun _ _ _ _ _ => True) (fun _ UU oo UU' => ∃ vv LL, oo = .returned vv ∧ Q0k3 Z si sa fl sd gp ad kd h0 n0 vv UU'.heap LL ∧ FrameEnd UU oo UU' LL room_1.cells room_1.slots) := by
  have W : ∀ {d : Jvm.Cond} (i : Nat), tables_1[i]? = some d → d.before a0 Z = true := fun i h => hw _ (List.mem_of_getElem? h)
  refine MetFree.of_bodySF (plainFor_of_name pn86) hisR ?_
  intro p e s m args below meth c s₁ Bd hml0 hP hK
  obtain ⟨rfl, hZ, hh⟩ := hP
  have hx := Bd.exec
  have hby := Bd.bytes
  have hml : c.maxLocals = 17 := hml0
  have hown : s.vm.findClass "com/example/inscribe/inscribe/geometry/BoundaryOrderMirroredPinLaw" = some m.cls := findClass_of_methodNamed Bd.named
  have hnm := (name_of_methodNamed Bd.named Bd.method).1
  have X0 : Stand p l e room_1 s m #[(.int si), (.int sa), (.int fl), (.int sd), (.int gp)] below meth c s₁ [] 0 0 := Stand.of_body Bd
  have e0 : s₁.heap = h0 := by rw [← hh, Bd.state]; rfl
  have N0 := Fr.nil n0
  have pre0 : ∀ tt, Steps p.tables e below (s₁.setTop (mkF m 0 #[iv si, iv sa, iv fl, iv sd, iv gp, .unset, .unset, .unset, .unset, .unset, .unset, .unset, .unset, .unset, .unset, .unset, .unset] [])) tt → Steps p.tables e below (s₁.setTop (entryFrame m #[(.int si), (.int sa), (.int fl), (.int sd), (.int gp)] maxLocals)) tt := fun tt kt => castTop (ef0k3 m si sa fl sd gp) kt
  obtain ⟨ST, hST⟩ : ∃ z : State, z = s₁.setTop (mkF m 0 #[iv si, iv sa, iv fl, iv sd, iv gp, .unset, .unset, .unset, .unset, .unset, .unset, .unset, .unset, .unset, .unset, .unset, .unset] []) := ⟨_, rfl⟩
  rw [← hST] at pre0
  have go566 : own_S p e below ST s₁ (mkF m 7 #[iv si, iv sa, iv fl, iv sd, iv gp, iv ((2 : Int32) + (si &&& (3 : Int32))), .unset, .unset, .unset, .unset, .unset, .unset, .unset, .unset, .unset, .unset, .unset] []) := fun tt kt => (by
      rw [hST]
      show Steps p.tables e below (s₁.setTop (mkF m 0 #[iv si, iv sa, iv fl, iv sd, iv gp, .unset, .unset, .unset, .unset, .unset, .unset, .unset, .unset, .unset, .unset, .unset, .unset] [])) _
      refine XS.iconst X0.here hx rfl (hb hby at_0) ?_
      refine XS.iloadN X0.here hx rfl (hb hby at_1) rfl ?_
      refine XS.iconst X0.here hx rfl (hb hby at_2) ?_
      refine XS.iand X0.here hx rfl (hb hby at_3) rfl ?_
      refine XS.iadd X0.here hx rfl (hb hby at_4) rfl ?_
      refine XS.istore X0.here hx rfl (hb hby at_5) rfl (l' := #[iv si, iv sa, iv fl, iv sd, iv gp, iv ((2 : Int32) + (si &&& (3 : Int32))), .unset, .unset, .unset, .unset, .unset, .unset, .unset, .unset, .unset, .unset, .unset]) rfl ?_
      exact kt)
  rw [hk] at go566
  have go567 : own_S p e below ST s₁ (mkF m 9 #[iv si, iv sa, iv fl, iv sd, iv gp, iv (3 : Int32), .unset, .unset, .unset, .unset, .unset, .unset, .unset, .unset, .unset, .unset, .unset] [(.int (3 : Int32))]) := fun tt kt => go566 tt (by
      refine XS.iload X0.here hx rfl (hb hby at_7) rfl ?_
      exact kt)
  obtain ⟨_, _, ⟨T568, L568, k568, n568⟩, -, X568, ⟨Lc568, hQ568, l568, y568, z568⟩, st568⟩ := Jvm.LawKit.callS X0 hx (y := (⟨"com/example/inscribe/inscribe/geometry/BoundaryOrderMirroredPinLaw", "nulls", "(I)Ljava/util/List;"⟩ : MethodName)) hown (mvT hZ (W 0 rfl)) (mvT hZ (W 1 rfl)) (mvT hZ (W 2 rfl)) (mvT hZ (W 3 rfl)) (by decide) (backOf (W := 0) (rm1k3 l Z a0 hw [] ad kd h0 n0 Z0 SD VD OL) hZ (W 3 rfl) (W 2 rfl) (by decide) (by decide)) (g := (mkF m 9 #[iv si, iv sa, iv fl, iv sd, iv gp, iv (3 : Int32), .unset, .unset, .unset, .unset, .unset, .unset, .unset, .unset, .unset, .unset, .unset] [(.int (3 : Int32))])) rfl (by rw [hml]; rfl) (argsL := [(.int (3 : Int32))]) (rest := []) (lenOf pd216 rfl) rfl (by show 2 * 0 + _ ≤ _; exact Nat.le_of_eq rfl) (hb hby at_9) (fun _ _ => ⟨rfl, e0, (by decide : 0 + 2 ≤ _), (by decide : 0 + 13 ≤ _)⟩)
  dsimp only [Pt.U, Pt.locs, Pt.cells, Pt.slots] at X568 l568 y568 z568 st568 hQ568
  subst l568 y568 z568
  obtain ⟨b568, rfl, Nq568, K568, Eb568, Fb568, gb568, zb568⟩ := hQ568
  have N568 := Fr.app N0 Nq568
  have go569 : own_S p e below ST T568 (mkF m 12 #[iv si, iv sa, iv fl, iv sd, iv gp, iv (3 : Int32), .unset, .unset, .unset, .unset, .unset, .unset, .unset, .unset, .unset, .unset, .unset] [(.ref b568)]) := fun tt kt => go567 tt (st568 _ kt)
  have go570 : own_S p e below ST T568 (mkF m 16 #[iv si, iv sa, iv fl, iv sd, iv gp, iv (3 : Int32), rv b568, .unset, .unset, .unset, .unset, .unset, .unset, .unset, .unset, .unset, .unset] [(.int (3 : Int32))]) := fun tt kt => go569 tt (by
      refine XS.astore X568.here hx rfl (hb hby at_12) rfl rfl (l' := #[iv si, iv sa, iv fl, iv sd, iv gp, iv (3 : Int32), rv b568, .unset, .unset, .unset, .unset, .unset, .unset, .unset, .unset, .unset, .unset]) rfl ?_
      refine XS.iload X568.here hx rfl (hb hby at_14) rfl ?_
      exact kt)
  have f571 := (OL.keep K568 all0)
  have zs573 := (Nat.le_trans Z0 K568.1)
  obtain ⟨_, _, ⟨T572, L572, k572, n572⟩, -, X572, ⟨Lc572, hQ572, l572, y572, z572⟩, st572⟩ := Jvm.LawKit.callS X568 hx (y := (⟨"com/example/inscribe/inscribe/geometry/BoundaryOrderMirroredPinLaw", "nulls", "(I)Ljava/util/List;"⟩ : MethodName)) hown (mvT hZ (W 0 rfl)) (mvT hZ (W 1 rfl)) (mvT hZ (W 2 rfl)) (mvT hZ (W 3 rfl)) (by decide) (backOf (W := 0) (rm1k3 l Z a0 hw [] ad kd T568.heap n0 zs573 SD VD f571) hZ (W 3 rfl) (W 2 rfl) (by decide) (by decide)) (g := (mkF m 16 #[iv si, iv sa, iv fl, iv sd, iv gp, iv (3 : Int32), rv b568, .unset, .unset, .unset, .unset, .unset, .unset, .unset, .unset, .unset, .unset] [(.int (3 : Int32))])) rfl (by rw [hml]; rfl) (argsL := [(.int (3 : Int32))]) (rest := []) (lenOf pd216 rfl) rfl (by show 2 * 0 + _ ≤ _; exact Nat.le_of_eq rfl) (hb hby at_16) (fun _ _ => ⟨rfl, rfl, (by decide : 2 + 2 ≤ _), (by decide : 13 + 13 ≤ _)⟩)
  dsimp only [Pt.U, Pt.locs, Pt.cells, Pt.slots] at X572 l572 y572 z572 st572 hQ572
  subst l572 y572 z572
  obtain ⟨b572, rfl, Nq572, K572, Eb572, Fb572, gb572, zb572⟩ := hQ572
  have N572 := Fr.app N568 Nq572
  have go574 : own_S p e below ST T572 (mkF m 19 #[iv si, iv sa, iv fl, iv sd, iv gp, iv (3 : Int32), rv b568, .unset, .unset, .unset, .unset, .unset, .unset, .unset, .unset, .unset, .unset] [(.ref b572)]) := fun tt kt => go570 tt (st572 _ kt)
  have go575 : own_S p e below ST T572 (mkF m 28 #[iv si, iv sa, iv fl, iv sd, iv gp, iv (3 : Int32), rv b568, rv b572, .unset, .unset, .unset, .unset, .unset, .unset, .unset, .unset, .unset] [(.int ((sa &&& (2147483647 : Int32)) % (3 : Int32)))]) := fun tt kt => go574 tt (by
      refine XS.astore X572.here hx rfl (hb hby at_19) rfl rfl (l' := #[iv si, iv sa, iv fl, iv sd, iv gp, iv (3 : Int32), rv b568, rv b572, .unset, .unset, .unset, .unset, .unset, .unset, .unset, .unset, .unset]) rfl ?_
      refine XS.iloadN X572.here hx rfl (hb hby at_21) rfl ?_
      refine X572.ldcInt hx hown (mvT hZ (W 64 rfl)) (g := (mkF m 22 #[iv si, iv sa, iv fl, iv sd, iv gp, iv (3 : Int32), rv b568, rv b572, .unset, .unset, .unset, .unset, .unset, .unset, .unset, .unset, .unset] [(.int sa)])) rfl (hb hby at_22) _ ?_
      refine XS.iand X572.here hx rfl (hb hby at_24) rfl ?_
      refine XS.iload X572.here hx rfl (hb hby at_25) rfl ?_
      refine iremM (g := (mkF m 27 #[iv si, iv sa, iv fl, iv sd, iv gp, iv (3 : Int32), rv b568, rv b572, .unset, .unset, .unset, .unset, .unset, .unset, .unset, .unset, .unset] [(.int (3 : Int32)), (.int (sa &&& (2147483647 : Int32)))])) X572 hx rfl (hb hby at_27) rfl (by decide) ?_
      exact kt)
  obtain ⟨st, hst⟩ : ∃ z : Int32, z = ((sa &&& (2147483647 : Int32)) % (3 : Int32)) := ⟨_, rfl⟩
  rw [← hst] at go575
  have hs := own_in sa st (3 : Int32) (by decide) hst
  have go576 : own_S p e below ST T572 (mkF m 37 #[iv si, iv sa, iv fl, iv sd, iv gp, iv (3 : Int32), rv b568, rv b572, iv st, .unset, .unset, .unset, .unset, .unset, .unset, .unset, .unset] [(.int ((sd &&& (2147483647 : Int32)) % (3 : Int32)))]) := fun tt kt => go575 tt (by
      refine XS.istore X572.here hx rfl (hb hby at_28) rfl (l' := #[iv si, iv sa, iv fl, iv sd, iv gp, iv (3 : Int32), rv b568, rv b572, iv st, .unset, .unset, .unset, .unset, .unset, .unset, .unset, .unset]) rfl ?_
      refine XS.iloadN X572.here hx rfl (hb hby at_30) rfl ?_
      refine X572.ldcInt hx hown (mvT hZ (W 64 rfl)) (g := (mkF m 31 #[iv si, iv sa, iv fl, iv sd, iv gp, iv (3 : Int32), rv b568, rv b572, iv st, .unset, .unset, .unset, .unset, .unset, .unset, .unset, .unset] [(.int sd)])) rfl (hb hby at_31) _ ?_
      refine XS.iand X572.here hx rfl (hb hby at_33) rfl ?_
      refine XS.iload X572.here hx rfl (hb hby at_34) rfl ?_
      refine iremM (g := (mkF m 36 #[iv si, iv sa, iv fl, iv sd, iv gp, iv (3 : Int32), rv b568, rv b572, iv st, .unset, .unset, .unset, .unset, .unset, .unset, .unset, .unset] [(.int (3 : Int32)), (.int (sd &&& (2147483647 : Int32)))])) X572 hx rfl (hb hby at_36) rfl (by decide) ?_
      exact kt)
  obtain ⟨a', ha'⟩ : ∃ z : Int32, z = ((sd &&& (2147483647 : Int32)) % (3 : Int32)) := ⟨_, rfl⟩
  rw [← ha'] at go576
  have ha := own_in sd a' (3 : Int32) (by decide) ha'
  have go577 : own_S p e below ST T572 (mkF m 57 #[iv si, iv sa, iv fl, iv sd, iv gp, iv (3 : Int32), rv b568, rv b572, iv st, iv a', .unset, .unset, .unset, .unset, .unset, .unset, .unset] [(.int (((a' + (1 : Int32)) + ((gp &&& (2147483647 : Int32)) % (2 : Int32))) % (3 : Int32)))]) := fun tt kt => go576 tt (by
      refine XS.istore X572.here hx rfl (hb hby at_37) rfl (l' := #[iv si, iv sa, iv fl, iv sd, iv gp, iv (3 : Int32), rv b568, rv b572, iv st, iv a', .unset, .unset, .unset, .unset, .unset, .unset, .unset]) rfl ?_
      refine XS.iload X572.here hx rfl (hb hby at_39) rfl ?_
      refine XS.iconst X572.here hx rfl (hb hby at_41) ?_
      refine XS.iadd X572.here hx rfl (hb hby at_42) rfl ?_
      refine XS.iload X572.here hx rfl (hb hby at_43) rfl ?_
      refine X572.ldcInt hx hown (mvT hZ (W 64 rfl)) (g := (mkF m 45 #[iv si, iv sa, iv fl, iv sd, iv gp, iv (3 : Int32), rv b568, rv b572, iv st, iv a', .unset, .unset, .unset, .unset, .unset, .unset, .unset] [(.int gp), (.int (a' + (1 : Int32)))])) rfl (hb hby at_45) _ ?_
      show Steps p.tables e below (T572.setTop (mkF m 47 #[iv si, iv sa, iv fl, iv sd, iv gp, iv (3 : Int32), rv b568, rv b572, iv st, iv a', .unset, .unset, .unset, .unset, .unset, .unset, .unset] [(.int (2147483647 : Int32)), (.int gp), (.int (a' + (1 : Int32)))])) _
      refine XS.iand X572.here hx rfl (hb hby at_47) rfl ?_
      refine XS.iload X572.here hx rfl (hb hby at_48) rfl ?_
      refine XS.iconst X572.here hx rfl (hb hby at_50) ?_
      refine XS.isub X572.here hx rfl (hb hby at_51) rfl ?_
      refine iremM (g := (mkF m 52 #[iv si, iv sa, iv fl, iv sd, iv gp, iv (3 : Int32), rv b568, rv b572, iv st, iv a', .unset, .unset, .unset, .unset, .unset, .unset, .unset] [(.int (2 : Int32)), (.int (gp &&& (2147483647 : Int32))), (.int (a' + (1 : Int32)))])) X572 hx rfl (hb hby at_52) rfl (by decide) ?_
      refine XS.iadd X572.here hx rfl (hb hby at_53) rfl ?_
      show Steps p.tables e below (T572.setTop (mkF m 54 #[iv si, iv sa, iv fl, iv sd, iv gp, iv (3 : Int32), rv b568, rv b572, iv st, iv a', .unset, .unset, .unset, .unset, .unset, .unset, .unset] [(.int ((a' + (1 : Int32)) + ((gp &&& (2147483647 : Int32)) % (2 : Int32))))])) _
      refine XS.iload X572.here hx rfl (hb hby at_54) rfl ?_
      refine iremM (g := (mkF m 56 #[iv si, iv sa, iv fl, iv sd, iv gp, iv (3 : Int32), rv b568, rv b572, iv st, iv a', .unset, .unset, .unset, .unset, .unset, .unset, .unset] [(.int (3 : Int32)), (.int ((a' + (1 : Int32)) + ((gp &&& (2147483647 : Int32)) % (2 : Int32))))])) X572 hx rfl (hb hby at_56) rfl (by decide) ?_
      exact kt)
  obtain ⟨g', hg'⟩ : ∃ z : Int32, z = ((gp &&& (2147483647 : Int32)) % (2 : Int32)) := ⟨_, rfl⟩
  rw [← hg'] at go577
  have hg := own_in gp g' (2 : Int32) (by decide) hg'
  obtain ⟨b', hb'⟩ : ∃ z : Int32, z = (((a' + (1 : Int32)) + g') % (3 : Int32)) := ⟨_, rfl⟩
  rw [← hb'] at go577
  have go578 : own_S p e below ST T572 (mkF m 62 #[iv si, iv sa, iv fl, iv sd, iv gp, iv (3 : Int32), rv b568, rv b572, iv st, iv a', iv b', .unset, .unset, .unset, .unset, .unset, .unset] [(.int (fl &&& (1 : Int32)))]) := fun tt kt => go577 tt (by
      refine XS.istore X572.here hx rfl (hb hby at_57) rfl (l' := #[iv si, iv sa, iv fl, iv sd, iv gp, iv (3 : Int32), rv b568, rv b572, iv st, iv a', iv b', .unset, .unset, .unset, .unset, .unset, .unset]) rfl ?_
      refine XS.iloadN X572.here hx rfl (hb hby at_59) rfl ?_
      refine XS.iconst X572.here hx rfl (hb hby at_60) ?_
      refine XS.iand X572.here hx rfl (hb hby at_61) rfl ?_
      exact kt)
  obtain ⟨fw, hfw, sg579⟩ : ∃ (fw : Int32), fw = (if (fl &&& (1 : Int32)) = (0 : Int32) then (0 : Int32) else (1 : Int32)) ∧ ∀ tt, Steps p.tables e below (T572.setTop (mkF m 70 #[iv si, iv sa, iv fl, iv sd, iv gp, iv (3 : Int32), rv b568, rv b572, iv st, iv a', iv b', .unset, .unset, .unset, .unset, .unset, .unset] [(.int fw)])) tt → Steps p.tables e below (T572.setTop (mkF m 62 #[iv si, iv sa, iv fl, iv sd, iv gp, iv (3 : Int32), rv b568, rv b572, iv st, iv a', iv b', .unset, .unset, .unset, .unset, .unset, .unset] [(.int (fl &&& (1 : Int32)))])) tt := by
    by_cases hd62_0 : (fl &&& (1 : Int32)) = (0 : Int32)
    · refine ⟨_, (if_pos hd62_0).symm, fun tt kt => ?_⟩
      show Steps p.tables e below (T572.setTop (mkF m 62 #[iv si, iv sa, iv fl, iv sd, iv gp, iv (3 : Int32), rv b568, rv b572, iv st, iv a', iv b', .unset, .unset, .unset, .unset, .unset, .unset] [(.int (fl &&& (1 : Int32)))])) _
      refine XS.ifYes X572.here hx rfl (pc0 := 62) (pc' := 69) rfl (hb hby at_62) rfl ((if0 _ _).trans (teq hd62_0).1) (by decide) (by decide) ?_
      refine XS.iconst X572.here hx rfl (hb hby at_69) ?_
      exact kt
    · refine ⟨_, (if_neg hd62_0).symm, fun tt kt => ?_⟩
      show Steps p.tables e below (T572.setTop (mkF m 62 #[iv si, iv sa, iv fl, iv sd, iv gp, iv (3 : Int32), rv b568, rv b572, iv st, iv a', iv b', .unset, .unset, .unset, .unset, .unset, .unset] [(.int (fl &&& (1 : Int32)))])) _
      refine XS.ifNo X572.here hx rfl (hb hby at_62) rfl ((if0 _ _).trans (feq hd62_0).1) ?_
      refine XS.iconst X572.here hx rfl (hb hby at_65) ?_
      refine XS.goto X572.here hx rfl (pc0 := 66) (pc' := 70) rfl (hb hby at_66) (by decide) (by decide) ?_
      exact kt
  have go580 : own_S p e below ST T572 (mkF m 70 #[iv si, iv sa, iv fl, iv sd, iv gp, iv (3 : Int32), rv b568, rv b572, iv st, iv a', iv b', .unset, .unset, .unset, .unset, .unset, .unset] [(.int fw)]) := fun tt kt => go578 tt (sg579 _ kt)
  have hf : fw = 0 ∨ fw = 1 := by rw [hfw]; split <;> simp
  have hab := own_law3 fw st a' g' b' hf hs ha hg hb'
  have go581 : own_S p e below ST T572 (mkF m 72 #[iv si, iv sa, iv fl, iv sd, iv gp, iv (3 : Int32), rv b568, rv b572, iv st, iv a', iv b', iv fw, .unset, .unset, .unset, .unset, .unset] []) := fun tt kt => go580 tt (by
      refine XS.istore X572.here hx rfl (hb hby at_70) rfl (l' := #[iv si, iv sa, iv fl, iv sd, iv gp, iv (3 : Int32), rv b568, rv b572, iv st, iv a', iv b', iv fw, .unset, .unset, .unset, .unset, .unset]) rfl ?_
      exact kt)
  have f583 := (Eb568.keep K572)
  have zs584 := (Nat.le_trans zs573 K572.1)
  obtain ⟨b582, g582⟩ : ∃ z, z = T572.heap.size := ⟨_, rfl⟩
  obtain ⟨T582, h582, X582, e582, E582, A582, D582, -, st582⟩ := newO X572 hx hZ hown (W 65 rfl) (W 66 rfl) (W 67 rfl) rfl (g := (mkF m 72 #[iv si, iv sa, iv fl, iv sd, iv gp, iv (3 : Int32), rv b568, rv b572, iv st, iv a', iv b', iv fw, .unset, .unset, .unset, .unset, .unset] [])) rfl (hb hby at_72) (by decide) (by decide)
  rw [← g582] at A582 D582 st582
  have neb568_b582 : b568 ≠ b582 := Nat.ne_of_lt (Nat.lt_of_lt_of_le f583.lt (Nat.le_of_eq g582.symm))
  have neb572_b582 : b572 ≠ b582 := Nat.ne_of_lt (Nat.lt_of_lt_of_le Eb572.lt (Nat.le_of_eq g582.symm))
  have ge_b582 : n0 ≤ b582 := Nat.le_trans zs584 (Nat.le_of_eq g582.symm)
  have F582_sides : Fld Z h582 b582 "com/example/inscribe/inscribe/geometry/BoundaryOrder" "sides" "Ljava/util/List;" .null := D582 (Or.inr (W 73 rfl)) (ty := (.object "java/util/List")) (by decide)
  have F582_start : Fld Z h582 b582 "com/example/inscribe/inscribe/geometry/BoundaryOrder" "start" "I" (.int (0 : Int32)) := D582 (Or.inr (W 75 rfl)) (ty := .int) (by decide)
  have F582_forward : Fld Z h582 b582 "com/example/inscribe/inscribe/geometry/BoundaryOrder" "forward" "Z" (.int (0 : Int32)) := D582 (Or.inr (W 77 rfl)) (ty := .boolean) (by decide)
  have go585 : own_S p e below ST T582 (mkF m 75 #[iv si, iv sa, iv fl, iv sd, iv gp, iv (3 : Int32), rv b568, rv b572, iv st, iv a', iv b', iv fw, .unset, .unset, .unset, .unset, .unset] [(.ref b582)]) := fun tt kt => go581 tt (st582 _ kt)
  have go586 : own_S p e below ST T582 (mkF m 82 #[iv si, iv sa, iv fl, iv sd, iv gp, iv (3 : Int32), rv b568, rv b572, iv st, iv a', iv b', iv fw, .unset, .unset, .unset, .unset, .unset] [(.int fw), (.int st), (.ref b568), (.ref b582), (.ref b582)]) := fun tt kt => go585 tt (by
      refine XS.dup X582.here hx rfl (hb hby at_75) rfl rfl ?_
      refine XS.aload X582.here hx rfl (hb hby at_76) rfl rfl ?_
      refine XS.iload X582.here hx rfl (hb hby at_78) rfl ?_
      refine XS.iload X582.here hx rfl (hb hby at_80) rfl ?_
      exact kt)
  have zs588 := (Nat.le_trans zs584 E582.1)
  obtain ⟨_, _, ⟨T587, L587, k587, n587⟩, -, X587, ⟨Lc587, hQ587, l587, y587, z587⟩, st587⟩ := X582.specialBack hx (y := (⟨"com/example/inscribe/inscribe/geometry/BoundaryOrder", "<init>", "(Ljava/util/List;IZ)V"⟩ : MethodName)) rfl hown (mvT hZ (W 68 rfl)) (mvT hZ (W 69 rfl)) (mvT hZ (W 70 rfl)) (by decide) (backOf (W := 1) (rm11 l Z a0 hw [] b582 b568 st fw h582 n0 zs588 F582_sides F582_start F582_forward A582 ge_b582) hZ (W 70 rfl) (W 67 rfl) (by decide) (by decide)) (g := (mkF m 82 #[iv si, iv sa, iv fl, iv sd, iv gp, iv (3 : Int32), rv b568, rv b572, iv st, iv a', iv b', iv fw, .unset, .unset, .unset, .unset, .unset] [(.int fw), (.int st), (.ref b568), (.ref b582), (.ref b582)])) rfl (by rw [hml]; rfl) (Steps.refl _) (a := b582) (argsL := [(.ref b568), (.int st), (.int fw)]) (rest := [(.ref b582)]) (lenOf pd148 rfl) rfl (by show 2 * 0 + _ ≤ _; exact Nat.le_of_eq rfl) (hb hby at_82) (fun _ _ => ⟨rfl, e582, (by decide : 5 + 0 ≤ _), (by decide : 29 + 0 ≤ _)⟩)
  dsimp only [Pt.U, Pt.locs, Pt.cells, Pt.slots] at X587 l587 y587 z587 st587 hQ587
  subst l587 y587 z587
  obtain ⟨rfl, Nq587, K587, Fa587, Fb587, Fc587⟩ := hQ587
  have N587 := Fr.app N572 Nq587
  have go589 : own_S p e below ST T587 (mkF m 85 #[iv si, iv sa, iv fl, iv sd, iv gp, iv (3 : Int32), rv b568, rv b572, iv st, iv a', iv b', iv fw, .unset, .unset, .unset, .unset, .unset] [(.ref b582)]) := fun tt kt => go586 tt (st587.trans kt)
  have go590 : own_S p e below ST T587 (mkF m 91 #[iv si, iv sa, iv fl, iv sd, iv gp, iv (3 : Int32), rv b568, rv b572, iv st, iv a', iv b', iv fw, rv b582, .unset, .unset, .unset, .unset] [(.ref b572), (.ref b582)]) := fun tt kt => go589 tt (by
      refine XS.astore X587.here hx rfl (hb hby at_85) rfl rfl (l' := #[iv si, iv sa, iv fl, iv sd, iv gp, iv (3 : Int32), rv b568, rv b572, iv st, iv a', iv b', iv fw, rv b582, .unset, .unset, .unset, .unset]) rfl ?_
      refine XS.aload X587.here hx rfl (hb hby at_87) rfl rfl ?_
      refine XS.aload X587.here hx rfl (hb hby at_89) rfl rfl ?_
      exact kt)
  have zs592 := (Nat.le_trans zs588 K587.1)
  have f593 := (A582.keep K587)
  obtain ⟨cq591, kq591, q591a, q591b, q591c⟩ := isOf hZ rfl f593
  obtain ⟨_, _, ⟨T591, L591, k591, n591⟩, -, X591, ⟨Lc591, hQ591, l591, y591, z591⟩, st591⟩ := X587.virtualBack hx (y := (⟨"com/example/inscribe/inscribe/geometry/BoundaryOrder", "mirrored", "(Ljava/util/List;)Lcom/example/inscribe/inscribe/geometry/BoundaryOrder;"⟩ : MethodName)) (z := (⟨"com/example/inscribe/inscribe/geometry/BoundaryOrder", "mirrored", "(Ljava/util/List;)Lcom/example/inscribe/inscribe/geometry/BoundaryOrder;"⟩ : MethodName)) hown (mvT hZ (W 78 rfl)) (mvT hZ (W 79 rfl)) (notFace_of_selects (args := #[]) (mvT hZ (W 81 rfl))) (mvT hZ (W 81 rfl)) (mvT hZ (W 80 rfl)) (by decide) (backOf (W := 0) (rm12 l Z a0 hw [] b582 b572 st (nar .boolean fw) T587.heap n0 zs592 Fb587 Fc587) hZ (W 82 rfl) (W 67 rfl) (by decide) (by decide)) q591a q591c (g := (mkF m 91 #[iv si, iv sa, iv fl, iv sd, iv gp, iv (3 : Int32), rv b568, rv b572, iv st, iv a', iv b', iv fw, rv b582, .unset, .unset, .unset, .unset] [(.ref b572), (.ref b582)])) rfl (by rw [hml]; rfl) (Steps.refl _) (argsL := [(.ref b572)]) (rest := []) (lenOf pd217 rfl) rfl (by show 2 * 0 + _ ≤ _; exact Nat.le_of_eq rfl) (hb hby at_91) (fun _ _ => ⟨rfl, rfl, (by decide : 5 + 1 ≤ _), (by decide : 29 + 3 ≤ _)⟩)
  dsimp only [Pt.U, Pt.locs, Pt.cells, Pt.slots] at X591 l591 y591 z591 st591 hQ591
  subst l591 y591 z591
  obtain ⟨b591, rfl, Nq591, K591, Eb591, Fa591, Fb591, Fc591, zb591⟩ := hQ591
  have N591 := Fr.app N587 Nq591
  have go594 : own_S p e below ST T591 (mkF m 94 #[iv si, iv sa, iv fl, iv sd, iv gp, iv (3 : Int32), rv b568, rv b572, iv st, iv a', iv b', iv fw, rv b582, .unset, .unset, .unset, .unset] [(.ref b591)]) := fun tt kt => go590 tt (st591.trans kt)
  have go595 : own_S p e below ST T591 (mkF m 109 #[iv si, iv sa, iv fl, iv sd, iv gp, iv (3 : Int32), rv b568, rv b572, iv st, iv a', iv b', iv fw, rv b582, rv b591, .val .null, .unset, .unset] [.null, (.int a'), .null, (.int b'), (.ref b582)]) := fun tt kt => go594 tt (by
      refine XS.astore X591.here hx rfl (hb hby at_94) rfl rfl (l' := #[iv si, iv sa, iv fl, iv sd, iv gp, iv (3 : Int32), rv b568, rv b572, iv st, iv a', iv b', iv fw, rv b582, rv b591, .unset, .unset, .unset]) rfl ?_
      refine XS.aconstNull X591.here hx rfl (hb hby at_96) ?_
      refine XS.astore X591.here hx rfl (hb hby at_97) rfl rfl (l' := #[iv si, iv sa, iv fl, iv sd, iv gp, iv (3 : Int32), rv b568, rv b572, iv st, iv a', iv b', iv fw, rv b582, rv b591, .val .null, .unset, .unset]) rfl ?_
      refine XS.aload X591.here hx rfl (hb hby at_99) rfl rfl ?_
      refine XS.iload X591.here hx rfl (hb hby at_101) rfl ?_
      refine XS.aload X591.here hx rfl (hb hby at_103) rfl rfl ?_
      show Steps p.tables e below (T591.setTop (mkF m 105 #[iv si, iv sa, iv fl, iv sd, iv gp, iv (3 : Int32), rv b568, rv b572, iv st, iv a', iv b', iv fw, rv b582, rv b591, .val .null, .unset, .unset] [.null, (.int b'), (.ref b582)])) _
      refine XS.iload X591.here hx rfl (hb hby at_105) rfl ?_
      refine XS.aload X591.here hx rfl (hb hby at_107) rfl rfl ?_
      exact kt)
  have f596 := (Fa587.keep K591 nin0)
  have f597 := (Fb587.keep K591 nin0)
  have f598 := (Fc587.keep K591 nin0)
  have f599 := (((f583.ext E582).keep K587).keep K591)
  have f600 := ((((Fb568.keep K572 nin0).ext E582).keep K587 (ninS neb568_b582 nin0)).keep K591 nin0)
  have f601 := (f593.keep K591)
  have zs603 := (Nat.le_trans zs592 K591.1)
  obtain ⟨cq602, kq602, q602a, q602b, q602c⟩ := isOf hZ rfl f601
  obtain ⟨_, _, ⟨T602, L602, k602, n602⟩, -, X602, ⟨Lc602, hQ602, l602, y602, z602⟩, st602⟩ := X591.virtualBack hx (y := (⟨"com/example/inscribe/inscribe/geometry/BoundaryOrder", "compare", "(ILcom/example/inscribe/inscribe/geometry/Point;ILcom/example/inscribe/inscribe/geometry/Point;)I"⟩ : MethodName)) (z := (⟨"com/example/inscribe/inscribe/geometry/BoundaryOrder", "compare", "(ILcom/example/inscribe/inscribe/geometry/Point;ILcom/example/inscribe/inscribe/geometry/Point;)I"⟩ : MethodName)) hown (mvT hZ (W 85 rfl)) (mvT hZ (W 86 rfl)) (notFace_of_selects (args := #[]) (mvT hZ (W 88 rfl))) (mvT hZ (W 88 rfl)) (mvT hZ (W 87 rfl)) (by decide) (backOf (W := 0) (rm13 l Z a0 hw [] b582 b568 st (nar .boolean fw) (3 : Int32) b' a' T591.heap n0 zs603 f596 f597 f598 f599 f600 (by decide) f601 (Ne.symm hab.1)) hZ (W 89 rfl) (W 67 rfl) (by decide) (by decide)) q602a q602c (g := (mkF m 109 #[iv si, iv sa, iv fl, iv sd, iv gp, iv (3 : Int32), rv b568, rv b572, iv st, iv a', iv b', iv fw, rv b582, rv b591, .val .null, .unset, .unset] [.null, (.int a'), .null, (.int b'), (.ref b582)])) rfl (by rw [hml]; rfl) (Steps.refl _) (argsL := [(.int b'), .null, (.int a'), .null]) (rest := []) (lenOf pd218 rfl) rfl (by show 2 * 0 + _ ≤ _; exact Nat.le_of_eq rfl) (hb hby at_109) (fun _ _ => ⟨rfl, rfl, (by decide : 6 + 0 ≤ _), (by decide : 32 + 0 ≤ _)⟩)
  dsimp only [Pt.U, Pt.locs, Pt.cells, Pt.slots] at X602 l602 y602 z602 st602 hQ602
  subst l602 y602 z602
  obtain ⟨rfl, Nq602, eh602⟩ := hQ602
  have N602 := Fr.app N591 Nq602
  have go604 : own_S p e below ST T602 (mkF m 112 #[iv si, iv sa, iv fl, iv sd, iv gp, iv (3 : Int32), rv b568, rv b572, iv st, iv a', iv b', iv fw, rv b582, rv b591, .val .null, .unset, .unset] [(.int (own_cmp (own_sw (nar .boolean fw) st (3 : Int32) b') (own_sw (nar .boolean fw) st (3 : Int32) a')))]) := fun tt kt => go595 tt (st602.trans kt)
  obtain ⟨bef, hbef⟩ : ∃ z : Int32, z = (own_cmp (own_sw (nar .boolean fw) st (3 : Int32) b') (own_sw (nar .boolean fw) st (3 : Int32) a')) := ⟨_, rfl⟩
  rw [← hbef] at go604
  have go605 : own_S p e below ST T602 (mkF m 124 #[iv si, iv sa, iv fl, iv sd, iv gp, iv (3 : Int32), rv b568, rv b572, iv st, iv a', iv b', iv fw, rv b582, rv b591, .val .null, iv bef, .unset] [.null, (.int b'), .null, (.int a'), (.ref b591)]) := fun tt kt => go604 tt (by
      refine XS.istore X602.here hx rfl (hb hby at_112) rfl (l' := #[iv si, iv sa, iv fl, iv sd, iv gp, iv (3 : Int32), rv b568, rv b572, iv st, iv a', iv b', iv fw, rv b582, rv b591, .val .null, iv bef, .unset]) rfl ?_
      refine XS.aload X602.here hx rfl (hb hby at_114) rfl rfl ?_
      refine XS.iload X602.here hx rfl (hb hby at_116) rfl ?_
      refine XS.aload X602.here hx rfl (hb hby at_118) rfl rfl ?_
      refine XS.iload X602.here hx rfl (hb hby at_120) rfl ?_
      refine XS.aload X602.here hx rfl (hb hby at_122) rfl rfl ?_
      exact kt)
  have f606 := (((Eb572.ext E582).keep K587).keep K591)
  have f607 := (((Fb572.ext E582).keep K587 (ninS neb572_b582 nin0)).keep K591 nin0)
  obtain ⟨cq608, kq608, q608a, q608b, q608c⟩ := isOf hZ eh602 Eb591
  obtain ⟨_, _, ⟨T608, L608, k608, n608⟩, -, X608, ⟨Lc608, hQ608, l608, y608, z608⟩, st608⟩ := X602.virtualBack hx (y := (⟨"com/example/inscribe/inscribe/geometry/BoundaryOrder", "compare", "(ILcom/example/inscribe/inscribe/geometry/Point;ILcom/example/inscribe/inscribe/geometry/Point;)I"⟩ : MethodName)) (z := (⟨"com/example/inscribe/inscribe/geometry/BoundaryOrder", "compare", "(ILcom/example/inscribe/inscribe/geometry/Point;ILcom/example/inscribe/inscribe/geometry/Point;)I"⟩ : MethodName)) hown (mvT hZ (W 85 rfl)) (mvT hZ (W 86 rfl)) (notFace_of_selects (args := #[]) (mvT hZ (W 88 rfl))) (mvT hZ (W 88 rfl)) (mvT hZ (W 87 rfl)) (by decide) (backOf (W := 0) (rm13 l Z a0 hw [] b591 b572 st (own_not (nar .boolean fw)) (3 : Int32) a' b' T591.heap n0 zs603 Fa591 Fb591 Fc591 f606 f607 (by decide) Eb591 hab.1) hZ (W 89 rfl) (W 67 rfl) (by decide) (by decide)) q608a q608c (g := (mkF m 124 #[iv si, iv sa, iv fl, iv sd, iv gp, iv (3 : Int32), rv b568, rv b572, iv st, iv a', iv b', iv fw, rv b582, rv b591, .val .null, iv bef, .unset] [.null, (.int b'), .null, (.int a'), (.ref b591)])) rfl (by rw [hml]; rfl) (Steps.refl _) (argsL := [(.int a'), .null, (.int b'), .null]) (rest := []) (lenOf pd218 rfl) rfl (by show 2 * 0 + _ ≤ _; exact Nat.le_of_eq rfl) (hb hby at_124) (fun _ _ => ⟨rfl, eh602, (by decide : 6 + 0 ≤ _), (by decide : 32 + 0 ≤ _)⟩)
  dsimp only [Pt.U, Pt.locs, Pt.cells, Pt.slots] at X608 l608 y608 z608 st608 hQ608
  subst l608 y608 z608
  obtain ⟨rfl, Nq608, eh608⟩ := hQ608
  have N608 := Fr.app N602 Nq608
  have go609 : own_S p e below ST T608 (mkF m 127 #[iv si, iv sa, iv fl, iv sd, iv gp, iv (3 : Int32), rv b568, rv b572, iv st, iv a', iv b', iv fw, rv b582, rv b591, .val .null, iv bef, .unset] [(.int (own_cmp (own_sw (own_not (nar .boolean fw)) st (3 : Int32) a') (own_sw (own_not (nar .boolean fw)) st (3 : Int32) b')))]) := fun tt kt => go605 tt (st608.trans kt)
  obtain ⟨aft, haft⟩ : ∃ z : Int32, z = (own_cmp (own_sw (own_not (nar .boolean fw)) st (3 : Int32) a') (own_sw (own_not (nar .boolean fw)) st (3 : Int32) b')) := ⟨_, rfl⟩
  rw [← haft] at go609
  have hp : aft = bef ∧ ¬ aft = 0 := by rw [haft, hbef]; have q := hab.2; unfold own_P at q; simpa using q
  have go610 : own_S p e below ST T608 (mkF m 133 #[iv si, iv sa, iv fl, iv sd, iv gp, iv (3 : Int32), rv b568, rv b572, iv st, iv a', iv b', iv fw, rv b582, rv b591, .val .null, iv bef, iv aft] [(.int bef), (.int aft)]) := fun tt kt => go609 tt (by
      refine XS.istore X608.here hx rfl (hb hby at_127) rfl (l' := #[iv si, iv sa, iv fl, iv sd, iv gp, iv (3 : Int32), rv b568, rv b572, iv st, iv a', iv b', iv fw, rv b582, rv b591, .val .null, iv bef, iv aft]) rfl ?_
      refine XS.iload X608.here hx rfl (hb hby at_129) rfl ?_
      refine XS.iload X608.here hx rfl (hb hby at_131) rfl ?_
      exact kt)
  have go611 : own_S p e below ST T608 (mkF m 138 #[iv si, iv sa, iv fl, iv sd, iv gp, iv (3 : Int32), rv b568, rv b572, iv st, iv a', iv b', iv fw, rv b582, rv b591, .val .null, iv bef, iv aft] [(.int aft)]) := fun tt kt => go610 tt (by
      refine XS.icmpNo X608.here hx rfl (hb hby at_133) rfl (teq hp.1).2 ?_
      refine XS.iload X608.here hx rfl (hb hby at_136) rfl ?_
      exact kt)
  have go612 : own_S p e below ST T608 (mkF m 146 #[iv si, iv sa, iv fl, iv sd, iv gp, iv (3 : Int32), rv b568, rv b572, iv st, iv a', iv b', iv fw, rv b582, rv b591, .val .null, iv bef, iv aft] [(.int (1 : Int32))]) := fun tt kt => go611 tt (by
      refine XS.ifNo X608.here hx rfl (hb hby at_138) rfl ((if0 _ _).trans (feq hp.2).1) ?_
      refine XS.iconst X608.here hx rfl (hb hby at_141) ?_
      refine XS.goto X608.here hx rfl (pc0 := 142) (pc' := 146) rfl (hb hby at_142) (by decide) (by decide) ?_
      exact kt)
  obtain ⟨fs, hr, hrun, hended, hW, hsame⟩ := X608.leave (v := some (.int (1 : Int32))) (fun h => by rw [Bd.returns] at h; cases h)
  refine ⟨_, _, pre0 _ (go612 _ ?_), hrun, hended, _, _, rfl, ?_, ⟨_, rfl⟩, hW, hsame.mono (by decide) (by decide)⟩
  · exact retN X608 hx (t := .boolean) Bd.returns (by simp) (hb hby at_146) hr
  · show Q0k3 Z si sa fl sd gp ad kd h0 n0 _ T608.heap _
    rw [eh608]
    exact ⟨rfl, N608⟩
theorem ef0k4 (m : MethodId) (x0 : Int32) (x1 : Int32) (x2 : Int32) (x3 : Int32) (x4 : Int32) : entryFrame m #[(.int x0), (.int x1), (.int x2), (.int x3), (.int x4)] maxLocals = mkF m 0 #[.val (.int x0), .val (.int x1), .val (.int x2), .val (.int x3), .val (.int x4), .unset, .unset, .unset, .unset, .unset, .unset, .unset, .unset, .unset, .unset, .unset, .unset] [] := by first | (simp [entryFrame, mkF, argsToLocals, Value.category, maxLocals]; done) | rfl
def Q0k4 (Z : State) (si : Int32) (sa : Int32) (fl : Int32) (sd : Int32) (gp : Int32) (ad : Addr) (kd : ClassId) (h0 : Heap) (n0 : Nat) (v : Option Value) (h : Heap) (L : List Loc) : Prop := v = some (.int 1) ∧ Fr n0 L
set_option maxRecDepth 65536 in
set_option maxHeartbeats 40000000 in
theorem rm0k4 (l : Launch) (Z : State) (a0 : Array Value) (hw : ∀ d ∈ tables_1, d.before a0 Z = true) (ws : List Jvm.Cond) (si : Int32) (sa : Int32) (fl : Int32) (sd : Int32) (gp : Int32) (ad : Addr) (kd : ClassId) (h0 : Heap) (n0 : Nat) (Z0 : n0 ≤ h0.size) (SD : Sta Z Z.heap "java/util/ArrayList" "DEFAULTCAPACITY_EMPTY_ELEMENTDATA" "[Ljava/lang/Object;" (.ref ad)) (VD : Arv Z Z.heap ad kd (.object "java/lang/Object") (0 : Int32) [] .null) (OL : Old Z n0 h0) (hk : 2 + (si &&& 3) = 4) :
    MetFree l x (head1 (Jvm.Cond.code x code maxLocals ret :: ws) room_1) (fun aa UU => aa = #[(.int si), (.int sa), (.int fl), (.int sd), (.int gp)] ∧ Z.Warmed39 UU.vm ∧ UU.heap = h0) (fun _ _ _ _ _ => True) (fun _ UU oo UU' => ∃ vv LL, oo = .returned vv ∧ Q0k4 Z si sa fl sd gp ad kd h0 n0 vv UU'.heap LL ∧ FrameEnd UU oo UU' LL room_1.cells room_1.slots) := by
  have W : ∀ {d : Jvm.Cond} (i : Nat), tables_1[i]? = some d → d.before a0 Z = true := fun i h => hw _ (List.mem_of_getElem? h)
  refine MetFree.of_bodySF (plainFor_of_name pn86) hisR ?_
  intro p e s m args below meth c s₁ Bd hml0 hP hK
  obtain ⟨rfl, hZ, hh⟩ := hP
  have hx := Bd.exec
  have hby := Bd.bytes
  have hml : c.maxLocals = 17 := hml0
  have hown : s.vm.findClass "com/example/inscribe/inscribe/geometry/BoundaryOrderMirroredPinLaw" = some m.cls := findClass_of_methodNamed Bd.named
  have hnm := (name_of_methodNamed Bd.named Bd.method).1
  have X0 : Stand p l e room_1 s m #[(.int si), (.int sa), (.int fl), (.int sd), (.int gp)] below meth c s₁ [] 0 0 := Stand.of_body Bd
  have e0 : s₁.heap = h0 := by rw [← hh, Bd.state]; rfl
  have N0 := Fr.nil n0
  have pre0 : ∀ tt, Steps p.tables e below (s₁.setTop (mkF m 0 #[iv si, iv sa, iv fl, iv sd, iv gp, .unset, .unset, .unset, .unset, .unset, .unset, .unset, .unset, .unset, .unset, .unset, .unset] [])) tt → Steps p.tables e below (s₁.setTop (entryFrame m #[(.int si), (.int sa), (.int fl), (.int sd), (.int gp)] maxLocals)) tt := fun tt kt => castTop (ef0k4 m si sa fl sd gp) kt
  obtain ⟨ST, hST⟩ : ∃ z : State, z = s₁.setTop (mkF m 0 #[iv si, iv sa, iv fl, iv sd, iv gp, .unset, .unset, .unset, .unset, .unset, .unset, .unset, .unset, .unset, .unset, .unset, .unset] []) := ⟨_, rfl⟩
  rw [← hST] at pre0
  have go613 : own_S p e below ST s₁ (mkF m 7 #[iv si, iv sa, iv fl, iv sd, iv gp, iv ((2 : Int32) + (si &&& (3 : Int32))), .unset, .unset, .unset, .unset, .unset, .unset, .unset, .unset, .unset, .unset, .unset] []) := fun tt kt => (by
      rw [hST]
      show Steps p.tables e below (s₁.setTop (mkF m 0 #[iv si, iv sa, iv fl, iv sd, iv gp, .unset, .unset, .unset, .unset, .unset, .unset, .unset, .unset, .unset, .unset, .unset, .unset] [])) _
      refine XS.iconst X0.here hx rfl (hb hby at_0) ?_
      refine XS.iloadN X0.here hx rfl (hb hby at_1) rfl ?_
      refine XS.iconst X0.here hx rfl (hb hby at_2) ?_
      refine XS.iand X0.here hx rfl (hb hby at_3) rfl ?_
      refine XS.iadd X0.here hx rfl (hb hby at_4) rfl ?_
      refine XS.istore X0.here hx rfl (hb hby at_5) rfl (l' := #[iv si, iv sa, iv fl, iv sd, iv gp, iv ((2 : Int32) + (si &&& (3 : Int32))), .unset, .unset, .unset, .unset, .unset, .unset, .unset, .unset, .unset, .unset, .unset]) rfl ?_
      exact kt)
  rw [hk] at go613
  have go614 : own_S p e below ST s₁ (mkF m 9 #[iv si, iv sa, iv fl, iv sd, iv gp, iv (4 : Int32), .unset, .unset, .unset, .unset, .unset, .unset, .unset, .unset, .unset, .unset, .unset] [(.int (4 : Int32))]) := fun tt kt => go613 tt (by
      refine XS.iload X0.here hx rfl (hb hby at_7) rfl ?_
      exact kt)
  obtain ⟨_, _, ⟨T615, L615, k615, n615⟩, -, X615, ⟨Lc615, hQ615, l615, y615, z615⟩, st615⟩ := Jvm.LawKit.callS X0 hx (y := (⟨"com/example/inscribe/inscribe/geometry/BoundaryOrderMirroredPinLaw", "nulls", "(I)Ljava/util/List;"⟩ : MethodName)) hown (mvT hZ (W 0 rfl)) (mvT hZ (W 1 rfl)) (mvT hZ (W 2 rfl)) (mvT hZ (W 3 rfl)) (by decide) (backOf (W := 0) (rm1k4 l Z a0 hw [] ad kd h0 n0 Z0 SD VD OL) hZ (W 3 rfl) (W 2 rfl) (by decide) (by decide)) (g := (mkF m 9 #[iv si, iv sa, iv fl, iv sd, iv gp, iv (4 : Int32), .unset, .unset, .unset, .unset, .unset, .unset, .unset, .unset, .unset, .unset, .unset] [(.int (4 : Int32))])) rfl (by rw [hml]; rfl) (argsL := [(.int (4 : Int32))]) (rest := []) (lenOf pd216 rfl) rfl (by show 2 * 0 + _ ≤ _; exact Nat.le_of_eq rfl) (hb hby at_9) (fun _ _ => ⟨rfl, e0, (by decide : 0 + 2 ≤ _), (by decide : 0 + 13 ≤ _)⟩)
  dsimp only [Pt.U, Pt.locs, Pt.cells, Pt.slots] at X615 l615 y615 z615 st615 hQ615
  subst l615 y615 z615
  obtain ⟨b615, rfl, Nq615, K615, Eb615, Fb615, gb615, zb615⟩ := hQ615
  have N615 := Fr.app N0 Nq615
  have go616 : own_S p e below ST T615 (mkF m 12 #[iv si, iv sa, iv fl, iv sd, iv gp, iv (4 : Int32), .unset, .unset, .unset, .unset, .unset, .unset, .unset, .unset, .unset, .unset, .unset] [(.ref b615)]) := fun tt kt => go614 tt (st615 _ kt)
  have go617 : own_S p e below ST T615 (mkF m 16 #[iv si, iv sa, iv fl, iv sd, iv gp, iv (4 : Int32), rv b615, .unset, .unset, .unset, .unset, .unset, .unset, .unset, .unset, .unset, .unset] [(.int (4 : Int32))]) := fun tt kt => go616 tt (by
      refine XS.astore X615.here hx rfl (hb hby at_12) rfl rfl (l' := #[iv si, iv sa, iv fl, iv sd, iv gp, iv (4 : Int32), rv b615, .unset, .unset, .unset, .unset, .unset, .unset, .unset, .unset, .unset, .unset]) rfl ?_
      refine XS.iload X615.here hx rfl (hb hby at_14) rfl ?_
      exact kt)
  have f618 := (OL.keep K615 all0)
  have zs620 := (Nat.le_trans Z0 K615.1)
  obtain ⟨_, _, ⟨T619, L619, k619, n619⟩, -, X619, ⟨Lc619, hQ619, l619, y619, z619⟩, st619⟩ := Jvm.LawKit.callS X615 hx (y := (⟨"com/example/inscribe/inscribe/geometry/BoundaryOrderMirroredPinLaw", "nulls", "(I)Ljava/util/List;"⟩ : MethodName)) hown (mvT hZ (W 0 rfl)) (mvT hZ (W 1 rfl)) (mvT hZ (W 2 rfl)) (mvT hZ (W 3 rfl)) (by decide) (backOf (W := 0) (rm1k4 l Z a0 hw [] ad kd T615.heap n0 zs620 SD VD f618) hZ (W 3 rfl) (W 2 rfl) (by decide) (by decide)) (g := (mkF m 16 #[iv si, iv sa, iv fl, iv sd, iv gp, iv (4 : Int32), rv b615, .unset, .unset, .unset, .unset, .unset, .unset, .unset, .unset, .unset, .unset] [(.int (4 : Int32))])) rfl (by rw [hml]; rfl) (argsL := [(.int (4 : Int32))]) (rest := []) (lenOf pd216 rfl) rfl (by show 2 * 0 + _ ≤ _; exact Nat.le_of_eq rfl) (hb hby at_16) (fun _ _ => ⟨rfl, rfl, (by decide : 2 + 2 ≤ _), (by decide : 13 + 13 ≤ _)⟩)
  dsimp only [Pt.U, Pt.locs, Pt.cells, Pt.slots] at X619 l619 y619 z619 st619 hQ619
  subst l619 y619 z619
  obtain ⟨b619, rfl, Nq619, K619, Eb619, Fb619, gb619, zb619⟩ := hQ619
  have N619 := Fr.app N615 Nq619
  have go621 : own_S p e below ST T619 (mkF m 19 #[iv si, iv sa, iv fl, iv sd, iv gp, iv (4 : Int32), rv b615, .unset, .unset, .unset, .unset, .unset, .unset, .unset, .unset, .unset, .unset] [(.ref b619)]) := fun tt kt => go617 tt (st619 _ kt)
  have go622 : own_S p e below ST T619 (mkF m 28 #[iv si, iv sa, iv fl, iv sd, iv gp, iv (4 : Int32), rv b615, rv b619, .unset, .unset, .unset, .unset, .unset, .unset, .unset, .unset, .unset] [(.int ((sa &&& (2147483647 : Int32)) % (4 : Int32)))]) := fun tt kt => go621 tt (by
      refine XS.astore X619.here hx rfl (hb hby at_19) rfl rfl (l' := #[iv si, iv sa, iv fl, iv sd, iv gp, iv (4 : Int32), rv b615, rv b619, .unset, .unset, .unset, .unset, .unset, .unset, .unset, .unset, .unset]) rfl ?_
      refine XS.iloadN X619.here hx rfl (hb hby at_21) rfl ?_
      refine X619.ldcInt hx hown (mvT hZ (W 64 rfl)) (g := (mkF m 22 #[iv si, iv sa, iv fl, iv sd, iv gp, iv (4 : Int32), rv b615, rv b619, .unset, .unset, .unset, .unset, .unset, .unset, .unset, .unset, .unset] [(.int sa)])) rfl (hb hby at_22) _ ?_
      refine XS.iand X619.here hx rfl (hb hby at_24) rfl ?_
      refine XS.iload X619.here hx rfl (hb hby at_25) rfl ?_
      refine iremM (g := (mkF m 27 #[iv si, iv sa, iv fl, iv sd, iv gp, iv (4 : Int32), rv b615, rv b619, .unset, .unset, .unset, .unset, .unset, .unset, .unset, .unset, .unset] [(.int (4 : Int32)), (.int (sa &&& (2147483647 : Int32)))])) X619 hx rfl (hb hby at_27) rfl (by decide) ?_
      exact kt)
  obtain ⟨st, hst⟩ : ∃ z : Int32, z = ((sa &&& (2147483647 : Int32)) % (4 : Int32)) := ⟨_, rfl⟩
  rw [← hst] at go622
  have hs := own_in sa st (4 : Int32) (by decide) hst
  have go623 : own_S p e below ST T619 (mkF m 37 #[iv si, iv sa, iv fl, iv sd, iv gp, iv (4 : Int32), rv b615, rv b619, iv st, .unset, .unset, .unset, .unset, .unset, .unset, .unset, .unset] [(.int ((sd &&& (2147483647 : Int32)) % (4 : Int32)))]) := fun tt kt => go622 tt (by
      refine XS.istore X619.here hx rfl (hb hby at_28) rfl (l' := #[iv si, iv sa, iv fl, iv sd, iv gp, iv (4 : Int32), rv b615, rv b619, iv st, .unset, .unset, .unset, .unset, .unset, .unset, .unset, .unset]) rfl ?_
      refine XS.iloadN X619.here hx rfl (hb hby at_30) rfl ?_
      refine X619.ldcInt hx hown (mvT hZ (W 64 rfl)) (g := (mkF m 31 #[iv si, iv sa, iv fl, iv sd, iv gp, iv (4 : Int32), rv b615, rv b619, iv st, .unset, .unset, .unset, .unset, .unset, .unset, .unset, .unset] [(.int sd)])) rfl (hb hby at_31) _ ?_
      refine XS.iand X619.here hx rfl (hb hby at_33) rfl ?_
      refine XS.iload X619.here hx rfl (hb hby at_34) rfl ?_
      refine iremM (g := (mkF m 36 #[iv si, iv sa, iv fl, iv sd, iv gp, iv (4 : Int32), rv b615, rv b619, iv st, .unset, .unset, .unset, .unset, .unset, .unset, .unset, .unset] [(.int (4 : Int32)), (.int (sd &&& (2147483647 : Int32)))])) X619 hx rfl (hb hby at_36) rfl (by decide) ?_
      exact kt)
  obtain ⟨a', ha'⟩ : ∃ z : Int32, z = ((sd &&& (2147483647 : Int32)) % (4 : Int32)) := ⟨_, rfl⟩
  rw [← ha'] at go623
  have ha := own_in sd a' (4 : Int32) (by decide) ha'
  have go624 : own_S p e below ST T619 (mkF m 57 #[iv si, iv sa, iv fl, iv sd, iv gp, iv (4 : Int32), rv b615, rv b619, iv st, iv a', .unset, .unset, .unset, .unset, .unset, .unset, .unset] [(.int (((a' + (1 : Int32)) + ((gp &&& (2147483647 : Int32)) % (3 : Int32))) % (4 : Int32)))]) := fun tt kt => go623 tt (by
      refine XS.istore X619.here hx rfl (hb hby at_37) rfl (l' := #[iv si, iv sa, iv fl, iv sd, iv gp, iv (4 : Int32), rv b615, rv b619, iv st, iv a', .unset, .unset, .unset, .unset, .unset, .unset, .unset]) rfl ?_
      refine XS.iload X619.here hx rfl (hb hby at_39) rfl ?_
      refine XS.iconst X619.here hx rfl (hb hby at_41) ?_
      refine XS.iadd X619.here hx rfl (hb hby at_42) rfl ?_
      refine XS.iload X619.here hx rfl (hb hby at_43) rfl ?_
      refine X619.ldcInt hx hown (mvT hZ (W 64 rfl)) (g := (mkF m 45 #[iv si, iv sa, iv fl, iv sd, iv gp, iv (4 : Int32), rv b615, rv b619, iv st, iv a', .unset, .unset, .unset, .unset, .unset, .unset, .unset] [(.int gp), (.int (a' + (1 : Int32)))])) rfl (hb hby at_45) _ ?_
      show Steps p.tables e below (T619.setTop (mkF m 47 #[iv si, iv sa, iv fl, iv sd, iv gp, iv (4 : Int32), rv b615, rv b619, iv st, iv a', .unset, .unset, .unset, .unset, .unset, .unset, .unset] [(.int (2147483647 : Int32)), (.int gp), (.int (a' + (1 : Int32)))])) _
      refine XS.iand X619.here hx rfl (hb hby at_47) rfl ?_
      refine XS.iload X619.here hx rfl (hb hby at_48) rfl ?_
      refine XS.iconst X619.here hx rfl (hb hby at_50) ?_
      refine XS.isub X619.here hx rfl (hb hby at_51) rfl ?_
      refine iremM (g := (mkF m 52 #[iv si, iv sa, iv fl, iv sd, iv gp, iv (4 : Int32), rv b615, rv b619, iv st, iv a', .unset, .unset, .unset, .unset, .unset, .unset, .unset] [(.int (3 : Int32)), (.int (gp &&& (2147483647 : Int32))), (.int (a' + (1 : Int32)))])) X619 hx rfl (hb hby at_52) rfl (by decide) ?_
      refine XS.iadd X619.here hx rfl (hb hby at_53) rfl ?_
      show Steps p.tables e below (T619.setTop (mkF m 54 #[iv si, iv sa, iv fl, iv sd, iv gp, iv (4 : Int32), rv b615, rv b619, iv st, iv a', .unset, .unset, .unset, .unset, .unset, .unset, .unset] [(.int ((a' + (1 : Int32)) + ((gp &&& (2147483647 : Int32)) % (3 : Int32))))])) _
      refine XS.iload X619.here hx rfl (hb hby at_54) rfl ?_
      refine iremM (g := (mkF m 56 #[iv si, iv sa, iv fl, iv sd, iv gp, iv (4 : Int32), rv b615, rv b619, iv st, iv a', .unset, .unset, .unset, .unset, .unset, .unset, .unset] [(.int (4 : Int32)), (.int ((a' + (1 : Int32)) + ((gp &&& (2147483647 : Int32)) % (3 : Int32))))])) X619 hx rfl (hb hby at_56) rfl (by decide) ?_
      exact kt)
  obtain ⟨g', hg'⟩ : ∃ z : Int32, z = ((gp &&& (2147483647 : Int32)) % (3 : Int32)) := ⟨_, rfl⟩
  rw [← hg'] at go624
  have hg := own_in gp g' (3 : Int32) (by decide) hg'
  obtain ⟨b', hb'⟩ : ∃ z : Int32, z = (((a' + (1 : Int32)) + g') % (4 : Int32)) := ⟨_, rfl⟩
  rw [← hb'] at go624
  have go625 : own_S p e below ST T619 (mkF m 62 #[iv si, iv sa, iv fl, iv sd, iv gp, iv (4 : Int32), rv b615, rv b619, iv st, iv a', iv b', .unset, .unset, .unset, .unset, .unset, .unset] [(.int (fl &&& (1 : Int32)))]) := fun tt kt => go624 tt (by
      refine XS.istore X619.here hx rfl (hb hby at_57) rfl (l' := #[iv si, iv sa, iv fl, iv sd, iv gp, iv (4 : Int32), rv b615, rv b619, iv st, iv a', iv b', .unset, .unset, .unset, .unset, .unset, .unset]) rfl ?_
      refine XS.iloadN X619.here hx rfl (hb hby at_59) rfl ?_
      refine XS.iconst X619.here hx rfl (hb hby at_60) ?_
      refine XS.iand X619.here hx rfl (hb hby at_61) rfl ?_
      exact kt)
  obtain ⟨fw, hfw, sg626⟩ : ∃ (fw : Int32), fw = (if (fl &&& (1 : Int32)) = (0 : Int32) then (0 : Int32) else (1 : Int32)) ∧ ∀ tt, Steps p.tables e below (T619.setTop (mkF m 70 #[iv si, iv sa, iv fl, iv sd, iv gp, iv (4 : Int32), rv b615, rv b619, iv st, iv a', iv b', .unset, .unset, .unset, .unset, .unset, .unset] [(.int fw)])) tt → Steps p.tables e below (T619.setTop (mkF m 62 #[iv si, iv sa, iv fl, iv sd, iv gp, iv (4 : Int32), rv b615, rv b619, iv st, iv a', iv b', .unset, .unset, .unset, .unset, .unset, .unset] [(.int (fl &&& (1 : Int32)))])) tt := by
    by_cases hd62_0 : (fl &&& (1 : Int32)) = (0 : Int32)
    · refine ⟨_, (if_pos hd62_0).symm, fun tt kt => ?_⟩
      show Steps p.tables e below (T619.setTop (mkF m 62 #[iv si, iv sa, iv fl, iv sd, iv gp, iv (4 : Int32), rv b615, rv b619, iv st, iv a', iv b', .unset, .unset, .unset, .unset, .unset, .unset] [(.int (fl &&& (1 : Int32)))])) _
      refine XS.ifYes X619.here hx rfl (pc0 := 62) (pc' := 69) rfl (hb hby at_62) rfl ((if0 _ _).trans (teq hd62_0).1) (by decide) (by decide) ?_
      refine XS.iconst X619.here hx rfl (hb hby at_69) ?_
      exact kt
    · refine ⟨_, (if_neg hd62_0).symm, fun tt kt => ?_⟩
      show Steps p.tables e below (T619.setTop (mkF m 62 #[iv si, iv sa, iv fl, iv sd, iv gp, iv (4 : Int32), rv b615, rv b619, iv st, iv a', iv b', .unset, .unset, .unset, .unset, .unset, .unset] [(.int (fl &&& (1 : Int32)))])) _
      refine XS.ifNo X619.here hx rfl (hb hby at_62) rfl ((if0 _ _).trans (feq hd62_0).1) ?_
      refine XS.iconst X619.here hx rfl (hb hby at_65) ?_
      refine XS.goto X619.here hx rfl (pc0 := 66) (pc' := 70) rfl (hb hby at_66) (by decide) (by decide) ?_
      exact kt
  have go627 : own_S p e below ST T619 (mkF m 70 #[iv si, iv sa, iv fl, iv sd, iv gp, iv (4 : Int32), rv b615, rv b619, iv st, iv a', iv b', .unset, .unset, .unset, .unset, .unset, .unset] [(.int fw)]) := fun tt kt => go625 tt (sg626 _ kt)
  have hf : fw = 0 ∨ fw = 1 := by rw [hfw]; split <;> simp
  have hab := own_law4 fw st a' g' b' hf hs ha hg hb'
  have go628 : own_S p e below ST T619 (mkF m 72 #[iv si, iv sa, iv fl, iv sd, iv gp, iv (4 : Int32), rv b615, rv b619, iv st, iv a', iv b', iv fw, .unset, .unset, .unset, .unset, .unset] []) := fun tt kt => go627 tt (by
      refine XS.istore X619.here hx rfl (hb hby at_70) rfl (l' := #[iv si, iv sa, iv fl, iv sd, iv gp, iv (4 : Int32), rv b615, rv b619, iv st, iv a', iv b', iv fw, .unset, .unset, .unset, .unset, .unset]) rfl ?_
      exact kt)
  have f630 := (Eb615.keep K619)
  have zs631 := (Nat.le_trans zs620 K619.1)
  obtain ⟨b629, g629⟩ : ∃ z, z = T619.heap.size := ⟨_, rfl⟩
  obtain ⟨T629, h629, X629, e629, E629, A629, D629, -, st629⟩ := newO X619 hx hZ hown (W 65 rfl) (W 66 rfl) (W 67 rfl) rfl (g := (mkF m 72 #[iv si, iv sa, iv fl, iv sd, iv gp, iv (4 : Int32), rv b615, rv b619, iv st, iv a', iv b', iv fw, .unset, .unset, .unset, .unset, .unset] [])) rfl (hb hby at_72) (by decide) (by decide)
  rw [← g629] at A629 D629 st629
  have neb615_b629 : b615 ≠ b629 := Nat.ne_of_lt (Nat.lt_of_lt_of_le f630.lt (Nat.le_of_eq g629.symm))
  have neb619_b629 : b619 ≠ b629 := Nat.ne_of_lt (Nat.lt_of_lt_of_le Eb619.lt (Nat.le_of_eq g629.symm))
  have ge_b629 : n0 ≤ b629 := Nat.le_trans zs631 (Nat.le_of_eq g629.symm)
  have F629_sides : Fld Z h629 b629 "com/example/inscribe/inscribe/geometry/BoundaryOrder" "sides" "Ljava/util/List;" .null := D629 (Or.inr (W 73 rfl)) (ty := (.object "java/util/List")) (by decide)
  have F629_start : Fld Z h629 b629 "com/example/inscribe/inscribe/geometry/BoundaryOrder" "start" "I" (.int (0 : Int32)) := D629 (Or.inr (W 75 rfl)) (ty := .int) (by decide)
  have F629_forward : Fld Z h629 b629 "com/example/inscribe/inscribe/geometry/BoundaryOrder" "forward" "Z" (.int (0 : Int32)) := D629 (Or.inr (W 77 rfl)) (ty := .boolean) (by decide)
  have go632 : own_S p e below ST T629 (mkF m 75 #[iv si, iv sa, iv fl, iv sd, iv gp, iv (4 : Int32), rv b615, rv b619, iv st, iv a', iv b', iv fw, .unset, .unset, .unset, .unset, .unset] [(.ref b629)]) := fun tt kt => go628 tt (st629 _ kt)
  have go633 : own_S p e below ST T629 (mkF m 82 #[iv si, iv sa, iv fl, iv sd, iv gp, iv (4 : Int32), rv b615, rv b619, iv st, iv a', iv b', iv fw, .unset, .unset, .unset, .unset, .unset] [(.int fw), (.int st), (.ref b615), (.ref b629), (.ref b629)]) := fun tt kt => go632 tt (by
      refine XS.dup X629.here hx rfl (hb hby at_75) rfl rfl ?_
      refine XS.aload X629.here hx rfl (hb hby at_76) rfl rfl ?_
      refine XS.iload X629.here hx rfl (hb hby at_78) rfl ?_
      refine XS.iload X629.here hx rfl (hb hby at_80) rfl ?_
      exact kt)
  have zs635 := (Nat.le_trans zs631 E629.1)
  obtain ⟨_, _, ⟨T634, L634, k634, n634⟩, -, X634, ⟨Lc634, hQ634, l634, y634, z634⟩, st634⟩ := X629.specialBack hx (y := (⟨"com/example/inscribe/inscribe/geometry/BoundaryOrder", "<init>", "(Ljava/util/List;IZ)V"⟩ : MethodName)) rfl hown (mvT hZ (W 68 rfl)) (mvT hZ (W 69 rfl)) (mvT hZ (W 70 rfl)) (by decide) (backOf (W := 1) (rm11 l Z a0 hw [] b629 b615 st fw h629 n0 zs635 F629_sides F629_start F629_forward A629 ge_b629) hZ (W 70 rfl) (W 67 rfl) (by decide) (by decide)) (g := (mkF m 82 #[iv si, iv sa, iv fl, iv sd, iv gp, iv (4 : Int32), rv b615, rv b619, iv st, iv a', iv b', iv fw, .unset, .unset, .unset, .unset, .unset] [(.int fw), (.int st), (.ref b615), (.ref b629), (.ref b629)])) rfl (by rw [hml]; rfl) (Steps.refl _) (a := b629) (argsL := [(.ref b615), (.int st), (.int fw)]) (rest := [(.ref b629)]) (lenOf pd148 rfl) rfl (by show 2 * 0 + _ ≤ _; exact Nat.le_of_eq rfl) (hb hby at_82) (fun _ _ => ⟨rfl, e629, (by decide : 5 + 0 ≤ _), (by decide : 29 + 0 ≤ _)⟩)
  dsimp only [Pt.U, Pt.locs, Pt.cells, Pt.slots] at X634 l634 y634 z634 st634 hQ634
  subst l634 y634 z634
  obtain ⟨rfl, Nq634, K634, Fa634, Fb634, Fc634⟩ := hQ634
  have N634 := Fr.app N619 Nq634
  have go636 : own_S p e below ST T634 (mkF m 85 #[iv si, iv sa, iv fl, iv sd, iv gp, iv (4 : Int32), rv b615, rv b619, iv st, iv a', iv b', iv fw, .unset, .unset, .unset, .unset, .unset] [(.ref b629)]) := fun tt kt => go633 tt (st634.trans kt)
  have go637 : own_S p e below ST T634 (mkF m 91 #[iv si, iv sa, iv fl, iv sd, iv gp, iv (4 : Int32), rv b615, rv b619, iv st, iv a', iv b', iv fw, rv b629, .unset, .unset, .unset, .unset] [(.ref b619), (.ref b629)]) := fun tt kt => go636 tt (by
      refine XS.astore X634.here hx rfl (hb hby at_85) rfl rfl (l' := #[iv si, iv sa, iv fl, iv sd, iv gp, iv (4 : Int32), rv b615, rv b619, iv st, iv a', iv b', iv fw, rv b629, .unset, .unset, .unset, .unset]) rfl ?_
      refine XS.aload X634.here hx rfl (hb hby at_87) rfl rfl ?_
      refine XS.aload X634.here hx rfl (hb hby at_89) rfl rfl ?_
      exact kt)
  have zs639 := (Nat.le_trans zs635 K634.1)
  have f640 := (A629.keep K634)
  obtain ⟨cq638, kq638, q638a, q638b, q638c⟩ := isOf hZ rfl f640
  obtain ⟨_, _, ⟨T638, L638, k638, n638⟩, -, X638, ⟨Lc638, hQ638, l638, y638, z638⟩, st638⟩ := X634.virtualBack hx (y := (⟨"com/example/inscribe/inscribe/geometry/BoundaryOrder", "mirrored", "(Ljava/util/List;)Lcom/example/inscribe/inscribe/geometry/BoundaryOrder;"⟩ : MethodName)) (z := (⟨"com/example/inscribe/inscribe/geometry/BoundaryOrder", "mirrored", "(Ljava/util/List;)Lcom/example/inscribe/inscribe/geometry/BoundaryOrder;"⟩ : MethodName)) hown (mvT hZ (W 78 rfl)) (mvT hZ (W 79 rfl)) (notFace_of_selects (args := #[]) (mvT hZ (W 81 rfl))) (mvT hZ (W 81 rfl)) (mvT hZ (W 80 rfl)) (by decide) (backOf (W := 0) (rm12 l Z a0 hw [] b629 b619 st (nar .boolean fw) T634.heap n0 zs639 Fb634 Fc634) hZ (W 82 rfl) (W 67 rfl) (by decide) (by decide)) q638a q638c (g := (mkF m 91 #[iv si, iv sa, iv fl, iv sd, iv gp, iv (4 : Int32), rv b615, rv b619, iv st, iv a', iv b', iv fw, rv b629, .unset, .unset, .unset, .unset] [(.ref b619), (.ref b629)])) rfl (by rw [hml]; rfl) (Steps.refl _) (argsL := [(.ref b619)]) (rest := []) (lenOf pd217 rfl) rfl (by show 2 * 0 + _ ≤ _; exact Nat.le_of_eq rfl) (hb hby at_91) (fun _ _ => ⟨rfl, rfl, (by decide : 5 + 1 ≤ _), (by decide : 29 + 3 ≤ _)⟩)
  dsimp only [Pt.U, Pt.locs, Pt.cells, Pt.slots] at X638 l638 y638 z638 st638 hQ638
  subst l638 y638 z638
  obtain ⟨b638, rfl, Nq638, K638, Eb638, Fa638, Fb638, Fc638, zb638⟩ := hQ638
  have N638 := Fr.app N634 Nq638
  have go641 : own_S p e below ST T638 (mkF m 94 #[iv si, iv sa, iv fl, iv sd, iv gp, iv (4 : Int32), rv b615, rv b619, iv st, iv a', iv b', iv fw, rv b629, .unset, .unset, .unset, .unset] [(.ref b638)]) := fun tt kt => go637 tt (st638.trans kt)
  have go642 : own_S p e below ST T638 (mkF m 109 #[iv si, iv sa, iv fl, iv sd, iv gp, iv (4 : Int32), rv b615, rv b619, iv st, iv a', iv b', iv fw, rv b629, rv b638, .val .null, .unset, .unset] [.null, (.int a'), .null, (.int b'), (.ref b629)]) := fun tt kt => go641 tt (by
      refine XS.astore X638.here hx rfl (hb hby at_94) rfl rfl (l' := #[iv si, iv sa, iv fl, iv sd, iv gp, iv (4 : Int32), rv b615, rv b619, iv st, iv a', iv b', iv fw, rv b629, rv b638, .unset, .unset, .unset]) rfl ?_
      refine XS.aconstNull X638.here hx rfl (hb hby at_96) ?_
      refine XS.astore X638.here hx rfl (hb hby at_97) rfl rfl (l' := #[iv si, iv sa, iv fl, iv sd, iv gp, iv (4 : Int32), rv b615, rv b619, iv st, iv a', iv b', iv fw, rv b629, rv b638, .val .null, .unset, .unset]) rfl ?_
      refine XS.aload X638.here hx rfl (hb hby at_99) rfl rfl ?_
      refine XS.iload X638.here hx rfl (hb hby at_101) rfl ?_
      refine XS.aload X638.here hx rfl (hb hby at_103) rfl rfl ?_
      show Steps p.tables e below (T638.setTop (mkF m 105 #[iv si, iv sa, iv fl, iv sd, iv gp, iv (4 : Int32), rv b615, rv b619, iv st, iv a', iv b', iv fw, rv b629, rv b638, .val .null, .unset, .unset] [.null, (.int b'), (.ref b629)])) _
      refine XS.iload X638.here hx rfl (hb hby at_105) rfl ?_
      refine XS.aload X638.here hx rfl (hb hby at_107) rfl rfl ?_
      exact kt)
  have f643 := (Fa634.keep K638 nin0)
  have f644 := (Fb634.keep K638 nin0)
  have f645 := (Fc634.keep K638 nin0)
  have f646 := (((f630.ext E629).keep K634).keep K638)
  have f647 := ((((Fb615.keep K619 nin0).ext E629).keep K634 (ninS neb615_b629 nin0)).keep K638 nin0)
  have f648 := (f640.keep K638)
  have zs650 := (Nat.le_trans zs639 K638.1)
  obtain ⟨cq649, kq649, q649a, q649b, q649c⟩ := isOf hZ rfl f648
  obtain ⟨_, _, ⟨T649, L649, k649, n649⟩, -, X649, ⟨Lc649, hQ649, l649, y649, z649⟩, st649⟩ := X638.virtualBack hx (y := (⟨"com/example/inscribe/inscribe/geometry/BoundaryOrder", "compare", "(ILcom/example/inscribe/inscribe/geometry/Point;ILcom/example/inscribe/inscribe/geometry/Point;)I"⟩ : MethodName)) (z := (⟨"com/example/inscribe/inscribe/geometry/BoundaryOrder", "compare", "(ILcom/example/inscribe/inscribe/geometry/Point;ILcom/example/inscribe/inscribe/geometry/Point;)I"⟩ : MethodName)) hown (mvT hZ (W 85 rfl)) (mvT hZ (W 86 rfl)) (notFace_of_selects (args := #[]) (mvT hZ (W 88 rfl))) (mvT hZ (W 88 rfl)) (mvT hZ (W 87 rfl)) (by decide) (backOf (W := 0) (rm13 l Z a0 hw [] b629 b615 st (nar .boolean fw) (4 : Int32) b' a' T638.heap n0 zs650 f643 f644 f645 f646 f647 (by decide) f648 (Ne.symm hab.1)) hZ (W 89 rfl) (W 67 rfl) (by decide) (by decide)) q649a q649c (g := (mkF m 109 #[iv si, iv sa, iv fl, iv sd, iv gp, iv (4 : Int32), rv b615, rv b619, iv st, iv a', iv b', iv fw, rv b629, rv b638, .val .null, .unset, .unset] [.null, (.int a'), .null, (.int b'), (.ref b629)])) rfl (by rw [hml]; rfl) (Steps.refl _) (argsL := [(.int b'), .null, (.int a'), .null]) (rest := []) (lenOf pd218 rfl) rfl (by show 2 * 0 + _ ≤ _; exact Nat.le_of_eq rfl) (hb hby at_109) (fun _ _ => ⟨rfl, rfl, (by decide : 6 + 0 ≤ _), (by decide : 32 + 0 ≤ _)⟩)
  dsimp only [Pt.U, Pt.locs, Pt.cells, Pt.slots] at X649 l649 y649 z649 st649 hQ649
  subst l649 y649 z649
  obtain ⟨rfl, Nq649, eh649⟩ := hQ649
  have N649 := Fr.app N638 Nq649
  have go651 : own_S p e below ST T649 (mkF m 112 #[iv si, iv sa, iv fl, iv sd, iv gp, iv (4 : Int32), rv b615, rv b619, iv st, iv a', iv b', iv fw, rv b629, rv b638, .val .null, .unset, .unset] [(.int (own_cmp (own_sw (nar .boolean fw) st (4 : Int32) b') (own_sw (nar .boolean fw) st (4 : Int32) a')))]) := fun tt kt => go642 tt (st649.trans kt)
  obtain ⟨bef, hbef⟩ : ∃ z : Int32, z = (own_cmp (own_sw (nar .boolean fw) st (4 : Int32) b') (own_sw (nar .boolean fw) st (4 : Int32) a')) := ⟨_, rfl⟩
  rw [← hbef] at go651
  have go652 : own_S p e below ST T649 (mkF m 124 #[iv si, iv sa, iv fl, iv sd, iv gp, iv (4 : Int32), rv b615, rv b619, iv st, iv a', iv b', iv fw, rv b629, rv b638, .val .null, iv bef, .unset] [.null, (.int b'), .null, (.int a'), (.ref b638)]) := fun tt kt => go651 tt (by
      refine XS.istore X649.here hx rfl (hb hby at_112) rfl (l' := #[iv si, iv sa, iv fl, iv sd, iv gp, iv (4 : Int32), rv b615, rv b619, iv st, iv a', iv b', iv fw, rv b629, rv b638, .val .null, iv bef, .unset]) rfl ?_
      refine XS.aload X649.here hx rfl (hb hby at_114) rfl rfl ?_
      refine XS.iload X649.here hx rfl (hb hby at_116) rfl ?_
      refine XS.aload X649.here hx rfl (hb hby at_118) rfl rfl ?_
      refine XS.iload X649.here hx rfl (hb hby at_120) rfl ?_
      refine XS.aload X649.here hx rfl (hb hby at_122) rfl rfl ?_
      exact kt)
  have f653 := (((Eb619.ext E629).keep K634).keep K638)
  have f654 := (((Fb619.ext E629).keep K634 (ninS neb619_b629 nin0)).keep K638 nin0)
  obtain ⟨cq655, kq655, q655a, q655b, q655c⟩ := isOf hZ eh649 Eb638
  obtain ⟨_, _, ⟨T655, L655, k655, n655⟩, -, X655, ⟨Lc655, hQ655, l655, y655, z655⟩, st655⟩ := X649.virtualBack hx (y := (⟨"com/example/inscribe/inscribe/geometry/BoundaryOrder", "compare", "(ILcom/example/inscribe/inscribe/geometry/Point;ILcom/example/inscribe/inscribe/geometry/Point;)I"⟩ : MethodName)) (z := (⟨"com/example/inscribe/inscribe/geometry/BoundaryOrder", "compare", "(ILcom/example/inscribe/inscribe/geometry/Point;ILcom/example/inscribe/inscribe/geometry/Point;)I"⟩ : MethodName)) hown (mvT hZ (W 85 rfl)) (mvT hZ (W 86 rfl)) (notFace_of_selects (args := #[]) (mvT hZ (W 88 rfl))) (mvT hZ (W 88 rfl)) (mvT hZ (W 87 rfl)) (by decide) (backOf (W := 0) (rm13 l Z a0 hw [] b638 b619 st (own_not (nar .boolean fw)) (4 : Int32) a' b' T638.heap n0 zs650 Fa638 Fb638 Fc638 f653 f654 (by decide) Eb638 hab.1) hZ (W 89 rfl) (W 67 rfl) (by decide) (by decide)) q655a q655c (g := (mkF m 124 #[iv si, iv sa, iv fl, iv sd, iv gp, iv (4 : Int32), rv b615, rv b619, iv st, iv a', iv b', iv fw, rv b629, rv b638, .val .null, iv bef, .unset] [.null, (.int b'), .null, (.int a'), (.ref b638)])) rfl (by rw [hml]; rfl) (Steps.refl _) (argsL := [(.int a'), .null, (.int b'), .null]) (rest := []) (lenOf pd218 rfl) rfl (by show 2 * 0 + _ ≤ _; exact Nat.le_of_eq rfl) (hb hby at_124) (fun _ _ => ⟨rfl, eh649, (by decide : 6 + 0 ≤ _), (by decide : 32 + 0 ≤ _)⟩)
  dsimp only [Pt.U, Pt.locs, Pt.cells, Pt.slots] at X655 l655 y655 z655 st655 hQ655
  subst l655 y655 z655
  obtain ⟨rfl, Nq655, eh655⟩ := hQ655
  have N655 := Fr.app N649 Nq655
  have go656 : own_S p e below ST T655 (mkF m 127 #[iv si, iv sa, iv fl, iv sd, iv gp, iv (4 : Int32), rv b615, rv b619, iv st, iv a', iv b', iv fw, rv b629, rv b638, .val .null, iv bef, .unset] [(.int (own_cmp (own_sw (own_not (nar .boolean fw)) st (4 : Int32) a') (own_sw (own_not (nar .boolean fw)) st (4 : Int32) b')))]) := fun tt kt => go652 tt (st655.trans kt)
  obtain ⟨aft, haft⟩ : ∃ z : Int32, z = (own_cmp (own_sw (own_not (nar .boolean fw)) st (4 : Int32) a') (own_sw (own_not (nar .boolean fw)) st (4 : Int32) b')) := ⟨_, rfl⟩
  rw [← haft] at go656
  have hp : aft = bef ∧ ¬ aft = 0 := by rw [haft, hbef]; have q := hab.2; unfold own_P at q; simpa using q
  have go657 : own_S p e below ST T655 (mkF m 133 #[iv si, iv sa, iv fl, iv sd, iv gp, iv (4 : Int32), rv b615, rv b619, iv st, iv a', iv b', iv fw, rv b629, rv b638, .val .null, iv bef, iv aft] [(.int bef), (.int aft)]) := fun tt kt => go656 tt (by
      refine XS.istore X655.here hx rfl (hb hby at_127) rfl (l' := #[iv si, iv sa, iv fl, iv sd, iv gp, iv (4 : Int32), rv b615, rv b619, iv st, iv a', iv b', iv fw, rv b629, rv b638, .val .null, iv bef, iv aft]) rfl ?_
      refine XS.iload X655.here hx rfl (hb hby at_129) rfl ?_
      refine XS.iload X655.here hx rfl (hb hby at_131) rfl ?_
      exact kt)
  have go658 : own_S p e below ST T655 (mkF m 138 #[iv si, iv sa, iv fl, iv sd, iv gp, iv (4 : Int32), rv b615, rv b619, iv st, iv a', iv b', iv fw, rv b629, rv b638, .val .null, iv bef, iv aft] [(.int aft)]) := fun tt kt => go657 tt (by
      refine XS.icmpNo X655.here hx rfl (hb hby at_133) rfl (teq hp.1).2 ?_
      refine XS.iload X655.here hx rfl (hb hby at_136) rfl ?_
      exact kt)
  have go659 : own_S p e below ST T655 (mkF m 146 #[iv si, iv sa, iv fl, iv sd, iv gp, iv (4 : Int32), rv b615, rv b619, iv st, iv a', iv b', iv fw, rv b629, rv b638, .val .null, iv bef, iv aft] [(.int (1 : Int32))]) := fun tt kt => go658 tt (by
      refine XS.ifNo X655.here hx rfl (hb hby at_138) rfl ((if0 _ _).trans (feq hp.2).1) ?_
      refine XS.iconst X655.here hx rfl (hb hby at_141) ?_
      refine XS.goto X655.here hx rfl (pc0 := 142) (pc' := 146) rfl (hb hby at_142) (by decide) (by decide) ?_
      exact kt)
  obtain ⟨fs, hr, hrun, hended, hW, hsame⟩ := X655.leave (v := some (.int (1 : Int32))) (fun h => by rw [Bd.returns] at h; cases h)
  refine ⟨_, _, pre0 _ (go659 _ ?_), hrun, hended, _, _, rfl, ?_, ⟨_, rfl⟩, hW, hsame.mono (by decide) (by decide)⟩
  · exact retN X655 hx (t := .boolean) Bd.returns (by simp) (hb hby at_146) hr
  · show Q0k4 Z si sa fl sd gp ad kd h0 n0 _ T655.heap _
    rw [eh655]
    exact ⟨rfl, N655⟩
theorem ef0k5 (m : MethodId) (x0 : Int32) (x1 : Int32) (x2 : Int32) (x3 : Int32) (x4 : Int32) : entryFrame m #[(.int x0), (.int x1), (.int x2), (.int x3), (.int x4)] maxLocals = mkF m 0 #[.val (.int x0), .val (.int x1), .val (.int x2), .val (.int x3), .val (.int x4), .unset, .unset, .unset, .unset, .unset, .unset, .unset, .unset, .unset, .unset, .unset, .unset] [] := by first | (simp [entryFrame, mkF, argsToLocals, Value.category, maxLocals]; done) | rfl
def Q0k5 (Z : State) (si : Int32) (sa : Int32) (fl : Int32) (sd : Int32) (gp : Int32) (ad : Addr) (kd : ClassId) (h0 : Heap) (n0 : Nat) (v : Option Value) (h : Heap) (L : List Loc) : Prop := v = some (.int 1) ∧ Fr n0 L
set_option maxRecDepth 65536 in
set_option maxHeartbeats 40000000 in
theorem rm0k5 (l : Launch) (Z : State) (a0 : Array Value) (hw : ∀ d ∈ tables_1, d.before a0 Z = true) (ws : List Jvm.Cond) (si : Int32) (sa : Int32) (fl : Int32) (sd : Int32) (gp : Int32) (ad : Addr) (kd : ClassId) (h0 : Heap) (n0 : Nat) (Z0 : n0 ≤ h0.size) (SD : Sta Z Z.heap "java/util/ArrayList" "DEFAULTCAPACITY_EMPTY_ELEMENTDATA" "[Ljava/lang/Object;" (.ref ad)) (VD : Arv Z Z.heap ad kd (.object "java/lang/Object") (0 : Int32) [] .null) (OL : Old Z n0 h0) (hk : 2 + (si &&& 3) = 5) :
    MetFree l x (head1 (Jvm.Cond.code x code maxLocals ret :: ws) room_1) (fun aa UU => aa = #[(.int si), (.int sa), (.int fl), (.int sd), (.int gp)] ∧ Z.Warmed39 UU.vm ∧ UU.heap = h0) (fun _ _ _ _ _ => True) (fun _ UU oo UU' => ∃ vv LL, oo = .returned vv ∧ Q0k5 Z si sa fl sd gp ad kd h0 n0 vv UU'.heap LL ∧ FrameEnd UU oo UU' LL room_1.cells room_1.slots) := by
  have W : ∀ {d : Jvm.Cond} (i : Nat), tables_1[i]? = some d → d.before a0 Z = true := fun i h => hw _ (List.mem_of_getElem? h)
  refine MetFree.of_bodySF (plainFor_of_name pn86) hisR ?_
  intro p e s m args below meth c s₁ Bd hml0 hP hK
  obtain ⟨rfl, hZ, hh⟩ := hP
  have hx := Bd.exec
  have hby := Bd.bytes
  have hml : c.maxLocals = 17 := hml0
  have hown : s.vm.findClass "com/example/inscribe/inscribe/geometry/BoundaryOrderMirroredPinLaw" = some m.cls := findClass_of_methodNamed Bd.named
  have hnm := (name_of_methodNamed Bd.named Bd.method).1
  have X0 : Stand p l e room_1 s m #[(.int si), (.int sa), (.int fl), (.int sd), (.int gp)] below meth c s₁ [] 0 0 := Stand.of_body Bd
  have e0 : s₁.heap = h0 := by rw [← hh, Bd.state]; rfl
  have N0 := Fr.nil n0
  have pre0 : ∀ tt, Steps p.tables e below (s₁.setTop (mkF m 0 #[iv si, iv sa, iv fl, iv sd, iv gp, .unset, .unset, .unset, .unset, .unset, .unset, .unset, .unset, .unset, .unset, .unset, .unset] [])) tt → Steps p.tables e below (s₁.setTop (entryFrame m #[(.int si), (.int sa), (.int fl), (.int sd), (.int gp)] maxLocals)) tt := fun tt kt => castTop (ef0k5 m si sa fl sd gp) kt
  obtain ⟨ST, hST⟩ : ∃ z : State, z = s₁.setTop (mkF m 0 #[iv si, iv sa, iv fl, iv sd, iv gp, .unset, .unset, .unset, .unset, .unset, .unset, .unset, .unset, .unset, .unset, .unset, .unset] []) := ⟨_, rfl⟩
  rw [← hST] at pre0
  have go660 : own_S p e below ST s₁ (mkF m 7 #[iv si, iv sa, iv fl, iv sd, iv gp, iv ((2 : Int32) + (si &&& (3 : Int32))), .unset, .unset, .unset, .unset, .unset, .unset, .unset, .unset, .unset, .unset, .unset] []) := fun tt kt => (by
      rw [hST]
      show Steps p.tables e below (s₁.setTop (mkF m 0 #[iv si, iv sa, iv fl, iv sd, iv gp, .unset, .unset, .unset, .unset, .unset, .unset, .unset, .unset, .unset, .unset, .unset, .unset] [])) _
      refine XS.iconst X0.here hx rfl (hb hby at_0) ?_
      refine XS.iloadN X0.here hx rfl (hb hby at_1) rfl ?_
      refine XS.iconst X0.here hx rfl (hb hby at_2) ?_
      refine XS.iand X0.here hx rfl (hb hby at_3) rfl ?_
      refine XS.iadd X0.here hx rfl (hb hby at_4) rfl ?_
      refine XS.istore X0.here hx rfl (hb hby at_5) rfl (l' := #[iv si, iv sa, iv fl, iv sd, iv gp, iv ((2 : Int32) + (si &&& (3 : Int32))), .unset, .unset, .unset, .unset, .unset, .unset, .unset, .unset, .unset, .unset, .unset]) rfl ?_
      exact kt)
  rw [hk] at go660
  have go661 : own_S p e below ST s₁ (mkF m 9 #[iv si, iv sa, iv fl, iv sd, iv gp, iv (5 : Int32), .unset, .unset, .unset, .unset, .unset, .unset, .unset, .unset, .unset, .unset, .unset] [(.int (5 : Int32))]) := fun tt kt => go660 tt (by
      refine XS.iload X0.here hx rfl (hb hby at_7) rfl ?_
      exact kt)
  obtain ⟨_, _, ⟨T662, L662, k662, n662⟩, -, X662, ⟨Lc662, hQ662, l662, y662, z662⟩, st662⟩ := Jvm.LawKit.callS X0 hx (y := (⟨"com/example/inscribe/inscribe/geometry/BoundaryOrderMirroredPinLaw", "nulls", "(I)Ljava/util/List;"⟩ : MethodName)) hown (mvT hZ (W 0 rfl)) (mvT hZ (W 1 rfl)) (mvT hZ (W 2 rfl)) (mvT hZ (W 3 rfl)) (by decide) (backOf (W := 0) (rm1k5 l Z a0 hw [] ad kd h0 n0 Z0 SD VD OL) hZ (W 3 rfl) (W 2 rfl) (by decide) (by decide)) (g := (mkF m 9 #[iv si, iv sa, iv fl, iv sd, iv gp, iv (5 : Int32), .unset, .unset, .unset, .unset, .unset, .unset, .unset, .unset, .unset, .unset, .unset] [(.int (5 : Int32))])) rfl (by rw [hml]; rfl) (argsL := [(.int (5 : Int32))]) (rest := []) (lenOf pd216 rfl) rfl (by show 2 * 0 + _ ≤ _; exact Nat.le_of_eq rfl) (hb hby at_9) (fun _ _ => ⟨rfl, e0, (by decide : 0 + 2 ≤ _), (by decide : 0 + 13 ≤ _)⟩)
  dsimp only [Pt.U, Pt.locs, Pt.cells, Pt.slots] at X662 l662 y662 z662 st662 hQ662
  subst l662 y662 z662
  obtain ⟨b662, rfl, Nq662, K662, Eb662, Fb662, gb662, zb662⟩ := hQ662
  have N662 := Fr.app N0 Nq662
  have go663 : own_S p e below ST T662 (mkF m 12 #[iv si, iv sa, iv fl, iv sd, iv gp, iv (5 : Int32), .unset, .unset, .unset, .unset, .unset, .unset, .unset, .unset, .unset, .unset, .unset] [(.ref b662)]) := fun tt kt => go661 tt (st662 _ kt)
  have go664 : own_S p e below ST T662 (mkF m 16 #[iv si, iv sa, iv fl, iv sd, iv gp, iv (5 : Int32), rv b662, .unset, .unset, .unset, .unset, .unset, .unset, .unset, .unset, .unset, .unset] [(.int (5 : Int32))]) := fun tt kt => go663 tt (by
      refine XS.astore X662.here hx rfl (hb hby at_12) rfl rfl (l' := #[iv si, iv sa, iv fl, iv sd, iv gp, iv (5 : Int32), rv b662, .unset, .unset, .unset, .unset, .unset, .unset, .unset, .unset, .unset, .unset]) rfl ?_
      refine XS.iload X662.here hx rfl (hb hby at_14) rfl ?_
      exact kt)
  have f665 := (OL.keep K662 all0)
  have zs667 := (Nat.le_trans Z0 K662.1)
  obtain ⟨_, _, ⟨T666, L666, k666, n666⟩, -, X666, ⟨Lc666, hQ666, l666, y666, z666⟩, st666⟩ := Jvm.LawKit.callS X662 hx (y := (⟨"com/example/inscribe/inscribe/geometry/BoundaryOrderMirroredPinLaw", "nulls", "(I)Ljava/util/List;"⟩ : MethodName)) hown (mvT hZ (W 0 rfl)) (mvT hZ (W 1 rfl)) (mvT hZ (W 2 rfl)) (mvT hZ (W 3 rfl)) (by decide) (backOf (W := 0) (rm1k5 l Z a0 hw [] ad kd T662.heap n0 zs667 SD VD f665) hZ (W 3 rfl) (W 2 rfl) (by decide) (by decide)) (g := (mkF m 16 #[iv si, iv sa, iv fl, iv sd, iv gp, iv (5 : Int32), rv b662, .unset, .unset, .unset, .unset, .unset, .unset, .unset, .unset, .unset, .unset] [(.int (5 : Int32))])) rfl (by rw [hml]; rfl) (argsL := [(.int (5 : Int32))]) (rest := []) (lenOf pd216 rfl) rfl (by show 2 * 0 + _ ≤ _; exact Nat.le_of_eq rfl) (hb hby at_16) (fun _ _ => ⟨rfl, rfl, (by decide : 2 + 2 ≤ _), (by decide : 13 + 13 ≤ _)⟩)
  dsimp only [Pt.U, Pt.locs, Pt.cells, Pt.slots] at X666 l666 y666 z666 st666 hQ666
  subst l666 y666 z666
  obtain ⟨b666, rfl, Nq666, K666, Eb666, Fb666, gb666, zb666⟩ := hQ666
  have N666 := Fr.app N662 Nq666
  have go668 : own_S p e below ST T666 (mkF m 19 #[iv si, iv sa, iv fl, iv sd, iv gp, iv (5 : Int32), rv b662, .unset, .unset, .unset, .unset, .unset, .unset, .unset, .unset, .unset, .unset] [(.ref b666)]) := fun tt kt => go664 tt (st666 _ kt)
  have go669 : own_S p e below ST T666 (mkF m 28 #[iv si, iv sa, iv fl, iv sd, iv gp, iv (5 : Int32), rv b662, rv b666, .unset, .unset, .unset, .unset, .unset, .unset, .unset, .unset, .unset] [(.int ((sa &&& (2147483647 : Int32)) % (5 : Int32)))]) := fun tt kt => go668 tt (by
      refine XS.astore X666.here hx rfl (hb hby at_19) rfl rfl (l' := #[iv si, iv sa, iv fl, iv sd, iv gp, iv (5 : Int32), rv b662, rv b666, .unset, .unset, .unset, .unset, .unset, .unset, .unset, .unset, .unset]) rfl ?_
      refine XS.iloadN X666.here hx rfl (hb hby at_21) rfl ?_
      refine X666.ldcInt hx hown (mvT hZ (W 64 rfl)) (g := (mkF m 22 #[iv si, iv sa, iv fl, iv sd, iv gp, iv (5 : Int32), rv b662, rv b666, .unset, .unset, .unset, .unset, .unset, .unset, .unset, .unset, .unset] [(.int sa)])) rfl (hb hby at_22) _ ?_
      refine XS.iand X666.here hx rfl (hb hby at_24) rfl ?_
      refine XS.iload X666.here hx rfl (hb hby at_25) rfl ?_
      refine iremM (g := (mkF m 27 #[iv si, iv sa, iv fl, iv sd, iv gp, iv (5 : Int32), rv b662, rv b666, .unset, .unset, .unset, .unset, .unset, .unset, .unset, .unset, .unset] [(.int (5 : Int32)), (.int (sa &&& (2147483647 : Int32)))])) X666 hx rfl (hb hby at_27) rfl (by decide) ?_
      exact kt)
  obtain ⟨st, hst⟩ : ∃ z : Int32, z = ((sa &&& (2147483647 : Int32)) % (5 : Int32)) := ⟨_, rfl⟩
  rw [← hst] at go669
  have hs := own_in sa st (5 : Int32) (by decide) hst
  have go670 : own_S p e below ST T666 (mkF m 37 #[iv si, iv sa, iv fl, iv sd, iv gp, iv (5 : Int32), rv b662, rv b666, iv st, .unset, .unset, .unset, .unset, .unset, .unset, .unset, .unset] [(.int ((sd &&& (2147483647 : Int32)) % (5 : Int32)))]) := fun tt kt => go669 tt (by
      refine XS.istore X666.here hx rfl (hb hby at_28) rfl (l' := #[iv si, iv sa, iv fl, iv sd, iv gp, iv (5 : Int32), rv b662, rv b666, iv st, .unset, .unset, .unset, .unset, .unset, .unset, .unset, .unset]) rfl ?_
      refine XS.iloadN X666.here hx rfl (hb hby at_30) rfl ?_
      refine X666.ldcInt hx hown (mvT hZ (W 64 rfl)) (g := (mkF m 31 #[iv si, iv sa, iv fl, iv sd, iv gp, iv (5 : Int32), rv b662, rv b666, iv st, .unset, .unset, .unset, .unset, .unset, .unset, .unset, .unset] [(.int sd)])) rfl (hb hby at_31) _ ?_
      refine XS.iand X666.here hx rfl (hb hby at_33) rfl ?_
      refine XS.iload X666.here hx rfl (hb hby at_34) rfl ?_
      refine iremM (g := (mkF m 36 #[iv si, iv sa, iv fl, iv sd, iv gp, iv (5 : Int32), rv b662, rv b666, iv st, .unset, .unset, .unset, .unset, .unset, .unset, .unset, .unset] [(.int (5 : Int32)), (.int (sd &&& (2147483647 : Int32)))])) X666 hx rfl (hb hby at_36) rfl (by decide) ?_
      exact kt)
  obtain ⟨a', ha'⟩ : ∃ z : Int32, z = ((sd &&& (2147483647 : Int32)) % (5 : Int32)) := ⟨_, rfl⟩
  rw [← ha'] at go670
  have ha := own_in sd a' (5 : Int32) (by decide) ha'
  have go671 : own_S p e below ST T666 (mkF m 57 #[iv si, iv sa, iv fl, iv sd, iv gp, iv (5 : Int32), rv b662, rv b666, iv st, iv a', .unset, .unset, .unset, .unset, .unset, .unset, .unset] [(.int (((a' + (1 : Int32)) + ((gp &&& (2147483647 : Int32)) % (4 : Int32))) % (5 : Int32)))]) := fun tt kt => go670 tt (by
      refine XS.istore X666.here hx rfl (hb hby at_37) rfl (l' := #[iv si, iv sa, iv fl, iv sd, iv gp, iv (5 : Int32), rv b662, rv b666, iv st, iv a', .unset, .unset, .unset, .unset, .unset, .unset, .unset]) rfl ?_
      refine XS.iload X666.here hx rfl (hb hby at_39) rfl ?_
      refine XS.iconst X666.here hx rfl (hb hby at_41) ?_
      refine XS.iadd X666.here hx rfl (hb hby at_42) rfl ?_
      refine XS.iload X666.here hx rfl (hb hby at_43) rfl ?_
      refine X666.ldcInt hx hown (mvT hZ (W 64 rfl)) (g := (mkF m 45 #[iv si, iv sa, iv fl, iv sd, iv gp, iv (5 : Int32), rv b662, rv b666, iv st, iv a', .unset, .unset, .unset, .unset, .unset, .unset, .unset] [(.int gp), (.int (a' + (1 : Int32)))])) rfl (hb hby at_45) _ ?_
      show Steps p.tables e below (T666.setTop (mkF m 47 #[iv si, iv sa, iv fl, iv sd, iv gp, iv (5 : Int32), rv b662, rv b666, iv st, iv a', .unset, .unset, .unset, .unset, .unset, .unset, .unset] [(.int (2147483647 : Int32)), (.int gp), (.int (a' + (1 : Int32)))])) _
      refine XS.iand X666.here hx rfl (hb hby at_47) rfl ?_
      refine XS.iload X666.here hx rfl (hb hby at_48) rfl ?_
      refine XS.iconst X666.here hx rfl (hb hby at_50) ?_
      refine XS.isub X666.here hx rfl (hb hby at_51) rfl ?_
      refine iremM (g := (mkF m 52 #[iv si, iv sa, iv fl, iv sd, iv gp, iv (5 : Int32), rv b662, rv b666, iv st, iv a', .unset, .unset, .unset, .unset, .unset, .unset, .unset] [(.int (4 : Int32)), (.int (gp &&& (2147483647 : Int32))), (.int (a' + (1 : Int32)))])) X666 hx rfl (hb hby at_52) rfl (by decide) ?_
      refine XS.iadd X666.here hx rfl (hb hby at_53) rfl ?_
      show Steps p.tables e below (T666.setTop (mkF m 54 #[iv si, iv sa, iv fl, iv sd, iv gp, iv (5 : Int32), rv b662, rv b666, iv st, iv a', .unset, .unset, .unset, .unset, .unset, .unset, .unset] [(.int ((a' + (1 : Int32)) + ((gp &&& (2147483647 : Int32)) % (4 : Int32))))])) _
      refine XS.iload X666.here hx rfl (hb hby at_54) rfl ?_
      refine iremM (g := (mkF m 56 #[iv si, iv sa, iv fl, iv sd, iv gp, iv (5 : Int32), rv b662, rv b666, iv st, iv a', .unset, .unset, .unset, .unset, .unset, .unset, .unset] [(.int (5 : Int32)), (.int ((a' + (1 : Int32)) + ((gp &&& (2147483647 : Int32)) % (4 : Int32))))])) X666 hx rfl (hb hby at_56) rfl (by decide) ?_
      exact kt)
  obtain ⟨g', hg'⟩ : ∃ z : Int32, z = ((gp &&& (2147483647 : Int32)) % (4 : Int32)) := ⟨_, rfl⟩
  rw [← hg'] at go671
  have hg := own_in gp g' (4 : Int32) (by decide) hg'
  obtain ⟨b', hb'⟩ : ∃ z : Int32, z = (((a' + (1 : Int32)) + g') % (5 : Int32)) := ⟨_, rfl⟩
  rw [← hb'] at go671
  have go672 : own_S p e below ST T666 (mkF m 62 #[iv si, iv sa, iv fl, iv sd, iv gp, iv (5 : Int32), rv b662, rv b666, iv st, iv a', iv b', .unset, .unset, .unset, .unset, .unset, .unset] [(.int (fl &&& (1 : Int32)))]) := fun tt kt => go671 tt (by
      refine XS.istore X666.here hx rfl (hb hby at_57) rfl (l' := #[iv si, iv sa, iv fl, iv sd, iv gp, iv (5 : Int32), rv b662, rv b666, iv st, iv a', iv b', .unset, .unset, .unset, .unset, .unset, .unset]) rfl ?_
      refine XS.iloadN X666.here hx rfl (hb hby at_59) rfl ?_
      refine XS.iconst X666.here hx rfl (hb hby at_60) ?_
      refine XS.iand X666.here hx rfl (hb hby at_61) rfl ?_
      exact kt)
  obtain ⟨fw, hfw, sg673⟩ : ∃ (fw : Int32), fw = (if (fl &&& (1 : Int32)) = (0 : Int32) then (0 : Int32) else (1 : Int32)) ∧ ∀ tt, Steps p.tables e below (T666.setTop (mkF m 70 #[iv si, iv sa, iv fl, iv sd, iv gp, iv (5 : Int32), rv b662, rv b666, iv st, iv a', iv b', .unset, .unset, .unset, .unset, .unset, .unset] [(.int fw)])) tt → Steps p.tables e below (T666.setTop (mkF m 62 #[iv si, iv sa, iv fl, iv sd, iv gp, iv (5 : Int32), rv b662, rv b666, iv st, iv a', iv b', .unset, .unset, .unset, .unset, .unset, .unset] [(.int (fl &&& (1 : Int32)))])) tt := by
    by_cases hd62_0 : (fl &&& (1 : Int32)) = (0 : Int32)
    · refine ⟨_, (if_pos hd62_0).symm, fun tt kt => ?_⟩
      show Steps p.tables e below (T666.setTop (mkF m 62 #[iv si, iv sa, iv fl, iv sd, iv gp, iv (5 : Int32), rv b662, rv b666, iv st, iv a', iv b', .unset, .unset, .unset, .unset, .unset, .unset] [(.int (fl &&& (1 : Int32)))])) _
      refine XS.ifYes X666.here hx rfl (pc0 := 62) (pc' := 69) rfl (hb hby at_62) rfl ((if0 _ _).trans (teq hd62_0).1) (by decide) (by decide) ?_
      refine XS.iconst X666.here hx rfl (hb hby at_69) ?_
      exact kt
    · refine ⟨_, (if_neg hd62_0).symm, fun tt kt => ?_⟩
      show Steps p.tables e below (T666.setTop (mkF m 62 #[iv si, iv sa, iv fl, iv sd, iv gp, iv (5 : Int32), rv b662, rv b666, iv st, iv a', iv b', .unset, .unset, .unset, .unset, .unset, .unset] [(.int (fl &&& (1 : Int32)))])) _
      refine XS.ifNo X666.here hx rfl (hb hby at_62) rfl ((if0 _ _).trans (feq hd62_0).1) ?_
      refine XS.iconst X666.here hx rfl (hb hby at_65) ?_
      refine XS.goto X666.here hx rfl (pc0 := 66) (pc' := 70) rfl (hb hby at_66) (by decide) (by decide) ?_
      exact kt
  have go674 : own_S p e below ST T666 (mkF m 70 #[iv si, iv sa, iv fl, iv sd, iv gp, iv (5 : Int32), rv b662, rv b666, iv st, iv a', iv b', .unset, .unset, .unset, .unset, .unset, .unset] [(.int fw)]) := fun tt kt => go672 tt (sg673 _ kt)
  have hf : fw = 0 ∨ fw = 1 := by rw [hfw]; split <;> simp
  have hab := own_law5 fw st a' g' b' hf hs ha hg hb'
  have go675 : own_S p e below ST T666 (mkF m 72 #[iv si, iv sa, iv fl, iv sd, iv gp, iv (5 : Int32), rv b662, rv b666, iv st, iv a', iv b', iv fw, .unset, .unset, .unset, .unset, .unset] []) := fun tt kt => go674 tt (by
      refine XS.istore X666.here hx rfl (hb hby at_70) rfl (l' := #[iv si, iv sa, iv fl, iv sd, iv gp, iv (5 : Int32), rv b662, rv b666, iv st, iv a', iv b', iv fw, .unset, .unset, .unset, .unset, .unset]) rfl ?_
      exact kt)
  have f677 := (Eb662.keep K666)
  have zs678 := (Nat.le_trans zs667 K666.1)
  obtain ⟨b676, g676⟩ : ∃ z, z = T666.heap.size := ⟨_, rfl⟩
  obtain ⟨T676, h676, X676, e676, E676, A676, D676, -, st676⟩ := newO X666 hx hZ hown (W 65 rfl) (W 66 rfl) (W 67 rfl) rfl (g := (mkF m 72 #[iv si, iv sa, iv fl, iv sd, iv gp, iv (5 : Int32), rv b662, rv b666, iv st, iv a', iv b', iv fw, .unset, .unset, .unset, .unset, .unset] [])) rfl (hb hby at_72) (by decide) (by decide)
  rw [← g676] at A676 D676 st676
  have neb662_b676 : b662 ≠ b676 := Nat.ne_of_lt (Nat.lt_of_lt_of_le f677.lt (Nat.le_of_eq g676.symm))
  have neb666_b676 : b666 ≠ b676 := Nat.ne_of_lt (Nat.lt_of_lt_of_le Eb666.lt (Nat.le_of_eq g676.symm))
  have ge_b676 : n0 ≤ b676 := Nat.le_trans zs678 (Nat.le_of_eq g676.symm)
  have F676_sides : Fld Z h676 b676 "com/example/inscribe/inscribe/geometry/BoundaryOrder" "sides" "Ljava/util/List;" .null := D676 (Or.inr (W 73 rfl)) (ty := (.object "java/util/List")) (by decide)
  have F676_start : Fld Z h676 b676 "com/example/inscribe/inscribe/geometry/BoundaryOrder" "start" "I" (.int (0 : Int32)) := D676 (Or.inr (W 75 rfl)) (ty := .int) (by decide)
  have F676_forward : Fld Z h676 b676 "com/example/inscribe/inscribe/geometry/BoundaryOrder" "forward" "Z" (.int (0 : Int32)) := D676 (Or.inr (W 77 rfl)) (ty := .boolean) (by decide)
  have go679 : own_S p e below ST T676 (mkF m 75 #[iv si, iv sa, iv fl, iv sd, iv gp, iv (5 : Int32), rv b662, rv b666, iv st, iv a', iv b', iv fw, .unset, .unset, .unset, .unset, .unset] [(.ref b676)]) := fun tt kt => go675 tt (st676 _ kt)
  have go680 : own_S p e below ST T676 (mkF m 82 #[iv si, iv sa, iv fl, iv sd, iv gp, iv (5 : Int32), rv b662, rv b666, iv st, iv a', iv b', iv fw, .unset, .unset, .unset, .unset, .unset] [(.int fw), (.int st), (.ref b662), (.ref b676), (.ref b676)]) := fun tt kt => go679 tt (by
      refine XS.dup X676.here hx rfl (hb hby at_75) rfl rfl ?_
      refine XS.aload X676.here hx rfl (hb hby at_76) rfl rfl ?_
      refine XS.iload X676.here hx rfl (hb hby at_78) rfl ?_
      refine XS.iload X676.here hx rfl (hb hby at_80) rfl ?_
      exact kt)
  have zs682 := (Nat.le_trans zs678 E676.1)
  obtain ⟨_, _, ⟨T681, L681, k681, n681⟩, -, X681, ⟨Lc681, hQ681, l681, y681, z681⟩, st681⟩ := X676.specialBack hx (y := (⟨"com/example/inscribe/inscribe/geometry/BoundaryOrder", "<init>", "(Ljava/util/List;IZ)V"⟩ : MethodName)) rfl hown (mvT hZ (W 68 rfl)) (mvT hZ (W 69 rfl)) (mvT hZ (W 70 rfl)) (by decide) (backOf (W := 1) (rm11 l Z a0 hw [] b676 b662 st fw h676 n0 zs682 F676_sides F676_start F676_forward A676 ge_b676) hZ (W 70 rfl) (W 67 rfl) (by decide) (by decide)) (g := (mkF m 82 #[iv si, iv sa, iv fl, iv sd, iv gp, iv (5 : Int32), rv b662, rv b666, iv st, iv a', iv b', iv fw, .unset, .unset, .unset, .unset, .unset] [(.int fw), (.int st), (.ref b662), (.ref b676), (.ref b676)])) rfl (by rw [hml]; rfl) (Steps.refl _) (a := b676) (argsL := [(.ref b662), (.int st), (.int fw)]) (rest := [(.ref b676)]) (lenOf pd148 rfl) rfl (by show 2 * 0 + _ ≤ _; exact Nat.le_of_eq rfl) (hb hby at_82) (fun _ _ => ⟨rfl, e676, (by decide : 5 + 0 ≤ _), (by decide : 29 + 0 ≤ _)⟩)
  dsimp only [Pt.U, Pt.locs, Pt.cells, Pt.slots] at X681 l681 y681 z681 st681 hQ681
  subst l681 y681 z681
  obtain ⟨rfl, Nq681, K681, Fa681, Fb681, Fc681⟩ := hQ681
  have N681 := Fr.app N666 Nq681
  have go683 : own_S p e below ST T681 (mkF m 85 #[iv si, iv sa, iv fl, iv sd, iv gp, iv (5 : Int32), rv b662, rv b666, iv st, iv a', iv b', iv fw, .unset, .unset, .unset, .unset, .unset] [(.ref b676)]) := fun tt kt => go680 tt (st681.trans kt)
  have go684 : own_S p e below ST T681 (mkF m 91 #[iv si, iv sa, iv fl, iv sd, iv gp, iv (5 : Int32), rv b662, rv b666, iv st, iv a', iv b', iv fw, rv b676, .unset, .unset, .unset, .unset] [(.ref b666), (.ref b676)]) := fun tt kt => go683 tt (by
      refine XS.astore X681.here hx rfl (hb hby at_85) rfl rfl (l' := #[iv si, iv sa, iv fl, iv sd, iv gp, iv (5 : Int32), rv b662, rv b666, iv st, iv a', iv b', iv fw, rv b676, .unset, .unset, .unset, .unset]) rfl ?_
      refine XS.aload X681.here hx rfl (hb hby at_87) rfl rfl ?_
      refine XS.aload X681.here hx rfl (hb hby at_89) rfl rfl ?_
      exact kt)
  have zs686 := (Nat.le_trans zs682 K681.1)
  have f687 := (A676.keep K681)
  obtain ⟨cq685, kq685, q685a, q685b, q685c⟩ := isOf hZ rfl f687
  obtain ⟨_, _, ⟨T685, L685, k685, n685⟩, -, X685, ⟨Lc685, hQ685, l685, y685, z685⟩, st685⟩ := X681.virtualBack hx (y := (⟨"com/example/inscribe/inscribe/geometry/BoundaryOrder", "mirrored", "(Ljava/util/List;)Lcom/example/inscribe/inscribe/geometry/BoundaryOrder;"⟩ : MethodName)) (z := (⟨"com/example/inscribe/inscribe/geometry/BoundaryOrder", "mirrored", "(Ljava/util/List;)Lcom/example/inscribe/inscribe/geometry/BoundaryOrder;"⟩ : MethodName)) hown (mvT hZ (W 78 rfl)) (mvT hZ (W 79 rfl)) (notFace_of_selects (args := #[]) (mvT hZ (W 81 rfl))) (mvT hZ (W 81 rfl)) (mvT hZ (W 80 rfl)) (by decide) (backOf (W := 0) (rm12 l Z a0 hw [] b676 b666 st (nar .boolean fw) T681.heap n0 zs686 Fb681 Fc681) hZ (W 82 rfl) (W 67 rfl) (by decide) (by decide)) q685a q685c (g := (mkF m 91 #[iv si, iv sa, iv fl, iv sd, iv gp, iv (5 : Int32), rv b662, rv b666, iv st, iv a', iv b', iv fw, rv b676, .unset, .unset, .unset, .unset] [(.ref b666), (.ref b676)])) rfl (by rw [hml]; rfl) (Steps.refl _) (argsL := [(.ref b666)]) (rest := []) (lenOf pd217 rfl) rfl (by show 2 * 0 + _ ≤ _; exact Nat.le_of_eq rfl) (hb hby at_91) (fun _ _ => ⟨rfl, rfl, (by decide : 5 + 1 ≤ _), (by decide : 29 + 3 ≤ _)⟩)
  dsimp only [Pt.U, Pt.locs, Pt.cells, Pt.slots] at X685 l685 y685 z685 st685 hQ685
  subst l685 y685 z685
  obtain ⟨b685, rfl, Nq685, K685, Eb685, Fa685, Fb685, Fc685, zb685⟩ := hQ685
  have N685 := Fr.app N681 Nq685
  have go688 : own_S p e below ST T685 (mkF m 94 #[iv si, iv sa, iv fl, iv sd, iv gp, iv (5 : Int32), rv b662, rv b666, iv st, iv a', iv b', iv fw, rv b676, .unset, .unset, .unset, .unset] [(.ref b685)]) := fun tt kt => go684 tt (st685.trans kt)
  have go689 : own_S p e below ST T685 (mkF m 109 #[iv si, iv sa, iv fl, iv sd, iv gp, iv (5 : Int32), rv b662, rv b666, iv st, iv a', iv b', iv fw, rv b676, rv b685, .val .null, .unset, .unset] [.null, (.int a'), .null, (.int b'), (.ref b676)]) := fun tt kt => go688 tt (by
      refine XS.astore X685.here hx rfl (hb hby at_94) rfl rfl (l' := #[iv si, iv sa, iv fl, iv sd, iv gp, iv (5 : Int32), rv b662, rv b666, iv st, iv a', iv b', iv fw, rv b676, rv b685, .unset, .unset, .unset]) rfl ?_
      refine XS.aconstNull X685.here hx rfl (hb hby at_96) ?_
      refine XS.astore X685.here hx rfl (hb hby at_97) rfl rfl (l' := #[iv si, iv sa, iv fl, iv sd, iv gp, iv (5 : Int32), rv b662, rv b666, iv st, iv a', iv b', iv fw, rv b676, rv b685, .val .null, .unset, .unset]) rfl ?_
      refine XS.aload X685.here hx rfl (hb hby at_99) rfl rfl ?_
      refine XS.iload X685.here hx rfl (hb hby at_101) rfl ?_
      refine XS.aload X685.here hx rfl (hb hby at_103) rfl rfl ?_
      show Steps p.tables e below (T685.setTop (mkF m 105 #[iv si, iv sa, iv fl, iv sd, iv gp, iv (5 : Int32), rv b662, rv b666, iv st, iv a', iv b', iv fw, rv b676, rv b685, .val .null, .unset, .unset] [.null, (.int b'), (.ref b676)])) _
      refine XS.iload X685.here hx rfl (hb hby at_105) rfl ?_
      refine XS.aload X685.here hx rfl (hb hby at_107) rfl rfl ?_
      exact kt)
  have f690 := (Fa681.keep K685 nin0)
  have f691 := (Fb681.keep K685 nin0)
  have f692 := (Fc681.keep K685 nin0)
  have f693 := (((f677.ext E676).keep K681).keep K685)
  have f694 := ((((Fb662.keep K666 nin0).ext E676).keep K681 (ninS neb662_b676 nin0)).keep K685 nin0)
  have f695 := (f687.keep K685)
  have zs697 := (Nat.le_trans zs686 K685.1)
  obtain ⟨cq696, kq696, q696a, q696b, q696c⟩ := isOf hZ rfl f695
  obtain ⟨_, _, ⟨T696, L696, k696, n696⟩, -, X696, ⟨Lc696, hQ696, l696, y696, z696⟩, st696⟩ := X685.virtualBack hx (y := (⟨"com/example/inscribe/inscribe/geometry/BoundaryOrder", "compare", "(ILcom/example/inscribe/inscribe/geometry/Point;ILcom/example/inscribe/inscribe/geometry/Point;)I"⟩ : MethodName)) (z := (⟨"com/example/inscribe/inscribe/geometry/BoundaryOrder", "compare", "(ILcom/example/inscribe/inscribe/geometry/Point;ILcom/example/inscribe/inscribe/geometry/Point;)I"⟩ : MethodName)) hown (mvT hZ (W 85 rfl)) (mvT hZ (W 86 rfl)) (notFace_of_selects (args := #[]) (mvT hZ (W 88 rfl))) (mvT hZ (W 88 rfl)) (mvT hZ (W 87 rfl)) (by decide) (backOf (W := 0) (rm13 l Z a0 hw [] b676 b662 st (nar .boolean fw) (5 : Int32) b' a' T685.heap n0 zs697 f690 f691 f692 f693 f694 (by decide) f695 (Ne.symm hab.1)) hZ (W 89 rfl) (W 67 rfl) (by decide) (by decide)) q696a q696c (g := (mkF m 109 #[iv si, iv sa, iv fl, iv sd, iv gp, iv (5 : Int32), rv b662, rv b666, iv st, iv a', iv b', iv fw, rv b676, rv b685, .val .null, .unset, .unset] [.null, (.int a'), .null, (.int b'), (.ref b676)])) rfl (by rw [hml]; rfl) (Steps.refl _) (argsL := [(.int b'), .null, (.int a'), .null]) (rest := []) (lenOf pd218 rfl) rfl (by show 2 * 0 + _ ≤ _; exact Nat.le_of_eq rfl) (hb hby at_109) (fun _ _ => ⟨rfl, rfl, (by decide : 6 + 0 ≤ _), (by decide : 32 + 0 ≤ _)⟩)
  dsimp only [Pt.U, Pt.locs, Pt.cells, Pt.slots] at X696 l696 y696 z696 st696 hQ696
  subst l696 y696 z696
  obtain ⟨rfl, Nq696, eh696⟩ := hQ696
  have N696 := Fr.app N685 Nq696
  have go698 : own_S p e below ST T696 (mkF m 112 #[iv si, iv sa, iv fl, iv sd, iv gp, iv (5 : Int32), rv b662, rv b666, iv st, iv a', iv b', iv fw, rv b676, rv b685, .val .null, .unset, .unset] [(.int (own_cmp (own_sw (nar .boolean fw) st (5 : Int32) b') (own_sw (nar .boolean fw) st (5 : Int32) a')))]) := fun tt kt => go689 tt (st696.trans kt)
  obtain ⟨bef, hbef⟩ : ∃ z : Int32, z = (own_cmp (own_sw (nar .boolean fw) st (5 : Int32) b') (own_sw (nar .boolean fw) st (5 : Int32) a')) := ⟨_, rfl⟩
  rw [← hbef] at go698
  have go699 : own_S p e below ST T696 (mkF m 124 #[iv si, iv sa, iv fl, iv sd, iv gp, iv (5 : Int32), rv b662, rv b666, iv st, iv a', iv b', iv fw, rv b676, rv b685, .val .null, iv bef, .unset] [.null, (.int b'), .null, (.int a'), (.ref b685)]) := fun tt kt => go698 tt (by
      refine XS.istore X696.here hx rfl (hb hby at_112) rfl (l' := #[iv si, iv sa, iv fl, iv sd, iv gp, iv (5 : Int32), rv b662, rv b666, iv st, iv a', iv b', iv fw, rv b676, rv b685, .val .null, iv bef, .unset]) rfl ?_
      refine XS.aload X696.here hx rfl (hb hby at_114) rfl rfl ?_
      refine XS.iload X696.here hx rfl (hb hby at_116) rfl ?_
      refine XS.aload X696.here hx rfl (hb hby at_118) rfl rfl ?_
      refine XS.iload X696.here hx rfl (hb hby at_120) rfl ?_
      refine XS.aload X696.here hx rfl (hb hby at_122) rfl rfl ?_
      exact kt)
  have f700 := (((Eb666.ext E676).keep K681).keep K685)
  have f701 := (((Fb666.ext E676).keep K681 (ninS neb666_b676 nin0)).keep K685 nin0)
  obtain ⟨cq702, kq702, q702a, q702b, q702c⟩ := isOf hZ eh696 Eb685
  obtain ⟨_, _, ⟨T702, L702, k702, n702⟩, -, X702, ⟨Lc702, hQ702, l702, y702, z702⟩, st702⟩ := X696.virtualBack hx (y := (⟨"com/example/inscribe/inscribe/geometry/BoundaryOrder", "compare", "(ILcom/example/inscribe/inscribe/geometry/Point;ILcom/example/inscribe/inscribe/geometry/Point;)I"⟩ : MethodName)) (z := (⟨"com/example/inscribe/inscribe/geometry/BoundaryOrder", "compare", "(ILcom/example/inscribe/inscribe/geometry/Point;ILcom/example/inscribe/inscribe/geometry/Point;)I"⟩ : MethodName)) hown (mvT hZ (W 85 rfl)) (mvT hZ (W 86 rfl)) (notFace_of_selects (args := #[]) (mvT hZ (W 88 rfl))) (mvT hZ (W 88 rfl)) (mvT hZ (W 87 rfl)) (by decide) (backOf (W := 0) (rm13 l Z a0 hw [] b685 b666 st (own_not (nar .boolean fw)) (5 : Int32) a' b' T685.heap n0 zs697 Fa685 Fb685 Fc685 f700 f701 (by decide) Eb685 hab.1) hZ (W 89 rfl) (W 67 rfl) (by decide) (by decide)) q702a q702c (g := (mkF m 124 #[iv si, iv sa, iv fl, iv sd, iv gp, iv (5 : Int32), rv b662, rv b666, iv st, iv a', iv b', iv fw, rv b676, rv b685, .val .null, iv bef, .unset] [.null, (.int b'), .null, (.int a'), (.ref b685)])) rfl (by rw [hml]; rfl) (Steps.refl _) (argsL := [(.int a'), .null, (.int b'), .null]) (rest := []) (lenOf pd218 rfl) rfl (by show 2 * 0 + _ ≤ _; exact Nat.le_of_eq rfl) (hb hby at_124) (fun _ _ => ⟨rfl, eh696, (by decide : 6 + 0 ≤ _), (by decide : 32 + 0 ≤ _)⟩)
  dsimp only [Pt.U, Pt.locs, Pt.cells, Pt.slots] at X702 l702 y702 z702 st702 hQ702
  subst l702 y702 z702
  obtain ⟨rfl, Nq702, eh702⟩ := hQ702
  have N702 := Fr.app N696 Nq702
  have go703 : own_S p e below ST T702 (mkF m 127 #[iv si, iv sa, iv fl, iv sd, iv gp, iv (5 : Int32), rv b662, rv b666, iv st, iv a', iv b', iv fw, rv b676, rv b685, .val .null, iv bef, .unset] [(.int (own_cmp (own_sw (own_not (nar .boolean fw)) st (5 : Int32) a') (own_sw (own_not (nar .boolean fw)) st (5 : Int32) b')))]) := fun tt kt => go699 tt (st702.trans kt)
  obtain ⟨aft, haft⟩ : ∃ z : Int32, z = (own_cmp (own_sw (own_not (nar .boolean fw)) st (5 : Int32) a') (own_sw (own_not (nar .boolean fw)) st (5 : Int32) b')) := ⟨_, rfl⟩
  rw [← haft] at go703
  have hp : aft = bef ∧ ¬ aft = 0 := by rw [haft, hbef]; have q := hab.2; unfold own_P at q; simpa using q
  have go704 : own_S p e below ST T702 (mkF m 133 #[iv si, iv sa, iv fl, iv sd, iv gp, iv (5 : Int32), rv b662, rv b666, iv st, iv a', iv b', iv fw, rv b676, rv b685, .val .null, iv bef, iv aft] [(.int bef), (.int aft)]) := fun tt kt => go703 tt (by
      refine XS.istore X702.here hx rfl (hb hby at_127) rfl (l' := #[iv si, iv sa, iv fl, iv sd, iv gp, iv (5 : Int32), rv b662, rv b666, iv st, iv a', iv b', iv fw, rv b676, rv b685, .val .null, iv bef, iv aft]) rfl ?_
      refine XS.iload X702.here hx rfl (hb hby at_129) rfl ?_
      refine XS.iload X702.here hx rfl (hb hby at_131) rfl ?_
      exact kt)
  have go705 : own_S p e below ST T702 (mkF m 138 #[iv si, iv sa, iv fl, iv sd, iv gp, iv (5 : Int32), rv b662, rv b666, iv st, iv a', iv b', iv fw, rv b676, rv b685, .val .null, iv bef, iv aft] [(.int aft)]) := fun tt kt => go704 tt (by
      refine XS.icmpNo X702.here hx rfl (hb hby at_133) rfl (teq hp.1).2 ?_
      refine XS.iload X702.here hx rfl (hb hby at_136) rfl ?_
      exact kt)
  have go706 : own_S p e below ST T702 (mkF m 146 #[iv si, iv sa, iv fl, iv sd, iv gp, iv (5 : Int32), rv b662, rv b666, iv st, iv a', iv b', iv fw, rv b676, rv b685, .val .null, iv bef, iv aft] [(.int (1 : Int32))]) := fun tt kt => go705 tt (by
      refine XS.ifNo X702.here hx rfl (hb hby at_138) rfl ((if0 _ _).trans (feq hp.2).1) ?_
      refine XS.iconst X702.here hx rfl (hb hby at_141) ?_
      refine XS.goto X702.here hx rfl (pc0 := 142) (pc' := 146) rfl (hb hby at_142) (by decide) (by decide) ?_
      exact kt)
  obtain ⟨fs, hr, hrun, hended, hW, hsame⟩ := X702.leave (v := some (.int (1 : Int32))) (fun h => by rw [Bd.returns] at h; cases h)
  refine ⟨_, _, pre0 _ (go706 _ ?_), hrun, hended, _, _, rfl, ?_, ⟨_, rfl⟩, hW, hsame.mono (by decide) (by decide)⟩
  · exact retN X702 hx (t := .boolean) Bd.returns (by simp) (hb hby at_146) hr
  · show Q0k5 Z si sa fl sd gp ad kd h0 n0 _ T702.heap _
    rw [eh702]
    exact ⟨rfl, N702⟩
theorem rm0 (l : Launch) (Z : State) (a0 : Array Value) (hw : ∀ d ∈ tables_1, d.before a0 Z = true) (ws : List Jvm.Cond) (si : Int32) (sa : Int32) (fl : Int32) (sd : Int32) (gp : Int32) (ad : Addr) (kd : ClassId) (h0 : Heap) (n0 : Nat) (Z0 : n0 ≤ h0.size) (SD : Sta Z Z.heap "java/util/ArrayList" "DEFAULTCAPACITY_EMPTY_ELEMENTDATA" "[Ljava/lang/Object;" (.ref ad)) (VD : Arv Z Z.heap ad kd (.object "java/lang/Object") (0 : Int32) [] .null) (OL : Old Z n0 h0) :
    MetFree l x (head1 (Jvm.Cond.code x code maxLocals ret :: ws) room_1) (fun aa UU => aa = #[(.int si), (.int sa), (.int fl), (.int sd), (.int gp)] ∧ Z.Warmed39 UU.vm ∧ UU.heap = h0) (fun _ _ _ _ _ => True) (fun _ UU oo UU' => ∃ vv LL, oo = .returned vv ∧ Q0k2 Z si sa fl sd gp ad kd h0 n0 vv UU'.heap LL ∧ FrameEnd UU oo UU' LL room_1.cells room_1.slots) := by
  rcases own_n4 si with hk | hk | hk | hk
  · exact rm0k2 l Z a0 hw ws si sa fl sd gp ad kd h0 n0 Z0 SD VD OL hk
  · exact rm0k3 l Z a0 hw ws si sa fl sd gp ad kd h0 n0 Z0 SD VD OL hk
  · exact rm0k4 l Z a0 hw ws si sa fl sd gp ad kd h0 n0 Z0 SD VD OL hk
  · exact rm0k5 l Z a0 hw ws si sa fl sd gp ad kd h0 n0 Z0 SD VD OL hk
set_option maxRecDepth 65536 in
set_option maxHeartbeats 40000000 in
theorem comes_1 {Post : Tables → Env → Array Value → State → Outcome → State → Prop} (hpost : ∀ tb e args s v u, (limb_1_1.after args s (.returned v) u = true ∧ limb_1_2.after args s (.returned v) u = true ∧ True) → FrameEnd s (.returned v) u (Jvm.fieldLocs frame_1_writes args s ++ Jvm.arrayLocs frame_1_arrays args s ++ Jvm.staticLocs frame_1_statics s) 24 128 → Post tb e args s (.returned v) u) :
    ArmFor flags0 classFile x code maxLocals ret World_1 tables_1 room_1 Calls_1 rest_1 Pre_1 Post := by
  intro l hfl _ _ p e ha hc hk s m args below hf hA hF happ hP
  obtain ⟨hcalls, hrest, hpre⟩ := hP
  obtain ⟨-, -, -, hnamed, -, -, -, hat⟩ := (Spec.applies_iff hf).mp happ
  obtain ⟨hg, hn⟩ := and_e (Cond.before_iff.mp (show (Jvm.Cond.and given_1 narrow_1).before args s = true from hpre))
  obtain ⟨gg1, gg2⟩ := and_e hg
  obtain ⟨gg3, gg4⟩ := and_e gg2
  obtain ⟨gg5, gg6⟩ := and_e gg4
  obtain ⟨gg7, gg8⟩ := and_e gg6
  obtain ⟨gg9, gg10⟩ := and_e gg8
  obtain ⟨w0, w1, w2, w3, w4, rfl⟩ : ∃ w0 w1 w2 w3 w4 : Value, args = #[w0, w1, w2, w3, w4] := by
    have hs : args.size = 5 := by simpa [Cond.value, given_1] using gg1
    obtain ⟨L⟩ := args
    match L, hs with
    | [w0, w1, w2, w3, w4], _ => exact ⟨w0, w1, w2, w3, w4, rfl⟩
  have hw := fun d (hd : d ∈ tables_1) => atoms_spec (ws := Jvm.Cond.code x code maxLocals ret :: tables_1) hat d (List.mem_cons_of_mem _ hd)
  have W : ∀ {d : Jvm.Cond} (i : Nat), tables_1[i]? = some d → d.before _ s = true := fun i h => hw _ (List.mem_of_getElem? h)
  have hfit : Fit s := fun {y c} hc i hi => by
    obtain ⟨ha, rfl⟩ := Array.getElem?_eq_some_iff.mp hc
    have q := List.all_eq_true.mp ((Array.all_eq_true_iff_forall_mem.mp hF) _ (Array.getElem_mem ha)) i (List.mem_range.mpr hi)
    simpa [Array.getElem?_eq_getElem hi] using q
  obtain ⟨hsets, hown0⟩ := atoms_of _ (rest_1_c_eq ▸ (show rest_1_c.before _ s = true from hrest))
  obtain ⟨i0, ei0⟩ := is_v gg3
  obtain rfl : w0 = (.int i0) := Option.some.inj ei0
  obtain ⟨i1, ei1⟩ := is_v gg5
  obtain rfl : w1 = (.int i1) := Option.some.inj ei1
  obtain ⟨i2, ei2⟩ := is_v gg7
  obtain rfl : w2 = (.int i2) := Option.some.inj ei2
  obtain ⟨i3, ei3⟩ := is_v gg9
  obtain rfl : w3 = (.int i3) := Option.some.inj ei3
  obtain ⟨i4, ei4⟩ := is_v gg10
  obtain rfl : w4 = (.int i4) := Option.some.inj ei4
  obtain ⟨ad, ev_ad⟩ := arr_v (Cond.before_iff.mp (hsets _ (List.mem_of_getElem? (i := 6) rfl)))
  have SD := Sta.start ev_ad (Or.inr ⟨(W 6 rfl), (hsets _ (List.mem_of_getElem? (i := 2) rfl))⟩)
  obtain ⟨cd, Ad⟩ := Arr.start ev_ad (Cond.before_iff.mp (hsets _ (List.mem_of_getElem? (i := 6) rfl)))
  have Ld := own_len ev_ad Ad (own_eqI (Cond.before_iff.mp (hsets _ (List.mem_of_getElem? (i := 8) rfl))))
  have VD : Arv s s.heap ad cd.cls (.object "java/lang/Object") (0 : Int32) [] .null := Arv.start hfit Ad Ld.1 Ld.2 (by decide) rfl trivial
  have OL := Old.start s
  obtain ⟨n, o, h1, h2, h3, _, L, rfl, ⟨rfl, N⟩, hq⟩ := rm0 l s _ hw tables_1 i0 i1 i2 i3 i4 ad cd.cls s.heap s.heap.size (Nat.le_refl _) SD VD OL p e ha hc hk s m _ below hf ((Spec.applies_iff_loose hf).mp happ).1 ⟨rfl, State.Warmed39.refl s, rfl⟩ trivial
  refine ⟨n, _, h1, h2, h3, hpost _ _ _ _ _ _ ⟨Cond.after_iff.mpr rfl, Cond.after_iff.mpr (eq_i res_at (Term.int_eval (1)) rfl), trivial⟩ ⟨hq.1, hq.2.1, (hq.2.2.sift fun y hy => Or.inr (N y hy)).mono (by decide) (by decide)⟩⟩
theorem main_1_1 : Claimed_1_1 := comes_1 fun _ _ _ _ _ _ h hF => ⟨h.1, hF⟩
theorem main_1_2 : Claimed_1_2 := comes_1 fun _ _ _ _ _ _ h hF => ⟨h.2.1, hF⟩
end Jvm.Pilot.@@N@@
namespace Jvm.Pilot.@@N@@
open Jvm Jvm.ClassFile Sem Op Lib Jvm.Free Jvm.Stand Jvm.Pilot.@@N@@.Jvm.D
/-! MADE BY PROGRAM (witnessworld.py) out of the Statement's table words and the real class files: 24 classes; the members and pool entries that the words name. The judged class is class 1, her method 1. -/
namespace start1
open Jvm.ClassFile
def u (s : String) : CpInfo := .utf8 (stringToUtf16 s)
/-- a pool by its gaps: so many unusable entries, then the entry; so many at the end -/
def gap : Nat → List CpInfo → List CpInfo
  | 0, r => r
  | n + 1, r => .unusable :: gap n r
def poolList (es : List (Nat × CpInfo)) (last : Nat) : List CpInfo := es.foldr (fun e r => gap e.1 (e.2 :: r)) (gap last [])
def pool (es : List (Nat × CpInfo)) (last : Nat) : Array CpInfo := ⟨poolList es last⟩
def fileOf (pool : Array CpInfo) (this : Nat) (attrs : Array Attribute := #[]) (ms : Array MethodInfo := #[]) (fl : Nat := 33) (sup : Nat := 0) (ifs : Array Nat := #[]) (fds : Array FieldInfo := #[]) : ClassFile where
  minorVersion := 0
  majorVersion := 65
  constantPool := pool
  accessFlags := fl
  thisClass := this
  superClass := sup
  interfaces := ifs
  fields := fds
  methods := ms
  attributes := attrs
def plain (name : String) (sup : Option ClassId) : Class where
  name := name
  kind := .ordinary
  loader := none
  accessFlags := 33
  super := sup
  interfaces := #[]
  cf := none
  fields := #[]
  methods := #[]
  instanceTypes := #[]
  staticTypes := #[]
  resolved := #[]
  callSites := []
  init := .initialized
  statics := none
  mirror := none

def pool0 : Array CpInfo := pool [(5, u "<init>"), (0, u "()V"), (1, .class_ 10), (1, u "java/lang/Object")] 113

def k0c0 : Code := { maxStack := 0, maxLocals := 1, code := object_method_1_code, exceptionTable := #[], attributes := #[] }
def k0m0 : Method := { name := "<init>", desc := "()V", sig := { parameters := [], returnType := none }, accessFlags := 1, code := some k0c0 }
/-- java/lang/Object -/
def k0 : Class := { plain "java/lang/Object" none with
  accessFlags := 33
  interfaces := #[]
  cf := some (fileOf pool0 8 #[] #[{ accessFlags := 1, nameIndex := 5, descriptorIndex := 6, attributes := #[] }] 33 0 #[] #[])
  fields := #[]
  methods := #[k0m0]
  instanceTypes := #[]
  staticTypes := #[]
  resolved := Array.replicate 124 none
  statics := none }

def pool1 : Array CpInfo := pool [(2, .class_ 4), (0, .nameAndType 5 6), (0, u "java/lang/Object"), (0, u "<init>"), (0, u "()V"), (0, .methodref 8 9), (0, .class_ 10), (0, .nameAndType 11 12), (0, u "com/example/inscribe/inscribe/geometry/BoundaryOrderMirroredPinLaw"), (0, u "nulls"), (0, u "(I)Ljava/util/List;"), (0, .integer 2147483647), (0, .class_ 15), (0, u "com/example/inscribe/inscribe/geometry/BoundaryOrder"), (0, .methodref 14 17), (0, .nameAndType 5 18), (0, u "(Ljava/util/List;IZ)V"), (0, .methodref 14 20), (0, .nameAndType 21 22), (0, u "mirrored"), (0, u "(Ljava/util/List;)Lcom/example/inscribe/inscribe/geometry/BoundaryOrder;"), (0, .methodref 14 24), (0, .nameAndType 25 26), (0, u "compare"), (0, u "(ILcom/example/inscribe/inscribe/geometry/Point;ILcom/example/inscribe/inscribe/geometry/Point;)I"), (0, .class_ 28), (0, u "java/util/ArrayList"), (0, .methodref 27 3), (0, .interfaceMethodref 31 32), (0, .class_ 33), (0, .nameAndType 34 35), (0, u "java/util/List"), (0, u "add"), (0, u "(Ljava/lang/Object;)Z"), (2, u "law"), (0, u "(IIIII)Z")] 7

def k1m0 : Method := { name := "<init>", desc := "()V", sig := { parameters := [], returnType := none }, accessFlags := 1, code := none }
def k1c1 : Code := { maxStack := 5, maxLocals := 17, code := code, exceptionTable := #[], attributes := #[] }
def k1m1 : Method := { name := "law", desc := "(IIIII)Z", sig := { parameters := [.int, .int, .int, .int, .int], returnType := some .boolean }, accessFlags := 9, code := some k1c1 }
def k1c2 : Code := { maxStack := 2, maxLocals := 2, code := method_3_code, exceptionTable := #[], attributes := #[] }
def k1m2 : Method := { name := "nulls", desc := "(I)Ljava/util/List;", sig := { parameters := [.int], returnType := some (.object "java/util/List") }, accessFlags := 10, code := some k1c2 }
/-- com/example/inscribe/inscribe/geometry/BoundaryOrderMirroredPinLaw -/
def k1 : Class := { plain "com/example/inscribe/inscribe/geometry/BoundaryOrderMirroredPinLaw" (some 0) with
  accessFlags := 49
  interfaces := #[]
  cf := some (fileOf pool1 8 #[] #[{ accessFlags := 1, nameIndex := 5, descriptorIndex := 6, attributes := #[] }, { accessFlags := 9, nameIndex := 38, descriptorIndex := 39, attributes := #[] }, { accessFlags := 10, nameIndex := 11, descriptorIndex := 12, attributes := #[] }] 49 2 #[] #[])
  fields := #[]
  methods := #[k1m0, k1m1, k1m2]
  instanceTypes := #[]
  staticTypes := #[]
  resolved := Array.replicate 47 none
  statics := none }

def pool2 : Array CpInfo := pool [(8, .class_ 10), (1, u "java/lang/Iterable"), (24, .class_ 36), (0, u "java/lang/Object")] 25

/-- java/lang/Iterable -/
def k2 : Class := { plain "java/lang/Iterable" (some 0) with
  accessFlags := 1537
  interfaces := #[]
  cf := some (fileOf pool2 8 #[] #[] 1537 35 #[] #[])
  fields := #[]
  methods := #[]
  instanceTypes := #[]
  staticTypes := #[]
  resolved := Array.replicate 62 none
  statics := none }

def pool3 : Array CpInfo := pool [(10, .class_ 12), (1, u "java/util/Collection"), (47, .class_ 61), (0, u "java/lang/Object"), (0, .class_ 63), (0, u "java/lang/Iterable")] 51

/-- java/util/Collection -/
def k3 : Class := { plain "java/util/Collection" (some 0) with
  accessFlags := 1537
  interfaces := #[2]
  cf := some (fileOf pool3 10 #[] #[] 1537 60 #[62] #[])
  fields := #[]
  methods := #[]
  instanceTypes := #[]
  staticTypes := #[]
  resolved := Array.replicate 115 none
  statics := none }

def pool4 : Array CpInfo := pool [(1, .methodref 2 3), (0, .class_ 4), (0, .nameAndType 5 6), (0, u "java/lang/Object"), (0, u "<init>"), (0, u "()V"), (1, .class_ 10), (1, u "java/util/AbstractCollection"), (66, .class_ 78), (0, u "java/util/Collection")] 81

def k4c0 : Code := { maxStack := 1, maxLocals := 1, code := jdk_22_method_1_code, exceptionTable := #[], attributes := #[] }
def k4m0 : Method := { name := "<init>", desc := "()V", sig := { parameters := [], returnType := none }, accessFlags := 4, code := some k4c0 }
/-- java/util/AbstractCollection -/
def k4 : Class := { plain "java/util/AbstractCollection" (some 0) with
  accessFlags := 1057
  interfaces := #[3]
  cf := some (fileOf pool4 8 #[] #[{ accessFlags := 4, nameIndex := 5, descriptorIndex := 6, attributes := #[] }] 1057 2 #[77] #[])
  fields := #[]
  methods := #[k4m0]
  instanceTypes := #[]
  staticTypes := #[]
  resolved := Array.replicate 160 none
  statics := none }

def pool5 : Array CpInfo := pool [(8, .class_ 10), (1, u "java/util/SequencedCollection"), (15, .class_ 27), (0, u "java/lang/Object"), (0, .class_ 29), (0, u "java/util/Collection")] 27

/-- java/util/SequencedCollection -/
def k5 : Class := { plain "java/util/SequencedCollection" (some 0) with
  accessFlags := 1537
  interfaces := #[3]
  cf := some (fileOf pool5 8 #[] #[] 1537 26 #[28] #[])
  fields := #[]
  methods := #[]
  instanceTypes := #[]
  staticTypes := #[]
  resolved := Array.replicate 57 none
  statics := none }

def pool6 : Array CpInfo := pool [(8, .class_ 10), (1, u "java/util/List"), (49, u "add"), (3, u "(Ljava/lang/Object;)Z"), (14, u "size"), (0, u "()I"), (22, .class_ 104), (0, u "java/lang/Object"), (15, .class_ 121), (0, u "java/util/SequencedCollection")] 129

def k6m0 : Method := { name := "size", desc := "()I", sig := { parameters := [], returnType := some .int }, accessFlags := 1025, code := none }
def k6m1 : Method := { name := "add", desc := "(Ljava/lang/Object;)Z", sig := { parameters := [(.object "java/lang/Object")], returnType := some .boolean }, accessFlags := 1025, code := none }
/-- java/util/List -/
def k6 : Class := { plain "java/util/List" (some 0) with
  accessFlags := 1537
  interfaces := #[5]
  cf := some (fileOf pool6 8 #[] #[{ accessFlags := 1025, nameIndex := 79, descriptorIndex := 80, attributes := #[] }, { accessFlags := 1025, nameIndex := 60, descriptorIndex := 64, attributes := #[] }] 1537 103 #[120] #[])
  fields := #[]
  methods := #[k6m0, k6m1]
  instanceTypes := #[]
  staticTypes := #[]
  resolved := Array.replicate 251 none
  statics := none }

def pool7 : Array CpInfo := pool [(1, .methodref 2 3), (0, .class_ 4), (0, .nameAndType 5 6), (0, u "java/util/AbstractCollection"), (0, u "<init>"), (0, u "()V"), (0, .fieldref 8 9), (0, .class_ 10), (0, .nameAndType 11 12), (0, u "java/util/AbstractList"), (0, u "modCount"), (0, u "I"), (64, .class_ 78), (0, u "java/util/AbstractList$Itr"), (3, .class_ 83), (0, u "java/util/AbstractList$ListItr"), (9, .class_ 94), (0, u "java/util/AbstractList$RandomAccessSubList"), (3, .class_ 99), (0, u "java/util/AbstractList$SubList"), (33, .class_ 134), (0, u "java/util/List"), (73, .class_ 209), (0, u "java/util/AbstractList$SubList$1"), (0, .class_ 211), (0, u "java/util/AbstractList$RandomAccessSpliterator")] 6

def k7c0 : Code := { maxStack := 2, maxLocals := 1, code := jdk_39_method_1_code, exceptionTable := #[], attributes := #[] }
def k7m0 : Method := { name := "<init>", desc := "()V", sig := { parameters := [], returnType := none }, accessFlags := 4, code := some k7c0 }
/-- java/util/AbstractList -/
def k7 : Class := { plain "java/util/AbstractList" (some 4) with
  accessFlags := 1057
  interfaces := #[6]
  cf := some (fileOf pool7 8 #[.nestMembers #[93, 98, 208, 210, 82, 77]] #[{ accessFlags := 4, nameIndex := 5, descriptorIndex := 6, attributes := #[] }] 1057 2 #[133] #[{ accessFlags := 132, nameIndex := 11, descriptorIndex := 12, attributes := #[] }])
  fields := #[{ name := "modCount", type := .int, accessFlags := 132, slot := 0, constantValue := 0 }]
  methods := #[k7m0]
  instanceTypes := #[.int]
  staticTypes := #[]
  resolved := Array.replicate 218 none
  statics := none }

def pool8 : Array CpInfo := pool [(1, .class_ 2), (0, u "java/util/RandomAccess"), (0, .class_ 4), (0, u "java/lang/Object")] 2

/-- java/util/RandomAccess -/
def k8 : Class := { plain "java/util/RandomAccess" (some 0) with
  accessFlags := 1537
  interfaces := #[]
  cf := some (fileOf pool8 1 #[] #[] 1537 3 #[] #[])
  fields := #[]
  methods := #[]
  instanceTypes := #[]
  staticTypes := #[]
  resolved := Array.replicate 7 none
  statics := none }

def pool9 : Array CpInfo := pool [(1, .class_ 2), (0, u "java/lang/Cloneable"), (0, .class_ 4), (0, u "java/lang/Object")] 2

/-- java/lang/Cloneable -/
def k9 : Class := { plain "java/lang/Cloneable" (some 0) with
  accessFlags := 1537
  interfaces := #[]
  cf := some (fileOf pool9 1 #[] #[] 1537 3 #[] #[])
  fields := #[]
  methods := #[]
  instanceTypes := #[]
  staticTypes := #[]
  resolved := Array.replicate 7 none
  statics := none }

def pool10 : Array CpInfo := pool [(1, .class_ 2), (0, u "java/io/Serializable"), (0, .class_ 4), (0, u "java/lang/Object")] 2

/-- java/io/Serializable -/
def k10 : Class := { plain "java/io/Serializable" (some 0) with
  accessFlags := 1537
  interfaces := #[]
  cf := some (fileOf pool10 1 #[] #[] 1537 3 #[] #[])
  fields := #[]
  methods := #[]
  instanceTypes := #[]
  staticTypes := #[]
  resolved := Array.replicate 7 none
  statics := none }

def pool11 : Array CpInfo := pool [(1, .methodref 2 3), (0, .class_ 4), (0, .nameAndType 5 6), (0, u "java/util/AbstractList"), (0, u "<init>"), (0, u "()V"), (0, .class_ 8), (0, u "java/lang/Object"), (0, .fieldref 10 11), (0, .class_ 12), (0, .nameAndType 13 14), (0, u "java/util/ArrayList"), (0, u "elementData"), (0, u "[Ljava/lang/Object;"), (2, u "EMPTY_ELEMENTDATA"), (21, .fieldref 10 40), (0, .nameAndType 41 14), (0, u "DEFAULTCAPACITY_EMPTY_ELEMENTDATA"), (5, u "()[Ljava/lang/Object;"), (0, .fieldref 10 49), (0, .nameAndType 50 51), (0, u "size"), (0, u "I"), (11, .fieldref 10 64), (0, .nameAndType 65 51), (0, u "modCount"), (3, .methodref 10 70), (0, .nameAndType 71 72), (0, u "grow"), (0, u "(I)[Ljava/lang/Object;"), (6, .methodref 80 81), (0, .class_ 82), (0, .nameAndType 83 84), (0, u "java/lang/Math"), (0, u "max"), (0, u "(II)I"), (11, u "(Ljava/lang/Object;)Z"), (32, .methodref 10 130), (0, .nameAndType 71 47), (0, .methodref 10 132), (0, .nameAndType 133 134), (0, u "add"), (0, u "(Ljava/lang/Object;[Ljava/lang/Object;I)V"), (13, .class_ 149), (0, u "java/util/List"), (36, u "()I"), (75, .class_ 263), (0, u "java/util/ArrayList$ListItr"), (3, .class_ 268), (0, u "java/util/ArrayList$Itr"), (7, .class_ 277), (0, u "java/util/ArrayList$SubList"), (12, .class_ 291), (0, u "java/util/ArrayList$ArrayListSpliterator"), (37, .class_ 330), (0, u "java/util/RandomAccess"), (0, .class_ 332), (0, u "java/lang/Cloneable"), (0, .class_ 334), (0, u "java/io/Serializable"), (0, u "serialVersionUID"), (0, u "J"), (3, u "DEFAULT_CAPACITY"), (159, .class_ 501), (0, u "java/util/ArrayList$SubList$2"), (0, .class_ 503), (0, u "java/util/ArrayList$SubList$1")] 5

def k11c0 : Code := { maxStack := 2, maxLocals := 1, code := jdk_38_method_2_code, exceptionTable := #[], attributes := #[] }
def k11m0 : Method := { name := "<init>", desc := "()V", sig := { parameters := [], returnType := none }, accessFlags := 1, code := some k11c0 }
def k11c1 : Code := { maxStack := 4, maxLocals := 4, code := jdk_38_method_6_code, exceptionTable := #[], attributes := #[] }
def k11m1 : Method := { name := "grow", desc := "(I)[Ljava/lang/Object;", sig := { parameters := [.int], returnType := some (.array (.object "java/lang/Object")) }, accessFlags := 2, code := some k11c1 }
def k11c2 : Code := { maxStack := 3, maxLocals := 1, code := jdk_38_method_7_code, exceptionTable := #[], attributes := #[] }
def k11m2 : Method := { name := "grow", desc := "()[Ljava/lang/Object;", sig := { parameters := [], returnType := some (.array (.object "java/lang/Object")) }, accessFlags := 2, code := some k11c2 }
def k11c3 : Code := { maxStack := 1, maxLocals := 1, code := jdk_38_method_8_code, exceptionTable := #[], attributes := #[] }
def k11m3 : Method := { name := "size", desc := "()I", sig := { parameters := [], returnType := some .int }, accessFlags := 1, code := some k11c3 }
def k11c4 : Code := { maxStack := 3, maxLocals := 4, code := jdk_38_method_24_code, exceptionTable := #[], attributes := #[] }
def k11m4 : Method := { name := "add", desc := "(Ljava/lang/Object;[Ljava/lang/Object;I)V", sig := { parameters := [(.object "java/lang/Object"), (.array (.object "java/lang/Object")), .int], returnType := none }, accessFlags := 2, code := some k11c4 }
def k11c5 : Code := { maxStack := 4, maxLocals := 2, code := jdk_38_method_25_code, exceptionTable := #[], attributes := #[] }
def k11m5 : Method := { name := "add", desc := "(Ljava/lang/Object;)Z", sig := { parameters := [(.object "java/lang/Object")], returnType := some .boolean }, accessFlags := 1, code := some k11c5 }
/-- java/util/ArrayList -/
def k11 : Class := { plain "java/util/ArrayList" (some 7) with
  accessFlags := 33
  interfaces := #[6, 8, 9, 10]
  cf := some (fileOf pool11 10 #[.nestMembers #[290, 276, 500, 502, 262, 267]] #[{ accessFlags := 1, nameIndex := 5, descriptorIndex := 6, attributes := #[] }, { accessFlags := 2, nameIndex := 71, descriptorIndex := 72, attributes := #[] }, { accessFlags := 2, nameIndex := 71, descriptorIndex := 47, attributes := #[] }, { accessFlags := 1, nameIndex := 50, descriptorIndex := 186, attributes := #[] }, { accessFlags := 2, nameIndex := 133, descriptorIndex := 134, attributes := #[] }, { accessFlags := 1, nameIndex := 133, descriptorIndex := 96, attributes := #[] }] 33 2 #[148, 329, 331, 333] #[{ accessFlags := 26, nameIndex := 335, descriptorIndex := 336, attributes := #[] }, { accessFlags := 26, nameIndex := 340, descriptorIndex := 51, attributes := #[] }, { accessFlags := 26, nameIndex := 17, descriptorIndex := 14, attributes := #[] }, { accessFlags := 26, nameIndex := 41, descriptorIndex := 14, attributes := #[] }, { accessFlags := 128, nameIndex := 13, descriptorIndex := 14, attributes := #[] }, { accessFlags := 2, nameIndex := 50, descriptorIndex := 51, attributes := #[] }])
  fields := #[{ name := "serialVersionUID", type := .long, accessFlags := 26, slot := 0, constantValue := 0 }, { name := "DEFAULT_CAPACITY", type := .int, accessFlags := 26, slot := 1, constantValue := 0 }, { name := "EMPTY_ELEMENTDATA", type := (.array (.object "java/lang/Object")), accessFlags := 26, slot := 2, constantValue := 0 }, { name := "DEFAULTCAPACITY_EMPTY_ELEMENTDATA", type := (.array (.object "java/lang/Object")), accessFlags := 26, slot := 3, constantValue := 0 }, { name := "elementData", type := (.array (.object "java/lang/Object")), accessFlags := 128, slot := 1, constantValue := 0 }, { name := "size", type := .int, accessFlags := 2, slot := 2, constantValue := 0 }]
  methods := #[k11m0, k11m1, k11m2, k11m3, k11m4, k11m5]
  instanceTypes := #[.int, (.array (.object "java/lang/Object")), .int]
  staticTypes := #[.long, .int, (.array (.object "java/lang/Object")), (.array (.object "java/lang/Object"))]
  resolved := Array.replicate 509 none
  statics := some 0 }

def pool12 : Array CpInfo := pool [(1, .class_ 2), (0, u "java/lang/Math"), (1, .class_ 6), (1, u "java/lang/Object"), (0, u "<init>"), (0, u "()V"), (89, .class_ 100), (1, u "java/lang/Math$RandomNumberGeneratorHolder"), (47, u "floorMod"), (23, u "negativeZeroFloatBits"), (0, u "J"), (2, u "negativeZeroDoubleBits"), (21, u "max"), (46, u "$assertionsDisabled"), (0, u "Z"), (88, u "(II)I"), (2, u "twoToTheDoubleScaleDown"), (0, u "D"), (4, u "twoToTheDoubleScaleUp"), (9, u "E"), (3, u "PI"), (2, u "TAU"), (2, u "DEGREES_TO_RADIANS"), (0, u "RADIANS_TO_DEGREES")] 94

def k12m0 : Method := { name := "<init>", desc := "()V", sig := { parameters := [], returnType := none }, accessFlags := 2, code := none }
def k12c1 : Code := { maxStack := 2, maxLocals := 3, code := jdk_29_method_50_code, exceptionTable := #[], attributes := #[] }
def k12m1 : Method := { name := "floorMod", desc := "(II)I", sig := { parameters := [.int, .int], returnType := some .int }, accessFlags := 9, code := some k12c1 }
def k12c2 : Code := { maxStack := 2, maxLocals := 2, code := jdk_29_method_65_code, exceptionTable := #[], attributes := #[] }
def k12m2 : Method := { name := "max", desc := "(II)I", sig := { parameters := [.int, .int], returnType := some .int }, accessFlags := 9, code := some k12c2 }
/-- java/lang/Math -/
def k12 : Class := { plain "java/lang/Math" (some 0) with
  accessFlags := 49
  interfaces := #[]
  cf := some (fileOf pool12 1 #[.nestMembers #[98]] #[{ accessFlags := 2, nameIndex := 7, descriptorIndex := 8, attributes := #[] }, { accessFlags := 9, nameIndex := 148, descriptorIndex := 335, attributes := #[] }, { accessFlags := 9, nameIndex := 198, descriptorIndex := 335, attributes := #[] }] 49 4 #[] #[{ accessFlags := 25, nameIndex := 354, descriptorIndex := 339, attributes := #[] }, { accessFlags := 25, nameIndex := 358, descriptorIndex := 339, attributes := #[] }, { accessFlags := 25, nameIndex := 361, descriptorIndex := 339, attributes := #[] }, { accessFlags := 26, nameIndex := 364, descriptorIndex := 339, attributes := #[] }, { accessFlags := 26, nameIndex := 365, descriptorIndex := 339, attributes := #[] }, { accessFlags := 26, nameIndex := 172, descriptorIndex := 173, attributes := #[] }, { accessFlags := 26, nameIndex := 176, descriptorIndex := 173, attributes := #[] }, { accessFlags := 8, nameIndex := 344, descriptorIndex := 339, attributes := #[] }, { accessFlags := 8, nameIndex := 338, descriptorIndex := 339, attributes := #[] }, { accessFlags := 4120, nameIndex := 245, descriptorIndex := 246, attributes := #[] }])
  fields := #[{ name := "E", type := .double, accessFlags := 25, slot := 0, constantValue := 0 }, { name := "PI", type := .double, accessFlags := 25, slot := 1, constantValue := 0 }, { name := "TAU", type := .double, accessFlags := 25, slot := 2, constantValue := 0 }, { name := "DEGREES_TO_RADIANS", type := .double, accessFlags := 26, slot := 3, constantValue := 0 }, { name := "RADIANS_TO_DEGREES", type := .double, accessFlags := 26, slot := 4, constantValue := 0 }, { name := "negativeZeroFloatBits", type := .long, accessFlags := 26, slot := 5, constantValue := 0 }, { name := "negativeZeroDoubleBits", type := .long, accessFlags := 26, slot := 6, constantValue := 0 }, { name := "twoToTheDoubleScaleUp", type := .double, accessFlags := 8, slot := 7, constantValue := 0 }, { name := "twoToTheDoubleScaleDown", type := .double, accessFlags := 8, slot := 8, constantValue := 0 }, { name := "$assertionsDisabled", type := .boolean, accessFlags := 4120, slot := 9, constantValue := 0 }]
  methods := #[k12m0, k12m1, k12m2]
  instanceTypes := #[]
  staticTypes := #[.double, .double, .double, .double, .double, .long, .long, .double, .double, .boolean]
  resolved := Array.replicate 460 none
  statics := none }

def pool13 : Array CpInfo := pool [(1, .methodref 2 3), (0, .class_ 4), (0, .nameAndType 5 6), (0, u "java/lang/Object"), (0, u "<init>"), (0, u "()V"), (0, .fieldref 8 9), (0, .class_ 10), (0, .nameAndType 11 12), (0, u "com/example/inscribe/inscribe/geometry/BoundaryOrder"), (0, u "sides"), (0, u "Ljava/util/List;"), (0, .fieldref 8 14), (0, .nameAndType 15 16), (0, u "start"), (0, u "I"), (0, .fieldref 8 18), (0, .nameAndType 19 20), (0, u "forward"), (0, u "Z"), (0, .methodref 8 22), (0, .nameAndType 5 23), (0, u "(Ljava/util/List;IZ)V"), (0, .methodref 8 25), (0, .nameAndType 26 27), (0, u "sidesWalked"), (0, u "(I)I"), (0, .methodref 29 30), (0, .class_ 31), (0, .nameAndType 32 33), (0, u "java/lang/Integer"), (0, u "compare"), (0, u "(II)I"), (1, .class_ 37), (1, u "java/util/List"), (19, .interfaceMethodref 35 58), (0, .nameAndType 59 60), (0, u "size"), (0, u "()I"), (0, .methodref 62 63), (0, .class_ 64), (0, .nameAndType 65 33), (0, u "java/lang/Math"), (0, u "floorMod"), (5, u "mirrored"), (0, u "(Ljava/util/List;)Lcom/example/inscribe/inscribe/geometry/BoundaryOrder;"), (2, u "(ILcom/example/inscribe/inscribe/geometry/Point;ILcom/example/inscribe/inscribe/geometry/Point;)I")] 2

def k13c0 : Code := { maxStack := 2, maxLocals := 4, code := prog_27_method_1_code, exceptionTable := #[], attributes := #[] }
def k13m0 : Method := { name := "<init>", desc := "(Ljava/util/List;IZ)V", sig := { parameters := [(.object "java/util/List"), .int, .boolean], returnType := none }, accessFlags := 0, code := some k13c0 }
def k13c1 : Code := { maxStack := 5, maxLocals := 2, code := prog_27_method_2_code, exceptionTable := #[], attributes := #[] }
def k13m1 : Method := { name := "mirrored", desc := "(Ljava/util/List;)Lcom/example/inscribe/inscribe/geometry/BoundaryOrder;", sig := { parameters := [(.object "java/util/List")], returnType := some (.object "com/example/inscribe/inscribe/geometry/BoundaryOrder") }, accessFlags := 0, code := some k13c1 }
def k13c2 : Code := { maxStack := 3, maxLocals := 7, code := prog_27_method_3_code, exceptionTable := #[], attributes := #[] }
def k13m2 : Method := { name := "compare", desc := "(ILcom/example/inscribe/inscribe/geometry/Point;ILcom/example/inscribe/inscribe/geometry/Point;)I", sig := { parameters := [.int, (.object "com/example/inscribe/inscribe/geometry/Point"), .int, (.object "com/example/inscribe/inscribe/geometry/Point")], returnType := some .int }, accessFlags := 0, code := some k13c2 }
def k13c3 : Code := { maxStack := 2, maxLocals := 3, code := prog_27_method_4_code, exceptionTable := #[], attributes := #[] }
def k13m3 : Method := { name := "sidesWalked", desc := "(I)I", sig := { parameters := [.int], returnType := some .int }, accessFlags := 2, code := some k13c3 }
/-- com/example/inscribe/inscribe/geometry/BoundaryOrder -/
def k13 : Class := { plain "com/example/inscribe/inscribe/geometry/BoundaryOrder" (some 0) with
  accessFlags := 32
  interfaces := #[]
  cf := some (fileOf pool13 8 #[] #[{ accessFlags := 0, nameIndex := 5, descriptorIndex := 23, attributes := #[] }, { accessFlags := 0, nameIndex := 71, descriptorIndex := 72, attributes := #[] }, { accessFlags := 0, nameIndex := 32, descriptorIndex := 75, attributes := #[] }, { accessFlags := 2, nameIndex := 26, descriptorIndex := 27, attributes := #[] }] 32 2 #[] #[{ accessFlags := 18, nameIndex := 11, descriptorIndex := 12, attributes := #[] }, { accessFlags := 18, nameIndex := 15, descriptorIndex := 16, attributes := #[] }, { accessFlags := 18, nameIndex := 19, descriptorIndex := 20, attributes := #[] }])
  fields := #[{ name := "sides", type := (.object "java/util/List"), accessFlags := 18, slot := 0, constantValue := 0 }, { name := "start", type := .int, accessFlags := 18, slot := 1, constantValue := 0 }, { name := "forward", type := .boolean, accessFlags := 18, slot := 2, constantValue := 0 }]
  methods := #[k13m0, k13m1, k13m2, k13m3]
  instanceTypes := #[(.object "java/util/List"), .int, .boolean]
  staticTypes := #[]
  resolved := Array.replicate 78 none
  statics := none }

def pool14 : Array CpInfo := pool [(2, .class_ 4), (1, u "java/lang/Object"), (0, u "<init>"), (0, u "()V"), (1, .class_ 10), (1, u "java/lang/Number"), (2, .class_ 14), (0, u "java/io/Serializable"), (0, u "serialVersionUID"), (0, u "J")] 20

def k14m0 : Method := { name := "<init>", desc := "()V", sig := { parameters := [], returnType := none }, accessFlags := 1, code := none }
/-- java/lang/Number -/
def k14 : Class := { plain "java/lang/Number" (some 0) with
  accessFlags := 1057
  interfaces := #[10]
  cf := some (fileOf pool14 8 #[] #[{ accessFlags := 1, nameIndex := 5, descriptorIndex := 6, attributes := #[] }] 1057 2 #[13] #[{ accessFlags := 26, nameIndex := 15, descriptorIndex := 16, attributes := #[] }])
  fields := #[{ name := "serialVersionUID", type := .long, accessFlags := 26, slot := 0, constantValue := 0 }]
  methods := #[k14m0]
  instanceTypes := #[]
  staticTypes := #[.long]
  resolved := Array.replicate 37 none
  statics := none }

def pool15 : Array CpInfo := pool [(1, .class_ 2), (0, u "java/lang/Comparable"), (0, .class_ 4), (0, u "java/lang/Object")] 7

/-- java/lang/Comparable -/
def k15 : Class := { plain "java/lang/Comparable" (some 0) with
  accessFlags := 1537
  interfaces := #[]
  cf := some (fileOf pool15 1 #[] #[] 1537 3 #[] #[])
  fields := #[]
  methods := #[]
  instanceTypes := #[]
  staticTypes := #[]
  resolved := Array.replicate 12 none
  statics := none }

def pool16 : Array CpInfo := pool [(1, .class_ 2), (0, u "java/lang/constant/Constable"), (0, .class_ 4), (0, u "java/lang/Object")] 6

/-- java/lang/constant/Constable -/
def k16 : Class := { plain "java/lang/constant/Constable" (some 0) with
  accessFlags := 1537
  interfaces := #[]
  cf := some (fileOf pool16 1 #[] #[] 1537 3 #[] #[])
  fields := #[]
  methods := #[]
  instanceTypes := #[]
  staticTypes := #[]
  resolved := Array.replicate 11 none
  statics := none }

def pool17 : Array CpInfo := pool [(1, .class_ 2), (0, u "java/lang/constant/ConstantDesc"), (0, .class_ 4), (0, u "java/lang/Object")] 32

/-- java/lang/constant/ConstantDesc -/
def k17 : Class := { plain "java/lang/constant/ConstantDesc" (some 0) with
  accessFlags := 1537
  interfaces := #[]
  cf := some (fileOf pool17 1 #[] #[] 1537 3 #[] #[])
  fields := #[]
  methods := #[]
  instanceTypes := #[]
  staticTypes := #[]
  resolved := Array.replicate 37 none
  statics := none }

def pool18 : Array CpInfo := pool [(1, .class_ 2), (0, u "java/lang/Integer"), (16, u "digits"), (0, u "[C"), (39, u "(II)I"), (24, u "DigitOnes"), (0, u "[B"), (2, u "DigitTens"), (99, .class_ 190), (0, u "java/lang/Integer$IntegerCache"), (3, u "I"), (8, .class_ 204), (0, u "java/lang/Number"), (2, u "value"), (53, u "compare"), (40, u "TYPE"), (0, u "Ljava/lang/Class;"), (0, .class_ 305), (0, u "java/lang/Comparable"), (0, .class_ 307), (0, u "java/lang/constant/Constable"), (0, .class_ 309), (0, u "java/lang/constant/ConstantDesc"), (0, u "MIN_VALUE"), (1, u "MAX_VALUE"), (3, u "SIZE"), (1, u "BYTES"), (1, u "serialVersionUID"), (0, u "J")] 131

def k18c0 : Code := { maxStack := 2, maxLocals := 2, code := jdk_33_method_40_code, exceptionTable := #[], attributes := #[] }
def k18m0 : Method := { name := "compare", desc := "(II)I", sig := { parameters := [.int, .int], returnType := some .int }, accessFlags := 9, code := some k18c0 }
/-- java/lang/Integer -/
def k18 : Class := { plain "java/lang/Integer" (some 14) with
  accessFlags := 49
  interfaces := #[15, 16, 17]
  cf := some (fileOf pool18 1 #[.nestMembers #[189]] #[{ accessFlags := 9, nameIndex := 261, descriptorIndex := 60, attributes := #[] }] 49 203 #[304, 306, 308] #[{ accessFlags := 25, nameIndex := 310, descriptorIndex := 194, attributes := #[] }, { accessFlags := 25, nameIndex := 312, descriptorIndex := 194, attributes := #[] }, { accessFlags := 25, nameIndex := 302, descriptorIndex := 303, attributes := #[] }, { accessFlags := 24, nameIndex := 19, descriptorIndex := 20, attributes := #[] }, { accessFlags := 24, nameIndex := 89, descriptorIndex := 86, attributes := #[] }, { accessFlags := 24, nameIndex := 85, descriptorIndex := 86, attributes := #[] }, { accessFlags := 18, nameIndex := 207, descriptorIndex := 194, attributes := #[] }, { accessFlags := 25, nameIndex := 316, descriptorIndex := 194, attributes := #[] }, { accessFlags := 25, nameIndex := 318, descriptorIndex := 194, attributes := #[] }, { accessFlags := 26, nameIndex := 320, descriptorIndex := 321, attributes := #[] }])
  fields := #[{ name := "MIN_VALUE", type := .int, accessFlags := 25, slot := 0, constantValue := 0 }, { name := "MAX_VALUE", type := .int, accessFlags := 25, slot := 1, constantValue := 0 }, { name := "TYPE", type := (.object "java/lang/Class"), accessFlags := 25, slot := 2, constantValue := 0 }, { name := "digits", type := (.array .char), accessFlags := 24, slot := 3, constantValue := 0 }, { name := "DigitTens", type := (.array .byte), accessFlags := 24, slot := 4, constantValue := 0 }, { name := "DigitOnes", type := (.array .byte), accessFlags := 24, slot := 5, constantValue := 0 }, { name := "value", type := .int, accessFlags := 18, slot := 0, constantValue := 0 }, { name := "SIZE", type := .int, accessFlags := 25, slot := 6, constantValue := 0 }, { name := "BYTES", type := .int, accessFlags := 25, slot := 7, constantValue := 0 }, { name := "serialVersionUID", type := .long, accessFlags := 26, slot := 8, constantValue := 0 }]
  methods := #[k18m0]
  instanceTypes := #[.int]
  staticTypes := #[.int, .int, (.object "java/lang/Class"), (.array .char), (.array .byte), (.array .byte), .int, .int, .long]
  resolved := Array.replicate 453 none
  statics := none }

/-- the primitive byte -/
def k19 : Class := { plain "byte" none with kind := .primitive 'B', accessFlags := 0x411 }
/-- [B -/
def k20 : Class := { plain "[B" (some 0) with kind := .array 19 .byte, interfaces := #[9, 10], accessFlags := 1041 }

/-- the primitive int -/
def k21 : Class := { plain "int" none with kind := .primitive 'I', accessFlags := 0x411 }
/-- [I -/
def k22 : Class := { plain "[I" (some 0) with kind := .array 21 .int, interfaces := #[9, 10], accessFlags := 1041 }

/-- [Ljava/lang/Object; -/
def k23 : Class := { plain "[Ljava/lang/Object;" (some 0) with kind := .array 0 (.object "java/lang/Object"), interfaces := #[9, 10], accessFlags := 1041 }

def heap : Heap := #[{ cls := 11, slots := #[.long 0, .int 0, .ref 1, .ref 2], vm := .statics 11 },
  { cls := 23, slots := #[], vm := .none },
  { cls := 23, slots := #[], vm := .none }]
def classes : Array Class := #[k0, k1, k2, k3, k4, k5, k6, k7, k8, k9, k10, k11, k12, k13, k14, k15, k16, k17, k18, k19, k20, k21, k22, k23]
def interned : List (Array UInt16 × Addr) := []
def slotsUsed : Nat := 4
def theMethod : MethodId := ⟨1, 1⟩
def args0 : Array Value := #[.int 5, .int 1, .int 2, .int 3, .int 4]
def aboutOver (below : List Frame) : State where
  vm := { classes := classes, interned := interned.toArray }
  heap := heap
  slotsUsed := slotsUsed
  threads := #[{ frames := .invoking theMethod args0 :: below }]
def below0 : List Frame := [.native { method := ⟨0, 0⟩, args := #[] }]
def about1 : State := aboutOver below0
def p0 : Program := .bare "" "" ""
def e0 : Env := launch0.env 0 0 0
theorem w_frames : about1.frames = Frame.invoking theMethod args0 :: below0 := rfl
set_option maxRecDepth 65536 in
theorem w_args : argsFit about1.vm theMethod args0 = true := by decide +kernel
set_option maxRecDepth 65536 in
theorem w_heap : heapFits about1 = true := by decide +kernel
set_option maxRecDepth 65536 in
theorem w_runnable : about1.curStatus? = some .runnable := by decide +kernel
set_option maxRecDepth 65536 in
theorem w_alone : about1.alone = true := by decide +kernel
set_option maxRecDepth 65536 in
theorem w_named : about1.methodNamed? x = some theMethod := by decide +kernel
set_option maxRecDepth 65536 in
theorem w_hears : about1.hears theMethod below0 = true := by decide +kernel
set_option maxRecDepth 65536 in
theorem w_ripe : about1.ripe theMethod args0 below0 = true := by decide +kernel
theorem w_running : about1.status = .running := rfl
set_option maxRecDepth 65536 in
theorem w_room : about1.hasRoom e0.platform room_1 = true :=
  launch0.hasRoom_least _ room_1 (by decide +kernel) (by decide +kernel) (by decide +kernel) (by decide +kernel) (by decide +kernel) (by decide +kernel)
theorem allAtoms_all (ts : List Jvm.Cond) (a : Array Jvm.Value) (st : Jvm.State) : (allAtoms ts).before a st = ts.all (fun c => c.before a st) := by
  induction ts with
  | nil => rfl
  | cons c t ih =>
    show (Jvm.Cond.and c (allAtoms t)).before a st = _
    rw [Jvm.Cond.before_and, ih, List.all_cons]
def words1 : List Jvm.Cond := Jvm.Cond.code x code maxLocals ret :: tables_1
/-- a 'code' word, met by the world's own term for the bytes: nothing is compared byte by byte -/
theorem code_word {y : MethodName} {bytes : ByteArray} {mx : Nat} {rt : Option FieldType} {a : Array Value} {s : State} {m : MethodId} {meth : Method} {c : Code} (h1 : s.methodNamed? y = some m) (h2 : s.vm.method? m = some meth) (h3 : meth.code = some c) (h4 : c.code = bytes)
    (h5 : (c.maxLocals == mx && c.exceptionTable.isEmpty && decide (c.maxStack ≤ mostOperands) && decide (meth.sig.returnType = rt) && !meth.locks && decide (parseMethodDescriptor y.desc = some meth.sig)) = true) : (Jvm.Cond.code y bytes mx rt).before a s = true := by
  simp only [Bool.and_eq_true, beq_iff_eq, Bool.not_eq_true', decide_eq_true_eq] at h5
  obtain ⟨⟨⟨⟨⟨g1, g2⟩, g3⟩, g4⟩, g5⟩, g6⟩ := h5
  simp [Cond.before, Cond.holds, Cond.value, h1, h2, h3, h4, g1, g2, g3, g4, g5, g6]
def isCode : Jvm.Cond → Bool
  | .code _ _ _ _ => true
  | _ => false
theorem all_split {L : List Jvm.Cond} {P : Jvm.Cond → Bool} (h1 : L.all (fun c => isCode c || P c) = true) (h2 : ∀ c ∈ L.filter isCode, P c = true) : L.all P = true := by
  refine List.all_eq_true.mpr fun c hc => ?_
  have h := List.all_eq_true.mp h1 c hc
  rcases Bool.eq_false_or_eq_true (isCode c) with hi | hi
  · exact h2 c (List.mem_filter.mpr ⟨hc, hi⟩)
  · simpa [hi] using h
set_option maxRecDepth 65536 in
theorem w_c0 : (Jvm.Cond.code x code maxLocals ret).before args0 about1 = true := code_word (m := ⟨1, 1⟩) (meth := k1m1) (c := k1c1) (by decide +kernel) rfl rfl rfl (by decide +kernel)
set_option maxRecDepth 65536 in
theorem w_c1 : (Jvm.Cond.code ({ cls := "com/example/inscribe/inscribe/geometry/BoundaryOrderMirroredPinLaw", name := "nulls", desc := "(I)Ljava/util/List;" } : Jvm.MethodName) method_3_code (2 : Nat) (Option.some (Jvm.ClassFile.FieldType.object "java/util/List"))).before args0 about1 = true := code_word (m := ⟨1, 2⟩) (meth := k1m2) (c := k1c2) (by decide +kernel) rfl rfl rfl (by decide +kernel)
set_option maxRecDepth 65536 in
theorem w_c2 : (Jvm.Cond.code ({ cls := "java/util/ArrayList", name := "<init>", desc := "()V" } : Jvm.MethodName) jdk_38_method_2_code (1 : Nat) (Option.none : Option Jvm.ClassFile.FieldType)).before args0 about1 = true := code_word (m := ⟨11, 0⟩) (meth := k11m0) (c := k11c0) (by decide +kernel) rfl rfl rfl (by decide +kernel)
set_option maxRecDepth 65536 in
theorem w_c3 : (Jvm.Cond.code ({ cls := "java/util/AbstractList", name := "<init>", desc := "()V" } : Jvm.MethodName) jdk_39_method_1_code (1 : Nat) (Option.none : Option Jvm.ClassFile.FieldType)).before args0 about1 = true := code_word (m := ⟨7, 0⟩) (meth := k7m0) (c := k7c0) (by decide +kernel) rfl rfl rfl (by decide +kernel)
set_option maxRecDepth 65536 in
theorem w_c4 : (Jvm.Cond.code ({ cls := "java/util/AbstractCollection", name := "<init>", desc := "()V" } : Jvm.MethodName) jdk_22_method_1_code (1 : Nat) (Option.none : Option Jvm.ClassFile.FieldType)).before args0 about1 = true := code_word (m := ⟨4, 0⟩) (meth := k4m0) (c := k4c0) (by decide +kernel) rfl rfl rfl (by decide +kernel)
set_option maxRecDepth 65536 in
theorem w_c5 : (Jvm.Cond.code ({ cls := "java/lang/Object", name := "<init>", desc := "()V" } : Jvm.MethodName) object_method_1_code (1 : Nat) (Option.none : Option Jvm.ClassFile.FieldType)).before args0 about1 = true := code_word (m := ⟨0, 0⟩) (meth := k0m0) (c := k0c0) (by decide +kernel) rfl rfl rfl (by decide +kernel)
set_option maxRecDepth 65536 in
theorem w_c6 : (Jvm.Cond.code ({ cls := "java/util/ArrayList", name := "add", desc := "(Ljava/lang/Object;)Z" } : Jvm.MethodName) jdk_38_method_25_code (2 : Nat) (Option.some Jvm.ClassFile.FieldType.boolean)).before args0 about1 = true := code_word (m := ⟨11, 5⟩) (meth := k11m5) (c := k11c5) (by decide +kernel) rfl rfl rfl (by decide +kernel)
set_option maxRecDepth 65536 in
theorem w_c7 : (Jvm.Cond.code ({ cls := "java/util/ArrayList", name := "add", desc := "(Ljava/lang/Object;[Ljava/lang/Object;I)V" } : Jvm.MethodName) jdk_38_method_24_code (4 : Nat) (Option.none : Option Jvm.ClassFile.FieldType)).before args0 about1 = true := code_word (m := ⟨11, 4⟩) (meth := k11m4) (c := k11c4) (by decide +kernel) rfl rfl rfl (by decide +kernel)
set_option maxRecDepth 65536 in
theorem w_c8 : (Jvm.Cond.code ({ cls := "java/util/ArrayList", name := "grow", desc := "()[Ljava/lang/Object;" } : Jvm.MethodName) jdk_38_method_7_code (1 : Nat) (Option.some (Jvm.ClassFile.FieldType.array (Jvm.ClassFile.FieldType.object "java/lang/Object")))).before args0 about1 = true := code_word (m := ⟨11, 2⟩) (meth := k11m2) (c := k11c2) (by decide +kernel) rfl rfl rfl (by decide +kernel)
set_option maxRecDepth 65536 in
theorem w_c9 : (Jvm.Cond.code ({ cls := "java/util/ArrayList", name := "grow", desc := "(I)[Ljava/lang/Object;" } : Jvm.MethodName) jdk_38_method_6_code (4 : Nat) (Option.some (Jvm.ClassFile.FieldType.array (Jvm.ClassFile.FieldType.object "java/lang/Object")))).before args0 about1 = true := code_word (m := ⟨11, 1⟩) (meth := k11m1) (c := k11c1) (by decide +kernel) rfl rfl rfl (by decide +kernel)
set_option maxRecDepth 65536 in
theorem w_c10 : (Jvm.Cond.code ({ cls := "java/lang/Math", name := "max", desc := "(II)I" } : Jvm.MethodName) jdk_29_method_65_code (2 : Nat) (Option.some Jvm.ClassFile.FieldType.int)).before args0 about1 = true := code_word (m := ⟨12, 2⟩) (meth := k12m2) (c := k12c2) (by decide +kernel) rfl rfl rfl (by decide +kernel)
set_option maxRecDepth 65536 in
theorem w_c11 : (Jvm.Cond.code ({ cls := "com/example/inscribe/inscribe/geometry/BoundaryOrder", name := "<init>", desc := "(Ljava/util/List;IZ)V" } : Jvm.MethodName) prog_27_method_1_code (4 : Nat) (Option.none : Option Jvm.ClassFile.FieldType)).before args0 about1 = true := code_word (m := ⟨13, 0⟩) (meth := k13m0) (c := k13c0) (by decide +kernel) rfl rfl rfl (by decide +kernel)
set_option maxRecDepth 65536 in
theorem w_c12 : (Jvm.Cond.code ({ cls := "com/example/inscribe/inscribe/geometry/BoundaryOrder", name := "mirrored", desc := "(Ljava/util/List;)Lcom/example/inscribe/inscribe/geometry/BoundaryOrder;" } : Jvm.MethodName) prog_27_method_2_code (2 : Nat) (Option.some (Jvm.ClassFile.FieldType.object "com/example/inscribe/inscribe/geometry/BoundaryOrder"))).before args0 about1 = true := code_word (m := ⟨13, 1⟩) (meth := k13m1) (c := k13c1) (by decide +kernel) rfl rfl rfl (by decide +kernel)
set_option maxRecDepth 65536 in
theorem w_c13 : (Jvm.Cond.code ({ cls := "com/example/inscribe/inscribe/geometry/BoundaryOrder", name := "compare", desc := "(ILcom/example/inscribe/inscribe/geometry/Point;ILcom/example/inscribe/inscribe/geometry/Point;)I" } : Jvm.MethodName) prog_27_method_3_code (7 : Nat) (Option.some Jvm.ClassFile.FieldType.int)).before args0 about1 = true := code_word (m := ⟨13, 2⟩) (meth := k13m2) (c := k13c2) (by decide +kernel) rfl rfl rfl (by decide +kernel)
set_option maxRecDepth 65536 in
theorem w_c14 : (Jvm.Cond.code ({ cls := "com/example/inscribe/inscribe/geometry/BoundaryOrder", name := "sidesWalked", desc := "(I)I" } : Jvm.MethodName) prog_27_method_4_code (3 : Nat) (Option.some Jvm.ClassFile.FieldType.int)).before args0 about1 = true := code_word (m := ⟨13, 3⟩) (meth := k13m3) (c := k13c3) (by decide +kernel) rfl rfl rfl (by decide +kernel)
set_option maxRecDepth 65536 in
theorem w_c15 : (Jvm.Cond.code ({ cls := "java/util/ArrayList", name := "size", desc := "()I" } : Jvm.MethodName) jdk_38_method_8_code (1 : Nat) (Option.some Jvm.ClassFile.FieldType.int)).before args0 about1 = true := code_word (m := ⟨11, 3⟩) (meth := k11m3) (c := k11c3) (by decide +kernel) rfl rfl rfl (by decide +kernel)
set_option maxRecDepth 65536 in
theorem w_c16 : (Jvm.Cond.code ({ cls := "java/lang/Math", name := "floorMod", desc := "(II)I" } : Jvm.MethodName) jdk_29_method_50_code (3 : Nat) (Option.some Jvm.ClassFile.FieldType.int)).before args0 about1 = true := code_word (m := ⟨12, 1⟩) (meth := k12m1) (c := k12c1) (by decide +kernel) rfl rfl rfl (by decide +kernel)
set_option maxRecDepth 65536 in
theorem w_c17 : (Jvm.Cond.code ({ cls := "java/lang/Integer", name := "compare", desc := "(II)I" } : Jvm.MethodName) jdk_33_method_40_code (2 : Nat) (Option.some Jvm.ClassFile.FieldType.int)).before args0 about1 = true := code_word (m := ⟨18, 0⟩) (meth := k18m0) (c := k18c0) (by decide +kernel) rfl rfl rfl (by decide +kernel)
def codes1 : List Jvm.Cond := [Jvm.Cond.code x code maxLocals ret, Jvm.Cond.code ({ cls := "com/example/inscribe/inscribe/geometry/BoundaryOrderMirroredPinLaw", name := "nulls", desc := "(I)Ljava/util/List;" } : Jvm.MethodName) method_3_code (2 : Nat) (Option.some (Jvm.ClassFile.FieldType.object "java/util/List")), Jvm.Cond.code ({ cls := "java/util/ArrayList", name := "<init>", desc := "()V" } : Jvm.MethodName) jdk_38_method_2_code (1 : Nat) (Option.none : Option Jvm.ClassFile.FieldType), Jvm.Cond.code ({ cls := "java/util/AbstractList", name := "<init>", desc := "()V" } : Jvm.MethodName) jdk_39_method_1_code (1 : Nat) (Option.none : Option Jvm.ClassFile.FieldType), Jvm.Cond.code ({ cls := "java/util/AbstractCollection", name := "<init>", desc := "()V" } : Jvm.MethodName) jdk_22_method_1_code (1 : Nat) (Option.none : Option Jvm.ClassFile.FieldType), Jvm.Cond.code ({ cls := "java/lang/Object", name := "<init>", desc := "()V" } : Jvm.MethodName) object_method_1_code (1 : Nat) (Option.none : Option Jvm.ClassFile.FieldType), Jvm.Cond.code ({ cls := "java/util/ArrayList", name := "add", desc := "(Ljava/lang/Object;)Z" } : Jvm.MethodName) jdk_38_method_25_code (2 : Nat) (Option.some Jvm.ClassFile.FieldType.boolean), Jvm.Cond.code ({ cls := "java/util/ArrayList", name := "add", desc := "(Ljava/lang/Object;[Ljava/lang/Object;I)V" } : Jvm.MethodName) jdk_38_method_24_code (4 : Nat) (Option.none : Option Jvm.ClassFile.FieldType), Jvm.Cond.code ({ cls := "java/util/ArrayList", name := "grow", desc := "()[Ljava/lang/Object;" } : Jvm.MethodName) jdk_38_method_7_code (1 : Nat) (Option.some (Jvm.ClassFile.FieldType.array (Jvm.ClassFile.FieldType.object "java/lang/Object"))), Jvm.Cond.code ({ cls := "java/util/ArrayList", name := "grow", desc := "(I)[Ljava/lang/Object;" } : Jvm.MethodName) jdk_38_method_6_code (4 : Nat) (Option.some (Jvm.ClassFile.FieldType.array (Jvm.ClassFile.FieldType.object "java/lang/Object"))), Jvm.Cond.code ({ cls := "java/lang/Math", name := "max", desc := "(II)I" } : Jvm.MethodName) jdk_29_method_65_code (2 : Nat) (Option.some Jvm.ClassFile.FieldType.int), Jvm.Cond.code ({ cls := "com/example/inscribe/inscribe/geometry/BoundaryOrder", name := "<init>", desc := "(Ljava/util/List;IZ)V" } : Jvm.MethodName) prog_27_method_1_code (4 : Nat) (Option.none : Option Jvm.ClassFile.FieldType), Jvm.Cond.code ({ cls := "com/example/inscribe/inscribe/geometry/BoundaryOrder", name := "mirrored", desc := "(Ljava/util/List;)Lcom/example/inscribe/inscribe/geometry/BoundaryOrder;" } : Jvm.MethodName) prog_27_method_2_code (2 : Nat) (Option.some (Jvm.ClassFile.FieldType.object "com/example/inscribe/inscribe/geometry/BoundaryOrder")), Jvm.Cond.code ({ cls := "com/example/inscribe/inscribe/geometry/BoundaryOrder", name := "compare", desc := "(ILcom/example/inscribe/inscribe/geometry/Point;ILcom/example/inscribe/inscribe/geometry/Point;)I" } : Jvm.MethodName) prog_27_method_3_code (7 : Nat) (Option.some Jvm.ClassFile.FieldType.int), Jvm.Cond.code ({ cls := "com/example/inscribe/inscribe/geometry/BoundaryOrder", name := "sidesWalked", desc := "(I)I" } : Jvm.MethodName) prog_27_method_4_code (3 : Nat) (Option.some Jvm.ClassFile.FieldType.int), Jvm.Cond.code ({ cls := "java/util/ArrayList", name := "size", desc := "()I" } : Jvm.MethodName) jdk_38_method_8_code (1 : Nat) (Option.some Jvm.ClassFile.FieldType.int), Jvm.Cond.code ({ cls := "java/lang/Math", name := "floorMod", desc := "(II)I" } : Jvm.MethodName) jdk_29_method_50_code (3 : Nat) (Option.some Jvm.ClassFile.FieldType.int), Jvm.Cond.code ({ cls := "java/lang/Integer", name := "compare", desc := "(II)I" } : Jvm.MethodName) jdk_33_method_40_code (2 : Nat) (Option.some Jvm.ClassFile.FieldType.int)]
set_option maxRecDepth 65536 in
theorem codes_eq : words1.filter isCode = codes1 := rfl
theorem w_codes : ∀ c ∈ words1.filter isCode, c.before args0 about1 = true := by
  rw [codes_eq]
  intro c hc
  simp only [codes1, List.mem_cons, List.not_mem_nil, or_false] at hc
  rcases hc with rfl | rfl | rfl | rfl | rfl | rfl | rfl | rfl | rfl | rfl | rfl | rfl | rfl | rfl | rfl | rfl | rfl | rfl
  · exact w_c0
  · exact w_c1
  · exact w_c2
  · exact w_c3
  · exact w_c4
  · exact w_c5
  · exact w_c6
  · exact w_c7
  · exact w_c8
  · exact w_c9
  · exact w_c10
  · exact w_c11
  · exact w_c12
  · exact w_c13
  · exact w_c14
  · exact w_c15
  · exact w_c16
  · exact w_c17
set_option maxRecDepth 65536 in
theorem w_t1 : (words1.take 24).all (fun c => isCode c || c.before args0 about1) = true := by decide +kernel
set_option maxRecDepth 65536 in
theorem w_t2 : ((words1.drop 24).take 24).all (fun c => isCode c || c.before args0 about1) = true := by decide +kernel
set_option maxRecDepth 65536 in
theorem w_t3 : (((words1.drop 24).drop 24).take 24).all (fun c => isCode c || c.before args0 about1) = true := by decide +kernel
set_option maxRecDepth 65536 in
theorem w_t4 : ((((words1.drop 24).drop 24).drop 24).take 24).all (fun c => isCode c || c.before args0 about1) = true := by decide +kernel
set_option maxRecDepth 65536 in
theorem w_t5 : ((((words1.drop 24).drop 24).drop 24).drop 24).all (fun c => isCode c || c.before args0 about1) = true := by decide +kernel
theorem w_tables : (allAtoms (Jvm.Cond.code x code maxLocals ret :: tables_1)).before args0 about1 = true := by
  rw [allAtoms_all]
  show words1.all (fun c => c.before args0 about1) = true
  refine all_split ?_ w_codes
  rw [← List.take_append_drop 24 words1, List.all_append, w_t1, ← List.take_append_drop 24 (words1.drop 24), List.all_append, w_t2, ← List.take_append_drop 24 ((words1.drop 24).drop 24), List.all_append, w_t3, ← List.take_append_drop 24 (((words1.drop 24).drop 24).drop 24), List.all_append, w_t4, w_t5]
  rfl
set_option maxRecDepth 65536 in
theorem w_rest : rest_1_c.before args0 about1 = true := by decide +kernel
set_option maxRecDepth 65536 in
theorem w_case : (Jvm.Cond.and given_1 narrow_1).before args0 about1 = true := by decide +kernel
theorem w_applies : (headSpec (Jvm.Cond.code x code maxLocals ret :: tables_1) room_1).applies x e0.platform about1 = true :=
  (Spec.applies_iff w_frames).mpr ⟨w_running, w_runnable, w_alone, w_named, w_hears, w_ripe, w_room, w_tables⟩
theorem atStart : AtStart classFile x code maxLocals ret World_1 tables_1 room_1 Calls_1 rest_1 Pre_1 launch0 p0 e0 about1 theMethod args0 below0 :=
  ⟨lists_1, trivial, launch0.admits_env _ _ _, launch0.least_env, fairChoices_fair.cas, fairChoices_fair.clock, w_frames, w_args, w_heap, w_applies, trivial, w_rest, w_case⟩
end start1
theorem witness_1 : WitnessClaimed_1 := ⟨start1.p0, start1.e0, start1.about1, start1.theMethod, start1.args0, start1.below0, start1.atStart⟩
end Jvm.Pilot.@@N@@
