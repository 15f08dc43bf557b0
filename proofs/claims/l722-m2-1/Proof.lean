import JvmDerived
import JvmDerived.Pilot.@@N@@Statement
import JvmDerived.Pilot.@@N@@Code
set_option linter.unusedVariables false
set_option linter.unusedSimpArgs false
namespace Jvm.RoadKit
open Sem ClassFile Op Lib Jvm.Stand Jvm.Free Jvm.LawKit
section New
variable {p : Program} {l : Launch} {e : Env} {R : Room} {s : State} {m : MethodId} {args : Array Value} {below : List Frame} {meth : Method} {c : Code} {T : State} {locs : List Loc} {cells slots : Nat}
theorem retI (X : Stand p l e R s m args below meth c T locs cells slots) (hx : p.tables.exec = Jvm.exec) {pc : Nat} {Ls : Array Slot} {z : Int32} {rest : List Value} (hret : meth.sig.returnType = some .int) (hd : decode c.code pc = .ok (.ireturn, 1)) {fs : List Frame}
    (hl : ∀ (f : JFrame) (acts : List Action), f.method = m → f.locked = none → f.entered = [] → (doReturn e (T.setTop f) acts (some (.int z))).1 = T.setFrames fs) : Steps p.tables e below (T.setTop (mkF m pc Ls (.int z :: rest))) (T.setFrames fs) := by
  have hm' : T.vm.method? m = some meth := X.method'
  have hn : narrow .int (.int z) = .int z := rfl
  show Steps p.tables e below (T.setTop { method := m, pc := pc, locals := Ls, stack := _ :: rest, locked := none }) _
  jvm_step X.here [X.here.top, hx, hd, hm', hret, hn]
  first | (intro acts; rw [hl _ acts rfl rfl rfl]) | rw [hl _ _ rfl rfl rfl]
  exact Steps.refl _
end New
end Jvm.RoadKit
namespace Jvm.Pilot.@@N@@
open Jvm Jvm.ClassFile Sem Op Lib Jvm.Free Jvm.Stand Jvm.LawKit Jvm.RoadKit Bundle Jvm.Pilot.@@N@@.Jvm.D
abbrev own_S (p : Program) (e : Env) (below : List Frame) (S T : State) (f : JFrame) : Prop := ∀ tt, Steps p.tables e below (T.setTop f) tt → Steps p.tables e below S tt
def own_pick (sl a b c d : Int32) : Int32 := if sl = 0 then a else if sl = 1 then b else if sl = 2 then c else d
def own_same (x y : Int32) : Int32 := if x = y then 1 else 0
theorem own_nb {p : Prop} [Decidable p] : nar .boolean (if p then (1 : Int32) else 0) = if p then 1 else 0 := by split <;> rfl
theorem own_sl (x s : Int32) (h : s = x &&& 3) : s = 0 ∨ s = 1 ∨ s = 2 ∨ s = 3 := by
  have h1 := c_mask x 3 2 (by decide) (by decide)
  rw [← h] at h1
  have e4 : ((2 ^ 2 : Nat) : Int) = 4 := by decide
  rw [e4] at h1
  have e0 : (0 : Int32).toInt = 0 := rfl
  have e1 : (1 : Int32).toInt = 1 := rfl
  have e2 : (2 : Int32).toInt = 2 := rfl
  have e3 : (3 : Int32).toInt = 3 := rfl
  simp only [← Int32.toInt_inj]
  omega
theorem own_in4 {s : Int32} (h : s = 0 ∨ s = 1 ∨ s = 2 ∨ s = 3) : ¬ s < 0 ∧ s < 4 := by rcases h with rfl | rfl | rfl | rfl <;> decide
theorem own_at4 {s : Int32} (a b c d : Int32) (h : s = 0 ∨ s = 1 ∨ s = 2 ∨ s = 3) : ([(.int a), (.int b), (.int c), (.int d)] : List Value).getD s.toNatClampNeg (.int (0 : Int32)) = .int (own_pick s a b c d) := by rcases h with rfl | rfl | rfl | rfl <;> rfl
theorem pn0 : plainName "java/lang/Record" = true := by first | (simp [plainName, overriddenIn]; done) | decide +kernel
theorem d3_0 : decode jdk_30_method_1_code 0 = .ok (.aload_n 0, 1) := by decide +kernel
theorem d3_1 : decode jdk_30_method_1_code 1 = .ok (.invokespecial 1, 3) := by decide +kernel
theorem d3_4 : decode jdk_30_method_1_code 4 = .ok (.return_, 1) := by decide +kernel
theorem ef3 (m : MethodId) (x0 : Addr) : entryFrame m #[(.ref x0)] 1 = mkF m 0 #[.val (.ref x0)] [] := by first | (simp [entryFrame, mkF, argsToLocals, Value.category]; done) | rfl
def Q3 (Z : State) (o1 : Addr) (h0 : Heap) (n0 : Nat) (v : Option Value) (h : Heap) (L : List Loc) : Prop := v = none ∧ Fr n0 L ∧ h = h0
set_option maxRecDepth 65536 in
set_option maxHeartbeats 40000000 in
theorem rm3 (l : Launch) (Z : State) (a0 : Array Value) (hw : ∀ d ∈ tables_1, d.before a0 Z = true) (ws : List Jvm.Cond) (o1 : Addr) (h0 : Heap) (n0 : Nat) (Z0 : n0 ≤ h0.size) :
    MetFree l (⟨"java/lang/Record", "<init>", "()V"⟩ : MethodName) (head1 (Jvm.Cond.code (⟨"java/lang/Record", "<init>", "()V"⟩ : MethodName) jdk_30_method_1_code 1 none :: ws) ({ frames := 1, cells := 0, slots := 0, locals := 12 } : Room)) (fun aa UU => aa = #[(.ref o1)] ∧ Z.Warmed39 UU.vm ∧ UU.heap = h0) (fun _ _ _ _ _ => True) (fun _ UU oo UU' => ∃ vv LL, oo = .returned vv ∧ Q3 Z o1 h0 n0 vv UU'.heap LL ∧ FrameEnd UU oo UU' LL ({ frames := 1, cells := 0, slots := 0, locals := 12 } : Room).cells ({ frames := 1, cells := 0, slots := 0, locals := 12 } : Room).slots) := by
  have W : ∀ {d : Jvm.Cond} (i : Nat), tables_1[i]? = some d → d.before a0 Z = true := fun i h => hw _ (List.mem_of_getElem? h)
  refine MetFree.of_bodySF (plainFor_of_name pn0) hisR ?_
  intro p e s m args below meth c s₁ Bd hml0 hP hK
  obtain ⟨rfl, hZ, hh⟩ := hP
  have hx := Bd.exec
  have hby := Bd.bytes
  have hml : c.maxLocals = 1 := hml0
  have hown : s.vm.findClass "java/lang/Record" = some m.cls := findClass_of_methodNamed Bd.named
  have hnm := (name_of_methodNamed Bd.named Bd.method).1
  have X0 : Stand p l e ({ frames := 1, cells := 0, slots := 0, locals := 12 } : Room) s m #[(.ref o1)] below meth c s₁ [] 0 0 := Stand.of_body Bd
  have e0 : s₁.heap = h0 := by rw [← hh, Bd.state]; rfl
  have N0 := Fr.nil n0
  have pre0 : ∀ tt, Steps p.tables e below (s₁.setTop (mkF m 0 #[rv o1] [])) tt → Steps p.tables e below (s₁.setTop (entryFrame m #[(.ref o1)] 1)) tt := fun tt kt => castTop (ef3 m o1) kt
  obtain ⟨ST, hST⟩ : ∃ z : State, z = s₁.setTop (mkF m 0 #[rv o1] []) := ⟨_, rfl⟩
  rw [← hST] at pre0
  have go101 : own_S p e below ST s₁ (mkF m 1 #[rv o1] [(.ref o1)]) := fun tt kt => (by
      rw [hST]
      show Steps p.tables e below (s₁.setTop (mkF m 0 #[rv o1] [])) _
      refine XS.aloadN X0.here hx rfl (hb hby d3_0) rfl rfl ?_
      exact kt)
  obtain ⟨T102, X102, e102, st102⟩ := initO X0 hx hZ hown (W 16 rfl) (W 17 rfl) (W 18 rfl) e0 (g := (mkF m 1 #[rv o1] [(.ref o1)])) rfl (by rw [hml]; rfl) rfl (hb hby d3_1) (by decide) (W := 0) (by show 2 * 0 + _ ≤ _; exact Nat.le_of_eq rfl) (by decide)
  have go103 : own_S p e below ST T102 (mkF m 4 #[rv o1] []) := fun tt kt => go101 tt (st102 _ kt)
  obtain ⟨fs, hr, hrun, hended, hW, hsame⟩ := X102.leave (v := none) (fun _ => rfl)
  refine ⟨_, _, pre0 _ (go103 _ ?_), hrun, hended, _, _, rfl, ?_, ⟨_, rfl⟩, hW, hsame.mono (by decide) (by decide)⟩
  · exact X102.returnOut hx Bd.returns (hb hby d3_4) hr
  · show Q3 Z o1 h0 n0 _ T102.heap _
    rw [e102]
    exact ⟨rfl, N0, rfl⟩
theorem pn4 : plainName "com/example/ruleseer/ruleseer/gdl/Pattern$Check" = true := by first | (simp [plainName, overriddenIn]; done) | decide +kernel
theorem d2_0 : decode prog_77_method_1_code 0 = .ok (.aload_n 0, 1) := by decide +kernel
theorem d2_1 : decode prog_77_method_1_code 1 = .ok (.invokespecial 1, 3) := by decide +kernel
theorem pd7 : parseMethodDescriptor "()V" = some ⟨[], none⟩ := by decide +kernel
theorem d2_4 : decode prog_77_method_1_code 4 = .ok (.aload_n 0, 1) := by decide +kernel
theorem d2_5 : decode prog_77_method_1_code 5 = .ok (.iload_n 1, 1) := by decide +kernel
theorem d2_6 : decode prog_77_method_1_code 6 = .ok (.putfield 7, 3) := by decide +kernel
theorem d2_9 : decode prog_77_method_1_code 9 = .ok (.return_, 1) := by decide +kernel
theorem ef2 (m : MethodId) (x0 : Addr) (x1 : Int32) : entryFrame m #[(.ref x0), (.int x1)] 2 = mkF m 0 #[.val (.ref x0), .val (.int x1)] [] := by first | (simp [entryFrame, mkF, argsToLocals, Value.category]; done) | rfl
def Q2 (Z : State) (o1 : Addr) (p1 : Int32) (u1 : Value) (h0 : Heap) (n0 : Nat) (v : Option Value) (h : Heap) (L : List Loc) : Prop := v = none ∧ Fr n0 L ∧ Keep h0 h [o1] ∧ Fld Z h o1 "com/example/ruleseer/ruleseer/gdl/Pattern$Check" "slot" "I" (.int p1)
set_option maxRecDepth 65536 in
set_option maxHeartbeats 40000000 in
theorem rm2 (l : Launch) (Z : State) (a0 : Array Value) (hw : ∀ d ∈ tables_1, d.before a0 Z = true) (ws : List Jvm.Cond) (o1 : Addr) (p1 : Int32) (u1 : Value) (h0 : Heap) (n0 : Nat) (Z0 : n0 ≤ h0.size) (F1 : Fld Z h0 o1 "com/example/ruleseer/ruleseer/gdl/Pattern$Check" "slot" "I" u1) (E1 : Exa Z h0 o1 "com/example/ruleseer/ruleseer/gdl/Pattern$Check") (g1 : n0 ≤ o1) :
    MetFree l (⟨"com/example/ruleseer/ruleseer/gdl/Pattern$Check", "<init>", "(I)V"⟩ : MethodName) (head1 (Jvm.Cond.code (⟨"com/example/ruleseer/ruleseer/gdl/Pattern$Check", "<init>", "(I)V"⟩ : MethodName) prog_77_method_1_code 2 none :: ws) ({ frames := 2, cells := 0, slots := 0, locals := 24 } : Room)) (fun aa UU => aa = #[(.ref o1), (.int p1)] ∧ Z.Warmed39 UU.vm ∧ UU.heap = h0) (fun _ _ _ _ _ => True) (fun _ UU oo UU' => ∃ vv LL, oo = .returned vv ∧ Q2 Z o1 p1 u1 h0 n0 vv UU'.heap LL ∧ FrameEnd UU oo UU' LL ({ frames := 2, cells := 0, slots := 0, locals := 24 } : Room).cells ({ frames := 2, cells := 0, slots := 0, locals := 24 } : Room).slots) := by
  have W : ∀ {d : Jvm.Cond} (i : Nat), tables_1[i]? = some d → d.before a0 Z = true := fun i h => hw _ (List.mem_of_getElem? h)
  refine MetFree.of_bodySF (plainFor_of_name pn4) hisR ?_
  intro p e s m args below meth c s₁ Bd hml0 hP hK
  obtain ⟨rfl, hZ, hh⟩ := hP
  have hx := Bd.exec
  have hby := Bd.bytes
  have hml : c.maxLocals = 2 := hml0
  have hown : s.vm.findClass "com/example/ruleseer/ruleseer/gdl/Pattern$Check" = some m.cls := findClass_of_methodNamed Bd.named
  have hnm := (name_of_methodNamed Bd.named Bd.method).1
  have X0 : Stand p l e ({ frames := 2, cells := 0, slots := 0, locals := 24 } : Room) s m #[(.ref o1), (.int p1)] below meth c s₁ [] 0 0 := Stand.of_body Bd
  have e0 : s₁.heap = h0 := by rw [← hh, Bd.state]; rfl
  have N0 := Fr.nil n0
  have pre0 : ∀ tt, Steps p.tables e below (s₁.setTop (mkF m 0 #[rv o1, iv p1] [])) tt → Steps p.tables e below (s₁.setTop (entryFrame m #[(.ref o1), (.int p1)] 2)) tt := fun tt kt => castTop (ef2 m o1 p1) kt
  obtain ⟨ST, hST⟩ : ∃ z : State, z = s₁.setTop (mkF m 0 #[rv o1, iv p1] []) := ⟨_, rfl⟩
  rw [← hST] at pre0
  have KC0 : Keep h0 h0 [o1] := Keep.refl h0 [o1]
  have go104 : own_S p e below ST s₁ (mkF m 1 #[rv o1, iv p1] [(.ref o1)]) := fun tt kt => (by
      rw [hST]
      show Steps p.tables e below (s₁.setTop (mkF m 0 #[rv o1, iv p1] [])) _
      refine XS.aloadN X0.here hx rfl (hb hby d2_0) rfl rfl ?_
      exact kt)
  obtain ⟨_, _, ⟨T105, L105, k105, n105⟩, -, X105, ⟨Lc105, hQ105, l105, y105, z105⟩, st105⟩ := X0.specialBack hx (y := (⟨"java/lang/Record", "<init>", "()V"⟩ : MethodName)) rfl hown (mvT hZ (W 11 rfl)) (mvT hZ (W 12 rfl)) (mvT hZ (W 15 rfl)) (by decide) (backOf (W := 0) (rm3 l Z a0 hw [] o1 h0 n0 Z0 ) hZ (W 15 rfl) (W 14 rfl) (by decide) (by decide)) (g := (mkF m 1 #[rv o1, iv p1] [(.ref o1)])) rfl (by rw [hml]; rfl) (Steps.refl _) (a := o1) (argsL := []) (rest := []) (lenOf pd7 rfl) rfl (by show 2 * 0 + _ ≤ _; exact Nat.le_of_eq rfl) (hb hby d2_1) (fun _ _ => ⟨rfl, e0, (by decide : 0 + 0 ≤ _), (by decide : 0 + 0 ≤ _)⟩)
  dsimp only [Pt.U, Pt.locs, Pt.cells, Pt.slots] at X105 l105 y105 z105 st105 hQ105
  subst l105 y105 z105
  obtain ⟨rfl, Nq105, eh105⟩ := hQ105
  have N105 := Fr.app N0 Nq105
  have go106 : own_S p e below ST T105 (mkF m 4 #[rv o1, iv p1] []) := fun tt kt => go104 tt (st105.trans kt)
  have go107 : own_S p e below ST T105 (mkF m 6 #[rv o1, iv p1] [(.int p1), (.ref o1)]) := fun tt kt => go106 tt (by
      refine XS.aloadN X105.here hx rfl (hb hby d2_4) rfl rfl ?_
      refine XS.iloadN X105.here hx rfl (hb hby d2_5) rfl ?_
      exact kt)
  obtain ⟨T108, h108, X108, e108, W108, st108⟩ := putF X105 hx hZ hown (host := "") (Or.inl (W 19 rfl)) Via.refl eh105 F1 E1 (Or.inr ⟨(W 20 rfl), rfl, hnm⟩) (W 6 rfl) (ty := .int) (by decide) rfl rfl (g := (mkF m 6 #[rv o1, iv p1] [(.int p1), (.ref o1)])) rfl rfl (hb hby d2_6)
  have Fw108 := F1.same W108
  have N108 := Fr.snoc X108 N105 g1
  have go109 : own_S p e below ST T108 (mkF m 9 #[rv o1, iv p1] []) := fun tt kt => go107 tt (st108 _ kt)
  have KC108 : Keep h0 h108 [o1] := KC0.wr W108 (Or.inl (List.mem_of_getElem? (i := 0) rfl))
  obtain ⟨fs, hr, hrun, hended, hW, hsame⟩ := X108.leave (v := none) (fun _ => rfl)
  refine ⟨_, _, pre0 _ (go109 _ ?_), hrun, hended, _, _, rfl, ?_, ⟨_, rfl⟩, hW, hsame.mono (by decide) (by decide)⟩
  · exact X108.returnOut hx Bd.returns (hb hby d2_9) hr
  · show Q2 Z o1 p1 u1 h0 n0 _ T108.heap _
    rw [e108]
    exact ⟨rfl, N108, KC108, Fw108⟩
theorem d5_0 : decode prog_77_method_2_code 0 = .ok (.aload_n 2, 1) := by decide +kernel
theorem d5_1 : decode prog_77_method_2_code 1 = .ok (.aload_n 0, 1) := by decide +kernel
theorem d5_2 : decode prog_77_method_2_code 2 = .ok (.getfield 7, 3) := by decide +kernel
theorem d5_5 : decode prog_77_method_2_code 5 = .ok (.iaload, 1) := by decide +kernel
theorem d5_6 : decode prog_77_method_2_code 6 = .ok (.iload_n 1, 1) := by decide +kernel
theorem d5_7 : decode prog_77_method_2_code 7 = .ok (.if_icmp .ne 7, 3) := by decide +kernel
theorem d5_10 : decode prog_77_method_2_code 10 = .ok (.iconst 1, 1) := by decide +kernel
theorem d5_11 : decode prog_77_method_2_code 11 = .ok (.goto 4, 3) := by decide +kernel
theorem d5_14 : decode prog_77_method_2_code 14 = .ok (.iconst 0, 1) := by decide +kernel
theorem d5_15 : decode prog_77_method_2_code 15 = .ok (.ireturn, 1) := by decide +kernel
theorem ef5 (m : MethodId) (x0 : Addr) (x1 : Int32) (x2 : Addr) : entryFrame m #[(.ref x0), (.int x1), (.ref x2), .null] 4 = mkF m 0 #[.val (.ref x0), .val (.int x1), .val (.ref x2), .val .null] [] := by first | (simp [entryFrame, mkF, argsToLocals, Value.category]; done) | rfl
def Q5 (Z : State) (o1 : Addr) (p1 : Int32) (o2 : Addr) (sl : Int32) (a : Int32) (b : Int32) (c' : Int32) (d : Int32) (ka : ClassId) (h0 : Heap) (n0 : Nat) (v : Option Value) (h : Heap) (L : List Loc) : Prop := v = some (.int (own_same (own_pick sl a b c' d) p1)) ∧ Fr n0 L ∧ h = h0
set_option maxRecDepth 65536 in
set_option maxHeartbeats 40000000 in
theorem rm5 (l : Launch) (Z : State) (a0 : Array Value) (hw : ∀ d ∈ tables_1, d.before a0 Z = true) (ws : List Jvm.Cond) (o1 : Addr) (p1 : Int32) (o2 : Addr) (sl : Int32) (a : Int32) (b : Int32) (c' : Int32) (d : Int32) (ka : ClassId) (h0 : Heap) (n0 : Nat) (Z0 : n0 ≤ h0.size) (F1 : Fld Z h0 o1 "com/example/ruleseer/ruleseer/gdl/Pattern$Check" "slot" "I" (.int sl)) (V1 : Arv Z h0 o2 ka .int (4 : Int32) [(.int a), (.int b), (.int c'), (.int d)] (.int (0 : Int32))) (hsl : sl = 0 ∨ sl = 1 ∨ sl = 2 ∨ sl = 3) :
    MetFree l (⟨"com/example/ruleseer/ruleseer/gdl/Pattern$Check", "match", "(I[ILcom/example/ruleseer/ruleseer/gdl/TermPool;)Z"⟩ : MethodName) (head1 (Jvm.Cond.code (⟨"com/example/ruleseer/ruleseer/gdl/Pattern$Check", "match", "(I[ILcom/example/ruleseer/ruleseer/gdl/TermPool;)Z"⟩ : MethodName) prog_77_method_2_code 4 (some .boolean) :: ws) ({ frames := 0, cells := 0, slots := 0, locals := 0 } : Room)) (fun aa UU => aa = #[(.ref o1), (.int p1), (.ref o2), .null] ∧ Z.Warmed39 UU.vm ∧ UU.heap = h0) (fun _ _ _ _ _ => True) (fun _ UU oo UU' => ∃ vv LL, oo = .returned vv ∧ Q5 Z o1 p1 o2 sl a b c' d ka h0 n0 vv UU'.heap LL ∧ FrameEnd UU oo UU' LL ({ frames := 0, cells := 0, slots := 0, locals := 0 } : Room).cells ({ frames := 0, cells := 0, slots := 0, locals := 0 } : Room).slots) := by
  have W : ∀ {d : Jvm.Cond} (i : Nat), tables_1[i]? = some d → d.before a0 Z = true := fun i h => hw _ (List.mem_of_getElem? h)
  refine MetFree.of_bodySF (plainFor_of_name pn4) hisR ?_
  intro p e s m args below meth c s₁ Bd hml0 hP hK
  obtain ⟨rfl, hZ, hh⟩ := hP
  have hx := Bd.exec
  have hby := Bd.bytes
  have hml : c.maxLocals = 4 := hml0
  have hown : s.vm.findClass "com/example/ruleseer/ruleseer/gdl/Pattern$Check" = some m.cls := findClass_of_methodNamed Bd.named
  have hnm := (name_of_methodNamed Bd.named Bd.method).1
  have X0 : Stand p l e ({ frames := 0, cells := 0, slots := 0, locals := 0 } : Room) s m #[(.ref o1), (.int p1), (.ref o2), .null] below meth c s₁ [] 0 0 := Stand.of_body Bd
  have e0 : s₁.heap = h0 := by rw [← hh, Bd.state]; rfl
  have N0 := Fr.nil n0
  have pre0 : ∀ tt, Steps p.tables e below (s₁.setTop (mkF m 0 #[rv o1, iv p1, rv o2, .val .null] [])) tt → Steps p.tables e below (s₁.setTop (entryFrame m #[(.ref o1), (.int p1), (.ref o2), .null] 4)) tt := fun tt kt => castTop (ef5 m o1 p1 o2) kt
  obtain ⟨ST, hST⟩ : ∃ z : State, z = s₁.setTop (mkF m 0 #[rv o1, iv p1, rv o2, .val .null] []) := ⟨_, rfl⟩
  rw [← hST] at pre0
  have go110 : own_S p e below ST s₁ (mkF m 2 #[rv o1, iv p1, rv o2, .val .null] [(.ref o1), (.ref o2)]) := fun tt kt => (by
      rw [hST]
      show Steps p.tables e below (s₁.setTop (mkF m 0 #[rv o1, iv p1, rv o2, .val .null] [])) _
      refine XS.aloadN X0.here hx rfl (hb hby d5_0) rfl rfl ?_
      refine XS.aloadN X0.here hx rfl (hb hby d5_1) rfl rfl ?_
      exact kt)
  obtain ⟨T111, X111, e111, st111⟩ := getF X0 hx hZ hown (host := "") (Or.inl (W 19 rfl)) Via.refl e0 F1 (g := (mkF m 2 #[rv o1, iv p1, rv o2, .val .null] [(.ref o1), (.ref o2)])) rfl rfl (hb hby d5_2)
  have go112 : own_S p e below ST T111 (mkF m 5 #[rv o1, iv p1, rv o2, .val .null] [(.int sl), (.ref o2)]) := fun tt kt => go110 tt (st111 _ kt)
  obtain ⟨cl113, Ar113, q113, S113, M113, H113, G113⟩ := id V1
  have hin113 : ¬ (sl < 0 ∨ cl113.slots.size ≤ (sl).toNatClampNeg) := inb_of S113 (own_in4 hsl)
  have hat113 : cl113.slots[(sl).toNatClampNeg]? = some (.int (own_pick sl a b c' d)) := H113.at hin113 (own_at4 a b c' d hsl)
  have go114 : own_S p e below ST T111 (mkF m 6 #[rv o1, iv p1, rv o2, .val .null] [(.int (own_pick sl a b c' d))]) := fun tt kt => go112 tt (by
      refine X111.iaload hx (j := sl) (v := (.int (own_pick sl a b c' d))) (by rw [e111]; exact Ar113.1) (State.isArrayOf_alike hZ.alike Ar113.2.1) Ar113.2.2 hin113 hat113 (g := (mkF m 5 #[rv o1, iv p1, rv o2, .val .null] [(.int sl), (.ref o2)])) rfl rfl (hb hby d5_5) _ ?_
      exact kt)
  have go115 : own_S p e below ST T111 (mkF m 7 #[rv o1, iv p1, rv o2, .val .null] [(.int p1), (.int (own_pick sl a b c' d))]) := fun tt kt => go114 tt (by
      refine XS.iloadN X111.here hx rfl (hb hby d5_6) rfl ?_
      exact kt)
  obtain ⟨v, hv, sg116⟩ : ∃ (v : Int32), v = (if (own_pick sl a b c' d) = p1 then (1 : Int32) else (0 : Int32)) ∧ ∀ tt, Steps p.tables e below (T111.setTop (mkF m 15 #[rv o1, iv p1, rv o2, .val .null] [(.int v)])) tt → Steps p.tables e below (T111.setTop (mkF m 7 #[rv o1, iv p1, rv o2, .val .null] [(.int p1), (.int (own_pick sl a b c' d))])) tt := by
    by_cases hd7_0 : (own_pick sl a b c' d) = p1
    · refine ⟨_, (if_pos hd7_0).symm, fun tt kt => ?_⟩
      show Steps p.tables e below (T111.setTop (mkF m 7 #[rv o1, iv p1, rv o2, .val .null] [(.int p1), (.int (own_pick sl a b c' d))])) _
      refine XS.icmpNo X111.here hx rfl (hb hby d5_7) rfl (teq hd7_0).2 ?_
      refine XS.iconst X111.here hx rfl (hb hby d5_10) ?_
      refine XS.goto X111.here hx rfl (pc0 := 11) (pc' := 15) rfl (hb hby d5_11) (by decide) (by decide) ?_
      exact kt
    · refine ⟨_, (if_neg hd7_0).symm, fun tt kt => ?_⟩
      show Steps p.tables e below (T111.setTop (mkF m 7 #[rv o1, iv p1, rv o2, .val .null] [(.int p1), (.int (own_pick sl a b c' d))])) _
      refine XS.icmpYes X111.here hx rfl (pc0 := 7) (pc' := 14) rfl (hb hby d5_7) rfl (feq hd7_0).2 (by decide) (by decide) ?_
      refine XS.iconst X111.here hx rfl (hb hby d5_14) ?_
      exact kt
  have go117 : own_S p e below ST T111 (mkF m 15 #[rv o1, iv p1, rv o2, .val .null] [(.int v)]) := fun tt kt => go115 tt (sg116 _ kt)
  obtain ⟨fs, hr, hrun, hended, hW, hsame⟩ := X111.leave (v := some (.int (nar .boolean v))) (fun h => by rw [Bd.returns] at h; cases h)
  refine ⟨_, _, pre0 _ (go117 _ ?_), hrun, hended, _, _, rfl, ?_, ⟨_, rfl⟩, hW, hsame.mono (by decide) (by decide)⟩
  · exact retN X111 hx (t := .boolean) Bd.returns (by simp) (hb hby d5_15) hr
  · show Q5 Z o1 p1 o2 sl a b c' d ka h0 n0 _ T111.heap _
    rw [e111]
    exact ⟨(by rw [hv, own_nb]; rfl), N0, rfl⟩
theorem pn22 : plainName "com/example/ruleseer/ruleseer/gdl/CheckMatchPinLaw" = true := by first | (simp [plainName, overriddenIn]; done) | decide +kernel
theorem d1_0 : decode method_2_code 0 = .ok (.iload_n 0, 1) := by decide +kernel
theorem d1_1 : decode method_2_code 1 = .ok (.ifCond .ne 5, 3) := by decide +kernel
theorem d1_4 : decode method_2_code 4 = .ok (.iload_n 1, 1) := by decide +kernel
theorem d1_5 : decode method_2_code 5 = .ok (.ireturn, 1) := by decide +kernel
theorem d1_6 : decode method_2_code 6 = .ok (.iload_n 0, 1) := by decide +kernel
theorem d1_7 : decode method_2_code 7 = .ok (.iconst 1, 1) := by decide +kernel
theorem d1_8 : decode method_2_code 8 = .ok (.if_icmp .ne 5, 3) := by decide +kernel
theorem d1_11 : decode method_2_code 11 = .ok (.iload_n 2, 1) := by decide +kernel
theorem d1_12 : decode method_2_code 12 = .ok (.ireturn, 1) := by decide +kernel
theorem d1_13 : decode method_2_code 13 = .ok (.iload_n 0, 1) := by decide +kernel
theorem d1_14 : decode method_2_code 14 = .ok (.iconst 2, 1) := by decide +kernel
theorem d1_15 : decode method_2_code 15 = .ok (.if_icmp .ne 5, 3) := by decide +kernel
theorem d1_18 : decode method_2_code 18 = .ok (.iload_n 3, 1) := by decide +kernel
theorem d1_19 : decode method_2_code 19 = .ok (.ireturn, 1) := by decide +kernel
theorem d1_20 : decode method_2_code 20 = .ok (.iload 4, 2) := by decide +kernel
theorem d1_22 : decode method_2_code 22 = .ok (.ireturn, 1) := by decide +kernel
theorem ef1 (m : MethodId) (x0 : Int32) (x1 : Int32) (x2 : Int32) (x3 : Int32) (x4 : Int32) : entryFrame m #[(.int x0), (.int x1), (.int x2), (.int x3), (.int x4)] 5 = mkF m 0 #[.val (.int x0), .val (.int x1), .val (.int x2), .val (.int x3), .val (.int x4)] [] := by first | (simp [entryFrame, mkF, argsToLocals, Value.category]; done) | rfl
def Q1 (Z : State) (sl : Int32) (a : Int32) (b : Int32) (c' : Int32) (d : Int32) (h0 : Heap) (n0 : Nat) (v : Option Value) (h : Heap) (L : List Loc) : Prop := v = some (.int (own_pick sl a b c' d)) ∧ Fr n0 L ∧ h = h0
set_option maxRecDepth 65536 in
set_option maxHeartbeats 40000000 in
theorem rm1 (l : Launch) (Z : State) (a0 : Array Value) (hw : ∀ d ∈ tables_1, d.before a0 Z = true) (ws : List Jvm.Cond) (sl : Int32) (a : Int32) (b : Int32) (c' : Int32) (d : Int32) (h0 : Heap) (n0 : Nat) (Z0 : n0 ≤ h0.size) :
    MetFree l (⟨"com/example/ruleseer/ruleseer/gdl/CheckMatchPinLaw", "pick", "(IIIII)I"⟩ : MethodName) (head1 (Jvm.Cond.code (⟨"com/example/ruleseer/ruleseer/gdl/CheckMatchPinLaw", "pick", "(IIIII)I"⟩ : MethodName) method_2_code 5 (some .int) :: ws) ({ frames := 0, cells := 0, slots := 0, locals := 0 } : Room)) (fun aa UU => aa = #[(.int sl), (.int a), (.int b), (.int c'), (.int d)] ∧ Z.Warmed39 UU.vm ∧ UU.heap = h0) (fun _ _ _ _ _ => True) (fun _ UU oo UU' => ∃ vv LL, oo = .returned vv ∧ Q1 Z sl a b c' d h0 n0 vv UU'.heap LL ∧ FrameEnd UU oo UU' LL ({ frames := 0, cells := 0, slots := 0, locals := 0 } : Room).cells ({ frames := 0, cells := 0, slots := 0, locals := 0 } : Room).slots) := by
  have W : ∀ {d : Jvm.Cond} (i : Nat), tables_1[i]? = some d → d.before a0 Z = true := fun i h => hw _ (List.mem_of_getElem? h)
  refine MetFree.of_bodySF (plainFor_of_name pn22) hisR ?_
  intro p e s m args below meth c s₁ Bd hml0 hP hK
  obtain ⟨rfl, hZ, hh⟩ := hP
  have hx := Bd.exec
  have hby := Bd.bytes
  have hml : c.maxLocals = 5 := hml0
  have hown : s.vm.findClass "com/example/ruleseer/ruleseer/gdl/CheckMatchPinLaw" = some m.cls := findClass_of_methodNamed Bd.named
  have hnm := (name_of_methodNamed Bd.named Bd.method).1
  have X0 : Stand p l e ({ frames := 0, cells := 0, slots := 0, locals := 0 } : Room) s m #[(.int sl), (.int a), (.int b), (.int c'), (.int d)] below meth c s₁ [] 0 0 := Stand.of_body Bd
  have e0 : s₁.heap = h0 := by rw [← hh, Bd.state]; rfl
  have N0 := Fr.nil n0
  have pre0 : ∀ tt, Steps p.tables e below (s₁.setTop (mkF m 0 #[iv sl, iv a, iv b, iv c', iv d] [])) tt → Steps p.tables e below (s₁.setTop (entryFrame m #[(.int sl), (.int a), (.int b), (.int c'), (.int d)] 5)) tt := fun tt kt => castTop (ef1 m sl a b c' d) kt
  obtain ⟨ST, hST⟩ : ∃ z : State, z = s₁.setTop (mkF m 0 #[iv sl, iv a, iv b, iv c', iv d] []) := ⟨_, rfl⟩
  rw [← hST] at pre0
  have go118 : own_S p e below ST s₁ (mkF m 1 #[iv sl, iv a, iv b, iv c', iv d] [(.int sl)]) := fun tt kt => (by
      rw [hST]
      show Steps p.tables e below (s₁.setTop (mkF m 0 #[iv sl, iv a, iv b, iv c', iv d] [])) _
      refine XS.iloadN X0.here hx rfl (hb hby d1_0) rfl ?_
      exact kt)
  by_cases c0 : sl = (0 : Int32)
  · have go119 : own_S p e below ST s₁ (mkF m 4 #[iv sl, iv a, iv b, iv c', iv d] []) := fun tt kt => go118 tt (by
        refine XS.ifNo X0.here hx rfl (hb hby d1_1) rfl ((if0 _ _).trans (teq c0).2) ?_
        exact kt)
    have go120 : own_S p e below ST s₁ (mkF m 5 #[iv sl, iv a, iv b, iv c', iv d] [(.int a)]) := fun tt kt => go119 tt (by
        refine XS.iloadN X0.here hx rfl (hb hby d1_4) rfl ?_
        exact kt)
    obtain ⟨fs, hr, hrun, hended, hW, hsame⟩ := X0.leave (v := some (.int a)) (fun h => by rw [Bd.returns] at h; cases h)
    refine ⟨_, _, pre0 _ (go120 _ ?_), hrun, hended, _, _, rfl, ?_, ⟨_, rfl⟩, hW, hsame.mono (by decide) (by decide)⟩
    · exact retI X0 hx Bd.returns (hb hby d1_5) hr
    · show Q1 Z sl a b c' d h0 n0 _ s₁.heap _
      rw [e0]
      exact ⟨(by rw [own_pick, if_pos c0]), N0, rfl⟩
  · have go121 : own_S p e below ST s₁ (mkF m 6 #[iv sl, iv a, iv b, iv c', iv d] []) := fun tt kt => go118 tt (by
        refine XS.ifYes X0.here hx rfl (pc0 := 1) (pc' := 6) rfl (hb hby d1_1) rfl ((if0 _ _).trans (feq c0).2) (by decide) (by decide) ?_
        exact kt)
    have go122 : own_S p e below ST s₁ (mkF m 8 #[iv sl, iv a, iv b, iv c', iv d] [(.int (1 : Int32)), (.int sl)]) := fun tt kt => go121 tt (by
        refine XS.iloadN X0.here hx rfl (hb hby d1_6) rfl ?_
        refine XS.iconst X0.here hx rfl (hb hby d1_7) ?_
        exact kt)
    by_cases c1 : sl = (1 : Int32)
    · have go123 : own_S p e below ST s₁ (mkF m 11 #[iv sl, iv a, iv b, iv c', iv d] []) := fun tt kt => go122 tt (by
          refine XS.icmpNo X0.here hx rfl (hb hby d1_8) rfl (teq c1).2 ?_
          exact kt)
      have go124 : own_S p e below ST s₁ (mkF m 12 #[iv sl, iv a, iv b, iv c', iv d] [(.int b)]) := fun tt kt => go123 tt (by
          refine XS.iloadN X0.here hx rfl (hb hby d1_11) rfl ?_
          exact kt)
      obtain ⟨fs, hr, hrun, hended, hW, hsame⟩ := X0.leave (v := some (.int b)) (fun h => by rw [Bd.returns] at h; cases h)
      refine ⟨_, _, pre0 _ (go124 _ ?_), hrun, hended, _, _, rfl, ?_, ⟨_, rfl⟩, hW, hsame.mono (by decide) (by decide)⟩
      · exact retI X0 hx Bd.returns (hb hby d1_12) hr
      · show Q1 Z sl a b c' d h0 n0 _ s₁.heap _
        rw [e0]
        exact ⟨(by rw [own_pick, if_neg c0, if_pos c1]), N0, rfl⟩
    · have go125 : own_S p e below ST s₁ (mkF m 13 #[iv sl, iv a, iv b, iv c', iv d] []) := fun tt kt => go122 tt (by
          refine XS.icmpYes X0.here hx rfl (pc0 := 8) (pc' := 13) rfl (hb hby d1_8) rfl (feq c1).2 (by decide) (by decide) ?_
          exact kt)
      have go126 : own_S p e below ST s₁ (mkF m 15 #[iv sl, iv a, iv b, iv c', iv d] [(.int (2 : Int32)), (.int sl)]) := fun tt kt => go125 tt (by
          refine XS.iloadN X0.here hx rfl (hb hby d1_13) rfl ?_
          refine XS.iconst X0.here hx rfl (hb hby d1_14) ?_
          exact kt)
      by_cases c2 : sl = (2 : Int32)
      · have go127 : own_S p e below ST s₁ (mkF m 18 #[iv sl, iv a, iv b, iv c', iv d] []) := fun tt kt => go126 tt (by
            refine XS.icmpNo X0.here hx rfl (hb hby d1_15) rfl (teq c2).2 ?_
            exact kt)
        have go128 : own_S p e below ST s₁ (mkF m 19 #[iv sl, iv a, iv b, iv c', iv d] [(.int c')]) := fun tt kt => go127 tt (by
            refine XS.iloadN X0.here hx rfl (hb hby d1_18) rfl ?_
            exact kt)
        obtain ⟨fs, hr, hrun, hended, hW, hsame⟩ := X0.leave (v := some (.int c')) (fun h => by rw [Bd.returns] at h; cases h)
        refine ⟨_, _, pre0 _ (go128 _ ?_), hrun, hended, _, _, rfl, ?_, ⟨_, rfl⟩, hW, hsame.mono (by decide) (by decide)⟩
        · exact retI X0 hx Bd.returns (hb hby d1_19) hr
        · show Q1 Z sl a b c' d h0 n0 _ s₁.heap _
          rw [e0]
          exact ⟨(by rw [own_pick, if_neg c0, if_neg c1, if_pos c2]), N0, rfl⟩
      · have go129 : own_S p e below ST s₁ (mkF m 20 #[iv sl, iv a, iv b, iv c', iv d] []) := fun tt kt => go126 tt (by
            refine XS.icmpYes X0.here hx rfl (pc0 := 15) (pc' := 20) rfl (hb hby d1_15) rfl (feq c2).2 (by decide) (by decide) ?_
            exact kt)
        have go130 : own_S p e below ST s₁ (mkF m 22 #[iv sl, iv a, iv b, iv c', iv d] [(.int d)]) := fun tt kt => go129 tt (by
            refine XS.iload X0.here hx rfl (hb hby d1_20) rfl ?_
            exact kt)
        obtain ⟨fs, hr, hrun, hended, hW, hsame⟩ := X0.leave (v := some (.int d)) (fun h => by rw [Bd.returns] at h; cases h)
        refine ⟨_, _, pre0 _ (go130 _ ?_), hrun, hended, _, _, rfl, ?_, ⟨_, rfl⟩, hW, hsame.mono (by decide) (by decide)⟩
        · exact retI X0 hx Bd.returns (hb hby d1_22) hr
        · show Q1 Z sl a b c' d h0 n0 _ s₁.heap _
          rw [e0]
          exact ⟨(by rw [own_pick, if_neg c0, if_neg c1, if_neg c2]), N0, rfl⟩
theorem pd39 : parseMethodDescriptor "(IIIII)I" = some ⟨[.int, .int, .int, .int, .int], some .int⟩ := by decide +kernel
theorem pd40 : parseMethodDescriptor "(I)V" = some ⟨[.int], none⟩ := by decide +kernel
theorem pd41 : parseMethodDescriptor "(I[ILcom/example/ruleseer/ruleseer/gdl/TermPool;)Z" = some ⟨[.int, (.array .int), (.object "com/example/ruleseer/ruleseer/gdl/TermPool")], some .boolean⟩ := by decide +kernel
theorem ef0 (m : MethodId) (x0 : Int32) (x1 : Int32) (x2 : Int32) (x3 : Int32) (x4 : Int32) (x5 : Int32) : entryFrame m #[(.int x0), (.int x1), (.int x2), (.int x3), (.int x4), (.int x5)] maxLocals = mkF m 0 #[.val (.int x0), .val (.int x1), .val (.int x2), .val (.int x3), .val (.int x4), .val (.int x5), .unset, .unset, .unset, .unset, .unset, .unset, .unset, .unset] [] := by first | (simp [entryFrame, mkF, argsToLocals, Value.category, maxLocals]; done) | rfl
def Q0 (Z : State) (md : Int32) (a : Int32) (b : Int32) (c' : Int32) (d : Int32) (x' : Int32) (h0 : Heap) (n0 : Nat) (v : Option Value) (h : Heap) (L : List Loc) : Prop := v = some (.int 1) ∧ Fr n0 L
set_option maxRecDepth 65536 in
set_option maxHeartbeats 40000000 in
theorem rm0 (l : Launch) (Z : State) (a0 : Array Value) (hw : ∀ d ∈ tables_1, d.before a0 Z = true) (ws : List Jvm.Cond) (md : Int32) (a : Int32) (b : Int32) (c' : Int32) (d : Int32) (x' : Int32) (h0 : Heap) (n0 : Nat) (Z0 : n0 ≤ h0.size) :
    MetFree l x (head1 (Jvm.Cond.code x code maxLocals ret :: ws) room_1) (fun aa UU => aa = #[(.int md), (.int a), (.int b), (.int c'), (.int d), (.int x')] ∧ Z.Warmed39 UU.vm ∧ UU.heap = h0) (fun _ _ _ _ _ => True) (fun _ UU oo UU' => ∃ vv LL, oo = .returned vv ∧ Q0 Z md a b c' d x' h0 n0 vv UU'.heap LL ∧ FrameEnd UU oo UU' LL room_1.cells room_1.slots) := by
  have W : ∀ {d : Jvm.Cond} (i : Nat), tables_1[i]? = some d → d.before a0 Z = true := fun i h => hw _ (List.mem_of_getElem? h)
  refine MetFree.of_bodySF (plainFor_of_name pn22) hisR ?_
  intro p e s m args below meth c s₁ Bd hml0 hP hK
  obtain ⟨rfl, hZ, hh⟩ := hP
  have hx := Bd.exec
  have hby := Bd.bytes
  have hml : c.maxLocals = 14 := hml0
  have hown : s.vm.findClass "com/example/ruleseer/ruleseer/gdl/CheckMatchPinLaw" = some m.cls := findClass_of_methodNamed Bd.named
  have hnm := (name_of_methodNamed Bd.named Bd.method).1
  have X0 : Stand p l e room_1 s m #[(.int md), (.int a), (.int b), (.int c'), (.int d), (.int x')] below meth c s₁ [] 0 0 := Stand.of_body Bd
  have e0 : s₁.heap = h0 := by rw [← hh, Bd.state]; rfl
  have N0 := Fr.nil n0
  have pre0 : ∀ tt, Steps p.tables e below (s₁.setTop (mkF m 0 #[iv md, iv a, iv b, iv c', iv d, iv x', .unset, .unset, .unset, .unset, .unset, .unset, .unset, .unset] [])) tt → Steps p.tables e below (s₁.setTop (entryFrame m #[(.int md), (.int a), (.int b), (.int c'), (.int d), (.int x')] maxLocals)) tt := fun tt kt => castTop (ef0 m md a b c' d x') kt
  obtain ⟨ST, hST⟩ : ∃ z : State, z = s₁.setTop (mkF m 0 #[iv md, iv a, iv b, iv c', iv d, iv x', .unset, .unset, .unset, .unset, .unset, .unset, .unset, .unset] []) := ⟨_, rfl⟩
  rw [← hST] at pre0
  have go131 : own_S p e below ST s₁ (mkF m 5 #[iv md, iv a, iv b, iv c', iv d, iv x', iv (md &&& (3 : Int32)), .unset, .unset, .unset, .unset, .unset, .unset, .unset] []) := fun tt kt => (by
      rw [hST]
      show Steps p.tables e below (s₁.setTop (mkF m 0 #[iv md, iv a, iv b, iv c', iv d, iv x', .unset, .unset, .unset, .unset, .unset, .unset, .unset, .unset] [])) _
      refine XS.iloadN X0.here hx rfl (hb hby at_0) rfl ?_
      refine XS.iconst X0.here hx rfl (hb hby at_1) ?_
      refine XS.iand X0.here hx rfl (hb hby at_2) rfl ?_
      refine XS.istore X0.here hx rfl (hb hby at_3) rfl (l' := #[iv md, iv a, iv b, iv c', iv d, iv x', iv (md &&& (3 : Int32)), .unset, .unset, .unset, .unset, .unset, .unset, .unset]) rfl ?_
      exact kt)
  obtain ⟨sl, hsl⟩ : ∃ z : Int32, z = (md &&& (3 : Int32)) := ⟨_, rfl⟩
  rw [← hsl] at go131
  have hsl' := own_sl md sl hsl
  clear hsl
  have hsl := hsl'
  have go132 : own_S p e below ST s₁ (mkF m 8 #[iv md, iv a, iv b, iv c', iv d, iv x', iv sl, .unset, .unset, .unset, .unset, .unset, .unset, .unset] [(.int (md &&& (4 : Int32)))]) := fun tt kt => go131 tt (by
      refine XS.iloadN X0.here hx rfl (hb hby at_5) rfl ?_
      refine XS.iconst X0.here hx rfl (hb hby at_6) ?_
      refine XS.iand X0.here hx rfl (hb hby at_7) rfl ?_
      exact kt)
  obtain ⟨same, hsame, sg133⟩ : ∃ (same : Int32), same = (if (md &&& (4 : Int32)) = (0 : Int32) then (0 : Int32) else (1 : Int32)) ∧ ∀ tt, Steps p.tables e below (s₁.setTop (mkF m 16 #[iv md, iv a, iv b, iv c', iv d, iv x', iv sl, .unset, .unset, .unset, .unset, .unset, .unset, .unset] [(.int same)])) tt → Steps p.tables e below (s₁.setTop (mkF m 8 #[iv md, iv a, iv b, iv c', iv d, iv x', iv sl, .unset, .unset, .unset, .unset, .unset, .unset, .unset] [(.int (md &&& (4 : Int32)))])) tt := by
    by_cases hd8_0 : (md &&& (4 : Int32)) = (0 : Int32)
    · refine ⟨_, (if_pos hd8_0).symm, fun tt kt => ?_⟩
      show Steps p.tables e below (s₁.setTop (mkF m 8 #[iv md, iv a, iv b, iv c', iv d, iv x', iv sl, .unset, .unset, .unset, .unset, .unset, .unset, .unset] [(.int (md &&& (4 : Int32)))])) _
      refine XS.ifYes X0.here hx rfl (pc0 := 8) (pc' := 15) rfl (hb hby at_8) rfl ((if0 _ _).trans (teq hd8_0).1) (by decide) (by decide) ?_
      refine XS.iconst X0.here hx rfl (hb hby at_15) ?_
      exact kt
    · refine ⟨_, (if_neg hd8_0).symm, fun tt kt => ?_⟩
      show Steps p.tables e below (s₁.setTop (mkF m 8 #[iv md, iv a, iv b, iv c', iv d, iv x', iv sl, .unset, .unset, .unset, .unset, .unset, .unset, .unset] [(.int (md &&& (4 : Int32)))])) _
      refine XS.ifNo X0.here hx rfl (hb hby at_8) rfl ((if0 _ _).trans (feq hd8_0).1) ?_
      refine XS.iconst X0.here hx rfl (hb hby at_11) ?_
      refine XS.goto X0.here hx rfl (pc0 := 12) (pc' := 16) rfl (hb hby at_12) (by decide) (by decide) ?_
      exact kt
  have go134 : own_S p e below ST s₁ (mkF m 16 #[iv md, iv a, iv b, iv c', iv d, iv x', iv sl, .unset, .unset, .unset, .unset, .unset, .unset, .unset] [(.int same)]) := fun tt kt => go132 tt (sg133 _ kt)
  have go135 : own_S p e below ST s₁ (mkF m 19 #[iv md, iv a, iv b, iv c', iv d, iv x', iv sl, iv same, .unset, .unset, .unset, .unset, .unset, .unset] [(.int (4 : Int32))]) := fun tt kt => go134 tt (by
      refine XS.istore X0.here hx rfl (hb hby at_16) rfl (l' := #[iv md, iv a, iv b, iv c', iv d, iv x', iv sl, iv same, .unset, .unset, .unset, .unset, .unset, .unset]) rfl ?_
      refine XS.iconst X0.here hx rfl (hb hby at_18) ?_
      exact kt)
  obtain ⟨b136, g136⟩ : ∃ z, z = h0.size := ⟨_, rfl⟩
  obtain ⟨T136, h136, k136, X136, e136, E136, A136, st136⟩ := newP X0 hx hZ (W 0 rfl) e0 (g := (mkF m 19 #[iv md, iv a, iv b, iv c', iv d, iv x', iv sl, iv same, .unset, .unset, .unset, .unset, .unset, .unset] [(.int (4 : Int32))])) rfl (hb hby at_19) rfl (by decide) (cap := 4) (by decide) (by decide) (by decide) (by decide)
  rw [← g136] at A136 st136
  have ge_b136 : n0 ≤ b136 := Nat.le_trans Z0 (Nat.le_of_eq g136.symm)
  have V136 : Arv Z h136 b136 k136 .int (4 : Int32) [(.int (0 : Int32)), (.int (0 : Int32)), (.int (0 : Int32)), (.int (0 : Int32))] (.int (0 : Int32)) := (Arv.new A136 (by decide)).pad (pad_rep [] (.int (0 : Int32)) 4)
  have go137 : own_S p e below ST T136 (mkF m 21 #[iv md, iv a, iv b, iv c', iv d, iv x', iv sl, iv same, .unset, .unset, .unset, .unset, .unset, .unset] [(.ref b136)]) := fun tt kt => go135 tt (st136 _ kt)
  have go138 : own_S p e below ST T136 (mkF m 24 #[iv md, iv a, iv b, iv c', iv d, iv x', iv sl, iv same, .unset, .unset, .unset, .unset, .unset, .unset] [(.int a), (.int (0 : Int32)), (.ref b136), (.ref b136)]) := fun tt kt => go137 tt (by
      refine XS.dup X136.here hx rfl (hb hby at_21) rfl rfl ?_
      refine XS.iconst X136.here hx rfl (hb hby at_22) ?_
      refine XS.iloadN X136.here hx rfl (hb hby at_23) rfl ?_
      exact kt)
  obtain ⟨cl139, Ar139, q139, S139, M139, H139, G139⟩ := id V136
  have hin139 : ¬ ((0 : Int32) < 0 ∨ cl139.slots.size ≤ ((0 : Int32)).toNatClampNeg) := inb_of S139 ⟨by decide, by decide⟩
  obtain ⟨T139, h139, X139, e139, W139, st139⟩ := stI X136 hx hZ e136 Ar139 (j := (0 : Int32)) hin139 (g := (mkF m 24 #[iv md, iv a, iv b, iv c', iv d, iv x', iv sl, iv same, .unset, .unset, .unset, .unset, .unset, .unset] [(.int a), (.int (0 : Int32)), (.ref b136), (.ref b136)])) rfl rfl (hb hby at_24)
  have V139 : Arv Z h139 b136 k136 .int (4 : Int32) [(.int a), (.int (0 : Int32)), (.int (0 : Int32)), (.int (0 : Int32))] (.int (0 : Int32)) := Arv.set Ar139 q139 S139 M139 H139 G139 rfl W139 0 rfl (Nat.le_of_ble_eq_true rfl)
  have N139 := Fr.snoc X139 N0 ge_b136
  have go140 : own_S p e below ST T139 (mkF m 25 #[iv md, iv a, iv b, iv c', iv d, iv x', iv sl, iv same, .unset, .unset, .unset, .unset, .unset, .unset] [(.ref b136)]) := fun tt kt => go138 tt (st139 _ kt)
  have go141 : own_S p e below ST T139 (mkF m 28 #[iv md, iv a, iv b, iv c', iv d, iv x', iv sl, iv same, .unset, .unset, .unset, .unset, .unset, .unset] [(.int b), (.int (1 : Int32)), (.ref b136), (.ref b136)]) := fun tt kt => go140 tt (by
      refine XS.dup X139.here hx rfl (hb hby at_25) rfl rfl ?_
      refine XS.iconst X139.here hx rfl (hb hby at_26) ?_
      refine XS.iloadN X139.here hx rfl (hb hby at_27) rfl ?_
      exact kt)
  obtain ⟨cl142, Ar142, q142, S142, M142, H142, G142⟩ := id V139
  have hin142 : ¬ ((1 : Int32) < 0 ∨ cl142.slots.size ≤ ((1 : Int32)).toNatClampNeg) := inb_of S142 ⟨by decide, by decide⟩
  obtain ⟨T142, h142, X142, e142, W142, st142⟩ := stI X139 hx hZ e139 Ar142 (j := (1 : Int32)) hin142 (g := (mkF m 28 #[iv md, iv a, iv b, iv c', iv d, iv x', iv sl, iv same, .unset, .unset, .unset, .unset, .unset, .unset] [(.int b), (.int (1 : Int32)), (.ref b136), (.ref b136)])) rfl rfl (hb hby at_28)
  have V142 : Arv Z h142 b136 k136 .int (4 : Int32) [(.int a), (.int b), (.int (0 : Int32)), (.int (0 : Int32))] (.int (0 : Int32)) := Arv.set Ar142 q142 S142 M142 H142 G142 rfl W142 1 rfl (Nat.le_of_ble_eq_true rfl)
  have N142 := Fr.snoc X142 N139 ge_b136
  have go143 : own_S p e below ST T142 (mkF m 29 #[iv md, iv a, iv b, iv c', iv d, iv x', iv sl, iv same, .unset, .unset, .unset, .unset, .unset, .unset] [(.ref b136)]) := fun tt kt => go141 tt (st142 _ kt)
  have go144 : own_S p e below ST T142 (mkF m 32 #[iv md, iv a, iv b, iv c', iv d, iv x', iv sl, iv same, .unset, .unset, .unset, .unset, .unset, .unset] [(.int c'), (.int (2 : Int32)), (.ref b136), (.ref b136)]) := fun tt kt => go143 tt (by
      refine XS.dup X142.here hx rfl (hb hby at_29) rfl rfl ?_
      refine XS.iconst X142.here hx rfl (hb hby at_30) ?_
      refine XS.iloadN X142.here hx rfl (hb hby at_31) rfl ?_
      exact kt)
  obtain ⟨cl145, Ar145, q145, S145, M145, H145, G145⟩ := id V142
  have hin145 : ¬ ((2 : Int32) < 0 ∨ cl145.slots.size ≤ ((2 : Int32)).toNatClampNeg) := inb_of S145 ⟨by decide, by decide⟩
  obtain ⟨T145, h145, X145, e145, W145, st145⟩ := stI X142 hx hZ e142 Ar145 (j := (2 : Int32)) hin145 (g := (mkF m 32 #[iv md, iv a, iv b, iv c', iv d, iv x', iv sl, iv same, .unset, .unset, .unset, .unset, .unset, .unset] [(.int c'), (.int (2 : Int32)), (.ref b136), (.ref b136)])) rfl rfl (hb hby at_32)
  have V145 : Arv Z h145 b136 k136 .int (4 : Int32) [(.int a), (.int b), (.int c'), (.int (0 : Int32))] (.int (0 : Int32)) := Arv.set Ar145 q145 S145 M145 H145 G145 rfl W145 2 rfl (Nat.le_of_ble_eq_true rfl)
  have N145 := Fr.snoc X145 N142 ge_b136
  have go146 : own_S p e below ST T145 (mkF m 33 #[iv md, iv a, iv b, iv c', iv d, iv x', iv sl, iv same, .unset, .unset, .unset, .unset, .unset, .unset] [(.ref b136)]) := fun tt kt => go144 tt (st145 _ kt)
  have go147 : own_S p e below ST T145 (mkF m 37 #[iv md, iv a, iv b, iv c', iv d, iv x', iv sl, iv same, .unset, .unset, .unset, .unset, .unset, .unset] [(.int d), (.int (3 : Int32)), (.ref b136), (.ref b136)]) := fun tt kt => go146 tt (by
      refine XS.dup X145.here hx rfl (hb hby at_33) rfl rfl ?_
      refine XS.iconst X145.here hx rfl (hb hby at_34) ?_
      refine XS.iload X145.here hx rfl (hb hby at_35) rfl ?_
      exact kt)
  obtain ⟨cl148, Ar148, q148, S148, M148, H148, G148⟩ := id V145
  have hin148 : ¬ ((3 : Int32) < 0 ∨ cl148.slots.size ≤ ((3 : Int32)).toNatClampNeg) := inb_of S148 ⟨by decide, by decide⟩
  obtain ⟨T148, h148, X148, e148, W148, st148⟩ := stI X145 hx hZ e145 Ar148 (j := (3 : Int32)) hin148 (g := (mkF m 37 #[iv md, iv a, iv b, iv c', iv d, iv x', iv sl, iv same, .unset, .unset, .unset, .unset, .unset, .unset] [(.int d), (.int (3 : Int32)), (.ref b136), (.ref b136)])) rfl rfl (hb hby at_37)
  have V148 : Arv Z h148 b136 k136 .int (4 : Int32) [(.int a), (.int b), (.int c'), (.int d)] (.int (0 : Int32)) := Arv.set Ar148 q148 S148 M148 H148 G148 rfl W148 3 rfl (Nat.le_of_ble_eq_true rfl)
  have N148 := Fr.snoc X148 N145 ge_b136
  have go149 : own_S p e below ST T148 (mkF m 38 #[iv md, iv a, iv b, iv c', iv d, iv x', iv sl, iv same, .unset, .unset, .unset, .unset, .unset, .unset] [(.ref b136)]) := fun tt kt => go147 tt (st148 _ kt)
  have go150 : own_S p e below ST T148 (mkF m 47 #[iv md, iv a, iv b, iv c', iv d, iv x', iv sl, iv same, rv b136, .unset, .unset, .unset, .unset, .unset] [(.int d), (.int c'), (.int b), (.int a), (.int sl)]) := fun tt kt => go149 tt (by
      refine XS.astore X148.here hx rfl (hb hby at_38) rfl rfl (l' := #[iv md, iv a, iv b, iv c', iv d, iv x', iv sl, iv same, rv b136, .unset, .unset, .unset, .unset, .unset]) rfl ?_
      refine XS.iload X148.here hx rfl (hb hby at_40) rfl ?_
      refine XS.iloadN X148.here hx rfl (hb hby at_42) rfl ?_
      refine XS.iloadN X148.here hx rfl (hb hby at_43) rfl ?_
      refine XS.iloadN X148.here hx rfl (hb hby at_44) rfl ?_
      refine XS.iload X148.here hx rfl (hb hby at_45) rfl ?_
      exact kt)
  have zs152 := (Nat.le_trans (Nat.le_trans (Nat.le_trans (Nat.le_trans (Nat.le_trans Z0 E136.1) (Keep.of_wr W139).1) (Keep.of_wr W142).1) (Keep.of_wr W145).1) (Keep.of_wr W148).1)
  obtain ⟨_, _, ⟨T151, L151, k151, n151⟩, -, X151, ⟨Lc151, hQ151, l151, y151, z151⟩, st151⟩ := Jvm.LawKit.callS X148 hx (y := (⟨"com/example/ruleseer/ruleseer/gdl/CheckMatchPinLaw", "pick", "(IIIII)I"⟩ : MethodName)) hown (mvT hZ (W 1 rfl)) (mvT hZ (W 2 rfl)) (mvT hZ (W 3 rfl)) (mvT hZ (W 4 rfl)) (by decide) (backOf (W := 0) (rm1 l Z a0 hw [] sl a b c' d h148 n0 zs152 ) hZ (W 4 rfl) (W 3 rfl) (by decide) (by decide)) (g := (mkF m 47 #[iv md, iv a, iv b, iv c', iv d, iv x', iv sl, iv same, rv b136, .unset, .unset, .unset, .unset, .unset] [(.int d), (.int c'), (.int b), (.int a), (.int sl)])) rfl (by rw [hml]; rfl) (argsL := [(.int sl), (.int a), (.int b), (.int c'), (.int d)]) (rest := []) (lenOf pd39 rfl) rfl (by show 2 * 0 + _ ≤ _; exact Nat.le_of_eq rfl) (hb hby at_47) (fun _ _ => ⟨rfl, e148, (by decide : 1 + 0 ≤ _), (by decide : 4 + 0 ≤ _)⟩)
  dsimp only [Pt.U, Pt.locs, Pt.cells, Pt.slots] at X151 l151 y151 z151 st151 hQ151
  subst l151 y151 z151
  obtain ⟨rfl, Nq151, eh151⟩ := hQ151
  have N151 := Fr.app N148 Nq151
  have go153 : own_S p e below ST T151 (mkF m 50 #[iv md, iv a, iv b, iv c', iv d, iv x', iv sl, iv same, rv b136, .unset, .unset, .unset, .unset, .unset] [(.int (own_pick sl a b c' d))]) := fun tt kt => go150 tt (st151 _ kt)
  have go154 : own_S p e below ST T151 (mkF m 52 #[iv md, iv a, iv b, iv c', iv d, iv x', iv sl, iv same, rv b136, iv (own_pick sl a b c' d), .unset, .unset, .unset, .unset] []) := fun tt kt => go153 tt (by
      refine XS.istore X151.here hx rfl (hb hby at_50) rfl (l' := #[iv md, iv a, iv b, iv c', iv d, iv x', iv sl, iv same, rv b136, iv (own_pick sl a b c' d), .unset, .unset, .unset, .unset]) rfl ?_
      exact kt)
  obtain ⟨vv, hvv⟩ : ∃ z : Int32, z = (own_pick sl a b c' d) := ⟨_, rfl⟩
  rw [← hvv] at go154
  have go155 : own_S p e below ST T151 (mkF m 54 #[iv md, iv a, iv b, iv c', iv d, iv x', iv sl, iv same, rv b136, iv vv, .unset, .unset, .unset, .unset] [(.int same)]) := fun tt kt => go154 tt (by
      refine XS.iload X151.here hx rfl (hb hby at_52) rfl ?_
      exact kt)
  obtain ⟨id', hid', sg156⟩ : ∃ (id' : Int32), id' = (if same = (0 : Int32) then x' else vv) ∧ ∀ tt, Steps p.tables e below (T151.setTop (mkF m 64 #[iv md, iv a, iv b, iv c', iv d, iv x', iv sl, iv same, rv b136, iv vv, .unset, .unset, .unset, .unset] [(.int id')])) tt → Steps p.tables e below (T151.setTop (mkF m 54 #[iv md, iv a, iv b, iv c', iv d, iv x', iv sl, iv same, rv b136, iv vv, .unset, .unset, .unset, .unset] [(.int same)])) tt := by
    by_cases hd54_0 : same = (0 : Int32)
    · refine ⟨_, (if_pos hd54_0).symm, fun tt kt => ?_⟩
      show Steps p.tables e below (T151.setTop (mkF m 54 #[iv md, iv a, iv b, iv c', iv d, iv x', iv sl, iv same, rv b136, iv vv, .unset, .unset, .unset, .unset] [(.int same)])) _
      refine XS.ifYes X151.here hx rfl (pc0 := 54) (pc' := 62) rfl (hb hby at_54) rfl ((if0 _ _).trans (teq hd54_0).1) (by decide) (by decide) ?_
      refine XS.iload X151.here hx rfl (hb hby at_62) rfl ?_
      exact kt
    · refine ⟨_, (if_neg hd54_0).symm, fun tt kt => ?_⟩
      show Steps p.tables e below (T151.setTop (mkF m 54 #[iv md, iv a, iv b, iv c', iv d, iv x', iv sl, iv same, rv b136, iv vv, .unset, .unset, .unset, .unset] [(.int same)])) _
      refine XS.ifNo X151.here hx rfl (hb hby at_54) rfl ((if0 _ _).trans (feq hd54_0).1) ?_
      refine XS.iload X151.here hx rfl (hb hby at_57) rfl ?_
      refine XS.goto X151.here hx rfl (pc0 := 59) (pc' := 64) rfl (hb hby at_59) (by decide) (by decide) ?_
      exact kt
  have go157 : own_S p e below ST T151 (mkF m 64 #[iv md, iv a, iv b, iv c', iv d, iv x', iv sl, iv same, rv b136, iv vv, .unset, .unset, .unset, .unset] [(.int id')]) := fun tt kt => go155 tt (sg156 _ kt)
  have go158 : own_S p e below ST T151 (mkF m 66 #[iv md, iv a, iv b, iv c', iv d, iv x', iv sl, iv same, rv b136, iv vv, iv id', .unset, .unset, .unset] []) := fun tt kt => go157 tt (by
      refine XS.istore X151.here hx rfl (hb hby at_64) rfl (l' := #[iv md, iv a, iv b, iv c', iv d, iv x', iv sl, iv same, rv b136, iv vv, iv id', .unset, .unset, .unset]) rfl ?_
      exact kt)
  obtain ⟨b159, g159⟩ : ∃ z, z = h148.size := ⟨_, rfl⟩
  obtain ⟨T159, h159, X159, e159, E159, A159, D159, -, st159⟩ := newO X151 hx hZ hown (W 5 rfl) (W 6 rfl) (W 7 rfl) eh151 (g := (mkF m 66 #[iv md, iv a, iv b, iv c', iv d, iv x', iv sl, iv same, rv b136, iv vv, iv id', .unset, .unset, .unset] [])) rfl (hb hby at_66) (by decide) (by decide)
  rw [← g159] at A159 D159 st159
  have neb136_b159 : b136 ≠ b159 := Nat.ne_of_lt (Nat.lt_of_lt_of_le V148.lt (Nat.le_of_eq g159.symm))
  have ge_b159 : n0 ≤ b159 := Nat.le_trans zs152 (Nat.le_of_eq g159.symm)
  have F159_slot : Fld Z h159 b159 "com/example/ruleseer/ruleseer/gdl/Pattern$Check" "slot" "I" (.int (0 : Int32)) := D159 (Or.inr (W 20 rfl)) (ty := .int) (by decide)
  have go160 : own_S p e below ST T159 (mkF m 69 #[iv md, iv a, iv b, iv c', iv d, iv x', iv sl, iv same, rv b136, iv vv, iv id', .unset, .unset, .unset] [(.ref b159)]) := fun tt kt => go158 tt (st159 _ kt)
  have go161 : own_S p e below ST T159 (mkF m 72 #[iv md, iv a, iv b, iv c', iv d, iv x', iv sl, iv same, rv b136, iv vv, iv id', .unset, .unset, .unset] [(.int sl), (.ref b159), (.ref b159)]) := fun tt kt => go160 tt (by
      refine XS.dup X159.here hx rfl (hb hby at_69) rfl rfl ?_
      refine XS.iload X159.here hx rfl (hb hby at_70) rfl ?_
      exact kt)
  have zs163 := (Nat.le_trans zs152 E159.1)
  obtain ⟨_, _, ⟨T162, L162, k162, n162⟩, -, X162, ⟨Lc162, hQ162, l162, y162, z162⟩, st162⟩ := X159.specialBack hx (y := (⟨"com/example/ruleseer/ruleseer/gdl/Pattern$Check", "<init>", "(I)V"⟩ : MethodName)) rfl hown (mvT hZ (W 8 rfl)) (mvT hZ (W 9 rfl)) (mvT hZ (W 10 rfl)) (by decide) (backOf (W := 1) (rm2 l Z a0 hw [] b159 sl _ h159 n0 zs163 F159_slot A159 ge_b159) hZ (W 10 rfl) (W 7 rfl) (by decide) (by decide)) (g := (mkF m 72 #[iv md, iv a, iv b, iv c', iv d, iv x', iv sl, iv same, rv b136, iv vv, iv id', .unset, .unset, .unset] [(.int sl), (.ref b159), (.ref b159)])) rfl (by rw [hml]; rfl) (Steps.refl _) (a := b159) (argsL := [(.int sl)]) (rest := [(.ref b159)]) (lenOf pd40 rfl) rfl (by show 2 * 0 + _ ≤ _; exact Nat.le_of_eq rfl) (hb hby at_72) (fun _ _ => ⟨rfl, e159, (by decide : 2 + 0 ≤ _), (by decide : 5 + 0 ≤ _)⟩)
  dsimp only [Pt.U, Pt.locs, Pt.cells, Pt.slots] at X162 l162 y162 z162 st162 hQ162
  subst l162 y162 z162
  obtain ⟨rfl, Nq162, K162, Fi162⟩ := hQ162
  have N162 := Fr.app N151 Nq162
  have go164 : own_S p e below ST T162 (mkF m 75 #[iv md, iv a, iv b, iv c', iv d, iv x', iv sl, iv same, rv b136, iv vv, iv id', .unset, .unset, .unset] [(.ref b159)]) := fun tt kt => go161 tt (st162.trans kt)
  have go165 : own_S p e below ST T162 (mkF m 77 #[iv md, iv a, iv b, iv c', iv d, iv x', iv sl, iv same, rv b136, iv vv, iv id', rv b159, .unset, .unset] []) := fun tt kt => go164 tt (by
      refine XS.astore X162.here hx rfl (hb hby at_75) rfl rfl (l' := #[iv md, iv a, iv b, iv c', iv d, iv x', iv sl, iv same, rv b136, iv vv, iv id', rv b159, .unset, .unset]) rfl ?_
      exact kt)
  have go166 : own_S p e below ST T162 (mkF m 84 #[iv md, iv a, iv b, iv c', iv d, iv x', iv sl, iv same, rv b136, iv vv, iv id', rv b159, .unset, .unset] [.null, (.ref b136), (.int id'), (.ref b159)]) := fun tt kt => go165 tt (by
      refine XS.aload X162.here hx rfl (hb hby at_77) rfl rfl ?_
      refine XS.iload X162.here hx rfl (hb hby at_79) rfl ?_
      refine XS.aload X162.here hx rfl (hb hby at_81) rfl rfl ?_
      refine XS.aconstNull X162.here hx rfl (hb hby at_83) ?_
      exact kt)
  have f167 := ((V148.ext E159).keep K162 (ninS neb136_b159 nin0))
  have zs169 := (Nat.le_trans zs163 K162.1)
  have f170 := (A159.keep K162)
  obtain ⟨cq168, kq168, q168a, q168b, q168c⟩ := isOf hZ rfl f170
  obtain ⟨_, _, ⟨T168, L168, k168, n168⟩, -, X168, ⟨Lc168, hQ168, l168, y168, z168⟩, st168⟩ := X162.virtualBack hx (y := (⟨"com/example/ruleseer/ruleseer/gdl/Pattern$Check", "match", "(I[ILcom/example/ruleseer/ruleseer/gdl/TermPool;)Z"⟩ : MethodName)) (z := (⟨"com/example/ruleseer/ruleseer/gdl/Pattern$Check", "match", "(I[ILcom/example/ruleseer/ruleseer/gdl/TermPool;)Z"⟩ : MethodName)) hown (mvT hZ (W 21 rfl)) (mvT hZ (W 22 rfl)) (notFace_of_selects (args := #[]) (mvT hZ (W 24 rfl))) (mvT hZ (W 24 rfl)) (mvT hZ (W 23 rfl)) (by decide) (backOf (W := 0) (rm5 l Z a0 hw [] b159 id' b136 sl a b c' d _ T162.heap n0 zs169 Fi162 f167 hsl) hZ (W 25 rfl) (W 7 rfl) (by decide) (by decide)) q168a q168c (g := (mkF m 84 #[iv md, iv a, iv b, iv c', iv d, iv x', iv sl, iv same, rv b136, iv vv, iv id', rv b159, .unset, .unset] [.null, (.ref b136), (.int id'), (.ref b159)])) rfl (by rw [hml]; rfl) (Steps.refl _) (argsL := [(.int id'), (.ref b136), .null]) (rest := []) (lenOf pd41 rfl) rfl (by show 2 * 0 + _ ≤ _; exact Nat.le_of_eq rfl) (hb hby at_84) (fun _ _ => ⟨rfl, rfl, (by decide : 2 + 0 ≤ _), (by decide : 5 + 0 ≤ _)⟩)
  dsimp only [Pt.U, Pt.locs, Pt.cells, Pt.slots] at X168 l168 y168 z168 st168 hQ168
  subst l168 y168 z168
  obtain ⟨rfl, Nq168, eh168⟩ := hQ168
  have N168 := Fr.app N162 Nq168
  have go171 : own_S p e below ST T168 (mkF m 87 #[iv md, iv a, iv b, iv c', iv d, iv x', iv sl, iv same, rv b136, iv vv, iv id', rv b159, .unset, .unset] [(.int (own_same (own_pick sl a b c' d) id'))]) := fun tt kt => go166 tt (st168.trans kt)
  have go172 : own_S p e below ST T168 (mkF m 89 #[iv md, iv a, iv b, iv c', iv d, iv x', iv sl, iv same, rv b136, iv vv, iv id', rv b159, iv (own_same (own_pick sl a b c' d) id'), .unset] []) := fun tt kt => go171 tt (by
      refine XS.istore X168.here hx rfl (hb hby at_87) rfl (l' := #[iv md, iv a, iv b, iv c', iv d, iv x', iv sl, iv same, rv b136, iv vv, iv id', rv b159, iv (own_same (own_pick sl a b c' d) id'), .unset]) rfl ?_
      exact kt)
  have go173 : own_S p e below ST T168 (mkF m 93 #[iv md, iv a, iv b, iv c', iv d, iv x', iv sl, iv same, rv b136, iv vv, iv id', rv b159, iv (own_same (own_pick sl a b c' d) id'), .unset] [(.int id'), (.int vv)]) := fun tt kt => go172 tt (by
      refine XS.iload X168.here hx rfl (hb hby at_89) rfl ?_
      refine XS.iload X168.here hx rfl (hb hby at_91) rfl ?_
      exact kt)
  obtain ⟨ex, hex, sg174⟩ : ∃ (ex : Int32), ex = (if vv = id' then (1 : Int32) else (0 : Int32)) ∧ ∀ tt, Steps p.tables e below (T168.setTop (mkF m 101 #[iv md, iv a, iv b, iv c', iv d, iv x', iv sl, iv same, rv b136, iv vv, iv id', rv b159, iv (own_same (own_pick sl a b c' d) id'), .unset] [(.int ex)])) tt → Steps p.tables e below (T168.setTop (mkF m 93 #[iv md, iv a, iv b, iv c', iv d, iv x', iv sl, iv same, rv b136, iv vv, iv id', rv b159, iv (own_same (own_pick sl a b c' d) id'), .unset] [(.int id'), (.int vv)])) tt := by
    by_cases hd93_0 : vv = id'
    · refine ⟨_, (if_pos hd93_0).symm, fun tt kt => ?_⟩
      show Steps p.tables e below (T168.setTop (mkF m 93 #[iv md, iv a, iv b, iv c', iv d, iv x', iv sl, iv same, rv b136, iv vv, iv id', rv b159, iv (own_same (own_pick sl a b c' d) id'), .unset] [(.int id'), (.int vv)])) _
      refine XS.icmpNo X168.here hx rfl (hb hby at_93) rfl (teq hd93_0).2 ?_
      refine XS.iconst X168.here hx rfl (hb hby at_96) ?_
      refine XS.goto X168.here hx rfl (pc0 := 97) (pc' := 101) rfl (hb hby at_97) (by decide) (by decide) ?_
      exact kt
    · refine ⟨_, (if_neg hd93_0).symm, fun tt kt => ?_⟩
      show Steps p.tables e below (T168.setTop (mkF m 93 #[iv md, iv a, iv b, iv c', iv d, iv x', iv sl, iv same, rv b136, iv vv, iv id', rv b159, iv (own_same (own_pick sl a b c' d) id'), .unset] [(.int id'), (.int vv)])) _
      refine XS.icmpYes X168.here hx rfl (pc0 := 93) (pc' := 100) rfl (hb hby at_93) rfl (feq hd93_0).2 (by decide) (by decide) ?_
      refine XS.iconst X168.here hx rfl (hb hby at_100) ?_
      exact kt
  have go175 : own_S p e below ST T168 (mkF m 101 #[iv md, iv a, iv b, iv c', iv d, iv x', iv sl, iv same, rv b136, iv vv, iv id', rv b159, iv (own_same (own_pick sl a b c' d) id'), .unset] [(.int ex)]) := fun tt kt => go173 tt (sg174 _ kt)
  have hfin : own_same (own_pick sl a b c' d) id' = ex := by rw [hex, hvv]; rfl
  have go176 : own_S p e below ST T168 (mkF m 107 #[iv md, iv a, iv b, iv c', iv d, iv x', iv sl, iv same, rv b136, iv vv, iv id', rv b159, iv (own_same (own_pick sl a b c' d) id'), iv ex] [(.int ex), (.int (own_same (own_pick sl a b c' d) id'))]) := fun tt kt => go175 tt (by
      refine XS.istore X168.here hx rfl (hb hby at_101) rfl (l' := #[iv md, iv a, iv b, iv c', iv d, iv x', iv sl, iv same, rv b136, iv vv, iv id', rv b159, iv (own_same (own_pick sl a b c' d) id'), iv ex]) rfl ?_
      refine XS.iload X168.here hx rfl (hb hby at_103) rfl ?_
      refine XS.iload X168.here hx rfl (hb hby at_105) rfl ?_
      exact kt)
  have go177 : own_S p e below ST T168 (mkF m 112 #[iv md, iv a, iv b, iv c', iv d, iv x', iv sl, iv same, rv b136, iv vv, iv id', rv b159, iv (own_same (own_pick sl a b c' d) id'), iv ex] [(.ref b136)]) := fun tt kt => go176 tt (by
      refine XS.icmpNo X168.here hx rfl (hb hby at_107) rfl (teq hfin).2 ?_
      refine XS.aload X168.here hx rfl (hb hby at_110) rfl rfl ?_
      exact kt)
  obtain ⟨cl178, Ar178, q178, S178, M178, H178, G178⟩ := id f167
  have go179 : own_S p e below ST T168 (mkF m 113 #[iv md, iv a, iv b, iv c', iv d, iv x', iv sl, iv same, rv b136, iv vv, iv id', rv b159, iv (own_same (own_pick sl a b c' d) id'), iv ex] [(.int (4 : Int32))]) := fun tt kt => go177 tt (by
      refine X168.arraylength hx (by rw [eh168]; exact Ar178.1) (State.isArrayOf_alike hZ.alike Ar178.2.1) (g := (mkF m 112 #[iv md, iv a, iv b, iv c', iv d, iv x', iv sl, iv same, rv b136, iv vv, iv id', rv b159, iv (own_same (own_pick sl a b c' d) id'), iv ex] [(.ref b136)])) rfl rfl (hb hby at_112) _ ?_
      rw [len_of S178 M178]
      exact kt)
  have go180 : own_S p e below ST T168 (mkF m 120 #[iv md, iv a, iv b, iv c', iv d, iv x', iv sl, iv same, rv b136, iv vv, iv id', rv b159, iv (own_same (own_pick sl a b c' d) id'), iv ex] [(.int (0 : Int32)), (.ref b136)]) := fun tt kt => go179 tt (by
      refine XS.iconst X168.here hx rfl (hb hby at_113) ?_
      refine XS.icmpNo X168.here hx rfl (hb hby at_114) rfl (teq (by decide : (4 : Int32) = (4 : Int32))).2 ?_
      refine XS.aload X168.here hx rfl (hb hby at_117) rfl rfl ?_
      refine XS.iconst X168.here hx rfl (hb hby at_119) ?_
      exact kt)
  obtain ⟨cl181, Ar181, q181, S181, M181, H181, G181⟩ := id f167
  have hin181 : ¬ ((0 : Int32) < 0 ∨ cl181.slots.size ≤ ((0 : Int32)).toNatClampNeg) := inb_of S181 ⟨by decide, by decide⟩
  have hat181 : cl181.slots[((0 : Int32)).toNatClampNeg]? = some (.int a) := H181.at hin181 rfl
  have go182 : own_S p e below ST T168 (mkF m 121 #[iv md, iv a, iv b, iv c', iv d, iv x', iv sl, iv same, rv b136, iv vv, iv id', rv b159, iv (own_same (own_pick sl a b c' d) id'), iv ex] [(.int a)]) := fun tt kt => go180 tt (by
      refine X168.iaload hx (j := (0 : Int32)) (v := (.int a)) (by rw [eh168]; exact Ar181.1) (State.isArrayOf_alike hZ.alike Ar181.2.1) Ar181.2.2 hin181 hat181 (g := (mkF m 120 #[iv md, iv a, iv b, iv c', iv d, iv x', iv sl, iv same, rv b136, iv vv, iv id', rv b159, iv (own_same (own_pick sl a b c' d) id'), iv ex] [(.int (0 : Int32)), (.ref b136)])) rfl rfl (hb hby at_120) _ ?_
      exact kt)
  have go183 : own_S p e below ST T168 (mkF m 128 #[iv md, iv a, iv b, iv c', iv d, iv x', iv sl, iv same, rv b136, iv vv, iv id', rv b159, iv (own_same (own_pick sl a b c' d) id'), iv ex] [(.int (1 : Int32)), (.ref b136)]) := fun tt kt => go182 tt (by
      refine XS.iloadN X168.here hx rfl (hb hby at_121) rfl ?_
      refine XS.icmpNo X168.here hx rfl (hb hby at_122) rfl (teq (rfl : a = a)).2 ?_
      refine XS.aload X168.here hx rfl (hb hby at_125) rfl rfl ?_
      refine XS.iconst X168.here hx rfl (hb hby at_127) ?_
      exact kt)
  obtain ⟨cl184, Ar184, q184, S184, M184, H184, G184⟩ := id f167
  have hin184 : ¬ ((1 : Int32) < 0 ∨ cl184.slots.size ≤ ((1 : Int32)).toNatClampNeg) := inb_of S184 ⟨by decide, by decide⟩
  have hat184 : cl184.slots[((1 : Int32)).toNatClampNeg]? = some (.int b) := H184.at hin184 rfl
  have go185 : own_S p e below ST T168 (mkF m 129 #[iv md, iv a, iv b, iv c', iv d, iv x', iv sl, iv same, rv b136, iv vv, iv id', rv b159, iv (own_same (own_pick sl a b c' d) id'), iv ex] [(.int b)]) := fun tt kt => go183 tt (by
      refine X168.iaload hx (j := (1 : Int32)) (v := (.int b)) (by rw [eh168]; exact Ar184.1) (State.isArrayOf_alike hZ.alike Ar184.2.1) Ar184.2.2 hin184 hat184 (g := (mkF m 128 #[iv md, iv a, iv b, iv c', iv d, iv x', iv sl, iv same, rv b136, iv vv, iv id', rv b159, iv (own_same (own_pick sl a b c' d) id'), iv ex] [(.int (1 : Int32)), (.ref b136)])) rfl rfl (hb hby at_128) _ ?_
      exact kt)
  have go186 : own_S p e below ST T168 (mkF m 136 #[iv md, iv a, iv b, iv c', iv d, iv x', iv sl, iv same, rv b136, iv vv, iv id', rv b159, iv (own_same (own_pick sl a b c' d) id'), iv ex] [(.int (2 : Int32)), (.ref b136)]) := fun tt kt => go185 tt (by
      refine XS.iloadN X168.here hx rfl (hb hby at_129) rfl ?_
      refine XS.icmpNo X168.here hx rfl (hb hby at_130) rfl (teq (rfl : b = b)).2 ?_
      refine XS.aload X168.here hx rfl (hb hby at_133) rfl rfl ?_
      refine XS.iconst X168.here hx rfl (hb hby at_135) ?_
      exact kt)
  obtain ⟨cl187, Ar187, q187, S187, M187, H187, G187⟩ := id f167
  have hin187 : ¬ ((2 : Int32) < 0 ∨ cl187.slots.size ≤ ((2 : Int32)).toNatClampNeg) := inb_of S187 ⟨by decide, by decide⟩
  have hat187 : cl187.slots[((2 : Int32)).toNatClampNeg]? = some (.int c') := H187.at hin187 rfl
  have go188 : own_S p e below ST T168 (mkF m 137 #[iv md, iv a, iv b, iv c', iv d, iv x', iv sl, iv same, rv b136, iv vv, iv id', rv b159, iv (own_same (own_pick sl a b c' d) id'), iv ex] [(.int c')]) := fun tt kt => go186 tt (by
      refine X168.iaload hx (j := (2 : Int32)) (v := (.int c')) (by rw [eh168]; exact Ar187.1) (State.isArrayOf_alike hZ.alike Ar187.2.1) Ar187.2.2 hin187 hat187 (g := (mkF m 136 #[iv md, iv a, iv b, iv c', iv d, iv x', iv sl, iv same, rv b136, iv vv, iv id', rv b159, iv (own_same (own_pick sl a b c' d) id'), iv ex] [(.int (2 : Int32)), (.ref b136)])) rfl rfl (hb hby at_136) _ ?_
      exact kt)
  have go189 : own_S p e below ST T168 (mkF m 144 #[iv md, iv a, iv b, iv c', iv d, iv x', iv sl, iv same, rv b136, iv vv, iv id', rv b159, iv (own_same (own_pick sl a b c' d) id'), iv ex] [(.int (3 : Int32)), (.ref b136)]) := fun tt kt => go188 tt (by
      refine XS.iloadN X168.here hx rfl (hb hby at_137) rfl ?_
      refine XS.icmpNo X168.here hx rfl (hb hby at_138) rfl (teq (rfl : c' = c')).2 ?_
      refine XS.aload X168.here hx rfl (hb hby at_141) rfl rfl ?_
      refine XS.iconst X168.here hx rfl (hb hby at_143) ?_
      exact kt)
  obtain ⟨cl190, Ar190, q190, S190, M190, H190, G190⟩ := id f167
  have hin190 : ¬ ((3 : Int32) < 0 ∨ cl190.slots.size ≤ ((3 : Int32)).toNatClampNeg) := inb_of S190 ⟨by decide, by decide⟩
  have hat190 : cl190.slots[((3 : Int32)).toNatClampNeg]? = some (.int d) := H190.at hin190 rfl
  have go191 : own_S p e below ST T168 (mkF m 145 #[iv md, iv a, iv b, iv c', iv d, iv x', iv sl, iv same, rv b136, iv vv, iv id', rv b159, iv (own_same (own_pick sl a b c' d) id'), iv ex] [(.int d)]) := fun tt kt => go189 tt (by
      refine X168.iaload hx (j := (3 : Int32)) (v := (.int d)) (by rw [eh168]; exact Ar190.1) (State.isArrayOf_alike hZ.alike Ar190.2.1) Ar190.2.2 hin190 hat190 (g := (mkF m 144 #[iv md, iv a, iv b, iv c', iv d, iv x', iv sl, iv same, rv b136, iv vv, iv id', rv b159, iv (own_same (own_pick sl a b c' d) id'), iv ex] [(.int (3 : Int32)), (.ref b136)])) rfl rfl (hb hby at_144) _ ?_
      exact kt)
  have go192 : own_S p e below ST T168 (mkF m 155 #[iv md, iv a, iv b, iv c', iv d, iv x', iv sl, iv same, rv b136, iv vv, iv id', rv b159, iv (own_same (own_pick sl a b c' d) id'), iv ex] [(.int (1 : Int32))]) := fun tt kt => go191 tt (by
      refine XS.iload X168.here hx rfl (hb hby at_145) rfl ?_
      refine XS.icmpNo X168.here hx rfl (hb hby at_147) rfl (teq (rfl : d = d)).2 ?_
      refine XS.iconst X168.here hx rfl (hb hby at_150) ?_
      refine XS.goto X168.here hx rfl (pc0 := 151) (pc' := 155) rfl (hb hby at_151) (by decide) (by decide) ?_
      exact kt)
  obtain ⟨fs, hr, hrun, hended, hW, hsame⟩ := X168.leave (v := some (.int (1 : Int32))) (fun h => by rw [Bd.returns] at h; cases h)
  refine ⟨_, _, pre0 _ (go192 _ ?_), hrun, hended, _, _, rfl, ?_, ⟨_, rfl⟩, hW, hsame.mono (by decide) (by decide)⟩
  · exact retN X168 hx (t := .boolean) Bd.returns (by simp) (hb hby at_155) hr
  · show Q0 Z md a b c' d x' h0 n0 _ T168.heap _
    rw [eh168]
    exact ⟨rfl, N168⟩
set_option maxRecDepth 65536 in
set_option maxHeartbeats 40000000 in
theorem comes_1 {Post : Tables → Env → Array Value → State → Outcome → State → Prop} (hpost : ∀ tb e args s v u, (limb_1_1.after args s (.returned v) u = true ∧ limb_1_2.after args s (.returned v) u = true ∧ True) → FrameEnd s (.returned v) u (Jvm.fieldLocs frame_1_writes args s ++ Jvm.arrayLocs frame_1_arrays args s ++ Jvm.staticLocs frame_1_statics s) 16 128 → Post tb e args s (.returned v) u) :
    ArmFor flags0 classFile x code maxLocals ret World_1 tables_1 room_1 Calls_1 rest_1 Pre_1 Post := by
  intro l hfl _ _ p e ha hc hk s m args below hf hA hF happ hP
  obtain ⟨hcalls, hrest, hpre⟩ := hP
  obtain ⟨-, -, -, hnamed, -, -, -, hat⟩ := (Spec.applies_iff hf).mp happ
  obtain ⟨hg, hn⟩ := and_e (Cond.before_iff.mp (show (Jvm.Cond.and given_1 narrow_1).before args s = true from hpre))
  obtain ⟨gg1, gg2⟩ := and_e hg
  obtain ⟨gg3, gg4⟩ := and_e gg2
  obtain ⟨gg5, gg6⟩ := and_e gg4
  obtain ⟨gg7, gg8⟩ := and_e gg6
  obtain ⟨gg9, gg10⟩ := and_e gg8
  obtain ⟨gg11, gg12⟩ := and_e gg10
  obtain ⟨w0, w1, w2, w3, w4, w5, rfl⟩ : ∃ w0 w1 w2 w3 w4 w5 : Value, args = #[w0, w1, w2, w3, w4, w5] := by
    have hs : args.size = 6 := by simpa [Cond.value, given_1] using gg1
    obtain ⟨L⟩ := args
    match L, hs with
    | [w0, w1, w2, w3, w4, w5], _ => exact ⟨w0, w1, w2, w3, w4, w5, rfl⟩
  have hw := fun d (hd : d ∈ tables_1) => atoms_spec (ws := Jvm.Cond.code x code maxLocals ret :: tables_1) hat d (List.mem_cons_of_mem _ hd)
  have W : ∀ {d : Jvm.Cond} (i : Nat), tables_1[i]? = some d → d.before _ s = true := fun i h => hw _ (List.mem_of_getElem? h)
  have hfit : Fit s := fun {y c} hc i hi => by
    obtain ⟨ha, rfl⟩ := Array.getElem?_eq_some_iff.mp hc
    have q := List.all_eq_true.mp ((Array.all_eq_true_iff_forall_mem.mp hF) _ (Array.getElem_mem ha)) i (List.mem_range.mpr hi)
    simpa [Array.getElem?_eq_getElem hi] using q
  obtain ⟨i0, ei0⟩ := is_v gg3
  obtain rfl : w0 = (.int i0) := Option.some.inj ei0
  obtain ⟨i1, ei1⟩ := is_v gg5
  obtain rfl : w1 = (.int i1) := Option.some.inj ei1
  obtain ⟨i2, ei2⟩ := is_v gg7
  obtain rfl : w2 = (.int i2) := Option.some.inj ei2
  obtain ⟨i3, ei3⟩ := is_v gg9
  obtain rfl : w3 = (.int i3) := Option.some.inj ei3
  obtain ⟨i4, ei4⟩ := is_v gg11
  obtain rfl : w4 = (.int i4) := Option.some.inj ei4
  obtain ⟨i5, ei5⟩ := is_v gg12
  obtain rfl : w5 = (.int i5) := Option.some.inj ei5
  obtain ⟨n, o, h1, h2, h3, _, L, rfl, ⟨rfl, N⟩, hq⟩ := rm0 l s _ hw tables_1 i0 i1 i2 i3 i4 i5 s.heap s.heap.size (Nat.le_refl _)  p e ha hc hk s m _ below hf ((Spec.applies_iff_loose hf).mp happ).1 ⟨rfl, State.Warmed39.refl s, rfl⟩ trivial
  refine ⟨n, _, h1, h2, h3, hpost _ _ _ _ _ _ ⟨Cond.after_iff.mpr rfl, Cond.after_iff.mpr (eq_i res_at (Term.int_eval (1)) rfl), trivial⟩ ⟨hq.1, hq.2.1, (hq.2.2.sift fun y hy => Or.inr (N y hy)).mono (by decide) (by decide)⟩⟩
theorem main_1_1 : Claimed_1_1 := comes_1 fun _ _ _ _ _ _ h hF => ⟨h.1, hF⟩
theorem main_1_2 : Claimed_1_2 := comes_1 fun _ _ _ _ _ _ h hF => ⟨h.2.1, hF⟩
end Jvm.Pilot.@@N@@
namespace Jvm.Pilot.@@N@@
open Jvm Jvm.ClassFile Sem Op Lib Jvm.Free Jvm.Stand Jvm.Pilot.@@N@@.Jvm.D
/-! MADE BY PROGRAM (witnessworld.py) out of the Statement's table words and the real class files: 11 classes; the members and pool entries that the words name. The judged class is class 1, her method 2. -/
namespace start1
open Jvm.ClassFile
def u (s : String) : CpInfo := .utf8 (stringToUtf16 s)
/-- a pool by its gaps: so many unusable entries, then the entry; so many at the end -/
def gap : Nat → List CpInfo → List CpInfo
  | 0, r => r
  | n + 1, r => .unusable :: gap n r
def poolList (es : List (Nat × CpInfo)) (last : Nat) : List CpInfo := es.foldr (fun e r => gap e.1 (e.2 :: r)) (gap last [])
def pool (es : List (Nat × CpInfo)) (last : Nat) : Array CpInfo := ⟨poolList es last⟩
def fileOf (pool : Array CpInfo) (this : Nat) (attrs : Array Attribute := #[]) (ms : Array MethodInfo := #[]) (fl : Nat := 33) (sup : Nat := 0) (ifs : Array Nat := #[]) (fds : Array FieldInfo := #[]) : ClassFile where
  minorVersion := 0
  majorVersion := 65
  constantPool := pool
  accessFlags := fl
  thisClass := this
  superClass := sup
  interfaces := ifs
  fields := fds
  methods := ms
  attributes := attrs
def plain (name : String) (sup : Option ClassId) : Class where
  name := name
  kind := .ordinary
  loader := none
  accessFlags := 33
  super := sup
  interfaces := #[]
  cf := none
  fields := #[]
  methods := #[]
  instanceTypes := #[]
  staticTypes := #[]
  resolved := #[]
  callSites := []
  init := .initialized
  statics := none
  mirror := none

def pool0 : Array CpInfo := pool [(5, u "<init>"), (0, u "()V"), (1, .class_ 10), (1, u "java/lang/Object")] 113

def k0c0 : Code := { maxStack := 0, maxLocals := 1, code := object_method_1_code, exceptionTable := #[], attributes := #[] }
def k0m0 : Method := { name := "<init>", desc := "()V", sig := { parameters := [], returnType := none }, accessFlags := 1, code := some k0c0 }
/-- java/lang/Object -/
def k0 : Class := { plain "java/lang/Object" none with
  accessFlags := 33
  interfaces := #[]
  cf := some (fileOf pool0 8 #[] #[{ accessFlags := 1, nameIndex := 5, descriptorIndex := 6, attributes := #[] }] 33 0 #[] #[])
  fields := #[]
  methods := #[k0m0]
  instanceTypes := #[]
  staticTypes := #[]
  resolved := Array.replicate 124 none
  statics := none }

def pool1 : Array CpInfo := pool [(2, .class_ 4), (1, u "java/lang/Object"), (0, u "<init>"), (0, u "()V"), (0, .methodref 8 9), (0, .class_ 10), (0, .nameAndType 11 12), (0, u "com/example/ruleseer/ruleseer/gdl/CheckMatchPinLaw"), (0, u "pick"), (0, u "(IIIII)I"), (0, .class_ 14), (0, u "com/example/ruleseer/ruleseer/gdl/Pattern$Check"), (0, .methodref 13 16), (0, .nameAndType 5 17), (0, u "(I)V"), (0, .methodref 13 19), (0, .nameAndType 20 21), (0, u "match"), (0, u "(I[ILcom/example/ruleseer/ruleseer/gdl/TermPool;)Z"), (3, u "law"), (0, u "(IIIIII)Z")] 8

def k1m0 : Method := { name := "<init>", desc := "()V", sig := { parameters := [], returnType := none }, accessFlags := 1, code := none }
def k1c1 : Code := { maxStack := 2, maxLocals := 5, code := method_2_code, exceptionTable := #[], attributes := #[] }
def k1m1 : Method := { name := "pick", desc := "(IIIII)I", sig := { parameters := [.int, .int, .int, .int, .int], returnType := some .int }, accessFlags := 10, code := some k1c1 }
def k1c2 : Code := { maxStack := 5, maxLocals := 14, code := code, exceptionTable := #[], attributes := #[] }
def k1m2 : Method := { name := "law", desc := "(IIIIII)Z", sig := { parameters := [.int, .int, .int, .int, .int, .int], returnType := some .boolean }, accessFlags := 9, code := some k1c2 }
/-- com/example/ruleseer/ruleseer/gdl/CheckMatchPinLaw -/
def k1 : Class := { plain "com/example/ruleseer/ruleseer/gdl/CheckMatchPinLaw" (some 0) with
  accessFlags := 49
  interfaces := #[]
  cf := some (fileOf pool1 8 #[] #[{ accessFlags := 1, nameIndex := 5, descriptorIndex := 6, attributes := #[] }, { accessFlags := 10, nameIndex := 11, descriptorIndex := 12, attributes := #[] }, { accessFlags := 9, nameIndex := 25, descriptorIndex := 26, attributes := #[] }] 49 2 #[] #[])
  fields := #[]
  methods := #[k1m0, k1m1, k1m2]
  instanceTypes := #[]
  staticTypes := #[]
  resolved := Array.replicate 35 none
  statics := none }

def pool2 : Array CpInfo := pool [(1, .methodref 2 3), (0, .class_ 4), (0, .nameAndType 5 6), (0, u "java/lang/Object"), (0, u "<init>"), (0, u "()V"), (0, .class_ 8), (0, u "java/lang/Record")] 13

def k2c0 : Code := { maxStack := 1, maxLocals := 1, code := jdk_30_method_1_code, exceptionTable := #[], attributes := #[] }
def k2m0 : Method := { name := "<init>", desc := "()V", sig := { parameters := [], returnType := none }, accessFlags := 4, code := some k2c0 }
/-- java/lang/Record -/
def k2 : Class := { plain "java/lang/Record" (some 0) with
  accessFlags := 1057
  interfaces := #[]
  cf := some (fileOf pool2 7 #[] #[{ accessFlags := 4, nameIndex := 5, descriptorIndex := 6, attributes := #[] }] 1057 2 #[] #[])
  fields := #[]
  methods := #[k2m0]
  instanceTypes := #[]
  staticTypes := #[]
  resolved := Array.replicate 22 none
  statics := none }

def pool3 : Array CpInfo := pool [(2, .class_ 4), (1, u "com/example/ruleseer/ruleseer/gdl/Pattern"), (30, .class_ 36), (0, u "java/lang/Object"), (23, .class_ 61), (0, u "com/example/ruleseer/ruleseer/gdl/Pattern$Struct"), (0, .class_ 63), (0, u "com/example/ruleseer/ruleseer/gdl/Pattern$Check"), (0, .class_ 65), (0, u "com/example/ruleseer/ruleseer/gdl/Pattern$Bind"), (0, .class_ 67), (0, u "com/example/ruleseer/ruleseer/gdl/Pattern$Ground")] 32

/-- com/example/ruleseer/ruleseer/gdl/Pattern -/
def k3 : Class := { plain "com/example/ruleseer/ruleseer/gdl/Pattern" (some 0) with
  accessFlags := 1536
  interfaces := #[]
  cf := some (fileOf pool3 2 #[.nestMembers #[60, 62, 64, 66]] #[] 1536 35 #[] #[])
  fields := #[]
  methods := #[]
  instanceTypes := #[]
  staticTypes := #[]
  resolved := Array.replicate 100 none
  statics := none }

def pool4 : Array CpInfo := pool [(1, .methodref 2 3), (0, .class_ 4), (0, .nameAndType 5 6), (0, u "java/lang/Record"), (0, u "<init>"), (0, u "()V"), (0, .fieldref 8 9), (0, .class_ 10), (0, .nameAndType 11 12), (0, u "com/example/ruleseer/ruleseer/gdl/Pattern$Check"), (0, u "slot"), (0, u "I"), (12, .class_ 26), (0, u "com/example/ruleseer/ruleseer/gdl/Pattern"), (0, u "(I)V"), (3, u "match"), (0, u "(I[ILcom/example/ruleseer/ruleseer/gdl/TermPool;)Z")] 34

def k4c0 : Code := { maxStack := 2, maxLocals := 2, code := prog_77_method_1_code, exceptionTable := #[], attributes := #[] }
def k4m0 : Method := { name := "<init>", desc := "(I)V", sig := { parameters := [.int], returnType := none }, accessFlags := 1, code := some k4c0 }
def k4c1 : Code := { maxStack := 2, maxLocals := 4, code := prog_77_method_2_code, exceptionTable := #[], attributes := #[] }
def k4m1 : Method := { name := "match", desc := "(I[ILcom/example/ruleseer/ruleseer/gdl/TermPool;)Z", sig := { parameters := [.int, (.array .int), (.object "com/example/ruleseer/ruleseer/gdl/TermPool")], returnType := some .boolean }, accessFlags := 1, code := some k4c1 }
/-- com/example/ruleseer/ruleseer/gdl/Pattern$Check -/
def k4 : Class := { plain "com/example/ruleseer/ruleseer/gdl/Pattern$Check" (some 2) with
  accessFlags := 49
  interfaces := #[3]
  cf := some (fileOf pool4 8 #[.nestHost 25] #[{ accessFlags := 1, nameIndex := 5, descriptorIndex := 27, attributes := #[] }, { accessFlags := 1, nameIndex := 31, descriptorIndex := 32, attributes := #[] }] 49 2 #[25] #[{ accessFlags := 18, nameIndex := 11, descriptorIndex := 12, attributes := #[] }])
  fields := #[{ name := "slot", type := .int, accessFlags := 18, slot := 0, constantValue := 0 }]
  methods := #[k4m0, k4m1]
  instanceTypes := #[.int]
  staticTypes := #[]
  resolved := Array.replicate 67 none
  statics := none }

def pool5 : Array CpInfo := pool [(1, u "java/lang/Cloneable"), (0, .class_ 1), (0, u "java/lang/Object"), (0, .class_ 3)] 3

/-- java/lang/Cloneable -/
def k5 : Class := { plain "java/lang/Cloneable" (some 0) with
  accessFlags := 1537
  interfaces := #[]
  cf := some (fileOf pool5 2 #[] #[] 1537 4 #[] #[])
  fields := #[]
  methods := #[]
  instanceTypes := #[]
  staticTypes := #[]
  resolved := Array.replicate 8 none
  statics := none }

def pool6 : Array CpInfo := pool [(1, u "java/io/Serializable"), (0, .class_ 1), (0, u "java/lang/Object"), (0, .class_ 3)] 3

/-- java/io/Serializable -/
def k6 : Class := { plain "java/io/Serializable" (some 0) with
  accessFlags := 1537
  interfaces := #[]
  cf := some (fileOf pool6 2 #[] #[] 1537 4 #[] #[])
  fields := #[]
  methods := #[]
  instanceTypes := #[]
  staticTypes := #[]
  resolved := Array.replicate 8 none
  statics := none }

/-- the primitive byte -/
def k7 : Class := { plain "byte" none with kind := .primitive 'B', accessFlags := 0x411 }
/-- [B -/
def k8 : Class := { plain "[B" (some 0) with kind := .array 7 .byte, interfaces := #[5, 6], accessFlags := 1041 }

/-- the primitive int -/
def k9 : Class := { plain "int" none with kind := .primitive 'I', accessFlags := 0x411 }
/-- [I -/
def k10 : Class := { plain "[I" (some 0) with kind := .array 9 .int, interfaces := #[5, 6], accessFlags := 1041 }

def heap : Heap := #[]
def classes : Array Class := #[k0, k1, k2, k3, k4, k5, k6, k7, k8, k9, k10]
def interned : List (Array UInt16 × Addr) := []
def slotsUsed : Nat := 0
def theMethod : MethodId := ⟨1, 2⟩
def args0 : Array Value := #[.int 5, .int 1, .int 2, .int 3, .int 4, .int 9]
def aboutOver (below : List Frame) : State where
  vm := { classes := classes, interned := interned.toArray }
  heap := heap
  slotsUsed := slotsUsed
  threads := #[{ frames := .invoking theMethod args0 :: below }]
def below0 : List Frame := [.native { method := ⟨0, 0⟩, args := #[] }]
def about1 : State := aboutOver below0
def p0 : Program := .bare "" "" ""
def e0 : Env := launch0.env 0 0 0
theorem w_frames : about1.frames = Frame.invoking theMethod args0 :: below0 := rfl
set_option maxRecDepth 65536 in
theorem w_args : argsFit about1.vm theMethod args0 = true := by decide +kernel
set_option maxRecDepth 65536 in
theorem w_heap : heapFits about1 = true := by decide +kernel
set_option maxRecDepth 65536 in
theorem w_runnable : about1.curStatus? = some .runnable := by decide +kernel
set_option maxRecDepth 65536 in
theorem w_alone : about1.alone = true := by decide +kernel
set_option maxRecDepth 65536 in
theorem w_named : about1.methodNamed? x = some theMethod := by decide +kernel
set_option maxRecDepth 65536 in
theorem w_hears : about1.hears theMethod below0 = true := by decide +kernel
set_option maxRecDepth 65536 in
theorem w_ripe : about1.ripe theMethod args0 below0 = true := by decide +kernel
theorem w_running : about1.status = .running := rfl
set_option maxRecDepth 65536 in
theorem w_room : about1.hasRoom e0.platform room_1 = true :=
  launch0.hasRoom_least _ room_1 (by decide +kernel) (by decide +kernel) (by decide +kernel) (by decide +kernel) (by decide +kernel) (by decide +kernel)
theorem allAtoms_all (ts : List Jvm.Cond) (a : Array Jvm.Value) (st : Jvm.State) : (allAtoms ts).before a st = ts.all (fun c => c.before a st) := by
  induction ts with
  | nil => rfl
  | cons c t ih =>
    show (Jvm.Cond.and c (allAtoms t)).before a st = _
    rw [Jvm.Cond.before_and, ih, List.all_cons]
def words1 : List Jvm.Cond := Jvm.Cond.code x code maxLocals ret :: tables_1
/-- a 'code' word, met by the world's own term for the bytes: nothing is compared byte by byte -/
theorem code_word {y : MethodName} {bytes : ByteArray} {mx : Nat} {rt : Option FieldType} {a : Array Value} {s : State} {m : MethodId} {meth : Method} {c : Code} (h1 : s.methodNamed? y = some m) (h2 : s.vm.method? m = some meth) (h3 : meth.code = some c) (h4 : c.code = bytes)
    (h5 : (c.maxLocals == mx && c.exceptionTable.isEmpty && decide (c.maxStack ≤ mostOperands) && decide (meth.sig.returnType = rt) && !meth.locks && decide (parseMethodDescriptor y.desc = some meth.sig)) = true) : (Jvm.Cond.code y bytes mx rt).before a s = true := by
  simp only [Bool.and_eq_true, beq_iff_eq, Bool.not_eq_true', decide_eq_true_eq] at h5
  obtain ⟨⟨⟨⟨⟨g1, g2⟩, g3⟩, g4⟩, g5⟩, g6⟩ := h5
  simp [Cond.before, Cond.holds, Cond.value, h1, h2, h3, h4, g1, g2, g3, g4, g5, g6]
def isCode : Jvm.Cond → Bool
  | .code _ _ _ _ => true
  | _ => false
theorem all_split {L : List Jvm.Cond} {P : Jvm.Cond → Bool} (h1 : L.all (fun c => isCode c || P c) = true) (h2 : ∀ c ∈ L.filter isCode, P c = true) : L.all P = true := by
  refine List.all_eq_true.mpr fun c hc => ?_
  have h := List.all_eq_true.mp h1 c hc
  rcases Bool.eq_false_or_eq_true (isCode c) with hi | hi
  · exact h2 c (List.mem_filter.mpr ⟨hc, hi⟩)
  · simpa [hi] using h
set_option maxRecDepth 65536 in
theorem w_c0 : (Jvm.Cond.code x code maxLocals ret).before args0 about1 = true := code_word (m := ⟨1, 2⟩) (meth := k1m2) (c := k1c2) (by decide +kernel) rfl rfl rfl (by decide +kernel)
set_option maxRecDepth 65536 in
theorem w_c1 : (Jvm.Cond.code ({ cls := "com/example/ruleseer/ruleseer/gdl/CheckMatchPinLaw", name := "pick", desc := "(IIIII)I" } : Jvm.MethodName) method_2_code (5 : Nat) (Option.some Jvm.ClassFile.FieldType.int)).before args0 about1 = true := code_word (m := ⟨1, 1⟩) (meth := k1m1) (c := k1c1) (by decide +kernel) rfl rfl rfl (by decide +kernel)
set_option maxRecDepth 65536 in
theorem w_c2 : (Jvm.Cond.code ({ cls := "com/example/ruleseer/ruleseer/gdl/Pattern$Check", name := "<init>", desc := "(I)V" } : Jvm.MethodName) prog_77_method_1_code (2 : Nat) (Option.none : Option Jvm.ClassFile.FieldType)).before args0 about1 = true := code_word (m := ⟨4, 0⟩) (meth := k4m0) (c := k4c0) (by decide +kernel) rfl rfl rfl (by decide +kernel)
set_option maxRecDepth 65536 in
theorem w_c3 : (Jvm.Cond.code ({ cls := "java/lang/Record", name := "<init>", desc := "()V" } : Jvm.MethodName) jdk_30_method_1_code (1 : Nat) (Option.none : Option Jvm.ClassFile.FieldType)).before args0 about1 = true := code_word (m := ⟨2, 0⟩) (meth := k2m0) (c := k2c0) (by decide +kernel) rfl rfl rfl (by decide +kernel)
set_option maxRecDepth 65536 in
theorem w_c4 : (Jvm.Cond.code ({ cls := "java/lang/Object", name := "<init>", desc := "()V" } : Jvm.MethodName) object_method_1_code (1 : Nat) (Option.none : Option Jvm.ClassFile.FieldType)).before args0 about1 = true := code_word (m := ⟨0, 0⟩) (meth := k0m0) (c := k0c0) (by decide +kernel) rfl rfl rfl (by decide +kernel)
set_option maxRecDepth 65536 in
theorem w_c5 : (Jvm.Cond.code ({ cls := "com/example/ruleseer/ruleseer/gdl/Pattern$Check", name := "match", desc := "(I[ILcom/example/ruleseer/ruleseer/gdl/TermPool;)Z" } : Jvm.MethodName) prog_77_method_2_code (4 : Nat) (Option.some Jvm.ClassFile.FieldType.boolean)).before args0 about1 = true := code_word (m := ⟨4, 1⟩) (meth := k4m1) (c := k4c1) (by decide +kernel) rfl rfl rfl (by decide +kernel)
def codes1 : List Jvm.Cond := [Jvm.Cond.code x code maxLocals ret, Jvm.Cond.code ({ cls := "com/example/ruleseer/ruleseer/gdl/CheckMatchPinLaw", name := "pick", desc := "(IIIII)I" } : Jvm.MethodName) method_2_code (5 : Nat) (Option.some Jvm.ClassFile.FieldType.int), Jvm.Cond.code ({ cls := "com/example/ruleseer/ruleseer/gdl/Pattern$Check", name := "<init>", desc := "(I)V" } : Jvm.MethodName) prog_77_method_1_code (2 : Nat) (Option.none : Option Jvm.ClassFile.FieldType), Jvm.Cond.code ({ cls := "java/lang/Record", name := "<init>", desc := "()V" } : Jvm.MethodName) jdk_30_method_1_code (1 : Nat) (Option.none : Option Jvm.ClassFile.FieldType), Jvm.Cond.code ({ cls := "java/lang/Object", name := "<init>", desc := "()V" } : Jvm.MethodName) object_method_1_code (1 : Nat) (Option.none : Option Jvm.ClassFile.FieldType), Jvm.Cond.code ({ cls := "com/example/ruleseer/ruleseer/gdl/Pattern$Check", name := "match", desc := "(I[ILcom/example/ruleseer/ruleseer/gdl/TermPool;)Z" } : Jvm.MethodName) prog_77_method_2_code (4 : Nat) (Option.some Jvm.ClassFile.FieldType.boolean)]
set_option maxRecDepth 65536 in
theorem codes_eq : words1.filter isCode = codes1 := rfl
theorem w_codes : ∀ c ∈ words1.filter isCode, c.before args0 about1 = true := by
  rw [codes_eq]
  intro c hc
  simp only [codes1, List.mem_cons, List.not_mem_nil, or_false] at hc
  rcases hc with rfl | rfl | rfl | rfl | rfl | rfl
  · exact w_c0
  · exact w_c1
  · exact w_c2
  · exact w_c3
  · exact w_c4
  · exact w_c5
set_option maxRecDepth 65536 in
theorem w_t1 : (words1.take 24).all (fun c => isCode c || c.before args0 about1) = true := by decide +kernel
set_option maxRecDepth 65536 in
theorem w_t2 : (words1.drop 24).all (fun c => isCode c || c.before args0 about1) = true := by decide +kernel
theorem w_tables : (allAtoms (Jvm.Cond.code x code maxLocals ret :: tables_1)).before args0 about1 = true := by
  rw [allAtoms_all]
  show words1.all (fun c => c.before args0 about1) = true
  refine all_split ?_ w_codes
  rw [← List.take_append_drop 24 words1, List.all_append, w_t1, w_t2]
  rfl
set_option maxRecDepth 65536 in
theorem w_case : (Jvm.Cond.and given_1 narrow_1).before args0 about1 = true := by decide +kernel
theorem w_applies : (headSpec (Jvm.Cond.code x code maxLocals ret :: tables_1) room_1).applies x e0.platform about1 = true :=
  (Spec.applies_iff w_frames).mpr ⟨w_running, w_runnable, w_alone, w_named, w_hears, w_ripe, w_room, w_tables⟩
theorem atStart : AtStart classFile x code maxLocals ret World_1 tables_1 room_1 Calls_1 rest_1 Pre_1 launch0 p0 e0 about1 theMethod args0 below0 :=
  ⟨lists_1, trivial, launch0.admits_env _ _ _, launch0.least_env, fairChoices_fair.cas, fairChoices_fair.clock, w_frames, w_args, w_heap, w_applies, trivial, trivial, w_case⟩
end start1
theorem witness_1 : WitnessClaimed_1 := ⟨start1.p0, start1.e0, start1.about1, start1.theMethod, start1.args0, start1.below0, start1.atStart⟩
end Jvm.Pilot.@@N@@
