import JvmDerived
import JvmDerived.Pilot.@@N@@Statement
import JvmDerived.Pilot.@@N@@Code
set_option linter.unusedVariables false
set_option linter.unusedSimpArgs false
namespace Jvm.RoadKit
open Sem ClassFile Op Lib Jvm.Stand Jvm.Free Jvm.LawKit
section New
variable {p : Program} {l : Launch} {e : Env} {R : Room} {s : State} {m : MethodId} {args : Array Value} {below : List Frame} {meth : Method} {c : Code} {T : State} {locs : List Loc} {cells slots : Nat}
theorem retI (X : Stand p l e R s m args below meth c T locs cells slots) (hx : p.tables.exec = Jvm.exec) {pc : Nat} {Ls : Array Slot} {z : Int32} {rest : List Value} (hret : meth.sig.returnType = some .int) (hd : decode c.code pc = .ok (.ireturn, 1)) {fs : List Frame}
    (hl : ∀ (f : JFrame) (acts : List Action), f.method = m → f.locked = none → f.entered = [] → (doReturn e (T.setTop f) acts (some (.int z))).1 = T.setFrames fs) : Steps p.tables e below (T.setTop (mkF m pc Ls (.int z :: rest))) (T.setFrames fs) := by
  have hm' : T.vm.method? m = some meth := X.method'
  have hn : narrow .int (.int z) = .int z := rfl
  show Steps p.tables e below (T.setTop { method := m, pc := pc, locals := Ls, stack := _ :: rest, locked := none }) _
  jvm_step X.here [X.here.top, hx, hd, hm', hret, hn]
  first | (intro acts; rw [hl _ acts rfl rfl rfl]) | rw [hl _ _ rfl rfl rfl]
  exact Steps.refl _
end New
end Jvm.RoadKit
namespace Jvm.Pilot.@@N@@
open Jvm Jvm.ClassFile Sem Op Lib Jvm.Free Jvm.Stand Jvm.LawKit Jvm.RoadKit Bundle Jvm.Pilot.@@N@@.Jvm.D
abbrev own_S (p : Program) (e : Env) (below : List Frame) (S T : State) (f : JFrame) : Prop := ∀ tt, Steps p.tables e below (T.setTop f) tt → Steps p.tables e below S tt
def own_lt (x y : Int32) : Int32 := if x < y then 1 else 0
theorem own_nb {p : Prop} [Decidable p] : nar .boolean (if p then (1 : Int32) else 0) = if p then 1 else 0 := by split <;> rfl
theorem own_self (x : Int32) : own_lt x x = 0 := by
  unfold own_lt; rw [if_neg]; rw [Int32.lt_iff_toInt_lt]; omega
theorem own_up (x : Int32) (h : ¬ x = 2147483647) : ¬ own_lt x (x + 1) = 0 := by
  have e1 : (1 : Int32).toInt = 1 := rfl
  have em : (2147483647 : Int32).toInt = 2147483647 := rfl
  have a := c_iadd x 1
  have r := rng32 (x + 1)
  have r' := rng32 x
  rw [← Int32.toInt_inj] at h
  unfold own_lt; rw [if_pos]
  · decide
  · rw [Int32.lt_iff_toInt_lt]; omega
theorem own_exp (s n ex : Int32) (h : ex = if (0 : Int32) < lcmpW (n.toInt64 - s.toInt64) 0 then 1 else 0) : own_lt s n = ex := by
  rw [h]; unfold own_lt
  have e0 : (0 : Int64).toInt = 0 := rfl
  have a := c_lsub n.toInt64 s.toInt64
  have r := rng64 (n.toInt64 - s.toInt64)
  have a1 := c_i2l n
  have a2 := c_i2l s
  have r1 := rng32 n
  have r2 := rng32 s
  have k : (0 : Int32) < lcmpW (n.toInt64 - s.toInt64) 0 ↔ s < n := by rw [lw_gt, Int64.lt_iff_toInt_lt, Int32.lt_iff_toInt_lt]; omega
  simp only [k]
theorem pn0 : plainName "java/lang/Record" = true := by first | (simp [plainName, overriddenIn]; done) | decide +kernel
theorem d2_0 : decode jdk_30_method_1_code 0 = .ok (.aload_n 0, 1) := by decide +kernel
theorem d2_1 : decode jdk_30_method_1_code 1 = .ok (.invokespecial 1, 3) := by decide +kernel
theorem d2_4 : decode jdk_30_method_1_code 4 = .ok (.return_, 1) := by decide +kernel
theorem ef2 (m : MethodId) (x0 : Addr) : entryFrame m #[(.ref x0)] 1 = mkF m 0 #[.val (.ref x0)] [] := by first | (simp [entryFrame, mkF, argsToLocals, Value.category]; done) | rfl
def Q2 (Z : State) (o1 : Addr) (h0 : Heap) (n0 : Nat) (v : Option Value) (h : Heap) (L : List Loc) : Prop := v = none ∧ Fr n0 L ∧ h = h0
set_option maxRecDepth 65536 in
set_option maxHeartbeats 40000000 in
theorem rm2 (l : Launch) (Z : State) (a0 : Array Value) (hw : ∀ d ∈ tables_1, d.before a0 Z = true) (ws : List Jvm.Cond) (o1 : Addr) (h0 : Heap) (n0 : Nat) (Z0 : n0 ≤ h0.size) :
    MetFree l (⟨"java/lang/Record", "<init>", "()V"⟩ : MethodName) (head1 (Jvm.Cond.code (⟨"java/lang/Record", "<init>", "()V"⟩ : MethodName) jdk_30_method_1_code 1 none :: ws) ({ frames := 1, cells := 0, slots := 0, locals := 12 } : Room)) (fun a U => a = #[(.ref o1)] ∧ Z.Warmed39 U.vm ∧ U.heap = h0) (fun _ _ _ _ _ => True) (fun _ U o U' => ∃ v L, o = .returned v ∧ Q2 Z o1 h0 n0 v U'.heap L ∧ FrameEnd U o U' L ({ frames := 1, cells := 0, slots := 0, locals := 12 } : Room).cells ({ frames := 1, cells := 0, slots := 0, locals := 12 } : Room).slots) := by
  have W : ∀ {d : Jvm.Cond} (i : Nat), tables_1[i]? = some d → d.before a0 Z = true := fun i h => hw _ (List.mem_of_getElem? h)
  refine MetFree.of_bodySF (plainFor_of_name pn0) hisR ?_
  intro p e s m args below meth c s₁ Bd hml0 hP hK
  obtain ⟨rfl, hZ, hh⟩ := hP
  have hx := Bd.exec
  have hby := Bd.bytes
  have hml : c.maxLocals = 1 := hml0
  have hown : s.vm.findClass "java/lang/Record" = some m.cls := findClass_of_methodNamed Bd.named
  have hnm := (name_of_methodNamed Bd.named Bd.method).1
  have X0 : Stand p l e ({ frames := 1, cells := 0, slots := 0, locals := 12 } : Room) s m #[(.ref o1)] below meth c s₁ [] 0 0 := Stand.of_body Bd
  have e0 : s₁.heap = h0 := by rw [← hh, Bd.state]; rfl
  have N0 := Fr.nil n0
  have pre0 : ∀ tt, Steps p.tables e below (s₁.setTop (mkF m 0 #[rv o1] [])) tt → Steps p.tables e below (s₁.setTop (entryFrame m #[(.ref o1)] 1)) tt := fun tt kt => castTop (ef2 m o1) kt
  obtain ⟨ST, hST⟩ : ∃ z : State, z = s₁.setTop (mkF m 0 #[rv o1] []) := ⟨_, rfl⟩
  rw [← hST] at pre0
  have go101 : own_S p e below ST s₁ (mkF m 1 #[rv o1] [(.ref o1)]) := fun tt kt => (by
      rw [hST]
      show Steps p.tables e below (s₁.setTop (mkF m 0 #[rv o1] [])) _
      refine XS.aloadN X0.here hx rfl (hb hby d2_0) rfl rfl ?_
      exact kt)
  obtain ⟨T102, X102, e102, st102⟩ := initO X0 hx hZ hown (W 11 rfl) (W 12 rfl) (W 13 rfl) e0 (g := (mkF m 1 #[rv o1] [(.ref o1)])) rfl (by rw [hml]; rfl) rfl (hb hby d2_1) (by decide) (W := 0) (by show 2 * 0 + _ ≤ _; exact Nat.le_of_eq rfl) (by decide)
  have go103 : own_S p e below ST T102 (mkF m 4 #[rv o1] []) := fun tt kt => go101 tt (st102 _ kt)
  obtain ⟨fs, hr, hrun, hended, hW, hsame⟩ := X102.leave (v := none) (fun _ => rfl)
  refine ⟨_, _, pre0 _ (go103 _ ?_), hrun, hended, _, _, rfl, ?_, ⟨_, rfl⟩, hW, hsame.mono (by decide) (by decide)⟩
  · exact X102.returnOut hx Bd.returns (hb hby d2_4) hr
  · show Q2 Z o1 h0 n0 _ T102.heap _
    rw [e102]
    exact ⟨rfl, N0, rfl⟩
theorem pn4 : plainName "com/example/ruleseer/ruleseer/gdl/Pattern$Check" = true := by first | (simp [plainName, overriddenIn]; done) | decide +kernel
theorem d6_0 : decode prog_77_method_1_code 0 = .ok (.aload_n 0, 1) := by decide +kernel
theorem d6_1 : decode prog_77_method_1_code 1 = .ok (.invokespecial 1, 3) := by decide +kernel
theorem pd7 : parseMethodDescriptor "()V" = some ⟨[], none⟩ := by decide +kernel
theorem d6_4 : decode prog_77_method_1_code 4 = .ok (.aload_n 0, 1) := by decide +kernel
theorem d6_5 : decode prog_77_method_1_code 5 = .ok (.iload_n 1, 1) := by decide +kernel
theorem d6_6 : decode prog_77_method_1_code 6 = .ok (.putfield 7, 3) := by decide +kernel
theorem d6_9 : decode prog_77_method_1_code 9 = .ok (.return_, 1) := by decide +kernel
theorem ef6 (m : MethodId) (x0 : Addr) (x1 : Int32) : entryFrame m #[(.ref x0), (.int x1)] 2 = mkF m 0 #[.val (.ref x0), .val (.int x1)] [] := by first | (simp [entryFrame, mkF, argsToLocals, Value.category]; done) | rfl
def Q6 (Z : State) (o1 : Addr) (p1 : Int32) (u1 : Value) (h0 : Heap) (n0 : Nat) (v : Option Value) (h : Heap) (L : List Loc) : Prop := v = none ∧ Fr n0 L ∧ Keep h0 h [o1] ∧ Fld Z h o1 "com/example/ruleseer/ruleseer/gdl/Pattern$Check" "slot" "I" (.int p1)
set_option maxRecDepth 65536 in
set_option maxHeartbeats 40000000 in
theorem rm6 (l : Launch) (Z : State) (a0 : Array Value) (hw : ∀ d ∈ tables_1, d.before a0 Z = true) (ws : List Jvm.Cond) (o1 : Addr) (p1 : Int32) (u1 : Value) (h0 : Heap) (n0 : Nat) (Z0 : n0 ≤ h0.size) (F1 : Fld Z h0 o1 "com/example/ruleseer/ruleseer/gdl/Pattern$Check" "slot" "I" u1) (E1 : Exa Z h0 o1 "com/example/ruleseer/ruleseer/gdl/Pattern$Check") (g1 : n0 ≤ o1) :
    MetFree l (⟨"com/example/ruleseer/ruleseer/gdl/Pattern$Check", "<init>", "(I)V"⟩ : MethodName) (head1 (Jvm.Cond.code (⟨"com/example/ruleseer/ruleseer/gdl/Pattern$Check", "<init>", "(I)V"⟩ : MethodName) prog_77_method_1_code 2 none :: ws) ({ frames := 2, cells := 0, slots := 0, locals := 24 } : Room)) (fun a U => a = #[(.ref o1), (.int p1)] ∧ Z.Warmed39 U.vm ∧ U.heap = h0) (fun _ _ _ _ _ => True) (fun _ U o U' => ∃ v L, o = .returned v ∧ Q6 Z o1 p1 u1 h0 n0 v U'.heap L ∧ FrameEnd U o U' L ({ frames := 2, cells := 0, slots := 0, locals := 24 } : Room).cells ({ frames := 2, cells := 0, slots := 0, locals := 24 } : Room).slots) := by
  have W : ∀ {d : Jvm.Cond} (i : Nat), tables_1[i]? = some d → d.before a0 Z = true := fun i h => hw _ (List.mem_of_getElem? h)
  refine MetFree.of_bodySF (plainFor_of_name pn4) hisR ?_
  intro p e s m args below meth c s₁ Bd hml0 hP hK
  obtain ⟨rfl, hZ, hh⟩ := hP
  have hx := Bd.exec
  have hby := Bd.bytes
  have hml : c.maxLocals = 2 := hml0
  have hown : s.vm.findClass "com/example/ruleseer/ruleseer/gdl/Pattern$Check" = some m.cls := findClass_of_methodNamed Bd.named
  have hnm := (name_of_methodNamed Bd.named Bd.method).1
  have X0 : Stand p l e ({ frames := 2, cells := 0, slots := 0, locals := 24 } : Room) s m #[(.ref o1), (.int p1)] below meth c s₁ [] 0 0 := Stand.of_body Bd
  have e0 : s₁.heap = h0 := by rw [← hh, Bd.state]; rfl
  have N0 := Fr.nil n0
  have pre0 : ∀ tt, Steps p.tables e below (s₁.setTop (mkF m 0 #[rv o1, iv p1] [])) tt → Steps p.tables e below (s₁.setTop (entryFrame m #[(.ref o1), (.int p1)] 2)) tt := fun tt kt => castTop (ef6 m o1 p1) kt
  obtain ⟨ST, hST⟩ : ∃ z : State, z = s₁.setTop (mkF m 0 #[rv o1, iv p1] []) := ⟨_, rfl⟩
  rw [← hST] at pre0
  have KC0 : Keep h0 h0 [o1] := Keep.refl h0 [o1]
  have go104 : own_S p e below ST s₁ (mkF m 1 #[rv o1, iv p1] [(.ref o1)]) := fun tt kt => (by
      rw [hST]
      show Steps p.tables e below (s₁.setTop (mkF m 0 #[rv o1, iv p1] [])) _
      refine XS.aloadN X0.here hx rfl (hb hby d6_0) rfl rfl ?_
      exact kt)
  obtain ⟨_, _, ⟨T105, L105, k105, n105⟩, -, X105, ⟨Lc105, hQ105, l105, y105, z105⟩, st105⟩ := X0.specialBack hx (y := (⟨"java/lang/Record", "<init>", "()V"⟩ : MethodName)) rfl hown (mvT hZ (W 33 rfl)) (mvT hZ (W 7 rfl)) (mvT hZ (W 10 rfl)) (by decide) (backOf (W := 0) (rm2 l Z a0 hw [] o1 h0 n0 Z0 ) hZ (W 10 rfl) (W 9 rfl) (by decide) (by decide)) (g := (mkF m 1 #[rv o1, iv p1] [(.ref o1)])) rfl (by rw [hml]; rfl) (Steps.refl _) (a := o1) (argsL := []) (rest := []) (lenOf pd7 rfl) rfl (by show 2 * 0 + _ ≤ _; exact Nat.le_of_eq rfl) (hb hby d6_1) (fun _ _ => ⟨rfl, e0, (by decide : 0 + 0 ≤ _), (by decide : 0 + 0 ≤ _)⟩)
  dsimp only [Pt.U, Pt.locs, Pt.cells, Pt.slots] at X105 l105 y105 z105 st105 hQ105
  subst l105 y105 z105
  obtain ⟨rfl, Nq105, eh105⟩ := hQ105
  have N105 := Fr.app N0 Nq105
  have go106 : own_S p e below ST T105 (mkF m 4 #[rv o1, iv p1] []) := fun tt kt => go104 tt (st105.trans kt)
  have go107 : own_S p e below ST T105 (mkF m 6 #[rv o1, iv p1] [(.int p1), (.ref o1)]) := fun tt kt => go106 tt (by
      refine XS.aloadN X105.here hx rfl (hb hby d6_4) rfl rfl ?_
      refine XS.iloadN X105.here hx rfl (hb hby d6_5) rfl ?_
      exact kt)
  obtain ⟨T108, h108, X108, e108, W108, st108⟩ := putF X105 hx hZ hown (host := "") (Or.inl (W 34 rfl)) Via.refl eh105 F1 E1 (Or.inr ⟨(W 35 rfl), rfl, hnm⟩) (W 28 rfl) (ty := .int) (by decide) rfl rfl (g := (mkF m 6 #[rv o1, iv p1] [(.int p1), (.ref o1)])) rfl rfl (hb hby d6_6)
  have Fw108 := F1.same W108
  have N108 := Fr.snoc X108 N105 g1
  have go109 : own_S p e below ST T108 (mkF m 9 #[rv o1, iv p1] []) := fun tt kt => go107 tt (st108 _ kt)
  have KC108 : Keep h0 h108 [o1] := KC0.wr W108 (Or.inl (List.mem_of_getElem? (i := 0) rfl))
  obtain ⟨fs, hr, hrun, hended, hW, hsame⟩ := X108.leave (v := none) (fun _ => rfl)
  refine ⟨_, _, pre0 _ (go109 _ ?_), hrun, hended, _, _, rfl, ?_, ⟨_, rfl⟩, hW, hsame.mono (by decide) (by decide)⟩
  · exact X108.returnOut hx Bd.returns (hb hby d6_9) hr
  · show Q6 Z o1 p1 u1 h0 n0 _ T108.heap _
    rw [e108]
    exact ⟨rfl, N108, KC108, Fw108⟩
theorem d7_0 : decode prog_77_method_6_code 0 = .ok (.aload_n 0, 1) := by decide +kernel
theorem d7_1 : decode prog_77_method_6_code 1 = .ok (.getfield 7, 3) := by decide +kernel
theorem d7_4 : decode prog_77_method_6_code 4 = .ok (.iload_n 1, 1) := by decide +kernel
theorem d7_5 : decode prog_77_method_6_code 5 = .ok (.if_icmp .ge 7, 3) := by decide +kernel
theorem d7_8 : decode prog_77_method_6_code 8 = .ok (.iconst 1, 1) := by decide +kernel
theorem d7_9 : decode prog_77_method_6_code 9 = .ok (.goto 4, 3) := by decide +kernel
theorem d7_12 : decode prog_77_method_6_code 12 = .ok (.iconst 0, 1) := by decide +kernel
theorem d7_13 : decode prog_77_method_6_code 13 = .ok (.ireturn, 1) := by decide +kernel
theorem ef7 (m : MethodId) (x0 : Addr) (x1 : Int32) : entryFrame m #[(.ref x0), (.int x1)] 2 = mkF m 0 #[.val (.ref x0), .val (.int x1)] [] := by first | (simp [entryFrame, mkF, argsToLocals, Value.category]; done) | rfl
def Q7 (Z : State) (o1 : Addr) (p1 : Int32) (sl : Int32) (h0 : Heap) (n0 : Nat) (v : Option Value) (h : Heap) (L : List Loc) : Prop := v = some (.int (own_lt sl p1)) ∧ Fr n0 L ∧ h = h0
set_option maxRecDepth 65536 in
set_option maxHeartbeats 40000000 in
theorem rm7 (l : Launch) (Z : State) (a0 : Array Value) (hw : ∀ d ∈ tables_1, d.before a0 Z = true) (ws : List Jvm.Cond) (o1 : Addr) (p1 : Int32) (sl : Int32) (h0 : Heap) (n0 : Nat) (Z0 : n0 ≤ h0.size) (F1 : Fld Z h0 o1 "com/example/ruleseer/ruleseer/gdl/Pattern$Check" "slot" "I" (.int sl)) :
    MetFree l (⟨"com/example/ruleseer/ruleseer/gdl/Pattern$Check", "boundBelow", "(I)Z"⟩ : MethodName) (head1 (Jvm.Cond.code (⟨"com/example/ruleseer/ruleseer/gdl/Pattern$Check", "boundBelow", "(I)Z"⟩ : MethodName) prog_77_method_6_code 2 (some .boolean) :: ws) ({ frames := 0, cells := 0, slots := 0, locals := 0 } : Room)) (fun a U => a = #[(.ref o1), (.int p1)] ∧ Z.Warmed39 U.vm ∧ U.heap = h0) (fun _ _ _ _ _ => True) (fun _ U o U' => ∃ v L, o = .returned v ∧ Q7 Z o1 p1 sl h0 n0 v U'.heap L ∧ FrameEnd U o U' L ({ frames := 0, cells := 0, slots := 0, locals := 0 } : Room).cells ({ frames := 0, cells := 0, slots := 0, locals := 0 } : Room).slots) := by
  have W : ∀ {d : Jvm.Cond} (i : Nat), tables_1[i]? = some d → d.before a0 Z = true := fun i h => hw _ (List.mem_of_getElem? h)
  refine MetFree.of_bodySF (plainFor_of_name pn4) hisR ?_
  intro p e s m args below meth c s₁ Bd hml0 hP hK
  obtain ⟨rfl, hZ, hh⟩ := hP
  have hx := Bd.exec
  have hby := Bd.bytes
  have hml : c.maxLocals = 2 := hml0
  have hown : s.vm.findClass "com/example/ruleseer/ruleseer/gdl/Pattern$Check" = some m.cls := findClass_of_methodNamed Bd.named
  have hnm := (name_of_methodNamed Bd.named Bd.method).1
  have X0 : Stand p l e ({ frames := 0, cells := 0, slots := 0, locals := 0 } : Room) s m #[(.ref o1), (.int p1)] below meth c s₁ [] 0 0 := Stand.of_body Bd
  have e0 : s₁.heap = h0 := by rw [← hh, Bd.state]; rfl
  have N0 := Fr.nil n0
  have pre0 : ∀ tt, Steps p.tables e below (s₁.setTop (mkF m 0 #[rv o1, iv p1] [])) tt → Steps p.tables e below (s₁.setTop (entryFrame m #[(.ref o1), (.int p1)] 2)) tt := fun tt kt => castTop (ef7 m o1 p1) kt
  obtain ⟨ST, hST⟩ : ∃ z : State, z = s₁.setTop (mkF m 0 #[rv o1, iv p1] []) := ⟨_, rfl⟩
  rw [← hST] at pre0
  have go110 : own_S p e below ST s₁ (mkF m 1 #[rv o1, iv p1] [(.ref o1)]) := fun tt kt => (by
      rw [hST]
      show Steps p.tables e below (s₁.setTop (mkF m 0 #[rv o1, iv p1] [])) _
      refine XS.aloadN X0.here hx rfl (hb hby d7_0) rfl rfl ?_
      exact kt)
  obtain ⟨T111, X111, e111, st111⟩ := getF X0 hx hZ hown (host := "") (Or.inl (W 34 rfl)) Via.refl e0 F1 (g := (mkF m 1 #[rv o1, iv p1] [(.ref o1)])) rfl rfl (hb hby d7_1)
  have go112 : own_S p e below ST T111 (mkF m 4 #[rv o1, iv p1] [(.int sl)]) := fun tt kt => go110 tt (st111 _ kt)
  have go113 : own_S p e below ST T111 (mkF m 5 #[rv o1, iv p1] [(.int p1), (.int sl)]) := fun tt kt => go112 tt (by
      refine XS.iloadN X111.here hx rfl (hb hby d7_4) rfl ?_
      exact kt)
  obtain ⟨v, hv, sg114⟩ : ∃ (v : Int32), v = (if sl < p1 then (1 : Int32) else (0 : Int32)) ∧ ∀ tt, Steps p.tables e below (T111.setTop (mkF m 13 #[rv o1, iv p1] [(.int v)])) tt → Steps p.tables e below (T111.setTop (mkF m 5 #[rv o1, iv p1] [(.int p1), (.int sl)])) tt := by
    by_cases hd5_0 : sl < p1
    · refine ⟨_, (if_pos hd5_0).symm, fun tt kt => ?_⟩
      show Steps p.tables e below (T111.setTop (mkF m 5 #[rv o1, iv p1] [(.int p1), (.int sl)])) _
      refine XS.icmpNo X111.here hx rfl (hb hby d7_5) rfl (tlt hd5_0).2.1 ?_
      refine XS.iconst X111.here hx rfl (hb hby d7_8) ?_
      refine XS.goto X111.here hx rfl (pc0 := 9) (pc' := 13) rfl (hb hby d7_9) (by decide) (by decide) ?_
      exact kt
    · refine ⟨_, (if_neg hd5_0).symm, fun tt kt => ?_⟩
      show Steps p.tables e below (T111.setTop (mkF m 5 #[rv o1, iv p1] [(.int p1), (.int sl)])) _
      refine XS.icmpYes X111.here hx rfl (pc0 := 5) (pc' := 12) rfl (hb hby d7_5) rfl (flt hd5_0).2.1 (by decide) (by decide) ?_
      refine XS.iconst X111.here hx rfl (hb hby d7_12) ?_
      exact kt
  have go115 : own_S p e below ST T111 (mkF m 13 #[rv o1, iv p1] [(.int v)]) := fun tt kt => go113 tt (sg114 _ kt)
  obtain ⟨fs, hr, hrun, hended, hW, hsame⟩ := X111.leave (v := some (.int (nar .boolean v))) (fun h => by rw [Bd.returns] at h; cases h)
  refine ⟨_, _, pre0 _ (go115 _ ?_), hrun, hended, _, _, rfl, ?_, ⟨_, rfl⟩, hW, hsame.mono (by decide) (by decide)⟩
  · exact retN X111 hx (t := .boolean) Bd.returns (by simp) (hb hby d7_13) hr
  · show Q7 Z o1 p1 sl h0 n0 _ T111.heap _
    rw [e111]
    exact ⟨(by rw [hv, own_nb]; rfl), N0, rfl⟩
theorem pn20 : plainName "com/example/ruleseer/ruleseer/gdl/Pattern$Bind" = true := by first | (simp [plainName, overriddenIn]; done) | decide +kernel
theorem d1_0 : decode prog_76_method_1_code 0 = .ok (.aload_n 0, 1) := by decide +kernel
theorem d1_1 : decode prog_76_method_1_code 1 = .ok (.invokespecial 1, 3) := by decide +kernel
theorem d1_4 : decode prog_76_method_1_code 4 = .ok (.aload_n 0, 1) := by decide +kernel
theorem d1_5 : decode prog_76_method_1_code 5 = .ok (.iload_n 1, 1) := by decide +kernel
theorem d1_6 : decode prog_76_method_1_code 6 = .ok (.putfield 7, 3) := by decide +kernel
theorem d1_9 : decode prog_76_method_1_code 9 = .ok (.return_, 1) := by decide +kernel
theorem ef1 (m : MethodId) (x0 : Addr) (x1 : Int32) : entryFrame m #[(.ref x0), (.int x1)] 2 = mkF m 0 #[.val (.ref x0), .val (.int x1)] [] := by first | (simp [entryFrame, mkF, argsToLocals, Value.category]; done) | rfl
def Q1 (Z : State) (o1 : Addr) (p1 : Int32) (u1 : Value) (h0 : Heap) (n0 : Nat) (v : Option Value) (h : Heap) (L : List Loc) : Prop := v = none ∧ Fr n0 L ∧ Keep h0 h [o1] ∧ Fld Z h o1 "com/example/ruleseer/ruleseer/gdl/Pattern$Bind" "slot" "I" (.int p1)
set_option maxRecDepth 65536 in
set_option maxHeartbeats 40000000 in
theorem rm1 (l : Launch) (Z : State) (a0 : Array Value) (hw : ∀ d ∈ tables_1, d.before a0 Z = true) (ws : List Jvm.Cond) (o1 : Addr) (p1 : Int32) (u1 : Value) (h0 : Heap) (n0 : Nat) (Z0 : n0 ≤ h0.size) (F1 : Fld Z h0 o1 "com/example/ruleseer/ruleseer/gdl/Pattern$Bind" "slot" "I" u1) (E1 : Exa Z h0 o1 "com/example/ruleseer/ruleseer/gdl/Pattern$Bind") (g1 : n0 ≤ o1) :
    MetFree l (⟨"com/example/ruleseer/ruleseer/gdl/Pattern$Bind", "<init>", "(I)V"⟩ : MethodName) (head1 (Jvm.Cond.code (⟨"com/example/ruleseer/ruleseer/gdl/Pattern$Bind", "<init>", "(I)V"⟩ : MethodName) prog_76_method_1_code 2 none :: ws) ({ frames := 2, cells := 0, slots := 0, locals := 24 } : Room)) (fun a U => a = #[(.ref o1), (.int p1)] ∧ Z.Warmed39 U.vm ∧ U.heap = h0) (fun _ _ _ _ _ => True) (fun _ U o U' => ∃ v L, o = .returned v ∧ Q1 Z o1 p1 u1 h0 n0 v U'.heap L ∧ FrameEnd U o U' L ({ frames := 2, cells := 0, slots := 0, locals := 24 } : Room).cells ({ frames := 2, cells := 0, slots := 0, locals := 24 } : Room).slots) := by
  have W : ∀ {d : Jvm.Cond} (i : Nat), tables_1[i]? = some d → d.before a0 Z = true := fun i h => hw _ (List.mem_of_getElem? h)
  refine MetFree.of_bodySF (plainFor_of_name pn20) hisR ?_
  intro p e s m args below meth c s₁ Bd hml0 hP hK
  obtain ⟨rfl, hZ, hh⟩ := hP
  have hx := Bd.exec
  have hby := Bd.bytes
  have hml : c.maxLocals = 2 := hml0
  have hown : s.vm.findClass "com/example/ruleseer/ruleseer/gdl/Pattern$Bind" = some m.cls := findClass_of_methodNamed Bd.named
  have hnm := (name_of_methodNamed Bd.named Bd.method).1
  have X0 : Stand p l e ({ frames := 2, cells := 0, slots := 0, locals := 24 } : Room) s m #[(.ref o1), (.int p1)] below meth c s₁ [] 0 0 := Stand.of_body Bd
  have e0 : s₁.heap = h0 := by rw [← hh, Bd.state]; rfl
  have N0 := Fr.nil n0
  have pre0 : ∀ tt, Steps p.tables e below (s₁.setTop (mkF m 0 #[rv o1, iv p1] [])) tt → Steps p.tables e below (s₁.setTop (entryFrame m #[(.ref o1), (.int p1)] 2)) tt := fun tt kt => castTop (ef1 m o1 p1) kt
  obtain ⟨ST, hST⟩ : ∃ z : State, z = s₁.setTop (mkF m 0 #[rv o1, iv p1] []) := ⟨_, rfl⟩
  rw [← hST] at pre0
  have KC0 : Keep h0 h0 [o1] := Keep.refl h0 [o1]
  have go116 : own_S p e below ST s₁ (mkF m 1 #[rv o1, iv p1] [(.ref o1)]) := fun tt kt => (by
      rw [hST]
      show Steps p.tables e below (s₁.setTop (mkF m 0 #[rv o1, iv p1] [])) _
      refine XS.aloadN X0.here hx rfl (hb hby d1_0) rfl rfl ?_
      exact kt)
  obtain ⟨_, _, ⟨T117, L117, k117, n117⟩, -, X117, ⟨Lc117, hQ117, l117, y117, z117⟩, st117⟩ := X0.specialBack hx (y := (⟨"java/lang/Record", "<init>", "()V"⟩ : MethodName)) rfl hown (mvT hZ (W 6 rfl)) (mvT hZ (W 7 rfl)) (mvT hZ (W 10 rfl)) (by decide) (backOf (W := 0) (rm2 l Z a0 hw [] o1 h0 n0 Z0 ) hZ (W 10 rfl) (W 9 rfl) (by decide) (by decide)) (g := (mkF m 1 #[rv o1, iv p1] [(.ref o1)])) rfl (by rw [hml]; rfl) (Steps.refl _) (a := o1) (argsL := []) (rest := []) (lenOf pd7 rfl) rfl (by show 2 * 0 + _ ≤ _; exact Nat.le_of_eq rfl) (hb hby d1_1) (fun _ _ => ⟨rfl, e0, (by decide : 0 + 0 ≤ _), (by decide : 0 + 0 ≤ _)⟩)
  dsimp only [Pt.U, Pt.locs, Pt.cells, Pt.slots] at X117 l117 y117 z117 st117 hQ117
  subst l117 y117 z117
  obtain ⟨rfl, Nq117, eh117⟩ := hQ117
  have N117 := Fr.app N0 Nq117
  have go118 : own_S p e below ST T117 (mkF m 4 #[rv o1, iv p1] []) := fun tt kt => go116 tt (st117.trans kt)
  have go119 : own_S p e below ST T117 (mkF m 6 #[rv o1, iv p1] [(.int p1), (.ref o1)]) := fun tt kt => go118 tt (by
      refine XS.aloadN X117.here hx rfl (hb hby d1_4) rfl rfl ?_
      refine XS.iloadN X117.here hx rfl (hb hby d1_5) rfl ?_
      exact kt)
  obtain ⟨T120, h120, X120, e120, W120, st120⟩ := putF X117 hx hZ hown (host := "") (Or.inl (W 14 rfl)) Via.refl eh117 F1 E1 (Or.inr ⟨(W 15 rfl), rfl, hnm⟩) (W 1 rfl) (ty := .int) (by decide) rfl rfl (g := (mkF m 6 #[rv o1, iv p1] [(.int p1), (.ref o1)])) rfl rfl (hb hby d1_6)
  have Fw120 := F1.same W120
  have N120 := Fr.snoc X120 N117 g1
  have go121 : own_S p e below ST T120 (mkF m 9 #[rv o1, iv p1] []) := fun tt kt => go119 tt (st120 _ kt)
  have KC120 : Keep h0 h120 [o1] := KC0.wr W120 (Or.inl (List.mem_of_getElem? (i := 0) rfl))
  obtain ⟨fs, hr, hrun, hended, hW, hsame⟩ := X120.leave (v := none) (fun _ => rfl)
  refine ⟨_, _, pre0 _ (go121 _ ?_), hrun, hended, _, _, rfl, ?_, ⟨_, rfl⟩, hW, hsame.mono (by decide) (by decide)⟩
  · exact X120.returnOut hx Bd.returns (hb hby d1_9) hr
  · show Q1 Z o1 p1 u1 h0 n0 _ T120.heap _
    rw [e120]
    exact ⟨rfl, N120, KC120, Fw120⟩
theorem d4_0 : decode prog_76_method_6_code 0 = .ok (.aload_n 0, 1) := by decide +kernel
theorem d4_1 : decode prog_76_method_6_code 1 = .ok (.getfield 7, 3) := by decide +kernel
theorem d4_4 : decode prog_76_method_6_code 4 = .ok (.iload_n 1, 1) := by decide +kernel
theorem d4_5 : decode prog_76_method_6_code 5 = .ok (.if_icmp .ge 7, 3) := by decide +kernel
theorem d4_8 : decode prog_76_method_6_code 8 = .ok (.iconst 1, 1) := by decide +kernel
theorem d4_9 : decode prog_76_method_6_code 9 = .ok (.goto 4, 3) := by decide +kernel
theorem d4_12 : decode prog_76_method_6_code 12 = .ok (.iconst 0, 1) := by decide +kernel
theorem d4_13 : decode prog_76_method_6_code 13 = .ok (.ireturn, 1) := by decide +kernel
theorem ef4 (m : MethodId) (x0 : Addr) (x1 : Int32) : entryFrame m #[(.ref x0), (.int x1)] 2 = mkF m 0 #[.val (.ref x0), .val (.int x1)] [] := by first | (simp [entryFrame, mkF, argsToLocals, Value.category]; done) | rfl
def Q4 (Z : State) (o1 : Addr) (p1 : Int32) (sl : Int32) (h0 : Heap) (n0 : Nat) (v : Option Value) (h : Heap) (L : List Loc) : Prop := v = some (.int (own_lt sl p1)) ∧ Fr n0 L ∧ h = h0
set_option maxRecDepth 65536 in
set_option maxHeartbeats 40000000 in
theorem rm4 (l : Launch) (Z : State) (a0 : Array Value) (hw : ∀ d ∈ tables_1, d.before a0 Z = true) (ws : List Jvm.Cond) (o1 : Addr) (p1 : Int32) (sl : Int32) (h0 : Heap) (n0 : Nat) (Z0 : n0 ≤ h0.size) (F1 : Fld Z h0 o1 "com/example/ruleseer/ruleseer/gdl/Pattern$Bind" "slot" "I" (.int sl)) :
    MetFree l (⟨"com/example/ruleseer/ruleseer/gdl/Pattern$Bind", "boundBelow", "(I)Z"⟩ : MethodName) (head1 (Jvm.Cond.code (⟨"com/example/ruleseer/ruleseer/gdl/Pattern$Bind", "boundBelow", "(I)Z"⟩ : MethodName) prog_76_method_6_code 2 (some .boolean) :: ws) ({ frames := 0, cells := 0, slots := 0, locals := 0 } : Room)) (fun a U => a = #[(.ref o1), (.int p1)] ∧ Z.Warmed39 U.vm ∧ U.heap = h0) (fun _ _ _ _ _ => True) (fun _ U o U' => ∃ v L, o = .returned v ∧ Q4 Z o1 p1 sl h0 n0 v U'.heap L ∧ FrameEnd U o U' L ({ frames := 0, cells := 0, slots := 0, locals := 0 } : Room).cells ({ frames := 0, cells := 0, slots := 0, locals := 0 } : Room).slots) := by
  have W : ∀ {d : Jvm.Cond} (i : Nat), tables_1[i]? = some d → d.before a0 Z = true := fun i h => hw _ (List.mem_of_getElem? h)
  refine MetFree.of_bodySF (plainFor_of_name pn20) hisR ?_
  intro p e s m args below meth c s₁ Bd hml0 hP hK
  obtain ⟨rfl, hZ, hh⟩ := hP
  have hx := Bd.exec
  have hby := Bd.bytes
  have hml : c.maxLocals = 2 := hml0
  have hown : s.vm.findClass "com/example/ruleseer/ruleseer/gdl/Pattern$Bind" = some m.cls := findClass_of_methodNamed Bd.named
  have hnm := (name_of_methodNamed Bd.named Bd.method).1
  have X0 : Stand p l e ({ frames := 0, cells := 0, slots := 0, locals := 0 } : Room) s m #[(.ref o1), (.int p1)] below meth c s₁ [] 0 0 := Stand.of_body Bd
  have e0 : s₁.heap = h0 := by rw [← hh, Bd.state]; rfl
  have N0 := Fr.nil n0
  have pre0 : ∀ tt, Steps p.tables e below (s₁.setTop (mkF m 0 #[rv o1, iv p1] [])) tt → Steps p.tables e below (s₁.setTop (entryFrame m #[(.ref o1), (.int p1)] 2)) tt := fun tt kt => castTop (ef4 m o1 p1) kt
  obtain ⟨ST, hST⟩ : ∃ z : State, z = s₁.setTop (mkF m 0 #[rv o1, iv p1] []) := ⟨_, rfl⟩
  rw [← hST] at pre0
  have go122 : own_S p e below ST s₁ (mkF m 1 #[rv o1, iv p1] [(.ref o1)]) := fun tt kt => (by
      rw [hST]
      show Steps p.tables e below (s₁.setTop (mkF m 0 #[rv o1, iv p1] [])) _
      refine XS.aloadN X0.here hx rfl (hb hby d4_0) rfl rfl ?_
      exact kt)
  obtain ⟨T123, X123, e123, st123⟩ := getF X0 hx hZ hown (host := "") (Or.inl (W 14 rfl)) Via.refl e0 F1 (g := (mkF m 1 #[rv o1, iv p1] [(.ref o1)])) rfl rfl (hb hby d4_1)
  have go124 : own_S p e below ST T123 (mkF m 4 #[rv o1, iv p1] [(.int sl)]) := fun tt kt => go122 tt (st123 _ kt)
  have go125 : own_S p e below ST T123 (mkF m 5 #[rv o1, iv p1] [(.int p1), (.int sl)]) := fun tt kt => go124 tt (by
      refine XS.iloadN X123.here hx rfl (hb hby d4_4) rfl ?_
      exact kt)
  obtain ⟨v, hv, sg126⟩ : ∃ (v : Int32), v = (if sl < p1 then (1 : Int32) else (0 : Int32)) ∧ ∀ tt, Steps p.tables e below (T123.setTop (mkF m 13 #[rv o1, iv p1] [(.int v)])) tt → Steps p.tables e below (T123.setTop (mkF m 5 #[rv o1, iv p1] [(.int p1), (.int sl)])) tt := by
    by_cases hd5_0 : sl < p1
    · refine ⟨_, (if_pos hd5_0).symm, fun tt kt => ?_⟩
      show Steps p.tables e below (T123.setTop (mkF m 5 #[rv o1, iv p1] [(.int p1), (.int sl)])) _
      refine XS.icmpNo X123.here hx rfl (hb hby d4_5) rfl (tlt hd5_0).2.1 ?_
      refine XS.iconst X123.here hx rfl (hb hby d4_8) ?_
      refine XS.goto X123.here hx rfl (pc0 := 9) (pc' := 13) rfl (hb hby d4_9) (by decide) (by decide) ?_
      exact kt
    · refine ⟨_, (if_neg hd5_0).symm, fun tt kt => ?_⟩
      show Steps p.tables e below (T123.setTop (mkF m 5 #[rv o1, iv p1] [(.int p1), (.int sl)])) _
      refine XS.icmpYes X123.here hx rfl (pc0 := 5) (pc' := 12) rfl (hb hby d4_5) rfl (flt hd5_0).2.1 (by decide) (by decide) ?_
      refine XS.iconst X123.here hx rfl (hb hby d4_12) ?_
      exact kt
  have go127 : own_S p e below ST T123 (mkF m 13 #[rv o1, iv p1] [(.int v)]) := fun tt kt => go125 tt (sg126 _ kt)
  obtain ⟨fs, hr, hrun, hended, hW, hsame⟩ := X123.leave (v := some (.int (nar .boolean v))) (fun h => by rw [Bd.returns] at h; cases h)
  refine ⟨_, _, pre0 _ (go127 _ ?_), hrun, hended, _, _, rfl, ?_, ⟨_, rfl⟩, hW, hsame.mono (by decide) (by decide)⟩
  · exact retN X123 hx (t := .boolean) Bd.returns (by simp) (hb hby d4_13) hr
  · show Q4 Z o1 p1 sl h0 n0 _ T123.heap _
    rw [e123]
    exact ⟨(by rw [hv, own_nb]; rfl), N0, rfl⟩
theorem d5_0 : decode prog_76_method_7_code 0 = .ok (.new 26, 3) := by decide +kernel
theorem d5_3 : decode prog_76_method_7_code 3 = .ok (.dup, 1) := by decide +kernel
theorem d5_4 : decode prog_76_method_7_code 4 = .ok (.aload_n 0, 1) := by decide +kernel
theorem d5_5 : decode prog_76_method_7_code 5 = .ok (.getfield 7, 3) := by decide +kernel
theorem d5_8 : decode prog_76_method_7_code 8 = .ok (.invokespecial 28, 3) := by decide +kernel
theorem pd40 : parseMethodDescriptor "(I)V" = some ⟨[.int], none⟩ := by decide +kernel
theorem d5_11 : decode prog_76_method_7_code 11 = .ok (.areturn, 1) := by decide +kernel
theorem ef5 (m : MethodId) (x0 : Addr) : entryFrame m #[(.ref x0)] 1 = mkF m 0 #[.val (.ref x0)] [] := by first | (simp [entryFrame, mkF, argsToLocals, Value.category]; done) | rfl
def Q5 (Z : State) (o1 : Addr) (sl : Int32) (h0 : Heap) (n0 : Nat) (v : Option Value) (h : Heap) (L : List Loc) : Prop := ∃ b : Addr, v = some (.ref b) ∧ Fr n0 L ∧ Keep h0 h [] ∧ Exa Z h b "com/example/ruleseer/ruleseer/gdl/Pattern$Check" ∧ Fld Z h b "com/example/ruleseer/ruleseer/gdl/Pattern$Check" "slot" "I" (.int sl)
set_option maxRecDepth 65536 in
set_option maxHeartbeats 40000000 in
theorem rm5 (l : Launch) (Z : State) (a0 : Array Value) (hw : ∀ d ∈ tables_1, d.before a0 Z = true) (ws : List Jvm.Cond) (o1 : Addr) (sl : Int32) (h0 : Heap) (n0 : Nat) (Z0 : n0 ≤ h0.size) (F1 : Fld Z h0 o1 "com/example/ruleseer/ruleseer/gdl/Pattern$Bind" "slot" "I" (.int sl)) :
    MetFree l (⟨"com/example/ruleseer/ruleseer/gdl/Pattern$Bind", "bound", "()Lcom/example/ruleseer/ruleseer/gdl/Pattern;"⟩ : MethodName) (head1 (Jvm.Cond.code (⟨"com/example/ruleseer/ruleseer/gdl/Pattern$Bind", "bound", "()Lcom/example/ruleseer/ruleseer/gdl/Pattern;"⟩ : MethodName) prog_76_method_7_code 1 (some (.object "com/example/ruleseer/ruleseer/gdl/Pattern")) :: ws) ({ frames := 3, cells := 1, slots := 1, locals := 38 } : Room)) (fun a U => a = #[(.ref o1)] ∧ Z.Warmed39 U.vm ∧ U.heap = h0) (fun _ _ _ _ _ => True) (fun _ U o U' => ∃ v L, o = .returned v ∧ Q5 Z o1 sl h0 n0 v U'.heap L ∧ FrameEnd U o U' L ({ frames := 3, cells := 1, slots := 1, locals := 38 } : Room).cells ({ frames := 3, cells := 1, slots := 1, locals := 38 } : Room).slots) := by
  have W : ∀ {d : Jvm.Cond} (i : Nat), tables_1[i]? = some d → d.before a0 Z = true := fun i h => hw _ (List.mem_of_getElem? h)
  refine MetFree.of_bodySF (plainFor_of_name pn20) hisR ?_
  intro p e s m args below meth c s₁ Bd hml0 hP hK
  obtain ⟨rfl, hZ, hh⟩ := hP
  have hx := Bd.exec
  have hby := Bd.bytes
  have hml : c.maxLocals = 1 := hml0
  have hown : s.vm.findClass "com/example/ruleseer/ruleseer/gdl/Pattern$Bind" = some m.cls := findClass_of_methodNamed Bd.named
  have hnm := (name_of_methodNamed Bd.named Bd.method).1
  have X0 : Stand p l e ({ frames := 3, cells := 1, slots := 1, locals := 38 } : Room) s m #[(.ref o1)] below meth c s₁ [] 0 0 := Stand.of_body Bd
  have e0 : s₁.heap = h0 := by rw [← hh, Bd.state]; rfl
  have N0 := Fr.nil n0
  have pre0 : ∀ tt, Steps p.tables e below (s₁.setTop (mkF m 0 #[rv o1] [])) tt → Steps p.tables e below (s₁.setTop (entryFrame m #[(.ref o1)] 1)) tt := fun tt kt => castTop (ef5 m o1) kt
  obtain ⟨ST, hST⟩ : ∃ z : State, z = s₁.setTop (mkF m 0 #[rv o1] []) := ⟨_, rfl⟩
  rw [← hST] at pre0
  have KC0 : Keep h0 h0 [] := Keep.refl h0 []
  obtain ⟨b128, g128⟩ : ∃ z, z = h0.size := ⟨_, rfl⟩
  obtain ⟨T128, h128, X128, e128, E128, A128, D128, -, st128⟩ := newO X0 hx hZ hown (W 27 rfl) (W 28 rfl) (W 29 rfl) e0 (g := (mkF m 0 #[rv o1] [])) rfl (hb hby d5_0) (by decide) (by decide)
  rw [← g128] at A128 D128 st128
  have neo1_b128 : o1 ≠ b128 := Nat.ne_of_lt (Nat.lt_of_lt_of_le F1.lt (Nat.le_of_eq g128.symm))
  have ge_b128 : n0 ≤ b128 := Nat.le_trans Z0 (Nat.le_of_eq g128.symm)
  have sz_b128 : h0.size ≤ b128 := Nat.le_trans KC0.1 (Nat.le_of_eq g128.symm)
  have F128_slot : Fld Z h128 b128 "com/example/ruleseer/ruleseer/gdl/Pattern$Check" "slot" "I" (.int (0 : Int32)) := D128 (Or.inr (W 35 rfl)) (ty := .int) (by decide)
  have KC128 : Keep h0 h128 [] := KC0.ext E128
  have go129 : own_S p e below ST T128 (mkF m 3 #[rv o1] [(.ref b128)]) := fun tt kt => (by rw [hST]; exact st128 _ kt)
  have go130 : own_S p e below ST T128 (mkF m 5 #[rv o1] [(.ref o1), (.ref b128), (.ref b128)]) := fun tt kt => go129 tt (by
      refine XS.dup X128.here hx rfl (hb hby d5_3) rfl rfl ?_
      refine XS.aloadN X128.here hx rfl (hb hby d5_4) rfl rfl ?_
      exact kt)
  have f131 := (F1.ext E128)
  obtain ⟨T132, X132, e132, st132⟩ := getF X128 hx hZ hown (host := "") (Or.inl (W 14 rfl)) Via.refl e128 f131 (g := (mkF m 5 #[rv o1] [(.ref o1), (.ref b128), (.ref b128)])) rfl rfl (hb hby d5_5)
  have go133 : own_S p e below ST T132 (mkF m 8 #[rv o1] [(.int sl), (.ref b128), (.ref b128)]) := fun tt kt => go130 tt (st132 _ kt)
  have zs135 := (Nat.le_trans Z0 E128.1)
  obtain ⟨_, _, ⟨T134, L134, k134, n134⟩, -, X134, ⟨Lc134, hQ134, l134, y134, z134⟩, st134⟩ := X132.specialBack hx (y := (⟨"com/example/ruleseer/ruleseer/gdl/Pattern$Check", "<init>", "(I)V"⟩ : MethodName)) rfl hown (mvT hZ (W 30 rfl)) (mvT hZ (W 31 rfl)) (mvT hZ (W 32 rfl)) (by decide) (backOf (W := 1) (rm6 l Z a0 hw [] b128 sl _ h128 n0 zs135 F128_slot A128 ge_b128) hZ (W 32 rfl) (W 29 rfl) (by decide) (by decide)) (g := (mkF m 8 #[rv o1] [(.int sl), (.ref b128), (.ref b128)])) rfl (by rw [hml]; rfl) (Steps.refl _) (a := b128) (argsL := [(.int sl)]) (rest := [(.ref b128)]) (lenOf pd40 rfl) rfl (by show 2 * 0 + _ ≤ _; exact Nat.le_of_eq rfl) (hb hby d5_8) (fun _ _ => ⟨rfl, e132, (by decide : 1 + 0 ≤ _), (by decide : 1 + 0 ≤ _)⟩)
  dsimp only [Pt.U, Pt.locs, Pt.cells, Pt.slots] at X134 l134 y134 z134 st134 hQ134
  subst l134 y134 z134
  obtain ⟨rfl, Nq134, K134, Fi134⟩ := hQ134
  have N134 := Fr.app N0 Nq134
  have go136 : own_S p e below ST T134 (mkF m 11 #[rv o1] [(.ref b128)]) := fun tt kt => go133 tt (st134.trans kt)
  have KC134 : Keep h0 T134.heap [] := KC128.trans K134 (allS (Or.inr sz_b128) all0)
  have f137 := (A128.keep K134)
  obtain ⟨fs, hr, hrun, hended, hW, hsame⟩ := X134.leave (v := some (.ref b128)) (fun h => by rw [Bd.returns] at h; cases h)
  refine ⟨_, _, pre0 _ (go136 _ ?_), hrun, hended, _, _, rfl, ?_, ⟨_, rfl⟩, hW, hsame.mono (by decide) (by decide)⟩
  · jvm_step X134.here [X134.here.top, hx, (hb hby d5_11), X134.method', Bd.returns, Value.isRef, FieldType.isReference]
    first | (intro acts; rw [hr _ acts rfl rfl rfl]) | rw [hr _ _ rfl rfl rfl]
    exact Steps.refl _
  · show Q5 Z o1 sl h0 n0 _ T134.heap _
    exact ⟨b128, rfl, N134, KC134, f137, Fi134⟩
theorem pn42 : plainName "com/example/ruleseer/ruleseer/gdl/BindBoundBelowPinLaw" = true := by first | (simp [plainName, overriddenIn]; done) | decide +kernel
theorem pd43 : parseMethodDescriptor "(I)Z" = some ⟨[.int], some .boolean⟩ := by decide +kernel
theorem pd44 : parseMethodDescriptor "()Lcom/example/ruleseer/ruleseer/gdl/Pattern;" = some ⟨[], some (.object "com/example/ruleseer/ruleseer/gdl/Pattern")⟩ := by decide +kernel
theorem ef0 (m : MethodId) (x0 : Int32) (x1 : Int32) : entryFrame m #[(.int x0), (.int x1)] maxLocals = mkF m 0 #[.val (.int x0), .val (.int x1), .unset, .unset, .unset, .unset, .unset, .unset] [] := by first | (simp [entryFrame, mkF, argsToLocals, Value.category, maxLocals]; done) | rfl
def Q0 (Z : State) (sl : Int32) (nn : Int32) (h0 : Heap) (n0 : Nat) (v : Option Value) (h : Heap) (L : List Loc) : Prop := v = some (.int 1) ∧ Fr n0 L
set_option maxRecDepth 65536 in
set_option maxHeartbeats 40000000 in
theorem rm0 (l : Launch) (Z : State) (a0 : Array Value) (hw : ∀ d ∈ tables_1, d.before a0 Z = true) (ws : List Jvm.Cond) (sl : Int32) (nn : Int32) (h0 : Heap) (n0 : Nat) (Z0 : n0 ≤ h0.size) :
    MetFree l x (head1 (Jvm.Cond.code x code maxLocals ret :: ws) room_1) (fun a U => a = #[(.int sl), (.int nn)] ∧ Z.Warmed39 U.vm ∧ U.heap = h0) (fun _ _ _ _ _ => True) (fun _ U o U' => ∃ v L, o = .returned v ∧ Q0 Z sl nn h0 n0 v U'.heap L ∧ FrameEnd U o U' L room_1.cells room_1.slots) := by
  have W : ∀ {d : Jvm.Cond} (i : Nat), tables_1[i]? = some d → d.before a0 Z = true := fun i h => hw _ (List.mem_of_getElem? h)
  refine MetFree.of_bodySF (plainFor_of_name pn42) hisR ?_
  intro p e s m args below meth c s₁ Bd hml0 hP hK
  obtain ⟨rfl, hZ, hh⟩ := hP
  have hx := Bd.exec
  have hby := Bd.bytes
  have hml : c.maxLocals = 8 := hml0
  have hown : s.vm.findClass "com/example/ruleseer/ruleseer/gdl/BindBoundBelowPinLaw" = some m.cls := findClass_of_methodNamed Bd.named
  have hnm := (name_of_methodNamed Bd.named Bd.method).1
  have X0 : Stand p l e room_1 s m #[(.int sl), (.int nn)] below meth c s₁ [] 0 0 := Stand.of_body Bd
  have e0 : s₁.heap = h0 := by rw [← hh, Bd.state]; rfl
  have N0 := Fr.nil n0
  have pre0 : ∀ tt, Steps p.tables e below (s₁.setTop (mkF m 0 #[iv sl, iv nn, .unset, .unset, .unset, .unset, .unset, .unset] [])) tt → Steps p.tables e below (s₁.setTop (entryFrame m #[(.int sl), (.int nn)] maxLocals)) tt := fun tt kt => castTop (ef0 m sl nn) kt
  obtain ⟨ST, hST⟩ : ∃ z : State, z = s₁.setTop (mkF m 0 #[iv sl, iv nn, .unset, .unset, .unset, .unset, .unset, .unset] []) := ⟨_, rfl⟩
  rw [← hST] at pre0
  obtain ⟨b138, g138⟩ : ∃ z, z = h0.size := ⟨_, rfl⟩
  obtain ⟨T138, h138, X138, e138, E138, A138, D138, -, st138⟩ := newO X0 hx hZ hown (W 0 rfl) (W 1 rfl) (W 2 rfl) e0 (g := (mkF m 0 #[iv sl, iv nn, .unset, .unset, .unset, .unset, .unset, .unset] [])) rfl (hb hby at_0) (by decide) (by decide)
  rw [← g138] at A138 D138 st138
  have ge_b138 : n0 ≤ b138 := Nat.le_trans Z0 (Nat.le_of_eq g138.symm)
  have F138_slot : Fld Z h138 b138 "com/example/ruleseer/ruleseer/gdl/Pattern$Bind" "slot" "I" (.int (0 : Int32)) := D138 (Or.inr (W 15 rfl)) (ty := .int) (by decide)
  have go139 : own_S p e below ST T138 (mkF m 3 #[iv sl, iv nn, .unset, .unset, .unset, .unset, .unset, .unset] [(.ref b138)]) := fun tt kt => (by rw [hST]; exact st138 _ kt)
  have go140 : own_S p e below ST T138 (mkF m 5 #[iv sl, iv nn, .unset, .unset, .unset, .unset, .unset, .unset] [(.int sl), (.ref b138), (.ref b138)]) := fun tt kt => go139 tt (by
      refine XS.dup X138.here hx rfl (hb hby at_3) rfl rfl ?_
      refine XS.iloadN X138.here hx rfl (hb hby at_4) rfl ?_
      exact kt)
  have zs142 := (Nat.le_trans Z0 E138.1)
  obtain ⟨_, _, ⟨T141, L141, k141, n141⟩, -, X141, ⟨Lc141, hQ141, l141, y141, z141⟩, st141⟩ := X138.specialBack hx (y := (⟨"com/example/ruleseer/ruleseer/gdl/Pattern$Bind", "<init>", "(I)V"⟩ : MethodName)) rfl hown (mvT hZ (W 3 rfl)) (mvT hZ (W 4 rfl)) (mvT hZ (W 5 rfl)) (by decide) (backOf (W := 1) (rm1 l Z a0 hw [] b138 sl _ h138 n0 zs142 F138_slot A138 ge_b138) hZ (W 5 rfl) (W 2 rfl) (by decide) (by decide)) (g := (mkF m 5 #[iv sl, iv nn, .unset, .unset, .unset, .unset, .unset, .unset] [(.int sl), (.ref b138), (.ref b138)])) rfl (by rw [hml]; rfl) (Steps.refl _) (a := b138) (argsL := [(.int sl)]) (rest := [(.ref b138)]) (lenOf pd40 rfl) rfl (by show 2 * 0 + _ ≤ _; exact Nat.le_of_eq rfl) (hb hby at_5) (fun _ _ => ⟨rfl, e138, (by decide : 1 + 0 ≤ _), (by decide : 1 + 0 ≤ _)⟩)
  dsimp only [Pt.U, Pt.locs, Pt.cells, Pt.slots] at X141 l141 y141 z141 st141 hQ141
  subst l141 y141 z141
  obtain ⟨rfl, Nq141, K141, Fi141⟩ := hQ141
  have N141 := Fr.app N0 Nq141
  have go143 : own_S p e below ST T141 (mkF m 8 #[iv sl, iv nn, .unset, .unset, .unset, .unset, .unset, .unset] [(.ref b138)]) := fun tt kt => go140 tt (st141.trans kt)
  have go144 : own_S p e below ST T141 (mkF m 11 #[iv sl, iv nn, rv b138, .unset, .unset, .unset, .unset, .unset] [(.int nn), (.ref b138)]) := fun tt kt => go143 tt (by
      refine XS.astoreN X141.here hx rfl (hb hby at_8) rfl rfl (l' := #[iv sl, iv nn, rv b138, .unset, .unset, .unset, .unset, .unset]) rfl ?_
      refine XS.aloadN X141.here hx rfl (hb hby at_9) rfl rfl ?_
      refine XS.iloadN X141.here hx rfl (hb hby at_10) rfl ?_
      exact kt)
  have zs146 := (Nat.le_trans zs142 K141.1)
  have f147 := (A138.keep K141)
  obtain ⟨cq145, kq145, q145a, q145b, q145c⟩ := isOf hZ rfl f147
  obtain ⟨_, _, ⟨T145, L145, k145, n145⟩, -, X145, ⟨Lc145, hQ145, l145, y145, z145⟩, st145⟩ := X141.virtualBack hx (y := (⟨"com/example/ruleseer/ruleseer/gdl/Pattern$Bind", "boundBelow", "(I)Z"⟩ : MethodName)) (z := (⟨"com/example/ruleseer/ruleseer/gdl/Pattern$Bind", "boundBelow", "(I)Z"⟩ : MethodName)) hown (mvT hZ (W 16 rfl)) (mvT hZ (W 17 rfl)) (notFace_of_selects (args := #[]) (mvT hZ (W 19 rfl))) (mvT hZ (W 19 rfl)) (mvT hZ (W 18 rfl)) (by decide) (backOf (W := 0) (rm4 l Z a0 hw [] b138 nn sl T141.heap n0 zs146 Fi141) hZ (W 20 rfl) (W 2 rfl) (by decide) (by decide)) q145a q145c (g := (mkF m 11 #[iv sl, iv nn, rv b138, .unset, .unset, .unset, .unset, .unset] [(.int nn), (.ref b138)])) rfl (by rw [hml]; rfl) (Steps.refl _) (argsL := [(.int nn)]) (rest := []) (lenOf pd43 rfl) rfl (by show 2 * 0 + _ ≤ _; exact Nat.le_of_eq rfl) (hb hby at_11) (fun _ _ => ⟨rfl, rfl, (by decide : 1 + 0 ≤ _), (by decide : 1 + 0 ≤ _)⟩)
  dsimp only [Pt.U, Pt.locs, Pt.cells, Pt.slots] at X145 l145 y145 z145 st145 hQ145
  subst l145 y145 z145
  obtain ⟨rfl, Nq145, eh145⟩ := hQ145
  have N145 := Fr.app N141 Nq145
  have go148 : own_S p e below ST T145 (mkF m 14 #[iv sl, iv nn, rv b138, .unset, .unset, .unset, .unset, .unset] [(.int (own_lt sl nn))]) := fun tt kt => go144 tt (st145.trans kt)
  have go149 : own_S p e below ST T145 (mkF m 22 #[iv sl, iv nn, rv b138, iv (own_lt sl nn), .unset, .unset, .unset, .unset] [(.int (lcmpW ((nn.toInt64) - (sl.toInt64)) (0 : Int64)))]) := fun tt kt => go148 tt (by
      refine XS.istoreN X145.here hx rfl (hb hby at_14) rfl (l' := #[iv sl, iv nn, rv b138, iv (own_lt sl nn), .unset, .unset, .unset, .unset]) rfl ?_
      refine XS.iloadN X145.here hx rfl (hb hby at_15) rfl ?_
      refine XS.i2l X145.here hx rfl (hb hby at_16) rfl ?_
      refine XS.iloadN X145.here hx rfl (hb hby at_17) rfl ?_
      refine XS.i2l X145.here hx rfl (hb hby at_18) rfl ?_
      refine XS.lsub X145.here hx rfl (hb hby at_19) rfl ?_
      show Steps p.tables e below (T145.setTop (mkF m 20 #[iv sl, iv nn, rv b138, iv (own_lt sl nn), .unset, .unset, .unset, .unset] [(.long ((nn.toInt64) - (sl.toInt64)))])) _
      refine XS.lconst X145.here hx rfl (hb hby at_20) ?_
      refine XS.lcmp X145.here hx rfl (hb hby at_21) rfl ?_
      exact kt)
  obtain ⟨ex, hex, sg150⟩ : ∃ (ex : Int32), ex = (if (0 : Int32) < (lcmpW ((nn.toInt64) - (sl.toInt64)) (0 : Int64)) then (1 : Int32) else (0 : Int32)) ∧ ∀ tt, Steps p.tables e below (T145.setTop (mkF m 30 #[iv sl, iv nn, rv b138, iv (own_lt sl nn), .unset, .unset, .unset, .unset] [(.int ex)])) tt → Steps p.tables e below (T145.setTop (mkF m 22 #[iv sl, iv nn, rv b138, iv (own_lt sl nn), .unset, .unset, .unset, .unset] [(.int (lcmpW ((nn.toInt64) - (sl.toInt64)) (0 : Int64)))])) tt := by
    by_cases hd22_0 : (0 : Int32) < (lcmpW ((nn.toInt64) - (sl.toInt64)) (0 : Int64))
    · refine ⟨_, (if_pos hd22_0).symm, fun tt kt => ?_⟩
      show Steps p.tables e below (T145.setTop (mkF m 22 #[iv sl, iv nn, rv b138, iv (own_lt sl nn), .unset, .unset, .unset, .unset] [(.int (lcmpW ((nn.toInt64) - (sl.toInt64)) (0 : Int64)))])) _
      refine XS.ifNo X145.here hx rfl (hb hby at_22) rfl ((if0 _ _).trans (tlt hd22_0).2.2.2) ?_
      refine XS.iconst X145.here hx rfl (hb hby at_25) ?_
      refine XS.goto X145.here hx rfl (pc0 := 26) (pc' := 30) rfl (hb hby at_26) (by decide) (by decide) ?_
      exact kt
    · refine ⟨_, (if_neg hd22_0).symm, fun tt kt => ?_⟩
      show Steps p.tables e below (T145.setTop (mkF m 22 #[iv sl, iv nn, rv b138, iv (own_lt sl nn), .unset, .unset, .unset, .unset] [(.int (lcmpW ((nn.toInt64) - (sl.toInt64)) (0 : Int64)))])) _
      refine XS.ifYes X145.here hx rfl (pc0 := 22) (pc' := 29) rfl (hb hby at_22) rfl ((if0 _ _).trans (flt hd22_0).2.2.2) (by decide) (by decide) ?_
      refine XS.iconst X145.here hx rfl (hb hby at_29) ?_
      exact kt
  have go151 : own_S p e below ST T145 (mkF m 30 #[iv sl, iv nn, rv b138, iv (own_lt sl nn), .unset, .unset, .unset, .unset] [(.int ex)]) := fun tt kt => go149 tt (sg150 _ kt)
  have hfin := own_exp sl nn ex hex
  have hs0 := own_self sl
  have go152 : own_S p e below ST T145 (mkF m 34 #[iv sl, iv nn, rv b138, iv (own_lt sl nn), iv ex, .unset, .unset, .unset] [(.int sl), (.ref b138)]) := fun tt kt => go151 tt (by
      refine XS.istore X145.here hx rfl (hb hby at_30) rfl (l' := #[iv sl, iv nn, rv b138, iv (own_lt sl nn), iv ex, .unset, .unset, .unset]) rfl ?_
      refine XS.aloadN X145.here hx rfl (hb hby at_32) rfl rfl ?_
      refine XS.iloadN X145.here hx rfl (hb hby at_33) rfl ?_
      exact kt)
  obtain ⟨cq153, kq153, q153a, q153b, q153c⟩ := isOf hZ eh145 f147
  obtain ⟨_, _, ⟨T153, L153, k153, n153⟩, -, X153, ⟨Lc153, hQ153, l153, y153, z153⟩, st153⟩ := X145.virtualBack hx (y := (⟨"com/example/ruleseer/ruleseer/gdl/Pattern$Bind", "boundBelow", "(I)Z"⟩ : MethodName)) (z := (⟨"com/example/ruleseer/ruleseer/gdl/Pattern$Bind", "boundBelow", "(I)Z"⟩ : MethodName)) hown (mvT hZ (W 16 rfl)) (mvT hZ (W 17 rfl)) (notFace_of_selects (args := #[]) (mvT hZ (W 19 rfl))) (mvT hZ (W 19 rfl)) (mvT hZ (W 18 rfl)) (by decide) (backOf (W := 0) (rm4 l Z a0 hw [] b138 sl sl T141.heap n0 zs146 Fi141) hZ (W 20 rfl) (W 2 rfl) (by decide) (by decide)) q153a q153c (g := (mkF m 34 #[iv sl, iv nn, rv b138, iv (own_lt sl nn), iv ex, .unset, .unset, .unset] [(.int sl), (.ref b138)])) rfl (by rw [hml]; rfl) (Steps.refl _) (argsL := [(.int sl)]) (rest := []) (lenOf pd43 rfl) rfl (by show 2 * 0 + _ ≤ _; exact Nat.le_of_eq rfl) (hb hby at_34) (fun _ _ => ⟨rfl, eh145, (by decide : 1 + 0 ≤ _), (by decide : 1 + 0 ≤ _)⟩)
  dsimp only [Pt.U, Pt.locs, Pt.cells, Pt.slots] at X153 l153 y153 z153 st153 hQ153
  subst l153 y153 z153
  obtain ⟨rfl, Nq153, eh153⟩ := hQ153
  have N153 := Fr.app N145 Nq153
  have go154 : own_S p e below ST T153 (mkF m 37 #[iv sl, iv nn, rv b138, iv (own_lt sl nn), iv ex, .unset, .unset, .unset] [(.int (own_lt sl sl))]) := fun tt kt => go152 tt (st153.trans kt)
  have go155 : own_S p e below ST T153 (mkF m 50 #[iv sl, iv nn, rv b138, iv (own_lt sl nn), iv ex, iv (1 : Int32), .unset, .unset] [(.int (2147483647 : Int32)), (.int sl)]) := fun tt kt => go154 tt (by
      refine XS.ifNo X153.here hx rfl (hb hby at_37) rfl ((if0 _ _).trans (teq hs0).2) ?_
      refine XS.iconst X153.here hx rfl (hb hby at_40) ?_
      refine XS.goto X153.here hx rfl (pc0 := 41) (pc' := 45) rfl (hb hby at_41) (by decide) (by decide) ?_
      refine XS.istore X153.here hx rfl (hb hby at_45) rfl (l' := #[iv sl, iv nn, rv b138, iv (own_lt sl nn), iv ex, iv (1 : Int32), .unset, .unset]) rfl ?_
      refine XS.iloadN X153.here hx rfl (hb hby at_47) rfl ?_
      refine X153.ldcInt hx hown (mvT hZ (W 21 rfl)) (g := (mkF m 48 #[iv sl, iv nn, rv b138, iv (own_lt sl nn), iv ex, iv (1 : Int32), .unset, .unset] [(.int sl)])) rfl (hb hby at_48) _ ?_
      exact kt)
  by_cases hmx : sl = (2147483647 : Int32)
  · have go156 : own_S p e below ST T153 (mkF m 63 #[iv sl, iv nn, rv b138, iv (own_lt sl nn), iv ex, iv (1 : Int32), .unset, .unset] []) := fun tt kt => go155 tt (by
        refine XS.icmpYes X153.here hx rfl (pc0 := 50) (pc' := 63) rfl (hb hby at_50) rfl (teq hmx).1 (by decide) (by decide) ?_
        exact kt)
    have go157 : own_S p e below ST T153 (mkF m 71 #[iv sl, iv nn, rv b138, iv (own_lt sl nn), iv ex, iv (1 : Int32), iv (1 : Int32), .unset] [(.ref b138)]) := fun tt kt => go156 tt (by
        refine XS.iconst X153.here hx rfl (hb hby at_63) ?_
        refine XS.goto X153.here hx rfl (pc0 := 64) (pc' := 68) rfl (hb hby at_64) (by decide) (by decide) ?_
        refine XS.istore X153.here hx rfl (hb hby at_68) rfl (l' := #[iv sl, iv nn, rv b138, iv (own_lt sl nn), iv ex, iv (1 : Int32), iv (1 : Int32), .unset]) rfl ?_
        refine XS.aloadN X153.here hx rfl (hb hby at_70) rfl rfl ?_
        exact kt)
    obtain ⟨cq158, kq158, q158a, q158b, q158c⟩ := isOf hZ eh153 f147
    obtain ⟨_, _, ⟨T158, L158, k158, n158⟩, -, X158, ⟨Lc158, hQ158, l158, y158, z158⟩, st158⟩ := X153.virtualBack hx (y := (⟨"com/example/ruleseer/ruleseer/gdl/Pattern$Bind", "bound", "()Lcom/example/ruleseer/ruleseer/gdl/Pattern;"⟩ : MethodName)) (z := (⟨"com/example/ruleseer/ruleseer/gdl/Pattern$Bind", "bound", "()Lcom/example/ruleseer/ruleseer/gdl/Pattern;"⟩ : MethodName)) hown (mvT hZ (W 22 rfl)) (mvT hZ (W 23 rfl)) (notFace_of_selects (args := #[]) (mvT hZ (W 25 rfl))) (mvT hZ (W 25 rfl)) (mvT hZ (W 24 rfl)) (by decide) (backOf (W := 0) (rm5 l Z a0 hw [] b138 sl T141.heap n0 zs146 Fi141) hZ (W 26 rfl) (W 2 rfl) (by decide) (by decide)) q158a q158c (g := (mkF m 71 #[iv sl, iv nn, rv b138, iv (own_lt sl nn), iv ex, iv (1 : Int32), iv (1 : Int32), .unset] [(.ref b138)])) rfl (by rw [hml]; rfl) (Steps.refl _) (argsL := []) (rest := []) (lenOf pd44 rfl) rfl (by show 2 * 0 + _ ≤ _; exact Nat.le_of_eq rfl) (hb hby at_71) (fun _ _ => ⟨rfl, eh153, (by decide : 1 + 1 ≤ _), (by decide : 1 + 1 ≤ _)⟩)
    dsimp only [Pt.U, Pt.locs, Pt.cells, Pt.slots] at X158 l158 y158 z158 st158 hQ158
    subst l158 y158 z158
    obtain ⟨b158, rfl, Nq158, K158, Eb158, Fb158⟩ := hQ158
    have N158 := Fr.app N153 Nq158
    have go159 : own_S p e below ST T158 (mkF m 74 #[iv sl, iv nn, rv b138, iv (own_lt sl nn), iv ex, iv (1 : Int32), iv (1 : Int32), .unset] [(.ref b158)]) := fun tt kt => go157 tt (st158.trans kt)
    have go160 : own_S p e below ST T158 (mkF m 75 #[iv sl, iv nn, rv b138, iv (own_lt sl nn), iv ex, iv (1 : Int32), iv (1 : Int32), .unset] [(.int nn), (.ref b158)]) := fun tt kt => go159 tt (by
        refine XS.iloadN X158.here hx rfl (hb hby at_74) rfl ?_
        exact kt)
    have zs162 := (Nat.le_trans zs146 K158.1)
    obtain ⟨cq161, kq161, q161a, q161b, q161c⟩ := isOf hZ rfl Eb158
    obtain ⟨_, _, ⟨T161, L161, k161, n161⟩, -, X161, ⟨Lc161, hQ161, l161, y161, z161⟩, st161⟩ := X158.interfaceBack hx (xi := (⟨"com/example/ruleseer/ruleseer/gdl/Pattern", "boundBelow", "(I)Z"⟩ : MethodName)) (y := (⟨"com/example/ruleseer/ruleseer/gdl/Pattern$Check", "boundBelow", "(I)Z"⟩ : MethodName)) hown (mvT hZ (W 36 rfl)) (mvT hZ (W 37 rfl)) (mvT hZ (W 38 rfl)) (mvT hZ (W 39 rfl)) (mvT hZ (W 40 rfl)) (mvT hZ (W 41 rfl)) (mvT hZ (W 42 rfl)) (mvT hZ (W 43 rfl)) (by decide) (backOf (W := 0) (rm7 l Z a0 hw [] b158 nn sl T158.heap n0 zs162 Fb158) hZ (W 44 rfl) (W 29 rfl) (by decide) (by decide)) q161a q161b q161c (g := (mkF m 75 #[iv sl, iv nn, rv b138, iv (own_lt sl nn), iv ex, iv (1 : Int32), iv (1 : Int32), .unset] [(.int nn), (.ref b158)])) rfl (by rw [hml]; rfl) (Steps.refl _) (argsL := [(.int nn)]) (rest := []) (lenOf pd43 rfl) rfl (by show 2 * 0 + _ ≤ _; exact Nat.le_of_eq rfl) (hb hby at_75) (fun _ _ => ⟨rfl, rfl, (by decide : 2 + 0 ≤ _), (by decide : 2 + 0 ≤ _)⟩)
    dsimp only [Pt.U, Pt.locs, Pt.cells, Pt.slots] at X161 l161 y161 z161 st161 hQ161
    subst l161 y161 z161
    obtain ⟨rfl, Nq161, eh161⟩ := hQ161
    have N161 := Fr.app N158 Nq161
    have go163 : own_S p e below ST T161 (mkF m 80 #[iv sl, iv nn, rv b138, iv (own_lt sl nn), iv ex, iv (1 : Int32), iv (1 : Int32), .unset] [(.int (own_lt sl nn))]) := fun tt kt => go160 tt (st161.trans kt)
    have go164 : own_S p e below ST T161 (mkF m 94 #[iv sl, iv nn, rv b138, iv (own_lt sl nn), iv ex, iv (1 : Int32), iv (1 : Int32), iv (1 : Int32)] [(.int ex), (.int (own_lt sl nn))]) := fun tt kt => go163 tt (by
        refine XS.iloadN X161.here hx rfl (hb hby at_80) rfl ?_
        refine XS.icmpNo X161.here hx rfl (hb hby at_81) rfl (teq (rfl : (own_lt sl nn) = (own_lt sl nn))).2 ?_
        refine XS.iconst X161.here hx rfl (hb hby at_84) ?_
        refine XS.goto X161.here hx rfl (pc0 := 85) (pc' := 89) rfl (hb hby at_85) (by decide) (by decide) ?_
        refine XS.istore X161.here hx rfl (hb hby at_89) rfl (l' := #[iv sl, iv nn, rv b138, iv (own_lt sl nn), iv ex, iv (1 : Int32), iv (1 : Int32), iv (1 : Int32)]) rfl ?_
        refine XS.iloadN X161.here hx rfl (hb hby at_91) rfl ?_
        show Steps p.tables e below (T161.setTop (mkF m 92 #[iv sl, iv nn, rv b138, iv (own_lt sl nn), iv ex, iv (1 : Int32), iv (1 : Int32), iv (1 : Int32)] [(.int (own_lt sl nn))])) _
        refine XS.iload X161.here hx rfl (hb hby at_92) rfl ?_
        exact kt)
    have go165 : own_S p e below ST T161 (mkF m 117 #[iv sl, iv nn, rv b138, iv (own_lt sl nn), iv ex, iv (1 : Int32), iv (1 : Int32), iv (1 : Int32)] [(.int (1 : Int32))]) := fun tt kt => go164 tt (by
        refine XS.icmpNo X161.here hx rfl (hb hby at_94) rfl (teq hfin).2 ?_
        refine XS.iload X161.here hx rfl (hb hby at_97) rfl ?_
        refine XS.ifNo X161.here hx rfl (hb hby at_99) rfl ((if0 _ _).trans (feq (by decide : ¬ ((1 : Int32) = (0 : Int32)))).1) ?_
        refine XS.iload X161.here hx rfl (hb hby at_102) rfl ?_
        refine XS.ifNo X161.here hx rfl (hb hby at_104) rfl ((if0 _ _).trans (feq (by decide : ¬ ((1 : Int32) = (0 : Int32)))).1) ?_
        refine XS.iload X161.here hx rfl (hb hby at_107) rfl ?_
        show Steps p.tables e below (T161.setTop (mkF m 109 #[iv sl, iv nn, rv b138, iv (own_lt sl nn), iv ex, iv (1 : Int32), iv (1 : Int32), iv (1 : Int32)] [(.int (1 : Int32))])) _
        refine XS.ifNo X161.here hx rfl (hb hby at_109) rfl ((if0 _ _).trans (feq (by decide : ¬ ((1 : Int32) = (0 : Int32)))).1) ?_
        refine XS.iconst X161.here hx rfl (hb hby at_112) ?_
        refine XS.goto X161.here hx rfl (pc0 := 113) (pc' := 117) rfl (hb hby at_113) (by decide) (by decide) ?_
        exact kt)
    obtain ⟨fs, hr, hrun, hended, hW, hsame⟩ := X161.leave (v := some (.int (1 : Int32))) (fun h => by rw [Bd.returns] at h; cases h)
    refine ⟨_, _, pre0 _ (go165 _ ?_), hrun, hended, _, _, rfl, ?_, ⟨_, rfl⟩, hW, hsame.mono (by decide) (by decide)⟩
    · exact retN X161 hx (t := .boolean) Bd.returns (by simp) (hb hby at_117) hr
    · show Q0 Z sl nn h0 n0 _ T161.heap _
      rw [eh161]
      exact ⟨rfl, N161⟩
  · have go166 : own_S p e below ST T153 (mkF m 53 #[iv sl, iv nn, rv b138, iv (own_lt sl nn), iv ex, iv (1 : Int32), .unset, .unset] []) := fun tt kt => go155 tt (by
        refine XS.icmpNo X153.here hx rfl (hb hby at_50) rfl (feq hmx).1 ?_
        exact kt)
    have hup := own_up sl hmx
    have go167 : own_S p e below ST T153 (mkF m 57 #[iv sl, iv nn, rv b138, iv (own_lt sl nn), iv ex, iv (1 : Int32), .unset, .unset] [(.int (sl + (1 : Int32))), (.ref b138)]) := fun tt kt => go166 tt (by
        refine XS.aloadN X153.here hx rfl (hb hby at_53) rfl rfl ?_
        refine XS.iloadN X153.here hx rfl (hb hby at_54) rfl ?_
        refine XS.iconst X153.here hx rfl (hb hby at_55) ?_
        refine XS.iadd X153.here hx rfl (hb hby at_56) rfl ?_
        exact kt)
    obtain ⟨cq168, kq168, q168a, q168b, q168c⟩ := isOf hZ eh153 f147
    obtain ⟨_, _, ⟨T168, L168, k168, n168⟩, -, X168, ⟨Lc168, hQ168, l168, y168, z168⟩, st168⟩ := X153.virtualBack hx (y := (⟨"com/example/ruleseer/ruleseer/gdl/Pattern$Bind", "boundBelow", "(I)Z"⟩ : MethodName)) (z := (⟨"com/example/ruleseer/ruleseer/gdl/Pattern$Bind", "boundBelow", "(I)Z"⟩ : MethodName)) hown (mvT hZ (W 16 rfl)) (mvT hZ (W 17 rfl)) (notFace_of_selects (args := #[]) (mvT hZ (W 19 rfl))) (mvT hZ (W 19 rfl)) (mvT hZ (W 18 rfl)) (by decide) (backOf (W := 0) (rm4 l Z a0 hw [] b138 (sl + (1 : Int32)) sl T141.heap n0 zs146 Fi141) hZ (W 20 rfl) (W 2 rfl) (by decide) (by decide)) q168a q168c (g := (mkF m 57 #[iv sl, iv nn, rv b138, iv (own_lt sl nn), iv ex, iv (1 : Int32), .unset, .unset] [(.int (sl + (1 : Int32))), (.ref b138)])) rfl (by rw [hml]; rfl) (Steps.refl _) (argsL := [(.int (sl + (1 : Int32)))]) (rest := []) (lenOf pd43 rfl) rfl (by show 2 * 0 + _ ≤ _; exact Nat.le_of_eq rfl) (hb hby at_57) (fun _ _ => ⟨rfl, eh153, (by decide : 1 + 0 ≤ _), (by decide : 1 + 0 ≤ _)⟩)
    dsimp only [Pt.U, Pt.locs, Pt.cells, Pt.slots] at X168 l168 y168 z168 st168 hQ168
    subst l168 y168 z168
    obtain ⟨rfl, Nq168, eh168⟩ := hQ168
    have N168 := Fr.app N153 Nq168
    have go169 : own_S p e below ST T168 (mkF m 60 #[iv sl, iv nn, rv b138, iv (own_lt sl nn), iv ex, iv (1 : Int32), .unset, .unset] [(.int (own_lt sl (sl + (1 : Int32))))]) := fun tt kt => go167 tt (st168.trans kt)
    have go170 : own_S p e below ST T168 (mkF m 71 #[iv sl, iv nn, rv b138, iv (own_lt sl nn), iv ex, iv (1 : Int32), iv (1 : Int32), .unset] [(.ref b138)]) := fun tt kt => go169 tt (by
        refine XS.ifNo X168.here hx rfl (hb hby at_60) rfl ((if0 _ _).trans (feq hup).1) ?_
        refine XS.iconst X168.here hx rfl (hb hby at_63) ?_
        refine XS.goto X168.here hx rfl (pc0 := 64) (pc' := 68) rfl (hb hby at_64) (by decide) (by decide) ?_
        refine XS.istore X168.here hx rfl (hb hby at_68) rfl (l' := #[iv sl, iv nn, rv b138, iv (own_lt sl nn), iv ex, iv (1 : Int32), iv (1 : Int32), .unset]) rfl ?_
        refine XS.aloadN X168.here hx rfl (hb hby at_70) rfl rfl ?_
        exact kt)
    obtain ⟨cq171, kq171, q171a, q171b, q171c⟩ := isOf hZ eh168 f147
    obtain ⟨_, _, ⟨T171, L171, k171, n171⟩, -, X171, ⟨Lc171, hQ171, l171, y171, z171⟩, st171⟩ := X168.virtualBack hx (y := (⟨"com/example/ruleseer/ruleseer/gdl/Pattern$Bind", "bound", "()Lcom/example/ruleseer/ruleseer/gdl/Pattern;"⟩ : MethodName)) (z := (⟨"com/example/ruleseer/ruleseer/gdl/Pattern$Bind", "bound", "()Lcom/example/ruleseer/ruleseer/gdl/Pattern;"⟩ : MethodName)) hown (mvT hZ (W 22 rfl)) (mvT hZ (W 23 rfl)) (notFace_of_selects (args := #[]) (mvT hZ (W 25 rfl))) (mvT hZ (W 25 rfl)) (mvT hZ (W 24 rfl)) (by decide) (backOf (W := 0) (rm5 l Z a0 hw [] b138 sl T141.heap n0 zs146 Fi141) hZ (W 26 rfl) (W 2 rfl) (by decide) (by decide)) q171a q171c (g := (mkF m 71 #[iv sl, iv nn, rv b138, iv (own_lt sl nn), iv ex, iv (1 : Int32), iv (1 : Int32), .unset] [(.ref b138)])) rfl (by rw [hml]; rfl) (Steps.refl _) (argsL := []) (rest := []) (lenOf pd44 rfl) rfl (by show 2 * 0 + _ ≤ _; exact Nat.le_of_eq rfl) (hb hby at_71) (fun _ _ => ⟨rfl, eh168, (by decide : 1 + 1 ≤ _), (by decide : 1 + 1 ≤ _)⟩)
    dsimp only [Pt.U, Pt.locs, Pt.cells, Pt.slots] at X171 l171 y171 z171 st171 hQ171
    subst l171 y171 z171
    obtain ⟨b171, rfl, Nq171, K171, Eb171, Fb171⟩ := hQ171
    have N171 := Fr.app N168 Nq171
    have go172 : own_S p e below ST T171 (mkF m 74 #[iv sl, iv nn, rv b138, iv (own_lt sl nn), iv ex, iv (1 : Int32), iv (1 : Int32), .unset] [(.ref b171)]) := fun tt kt => go170 tt (st171.trans kt)
    have go173 : own_S p e below ST T171 (mkF m 75 #[iv sl, iv nn, rv b138, iv (own_lt sl nn), iv ex, iv (1 : Int32), iv (1 : Int32), .unset] [(.int nn), (.ref b171)]) := fun tt kt => go172 tt (by
        refine XS.iloadN X171.here hx rfl (hb hby at_74) rfl ?_
        exact kt)
    have zs175 := (Nat.le_trans zs146 K171.1)
    obtain ⟨cq174, kq174, q174a, q174b, q174c⟩ := isOf hZ rfl Eb171
    obtain ⟨_, _, ⟨T174, L174, k174, n174⟩, -, X174, ⟨Lc174, hQ174, l174, y174, z174⟩, st174⟩ := X171.interfaceBack hx (xi := (⟨"com/example/ruleseer/ruleseer/gdl/Pattern", "boundBelow", "(I)Z"⟩ : MethodName)) (y := (⟨"com/example/ruleseer/ruleseer/gdl/Pattern$Check", "boundBelow", "(I)Z"⟩ : MethodName)) hown (mvT hZ (W 36 rfl)) (mvT hZ (W 37 rfl)) (mvT hZ (W 38 rfl)) (mvT hZ (W 39 rfl)) (mvT hZ (W 40 rfl)) (mvT hZ (W 41 rfl)) (mvT hZ (W 42 rfl)) (mvT hZ (W 43 rfl)) (by decide) (backOf (W := 0) (rm7 l Z a0 hw [] b171 nn sl T171.heap n0 zs175 Fb171) hZ (W 44 rfl) (W 29 rfl) (by decide) (by decide)) q174a q174b q174c (g := (mkF m 75 #[iv sl, iv nn, rv b138, iv (own_lt sl nn), iv ex, iv (1 : Int32), iv (1 : Int32), .unset] [(.int nn), (.ref b171)])) rfl (by rw [hml]; rfl) (Steps.refl _) (argsL := [(.int nn)]) (rest := []) (lenOf pd43 rfl) rfl (by show 2 * 0 + _ ≤ _; exact Nat.le_of_eq rfl) (hb hby at_75) (fun _ _ => ⟨rfl, rfl, (by decide : 2 + 0 ≤ _), (by decide : 2 + 0 ≤ _)⟩)
    dsimp only [Pt.U, Pt.locs, Pt.cells, Pt.slots] at X174 l174 y174 z174 st174 hQ174
    subst l174 y174 z174
    obtain ⟨rfl, Nq174, eh174⟩ := hQ174
    have N174 := Fr.app N171 Nq174
    have go176 : own_S p e below ST T174 (mkF m 80 #[iv sl, iv nn, rv b138, iv (own_lt sl nn), iv ex, iv (1 : Int32), iv (1 : Int32), .unset] [(.int (own_lt sl nn))]) := fun tt kt => go173 tt (st174.trans kt)
    have go177 : own_S p e below ST T174 (mkF m 94 #[iv sl, iv nn, rv b138, iv (own_lt sl nn), iv ex, iv (1 : Int32), iv (1 : Int32), iv (1 : Int32)] [(.int ex), (.int (own_lt sl nn))]) := fun tt kt => go176 tt (by
        refine XS.iloadN X174.here hx rfl (hb hby at_80) rfl ?_
        refine XS.icmpNo X174.here hx rfl (hb hby at_81) rfl (teq (rfl : (own_lt sl nn) = (own_lt sl nn))).2 ?_
        refine XS.iconst X174.here hx rfl (hb hby at_84) ?_
        refine XS.goto X174.here hx rfl (pc0 := 85) (pc' := 89) rfl (hb hby at_85) (by decide) (by decide) ?_
        refine XS.istore X174.here hx rfl (hb hby at_89) rfl (l' := #[iv sl, iv nn, rv b138, iv (own_lt sl nn), iv ex, iv (1 : Int32), iv (1 : Int32), iv (1 : Int32)]) rfl ?_
        refine XS.iloadN X174.here hx rfl (hb hby at_91) rfl ?_
        show Steps p.tables e below (T174.setTop (mkF m 92 #[iv sl, iv nn, rv b138, iv (own_lt sl nn), iv ex, iv (1 : Int32), iv (1 : Int32), iv (1 : Int32)] [(.int (own_lt sl nn))])) _
        refine XS.iload X174.here hx rfl (hb hby at_92) rfl ?_
        exact kt)
    have go178 : own_S p e below ST T174 (mkF m 117 #[iv sl, iv nn, rv b138, iv (own_lt sl nn), iv ex, iv (1 : Int32), iv (1 : Int32), iv (1 : Int32)] [(.int (1 : Int32))]) := fun tt kt => go177 tt (by
        refine XS.icmpNo X174.here hx rfl (hb hby at_94) rfl (teq hfin).2 ?_
        refine XS.iload X174.here hx rfl (hb hby at_97) rfl ?_
        refine XS.ifNo X174.here hx rfl (hb hby at_99) rfl ((if0 _ _).trans (feq (by decide : ¬ ((1 : Int32) = (0 : Int32)))).1) ?_
        refine XS.iload X174.here hx rfl (hb hby at_102) rfl ?_
        refine XS.ifNo X174.here hx rfl (hb hby at_104) rfl ((if0 _ _).trans (feq (by decide : ¬ ((1 : Int32) = (0 : Int32)))).1) ?_
        refine XS.iload X174.here hx rfl (hb hby at_107) rfl ?_
        show Steps p.tables e below (T174.setTop (mkF m 109 #[iv sl, iv nn, rv b138, iv (own_lt sl nn), iv ex, iv (1 : Int32), iv (1 : Int32), iv (1 : Int32)] [(.int (1 : Int32))])) _
        refine XS.ifNo X174.here hx rfl (hb hby at_109) rfl ((if0 _ _).trans (feq (by decide : ¬ ((1 : Int32) = (0 : Int32)))).1) ?_
        refine XS.iconst X174.here hx rfl (hb hby at_112) ?_
        refine XS.goto X174.here hx rfl (pc0 := 113) (pc' := 117) rfl (hb hby at_113) (by decide) (by decide) ?_
        exact kt)
    obtain ⟨fs, hr, hrun, hended, hW, hsame⟩ := X174.leave (v := some (.int (1 : Int32))) (fun h => by rw [Bd.returns] at h; cases h)
    refine ⟨_, _, pre0 _ (go178 _ ?_), hrun, hended, _, _, rfl, ?_, ⟨_, rfl⟩, hW, hsame.mono (by decide) (by decide)⟩
    · exact retN X174 hx (t := .boolean) Bd.returns (by simp) (hb hby at_117) hr
    · show Q0 Z sl nn h0 n0 _ T174.heap _
      rw [eh174]
      exact ⟨rfl, N174⟩
set_option maxRecDepth 65536 in
set_option maxHeartbeats 40000000 in
theorem comes_1 {Post : Tables → Env → Array Value → State → Outcome → State → Prop} (hpost : ∀ tb e args s v u, (limb_1_1.after args s (.returned v) u = true ∧ limb_1_2.after args s (.returned v) u = true ∧ True) → FrameEnd s (.returned v) u (Jvm.fieldLocs frame_1_writes args s ++ Jvm.arrayLocs frame_1_arrays args s ++ Jvm.staticLocs frame_1_statics s) 16 128 → Post tb e args s (.returned v) u) :
    ArmFor flags0 classFile x code maxLocals ret World_1 tables_1 room_1 Calls_1 rest_1 Pre_1 Post := by
  intro l hfl _ _ p e ha hc hk s m args below hf hA hF happ hP
  obtain ⟨hcalls, hrest, hpre⟩ := hP
  obtain ⟨-, -, -, hnamed, -, -, -, hat⟩ := (Spec.applies_iff hf).mp happ
  obtain ⟨hg, hn⟩ := and_e (Cond.before_iff.mp (show (Jvm.Cond.and given_1 narrow_1).before args s = true from hpre))
  obtain ⟨gg1, gg2⟩ := and_e hg
  obtain ⟨gg3, gg4⟩ := and_e gg2
  obtain ⟨w0, w1, rfl⟩ : ∃ w0 w1 : Value, args = #[w0, w1] := by
    have hs : args.size = 2 := by simpa [Cond.value, given_1] using gg1
    obtain ⟨L⟩ := args
    match L, hs with
    | [w0, w1], _ => exact ⟨w0, w1, rfl⟩
  have hw := fun d (hd : d ∈ tables_1) => atoms_spec (ws := Jvm.Cond.code x code maxLocals ret :: tables_1) hat d (List.mem_cons_of_mem _ hd)
  have W : ∀ {d : Jvm.Cond} (i : Nat), tables_1[i]? = some d → d.before _ s = true := fun i h => hw _ (List.mem_of_getElem? h)
  have hfit : Fit s := fun {y c} hc i hi => by
    obtain ⟨ha, rfl⟩ := Array.getElem?_eq_some_iff.mp hc
    have q := List.all_eq_true.mp ((Array.all_eq_true_iff_forall_mem.mp hF) _ (Array.getElem_mem ha)) i (List.mem_range.mpr hi)
    simpa [Array.getElem?_eq_getElem hi] using q
  obtain ⟨i0, ei0⟩ := is_v gg3
  obtain rfl : w0 = (.int i0) := Option.some.inj ei0
  obtain ⟨i1, ei1⟩ := is_v gg4
  obtain rfl : w1 = (.int i1) := Option.some.inj ei1
  obtain ⟨n, o, h1, h2, h3, _, L, rfl, ⟨rfl, N⟩, hq⟩ := rm0 l s _ hw tables_1 i0 i1 s.heap s.heap.size (Nat.le_refl _)  p e ha hc hk s m _ below hf ((Spec.applies_iff_loose hf).mp happ).1 ⟨rfl, State.Warmed39.refl s, rfl⟩ trivial
  refine ⟨n, _, h1, h2, h3, hpost _ _ _ _ _ _ ⟨Cond.after_iff.mpr rfl, Cond.after_iff.mpr (eq_i res_at (Term.int_eval (1)) rfl), trivial⟩ ⟨hq.1, hq.2.1, (hq.2.2.sift fun y hy => Or.inr (N y hy)).mono (by decide) (by decide)⟩⟩
theorem main_1_1 : Claimed_1_1 := comes_1 fun _ _ _ _ _ _ h hF => ⟨h.1, hF⟩
theorem main_1_2 : Claimed_1_2 := comes_1 fun _ _ _ _ _ _ h hF => ⟨h.2.1, hF⟩
end Jvm.Pilot.@@N@@
namespace Jvm.Pilot.@@N@@
open Jvm Jvm.ClassFile Sem Op Lib Jvm.Free Jvm.Stand Jvm.Pilot.@@N@@.Jvm.D
/-! MADE BY PROGRAM (witnessworld.py) out of the Statement's table words and the real class files: 12 classes; the members and pool entries that the words name. The judged class is class 1, her method 1. -/
namespace start1
open Jvm.ClassFile
def u (s : String) : CpInfo := .utf8 (stringToUtf16 s)
/-- a pool by its gaps: so many unusable entries, then the entry; so many at the end -/
def gap : Nat → List CpInfo → List CpInfo
  | 0, r => r
  | n + 1, r => .unusable :: gap n r
def poolList (es : List (Nat × CpInfo)) (last : Nat) : List CpInfo := es.foldr (fun e r => gap e.1 (e.2 :: r)) (gap last [])
def pool (es : List (Nat × CpInfo)) (last : Nat) : Array CpInfo := ⟨poolList es last⟩
def fileOf (pool : Array CpInfo) (this : Nat) (attrs : Array Attribute := #[]) (ms : Array MethodInfo := #[]) (fl : Nat := 33) (sup : Nat := 0) (ifs : Array Nat := #[]) (fds : Array FieldInfo := #[]) : ClassFile where
  minorVersion := 0
  majorVersion := 65
  constantPool := pool
  accessFlags := fl
  thisClass := this
  superClass := sup
  interfaces := ifs
  fields := fds
  methods := ms
  attributes := attrs
def plain (name : String) (sup : Option ClassId) : Class where
  name := name
  kind := .ordinary
  loader := none
  accessFlags := 33
  super := sup
  interfaces := #[]
  cf := none
  fields := #[]
  methods := #[]
  instanceTypes := #[]
  staticTypes := #[]
  resolved := #[]
  callSites := []
  init := .initialized
  statics := none
  mirror := none

def pool0 : Array CpInfo := pool [(5, u "<init>"), (0, u "()V"), (1, .class_ 10), (1, u "java/lang/Object")] 113

def k0c0 : Code := { maxStack := 0, maxLocals := 1, code := object_method_1_code, exceptionTable := #[], attributes := #[] }
def k0m0 : Method := { name := "<init>", desc := "()V", sig := { parameters := [], returnType := none }, accessFlags := 1, code := some k0c0 }
/-- java/lang/Object -/
def k0 : Class := { plain "java/lang/Object" none with
  accessFlags := 33
  interfaces := #[]
  cf := some (fileOf pool0 8 #[] #[{ accessFlags := 1, nameIndex := 5, descriptorIndex := 6, attributes := #[] }] 33 0 #[] #[])
  fields := #[]
  methods := #[k0m0]
  instanceTypes := #[]
  staticTypes := #[]
  resolved := Array.replicate 124 none
  statics := none }

def pool1 : Array CpInfo := pool [(2, .class_ 4), (1, u "java/lang/Object"), (0, u "<init>"), (0, u "()V"), (0, .class_ 8), (0, u "com/example/ruleseer/ruleseer/gdl/Pattern$Bind"), (0, .methodref 7 10), (0, .nameAndType 5 11), (0, u "(I)V"), (0, .methodref 7 13), (0, .nameAndType 14 15), (0, u "boundBelow"), (0, u "(I)Z"), (2, .integer 2147483647), (0, .methodref 7 20), (0, .nameAndType 21 22), (0, u "bound"), (0, u "()Lcom/example/ruleseer/ruleseer/gdl/Pattern;"), (0, .interfaceMethodref 24 13), (0, .class_ 25), (0, u "com/example/ruleseer/ruleseer/gdl/Pattern"), (0, .class_ 27), (0, u "com/example/ruleseer/ruleseer/gdl/BindBoundBelowPinLaw"), (2, u "law"), (0, u "(II)Z")] 5

def k1m0 : Method := { name := "<init>", desc := "()V", sig := { parameters := [], returnType := none }, accessFlags := 1, code := none }
def k1c1 : Code := { maxStack := 4, maxLocals := 8, code := code, exceptionTable := #[], attributes := #[] }
def k1m1 : Method := { name := "law", desc := "(II)Z", sig := { parameters := [.int, .int], returnType := some .boolean }, accessFlags := 9, code := some k1c1 }
/-- com/example/ruleseer/ruleseer/gdl/BindBoundBelowPinLaw -/
def k1 : Class := { plain "com/example/ruleseer/ruleseer/gdl/BindBoundBelowPinLaw" (some 0) with
  accessFlags := 49
  interfaces := #[]
  cf := some (fileOf pool1 26 #[] #[{ accessFlags := 1, nameIndex := 5, descriptorIndex := 6, attributes := #[] }, { accessFlags := 9, nameIndex := 30, descriptorIndex := 31, attributes := #[] }] 49 2 #[] #[])
  fields := #[]
  methods := #[k1m0, k1m1]
  instanceTypes := #[]
  staticTypes := #[]
  resolved := Array.replicate 37 none
  statics := none }

def pool2 : Array CpInfo := pool [(1, .methodref 2 3), (0, .class_ 4), (0, .nameAndType 5 6), (0, u "java/lang/Object"), (0, u "<init>"), (0, u "()V"), (0, .class_ 8), (0, u "java/lang/Record")] 13

def k2c0 : Code := { maxStack := 1, maxLocals := 1, code := jdk_30_method_1_code, exceptionTable := #[], attributes := #[] }
def k2m0 : Method := { name := "<init>", desc := "()V", sig := { parameters := [], returnType := none }, accessFlags := 4, code := some k2c0 }
/-- java/lang/Record -/
def k2 : Class := { plain "java/lang/Record" (some 0) with
  accessFlags := 1057
  interfaces := #[]
  cf := some (fileOf pool2 7 #[] #[{ accessFlags := 4, nameIndex := 5, descriptorIndex := 6, attributes := #[] }] 1057 2 #[] #[])
  fields := #[]
  methods := #[k2m0]
  instanceTypes := #[]
  staticTypes := #[]
  resolved := Array.replicate 22 none
  statics := none }

def pool3 : Array CpInfo := pool [(2, .class_ 4), (1, u "com/example/ruleseer/ruleseer/gdl/Pattern"), (30, .class_ 36), (0, u "java/lang/Object"), (4, u "boundBelow"), (0, u "(I)Z"), (17, .class_ 61), (0, u "com/example/ruleseer/ruleseer/gdl/Pattern$Struct"), (0, .class_ 63), (0, u "com/example/ruleseer/ruleseer/gdl/Pattern$Check"), (0, .class_ 65), (0, u "com/example/ruleseer/ruleseer/gdl/Pattern$Bind"), (0, .class_ 67), (0, u "com/example/ruleseer/ruleseer/gdl/Pattern$Ground")] 32

def k3m0 : Method := { name := "boundBelow", desc := "(I)Z", sig := { parameters := [.int], returnType := some .boolean }, accessFlags := 1025, code := none }
/-- com/example/ruleseer/ruleseer/gdl/Pattern -/
def k3 : Class := { plain "com/example/ruleseer/ruleseer/gdl/Pattern" (some 0) with
  accessFlags := 1536
  interfaces := #[]
  cf := some (fileOf pool3 2 #[.nestMembers #[60, 62, 64, 66]] #[{ accessFlags := 1025, nameIndex := 41, descriptorIndex := 42, attributes := #[] }] 1536 35 #[] #[])
  fields := #[]
  methods := #[k3m0]
  instanceTypes := #[]
  staticTypes := #[]
  resolved := Array.replicate 100 none
  statics := none }

def pool4 : Array CpInfo := pool [(1, .methodref 2 3), (0, .class_ 4), (0, .nameAndType 5 6), (0, u "java/lang/Record"), (0, u "<init>"), (0, u "()V"), (0, .fieldref 8 9), (0, .class_ 10), (0, .nameAndType 11 12), (0, u "com/example/ruleseer/ruleseer/gdl/Pattern$Bind"), (0, u "slot"), (0, u "I"), (13, .class_ 27), (0, u "com/example/ruleseer/ruleseer/gdl/Pattern$Check"), (0, .methodref 26 29), (0, .nameAndType 5 30), (0, u "(I)V"), (12, .class_ 44), (0, u "com/example/ruleseer/ruleseer/gdl/Pattern"), (8, u "boundBelow"), (0, u "(I)Z"), (1, u "bound"), (0, u "()Lcom/example/ruleseer/ruleseer/gdl/Pattern;")] 33

def k4c0 : Code := { maxStack := 2, maxLocals := 2, code := prog_76_method_1_code, exceptionTable := #[], attributes := #[] }
def k4m0 : Method := { name := "<init>", desc := "(I)V", sig := { parameters := [.int], returnType := none }, accessFlags := 1, code := some k4c0 }
def k4c1 : Code := { maxStack := 2, maxLocals := 2, code := prog_76_method_6_code, exceptionTable := #[], attributes := #[] }
def k4m1 : Method := { name := "boundBelow", desc := "(I)Z", sig := { parameters := [.int], returnType := some .boolean }, accessFlags := 1, code := some k4c1 }
def k4c2 : Code := { maxStack := 3, maxLocals := 1, code := prog_76_method_7_code, exceptionTable := #[], attributes := #[] }
def k4m2 : Method := { name := "bound", desc := "()Lcom/example/ruleseer/ruleseer/gdl/Pattern;", sig := { parameters := [], returnType := some (.object "com/example/ruleseer/ruleseer/gdl/Pattern") }, accessFlags := 1, code := some k4c2 }
/-- com/example/ruleseer/ruleseer/gdl/Pattern$Bind -/
def k4 : Class := { plain "com/example/ruleseer/ruleseer/gdl/Pattern$Bind" (some 2) with
  accessFlags := 49
  interfaces := #[3]
  cf := some (fileOf pool4 8 #[.nestHost 43] #[{ accessFlags := 1, nameIndex := 5, descriptorIndex := 30, attributes := #[] }, { accessFlags := 1, nameIndex := 53, descriptorIndex := 54, attributes := #[] }, { accessFlags := 1, nameIndex := 56, descriptorIndex := 57, attributes := #[] }] 49 2 #[43] #[{ accessFlags := 18, nameIndex := 11, descriptorIndex := 12, attributes := #[] }])
  fields := #[{ name := "slot", type := .int, accessFlags := 18, slot := 0, constantValue := 0 }]
  methods := #[k4m0, k4m1, k4m2]
  instanceTypes := #[.int]
  staticTypes := #[]
  resolved := Array.replicate 91 none
  statics := none }

def pool5 : Array CpInfo := pool [(1, .methodref 2 3), (0, .class_ 4), (0, .nameAndType 5 6), (0, u "java/lang/Record"), (0, u "<init>"), (0, u "()V"), (0, .fieldref 8 9), (0, .class_ 10), (0, .nameAndType 11 12), (0, u "com/example/ruleseer/ruleseer/gdl/Pattern$Check"), (0, u "slot"), (0, u "I"), (12, .class_ 26), (0, u "com/example/ruleseer/ruleseer/gdl/Pattern"), (0, u "(I)V"), (11, u "boundBelow"), (0, u "(I)Z")] 26

def k5c0 : Code := { maxStack := 2, maxLocals := 2, code := prog_77_method_1_code, exceptionTable := #[], attributes := #[] }
def k5m0 : Method := { name := "<init>", desc := "(I)V", sig := { parameters := [.int], returnType := none }, accessFlags := 1, code := some k5c0 }
def k5c1 : Code := { maxStack := 2, maxLocals := 2, code := prog_77_method_6_code, exceptionTable := #[], attributes := #[] }
def k5m1 : Method := { name := "boundBelow", desc := "(I)Z", sig := { parameters := [.int], returnType := some .boolean }, accessFlags := 1, code := some k5c1 }
/-- com/example/ruleseer/ruleseer/gdl/Pattern$Check -/
def k5 : Class := { plain "com/example/ruleseer/ruleseer/gdl/Pattern$Check" (some 2) with
  accessFlags := 49
  interfaces := #[3]
  cf := some (fileOf pool5 8 #[.nestHost 25] #[{ accessFlags := 1, nameIndex := 5, descriptorIndex := 27, attributes := #[] }, { accessFlags := 1, nameIndex := 39, descriptorIndex := 40, attributes := #[] }] 49 2 #[25] #[{ accessFlags := 18, nameIndex := 11, descriptorIndex := 12, attributes := #[] }])
  fields := #[{ name := "slot", type := .int, accessFlags := 18, slot := 0, constantValue := 0 }]
  methods := #[k5m0, k5m1]
  instanceTypes := #[.int]
  staticTypes := #[]
  resolved := Array.replicate 67 none
  statics := none }

def pool6 : Array CpInfo := pool [(1, u "java/lang/Cloneable"), (0, .class_ 1), (0, u "java/lang/Object"), (0, .class_ 3)] 3

/-- java/lang/Cloneable -/
def k6 : Class := { plain "java/lang/Cloneable" (some 0) with
  accessFlags := 1537
  interfaces := #[]
  cf := some (fileOf pool6 2 #[] #[] 1537 4 #[] #[])
  fields := #[]
  methods := #[]
  instanceTypes := #[]
  staticTypes := #[]
  resolved := Array.replicate 8 none
  statics := none }

def pool7 : Array CpInfo := pool [(1, u "java/io/Serializable"), (0, .class_ 1), (0, u "java/lang/Object"), (0, .class_ 3)] 3

/-- java/io/Serializable -/
def k7 : Class := { plain "java/io/Serializable" (some 0) with
  accessFlags := 1537
  interfaces := #[]
  cf := some (fileOf pool7 2 #[] #[] 1537 4 #[] #[])
  fields := #[]
  methods := #[]
  instanceTypes := #[]
  staticTypes := #[]
  resolved := Array.replicate 8 none
  statics := none }

/-- the primitive byte -/
def k8 : Class := { plain "byte" none with kind := .primitive 'B', accessFlags := 0x411 }
/-- [B -/
def k9 : Class := { plain "[B" (some 0) with kind := .array 8 .byte, interfaces := #[6, 7], accessFlags := 1041 }

/-- the primitive int -/
def k10 : Class := { plain "int" none with kind := .primitive 'I', accessFlags := 0x411 }
/-- [I -/
def k11 : Class := { plain "[I" (some 0) with kind := .array 10 .int, interfaces := #[6, 7], accessFlags := 1041 }

def heap : Heap := #[]
def classes : Array Class := #[k0, k1, k2, k3, k4, k5, k6, k7, k8, k9, k10, k11]
def interned : List (Array UInt16 × Addr) := []
def slotsUsed : Nat := 0
def theMethod : MethodId := ⟨1, 1⟩
def args0 : Array Value := #[.int 5, .int 9]
def aboutOver (below : List Frame) : State where
  vm := { classes := classes, interned := interned.toArray }
  heap := heap
  slotsUsed := slotsUsed
  threads := #[{ frames := .invoking theMethod args0 :: below }]
def below0 : List Frame := [.native { method := ⟨0, 0⟩, args := #[] }]
def about1 : State := aboutOver below0
def p0 : Program := .bare "" "" ""
def e0 : Env := launch0.env 0 0 0
theorem w_frames : about1.frames = Frame.invoking theMethod args0 :: below0 := rfl
set_option maxRecDepth 65536 in
theorem w_args : argsFit about1.vm theMethod args0 = true := by decide +kernel
set_option maxRecDepth 65536 in
theorem w_heap : heapFits about1 = true := by decide +kernel
set_option maxRecDepth 65536 in
theorem w_runnable : about1.curStatus? = some .runnable := by decide +kernel
set_option maxRecDepth 65536 in
theorem w_alone : about1.alone = true := by decide +kernel
set_option maxRecDepth 65536 in
theorem w_named : about1.methodNamed? x = some theMethod := by decide +kernel
set_option maxRecDepth 65536 in
theorem w_hears : about1.hears theMethod below0 = true := by decide +kernel
set_option maxRecDepth 65536 in
theorem w_ripe : about1.ripe theMethod args0 below0 = true := by decide +kernel
theorem w_running : about1.status = .running := rfl
set_option maxRecDepth 65536 in
theorem w_room : about1.hasRoom e0.platform room_1 = true :=
  launch0.hasRoom_least _ room_1 (by decide +kernel) (by decide +kernel) (by decide +kernel) (by decide +kernel) (by decide +kernel) (by decide +kernel)
theorem allAtoms_all (ts : List Jvm.Cond) (a : Array Jvm.Value) (st : Jvm.State) : (allAtoms ts).before a st = ts.all (fun c => c.before a st) := by
  induction ts with
  | nil => rfl
  | cons c t ih =>
    show (Jvm.Cond.and c (allAtoms t)).before a st = _
    rw [Jvm.Cond.before_and, ih, List.all_cons]
def words1 : List Jvm.Cond := Jvm.Cond.code x code maxLocals ret :: tables_1
/-- a 'code' word, met by the world's own term for the bytes: nothing is compared byte by byte -/
theorem code_word {y : MethodName} {bytes : ByteArray} {mx : Nat} {rt : Option FieldType} {a : Array Value} {s : State} {m : MethodId} {meth : Method} {c : Code} (h1 : s.methodNamed? y = some m) (h2 : s.vm.method? m = some meth) (h3 : meth.code = some c) (h4 : c.code = bytes)
    (h5 : (c.maxLocals == mx && c.exceptionTable.isEmpty && decide (c.maxStack ≤ mostOperands) && decide (meth.sig.returnType = rt) && !meth.locks && decide (parseMethodDescriptor y.desc = some meth.sig)) = true) : (Jvm.Cond.code y bytes mx rt).before a s = true := by
  simp only [Bool.and_eq_true, beq_iff_eq, Bool.not_eq_true', decide_eq_true_eq] at h5
  obtain ⟨⟨⟨⟨⟨g1, g2⟩, g3⟩, g4⟩, g5⟩, g6⟩ := h5
  simp [Cond.before, Cond.holds, Cond.value, h1, h2, h3, h4, g1, g2, g3, g4, g5, g6]
def isCode : Jvm.Cond → Bool
  | .code _ _ _ _ => true
  | _ => false
theorem all_split {L : List Jvm.Cond} {P : Jvm.Cond → Bool} (h1 : L.all (fun c => isCode c || P c) = true) (h2 : ∀ c ∈ L.filter isCode, P c = true) : L.all P = true := by
  refine List.all_eq_true.mpr fun c hc => ?_
  have h := List.all_eq_true.mp h1 c hc
  rcases Bool.eq_false_or_eq_true (isCode c) with hi | hi
  · exact h2 c (List.mem_filter.mpr ⟨hc, hi⟩)
  · simpa [hi] using h
set_option maxRecDepth 65536 in
theorem w_c0 : (Jvm.Cond.code x code maxLocals ret).before args0 about1 = true := code_word (m := ⟨1, 1⟩) (meth := k1m1) (c := k1c1) (by decide +kernel) rfl rfl rfl (by decide +kernel)
set_option maxRecDepth 65536 in
theorem w_c1 : (Jvm.Cond.code ({ cls := "com/example/ruleseer/ruleseer/gdl/Pattern$Bind", name := "<init>", desc := "(I)V" } : Jvm.MethodName) prog_76_method_1_code (2 : Nat) (Option.none : Option Jvm.ClassFile.FieldType)).before args0 about1 = true := code_word (m := ⟨4, 0⟩) (meth := k4m0) (c := k4c0) (by decide +kernel) rfl rfl rfl (by decide +kernel)
set_option maxRecDepth 65536 in
theorem w_c2 : (Jvm.Cond.code ({ cls := "java/lang/Record", name := "<init>", desc := "()V" } : Jvm.MethodName) jdk_30_method_1_code (1 : Nat) (Option.none : Option Jvm.ClassFile.FieldType)).before args0 about1 = true := code_word (m := ⟨2, 0⟩) (meth := k2m0) (c := k2c0) (by decide +kernel) rfl rfl rfl (by decide +kernel)
set_option maxRecDepth 65536 in
theorem w_c3 : (Jvm.Cond.code ({ cls := "java/lang/Object", name := "<init>", desc := "()V" } : Jvm.MethodName) object_method_1_code (1 : Nat) (Option.none : Option Jvm.ClassFile.FieldType)).before args0 about1 = true := code_word (m := ⟨0, 0⟩) (meth := k0m0) (c := k0c0) (by decide +kernel) rfl rfl rfl (by decide +kernel)
set_option maxRecDepth 65536 in
theorem w_c4 : (Jvm.Cond.code ({ cls := "com/example/ruleseer/ruleseer/gdl/Pattern$Bind", name := "boundBelow", desc := "(I)Z" } : Jvm.MethodName) prog_76_method_6_code (2 : Nat) (Option.some Jvm.ClassFile.FieldType.boolean)).before args0 about1 = true := code_word (m := ⟨4, 1⟩) (meth := k4m1) (c := k4c1) (by decide +kernel) rfl rfl rfl (by decide +kernel)
set_option maxRecDepth 65536 in
theorem w_c5 : (Jvm.Cond.code ({ cls := "com/example/ruleseer/ruleseer/gdl/Pattern$Bind", name := "bound", desc := "()Lcom/example/ruleseer/ruleseer/gdl/Pattern;" } : Jvm.MethodName) prog_76_method_7_code (1 : Nat) (Option.some (Jvm.ClassFile.FieldType.object "com/example/ruleseer/ruleseer/gdl/Pattern"))).before args0 about1 = true := code_word (m := ⟨4, 2⟩) (meth := k4m2) (c := k4c2) (by decide +kernel) rfl rfl rfl (by decide +kernel)
set_option maxRecDepth 65536 in
theorem w_c6 : (Jvm.Cond.code ({ cls := "com/example/ruleseer/ruleseer/gdl/Pattern$Check", name := "<init>", desc := "(I)V" } : Jvm.MethodName) prog_77_method_1_code (2 : Nat) (Option.none : Option Jvm.ClassFile.FieldType)).before args0 about1 = true := code_word (m := ⟨5, 0⟩) (meth := k5m0) (c := k5c0) (by decide +kernel) rfl rfl rfl (by decide +kernel)
set_option maxRecDepth 65536 in
theorem w_c7 : (Jvm.Cond.code ({ cls := "com/example/ruleseer/ruleseer/gdl/Pattern$Check", name := "boundBelow", desc := "(I)Z" } : Jvm.MethodName) prog_77_method_6_code (2 : Nat) (Option.some Jvm.ClassFile.FieldType.boolean)).before args0 about1 = true := code_word (m := ⟨5, 1⟩) (meth := k5m1) (c := k5c1) (by decide +kernel) rfl rfl rfl (by decide +kernel)
def codes1 : List Jvm.Cond := [Jvm.Cond.code x code maxLocals ret, Jvm.Cond.code ({ cls := "com/example/ruleseer/ruleseer/gdl/Pattern$Bind", name := "<init>", desc := "(I)V" } : Jvm.MethodName) prog_76_method_1_code (2 : Nat) (Option.none : Option Jvm.ClassFile.FieldType), Jvm.Cond.code ({ cls := "java/lang/Record", name := "<init>", desc := "()V" } : Jvm.MethodName) jdk_30_method_1_code (1 : Nat) (Option.none : Option Jvm.ClassFile.FieldType), Jvm.Cond.code ({ cls := "java/lang/Object", name := "<init>", desc := "()V" } : Jvm.MethodName) object_method_1_code (1 : Nat) (Option.none : Option Jvm.ClassFile.FieldType), Jvm.Cond.code ({ cls := "com/example/ruleseer/ruleseer/gdl/Pattern$Bind", name := "boundBelow", desc := "(I)Z" } : Jvm.MethodName) prog_76_method_6_code (2 : Nat) (Option.some Jvm.ClassFile.FieldType.boolean), Jvm.Cond.code ({ cls := "com/example/ruleseer/ruleseer/gdl/Pattern$Bind", name := "bound", desc := "()Lcom/example/ruleseer/ruleseer/gdl/Pattern;" } : Jvm.MethodName) prog_76_method_7_code (1 : Nat) (Option.some (Jvm.ClassFile.FieldType.object "com/example/ruleseer/ruleseer/gdl/Pattern")), Jvm.Cond.code ({ cls := "com/example/ruleseer/ruleseer/gdl/Pattern$Check", name := "<init>", desc := "(I)V" } : Jvm.MethodName) prog_77_method_1_code (2 : Nat) (Option.none : Option Jvm.ClassFile.FieldType), Jvm.Cond.code ({ cls := "com/example/ruleseer/ruleseer/gdl/Pattern$Check", name := "boundBelow", desc := "(I)Z" } : Jvm.MethodName) prog_77_method_6_code (2 : Nat) (Option.some Jvm.ClassFile.FieldType.boolean)]
set_option maxRecDepth 65536 in
theorem codes_eq : words1.filter isCode = codes1 := rfl
theorem w_codes : ∀ c ∈ words1.filter isCode, c.before args0 about1 = true := by
  rw [codes_eq]
  intro c hc
  simp only [codes1, List.mem_cons, List.not_mem_nil, or_false] at hc
  rcases hc with rfl | rfl | rfl | rfl | rfl | rfl | rfl | rfl
  · exact w_c0
  · exact w_c1
  · exact w_c2
  · exact w_c3
  · exact w_c4
  · exact w_c5
  · exact w_c6
  · exact w_c7
set_option maxRecDepth 65536 in
theorem w_t1 : (words1.take 24).all (fun c => isCode c || c.before args0 about1) = true := by decide +kernel
set_option maxRecDepth 65536 in
theorem w_t2 : (words1.drop 24).all (fun c => isCode c || c.before args0 about1) = true := by decide +kernel
theorem w_tables : (allAtoms (Jvm.Cond.code x code maxLocals ret :: tables_1)).before args0 about1 = true := by
  rw [allAtoms_all]
  show words1.all (fun c => c.before args0 about1) = true
  refine all_split ?_ w_codes
  rw [← List.take_append_drop 24 words1, List.all_append, w_t1, w_t2]
  rfl
set_option maxRecDepth 65536 in
theorem w_case : (Jvm.Cond.and given_1 narrow_1).before args0 about1 = true := by decide +kernel
theorem w_applies : (headSpec (Jvm.Cond.code x code maxLocals ret :: tables_1) room_1).applies x e0.platform about1 = true :=
  (Spec.applies_iff w_frames).mpr ⟨w_running, w_runnable, w_alone, w_named, w_hears, w_ripe, w_room, w_tables⟩
theorem atStart : AtStart classFile x code maxLocals ret World_1 tables_1 room_1 Calls_1 rest_1 Pre_1 launch0 p0 e0 about1 theMethod args0 below0 :=
  ⟨lists_1, trivial, launch0.admits_env _ _ _, launch0.least_env, fairChoices_fair.cas, fairChoices_fair.clock, w_frames, w_args, w_heap, w_applies, trivial, trivial, w_case⟩
end start1
theorem witness_1 : WitnessClaimed_1 := ⟨start1.p0, start1.e0, start1.about1, start1.theMethod, start1.args0, start1.below0, start1.atStart⟩
end Jvm.Pilot.@@N@@
