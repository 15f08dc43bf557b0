import JvmDerived
import JvmDerived.Pilot.@@N@@Statement
import JvmDerived.Pilot.@@N@@Code
set_option linter.unusedVariables false
set_option linter.unusedSimpArgs false
namespace Jvm.RoadKit
open Sem ClassFile Op Lib Jvm.Stand Jvm.Free Jvm.LawKit
section New
variable {p : Program} {l : Launch} {e : Env} {R : Room} {s : State} {m : MethodId} {args : Array Value} {below : List Frame} {meth : Method} {c : Code} {T : State} {locs : List Loc} {cells slots : Nat}
theorem retI (X : Stand p l e R s m args below meth c T locs cells slots) (hx : p.tables.exec = Jvm.exec) {pc : Nat} {Ls : Array Slot} {z : Int32} {rest : List Value} (hret : meth.sig.returnType = some .int) (hd : decode c.code pc = .ok (.ireturn, 1)) {fs : List Frame}
    (hl : ∀ (f : JFrame) (acts : List Action), f.method = m → f.locked = none → f.entered = [] → (doReturn e (T.setTop f) acts (some (.int z))).1 = T.setFrames fs) : Steps p.tables e below (T.setTop (mkF m pc Ls (.int z :: rest))) (T.setFrames fs) := by
  have hm' : T.vm.method? m = some meth := X.method'
  have hn : narrow .int (.int z) = .int z := rfl
  show Steps p.tables e below (T.setTop { method := m, pc := pc, locals := Ls, stack := _ :: rest, locked := none }) _
  jvm_step X.here [X.here.top, hx, hd, hm', hret, hn]
  first | (intro acts; rw [hl _ acts rfl rfl rfl]) | rw [hl _ _ rfl rfl rfl]
  exact Steps.refl _
end New
end Jvm.RoadKit
namespace Jvm.Pilot.@@N@@
open Jvm Jvm.ClassFile Sem Op Lib Jvm.Free Jvm.Stand Jvm.LawKit Jvm.RoadKit Bundle Jvm.Pilot.@@N@@.Jvm.D
abbrev own_S (p : Program) (e : Env) (below : List Frame) (S T : State) (f : JFrame) : Prop := ∀ tt, Steps p.tables e below (T.setTop f) tt → Steps p.tables e below S tt
def own_odd (x : Int32) : Int32 := if x &&& 1 = 1 then 1 else 0
theorem own_nb {p : Prop} [Decidable p] : nar .boolean (if p then (1 : Int32) else 0) = if p then 1 else 0 := by split <;> rfl
theorem own_bit (x : Int32) : (x &&& 1).toInt = x.toInt % 2 := by have h := c_mask x 1 1 (by decide) (by decide); simpa using h
theorem own_odd_eq (x : Int32) : own_odd x = if x.toInt % 2 = 1 then 1 else 0 := by
  have h := own_bit x
  have e1 : (1 : Int32).toInt = 1 := rfl
  unfold own_odd
  by_cases q : x.toInt % 2 = 1
  · rw [if_pos (by rw [← Int32.toInt_inj]; omega), if_pos q]
  · rw [if_neg (by rw [← Int32.toInt_inj]; omega), if_neg q]
theorem own_A (r role odd : Int32) (hr : role = r &&& 2147483647) (ho : odd = if role % 2 = 1 then 1 else 0) : own_odd role = odd := by
  have h1 := c_and r 2147483647 (by decide)
  rw [← hr] at h1
  have h2 := (c_irem role 2 2 rfl).1 h1.1
  have e1 : (1 : Int32).toInt = 1 := rfl
  rw [own_odd_eq, ho]
  by_cases q : role.toInt % 2 = 1
  · rw [if_pos q, if_pos (by rw [← Int32.toInt_inj]; omega)]
  · rw [if_neg q, if_neg (by rw [← Int32.toInt_inj]; omega)]
theorem own_B (x : Int32) : ¬ own_odd (x ^^^ 1) = own_odd x := by
  have h := c_xor2 x 1
  have e1 : (1 : Int32).toInt = 1 := rfl
  rw [own_odd_eq, own_odd_eq]
  by_cases q : x.toInt % 2 = 1
  · rw [if_pos q, if_neg (by omega)]; decide
  · rw [if_neg q, if_pos (by omega)]; decide
theorem own_C (k : Int32) : own_odd (2 * k) = 0 := by
  have h := c_imul 2 k
  have e2 : (2 : Int32).toInt = 2 := rfl
  rw [e2] at h
  rw [own_odd_eq, if_neg (by omega)]
theorem own_D (k : Int32) : ¬ own_odd (2 * k + 1) = 0 := by
  have h := c_imul 2 k
  have g := c_iadd (2 * k) 1
  have e2 : (2 : Int32).toInt = 2 := rfl
  have e1 : (1 : Int32).toInt = 1 := rfl
  rw [e2] at h
  rw [e1] at g
  rw [own_odd_eq, if_pos (by omega)]; decide
theorem pn0 : plainName "com/example/brancher/brancher/service/Closure" = true := by first | (simp [plainName, overriddenIn]; done) | decide +kernel
theorem d1_0 : decode prog_55_method_20_code 0 = .ok (.iload_n 0, 1) := by decide +kernel
theorem d1_1 : decode prog_55_method_20_code 1 = .ok (.iconst 1, 1) := by decide +kernel
theorem d1_2 : decode prog_55_method_20_code 2 = .ok (.iand, 1) := by decide +kernel
theorem d1_3 : decode prog_55_method_20_code 3 = .ok (.iconst 1, 1) := by decide +kernel
theorem d1_4 : decode prog_55_method_20_code 4 = .ok (.if_icmp .ne 7, 3) := by decide +kernel
theorem d1_7 : decode prog_55_method_20_code 7 = .ok (.iconst 1, 1) := by decide +kernel
theorem d1_8 : decode prog_55_method_20_code 8 = .ok (.goto 4, 3) := by decide +kernel
theorem d1_11 : decode prog_55_method_20_code 11 = .ok (.iconst 0, 1) := by decide +kernel
theorem d1_12 : decode prog_55_method_20_code 12 = .ok (.ireturn, 1) := by decide +kernel
theorem ef1 (m : MethodId) (x0 : Int32) : entryFrame m #[(.int x0)] 1 = mkF m 0 #[.val (.int x0)] [] := by first | (simp [entryFrame, mkF, argsToLocals, Value.category]; done) | rfl
def Q1 (Z : State) (p0 : Int32) (h0 : Heap) (n0 : Nat) (v : Option Value) (h : Heap) (L : List Loc) : Prop := v = some (.int (own_odd p0)) ∧ Fr n0 L ∧ h = h0
set_option maxRecDepth 65536 in
set_option maxHeartbeats 40000000 in
theorem rm1 (l : Launch) (Z : State) (a0 : Array Value) (hw : ∀ d ∈ tables_1, d.before a0 Z = true) (ws : List Jvm.Cond) (p0 : Int32) (h0 : Heap) (n0 : Nat) (Z0 : n0 ≤ h0.size) :
    MetFree l (⟨"com/example/brancher/brancher/service/Closure", "isInverse", "(I)Z"⟩ : MethodName) (head1 (Jvm.Cond.code (⟨"com/example/brancher/brancher/service/Closure", "isInverse", "(I)Z"⟩ : MethodName) prog_55_method_20_code 1 (some .boolean) :: ws) ({ frames := 0, cells := 0, slots := 0, locals := 0 } : Room)) (fun a U => a = #[(.int p0)] ∧ Z.Warmed39 U.vm ∧ U.heap = h0) (fun _ _ _ _ _ => True) (fun _ U o U' => ∃ v L, o = .returned v ∧ Q1 Z p0 h0 n0 v U'.heap L ∧ FrameEnd U o U' L ({ frames := 0, cells := 0, slots := 0, locals := 0 } : Room).cells ({ frames := 0, cells := 0, slots := 0, locals := 0 } : Room).slots) := by
  have W : ∀ {d : Jvm.Cond} (i : Nat), tables_1[i]? = some d → d.before a0 Z = true := fun i h => hw _ (List.mem_of_getElem? h)
  refine MetFree.of_bodySF (plainFor_of_name pn0) hisR ?_
  intro p e s m args below meth c s₁ Bd hml0 hP hK
  obtain ⟨rfl, hZ, hh⟩ := hP
  have hx := Bd.exec
  have hby := Bd.bytes
  have hml : c.maxLocals = 1 := hml0
  have hown : s.vm.findClass "com/example/brancher/brancher/service/Closure" = some m.cls := findClass_of_methodNamed Bd.named
  have hnm := (name_of_methodNamed Bd.named Bd.method).1
  have X0 : Stand p l e ({ frames := 0, cells := 0, slots := 0, locals := 0 } : Room) s m #[(.int p0)] below meth c s₁ [] 0 0 := Stand.of_body Bd
  have e0 : s₁.heap = h0 := by rw [← hh, Bd.state]; rfl
  have N0 := Fr.nil n0
  have pre0 : ∀ tt, Steps p.tables e below (s₁.setTop (mkF m 0 #[iv p0] [])) tt → Steps p.tables e below (s₁.setTop (entryFrame m #[(.int p0)] 1)) tt := fun tt kt => castTop (ef1 m p0) kt
  obtain ⟨ST, hST⟩ : ∃ z : State, z = s₁.setTop (mkF m 0 #[iv p0] []) := ⟨_, rfl⟩
  rw [← hST] at pre0
  have go101 : own_S p e below ST s₁ (mkF m 4 #[iv p0] [(.int (1 : Int32)), (.int (p0 &&& (1 : Int32)))]) := fun tt kt => (by
      rw [hST]
      show Steps p.tables e below (s₁.setTop (mkF m 0 #[iv p0] [])) _
      refine XS.iloadN X0.here hx rfl (hb hby d1_0) rfl ?_
      refine XS.iconst X0.here hx rfl (hb hby d1_1) ?_
      refine XS.iand X0.here hx rfl (hb hby d1_2) rfl ?_
      refine XS.iconst X0.here hx rfl (hb hby d1_3) ?_
      exact kt)
  obtain ⟨v, hv, sg102⟩ : ∃ (v : Int32), v = (if (p0 &&& (1 : Int32)) = (1 : Int32) then (1 : Int32) else (0 : Int32)) ∧ ∀ tt, Steps p.tables e below (s₁.setTop (mkF m 12 #[iv p0] [(.int v)])) tt → Steps p.tables e below (s₁.setTop (mkF m 4 #[iv p0] [(.int (1 : Int32)), (.int (p0 &&& (1 : Int32)))])) tt := by
    by_cases hd4_0 : (p0 &&& (1 : Int32)) = (1 : Int32)
    · refine ⟨_, (if_pos hd4_0).symm, fun tt kt => ?_⟩
      show Steps p.tables e below (s₁.setTop (mkF m 4 #[iv p0] [(.int (1 : Int32)), (.int (p0 &&& (1 : Int32)))])) _
      refine XS.icmpNo X0.here hx rfl (hb hby d1_4) rfl (teq hd4_0).2 ?_
      refine XS.iconst X0.here hx rfl (hb hby d1_7) ?_
      refine XS.goto X0.here hx rfl (pc0 := 8) (pc' := 12) rfl (hb hby d1_8) (by decide) (by decide) ?_
      exact kt
    · refine ⟨_, (if_neg hd4_0).symm, fun tt kt => ?_⟩
      show Steps p.tables e below (s₁.setTop (mkF m 4 #[iv p0] [(.int (1 : Int32)), (.int (p0 &&& (1 : Int32)))])) _
      refine XS.icmpYes X0.here hx rfl (pc0 := 4) (pc' := 11) rfl (hb hby d1_4) rfl (feq hd4_0).2 (by decide) (by decide) ?_
      refine XS.iconst X0.here hx rfl (hb hby d1_11) ?_
      exact kt
  have go103 : own_S p e below ST s₁ (mkF m 12 #[iv p0] [(.int v)]) := fun tt kt => go101 tt (sg102 _ kt)
  obtain ⟨fs, hr, hrun, hended, hW, hsame⟩ := X0.leave (v := some (.int (nar .boolean v))) (fun h => by rw [Bd.returns] at h; cases h)
  refine ⟨_, _, pre0 _ (go103 _ ?_), hrun, hended, _, _, rfl, ?_, ⟨_, rfl⟩, hW, hsame.mono (by decide) (by decide)⟩
  · exact retN X0 hx (t := .boolean) Bd.returns (by simp) (hb hby d1_12) hr
  · show Q1 Z p0 h0 n0 _ s₁.heap _
    rw [e0]
    exact ⟨(by rw [hv, own_nb]; rfl), N0, rfl⟩
theorem d2_0 : decode prog_55_method_21_code 0 = .ok (.iload_n 0, 1) := by decide +kernel
theorem d2_1 : decode prog_55_method_21_code 1 = .ok (.iconst 1, 1) := by decide +kernel
theorem d2_2 : decode prog_55_method_21_code 2 = .ok (.ixor, 1) := by decide +kernel
theorem d2_3 : decode prog_55_method_21_code 3 = .ok (.ireturn, 1) := by decide +kernel
theorem ef2 (m : MethodId) (x0 : Int32) : entryFrame m #[(.int x0)] 1 = mkF m 0 #[.val (.int x0)] [] := by first | (simp [entryFrame, mkF, argsToLocals, Value.category]; done) | rfl
def Q2 (Z : State) (p0 : Int32) (h0 : Heap) (n0 : Nat) (v : Option Value) (h : Heap) (L : List Loc) : Prop := v = some (.int (p0 ^^^ 1)) ∧ Fr n0 L ∧ h = h0
set_option maxRecDepth 65536 in
set_option maxHeartbeats 40000000 in
theorem rm2 (l : Launch) (Z : State) (a0 : Array Value) (hw : ∀ d ∈ tables_1, d.before a0 Z = true) (ws : List Jvm.Cond) (p0 : Int32) (h0 : Heap) (n0 : Nat) (Z0 : n0 ≤ h0.size) :
    MetFree l (⟨"com/example/brancher/brancher/service/Closure", "inverse", "(I)I"⟩ : MethodName) (head1 (Jvm.Cond.code (⟨"com/example/brancher/brancher/service/Closure", "inverse", "(I)I"⟩ : MethodName) prog_55_method_21_code 1 (some .int) :: ws) ({ frames := 0, cells := 0, slots := 0, locals := 0 } : Room)) (fun a U => a = #[(.int p0)] ∧ Z.Warmed39 U.vm ∧ U.heap = h0) (fun _ _ _ _ _ => True) (fun _ U o U' => ∃ v L, o = .returned v ∧ Q2 Z p0 h0 n0 v U'.heap L ∧ FrameEnd U o U' L ({ frames := 0, cells := 0, slots := 0, locals := 0 } : Room).cells ({ frames := 0, cells := 0, slots := 0, locals := 0 } : Room).slots) := by
  have W : ∀ {d : Jvm.Cond} (i : Nat), tables_1[i]? = some d → d.before a0 Z = true := fun i h => hw _ (List.mem_of_getElem? h)
  refine MetFree.of_bodySF (plainFor_of_name pn0) hisR ?_
  intro p e s m args below meth c s₁ Bd hml0 hP hK
  obtain ⟨rfl, hZ, hh⟩ := hP
  have hx := Bd.exec
  have hby := Bd.bytes
  have hml : c.maxLocals = 1 := hml0
  have hown : s.vm.findClass "com/example/brancher/brancher/service/Closure" = some m.cls := findClass_of_methodNamed Bd.named
  have hnm := (name_of_methodNamed Bd.named Bd.method).1
  have X0 : Stand p l e ({ frames := 0, cells := 0, slots := 0, locals := 0 } : Room) s m #[(.int p0)] below meth c s₁ [] 0 0 := Stand.of_body Bd
  have e0 : s₁.heap = h0 := by rw [← hh, Bd.state]; rfl
  have N0 := Fr.nil n0
  have pre0 : ∀ tt, Steps p.tables e below (s₁.setTop (mkF m 0 #[iv p0] [])) tt → Steps p.tables e below (s₁.setTop (entryFrame m #[(.int p0)] 1)) tt := fun tt kt => castTop (ef2 m p0) kt
  obtain ⟨ST, hST⟩ : ∃ z : State, z = s₁.setTop (mkF m 0 #[iv p0] []) := ⟨_, rfl⟩
  rw [← hST] at pre0
  have go104 : own_S p e below ST s₁ (mkF m 3 #[iv p0] [(.int (p0 ^^^ (1 : Int32)))]) := fun tt kt => (by
      rw [hST]
      show Steps p.tables e below (s₁.setTop (mkF m 0 #[iv p0] [])) _
      refine XS.iloadN X0.here hx rfl (hb hby d2_0) rfl ?_
      refine XS.iconst X0.here hx rfl (hb hby d2_1) ?_
      refine XS.ixor X0.here hx rfl (hb hby d2_2) rfl ?_
      exact kt)
  obtain ⟨fs, hr, hrun, hended, hW, hsame⟩ := X0.leave (v := some (.int (p0 ^^^ (1 : Int32)))) (fun h => by rw [Bd.returns] at h; cases h)
  refine ⟨_, _, pre0 _ (go104 _ ?_), hrun, hended, _, _, rfl, ?_, ⟨_, rfl⟩, hW, hsame.mono (by decide) (by decide)⟩
  · exact retI X0 hx Bd.returns (hb hby d2_3) hr
  · show Q2 Z p0 h0 n0 _ s₁.heap _
    rw [e0]
    exact ⟨rfl, N0, rfl⟩
theorem pn14 : plainName "com/example/brancher/brancher/service/ClosureIsInversePinLaw" = true := by first | (simp [plainName, overriddenIn]; done) | decide +kernel
theorem pd15 : parseMethodDescriptor "(I)Z" = some ⟨[.int], some .boolean⟩ := by decide +kernel
theorem pd16 : parseMethodDescriptor "(I)I" = some ⟨[.int], some .int⟩ := by decide +kernel
theorem ef0 (m : MethodId) (x0 : Int32) : entryFrame m #[(.int x0)] maxLocals = mkF m 0 #[.val (.int x0), .unset, .unset, .unset, .unset, .unset, .unset, .unset] [] := by first | (simp [entryFrame, mkF, argsToLocals, Value.category, maxLocals]; done) | rfl
def Q0 (Z : State) (r : Int32) (h0 : Heap) (n0 : Nat) (v : Option Value) (h : Heap) (L : List Loc) : Prop := v = some (.int 1) ∧ Fr n0 L
set_option maxRecDepth 65536 in
set_option maxHeartbeats 40000000 in
theorem rm0 (l : Launch) (Z : State) (a0 : Array Value) (hw : ∀ d ∈ tables_1, d.before a0 Z = true) (ws : List Jvm.Cond) (r : Int32) (h0 : Heap) (n0 : Nat) (Z0 : n0 ≤ h0.size) :
    MetFree l x (head1 (Jvm.Cond.code x code maxLocals ret :: ws) room_1) (fun a U => a = #[(.int r)] ∧ Z.Warmed39 U.vm ∧ U.heap = h0) (fun _ _ _ _ _ => True) (fun _ U o U' => ∃ v L, o = .returned v ∧ Q0 Z r h0 n0 v U'.heap L ∧ FrameEnd U o U' L room_1.cells room_1.slots) := by
  have W : ∀ {d : Jvm.Cond} (i : Nat), tables_1[i]? = some d → d.before a0 Z = true := fun i h => hw _ (List.mem_of_getElem? h)
  refine MetFree.of_bodySF (plainFor_of_name pn14) hisR ?_
  intro p e s m args below meth c s₁ Bd hml0 hP hK
  obtain ⟨rfl, hZ, hh⟩ := hP
  have hx := Bd.exec
  have hby := Bd.bytes
  have hml : c.maxLocals = 8 := hml0
  have hown : s.vm.findClass "com/example/brancher/brancher/service/ClosureIsInversePinLaw" = some m.cls := findClass_of_methodNamed Bd.named
  have hnm := (name_of_methodNamed Bd.named Bd.method).1
  have X0 : Stand p l e room_1 s m #[(.int r)] below meth c s₁ [] 0 0 := Stand.of_body Bd
  have e0 : s₁.heap = h0 := by rw [← hh, Bd.state]; rfl
  have N0 := Fr.nil n0
  have pre0 : ∀ tt, Steps p.tables e below (s₁.setTop (mkF m 0 #[iv r, .unset, .unset, .unset, .unset, .unset, .unset, .unset] [])) tt → Steps p.tables e below (s₁.setTop (entryFrame m #[(.int r)] maxLocals)) tt := fun tt kt => castTop (ef0 m r) kt
  obtain ⟨ST, hST⟩ : ∃ z : State, z = s₁.setTop (mkF m 0 #[iv r, .unset, .unset, .unset, .unset, .unset, .unset, .unset] []) := ⟨_, rfl⟩
  rw [← hST] at pre0
  have go105 : own_S p e below ST s₁ (mkF m 5 #[iv r, iv (r &&& (2147483647 : Int32)), .unset, .unset, .unset, .unset, .unset, .unset] []) := fun tt kt => (by
      rw [hST]
      show Steps p.tables e below (s₁.setTop (mkF m 0 #[iv r, .unset, .unset, .unset, .unset, .unset, .unset, .unset] [])) _
      refine XS.iloadN X0.here hx rfl (hb hby at_0) rfl ?_
      refine X0.ldcInt hx hown (mvT hZ (W 0 rfl)) (g := (mkF m 1 #[iv r, .unset, .unset, .unset, .unset, .unset, .unset, .unset] [(.int r)])) rfl (hb hby at_1) _ ?_
      refine XS.iand X0.here hx rfl (hb hby at_3) rfl ?_
      refine XS.istoreN X0.here hx rfl (hb hby at_4) rfl (l' := #[iv r, iv (r &&& (2147483647 : Int32)), .unset, .unset, .unset, .unset, .unset, .unset]) rfl ?_
      exact kt)
  obtain ⟨role, hrole⟩ : ∃ z : Int32, z = (r &&& (2147483647 : Int32)) := ⟨_, rfl⟩
  rw [← hrole] at go105
  have go106 : own_S p e below ST s₁ (mkF m 9 #[iv r, iv role, .unset, .unset, .unset, .unset, .unset, .unset] [(.int (1 : Int32)), (.int (role % (2 : Int32)))]) := fun tt kt => go105 tt (by
      refine XS.iloadN X0.here hx rfl (hb hby at_5) rfl ?_
      refine XS.iconst X0.here hx rfl (hb hby at_6) ?_
      refine iremM (g := (mkF m 7 #[iv r, iv role, .unset, .unset, .unset, .unset, .unset, .unset] [(.int (2 : Int32)), (.int role)])) X0 hx rfl (hb hby at_7) rfl (by decide) ?_
      refine XS.iconst X0.here hx rfl (hb hby at_8) ?_
      exact kt)
  obtain ⟨odd, hodd, sg107⟩ : ∃ (odd : Int32), odd = (if (role % (2 : Int32)) = (1 : Int32) then (1 : Int32) else (0 : Int32)) ∧ ∀ tt, Steps p.tables e below (s₁.setTop (mkF m 17 #[iv r, iv role, .unset, .unset, .unset, .unset, .unset, .unset] [(.int odd)])) tt → Steps p.tables e below (s₁.setTop (mkF m 9 #[iv r, iv role, .unset, .unset, .unset, .unset, .unset, .unset] [(.int (1 : Int32)), (.int (role % (2 : Int32)))])) tt := by
    by_cases hd9_0 : (role % (2 : Int32)) = (1 : Int32)
    · refine ⟨_, (if_pos hd9_0).symm, fun tt kt => ?_⟩
      show Steps p.tables e below (s₁.setTop (mkF m 9 #[iv r, iv role, .unset, .unset, .unset, .unset, .unset, .unset] [(.int (1 : Int32)), (.int (role % (2 : Int32)))])) _
      refine XS.icmpNo X0.here hx rfl (hb hby at_9) rfl (teq hd9_0).2 ?_
      refine XS.iconst X0.here hx rfl (hb hby at_12) ?_
      refine XS.goto X0.here hx rfl (pc0 := 13) (pc' := 17) rfl (hb hby at_13) (by decide) (by decide) ?_
      exact kt
    · refine ⟨_, (if_neg hd9_0).symm, fun tt kt => ?_⟩
      show Steps p.tables e below (s₁.setTop (mkF m 9 #[iv r, iv role, .unset, .unset, .unset, .unset, .unset, .unset] [(.int (1 : Int32)), (.int (role % (2 : Int32)))])) _
      refine XS.icmpYes X0.here hx rfl (pc0 := 9) (pc' := 16) rfl (hb hby at_9) rfl (feq hd9_0).2 (by decide) (by decide) ?_
      refine XS.iconst X0.here hx rfl (hb hby at_16) ?_
      exact kt
  have go108 : own_S p e below ST s₁ (mkF m 17 #[iv r, iv role, .unset, .unset, .unset, .unset, .unset, .unset] [(.int odd)]) := fun tt kt => go106 tt (sg107 _ kt)
  have go109 : own_S p e below ST s₁ (mkF m 19 #[iv r, iv role, iv odd, .unset, .unset, .unset, .unset, .unset] [(.int role)]) := fun tt kt => go108 tt (by
      refine XS.istoreN X0.here hx rfl (hb hby at_17) rfl (l' := #[iv r, iv role, iv odd, .unset, .unset, .unset, .unset, .unset]) rfl ?_
      refine XS.iloadN X0.here hx rfl (hb hby at_18) rfl ?_
      exact kt)
  obtain ⟨_, _, ⟨T110, L110, k110, n110⟩, -, X110, ⟨Lc110, hQ110, l110, y110, z110⟩, st110⟩ := Jvm.LawKit.callS X0 hx (y := (⟨"com/example/brancher/brancher/service/Closure", "isInverse", "(I)Z"⟩ : MethodName)) hown (mvT hZ (W 1 rfl)) (mvT hZ (W 2 rfl)) (mvT hZ (W 3 rfl)) (mvT hZ (W 4 rfl)) (by decide) (backOf (W := 0) (rm1 l Z a0 hw [] role h0 n0 Z0 ) hZ (W 4 rfl) (W 3 rfl) (by decide) (by decide)) (g := (mkF m 19 #[iv r, iv role, iv odd, .unset, .unset, .unset, .unset, .unset] [(.int role)])) rfl (by rw [hml]; rfl) (argsL := [(.int role)]) (rest := []) (lenOf pd15 rfl) rfl (by show 2 * 0 + _ ≤ _; exact Nat.le_of_eq rfl) (hb hby at_19) (fun _ _ => ⟨rfl, e0, (by decide : 0 + 0 ≤ _), (by decide : 0 + 0 ≤ _)⟩)
  dsimp only [Pt.U, Pt.locs, Pt.cells, Pt.slots] at X110 l110 y110 z110 st110 hQ110
  subst l110 y110 z110
  obtain ⟨rfl, Nq110, eh110⟩ := hQ110
  have N110 := Fr.app N0 Nq110
  have go111 : own_S p e below ST T110 (mkF m 22 #[iv r, iv role, iv odd, .unset, .unset, .unset, .unset, .unset] [(.int (own_odd role))]) := fun tt kt => go109 tt (st110 _ kt)
  have go112 : own_S p e below ST T110 (mkF m 24 #[iv r, iv role, iv odd, iv (own_odd role), .unset, .unset, .unset, .unset] [(.int role)]) := fun tt kt => go111 tt (by
      refine XS.istoreN X110.here hx rfl (hb hby at_22) rfl (l' := #[iv r, iv role, iv odd, iv (own_odd role), .unset, .unset, .unset, .unset]) rfl ?_
      refine XS.iloadN X110.here hx rfl (hb hby at_23) rfl ?_
      exact kt)
  obtain ⟨_, _, ⟨T113, L113, k113, n113⟩, -, X113, ⟨Lc113, hQ113, l113, y113, z113⟩, st113⟩ := Jvm.LawKit.callS X110 hx (y := (⟨"com/example/brancher/brancher/service/Closure", "inverse", "(I)I"⟩ : MethodName)) hown (mvT hZ (W 5 rfl)) (mvT hZ (W 6 rfl)) (mvT hZ (W 3 rfl)) (mvT hZ (W 7 rfl)) (by decide) (backOf (W := 0) (rm2 l Z a0 hw [] role h0 n0 Z0 ) hZ (W 7 rfl) (W 3 rfl) (by decide) (by decide)) (g := (mkF m 24 #[iv r, iv role, iv odd, iv (own_odd role), .unset, .unset, .unset, .unset] [(.int role)])) rfl (by rw [hml]; rfl) (argsL := [(.int role)]) (rest := []) (lenOf pd16 rfl) rfl (by show 2 * 0 + _ ≤ _; exact Nat.le_of_eq rfl) (hb hby at_24) (fun _ _ => ⟨rfl, eh110, (by decide : 0 + 0 ≤ _), (by decide : 0 + 0 ≤ _)⟩)
  dsimp only [Pt.U, Pt.locs, Pt.cells, Pt.slots] at X113 l113 y113 z113 st113 hQ113
  subst l113 y113 z113
  obtain ⟨rfl, Nq113, eh113⟩ := hQ113
  have N113 := Fr.app N110 Nq113
  have go114 : own_S p e below ST T113 (mkF m 27 #[iv r, iv role, iv odd, iv (own_odd role), .unset, .unset, .unset, .unset] [(.int (role ^^^ 1))]) := fun tt kt => go112 tt (st113 _ kt)
  obtain ⟨_, _, ⟨T115, L115, k115, n115⟩, -, X115, ⟨Lc115, hQ115, l115, y115, z115⟩, st115⟩ := Jvm.LawKit.callS X113 hx (y := (⟨"com/example/brancher/brancher/service/Closure", "isInverse", "(I)Z"⟩ : MethodName)) hown (mvT hZ (W 1 rfl)) (mvT hZ (W 2 rfl)) (mvT hZ (W 3 rfl)) (mvT hZ (W 4 rfl)) (by decide) (backOf (W := 0) (rm1 l Z a0 hw [] (role ^^^ 1) h0 n0 Z0 ) hZ (W 4 rfl) (W 3 rfl) (by decide) (by decide)) (g := (mkF m 27 #[iv r, iv role, iv odd, iv (own_odd role), .unset, .unset, .unset, .unset] [(.int (role ^^^ 1))])) rfl (by rw [hml]; rfl) (argsL := [(.int (role ^^^ 1))]) (rest := []) (lenOf pd15 rfl) rfl (by show 2 * 0 + _ ≤ _; exact Nat.le_of_eq rfl) (hb hby at_27) (fun _ _ => ⟨rfl, eh113, (by decide : 0 + 0 ≤ _), (by decide : 0 + 0 ≤ _)⟩)
  dsimp only [Pt.U, Pt.locs, Pt.cells, Pt.slots] at X115 l115 y115 z115 st115 hQ115
  subst l115 y115 z115
  obtain ⟨rfl, Nq115, eh115⟩ := hQ115
  have N115 := Fr.app N113 Nq115
  have go116 : own_S p e below ST T115 (mkF m 30 #[iv r, iv role, iv odd, iv (own_odd role), .unset, .unset, .unset, .unset] [(.int (own_odd (role ^^^ 1)))]) := fun tt kt => go114 tt (st115 _ kt)
  have go117 : own_S p e below ST T115 (mkF m 40 #[iv r, iv role, iv odd, iv (own_odd role), iv (own_odd (role ^^^ 1)), iv (((r.toUInt32 >>> ((1 : Int32) &&& 31).toUInt32).toInt32) &&& (1073741823 : Int32)), .unset, .unset] []) := fun tt kt => go116 tt (by
      refine XS.istore X115.here hx rfl (hb hby at_30) rfl (l' := #[iv r, iv role, iv odd, iv (own_odd role), iv (own_odd (role ^^^ 1)), .unset, .unset, .unset]) rfl ?_
      refine XS.iloadN X115.here hx rfl (hb hby at_32) rfl ?_
      refine XS.iconst X115.here hx rfl (hb hby at_33) ?_
      refine XS.iushr X115.here hx rfl (hb hby at_34) rfl ?_
      refine X115.ldcInt hx hown (mvT hZ (W 8 rfl)) (g := (mkF m 35 #[iv r, iv role, iv odd, iv (own_odd role), iv (own_odd (role ^^^ 1)), .unset, .unset, .unset] [(.int ((r.toUInt32 >>> ((1 : Int32) &&& 31).toUInt32).toInt32))])) rfl (hb hby at_35) _ ?_
      refine XS.iand X115.here hx rfl (hb hby at_37) rfl ?_
      show Steps p.tables e below (T115.setTop (mkF m 38 #[iv r, iv role, iv odd, iv (own_odd role), iv (own_odd (role ^^^ 1)), .unset, .unset, .unset] [(.int (((r.toUInt32 >>> ((1 : Int32) &&& 31).toUInt32).toInt32) &&& (1073741823 : Int32)))])) _
      refine XS.istore X115.here hx rfl (hb hby at_38) rfl (l' := #[iv r, iv role, iv odd, iv (own_odd role), iv (own_odd (role ^^^ 1)), iv (((r.toUInt32 >>> ((1 : Int32) &&& 31).toUInt32).toInt32) &&& (1073741823 : Int32)), .unset, .unset]) rfl ?_
      exact kt)
  obtain ⟨k, hk⟩ : ∃ z : Int32, z = (((r.toUInt32 >>> ((1 : Int32) &&& 31).toUInt32).toInt32) &&& (1073741823 : Int32)) := ⟨_, rfl⟩
  rw [← hk] at go117
  have hA := own_A r role odd hrole hodd
  have hB := own_B role
  have hC := own_C k
  have hD := own_D k
  have go118 : own_S p e below ST T115 (mkF m 44 #[iv r, iv role, iv odd, iv (own_odd role), iv (own_odd (role ^^^ 1)), iv k, .unset, .unset] [(.int ((2 : Int32) * k))]) := fun tt kt => go117 tt (by
      refine XS.iconst X115.here hx rfl (hb hby at_40) ?_
      refine XS.iload X115.here hx rfl (hb hby at_41) rfl ?_
      refine XS.imul X115.here hx rfl (hb hby at_43) rfl ?_
      exact kt)
  obtain ⟨_, _, ⟨T119, L119, k119, n119⟩, -, X119, ⟨Lc119, hQ119, l119, y119, z119⟩, st119⟩ := Jvm.LawKit.callS X115 hx (y := (⟨"com/example/brancher/brancher/service/Closure", "isInverse", "(I)Z"⟩ : MethodName)) hown (mvT hZ (W 1 rfl)) (mvT hZ (W 2 rfl)) (mvT hZ (W 3 rfl)) (mvT hZ (W 4 rfl)) (by decide) (backOf (W := 0) (rm1 l Z a0 hw [] ((2 : Int32) * k) h0 n0 Z0 ) hZ (W 4 rfl) (W 3 rfl) (by decide) (by decide)) (g := (mkF m 44 #[iv r, iv role, iv odd, iv (own_odd role), iv (own_odd (role ^^^ 1)), iv k, .unset, .unset] [(.int ((2 : Int32) * k))])) rfl (by rw [hml]; rfl) (argsL := [(.int ((2 : Int32) * k))]) (rest := []) (lenOf pd15 rfl) rfl (by show 2 * 0 + _ ≤ _; exact Nat.le_of_eq rfl) (hb hby at_44) (fun _ _ => ⟨rfl, eh115, (by decide : 0 + 0 ≤ _), (by decide : 0 + 0 ≤ _)⟩)
  dsimp only [Pt.U, Pt.locs, Pt.cells, Pt.slots] at X119 l119 y119 z119 st119 hQ119
  subst l119 y119 z119
  obtain ⟨rfl, Nq119, eh119⟩ := hQ119
  have N119 := Fr.app N115 Nq119
  have go120 : own_S p e below ST T119 (mkF m 47 #[iv r, iv role, iv odd, iv (own_odd role), iv (own_odd (role ^^^ 1)), iv k, .unset, .unset] [(.int (own_odd ((2 : Int32) * k)))]) := fun tt kt => go118 tt (st119 _ kt)
  have go121 : own_S p e below ST T119 (mkF m 55 #[iv r, iv role, iv odd, iv (own_odd role), iv (own_odd (role ^^^ 1)), iv k, iv (own_odd ((2 : Int32) * k)), .unset] [(.int (((2 : Int32) * k) + (1 : Int32)))]) := fun tt kt => go120 tt (by
      refine XS.istore X119.here hx rfl (hb hby at_47) rfl (l' := #[iv r, iv role, iv odd, iv (own_odd role), iv (own_odd (role ^^^ 1)), iv k, iv (own_odd ((2 : Int32) * k)), .unset]) rfl ?_
      refine XS.iconst X119.here hx rfl (hb hby at_49) ?_
      refine XS.iload X119.here hx rfl (hb hby at_50) rfl ?_
      refine XS.imul X119.here hx rfl (hb hby at_52) rfl ?_
      refine XS.iconst X119.here hx rfl (hb hby at_53) ?_
      refine XS.iadd X119.here hx rfl (hb hby at_54) rfl ?_
      exact kt)
  obtain ⟨_, _, ⟨T122, L122, k122, n122⟩, -, X122, ⟨Lc122, hQ122, l122, y122, z122⟩, st122⟩ := Jvm.LawKit.callS X119 hx (y := (⟨"com/example/brancher/brancher/service/Closure", "isInverse", "(I)Z"⟩ : MethodName)) hown (mvT hZ (W 1 rfl)) (mvT hZ (W 2 rfl)) (mvT hZ (W 3 rfl)) (mvT hZ (W 4 rfl)) (by decide) (backOf (W := 0) (rm1 l Z a0 hw [] (((2 : Int32) * k) + (1 : Int32)) h0 n0 Z0 ) hZ (W 4 rfl) (W 3 rfl) (by decide) (by decide)) (g := (mkF m 55 #[iv r, iv role, iv odd, iv (own_odd role), iv (own_odd (role ^^^ 1)), iv k, iv (own_odd ((2 : Int32) * k)), .unset] [(.int (((2 : Int32) * k) + (1 : Int32)))])) rfl (by rw [hml]; rfl) (argsL := [(.int (((2 : Int32) * k) + (1 : Int32)))]) (rest := []) (lenOf pd15 rfl) rfl (by show 2 * 0 + _ ≤ _; exact Nat.le_of_eq rfl) (hb hby at_55) (fun _ _ => ⟨rfl, eh119, (by decide : 0 + 0 ≤ _), (by decide : 0 + 0 ≤ _)⟩)
  dsimp only [Pt.U, Pt.locs, Pt.cells, Pt.slots] at X122 l122 y122 z122 st122 hQ122
  subst l122 y122 z122
  obtain ⟨rfl, Nq122, eh122⟩ := hQ122
  have N122 := Fr.app N119 Nq122
  have go123 : own_S p e below ST T122 (mkF m 58 #[iv r, iv role, iv odd, iv (own_odd role), iv (own_odd (role ^^^ 1)), iv k, iv (own_odd ((2 : Int32) * k)), .unset] [(.int (own_odd (((2 : Int32) * k) + (1 : Int32))))]) := fun tt kt => go121 tt (st122 _ kt)
  have go124 : own_S p e below ST T122 (mkF m 62 #[iv r, iv role, iv odd, iv (own_odd role), iv (own_odd (role ^^^ 1)), iv k, iv (own_odd ((2 : Int32) * k)), iv (own_odd (((2 : Int32) * k) + (1 : Int32)))] [(.int odd), (.int (own_odd role))]) := fun tt kt => go123 tt (by
      refine XS.istore X122.here hx rfl (hb hby at_58) rfl (l' := #[iv r, iv role, iv odd, iv (own_odd role), iv (own_odd (role ^^^ 1)), iv k, iv (own_odd ((2 : Int32) * k)), iv (own_odd (((2 : Int32) * k) + (1 : Int32)))]) rfl ?_
      refine XS.iloadN X122.here hx rfl (hb hby at_60) rfl ?_
      refine XS.iloadN X122.here hx rfl (hb hby at_61) rfl ?_
      exact kt)
  have go125 : own_S p e below ST T122 (mkF m 68 #[iv r, iv role, iv odd, iv (own_odd role), iv (own_odd (role ^^^ 1)), iv k, iv (own_odd ((2 : Int32) * k)), iv (own_odd (((2 : Int32) * k) + (1 : Int32)))] [(.int (own_odd role)), (.int (own_odd (role ^^^ 1)))]) := fun tt kt => go124 tt (by
      refine XS.icmpNo X122.here hx rfl (hb hby at_62) rfl (teq hA).2 ?_
      refine XS.iload X122.here hx rfl (hb hby at_65) rfl ?_
      refine XS.iloadN X122.here hx rfl (hb hby at_67) rfl ?_
      exact kt)
  have go126 : own_S p e below ST T122 (mkF m 73 #[iv r, iv role, iv odd, iv (own_odd role), iv (own_odd (role ^^^ 1)), iv k, iv (own_odd ((2 : Int32) * k)), iv (own_odd (((2 : Int32) * k) + (1 : Int32)))] [(.int (own_odd ((2 : Int32) * k)))]) := fun tt kt => go125 tt (by
      refine XS.icmpNo X122.here hx rfl (hb hby at_68) rfl (feq hB).1 ?_
      refine XS.iload X122.here hx rfl (hb hby at_71) rfl ?_
      exact kt)
  have go127 : own_S p e below ST T122 (mkF m 78 #[iv r, iv role, iv odd, iv (own_odd role), iv (own_odd (role ^^^ 1)), iv k, iv (own_odd ((2 : Int32) * k)), iv (own_odd (((2 : Int32) * k) + (1 : Int32)))] [(.int (own_odd (((2 : Int32) * k) + (1 : Int32))))]) := fun tt kt => go126 tt (by
      refine XS.ifNo X122.here hx rfl (hb hby at_73) rfl ((if0 _ _).trans (teq hC).2) ?_
      refine XS.iload X122.here hx rfl (hb hby at_76) rfl ?_
      exact kt)
  have go128 : own_S p e below ST T122 (mkF m 86 #[iv r, iv role, iv odd, iv (own_odd role), iv (own_odd (role ^^^ 1)), iv k, iv (own_odd ((2 : Int32) * k)), iv (own_odd (((2 : Int32) * k) + (1 : Int32)))] [(.int (1 : Int32))]) := fun tt kt => go127 tt (by
      refine XS.ifNo X122.here hx rfl (hb hby at_78) rfl ((if0 _ _).trans (feq hD).1) ?_
      refine XS.iconst X122.here hx rfl (hb hby at_81) ?_
      refine XS.goto X122.here hx rfl (pc0 := 82) (pc' := 86) rfl (hb hby at_82) (by decide) (by decide) ?_
      exact kt)
  obtain ⟨fs, hr, hrun, hended, hW, hsame⟩ := X122.leave (v := some (.int (1 : Int32))) (fun h => by rw [Bd.returns] at h; cases h)
  refine ⟨_, _, pre0 _ (go128 _ ?_), hrun, hended, _, _, rfl, ?_, ⟨_, rfl⟩, hW, hsame.mono (by decide) (by decide)⟩
  · exact retN X122 hx (t := .boolean) Bd.returns (by simp) (hb hby at_86) hr
  · show Q0 Z r h0 n0 _ T122.heap _
    rw [eh122]
    exact ⟨rfl, N122⟩
set_option maxRecDepth 65536 in
set_option maxHeartbeats 40000000 in
theorem comes_1 {Post : Tables → Env → Array Value → State → Outcome → State → Prop} (hpost : ∀ tb e args s v u, (limb_1_1.after args s (.returned v) u = true ∧ limb_1_2.after args s (.returned v) u = true ∧ True) → FrameEnd s (.returned v) u (Jvm.fieldLocs frame_1_writes args s ++ Jvm.arrayLocs frame_1_arrays args s ++ Jvm.staticLocs frame_1_statics s) 0 0 → Post tb e args s (.returned v) u) :
    ArmFor flags0 classFile x code maxLocals ret World_1 tables_1 room_1 Calls_1 rest_1 Pre_1 Post := by
  intro l hfl _ _ p e ha hc hk s m args below hf hA hF happ hP
  obtain ⟨hcalls, hrest, hpre⟩ := hP
  obtain ⟨-, -, -, hnamed, -, -, -, hat⟩ := (Spec.applies_iff hf).mp happ
  obtain ⟨hg, hn⟩ := and_e (Cond.before_iff.mp (show (Jvm.Cond.and given_1 narrow_1).before args s = true from hpre))
  obtain ⟨gg1, gg2⟩ := and_e hg
  obtain ⟨w0, rfl⟩ : ∃ w0 : Value, args = #[w0] := by
    have hs : args.size = 1 := by simpa [Cond.value, given_1] using gg1
    obtain ⟨L⟩ := args
    match L, hs with
    | [w0], _ => exact ⟨w0, rfl⟩
  have hw := fun d (hd : d ∈ tables_1) => atoms_spec (ws := Jvm.Cond.code x code maxLocals ret :: tables_1) hat d (List.mem_cons_of_mem _ hd)
  have W : ∀ {d : Jvm.Cond} (i : Nat), tables_1[i]? = some d → d.before _ s = true := fun i h => hw _ (List.mem_of_getElem? h)
  have hfit : Fit s := fun {y c} hc i hi => by
    obtain ⟨ha, rfl⟩ := Array.getElem?_eq_some_iff.mp hc
    have q := List.all_eq_true.mp ((Array.all_eq_true_iff_forall_mem.mp hF) _ (Array.getElem_mem ha)) i (List.mem_range.mpr hi)
    simpa [Array.getElem?_eq_getElem hi] using q
  obtain ⟨i0, ei0⟩ := is_v gg2
  obtain rfl : w0 = (.int i0) := Option.some.inj ei0
  obtain ⟨n, o, h1, h2, h3, _, L, rfl, ⟨rfl, N⟩, hq⟩ := rm0 l s _ hw tables_1 i0 s.heap s.heap.size (Nat.le_refl _)  p e ha hc hk s m _ below hf ((Spec.applies_iff_loose hf).mp happ).1 ⟨rfl, State.Warmed39.refl s, rfl⟩ trivial
  refine ⟨n, _, h1, h2, h3, hpost _ _ _ _ _ _ ⟨Cond.after_iff.mpr rfl, Cond.after_iff.mpr (eq_i res_at (Term.int_eval (1)) rfl), trivial⟩ ⟨hq.1, hq.2.1, (hq.2.2.sift fun y hy => Or.inr (N y hy)).mono (by decide) (by decide)⟩⟩
theorem main_1_1 : Claimed_1_1 := comes_1 fun _ _ _ _ _ _ h hF => ⟨h.1, hF⟩
theorem main_1_2 : Claimed_1_2 := comes_1 fun _ _ _ _ _ _ h hF => ⟨h.2.1, hF⟩
end Jvm.Pilot.@@N@@
namespace Jvm.Pilot.@@N@@
open Jvm Jvm.ClassFile Sem Op Lib Jvm.Free Jvm.Stand Jvm.Pilot.@@N@@.Jvm.D
/-! MADE BY PROGRAM (witnessworld.py) out of the Statement's table words and the real class files: 9 classes; the members and pool entries that the words name. The judged class is class 1, her method 1. -/
namespace start1
open Jvm.ClassFile
def u (s : String) : CpInfo := .utf8 (stringToUtf16 s)
/-- a pool by its gaps: so many unusable entries, then the entry; so many at the end -/
def gap : Nat → List CpInfo → List CpInfo
  | 0, r => r
  | n + 1, r => .unusable :: gap n r
def poolList (es : List (Nat × CpInfo)) (last : Nat) : List CpInfo := es.foldr (fun e r => gap e.1 (e.2 :: r)) (gap last [])
def pool (es : List (Nat × CpInfo)) (last : Nat) : Array CpInfo := ⟨poolList es last⟩
def fileOf (pool : Array CpInfo) (this : Nat) (attrs : Array Attribute := #[]) (ms : Array MethodInfo := #[]) (fl : Nat := 33) (sup : Nat := 0) (ifs : Array Nat := #[]) (fds : Array FieldInfo := #[]) : ClassFile where
  minorVersion := 0
  majorVersion := 65
  constantPool := pool
  accessFlags := fl
  thisClass := this
  superClass := sup
  interfaces := ifs
  fields := fds
  methods := ms
  attributes := attrs
def plain (name : String) (sup : Option ClassId) : Class where
  name := name
  kind := .ordinary
  loader := none
  accessFlags := 33
  super := sup
  interfaces := #[]
  cf := none
  fields := #[]
  methods := #[]
  instanceTypes := #[]
  staticTypes := #[]
  resolved := #[]
  callSites := []
  init := .initialized
  statics := none
  mirror := none

def pool0 : Array CpInfo := pool [(5, u "<init>"), (0, u "()V"), (1, .class_ 10), (1, u "java/lang/Object")] 113

def k0m0 : Method := { name := "<init>", desc := "()V", sig := { parameters := [], returnType := none }, accessFlags := 1, code := none }
/-- java/lang/Object -/
def k0 : Class := { plain "java/lang/Object" none with
  accessFlags := 33
  interfaces := #[]
  cf := some (fileOf pool0 8 #[] #[{ accessFlags := 1, nameIndex := 5, descriptorIndex := 6, attributes := #[] }] 33 0 #[] #[])
  fields := #[]
  methods := #[k0m0]
  instanceTypes := #[]
  staticTypes := #[]
  resolved := Array.replicate 124 none
  statics := none }

def pool1 : Array CpInfo := pool [(2, .class_ 4), (1, u "java/lang/Object"), (0, u "<init>"), (0, u "()V"), (0, .integer 2147483647), (0, .methodref 9 10), (0, .class_ 11), (0, .nameAndType 12 13), (0, u "com/example/brancher/brancher/service/Closure"), (0, u "isInverse"), (0, u "(I)Z"), (0, .methodref 9 15), (0, .nameAndType 16 17), (0, u "inverse"), (0, u "(I)I"), (0, .integer 1073741823), (0, .class_ 20), (0, u "com/example/brancher/brancher/service/ClosureIsInversePinLaw"), (2, u "law")] 3

def k1m0 : Method := { name := "<init>", desc := "()V", sig := { parameters := [], returnType := none }, accessFlags := 1, code := none }
def k1c1 : Code := { maxStack := 2, maxLocals := 8, code := code, exceptionTable := #[], attributes := #[] }
def k1m1 : Method := { name := "law", desc := "(I)Z", sig := { parameters := [.int], returnType := some .boolean }, accessFlags := 9, code := some k1c1 }
/-- com/example/brancher/brancher/service/ClosureIsInversePinLaw -/
def k1 : Class := { plain "com/example/brancher/brancher/service/ClosureIsInversePinLaw" (some 0) with
  accessFlags := 49
  interfaces := #[]
  cf := some (fileOf pool1 19 #[] #[{ accessFlags := 1, nameIndex := 5, descriptorIndex := 6, attributes := #[] }, { accessFlags := 9, nameIndex := 23, descriptorIndex := 13, attributes := #[] }] 49 2 #[] #[])
  fields := #[]
  methods := #[k1m0, k1m1]
  instanceTypes := #[]
  staticTypes := #[]
  resolved := Array.replicate 27 none
  statics := none }

def pool2 : Array CpInfo := pool [(2, .class_ 4), (1, u "java/lang/Object"), (0, u "<init>"), (0, u "()V"), (4, .class_ 13), (1, u "com/example/brancher/brancher/service/Closure"), (0, u "entries"), (0, u "Ljava/util/List;"), (5, u "numbers"), (0, u "Ljava/util/Map;"), (5, u "added"), (2, u "roleNames"), (2, u "roleNumbers"), (5, u "aliases"), (14, .class_ 56), (0, u "com/example/brancher/brancher/service/Closure$Entry"), (1, .class_ 60), (1, u "com/example/brancher/brancher/service/Closure$Kind"), (4, u "NO_OPERANDS"), (0, u "[I"), (24, u "(I)I"), (350, u "isInverse"), (0, u "(I)Z"), (23, u "inverse")] 63

def k2m0 : Method := { name := "<init>", desc := "()V", sig := { parameters := [], returnType := none }, accessFlags := 0, code := none }
def k2c1 : Code := { maxStack := 2, maxLocals := 1, code := prog_55_method_20_code, exceptionTable := #[], attributes := #[] }
def k2m1 : Method := { name := "isInverse", desc := "(I)Z", sig := { parameters := [.int], returnType := some .boolean }, accessFlags := 8, code := some k2c1 }
def k2c2 : Code := { maxStack := 2, maxLocals := 1, code := prog_55_method_21_code, exceptionTable := #[], attributes := #[] }
def k2m2 : Method := { name := "inverse", desc := "(I)I", sig := { parameters := [.int], returnType := some .int }, accessFlags := 8, code := some k2c2 }
/-- com/example/brancher/brancher/service/Closure -/
def k2 : Class := { plain "com/example/brancher/brancher/service/Closure" (some 0) with
  accessFlags := 32
  interfaces := #[]
  cf := some (fileOf pool2 11 #[.nestMembers #[55, 58]] #[{ accessFlags := 0, nameIndex := 5, descriptorIndex := 6, attributes := #[] }, { accessFlags := 8, nameIndex := 442, descriptorIndex := 443, attributes := #[] }, { accessFlags := 8, nameIndex := 467, descriptorIndex := 91, attributes := #[] }] 32 2 #[] #[{ accessFlags := 26, nameIndex := 65, descriptorIndex := 66, attributes := #[] }, { accessFlags := 18, nameIndex := 14, descriptorIndex := 15, attributes := #[] }, { accessFlags := 18, nameIndex := 21, descriptorIndex := 22, attributes := #[] }, { accessFlags := 18, nameIndex := 28, descriptorIndex := 22, attributes := #[] }, { accessFlags := 18, nameIndex := 31, descriptorIndex := 15, attributes := #[] }, { accessFlags := 18, nameIndex := 34, descriptorIndex := 22, attributes := #[] }, { accessFlags := 18, nameIndex := 40, descriptorIndex := 22, attributes := #[] }])
  fields := #[{ name := "NO_OPERANDS", type := (.array .int), accessFlags := 26, slot := 0, constantValue := 0 }, { name := "entries", type := (.object "java/util/List"), accessFlags := 18, slot := 0, constantValue := 0 }, { name := "numbers", type := (.object "java/util/Map"), accessFlags := 18, slot := 1, constantValue := 0 }, { name := "added", type := (.object "java/util/Map"), accessFlags := 18, slot := 2, constantValue := 0 }, { name := "roleNames", type := (.object "java/util/List"), accessFlags := 18, slot := 3, constantValue := 0 }, { name := "roleNumbers", type := (.object "java/util/Map"), accessFlags := 18, slot := 4, constantValue := 0 }, { name := "aliases", type := (.object "java/util/Map"), accessFlags := 18, slot := 5, constantValue := 0 }]
  methods := #[k2m0, k2m1, k2m2]
  instanceTypes := #[(.object "java/util/List"), (.object "java/util/Map"), (.object "java/util/Map"), (.object "java/util/List"), (.object "java/util/Map"), (.object "java/util/Map")]
  staticTypes := #[(.array .int)]
  resolved := Array.replicate 531 none
  statics := none }

def pool3 : Array CpInfo := pool [(1, u "java/lang/Cloneable"), (0, .class_ 1), (0, u "java/lang/Object"), (0, .class_ 3)] 3

/-- java/lang/Cloneable -/
def k3 : Class := { plain "java/lang/Cloneable" (some 0) with
  accessFlags := 1537
  interfaces := #[]
  cf := some (fileOf pool3 2 #[] #[] 1537 4 #[] #[])
  fields := #[]
  methods := #[]
  instanceTypes := #[]
  staticTypes := #[]
  resolved := Array.replicate 8 none
  statics := none }

def pool4 : Array CpInfo := pool [(1, u "java/io/Serializable"), (0, .class_ 1), (0, u "java/lang/Object"), (0, .class_ 3)] 3

/-- java/io/Serializable -/
def k4 : Class := { plain "java/io/Serializable" (some 0) with
  accessFlags := 1537
  interfaces := #[]
  cf := some (fileOf pool4 2 #[] #[] 1537 4 #[] #[])
  fields := #[]
  methods := #[]
  instanceTypes := #[]
  staticTypes := #[]
  resolved := Array.replicate 8 none
  statics := none }

/-- the primitive byte -/
def k5 : Class := { plain "byte" none with kind := .primitive 'B', accessFlags := 0x411 }
/-- [B -/
def k6 : Class := { plain "[B" (some 0) with kind := .array 5 .byte, interfaces := #[3, 4], accessFlags := 1041 }

/-- the primitive int -/
def k7 : Class := { plain "int" none with kind := .primitive 'I', accessFlags := 0x411 }
/-- [I -/
def k8 : Class := { plain "[I" (some 0) with kind := .array 7 .int, interfaces := #[3, 4], accessFlags := 1041 }

def heap : Heap := #[]
def classes : Array Class := #[k0, k1, k2, k3, k4, k5, k6, k7, k8]
def interned : List (Array UInt16 × Addr) := []
def slotsUsed : Nat := 0
def theMethod : MethodId := ⟨1, 1⟩
def args0 : Array Value := #[.int 5]
def aboutOver (below : List Frame) : State where
  vm := { classes := classes, interned := interned.toArray }
  heap := heap
  slotsUsed := slotsUsed
  threads := #[{ frames := .invoking theMethod args0 :: below }]
def below0 : List Frame := [.native { method := ⟨0, 0⟩, args := #[] }]
def about1 : State := aboutOver below0
def p0 : Program := .bare "" "" ""
def e0 : Env := launch0.env 0 0 0
theorem w_frames : about1.frames = Frame.invoking theMethod args0 :: below0 := rfl
set_option maxRecDepth 65536 in
theorem w_args : argsFit about1.vm theMethod args0 = true := by decide +kernel
set_option maxRecDepth 65536 in
theorem w_heap : heapFits about1 = true := by decide +kernel
set_option maxRecDepth 65536 in
theorem w_runnable : about1.curStatus? = some .runnable := by decide +kernel
set_option maxRecDepth 65536 in
theorem w_alone : about1.alone = true := by decide +kernel
set_option maxRecDepth 65536 in
theorem w_named : about1.methodNamed? x = some theMethod := by decide +kernel
set_option maxRecDepth 65536 in
theorem w_hears : about1.hears theMethod below0 = true := by decide +kernel
set_option maxRecDepth 65536 in
theorem w_ripe : about1.ripe theMethod args0 below0 = true := by decide +kernel
theorem w_running : about1.status = .running := rfl
set_option maxRecDepth 65536 in
theorem w_room : about1.hasRoom e0.platform room_1 = true :=
  launch0.hasRoom_least _ room_1 (by decide +kernel) (by decide +kernel) (by decide +kernel) (by decide +kernel) (by decide +kernel) (by decide +kernel)
theorem allAtoms_all (ts : List Jvm.Cond) (a : Array Jvm.Value) (st : Jvm.State) : (allAtoms ts).before a st = ts.all (fun c => c.before a st) := by
  induction ts with
  | nil => rfl
  | cons c t ih =>
    show (Jvm.Cond.and c (allAtoms t)).before a st = _
    rw [Jvm.Cond.before_and, ih, List.all_cons]
def words1 : List Jvm.Cond := Jvm.Cond.code x code maxLocals ret :: tables_1
/-- a 'code' word, met by the world's own term for the bytes: nothing is compared byte by byte -/
theorem code_word {y : MethodName} {bytes : ByteArray} {mx : Nat} {rt : Option FieldType} {a : Array Value} {s : State} {m : MethodId} {meth : Method} {c : Code} (h1 : s.methodNamed? y = some m) (h2 : s.vm.method? m = some meth) (h3 : meth.code = some c) (h4 : c.code = bytes)
    (h5 : (c.maxLocals == mx && c.exceptionTable.isEmpty && decide (c.maxStack ≤ mostOperands) && decide (meth.sig.returnType = rt) && !meth.locks && decide (parseMethodDescriptor y.desc = some meth.sig)) = true) : (Jvm.Cond.code y bytes mx rt).before a s = true := by
  simp only [Bool.and_eq_true, beq_iff_eq, Bool.not_eq_true', decide_eq_true_eq] at h5
  obtain ⟨⟨⟨⟨⟨g1, g2⟩, g3⟩, g4⟩, g5⟩, g6⟩ := h5
  simp [Cond.before, Cond.holds, Cond.value, h1, h2, h3, h4, g1, g2, g3, g4, g5, g6]
def isCode : Jvm.Cond → Bool
  | .code _ _ _ _ => true
  | _ => false
theorem all_split {L : List Jvm.Cond} {P : Jvm.Cond → Bool} (h1 : L.all (fun c => isCode c || P c) = true) (h2 : ∀ c ∈ L.filter isCode, P c = true) : L.all P = true := by
  refine List.all_eq_true.mpr fun c hc => ?_
  have h := List.all_eq_true.mp h1 c hc
  rcases Bool.eq_false_or_eq_true (isCode c) with hi | hi
  · exact h2 c (List.mem_filter.mpr ⟨hc, hi⟩)
  · simpa [hi] using h
set_option maxRecDepth 65536 in
theorem w_c0 : (Jvm.Cond.code x code maxLocals ret).before args0 about1 = true := code_word (m := ⟨1, 1⟩) (meth := k1m1) (c := k1c1) (by decide +kernel) rfl rfl rfl (by decide +kernel)
set_option maxRecDepth 65536 in
theorem w_c1 : (Jvm.Cond.code ({ cls := "com/example/brancher/brancher/service/Closure", name := "isInverse", desc := "(I)Z" } : Jvm.MethodName) prog_55_method_20_code (1 : Nat) (Option.some Jvm.ClassFile.FieldType.boolean)).before args0 about1 = true := code_word (m := ⟨2, 1⟩) (meth := k2m1) (c := k2c1) (by decide +kernel) rfl rfl rfl (by decide +kernel)
set_option maxRecDepth 65536 in
theorem w_c2 : (Jvm.Cond.code ({ cls := "com/example/brancher/brancher/service/Closure", name := "inverse", desc := "(I)I" } : Jvm.MethodName) prog_55_method_21_code (1 : Nat) (Option.some Jvm.ClassFile.FieldType.int)).before args0 about1 = true := code_word (m := ⟨2, 2⟩) (meth := k2m2) (c := k2c2) (by decide +kernel) rfl rfl rfl (by decide +kernel)
def codes1 : List Jvm.Cond := [Jvm.Cond.code x code maxLocals ret, Jvm.Cond.code ({ cls := "com/example/brancher/brancher/service/Closure", name := "isInverse", desc := "(I)Z" } : Jvm.MethodName) prog_55_method_20_code (1 : Nat) (Option.some Jvm.ClassFile.FieldType.boolean), Jvm.Cond.code ({ cls := "com/example/brancher/brancher/service/Closure", name := "inverse", desc := "(I)I" } : Jvm.MethodName) prog_55_method_21_code (1 : Nat) (Option.some Jvm.ClassFile.FieldType.int)]
set_option maxRecDepth 65536 in
theorem codes_eq : words1.filter isCode = codes1 := rfl
theorem w_codes : ∀ c ∈ words1.filter isCode, c.before args0 about1 = true := by
  rw [codes_eq]
  intro c hc
  simp only [codes1, List.mem_cons, List.not_mem_nil, or_false] at hc
  rcases hc with rfl | rfl | rfl
  · exact w_c0
  · exact w_c1
  · exact w_c2
set_option maxRecDepth 65536 in
theorem w_t1 : words1.all (fun c => isCode c || c.before args0 about1) = true := by decide +kernel
theorem w_tables : (allAtoms (Jvm.Cond.code x code maxLocals ret :: tables_1)).before args0 about1 = true := by
  rw [allAtoms_all]
  show words1.all (fun c => c.before args0 about1) = true
  refine all_split ?_ w_codes
  rw [w_t1]
set_option maxRecDepth 65536 in
theorem w_case : (Jvm.Cond.and given_1 narrow_1).before args0 about1 = true := by decide +kernel
theorem w_applies : (headSpec (Jvm.Cond.code x code maxLocals ret :: tables_1) room_1).applies x e0.platform about1 = true :=
  (Spec.applies_iff w_frames).mpr ⟨w_running, w_runnable, w_alone, w_named, w_hears, w_ripe, w_room, w_tables⟩
theorem atStart : AtStart classFile x code maxLocals ret World_1 tables_1 room_1 Calls_1 rest_1 Pre_1 launch0 p0 e0 about1 theMethod args0 below0 :=
  ⟨lists_1, trivial, launch0.admits_env _ _ _, launch0.least_env, fairChoices_fair.cas, fairChoices_fair.clock, w_frames, w_args, w_heap, w_applies, trivial, trivial, w_case⟩
end start1
theorem witness_1 : WitnessClaimed_1 := ⟨start1.p0, start1.e0, start1.about1, start1.theMethod, start1.args0, start1.below0, start1.atStart⟩
end Jvm.Pilot.@@N@@
