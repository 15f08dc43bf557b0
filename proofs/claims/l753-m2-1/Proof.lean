import JvmDerived
import JvmDerived.Pilot.@@N@@Statement
import JvmDerived.Pilot.@@N@@Code
set_option linter.unusedVariables false
set_option linter.unusedSimpArgs false
namespace Jvm.RoadKit
open Sem ClassFile Op Lib Jvm.Stand Jvm.Free Jvm.LawKit
section New
variable {p : Program} {l : Launch} {e : Env} {R : Room} {s : State} {m : MethodId} {args : Array Value} {below : List Frame} {meth : Method} {c : Code} {T : State} {locs : List Loc} {cells slots : Nat}
theorem retI (X : Stand p l e R s m args below meth c T locs cells slots) (hx : p.tables.exec = Jvm.exec) {pc : Nat} {Ls : Array Slot} {z : Int32} {rest : List Value} (hret : meth.sig.returnType = some .int) (hd : decode c.code pc = .ok (.ireturn, 1)) {fs : List Frame}
    (hl : ∀ (f : JFrame) (acts : List Action), f.method = m → f.locked = none → f.entered = [] → (doReturn e (T.setTop f) acts (some (.int z))).1 = T.setFrames fs) : Steps p.tables e below (T.setTop (mkF m pc Ls (.int z :: rest))) (T.setFrames fs) := by
  have hm' : T.vm.method? m = some meth := X.method'
  have hn : narrow .int (.int z) = .int z := rfl
  show Steps p.tables e below (T.setTop { method := m, pc := pc, locals := Ls, stack := _ :: rest, locked := none }) _
  jvm_step X.here [X.here.top, hx, hd, hm', hret, hn]
  first | (intro acts; rw [hl _ acts rfl rfl rfl]) | rw [hl _ _ rfl rfl rfl]
  exact Steps.refl _
end New
end Jvm.RoadKit
namespace Jvm.Pilot.@@N@@
open Jvm Jvm.ClassFile Sem Op Lib Jvm.Free Jvm.Stand Jvm.LawKit Jvm.RoadKit Bundle Jvm.Pilot.@@N@@.Jvm.D
abbrev own_S (p : Program) (e : Env) (below : List Frame) (S T : State) (f : JFrame) : Prop := ∀ tt, Steps p.tables e below (T.setTop f) tt → Steps p.tables e below S tt
theorem own_eqI {args : Array Value} {first s : State} {o : Option Outcome} {idx : List Nat} {t : Term} {k : Int32} (h : (Jvm.Cond.eq t (.int k)).value args first o s idx = some true) : t.eval args first o idx s = some (.int k) := by
  simp only [Jvm.Cond.value, Term.eval] at h
  cases ht : t.eval args first o idx s with
  | none => simp [ht] at h
  | some x => cases x <;> simp [ht] at h ⊢; exact h
theorem own_k (x s : Int32) (h : s = x &&& 3) : s = 0 ∨ s = 1 ∨ s = 2 ∨ s = 3 := by
  have h1 := c_mask x 3 2 (by decide) (by decide)
  rw [← h] at h1
  have e4 : ((2 ^ 2 : Nat) : Int) = 4 := by decide
  rw [e4] at h1
  have e0 : (0 : Int32).toInt = 0 := rfl
  have e1 : (1 : Int32).toInt = 1 := rfl
  have e2 : (2 : Int32).toInt = 2 := rfl
  have e3 : (3 : Int32).toInt = 3 := rfl
  simp only [← Int32.toInt_inj]
  omega
theorem own_hi {s : Int32} (h : s = 0 ∨ s = 1 ∨ s = 2 ∨ s = 3) (h0 : ¬ s = 0) (h1 : ¬ s = 1) : ¬ s < 2 := by
  rcases h with rfl | rfl | rfl | rfl
  · exact absurd rfl h0
  · exact absurd rfl h1
  · decide
  · decide
theorem pn0 : plainName "com/example/altocommit/altocommit/jdbc/ColumnType" = true := by first | (simp [plainName, overriddenIn]; done) | decide +kernel
theorem d1_0 : decode prog_56_method_4_code 0 = .ok (.aload_n 0, 1) := by decide +kernel
theorem d1_1 : decode prog_56_method_4_code 1 = .ok (.getstatic 3, 3) := by decide +kernel
theorem d1_4 : decode prog_56_method_4_code 4 = .ok (.if_acmp .eq 10, 3) := by decide +kernel
theorem d1_14 : decode prog_56_method_4_code 14 = .ok (.iconst 1, 1) := by decide +kernel
theorem d1_15 : decode prog_56_method_4_code 15 = .ok (.goto 4, 3) := by decide +kernel
theorem d1_19 : decode prog_56_method_4_code 19 = .ok (.ireturn, 1) := by decide +kernel
theorem ef1v (m : MethodId) (x0 : Addr) : entryFrame m #[(.ref x0)] 1 = mkF m 0 #[.val (.ref x0)] [] := by first | (simp [entryFrame, mkF, argsToLocals, Value.category]; done) | rfl
def Q1v (Z : State) (aV : Addr) (aT : Addr) (h0 : Heap) (n0 : Nat) (v : Option Value) (h : Heap) (L : List Loc) : Prop := v = some (.int 1) ∧ Fr n0 L ∧ h = h0
set_option maxRecDepth 65536 in
set_option maxHeartbeats 40000000 in
theorem rm1v (l : Launch) (Z : State) (a0 : Array Value) (hw : ∀ d ∈ tables_1, d.before a0 Z = true) (ws : List Jvm.Cond) (aV : Addr) (aT : Addr) (h0 : Heap) (n0 : Nat) (Z0 : n0 ≤ h0.size) (S1 : Sta Z h0 "com/example/altocommit/altocommit/jdbc/ColumnType" "VARCHAR" "Lcom/example/altocommit/altocommit/jdbc/ColumnType;" (.ref aV)) (S2 : Sta Z h0 "com/example/altocommit/altocommit/jdbc/ColumnType" "TEXT" "Lcom/example/altocommit/altocommit/jdbc/ColumnType;" (.ref aT)) :
    MetFree l (⟨"com/example/altocommit/altocommit/jdbc/ColumnType", "isText", "()Z"⟩ : MethodName) (head1 (Jvm.Cond.code (⟨"com/example/altocommit/altocommit/jdbc/ColumnType", "isText", "()Z"⟩ : MethodName) prog_56_method_4_code 1 (some .boolean) :: ws) ({ frames := 0, cells := 0, slots := 0, locals := 0 } : Room)) (fun aa UU => aa = #[(.ref aV)] ∧ Z.Warmed39 UU.vm ∧ UU.heap = h0) (fun _ _ _ _ _ => True) (fun _ UU oo UU' => ∃ vv LL, oo = .returned vv ∧ Q1v Z aV aT h0 n0 vv UU'.heap LL ∧ FrameEnd UU oo UU' LL ({ frames := 0, cells := 0, slots := 0, locals := 0 } : Room).cells ({ frames := 0, cells := 0, slots := 0, locals := 0 } : Room).slots) := by
  have W : ∀ {d : Jvm.Cond} (i : Nat), tables_1[i]? = some d → d.before a0 Z = true := fun i h => hw _ (List.mem_of_getElem? h)
  refine MetFree.of_bodySF (plainFor_of_name pn0) hisR ?_
  intro p e s m args below meth c s₁ Bd hml0 hP hK
  obtain ⟨rfl, hZ, hh⟩ := hP
  have hx := Bd.exec
  have hby := Bd.bytes
  have hml : c.maxLocals = 1 := hml0
  have hown : s.vm.findClass "com/example/altocommit/altocommit/jdbc/ColumnType" = some m.cls := findClass_of_methodNamed Bd.named
  have hnm := (name_of_methodNamed Bd.named Bd.method).1
  have X0 : Stand p l e ({ frames := 0, cells := 0, slots := 0, locals := 0 } : Room) s m #[(.ref aV)] below meth c s₁ [] 0 0 := Stand.of_body Bd
  have e0 : s₁.heap = h0 := by rw [← hh, Bd.state]; rfl
  have N0 := Fr.nil n0
  have pre0 : ∀ tt, Steps p.tables e below (s₁.setTop (mkF m 0 #[rv aV] [])) tt → Steps p.tables e below (s₁.setTop (entryFrame m #[(.ref aV)] 1)) tt := fun tt kt => castTop (ef1v m aV) kt
  obtain ⟨ST, hST⟩ : ∃ z : State, z = s₁.setTop (mkF m 0 #[rv aV] []) := ⟨_, rfl⟩
  rw [← hST] at pre0
  have go101 : own_S p e below ST s₁ (mkF m 1 #[rv aV] [(.ref aV)]) := fun tt kt => (by
      rw [hST]
      show Steps p.tables e below (s₁.setTop (mkF m 0 #[rv aV] [])) _
      refine XS.aloadN X0.here hx rfl (hb hby d1_0) rfl rfl ?_
      exact kt)
  obtain ⟨T102, X102, e102, st102⟩ := getS2 X0 hx hZ hown (host := "") (Or.inl (W 8 rfl)) Via.refl e0 S1 (g := (mkF m 1 #[rv aV] [(.ref aV)])) rfl (hb hby d1_1)
  have go103 : own_S p e below ST T102 (mkF m 4 #[rv aV] [(.ref aV), (.ref aV)]) := fun tt kt => go101 tt (st102 _ kt)
  have go104 : own_S p e below ST T102 (mkF m 19 #[rv aV] [(.int (1 : Int32))]) := fun tt kt => go103 tt (by
      refine Jvm.RoadKit.acmp (g := (mkF m 4 #[rv aV] [(.ref aV), (.ref aV)])) X102 hx rfl rfl rfl (pc0 := 4) (pc' := 14) (same := true) rfl (hb hby d1_4) rfl (decide_eq_true rfl) (by decide) (by decide) ?_
      refine XS.iconst X102.here hx rfl (hb hby d1_14) ?_
      refine XS.goto X102.here hx rfl (pc0 := 15) (pc' := 19) rfl (hb hby d1_15) (by decide) (by decide) ?_
      exact kt)
  obtain ⟨fs, hr, hrun, hended, hW, hsame⟩ := X102.leave (v := some (.int (1 : Int32))) (fun h => by rw [Bd.returns] at h; cases h)
  refine ⟨_, _, pre0 _ (go104 _ ?_), hrun, hended, _, _, rfl, ?_, ⟨_, rfl⟩, hW, hsame.mono (by decide) (by decide)⟩
  · exact retN X102 hx (t := .boolean) Bd.returns (by simp) (hb hby d1_19) hr
  · show Q1v Z aV aT h0 n0 _ T102.heap _
    rw [e102]
    exact ⟨rfl, N0, rfl⟩
theorem d1_7 : decode prog_56_method_4_code 7 = .ok (.aload_n 0, 1) := by decide +kernel
theorem d1_8 : decode prog_56_method_4_code 8 = .ok (.getstatic 7, 3) := by decide +kernel
theorem d1_11 : decode prog_56_method_4_code 11 = .ok (.if_acmp .ne 7, 3) := by decide +kernel
theorem ef1t (m : MethodId) (x0 : Addr) : entryFrame m #[(.ref x0)] 1 = mkF m 0 #[.val (.ref x0)] [] := by first | (simp [entryFrame, mkF, argsToLocals, Value.category]; done) | rfl
def Q1t (Z : State) (aV : Addr) (aT : Addr) (h0 : Heap) (n0 : Nat) (v : Option Value) (h : Heap) (L : List Loc) : Prop := v = some (.int 1) ∧ Fr n0 L ∧ h = h0
set_option maxRecDepth 65536 in
set_option maxHeartbeats 40000000 in
theorem rm1t (l : Launch) (Z : State) (a0 : Array Value) (hw : ∀ d ∈ tables_1, d.before a0 Z = true) (ws : List Jvm.Cond) (aV : Addr) (aT : Addr) (h0 : Heap) (n0 : Nat) (Z0 : n0 ≤ h0.size) (S1 : Sta Z h0 "com/example/altocommit/altocommit/jdbc/ColumnType" "VARCHAR" "Lcom/example/altocommit/altocommit/jdbc/ColumnType;" (.ref aV)) (S2 : Sta Z h0 "com/example/altocommit/altocommit/jdbc/ColumnType" "TEXT" "Lcom/example/altocommit/altocommit/jdbc/ColumnType;" (.ref aT)) (n1 : aT ≠ aV) :
    MetFree l (⟨"com/example/altocommit/altocommit/jdbc/ColumnType", "isText", "()Z"⟩ : MethodName) (head1 (Jvm.Cond.code (⟨"com/example/altocommit/altocommit/jdbc/ColumnType", "isText", "()Z"⟩ : MethodName) prog_56_method_4_code 1 (some .boolean) :: ws) ({ frames := 0, cells := 0, slots := 0, locals := 0 } : Room)) (fun aa UU => aa = #[(.ref aT)] ∧ Z.Warmed39 UU.vm ∧ UU.heap = h0) (fun _ _ _ _ _ => True) (fun _ UU oo UU' => ∃ vv LL, oo = .returned vv ∧ Q1t Z aV aT h0 n0 vv UU'.heap LL ∧ FrameEnd UU oo UU' LL ({ frames := 0, cells := 0, slots := 0, locals := 0 } : Room).cells ({ frames := 0, cells := 0, slots := 0, locals := 0 } : Room).slots) := by
  have W : ∀ {d : Jvm.Cond} (i : Nat), tables_1[i]? = some d → d.before a0 Z = true := fun i h => hw _ (List.mem_of_getElem? h)
  refine MetFree.of_bodySF (plainFor_of_name pn0) hisR ?_
  intro p e s m args below meth c s₁ Bd hml0 hP hK
  obtain ⟨rfl, hZ, hh⟩ := hP
  have hx := Bd.exec
  have hby := Bd.bytes
  have hml : c.maxLocals = 1 := hml0
  have hown : s.vm.findClass "com/example/altocommit/altocommit/jdbc/ColumnType" = some m.cls := findClass_of_methodNamed Bd.named
  have hnm := (name_of_methodNamed Bd.named Bd.method).1
  have X0 : Stand p l e ({ frames := 0, cells := 0, slots := 0, locals := 0 } : Room) s m #[(.ref aT)] below meth c s₁ [] 0 0 := Stand.of_body Bd
  have e0 : s₁.heap = h0 := by rw [← hh, Bd.state]; rfl
  have N0 := Fr.nil n0
  have pre0 : ∀ tt, Steps p.tables e below (s₁.setTop (mkF m 0 #[rv aT] [])) tt → Steps p.tables e below (s₁.setTop (entryFrame m #[(.ref aT)] 1)) tt := fun tt kt => castTop (ef1t m aT) kt
  obtain ⟨ST, hST⟩ : ∃ z : State, z = s₁.setTop (mkF m 0 #[rv aT] []) := ⟨_, rfl⟩
  rw [← hST] at pre0
  have go105 : own_S p e below ST s₁ (mkF m 1 #[rv aT] [(.ref aT)]) := fun tt kt => (by
      rw [hST]
      show Steps p.tables e below (s₁.setTop (mkF m 0 #[rv aT] [])) _
      refine XS.aloadN X0.here hx rfl (hb hby d1_0) rfl rfl ?_
      exact kt)
  obtain ⟨T106, X106, e106, st106⟩ := getS2 X0 hx hZ hown (host := "") (Or.inl (W 8 rfl)) Via.refl e0 S1 (g := (mkF m 1 #[rv aT] [(.ref aT)])) rfl (hb hby d1_1)
  have go107 : own_S p e below ST T106 (mkF m 4 #[rv aT] [(.ref aV), (.ref aT)]) := fun tt kt => go105 tt (st106 _ kt)
  have go108 : own_S p e below ST T106 (mkF m 8 #[rv aT] [(.ref aT)]) := fun tt kt => go107 tt (by
      refine Jvm.RoadKit.acmp (g := (mkF m 4 #[rv aT] [(.ref aV), (.ref aT)])) X106 hx rfl rfl rfl (pc0 := 4) (pc' := 7) (same := false) rfl (hb hby d1_4) rfl (decide_eq_false fun q => n1 (Value.ref.inj q)) (by decide) (by decide) ?_
      refine XS.aloadN X106.here hx rfl (hb hby d1_7) rfl rfl ?_
      exact kt)
  obtain ⟨T109, X109, e109, st109⟩ := getS2 X106 hx hZ hown (host := "") (Or.inl (W 13 rfl)) Via.refl e106 S2 (g := (mkF m 8 #[rv aT] [(.ref aT)])) rfl (hb hby d1_8)
  have go110 : own_S p e below ST T109 (mkF m 11 #[rv aT] [(.ref aT), (.ref aT)]) := fun tt kt => go108 tt (st109 _ kt)
  have go111 : own_S p e below ST T109 (mkF m 19 #[rv aT] [(.int (1 : Int32))]) := fun tt kt => go110 tt (by
      refine Jvm.RoadKit.acmp (g := (mkF m 11 #[rv aT] [(.ref aT), (.ref aT)])) X109 hx rfl rfl rfl (pc0 := 11) (pc' := 14) (same := true) rfl (hb hby d1_11) rfl (decide_eq_true rfl) (by decide) (by decide) ?_
      refine XS.iconst X109.here hx rfl (hb hby d1_14) ?_
      refine XS.goto X109.here hx rfl (pc0 := 15) (pc' := 19) rfl (hb hby d1_15) (by decide) (by decide) ?_
      exact kt)
  obtain ⟨fs, hr, hrun, hended, hW, hsame⟩ := X109.leave (v := some (.int (1 : Int32))) (fun h => by rw [Bd.returns] at h; cases h)
  refine ⟨_, _, pre0 _ (go111 _ ?_), hrun, hended, _, _, rfl, ?_, ⟨_, rfl⟩, hW, hsame.mono (by decide) (by decide)⟩
  · exact retN X109 hx (t := .boolean) Bd.returns (by simp) (hb hby d1_19) hr
  · show Q1t Z aV aT h0 n0 _ T109.heap _
    rw [e109]
    exact ⟨rfl, N0, rfl⟩
theorem d1_18 : decode prog_56_method_4_code 18 = .ok (.iconst 0, 1) := by decide +kernel
theorem ef1o (m : MethodId) (x0 : Addr) : entryFrame m #[(.ref x0)] 1 = mkF m 0 #[.val (.ref x0)] [] := by first | (simp [entryFrame, mkF, argsToLocals, Value.category]; done) | rfl
def Q1o (Z : State) (aV : Addr) (aT : Addr) (o1 : Addr) (h0 : Heap) (n0 : Nat) (v : Option Value) (h : Heap) (L : List Loc) : Prop := v = some (.int 0) ∧ Fr n0 L ∧ h = h0
set_option maxRecDepth 65536 in
set_option maxHeartbeats 40000000 in
theorem rm1o (l : Launch) (Z : State) (a0 : Array Value) (hw : ∀ d ∈ tables_1, d.before a0 Z = true) (ws : List Jvm.Cond) (aV : Addr) (aT : Addr) (o1 : Addr) (h0 : Heap) (n0 : Nat) (Z0 : n0 ≤ h0.size) (S1 : Sta Z h0 "com/example/altocommit/altocommit/jdbc/ColumnType" "VARCHAR" "Lcom/example/altocommit/altocommit/jdbc/ColumnType;" (.ref aV)) (S2 : Sta Z h0 "com/example/altocommit/altocommit/jdbc/ColumnType" "TEXT" "Lcom/example/altocommit/altocommit/jdbc/ColumnType;" (.ref aT)) (n1 : o1 ≠ aV) (n2 : o1 ≠ aT) :
    MetFree l (⟨"com/example/altocommit/altocommit/jdbc/ColumnType", "isText", "()Z"⟩ : MethodName) (head1 (Jvm.Cond.code (⟨"com/example/altocommit/altocommit/jdbc/ColumnType", "isText", "()Z"⟩ : MethodName) prog_56_method_4_code 1 (some .boolean) :: ws) ({ frames := 0, cells := 0, slots := 0, locals := 0 } : Room)) (fun aa UU => aa = #[(.ref o1)] ∧ Z.Warmed39 UU.vm ∧ UU.heap = h0) (fun _ _ _ _ _ => True) (fun _ UU oo UU' => ∃ vv LL, oo = .returned vv ∧ Q1o Z aV aT o1 h0 n0 vv UU'.heap LL ∧ FrameEnd UU oo UU' LL ({ frames := 0, cells := 0, slots := 0, locals := 0 } : Room).cells ({ frames := 0, cells := 0, slots := 0, locals := 0 } : Room).slots) := by
  have W : ∀ {d : Jvm.Cond} (i : Nat), tables_1[i]? = some d → d.before a0 Z = true := fun i h => hw _ (List.mem_of_getElem? h)
  refine MetFree.of_bodySF (plainFor_of_name pn0) hisR ?_
  intro p e s m args below meth c s₁ Bd hml0 hP hK
  obtain ⟨rfl, hZ, hh⟩ := hP
  have hx := Bd.exec
  have hby := Bd.bytes
  have hml : c.maxLocals = 1 := hml0
  have hown : s.vm.findClass "com/example/altocommit/altocommit/jdbc/ColumnType" = some m.cls := findClass_of_methodNamed Bd.named
  have hnm := (name_of_methodNamed Bd.named Bd.method).1
  have X0 : Stand p l e ({ frames := 0, cells := 0, slots := 0, locals := 0 } : Room) s m #[(.ref o1)] below meth c s₁ [] 0 0 := Stand.of_body Bd
  have e0 : s₁.heap = h0 := by rw [← hh, Bd.state]; rfl
  have N0 := Fr.nil n0
  have pre0 : ∀ tt, Steps p.tables e below (s₁.setTop (mkF m 0 #[rv o1] [])) tt → Steps p.tables e below (s₁.setTop (entryFrame m #[(.ref o1)] 1)) tt := fun tt kt => castTop (ef1o m o1) kt
  obtain ⟨ST, hST⟩ : ∃ z : State, z = s₁.setTop (mkF m 0 #[rv o1] []) := ⟨_, rfl⟩
  rw [← hST] at pre0
  have go112 : own_S p e below ST s₁ (mkF m 1 #[rv o1] [(.ref o1)]) := fun tt kt => (by
      rw [hST]
      show Steps p.tables e below (s₁.setTop (mkF m 0 #[rv o1] [])) _
      refine XS.aloadN X0.here hx rfl (hb hby d1_0) rfl rfl ?_
      exact kt)
  obtain ⟨T113, X113, e113, st113⟩ := getS2 X0 hx hZ hown (host := "") (Or.inl (W 8 rfl)) Via.refl e0 S1 (g := (mkF m 1 #[rv o1] [(.ref o1)])) rfl (hb hby d1_1)
  have go114 : own_S p e below ST T113 (mkF m 4 #[rv o1] [(.ref aV), (.ref o1)]) := fun tt kt => go112 tt (st113 _ kt)
  have go115 : own_S p e below ST T113 (mkF m 8 #[rv o1] [(.ref o1)]) := fun tt kt => go114 tt (by
      refine Jvm.RoadKit.acmp (g := (mkF m 4 #[rv o1] [(.ref aV), (.ref o1)])) X113 hx rfl rfl rfl (pc0 := 4) (pc' := 7) (same := false) rfl (hb hby d1_4) rfl (decide_eq_false fun q => n1 (Value.ref.inj q)) (by decide) (by decide) ?_
      refine XS.aloadN X113.here hx rfl (hb hby d1_7) rfl rfl ?_
      exact kt)
  obtain ⟨T116, X116, e116, st116⟩ := getS2 X113 hx hZ hown (host := "") (Or.inl (W 13 rfl)) Via.refl e113 S2 (g := (mkF m 8 #[rv o1] [(.ref o1)])) rfl (hb hby d1_8)
  have go117 : own_S p e below ST T116 (mkF m 11 #[rv o1] [(.ref aT), (.ref o1)]) := fun tt kt => go115 tt (st116 _ kt)
  have go118 : own_S p e below ST T116 (mkF m 19 #[rv o1] [(.int (0 : Int32))]) := fun tt kt => go117 tt (by
      refine Jvm.RoadKit.acmp (g := (mkF m 11 #[rv o1] [(.ref aT), (.ref o1)])) X116 hx rfl rfl rfl (pc0 := 11) (pc' := 18) (same := false) rfl (hb hby d1_11) rfl (decide_eq_false fun q => n2 (Value.ref.inj q)) (by decide) (by decide) ?_
      refine XS.iconst X116.here hx rfl (hb hby d1_18) ?_
      exact kt)
  obtain ⟨fs, hr, hrun, hended, hW, hsame⟩ := X116.leave (v := some (.int (0 : Int32))) (fun h => by rw [Bd.returns] at h; cases h)
  refine ⟨_, _, pre0 _ (go118 _ ?_), hrun, hended, _, _, rfl, ?_, ⟨_, rfl⟩, hW, hsame.mono (by decide) (by decide)⟩
  · exact retN X116 hx (t := .boolean) Bd.returns (by simp) (hb hby d1_19) hr
  · show Q1o Z aV aT o1 h0 n0 _ T116.heap _
    rw [e116]
    exact ⟨rfl, N0, rfl⟩
theorem pn11 : plainName "com/example/altocommit/altocommit/jdbc/ColumnTypeIsTextPinLaw" = true := by first | (simp [plainName, overriddenIn]; done) | decide +kernel
theorem pd12 : parseMethodDescriptor "()Z" = some ⟨[], some .boolean⟩ := by decide +kernel
theorem ef0 (m : MethodId) (x0 : Int32) : entryFrame m #[(.int x0)] maxLocals = mkF m 0 #[.val (.int x0), .unset, .unset, .unset, .unset, .unset] [] := by first | (simp [entryFrame, mkF, argsToLocals, Value.category, maxLocals]; done) | rfl
def Q0 (Z : State) (wh : Int32) (aV : Addr) (aB : Addr) (aT : Addr) (aI : Addr) (h0 : Heap) (n0 : Nat) (v : Option Value) (h : Heap) (L : List Loc) : Prop := v = some (.int 1) ∧ Fr n0 L
set_option maxRecDepth 65536 in
set_option maxHeartbeats 40000000 in
theorem rm0 (l : Launch) (Z : State) (a0 : Array Value) (hw : ∀ d ∈ tables_1, d.before a0 Z = true) (ws : List Jvm.Cond) (wh : Int32) (aV : Addr) (aB : Addr) (aT : Addr) (aI : Addr) (h0 : Heap) (n0 : Nat) (Z0 : n0 ≤ h0.size) (S_aV : Sta Z h0 "com/example/altocommit/altocommit/jdbc/ColumnType" "VARCHAR" "Lcom/example/altocommit/altocommit/jdbc/ColumnType;" (.ref aV)) (E_aV : Exa Z h0 aV "com/example/altocommit/altocommit/jdbc/ColumnType") (S_aB : Sta Z h0 "com/example/altocommit/altocommit/jdbc/ColumnType" "BIGINT" "Lcom/example/altocommit/altocommit/jdbc/ColumnType;" (.ref aB)) (E_aB : Exa Z h0 aB "com/example/altocommit/altocommit/jdbc/ColumnType") (S_aT : Sta Z h0 "com/example/altocommit/altocommit/jdbc/ColumnType" "TEXT" "Lcom/example/altocommit/altocommit/jdbc/ColumnType;" (.ref aT)) (E_aT : Exa Z h0 aT "com/example/altocommit/altocommit/jdbc/ColumnType") (S_aI : Sta Z h0 "com/example/altocommit/altocommit/jdbc/ColumnType" "INTEGER" "Lcom/example/altocommit/altocommit/jdbc/ColumnType;" (.ref aI)) (E_aI : Exa Z h0 aI "com/example/altocommit/altocommit/jdbc/ColumnType") (G_aV_sqlType : Fld Z h0 aV "com/example/altocommit/altocommit/jdbc/ColumnType" "sqlType" "I" (.int (12 : Int32))) (G_aB_ordinal : Fld Z h0 aB "java/lang/Enum" "ordinal" "I" (.int (3 : Int32))) (G_aV_ordinal : Fld Z h0 aV "java/lang/Enum" "ordinal" "I" (.int (0 : Int32))) (G_aT_ordinal : Fld Z h0 aT "java/lang/Enum" "ordinal" "I" (.int (1 : Int32))) (G_aB_sqlType : Fld Z h0 aB "com/example/altocommit/altocommit/jdbc/ColumnType" "sqlType" "I" (.int (-5 : Int32))) (G_aI_ordinal : Fld Z h0 aI "java/lang/Enum" "ordinal" "I" (.int (2 : Int32))) (G_aI_sqlType : Fld Z h0 aI "com/example/altocommit/altocommit/jdbc/ColumnType" "sqlType" "I" (.int (4 : Int32))) (G_aT_sqlType : Fld Z h0 aT "com/example/altocommit/altocommit/jdbc/ColumnType" "sqlType" "I" (.int (12 : Int32))) :
    MetFree l x (head1 (Jvm.Cond.code x code maxLocals ret :: ws) room_1) (fun aa UU => aa = #[(.int wh)] ∧ Z.Warmed39 UU.vm ∧ UU.heap = h0) (fun _ _ _ _ _ => True) (fun _ UU oo UU' => ∃ vv LL, oo = .returned vv ∧ Q0 Z wh aV aB aT aI h0 n0 vv UU'.heap LL ∧ FrameEnd UU oo UU' LL room_1.cells room_1.slots) := by
  have W : ∀ {d : Jvm.Cond} (i : Nat), tables_1[i]? = some d → d.before a0 Z = true := fun i h => hw _ (List.mem_of_getElem? h)
  refine MetFree.of_bodySF (plainFor_of_name pn11) hisR ?_
  intro p e s m args below meth c s₁ Bd hml0 hP hK
  obtain ⟨rfl, hZ, hh⟩ := hP
  have hx := Bd.exec
  have hby := Bd.bytes
  have hml : c.maxLocals = 6 := hml0
  have hown : s.vm.findClass "com/example/altocommit/altocommit/jdbc/ColumnTypeIsTextPinLaw" = some m.cls := findClass_of_methodNamed Bd.named
  have hnm := (name_of_methodNamed Bd.named Bd.method).1
  have X0 : Stand p l e room_1 s m #[(.int wh)] below meth c s₁ [] 0 0 := Stand.of_body Bd
  have e0 : s₁.heap = h0 := by rw [← hh, Bd.state]; rfl
  have N0 := Fr.nil n0
  have pre0 : ∀ tt, Steps p.tables e below (s₁.setTop (mkF m 0 #[iv wh, .unset, .unset, .unset, .unset, .unset] [])) tt → Steps p.tables e below (s₁.setTop (entryFrame m #[(.int wh)] maxLocals)) tt := fun tt kt => castTop (ef0 m wh) kt
  obtain ⟨ST, hST⟩ : ∃ z : State, z = s₁.setTop (mkF m 0 #[iv wh, .unset, .unset, .unset, .unset, .unset] []) := ⟨_, rfl⟩
  rw [← hST] at pre0
  have ne_aT_aV : aT ≠ aV := Fld.ne G_aT_ordinal G_aV_ordinal (fun q => absurd (Value.int.inj q) (by decide))
  have ne_aI_aV : aI ≠ aV := Fld.ne G_aI_ordinal G_aV_ordinal (fun q => absurd (Value.int.inj q) (by decide))
  have ne_aB_aV : aB ≠ aV := Fld.ne G_aB_ordinal G_aV_ordinal (fun q => absurd (Value.int.inj q) (by decide))
  have ne_aI_aT : aI ≠ aT := Fld.ne G_aI_ordinal G_aT_ordinal (fun q => absurd (Value.int.inj q) (by decide))
  have ne_aB_aT : aB ≠ aT := Fld.ne G_aB_ordinal G_aT_ordinal (fun q => absurd (Value.int.inj q) (by decide))
  have go119 : own_S p e below ST s₁ (mkF m 4 #[iv wh, iv (wh &&& (3 : Int32)), .unset, .unset, .unset, .unset] []) := fun tt kt => (by
      rw [hST]
      show Steps p.tables e below (s₁.setTop (mkF m 0 #[iv wh, .unset, .unset, .unset, .unset, .unset] [])) _
      refine XS.iloadN X0.here hx rfl (hb hby at_0) rfl ?_
      refine XS.iconst X0.here hx rfl (hb hby at_1) ?_
      refine XS.iand X0.here hx rfl (hb hby at_2) rfl ?_
      refine XS.istoreN X0.here hx rfl (hb hby at_3) rfl (l' := #[iv wh, iv (wh &&& (3 : Int32)), .unset, .unset, .unset, .unset]) rfl ?_
      exact kt)
  obtain ⟨kk, hkk⟩ : ∃ z : Int32, z = (wh &&& (3 : Int32)) := ⟨_, rfl⟩
  rw [← hkk] at go119
  have hk4 := own_k wh kk hkk
  have go120 : own_S p e below ST s₁ (mkF m 5 #[iv wh, iv kk, .unset, .unset, .unset, .unset] [(.int kk)]) := fun tt kt => go119 tt (by
      refine XS.iloadN X0.here hx rfl (hb hby at_4) rfl ?_
      exact kt)
  by_cases c0 : kk = (0 : Int32)
  · have go121 : own_S p e below ST s₁ (mkF m 8 #[iv wh, iv kk, .unset, .unset, .unset, .unset] []) := fun tt kt => go120 tt (by
        refine XS.ifNo X0.here hx rfl (hb hby at_5) rfl ((if0 _ _).trans (teq c0).2) ?_
        exact kt)
    have hlt : kk < 2 := by rw [c0]; decide
    obtain ⟨T122, X122, e122, st122⟩ := getS2 X0 hx hZ hown (host := "") (Or.inl (W 0 rfl)) Via.refl e0 S_aV (g := (mkF m 8 #[iv wh, iv kk, .unset, .unset, .unset, .unset] [])) rfl (hb hby at_8)
    have go123 : own_S p e below ST T122 (mkF m 11 #[iv wh, iv kk, .unset, .unset, .unset, .unset] [(.ref aV)]) := fun tt kt => go121 tt (st122 _ kt)
    have go124 : own_S p e below ST T122 (mkF m 55 #[iv wh, iv kk, rv aV, iv (1 : Int32), .unset, .unset] [(.ref aV)]) := fun tt kt => go123 tt (by
        refine XS.astoreN X122.here hx rfl (hb hby at_11) rfl rfl (l' := #[iv wh, iv kk, rv aV, .unset, .unset, .unset]) rfl ?_
        refine XS.goto X122.here hx rfl (pc0 := 12) (pc' := 43) rfl (hb hby at_12) (by decide) (by decide) ?_
        refine XS.iloadN X122.here hx rfl (hb hby at_43) rfl ?_
        refine XS.iconst X122.here hx rfl (hb hby at_44) ?_
        refine XS.icmpNo X122.here hx rfl (hb hby at_45) rfl (tlt hlt).2.1 ?_
        refine XS.iconst X122.here hx rfl (hb hby at_48) ?_
        show Steps p.tables e below (T122.setTop (mkF m 49 #[iv wh, iv kk, rv aV, .unset, .unset, .unset] [(.int (1 : Int32))])) _
        refine XS.goto X122.here hx rfl (pc0 := 49) (pc' := 53) rfl (hb hby at_49) (by decide) (by decide) ?_
        refine XS.istoreN X122.here hx rfl (hb hby at_53) rfl (l' := #[iv wh, iv kk, rv aV, iv (1 : Int32), .unset, .unset]) rfl ?_
        refine XS.aloadN X122.here hx rfl (hb hby at_54) rfl rfl ?_
        exact kt)
    obtain ⟨cq125, kq125, q125a, q125b, q125c⟩ := isOf hZ e122 E_aV
    obtain ⟨_, _, ⟨T125, L125, k125, n125⟩, -, X125, ⟨Lc125, hQ125, l125, y125, z125⟩, st125⟩ := X122.virtualBack hx (y := (⟨"com/example/altocommit/altocommit/jdbc/ColumnType", "isText", "()Z"⟩ : MethodName)) (z := (⟨"com/example/altocommit/altocommit/jdbc/ColumnType", "isText", "()Z"⟩ : MethodName)) hown (mvT hZ (W 3 rfl)) (mvT hZ (W 4 rfl)) (notFace_of_selects (args := #[]) (mvT hZ (W 6 rfl))) (mvT hZ (W 6 rfl)) (mvT hZ (W 5 rfl)) (by decide) (backOf (W := 0) (rm1v l Z a0 hw [] aV aT h0 n0 Z0 S_aV S_aT) hZ (W 7 rfl) (W 1 rfl) (by decide) (by decide)) q125a q125c (g := (mkF m 55 #[iv wh, iv kk, rv aV, iv (1 : Int32), .unset, .unset] [(.ref aV)])) rfl (by rw [hml]; rfl) (Steps.refl _) (argsL := []) (rest := []) (lenOf pd12 rfl) rfl (by show 2 * 0 + _ ≤ _; exact Nat.le_of_eq rfl) (hb hby at_55) (fun _ _ => ⟨rfl, e122, (by decide : 0 + 0 ≤ _), (by decide : 0 + 0 ≤ _)⟩)
    dsimp only [Pt.U, Pt.locs, Pt.cells, Pt.slots] at X125 l125 y125 z125 st125 hQ125
    subst l125 y125 z125
    obtain ⟨rfl, Nq125, eh125⟩ := hQ125
    have N125 := Fr.app N0 Nq125
    have go126 : own_S p e below ST T125 (mkF m 58 #[iv wh, iv kk, rv aV, iv (1 : Int32), .unset, .unset] [(.int (1 : Int32))]) := fun tt kt => go124 tt (st125.trans kt)
    have go127 : own_S p e below ST T125 (mkF m 61 #[iv wh, iv kk, rv aV, iv (1 : Int32), iv (1 : Int32), .unset] [(.ref aV)]) := fun tt kt => go126 tt (by
        refine XS.istore X125.here hx rfl (hb hby at_58) rfl (l' := #[iv wh, iv kk, rv aV, iv (1 : Int32), iv (1 : Int32), .unset]) rfl ?_
        refine XS.aloadN X125.here hx rfl (hb hby at_60) rfl rfl ?_
        exact kt)
    obtain ⟨T128, X128, e128, st128⟩ := getF X125 hx hZ hown (host := "") (Or.inl (W 9 rfl)) Via.refl eh125 G_aV_sqlType (g := (mkF m 61 #[iv wh, iv kk, rv aV, iv (1 : Int32), iv (1 : Int32), .unset] [(.ref aV)])) rfl rfl (hb hby at_61)
    have go129 : own_S p e below ST T128 (mkF m 64 #[iv wh, iv kk, rv aV, iv (1 : Int32), iv (1 : Int32), .unset] [(.int (12 : Int32))]) := fun tt kt => go127 tt (st128 _ kt)
    have go130 : own_S p e below ST T128 (mkF m 94 #[iv wh, iv kk, rv aV, iv (1 : Int32), iv (1 : Int32), iv (1 : Int32)] [(.int (1 : Int32))]) := fun tt kt => go129 tt (by
        refine XS.bipush X128.here hx rfl (hb hby at_64) ?_
        refine XS.icmpNo X128.here hx rfl (hb hby at_66) rfl (teq (by decide : (12 : Int32) = (12 : Int32))).2 ?_
        refine XS.iconst X128.here hx rfl (hb hby at_69) ?_
        refine XS.goto X128.here hx rfl (pc0 := 70) (pc' := 74) rfl (hb hby at_70) (by decide) (by decide) ?_
        refine XS.istore X128.here hx rfl (hb hby at_74) rfl (l' := #[iv wh, iv kk, rv aV, iv (1 : Int32), iv (1 : Int32), iv (1 : Int32)]) rfl ?_
        refine XS.iload X128.here hx rfl (hb hby at_76) rfl ?_
        show Steps p.tables e below (T128.setTop (mkF m 78 #[iv wh, iv kk, rv aV, iv (1 : Int32), iv (1 : Int32), iv (1 : Int32)] [(.int (1 : Int32))])) _
        refine XS.iloadN X128.here hx rfl (hb hby at_78) rfl ?_
        refine XS.icmpNo X128.here hx rfl (hb hby at_79) rfl (teq (by decide : (1 : Int32) = (1 : Int32))).2 ?_
        refine XS.iload X128.here hx rfl (hb hby at_82) rfl ?_
        refine XS.iload X128.here hx rfl (hb hby at_84) rfl ?_
        refine XS.icmpNo X128.here hx rfl (hb hby at_86) rfl (teq (by decide : (1 : Int32) = (1 : Int32))).2 ?_
        refine XS.iconst X128.here hx rfl (hb hby at_89) ?_
        show Steps p.tables e below (T128.setTop (mkF m 90 #[iv wh, iv kk, rv aV, iv (1 : Int32), iv (1 : Int32), iv (1 : Int32)] [(.int (1 : Int32))])) _
        refine XS.goto X128.here hx rfl (pc0 := 90) (pc' := 94) rfl (hb hby at_90) (by decide) (by decide) ?_
        exact kt)
    obtain ⟨fs, hr, hrun, hended, hW, hsame⟩ := X128.leave (v := some (.int (1 : Int32))) (fun h => by rw [Bd.returns] at h; cases h)
    refine ⟨_, _, pre0 _ (go130 _ ?_), hrun, hended, _, _, rfl, ?_, ⟨_, rfl⟩, hW, hsame.mono (by decide) (by decide)⟩
    · exact retN X128 hx (t := .boolean) Bd.returns (by simp) (hb hby at_94) hr
    · show Q0 Z wh aV aB aT aI h0 n0 _ T128.heap _
      rw [e128]
      exact ⟨rfl, N125⟩
  · have go131 : own_S p e below ST s₁ (mkF m 15 #[iv wh, iv kk, .unset, .unset, .unset, .unset] []) := fun tt kt => go120 tt (by
        refine XS.ifYes X0.here hx rfl (pc0 := 5) (pc' := 15) rfl (hb hby at_5) rfl ((if0 _ _).trans (feq c0).2) (by decide) (by decide) ?_
        exact kt)
    have go132 : own_S p e below ST s₁ (mkF m 17 #[iv wh, iv kk, .unset, .unset, .unset, .unset] [(.int (1 : Int32)), (.int kk)]) := fun tt kt => go131 tt (by
        refine XS.iloadN X0.here hx rfl (hb hby at_15) rfl ?_
        refine XS.iconst X0.here hx rfl (hb hby at_16) ?_
        exact kt)
    by_cases c1 : kk = (1 : Int32)
    · have go133 : own_S p e below ST s₁ (mkF m 20 #[iv wh, iv kk, .unset, .unset, .unset, .unset] []) := fun tt kt => go132 tt (by
          refine XS.icmpNo X0.here hx rfl (hb hby at_17) rfl (teq c1).2 ?_
          exact kt)
      have hlt : kk < 2 := by rw [c1]; decide
      obtain ⟨T134, X134, e134, st134⟩ := getS2 X0 hx hZ hown (host := "") (Or.inl (W 17 rfl)) Via.refl e0 S_aT (g := (mkF m 20 #[iv wh, iv kk, .unset, .unset, .unset, .unset] [])) rfl (hb hby at_20)
      have go135 : own_S p e below ST T134 (mkF m 23 #[iv wh, iv kk, .unset, .unset, .unset, .unset] [(.ref aT)]) := fun tt kt => go133 tt (st134 _ kt)
      have go136 : own_S p e below ST T134 (mkF m 55 #[iv wh, iv kk, rv aT, iv (1 : Int32), .unset, .unset] [(.ref aT)]) := fun tt kt => go135 tt (by
          refine XS.astoreN X134.here hx rfl (hb hby at_23) rfl rfl (l' := #[iv wh, iv kk, rv aT, .unset, .unset, .unset]) rfl ?_
          refine XS.goto X134.here hx rfl (pc0 := 24) (pc' := 43) rfl (hb hby at_24) (by decide) (by decide) ?_
          refine XS.iloadN X134.here hx rfl (hb hby at_43) rfl ?_
          refine XS.iconst X134.here hx rfl (hb hby at_44) ?_
          refine XS.icmpNo X134.here hx rfl (hb hby at_45) rfl (tlt hlt).2.1 ?_
          refine XS.iconst X134.here hx rfl (hb hby at_48) ?_
          show Steps p.tables e below (T134.setTop (mkF m 49 #[iv wh, iv kk, rv aT, .unset, .unset, .unset] [(.int (1 : Int32))])) _
          refine XS.goto X134.here hx rfl (pc0 := 49) (pc' := 53) rfl (hb hby at_49) (by decide) (by decide) ?_
          refine XS.istoreN X134.here hx rfl (hb hby at_53) rfl (l' := #[iv wh, iv kk, rv aT, iv (1 : Int32), .unset, .unset]) rfl ?_
          refine XS.aloadN X134.here hx rfl (hb hby at_54) rfl rfl ?_
          exact kt)
      obtain ⟨cq137, kq137, q137a, q137b, q137c⟩ := isOf hZ e134 E_aT
      obtain ⟨_, _, ⟨T137, L137, k137, n137⟩, -, X137, ⟨Lc137, hQ137, l137, y137, z137⟩, st137⟩ := X134.virtualBack hx (y := (⟨"com/example/altocommit/altocommit/jdbc/ColumnType", "isText", "()Z"⟩ : MethodName)) (z := (⟨"com/example/altocommit/altocommit/jdbc/ColumnType", "isText", "()Z"⟩ : MethodName)) hown (mvT hZ (W 3 rfl)) (mvT hZ (W 4 rfl)) (notFace_of_selects (args := #[]) (mvT hZ (W 6 rfl))) (mvT hZ (W 6 rfl)) (mvT hZ (W 5 rfl)) (by decide) (backOf (W := 0) (rm1t l Z a0 hw [] aV aT h0 n0 Z0 S_aV S_aT ne_aT_aV) hZ (W 7 rfl) (W 1 rfl) (by decide) (by decide)) q137a q137c (g := (mkF m 55 #[iv wh, iv kk, rv aT, iv (1 : Int32), .unset, .unset] [(.ref aT)])) rfl (by rw [hml]; rfl) (Steps.refl _) (argsL := []) (rest := []) (lenOf pd12 rfl) rfl (by show 2 * 0 + _ ≤ _; exact Nat.le_of_eq rfl) (hb hby at_55) (fun _ _ => ⟨rfl, e134, (by decide : 0 + 0 ≤ _), (by decide : 0 + 0 ≤ _)⟩)
      dsimp only [Pt.U, Pt.locs, Pt.cells, Pt.slots] at X137 l137 y137 z137 st137 hQ137
      subst l137 y137 z137
      obtain ⟨rfl, Nq137, eh137⟩ := hQ137
      have N137 := Fr.app N0 Nq137
      have go138 : own_S p e below ST T137 (mkF m 58 #[iv wh, iv kk, rv aT, iv (1 : Int32), .unset, .unset] [(.int (1 : Int32))]) := fun tt kt => go136 tt (st137.trans kt)
      have go139 : own_S p e below ST T137 (mkF m 61 #[iv wh, iv kk, rv aT, iv (1 : Int32), iv (1 : Int32), .unset] [(.ref aT)]) := fun tt kt => go138 tt (by
          refine XS.istore X137.here hx rfl (hb hby at_58) rfl (l' := #[iv wh, iv kk, rv aT, iv (1 : Int32), iv (1 : Int32), .unset]) rfl ?_
          refine XS.aloadN X137.here hx rfl (hb hby at_60) rfl rfl ?_
          exact kt)
      obtain ⟨T140, X140, e140, st140⟩ := getF X137 hx hZ hown (host := "") (Or.inl (W 9 rfl)) Via.refl eh137 G_aT_sqlType (g := (mkF m 61 #[iv wh, iv kk, rv aT, iv (1 : Int32), iv (1 : Int32), .unset] [(.ref aT)])) rfl rfl (hb hby at_61)
      have go141 : own_S p e below ST T140 (mkF m 64 #[iv wh, iv kk, rv aT, iv (1 : Int32), iv (1 : Int32), .unset] [(.int (12 : Int32))]) := fun tt kt => go139 tt (st140 _ kt)
      have go142 : own_S p e below ST T140 (mkF m 94 #[iv wh, iv kk, rv aT, iv (1 : Int32), iv (1 : Int32), iv (1 : Int32)] [(.int (1 : Int32))]) := fun tt kt => go141 tt (by
          refine XS.bipush X140.here hx rfl (hb hby at_64) ?_
          refine XS.icmpNo X140.here hx rfl (hb hby at_66) rfl (teq (by decide : (12 : Int32) = (12 : Int32))).2 ?_
          refine XS.iconst X140.here hx rfl (hb hby at_69) ?_
          refine XS.goto X140.here hx rfl (pc0 := 70) (pc' := 74) rfl (hb hby at_70) (by decide) (by decide) ?_
          refine XS.istore X140.here hx rfl (hb hby at_74) rfl (l' := #[iv wh, iv kk, rv aT, iv (1 : Int32), iv (1 : Int32), iv (1 : Int32)]) rfl ?_
          refine XS.iload X140.here hx rfl (hb hby at_76) rfl ?_
          show Steps p.tables e below (T140.setTop (mkF m 78 #[iv wh, iv kk, rv aT, iv (1 : Int32), iv (1 : Int32), iv (1 : Int32)] [(.int (1 : Int32))])) _
          refine XS.iloadN X140.here hx rfl (hb hby at_78) rfl ?_
          refine XS.icmpNo X140.here hx rfl (hb hby at_79) rfl (teq (by decide : (1 : Int32) = (1 : Int32))).2 ?_
          refine XS.iload X140.here hx rfl (hb hby at_82) rfl ?_
          refine XS.iload X140.here hx rfl (hb hby at_84) rfl ?_
          refine XS.icmpNo X140.here hx rfl (hb hby at_86) rfl (teq (by decide : (1 : Int32) = (1 : Int32))).2 ?_
          refine XS.iconst X140.here hx rfl (hb hby at_89) ?_
          show Steps p.tables e below (T140.setTop (mkF m 90 #[iv wh, iv kk, rv aT, iv (1 : Int32), iv (1 : Int32), iv (1 : Int32)] [(.int (1 : Int32))])) _
          refine XS.goto X140.here hx rfl (pc0 := 90) (pc' := 94) rfl (hb hby at_90) (by decide) (by decide) ?_
          exact kt)
      obtain ⟨fs, hr, hrun, hended, hW, hsame⟩ := X140.leave (v := some (.int (1 : Int32))) (fun h => by rw [Bd.returns] at h; cases h)
      refine ⟨_, _, pre0 _ (go142 _ ?_), hrun, hended, _, _, rfl, ?_, ⟨_, rfl⟩, hW, hsame.mono (by decide) (by decide)⟩
      · exact retN X140 hx (t := .boolean) Bd.returns (by simp) (hb hby at_94) hr
      · show Q0 Z wh aV aB aT aI h0 n0 _ T140.heap _
        rw [e140]
        exact ⟨rfl, N137⟩
    · have go143 : own_S p e below ST s₁ (mkF m 27 #[iv wh, iv kk, .unset, .unset, .unset, .unset] []) := fun tt kt => go132 tt (by
          refine XS.icmpYes X0.here hx rfl (pc0 := 17) (pc' := 27) rfl (hb hby at_17) rfl (feq c1).2 (by decide) (by decide) ?_
          exact kt)
      have go144 : own_S p e below ST s₁ (mkF m 29 #[iv wh, iv kk, .unset, .unset, .unset, .unset] [(.int (2 : Int32)), (.int kk)]) := fun tt kt => go143 tt (by
          refine XS.iloadN X0.here hx rfl (hb hby at_27) rfl ?_
          refine XS.iconst X0.here hx rfl (hb hby at_28) ?_
          exact kt)
      by_cases c2 : kk = (2 : Int32)
      · have go145 : own_S p e below ST s₁ (mkF m 32 #[iv wh, iv kk, .unset, .unset, .unset, .unset] []) := fun tt kt => go144 tt (by
            refine XS.icmpNo X0.here hx rfl (hb hby at_29) rfl (teq c2).2 ?_
            exact kt)
        have hlt : ¬ kk < 2 := own_hi hk4 c0 c1
        obtain ⟨T146, X146, e146, st146⟩ := getS2 X0 hx hZ hown (host := "") (Or.inl (W 15 rfl)) Via.refl e0 S_aI (g := (mkF m 32 #[iv wh, iv kk, .unset, .unset, .unset, .unset] [])) rfl (hb hby at_32)
        have go147 : own_S p e below ST T146 (mkF m 35 #[iv wh, iv kk, .unset, .unset, .unset, .unset] [(.ref aI)]) := fun tt kt => go145 tt (st146 _ kt)
        have go148 : own_S p e below ST T146 (mkF m 55 #[iv wh, iv kk, rv aI, iv (0 : Int32), .unset, .unset] [(.ref aI)]) := fun tt kt => go147 tt (by
            refine XS.astoreN X146.here hx rfl (hb hby at_35) rfl rfl (l' := #[iv wh, iv kk, rv aI, .unset, .unset, .unset]) rfl ?_
            refine XS.goto X146.here hx rfl (pc0 := 36) (pc' := 43) rfl (hb hby at_36) (by decide) (by decide) ?_
            refine XS.iloadN X146.here hx rfl (hb hby at_43) rfl ?_
            refine XS.iconst X146.here hx rfl (hb hby at_44) ?_
            refine XS.icmpYes X146.here hx rfl (pc0 := 45) (pc' := 52) rfl (hb hby at_45) rfl (flt hlt).2.1 (by decide) (by decide) ?_
            refine XS.iconst X146.here hx rfl (hb hby at_52) ?_
            show Steps p.tables e below (T146.setTop (mkF m 53 #[iv wh, iv kk, rv aI, .unset, .unset, .unset] [(.int (0 : Int32))])) _
            refine XS.istoreN X146.here hx rfl (hb hby at_53) rfl (l' := #[iv wh, iv kk, rv aI, iv (0 : Int32), .unset, .unset]) rfl ?_
            refine XS.aloadN X146.here hx rfl (hb hby at_54) rfl rfl ?_
            exact kt)
        obtain ⟨cq149, kq149, q149a, q149b, q149c⟩ := isOf hZ e146 E_aI
        obtain ⟨_, _, ⟨T149, L149, k149, n149⟩, -, X149, ⟨Lc149, hQ149, l149, y149, z149⟩, st149⟩ := X146.virtualBack hx (y := (⟨"com/example/altocommit/altocommit/jdbc/ColumnType", "isText", "()Z"⟩ : MethodName)) (z := (⟨"com/example/altocommit/altocommit/jdbc/ColumnType", "isText", "()Z"⟩ : MethodName)) hown (mvT hZ (W 3 rfl)) (mvT hZ (W 4 rfl)) (notFace_of_selects (args := #[]) (mvT hZ (W 6 rfl))) (mvT hZ (W 6 rfl)) (mvT hZ (W 5 rfl)) (by decide) (backOf (W := 0) (rm1o l Z a0 hw [] aV aT aI h0 n0 Z0 S_aV S_aT ne_aI_aV ne_aI_aT) hZ (W 7 rfl) (W 1 rfl) (by decide) (by decide)) q149a q149c (g := (mkF m 55 #[iv wh, iv kk, rv aI, iv (0 : Int32), .unset, .unset] [(.ref aI)])) rfl (by rw [hml]; rfl) (Steps.refl _) (argsL := []) (rest := []) (lenOf pd12 rfl) rfl (by show 2 * 0 + _ ≤ _; exact Nat.le_of_eq rfl) (hb hby at_55) (fun _ _ => ⟨rfl, e146, (by decide : 0 + 0 ≤ _), (by decide : 0 + 0 ≤ _)⟩)
        dsimp only [Pt.U, Pt.locs, Pt.cells, Pt.slots] at X149 l149 y149 z149 st149 hQ149
        subst l149 y149 z149
        obtain ⟨rfl, Nq149, eh149⟩ := hQ149
        have N149 := Fr.app N0 Nq149
        have go150 : own_S p e below ST T149 (mkF m 58 #[iv wh, iv kk, rv aI, iv (0 : Int32), .unset, .unset] [(.int (0 : Int32))]) := fun tt kt => go148 tt (st149.trans kt)
        have go151 : own_S p e below ST T149 (mkF m 61 #[iv wh, iv kk, rv aI, iv (0 : Int32), iv (0 : Int32), .unset] [(.ref aI)]) := fun tt kt => go150 tt (by
            refine XS.istore X149.here hx rfl (hb hby at_58) rfl (l' := #[iv wh, iv kk, rv aI, iv (0 : Int32), iv (0 : Int32), .unset]) rfl ?_
            refine XS.aloadN X149.here hx rfl (hb hby at_60) rfl rfl ?_
            exact kt)
        obtain ⟨T152, X152, e152, st152⟩ := getF X149 hx hZ hown (host := "") (Or.inl (W 9 rfl)) Via.refl eh149 G_aI_sqlType (g := (mkF m 61 #[iv wh, iv kk, rv aI, iv (0 : Int32), iv (0 : Int32), .unset] [(.ref aI)])) rfl rfl (hb hby at_61)
        have go153 : own_S p e below ST T152 (mkF m 64 #[iv wh, iv kk, rv aI, iv (0 : Int32), iv (0 : Int32), .unset] [(.int (4 : Int32))]) := fun tt kt => go151 tt (st152 _ kt)
        have go154 : own_S p e below ST T152 (mkF m 94 #[iv wh, iv kk, rv aI, iv (0 : Int32), iv (0 : Int32), iv (0 : Int32)] [(.int (1 : Int32))]) := fun tt kt => go153 tt (by
            refine XS.bipush X152.here hx rfl (hb hby at_64) ?_
            refine XS.icmpYes X152.here hx rfl (pc0 := 66) (pc' := 73) rfl (hb hby at_66) rfl (feq (by decide : ¬ ((4 : Int32) = (12 : Int32)))).2 (by decide) (by decide) ?_
            refine XS.iconst X152.here hx rfl (hb hby at_73) ?_
            refine XS.istore X152.here hx rfl (hb hby at_74) rfl (l' := #[iv wh, iv kk, rv aI, iv (0 : Int32), iv (0 : Int32), iv (0 : Int32)]) rfl ?_
            refine XS.iload X152.here hx rfl (hb hby at_76) rfl ?_
            refine XS.iloadN X152.here hx rfl (hb hby at_78) rfl ?_
            show Steps p.tables e below (T152.setTop (mkF m 79 #[iv wh, iv kk, rv aI, iv (0 : Int32), iv (0 : Int32), iv (0 : Int32)] [(.int (0 : Int32)), (.int (0 : Int32))])) _
            refine XS.icmpNo X152.here hx rfl (hb hby at_79) rfl (teq (by decide : (0 : Int32) = (0 : Int32))).2 ?_
            refine XS.iload X152.here hx rfl (hb hby at_82) rfl ?_
            refine XS.iload X152.here hx rfl (hb hby at_84) rfl ?_
            refine XS.icmpNo X152.here hx rfl (hb hby at_86) rfl (teq (by decide : (0 : Int32) = (0 : Int32))).2 ?_
            refine XS.iconst X152.here hx rfl (hb hby at_89) ?_
            refine XS.goto X152.here hx rfl (pc0 := 90) (pc' := 94) rfl (hb hby at_90) (by decide) (by decide) ?_
            exact kt)
        obtain ⟨fs, hr, hrun, hended, hW, hsame⟩ := X152.leave (v := some (.int (1 : Int32))) (fun h => by rw [Bd.returns] at h; cases h)
        refine ⟨_, _, pre0 _ (go154 _ ?_), hrun, hended, _, _, rfl, ?_, ⟨_, rfl⟩, hW, hsame.mono (by decide) (by decide)⟩
        · exact retN X152 hx (t := .boolean) Bd.returns (by simp) (hb hby at_94) hr
        · show Q0 Z wh aV aB aT aI h0 n0 _ T152.heap _
          rw [e152]
          exact ⟨rfl, N149⟩
      · have go155 : own_S p e below ST s₁ (mkF m 39 #[iv wh, iv kk, .unset, .unset, .unset, .unset] []) := fun tt kt => go144 tt (by
            refine XS.icmpYes X0.here hx rfl (pc0 := 29) (pc' := 39) rfl (hb hby at_29) rfl (feq c2).2 (by decide) (by decide) ?_
            exact kt)
        have hlt : ¬ kk < 2 := own_hi hk4 c0 c1
        obtain ⟨T156, X156, e156, st156⟩ := getS2 X0 hx hZ hown (host := "") (Or.inl (W 11 rfl)) Via.refl e0 S_aB (g := (mkF m 39 #[iv wh, iv kk, .unset, .unset, .unset, .unset] [])) rfl (hb hby at_39)
        have go157 : own_S p e below ST T156 (mkF m 42 #[iv wh, iv kk, .unset, .unset, .unset, .unset] [(.ref aB)]) := fun tt kt => go155 tt (st156 _ kt)
        have go158 : own_S p e below ST T156 (mkF m 55 #[iv wh, iv kk, rv aB, iv (0 : Int32), .unset, .unset] [(.ref aB)]) := fun tt kt => go157 tt (by
            refine XS.astoreN X156.here hx rfl (hb hby at_42) rfl rfl (l' := #[iv wh, iv kk, rv aB, .unset, .unset, .unset]) rfl ?_
            refine XS.iloadN X156.here hx rfl (hb hby at_43) rfl ?_
            refine XS.iconst X156.here hx rfl (hb hby at_44) ?_
            refine XS.icmpYes X156.here hx rfl (pc0 := 45) (pc' := 52) rfl (hb hby at_45) rfl (flt hlt).2.1 (by decide) (by decide) ?_
            refine XS.iconst X156.here hx rfl (hb hby at_52) ?_
            refine XS.istoreN X156.here hx rfl (hb hby at_53) rfl (l' := #[iv wh, iv kk, rv aB, iv (0 : Int32), .unset, .unset]) rfl ?_
            show Steps p.tables e below (T156.setTop (mkF m 54 #[iv wh, iv kk, rv aB, iv (0 : Int32), .unset, .unset] [])) _
            refine XS.aloadN X156.here hx rfl (hb hby at_54) rfl rfl ?_
            exact kt)
        obtain ⟨cq159, kq159, q159a, q159b, q159c⟩ := isOf hZ e156 E_aB
        obtain ⟨_, _, ⟨T159, L159, k159, n159⟩, -, X159, ⟨Lc159, hQ159, l159, y159, z159⟩, st159⟩ := X156.virtualBack hx (y := (⟨"com/example/altocommit/altocommit/jdbc/ColumnType", "isText", "()Z"⟩ : MethodName)) (z := (⟨"com/example/altocommit/altocommit/jdbc/ColumnType", "isText", "()Z"⟩ : MethodName)) hown (mvT hZ (W 3 rfl)) (mvT hZ (W 4 rfl)) (notFace_of_selects (args := #[]) (mvT hZ (W 6 rfl))) (mvT hZ (W 6 rfl)) (mvT hZ (W 5 rfl)) (by decide) (backOf (W := 0) (rm1o l Z a0 hw [] aV aT aB h0 n0 Z0 S_aV S_aT ne_aB_aV ne_aB_aT) hZ (W 7 rfl) (W 1 rfl) (by decide) (by decide)) q159a q159c (g := (mkF m 55 #[iv wh, iv kk, rv aB, iv (0 : Int32), .unset, .unset] [(.ref aB)])) rfl (by rw [hml]; rfl) (Steps.refl _) (argsL := []) (rest := []) (lenOf pd12 rfl) rfl (by show 2 * 0 + _ ≤ _; exact Nat.le_of_eq rfl) (hb hby at_55) (fun _ _ => ⟨rfl, e156, (by decide : 0 + 0 ≤ _), (by decide : 0 + 0 ≤ _)⟩)
        dsimp only [Pt.U, Pt.locs, Pt.cells, Pt.slots] at X159 l159 y159 z159 st159 hQ159
        subst l159 y159 z159
        obtain ⟨rfl, Nq159, eh159⟩ := hQ159
        have N159 := Fr.app N0 Nq159
        have go160 : own_S p e below ST T159 (mkF m 58 #[iv wh, iv kk, rv aB, iv (0 : Int32), .unset, .unset] [(.int (0 : Int32))]) := fun tt kt => go158 tt (st159.trans kt)
        have go161 : own_S p e below ST T159 (mkF m 61 #[iv wh, iv kk, rv aB, iv (0 : Int32), iv (0 : Int32), .unset] [(.ref aB)]) := fun tt kt => go160 tt (by
            refine XS.istore X159.here hx rfl (hb hby at_58) rfl (l' := #[iv wh, iv kk, rv aB, iv (0 : Int32), iv (0 : Int32), .unset]) rfl ?_
            refine XS.aloadN X159.here hx rfl (hb hby at_60) rfl rfl ?_
            exact kt)
        obtain ⟨T162, X162, e162, st162⟩ := getF X159 hx hZ hown (host := "") (Or.inl (W 9 rfl)) Via.refl eh159 G_aB_sqlType (g := (mkF m 61 #[iv wh, iv kk, rv aB, iv (0 : Int32), iv (0 : Int32), .unset] [(.ref aB)])) rfl rfl (hb hby at_61)
        have go163 : own_S p e below ST T162 (mkF m 64 #[iv wh, iv kk, rv aB, iv (0 : Int32), iv (0 : Int32), .unset] [(.int (-5 : Int32))]) := fun tt kt => go161 tt (st162 _ kt)
        have go164 : own_S p e below ST T162 (mkF m 94 #[iv wh, iv kk, rv aB, iv (0 : Int32), iv (0 : Int32), iv (0 : Int32)] [(.int (1 : Int32))]) := fun tt kt => go163 tt (by
            refine XS.bipush X162.here hx rfl (hb hby at_64) ?_
            refine XS.icmpYes X162.here hx rfl (pc0 := 66) (pc' := 73) rfl (hb hby at_66) rfl (feq (by decide : ¬ ((-5 : Int32) = (12 : Int32)))).2 (by decide) (by decide) ?_
            refine XS.iconst X162.here hx rfl (hb hby at_73) ?_
            refine XS.istore X162.here hx rfl (hb hby at_74) rfl (l' := #[iv wh, iv kk, rv aB, iv (0 : Int32), iv (0 : Int32), iv (0 : Int32)]) rfl ?_
            refine XS.iload X162.here hx rfl (hb hby at_76) rfl ?_
            refine XS.iloadN X162.here hx rfl (hb hby at_78) rfl ?_
            show Steps p.tables e below (T162.setTop (mkF m 79 #[iv wh, iv kk, rv aB, iv (0 : Int32), iv (0 : Int32), iv (0 : Int32)] [(.int (0 : Int32)), (.int (0 : Int32))])) _
            refine XS.icmpNo X162.here hx rfl (hb hby at_79) rfl (teq (by decide : (0 : Int32) = (0 : Int32))).2 ?_
            refine XS.iload X162.here hx rfl (hb hby at_82) rfl ?_
            refine XS.iload X162.here hx rfl (hb hby at_84) rfl ?_
            refine XS.icmpNo X162.here hx rfl (hb hby at_86) rfl (teq (by decide : (0 : Int32) = (0 : Int32))).2 ?_
            refine XS.iconst X162.here hx rfl (hb hby at_89) ?_
            refine XS.goto X162.here hx rfl (pc0 := 90) (pc' := 94) rfl (hb hby at_90) (by decide) (by decide) ?_
            exact kt)
        obtain ⟨fs, hr, hrun, hended, hW, hsame⟩ := X162.leave (v := some (.int (1 : Int32))) (fun h => by rw [Bd.returns] at h; cases h)
        refine ⟨_, _, pre0 _ (go164 _ ?_), hrun, hended, _, _, rfl, ?_, ⟨_, rfl⟩, hW, hsame.mono (by decide) (by decide)⟩
        · exact retN X162 hx (t := .boolean) Bd.returns (by simp) (hb hby at_94) hr
        · show Q0 Z wh aV aB aT aI h0 n0 _ T162.heap _
          rw [e162]
          exact ⟨rfl, N159⟩
set_option maxRecDepth 65536 in
set_option maxHeartbeats 40000000 in
theorem comes_1 {Post : Tables → Env → Array Value → State → Outcome → State → Prop} (hpost : ∀ tb e args s v u, (limb_1_1.after args s (.returned v) u = true ∧ limb_1_2.after args s (.returned v) u = true ∧ True) → FrameEnd s (.returned v) u (Jvm.fieldLocs frame_1_writes args s ++ Jvm.arrayLocs frame_1_arrays args s ++ Jvm.staticLocs frame_1_statics s) 0 0 → Post tb e args s (.returned v) u) :
    ArmFor flags0 classFile x code maxLocals ret World_1 tables_1 room_1 Calls_1 rest_1 Pre_1 Post := by
  intro l hfl _ _ p e ha hc hk s m args below hf hA hF happ hP
  obtain ⟨hcalls, hrest, hpre⟩ := hP
  obtain ⟨-, -, -, hnamed, -, -, -, hat⟩ := (Spec.applies_iff hf).mp happ
  obtain ⟨hg, hn⟩ := and_e (Cond.before_iff.mp (show (Jvm.Cond.and given_1 narrow_1).before args s = true from hpre))
  obtain ⟨gg1, gg2⟩ := and_e hg
  obtain ⟨w0, rfl⟩ : ∃ w0 : Value, args = #[w0] := by
    have hs : args.size = 1 := by simpa [Cond.value, given_1] using gg1
    obtain ⟨L⟩ := args
    match L, hs with
    | [w0], _ => exact ⟨w0, rfl⟩
  have hw := fun d (hd : d ∈ tables_1) => atoms_spec (ws := Jvm.Cond.code x code maxLocals ret :: tables_1) hat d (List.mem_cons_of_mem _ hd)
  have W : ∀ {d : Jvm.Cond} (i : Nat), tables_1[i]? = some d → d.before _ s = true := fun i h => hw _ (List.mem_of_getElem? h)
  have hfit : Fit s := fun {y c} hc i hi => by
    obtain ⟨ha, rfl⟩ := Array.getElem?_eq_some_iff.mp hc
    have q := List.all_eq_true.mp ((Array.all_eq_true_iff_forall_mem.mp hF) _ (Array.getElem_mem ha)) i (List.mem_range.mpr hi)
    simpa [Array.getElem?_eq_getElem hi] using q
  obtain ⟨i0, ei0⟩ := is_v gg2
  obtain rfl : w0 = (.int i0) := Option.some.inj ei0
  obtain ⟨nr0, hn⟩ := and_e hn
  obtain ⟨nr1, hn⟩ := and_e hn
  obtain ⟨nr2, hn⟩ := and_e hn
  obtain ⟨nr3, hn⟩ := and_e hn
  obtain ⟨nr4, hn⟩ := and_e hn
  obtain ⟨nr5, hn⟩ := and_e hn
  obtain ⟨nr6, hn⟩ := and_e hn
  obtain ⟨nr7, hn⟩ := and_e hn
  obtain ⟨nr8, hn⟩ := and_e hn
  obtain ⟨nr9, hn⟩ := and_e hn
  obtain ⟨nr10, hn⟩ := and_e hn
  have nr11 := hn
  obtain ⟨aV, ev_aV⟩ := exa_v nr0
  have S_aV := Sta.start ev_aV (Or.inr ⟨(W 1 rfl), (W 2 rfl)⟩)
  have E_aV := Exa.start ev_aV nr0
  obtain ⟨aB, ev_aB⟩ := exa_v nr2
  have S_aB := Sta.start ev_aB (Or.inr ⟨(W 1 rfl), (W 12 rfl)⟩)
  have E_aB := Exa.start ev_aB nr2
  obtain ⟨aT, ev_aT⟩ := exa_v nr5
  have S_aT := Sta.start ev_aT (Or.inr ⟨(W 1 rfl), (W 14 rfl)⟩)
  have E_aT := Exa.start ev_aT nr5
  obtain ⟨aI, ev_aI⟩ := exa_v nr8
  have S_aI := Sta.start ev_aI (Or.inr ⟨(W 1 rfl), (W 16 rfl)⟩)
  have E_aI := Exa.start ev_aI nr8
  have G_aV_sqlType := Fld.start ((fld_at ev_aV).symm.trans (own_eqI nr1))
  have G_aB_ordinal := Fld.start ((fld_at ev_aB).symm.trans (own_eqI nr3))
  have G_aV_ordinal := Fld.start ((fld_at ev_aV).symm.trans (own_eqI nr4))
  have G_aT_ordinal := Fld.start ((fld_at ev_aT).symm.trans (own_eqI nr6))
  have G_aB_sqlType := Fld.start ((fld_at ev_aB).symm.trans (own_eqI nr7))
  have G_aI_ordinal := Fld.start ((fld_at ev_aI).symm.trans (own_eqI nr9))
  have G_aI_sqlType := Fld.start ((fld_at ev_aI).symm.trans (own_eqI nr10))
  have G_aT_sqlType := Fld.start ((fld_at ev_aT).symm.trans (own_eqI nr11))
  obtain ⟨n, o, h1, h2, h3, _, L, rfl, ⟨rfl, N⟩, hq⟩ := rm0 l s _ hw tables_1 i0 aV aB aT aI s.heap s.heap.size (Nat.le_refl _) S_aV E_aV S_aB E_aB S_aT E_aT S_aI E_aI G_aV_sqlType G_aB_ordinal G_aV_ordinal G_aT_ordinal G_aB_sqlType G_aI_ordinal G_aI_sqlType G_aT_sqlType p e ha hc hk s m _ below hf ((Spec.applies_iff_loose hf).mp happ).1 ⟨rfl, State.Warmed39.refl s, rfl⟩ trivial
  refine ⟨n, _, h1, h2, h3, hpost _ _ _ _ _ _ ⟨Cond.after_iff.mpr rfl, Cond.after_iff.mpr (eq_i res_at (Term.int_eval (1)) rfl), trivial⟩ ⟨hq.1, hq.2.1, (hq.2.2.sift fun y hy => Or.inr (N y hy)).mono (by decide) (by decide)⟩⟩
theorem main_1_1 : Claimed_1_1 := comes_1 fun _ _ _ _ _ _ h hF => ⟨h.1, hF⟩
theorem main_1_2 : Claimed_1_2 := comes_1 fun _ _ _ _ _ _ h hF => ⟨h.2.1, hF⟩
end Jvm.Pilot.@@N@@
namespace Jvm.Pilot.@@N@@
open Jvm Jvm.ClassFile Sem Op Lib Jvm.Free Jvm.Stand Jvm.Pilot.@@N@@.Jvm.D
/-! MADE BY PROGRAM (witnessworld.py) out of the Statement's table words and the real class files: 12 classes; the members and pool entries that the words name. The judged class is class 1, her method 1. -/
namespace start1
open Jvm.ClassFile
def u (s : String) : CpInfo := .utf8 (stringToUtf16 s)
/-- a pool by its gaps: so many unusable entries, then the entry; so many at the end -/
def gap : Nat → List CpInfo → List CpInfo
  | 0, r => r
  | n + 1, r => .unusable :: gap n r
def poolList (es : List (Nat × CpInfo)) (last : Nat) : List CpInfo := es.foldr (fun e r => gap e.1 (e.2 :: r)) (gap last [])
def pool (es : List (Nat × CpInfo)) (last : Nat) : Array CpInfo := ⟨poolList es last⟩
def fileOf (pool : Array CpInfo) (this : Nat) (attrs : Array Attribute := #[]) (ms : Array MethodInfo := #[]) (fl : Nat := 33) (sup : Nat := 0) (ifs : Array Nat := #[]) (fds : Array FieldInfo := #[]) : ClassFile where
  minorVersion := 0
  majorVersion := 65
  constantPool := pool
  accessFlags := fl
  thisClass := this
  superClass := sup
  interfaces := ifs
  fields := fds
  methods := ms
  attributes := attrs
def plain (name : String) (sup : Option ClassId) : Class where
  name := name
  kind := .ordinary
  loader := none
  accessFlags := 33
  super := sup
  interfaces := #[]
  cf := none
  fields := #[]
  methods := #[]
  instanceTypes := #[]
  staticTypes := #[]
  resolved := #[]
  callSites := []
  init := .initialized
  statics := none
  mirror := none

def pool0 : Array CpInfo := pool [(5, u "<init>"), (0, u "()V"), (1, .class_ 10), (1, u "java/lang/Object")] 113

def k0m0 : Method := { name := "<init>", desc := "()V", sig := { parameters := [], returnType := none }, accessFlags := 1, code := none }
/-- java/lang/Object -/
def k0 : Class := { plain "java/lang/Object" none with
  accessFlags := 33
  interfaces := #[]
  cf := some (fileOf pool0 8 #[] #[{ accessFlags := 1, nameIndex := 5, descriptorIndex := 6, attributes := #[] }] 33 0 #[] #[])
  fields := #[]
  methods := #[k0m0]
  instanceTypes := #[]
  staticTypes := #[]
  resolved := Array.replicate 124 none
  statics := none }

def pool1 : Array CpInfo := pool [(2, .class_ 4), (1, u "java/lang/Object"), (0, u "<init>"), (0, u "()V"), (0, .fieldref 8 9), (0, .class_ 10), (0, .nameAndType 11 12), (0, u "com/example/altocommit/altocommit/jdbc/ColumnType"), (0, u "VARCHAR"), (0, u "Lcom/example/altocommit/altocommit/jdbc/ColumnType;"), (0, .fieldref 8 14), (0, .nameAndType 15 12), (0, u "TEXT"), (0, .fieldref 8 17), (0, .nameAndType 18 12), (0, u "INTEGER"), (0, .fieldref 8 20), (0, .nameAndType 21 12), (0, u "BIGINT"), (0, .methodref 8 23), (0, .nameAndType 24 25), (0, u "isText"), (0, u "()Z"), (0, .fieldref 8 27), (0, .nameAndType 28 29), (0, u "sqlType"), (0, u "I"), (0, .class_ 31), (0, u "com/example/altocommit/altocommit/jdbc/ColumnTypeIsTextPinLaw"), (2, u "law"), (0, u "(I)Z")] 3

def k1m0 : Method := { name := "<init>", desc := "()V", sig := { parameters := [], returnType := none }, accessFlags := 2, code := none }
def k1c1 : Code := { maxStack := 2, maxLocals := 6, code := code, exceptionTable := #[], attributes := #[] }
def k1m1 : Method := { name := "law", desc := "(I)Z", sig := { parameters := [.int], returnType := some .boolean }, accessFlags := 9, code := some k1c1 }
/-- com/example/altocommit/altocommit/jdbc/ColumnTypeIsTextPinLaw -/
def k1 : Class := { plain "com/example/altocommit/altocommit/jdbc/ColumnTypeIsTextPinLaw" (some 0) with
  accessFlags := 49
  interfaces := #[]
  cf := some (fileOf pool1 30 #[] #[{ accessFlags := 2, nameIndex := 5, descriptorIndex := 6, attributes := #[] }, { accessFlags := 9, nameIndex := 34, descriptorIndex := 35, attributes := #[] }] 49 2 #[] #[])
  fields := #[]
  methods := #[k1m0, k1m1]
  instanceTypes := #[]
  staticTypes := #[]
  resolved := Array.replicate 39 none
  statics := none }

def pool2 : Array CpInfo := pool [(1, .class_ 2), (0, u "java/lang/constant/Constable"), (0, .class_ 4), (0, u "java/lang/Object")] 6

/-- java/lang/constant/Constable -/
def k2 : Class := { plain "java/lang/constant/Constable" (some 0) with
  accessFlags := 1537
  interfaces := #[]
  cf := some (fileOf pool2 1 #[] #[] 1537 3 #[] #[])
  fields := #[]
  methods := #[]
  instanceTypes := #[]
  staticTypes := #[]
  resolved := Array.replicate 11 none
  statics := none }

def pool3 : Array CpInfo := pool [(1, .class_ 2), (0, u "java/lang/Comparable"), (0, .class_ 4), (0, u "java/lang/Object")] 7

/-- java/lang/Comparable -/
def k3 : Class := { plain "java/lang/Comparable" (some 0) with
  accessFlags := 1537
  interfaces := #[]
  cf := some (fileOf pool3 1 #[] #[] 1537 3 #[] #[])
  fields := #[]
  methods := #[]
  instanceTypes := #[]
  staticTypes := #[]
  resolved := Array.replicate 12 none
  statics := none }

def pool4 : Array CpInfo := pool [(1, .class_ 2), (0, u "java/io/Serializable"), (0, .class_ 4), (0, u "java/lang/Object")] 2

/-- java/io/Serializable -/
def k4 : Class := { plain "java/io/Serializable" (some 0) with
  accessFlags := 1537
  interfaces := #[]
  cf := some (fileOf pool4 1 #[] #[] 1537 3 #[] #[])
  fields := #[]
  methods := #[]
  instanceTypes := #[]
  staticTypes := #[]
  resolved := Array.replicate 7 none
  statics := none }

def pool5 : Array CpInfo := pool [(2, .class_ 4), (1, u "java/lang/Enum"), (0, u "name"), (0, u "Ljava/lang/String;"), (2, u "ordinal"), (0, u "I"), (1, .class_ 14), (1, u "java/lang/Object"), (4, u "hash"), (86, .class_ 108), (1, u "java/lang/Enum$EnumDesc"), (2, .class_ 112), (0, u "java/lang/constant/Constable"), (0, .class_ 114), (0, u "java/lang/Comparable"), (0, .class_ 116), (0, u "java/io/Serializable")] 87

/-- java/lang/Enum -/
def k5 : Class := { plain "java/lang/Enum" (some 0) with
  accessFlags := 1057
  interfaces := #[2, 3, 4]
  cf := some (fileOf pool5 2 #[.nestMembers #[106]] #[] 1057 12 #[111, 113, 115] #[{ accessFlags := 18, nameIndex := 5, descriptorIndex := 6, attributes := #[] }, { accessFlags := 18, nameIndex := 9, descriptorIndex := 10, attributes := #[] }, { accessFlags := 2, nameIndex := 19, descriptorIndex := 10, attributes := #[] }])
  fields := #[{ name := "name", type := (.object "java/lang/String"), accessFlags := 18, slot := 0, constantValue := 0 }, { name := "ordinal", type := .int, accessFlags := 18, slot := 1, constantValue := 0 }, { name := "hash", type := .int, accessFlags := 2, slot := 2, constantValue := 0 }]
  methods := #[]
  instanceTypes := #[(.object "java/lang/String"), .int, .int]
  staticTypes := #[]
  resolved := Array.replicate 204 none
  statics := none }

def pool6 : Array CpInfo := pool [(1, .class_ 2), (0, u "com/example/altocommit/altocommit/jdbc/ColumnType"), (0, .fieldref 1 4), (0, .nameAndType 5 6), (0, u "VARCHAR"), (0, u "Lcom/example/altocommit/altocommit/jdbc/ColumnType;"), (0, .fieldref 1 8), (0, .nameAndType 9 6), (0, u "TEXT"), (2, u "INTEGER"), (2, u "BIGINT"), (2, u "$VALUES"), (0, u "[Lcom/example/altocommit/altocommit/jdbc/ColumnType;"), (6, .class_ 28), (1, u "java/lang/Enum"), (8, u "code"), (0, u "I"), (2, u "typeName"), (0, u "Ljava/lang/String;"), (2, u "sqlType"), (2, u "least"), (0, u "J"), (2, u "greatest"), (52, u "isText"), (0, u "()Z")] 10

def k6c0 : Code := { maxStack := 2, maxLocals := 1, code := prog_56_method_4_code, exceptionTable := #[], attributes := #[] }
def k6m0 : Method := { name := "isText", desc := "()Z", sig := { parameters := [], returnType := some .boolean }, accessFlags := 0, code := some k6c0 }
/-- com/example/altocommit/altocommit/jdbc/ColumnType -/
def k6 : Class := { plain "com/example/altocommit/altocommit/jdbc/ColumnType" (some 5) with
  accessFlags := 16432
  interfaces := #[]
  cf := some (fileOf pool6 1 #[] #[{ accessFlags := 0, nameIndex := 105, descriptorIndex := 106, attributes := #[] }] 16432 26 #[] #[{ accessFlags := 16409, nameIndex := 5, descriptorIndex := 6, attributes := #[] }, { accessFlags := 16409, nameIndex := 9, descriptorIndex := 6, attributes := #[] }, { accessFlags := 16409, nameIndex := 12, descriptorIndex := 6, attributes := #[] }, { accessFlags := 16409, nameIndex := 15, descriptorIndex := 6, attributes := #[] }, { accessFlags := 16, nameIndex := 37, descriptorIndex := 38, attributes := #[] }, { accessFlags := 16, nameIndex := 41, descriptorIndex := 42, attributes := #[] }, { accessFlags := 16, nameIndex := 45, descriptorIndex := 38, attributes := #[] }, { accessFlags := 16, nameIndex := 48, descriptorIndex := 49, attributes := #[] }, { accessFlags := 16, nameIndex := 52, descriptorIndex := 49, attributes := #[] }, { accessFlags := 4122, nameIndex := 18, descriptorIndex := 19, attributes := #[] }])
  fields := #[{ name := "VARCHAR", type := (.object "com/example/altocommit/altocommit/jdbc/ColumnType"), accessFlags := 16409, slot := 0, constantValue := 0 }, { name := "TEXT", type := (.object "com/example/altocommit/altocommit/jdbc/ColumnType"), accessFlags := 16409, slot := 1, constantValue := 0 }, { name := "INTEGER", type := (.object "com/example/altocommit/altocommit/jdbc/ColumnType"), accessFlags := 16409, slot := 2, constantValue := 0 }, { name := "BIGINT", type := (.object "com/example/altocommit/altocommit/jdbc/ColumnType"), accessFlags := 16409, slot := 3, constantValue := 0 }, { name := "code", type := .int, accessFlags := 16, slot := 3, constantValue := 0 }, { name := "typeName", type := (.object "java/lang/String"), accessFlags := 16, slot := 4, constantValue := 0 }, { name := "sqlType", type := .int, accessFlags := 16, slot := 5, constantValue := 0 }, { name := "least", type := .long, accessFlags := 16, slot := 6, constantValue := 0 }, { name := "greatest", type := .long, accessFlags := 16, slot := 7, constantValue := 0 }, { name := "$VALUES", type := (.array (.object "com/example/altocommit/altocommit/jdbc/ColumnType")), accessFlags := 4122, slot := 4, constantValue := 0 }]
  methods := #[k6m0]
  instanceTypes := #[(.object "java/lang/String"), .int, .int, .int, (.object "java/lang/String"), .int, .long, .long]
  staticTypes := #[(.object "com/example/altocommit/altocommit/jdbc/ColumnType"), (.object "com/example/altocommit/altocommit/jdbc/ColumnType"), (.object "com/example/altocommit/altocommit/jdbc/ColumnType"), (.object "com/example/altocommit/altocommit/jdbc/ColumnType"), (.array (.object "com/example/altocommit/altocommit/jdbc/ColumnType"))]
  resolved := Array.replicate 117 none
  statics := some 0 }

def pool7 : Array CpInfo := pool [(1, u "java/lang/Cloneable"), (0, .class_ 1), (0, u "java/lang/Object"), (0, .class_ 3)] 3

/-- java/lang/Cloneable -/
def k7 : Class := { plain "java/lang/Cloneable" (some 0) with
  accessFlags := 1537
  interfaces := #[]
  cf := some (fileOf pool7 2 #[] #[] 1537 4 #[] #[])
  fields := #[]
  methods := #[]
  instanceTypes := #[]
  staticTypes := #[]
  resolved := Array.replicate 8 none
  statics := none }

/-- the primitive byte -/
def k8 : Class := { plain "byte" none with kind := .primitive 'B', accessFlags := 0x411 }
/-- [B -/
def k9 : Class := { plain "[B" (some 0) with kind := .array 8 .byte, interfaces := #[7, 4], accessFlags := 1041 }

/-- the primitive int -/
def k10 : Class := { plain "int" none with kind := .primitive 'I', accessFlags := 0x411 }
/-- [I -/
def k11 : Class := { plain "[I" (some 0) with kind := .array 10 .int, interfaces := #[7, 4], accessFlags := 1041 }

def heap : Heap := #[{ cls := 6, slots := #[.ref 1, .ref 2, .ref 3, .ref 4, .null], vm := .statics 6 },
  { cls := 6, slots := #[.null, .int 0, .int 0, .int 0, .null, .int 12, .long 0, .long 0], vm := .none },
  { cls := 6, slots := #[.null, .int 1, .int 0, .int 0, .null, .int 12, .long 0, .long 0], vm := .none },
  { cls := 6, slots := #[.null, .int 2, .int 0, .int 0, .null, .int 4, .long 0, .long 0], vm := .none },
  { cls := 6, slots := #[.null, .int 3, .int 0, .int 0, .null, .int (-5), .long 0, .long 0], vm := .none }]
def classes : Array Class := #[k0, k1, k2, k3, k4, k5, k6, k7, k8, k9, k10, k11]
def interned : List (Array UInt16 × Addr) := []
def slotsUsed : Nat := 37
def theMethod : MethodId := ⟨1, 1⟩
def args0 : Array Value := #[.int 5]
def aboutOver (below : List Frame) : State where
  vm := { classes := classes, interned := interned.toArray }
  heap := heap
  slotsUsed := slotsUsed
  threads := #[{ frames := .invoking theMethod args0 :: below }]
def below0 : List Frame := [.native { method := ⟨0, 0⟩, args := #[] }]
def about1 : State := aboutOver below0
def p0 : Program := .bare "" "" ""
def e0 : Env := launch0.env 0 0 0
theorem w_frames : about1.frames = Frame.invoking theMethod args0 :: below0 := rfl
set_option maxRecDepth 65536 in
theorem w_args : argsFit about1.vm theMethod args0 = true := by decide +kernel
set_option maxRecDepth 65536 in
theorem w_heap : heapFits about1 = true := by decide +kernel
set_option maxRecDepth 65536 in
theorem w_runnable : about1.curStatus? = some .runnable := by decide +kernel
set_option maxRecDepth 65536 in
theorem w_alone : about1.alone = true := by decide +kernel
set_option maxRecDepth 65536 in
theorem w_named : about1.methodNamed? x = some theMethod := by decide +kernel
set_option maxRecDepth 65536 in
theorem w_hears : about1.hears theMethod below0 = true := by decide +kernel
set_option maxRecDepth 65536 in
theorem w_ripe : about1.ripe theMethod args0 below0 = true := by decide +kernel
theorem w_running : about1.status = .running := rfl
set_option maxRecDepth 65536 in
theorem w_room : about1.hasRoom e0.platform room_1 = true :=
  launch0.hasRoom_least _ room_1 (by decide +kernel) (by decide +kernel) (by decide +kernel) (by decide +kernel) (by decide +kernel) (by decide +kernel)
theorem allAtoms_all (ts : List Jvm.Cond) (a : Array Jvm.Value) (st : Jvm.State) : (allAtoms ts).before a st = ts.all (fun c => c.before a st) := by
  induction ts with
  | nil => rfl
  | cons c t ih =>
    show (Jvm.Cond.and c (allAtoms t)).before a st = _
    rw [Jvm.Cond.before_and, ih, List.all_cons]
def words1 : List Jvm.Cond := Jvm.Cond.code x code maxLocals ret :: tables_1
/-- a 'code' word, met by the world's own term for the bytes: nothing is compared byte by byte -/
theorem code_word {y : MethodName} {bytes : ByteArray} {mx : Nat} {rt : Option FieldType} {a : Array Value} {s : State} {m : MethodId} {meth : Method} {c : Code} (h1 : s.methodNamed? y = some m) (h2 : s.vm.method? m = some meth) (h3 : meth.code = some c) (h4 : c.code = bytes)
    (h5 : (c.maxLocals == mx && c.exceptionTable.isEmpty && decide (c.maxStack ≤ mostOperands) && decide (meth.sig.returnType = rt) && !meth.locks && decide (parseMethodDescriptor y.desc = some meth.sig)) = true) : (Jvm.Cond.code y bytes mx rt).before a s = true := by
  simp only [Bool.and_eq_true, beq_iff_eq, Bool.not_eq_true', decide_eq_true_eq] at h5
  obtain ⟨⟨⟨⟨⟨g1, g2⟩, g3⟩, g4⟩, g5⟩, g6⟩ := h5
  simp [Cond.before, Cond.holds, Cond.value, h1, h2, h3, h4, g1, g2, g3, g4, g5, g6]
def isCode : Jvm.Cond → Bool
  | .code _ _ _ _ => true
  | _ => false
theorem all_split {L : List Jvm.Cond} {P : Jvm.Cond → Bool} (h1 : L.all (fun c => isCode c || P c) = true) (h2 : ∀ c ∈ L.filter isCode, P c = true) : L.all P = true := by
  refine List.all_eq_true.mpr fun c hc => ?_
  have h := List.all_eq_true.mp h1 c hc
  rcases Bool.eq_false_or_eq_true (isCode c) with hi | hi
  · exact h2 c (List.mem_filter.mpr ⟨hc, hi⟩)
  · simpa [hi] using h
set_option maxRecDepth 65536 in
theorem w_c0 : (Jvm.Cond.code x code maxLocals ret).before args0 about1 = true := code_word (m := ⟨1, 1⟩) (meth := k1m1) (c := k1c1) (by decide +kernel) rfl rfl rfl (by decide +kernel)
set_option maxRecDepth 65536 in
theorem w_c1 : (Jvm.Cond.code ({ cls := "com/example/altocommit/altocommit/jdbc/ColumnType", name := "isText", desc := "()Z" } : Jvm.MethodName) prog_56_method_4_code (1 : Nat) (Option.some Jvm.ClassFile.FieldType.boolean)).before args0 about1 = true := code_word (m := ⟨6, 0⟩) (meth := k6m0) (c := k6c0) (by decide +kernel) rfl rfl rfl (by decide +kernel)
def codes1 : List Jvm.Cond := [Jvm.Cond.code x code maxLocals ret, Jvm.Cond.code ({ cls := "com/example/altocommit/altocommit/jdbc/ColumnType", name := "isText", desc := "()Z" } : Jvm.MethodName) prog_56_method_4_code (1 : Nat) (Option.some Jvm.ClassFile.FieldType.boolean)]
set_option maxRecDepth 65536 in
theorem codes_eq : words1.filter isCode = codes1 := rfl
theorem w_codes : ∀ c ∈ words1.filter isCode, c.before args0 about1 = true := by
  rw [codes_eq]
  intro c hc
  simp only [codes1, List.mem_cons, List.not_mem_nil, or_false] at hc
  rcases hc with rfl | rfl
  · exact w_c0
  · exact w_c1
set_option maxRecDepth 65536 in
theorem w_t1 : words1.all (fun c => isCode c || c.before args0 about1) = true := by decide +kernel
theorem w_tables : (allAtoms (Jvm.Cond.code x code maxLocals ret :: tables_1)).before args0 about1 = true := by
  rw [allAtoms_all]
  show words1.all (fun c => c.before args0 about1) = true
  refine all_split ?_ w_codes
  rw [w_t1]
set_option maxRecDepth 65536 in
theorem w_case : (Jvm.Cond.and given_1 narrow_1).before args0 about1 = true := by decide +kernel
theorem w_applies : (headSpec (Jvm.Cond.code x code maxLocals ret :: tables_1) room_1).applies x e0.platform about1 = true :=
  (Spec.applies_iff w_frames).mpr ⟨w_running, w_runnable, w_alone, w_named, w_hears, w_ripe, w_room, w_tables⟩
theorem atStart : AtStart classFile x code maxLocals ret World_1 tables_1 room_1 Calls_1 rest_1 Pre_1 launch0 p0 e0 about1 theMethod args0 below0 :=
  ⟨lists_1, trivial, launch0.admits_env _ _ _, launch0.least_env, fairChoices_fair.cas, fairChoices_fair.clock, w_frames, w_args, w_heap, w_applies, trivial, trivial, w_case⟩
end start1
theorem witness_1 : WitnessClaimed_1 := ⟨start1.p0, start1.e0, start1.about1, start1.theMethod, start1.args0, start1.below0, start1.atStart⟩
end Jvm.Pilot.@@N@@
