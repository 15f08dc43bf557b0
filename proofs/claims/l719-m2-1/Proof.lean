import JvmDerived
import JvmDerived.Pilot.@@N@@Statement
import JvmDerived.Pilot.@@N@@Code
set_option linter.unusedVariables false
set_option linter.unusedSimpArgs false
namespace Jvm.RoadKit
open Sem ClassFile Op Lib Jvm.Stand Jvm.Free Jvm.LawKit
section New
variable {p : Program} {l : Launch} {e : Env} {R : Room} {s : State} {m : MethodId} {args : Array Value} {below : List Frame} {meth : Method} {c : Code} {T : State} {locs : List Loc} {cells slots : Nat}
theorem retI (X : Stand p l e R s m args below meth c T locs cells slots) (hx : p.tables.exec = Jvm.exec) {pc : Nat} {Ls : Array Slot} {z : Int32} {rest : List Value} (hret : meth.sig.returnType = some .int) (hd : decode c.code pc = .ok (.ireturn, 1)) {fs : List Frame}
    (hl : ∀ (f : JFrame) (acts : List Action), f.method = m → f.locked = none → f.entered = [] → (doReturn e (T.setTop f) acts (some (.int z))).1 = T.setFrames fs) : Steps p.tables e below (T.setTop (mkF m pc Ls (.int z :: rest))) (T.setFrames fs) := by
  have hm' : T.vm.method? m = some meth := X.method'
  have hn : narrow .int (.int z) = .int z := rfl
  show Steps p.tables e below (T.setTop { method := m, pc := pc, locals := Ls, stack := _ :: rest, locked := none }) _
  jvm_step X.here [X.here.top, hx, hd, hm', hret, hn]
  first | (intro acts; rw [hl _ acts rfl rfl rfl]) | rw [hl _ _ rfl rfl rfl]
  exact Steps.refl _
end New
end Jvm.RoadKit
namespace Jvm.Pilot.@@N@@
open Jvm Jvm.ClassFile Sem Op Lib Jvm.Free Jvm.Stand Jvm.LawKit Jvm.RoadKit Bundle Jvm.Pilot.@@N@@.Jvm.D
abbrev own_S (p : Program) (e : Env) (below : List Frame) (S T : State) (f : JFrame) : Prop := ∀ tt, Steps p.tables e below (T.setTop f) tt → Steps p.tables e below S tt
theorem own_eqI {args : Array Value} {first s : State} {o : Option Outcome} {idx : List Nat} {t : Term} {k : Int32} (h : (Jvm.Cond.eq t (.int k)).value args first o s idx = some true) : t.eval args first o idx s = some (.int k) := by
  simp only [Jvm.Cond.value, Term.eval] at h
  cases ht : t.eval args first o idx s with
  | none => simp [ht] at h
  | some x => cases x <;> simp [ht] at h ⊢; exact h
theorem own_len {args : Array Value} {s : State} {t : Term} {x : Addr} {cl : Cell} {ty : FieldType} {k : Int32} (ht : t.eval args s none [] s = some (.ref x)) (A : Arr s s.heap x cl ty) (h : (Term.length t).eval args s none [] s = some (.int k)) : cl.slots.size < 2 ^ 31 ∧ cl.slots.size.toInt32 = k := by
  have ha : s.arrayAt? x = some cl := A.fin (State.Warmed39.refl s).alike
  simpa [Term.eval, ht, ha] using h
theorem own_neI {args : Array Value} {first s : State} {o : Option Outcome} {idx : List Nat} {t : Term} {k x : Int32} (h : (Jvm.Cond.eq t (.int k)).value args first o s idx = some false) (ht : t.eval args first o idx s = some (.int x)) : ¬ x = k := by
  simpa [Jvm.Cond.value, Term.eval, ht] using h
theorem own_k (x s : Int32) (h : s = x &&& 3) : s = 0 ∨ s = 1 ∨ s = 2 ∨ s = 3 := by
  have h1 := c_mask x 3 2 (by decide) (by decide)
  rw [← h] at h1
  have e4 : ((2 ^ 2 : Nat) : Int) = 4 := by decide
  rw [e4] at h1
  have e0 : (0 : Int32).toInt = 0 := rfl
  have e1 : (1 : Int32).toInt = 1 := rfl
  have e2 : (2 : Int32).toInt = 2 := rfl
  have e3 : (3 : Int32).toInt = 3 := rfl
  simp only [← Int32.toInt_inj]
  omega
theorem own_shr0 (n : Int32) : n >>> ((0 : Int32) &&& 31) = n := by
  have h := c_ishr n 0 0 (by decide)
  rw [← Int32.toInt_inj, h]; simp
def own_ch (x : Int32) : Int32 := nar .char ((x &&& 255).toUInt32.toUInt16.toUInt32.toInt32)
def own_ch2 (x : Int32) : Int32 := nar .char (own_ch x)
theorem own_62 : own_ch2 62 = 62 := by decide
theorem own_60 : ¬ own_ch2 60 = 62 := by decide
theorem pn0 : plainName "java/lang/String" = true := by first | (simp [plainName, overriddenIn]; done) | decide +kernel
theorem d5_0 : decode jdk_42_method_152_code 0 = .ok (.getstatic 38, 3) := by decide +kernel
theorem d5_3 : decode jdk_42_method_152_code 3 = .ok (.ifCond .eq 10, 3) := by decide +kernel
theorem d5_6 : decode jdk_42_method_152_code 6 = .ok (.aload_n 0, 1) := by decide +kernel
theorem d5_7 : decode jdk_42_method_152_code 7 = .ok (.getfield 15, 3) := by decide +kernel
theorem d5_10 : decode jdk_42_method_152_code 10 = .ok (.goto 4, 3) := by decide +kernel
theorem d5_14 : decode jdk_42_method_152_code 14 = .ok (.ireturn, 1) := by decide +kernel
theorem ef5 (m : MethodId) (x0 : Addr) : entryFrame m #[(.ref x0)] 1 = mkF m 0 #[.val (.ref x0)] [] := by first | (simp [entryFrame, mkF, argsToLocals, Value.category]; done) | rfl
def Q5 (Z : State) (o1 : Addr) (cs : Int32) (h0 : Heap) (n0 : Nat) (v : Option Value) (h : Heap) (L : List Loc) : Prop := v = some (.int 0) ∧ Fr n0 L ∧ h = h0
set_option maxRecDepth 65536 in
set_option maxHeartbeats 40000000 in
theorem rm5 (l : Launch) (Z : State) (a0 : Array Value) (hw : ∀ d ∈ tables_1, d.before a0 Z = true) (ws : List Jvm.Cond) (o1 : Addr) (cs : Int32) (h0 : Heap) (n0 : Nat) (Z0 : n0 ≤ h0.size) (Sc : Sta Z h0 "java/lang/String" "COMPACT_STRINGS" "Z" (.int cs)) (hcs : ¬ cs = 0) (Fc : Fld Z h0 o1 "java/lang/String" "coder" "B" (.int (0 : Int32))) :
    MetFree l (⟨"java/lang/String", "coder", "()B"⟩ : MethodName) (head1 (Jvm.Cond.code (⟨"java/lang/String", "coder", "()B"⟩ : MethodName) jdk_42_method_152_code 1 (some .byte) :: ws) ({ frames := 0, cells := 0, slots := 0, locals := 0 } : Room)) (fun aa UU => aa = #[(.ref o1)] ∧ Z.Warmed39 UU.vm ∧ UU.heap = h0) (fun _ _ _ _ _ => True) (fun _ UU oo UU' => ∃ vv LL, oo = .returned vv ∧ Q5 Z o1 cs h0 n0 vv UU'.heap LL ∧ FrameEnd UU oo UU' LL ({ frames := 0, cells := 0, slots := 0, locals := 0 } : Room).cells ({ frames := 0, cells := 0, slots := 0, locals := 0 } : Room).slots) := by
  have W : ∀ {d : Jvm.Cond} (i : Nat), tables_1[i]? = some d → d.before a0 Z = true := fun i h => hw _ (List.mem_of_getElem? h)
  refine MetFree.of_bodySF (plainFor_of_name pn0) hisR ?_
  intro p e s m args below meth c s₁ Bd hml0 hP hK
  obtain ⟨rfl, hZ, hh⟩ := hP
  have hx := Bd.exec
  have hby := Bd.bytes
  have hml : c.maxLocals = 1 := hml0
  have hown : s.vm.findClass "java/lang/String" = some m.cls := findClass_of_methodNamed Bd.named
  have hnm := (name_of_methodNamed Bd.named Bd.method).1
  have X0 : Stand p l e ({ frames := 0, cells := 0, slots := 0, locals := 0 } : Room) s m #[(.ref o1)] below meth c s₁ [] 0 0 := Stand.of_body Bd
  have e0 : s₁.heap = h0 := by rw [← hh, Bd.state]; rfl
  have N0 := Fr.nil n0
  have pre0 : ∀ tt, Steps p.tables e below (s₁.setTop (mkF m 0 #[rv o1] [])) tt → Steps p.tables e below (s₁.setTop (entryFrame m #[(.ref o1)] 1)) tt := fun tt kt => castTop (ef5 m o1) kt
  obtain ⟨ST, hST⟩ : ∃ z : State, z = s₁.setTop (mkF m 0 #[rv o1] []) := ⟨_, rfl⟩
  rw [← hST] at pre0
  obtain ⟨T101, X101, e101, st101⟩ := getS2 X0 hx hZ hown (host := "") (Or.inl (W 33 rfl)) Via.refl e0 Sc (g := (mkF m 0 #[rv o1] [])) rfl (hb hby d5_0)
  have go102 : own_S p e below ST T101 (mkF m 3 #[rv o1] [(.int cs)]) := fun tt kt => (by rw [hST]; exact st101 _ kt)
  have go103 : own_S p e below ST T101 (mkF m 7 #[rv o1] [(.ref o1)]) := fun tt kt => go102 tt (by
      refine XS.ifNo X101.here hx rfl (hb hby d5_3) rfl ((if0 _ _).trans (feq hcs).1) ?_
      refine XS.aloadN X101.here hx rfl (hb hby d5_6) rfl rfl ?_
      exact kt)
  obtain ⟨T104, X104, e104, st104⟩ := getF X101 hx hZ hown (host := "") (Or.inl (W 34 rfl)) Via.refl e101 Fc (g := (mkF m 7 #[rv o1] [(.ref o1)])) rfl rfl (hb hby d5_7)
  have go105 : own_S p e below ST T104 (mkF m 10 #[rv o1] [(.int (0 : Int32))]) := fun tt kt => go103 tt (st104 _ kt)
  have go106 : own_S p e below ST T104 (mkF m 14 #[rv o1] [(.int (0 : Int32))]) := fun tt kt => go105 tt (by
      refine XS.goto X104.here hx rfl (pc0 := 10) (pc' := 14) rfl (hb hby d5_10) (by decide) (by decide) ?_
      exact kt)
  obtain ⟨fs, hr, hrun, hended, hW, hsame⟩ := X104.leave (v := some (.int (0 : Int32))) (fun h => by rw [Bd.returns] at h; cases h)
  refine ⟨_, _, pre0 _ (go106 _ ?_), hrun, hended, _, _, rfl, ?_, ⟨_, rfl⟩, hW, hsame.mono (by decide) (by decide)⟩
  · exact retN X104 hx (t := .byte) Bd.returns (by simp) (hb hby d5_14) hr
  · show Q5 Z o1 cs h0 n0 _ T104.heap _
    rw [e104]
    exact ⟨rfl, N0, rfl⟩
theorem d7_0 : decode jdk_42_method_154_code 0 = .ok (.getstatic 38, 3) := by decide +kernel
theorem d7_3 : decode jdk_42_method_154_code 3 = .ok (.ifCond .eq 14, 3) := by decide +kernel
theorem d7_6 : decode jdk_42_method_154_code 6 = .ok (.aload_n 0, 1) := by decide +kernel
theorem d7_7 : decode jdk_42_method_154_code 7 = .ok (.getfield 15, 3) := by decide +kernel
theorem d7_10 : decode jdk_42_method_154_code 10 = .ok (.ifCond .ne 7, 3) := by decide +kernel
theorem d7_13 : decode jdk_42_method_154_code 13 = .ok (.iconst 1, 1) := by decide +kernel
theorem d7_14 : decode jdk_42_method_154_code 14 = .ok (.goto 4, 3) := by decide +kernel
theorem d7_18 : decode jdk_42_method_154_code 18 = .ok (.ireturn, 1) := by decide +kernel
theorem ef7 (m : MethodId) (x0 : Addr) : entryFrame m #[(.ref x0)] 1 = mkF m 0 #[.val (.ref x0)] [] := by first | (simp [entryFrame, mkF, argsToLocals, Value.category]; done) | rfl
def Q7 (Z : State) (o1 : Addr) (cs : Int32) (h0 : Heap) (n0 : Nat) (v : Option Value) (h : Heap) (L : List Loc) : Prop := v = some (.int 1) ∧ Fr n0 L ∧ h = h0
set_option maxRecDepth 65536 in
set_option maxHeartbeats 40000000 in
theorem rm7 (l : Launch) (Z : State) (a0 : Array Value) (hw : ∀ d ∈ tables_1, d.before a0 Z = true) (ws : List Jvm.Cond) (o1 : Addr) (cs : Int32) (h0 : Heap) (n0 : Nat) (Z0 : n0 ≤ h0.size) (Sc : Sta Z h0 "java/lang/String" "COMPACT_STRINGS" "Z" (.int cs)) (hcs : ¬ cs = 0) (Fc : Fld Z h0 o1 "java/lang/String" "coder" "B" (.int (0 : Int32))) :
    MetFree l (⟨"java/lang/String", "isLatin1", "()Z"⟩ : MethodName) (head1 (Jvm.Cond.code (⟨"java/lang/String", "isLatin1", "()Z"⟩ : MethodName) jdk_42_method_154_code 1 (some .boolean) :: ws) ({ frames := 0, cells := 0, slots := 0, locals := 0 } : Room)) (fun aa UU => aa = #[(.ref o1)] ∧ Z.Warmed39 UU.vm ∧ UU.heap = h0) (fun _ _ _ _ _ => True) (fun _ UU oo UU' => ∃ vv LL, oo = .returned vv ∧ Q7 Z o1 cs h0 n0 vv UU'.heap LL ∧ FrameEnd UU oo UU' LL ({ frames := 0, cells := 0, slots := 0, locals := 0 } : Room).cells ({ frames := 0, cells := 0, slots := 0, locals := 0 } : Room).slots) := by
  have W : ∀ {d : Jvm.Cond} (i : Nat), tables_1[i]? = some d → d.before a0 Z = true := fun i h => hw _ (List.mem_of_getElem? h)
  refine MetFree.of_bodySF (plainFor_of_name pn0) hisR ?_
  intro p e s m args below meth c s₁ Bd hml0 hP hK
  obtain ⟨rfl, hZ, hh⟩ := hP
  have hx := Bd.exec
  have hby := Bd.bytes
  have hml : c.maxLocals = 1 := hml0
  have hown : s.vm.findClass "java/lang/String" = some m.cls := findClass_of_methodNamed Bd.named
  have hnm := (name_of_methodNamed Bd.named Bd.method).1
  have X0 : Stand p l e ({ frames := 0, cells := 0, slots := 0, locals := 0 } : Room) s m #[(.ref o1)] below meth c s₁ [] 0 0 := Stand.of_body Bd
  have e0 : s₁.heap = h0 := by rw [← hh, Bd.state]; rfl
  have N0 := Fr.nil n0
  have pre0 : ∀ tt, Steps p.tables e below (s₁.setTop (mkF m 0 #[rv o1] [])) tt → Steps p.tables e below (s₁.setTop (entryFrame m #[(.ref o1)] 1)) tt := fun tt kt => castTop (ef7 m o1) kt
  obtain ⟨ST, hST⟩ : ∃ z : State, z = s₁.setTop (mkF m 0 #[rv o1] []) := ⟨_, rfl⟩
  rw [← hST] at pre0
  obtain ⟨T107, X107, e107, st107⟩ := getS2 X0 hx hZ hown (host := "") (Or.inl (W 33 rfl)) Via.refl e0 Sc (g := (mkF m 0 #[rv o1] [])) rfl (hb hby d7_0)
  have go108 : own_S p e below ST T107 (mkF m 3 #[rv o1] [(.int cs)]) := fun tt kt => (by rw [hST]; exact st107 _ kt)
  have go109 : own_S p e below ST T107 (mkF m 7 #[rv o1] [(.ref o1)]) := fun tt kt => go108 tt (by
      refine XS.ifNo X107.here hx rfl (hb hby d7_3) rfl ((if0 _ _).trans (feq hcs).1) ?_
      refine XS.aloadN X107.here hx rfl (hb hby d7_6) rfl rfl ?_
      exact kt)
  obtain ⟨T110, X110, e110, st110⟩ := getF X107 hx hZ hown (host := "") (Or.inl (W 34 rfl)) Via.refl e107 Fc (g := (mkF m 7 #[rv o1] [(.ref o1)])) rfl rfl (hb hby d7_7)
  have go111 : own_S p e below ST T110 (mkF m 10 #[rv o1] [(.int (0 : Int32))]) := fun tt kt => go109 tt (st110 _ kt)
  have go112 : own_S p e below ST T110 (mkF m 18 #[rv o1] [(.int (1 : Int32))]) := fun tt kt => go111 tt (by
      refine XS.ifNo X110.here hx rfl (hb hby d7_10) rfl ((if0 _ _).trans (teq (by decide : (0 : Int32) = (0 : Int32))).2) ?_
      refine XS.iconst X110.here hx rfl (hb hby d7_13) ?_
      refine XS.goto X110.here hx rfl (pc0 := 14) (pc' := 18) rfl (hb hby d7_14) (by decide) (by decide) ?_
      exact kt)
  obtain ⟨fs, hr, hrun, hended, hW, hsame⟩ := X110.leave (v := some (.int (1 : Int32))) (fun h => by rw [Bd.returns] at h; cases h)
  refine ⟨_, _, pre0 _ (go112 _ ?_), hrun, hended, _, _, rfl, ?_, ⟨_, rfl⟩, hW, hsame.mono (by decide) (by decide)⟩
  · exact retN X110 hx (t := .boolean) Bd.returns (by simp) (hb hby d7_18) hr
  · show Q7 Z o1 cs h0 n0 _ T110.heap _
    rw [e110]
    exact ⟨rfl, N0, rfl⟩
theorem d4_0 : decode jdk_42_method_54_code 0 = .ok (.aload_n 0, 1) := by decide +kernel
theorem d4_1 : decode jdk_42_method_54_code 1 = .ok (.getfield 9, 3) := by decide +kernel
theorem d4_4 : decode jdk_42_method_54_code 4 = .ok (.arraylength, 1) := by decide +kernel
theorem d4_5 : decode jdk_42_method_54_code 5 = .ok (.aload_n 0, 1) := by decide +kernel
theorem d4_6 : decode jdk_42_method_54_code 6 = .ok (.invokevirtual 335, 3) := by decide +kernel
theorem pd20 : parseMethodDescriptor "()B" = some ⟨[], some .byte⟩ := by decide +kernel
theorem d4_9 : decode jdk_42_method_54_code 9 = .ok (.ishr, 1) := by decide +kernel
theorem d4_10 : decode jdk_42_method_54_code 10 = .ok (.ireturn, 1) := by decide +kernel
theorem ef4 (m : MethodId) (x0 : Addr) : entryFrame m #[(.ref x0)] 1 = mkF m 0 #[.val (.ref x0)] [] := by first | (simp [entryFrame, mkF, argsToLocals, Value.category]; done) | rfl
def Q4 (Z : State) (o1 : Addr) (b1 : Addr) (kb : ClassId) (zn : Int32) (vs : List Value) (dv : Value) (cs : Int32) (h0 : Heap) (n0 : Nat) (v : Option Value) (h : Heap) (L : List Loc) : Prop := v = some (.int zn) ∧ Fr n0 L ∧ h = h0
set_option maxRecDepth 65536 in
set_option maxHeartbeats 40000000 in
theorem rm4 (l : Launch) (Z : State) (a0 : Array Value) (hw : ∀ d ∈ tables_1, d.before a0 Z = true) (ws : List Jvm.Cond) (o1 : Addr) (b1 : Addr) (kb : ClassId) (zn : Int32) (vs : List Value) (dv : Value) (cs : Int32) (h0 : Heap) (n0 : Nat) (Z0 : n0 ≤ h0.size) (Sc : Sta Z h0 "java/lang/String" "COMPACT_STRINGS" "Z" (.int cs)) (hcs : ¬ cs = 0) (Fc : Fld Z h0 o1 "java/lang/String" "coder" "B" (.int (0 : Int32))) (Fv : Fld Z h0 o1 "java/lang/String" "value" "[B" (.ref b1)) (Vb : Arv Z h0 b1 kb .byte zn vs dv) (Es : Exa Z h0 o1 "java/lang/String") :
    MetFree l (⟨"java/lang/String", "length", "()I"⟩ : MethodName) (head1 (Jvm.Cond.code (⟨"java/lang/String", "length", "()I"⟩ : MethodName) jdk_42_method_54_code 1 (some .int) :: ws) ({ frames := 1, cells := 0, slots := 0, locals := 13 } : Room)) (fun aa UU => aa = #[(.ref o1)] ∧ Z.Warmed39 UU.vm ∧ UU.heap = h0) (fun _ _ _ _ _ => True) (fun _ UU oo UU' => ∃ vv LL, oo = .returned vv ∧ Q4 Z o1 b1 kb zn vs dv cs h0 n0 vv UU'.heap LL ∧ FrameEnd UU oo UU' LL ({ frames := 1, cells := 0, slots := 0, locals := 13 } : Room).cells ({ frames := 1, cells := 0, slots := 0, locals := 13 } : Room).slots) := by
  have W : ∀ {d : Jvm.Cond} (i : Nat), tables_1[i]? = some d → d.before a0 Z = true := fun i h => hw _ (List.mem_of_getElem? h)
  refine MetFree.of_bodySF (plainFor_of_name pn0) hisR ?_
  intro p e s m args below meth c s₁ Bd hml0 hP hK
  obtain ⟨rfl, hZ, hh⟩ := hP
  have hx := Bd.exec
  have hby := Bd.bytes
  have hml : c.maxLocals = 1 := hml0
  have hown : s.vm.findClass "java/lang/String" = some m.cls := findClass_of_methodNamed Bd.named
  have hnm := (name_of_methodNamed Bd.named Bd.method).1
  have X0 : Stand p l e ({ frames := 1, cells := 0, slots := 0, locals := 13 } : Room) s m #[(.ref o1)] below meth c s₁ [] 0 0 := Stand.of_body Bd
  have e0 : s₁.heap = h0 := by rw [← hh, Bd.state]; rfl
  have N0 := Fr.nil n0
  have pre0 : ∀ tt, Steps p.tables e below (s₁.setTop (mkF m 0 #[rv o1] [])) tt → Steps p.tables e below (s₁.setTop (entryFrame m #[(.ref o1)] 1)) tt := fun tt kt => castTop (ef4 m o1) kt
  obtain ⟨ST, hST⟩ : ∃ z : State, z = s₁.setTop (mkF m 0 #[rv o1] []) := ⟨_, rfl⟩
  rw [← hST] at pre0
  have go113 : own_S p e below ST s₁ (mkF m 1 #[rv o1] [(.ref o1)]) := fun tt kt => (by
      rw [hST]
      show Steps p.tables e below (s₁.setTop (mkF m 0 #[rv o1] [])) _
      refine XS.aloadN X0.here hx rfl (hb hby d4_0) rfl rfl ?_
      exact kt)
  obtain ⟨T114, X114, e114, st114⟩ := getF X0 hx hZ hown (host := "") (Or.inl (W 26 rfl)) Via.refl e0 Fv (g := (mkF m 1 #[rv o1] [(.ref o1)])) rfl rfl (hb hby d4_1)
  have go115 : own_S p e below ST T114 (mkF m 4 #[rv o1] [(.ref b1)]) := fun tt kt => go113 tt (st114 _ kt)
  obtain ⟨cl116, Ar116, q116, S116, M116, H116, G116⟩ := id Vb
  have go117 : own_S p e below ST T114 (mkF m 5 #[rv o1] [(.int zn)]) := fun tt kt => go115 tt (by
      refine X114.arraylength hx (by rw [e114]; exact Ar116.1) (State.isArrayOf_alike hZ.alike Ar116.2.1) (g := (mkF m 4 #[rv o1] [(.ref b1)])) rfl rfl (hb hby d4_4) _ ?_
      rw [len_of S116 M116]
      exact kt)
  have go118 : own_S p e below ST T114 (mkF m 6 #[rv o1] [(.ref o1), (.int zn)]) := fun tt kt => go117 tt (by
      refine XS.aloadN X114.here hx rfl (hb hby d4_5) rfl rfl ?_
      exact kt)
  obtain ⟨cq119, kq119, q119a, q119b, q119c⟩ := isOf hZ e114 Es
  obtain ⟨_, _, ⟨T119, L119, k119, n119⟩, -, X119, ⟨Lc119, hQ119, l119, y119, z119⟩, st119⟩ := X114.virtualBack hx (y := (⟨"java/lang/String", "coder", "()B"⟩ : MethodName)) (z := (⟨"java/lang/String", "coder", "()B"⟩ : MethodName)) hown (mvT hZ (W 28 rfl)) (mvT hZ (W 29 rfl)) (notFace_of_selects (args := #[]) (mvT hZ (W 31 rfl))) (mvT hZ (W 31 rfl)) (mvT hZ (W 30 rfl)) (by decide) (backOf (W := 1) (rm5 l Z a0 hw [] o1 cs h0 n0 Z0 Sc hcs Fc) hZ (W 32 rfl) (W 24 rfl) (by decide) (by decide)) q119a q119c (g := (mkF m 6 #[rv o1] [(.ref o1), (.int zn)])) rfl (by rw [hml]; rfl) (Steps.refl _) (argsL := []) (rest := [(.int zn)]) (lenOf pd20 rfl) rfl (by show 2 * 0 + _ ≤ _; exact Nat.le_of_eq rfl) (hb hby d4_6) (fun _ _ => ⟨rfl, e114, (by decide : 0 + 0 ≤ _), (by decide : 0 + 0 ≤ _)⟩)
  dsimp only [Pt.U, Pt.locs, Pt.cells, Pt.slots] at X119 l119 y119 z119 st119 hQ119
  subst l119 y119 z119
  obtain ⟨rfl, Nq119, eh119⟩ := hQ119
  have N119 := Fr.app N0 Nq119
  have go120 : own_S p e below ST T119 (mkF m 9 #[rv o1] [(.int (0 : Int32)), (.int zn)]) := fun tt kt => go118 tt (st119.trans kt)
  have go121 : own_S p e below ST T119 (mkF m 10 #[rv o1] [(.int (zn >>> ((0 : Int32) &&& 31)))]) := fun tt kt => go120 tt (by
      refine XS.ishr X119.here hx rfl (hb hby d4_9) rfl ?_
      exact kt)
  obtain ⟨fs, hr, hrun, hended, hW, hsame⟩ := X119.leave (v := some (.int (zn >>> ((0 : Int32) &&& 31)))) (fun h => by rw [Bd.returns] at h; cases h)
  refine ⟨_, _, pre0 _ (go121 _ ?_), hrun, hended, _, _, rfl, ?_, ⟨_, rfl⟩, hW, hsame.mono (by decide) (by decide)⟩
  · exact retI X119 hx Bd.returns (hb hby d4_10) hr
  · show Q4 Z o1 b1 kb zn vs dv cs h0 n0 _ T119.heap _
    rw [eh119]
    exact ⟨(by rw [own_shr0]), N119, rfl⟩
theorem pn23 : plainName "jdk/internal/util/Preconditions" = true := by first | (simp [plainName, overriddenIn]; done) | decide +kernel
theorem d10_0 : decode jdk_41_method_11_code 0 = .ok (.iload_n 0, 1) := by decide +kernel
theorem d10_1 : decode jdk_41_method_11_code 1 = .ok (.ifCond .lt 8, 3) := by decide +kernel
theorem d10_4 : decode jdk_41_method_11_code 4 = .ok (.iload_n 0, 1) := by decide +kernel
theorem d10_5 : decode jdk_41_method_11_code 5 = .ok (.iload_n 1, 1) := by decide +kernel
theorem d10_6 : decode jdk_41_method_11_code 6 = .ok (.if_icmp .lt 10, 3) := by decide +kernel
theorem d10_16 : decode jdk_41_method_11_code 16 = .ok (.iload_n 0, 1) := by decide +kernel
theorem d10_17 : decode jdk_41_method_11_code 17 = .ok (.ireturn, 1) := by decide +kernel
theorem ef10n (m : MethodId) (x0 : Int32) (x1 : Int32) : entryFrame m #[(.int x0), (.int x1), .null] 3 = mkF m 0 #[.val (.int x0), .val (.int x1), .val .null] [] := by first | (simp [entryFrame, mkF, argsToLocals, Value.category]; done) | rfl
def Q10n (Z : State) (zn : Int32) (h0 : Heap) (n0 : Nat) (v : Option Value) (h : Heap) (L : List Loc) : Prop := v = some (.int 0) ∧ Fr n0 L ∧ h = h0
set_option maxRecDepth 65536 in
set_option maxHeartbeats 40000000 in
theorem rm10n (l : Launch) (Z : State) (a0 : Array Value) (hw : ∀ d ∈ tables_1, d.before a0 Z = true) (ws : List Jvm.Cond) (zn : Int32) (h0 : Heap) (n0 : Nat) (Z0 : n0 ≤ h0.size) (hpos : (0 : Int32) < zn) :
    MetFree l (⟨"jdk/internal/util/Preconditions", "checkIndex", "(IILjava/util/function/BiFunction;)I"⟩ : MethodName) (head1 (Jvm.Cond.code (⟨"jdk/internal/util/Preconditions", "checkIndex", "(IILjava/util/function/BiFunction;)I"⟩ : MethodName) jdk_41_method_11_code 3 (some .int) :: ws) ({ frames := 0, cells := 0, slots := 0, locals := 0 } : Room)) (fun aa UU => aa = #[(.int (0 : Int32)), (.int zn), .null] ∧ Z.Warmed39 UU.vm ∧ UU.heap = h0) (fun _ _ _ _ _ => True) (fun _ UU oo UU' => ∃ vv LL, oo = .returned vv ∧ Q10n Z zn h0 n0 vv UU'.heap LL ∧ FrameEnd UU oo UU' LL ({ frames := 0, cells := 0, slots := 0, locals := 0 } : Room).cells ({ frames := 0, cells := 0, slots := 0, locals := 0 } : Room).slots) := by
  have W : ∀ {d : Jvm.Cond} (i : Nat), tables_1[i]? = some d → d.before a0 Z = true := fun i h => hw _ (List.mem_of_getElem? h)
  refine MetFree.of_bodySF (plainFor_of_name pn23) hisR ?_
  intro p e s m args below meth c s₁ Bd hml0 hP hK
  obtain ⟨rfl, hZ, hh⟩ := hP
  have hx := Bd.exec
  have hby := Bd.bytes
  have hml : c.maxLocals = 3 := hml0
  have hown : s.vm.findClass "jdk/internal/util/Preconditions" = some m.cls := findClass_of_methodNamed Bd.named
  have hnm := (name_of_methodNamed Bd.named Bd.method).1
  have X0 : Stand p l e ({ frames := 0, cells := 0, slots := 0, locals := 0 } : Room) s m #[(.int (0 : Int32)), (.int zn), .null] below meth c s₁ [] 0 0 := Stand.of_body Bd
  have e0 : s₁.heap = h0 := by rw [← hh, Bd.state]; rfl
  have N0 := Fr.nil n0
  have pre0 : ∀ tt, Steps p.tables e below (s₁.setTop (mkF m 0 #[iv (0 : Int32), iv zn, .val .null] [])) tt → Steps p.tables e below (s₁.setTop (entryFrame m #[(.int (0 : Int32)), (.int zn), .null] 3)) tt := fun tt kt => castTop (ef10n m (0 : Int32) zn) kt
  obtain ⟨ST, hST⟩ : ∃ z : State, z = s₁.setTop (mkF m 0 #[iv (0 : Int32), iv zn, .val .null] []) := ⟨_, rfl⟩
  rw [← hST] at pre0
  have go122 : own_S p e below ST s₁ (mkF m 17 #[iv (0 : Int32), iv zn, .val .null] [(.int (0 : Int32))]) := fun tt kt => (by
      rw [hST]
      show Steps p.tables e below (s₁.setTop (mkF m 0 #[iv (0 : Int32), iv zn, .val .null] [])) _
      refine XS.iloadN X0.here hx rfl (hb hby d10_0) rfl ?_
      refine XS.ifNo X0.here hx rfl (hb hby d10_1) rfl ((if0 _ _).trans (flt (by decide : ¬ ((0 : Int32) < (0 : Int32)))).1) ?_
      refine XS.iloadN X0.here hx rfl (hb hby d10_4) rfl ?_
      refine XS.iloadN X0.here hx rfl (hb hby d10_5) rfl ?_
      refine XS.icmpYes X0.here hx rfl (pc0 := 6) (pc' := 16) rfl (hb hby d10_6) rfl (tlt hpos).1 (by decide) (by decide) ?_
      refine XS.iloadN X0.here hx rfl (hb hby d10_16) rfl ?_
      exact kt)
  obtain ⟨fs, hr, hrun, hended, hW, hsame⟩ := X0.leave (v := some (.int (0 : Int32))) (fun h => by rw [Bd.returns] at h; cases h)
  refine ⟨_, _, pre0 _ (go122 _ ?_), hrun, hended, _, _, rfl, ?_, ⟨_, rfl⟩, hW, hsame.mono (by decide) (by decide)⟩
  · exact retI X0 hx Bd.returns (hb hby d10_17) hr
  · show Q10n Z zn h0 n0 _ s₁.heap _
    rw [e0]
    exact ⟨rfl, N0, rfl⟩
theorem d9_0 : decode jdk_42_method_155_code 0 = .ok (.iload_n 0, 1) := by decide +kernel
theorem d9_1 : decode jdk_42_method_155_code 1 = .ok (.iload_n 1, 1) := by decide +kernel
theorem d9_2 : decode jdk_42_method_155_code 2 = .ok (.getstatic 1053, 3) := by decide +kernel
theorem d9_5 : decode jdk_42_method_155_code 5 = .ok (.invokestatic 1059, 3) := by decide +kernel
theorem pd35 : parseMethodDescriptor "(IILjava/util/function/BiFunction;)I" = some ⟨[.int, .int, (.object "java/util/function/BiFunction")], some .int⟩ := by decide +kernel
theorem d9_8 : decode jdk_42_method_155_code 8 = .ok (.pop, 1) := by decide +kernel
theorem d9_9 : decode jdk_42_method_155_code 9 = .ok (.return_, 1) := by decide +kernel
theorem ef9n (m : MethodId) (x0 : Int32) (x1 : Int32) : entryFrame m #[(.int x0), (.int x1)] 2 = mkF m 0 #[.val (.int x0), .val (.int x1)] [] := by first | (simp [entryFrame, mkF, argsToLocals, Value.category]; done) | rfl
def Q9n (Z : State) (zn : Int32) (h0 : Heap) (n0 : Nat) (v : Option Value) (h : Heap) (L : List Loc) : Prop := v = none ∧ Fr n0 L ∧ h = h0
set_option maxRecDepth 65536 in
set_option maxHeartbeats 40000000 in
theorem rm9n (l : Launch) (Z : State) (a0 : Array Value) (hw : ∀ d ∈ tables_1, d.before a0 Z = true) (ws : List Jvm.Cond) (zn : Int32) (h0 : Heap) (n0 : Nat) (Z0 : n0 ≤ h0.size) (hpos : (0 : Int32) < zn) (Sf : Sta Z h0 "jdk/internal/util/Preconditions" "SIOOBE_FORMATTER" "Ljava/util/function/BiFunction;" .null) :
    MetFree l (⟨"java/lang/String", "checkIndex", "(II)V"⟩ : MethodName) (head1 (Jvm.Cond.code (⟨"java/lang/String", "checkIndex", "(II)V"⟩ : MethodName) jdk_42_method_155_code 2 none :: ws) ({ frames := 1, cells := 0, slots := 0, locals := 14 } : Room)) (fun aa UU => aa = #[(.int (0 : Int32)), (.int zn)] ∧ Z.Warmed39 UU.vm ∧ UU.heap = h0) (fun _ _ _ _ _ => True) (fun _ UU oo UU' => ∃ vv LL, oo = .returned vv ∧ Q9n Z zn h0 n0 vv UU'.heap LL ∧ FrameEnd UU oo UU' LL ({ frames := 1, cells := 0, slots := 0, locals := 14 } : Room).cells ({ frames := 1, cells := 0, slots := 0, locals := 14 } : Room).slots) := by
  have W : ∀ {d : Jvm.Cond} (i : Nat), tables_1[i]? = some d → d.before a0 Z = true := fun i h => hw _ (List.mem_of_getElem? h)
  refine MetFree.of_bodySF (plainFor_of_name pn0) hisR ?_
  intro p e s m args below meth c s₁ Bd hml0 hP hK
  obtain ⟨rfl, hZ, hh⟩ := hP
  have hx := Bd.exec
  have hby := Bd.bytes
  have hml : c.maxLocals = 2 := hml0
  have hown : s.vm.findClass "java/lang/String" = some m.cls := findClass_of_methodNamed Bd.named
  have hnm := (name_of_methodNamed Bd.named Bd.method).1
  have X0 : Stand p l e ({ frames := 1, cells := 0, slots := 0, locals := 14 } : Room) s m #[(.int (0 : Int32)), (.int zn)] below meth c s₁ [] 0 0 := Stand.of_body Bd
  have e0 : s₁.heap = h0 := by rw [← hh, Bd.state]; rfl
  have N0 := Fr.nil n0
  have pre0 : ∀ tt, Steps p.tables e below (s₁.setTop (mkF m 0 #[iv (0 : Int32), iv zn] [])) tt → Steps p.tables e below (s₁.setTop (entryFrame m #[(.int (0 : Int32)), (.int zn)] 2)) tt := fun tt kt => castTop (ef9n m (0 : Int32) zn) kt
  obtain ⟨ST, hST⟩ : ∃ z : State, z = s₁.setTop (mkF m 0 #[iv (0 : Int32), iv zn] []) := ⟨_, rfl⟩
  rw [← hST] at pre0
  have go123 : own_S p e below ST s₁ (mkF m 2 #[iv (0 : Int32), iv zn] [(.int zn), (.int (0 : Int32))]) := fun tt kt => (by
      rw [hST]
      show Steps p.tables e below (s₁.setTop (mkF m 0 #[iv (0 : Int32), iv zn] [])) _
      refine XS.iloadN X0.here hx rfl (hb hby d9_0) rfl ?_
      refine XS.iloadN X0.here hx rfl (hb hby d9_1) rfl ?_
      exact kt)
  obtain ⟨T124, X124, e124, st124⟩ := getS2 X0 hx hZ hown (host := "") (Or.inl (W 53 rfl)) Via.refl e0 Sf (g := (mkF m 2 #[iv (0 : Int32), iv zn] [(.int zn), (.int (0 : Int32))])) rfl (hb hby d9_2)
  have go125 : own_S p e below ST T124 (mkF m 5 #[iv (0 : Int32), iv zn] [.null, (.int zn), (.int (0 : Int32))]) := fun tt kt => go123 tt (st124 _ kt)
  obtain ⟨_, _, ⟨T126, L126, k126, n126⟩, -, X126, ⟨Lc126, hQ126, l126, y126, z126⟩, st126⟩ := Jvm.LawKit.callS X124 hx (y := (⟨"jdk/internal/util/Preconditions", "checkIndex", "(IILjava/util/function/BiFunction;)I"⟩ : MethodName)) hown (mvT hZ (W 55 rfl)) (mvT hZ (W 56 rfl)) (mvT hZ (W 54 rfl)) (mvT hZ (W 57 rfl)) (by decide) (backOf (W := 0) (rm10n l Z a0 hw [] zn h0 n0 Z0 hpos) hZ (W 57 rfl) (W 54 rfl) (by decide) (by decide)) (g := (mkF m 5 #[iv (0 : Int32), iv zn] [.null, (.int zn), (.int (0 : Int32))])) rfl (by rw [hml]; rfl) (argsL := [(.int (0 : Int32)), (.int zn), .null]) (rest := []) (lenOf pd35 rfl) rfl (by show 2 * 0 + _ ≤ _; exact Nat.le_of_eq rfl) (hb hby d9_5) (fun _ _ => ⟨rfl, e124, (by decide : 0 + 0 ≤ _), (by decide : 0 + 0 ≤ _)⟩)
  dsimp only [Pt.U, Pt.locs, Pt.cells, Pt.slots] at X126 l126 y126 z126 st126 hQ126
  subst l126 y126 z126
  obtain ⟨rfl, Nq126, eh126⟩ := hQ126
  have N126 := Fr.app N0 Nq126
  have go127 : own_S p e below ST T126 (mkF m 8 #[iv (0 : Int32), iv zn] [(.int (0 : Int32))]) := fun tt kt => go125 tt (st126 _ kt)
  have go128 : own_S p e below ST T126 (mkF m 9 #[iv (0 : Int32), iv zn] []) := fun tt kt => go127 tt (by
      refine XS.pop X126.here hx rfl (hb hby d9_8) rfl rfl ?_
      exact kt)
  obtain ⟨fs, hr, hrun, hended, hW, hsame⟩ := X126.leave (v := none) (fun _ => rfl)
  refine ⟨_, _, pre0 _ (go128 _ ?_), hrun, hended, _, _, rfl, ?_, ⟨_, rfl⟩, hW, hsame.mono (by decide) (by decide)⟩
  · exact X126.returnOut hx Bd.returns (hb hby d9_9) hr
  · show Q9n Z zn h0 n0 _ T126.heap _
    rw [eh126]
    exact ⟨rfl, N126, rfl⟩
theorem ef10r (m : MethodId) (x0 : Int32) (x1 : Int32) (x2 : Addr) : entryFrame m #[(.int x0), (.int x1), (.ref x2)] 3 = mkF m 0 #[.val (.int x0), .val (.int x1), .val (.ref x2)] [] := by first | (simp [entryFrame, mkF, argsToLocals, Value.category]; done) | rfl
def Q10r (Z : State) (zn : Int32) (af : Addr) (h0 : Heap) (n0 : Nat) (v : Option Value) (h : Heap) (L : List Loc) : Prop := v = some (.int 0) ∧ Fr n0 L ∧ h = h0
set_option maxRecDepth 65536 in
set_option maxHeartbeats 40000000 in
theorem rm10r (l : Launch) (Z : State) (a0 : Array Value) (hw : ∀ d ∈ tables_1, d.before a0 Z = true) (ws : List Jvm.Cond) (zn : Int32) (af : Addr) (h0 : Heap) (n0 : Nat) (Z0 : n0 ≤ h0.size) (hpos : (0 : Int32) < zn) :
    MetFree l (⟨"jdk/internal/util/Preconditions", "checkIndex", "(IILjava/util/function/BiFunction;)I"⟩ : MethodName) (head1 (Jvm.Cond.code (⟨"jdk/internal/util/Preconditions", "checkIndex", "(IILjava/util/function/BiFunction;)I"⟩ : MethodName) jdk_41_method_11_code 3 (some .int) :: ws) ({ frames := 0, cells := 0, slots := 0, locals := 0 } : Room)) (fun aa UU => aa = #[(.int (0 : Int32)), (.int zn), (.ref af)] ∧ Z.Warmed39 UU.vm ∧ UU.heap = h0) (fun _ _ _ _ _ => True) (fun _ UU oo UU' => ∃ vv LL, oo = .returned vv ∧ Q10r Z zn af h0 n0 vv UU'.heap LL ∧ FrameEnd UU oo UU' LL ({ frames := 0, cells := 0, slots := 0, locals := 0 } : Room).cells ({ frames := 0, cells := 0, slots := 0, locals := 0 } : Room).slots) := by
  have W : ∀ {d : Jvm.Cond} (i : Nat), tables_1[i]? = some d → d.before a0 Z = true := fun i h => hw _ (List.mem_of_getElem? h)
  refine MetFree.of_bodySF (plainFor_of_name pn23) hisR ?_
  intro p e s m args below meth c s₁ Bd hml0 hP hK
  obtain ⟨rfl, hZ, hh⟩ := hP
  have hx := Bd.exec
  have hby := Bd.bytes
  have hml : c.maxLocals = 3 := hml0
  have hown : s.vm.findClass "jdk/internal/util/Preconditions" = some m.cls := findClass_of_methodNamed Bd.named
  have hnm := (name_of_methodNamed Bd.named Bd.method).1
  have X0 : Stand p l e ({ frames := 0, cells := 0, slots := 0, locals := 0 } : Room) s m #[(.int (0 : Int32)), (.int zn), (.ref af)] below meth c s₁ [] 0 0 := Stand.of_body Bd
  have e0 : s₁.heap = h0 := by rw [← hh, Bd.state]; rfl
  have N0 := Fr.nil n0
  have pre0 : ∀ tt, Steps p.tables e below (s₁.setTop (mkF m 0 #[iv (0 : Int32), iv zn, rv af] [])) tt → Steps p.tables e below (s₁.setTop (entryFrame m #[(.int (0 : Int32)), (.int zn), (.ref af)] 3)) tt := fun tt kt => castTop (ef10r m (0 : Int32) zn af) kt
  obtain ⟨ST, hST⟩ : ∃ z : State, z = s₁.setTop (mkF m 0 #[iv (0 : Int32), iv zn, rv af] []) := ⟨_, rfl⟩
  rw [← hST] at pre0
  have go129 : own_S p e below ST s₁ (mkF m 17 #[iv (0 : Int32), iv zn, rv af] [(.int (0 : Int32))]) := fun tt kt => (by
      rw [hST]
      show Steps p.tables e below (s₁.setTop (mkF m 0 #[iv (0 : Int32), iv zn, rv af] [])) _
      refine XS.iloadN X0.here hx rfl (hb hby d10_0) rfl ?_
      refine XS.ifNo X0.here hx rfl (hb hby d10_1) rfl ((if0 _ _).trans (flt (by decide : ¬ ((0 : Int32) < (0 : Int32)))).1) ?_
      refine XS.iloadN X0.here hx rfl (hb hby d10_4) rfl ?_
      refine XS.iloadN X0.here hx rfl (hb hby d10_5) rfl ?_
      refine XS.icmpYes X0.here hx rfl (pc0 := 6) (pc' := 16) rfl (hb hby d10_6) rfl (tlt hpos).1 (by decide) (by decide) ?_
      refine XS.iloadN X0.here hx rfl (hb hby d10_16) rfl ?_
      exact kt)
  obtain ⟨fs, hr, hrun, hended, hW, hsame⟩ := X0.leave (v := some (.int (0 : Int32))) (fun h => by rw [Bd.returns] at h; cases h)
  refine ⟨_, _, pre0 _ (go129 _ ?_), hrun, hended, _, _, rfl, ?_, ⟨_, rfl⟩, hW, hsame.mono (by decide) (by decide)⟩
  · exact retI X0 hx Bd.returns (hb hby d10_17) hr
  · show Q10r Z zn af h0 n0 _ s₁.heap _
    rw [e0]
    exact ⟨rfl, N0, rfl⟩
theorem ef9r (m : MethodId) (x0 : Int32) (x1 : Int32) : entryFrame m #[(.int x0), (.int x1)] 2 = mkF m 0 #[.val (.int x0), .val (.int x1)] [] := by first | (simp [entryFrame, mkF, argsToLocals, Value.category]; done) | rfl
def Q9r (Z : State) (zn : Int32) (af : Addr) (h0 : Heap) (n0 : Nat) (v : Option Value) (h : Heap) (L : List Loc) : Prop := v = none ∧ Fr n0 L ∧ h = h0
set_option maxRecDepth 65536 in
set_option maxHeartbeats 40000000 in
theorem rm9r (l : Launch) (Z : State) (a0 : Array Value) (hw : ∀ d ∈ tables_1, d.before a0 Z = true) (ws : List Jvm.Cond) (zn : Int32) (af : Addr) (h0 : Heap) (n0 : Nat) (Z0 : n0 ≤ h0.size) (hpos : (0 : Int32) < zn) (Sf : Sta Z h0 "jdk/internal/util/Preconditions" "SIOOBE_FORMATTER" "Ljava/util/function/BiFunction;" (.ref af)) :
    MetFree l (⟨"java/lang/String", "checkIndex", "(II)V"⟩ : MethodName) (head1 (Jvm.Cond.code (⟨"java/lang/String", "checkIndex", "(II)V"⟩ : MethodName) jdk_42_method_155_code 2 none :: ws) ({ frames := 1, cells := 0, slots := 0, locals := 14 } : Room)) (fun aa UU => aa = #[(.int (0 : Int32)), (.int zn)] ∧ Z.Warmed39 UU.vm ∧ UU.heap = h0) (fun _ _ _ _ _ => True) (fun _ UU oo UU' => ∃ vv LL, oo = .returned vv ∧ Q9r Z zn af h0 n0 vv UU'.heap LL ∧ FrameEnd UU oo UU' LL ({ frames := 1, cells := 0, slots := 0, locals := 14 } : Room).cells ({ frames := 1, cells := 0, slots := 0, locals := 14 } : Room).slots) := by
  have W : ∀ {d : Jvm.Cond} (i : Nat), tables_1[i]? = some d → d.before a0 Z = true := fun i h => hw _ (List.mem_of_getElem? h)
  refine MetFree.of_bodySF (plainFor_of_name pn0) hisR ?_
  intro p e s m args below meth c s₁ Bd hml0 hP hK
  obtain ⟨rfl, hZ, hh⟩ := hP
  have hx := Bd.exec
  have hby := Bd.bytes
  have hml : c.maxLocals = 2 := hml0
  have hown : s.vm.findClass "java/lang/String" = some m.cls := findClass_of_methodNamed Bd.named
  have hnm := (name_of_methodNamed Bd.named Bd.method).1
  have X0 : Stand p l e ({ frames := 1, cells := 0, slots := 0, locals := 14 } : Room) s m #[(.int (0 : Int32)), (.int zn)] below meth c s₁ [] 0 0 := Stand.of_body Bd
  have e0 : s₁.heap = h0 := by rw [← hh, Bd.state]; rfl
  have N0 := Fr.nil n0
  have pre0 : ∀ tt, Steps p.tables e below (s₁.setTop (mkF m 0 #[iv (0 : Int32), iv zn] [])) tt → Steps p.tables e below (s₁.setTop (entryFrame m #[(.int (0 : Int32)), (.int zn)] 2)) tt := fun tt kt => castTop (ef9r m (0 : Int32) zn) kt
  obtain ⟨ST, hST⟩ : ∃ z : State, z = s₁.setTop (mkF m 0 #[iv (0 : Int32), iv zn] []) := ⟨_, rfl⟩
  rw [← hST] at pre0
  have go130 : own_S p e below ST s₁ (mkF m 2 #[iv (0 : Int32), iv zn] [(.int zn), (.int (0 : Int32))]) := fun tt kt => (by
      rw [hST]
      show Steps p.tables e below (s₁.setTop (mkF m 0 #[iv (0 : Int32), iv zn] [])) _
      refine XS.iloadN X0.here hx rfl (hb hby d9_0) rfl ?_
      refine XS.iloadN X0.here hx rfl (hb hby d9_1) rfl ?_
      exact kt)
  obtain ⟨T131, X131, e131, st131⟩ := getS2 X0 hx hZ hown (host := "") (Or.inl (W 53 rfl)) Via.refl e0 Sf (g := (mkF m 2 #[iv (0 : Int32), iv zn] [(.int zn), (.int (0 : Int32))])) rfl (hb hby d9_2)
  have go132 : own_S p e below ST T131 (mkF m 5 #[iv (0 : Int32), iv zn] [(.ref af), (.int zn), (.int (0 : Int32))]) := fun tt kt => go130 tt (st131 _ kt)
  obtain ⟨_, _, ⟨T133, L133, k133, n133⟩, -, X133, ⟨Lc133, hQ133, l133, y133, z133⟩, st133⟩ := Jvm.LawKit.callS X131 hx (y := (⟨"jdk/internal/util/Preconditions", "checkIndex", "(IILjava/util/function/BiFunction;)I"⟩ : MethodName)) hown (mvT hZ (W 55 rfl)) (mvT hZ (W 56 rfl)) (mvT hZ (W 54 rfl)) (mvT hZ (W 57 rfl)) (by decide) (backOf (W := 0) (rm10r l Z a0 hw [] zn af h0 n0 Z0 hpos) hZ (W 57 rfl) (W 54 rfl) (by decide) (by decide)) (g := (mkF m 5 #[iv (0 : Int32), iv zn] [(.ref af), (.int zn), (.int (0 : Int32))])) rfl (by rw [hml]; rfl) (argsL := [(.int (0 : Int32)), (.int zn), (.ref af)]) (rest := []) (lenOf pd35 rfl) rfl (by show 2 * 0 + _ ≤ _; exact Nat.le_of_eq rfl) (hb hby d9_5) (fun _ _ => ⟨rfl, e131, (by decide : 0 + 0 ≤ _), (by decide : 0 + 0 ≤ _)⟩)
  dsimp only [Pt.U, Pt.locs, Pt.cells, Pt.slots] at X133 l133 y133 z133 st133 hQ133
  subst l133 y133 z133
  obtain ⟨rfl, Nq133, eh133⟩ := hQ133
  have N133 := Fr.app N0 Nq133
  have go134 : own_S p e below ST T133 (mkF m 8 #[iv (0 : Int32), iv zn] [(.int (0 : Int32))]) := fun tt kt => go132 tt (st133 _ kt)
  have go135 : own_S p e below ST T133 (mkF m 9 #[iv (0 : Int32), iv zn] []) := fun tt kt => go134 tt (by
      refine XS.pop X133.here hx rfl (hb hby d9_8) rfl rfl ?_
      exact kt)
  obtain ⟨fs, hr, hrun, hended, hW, hsame⟩ := X133.leave (v := none) (fun _ => rfl)
  refine ⟨_, _, pre0 _ (go135 _ ?_), hrun, hended, _, _, rfl, ?_, ⟨_, rfl⟩, hW, hsame.mono (by decide) (by decide)⟩
  · exact X133.returnOut hx Bd.returns (hb hby d9_9) hr
  · show Q9r Z zn af h0 n0 _ T133.heap _
    rw [eh133]
    exact ⟨rfl, N133, rfl⟩
theorem rmCI (l : Launch) (Z : State) (a0 : Array Value) (hw : ∀ d ∈ tables_1, d.before a0 Z = true) (ws : List Jvm.Cond) (zn : Int32) (wf : Value) (h0 : Heap) (n0 : Nat) (Z0 : n0 ≤ h0.size) (hpos : (0 : Int32) < zn) (Sf : Sta Z h0 "jdk/internal/util/Preconditions" "SIOOBE_FORMATTER" "Ljava/util/function/BiFunction;" wf) (hwf : wf.isRef = true) :
    MetFree l (⟨"java/lang/String", "checkIndex", "(II)V"⟩ : MethodName) (head1 (Jvm.Cond.code (⟨"java/lang/String", "checkIndex", "(II)V"⟩ : MethodName) jdk_42_method_155_code 2 none :: ws) ({ frames := 1, cells := 0, slots := 0, locals := 14 } : Room)) (fun aa UU => aa = #[(.int (0 : Int32)), (.int zn)] ∧ Z.Warmed39 UU.vm ∧ UU.heap = h0) (fun _ _ _ _ _ => True) (fun _ UU oo UU' => ∃ vv LL, oo = .returned vv ∧ Q9n Z zn h0 n0 vv UU'.heap LL ∧ FrameEnd UU oo UU' LL ({ frames := 1, cells := 0, slots := 0, locals := 14 } : Room).cells ({ frames := 1, cells := 0, slots := 0, locals := 14 } : Room).slots) := by
  rcases ref_cases hwf with rfl | ⟨af, rfl⟩
  · exact rm9n l Z a0 hw ws zn h0 n0 Z0 hpos Sf
  · exact rm9r l Z a0 hw ws zn af h0 n0 Z0 hpos Sf
theorem pn38 : plainName "java/lang/StringLatin1" = true := by first | (simp [plainName, overriddenIn]; done) | decide +kernel
theorem d8_0 : decode jdk_43_method_2_code 0 = .ok (.iload_n 1, 1) := by decide +kernel
theorem d8_1 : decode jdk_43_method_2_code 1 = .ok (.aload_n 0, 1) := by decide +kernel
theorem d8_2 : decode jdk_43_method_2_code 2 = .ok (.arraylength, 1) := by decide +kernel
theorem d8_3 : decode jdk_43_method_2_code 3 = .ok (.invokestatic 9, 3) := by decide +kernel
theorem pd43 : parseMethodDescriptor "(II)V" = some ⟨[.int, .int], none⟩ := by decide +kernel
theorem d8_6 : decode jdk_43_method_2_code 6 = .ok (.aload_n 0, 1) := by decide +kernel
theorem d8_7 : decode jdk_43_method_2_code 7 = .ok (.iload_n 1, 1) := by decide +kernel
theorem d8_8 : decode jdk_43_method_2_code 8 = .ok (.baload, 1) := by decide +kernel
theorem d8_9 : decode jdk_43_method_2_code 9 = .ok (.sipush 255, 3) := by decide +kernel
theorem d8_12 : decode jdk_43_method_2_code 12 = .ok (.iand, 1) := by decide +kernel
theorem d8_13 : decode jdk_43_method_2_code 13 = .ok (.i2c, 1) := by decide +kernel
theorem d8_14 : decode jdk_43_method_2_code 14 = .ok (.ireturn, 1) := by decide +kernel
theorem ef8 (m : MethodId) (x0 : Addr) (x1 : Int32) : entryFrame m #[(.ref x0), (.int x1)] 2 = mkF m 0 #[.val (.ref x0), .val (.int x1)] [] := by first | (simp [entryFrame, mkF, argsToLocals, Value.category]; done) | rfl
def Q8 (Z : State) (b1 : Addr) (kb : ClassId) (zn : Int32) (vs : List Value) (dv : Value) (bv : Int32) (wf : Value) (h0 : Heap) (n0 : Nat) (v : Option Value) (h : Heap) (L : List Loc) : Prop := v = some (.int (own_ch bv)) ∧ Fr n0 L ∧ h = h0
set_option maxRecDepth 65536 in
set_option maxHeartbeats 40000000 in
theorem rm8 (l : Launch) (Z : State) (a0 : Array Value) (hw : ∀ d ∈ tables_1, d.before a0 Z = true) (ws : List Jvm.Cond) (b1 : Addr) (kb : ClassId) (zn : Int32) (vs : List Value) (dv : Value) (bv : Int32) (wf : Value) (h0 : Heap) (n0 : Nat) (Z0 : n0 ≤ h0.size) (Vb : Arv Z h0 b1 kb .byte zn vs dv) (hb0 : vs.getD ((0 : Int32)).toNatClampNeg dv = .int bv) (hpos : (0 : Int32) < zn) (Sf : Sta Z h0 "jdk/internal/util/Preconditions" "SIOOBE_FORMATTER" "Ljava/util/function/BiFunction;" wf) (hwf : wf.isRef = true) :
    MetFree l (⟨"java/lang/StringLatin1", "charAt", "([BI)C"⟩ : MethodName) (head1 (Jvm.Cond.code (⟨"java/lang/StringLatin1", "charAt", "([BI)C"⟩ : MethodName) jdk_43_method_2_code 2 (some .char) :: ws) ({ frames := 2, cells := 0, slots := 0, locals := 27 } : Room)) (fun aa UU => aa = #[(.ref b1), (.int (0 : Int32))] ∧ Z.Warmed39 UU.vm ∧ UU.heap = h0) (fun _ _ _ _ _ => True) (fun _ UU oo UU' => ∃ vv LL, oo = .returned vv ∧ Q8 Z b1 kb zn vs dv bv wf h0 n0 vv UU'.heap LL ∧ FrameEnd UU oo UU' LL ({ frames := 2, cells := 0, slots := 0, locals := 27 } : Room).cells ({ frames := 2, cells := 0, slots := 0, locals := 27 } : Room).slots) := by
  have W : ∀ {d : Jvm.Cond} (i : Nat), tables_1[i]? = some d → d.before a0 Z = true := fun i h => hw _ (List.mem_of_getElem? h)
  refine MetFree.of_bodySF (plainFor_of_name pn38) hisR ?_
  intro p e s m args below meth c s₁ Bd hml0 hP hK
  obtain ⟨rfl, hZ, hh⟩ := hP
  have hx := Bd.exec
  have hby := Bd.bytes
  have hml : c.maxLocals = 2 := hml0
  have hown : s.vm.findClass "java/lang/StringLatin1" = some m.cls := findClass_of_methodNamed Bd.named
  have hnm := (name_of_methodNamed Bd.named Bd.method).1
  have X0 : Stand p l e ({ frames := 2, cells := 0, slots := 0, locals := 27 } : Room) s m #[(.ref b1), (.int (0 : Int32))] below meth c s₁ [] 0 0 := Stand.of_body Bd
  have e0 : s₁.heap = h0 := by rw [← hh, Bd.state]; rfl
  have N0 := Fr.nil n0
  have pre0 : ∀ tt, Steps p.tables e below (s₁.setTop (mkF m 0 #[rv b1, iv (0 : Int32)] [])) tt → Steps p.tables e below (s₁.setTop (entryFrame m #[(.ref b1), (.int (0 : Int32))] 2)) tt := fun tt kt => castTop (ef8 m b1 (0 : Int32)) kt
  obtain ⟨ST, hST⟩ : ∃ z : State, z = s₁.setTop (mkF m 0 #[rv b1, iv (0 : Int32)] []) := ⟨_, rfl⟩
  rw [← hST] at pre0
  have go136 : own_S p e below ST s₁ (mkF m 2 #[rv b1, iv (0 : Int32)] [(.ref b1), (.int (0 : Int32))]) := fun tt kt => (by
      rw [hST]
      show Steps p.tables e below (s₁.setTop (mkF m 0 #[rv b1, iv (0 : Int32)] [])) _
      refine XS.iloadN X0.here hx rfl (hb hby d8_0) rfl ?_
      refine XS.aloadN X0.here hx rfl (hb hby d8_1) rfl rfl ?_
      exact kt)
  obtain ⟨cl137, Ar137, q137, S137, M137, H137, G137⟩ := id Vb
  have go138 : own_S p e below ST s₁ (mkF m 3 #[rv b1, iv (0 : Int32)] [(.int zn), (.int (0 : Int32))]) := fun tt kt => go136 tt (by
      refine X0.arraylength hx (by rw [e0]; exact Ar137.1) (State.isArrayOf_alike hZ.alike Ar137.2.1) (g := (mkF m 2 #[rv b1, iv (0 : Int32)] [(.ref b1), (.int (0 : Int32))])) rfl rfl (hb hby d8_2) _ ?_
      rw [len_of S137 M137]
      exact kt)
  obtain ⟨_, _, ⟨T139, L139, k139, n139⟩, -, X139, ⟨Lc139, hQ139, l139, y139, z139⟩, st139⟩ := Jvm.LawKit.callS X0 hx (y := (⟨"java/lang/String", "checkIndex", "(II)V"⟩ : MethodName)) hown (mvT hZ (W 50 rfl)) (mvT hZ (W 51 rfl)) (mvT hZ (W 24 rfl)) (mvT hZ (W 52 rfl)) (by decide) (backOf (W := 0) (rmCI l Z a0 hw [] zn wf h0 n0 Z0 hpos Sf hwf) hZ (W 52 rfl) (W 24 rfl) (by decide) (by decide)) (g := (mkF m 3 #[rv b1, iv (0 : Int32)] [(.int zn), (.int (0 : Int32))])) rfl (by rw [hml]; rfl) (argsL := [(.int (0 : Int32)), (.int zn)]) (rest := []) (lenOf pd43 rfl) rfl (by show 2 * 0 + _ ≤ _; exact Nat.le_of_eq rfl) (hb hby d8_3) (fun _ _ => ⟨rfl, e0, (by decide : 0 + 0 ≤ _), (by decide : 0 + 0 ≤ _)⟩)
  dsimp only [Pt.U, Pt.locs, Pt.cells, Pt.slots] at X139 l139 y139 z139 st139 hQ139
  subst l139 y139 z139
  obtain ⟨rfl, Nq139, eh139⟩ := hQ139
  have N139 := Fr.app N0 Nq139
  have go140 : own_S p e below ST T139 (mkF m 6 #[rv b1, iv (0 : Int32)] []) := fun tt kt => go138 tt (st139 _ kt)
  have go141 : own_S p e below ST T139 (mkF m 8 #[rv b1, iv (0 : Int32)] [(.int (0 : Int32)), (.ref b1)]) := fun tt kt => go140 tt (by
      refine XS.aloadN X139.here hx rfl (hb hby d8_6) rfl rfl ?_
      refine XS.iloadN X139.here hx rfl (hb hby d8_7) rfl ?_
      exact kt)
  obtain ⟨cl142, Ar142, q142, S142, M142, H142, G142⟩ := id Vb
  have hin142 : ¬ ((0 : Int32) < 0 ∨ cl142.slots.size ≤ ((0 : Int32)).toNatClampNeg) := inb_of S142 ⟨by decide, hpos⟩
  have hat142 : cl142.slots[((0 : Int32)).toNatClampNeg]? = some (.int bv) := H142.at hin142 hb0
  have go143 : own_S p e below ST T139 (mkF m 9 #[rv b1, iv (0 : Int32)] [(.int bv)]) := fun tt kt => go141 tt (by
      refine X139.baloadBytes hx (j := (0 : Int32)) (v := (.int bv)) (by rw [eh139]; exact Ar142.1) (State.isArrayOf_alike hZ.alike Ar142.2.1) Ar142.2.2 hin142 hat142 (g := (mkF m 8 #[rv b1, iv (0 : Int32)] [(.int (0 : Int32)), (.ref b1)])) rfl rfl (hb hby d8_8) _ ?_
      exact kt)
  have go144 : own_S p e below ST T139 (mkF m 14 #[rv b1, iv (0 : Int32)] [(.int ((bv &&& (255 : Int32)).toUInt32.toUInt16.toUInt32.toInt32))]) := fun tt kt => go143 tt (by
      refine XS.sipush X139.here hx rfl (hb hby d8_9) ?_
      refine XS.iand X139.here hx rfl (hb hby d8_12) rfl ?_
      refine XS.i2c X139.here hx rfl (hb hby d8_13) rfl ?_
      exact kt)
  obtain ⟨fs, hr, hrun, hended, hW, hsame⟩ := X139.leave (v := some (.int (nar .char ((bv &&& (255 : Int32)).toUInt32.toUInt16.toUInt32.toInt32)))) (fun h => by rw [Bd.returns] at h; cases h)
  refine ⟨_, _, pre0 _ (go144 _ ?_), hrun, hended, _, _, rfl, ?_, ⟨_, rfl⟩, hW, hsame.mono (by decide) (by decide)⟩
  · exact retN X139 hx (t := .char) Bd.returns (by simp) (hb hby d8_14) hr
  · show Q8 Z b1 kb zn vs dv bv wf h0 n0 _ T139.heap _
    rw [eh139]
    exact ⟨rfl, N139, rfl⟩
theorem d6_0 : decode jdk_42_method_56_code 0 = .ok (.aload_n 0, 1) := by decide +kernel
theorem d6_1 : decode jdk_42_method_56_code 1 = .ok (.invokevirtual 492, 3) := by decide +kernel
theorem pd53 : parseMethodDescriptor "()Z" = some ⟨[], some .boolean⟩ := by decide +kernel
theorem d6_4 : decode jdk_42_method_56_code 4 = .ok (.ifCond .eq 12, 3) := by decide +kernel
theorem d6_7 : decode jdk_42_method_56_code 7 = .ok (.aload_n 0, 1) := by decide +kernel
theorem d6_8 : decode jdk_42_method_56_code 8 = .ok (.getfield 9, 3) := by decide +kernel
theorem d6_11 : decode jdk_42_method_56_code 11 = .ok (.iload_n 1, 1) := by decide +kernel
theorem d6_12 : decode jdk_42_method_56_code 12 = .ok (.invokestatic 495, 3) := by decide +kernel
theorem pd59 : parseMethodDescriptor "([BI)C" = some ⟨[(.array .byte), .int], some .char⟩ := by decide +kernel
theorem d6_15 : decode jdk_42_method_56_code 15 = .ok (.ireturn, 1) := by decide +kernel
theorem ef6 (m : MethodId) (x0 : Addr) (x1 : Int32) : entryFrame m #[(.ref x0), (.int x1)] 2 = mkF m 0 #[.val (.ref x0), .val (.int x1)] [] := by first | (simp [entryFrame, mkF, argsToLocals, Value.category]; done) | rfl
def Q6 (Z : State) (o1 : Addr) (b1 : Addr) (kb : ClassId) (zn : Int32) (vs : List Value) (dv : Value) (bv : Int32) (wf : Value) (cs : Int32) (h0 : Heap) (n0 : Nat) (v : Option Value) (h : Heap) (L : List Loc) : Prop := v = some (.int (own_ch2 bv)) ∧ Fr n0 L ∧ h = h0
set_option maxRecDepth 65536 in
set_option maxHeartbeats 40000000 in
theorem rm6 (l : Launch) (Z : State) (a0 : Array Value) (hw : ∀ d ∈ tables_1, d.before a0 Z = true) (ws : List Jvm.Cond) (o1 : Addr) (b1 : Addr) (kb : ClassId) (zn : Int32) (vs : List Value) (dv : Value) (bv : Int32) (wf : Value) (cs : Int32) (h0 : Heap) (n0 : Nat) (Z0 : n0 ≤ h0.size) (Sc : Sta Z h0 "java/lang/String" "COMPACT_STRINGS" "Z" (.int cs)) (hcs : ¬ cs = 0) (Fc : Fld Z h0 o1 "java/lang/String" "coder" "B" (.int (0 : Int32))) (Fv : Fld Z h0 o1 "java/lang/String" "value" "[B" (.ref b1)) (Vb : Arv Z h0 b1 kb .byte zn vs dv) (Es : Exa Z h0 o1 "java/lang/String") (hb0 : vs.getD ((0 : Int32)).toNatClampNeg dv = .int bv) (hpos : (0 : Int32) < zn) (Sf : Sta Z h0 "jdk/internal/util/Preconditions" "SIOOBE_FORMATTER" "Ljava/util/function/BiFunction;" wf) (hwf : wf.isRef = true) :
    MetFree l (⟨"java/lang/String", "charAt", "(I)C"⟩ : MethodName) (head1 (Jvm.Cond.code (⟨"java/lang/String", "charAt", "(I)C"⟩ : MethodName) jdk_42_method_56_code 2 (some .char) :: ws) ({ frames := 3, cells := 0, slots := 0, locals := 40 } : Room)) (fun aa UU => aa = #[(.ref o1), (.int (0 : Int32))] ∧ Z.Warmed39 UU.vm ∧ UU.heap = h0) (fun _ _ _ _ _ => True) (fun _ UU oo UU' => ∃ vv LL, oo = .returned vv ∧ Q6 Z o1 b1 kb zn vs dv bv wf cs h0 n0 vv UU'.heap LL ∧ FrameEnd UU oo UU' LL ({ frames := 3, cells := 0, slots := 0, locals := 40 } : Room).cells ({ frames := 3, cells := 0, slots := 0, locals := 40 } : Room).slots) := by
  have W : ∀ {d : Jvm.Cond} (i : Nat), tables_1[i]? = some d → d.before a0 Z = true := fun i h => hw _ (List.mem_of_getElem? h)
  refine MetFree.of_bodySF (plainFor_of_name pn0) hisR ?_
  intro p e s m args below meth c s₁ Bd hml0 hP hK
  obtain ⟨rfl, hZ, hh⟩ := hP
  have hx := Bd.exec
  have hby := Bd.bytes
  have hml : c.maxLocals = 2 := hml0
  have hown : s.vm.findClass "java/lang/String" = some m.cls := findClass_of_methodNamed Bd.named
  have hnm := (name_of_methodNamed Bd.named Bd.method).1
  have X0 : Stand p l e ({ frames := 3, cells := 0, slots := 0, locals := 40 } : Room) s m #[(.ref o1), (.int (0 : Int32))] below meth c s₁ [] 0 0 := Stand.of_body Bd
  have e0 : s₁.heap = h0 := by rw [← hh, Bd.state]; rfl
  have N0 := Fr.nil n0
  have pre0 : ∀ tt, Steps p.tables e below (s₁.setTop (mkF m 0 #[rv o1, iv (0 : Int32)] [])) tt → Steps p.tables e below (s₁.setTop (entryFrame m #[(.ref o1), (.int (0 : Int32))] 2)) tt := fun tt kt => castTop (ef6 m o1 (0 : Int32)) kt
  obtain ⟨ST, hST⟩ : ∃ z : State, z = s₁.setTop (mkF m 0 #[rv o1, iv (0 : Int32)] []) := ⟨_, rfl⟩
  rw [← hST] at pre0
  have go145 : own_S p e below ST s₁ (mkF m 1 #[rv o1, iv (0 : Int32)] [(.ref o1)]) := fun tt kt => (by
      rw [hST]
      show Steps p.tables e below (s₁.setTop (mkF m 0 #[rv o1, iv (0 : Int32)] [])) _
      refine XS.aloadN X0.here hx rfl (hb hby d6_0) rfl rfl ?_
      exact kt)
  obtain ⟨cq146, kq146, q146a, q146b, q146c⟩ := isOf hZ e0 Es
  obtain ⟨_, _, ⟨T146, L146, k146, n146⟩, -, X146, ⟨Lc146, hQ146, l146, y146, z146⟩, st146⟩ := X0.virtualBack hx (y := (⟨"java/lang/String", "isLatin1", "()Z"⟩ : MethodName)) (z := (⟨"java/lang/String", "isLatin1", "()Z"⟩ : MethodName)) hown (mvT hZ (W 41 rfl)) (mvT hZ (W 42 rfl)) (notFace_of_selects (args := #[]) (mvT hZ (W 44 rfl))) (mvT hZ (W 44 rfl)) (mvT hZ (W 43 rfl)) (by decide) (backOf (W := 0) (rm7 l Z a0 hw [] o1 cs h0 n0 Z0 Sc hcs Fc) hZ (W 45 rfl) (W 24 rfl) (by decide) (by decide)) q146a q146c (g := (mkF m 1 #[rv o1, iv (0 : Int32)] [(.ref o1)])) rfl (by rw [hml]; rfl) (Steps.refl _) (argsL := []) (rest := []) (lenOf pd53 rfl) rfl (by show 2 * 0 + _ ≤ _; exact Nat.le_of_eq rfl) (hb hby d6_1) (fun _ _ => ⟨rfl, e0, (by decide : 0 + 0 ≤ _), (by decide : 0 + 0 ≤ _)⟩)
  dsimp only [Pt.U, Pt.locs, Pt.cells, Pt.slots] at X146 l146 y146 z146 st146 hQ146
  subst l146 y146 z146
  obtain ⟨rfl, Nq146, eh146⟩ := hQ146
  have N146 := Fr.app N0 Nq146
  have go147 : own_S p e below ST T146 (mkF m 4 #[rv o1, iv (0 : Int32)] [(.int (1 : Int32))]) := fun tt kt => go145 tt (st146.trans kt)
  have go148 : own_S p e below ST T146 (mkF m 8 #[rv o1, iv (0 : Int32)] [(.ref o1)]) := fun tt kt => go147 tt (by
      refine XS.ifNo X146.here hx rfl (hb hby d6_4) rfl ((if0 _ _).trans (feq (by decide : ¬ ((1 : Int32) = (0 : Int32)))).1) ?_
      refine XS.aloadN X146.here hx rfl (hb hby d6_7) rfl rfl ?_
      exact kt)
  obtain ⟨T149, X149, e149, st149⟩ := getF X146 hx hZ hown (host := "") (Or.inl (W 26 rfl)) Via.refl eh146 Fv (g := (mkF m 8 #[rv o1, iv (0 : Int32)] [(.ref o1)])) rfl rfl (hb hby d6_8)
  have go150 : own_S p e below ST T149 (mkF m 11 #[rv o1, iv (0 : Int32)] [(.ref b1)]) := fun tt kt => go148 tt (st149 _ kt)
  have go151 : own_S p e below ST T149 (mkF m 12 #[rv o1, iv (0 : Int32)] [(.int (0 : Int32)), (.ref b1)]) := fun tt kt => go150 tt (by
      refine XS.iloadN X149.here hx rfl (hb hby d6_11) rfl ?_
      exact kt)
  obtain ⟨_, _, ⟨T152, L152, k152, n152⟩, -, X152, ⟨Lc152, hQ152, l152, y152, z152⟩, st152⟩ := Jvm.LawKit.callS X149 hx (y := (⟨"java/lang/StringLatin1", "charAt", "([BI)C"⟩ : MethodName)) hown (mvT hZ (W 46 rfl)) (mvT hZ (W 47 rfl)) (mvT hZ (W 48 rfl)) (mvT hZ (W 49 rfl)) (by decide) (backOf (W := 0) (rm8 l Z a0 hw [] b1 kb zn vs dv bv wf h0 n0 Z0 Vb hb0 hpos Sf hwf) hZ (W 49 rfl) (W 48 rfl) (by decide) (by decide)) (g := (mkF m 12 #[rv o1, iv (0 : Int32)] [(.int (0 : Int32)), (.ref b1)])) rfl (by rw [hml]; rfl) (argsL := [(.ref b1), (.int (0 : Int32))]) (rest := []) (lenOf pd59 rfl) rfl (by show 2 * 0 + _ ≤ _; exact Nat.le_of_eq rfl) (hb hby d6_12) (fun _ _ => ⟨rfl, e149, (by decide : 0 + 0 ≤ _), (by decide : 0 + 0 ≤ _)⟩)
  dsimp only [Pt.U, Pt.locs, Pt.cells, Pt.slots] at X152 l152 y152 z152 st152 hQ152
  subst l152 y152 z152
  obtain ⟨rfl, Nq152, eh152⟩ := hQ152
  have N152 := Fr.app N146 Nq152
  have go153 : own_S p e below ST T152 (mkF m 15 #[rv o1, iv (0 : Int32)] [(.int (own_ch bv))]) := fun tt kt => go151 tt (st152 _ kt)
  obtain ⟨fs, hr, hrun, hended, hW, hsame⟩ := X152.leave (v := some (.int (nar .char (own_ch bv)))) (fun h => by rw [Bd.returns] at h; cases h)
  refine ⟨_, _, pre0 _ (go153 _ ?_), hrun, hended, _, _, rfl, ?_, ⟨_, rfl⟩, hW, hsame.mono (by decide) (by decide)⟩
  · exact retN X152 hx (t := .char) Bd.returns (by simp) (hb hby d6_15) hr
  · show Q6 Z o1 b1 kb zn vs dv bv wf cs h0 n0 _ T152.heap _
    rw [eh152]
    exact ⟨rfl, N152, rfl⟩
theorem pn61 : plainName "com/example/brancher/brancher/model/Comparison" = true := by first | (simp [plainName, overriddenIn]; done) | decide +kernel
theorem d2_0 : decode prog_17_method_6_code 0 = .ok (.aload_n 0, 1) := by decide +kernel
theorem d2_1 : decode prog_17_method_6_code 1 = .ok (.getstatic 3, 3) := by decide +kernel
theorem d2_4 : decode prog_17_method_6_code 4 = .ok (.if_acmp .eq 10, 3) := by decide +kernel
theorem d2_14 : decode prog_17_method_6_code 14 = .ok (.iconst 1, 1) := by decide +kernel
theorem d2_15 : decode prog_17_method_6_code 15 = .ok (.goto 4, 3) := by decide +kernel
theorem d2_19 : decode prog_17_method_6_code 19 = .ok (.ireturn, 1) := by decide +kernel
theorem ef2v (m : MethodId) (x0 : Addr) : entryFrame m #[(.ref x0)] 1 = mkF m 0 #[.val (.ref x0)] [] := by first | (simp [entryFrame, mkF, argsToLocals, Value.category]; done) | rfl
def Q2v (Z : State) (aL : Addr) (aA : Addr) (h0 : Heap) (n0 : Nat) (v : Option Value) (h : Heap) (L : List Loc) : Prop := v = some (.int 1) ∧ Fr n0 L ∧ h = h0
set_option maxRecDepth 65536 in
set_option maxHeartbeats 40000000 in
theorem rm2v (l : Launch) (Z : State) (a0 : Array Value) (hw : ∀ d ∈ tables_1, d.before a0 Z = true) (ws : List Jvm.Cond) (aL : Addr) (aA : Addr) (h0 : Heap) (n0 : Nat) (Z0 : n0 ≤ h0.size) (SaL : Sta Z h0 "com/example/brancher/brancher/model/Comparison" "AT_LEAST" "Lcom/example/brancher/brancher/model/Comparison;" (.ref aL)) (SaA : Sta Z h0 "com/example/brancher/brancher/model/Comparison" "ABOVE" "Lcom/example/brancher/brancher/model/Comparison;" (.ref aA)) :
    MetFree l (⟨"com/example/brancher/brancher/model/Comparison", "isLower", "()Z"⟩ : MethodName) (head1 (Jvm.Cond.code (⟨"com/example/brancher/brancher/model/Comparison", "isLower", "()Z"⟩ : MethodName) prog_17_method_6_code 1 (some .boolean) :: ws) ({ frames := 0, cells := 0, slots := 0, locals := 0 } : Room)) (fun aa UU => aa = #[(.ref aL)] ∧ Z.Warmed39 UU.vm ∧ UU.heap = h0) (fun _ _ _ _ _ => True) (fun _ UU oo UU' => ∃ vv LL, oo = .returned vv ∧ Q2v Z aL aA h0 n0 vv UU'.heap LL ∧ FrameEnd UU oo UU' LL ({ frames := 0, cells := 0, slots := 0, locals := 0 } : Room).cells ({ frames := 0, cells := 0, slots := 0, locals := 0 } : Room).slots) := by
  have W : ∀ {d : Jvm.Cond} (i : Nat), tables_1[i]? = some d → d.before a0 Z = true := fun i h => hw _ (List.mem_of_getElem? h)
  refine MetFree.of_bodySF (plainFor_of_name pn61) hisR ?_
  intro p e s m args below meth c s₁ Bd hml0 hP hK
  obtain ⟨rfl, hZ, hh⟩ := hP
  have hx := Bd.exec
  have hby := Bd.bytes
  have hml : c.maxLocals = 1 := hml0
  have hown : s.vm.findClass "com/example/brancher/brancher/model/Comparison" = some m.cls := findClass_of_methodNamed Bd.named
  have hnm := (name_of_methodNamed Bd.named Bd.method).1
  have X0 : Stand p l e ({ frames := 0, cells := 0, slots := 0, locals := 0 } : Room) s m #[(.ref aL)] below meth c s₁ [] 0 0 := Stand.of_body Bd
  have e0 : s₁.heap = h0 := by rw [← hh, Bd.state]; rfl
  have N0 := Fr.nil n0
  have pre0 : ∀ tt, Steps p.tables e below (s₁.setTop (mkF m 0 #[rv aL] [])) tt → Steps p.tables e below (s₁.setTop (entryFrame m #[(.ref aL)] 1)) tt := fun tt kt => castTop (ef2v m aL) kt
  obtain ⟨ST, hST⟩ : ∃ z : State, z = s₁.setTop (mkF m 0 #[rv aL] []) := ⟨_, rfl⟩
  rw [← hST] at pre0
  have go154 : own_S p e below ST s₁ (mkF m 1 #[rv aL] [(.ref aL)]) := fun tt kt => (by
      rw [hST]
      show Steps p.tables e below (s₁.setTop (mkF m 0 #[rv aL] [])) _
      refine XS.aloadN X0.here hx rfl (hb hby d2_0) rfl rfl ?_
      exact kt)
  obtain ⟨T155, X155, e155, st155⟩ := getS2 X0 hx hZ hown (host := "") (Or.inl (W 12 rfl)) Via.refl e0 SaL (g := (mkF m 1 #[rv aL] [(.ref aL)])) rfl (hb hby d2_1)
  have go156 : own_S p e below ST T155 (mkF m 4 #[rv aL] [(.ref aL), (.ref aL)]) := fun tt kt => go154 tt (st155 _ kt)
  have go157 : own_S p e below ST T155 (mkF m 19 #[rv aL] [(.int (1 : Int32))]) := fun tt kt => go156 tt (by
      refine Jvm.RoadKit.acmp (g := (mkF m 4 #[rv aL] [(.ref aL), (.ref aL)])) X155 hx rfl rfl rfl (pc0 := 4) (pc' := 14) (same := true) rfl (hb hby d2_4) rfl (decide_eq_true rfl) (by decide) (by decide) ?_
      refine XS.iconst X155.here hx rfl (hb hby d2_14) ?_
      refine XS.goto X155.here hx rfl (pc0 := 15) (pc' := 19) rfl (hb hby d2_15) (by decide) (by decide) ?_
      exact kt)
  obtain ⟨fs, hr, hrun, hended, hW, hsame⟩ := X155.leave (v := some (.int (1 : Int32))) (fun h => by rw [Bd.returns] at h; cases h)
  refine ⟨_, _, pre0 _ (go157 _ ?_), hrun, hended, _, _, rfl, ?_, ⟨_, rfl⟩, hW, hsame.mono (by decide) (by decide)⟩
  · exact retN X155 hx (t := .boolean) Bd.returns (by simp) (hb hby d2_19) hr
  · show Q2v Z aL aA h0 n0 _ T155.heap _
    rw [e155]
    exact ⟨rfl, N0, rfl⟩
theorem d2_7 : decode prog_17_method_6_code 7 = .ok (.aload_n 0, 1) := by decide +kernel
theorem d2_8 : decode prog_17_method_6_code 8 = .ok (.getstatic 7, 3) := by decide +kernel
theorem d2_11 : decode prog_17_method_6_code 11 = .ok (.if_acmp .ne 7, 3) := by decide +kernel
theorem ef2t (m : MethodId) (x0 : Addr) : entryFrame m #[(.ref x0)] 1 = mkF m 0 #[.val (.ref x0)] [] := by first | (simp [entryFrame, mkF, argsToLocals, Value.category]; done) | rfl
def Q2t (Z : State) (aL : Addr) (aA : Addr) (h0 : Heap) (n0 : Nat) (v : Option Value) (h : Heap) (L : List Loc) : Prop := v = some (.int 1) ∧ Fr n0 L ∧ h = h0
set_option maxRecDepth 65536 in
set_option maxHeartbeats 40000000 in
theorem rm2t (l : Launch) (Z : State) (a0 : Array Value) (hw : ∀ d ∈ tables_1, d.before a0 Z = true) (ws : List Jvm.Cond) (aL : Addr) (aA : Addr) (h0 : Heap) (n0 : Nat) (Z0 : n0 ≤ h0.size) (SaL : Sta Z h0 "com/example/brancher/brancher/model/Comparison" "AT_LEAST" "Lcom/example/brancher/brancher/model/Comparison;" (.ref aL)) (SaA : Sta Z h0 "com/example/brancher/brancher/model/Comparison" "ABOVE" "Lcom/example/brancher/brancher/model/Comparison;" (.ref aA)) (n1 : aA ≠ aL) :
    MetFree l (⟨"com/example/brancher/brancher/model/Comparison", "isLower", "()Z"⟩ : MethodName) (head1 (Jvm.Cond.code (⟨"com/example/brancher/brancher/model/Comparison", "isLower", "()Z"⟩ : MethodName) prog_17_method_6_code 1 (some .boolean) :: ws) ({ frames := 0, cells := 0, slots := 0, locals := 0 } : Room)) (fun aa UU => aa = #[(.ref aA)] ∧ Z.Warmed39 UU.vm ∧ UU.heap = h0) (fun _ _ _ _ _ => True) (fun _ UU oo UU' => ∃ vv LL, oo = .returned vv ∧ Q2t Z aL aA h0 n0 vv UU'.heap LL ∧ FrameEnd UU oo UU' LL ({ frames := 0, cells := 0, slots := 0, locals := 0 } : Room).cells ({ frames := 0, cells := 0, slots := 0, locals := 0 } : Room).slots) := by
  have W : ∀ {d : Jvm.Cond} (i : Nat), tables_1[i]? = some d → d.before a0 Z = true := fun i h => hw _ (List.mem_of_getElem? h)
  refine MetFree.of_bodySF (plainFor_of_name pn61) hisR ?_
  intro p e s m args below meth c s₁ Bd hml0 hP hK
  obtain ⟨rfl, hZ, hh⟩ := hP
  have hx := Bd.exec
  have hby := Bd.bytes
  have hml : c.maxLocals = 1 := hml0
  have hown : s.vm.findClass "com/example/brancher/brancher/model/Comparison" = some m.cls := findClass_of_methodNamed Bd.named
  have hnm := (name_of_methodNamed Bd.named Bd.method).1
  have X0 : Stand p l e ({ frames := 0, cells := 0, slots := 0, locals := 0 } : Room) s m #[(.ref aA)] below meth c s₁ [] 0 0 := Stand.of_body Bd
  have e0 : s₁.heap = h0 := by rw [← hh, Bd.state]; rfl
  have N0 := Fr.nil n0
  have pre0 : ∀ tt, Steps p.tables e below (s₁.setTop (mkF m 0 #[rv aA] [])) tt → Steps p.tables e below (s₁.setTop (entryFrame m #[(.ref aA)] 1)) tt := fun tt kt => castTop (ef2t m aA) kt
  obtain ⟨ST, hST⟩ : ∃ z : State, z = s₁.setTop (mkF m 0 #[rv aA] []) := ⟨_, rfl⟩
  rw [← hST] at pre0
  have go158 : own_S p e below ST s₁ (mkF m 1 #[rv aA] [(.ref aA)]) := fun tt kt => (by
      rw [hST]
      show Steps p.tables e below (s₁.setTop (mkF m 0 #[rv aA] [])) _
      refine XS.aloadN X0.here hx rfl (hb hby d2_0) rfl rfl ?_
      exact kt)
  obtain ⟨T159, X159, e159, st159⟩ := getS2 X0 hx hZ hown (host := "") (Or.inl (W 12 rfl)) Via.refl e0 SaL (g := (mkF m 1 #[rv aA] [(.ref aA)])) rfl (hb hby d2_1)
  have go160 : own_S p e below ST T159 (mkF m 4 #[rv aA] [(.ref aL), (.ref aA)]) := fun tt kt => go158 tt (st159 _ kt)
  have go161 : own_S p e below ST T159 (mkF m 8 #[rv aA] [(.ref aA)]) := fun tt kt => go160 tt (by
      refine Jvm.RoadKit.acmp (g := (mkF m 4 #[rv aA] [(.ref aL), (.ref aA)])) X159 hx rfl rfl rfl (pc0 := 4) (pc' := 7) (same := false) rfl (hb hby d2_4) rfl (decide_eq_false fun q => n1 (Value.ref.inj q)) (by decide) (by decide) ?_
      refine XS.aloadN X159.here hx rfl (hb hby d2_7) rfl rfl ?_
      exact kt)
  obtain ⟨T162, X162, e162, st162⟩ := getS2 X159 hx hZ hown (host := "") (Or.inl (W 74 rfl)) Via.refl e159 SaA (g := (mkF m 8 #[rv aA] [(.ref aA)])) rfl (hb hby d2_8)
  have go163 : own_S p e below ST T162 (mkF m 11 #[rv aA] [(.ref aA), (.ref aA)]) := fun tt kt => go161 tt (st162 _ kt)
  have go164 : own_S p e below ST T162 (mkF m 19 #[rv aA] [(.int (1 : Int32))]) := fun tt kt => go163 tt (by
      refine Jvm.RoadKit.acmp (g := (mkF m 11 #[rv aA] [(.ref aA), (.ref aA)])) X162 hx rfl rfl rfl (pc0 := 11) (pc' := 14) (same := true) rfl (hb hby d2_11) rfl (decide_eq_true rfl) (by decide) (by decide) ?_
      refine XS.iconst X162.here hx rfl (hb hby d2_14) ?_
      refine XS.goto X162.here hx rfl (pc0 := 15) (pc' := 19) rfl (hb hby d2_15) (by decide) (by decide) ?_
      exact kt)
  obtain ⟨fs, hr, hrun, hended, hW, hsame⟩ := X162.leave (v := some (.int (1 : Int32))) (fun h => by rw [Bd.returns] at h; cases h)
  refine ⟨_, _, pre0 _ (go164 _ ?_), hrun, hended, _, _, rfl, ?_, ⟨_, rfl⟩, hW, hsame.mono (by decide) (by decide)⟩
  · exact retN X162 hx (t := .boolean) Bd.returns (by simp) (hb hby d2_19) hr
  · show Q2t Z aL aA h0 n0 _ T162.heap _
    rw [e162]
    exact ⟨rfl, N0, rfl⟩
theorem d2_18 : decode prog_17_method_6_code 18 = .ok (.iconst 0, 1) := by decide +kernel
theorem ef2o (m : MethodId) (x0 : Addr) : entryFrame m #[(.ref x0)] 1 = mkF m 0 #[.val (.ref x0)] [] := by first | (simp [entryFrame, mkF, argsToLocals, Value.category]; done) | rfl
def Q2o (Z : State) (aL : Addr) (aA : Addr) (o1 : Addr) (h0 : Heap) (n0 : Nat) (v : Option Value) (h : Heap) (L : List Loc) : Prop := v = some (.int 0) ∧ Fr n0 L ∧ h = h0
set_option maxRecDepth 65536 in
set_option maxHeartbeats 40000000 in
theorem rm2o (l : Launch) (Z : State) (a0 : Array Value) (hw : ∀ d ∈ tables_1, d.before a0 Z = true) (ws : List Jvm.Cond) (aL : Addr) (aA : Addr) (o1 : Addr) (h0 : Heap) (n0 : Nat) (Z0 : n0 ≤ h0.size) (SaL : Sta Z h0 "com/example/brancher/brancher/model/Comparison" "AT_LEAST" "Lcom/example/brancher/brancher/model/Comparison;" (.ref aL)) (SaA : Sta Z h0 "com/example/brancher/brancher/model/Comparison" "ABOVE" "Lcom/example/brancher/brancher/model/Comparison;" (.ref aA)) (n1 : o1 ≠ aL) (n2 : o1 ≠ aA) :
    MetFree l (⟨"com/example/brancher/brancher/model/Comparison", "isLower", "()Z"⟩ : MethodName) (head1 (Jvm.Cond.code (⟨"com/example/brancher/brancher/model/Comparison", "isLower", "()Z"⟩ : MethodName) prog_17_method_6_code 1 (some .boolean) :: ws) ({ frames := 0, cells := 0, slots := 0, locals := 0 } : Room)) (fun aa UU => aa = #[(.ref o1)] ∧ Z.Warmed39 UU.vm ∧ UU.heap = h0) (fun _ _ _ _ _ => True) (fun _ UU oo UU' => ∃ vv LL, oo = .returned vv ∧ Q2o Z aL aA o1 h0 n0 vv UU'.heap LL ∧ FrameEnd UU oo UU' LL ({ frames := 0, cells := 0, slots := 0, locals := 0 } : Room).cells ({ frames := 0, cells := 0, slots := 0, locals := 0 } : Room).slots) := by
  have W : ∀ {d : Jvm.Cond} (i : Nat), tables_1[i]? = some d → d.before a0 Z = true := fun i h => hw _ (List.mem_of_getElem? h)
  refine MetFree.of_bodySF (plainFor_of_name pn61) hisR ?_
  intro p e s m args below meth c s₁ Bd hml0 hP hK
  obtain ⟨rfl, hZ, hh⟩ := hP
  have hx := Bd.exec
  have hby := Bd.bytes
  have hml : c.maxLocals = 1 := hml0
  have hown : s.vm.findClass "com/example/brancher/brancher/model/Comparison" = some m.cls := findClass_of_methodNamed Bd.named
  have hnm := (name_of_methodNamed Bd.named Bd.method).1
  have X0 : Stand p l e ({ frames := 0, cells := 0, slots := 0, locals := 0 } : Room) s m #[(.ref o1)] below meth c s₁ [] 0 0 := Stand.of_body Bd
  have e0 : s₁.heap = h0 := by rw [← hh, Bd.state]; rfl
  have N0 := Fr.nil n0
  have pre0 : ∀ tt, Steps p.tables e below (s₁.setTop (mkF m 0 #[rv o1] [])) tt → Steps p.tables e below (s₁.setTop (entryFrame m #[(.ref o1)] 1)) tt := fun tt kt => castTop (ef2o m o1) kt
  obtain ⟨ST, hST⟩ : ∃ z : State, z = s₁.setTop (mkF m 0 #[rv o1] []) := ⟨_, rfl⟩
  rw [← hST] at pre0
  have go165 : own_S p e below ST s₁ (mkF m 1 #[rv o1] [(.ref o1)]) := fun tt kt => (by
      rw [hST]
      show Steps p.tables e below (s₁.setTop (mkF m 0 #[rv o1] [])) _
      refine XS.aloadN X0.here hx rfl (hb hby d2_0) rfl rfl ?_
      exact kt)
  obtain ⟨T166, X166, e166, st166⟩ := getS2 X0 hx hZ hown (host := "") (Or.inl (W 12 rfl)) Via.refl e0 SaL (g := (mkF m 1 #[rv o1] [(.ref o1)])) rfl (hb hby d2_1)
  have go167 : own_S p e below ST T166 (mkF m 4 #[rv o1] [(.ref aL), (.ref o1)]) := fun tt kt => go165 tt (st166 _ kt)
  have go168 : own_S p e below ST T166 (mkF m 8 #[rv o1] [(.ref o1)]) := fun tt kt => go167 tt (by
      refine Jvm.RoadKit.acmp (g := (mkF m 4 #[rv o1] [(.ref aL), (.ref o1)])) X166 hx rfl rfl rfl (pc0 := 4) (pc' := 7) (same := false) rfl (hb hby d2_4) rfl (decide_eq_false fun q => n1 (Value.ref.inj q)) (by decide) (by decide) ?_
      refine XS.aloadN X166.here hx rfl (hb hby d2_7) rfl rfl ?_
      exact kt)
  obtain ⟨T169, X169, e169, st169⟩ := getS2 X166 hx hZ hown (host := "") (Or.inl (W 74 rfl)) Via.refl e166 SaA (g := (mkF m 8 #[rv o1] [(.ref o1)])) rfl (hb hby d2_8)
  have go170 : own_S p e below ST T169 (mkF m 11 #[rv o1] [(.ref aA), (.ref o1)]) := fun tt kt => go168 tt (st169 _ kt)
  have go171 : own_S p e below ST T169 (mkF m 19 #[rv o1] [(.int (0 : Int32))]) := fun tt kt => go170 tt (by
      refine Jvm.RoadKit.acmp (g := (mkF m 11 #[rv o1] [(.ref aA), (.ref o1)])) X169 hx rfl rfl rfl (pc0 := 11) (pc' := 18) (same := false) rfl (hb hby d2_11) rfl (decide_eq_false fun q => n2 (Value.ref.inj q)) (by decide) (by decide) ?_
      refine XS.iconst X169.here hx rfl (hb hby d2_18) ?_
      exact kt)
  obtain ⟨fs, hr, hrun, hended, hW, hsame⟩ := X169.leave (v := some (.int (0 : Int32))) (fun h => by rw [Bd.returns] at h; cases h)
  refine ⟨_, _, pre0 _ (go171 _ ?_), hrun, hended, _, _, rfl, ?_, ⟨_, rfl⟩, hW, hsame.mono (by decide) (by decide)⟩
  · exact retN X169 hx (t := .boolean) Bd.returns (by simp) (hb hby d2_19) hr
  · show Q2o Z aL aA o1 h0 n0 _ T169.heap _
    rw [e169]
    exact ⟨rfl, N0, rfl⟩
theorem d3_0 : decode prog_17_method_4_code 0 = .ok (.aload_n 0, 1) := by decide +kernel
theorem d3_1 : decode prog_17_method_4_code 1 = .ok (.getfield 35, 3) := by decide +kernel
theorem d3_4 : decode prog_17_method_4_code 4 = .ok (.areturn, 1) := by decide +kernel
theorem ef3 (m : MethodId) (x0 : Addr) : entryFrame m #[(.ref x0)] 1 = mkF m 0 #[.val (.ref x0)] [] := by first | (simp [entryFrame, mkF, argsToLocals, Value.category]; done) | rfl
def Q3 (Z : State) (o1 : Addr) (o2 : Addr) (h0 : Heap) (n0 : Nat) (v : Option Value) (h : Heap) (L : List Loc) : Prop := v = some (.ref o2) ∧ Fr n0 L ∧ h = h0
set_option maxRecDepth 65536 in
set_option maxHeartbeats 40000000 in
theorem rm3 (l : Launch) (Z : State) (a0 : Array Value) (hw : ∀ d ∈ tables_1, d.before a0 Z = true) (ws : List Jvm.Cond) (o1 : Addr) (o2 : Addr) (h0 : Heap) (n0 : Nat) (Z0 : n0 ≤ h0.size) (F1 : Fld Z h0 o1 "com/example/brancher/brancher/model/Comparison" "symbol" "Ljava/lang/String;" (.ref o2)) :
    MetFree l (⟨"com/example/brancher/brancher/model/Comparison", "symbol", "()Ljava/lang/String;"⟩ : MethodName) (head1 (Jvm.Cond.code (⟨"com/example/brancher/brancher/model/Comparison", "symbol", "()Ljava/lang/String;"⟩ : MethodName) prog_17_method_4_code 1 (some (.object "java/lang/String")) :: ws) ({ frames := 0, cells := 0, slots := 0, locals := 0 } : Room)) (fun aa UU => aa = #[(.ref o1)] ∧ Z.Warmed39 UU.vm ∧ UU.heap = h0) (fun _ _ _ _ _ => True) (fun _ UU oo UU' => ∃ vv LL, oo = .returned vv ∧ Q3 Z o1 o2 h0 n0 vv UU'.heap LL ∧ FrameEnd UU oo UU' LL ({ frames := 0, cells := 0, slots := 0, locals := 0 } : Room).cells ({ frames := 0, cells := 0, slots := 0, locals := 0 } : Room).slots) := by
  have W : ∀ {d : Jvm.Cond} (i : Nat), tables_1[i]? = some d → d.before a0 Z = true := fun i h => hw _ (List.mem_of_getElem? h)
  refine MetFree.of_bodySF (plainFor_of_name pn61) hisR ?_
  intro p e s m args below meth c s₁ Bd hml0 hP hK
  obtain ⟨rfl, hZ, hh⟩ := hP
  have hx := Bd.exec
  have hby := Bd.bytes
  have hml : c.maxLocals = 1 := hml0
  have hown : s.vm.findClass "com/example/brancher/brancher/model/Comparison" = some m.cls := findClass_of_methodNamed Bd.named
  have hnm := (name_of_methodNamed Bd.named Bd.method).1
  have X0 : Stand p l e ({ frames := 0, cells := 0, slots := 0, locals := 0 } : Room) s m #[(.ref o1)] below meth c s₁ [] 0 0 := Stand.of_body Bd
  have e0 : s₁.heap = h0 := by rw [← hh, Bd.state]; rfl
  have N0 := Fr.nil n0
  have pre0 : ∀ tt, Steps p.tables e below (s₁.setTop (mkF m 0 #[rv o1] [])) tt → Steps p.tables e below (s₁.setTop (entryFrame m #[(.ref o1)] 1)) tt := fun tt kt => castTop (ef3 m o1) kt
  obtain ⟨ST, hST⟩ : ∃ z : State, z = s₁.setTop (mkF m 0 #[rv o1] []) := ⟨_, rfl⟩
  rw [← hST] at pre0
  have go172 : own_S p e below ST s₁ (mkF m 1 #[rv o1] [(.ref o1)]) := fun tt kt => (by
      rw [hST]
      show Steps p.tables e below (s₁.setTop (mkF m 0 #[rv o1] [])) _
      refine XS.aloadN X0.here hx rfl (hb hby d3_0) rfl rfl ?_
      exact kt)
  obtain ⟨T173, X173, e173, st173⟩ := getF X0 hx hZ hown (host := "") (Or.inl (W 18 rfl)) Via.refl e0 F1 (g := (mkF m 1 #[rv o1] [(.ref o1)])) rfl rfl (hb hby d3_1)
  have go174 : own_S p e below ST T173 (mkF m 4 #[rv o1] [(.ref o2)]) := fun tt kt => go172 tt (st173 _ kt)
  obtain ⟨fs, hr, hrun, hended, hW, hsame⟩ := X173.leave (v := some (.ref o2)) (fun h => by rw [Bd.returns] at h; cases h)
  refine ⟨_, _, pre0 _ (go174 _ ?_), hrun, hended, _, _, rfl, ?_, ⟨_, rfl⟩, hW, hsame.mono (by decide) (by decide)⟩
  · exact retOut X173 hx Bd.returns rfl (Or.inr (Or.inr (Or.inr (Or.inr ⟨rfl, rfl, rfl⟩)))) (hb hby d3_4) hr
  · show Q3 Z o1 o2 h0 n0 _ T173.heap _
    rw [e173]
    exact ⟨rfl, N0, rfl⟩
theorem pn75 : plainName "java/lang/Enum" = true := by first | (simp [plainName, overriddenIn]; done) | decide +kernel
theorem d12_0 : decode jdk_37_method_2_code 0 = .ok (.aload_n 0, 1) := by decide +kernel
theorem d12_1 : decode jdk_37_method_2_code 1 = .ok (.getfield 7, 3) := by decide +kernel
theorem d12_4 : decode jdk_37_method_2_code 4 = .ok (.ireturn, 1) := by decide +kernel
theorem ef12 (m : MethodId) (x0 : Addr) : entryFrame m #[(.ref x0)] 1 = mkF m 0 #[.val (.ref x0)] [] := by first | (simp [entryFrame, mkF, argsToLocals, Value.category]; done) | rfl
def Q12 (Z : State) (o1 : Addr) (i1 : Int32) (h0 : Heap) (n0 : Nat) (v : Option Value) (h : Heap) (L : List Loc) : Prop := v = some (.int i1) ∧ Fr n0 L ∧ h = h0
set_option maxRecDepth 65536 in
set_option maxHeartbeats 40000000 in
theorem rm12 (l : Launch) (Z : State) (a0 : Array Value) (hw : ∀ d ∈ tables_1, d.before a0 Z = true) (ws : List Jvm.Cond) (o1 : Addr) (i1 : Int32) (h0 : Heap) (n0 : Nat) (Z0 : n0 ≤ h0.size) (F1 : Fld Z h0 o1 "java/lang/Enum" "ordinal" "I" (.int i1)) :
    MetFree l (⟨"java/lang/Enum", "ordinal", "()I"⟩ : MethodName) (head1 (Jvm.Cond.code (⟨"java/lang/Enum", "ordinal", "()I"⟩ : MethodName) jdk_37_method_2_code 1 (some .int) :: ws) ({ frames := 0, cells := 0, slots := 0, locals := 0 } : Room)) (fun aa UU => aa = #[(.ref o1)] ∧ Z.Warmed39 UU.vm ∧ UU.heap = h0) (fun _ _ _ _ _ => True) (fun _ UU oo UU' => ∃ vv LL, oo = .returned vv ∧ Q12 Z o1 i1 h0 n0 vv UU'.heap LL ∧ FrameEnd UU oo UU' LL ({ frames := 0, cells := 0, slots := 0, locals := 0 } : Room).cells ({ frames := 0, cells := 0, slots := 0, locals := 0 } : Room).slots) := by
  have W : ∀ {d : Jvm.Cond} (i : Nat), tables_1[i]? = some d → d.before a0 Z = true := fun i h => hw _ (List.mem_of_getElem? h)
  refine MetFree.of_bodySF (plainFor_of_name pn75) hisR ?_
  intro p e s m args below meth c s₁ Bd hml0 hP hK
  obtain ⟨rfl, hZ, hh⟩ := hP
  have hx := Bd.exec
  have hby := Bd.bytes
  have hml : c.maxLocals = 1 := hml0
  have hown : s.vm.findClass "java/lang/Enum" = some m.cls := findClass_of_methodNamed Bd.named
  have hnm := (name_of_methodNamed Bd.named Bd.method).1
  have X0 : Stand p l e ({ frames := 0, cells := 0, slots := 0, locals := 0 } : Room) s m #[(.ref o1)] below meth c s₁ [] 0 0 := Stand.of_body Bd
  have e0 : s₁.heap = h0 := by rw [← hh, Bd.state]; rfl
  have N0 := Fr.nil n0
  have pre0 : ∀ tt, Steps p.tables e below (s₁.setTop (mkF m 0 #[rv o1] [])) tt → Steps p.tables e below (s₁.setTop (entryFrame m #[(.ref o1)] 1)) tt := fun tt kt => castTop (ef12 m o1) kt
  obtain ⟨ST, hST⟩ : ∃ z : State, z = s₁.setTop (mkF m 0 #[rv o1] []) := ⟨_, rfl⟩
  rw [← hST] at pre0
  have go175 : own_S p e below ST s₁ (mkF m 1 #[rv o1] [(.ref o1)]) := fun tt kt => (by
      rw [hST]
      show Steps p.tables e below (s₁.setTop (mkF m 0 #[rv o1] [])) _
      refine XS.aloadN X0.here hx rfl (hb hby d12_0) rfl rfl ?_
      exact kt)
  obtain ⟨T176, X176, e176, st176⟩ := getF X0 hx hZ hown (host := "") (Or.inl (W 70 rfl)) Via.refl e0 F1 (g := (mkF m 1 #[rv o1] [(.ref o1)])) rfl rfl (hb hby d12_1)
  have go177 : own_S p e below ST T176 (mkF m 4 #[rv o1] [(.int i1)]) := fun tt kt => go175 tt (st176 _ kt)
  obtain ⟨fs, hr, hrun, hended, hW, hsame⟩ := X176.leave (v := some (.int i1)) (fun h => by rw [Bd.returns] at h; cases h)
  refine ⟨_, _, pre0 _ (go177 _ ?_), hrun, hended, _, _, rfl, ?_, ⟨_, rfl⟩, hW, hsame.mono (by decide) (by decide)⟩
  · exact retI X176 hx Bd.returns (hb hby d12_4) hr
  · show Q12 Z o1 i1 h0 n0 _ T176.heap _
    rw [e176]
    exact ⟨rfl, N0, rfl⟩
theorem d11_0 : decode prog_17_method_7_code 0 = .ok (.aload_n 0, 1) := by decide +kernel
theorem d11_1 : decode prog_17_method_7_code 1 = .ok (.invokevirtual 45, 3) := by decide +kernel
theorem pd81 : parseMethodDescriptor "()I" = some ⟨[], some .int⟩ := by decide +kernel
theorem d11_4 : decode prog_17_method_7_code 4 = .ok (.tableswitch 32 0 3 #[42, 48, 54, 60], 32) := by decide +kernel
theorem d11_46 : decode prog_17_method_7_code 46 = .ok (.getstatic 13, 3) := by decide +kernel
theorem d11_49 : decode prog_17_method_7_code 49 = .ok (.goto 18, 3) := by decide +kernel
theorem d11_67 : decode prog_17_method_7_code 67 = .ok (.areturn, 1) := by decide +kernel
theorem ef11k0 (m : MethodId) (x0 : Addr) : entryFrame m #[(.ref x0)] 1 = mkF m 0 #[.val (.ref x0)] [] := by first | (simp [entryFrame, mkF, argsToLocals, Value.category]; done) | rfl
def Q11k0 (Z : State) (o1 : Addr) (aB : Addr) (h0 : Heap) (n0 : Nat) (v : Option Value) (h : Heap) (L : List Loc) : Prop := v = some (.ref aB) ∧ Fr n0 L ∧ h = h0
set_option maxRecDepth 65536 in
set_option maxHeartbeats 40000000 in
theorem rm11k0 (l : Launch) (Z : State) (a0 : Array Value) (hw : ∀ d ∈ tables_1, d.before a0 Z = true) (ws : List Jvm.Cond) (o1 : Addr) (aB : Addr) (h0 : Heap) (n0 : Nat) (Z0 : n0 ≤ h0.size) (F1 : Fld Z h0 o1 "java/lang/Enum" "ordinal" "I" (.int (0 : Int32))) (E1 : Exa Z h0 o1 "com/example/brancher/brancher/model/Comparison") (SaB : Sta Z h0 "com/example/brancher/brancher/model/Comparison" "BELOW" "Lcom/example/brancher/brancher/model/Comparison;" (.ref aB)) :
    MetFree l (⟨"com/example/brancher/brancher/model/Comparison", "negated", "()Lcom/example/brancher/brancher/model/Comparison;"⟩ : MethodName) (head1 (Jvm.Cond.code (⟨"com/example/brancher/brancher/model/Comparison", "negated", "()Lcom/example/brancher/brancher/model/Comparison;"⟩ : MethodName) prog_17_method_7_code 1 (some (.object "com/example/brancher/brancher/model/Comparison")) :: ws) ({ frames := 1, cells := 0, slots := 0, locals := 12 } : Room)) (fun aa UU => aa = #[(.ref o1)] ∧ Z.Warmed39 UU.vm ∧ UU.heap = h0) (fun _ _ _ _ _ => True) (fun _ UU oo UU' => ∃ vv LL, oo = .returned vv ∧ Q11k0 Z o1 aB h0 n0 vv UU'.heap LL ∧ FrameEnd UU oo UU' LL ({ frames := 1, cells := 0, slots := 0, locals := 12 } : Room).cells ({ frames := 1, cells := 0, slots := 0, locals := 12 } : Room).slots) := by
  have W : ∀ {d : Jvm.Cond} (i : Nat), tables_1[i]? = some d → d.before a0 Z = true := fun i h => hw _ (List.mem_of_getElem? h)
  refine MetFree.of_bodySF (plainFor_of_name pn61) hisR ?_
  intro p e s m args below meth c s₁ Bd hml0 hP hK
  obtain ⟨rfl, hZ, hh⟩ := hP
  have hx := Bd.exec
  have hby := Bd.bytes
  have hml : c.maxLocals = 1 := hml0
  have hown : s.vm.findClass "com/example/brancher/brancher/model/Comparison" = some m.cls := findClass_of_methodNamed Bd.named
  have hnm := (name_of_methodNamed Bd.named Bd.method).1
  have X0 : Stand p l e ({ frames := 1, cells := 0, slots := 0, locals := 12 } : Room) s m #[(.ref o1)] below meth c s₁ [] 0 0 := Stand.of_body Bd
  have e0 : s₁.heap = h0 := by rw [← hh, Bd.state]; rfl
  have N0 := Fr.nil n0
  have pre0 : ∀ tt, Steps p.tables e below (s₁.setTop (mkF m 0 #[rv o1] [])) tt → Steps p.tables e below (s₁.setTop (entryFrame m #[(.ref o1)] 1)) tt := fun tt kt => castTop (ef11k0 m o1) kt
  obtain ⟨ST, hST⟩ : ∃ z : State, z = s₁.setTop (mkF m 0 #[rv o1] []) := ⟨_, rfl⟩
  rw [← hST] at pre0
  have go178 : own_S p e below ST s₁ (mkF m 1 #[rv o1] [(.ref o1)]) := fun tt kt => (by
      rw [hST]
      show Steps p.tables e below (s₁.setTop (mkF m 0 #[rv o1] [])) _
      refine XS.aloadN X0.here hx rfl (hb hby d11_0) rfl rfl ?_
      exact kt)
  obtain ⟨cq179, kq179, q179a, q179b, q179c⟩ := isOf hZ e0 E1
  obtain ⟨_, _, ⟨T179, L179, k179, n179⟩, -, X179, ⟨Lc179, hQ179, l179, y179, z179⟩, st179⟩ := X0.virtualBackUp hx (x := (⟨"com/example/brancher/brancher/model/Comparison", "ordinal", "()I"⟩ : MethodName)) (y := (⟨"java/lang/Enum", "ordinal", "()I"⟩ : MethodName)) (owner := "java/lang/Enum") hown (mvT hZ (W 63 rfl)) (mvT hZ (W 64 rfl)) (mvT hZ (W 65 rfl)) (by decide) (mvT hZ (W 67 rfl)) (mvT hZ (W 66 rfl)) (backOf (W := 0) (rm12 l Z a0 hw [] o1 (0 : Int32) h0 n0 Z0 F1) hZ (W 69 rfl) (W 68 rfl) (by decide) (by decide)) q179a q179c (g := (mkF m 1 #[rv o1] [(.ref o1)])) rfl (by rw [hml]; rfl) (Steps.refl _) (argsL := []) (rest := []) (lenOf pd81 rfl) rfl (by show 2 * 0 + _ ≤ _; exact Nat.le_of_eq rfl) (hb hby d11_1) (fun _ _ => ⟨rfl, e0, (by decide : 0 + 0 ≤ _), (by decide : 0 + 0 ≤ _)⟩)
  dsimp only [Pt.U, Pt.locs, Pt.cells, Pt.slots] at X179 l179 y179 z179 st179 hQ179
  subst l179 y179 z179
  obtain ⟨rfl, Nq179, eh179⟩ := hQ179
  have N179 := Fr.app N0 Nq179
  have go180 : own_S p e below ST T179 (mkF m 4 #[rv o1] [(.int (0 : Int32))]) := fun tt kt => go178 tt (st179.trans kt)
  have go181 : own_S p e below ST T179 (mkF m 46 #[rv o1] []) := fun tt kt => go180 tt (by
      refine XS.tswIn X179.here hx rfl (pc0 := 4) (pc' := 46) rfl (hb hby d11_4) rfl (o := 42) (by decide) rfl (by decide) (by decide) ?_
      exact kt)
  obtain ⟨T182, X182, e182, st182⟩ := getS2 X179 hx hZ hown (host := "") (Or.inl (W 72 rfl)) Via.refl eh179 SaB (g := (mkF m 46 #[rv o1] [])) rfl (hb hby d11_46)
  have go183 : own_S p e below ST T182 (mkF m 49 #[rv o1] [(.ref aB)]) := fun tt kt => go181 tt (st182 _ kt)
  have go184 : own_S p e below ST T182 (mkF m 67 #[rv o1] [(.ref aB)]) := fun tt kt => go183 tt (by
      refine XS.goto X182.here hx rfl (pc0 := 49) (pc' := 67) rfl (hb hby d11_49) (by decide) (by decide) ?_
      exact kt)
  obtain ⟨fs, hr, hrun, hended, hW, hsame⟩ := X182.leave (v := some (.ref aB)) (fun h => by rw [Bd.returns] at h; cases h)
  refine ⟨_, _, pre0 _ (go184 _ ?_), hrun, hended, _, _, rfl, ?_, ⟨_, rfl⟩, hW, hsame.mono (by decide) (by decide)⟩
  · exact retOut X182 hx Bd.returns rfl (Or.inr (Or.inr (Or.inr (Or.inr ⟨rfl, rfl, rfl⟩)))) (hb hby d11_67) hr
  · show Q11k0 Z o1 aB h0 n0 _ T182.heap _
    rw [e182]
    exact ⟨rfl, N179, rfl⟩
theorem pn86 : plainName "com/example/brancher/brancher/model/ComparisonIsLowerPinLaw" = true := by first | (simp [plainName, overriddenIn]; done) | decide +kernel
theorem d1_0 : decode method_2_code 0 = .ok (.iload_n 0, 1) := by decide +kernel
theorem d1_1 : decode method_2_code 1 = .ok (.iconst 3, 1) := by decide +kernel
theorem d1_2 : decode method_2_code 2 = .ok (.iand, 1) := by decide +kernel
theorem d1_3 : decode method_2_code 3 = .ok (.istore_n 1, 1) := by decide +kernel
theorem d1_4 : decode method_2_code 4 = .ok (.iload_n 1, 1) := by decide +kernel
theorem d1_5 : decode method_2_code 5 = .ok (.ifCond .ne 7, 3) := by decide +kernel
theorem d1_8 : decode method_2_code 8 = .ok (.getstatic 7, 3) := by decide +kernel
theorem d1_11 : decode method_2_code 11 = .ok (.areturn, 1) := by decide +kernel
theorem ef1k0 (m : MethodId) (x0 : Int32) : entryFrame m #[(.int x0)] 2 = mkF m 0 #[.val (.int x0), .unset] [] := by first | (simp [entryFrame, mkF, argsToLocals, Value.category]; done) | rfl
def Q1k0 (Z : State) (p0 : Int32) (aL : Addr) (h0 : Heap) (n0 : Nat) (v : Option Value) (h : Heap) (L : List Loc) : Prop := v = some (.ref aL) ∧ Fr n0 L ∧ h = h0
set_option maxRecDepth 65536 in
set_option maxHeartbeats 40000000 in
theorem rm1k0 (l : Launch) (Z : State) (a0 : Array Value) (hw : ∀ d ∈ tables_1, d.before a0 Z = true) (ws : List Jvm.Cond) (p0 : Int32) (aL : Addr) (h0 : Heap) (n0 : Nat) (Z0 : n0 ≤ h0.size) (hk : p0 &&& 3 = 0) (SaL : Sta Z h0 "com/example/brancher/brancher/model/Comparison" "AT_LEAST" "Lcom/example/brancher/brancher/model/Comparison;" (.ref aL)) :
    MetFree l (⟨"com/example/brancher/brancher/model/ComparisonIsLowerPinLaw", "pick", "(I)Lcom/example/brancher/brancher/model/Comparison;"⟩ : MethodName) (head1 (Jvm.Cond.code (⟨"com/example/brancher/brancher/model/ComparisonIsLowerPinLaw", "pick", "(I)Lcom/example/brancher/brancher/model/Comparison;"⟩ : MethodName) method_2_code 2 (some (.object "com/example/brancher/brancher/model/Comparison")) :: ws) ({ frames := 0, cells := 0, slots := 0, locals := 0 } : Room)) (fun aa UU => aa = #[(.int p0)] ∧ Z.Warmed39 UU.vm ∧ UU.heap = h0) (fun _ _ _ _ _ => True) (fun _ UU oo UU' => ∃ vv LL, oo = .returned vv ∧ Q1k0 Z p0 aL h0 n0 vv UU'.heap LL ∧ FrameEnd UU oo UU' LL ({ frames := 0, cells := 0, slots := 0, locals := 0 } : Room).cells ({ frames := 0, cells := 0, slots := 0, locals := 0 } : Room).slots) := by
  have W : ∀ {d : Jvm.Cond} (i : Nat), tables_1[i]? = some d → d.before a0 Z = true := fun i h => hw _ (List.mem_of_getElem? h)
  refine MetFree.of_bodySF (plainFor_of_name pn86) hisR ?_
  intro p e s m args below meth c s₁ Bd hml0 hP hK
  obtain ⟨rfl, hZ, hh⟩ := hP
  have hx := Bd.exec
  have hby := Bd.bytes
  have hml : c.maxLocals = 2 := hml0
  have hown : s.vm.findClass "com/example/brancher/brancher/model/ComparisonIsLowerPinLaw" = some m.cls := findClass_of_methodNamed Bd.named
  have hnm := (name_of_methodNamed Bd.named Bd.method).1
  have X0 : Stand p l e ({ frames := 0, cells := 0, slots := 0, locals := 0 } : Room) s m #[(.int p0)] below meth c s₁ [] 0 0 := Stand.of_body Bd
  have e0 : s₁.heap = h0 := by rw [← hh, Bd.state]; rfl
  have N0 := Fr.nil n0
  have pre0 : ∀ tt, Steps p.tables e below (s₁.setTop (mkF m 0 #[iv p0, .unset] [])) tt → Steps p.tables e below (s₁.setTop (entryFrame m #[(.int p0)] 2)) tt := fun tt kt => castTop (ef1k0 m p0) kt
  obtain ⟨ST, hST⟩ : ∃ z : State, z = s₁.setTop (mkF m 0 #[iv p0, .unset] []) := ⟨_, rfl⟩
  rw [← hST] at pre0
  have go185 : own_S p e below ST s₁ (mkF m 8 #[iv p0, iv (p0 &&& (3 : Int32))] []) := fun tt kt => (by
      rw [hST]
      show Steps p.tables e below (s₁.setTop (mkF m 0 #[iv p0, .unset] [])) _
      refine XS.iloadN X0.here hx rfl (hb hby d1_0) rfl ?_
      refine XS.iconst X0.here hx rfl (hb hby d1_1) ?_
      refine XS.iand X0.here hx rfl (hb hby d1_2) rfl ?_
      refine XS.istoreN X0.here hx rfl (hb hby d1_3) rfl (l' := #[iv p0, iv (p0 &&& (3 : Int32))]) rfl ?_
      refine XS.iloadN X0.here hx rfl (hb hby d1_4) rfl ?_
      refine XS.ifNo X0.here hx rfl (hb hby d1_5) rfl ((if0 _ _).trans (teq hk).2) ?_
      exact kt)
  obtain ⟨T186, X186, e186, st186⟩ := getS2 X0 hx hZ hown (host := "") (Or.inl (W 4 rfl)) Via.refl e0 SaL (g := (mkF m 8 #[iv p0, iv (p0 &&& (3 : Int32))] [])) rfl (hb hby d1_8)
  have go187 : own_S p e below ST T186 (mkF m 11 #[iv p0, iv (p0 &&& (3 : Int32))] [(.ref aL)]) := fun tt kt => go185 tt (st186 _ kt)
  obtain ⟨fs, hr, hrun, hended, hW, hsame⟩ := X186.leave (v := some (.ref aL)) (fun h => by rw [Bd.returns] at h; cases h)
  refine ⟨_, _, pre0 _ (go187 _ ?_), hrun, hended, _, _, rfl, ?_, ⟨_, rfl⟩, hW, hsame.mono (by decide) (by decide)⟩
  · exact retOut X186 hx Bd.returns rfl (Or.inr (Or.inr (Or.inr (Or.inr ⟨rfl, rfl, rfl⟩)))) (hb hby d1_11) hr
  · show Q1k0 Z p0 aL h0 n0 _ T186.heap _
    rw [e186]
    exact ⟨rfl, N0, rfl⟩
theorem d11_52 : decode prog_17_method_7_code 52 = .ok (.getstatic 10, 3) := by decide +kernel
theorem d11_55 : decode prog_17_method_7_code 55 = .ok (.goto 12, 3) := by decide +kernel
theorem ef11k1 (m : MethodId) (x0 : Addr) : entryFrame m #[(.ref x0)] 1 = mkF m 0 #[.val (.ref x0)] [] := by first | (simp [entryFrame, mkF, argsToLocals, Value.category]; done) | rfl
def Q11k1 (Z : State) (o1 : Addr) (aM : Addr) (h0 : Heap) (n0 : Nat) (v : Option Value) (h : Heap) (L : List Loc) : Prop := v = some (.ref aM) ∧ Fr n0 L ∧ h = h0
set_option maxRecDepth 65536 in
set_option maxHeartbeats 40000000 in
theorem rm11k1 (l : Launch) (Z : State) (a0 : Array Value) (hw : ∀ d ∈ tables_1, d.before a0 Z = true) (ws : List Jvm.Cond) (o1 : Addr) (aM : Addr) (h0 : Heap) (n0 : Nat) (Z0 : n0 ≤ h0.size) (F1 : Fld Z h0 o1 "java/lang/Enum" "ordinal" "I" (.int (1 : Int32))) (E1 : Exa Z h0 o1 "com/example/brancher/brancher/model/Comparison") (SaM : Sta Z h0 "com/example/brancher/brancher/model/Comparison" "AT_MOST" "Lcom/example/brancher/brancher/model/Comparison;" (.ref aM)) :
    MetFree l (⟨"com/example/brancher/brancher/model/Comparison", "negated", "()Lcom/example/brancher/brancher/model/Comparison;"⟩ : MethodName) (head1 (Jvm.Cond.code (⟨"com/example/brancher/brancher/model/Comparison", "negated", "()Lcom/example/brancher/brancher/model/Comparison;"⟩ : MethodName) prog_17_method_7_code 1 (some (.object "com/example/brancher/brancher/model/Comparison")) :: ws) ({ frames := 1, cells := 0, slots := 0, locals := 12 } : Room)) (fun aa UU => aa = #[(.ref o1)] ∧ Z.Warmed39 UU.vm ∧ UU.heap = h0) (fun _ _ _ _ _ => True) (fun _ UU oo UU' => ∃ vv LL, oo = .returned vv ∧ Q11k1 Z o1 aM h0 n0 vv UU'.heap LL ∧ FrameEnd UU oo UU' LL ({ frames := 1, cells := 0, slots := 0, locals := 12 } : Room).cells ({ frames := 1, cells := 0, slots := 0, locals := 12 } : Room).slots) := by
  have W : ∀ {d : Jvm.Cond} (i : Nat), tables_1[i]? = some d → d.before a0 Z = true := fun i h => hw _ (List.mem_of_getElem? h)
  refine MetFree.of_bodySF (plainFor_of_name pn61) hisR ?_
  intro p e s m args below meth c s₁ Bd hml0 hP hK
  obtain ⟨rfl, hZ, hh⟩ := hP
  have hx := Bd.exec
  have hby := Bd.bytes
  have hml : c.maxLocals = 1 := hml0
  have hown : s.vm.findClass "com/example/brancher/brancher/model/Comparison" = some m.cls := findClass_of_methodNamed Bd.named
  have hnm := (name_of_methodNamed Bd.named Bd.method).1
  have X0 : Stand p l e ({ frames := 1, cells := 0, slots := 0, locals := 12 } : Room) s m #[(.ref o1)] below meth c s₁ [] 0 0 := Stand.of_body Bd
  have e0 : s₁.heap = h0 := by rw [← hh, Bd.state]; rfl
  have N0 := Fr.nil n0
  have pre0 : ∀ tt, Steps p.tables e below (s₁.setTop (mkF m 0 #[rv o1] [])) tt → Steps p.tables e below (s₁.setTop (entryFrame m #[(.ref o1)] 1)) tt := fun tt kt => castTop (ef11k1 m o1) kt
  obtain ⟨ST, hST⟩ : ∃ z : State, z = s₁.setTop (mkF m 0 #[rv o1] []) := ⟨_, rfl⟩
  rw [← hST] at pre0
  have go188 : own_S p e below ST s₁ (mkF m 1 #[rv o1] [(.ref o1)]) := fun tt kt => (by
      rw [hST]
      show Steps p.tables e below (s₁.setTop (mkF m 0 #[rv o1] [])) _
      refine XS.aloadN X0.here hx rfl (hb hby d11_0) rfl rfl ?_
      exact kt)
  obtain ⟨cq189, kq189, q189a, q189b, q189c⟩ := isOf hZ e0 E1
  obtain ⟨_, _, ⟨T189, L189, k189, n189⟩, -, X189, ⟨Lc189, hQ189, l189, y189, z189⟩, st189⟩ := X0.virtualBackUp hx (x := (⟨"com/example/brancher/brancher/model/Comparison", "ordinal", "()I"⟩ : MethodName)) (y := (⟨"java/lang/Enum", "ordinal", "()I"⟩ : MethodName)) (owner := "java/lang/Enum") hown (mvT hZ (W 63 rfl)) (mvT hZ (W 64 rfl)) (mvT hZ (W 65 rfl)) (by decide) (mvT hZ (W 67 rfl)) (mvT hZ (W 66 rfl)) (backOf (W := 0) (rm12 l Z a0 hw [] o1 (1 : Int32) h0 n0 Z0 F1) hZ (W 69 rfl) (W 68 rfl) (by decide) (by decide)) q189a q189c (g := (mkF m 1 #[rv o1] [(.ref o1)])) rfl (by rw [hml]; rfl) (Steps.refl _) (argsL := []) (rest := []) (lenOf pd81 rfl) rfl (by show 2 * 0 + _ ≤ _; exact Nat.le_of_eq rfl) (hb hby d11_1) (fun _ _ => ⟨rfl, e0, (by decide : 0 + 0 ≤ _), (by decide : 0 + 0 ≤ _)⟩)
  dsimp only [Pt.U, Pt.locs, Pt.cells, Pt.slots] at X189 l189 y189 z189 st189 hQ189
  subst l189 y189 z189
  obtain ⟨rfl, Nq189, eh189⟩ := hQ189
  have N189 := Fr.app N0 Nq189
  have go190 : own_S p e below ST T189 (mkF m 4 #[rv o1] [(.int (1 : Int32))]) := fun tt kt => go188 tt (st189.trans kt)
  have go191 : own_S p e below ST T189 (mkF m 52 #[rv o1] []) := fun tt kt => go190 tt (by
      refine XS.tswIn X189.here hx rfl (pc0 := 4) (pc' := 52) rfl (hb hby d11_4) rfl (o := 48) (by decide) rfl (by decide) (by decide) ?_
      exact kt)
  obtain ⟨T192, X192, e192, st192⟩ := getS2 X189 hx hZ hown (host := "") (Or.inl (W 80 rfl)) Via.refl eh189 SaM (g := (mkF m 52 #[rv o1] [])) rfl (hb hby d11_52)
  have go193 : own_S p e below ST T192 (mkF m 55 #[rv o1] [(.ref aM)]) := fun tt kt => go191 tt (st192 _ kt)
  have go194 : own_S p e below ST T192 (mkF m 67 #[rv o1] [(.ref aM)]) := fun tt kt => go193 tt (by
      refine XS.goto X192.here hx rfl (pc0 := 55) (pc' := 67) rfl (hb hby d11_55) (by decide) (by decide) ?_
      exact kt)
  obtain ⟨fs, hr, hrun, hended, hW, hsame⟩ := X192.leave (v := some (.ref aM)) (fun h => by rw [Bd.returns] at h; cases h)
  refine ⟨_, _, pre0 _ (go194 _ ?_), hrun, hended, _, _, rfl, ?_, ⟨_, rfl⟩, hW, hsame.mono (by decide) (by decide)⟩
  · exact retOut X192 hx Bd.returns rfl (Or.inr (Or.inr (Or.inr (Or.inr ⟨rfl, rfl, rfl⟩)))) (hb hby d11_67) hr
  · show Q11k1 Z o1 aM h0 n0 _ T192.heap _
    rw [e192]
    exact ⟨rfl, N189, rfl⟩
theorem d1_12 : decode method_2_code 12 = .ok (.iload_n 1, 1) := by decide +kernel
theorem d1_13 : decode method_2_code 13 = .ok (.iconst 1, 1) := by decide +kernel
theorem d1_14 : decode method_2_code 14 = .ok (.if_icmp .ne 7, 3) := by decide +kernel
theorem d1_17 : decode method_2_code 17 = .ok (.getstatic 13, 3) := by decide +kernel
theorem d1_20 : decode method_2_code 20 = .ok (.areturn, 1) := by decide +kernel
theorem ef1k1 (m : MethodId) (x0 : Int32) : entryFrame m #[(.int x0)] 2 = mkF m 0 #[.val (.int x0), .unset] [] := by first | (simp [entryFrame, mkF, argsToLocals, Value.category]; done) | rfl
def Q1k1 (Z : State) (p0 : Int32) (aA : Addr) (h0 : Heap) (n0 : Nat) (v : Option Value) (h : Heap) (L : List Loc) : Prop := v = some (.ref aA) ∧ Fr n0 L ∧ h = h0
set_option maxRecDepth 65536 in
set_option maxHeartbeats 40000000 in
theorem rm1k1 (l : Launch) (Z : State) (a0 : Array Value) (hw : ∀ d ∈ tables_1, d.before a0 Z = true) (ws : List Jvm.Cond) (p0 : Int32) (aA : Addr) (h0 : Heap) (n0 : Nat) (Z0 : n0 ≤ h0.size) (hk : p0 &&& 3 = 1) (SaA : Sta Z h0 "com/example/brancher/brancher/model/Comparison" "ABOVE" "Lcom/example/brancher/brancher/model/Comparison;" (.ref aA)) :
    MetFree l (⟨"com/example/brancher/brancher/model/ComparisonIsLowerPinLaw", "pick", "(I)Lcom/example/brancher/brancher/model/Comparison;"⟩ : MethodName) (head1 (Jvm.Cond.code (⟨"com/example/brancher/brancher/model/ComparisonIsLowerPinLaw", "pick", "(I)Lcom/example/brancher/brancher/model/Comparison;"⟩ : MethodName) method_2_code 2 (some (.object "com/example/brancher/brancher/model/Comparison")) :: ws) ({ frames := 0, cells := 0, slots := 0, locals := 0 } : Room)) (fun aa UU => aa = #[(.int p0)] ∧ Z.Warmed39 UU.vm ∧ UU.heap = h0) (fun _ _ _ _ _ => True) (fun _ UU oo UU' => ∃ vv LL, oo = .returned vv ∧ Q1k1 Z p0 aA h0 n0 vv UU'.heap LL ∧ FrameEnd UU oo UU' LL ({ frames := 0, cells := 0, slots := 0, locals := 0 } : Room).cells ({ frames := 0, cells := 0, slots := 0, locals := 0 } : Room).slots) := by
  have W : ∀ {d : Jvm.Cond} (i : Nat), tables_1[i]? = some d → d.before a0 Z = true := fun i h => hw _ (List.mem_of_getElem? h)
  refine MetFree.of_bodySF (plainFor_of_name pn86) hisR ?_
  intro p e s m args below meth c s₁ Bd hml0 hP hK
  obtain ⟨rfl, hZ, hh⟩ := hP
  have hx := Bd.exec
  have hby := Bd.bytes
  have hml : c.maxLocals = 2 := hml0
  have hown : s.vm.findClass "com/example/brancher/brancher/model/ComparisonIsLowerPinLaw" = some m.cls := findClass_of_methodNamed Bd.named
  have hnm := (name_of_methodNamed Bd.named Bd.method).1
  have X0 : Stand p l e ({ frames := 0, cells := 0, slots := 0, locals := 0 } : Room) s m #[(.int p0)] below meth c s₁ [] 0 0 := Stand.of_body Bd
  have e0 : s₁.heap = h0 := by rw [← hh, Bd.state]; rfl
  have N0 := Fr.nil n0
  have pre0 : ∀ tt, Steps p.tables e below (s₁.setTop (mkF m 0 #[iv p0, .unset] [])) tt → Steps p.tables e below (s₁.setTop (entryFrame m #[(.int p0)] 2)) tt := fun tt kt => castTop (ef1k1 m p0) kt
  obtain ⟨ST, hST⟩ : ∃ z : State, z = s₁.setTop (mkF m 0 #[iv p0, .unset] []) := ⟨_, rfl⟩
  rw [← hST] at pre0
  have go195 : own_S p e below ST s₁ (mkF m 17 #[iv p0, iv (p0 &&& (3 : Int32))] []) := fun tt kt => (by
      rw [hST]
      show Steps p.tables e below (s₁.setTop (mkF m 0 #[iv p0, .unset] [])) _
      refine XS.iloadN X0.here hx rfl (hb hby d1_0) rfl ?_
      refine XS.iconst X0.here hx rfl (hb hby d1_1) ?_
      refine XS.iand X0.here hx rfl (hb hby d1_2) rfl ?_
      refine XS.istoreN X0.here hx rfl (hb hby d1_3) rfl (l' := #[iv p0, iv (p0 &&& (3 : Int32))]) rfl ?_
      refine XS.iloadN X0.here hx rfl (hb hby d1_4) rfl ?_
      refine XS.ifYes X0.here hx rfl (pc0 := 5) (pc' := 12) rfl (hb hby d1_5) rfl ((if0 _ _).trans (feq (fun q => absurd (hk.symm.trans q) (by decide))).2) (by decide) (by decide) ?_
      show Steps p.tables e below (s₁.setTop (mkF m 12 #[iv p0, iv (p0 &&& (3 : Int32))] [])) _
      refine XS.iloadN X0.here hx rfl (hb hby d1_12) rfl ?_
      refine XS.iconst X0.here hx rfl (hb hby d1_13) ?_
      refine XS.icmpNo X0.here hx rfl (hb hby d1_14) rfl (teq hk).2 ?_
      exact kt)
  obtain ⟨T196, X196, e196, st196⟩ := getS2 X0 hx hZ hown (host := "") (Or.inl (W 79 rfl)) Via.refl e0 SaA (g := (mkF m 17 #[iv p0, iv (p0 &&& (3 : Int32))] [])) rfl (hb hby d1_17)
  have go197 : own_S p e below ST T196 (mkF m 20 #[iv p0, iv (p0 &&& (3 : Int32))] [(.ref aA)]) := fun tt kt => go195 tt (st196 _ kt)
  obtain ⟨fs, hr, hrun, hended, hW, hsame⟩ := X196.leave (v := some (.ref aA)) (fun h => by rw [Bd.returns] at h; cases h)
  refine ⟨_, _, pre0 _ (go197 _ ?_), hrun, hended, _, _, rfl, ?_, ⟨_, rfl⟩, hW, hsame.mono (by decide) (by decide)⟩
  · exact retOut X196 hx Bd.returns rfl (Or.inr (Or.inr (Or.inr (Or.inr ⟨rfl, rfl, rfl⟩)))) (hb hby d1_20) hr
  · show Q1k1 Z p0 aA h0 n0 _ T196.heap _
    rw [e196]
    exact ⟨rfl, N0, rfl⟩
theorem d11_58 : decode prog_17_method_7_code 58 = .ok (.getstatic 7, 3) := by decide +kernel
theorem d11_61 : decode prog_17_method_7_code 61 = .ok (.goto 6, 3) := by decide +kernel
theorem ef11k2 (m : MethodId) (x0 : Addr) : entryFrame m #[(.ref x0)] 1 = mkF m 0 #[.val (.ref x0)] [] := by first | (simp [entryFrame, mkF, argsToLocals, Value.category]; done) | rfl
def Q11k2 (Z : State) (o1 : Addr) (aA : Addr) (h0 : Heap) (n0 : Nat) (v : Option Value) (h : Heap) (L : List Loc) : Prop := v = some (.ref aA) ∧ Fr n0 L ∧ h = h0
set_option maxRecDepth 65536 in
set_option maxHeartbeats 40000000 in
theorem rm11k2 (l : Launch) (Z : State) (a0 : Array Value) (hw : ∀ d ∈ tables_1, d.before a0 Z = true) (ws : List Jvm.Cond) (o1 : Addr) (aA : Addr) (h0 : Heap) (n0 : Nat) (Z0 : n0 ≤ h0.size) (F1 : Fld Z h0 o1 "java/lang/Enum" "ordinal" "I" (.int (2 : Int32))) (E1 : Exa Z h0 o1 "com/example/brancher/brancher/model/Comparison") (SaA : Sta Z h0 "com/example/brancher/brancher/model/Comparison" "ABOVE" "Lcom/example/brancher/brancher/model/Comparison;" (.ref aA)) :
    MetFree l (⟨"com/example/brancher/brancher/model/Comparison", "negated", "()Lcom/example/brancher/brancher/model/Comparison;"⟩ : MethodName) (head1 (Jvm.Cond.code (⟨"com/example/brancher/brancher/model/Comparison", "negated", "()Lcom/example/brancher/brancher/model/Comparison;"⟩ : MethodName) prog_17_method_7_code 1 (some (.object "com/example/brancher/brancher/model/Comparison")) :: ws) ({ frames := 1, cells := 0, slots := 0, locals := 12 } : Room)) (fun aa UU => aa = #[(.ref o1)] ∧ Z.Warmed39 UU.vm ∧ UU.heap = h0) (fun _ _ _ _ _ => True) (fun _ UU oo UU' => ∃ vv LL, oo = .returned vv ∧ Q11k2 Z o1 aA h0 n0 vv UU'.heap LL ∧ FrameEnd UU oo UU' LL ({ frames := 1, cells := 0, slots := 0, locals := 12 } : Room).cells ({ frames := 1, cells := 0, slots := 0, locals := 12 } : Room).slots) := by
  have W : ∀ {d : Jvm.Cond} (i : Nat), tables_1[i]? = some d → d.before a0 Z = true := fun i h => hw _ (List.mem_of_getElem? h)
  refine MetFree.of_bodySF (plainFor_of_name pn61) hisR ?_
  intro p e s m args below meth c s₁ Bd hml0 hP hK
  obtain ⟨rfl, hZ, hh⟩ := hP
  have hx := Bd.exec
  have hby := Bd.bytes
  have hml : c.maxLocals = 1 := hml0
  have hown : s.vm.findClass "com/example/brancher/brancher/model/Comparison" = some m.cls := findClass_of_methodNamed Bd.named
  have hnm := (name_of_methodNamed Bd.named Bd.method).1
  have X0 : Stand p l e ({ frames := 1, cells := 0, slots := 0, locals := 12 } : Room) s m #[(.ref o1)] below meth c s₁ [] 0 0 := Stand.of_body Bd
  have e0 : s₁.heap = h0 := by rw [← hh, Bd.state]; rfl
  have N0 := Fr.nil n0
  have pre0 : ∀ tt, Steps p.tables e below (s₁.setTop (mkF m 0 #[rv o1] [])) tt → Steps p.tables e below (s₁.setTop (entryFrame m #[(.ref o1)] 1)) tt := fun tt kt => castTop (ef11k2 m o1) kt
  obtain ⟨ST, hST⟩ : ∃ z : State, z = s₁.setTop (mkF m 0 #[rv o1] []) := ⟨_, rfl⟩
  rw [← hST] at pre0
  have go198 : own_S p e below ST s₁ (mkF m 1 #[rv o1] [(.ref o1)]) := fun tt kt => (by
      rw [hST]
      show Steps p.tables e below (s₁.setTop (mkF m 0 #[rv o1] [])) _
      refine XS.aloadN X0.here hx rfl (hb hby d11_0) rfl rfl ?_
      exact kt)
  obtain ⟨cq199, kq199, q199a, q199b, q199c⟩ := isOf hZ e0 E1
  obtain ⟨_, _, ⟨T199, L199, k199, n199⟩, -, X199, ⟨Lc199, hQ199, l199, y199, z199⟩, st199⟩ := X0.virtualBackUp hx (x := (⟨"com/example/brancher/brancher/model/Comparison", "ordinal", "()I"⟩ : MethodName)) (y := (⟨"java/lang/Enum", "ordinal", "()I"⟩ : MethodName)) (owner := "java/lang/Enum") hown (mvT hZ (W 63 rfl)) (mvT hZ (W 64 rfl)) (mvT hZ (W 65 rfl)) (by decide) (mvT hZ (W 67 rfl)) (mvT hZ (W 66 rfl)) (backOf (W := 0) (rm12 l Z a0 hw [] o1 (2 : Int32) h0 n0 Z0 F1) hZ (W 69 rfl) (W 68 rfl) (by decide) (by decide)) q199a q199c (g := (mkF m 1 #[rv o1] [(.ref o1)])) rfl (by rw [hml]; rfl) (Steps.refl _) (argsL := []) (rest := []) (lenOf pd81 rfl) rfl (by show 2 * 0 + _ ≤ _; exact Nat.le_of_eq rfl) (hb hby d11_1) (fun _ _ => ⟨rfl, e0, (by decide : 0 + 0 ≤ _), (by decide : 0 + 0 ≤ _)⟩)
  dsimp only [Pt.U, Pt.locs, Pt.cells, Pt.slots] at X199 l199 y199 z199 st199 hQ199
  subst l199 y199 z199
  obtain ⟨rfl, Nq199, eh199⟩ := hQ199
  have N199 := Fr.app N0 Nq199
  have go200 : own_S p e below ST T199 (mkF m 4 #[rv o1] [(.int (2 : Int32))]) := fun tt kt => go198 tt (st199.trans kt)
  have go201 : own_S p e below ST T199 (mkF m 58 #[rv o1] []) := fun tt kt => go200 tt (by
      refine XS.tswIn X199.here hx rfl (pc0 := 4) (pc' := 58) rfl (hb hby d11_4) rfl (o := 54) (by decide) rfl (by decide) (by decide) ?_
      exact kt)
  obtain ⟨T202, X202, e202, st202⟩ := getS2 X199 hx hZ hown (host := "") (Or.inl (W 74 rfl)) Via.refl eh199 SaA (g := (mkF m 58 #[rv o1] [])) rfl (hb hby d11_58)
  have go203 : own_S p e below ST T202 (mkF m 61 #[rv o1] [(.ref aA)]) := fun tt kt => go201 tt (st202 _ kt)
  have go204 : own_S p e below ST T202 (mkF m 67 #[rv o1] [(.ref aA)]) := fun tt kt => go203 tt (by
      refine XS.goto X202.here hx rfl (pc0 := 61) (pc' := 67) rfl (hb hby d11_61) (by decide) (by decide) ?_
      exact kt)
  obtain ⟨fs, hr, hrun, hended, hW, hsame⟩ := X202.leave (v := some (.ref aA)) (fun h => by rw [Bd.returns] at h; cases h)
  refine ⟨_, _, pre0 _ (go204 _ ?_), hrun, hended, _, _, rfl, ?_, ⟨_, rfl⟩, hW, hsame.mono (by decide) (by decide)⟩
  · exact retOut X202 hx Bd.returns rfl (Or.inr (Or.inr (Or.inr (Or.inr ⟨rfl, rfl, rfl⟩)))) (hb hby d11_67) hr
  · show Q11k2 Z o1 aA h0 n0 _ T202.heap _
    rw [e202]
    exact ⟨rfl, N199, rfl⟩
theorem d1_21 : decode method_2_code 21 = .ok (.iload_n 1, 1) := by decide +kernel
theorem d1_22 : decode method_2_code 22 = .ok (.iconst 2, 1) := by decide +kernel
theorem d1_23 : decode method_2_code 23 = .ok (.if_icmp .ne 7, 3) := by decide +kernel
theorem d1_26 : decode method_2_code 26 = .ok (.getstatic 16, 3) := by decide +kernel
theorem d1_29 : decode method_2_code 29 = .ok (.areturn, 1) := by decide +kernel
theorem ef1k2 (m : MethodId) (x0 : Int32) : entryFrame m #[(.int x0)] 2 = mkF m 0 #[.val (.int x0), .unset] [] := by first | (simp [entryFrame, mkF, argsToLocals, Value.category]; done) | rfl
def Q1k2 (Z : State) (p0 : Int32) (aM : Addr) (h0 : Heap) (n0 : Nat) (v : Option Value) (h : Heap) (L : List Loc) : Prop := v = some (.ref aM) ∧ Fr n0 L ∧ h = h0
set_option maxRecDepth 65536 in
set_option maxHeartbeats 40000000 in
theorem rm1k2 (l : Launch) (Z : State) (a0 : Array Value) (hw : ∀ d ∈ tables_1, d.before a0 Z = true) (ws : List Jvm.Cond) (p0 : Int32) (aM : Addr) (h0 : Heap) (n0 : Nat) (Z0 : n0 ≤ h0.size) (hk : p0 &&& 3 = 2) (SaM : Sta Z h0 "com/example/brancher/brancher/model/Comparison" "AT_MOST" "Lcom/example/brancher/brancher/model/Comparison;" (.ref aM)) :
    MetFree l (⟨"com/example/brancher/brancher/model/ComparisonIsLowerPinLaw", "pick", "(I)Lcom/example/brancher/brancher/model/Comparison;"⟩ : MethodName) (head1 (Jvm.Cond.code (⟨"com/example/brancher/brancher/model/ComparisonIsLowerPinLaw", "pick", "(I)Lcom/example/brancher/brancher/model/Comparison;"⟩ : MethodName) method_2_code 2 (some (.object "com/example/brancher/brancher/model/Comparison")) :: ws) ({ frames := 0, cells := 0, slots := 0, locals := 0 } : Room)) (fun aa UU => aa = #[(.int p0)] ∧ Z.Warmed39 UU.vm ∧ UU.heap = h0) (fun _ _ _ _ _ => True) (fun _ UU oo UU' => ∃ vv LL, oo = .returned vv ∧ Q1k2 Z p0 aM h0 n0 vv UU'.heap LL ∧ FrameEnd UU oo UU' LL ({ frames := 0, cells := 0, slots := 0, locals := 0 } : Room).cells ({ frames := 0, cells := 0, slots := 0, locals := 0 } : Room).slots) := by
  have W : ∀ {d : Jvm.Cond} (i : Nat), tables_1[i]? = some d → d.before a0 Z = true := fun i h => hw _ (List.mem_of_getElem? h)
  refine MetFree.of_bodySF (plainFor_of_name pn86) hisR ?_
  intro p e s m args below meth c s₁ Bd hml0 hP hK
  obtain ⟨rfl, hZ, hh⟩ := hP
  have hx := Bd.exec
  have hby := Bd.bytes
  have hml : c.maxLocals = 2 := hml0
  have hown : s.vm.findClass "com/example/brancher/brancher/model/ComparisonIsLowerPinLaw" = some m.cls := findClass_of_methodNamed Bd.named
  have hnm := (name_of_methodNamed Bd.named Bd.method).1
  have X0 : Stand p l e ({ frames := 0, cells := 0, slots := 0, locals := 0 } : Room) s m #[(.int p0)] below meth c s₁ [] 0 0 := Stand.of_body Bd
  have e0 : s₁.heap = h0 := by rw [← hh, Bd.state]; rfl
  have N0 := Fr.nil n0
  have pre0 : ∀ tt, Steps p.tables e below (s₁.setTop (mkF m 0 #[iv p0, .unset] [])) tt → Steps p.tables e below (s₁.setTop (entryFrame m #[(.int p0)] 2)) tt := fun tt kt => castTop (ef1k2 m p0) kt
  obtain ⟨ST, hST⟩ : ∃ z : State, z = s₁.setTop (mkF m 0 #[iv p0, .unset] []) := ⟨_, rfl⟩
  rw [← hST] at pre0
  have go205 : own_S p e below ST s₁ (mkF m 26 #[iv p0, iv (p0 &&& (3 : Int32))] []) := fun tt kt => (by
      rw [hST]
      show Steps p.tables e below (s₁.setTop (mkF m 0 #[iv p0, .unset] [])) _
      refine XS.iloadN X0.here hx rfl (hb hby d1_0) rfl ?_
      refine XS.iconst X0.here hx rfl (hb hby d1_1) ?_
      refine XS.iand X0.here hx rfl (hb hby d1_2) rfl ?_
      refine XS.istoreN X0.here hx rfl (hb hby d1_3) rfl (l' := #[iv p0, iv (p0 &&& (3 : Int32))]) rfl ?_
      refine XS.iloadN X0.here hx rfl (hb hby d1_4) rfl ?_
      refine XS.ifYes X0.here hx rfl (pc0 := 5) (pc' := 12) rfl (hb hby d1_5) rfl ((if0 _ _).trans (feq (fun q => absurd (hk.symm.trans q) (by decide))).2) (by decide) (by decide) ?_
      show Steps p.tables e below (s₁.setTop (mkF m 12 #[iv p0, iv (p0 &&& (3 : Int32))] [])) _
      refine XS.iloadN X0.here hx rfl (hb hby d1_12) rfl ?_
      refine XS.iconst X0.here hx rfl (hb hby d1_13) ?_
      refine XS.icmpYes X0.here hx rfl (pc0 := 14) (pc' := 21) rfl (hb hby d1_14) rfl (feq (fun q => absurd (hk.symm.trans q) (by decide))).2 (by decide) (by decide) ?_
      refine XS.iloadN X0.here hx rfl (hb hby d1_21) rfl ?_
      refine XS.iconst X0.here hx rfl (hb hby d1_22) ?_
      refine XS.icmpNo X0.here hx rfl (hb hby d1_23) rfl (teq hk).2 ?_
      exact kt)
  obtain ⟨T206, X206, e206, st206⟩ := getS2 X0 hx hZ hown (host := "") (Or.inl (W 77 rfl)) Via.refl e0 SaM (g := (mkF m 26 #[iv p0, iv (p0 &&& (3 : Int32))] [])) rfl (hb hby d1_26)
  have go207 : own_S p e below ST T206 (mkF m 29 #[iv p0, iv (p0 &&& (3 : Int32))] [(.ref aM)]) := fun tt kt => go205 tt (st206 _ kt)
  obtain ⟨fs, hr, hrun, hended, hW, hsame⟩ := X206.leave (v := some (.ref aM)) (fun h => by rw [Bd.returns] at h; cases h)
  refine ⟨_, _, pre0 _ (go207 _ ?_), hrun, hended, _, _, rfl, ?_, ⟨_, rfl⟩, hW, hsame.mono (by decide) (by decide)⟩
  · exact retOut X206 hx Bd.returns rfl (Or.inr (Or.inr (Or.inr (Or.inr ⟨rfl, rfl, rfl⟩)))) (hb hby d1_29) hr
  · show Q1k2 Z p0 aM h0 n0 _ T206.heap _
    rw [e206]
    exact ⟨rfl, N0, rfl⟩
theorem d11_64 : decode prog_17_method_7_code 64 = .ok (.getstatic 3, 3) := by decide +kernel
theorem ef11k3 (m : MethodId) (x0 : Addr) : entryFrame m #[(.ref x0)] 1 = mkF m 0 #[.val (.ref x0)] [] := by first | (simp [entryFrame, mkF, argsToLocals, Value.category]; done) | rfl
def Q11k3 (Z : State) (o1 : Addr) (aL : Addr) (h0 : Heap) (n0 : Nat) (v : Option Value) (h : Heap) (L : List Loc) : Prop := v = some (.ref aL) ∧ Fr n0 L ∧ h = h0
set_option maxRecDepth 65536 in
set_option maxHeartbeats 40000000 in
theorem rm11k3 (l : Launch) (Z : State) (a0 : Array Value) (hw : ∀ d ∈ tables_1, d.before a0 Z = true) (ws : List Jvm.Cond) (o1 : Addr) (aL : Addr) (h0 : Heap) (n0 : Nat) (Z0 : n0 ≤ h0.size) (F1 : Fld Z h0 o1 "java/lang/Enum" "ordinal" "I" (.int (3 : Int32))) (E1 : Exa Z h0 o1 "com/example/brancher/brancher/model/Comparison") (SaL : Sta Z h0 "com/example/brancher/brancher/model/Comparison" "AT_LEAST" "Lcom/example/brancher/brancher/model/Comparison;" (.ref aL)) :
    MetFree l (⟨"com/example/brancher/brancher/model/Comparison", "negated", "()Lcom/example/brancher/brancher/model/Comparison;"⟩ : MethodName) (head1 (Jvm.Cond.code (⟨"com/example/brancher/brancher/model/Comparison", "negated", "()Lcom/example/brancher/brancher/model/Comparison;"⟩ : MethodName) prog_17_method_7_code 1 (some (.object "com/example/brancher/brancher/model/Comparison")) :: ws) ({ frames := 1, cells := 0, slots := 0, locals := 12 } : Room)) (fun aa UU => aa = #[(.ref o1)] ∧ Z.Warmed39 UU.vm ∧ UU.heap = h0) (fun _ _ _ _ _ => True) (fun _ UU oo UU' => ∃ vv LL, oo = .returned vv ∧ Q11k3 Z o1 aL h0 n0 vv UU'.heap LL ∧ FrameEnd UU oo UU' LL ({ frames := 1, cells := 0, slots := 0, locals := 12 } : Room).cells ({ frames := 1, cells := 0, slots := 0, locals := 12 } : Room).slots) := by
  have W : ∀ {d : Jvm.Cond} (i : Nat), tables_1[i]? = some d → d.before a0 Z = true := fun i h => hw _ (List.mem_of_getElem? h)
  refine MetFree.of_bodySF (plainFor_of_name pn61) hisR ?_
  intro p e s m args below meth c s₁ Bd hml0 hP hK
  obtain ⟨rfl, hZ, hh⟩ := hP
  have hx := Bd.exec
  have hby := Bd.bytes
  have hml : c.maxLocals = 1 := hml0
  have hown : s.vm.findClass "com/example/brancher/brancher/model/Comparison" = some m.cls := findClass_of_methodNamed Bd.named
  have hnm := (name_of_methodNamed Bd.named Bd.method).1
  have X0 : Stand p l e ({ frames := 1, cells := 0, slots := 0, locals := 12 } : Room) s m #[(.ref o1)] below meth c s₁ [] 0 0 := Stand.of_body Bd
  have e0 : s₁.heap = h0 := by rw [← hh, Bd.state]; rfl
  have N0 := Fr.nil n0
  have pre0 : ∀ tt, Steps p.tables e below (s₁.setTop (mkF m 0 #[rv o1] [])) tt → Steps p.tables e below (s₁.setTop (entryFrame m #[(.ref o1)] 1)) tt := fun tt kt => castTop (ef11k3 m o1) kt
  obtain ⟨ST, hST⟩ : ∃ z : State, z = s₁.setTop (mkF m 0 #[rv o1] []) := ⟨_, rfl⟩
  rw [← hST] at pre0
  have go208 : own_S p e below ST s₁ (mkF m 1 #[rv o1] [(.ref o1)]) := fun tt kt => (by
      rw [hST]
      show Steps p.tables e below (s₁.setTop (mkF m 0 #[rv o1] [])) _
      refine XS.aloadN X0.here hx rfl (hb hby d11_0) rfl rfl ?_
      exact kt)
  obtain ⟨cq209, kq209, q209a, q209b, q209c⟩ := isOf hZ e0 E1
  obtain ⟨_, _, ⟨T209, L209, k209, n209⟩, -, X209, ⟨Lc209, hQ209, l209, y209, z209⟩, st209⟩ := X0.virtualBackUp hx (x := (⟨"com/example/brancher/brancher/model/Comparison", "ordinal", "()I"⟩ : MethodName)) (y := (⟨"java/lang/Enum", "ordinal", "()I"⟩ : MethodName)) (owner := "java/lang/Enum") hown (mvT hZ (W 63 rfl)) (mvT hZ (W 64 rfl)) (mvT hZ (W 65 rfl)) (by decide) (mvT hZ (W 67 rfl)) (mvT hZ (W 66 rfl)) (backOf (W := 0) (rm12 l Z a0 hw [] o1 (3 : Int32) h0 n0 Z0 F1) hZ (W 69 rfl) (W 68 rfl) (by decide) (by decide)) q209a q209c (g := (mkF m 1 #[rv o1] [(.ref o1)])) rfl (by rw [hml]; rfl) (Steps.refl _) (argsL := []) (rest := []) (lenOf pd81 rfl) rfl (by show 2 * 0 + _ ≤ _; exact Nat.le_of_eq rfl) (hb hby d11_1) (fun _ _ => ⟨rfl, e0, (by decide : 0 + 0 ≤ _), (by decide : 0 + 0 ≤ _)⟩)
  dsimp only [Pt.U, Pt.locs, Pt.cells, Pt.slots] at X209 l209 y209 z209 st209 hQ209
  subst l209 y209 z209
  obtain ⟨rfl, Nq209, eh209⟩ := hQ209
  have N209 := Fr.app N0 Nq209
  have go210 : own_S p e below ST T209 (mkF m 4 #[rv o1] [(.int (3 : Int32))]) := fun tt kt => go208 tt (st209.trans kt)
  have go211 : own_S p e below ST T209 (mkF m 64 #[rv o1] []) := fun tt kt => go210 tt (by
      refine XS.tswIn X209.here hx rfl (pc0 := 4) (pc' := 64) rfl (hb hby d11_4) rfl (o := 60) (by decide) rfl (by decide) (by decide) ?_
      exact kt)
  obtain ⟨T212, X212, e212, st212⟩ := getS2 X209 hx hZ hown (host := "") (Or.inl (W 12 rfl)) Via.refl eh209 SaL (g := (mkF m 64 #[rv o1] [])) rfl (hb hby d11_64)
  have go213 : own_S p e below ST T212 (mkF m 67 #[rv o1] [(.ref aL)]) := fun tt kt => go211 tt (st212 _ kt)
  obtain ⟨fs, hr, hrun, hended, hW, hsame⟩ := X212.leave (v := some (.ref aL)) (fun h => by rw [Bd.returns] at h; cases h)
  refine ⟨_, _, pre0 _ (go213 _ ?_), hrun, hended, _, _, rfl, ?_, ⟨_, rfl⟩, hW, hsame.mono (by decide) (by decide)⟩
  · exact retOut X212 hx Bd.returns rfl (Or.inr (Or.inr (Or.inr (Or.inr ⟨rfl, rfl, rfl⟩)))) (hb hby d11_67) hr
  · show Q11k3 Z o1 aL h0 n0 _ T212.heap _
    rw [e212]
    exact ⟨rfl, N209, rfl⟩
theorem d1_30 : decode method_2_code 30 = .ok (.getstatic 19, 3) := by decide +kernel
theorem d1_33 : decode method_2_code 33 = .ok (.areturn, 1) := by decide +kernel
theorem ef1k3 (m : MethodId) (x0 : Int32) : entryFrame m #[(.int x0)] 2 = mkF m 0 #[.val (.int x0), .unset] [] := by first | (simp [entryFrame, mkF, argsToLocals, Value.category]; done) | rfl
def Q1k3 (Z : State) (p0 : Int32) (aB : Addr) (h0 : Heap) (n0 : Nat) (v : Option Value) (h : Heap) (L : List Loc) : Prop := v = some (.ref aB) ∧ Fr n0 L ∧ h = h0
set_option maxRecDepth 65536 in
set_option maxHeartbeats 40000000 in
theorem rm1k3 (l : Launch) (Z : State) (a0 : Array Value) (hw : ∀ d ∈ tables_1, d.before a0 Z = true) (ws : List Jvm.Cond) (p0 : Int32) (aB : Addr) (h0 : Heap) (n0 : Nat) (Z0 : n0 ≤ h0.size) (hk : p0 &&& 3 = 3) (SaB : Sta Z h0 "com/example/brancher/brancher/model/Comparison" "BELOW" "Lcom/example/brancher/brancher/model/Comparison;" (.ref aB)) :
    MetFree l (⟨"com/example/brancher/brancher/model/ComparisonIsLowerPinLaw", "pick", "(I)Lcom/example/brancher/brancher/model/Comparison;"⟩ : MethodName) (head1 (Jvm.Cond.code (⟨"com/example/brancher/brancher/model/ComparisonIsLowerPinLaw", "pick", "(I)Lcom/example/brancher/brancher/model/Comparison;"⟩ : MethodName) method_2_code 2 (some (.object "com/example/brancher/brancher/model/Comparison")) :: ws) ({ frames := 0, cells := 0, slots := 0, locals := 0 } : Room)) (fun aa UU => aa = #[(.int p0)] ∧ Z.Warmed39 UU.vm ∧ UU.heap = h0) (fun _ _ _ _ _ => True) (fun _ UU oo UU' => ∃ vv LL, oo = .returned vv ∧ Q1k3 Z p0 aB h0 n0 vv UU'.heap LL ∧ FrameEnd UU oo UU' LL ({ frames := 0, cells := 0, slots := 0, locals := 0 } : Room).cells ({ frames := 0, cells := 0, slots := 0, locals := 0 } : Room).slots) := by
  have W : ∀ {d : Jvm.Cond} (i : Nat), tables_1[i]? = some d → d.before a0 Z = true := fun i h => hw _ (List.mem_of_getElem? h)
  refine MetFree.of_bodySF (plainFor_of_name pn86) hisR ?_
  intro p e s m args below meth c s₁ Bd hml0 hP hK
  obtain ⟨rfl, hZ, hh⟩ := hP
  have hx := Bd.exec
  have hby := Bd.bytes
  have hml : c.maxLocals = 2 := hml0
  have hown : s.vm.findClass "com/example/brancher/brancher/model/ComparisonIsLowerPinLaw" = some m.cls := findClass_of_methodNamed Bd.named
  have hnm := (name_of_methodNamed Bd.named Bd.method).1
  have X0 : Stand p l e ({ frames := 0, cells := 0, slots := 0, locals := 0 } : Room) s m #[(.int p0)] below meth c s₁ [] 0 0 := Stand.of_body Bd
  have e0 : s₁.heap = h0 := by rw [← hh, Bd.state]; rfl
  have N0 := Fr.nil n0
  have pre0 : ∀ tt, Steps p.tables e below (s₁.setTop (mkF m 0 #[iv p0, .unset] [])) tt → Steps p.tables e below (s₁.setTop (entryFrame m #[(.int p0)] 2)) tt := fun tt kt => castTop (ef1k3 m p0) kt
  obtain ⟨ST, hST⟩ : ∃ z : State, z = s₁.setTop (mkF m 0 #[iv p0, .unset] []) := ⟨_, rfl⟩
  rw [← hST] at pre0
  have go214 : own_S p e below ST s₁ (mkF m 30 #[iv p0, iv (p0 &&& (3 : Int32))] []) := fun tt kt => (by
      rw [hST]
      show Steps p.tables e below (s₁.setTop (mkF m 0 #[iv p0, .unset] [])) _
      refine XS.iloadN X0.here hx rfl (hb hby d1_0) rfl ?_
      refine XS.iconst X0.here hx rfl (hb hby d1_1) ?_
      refine XS.iand X0.here hx rfl (hb hby d1_2) rfl ?_
      refine XS.istoreN X0.here hx rfl (hb hby d1_3) rfl (l' := #[iv p0, iv (p0 &&& (3 : Int32))]) rfl ?_
      refine XS.iloadN X0.here hx rfl (hb hby d1_4) rfl ?_
      refine XS.ifYes X0.here hx rfl (pc0 := 5) (pc' := 12) rfl (hb hby d1_5) rfl ((if0 _ _).trans (feq (fun q => absurd (hk.symm.trans q) (by decide))).2) (by decide) (by decide) ?_
      show Steps p.tables e below (s₁.setTop (mkF m 12 #[iv p0, iv (p0 &&& (3 : Int32))] [])) _
      refine XS.iloadN X0.here hx rfl (hb hby d1_12) rfl ?_
      refine XS.iconst X0.here hx rfl (hb hby d1_13) ?_
      refine XS.icmpYes X0.here hx rfl (pc0 := 14) (pc' := 21) rfl (hb hby d1_14) rfl (feq (fun q => absurd (hk.symm.trans q) (by decide))).2 (by decide) (by decide) ?_
      refine XS.iloadN X0.here hx rfl (hb hby d1_21) rfl ?_
      refine XS.iconst X0.here hx rfl (hb hby d1_22) ?_
      refine XS.icmpYes X0.here hx rfl (pc0 := 23) (pc' := 30) rfl (hb hby d1_23) rfl (feq (fun q => absurd (hk.symm.trans q) (by decide))).2 (by decide) (by decide) ?_
      exact kt)
  obtain ⟨T215, X215, e215, st215⟩ := getS2 X0 hx hZ hown (host := "") (Or.inl (W 76 rfl)) Via.refl e0 SaB (g := (mkF m 30 #[iv p0, iv (p0 &&& (3 : Int32))] [])) rfl (hb hby d1_30)
  have go216 : own_S p e below ST T215 (mkF m 33 #[iv p0, iv (p0 &&& (3 : Int32))] [(.ref aB)]) := fun tt kt => go214 tt (st215 _ kt)
  obtain ⟨fs, hr, hrun, hended, hW, hsame⟩ := X215.leave (v := some (.ref aB)) (fun h => by rw [Bd.returns] at h; cases h)
  refine ⟨_, _, pre0 _ (go216 _ ?_), hrun, hended, _, _, rfl, ?_, ⟨_, rfl⟩, hW, hsame.mono (by decide) (by decide)⟩
  · exact retOut X215 hx Bd.returns rfl (Or.inr (Or.inr (Or.inr (Or.inr ⟨rfl, rfl, rfl⟩)))) (hb hby d1_33) hr
  · show Q1k3 Z p0 aB h0 n0 _ T215.heap _
    rw [e215]
    exact ⟨rfl, N0, rfl⟩
theorem pd112 : parseMethodDescriptor "(I)Lcom/example/brancher/brancher/model/Comparison;" = some ⟨[.int], some (.object "com/example/brancher/brancher/model/Comparison")⟩ := by decide +kernel
theorem pd113 : parseMethodDescriptor "()Ljava/lang/String;" = some ⟨[], some (.object "java/lang/String")⟩ := by decide +kernel
theorem pd114 : parseMethodDescriptor "(I)C" = some ⟨[.int], some .char⟩ := by decide +kernel
theorem pd115 : parseMethodDescriptor "()Lcom/example/brancher/brancher/model/Comparison;" = some ⟨[], some (.object "com/example/brancher/brancher/model/Comparison")⟩ := by decide +kernel
theorem ef0k0 (m : MethodId) (x0 : Int32) : entryFrame m #[(.int x0)] maxLocals = mkF m 0 #[.val (.int x0), .unset, .unset, .unset, .unset, .unset] [] := by first | (simp [entryFrame, mkF, argsToLocals, Value.category, maxLocals]; done) | rfl
def Q0k0 (Z : State) (p0 : Int32) (aL : Addr) (aB : Addr) (aA : Addr) (aM : Addr) (yaL : Addr) (yaB : Addr) (yaM : Addr) (yaA : Addr) (zaL : Addr) (zaB : Addr) (zaM : Addr) (zaA : Addr) (ck_zaL : ClassId) (ck_zaB : ClassId) (ck_zaM : ClassId) (ck_zaA : ClassId) (wf : Value) (cs : Int32) (h0 : Heap) (n0 : Nat) (v : Option Value) (h : Heap) (L : List Loc) : Prop := v = some (.int 1) ∧ Fr n0 L
set_option maxRecDepth 65536 in
set_option maxHeartbeats 40000000 in
theorem rm0k0 (l : Launch) (Z : State) (a0 : Array Value) (hw : ∀ d ∈ tables_1, d.before a0 Z = true) (ws : List Jvm.Cond) (p0 : Int32) (aL : Addr) (aB : Addr) (aA : Addr) (aM : Addr) (yaL : Addr) (yaB : Addr) (yaM : Addr) (yaA : Addr) (zaL : Addr) (zaB : Addr) (zaM : Addr) (zaA : Addr) (ck_zaL : ClassId) (ck_zaB : ClassId) (ck_zaM : ClassId) (ck_zaA : ClassId) (wf : Value) (cs : Int32) (h0 : Heap) (n0 : Nat) (Z0 : n0 ≤ h0.size) (S_aL : Sta Z h0 "com/example/brancher/brancher/model/Comparison" "AT_LEAST" "Lcom/example/brancher/brancher/model/Comparison;" (.ref aL)) (E_aL : Exa Z h0 aL "com/example/brancher/brancher/model/Comparison") (S_aB : Sta Z h0 "com/example/brancher/brancher/model/Comparison" "BELOW" "Lcom/example/brancher/brancher/model/Comparison;" (.ref aB)) (E_aB : Exa Z h0 aB "com/example/brancher/brancher/model/Comparison") (S_aA : Sta Z h0 "com/example/brancher/brancher/model/Comparison" "ABOVE" "Lcom/example/brancher/brancher/model/Comparison;" (.ref aA)) (E_aA : Exa Z h0 aA "com/example/brancher/brancher/model/Comparison") (S_aM : Sta Z h0 "com/example/brancher/brancher/model/Comparison" "AT_MOST" "Lcom/example/brancher/brancher/model/Comparison;" (.ref aM)) (E_aM : Exa Z h0 aM "com/example/brancher/brancher/model/Comparison") (F_yaL : Fld Z h0 aL "com/example/brancher/brancher/model/Comparison" "symbol" "Ljava/lang/String;" (.ref yaL)) (E_yaL : Exa Z h0 yaL "java/lang/String") (F_yaB : Fld Z h0 aB "com/example/brancher/brancher/model/Comparison" "symbol" "Ljava/lang/String;" (.ref yaB)) (E_yaB : Exa Z h0 yaB "java/lang/String") (F_yaM : Fld Z h0 aM "com/example/brancher/brancher/model/Comparison" "symbol" "Ljava/lang/String;" (.ref yaM)) (E_yaM : Exa Z h0 yaM "java/lang/String") (F_yaA : Fld Z h0 aA "com/example/brancher/brancher/model/Comparison" "symbol" "Ljava/lang/String;" (.ref yaA)) (E_yaA : Exa Z h0 yaA "java/lang/String") (F_zaL : Fld Z h0 yaL "java/lang/String" "value" "[B" (.ref zaL)) (F_zaB : Fld Z h0 yaB "java/lang/String" "value" "[B" (.ref zaB)) (F_zaM : Fld Z h0 yaM "java/lang/String" "value" "[B" (.ref zaM)) (F_zaA : Fld Z h0 yaA "java/lang/String" "value" "[B" (.ref zaA)) (G_yaL_coder : Fld Z h0 yaL "java/lang/String" "coder" "B" (.int (0 : Int32))) (G_aL_ordinal : Fld Z h0 aL "java/lang/Enum" "ordinal" "I" (.int (0 : Int32))) (G_aB_ordinal : Fld Z h0 aB "java/lang/Enum" "ordinal" "I" (.int (3 : Int32))) (G_aA_ordinal : Fld Z h0 aA "java/lang/Enum" "ordinal" "I" (.int (1 : Int32))) (G_yaB_coder : Fld Z h0 yaB "java/lang/String" "coder" "B" (.int (0 : Int32))) (G_aM_ordinal : Fld Z h0 aM "java/lang/Enum" "ordinal" "I" (.int (2 : Int32))) (G_yaM_coder : Fld Z h0 yaM "java/lang/String" "coder" "B" (.int (0 : Int32))) (G_yaA_coder : Fld Z h0 yaA "java/lang/String" "coder" "B" (.int (0 : Int32))) (V_zaL : Arv Z h0 zaL ck_zaL .byte (2 : Int32) [(.int (62 : Int32)), (.int (61 : Int32))] (.int (0 : Int32))) (V_zaB : Arv Z h0 zaB ck_zaB .byte (1 : Int32) [(.int (60 : Int32))] (.int (0 : Int32))) (V_zaM : Arv Z h0 zaM ck_zaM .byte (2 : Int32) [(.int (60 : Int32)), (.int (61 : Int32))] (.int (0 : Int32))) (V_zaA : Arv Z h0 zaA ck_zaA .byte (1 : Int32) [(.int (62 : Int32))] (.int (0 : Int32))) (Sc : Sta Z h0 "java/lang/String" "COMPACT_STRINGS" "Z" (.int cs)) (hcs : ¬ cs = 0) (Sf : Sta Z h0 "jdk/internal/util/Preconditions" "SIOOBE_FORMATTER" "Ljava/util/function/BiFunction;" wf) (hwf : wf.isRef = true) (hk : p0 &&& 3 = 0) :
    MetFree l x (head1 (Jvm.Cond.code x code maxLocals ret :: ws) room_1) (fun aa UU => aa = #[(.int p0)] ∧ Z.Warmed39 UU.vm ∧ UU.heap = h0) (fun _ _ _ _ _ => True) (fun _ UU oo UU' => ∃ vv LL, oo = .returned vv ∧ Q0k0 Z p0 aL aB aA aM yaL yaB yaM yaA zaL zaB zaM zaA ck_zaL ck_zaB ck_zaM ck_zaA wf cs h0 n0 vv UU'.heap LL ∧ FrameEnd UU oo UU' LL room_1.cells room_1.slots) := by
  have W : ∀ {d : Jvm.Cond} (i : Nat), tables_1[i]? = some d → d.before a0 Z = true := fun i h => hw _ (List.mem_of_getElem? h)
  refine MetFree.of_bodySF (plainFor_of_name pn86) hisR ?_
  intro p e s m args below meth c s₁ Bd hml0 hP hK
  obtain ⟨rfl, hZ, hh⟩ := hP
  have hx := Bd.exec
  have hby := Bd.bytes
  have hml : c.maxLocals = 6 := hml0
  have hown : s.vm.findClass "com/example/brancher/brancher/model/ComparisonIsLowerPinLaw" = some m.cls := findClass_of_methodNamed Bd.named
  have hnm := (name_of_methodNamed Bd.named Bd.method).1
  have X0 : Stand p l e room_1 s m #[(.int p0)] below meth c s₁ [] 0 0 := Stand.of_body Bd
  have e0 : s₁.heap = h0 := by rw [← hh, Bd.state]; rfl
  have N0 := Fr.nil n0
  have pre0 : ∀ tt, Steps p.tables e below (s₁.setTop (mkF m 0 #[iv p0, .unset, .unset, .unset, .unset, .unset] [])) tt → Steps p.tables e below (s₁.setTop (entryFrame m #[(.int p0)] maxLocals)) tt := fun tt kt => castTop (ef0k0 m p0) kt
  obtain ⟨ST, hST⟩ : ∃ z : State, z = s₁.setTop (mkF m 0 #[iv p0, .unset, .unset, .unset, .unset, .unset] []) := ⟨_, rfl⟩
  rw [← hST] at pre0
  have n1 : aA ≠ aL := Fld.ne G_aA_ordinal G_aL_ordinal (fun q => absurd (Value.int.inj q) (by decide))
  have n_aM_aL : aM ≠ aL := Fld.ne G_aM_ordinal G_aL_ordinal (fun q => absurd (Value.int.inj q) (by decide))
  have n_aM_aA : aM ≠ aA := Fld.ne G_aM_ordinal G_aA_ordinal (fun q => absurd (Value.int.inj q) (by decide))
  have n_aB_aL : aB ≠ aL := Fld.ne G_aB_ordinal G_aL_ordinal (fun q => absurd (Value.int.inj q) (by decide))
  have n_aB_aA : aB ≠ aA := Fld.ne G_aB_ordinal G_aA_ordinal (fun q => absurd (Value.int.inj q) (by decide))
  have go217 : own_S p e below ST s₁ (mkF m 1 #[iv p0, .unset, .unset, .unset, .unset, .unset] [(.int p0)]) := fun tt kt => (by
      rw [hST]
      show Steps p.tables e below (s₁.setTop (mkF m 0 #[iv p0, .unset, .unset, .unset, .unset, .unset] [])) _
      refine XS.iloadN X0.here hx rfl (hb hby at_0) rfl ?_
      exact kt)
  obtain ⟨_, _, ⟨T218, L218, k218, n218⟩, -, X218, ⟨Lc218, hQ218, l218, y218, z218⟩, st218⟩ := Jvm.LawKit.callS X0 hx (y := (⟨"com/example/brancher/brancher/model/ComparisonIsLowerPinLaw", "pick", "(I)Lcom/example/brancher/brancher/model/Comparison;"⟩ : MethodName)) hown (mvT hZ (W 0 rfl)) (mvT hZ (W 1 rfl)) (mvT hZ (W 2 rfl)) (mvT hZ (W 3 rfl)) (by decide) (backOf (W := 0) (rm1k0 l Z a0 hw [] p0 aL h0 n0 Z0 hk S_aL) hZ (W 3 rfl) (W 2 rfl) (by decide) (by decide)) (g := (mkF m 1 #[iv p0, .unset, .unset, .unset, .unset, .unset] [(.int p0)])) rfl (by rw [hml]; rfl) (argsL := [(.int p0)]) (rest := []) (lenOf pd112 rfl) rfl (by show 2 * 0 + _ ≤ _; exact Nat.le_of_eq rfl) (hb hby at_1) (fun _ _ => ⟨rfl, e0, (by decide : 0 + 0 ≤ _), (by decide : 0 + 0 ≤ _)⟩)
  dsimp only [Pt.U, Pt.locs, Pt.cells, Pt.slots] at X218 l218 y218 z218 st218 hQ218
  subst l218 y218 z218
  obtain ⟨rfl, Nq218, eh218⟩ := hQ218
  have N218 := Fr.app N0 Nq218
  have go219 : own_S p e below ST T218 (mkF m 4 #[iv p0, .unset, .unset, .unset, .unset, .unset] [(.ref aL)]) := fun tt kt => go217 tt (st218 _ kt)
  have go220 : own_S p e below ST T218 (mkF m 6 #[iv p0, rv aL, .unset, .unset, .unset, .unset] [(.ref aL)]) := fun tt kt => go219 tt (by
      refine XS.astoreN X218.here hx rfl (hb hby at_4) rfl rfl (l' := #[iv p0, rv aL, .unset, .unset, .unset, .unset]) rfl ?_
      refine XS.aloadN X218.here hx rfl (hb hby at_5) rfl rfl ?_
      exact kt)
  obtain ⟨cq221, kq221, q221a, q221b, q221c⟩ := isOf hZ eh218 E_aL
  obtain ⟨_, _, ⟨T221, L221, k221, n221⟩, -, X221, ⟨Lc221, hQ221, l221, y221, z221⟩, st221⟩ := X218.virtualBack hx (y := (⟨"com/example/brancher/brancher/model/Comparison", "isLower", "()Z"⟩ : MethodName)) (z := (⟨"com/example/brancher/brancher/model/Comparison", "isLower", "()Z"⟩ : MethodName)) hown (mvT hZ (W 7 rfl)) (mvT hZ (W 8 rfl)) (notFace_of_selects (args := #[]) (mvT hZ (W 10 rfl))) (mvT hZ (W 10 rfl)) (mvT hZ (W 9 rfl)) (by decide) (backOf (W := 0) (rm2v l Z a0 hw [] aL aA h0 n0 Z0 S_aL S_aA) hZ (W 11 rfl) (W 5 rfl) (by decide) (by decide)) q221a q221c (g := (mkF m 6 #[iv p0, rv aL, .unset, .unset, .unset, .unset] [(.ref aL)])) rfl (by rw [hml]; rfl) (Steps.refl _) (argsL := []) (rest := []) (lenOf pd53 rfl) rfl (by show 2 * 0 + _ ≤ _; exact Nat.le_of_eq rfl) (hb hby at_6) (fun _ _ => ⟨rfl, eh218, (by decide : 0 + 0 ≤ _), (by decide : 0 + 0 ≤ _)⟩)
  dsimp only [Pt.U, Pt.locs, Pt.cells, Pt.slots] at X221 l221 y221 z221 st221 hQ221
  subst l221 y221 z221
  obtain ⟨rfl, Nq221, eh221⟩ := hQ221
  have N221 := Fr.app N218 Nq221
  have go222 : own_S p e below ST T221 (mkF m 9 #[iv p0, rv aL, .unset, .unset, .unset, .unset] [(.int (1 : Int32))]) := fun tt kt => go220 tt (st221.trans kt)
  have go223 : own_S p e below ST T221 (mkF m 11 #[iv p0, rv aL, iv (1 : Int32), .unset, .unset, .unset] [(.ref aL)]) := fun tt kt => go222 tt (by
      refine XS.istoreN X221.here hx rfl (hb hby at_9) rfl (l' := #[iv p0, rv aL, iv (1 : Int32), .unset, .unset, .unset]) rfl ?_
      refine XS.aloadN X221.here hx rfl (hb hby at_10) rfl rfl ?_
      exact kt)
  obtain ⟨cq224, kq224, q224a, q224b, q224c⟩ := isOf hZ eh221 E_aL
  obtain ⟨_, _, ⟨T224, L224, k224, n224⟩, -, X224, ⟨Lc224, hQ224, l224, y224, z224⟩, st224⟩ := X221.virtualBack hx (y := (⟨"com/example/brancher/brancher/model/Comparison", "symbol", "()Ljava/lang/String;"⟩ : MethodName)) (z := (⟨"com/example/brancher/brancher/model/Comparison", "symbol", "()Ljava/lang/String;"⟩ : MethodName)) hown (mvT hZ (W 13 rfl)) (mvT hZ (W 14 rfl)) (notFace_of_selects (args := #[]) (mvT hZ (W 16 rfl))) (mvT hZ (W 16 rfl)) (mvT hZ (W 15 rfl)) (by decide) (backOf (W := 0) (rm3 l Z a0 hw [] aL yaL h0 n0 Z0 F_yaL) hZ (W 17 rfl) (W 5 rfl) (by decide) (by decide)) q224a q224c (g := (mkF m 11 #[iv p0, rv aL, iv (1 : Int32), .unset, .unset, .unset] [(.ref aL)])) rfl (by rw [hml]; rfl) (Steps.refl _) (argsL := []) (rest := []) (lenOf pd113 rfl) rfl (by show 2 * 0 + _ ≤ _; exact Nat.le_of_eq rfl) (hb hby at_11) (fun _ _ => ⟨rfl, eh221, (by decide : 0 + 0 ≤ _), (by decide : 0 + 0 ≤ _)⟩)
  dsimp only [Pt.U, Pt.locs, Pt.cells, Pt.slots] at X224 l224 y224 z224 st224 hQ224
  subst l224 y224 z224
  obtain ⟨rfl, Nq224, eh224⟩ := hQ224
  have N224 := Fr.app N221 Nq224
  have go225 : own_S p e below ST T224 (mkF m 14 #[iv p0, rv aL, iv (1 : Int32), .unset, .unset, .unset] [(.ref yaL)]) := fun tt kt => go223 tt (st224.trans kt)
  have go226 : own_S p e below ST T224 (mkF m 16 #[iv p0, rv aL, iv (1 : Int32), rv yaL, .unset, .unset] [(.ref yaL)]) := fun tt kt => go225 tt (by
      refine XS.astoreN X224.here hx rfl (hb hby at_14) rfl rfl (l' := #[iv p0, rv aL, iv (1 : Int32), rv yaL, .unset, .unset]) rfl ?_
      refine XS.aloadN X224.here hx rfl (hb hby at_15) rfl rfl ?_
      exact kt)
  obtain ⟨cq227, kq227, q227a, q227b, q227c⟩ := isOf hZ eh224 E_yaL
  obtain ⟨_, _, ⟨T227, L227, k227, n227⟩, -, X227, ⟨Lc227, hQ227, l227, y227, z227⟩, st227⟩ := X224.virtualBack hx (y := (⟨"java/lang/String", "length", "()I"⟩ : MethodName)) (z := (⟨"java/lang/String", "length", "()I"⟩ : MethodName)) hown (mvT hZ (W 20 rfl)) (mvT hZ (W 21 rfl)) (notFace_of_selects (args := #[]) (mvT hZ (W 23 rfl))) (mvT hZ (W 23 rfl)) (mvT hZ (W 22 rfl)) (by decide) (backOf (W := 0) (rm4 l Z a0 hw [] yaL zaL ck_zaL (2 : Int32) _ _ cs h0 n0 Z0 Sc hcs G_yaL_coder F_zaL V_zaL E_yaL) hZ (W 25 rfl) (W 24 rfl) (by decide) (by decide)) q227a q227c (g := (mkF m 16 #[iv p0, rv aL, iv (1 : Int32), rv yaL, .unset, .unset] [(.ref yaL)])) rfl (by rw [hml]; rfl) (Steps.refl _) (argsL := []) (rest := []) (lenOf pd81 rfl) rfl (by show 2 * 0 + _ ≤ _; exact Nat.le_of_eq rfl) (hb hby at_16) (fun _ _ => ⟨rfl, eh224, (by decide : 0 + 0 ≤ _), (by decide : 0 + 0 ≤ _)⟩)
  dsimp only [Pt.U, Pt.locs, Pt.cells, Pt.slots] at X227 l227 y227 z227 st227 hQ227
  subst l227 y227 z227
  obtain ⟨rfl, Nq227, eh227⟩ := hQ227
  have N227 := Fr.app N224 Nq227
  have go228 : own_S p e below ST T227 (mkF m 19 #[iv p0, rv aL, iv (1 : Int32), rv yaL, .unset, .unset] [(.int (2 : Int32))]) := fun tt kt => go226 tt (st227.trans kt)
  have go229 : own_S p e below ST T227 (mkF m 24 #[iv p0, rv aL, iv (1 : Int32), rv yaL, .unset, .unset] [(.int (0 : Int32)), (.ref yaL)]) := fun tt kt => go228 tt (by
      refine XS.ifNo X227.here hx rfl (hb hby at_19) rfl ((if0 _ _).trans (tlt (by decide : (0 : Int32) < (2 : Int32))).2.2.2) ?_
      refine XS.aloadN X227.here hx rfl (hb hby at_22) rfl rfl ?_
      refine XS.iconst X227.here hx rfl (hb hby at_23) ?_
      exact kt)
  obtain ⟨cq230, kq230, q230a, q230b, q230c⟩ := isOf hZ eh227 E_yaL
  obtain ⟨_, _, ⟨T230, L230, k230, n230⟩, -, X230, ⟨Lc230, hQ230, l230, y230, z230⟩, st230⟩ := X227.virtualBack hx (y := (⟨"java/lang/String", "charAt", "(I)C"⟩ : MethodName)) (z := (⟨"java/lang/String", "charAt", "(I)C"⟩ : MethodName)) hown (mvT hZ (W 36 rfl)) (mvT hZ (W 37 rfl)) (notFace_of_selects (args := #[]) (mvT hZ (W 39 rfl))) (mvT hZ (W 39 rfl)) (mvT hZ (W 38 rfl)) (by decide) (backOf (W := 0) (rm6 l Z a0 hw [] yaL zaL ck_zaL (2 : Int32) _ _ (62 : Int32) wf cs h0 n0 Z0 Sc hcs G_yaL_coder F_zaL V_zaL E_yaL rfl (by decide) Sf hwf) hZ (W 40 rfl) (W 24 rfl) (by decide) (by decide)) q230a q230c (g := (mkF m 24 #[iv p0, rv aL, iv (1 : Int32), rv yaL, .unset, .unset] [(.int (0 : Int32)), (.ref yaL)])) rfl (by rw [hml]; rfl) (Steps.refl _) (argsL := [(.int (0 : Int32))]) (rest := []) (lenOf pd114 rfl) rfl (by show 2 * 0 + _ ≤ _; exact Nat.le_of_eq rfl) (hb hby at_24) (fun _ _ => ⟨rfl, eh227, (by decide : 0 + 0 ≤ _), (by decide : 0 + 0 ≤ _)⟩)
  dsimp only [Pt.U, Pt.locs, Pt.cells, Pt.slots] at X230 l230 y230 z230 st230 hQ230
  subst l230 y230 z230
  obtain ⟨rfl, Nq230, eh230⟩ := hQ230
  have N230 := Fr.app N227 Nq230
  have go231 : own_S p e below ST T230 (mkF m 27 #[iv p0, rv aL, iv (1 : Int32), rv yaL, .unset, .unset] [(.int (own_ch2 (62 : Int32)))]) := fun tt kt => go229 tt (st230.trans kt)
  have go232 : own_S p e below ST T230 (mkF m 29 #[iv p0, rv aL, iv (1 : Int32), rv yaL, .unset, .unset] [(.int (62 : Int32)), (.int (own_ch2 (62 : Int32)))]) := fun tt kt => go231 tt (by
      refine XS.bipush X230.here hx rfl (hb hby at_27) ?_
      exact kt)
  have go233 : own_S p e below ST T230 (mkF m 40 #[iv p0, rv aL, iv (1 : Int32), rv yaL, iv (1 : Int32), .unset] [(.ref aL)]) := fun tt kt => go232 tt (by
      refine XS.icmpNo X230.here hx rfl (hb hby at_29) rfl (teq own_62).2 ?_
      refine XS.iconst X230.here hx rfl (hb hby at_32) ?_
      refine XS.goto X230.here hx rfl (pc0 := 33) (pc' := 37) rfl (hb hby at_33) (by decide) (by decide) ?_
      refine XS.istore X230.here hx rfl (hb hby at_37) rfl (l' := #[iv p0, rv aL, iv (1 : Int32), rv yaL, iv (1 : Int32), .unset]) rfl ?_
      refine XS.aloadN X230.here hx rfl (hb hby at_39) rfl rfl ?_
      exact kt)
  obtain ⟨cq234, kq234, q234a, q234b, q234c⟩ := isOf hZ eh230 E_aL
  obtain ⟨_, _, ⟨T234, L234, k234, n234⟩, -, X234, ⟨Lc234, hQ234, l234, y234, z234⟩, st234⟩ := X230.virtualBack hx (y := (⟨"com/example/brancher/brancher/model/Comparison", "negated", "()Lcom/example/brancher/brancher/model/Comparison;"⟩ : MethodName)) (z := (⟨"com/example/brancher/brancher/model/Comparison", "negated", "()Lcom/example/brancher/brancher/model/Comparison;"⟩ : MethodName)) hown (mvT hZ (W 58 rfl)) (mvT hZ (W 59 rfl)) (notFace_of_selects (args := #[]) (mvT hZ (W 61 rfl))) (mvT hZ (W 61 rfl)) (mvT hZ (W 60 rfl)) (by decide) (backOf (W := 0) (rm11k0 l Z a0 hw [] aL aB h0 n0 Z0 G_aL_ordinal E_aL S_aB) hZ (W 62 rfl) (W 5 rfl) (by decide) (by decide)) q234a q234c (g := (mkF m 40 #[iv p0, rv aL, iv (1 : Int32), rv yaL, iv (1 : Int32), .unset] [(.ref aL)])) rfl (by rw [hml]; rfl) (Steps.refl _) (argsL := []) (rest := []) (lenOf pd115 rfl) rfl (by show 2 * 0 + _ ≤ _; exact Nat.le_of_eq rfl) (hb hby at_40) (fun _ _ => ⟨rfl, eh230, (by decide : 0 + 0 ≤ _), (by decide : 0 + 0 ≤ _)⟩)
  dsimp only [Pt.U, Pt.locs, Pt.cells, Pt.slots] at X234 l234 y234 z234 st234 hQ234
  subst l234 y234 z234
  obtain ⟨rfl, Nq234, eh234⟩ := hQ234
  have N234 := Fr.app N230 Nq234
  have go235 : own_S p e below ST T234 (mkF m 43 #[iv p0, rv aL, iv (1 : Int32), rv yaL, iv (1 : Int32), .unset] [(.ref aB)]) := fun tt kt => go233 tt (st234.trans kt)
  obtain ⟨cq236, kq236, q236a, q236b, q236c⟩ := isOf hZ eh234 E_aB
  obtain ⟨_, _, ⟨T236, L236, k236, n236⟩, -, X236, ⟨Lc236, hQ236, l236, y236, z236⟩, st236⟩ := X234.virtualBack hx (y := (⟨"com/example/brancher/brancher/model/Comparison", "isLower", "()Z"⟩ : MethodName)) (z := (⟨"com/example/brancher/brancher/model/Comparison", "isLower", "()Z"⟩ : MethodName)) hown (mvT hZ (W 7 rfl)) (mvT hZ (W 8 rfl)) (notFace_of_selects (args := #[]) (mvT hZ (W 10 rfl))) (mvT hZ (W 10 rfl)) (mvT hZ (W 9 rfl)) (by decide) (backOf (W := 0) (rm2o l Z a0 hw [] aL aA aB h0 n0 Z0 S_aL S_aA n_aB_aL n_aB_aA) hZ (W 11 rfl) (W 5 rfl) (by decide) (by decide)) q236a q236c (g := (mkF m 43 #[iv p0, rv aL, iv (1 : Int32), rv yaL, iv (1 : Int32), .unset] [(.ref aB)])) rfl (by rw [hml]; rfl) (Steps.refl _) (argsL := []) (rest := []) (lenOf pd53 rfl) rfl (by show 2 * 0 + _ ≤ _; exact Nat.le_of_eq rfl) (hb hby at_43) (fun _ _ => ⟨rfl, eh234, (by decide : 0 + 0 ≤ _), (by decide : 0 + 0 ≤ _)⟩)
  dsimp only [Pt.U, Pt.locs, Pt.cells, Pt.slots] at X236 l236 y236 z236 st236 hQ236
  subst l236 y236 z236
  obtain ⟨rfl, Nq236, eh236⟩ := hQ236
  have N236 := Fr.app N234 Nq236
  have go237 : own_S p e below ST T236 (mkF m 46 #[iv p0, rv aL, iv (1 : Int32), rv yaL, iv (1 : Int32), .unset] [(.int (0 : Int32))]) := fun tt kt => go235 tt (st236.trans kt)
  have go238 : own_S p e below ST T236 (mkF m 73 #[iv p0, rv aL, iv (1 : Int32), rv yaL, iv (1 : Int32), iv (1 : Int32)] [(.int (1 : Int32))]) := fun tt kt => go237 tt (by
      refine XS.iloadN X236.here hx rfl (hb hby at_46) rfl ?_
      refine XS.icmpNo X236.here hx rfl (hb hby at_47) rfl (feq (by decide : ¬ ((0 : Int32) = (1 : Int32)))).1 ?_
      refine XS.iconst X236.here hx rfl (hb hby at_50) ?_
      refine XS.goto X236.here hx rfl (pc0 := 51) (pc' := 55) rfl (hb hby at_51) (by decide) (by decide) ?_
      refine XS.istore X236.here hx rfl (hb hby at_55) rfl (l' := #[iv p0, rv aL, iv (1 : Int32), rv yaL, iv (1 : Int32), iv (1 : Int32)]) rfl ?_
      refine XS.iloadN X236.here hx rfl (hb hby at_57) rfl ?_
      show Steps p.tables e below (T236.setTop (mkF m 58 #[iv p0, rv aL, iv (1 : Int32), rv yaL, iv (1 : Int32), iv (1 : Int32)] [(.int (1 : Int32))])) _
      refine XS.iload X236.here hx rfl (hb hby at_58) rfl ?_
      refine XS.icmpNo X236.here hx rfl (hb hby at_60) rfl (teq (by decide : (1 : Int32) = (1 : Int32))).2 ?_
      refine XS.iload X236.here hx rfl (hb hby at_63) rfl ?_
      refine XS.ifNo X236.here hx rfl (hb hby at_65) rfl ((if0 _ _).trans (feq (by decide : ¬ ((1 : Int32) = (0 : Int32)))).1) ?_
      refine XS.iconst X236.here hx rfl (hb hby at_68) ?_
      refine XS.goto X236.here hx rfl (pc0 := 69) (pc' := 73) rfl (hb hby at_69) (by decide) (by decide) ?_
      exact kt)
  obtain ⟨fs, hr, hrun, hended, hW, hsame⟩ := X236.leave (v := some (.int (1 : Int32))) (fun h => by rw [Bd.returns] at h; cases h)
  refine ⟨_, _, pre0 _ (go238 _ ?_), hrun, hended, _, _, rfl, ?_, ⟨_, rfl⟩, hW, hsame.mono (by decide) (by decide)⟩
  · exact retN X236 hx (t := .boolean) Bd.returns (by simp) (hb hby at_73) hr
  · show Q0k0 Z p0 aL aB aA aM yaL yaB yaM yaA zaL zaB zaM zaA ck_zaL ck_zaB ck_zaM ck_zaA wf cs h0 n0 _ T236.heap _
    rw [eh236]
    exact ⟨rfl, N236⟩
theorem ef0k1 (m : MethodId) (x0 : Int32) : entryFrame m #[(.int x0)] maxLocals = mkF m 0 #[.val (.int x0), .unset, .unset, .unset, .unset, .unset] [] := by first | (simp [entryFrame, mkF, argsToLocals, Value.category, maxLocals]; done) | rfl
def Q0k1 (Z : State) (p0 : Int32) (aL : Addr) (aB : Addr) (aA : Addr) (aM : Addr) (yaL : Addr) (yaB : Addr) (yaM : Addr) (yaA : Addr) (zaL : Addr) (zaB : Addr) (zaM : Addr) (zaA : Addr) (ck_zaL : ClassId) (ck_zaB : ClassId) (ck_zaM : ClassId) (ck_zaA : ClassId) (wf : Value) (cs : Int32) (h0 : Heap) (n0 : Nat) (v : Option Value) (h : Heap) (L : List Loc) : Prop := v = some (.int 1) ∧ Fr n0 L
set_option maxRecDepth 65536 in
set_option maxHeartbeats 40000000 in
theorem rm0k1 (l : Launch) (Z : State) (a0 : Array Value) (hw : ∀ d ∈ tables_1, d.before a0 Z = true) (ws : List Jvm.Cond) (p0 : Int32) (aL : Addr) (aB : Addr) (aA : Addr) (aM : Addr) (yaL : Addr) (yaB : Addr) (yaM : Addr) (yaA : Addr) (zaL : Addr) (zaB : Addr) (zaM : Addr) (zaA : Addr) (ck_zaL : ClassId) (ck_zaB : ClassId) (ck_zaM : ClassId) (ck_zaA : ClassId) (wf : Value) (cs : Int32) (h0 : Heap) (n0 : Nat) (Z0 : n0 ≤ h0.size) (S_aL : Sta Z h0 "com/example/brancher/brancher/model/Comparison" "AT_LEAST" "Lcom/example/brancher/brancher/model/Comparison;" (.ref aL)) (E_aL : Exa Z h0 aL "com/example/brancher/brancher/model/Comparison") (S_aB : Sta Z h0 "com/example/brancher/brancher/model/Comparison" "BELOW" "Lcom/example/brancher/brancher/model/Comparison;" (.ref aB)) (E_aB : Exa Z h0 aB "com/example/brancher/brancher/model/Comparison") (S_aA : Sta Z h0 "com/example/brancher/brancher/model/Comparison" "ABOVE" "Lcom/example/brancher/brancher/model/Comparison;" (.ref aA)) (E_aA : Exa Z h0 aA "com/example/brancher/brancher/model/Comparison") (S_aM : Sta Z h0 "com/example/brancher/brancher/model/Comparison" "AT_MOST" "Lcom/example/brancher/brancher/model/Comparison;" (.ref aM)) (E_aM : Exa Z h0 aM "com/example/brancher/brancher/model/Comparison") (F_yaL : Fld Z h0 aL "com/example/brancher/brancher/model/Comparison" "symbol" "Ljava/lang/String;" (.ref yaL)) (E_yaL : Exa Z h0 yaL "java/lang/String") (F_yaB : Fld Z h0 aB "com/example/brancher/brancher/model/Comparison" "symbol" "Ljava/lang/String;" (.ref yaB)) (E_yaB : Exa Z h0 yaB "java/lang/String") (F_yaM : Fld Z h0 aM "com/example/brancher/brancher/model/Comparison" "symbol" "Ljava/lang/String;" (.ref yaM)) (E_yaM : Exa Z h0 yaM "java/lang/String") (F_yaA : Fld Z h0 aA "com/example/brancher/brancher/model/Comparison" "symbol" "Ljava/lang/String;" (.ref yaA)) (E_yaA : Exa Z h0 yaA "java/lang/String") (F_zaL : Fld Z h0 yaL "java/lang/String" "value" "[B" (.ref zaL)) (F_zaB : Fld Z h0 yaB "java/lang/String" "value" "[B" (.ref zaB)) (F_zaM : Fld Z h0 yaM "java/lang/String" "value" "[B" (.ref zaM)) (F_zaA : Fld Z h0 yaA "java/lang/String" "value" "[B" (.ref zaA)) (G_yaL_coder : Fld Z h0 yaL "java/lang/String" "coder" "B" (.int (0 : Int32))) (G_aL_ordinal : Fld Z h0 aL "java/lang/Enum" "ordinal" "I" (.int (0 : Int32))) (G_aB_ordinal : Fld Z h0 aB "java/lang/Enum" "ordinal" "I" (.int (3 : Int32))) (G_aA_ordinal : Fld Z h0 aA "java/lang/Enum" "ordinal" "I" (.int (1 : Int32))) (G_yaB_coder : Fld Z h0 yaB "java/lang/String" "coder" "B" (.int (0 : Int32))) (G_aM_ordinal : Fld Z h0 aM "java/lang/Enum" "ordinal" "I" (.int (2 : Int32))) (G_yaM_coder : Fld Z h0 yaM "java/lang/String" "coder" "B" (.int (0 : Int32))) (G_yaA_coder : Fld Z h0 yaA "java/lang/String" "coder" "B" (.int (0 : Int32))) (V_zaL : Arv Z h0 zaL ck_zaL .byte (2 : Int32) [(.int (62 : Int32)), (.int (61 : Int32))] (.int (0 : Int32))) (V_zaB : Arv Z h0 zaB ck_zaB .byte (1 : Int32) [(.int (60 : Int32))] (.int (0 : Int32))) (V_zaM : Arv Z h0 zaM ck_zaM .byte (2 : Int32) [(.int (60 : Int32)), (.int (61 : Int32))] (.int (0 : Int32))) (V_zaA : Arv Z h0 zaA ck_zaA .byte (1 : Int32) [(.int (62 : Int32))] (.int (0 : Int32))) (Sc : Sta Z h0 "java/lang/String" "COMPACT_STRINGS" "Z" (.int cs)) (hcs : ¬ cs = 0) (Sf : Sta Z h0 "jdk/internal/util/Preconditions" "SIOOBE_FORMATTER" "Ljava/util/function/BiFunction;" wf) (hwf : wf.isRef = true) (hk : p0 &&& 3 = 1) :
    MetFree l x (head1 (Jvm.Cond.code x code maxLocals ret :: ws) room_1) (fun aa UU => aa = #[(.int p0)] ∧ Z.Warmed39 UU.vm ∧ UU.heap = h0) (fun _ _ _ _ _ => True) (fun _ UU oo UU' => ∃ vv LL, oo = .returned vv ∧ Q0k1 Z p0 aL aB aA aM yaL yaB yaM yaA zaL zaB zaM zaA ck_zaL ck_zaB ck_zaM ck_zaA wf cs h0 n0 vv UU'.heap LL ∧ FrameEnd UU oo UU' LL room_1.cells room_1.slots) := by
  have W : ∀ {d : Jvm.Cond} (i : Nat), tables_1[i]? = some d → d.before a0 Z = true := fun i h => hw _ (List.mem_of_getElem? h)
  refine MetFree.of_bodySF (plainFor_of_name pn86) hisR ?_
  intro p e s m args below meth c s₁ Bd hml0 hP hK
  obtain ⟨rfl, hZ, hh⟩ := hP
  have hx := Bd.exec
  have hby := Bd.bytes
  have hml : c.maxLocals = 6 := hml0
  have hown : s.vm.findClass "com/example/brancher/brancher/model/ComparisonIsLowerPinLaw" = some m.cls := findClass_of_methodNamed Bd.named
  have hnm := (name_of_methodNamed Bd.named Bd.method).1
  have X0 : Stand p l e room_1 s m #[(.int p0)] below meth c s₁ [] 0 0 := Stand.of_body Bd
  have e0 : s₁.heap = h0 := by rw [← hh, Bd.state]; rfl
  have N0 := Fr.nil n0
  have pre0 : ∀ tt, Steps p.tables e below (s₁.setTop (mkF m 0 #[iv p0, .unset, .unset, .unset, .unset, .unset] [])) tt → Steps p.tables e below (s₁.setTop (entryFrame m #[(.int p0)] maxLocals)) tt := fun tt kt => castTop (ef0k1 m p0) kt
  obtain ⟨ST, hST⟩ : ∃ z : State, z = s₁.setTop (mkF m 0 #[iv p0, .unset, .unset, .unset, .unset, .unset] []) := ⟨_, rfl⟩
  rw [← hST] at pre0
  have n1 : aA ≠ aL := Fld.ne G_aA_ordinal G_aL_ordinal (fun q => absurd (Value.int.inj q) (by decide))
  have n_aM_aL : aM ≠ aL := Fld.ne G_aM_ordinal G_aL_ordinal (fun q => absurd (Value.int.inj q) (by decide))
  have n_aM_aA : aM ≠ aA := Fld.ne G_aM_ordinal G_aA_ordinal (fun q => absurd (Value.int.inj q) (by decide))
  have n_aB_aL : aB ≠ aL := Fld.ne G_aB_ordinal G_aL_ordinal (fun q => absurd (Value.int.inj q) (by decide))
  have n_aB_aA : aB ≠ aA := Fld.ne G_aB_ordinal G_aA_ordinal (fun q => absurd (Value.int.inj q) (by decide))
  have go239 : own_S p e below ST s₁ (mkF m 1 #[iv p0, .unset, .unset, .unset, .unset, .unset] [(.int p0)]) := fun tt kt => (by
      rw [hST]
      show Steps p.tables e below (s₁.setTop (mkF m 0 #[iv p0, .unset, .unset, .unset, .unset, .unset] [])) _
      refine XS.iloadN X0.here hx rfl (hb hby at_0) rfl ?_
      exact kt)
  obtain ⟨_, _, ⟨T240, L240, k240, n240⟩, -, X240, ⟨Lc240, hQ240, l240, y240, z240⟩, st240⟩ := Jvm.LawKit.callS X0 hx (y := (⟨"com/example/brancher/brancher/model/ComparisonIsLowerPinLaw", "pick", "(I)Lcom/example/brancher/brancher/model/Comparison;"⟩ : MethodName)) hown (mvT hZ (W 0 rfl)) (mvT hZ (W 1 rfl)) (mvT hZ (W 2 rfl)) (mvT hZ (W 3 rfl)) (by decide) (backOf (W := 0) (rm1k1 l Z a0 hw [] p0 aA h0 n0 Z0 hk S_aA) hZ (W 3 rfl) (W 2 rfl) (by decide) (by decide)) (g := (mkF m 1 #[iv p0, .unset, .unset, .unset, .unset, .unset] [(.int p0)])) rfl (by rw [hml]; rfl) (argsL := [(.int p0)]) (rest := []) (lenOf pd112 rfl) rfl (by show 2 * 0 + _ ≤ _; exact Nat.le_of_eq rfl) (hb hby at_1) (fun _ _ => ⟨rfl, e0, (by decide : 0 + 0 ≤ _), (by decide : 0 + 0 ≤ _)⟩)
  dsimp only [Pt.U, Pt.locs, Pt.cells, Pt.slots] at X240 l240 y240 z240 st240 hQ240
  subst l240 y240 z240
  obtain ⟨rfl, Nq240, eh240⟩ := hQ240
  have N240 := Fr.app N0 Nq240
  have go241 : own_S p e below ST T240 (mkF m 4 #[iv p0, .unset, .unset, .unset, .unset, .unset] [(.ref aA)]) := fun tt kt => go239 tt (st240 _ kt)
  have go242 : own_S p e below ST T240 (mkF m 6 #[iv p0, rv aA, .unset, .unset, .unset, .unset] [(.ref aA)]) := fun tt kt => go241 tt (by
      refine XS.astoreN X240.here hx rfl (hb hby at_4) rfl rfl (l' := #[iv p0, rv aA, .unset, .unset, .unset, .unset]) rfl ?_
      refine XS.aloadN X240.here hx rfl (hb hby at_5) rfl rfl ?_
      exact kt)
  obtain ⟨cq243, kq243, q243a, q243b, q243c⟩ := isOf hZ eh240 E_aA
  obtain ⟨_, _, ⟨T243, L243, k243, n243⟩, -, X243, ⟨Lc243, hQ243, l243, y243, z243⟩, st243⟩ := X240.virtualBack hx (y := (⟨"com/example/brancher/brancher/model/Comparison", "isLower", "()Z"⟩ : MethodName)) (z := (⟨"com/example/brancher/brancher/model/Comparison", "isLower", "()Z"⟩ : MethodName)) hown (mvT hZ (W 7 rfl)) (mvT hZ (W 8 rfl)) (notFace_of_selects (args := #[]) (mvT hZ (W 10 rfl))) (mvT hZ (W 10 rfl)) (mvT hZ (W 9 rfl)) (by decide) (backOf (W := 0) (rm2t l Z a0 hw [] aL aA h0 n0 Z0 S_aL S_aA n1) hZ (W 11 rfl) (W 5 rfl) (by decide) (by decide)) q243a q243c (g := (mkF m 6 #[iv p0, rv aA, .unset, .unset, .unset, .unset] [(.ref aA)])) rfl (by rw [hml]; rfl) (Steps.refl _) (argsL := []) (rest := []) (lenOf pd53 rfl) rfl (by show 2 * 0 + _ ≤ _; exact Nat.le_of_eq rfl) (hb hby at_6) (fun _ _ => ⟨rfl, eh240, (by decide : 0 + 0 ≤ _), (by decide : 0 + 0 ≤ _)⟩)
  dsimp only [Pt.U, Pt.locs, Pt.cells, Pt.slots] at X243 l243 y243 z243 st243 hQ243
  subst l243 y243 z243
  obtain ⟨rfl, Nq243, eh243⟩ := hQ243
  have N243 := Fr.app N240 Nq243
  have go244 : own_S p e below ST T243 (mkF m 9 #[iv p0, rv aA, .unset, .unset, .unset, .unset] [(.int (1 : Int32))]) := fun tt kt => go242 tt (st243.trans kt)
  have go245 : own_S p e below ST T243 (mkF m 11 #[iv p0, rv aA, iv (1 : Int32), .unset, .unset, .unset] [(.ref aA)]) := fun tt kt => go244 tt (by
      refine XS.istoreN X243.here hx rfl (hb hby at_9) rfl (l' := #[iv p0, rv aA, iv (1 : Int32), .unset, .unset, .unset]) rfl ?_
      refine XS.aloadN X243.here hx rfl (hb hby at_10) rfl rfl ?_
      exact kt)
  obtain ⟨cq246, kq246, q246a, q246b, q246c⟩ := isOf hZ eh243 E_aA
  obtain ⟨_, _, ⟨T246, L246, k246, n246⟩, -, X246, ⟨Lc246, hQ246, l246, y246, z246⟩, st246⟩ := X243.virtualBack hx (y := (⟨"com/example/brancher/brancher/model/Comparison", "symbol", "()Ljava/lang/String;"⟩ : MethodName)) (z := (⟨"com/example/brancher/brancher/model/Comparison", "symbol", "()Ljava/lang/String;"⟩ : MethodName)) hown (mvT hZ (W 13 rfl)) (mvT hZ (W 14 rfl)) (notFace_of_selects (args := #[]) (mvT hZ (W 16 rfl))) (mvT hZ (W 16 rfl)) (mvT hZ (W 15 rfl)) (by decide) (backOf (W := 0) (rm3 l Z a0 hw [] aA yaA h0 n0 Z0 F_yaA) hZ (W 17 rfl) (W 5 rfl) (by decide) (by decide)) q246a q246c (g := (mkF m 11 #[iv p0, rv aA, iv (1 : Int32), .unset, .unset, .unset] [(.ref aA)])) rfl (by rw [hml]; rfl) (Steps.refl _) (argsL := []) (rest := []) (lenOf pd113 rfl) rfl (by show 2 * 0 + _ ≤ _; exact Nat.le_of_eq rfl) (hb hby at_11) (fun _ _ => ⟨rfl, eh243, (by decide : 0 + 0 ≤ _), (by decide : 0 + 0 ≤ _)⟩)
  dsimp only [Pt.U, Pt.locs, Pt.cells, Pt.slots] at X246 l246 y246 z246 st246 hQ246
  subst l246 y246 z246
  obtain ⟨rfl, Nq246, eh246⟩ := hQ246
  have N246 := Fr.app N243 Nq246
  have go247 : own_S p e below ST T246 (mkF m 14 #[iv p0, rv aA, iv (1 : Int32), .unset, .unset, .unset] [(.ref yaA)]) := fun tt kt => go245 tt (st246.trans kt)
  have go248 : own_S p e below ST T246 (mkF m 16 #[iv p0, rv aA, iv (1 : Int32), rv yaA, .unset, .unset] [(.ref yaA)]) := fun tt kt => go247 tt (by
      refine XS.astoreN X246.here hx rfl (hb hby at_14) rfl rfl (l' := #[iv p0, rv aA, iv (1 : Int32), rv yaA, .unset, .unset]) rfl ?_
      refine XS.aloadN X246.here hx rfl (hb hby at_15) rfl rfl ?_
      exact kt)
  obtain ⟨cq249, kq249, q249a, q249b, q249c⟩ := isOf hZ eh246 E_yaA
  obtain ⟨_, _, ⟨T249, L249, k249, n249⟩, -, X249, ⟨Lc249, hQ249, l249, y249, z249⟩, st249⟩ := X246.virtualBack hx (y := (⟨"java/lang/String", "length", "()I"⟩ : MethodName)) (z := (⟨"java/lang/String", "length", "()I"⟩ : MethodName)) hown (mvT hZ (W 20 rfl)) (mvT hZ (W 21 rfl)) (notFace_of_selects (args := #[]) (mvT hZ (W 23 rfl))) (mvT hZ (W 23 rfl)) (mvT hZ (W 22 rfl)) (by decide) (backOf (W := 0) (rm4 l Z a0 hw [] yaA zaA ck_zaA (1 : Int32) _ _ cs h0 n0 Z0 Sc hcs G_yaA_coder F_zaA V_zaA E_yaA) hZ (W 25 rfl) (W 24 rfl) (by decide) (by decide)) q249a q249c (g := (mkF m 16 #[iv p0, rv aA, iv (1 : Int32), rv yaA, .unset, .unset] [(.ref yaA)])) rfl (by rw [hml]; rfl) (Steps.refl _) (argsL := []) (rest := []) (lenOf pd81 rfl) rfl (by show 2 * 0 + _ ≤ _; exact Nat.le_of_eq rfl) (hb hby at_16) (fun _ _ => ⟨rfl, eh246, (by decide : 0 + 0 ≤ _), (by decide : 0 + 0 ≤ _)⟩)
  dsimp only [Pt.U, Pt.locs, Pt.cells, Pt.slots] at X249 l249 y249 z249 st249 hQ249
  subst l249 y249 z249
  obtain ⟨rfl, Nq249, eh249⟩ := hQ249
  have N249 := Fr.app N246 Nq249
  have go250 : own_S p e below ST T249 (mkF m 19 #[iv p0, rv aA, iv (1 : Int32), rv yaA, .unset, .unset] [(.int (1 : Int32))]) := fun tt kt => go248 tt (st249.trans kt)
  have go251 : own_S p e below ST T249 (mkF m 24 #[iv p0, rv aA, iv (1 : Int32), rv yaA, .unset, .unset] [(.int (0 : Int32)), (.ref yaA)]) := fun tt kt => go250 tt (by
      refine XS.ifNo X249.here hx rfl (hb hby at_19) rfl ((if0 _ _).trans (tlt (by decide : (0 : Int32) < (1 : Int32))).2.2.2) ?_
      refine XS.aloadN X249.here hx rfl (hb hby at_22) rfl rfl ?_
      refine XS.iconst X249.here hx rfl (hb hby at_23) ?_
      exact kt)
  obtain ⟨cq252, kq252, q252a, q252b, q252c⟩ := isOf hZ eh249 E_yaA
  obtain ⟨_, _, ⟨T252, L252, k252, n252⟩, -, X252, ⟨Lc252, hQ252, l252, y252, z252⟩, st252⟩ := X249.virtualBack hx (y := (⟨"java/lang/String", "charAt", "(I)C"⟩ : MethodName)) (z := (⟨"java/lang/String", "charAt", "(I)C"⟩ : MethodName)) hown (mvT hZ (W 36 rfl)) (mvT hZ (W 37 rfl)) (notFace_of_selects (args := #[]) (mvT hZ (W 39 rfl))) (mvT hZ (W 39 rfl)) (mvT hZ (W 38 rfl)) (by decide) (backOf (W := 0) (rm6 l Z a0 hw [] yaA zaA ck_zaA (1 : Int32) _ _ (62 : Int32) wf cs h0 n0 Z0 Sc hcs G_yaA_coder F_zaA V_zaA E_yaA rfl (by decide) Sf hwf) hZ (W 40 rfl) (W 24 rfl) (by decide) (by decide)) q252a q252c (g := (mkF m 24 #[iv p0, rv aA, iv (1 : Int32), rv yaA, .unset, .unset] [(.int (0 : Int32)), (.ref yaA)])) rfl (by rw [hml]; rfl) (Steps.refl _) (argsL := [(.int (0 : Int32))]) (rest := []) (lenOf pd114 rfl) rfl (by show 2 * 0 + _ ≤ _; exact Nat.le_of_eq rfl) (hb hby at_24) (fun _ _ => ⟨rfl, eh249, (by decide : 0 + 0 ≤ _), (by decide : 0 + 0 ≤ _)⟩)
  dsimp only [Pt.U, Pt.locs, Pt.cells, Pt.slots] at X252 l252 y252 z252 st252 hQ252
  subst l252 y252 z252
  obtain ⟨rfl, Nq252, eh252⟩ := hQ252
  have N252 := Fr.app N249 Nq252
  have go253 : own_S p e below ST T252 (mkF m 27 #[iv p0, rv aA, iv (1 : Int32), rv yaA, .unset, .unset] [(.int (own_ch2 (62 : Int32)))]) := fun tt kt => go251 tt (st252.trans kt)
  have go254 : own_S p e below ST T252 (mkF m 29 #[iv p0, rv aA, iv (1 : Int32), rv yaA, .unset, .unset] [(.int (62 : Int32)), (.int (own_ch2 (62 : Int32)))]) := fun tt kt => go253 tt (by
      refine XS.bipush X252.here hx rfl (hb hby at_27) ?_
      exact kt)
  have go255 : own_S p e below ST T252 (mkF m 40 #[iv p0, rv aA, iv (1 : Int32), rv yaA, iv (1 : Int32), .unset] [(.ref aA)]) := fun tt kt => go254 tt (by
      refine XS.icmpNo X252.here hx rfl (hb hby at_29) rfl (teq own_62).2 ?_
      refine XS.iconst X252.here hx rfl (hb hby at_32) ?_
      refine XS.goto X252.here hx rfl (pc0 := 33) (pc' := 37) rfl (hb hby at_33) (by decide) (by decide) ?_
      refine XS.istore X252.here hx rfl (hb hby at_37) rfl (l' := #[iv p0, rv aA, iv (1 : Int32), rv yaA, iv (1 : Int32), .unset]) rfl ?_
      refine XS.aloadN X252.here hx rfl (hb hby at_39) rfl rfl ?_
      exact kt)
  obtain ⟨cq256, kq256, q256a, q256b, q256c⟩ := isOf hZ eh252 E_aA
  obtain ⟨_, _, ⟨T256, L256, k256, n256⟩, -, X256, ⟨Lc256, hQ256, l256, y256, z256⟩, st256⟩ := X252.virtualBack hx (y := (⟨"com/example/brancher/brancher/model/Comparison", "negated", "()Lcom/example/brancher/brancher/model/Comparison;"⟩ : MethodName)) (z := (⟨"com/example/brancher/brancher/model/Comparison", "negated", "()Lcom/example/brancher/brancher/model/Comparison;"⟩ : MethodName)) hown (mvT hZ (W 58 rfl)) (mvT hZ (W 59 rfl)) (notFace_of_selects (args := #[]) (mvT hZ (W 61 rfl))) (mvT hZ (W 61 rfl)) (mvT hZ (W 60 rfl)) (by decide) (backOf (W := 0) (rm11k1 l Z a0 hw [] aA aM h0 n0 Z0 G_aA_ordinal E_aA S_aM) hZ (W 62 rfl) (W 5 rfl) (by decide) (by decide)) q256a q256c (g := (mkF m 40 #[iv p0, rv aA, iv (1 : Int32), rv yaA, iv (1 : Int32), .unset] [(.ref aA)])) rfl (by rw [hml]; rfl) (Steps.refl _) (argsL := []) (rest := []) (lenOf pd115 rfl) rfl (by show 2 * 0 + _ ≤ _; exact Nat.le_of_eq rfl) (hb hby at_40) (fun _ _ => ⟨rfl, eh252, (by decide : 0 + 0 ≤ _), (by decide : 0 + 0 ≤ _)⟩)
  dsimp only [Pt.U, Pt.locs, Pt.cells, Pt.slots] at X256 l256 y256 z256 st256 hQ256
  subst l256 y256 z256
  obtain ⟨rfl, Nq256, eh256⟩ := hQ256
  have N256 := Fr.app N252 Nq256
  have go257 : own_S p e below ST T256 (mkF m 43 #[iv p0, rv aA, iv (1 : Int32), rv yaA, iv (1 : Int32), .unset] [(.ref aM)]) := fun tt kt => go255 tt (st256.trans kt)
  obtain ⟨cq258, kq258, q258a, q258b, q258c⟩ := isOf hZ eh256 E_aM
  obtain ⟨_, _, ⟨T258, L258, k258, n258⟩, -, X258, ⟨Lc258, hQ258, l258, y258, z258⟩, st258⟩ := X256.virtualBack hx (y := (⟨"com/example/brancher/brancher/model/Comparison", "isLower", "()Z"⟩ : MethodName)) (z := (⟨"com/example/brancher/brancher/model/Comparison", "isLower", "()Z"⟩ : MethodName)) hown (mvT hZ (W 7 rfl)) (mvT hZ (W 8 rfl)) (notFace_of_selects (args := #[]) (mvT hZ (W 10 rfl))) (mvT hZ (W 10 rfl)) (mvT hZ (W 9 rfl)) (by decide) (backOf (W := 0) (rm2o l Z a0 hw [] aL aA aM h0 n0 Z0 S_aL S_aA n_aM_aL n_aM_aA) hZ (W 11 rfl) (W 5 rfl) (by decide) (by decide)) q258a q258c (g := (mkF m 43 #[iv p0, rv aA, iv (1 : Int32), rv yaA, iv (1 : Int32), .unset] [(.ref aM)])) rfl (by rw [hml]; rfl) (Steps.refl _) (argsL := []) (rest := []) (lenOf pd53 rfl) rfl (by show 2 * 0 + _ ≤ _; exact Nat.le_of_eq rfl) (hb hby at_43) (fun _ _ => ⟨rfl, eh256, (by decide : 0 + 0 ≤ _), (by decide : 0 + 0 ≤ _)⟩)
  dsimp only [Pt.U, Pt.locs, Pt.cells, Pt.slots] at X258 l258 y258 z258 st258 hQ258
  subst l258 y258 z258
  obtain ⟨rfl, Nq258, eh258⟩ := hQ258
  have N258 := Fr.app N256 Nq258
  have go259 : own_S p e below ST T258 (mkF m 46 #[iv p0, rv aA, iv (1 : Int32), rv yaA, iv (1 : Int32), .unset] [(.int (0 : Int32))]) := fun tt kt => go257 tt (st258.trans kt)
  have go260 : own_S p e below ST T258 (mkF m 73 #[iv p0, rv aA, iv (1 : Int32), rv yaA, iv (1 : Int32), iv (1 : Int32)] [(.int (1 : Int32))]) := fun tt kt => go259 tt (by
      refine XS.iloadN X258.here hx rfl (hb hby at_46) rfl ?_
      refine XS.icmpNo X258.here hx rfl (hb hby at_47) rfl (feq (by decide : ¬ ((0 : Int32) = (1 : Int32)))).1 ?_
      refine XS.iconst X258.here hx rfl (hb hby at_50) ?_
      refine XS.goto X258.here hx rfl (pc0 := 51) (pc' := 55) rfl (hb hby at_51) (by decide) (by decide) ?_
      refine XS.istore X258.here hx rfl (hb hby at_55) rfl (l' := #[iv p0, rv aA, iv (1 : Int32), rv yaA, iv (1 : Int32), iv (1 : Int32)]) rfl ?_
      refine XS.iloadN X258.here hx rfl (hb hby at_57) rfl ?_
      show Steps p.tables e below (T258.setTop (mkF m 58 #[iv p0, rv aA, iv (1 : Int32), rv yaA, iv (1 : Int32), iv (1 : Int32)] [(.int (1 : Int32))])) _
      refine XS.iload X258.here hx rfl (hb hby at_58) rfl ?_
      refine XS.icmpNo X258.here hx rfl (hb hby at_60) rfl (teq (by decide : (1 : Int32) = (1 : Int32))).2 ?_
      refine XS.iload X258.here hx rfl (hb hby at_63) rfl ?_
      refine XS.ifNo X258.here hx rfl (hb hby at_65) rfl ((if0 _ _).trans (feq (by decide : ¬ ((1 : Int32) = (0 : Int32)))).1) ?_
      refine XS.iconst X258.here hx rfl (hb hby at_68) ?_
      refine XS.goto X258.here hx rfl (pc0 := 69) (pc' := 73) rfl (hb hby at_69) (by decide) (by decide) ?_
      exact kt)
  obtain ⟨fs, hr, hrun, hended, hW, hsame⟩ := X258.leave (v := some (.int (1 : Int32))) (fun h => by rw [Bd.returns] at h; cases h)
  refine ⟨_, _, pre0 _ (go260 _ ?_), hrun, hended, _, _, rfl, ?_, ⟨_, rfl⟩, hW, hsame.mono (by decide) (by decide)⟩
  · exact retN X258 hx (t := .boolean) Bd.returns (by simp) (hb hby at_73) hr
  · show Q0k1 Z p0 aL aB aA aM yaL yaB yaM yaA zaL zaB zaM zaA ck_zaL ck_zaB ck_zaM ck_zaA wf cs h0 n0 _ T258.heap _
    rw [eh258]
    exact ⟨rfl, N258⟩
theorem ef0k2 (m : MethodId) (x0 : Int32) : entryFrame m #[(.int x0)] maxLocals = mkF m 0 #[.val (.int x0), .unset, .unset, .unset, .unset, .unset] [] := by first | (simp [entryFrame, mkF, argsToLocals, Value.category, maxLocals]; done) | rfl
def Q0k2 (Z : State) (p0 : Int32) (aL : Addr) (aB : Addr) (aA : Addr) (aM : Addr) (yaL : Addr) (yaB : Addr) (yaM : Addr) (yaA : Addr) (zaL : Addr) (zaB : Addr) (zaM : Addr) (zaA : Addr) (ck_zaL : ClassId) (ck_zaB : ClassId) (ck_zaM : ClassId) (ck_zaA : ClassId) (wf : Value) (cs : Int32) (h0 : Heap) (n0 : Nat) (v : Option Value) (h : Heap) (L : List Loc) : Prop := v = some (.int 1) ∧ Fr n0 L
set_option maxRecDepth 65536 in
set_option maxHeartbeats 40000000 in
theorem rm0k2 (l : Launch) (Z : State) (a0 : Array Value) (hw : ∀ d ∈ tables_1, d.before a0 Z = true) (ws : List Jvm.Cond) (p0 : Int32) (aL : Addr) (aB : Addr) (aA : Addr) (aM : Addr) (yaL : Addr) (yaB : Addr) (yaM : Addr) (yaA : Addr) (zaL : Addr) (zaB : Addr) (zaM : Addr) (zaA : Addr) (ck_zaL : ClassId) (ck_zaB : ClassId) (ck_zaM : ClassId) (ck_zaA : ClassId) (wf : Value) (cs : Int32) (h0 : Heap) (n0 : Nat) (Z0 : n0 ≤ h0.size) (S_aL : Sta Z h0 "com/example/brancher/brancher/model/Comparison" "AT_LEAST" "Lcom/example/brancher/brancher/model/Comparison;" (.ref aL)) (E_aL : Exa Z h0 aL "com/example/brancher/brancher/model/Comparison") (S_aB : Sta Z h0 "com/example/brancher/brancher/model/Comparison" "BELOW" "Lcom/example/brancher/brancher/model/Comparison;" (.ref aB)) (E_aB : Exa Z h0 aB "com/example/brancher/brancher/model/Comparison") (S_aA : Sta Z h0 "com/example/brancher/brancher/model/Comparison" "ABOVE" "Lcom/example/brancher/brancher/model/Comparison;" (.ref aA)) (E_aA : Exa Z h0 aA "com/example/brancher/brancher/model/Comparison") (S_aM : Sta Z h0 "com/example/brancher/brancher/model/Comparison" "AT_MOST" "Lcom/example/brancher/brancher/model/Comparison;" (.ref aM)) (E_aM : Exa Z h0 aM "com/example/brancher/brancher/model/Comparison") (F_yaL : Fld Z h0 aL "com/example/brancher/brancher/model/Comparison" "symbol" "Ljava/lang/String;" (.ref yaL)) (E_yaL : Exa Z h0 yaL "java/lang/String") (F_yaB : Fld Z h0 aB "com/example/brancher/brancher/model/Comparison" "symbol" "Ljava/lang/String;" (.ref yaB)) (E_yaB : Exa Z h0 yaB "java/lang/String") (F_yaM : Fld Z h0 aM "com/example/brancher/brancher/model/Comparison" "symbol" "Ljava/lang/String;" (.ref yaM)) (E_yaM : Exa Z h0 yaM "java/lang/String") (F_yaA : Fld Z h0 aA "com/example/brancher/brancher/model/Comparison" "symbol" "Ljava/lang/String;" (.ref yaA)) (E_yaA : Exa Z h0 yaA "java/lang/String") (F_zaL : Fld Z h0 yaL "java/lang/String" "value" "[B" (.ref zaL)) (F_zaB : Fld Z h0 yaB "java/lang/String" "value" "[B" (.ref zaB)) (F_zaM : Fld Z h0 yaM "java/lang/String" "value" "[B" (.ref zaM)) (F_zaA : Fld Z h0 yaA "java/lang/String" "value" "[B" (.ref zaA)) (G_yaL_coder : Fld Z h0 yaL "java/lang/String" "coder" "B" (.int (0 : Int32))) (G_aL_ordinal : Fld Z h0 aL "java/lang/Enum" "ordinal" "I" (.int (0 : Int32))) (G_aB_ordinal : Fld Z h0 aB "java/lang/Enum" "ordinal" "I" (.int (3 : Int32))) (G_aA_ordinal : Fld Z h0 aA "java/lang/Enum" "ordinal" "I" (.int (1 : Int32))) (G_yaB_coder : Fld Z h0 yaB "java/lang/String" "coder" "B" (.int (0 : Int32))) (G_aM_ordinal : Fld Z h0 aM "java/lang/Enum" "ordinal" "I" (.int (2 : Int32))) (G_yaM_coder : Fld Z h0 yaM "java/lang/String" "coder" "B" (.int (0 : Int32))) (G_yaA_coder : Fld Z h0 yaA "java/lang/String" "coder" "B" (.int (0 : Int32))) (V_zaL : Arv Z h0 zaL ck_zaL .byte (2 : Int32) [(.int (62 : Int32)), (.int (61 : Int32))] (.int (0 : Int32))) (V_zaB : Arv Z h0 zaB ck_zaB .byte (1 : Int32) [(.int (60 : Int32))] (.int (0 : Int32))) (V_zaM : Arv Z h0 zaM ck_zaM .byte (2 : Int32) [(.int (60 : Int32)), (.int (61 : Int32))] (.int (0 : Int32))) (V_zaA : Arv Z h0 zaA ck_zaA .byte (1 : Int32) [(.int (62 : Int32))] (.int (0 : Int32))) (Sc : Sta Z h0 "java/lang/String" "COMPACT_STRINGS" "Z" (.int cs)) (hcs : ¬ cs = 0) (Sf : Sta Z h0 "jdk/internal/util/Preconditions" "SIOOBE_FORMATTER" "Ljava/util/function/BiFunction;" wf) (hwf : wf.isRef = true) (hk : p0 &&& 3 = 2) :
    MetFree l x (head1 (Jvm.Cond.code x code maxLocals ret :: ws) room_1) (fun aa UU => aa = #[(.int p0)] ∧ Z.Warmed39 UU.vm ∧ UU.heap = h0) (fun _ _ _ _ _ => True) (fun _ UU oo UU' => ∃ vv LL, oo = .returned vv ∧ Q0k2 Z p0 aL aB aA aM yaL yaB yaM yaA zaL zaB zaM zaA ck_zaL ck_zaB ck_zaM ck_zaA wf cs h0 n0 vv UU'.heap LL ∧ FrameEnd UU oo UU' LL room_1.cells room_1.slots) := by
  have W : ∀ {d : Jvm.Cond} (i : Nat), tables_1[i]? = some d → d.before a0 Z = true := fun i h => hw _ (List.mem_of_getElem? h)
  refine MetFree.of_bodySF (plainFor_of_name pn86) hisR ?_
  intro p e s m args below meth c s₁ Bd hml0 hP hK
  obtain ⟨rfl, hZ, hh⟩ := hP
  have hx := Bd.exec
  have hby := Bd.bytes
  have hml : c.maxLocals = 6 := hml0
  have hown : s.vm.findClass "com/example/brancher/brancher/model/ComparisonIsLowerPinLaw" = some m.cls := findClass_of_methodNamed Bd.named
  have hnm := (name_of_methodNamed Bd.named Bd.method).1
  have X0 : Stand p l e room_1 s m #[(.int p0)] below meth c s₁ [] 0 0 := Stand.of_body Bd
  have e0 : s₁.heap = h0 := by rw [← hh, Bd.state]; rfl
  have N0 := Fr.nil n0
  have pre0 : ∀ tt, Steps p.tables e below (s₁.setTop (mkF m 0 #[iv p0, .unset, .unset, .unset, .unset, .unset] [])) tt → Steps p.tables e below (s₁.setTop (entryFrame m #[(.int p0)] maxLocals)) tt := fun tt kt => castTop (ef0k2 m p0) kt
  obtain ⟨ST, hST⟩ : ∃ z : State, z = s₁.setTop (mkF m 0 #[iv p0, .unset, .unset, .unset, .unset, .unset] []) := ⟨_, rfl⟩
  rw [← hST] at pre0
  have n1 : aA ≠ aL := Fld.ne G_aA_ordinal G_aL_ordinal (fun q => absurd (Value.int.inj q) (by decide))
  have n_aM_aL : aM ≠ aL := Fld.ne G_aM_ordinal G_aL_ordinal (fun q => absurd (Value.int.inj q) (by decide))
  have n_aM_aA : aM ≠ aA := Fld.ne G_aM_ordinal G_aA_ordinal (fun q => absurd (Value.int.inj q) (by decide))
  have n_aB_aL : aB ≠ aL := Fld.ne G_aB_ordinal G_aL_ordinal (fun q => absurd (Value.int.inj q) (by decide))
  have n_aB_aA : aB ≠ aA := Fld.ne G_aB_ordinal G_aA_ordinal (fun q => absurd (Value.int.inj q) (by decide))
  have go261 : own_S p e below ST s₁ (mkF m 1 #[iv p0, .unset, .unset, .unset, .unset, .unset] [(.int p0)]) := fun tt kt => (by
      rw [hST]
      show Steps p.tables e below (s₁.setTop (mkF m 0 #[iv p0, .unset, .unset, .unset, .unset, .unset] [])) _
      refine XS.iloadN X0.here hx rfl (hb hby at_0) rfl ?_
      exact kt)
  obtain ⟨_, _, ⟨T262, L262, k262, n262⟩, -, X262, ⟨Lc262, hQ262, l262, y262, z262⟩, st262⟩ := Jvm.LawKit.callS X0 hx (y := (⟨"com/example/brancher/brancher/model/ComparisonIsLowerPinLaw", "pick", "(I)Lcom/example/brancher/brancher/model/Comparison;"⟩ : MethodName)) hown (mvT hZ (W 0 rfl)) (mvT hZ (W 1 rfl)) (mvT hZ (W 2 rfl)) (mvT hZ (W 3 rfl)) (by decide) (backOf (W := 0) (rm1k2 l Z a0 hw [] p0 aM h0 n0 Z0 hk S_aM) hZ (W 3 rfl) (W 2 rfl) (by decide) (by decide)) (g := (mkF m 1 #[iv p0, .unset, .unset, .unset, .unset, .unset] [(.int p0)])) rfl (by rw [hml]; rfl) (argsL := [(.int p0)]) (rest := []) (lenOf pd112 rfl) rfl (by show 2 * 0 + _ ≤ _; exact Nat.le_of_eq rfl) (hb hby at_1) (fun _ _ => ⟨rfl, e0, (by decide : 0 + 0 ≤ _), (by decide : 0 + 0 ≤ _)⟩)
  dsimp only [Pt.U, Pt.locs, Pt.cells, Pt.slots] at X262 l262 y262 z262 st262 hQ262
  subst l262 y262 z262
  obtain ⟨rfl, Nq262, eh262⟩ := hQ262
  have N262 := Fr.app N0 Nq262
  have go263 : own_S p e below ST T262 (mkF m 4 #[iv p0, .unset, .unset, .unset, .unset, .unset] [(.ref aM)]) := fun tt kt => go261 tt (st262 _ kt)
  have go264 : own_S p e below ST T262 (mkF m 6 #[iv p0, rv aM, .unset, .unset, .unset, .unset] [(.ref aM)]) := fun tt kt => go263 tt (by
      refine XS.astoreN X262.here hx rfl (hb hby at_4) rfl rfl (l' := #[iv p0, rv aM, .unset, .unset, .unset, .unset]) rfl ?_
      refine XS.aloadN X262.here hx rfl (hb hby at_5) rfl rfl ?_
      exact kt)
  obtain ⟨cq265, kq265, q265a, q265b, q265c⟩ := isOf hZ eh262 E_aM
  obtain ⟨_, _, ⟨T265, L265, k265, n265⟩, -, X265, ⟨Lc265, hQ265, l265, y265, z265⟩, st265⟩ := X262.virtualBack hx (y := (⟨"com/example/brancher/brancher/model/Comparison", "isLower", "()Z"⟩ : MethodName)) (z := (⟨"com/example/brancher/brancher/model/Comparison", "isLower", "()Z"⟩ : MethodName)) hown (mvT hZ (W 7 rfl)) (mvT hZ (W 8 rfl)) (notFace_of_selects (args := #[]) (mvT hZ (W 10 rfl))) (mvT hZ (W 10 rfl)) (mvT hZ (W 9 rfl)) (by decide) (backOf (W := 0) (rm2o l Z a0 hw [] aL aA aM h0 n0 Z0 S_aL S_aA n_aM_aL n_aM_aA) hZ (W 11 rfl) (W 5 rfl) (by decide) (by decide)) q265a q265c (g := (mkF m 6 #[iv p0, rv aM, .unset, .unset, .unset, .unset] [(.ref aM)])) rfl (by rw [hml]; rfl) (Steps.refl _) (argsL := []) (rest := []) (lenOf pd53 rfl) rfl (by show 2 * 0 + _ ≤ _; exact Nat.le_of_eq rfl) (hb hby at_6) (fun _ _ => ⟨rfl, eh262, (by decide : 0 + 0 ≤ _), (by decide : 0 + 0 ≤ _)⟩)
  dsimp only [Pt.U, Pt.locs, Pt.cells, Pt.slots] at X265 l265 y265 z265 st265 hQ265
  subst l265 y265 z265
  obtain ⟨rfl, Nq265, eh265⟩ := hQ265
  have N265 := Fr.app N262 Nq265
  have go266 : own_S p e below ST T265 (mkF m 9 #[iv p0, rv aM, .unset, .unset, .unset, .unset] [(.int (0 : Int32))]) := fun tt kt => go264 tt (st265.trans kt)
  have go267 : own_S p e below ST T265 (mkF m 11 #[iv p0, rv aM, iv (0 : Int32), .unset, .unset, .unset] [(.ref aM)]) := fun tt kt => go266 tt (by
      refine XS.istoreN X265.here hx rfl (hb hby at_9) rfl (l' := #[iv p0, rv aM, iv (0 : Int32), .unset, .unset, .unset]) rfl ?_
      refine XS.aloadN X265.here hx rfl (hb hby at_10) rfl rfl ?_
      exact kt)
  obtain ⟨cq268, kq268, q268a, q268b, q268c⟩ := isOf hZ eh265 E_aM
  obtain ⟨_, _, ⟨T268, L268, k268, n268⟩, -, X268, ⟨Lc268, hQ268, l268, y268, z268⟩, st268⟩ := X265.virtualBack hx (y := (⟨"com/example/brancher/brancher/model/Comparison", "symbol", "()Ljava/lang/String;"⟩ : MethodName)) (z := (⟨"com/example/brancher/brancher/model/Comparison", "symbol", "()Ljava/lang/String;"⟩ : MethodName)) hown (mvT hZ (W 13 rfl)) (mvT hZ (W 14 rfl)) (notFace_of_selects (args := #[]) (mvT hZ (W 16 rfl))) (mvT hZ (W 16 rfl)) (mvT hZ (W 15 rfl)) (by decide) (backOf (W := 0) (rm3 l Z a0 hw [] aM yaM h0 n0 Z0 F_yaM) hZ (W 17 rfl) (W 5 rfl) (by decide) (by decide)) q268a q268c (g := (mkF m 11 #[iv p0, rv aM, iv (0 : Int32), .unset, .unset, .unset] [(.ref aM)])) rfl (by rw [hml]; rfl) (Steps.refl _) (argsL := []) (rest := []) (lenOf pd113 rfl) rfl (by show 2 * 0 + _ ≤ _; exact Nat.le_of_eq rfl) (hb hby at_11) (fun _ _ => ⟨rfl, eh265, (by decide : 0 + 0 ≤ _), (by decide : 0 + 0 ≤ _)⟩)
  dsimp only [Pt.U, Pt.locs, Pt.cells, Pt.slots] at X268 l268 y268 z268 st268 hQ268
  subst l268 y268 z268
  obtain ⟨rfl, Nq268, eh268⟩ := hQ268
  have N268 := Fr.app N265 Nq268
  have go269 : own_S p e below ST T268 (mkF m 14 #[iv p0, rv aM, iv (0 : Int32), .unset, .unset, .unset] [(.ref yaM)]) := fun tt kt => go267 tt (st268.trans kt)
  have go270 : own_S p e below ST T268 (mkF m 16 #[iv p0, rv aM, iv (0 : Int32), rv yaM, .unset, .unset] [(.ref yaM)]) := fun tt kt => go269 tt (by
      refine XS.astoreN X268.here hx rfl (hb hby at_14) rfl rfl (l' := #[iv p0, rv aM, iv (0 : Int32), rv yaM, .unset, .unset]) rfl ?_
      refine XS.aloadN X268.here hx rfl (hb hby at_15) rfl rfl ?_
      exact kt)
  obtain ⟨cq271, kq271, q271a, q271b, q271c⟩ := isOf hZ eh268 E_yaM
  obtain ⟨_, _, ⟨T271, L271, k271, n271⟩, -, X271, ⟨Lc271, hQ271, l271, y271, z271⟩, st271⟩ := X268.virtualBack hx (y := (⟨"java/lang/String", "length", "()I"⟩ : MethodName)) (z := (⟨"java/lang/String", "length", "()I"⟩ : MethodName)) hown (mvT hZ (W 20 rfl)) (mvT hZ (W 21 rfl)) (notFace_of_selects (args := #[]) (mvT hZ (W 23 rfl))) (mvT hZ (W 23 rfl)) (mvT hZ (W 22 rfl)) (by decide) (backOf (W := 0) (rm4 l Z a0 hw [] yaM zaM ck_zaM (2 : Int32) _ _ cs h0 n0 Z0 Sc hcs G_yaM_coder F_zaM V_zaM E_yaM) hZ (W 25 rfl) (W 24 rfl) (by decide) (by decide)) q271a q271c (g := (mkF m 16 #[iv p0, rv aM, iv (0 : Int32), rv yaM, .unset, .unset] [(.ref yaM)])) rfl (by rw [hml]; rfl) (Steps.refl _) (argsL := []) (rest := []) (lenOf pd81 rfl) rfl (by show 2 * 0 + _ ≤ _; exact Nat.le_of_eq rfl) (hb hby at_16) (fun _ _ => ⟨rfl, eh268, (by decide : 0 + 0 ≤ _), (by decide : 0 + 0 ≤ _)⟩)
  dsimp only [Pt.U, Pt.locs, Pt.cells, Pt.slots] at X271 l271 y271 z271 st271 hQ271
  subst l271 y271 z271
  obtain ⟨rfl, Nq271, eh271⟩ := hQ271
  have N271 := Fr.app N268 Nq271
  have go272 : own_S p e below ST T271 (mkF m 19 #[iv p0, rv aM, iv (0 : Int32), rv yaM, .unset, .unset] [(.int (2 : Int32))]) := fun tt kt => go270 tt (st271.trans kt)
  have go273 : own_S p e below ST T271 (mkF m 24 #[iv p0, rv aM, iv (0 : Int32), rv yaM, .unset, .unset] [(.int (0 : Int32)), (.ref yaM)]) := fun tt kt => go272 tt (by
      refine XS.ifNo X271.here hx rfl (hb hby at_19) rfl ((if0 _ _).trans (tlt (by decide : (0 : Int32) < (2 : Int32))).2.2.2) ?_
      refine XS.aloadN X271.here hx rfl (hb hby at_22) rfl rfl ?_
      refine XS.iconst X271.here hx rfl (hb hby at_23) ?_
      exact kt)
  obtain ⟨cq274, kq274, q274a, q274b, q274c⟩ := isOf hZ eh271 E_yaM
  obtain ⟨_, _, ⟨T274, L274, k274, n274⟩, -, X274, ⟨Lc274, hQ274, l274, y274, z274⟩, st274⟩ := X271.virtualBack hx (y := (⟨"java/lang/String", "charAt", "(I)C"⟩ : MethodName)) (z := (⟨"java/lang/String", "charAt", "(I)C"⟩ : MethodName)) hown (mvT hZ (W 36 rfl)) (mvT hZ (W 37 rfl)) (notFace_of_selects (args := #[]) (mvT hZ (W 39 rfl))) (mvT hZ (W 39 rfl)) (mvT hZ (W 38 rfl)) (by decide) (backOf (W := 0) (rm6 l Z a0 hw [] yaM zaM ck_zaM (2 : Int32) _ _ (60 : Int32) wf cs h0 n0 Z0 Sc hcs G_yaM_coder F_zaM V_zaM E_yaM rfl (by decide) Sf hwf) hZ (W 40 rfl) (W 24 rfl) (by decide) (by decide)) q274a q274c (g := (mkF m 24 #[iv p0, rv aM, iv (0 : Int32), rv yaM, .unset, .unset] [(.int (0 : Int32)), (.ref yaM)])) rfl (by rw [hml]; rfl) (Steps.refl _) (argsL := [(.int (0 : Int32))]) (rest := []) (lenOf pd114 rfl) rfl (by show 2 * 0 + _ ≤ _; exact Nat.le_of_eq rfl) (hb hby at_24) (fun _ _ => ⟨rfl, eh271, (by decide : 0 + 0 ≤ _), (by decide : 0 + 0 ≤ _)⟩)
  dsimp only [Pt.U, Pt.locs, Pt.cells, Pt.slots] at X274 l274 y274 z274 st274 hQ274
  subst l274 y274 z274
  obtain ⟨rfl, Nq274, eh274⟩ := hQ274
  have N274 := Fr.app N271 Nq274
  have go275 : own_S p e below ST T274 (mkF m 27 #[iv p0, rv aM, iv (0 : Int32), rv yaM, .unset, .unset] [(.int (own_ch2 (60 : Int32)))]) := fun tt kt => go273 tt (st274.trans kt)
  have go276 : own_S p e below ST T274 (mkF m 29 #[iv p0, rv aM, iv (0 : Int32), rv yaM, .unset, .unset] [(.int (62 : Int32)), (.int (own_ch2 (60 : Int32)))]) := fun tt kt => go275 tt (by
      refine XS.bipush X274.here hx rfl (hb hby at_27) ?_
      exact kt)
  have go277 : own_S p e below ST T274 (mkF m 40 #[iv p0, rv aM, iv (0 : Int32), rv yaM, iv (0 : Int32), .unset] [(.ref aM)]) := fun tt kt => go276 tt (by
      refine XS.icmpYes X274.here hx rfl (pc0 := 29) (pc' := 36) rfl (hb hby at_29) rfl (feq own_60).2 (by decide) (by decide) ?_
      refine XS.iconst X274.here hx rfl (hb hby at_36) ?_
      refine XS.istore X274.here hx rfl (hb hby at_37) rfl (l' := #[iv p0, rv aM, iv (0 : Int32), rv yaM, iv (0 : Int32), .unset]) rfl ?_
      refine XS.aloadN X274.here hx rfl (hb hby at_39) rfl rfl ?_
      exact kt)
  obtain ⟨cq278, kq278, q278a, q278b, q278c⟩ := isOf hZ eh274 E_aM
  obtain ⟨_, _, ⟨T278, L278, k278, n278⟩, -, X278, ⟨Lc278, hQ278, l278, y278, z278⟩, st278⟩ := X274.virtualBack hx (y := (⟨"com/example/brancher/brancher/model/Comparison", "negated", "()Lcom/example/brancher/brancher/model/Comparison;"⟩ : MethodName)) (z := (⟨"com/example/brancher/brancher/model/Comparison", "negated", "()Lcom/example/brancher/brancher/model/Comparison;"⟩ : MethodName)) hown (mvT hZ (W 58 rfl)) (mvT hZ (W 59 rfl)) (notFace_of_selects (args := #[]) (mvT hZ (W 61 rfl))) (mvT hZ (W 61 rfl)) (mvT hZ (W 60 rfl)) (by decide) (backOf (W := 0) (rm11k2 l Z a0 hw [] aM aA h0 n0 Z0 G_aM_ordinal E_aM S_aA) hZ (W 62 rfl) (W 5 rfl) (by decide) (by decide)) q278a q278c (g := (mkF m 40 #[iv p0, rv aM, iv (0 : Int32), rv yaM, iv (0 : Int32), .unset] [(.ref aM)])) rfl (by rw [hml]; rfl) (Steps.refl _) (argsL := []) (rest := []) (lenOf pd115 rfl) rfl (by show 2 * 0 + _ ≤ _; exact Nat.le_of_eq rfl) (hb hby at_40) (fun _ _ => ⟨rfl, eh274, (by decide : 0 + 0 ≤ _), (by decide : 0 + 0 ≤ _)⟩)
  dsimp only [Pt.U, Pt.locs, Pt.cells, Pt.slots] at X278 l278 y278 z278 st278 hQ278
  subst l278 y278 z278
  obtain ⟨rfl, Nq278, eh278⟩ := hQ278
  have N278 := Fr.app N274 Nq278
  have go279 : own_S p e below ST T278 (mkF m 43 #[iv p0, rv aM, iv (0 : Int32), rv yaM, iv (0 : Int32), .unset] [(.ref aA)]) := fun tt kt => go277 tt (st278.trans kt)
  obtain ⟨cq280, kq280, q280a, q280b, q280c⟩ := isOf hZ eh278 E_aA
  obtain ⟨_, _, ⟨T280, L280, k280, n280⟩, -, X280, ⟨Lc280, hQ280, l280, y280, z280⟩, st280⟩ := X278.virtualBack hx (y := (⟨"com/example/brancher/brancher/model/Comparison", "isLower", "()Z"⟩ : MethodName)) (z := (⟨"com/example/brancher/brancher/model/Comparison", "isLower", "()Z"⟩ : MethodName)) hown (mvT hZ (W 7 rfl)) (mvT hZ (W 8 rfl)) (notFace_of_selects (args := #[]) (mvT hZ (W 10 rfl))) (mvT hZ (W 10 rfl)) (mvT hZ (W 9 rfl)) (by decide) (backOf (W := 0) (rm2t l Z a0 hw [] aL aA h0 n0 Z0 S_aL S_aA n1) hZ (W 11 rfl) (W 5 rfl) (by decide) (by decide)) q280a q280c (g := (mkF m 43 #[iv p0, rv aM, iv (0 : Int32), rv yaM, iv (0 : Int32), .unset] [(.ref aA)])) rfl (by rw [hml]; rfl) (Steps.refl _) (argsL := []) (rest := []) (lenOf pd53 rfl) rfl (by show 2 * 0 + _ ≤ _; exact Nat.le_of_eq rfl) (hb hby at_43) (fun _ _ => ⟨rfl, eh278, (by decide : 0 + 0 ≤ _), (by decide : 0 + 0 ≤ _)⟩)
  dsimp only [Pt.U, Pt.locs, Pt.cells, Pt.slots] at X280 l280 y280 z280 st280 hQ280
  subst l280 y280 z280
  obtain ⟨rfl, Nq280, eh280⟩ := hQ280
  have N280 := Fr.app N278 Nq280
  have go281 : own_S p e below ST T280 (mkF m 46 #[iv p0, rv aM, iv (0 : Int32), rv yaM, iv (0 : Int32), .unset] [(.int (1 : Int32))]) := fun tt kt => go279 tt (st280.trans kt)
  have go282 : own_S p e below ST T280 (mkF m 73 #[iv p0, rv aM, iv (0 : Int32), rv yaM, iv (0 : Int32), iv (1 : Int32)] [(.int (1 : Int32))]) := fun tt kt => go281 tt (by
      refine XS.iloadN X280.here hx rfl (hb hby at_46) rfl ?_
      refine XS.icmpNo X280.here hx rfl (hb hby at_47) rfl (feq (by decide : ¬ ((1 : Int32) = (0 : Int32)))).1 ?_
      refine XS.iconst X280.here hx rfl (hb hby at_50) ?_
      refine XS.goto X280.here hx rfl (pc0 := 51) (pc' := 55) rfl (hb hby at_51) (by decide) (by decide) ?_
      refine XS.istore X280.here hx rfl (hb hby at_55) rfl (l' := #[iv p0, rv aM, iv (0 : Int32), rv yaM, iv (0 : Int32), iv (1 : Int32)]) rfl ?_
      refine XS.iloadN X280.here hx rfl (hb hby at_57) rfl ?_
      show Steps p.tables e below (T280.setTop (mkF m 58 #[iv p0, rv aM, iv (0 : Int32), rv yaM, iv (0 : Int32), iv (1 : Int32)] [(.int (0 : Int32))])) _
      refine XS.iload X280.here hx rfl (hb hby at_58) rfl ?_
      refine XS.icmpNo X280.here hx rfl (hb hby at_60) rfl (teq (by decide : (0 : Int32) = (0 : Int32))).2 ?_
      refine XS.iload X280.here hx rfl (hb hby at_63) rfl ?_
      refine XS.ifNo X280.here hx rfl (hb hby at_65) rfl ((if0 _ _).trans (feq (by decide : ¬ ((1 : Int32) = (0 : Int32)))).1) ?_
      refine XS.iconst X280.here hx rfl (hb hby at_68) ?_
      refine XS.goto X280.here hx rfl (pc0 := 69) (pc' := 73) rfl (hb hby at_69) (by decide) (by decide) ?_
      exact kt)
  obtain ⟨fs, hr, hrun, hended, hW, hsame⟩ := X280.leave (v := some (.int (1 : Int32))) (fun h => by rw [Bd.returns] at h; cases h)
  refine ⟨_, _, pre0 _ (go282 _ ?_), hrun, hended, _, _, rfl, ?_, ⟨_, rfl⟩, hW, hsame.mono (by decide) (by decide)⟩
  · exact retN X280 hx (t := .boolean) Bd.returns (by simp) (hb hby at_73) hr
  · show Q0k2 Z p0 aL aB aA aM yaL yaB yaM yaA zaL zaB zaM zaA ck_zaL ck_zaB ck_zaM ck_zaA wf cs h0 n0 _ T280.heap _
    rw [eh280]
    exact ⟨rfl, N280⟩
theorem ef0k3 (m : MethodId) (x0 : Int32) : entryFrame m #[(.int x0)] maxLocals = mkF m 0 #[.val (.int x0), .unset, .unset, .unset, .unset, .unset] [] := by first | (simp [entryFrame, mkF, argsToLocals, Value.category, maxLocals]; done) | rfl
def Q0k3 (Z : State) (p0 : Int32) (aL : Addr) (aB : Addr) (aA : Addr) (aM : Addr) (yaL : Addr) (yaB : Addr) (yaM : Addr) (yaA : Addr) (zaL : Addr) (zaB : Addr) (zaM : Addr) (zaA : Addr) (ck_zaL : ClassId) (ck_zaB : ClassId) (ck_zaM : ClassId) (ck_zaA : ClassId) (wf : Value) (cs : Int32) (h0 : Heap) (n0 : Nat) (v : Option Value) (h : Heap) (L : List Loc) : Prop := v = some (.int 1) ∧ Fr n0 L
set_option maxRecDepth 65536 in
set_option maxHeartbeats 40000000 in
theorem rm0k3 (l : Launch) (Z : State) (a0 : Array Value) (hw : ∀ d ∈ tables_1, d.before a0 Z = true) (ws : List Jvm.Cond) (p0 : Int32) (aL : Addr) (aB : Addr) (aA : Addr) (aM : Addr) (yaL : Addr) (yaB : Addr) (yaM : Addr) (yaA : Addr) (zaL : Addr) (zaB : Addr) (zaM : Addr) (zaA : Addr) (ck_zaL : ClassId) (ck_zaB : ClassId) (ck_zaM : ClassId) (ck_zaA : ClassId) (wf : Value) (cs : Int32) (h0 : Heap) (n0 : Nat) (Z0 : n0 ≤ h0.size) (S_aL : Sta Z h0 "com/example/brancher/brancher/model/Comparison" "AT_LEAST" "Lcom/example/brancher/brancher/model/Comparison;" (.ref aL)) (E_aL : Exa Z h0 aL "com/example/brancher/brancher/model/Comparison") (S_aB : Sta Z h0 "com/example/brancher/brancher/model/Comparison" "BELOW" "Lcom/example/brancher/brancher/model/Comparison;" (.ref aB)) (E_aB : Exa Z h0 aB "com/example/brancher/brancher/model/Comparison") (S_aA : Sta Z h0 "com/example/brancher/brancher/model/Comparison" "ABOVE" "Lcom/example/brancher/brancher/model/Comparison;" (.ref aA)) (E_aA : Exa Z h0 aA "com/example/brancher/brancher/model/Comparison") (S_aM : Sta Z h0 "com/example/brancher/brancher/model/Comparison" "AT_MOST" "Lcom/example/brancher/brancher/model/Comparison;" (.ref aM)) (E_aM : Exa Z h0 aM "com/example/brancher/brancher/model/Comparison") (F_yaL : Fld Z h0 aL "com/example/brancher/brancher/model/Comparison" "symbol" "Ljava/lang/String;" (.ref yaL)) (E_yaL : Exa Z h0 yaL "java/lang/String") (F_yaB : Fld Z h0 aB "com/example/brancher/brancher/model/Comparison" "symbol" "Ljava/lang/String;" (.ref yaB)) (E_yaB : Exa Z h0 yaB "java/lang/String") (F_yaM : Fld Z h0 aM "com/example/brancher/brancher/model/Comparison" "symbol" "Ljava/lang/String;" (.ref yaM)) (E_yaM : Exa Z h0 yaM "java/lang/String") (F_yaA : Fld Z h0 aA "com/example/brancher/brancher/model/Comparison" "symbol" "Ljava/lang/String;" (.ref yaA)) (E_yaA : Exa Z h0 yaA "java/lang/String") (F_zaL : Fld Z h0 yaL "java/lang/String" "value" "[B" (.ref zaL)) (F_zaB : Fld Z h0 yaB "java/lang/String" "value" "[B" (.ref zaB)) (F_zaM : Fld Z h0 yaM "java/lang/String" "value" "[B" (.ref zaM)) (F_zaA : Fld Z h0 yaA "java/lang/String" "value" "[B" (.ref zaA)) (G_yaL_coder : Fld Z h0 yaL "java/lang/String" "coder" "B" (.int (0 : Int32))) (G_aL_ordinal : Fld Z h0 aL "java/lang/Enum" "ordinal" "I" (.int (0 : Int32))) (G_aB_ordinal : Fld Z h0 aB "java/lang/Enum" "ordinal" "I" (.int (3 : Int32))) (G_aA_ordinal : Fld Z h0 aA "java/lang/Enum" "ordinal" "I" (.int (1 : Int32))) (G_yaB_coder : Fld Z h0 yaB "java/lang/String" "coder" "B" (.int (0 : Int32))) (G_aM_ordinal : Fld Z h0 aM "java/lang/Enum" "ordinal" "I" (.int (2 : Int32))) (G_yaM_coder : Fld Z h0 yaM "java/lang/String" "coder" "B" (.int (0 : Int32))) (G_yaA_coder : Fld Z h0 yaA "java/lang/String" "coder" "B" (.int (0 : Int32))) (V_zaL : Arv Z h0 zaL ck_zaL .byte (2 : Int32) [(.int (62 : Int32)), (.int (61 : Int32))] (.int (0 : Int32))) (V_zaB : Arv Z h0 zaB ck_zaB .byte (1 : Int32) [(.int (60 : Int32))] (.int (0 : Int32))) (V_zaM : Arv Z h0 zaM ck_zaM .byte (2 : Int32) [(.int (60 : Int32)), (.int (61 : Int32))] (.int (0 : Int32))) (V_zaA : Arv Z h0 zaA ck_zaA .byte (1 : Int32) [(.int (62 : Int32))] (.int (0 : Int32))) (Sc : Sta Z h0 "java/lang/String" "COMPACT_STRINGS" "Z" (.int cs)) (hcs : ¬ cs = 0) (Sf : Sta Z h0 "jdk/internal/util/Preconditions" "SIOOBE_FORMATTER" "Ljava/util/function/BiFunction;" wf) (hwf : wf.isRef = true) (hk : p0 &&& 3 = 3) :
    MetFree l x (head1 (Jvm.Cond.code x code maxLocals ret :: ws) room_1) (fun aa UU => aa = #[(.int p0)] ∧ Z.Warmed39 UU.vm ∧ UU.heap = h0) (fun _ _ _ _ _ => True) (fun _ UU oo UU' => ∃ vv LL, oo = .returned vv ∧ Q0k3 Z p0 aL aB aA aM yaL yaB yaM yaA zaL zaB zaM zaA ck_zaL ck_zaB ck_zaM ck_zaA wf cs h0 n0 vv UU'.heap LL ∧ FrameEnd UU oo UU' LL room_1.cells room_1.slots) := by
  have W : ∀ {d : Jvm.Cond} (i : Nat), tables_1[i]? = some d → d.before a0 Z = true := fun i h => hw _ (List.mem_of_getElem? h)
  refine MetFree.of_bodySF (plainFor_of_name pn86) hisR ?_
  intro p e s m args below meth c s₁ Bd hml0 hP hK
  obtain ⟨rfl, hZ, hh⟩ := hP
  have hx := Bd.exec
  have hby := Bd.bytes
  have hml : c.maxLocals = 6 := hml0
  have hown : s.vm.findClass "com/example/brancher/brancher/model/ComparisonIsLowerPinLaw" = some m.cls := findClass_of_methodNamed Bd.named
  have hnm := (name_of_methodNamed Bd.named Bd.method).1
  have X0 : Stand p l e room_1 s m #[(.int p0)] below meth c s₁ [] 0 0 := Stand.of_body Bd
  have e0 : s₁.heap = h0 := by rw [← hh, Bd.state]; rfl
  have N0 := Fr.nil n0
  have pre0 : ∀ tt, Steps p.tables e below (s₁.setTop (mkF m 0 #[iv p0, .unset, .unset, .unset, .unset, .unset] [])) tt → Steps p.tables e below (s₁.setTop (entryFrame m #[(.int p0)] maxLocals)) tt := fun tt kt => castTop (ef0k3 m p0) kt
  obtain ⟨ST, hST⟩ : ∃ z : State, z = s₁.setTop (mkF m 0 #[iv p0, .unset, .unset, .unset, .unset, .unset] []) := ⟨_, rfl⟩
  rw [← hST] at pre0
  have n1 : aA ≠ aL := Fld.ne G_aA_ordinal G_aL_ordinal (fun q => absurd (Value.int.inj q) (by decide))
  have n_aM_aL : aM ≠ aL := Fld.ne G_aM_ordinal G_aL_ordinal (fun q => absurd (Value.int.inj q) (by decide))
  have n_aM_aA : aM ≠ aA := Fld.ne G_aM_ordinal G_aA_ordinal (fun q => absurd (Value.int.inj q) (by decide))
  have n_aB_aL : aB ≠ aL := Fld.ne G_aB_ordinal G_aL_ordinal (fun q => absurd (Value.int.inj q) (by decide))
  have n_aB_aA : aB ≠ aA := Fld.ne G_aB_ordinal G_aA_ordinal (fun q => absurd (Value.int.inj q) (by decide))
  have go283 : own_S p e below ST s₁ (mkF m 1 #[iv p0, .unset, .unset, .unset, .unset, .unset] [(.int p0)]) := fun tt kt => (by
      rw [hST]
      show Steps p.tables e below (s₁.setTop (mkF m 0 #[iv p0, .unset, .unset, .unset, .unset, .unset] [])) _
      refine XS.iloadN X0.here hx rfl (hb hby at_0) rfl ?_
      exact kt)
  obtain ⟨_, _, ⟨T284, L284, k284, n284⟩, -, X284, ⟨Lc284, hQ284, l284, y284, z284⟩, st284⟩ := Jvm.LawKit.callS X0 hx (y := (⟨"com/example/brancher/brancher/model/ComparisonIsLowerPinLaw", "pick", "(I)Lcom/example/brancher/brancher/model/Comparison;"⟩ : MethodName)) hown (mvT hZ (W 0 rfl)) (mvT hZ (W 1 rfl)) (mvT hZ (W 2 rfl)) (mvT hZ (W 3 rfl)) (by decide) (backOf (W := 0) (rm1k3 l Z a0 hw [] p0 aB h0 n0 Z0 hk S_aB) hZ (W 3 rfl) (W 2 rfl) (by decide) (by decide)) (g := (mkF m 1 #[iv p0, .unset, .unset, .unset, .unset, .unset] [(.int p0)])) rfl (by rw [hml]; rfl) (argsL := [(.int p0)]) (rest := []) (lenOf pd112 rfl) rfl (by show 2 * 0 + _ ≤ _; exact Nat.le_of_eq rfl) (hb hby at_1) (fun _ _ => ⟨rfl, e0, (by decide : 0 + 0 ≤ _), (by decide : 0 + 0 ≤ _)⟩)
  dsimp only [Pt.U, Pt.locs, Pt.cells, Pt.slots] at X284 l284 y284 z284 st284 hQ284
  subst l284 y284 z284
  obtain ⟨rfl, Nq284, eh284⟩ := hQ284
  have N284 := Fr.app N0 Nq284
  have go285 : own_S p e below ST T284 (mkF m 4 #[iv p0, .unset, .unset, .unset, .unset, .unset] [(.ref aB)]) := fun tt kt => go283 tt (st284 _ kt)
  have go286 : own_S p e below ST T284 (mkF m 6 #[iv p0, rv aB, .unset, .unset, .unset, .unset] [(.ref aB)]) := fun tt kt => go285 tt (by
      refine XS.astoreN X284.here hx rfl (hb hby at_4) rfl rfl (l' := #[iv p0, rv aB, .unset, .unset, .unset, .unset]) rfl ?_
      refine XS.aloadN X284.here hx rfl (hb hby at_5) rfl rfl ?_
      exact kt)
  obtain ⟨cq287, kq287, q287a, q287b, q287c⟩ := isOf hZ eh284 E_aB
  obtain ⟨_, _, ⟨T287, L287, k287, n287⟩, -, X287, ⟨Lc287, hQ287, l287, y287, z287⟩, st287⟩ := X284.virtualBack hx (y := (⟨"com/example/brancher/brancher/model/Comparison", "isLower", "()Z"⟩ : MethodName)) (z := (⟨"com/example/brancher/brancher/model/Comparison", "isLower", "()Z"⟩ : MethodName)) hown (mvT hZ (W 7 rfl)) (mvT hZ (W 8 rfl)) (notFace_of_selects (args := #[]) (mvT hZ (W 10 rfl))) (mvT hZ (W 10 rfl)) (mvT hZ (W 9 rfl)) (by decide) (backOf (W := 0) (rm2o l Z a0 hw [] aL aA aB h0 n0 Z0 S_aL S_aA n_aB_aL n_aB_aA) hZ (W 11 rfl) (W 5 rfl) (by decide) (by decide)) q287a q287c (g := (mkF m 6 #[iv p0, rv aB, .unset, .unset, .unset, .unset] [(.ref aB)])) rfl (by rw [hml]; rfl) (Steps.refl _) (argsL := []) (rest := []) (lenOf pd53 rfl) rfl (by show 2 * 0 + _ ≤ _; exact Nat.le_of_eq rfl) (hb hby at_6) (fun _ _ => ⟨rfl, eh284, (by decide : 0 + 0 ≤ _), (by decide : 0 + 0 ≤ _)⟩)
  dsimp only [Pt.U, Pt.locs, Pt.cells, Pt.slots] at X287 l287 y287 z287 st287 hQ287
  subst l287 y287 z287
  obtain ⟨rfl, Nq287, eh287⟩ := hQ287
  have N287 := Fr.app N284 Nq287
  have go288 : own_S p e below ST T287 (mkF m 9 #[iv p0, rv aB, .unset, .unset, .unset, .unset] [(.int (0 : Int32))]) := fun tt kt => go286 tt (st287.trans kt)
  have go289 : own_S p e below ST T287 (mkF m 11 #[iv p0, rv aB, iv (0 : Int32), .unset, .unset, .unset] [(.ref aB)]) := fun tt kt => go288 tt (by
      refine XS.istoreN X287.here hx rfl (hb hby at_9) rfl (l' := #[iv p0, rv aB, iv (0 : Int32), .unset, .unset, .unset]) rfl ?_
      refine XS.aloadN X287.here hx rfl (hb hby at_10) rfl rfl ?_
      exact kt)
  obtain ⟨cq290, kq290, q290a, q290b, q290c⟩ := isOf hZ eh287 E_aB
  obtain ⟨_, _, ⟨T290, L290, k290, n290⟩, -, X290, ⟨Lc290, hQ290, l290, y290, z290⟩, st290⟩ := X287.virtualBack hx (y := (⟨"com/example/brancher/brancher/model/Comparison", "symbol", "()Ljava/lang/String;"⟩ : MethodName)) (z := (⟨"com/example/brancher/brancher/model/Comparison", "symbol", "()Ljava/lang/String;"⟩ : MethodName)) hown (mvT hZ (W 13 rfl)) (mvT hZ (W 14 rfl)) (notFace_of_selects (args := #[]) (mvT hZ (W 16 rfl))) (mvT hZ (W 16 rfl)) (mvT hZ (W 15 rfl)) (by decide) (backOf (W := 0) (rm3 l Z a0 hw [] aB yaB h0 n0 Z0 F_yaB) hZ (W 17 rfl) (W 5 rfl) (by decide) (by decide)) q290a q290c (g := (mkF m 11 #[iv p0, rv aB, iv (0 : Int32), .unset, .unset, .unset] [(.ref aB)])) rfl (by rw [hml]; rfl) (Steps.refl _) (argsL := []) (rest := []) (lenOf pd113 rfl) rfl (by show 2 * 0 + _ ≤ _; exact Nat.le_of_eq rfl) (hb hby at_11) (fun _ _ => ⟨rfl, eh287, (by decide : 0 + 0 ≤ _), (by decide : 0 + 0 ≤ _)⟩)
  dsimp only [Pt.U, Pt.locs, Pt.cells, Pt.slots] at X290 l290 y290 z290 st290 hQ290
  subst l290 y290 z290
  obtain ⟨rfl, Nq290, eh290⟩ := hQ290
  have N290 := Fr.app N287 Nq290
  have go291 : own_S p e below ST T290 (mkF m 14 #[iv p0, rv aB, iv (0 : Int32), .unset, .unset, .unset] [(.ref yaB)]) := fun tt kt => go289 tt (st290.trans kt)
  have go292 : own_S p e below ST T290 (mkF m 16 #[iv p0, rv aB, iv (0 : Int32), rv yaB, .unset, .unset] [(.ref yaB)]) := fun tt kt => go291 tt (by
      refine XS.astoreN X290.here hx rfl (hb hby at_14) rfl rfl (l' := #[iv p0, rv aB, iv (0 : Int32), rv yaB, .unset, .unset]) rfl ?_
      refine XS.aloadN X290.here hx rfl (hb hby at_15) rfl rfl ?_
      exact kt)
  obtain ⟨cq293, kq293, q293a, q293b, q293c⟩ := isOf hZ eh290 E_yaB
  obtain ⟨_, _, ⟨T293, L293, k293, n293⟩, -, X293, ⟨Lc293, hQ293, l293, y293, z293⟩, st293⟩ := X290.virtualBack hx (y := (⟨"java/lang/String", "length", "()I"⟩ : MethodName)) (z := (⟨"java/lang/String", "length", "()I"⟩ : MethodName)) hown (mvT hZ (W 20 rfl)) (mvT hZ (W 21 rfl)) (notFace_of_selects (args := #[]) (mvT hZ (W 23 rfl))) (mvT hZ (W 23 rfl)) (mvT hZ (W 22 rfl)) (by decide) (backOf (W := 0) (rm4 l Z a0 hw [] yaB zaB ck_zaB (1 : Int32) _ _ cs h0 n0 Z0 Sc hcs G_yaB_coder F_zaB V_zaB E_yaB) hZ (W 25 rfl) (W 24 rfl) (by decide) (by decide)) q293a q293c (g := (mkF m 16 #[iv p0, rv aB, iv (0 : Int32), rv yaB, .unset, .unset] [(.ref yaB)])) rfl (by rw [hml]; rfl) (Steps.refl _) (argsL := []) (rest := []) (lenOf pd81 rfl) rfl (by show 2 * 0 + _ ≤ _; exact Nat.le_of_eq rfl) (hb hby at_16) (fun _ _ => ⟨rfl, eh290, (by decide : 0 + 0 ≤ _), (by decide : 0 + 0 ≤ _)⟩)
  dsimp only [Pt.U, Pt.locs, Pt.cells, Pt.slots] at X293 l293 y293 z293 st293 hQ293
  subst l293 y293 z293
  obtain ⟨rfl, Nq293, eh293⟩ := hQ293
  have N293 := Fr.app N290 Nq293
  have go294 : own_S p e below ST T293 (mkF m 19 #[iv p0, rv aB, iv (0 : Int32), rv yaB, .unset, .unset] [(.int (1 : Int32))]) := fun tt kt => go292 tt (st293.trans kt)
  have go295 : own_S p e below ST T293 (mkF m 24 #[iv p0, rv aB, iv (0 : Int32), rv yaB, .unset, .unset] [(.int (0 : Int32)), (.ref yaB)]) := fun tt kt => go294 tt (by
      refine XS.ifNo X293.here hx rfl (hb hby at_19) rfl ((if0 _ _).trans (tlt (by decide : (0 : Int32) < (1 : Int32))).2.2.2) ?_
      refine XS.aloadN X293.here hx rfl (hb hby at_22) rfl rfl ?_
      refine XS.iconst X293.here hx rfl (hb hby at_23) ?_
      exact kt)
  obtain ⟨cq296, kq296, q296a, q296b, q296c⟩ := isOf hZ eh293 E_yaB
  obtain ⟨_, _, ⟨T296, L296, k296, n296⟩, -, X296, ⟨Lc296, hQ296, l296, y296, z296⟩, st296⟩ := X293.virtualBack hx (y := (⟨"java/lang/String", "charAt", "(I)C"⟩ : MethodName)) (z := (⟨"java/lang/String", "charAt", "(I)C"⟩ : MethodName)) hown (mvT hZ (W 36 rfl)) (mvT hZ (W 37 rfl)) (notFace_of_selects (args := #[]) (mvT hZ (W 39 rfl))) (mvT hZ (W 39 rfl)) (mvT hZ (W 38 rfl)) (by decide) (backOf (W := 0) (rm6 l Z a0 hw [] yaB zaB ck_zaB (1 : Int32) _ _ (60 : Int32) wf cs h0 n0 Z0 Sc hcs G_yaB_coder F_zaB V_zaB E_yaB rfl (by decide) Sf hwf) hZ (W 40 rfl) (W 24 rfl) (by decide) (by decide)) q296a q296c (g := (mkF m 24 #[iv p0, rv aB, iv (0 : Int32), rv yaB, .unset, .unset] [(.int (0 : Int32)), (.ref yaB)])) rfl (by rw [hml]; rfl) (Steps.refl _) (argsL := [(.int (0 : Int32))]) (rest := []) (lenOf pd114 rfl) rfl (by show 2 * 0 + _ ≤ _; exact Nat.le_of_eq rfl) (hb hby at_24) (fun _ _ => ⟨rfl, eh293, (by decide : 0 + 0 ≤ _), (by decide : 0 + 0 ≤ _)⟩)
  dsimp only [Pt.U, Pt.locs, Pt.cells, Pt.slots] at X296 l296 y296 z296 st296 hQ296
  subst l296 y296 z296
  obtain ⟨rfl, Nq296, eh296⟩ := hQ296
  have N296 := Fr.app N293 Nq296
  have go297 : own_S p e below ST T296 (mkF m 27 #[iv p0, rv aB, iv (0 : Int32), rv yaB, .unset, .unset] [(.int (own_ch2 (60 : Int32)))]) := fun tt kt => go295 tt (st296.trans kt)
  have go298 : own_S p e below ST T296 (mkF m 29 #[iv p0, rv aB, iv (0 : Int32), rv yaB, .unset, .unset] [(.int (62 : Int32)), (.int (own_ch2 (60 : Int32)))]) := fun tt kt => go297 tt (by
      refine XS.bipush X296.here hx rfl (hb hby at_27) ?_
      exact kt)
  have go299 : own_S p e below ST T296 (mkF m 40 #[iv p0, rv aB, iv (0 : Int32), rv yaB, iv (0 : Int32), .unset] [(.ref aB)]) := fun tt kt => go298 tt (by
      refine XS.icmpYes X296.here hx rfl (pc0 := 29) (pc' := 36) rfl (hb hby at_29) rfl (feq own_60).2 (by decide) (by decide) ?_
      refine XS.iconst X296.here hx rfl (hb hby at_36) ?_
      refine XS.istore X296.here hx rfl (hb hby at_37) rfl (l' := #[iv p0, rv aB, iv (0 : Int32), rv yaB, iv (0 : Int32), .unset]) rfl ?_
      refine XS.aloadN X296.here hx rfl (hb hby at_39) rfl rfl ?_
      exact kt)
  obtain ⟨cq300, kq300, q300a, q300b, q300c⟩ := isOf hZ eh296 E_aB
  obtain ⟨_, _, ⟨T300, L300, k300, n300⟩, -, X300, ⟨Lc300, hQ300, l300, y300, z300⟩, st300⟩ := X296.virtualBack hx (y := (⟨"com/example/brancher/brancher/model/Comparison", "negated", "()Lcom/example/brancher/brancher/model/Comparison;"⟩ : MethodName)) (z := (⟨"com/example/brancher/brancher/model/Comparison", "negated", "()Lcom/example/brancher/brancher/model/Comparison;"⟩ : MethodName)) hown (mvT hZ (W 58 rfl)) (mvT hZ (W 59 rfl)) (notFace_of_selects (args := #[]) (mvT hZ (W 61 rfl))) (mvT hZ (W 61 rfl)) (mvT hZ (W 60 rfl)) (by decide) (backOf (W := 0) (rm11k3 l Z a0 hw [] aB aL h0 n0 Z0 G_aB_ordinal E_aB S_aL) hZ (W 62 rfl) (W 5 rfl) (by decide) (by decide)) q300a q300c (g := (mkF m 40 #[iv p0, rv aB, iv (0 : Int32), rv yaB, iv (0 : Int32), .unset] [(.ref aB)])) rfl (by rw [hml]; rfl) (Steps.refl _) (argsL := []) (rest := []) (lenOf pd115 rfl) rfl (by show 2 * 0 + _ ≤ _; exact Nat.le_of_eq rfl) (hb hby at_40) (fun _ _ => ⟨rfl, eh296, (by decide : 0 + 0 ≤ _), (by decide : 0 + 0 ≤ _)⟩)
  dsimp only [Pt.U, Pt.locs, Pt.cells, Pt.slots] at X300 l300 y300 z300 st300 hQ300
  subst l300 y300 z300
  obtain ⟨rfl, Nq300, eh300⟩ := hQ300
  have N300 := Fr.app N296 Nq300
  have go301 : own_S p e below ST T300 (mkF m 43 #[iv p0, rv aB, iv (0 : Int32), rv yaB, iv (0 : Int32), .unset] [(.ref aL)]) := fun tt kt => go299 tt (st300.trans kt)
  obtain ⟨cq302, kq302, q302a, q302b, q302c⟩ := isOf hZ eh300 E_aL
  obtain ⟨_, _, ⟨T302, L302, k302, n302⟩, -, X302, ⟨Lc302, hQ302, l302, y302, z302⟩, st302⟩ := X300.virtualBack hx (y := (⟨"com/example/brancher/brancher/model/Comparison", "isLower", "()Z"⟩ : MethodName)) (z := (⟨"com/example/brancher/brancher/model/Comparison", "isLower", "()Z"⟩ : MethodName)) hown (mvT hZ (W 7 rfl)) (mvT hZ (W 8 rfl)) (notFace_of_selects (args := #[]) (mvT hZ (W 10 rfl))) (mvT hZ (W 10 rfl)) (mvT hZ (W 9 rfl)) (by decide) (backOf (W := 0) (rm2v l Z a0 hw [] aL aA h0 n0 Z0 S_aL S_aA) hZ (W 11 rfl) (W 5 rfl) (by decide) (by decide)) q302a q302c (g := (mkF m 43 #[iv p0, rv aB, iv (0 : Int32), rv yaB, iv (0 : Int32), .unset] [(.ref aL)])) rfl (by rw [hml]; rfl) (Steps.refl _) (argsL := []) (rest := []) (lenOf pd53 rfl) rfl (by show 2 * 0 + _ ≤ _; exact Nat.le_of_eq rfl) (hb hby at_43) (fun _ _ => ⟨rfl, eh300, (by decide : 0 + 0 ≤ _), (by decide : 0 + 0 ≤ _)⟩)
  dsimp only [Pt.U, Pt.locs, Pt.cells, Pt.slots] at X302 l302 y302 z302 st302 hQ302
  subst l302 y302 z302
  obtain ⟨rfl, Nq302, eh302⟩ := hQ302
  have N302 := Fr.app N300 Nq302
  have go303 : own_S p e below ST T302 (mkF m 46 #[iv p0, rv aB, iv (0 : Int32), rv yaB, iv (0 : Int32), .unset] [(.int (1 : Int32))]) := fun tt kt => go301 tt (st302.trans kt)
  have go304 : own_S p e below ST T302 (mkF m 73 #[iv p0, rv aB, iv (0 : Int32), rv yaB, iv (0 : Int32), iv (1 : Int32)] [(.int (1 : Int32))]) := fun tt kt => go303 tt (by
      refine XS.iloadN X302.here hx rfl (hb hby at_46) rfl ?_
      refine XS.icmpNo X302.here hx rfl (hb hby at_47) rfl (feq (by decide : ¬ ((1 : Int32) = (0 : Int32)))).1 ?_
      refine XS.iconst X302.here hx rfl (hb hby at_50) ?_
      refine XS.goto X302.here hx rfl (pc0 := 51) (pc' := 55) rfl (hb hby at_51) (by decide) (by decide) ?_
      refine XS.istore X302.here hx rfl (hb hby at_55) rfl (l' := #[iv p0, rv aB, iv (0 : Int32), rv yaB, iv (0 : Int32), iv (1 : Int32)]) rfl ?_
      refine XS.iloadN X302.here hx rfl (hb hby at_57) rfl ?_
      show Steps p.tables e below (T302.setTop (mkF m 58 #[iv p0, rv aB, iv (0 : Int32), rv yaB, iv (0 : Int32), iv (1 : Int32)] [(.int (0 : Int32))])) _
      refine XS.iload X302.here hx rfl (hb hby at_58) rfl ?_
      refine XS.icmpNo X302.here hx rfl (hb hby at_60) rfl (teq (by decide : (0 : Int32) = (0 : Int32))).2 ?_
      refine XS.iload X302.here hx rfl (hb hby at_63) rfl ?_
      refine XS.ifNo X302.here hx rfl (hb hby at_65) rfl ((if0 _ _).trans (feq (by decide : ¬ ((1 : Int32) = (0 : Int32)))).1) ?_
      refine XS.iconst X302.here hx rfl (hb hby at_68) ?_
      refine XS.goto X302.here hx rfl (pc0 := 69) (pc' := 73) rfl (hb hby at_69) (by decide) (by decide) ?_
      exact kt)
  obtain ⟨fs, hr, hrun, hended, hW, hsame⟩ := X302.leave (v := some (.int (1 : Int32))) (fun h => by rw [Bd.returns] at h; cases h)
  refine ⟨_, _, pre0 _ (go304 _ ?_), hrun, hended, _, _, rfl, ?_, ⟨_, rfl⟩, hW, hsame.mono (by decide) (by decide)⟩
  · exact retN X302 hx (t := .boolean) Bd.returns (by simp) (hb hby at_73) hr
  · show Q0k3 Z p0 aL aB aA aM yaL yaB yaM yaA zaL zaB zaM zaA ck_zaL ck_zaB ck_zaM ck_zaA wf cs h0 n0 _ T302.heap _
    rw [eh302]
    exact ⟨rfl, N302⟩
theorem rm0 (l : Launch) (Z : State) (a0 : Array Value) (hw : ∀ d ∈ tables_1, d.before a0 Z = true) (ws : List Jvm.Cond) (p0 : Int32) (aL : Addr) (aB : Addr) (aA : Addr) (aM : Addr) (yaL : Addr) (yaB : Addr) (yaM : Addr) (yaA : Addr) (zaL : Addr) (zaB : Addr) (zaM : Addr) (zaA : Addr) (ck_zaL : ClassId) (ck_zaB : ClassId) (ck_zaM : ClassId) (ck_zaA : ClassId) (wf : Value) (cs : Int32) (h0 : Heap) (n0 : Nat) (Z0 : n0 ≤ h0.size) (S_aL : Sta Z h0 "com/example/brancher/brancher/model/Comparison" "AT_LEAST" "Lcom/example/brancher/brancher/model/Comparison;" (.ref aL)) (E_aL : Exa Z h0 aL "com/example/brancher/brancher/model/Comparison") (S_aB : Sta Z h0 "com/example/brancher/brancher/model/Comparison" "BELOW" "Lcom/example/brancher/brancher/model/Comparison;" (.ref aB)) (E_aB : Exa Z h0 aB "com/example/brancher/brancher/model/Comparison") (S_aA : Sta Z h0 "com/example/brancher/brancher/model/Comparison" "ABOVE" "Lcom/example/brancher/brancher/model/Comparison;" (.ref aA)) (E_aA : Exa Z h0 aA "com/example/brancher/brancher/model/Comparison") (S_aM : Sta Z h0 "com/example/brancher/brancher/model/Comparison" "AT_MOST" "Lcom/example/brancher/brancher/model/Comparison;" (.ref aM)) (E_aM : Exa Z h0 aM "com/example/brancher/brancher/model/Comparison") (F_yaL : Fld Z h0 aL "com/example/brancher/brancher/model/Comparison" "symbol" "Ljava/lang/String;" (.ref yaL)) (E_yaL : Exa Z h0 yaL "java/lang/String") (F_yaB : Fld Z h0 aB "com/example/brancher/brancher/model/Comparison" "symbol" "Ljava/lang/String;" (.ref yaB)) (E_yaB : Exa Z h0 yaB "java/lang/String") (F_yaM : Fld Z h0 aM "com/example/brancher/brancher/model/Comparison" "symbol" "Ljava/lang/String;" (.ref yaM)) (E_yaM : Exa Z h0 yaM "java/lang/String") (F_yaA : Fld Z h0 aA "com/example/brancher/brancher/model/Comparison" "symbol" "Ljava/lang/String;" (.ref yaA)) (E_yaA : Exa Z h0 yaA "java/lang/String") (F_zaL : Fld Z h0 yaL "java/lang/String" "value" "[B" (.ref zaL)) (F_zaB : Fld Z h0 yaB "java/lang/String" "value" "[B" (.ref zaB)) (F_zaM : Fld Z h0 yaM "java/lang/String" "value" "[B" (.ref zaM)) (F_zaA : Fld Z h0 yaA "java/lang/String" "value" "[B" (.ref zaA)) (G_yaL_coder : Fld Z h0 yaL "java/lang/String" "coder" "B" (.int (0 : Int32))) (G_aL_ordinal : Fld Z h0 aL "java/lang/Enum" "ordinal" "I" (.int (0 : Int32))) (G_aB_ordinal : Fld Z h0 aB "java/lang/Enum" "ordinal" "I" (.int (3 : Int32))) (G_aA_ordinal : Fld Z h0 aA "java/lang/Enum" "ordinal" "I" (.int (1 : Int32))) (G_yaB_coder : Fld Z h0 yaB "java/lang/String" "coder" "B" (.int (0 : Int32))) (G_aM_ordinal : Fld Z h0 aM "java/lang/Enum" "ordinal" "I" (.int (2 : Int32))) (G_yaM_coder : Fld Z h0 yaM "java/lang/String" "coder" "B" (.int (0 : Int32))) (G_yaA_coder : Fld Z h0 yaA "java/lang/String" "coder" "B" (.int (0 : Int32))) (V_zaL : Arv Z h0 zaL ck_zaL .byte (2 : Int32) [(.int (62 : Int32)), (.int (61 : Int32))] (.int (0 : Int32))) (V_zaB : Arv Z h0 zaB ck_zaB .byte (1 : Int32) [(.int (60 : Int32))] (.int (0 : Int32))) (V_zaM : Arv Z h0 zaM ck_zaM .byte (2 : Int32) [(.int (60 : Int32)), (.int (61 : Int32))] (.int (0 : Int32))) (V_zaA : Arv Z h0 zaA ck_zaA .byte (1 : Int32) [(.int (62 : Int32))] (.int (0 : Int32))) (Sc : Sta Z h0 "java/lang/String" "COMPACT_STRINGS" "Z" (.int cs)) (hcs : ¬ cs = 0) (Sf : Sta Z h0 "jdk/internal/util/Preconditions" "SIOOBE_FORMATTER" "Ljava/util/function/BiFunction;" wf) (hwf : wf.isRef = true) :
    MetFree l x (head1 (Jvm.Cond.code x code maxLocals ret :: ws) room_1) (fun aa UU => aa = #[(.int p0)] ∧ Z.Warmed39 UU.vm ∧ UU.heap = h0) (fun _ _ _ _ _ => True) (fun _ UU oo UU' => ∃ vv LL, oo = .returned vv ∧ Q0k0 Z p0 aL aB aA aM yaL yaB yaM yaA zaL zaB zaM zaA ck_zaL ck_zaB ck_zaM ck_zaA wf cs h0 n0 vv UU'.heap LL ∧ FrameEnd UU oo UU' LL room_1.cells room_1.slots) := by
  rcases own_k p0 _ rfl with hk | hk | hk | hk
  · exact rm0k0 l Z a0 hw ws p0 aL aB aA aM yaL yaB yaM yaA zaL zaB zaM zaA ck_zaL ck_zaB ck_zaM ck_zaA wf cs h0 n0 Z0 S_aL E_aL S_aB E_aB S_aA E_aA S_aM E_aM F_yaL E_yaL F_yaB E_yaB F_yaM E_yaM F_yaA E_yaA F_zaL F_zaB F_zaM F_zaA G_yaL_coder G_aL_ordinal G_aB_ordinal G_aA_ordinal G_yaB_coder G_aM_ordinal G_yaM_coder G_yaA_coder V_zaL V_zaB V_zaM V_zaA Sc hcs Sf hwf hk
  · exact rm0k1 l Z a0 hw ws p0 aL aB aA aM yaL yaB yaM yaA zaL zaB zaM zaA ck_zaL ck_zaB ck_zaM ck_zaA wf cs h0 n0 Z0 S_aL E_aL S_aB E_aB S_aA E_aA S_aM E_aM F_yaL E_yaL F_yaB E_yaB F_yaM E_yaM F_yaA E_yaA F_zaL F_zaB F_zaM F_zaA G_yaL_coder G_aL_ordinal G_aB_ordinal G_aA_ordinal G_yaB_coder G_aM_ordinal G_yaM_coder G_yaA_coder V_zaL V_zaB V_zaM V_zaA Sc hcs Sf hwf hk
  · exact rm0k2 l Z a0 hw ws p0 aL aB aA aM yaL yaB yaM yaA zaL zaB zaM zaA ck_zaL ck_zaB ck_zaM ck_zaA wf cs h0 n0 Z0 S_aL E_aL S_aB E_aB S_aA E_aA S_aM E_aM F_yaL E_yaL F_yaB E_yaB F_yaM E_yaM F_yaA E_yaA F_zaL F_zaB F_zaM F_zaA G_yaL_coder G_aL_ordinal G_aB_ordinal G_aA_ordinal G_yaB_coder G_aM_ordinal G_yaM_coder G_yaA_coder V_zaL V_zaB V_zaM V_zaA Sc hcs Sf hwf hk
  · exact rm0k3 l Z a0 hw ws p0 aL aB aA aM yaL yaB yaM yaA zaL zaB zaM zaA ck_zaL ck_zaB ck_zaM ck_zaA wf cs h0 n0 Z0 S_aL E_aL S_aB E_aB S_aA E_aA S_aM E_aM F_yaL E_yaL F_yaB E_yaB F_yaM E_yaM F_yaA E_yaA F_zaL F_zaB F_zaM F_zaA G_yaL_coder G_aL_ordinal G_aB_ordinal G_aA_ordinal G_yaB_coder G_aM_ordinal G_yaM_coder G_yaA_coder V_zaL V_zaB V_zaM V_zaA Sc hcs Sf hwf hk
set_option maxRecDepth 65536 in
set_option maxHeartbeats 40000000 in
theorem comes_1 {Post : Tables → Env → Array Value → State → Outcome → State → Prop} (hpost : ∀ tb e args s v u, (limb_1_1.after args s (.returned v) u = true ∧ limb_1_2.after args s (.returned v) u = true ∧ True) → FrameEnd s (.returned v) u (Jvm.fieldLocs frame_1_writes args s ++ Jvm.arrayLocs frame_1_arrays args s ++ Jvm.staticLocs frame_1_statics s) 0 0 → Post tb e args s (.returned v) u) :
    ArmFor flags0 classFile x code maxLocals ret World_1 tables_1 room_1 Calls_1 rest_1 Pre_1 Post := by
  intro l hfl _ _ p e ha hc hk s m args below hf hA hF happ hP
  obtain ⟨hcalls, hrest, hpre⟩ := hP
  obtain ⟨-, -, -, hnamed, -, -, -, hat⟩ := (Spec.applies_iff hf).mp happ
  obtain ⟨hg, hn⟩ := and_e (Cond.before_iff.mp (show (Jvm.Cond.and given_1 narrow_1).before args s = true from hpre))
  obtain ⟨gg1, gg2⟩ := and_e hg
  obtain ⟨w0, rfl⟩ : ∃ w0 : Value, args = #[w0] := by
    have hs : args.size = 1 := by simpa [Cond.value, given_1] using gg1
    obtain ⟨L⟩ := args
    match L, hs with
    | [w0], _ => exact ⟨w0, rfl⟩
  have hw := fun d (hd : d ∈ tables_1) => atoms_spec (ws := Jvm.Cond.code x code maxLocals ret :: tables_1) hat d (List.mem_cons_of_mem _ hd)
  have W : ∀ {d : Jvm.Cond} (i : Nat), tables_1[i]? = some d → d.before _ s = true := fun i h => hw _ (List.mem_of_getElem? h)
  have hfit : Fit s := fun {y c} hc i hi => by
    obtain ⟨ha, rfl⟩ := Array.getElem?_eq_some_iff.mp hc
    have q := List.all_eq_true.mp ((Array.all_eq_true_iff_forall_mem.mp hF) _ (Array.getElem_mem ha)) i (List.mem_range.mpr hi)
    simpa [Array.getElem?_eq_getElem hi] using q
  obtain ⟨hsets, hown0⟩ := atoms_of _ (rest_1_c_eq ▸ (show rest_1_c.before _ s = true from hrest))
  obtain ⟨i0, ei0⟩ := is_v gg2
  obtain rfl : w0 = (.int i0) := Option.some.inj ei0
  obtain ⟨nr0, hn⟩ := and_e hn
  obtain ⟨nr1, hn⟩ := and_e hn
  obtain ⟨nr2, hn⟩ := and_e hn
  obtain ⟨nr3, hn⟩ := and_e hn
  obtain ⟨nr4, hn⟩ := and_e hn
  obtain ⟨nr5, hn⟩ := and_e hn
  obtain ⟨nr6, hn⟩ := and_e hn
  obtain ⟨nr7, hn⟩ := and_e hn
  obtain ⟨nr8, hn⟩ := and_e hn
  obtain ⟨nr9, hn⟩ := and_e hn
  obtain ⟨nr10, hn⟩ := and_e hn
  obtain ⟨nr11, hn⟩ := and_e hn
  obtain ⟨nr12, hn⟩ := and_e hn
  obtain ⟨nr13, hn⟩ := and_e hn
  obtain ⟨nr14, hn⟩ := and_e hn
  obtain ⟨nr15, hn⟩ := and_e hn
  obtain ⟨nr16, hn⟩ := and_e hn
  obtain ⟨nr17, hn⟩ := and_e hn
  obtain ⟨nr18, hn⟩ := and_e hn
  obtain ⟨nr19, hn⟩ := and_e hn
  obtain ⟨nr20, hn⟩ := and_e hn
  obtain ⟨nr21, hn⟩ := and_e hn
  obtain ⟨nr22, hn⟩ := and_e hn
  obtain ⟨nr23, hn⟩ := and_e hn
  obtain ⟨nr24, hn⟩ := and_e hn
  obtain ⟨nr25, hn⟩ := and_e hn
  obtain ⟨nr26, hn⟩ := and_e hn
  obtain ⟨nr27, hn⟩ := and_e hn
  obtain ⟨nr28, hn⟩ := and_e hn
  have nr29 := hn
  obtain ⟨aL, ev_aL⟩ := exa_v nr0
  have S_aL := Sta.start ev_aL (Or.inr ⟨(W 5 rfl), (W 6 rfl)⟩)
  have E_aL := Exa.start ev_aL nr0
  obtain ⟨aB, ev_aB⟩ := exa_v nr7
  have S_aB := Sta.start ev_aB (Or.inr ⟨(W 5 rfl), (W 73 rfl)⟩)
  have E_aB := Exa.start ev_aB nr7
  obtain ⟨aA, ev_aA⟩ := exa_v nr9
  have S_aA := Sta.start ev_aA (Or.inr ⟨(W 5 rfl), (W 75 rfl)⟩)
  have E_aA := Exa.start ev_aA nr9
  obtain ⟨aM, ev_aM⟩ := exa_v nr16
  have S_aM := Sta.start ev_aM (Or.inr ⟨(W 5 rfl), (W 78 rfl)⟩)
  have E_aM := Exa.start ev_aM nr16
  obtain ⟨yaL, ev_yaL⟩ := exa_v nr1
  have F_yaL := Fld.start ((fld_at ev_aL).symm.trans ev_yaL)
  have E_yaL := Exa.start ev_yaL nr1
  obtain ⟨yaB, ev_yaB⟩ := exa_v nr11
  have F_yaB := Fld.start ((fld_at ev_aB).symm.trans ev_yaB)
  have E_yaB := Exa.start ev_yaB nr11
  obtain ⟨yaM, ev_yaM⟩ := exa_v nr18
  have F_yaM := Fld.start ((fld_at ev_aM).symm.trans ev_yaM)
  have E_yaM := Exa.start ev_yaM nr18
  obtain ⟨yaA, ev_yaA⟩ := exa_v nr23
  have F_yaA := Fld.start ((fld_at ev_aA).symm.trans ev_yaA)
  have E_yaA := Exa.start ev_yaA nr23
  obtain ⟨zaL, ev_zaL⟩ := arr_v nr2
  have F_zaL := Fld.start ((fld_at ev_yaL).symm.trans ev_zaL)
  obtain ⟨zaB, ev_zaB⟩ := arr_v nr12
  have F_zaB := Fld.start ((fld_at ev_yaB).symm.trans ev_zaB)
  obtain ⟨zaM, ev_zaM⟩ := arr_v nr19
  have F_zaM := Fld.start ((fld_at ev_yaM).symm.trans ev_zaM)
  obtain ⟨zaA, ev_zaA⟩ := arr_v nr24
  have F_zaA := Fld.start ((fld_at ev_yaA).symm.trans ev_zaA)
  have G_yaL_coder := Fld.start ((fld_at ev_yaL).symm.trans (own_eqI nr4))
  have G_aL_ordinal := Fld.start ((fld_at ev_aL).symm.trans (own_eqI nr6))
  have G_aB_ordinal := Fld.start ((fld_at ev_aB).symm.trans (own_eqI nr8))
  have G_aA_ordinal := Fld.start ((fld_at ev_aA).symm.trans (own_eqI nr10))
  have G_yaB_coder := Fld.start ((fld_at ev_yaB).symm.trans (own_eqI nr14))
  have G_aM_ordinal := Fld.start ((fld_at ev_aM).symm.trans (own_eqI nr17))
  have G_yaM_coder := Fld.start ((fld_at ev_yaM).symm.trans (own_eqI nr21))
  have G_yaA_coder := Fld.start ((fld_at ev_yaA).symm.trans (own_eqI nr26))
  obtain ⟨cl_zaL, Ar_zaL⟩ := Arr.start ev_zaL nr2
  have L_zaL := own_len ev_zaL Ar_zaL (own_eqI nr3)
  have e_zaL_0 := elem_in (own_eqI nr5) ev_zaL (Term.int_eval 0) Ar_zaL.1
  have e_zaL_1 := elem_in (own_eqI nr28) ev_zaL (Term.int_eval 1) Ar_zaL.1
  have V_zaL : Arv s s.heap zaL cl_zaL.cls .byte (2 : Int32) [(.int (62 : Int32)), (.int (61 : Int32))] (.int (0 : Int32)) := Arv.start hfit Ar_zaL L_zaL.1 L_zaL.2 (by decide) rfl ⟨e_zaL_0.2, e_zaL_1.2, trivial⟩
  obtain ⟨cl_zaB, Ar_zaB⟩ := Arr.start ev_zaB nr12
  have L_zaB := own_len ev_zaB Ar_zaB (own_eqI nr13)
  have e_zaB_0 := elem_in (own_eqI nr15) ev_zaB (Term.int_eval 0) Ar_zaB.1
  have V_zaB : Arv s s.heap zaB cl_zaB.cls .byte (1 : Int32) [(.int (60 : Int32))] (.int (0 : Int32)) := Arv.start hfit Ar_zaB L_zaB.1 L_zaB.2 (by decide) rfl ⟨e_zaB_0.2, trivial⟩
  obtain ⟨cl_zaM, Ar_zaM⟩ := Arr.start ev_zaM nr19
  have L_zaM := own_len ev_zaM Ar_zaM (own_eqI nr20)
  have e_zaM_0 := elem_in (own_eqI nr22) ev_zaM (Term.int_eval 0) Ar_zaM.1
  have e_zaM_1 := elem_in (own_eqI nr29) ev_zaM (Term.int_eval 1) Ar_zaM.1
  have V_zaM : Arv s s.heap zaM cl_zaM.cls .byte (2 : Int32) [(.int (60 : Int32)), (.int (61 : Int32))] (.int (0 : Int32)) := Arv.start hfit Ar_zaM L_zaM.1 L_zaM.2 (by decide) rfl ⟨e_zaM_0.2, e_zaM_1.2, trivial⟩
  obtain ⟨cl_zaA, Ar_zaA⟩ := Arr.start ev_zaA nr24
  have L_zaA := own_len ev_zaA Ar_zaA (own_eqI nr25)
  have e_zaA_0 := elem_in (own_eqI nr27) ev_zaA (Term.int_eval 0) Ar_zaA.1
  have V_zaA : Arv s s.heap zaA cl_zaA.cls .byte (1 : Int32) [(.int (62 : Int32))] (.int (0 : Int32)) := Arv.start hfit Ar_zaA L_zaA.1 L_zaA.2 (by decide) rfl ⟨e_zaA_0.2, trivial⟩
  obtain ⟨cs, ev_cs⟩ := is_v (Cond.before_iff.mp (hsets _ (List.mem_of_getElem? (i := 1) rfl)))
  have Sc := Sta.start ev_cs (Or.inl (hsets _ (List.mem_of_getElem? (i := 0) rfl)))
  have hcs := own_neI (not_v (Cond.before_iff.mp (hsets _ (List.mem_of_getElem? (i := 2) rfl)))) ev_cs
  obtain ⟨wf, ev_wf, hwf⟩ := isR_v (Cond.before_iff.mp (hsets _ (List.mem_of_getElem? (i := 8) rfl)))
  have Sf := Sta.start ev_wf (Or.inl (hsets _ (List.mem_of_getElem? (i := 7) rfl)))
  obtain ⟨n, o, h1, h2, h3, _, L, rfl, ⟨rfl, N⟩, hq⟩ := rm0 l s _ hw tables_1 i0 aL aB aA aM yaL yaB yaM yaA zaL zaB zaM zaA cl_zaL.cls cl_zaB.cls cl_zaM.cls cl_zaA.cls wf cs s.heap s.heap.size (Nat.le_refl _) S_aL E_aL S_aB E_aB S_aA E_aA S_aM E_aM F_yaL E_yaL F_yaB E_yaB F_yaM E_yaM F_yaA E_yaA F_zaL F_zaB F_zaM F_zaA G_yaL_coder G_aL_ordinal G_aB_ordinal G_aA_ordinal G_yaB_coder G_aM_ordinal G_yaM_coder G_yaA_coder V_zaL V_zaB V_zaM V_zaA Sc hcs Sf hwf p e ha hc hk s m _ below hf ((Spec.applies_iff_loose hf).mp happ).1 ⟨rfl, State.Warmed39.refl s, rfl⟩ trivial
  refine ⟨n, _, h1, h2, h3, hpost _ _ _ _ _ _ ⟨Cond.after_iff.mpr rfl, Cond.after_iff.mpr (eq_i res_at (Term.int_eval (1)) rfl), trivial⟩ ⟨hq.1, hq.2.1, (hq.2.2.sift fun y hy => Or.inr (N y hy)).mono (by decide) (by decide)⟩⟩
theorem main_1_1 : Claimed_1_1 := comes_1 fun _ _ _ _ _ _ h hF => ⟨h.1, hF⟩
theorem main_1_2 : Claimed_1_2 := comes_1 fun _ _ _ _ _ _ h hF => ⟨h.2.1, hF⟩
end Jvm.Pilot.@@N@@
namespace Jvm.Pilot.@@N@@
open Jvm Jvm.ClassFile Sem Op Lib Jvm.Free Jvm.Stand Jvm.Pilot.@@N@@.Jvm.D
/-! MADE BY PROGRAM (witnessworld.py) out of the Statement's table words and the real class files: 18 classes; the members and pool entries that the words name. The judged class is class 1, her method 2. -/
namespace start1
open Jvm.ClassFile
def u (s : String) : CpInfo := .utf8 (stringToUtf16 s)
/-- a pool by its gaps: so many unusable entries, then the entry; so many at the end -/
def gap : Nat → List CpInfo → List CpInfo
  | 0, r => r
  | n + 1, r => .unusable :: gap n r
def poolList (es : List (Nat × CpInfo)) (last : Nat) : List CpInfo := es.foldr (fun e r => gap e.1 (e.2 :: r)) (gap last [])
def pool (es : List (Nat × CpInfo)) (last : Nat) : Array CpInfo := ⟨poolList es last⟩
def fileOf (pool : Array CpInfo) (this : Nat) (attrs : Array Attribute := #[]) (ms : Array MethodInfo := #[]) (fl : Nat := 33) (sup : Nat := 0) (ifs : Array Nat := #[]) (fds : Array FieldInfo := #[]) : ClassFile where
  minorVersion := 0
  majorVersion := 65
  constantPool := pool
  accessFlags := fl
  thisClass := this
  superClass := sup
  interfaces := ifs
  fields := fds
  methods := ms
  attributes := attrs
def plain (name : String) (sup : Option ClassId) : Class where
  name := name
  kind := .ordinary
  loader := none
  accessFlags := 33
  super := sup
  interfaces := #[]
  cf := none
  fields := #[]
  methods := #[]
  instanceTypes := #[]
  staticTypes := #[]
  resolved := #[]
  callSites := []
  init := .initialized
  statics := none
  mirror := none

def pool0 : Array CpInfo := pool [(5, u "<init>"), (0, u "()V"), (1, .class_ 10), (1, u "java/lang/Object")] 113

def k0m0 : Method := { name := "<init>", desc := "()V", sig := { parameters := [], returnType := none }, accessFlags := 1, code := none }
/-- java/lang/Object -/
def k0 : Class := { plain "java/lang/Object" none with
  accessFlags := 33
  interfaces := #[]
  cf := some (fileOf pool0 8 #[] #[{ accessFlags := 1, nameIndex := 5, descriptorIndex := 6, attributes := #[] }] 33 0 #[] #[])
  fields := #[]
  methods := #[k0m0]
  instanceTypes := #[]
  staticTypes := #[]
  resolved := Array.replicate 124 none
  statics := none }

def pool1 : Array CpInfo := pool [(2, .class_ 4), (1, u "java/lang/Object"), (0, u "<init>"), (0, u "()V"), (0, .fieldref 8 9), (0, .class_ 10), (0, .nameAndType 11 12), (0, u "com/example/brancher/brancher/model/Comparison"), (0, u "AT_LEAST"), (0, u "Lcom/example/brancher/brancher/model/Comparison;"), (0, .fieldref 8 14), (0, .nameAndType 15 12), (0, u "ABOVE"), (0, .fieldref 8 17), (0, .nameAndType 18 12), (0, u "AT_MOST"), (0, .fieldref 8 20), (0, .nameAndType 21 12), (0, u "BELOW"), (0, .methodref 23 24), (0, .class_ 25), (0, .nameAndType 26 27), (0, u "com/example/brancher/brancher/model/ComparisonIsLowerPinLaw"), (0, u "pick"), (0, u "(I)Lcom/example/brancher/brancher/model/Comparison;"), (0, .methodref 8 29), (0, .nameAndType 30 31), (0, u "isLower"), (0, u "()Z"), (0, .methodref 8 33), (0, .nameAndType 34 35), (0, u "symbol"), (0, u "()Ljava/lang/String;"), (0, .methodref 37 38), (0, .class_ 39), (0, .nameAndType 40 41), (0, u "java/lang/String"), (0, u "length"), (0, u "()I"), (0, .methodref 37 43), (0, .nameAndType 44 45), (0, u "charAt"), (0, u "(I)C"), (0, .methodref 8 47), (0, .nameAndType 48 49), (0, u "negated"), (0, u "()Lcom/example/brancher/brancher/model/Comparison;"), (3, u "law"), (0, u "(I)Z")] 2

def k1m0 : Method := { name := "<init>", desc := "()V", sig := { parameters := [], returnType := none }, accessFlags := 1, code := none }
def k1c1 : Code := { maxStack := 2, maxLocals := 2, code := method_2_code, exceptionTable := #[], attributes := #[] }
def k1m1 : Method := { name := "pick", desc := "(I)Lcom/example/brancher/brancher/model/Comparison;", sig := { parameters := [.int], returnType := some (.object "com/example/brancher/brancher/model/Comparison") }, accessFlags := 10, code := some k1c1 }
def k1c2 : Code := { maxStack := 2, maxLocals := 6, code := code, exceptionTable := #[], attributes := #[] }
def k1m2 : Method := { name := "law", desc := "(I)Z", sig := { parameters := [.int], returnType := some .boolean }, accessFlags := 9, code := some k1c2 }
/-- com/example/brancher/brancher/model/ComparisonIsLowerPinLaw -/
def k1 : Class := { plain "com/example/brancher/brancher/model/ComparisonIsLowerPinLaw" (some 0) with
  accessFlags := 49
  interfaces := #[]
  cf := some (fileOf pool1 23 #[] #[{ accessFlags := 1, nameIndex := 5, descriptorIndex := 6, attributes := #[] }, { accessFlags := 10, nameIndex := 26, descriptorIndex := 27, attributes := #[] }, { accessFlags := 9, nameIndex := 53, descriptorIndex := 54, attributes := #[] }] 49 2 #[] #[])
  fields := #[]
  methods := #[k1m0, k1m1, k1m2]
  instanceTypes := #[]
  staticTypes := #[]
  resolved := Array.replicate 57 none
  statics := none }

def pool2 : Array CpInfo := pool [(1, .class_ 2), (0, u "java/lang/constant/Constable"), (0, .class_ 4), (0, u "java/lang/Object")] 6

/-- java/lang/constant/Constable -/
def k2 : Class := { plain "java/lang/constant/Constable" (some 0) with
  accessFlags := 1537
  interfaces := #[]
  cf := some (fileOf pool2 1 #[] #[] 1537 3 #[] #[])
  fields := #[]
  methods := #[]
  instanceTypes := #[]
  staticTypes := #[]
  resolved := Array.replicate 11 none
  statics := none }

def pool3 : Array CpInfo := pool [(1, .class_ 2), (0, u "java/lang/Comparable"), (0, .class_ 4), (0, u "java/lang/Object")] 7

/-- java/lang/Comparable -/
def k3 : Class := { plain "java/lang/Comparable" (some 0) with
  accessFlags := 1537
  interfaces := #[]
  cf := some (fileOf pool3 1 #[] #[] 1537 3 #[] #[])
  fields := #[]
  methods := #[]
  instanceTypes := #[]
  staticTypes := #[]
  resolved := Array.replicate 12 none
  statics := none }

def pool4 : Array CpInfo := pool [(1, .class_ 2), (0, u "java/io/Serializable"), (0, .class_ 4), (0, u "java/lang/Object")] 2

/-- java/io/Serializable -/
def k4 : Class := { plain "java/io/Serializable" (some 0) with
  accessFlags := 1537
  interfaces := #[]
  cf := some (fileOf pool4 1 #[] #[] 1537 3 #[] #[])
  fields := #[]
  methods := #[]
  instanceTypes := #[]
  staticTypes := #[]
  resolved := Array.replicate 7 none
  statics := none }

def pool5 : Array CpInfo := pool [(2, .class_ 4), (1, u "java/lang/Enum"), (0, u "name"), (0, u "Ljava/lang/String;"), (0, .fieldref 2 8), (0, .nameAndType 9 10), (0, u "ordinal"), (0, u "I"), (1, .class_ 14), (1, u "java/lang/Object"), (4, u "hash"), (86, .class_ 108), (1, u "java/lang/Enum$EnumDesc"), (2, .class_ 112), (0, u "java/lang/constant/Constable"), (0, .class_ 114), (0, u "java/lang/Comparable"), (0, .class_ 116), (0, u "java/io/Serializable"), (9, u "()I")] 77

def k5c0 : Code := { maxStack := 1, maxLocals := 1, code := jdk_37_method_2_code, exceptionTable := #[], attributes := #[] }
def k5m0 : Method := { name := "ordinal", desc := "()I", sig := { parameters := [], returnType := some .int }, accessFlags := 17, code := some k5c0 }
/-- java/lang/Enum -/
def k5 : Class := { plain "java/lang/Enum" (some 0) with
  accessFlags := 1057
  interfaces := #[2, 3, 4]
  cf := some (fileOf pool5 2 #[.nestMembers #[106]] #[{ accessFlags := 17, nameIndex := 9, descriptorIndex := 126, attributes := #[] }] 1057 12 #[111, 113, 115] #[{ accessFlags := 18, nameIndex := 5, descriptorIndex := 6, attributes := #[] }, { accessFlags := 18, nameIndex := 9, descriptorIndex := 10, attributes := #[] }, { accessFlags := 2, nameIndex := 19, descriptorIndex := 10, attributes := #[] }])
  fields := #[{ name := "name", type := (.object "java/lang/String"), accessFlags := 18, slot := 0, constantValue := 0 }, { name := "ordinal", type := .int, accessFlags := 18, slot := 1, constantValue := 0 }, { name := "hash", type := .int, accessFlags := 2, slot := 2, constantValue := 0 }]
  methods := #[k5m0]
  instanceTypes := #[(.object "java/lang/String"), .int, .int]
  staticTypes := #[]
  resolved := Array.replicate 204 none
  statics := none }

def pool6 : Array CpInfo := pool [(1, .class_ 2), (0, u "com/example/brancher/brancher/model/Comparison"), (0, .fieldref 1 4), (0, .nameAndType 5 6), (0, u "AT_LEAST"), (0, u "Lcom/example/brancher/brancher/model/Comparison;"), (0, .fieldref 1 8), (0, .nameAndType 9 6), (0, u "ABOVE"), (0, .fieldref 1 11), (0, .nameAndType 12 6), (0, u "AT_MOST"), (0, .fieldref 1 14), (0, .nameAndType 15 6), (0, u "BELOW"), (2, u "$VALUES"), (0, u "[Lcom/example/brancher/brancher/model/Comparison;"), (6, .class_ 28), (1, u "java/lang/Enum"), (6, .fieldref 1 36), (0, .nameAndType 37 38), (0, u "symbol"), (0, u "Ljava/lang/String;"), (6, .methodref 1 46), (0, .nameAndType 47 48), (0, u "ordinal"), (0, u "()I"), (31, u "()Ljava/lang/String;"), (3, u "isLower"), (0, u "()Z"), (0, u "negated"), (0, u "()Lcom/example/brancher/brancher/model/Comparison;")] 6

def k6c0 : Code := { maxStack := 1, maxLocals := 1, code := prog_17_method_4_code, exceptionTable := #[], attributes := #[] }
def k6m0 : Method := { name := "symbol", desc := "()Ljava/lang/String;", sig := { parameters := [], returnType := some (.object "java/lang/String") }, accessFlags := 1, code := some k6c0 }
def k6c1 : Code := { maxStack := 2, maxLocals := 1, code := prog_17_method_6_code, exceptionTable := #[], attributes := #[] }
def k6m1 : Method := { name := "isLower", desc := "()Z", sig := { parameters := [], returnType := some .boolean }, accessFlags := 1, code := some k6c1 }
def k6c2 : Code := { maxStack := 4, maxLocals := 1, code := prog_17_method_7_code, exceptionTable := #[], attributes := #[] }
def k6m2 : Method := { name := "negated", desc := "()Lcom/example/brancher/brancher/model/Comparison;", sig := { parameters := [], returnType := some (.object "com/example/brancher/brancher/model/Comparison") }, accessFlags := 1, code := some k6c2 }
/-- com/example/brancher/brancher/model/Comparison -/
def k6 : Class := { plain "com/example/brancher/brancher/model/Comparison" (some 5) with
  accessFlags := 16433
  interfaces := #[]
  cf := some (fileOf pool6 1 #[] #[{ accessFlags := 1, nameIndex := 37, descriptorIndex := 80, attributes := #[] }, { accessFlags := 1, nameIndex := 84, descriptorIndex := 85, attributes := #[] }, { accessFlags := 1, nameIndex := 86, descriptorIndex := 87, attributes := #[] }] 16433 26 #[] #[{ accessFlags := 16409, nameIndex := 5, descriptorIndex := 6, attributes := #[] }, { accessFlags := 16409, nameIndex := 9, descriptorIndex := 6, attributes := #[] }, { accessFlags := 16409, nameIndex := 12, descriptorIndex := 6, attributes := #[] }, { accessFlags := 16409, nameIndex := 15, descriptorIndex := 6, attributes := #[] }, { accessFlags := 18, nameIndex := 37, descriptorIndex := 38, attributes := #[] }, { accessFlags := 4122, nameIndex := 18, descriptorIndex := 19, attributes := #[] }])
  fields := #[{ name := "AT_LEAST", type := (.object "com/example/brancher/brancher/model/Comparison"), accessFlags := 16409, slot := 0, constantValue := 0 }, { name := "ABOVE", type := (.object "com/example/brancher/brancher/model/Comparison"), accessFlags := 16409, slot := 1, constantValue := 0 }, { name := "AT_MOST", type := (.object "com/example/brancher/brancher/model/Comparison"), accessFlags := 16409, slot := 2, constantValue := 0 }, { name := "BELOW", type := (.object "com/example/brancher/brancher/model/Comparison"), accessFlags := 16409, slot := 3, constantValue := 0 }, { name := "symbol", type := (.object "java/lang/String"), accessFlags := 18, slot := 3, constantValue := 0 }, { name := "$VALUES", type := (.array (.object "com/example/brancher/brancher/model/Comparison")), accessFlags := 4122, slot := 4, constantValue := 0 }]
  methods := #[k6m0, k6m1, k6m2]
  instanceTypes := #[(.object "java/lang/String"), .int, .int, (.object "java/lang/String")]
  staticTypes := #[(.object "com/example/brancher/brancher/model/Comparison"), (.object "com/example/brancher/brancher/model/Comparison"), (.object "com/example/brancher/brancher/model/Comparison"), (.object "com/example/brancher/brancher/model/Comparison"), (.array (.object "com/example/brancher/brancher/model/Comparison"))]
  resolved := Array.replicate 94 none
  statics := some 0 }

def pool7 : Array CpInfo := pool [(2, .class_ 4), (1, u "java/lang/CharSequence"), (42, .class_ 48), (0, u "java/lang/CharSequence$1CodePointIterator"), (10, .class_ 60), (0, u "java/lang/CharSequence$1CharIterator"), (5, .class_ 67), (0, u "java/lang/Object")] 63

/-- java/lang/CharSequence -/
def k7 : Class := { plain "java/lang/CharSequence" (some 0) with
  accessFlags := 1537
  interfaces := #[]
  cf := some (fileOf pool7 2 #[.nestMembers #[47, 59]] #[] 1537 66 #[] #[])
  fields := #[]
  methods := #[]
  instanceTypes := #[]
  staticTypes := #[]
  resolved := Array.replicate 131 none
  statics := none }

def pool8 : Array CpInfo := pool [(1, .class_ 2), (0, u "java/lang/constant/ConstantDesc"), (0, .class_ 4), (0, u "java/lang/Object")] 32

/-- java/lang/constant/ConstantDesc -/
def k8 : Class := { plain "java/lang/constant/ConstantDesc" (some 0) with
  accessFlags := 1537
  interfaces := #[]
  cf := some (fileOf pool8 1 #[] #[] 1537 3 #[] #[])
  fields := #[]
  methods := #[]
  instanceTypes := #[]
  staticTypes := #[]
  resolved := Array.replicate 37 none
  statics := none }

def pool9 : Array CpInfo := pool [(2, .class_ 4), (1, u "java/lang/Object"), (0, u "<init>"), (0, u "()V"), (2, .fieldref 10 11), (0, .class_ 12), (0, .nameAndType 13 14), (0, u "java/lang/String"), (0, u "value"), (0, u "[B"), (0, .fieldref 10 16), (0, .nameAndType 17 18), (0, u "coder"), (0, u "B"), (2, u "hash"), (0, u "I"), (2, u "hashIsZero"), (0, u "Z"), (11, .fieldref 10 39), (0, .nameAndType 40 26), (0, u "COMPACT_STRINGS"), (66, .class_ 109), (1, u "java/lang/StringLatin1"), (32, u "()Z"), (191, u "()I"), (0, .methodref 10 336), (0, .nameAndType 17 337), (0, u "()B"), (25, u "([BI)C"), (27, u "(II)V"), (35, u "(I)C"), (64, .methodref 10 493), (0, .nameAndType 494 142), (0, u "isLatin1"), (0, .methodref 107 496), (0, .nameAndType 497 363), (0, u "charAt"), (3, u "checkIndex"), (5, u "length"), (67, .class_ 576), (0, u "java/lang/CharSequence"), (22, u "CASE_INSENSITIVE_ORDER"), (0, u "Ljava/util/Comparator;"), (452, .fieldref 1054 1055), (0, .class_ 1056), (0, .nameAndType 1057 1058), (0, u "jdk/internal/util/Preconditions"), (0, u "SIOOBE_FORMATTER"), (0, u "Ljava/util/function/BiFunction;"), (0, .methodref 1054 1060), (0, .nameAndType 501 1061), (0, u "(IILjava/util/function/BiFunction;)I"), (39, u "serialPersistentFields"), (0, u "[Ljava/io/ObjectStreamField;"), (0, .class_ 1104), (0, u "java/lang/String$CaseInsensitiveComparator"), (1, .class_ 1107), (0, u "java/io/Serializable"), (0, .class_ 1109), (0, u "java/lang/Comparable"), (0, .class_ 1111), (0, u "java/lang/constant/Constable"), (0, .class_ 1113), (0, u "java/lang/constant/ConstantDesc"), (2, u "serialVersionUID"), (0, u "J"), (3, u "REPL"), (0, u "C"), (2, u "LATIN1"), (1, u "UTF16")] 323

def k9m0 : Method := { name := "<init>", desc := "()V", sig := { parameters := [], returnType := none }, accessFlags := 1, code := none }
def k9c1 : Code := { maxStack := 2, maxLocals := 1, code := jdk_42_method_54_code, exceptionTable := #[], attributes := #[] }
def k9m1 : Method := { name := "length", desc := "()I", sig := { parameters := [], returnType := some .int }, accessFlags := 1, code := some k9c1 }
def k9c2 : Code := { maxStack := 2, maxLocals := 2, code := jdk_42_method_56_code, exceptionTable := #[], attributes := #[] }
def k9m2 : Method := { name := "charAt", desc := "(I)C", sig := { parameters := [.int], returnType := some .char }, accessFlags := 1, code := some k9c2 }
def k9c3 : Code := { maxStack := 1, maxLocals := 1, code := jdk_42_method_152_code, exceptionTable := #[], attributes := #[] }
def k9m3 : Method := { name := "coder", desc := "()B", sig := { parameters := [], returnType := some .byte }, accessFlags := 0, code := some k9c3 }
def k9c4 : Code := { maxStack := 1, maxLocals := 1, code := jdk_42_method_154_code, exceptionTable := #[], attributes := #[] }
def k9m4 : Method := { name := "isLatin1", desc := "()Z", sig := { parameters := [], returnType := some .boolean }, accessFlags := 0, code := some k9c4 }
def k9c5 : Code := { maxStack := 3, maxLocals := 2, code := jdk_42_method_155_code, exceptionTable := #[], attributes := #[] }
def k9m5 : Method := { name := "checkIndex", desc := "(II)V", sig := { parameters := [.int, .int], returnType := none }, accessFlags := 8, code := some k9c5 }
/-- java/lang/String -/
def k9 : Class := { plain "java/lang/String" (some 0) with
  accessFlags := 49
  interfaces := #[4, 3, 7, 2, 8]
  cf := some (fileOf pool9 10 #[.nestMembers #[1103]] #[{ accessFlags := 1, nameIndex := 5, descriptorIndex := 6, attributes := #[] }, { accessFlags := 1, nameIndex := 507, descriptorIndex := 334, attributes := #[] }, { accessFlags := 1, nameIndex := 497, descriptorIndex := 427, attributes := #[] }, { accessFlags := 0, nameIndex := 17, descriptorIndex := 337, attributes := #[] }, { accessFlags := 0, nameIndex := 494, descriptorIndex := 142, attributes := #[] }, { accessFlags := 8, nameIndex := 501, descriptorIndex := 391, attributes := #[] }] 49 2 #[1106, 1108, 575, 1110, 1112] #[{ accessFlags := 18, nameIndex := 13, descriptorIndex := 14, attributes := #[] }, { accessFlags := 18, nameIndex := 17, descriptorIndex := 18, attributes := #[] }, { accessFlags := 2, nameIndex := 21, descriptorIndex := 22, attributes := #[] }, { accessFlags := 2, nameIndex := 25, descriptorIndex := 26, attributes := #[] }, { accessFlags := 26, nameIndex := 1116, descriptorIndex := 1117, attributes := #[] }, { accessFlags := 24, nameIndex := 40, descriptorIndex := 26, attributes := #[] }, { accessFlags := 26, nameIndex := 1101, descriptorIndex := 1102, attributes := #[] }, { accessFlags := 26, nameIndex := 1121, descriptorIndex := 1122, attributes := #[] }, { accessFlags := 25, nameIndex := 599, descriptorIndex := 600, attributes := #[] }, { accessFlags := 24, nameIndex := 1125, descriptorIndex := 18, attributes := #[] }, { accessFlags := 24, nameIndex := 1127, descriptorIndex := 18, attributes := #[] }])
  fields := #[{ name := "value", type := (.array .byte), accessFlags := 18, slot := 0, constantValue := 0 }, { name := "coder", type := .byte, accessFlags := 18, slot := 1, constantValue := 0 }, { name := "hash", type := .int, accessFlags := 2, slot := 2, constantValue := 0 }, { name := "hashIsZero", type := .boolean, accessFlags := 2, slot := 3, constantValue := 0 }, { name := "serialVersionUID", type := .long, accessFlags := 26, slot := 0, constantValue := 0 }, { name := "COMPACT_STRINGS", type := .boolean, accessFlags := 24, slot := 1, constantValue := 0 }, { name := "serialPersistentFields", type := (.array (.object "java/io/ObjectStreamField")), accessFlags := 26, slot := 2, constantValue := 0 }, { name := "REPL", type := .char, accessFlags := 26, slot := 3, constantValue := 0 }, { name := "CASE_INSENSITIVE_ORDER", type := (.object "java/util/Comparator"), accessFlags := 25, slot := 4, constantValue := 0 }, { name := "LATIN1", type := .byte, accessFlags := 24, slot := 5, constantValue := 0 }, { name := "UTF16", type := .byte, accessFlags := 24, slot := 6, constantValue := 0 }]
  methods := #[k9m0, k9m1, k9m2, k9m3, k9m4, k9m5]
  instanceTypes := #[(.array .byte), .byte, .int, .boolean]
  staticTypes := #[.long, .boolean, (.array (.object "java/io/ObjectStreamField")), .char, (.object "java/util/Comparator"), .byte, .byte]
  resolved := Array.replicate 1451 none
  statics := some 1 }

def pool10 : Array CpInfo := pool [(1, .class_ 2), (0, u "java/lang/String"), (1, .class_ 6), (1, u "java/lang/Object"), (0, u "<init>"), (0, u "()V"), (0, .methodref 1 10), (0, .nameAndType 11 12), (0, u "checkIndex"), (0, u "(II)V"), (1, .class_ 16), (1, u "java/lang/StringLatin1"), (36, u "([BI)C"), (67, u "$assertionsDisabled"), (0, u "Z"), (98, .class_ 223), (1, u "java/lang/StringLatin1$LinesSpliterator"), (28, u "charAt"), (137, .class_ 391), (0, u "java/lang/StringLatin1$CharsSpliterator")] 3

def k10m0 : Method := { name := "<init>", desc := "()V", sig := { parameters := [], returnType := none }, accessFlags := 0, code := none }
def k10c1 : Code := { maxStack := 2, maxLocals := 2, code := jdk_43_method_2_code, exceptionTable := #[], attributes := #[] }
def k10m1 : Method := { name := "charAt", desc := "([BI)C", sig := { parameters := [(.array .byte), .int], returnType := some .char }, accessFlags := 9, code := some k10c1 }
/-- java/lang/StringLatin1 -/
def k10 : Class := { plain "java/lang/StringLatin1" (some 0) with
  accessFlags := 48
  interfaces := #[]
  cf := some (fileOf pool10 14 #[.nestMembers #[390, 221]] #[{ accessFlags := 0, nameIndex := 7, descriptorIndex := 8, attributes := #[] }, { accessFlags := 9, nameIndex := 252, descriptorIndex := 53, attributes := #[] }] 48 4 #[] #[{ accessFlags := 4120, nameIndex := 121, descriptorIndex := 122, attributes := #[] }])
  fields := #[{ name := "$assertionsDisabled", type := .boolean, accessFlags := 4120, slot := 0, constantValue := 0 }]
  methods := #[k10m0, k10m1]
  instanceTypes := #[]
  staticTypes := #[.boolean]
  resolved := Array.replicate 395 none
  statics := none }

def pool11 : Array CpInfo := pool [(2, .class_ 4), (1, u "java/lang/Object"), (0, u "<init>"), (0, u "()V"), (17, .class_ 26), (1, u "jdk/internal/util/Preconditions"), (6, u "checkIndex"), (21, .class_ 56), (0, u "jdk/internal/util/Preconditions$4"), (57, .class_ 115), (0, u "jdk/internal/util/Preconditions$1"), (7, u "SIOOBE_FORMATTER"), (0, u "Ljava/util/function/BiFunction;"), (0, .class_ 126), (0, u "jdk/internal/util/Preconditions$2"), (3, u "AIOOBE_FORMATTER"), (0, .class_ 132), (0, u "jdk/internal/util/Preconditions$3"), (3, u "IOOBE_FORMATTER"), (41, u "(IILjava/util/function/BiFunction;)I")] 15

def k11m0 : Method := { name := "<init>", desc := "()V", sig := { parameters := [], returnType := none }, accessFlags := 1, code := none }
def k11c1 : Code := { maxStack := 3, maxLocals := 3, code := jdk_41_method_11_code, exceptionTable := #[], attributes := #[] }
def k11m1 : Method := { name := "checkIndex", desc := "(IILjava/util/function/BiFunction;)I", sig := { parameters := [.int, .int, (.object "java/util/function/BiFunction")], returnType := some .int }, accessFlags := 9, code := some k11c1 }
/-- jdk/internal/util/Preconditions -/
def k11 : Class := { plain "jdk/internal/util/Preconditions" (some 0) with
  accessFlags := 33
  interfaces := #[]
  cf := some (fileOf pool11 24 #[.nestMembers #[55, 131, 125, 114]] #[{ accessFlags := 1, nameIndex := 5, descriptorIndex := 6, attributes := #[] }, { accessFlags := 9, nameIndex := 33, descriptorIndex := 178, attributes := #[] }] 33 2 #[] #[{ accessFlags := 25, nameIndex := 123, descriptorIndex := 124, attributes := #[] }, { accessFlags := 25, nameIndex := 130, descriptorIndex := 124, attributes := #[] }, { accessFlags := 25, nameIndex := 136, descriptorIndex := 124, attributes := #[] }])
  fields := #[{ name := "SIOOBE_FORMATTER", type := (.object "java/util/function/BiFunction"), accessFlags := 25, slot := 0, constantValue := 0 }, { name := "AIOOBE_FORMATTER", type := (.object "java/util/function/BiFunction"), accessFlags := 25, slot := 1, constantValue := 0 }, { name := "IOOBE_FORMATTER", type := (.object "java/util/function/BiFunction"), accessFlags := 25, slot := 2, constantValue := 0 }]
  methods := #[k11m0, k11m1]
  instanceTypes := #[]
  staticTypes := #[(.object "java/util/function/BiFunction"), (.object "java/util/function/BiFunction"), (.object "java/util/function/BiFunction")]
  resolved := Array.replicate 194 none
  statics := some 2 }

def pool12 : Array CpInfo := pool [(9, u "<init>"), (6, .class_ 18), (1, u "java/lang/Object"), (0, u "()V"), (1, .class_ 23), (1, u "jdk/internal/util/ArraysSupport"), (0, u "LOG2_ARRAY_LONG_INDEX_SCALE"), (0, u "I"), (2, u "U"), (0, u "Ljdk/internal/misc/Unsafe;"), (8, u "BIG_ENDIAN"), (0, u "Z"), (8, u "LOG2_BYTE_BIT_SIZE"), (4, u "LOG2_ARRAY_INT_INDEX_SCALE"), (54, u "JLA"), (0, u "Ljdk/internal/access/JavaLangAccess;"), (11, u "LOG2_ARRAY_BOOLEAN_INDEX_SCALE"), (9, u "LOG2_ARRAY_BYTE_INDEX_SCALE"), (5, u "LOG2_ARRAY_CHAR_INDEX_SCALE"), (5, u "LOG2_ARRAY_SHORT_INDEX_SCALE"), (18, u "LOG2_ARRAY_FLOAT_INDEX_SCALE"), (24, u "LOG2_ARRAY_DOUBLE_INDEX_SCALE"), (89, u "T_BOOLEAN"), (2, u "T_CHAR"), (1, u "T_FLOAT"), (1, u "T_DOUBLE"), (1, u "T_BYTE"), (1, u "T_SHORT"), (1, u "T_INT"), (1, u "T_LONG"), (1, u "SOFT_MAX_ARRAY_LENGTH")] 83

def k12m0 : Method := { name := "<init>", desc := "()V", sig := { parameters := [], returnType := none }, accessFlags := 2, code := none }
/-- jdk/internal/util/ArraysSupport -/
def k12 : Class := { plain "jdk/internal/util/ArraysSupport" (some 0) with
  accessFlags := 33
  interfaces := #[]
  cf := some (fileOf pool12 21 #[] #[{ accessFlags := 2, nameIndex := 9, descriptorIndex := 19, attributes := #[] }] 33 16 #[] #[{ accessFlags := 24, nameIndex := 28, descriptorIndex := 29, attributes := #[] }, { accessFlags := 26, nameIndex := 38, descriptorIndex := 39, attributes := #[] }, { accessFlags := 25, nameIndex := 121, descriptorIndex := 25, attributes := #[] }, { accessFlags := 25, nameIndex := 131, descriptorIndex := 25, attributes := #[] }, { accessFlags := 25, nameIndex := 137, descriptorIndex := 25, attributes := #[] }, { accessFlags := 25, nameIndex := 143, descriptorIndex := 25, attributes := #[] }, { accessFlags := 25, nameIndex := 53, descriptorIndex := 25, attributes := #[] }, { accessFlags := 25, nameIndex := 24, descriptorIndex := 25, attributes := #[] }, { accessFlags := 25, nameIndex := 162, descriptorIndex := 25, attributes := #[] }, { accessFlags := 25, nameIndex := 187, descriptorIndex := 25, attributes := #[] }, { accessFlags := 26, nameIndex := 48, descriptorIndex := 25, attributes := #[] }, { accessFlags := 25, nameIndex := 277, descriptorIndex := 25, attributes := #[] }, { accessFlags := 25, nameIndex := 280, descriptorIndex := 25, attributes := #[] }, { accessFlags := 25, nameIndex := 282, descriptorIndex := 25, attributes := #[] }, { accessFlags := 25, nameIndex := 284, descriptorIndex := 25, attributes := #[] }, { accessFlags := 25, nameIndex := 286, descriptorIndex := 25, attributes := #[] }, { accessFlags := 25, nameIndex := 288, descriptorIndex := 25, attributes := #[] }, { accessFlags := 25, nameIndex := 290, descriptorIndex := 25, attributes := #[] }, { accessFlags := 25, nameIndex := 292, descriptorIndex := 25, attributes := #[] }, { accessFlags := 26, nameIndex := 108, descriptorIndex := 109, attributes := #[] }, { accessFlags := 25, nameIndex := 294, descriptorIndex := 25, attributes := #[] }])
  fields := #[{ name := "U", type := (.object "jdk/internal/misc/Unsafe"), accessFlags := 24, slot := 0, constantValue := 0 }, { name := "BIG_ENDIAN", type := .boolean, accessFlags := 26, slot := 1, constantValue := 0 }, { name := "LOG2_ARRAY_BOOLEAN_INDEX_SCALE", type := .int, accessFlags := 25, slot := 2, constantValue := 0 }, { name := "LOG2_ARRAY_BYTE_INDEX_SCALE", type := .int, accessFlags := 25, slot := 3, constantValue := 0 }, { name := "LOG2_ARRAY_CHAR_INDEX_SCALE", type := .int, accessFlags := 25, slot := 4, constantValue := 0 }, { name := "LOG2_ARRAY_SHORT_INDEX_SCALE", type := .int, accessFlags := 25, slot := 5, constantValue := 0 }, { name := "LOG2_ARRAY_INT_INDEX_SCALE", type := .int, accessFlags := 25, slot := 6, constantValue := 0 }, { name := "LOG2_ARRAY_LONG_INDEX_SCALE", type := .int, accessFlags := 25, slot := 7, constantValue := 0 }, { name := "LOG2_ARRAY_FLOAT_INDEX_SCALE", type := .int, accessFlags := 25, slot := 8, constantValue := 0 }, { name := "LOG2_ARRAY_DOUBLE_INDEX_SCALE", type := .int, accessFlags := 25, slot := 9, constantValue := 0 }, { name := "LOG2_BYTE_BIT_SIZE", type := .int, accessFlags := 26, slot := 10, constantValue := 0 }, { name := "T_BOOLEAN", type := .int, accessFlags := 25, slot := 11, constantValue := 0 }, { name := "T_CHAR", type := .int, accessFlags := 25, slot := 12, constantValue := 0 }, { name := "T_FLOAT", type := .int, accessFlags := 25, slot := 13, constantValue := 0 }, { name := "T_DOUBLE", type := .int, accessFlags := 25, slot := 14, constantValue := 0 }, { name := "T_BYTE", type := .int, accessFlags := 25, slot := 15, constantValue := 0 }, { name := "T_SHORT", type := .int, accessFlags := 25, slot := 16, constantValue := 0 }, { name := "T_INT", type := .int, accessFlags := 25, slot := 17, constantValue := 0 }, { name := "T_LONG", type := .int, accessFlags := 25, slot := 18, constantValue := 0 }, { name := "JLA", type := (.object "jdk/internal/access/JavaLangAccess"), accessFlags := 26, slot := 19, constantValue := 0 }, { name := "SOFT_MAX_ARRAY_LENGTH", type := .int, accessFlags := 25, slot := 20, constantValue := 0 }]
  methods := #[k12m0]
  instanceTypes := #[]
  staticTypes := #[(.object "jdk/internal/misc/Unsafe"), .boolean, .int, .int, .int, .int, .int, .int, .int, .int, .int, .int, .int, .int, .int, .int, .int, .int, .int, (.object "jdk/internal/access/JavaLangAccess"), .int]
  resolved := Array.replicate 378 none
  statics := none }

def pool13 : Array CpInfo := pool [(1, u "java/lang/Cloneable"), (0, .class_ 1), (0, u "java/lang/Object"), (0, .class_ 3)] 3

/-- java/lang/Cloneable -/
def k13 : Class := { plain "java/lang/Cloneable" (some 0) with
  accessFlags := 1537
  interfaces := #[]
  cf := some (fileOf pool13 2 #[] #[] 1537 4 #[] #[])
  fields := #[]
  methods := #[]
  instanceTypes := #[]
  staticTypes := #[]
  resolved := Array.replicate 8 none
  statics := none }

/-- the primitive byte -/
def k14 : Class := { plain "byte" none with kind := .primitive 'B', accessFlags := 0x411 }
/-- [B -/
def k15 : Class := { plain "[B" (some 0) with kind := .array 14 .byte, interfaces := #[13, 4], accessFlags := 1041 }

/-- the primitive int -/
def k16 : Class := { plain "int" none with kind := .primitive 'I', accessFlags := 0x411 }
/-- [I -/
def k17 : Class := { plain "[I" (some 0) with kind := .array 16 .int, interfaces := #[13, 4], accessFlags := 1041 }

def heap : Heap := #[{ cls := 6, slots := #[.ref 5, .ref 8, .ref 11, .ref 14, .null], vm := .statics 6 },
  { cls := 9, slots := #[.long 0, .int 1, .null, .int 0, .null, .int 0, .int 0], vm := .statics 9 },
  { cls := 11, slots := #[.null, .null, .null], vm := .statics 11 },
  { cls := 15, slots := #[.int 62, .int 61], vm := .none },
  { cls := 9, slots := #[.ref 3, .int 0, .int 0, .int 0], vm := .none },
  { cls := 6, slots := #[.null, .int 0, .int 0, .ref 4], vm := .none },
  { cls := 15, slots := #[.int 62], vm := .none },
  { cls := 9, slots := #[.ref 6, .int 0, .int 0, .int 0], vm := .none },
  { cls := 6, slots := #[.null, .int 1, .int 0, .ref 7], vm := .none },
  { cls := 15, slots := #[.int 60, .int 61], vm := .none },
  { cls := 9, slots := #[.ref 9, .int 0, .int 0, .int 0], vm := .none },
  { cls := 6, slots := #[.null, .int 2, .int 0, .ref 10], vm := .none },
  { cls := 15, slots := #[.int 60], vm := .none },
  { cls := 9, slots := #[.ref 12, .int 0, .int 0, .int 0], vm := .none },
  { cls := 6, slots := #[.null, .int 3, .int 0, .ref 13], vm := .none }]
def classes : Array Class := #[k0, k1, k2, k3, k4, k5, k6, k7, k8, k9, k10, k11, k12, k13, k14, k15, k16, k17]
def interned : List (Array UInt16 × Addr) := []
def slotsUsed : Nat := 53
def theMethod : MethodId := ⟨1, 2⟩
def args0 : Array Value := #[.int 5]
def aboutOver (below : List Frame) : State where
  vm := { classes := classes, interned := interned.toArray }
  heap := heap
  slotsUsed := slotsUsed
  threads := #[{ frames := .invoking theMethod args0 :: below }]
def below0 : List Frame := [.native { method := ⟨0, 0⟩, args := #[] }]
def about1 : State := aboutOver below0
def p0 : Program := .bare "" "" ""
def e0 : Env := launch0.env 0 0 0
theorem w_frames : about1.frames = Frame.invoking theMethod args0 :: below0 := rfl
set_option maxRecDepth 65536 in
theorem w_args : argsFit about1.vm theMethod args0 = true := by decide +kernel
set_option maxRecDepth 65536 in
theorem w_heap : heapFits about1 = true := by decide +kernel
set_option maxRecDepth 65536 in
theorem w_runnable : about1.curStatus? = some .runnable := by decide +kernel
set_option maxRecDepth 65536 in
theorem w_alone : about1.alone = true := by decide +kernel
set_option maxRecDepth 65536 in
theorem w_named : about1.methodNamed? x = some theMethod := by decide +kernel
set_option maxRecDepth 65536 in
theorem w_hears : about1.hears theMethod below0 = true := by decide +kernel
set_option maxRecDepth 65536 in
theorem w_ripe : about1.ripe theMethod args0 below0 = true := by decide +kernel
theorem w_running : about1.status = .running := rfl
set_option maxRecDepth 65536 in
theorem w_room : about1.hasRoom e0.platform room_1 = true :=
  launch0.hasRoom_least _ room_1 (by decide +kernel) (by decide +kernel) (by decide +kernel) (by decide +kernel) (by decide +kernel) (by decide +kernel)
theorem allAtoms_all (ts : List Jvm.Cond) (a : Array Jvm.Value) (st : Jvm.State) : (allAtoms ts).before a st = ts.all (fun c => c.before a st) := by
  induction ts with
  | nil => rfl
  | cons c t ih =>
    show (Jvm.Cond.and c (allAtoms t)).before a st = _
    rw [Jvm.Cond.before_and, ih, List.all_cons]
def words1 : List Jvm.Cond := Jvm.Cond.code x code maxLocals ret :: tables_1
/-- a 'code' word, met by the world's own term for the bytes: nothing is compared byte by byte -/
theorem code_word {y : MethodName} {bytes : ByteArray} {mx : Nat} {rt : Option FieldType} {a : Array Value} {s : State} {m : MethodId} {meth : Method} {c : Code} (h1 : s.methodNamed? y = some m) (h2 : s.vm.method? m = some meth) (h3 : meth.code = some c) (h4 : c.code = bytes)
    (h5 : (c.maxLocals == mx && c.exceptionTable.isEmpty && decide (c.maxStack ≤ mostOperands) && decide (meth.sig.returnType = rt) && !meth.locks && decide (parseMethodDescriptor y.desc = some meth.sig)) = true) : (Jvm.Cond.code y bytes mx rt).before a s = true := by
  simp only [Bool.and_eq_true, beq_iff_eq, Bool.not_eq_true', decide_eq_true_eq] at h5
  obtain ⟨⟨⟨⟨⟨g1, g2⟩, g3⟩, g4⟩, g5⟩, g6⟩ := h5
  simp [Cond.before, Cond.holds, Cond.value, h1, h2, h3, h4, g1, g2, g3, g4, g5, g6]
def isCode : Jvm.Cond → Bool
  | .code _ _ _ _ => true
  | _ => false
theorem all_split {L : List Jvm.Cond} {P : Jvm.Cond → Bool} (h1 : L.all (fun c => isCode c || P c) = true) (h2 : ∀ c ∈ L.filter isCode, P c = true) : L.all P = true := by
  refine List.all_eq_true.mpr fun c hc => ?_
  have h := List.all_eq_true.mp h1 c hc
  rcases Bool.eq_false_or_eq_true (isCode c) with hi | hi
  · exact h2 c (List.mem_filter.mpr ⟨hc, hi⟩)
  · simpa [hi] using h
set_option maxRecDepth 65536 in
theorem w_c0 : (Jvm.Cond.code x code maxLocals ret).before args0 about1 = true := code_word (m := ⟨1, 2⟩) (meth := k1m2) (c := k1c2) (by decide +kernel) rfl rfl rfl (by decide +kernel)
set_option maxRecDepth 65536 in
theorem w_c1 : (Jvm.Cond.code ({ cls := "com/example/brancher/brancher/model/ComparisonIsLowerPinLaw", name := "pick", desc := "(I)Lcom/example/brancher/brancher/model/Comparison;" } : Jvm.MethodName) method_2_code (2 : Nat) (Option.some (Jvm.ClassFile.FieldType.object "com/example/brancher/brancher/model/Comparison"))).before args0 about1 = true := code_word (m := ⟨1, 1⟩) (meth := k1m1) (c := k1c1) (by decide +kernel) rfl rfl rfl (by decide +kernel)
set_option maxRecDepth 65536 in
theorem w_c2 : (Jvm.Cond.code ({ cls := "com/example/brancher/brancher/model/Comparison", name := "isLower", desc := "()Z" } : Jvm.MethodName) prog_17_method_6_code (1 : Nat) (Option.some Jvm.ClassFile.FieldType.boolean)).before args0 about1 = true := code_word (m := ⟨6, 1⟩) (meth := k6m1) (c := k6c1) (by decide +kernel) rfl rfl rfl (by decide +kernel)
set_option maxRecDepth 65536 in
theorem w_c3 : (Jvm.Cond.code ({ cls := "com/example/brancher/brancher/model/Comparison", name := "symbol", desc := "()Ljava/lang/String;" } : Jvm.MethodName) prog_17_method_4_code (1 : Nat) (Option.some (Jvm.ClassFile.FieldType.object "java/lang/String"))).before args0 about1 = true := code_word (m := ⟨6, 0⟩) (meth := k6m0) (c := k6c0) (by decide +kernel) rfl rfl rfl (by decide +kernel)
set_option maxRecDepth 65536 in
theorem w_c4 : (Jvm.Cond.code ({ cls := "java/lang/String", name := "length", desc := "()I" } : Jvm.MethodName) jdk_42_method_54_code (1 : Nat) (Option.some Jvm.ClassFile.FieldType.int)).before args0 about1 = true := code_word (m := ⟨9, 1⟩) (meth := k9m1) (c := k9c1) (by decide +kernel) rfl rfl rfl (by decide +kernel)
set_option maxRecDepth 65536 in
theorem w_c5 : (Jvm.Cond.code ({ cls := "java/lang/String", name := "coder", desc := "()B" } : Jvm.MethodName) jdk_42_method_152_code (1 : Nat) (Option.some Jvm.ClassFile.FieldType.byte)).before args0 about1 = true := code_word (m := ⟨9, 3⟩) (meth := k9m3) (c := k9c3) (by decide +kernel) rfl rfl rfl (by decide +kernel)
set_option maxRecDepth 65536 in
theorem w_c6 : (Jvm.Cond.code ({ cls := "java/lang/String", name := "charAt", desc := "(I)C" } : Jvm.MethodName) jdk_42_method_56_code (2 : Nat) (Option.some Jvm.ClassFile.FieldType.char)).before args0 about1 = true := code_word (m := ⟨9, 2⟩) (meth := k9m2) (c := k9c2) (by decide +kernel) rfl rfl rfl (by decide +kernel)
set_option maxRecDepth 65536 in
theorem w_c7 : (Jvm.Cond.code ({ cls := "java/lang/String", name := "isLatin1", desc := "()Z" } : Jvm.MethodName) jdk_42_method_154_code (1 : Nat) (Option.some Jvm.ClassFile.FieldType.boolean)).before args0 about1 = true := code_word (m := ⟨9, 4⟩) (meth := k9m4) (c := k9c4) (by decide +kernel) rfl rfl rfl (by decide +kernel)
set_option maxRecDepth 65536 in
theorem w_c8 : (Jvm.Cond.code ({ cls := "java/lang/StringLatin1", name := "charAt", desc := "([BI)C" } : Jvm.MethodName) jdk_43_method_2_code (2 : Nat) (Option.some Jvm.ClassFile.FieldType.char)).before args0 about1 = true := code_word (m := ⟨10, 1⟩) (meth := k10m1) (c := k10c1) (by decide +kernel) rfl rfl rfl (by decide +kernel)
set_option maxRecDepth 65536 in
theorem w_c9 : (Jvm.Cond.code ({ cls := "java/lang/String", name := "checkIndex", desc := "(II)V" } : Jvm.MethodName) jdk_42_method_155_code (2 : Nat) (Option.none : Option Jvm.ClassFile.FieldType)).before args0 about1 = true := code_word (m := ⟨9, 5⟩) (meth := k9m5) (c := k9c5) (by decide +kernel) rfl rfl rfl (by decide +kernel)
set_option maxRecDepth 65536 in
theorem w_c10 : (Jvm.Cond.code ({ cls := "jdk/internal/util/Preconditions", name := "checkIndex", desc := "(IILjava/util/function/BiFunction;)I" } : Jvm.MethodName) jdk_41_method_11_code (3 : Nat) (Option.some Jvm.ClassFile.FieldType.int)).before args0 about1 = true := code_word (m := ⟨11, 1⟩) (meth := k11m1) (c := k11c1) (by decide +kernel) rfl rfl rfl (by decide +kernel)
set_option maxRecDepth 65536 in
theorem w_c11 : (Jvm.Cond.code ({ cls := "com/example/brancher/brancher/model/Comparison", name := "negated", desc := "()Lcom/example/brancher/brancher/model/Comparison;" } : Jvm.MethodName) prog_17_method_7_code (1 : Nat) (Option.some (Jvm.ClassFile.FieldType.object "com/example/brancher/brancher/model/Comparison"))).before args0 about1 = true := code_word (m := ⟨6, 2⟩) (meth := k6m2) (c := k6c2) (by decide +kernel) rfl rfl rfl (by decide +kernel)
set_option maxRecDepth 65536 in
theorem w_c12 : (Jvm.Cond.code ({ cls := "java/lang/Enum", name := "ordinal", desc := "()I" } : Jvm.MethodName) jdk_37_method_2_code (1 : Nat) (Option.some Jvm.ClassFile.FieldType.int)).before args0 about1 = true := code_word (m := ⟨5, 0⟩) (meth := k5m0) (c := k5c0) (by decide +kernel) rfl rfl rfl (by decide +kernel)
def codes1 : List Jvm.Cond := [Jvm.Cond.code x code maxLocals ret, Jvm.Cond.code ({ cls := "com/example/brancher/brancher/model/ComparisonIsLowerPinLaw", name := "pick", desc := "(I)Lcom/example/brancher/brancher/model/Comparison;" } : Jvm.MethodName) method_2_code (2 : Nat) (Option.some (Jvm.ClassFile.FieldType.object "com/example/brancher/brancher/model/Comparison")), Jvm.Cond.code ({ cls := "com/example/brancher/brancher/model/Comparison", name := "isLower", desc := "()Z" } : Jvm.MethodName) prog_17_method_6_code (1 : Nat) (Option.some Jvm.ClassFile.FieldType.boolean), Jvm.Cond.code ({ cls := "com/example/brancher/brancher/model/Comparison", name := "symbol", desc := "()Ljava/lang/String;" } : Jvm.MethodName) prog_17_method_4_code (1 : Nat) (Option.some (Jvm.ClassFile.FieldType.object "java/lang/String")), Jvm.Cond.code ({ cls := "java/lang/String", name := "length", desc := "()I" } : Jvm.MethodName) jdk_42_method_54_code (1 : Nat) (Option.some Jvm.ClassFile.FieldType.int), Jvm.Cond.code ({ cls := "java/lang/String", name := "coder", desc := "()B" } : Jvm.MethodName) jdk_42_method_152_code (1 : Nat) (Option.some Jvm.ClassFile.FieldType.byte), Jvm.Cond.code ({ cls := "java/lang/String", name := "charAt", desc := "(I)C" } : Jvm.MethodName) jdk_42_method_56_code (2 : Nat) (Option.some Jvm.ClassFile.FieldType.char), Jvm.Cond.code ({ cls := "java/lang/String", name := "isLatin1", desc := "()Z" } : Jvm.MethodName) jdk_42_method_154_code (1 : Nat) (Option.some Jvm.ClassFile.FieldType.boolean), Jvm.Cond.code ({ cls := "java/lang/StringLatin1", name := "charAt", desc := "([BI)C" } : Jvm.MethodName) jdk_43_method_2_code (2 : Nat) (Option.some Jvm.ClassFile.FieldType.char), Jvm.Cond.code ({ cls := "java/lang/String", name := "checkIndex", desc := "(II)V" } : Jvm.MethodName) jdk_42_method_155_code (2 : Nat) (Option.none : Option Jvm.ClassFile.FieldType), Jvm.Cond.code ({ cls := "jdk/internal/util/Preconditions", name := "checkIndex", desc := "(IILjava/util/function/BiFunction;)I" } : Jvm.MethodName) jdk_41_method_11_code (3 : Nat) (Option.some Jvm.ClassFile.FieldType.int), Jvm.Cond.code ({ cls := "com/example/brancher/brancher/model/Comparison", name := "negated", desc := "()Lcom/example/brancher/brancher/model/Comparison;" } : Jvm.MethodName) prog_17_method_7_code (1 : Nat) (Option.some (Jvm.ClassFile.FieldType.object "com/example/brancher/brancher/model/Comparison")), Jvm.Cond.code ({ cls := "java/lang/Enum", name := "ordinal", desc := "()I" } : Jvm.MethodName) jdk_37_method_2_code (1 : Nat) (Option.some Jvm.ClassFile.FieldType.int)]
set_option maxRecDepth 65536 in
theorem codes_eq : words1.filter isCode = codes1 := rfl
theorem w_codes : ∀ c ∈ words1.filter isCode, c.before args0 about1 = true := by
  rw [codes_eq]
  intro c hc
  simp only [codes1, List.mem_cons, List.not_mem_nil, or_false] at hc
  rcases hc with rfl | rfl | rfl | rfl | rfl | rfl | rfl | rfl | rfl | rfl | rfl | rfl | rfl
  · exact w_c0
  · exact w_c1
  · exact w_c2
  · exact w_c3
  · exact w_c4
  · exact w_c5
  · exact w_c6
  · exact w_c7
  · exact w_c8
  · exact w_c9
  · exact w_c10
  · exact w_c11
  · exact w_c12
set_option maxRecDepth 65536 in
theorem w_t1 : (words1.take 24).all (fun c => isCode c || c.before args0 about1) = true := by decide +kernel
set_option maxRecDepth 65536 in
theorem w_t2 : ((words1.drop 24).take 24).all (fun c => isCode c || c.before args0 about1) = true := by decide +kernel
set_option maxRecDepth 65536 in
theorem w_t3 : (((words1.drop 24).drop 24).take 24).all (fun c => isCode c || c.before args0 about1) = true := by decide +kernel
set_option maxRecDepth 65536 in
theorem w_t4 : (((words1.drop 24).drop 24).drop 24).all (fun c => isCode c || c.before args0 about1) = true := by decide +kernel
theorem w_tables : (allAtoms (Jvm.Cond.code x code maxLocals ret :: tables_1)).before args0 about1 = true := by
  rw [allAtoms_all]
  show words1.all (fun c => c.before args0 about1) = true
  refine all_split ?_ w_codes
  rw [← List.take_append_drop 24 words1, List.all_append, w_t1, ← List.take_append_drop 24 (words1.drop 24), List.all_append, w_t2, ← List.take_append_drop 24 ((words1.drop 24).drop 24), List.all_append, w_t3, w_t4]
  rfl
set_option maxRecDepth 65536 in
theorem w_rest : rest_1_c.before args0 about1 = true := by decide +kernel
set_option maxRecDepth 65536 in
theorem w_case : (Jvm.Cond.and given_1 narrow_1).before args0 about1 = true := by decide +kernel
theorem w_applies : (headSpec (Jvm.Cond.code x code maxLocals ret :: tables_1) room_1).applies x e0.platform about1 = true :=
  (Spec.applies_iff w_frames).mpr ⟨w_running, w_runnable, w_alone, w_named, w_hears, w_ripe, w_room, w_tables⟩
theorem atStart : AtStart classFile x code maxLocals ret World_1 tables_1 room_1 Calls_1 rest_1 Pre_1 launch0 p0 e0 about1 theMethod args0 below0 :=
  ⟨lists_1, trivial, launch0.admits_env _ _ _, launch0.least_env, fairChoices_fair.cas, fairChoices_fair.clock, w_frames, w_args, w_heap, w_applies, trivial, w_rest, w_case⟩
end start1
theorem witness_1 : WitnessClaimed_1 := ⟨start1.p0, start1.e0, start1.about1, start1.theMethod, start1.args0, start1.below0, start1.atStart⟩
end Jvm.Pilot.@@N@@
