import JvmDerived
import JvmDerived.Pilot.@@N@@Statement
import JvmDerived.Pilot.@@N@@Code
set_option linter.unusedVariables false
set_option linter.unusedSimpArgs false
namespace Jvm.RoadKit
open Sem ClassFile Op Lib Jvm.Stand Jvm.Free Jvm.LawKit
section New
variable {p : Program} {l : Launch} {e : Env} {R : Room} {s : State} {m : MethodId} {args : Array Value} {below : List Frame} {meth : Method} {c : Code} {T : State} {locs : List Loc} {cells slots : Nat}
theorem retI (X : Stand p l e R s m args below meth c T locs cells slots) (hx : p.tables.exec = Jvm.exec) {pc : Nat} {Ls : Array Slot} {z : Int32} {rest : List Value} (hret : meth.sig.returnType = some .int) (hd : decode c.code pc = .ok (.ireturn, 1)) {fs : List Frame}
    (hl : ∀ (f : JFrame) (acts : List Action), f.method = m → f.locked = none → f.entered = [] → (doReturn e (T.setTop f) acts (some (.int z))).1 = T.setFrames fs) : Steps p.tables e below (T.setTop (mkF m pc Ls (.int z :: rest))) (T.setFrames fs) := by
  have hm' : T.vm.method? m = some meth := X.method'
  have hn : narrow .int (.int z) = .int z := rfl
  show Steps p.tables e below (T.setTop { method := m, pc := pc, locals := Ls, stack := _ :: rest, locked := none }) _
  jvm_step X.here [X.here.top, hx, hd, hm', hret, hn]
  first | (intro acts; rw [hl _ acts rfl rfl rfl]) | rw [hl _ _ rfl rfl rfl]
  exact Steps.refl _
end New
end Jvm.RoadKit
namespace Jvm.Pilot.@@N@@
open Jvm Jvm.ClassFile Sem Op Lib Jvm.Free Jvm.Stand Jvm.LawKit Jvm.RoadKit Bundle Jvm.Pilot.@@N@@.Jvm.D
abbrev own_S (p : Program) (e : Env) (below : List Frame) (S T : State) (f : JFrame) : Prop := ∀ tt, Steps p.tables e below (T.setTop f) tt → Steps p.tables e below S tt
def own_pick (sl a b c d : Int32) : Int32 := if sl = 0 then a else if sl = 1 then b else if sl = 2 then c else d
def own_hit (p : Int32) : Int32 := if p = 1 then 1 else 0
def own_add (c p : Int32) : Int32 := if p = 1 then c + 1 else c
theorem own_4 (x s : Int32) (h : s = x &&& 3) : s = 0 ∨ s = 1 ∨ s = 2 ∨ s = 3 := by
  have h1 := c_mask x 3 2 (by decide) (by decide)
  rw [← h] at h1
  have e4 : ((2 ^ 2 : Nat) : Int) = 4 := by decide
  rw [e4] at h1
  have e0 : (0 : Int32).toInt = 0 := rfl
  have e1 : (1 : Int32).toInt = 1 := rfl
  have e2 : (2 : Int32).toInt = 2 := rfl
  have e3 : (3 : Int32).toInt = 3 := rfl
  simp only [← Int32.toInt_inj]
  omega
theorem own_in4 {s : Int32} (h : s = 0 ∨ s = 1 ∨ s = 2 ∨ s = 3) : ¬ s < 0 ∧ s < 4 := by rcases h with rfl | rfl | rfl | rfl <;> decide
theorem own_at4 {s : Int32} (a b c d : Int32) (h : s = 0 ∨ s = 1 ∨ s = 2 ∨ s = 3) : ([(.int a), (.int b), (.int c), (.int d)] : List Value).getD s.toNatClampNeg (.int (0 : Int32)) = .int (own_pick s a b c d) := by rcases h with rfl | rfl | rfl | rfl <;> rfl
theorem own_5 (x : Int32) : (x &&& 2147483647) % 5 = 0 ∨ (x &&& 2147483647) % 5 = 1 ∨ (x &&& 2147483647) % 5 = 2 ∨ (x &&& 2147483647) % 5 = 3 ∨ (x &&& 2147483647) % 5 = 4 := by
  have h1 := c_and x 2147483647 (by decide)
  have h2 := (c_irem (x &&& 2147483647) 5 5 rfl).1 h1.1
  have e0 : (0 : Int32).toInt = 0 := rfl
  have e1 : (1 : Int32).toInt = 1 := rfl
  have e2 : (2 : Int32).toInt = 2 := rfl
  have e3 : (3 : Int32).toInt = 3 := rfl
  have e4 : (4 : Int32).toInt = 4 := rfl
  simp only [← Int32.toInt_inj]
  omega
theorem own_ah (c p : Int32) : own_add c p = c + own_hit p := by
  unfold own_add own_hit; split
  · rfl
  · rw [Int32.add_zero]
theorem pn0 : plainName "java/lang/Record" = true := by first | (simp [plainName, overriddenIn]; done) | decide +kernel
theorem d2_0 : decode jdk_30_method_1_code 0 = .ok (.aload_n 0, 1) := by decide +kernel
theorem d2_1 : decode jdk_30_method_1_code 1 = .ok (.invokespecial 1, 3) := by decide +kernel
theorem d2_4 : decode jdk_30_method_1_code 4 = .ok (.return_, 1) := by decide +kernel
theorem ef2 (m : MethodId) (x0 : Addr) : entryFrame m #[(.ref x0)] 1 = mkF m 0 #[.val (.ref x0)] [] := by first | (simp [entryFrame, mkF, argsToLocals, Value.category]; done) | rfl
def Q2 (Z : State) (o1 : Addr) (h0 : Heap) (n0 : Nat) (v : Option Value) (h : Heap) (L : List Loc) : Prop := v = none ∧ Fr n0 L ∧ h = h0
set_option maxRecDepth 65536 in
set_option maxHeartbeats 40000000 in
theorem rm2 (l : Launch) (Z : State) (a0 : Array Value) (hw : ∀ d ∈ tables_1, d.before a0 Z = true) (ws : List Jvm.Cond) (o1 : Addr) (h0 : Heap) (n0 : Nat) (Z0 : n0 ≤ h0.size) :
    MetFree l (⟨"java/lang/Record", "<init>", "()V"⟩ : MethodName) (head1 (Jvm.Cond.code (⟨"java/lang/Record", "<init>", "()V"⟩ : MethodName) jdk_30_method_1_code 1 none :: ws) ({ frames := 1, cells := 0, slots := 0, locals := 12 } : Room)) (fun aa UU => aa = #[(.ref o1)] ∧ Z.Warmed39 UU.vm ∧ UU.heap = h0) (fun _ _ _ _ _ => True) (fun _ UU oo UU' => ∃ vv LL, oo = .returned vv ∧ Q2 Z o1 h0 n0 vv UU'.heap LL ∧ FrameEnd UU oo UU' LL ({ frames := 1, cells := 0, slots := 0, locals := 12 } : Room).cells ({ frames := 1, cells := 0, slots := 0, locals := 12 } : Room).slots) := by
  have W : ∀ {d : Jvm.Cond} (i : Nat), tables_1[i]? = some d → d.before a0 Z = true := fun i h => hw _ (List.mem_of_getElem? h)
  refine MetFree.of_bodySF (plainFor_of_name pn0) hisR ?_
  intro p e s m args below meth c s₁ Bd hml0 hP hK
  obtain ⟨rfl, hZ, hh⟩ := hP
  have hx := Bd.exec
  have hby := Bd.bytes
  have hml : c.maxLocals = 1 := hml0
  have hown : s.vm.findClass "java/lang/Record" = some m.cls := findClass_of_methodNamed Bd.named
  have hnm := (name_of_methodNamed Bd.named Bd.method).1
  have X0 : Stand p l e ({ frames := 1, cells := 0, slots := 0, locals := 12 } : Room) s m #[(.ref o1)] below meth c s₁ [] 0 0 := Stand.of_body Bd
  have e0 : s₁.heap = h0 := by rw [← hh, Bd.state]; rfl
  have N0 := Fr.nil n0
  have pre0 : ∀ tt, Steps p.tables e below (s₁.setTop (mkF m 0 #[rv o1] [])) tt → Steps p.tables e below (s₁.setTop (entryFrame m #[(.ref o1)] 1)) tt := fun tt kt => castTop (ef2 m o1) kt
  obtain ⟨ST, hST⟩ : ∃ z : State, z = s₁.setTop (mkF m 0 #[rv o1] []) := ⟨_, rfl⟩
  rw [← hST] at pre0
  have go101 : own_S p e below ST s₁ (mkF m 1 #[rv o1] [(.ref o1)]) := fun tt kt => (by
      rw [hST]
      show Steps p.tables e below (s₁.setTop (mkF m 0 #[rv o1] [])) _
      refine XS.aloadN X0.here hx rfl (hb hby d2_0) rfl rfl ?_
      exact kt)
  obtain ⟨T102, X102, e102, st102⟩ := initO X0 hx hZ hown (W 14 rfl) (W 15 rfl) (W 16 rfl) e0 (g := (mkF m 1 #[rv o1] [(.ref o1)])) rfl (by rw [hml]; rfl) rfl (hb hby d2_1) (by decide) (W := 0) (by show 2 * 0 + _ ≤ _; exact Nat.le_of_eq rfl) (by decide)
  have go103 : own_S p e below ST T102 (mkF m 4 #[rv o1] []) := fun tt kt => go101 tt (st102 _ kt)
  obtain ⟨fs, hr, hrun, hended, hW, hsame⟩ := X102.leave (v := none) (fun _ => rfl)
  refine ⟨_, _, pre0 _ (go103 _ ?_), hrun, hended, _, _, rfl, ?_, ⟨_, rfl⟩, hW, hsame.mono (by decide) (by decide)⟩
  · exact X102.returnOut hx Bd.returns (hb hby d2_4) hr
  · show Q2 Z o1 h0 n0 _ T102.heap _
    rw [e102]
    exact ⟨rfl, N0, rfl⟩
theorem pn4 : plainName "com/example/declination/declination/engine/Nsga2$Ranks" = true := by first | (simp [plainName, overriddenIn]; done) | decide +kernel
theorem d1_0 : decode prog_9_method_1_code 0 = .ok (.aload_n 0, 1) := by decide +kernel
theorem d1_1 : decode prog_9_method_1_code 1 = .ok (.invokespecial 1, 3) := by decide +kernel
theorem pd7 : parseMethodDescriptor "()V" = some ⟨[], none⟩ := by decide +kernel
theorem d1_4 : decode prog_9_method_1_code 4 = .ok (.aload_n 0, 1) := by decide +kernel
theorem d1_5 : decode prog_9_method_1_code 5 = .ok (.aload_n 1, 1) := by decide +kernel
theorem d1_6 : decode prog_9_method_1_code 6 = .ok (.putfield 7, 3) := by decide +kernel
theorem d1_9 : decode prog_9_method_1_code 9 = .ok (.aload_n 0, 1) := by decide +kernel
theorem d1_10 : decode prog_9_method_1_code 10 = .ok (.aload_n 2, 1) := by decide +kernel
theorem d1_11 : decode prog_9_method_1_code 11 = .ok (.putfield 13, 3) := by decide +kernel
theorem d1_14 : decode prog_9_method_1_code 14 = .ok (.return_, 1) := by decide +kernel
theorem ef1 (m : MethodId) (x0 : Addr) (x1 : Addr) (x2 : Addr) : entryFrame m #[(.ref x0), (.ref x1), (.ref x2)] 3 = mkF m 0 #[.val (.ref x0), .val (.ref x1), .val (.ref x2)] [] := by first | (simp [entryFrame, mkF, argsToLocals, Value.category]; done) | rfl
def Q1 (Z : State) (o1 : Addr) (o2 : Addr) (o3 : Addr) (u1 : Value) (u2 : Value) (h0 : Heap) (n0 : Nat) (v : Option Value) (h : Heap) (L : List Loc) : Prop := v = none ∧ Fr n0 L ∧ Keep h0 h [o1] ∧ Fld Z h o1 "com/example/declination/declination/engine/Nsga2$Ranks" "front" "[I" (.ref o2)
set_option maxRecDepth 65536 in
set_option maxHeartbeats 40000000 in
theorem rm1 (l : Launch) (Z : State) (a0 : Array Value) (hw : ∀ d ∈ tables_1, d.before a0 Z = true) (ws : List Jvm.Cond) (o1 : Addr) (o2 : Addr) (o3 : Addr) (u1 : Value) (u2 : Value) (h0 : Heap) (n0 : Nat) (Z0 : n0 ≤ h0.size) (F1 : Fld Z h0 o1 "com/example/declination/declination/engine/Nsga2$Ranks" "front" "[I" u1) (F2 : Fld Z h0 o1 "com/example/declination/declination/engine/Nsga2$Ranks" "crowding" "[D" u2) (E1 : Exa Z h0 o1 "com/example/declination/declination/engine/Nsga2$Ranks") (g1 : n0 ≤ o1) :
    MetFree l (⟨"com/example/declination/declination/engine/Nsga2$Ranks", "<init>", "([I[D)V"⟩ : MethodName) (head1 (Jvm.Cond.code (⟨"com/example/declination/declination/engine/Nsga2$Ranks", "<init>", "([I[D)V"⟩ : MethodName) prog_9_method_1_code 3 none :: ws) ({ frames := 2, cells := 0, slots := 0, locals := 24 } : Room)) (fun aa UU => aa = #[(.ref o1), (.ref o2), (.ref o3)] ∧ Z.Warmed39 UU.vm ∧ UU.heap = h0) (fun _ _ _ _ _ => True) (fun _ UU oo UU' => ∃ vv LL, oo = .returned vv ∧ Q1 Z o1 o2 o3 u1 u2 h0 n0 vv UU'.heap LL ∧ FrameEnd UU oo UU' LL ({ frames := 2, cells := 0, slots := 0, locals := 24 } : Room).cells ({ frames := 2, cells := 0, slots := 0, locals := 24 } : Room).slots) := by
  have W : ∀ {d : Jvm.Cond} (i : Nat), tables_1[i]? = some d → d.before a0 Z = true := fun i h => hw _ (List.mem_of_getElem? h)
  refine MetFree.of_bodySF (plainFor_of_name pn4) hisR ?_
  intro p e s m args below meth c s₁ Bd hml0 hP hK
  obtain ⟨rfl, hZ, hh⟩ := hP
  have hx := Bd.exec
  have hby := Bd.bytes
  have hml : c.maxLocals = 3 := hml0
  have hown : s.vm.findClass "com/example/declination/declination/engine/Nsga2$Ranks" = some m.cls := findClass_of_methodNamed Bd.named
  have hnm := (name_of_methodNamed Bd.named Bd.method).1
  have X0 : Stand p l e ({ frames := 2, cells := 0, slots := 0, locals := 24 } : Room) s m #[(.ref o1), (.ref o2), (.ref o3)] below meth c s₁ [] 0 0 := Stand.of_body Bd
  have e0 : s₁.heap = h0 := by rw [← hh, Bd.state]; rfl
  have N0 := Fr.nil n0
  have pre0 : ∀ tt, Steps p.tables e below (s₁.setTop (mkF m 0 #[rv o1, rv o2, rv o3] [])) tt → Steps p.tables e below (s₁.setTop (entryFrame m #[(.ref o1), (.ref o2), (.ref o3)] 3)) tt := fun tt kt => castTop (ef1 m o1 o2 o3) kt
  obtain ⟨ST, hST⟩ : ∃ z : State, z = s₁.setTop (mkF m 0 #[rv o1, rv o2, rv o3] []) := ⟨_, rfl⟩
  rw [← hST] at pre0
  have KC0 : Keep h0 h0 [o1] := Keep.refl h0 [o1]
  have go104 : own_S p e below ST s₁ (mkF m 1 #[rv o1, rv o2, rv o3] [(.ref o1)]) := fun tt kt => (by
      rw [hST]
      show Steps p.tables e below (s₁.setTop (mkF m 0 #[rv o1, rv o2, rv o3] [])) _
      refine XS.aloadN X0.here hx rfl (hb hby d1_0) rfl rfl ?_
      exact kt)
  obtain ⟨_, _, ⟨T105, L105, k105, n105⟩, -, X105, ⟨Lc105, hQ105, l105, y105, z105⟩, st105⟩ := X0.specialBack hx (y := (⟨"java/lang/Record", "<init>", "()V"⟩ : MethodName)) rfl hown (mvT hZ (W 9 rfl)) (mvT hZ (W 10 rfl)) (mvT hZ (W 13 rfl)) (by decide) (backOf (W := 0) (rm2 l Z a0 hw [] o1 h0 n0 Z0 ) hZ (W 13 rfl) (W 12 rfl) (by decide) (by decide)) (g := (mkF m 1 #[rv o1, rv o2, rv o3] [(.ref o1)])) rfl (by rw [hml]; rfl) (Steps.refl _) (a := o1) (argsL := []) (rest := []) (lenOf pd7 rfl) rfl (by show 2 * 0 + _ ≤ _; exact Nat.le_of_eq rfl) (hb hby d1_1) (fun _ _ => ⟨rfl, e0, (by decide : 0 + 0 ≤ _), (by decide : 0 + 0 ≤ _)⟩)
  dsimp only [Pt.U, Pt.locs, Pt.cells, Pt.slots] at X105 l105 y105 z105 st105 hQ105
  subst l105 y105 z105
  obtain ⟨rfl, Nq105, eh105⟩ := hQ105
  have N105 := Fr.app N0 Nq105
  have go106 : own_S p e below ST T105 (mkF m 4 #[rv o1, rv o2, rv o3] []) := fun tt kt => go104 tt (st105.trans kt)
  have go107 : own_S p e below ST T105 (mkF m 6 #[rv o1, rv o2, rv o3] [(.ref o2), (.ref o1)]) := fun tt kt => go106 tt (by
      refine XS.aloadN X105.here hx rfl (hb hby d1_4) rfl rfl ?_
      refine XS.aloadN X105.here hx rfl (hb hby d1_5) rfl rfl ?_
      exact kt)
  obtain ⟨T108, h108, X108, e108, W108, st108⟩ := putF X105 hx hZ hown (host := "") (Or.inl (W 17 rfl)) Via.refl eh105 F1 E1 (Or.inr ⟨(W 18 rfl), rfl, hnm⟩) (W 3 rfl) (ty := (.array .int)) (by decide) rfl rfl (g := (mkF m 6 #[rv o1, rv o2, rv o3] [(.ref o2), (.ref o1)])) rfl rfl (hb hby d1_6)
  have Fw108 := F1.same W108
  have N108 := Fr.snoc X108 N105 g1
  have go109 : own_S p e below ST T108 (mkF m 9 #[rv o1, rv o2, rv o3] []) := fun tt kt => go107 tt (st108 _ kt)
  have KC108 : Keep h0 h108 [o1] := KC0.wr W108 (Or.inl (List.mem_of_getElem? (i := 0) rfl))
  have go110 : own_S p e below ST T108 (mkF m 11 #[rv o1, rv o2, rv o3] [(.ref o3), (.ref o1)]) := fun tt kt => go109 tt (by
      refine XS.aloadN X108.here hx rfl (hb hby d1_9) rfl rfl ?_
      refine XS.aloadN X108.here hx rfl (hb hby d1_10) rfl rfl ?_
      exact kt)
  have f112 := (F2.other W108 (Or.inr (slot_ne (Or.inr (W 20 rfl)) (Or.inr (W 18 rfl)) (by decide) (t := (.array .double)) (t' := (.array .int)) (by decide) (by decide))))
  have f113 := (E1.wr W108)
  obtain ⟨T111, h111, X111, e111, W111, st111⟩ := putF X108 hx hZ hown (host := "") (Or.inl (W 19 rfl)) Via.refl e108 f112 f113 (Or.inr ⟨(W 20 rfl), rfl, hnm⟩) (W 3 rfl) (ty := (.array .double)) (by decide) rfl rfl (g := (mkF m 11 #[rv o1, rv o2, rv o3] [(.ref o3), (.ref o1)])) rfl rfl (hb hby d1_11)
  have Fw111 := f112.same W111
  have N111 := Fr.snoc X111 N108 g1
  have go114 : own_S p e below ST T111 (mkF m 14 #[rv o1, rv o2, rv o3] []) := fun tt kt => go110 tt (st111 _ kt)
  have KC111 : Keep h0 h111 [o1] := KC108.wr W111 (Or.inl (List.mem_of_getElem? (i := 0) rfl))
  have f115 := (Fw108.other W111 (Or.inr (slot_ne (Or.inr (W 18 rfl)) (Or.inr (W 20 rfl)) (by decide) (t := (.array .int)) (t' := (.array .double)) (by decide) (by decide))))
  obtain ⟨fs, hr, hrun, hended, hW, hsame⟩ := X111.leave (v := none) (fun _ => rfl)
  refine ⟨_, _, pre0 _ (go114 _ ?_), hrun, hended, _, _, rfl, ?_, ⟨_, rfl⟩, hW, hsame.mono (by decide) (by decide)⟩
  · exact X111.returnOut hx Bd.returns (hb hby d1_14) hr
  · show Q1 Z o1 o2 o3 u1 u2 h0 n0 _ T111.heap _
    rw [e111]
    exact ⟨rfl, N111, KC111, f115⟩
theorem pn15 : plainName "com/example/declination/declination/engine/RanksNondominatedPinLaw" = true := by first | (simp [plainName, overriddenIn]; done) | decide +kernel
theorem d4_0 : decode method_3_code 0 = .ok (.iload_n 2, 1) := by decide +kernel
theorem d4_1 : decode method_3_code 1 = .ok (.ifCond .eq 14, 3) := by decide +kernel
theorem d4_15 : decode method_3_code 15 = .ok (.iconst 0, 1) := by decide +kernel
theorem d4_16 : decode method_3_code 16 = .ok (.ireturn, 1) := by decide +kernel
theorem ef4b0 (m : MethodId) (x0 : Addr) (x1 : Int32) (x2 : Int32) : entryFrame m #[(.ref x0), (.int x1), (.int x2)] 3 = mkF m 0 #[.val (.ref x0), .val (.int x1), .val (.int x2)] [] := by first | (simp [entryFrame, mkF, argsToLocals, Value.category]; done) | rfl
def Q4b0 (Z : State) (o3 : Addr) (ix : Int32) (kf : ClassId) (f0 : Int32) (f1 : Int32) (f2 : Int32) (f3 : Int32) (h0 : Heap) (n0 : Nat) (v : Option Value) (h : Heap) (L : List Loc) : Prop := v = some (.int 0) ∧ Fr n0 L ∧ h = h0
set_option maxRecDepth 65536 in
set_option maxHeartbeats 40000000 in
theorem rm4b0 (l : Launch) (Z : State) (a0 : Array Value) (hw : ∀ d ∈ tables_1, d.before a0 Z = true) (ws : List Jvm.Cond) (o3 : Addr) (ix : Int32) (kf : ClassId) (f0 : Int32) (f1 : Int32) (f2 : Int32) (f3 : Int32) (h0 : Heap) (n0 : Nat) (Z0 : n0 ≤ h0.size) (Vf : Arv Z h0 o3 kf .int (4 : Int32) [(.int f0), (.int f1), (.int f2), (.int f3)] (.int (0 : Int32))) (hix : ix = 0 ∨ ix = 1 ∨ ix = 2 ∨ ix = 3) :
    MetFree l (⟨"com/example/declination/declination/engine/RanksNondominatedPinLaw", "hit", "([IIZ)I"⟩ : MethodName) (head1 (Jvm.Cond.code (⟨"com/example/declination/declination/engine/RanksNondominatedPinLaw", "hit", "([IIZ)I"⟩ : MethodName) method_3_code 3 (some .int) :: ws) ({ frames := 0, cells := 0, slots := 0, locals := 0 } : Room)) (fun aa UU => aa = #[(.ref o3), (.int ix), (.int (0 : Int32))] ∧ Z.Warmed39 UU.vm ∧ UU.heap = h0) (fun _ _ _ _ _ => True) (fun _ UU oo UU' => ∃ vv LL, oo = .returned vv ∧ Q4b0 Z o3 ix kf f0 f1 f2 f3 h0 n0 vv UU'.heap LL ∧ FrameEnd UU oo UU' LL ({ frames := 0, cells := 0, slots := 0, locals := 0 } : Room).cells ({ frames := 0, cells := 0, slots := 0, locals := 0 } : Room).slots) := by
  have W : ∀ {d : Jvm.Cond} (i : Nat), tables_1[i]? = some d → d.before a0 Z = true := fun i h => hw _ (List.mem_of_getElem? h)
  refine MetFree.of_bodySF (plainFor_of_name pn15) hisR ?_
  intro p e s m args below meth c s₁ Bd hml0 hP hK
  obtain ⟨rfl, hZ, hh⟩ := hP
  have hx := Bd.exec
  have hby := Bd.bytes
  have hml : c.maxLocals = 3 := hml0
  have hown : s.vm.findClass "com/example/declination/declination/engine/RanksNondominatedPinLaw" = some m.cls := findClass_of_methodNamed Bd.named
  have hnm := (name_of_methodNamed Bd.named Bd.method).1
  have X0 : Stand p l e ({ frames := 0, cells := 0, slots := 0, locals := 0 } : Room) s m #[(.ref o3), (.int ix), (.int (0 : Int32))] below meth c s₁ [] 0 0 := Stand.of_body Bd
  have e0 : s₁.heap = h0 := by rw [← hh, Bd.state]; rfl
  have N0 := Fr.nil n0
  have pre0 : ∀ tt, Steps p.tables e below (s₁.setTop (mkF m 0 #[rv o3, iv ix, iv (0 : Int32)] [])) tt → Steps p.tables e below (s₁.setTop (entryFrame m #[(.ref o3), (.int ix), (.int (0 : Int32))] 3)) tt := fun tt kt => castTop (ef4b0 m o3 ix (0 : Int32)) kt
  obtain ⟨ST, hST⟩ : ∃ z : State, z = s₁.setTop (mkF m 0 #[rv o3, iv ix, iv (0 : Int32)] []) := ⟨_, rfl⟩
  rw [← hST] at pre0
  have go116 : own_S p e below ST s₁ (mkF m 16 #[rv o3, iv ix, iv (0 : Int32)] [(.int (0 : Int32))]) := fun tt kt => (by
      rw [hST]
      show Steps p.tables e below (s₁.setTop (mkF m 0 #[rv o3, iv ix, iv (0 : Int32)] [])) _
      refine XS.iloadN X0.here hx rfl (hb hby d4_0) rfl ?_
      refine XS.ifYes X0.here hx rfl (pc0 := 1) (pc' := 15) rfl (hb hby d4_1) rfl ((if0 _ _).trans (teq (by decide : (0 : Int32) = (0 : Int32))).1) (by decide) (by decide) ?_
      refine XS.iconst X0.here hx rfl (hb hby d4_15) ?_
      exact kt)
  obtain ⟨fs, hr, hrun, hended, hW, hsame⟩ := X0.leave (v := some (.int (0 : Int32))) (fun h => by rw [Bd.returns] at h; cases h)
  refine ⟨_, _, pre0 _ (go116 _ ?_), hrun, hended, _, _, rfl, ?_, ⟨_, rfl⟩, hW, hsame.mono (by decide) (by decide)⟩
  · exact retI X0 hx Bd.returns (hb hby d4_16) hr
  · show Q4b0 Z o3 ix kf f0 f1 f2 f3 h0 n0 _ s₁.heap _
    rw [e0]
    exact ⟨rfl, N0, rfl⟩
theorem d4_4 : decode method_3_code 4 = .ok (.aload_n 0, 1) := by decide +kernel
theorem d4_5 : decode method_3_code 5 = .ok (.iload_n 1, 1) := by decide +kernel
theorem d4_6 : decode method_3_code 6 = .ok (.iaload, 1) := by decide +kernel
theorem d4_7 : decode method_3_code 7 = .ok (.iconst 1, 1) := by decide +kernel
theorem d4_8 : decode method_3_code 8 = .ok (.if_icmp .ne 7, 3) := by decide +kernel
theorem d4_11 : decode method_3_code 11 = .ok (.iconst 1, 1) := by decide +kernel
theorem d4_12 : decode method_3_code 12 = .ok (.goto 4, 3) := by decide +kernel
theorem ef4b1 (m : MethodId) (x0 : Addr) (x1 : Int32) (x2 : Int32) : entryFrame m #[(.ref x0), (.int x1), (.int x2)] 3 = mkF m 0 #[.val (.ref x0), .val (.int x1), .val (.int x2)] [] := by first | (simp [entryFrame, mkF, argsToLocals, Value.category]; done) | rfl
def Q4b1 (Z : State) (o3 : Addr) (ix : Int32) (kf : ClassId) (f0 : Int32) (f1 : Int32) (f2 : Int32) (f3 : Int32) (h0 : Heap) (n0 : Nat) (v : Option Value) (h : Heap) (L : List Loc) : Prop := v = some (.int (own_hit (own_pick ix f0 f1 f2 f3))) ∧ Fr n0 L ∧ h = h0
set_option maxRecDepth 65536 in
set_option maxHeartbeats 40000000 in
theorem rm4b1 (l : Launch) (Z : State) (a0 : Array Value) (hw : ∀ d ∈ tables_1, d.before a0 Z = true) (ws : List Jvm.Cond) (o3 : Addr) (ix : Int32) (kf : ClassId) (f0 : Int32) (f1 : Int32) (f2 : Int32) (f3 : Int32) (h0 : Heap) (n0 : Nat) (Z0 : n0 ≤ h0.size) (Vf : Arv Z h0 o3 kf .int (4 : Int32) [(.int f0), (.int f1), (.int f2), (.int f3)] (.int (0 : Int32))) (hix : ix = 0 ∨ ix = 1 ∨ ix = 2 ∨ ix = 3) :
    MetFree l (⟨"com/example/declination/declination/engine/RanksNondominatedPinLaw", "hit", "([IIZ)I"⟩ : MethodName) (head1 (Jvm.Cond.code (⟨"com/example/declination/declination/engine/RanksNondominatedPinLaw", "hit", "([IIZ)I"⟩ : MethodName) method_3_code 3 (some .int) :: ws) ({ frames := 0, cells := 0, slots := 0, locals := 0 } : Room)) (fun aa UU => aa = #[(.ref o3), (.int ix), (.int (1 : Int32))] ∧ Z.Warmed39 UU.vm ∧ UU.heap = h0) (fun _ _ _ _ _ => True) (fun _ UU oo UU' => ∃ vv LL, oo = .returned vv ∧ Q4b1 Z o3 ix kf f0 f1 f2 f3 h0 n0 vv UU'.heap LL ∧ FrameEnd UU oo UU' LL ({ frames := 0, cells := 0, slots := 0, locals := 0 } : Room).cells ({ frames := 0, cells := 0, slots := 0, locals := 0 } : Room).slots) := by
  have W : ∀ {d : Jvm.Cond} (i : Nat), tables_1[i]? = some d → d.before a0 Z = true := fun i h => hw _ (List.mem_of_getElem? h)
  refine MetFree.of_bodySF (plainFor_of_name pn15) hisR ?_
  intro p e s m args below meth c s₁ Bd hml0 hP hK
  obtain ⟨rfl, hZ, hh⟩ := hP
  have hx := Bd.exec
  have hby := Bd.bytes
  have hml : c.maxLocals = 3 := hml0
  have hown : s.vm.findClass "com/example/declination/declination/engine/RanksNondominatedPinLaw" = some m.cls := findClass_of_methodNamed Bd.named
  have hnm := (name_of_methodNamed Bd.named Bd.method).1
  have X0 : Stand p l e ({ frames := 0, cells := 0, slots := 0, locals := 0 } : Room) s m #[(.ref o3), (.int ix), (.int (1 : Int32))] below meth c s₁ [] 0 0 := Stand.of_body Bd
  have e0 : s₁.heap = h0 := by rw [← hh, Bd.state]; rfl
  have N0 := Fr.nil n0
  have pre0 : ∀ tt, Steps p.tables e below (s₁.setTop (mkF m 0 #[rv o3, iv ix, iv (1 : Int32)] [])) tt → Steps p.tables e below (s₁.setTop (entryFrame m #[(.ref o3), (.int ix), (.int (1 : Int32))] 3)) tt := fun tt kt => castTop (ef4b1 m o3 ix (1 : Int32)) kt
  obtain ⟨ST, hST⟩ : ∃ z : State, z = s₁.setTop (mkF m 0 #[rv o3, iv ix, iv (1 : Int32)] []) := ⟨_, rfl⟩
  rw [← hST] at pre0
  have go117 : own_S p e below ST s₁ (mkF m 6 #[rv o3, iv ix, iv (1 : Int32)] [(.int ix), (.ref o3)]) := fun tt kt => (by
      rw [hST]
      show Steps p.tables e below (s₁.setTop (mkF m 0 #[rv o3, iv ix, iv (1 : Int32)] [])) _
      refine XS.iloadN X0.here hx rfl (hb hby d4_0) rfl ?_
      refine XS.ifNo X0.here hx rfl (hb hby d4_1) rfl ((if0 _ _).trans (feq (by decide : ¬ ((1 : Int32) = (0 : Int32)))).1) ?_
      refine XS.aloadN X0.here hx rfl (hb hby d4_4) rfl rfl ?_
      refine XS.iloadN X0.here hx rfl (hb hby d4_5) rfl ?_
      exact kt)
  obtain ⟨cl118, Ar118, q118, S118, M118, H118, G118⟩ := id Vf
  have hin118 : ¬ (ix < 0 ∨ cl118.slots.size ≤ (ix).toNatClampNeg) := inb_of S118 (own_in4 hix)
  have hat118 : cl118.slots[(ix).toNatClampNeg]? = some (.int (own_pick ix f0 f1 f2 f3)) := H118.at hin118 (own_at4 f0 f1 f2 f3 hix)
  have go119 : own_S p e below ST s₁ (mkF m 7 #[rv o3, iv ix, iv (1 : Int32)] [(.int (own_pick ix f0 f1 f2 f3))]) := fun tt kt => go117 tt (by
      refine X0.iaload hx (j := ix) (v := (.int (own_pick ix f0 f1 f2 f3))) (by rw [e0]; exact Ar118.1) (State.isArrayOf_alike hZ.alike Ar118.2.1) Ar118.2.2 hin118 hat118 (g := (mkF m 6 #[rv o3, iv ix, iv (1 : Int32)] [(.int ix), (.ref o3)])) rfl rfl (hb hby d4_6) _ ?_
      exact kt)
  have go120 : own_S p e below ST s₁ (mkF m 8 #[rv o3, iv ix, iv (1 : Int32)] [(.int (1 : Int32)), (.int (own_pick ix f0 f1 f2 f3))]) := fun tt kt => go119 tt (by
      refine XS.iconst X0.here hx rfl (hb hby d4_7) ?_
      exact kt)
  obtain ⟨v, hv, sg121⟩ : ∃ (v : Int32), v = (if (own_pick ix f0 f1 f2 f3) = (1 : Int32) then (1 : Int32) else (0 : Int32)) ∧ ∀ tt, Steps p.tables e below (s₁.setTop (mkF m 16 #[rv o3, iv ix, iv (1 : Int32)] [(.int v)])) tt → Steps p.tables e below (s₁.setTop (mkF m 8 #[rv o3, iv ix, iv (1 : Int32)] [(.int (1 : Int32)), (.int (own_pick ix f0 f1 f2 f3))])) tt := by
    by_cases hd8_0 : (own_pick ix f0 f1 f2 f3) = (1 : Int32)
    · refine ⟨_, (if_pos hd8_0).symm, fun tt kt => ?_⟩
      show Steps p.tables e below (s₁.setTop (mkF m 8 #[rv o3, iv ix, iv (1 : Int32)] [(.int (1 : Int32)), (.int (own_pick ix f0 f1 f2 f3))])) _
      refine XS.icmpNo X0.here hx rfl (hb hby d4_8) rfl (teq hd8_0).2 ?_
      refine XS.iconst X0.here hx rfl (hb hby d4_11) ?_
      refine XS.goto X0.here hx rfl (pc0 := 12) (pc' := 16) rfl (hb hby d4_12) (by decide) (by decide) ?_
      exact kt
    · refine ⟨_, (if_neg hd8_0).symm, fun tt kt => ?_⟩
      show Steps p.tables e below (s₁.setTop (mkF m 8 #[rv o3, iv ix, iv (1 : Int32)] [(.int (1 : Int32)), (.int (own_pick ix f0 f1 f2 f3))])) _
      refine XS.icmpYes X0.here hx rfl (pc0 := 8) (pc' := 15) rfl (hb hby d4_8) rfl (feq hd8_0).2 (by decide) (by decide) ?_
      refine XS.iconst X0.here hx rfl (hb hby d4_15) ?_
      exact kt
  have go122 : own_S p e below ST s₁ (mkF m 16 #[rv o3, iv ix, iv (1 : Int32)] [(.int v)]) := fun tt kt => go120 tt (sg121 _ kt)
  obtain ⟨fs, hr, hrun, hended, hW, hsame⟩ := X0.leave (v := some (.int v)) (fun h => by rw [Bd.returns] at h; cases h)
  refine ⟨_, _, pre0 _ (go122 _ ?_), hrun, hended, _, _, rfl, ?_, ⟨_, rfl⟩, hW, hsame.mono (by decide) (by decide)⟩
  · exact retI X0 hx Bd.returns (hb hby d4_16) hr
  · show Q4b1 Z o3 ix kf f0 f1 f2 f3 h0 n0 _ s₁.heap _
    rw [e0]
    exact ⟨(by rw [hv]; rfl), N0, rfl⟩
theorem d5_0 : decode prog_9_method_5_code 0 = .ok (.iconst 0, 1) := by decide +kernel
theorem d5_1 : decode prog_9_method_5_code 1 = .ok (.istore_n 2, 1) := by decide +kernel
theorem d5_2 : decode prog_9_method_5_code 2 = .ok (.aload_n 1, 1) := by decide +kernel
theorem d5_3 : decode prog_9_method_5_code 3 = .ok (.astore_n 3, 1) := by decide +kernel
theorem d5_4 : decode prog_9_method_5_code 4 = .ok (.aload_n 3, 1) := by decide +kernel
theorem d5_5 : decode prog_9_method_5_code 5 = .ok (.arraylength, 1) := by decide +kernel
theorem d5_6 : decode prog_9_method_5_code 6 = .ok (.istore 4, 2) := by decide +kernel
theorem d5_8 : decode prog_9_method_5_code 8 = .ok (.iconst 0, 1) := by decide +kernel
theorem d5_9 : decode prog_9_method_5_code 9 = .ok (.istore 5, 2) := by decide +kernel
theorem d5_11 : decode prog_9_method_5_code 11 = .ok (.iload 5, 2) := by decide +kernel
theorem d5_13 : decode prog_9_method_5_code 13 = .ok (.iload 4, 2) := by decide +kernel
theorem d5_15 : decode prog_9_method_5_code 15 = .ok (.if_icmp .ge 29, 3) := by decide +kernel
theorem d5_44 : decode prog_9_method_5_code 44 = .ok (.iload_n 2, 1) := by decide +kernel
theorem d5_45 : decode prog_9_method_5_code 45 = .ok (.ireturn, 1) := by decide +kernel
theorem ef5k0 (m : MethodId) (x0 : Addr) (x1 : Addr) : entryFrame m #[(.ref x0), (.ref x1)] 7 = mkF m 0 #[.val (.ref x0), .val (.ref x1), .unset, .unset, .unset, .unset, .unset] [] := by first | (simp [entryFrame, mkF, argsToLocals, Value.category]; done) | rfl
def Q5k0 (Z : State) (o1 : Addr) (o2 : Addr) (o3 : Addr) (kf : ClassId) (km : ClassId) (f0 : Int32) (f1 : Int32) (f2 : Int32) (f3 : Int32) (h0 : Heap) (n0 : Nat) (v : Option Value) (h : Heap) (L : List Loc) : Prop := v = some (.int 0) ∧ Fr n0 L ∧ h = h0
set_option maxRecDepth 65536 in
set_option maxHeartbeats 40000000 in
theorem rm5k0 (l : Launch) (Z : State) (a0 : Array Value) (hw : ∀ d ∈ tables_1, d.before a0 Z = true) (ws : List Jvm.Cond) (o1 : Addr) (o2 : Addr) (o3 : Addr) (kf : ClassId) (km : ClassId) (f0 : Int32) (f1 : Int32) (f2 : Int32) (f3 : Int32) (h0 : Heap) (n0 : Nat) (Z0 : n0 ≤ h0.size) (F1 : Fld Z h0 o1 "com/example/declination/declination/engine/Nsga2$Ranks" "front" "[I" (.ref o3)) (Vf : Arv Z h0 o3 kf .int (4 : Int32) [(.int f0), (.int f1), (.int f2), (.int f3)] (.int (0 : Int32))) (Vm : Arv Z h0 o2 km .int (0 : Int32) [] (.int (0 : Int32))) :
    MetFree l (⟨"com/example/declination/declination/engine/Nsga2$Ranks", "nondominated", "([I)I"⟩ : MethodName) (head1 (Jvm.Cond.code (⟨"com/example/declination/declination/engine/Nsga2$Ranks", "nondominated", "([I)I"⟩ : MethodName) prog_9_method_5_code 7 (some .int) :: ws) ({ frames := 0, cells := 0, slots := 0, locals := 0 } : Room)) (fun aa UU => aa = #[(.ref o1), (.ref o2)] ∧ Z.Warmed39 UU.vm ∧ UU.heap = h0) (fun _ _ _ _ _ => True) (fun _ UU oo UU' => ∃ vv LL, oo = .returned vv ∧ Q5k0 Z o1 o2 o3 kf km f0 f1 f2 f3 h0 n0 vv UU'.heap LL ∧ FrameEnd UU oo UU' LL ({ frames := 0, cells := 0, slots := 0, locals := 0 } : Room).cells ({ frames := 0, cells := 0, slots := 0, locals := 0 } : Room).slots) := by
  have W : ∀ {d : Jvm.Cond} (i : Nat), tables_1[i]? = some d → d.before a0 Z = true := fun i h => hw _ (List.mem_of_getElem? h)
  refine MetFree.of_bodySF (plainFor_of_name pn4) hisR ?_
  intro p e s m args below meth c s₁ Bd hml0 hP hK
  obtain ⟨rfl, hZ, hh⟩ := hP
  have hx := Bd.exec
  have hby := Bd.bytes
  have hml : c.maxLocals = 7 := hml0
  have hown : s.vm.findClass "com/example/declination/declination/engine/Nsga2$Ranks" = some m.cls := findClass_of_methodNamed Bd.named
  have hnm := (name_of_methodNamed Bd.named Bd.method).1
  have X0 : Stand p l e ({ frames := 0, cells := 0, slots := 0, locals := 0 } : Room) s m #[(.ref o1), (.ref o2)] below meth c s₁ [] 0 0 := Stand.of_body Bd
  have e0 : s₁.heap = h0 := by rw [← hh, Bd.state]; rfl
  have N0 := Fr.nil n0
  have pre0 : ∀ tt, Steps p.tables e below (s₁.setTop (mkF m 0 #[rv o1, rv o2, .unset, .unset, .unset, .unset, .unset] [])) tt → Steps p.tables e below (s₁.setTop (entryFrame m #[(.ref o1), (.ref o2)] 7)) tt := fun tt kt => castTop (ef5k0 m o1 o2) kt
  obtain ⟨ST, hST⟩ : ∃ z : State, z = s₁.setTop (mkF m 0 #[rv o1, rv o2, .unset, .unset, .unset, .unset, .unset] []) := ⟨_, rfl⟩
  rw [← hST] at pre0
  have go123 : own_S p e below ST s₁ (mkF m 5 #[rv o1, rv o2, iv (0 : Int32), rv o2, .unset, .unset, .unset] [(.ref o2)]) := fun tt kt => (by
      rw [hST]
      show Steps p.tables e below (s₁.setTop (mkF m 0 #[rv o1, rv o2, .unset, .unset, .unset, .unset, .unset] [])) _
      refine XS.iconst X0.here hx rfl (hb hby d5_0) ?_
      refine XS.istoreN X0.here hx rfl (hb hby d5_1) rfl (l' := #[rv o1, rv o2, iv (0 : Int32), .unset, .unset, .unset, .unset]) rfl ?_
      refine XS.aloadN X0.here hx rfl (hb hby d5_2) rfl rfl ?_
      refine XS.astoreN X0.here hx rfl (hb hby d5_3) rfl rfl (l' := #[rv o1, rv o2, iv (0 : Int32), rv o2, .unset, .unset, .unset]) rfl ?_
      refine XS.aloadN X0.here hx rfl (hb hby d5_4) rfl rfl ?_
      exact kt)
  obtain ⟨cl124, Ar124, q124, S124, M124, H124, G124⟩ := id Vm
  have go125 : own_S p e below ST s₁ (mkF m 6 #[rv o1, rv o2, iv (0 : Int32), rv o2, .unset, .unset, .unset] [(.int (0 : Int32))]) := fun tt kt => go123 tt (by
      refine X0.arraylength hx (by rw [e0]; exact Ar124.1) (State.isArrayOf_alike hZ.alike Ar124.2.1) (g := (mkF m 5 #[rv o1, rv o2, iv (0 : Int32), rv o2, .unset, .unset, .unset] [(.ref o2)])) rfl rfl (hb hby d5_5) _ ?_
      rw [len_of S124 M124]
      exact kt)
  have go126 : own_S p e below ST s₁ (mkF m 45 #[rv o1, rv o2, iv (0 : Int32), rv o2, iv (0 : Int32), iv (0 : Int32), .unset] [(.int (0 : Int32))]) := fun tt kt => go125 tt (by
      refine XS.istore X0.here hx rfl (hb hby d5_6) rfl (l' := #[rv o1, rv o2, iv (0 : Int32), rv o2, iv (0 : Int32), .unset, .unset]) rfl ?_
      refine XS.iconst X0.here hx rfl (hb hby d5_8) ?_
      refine XS.istore X0.here hx rfl (hb hby d5_9) rfl (l' := #[rv o1, rv o2, iv (0 : Int32), rv o2, iv (0 : Int32), iv (0 : Int32), .unset]) rfl ?_
      refine XS.iload X0.here hx rfl (hb hby d5_11) rfl ?_
      refine XS.iload X0.here hx rfl (hb hby d5_13) rfl ?_
      refine XS.icmpYes X0.here hx rfl (pc0 := 15) (pc' := 44) rfl (hb hby d5_15) rfl (flt (by decide : ¬ ((0 : Int32) < (0 : Int32)))).2.1 (by decide) (by decide) ?_
      show Steps p.tables e below (s₁.setTop (mkF m 44 #[rv o1, rv o2, iv (0 : Int32), rv o2, iv (0 : Int32), iv (0 : Int32), .unset] [])) _
      refine XS.iloadN X0.here hx rfl (hb hby d5_44) rfl ?_
      exact kt)
  obtain ⟨fs, hr, hrun, hended, hW, hsame⟩ := X0.leave (v := some (.int (0 : Int32))) (fun h => by rw [Bd.returns] at h; cases h)
  refine ⟨_, _, pre0 _ (go126 _ ?_), hrun, hended, _, _, rfl, ?_, ⟨_, rfl⟩, hW, hsame.mono (by decide) (by decide)⟩
  · exact retI X0 hx Bd.returns (hb hby d5_45) hr
  · show Q5k0 Z o1 o2 o3 kf km f0 f1 f2 f3 h0 n0 _ s₁.heap _
    rw [e0]
    exact ⟨rfl, N0, rfl⟩
theorem d5_18 : decode prog_9_method_5_code 18 = .ok (.aload_n 3, 1) := by decide +kernel
theorem d5_19 : decode prog_9_method_5_code 19 = .ok (.iload 5, 2) := by decide +kernel
theorem d5_21 : decode prog_9_method_5_code 21 = .ok (.iaload, 1) := by decide +kernel
theorem d5_22 : decode prog_9_method_5_code 22 = .ok (.istore 6, 2) := by decide +kernel
theorem d5_24 : decode prog_9_method_5_code 24 = .ok (.aload_n 0, 1) := by decide +kernel
theorem d5_25 : decode prog_9_method_5_code 25 = .ok (.getfield 7, 3) := by decide +kernel
theorem d5_28 : decode prog_9_method_5_code 28 = .ok (.iload 6, 2) := by decide +kernel
theorem d5_30 : decode prog_9_method_5_code 30 = .ok (.iaload, 1) := by decide +kernel
theorem d5_31 : decode prog_9_method_5_code 31 = .ok (.iconst 1, 1) := by decide +kernel
theorem d5_32 : decode prog_9_method_5_code 32 = .ok (.if_icmp .ne 6, 3) := by decide +kernel
theorem d5_35 : decode prog_9_method_5_code 35 = .ok (.iinc 2 1, 3) := by decide +kernel
theorem d5_38 : decode prog_9_method_5_code 38 = .ok (.iinc 5 1, 3) := by decide +kernel
theorem d5_41 : decode prog_9_method_5_code 41 = .ok (.goto (-30), 3) := by decide +kernel
theorem ef5k1 (m : MethodId) (x0 : Addr) (x1 : Addr) : entryFrame m #[(.ref x0), (.ref x1)] 7 = mkF m 0 #[.val (.ref x0), .val (.ref x1), .unset, .unset, .unset, .unset, .unset] [] := by first | (simp [entryFrame, mkF, argsToLocals, Value.category]; done) | rfl
def Q5k1 (Z : State) (o1 : Addr) (o2 : Addr) (o3 : Addr) (kf : ClassId) (km : ClassId) (f0 : Int32) (f1 : Int32) (f2 : Int32) (f3 : Int32) (m0 : Int32) (h0 : Heap) (n0 : Nat) (v : Option Value) (h : Heap) (L : List Loc) : Prop := v = some (.int (own_add 0 (own_pick m0 f0 f1 f2 f3))) ∧ Fr n0 L ∧ h = h0
set_option maxRecDepth 65536 in
set_option maxHeartbeats 40000000 in
theorem rm5k1 (l : Launch) (Z : State) (a0 : Array Value) (hw : ∀ d ∈ tables_1, d.before a0 Z = true) (ws : List Jvm.Cond) (o1 : Addr) (o2 : Addr) (o3 : Addr) (kf : ClassId) (km : ClassId) (f0 : Int32) (f1 : Int32) (f2 : Int32) (f3 : Int32) (m0 : Int32) (h0 : Heap) (n0 : Nat) (Z0 : n0 ≤ h0.size) (F1 : Fld Z h0 o1 "com/example/declination/declination/engine/Nsga2$Ranks" "front" "[I" (.ref o3)) (Vf : Arv Z h0 o3 kf .int (4 : Int32) [(.int f0), (.int f1), (.int f2), (.int f3)] (.int (0 : Int32))) (Vm : Arv Z h0 o2 km .int (1 : Int32) [(.int m0)] (.int (0 : Int32))) (hm0 : m0 = 0 ∨ m0 = 1 ∨ m0 = 2 ∨ m0 = 3) :
    MetFree l (⟨"com/example/declination/declination/engine/Nsga2$Ranks", "nondominated", "([I)I"⟩ : MethodName) (head1 (Jvm.Cond.code (⟨"com/example/declination/declination/engine/Nsga2$Ranks", "nondominated", "([I)I"⟩ : MethodName) prog_9_method_5_code 7 (some .int) :: ws) ({ frames := 0, cells := 0, slots := 0, locals := 0 } : Room)) (fun aa UU => aa = #[(.ref o1), (.ref o2)] ∧ Z.Warmed39 UU.vm ∧ UU.heap = h0) (fun _ _ _ _ _ => True) (fun _ UU oo UU' => ∃ vv LL, oo = .returned vv ∧ Q5k1 Z o1 o2 o3 kf km f0 f1 f2 f3 m0 h0 n0 vv UU'.heap LL ∧ FrameEnd UU oo UU' LL ({ frames := 0, cells := 0, slots := 0, locals := 0 } : Room).cells ({ frames := 0, cells := 0, slots := 0, locals := 0 } : Room).slots) := by
  have W : ∀ {d : Jvm.Cond} (i : Nat), tables_1[i]? = some d → d.before a0 Z = true := fun i h => hw _ (List.mem_of_getElem? h)
  refine MetFree.of_bodySF (plainFor_of_name pn4) hisR ?_
  intro p e s m args below meth c s₁ Bd hml0 hP hK
  obtain ⟨rfl, hZ, hh⟩ := hP
  have hx := Bd.exec
  have hby := Bd.bytes
  have hml : c.maxLocals = 7 := hml0
  have hown : s.vm.findClass "com/example/declination/declination/engine/Nsga2$Ranks" = some m.cls := findClass_of_methodNamed Bd.named
  have hnm := (name_of_methodNamed Bd.named Bd.method).1
  have X0 : Stand p l e ({ frames := 0, cells := 0, slots := 0, locals := 0 } : Room) s m #[(.ref o1), (.ref o2)] below meth c s₁ [] 0 0 := Stand.of_body Bd
  have e0 : s₁.heap = h0 := by rw [← hh, Bd.state]; rfl
  have N0 := Fr.nil n0
  have pre0 : ∀ tt, Steps p.tables e below (s₁.setTop (mkF m 0 #[rv o1, rv o2, .unset, .unset, .unset, .unset, .unset] [])) tt → Steps p.tables e below (s₁.setTop (entryFrame m #[(.ref o1), (.ref o2)] 7)) tt := fun tt kt => castTop (ef5k1 m o1 o2) kt
  obtain ⟨ST, hST⟩ : ∃ z : State, z = s₁.setTop (mkF m 0 #[rv o1, rv o2, .unset, .unset, .unset, .unset, .unset] []) := ⟨_, rfl⟩
  rw [← hST] at pre0
  have go127 : own_S p e below ST s₁ (mkF m 5 #[rv o1, rv o2, iv (0 : Int32), rv o2, .unset, .unset, .unset] [(.ref o2)]) := fun tt kt => (by
      rw [hST]
      show Steps p.tables e below (s₁.setTop (mkF m 0 #[rv o1, rv o2, .unset, .unset, .unset, .unset, .unset] [])) _
      refine XS.iconst X0.here hx rfl (hb hby d5_0) ?_
      refine XS.istoreN X0.here hx rfl (hb hby d5_1) rfl (l' := #[rv o1, rv o2, iv (0 : Int32), .unset, .unset, .unset, .unset]) rfl ?_
      refine XS.aloadN X0.here hx rfl (hb hby d5_2) rfl rfl ?_
      refine XS.astoreN X0.here hx rfl (hb hby d5_3) rfl rfl (l' := #[rv o1, rv o2, iv (0 : Int32), rv o2, .unset, .unset, .unset]) rfl ?_
      refine XS.aloadN X0.here hx rfl (hb hby d5_4) rfl rfl ?_
      exact kt)
  obtain ⟨cl128, Ar128, q128, S128, M128, H128, G128⟩ := id Vm
  have go129 : own_S p e below ST s₁ (mkF m 6 #[rv o1, rv o2, iv (0 : Int32), rv o2, .unset, .unset, .unset] [(.int (1 : Int32))]) := fun tt kt => go127 tt (by
      refine X0.arraylength hx (by rw [e0]; exact Ar128.1) (State.isArrayOf_alike hZ.alike Ar128.2.1) (g := (mkF m 5 #[rv o1, rv o2, iv (0 : Int32), rv o2, .unset, .unset, .unset] [(.ref o2)])) rfl rfl (hb hby d5_5) _ ?_
      rw [len_of S128 M128]
      exact kt)
  have go130 : own_S p e below ST s₁ (mkF m 21 #[rv o1, rv o2, iv (0 : Int32), rv o2, iv (1 : Int32), iv (0 : Int32), .unset] [(.int (0 : Int32)), (.ref o2)]) := fun tt kt => go129 tt (by
      refine XS.istore X0.here hx rfl (hb hby d5_6) rfl (l' := #[rv o1, rv o2, iv (0 : Int32), rv o2, iv (1 : Int32), .unset, .unset]) rfl ?_
      refine XS.iconst X0.here hx rfl (hb hby d5_8) ?_
      refine XS.istore X0.here hx rfl (hb hby d5_9) rfl (l' := #[rv o1, rv o2, iv (0 : Int32), rv o2, iv (1 : Int32), iv (0 : Int32), .unset]) rfl ?_
      refine XS.iload X0.here hx rfl (hb hby d5_11) rfl ?_
      refine XS.iload X0.here hx rfl (hb hby d5_13) rfl ?_
      refine XS.icmpNo X0.here hx rfl (hb hby d5_15) rfl (tlt (by decide : (0 : Int32) < (1 : Int32))).2.1 ?_
      show Steps p.tables e below (s₁.setTop (mkF m 18 #[rv o1, rv o2, iv (0 : Int32), rv o2, iv (1 : Int32), iv (0 : Int32), .unset] [])) _
      refine XS.aloadN X0.here hx rfl (hb hby d5_18) rfl rfl ?_
      refine XS.iload X0.here hx rfl (hb hby d5_19) rfl ?_
      exact kt)
  obtain ⟨cl131, Ar131, q131, S131, M131, H131, G131⟩ := id Vm
  have hin131 : ¬ ((0 : Int32) < 0 ∨ cl131.slots.size ≤ ((0 : Int32)).toNatClampNeg) := inb_of S131 ⟨by decide, by decide⟩
  have hat131 : cl131.slots[((0 : Int32)).toNatClampNeg]? = some (.int m0) := H131.at hin131 rfl
  have go132 : own_S p e below ST s₁ (mkF m 22 #[rv o1, rv o2, iv (0 : Int32), rv o2, iv (1 : Int32), iv (0 : Int32), .unset] [(.int m0)]) := fun tt kt => go130 tt (by
      refine X0.iaload hx (j := (0 : Int32)) (v := (.int m0)) (by rw [e0]; exact Ar131.1) (State.isArrayOf_alike hZ.alike Ar131.2.1) Ar131.2.2 hin131 hat131 (g := (mkF m 21 #[rv o1, rv o2, iv (0 : Int32), rv o2, iv (1 : Int32), iv (0 : Int32), .unset] [(.int (0 : Int32)), (.ref o2)])) rfl rfl (hb hby d5_21) _ ?_
      exact kt)
  have go133 : own_S p e below ST s₁ (mkF m 25 #[rv o1, rv o2, iv (0 : Int32), rv o2, iv (1 : Int32), iv (0 : Int32), iv m0] [(.ref o1)]) := fun tt kt => go132 tt (by
      refine XS.istore X0.here hx rfl (hb hby d5_22) rfl (l' := #[rv o1, rv o2, iv (0 : Int32), rv o2, iv (1 : Int32), iv (0 : Int32), iv m0]) rfl ?_
      refine XS.aloadN X0.here hx rfl (hb hby d5_24) rfl rfl ?_
      exact kt)
  obtain ⟨T134, X134, e134, st134⟩ := getF X0 hx hZ hown (host := "") (Or.inl (W 17 rfl)) Via.refl e0 F1 (g := (mkF m 25 #[rv o1, rv o2, iv (0 : Int32), rv o2, iv (1 : Int32), iv (0 : Int32), iv m0] [(.ref o1)])) rfl rfl (hb hby d5_25)
  have go135 : own_S p e below ST T134 (mkF m 28 #[rv o1, rv o2, iv (0 : Int32), rv o2, iv (1 : Int32), iv (0 : Int32), iv m0] [(.ref o3)]) := fun tt kt => go133 tt (st134 _ kt)
  have go136 : own_S p e below ST T134 (mkF m 30 #[rv o1, rv o2, iv (0 : Int32), rv o2, iv (1 : Int32), iv (0 : Int32), iv m0] [(.int m0), (.ref o3)]) := fun tt kt => go135 tt (by
      refine XS.iload X134.here hx rfl (hb hby d5_28) rfl ?_
      exact kt)
  obtain ⟨cl137, Ar137, q137, S137, M137, H137, G137⟩ := id Vf
  have hin137 : ¬ (m0 < 0 ∨ cl137.slots.size ≤ (m0).toNatClampNeg) := inb_of S137 (own_in4 hm0)
  have hat137 : cl137.slots[(m0).toNatClampNeg]? = some (.int (own_pick m0 f0 f1 f2 f3)) := H137.at hin137 (own_at4 f0 f1 f2 f3 hm0)
  have go138 : own_S p e below ST T134 (mkF m 31 #[rv o1, rv o2, iv (0 : Int32), rv o2, iv (1 : Int32), iv (0 : Int32), iv m0] [(.int (own_pick m0 f0 f1 f2 f3))]) := fun tt kt => go136 tt (by
      refine X134.iaload hx (j := m0) (v := (.int (own_pick m0 f0 f1 f2 f3))) (by rw [e134]; exact Ar137.1) (State.isArrayOf_alike hZ.alike Ar137.2.1) Ar137.2.2 hin137 hat137 (g := (mkF m 30 #[rv o1, rv o2, iv (0 : Int32), rv o2, iv (1 : Int32), iv (0 : Int32), iv m0] [(.int m0), (.ref o3)])) rfl rfl (hb hby d5_30) _ ?_
      exact kt)
  have go139 : own_S p e below ST T134 (mkF m 32 #[rv o1, rv o2, iv (0 : Int32), rv o2, iv (1 : Int32), iv (0 : Int32), iv m0] [(.int (1 : Int32)), (.int (own_pick m0 f0 f1 f2 f3))]) := fun tt kt => go138 tt (by
      refine XS.iconst X134.here hx rfl (hb hby d5_31) ?_
      exact kt)
  obtain ⟨c0, hc0, sg140⟩ : ∃ (c0 : Int32), c0 = (if (own_pick m0 f0 f1 f2 f3) = (1 : Int32) then (1 : Int32) else (0 : Int32)) ∧ ∀ tt, Steps p.tables e below (T134.setTop (mkF m 38 #[rv o1, rv o2, iv c0, rv o2, iv (1 : Int32), iv (0 : Int32), iv m0] [])) tt → Steps p.tables e below (T134.setTop (mkF m 32 #[rv o1, rv o2, iv (0 : Int32), rv o2, iv (1 : Int32), iv (0 : Int32), iv m0] [(.int (1 : Int32)), (.int (own_pick m0 f0 f1 f2 f3))])) tt := by
    by_cases hd32_0 : (own_pick m0 f0 f1 f2 f3) = (1 : Int32)
    · refine ⟨_, (if_pos hd32_0).symm, fun tt kt => ?_⟩
      show Steps p.tables e below (T134.setTop (mkF m 32 #[rv o1, rv o2, iv (0 : Int32), rv o2, iv (1 : Int32), iv (0 : Int32), iv m0] [(.int (1 : Int32)), (.int (own_pick m0 f0 f1 f2 f3))])) _
      refine XS.icmpNo X134.here hx rfl (hb hby d5_32) rfl (teq hd32_0).2 ?_
      refine XS.iinc X134.here hx rfl (hb hby d5_35) rfl (l' := #[rv o1, rv o2, iv (1 : Int32), rv o2, iv (1 : Int32), iv (0 : Int32), iv m0]) rfl ?_
      exact kt
    · refine ⟨_, (if_neg hd32_0).symm, fun tt kt => ?_⟩
      show Steps p.tables e below (T134.setTop (mkF m 32 #[rv o1, rv o2, iv (0 : Int32), rv o2, iv (1 : Int32), iv (0 : Int32), iv m0] [(.int (1 : Int32)), (.int (own_pick m0 f0 f1 f2 f3))])) _
      refine XS.icmpYes X134.here hx rfl (pc0 := 32) (pc' := 38) rfl (hb hby d5_32) rfl (feq hd32_0).2 (by decide) (by decide) ?_
      exact kt
  have go141 : own_S p e below ST T134 (mkF m 38 #[rv o1, rv o2, iv c0, rv o2, iv (1 : Int32), iv (0 : Int32), iv m0] []) := fun tt kt => go139 tt (sg140 _ kt)
  have go142 : own_S p e below ST T134 (mkF m 45 #[rv o1, rv o2, iv c0, rv o2, iv (1 : Int32), iv (1 : Int32), iv m0] [(.int c0)]) := fun tt kt => go141 tt (by
      refine XS.iinc X134.here hx rfl (hb hby d5_38) rfl (l' := #[rv o1, rv o2, iv c0, rv o2, iv (1 : Int32), iv (1 : Int32), iv m0]) rfl ?_
      refine XS.goto X134.here hx rfl (pc0 := 41) (pc' := 11) rfl (hb hby d5_41) (by decide) (by decide) ?_
      refine XS.iload X134.here hx rfl (hb hby d5_11) rfl ?_
      refine XS.iload X134.here hx rfl (hb hby d5_13) rfl ?_
      refine XS.icmpYes X134.here hx rfl (pc0 := 15) (pc' := 44) rfl (hb hby d5_15) rfl (flt (by decide : ¬ ((1 : Int32) < (1 : Int32)))).2.1 (by decide) (by decide) ?_
      refine XS.iloadN X134.here hx rfl (hb hby d5_44) rfl ?_
      exact kt)
  obtain ⟨fs, hr, hrun, hended, hW, hsame⟩ := X134.leave (v := some (.int c0)) (fun h => by rw [Bd.returns] at h; cases h)
  refine ⟨_, _, pre0 _ (go142 _ ?_), hrun, hended, _, _, rfl, ?_, ⟨_, rfl⟩, hW, hsame.mono (by decide) (by decide)⟩
  · exact retI X134 hx Bd.returns (hb hby d5_45) hr
  · show Q5k1 Z o1 o2 o3 kf km f0 f1 f2 f3 m0 h0 n0 _ T134.heap _
    rw [e134]
    exact ⟨(by rw [hc0]; rfl), N0, rfl⟩
theorem ef5k2 (m : MethodId) (x0 : Addr) (x1 : Addr) : entryFrame m #[(.ref x0), (.ref x1)] 7 = mkF m 0 #[.val (.ref x0), .val (.ref x1), .unset, .unset, .unset, .unset, .unset] [] := by first | (simp [entryFrame, mkF, argsToLocals, Value.category]; done) | rfl
def Q5k2 (Z : State) (o1 : Addr) (o2 : Addr) (o3 : Addr) (kf : ClassId) (km : ClassId) (f0 : Int32) (f1 : Int32) (f2 : Int32) (f3 : Int32) (m0 : Int32) (m1 : Int32) (h0 : Heap) (n0 : Nat) (v : Option Value) (h : Heap) (L : List Loc) : Prop := v = some (.int (own_add (own_add 0 (own_pick m0 f0 f1 f2 f3)) (own_pick m1 f0 f1 f2 f3))) ∧ Fr n0 L ∧ h = h0
set_option maxRecDepth 65536 in
set_option maxHeartbeats 40000000 in
theorem rm5k2 (l : Launch) (Z : State) (a0 : Array Value) (hw : ∀ d ∈ tables_1, d.before a0 Z = true) (ws : List Jvm.Cond) (o1 : Addr) (o2 : Addr) (o3 : Addr) (kf : ClassId) (km : ClassId) (f0 : Int32) (f1 : Int32) (f2 : Int32) (f3 : Int32) (m0 : Int32) (m1 : Int32) (h0 : Heap) (n0 : Nat) (Z0 : n0 ≤ h0.size) (F1 : Fld Z h0 o1 "com/example/declination/declination/engine/Nsga2$Ranks" "front" "[I" (.ref o3)) (Vf : Arv Z h0 o3 kf .int (4 : Int32) [(.int f0), (.int f1), (.int f2), (.int f3)] (.int (0 : Int32))) (Vm : Arv Z h0 o2 km .int (2 : Int32) [(.int m0), (.int m1)] (.int (0 : Int32))) (hm0 : m0 = 0 ∨ m0 = 1 ∨ m0 = 2 ∨ m0 = 3) (hm1 : m1 = 0 ∨ m1 = 1 ∨ m1 = 2 ∨ m1 = 3) :
    MetFree l (⟨"com/example/declination/declination/engine/Nsga2$Ranks", "nondominated", "([I)I"⟩ : MethodName) (head1 (Jvm.Cond.code (⟨"com/example/declination/declination/engine/Nsga2$Ranks", "nondominated", "([I)I"⟩ : MethodName) prog_9_method_5_code 7 (some .int) :: ws) ({ frames := 0, cells := 0, slots := 0, locals := 0 } : Room)) (fun aa UU => aa = #[(.ref o1), (.ref o2)] ∧ Z.Warmed39 UU.vm ∧ UU.heap = h0) (fun _ _ _ _ _ => True) (fun _ UU oo UU' => ∃ vv LL, oo = .returned vv ∧ Q5k2 Z o1 o2 o3 kf km f0 f1 f2 f3 m0 m1 h0 n0 vv UU'.heap LL ∧ FrameEnd UU oo UU' LL ({ frames := 0, cells := 0, slots := 0, locals := 0 } : Room).cells ({ frames := 0, cells := 0, slots := 0, locals := 0 } : Room).slots) := by
  have W : ∀ {d : Jvm.Cond} (i : Nat), tables_1[i]? = some d → d.before a0 Z = true := fun i h => hw _ (List.mem_of_getElem? h)
  refine MetFree.of_bodySF (plainFor_of_name pn4) hisR ?_
  intro p e s m args below meth c s₁ Bd hml0 hP hK
  obtain ⟨rfl, hZ, hh⟩ := hP
  have hx := Bd.exec
  have hby := Bd.bytes
  have hml : c.maxLocals = 7 := hml0
  have hown : s.vm.findClass "com/example/declination/declination/engine/Nsga2$Ranks" = some m.cls := findClass_of_methodNamed Bd.named
  have hnm := (name_of_methodNamed Bd.named Bd.method).1
  have X0 : Stand p l e ({ frames := 0, cells := 0, slots := 0, locals := 0 } : Room) s m #[(.ref o1), (.ref o2)] below meth c s₁ [] 0 0 := Stand.of_body Bd
  have e0 : s₁.heap = h0 := by rw [← hh, Bd.state]; rfl
  have N0 := Fr.nil n0
  have pre0 : ∀ tt, Steps p.tables e below (s₁.setTop (mkF m 0 #[rv o1, rv o2, .unset, .unset, .unset, .unset, .unset] [])) tt → Steps p.tables e below (s₁.setTop (entryFrame m #[(.ref o1), (.ref o2)] 7)) tt := fun tt kt => castTop (ef5k2 m o1 o2) kt
  obtain ⟨ST, hST⟩ : ∃ z : State, z = s₁.setTop (mkF m 0 #[rv o1, rv o2, .unset, .unset, .unset, .unset, .unset] []) := ⟨_, rfl⟩
  rw [← hST] at pre0
  have go143 : own_S p e below ST s₁ (mkF m 5 #[rv o1, rv o2, iv (0 : Int32), rv o2, .unset, .unset, .unset] [(.ref o2)]) := fun tt kt => (by
      rw [hST]
      show Steps p.tables e below (s₁.setTop (mkF m 0 #[rv o1, rv o2, .unset, .unset, .unset, .unset, .unset] [])) _
      refine XS.iconst X0.here hx rfl (hb hby d5_0) ?_
      refine XS.istoreN X0.here hx rfl (hb hby d5_1) rfl (l' := #[rv o1, rv o2, iv (0 : Int32), .unset, .unset, .unset, .unset]) rfl ?_
      refine XS.aloadN X0.here hx rfl (hb hby d5_2) rfl rfl ?_
      refine XS.astoreN X0.here hx rfl (hb hby d5_3) rfl rfl (l' := #[rv o1, rv o2, iv (0 : Int32), rv o2, .unset, .unset, .unset]) rfl ?_
      refine XS.aloadN X0.here hx rfl (hb hby d5_4) rfl rfl ?_
      exact kt)
  obtain ⟨cl144, Ar144, q144, S144, M144, H144, G144⟩ := id Vm
  have go145 : own_S p e below ST s₁ (mkF m 6 #[rv o1, rv o2, iv (0 : Int32), rv o2, .unset, .unset, .unset] [(.int (2 : Int32))]) := fun tt kt => go143 tt (by
      refine X0.arraylength hx (by rw [e0]; exact Ar144.1) (State.isArrayOf_alike hZ.alike Ar144.2.1) (g := (mkF m 5 #[rv o1, rv o2, iv (0 : Int32), rv o2, .unset, .unset, .unset] [(.ref o2)])) rfl rfl (hb hby d5_5) _ ?_
      rw [len_of S144 M144]
      exact kt)
  have go146 : own_S p e below ST s₁ (mkF m 21 #[rv o1, rv o2, iv (0 : Int32), rv o2, iv (2 : Int32), iv (0 : Int32), .unset] [(.int (0 : Int32)), (.ref o2)]) := fun tt kt => go145 tt (by
      refine XS.istore X0.here hx rfl (hb hby d5_6) rfl (l' := #[rv o1, rv o2, iv (0 : Int32), rv o2, iv (2 : Int32), .unset, .unset]) rfl ?_
      refine XS.iconst X0.here hx rfl (hb hby d5_8) ?_
      refine XS.istore X0.here hx rfl (hb hby d5_9) rfl (l' := #[rv o1, rv o2, iv (0 : Int32), rv o2, iv (2 : Int32), iv (0 : Int32), .unset]) rfl ?_
      refine XS.iload X0.here hx rfl (hb hby d5_11) rfl ?_
      refine XS.iload X0.here hx rfl (hb hby d5_13) rfl ?_
      refine XS.icmpNo X0.here hx rfl (hb hby d5_15) rfl (tlt (by decide : (0 : Int32) < (2 : Int32))).2.1 ?_
      show Steps p.tables e below (s₁.setTop (mkF m 18 #[rv o1, rv o2, iv (0 : Int32), rv o2, iv (2 : Int32), iv (0 : Int32), .unset] [])) _
      refine XS.aloadN X0.here hx rfl (hb hby d5_18) rfl rfl ?_
      refine XS.iload X0.here hx rfl (hb hby d5_19) rfl ?_
      exact kt)
  obtain ⟨cl147, Ar147, q147, S147, M147, H147, G147⟩ := id Vm
  have hin147 : ¬ ((0 : Int32) < 0 ∨ cl147.slots.size ≤ ((0 : Int32)).toNatClampNeg) := inb_of S147 ⟨by decide, by decide⟩
  have hat147 : cl147.slots[((0 : Int32)).toNatClampNeg]? = some (.int m0) := H147.at hin147 rfl
  have go148 : own_S p e below ST s₁ (mkF m 22 #[rv o1, rv o2, iv (0 : Int32), rv o2, iv (2 : Int32), iv (0 : Int32), .unset] [(.int m0)]) := fun tt kt => go146 tt (by
      refine X0.iaload hx (j := (0 : Int32)) (v := (.int m0)) (by rw [e0]; exact Ar147.1) (State.isArrayOf_alike hZ.alike Ar147.2.1) Ar147.2.2 hin147 hat147 (g := (mkF m 21 #[rv o1, rv o2, iv (0 : Int32), rv o2, iv (2 : Int32), iv (0 : Int32), .unset] [(.int (0 : Int32)), (.ref o2)])) rfl rfl (hb hby d5_21) _ ?_
      exact kt)
  have go149 : own_S p e below ST s₁ (mkF m 25 #[rv o1, rv o2, iv (0 : Int32), rv o2, iv (2 : Int32), iv (0 : Int32), iv m0] [(.ref o1)]) := fun tt kt => go148 tt (by
      refine XS.istore X0.here hx rfl (hb hby d5_22) rfl (l' := #[rv o1, rv o2, iv (0 : Int32), rv o2, iv (2 : Int32), iv (0 : Int32), iv m0]) rfl ?_
      refine XS.aloadN X0.here hx rfl (hb hby d5_24) rfl rfl ?_
      exact kt)
  obtain ⟨T150, X150, e150, st150⟩ := getF X0 hx hZ hown (host := "") (Or.inl (W 17 rfl)) Via.refl e0 F1 (g := (mkF m 25 #[rv o1, rv o2, iv (0 : Int32), rv o2, iv (2 : Int32), iv (0 : Int32), iv m0] [(.ref o1)])) rfl rfl (hb hby d5_25)
  have go151 : own_S p e below ST T150 (mkF m 28 #[rv o1, rv o2, iv (0 : Int32), rv o2, iv (2 : Int32), iv (0 : Int32), iv m0] [(.ref o3)]) := fun tt kt => go149 tt (st150 _ kt)
  have go152 : own_S p e below ST T150 (mkF m 30 #[rv o1, rv o2, iv (0 : Int32), rv o2, iv (2 : Int32), iv (0 : Int32), iv m0] [(.int m0), (.ref o3)]) := fun tt kt => go151 tt (by
      refine XS.iload X150.here hx rfl (hb hby d5_28) rfl ?_
      exact kt)
  obtain ⟨cl153, Ar153, q153, S153, M153, H153, G153⟩ := id Vf
  have hin153 : ¬ (m0 < 0 ∨ cl153.slots.size ≤ (m0).toNatClampNeg) := inb_of S153 (own_in4 hm0)
  have hat153 : cl153.slots[(m0).toNatClampNeg]? = some (.int (own_pick m0 f0 f1 f2 f3)) := H153.at hin153 (own_at4 f0 f1 f2 f3 hm0)
  have go154 : own_S p e below ST T150 (mkF m 31 #[rv o1, rv o2, iv (0 : Int32), rv o2, iv (2 : Int32), iv (0 : Int32), iv m0] [(.int (own_pick m0 f0 f1 f2 f3))]) := fun tt kt => go152 tt (by
      refine X150.iaload hx (j := m0) (v := (.int (own_pick m0 f0 f1 f2 f3))) (by rw [e150]; exact Ar153.1) (State.isArrayOf_alike hZ.alike Ar153.2.1) Ar153.2.2 hin153 hat153 (g := (mkF m 30 #[rv o1, rv o2, iv (0 : Int32), rv o2, iv (2 : Int32), iv (0 : Int32), iv m0] [(.int m0), (.ref o3)])) rfl rfl (hb hby d5_30) _ ?_
      exact kt)
  have go155 : own_S p e below ST T150 (mkF m 32 #[rv o1, rv o2, iv (0 : Int32), rv o2, iv (2 : Int32), iv (0 : Int32), iv m0] [(.int (1 : Int32)), (.int (own_pick m0 f0 f1 f2 f3))]) := fun tt kt => go154 tt (by
      refine XS.iconst X150.here hx rfl (hb hby d5_31) ?_
      exact kt)
  obtain ⟨c0, hc0, sg156⟩ : ∃ (c0 : Int32), c0 = (if (own_pick m0 f0 f1 f2 f3) = (1 : Int32) then (1 : Int32) else (0 : Int32)) ∧ ∀ tt, Steps p.tables e below (T150.setTop (mkF m 38 #[rv o1, rv o2, iv c0, rv o2, iv (2 : Int32), iv (0 : Int32), iv m0] [])) tt → Steps p.tables e below (T150.setTop (mkF m 32 #[rv o1, rv o2, iv (0 : Int32), rv o2, iv (2 : Int32), iv (0 : Int32), iv m0] [(.int (1 : Int32)), (.int (own_pick m0 f0 f1 f2 f3))])) tt := by
    by_cases hd32_0 : (own_pick m0 f0 f1 f2 f3) = (1 : Int32)
    · refine ⟨_, (if_pos hd32_0).symm, fun tt kt => ?_⟩
      show Steps p.tables e below (T150.setTop (mkF m 32 #[rv o1, rv o2, iv (0 : Int32), rv o2, iv (2 : Int32), iv (0 : Int32), iv m0] [(.int (1 : Int32)), (.int (own_pick m0 f0 f1 f2 f3))])) _
      refine XS.icmpNo X150.here hx rfl (hb hby d5_32) rfl (teq hd32_0).2 ?_
      refine XS.iinc X150.here hx rfl (hb hby d5_35) rfl (l' := #[rv o1, rv o2, iv (1 : Int32), rv o2, iv (2 : Int32), iv (0 : Int32), iv m0]) rfl ?_
      exact kt
    · refine ⟨_, (if_neg hd32_0).symm, fun tt kt => ?_⟩
      show Steps p.tables e below (T150.setTop (mkF m 32 #[rv o1, rv o2, iv (0 : Int32), rv o2, iv (2 : Int32), iv (0 : Int32), iv m0] [(.int (1 : Int32)), (.int (own_pick m0 f0 f1 f2 f3))])) _
      refine XS.icmpYes X150.here hx rfl (pc0 := 32) (pc' := 38) rfl (hb hby d5_32) rfl (feq hd32_0).2 (by decide) (by decide) ?_
      exact kt
  have go157 : own_S p e below ST T150 (mkF m 38 #[rv o1, rv o2, iv c0, rv o2, iv (2 : Int32), iv (0 : Int32), iv m0] []) := fun tt kt => go155 tt (sg156 _ kt)
  have go158 : own_S p e below ST T150 (mkF m 21 #[rv o1, rv o2, iv c0, rv o2, iv (2 : Int32), iv (1 : Int32), iv m0] [(.int (1 : Int32)), (.ref o2)]) := fun tt kt => go157 tt (by
      refine XS.iinc X150.here hx rfl (hb hby d5_38) rfl (l' := #[rv o1, rv o2, iv c0, rv o2, iv (2 : Int32), iv (1 : Int32), iv m0]) rfl ?_
      refine XS.goto X150.here hx rfl (pc0 := 41) (pc' := 11) rfl (hb hby d5_41) (by decide) (by decide) ?_
      refine XS.iload X150.here hx rfl (hb hby d5_11) rfl ?_
      refine XS.iload X150.here hx rfl (hb hby d5_13) rfl ?_
      refine XS.icmpNo X150.here hx rfl (hb hby d5_15) rfl (tlt (by decide : (1 : Int32) < (2 : Int32))).2.1 ?_
      refine XS.aloadN X150.here hx rfl (hb hby d5_18) rfl rfl ?_
      show Steps p.tables e below (T150.setTop (mkF m 19 #[rv o1, rv o2, iv c0, rv o2, iv (2 : Int32), iv (1 : Int32), iv m0] [(.ref o2)])) _
      refine XS.iload X150.here hx rfl (hb hby d5_19) rfl ?_
      exact kt)
  obtain ⟨cl159, Ar159, q159, S159, M159, H159, G159⟩ := id Vm
  have hin159 : ¬ ((1 : Int32) < 0 ∨ cl159.slots.size ≤ ((1 : Int32)).toNatClampNeg) := inb_of S159 ⟨by decide, by decide⟩
  have hat159 : cl159.slots[((1 : Int32)).toNatClampNeg]? = some (.int m1) := H159.at hin159 rfl
  have go160 : own_S p e below ST T150 (mkF m 22 #[rv o1, rv o2, iv c0, rv o2, iv (2 : Int32), iv (1 : Int32), iv m0] [(.int m1)]) := fun tt kt => go158 tt (by
      refine X150.iaload hx (j := (1 : Int32)) (v := (.int m1)) (by rw [e150]; exact Ar159.1) (State.isArrayOf_alike hZ.alike Ar159.2.1) Ar159.2.2 hin159 hat159 (g := (mkF m 21 #[rv o1, rv o2, iv c0, rv o2, iv (2 : Int32), iv (1 : Int32), iv m0] [(.int (1 : Int32)), (.ref o2)])) rfl rfl (hb hby d5_21) _ ?_
      exact kt)
  have go161 : own_S p e below ST T150 (mkF m 25 #[rv o1, rv o2, iv c0, rv o2, iv (2 : Int32), iv (1 : Int32), iv m1] [(.ref o1)]) := fun tt kt => go160 tt (by
      refine XS.istore X150.here hx rfl (hb hby d5_22) rfl (l' := #[rv o1, rv o2, iv c0, rv o2, iv (2 : Int32), iv (1 : Int32), iv m1]) rfl ?_
      refine XS.aloadN X150.here hx rfl (hb hby d5_24) rfl rfl ?_
      exact kt)
  obtain ⟨T162, X162, e162, st162⟩ := getF X150 hx hZ hown (host := "") (Or.inl (W 17 rfl)) Via.refl e150 F1 (g := (mkF m 25 #[rv o1, rv o2, iv c0, rv o2, iv (2 : Int32), iv (1 : Int32), iv m1] [(.ref o1)])) rfl rfl (hb hby d5_25)
  have go163 : own_S p e below ST T162 (mkF m 28 #[rv o1, rv o2, iv c0, rv o2, iv (2 : Int32), iv (1 : Int32), iv m1] [(.ref o3)]) := fun tt kt => go161 tt (st162 _ kt)
  have go164 : own_S p e below ST T162 (mkF m 30 #[rv o1, rv o2, iv c0, rv o2, iv (2 : Int32), iv (1 : Int32), iv m1] [(.int m1), (.ref o3)]) := fun tt kt => go163 tt (by
      refine XS.iload X162.here hx rfl (hb hby d5_28) rfl ?_
      exact kt)
  obtain ⟨cl165, Ar165, q165, S165, M165, H165, G165⟩ := id Vf
  have hin165 : ¬ (m1 < 0 ∨ cl165.slots.size ≤ (m1).toNatClampNeg) := inb_of S165 (own_in4 hm1)
  have hat165 : cl165.slots[(m1).toNatClampNeg]? = some (.int (own_pick m1 f0 f1 f2 f3)) := H165.at hin165 (own_at4 f0 f1 f2 f3 hm1)
  have go166 : own_S p e below ST T162 (mkF m 31 #[rv o1, rv o2, iv c0, rv o2, iv (2 : Int32), iv (1 : Int32), iv m1] [(.int (own_pick m1 f0 f1 f2 f3))]) := fun tt kt => go164 tt (by
      refine X162.iaload hx (j := m1) (v := (.int (own_pick m1 f0 f1 f2 f3))) (by rw [e162]; exact Ar165.1) (State.isArrayOf_alike hZ.alike Ar165.2.1) Ar165.2.2 hin165 hat165 (g := (mkF m 30 #[rv o1, rv o2, iv c0, rv o2, iv (2 : Int32), iv (1 : Int32), iv m1] [(.int m1), (.ref o3)])) rfl rfl (hb hby d5_30) _ ?_
      exact kt)
  have go167 : own_S p e below ST T162 (mkF m 32 #[rv o1, rv o2, iv c0, rv o2, iv (2 : Int32), iv (1 : Int32), iv m1] [(.int (1 : Int32)), (.int (own_pick m1 f0 f1 f2 f3))]) := fun tt kt => go166 tt (by
      refine XS.iconst X162.here hx rfl (hb hby d5_31) ?_
      exact kt)
  obtain ⟨c1, hc1, sg168⟩ : ∃ (c1 : Int32), c1 = (if (own_pick m1 f0 f1 f2 f3) = (1 : Int32) then (c0 + (1 : Int32)) else c0) ∧ ∀ tt, Steps p.tables e below (T162.setTop (mkF m 38 #[rv o1, rv o2, iv c1, rv o2, iv (2 : Int32), iv (1 : Int32), iv m1] [])) tt → Steps p.tables e below (T162.setTop (mkF m 32 #[rv o1, rv o2, iv c0, rv o2, iv (2 : Int32), iv (1 : Int32), iv m1] [(.int (1 : Int32)), (.int (own_pick m1 f0 f1 f2 f3))])) tt := by
    by_cases hd32_0 : (own_pick m1 f0 f1 f2 f3) = (1 : Int32)
    · refine ⟨_, (if_pos hd32_0).symm, fun tt kt => ?_⟩
      show Steps p.tables e below (T162.setTop (mkF m 32 #[rv o1, rv o2, iv c0, rv o2, iv (2 : Int32), iv (1 : Int32), iv m1] [(.int (1 : Int32)), (.int (own_pick m1 f0 f1 f2 f3))])) _
      refine XS.icmpNo X162.here hx rfl (hb hby d5_32) rfl (teq hd32_0).2 ?_
      refine XS.iinc X162.here hx rfl (hb hby d5_35) rfl (l' := #[rv o1, rv o2, iv (c0 + (1 : Int32)), rv o2, iv (2 : Int32), iv (1 : Int32), iv m1]) rfl ?_
      exact kt
    · refine ⟨_, (if_neg hd32_0).symm, fun tt kt => ?_⟩
      show Steps p.tables e below (T162.setTop (mkF m 32 #[rv o1, rv o2, iv c0, rv o2, iv (2 : Int32), iv (1 : Int32), iv m1] [(.int (1 : Int32)), (.int (own_pick m1 f0 f1 f2 f3))])) _
      refine XS.icmpYes X162.here hx rfl (pc0 := 32) (pc' := 38) rfl (hb hby d5_32) rfl (feq hd32_0).2 (by decide) (by decide) ?_
      exact kt
  have go169 : own_S p e below ST T162 (mkF m 38 #[rv o1, rv o2, iv c1, rv o2, iv (2 : Int32), iv (1 : Int32), iv m1] []) := fun tt kt => go167 tt (sg168 _ kt)
  have go170 : own_S p e below ST T162 (mkF m 45 #[rv o1, rv o2, iv c1, rv o2, iv (2 : Int32), iv (2 : Int32), iv m1] [(.int c1)]) := fun tt kt => go169 tt (by
      refine XS.iinc X162.here hx rfl (hb hby d5_38) rfl (l' := #[rv o1, rv o2, iv c1, rv o2, iv (2 : Int32), iv (2 : Int32), iv m1]) rfl ?_
      refine XS.goto X162.here hx rfl (pc0 := 41) (pc' := 11) rfl (hb hby d5_41) (by decide) (by decide) ?_
      refine XS.iload X162.here hx rfl (hb hby d5_11) rfl ?_
      refine XS.iload X162.here hx rfl (hb hby d5_13) rfl ?_
      refine XS.icmpYes X162.here hx rfl (pc0 := 15) (pc' := 44) rfl (hb hby d5_15) rfl (flt (by decide : ¬ ((2 : Int32) < (2 : Int32)))).2.1 (by decide) (by decide) ?_
      refine XS.iloadN X162.here hx rfl (hb hby d5_44) rfl ?_
      exact kt)
  obtain ⟨fs, hr, hrun, hended, hW, hsame⟩ := X162.leave (v := some (.int c1)) (fun h => by rw [Bd.returns] at h; cases h)
  refine ⟨_, _, pre0 _ (go170 _ ?_), hrun, hended, _, _, rfl, ?_, ⟨_, rfl⟩, hW, hsame.mono (by decide) (by decide)⟩
  · exact retI X162 hx Bd.returns (hb hby d5_45) hr
  · show Q5k2 Z o1 o2 o3 kf km f0 f1 f2 f3 m0 m1 h0 n0 _ T162.heap _
    rw [e162]
    exact ⟨(by rw [hc1, hc0]; rfl), N0, rfl⟩
theorem ef5k3 (m : MethodId) (x0 : Addr) (x1 : Addr) : entryFrame m #[(.ref x0), (.ref x1)] 7 = mkF m 0 #[.val (.ref x0), .val (.ref x1), .unset, .unset, .unset, .unset, .unset] [] := by first | (simp [entryFrame, mkF, argsToLocals, Value.category]; done) | rfl
def Q5k3 (Z : State) (o1 : Addr) (o2 : Addr) (o3 : Addr) (kf : ClassId) (km : ClassId) (f0 : Int32) (f1 : Int32) (f2 : Int32) (f3 : Int32) (m0 : Int32) (m1 : Int32) (m2 : Int32) (h0 : Heap) (n0 : Nat) (v : Option Value) (h : Heap) (L : List Loc) : Prop := v = some (.int (own_add (own_add (own_add 0 (own_pick m0 f0 f1 f2 f3)) (own_pick m1 f0 f1 f2 f3)) (own_pick m2 f0 f1 f2 f3))) ∧ Fr n0 L ∧ h = h0
set_option maxRecDepth 65536 in
set_option maxHeartbeats 40000000 in
theorem rm5k3 (l : Launch) (Z : State) (a0 : Array Value) (hw : ∀ d ∈ tables_1, d.before a0 Z = true) (ws : List Jvm.Cond) (o1 : Addr) (o2 : Addr) (o3 : Addr) (kf : ClassId) (km : ClassId) (f0 : Int32) (f1 : Int32) (f2 : Int32) (f3 : Int32) (m0 : Int32) (m1 : Int32) (m2 : Int32) (h0 : Heap) (n0 : Nat) (Z0 : n0 ≤ h0.size) (F1 : Fld Z h0 o1 "com/example/declination/declination/engine/Nsga2$Ranks" "front" "[I" (.ref o3)) (Vf : Arv Z h0 o3 kf .int (4 : Int32) [(.int f0), (.int f1), (.int f2), (.int f3)] (.int (0 : Int32))) (Vm : Arv Z h0 o2 km .int (3 : Int32) [(.int m0), (.int m1), (.int m2)] (.int (0 : Int32))) (hm0 : m0 = 0 ∨ m0 = 1 ∨ m0 = 2 ∨ m0 = 3) (hm1 : m1 = 0 ∨ m1 = 1 ∨ m1 = 2 ∨ m1 = 3) (hm2 : m2 = 0 ∨ m2 = 1 ∨ m2 = 2 ∨ m2 = 3) :
    MetFree l (⟨"com/example/declination/declination/engine/Nsga2$Ranks", "nondominated", "([I)I"⟩ : MethodName) (head1 (Jvm.Cond.code (⟨"com/example/declination/declination/engine/Nsga2$Ranks", "nondominated", "([I)I"⟩ : MethodName) prog_9_method_5_code 7 (some .int) :: ws) ({ frames := 0, cells := 0, slots := 0, locals := 0 } : Room)) (fun aa UU => aa = #[(.ref o1), (.ref o2)] ∧ Z.Warmed39 UU.vm ∧ UU.heap = h0) (fun _ _ _ _ _ => True) (fun _ UU oo UU' => ∃ vv LL, oo = .returned vv ∧ Q5k3 Z o1 o2 o3 kf km f0 f1 f2 f3 m0 m1 m2 h0 n0 vv UU'.heap LL ∧ FrameEnd UU oo UU' LL ({ frames := 0, cells := 0, slots := 0, locals := 0 } : Room).cells ({ frames := 0, cells := 0, slots := 0, locals := 0 } : Room).slots) := by
  have W : ∀ {d : Jvm.Cond} (i : Nat), tables_1[i]? = some d → d.before a0 Z = true := fun i h => hw _ (List.mem_of_getElem? h)
  refine MetFree.of_bodySF (plainFor_of_name pn4) hisR ?_
  intro p e s m args below meth c s₁ Bd hml0 hP hK
  obtain ⟨rfl, hZ, hh⟩ := hP
  have hx := Bd.exec
  have hby := Bd.bytes
  have hml : c.maxLocals = 7 := hml0
  have hown : s.vm.findClass "com/example/declination/declination/engine/Nsga2$Ranks" = some m.cls := findClass_of_methodNamed Bd.named
  have hnm := (name_of_methodNamed Bd.named Bd.method).1
  have X0 : Stand p l e ({ frames := 0, cells := 0, slots := 0, locals := 0 } : Room) s m #[(.ref o1), (.ref o2)] below meth c s₁ [] 0 0 := Stand.of_body Bd
  have e0 : s₁.heap = h0 := by rw [← hh, Bd.state]; rfl
  have N0 := Fr.nil n0
  have pre0 : ∀ tt, Steps p.tables e below (s₁.setTop (mkF m 0 #[rv o1, rv o2, .unset, .unset, .unset, .unset, .unset] [])) tt → Steps p.tables e below (s₁.setTop (entryFrame m #[(.ref o1), (.ref o2)] 7)) tt := fun tt kt => castTop (ef5k3 m o1 o2) kt
  obtain ⟨ST, hST⟩ : ∃ z : State, z = s₁.setTop (mkF m 0 #[rv o1, rv o2, .unset, .unset, .unset, .unset, .unset] []) := ⟨_, rfl⟩
  rw [← hST] at pre0
  have go171 : own_S p e below ST s₁ (mkF m 5 #[rv o1, rv o2, iv (0 : Int32), rv o2, .unset, .unset, .unset] [(.ref o2)]) := fun tt kt => (by
      rw [hST]
      show Steps p.tables e below (s₁.setTop (mkF m 0 #[rv o1, rv o2, .unset, .unset, .unset, .unset, .unset] [])) _
      refine XS.iconst X0.here hx rfl (hb hby d5_0) ?_
      refine XS.istoreN X0.here hx rfl (hb hby d5_1) rfl (l' := #[rv o1, rv o2, iv (0 : Int32), .unset, .unset, .unset, .unset]) rfl ?_
      refine XS.aloadN X0.here hx rfl (hb hby d5_2) rfl rfl ?_
      refine XS.astoreN X0.here hx rfl (hb hby d5_3) rfl rfl (l' := #[rv o1, rv o2, iv (0 : Int32), rv o2, .unset, .unset, .unset]) rfl ?_
      refine XS.aloadN X0.here hx rfl (hb hby d5_4) rfl rfl ?_
      exact kt)
  obtain ⟨cl172, Ar172, q172, S172, M172, H172, G172⟩ := id Vm
  have go173 : own_S p e below ST s₁ (mkF m 6 #[rv o1, rv o2, iv (0 : Int32), rv o2, .unset, .unset, .unset] [(.int (3 : Int32))]) := fun tt kt => go171 tt (by
      refine X0.arraylength hx (by rw [e0]; exact Ar172.1) (State.isArrayOf_alike hZ.alike Ar172.2.1) (g := (mkF m 5 #[rv o1, rv o2, iv (0 : Int32), rv o2, .unset, .unset, .unset] [(.ref o2)])) rfl rfl (hb hby d5_5) _ ?_
      rw [len_of S172 M172]
      exact kt)
  have go174 : own_S p e below ST s₁ (mkF m 21 #[rv o1, rv o2, iv (0 : Int32), rv o2, iv (3 : Int32), iv (0 : Int32), .unset] [(.int (0 : Int32)), (.ref o2)]) := fun tt kt => go173 tt (by
      refine XS.istore X0.here hx rfl (hb hby d5_6) rfl (l' := #[rv o1, rv o2, iv (0 : Int32), rv o2, iv (3 : Int32), .unset, .unset]) rfl ?_
      refine XS.iconst X0.here hx rfl (hb hby d5_8) ?_
      refine XS.istore X0.here hx rfl (hb hby d5_9) rfl (l' := #[rv o1, rv o2, iv (0 : Int32), rv o2, iv (3 : Int32), iv (0 : Int32), .unset]) rfl ?_
      refine XS.iload X0.here hx rfl (hb hby d5_11) rfl ?_
      refine XS.iload X0.here hx rfl (hb hby d5_13) rfl ?_
      refine XS.icmpNo X0.here hx rfl (hb hby d5_15) rfl (tlt (by decide : (0 : Int32) < (3 : Int32))).2.1 ?_
      show Steps p.tables e below (s₁.setTop (mkF m 18 #[rv o1, rv o2, iv (0 : Int32), rv o2, iv (3 : Int32), iv (0 : Int32), .unset] [])) _
      refine XS.aloadN X0.here hx rfl (hb hby d5_18) rfl rfl ?_
      refine XS.iload X0.here hx rfl (hb hby d5_19) rfl ?_
      exact kt)
  obtain ⟨cl175, Ar175, q175, S175, M175, H175, G175⟩ := id Vm
  have hin175 : ¬ ((0 : Int32) < 0 ∨ cl175.slots.size ≤ ((0 : Int32)).toNatClampNeg) := inb_of S175 ⟨by decide, by decide⟩
  have hat175 : cl175.slots[((0 : Int32)).toNatClampNeg]? = some (.int m0) := H175.at hin175 rfl
  have go176 : own_S p e below ST s₁ (mkF m 22 #[rv o1, rv o2, iv (0 : Int32), rv o2, iv (3 : Int32), iv (0 : Int32), .unset] [(.int m0)]) := fun tt kt => go174 tt (by
      refine X0.iaload hx (j := (0 : Int32)) (v := (.int m0)) (by rw [e0]; exact Ar175.1) (State.isArrayOf_alike hZ.alike Ar175.2.1) Ar175.2.2 hin175 hat175 (g := (mkF m 21 #[rv o1, rv o2, iv (0 : Int32), rv o2, iv (3 : Int32), iv (0 : Int32), .unset] [(.int (0 : Int32)), (.ref o2)])) rfl rfl (hb hby d5_21) _ ?_
      exact kt)
  have go177 : own_S p e below ST s₁ (mkF m 25 #[rv o1, rv o2, iv (0 : Int32), rv o2, iv (3 : Int32), iv (0 : Int32), iv m0] [(.ref o1)]) := fun tt kt => go176 tt (by
      refine XS.istore X0.here hx rfl (hb hby d5_22) rfl (l' := #[rv o1, rv o2, iv (0 : Int32), rv o2, iv (3 : Int32), iv (0 : Int32), iv m0]) rfl ?_
      refine XS.aloadN X0.here hx rfl (hb hby d5_24) rfl rfl ?_
      exact kt)
  obtain ⟨T178, X178, e178, st178⟩ := getF X0 hx hZ hown (host := "") (Or.inl (W 17 rfl)) Via.refl e0 F1 (g := (mkF m 25 #[rv o1, rv o2, iv (0 : Int32), rv o2, iv (3 : Int32), iv (0 : Int32), iv m0] [(.ref o1)])) rfl rfl (hb hby d5_25)
  have go179 : own_S p e below ST T178 (mkF m 28 #[rv o1, rv o2, iv (0 : Int32), rv o2, iv (3 : Int32), iv (0 : Int32), iv m0] [(.ref o3)]) := fun tt kt => go177 tt (st178 _ kt)
  have go180 : own_S p e below ST T178 (mkF m 30 #[rv o1, rv o2, iv (0 : Int32), rv o2, iv (3 : Int32), iv (0 : Int32), iv m0] [(.int m0), (.ref o3)]) := fun tt kt => go179 tt (by
      refine XS.iload X178.here hx rfl (hb hby d5_28) rfl ?_
      exact kt)
  obtain ⟨cl181, Ar181, q181, S181, M181, H181, G181⟩ := id Vf
  have hin181 : ¬ (m0 < 0 ∨ cl181.slots.size ≤ (m0).toNatClampNeg) := inb_of S181 (own_in4 hm0)
  have hat181 : cl181.slots[(m0).toNatClampNeg]? = some (.int (own_pick m0 f0 f1 f2 f3)) := H181.at hin181 (own_at4 f0 f1 f2 f3 hm0)
  have go182 : own_S p e below ST T178 (mkF m 31 #[rv o1, rv o2, iv (0 : Int32), rv o2, iv (3 : Int32), iv (0 : Int32), iv m0] [(.int (own_pick m0 f0 f1 f2 f3))]) := fun tt kt => go180 tt (by
      refine X178.iaload hx (j := m0) (v := (.int (own_pick m0 f0 f1 f2 f3))) (by rw [e178]; exact Ar181.1) (State.isArrayOf_alike hZ.alike Ar181.2.1) Ar181.2.2 hin181 hat181 (g := (mkF m 30 #[rv o1, rv o2, iv (0 : Int32), rv o2, iv (3 : Int32), iv (0 : Int32), iv m0] [(.int m0), (.ref o3)])) rfl rfl (hb hby d5_30) _ ?_
      exact kt)
  have go183 : own_S p e below ST T178 (mkF m 32 #[rv o1, rv o2, iv (0 : Int32), rv o2, iv (3 : Int32), iv (0 : Int32), iv m0] [(.int (1 : Int32)), (.int (own_pick m0 f0 f1 f2 f3))]) := fun tt kt => go182 tt (by
      refine XS.iconst X178.here hx rfl (hb hby d5_31) ?_
      exact kt)
  obtain ⟨c0, hc0, sg184⟩ : ∃ (c0 : Int32), c0 = (if (own_pick m0 f0 f1 f2 f3) = (1 : Int32) then (1 : Int32) else (0 : Int32)) ∧ ∀ tt, Steps p.tables e below (T178.setTop (mkF m 38 #[rv o1, rv o2, iv c0, rv o2, iv (3 : Int32), iv (0 : Int32), iv m0] [])) tt → Steps p.tables e below (T178.setTop (mkF m 32 #[rv o1, rv o2, iv (0 : Int32), rv o2, iv (3 : Int32), iv (0 : Int32), iv m0] [(.int (1 : Int32)), (.int (own_pick m0 f0 f1 f2 f3))])) tt := by
    by_cases hd32_0 : (own_pick m0 f0 f1 f2 f3) = (1 : Int32)
    · refine ⟨_, (if_pos hd32_0).symm, fun tt kt => ?_⟩
      show Steps p.tables e below (T178.setTop (mkF m 32 #[rv o1, rv o2, iv (0 : Int32), rv o2, iv (3 : Int32), iv (0 : Int32), iv m0] [(.int (1 : Int32)), (.int (own_pick m0 f0 f1 f2 f3))])) _
      refine XS.icmpNo X178.here hx rfl (hb hby d5_32) rfl (teq hd32_0).2 ?_
      refine XS.iinc X178.here hx rfl (hb hby d5_35) rfl (l' := #[rv o1, rv o2, iv (1 : Int32), rv o2, iv (3 : Int32), iv (0 : Int32), iv m0]) rfl ?_
      exact kt
    · refine ⟨_, (if_neg hd32_0).symm, fun tt kt => ?_⟩
      show Steps p.tables e below (T178.setTop (mkF m 32 #[rv o1, rv o2, iv (0 : Int32), rv o2, iv (3 : Int32), iv (0 : Int32), iv m0] [(.int (1 : Int32)), (.int (own_pick m0 f0 f1 f2 f3))])) _
      refine XS.icmpYes X178.here hx rfl (pc0 := 32) (pc' := 38) rfl (hb hby d5_32) rfl (feq hd32_0).2 (by decide) (by decide) ?_
      exact kt
  have go185 : own_S p e below ST T178 (mkF m 38 #[rv o1, rv o2, iv c0, rv o2, iv (3 : Int32), iv (0 : Int32), iv m0] []) := fun tt kt => go183 tt (sg184 _ kt)
  have go186 : own_S p e below ST T178 (mkF m 21 #[rv o1, rv o2, iv c0, rv o2, iv (3 : Int32), iv (1 : Int32), iv m0] [(.int (1 : Int32)), (.ref o2)]) := fun tt kt => go185 tt (by
      refine XS.iinc X178.here hx rfl (hb hby d5_38) rfl (l' := #[rv o1, rv o2, iv c0, rv o2, iv (3 : Int32), iv (1 : Int32), iv m0]) rfl ?_
      refine XS.goto X178.here hx rfl (pc0 := 41) (pc' := 11) rfl (hb hby d5_41) (by decide) (by decide) ?_
      refine XS.iload X178.here hx rfl (hb hby d5_11) rfl ?_
      refine XS.iload X178.here hx rfl (hb hby d5_13) rfl ?_
      refine XS.icmpNo X178.here hx rfl (hb hby d5_15) rfl (tlt (by decide : (1 : Int32) < (3 : Int32))).2.1 ?_
      refine XS.aloadN X178.here hx rfl (hb hby d5_18) rfl rfl ?_
      show Steps p.tables e below (T178.setTop (mkF m 19 #[rv o1, rv o2, iv c0, rv o2, iv (3 : Int32), iv (1 : Int32), iv m0] [(.ref o2)])) _
      refine XS.iload X178.here hx rfl (hb hby d5_19) rfl ?_
      exact kt)
  obtain ⟨cl187, Ar187, q187, S187, M187, H187, G187⟩ := id Vm
  have hin187 : ¬ ((1 : Int32) < 0 ∨ cl187.slots.size ≤ ((1 : Int32)).toNatClampNeg) := inb_of S187 ⟨by decide, by decide⟩
  have hat187 : cl187.slots[((1 : Int32)).toNatClampNeg]? = some (.int m1) := H187.at hin187 rfl
  have go188 : own_S p e below ST T178 (mkF m 22 #[rv o1, rv o2, iv c0, rv o2, iv (3 : Int32), iv (1 : Int32), iv m0] [(.int m1)]) := fun tt kt => go186 tt (by
      refine X178.iaload hx (j := (1 : Int32)) (v := (.int m1)) (by rw [e178]; exact Ar187.1) (State.isArrayOf_alike hZ.alike Ar187.2.1) Ar187.2.2 hin187 hat187 (g := (mkF m 21 #[rv o1, rv o2, iv c0, rv o2, iv (3 : Int32), iv (1 : Int32), iv m0] [(.int (1 : Int32)), (.ref o2)])) rfl rfl (hb hby d5_21) _ ?_
      exact kt)
  have go189 : own_S p e below ST T178 (mkF m 25 #[rv o1, rv o2, iv c0, rv o2, iv (3 : Int32), iv (1 : Int32), iv m1] [(.ref o1)]) := fun tt kt => go188 tt (by
      refine XS.istore X178.here hx rfl (hb hby d5_22) rfl (l' := #[rv o1, rv o2, iv c0, rv o2, iv (3 : Int32), iv (1 : Int32), iv m1]) rfl ?_
      refine XS.aloadN X178.here hx rfl (hb hby d5_24) rfl rfl ?_
      exact kt)
  obtain ⟨T190, X190, e190, st190⟩ := getF X178 hx hZ hown (host := "") (Or.inl (W 17 rfl)) Via.refl e178 F1 (g := (mkF m 25 #[rv o1, rv o2, iv c0, rv o2, iv (3 : Int32), iv (1 : Int32), iv m1] [(.ref o1)])) rfl rfl (hb hby d5_25)
  have go191 : own_S p e below ST T190 (mkF m 28 #[rv o1, rv o2, iv c0, rv o2, iv (3 : Int32), iv (1 : Int32), iv m1] [(.ref o3)]) := fun tt kt => go189 tt (st190 _ kt)
  have go192 : own_S p e below ST T190 (mkF m 30 #[rv o1, rv o2, iv c0, rv o2, iv (3 : Int32), iv (1 : Int32), iv m1] [(.int m1), (.ref o3)]) := fun tt kt => go191 tt (by
      refine XS.iload X190.here hx rfl (hb hby d5_28) rfl ?_
      exact kt)
  obtain ⟨cl193, Ar193, q193, S193, M193, H193, G193⟩ := id Vf
  have hin193 : ¬ (m1 < 0 ∨ cl193.slots.size ≤ (m1).toNatClampNeg) := inb_of S193 (own_in4 hm1)
  have hat193 : cl193.slots[(m1).toNatClampNeg]? = some (.int (own_pick m1 f0 f1 f2 f3)) := H193.at hin193 (own_at4 f0 f1 f2 f3 hm1)
  have go194 : own_S p e below ST T190 (mkF m 31 #[rv o1, rv o2, iv c0, rv o2, iv (3 : Int32), iv (1 : Int32), iv m1] [(.int (own_pick m1 f0 f1 f2 f3))]) := fun tt kt => go192 tt (by
      refine X190.iaload hx (j := m1) (v := (.int (own_pick m1 f0 f1 f2 f3))) (by rw [e190]; exact Ar193.1) (State.isArrayOf_alike hZ.alike Ar193.2.1) Ar193.2.2 hin193 hat193 (g := (mkF m 30 #[rv o1, rv o2, iv c0, rv o2, iv (3 : Int32), iv (1 : Int32), iv m1] [(.int m1), (.ref o3)])) rfl rfl (hb hby d5_30) _ ?_
      exact kt)
  have go195 : own_S p e below ST T190 (mkF m 32 #[rv o1, rv o2, iv c0, rv o2, iv (3 : Int32), iv (1 : Int32), iv m1] [(.int (1 : Int32)), (.int (own_pick m1 f0 f1 f2 f3))]) := fun tt kt => go194 tt (by
      refine XS.iconst X190.here hx rfl (hb hby d5_31) ?_
      exact kt)
  obtain ⟨c1, hc1, sg196⟩ : ∃ (c1 : Int32), c1 = (if (own_pick m1 f0 f1 f2 f3) = (1 : Int32) then (c0 + (1 : Int32)) else c0) ∧ ∀ tt, Steps p.tables e below (T190.setTop (mkF m 38 #[rv o1, rv o2, iv c1, rv o2, iv (3 : Int32), iv (1 : Int32), iv m1] [])) tt → Steps p.tables e below (T190.setTop (mkF m 32 #[rv o1, rv o2, iv c0, rv o2, iv (3 : Int32), iv (1 : Int32), iv m1] [(.int (1 : Int32)), (.int (own_pick m1 f0 f1 f2 f3))])) tt := by
    by_cases hd32_0 : (own_pick m1 f0 f1 f2 f3) = (1 : Int32)
    · refine ⟨_, (if_pos hd32_0).symm, fun tt kt => ?_⟩
      show Steps p.tables e below (T190.setTop (mkF m 32 #[rv o1, rv o2, iv c0, rv o2, iv (3 : Int32), iv (1 : Int32), iv m1] [(.int (1 : Int32)), (.int (own_pick m1 f0 f1 f2 f3))])) _
      refine XS.icmpNo X190.here hx rfl (hb hby d5_32) rfl (teq hd32_0).2 ?_
      refine XS.iinc X190.here hx rfl (hb hby d5_35) rfl (l' := #[rv o1, rv o2, iv (c0 + (1 : Int32)), rv o2, iv (3 : Int32), iv (1 : Int32), iv m1]) rfl ?_
      exact kt
    · refine ⟨_, (if_neg hd32_0).symm, fun tt kt => ?_⟩
      show Steps p.tables e below (T190.setTop (mkF m 32 #[rv o1, rv o2, iv c0, rv o2, iv (3 : Int32), iv (1 : Int32), iv m1] [(.int (1 : Int32)), (.int (own_pick m1 f0 f1 f2 f3))])) _
      refine XS.icmpYes X190.here hx rfl (pc0 := 32) (pc' := 38) rfl (hb hby d5_32) rfl (feq hd32_0).2 (by decide) (by decide) ?_
      exact kt
  have go197 : own_S p e below ST T190 (mkF m 38 #[rv o1, rv o2, iv c1, rv o2, iv (3 : Int32), iv (1 : Int32), iv m1] []) := fun tt kt => go195 tt (sg196 _ kt)
  have go198 : own_S p e below ST T190 (mkF m 21 #[rv o1, rv o2, iv c1, rv o2, iv (3 : Int32), iv (2 : Int32), iv m1] [(.int (2 : Int32)), (.ref o2)]) := fun tt kt => go197 tt (by
      refine XS.iinc X190.here hx rfl (hb hby d5_38) rfl (l' := #[rv o1, rv o2, iv c1, rv o2, iv (3 : Int32), iv (2 : Int32), iv m1]) rfl ?_
      refine XS.goto X190.here hx rfl (pc0 := 41) (pc' := 11) rfl (hb hby d5_41) (by decide) (by decide) ?_
      refine XS.iload X190.here hx rfl (hb hby d5_11) rfl ?_
      refine XS.iload X190.here hx rfl (hb hby d5_13) rfl ?_
      refine XS.icmpNo X190.here hx rfl (hb hby d5_15) rfl (tlt (by decide : (2 : Int32) < (3 : Int32))).2.1 ?_
      refine XS.aloadN X190.here hx rfl (hb hby d5_18) rfl rfl ?_
      show Steps p.tables e below (T190.setTop (mkF m 19 #[rv o1, rv o2, iv c1, rv o2, iv (3 : Int32), iv (2 : Int32), iv m1] [(.ref o2)])) _
      refine XS.iload X190.here hx rfl (hb hby d5_19) rfl ?_
      exact kt)
  obtain ⟨cl199, Ar199, q199, S199, M199, H199, G199⟩ := id Vm
  have hin199 : ¬ ((2 : Int32) < 0 ∨ cl199.slots.size ≤ ((2 : Int32)).toNatClampNeg) := inb_of S199 ⟨by decide, by decide⟩
  have hat199 : cl199.slots[((2 : Int32)).toNatClampNeg]? = some (.int m2) := H199.at hin199 rfl
  have go200 : own_S p e below ST T190 (mkF m 22 #[rv o1, rv o2, iv c1, rv o2, iv (3 : Int32), iv (2 : Int32), iv m1] [(.int m2)]) := fun tt kt => go198 tt (by
      refine X190.iaload hx (j := (2 : Int32)) (v := (.int m2)) (by rw [e190]; exact Ar199.1) (State.isArrayOf_alike hZ.alike Ar199.2.1) Ar199.2.2 hin199 hat199 (g := (mkF m 21 #[rv o1, rv o2, iv c1, rv o2, iv (3 : Int32), iv (2 : Int32), iv m1] [(.int (2 : Int32)), (.ref o2)])) rfl rfl (hb hby d5_21) _ ?_
      exact kt)
  have go201 : own_S p e below ST T190 (mkF m 25 #[rv o1, rv o2, iv c1, rv o2, iv (3 : Int32), iv (2 : Int32), iv m2] [(.ref o1)]) := fun tt kt => go200 tt (by
      refine XS.istore X190.here hx rfl (hb hby d5_22) rfl (l' := #[rv o1, rv o2, iv c1, rv o2, iv (3 : Int32), iv (2 : Int32), iv m2]) rfl ?_
      refine XS.aloadN X190.here hx rfl (hb hby d5_24) rfl rfl ?_
      exact kt)
  obtain ⟨T202, X202, e202, st202⟩ := getF X190 hx hZ hown (host := "") (Or.inl (W 17 rfl)) Via.refl e190 F1 (g := (mkF m 25 #[rv o1, rv o2, iv c1, rv o2, iv (3 : Int32), iv (2 : Int32), iv m2] [(.ref o1)])) rfl rfl (hb hby d5_25)
  have go203 : own_S p e below ST T202 (mkF m 28 #[rv o1, rv o2, iv c1, rv o2, iv (3 : Int32), iv (2 : Int32), iv m2] [(.ref o3)]) := fun tt kt => go201 tt (st202 _ kt)
  have go204 : own_S p e below ST T202 (mkF m 30 #[rv o1, rv o2, iv c1, rv o2, iv (3 : Int32), iv (2 : Int32), iv m2] [(.int m2), (.ref o3)]) := fun tt kt => go203 tt (by
      refine XS.iload X202.here hx rfl (hb hby d5_28) rfl ?_
      exact kt)
  obtain ⟨cl205, Ar205, q205, S205, M205, H205, G205⟩ := id Vf
  have hin205 : ¬ (m2 < 0 ∨ cl205.slots.size ≤ (m2).toNatClampNeg) := inb_of S205 (own_in4 hm2)
  have hat205 : cl205.slots[(m2).toNatClampNeg]? = some (.int (own_pick m2 f0 f1 f2 f3)) := H205.at hin205 (own_at4 f0 f1 f2 f3 hm2)
  have go206 : own_S p e below ST T202 (mkF m 31 #[rv o1, rv o2, iv c1, rv o2, iv (3 : Int32), iv (2 : Int32), iv m2] [(.int (own_pick m2 f0 f1 f2 f3))]) := fun tt kt => go204 tt (by
      refine X202.iaload hx (j := m2) (v := (.int (own_pick m2 f0 f1 f2 f3))) (by rw [e202]; exact Ar205.1) (State.isArrayOf_alike hZ.alike Ar205.2.1) Ar205.2.2 hin205 hat205 (g := (mkF m 30 #[rv o1, rv o2, iv c1, rv o2, iv (3 : Int32), iv (2 : Int32), iv m2] [(.int m2), (.ref o3)])) rfl rfl (hb hby d5_30) _ ?_
      exact kt)
  have go207 : own_S p e below ST T202 (mkF m 32 #[rv o1, rv o2, iv c1, rv o2, iv (3 : Int32), iv (2 : Int32), iv m2] [(.int (1 : Int32)), (.int (own_pick m2 f0 f1 f2 f3))]) := fun tt kt => go206 tt (by
      refine XS.iconst X202.here hx rfl (hb hby d5_31) ?_
      exact kt)
  obtain ⟨c2, hc2, sg208⟩ : ∃ (c2 : Int32), c2 = (if (own_pick m2 f0 f1 f2 f3) = (1 : Int32) then (c1 + (1 : Int32)) else c1) ∧ ∀ tt, Steps p.tables e below (T202.setTop (mkF m 38 #[rv o1, rv o2, iv c2, rv o2, iv (3 : Int32), iv (2 : Int32), iv m2] [])) tt → Steps p.tables e below (T202.setTop (mkF m 32 #[rv o1, rv o2, iv c1, rv o2, iv (3 : Int32), iv (2 : Int32), iv m2] [(.int (1 : Int32)), (.int (own_pick m2 f0 f1 f2 f3))])) tt := by
    by_cases hd32_0 : (own_pick m2 f0 f1 f2 f3) = (1 : Int32)
    · refine ⟨_, (if_pos hd32_0).symm, fun tt kt => ?_⟩
      show Steps p.tables e below (T202.setTop (mkF m 32 #[rv o1, rv o2, iv c1, rv o2, iv (3 : Int32), iv (2 : Int32), iv m2] [(.int (1 : Int32)), (.int (own_pick m2 f0 f1 f2 f3))])) _
      refine XS.icmpNo X202.here hx rfl (hb hby d5_32) rfl (teq hd32_0).2 ?_
      refine XS.iinc X202.here hx rfl (hb hby d5_35) rfl (l' := #[rv o1, rv o2, iv (c1 + (1 : Int32)), rv o2, iv (3 : Int32), iv (2 : Int32), iv m2]) rfl ?_
      exact kt
    · refine ⟨_, (if_neg hd32_0).symm, fun tt kt => ?_⟩
      show Steps p.tables e below (T202.setTop (mkF m 32 #[rv o1, rv o2, iv c1, rv o2, iv (3 : Int32), iv (2 : Int32), iv m2] [(.int (1 : Int32)), (.int (own_pick m2 f0 f1 f2 f3))])) _
      refine XS.icmpYes X202.here hx rfl (pc0 := 32) (pc' := 38) rfl (hb hby d5_32) rfl (feq hd32_0).2 (by decide) (by decide) ?_
      exact kt
  have go209 : own_S p e below ST T202 (mkF m 38 #[rv o1, rv o2, iv c2, rv o2, iv (3 : Int32), iv (2 : Int32), iv m2] []) := fun tt kt => go207 tt (sg208 _ kt)
  have go210 : own_S p e below ST T202 (mkF m 45 #[rv o1, rv o2, iv c2, rv o2, iv (3 : Int32), iv (3 : Int32), iv m2] [(.int c2)]) := fun tt kt => go209 tt (by
      refine XS.iinc X202.here hx rfl (hb hby d5_38) rfl (l' := #[rv o1, rv o2, iv c2, rv o2, iv (3 : Int32), iv (3 : Int32), iv m2]) rfl ?_
      refine XS.goto X202.here hx rfl (pc0 := 41) (pc' := 11) rfl (hb hby d5_41) (by decide) (by decide) ?_
      refine XS.iload X202.here hx rfl (hb hby d5_11) rfl ?_
      refine XS.iload X202.here hx rfl (hb hby d5_13) rfl ?_
      refine XS.icmpYes X202.here hx rfl (pc0 := 15) (pc' := 44) rfl (hb hby d5_15) rfl (flt (by decide : ¬ ((3 : Int32) < (3 : Int32)))).2.1 (by decide) (by decide) ?_
      refine XS.iloadN X202.here hx rfl (hb hby d5_44) rfl ?_
      exact kt)
  obtain ⟨fs, hr, hrun, hended, hW, hsame⟩ := X202.leave (v := some (.int c2)) (fun h => by rw [Bd.returns] at h; cases h)
  refine ⟨_, _, pre0 _ (go210 _ ?_), hrun, hended, _, _, rfl, ?_, ⟨_, rfl⟩, hW, hsame.mono (by decide) (by decide)⟩
  · exact retI X202 hx Bd.returns (hb hby d5_45) hr
  · show Q5k3 Z o1 o2 o3 kf km f0 f1 f2 f3 m0 m1 m2 h0 n0 _ T202.heap _
    rw [e202]
    exact ⟨(by rw [hc2, hc1, hc0]; rfl), N0, rfl⟩
theorem ef5k4 (m : MethodId) (x0 : Addr) (x1 : Addr) : entryFrame m #[(.ref x0), (.ref x1)] 7 = mkF m 0 #[.val (.ref x0), .val (.ref x1), .unset, .unset, .unset, .unset, .unset] [] := by first | (simp [entryFrame, mkF, argsToLocals, Value.category]; done) | rfl
def Q5k4 (Z : State) (o1 : Addr) (o2 : Addr) (o3 : Addr) (kf : ClassId) (km : ClassId) (f0 : Int32) (f1 : Int32) (f2 : Int32) (f3 : Int32) (m0 : Int32) (m1 : Int32) (m2 : Int32) (m3 : Int32) (h0 : Heap) (n0 : Nat) (v : Option Value) (h : Heap) (L : List Loc) : Prop := v = some (.int (own_add (own_add (own_add (own_add 0 (own_pick m0 f0 f1 f2 f3)) (own_pick m1 f0 f1 f2 f3)) (own_pick m2 f0 f1 f2 f3)) (own_pick m3 f0 f1 f2 f3))) ∧ Fr n0 L ∧ h = h0
set_option maxRecDepth 65536 in
set_option maxHeartbeats 40000000 in
theorem rm5k4 (l : Launch) (Z : State) (a0 : Array Value) (hw : ∀ d ∈ tables_1, d.before a0 Z = true) (ws : List Jvm.Cond) (o1 : Addr) (o2 : Addr) (o3 : Addr) (kf : ClassId) (km : ClassId) (f0 : Int32) (f1 : Int32) (f2 : Int32) (f3 : Int32) (m0 : Int32) (m1 : Int32) (m2 : Int32) (m3 : Int32) (h0 : Heap) (n0 : Nat) (Z0 : n0 ≤ h0.size) (F1 : Fld Z h0 o1 "com/example/declination/declination/engine/Nsga2$Ranks" "front" "[I" (.ref o3)) (Vf : Arv Z h0 o3 kf .int (4 : Int32) [(.int f0), (.int f1), (.int f2), (.int f3)] (.int (0 : Int32))) (Vm : Arv Z h0 o2 km .int (4 : Int32) [(.int m0), (.int m1), (.int m2), (.int m3)] (.int (0 : Int32))) (hm0 : m0 = 0 ∨ m0 = 1 ∨ m0 = 2 ∨ m0 = 3) (hm1 : m1 = 0 ∨ m1 = 1 ∨ m1 = 2 ∨ m1 = 3) (hm2 : m2 = 0 ∨ m2 = 1 ∨ m2 = 2 ∨ m2 = 3) (hm3 : m3 = 0 ∨ m3 = 1 ∨ m3 = 2 ∨ m3 = 3) :
    MetFree l (⟨"com/example/declination/declination/engine/Nsga2$Ranks", "nondominated", "([I)I"⟩ : MethodName) (head1 (Jvm.Cond.code (⟨"com/example/declination/declination/engine/Nsga2$Ranks", "nondominated", "([I)I"⟩ : MethodName) prog_9_method_5_code 7 (some .int) :: ws) ({ frames := 0, cells := 0, slots := 0, locals := 0 } : Room)) (fun aa UU => aa = #[(.ref o1), (.ref o2)] ∧ Z.Warmed39 UU.vm ∧ UU.heap = h0) (fun _ _ _ _ _ => True) (fun _ UU oo UU' => ∃ vv LL, oo = .returned vv ∧ Q5k4 Z o1 o2 o3 kf km f0 f1 f2 f3 m0 m1 m2 m3 h0 n0 vv UU'.heap LL ∧ FrameEnd UU oo UU' LL ({ frames := 0, cells := 0, slots := 0, locals := 0 } : Room).cells ({ frames := 0, cells := 0, slots := 0, locals := 0 } : Room).slots) := by
  have W : ∀ {d : Jvm.Cond} (i : Nat), tables_1[i]? = some d → d.before a0 Z = true := fun i h => hw _ (List.mem_of_getElem? h)
  refine MetFree.of_bodySF (plainFor_of_name pn4) hisR ?_
  intro p e s m args below meth c s₁ Bd hml0 hP hK
  obtain ⟨rfl, hZ, hh⟩ := hP
  have hx := Bd.exec
  have hby := Bd.bytes
  have hml : c.maxLocals = 7 := hml0
  have hown : s.vm.findClass "com/example/declination/declination/engine/Nsga2$Ranks" = some m.cls := findClass_of_methodNamed Bd.named
  have hnm := (name_of_methodNamed Bd.named Bd.method).1
  have X0 : Stand p l e ({ frames := 0, cells := 0, slots := 0, locals := 0 } : Room) s m #[(.ref o1), (.ref o2)] below meth c s₁ [] 0 0 := Stand.of_body Bd
  have e0 : s₁.heap = h0 := by rw [← hh, Bd.state]; rfl
  have N0 := Fr.nil n0
  have pre0 : ∀ tt, Steps p.tables e below (s₁.setTop (mkF m 0 #[rv o1, rv o2, .unset, .unset, .unset, .unset, .unset] [])) tt → Steps p.tables e below (s₁.setTop (entryFrame m #[(.ref o1), (.ref o2)] 7)) tt := fun tt kt => castTop (ef5k4 m o1 o2) kt
  obtain ⟨ST, hST⟩ : ∃ z : State, z = s₁.setTop (mkF m 0 #[rv o1, rv o2, .unset, .unset, .unset, .unset, .unset] []) := ⟨_, rfl⟩
  rw [← hST] at pre0
  have go211 : own_S p e below ST s₁ (mkF m 5 #[rv o1, rv o2, iv (0 : Int32), rv o2, .unset, .unset, .unset] [(.ref o2)]) := fun tt kt => (by
      rw [hST]
      show Steps p.tables e below (s₁.setTop (mkF m 0 #[rv o1, rv o2, .unset, .unset, .unset, .unset, .unset] [])) _
      refine XS.iconst X0.here hx rfl (hb hby d5_0) ?_
      refine XS.istoreN X0.here hx rfl (hb hby d5_1) rfl (l' := #[rv o1, rv o2, iv (0 : Int32), .unset, .unset, .unset, .unset]) rfl ?_
      refine XS.aloadN X0.here hx rfl (hb hby d5_2) rfl rfl ?_
      refine XS.astoreN X0.here hx rfl (hb hby d5_3) rfl rfl (l' := #[rv o1, rv o2, iv (0 : Int32), rv o2, .unset, .unset, .unset]) rfl ?_
      refine XS.aloadN X0.here hx rfl (hb hby d5_4) rfl rfl ?_
      exact kt)
  obtain ⟨cl212, Ar212, q212, S212, M212, H212, G212⟩ := id Vm
  have go213 : own_S p e below ST s₁ (mkF m 6 #[rv o1, rv o2, iv (0 : Int32), rv o2, .unset, .unset, .unset] [(.int (4 : Int32))]) := fun tt kt => go211 tt (by
      refine X0.arraylength hx (by rw [e0]; exact Ar212.1) (State.isArrayOf_alike hZ.alike Ar212.2.1) (g := (mkF m 5 #[rv o1, rv o2, iv (0 : Int32), rv o2, .unset, .unset, .unset] [(.ref o2)])) rfl rfl (hb hby d5_5) _ ?_
      rw [len_of S212 M212]
      exact kt)
  have go214 : own_S p e below ST s₁ (mkF m 21 #[rv o1, rv o2, iv (0 : Int32), rv o2, iv (4 : Int32), iv (0 : Int32), .unset] [(.int (0 : Int32)), (.ref o2)]) := fun tt kt => go213 tt (by
      refine XS.istore X0.here hx rfl (hb hby d5_6) rfl (l' := #[rv o1, rv o2, iv (0 : Int32), rv o2, iv (4 : Int32), .unset, .unset]) rfl ?_
      refine XS.iconst X0.here hx rfl (hb hby d5_8) ?_
      refine XS.istore X0.here hx rfl (hb hby d5_9) rfl (l' := #[rv o1, rv o2, iv (0 : Int32), rv o2, iv (4 : Int32), iv (0 : Int32), .unset]) rfl ?_
      refine XS.iload X0.here hx rfl (hb hby d5_11) rfl ?_
      refine XS.iload X0.here hx rfl (hb hby d5_13) rfl ?_
      refine XS.icmpNo X0.here hx rfl (hb hby d5_15) rfl (tlt (by decide : (0 : Int32) < (4 : Int32))).2.1 ?_
      show Steps p.tables e below (s₁.setTop (mkF m 18 #[rv o1, rv o2, iv (0 : Int32), rv o2, iv (4 : Int32), iv (0 : Int32), .unset] [])) _
      refine XS.aloadN X0.here hx rfl (hb hby d5_18) rfl rfl ?_
      refine XS.iload X0.here hx rfl (hb hby d5_19) rfl ?_
      exact kt)
  obtain ⟨cl215, Ar215, q215, S215, M215, H215, G215⟩ := id Vm
  have hin215 : ¬ ((0 : Int32) < 0 ∨ cl215.slots.size ≤ ((0 : Int32)).toNatClampNeg) := inb_of S215 ⟨by decide, by decide⟩
  have hat215 : cl215.slots[((0 : Int32)).toNatClampNeg]? = some (.int m0) := H215.at hin215 rfl
  have go216 : own_S p e below ST s₁ (mkF m 22 #[rv o1, rv o2, iv (0 : Int32), rv o2, iv (4 : Int32), iv (0 : Int32), .unset] [(.int m0)]) := fun tt kt => go214 tt (by
      refine X0.iaload hx (j := (0 : Int32)) (v := (.int m0)) (by rw [e0]; exact Ar215.1) (State.isArrayOf_alike hZ.alike Ar215.2.1) Ar215.2.2 hin215 hat215 (g := (mkF m 21 #[rv o1, rv o2, iv (0 : Int32), rv o2, iv (4 : Int32), iv (0 : Int32), .unset] [(.int (0 : Int32)), (.ref o2)])) rfl rfl (hb hby d5_21) _ ?_
      exact kt)
  have go217 : own_S p e below ST s₁ (mkF m 25 #[rv o1, rv o2, iv (0 : Int32), rv o2, iv (4 : Int32), iv (0 : Int32), iv m0] [(.ref o1)]) := fun tt kt => go216 tt (by
      refine XS.istore X0.here hx rfl (hb hby d5_22) rfl (l' := #[rv o1, rv o2, iv (0 : Int32), rv o2, iv (4 : Int32), iv (0 : Int32), iv m0]) rfl ?_
      refine XS.aloadN X0.here hx rfl (hb hby d5_24) rfl rfl ?_
      exact kt)
  obtain ⟨T218, X218, e218, st218⟩ := getF X0 hx hZ hown (host := "") (Or.inl (W 17 rfl)) Via.refl e0 F1 (g := (mkF m 25 #[rv o1, rv o2, iv (0 : Int32), rv o2, iv (4 : Int32), iv (0 : Int32), iv m0] [(.ref o1)])) rfl rfl (hb hby d5_25)
  have go219 : own_S p e below ST T218 (mkF m 28 #[rv o1, rv o2, iv (0 : Int32), rv o2, iv (4 : Int32), iv (0 : Int32), iv m0] [(.ref o3)]) := fun tt kt => go217 tt (st218 _ kt)
  have go220 : own_S p e below ST T218 (mkF m 30 #[rv o1, rv o2, iv (0 : Int32), rv o2, iv (4 : Int32), iv (0 : Int32), iv m0] [(.int m0), (.ref o3)]) := fun tt kt => go219 tt (by
      refine XS.iload X218.here hx rfl (hb hby d5_28) rfl ?_
      exact kt)
  obtain ⟨cl221, Ar221, q221, S221, M221, H221, G221⟩ := id Vf
  have hin221 : ¬ (m0 < 0 ∨ cl221.slots.size ≤ (m0).toNatClampNeg) := inb_of S221 (own_in4 hm0)
  have hat221 : cl221.slots[(m0).toNatClampNeg]? = some (.int (own_pick m0 f0 f1 f2 f3)) := H221.at hin221 (own_at4 f0 f1 f2 f3 hm0)
  have go222 : own_S p e below ST T218 (mkF m 31 #[rv o1, rv o2, iv (0 : Int32), rv o2, iv (4 : Int32), iv (0 : Int32), iv m0] [(.int (own_pick m0 f0 f1 f2 f3))]) := fun tt kt => go220 tt (by
      refine X218.iaload hx (j := m0) (v := (.int (own_pick m0 f0 f1 f2 f3))) (by rw [e218]; exact Ar221.1) (State.isArrayOf_alike hZ.alike Ar221.2.1) Ar221.2.2 hin221 hat221 (g := (mkF m 30 #[rv o1, rv o2, iv (0 : Int32), rv o2, iv (4 : Int32), iv (0 : Int32), iv m0] [(.int m0), (.ref o3)])) rfl rfl (hb hby d5_30) _ ?_
      exact kt)
  have go223 : own_S p e below ST T218 (mkF m 32 #[rv o1, rv o2, iv (0 : Int32), rv o2, iv (4 : Int32), iv (0 : Int32), iv m0] [(.int (1 : Int32)), (.int (own_pick m0 f0 f1 f2 f3))]) := fun tt kt => go222 tt (by
      refine XS.iconst X218.here hx rfl (hb hby d5_31) ?_
      exact kt)
  obtain ⟨c0, hc0, sg224⟩ : ∃ (c0 : Int32), c0 = (if (own_pick m0 f0 f1 f2 f3) = (1 : Int32) then (1 : Int32) else (0 : Int32)) ∧ ∀ tt, Steps p.tables e below (T218.setTop (mkF m 38 #[rv o1, rv o2, iv c0, rv o2, iv (4 : Int32), iv (0 : Int32), iv m0] [])) tt → Steps p.tables e below (T218.setTop (mkF m 32 #[rv o1, rv o2, iv (0 : Int32), rv o2, iv (4 : Int32), iv (0 : Int32), iv m0] [(.int (1 : Int32)), (.int (own_pick m0 f0 f1 f2 f3))])) tt := by
    by_cases hd32_0 : (own_pick m0 f0 f1 f2 f3) = (1 : Int32)
    · refine ⟨_, (if_pos hd32_0).symm, fun tt kt => ?_⟩
      show Steps p.tables e below (T218.setTop (mkF m 32 #[rv o1, rv o2, iv (0 : Int32), rv o2, iv (4 : Int32), iv (0 : Int32), iv m0] [(.int (1 : Int32)), (.int (own_pick m0 f0 f1 f2 f3))])) _
      refine XS.icmpNo X218.here hx rfl (hb hby d5_32) rfl (teq hd32_0).2 ?_
      refine XS.iinc X218.here hx rfl (hb hby d5_35) rfl (l' := #[rv o1, rv o2, iv (1 : Int32), rv o2, iv (4 : Int32), iv (0 : Int32), iv m0]) rfl ?_
      exact kt
    · refine ⟨_, (if_neg hd32_0).symm, fun tt kt => ?_⟩
      show Steps p.tables e below (T218.setTop (mkF m 32 #[rv o1, rv o2, iv (0 : Int32), rv o2, iv (4 : Int32), iv (0 : Int32), iv m0] [(.int (1 : Int32)), (.int (own_pick m0 f0 f1 f2 f3))])) _
      refine XS.icmpYes X218.here hx rfl (pc0 := 32) (pc' := 38) rfl (hb hby d5_32) rfl (feq hd32_0).2 (by decide) (by decide) ?_
      exact kt
  have go225 : own_S p e below ST T218 (mkF m 38 #[rv o1, rv o2, iv c0, rv o2, iv (4 : Int32), iv (0 : Int32), iv m0] []) := fun tt kt => go223 tt (sg224 _ kt)
  have go226 : own_S p e below ST T218 (mkF m 21 #[rv o1, rv o2, iv c0, rv o2, iv (4 : Int32), iv (1 : Int32), iv m0] [(.int (1 : Int32)), (.ref o2)]) := fun tt kt => go225 tt (by
      refine XS.iinc X218.here hx rfl (hb hby d5_38) rfl (l' := #[rv o1, rv o2, iv c0, rv o2, iv (4 : Int32), iv (1 : Int32), iv m0]) rfl ?_
      refine XS.goto X218.here hx rfl (pc0 := 41) (pc' := 11) rfl (hb hby d5_41) (by decide) (by decide) ?_
      refine XS.iload X218.here hx rfl (hb hby d5_11) rfl ?_
      refine XS.iload X218.here hx rfl (hb hby d5_13) rfl ?_
      refine XS.icmpNo X218.here hx rfl (hb hby d5_15) rfl (tlt (by decide : (1 : Int32) < (4 : Int32))).2.1 ?_
      refine XS.aloadN X218.here hx rfl (hb hby d5_18) rfl rfl ?_
      show Steps p.tables e below (T218.setTop (mkF m 19 #[rv o1, rv o2, iv c0, rv o2, iv (4 : Int32), iv (1 : Int32), iv m0] [(.ref o2)])) _
      refine XS.iload X218.here hx rfl (hb hby d5_19) rfl ?_
      exact kt)
  obtain ⟨cl227, Ar227, q227, S227, M227, H227, G227⟩ := id Vm
  have hin227 : ¬ ((1 : Int32) < 0 ∨ cl227.slots.size ≤ ((1 : Int32)).toNatClampNeg) := inb_of S227 ⟨by decide, by decide⟩
  have hat227 : cl227.slots[((1 : Int32)).toNatClampNeg]? = some (.int m1) := H227.at hin227 rfl
  have go228 : own_S p e below ST T218 (mkF m 22 #[rv o1, rv o2, iv c0, rv o2, iv (4 : Int32), iv (1 : Int32), iv m0] [(.int m1)]) := fun tt kt => go226 tt (by
      refine X218.iaload hx (j := (1 : Int32)) (v := (.int m1)) (by rw [e218]; exact Ar227.1) (State.isArrayOf_alike hZ.alike Ar227.2.1) Ar227.2.2 hin227 hat227 (g := (mkF m 21 #[rv o1, rv o2, iv c0, rv o2, iv (4 : Int32), iv (1 : Int32), iv m0] [(.int (1 : Int32)), (.ref o2)])) rfl rfl (hb hby d5_21) _ ?_
      exact kt)
  have go229 : own_S p e below ST T218 (mkF m 25 #[rv o1, rv o2, iv c0, rv o2, iv (4 : Int32), iv (1 : Int32), iv m1] [(.ref o1)]) := fun tt kt => go228 tt (by
      refine XS.istore X218.here hx rfl (hb hby d5_22) rfl (l' := #[rv o1, rv o2, iv c0, rv o2, iv (4 : Int32), iv (1 : Int32), iv m1]) rfl ?_
      refine XS.aloadN X218.here hx rfl (hb hby d5_24) rfl rfl ?_
      exact kt)
  obtain ⟨T230, X230, e230, st230⟩ := getF X218 hx hZ hown (host := "") (Or.inl (W 17 rfl)) Via.refl e218 F1 (g := (mkF m 25 #[rv o1, rv o2, iv c0, rv o2, iv (4 : Int32), iv (1 : Int32), iv m1] [(.ref o1)])) rfl rfl (hb hby d5_25)
  have go231 : own_S p e below ST T230 (mkF m 28 #[rv o1, rv o2, iv c0, rv o2, iv (4 : Int32), iv (1 : Int32), iv m1] [(.ref o3)]) := fun tt kt => go229 tt (st230 _ kt)
  have go232 : own_S p e below ST T230 (mkF m 30 #[rv o1, rv o2, iv c0, rv o2, iv (4 : Int32), iv (1 : Int32), iv m1] [(.int m1), (.ref o3)]) := fun tt kt => go231 tt (by
      refine XS.iload X230.here hx rfl (hb hby d5_28) rfl ?_
      exact kt)
  obtain ⟨cl233, Ar233, q233, S233, M233, H233, G233⟩ := id Vf
  have hin233 : ¬ (m1 < 0 ∨ cl233.slots.size ≤ (m1).toNatClampNeg) := inb_of S233 (own_in4 hm1)
  have hat233 : cl233.slots[(m1).toNatClampNeg]? = some (.int (own_pick m1 f0 f1 f2 f3)) := H233.at hin233 (own_at4 f0 f1 f2 f3 hm1)
  have go234 : own_S p e below ST T230 (mkF m 31 #[rv o1, rv o2, iv c0, rv o2, iv (4 : Int32), iv (1 : Int32), iv m1] [(.int (own_pick m1 f0 f1 f2 f3))]) := fun tt kt => go232 tt (by
      refine X230.iaload hx (j := m1) (v := (.int (own_pick m1 f0 f1 f2 f3))) (by rw [e230]; exact Ar233.1) (State.isArrayOf_alike hZ.alike Ar233.2.1) Ar233.2.2 hin233 hat233 (g := (mkF m 30 #[rv o1, rv o2, iv c0, rv o2, iv (4 : Int32), iv (1 : Int32), iv m1] [(.int m1), (.ref o3)])) rfl rfl (hb hby d5_30) _ ?_
      exact kt)
  have go235 : own_S p e below ST T230 (mkF m 32 #[rv o1, rv o2, iv c0, rv o2, iv (4 : Int32), iv (1 : Int32), iv m1] [(.int (1 : Int32)), (.int (own_pick m1 f0 f1 f2 f3))]) := fun tt kt => go234 tt (by
      refine XS.iconst X230.here hx rfl (hb hby d5_31) ?_
      exact kt)
  obtain ⟨c1, hc1, sg236⟩ : ∃ (c1 : Int32), c1 = (if (own_pick m1 f0 f1 f2 f3) = (1 : Int32) then (c0 + (1 : Int32)) else c0) ∧ ∀ tt, Steps p.tables e below (T230.setTop (mkF m 38 #[rv o1, rv o2, iv c1, rv o2, iv (4 : Int32), iv (1 : Int32), iv m1] [])) tt → Steps p.tables e below (T230.setTop (mkF m 32 #[rv o1, rv o2, iv c0, rv o2, iv (4 : Int32), iv (1 : Int32), iv m1] [(.int (1 : Int32)), (.int (own_pick m1 f0 f1 f2 f3))])) tt := by
    by_cases hd32_0 : (own_pick m1 f0 f1 f2 f3) = (1 : Int32)
    · refine ⟨_, (if_pos hd32_0).symm, fun tt kt => ?_⟩
      show Steps p.tables e below (T230.setTop (mkF m 32 #[rv o1, rv o2, iv c0, rv o2, iv (4 : Int32), iv (1 : Int32), iv m1] [(.int (1 : Int32)), (.int (own_pick m1 f0 f1 f2 f3))])) _
      refine XS.icmpNo X230.here hx rfl (hb hby d5_32) rfl (teq hd32_0).2 ?_
      refine XS.iinc X230.here hx rfl (hb hby d5_35) rfl (l' := #[rv o1, rv o2, iv (c0 + (1 : Int32)), rv o2, iv (4 : Int32), iv (1 : Int32), iv m1]) rfl ?_
      exact kt
    · refine ⟨_, (if_neg hd32_0).symm, fun tt kt => ?_⟩
      show Steps p.tables e below (T230.setTop (mkF m 32 #[rv o1, rv o2, iv c0, rv o2, iv (4 : Int32), iv (1 : Int32), iv m1] [(.int (1 : Int32)), (.int (own_pick m1 f0 f1 f2 f3))])) _
      refine XS.icmpYes X230.here hx rfl (pc0 := 32) (pc' := 38) rfl (hb hby d5_32) rfl (feq hd32_0).2 (by decide) (by decide) ?_
      exact kt
  have go237 : own_S p e below ST T230 (mkF m 38 #[rv o1, rv o2, iv c1, rv o2, iv (4 : Int32), iv (1 : Int32), iv m1] []) := fun tt kt => go235 tt (sg236 _ kt)
  have go238 : own_S p e below ST T230 (mkF m 21 #[rv o1, rv o2, iv c1, rv o2, iv (4 : Int32), iv (2 : Int32), iv m1] [(.int (2 : Int32)), (.ref o2)]) := fun tt kt => go237 tt (by
      refine XS.iinc X230.here hx rfl (hb hby d5_38) rfl (l' := #[rv o1, rv o2, iv c1, rv o2, iv (4 : Int32), iv (2 : Int32), iv m1]) rfl ?_
      refine XS.goto X230.here hx rfl (pc0 := 41) (pc' := 11) rfl (hb hby d5_41) (by decide) (by decide) ?_
      refine XS.iload X230.here hx rfl (hb hby d5_11) rfl ?_
      refine XS.iload X230.here hx rfl (hb hby d5_13) rfl ?_
      refine XS.icmpNo X230.here hx rfl (hb hby d5_15) rfl (tlt (by decide : (2 : Int32) < (4 : Int32))).2.1 ?_
      refine XS.aloadN X230.here hx rfl (hb hby d5_18) rfl rfl ?_
      show Steps p.tables e below (T230.setTop (mkF m 19 #[rv o1, rv o2, iv c1, rv o2, iv (4 : Int32), iv (2 : Int32), iv m1] [(.ref o2)])) _
      refine XS.iload X230.here hx rfl (hb hby d5_19) rfl ?_
      exact kt)
  obtain ⟨cl239, Ar239, q239, S239, M239, H239, G239⟩ := id Vm
  have hin239 : ¬ ((2 : Int32) < 0 ∨ cl239.slots.size ≤ ((2 : Int32)).toNatClampNeg) := inb_of S239 ⟨by decide, by decide⟩
  have hat239 : cl239.slots[((2 : Int32)).toNatClampNeg]? = some (.int m2) := H239.at hin239 rfl
  have go240 : own_S p e below ST T230 (mkF m 22 #[rv o1, rv o2, iv c1, rv o2, iv (4 : Int32), iv (2 : Int32), iv m1] [(.int m2)]) := fun tt kt => go238 tt (by
      refine X230.iaload hx (j := (2 : Int32)) (v := (.int m2)) (by rw [e230]; exact Ar239.1) (State.isArrayOf_alike hZ.alike Ar239.2.1) Ar239.2.2 hin239 hat239 (g := (mkF m 21 #[rv o1, rv o2, iv c1, rv o2, iv (4 : Int32), iv (2 : Int32), iv m1] [(.int (2 : Int32)), (.ref o2)])) rfl rfl (hb hby d5_21) _ ?_
      exact kt)
  have go241 : own_S p e below ST T230 (mkF m 25 #[rv o1, rv o2, iv c1, rv o2, iv (4 : Int32), iv (2 : Int32), iv m2] [(.ref o1)]) := fun tt kt => go240 tt (by
      refine XS.istore X230.here hx rfl (hb hby d5_22) rfl (l' := #[rv o1, rv o2, iv c1, rv o2, iv (4 : Int32), iv (2 : Int32), iv m2]) rfl ?_
      refine XS.aloadN X230.here hx rfl (hb hby d5_24) rfl rfl ?_
      exact kt)
  obtain ⟨T242, X242, e242, st242⟩ := getF X230 hx hZ hown (host := "") (Or.inl (W 17 rfl)) Via.refl e230 F1 (g := (mkF m 25 #[rv o1, rv o2, iv c1, rv o2, iv (4 : Int32), iv (2 : Int32), iv m2] [(.ref o1)])) rfl rfl (hb hby d5_25)
  have go243 : own_S p e below ST T242 (mkF m 28 #[rv o1, rv o2, iv c1, rv o2, iv (4 : Int32), iv (2 : Int32), iv m2] [(.ref o3)]) := fun tt kt => go241 tt (st242 _ kt)
  have go244 : own_S p e below ST T242 (mkF m 30 #[rv o1, rv o2, iv c1, rv o2, iv (4 : Int32), iv (2 : Int32), iv m2] [(.int m2), (.ref o3)]) := fun tt kt => go243 tt (by
      refine XS.iload X242.here hx rfl (hb hby d5_28) rfl ?_
      exact kt)
  obtain ⟨cl245, Ar245, q245, S245, M245, H245, G245⟩ := id Vf
  have hin245 : ¬ (m2 < 0 ∨ cl245.slots.size ≤ (m2).toNatClampNeg) := inb_of S245 (own_in4 hm2)
  have hat245 : cl245.slots[(m2).toNatClampNeg]? = some (.int (own_pick m2 f0 f1 f2 f3)) := H245.at hin245 (own_at4 f0 f1 f2 f3 hm2)
  have go246 : own_S p e below ST T242 (mkF m 31 #[rv o1, rv o2, iv c1, rv o2, iv (4 : Int32), iv (2 : Int32), iv m2] [(.int (own_pick m2 f0 f1 f2 f3))]) := fun tt kt => go244 tt (by
      refine X242.iaload hx (j := m2) (v := (.int (own_pick m2 f0 f1 f2 f3))) (by rw [e242]; exact Ar245.1) (State.isArrayOf_alike hZ.alike Ar245.2.1) Ar245.2.2 hin245 hat245 (g := (mkF m 30 #[rv o1, rv o2, iv c1, rv o2, iv (4 : Int32), iv (2 : Int32), iv m2] [(.int m2), (.ref o3)])) rfl rfl (hb hby d5_30) _ ?_
      exact kt)
  have go247 : own_S p e below ST T242 (mkF m 32 #[rv o1, rv o2, iv c1, rv o2, iv (4 : Int32), iv (2 : Int32), iv m2] [(.int (1 : Int32)), (.int (own_pick m2 f0 f1 f2 f3))]) := fun tt kt => go246 tt (by
      refine XS.iconst X242.here hx rfl (hb hby d5_31) ?_
      exact kt)
  obtain ⟨c2, hc2, sg248⟩ : ∃ (c2 : Int32), c2 = (if (own_pick m2 f0 f1 f2 f3) = (1 : Int32) then (c1 + (1 : Int32)) else c1) ∧ ∀ tt, Steps p.tables e below (T242.setTop (mkF m 38 #[rv o1, rv o2, iv c2, rv o2, iv (4 : Int32), iv (2 : Int32), iv m2] [])) tt → Steps p.tables e below (T242.setTop (mkF m 32 #[rv o1, rv o2, iv c1, rv o2, iv (4 : Int32), iv (2 : Int32), iv m2] [(.int (1 : Int32)), (.int (own_pick m2 f0 f1 f2 f3))])) tt := by
    by_cases hd32_0 : (own_pick m2 f0 f1 f2 f3) = (1 : Int32)
    · refine ⟨_, (if_pos hd32_0).symm, fun tt kt => ?_⟩
      show Steps p.tables e below (T242.setTop (mkF m 32 #[rv o1, rv o2, iv c1, rv o2, iv (4 : Int32), iv (2 : Int32), iv m2] [(.int (1 : Int32)), (.int (own_pick m2 f0 f1 f2 f3))])) _
      refine XS.icmpNo X242.here hx rfl (hb hby d5_32) rfl (teq hd32_0).2 ?_
      refine XS.iinc X242.here hx rfl (hb hby d5_35) rfl (l' := #[rv o1, rv o2, iv (c1 + (1 : Int32)), rv o2, iv (4 : Int32), iv (2 : Int32), iv m2]) rfl ?_
      exact kt
    · refine ⟨_, (if_neg hd32_0).symm, fun tt kt => ?_⟩
      show Steps p.tables e below (T242.setTop (mkF m 32 #[rv o1, rv o2, iv c1, rv o2, iv (4 : Int32), iv (2 : Int32), iv m2] [(.int (1 : Int32)), (.int (own_pick m2 f0 f1 f2 f3))])) _
      refine XS.icmpYes X242.here hx rfl (pc0 := 32) (pc' := 38) rfl (hb hby d5_32) rfl (feq hd32_0).2 (by decide) (by decide) ?_
      exact kt
  have go249 : own_S p e below ST T242 (mkF m 38 #[rv o1, rv o2, iv c2, rv o2, iv (4 : Int32), iv (2 : Int32), iv m2] []) := fun tt kt => go247 tt (sg248 _ kt)
  have go250 : own_S p e below ST T242 (mkF m 21 #[rv o1, rv o2, iv c2, rv o2, iv (4 : Int32), iv (3 : Int32), iv m2] [(.int (3 : Int32)), (.ref o2)]) := fun tt kt => go249 tt (by
      refine XS.iinc X242.here hx rfl (hb hby d5_38) rfl (l' := #[rv o1, rv o2, iv c2, rv o2, iv (4 : Int32), iv (3 : Int32), iv m2]) rfl ?_
      refine XS.goto X242.here hx rfl (pc0 := 41) (pc' := 11) rfl (hb hby d5_41) (by decide) (by decide) ?_
      refine XS.iload X242.here hx rfl (hb hby d5_11) rfl ?_
      refine XS.iload X242.here hx rfl (hb hby d5_13) rfl ?_
      refine XS.icmpNo X242.here hx rfl (hb hby d5_15) rfl (tlt (by decide : (3 : Int32) < (4 : Int32))).2.1 ?_
      refine XS.aloadN X242.here hx rfl (hb hby d5_18) rfl rfl ?_
      show Steps p.tables e below (T242.setTop (mkF m 19 #[rv o1, rv o2, iv c2, rv o2, iv (4 : Int32), iv (3 : Int32), iv m2] [(.ref o2)])) _
      refine XS.iload X242.here hx rfl (hb hby d5_19) rfl ?_
      exact kt)
  obtain ⟨cl251, Ar251, q251, S251, M251, H251, G251⟩ := id Vm
  have hin251 : ¬ ((3 : Int32) < 0 ∨ cl251.slots.size ≤ ((3 : Int32)).toNatClampNeg) := inb_of S251 ⟨by decide, by decide⟩
  have hat251 : cl251.slots[((3 : Int32)).toNatClampNeg]? = some (.int m3) := H251.at hin251 rfl
  have go252 : own_S p e below ST T242 (mkF m 22 #[rv o1, rv o2, iv c2, rv o2, iv (4 : Int32), iv (3 : Int32), iv m2] [(.int m3)]) := fun tt kt => go250 tt (by
      refine X242.iaload hx (j := (3 : Int32)) (v := (.int m3)) (by rw [e242]; exact Ar251.1) (State.isArrayOf_alike hZ.alike Ar251.2.1) Ar251.2.2 hin251 hat251 (g := (mkF m 21 #[rv o1, rv o2, iv c2, rv o2, iv (4 : Int32), iv (3 : Int32), iv m2] [(.int (3 : Int32)), (.ref o2)])) rfl rfl (hb hby d5_21) _ ?_
      exact kt)
  have go253 : own_S p e below ST T242 (mkF m 25 #[rv o1, rv o2, iv c2, rv o2, iv (4 : Int32), iv (3 : Int32), iv m3] [(.ref o1)]) := fun tt kt => go252 tt (by
      refine XS.istore X242.here hx rfl (hb hby d5_22) rfl (l' := #[rv o1, rv o2, iv c2, rv o2, iv (4 : Int32), iv (3 : Int32), iv m3]) rfl ?_
      refine XS.aloadN X242.here hx rfl (hb hby d5_24) rfl rfl ?_
      exact kt)
  obtain ⟨T254, X254, e254, st254⟩ := getF X242 hx hZ hown (host := "") (Or.inl (W 17 rfl)) Via.refl e242 F1 (g := (mkF m 25 #[rv o1, rv o2, iv c2, rv o2, iv (4 : Int32), iv (3 : Int32), iv m3] [(.ref o1)])) rfl rfl (hb hby d5_25)
  have go255 : own_S p e below ST T254 (mkF m 28 #[rv o1, rv o2, iv c2, rv o2, iv (4 : Int32), iv (3 : Int32), iv m3] [(.ref o3)]) := fun tt kt => go253 tt (st254 _ kt)
  have go256 : own_S p e below ST T254 (mkF m 30 #[rv o1, rv o2, iv c2, rv o2, iv (4 : Int32), iv (3 : Int32), iv m3] [(.int m3), (.ref o3)]) := fun tt kt => go255 tt (by
      refine XS.iload X254.here hx rfl (hb hby d5_28) rfl ?_
      exact kt)
  obtain ⟨cl257, Ar257, q257, S257, M257, H257, G257⟩ := id Vf
  have hin257 : ¬ (m3 < 0 ∨ cl257.slots.size ≤ (m3).toNatClampNeg) := inb_of S257 (own_in4 hm3)
  have hat257 : cl257.slots[(m3).toNatClampNeg]? = some (.int (own_pick m3 f0 f1 f2 f3)) := H257.at hin257 (own_at4 f0 f1 f2 f3 hm3)
  have go258 : own_S p e below ST T254 (mkF m 31 #[rv o1, rv o2, iv c2, rv o2, iv (4 : Int32), iv (3 : Int32), iv m3] [(.int (own_pick m3 f0 f1 f2 f3))]) := fun tt kt => go256 tt (by
      refine X254.iaload hx (j := m3) (v := (.int (own_pick m3 f0 f1 f2 f3))) (by rw [e254]; exact Ar257.1) (State.isArrayOf_alike hZ.alike Ar257.2.1) Ar257.2.2 hin257 hat257 (g := (mkF m 30 #[rv o1, rv o2, iv c2, rv o2, iv (4 : Int32), iv (3 : Int32), iv m3] [(.int m3), (.ref o3)])) rfl rfl (hb hby d5_30) _ ?_
      exact kt)
  have go259 : own_S p e below ST T254 (mkF m 32 #[rv o1, rv o2, iv c2, rv o2, iv (4 : Int32), iv (3 : Int32), iv m3] [(.int (1 : Int32)), (.int (own_pick m3 f0 f1 f2 f3))]) := fun tt kt => go258 tt (by
      refine XS.iconst X254.here hx rfl (hb hby d5_31) ?_
      exact kt)
  obtain ⟨c3, hc3, sg260⟩ : ∃ (c3 : Int32), c3 = (if (own_pick m3 f0 f1 f2 f3) = (1 : Int32) then (c2 + (1 : Int32)) else c2) ∧ ∀ tt, Steps p.tables e below (T254.setTop (mkF m 38 #[rv o1, rv o2, iv c3, rv o2, iv (4 : Int32), iv (3 : Int32), iv m3] [])) tt → Steps p.tables e below (T254.setTop (mkF m 32 #[rv o1, rv o2, iv c2, rv o2, iv (4 : Int32), iv (3 : Int32), iv m3] [(.int (1 : Int32)), (.int (own_pick m3 f0 f1 f2 f3))])) tt := by
    by_cases hd32_0 : (own_pick m3 f0 f1 f2 f3) = (1 : Int32)
    · refine ⟨_, (if_pos hd32_0).symm, fun tt kt => ?_⟩
      show Steps p.tables e below (T254.setTop (mkF m 32 #[rv o1, rv o2, iv c2, rv o2, iv (4 : Int32), iv (3 : Int32), iv m3] [(.int (1 : Int32)), (.int (own_pick m3 f0 f1 f2 f3))])) _
      refine XS.icmpNo X254.here hx rfl (hb hby d5_32) rfl (teq hd32_0).2 ?_
      refine XS.iinc X254.here hx rfl (hb hby d5_35) rfl (l' := #[rv o1, rv o2, iv (c2 + (1 : Int32)), rv o2, iv (4 : Int32), iv (3 : Int32), iv m3]) rfl ?_
      exact kt
    · refine ⟨_, (if_neg hd32_0).symm, fun tt kt => ?_⟩
      show Steps p.tables e below (T254.setTop (mkF m 32 #[rv o1, rv o2, iv c2, rv o2, iv (4 : Int32), iv (3 : Int32), iv m3] [(.int (1 : Int32)), (.int (own_pick m3 f0 f1 f2 f3))])) _
      refine XS.icmpYes X254.here hx rfl (pc0 := 32) (pc' := 38) rfl (hb hby d5_32) rfl (feq hd32_0).2 (by decide) (by decide) ?_
      exact kt
  have go261 : own_S p e below ST T254 (mkF m 38 #[rv o1, rv o2, iv c3, rv o2, iv (4 : Int32), iv (3 : Int32), iv m3] []) := fun tt kt => go259 tt (sg260 _ kt)
  have go262 : own_S p e below ST T254 (mkF m 45 #[rv o1, rv o2, iv c3, rv o2, iv (4 : Int32), iv (4 : Int32), iv m3] [(.int c3)]) := fun tt kt => go261 tt (by
      refine XS.iinc X254.here hx rfl (hb hby d5_38) rfl (l' := #[rv o1, rv o2, iv c3, rv o2, iv (4 : Int32), iv (4 : Int32), iv m3]) rfl ?_
      refine XS.goto X254.here hx rfl (pc0 := 41) (pc' := 11) rfl (hb hby d5_41) (by decide) (by decide) ?_
      refine XS.iload X254.here hx rfl (hb hby d5_11) rfl ?_
      refine XS.iload X254.here hx rfl (hb hby d5_13) rfl ?_
      refine XS.icmpYes X254.here hx rfl (pc0 := 15) (pc' := 44) rfl (hb hby d5_15) rfl (flt (by decide : ¬ ((4 : Int32) < (4 : Int32)))).2.1 (by decide) (by decide) ?_
      refine XS.iloadN X254.here hx rfl (hb hby d5_44) rfl ?_
      exact kt)
  obtain ⟨fs, hr, hrun, hended, hW, hsame⟩ := X254.leave (v := some (.int c3)) (fun h => by rw [Bd.returns] at h; cases h)
  refine ⟨_, _, pre0 _ (go262 _ ?_), hrun, hended, _, _, rfl, ?_, ⟨_, rfl⟩, hW, hsame.mono (by decide) (by decide)⟩
  · exact retI X254 hx Bd.returns (hb hby d5_45) hr
  · show Q5k4 Z o1 o2 o3 kf km f0 f1 f2 f3 m0 m1 m2 m3 h0 n0 _ T254.heap _
    rw [e254]
    exact ⟨(by rw [hc3, hc2, hc1, hc0]; rfl), N0, rfl⟩
theorem pd54 : parseMethodDescriptor "([I[D)V" = some ⟨[(.array .int), (.array .double)], none⟩ := by decide +kernel
theorem pd55 : parseMethodDescriptor "([IIZ)I" = some ⟨[(.array .int), .int, .boolean], some .int⟩ := by decide +kernel
theorem pd56 : parseMethodDescriptor "([I)I" = some ⟨[(.array .int)], some .int⟩ := by decide +kernel
theorem ef0k0 (m : MethodId) (x0 : Int32) (x1 : Int32) (x2 : Int32) : entryFrame m #[(.int x0), (.int x1), (.int x2)] maxLocals = mkF m 0 #[.val (.int x0), .val (.int x1), .val (.int x2), .unset, .unset, .unset, .unset, .unset, .unset, .unset, .unset, .unset] [] := by first | (simp [entryFrame, mkF, argsToLocals, Value.category, maxLocals]; done) | rfl
def Q0k0 (Z : State) (fr : Int32) (pk : Int32) (ln : Int32) (h0 : Heap) (n0 : Nat) (v : Option Value) (h : Heap) (L : List Loc) : Prop := v = some (.int 1) ∧ Fr n0 L
set_option maxRecDepth 65536 in
set_option maxHeartbeats 40000000 in
theorem rm0k0 (l : Launch) (Z : State) (a0 : Array Value) (hw : ∀ d ∈ tables_1, d.before a0 Z = true) (ws : List Jvm.Cond) (fr : Int32) (pk : Int32) (ln : Int32) (h0 : Heap) (n0 : Nat) (Z0 : n0 ≤ h0.size) (hk : (ln &&& 2147483647) % 5 = 0) :
    MetFree l x (head1 (Jvm.Cond.code x code maxLocals ret :: ws) room_1) (fun aa UU => aa = #[(.int fr), (.int pk), (.int ln)] ∧ Z.Warmed39 UU.vm ∧ UU.heap = h0) (fun _ _ _ _ _ => True) (fun _ UU oo UU' => ∃ vv LL, oo = .returned vv ∧ Q0k0 Z fr pk ln h0 n0 vv UU'.heap LL ∧ FrameEnd UU oo UU' LL room_1.cells room_1.slots) := by
  have W : ∀ {d : Jvm.Cond} (i : Nat), tables_1[i]? = some d → d.before a0 Z = true := fun i h => hw _ (List.mem_of_getElem? h)
  refine MetFree.of_bodySF (plainFor_of_name pn15) hisR ?_
  intro p e s m args below meth c s₁ Bd hml0 hP hK
  obtain ⟨rfl, hZ, hh⟩ := hP
  have hx := Bd.exec
  have hby := Bd.bytes
  have hml : c.maxLocals = 12 := hml0
  have hown : s.vm.findClass "com/example/declination/declination/engine/RanksNondominatedPinLaw" = some m.cls := findClass_of_methodNamed Bd.named
  have hnm := (name_of_methodNamed Bd.named Bd.method).1
  have X0 : Stand p l e room_1 s m #[(.int fr), (.int pk), (.int ln)] below meth c s₁ [] 0 0 := Stand.of_body Bd
  have e0 : s₁.heap = h0 := by rw [← hh, Bd.state]; rfl
  have N0 := Fr.nil n0
  have pre0 : ∀ tt, Steps p.tables e below (s₁.setTop (mkF m 0 #[iv fr, iv pk, iv ln, .unset, .unset, .unset, .unset, .unset, .unset, .unset, .unset, .unset] [])) tt → Steps p.tables e below (s₁.setTop (entryFrame m #[(.int fr), (.int pk), (.int ln)] maxLocals)) tt := fun tt kt => castTop (ef0k0 m fr pk ln) kt
  obtain ⟨ST, hST⟩ : ∃ z : State, z = s₁.setTop (mkF m 0 #[iv fr, iv pk, iv ln, .unset, .unset, .unset, .unset, .unset, .unset, .unset, .unset, .unset] []) := ⟨_, rfl⟩
  rw [← hST] at pre0
  have go263 : own_S p e below ST s₁ (mkF m 1 #[iv fr, iv pk, iv ln, .unset, .unset, .unset, .unset, .unset, .unset, .unset, .unset, .unset] [(.int (4 : Int32))]) := fun tt kt => (by
      rw [hST]
      show Steps p.tables e below (s₁.setTop (mkF m 0 #[iv fr, iv pk, iv ln, .unset, .unset, .unset, .unset, .unset, .unset, .unset, .unset, .unset] [])) _
      refine XS.iconst X0.here hx rfl (hb hby at_0) ?_
      exact kt)
  obtain ⟨b264, g264⟩ : ∃ z, z = h0.size := ⟨_, rfl⟩
  obtain ⟨T264, h264, k264, X264, e264, E264, A264, st264⟩ := newP X0 hx hZ (W 0 rfl) e0 (g := (mkF m 1 #[iv fr, iv pk, iv ln, .unset, .unset, .unset, .unset, .unset, .unset, .unset, .unset, .unset] [(.int (4 : Int32))])) rfl (hb hby at_1) rfl (by decide) (cap := 4) (by decide) (by decide) (by decide) (by decide)
  rw [← g264] at A264 st264
  have ge_b264 : n0 ≤ b264 := Nat.le_trans Z0 (Nat.le_of_eq g264.symm)
  have V264 : Arv Z h264 b264 k264 .int (4 : Int32) [(.int (0 : Int32)), (.int (0 : Int32)), (.int (0 : Int32)), (.int (0 : Int32))] (.int (0 : Int32)) := (Arv.new A264 (by decide)).pad (pad_rep [] (.int (0 : Int32)) 4)
  have go265 : own_S p e below ST T264 (mkF m 3 #[iv fr, iv pk, iv ln, .unset, .unset, .unset, .unset, .unset, .unset, .unset, .unset, .unset] [(.ref b264)]) := fun tt kt => go263 tt (st264 _ kt)
  have go266 : own_S p e below ST T264 (mkF m 11 #[iv fr, iv pk, iv ln, rv b264, .unset, .unset, .unset, .unset, .unset, .unset, .unset, .unset] [(.int ((1 : Int32) + (fr &&& (3 : Int32)))), (.int (0 : Int32)), (.ref b264)]) := fun tt kt => go265 tt (by
      refine XS.astoreN X264.here hx rfl (hb hby at_3) rfl rfl (l' := #[iv fr, iv pk, iv ln, rv b264, .unset, .unset, .unset, .unset, .unset, .unset, .unset, .unset]) rfl ?_
      refine XS.aloadN X264.here hx rfl (hb hby at_4) rfl rfl ?_
      refine XS.iconst X264.here hx rfl (hb hby at_5) ?_
      refine XS.iconst X264.here hx rfl (hb hby at_6) ?_
      refine XS.iloadN X264.here hx rfl (hb hby at_7) rfl ?_
      refine XS.iconst X264.here hx rfl (hb hby at_8) ?_
      show Steps p.tables e below (T264.setTop (mkF m 9 #[iv fr, iv pk, iv ln, rv b264, .unset, .unset, .unset, .unset, .unset, .unset, .unset, .unset] [(.int (3 : Int32)), (.int fr), (.int (1 : Int32)), (.int (0 : Int32)), (.ref b264)])) _
      refine XS.iand X264.here hx rfl (hb hby at_9) rfl ?_
      refine XS.iadd X264.here hx rfl (hb hby at_10) rfl ?_
      exact kt)
  obtain ⟨f0, hf0⟩ : ∃ z : Int32, z = ((1 : Int32) + (fr &&& (3 : Int32))) := ⟨_, rfl⟩
  rw [← hf0] at go266
  obtain ⟨cl267, Ar267, q267, S267, M267, H267, G267⟩ := id V264
  have hin267 : ¬ ((0 : Int32) < 0 ∨ cl267.slots.size ≤ ((0 : Int32)).toNatClampNeg) := inb_of S267 ⟨by decide, by decide⟩
  obtain ⟨T267, h267, X267, e267, W267, st267⟩ := stI X264 hx hZ e264 Ar267 (j := (0 : Int32)) hin267 (g := (mkF m 11 #[iv fr, iv pk, iv ln, rv b264, .unset, .unset, .unset, .unset, .unset, .unset, .unset, .unset] [(.int f0), (.int (0 : Int32)), (.ref b264)])) rfl rfl (hb hby at_11)
  have V267 : Arv Z h267 b264 k264 .int (4 : Int32) [(.int f0), (.int (0 : Int32)), (.int (0 : Int32)), (.int (0 : Int32))] (.int (0 : Int32)) := Arv.set Ar267 q267 S267 M267 H267 G267 rfl W267 0 rfl (Nat.le_of_ble_eq_true rfl)
  have N267 := Fr.snoc X267 N0 ge_b264
  have go268 : own_S p e below ST T267 (mkF m 12 #[iv fr, iv pk, iv ln, rv b264, .unset, .unset, .unset, .unset, .unset, .unset, .unset, .unset] []) := fun tt kt => go266 tt (st267 _ kt)
  have go269 : own_S p e below ST T267 (mkF m 21 #[iv fr, iv pk, iv ln, rv b264, .unset, .unset, .unset, .unset, .unset, .unset, .unset, .unset] [(.int ((1 : Int32) + (((fr.toUInt32 >>> ((2 : Int32) &&& 31).toUInt32).toInt32) &&& (3 : Int32)))), (.int (1 : Int32)), (.ref b264)]) := fun tt kt => go268 tt (by
      refine XS.aloadN X267.here hx rfl (hb hby at_12) rfl rfl ?_
      refine XS.iconst X267.here hx rfl (hb hby at_13) ?_
      refine XS.iconst X267.here hx rfl (hb hby at_14) ?_
      refine XS.iloadN X267.here hx rfl (hb hby at_15) rfl ?_
      refine XS.iconst X267.here hx rfl (hb hby at_16) ?_
      refine XS.iushr X267.here hx rfl (hb hby at_17) rfl ?_
      show Steps p.tables e below (T267.setTop (mkF m 18 #[iv fr, iv pk, iv ln, rv b264, .unset, .unset, .unset, .unset, .unset, .unset, .unset, .unset] [(.int ((fr.toUInt32 >>> ((2 : Int32) &&& 31).toUInt32).toInt32)), (.int (1 : Int32)), (.int (1 : Int32)), (.ref b264)])) _
      refine XS.iconst X267.here hx rfl (hb hby at_18) ?_
      refine XS.iand X267.here hx rfl (hb hby at_19) rfl ?_
      refine XS.iadd X267.here hx rfl (hb hby at_20) rfl ?_
      exact kt)
  obtain ⟨f1, hf1⟩ : ∃ z : Int32, z = ((1 : Int32) + (((fr.toUInt32 >>> ((2 : Int32) &&& 31).toUInt32).toInt32) &&& (3 : Int32))) := ⟨_, rfl⟩
  rw [← hf1] at go269
  obtain ⟨cl270, Ar270, q270, S270, M270, H270, G270⟩ := id V267
  have hin270 : ¬ ((1 : Int32) < 0 ∨ cl270.slots.size ≤ ((1 : Int32)).toNatClampNeg) := inb_of S270 ⟨by decide, by decide⟩
  obtain ⟨T270, h270, X270, e270, W270, st270⟩ := stI X267 hx hZ e267 Ar270 (j := (1 : Int32)) hin270 (g := (mkF m 21 #[iv fr, iv pk, iv ln, rv b264, .unset, .unset, .unset, .unset, .unset, .unset, .unset, .unset] [(.int f1), (.int (1 : Int32)), (.ref b264)])) rfl rfl (hb hby at_21)
  have V270 : Arv Z h270 b264 k264 .int (4 : Int32) [(.int f0), (.int f1), (.int (0 : Int32)), (.int (0 : Int32))] (.int (0 : Int32)) := Arv.set Ar270 q270 S270 M270 H270 G270 rfl W270 1 rfl (Nat.le_of_ble_eq_true rfl)
  have N270 := Fr.snoc X270 N267 ge_b264
  have go271 : own_S p e below ST T270 (mkF m 22 #[iv fr, iv pk, iv ln, rv b264, .unset, .unset, .unset, .unset, .unset, .unset, .unset, .unset] []) := fun tt kt => go269 tt (st270 _ kt)
  have go272 : own_S p e below ST T270 (mkF m 31 #[iv fr, iv pk, iv ln, rv b264, .unset, .unset, .unset, .unset, .unset, .unset, .unset, .unset] [(.int ((1 : Int32) + (((fr.toUInt32 >>> ((4 : Int32) &&& 31).toUInt32).toInt32) &&& (3 : Int32)))), (.int (2 : Int32)), (.ref b264)]) := fun tt kt => go271 tt (by
      refine XS.aloadN X270.here hx rfl (hb hby at_22) rfl rfl ?_
      refine XS.iconst X270.here hx rfl (hb hby at_23) ?_
      refine XS.iconst X270.here hx rfl (hb hby at_24) ?_
      refine XS.iloadN X270.here hx rfl (hb hby at_25) rfl ?_
      refine XS.iconst X270.here hx rfl (hb hby at_26) ?_
      refine XS.iushr X270.here hx rfl (hb hby at_27) rfl ?_
      show Steps p.tables e below (T270.setTop (mkF m 28 #[iv fr, iv pk, iv ln, rv b264, .unset, .unset, .unset, .unset, .unset, .unset, .unset, .unset] [(.int ((fr.toUInt32 >>> ((4 : Int32) &&& 31).toUInt32).toInt32)), (.int (1 : Int32)), (.int (2 : Int32)), (.ref b264)])) _
      refine XS.iconst X270.here hx rfl (hb hby at_28) ?_
      refine XS.iand X270.here hx rfl (hb hby at_29) rfl ?_
      refine XS.iadd X270.here hx rfl (hb hby at_30) rfl ?_
      exact kt)
  obtain ⟨f2, hf2⟩ : ∃ z : Int32, z = ((1 : Int32) + (((fr.toUInt32 >>> ((4 : Int32) &&& 31).toUInt32).toInt32) &&& (3 : Int32))) := ⟨_, rfl⟩
  rw [← hf2] at go272
  obtain ⟨cl273, Ar273, q273, S273, M273, H273, G273⟩ := id V270
  have hin273 : ¬ ((2 : Int32) < 0 ∨ cl273.slots.size ≤ ((2 : Int32)).toNatClampNeg) := inb_of S273 ⟨by decide, by decide⟩
  obtain ⟨T273, h273, X273, e273, W273, st273⟩ := stI X270 hx hZ e270 Ar273 (j := (2 : Int32)) hin273 (g := (mkF m 31 #[iv fr, iv pk, iv ln, rv b264, .unset, .unset, .unset, .unset, .unset, .unset, .unset, .unset] [(.int f2), (.int (2 : Int32)), (.ref b264)])) rfl rfl (hb hby at_31)
  have V273 : Arv Z h273 b264 k264 .int (4 : Int32) [(.int f0), (.int f1), (.int f2), (.int (0 : Int32))] (.int (0 : Int32)) := Arv.set Ar273 q273 S273 M273 H273 G273 rfl W273 2 rfl (Nat.le_of_ble_eq_true rfl)
  have N273 := Fr.snoc X273 N270 ge_b264
  have go274 : own_S p e below ST T273 (mkF m 32 #[iv fr, iv pk, iv ln, rv b264, .unset, .unset, .unset, .unset, .unset, .unset, .unset, .unset] []) := fun tt kt => go272 tt (st273 _ kt)
  have go275 : own_S p e below ST T273 (mkF m 42 #[iv fr, iv pk, iv ln, rv b264, .unset, .unset, .unset, .unset, .unset, .unset, .unset, .unset] [(.int ((1 : Int32) + (((fr.toUInt32 >>> ((6 : Int32) &&& 31).toUInt32).toInt32) &&& (3 : Int32)))), (.int (3 : Int32)), (.ref b264)]) := fun tt kt => go274 tt (by
      refine XS.aloadN X273.here hx rfl (hb hby at_32) rfl rfl ?_
      refine XS.iconst X273.here hx rfl (hb hby at_33) ?_
      refine XS.iconst X273.here hx rfl (hb hby at_34) ?_
      refine XS.iloadN X273.here hx rfl (hb hby at_35) rfl ?_
      refine XS.bipush X273.here hx rfl (hb hby at_36) ?_
      refine XS.iushr X273.here hx rfl (hb hby at_38) rfl ?_
      show Steps p.tables e below (T273.setTop (mkF m 39 #[iv fr, iv pk, iv ln, rv b264, .unset, .unset, .unset, .unset, .unset, .unset, .unset, .unset] [(.int ((fr.toUInt32 >>> ((6 : Int32) &&& 31).toUInt32).toInt32)), (.int (1 : Int32)), (.int (3 : Int32)), (.ref b264)])) _
      refine XS.iconst X273.here hx rfl (hb hby at_39) ?_
      refine XS.iand X273.here hx rfl (hb hby at_40) rfl ?_
      refine XS.iadd X273.here hx rfl (hb hby at_41) rfl ?_
      exact kt)
  obtain ⟨f3, hf3⟩ : ∃ z : Int32, z = ((1 : Int32) + (((fr.toUInt32 >>> ((6 : Int32) &&& 31).toUInt32).toInt32) &&& (3 : Int32))) := ⟨_, rfl⟩
  rw [← hf3] at go275
  obtain ⟨cl276, Ar276, q276, S276, M276, H276, G276⟩ := id V273
  have hin276 : ¬ ((3 : Int32) < 0 ∨ cl276.slots.size ≤ ((3 : Int32)).toNatClampNeg) := inb_of S276 ⟨by decide, by decide⟩
  obtain ⟨T276, h276, X276, e276, W276, st276⟩ := stI X273 hx hZ e273 Ar276 (j := (3 : Int32)) hin276 (g := (mkF m 42 #[iv fr, iv pk, iv ln, rv b264, .unset, .unset, .unset, .unset, .unset, .unset, .unset, .unset] [(.int f3), (.int (3 : Int32)), (.ref b264)])) rfl rfl (hb hby at_42)
  have V276 : Arv Z h276 b264 k264 .int (4 : Int32) [(.int f0), (.int f1), (.int f2), (.int f3)] (.int (0 : Int32)) := Arv.set Ar276 q276 S276 M276 H276 G276 rfl W276 3 rfl (Nat.le_of_ble_eq_true rfl)
  have N276 := Fr.snoc X276 N273 ge_b264
  have go277 : own_S p e below ST T276 (mkF m 43 #[iv fr, iv pk, iv ln, rv b264, .unset, .unset, .unset, .unset, .unset, .unset, .unset, .unset] []) := fun tt kt => go275 tt (st276 _ kt)
  have go278 : own_S p e below ST T276 (mkF m 48 #[iv fr, iv pk, iv ln, rv b264, iv (pk &&& (3 : Int32)), .unset, .unset, .unset, .unset, .unset, .unset, .unset] []) := fun tt kt => go277 tt (by
      refine XS.iloadN X276.here hx rfl (hb hby at_43) rfl ?_
      refine XS.iconst X276.here hx rfl (hb hby at_44) ?_
      refine XS.iand X276.here hx rfl (hb hby at_45) rfl ?_
      refine XS.istore X276.here hx rfl (hb hby at_46) rfl (l' := #[iv fr, iv pk, iv ln, rv b264, iv (pk &&& (3 : Int32)), .unset, .unset, .unset, .unset, .unset, .unset, .unset]) rfl ?_
      exact kt)
  obtain ⟨i0, hi0⟩ : ∃ z : Int32, z = (pk &&& (3 : Int32)) := ⟨_, rfl⟩
  rw [← hi0] at go278
  have hi0' := own_4 _ i0 hi0
  have go279 : own_S p e below ST T276 (mkF m 55 #[iv fr, iv pk, iv ln, rv b264, iv i0, iv (((pk.toUInt32 >>> ((2 : Int32) &&& 31).toUInt32).toInt32) &&& (3 : Int32)), .unset, .unset, .unset, .unset, .unset, .unset] []) := fun tt kt => go278 tt (by
      refine XS.iloadN X276.here hx rfl (hb hby at_48) rfl ?_
      refine XS.iconst X276.here hx rfl (hb hby at_49) ?_
      refine XS.iushr X276.here hx rfl (hb hby at_50) rfl ?_
      refine XS.iconst X276.here hx rfl (hb hby at_51) ?_
      refine XS.iand X276.here hx rfl (hb hby at_52) rfl ?_
      refine XS.istore X276.here hx rfl (hb hby at_53) rfl (l' := #[iv fr, iv pk, iv ln, rv b264, iv i0, iv (((pk.toUInt32 >>> ((2 : Int32) &&& 31).toUInt32).toInt32) &&& (3 : Int32)), .unset, .unset, .unset, .unset, .unset, .unset]) rfl ?_
      exact kt)
  obtain ⟨i1, hi1⟩ : ∃ z : Int32, z = (((pk.toUInt32 >>> ((2 : Int32) &&& 31).toUInt32).toInt32) &&& (3 : Int32)) := ⟨_, rfl⟩
  rw [← hi1] at go279
  have hi1' := own_4 _ i1 hi1
  have go280 : own_S p e below ST T276 (mkF m 62 #[iv fr, iv pk, iv ln, rv b264, iv i0, iv i1, iv (((pk.toUInt32 >>> ((4 : Int32) &&& 31).toUInt32).toInt32) &&& (3 : Int32)), .unset, .unset, .unset, .unset, .unset] []) := fun tt kt => go279 tt (by
      refine XS.iloadN X276.here hx rfl (hb hby at_55) rfl ?_
      refine XS.iconst X276.here hx rfl (hb hby at_56) ?_
      refine XS.iushr X276.here hx rfl (hb hby at_57) rfl ?_
      refine XS.iconst X276.here hx rfl (hb hby at_58) ?_
      refine XS.iand X276.here hx rfl (hb hby at_59) rfl ?_
      refine XS.istore X276.here hx rfl (hb hby at_60) rfl (l' := #[iv fr, iv pk, iv ln, rv b264, iv i0, iv i1, iv (((pk.toUInt32 >>> ((4 : Int32) &&& 31).toUInt32).toInt32) &&& (3 : Int32)), .unset, .unset, .unset, .unset, .unset]) rfl ?_
      exact kt)
  obtain ⟨i2, hi2⟩ : ∃ z : Int32, z = (((pk.toUInt32 >>> ((4 : Int32) &&& 31).toUInt32).toInt32) &&& (3 : Int32)) := ⟨_, rfl⟩
  rw [← hi2] at go280
  have hi2' := own_4 _ i2 hi2
  have go281 : own_S p e below ST T276 (mkF m 70 #[iv fr, iv pk, iv ln, rv b264, iv i0, iv i1, iv i2, iv (((pk.toUInt32 >>> ((6 : Int32) &&& 31).toUInt32).toInt32) &&& (3 : Int32)), .unset, .unset, .unset, .unset] []) := fun tt kt => go280 tt (by
      refine XS.iloadN X276.here hx rfl (hb hby at_62) rfl ?_
      refine XS.bipush X276.here hx rfl (hb hby at_63) ?_
      refine XS.iushr X276.here hx rfl (hb hby at_65) rfl ?_
      refine XS.iconst X276.here hx rfl (hb hby at_66) ?_
      refine XS.iand X276.here hx rfl (hb hby at_67) rfl ?_
      refine XS.istore X276.here hx rfl (hb hby at_68) rfl (l' := #[iv fr, iv pk, iv ln, rv b264, iv i0, iv i1, iv i2, iv (((pk.toUInt32 >>> ((6 : Int32) &&& 31).toUInt32).toInt32) &&& (3 : Int32)), .unset, .unset, .unset, .unset]) rfl ?_
      exact kt)
  obtain ⟨i3, hi3⟩ : ∃ z : Int32, z = (((pk.toUInt32 >>> ((6 : Int32) &&& 31).toUInt32).toInt32) &&& (3 : Int32)) := ⟨_, rfl⟩
  rw [← hi3] at go281
  have hi3' := own_4 _ i3 hi3
  have go282 : own_S p e below ST T276 (mkF m 78 #[iv fr, iv pk, iv ln, rv b264, iv i0, iv i1, iv i2, iv i3, iv ((ln &&& (2147483647 : Int32)) % (5 : Int32)), .unset, .unset, .unset] []) := fun tt kt => go281 tt (by
      refine XS.iloadN X276.here hx rfl (hb hby at_70) rfl ?_
      refine X276.ldcInt hx hown (mvT hZ (W 1 rfl)) (g := (mkF m 71 #[iv fr, iv pk, iv ln, rv b264, iv i0, iv i1, iv i2, iv i3, .unset, .unset, .unset, .unset] [(.int ln)])) rfl (hb hby at_71) _ ?_
      refine XS.iand X276.here hx rfl (hb hby at_73) rfl ?_
      refine XS.iconst X276.here hx rfl (hb hby at_74) ?_
      refine iremM (g := (mkF m 75 #[iv fr, iv pk, iv ln, rv b264, iv i0, iv i1, iv i2, iv i3, .unset, .unset, .unset, .unset] [(.int (5 : Int32)), (.int (ln &&& (2147483647 : Int32)))])) X276 hx rfl (hb hby at_75) rfl (by decide) ?_
      refine XS.istore X276.here hx rfl (hb hby at_76) rfl (l' := #[iv fr, iv pk, iv ln, rv b264, iv i0, iv i1, iv i2, iv i3, iv ((ln &&& (2147483647 : Int32)) % (5 : Int32)), .unset, .unset, .unset]) rfl ?_
      exact kt)
  rw [hk] at go282
  have go283 : own_S p e below ST T276 (mkF m 84 #[iv fr, iv pk, iv ln, rv b264, iv i0, iv i1, iv i2, iv i3, iv (0 : Int32), .unset, .unset, .unset] [(.int (0 : Int32))]) := fun tt kt => go282 tt (by
      refine XS.iload X276.here hx rfl (hb hby at_78) rfl ?_
      refine XS.ifNo X276.here hx rfl (hb hby at_80) rfl ((if0 _ _).trans (teq (by decide : (0 : Int32) = (0 : Int32))).2) ?_
      refine XS.iconst X276.here hx rfl (hb hby at_83) ?_
      exact kt)
  have zs285 := (Nat.le_trans (Nat.le_trans (Nat.le_trans (Nat.le_trans (Nat.le_trans Z0 E264.1) (Keep.of_wr W267).1) (Keep.of_wr W270).1) (Keep.of_wr W273).1) (Keep.of_wr W276).1)
  obtain ⟨b284, g284⟩ : ∃ z, z = h276.size := ⟨_, rfl⟩
  obtain ⟨T284, h284, k284, X284, e284, E284, A284, st284⟩ := newP X276 hx hZ (W 0 rfl) e276 (g := (mkF m 84 #[iv fr, iv pk, iv ln, rv b264, iv i0, iv i1, iv i2, iv i3, iv (0 : Int32), .unset, .unset, .unset] [(.int (0 : Int32))])) rfl (hb hby at_84) rfl (by decide) (cap := 0) (by decide) (by decide) (by decide) (by decide)
  rw [← g284] at A284 st284
  have neb264_b284 : b264 ≠ b284 := Nat.ne_of_lt (Nat.lt_of_lt_of_le V276.lt (Nat.le_of_eq g284.symm))
  have ge_b284 : n0 ≤ b284 := Nat.le_trans zs285 (Nat.le_of_eq g284.symm)
  have V284 : Arv Z h284 b284 k284 .int (0 : Int32) [] (.int (0 : Int32)) := (Arv.new A284 (by decide)).pad (pad_rep [] (.int (0 : Int32)) 0)
  have go286 : own_S p e below ST T284 (mkF m 86 #[iv fr, iv pk, iv ln, rv b264, iv i0, iv i1, iv i2, iv i3, iv (0 : Int32), .unset, .unset, .unset] [(.ref b284)]) := fun tt kt => go283 tt (st284 _ kt)
  have go287 : own_S p e below ST T284 (mkF m 188 #[iv fr, iv pk, iv ln, rv b264, iv i0, iv i1, iv i2, iv i3, iv (0 : Int32), rv b284, .unset, .unset] []) := fun tt kt => go286 tt (by
      refine XS.astore X284.here hx rfl (hb hby at_86) rfl rfl (l' := #[iv fr, iv pk, iv ln, rv b264, iv i0, iv i1, iv i2, iv i3, iv (0 : Int32), rv b284, .unset, .unset]) rfl ?_
      refine XS.goto X284.here hx rfl (pc0 := 88) (pc' := 188) rfl (hb hby at_88) (by decide) (by decide) ?_
      exact kt)
  have f289 := (V276.ext E284)
  have zs290 := (Nat.le_trans zs285 E284.1)
  obtain ⟨b288, g288⟩ : ∃ z, z = h284.size := ⟨_, rfl⟩
  obtain ⟨T288, h288, X288, e288, E288, A288, D288, -, st288⟩ := newO X284 hx hZ hown (W 2 rfl) (W 3 rfl) (W 4 rfl) e284 (g := (mkF m 188 #[iv fr, iv pk, iv ln, rv b264, iv i0, iv i1, iv i2, iv i3, iv (0 : Int32), rv b284, .unset, .unset] [])) rfl (hb hby at_188) (by decide) (by decide)
  rw [← g288] at A288 D288 st288
  have neb264_b288 : b264 ≠ b288 := Nat.ne_of_lt (Nat.lt_of_lt_of_le f289.lt (Nat.le_of_eq g288.symm))
  have neb284_b288 : b284 ≠ b288 := Nat.ne_of_lt (Nat.lt_of_lt_of_le V284.lt (Nat.le_of_eq g288.symm))
  have ge_b288 : n0 ≤ b288 := Nat.le_trans zs290 (Nat.le_of_eq g288.symm)
  have F288_front : Fld Z h288 b288 "com/example/declination/declination/engine/Nsga2$Ranks" "front" "[I" .null := D288 (Or.inr (W 18 rfl)) (ty := (.array .int)) (by decide)
  have F288_crowding : Fld Z h288 b288 "com/example/declination/declination/engine/Nsga2$Ranks" "crowding" "[D" .null := D288 (Or.inr (W 20 rfl)) (ty := (.array .double)) (by decide)
  have go291 : own_S p e below ST T288 (mkF m 191 #[iv fr, iv pk, iv ln, rv b264, iv i0, iv i1, iv i2, iv i3, iv (0 : Int32), rv b284, .unset, .unset] [(.ref b288)]) := fun tt kt => go287 tt (st288 _ kt)
  have go292 : own_S p e below ST T288 (mkF m 194 #[iv fr, iv pk, iv ln, rv b264, iv i0, iv i1, iv i2, iv i3, iv (0 : Int32), rv b284, .unset, .unset] [(.int (4 : Int32)), (.ref b264), (.ref b288), (.ref b288)]) := fun tt kt => go291 tt (by
      refine XS.dup X288.here hx rfl (hb hby at_191) rfl rfl ?_
      refine XS.aloadN X288.here hx rfl (hb hby at_192) rfl rfl ?_
      refine XS.iconst X288.here hx rfl (hb hby at_193) ?_
      exact kt)
  have f294 := (f289.ext E288)
  have f295 := (V284.ext E288)
  have zs296 := (Nat.le_trans zs290 E288.1)
  obtain ⟨b293, g293⟩ : ∃ z, z = h288.size := ⟨_, rfl⟩
  obtain ⟨T293, h293, k293, X293, e293, E293, A293, st293⟩ := newP X288 hx hZ (W 5 rfl) e288 (g := (mkF m 194 #[iv fr, iv pk, iv ln, rv b264, iv i0, iv i1, iv i2, iv i3, iv (0 : Int32), rv b284, .unset, .unset] [(.int (4 : Int32)), (.ref b264), (.ref b288), (.ref b288)])) rfl (hb hby at_194) rfl (by decide) (cap := 4) (by decide) (by decide) (by decide) (by decide)
  rw [← g293] at A293 st293
  have neb264_b293 : b264 ≠ b293 := Nat.ne_of_lt (Nat.lt_of_lt_of_le f294.lt (Nat.le_of_eq g293.symm))
  have neb284_b293 : b284 ≠ b293 := Nat.ne_of_lt (Nat.lt_of_lt_of_le f295.lt (Nat.le_of_eq g293.symm))
  have neb288_b293 : b288 ≠ b293 := Nat.ne_of_lt (Nat.lt_of_lt_of_le A288.lt (Nat.le_of_eq g293.symm))
  have ge_b293 : n0 ≤ b293 := Nat.le_trans zs296 (Nat.le_of_eq g293.symm)
  have V293 : Arv Z h293 b293 k293 .double (4 : Int32) [(.double 0), (.double 0), (.double 0), (.double 0)] (.double 0) := (Arv.new A293 (by decide)).pad (pad_rep [] (.double 0) 4)
  have go297 : own_S p e below ST T293 (mkF m 196 #[iv fr, iv pk, iv ln, rv b264, iv i0, iv i1, iv i2, iv i3, iv (0 : Int32), rv b284, .unset, .unset] [(.ref b293), (.ref b264), (.ref b288), (.ref b288)]) := fun tt kt => go292 tt (st293 _ kt)
  have f298 := (F288_front.ext E293)
  have f299 := (F288_crowding.ext E293)
  have f300 := (A288.ext E293)
  have zs302 := (Nat.le_trans zs296 E293.1)
  obtain ⟨_, _, ⟨T301, L301, k301, n301⟩, -, X301, ⟨Lc301, hQ301, l301, y301, z301⟩, st301⟩ := X293.specialBack hx (y := (⟨"com/example/declination/declination/engine/Nsga2$Ranks", "<init>", "([I[D)V"⟩ : MethodName)) rfl hown (mvT hZ (W 6 rfl)) (mvT hZ (W 7 rfl)) (mvT hZ (W 8 rfl)) (by decide) (backOf (W := 1) (rm1 l Z a0 hw [] b288 b264 b293 _ _ h293 n0 zs302 f298 f299 f300 ge_b288) hZ (W 8 rfl) (W 4 rfl) (by decide) (by decide)) (g := (mkF m 196 #[iv fr, iv pk, iv ln, rv b264, iv i0, iv i1, iv i2, iv i3, iv (0 : Int32), rv b284, .unset, .unset] [(.ref b293), (.ref b264), (.ref b288), (.ref b288)])) rfl (by rw [hml]; rfl) (Steps.refl _) (a := b288) (argsL := [(.ref b264), (.ref b293)]) (rest := [(.ref b288)]) (lenOf pd54 rfl) rfl (by show 2 * 0 + _ ≤ _; exact Nat.le_of_eq rfl) (hb hby at_196) (fun _ _ => ⟨rfl, e293, (by decide : 4 + 0 ≤ _), (by decide : 10 + 0 ≤ _)⟩)
  dsimp only [Pt.U, Pt.locs, Pt.cells, Pt.slots] at X301 l301 y301 z301 st301 hQ301
  subst l301 y301 z301
  obtain ⟨rfl, Nq301, K301, Fi301⟩ := hQ301
  have N301 := Fr.app N276 Nq301
  have go303 : own_S p e below ST T301 (mkF m 199 #[iv fr, iv pk, iv ln, rv b264, iv i0, iv i1, iv i2, iv i3, iv (0 : Int32), rv b284, .unset, .unset] [(.ref b288)]) := fun tt kt => go297 tt (st301.trans kt)
  have go304 : own_S p e below ST T301 (mkF m 214 #[iv fr, iv pk, iv ln, rv b264, iv i0, iv i1, iv i2, iv i3, iv (0 : Int32), rv b284, rv b288, .unset] [(.int (0 : Int32)), (.int i0), (.ref b264)]) := fun tt kt => go303 tt (by
      refine XS.astore X301.here hx rfl (hb hby at_199) rfl rfl (l' := #[iv fr, iv pk, iv ln, rv b264, iv i0, iv i1, iv i2, iv i3, iv (0 : Int32), rv b284, rv b288, .unset]) rfl ?_
      refine XS.aloadN X301.here hx rfl (hb hby at_201) rfl rfl ?_
      refine XS.iload X301.here hx rfl (hb hby at_202) rfl ?_
      refine XS.iload X301.here hx rfl (hb hby at_204) rfl ?_
      refine XS.ifYes X301.here hx rfl (pc0 := 206) (pc' := 213) rfl (hb hby at_206) rfl ((if0 _ _).trans (flt (by decide : ¬ ((0 : Int32) < (0 : Int32)))).2.2.2) (by decide) (by decide) ?_
      refine XS.iconst X301.here hx rfl (hb hby at_213) ?_
      exact kt)
  have f305 := ((f294.ext E293).keep K301 (ninS neb264_b288 nin0))
  have zs307 := (Nat.le_trans zs302 K301.1)
  obtain ⟨_, _, ⟨T306, L306, k306, n306⟩, -, X306, ⟨Lc306, hQ306, l306, y306, z306⟩, st306⟩ := Jvm.LawKit.callS X301 hx (y := (⟨"com/example/declination/declination/engine/RanksNondominatedPinLaw", "hit", "([IIZ)I"⟩ : MethodName)) hown (mvT hZ (W 21 rfl)) (mvT hZ (W 22 rfl)) (mvT hZ (W 23 rfl)) (mvT hZ (W 24 rfl)) (by decide) (backOf (W := 0) (rm4b0 l Z a0 hw [] b264 i0 _ f0 f1 f2 f3 T301.heap n0 zs307 f305 hi0') hZ (W 24 rfl) (W 23 rfl) (by decide) (by decide)) (g := (mkF m 214 #[iv fr, iv pk, iv ln, rv b264, iv i0, iv i1, iv i2, iv i3, iv (0 : Int32), rv b284, rv b288, .unset] [(.int (0 : Int32)), (.int i0), (.ref b264)])) rfl (by rw [hml]; rfl) (argsL := [(.ref b264), (.int i0), (.int (0 : Int32))]) (rest := []) (lenOf pd55 rfl) rfl (by show 2 * 0 + _ ≤ _; exact Nat.le_of_eq rfl) (hb hby at_214) (fun _ _ => ⟨rfl, rfl, (by decide : 4 + 0 ≤ _), (by decide : 10 + 0 ≤ _)⟩)
  dsimp only [Pt.U, Pt.locs, Pt.cells, Pt.slots] at X306 l306 y306 z306 st306 hQ306
  subst l306 y306 z306
  obtain ⟨rfl, Nq306, eh306⟩ := hQ306
  have N306 := Fr.app N301 Nq306
  have go308 : own_S p e below ST T306 (mkF m 217 #[iv fr, iv pk, iv ln, rv b264, iv i0, iv i1, iv i2, iv i3, iv (0 : Int32), rv b284, rv b288, .unset] [(.int (0 : Int32))]) := fun tt kt => go304 tt (st306 _ kt)
  have go309 : own_S p e below ST T306 (mkF m 231 #[iv fr, iv pk, iv ln, rv b264, iv i0, iv i1, iv i2, iv i3, iv (0 : Int32), rv b284, rv b288, .unset] [(.int (0 : Int32)), (.int i1), (.ref b264), (.int (0 : Int32))]) := fun tt kt => go308 tt (by
      refine XS.aloadN X306.here hx rfl (hb hby at_217) rfl rfl ?_
      refine XS.iload X306.here hx rfl (hb hby at_218) rfl ?_
      refine XS.iload X306.here hx rfl (hb hby at_220) rfl ?_
      refine XS.iconst X306.here hx rfl (hb hby at_222) ?_
      refine XS.icmpYes X306.here hx rfl (pc0 := 223) (pc' := 230) rfl (hb hby at_223) rfl (flt (by decide : ¬ ((1 : Int32) < (0 : Int32)))).2.2.2 (by decide) (by decide) ?_
      refine XS.iconst X306.here hx rfl (hb hby at_230) ?_
      exact kt)
  obtain ⟨_, _, ⟨T310, L310, k310, n310⟩, -, X310, ⟨Lc310, hQ310, l310, y310, z310⟩, st310⟩ := Jvm.LawKit.callS X306 hx (y := (⟨"com/example/declination/declination/engine/RanksNondominatedPinLaw", "hit", "([IIZ)I"⟩ : MethodName)) hown (mvT hZ (W 21 rfl)) (mvT hZ (W 22 rfl)) (mvT hZ (W 23 rfl)) (mvT hZ (W 24 rfl)) (by decide) (backOf (W := 1) (rm4b0 l Z a0 hw [] b264 i1 _ f0 f1 f2 f3 T301.heap n0 zs307 f305 hi1') hZ (W 24 rfl) (W 23 rfl) (by decide) (by decide)) (g := (mkF m 231 #[iv fr, iv pk, iv ln, rv b264, iv i0, iv i1, iv i2, iv i3, iv (0 : Int32), rv b284, rv b288, .unset] [(.int (0 : Int32)), (.int i1), (.ref b264), (.int (0 : Int32))])) rfl (by rw [hml]; rfl) (argsL := [(.ref b264), (.int i1), (.int (0 : Int32))]) (rest := [(.int (0 : Int32))]) (lenOf pd55 rfl) rfl (by show 2 * 0 + _ ≤ _; exact Nat.le_of_eq rfl) (hb hby at_231) (fun _ _ => ⟨rfl, eh306, (by decide : 4 + 0 ≤ _), (by decide : 10 + 0 ≤ _)⟩)
  dsimp only [Pt.U, Pt.locs, Pt.cells, Pt.slots] at X310 l310 y310 z310 st310 hQ310
  subst l310 y310 z310
  obtain ⟨rfl, Nq310, eh310⟩ := hQ310
  have N310 := Fr.app N306 Nq310
  have go311 : own_S p e below ST T310 (mkF m 234 #[iv fr, iv pk, iv ln, rv b264, iv i0, iv i1, iv i2, iv i3, iv (0 : Int32), rv b284, rv b288, .unset] [(.int (0 : Int32)), (.int (0 : Int32))]) := fun tt kt => go309 tt (st310 _ kt)
  have go312 : own_S p e below ST T310 (mkF m 249 #[iv fr, iv pk, iv ln, rv b264, iv i0, iv i1, iv i2, iv i3, iv (0 : Int32), rv b284, rv b288, .unset] [(.int (0 : Int32)), (.int i2), (.ref b264), (.int (0 : Int32))]) := fun tt kt => go311 tt (by
      refine XS.iadd X310.here hx rfl (hb hby at_234) rfl ?_
      refine XS.aloadN X310.here hx rfl (hb hby at_235) rfl rfl ?_
      refine XS.iload X310.here hx rfl (hb hby at_236) rfl ?_
      refine XS.iload X310.here hx rfl (hb hby at_238) rfl ?_
      refine XS.iconst X310.here hx rfl (hb hby at_240) ?_
      refine XS.icmpYes X310.here hx rfl (pc0 := 241) (pc' := 248) rfl (hb hby at_241) rfl (flt (by decide : ¬ ((2 : Int32) < (0 : Int32)))).2.2.2 (by decide) (by decide) ?_
      show Steps p.tables e below (T310.setTop (mkF m 248 #[iv fr, iv pk, iv ln, rv b264, iv i0, iv i1, iv i2, iv i3, iv (0 : Int32), rv b284, rv b288, .unset] [(.int i2), (.ref b264), (.int (0 : Int32))])) _
      refine XS.iconst X310.here hx rfl (hb hby at_248) ?_
      exact kt)
  obtain ⟨_, _, ⟨T313, L313, k313, n313⟩, -, X313, ⟨Lc313, hQ313, l313, y313, z313⟩, st313⟩ := Jvm.LawKit.callS X310 hx (y := (⟨"com/example/declination/declination/engine/RanksNondominatedPinLaw", "hit", "([IIZ)I"⟩ : MethodName)) hown (mvT hZ (W 21 rfl)) (mvT hZ (W 22 rfl)) (mvT hZ (W 23 rfl)) (mvT hZ (W 24 rfl)) (by decide) (backOf (W := 1) (rm4b0 l Z a0 hw [] b264 i2 _ f0 f1 f2 f3 T301.heap n0 zs307 f305 hi2') hZ (W 24 rfl) (W 23 rfl) (by decide) (by decide)) (g := (mkF m 249 #[iv fr, iv pk, iv ln, rv b264, iv i0, iv i1, iv i2, iv i3, iv (0 : Int32), rv b284, rv b288, .unset] [(.int (0 : Int32)), (.int i2), (.ref b264), (.int (0 : Int32))])) rfl (by rw [hml]; rfl) (argsL := [(.ref b264), (.int i2), (.int (0 : Int32))]) (rest := [(.int (0 : Int32))]) (lenOf pd55 rfl) rfl (by show 2 * 0 + _ ≤ _; exact Nat.le_of_eq rfl) (hb hby at_249) (fun _ _ => ⟨rfl, eh310, (by decide : 4 + 0 ≤ _), (by decide : 10 + 0 ≤ _)⟩)
  dsimp only [Pt.U, Pt.locs, Pt.cells, Pt.slots] at X313 l313 y313 z313 st313 hQ313
  subst l313 y313 z313
  obtain ⟨rfl, Nq313, eh313⟩ := hQ313
  have N313 := Fr.app N310 Nq313
  have go314 : own_S p e below ST T313 (mkF m 252 #[iv fr, iv pk, iv ln, rv b264, iv i0, iv i1, iv i2, iv i3, iv (0 : Int32), rv b284, rv b288, .unset] [(.int (0 : Int32)), (.int (0 : Int32))]) := fun tt kt => go312 tt (st313 _ kt)
  have go315 : own_S p e below ST T313 (mkF m 267 #[iv fr, iv pk, iv ln, rv b264, iv i0, iv i1, iv i2, iv i3, iv (0 : Int32), rv b284, rv b288, .unset] [(.int (0 : Int32)), (.int i3), (.ref b264), (.int (0 : Int32))]) := fun tt kt => go314 tt (by
      refine XS.iadd X313.here hx rfl (hb hby at_252) rfl ?_
      refine XS.aloadN X313.here hx rfl (hb hby at_253) rfl rfl ?_
      refine XS.iload X313.here hx rfl (hb hby at_254) rfl ?_
      refine XS.iload X313.here hx rfl (hb hby at_256) rfl ?_
      refine XS.iconst X313.here hx rfl (hb hby at_258) ?_
      refine XS.icmpYes X313.here hx rfl (pc0 := 259) (pc' := 266) rfl (hb hby at_259) rfl (flt (by decide : ¬ ((3 : Int32) < (0 : Int32)))).2.2.2 (by decide) (by decide) ?_
      show Steps p.tables e below (T313.setTop (mkF m 266 #[iv fr, iv pk, iv ln, rv b264, iv i0, iv i1, iv i2, iv i3, iv (0 : Int32), rv b284, rv b288, .unset] [(.int i3), (.ref b264), (.int (0 : Int32))])) _
      refine XS.iconst X313.here hx rfl (hb hby at_266) ?_
      exact kt)
  obtain ⟨_, _, ⟨T316, L316, k316, n316⟩, -, X316, ⟨Lc316, hQ316, l316, y316, z316⟩, st316⟩ := Jvm.LawKit.callS X313 hx (y := (⟨"com/example/declination/declination/engine/RanksNondominatedPinLaw", "hit", "([IIZ)I"⟩ : MethodName)) hown (mvT hZ (W 21 rfl)) (mvT hZ (W 22 rfl)) (mvT hZ (W 23 rfl)) (mvT hZ (W 24 rfl)) (by decide) (backOf (W := 1) (rm4b0 l Z a0 hw [] b264 i3 _ f0 f1 f2 f3 T301.heap n0 zs307 f305 hi3') hZ (W 24 rfl) (W 23 rfl) (by decide) (by decide)) (g := (mkF m 267 #[iv fr, iv pk, iv ln, rv b264, iv i0, iv i1, iv i2, iv i3, iv (0 : Int32), rv b284, rv b288, .unset] [(.int (0 : Int32)), (.int i3), (.ref b264), (.int (0 : Int32))])) rfl (by rw [hml]; rfl) (argsL := [(.ref b264), (.int i3), (.int (0 : Int32))]) (rest := [(.int (0 : Int32))]) (lenOf pd55 rfl) rfl (by show 2 * 0 + _ ≤ _; exact Nat.le_of_eq rfl) (hb hby at_267) (fun _ _ => ⟨rfl, eh313, (by decide : 4 + 0 ≤ _), (by decide : 10 + 0 ≤ _)⟩)
  dsimp only [Pt.U, Pt.locs, Pt.cells, Pt.slots] at X316 l316 y316 z316 st316 hQ316
  subst l316 y316 z316
  obtain ⟨rfl, Nq316, eh316⟩ := hQ316
  have N316 := Fr.app N313 Nq316
  have go317 : own_S p e below ST T316 (mkF m 270 #[iv fr, iv pk, iv ln, rv b264, iv i0, iv i1, iv i2, iv i3, iv (0 : Int32), rv b284, rv b288, .unset] [(.int (0 : Int32)), (.int (0 : Int32))]) := fun tt kt => go315 tt (st316 _ kt)
  have go318 : own_S p e below ST T316 (mkF m 277 #[iv fr, iv pk, iv ln, rv b264, iv i0, iv i1, iv i2, iv i3, iv (0 : Int32), rv b284, rv b288, iv (0 : Int32)] [(.ref b284), (.ref b288)]) := fun tt kt => go317 tt (by
      refine XS.iadd X316.here hx rfl (hb hby at_270) rfl ?_
      refine XS.istore X316.here hx rfl (hb hby at_271) rfl (l' := #[iv fr, iv pk, iv ln, rv b264, iv i0, iv i1, iv i2, iv i3, iv (0 : Int32), rv b284, rv b288, iv (0 : Int32)]) rfl ?_
      refine XS.aload X316.here hx rfl (hb hby at_273) rfl rfl ?_
      refine XS.aload X316.here hx rfl (hb hby at_275) rfl rfl ?_
      exact kt)
  have f319 := ((f295.ext E293).keep K301 (ninS neb284_b288 nin0))
  have f321 := (f300.keep K301)
  obtain ⟨cq320, kq320, q320a, q320b, q320c⟩ := isOf hZ eh316 f321
  obtain ⟨_, _, ⟨T320, L320, k320, n320⟩, -, X320, ⟨Lc320, hQ320, l320, y320, z320⟩, st320⟩ := X316.virtualBack hx (y := (⟨"com/example/declination/declination/engine/Nsga2$Ranks", "nondominated", "([I)I"⟩ : MethodName)) (z := (⟨"com/example/declination/declination/engine/Nsga2$Ranks", "nondominated", "([I)I"⟩ : MethodName)) hown (mvT hZ (W 25 rfl)) (mvT hZ (W 26 rfl)) (notFace_of_selects (args := #[]) (mvT hZ (W 28 rfl))) (mvT hZ (W 28 rfl)) (mvT hZ (W 27 rfl)) (by decide) (backOf (W := 0) (rm5k0 l Z a0 hw [] b288 b284 b264 _ _ f0 f1 f2 f3 T301.heap n0 zs307 Fi301 f305 f319) hZ (W 29 rfl) (W 4 rfl) (by decide) (by decide)) q320a q320c (g := (mkF m 277 #[iv fr, iv pk, iv ln, rv b264, iv i0, iv i1, iv i2, iv i3, iv (0 : Int32), rv b284, rv b288, iv (0 : Int32)] [(.ref b284), (.ref b288)])) rfl (by rw [hml]; rfl) (Steps.refl _) (argsL := [(.ref b284)]) (rest := []) (lenOf pd56 rfl) rfl (by show 2 * 0 + _ ≤ _; exact Nat.le_of_eq rfl) (hb hby at_277) (fun _ _ => ⟨rfl, eh316, (by decide : 4 + 0 ≤ _), (by decide : 10 + 0 ≤ _)⟩)
  dsimp only [Pt.U, Pt.locs, Pt.cells, Pt.slots] at X320 l320 y320 z320 st320 hQ320
  subst l320 y320 z320
  obtain ⟨rfl, Nq320, eh320⟩ := hQ320
  have N320 := Fr.app N316 Nq320
  have go322 : own_S p e below ST T320 (mkF m 280 #[iv fr, iv pk, iv ln, rv b264, iv i0, iv i1, iv i2, iv i3, iv (0 : Int32), rv b284, rv b288, iv (0 : Int32)] [(.int 0)]) := fun tt kt => go318 tt (st320.trans kt)
  have go323 : own_S p e below ST T320 (mkF m 282 #[iv fr, iv pk, iv ln, rv b264, iv i0, iv i1, iv i2, iv i3, iv (0 : Int32), rv b284, rv b288, iv (0 : Int32)] [(.int (0 : Int32)), (.int 0)]) := fun tt kt => go322 tt (by
      refine XS.iload X320.here hx rfl (hb hby at_280) rfl ?_
      exact kt)
  have hfin : 0 = (0 : Int32) := by simp only [own_ah, Int32.add_zero, Int32.zero_add]
  have go324 : own_S p e below ST T320 (mkF m 290 #[iv fr, iv pk, iv ln, rv b264, iv i0, iv i1, iv i2, iv i3, iv (0 : Int32), rv b284, rv b288, iv (0 : Int32)] [(.int (1 : Int32))]) := fun tt kt => go323 tt (by
      refine XS.icmpNo X320.here hx rfl (hb hby at_282) rfl (teq hfin).2 ?_
      refine XS.iconst X320.here hx rfl (hb hby at_285) ?_
      refine XS.goto X320.here hx rfl (pc0 := 286) (pc' := 290) rfl (hb hby at_286) (by decide) (by decide) ?_
      exact kt)
  obtain ⟨fs, hr, hrun, hended, hW, hsame⟩ := X320.leave (v := some (.int (1 : Int32))) (fun h => by rw [Bd.returns] at h; cases h)
  refine ⟨_, _, pre0 _ (go324 _ ?_), hrun, hended, _, _, rfl, ?_, ⟨_, rfl⟩, hW, hsame.mono (by decide) (by decide)⟩
  · exact retN X320 hx (t := .boolean) Bd.returns (by simp) (hb hby at_290) hr
  · show Q0k0 Z fr pk ln h0 n0 _ T320.heap _
    rw [eh320]
    exact ⟨rfl, N320⟩
theorem ef0k1 (m : MethodId) (x0 : Int32) (x1 : Int32) (x2 : Int32) : entryFrame m #[(.int x0), (.int x1), (.int x2)] maxLocals = mkF m 0 #[.val (.int x0), .val (.int x1), .val (.int x2), .unset, .unset, .unset, .unset, .unset, .unset, .unset, .unset, .unset] [] := by first | (simp [entryFrame, mkF, argsToLocals, Value.category, maxLocals]; done) | rfl
def Q0k1 (Z : State) (fr : Int32) (pk : Int32) (ln : Int32) (h0 : Heap) (n0 : Nat) (v : Option Value) (h : Heap) (L : List Loc) : Prop := v = some (.int 1) ∧ Fr n0 L
set_option maxRecDepth 65536 in
set_option maxHeartbeats 40000000 in
theorem rm0k1 (l : Launch) (Z : State) (a0 : Array Value) (hw : ∀ d ∈ tables_1, d.before a0 Z = true) (ws : List Jvm.Cond) (fr : Int32) (pk : Int32) (ln : Int32) (h0 : Heap) (n0 : Nat) (Z0 : n0 ≤ h0.size) (hk : (ln &&& 2147483647) % 5 = 1) :
    MetFree l x (head1 (Jvm.Cond.code x code maxLocals ret :: ws) room_1) (fun aa UU => aa = #[(.int fr), (.int pk), (.int ln)] ∧ Z.Warmed39 UU.vm ∧ UU.heap = h0) (fun _ _ _ _ _ => True) (fun _ UU oo UU' => ∃ vv LL, oo = .returned vv ∧ Q0k1 Z fr pk ln h0 n0 vv UU'.heap LL ∧ FrameEnd UU oo UU' LL room_1.cells room_1.slots) := by
  have W : ∀ {d : Jvm.Cond} (i : Nat), tables_1[i]? = some d → d.before a0 Z = true := fun i h => hw _ (List.mem_of_getElem? h)
  refine MetFree.of_bodySF (plainFor_of_name pn15) hisR ?_
  intro p e s m args below meth c s₁ Bd hml0 hP hK
  obtain ⟨rfl, hZ, hh⟩ := hP
  have hx := Bd.exec
  have hby := Bd.bytes
  have hml : c.maxLocals = 12 := hml0
  have hown : s.vm.findClass "com/example/declination/declination/engine/RanksNondominatedPinLaw" = some m.cls := findClass_of_methodNamed Bd.named
  have hnm := (name_of_methodNamed Bd.named Bd.method).1
  have X0 : Stand p l e room_1 s m #[(.int fr), (.int pk), (.int ln)] below meth c s₁ [] 0 0 := Stand.of_body Bd
  have e0 : s₁.heap = h0 := by rw [← hh, Bd.state]; rfl
  have N0 := Fr.nil n0
  have pre0 : ∀ tt, Steps p.tables e below (s₁.setTop (mkF m 0 #[iv fr, iv pk, iv ln, .unset, .unset, .unset, .unset, .unset, .unset, .unset, .unset, .unset] [])) tt → Steps p.tables e below (s₁.setTop (entryFrame m #[(.int fr), (.int pk), (.int ln)] maxLocals)) tt := fun tt kt => castTop (ef0k1 m fr pk ln) kt
  obtain ⟨ST, hST⟩ : ∃ z : State, z = s₁.setTop (mkF m 0 #[iv fr, iv pk, iv ln, .unset, .unset, .unset, .unset, .unset, .unset, .unset, .unset, .unset] []) := ⟨_, rfl⟩
  rw [← hST] at pre0
  have go325 : own_S p e below ST s₁ (mkF m 1 #[iv fr, iv pk, iv ln, .unset, .unset, .unset, .unset, .unset, .unset, .unset, .unset, .unset] [(.int (4 : Int32))]) := fun tt kt => (by
      rw [hST]
      show Steps p.tables e below (s₁.setTop (mkF m 0 #[iv fr, iv pk, iv ln, .unset, .unset, .unset, .unset, .unset, .unset, .unset, .unset, .unset] [])) _
      refine XS.iconst X0.here hx rfl (hb hby at_0) ?_
      exact kt)
  obtain ⟨b326, g326⟩ : ∃ z, z = h0.size := ⟨_, rfl⟩
  obtain ⟨T326, h326, k326, X326, e326, E326, A326, st326⟩ := newP X0 hx hZ (W 0 rfl) e0 (g := (mkF m 1 #[iv fr, iv pk, iv ln, .unset, .unset, .unset, .unset, .unset, .unset, .unset, .unset, .unset] [(.int (4 : Int32))])) rfl (hb hby at_1) rfl (by decide) (cap := 4) (by decide) (by decide) (by decide) (by decide)
  rw [← g326] at A326 st326
  have ge_b326 : n0 ≤ b326 := Nat.le_trans Z0 (Nat.le_of_eq g326.symm)
  have V326 : Arv Z h326 b326 k326 .int (4 : Int32) [(.int (0 : Int32)), (.int (0 : Int32)), (.int (0 : Int32)), (.int (0 : Int32))] (.int (0 : Int32)) := (Arv.new A326 (by decide)).pad (pad_rep [] (.int (0 : Int32)) 4)
  have go327 : own_S p e below ST T326 (mkF m 3 #[iv fr, iv pk, iv ln, .unset, .unset, .unset, .unset, .unset, .unset, .unset, .unset, .unset] [(.ref b326)]) := fun tt kt => go325 tt (st326 _ kt)
  have go328 : own_S p e below ST T326 (mkF m 11 #[iv fr, iv pk, iv ln, rv b326, .unset, .unset, .unset, .unset, .unset, .unset, .unset, .unset] [(.int ((1 : Int32) + (fr &&& (3 : Int32)))), (.int (0 : Int32)), (.ref b326)]) := fun tt kt => go327 tt (by
      refine XS.astoreN X326.here hx rfl (hb hby at_3) rfl rfl (l' := #[iv fr, iv pk, iv ln, rv b326, .unset, .unset, .unset, .unset, .unset, .unset, .unset, .unset]) rfl ?_
      refine XS.aloadN X326.here hx rfl (hb hby at_4) rfl rfl ?_
      refine XS.iconst X326.here hx rfl (hb hby at_5) ?_
      refine XS.iconst X326.here hx rfl (hb hby at_6) ?_
      refine XS.iloadN X326.here hx rfl (hb hby at_7) rfl ?_
      refine XS.iconst X326.here hx rfl (hb hby at_8) ?_
      show Steps p.tables e below (T326.setTop (mkF m 9 #[iv fr, iv pk, iv ln, rv b326, .unset, .unset, .unset, .unset, .unset, .unset, .unset, .unset] [(.int (3 : Int32)), (.int fr), (.int (1 : Int32)), (.int (0 : Int32)), (.ref b326)])) _
      refine XS.iand X326.here hx rfl (hb hby at_9) rfl ?_
      refine XS.iadd X326.here hx rfl (hb hby at_10) rfl ?_
      exact kt)
  obtain ⟨f0, hf0⟩ : ∃ z : Int32, z = ((1 : Int32) + (fr &&& (3 : Int32))) := ⟨_, rfl⟩
  rw [← hf0] at go328
  obtain ⟨cl329, Ar329, q329, S329, M329, H329, G329⟩ := id V326
  have hin329 : ¬ ((0 : Int32) < 0 ∨ cl329.slots.size ≤ ((0 : Int32)).toNatClampNeg) := inb_of S329 ⟨by decide, by decide⟩
  obtain ⟨T329, h329, X329, e329, W329, st329⟩ := stI X326 hx hZ e326 Ar329 (j := (0 : Int32)) hin329 (g := (mkF m 11 #[iv fr, iv pk, iv ln, rv b326, .unset, .unset, .unset, .unset, .unset, .unset, .unset, .unset] [(.int f0), (.int (0 : Int32)), (.ref b326)])) rfl rfl (hb hby at_11)
  have V329 : Arv Z h329 b326 k326 .int (4 : Int32) [(.int f0), (.int (0 : Int32)), (.int (0 : Int32)), (.int (0 : Int32))] (.int (0 : Int32)) := Arv.set Ar329 q329 S329 M329 H329 G329 rfl W329 0 rfl (Nat.le_of_ble_eq_true rfl)
  have N329 := Fr.snoc X329 N0 ge_b326
  have go330 : own_S p e below ST T329 (mkF m 12 #[iv fr, iv pk, iv ln, rv b326, .unset, .unset, .unset, .unset, .unset, .unset, .unset, .unset] []) := fun tt kt => go328 tt (st329 _ kt)
  have go331 : own_S p e below ST T329 (mkF m 21 #[iv fr, iv pk, iv ln, rv b326, .unset, .unset, .unset, .unset, .unset, .unset, .unset, .unset] [(.int ((1 : Int32) + (((fr.toUInt32 >>> ((2 : Int32) &&& 31).toUInt32).toInt32) &&& (3 : Int32)))), (.int (1 : Int32)), (.ref b326)]) := fun tt kt => go330 tt (by
      refine XS.aloadN X329.here hx rfl (hb hby at_12) rfl rfl ?_
      refine XS.iconst X329.here hx rfl (hb hby at_13) ?_
      refine XS.iconst X329.here hx rfl (hb hby at_14) ?_
      refine XS.iloadN X329.here hx rfl (hb hby at_15) rfl ?_
      refine XS.iconst X329.here hx rfl (hb hby at_16) ?_
      refine XS.iushr X329.here hx rfl (hb hby at_17) rfl ?_
      show Steps p.tables e below (T329.setTop (mkF m 18 #[iv fr, iv pk, iv ln, rv b326, .unset, .unset, .unset, .unset, .unset, .unset, .unset, .unset] [(.int ((fr.toUInt32 >>> ((2 : Int32) &&& 31).toUInt32).toInt32)), (.int (1 : Int32)), (.int (1 : Int32)), (.ref b326)])) _
      refine XS.iconst X329.here hx rfl (hb hby at_18) ?_
      refine XS.iand X329.here hx rfl (hb hby at_19) rfl ?_
      refine XS.iadd X329.here hx rfl (hb hby at_20) rfl ?_
      exact kt)
  obtain ⟨f1, hf1⟩ : ∃ z : Int32, z = ((1 : Int32) + (((fr.toUInt32 >>> ((2 : Int32) &&& 31).toUInt32).toInt32) &&& (3 : Int32))) := ⟨_, rfl⟩
  rw [← hf1] at go331
  obtain ⟨cl332, Ar332, q332, S332, M332, H332, G332⟩ := id V329
  have hin332 : ¬ ((1 : Int32) < 0 ∨ cl332.slots.size ≤ ((1 : Int32)).toNatClampNeg) := inb_of S332 ⟨by decide, by decide⟩
  obtain ⟨T332, h332, X332, e332, W332, st332⟩ := stI X329 hx hZ e329 Ar332 (j := (1 : Int32)) hin332 (g := (mkF m 21 #[iv fr, iv pk, iv ln, rv b326, .unset, .unset, .unset, .unset, .unset, .unset, .unset, .unset] [(.int f1), (.int (1 : Int32)), (.ref b326)])) rfl rfl (hb hby at_21)
  have V332 : Arv Z h332 b326 k326 .int (4 : Int32) [(.int f0), (.int f1), (.int (0 : Int32)), (.int (0 : Int32))] (.int (0 : Int32)) := Arv.set Ar332 q332 S332 M332 H332 G332 rfl W332 1 rfl (Nat.le_of_ble_eq_true rfl)
  have N332 := Fr.snoc X332 N329 ge_b326
  have go333 : own_S p e below ST T332 (mkF m 22 #[iv fr, iv pk, iv ln, rv b326, .unset, .unset, .unset, .unset, .unset, .unset, .unset, .unset] []) := fun tt kt => go331 tt (st332 _ kt)
  have go334 : own_S p e below ST T332 (mkF m 31 #[iv fr, iv pk, iv ln, rv b326, .unset, .unset, .unset, .unset, .unset, .unset, .unset, .unset] [(.int ((1 : Int32) + (((fr.toUInt32 >>> ((4 : Int32) &&& 31).toUInt32).toInt32) &&& (3 : Int32)))), (.int (2 : Int32)), (.ref b326)]) := fun tt kt => go333 tt (by
      refine XS.aloadN X332.here hx rfl (hb hby at_22) rfl rfl ?_
      refine XS.iconst X332.here hx rfl (hb hby at_23) ?_
      refine XS.iconst X332.here hx rfl (hb hby at_24) ?_
      refine XS.iloadN X332.here hx rfl (hb hby at_25) rfl ?_
      refine XS.iconst X332.here hx rfl (hb hby at_26) ?_
      refine XS.iushr X332.here hx rfl (hb hby at_27) rfl ?_
      show Steps p.tables e below (T332.setTop (mkF m 28 #[iv fr, iv pk, iv ln, rv b326, .unset, .unset, .unset, .unset, .unset, .unset, .unset, .unset] [(.int ((fr.toUInt32 >>> ((4 : Int32) &&& 31).toUInt32).toInt32)), (.int (1 : Int32)), (.int (2 : Int32)), (.ref b326)])) _
      refine XS.iconst X332.here hx rfl (hb hby at_28) ?_
      refine XS.iand X332.here hx rfl (hb hby at_29) rfl ?_
      refine XS.iadd X332.here hx rfl (hb hby at_30) rfl ?_
      exact kt)
  obtain ⟨f2, hf2⟩ : ∃ z : Int32, z = ((1 : Int32) + (((fr.toUInt32 >>> ((4 : Int32) &&& 31).toUInt32).toInt32) &&& (3 : Int32))) := ⟨_, rfl⟩
  rw [← hf2] at go334
  obtain ⟨cl335, Ar335, q335, S335, M335, H335, G335⟩ := id V332
  have hin335 : ¬ ((2 : Int32) < 0 ∨ cl335.slots.size ≤ ((2 : Int32)).toNatClampNeg) := inb_of S335 ⟨by decide, by decide⟩
  obtain ⟨T335, h335, X335, e335, W335, st335⟩ := stI X332 hx hZ e332 Ar335 (j := (2 : Int32)) hin335 (g := (mkF m 31 #[iv fr, iv pk, iv ln, rv b326, .unset, .unset, .unset, .unset, .unset, .unset, .unset, .unset] [(.int f2), (.int (2 : Int32)), (.ref b326)])) rfl rfl (hb hby at_31)
  have V335 : Arv Z h335 b326 k326 .int (4 : Int32) [(.int f0), (.int f1), (.int f2), (.int (0 : Int32))] (.int (0 : Int32)) := Arv.set Ar335 q335 S335 M335 H335 G335 rfl W335 2 rfl (Nat.le_of_ble_eq_true rfl)
  have N335 := Fr.snoc X335 N332 ge_b326
  have go336 : own_S p e below ST T335 (mkF m 32 #[iv fr, iv pk, iv ln, rv b326, .unset, .unset, .unset, .unset, .unset, .unset, .unset, .unset] []) := fun tt kt => go334 tt (st335 _ kt)
  have go337 : own_S p e below ST T335 (mkF m 42 #[iv fr, iv pk, iv ln, rv b326, .unset, .unset, .unset, .unset, .unset, .unset, .unset, .unset] [(.int ((1 : Int32) + (((fr.toUInt32 >>> ((6 : Int32) &&& 31).toUInt32).toInt32) &&& (3 : Int32)))), (.int (3 : Int32)), (.ref b326)]) := fun tt kt => go336 tt (by
      refine XS.aloadN X335.here hx rfl (hb hby at_32) rfl rfl ?_
      refine XS.iconst X335.here hx rfl (hb hby at_33) ?_
      refine XS.iconst X335.here hx rfl (hb hby at_34) ?_
      refine XS.iloadN X335.here hx rfl (hb hby at_35) rfl ?_
      refine XS.bipush X335.here hx rfl (hb hby at_36) ?_
      refine XS.iushr X335.here hx rfl (hb hby at_38) rfl ?_
      show Steps p.tables e below (T335.setTop (mkF m 39 #[iv fr, iv pk, iv ln, rv b326, .unset, .unset, .unset, .unset, .unset, .unset, .unset, .unset] [(.int ((fr.toUInt32 >>> ((6 : Int32) &&& 31).toUInt32).toInt32)), (.int (1 : Int32)), (.int (3 : Int32)), (.ref b326)])) _
      refine XS.iconst X335.here hx rfl (hb hby at_39) ?_
      refine XS.iand X335.here hx rfl (hb hby at_40) rfl ?_
      refine XS.iadd X335.here hx rfl (hb hby at_41) rfl ?_
      exact kt)
  obtain ⟨f3, hf3⟩ : ∃ z : Int32, z = ((1 : Int32) + (((fr.toUInt32 >>> ((6 : Int32) &&& 31).toUInt32).toInt32) &&& (3 : Int32))) := ⟨_, rfl⟩
  rw [← hf3] at go337
  obtain ⟨cl338, Ar338, q338, S338, M338, H338, G338⟩ := id V335
  have hin338 : ¬ ((3 : Int32) < 0 ∨ cl338.slots.size ≤ ((3 : Int32)).toNatClampNeg) := inb_of S338 ⟨by decide, by decide⟩
  obtain ⟨T338, h338, X338, e338, W338, st338⟩ := stI X335 hx hZ e335 Ar338 (j := (3 : Int32)) hin338 (g := (mkF m 42 #[iv fr, iv pk, iv ln, rv b326, .unset, .unset, .unset, .unset, .unset, .unset, .unset, .unset] [(.int f3), (.int (3 : Int32)), (.ref b326)])) rfl rfl (hb hby at_42)
  have V338 : Arv Z h338 b326 k326 .int (4 : Int32) [(.int f0), (.int f1), (.int f2), (.int f3)] (.int (0 : Int32)) := Arv.set Ar338 q338 S338 M338 H338 G338 rfl W338 3 rfl (Nat.le_of_ble_eq_true rfl)
  have N338 := Fr.snoc X338 N335 ge_b326
  have go339 : own_S p e below ST T338 (mkF m 43 #[iv fr, iv pk, iv ln, rv b326, .unset, .unset, .unset, .unset, .unset, .unset, .unset, .unset] []) := fun tt kt => go337 tt (st338 _ kt)
  have go340 : own_S p e below ST T338 (mkF m 48 #[iv fr, iv pk, iv ln, rv b326, iv (pk &&& (3 : Int32)), .unset, .unset, .unset, .unset, .unset, .unset, .unset] []) := fun tt kt => go339 tt (by
      refine XS.iloadN X338.here hx rfl (hb hby at_43) rfl ?_
      refine XS.iconst X338.here hx rfl (hb hby at_44) ?_
      refine XS.iand X338.here hx rfl (hb hby at_45) rfl ?_
      refine XS.istore X338.here hx rfl (hb hby at_46) rfl (l' := #[iv fr, iv pk, iv ln, rv b326, iv (pk &&& (3 : Int32)), .unset, .unset, .unset, .unset, .unset, .unset, .unset]) rfl ?_
      exact kt)
  obtain ⟨i0, hi0⟩ : ∃ z : Int32, z = (pk &&& (3 : Int32)) := ⟨_, rfl⟩
  rw [← hi0] at go340
  have hi0' := own_4 _ i0 hi0
  have go341 : own_S p e below ST T338 (mkF m 55 #[iv fr, iv pk, iv ln, rv b326, iv i0, iv (((pk.toUInt32 >>> ((2 : Int32) &&& 31).toUInt32).toInt32) &&& (3 : Int32)), .unset, .unset, .unset, .unset, .unset, .unset] []) := fun tt kt => go340 tt (by
      refine XS.iloadN X338.here hx rfl (hb hby at_48) rfl ?_
      refine XS.iconst X338.here hx rfl (hb hby at_49) ?_
      refine XS.iushr X338.here hx rfl (hb hby at_50) rfl ?_
      refine XS.iconst X338.here hx rfl (hb hby at_51) ?_
      refine XS.iand X338.here hx rfl (hb hby at_52) rfl ?_
      refine XS.istore X338.here hx rfl (hb hby at_53) rfl (l' := #[iv fr, iv pk, iv ln, rv b326, iv i0, iv (((pk.toUInt32 >>> ((2 : Int32) &&& 31).toUInt32).toInt32) &&& (3 : Int32)), .unset, .unset, .unset, .unset, .unset, .unset]) rfl ?_
      exact kt)
  obtain ⟨i1, hi1⟩ : ∃ z : Int32, z = (((pk.toUInt32 >>> ((2 : Int32) &&& 31).toUInt32).toInt32) &&& (3 : Int32)) := ⟨_, rfl⟩
  rw [← hi1] at go341
  have hi1' := own_4 _ i1 hi1
  have go342 : own_S p e below ST T338 (mkF m 62 #[iv fr, iv pk, iv ln, rv b326, iv i0, iv i1, iv (((pk.toUInt32 >>> ((4 : Int32) &&& 31).toUInt32).toInt32) &&& (3 : Int32)), .unset, .unset, .unset, .unset, .unset] []) := fun tt kt => go341 tt (by
      refine XS.iloadN X338.here hx rfl (hb hby at_55) rfl ?_
      refine XS.iconst X338.here hx rfl (hb hby at_56) ?_
      refine XS.iushr X338.here hx rfl (hb hby at_57) rfl ?_
      refine XS.iconst X338.here hx rfl (hb hby at_58) ?_
      refine XS.iand X338.here hx rfl (hb hby at_59) rfl ?_
      refine XS.istore X338.here hx rfl (hb hby at_60) rfl (l' := #[iv fr, iv pk, iv ln, rv b326, iv i0, iv i1, iv (((pk.toUInt32 >>> ((4 : Int32) &&& 31).toUInt32).toInt32) &&& (3 : Int32)), .unset, .unset, .unset, .unset, .unset]) rfl ?_
      exact kt)
  obtain ⟨i2, hi2⟩ : ∃ z : Int32, z = (((pk.toUInt32 >>> ((4 : Int32) &&& 31).toUInt32).toInt32) &&& (3 : Int32)) := ⟨_, rfl⟩
  rw [← hi2] at go342
  have hi2' := own_4 _ i2 hi2
  have go343 : own_S p e below ST T338 (mkF m 70 #[iv fr, iv pk, iv ln, rv b326, iv i0, iv i1, iv i2, iv (((pk.toUInt32 >>> ((6 : Int32) &&& 31).toUInt32).toInt32) &&& (3 : Int32)), .unset, .unset, .unset, .unset] []) := fun tt kt => go342 tt (by
      refine XS.iloadN X338.here hx rfl (hb hby at_62) rfl ?_
      refine XS.bipush X338.here hx rfl (hb hby at_63) ?_
      refine XS.iushr X338.here hx rfl (hb hby at_65) rfl ?_
      refine XS.iconst X338.here hx rfl (hb hby at_66) ?_
      refine XS.iand X338.here hx rfl (hb hby at_67) rfl ?_
      refine XS.istore X338.here hx rfl (hb hby at_68) rfl (l' := #[iv fr, iv pk, iv ln, rv b326, iv i0, iv i1, iv i2, iv (((pk.toUInt32 >>> ((6 : Int32) &&& 31).toUInt32).toInt32) &&& (3 : Int32)), .unset, .unset, .unset, .unset]) rfl ?_
      exact kt)
  obtain ⟨i3, hi3⟩ : ∃ z : Int32, z = (((pk.toUInt32 >>> ((6 : Int32) &&& 31).toUInt32).toInt32) &&& (3 : Int32)) := ⟨_, rfl⟩
  rw [← hi3] at go343
  have hi3' := own_4 _ i3 hi3
  have go344 : own_S p e below ST T338 (mkF m 78 #[iv fr, iv pk, iv ln, rv b326, iv i0, iv i1, iv i2, iv i3, iv ((ln &&& (2147483647 : Int32)) % (5 : Int32)), .unset, .unset, .unset] []) := fun tt kt => go343 tt (by
      refine XS.iloadN X338.here hx rfl (hb hby at_70) rfl ?_
      refine X338.ldcInt hx hown (mvT hZ (W 1 rfl)) (g := (mkF m 71 #[iv fr, iv pk, iv ln, rv b326, iv i0, iv i1, iv i2, iv i3, .unset, .unset, .unset, .unset] [(.int ln)])) rfl (hb hby at_71) _ ?_
      refine XS.iand X338.here hx rfl (hb hby at_73) rfl ?_
      refine XS.iconst X338.here hx rfl (hb hby at_74) ?_
      refine iremM (g := (mkF m 75 #[iv fr, iv pk, iv ln, rv b326, iv i0, iv i1, iv i2, iv i3, .unset, .unset, .unset, .unset] [(.int (5 : Int32)), (.int (ln &&& (2147483647 : Int32)))])) X338 hx rfl (hb hby at_75) rfl (by decide) ?_
      refine XS.istore X338.here hx rfl (hb hby at_76) rfl (l' := #[iv fr, iv pk, iv ln, rv b326, iv i0, iv i1, iv i2, iv i3, iv ((ln &&& (2147483647 : Int32)) % (5 : Int32)), .unset, .unset, .unset]) rfl ?_
      exact kt)
  rw [hk] at go344
  have go345 : own_S p e below ST T338 (mkF m 98 #[iv fr, iv pk, iv ln, rv b326, iv i0, iv i1, iv i2, iv i3, iv (1 : Int32), .unset, .unset, .unset] [(.int (1 : Int32))]) := fun tt kt => go344 tt (by
      refine XS.iload X338.here hx rfl (hb hby at_78) rfl ?_
      refine XS.ifYes X338.here hx rfl (pc0 := 80) (pc' := 91) rfl (hb hby at_80) rfl ((if0 _ _).trans (feq (by decide : ¬ ((1 : Int32) = (0 : Int32)))).2) (by decide) (by decide) ?_
      refine XS.iload X338.here hx rfl (hb hby at_91) rfl ?_
      refine XS.iconst X338.here hx rfl (hb hby at_93) ?_
      refine XS.icmpNo X338.here hx rfl (hb hby at_94) rfl (teq (by decide : (1 : Int32) = (1 : Int32))).2 ?_
      refine XS.iconst X338.here hx rfl (hb hby at_97) ?_
      exact kt)
  have zs347 := (Nat.le_trans (Nat.le_trans (Nat.le_trans (Nat.le_trans (Nat.le_trans Z0 E326.1) (Keep.of_wr W329).1) (Keep.of_wr W332).1) (Keep.of_wr W335).1) (Keep.of_wr W338).1)
  obtain ⟨b346, g346⟩ : ∃ z, z = h338.size := ⟨_, rfl⟩
  obtain ⟨T346, h346, k346, X346, e346, E346, A346, st346⟩ := newP X338 hx hZ (W 0 rfl) e338 (g := (mkF m 98 #[iv fr, iv pk, iv ln, rv b326, iv i0, iv i1, iv i2, iv i3, iv (1 : Int32), .unset, .unset, .unset] [(.int (1 : Int32))])) rfl (hb hby at_98) rfl (by decide) (cap := 1) (by decide) (by decide) (by decide) (by decide)
  rw [← g346] at A346 st346
  have neb326_b346 : b326 ≠ b346 := Nat.ne_of_lt (Nat.lt_of_lt_of_le V338.lt (Nat.le_of_eq g346.symm))
  have ge_b346 : n0 ≤ b346 := Nat.le_trans zs347 (Nat.le_of_eq g346.symm)
  have V346 : Arv Z h346 b346 k346 .int (1 : Int32) [(.int (0 : Int32))] (.int (0 : Int32)) := (Arv.new A346 (by decide)).pad (pad_rep [] (.int (0 : Int32)) 1)
  have go348 : own_S p e below ST T346 (mkF m 100 #[iv fr, iv pk, iv ln, rv b326, iv i0, iv i1, iv i2, iv i3, iv (1 : Int32), .unset, .unset, .unset] [(.ref b346)]) := fun tt kt => go345 tt (st346 _ kt)
  have go349 : own_S p e below ST T346 (mkF m 104 #[iv fr, iv pk, iv ln, rv b326, iv i0, iv i1, iv i2, iv i3, iv (1 : Int32), .unset, .unset, .unset] [(.int i0), (.int (0 : Int32)), (.ref b346), (.ref b346)]) := fun tt kt => go348 tt (by
      refine XS.dup X346.here hx rfl (hb hby at_100) rfl rfl ?_
      refine XS.iconst X346.here hx rfl (hb hby at_101) ?_
      refine XS.iload X346.here hx rfl (hb hby at_102) rfl ?_
      exact kt)
  obtain ⟨cl350, Ar350, q350, S350, M350, H350, G350⟩ := id V346
  have hin350 : ¬ ((0 : Int32) < 0 ∨ cl350.slots.size ≤ ((0 : Int32)).toNatClampNeg) := inb_of S350 ⟨by decide, by decide⟩
  obtain ⟨T350, h350, X350, e350, W350, st350⟩ := stI X346 hx hZ e346 Ar350 (j := (0 : Int32)) hin350 (g := (mkF m 104 #[iv fr, iv pk, iv ln, rv b326, iv i0, iv i1, iv i2, iv i3, iv (1 : Int32), .unset, .unset, .unset] [(.int i0), (.int (0 : Int32)), (.ref b346), (.ref b346)])) rfl rfl (hb hby at_104)
  have V350 : Arv Z h350 b346 k346 .int (1 : Int32) [(.int i0)] (.int (0 : Int32)) := Arv.set Ar350 q350 S350 M350 H350 G350 rfl W350 0 rfl (Nat.le_of_ble_eq_true rfl)
  have N350 := Fr.snoc X350 N338 ge_b346
  have go351 : own_S p e below ST T350 (mkF m 105 #[iv fr, iv pk, iv ln, rv b326, iv i0, iv i1, iv i2, iv i3, iv (1 : Int32), .unset, .unset, .unset] [(.ref b346)]) := fun tt kt => go349 tt (st350 _ kt)
  have go352 : own_S p e below ST T350 (mkF m 188 #[iv fr, iv pk, iv ln, rv b326, iv i0, iv i1, iv i2, iv i3, iv (1 : Int32), rv b346, .unset, .unset] []) := fun tt kt => go351 tt (by
      refine XS.astore X350.here hx rfl (hb hby at_105) rfl rfl (l' := #[iv fr, iv pk, iv ln, rv b326, iv i0, iv i1, iv i2, iv i3, iv (1 : Int32), rv b346, .unset, .unset]) rfl ?_
      refine XS.goto X350.here hx rfl (pc0 := 107) (pc' := 188) rfl (hb hby at_107) (by decide) (by decide) ?_
      exact kt)
  have f354 := ((V338.ext E346).other W350 neb326_b346)
  have zs355 := (Nat.le_trans (Nat.le_trans zs347 E346.1) (Keep.of_wr W350).1)
  obtain ⟨b353, g353⟩ : ∃ z, z = h350.size := ⟨_, rfl⟩
  obtain ⟨T353, h353, X353, e353, E353, A353, D353, -, st353⟩ := newO X350 hx hZ hown (W 2 rfl) (W 3 rfl) (W 4 rfl) e350 (g := (mkF m 188 #[iv fr, iv pk, iv ln, rv b326, iv i0, iv i1, iv i2, iv i3, iv (1 : Int32), rv b346, .unset, .unset] [])) rfl (hb hby at_188) (by decide) (by decide)
  rw [← g353] at A353 D353 st353
  have neb326_b353 : b326 ≠ b353 := Nat.ne_of_lt (Nat.lt_of_lt_of_le f354.lt (Nat.le_of_eq g353.symm))
  have neb346_b353 : b346 ≠ b353 := Nat.ne_of_lt (Nat.lt_of_lt_of_le V350.lt (Nat.le_of_eq g353.symm))
  have ge_b353 : n0 ≤ b353 := Nat.le_trans zs355 (Nat.le_of_eq g353.symm)
  have F353_front : Fld Z h353 b353 "com/example/declination/declination/engine/Nsga2$Ranks" "front" "[I" .null := D353 (Or.inr (W 18 rfl)) (ty := (.array .int)) (by decide)
  have F353_crowding : Fld Z h353 b353 "com/example/declination/declination/engine/Nsga2$Ranks" "crowding" "[D" .null := D353 (Or.inr (W 20 rfl)) (ty := (.array .double)) (by decide)
  have go356 : own_S p e below ST T353 (mkF m 191 #[iv fr, iv pk, iv ln, rv b326, iv i0, iv i1, iv i2, iv i3, iv (1 : Int32), rv b346, .unset, .unset] [(.ref b353)]) := fun tt kt => go352 tt (st353 _ kt)
  have go357 : own_S p e below ST T353 (mkF m 194 #[iv fr, iv pk, iv ln, rv b326, iv i0, iv i1, iv i2, iv i3, iv (1 : Int32), rv b346, .unset, .unset] [(.int (4 : Int32)), (.ref b326), (.ref b353), (.ref b353)]) := fun tt kt => go356 tt (by
      refine XS.dup X353.here hx rfl (hb hby at_191) rfl rfl ?_
      refine XS.aloadN X353.here hx rfl (hb hby at_192) rfl rfl ?_
      refine XS.iconst X353.here hx rfl (hb hby at_193) ?_
      exact kt)
  have f359 := (f354.ext E353)
  have f360 := (V350.ext E353)
  have zs361 := (Nat.le_trans zs355 E353.1)
  obtain ⟨b358, g358⟩ : ∃ z, z = h353.size := ⟨_, rfl⟩
  obtain ⟨T358, h358, k358, X358, e358, E358, A358, st358⟩ := newP X353 hx hZ (W 5 rfl) e353 (g := (mkF m 194 #[iv fr, iv pk, iv ln, rv b326, iv i0, iv i1, iv i2, iv i3, iv (1 : Int32), rv b346, .unset, .unset] [(.int (4 : Int32)), (.ref b326), (.ref b353), (.ref b353)])) rfl (hb hby at_194) rfl (by decide) (cap := 4) (by decide) (by decide) (by decide) (by decide)
  rw [← g358] at A358 st358
  have neb326_b358 : b326 ≠ b358 := Nat.ne_of_lt (Nat.lt_of_lt_of_le f359.lt (Nat.le_of_eq g358.symm))
  have neb346_b358 : b346 ≠ b358 := Nat.ne_of_lt (Nat.lt_of_lt_of_le f360.lt (Nat.le_of_eq g358.symm))
  have neb353_b358 : b353 ≠ b358 := Nat.ne_of_lt (Nat.lt_of_lt_of_le A353.lt (Nat.le_of_eq g358.symm))
  have ge_b358 : n0 ≤ b358 := Nat.le_trans zs361 (Nat.le_of_eq g358.symm)
  have V358 : Arv Z h358 b358 k358 .double (4 : Int32) [(.double 0), (.double 0), (.double 0), (.double 0)] (.double 0) := (Arv.new A358 (by decide)).pad (pad_rep [] (.double 0) 4)
  have go362 : own_S p e below ST T358 (mkF m 196 #[iv fr, iv pk, iv ln, rv b326, iv i0, iv i1, iv i2, iv i3, iv (1 : Int32), rv b346, .unset, .unset] [(.ref b358), (.ref b326), (.ref b353), (.ref b353)]) := fun tt kt => go357 tt (st358 _ kt)
  have f363 := (F353_front.ext E358)
  have f364 := (F353_crowding.ext E358)
  have f365 := (A353.ext E358)
  have zs367 := (Nat.le_trans zs361 E358.1)
  obtain ⟨_, _, ⟨T366, L366, k366, n366⟩, -, X366, ⟨Lc366, hQ366, l366, y366, z366⟩, st366⟩ := X358.specialBack hx (y := (⟨"com/example/declination/declination/engine/Nsga2$Ranks", "<init>", "([I[D)V"⟩ : MethodName)) rfl hown (mvT hZ (W 6 rfl)) (mvT hZ (W 7 rfl)) (mvT hZ (W 8 rfl)) (by decide) (backOf (W := 1) (rm1 l Z a0 hw [] b353 b326 b358 _ _ h358 n0 zs367 f363 f364 f365 ge_b353) hZ (W 8 rfl) (W 4 rfl) (by decide) (by decide)) (g := (mkF m 196 #[iv fr, iv pk, iv ln, rv b326, iv i0, iv i1, iv i2, iv i3, iv (1 : Int32), rv b346, .unset, .unset] [(.ref b358), (.ref b326), (.ref b353), (.ref b353)])) rfl (by rw [hml]; rfl) (Steps.refl _) (a := b353) (argsL := [(.ref b326), (.ref b358)]) (rest := [(.ref b353)]) (lenOf pd54 rfl) rfl (by show 2 * 0 + _ ≤ _; exact Nat.le_of_eq rfl) (hb hby at_196) (fun _ _ => ⟨rfl, e358, (by decide : 4 + 0 ≤ _), (by decide : 11 + 0 ≤ _)⟩)
  dsimp only [Pt.U, Pt.locs, Pt.cells, Pt.slots] at X366 l366 y366 z366 st366 hQ366
  subst l366 y366 z366
  obtain ⟨rfl, Nq366, K366, Fi366⟩ := hQ366
  have N366 := Fr.app N350 Nq366
  have go368 : own_S p e below ST T366 (mkF m 199 #[iv fr, iv pk, iv ln, rv b326, iv i0, iv i1, iv i2, iv i3, iv (1 : Int32), rv b346, .unset, .unset] [(.ref b353)]) := fun tt kt => go362 tt (st366.trans kt)
  have go369 : own_S p e below ST T366 (mkF m 214 #[iv fr, iv pk, iv ln, rv b326, iv i0, iv i1, iv i2, iv i3, iv (1 : Int32), rv b346, rv b353, .unset] [(.int (1 : Int32)), (.int i0), (.ref b326)]) := fun tt kt => go368 tt (by
      refine XS.astore X366.here hx rfl (hb hby at_199) rfl rfl (l' := #[iv fr, iv pk, iv ln, rv b326, iv i0, iv i1, iv i2, iv i3, iv (1 : Int32), rv b346, rv b353, .unset]) rfl ?_
      refine XS.aloadN X366.here hx rfl (hb hby at_201) rfl rfl ?_
      refine XS.iload X366.here hx rfl (hb hby at_202) rfl ?_
      refine XS.iload X366.here hx rfl (hb hby at_204) rfl ?_
      refine XS.ifNo X366.here hx rfl (hb hby at_206) rfl ((if0 _ _).trans (tlt (by decide : (0 : Int32) < (1 : Int32))).2.2.2) ?_
      refine XS.iconst X366.here hx rfl (hb hby at_209) ?_
      show Steps p.tables e below (T366.setTop (mkF m 210 #[iv fr, iv pk, iv ln, rv b326, iv i0, iv i1, iv i2, iv i3, iv (1 : Int32), rv b346, rv b353, .unset] [(.int (1 : Int32)), (.int i0), (.ref b326)])) _
      refine XS.goto X366.here hx rfl (pc0 := 210) (pc' := 214) rfl (hb hby at_210) (by decide) (by decide) ?_
      exact kt)
  have f370 := ((f359.ext E358).keep K366 (ninS neb326_b353 nin0))
  have zs372 := (Nat.le_trans zs367 K366.1)
  obtain ⟨_, _, ⟨T371, L371, k371, n371⟩, -, X371, ⟨Lc371, hQ371, l371, y371, z371⟩, st371⟩ := Jvm.LawKit.callS X366 hx (y := (⟨"com/example/declination/declination/engine/RanksNondominatedPinLaw", "hit", "([IIZ)I"⟩ : MethodName)) hown (mvT hZ (W 21 rfl)) (mvT hZ (W 22 rfl)) (mvT hZ (W 23 rfl)) (mvT hZ (W 24 rfl)) (by decide) (backOf (W := 0) (rm4b1 l Z a0 hw [] b326 i0 _ f0 f1 f2 f3 T366.heap n0 zs372 f370 hi0') hZ (W 24 rfl) (W 23 rfl) (by decide) (by decide)) (g := (mkF m 214 #[iv fr, iv pk, iv ln, rv b326, iv i0, iv i1, iv i2, iv i3, iv (1 : Int32), rv b346, rv b353, .unset] [(.int (1 : Int32)), (.int i0), (.ref b326)])) rfl (by rw [hml]; rfl) (argsL := [(.ref b326), (.int i0), (.int (1 : Int32))]) (rest := []) (lenOf pd55 rfl) rfl (by show 2 * 0 + _ ≤ _; exact Nat.le_of_eq rfl) (hb hby at_214) (fun _ _ => ⟨rfl, rfl, (by decide : 4 + 0 ≤ _), (by decide : 11 + 0 ≤ _)⟩)
  dsimp only [Pt.U, Pt.locs, Pt.cells, Pt.slots] at X371 l371 y371 z371 st371 hQ371
  subst l371 y371 z371
  obtain ⟨rfl, Nq371, eh371⟩ := hQ371
  have N371 := Fr.app N366 Nq371
  have go373 : own_S p e below ST T371 (mkF m 217 #[iv fr, iv pk, iv ln, rv b326, iv i0, iv i1, iv i2, iv i3, iv (1 : Int32), rv b346, rv b353, .unset] [(.int (own_hit (own_pick i0 f0 f1 f2 f3)))]) := fun tt kt => go369 tt (st371 _ kt)
  have go374 : own_S p e below ST T371 (mkF m 231 #[iv fr, iv pk, iv ln, rv b326, iv i0, iv i1, iv i2, iv i3, iv (1 : Int32), rv b346, rv b353, .unset] [(.int (0 : Int32)), (.int i1), (.ref b326), (.int (own_hit (own_pick i0 f0 f1 f2 f3)))]) := fun tt kt => go373 tt (by
      refine XS.aloadN X371.here hx rfl (hb hby at_217) rfl rfl ?_
      refine XS.iload X371.here hx rfl (hb hby at_218) rfl ?_
      refine XS.iload X371.here hx rfl (hb hby at_220) rfl ?_
      refine XS.iconst X371.here hx rfl (hb hby at_222) ?_
      refine XS.icmpYes X371.here hx rfl (pc0 := 223) (pc' := 230) rfl (hb hby at_223) rfl (flt (by decide : ¬ ((1 : Int32) < (1 : Int32)))).2.2.2 (by decide) (by decide) ?_
      refine XS.iconst X371.here hx rfl (hb hby at_230) ?_
      exact kt)
  obtain ⟨_, _, ⟨T375, L375, k375, n375⟩, -, X375, ⟨Lc375, hQ375, l375, y375, z375⟩, st375⟩ := Jvm.LawKit.callS X371 hx (y := (⟨"com/example/declination/declination/engine/RanksNondominatedPinLaw", "hit", "([IIZ)I"⟩ : MethodName)) hown (mvT hZ (W 21 rfl)) (mvT hZ (W 22 rfl)) (mvT hZ (W 23 rfl)) (mvT hZ (W 24 rfl)) (by decide) (backOf (W := 1) (rm4b0 l Z a0 hw [] b326 i1 _ f0 f1 f2 f3 T366.heap n0 zs372 f370 hi1') hZ (W 24 rfl) (W 23 rfl) (by decide) (by decide)) (g := (mkF m 231 #[iv fr, iv pk, iv ln, rv b326, iv i0, iv i1, iv i2, iv i3, iv (1 : Int32), rv b346, rv b353, .unset] [(.int (0 : Int32)), (.int i1), (.ref b326), (.int (own_hit (own_pick i0 f0 f1 f2 f3)))])) rfl (by rw [hml]; rfl) (argsL := [(.ref b326), (.int i1), (.int (0 : Int32))]) (rest := [(.int (own_hit (own_pick i0 f0 f1 f2 f3)))]) (lenOf pd55 rfl) rfl (by show 2 * 0 + _ ≤ _; exact Nat.le_of_eq rfl) (hb hby at_231) (fun _ _ => ⟨rfl, eh371, (by decide : 4 + 0 ≤ _), (by decide : 11 + 0 ≤ _)⟩)
  dsimp only [Pt.U, Pt.locs, Pt.cells, Pt.slots] at X375 l375 y375 z375 st375 hQ375
  subst l375 y375 z375
  obtain ⟨rfl, Nq375, eh375⟩ := hQ375
  have N375 := Fr.app N371 Nq375
  have go376 : own_S p e below ST T375 (mkF m 234 #[iv fr, iv pk, iv ln, rv b326, iv i0, iv i1, iv i2, iv i3, iv (1 : Int32), rv b346, rv b353, .unset] [(.int (0 : Int32)), (.int (own_hit (own_pick i0 f0 f1 f2 f3)))]) := fun tt kt => go374 tt (st375 _ kt)
  have go377 : own_S p e below ST T375 (mkF m 249 #[iv fr, iv pk, iv ln, rv b326, iv i0, iv i1, iv i2, iv i3, iv (1 : Int32), rv b346, rv b353, .unset] [(.int (0 : Int32)), (.int i2), (.ref b326), (.int ((own_hit (own_pick i0 f0 f1 f2 f3)) + (0 : Int32)))]) := fun tt kt => go376 tt (by
      refine XS.iadd X375.here hx rfl (hb hby at_234) rfl ?_
      refine XS.aloadN X375.here hx rfl (hb hby at_235) rfl rfl ?_
      refine XS.iload X375.here hx rfl (hb hby at_236) rfl ?_
      refine XS.iload X375.here hx rfl (hb hby at_238) rfl ?_
      refine XS.iconst X375.here hx rfl (hb hby at_240) ?_
      refine XS.icmpYes X375.here hx rfl (pc0 := 241) (pc' := 248) rfl (hb hby at_241) rfl (flt (by decide : ¬ ((2 : Int32) < (1 : Int32)))).2.2.2 (by decide) (by decide) ?_
      show Steps p.tables e below (T375.setTop (mkF m 248 #[iv fr, iv pk, iv ln, rv b326, iv i0, iv i1, iv i2, iv i3, iv (1 : Int32), rv b346, rv b353, .unset] [(.int i2), (.ref b326), (.int ((own_hit (own_pick i0 f0 f1 f2 f3)) + (0 : Int32)))])) _
      refine XS.iconst X375.here hx rfl (hb hby at_248) ?_
      exact kt)
  obtain ⟨_, _, ⟨T378, L378, k378, n378⟩, -, X378, ⟨Lc378, hQ378, l378, y378, z378⟩, st378⟩ := Jvm.LawKit.callS X375 hx (y := (⟨"com/example/declination/declination/engine/RanksNondominatedPinLaw", "hit", "([IIZ)I"⟩ : MethodName)) hown (mvT hZ (W 21 rfl)) (mvT hZ (W 22 rfl)) (mvT hZ (W 23 rfl)) (mvT hZ (W 24 rfl)) (by decide) (backOf (W := 1) (rm4b0 l Z a0 hw [] b326 i2 _ f0 f1 f2 f3 T366.heap n0 zs372 f370 hi2') hZ (W 24 rfl) (W 23 rfl) (by decide) (by decide)) (g := (mkF m 249 #[iv fr, iv pk, iv ln, rv b326, iv i0, iv i1, iv i2, iv i3, iv (1 : Int32), rv b346, rv b353, .unset] [(.int (0 : Int32)), (.int i2), (.ref b326), (.int ((own_hit (own_pick i0 f0 f1 f2 f3)) + (0 : Int32)))])) rfl (by rw [hml]; rfl) (argsL := [(.ref b326), (.int i2), (.int (0 : Int32))]) (rest := [(.int ((own_hit (own_pick i0 f0 f1 f2 f3)) + (0 : Int32)))]) (lenOf pd55 rfl) rfl (by show 2 * 0 + _ ≤ _; exact Nat.le_of_eq rfl) (hb hby at_249) (fun _ _ => ⟨rfl, eh375, (by decide : 4 + 0 ≤ _), (by decide : 11 + 0 ≤ _)⟩)
  dsimp only [Pt.U, Pt.locs, Pt.cells, Pt.slots] at X378 l378 y378 z378 st378 hQ378
  subst l378 y378 z378
  obtain ⟨rfl, Nq378, eh378⟩ := hQ378
  have N378 := Fr.app N375 Nq378
  have go379 : own_S p e below ST T378 (mkF m 252 #[iv fr, iv pk, iv ln, rv b326, iv i0, iv i1, iv i2, iv i3, iv (1 : Int32), rv b346, rv b353, .unset] [(.int (0 : Int32)), (.int ((own_hit (own_pick i0 f0 f1 f2 f3)) + (0 : Int32)))]) := fun tt kt => go377 tt (st378 _ kt)
  have go380 : own_S p e below ST T378 (mkF m 267 #[iv fr, iv pk, iv ln, rv b326, iv i0, iv i1, iv i2, iv i3, iv (1 : Int32), rv b346, rv b353, .unset] [(.int (0 : Int32)), (.int i3), (.ref b326), (.int (((own_hit (own_pick i0 f0 f1 f2 f3)) + (0 : Int32)) + (0 : Int32)))]) := fun tt kt => go379 tt (by
      refine XS.iadd X378.here hx rfl (hb hby at_252) rfl ?_
      refine XS.aloadN X378.here hx rfl (hb hby at_253) rfl rfl ?_
      refine XS.iload X378.here hx rfl (hb hby at_254) rfl ?_
      refine XS.iload X378.here hx rfl (hb hby at_256) rfl ?_
      refine XS.iconst X378.here hx rfl (hb hby at_258) ?_
      refine XS.icmpYes X378.here hx rfl (pc0 := 259) (pc' := 266) rfl (hb hby at_259) rfl (flt (by decide : ¬ ((3 : Int32) < (1 : Int32)))).2.2.2 (by decide) (by decide) ?_
      show Steps p.tables e below (T378.setTop (mkF m 266 #[iv fr, iv pk, iv ln, rv b326, iv i0, iv i1, iv i2, iv i3, iv (1 : Int32), rv b346, rv b353, .unset] [(.int i3), (.ref b326), (.int (((own_hit (own_pick i0 f0 f1 f2 f3)) + (0 : Int32)) + (0 : Int32)))])) _
      refine XS.iconst X378.here hx rfl (hb hby at_266) ?_
      exact kt)
  obtain ⟨_, _, ⟨T381, L381, k381, n381⟩, -, X381, ⟨Lc381, hQ381, l381, y381, z381⟩, st381⟩ := Jvm.LawKit.callS X378 hx (y := (⟨"com/example/declination/declination/engine/RanksNondominatedPinLaw", "hit", "([IIZ)I"⟩ : MethodName)) hown (mvT hZ (W 21 rfl)) (mvT hZ (W 22 rfl)) (mvT hZ (W 23 rfl)) (mvT hZ (W 24 rfl)) (by decide) (backOf (W := 1) (rm4b0 l Z a0 hw [] b326 i3 _ f0 f1 f2 f3 T366.heap n0 zs372 f370 hi3') hZ (W 24 rfl) (W 23 rfl) (by decide) (by decide)) (g := (mkF m 267 #[iv fr, iv pk, iv ln, rv b326, iv i0, iv i1, iv i2, iv i3, iv (1 : Int32), rv b346, rv b353, .unset] [(.int (0 : Int32)), (.int i3), (.ref b326), (.int (((own_hit (own_pick i0 f0 f1 f2 f3)) + (0 : Int32)) + (0 : Int32)))])) rfl (by rw [hml]; rfl) (argsL := [(.ref b326), (.int i3), (.int (0 : Int32))]) (rest := [(.int (((own_hit (own_pick i0 f0 f1 f2 f3)) + (0 : Int32)) + (0 : Int32)))]) (lenOf pd55 rfl) rfl (by show 2 * 0 + _ ≤ _; exact Nat.le_of_eq rfl) (hb hby at_267) (fun _ _ => ⟨rfl, eh378, (by decide : 4 + 0 ≤ _), (by decide : 11 + 0 ≤ _)⟩)
  dsimp only [Pt.U, Pt.locs, Pt.cells, Pt.slots] at X381 l381 y381 z381 st381 hQ381
  subst l381 y381 z381
  obtain ⟨rfl, Nq381, eh381⟩ := hQ381
  have N381 := Fr.app N378 Nq381
  have go382 : own_S p e below ST T381 (mkF m 270 #[iv fr, iv pk, iv ln, rv b326, iv i0, iv i1, iv i2, iv i3, iv (1 : Int32), rv b346, rv b353, .unset] [(.int (0 : Int32)), (.int (((own_hit (own_pick i0 f0 f1 f2 f3)) + (0 : Int32)) + (0 : Int32)))]) := fun tt kt => go380 tt (st381 _ kt)
  have go383 : own_S p e below ST T381 (mkF m 277 #[iv fr, iv pk, iv ln, rv b326, iv i0, iv i1, iv i2, iv i3, iv (1 : Int32), rv b346, rv b353, iv ((((own_hit (own_pick i0 f0 f1 f2 f3)) + (0 : Int32)) + (0 : Int32)) + (0 : Int32))] [(.ref b346), (.ref b353)]) := fun tt kt => go382 tt (by
      refine XS.iadd X381.here hx rfl (hb hby at_270) rfl ?_
      refine XS.istore X381.here hx rfl (hb hby at_271) rfl (l' := #[iv fr, iv pk, iv ln, rv b326, iv i0, iv i1, iv i2, iv i3, iv (1 : Int32), rv b346, rv b353, iv ((((own_hit (own_pick i0 f0 f1 f2 f3)) + (0 : Int32)) + (0 : Int32)) + (0 : Int32))]) rfl ?_
      refine XS.aload X381.here hx rfl (hb hby at_273) rfl rfl ?_
      refine XS.aload X381.here hx rfl (hb hby at_275) rfl rfl ?_
      exact kt)
  have f384 := ((f360.ext E358).keep K366 (ninS neb346_b353 nin0))
  have f386 := (f365.keep K366)
  obtain ⟨cq385, kq385, q385a, q385b, q385c⟩ := isOf hZ eh381 f386
  obtain ⟨_, _, ⟨T385, L385, k385, n385⟩, -, X385, ⟨Lc385, hQ385, l385, y385, z385⟩, st385⟩ := X381.virtualBack hx (y := (⟨"com/example/declination/declination/engine/Nsga2$Ranks", "nondominated", "([I)I"⟩ : MethodName)) (z := (⟨"com/example/declination/declination/engine/Nsga2$Ranks", "nondominated", "([I)I"⟩ : MethodName)) hown (mvT hZ (W 25 rfl)) (mvT hZ (W 26 rfl)) (notFace_of_selects (args := #[]) (mvT hZ (W 28 rfl))) (mvT hZ (W 28 rfl)) (mvT hZ (W 27 rfl)) (by decide) (backOf (W := 0) (rm5k1 l Z a0 hw [] b353 b346 b326 _ _ f0 f1 f2 f3 i0 T366.heap n0 zs372 Fi366 f370 f384 hi0') hZ (W 29 rfl) (W 4 rfl) (by decide) (by decide)) q385a q385c (g := (mkF m 277 #[iv fr, iv pk, iv ln, rv b326, iv i0, iv i1, iv i2, iv i3, iv (1 : Int32), rv b346, rv b353, iv ((((own_hit (own_pick i0 f0 f1 f2 f3)) + (0 : Int32)) + (0 : Int32)) + (0 : Int32))] [(.ref b346), (.ref b353)])) rfl (by rw [hml]; rfl) (Steps.refl _) (argsL := [(.ref b346)]) (rest := []) (lenOf pd56 rfl) rfl (by show 2 * 0 + _ ≤ _; exact Nat.le_of_eq rfl) (hb hby at_277) (fun _ _ => ⟨rfl, eh381, (by decide : 4 + 0 ≤ _), (by decide : 11 + 0 ≤ _)⟩)
  dsimp only [Pt.U, Pt.locs, Pt.cells, Pt.slots] at X385 l385 y385 z385 st385 hQ385
  subst l385 y385 z385
  obtain ⟨rfl, Nq385, eh385⟩ := hQ385
  have N385 := Fr.app N381 Nq385
  have go387 : own_S p e below ST T385 (mkF m 280 #[iv fr, iv pk, iv ln, rv b326, iv i0, iv i1, iv i2, iv i3, iv (1 : Int32), rv b346, rv b353, iv ((((own_hit (own_pick i0 f0 f1 f2 f3)) + (0 : Int32)) + (0 : Int32)) + (0 : Int32))] [(.int (own_add 0 (own_pick i0 f0 f1 f2 f3)))]) := fun tt kt => go383 tt (st385.trans kt)
  have go388 : own_S p e below ST T385 (mkF m 282 #[iv fr, iv pk, iv ln, rv b326, iv i0, iv i1, iv i2, iv i3, iv (1 : Int32), rv b346, rv b353, iv ((((own_hit (own_pick i0 f0 f1 f2 f3)) + (0 : Int32)) + (0 : Int32)) + (0 : Int32))] [(.int ((((own_hit (own_pick i0 f0 f1 f2 f3)) + (0 : Int32)) + (0 : Int32)) + (0 : Int32))), (.int (own_add 0 (own_pick i0 f0 f1 f2 f3)))]) := fun tt kt => go387 tt (by
      refine XS.iload X385.here hx rfl (hb hby at_280) rfl ?_
      exact kt)
  have hfin : (own_add 0 (own_pick i0 f0 f1 f2 f3)) = ((((own_hit (own_pick i0 f0 f1 f2 f3)) + (0 : Int32)) + (0 : Int32)) + (0 : Int32)) := by simp only [own_ah, Int32.add_zero, Int32.zero_add]
  have go389 : own_S p e below ST T385 (mkF m 290 #[iv fr, iv pk, iv ln, rv b326, iv i0, iv i1, iv i2, iv i3, iv (1 : Int32), rv b346, rv b353, iv ((((own_hit (own_pick i0 f0 f1 f2 f3)) + (0 : Int32)) + (0 : Int32)) + (0 : Int32))] [(.int (1 : Int32))]) := fun tt kt => go388 tt (by
      refine XS.icmpNo X385.here hx rfl (hb hby at_282) rfl (teq hfin).2 ?_
      refine XS.iconst X385.here hx rfl (hb hby at_285) ?_
      refine XS.goto X385.here hx rfl (pc0 := 286) (pc' := 290) rfl (hb hby at_286) (by decide) (by decide) ?_
      exact kt)
  obtain ⟨fs, hr, hrun, hended, hW, hsame⟩ := X385.leave (v := some (.int (1 : Int32))) (fun h => by rw [Bd.returns] at h; cases h)
  refine ⟨_, _, pre0 _ (go389 _ ?_), hrun, hended, _, _, rfl, ?_, ⟨_, rfl⟩, hW, hsame.mono (by decide) (by decide)⟩
  · exact retN X385 hx (t := .boolean) Bd.returns (by simp) (hb hby at_290) hr
  · show Q0k1 Z fr pk ln h0 n0 _ T385.heap _
    rw [eh385]
    exact ⟨rfl, N385⟩
theorem ef0k2 (m : MethodId) (x0 : Int32) (x1 : Int32) (x2 : Int32) : entryFrame m #[(.int x0), (.int x1), (.int x2)] maxLocals = mkF m 0 #[.val (.int x0), .val (.int x1), .val (.int x2), .unset, .unset, .unset, .unset, .unset, .unset, .unset, .unset, .unset] [] := by first | (simp [entryFrame, mkF, argsToLocals, Value.category, maxLocals]; done) | rfl
def Q0k2 (Z : State) (fr : Int32) (pk : Int32) (ln : Int32) (h0 : Heap) (n0 : Nat) (v : Option Value) (h : Heap) (L : List Loc) : Prop := v = some (.int 1) ∧ Fr n0 L
set_option maxRecDepth 65536 in
set_option maxHeartbeats 40000000 in
theorem rm0k2 (l : Launch) (Z : State) (a0 : Array Value) (hw : ∀ d ∈ tables_1, d.before a0 Z = true) (ws : List Jvm.Cond) (fr : Int32) (pk : Int32) (ln : Int32) (h0 : Heap) (n0 : Nat) (Z0 : n0 ≤ h0.size) (hk : (ln &&& 2147483647) % 5 = 2) :
    MetFree l x (head1 (Jvm.Cond.code x code maxLocals ret :: ws) room_1) (fun aa UU => aa = #[(.int fr), (.int pk), (.int ln)] ∧ Z.Warmed39 UU.vm ∧ UU.heap = h0) (fun _ _ _ _ _ => True) (fun _ UU oo UU' => ∃ vv LL, oo = .returned vv ∧ Q0k2 Z fr pk ln h0 n0 vv UU'.heap LL ∧ FrameEnd UU oo UU' LL room_1.cells room_1.slots) := by
  have W : ∀ {d : Jvm.Cond} (i : Nat), tables_1[i]? = some d → d.before a0 Z = true := fun i h => hw _ (List.mem_of_getElem? h)
  refine MetFree.of_bodySF (plainFor_of_name pn15) hisR ?_
  intro p e s m args below meth c s₁ Bd hml0 hP hK
  obtain ⟨rfl, hZ, hh⟩ := hP
  have hx := Bd.exec
  have hby := Bd.bytes
  have hml : c.maxLocals = 12 := hml0
  have hown : s.vm.findClass "com/example/declination/declination/engine/RanksNondominatedPinLaw" = some m.cls := findClass_of_methodNamed Bd.named
  have hnm := (name_of_methodNamed Bd.named Bd.method).1
  have X0 : Stand p l e room_1 s m #[(.int fr), (.int pk), (.int ln)] below meth c s₁ [] 0 0 := Stand.of_body Bd
  have e0 : s₁.heap = h0 := by rw [← hh, Bd.state]; rfl
  have N0 := Fr.nil n0
  have pre0 : ∀ tt, Steps p.tables e below (s₁.setTop (mkF m 0 #[iv fr, iv pk, iv ln, .unset, .unset, .unset, .unset, .unset, .unset, .unset, .unset, .unset] [])) tt → Steps p.tables e below (s₁.setTop (entryFrame m #[(.int fr), (.int pk), (.int ln)] maxLocals)) tt := fun tt kt => castTop (ef0k2 m fr pk ln) kt
  obtain ⟨ST, hST⟩ : ∃ z : State, z = s₁.setTop (mkF m 0 #[iv fr, iv pk, iv ln, .unset, .unset, .unset, .unset, .unset, .unset, .unset, .unset, .unset] []) := ⟨_, rfl⟩
  rw [← hST] at pre0
  have go390 : own_S p e below ST s₁ (mkF m 1 #[iv fr, iv pk, iv ln, .unset, .unset, .unset, .unset, .unset, .unset, .unset, .unset, .unset] [(.int (4 : Int32))]) := fun tt kt => (by
      rw [hST]
      show Steps p.tables e below (s₁.setTop (mkF m 0 #[iv fr, iv pk, iv ln, .unset, .unset, .unset, .unset, .unset, .unset, .unset, .unset, .unset] [])) _
      refine XS.iconst X0.here hx rfl (hb hby at_0) ?_
      exact kt)
  obtain ⟨b391, g391⟩ : ∃ z, z = h0.size := ⟨_, rfl⟩
  obtain ⟨T391, h391, k391, X391, e391, E391, A391, st391⟩ := newP X0 hx hZ (W 0 rfl) e0 (g := (mkF m 1 #[iv fr, iv pk, iv ln, .unset, .unset, .unset, .unset, .unset, .unset, .unset, .unset, .unset] [(.int (4 : Int32))])) rfl (hb hby at_1) rfl (by decide) (cap := 4) (by decide) (by decide) (by decide) (by decide)
  rw [← g391] at A391 st391
  have ge_b391 : n0 ≤ b391 := Nat.le_trans Z0 (Nat.le_of_eq g391.symm)
  have V391 : Arv Z h391 b391 k391 .int (4 : Int32) [(.int (0 : Int32)), (.int (0 : Int32)), (.int (0 : Int32)), (.int (0 : Int32))] (.int (0 : Int32)) := (Arv.new A391 (by decide)).pad (pad_rep [] (.int (0 : Int32)) 4)
  have go392 : own_S p e below ST T391 (mkF m 3 #[iv fr, iv pk, iv ln, .unset, .unset, .unset, .unset, .unset, .unset, .unset, .unset, .unset] [(.ref b391)]) := fun tt kt => go390 tt (st391 _ kt)
  have go393 : own_S p e below ST T391 (mkF m 11 #[iv fr, iv pk, iv ln, rv b391, .unset, .unset, .unset, .unset, .unset, .unset, .unset, .unset] [(.int ((1 : Int32) + (fr &&& (3 : Int32)))), (.int (0 : Int32)), (.ref b391)]) := fun tt kt => go392 tt (by
      refine XS.astoreN X391.here hx rfl (hb hby at_3) rfl rfl (l' := #[iv fr, iv pk, iv ln, rv b391, .unset, .unset, .unset, .unset, .unset, .unset, .unset, .unset]) rfl ?_
      refine XS.aloadN X391.here hx rfl (hb hby at_4) rfl rfl ?_
      refine XS.iconst X391.here hx rfl (hb hby at_5) ?_
      refine XS.iconst X391.here hx rfl (hb hby at_6) ?_
      refine XS.iloadN X391.here hx rfl (hb hby at_7) rfl ?_
      refine XS.iconst X391.here hx rfl (hb hby at_8) ?_
      show Steps p.tables e below (T391.setTop (mkF m 9 #[iv fr, iv pk, iv ln, rv b391, .unset, .unset, .unset, .unset, .unset, .unset, .unset, .unset] [(.int (3 : Int32)), (.int fr), (.int (1 : Int32)), (.int (0 : Int32)), (.ref b391)])) _
      refine XS.iand X391.here hx rfl (hb hby at_9) rfl ?_
      refine XS.iadd X391.here hx rfl (hb hby at_10) rfl ?_
      exact kt)
  obtain ⟨f0, hf0⟩ : ∃ z : Int32, z = ((1 : Int32) + (fr &&& (3 : Int32))) := ⟨_, rfl⟩
  rw [← hf0] at go393
  obtain ⟨cl394, Ar394, q394, S394, M394, H394, G394⟩ := id V391
  have hin394 : ¬ ((0 : Int32) < 0 ∨ cl394.slots.size ≤ ((0 : Int32)).toNatClampNeg) := inb_of S394 ⟨by decide, by decide⟩
  obtain ⟨T394, h394, X394, e394, W394, st394⟩ := stI X391 hx hZ e391 Ar394 (j := (0 : Int32)) hin394 (g := (mkF m 11 #[iv fr, iv pk, iv ln, rv b391, .unset, .unset, .unset, .unset, .unset, .unset, .unset, .unset] [(.int f0), (.int (0 : Int32)), (.ref b391)])) rfl rfl (hb hby at_11)
  have V394 : Arv Z h394 b391 k391 .int (4 : Int32) [(.int f0), (.int (0 : Int32)), (.int (0 : Int32)), (.int (0 : Int32))] (.int (0 : Int32)) := Arv.set Ar394 q394 S394 M394 H394 G394 rfl W394 0 rfl (Nat.le_of_ble_eq_true rfl)
  have N394 := Fr.snoc X394 N0 ge_b391
  have go395 : own_S p e below ST T394 (mkF m 12 #[iv fr, iv pk, iv ln, rv b391, .unset, .unset, .unset, .unset, .unset, .unset, .unset, .unset] []) := fun tt kt => go393 tt (st394 _ kt)
  have go396 : own_S p e below ST T394 (mkF m 21 #[iv fr, iv pk, iv ln, rv b391, .unset, .unset, .unset, .unset, .unset, .unset, .unset, .unset] [(.int ((1 : Int32) + (((fr.toUInt32 >>> ((2 : Int32) &&& 31).toUInt32).toInt32) &&& (3 : Int32)))), (.int (1 : Int32)), (.ref b391)]) := fun tt kt => go395 tt (by
      refine XS.aloadN X394.here hx rfl (hb hby at_12) rfl rfl ?_
      refine XS.iconst X394.here hx rfl (hb hby at_13) ?_
      refine XS.iconst X394.here hx rfl (hb hby at_14) ?_
      refine XS.iloadN X394.here hx rfl (hb hby at_15) rfl ?_
      refine XS.iconst X394.here hx rfl (hb hby at_16) ?_
      refine XS.iushr X394.here hx rfl (hb hby at_17) rfl ?_
      show Steps p.tables e below (T394.setTop (mkF m 18 #[iv fr, iv pk, iv ln, rv b391, .unset, .unset, .unset, .unset, .unset, .unset, .unset, .unset] [(.int ((fr.toUInt32 >>> ((2 : Int32) &&& 31).toUInt32).toInt32)), (.int (1 : Int32)), (.int (1 : Int32)), (.ref b391)])) _
      refine XS.iconst X394.here hx rfl (hb hby at_18) ?_
      refine XS.iand X394.here hx rfl (hb hby at_19) rfl ?_
      refine XS.iadd X394.here hx rfl (hb hby at_20) rfl ?_
      exact kt)
  obtain ⟨f1, hf1⟩ : ∃ z : Int32, z = ((1 : Int32) + (((fr.toUInt32 >>> ((2 : Int32) &&& 31).toUInt32).toInt32) &&& (3 : Int32))) := ⟨_, rfl⟩
  rw [← hf1] at go396
  obtain ⟨cl397, Ar397, q397, S397, M397, H397, G397⟩ := id V394
  have hin397 : ¬ ((1 : Int32) < 0 ∨ cl397.slots.size ≤ ((1 : Int32)).toNatClampNeg) := inb_of S397 ⟨by decide, by decide⟩
  obtain ⟨T397, h397, X397, e397, W397, st397⟩ := stI X394 hx hZ e394 Ar397 (j := (1 : Int32)) hin397 (g := (mkF m 21 #[iv fr, iv pk, iv ln, rv b391, .unset, .unset, .unset, .unset, .unset, .unset, .unset, .unset] [(.int f1), (.int (1 : Int32)), (.ref b391)])) rfl rfl (hb hby at_21)
  have V397 : Arv Z h397 b391 k391 .int (4 : Int32) [(.int f0), (.int f1), (.int (0 : Int32)), (.int (0 : Int32))] (.int (0 : Int32)) := Arv.set Ar397 q397 S397 M397 H397 G397 rfl W397 1 rfl (Nat.le_of_ble_eq_true rfl)
  have N397 := Fr.snoc X397 N394 ge_b391
  have go398 : own_S p e below ST T397 (mkF m 22 #[iv fr, iv pk, iv ln, rv b391, .unset, .unset, .unset, .unset, .unset, .unset, .unset, .unset] []) := fun tt kt => go396 tt (st397 _ kt)
  have go399 : own_S p e below ST T397 (mkF m 31 #[iv fr, iv pk, iv ln, rv b391, .unset, .unset, .unset, .unset, .unset, .unset, .unset, .unset] [(.int ((1 : Int32) + (((fr.toUInt32 >>> ((4 : Int32) &&& 31).toUInt32).toInt32) &&& (3 : Int32)))), (.int (2 : Int32)), (.ref b391)]) := fun tt kt => go398 tt (by
      refine XS.aloadN X397.here hx rfl (hb hby at_22) rfl rfl ?_
      refine XS.iconst X397.here hx rfl (hb hby at_23) ?_
      refine XS.iconst X397.here hx rfl (hb hby at_24) ?_
      refine XS.iloadN X397.here hx rfl (hb hby at_25) rfl ?_
      refine XS.iconst X397.here hx rfl (hb hby at_26) ?_
      refine XS.iushr X397.here hx rfl (hb hby at_27) rfl ?_
      show Steps p.tables e below (T397.setTop (mkF m 28 #[iv fr, iv pk, iv ln, rv b391, .unset, .unset, .unset, .unset, .unset, .unset, .unset, .unset] [(.int ((fr.toUInt32 >>> ((4 : Int32) &&& 31).toUInt32).toInt32)), (.int (1 : Int32)), (.int (2 : Int32)), (.ref b391)])) _
      refine XS.iconst X397.here hx rfl (hb hby at_28) ?_
      refine XS.iand X397.here hx rfl (hb hby at_29) rfl ?_
      refine XS.iadd X397.here hx rfl (hb hby at_30) rfl ?_
      exact kt)
  obtain ⟨f2, hf2⟩ : ∃ z : Int32, z = ((1 : Int32) + (((fr.toUInt32 >>> ((4 : Int32) &&& 31).toUInt32).toInt32) &&& (3 : Int32))) := ⟨_, rfl⟩
  rw [← hf2] at go399
  obtain ⟨cl400, Ar400, q400, S400, M400, H400, G400⟩ := id V397
  have hin400 : ¬ ((2 : Int32) < 0 ∨ cl400.slots.size ≤ ((2 : Int32)).toNatClampNeg) := inb_of S400 ⟨by decide, by decide⟩
  obtain ⟨T400, h400, X400, e400, W400, st400⟩ := stI X397 hx hZ e397 Ar400 (j := (2 : Int32)) hin400 (g := (mkF m 31 #[iv fr, iv pk, iv ln, rv b391, .unset, .unset, .unset, .unset, .unset, .unset, .unset, .unset] [(.int f2), (.int (2 : Int32)), (.ref b391)])) rfl rfl (hb hby at_31)
  have V400 : Arv Z h400 b391 k391 .int (4 : Int32) [(.int f0), (.int f1), (.int f2), (.int (0 : Int32))] (.int (0 : Int32)) := Arv.set Ar400 q400 S400 M400 H400 G400 rfl W400 2 rfl (Nat.le_of_ble_eq_true rfl)
  have N400 := Fr.snoc X400 N397 ge_b391
  have go401 : own_S p e below ST T400 (mkF m 32 #[iv fr, iv pk, iv ln, rv b391, .unset, .unset, .unset, .unset, .unset, .unset, .unset, .unset] []) := fun tt kt => go399 tt (st400 _ kt)
  have go402 : own_S p e below ST T400 (mkF m 42 #[iv fr, iv pk, iv ln, rv b391, .unset, .unset, .unset, .unset, .unset, .unset, .unset, .unset] [(.int ((1 : Int32) + (((fr.toUInt32 >>> ((6 : Int32) &&& 31).toUInt32).toInt32) &&& (3 : Int32)))), (.int (3 : Int32)), (.ref b391)]) := fun tt kt => go401 tt (by
      refine XS.aloadN X400.here hx rfl (hb hby at_32) rfl rfl ?_
      refine XS.iconst X400.here hx rfl (hb hby at_33) ?_
      refine XS.iconst X400.here hx rfl (hb hby at_34) ?_
      refine XS.iloadN X400.here hx rfl (hb hby at_35) rfl ?_
      refine XS.bipush X400.here hx rfl (hb hby at_36) ?_
      refine XS.iushr X400.here hx rfl (hb hby at_38) rfl ?_
      show Steps p.tables e below (T400.setTop (mkF m 39 #[iv fr, iv pk, iv ln, rv b391, .unset, .unset, .unset, .unset, .unset, .unset, .unset, .unset] [(.int ((fr.toUInt32 >>> ((6 : Int32) &&& 31).toUInt32).toInt32)), (.int (1 : Int32)), (.int (3 : Int32)), (.ref b391)])) _
      refine XS.iconst X400.here hx rfl (hb hby at_39) ?_
      refine XS.iand X400.here hx rfl (hb hby at_40) rfl ?_
      refine XS.iadd X400.here hx rfl (hb hby at_41) rfl ?_
      exact kt)
  obtain ⟨f3, hf3⟩ : ∃ z : Int32, z = ((1 : Int32) + (((fr.toUInt32 >>> ((6 : Int32) &&& 31).toUInt32).toInt32) &&& (3 : Int32))) := ⟨_, rfl⟩
  rw [← hf3] at go402
  obtain ⟨cl403, Ar403, q403, S403, M403, H403, G403⟩ := id V400
  have hin403 : ¬ ((3 : Int32) < 0 ∨ cl403.slots.size ≤ ((3 : Int32)).toNatClampNeg) := inb_of S403 ⟨by decide, by decide⟩
  obtain ⟨T403, h403, X403, e403, W403, st403⟩ := stI X400 hx hZ e400 Ar403 (j := (3 : Int32)) hin403 (g := (mkF m 42 #[iv fr, iv pk, iv ln, rv b391, .unset, .unset, .unset, .unset, .unset, .unset, .unset, .unset] [(.int f3), (.int (3 : Int32)), (.ref b391)])) rfl rfl (hb hby at_42)
  have V403 : Arv Z h403 b391 k391 .int (4 : Int32) [(.int f0), (.int f1), (.int f2), (.int f3)] (.int (0 : Int32)) := Arv.set Ar403 q403 S403 M403 H403 G403 rfl W403 3 rfl (Nat.le_of_ble_eq_true rfl)
  have N403 := Fr.snoc X403 N400 ge_b391
  have go404 : own_S p e below ST T403 (mkF m 43 #[iv fr, iv pk, iv ln, rv b391, .unset, .unset, .unset, .unset, .unset, .unset, .unset, .unset] []) := fun tt kt => go402 tt (st403 _ kt)
  have go405 : own_S p e below ST T403 (mkF m 48 #[iv fr, iv pk, iv ln, rv b391, iv (pk &&& (3 : Int32)), .unset, .unset, .unset, .unset, .unset, .unset, .unset] []) := fun tt kt => go404 tt (by
      refine XS.iloadN X403.here hx rfl (hb hby at_43) rfl ?_
      refine XS.iconst X403.here hx rfl (hb hby at_44) ?_
      refine XS.iand X403.here hx rfl (hb hby at_45) rfl ?_
      refine XS.istore X403.here hx rfl (hb hby at_46) rfl (l' := #[iv fr, iv pk, iv ln, rv b391, iv (pk &&& (3 : Int32)), .unset, .unset, .unset, .unset, .unset, .unset, .unset]) rfl ?_
      exact kt)
  obtain ⟨i0, hi0⟩ : ∃ z : Int32, z = (pk &&& (3 : Int32)) := ⟨_, rfl⟩
  rw [← hi0] at go405
  have hi0' := own_4 _ i0 hi0
  have go406 : own_S p e below ST T403 (mkF m 55 #[iv fr, iv pk, iv ln, rv b391, iv i0, iv (((pk.toUInt32 >>> ((2 : Int32) &&& 31).toUInt32).toInt32) &&& (3 : Int32)), .unset, .unset, .unset, .unset, .unset, .unset] []) := fun tt kt => go405 tt (by
      refine XS.iloadN X403.here hx rfl (hb hby at_48) rfl ?_
      refine XS.iconst X403.here hx rfl (hb hby at_49) ?_
      refine XS.iushr X403.here hx rfl (hb hby at_50) rfl ?_
      refine XS.iconst X403.here hx rfl (hb hby at_51) ?_
      refine XS.iand X403.here hx rfl (hb hby at_52) rfl ?_
      refine XS.istore X403.here hx rfl (hb hby at_53) rfl (l' := #[iv fr, iv pk, iv ln, rv b391, iv i0, iv (((pk.toUInt32 >>> ((2 : Int32) &&& 31).toUInt32).toInt32) &&& (3 : Int32)), .unset, .unset, .unset, .unset, .unset, .unset]) rfl ?_
      exact kt)
  obtain ⟨i1, hi1⟩ : ∃ z : Int32, z = (((pk.toUInt32 >>> ((2 : Int32) &&& 31).toUInt32).toInt32) &&& (3 : Int32)) := ⟨_, rfl⟩
  rw [← hi1] at go406
  have hi1' := own_4 _ i1 hi1
  have go407 : own_S p e below ST T403 (mkF m 62 #[iv fr, iv pk, iv ln, rv b391, iv i0, iv i1, iv (((pk.toUInt32 >>> ((4 : Int32) &&& 31).toUInt32).toInt32) &&& (3 : Int32)), .unset, .unset, .unset, .unset, .unset] []) := fun tt kt => go406 tt (by
      refine XS.iloadN X403.here hx rfl (hb hby at_55) rfl ?_
      refine XS.iconst X403.here hx rfl (hb hby at_56) ?_
      refine XS.iushr X403.here hx rfl (hb hby at_57) rfl ?_
      refine XS.iconst X403.here hx rfl (hb hby at_58) ?_
      refine XS.iand X403.here hx rfl (hb hby at_59) rfl ?_
      refine XS.istore X403.here hx rfl (hb hby at_60) rfl (l' := #[iv fr, iv pk, iv ln, rv b391, iv i0, iv i1, iv (((pk.toUInt32 >>> ((4 : Int32) &&& 31).toUInt32).toInt32) &&& (3 : Int32)), .unset, .unset, .unset, .unset, .unset]) rfl ?_
      exact kt)
  obtain ⟨i2, hi2⟩ : ∃ z : Int32, z = (((pk.toUInt32 >>> ((4 : Int32) &&& 31).toUInt32).toInt32) &&& (3 : Int32)) := ⟨_, rfl⟩
  rw [← hi2] at go407
  have hi2' := own_4 _ i2 hi2
  have go408 : own_S p e below ST T403 (mkF m 70 #[iv fr, iv pk, iv ln, rv b391, iv i0, iv i1, iv i2, iv (((pk.toUInt32 >>> ((6 : Int32) &&& 31).toUInt32).toInt32) &&& (3 : Int32)), .unset, .unset, .unset, .unset] []) := fun tt kt => go407 tt (by
      refine XS.iloadN X403.here hx rfl (hb hby at_62) rfl ?_
      refine XS.bipush X403.here hx rfl (hb hby at_63) ?_
      refine XS.iushr X403.here hx rfl (hb hby at_65) rfl ?_
      refine XS.iconst X403.here hx rfl (hb hby at_66) ?_
      refine XS.iand X403.here hx rfl (hb hby at_67) rfl ?_
      refine XS.istore X403.here hx rfl (hb hby at_68) rfl (l' := #[iv fr, iv pk, iv ln, rv b391, iv i0, iv i1, iv i2, iv (((pk.toUInt32 >>> ((6 : Int32) &&& 31).toUInt32).toInt32) &&& (3 : Int32)), .unset, .unset, .unset, .unset]) rfl ?_
      exact kt)
  obtain ⟨i3, hi3⟩ : ∃ z : Int32, z = (((pk.toUInt32 >>> ((6 : Int32) &&& 31).toUInt32).toInt32) &&& (3 : Int32)) := ⟨_, rfl⟩
  rw [← hi3] at go408
  have hi3' := own_4 _ i3 hi3
  have go409 : own_S p e below ST T403 (mkF m 78 #[iv fr, iv pk, iv ln, rv b391, iv i0, iv i1, iv i2, iv i3, iv ((ln &&& (2147483647 : Int32)) % (5 : Int32)), .unset, .unset, .unset] []) := fun tt kt => go408 tt (by
      refine XS.iloadN X403.here hx rfl (hb hby at_70) rfl ?_
      refine X403.ldcInt hx hown (mvT hZ (W 1 rfl)) (g := (mkF m 71 #[iv fr, iv pk, iv ln, rv b391, iv i0, iv i1, iv i2, iv i3, .unset, .unset, .unset, .unset] [(.int ln)])) rfl (hb hby at_71) _ ?_
      refine XS.iand X403.here hx rfl (hb hby at_73) rfl ?_
      refine XS.iconst X403.here hx rfl (hb hby at_74) ?_
      refine iremM (g := (mkF m 75 #[iv fr, iv pk, iv ln, rv b391, iv i0, iv i1, iv i2, iv i3, .unset, .unset, .unset, .unset] [(.int (5 : Int32)), (.int (ln &&& (2147483647 : Int32)))])) X403 hx rfl (hb hby at_75) rfl (by decide) ?_
      refine XS.istore X403.here hx rfl (hb hby at_76) rfl (l' := #[iv fr, iv pk, iv ln, rv b391, iv i0, iv i1, iv i2, iv i3, iv ((ln &&& (2147483647 : Int32)) % (5 : Int32)), .unset, .unset, .unset]) rfl ?_
      exact kt)
  rw [hk] at go409
  have go410 : own_S p e below ST T403 (mkF m 117 #[iv fr, iv pk, iv ln, rv b391, iv i0, iv i1, iv i2, iv i3, iv (2 : Int32), .unset, .unset, .unset] [(.int (2 : Int32))]) := fun tt kt => go409 tt (by
      refine XS.iload X403.here hx rfl (hb hby at_78) rfl ?_
      refine XS.ifYes X403.here hx rfl (pc0 := 80) (pc' := 91) rfl (hb hby at_80) rfl ((if0 _ _).trans (feq (by decide : ¬ ((2 : Int32) = (0 : Int32)))).2) (by decide) (by decide) ?_
      refine XS.iload X403.here hx rfl (hb hby at_91) rfl ?_
      refine XS.iconst X403.here hx rfl (hb hby at_93) ?_
      refine XS.icmpYes X403.here hx rfl (pc0 := 94) (pc' := 110) rfl (hb hby at_94) rfl (feq (by decide : ¬ ((2 : Int32) = (1 : Int32)))).2 (by decide) (by decide) ?_
      refine XS.iload X403.here hx rfl (hb hby at_110) rfl ?_
      show Steps p.tables e below (T403.setTop (mkF m 112 #[iv fr, iv pk, iv ln, rv b391, iv i0, iv i1, iv i2, iv i3, iv (2 : Int32), .unset, .unset, .unset] [(.int (2 : Int32))])) _
      refine XS.iconst X403.here hx rfl (hb hby at_112) ?_
      refine XS.icmpNo X403.here hx rfl (hb hby at_113) rfl (teq (by decide : (2 : Int32) = (2 : Int32))).2 ?_
      refine XS.iconst X403.here hx rfl (hb hby at_116) ?_
      exact kt)
  have zs412 := (Nat.le_trans (Nat.le_trans (Nat.le_trans (Nat.le_trans (Nat.le_trans Z0 E391.1) (Keep.of_wr W394).1) (Keep.of_wr W397).1) (Keep.of_wr W400).1) (Keep.of_wr W403).1)
  obtain ⟨b411, g411⟩ : ∃ z, z = h403.size := ⟨_, rfl⟩
  obtain ⟨T411, h411, k411, X411, e411, E411, A411, st411⟩ := newP X403 hx hZ (W 0 rfl) e403 (g := (mkF m 117 #[iv fr, iv pk, iv ln, rv b391, iv i0, iv i1, iv i2, iv i3, iv (2 : Int32), .unset, .unset, .unset] [(.int (2 : Int32))])) rfl (hb hby at_117) rfl (by decide) (cap := 2) (by decide) (by decide) (by decide) (by decide)
  rw [← g411] at A411 st411
  have neb391_b411 : b391 ≠ b411 := Nat.ne_of_lt (Nat.lt_of_lt_of_le V403.lt (Nat.le_of_eq g411.symm))
  have ge_b411 : n0 ≤ b411 := Nat.le_trans zs412 (Nat.le_of_eq g411.symm)
  have V411 : Arv Z h411 b411 k411 .int (2 : Int32) [(.int (0 : Int32)), (.int (0 : Int32))] (.int (0 : Int32)) := (Arv.new A411 (by decide)).pad (pad_rep [] (.int (0 : Int32)) 2)
  have go413 : own_S p e below ST T411 (mkF m 119 #[iv fr, iv pk, iv ln, rv b391, iv i0, iv i1, iv i2, iv i3, iv (2 : Int32), .unset, .unset, .unset] [(.ref b411)]) := fun tt kt => go410 tt (st411 _ kt)
  have go414 : own_S p e below ST T411 (mkF m 123 #[iv fr, iv pk, iv ln, rv b391, iv i0, iv i1, iv i2, iv i3, iv (2 : Int32), .unset, .unset, .unset] [(.int i0), (.int (0 : Int32)), (.ref b411), (.ref b411)]) := fun tt kt => go413 tt (by
      refine XS.dup X411.here hx rfl (hb hby at_119) rfl rfl ?_
      refine XS.iconst X411.here hx rfl (hb hby at_120) ?_
      refine XS.iload X411.here hx rfl (hb hby at_121) rfl ?_
      exact kt)
  obtain ⟨cl415, Ar415, q415, S415, M415, H415, G415⟩ := id V411
  have hin415 : ¬ ((0 : Int32) < 0 ∨ cl415.slots.size ≤ ((0 : Int32)).toNatClampNeg) := inb_of S415 ⟨by decide, by decide⟩
  obtain ⟨T415, h415, X415, e415, W415, st415⟩ := stI X411 hx hZ e411 Ar415 (j := (0 : Int32)) hin415 (g := (mkF m 123 #[iv fr, iv pk, iv ln, rv b391, iv i0, iv i1, iv i2, iv i3, iv (2 : Int32), .unset, .unset, .unset] [(.int i0), (.int (0 : Int32)), (.ref b411), (.ref b411)])) rfl rfl (hb hby at_123)
  have V415 : Arv Z h415 b411 k411 .int (2 : Int32) [(.int i0), (.int (0 : Int32))] (.int (0 : Int32)) := Arv.set Ar415 q415 S415 M415 H415 G415 rfl W415 0 rfl (Nat.le_of_ble_eq_true rfl)
  have N415 := Fr.snoc X415 N403 ge_b411
  have go416 : own_S p e below ST T415 (mkF m 124 #[iv fr, iv pk, iv ln, rv b391, iv i0, iv i1, iv i2, iv i3, iv (2 : Int32), .unset, .unset, .unset] [(.ref b411)]) := fun tt kt => go414 tt (st415 _ kt)
  have go417 : own_S p e below ST T415 (mkF m 128 #[iv fr, iv pk, iv ln, rv b391, iv i0, iv i1, iv i2, iv i3, iv (2 : Int32), .unset, .unset, .unset] [(.int i1), (.int (1 : Int32)), (.ref b411), (.ref b411)]) := fun tt kt => go416 tt (by
      refine XS.dup X415.here hx rfl (hb hby at_124) rfl rfl ?_
      refine XS.iconst X415.here hx rfl (hb hby at_125) ?_
      refine XS.iload X415.here hx rfl (hb hby at_126) rfl ?_
      exact kt)
  obtain ⟨cl418, Ar418, q418, S418, M418, H418, G418⟩ := id V415
  have hin418 : ¬ ((1 : Int32) < 0 ∨ cl418.slots.size ≤ ((1 : Int32)).toNatClampNeg) := inb_of S418 ⟨by decide, by decide⟩
  obtain ⟨T418, h418, X418, e418, W418, st418⟩ := stI X415 hx hZ e415 Ar418 (j := (1 : Int32)) hin418 (g := (mkF m 128 #[iv fr, iv pk, iv ln, rv b391, iv i0, iv i1, iv i2, iv i3, iv (2 : Int32), .unset, .unset, .unset] [(.int i1), (.int (1 : Int32)), (.ref b411), (.ref b411)])) rfl rfl (hb hby at_128)
  have V418 : Arv Z h418 b411 k411 .int (2 : Int32) [(.int i0), (.int i1)] (.int (0 : Int32)) := Arv.set Ar418 q418 S418 M418 H418 G418 rfl W418 1 rfl (Nat.le_of_ble_eq_true rfl)
  have N418 := Fr.snoc X418 N415 ge_b411
  have go419 : own_S p e below ST T418 (mkF m 129 #[iv fr, iv pk, iv ln, rv b391, iv i0, iv i1, iv i2, iv i3, iv (2 : Int32), .unset, .unset, .unset] [(.ref b411)]) := fun tt kt => go417 tt (st418 _ kt)
  have go420 : own_S p e below ST T418 (mkF m 188 #[iv fr, iv pk, iv ln, rv b391, iv i0, iv i1, iv i2, iv i3, iv (2 : Int32), rv b411, .unset, .unset] []) := fun tt kt => go419 tt (by
      refine XS.astore X418.here hx rfl (hb hby at_129) rfl rfl (l' := #[iv fr, iv pk, iv ln, rv b391, iv i0, iv i1, iv i2, iv i3, iv (2 : Int32), rv b411, .unset, .unset]) rfl ?_
      refine XS.goto X418.here hx rfl (pc0 := 131) (pc' := 188) rfl (hb hby at_131) (by decide) (by decide) ?_
      exact kt)
  have f422 := (((V403.ext E411).other W415 neb391_b411).other W418 neb391_b411)
  have zs423 := (Nat.le_trans (Nat.le_trans (Nat.le_trans zs412 E411.1) (Keep.of_wr W415).1) (Keep.of_wr W418).1)
  obtain ⟨b421, g421⟩ : ∃ z, z = h418.size := ⟨_, rfl⟩
  obtain ⟨T421, h421, X421, e421, E421, A421, D421, -, st421⟩ := newO X418 hx hZ hown (W 2 rfl) (W 3 rfl) (W 4 rfl) e418 (g := (mkF m 188 #[iv fr, iv pk, iv ln, rv b391, iv i0, iv i1, iv i2, iv i3, iv (2 : Int32), rv b411, .unset, .unset] [])) rfl (hb hby at_188) (by decide) (by decide)
  rw [← g421] at A421 D421 st421
  have neb391_b421 : b391 ≠ b421 := Nat.ne_of_lt (Nat.lt_of_lt_of_le f422.lt (Nat.le_of_eq g421.symm))
  have neb411_b421 : b411 ≠ b421 := Nat.ne_of_lt (Nat.lt_of_lt_of_le V418.lt (Nat.le_of_eq g421.symm))
  have ge_b421 : n0 ≤ b421 := Nat.le_trans zs423 (Nat.le_of_eq g421.symm)
  have F421_front : Fld Z h421 b421 "com/example/declination/declination/engine/Nsga2$Ranks" "front" "[I" .null := D421 (Or.inr (W 18 rfl)) (ty := (.array .int)) (by decide)
  have F421_crowding : Fld Z h421 b421 "com/example/declination/declination/engine/Nsga2$Ranks" "crowding" "[D" .null := D421 (Or.inr (W 20 rfl)) (ty := (.array .double)) (by decide)
  have go424 : own_S p e below ST T421 (mkF m 191 #[iv fr, iv pk, iv ln, rv b391, iv i0, iv i1, iv i2, iv i3, iv (2 : Int32), rv b411, .unset, .unset] [(.ref b421)]) := fun tt kt => go420 tt (st421 _ kt)
  have go425 : own_S p e below ST T421 (mkF m 194 #[iv fr, iv pk, iv ln, rv b391, iv i0, iv i1, iv i2, iv i3, iv (2 : Int32), rv b411, .unset, .unset] [(.int (4 : Int32)), (.ref b391), (.ref b421), (.ref b421)]) := fun tt kt => go424 tt (by
      refine XS.dup X421.here hx rfl (hb hby at_191) rfl rfl ?_
      refine XS.aloadN X421.here hx rfl (hb hby at_192) rfl rfl ?_
      refine XS.iconst X421.here hx rfl (hb hby at_193) ?_
      exact kt)
  have f427 := (f422.ext E421)
  have f428 := (V418.ext E421)
  have zs429 := (Nat.le_trans zs423 E421.1)
  obtain ⟨b426, g426⟩ : ∃ z, z = h421.size := ⟨_, rfl⟩
  obtain ⟨T426, h426, k426, X426, e426, E426, A426, st426⟩ := newP X421 hx hZ (W 5 rfl) e421 (g := (mkF m 194 #[iv fr, iv pk, iv ln, rv b391, iv i0, iv i1, iv i2, iv i3, iv (2 : Int32), rv b411, .unset, .unset] [(.int (4 : Int32)), (.ref b391), (.ref b421), (.ref b421)])) rfl (hb hby at_194) rfl (by decide) (cap := 4) (by decide) (by decide) (by decide) (by decide)
  rw [← g426] at A426 st426
  have neb391_b426 : b391 ≠ b426 := Nat.ne_of_lt (Nat.lt_of_lt_of_le f427.lt (Nat.le_of_eq g426.symm))
  have neb411_b426 : b411 ≠ b426 := Nat.ne_of_lt (Nat.lt_of_lt_of_le f428.lt (Nat.le_of_eq g426.symm))
  have neb421_b426 : b421 ≠ b426 := Nat.ne_of_lt (Nat.lt_of_lt_of_le A421.lt (Nat.le_of_eq g426.symm))
  have ge_b426 : n0 ≤ b426 := Nat.le_trans zs429 (Nat.le_of_eq g426.symm)
  have V426 : Arv Z h426 b426 k426 .double (4 : Int32) [(.double 0), (.double 0), (.double 0), (.double 0)] (.double 0) := (Arv.new A426 (by decide)).pad (pad_rep [] (.double 0) 4)
  have go430 : own_S p e below ST T426 (mkF m 196 #[iv fr, iv pk, iv ln, rv b391, iv i0, iv i1, iv i2, iv i3, iv (2 : Int32), rv b411, .unset, .unset] [(.ref b426), (.ref b391), (.ref b421), (.ref b421)]) := fun tt kt => go425 tt (st426 _ kt)
  have f431 := (F421_front.ext E426)
  have f432 := (F421_crowding.ext E426)
  have f433 := (A421.ext E426)
  have zs435 := (Nat.le_trans zs429 E426.1)
  obtain ⟨_, _, ⟨T434, L434, k434, n434⟩, -, X434, ⟨Lc434, hQ434, l434, y434, z434⟩, st434⟩ := X426.specialBack hx (y := (⟨"com/example/declination/declination/engine/Nsga2$Ranks", "<init>", "([I[D)V"⟩ : MethodName)) rfl hown (mvT hZ (W 6 rfl)) (mvT hZ (W 7 rfl)) (mvT hZ (W 8 rfl)) (by decide) (backOf (W := 1) (rm1 l Z a0 hw [] b421 b391 b426 _ _ h426 n0 zs435 f431 f432 f433 ge_b421) hZ (W 8 rfl) (W 4 rfl) (by decide) (by decide)) (g := (mkF m 196 #[iv fr, iv pk, iv ln, rv b391, iv i0, iv i1, iv i2, iv i3, iv (2 : Int32), rv b411, .unset, .unset] [(.ref b426), (.ref b391), (.ref b421), (.ref b421)])) rfl (by rw [hml]; rfl) (Steps.refl _) (a := b421) (argsL := [(.ref b391), (.ref b426)]) (rest := [(.ref b421)]) (lenOf pd54 rfl) rfl (by show 2 * 0 + _ ≤ _; exact Nat.le_of_eq rfl) (hb hby at_196) (fun _ _ => ⟨rfl, e426, (by decide : 4 + 0 ≤ _), (by decide : 12 + 0 ≤ _)⟩)
  dsimp only [Pt.U, Pt.locs, Pt.cells, Pt.slots] at X434 l434 y434 z434 st434 hQ434
  subst l434 y434 z434
  obtain ⟨rfl, Nq434, K434, Fi434⟩ := hQ434
  have N434 := Fr.app N418 Nq434
  have go436 : own_S p e below ST T434 (mkF m 199 #[iv fr, iv pk, iv ln, rv b391, iv i0, iv i1, iv i2, iv i3, iv (2 : Int32), rv b411, .unset, .unset] [(.ref b421)]) := fun tt kt => go430 tt (st434.trans kt)
  have go437 : own_S p e below ST T434 (mkF m 214 #[iv fr, iv pk, iv ln, rv b391, iv i0, iv i1, iv i2, iv i3, iv (2 : Int32), rv b411, rv b421, .unset] [(.int (1 : Int32)), (.int i0), (.ref b391)]) := fun tt kt => go436 tt (by
      refine XS.astore X434.here hx rfl (hb hby at_199) rfl rfl (l' := #[iv fr, iv pk, iv ln, rv b391, iv i0, iv i1, iv i2, iv i3, iv (2 : Int32), rv b411, rv b421, .unset]) rfl ?_
      refine XS.aloadN X434.here hx rfl (hb hby at_201) rfl rfl ?_
      refine XS.iload X434.here hx rfl (hb hby at_202) rfl ?_
      refine XS.iload X434.here hx rfl (hb hby at_204) rfl ?_
      refine XS.ifNo X434.here hx rfl (hb hby at_206) rfl ((if0 _ _).trans (tlt (by decide : (0 : Int32) < (2 : Int32))).2.2.2) ?_
      refine XS.iconst X434.here hx rfl (hb hby at_209) ?_
      show Steps p.tables e below (T434.setTop (mkF m 210 #[iv fr, iv pk, iv ln, rv b391, iv i0, iv i1, iv i2, iv i3, iv (2 : Int32), rv b411, rv b421, .unset] [(.int (1 : Int32)), (.int i0), (.ref b391)])) _
      refine XS.goto X434.here hx rfl (pc0 := 210) (pc' := 214) rfl (hb hby at_210) (by decide) (by decide) ?_
      exact kt)
  have f438 := ((f427.ext E426).keep K434 (ninS neb391_b421 nin0))
  have zs440 := (Nat.le_trans zs435 K434.1)
  obtain ⟨_, _, ⟨T439, L439, k439, n439⟩, -, X439, ⟨Lc439, hQ439, l439, y439, z439⟩, st439⟩ := Jvm.LawKit.callS X434 hx (y := (⟨"com/example/declination/declination/engine/RanksNondominatedPinLaw", "hit", "([IIZ)I"⟩ : MethodName)) hown (mvT hZ (W 21 rfl)) (mvT hZ (W 22 rfl)) (mvT hZ (W 23 rfl)) (mvT hZ (W 24 rfl)) (by decide) (backOf (W := 0) (rm4b1 l Z a0 hw [] b391 i0 _ f0 f1 f2 f3 T434.heap n0 zs440 f438 hi0') hZ (W 24 rfl) (W 23 rfl) (by decide) (by decide)) (g := (mkF m 214 #[iv fr, iv pk, iv ln, rv b391, iv i0, iv i1, iv i2, iv i3, iv (2 : Int32), rv b411, rv b421, .unset] [(.int (1 : Int32)), (.int i0), (.ref b391)])) rfl (by rw [hml]; rfl) (argsL := [(.ref b391), (.int i0), (.int (1 : Int32))]) (rest := []) (lenOf pd55 rfl) rfl (by show 2 * 0 + _ ≤ _; exact Nat.le_of_eq rfl) (hb hby at_214) (fun _ _ => ⟨rfl, rfl, (by decide : 4 + 0 ≤ _), (by decide : 12 + 0 ≤ _)⟩)
  dsimp only [Pt.U, Pt.locs, Pt.cells, Pt.slots] at X439 l439 y439 z439 st439 hQ439
  subst l439 y439 z439
  obtain ⟨rfl, Nq439, eh439⟩ := hQ439
  have N439 := Fr.app N434 Nq439
  have go441 : own_S p e below ST T439 (mkF m 217 #[iv fr, iv pk, iv ln, rv b391, iv i0, iv i1, iv i2, iv i3, iv (2 : Int32), rv b411, rv b421, .unset] [(.int (own_hit (own_pick i0 f0 f1 f2 f3)))]) := fun tt kt => go437 tt (st439 _ kt)
  have go442 : own_S p e below ST T439 (mkF m 231 #[iv fr, iv pk, iv ln, rv b391, iv i0, iv i1, iv i2, iv i3, iv (2 : Int32), rv b411, rv b421, .unset] [(.int (1 : Int32)), (.int i1), (.ref b391), (.int (own_hit (own_pick i0 f0 f1 f2 f3)))]) := fun tt kt => go441 tt (by
      refine XS.aloadN X439.here hx rfl (hb hby at_217) rfl rfl ?_
      refine XS.iload X439.here hx rfl (hb hby at_218) rfl ?_
      refine XS.iload X439.here hx rfl (hb hby at_220) rfl ?_
      refine XS.iconst X439.here hx rfl (hb hby at_222) ?_
      refine XS.icmpNo X439.here hx rfl (hb hby at_223) rfl (tlt (by decide : (1 : Int32) < (2 : Int32))).2.2.2 ?_
      refine XS.iconst X439.here hx rfl (hb hby at_226) ?_
      show Steps p.tables e below (T439.setTop (mkF m 227 #[iv fr, iv pk, iv ln, rv b391, iv i0, iv i1, iv i2, iv i3, iv (2 : Int32), rv b411, rv b421, .unset] [(.int (1 : Int32)), (.int i1), (.ref b391), (.int (own_hit (own_pick i0 f0 f1 f2 f3)))])) _
      refine XS.goto X439.here hx rfl (pc0 := 227) (pc' := 231) rfl (hb hby at_227) (by decide) (by decide) ?_
      exact kt)
  obtain ⟨_, _, ⟨T443, L443, k443, n443⟩, -, X443, ⟨Lc443, hQ443, l443, y443, z443⟩, st443⟩ := Jvm.LawKit.callS X439 hx (y := (⟨"com/example/declination/declination/engine/RanksNondominatedPinLaw", "hit", "([IIZ)I"⟩ : MethodName)) hown (mvT hZ (W 21 rfl)) (mvT hZ (W 22 rfl)) (mvT hZ (W 23 rfl)) (mvT hZ (W 24 rfl)) (by decide) (backOf (W := 1) (rm4b1 l Z a0 hw [] b391 i1 _ f0 f1 f2 f3 T434.heap n0 zs440 f438 hi1') hZ (W 24 rfl) (W 23 rfl) (by decide) (by decide)) (g := (mkF m 231 #[iv fr, iv pk, iv ln, rv b391, iv i0, iv i1, iv i2, iv i3, iv (2 : Int32), rv b411, rv b421, .unset] [(.int (1 : Int32)), (.int i1), (.ref b391), (.int (own_hit (own_pick i0 f0 f1 f2 f3)))])) rfl (by rw [hml]; rfl) (argsL := [(.ref b391), (.int i1), (.int (1 : Int32))]) (rest := [(.int (own_hit (own_pick i0 f0 f1 f2 f3)))]) (lenOf pd55 rfl) rfl (by show 2 * 0 + _ ≤ _; exact Nat.le_of_eq rfl) (hb hby at_231) (fun _ _ => ⟨rfl, eh439, (by decide : 4 + 0 ≤ _), (by decide : 12 + 0 ≤ _)⟩)
  dsimp only [Pt.U, Pt.locs, Pt.cells, Pt.slots] at X443 l443 y443 z443 st443 hQ443
  subst l443 y443 z443
  obtain ⟨rfl, Nq443, eh443⟩ := hQ443
  have N443 := Fr.app N439 Nq443
  have go444 : own_S p e below ST T443 (mkF m 234 #[iv fr, iv pk, iv ln, rv b391, iv i0, iv i1, iv i2, iv i3, iv (2 : Int32), rv b411, rv b421, .unset] [(.int (own_hit (own_pick i1 f0 f1 f2 f3))), (.int (own_hit (own_pick i0 f0 f1 f2 f3)))]) := fun tt kt => go442 tt (st443 _ kt)
  have go445 : own_S p e below ST T443 (mkF m 249 #[iv fr, iv pk, iv ln, rv b391, iv i0, iv i1, iv i2, iv i3, iv (2 : Int32), rv b411, rv b421, .unset] [(.int (0 : Int32)), (.int i2), (.ref b391), (.int ((own_hit (own_pick i0 f0 f1 f2 f3)) + (own_hit (own_pick i1 f0 f1 f2 f3))))]) := fun tt kt => go444 tt (by
      refine XS.iadd X443.here hx rfl (hb hby at_234) rfl ?_
      refine XS.aloadN X443.here hx rfl (hb hby at_235) rfl rfl ?_
      refine XS.iload X443.here hx rfl (hb hby at_236) rfl ?_
      refine XS.iload X443.here hx rfl (hb hby at_238) rfl ?_
      refine XS.iconst X443.here hx rfl (hb hby at_240) ?_
      refine XS.icmpYes X443.here hx rfl (pc0 := 241) (pc' := 248) rfl (hb hby at_241) rfl (flt (by decide : ¬ ((2 : Int32) < (2 : Int32)))).2.2.2 (by decide) (by decide) ?_
      show Steps p.tables e below (T443.setTop (mkF m 248 #[iv fr, iv pk, iv ln, rv b391, iv i0, iv i1, iv i2, iv i3, iv (2 : Int32), rv b411, rv b421, .unset] [(.int i2), (.ref b391), (.int ((own_hit (own_pick i0 f0 f1 f2 f3)) + (own_hit (own_pick i1 f0 f1 f2 f3))))])) _
      refine XS.iconst X443.here hx rfl (hb hby at_248) ?_
      exact kt)
  obtain ⟨_, _, ⟨T446, L446, k446, n446⟩, -, X446, ⟨Lc446, hQ446, l446, y446, z446⟩, st446⟩ := Jvm.LawKit.callS X443 hx (y := (⟨"com/example/declination/declination/engine/RanksNondominatedPinLaw", "hit", "([IIZ)I"⟩ : MethodName)) hown (mvT hZ (W 21 rfl)) (mvT hZ (W 22 rfl)) (mvT hZ (W 23 rfl)) (mvT hZ (W 24 rfl)) (by decide) (backOf (W := 1) (rm4b0 l Z a0 hw [] b391 i2 _ f0 f1 f2 f3 T434.heap n0 zs440 f438 hi2') hZ (W 24 rfl) (W 23 rfl) (by decide) (by decide)) (g := (mkF m 249 #[iv fr, iv pk, iv ln, rv b391, iv i0, iv i1, iv i2, iv i3, iv (2 : Int32), rv b411, rv b421, .unset] [(.int (0 : Int32)), (.int i2), (.ref b391), (.int ((own_hit (own_pick i0 f0 f1 f2 f3)) + (own_hit (own_pick i1 f0 f1 f2 f3))))])) rfl (by rw [hml]; rfl) (argsL := [(.ref b391), (.int i2), (.int (0 : Int32))]) (rest := [(.int ((own_hit (own_pick i0 f0 f1 f2 f3)) + (own_hit (own_pick i1 f0 f1 f2 f3))))]) (lenOf pd55 rfl) rfl (by show 2 * 0 + _ ≤ _; exact Nat.le_of_eq rfl) (hb hby at_249) (fun _ _ => ⟨rfl, eh443, (by decide : 4 + 0 ≤ _), (by decide : 12 + 0 ≤ _)⟩)
  dsimp only [Pt.U, Pt.locs, Pt.cells, Pt.slots] at X446 l446 y446 z446 st446 hQ446
  subst l446 y446 z446
  obtain ⟨rfl, Nq446, eh446⟩ := hQ446
  have N446 := Fr.app N443 Nq446
  have go447 : own_S p e below ST T446 (mkF m 252 #[iv fr, iv pk, iv ln, rv b391, iv i0, iv i1, iv i2, iv i3, iv (2 : Int32), rv b411, rv b421, .unset] [(.int (0 : Int32)), (.int ((own_hit (own_pick i0 f0 f1 f2 f3)) + (own_hit (own_pick i1 f0 f1 f2 f3))))]) := fun tt kt => go445 tt (st446 _ kt)
  have go448 : own_S p e below ST T446 (mkF m 267 #[iv fr, iv pk, iv ln, rv b391, iv i0, iv i1, iv i2, iv i3, iv (2 : Int32), rv b411, rv b421, .unset] [(.int (0 : Int32)), (.int i3), (.ref b391), (.int (((own_hit (own_pick i0 f0 f1 f2 f3)) + (own_hit (own_pick i1 f0 f1 f2 f3))) + (0 : Int32)))]) := fun tt kt => go447 tt (by
      refine XS.iadd X446.here hx rfl (hb hby at_252) rfl ?_
      refine XS.aloadN X446.here hx rfl (hb hby at_253) rfl rfl ?_
      refine XS.iload X446.here hx rfl (hb hby at_254) rfl ?_
      refine XS.iload X446.here hx rfl (hb hby at_256) rfl ?_
      refine XS.iconst X446.here hx rfl (hb hby at_258) ?_
      refine XS.icmpYes X446.here hx rfl (pc0 := 259) (pc' := 266) rfl (hb hby at_259) rfl (flt (by decide : ¬ ((3 : Int32) < (2 : Int32)))).2.2.2 (by decide) (by decide) ?_
      show Steps p.tables e below (T446.setTop (mkF m 266 #[iv fr, iv pk, iv ln, rv b391, iv i0, iv i1, iv i2, iv i3, iv (2 : Int32), rv b411, rv b421, .unset] [(.int i3), (.ref b391), (.int (((own_hit (own_pick i0 f0 f1 f2 f3)) + (own_hit (own_pick i1 f0 f1 f2 f3))) + (0 : Int32)))])) _
      refine XS.iconst X446.here hx rfl (hb hby at_266) ?_
      exact kt)
  obtain ⟨_, _, ⟨T449, L449, k449, n449⟩, -, X449, ⟨Lc449, hQ449, l449, y449, z449⟩, st449⟩ := Jvm.LawKit.callS X446 hx (y := (⟨"com/example/declination/declination/engine/RanksNondominatedPinLaw", "hit", "([IIZ)I"⟩ : MethodName)) hown (mvT hZ (W 21 rfl)) (mvT hZ (W 22 rfl)) (mvT hZ (W 23 rfl)) (mvT hZ (W 24 rfl)) (by decide) (backOf (W := 1) (rm4b0 l Z a0 hw [] b391 i3 _ f0 f1 f2 f3 T434.heap n0 zs440 f438 hi3') hZ (W 24 rfl) (W 23 rfl) (by decide) (by decide)) (g := (mkF m 267 #[iv fr, iv pk, iv ln, rv b391, iv i0, iv i1, iv i2, iv i3, iv (2 : Int32), rv b411, rv b421, .unset] [(.int (0 : Int32)), (.int i3), (.ref b391), (.int (((own_hit (own_pick i0 f0 f1 f2 f3)) + (own_hit (own_pick i1 f0 f1 f2 f3))) + (0 : Int32)))])) rfl (by rw [hml]; rfl) (argsL := [(.ref b391), (.int i3), (.int (0 : Int32))]) (rest := [(.int (((own_hit (own_pick i0 f0 f1 f2 f3)) + (own_hit (own_pick i1 f0 f1 f2 f3))) + (0 : Int32)))]) (lenOf pd55 rfl) rfl (by show 2 * 0 + _ ≤ _; exact Nat.le_of_eq rfl) (hb hby at_267) (fun _ _ => ⟨rfl, eh446, (by decide : 4 + 0 ≤ _), (by decide : 12 + 0 ≤ _)⟩)
  dsimp only [Pt.U, Pt.locs, Pt.cells, Pt.slots] at X449 l449 y449 z449 st449 hQ449
  subst l449 y449 z449
  obtain ⟨rfl, Nq449, eh449⟩ := hQ449
  have N449 := Fr.app N446 Nq449
  have go450 : own_S p e below ST T449 (mkF m 270 #[iv fr, iv pk, iv ln, rv b391, iv i0, iv i1, iv i2, iv i3, iv (2 : Int32), rv b411, rv b421, .unset] [(.int (0 : Int32)), (.int (((own_hit (own_pick i0 f0 f1 f2 f3)) + (own_hit (own_pick i1 f0 f1 f2 f3))) + (0 : Int32)))]) := fun tt kt => go448 tt (st449 _ kt)
  have go451 : own_S p e below ST T449 (mkF m 277 #[iv fr, iv pk, iv ln, rv b391, iv i0, iv i1, iv i2, iv i3, iv (2 : Int32), rv b411, rv b421, iv ((((own_hit (own_pick i0 f0 f1 f2 f3)) + (own_hit (own_pick i1 f0 f1 f2 f3))) + (0 : Int32)) + (0 : Int32))] [(.ref b411), (.ref b421)]) := fun tt kt => go450 tt (by
      refine XS.iadd X449.here hx rfl (hb hby at_270) rfl ?_
      refine XS.istore X449.here hx rfl (hb hby at_271) rfl (l' := #[iv fr, iv pk, iv ln, rv b391, iv i0, iv i1, iv i2, iv i3, iv (2 : Int32), rv b411, rv b421, iv ((((own_hit (own_pick i0 f0 f1 f2 f3)) + (own_hit (own_pick i1 f0 f1 f2 f3))) + (0 : Int32)) + (0 : Int32))]) rfl ?_
      refine XS.aload X449.here hx rfl (hb hby at_273) rfl rfl ?_
      refine XS.aload X449.here hx rfl (hb hby at_275) rfl rfl ?_
      exact kt)
  have f452 := ((f428.ext E426).keep K434 (ninS neb411_b421 nin0))
  have f454 := (f433.keep K434)
  obtain ⟨cq453, kq453, q453a, q453b, q453c⟩ := isOf hZ eh449 f454
  obtain ⟨_, _, ⟨T453, L453, k453, n453⟩, -, X453, ⟨Lc453, hQ453, l453, y453, z453⟩, st453⟩ := X449.virtualBack hx (y := (⟨"com/example/declination/declination/engine/Nsga2$Ranks", "nondominated", "([I)I"⟩ : MethodName)) (z := (⟨"com/example/declination/declination/engine/Nsga2$Ranks", "nondominated", "([I)I"⟩ : MethodName)) hown (mvT hZ (W 25 rfl)) (mvT hZ (W 26 rfl)) (notFace_of_selects (args := #[]) (mvT hZ (W 28 rfl))) (mvT hZ (W 28 rfl)) (mvT hZ (W 27 rfl)) (by decide) (backOf (W := 0) (rm5k2 l Z a0 hw [] b421 b411 b391 _ _ f0 f1 f2 f3 i0 i1 T434.heap n0 zs440 Fi434 f438 f452 hi0' hi1') hZ (W 29 rfl) (W 4 rfl) (by decide) (by decide)) q453a q453c (g := (mkF m 277 #[iv fr, iv pk, iv ln, rv b391, iv i0, iv i1, iv i2, iv i3, iv (2 : Int32), rv b411, rv b421, iv ((((own_hit (own_pick i0 f0 f1 f2 f3)) + (own_hit (own_pick i1 f0 f1 f2 f3))) + (0 : Int32)) + (0 : Int32))] [(.ref b411), (.ref b421)])) rfl (by rw [hml]; rfl) (Steps.refl _) (argsL := [(.ref b411)]) (rest := []) (lenOf pd56 rfl) rfl (by show 2 * 0 + _ ≤ _; exact Nat.le_of_eq rfl) (hb hby at_277) (fun _ _ => ⟨rfl, eh449, (by decide : 4 + 0 ≤ _), (by decide : 12 + 0 ≤ _)⟩)
  dsimp only [Pt.U, Pt.locs, Pt.cells, Pt.slots] at X453 l453 y453 z453 st453 hQ453
  subst l453 y453 z453
  obtain ⟨rfl, Nq453, eh453⟩ := hQ453
  have N453 := Fr.app N449 Nq453
  have go455 : own_S p e below ST T453 (mkF m 280 #[iv fr, iv pk, iv ln, rv b391, iv i0, iv i1, iv i2, iv i3, iv (2 : Int32), rv b411, rv b421, iv ((((own_hit (own_pick i0 f0 f1 f2 f3)) + (own_hit (own_pick i1 f0 f1 f2 f3))) + (0 : Int32)) + (0 : Int32))] [(.int (own_add (own_add 0 (own_pick i0 f0 f1 f2 f3)) (own_pick i1 f0 f1 f2 f3)))]) := fun tt kt => go451 tt (st453.trans kt)
  have go456 : own_S p e below ST T453 (mkF m 282 #[iv fr, iv pk, iv ln, rv b391, iv i0, iv i1, iv i2, iv i3, iv (2 : Int32), rv b411, rv b421, iv ((((own_hit (own_pick i0 f0 f1 f2 f3)) + (own_hit (own_pick i1 f0 f1 f2 f3))) + (0 : Int32)) + (0 : Int32))] [(.int ((((own_hit (own_pick i0 f0 f1 f2 f3)) + (own_hit (own_pick i1 f0 f1 f2 f3))) + (0 : Int32)) + (0 : Int32))), (.int (own_add (own_add 0 (own_pick i0 f0 f1 f2 f3)) (own_pick i1 f0 f1 f2 f3)))]) := fun tt kt => go455 tt (by
      refine XS.iload X453.here hx rfl (hb hby at_280) rfl ?_
      exact kt)
  have hfin : (own_add (own_add 0 (own_pick i0 f0 f1 f2 f3)) (own_pick i1 f0 f1 f2 f3)) = ((((own_hit (own_pick i0 f0 f1 f2 f3)) + (own_hit (own_pick i1 f0 f1 f2 f3))) + (0 : Int32)) + (0 : Int32)) := by simp only [own_ah, Int32.add_zero, Int32.zero_add]
  have go457 : own_S p e below ST T453 (mkF m 290 #[iv fr, iv pk, iv ln, rv b391, iv i0, iv i1, iv i2, iv i3, iv (2 : Int32), rv b411, rv b421, iv ((((own_hit (own_pick i0 f0 f1 f2 f3)) + (own_hit (own_pick i1 f0 f1 f2 f3))) + (0 : Int32)) + (0 : Int32))] [(.int (1 : Int32))]) := fun tt kt => go456 tt (by
      refine XS.icmpNo X453.here hx rfl (hb hby at_282) rfl (teq hfin).2 ?_
      refine XS.iconst X453.here hx rfl (hb hby at_285) ?_
      refine XS.goto X453.here hx rfl (pc0 := 286) (pc' := 290) rfl (hb hby at_286) (by decide) (by decide) ?_
      exact kt)
  obtain ⟨fs, hr, hrun, hended, hW, hsame⟩ := X453.leave (v := some (.int (1 : Int32))) (fun h => by rw [Bd.returns] at h; cases h)
  refine ⟨_, _, pre0 _ (go457 _ ?_), hrun, hended, _, _, rfl, ?_, ⟨_, rfl⟩, hW, hsame.mono (by decide) (by decide)⟩
  · exact retN X453 hx (t := .boolean) Bd.returns (by simp) (hb hby at_290) hr
  · show Q0k2 Z fr pk ln h0 n0 _ T453.heap _
    rw [eh453]
    exact ⟨rfl, N453⟩
theorem ef0k3 (m : MethodId) (x0 : Int32) (x1 : Int32) (x2 : Int32) : entryFrame m #[(.int x0), (.int x1), (.int x2)] maxLocals = mkF m 0 #[.val (.int x0), .val (.int x1), .val (.int x2), .unset, .unset, .unset, .unset, .unset, .unset, .unset, .unset, .unset] [] := by first | (simp [entryFrame, mkF, argsToLocals, Value.category, maxLocals]; done) | rfl
def Q0k3 (Z : State) (fr : Int32) (pk : Int32) (ln : Int32) (h0 : Heap) (n0 : Nat) (v : Option Value) (h : Heap) (L : List Loc) : Prop := v = some (.int 1) ∧ Fr n0 L
set_option maxRecDepth 65536 in
set_option maxHeartbeats 40000000 in
theorem rm0k3 (l : Launch) (Z : State) (a0 : Array Value) (hw : ∀ d ∈ tables_1, d.before a0 Z = true) (ws : List Jvm.Cond) (fr : Int32) (pk : Int32) (ln : Int32) (h0 : Heap) (n0 : Nat) (Z0 : n0 ≤ h0.size) (hk : (ln &&& 2147483647) % 5 = 3) :
    MetFree l x (head1 (Jvm.Cond.code x code maxLocals ret :: ws) room_1) (fun aa UU => aa = #[(.int fr), (.int pk), (.int ln)] ∧ Z.Warmed39 UU.vm ∧ UU.heap = h0) (fun _ _ _ _ _ => True) (fun _ UU oo UU' => ∃ vv LL, oo = .returned vv ∧ Q0k3 Z fr pk ln h0 n0 vv UU'.heap LL ∧ FrameEnd UU oo UU' LL room_1.cells room_1.slots) := by
  have W : ∀ {d : Jvm.Cond} (i : Nat), tables_1[i]? = some d → d.before a0 Z = true := fun i h => hw _ (List.mem_of_getElem? h)
  refine MetFree.of_bodySF (plainFor_of_name pn15) hisR ?_
  intro p e s m args below meth c s₁ Bd hml0 hP hK
  obtain ⟨rfl, hZ, hh⟩ := hP
  have hx := Bd.exec
  have hby := Bd.bytes
  have hml : c.maxLocals = 12 := hml0
  have hown : s.vm.findClass "com/example/declination/declination/engine/RanksNondominatedPinLaw" = some m.cls := findClass_of_methodNamed Bd.named
  have hnm := (name_of_methodNamed Bd.named Bd.method).1
  have X0 : Stand p l e room_1 s m #[(.int fr), (.int pk), (.int ln)] below meth c s₁ [] 0 0 := Stand.of_body Bd
  have e0 : s₁.heap = h0 := by rw [← hh, Bd.state]; rfl
  have N0 := Fr.nil n0
  have pre0 : ∀ tt, Steps p.tables e below (s₁.setTop (mkF m 0 #[iv fr, iv pk, iv ln, .unset, .unset, .unset, .unset, .unset, .unset, .unset, .unset, .unset] [])) tt → Steps p.tables e below (s₁.setTop (entryFrame m #[(.int fr), (.int pk), (.int ln)] maxLocals)) tt := fun tt kt => castTop (ef0k3 m fr pk ln) kt
  obtain ⟨ST, hST⟩ : ∃ z : State, z = s₁.setTop (mkF m 0 #[iv fr, iv pk, iv ln, .unset, .unset, .unset, .unset, .unset, .unset, .unset, .unset, .unset] []) := ⟨_, rfl⟩
  rw [← hST] at pre0
  have go458 : own_S p e below ST s₁ (mkF m 1 #[iv fr, iv pk, iv ln, .unset, .unset, .unset, .unset, .unset, .unset, .unset, .unset, .unset] [(.int (4 : Int32))]) := fun tt kt => (by
      rw [hST]
      show Steps p.tables e below (s₁.setTop (mkF m 0 #[iv fr, iv pk, iv ln, .unset, .unset, .unset, .unset, .unset, .unset, .unset, .unset, .unset] [])) _
      refine XS.iconst X0.here hx rfl (hb hby at_0) ?_
      exact kt)
  obtain ⟨b459, g459⟩ : ∃ z, z = h0.size := ⟨_, rfl⟩
  obtain ⟨T459, h459, k459, X459, e459, E459, A459, st459⟩ := newP X0 hx hZ (W 0 rfl) e0 (g := (mkF m 1 #[iv fr, iv pk, iv ln, .unset, .unset, .unset, .unset, .unset, .unset, .unset, .unset, .unset] [(.int (4 : Int32))])) rfl (hb hby at_1) rfl (by decide) (cap := 4) (by decide) (by decide) (by decide) (by decide)
  rw [← g459] at A459 st459
  have ge_b459 : n0 ≤ b459 := Nat.le_trans Z0 (Nat.le_of_eq g459.symm)
  have V459 : Arv Z h459 b459 k459 .int (4 : Int32) [(.int (0 : Int32)), (.int (0 : Int32)), (.int (0 : Int32)), (.int (0 : Int32))] (.int (0 : Int32)) := (Arv.new A459 (by decide)).pad (pad_rep [] (.int (0 : Int32)) 4)
  have go460 : own_S p e below ST T459 (mkF m 3 #[iv fr, iv pk, iv ln, .unset, .unset, .unset, .unset, .unset, .unset, .unset, .unset, .unset] [(.ref b459)]) := fun tt kt => go458 tt (st459 _ kt)
  have go461 : own_S p e below ST T459 (mkF m 11 #[iv fr, iv pk, iv ln, rv b459, .unset, .unset, .unset, .unset, .unset, .unset, .unset, .unset] [(.int ((1 : Int32) + (fr &&& (3 : Int32)))), (.int (0 : Int32)), (.ref b459)]) := fun tt kt => go460 tt (by
      refine XS.astoreN X459.here hx rfl (hb hby at_3) rfl rfl (l' := #[iv fr, iv pk, iv ln, rv b459, .unset, .unset, .unset, .unset, .unset, .unset, .unset, .unset]) rfl ?_
      refine XS.aloadN X459.here hx rfl (hb hby at_4) rfl rfl ?_
      refine XS.iconst X459.here hx rfl (hb hby at_5) ?_
      refine XS.iconst X459.here hx rfl (hb hby at_6) ?_
      refine XS.iloadN X459.here hx rfl (hb hby at_7) rfl ?_
      refine XS.iconst X459.here hx rfl (hb hby at_8) ?_
      show Steps p.tables e below (T459.setTop (mkF m 9 #[iv fr, iv pk, iv ln, rv b459, .unset, .unset, .unset, .unset, .unset, .unset, .unset, .unset] [(.int (3 : Int32)), (.int fr), (.int (1 : Int32)), (.int (0 : Int32)), (.ref b459)])) _
      refine XS.iand X459.here hx rfl (hb hby at_9) rfl ?_
      refine XS.iadd X459.here hx rfl (hb hby at_10) rfl ?_
      exact kt)
  obtain ⟨f0, hf0⟩ : ∃ z : Int32, z = ((1 : Int32) + (fr &&& (3 : Int32))) := ⟨_, rfl⟩
  rw [← hf0] at go461
  obtain ⟨cl462, Ar462, q462, S462, M462, H462, G462⟩ := id V459
  have hin462 : ¬ ((0 : Int32) < 0 ∨ cl462.slots.size ≤ ((0 : Int32)).toNatClampNeg) := inb_of S462 ⟨by decide, by decide⟩
  obtain ⟨T462, h462, X462, e462, W462, st462⟩ := stI X459 hx hZ e459 Ar462 (j := (0 : Int32)) hin462 (g := (mkF m 11 #[iv fr, iv pk, iv ln, rv b459, .unset, .unset, .unset, .unset, .unset, .unset, .unset, .unset] [(.int f0), (.int (0 : Int32)), (.ref b459)])) rfl rfl (hb hby at_11)
  have V462 : Arv Z h462 b459 k459 .int (4 : Int32) [(.int f0), (.int (0 : Int32)), (.int (0 : Int32)), (.int (0 : Int32))] (.int (0 : Int32)) := Arv.set Ar462 q462 S462 M462 H462 G462 rfl W462 0 rfl (Nat.le_of_ble_eq_true rfl)
  have N462 := Fr.snoc X462 N0 ge_b459
  have go463 : own_S p e below ST T462 (mkF m 12 #[iv fr, iv pk, iv ln, rv b459, .unset, .unset, .unset, .unset, .unset, .unset, .unset, .unset] []) := fun tt kt => go461 tt (st462 _ kt)
  have go464 : own_S p e below ST T462 (mkF m 21 #[iv fr, iv pk, iv ln, rv b459, .unset, .unset, .unset, .unset, .unset, .unset, .unset, .unset] [(.int ((1 : Int32) + (((fr.toUInt32 >>> ((2 : Int32) &&& 31).toUInt32).toInt32) &&& (3 : Int32)))), (.int (1 : Int32)), (.ref b459)]) := fun tt kt => go463 tt (by
      refine XS.aloadN X462.here hx rfl (hb hby at_12) rfl rfl ?_
      refine XS.iconst X462.here hx rfl (hb hby at_13) ?_
      refine XS.iconst X462.here hx rfl (hb hby at_14) ?_
      refine XS.iloadN X462.here hx rfl (hb hby at_15) rfl ?_
      refine XS.iconst X462.here hx rfl (hb hby at_16) ?_
      refine XS.iushr X462.here hx rfl (hb hby at_17) rfl ?_
      show Steps p.tables e below (T462.setTop (mkF m 18 #[iv fr, iv pk, iv ln, rv b459, .unset, .unset, .unset, .unset, .unset, .unset, .unset, .unset] [(.int ((fr.toUInt32 >>> ((2 : Int32) &&& 31).toUInt32).toInt32)), (.int (1 : Int32)), (.int (1 : Int32)), (.ref b459)])) _
      refine XS.iconst X462.here hx rfl (hb hby at_18) ?_
      refine XS.iand X462.here hx rfl (hb hby at_19) rfl ?_
      refine XS.iadd X462.here hx rfl (hb hby at_20) rfl ?_
      exact kt)
  obtain ⟨f1, hf1⟩ : ∃ z : Int32, z = ((1 : Int32) + (((fr.toUInt32 >>> ((2 : Int32) &&& 31).toUInt32).toInt32) &&& (3 : Int32))) := ⟨_, rfl⟩
  rw [← hf1] at go464
  obtain ⟨cl465, Ar465, q465, S465, M465, H465, G465⟩ := id V462
  have hin465 : ¬ ((1 : Int32) < 0 ∨ cl465.slots.size ≤ ((1 : Int32)).toNatClampNeg) := inb_of S465 ⟨by decide, by decide⟩
  obtain ⟨T465, h465, X465, e465, W465, st465⟩ := stI X462 hx hZ e462 Ar465 (j := (1 : Int32)) hin465 (g := (mkF m 21 #[iv fr, iv pk, iv ln, rv b459, .unset, .unset, .unset, .unset, .unset, .unset, .unset, .unset] [(.int f1), (.int (1 : Int32)), (.ref b459)])) rfl rfl (hb hby at_21)
  have V465 : Arv Z h465 b459 k459 .int (4 : Int32) [(.int f0), (.int f1), (.int (0 : Int32)), (.int (0 : Int32))] (.int (0 : Int32)) := Arv.set Ar465 q465 S465 M465 H465 G465 rfl W465 1 rfl (Nat.le_of_ble_eq_true rfl)
  have N465 := Fr.snoc X465 N462 ge_b459
  have go466 : own_S p e below ST T465 (mkF m 22 #[iv fr, iv pk, iv ln, rv b459, .unset, .unset, .unset, .unset, .unset, .unset, .unset, .unset] []) := fun tt kt => go464 tt (st465 _ kt)
  have go467 : own_S p e below ST T465 (mkF m 31 #[iv fr, iv pk, iv ln, rv b459, .unset, .unset, .unset, .unset, .unset, .unset, .unset, .unset] [(.int ((1 : Int32) + (((fr.toUInt32 >>> ((4 : Int32) &&& 31).toUInt32).toInt32) &&& (3 : Int32)))), (.int (2 : Int32)), (.ref b459)]) := fun tt kt => go466 tt (by
      refine XS.aloadN X465.here hx rfl (hb hby at_22) rfl rfl ?_
      refine XS.iconst X465.here hx rfl (hb hby at_23) ?_
      refine XS.iconst X465.here hx rfl (hb hby at_24) ?_
      refine XS.iloadN X465.here hx rfl (hb hby at_25) rfl ?_
      refine XS.iconst X465.here hx rfl (hb hby at_26) ?_
      refine XS.iushr X465.here hx rfl (hb hby at_27) rfl ?_
      show Steps p.tables e below (T465.setTop (mkF m 28 #[iv fr, iv pk, iv ln, rv b459, .unset, .unset, .unset, .unset, .unset, .unset, .unset, .unset] [(.int ((fr.toUInt32 >>> ((4 : Int32) &&& 31).toUInt32).toInt32)), (.int (1 : Int32)), (.int (2 : Int32)), (.ref b459)])) _
      refine XS.iconst X465.here hx rfl (hb hby at_28) ?_
      refine XS.iand X465.here hx rfl (hb hby at_29) rfl ?_
      refine XS.iadd X465.here hx rfl (hb hby at_30) rfl ?_
      exact kt)
  obtain ⟨f2, hf2⟩ : ∃ z : Int32, z = ((1 : Int32) + (((fr.toUInt32 >>> ((4 : Int32) &&& 31).toUInt32).toInt32) &&& (3 : Int32))) := ⟨_, rfl⟩
  rw [← hf2] at go467
  obtain ⟨cl468, Ar468, q468, S468, M468, H468, G468⟩ := id V465
  have hin468 : ¬ ((2 : Int32) < 0 ∨ cl468.slots.size ≤ ((2 : Int32)).toNatClampNeg) := inb_of S468 ⟨by decide, by decide⟩
  obtain ⟨T468, h468, X468, e468, W468, st468⟩ := stI X465 hx hZ e465 Ar468 (j := (2 : Int32)) hin468 (g := (mkF m 31 #[iv fr, iv pk, iv ln, rv b459, .unset, .unset, .unset, .unset, .unset, .unset, .unset, .unset] [(.int f2), (.int (2 : Int32)), (.ref b459)])) rfl rfl (hb hby at_31)
  have V468 : Arv Z h468 b459 k459 .int (4 : Int32) [(.int f0), (.int f1), (.int f2), (.int (0 : Int32))] (.int (0 : Int32)) := Arv.set Ar468 q468 S468 M468 H468 G468 rfl W468 2 rfl (Nat.le_of_ble_eq_true rfl)
  have N468 := Fr.snoc X468 N465 ge_b459
  have go469 : own_S p e below ST T468 (mkF m 32 #[iv fr, iv pk, iv ln, rv b459, .unset, .unset, .unset, .unset, .unset, .unset, .unset, .unset] []) := fun tt kt => go467 tt (st468 _ kt)
  have go470 : own_S p e below ST T468 (mkF m 42 #[iv fr, iv pk, iv ln, rv b459, .unset, .unset, .unset, .unset, .unset, .unset, .unset, .unset] [(.int ((1 : Int32) + (((fr.toUInt32 >>> ((6 : Int32) &&& 31).toUInt32).toInt32) &&& (3 : Int32)))), (.int (3 : Int32)), (.ref b459)]) := fun tt kt => go469 tt (by
      refine XS.aloadN X468.here hx rfl (hb hby at_32) rfl rfl ?_
      refine XS.iconst X468.here hx rfl (hb hby at_33) ?_
      refine XS.iconst X468.here hx rfl (hb hby at_34) ?_
      refine XS.iloadN X468.here hx rfl (hb hby at_35) rfl ?_
      refine XS.bipush X468.here hx rfl (hb hby at_36) ?_
      refine XS.iushr X468.here hx rfl (hb hby at_38) rfl ?_
      show Steps p.tables e below (T468.setTop (mkF m 39 #[iv fr, iv pk, iv ln, rv b459, .unset, .unset, .unset, .unset, .unset, .unset, .unset, .unset] [(.int ((fr.toUInt32 >>> ((6 : Int32) &&& 31).toUInt32).toInt32)), (.int (1 : Int32)), (.int (3 : Int32)), (.ref b459)])) _
      refine XS.iconst X468.here hx rfl (hb hby at_39) ?_
      refine XS.iand X468.here hx rfl (hb hby at_40) rfl ?_
      refine XS.iadd X468.here hx rfl (hb hby at_41) rfl ?_
      exact kt)
  obtain ⟨f3, hf3⟩ : ∃ z : Int32, z = ((1 : Int32) + (((fr.toUInt32 >>> ((6 : Int32) &&& 31).toUInt32).toInt32) &&& (3 : Int32))) := ⟨_, rfl⟩
  rw [← hf3] at go470
  obtain ⟨cl471, Ar471, q471, S471, M471, H471, G471⟩ := id V468
  have hin471 : ¬ ((3 : Int32) < 0 ∨ cl471.slots.size ≤ ((3 : Int32)).toNatClampNeg) := inb_of S471 ⟨by decide, by decide⟩
  obtain ⟨T471, h471, X471, e471, W471, st471⟩ := stI X468 hx hZ e468 Ar471 (j := (3 : Int32)) hin471 (g := (mkF m 42 #[iv fr, iv pk, iv ln, rv b459, .unset, .unset, .unset, .unset, .unset, .unset, .unset, .unset] [(.int f3), (.int (3 : Int32)), (.ref b459)])) rfl rfl (hb hby at_42)
  have V471 : Arv Z h471 b459 k459 .int (4 : Int32) [(.int f0), (.int f1), (.int f2), (.int f3)] (.int (0 : Int32)) := Arv.set Ar471 q471 S471 M471 H471 G471 rfl W471 3 rfl (Nat.le_of_ble_eq_true rfl)
  have N471 := Fr.snoc X471 N468 ge_b459
  have go472 : own_S p e below ST T471 (mkF m 43 #[iv fr, iv pk, iv ln, rv b459, .unset, .unset, .unset, .unset, .unset, .unset, .unset, .unset] []) := fun tt kt => go470 tt (st471 _ kt)
  have go473 : own_S p e below ST T471 (mkF m 48 #[iv fr, iv pk, iv ln, rv b459, iv (pk &&& (3 : Int32)), .unset, .unset, .unset, .unset, .unset, .unset, .unset] []) := fun tt kt => go472 tt (by
      refine XS.iloadN X471.here hx rfl (hb hby at_43) rfl ?_
      refine XS.iconst X471.here hx rfl (hb hby at_44) ?_
      refine XS.iand X471.here hx rfl (hb hby at_45) rfl ?_
      refine XS.istore X471.here hx rfl (hb hby at_46) rfl (l' := #[iv fr, iv pk, iv ln, rv b459, iv (pk &&& (3 : Int32)), .unset, .unset, .unset, .unset, .unset, .unset, .unset]) rfl ?_
      exact kt)
  obtain ⟨i0, hi0⟩ : ∃ z : Int32, z = (pk &&& (3 : Int32)) := ⟨_, rfl⟩
  rw [← hi0] at go473
  have hi0' := own_4 _ i0 hi0
  have go474 : own_S p e below ST T471 (mkF m 55 #[iv fr, iv pk, iv ln, rv b459, iv i0, iv (((pk.toUInt32 >>> ((2 : Int32) &&& 31).toUInt32).toInt32) &&& (3 : Int32)), .unset, .unset, .unset, .unset, .unset, .unset] []) := fun tt kt => go473 tt (by
      refine XS.iloadN X471.here hx rfl (hb hby at_48) rfl ?_
      refine XS.iconst X471.here hx rfl (hb hby at_49) ?_
      refine XS.iushr X471.here hx rfl (hb hby at_50) rfl ?_
      refine XS.iconst X471.here hx rfl (hb hby at_51) ?_
      refine XS.iand X471.here hx rfl (hb hby at_52) rfl ?_
      refine XS.istore X471.here hx rfl (hb hby at_53) rfl (l' := #[iv fr, iv pk, iv ln, rv b459, iv i0, iv (((pk.toUInt32 >>> ((2 : Int32) &&& 31).toUInt32).toInt32) &&& (3 : Int32)), .unset, .unset, .unset, .unset, .unset, .unset]) rfl ?_
      exact kt)
  obtain ⟨i1, hi1⟩ : ∃ z : Int32, z = (((pk.toUInt32 >>> ((2 : Int32) &&& 31).toUInt32).toInt32) &&& (3 : Int32)) := ⟨_, rfl⟩
  rw [← hi1] at go474
  have hi1' := own_4 _ i1 hi1
  have go475 : own_S p e below ST T471 (mkF m 62 #[iv fr, iv pk, iv ln, rv b459, iv i0, iv i1, iv (((pk.toUInt32 >>> ((4 : Int32) &&& 31).toUInt32).toInt32) &&& (3 : Int32)), .unset, .unset, .unset, .unset, .unset] []) := fun tt kt => go474 tt (by
      refine XS.iloadN X471.here hx rfl (hb hby at_55) rfl ?_
      refine XS.iconst X471.here hx rfl (hb hby at_56) ?_
      refine XS.iushr X471.here hx rfl (hb hby at_57) rfl ?_
      refine XS.iconst X471.here hx rfl (hb hby at_58) ?_
      refine XS.iand X471.here hx rfl (hb hby at_59) rfl ?_
      refine XS.istore X471.here hx rfl (hb hby at_60) rfl (l' := #[iv fr, iv pk, iv ln, rv b459, iv i0, iv i1, iv (((pk.toUInt32 >>> ((4 : Int32) &&& 31).toUInt32).toInt32) &&& (3 : Int32)), .unset, .unset, .unset, .unset, .unset]) rfl ?_
      exact kt)
  obtain ⟨i2, hi2⟩ : ∃ z : Int32, z = (((pk.toUInt32 >>> ((4 : Int32) &&& 31).toUInt32).toInt32) &&& (3 : Int32)) := ⟨_, rfl⟩
  rw [← hi2] at go475
  have hi2' := own_4 _ i2 hi2
  have go476 : own_S p e below ST T471 (mkF m 70 #[iv fr, iv pk, iv ln, rv b459, iv i0, iv i1, iv i2, iv (((pk.toUInt32 >>> ((6 : Int32) &&& 31).toUInt32).toInt32) &&& (3 : Int32)), .unset, .unset, .unset, .unset] []) := fun tt kt => go475 tt (by
      refine XS.iloadN X471.here hx rfl (hb hby at_62) rfl ?_
      refine XS.bipush X471.here hx rfl (hb hby at_63) ?_
      refine XS.iushr X471.here hx rfl (hb hby at_65) rfl ?_
      refine XS.iconst X471.here hx rfl (hb hby at_66) ?_
      refine XS.iand X471.here hx rfl (hb hby at_67) rfl ?_
      refine XS.istore X471.here hx rfl (hb hby at_68) rfl (l' := #[iv fr, iv pk, iv ln, rv b459, iv i0, iv i1, iv i2, iv (((pk.toUInt32 >>> ((6 : Int32) &&& 31).toUInt32).toInt32) &&& (3 : Int32)), .unset, .unset, .unset, .unset]) rfl ?_
      exact kt)
  obtain ⟨i3, hi3⟩ : ∃ z : Int32, z = (((pk.toUInt32 >>> ((6 : Int32) &&& 31).toUInt32).toInt32) &&& (3 : Int32)) := ⟨_, rfl⟩
  rw [← hi3] at go476
  have hi3' := own_4 _ i3 hi3
  have go477 : own_S p e below ST T471 (mkF m 78 #[iv fr, iv pk, iv ln, rv b459, iv i0, iv i1, iv i2, iv i3, iv ((ln &&& (2147483647 : Int32)) % (5 : Int32)), .unset, .unset, .unset] []) := fun tt kt => go476 tt (by
      refine XS.iloadN X471.here hx rfl (hb hby at_70) rfl ?_
      refine X471.ldcInt hx hown (mvT hZ (W 1 rfl)) (g := (mkF m 71 #[iv fr, iv pk, iv ln, rv b459, iv i0, iv i1, iv i2, iv i3, .unset, .unset, .unset, .unset] [(.int ln)])) rfl (hb hby at_71) _ ?_
      refine XS.iand X471.here hx rfl (hb hby at_73) rfl ?_
      refine XS.iconst X471.here hx rfl (hb hby at_74) ?_
      refine iremM (g := (mkF m 75 #[iv fr, iv pk, iv ln, rv b459, iv i0, iv i1, iv i2, iv i3, .unset, .unset, .unset, .unset] [(.int (5 : Int32)), (.int (ln &&& (2147483647 : Int32)))])) X471 hx rfl (hb hby at_75) rfl (by decide) ?_
      refine XS.istore X471.here hx rfl (hb hby at_76) rfl (l' := #[iv fr, iv pk, iv ln, rv b459, iv i0, iv i1, iv i2, iv i3, iv ((ln &&& (2147483647 : Int32)) % (5 : Int32)), .unset, .unset, .unset]) rfl ?_
      exact kt)
  rw [hk] at go477
  have go478 : own_S p e below ST T471 (mkF m 141 #[iv fr, iv pk, iv ln, rv b459, iv i0, iv i1, iv i2, iv i3, iv (3 : Int32), .unset, .unset, .unset] [(.int (3 : Int32))]) := fun tt kt => go477 tt (by
      refine XS.iload X471.here hx rfl (hb hby at_78) rfl ?_
      refine XS.ifYes X471.here hx rfl (pc0 := 80) (pc' := 91) rfl (hb hby at_80) rfl ((if0 _ _).trans (feq (by decide : ¬ ((3 : Int32) = (0 : Int32)))).2) (by decide) (by decide) ?_
      refine XS.iload X471.here hx rfl (hb hby at_91) rfl ?_
      refine XS.iconst X471.here hx rfl (hb hby at_93) ?_
      refine XS.icmpYes X471.here hx rfl (pc0 := 94) (pc' := 110) rfl (hb hby at_94) rfl (feq (by decide : ¬ ((3 : Int32) = (1 : Int32)))).2 (by decide) (by decide) ?_
      refine XS.iload X471.here hx rfl (hb hby at_110) rfl ?_
      show Steps p.tables e below (T471.setTop (mkF m 112 #[iv fr, iv pk, iv ln, rv b459, iv i0, iv i1, iv i2, iv i3, iv (3 : Int32), .unset, .unset, .unset] [(.int (3 : Int32))])) _
      refine XS.iconst X471.here hx rfl (hb hby at_112) ?_
      refine XS.icmpYes X471.here hx rfl (pc0 := 113) (pc' := 134) rfl (hb hby at_113) rfl (feq (by decide : ¬ ((3 : Int32) = (2 : Int32)))).2 (by decide) (by decide) ?_
      refine XS.iload X471.here hx rfl (hb hby at_134) rfl ?_
      refine XS.iconst X471.here hx rfl (hb hby at_136) ?_
      refine XS.icmpNo X471.here hx rfl (hb hby at_137) rfl (teq (by decide : (3 : Int32) = (3 : Int32))).2 ?_
      refine XS.iconst X471.here hx rfl (hb hby at_140) ?_
      exact kt)
  have zs480 := (Nat.le_trans (Nat.le_trans (Nat.le_trans (Nat.le_trans (Nat.le_trans Z0 E459.1) (Keep.of_wr W462).1) (Keep.of_wr W465).1) (Keep.of_wr W468).1) (Keep.of_wr W471).1)
  obtain ⟨b479, g479⟩ : ∃ z, z = h471.size := ⟨_, rfl⟩
  obtain ⟨T479, h479, k479, X479, e479, E479, A479, st479⟩ := newP X471 hx hZ (W 0 rfl) e471 (g := (mkF m 141 #[iv fr, iv pk, iv ln, rv b459, iv i0, iv i1, iv i2, iv i3, iv (3 : Int32), .unset, .unset, .unset] [(.int (3 : Int32))])) rfl (hb hby at_141) rfl (by decide) (cap := 3) (by decide) (by decide) (by decide) (by decide)
  rw [← g479] at A479 st479
  have neb459_b479 : b459 ≠ b479 := Nat.ne_of_lt (Nat.lt_of_lt_of_le V471.lt (Nat.le_of_eq g479.symm))
  have ge_b479 : n0 ≤ b479 := Nat.le_trans zs480 (Nat.le_of_eq g479.symm)
  have V479 : Arv Z h479 b479 k479 .int (3 : Int32) [(.int (0 : Int32)), (.int (0 : Int32)), (.int (0 : Int32))] (.int (0 : Int32)) := (Arv.new A479 (by decide)).pad (pad_rep [] (.int (0 : Int32)) 3)
  have go481 : own_S p e below ST T479 (mkF m 143 #[iv fr, iv pk, iv ln, rv b459, iv i0, iv i1, iv i2, iv i3, iv (3 : Int32), .unset, .unset, .unset] [(.ref b479)]) := fun tt kt => go478 tt (st479 _ kt)
  have go482 : own_S p e below ST T479 (mkF m 147 #[iv fr, iv pk, iv ln, rv b459, iv i0, iv i1, iv i2, iv i3, iv (3 : Int32), .unset, .unset, .unset] [(.int i0), (.int (0 : Int32)), (.ref b479), (.ref b479)]) := fun tt kt => go481 tt (by
      refine XS.dup X479.here hx rfl (hb hby at_143) rfl rfl ?_
      refine XS.iconst X479.here hx rfl (hb hby at_144) ?_
      refine XS.iload X479.here hx rfl (hb hby at_145) rfl ?_
      exact kt)
  obtain ⟨cl483, Ar483, q483, S483, M483, H483, G483⟩ := id V479
  have hin483 : ¬ ((0 : Int32) < 0 ∨ cl483.slots.size ≤ ((0 : Int32)).toNatClampNeg) := inb_of S483 ⟨by decide, by decide⟩
  obtain ⟨T483, h483, X483, e483, W483, st483⟩ := stI X479 hx hZ e479 Ar483 (j := (0 : Int32)) hin483 (g := (mkF m 147 #[iv fr, iv pk, iv ln, rv b459, iv i0, iv i1, iv i2, iv i3, iv (3 : Int32), .unset, .unset, .unset] [(.int i0), (.int (0 : Int32)), (.ref b479), (.ref b479)])) rfl rfl (hb hby at_147)
  have V483 : Arv Z h483 b479 k479 .int (3 : Int32) [(.int i0), (.int (0 : Int32)), (.int (0 : Int32))] (.int (0 : Int32)) := Arv.set Ar483 q483 S483 M483 H483 G483 rfl W483 0 rfl (Nat.le_of_ble_eq_true rfl)
  have N483 := Fr.snoc X483 N471 ge_b479
  have go484 : own_S p e below ST T483 (mkF m 148 #[iv fr, iv pk, iv ln, rv b459, iv i0, iv i1, iv i2, iv i3, iv (3 : Int32), .unset, .unset, .unset] [(.ref b479)]) := fun tt kt => go482 tt (st483 _ kt)
  have go485 : own_S p e below ST T483 (mkF m 152 #[iv fr, iv pk, iv ln, rv b459, iv i0, iv i1, iv i2, iv i3, iv (3 : Int32), .unset, .unset, .unset] [(.int i1), (.int (1 : Int32)), (.ref b479), (.ref b479)]) := fun tt kt => go484 tt (by
      refine XS.dup X483.here hx rfl (hb hby at_148) rfl rfl ?_
      refine XS.iconst X483.here hx rfl (hb hby at_149) ?_
      refine XS.iload X483.here hx rfl (hb hby at_150) rfl ?_
      exact kt)
  obtain ⟨cl486, Ar486, q486, S486, M486, H486, G486⟩ := id V483
  have hin486 : ¬ ((1 : Int32) < 0 ∨ cl486.slots.size ≤ ((1 : Int32)).toNatClampNeg) := inb_of S486 ⟨by decide, by decide⟩
  obtain ⟨T486, h486, X486, e486, W486, st486⟩ := stI X483 hx hZ e483 Ar486 (j := (1 : Int32)) hin486 (g := (mkF m 152 #[iv fr, iv pk, iv ln, rv b459, iv i0, iv i1, iv i2, iv i3, iv (3 : Int32), .unset, .unset, .unset] [(.int i1), (.int (1 : Int32)), (.ref b479), (.ref b479)])) rfl rfl (hb hby at_152)
  have V486 : Arv Z h486 b479 k479 .int (3 : Int32) [(.int i0), (.int i1), (.int (0 : Int32))] (.int (0 : Int32)) := Arv.set Ar486 q486 S486 M486 H486 G486 rfl W486 1 rfl (Nat.le_of_ble_eq_true rfl)
  have N486 := Fr.snoc X486 N483 ge_b479
  have go487 : own_S p e below ST T486 (mkF m 153 #[iv fr, iv pk, iv ln, rv b459, iv i0, iv i1, iv i2, iv i3, iv (3 : Int32), .unset, .unset, .unset] [(.ref b479)]) := fun tt kt => go485 tt (st486 _ kt)
  have go488 : own_S p e below ST T486 (mkF m 157 #[iv fr, iv pk, iv ln, rv b459, iv i0, iv i1, iv i2, iv i3, iv (3 : Int32), .unset, .unset, .unset] [(.int i2), (.int (2 : Int32)), (.ref b479), (.ref b479)]) := fun tt kt => go487 tt (by
      refine XS.dup X486.here hx rfl (hb hby at_153) rfl rfl ?_
      refine XS.iconst X486.here hx rfl (hb hby at_154) ?_
      refine XS.iload X486.here hx rfl (hb hby at_155) rfl ?_
      exact kt)
  obtain ⟨cl489, Ar489, q489, S489, M489, H489, G489⟩ := id V486
  have hin489 : ¬ ((2 : Int32) < 0 ∨ cl489.slots.size ≤ ((2 : Int32)).toNatClampNeg) := inb_of S489 ⟨by decide, by decide⟩
  obtain ⟨T489, h489, X489, e489, W489, st489⟩ := stI X486 hx hZ e486 Ar489 (j := (2 : Int32)) hin489 (g := (mkF m 157 #[iv fr, iv pk, iv ln, rv b459, iv i0, iv i1, iv i2, iv i3, iv (3 : Int32), .unset, .unset, .unset] [(.int i2), (.int (2 : Int32)), (.ref b479), (.ref b479)])) rfl rfl (hb hby at_157)
  have V489 : Arv Z h489 b479 k479 .int (3 : Int32) [(.int i0), (.int i1), (.int i2)] (.int (0 : Int32)) := Arv.set Ar489 q489 S489 M489 H489 G489 rfl W489 2 rfl (Nat.le_of_ble_eq_true rfl)
  have N489 := Fr.snoc X489 N486 ge_b479
  have go490 : own_S p e below ST T489 (mkF m 158 #[iv fr, iv pk, iv ln, rv b459, iv i0, iv i1, iv i2, iv i3, iv (3 : Int32), .unset, .unset, .unset] [(.ref b479)]) := fun tt kt => go488 tt (st489 _ kt)
  have go491 : own_S p e below ST T489 (mkF m 188 #[iv fr, iv pk, iv ln, rv b459, iv i0, iv i1, iv i2, iv i3, iv (3 : Int32), rv b479, .unset, .unset] []) := fun tt kt => go490 tt (by
      refine XS.astore X489.here hx rfl (hb hby at_158) rfl rfl (l' := #[iv fr, iv pk, iv ln, rv b459, iv i0, iv i1, iv i2, iv i3, iv (3 : Int32), rv b479, .unset, .unset]) rfl ?_
      refine XS.goto X489.here hx rfl (pc0 := 160) (pc' := 188) rfl (hb hby at_160) (by decide) (by decide) ?_
      exact kt)
  have f493 := ((((V471.ext E479).other W483 neb459_b479).other W486 neb459_b479).other W489 neb459_b479)
  have zs494 := (Nat.le_trans (Nat.le_trans (Nat.le_trans (Nat.le_trans zs480 E479.1) (Keep.of_wr W483).1) (Keep.of_wr W486).1) (Keep.of_wr W489).1)
  obtain ⟨b492, g492⟩ : ∃ z, z = h489.size := ⟨_, rfl⟩
  obtain ⟨T492, h492, X492, e492, E492, A492, D492, -, st492⟩ := newO X489 hx hZ hown (W 2 rfl) (W 3 rfl) (W 4 rfl) e489 (g := (mkF m 188 #[iv fr, iv pk, iv ln, rv b459, iv i0, iv i1, iv i2, iv i3, iv (3 : Int32), rv b479, .unset, .unset] [])) rfl (hb hby at_188) (by decide) (by decide)
  rw [← g492] at A492 D492 st492
  have neb459_b492 : b459 ≠ b492 := Nat.ne_of_lt (Nat.lt_of_lt_of_le f493.lt (Nat.le_of_eq g492.symm))
  have neb479_b492 : b479 ≠ b492 := Nat.ne_of_lt (Nat.lt_of_lt_of_le V489.lt (Nat.le_of_eq g492.symm))
  have ge_b492 : n0 ≤ b492 := Nat.le_trans zs494 (Nat.le_of_eq g492.symm)
  have F492_front : Fld Z h492 b492 "com/example/declination/declination/engine/Nsga2$Ranks" "front" "[I" .null := D492 (Or.inr (W 18 rfl)) (ty := (.array .int)) (by decide)
  have F492_crowding : Fld Z h492 b492 "com/example/declination/declination/engine/Nsga2$Ranks" "crowding" "[D" .null := D492 (Or.inr (W 20 rfl)) (ty := (.array .double)) (by decide)
  have go495 : own_S p e below ST T492 (mkF m 191 #[iv fr, iv pk, iv ln, rv b459, iv i0, iv i1, iv i2, iv i3, iv (3 : Int32), rv b479, .unset, .unset] [(.ref b492)]) := fun tt kt => go491 tt (st492 _ kt)
  have go496 : own_S p e below ST T492 (mkF m 194 #[iv fr, iv pk, iv ln, rv b459, iv i0, iv i1, iv i2, iv i3, iv (3 : Int32), rv b479, .unset, .unset] [(.int (4 : Int32)), (.ref b459), (.ref b492), (.ref b492)]) := fun tt kt => go495 tt (by
      refine XS.dup X492.here hx rfl (hb hby at_191) rfl rfl ?_
      refine XS.aloadN X492.here hx rfl (hb hby at_192) rfl rfl ?_
      refine XS.iconst X492.here hx rfl (hb hby at_193) ?_
      exact kt)
  have f498 := (f493.ext E492)
  have f499 := (V489.ext E492)
  have zs500 := (Nat.le_trans zs494 E492.1)
  obtain ⟨b497, g497⟩ : ∃ z, z = h492.size := ⟨_, rfl⟩
  obtain ⟨T497, h497, k497, X497, e497, E497, A497, st497⟩ := newP X492 hx hZ (W 5 rfl) e492 (g := (mkF m 194 #[iv fr, iv pk, iv ln, rv b459, iv i0, iv i1, iv i2, iv i3, iv (3 : Int32), rv b479, .unset, .unset] [(.int (4 : Int32)), (.ref b459), (.ref b492), (.ref b492)])) rfl (hb hby at_194) rfl (by decide) (cap := 4) (by decide) (by decide) (by decide) (by decide)
  rw [← g497] at A497 st497
  have neb459_b497 : b459 ≠ b497 := Nat.ne_of_lt (Nat.lt_of_lt_of_le f498.lt (Nat.le_of_eq g497.symm))
  have neb479_b497 : b479 ≠ b497 := Nat.ne_of_lt (Nat.lt_of_lt_of_le f499.lt (Nat.le_of_eq g497.symm))
  have neb492_b497 : b492 ≠ b497 := Nat.ne_of_lt (Nat.lt_of_lt_of_le A492.lt (Nat.le_of_eq g497.symm))
  have ge_b497 : n0 ≤ b497 := Nat.le_trans zs500 (Nat.le_of_eq g497.symm)
  have V497 : Arv Z h497 b497 k497 .double (4 : Int32) [(.double 0), (.double 0), (.double 0), (.double 0)] (.double 0) := (Arv.new A497 (by decide)).pad (pad_rep [] (.double 0) 4)
  have go501 : own_S p e below ST T497 (mkF m 196 #[iv fr, iv pk, iv ln, rv b459, iv i0, iv i1, iv i2, iv i3, iv (3 : Int32), rv b479, .unset, .unset] [(.ref b497), (.ref b459), (.ref b492), (.ref b492)]) := fun tt kt => go496 tt (st497 _ kt)
  have f502 := (F492_front.ext E497)
  have f503 := (F492_crowding.ext E497)
  have f504 := (A492.ext E497)
  have zs506 := (Nat.le_trans zs500 E497.1)
  obtain ⟨_, _, ⟨T505, L505, k505, n505⟩, -, X505, ⟨Lc505, hQ505, l505, y505, z505⟩, st505⟩ := X497.specialBack hx (y := (⟨"com/example/declination/declination/engine/Nsga2$Ranks", "<init>", "([I[D)V"⟩ : MethodName)) rfl hown (mvT hZ (W 6 rfl)) (mvT hZ (W 7 rfl)) (mvT hZ (W 8 rfl)) (by decide) (backOf (W := 1) (rm1 l Z a0 hw [] b492 b459 b497 _ _ h497 n0 zs506 f502 f503 f504 ge_b492) hZ (W 8 rfl) (W 4 rfl) (by decide) (by decide)) (g := (mkF m 196 #[iv fr, iv pk, iv ln, rv b459, iv i0, iv i1, iv i2, iv i3, iv (3 : Int32), rv b479, .unset, .unset] [(.ref b497), (.ref b459), (.ref b492), (.ref b492)])) rfl (by rw [hml]; rfl) (Steps.refl _) (a := b492) (argsL := [(.ref b459), (.ref b497)]) (rest := [(.ref b492)]) (lenOf pd54 rfl) rfl (by show 2 * 0 + _ ≤ _; exact Nat.le_of_eq rfl) (hb hby at_196) (fun _ _ => ⟨rfl, e497, (by decide : 4 + 0 ≤ _), (by decide : 13 + 0 ≤ _)⟩)
  dsimp only [Pt.U, Pt.locs, Pt.cells, Pt.slots] at X505 l505 y505 z505 st505 hQ505
  subst l505 y505 z505
  obtain ⟨rfl, Nq505, K505, Fi505⟩ := hQ505
  have N505 := Fr.app N489 Nq505
  have go507 : own_S p e below ST T505 (mkF m 199 #[iv fr, iv pk, iv ln, rv b459, iv i0, iv i1, iv i2, iv i3, iv (3 : Int32), rv b479, .unset, .unset] [(.ref b492)]) := fun tt kt => go501 tt (st505.trans kt)
  have go508 : own_S p e below ST T505 (mkF m 214 #[iv fr, iv pk, iv ln, rv b459, iv i0, iv i1, iv i2, iv i3, iv (3 : Int32), rv b479, rv b492, .unset] [(.int (1 : Int32)), (.int i0), (.ref b459)]) := fun tt kt => go507 tt (by
      refine XS.astore X505.here hx rfl (hb hby at_199) rfl rfl (l' := #[iv fr, iv pk, iv ln, rv b459, iv i0, iv i1, iv i2, iv i3, iv (3 : Int32), rv b479, rv b492, .unset]) rfl ?_
      refine XS.aloadN X505.here hx rfl (hb hby at_201) rfl rfl ?_
      refine XS.iload X505.here hx rfl (hb hby at_202) rfl ?_
      refine XS.iload X505.here hx rfl (hb hby at_204) rfl ?_
      refine XS.ifNo X505.here hx rfl (hb hby at_206) rfl ((if0 _ _).trans (tlt (by decide : (0 : Int32) < (3 : Int32))).2.2.2) ?_
      refine XS.iconst X505.here hx rfl (hb hby at_209) ?_
      show Steps p.tables e below (T505.setTop (mkF m 210 #[iv fr, iv pk, iv ln, rv b459, iv i0, iv i1, iv i2, iv i3, iv (3 : Int32), rv b479, rv b492, .unset] [(.int (1 : Int32)), (.int i0), (.ref b459)])) _
      refine XS.goto X505.here hx rfl (pc0 := 210) (pc' := 214) rfl (hb hby at_210) (by decide) (by decide) ?_
      exact kt)
  have f509 := ((f498.ext E497).keep K505 (ninS neb459_b492 nin0))
  have zs511 := (Nat.le_trans zs506 K505.1)
  obtain ⟨_, _, ⟨T510, L510, k510, n510⟩, -, X510, ⟨Lc510, hQ510, l510, y510, z510⟩, st510⟩ := Jvm.LawKit.callS X505 hx (y := (⟨"com/example/declination/declination/engine/RanksNondominatedPinLaw", "hit", "([IIZ)I"⟩ : MethodName)) hown (mvT hZ (W 21 rfl)) (mvT hZ (W 22 rfl)) (mvT hZ (W 23 rfl)) (mvT hZ (W 24 rfl)) (by decide) (backOf (W := 0) (rm4b1 l Z a0 hw [] b459 i0 _ f0 f1 f2 f3 T505.heap n0 zs511 f509 hi0') hZ (W 24 rfl) (W 23 rfl) (by decide) (by decide)) (g := (mkF m 214 #[iv fr, iv pk, iv ln, rv b459, iv i0, iv i1, iv i2, iv i3, iv (3 : Int32), rv b479, rv b492, .unset] [(.int (1 : Int32)), (.int i0), (.ref b459)])) rfl (by rw [hml]; rfl) (argsL := [(.ref b459), (.int i0), (.int (1 : Int32))]) (rest := []) (lenOf pd55 rfl) rfl (by show 2 * 0 + _ ≤ _; exact Nat.le_of_eq rfl) (hb hby at_214) (fun _ _ => ⟨rfl, rfl, (by decide : 4 + 0 ≤ _), (by decide : 13 + 0 ≤ _)⟩)
  dsimp only [Pt.U, Pt.locs, Pt.cells, Pt.slots] at X510 l510 y510 z510 st510 hQ510
  subst l510 y510 z510
  obtain ⟨rfl, Nq510, eh510⟩ := hQ510
  have N510 := Fr.app N505 Nq510
  have go512 : own_S p e below ST T510 (mkF m 217 #[iv fr, iv pk, iv ln, rv b459, iv i0, iv i1, iv i2, iv i3, iv (3 : Int32), rv b479, rv b492, .unset] [(.int (own_hit (own_pick i0 f0 f1 f2 f3)))]) := fun tt kt => go508 tt (st510 _ kt)
  have go513 : own_S p e below ST T510 (mkF m 231 #[iv fr, iv pk, iv ln, rv b459, iv i0, iv i1, iv i2, iv i3, iv (3 : Int32), rv b479, rv b492, .unset] [(.int (1 : Int32)), (.int i1), (.ref b459), (.int (own_hit (own_pick i0 f0 f1 f2 f3)))]) := fun tt kt => go512 tt (by
      refine XS.aloadN X510.here hx rfl (hb hby at_217) rfl rfl ?_
      refine XS.iload X510.here hx rfl (hb hby at_218) rfl ?_
      refine XS.iload X510.here hx rfl (hb hby at_220) rfl ?_
      refine XS.iconst X510.here hx rfl (hb hby at_222) ?_
      refine XS.icmpNo X510.here hx rfl (hb hby at_223) rfl (tlt (by decide : (1 : Int32) < (3 : Int32))).2.2.2 ?_
      refine XS.iconst X510.here hx rfl (hb hby at_226) ?_
      show Steps p.tables e below (T510.setTop (mkF m 227 #[iv fr, iv pk, iv ln, rv b459, iv i0, iv i1, iv i2, iv i3, iv (3 : Int32), rv b479, rv b492, .unset] [(.int (1 : Int32)), (.int i1), (.ref b459), (.int (own_hit (own_pick i0 f0 f1 f2 f3)))])) _
      refine XS.goto X510.here hx rfl (pc0 := 227) (pc' := 231) rfl (hb hby at_227) (by decide) (by decide) ?_
      exact kt)
  obtain ⟨_, _, ⟨T514, L514, k514, n514⟩, -, X514, ⟨Lc514, hQ514, l514, y514, z514⟩, st514⟩ := Jvm.LawKit.callS X510 hx (y := (⟨"com/example/declination/declination/engine/RanksNondominatedPinLaw", "hit", "([IIZ)I"⟩ : MethodName)) hown (mvT hZ (W 21 rfl)) (mvT hZ (W 22 rfl)) (mvT hZ (W 23 rfl)) (mvT hZ (W 24 rfl)) (by decide) (backOf (W := 1) (rm4b1 l Z a0 hw [] b459 i1 _ f0 f1 f2 f3 T505.heap n0 zs511 f509 hi1') hZ (W 24 rfl) (W 23 rfl) (by decide) (by decide)) (g := (mkF m 231 #[iv fr, iv pk, iv ln, rv b459, iv i0, iv i1, iv i2, iv i3, iv (3 : Int32), rv b479, rv b492, .unset] [(.int (1 : Int32)), (.int i1), (.ref b459), (.int (own_hit (own_pick i0 f0 f1 f2 f3)))])) rfl (by rw [hml]; rfl) (argsL := [(.ref b459), (.int i1), (.int (1 : Int32))]) (rest := [(.int (own_hit (own_pick i0 f0 f1 f2 f3)))]) (lenOf pd55 rfl) rfl (by show 2 * 0 + _ ≤ _; exact Nat.le_of_eq rfl) (hb hby at_231) (fun _ _ => ⟨rfl, eh510, (by decide : 4 + 0 ≤ _), (by decide : 13 + 0 ≤ _)⟩)
  dsimp only [Pt.U, Pt.locs, Pt.cells, Pt.slots] at X514 l514 y514 z514 st514 hQ514
  subst l514 y514 z514
  obtain ⟨rfl, Nq514, eh514⟩ := hQ514
  have N514 := Fr.app N510 Nq514
  have go515 : own_S p e below ST T514 (mkF m 234 #[iv fr, iv pk, iv ln, rv b459, iv i0, iv i1, iv i2, iv i3, iv (3 : Int32), rv b479, rv b492, .unset] [(.int (own_hit (own_pick i1 f0 f1 f2 f3))), (.int (own_hit (own_pick i0 f0 f1 f2 f3)))]) := fun tt kt => go513 tt (st514 _ kt)
  have go516 : own_S p e below ST T514 (mkF m 249 #[iv fr, iv pk, iv ln, rv b459, iv i0, iv i1, iv i2, iv i3, iv (3 : Int32), rv b479, rv b492, .unset] [(.int (1 : Int32)), (.int i2), (.ref b459), (.int ((own_hit (own_pick i0 f0 f1 f2 f3)) + (own_hit (own_pick i1 f0 f1 f2 f3))))]) := fun tt kt => go515 tt (by
      refine XS.iadd X514.here hx rfl (hb hby at_234) rfl ?_
      refine XS.aloadN X514.here hx rfl (hb hby at_235) rfl rfl ?_
      refine XS.iload X514.here hx rfl (hb hby at_236) rfl ?_
      refine XS.iload X514.here hx rfl (hb hby at_238) rfl ?_
      refine XS.iconst X514.here hx rfl (hb hby at_240) ?_
      refine XS.icmpNo X514.here hx rfl (hb hby at_241) rfl (tlt (by decide : (2 : Int32) < (3 : Int32))).2.2.2 ?_
      show Steps p.tables e below (T514.setTop (mkF m 244 #[iv fr, iv pk, iv ln, rv b459, iv i0, iv i1, iv i2, iv i3, iv (3 : Int32), rv b479, rv b492, .unset] [(.int i2), (.ref b459), (.int ((own_hit (own_pick i0 f0 f1 f2 f3)) + (own_hit (own_pick i1 f0 f1 f2 f3))))])) _
      refine XS.iconst X514.here hx rfl (hb hby at_244) ?_
      refine XS.goto X514.here hx rfl (pc0 := 245) (pc' := 249) rfl (hb hby at_245) (by decide) (by decide) ?_
      exact kt)
  obtain ⟨_, _, ⟨T517, L517, k517, n517⟩, -, X517, ⟨Lc517, hQ517, l517, y517, z517⟩, st517⟩ := Jvm.LawKit.callS X514 hx (y := (⟨"com/example/declination/declination/engine/RanksNondominatedPinLaw", "hit", "([IIZ)I"⟩ : MethodName)) hown (mvT hZ (W 21 rfl)) (mvT hZ (W 22 rfl)) (mvT hZ (W 23 rfl)) (mvT hZ (W 24 rfl)) (by decide) (backOf (W := 1) (rm4b1 l Z a0 hw [] b459 i2 _ f0 f1 f2 f3 T505.heap n0 zs511 f509 hi2') hZ (W 24 rfl) (W 23 rfl) (by decide) (by decide)) (g := (mkF m 249 #[iv fr, iv pk, iv ln, rv b459, iv i0, iv i1, iv i2, iv i3, iv (3 : Int32), rv b479, rv b492, .unset] [(.int (1 : Int32)), (.int i2), (.ref b459), (.int ((own_hit (own_pick i0 f0 f1 f2 f3)) + (own_hit (own_pick i1 f0 f1 f2 f3))))])) rfl (by rw [hml]; rfl) (argsL := [(.ref b459), (.int i2), (.int (1 : Int32))]) (rest := [(.int ((own_hit (own_pick i0 f0 f1 f2 f3)) + (own_hit (own_pick i1 f0 f1 f2 f3))))]) (lenOf pd55 rfl) rfl (by show 2 * 0 + _ ≤ _; exact Nat.le_of_eq rfl) (hb hby at_249) (fun _ _ => ⟨rfl, eh514, (by decide : 4 + 0 ≤ _), (by decide : 13 + 0 ≤ _)⟩)
  dsimp only [Pt.U, Pt.locs, Pt.cells, Pt.slots] at X517 l517 y517 z517 st517 hQ517
  subst l517 y517 z517
  obtain ⟨rfl, Nq517, eh517⟩ := hQ517
  have N517 := Fr.app N514 Nq517
  have go518 : own_S p e below ST T517 (mkF m 252 #[iv fr, iv pk, iv ln, rv b459, iv i0, iv i1, iv i2, iv i3, iv (3 : Int32), rv b479, rv b492, .unset] [(.int (own_hit (own_pick i2 f0 f1 f2 f3))), (.int ((own_hit (own_pick i0 f0 f1 f2 f3)) + (own_hit (own_pick i1 f0 f1 f2 f3))))]) := fun tt kt => go516 tt (st517 _ kt)
  have go519 : own_S p e below ST T517 (mkF m 267 #[iv fr, iv pk, iv ln, rv b459, iv i0, iv i1, iv i2, iv i3, iv (3 : Int32), rv b479, rv b492, .unset] [(.int (0 : Int32)), (.int i3), (.ref b459), (.int (((own_hit (own_pick i0 f0 f1 f2 f3)) + (own_hit (own_pick i1 f0 f1 f2 f3))) + (own_hit (own_pick i2 f0 f1 f2 f3))))]) := fun tt kt => go518 tt (by
      refine XS.iadd X517.here hx rfl (hb hby at_252) rfl ?_
      refine XS.aloadN X517.here hx rfl (hb hby at_253) rfl rfl ?_
      refine XS.iload X517.here hx rfl (hb hby at_254) rfl ?_
      refine XS.iload X517.here hx rfl (hb hby at_256) rfl ?_
      refine XS.iconst X517.here hx rfl (hb hby at_258) ?_
      refine XS.icmpYes X517.here hx rfl (pc0 := 259) (pc' := 266) rfl (hb hby at_259) rfl (flt (by decide : ¬ ((3 : Int32) < (3 : Int32)))).2.2.2 (by decide) (by decide) ?_
      show Steps p.tables e below (T517.setTop (mkF m 266 #[iv fr, iv pk, iv ln, rv b459, iv i0, iv i1, iv i2, iv i3, iv (3 : Int32), rv b479, rv b492, .unset] [(.int i3), (.ref b459), (.int (((own_hit (own_pick i0 f0 f1 f2 f3)) + (own_hit (own_pick i1 f0 f1 f2 f3))) + (own_hit (own_pick i2 f0 f1 f2 f3))))])) _
      refine XS.iconst X517.here hx rfl (hb hby at_266) ?_
      exact kt)
  obtain ⟨_, _, ⟨T520, L520, k520, n520⟩, -, X520, ⟨Lc520, hQ520, l520, y520, z520⟩, st520⟩ := Jvm.LawKit.callS X517 hx (y := (⟨"com/example/declination/declination/engine/RanksNondominatedPinLaw", "hit", "([IIZ)I"⟩ : MethodName)) hown (mvT hZ (W 21 rfl)) (mvT hZ (W 22 rfl)) (mvT hZ (W 23 rfl)) (mvT hZ (W 24 rfl)) (by decide) (backOf (W := 1) (rm4b0 l Z a0 hw [] b459 i3 _ f0 f1 f2 f3 T505.heap n0 zs511 f509 hi3') hZ (W 24 rfl) (W 23 rfl) (by decide) (by decide)) (g := (mkF m 267 #[iv fr, iv pk, iv ln, rv b459, iv i0, iv i1, iv i2, iv i3, iv (3 : Int32), rv b479, rv b492, .unset] [(.int (0 : Int32)), (.int i3), (.ref b459), (.int (((own_hit (own_pick i0 f0 f1 f2 f3)) + (own_hit (own_pick i1 f0 f1 f2 f3))) + (own_hit (own_pick i2 f0 f1 f2 f3))))])) rfl (by rw [hml]; rfl) (argsL := [(.ref b459), (.int i3), (.int (0 : Int32))]) (rest := [(.int (((own_hit (own_pick i0 f0 f1 f2 f3)) + (own_hit (own_pick i1 f0 f1 f2 f3))) + (own_hit (own_pick i2 f0 f1 f2 f3))))]) (lenOf pd55 rfl) rfl (by show 2 * 0 + _ ≤ _; exact Nat.le_of_eq rfl) (hb hby at_267) (fun _ _ => ⟨rfl, eh517, (by decide : 4 + 0 ≤ _), (by decide : 13 + 0 ≤ _)⟩)
  dsimp only [Pt.U, Pt.locs, Pt.cells, Pt.slots] at X520 l520 y520 z520 st520 hQ520
  subst l520 y520 z520
  obtain ⟨rfl, Nq520, eh520⟩ := hQ520
  have N520 := Fr.app N517 Nq520
  have go521 : own_S p e below ST T520 (mkF m 270 #[iv fr, iv pk, iv ln, rv b459, iv i0, iv i1, iv i2, iv i3, iv (3 : Int32), rv b479, rv b492, .unset] [(.int (0 : Int32)), (.int (((own_hit (own_pick i0 f0 f1 f2 f3)) + (own_hit (own_pick i1 f0 f1 f2 f3))) + (own_hit (own_pick i2 f0 f1 f2 f3))))]) := fun tt kt => go519 tt (st520 _ kt)
  have go522 : own_S p e below ST T520 (mkF m 277 #[iv fr, iv pk, iv ln, rv b459, iv i0, iv i1, iv i2, iv i3, iv (3 : Int32), rv b479, rv b492, iv ((((own_hit (own_pick i0 f0 f1 f2 f3)) + (own_hit (own_pick i1 f0 f1 f2 f3))) + (own_hit (own_pick i2 f0 f1 f2 f3))) + (0 : Int32))] [(.ref b479), (.ref b492)]) := fun tt kt => go521 tt (by
      refine XS.iadd X520.here hx rfl (hb hby at_270) rfl ?_
      refine XS.istore X520.here hx rfl (hb hby at_271) rfl (l' := #[iv fr, iv pk, iv ln, rv b459, iv i0, iv i1, iv i2, iv i3, iv (3 : Int32), rv b479, rv b492, iv ((((own_hit (own_pick i0 f0 f1 f2 f3)) + (own_hit (own_pick i1 f0 f1 f2 f3))) + (own_hit (own_pick i2 f0 f1 f2 f3))) + (0 : Int32))]) rfl ?_
      refine XS.aload X520.here hx rfl (hb hby at_273) rfl rfl ?_
      refine XS.aload X520.here hx rfl (hb hby at_275) rfl rfl ?_
      exact kt)
  have f523 := ((f499.ext E497).keep K505 (ninS neb479_b492 nin0))
  have f525 := (f504.keep K505)
  obtain ⟨cq524, kq524, q524a, q524b, q524c⟩ := isOf hZ eh520 f525
  obtain ⟨_, _, ⟨T524, L524, k524, n524⟩, -, X524, ⟨Lc524, hQ524, l524, y524, z524⟩, st524⟩ := X520.virtualBack hx (y := (⟨"com/example/declination/declination/engine/Nsga2$Ranks", "nondominated", "([I)I"⟩ : MethodName)) (z := (⟨"com/example/declination/declination/engine/Nsga2$Ranks", "nondominated", "([I)I"⟩ : MethodName)) hown (mvT hZ (W 25 rfl)) (mvT hZ (W 26 rfl)) (notFace_of_selects (args := #[]) (mvT hZ (W 28 rfl))) (mvT hZ (W 28 rfl)) (mvT hZ (W 27 rfl)) (by decide) (backOf (W := 0) (rm5k3 l Z a0 hw [] b492 b479 b459 _ _ f0 f1 f2 f3 i0 i1 i2 T505.heap n0 zs511 Fi505 f509 f523 hi0' hi1' hi2') hZ (W 29 rfl) (W 4 rfl) (by decide) (by decide)) q524a q524c (g := (mkF m 277 #[iv fr, iv pk, iv ln, rv b459, iv i0, iv i1, iv i2, iv i3, iv (3 : Int32), rv b479, rv b492, iv ((((own_hit (own_pick i0 f0 f1 f2 f3)) + (own_hit (own_pick i1 f0 f1 f2 f3))) + (own_hit (own_pick i2 f0 f1 f2 f3))) + (0 : Int32))] [(.ref b479), (.ref b492)])) rfl (by rw [hml]; rfl) (Steps.refl _) (argsL := [(.ref b479)]) (rest := []) (lenOf pd56 rfl) rfl (by show 2 * 0 + _ ≤ _; exact Nat.le_of_eq rfl) (hb hby at_277) (fun _ _ => ⟨rfl, eh520, (by decide : 4 + 0 ≤ _), (by decide : 13 + 0 ≤ _)⟩)
  dsimp only [Pt.U, Pt.locs, Pt.cells, Pt.slots] at X524 l524 y524 z524 st524 hQ524
  subst l524 y524 z524
  obtain ⟨rfl, Nq524, eh524⟩ := hQ524
  have N524 := Fr.app N520 Nq524
  have go526 : own_S p e below ST T524 (mkF m 280 #[iv fr, iv pk, iv ln, rv b459, iv i0, iv i1, iv i2, iv i3, iv (3 : Int32), rv b479, rv b492, iv ((((own_hit (own_pick i0 f0 f1 f2 f3)) + (own_hit (own_pick i1 f0 f1 f2 f3))) + (own_hit (own_pick i2 f0 f1 f2 f3))) + (0 : Int32))] [(.int (own_add (own_add (own_add 0 (own_pick i0 f0 f1 f2 f3)) (own_pick i1 f0 f1 f2 f3)) (own_pick i2 f0 f1 f2 f3)))]) := fun tt kt => go522 tt (st524.trans kt)
  have go527 : own_S p e below ST T524 (mkF m 282 #[iv fr, iv pk, iv ln, rv b459, iv i0, iv i1, iv i2, iv i3, iv (3 : Int32), rv b479, rv b492, iv ((((own_hit (own_pick i0 f0 f1 f2 f3)) + (own_hit (own_pick i1 f0 f1 f2 f3))) + (own_hit (own_pick i2 f0 f1 f2 f3))) + (0 : Int32))] [(.int ((((own_hit (own_pick i0 f0 f1 f2 f3)) + (own_hit (own_pick i1 f0 f1 f2 f3))) + (own_hit (own_pick i2 f0 f1 f2 f3))) + (0 : Int32))), (.int (own_add (own_add (own_add 0 (own_pick i0 f0 f1 f2 f3)) (own_pick i1 f0 f1 f2 f3)) (own_pick i2 f0 f1 f2 f3)))]) := fun tt kt => go526 tt (by
      refine XS.iload X524.here hx rfl (hb hby at_280) rfl ?_
      exact kt)
  have hfin : (own_add (own_add (own_add 0 (own_pick i0 f0 f1 f2 f3)) (own_pick i1 f0 f1 f2 f3)) (own_pick i2 f0 f1 f2 f3)) = ((((own_hit (own_pick i0 f0 f1 f2 f3)) + (own_hit (own_pick i1 f0 f1 f2 f3))) + (own_hit (own_pick i2 f0 f1 f2 f3))) + (0 : Int32)) := by simp only [own_ah, Int32.add_zero, Int32.zero_add]
  have go528 : own_S p e below ST T524 (mkF m 290 #[iv fr, iv pk, iv ln, rv b459, iv i0, iv i1, iv i2, iv i3, iv (3 : Int32), rv b479, rv b492, iv ((((own_hit (own_pick i0 f0 f1 f2 f3)) + (own_hit (own_pick i1 f0 f1 f2 f3))) + (own_hit (own_pick i2 f0 f1 f2 f3))) + (0 : Int32))] [(.int (1 : Int32))]) := fun tt kt => go527 tt (by
      refine XS.icmpNo X524.here hx rfl (hb hby at_282) rfl (teq hfin).2 ?_
      refine XS.iconst X524.here hx rfl (hb hby at_285) ?_
      refine XS.goto X524.here hx rfl (pc0 := 286) (pc' := 290) rfl (hb hby at_286) (by decide) (by decide) ?_
      exact kt)
  obtain ⟨fs, hr, hrun, hended, hW, hsame⟩ := X524.leave (v := some (.int (1 : Int32))) (fun h => by rw [Bd.returns] at h; cases h)
  refine ⟨_, _, pre0 _ (go528 _ ?_), hrun, hended, _, _, rfl, ?_, ⟨_, rfl⟩, hW, hsame.mono (by decide) (by decide)⟩
  · exact retN X524 hx (t := .boolean) Bd.returns (by simp) (hb hby at_290) hr
  · show Q0k3 Z fr pk ln h0 n0 _ T524.heap _
    rw [eh524]
    exact ⟨rfl, N524⟩
theorem ef0k4 (m : MethodId) (x0 : Int32) (x1 : Int32) (x2 : Int32) : entryFrame m #[(.int x0), (.int x1), (.int x2)] maxLocals = mkF m 0 #[.val (.int x0), .val (.int x1), .val (.int x2), .unset, .unset, .unset, .unset, .unset, .unset, .unset, .unset, .unset] [] := by first | (simp [entryFrame, mkF, argsToLocals, Value.category, maxLocals]; done) | rfl
def Q0k4 (Z : State) (fr : Int32) (pk : Int32) (ln : Int32) (h0 : Heap) (n0 : Nat) (v : Option Value) (h : Heap) (L : List Loc) : Prop := v = some (.int 1) ∧ Fr n0 L
set_option maxRecDepth 65536 in
set_option maxHeartbeats 40000000 in
theorem rm0k4 (l : Launch) (Z : State) (a0 : Array Value) (hw : ∀ d ∈ tables_1, d.before a0 Z = true) (ws : List Jvm.Cond) (fr : Int32) (pk : Int32) (ln : Int32) (h0 : Heap) (n0 : Nat) (Z0 : n0 ≤ h0.size) (hk : (ln &&& 2147483647) % 5 = 4) :
    MetFree l x (head1 (Jvm.Cond.code x code maxLocals ret :: ws) room_1) (fun aa UU => aa = #[(.int fr), (.int pk), (.int ln)] ∧ Z.Warmed39 UU.vm ∧ UU.heap = h0) (fun _ _ _ _ _ => True) (fun _ UU oo UU' => ∃ vv LL, oo = .returned vv ∧ Q0k4 Z fr pk ln h0 n0 vv UU'.heap LL ∧ FrameEnd UU oo UU' LL room_1.cells room_1.slots) := by
  have W : ∀ {d : Jvm.Cond} (i : Nat), tables_1[i]? = some d → d.before a0 Z = true := fun i h => hw _ (List.mem_of_getElem? h)
  refine MetFree.of_bodySF (plainFor_of_name pn15) hisR ?_
  intro p e s m args below meth c s₁ Bd hml0 hP hK
  obtain ⟨rfl, hZ, hh⟩ := hP
  have hx := Bd.exec
  have hby := Bd.bytes
  have hml : c.maxLocals = 12 := hml0
  have hown : s.vm.findClass "com/example/declination/declination/engine/RanksNondominatedPinLaw" = some m.cls := findClass_of_methodNamed Bd.named
  have hnm := (name_of_methodNamed Bd.named Bd.method).1
  have X0 : Stand p l e room_1 s m #[(.int fr), (.int pk), (.int ln)] below meth c s₁ [] 0 0 := Stand.of_body Bd
  have e0 : s₁.heap = h0 := by rw [← hh, Bd.state]; rfl
  have N0 := Fr.nil n0
  have pre0 : ∀ tt, Steps p.tables e below (s₁.setTop (mkF m 0 #[iv fr, iv pk, iv ln, .unset, .unset, .unset, .unset, .unset, .unset, .unset, .unset, .unset] [])) tt → Steps p.tables e below (s₁.setTop (entryFrame m #[(.int fr), (.int pk), (.int ln)] maxLocals)) tt := fun tt kt => castTop (ef0k4 m fr pk ln) kt
  obtain ⟨ST, hST⟩ : ∃ z : State, z = s₁.setTop (mkF m 0 #[iv fr, iv pk, iv ln, .unset, .unset, .unset, .unset, .unset, .unset, .unset, .unset, .unset] []) := ⟨_, rfl⟩
  rw [← hST] at pre0
  have go529 : own_S p e below ST s₁ (mkF m 1 #[iv fr, iv pk, iv ln, .unset, .unset, .unset, .unset, .unset, .unset, .unset, .unset, .unset] [(.int (4 : Int32))]) := fun tt kt => (by
      rw [hST]
      show Steps p.tables e below (s₁.setTop (mkF m 0 #[iv fr, iv pk, iv ln, .unset, .unset, .unset, .unset, .unset, .unset, .unset, .unset, .unset] [])) _
      refine XS.iconst X0.here hx rfl (hb hby at_0) ?_
      exact kt)
  obtain ⟨b530, g530⟩ : ∃ z, z = h0.size := ⟨_, rfl⟩
  obtain ⟨T530, h530, k530, X530, e530, E530, A530, st530⟩ := newP X0 hx hZ (W 0 rfl) e0 (g := (mkF m 1 #[iv fr, iv pk, iv ln, .unset, .unset, .unset, .unset, .unset, .unset, .unset, .unset, .unset] [(.int (4 : Int32))])) rfl (hb hby at_1) rfl (by decide) (cap := 4) (by decide) (by decide) (by decide) (by decide)
  rw [← g530] at A530 st530
  have ge_b530 : n0 ≤ b530 := Nat.le_trans Z0 (Nat.le_of_eq g530.symm)
  have V530 : Arv Z h530 b530 k530 .int (4 : Int32) [(.int (0 : Int32)), (.int (0 : Int32)), (.int (0 : Int32)), (.int (0 : Int32))] (.int (0 : Int32)) := (Arv.new A530 (by decide)).pad (pad_rep [] (.int (0 : Int32)) 4)
  have go531 : own_S p e below ST T530 (mkF m 3 #[iv fr, iv pk, iv ln, .unset, .unset, .unset, .unset, .unset, .unset, .unset, .unset, .unset] [(.ref b530)]) := fun tt kt => go529 tt (st530 _ kt)
  have go532 : own_S p e below ST T530 (mkF m 11 #[iv fr, iv pk, iv ln, rv b530, .unset, .unset, .unset, .unset, .unset, .unset, .unset, .unset] [(.int ((1 : Int32) + (fr &&& (3 : Int32)))), (.int (0 : Int32)), (.ref b530)]) := fun tt kt => go531 tt (by
      refine XS.astoreN X530.here hx rfl (hb hby at_3) rfl rfl (l' := #[iv fr, iv pk, iv ln, rv b530, .unset, .unset, .unset, .unset, .unset, .unset, .unset, .unset]) rfl ?_
      refine XS.aloadN X530.here hx rfl (hb hby at_4) rfl rfl ?_
      refine XS.iconst X530.here hx rfl (hb hby at_5) ?_
      refine XS.iconst X530.here hx rfl (hb hby at_6) ?_
      refine XS.iloadN X530.here hx rfl (hb hby at_7) rfl ?_
      refine XS.iconst X530.here hx rfl (hb hby at_8) ?_
      show Steps p.tables e below (T530.setTop (mkF m 9 #[iv fr, iv pk, iv ln, rv b530, .unset, .unset, .unset, .unset, .unset, .unset, .unset, .unset] [(.int (3 : Int32)), (.int fr), (.int (1 : Int32)), (.int (0 : Int32)), (.ref b530)])) _
      refine XS.iand X530.here hx rfl (hb hby at_9) rfl ?_
      refine XS.iadd X530.here hx rfl (hb hby at_10) rfl ?_
      exact kt)
  obtain ⟨f0, hf0⟩ : ∃ z : Int32, z = ((1 : Int32) + (fr &&& (3 : Int32))) := ⟨_, rfl⟩
  rw [← hf0] at go532
  obtain ⟨cl533, Ar533, q533, S533, M533, H533, G533⟩ := id V530
  have hin533 : ¬ ((0 : Int32) < 0 ∨ cl533.slots.size ≤ ((0 : Int32)).toNatClampNeg) := inb_of S533 ⟨by decide, by decide⟩
  obtain ⟨T533, h533, X533, e533, W533, st533⟩ := stI X530 hx hZ e530 Ar533 (j := (0 : Int32)) hin533 (g := (mkF m 11 #[iv fr, iv pk, iv ln, rv b530, .unset, .unset, .unset, .unset, .unset, .unset, .unset, .unset] [(.int f0), (.int (0 : Int32)), (.ref b530)])) rfl rfl (hb hby at_11)
  have V533 : Arv Z h533 b530 k530 .int (4 : Int32) [(.int f0), (.int (0 : Int32)), (.int (0 : Int32)), (.int (0 : Int32))] (.int (0 : Int32)) := Arv.set Ar533 q533 S533 M533 H533 G533 rfl W533 0 rfl (Nat.le_of_ble_eq_true rfl)
  have N533 := Fr.snoc X533 N0 ge_b530
  have go534 : own_S p e below ST T533 (mkF m 12 #[iv fr, iv pk, iv ln, rv b530, .unset, .unset, .unset, .unset, .unset, .unset, .unset, .unset] []) := fun tt kt => go532 tt (st533 _ kt)
  have go535 : own_S p e below ST T533 (mkF m 21 #[iv fr, iv pk, iv ln, rv b530, .unset, .unset, .unset, .unset, .unset, .unset, .unset, .unset] [(.int ((1 : Int32) + (((fr.toUInt32 >>> ((2 : Int32) &&& 31).toUInt32).toInt32) &&& (3 : Int32)))), (.int (1 : Int32)), (.ref b530)]) := fun tt kt => go534 tt (by
      refine XS.aloadN X533.here hx rfl (hb hby at_12) rfl rfl ?_
      refine XS.iconst X533.here hx rfl (hb hby at_13) ?_
      refine XS.iconst X533.here hx rfl (hb hby at_14) ?_
      refine XS.iloadN X533.here hx rfl (hb hby at_15) rfl ?_
      refine XS.iconst X533.here hx rfl (hb hby at_16) ?_
      refine XS.iushr X533.here hx rfl (hb hby at_17) rfl ?_
      show Steps p.tables e below (T533.setTop (mkF m 18 #[iv fr, iv pk, iv ln, rv b530, .unset, .unset, .unset, .unset, .unset, .unset, .unset, .unset] [(.int ((fr.toUInt32 >>> ((2 : Int32) &&& 31).toUInt32).toInt32)), (.int (1 : Int32)), (.int (1 : Int32)), (.ref b530)])) _
      refine XS.iconst X533.here hx rfl (hb hby at_18) ?_
      refine XS.iand X533.here hx rfl (hb hby at_19) rfl ?_
      refine XS.iadd X533.here hx rfl (hb hby at_20) rfl ?_
      exact kt)
  obtain ⟨f1, hf1⟩ : ∃ z : Int32, z = ((1 : Int32) + (((fr.toUInt32 >>> ((2 : Int32) &&& 31).toUInt32).toInt32) &&& (3 : Int32))) := ⟨_, rfl⟩
  rw [← hf1] at go535
  obtain ⟨cl536, Ar536, q536, S536, M536, H536, G536⟩ := id V533
  have hin536 : ¬ ((1 : Int32) < 0 ∨ cl536.slots.size ≤ ((1 : Int32)).toNatClampNeg) := inb_of S536 ⟨by decide, by decide⟩
  obtain ⟨T536, h536, X536, e536, W536, st536⟩ := stI X533 hx hZ e533 Ar536 (j := (1 : Int32)) hin536 (g := (mkF m 21 #[iv fr, iv pk, iv ln, rv b530, .unset, .unset, .unset, .unset, .unset, .unset, .unset, .unset] [(.int f1), (.int (1 : Int32)), (.ref b530)])) rfl rfl (hb hby at_21)
  have V536 : Arv Z h536 b530 k530 .int (4 : Int32) [(.int f0), (.int f1), (.int (0 : Int32)), (.int (0 : Int32))] (.int (0 : Int32)) := Arv.set Ar536 q536 S536 M536 H536 G536 rfl W536 1 rfl (Nat.le_of_ble_eq_true rfl)
  have N536 := Fr.snoc X536 N533 ge_b530
  have go537 : own_S p e below ST T536 (mkF m 22 #[iv fr, iv pk, iv ln, rv b530, .unset, .unset, .unset, .unset, .unset, .unset, .unset, .unset] []) := fun tt kt => go535 tt (st536 _ kt)
  have go538 : own_S p e below ST T536 (mkF m 31 #[iv fr, iv pk, iv ln, rv b530, .unset, .unset, .unset, .unset, .unset, .unset, .unset, .unset] [(.int ((1 : Int32) + (((fr.toUInt32 >>> ((4 : Int32) &&& 31).toUInt32).toInt32) &&& (3 : Int32)))), (.int (2 : Int32)), (.ref b530)]) := fun tt kt => go537 tt (by
      refine XS.aloadN X536.here hx rfl (hb hby at_22) rfl rfl ?_
      refine XS.iconst X536.here hx rfl (hb hby at_23) ?_
      refine XS.iconst X536.here hx rfl (hb hby at_24) ?_
      refine XS.iloadN X536.here hx rfl (hb hby at_25) rfl ?_
      refine XS.iconst X536.here hx rfl (hb hby at_26) ?_
      refine XS.iushr X536.here hx rfl (hb hby at_27) rfl ?_
      show Steps p.tables e below (T536.setTop (mkF m 28 #[iv fr, iv pk, iv ln, rv b530, .unset, .unset, .unset, .unset, .unset, .unset, .unset, .unset] [(.int ((fr.toUInt32 >>> ((4 : Int32) &&& 31).toUInt32).toInt32)), (.int (1 : Int32)), (.int (2 : Int32)), (.ref b530)])) _
      refine XS.iconst X536.here hx rfl (hb hby at_28) ?_
      refine XS.iand X536.here hx rfl (hb hby at_29) rfl ?_
      refine XS.iadd X536.here hx rfl (hb hby at_30) rfl ?_
      exact kt)
  obtain ⟨f2, hf2⟩ : ∃ z : Int32, z = ((1 : Int32) + (((fr.toUInt32 >>> ((4 : Int32) &&& 31).toUInt32).toInt32) &&& (3 : Int32))) := ⟨_, rfl⟩
  rw [← hf2] at go538
  obtain ⟨cl539, Ar539, q539, S539, M539, H539, G539⟩ := id V536
  have hin539 : ¬ ((2 : Int32) < 0 ∨ cl539.slots.size ≤ ((2 : Int32)).toNatClampNeg) := inb_of S539 ⟨by decide, by decide⟩
  obtain ⟨T539, h539, X539, e539, W539, st539⟩ := stI X536 hx hZ e536 Ar539 (j := (2 : Int32)) hin539 (g := (mkF m 31 #[iv fr, iv pk, iv ln, rv b530, .unset, .unset, .unset, .unset, .unset, .unset, .unset, .unset] [(.int f2), (.int (2 : Int32)), (.ref b530)])) rfl rfl (hb hby at_31)
  have V539 : Arv Z h539 b530 k530 .int (4 : Int32) [(.int f0), (.int f1), (.int f2), (.int (0 : Int32))] (.int (0 : Int32)) := Arv.set Ar539 q539 S539 M539 H539 G539 rfl W539 2 rfl (Nat.le_of_ble_eq_true rfl)
  have N539 := Fr.snoc X539 N536 ge_b530
  have go540 : own_S p e below ST T539 (mkF m 32 #[iv fr, iv pk, iv ln, rv b530, .unset, .unset, .unset, .unset, .unset, .unset, .unset, .unset] []) := fun tt kt => go538 tt (st539 _ kt)
  have go541 : own_S p e below ST T539 (mkF m 42 #[iv fr, iv pk, iv ln, rv b530, .unset, .unset, .unset, .unset, .unset, .unset, .unset, .unset] [(.int ((1 : Int32) + (((fr.toUInt32 >>> ((6 : Int32) &&& 31).toUInt32).toInt32) &&& (3 : Int32)))), (.int (3 : Int32)), (.ref b530)]) := fun tt kt => go540 tt (by
      refine XS.aloadN X539.here hx rfl (hb hby at_32) rfl rfl ?_
      refine XS.iconst X539.here hx rfl (hb hby at_33) ?_
      refine XS.iconst X539.here hx rfl (hb hby at_34) ?_
      refine XS.iloadN X539.here hx rfl (hb hby at_35) rfl ?_
      refine XS.bipush X539.here hx rfl (hb hby at_36) ?_
      refine XS.iushr X539.here hx rfl (hb hby at_38) rfl ?_
      show Steps p.tables e below (T539.setTop (mkF m 39 #[iv fr, iv pk, iv ln, rv b530, .unset, .unset, .unset, .unset, .unset, .unset, .unset, .unset] [(.int ((fr.toUInt32 >>> ((6 : Int32) &&& 31).toUInt32).toInt32)), (.int (1 : Int32)), (.int (3 : Int32)), (.ref b530)])) _
      refine XS.iconst X539.here hx rfl (hb hby at_39) ?_
      refine XS.iand X539.here hx rfl (hb hby at_40) rfl ?_
      refine XS.iadd X539.here hx rfl (hb hby at_41) rfl ?_
      exact kt)
  obtain ⟨f3, hf3⟩ : ∃ z : Int32, z = ((1 : Int32) + (((fr.toUInt32 >>> ((6 : Int32) &&& 31).toUInt32).toInt32) &&& (3 : Int32))) := ⟨_, rfl⟩
  rw [← hf3] at go541
  obtain ⟨cl542, Ar542, q542, S542, M542, H542, G542⟩ := id V539
  have hin542 : ¬ ((3 : Int32) < 0 ∨ cl542.slots.size ≤ ((3 : Int32)).toNatClampNeg) := inb_of S542 ⟨by decide, by decide⟩
  obtain ⟨T542, h542, X542, e542, W542, st542⟩ := stI X539 hx hZ e539 Ar542 (j := (3 : Int32)) hin542 (g := (mkF m 42 #[iv fr, iv pk, iv ln, rv b530, .unset, .unset, .unset, .unset, .unset, .unset, .unset, .unset] [(.int f3), (.int (3 : Int32)), (.ref b530)])) rfl rfl (hb hby at_42)
  have V542 : Arv Z h542 b530 k530 .int (4 : Int32) [(.int f0), (.int f1), (.int f2), (.int f3)] (.int (0 : Int32)) := Arv.set Ar542 q542 S542 M542 H542 G542 rfl W542 3 rfl (Nat.le_of_ble_eq_true rfl)
  have N542 := Fr.snoc X542 N539 ge_b530
  have go543 : own_S p e below ST T542 (mkF m 43 #[iv fr, iv pk, iv ln, rv b530, .unset, .unset, .unset, .unset, .unset, .unset, .unset, .unset] []) := fun tt kt => go541 tt (st542 _ kt)
  have go544 : own_S p e below ST T542 (mkF m 48 #[iv fr, iv pk, iv ln, rv b530, iv (pk &&& (3 : Int32)), .unset, .unset, .unset, .unset, .unset, .unset, .unset] []) := fun tt kt => go543 tt (by
      refine XS.iloadN X542.here hx rfl (hb hby at_43) rfl ?_
      refine XS.iconst X542.here hx rfl (hb hby at_44) ?_
      refine XS.iand X542.here hx rfl (hb hby at_45) rfl ?_
      refine XS.istore X542.here hx rfl (hb hby at_46) rfl (l' := #[iv fr, iv pk, iv ln, rv b530, iv (pk &&& (3 : Int32)), .unset, .unset, .unset, .unset, .unset, .unset, .unset]) rfl ?_
      exact kt)
  obtain ⟨i0, hi0⟩ : ∃ z : Int32, z = (pk &&& (3 : Int32)) := ⟨_, rfl⟩
  rw [← hi0] at go544
  have hi0' := own_4 _ i0 hi0
  have go545 : own_S p e below ST T542 (mkF m 55 #[iv fr, iv pk, iv ln, rv b530, iv i0, iv (((pk.toUInt32 >>> ((2 : Int32) &&& 31).toUInt32).toInt32) &&& (3 : Int32)), .unset, .unset, .unset, .unset, .unset, .unset] []) := fun tt kt => go544 tt (by
      refine XS.iloadN X542.here hx rfl (hb hby at_48) rfl ?_
      refine XS.iconst X542.here hx rfl (hb hby at_49) ?_
      refine XS.iushr X542.here hx rfl (hb hby at_50) rfl ?_
      refine XS.iconst X542.here hx rfl (hb hby at_51) ?_
      refine XS.iand X542.here hx rfl (hb hby at_52) rfl ?_
      refine XS.istore X542.here hx rfl (hb hby at_53) rfl (l' := #[iv fr, iv pk, iv ln, rv b530, iv i0, iv (((pk.toUInt32 >>> ((2 : Int32) &&& 31).toUInt32).toInt32) &&& (3 : Int32)), .unset, .unset, .unset, .unset, .unset, .unset]) rfl ?_
      exact kt)
  obtain ⟨i1, hi1⟩ : ∃ z : Int32, z = (((pk.toUInt32 >>> ((2 : Int32) &&& 31).toUInt32).toInt32) &&& (3 : Int32)) := ⟨_, rfl⟩
  rw [← hi1] at go545
  have hi1' := own_4 _ i1 hi1
  have go546 : own_S p e below ST T542 (mkF m 62 #[iv fr, iv pk, iv ln, rv b530, iv i0, iv i1, iv (((pk.toUInt32 >>> ((4 : Int32) &&& 31).toUInt32).toInt32) &&& (3 : Int32)), .unset, .unset, .unset, .unset, .unset] []) := fun tt kt => go545 tt (by
      refine XS.iloadN X542.here hx rfl (hb hby at_55) rfl ?_
      refine XS.iconst X542.here hx rfl (hb hby at_56) ?_
      refine XS.iushr X542.here hx rfl (hb hby at_57) rfl ?_
      refine XS.iconst X542.here hx rfl (hb hby at_58) ?_
      refine XS.iand X542.here hx rfl (hb hby at_59) rfl ?_
      refine XS.istore X542.here hx rfl (hb hby at_60) rfl (l' := #[iv fr, iv pk, iv ln, rv b530, iv i0, iv i1, iv (((pk.toUInt32 >>> ((4 : Int32) &&& 31).toUInt32).toInt32) &&& (3 : Int32)), .unset, .unset, .unset, .unset, .unset]) rfl ?_
      exact kt)
  obtain ⟨i2, hi2⟩ : ∃ z : Int32, z = (((pk.toUInt32 >>> ((4 : Int32) &&& 31).toUInt32).toInt32) &&& (3 : Int32)) := ⟨_, rfl⟩
  rw [← hi2] at go546
  have hi2' := own_4 _ i2 hi2
  have go547 : own_S p e below ST T542 (mkF m 70 #[iv fr, iv pk, iv ln, rv b530, iv i0, iv i1, iv i2, iv (((pk.toUInt32 >>> ((6 : Int32) &&& 31).toUInt32).toInt32) &&& (3 : Int32)), .unset, .unset, .unset, .unset] []) := fun tt kt => go546 tt (by
      refine XS.iloadN X542.here hx rfl (hb hby at_62) rfl ?_
      refine XS.bipush X542.here hx rfl (hb hby at_63) ?_
      refine XS.iushr X542.here hx rfl (hb hby at_65) rfl ?_
      refine XS.iconst X542.here hx rfl (hb hby at_66) ?_
      refine XS.iand X542.here hx rfl (hb hby at_67) rfl ?_
      refine XS.istore X542.here hx rfl (hb hby at_68) rfl (l' := #[iv fr, iv pk, iv ln, rv b530, iv i0, iv i1, iv i2, iv (((pk.toUInt32 >>> ((6 : Int32) &&& 31).toUInt32).toInt32) &&& (3 : Int32)), .unset, .unset, .unset, .unset]) rfl ?_
      exact kt)
  obtain ⟨i3, hi3⟩ : ∃ z : Int32, z = (((pk.toUInt32 >>> ((6 : Int32) &&& 31).toUInt32).toInt32) &&& (3 : Int32)) := ⟨_, rfl⟩
  rw [← hi3] at go547
  have hi3' := own_4 _ i3 hi3
  have go548 : own_S p e below ST T542 (mkF m 78 #[iv fr, iv pk, iv ln, rv b530, iv i0, iv i1, iv i2, iv i3, iv ((ln &&& (2147483647 : Int32)) % (5 : Int32)), .unset, .unset, .unset] []) := fun tt kt => go547 tt (by
      refine XS.iloadN X542.here hx rfl (hb hby at_70) rfl ?_
      refine X542.ldcInt hx hown (mvT hZ (W 1 rfl)) (g := (mkF m 71 #[iv fr, iv pk, iv ln, rv b530, iv i0, iv i1, iv i2, iv i3, .unset, .unset, .unset, .unset] [(.int ln)])) rfl (hb hby at_71) _ ?_
      refine XS.iand X542.here hx rfl (hb hby at_73) rfl ?_
      refine XS.iconst X542.here hx rfl (hb hby at_74) ?_
      refine iremM (g := (mkF m 75 #[iv fr, iv pk, iv ln, rv b530, iv i0, iv i1, iv i2, iv i3, .unset, .unset, .unset, .unset] [(.int (5 : Int32)), (.int (ln &&& (2147483647 : Int32)))])) X542 hx rfl (hb hby at_75) rfl (by decide) ?_
      refine XS.istore X542.here hx rfl (hb hby at_76) rfl (l' := #[iv fr, iv pk, iv ln, rv b530, iv i0, iv i1, iv i2, iv i3, iv ((ln &&& (2147483647 : Int32)) % (5 : Int32)), .unset, .unset, .unset]) rfl ?_
      exact kt)
  rw [hk] at go548
  have go549 : own_S p e below ST T542 (mkF m 164 #[iv fr, iv pk, iv ln, rv b530, iv i0, iv i1, iv i2, iv i3, iv (4 : Int32), .unset, .unset, .unset] [(.int (4 : Int32))]) := fun tt kt => go548 tt (by
      refine XS.iload X542.here hx rfl (hb hby at_78) rfl ?_
      refine XS.ifYes X542.here hx rfl (pc0 := 80) (pc' := 91) rfl (hb hby at_80) rfl ((if0 _ _).trans (feq (by decide : ¬ ((4 : Int32) = (0 : Int32)))).2) (by decide) (by decide) ?_
      refine XS.iload X542.here hx rfl (hb hby at_91) rfl ?_
      refine XS.iconst X542.here hx rfl (hb hby at_93) ?_
      refine XS.icmpYes X542.here hx rfl (pc0 := 94) (pc' := 110) rfl (hb hby at_94) rfl (feq (by decide : ¬ ((4 : Int32) = (1 : Int32)))).2 (by decide) (by decide) ?_
      refine XS.iload X542.here hx rfl (hb hby at_110) rfl ?_
      show Steps p.tables e below (T542.setTop (mkF m 112 #[iv fr, iv pk, iv ln, rv b530, iv i0, iv i1, iv i2, iv i3, iv (4 : Int32), .unset, .unset, .unset] [(.int (4 : Int32))])) _
      refine XS.iconst X542.here hx rfl (hb hby at_112) ?_
      refine XS.icmpYes X542.here hx rfl (pc0 := 113) (pc' := 134) rfl (hb hby at_113) rfl (feq (by decide : ¬ ((4 : Int32) = (2 : Int32)))).2 (by decide) (by decide) ?_
      refine XS.iload X542.here hx rfl (hb hby at_134) rfl ?_
      refine XS.iconst X542.here hx rfl (hb hby at_136) ?_
      refine XS.icmpYes X542.here hx rfl (pc0 := 137) (pc' := 163) rfl (hb hby at_137) rfl (feq (by decide : ¬ ((4 : Int32) = (3 : Int32)))).2 (by decide) (by decide) ?_
      refine XS.iconst X542.here hx rfl (hb hby at_163) ?_
      exact kt)
  have zs551 := (Nat.le_trans (Nat.le_trans (Nat.le_trans (Nat.le_trans (Nat.le_trans Z0 E530.1) (Keep.of_wr W533).1) (Keep.of_wr W536).1) (Keep.of_wr W539).1) (Keep.of_wr W542).1)
  obtain ⟨b550, g550⟩ : ∃ z, z = h542.size := ⟨_, rfl⟩
  obtain ⟨T550, h550, k550, X550, e550, E550, A550, st550⟩ := newP X542 hx hZ (W 0 rfl) e542 (g := (mkF m 164 #[iv fr, iv pk, iv ln, rv b530, iv i0, iv i1, iv i2, iv i3, iv (4 : Int32), .unset, .unset, .unset] [(.int (4 : Int32))])) rfl (hb hby at_164) rfl (by decide) (cap := 4) (by decide) (by decide) (by decide) (by decide)
  rw [← g550] at A550 st550
  have neb530_b550 : b530 ≠ b550 := Nat.ne_of_lt (Nat.lt_of_lt_of_le V542.lt (Nat.le_of_eq g550.symm))
  have ge_b550 : n0 ≤ b550 := Nat.le_trans zs551 (Nat.le_of_eq g550.symm)
  have V550 : Arv Z h550 b550 k550 .int (4 : Int32) [(.int (0 : Int32)), (.int (0 : Int32)), (.int (0 : Int32)), (.int (0 : Int32))] (.int (0 : Int32)) := (Arv.new A550 (by decide)).pad (pad_rep [] (.int (0 : Int32)) 4)
  have go552 : own_S p e below ST T550 (mkF m 166 #[iv fr, iv pk, iv ln, rv b530, iv i0, iv i1, iv i2, iv i3, iv (4 : Int32), .unset, .unset, .unset] [(.ref b550)]) := fun tt kt => go549 tt (st550 _ kt)
  have go553 : own_S p e below ST T550 (mkF m 170 #[iv fr, iv pk, iv ln, rv b530, iv i0, iv i1, iv i2, iv i3, iv (4 : Int32), .unset, .unset, .unset] [(.int i0), (.int (0 : Int32)), (.ref b550), (.ref b550)]) := fun tt kt => go552 tt (by
      refine XS.dup X550.here hx rfl (hb hby at_166) rfl rfl ?_
      refine XS.iconst X550.here hx rfl (hb hby at_167) ?_
      refine XS.iload X550.here hx rfl (hb hby at_168) rfl ?_
      exact kt)
  obtain ⟨cl554, Ar554, q554, S554, M554, H554, G554⟩ := id V550
  have hin554 : ¬ ((0 : Int32) < 0 ∨ cl554.slots.size ≤ ((0 : Int32)).toNatClampNeg) := inb_of S554 ⟨by decide, by decide⟩
  obtain ⟨T554, h554, X554, e554, W554, st554⟩ := stI X550 hx hZ e550 Ar554 (j := (0 : Int32)) hin554 (g := (mkF m 170 #[iv fr, iv pk, iv ln, rv b530, iv i0, iv i1, iv i2, iv i3, iv (4 : Int32), .unset, .unset, .unset] [(.int i0), (.int (0 : Int32)), (.ref b550), (.ref b550)])) rfl rfl (hb hby at_170)
  have V554 : Arv Z h554 b550 k550 .int (4 : Int32) [(.int i0), (.int (0 : Int32)), (.int (0 : Int32)), (.int (0 : Int32))] (.int (0 : Int32)) := Arv.set Ar554 q554 S554 M554 H554 G554 rfl W554 0 rfl (Nat.le_of_ble_eq_true rfl)
  have N554 := Fr.snoc X554 N542 ge_b550
  have go555 : own_S p e below ST T554 (mkF m 171 #[iv fr, iv pk, iv ln, rv b530, iv i0, iv i1, iv i2, iv i3, iv (4 : Int32), .unset, .unset, .unset] [(.ref b550)]) := fun tt kt => go553 tt (st554 _ kt)
  have go556 : own_S p e below ST T554 (mkF m 175 #[iv fr, iv pk, iv ln, rv b530, iv i0, iv i1, iv i2, iv i3, iv (4 : Int32), .unset, .unset, .unset] [(.int i1), (.int (1 : Int32)), (.ref b550), (.ref b550)]) := fun tt kt => go555 tt (by
      refine XS.dup X554.here hx rfl (hb hby at_171) rfl rfl ?_
      refine XS.iconst X554.here hx rfl (hb hby at_172) ?_
      refine XS.iload X554.here hx rfl (hb hby at_173) rfl ?_
      exact kt)
  obtain ⟨cl557, Ar557, q557, S557, M557, H557, G557⟩ := id V554
  have hin557 : ¬ ((1 : Int32) < 0 ∨ cl557.slots.size ≤ ((1 : Int32)).toNatClampNeg) := inb_of S557 ⟨by decide, by decide⟩
  obtain ⟨T557, h557, X557, e557, W557, st557⟩ := stI X554 hx hZ e554 Ar557 (j := (1 : Int32)) hin557 (g := (mkF m 175 #[iv fr, iv pk, iv ln, rv b530, iv i0, iv i1, iv i2, iv i3, iv (4 : Int32), .unset, .unset, .unset] [(.int i1), (.int (1 : Int32)), (.ref b550), (.ref b550)])) rfl rfl (hb hby at_175)
  have V557 : Arv Z h557 b550 k550 .int (4 : Int32) [(.int i0), (.int i1), (.int (0 : Int32)), (.int (0 : Int32))] (.int (0 : Int32)) := Arv.set Ar557 q557 S557 M557 H557 G557 rfl W557 1 rfl (Nat.le_of_ble_eq_true rfl)
  have N557 := Fr.snoc X557 N554 ge_b550
  have go558 : own_S p e below ST T557 (mkF m 176 #[iv fr, iv pk, iv ln, rv b530, iv i0, iv i1, iv i2, iv i3, iv (4 : Int32), .unset, .unset, .unset] [(.ref b550)]) := fun tt kt => go556 tt (st557 _ kt)
  have go559 : own_S p e below ST T557 (mkF m 180 #[iv fr, iv pk, iv ln, rv b530, iv i0, iv i1, iv i2, iv i3, iv (4 : Int32), .unset, .unset, .unset] [(.int i2), (.int (2 : Int32)), (.ref b550), (.ref b550)]) := fun tt kt => go558 tt (by
      refine XS.dup X557.here hx rfl (hb hby at_176) rfl rfl ?_
      refine XS.iconst X557.here hx rfl (hb hby at_177) ?_
      refine XS.iload X557.here hx rfl (hb hby at_178) rfl ?_
      exact kt)
  obtain ⟨cl560, Ar560, q560, S560, M560, H560, G560⟩ := id V557
  have hin560 : ¬ ((2 : Int32) < 0 ∨ cl560.slots.size ≤ ((2 : Int32)).toNatClampNeg) := inb_of S560 ⟨by decide, by decide⟩
  obtain ⟨T560, h560, X560, e560, W560, st560⟩ := stI X557 hx hZ e557 Ar560 (j := (2 : Int32)) hin560 (g := (mkF m 180 #[iv fr, iv pk, iv ln, rv b530, iv i0, iv i1, iv i2, iv i3, iv (4 : Int32), .unset, .unset, .unset] [(.int i2), (.int (2 : Int32)), (.ref b550), (.ref b550)])) rfl rfl (hb hby at_180)
  have V560 : Arv Z h560 b550 k550 .int (4 : Int32) [(.int i0), (.int i1), (.int i2), (.int (0 : Int32))] (.int (0 : Int32)) := Arv.set Ar560 q560 S560 M560 H560 G560 rfl W560 2 rfl (Nat.le_of_ble_eq_true rfl)
  have N560 := Fr.snoc X560 N557 ge_b550
  have go561 : own_S p e below ST T560 (mkF m 181 #[iv fr, iv pk, iv ln, rv b530, iv i0, iv i1, iv i2, iv i3, iv (4 : Int32), .unset, .unset, .unset] [(.ref b550)]) := fun tt kt => go559 tt (st560 _ kt)
  have go562 : own_S p e below ST T560 (mkF m 185 #[iv fr, iv pk, iv ln, rv b530, iv i0, iv i1, iv i2, iv i3, iv (4 : Int32), .unset, .unset, .unset] [(.int i3), (.int (3 : Int32)), (.ref b550), (.ref b550)]) := fun tt kt => go561 tt (by
      refine XS.dup X560.here hx rfl (hb hby at_181) rfl rfl ?_
      refine XS.iconst X560.here hx rfl (hb hby at_182) ?_
      refine XS.iload X560.here hx rfl (hb hby at_183) rfl ?_
      exact kt)
  obtain ⟨cl563, Ar563, q563, S563, M563, H563, G563⟩ := id V560
  have hin563 : ¬ ((3 : Int32) < 0 ∨ cl563.slots.size ≤ ((3 : Int32)).toNatClampNeg) := inb_of S563 ⟨by decide, by decide⟩
  obtain ⟨T563, h563, X563, e563, W563, st563⟩ := stI X560 hx hZ e560 Ar563 (j := (3 : Int32)) hin563 (g := (mkF m 185 #[iv fr, iv pk, iv ln, rv b530, iv i0, iv i1, iv i2, iv i3, iv (4 : Int32), .unset, .unset, .unset] [(.int i3), (.int (3 : Int32)), (.ref b550), (.ref b550)])) rfl rfl (hb hby at_185)
  have V563 : Arv Z h563 b550 k550 .int (4 : Int32) [(.int i0), (.int i1), (.int i2), (.int i3)] (.int (0 : Int32)) := Arv.set Ar563 q563 S563 M563 H563 G563 rfl W563 3 rfl (Nat.le_of_ble_eq_true rfl)
  have N563 := Fr.snoc X563 N560 ge_b550
  have go564 : own_S p e below ST T563 (mkF m 186 #[iv fr, iv pk, iv ln, rv b530, iv i0, iv i1, iv i2, iv i3, iv (4 : Int32), .unset, .unset, .unset] [(.ref b550)]) := fun tt kt => go562 tt (st563 _ kt)
  have go565 : own_S p e below ST T563 (mkF m 188 #[iv fr, iv pk, iv ln, rv b530, iv i0, iv i1, iv i2, iv i3, iv (4 : Int32), rv b550, .unset, .unset] []) := fun tt kt => go564 tt (by
      refine XS.astore X563.here hx rfl (hb hby at_186) rfl rfl (l' := #[iv fr, iv pk, iv ln, rv b530, iv i0, iv i1, iv i2, iv i3, iv (4 : Int32), rv b550, .unset, .unset]) rfl ?_
      exact kt)
  have f567 := (((((V542.ext E550).other W554 neb530_b550).other W557 neb530_b550).other W560 neb530_b550).other W563 neb530_b550)
  have zs568 := (Nat.le_trans (Nat.le_trans (Nat.le_trans (Nat.le_trans (Nat.le_trans zs551 E550.1) (Keep.of_wr W554).1) (Keep.of_wr W557).1) (Keep.of_wr W560).1) (Keep.of_wr W563).1)
  obtain ⟨b566, g566⟩ : ∃ z, z = h563.size := ⟨_, rfl⟩
  obtain ⟨T566, h566, X566, e566, E566, A566, D566, -, st566⟩ := newO X563 hx hZ hown (W 2 rfl) (W 3 rfl) (W 4 rfl) e563 (g := (mkF m 188 #[iv fr, iv pk, iv ln, rv b530, iv i0, iv i1, iv i2, iv i3, iv (4 : Int32), rv b550, .unset, .unset] [])) rfl (hb hby at_188) (by decide) (by decide)
  rw [← g566] at A566 D566 st566
  have neb530_b566 : b530 ≠ b566 := Nat.ne_of_lt (Nat.lt_of_lt_of_le f567.lt (Nat.le_of_eq g566.symm))
  have neb550_b566 : b550 ≠ b566 := Nat.ne_of_lt (Nat.lt_of_lt_of_le V563.lt (Nat.le_of_eq g566.symm))
  have ge_b566 : n0 ≤ b566 := Nat.le_trans zs568 (Nat.le_of_eq g566.symm)
  have F566_front : Fld Z h566 b566 "com/example/declination/declination/engine/Nsga2$Ranks" "front" "[I" .null := D566 (Or.inr (W 18 rfl)) (ty := (.array .int)) (by decide)
  have F566_crowding : Fld Z h566 b566 "com/example/declination/declination/engine/Nsga2$Ranks" "crowding" "[D" .null := D566 (Or.inr (W 20 rfl)) (ty := (.array .double)) (by decide)
  have go569 : own_S p e below ST T566 (mkF m 191 #[iv fr, iv pk, iv ln, rv b530, iv i0, iv i1, iv i2, iv i3, iv (4 : Int32), rv b550, .unset, .unset] [(.ref b566)]) := fun tt kt => go565 tt (st566 _ kt)
  have go570 : own_S p e below ST T566 (mkF m 194 #[iv fr, iv pk, iv ln, rv b530, iv i0, iv i1, iv i2, iv i3, iv (4 : Int32), rv b550, .unset, .unset] [(.int (4 : Int32)), (.ref b530), (.ref b566), (.ref b566)]) := fun tt kt => go569 tt (by
      refine XS.dup X566.here hx rfl (hb hby at_191) rfl rfl ?_
      refine XS.aloadN X566.here hx rfl (hb hby at_192) rfl rfl ?_
      refine XS.iconst X566.here hx rfl (hb hby at_193) ?_
      exact kt)
  have f572 := (f567.ext E566)
  have f573 := (V563.ext E566)
  have zs574 := (Nat.le_trans zs568 E566.1)
  obtain ⟨b571, g571⟩ : ∃ z, z = h566.size := ⟨_, rfl⟩
  obtain ⟨T571, h571, k571, X571, e571, E571, A571, st571⟩ := newP X566 hx hZ (W 5 rfl) e566 (g := (mkF m 194 #[iv fr, iv pk, iv ln, rv b530, iv i0, iv i1, iv i2, iv i3, iv (4 : Int32), rv b550, .unset, .unset] [(.int (4 : Int32)), (.ref b530), (.ref b566), (.ref b566)])) rfl (hb hby at_194) rfl (by decide) (cap := 4) (by decide) (by decide) (by decide) (by decide)
  rw [← g571] at A571 st571
  have neb530_b571 : b530 ≠ b571 := Nat.ne_of_lt (Nat.lt_of_lt_of_le f572.lt (Nat.le_of_eq g571.symm))
  have neb550_b571 : b550 ≠ b571 := Nat.ne_of_lt (Nat.lt_of_lt_of_le f573.lt (Nat.le_of_eq g571.symm))
  have neb566_b571 : b566 ≠ b571 := Nat.ne_of_lt (Nat.lt_of_lt_of_le A566.lt (Nat.le_of_eq g571.symm))
  have ge_b571 : n0 ≤ b571 := Nat.le_trans zs574 (Nat.le_of_eq g571.symm)
  have V571 : Arv Z h571 b571 k571 .double (4 : Int32) [(.double 0), (.double 0), (.double 0), (.double 0)] (.double 0) := (Arv.new A571 (by decide)).pad (pad_rep [] (.double 0) 4)
  have go575 : own_S p e below ST T571 (mkF m 196 #[iv fr, iv pk, iv ln, rv b530, iv i0, iv i1, iv i2, iv i3, iv (4 : Int32), rv b550, .unset, .unset] [(.ref b571), (.ref b530), (.ref b566), (.ref b566)]) := fun tt kt => go570 tt (st571 _ kt)
  have f576 := (F566_front.ext E571)
  have f577 := (F566_crowding.ext E571)
  have f578 := (A566.ext E571)
  have zs580 := (Nat.le_trans zs574 E571.1)
  obtain ⟨_, _, ⟨T579, L579, k579, n579⟩, -, X579, ⟨Lc579, hQ579, l579, y579, z579⟩, st579⟩ := X571.specialBack hx (y := (⟨"com/example/declination/declination/engine/Nsga2$Ranks", "<init>", "([I[D)V"⟩ : MethodName)) rfl hown (mvT hZ (W 6 rfl)) (mvT hZ (W 7 rfl)) (mvT hZ (W 8 rfl)) (by decide) (backOf (W := 1) (rm1 l Z a0 hw [] b566 b530 b571 _ _ h571 n0 zs580 f576 f577 f578 ge_b566) hZ (W 8 rfl) (W 4 rfl) (by decide) (by decide)) (g := (mkF m 196 #[iv fr, iv pk, iv ln, rv b530, iv i0, iv i1, iv i2, iv i3, iv (4 : Int32), rv b550, .unset, .unset] [(.ref b571), (.ref b530), (.ref b566), (.ref b566)])) rfl (by rw [hml]; rfl) (Steps.refl _) (a := b566) (argsL := [(.ref b530), (.ref b571)]) (rest := [(.ref b566)]) (lenOf pd54 rfl) rfl (by show 2 * 0 + _ ≤ _; exact Nat.le_of_eq rfl) (hb hby at_196) (fun _ _ => ⟨rfl, e571, (by decide : 4 + 0 ≤ _), (by decide : 14 + 0 ≤ _)⟩)
  dsimp only [Pt.U, Pt.locs, Pt.cells, Pt.slots] at X579 l579 y579 z579 st579 hQ579
  subst l579 y579 z579
  obtain ⟨rfl, Nq579, K579, Fi579⟩ := hQ579
  have N579 := Fr.app N563 Nq579
  have go581 : own_S p e below ST T579 (mkF m 199 #[iv fr, iv pk, iv ln, rv b530, iv i0, iv i1, iv i2, iv i3, iv (4 : Int32), rv b550, .unset, .unset] [(.ref b566)]) := fun tt kt => go575 tt (st579.trans kt)
  have go582 : own_S p e below ST T579 (mkF m 214 #[iv fr, iv pk, iv ln, rv b530, iv i0, iv i1, iv i2, iv i3, iv (4 : Int32), rv b550, rv b566, .unset] [(.int (1 : Int32)), (.int i0), (.ref b530)]) := fun tt kt => go581 tt (by
      refine XS.astore X579.here hx rfl (hb hby at_199) rfl rfl (l' := #[iv fr, iv pk, iv ln, rv b530, iv i0, iv i1, iv i2, iv i3, iv (4 : Int32), rv b550, rv b566, .unset]) rfl ?_
      refine XS.aloadN X579.here hx rfl (hb hby at_201) rfl rfl ?_
      refine XS.iload X579.here hx rfl (hb hby at_202) rfl ?_
      refine XS.iload X579.here hx rfl (hb hby at_204) rfl ?_
      refine XS.ifNo X579.here hx rfl (hb hby at_206) rfl ((if0 _ _).trans (tlt (by decide : (0 : Int32) < (4 : Int32))).2.2.2) ?_
      refine XS.iconst X579.here hx rfl (hb hby at_209) ?_
      show Steps p.tables e below (T579.setTop (mkF m 210 #[iv fr, iv pk, iv ln, rv b530, iv i0, iv i1, iv i2, iv i3, iv (4 : Int32), rv b550, rv b566, .unset] [(.int (1 : Int32)), (.int i0), (.ref b530)])) _
      refine XS.goto X579.here hx rfl (pc0 := 210) (pc' := 214) rfl (hb hby at_210) (by decide) (by decide) ?_
      exact kt)
  have f583 := ((f572.ext E571).keep K579 (ninS neb530_b566 nin0))
  have zs585 := (Nat.le_trans zs580 K579.1)
  obtain ⟨_, _, ⟨T584, L584, k584, n584⟩, -, X584, ⟨Lc584, hQ584, l584, y584, z584⟩, st584⟩ := Jvm.LawKit.callS X579 hx (y := (⟨"com/example/declination/declination/engine/RanksNondominatedPinLaw", "hit", "([IIZ)I"⟩ : MethodName)) hown (mvT hZ (W 21 rfl)) (mvT hZ (W 22 rfl)) (mvT hZ (W 23 rfl)) (mvT hZ (W 24 rfl)) (by decide) (backOf (W := 0) (rm4b1 l Z a0 hw [] b530 i0 _ f0 f1 f2 f3 T579.heap n0 zs585 f583 hi0') hZ (W 24 rfl) (W 23 rfl) (by decide) (by decide)) (g := (mkF m 214 #[iv fr, iv pk, iv ln, rv b530, iv i0, iv i1, iv i2, iv i3, iv (4 : Int32), rv b550, rv b566, .unset] [(.int (1 : Int32)), (.int i0), (.ref b530)])) rfl (by rw [hml]; rfl) (argsL := [(.ref b530), (.int i0), (.int (1 : Int32))]) (rest := []) (lenOf pd55 rfl) rfl (by show 2 * 0 + _ ≤ _; exact Nat.le_of_eq rfl) (hb hby at_214) (fun _ _ => ⟨rfl, rfl, (by decide : 4 + 0 ≤ _), (by decide : 14 + 0 ≤ _)⟩)
  dsimp only [Pt.U, Pt.locs, Pt.cells, Pt.slots] at X584 l584 y584 z584 st584 hQ584
  subst l584 y584 z584
  obtain ⟨rfl, Nq584, eh584⟩ := hQ584
  have N584 := Fr.app N579 Nq584
  have go586 : own_S p e below ST T584 (mkF m 217 #[iv fr, iv pk, iv ln, rv b530, iv i0, iv i1, iv i2, iv i3, iv (4 : Int32), rv b550, rv b566, .unset] [(.int (own_hit (own_pick i0 f0 f1 f2 f3)))]) := fun tt kt => go582 tt (st584 _ kt)
  have go587 : own_S p e below ST T584 (mkF m 231 #[iv fr, iv pk, iv ln, rv b530, iv i0, iv i1, iv i2, iv i3, iv (4 : Int32), rv b550, rv b566, .unset] [(.int (1 : Int32)), (.int i1), (.ref b530), (.int (own_hit (own_pick i0 f0 f1 f2 f3)))]) := fun tt kt => go586 tt (by
      refine XS.aloadN X584.here hx rfl (hb hby at_217) rfl rfl ?_
      refine XS.iload X584.here hx rfl (hb hby at_218) rfl ?_
      refine XS.iload X584.here hx rfl (hb hby at_220) rfl ?_
      refine XS.iconst X584.here hx rfl (hb hby at_222) ?_
      refine XS.icmpNo X584.here hx rfl (hb hby at_223) rfl (tlt (by decide : (1 : Int32) < (4 : Int32))).2.2.2 ?_
      refine XS.iconst X584.here hx rfl (hb hby at_226) ?_
      show Steps p.tables e below (T584.setTop (mkF m 227 #[iv fr, iv pk, iv ln, rv b530, iv i0, iv i1, iv i2, iv i3, iv (4 : Int32), rv b550, rv b566, .unset] [(.int (1 : Int32)), (.int i1), (.ref b530), (.int (own_hit (own_pick i0 f0 f1 f2 f3)))])) _
      refine XS.goto X584.here hx rfl (pc0 := 227) (pc' := 231) rfl (hb hby at_227) (by decide) (by decide) ?_
      exact kt)
  obtain ⟨_, _, ⟨T588, L588, k588, n588⟩, -, X588, ⟨Lc588, hQ588, l588, y588, z588⟩, st588⟩ := Jvm.LawKit.callS X584 hx (y := (⟨"com/example/declination/declination/engine/RanksNondominatedPinLaw", "hit", "([IIZ)I"⟩ : MethodName)) hown (mvT hZ (W 21 rfl)) (mvT hZ (W 22 rfl)) (mvT hZ (W 23 rfl)) (mvT hZ (W 24 rfl)) (by decide) (backOf (W := 1) (rm4b1 l Z a0 hw [] b530 i1 _ f0 f1 f2 f3 T579.heap n0 zs585 f583 hi1') hZ (W 24 rfl) (W 23 rfl) (by decide) (by decide)) (g := (mkF m 231 #[iv fr, iv pk, iv ln, rv b530, iv i0, iv i1, iv i2, iv i3, iv (4 : Int32), rv b550, rv b566, .unset] [(.int (1 : Int32)), (.int i1), (.ref b530), (.int (own_hit (own_pick i0 f0 f1 f2 f3)))])) rfl (by rw [hml]; rfl) (argsL := [(.ref b530), (.int i1), (.int (1 : Int32))]) (rest := [(.int (own_hit (own_pick i0 f0 f1 f2 f3)))]) (lenOf pd55 rfl) rfl (by show 2 * 0 + _ ≤ _; exact Nat.le_of_eq rfl) (hb hby at_231) (fun _ _ => ⟨rfl, eh584, (by decide : 4 + 0 ≤ _), (by decide : 14 + 0 ≤ _)⟩)
  dsimp only [Pt.U, Pt.locs, Pt.cells, Pt.slots] at X588 l588 y588 z588 st588 hQ588
  subst l588 y588 z588
  obtain ⟨rfl, Nq588, eh588⟩ := hQ588
  have N588 := Fr.app N584 Nq588
  have go589 : own_S p e below ST T588 (mkF m 234 #[iv fr, iv pk, iv ln, rv b530, iv i0, iv i1, iv i2, iv i3, iv (4 : Int32), rv b550, rv b566, .unset] [(.int (own_hit (own_pick i1 f0 f1 f2 f3))), (.int (own_hit (own_pick i0 f0 f1 f2 f3)))]) := fun tt kt => go587 tt (st588 _ kt)
  have go590 : own_S p e below ST T588 (mkF m 249 #[iv fr, iv pk, iv ln, rv b530, iv i0, iv i1, iv i2, iv i3, iv (4 : Int32), rv b550, rv b566, .unset] [(.int (1 : Int32)), (.int i2), (.ref b530), (.int ((own_hit (own_pick i0 f0 f1 f2 f3)) + (own_hit (own_pick i1 f0 f1 f2 f3))))]) := fun tt kt => go589 tt (by
      refine XS.iadd X588.here hx rfl (hb hby at_234) rfl ?_
      refine XS.aloadN X588.here hx rfl (hb hby at_235) rfl rfl ?_
      refine XS.iload X588.here hx rfl (hb hby at_236) rfl ?_
      refine XS.iload X588.here hx rfl (hb hby at_238) rfl ?_
      refine XS.iconst X588.here hx rfl (hb hby at_240) ?_
      refine XS.icmpNo X588.here hx rfl (hb hby at_241) rfl (tlt (by decide : (2 : Int32) < (4 : Int32))).2.2.2 ?_
      show Steps p.tables e below (T588.setTop (mkF m 244 #[iv fr, iv pk, iv ln, rv b530, iv i0, iv i1, iv i2, iv i3, iv (4 : Int32), rv b550, rv b566, .unset] [(.int i2), (.ref b530), (.int ((own_hit (own_pick i0 f0 f1 f2 f3)) + (own_hit (own_pick i1 f0 f1 f2 f3))))])) _
      refine XS.iconst X588.here hx rfl (hb hby at_244) ?_
      refine XS.goto X588.here hx rfl (pc0 := 245) (pc' := 249) rfl (hb hby at_245) (by decide) (by decide) ?_
      exact kt)
  obtain ⟨_, _, ⟨T591, L591, k591, n591⟩, -, X591, ⟨Lc591, hQ591, l591, y591, z591⟩, st591⟩ := Jvm.LawKit.callS X588 hx (y := (⟨"com/example/declination/declination/engine/RanksNondominatedPinLaw", "hit", "([IIZ)I"⟩ : MethodName)) hown (mvT hZ (W 21 rfl)) (mvT hZ (W 22 rfl)) (mvT hZ (W 23 rfl)) (mvT hZ (W 24 rfl)) (by decide) (backOf (W := 1) (rm4b1 l Z a0 hw [] b530 i2 _ f0 f1 f2 f3 T579.heap n0 zs585 f583 hi2') hZ (W 24 rfl) (W 23 rfl) (by decide) (by decide)) (g := (mkF m 249 #[iv fr, iv pk, iv ln, rv b530, iv i0, iv i1, iv i2, iv i3, iv (4 : Int32), rv b550, rv b566, .unset] [(.int (1 : Int32)), (.int i2), (.ref b530), (.int ((own_hit (own_pick i0 f0 f1 f2 f3)) + (own_hit (own_pick i1 f0 f1 f2 f3))))])) rfl (by rw [hml]; rfl) (argsL := [(.ref b530), (.int i2), (.int (1 : Int32))]) (rest := [(.int ((own_hit (own_pick i0 f0 f1 f2 f3)) + (own_hit (own_pick i1 f0 f1 f2 f3))))]) (lenOf pd55 rfl) rfl (by show 2 * 0 + _ ≤ _; exact Nat.le_of_eq rfl) (hb hby at_249) (fun _ _ => ⟨rfl, eh588, (by decide : 4 + 0 ≤ _), (by decide : 14 + 0 ≤ _)⟩)
  dsimp only [Pt.U, Pt.locs, Pt.cells, Pt.slots] at X591 l591 y591 z591 st591 hQ591
  subst l591 y591 z591
  obtain ⟨rfl, Nq591, eh591⟩ := hQ591
  have N591 := Fr.app N588 Nq591
  have go592 : own_S p e below ST T591 (mkF m 252 #[iv fr, iv pk, iv ln, rv b530, iv i0, iv i1, iv i2, iv i3, iv (4 : Int32), rv b550, rv b566, .unset] [(.int (own_hit (own_pick i2 f0 f1 f2 f3))), (.int ((own_hit (own_pick i0 f0 f1 f2 f3)) + (own_hit (own_pick i1 f0 f1 f2 f3))))]) := fun tt kt => go590 tt (st591 _ kt)
  have go593 : own_S p e below ST T591 (mkF m 267 #[iv fr, iv pk, iv ln, rv b530, iv i0, iv i1, iv i2, iv i3, iv (4 : Int32), rv b550, rv b566, .unset] [(.int (1 : Int32)), (.int i3), (.ref b530), (.int (((own_hit (own_pick i0 f0 f1 f2 f3)) + (own_hit (own_pick i1 f0 f1 f2 f3))) + (own_hit (own_pick i2 f0 f1 f2 f3))))]) := fun tt kt => go592 tt (by
      refine XS.iadd X591.here hx rfl (hb hby at_252) rfl ?_
      refine XS.aloadN X591.here hx rfl (hb hby at_253) rfl rfl ?_
      refine XS.iload X591.here hx rfl (hb hby at_254) rfl ?_
      refine XS.iload X591.here hx rfl (hb hby at_256) rfl ?_
      refine XS.iconst X591.here hx rfl (hb hby at_258) ?_
      refine XS.icmpNo X591.here hx rfl (hb hby at_259) rfl (tlt (by decide : (3 : Int32) < (4 : Int32))).2.2.2 ?_
      show Steps p.tables e below (T591.setTop (mkF m 262 #[iv fr, iv pk, iv ln, rv b530, iv i0, iv i1, iv i2, iv i3, iv (4 : Int32), rv b550, rv b566, .unset] [(.int i3), (.ref b530), (.int (((own_hit (own_pick i0 f0 f1 f2 f3)) + (own_hit (own_pick i1 f0 f1 f2 f3))) + (own_hit (own_pick i2 f0 f1 f2 f3))))])) _
      refine XS.iconst X591.here hx rfl (hb hby at_262) ?_
      refine XS.goto X591.here hx rfl (pc0 := 263) (pc' := 267) rfl (hb hby at_263) (by decide) (by decide) ?_
      exact kt)
  obtain ⟨_, _, ⟨T594, L594, k594, n594⟩, -, X594, ⟨Lc594, hQ594, l594, y594, z594⟩, st594⟩ := Jvm.LawKit.callS X591 hx (y := (⟨"com/example/declination/declination/engine/RanksNondominatedPinLaw", "hit", "([IIZ)I"⟩ : MethodName)) hown (mvT hZ (W 21 rfl)) (mvT hZ (W 22 rfl)) (mvT hZ (W 23 rfl)) (mvT hZ (W 24 rfl)) (by decide) (backOf (W := 1) (rm4b1 l Z a0 hw [] b530 i3 _ f0 f1 f2 f3 T579.heap n0 zs585 f583 hi3') hZ (W 24 rfl) (W 23 rfl) (by decide) (by decide)) (g := (mkF m 267 #[iv fr, iv pk, iv ln, rv b530, iv i0, iv i1, iv i2, iv i3, iv (4 : Int32), rv b550, rv b566, .unset] [(.int (1 : Int32)), (.int i3), (.ref b530), (.int (((own_hit (own_pick i0 f0 f1 f2 f3)) + (own_hit (own_pick i1 f0 f1 f2 f3))) + (own_hit (own_pick i2 f0 f1 f2 f3))))])) rfl (by rw [hml]; rfl) (argsL := [(.ref b530), (.int i3), (.int (1 : Int32))]) (rest := [(.int (((own_hit (own_pick i0 f0 f1 f2 f3)) + (own_hit (own_pick i1 f0 f1 f2 f3))) + (own_hit (own_pick i2 f0 f1 f2 f3))))]) (lenOf pd55 rfl) rfl (by show 2 * 0 + _ ≤ _; exact Nat.le_of_eq rfl) (hb hby at_267) (fun _ _ => ⟨rfl, eh591, (by decide : 4 + 0 ≤ _), (by decide : 14 + 0 ≤ _)⟩)
  dsimp only [Pt.U, Pt.locs, Pt.cells, Pt.slots] at X594 l594 y594 z594 st594 hQ594
  subst l594 y594 z594
  obtain ⟨rfl, Nq594, eh594⟩ := hQ594
  have N594 := Fr.app N591 Nq594
  have go595 : own_S p e below ST T594 (mkF m 270 #[iv fr, iv pk, iv ln, rv b530, iv i0, iv i1, iv i2, iv i3, iv (4 : Int32), rv b550, rv b566, .unset] [(.int (own_hit (own_pick i3 f0 f1 f2 f3))), (.int (((own_hit (own_pick i0 f0 f1 f2 f3)) + (own_hit (own_pick i1 f0 f1 f2 f3))) + (own_hit (own_pick i2 f0 f1 f2 f3))))]) := fun tt kt => go593 tt (st594 _ kt)
  have go596 : own_S p e below ST T594 (mkF m 277 #[iv fr, iv pk, iv ln, rv b530, iv i0, iv i1, iv i2, iv i3, iv (4 : Int32), rv b550, rv b566, iv ((((own_hit (own_pick i0 f0 f1 f2 f3)) + (own_hit (own_pick i1 f0 f1 f2 f3))) + (own_hit (own_pick i2 f0 f1 f2 f3))) + (own_hit (own_pick i3 f0 f1 f2 f3)))] [(.ref b550), (.ref b566)]) := fun tt kt => go595 tt (by
      refine XS.iadd X594.here hx rfl (hb hby at_270) rfl ?_
      refine XS.istore X594.here hx rfl (hb hby at_271) rfl (l' := #[iv fr, iv pk, iv ln, rv b530, iv i0, iv i1, iv i2, iv i3, iv (4 : Int32), rv b550, rv b566, iv ((((own_hit (own_pick i0 f0 f1 f2 f3)) + (own_hit (own_pick i1 f0 f1 f2 f3))) + (own_hit (own_pick i2 f0 f1 f2 f3))) + (own_hit (own_pick i3 f0 f1 f2 f3)))]) rfl ?_
      refine XS.aload X594.here hx rfl (hb hby at_273) rfl rfl ?_
      refine XS.aload X594.here hx rfl (hb hby at_275) rfl rfl ?_
      exact kt)
  have f597 := ((f573.ext E571).keep K579 (ninS neb550_b566 nin0))
  have f599 := (f578.keep K579)
  obtain ⟨cq598, kq598, q598a, q598b, q598c⟩ := isOf hZ eh594 f599
  obtain ⟨_, _, ⟨T598, L598, k598, n598⟩, -, X598, ⟨Lc598, hQ598, l598, y598, z598⟩, st598⟩ := X594.virtualBack hx (y := (⟨"com/example/declination/declination/engine/Nsga2$Ranks", "nondominated", "([I)I"⟩ : MethodName)) (z := (⟨"com/example/declination/declination/engine/Nsga2$Ranks", "nondominated", "([I)I"⟩ : MethodName)) hown (mvT hZ (W 25 rfl)) (mvT hZ (W 26 rfl)) (notFace_of_selects (args := #[]) (mvT hZ (W 28 rfl))) (mvT hZ (W 28 rfl)) (mvT hZ (W 27 rfl)) (by decide) (backOf (W := 0) (rm5k4 l Z a0 hw [] b566 b550 b530 _ _ f0 f1 f2 f3 i0 i1 i2 i3 T579.heap n0 zs585 Fi579 f583 f597 hi0' hi1' hi2' hi3') hZ (W 29 rfl) (W 4 rfl) (by decide) (by decide)) q598a q598c (g := (mkF m 277 #[iv fr, iv pk, iv ln, rv b530, iv i0, iv i1, iv i2, iv i3, iv (4 : Int32), rv b550, rv b566, iv ((((own_hit (own_pick i0 f0 f1 f2 f3)) + (own_hit (own_pick i1 f0 f1 f2 f3))) + (own_hit (own_pick i2 f0 f1 f2 f3))) + (own_hit (own_pick i3 f0 f1 f2 f3)))] [(.ref b550), (.ref b566)])) rfl (by rw [hml]; rfl) (Steps.refl _) (argsL := [(.ref b550)]) (rest := []) (lenOf pd56 rfl) rfl (by show 2 * 0 + _ ≤ _; exact Nat.le_of_eq rfl) (hb hby at_277) (fun _ _ => ⟨rfl, eh594, (by decide : 4 + 0 ≤ _), (by decide : 14 + 0 ≤ _)⟩)
  dsimp only [Pt.U, Pt.locs, Pt.cells, Pt.slots] at X598 l598 y598 z598 st598 hQ598
  subst l598 y598 z598
  obtain ⟨rfl, Nq598, eh598⟩ := hQ598
  have N598 := Fr.app N594 Nq598
  have go600 : own_S p e below ST T598 (mkF m 280 #[iv fr, iv pk, iv ln, rv b530, iv i0, iv i1, iv i2, iv i3, iv (4 : Int32), rv b550, rv b566, iv ((((own_hit (own_pick i0 f0 f1 f2 f3)) + (own_hit (own_pick i1 f0 f1 f2 f3))) + (own_hit (own_pick i2 f0 f1 f2 f3))) + (own_hit (own_pick i3 f0 f1 f2 f3)))] [(.int (own_add (own_add (own_add (own_add 0 (own_pick i0 f0 f1 f2 f3)) (own_pick i1 f0 f1 f2 f3)) (own_pick i2 f0 f1 f2 f3)) (own_pick i3 f0 f1 f2 f3)))]) := fun tt kt => go596 tt (st598.trans kt)
  have go601 : own_S p e below ST T598 (mkF m 282 #[iv fr, iv pk, iv ln, rv b530, iv i0, iv i1, iv i2, iv i3, iv (4 : Int32), rv b550, rv b566, iv ((((own_hit (own_pick i0 f0 f1 f2 f3)) + (own_hit (own_pick i1 f0 f1 f2 f3))) + (own_hit (own_pick i2 f0 f1 f2 f3))) + (own_hit (own_pick i3 f0 f1 f2 f3)))] [(.int ((((own_hit (own_pick i0 f0 f1 f2 f3)) + (own_hit (own_pick i1 f0 f1 f2 f3))) + (own_hit (own_pick i2 f0 f1 f2 f3))) + (own_hit (own_pick i3 f0 f1 f2 f3)))), (.int (own_add (own_add (own_add (own_add 0 (own_pick i0 f0 f1 f2 f3)) (own_pick i1 f0 f1 f2 f3)) (own_pick i2 f0 f1 f2 f3)) (own_pick i3 f0 f1 f2 f3)))]) := fun tt kt => go600 tt (by
      refine XS.iload X598.here hx rfl (hb hby at_280) rfl ?_
      exact kt)
  have hfin : (own_add (own_add (own_add (own_add 0 (own_pick i0 f0 f1 f2 f3)) (own_pick i1 f0 f1 f2 f3)) (own_pick i2 f0 f1 f2 f3)) (own_pick i3 f0 f1 f2 f3)) = ((((own_hit (own_pick i0 f0 f1 f2 f3)) + (own_hit (own_pick i1 f0 f1 f2 f3))) + (own_hit (own_pick i2 f0 f1 f2 f3))) + (own_hit (own_pick i3 f0 f1 f2 f3))) := by simp only [own_ah, Int32.add_zero, Int32.zero_add]
  have go602 : own_S p e below ST T598 (mkF m 290 #[iv fr, iv pk, iv ln, rv b530, iv i0, iv i1, iv i2, iv i3, iv (4 : Int32), rv b550, rv b566, iv ((((own_hit (own_pick i0 f0 f1 f2 f3)) + (own_hit (own_pick i1 f0 f1 f2 f3))) + (own_hit (own_pick i2 f0 f1 f2 f3))) + (own_hit (own_pick i3 f0 f1 f2 f3)))] [(.int (1 : Int32))]) := fun tt kt => go601 tt (by
      refine XS.icmpNo X598.here hx rfl (hb hby at_282) rfl (teq hfin).2 ?_
      refine XS.iconst X598.here hx rfl (hb hby at_285) ?_
      refine XS.goto X598.here hx rfl (pc0 := 286) (pc' := 290) rfl (hb hby at_286) (by decide) (by decide) ?_
      exact kt)
  obtain ⟨fs, hr, hrun, hended, hW, hsame⟩ := X598.leave (v := some (.int (1 : Int32))) (fun h => by rw [Bd.returns] at h; cases h)
  refine ⟨_, _, pre0 _ (go602 _ ?_), hrun, hended, _, _, rfl, ?_, ⟨_, rfl⟩, hW, hsame.mono (by decide) (by decide)⟩
  · exact retN X598 hx (t := .boolean) Bd.returns (by simp) (hb hby at_290) hr
  · show Q0k4 Z fr pk ln h0 n0 _ T598.heap _
    rw [eh598]
    exact ⟨rfl, N598⟩
theorem rm0 (l : Launch) (Z : State) (a0 : Array Value) (hw : ∀ d ∈ tables_1, d.before a0 Z = true) (ws : List Jvm.Cond) (fr : Int32) (pk : Int32) (ln : Int32) (h0 : Heap) (n0 : Nat) (Z0 : n0 ≤ h0.size) :
    MetFree l x (head1 (Jvm.Cond.code x code maxLocals ret :: ws) room_1) (fun aa UU => aa = #[(.int fr), (.int pk), (.int ln)] ∧ Z.Warmed39 UU.vm ∧ UU.heap = h0) (fun _ _ _ _ _ => True) (fun _ UU oo UU' => ∃ vv LL, oo = .returned vv ∧ Q0k0 Z fr pk ln h0 n0 vv UU'.heap LL ∧ FrameEnd UU oo UU' LL room_1.cells room_1.slots) := by
  rcases own_5 ln with hk | hk | hk | hk | hk
  · exact rm0k0 l Z a0 hw ws fr pk ln h0 n0 Z0  hk
  · exact rm0k1 l Z a0 hw ws fr pk ln h0 n0 Z0  hk
  · exact rm0k2 l Z a0 hw ws fr pk ln h0 n0 Z0  hk
  · exact rm0k3 l Z a0 hw ws fr pk ln h0 n0 Z0  hk
  · exact rm0k4 l Z a0 hw ws fr pk ln h0 n0 Z0  hk
set_option maxRecDepth 65536 in
set_option maxHeartbeats 40000000 in
theorem comes_1 {Post : Tables → Env → Array Value → State → Outcome → State → Prop} (hpost : ∀ tb e args s v u, (limb_1_1.after args s (.returned v) u = true ∧ limb_1_2.after args s (.returned v) u = true ∧ True) → FrameEnd s (.returned v) u (Jvm.fieldLocs frame_1_writes args s ++ Jvm.arrayLocs frame_1_arrays args s ++ Jvm.staticLocs frame_1_statics s) 16 128 → Post tb e args s (.returned v) u) :
    ArmFor flags0 classFile x code maxLocals ret World_1 tables_1 room_1 Calls_1 rest_1 Pre_1 Post := by
  intro l hfl _ _ p e ha hc hk s m args below hf hA hF happ hP
  obtain ⟨hcalls, hrest, hpre⟩ := hP
  obtain ⟨-, -, -, hnamed, -, -, -, hat⟩ := (Spec.applies_iff hf).mp happ
  obtain ⟨hg, hn⟩ := and_e (Cond.before_iff.mp (show (Jvm.Cond.and given_1 narrow_1).before args s = true from hpre))
  obtain ⟨gg1, gg2⟩ := and_e hg
  obtain ⟨gg3, gg4⟩ := and_e gg2
  obtain ⟨gg5, gg6⟩ := and_e gg4
  obtain ⟨w0, w1, w2, rfl⟩ : ∃ w0 w1 w2 : Value, args = #[w0, w1, w2] := by
    have hs : args.size = 3 := by simpa [Cond.value, given_1] using gg1
    obtain ⟨L⟩ := args
    match L, hs with
    | [w0, w1, w2], _ => exact ⟨w0, w1, w2, rfl⟩
  have hw := fun d (hd : d ∈ tables_1) => atoms_spec (ws := Jvm.Cond.code x code maxLocals ret :: tables_1) hat d (List.mem_cons_of_mem _ hd)
  have W : ∀ {d : Jvm.Cond} (i : Nat), tables_1[i]? = some d → d.before _ s = true := fun i h => hw _ (List.mem_of_getElem? h)
  have hfit : Fit s := fun {y c} hc i hi => by
    obtain ⟨ha, rfl⟩ := Array.getElem?_eq_some_iff.mp hc
    have q := List.all_eq_true.mp ((Array.all_eq_true_iff_forall_mem.mp hF) _ (Array.getElem_mem ha)) i (List.mem_range.mpr hi)
    simpa [Array.getElem?_eq_getElem hi] using q
  obtain ⟨i0, ei0⟩ := is_v gg3
  obtain rfl : w0 = (.int i0) := Option.some.inj ei0
  obtain ⟨i1, ei1⟩ := is_v gg5
  obtain rfl : w1 = (.int i1) := Option.some.inj ei1
  obtain ⟨i2, ei2⟩ := is_v gg6
  obtain rfl : w2 = (.int i2) := Option.some.inj ei2
  obtain ⟨n, o, h1, h2, h3, _, L, rfl, ⟨rfl, N⟩, hq⟩ := rm0 l s _ hw tables_1 i0 i1 i2 s.heap s.heap.size (Nat.le_refl _)  p e ha hc hk s m _ below hf ((Spec.applies_iff_loose hf).mp happ).1 ⟨rfl, State.Warmed39.refl s, rfl⟩ trivial
  refine ⟨n, _, h1, h2, h3, hpost _ _ _ _ _ _ ⟨Cond.after_iff.mpr rfl, Cond.after_iff.mpr (eq_i res_at (Term.int_eval (1)) rfl), trivial⟩ ⟨hq.1, hq.2.1, (hq.2.2.sift fun y hy => Or.inr (N y hy)).mono (by decide) (by decide)⟩⟩
theorem main_1_1 : Claimed_1_1 := comes_1 fun _ _ _ _ _ _ h hF => ⟨h.1, hF⟩
theorem main_1_2 : Claimed_1_2 := comes_1 fun _ _ _ _ _ _ h hF => ⟨h.2.1, hF⟩
end Jvm.Pilot.@@N@@
namespace Jvm.Pilot.@@N@@
open Jvm Jvm.ClassFile Sem Op Lib Jvm.Free Jvm.Stand Jvm.Pilot.@@N@@.Jvm.D
/-! MADE BY PROGRAM (witnessworld.py) out of the Statement's table words and the real class files: 10 classes; the members and pool entries that the words name. The judged class is class 1, her method 1. -/
namespace start1
open Jvm.ClassFile
def u (s : String) : CpInfo := .utf8 (stringToUtf16 s)
/-- a pool by its gaps: so many unusable entries, then the entry; so many at the end -/
def gap : Nat → List CpInfo → List CpInfo
  | 0, r => r
  | n + 1, r => .unusable :: gap n r
def poolList (es : List (Nat × CpInfo)) (last : Nat) : List CpInfo := es.foldr (fun e r => gap e.1 (e.2 :: r)) (gap last [])
def pool (es : List (Nat × CpInfo)) (last : Nat) : Array CpInfo := ⟨poolList es last⟩
def fileOf (pool : Array CpInfo) (this : Nat) (attrs : Array Attribute := #[]) (ms : Array MethodInfo := #[]) (fl : Nat := 33) (sup : Nat := 0) (ifs : Array Nat := #[]) (fds : Array FieldInfo := #[]) : ClassFile where
  minorVersion := 0
  majorVersion := 65
  constantPool := pool
  accessFlags := fl
  thisClass := this
  superClass := sup
  interfaces := ifs
  fields := fds
  methods := ms
  attributes := attrs
def plain (name : String) (sup : Option ClassId) : Class where
  name := name
  kind := .ordinary
  loader := none
  accessFlags := 33
  super := sup
  interfaces := #[]
  cf := none
  fields := #[]
  methods := #[]
  instanceTypes := #[]
  staticTypes := #[]
  resolved := #[]
  callSites := []
  init := .initialized
  statics := none
  mirror := none

def pool0 : Array CpInfo := pool [(5, u "<init>"), (0, u "()V"), (1, .class_ 10), (1, u "java/lang/Object")] 113

def k0c0 : Code := { maxStack := 0, maxLocals := 1, code := object_method_1_code, exceptionTable := #[], attributes := #[] }
def k0m0 : Method := { name := "<init>", desc := "()V", sig := { parameters := [], returnType := none }, accessFlags := 1, code := some k0c0 }
/-- java/lang/Object -/
def k0 : Class := { plain "java/lang/Object" none with
  accessFlags := 33
  interfaces := #[]
  cf := some (fileOf pool0 8 #[] #[{ accessFlags := 1, nameIndex := 5, descriptorIndex := 6, attributes := #[] }] 33 0 #[] #[])
  fields := #[]
  methods := #[k0m0]
  instanceTypes := #[]
  staticTypes := #[]
  resolved := Array.replicate 124 none
  statics := none }

def pool1 : Array CpInfo := pool [(2, .class_ 4), (1, u "java/lang/Object"), (0, u "<init>"), (0, u "()V"), (0, .integer 2147483647), (0, .class_ 9), (0, u "com/example/declination/declination/engine/Nsga2$Ranks"), (0, .methodref 8 11), (0, .nameAndType 5 12), (0, u "([I[D)V"), (0, .methodref 14 15), (0, .class_ 16), (0, .nameAndType 17 18), (0, u "com/example/declination/declination/engine/RanksNondominatedPinLaw"), (0, u "hit"), (0, u "([IIZ)I"), (0, .methodref 8 20), (0, .nameAndType 21 22), (0, u "nondominated"), (0, u "([I)I"), (2, u "law"), (0, u "(III)Z")] 9

def k1m0 : Method := { name := "<init>", desc := "()V", sig := { parameters := [], returnType := none }, accessFlags := 2, code := none }
def k1c1 : Code := { maxStack := 5, maxLocals := 12, code := code, exceptionTable := #[], attributes := #[] }
def k1m1 : Method := { name := "law", desc := "(III)Z", sig := { parameters := [.int, .int, .int], returnType := some .boolean }, accessFlags := 9, code := some k1c1 }
def k1c2 : Code := { maxStack := 2, maxLocals := 3, code := method_3_code, exceptionTable := #[], attributes := #[] }
def k1m2 : Method := { name := "hit", desc := "([IIZ)I", sig := { parameters := [(.array .int), .int, .boolean], returnType := some .int }, accessFlags := 10, code := some k1c2 }
/-- com/example/declination/declination/engine/RanksNondominatedPinLaw -/
def k1 : Class := { plain "com/example/declination/declination/engine/RanksNondominatedPinLaw" (some 0) with
  accessFlags := 49
  interfaces := #[]
  cf := some (fileOf pool1 14 #[] #[{ accessFlags := 2, nameIndex := 5, descriptorIndex := 6, attributes := #[] }, { accessFlags := 9, nameIndex := 25, descriptorIndex := 26, attributes := #[] }, { accessFlags := 10, nameIndex := 17, descriptorIndex := 18, attributes := #[] }] 49 2 #[] #[])
  fields := #[]
  methods := #[k1m0, k1m1, k1m2]
  instanceTypes := #[]
  staticTypes := #[]
  resolved := Array.replicate 36 none
  statics := none }

def pool2 : Array CpInfo := pool [(1, .methodref 2 3), (0, .class_ 4), (0, .nameAndType 5 6), (0, u "java/lang/Object"), (0, u "<init>"), (0, u "()V"), (0, .class_ 8), (0, u "java/lang/Record")] 13

def k2c0 : Code := { maxStack := 1, maxLocals := 1, code := jdk_30_method_1_code, exceptionTable := #[], attributes := #[] }
def k2m0 : Method := { name := "<init>", desc := "()V", sig := { parameters := [], returnType := none }, accessFlags := 4, code := some k2c0 }
/-- java/lang/Record -/
def k2 : Class := { plain "java/lang/Record" (some 0) with
  accessFlags := 1057
  interfaces := #[]
  cf := some (fileOf pool2 7 #[] #[{ accessFlags := 4, nameIndex := 5, descriptorIndex := 6, attributes := #[] }] 1057 2 #[] #[])
  fields := #[]
  methods := #[k2m0]
  instanceTypes := #[]
  staticTypes := #[]
  resolved := Array.replicate 22 none
  statics := none }

def pool3 : Array CpInfo := pool [(1, .methodref 2 3), (0, .class_ 4), (0, .nameAndType 5 6), (0, u "java/lang/Record"), (0, u "<init>"), (0, u "()V"), (0, .fieldref 8 9), (0, .class_ 10), (0, .nameAndType 11 12), (0, u "com/example/declination/declination/engine/Nsga2$Ranks"), (0, u "front"), (0, u "[I"), (0, .fieldref 8 14), (0, .nameAndType 15 16), (0, u "crowding"), (0, u "[D"), (25, u "([I[D)V"), (51, u "nondominated"), (0, u "([I)I"), (7, .class_ 104), (0, u "com/example/declination/declination/engine/Nsga2")] 23

def k3c0 : Code := { maxStack := 2, maxLocals := 3, code := prog_9_method_1_code, exceptionTable := #[], attributes := #[] }
def k3m0 : Method := { name := "<init>", desc := "([I[D)V", sig := { parameters := [(.array .int), (.array .double)], returnType := none }, accessFlags := 0, code := some k3c0 }
def k3c1 : Code := { maxStack := 2, maxLocals := 7, code := prog_9_method_5_code, exceptionTable := #[], attributes := #[] }
def k3m1 : Method := { name := "nondominated", desc := "([I)I", sig := { parameters := [(.array .int)], returnType := some .int }, accessFlags := 0, code := some k3c1 }
/-- com/example/declination/declination/engine/Nsga2$Ranks -/
def k3 : Class := { plain "com/example/declination/declination/engine/Nsga2$Ranks" (some 2) with
  accessFlags := 48
  interfaces := #[]
  cf := some (fileOf pool3 8 #[.nestHost 103] #[{ accessFlags := 0, nameIndex := 5, descriptorIndex := 42, attributes := #[] }, { accessFlags := 0, nameIndex := 94, descriptorIndex := 95, attributes := #[] }] 48 2 #[] #[{ accessFlags := 18, nameIndex := 11, descriptorIndex := 12, attributes := #[] }, { accessFlags := 18, nameIndex := 15, descriptorIndex := 16, attributes := #[] }])
  fields := #[{ name := "front", type := (.array .int), accessFlags := 18, slot := 0, constantValue := 0 }, { name := "crowding", type := (.array .double), accessFlags := 18, slot := 1, constantValue := 0 }]
  methods := #[k3m0, k3m1]
  instanceTypes := #[(.array .int), (.array .double)]
  staticTypes := #[]
  resolved := Array.replicate 128 none
  statics := none }

def pool4 : Array CpInfo := pool [(1, u "java/lang/Cloneable"), (0, .class_ 1), (0, u "java/lang/Object"), (0, .class_ 3)] 3

/-- java/lang/Cloneable -/
def k4 : Class := { plain "java/lang/Cloneable" (some 0) with
  accessFlags := 1537
  interfaces := #[]
  cf := some (fileOf pool4 2 #[] #[] 1537 4 #[] #[])
  fields := #[]
  methods := #[]
  instanceTypes := #[]
  staticTypes := #[]
  resolved := Array.replicate 8 none
  statics := none }

def pool5 : Array CpInfo := pool [(1, u "java/io/Serializable"), (0, .class_ 1), (0, u "java/lang/Object"), (0, .class_ 3)] 3

/-- java/io/Serializable -/
def k5 : Class := { plain "java/io/Serializable" (some 0) with
  accessFlags := 1537
  interfaces := #[]
  cf := some (fileOf pool5 2 #[] #[] 1537 4 #[] #[])
  fields := #[]
  methods := #[]
  instanceTypes := #[]
  staticTypes := #[]
  resolved := Array.replicate 8 none
  statics := none }

/-- the primitive byte -/
def k6 : Class := { plain "byte" none with kind := .primitive 'B', accessFlags := 0x411 }
/-- [B -/
def k7 : Class := { plain "[B" (some 0) with kind := .array 6 .byte, interfaces := #[4, 5], accessFlags := 1041 }

/-- the primitive int -/
def k8 : Class := { plain "int" none with kind := .primitive 'I', accessFlags := 0x411 }
/-- [I -/
def k9 : Class := { plain "[I" (some 0) with kind := .array 8 .int, interfaces := #[4, 5], accessFlags := 1041 }

def heap : Heap := #[]
def k10 : Class := { plain "double" none with kind := .primitive 'D', accessFlags := 0x411 }
def k11 : Class := { plain "[D" (some 0) with kind := .array 10 .double, interfaces := #[4, 5], accessFlags := 1041 }
def classes : Array Class := #[k0, k1, k2, k3, k4, k5, k6, k7, k8, k9, k10, k11]
def interned : List (Array UInt16 × Addr) := []
def slotsUsed : Nat := 0
def theMethod : MethodId := ⟨1, 1⟩
def args0 : Array Value := #[.int 5, .int 9, .int 3]
def aboutOver (below : List Frame) : State where
  vm := { classes := classes, interned := interned.toArray }
  heap := heap
  slotsUsed := slotsUsed
  threads := #[{ frames := .invoking theMethod args0 :: below }]
def below0 : List Frame := [.native { method := ⟨0, 0⟩, args := #[] }]
def about1 : State := aboutOver below0
def p0 : Program := .bare "" "" ""
def e0 : Env := launch0.env 0 0 0
theorem w_frames : about1.frames = Frame.invoking theMethod args0 :: below0 := rfl
set_option maxRecDepth 65536 in
theorem w_args : argsFit about1.vm theMethod args0 = true := by decide +kernel
set_option maxRecDepth 65536 in
theorem w_heap : heapFits about1 = true := by decide +kernel
set_option maxRecDepth 65536 in
theorem w_runnable : about1.curStatus? = some .runnable := by decide +kernel
set_option maxRecDepth 65536 in
theorem w_alone : about1.alone = true := by decide +kernel
set_option maxRecDepth 65536 in
theorem w_named : about1.methodNamed? x = some theMethod := by decide +kernel
set_option maxRecDepth 65536 in
theorem w_hears : about1.hears theMethod below0 = true := by decide +kernel
set_option maxRecDepth 65536 in
theorem w_ripe : about1.ripe theMethod args0 below0 = true := by decide +kernel
theorem w_running : about1.status = .running := rfl
set_option maxRecDepth 65536 in
theorem w_room : about1.hasRoom e0.platform room_1 = true :=
  launch0.hasRoom_least _ room_1 (by decide +kernel) (by decide +kernel) (by decide +kernel) (by decide +kernel) (by decide +kernel) (by decide +kernel)
theorem allAtoms_all (ts : List Jvm.Cond) (a : Array Jvm.Value) (st : Jvm.State) : (allAtoms ts).before a st = ts.all (fun c => c.before a st) := by
  induction ts with
  | nil => rfl
  | cons c t ih =>
    show (Jvm.Cond.and c (allAtoms t)).before a st = _
    rw [Jvm.Cond.before_and, ih, List.all_cons]
def words1 : List Jvm.Cond := Jvm.Cond.code x code maxLocals ret :: tables_1
/-- a 'code' word, met by the world's own term for the bytes: nothing is compared byte by byte -/
theorem code_word {y : MethodName} {bytes : ByteArray} {mx : Nat} {rt : Option FieldType} {a : Array Value} {s : State} {m : MethodId} {meth : Method} {c : Code} (h1 : s.methodNamed? y = some m) (h2 : s.vm.method? m = some meth) (h3 : meth.code = some c) (h4 : c.code = bytes)
    (h5 : (c.maxLocals == mx && c.exceptionTable.isEmpty && decide (c.maxStack ≤ mostOperands) && decide (meth.sig.returnType = rt) && !meth.locks && decide (parseMethodDescriptor y.desc = some meth.sig)) = true) : (Jvm.Cond.code y bytes mx rt).before a s = true := by
  simp only [Bool.and_eq_true, beq_iff_eq, Bool.not_eq_true', decide_eq_true_eq] at h5
  obtain ⟨⟨⟨⟨⟨g1, g2⟩, g3⟩, g4⟩, g5⟩, g6⟩ := h5
  simp [Cond.before, Cond.holds, Cond.value, h1, h2, h3, h4, g1, g2, g3, g4, g5, g6]
def isCode : Jvm.Cond → Bool
  | .code _ _ _ _ => true
  | _ => false
theorem all_split {L : List Jvm.Cond} {P : Jvm.Cond → Bool} (h1 : L.all (fun c => isCode c || P c) = true) (h2 : ∀ c ∈ L.filter isCode, P c = true) : L.all P = true := by
  refine List.all_eq_true.mpr fun c hc => ?_
  have h := List.all_eq_true.mp h1 c hc
  rcases Bool.eq_false_or_eq_true (isCode c) with hi | hi
  · exact h2 c (List.mem_filter.mpr ⟨hc, hi⟩)
  · simpa [hi] using h
set_option maxRecDepth 65536 in
theorem w_c0 : (Jvm.Cond.code x code maxLocals ret).before args0 about1 = true := code_word (m := ⟨1, 1⟩) (meth := k1m1) (c := k1c1) (by decide +kernel) rfl rfl rfl (by decide +kernel)
set_option maxRecDepth 65536 in
theorem w_c1 : (Jvm.Cond.code ({ cls := "com/example/declination/declination/engine/Nsga2$Ranks", name := "<init>", desc := "([I[D)V" } : Jvm.MethodName) prog_9_method_1_code (3 : Nat) (Option.none : Option Jvm.ClassFile.FieldType)).before args0 about1 = true := code_word (m := ⟨3, 0⟩) (meth := k3m0) (c := k3c0) (by decide +kernel) rfl rfl rfl (by decide +kernel)
set_option maxRecDepth 65536 in
theorem w_c2 : (Jvm.Cond.code ({ cls := "java/lang/Record", name := "<init>", desc := "()V" } : Jvm.MethodName) jdk_30_method_1_code (1 : Nat) (Option.none : Option Jvm.ClassFile.FieldType)).before args0 about1 = true := code_word (m := ⟨2, 0⟩) (meth := k2m0) (c := k2c0) (by decide +kernel) rfl rfl rfl (by decide +kernel)
set_option maxRecDepth 65536 in
theorem w_c3 : (Jvm.Cond.code ({ cls := "java/lang/Object", name := "<init>", desc := "()V" } : Jvm.MethodName) object_method_1_code (1 : Nat) (Option.none : Option Jvm.ClassFile.FieldType)).before args0 about1 = true := code_word (m := ⟨0, 0⟩) (meth := k0m0) (c := k0c0) (by decide +kernel) rfl rfl rfl (by decide +kernel)
set_option maxRecDepth 65536 in
theorem w_c4 : (Jvm.Cond.code ({ cls := "com/example/declination/declination/engine/RanksNondominatedPinLaw", name := "hit", desc := "([IIZ)I" } : Jvm.MethodName) method_3_code (3 : Nat) (Option.some Jvm.ClassFile.FieldType.int)).before args0 about1 = true := code_word (m := ⟨1, 2⟩) (meth := k1m2) (c := k1c2) (by decide +kernel) rfl rfl rfl (by decide +kernel)
set_option maxRecDepth 65536 in
theorem w_c5 : (Jvm.Cond.code ({ cls := "com/example/declination/declination/engine/Nsga2$Ranks", name := "nondominated", desc := "([I)I" } : Jvm.MethodName) prog_9_method_5_code (7 : Nat) (Option.some Jvm.ClassFile.FieldType.int)).before args0 about1 = true := code_word (m := ⟨3, 1⟩) (meth := k3m1) (c := k3c1) (by decide +kernel) rfl rfl rfl (by decide +kernel)
def codes1 : List Jvm.Cond := [Jvm.Cond.code x code maxLocals ret, Jvm.Cond.code ({ cls := "com/example/declination/declination/engine/Nsga2$Ranks", name := "<init>", desc := "([I[D)V" } : Jvm.MethodName) prog_9_method_1_code (3 : Nat) (Option.none : Option Jvm.ClassFile.FieldType), Jvm.Cond.code ({ cls := "java/lang/Record", name := "<init>", desc := "()V" } : Jvm.MethodName) jdk_30_method_1_code (1 : Nat) (Option.none : Option Jvm.ClassFile.FieldType), Jvm.Cond.code ({ cls := "java/lang/Object", name := "<init>", desc := "()V" } : Jvm.MethodName) object_method_1_code (1 : Nat) (Option.none : Option Jvm.ClassFile.FieldType), Jvm.Cond.code ({ cls := "com/example/declination/declination/engine/RanksNondominatedPinLaw", name := "hit", desc := "([IIZ)I" } : Jvm.MethodName) method_3_code (3 : Nat) (Option.some Jvm.ClassFile.FieldType.int), Jvm.Cond.code ({ cls := "com/example/declination/declination/engine/Nsga2$Ranks", name := "nondominated", desc := "([I)I" } : Jvm.MethodName) prog_9_method_5_code (7 : Nat) (Option.some Jvm.ClassFile.FieldType.int)]
set_option maxRecDepth 65536 in
theorem codes_eq : words1.filter isCode = codes1 := rfl
theorem w_codes : ∀ c ∈ words1.filter isCode, c.before args0 about1 = true := by
  rw [codes_eq]
  intro c hc
  simp only [codes1, List.mem_cons, List.not_mem_nil, or_false] at hc
  rcases hc with rfl | rfl | rfl | rfl | rfl | rfl
  · exact w_c0
  · exact w_c1
  · exact w_c2
  · exact w_c3
  · exact w_c4
  · exact w_c5
set_option maxRecDepth 65536 in
theorem w_t1 : (words1.take 24).all (fun c => isCode c || c.before args0 about1) = true := by decide +kernel
set_option maxRecDepth 65536 in
theorem w_t2 : (words1.drop 24).all (fun c => isCode c || c.before args0 about1) = true := by decide +kernel
theorem w_tables : (allAtoms (Jvm.Cond.code x code maxLocals ret :: tables_1)).before args0 about1 = true := by
  rw [allAtoms_all]
  show words1.all (fun c => c.before args0 about1) = true
  refine all_split ?_ w_codes
  rw [← List.take_append_drop 24 words1, List.all_append, w_t1, w_t2]
  rfl
set_option maxRecDepth 65536 in
theorem w_case : (Jvm.Cond.and given_1 narrow_1).before args0 about1 = true := by decide +kernel
theorem w_applies : (headSpec (Jvm.Cond.code x code maxLocals ret :: tables_1) room_1).applies x e0.platform about1 = true :=
  (Spec.applies_iff w_frames).mpr ⟨w_running, w_runnable, w_alone, w_named, w_hears, w_ripe, w_room, w_tables⟩
theorem atStart : AtStart classFile x code maxLocals ret World_1 tables_1 room_1 Calls_1 rest_1 Pre_1 launch0 p0 e0 about1 theMethod args0 below0 :=
  ⟨lists_1, trivial, launch0.admits_env _ _ _, launch0.least_env, fairChoices_fair.cas, fairChoices_fair.clock, w_frames, w_args, w_heap, w_applies, trivial, trivial, w_case⟩
end start1
theorem witness_1 : WitnessClaimed_1 := ⟨start1.p0, start1.e0, start1.about1, start1.theMethod, start1.args0, start1.below0, start1.atStart⟩
end Jvm.Pilot.@@N@@
