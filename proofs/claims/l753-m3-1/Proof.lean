import JvmDerived
import JvmDerived.Pilot.@@N@@Statement
import JvmDerived.Pilot.@@N@@Code
set_option linter.unusedVariables false
set_option linter.unusedSimpArgs false
namespace Jvm.RoadKit
open Sem ClassFile Op Lib Jvm.Stand Jvm.Free Jvm.LawKit
section New
variable {p : Program} {l : Launch} {e : Env} {R : Room} {s : State} {m : MethodId} {args : Array Value} {below : List Frame} {meth : Method} {c : Code} {T : State} {locs : List Loc} {cells slots : Nat}
theorem retI (X : Stand p l e R s m args below meth c T locs cells slots) (hx : p.tables.exec = Jvm.exec) {pc : Nat} {Ls : Array Slot} {z : Int32} {rest : List Value} (hret : meth.sig.returnType = some .int) (hd : decode c.code pc = .ok (.ireturn, 1)) {fs : List Frame}
    (hl : ∀ (f : JFrame) (acts : List Action), f.method = m → f.locked = none → f.entered = [] → (doReturn e (T.setTop f) acts (some (.int z))).1 = T.setFrames fs) : Steps p.tables e below (T.setTop (mkF m pc Ls (.int z :: rest))) (T.setFrames fs) := by
  have hm' : T.vm.method? m = some meth := X.method'
  have hn : narrow .int (.int z) = .int z := rfl
  show Steps p.tables e below (T.setTop { method := m, pc := pc, locals := Ls, stack := _ :: rest, locked := none }) _
  jvm_step X.here [X.here.top, hx, hd, hm', hret, hn]
  first | (intro acts; rw [hl _ acts rfl rfl rfl]) | rw [hl _ _ rfl rfl rfl]
  exact Steps.refl _
end New
end Jvm.RoadKit
namespace Jvm.Pilot.@@N@@
open Jvm Jvm.ClassFile Sem Op Lib Jvm.Free Jvm.Stand Jvm.LawKit Jvm.RoadKit Bundle Jvm.Pilot.@@N@@.Jvm.D
abbrev own_S (p : Program) (e : Env) (below : List Frame) (S T : State) (f : JFrame) : Prop := ∀ tt, Steps p.tables e below (T.setTop f) tt → Steps p.tables e below S tt
def own_fo (x : Int64) : Int64 := if x = 0 then 1 else x <<< ((40 : Int32) &&& 0x3f).toInt64
def own_of (x : Int64) : Int64 := (x.toUInt64 >>> ((40 : Int32) &&& 0x3f).toInt64.toUInt64).toInt64
theorem own_e (x e : Int64) (h : e = x &&& 8388607) : 0 ≤ e.toInt ∧ e.toInt < 8388608 := by
  have h1 := c_maskL x 8388607 23 (by decide) (by decide)
  rw [← h] at h1
  have e1 : ((2 ^ 23 : Nat) : Int) = 8388608 := by decide
  rw [e1] at h1
  omega
theorem own_f (e f : Int64) (he : 0 ≤ e.toInt ∧ e.toInt < 8388608) (h : f = own_fo e) : (e.toInt = 0 ∧ f.toInt = 1) ∨ (0 < e.toInt ∧ f.toInt = e.toInt * 1099511627776) := by
  have e0 : (0 : Int64).toInt = 0 := rfl
  have e1 : (1 : Int64).toInt = 1 := rfl
  unfold own_fo at h
  by_cases q : e = 0
  · rw [if_pos q] at h; subst h q; exact Or.inl ⟨rfl, rfl⟩
  · rw [if_neg q] at h
    have h1 := c_lshl e 40 40 (by decide)
    have r := rng64 (e <<< ((40 : Int32) &&& 0x3f).toInt64)
    rw [← h] at h1 r
    have e2 : ((2 ^ 40 : Nat) : Int) = 1099511627776 := by decide
    rw [e2] at h1
    rw [← Int64.toInt_inj] at q
    omega
theorem own_o (f : Int64) (h : 0 ≤ f.toInt) : (own_of f).toInt = f.toInt / 1099511627776 := by
  have h1 := c_lushr f 40 40 (by decide) (by decide)
  have e2 : ((2 ^ 40 : Nat) : Int) = 1099511627776 := by decide
  rw [e2] at h1
  have r := rng64 f
  show ((f.toUInt64 >>> ((40 : Int32) &&& 0x3f).toInt64.toUInt64).toInt64).toInt = _
  rw [h1, Int.emod_eq_of_lt h (by omega)]
theorem own_1 (e f : Int64) (he : 0 ≤ e.toInt ∧ e.toInt < 8388608) (h : f = own_fo e) : (0 : Int32) < lcmpW f 0 := by
  rw [lw_gt, Int64.lt_iff_toInt_lt]
  have e0 : (0 : Int64).toInt = 0 := rfl
  rcases own_f e f he h with q | q <;> omega
theorem own_2 (e f : Int64) (he : 0 ≤ e.toInt ∧ e.toInt < 8388608) (h : f = own_fo e) : lcmpW (own_of f) e = (0 : Int32) := by
  rw [lw_eq, ← Int64.toInt_inj]
  rcases own_f e f he h with q | q
  · rw [own_o f (by omega)]; omega
  · rw [own_o f (by omega)]; omega
theorem own_3 (e f : Int64) (h : f = own_fo e) (q : lcmpW e 0 = (0 : Int32)) : lcmpW f 1 = (0 : Int32) := by
  rw [lw_eq] at q ⊢; subst q; rw [h]; rfl
theorem own_4 (e f : Int64) (he : 0 ≤ e.toInt ∧ e.toInt < 8388608) (h : f = own_fo e) (q : ¬ lcmpW e 0 = (0 : Int32)) : lcmpW (f &&& 1099511627775) 0 = (0 : Int32) := by
  rw [lw_eq] at q ⊢
  rw [← Int64.toInt_inj] at q ⊢
  have e0 : (0 : Int64).toInt = 0 := rfl
  have h1 := c_maskL f 1099511627775 40 (by decide) (by decide)
  have e2 : ((2 ^ 40 : Nat) : Int) = 1099511627776 := by decide
  rw [e2] at h1
  rcases own_f e f he h with z | z <;> omega
theorem own_5 (e f : Int64) (he : 0 ≤ e.toInt ∧ e.toInt < 8388608) (h : f = own_fo e) (q : ¬ lcmpW e 0 = (0 : Int32)) : lcmpW (own_of (f - 1)) (e - 1) = (0 : Int32) := by
  rw [lw_eq] at q ⊢
  rw [← Int64.toInt_inj] at q ⊢
  have e0 : (0 : Int64).toInt = 0 := rfl
  have e1 : (1 : Int64).toInt = 1 := rfl
  have a1 := c_lsub f 1
  have b1 := rng64 (f - 1)
  have a2 := c_lsub e 1
  have b2 := rng64 (e - 1)
  have bf := rng64 f
  rcases own_f e f he h with z | z
  · omega
  · have ef : (f - 1).toInt = f.toInt - 1 := by omega
    have ee : (e - 1).toInt = e.toInt - 1 := by omega
    rw [own_o _ (by omega), ef, ee]; omega
theorem pn0 : plainName "com/example/altocommit/altocommit/protocol/Epochs" = true := by first | (simp [plainName, overriddenIn]; done) | decide +kernel
theorem d1_0 : decode prog_113_method_2_code 0 = .ok (.lload_n 0, 1) := by decide +kernel
theorem d1_1 : decode prog_113_method_2_code 1 = .ok (.lconst 0, 1) := by decide +kernel
theorem d1_2 : decode prog_113_method_2_code 2 = .ok (.lcmp, 1) := by decide +kernel
theorem d1_3 : decode prog_113_method_2_code 3 = .ok (.ifCond .ne 7, 3) := by decide +kernel
theorem d1_6 : decode prog_113_method_2_code 6 = .ok (.lconst 1, 1) := by decide +kernel
theorem d1_7 : decode prog_113_method_2_code 7 = .ok (.goto 7, 3) := by decide +kernel
theorem d1_10 : decode prog_113_method_2_code 10 = .ok (.lload_n 0, 1) := by decide +kernel
theorem d1_11 : decode prog_113_method_2_code 11 = .ok (.bipush 40, 2) := by decide +kernel
theorem d1_13 : decode prog_113_method_2_code 13 = .ok (.lshl, 1) := by decide +kernel
theorem d1_14 : decode prog_113_method_2_code 14 = .ok (.lreturn, 1) := by decide +kernel
theorem ef1 (m : MethodId) (x0 : Int64) : entryFrame m #[(.long x0)] 2 = mkF m 0 #[.val (.long x0), .second] [] := by first | (simp [entryFrame, mkF, argsToLocals, Value.category]; done) | rfl
def Q1 (Z : State) (x0 : Int64) (h0 : Heap) (n0 : Nat) (v : Option Value) (h : Heap) (L : List Loc) : Prop := v = some (.long (own_fo x0)) ∧ Fr n0 L ∧ h = h0
set_option maxRecDepth 65536 in
set_option maxHeartbeats 40000000 in
theorem rm1 (l : Launch) (Z : State) (a0 : Array Value) (hw : ∀ d ∈ tables_1, d.before a0 Z = true) (ws : List Jvm.Cond) (x0 : Int64) (h0 : Heap) (n0 : Nat) (Z0 : n0 ≤ h0.size) :
    MetFree l (⟨"com/example/altocommit/altocommit/protocol/Epochs", "firstOf", "(J)J"⟩ : MethodName) (head1 (Jvm.Cond.code (⟨"com/example/altocommit/altocommit/protocol/Epochs", "firstOf", "(J)J"⟩ : MethodName) prog_113_method_2_code 2 (some .long) :: ws) ({ frames := 0, cells := 0, slots := 0, locals := 0 } : Room)) (fun aa UU => aa = #[(.long x0)] ∧ Z.Warmed39 UU.vm ∧ UU.heap = h0) (fun _ _ _ _ _ => True) (fun _ UU oo UU' => ∃ vv LL, oo = .returned vv ∧ Q1 Z x0 h0 n0 vv UU'.heap LL ∧ FrameEnd UU oo UU' LL ({ frames := 0, cells := 0, slots := 0, locals := 0 } : Room).cells ({ frames := 0, cells := 0, slots := 0, locals := 0 } : Room).slots) := by
  have W : ∀ {d : Jvm.Cond} (i : Nat), tables_1[i]? = some d → d.before a0 Z = true := fun i h => hw _ (List.mem_of_getElem? h)
  refine MetFree.of_bodySF (plainFor_of_name pn0) hisR ?_
  intro p e s m args below meth c s₁ Bd hml0 hP hK
  obtain ⟨rfl, hZ, hh⟩ := hP
  have hx := Bd.exec
  have hby := Bd.bytes
  have hml : c.maxLocals = 2 := hml0
  have hown : s.vm.findClass "com/example/altocommit/altocommit/protocol/Epochs" = some m.cls := findClass_of_methodNamed Bd.named
  have hnm := (name_of_methodNamed Bd.named Bd.method).1
  have X0 : Stand p l e ({ frames := 0, cells := 0, slots := 0, locals := 0 } : Room) s m #[(.long x0)] below meth c s₁ [] 0 0 := Stand.of_body Bd
  have e0 : s₁.heap = h0 := by rw [← hh, Bd.state]; rfl
  have N0 := Fr.nil n0
  have pre0 : ∀ tt, Steps p.tables e below (s₁.setTop (mkF m 0 #[.val (.long x0), .second] [])) tt → Steps p.tables e below (s₁.setTop (entryFrame m #[(.long x0)] 2)) tt := fun tt kt => castTop (ef1 m x0) kt
  obtain ⟨ST, hST⟩ : ∃ z : State, z = s₁.setTop (mkF m 0 #[.val (.long x0), .second] []) := ⟨_, rfl⟩
  rw [← hST] at pre0
  have go101 : own_S p e below ST s₁ (mkF m 3 #[.val (.long x0), .second] [(.int (lcmpW x0 (0 : Int64)))]) := fun tt kt => (by
      rw [hST]
      show Steps p.tables e below (s₁.setTop (mkF m 0 #[.val (.long x0), .second] [])) _
      refine XS.lloadN X0.here hx rfl (hb hby d1_0) rfl ?_
      refine XS.lconst X0.here hx rfl (hb hby d1_1) ?_
      refine XS.lcmp X0.here hx rfl (hb hby d1_2) rfl ?_
      exact kt)
  obtain ⟨v, hv, sg102⟩ : ∃ (v : Int64), v = (if (lcmpW x0 (0 : Int64)) = (0 : Int32) then (1 : Int64) else (x0 <<< ((40 : Int32) &&& 0x3f).toInt64)) ∧ ∀ tt, Steps p.tables e below (s₁.setTop (mkF m 14 #[.val (.long x0), .second] [(.long v)])) tt → Steps p.tables e below (s₁.setTop (mkF m 3 #[.val (.long x0), .second] [(.int (lcmpW x0 (0 : Int64)))])) tt := by
    by_cases hd3_0 : (lcmpW x0 (0 : Int64)) = (0 : Int32)
    · refine ⟨_, (if_pos hd3_0).symm, fun tt kt => ?_⟩
      show Steps p.tables e below (s₁.setTop (mkF m 3 #[.val (.long x0), .second] [(.int (lcmpW x0 (0 : Int64)))])) _
      refine XS.ifNo X0.here hx rfl (hb hby d1_3) rfl ((if0 _ _).trans (teq hd3_0).2) ?_
      refine XS.lconst X0.here hx rfl (hb hby d1_6) ?_
      refine XS.goto X0.here hx rfl (pc0 := 7) (pc' := 14) rfl (hb hby d1_7) (by decide) (by decide) ?_
      exact kt
    · refine ⟨_, (if_neg hd3_0).symm, fun tt kt => ?_⟩
      show Steps p.tables e below (s₁.setTop (mkF m 3 #[.val (.long x0), .second] [(.int (lcmpW x0 (0 : Int64)))])) _
      refine XS.ifYes X0.here hx rfl (pc0 := 3) (pc' := 10) rfl (hb hby d1_3) rfl ((if0 _ _).trans (feq hd3_0).2) (by decide) (by decide) ?_
      refine XS.lloadN X0.here hx rfl (hb hby d1_10) rfl ?_
      refine XS.bipush X0.here hx rfl (hb hby d1_11) ?_
      refine XS.lshl X0.here hx rfl (hb hby d1_13) rfl ?_
      exact kt
  have go103 : own_S p e below ST s₁ (mkF m 14 #[.val (.long x0), .second] [(.long v)]) := fun tt kt => go101 tt (sg102 _ kt)
  obtain ⟨fs, hr, hrun, hended, hW, hsame⟩ := X0.leave (v := some (.long v)) (fun h => by rw [Bd.returns] at h; cases h)
  refine ⟨_, _, pre0 _ (go103 _ ?_), hrun, hended, _, _, rfl, ?_, ⟨_, rfl⟩, hW, hsame.mono (by decide) (by decide)⟩
  · exact retOut X0 hx Bd.returns rfl (Or.inr (Or.inl ⟨rfl, rfl, _, rfl⟩)) (hb hby d1_14) hr
  · show Q1 Z x0 h0 n0 _ s₁.heap _
    rw [e0]
    exact ⟨(by rw [hv]; simp only [lw_eq]; rfl), N0, rfl⟩
theorem d2_0 : decode prog_113_method_3_code 0 = .ok (.lload_n 0, 1) := by decide +kernel
theorem d2_1 : decode prog_113_method_3_code 1 = .ok (.bipush 40, 2) := by decide +kernel
theorem d2_3 : decode prog_113_method_3_code 3 = .ok (.lushr, 1) := by decide +kernel
theorem d2_4 : decode prog_113_method_3_code 4 = .ok (.lreturn, 1) := by decide +kernel
theorem ef2 (m : MethodId) (x0 : Int64) : entryFrame m #[(.long x0)] 2 = mkF m 0 #[.val (.long x0), .second] [] := by first | (simp [entryFrame, mkF, argsToLocals, Value.category]; done) | rfl
def Q2 (Z : State) (x0 : Int64) (h0 : Heap) (n0 : Nat) (v : Option Value) (h : Heap) (L : List Loc) : Prop := v = some (.long (own_of x0)) ∧ Fr n0 L ∧ h = h0
set_option maxRecDepth 65536 in
set_option maxHeartbeats 40000000 in
theorem rm2 (l : Launch) (Z : State) (a0 : Array Value) (hw : ∀ d ∈ tables_1, d.before a0 Z = true) (ws : List Jvm.Cond) (x0 : Int64) (h0 : Heap) (n0 : Nat) (Z0 : n0 ≤ h0.size) :
    MetFree l (⟨"com/example/altocommit/altocommit/protocol/Epochs", "of", "(J)J"⟩ : MethodName) (head1 (Jvm.Cond.code (⟨"com/example/altocommit/altocommit/protocol/Epochs", "of", "(J)J"⟩ : MethodName) prog_113_method_3_code 2 (some .long) :: ws) ({ frames := 0, cells := 0, slots := 0, locals := 0 } : Room)) (fun aa UU => aa = #[(.long x0)] ∧ Z.Warmed39 UU.vm ∧ UU.heap = h0) (fun _ _ _ _ _ => True) (fun _ UU oo UU' => ∃ vv LL, oo = .returned vv ∧ Q2 Z x0 h0 n0 vv UU'.heap LL ∧ FrameEnd UU oo UU' LL ({ frames := 0, cells := 0, slots := 0, locals := 0 } : Room).cells ({ frames := 0, cells := 0, slots := 0, locals := 0 } : Room).slots) := by
  have W : ∀ {d : Jvm.Cond} (i : Nat), tables_1[i]? = some d → d.before a0 Z = true := fun i h => hw _ (List.mem_of_getElem? h)
  refine MetFree.of_bodySF (plainFor_of_name pn0) hisR ?_
  intro p e s m args below meth c s₁ Bd hml0 hP hK
  obtain ⟨rfl, hZ, hh⟩ := hP
  have hx := Bd.exec
  have hby := Bd.bytes
  have hml : c.maxLocals = 2 := hml0
  have hown : s.vm.findClass "com/example/altocommit/altocommit/protocol/Epochs" = some m.cls := findClass_of_methodNamed Bd.named
  have hnm := (name_of_methodNamed Bd.named Bd.method).1
  have X0 : Stand p l e ({ frames := 0, cells := 0, slots := 0, locals := 0 } : Room) s m #[(.long x0)] below meth c s₁ [] 0 0 := Stand.of_body Bd
  have e0 : s₁.heap = h0 := by rw [← hh, Bd.state]; rfl
  have N0 := Fr.nil n0
  have pre0 : ∀ tt, Steps p.tables e below (s₁.setTop (mkF m 0 #[.val (.long x0), .second] [])) tt → Steps p.tables e below (s₁.setTop (entryFrame m #[(.long x0)] 2)) tt := fun tt kt => castTop (ef2 m x0) kt
  obtain ⟨ST, hST⟩ : ∃ z : State, z = s₁.setTop (mkF m 0 #[.val (.long x0), .second] []) := ⟨_, rfl⟩
  rw [← hST] at pre0
  have go104 : own_S p e below ST s₁ (mkF m 4 #[.val (.long x0), .second] [(.long ((x0.toUInt64 >>> ((40 : Int32) &&& 0x3f).toInt64.toUInt64).toInt64))]) := fun tt kt => (by
      rw [hST]
      show Steps p.tables e below (s₁.setTop (mkF m 0 #[.val (.long x0), .second] [])) _
      refine XS.lloadN X0.here hx rfl (hb hby d2_0) rfl ?_
      refine XS.bipush X0.here hx rfl (hb hby d2_1) ?_
      refine XS.lushr X0.here hx rfl (hb hby d2_3) rfl ?_
      exact kt)
  obtain ⟨fs, hr, hrun, hended, hW, hsame⟩ := X0.leave (v := some (.long ((x0.toUInt64 >>> ((40 : Int32) &&& 0x3f).toInt64.toUInt64).toInt64))) (fun h => by rw [Bd.returns] at h; cases h)
  refine ⟨_, _, pre0 _ (go104 _ ?_), hrun, hended, _, _, rfl, ?_, ⟨_, rfl⟩, hW, hsame.mono (by decide) (by decide)⟩
  · exact retOut X0 hx Bd.returns rfl (Or.inr (Or.inl ⟨rfl, rfl, _, rfl⟩)) (hb hby d2_4) hr
  · show Q2 Z x0 h0 n0 _ s₁.heap _
    rw [e0]
    exact ⟨rfl, N0, rfl⟩
theorem pn15 : plainName "com/example/altocommit/altocommit/protocol/EpochsFirstOfPinLaw" = true := by first | (simp [plainName, overriddenIn]; done) | decide +kernel
theorem pd16 : parseMethodDescriptor "(J)J" = some ⟨[.long], some .long⟩ := by decide +kernel
theorem ef0 (m : MethodId) (x0 : Int64) : entryFrame m #[(.long x0)] maxLocals = mkF m 0 #[.val (.long x0), .second, .unset, .unset, .unset, .unset] [] := by first | (simp [entryFrame, mkF, argsToLocals, Value.category, maxLocals]; done) | rfl
def Q0 (Z : State) (x0 : Int64) (h0 : Heap) (n0 : Nat) (v : Option Value) (h : Heap) (L : List Loc) : Prop := v = some (.int 1) ∧ Fr n0 L
set_option maxRecDepth 65536 in
set_option maxHeartbeats 40000000 in
theorem rm0 (l : Launch) (Z : State) (a0 : Array Value) (hw : ∀ d ∈ tables_1, d.before a0 Z = true) (ws : List Jvm.Cond) (x0 : Int64) (h0 : Heap) (n0 : Nat) (Z0 : n0 ≤ h0.size) :
    MetFree l x (head1 (Jvm.Cond.code x code maxLocals ret :: ws) room_1) (fun aa UU => aa = #[(.long x0)] ∧ Z.Warmed39 UU.vm ∧ UU.heap = h0) (fun _ _ _ _ _ => True) (fun _ UU oo UU' => ∃ vv LL, oo = .returned vv ∧ Q0 Z x0 h0 n0 vv UU'.heap LL ∧ FrameEnd UU oo UU' LL room_1.cells room_1.slots) := by
  have W : ∀ {d : Jvm.Cond} (i : Nat), tables_1[i]? = some d → d.before a0 Z = true := fun i h => hw _ (List.mem_of_getElem? h)
  refine MetFree.of_bodySF (plainFor_of_name pn15) hisR ?_
  intro p e s m args below meth c s₁ Bd hml0 hP hK
  obtain ⟨rfl, hZ, hh⟩ := hP
  have hx := Bd.exec
  have hby := Bd.bytes
  have hml : c.maxLocals = 6 := hml0
  have hown : s.vm.findClass "com/example/altocommit/altocommit/protocol/EpochsFirstOfPinLaw" = some m.cls := findClass_of_methodNamed Bd.named
  have hnm := (name_of_methodNamed Bd.named Bd.method).1
  have X0 : Stand p l e room_1 s m #[(.long x0)] below meth c s₁ [] 0 0 := Stand.of_body Bd
  have e0 : s₁.heap = h0 := by rw [← hh, Bd.state]; rfl
  have N0 := Fr.nil n0
  have pre0 : ∀ tt, Steps p.tables e below (s₁.setTop (mkF m 0 #[.val (.long x0), .second, .unset, .unset, .unset, .unset] [])) tt → Steps p.tables e below (s₁.setTop (entryFrame m #[(.long x0)] maxLocals)) tt := fun tt kt => castTop (ef0 m x0) kt
  obtain ⟨ST, hST⟩ : ∃ z : State, z = s₁.setTop (mkF m 0 #[.val (.long x0), .second, .unset, .unset, .unset, .unset] []) := ⟨_, rfl⟩
  rw [← hST] at pre0
  have go105 : own_S p e below ST s₁ (mkF m 6 #[.val (.long x0), .second, .val (.long (x0 &&& (8388607 : Int64))), .second, .unset, .unset] []) := fun tt kt => (by
      rw [hST]
      show Steps p.tables e below (s₁.setTop (mkF m 0 #[.val (.long x0), .second, .unset, .unset, .unset, .unset] [])) _
      refine XS.lloadN X0.here hx rfl (hb hby at_0) rfl ?_
      refine X0.ldc2Long hx hown (mvT hZ (W 0 rfl)) (g := (mkF m 1 #[.val (.long x0), .second, .unset, .unset, .unset, .unset] [(.long x0)])) rfl (hb hby at_1) _ ?_
      refine XS.land X0.here hx rfl (hb hby at_4) rfl ?_
      refine XS.lstoreN X0.here hx rfl (hb hby at_5) rfl (l' := #[.val (.long x0), .second, .val (.long (x0 &&& (8388607 : Int64))), .second, .unset, .unset]) rfl ?_
      exact kt)
  obtain ⟨ep, hep⟩ : ∃ z : Int64, z = (x0 &&& (8388607 : Int64)) := ⟨_, rfl⟩
  rw [← hep] at go105
  have he := own_e x0 ep hep
  have go106 : own_S p e below ST s₁ (mkF m 7 #[.val (.long x0), .second, .val (.long ep), .second, .unset, .unset] [(.long ep)]) := fun tt kt => go105 tt (by
      refine XS.lloadN X0.here hx rfl (hb hby at_6) rfl ?_
      exact kt)
  obtain ⟨_, _, ⟨T107, L107, k107, n107⟩, -, X107, ⟨Lc107, hQ107, l107, y107, z107⟩, st107⟩ := Jvm.LawKit.callS X0 hx (y := (⟨"com/example/altocommit/altocommit/protocol/Epochs", "firstOf", "(J)J"⟩ : MethodName)) hown (mvT hZ (W 1 rfl)) (mvT hZ (W 2 rfl)) (mvT hZ (W 3 rfl)) (mvT hZ (W 4 rfl)) (by decide) (backOf (W := 0) (rm1 l Z a0 hw [] ep h0 n0 Z0 ) hZ (W 4 rfl) (W 3 rfl) (by decide) (by decide)) (g := (mkF m 7 #[.val (.long x0), .second, .val (.long ep), .second, .unset, .unset] [(.long ep)])) rfl (by rw [hml]; rfl) (argsL := [(.long ep)]) (rest := []) (lenOf pd16 rfl) rfl (by show 2 * 0 + _ ≤ _; exact Nat.le_of_eq rfl) (hb hby at_7) (fun _ _ => ⟨rfl, e0, (by decide : 0 + 0 ≤ _), (by decide : 0 + 0 ≤ _)⟩)
  dsimp only [Pt.U, Pt.locs, Pt.cells, Pt.slots] at X107 l107 y107 z107 st107 hQ107
  subst l107 y107 z107
  obtain ⟨rfl, Nq107, eh107⟩ := hQ107
  have N107 := Fr.app N0 Nq107
  have go108 : own_S p e below ST T107 (mkF m 10 #[.val (.long x0), .second, .val (.long ep), .second, .unset, .unset] [(.long (own_fo ep))]) := fun tt kt => go106 tt (st107 _ kt)
  have go109 : own_S p e below ST T107 (mkF m 12 #[.val (.long x0), .second, .val (.long ep), .second, .val (.long (own_fo ep)), .second] []) := fun tt kt => go108 tt (by
      refine XS.lstore X107.here hx rfl (hb hby at_10) rfl (l' := #[.val (.long x0), .second, .val (.long ep), .second, .val (.long (own_fo ep)), .second]) rfl ?_
      exact kt)
  obtain ⟨fo, hfo⟩ : ∃ z : Int64, z = (own_fo ep) := ⟨_, rfl⟩
  rw [← hfo] at go109
  have h1 := own_1 ep fo he hfo
  have h2 := own_2 ep fo he hfo
  have go110 : own_S p e below ST T107 (mkF m 16 #[.val (.long x0), .second, .val (.long ep), .second, .val (.long fo), .second] [(.int (lcmpW fo (0 : Int64)))]) := fun tt kt => go109 tt (by
      refine XS.lload X107.here hx rfl (hb hby at_12) rfl ?_
      refine XS.lconst X107.here hx rfl (hb hby at_14) ?_
      refine XS.lcmp X107.here hx rfl (hb hby at_15) rfl ?_
      exact kt)
  have go111 : own_S p e below ST T107 (mkF m 23 #[.val (.long x0), .second, .val (.long ep), .second, .val (.long fo), .second] [(.long fo)]) := fun tt kt => go110 tt (by
      refine XS.ifYes X107.here hx rfl (pc0 := 16) (pc' := 21) rfl (hb hby at_16) rfl ((if0 _ _).trans (tlt h1).2.2.1) (by decide) (by decide) ?_
      refine XS.lload X107.here hx rfl (hb hby at_21) rfl ?_
      exact kt)
  obtain ⟨_, _, ⟨T112, L112, k112, n112⟩, -, X112, ⟨Lc112, hQ112, l112, y112, z112⟩, st112⟩ := Jvm.LawKit.callS X107 hx (y := (⟨"com/example/altocommit/altocommit/protocol/Epochs", "of", "(J)J"⟩ : MethodName)) hown (mvT hZ (W 5 rfl)) (mvT hZ (W 6 rfl)) (mvT hZ (W 3 rfl)) (mvT hZ (W 7 rfl)) (by decide) (backOf (W := 0) (rm2 l Z a0 hw [] fo h0 n0 Z0 ) hZ (W 7 rfl) (W 3 rfl) (by decide) (by decide)) (g := (mkF m 23 #[.val (.long x0), .second, .val (.long ep), .second, .val (.long fo), .second] [(.long fo)])) rfl (by rw [hml]; rfl) (argsL := [(.long fo)]) (rest := []) (lenOf pd16 rfl) rfl (by show 2 * 0 + _ ≤ _; exact Nat.le_of_eq rfl) (hb hby at_23) (fun _ _ => ⟨rfl, eh107, (by decide : 0 + 0 ≤ _), (by decide : 0 + 0 ≤ _)⟩)
  dsimp only [Pt.U, Pt.locs, Pt.cells, Pt.slots] at X112 l112 y112 z112 st112 hQ112
  subst l112 y112 z112
  obtain ⟨rfl, Nq112, eh112⟩ := hQ112
  have N112 := Fr.app N107 Nq112
  have go113 : own_S p e below ST T112 (mkF m 26 #[.val (.long x0), .second, .val (.long ep), .second, .val (.long fo), .second] [(.long (own_of fo))]) := fun tt kt => go111 tt (st112 _ kt)
  have go114 : own_S p e below ST T112 (mkF m 28 #[.val (.long x0), .second, .val (.long ep), .second, .val (.long fo), .second] [(.int (lcmpW (own_of fo) ep))]) := fun tt kt => go113 tt (by
      refine XS.lloadN X112.here hx rfl (hb hby at_26) rfl ?_
      refine XS.lcmp X112.here hx rfl (hb hby at_27) rfl ?_
      exact kt)
  have go115 : own_S p e below ST T112 (mkF m 36 #[.val (.long x0), .second, .val (.long ep), .second, .val (.long fo), .second] [(.int (lcmpW ep (0 : Int64)))]) := fun tt kt => go114 tt (by
      refine XS.ifYes X112.here hx rfl (pc0 := 28) (pc' := 33) rfl (hb hby at_28) rfl ((if0 _ _).trans (teq h2).1) (by decide) (by decide) ?_
      refine XS.lloadN X112.here hx rfl (hb hby at_33) rfl ?_
      refine XS.lconst X112.here hx rfl (hb hby at_34) ?_
      refine XS.lcmp X112.here hx rfl (hb hby at_35) rfl ?_
      exact kt)
  by_cases hc : (lcmpW ep (0 : Int64)) = (0 : Int32)
  · have go116 : own_S p e below ST T112 (mkF m 39 #[.val (.long x0), .second, .val (.long ep), .second, .val (.long fo), .second] []) := fun tt kt => go115 tt (by
        refine XS.ifNo X112.here hx rfl (hb hby at_36) rfl ((if0 _ _).trans (teq hc).2) ?_
        exact kt)
    have h3 := own_3 ep fo hfo hc
    have go117 : own_S p e below ST T112 (mkF m 43 #[.val (.long x0), .second, .val (.long ep), .second, .val (.long fo), .second] [(.int (lcmpW fo (1 : Int64)))]) := fun tt kt => go116 tt (by
        refine XS.lload X112.here hx rfl (hb hby at_39) rfl ?_
        refine XS.lconst X112.here hx rfl (hb hby at_41) ?_
        refine XS.lcmp X112.here hx rfl (hb hby at_42) rfl ?_
        exact kt)
    have go118 : own_S p e below ST T112 (mkF m 51 #[.val (.long x0), .second, .val (.long ep), .second, .val (.long fo), .second] [(.int (1 : Int32))]) := fun tt kt => go117 tt (by
        refine XS.ifNo X112.here hx rfl (hb hby at_43) rfl ((if0 _ _).trans (teq h3).2) ?_
        refine XS.iconst X112.here hx rfl (hb hby at_46) ?_
        refine XS.goto X112.here hx rfl (pc0 := 47) (pc' := 51) rfl (hb hby at_47) (by decide) (by decide) ?_
        exact kt)
    obtain ⟨fs, hr, hrun, hended, hW, hsame⟩ := X112.leave (v := some (.int (1 : Int32))) (fun h => by rw [Bd.returns] at h; cases h)
    refine ⟨_, _, pre0 _ (go118 _ ?_), hrun, hended, _, _, rfl, ?_, ⟨_, rfl⟩, hW, hsame.mono (by decide) (by decide)⟩
    · exact retN X112 hx (t := .boolean) Bd.returns (by simp) (hb hby at_51) hr
    · show Q0 Z x0 h0 n0 _ T112.heap _
      rw [eh112]
      exact ⟨rfl, N112⟩
  · have go119 : own_S p e below ST T112 (mkF m 52 #[.val (.long x0), .second, .val (.long ep), .second, .val (.long fo), .second] []) := fun tt kt => go115 tt (by
        refine XS.ifYes X112.here hx rfl (pc0 := 36) (pc' := 52) rfl (hb hby at_36) rfl ((if0 _ _).trans (feq hc).2) (by decide) (by decide) ?_
        exact kt)
    have h4 := own_4 ep fo he hfo hc
    have h5 := own_5 ep fo he hfo hc
    have go120 : own_S p e below ST T112 (mkF m 60 #[.val (.long x0), .second, .val (.long ep), .second, .val (.long fo), .second] [(.int (lcmpW (fo &&& (1099511627775 : Int64)) (0 : Int64)))]) := fun tt kt => go119 tt (by
        refine XS.lload X112.here hx rfl (hb hby at_52) rfl ?_
        refine X112.ldc2Long hx hown (mvT hZ (W 8 rfl)) (g := (mkF m 54 #[.val (.long x0), .second, .val (.long ep), .second, .val (.long fo), .second] [(.long fo)])) rfl (hb hby at_54) _ ?_
        refine XS.land X112.here hx rfl (hb hby at_57) rfl ?_
        refine XS.lconst X112.here hx rfl (hb hby at_58) ?_
        refine XS.lcmp X112.here hx rfl (hb hby at_59) rfl ?_
        exact kt)
    have go121 : own_S p e below ST T112 (mkF m 69 #[.val (.long x0), .second, .val (.long ep), .second, .val (.long fo), .second] [(.long (fo - (1 : Int64)))]) := fun tt kt => go120 tt (by
        refine XS.ifYes X112.here hx rfl (pc0 := 60) (pc' := 65) rfl (hb hby at_60) rfl ((if0 _ _).trans (teq h4).1) (by decide) (by decide) ?_
        refine XS.lload X112.here hx rfl (hb hby at_65) rfl ?_
        refine XS.lconst X112.here hx rfl (hb hby at_67) ?_
        refine XS.lsub X112.here hx rfl (hb hby at_68) rfl ?_
        exact kt)
    obtain ⟨_, _, ⟨T122, L122, k122, n122⟩, -, X122, ⟨Lc122, hQ122, l122, y122, z122⟩, st122⟩ := Jvm.LawKit.callS X112 hx (y := (⟨"com/example/altocommit/altocommit/protocol/Epochs", "of", "(J)J"⟩ : MethodName)) hown (mvT hZ (W 5 rfl)) (mvT hZ (W 6 rfl)) (mvT hZ (W 3 rfl)) (mvT hZ (W 7 rfl)) (by decide) (backOf (W := 0) (rm2 l Z a0 hw [] (fo - (1 : Int64)) h0 n0 Z0 ) hZ (W 7 rfl) (W 3 rfl) (by decide) (by decide)) (g := (mkF m 69 #[.val (.long x0), .second, .val (.long ep), .second, .val (.long fo), .second] [(.long (fo - (1 : Int64)))])) rfl (by rw [hml]; rfl) (argsL := [(.long (fo - (1 : Int64)))]) (rest := []) (lenOf pd16 rfl) rfl (by show 2 * 0 + _ ≤ _; exact Nat.le_of_eq rfl) (hb hby at_69) (fun _ _ => ⟨rfl, eh112, (by decide : 0 + 0 ≤ _), (by decide : 0 + 0 ≤ _)⟩)
    dsimp only [Pt.U, Pt.locs, Pt.cells, Pt.slots] at X122 l122 y122 z122 st122 hQ122
    subst l122 y122 z122
    obtain ⟨rfl, Nq122, eh122⟩ := hQ122
    have N122 := Fr.app N112 Nq122
    have go123 : own_S p e below ST T122 (mkF m 72 #[.val (.long x0), .second, .val (.long ep), .second, .val (.long fo), .second] [(.long (own_of (fo - (1 : Int64))))]) := fun tt kt => go121 tt (st122 _ kt)
    have go124 : own_S p e below ST T122 (mkF m 76 #[.val (.long x0), .second, .val (.long ep), .second, .val (.long fo), .second] [(.int (lcmpW (own_of (fo - (1 : Int64))) (ep - (1 : Int64))))]) := fun tt kt => go123 tt (by
        refine XS.lloadN X122.here hx rfl (hb hby at_72) rfl ?_
        refine XS.lconst X122.here hx rfl (hb hby at_73) ?_
        refine XS.lsub X122.here hx rfl (hb hby at_74) rfl ?_
        refine XS.lcmp X122.here hx rfl (hb hby at_75) rfl ?_
        exact kt)
    have go125 : own_S p e below ST T122 (mkF m 84 #[.val (.long x0), .second, .val (.long ep), .second, .val (.long fo), .second] [(.int (1 : Int32))]) := fun tt kt => go124 tt (by
        refine XS.ifNo X122.here hx rfl (hb hby at_76) rfl ((if0 _ _).trans (teq h5).2) ?_
        refine XS.iconst X122.here hx rfl (hb hby at_79) ?_
        refine XS.goto X122.here hx rfl (pc0 := 80) (pc' := 84) rfl (hb hby at_80) (by decide) (by decide) ?_
        exact kt)
    obtain ⟨fs, hr, hrun, hended, hW, hsame⟩ := X122.leave (v := some (.int (1 : Int32))) (fun h => by rw [Bd.returns] at h; cases h)
    refine ⟨_, _, pre0 _ (go125 _ ?_), hrun, hended, _, _, rfl, ?_, ⟨_, rfl⟩, hW, hsame.mono (by decide) (by decide)⟩
    · exact retN X122 hx (t := .boolean) Bd.returns (by simp) (hb hby at_84) hr
    · show Q0 Z x0 h0 n0 _ T122.heap _
      rw [eh122]
      exact ⟨rfl, N122⟩
set_option maxRecDepth 65536 in
set_option maxHeartbeats 40000000 in
theorem comes_1 {Post : Tables → Env → Array Value → State → Outcome → State → Prop} (hpost : ∀ tb e args s v u, (limb_1_1.after args s (.returned v) u = true ∧ limb_1_2.after args s (.returned v) u = true ∧ True) → FrameEnd s (.returned v) u (Jvm.fieldLocs frame_1_writes args s ++ Jvm.arrayLocs frame_1_arrays args s ++ Jvm.staticLocs frame_1_statics s) 0 0 → Post tb e args s (.returned v) u) :
    ArmFor flags0 classFile x code maxLocals ret World_1 tables_1 room_1 Calls_1 rest_1 Pre_1 Post := by
  intro l hfl _ _ p e ha hc hk s m args below hf hA hF happ hP
  obtain ⟨hcalls, hrest, hpre⟩ := hP
  obtain ⟨-, -, -, hnamed, -, -, -, hat⟩ := (Spec.applies_iff hf).mp happ
  obtain ⟨hg, hn⟩ := and_e (Cond.before_iff.mp (show (Jvm.Cond.and given_1 narrow_1).before args s = true from hpre))
  obtain ⟨gg1, gg2⟩ := and_e hg
  obtain ⟨w0, rfl⟩ : ∃ w0 : Value, args = #[w0] := by
    have hs : args.size = 1 := by simpa [Cond.value, given_1] using gg1
    obtain ⟨L⟩ := args
    match L, hs with
    | [w0], _ => exact ⟨w0, rfl⟩
  have hw := fun d (hd : d ∈ tables_1) => atoms_spec (ws := Jvm.Cond.code x code maxLocals ret :: tables_1) hat d (List.mem_cons_of_mem _ hd)
  have W : ∀ {d : Jvm.Cond} (i : Nat), tables_1[i]? = some d → d.before _ s = true := fun i h => hw _ (List.mem_of_getElem? h)
  have hfit : Fit s := fun {y c} hc i hi => by
    obtain ⟨ha, rfl⟩ := Array.getElem?_eq_some_iff.mp hc
    have q := List.all_eq_true.mp ((Array.all_eq_true_iff_forall_mem.mp hF) _ (Array.getElem_mem ha)) i (List.mem_range.mpr hi)
    simpa [Array.getElem?_eq_getElem hi] using q
  obtain ⟨i0, ei0⟩ := isL_v gg2
  obtain rfl : w0 = (.long i0) := Option.some.inj ei0
  obtain ⟨n, o, h1, h2, h3, _, L, rfl, ⟨rfl, N⟩, hq⟩ := rm0 l s _ hw tables_1 i0 s.heap s.heap.size (Nat.le_refl _)  p e ha hc hk s m _ below hf ((Spec.applies_iff_loose hf).mp happ).1 ⟨rfl, State.Warmed39.refl s, rfl⟩ trivial
  refine ⟨n, _, h1, h2, h3, hpost _ _ _ _ _ _ ⟨Cond.after_iff.mpr rfl, Cond.after_iff.mpr (eq_i res_at (Term.int_eval (1)) rfl), trivial⟩ ⟨hq.1, hq.2.1, (hq.2.2.sift fun y hy => Or.inr (N y hy)).mono (by decide) (by decide)⟩⟩
theorem main_1_1 : Claimed_1_1 := comes_1 fun _ _ _ _ _ _ h hF => ⟨h.1, hF⟩
theorem main_1_2 : Claimed_1_2 := comes_1 fun _ _ _ _ _ _ h hF => ⟨h.2.1, hF⟩
end Jvm.Pilot.@@N@@
namespace Jvm.Pilot.@@N@@
open Jvm Jvm.ClassFile Sem Op Lib Jvm.Free Jvm.Stand Jvm.Pilot.@@N@@.Jvm.D
/-! MADE BY PROGRAM (witnessworld.py) out of the Statement's table words and the real class files: 9 classes; the members and pool entries that the words name. The judged class is class 1, her method 1. -/
namespace start1
open Jvm.ClassFile
def u (s : String) : CpInfo := .utf8 (stringToUtf16 s)
/-- a pool by its gaps: so many unusable entries, then the entry; so many at the end -/
def gap : Nat → List CpInfo → List CpInfo
  | 0, r => r
  | n + 1, r => .unusable :: gap n r
def poolList (es : List (Nat × CpInfo)) (last : Nat) : List CpInfo := es.foldr (fun e r => gap e.1 (e.2 :: r)) (gap last [])
def pool (es : List (Nat × CpInfo)) (last : Nat) : Array CpInfo := ⟨poolList es last⟩
def fileOf (pool : Array CpInfo) (this : Nat) (attrs : Array Attribute := #[]) (ms : Array MethodInfo := #[]) (fl : Nat := 33) (sup : Nat := 0) (ifs : Array Nat := #[]) (fds : Array FieldInfo := #[]) : ClassFile where
  minorVersion := 0
  majorVersion := 65
  constantPool := pool
  accessFlags := fl
  thisClass := this
  superClass := sup
  interfaces := ifs
  fields := fds
  methods := ms
  attributes := attrs
def plain (name : String) (sup : Option ClassId) : Class where
  name := name
  kind := .ordinary
  loader := none
  accessFlags := 33
  super := sup
  interfaces := #[]
  cf := none
  fields := #[]
  methods := #[]
  instanceTypes := #[]
  staticTypes := #[]
  resolved := #[]
  callSites := []
  init := .initialized
  statics := none
  mirror := none

def pool0 : Array CpInfo := pool [(5, u "<init>"), (0, u "()V"), (1, .class_ 10), (1, u "java/lang/Object")] 113

def k0m0 : Method := { name := "<init>", desc := "()V", sig := { parameters := [], returnType := none }, accessFlags := 1, code := none }
/-- java/lang/Object -/
def k0 : Class := { plain "java/lang/Object" none with
  accessFlags := 33
  interfaces := #[]
  cf := some (fileOf pool0 8 #[] #[{ accessFlags := 1, nameIndex := 5, descriptorIndex := 6, attributes := #[] }] 33 0 #[] #[])
  fields := #[]
  methods := #[k0m0]
  instanceTypes := #[]
  staticTypes := #[]
  resolved := Array.replicate 124 none
  statics := none }

def pool1 : Array CpInfo := pool [(2, .class_ 4), (1, u "java/lang/Object"), (0, u "<init>"), (0, u "()V"), (0, .class_ 8), (0, u "com/example/altocommit/altocommit/protocol/Epochs"), (0, .long 8388607), (1, .methodref 7 12), (0, .nameAndType 13 14), (0, u "firstOf"), (0, u "(J)J"), (0, .methodref 7 16), (0, .nameAndType 17 14), (0, u "of"), (0, .long 1099511627775), (1, .class_ 21), (0, u "com/example/altocommit/altocommit/protocol/EpochsFirstOfPinLaw"), (2, u "law"), (0, u "(J)Z")] 3

def k1m0 : Method := { name := "<init>", desc := "()V", sig := { parameters := [], returnType := none }, accessFlags := 2, code := none }
def k1c1 : Code := { maxStack := 6, maxLocals := 6, code := code, exceptionTable := #[], attributes := #[] }
def k1m1 : Method := { name := "law", desc := "(J)Z", sig := { parameters := [.long], returnType := some .boolean }, accessFlags := 9, code := some k1c1 }
/-- com/example/altocommit/altocommit/protocol/EpochsFirstOfPinLaw -/
def k1 : Class := { plain "com/example/altocommit/altocommit/protocol/EpochsFirstOfPinLaw" (some 0) with
  accessFlags := 49
  interfaces := #[]
  cf := some (fileOf pool1 20 #[] #[{ accessFlags := 2, nameIndex := 5, descriptorIndex := 6, attributes := #[] }, { accessFlags := 9, nameIndex := 24, descriptorIndex := 25, attributes := #[] }] 49 2 #[] #[])
  fields := #[]
  methods := #[k1m0, k1m1]
  instanceTypes := #[]
  staticTypes := #[]
  resolved := Array.replicate 29 none
  statics := none }

def pool2 : Array CpInfo := pool [(3, .class_ 4), (0, u "com/example/altocommit/altocommit/protocol/Epochs"), (1, .class_ 8), (1, u "java/lang/Object"), (0, u "<init>"), (0, u "()V"), (0, u "BITS"), (0, u "I"), (2, u "COUNT"), (0, u "J"), (4, u "firstOf"), (0, u "(J)J"), (1, u "of")] 2

def k2m0 : Method := { name := "<init>", desc := "()V", sig := { parameters := [], returnType := none }, accessFlags := 2, code := none }
def k2c1 : Code := { maxStack := 4, maxLocals := 2, code := prog_113_method_2_code, exceptionTable := #[], attributes := #[] }
def k2m1 : Method := { name := "firstOf", desc := "(J)J", sig := { parameters := [.long], returnType := some .long }, accessFlags := 9, code := some k2c1 }
def k2c2 : Code := { maxStack := 3, maxLocals := 2, code := prog_113_method_3_code, exceptionTable := #[], attributes := #[] }
def k2m2 : Method := { name := "of", desc := "(J)J", sig := { parameters := [.long], returnType := some .long }, accessFlags := 9, code := some k2c2 }
/-- com/example/altocommit/altocommit/protocol/Epochs -/
def k2 : Class := { plain "com/example/altocommit/altocommit/protocol/Epochs" (some 0) with
  accessFlags := 49
  interfaces := #[]
  cf := some (fileOf pool2 3 #[] #[{ accessFlags := 2, nameIndex := 9, descriptorIndex := 10, attributes := #[] }, { accessFlags := 9, nameIndex := 21, descriptorIndex := 22, attributes := #[] }, { accessFlags := 9, nameIndex := 24, descriptorIndex := 22, attributes := #[] }] 49 6 #[] #[{ accessFlags := 25, nameIndex := 11, descriptorIndex := 12, attributes := #[] }, { accessFlags := 25, nameIndex := 15, descriptorIndex := 16, attributes := #[] }])
  fields := #[{ name := "BITS", type := .int, accessFlags := 25, slot := 0, constantValue := 0 }, { name := "COUNT", type := .long, accessFlags := 25, slot := 1, constantValue := 0 }]
  methods := #[k2m0, k2m1, k2m2]
  instanceTypes := #[]
  staticTypes := #[.int, .long]
  resolved := Array.replicate 27 none
  statics := none }

def pool3 : Array CpInfo := pool [(1, u "java/lang/Cloneable"), (0, .class_ 1), (0, u "java/lang/Object"), (0, .class_ 3)] 3

/-- java/lang/Cloneable -/
def k3 : Class := { plain "java/lang/Cloneable" (some 0) with
  accessFlags := 1537
  interfaces := #[]
  cf := some (fileOf pool3 2 #[] #[] 1537 4 #[] #[])
  fields := #[]
  methods := #[]
  instanceTypes := #[]
  staticTypes := #[]
  resolved := Array.replicate 8 none
  statics := none }

def pool4 : Array CpInfo := pool [(1, u "java/io/Serializable"), (0, .class_ 1), (0, u "java/lang/Object"), (0, .class_ 3)] 3

/-- java/io/Serializable -/
def k4 : Class := { plain "java/io/Serializable" (some 0) with
  accessFlags := 1537
  interfaces := #[]
  cf := some (fileOf pool4 2 #[] #[] 1537 4 #[] #[])
  fields := #[]
  methods := #[]
  instanceTypes := #[]
  staticTypes := #[]
  resolved := Array.replicate 8 none
  statics := none }

/-- the primitive byte -/
def k5 : Class := { plain "byte" none with kind := .primitive 'B', accessFlags := 0x411 }
/-- [B -/
def k6 : Class := { plain "[B" (some 0) with kind := .array 5 .byte, interfaces := #[3, 4], accessFlags := 1041 }

/-- the primitive int -/
def k7 : Class := { plain "int" none with kind := .primitive 'I', accessFlags := 0x411 }
/-- [I -/
def k8 : Class := { plain "[I" (some 0) with kind := .array 7 .int, interfaces := #[3, 4], accessFlags := 1041 }

def heap : Heap := #[]
def classes : Array Class := #[k0, k1, k2, k3, k4, k5, k6, k7, k8]
def interned : List (Array UInt16 × Addr) := []
def slotsUsed : Nat := 0
def theMethod : MethodId := ⟨1, 1⟩
def args0 : Array Value := #[.long 5]
def aboutOver (below : List Frame) : State where
  vm := { classes := classes, interned := interned.toArray }
  heap := heap
  slotsUsed := slotsUsed
  threads := #[{ frames := .invoking theMethod args0 :: below }]
def below0 : List Frame := [.native { method := ⟨0, 0⟩, args := #[] }]
def about1 : State := aboutOver below0
def p0 : Program := .bare "" "" ""
def e0 : Env := launch0.env 0 0 0
theorem w_frames : about1.frames = Frame.invoking theMethod args0 :: below0 := rfl
set_option maxRecDepth 65536 in
theorem w_args : argsFit about1.vm theMethod args0 = true := by decide +kernel
set_option maxRecDepth 65536 in
theorem w_heap : heapFits about1 = true := by decide +kernel
set_option maxRecDepth 65536 in
theorem w_runnable : about1.curStatus? = some .runnable := by decide +kernel
set_option maxRecDepth 65536 in
theorem w_alone : about1.alone = true := by decide +kernel
set_option maxRecDepth 65536 in
theorem w_named : about1.methodNamed? x = some theMethod := by decide +kernel
set_option maxRecDepth 65536 in
theorem w_hears : about1.hears theMethod below0 = true := by decide +kernel
set_option maxRecDepth 65536 in
theorem w_ripe : about1.ripe theMethod args0 below0 = true := by decide +kernel
theorem w_running : about1.status = .running := rfl
set_option maxRecDepth 65536 in
theorem w_room : about1.hasRoom e0.platform room_1 = true :=
  launch0.hasRoom_least _ room_1 (by decide +kernel) (by decide +kernel) (by decide +kernel) (by decide +kernel) (by decide +kernel) (by decide +kernel)
theorem allAtoms_all (ts : List Jvm.Cond) (a : Array Jvm.Value) (st : Jvm.State) : (allAtoms ts).before a st = ts.all (fun c => c.before a st) := by
  induction ts with
  | nil => rfl
  | cons c t ih =>
    show (Jvm.Cond.and c (allAtoms t)).before a st = _
    rw [Jvm.Cond.before_and, ih, List.all_cons]
def words1 : List Jvm.Cond := Jvm.Cond.code x code maxLocals ret :: tables_1
/-- a 'code' word, met by the world's own term for the bytes: nothing is compared byte by byte -/
theorem code_word {y : MethodName} {bytes : ByteArray} {mx : Nat} {rt : Option FieldType} {a : Array Value} {s : State} {m : MethodId} {meth : Method} {c : Code} (h1 : s.methodNamed? y = some m) (h2 : s.vm.method? m = some meth) (h3 : meth.code = some c) (h4 : c.code = bytes)
    (h5 : (c.maxLocals == mx && c.exceptionTable.isEmpty && decide (c.maxStack ≤ mostOperands) && decide (meth.sig.returnType = rt) && !meth.locks && decide (parseMethodDescriptor y.desc = some meth.sig)) = true) : (Jvm.Cond.code y bytes mx rt).before a s = true := by
  simp only [Bool.and_eq_true, beq_iff_eq, Bool.not_eq_true', decide_eq_true_eq] at h5
  obtain ⟨⟨⟨⟨⟨g1, g2⟩, g3⟩, g4⟩, g5⟩, g6⟩ := h5
  simp [Cond.before, Cond.holds, Cond.value, h1, h2, h3, h4, g1, g2, g3, g4, g5, g6]
def isCode : Jvm.Cond → Bool
  | .code _ _ _ _ => true
  | _ => false
theorem all_split {L : List Jvm.Cond} {P : Jvm.Cond → Bool} (h1 : L.all (fun c => isCode c || P c) = true) (h2 : ∀ c ∈ L.filter isCode, P c = true) : L.all P = true := by
  refine List.all_eq_true.mpr fun c hc => ?_
  have h := List.all_eq_true.mp h1 c hc
  rcases Bool.eq_false_or_eq_true (isCode c) with hi | hi
  · exact h2 c (List.mem_filter.mpr ⟨hc, hi⟩)
  · simpa [hi] using h
set_option maxRecDepth 65536 in
theorem w_c0 : (Jvm.Cond.code x code maxLocals ret).before args0 about1 = true := code_word (m := ⟨1, 1⟩) (meth := k1m1) (c := k1c1) (by decide +kernel) rfl rfl rfl (by decide +kernel)
set_option maxRecDepth 65536 in
theorem w_c1 : (Jvm.Cond.code ({ cls := "com/example/altocommit/altocommit/protocol/Epochs", name := "firstOf", desc := "(J)J" } : Jvm.MethodName) prog_113_method_2_code (2 : Nat) (Option.some Jvm.ClassFile.FieldType.long)).before args0 about1 = true := code_word (m := ⟨2, 1⟩) (meth := k2m1) (c := k2c1) (by decide +kernel) rfl rfl rfl (by decide +kernel)
set_option maxRecDepth 65536 in
theorem w_c2 : (Jvm.Cond.code ({ cls := "com/example/altocommit/altocommit/protocol/Epochs", name := "of", desc := "(J)J" } : Jvm.MethodName) prog_113_method_3_code (2 : Nat) (Option.some Jvm.ClassFile.FieldType.long)).before args0 about1 = true := code_word (m := ⟨2, 2⟩) (meth := k2m2) (c := k2c2) (by decide +kernel) rfl rfl rfl (by decide +kernel)
def codes1 : List Jvm.Cond := [Jvm.Cond.code x code maxLocals ret, Jvm.Cond.code ({ cls := "com/example/altocommit/altocommit/protocol/Epochs", name := "firstOf", desc := "(J)J" } : Jvm.MethodName) prog_113_method_2_code (2 : Nat) (Option.some Jvm.ClassFile.FieldType.long), Jvm.Cond.code ({ cls := "com/example/altocommit/altocommit/protocol/Epochs", name := "of", desc := "(J)J" } : Jvm.MethodName) prog_113_method_3_code (2 : Nat) (Option.some Jvm.ClassFile.FieldType.long)]
set_option maxRecDepth 65536 in
theorem codes_eq : words1.filter isCode = codes1 := rfl
theorem w_codes : ∀ c ∈ words1.filter isCode, c.before args0 about1 = true := by
  rw [codes_eq]
  intro c hc
  simp only [codes1, List.mem_cons, List.not_mem_nil, or_false] at hc
  rcases hc with rfl | rfl | rfl
  · exact w_c0
  · exact w_c1
  · exact w_c2
set_option maxRecDepth 65536 in
theorem w_t1 : words1.all (fun c => isCode c || c.before args0 about1) = true := by decide +kernel
theorem w_tables : (allAtoms (Jvm.Cond.code x code maxLocals ret :: tables_1)).before args0 about1 = true := by
  rw [allAtoms_all]
  show words1.all (fun c => c.before args0 about1) = true
  refine all_split ?_ w_codes
  rw [w_t1]
set_option maxRecDepth 65536 in
theorem w_case : (Jvm.Cond.and given_1 narrow_1).before args0 about1 = true := by decide +kernel
theorem w_applies : (headSpec (Jvm.Cond.code x code maxLocals ret :: tables_1) room_1).applies x e0.platform about1 = true :=
  (Spec.applies_iff w_frames).mpr ⟨w_running, w_runnable, w_alone, w_named, w_hears, w_ripe, w_room, w_tables⟩
theorem atStart : AtStart classFile x code maxLocals ret World_1 tables_1 room_1 Calls_1 rest_1 Pre_1 launch0 p0 e0 about1 theMethod args0 below0 :=
  ⟨lists_1, trivial, launch0.admits_env _ _ _, launch0.least_env, fairChoices_fair.cas, fairChoices_fair.clock, w_frames, w_args, w_heap, w_applies, trivial, trivial, w_case⟩
end start1
theorem witness_1 : WitnessClaimed_1 := ⟨start1.p0, start1.e0, start1.about1, start1.theMethod, start1.args0, start1.below0, start1.atStart⟩
end Jvm.Pilot.@@N@@
