import JvmDerived
import JvmDerived.Pilot.@@N@@Statement
import JvmDerived.Pilot.@@N@@Code
set_option linter.unusedVariables false
set_option linter.unusedSimpArgs false
namespace Jvm.RoadKit
open Sem ClassFile Op Lib Jvm.Stand Jvm.Free Jvm.LawKit
section New
variable {p : Program} {l : Launch} {e : Env} {R : Room} {s : State} {m : MethodId} {args : Array Value} {below : List Frame} {meth : Method} {c : Code} {T : State} {locs : List Loc} {cells slots : Nat}
theorem retI (X : Stand p l e R s m args below meth c T locs cells slots) (hx : p.tables.exec = Jvm.exec) {pc : Nat} {Ls : Array Slot} {z : Int32} {rest : List Value} (hret : meth.sig.returnType = some .int) (hd : decode c.code pc = .ok (.ireturn, 1)) {fs : List Frame}
    (hl : ∀ (f : JFrame) (acts : List Action), f.method = m → f.locked = none → f.entered = [] → (doReturn e (T.setTop f) acts (some (.int z))).1 = T.setFrames fs) : Steps p.tables e below (T.setTop (mkF m pc Ls (.int z :: rest))) (T.setFrames fs) := by
  have hm' : T.vm.method? m = some meth := X.method'
  have hn : narrow .int (.int z) = .int z := rfl
  show Steps p.tables e below (T.setTop { method := m, pc := pc, locals := Ls, stack := _ :: rest, locked := none }) _
  jvm_step X.here [X.here.top, hx, hd, hm', hret, hn]
  first | (intro acts; rw [hl _ acts rfl rfl rfl]) | rw [hl _ _ rfl rfl rfl]
  exact Steps.refl _
end New
end Jvm.RoadKit
namespace Jvm.Pilot.@@N@@
open Jvm Jvm.ClassFile Sem Op Lib Jvm.Free Jvm.Stand Jvm.LawKit Jvm.RoadKit Bundle Jvm.Pilot.@@N@@.Jvm.D
abbrev own_S (p : Program) (e : Env) (below : List Frame) (S T : State) (f : JFrame) : Prop := ∀ tt, Steps p.tables e below (T.setTop f) tt → Steps p.tables e below S tt
def own_maxJ (x y : Int64) : Int64 := if lcmpW x y < (0 : Int32) then y else x
def own_minJ (x y : Int64) : Int64 := if (0 : Int32) < lcmpW x y then y else x
def own_LI (Z : State) (h : Heap) (n0 : Nat) (o1 bs bl br : Addr) (ks kl kr : ClassId) (S Lw R : List Value) (en : Int64) (ct : Int32) (hi : Int64) : Prop :=
  Exa Z h o1 "com/example/altocommit/altocommit/store/LogIndex" ∧ Fld Z h o1 "com/example/altocommit/altocommit/store/LogIndex" "starts" "[J" (.ref bs) ∧ Fld Z h o1 "com/example/altocommit/altocommit/store/LogIndex" "lows" "[J" (.ref bl) ∧ Fld Z h o1 "com/example/altocommit/altocommit/store/LogIndex" "reaches" "[J" (.ref br) ∧ Fld Z h o1 "com/example/altocommit/altocommit/store/LogIndex" "end" "J" (.long en) ∧ Fld Z h o1 "com/example/altocommit/altocommit/store/LogIndex" "count" "I" (.int ct) ∧ Fld Z h o1 "com/example/altocommit/altocommit/store/LogIndex" "highest" "J" (.long hi) ∧ Arv Z h bs ks .long (16 : Int32) S (.long (0 : Int64)) ∧ Arv Z h bl kl .long (16 : Int32) Lw (.long (0 : Int64)) ∧ Arv Z h br kr .long (16 : Int32) R (.long (0 : Int64)) ∧ n0 ≤ o1 ∧ n0 ≤ bs ∧ n0 ≤ bl ∧ n0 ≤ br ∧ o1 ≠ bs ∧ o1 ≠ bl ∧ o1 ≠ br ∧ bs ≠ bl ∧ bs ≠ br ∧ bl ≠ br
theorem own_gt (x y h : Int64) : (0 : Int32) < lcmpW (own_maxJ x y) h ↔ ((0 : Int32) < lcmpW x h ∨ (0 : Int32) < lcmpW y h) := by
  unfold own_maxJ
  simp only [lw_gt, lw_lt, Int64.lt_iff_toInt_lt]
  split <;> rename_i q <;> omega
theorem own_as (a b : Int64) : (a + b) - a = b := by
  have h1 := c_ladd a b
  have h2 := c_lsub (a + b) a
  have r := rng64 ((a + b) - a)
  have r' := rng64 b
  rw [← Int64.toInt_inj]; omega
theorem own_as2 (a b c : Int64) : ((a + b) + c) - a = b + c := by
  have h1 := c_ladd a b
  have h2 := c_ladd (a + b) c
  have h3 := c_lsub ((a + b) + c) a
  have h4 := c_ladd b c
  have r := rng64 (((a + b) + c) - a)
  have r' := rng64 (b + c)
  rw [← Int64.toInt_inj]; omega
theorem own_4 (x : Int32) : x &&& 3 = 0 ∨ x &&& 3 = 1 ∨ x &&& 3 = 2 ∨ x &&& 3 = 3 := by
  have h1 := c_mask x 3 2 (by decide) (by decide)
  have e4 : ((2 ^ 2 : Nat) : Int) = 4 := by decide
  rw [e4] at h1
  have e0 : (0 : Int32).toInt = 0 := rfl
  have e1 : (1 : Int32).toInt = 1 := rfl
  have e2 : (2 : Int32).toInt = 2 := rfl
  have e3 : (3 : Int32).toInt = 3 := rfl
  simp only [← Int32.toInt_inj]
  omega
theorem d5_0 : decode jdk_29_method_66_code 0 = .ok (.lload_n 0, 1) := by decide +kernel
theorem d5_1 : decode jdk_29_method_66_code 1 = .ok (.lload_n 2, 1) := by decide +kernel
theorem d5_2 : decode jdk_29_method_66_code 2 = .ok (.lcmp, 1) := by decide +kernel
theorem d5_3 : decode jdk_29_method_66_code 3 = .ok (.ifCond .lt 7, 3) := by decide +kernel
theorem d5_10 : decode jdk_29_method_66_code 10 = .ok (.lload_n 2, 1) := by decide +kernel
theorem d5_6 : decode jdk_29_method_66_code 6 = .ok (.lload_n 0, 1) := by decide +kernel
theorem d5_7 : decode jdk_29_method_66_code 7 = .ok (.goto 4, 3) := by decide +kernel
theorem d5_11 : decode jdk_29_method_66_code 11 = .ok (.lreturn, 1) := by decide +kernel
theorem ef5 (m : MethodId) (x0 : Int64) (x1 : Int64) : entryFrame m #[(.long x0), (.long x1)] 4 = mkF m 0 #[.val (.long x0), .second, .val (.long x1), .second] [] := by first | (simp [entryFrame, mkF, argsToLocals, Value.category]; done) | rfl
def Q5 (Z : State) (x1 : Int64) (x2 : Int64) (h0 : Heap) (n0 : Nat) (v : Option Value) (h : Heap) (L : List Loc) : Prop := v = some (.long (own_maxJ x1 x2)) ∧ Fr n0 L ∧ h = h0
set_option maxRecDepth 65536 in
set_option maxHeartbeats 40000000 in
theorem rm5 (l : Launch) (Z : State) (a0 : Array Value) (hw : ∀ d ∈ tables_1, d.before a0 Z = true) (ws : List Jvm.Cond) (x1 : Int64) (x2 : Int64) (h0 : Heap) (n0 : Nat) (Z0 : n0 ≤ h0.size) :
    MetFree l (⟨"java/lang/Math", "max", "(JJ)J"⟩ : MethodName) (head1 (Jvm.Cond.code (⟨"java/lang/Math", "max", "(JJ)J"⟩ : MethodName) jdk_29_method_66_code 4 (some .long) :: ws) ({ frames := 0, cells := 0, slots := 0, locals := 0 } : Room)) (fun aa UU => aa = #[(.long x1), (.long x2)] ∧ Z.Warmed39 UU.vm ∧ UU.heap = h0) (fun _ _ _ _ _ => True) (fun _ UU oo UU' => ∃ vv LL, oo = .returned vv ∧ Q5 Z x1 x2 h0 n0 vv UU'.heap LL ∧ FrameEnd UU oo UU' LL ({ frames := 0, cells := 0, slots := 0, locals := 0 } : Room).cells ({ frames := 0, cells := 0, slots := 0, locals := 0 } : Room).slots) := by
  have W : ∀ {d : Jvm.Cond} (i : Nat), tables_1[i]? = some d → d.before a0 Z = true := fun i h => hw _ (List.mem_of_getElem? h)
  refine MetFree.of_bodySF (Jvm.Free.JP.mathPlain rfl (by decide +kernel)) hisR ?_
  intro p e s m args below meth c s₁ Bd hml0 hP hK
  obtain ⟨rfl, hZ, hh⟩ := hP
  have hx := Bd.exec
  have hby := Bd.bytes
  have hml : c.maxLocals = 4 := hml0
  have hown : s.vm.findClass "java/lang/Math" = some m.cls := findClass_of_methodNamed Bd.named
  have hnm := (name_of_methodNamed Bd.named Bd.method).1
  have X0 : Stand p l e ({ frames := 0, cells := 0, slots := 0, locals := 0 } : Room) s m #[(.long x1), (.long x2)] below meth c s₁ [] 0 0 := Stand.of_body Bd
  have e0 : s₁.heap = h0 := by rw [← hh, Bd.state]; rfl
  have N0 := Fr.nil n0
  have pre0 : ∀ tt, Steps p.tables e below (s₁.setTop (mkF m 0 #[.val (.long x1), .second, .val (.long x2), .second] [])) tt → Steps p.tables e below (s₁.setTop (entryFrame m #[(.long x1), (.long x2)] 4)) tt := fun tt kt => castTop (ef5 m x1 x2) kt
  obtain ⟨ST, hST⟩ : ∃ z : State, z = s₁.setTop (mkF m 0 #[.val (.long x1), .second, .val (.long x2), .second] []) := ⟨_, rfl⟩
  rw [← hST] at pre0
  have go101 : own_S p e below ST s₁ (mkF m 3 #[.val (.long x1), .second, .val (.long x2), .second] [(.int (lcmpW x1 x2))]) := fun tt kt => (by
      rw [hST]
      show Steps p.tables e below (s₁.setTop (mkF m 0 #[.val (.long x1), .second, .val (.long x2), .second] [])) _
      refine XS.lloadN X0.here hx rfl (hb hby d5_0) rfl ?_
      refine XS.lloadN X0.here hx rfl (hb hby d5_1) rfl ?_
      refine XS.lcmp X0.here hx rfl (hb hby d5_2) rfl ?_
      exact kt)
  obtain ⟨v, hv, sg102⟩ : ∃ (v : Int64), v = (if (lcmpW x1 x2) < (0 : Int32) then x2 else x1) ∧ ∀ tt, Steps p.tables e below (s₁.setTop (mkF m 11 #[.val (.long x1), .second, .val (.long x2), .second] [(.long v)])) tt → Steps p.tables e below (s₁.setTop (mkF m 3 #[.val (.long x1), .second, .val (.long x2), .second] [(.int (lcmpW x1 x2))])) tt := by
    by_cases hd3_0 : (lcmpW x1 x2) < (0 : Int32)
    · refine ⟨_, (if_pos hd3_0).symm, fun tt kt => ?_⟩
      show Steps p.tables e below (s₁.setTop (mkF m 3 #[.val (.long x1), .second, .val (.long x2), .second] [(.int (lcmpW x1 x2))])) _
      refine XS.ifYes X0.here hx rfl (pc0 := 3) (pc' := 10) rfl (hb hby d5_3) rfl ((if0 _ _).trans (tlt hd3_0).1) (by decide) (by decide) ?_
      refine XS.lloadN X0.here hx rfl (hb hby d5_10) rfl ?_
      exact kt
    · refine ⟨_, (if_neg hd3_0).symm, fun tt kt => ?_⟩
      show Steps p.tables e below (s₁.setTop (mkF m 3 #[.val (.long x1), .second, .val (.long x2), .second] [(.int (lcmpW x1 x2))])) _
      refine XS.ifNo X0.here hx rfl (hb hby d5_3) rfl ((if0 _ _).trans (flt hd3_0).1) ?_
      refine XS.lloadN X0.here hx rfl (hb hby d5_6) rfl ?_
      refine XS.goto X0.here hx rfl (pc0 := 7) (pc' := 11) rfl (hb hby d5_7) (by decide) (by decide) ?_
      exact kt
  have go103 : own_S p e below ST s₁ (mkF m 11 #[.val (.long x1), .second, .val (.long x2), .second] [(.long v)]) := fun tt kt => go101 tt (sg102 _ kt)
  obtain ⟨fs, hr, hrun, hended, hW, hsame⟩ := X0.leave (v := some (.long v)) (fun h => by rw [Bd.returns] at h; cases h) (hlocks := by first | exact BodyLoose.notSynchronized Bd | exact Body.notSynchronized Bd)
  refine ⟨_, _, pre0 _ (go103 _ ?_), hrun, hended, _, _, rfl, ?_, ⟨_, rfl⟩, hW, hsame.mono (by decide) (by decide)⟩
  · exact retOut X0 hx Bd.returns rfl (Or.inr (Or.inl ⟨rfl, rfl, _, rfl⟩)) (hb hby d5_11) hr
  · show Q5 Z x1 x2 h0 n0 _ s₁.heap _
    rw [e0]
    exact ⟨(by rw [hv]; rfl), N0, rfl⟩
theorem d6_0 : decode jdk_29_method_70_code 0 = .ok (.lload_n 0, 1) := by decide +kernel
theorem d6_1 : decode jdk_29_method_70_code 1 = .ok (.lload_n 2, 1) := by decide +kernel
theorem d6_2 : decode jdk_29_method_70_code 2 = .ok (.lcmp, 1) := by decide +kernel
theorem d6_3 : decode jdk_29_method_70_code 3 = .ok (.ifCond .gt 7, 3) := by decide +kernel
theorem d6_10 : decode jdk_29_method_70_code 10 = .ok (.lload_n 2, 1) := by decide +kernel
theorem d6_6 : decode jdk_29_method_70_code 6 = .ok (.lload_n 0, 1) := by decide +kernel
theorem d6_7 : decode jdk_29_method_70_code 7 = .ok (.goto 4, 3) := by decide +kernel
theorem d6_11 : decode jdk_29_method_70_code 11 = .ok (.lreturn, 1) := by decide +kernel
theorem ef6 (m : MethodId) (x0 : Int64) (x1 : Int64) : entryFrame m #[(.long x0), (.long x1)] 4 = mkF m 0 #[.val (.long x0), .second, .val (.long x1), .second] [] := by first | (simp [entryFrame, mkF, argsToLocals, Value.category]; done) | rfl
def Q6 (Z : State) (x1 : Int64) (x2 : Int64) (h0 : Heap) (n0 : Nat) (v : Option Value) (h : Heap) (L : List Loc) : Prop := v = some (.long (own_minJ x1 x2)) ∧ Fr n0 L ∧ h = h0
set_option maxRecDepth 65536 in
set_option maxHeartbeats 40000000 in
theorem rm6 (l : Launch) (Z : State) (a0 : Array Value) (hw : ∀ d ∈ tables_1, d.before a0 Z = true) (ws : List Jvm.Cond) (x1 : Int64) (x2 : Int64) (h0 : Heap) (n0 : Nat) (Z0 : n0 ≤ h0.size) :
    MetFree l (⟨"java/lang/Math", "min", "(JJ)J"⟩ : MethodName) (head1 (Jvm.Cond.code (⟨"java/lang/Math", "min", "(JJ)J"⟩ : MethodName) jdk_29_method_70_code 4 (some .long) :: ws) ({ frames := 0, cells := 0, slots := 0, locals := 0 } : Room)) (fun aa UU => aa = #[(.long x1), (.long x2)] ∧ Z.Warmed39 UU.vm ∧ UU.heap = h0) (fun _ _ _ _ _ => True) (fun _ UU oo UU' => ∃ vv LL, oo = .returned vv ∧ Q6 Z x1 x2 h0 n0 vv UU'.heap LL ∧ FrameEnd UU oo UU' LL ({ frames := 0, cells := 0, slots := 0, locals := 0 } : Room).cells ({ frames := 0, cells := 0, slots := 0, locals := 0 } : Room).slots) := by
  have W : ∀ {d : Jvm.Cond} (i : Nat), tables_1[i]? = some d → d.before a0 Z = true := fun i h => hw _ (List.mem_of_getElem? h)
  refine MetFree.of_bodySF (Jvm.Free.JP.mathPlain rfl (by decide +kernel)) hisR ?_
  intro p e s m args below meth c s₁ Bd hml0 hP hK
  obtain ⟨rfl, hZ, hh⟩ := hP
  have hx := Bd.exec
  have hby := Bd.bytes
  have hml : c.maxLocals = 4 := hml0
  have hown : s.vm.findClass "java/lang/Math" = some m.cls := findClass_of_methodNamed Bd.named
  have hnm := (name_of_methodNamed Bd.named Bd.method).1
  have X0 : Stand p l e ({ frames := 0, cells := 0, slots := 0, locals := 0 } : Room) s m #[(.long x1), (.long x2)] below meth c s₁ [] 0 0 := Stand.of_body Bd
  have e0 : s₁.heap = h0 := by rw [← hh, Bd.state]; rfl
  have N0 := Fr.nil n0
  have pre0 : ∀ tt, Steps p.tables e below (s₁.setTop (mkF m 0 #[.val (.long x1), .second, .val (.long x2), .second] [])) tt → Steps p.tables e below (s₁.setTop (entryFrame m #[(.long x1), (.long x2)] 4)) tt := fun tt kt => castTop (ef6 m x1 x2) kt
  obtain ⟨ST, hST⟩ : ∃ z : State, z = s₁.setTop (mkF m 0 #[.val (.long x1), .second, .val (.long x2), .second] []) := ⟨_, rfl⟩
  rw [← hST] at pre0
  have go104 : own_S p e below ST s₁ (mkF m 3 #[.val (.long x1), .second, .val (.long x2), .second] [(.int (lcmpW x1 x2))]) := fun tt kt => (by
      rw [hST]
      show Steps p.tables e below (s₁.setTop (mkF m 0 #[.val (.long x1), .second, .val (.long x2), .second] [])) _
      refine XS.lloadN X0.here hx rfl (hb hby d6_0) rfl ?_
      refine XS.lloadN X0.here hx rfl (hb hby d6_1) rfl ?_
      refine XS.lcmp X0.here hx rfl (hb hby d6_2) rfl ?_
      exact kt)
  obtain ⟨v, hv, sg105⟩ : ∃ (v : Int64), v = (if (0 : Int32) < (lcmpW x1 x2) then x2 else x1) ∧ ∀ tt, Steps p.tables e below (s₁.setTop (mkF m 11 #[.val (.long x1), .second, .val (.long x2), .second] [(.long v)])) tt → Steps p.tables e below (s₁.setTop (mkF m 3 #[.val (.long x1), .second, .val (.long x2), .second] [(.int (lcmpW x1 x2))])) tt := by
    by_cases hd3_0 : (0 : Int32) < (lcmpW x1 x2)
    · refine ⟨_, (if_pos hd3_0).symm, fun tt kt => ?_⟩
      show Steps p.tables e below (s₁.setTop (mkF m 3 #[.val (.long x1), .second, .val (.long x2), .second] [(.int (lcmpW x1 x2))])) _
      refine XS.ifYes X0.here hx rfl (pc0 := 3) (pc' := 10) rfl (hb hby d6_3) rfl ((if0 _ _).trans (tlt hd3_0).2.2.1) (by decide) (by decide) ?_
      refine XS.lloadN X0.here hx rfl (hb hby d6_10) rfl ?_
      exact kt
    · refine ⟨_, (if_neg hd3_0).symm, fun tt kt => ?_⟩
      show Steps p.tables e below (s₁.setTop (mkF m 3 #[.val (.long x1), .second, .val (.long x2), .second] [(.int (lcmpW x1 x2))])) _
      refine XS.ifNo X0.here hx rfl (hb hby d6_3) rfl ((if0 _ _).trans (flt hd3_0).2.2.1) ?_
      refine XS.lloadN X0.here hx rfl (hb hby d6_6) rfl ?_
      refine XS.goto X0.here hx rfl (pc0 := 7) (pc' := 11) rfl (hb hby d6_7) (by decide) (by decide) ?_
      exact kt
  have go106 : own_S p e below ST s₁ (mkF m 11 #[.val (.long x1), .second, .val (.long x2), .second] [(.long v)]) := fun tt kt => go104 tt (sg105 _ kt)
  obtain ⟨fs, hr, hrun, hended, hW, hsame⟩ := X0.leave (v := some (.long v)) (fun h => by rw [Bd.returns] at h; cases h) (hlocks := by first | exact BodyLoose.notSynchronized Bd | exact Body.notSynchronized Bd)
  refine ⟨_, _, pre0 _ (go106 _ ?_), hrun, hended, _, _, rfl, ?_, ⟨_, rfl⟩, hW, hsame.mono (by decide) (by decide)⟩
  · exact retOut X0 hx Bd.returns rfl (Or.inr (Or.inl ⟨rfl, rfl, _, rfl⟩)) (hb hby d6_11) hr
  · show Q6 Z x1 x2 h0 n0 _ s₁.heap _
    rw [e0]
    exact ⟨(by rw [hv]; rfl), N0, rfl⟩
theorem pn16 : plainName "com/example/altocommit/altocommit/store/LogIndex" = true := by first | (simp [plainName, overriddenIn]; done) | decide +kernel
theorem d1_0 : decode prog_214_method_1_code 0 = .ok (.aload_n 0, 1) := by decide +kernel
theorem d1_1 : decode prog_214_method_1_code 1 = .ok (.invokespecial 1, 3) := by decide +kernel
theorem d1_4 : decode prog_214_method_1_code 4 = .ok (.aload_n 0, 1) := by decide +kernel
theorem d1_5 : decode prog_214_method_1_code 5 = .ok (.bipush 16, 2) := by decide +kernel
theorem d1_7 : decode prog_214_method_1_code 7 = .ok (.newarray .long, 2) := by decide +kernel
theorem d1_9 : decode prog_214_method_1_code 9 = .ok (.putfield 7, 3) := by decide +kernel
theorem d1_12 : decode prog_214_method_1_code 12 = .ok (.aload_n 0, 1) := by decide +kernel
theorem d1_13 : decode prog_214_method_1_code 13 = .ok (.bipush 16, 2) := by decide +kernel
theorem d1_15 : decode prog_214_method_1_code 15 = .ok (.newarray .long, 2) := by decide +kernel
theorem d1_17 : decode prog_214_method_1_code 17 = .ok (.putfield 13, 3) := by decide +kernel
theorem d1_20 : decode prog_214_method_1_code 20 = .ok (.aload_n 0, 1) := by decide +kernel
theorem d1_21 : decode prog_214_method_1_code 21 = .ok (.bipush 16, 2) := by decide +kernel
theorem d1_23 : decode prog_214_method_1_code 23 = .ok (.newarray .long, 2) := by decide +kernel
theorem d1_25 : decode prog_214_method_1_code 25 = .ok (.putfield 16, 3) := by decide +kernel
theorem d1_28 : decode prog_214_method_1_code 28 = .ok (.aload_n 0, 1) := by decide +kernel
theorem d1_29 : decode prog_214_method_1_code 29 = .ok (.lload_n 1, 1) := by decide +kernel
theorem d1_30 : decode prog_214_method_1_code 30 = .ok (.putfield 19, 3) := by decide +kernel
theorem d1_33 : decode prog_214_method_1_code 33 = .ok (.return_, 1) := by decide +kernel
theorem ef1 (m : MethodId) (x0 : Addr) (x1 : Int64) : entryFrame m #[(.ref x0), (.long x1)] 3 = mkF m 0 #[.val (.ref x0), .val (.long x1), .second] [] := by first | (simp [entryFrame, mkF, argsToLocals, Value.category]; done) | rfl
def Q1 (Z : State) (o1 : Addr) (x1 : Int64) (h0 : Heap) (n0 : Nat) (v : Option Value) (h : Heap) (L : List Loc) : Prop := ∃ (bs bl br : Addr) (ks kl kr : ClassId), v = none ∧ Fr n0 L ∧ Keep h0 h [o1] ∧ own_LI Z h n0 o1 bs bl br ks kl kr [(.long (0 : Int64)), (.long (0 : Int64)), (.long (0 : Int64))] [(.long (0 : Int64)), (.long (0 : Int64)), (.long (0 : Int64))] [(.long (0 : Int64)), (.long (0 : Int64)), (.long (0 : Int64))] x1 0 0
set_option maxRecDepth 65536 in
set_option maxHeartbeats 40000000 in
theorem rm1 (l : Launch) (Z : State) (a0 : Array Value) (hw : ∀ d ∈ tables_1, d.before a0 Z = true) (ws : List Jvm.Cond) (o1 : Addr) (x1 : Int64) (h0 : Heap) (n0 : Nat) (Z0 : n0 ≤ h0.size) (F_starts : Fld Z h0 o1 "com/example/altocommit/altocommit/store/LogIndex" "starts" "[J" .null) (F_lows : Fld Z h0 o1 "com/example/altocommit/altocommit/store/LogIndex" "lows" "[J" .null) (F_reaches : Fld Z h0 o1 "com/example/altocommit/altocommit/store/LogIndex" "reaches" "[J" .null) (F_end : Fld Z h0 o1 "com/example/altocommit/altocommit/store/LogIndex" "end" "J" (.long (0 : Int64))) (F_count : Fld Z h0 o1 "com/example/altocommit/altocommit/store/LogIndex" "count" "I" (.int (0 : Int32))) (F_highest : Fld Z h0 o1 "com/example/altocommit/altocommit/store/LogIndex" "highest" "J" (.long (0 : Int64))) (E1 : Exa Z h0 o1 "com/example/altocommit/altocommit/store/LogIndex") (g1 : n0 ≤ o1) :
    MetFree l (⟨"com/example/altocommit/altocommit/store/LogIndex", "<init>", "(J)V"⟩ : MethodName) (head1 (Jvm.Cond.code (⟨"com/example/altocommit/altocommit/store/LogIndex", "<init>", "(J)V"⟩ : MethodName) prog_214_method_1_code 3 none :: ws) ({ frames := 1, cells := 3, slots := 48, locals := 12 } : Room)) (fun aa UU => aa = #[(.ref o1), (.long x1)] ∧ Z.Warmed39 UU.vm ∧ UU.heap = h0) (fun _ _ _ _ _ => True) (fun _ UU oo UU' => ∃ vv LL, oo = .returned vv ∧ Q1 Z o1 x1 h0 n0 vv UU'.heap LL ∧ FrameEnd UU oo UU' LL ({ frames := 1, cells := 3, slots := 48, locals := 12 } : Room).cells ({ frames := 1, cells := 3, slots := 48, locals := 12 } : Room).slots) := by
  have W : ∀ {d : Jvm.Cond} (i : Nat), tables_1[i]? = some d → d.before a0 Z = true := fun i h => hw _ (List.mem_of_getElem? h)
  refine MetFree.of_bodySF (plainFor_of_name pn16) hisR ?_
  intro p e s m args below meth c s₁ Bd hml0 hP hK
  obtain ⟨rfl, hZ, hh⟩ := hP
  have hx := Bd.exec
  have hby := Bd.bytes
  have hml : c.maxLocals = 3 := hml0
  have hown : s.vm.findClass "com/example/altocommit/altocommit/store/LogIndex" = some m.cls := findClass_of_methodNamed Bd.named
  have hnm := (name_of_methodNamed Bd.named Bd.method).1
  have X0 : Stand p l e ({ frames := 1, cells := 3, slots := 48, locals := 12 } : Room) s m #[(.ref o1), (.long x1)] below meth c s₁ [] 0 0 := Stand.of_body Bd
  have e0 : s₁.heap = h0 := by rw [← hh, Bd.state]; rfl
  have N0 := Fr.nil n0
  have pre0 : ∀ tt, Steps p.tables e below (s₁.setTop (mkF m 0 #[rv o1, .val (.long x1), .second] [])) tt → Steps p.tables e below (s₁.setTop (entryFrame m #[(.ref o1), (.long x1)] 3)) tt := fun tt kt => castTop (ef1 m o1 x1) kt
  obtain ⟨ST, hST⟩ : ∃ z : State, z = s₁.setTop (mkF m 0 #[rv o1, .val (.long x1), .second] []) := ⟨_, rfl⟩
  rw [← hST] at pre0
  have KC0 : Keep h0 h0 [o1] := Keep.refl h0 [o1]
  have go107 : own_S p e below ST s₁ (mkF m 1 #[rv o1, .val (.long x1), .second] [(.ref o1)]) := fun tt kt => (by
      rw [hST]
      show Steps p.tables e below (s₁.setTop (mkF m 0 #[rv o1, .val (.long x1), .second] [])) _
      refine XS.aloadN X0.here hx rfl (hb hby d1_0) rfl rfl ?_
      exact kt)
  obtain ⟨T108, X108, e108, st108⟩ := initO X0 hx hZ hown (W 7 rfl) (W 8 rfl) (W 9 rfl) e0 (g := (mkF m 1 #[rv o1, .val (.long x1), .second] [(.ref o1)])) rfl (by rw [hml]; rfl) rfl (hb hby d1_1) (by decide) (W := 0) (by show 2 * 0 + _ ≤ _; exact Nat.le_of_eq rfl) (by decide)
  have go109 : own_S p e below ST T108 (mkF m 4 #[rv o1, .val (.long x1), .second] []) := fun tt kt => go107 tt (st108 _ kt)
  have go110 : own_S p e below ST T108 (mkF m 7 #[rv o1, .val (.long x1), .second] [(.int (16 : Int32)), (.ref o1)]) := fun tt kt => go109 tt (by
      refine XS.aloadN X108.here hx rfl (hb hby d1_4) rfl rfl ?_
      refine XS.bipush X108.here hx rfl (hb hby d1_5) ?_
      exact kt)
  obtain ⟨b111, g111⟩ : ∃ z, z = h0.size := ⟨_, rfl⟩
  obtain ⟨T111, h111, k111, X111, e111, E111, A111, st111⟩ := newP X108 hx hZ (W 10 rfl) e108 (g := (mkF m 7 #[rv o1, .val (.long x1), .second] [(.int (16 : Int32)), (.ref o1)])) rfl (hb hby d1_7) rfl (by decide) (cap := 16) (by decide) (by decide) (by decide) (by decide)
  rw [← g111] at A111 st111
  have neo1_b111 : o1 ≠ b111 := Nat.ne_of_lt (Nat.lt_of_lt_of_le E1.lt (Nat.le_of_eq g111.symm))
  have ge_b111 : n0 ≤ b111 := Nat.le_trans Z0 (Nat.le_of_eq g111.symm)
  have sz_b111 : h0.size ≤ b111 := Nat.le_trans KC0.1 (Nat.le_of_eq g111.symm)
  have V111 : Arv Z h111 b111 k111 .long (16 : Int32) [(.long (0 : Int64)), (.long (0 : Int64)), (.long (0 : Int64))] (.long (0 : Int64)) := (Arv.new A111 (by decide)).pad (pad_rep [] (.long (0 : Int64)) 3)
  have KC111 : Keep h0 h111 [o1] := KC0.ext E111
  have go112 : own_S p e below ST T111 (mkF m 9 #[rv o1, .val (.long x1), .second] [(.ref b111), (.ref o1)]) := fun tt kt => go110 tt (st111 _ kt)
  have f114 := (F_starts.ext E111)
  have f115 := (E1.ext E111)
  obtain ⟨T113, h113, X113, e113, W113, st113⟩ := putF X111 hx hZ hown (host := "") (Or.inl (W 11 rfl)) Via.refl e111 f114 f115 (Or.inl (W 12 rfl)) (W 2 rfl) (ty := (.array .long)) (by decide) rfl rfl (g := (mkF m 9 #[rv o1, .val (.long x1), .second] [(.ref b111), (.ref o1)])) rfl rfl (hb hby d1_9)
  have Fw113 := f114.same W113
  have N113 := Fr.snoc X113 N0 g1
  have go116 : own_S p e below ST T113 (mkF m 12 #[rv o1, .val (.long x1), .second] []) := fun tt kt => go112 tt (st113 _ kt)
  have KC113 : Keep h0 h113 [o1] := KC111.wr W113 (Or.inl (List.mem_of_getElem? (i := 0) rfl))
  have go117 : own_S p e below ST T113 (mkF m 15 #[rv o1, .val (.long x1), .second] [(.int (16 : Int32)), (.ref o1)]) := fun tt kt => go116 tt (by
      refine XS.aloadN X113.here hx rfl (hb hby d1_12) rfl rfl ?_
      refine XS.bipush X113.here hx rfl (hb hby d1_13) ?_
      exact kt)
  have f119 := (f115.wr W113)
  have f120 := (V111.other W113 (Ne.symm neo1_b111))
  have zs121 := (Nat.le_trans (Nat.le_trans Z0 E111.1) (Keep.of_wr W113).1)
  obtain ⟨b118, g118⟩ : ∃ z, z = h113.size := ⟨_, rfl⟩
  obtain ⟨T118, h118, k118, X118, e118, E118, A118, st118⟩ := newP X113 hx hZ (W 10 rfl) e113 (g := (mkF m 15 #[rv o1, .val (.long x1), .second] [(.int (16 : Int32)), (.ref o1)])) rfl (hb hby d1_15) rfl (by decide) (cap := 16) (by decide) (by decide) (by decide) (by decide)
  rw [← g118] at A118 st118
  have neo1_b118 : o1 ≠ b118 := Nat.ne_of_lt (Nat.lt_of_lt_of_le f119.lt (Nat.le_of_eq g118.symm))
  have neb111_b118 : b111 ≠ b118 := Nat.ne_of_lt (Nat.lt_of_lt_of_le f120.lt (Nat.le_of_eq g118.symm))
  have ge_b118 : n0 ≤ b118 := Nat.le_trans zs121 (Nat.le_of_eq g118.symm)
  have sz_b118 : h0.size ≤ b118 := Nat.le_trans KC113.1 (Nat.le_of_eq g118.symm)
  have V118 : Arv Z h118 b118 k118 .long (16 : Int32) [(.long (0 : Int64)), (.long (0 : Int64)), (.long (0 : Int64))] (.long (0 : Int64)) := (Arv.new A118 (by decide)).pad (pad_rep [] (.long (0 : Int64)) 3)
  have KC118 : Keep h0 h118 [o1] := KC113.ext E118
  have go122 : own_S p e below ST T118 (mkF m 17 #[rv o1, .val (.long x1), .second] [(.ref b118), (.ref o1)]) := fun tt kt => go117 tt (st118 _ kt)
  have f124 := (((F_lows.ext E111).other W113 (Or.inr (slot_ne (Or.inl (W 14 rfl)) (Or.inl (W 12 rfl)) (by decide) (t := (.array .long)) (t' := (.array .long)) (by decide) (by decide)))).ext E118)
  have f125 := (f119.ext E118)
  obtain ⟨T123, h123, X123, e123, W123, st123⟩ := putF X118 hx hZ hown (host := "") (Or.inl (W 13 rfl)) Via.refl e118 f124 f125 (Or.inl (W 14 rfl)) (W 2 rfl) (ty := (.array .long)) (by decide) rfl rfl (g := (mkF m 17 #[rv o1, .val (.long x1), .second] [(.ref b118), (.ref o1)])) rfl rfl (hb hby d1_17)
  have Fw123 := f124.same W123
  have N123 := Fr.snoc X123 N113 g1
  have go126 : own_S p e below ST T123 (mkF m 20 #[rv o1, .val (.long x1), .second] []) := fun tt kt => go122 tt (st123 _ kt)
  have KC123 : Keep h0 h123 [o1] := KC118.wr W123 (Or.inl (List.mem_of_getElem? (i := 0) rfl))
  have go127 : own_S p e below ST T123 (mkF m 23 #[rv o1, .val (.long x1), .second] [(.int (16 : Int32)), (.ref o1)]) := fun tt kt => go126 tt (by
      refine XS.aloadN X123.here hx rfl (hb hby d1_20) rfl rfl ?_
      refine XS.bipush X123.here hx rfl (hb hby d1_21) ?_
      exact kt)
  have f129 := (f125.wr W123)
  have f130 := ((f120.ext E118).other W123 (Ne.symm neo1_b111))
  have f131 := (V118.other W123 (Ne.symm neo1_b118))
  have zs132 := (Nat.le_trans (Nat.le_trans zs121 E118.1) (Keep.of_wr W123).1)
  obtain ⟨b128, g128⟩ : ∃ z, z = h123.size := ⟨_, rfl⟩
  obtain ⟨T128, h128, k128, X128, e128, E128, A128, st128⟩ := newP X123 hx hZ (W 10 rfl) e123 (g := (mkF m 23 #[rv o1, .val (.long x1), .second] [(.int (16 : Int32)), (.ref o1)])) rfl (hb hby d1_23) rfl (by decide) (cap := 16) (by decide) (by decide) (by decide) (by decide)
  rw [← g128] at A128 st128
  have neo1_b128 : o1 ≠ b128 := Nat.ne_of_lt (Nat.lt_of_lt_of_le f129.lt (Nat.le_of_eq g128.symm))
  have neb111_b128 : b111 ≠ b128 := Nat.ne_of_lt (Nat.lt_of_lt_of_le f130.lt (Nat.le_of_eq g128.symm))
  have neb118_b128 : b118 ≠ b128 := Nat.ne_of_lt (Nat.lt_of_lt_of_le f131.lt (Nat.le_of_eq g128.symm))
  have ge_b128 : n0 ≤ b128 := Nat.le_trans zs132 (Nat.le_of_eq g128.symm)
  have sz_b128 : h0.size ≤ b128 := Nat.le_trans KC123.1 (Nat.le_of_eq g128.symm)
  have V128 : Arv Z h128 b128 k128 .long (16 : Int32) [(.long (0 : Int64)), (.long (0 : Int64)), (.long (0 : Int64))] (.long (0 : Int64)) := (Arv.new A128 (by decide)).pad (pad_rep [] (.long (0 : Int64)) 3)
  have KC128 : Keep h0 h128 [o1] := KC123.ext E128
  have go133 : own_S p e below ST T128 (mkF m 25 #[rv o1, .val (.long x1), .second] [(.ref b128), (.ref o1)]) := fun tt kt => go127 tt (st128 _ kt)
  have f135 := (((((F_reaches.ext E111).other W113 (Or.inr (slot_ne (Or.inl (W 16 rfl)) (Or.inl (W 12 rfl)) (by decide) (t := (.array .long)) (t' := (.array .long)) (by decide) (by decide)))).ext E118).other W123 (Or.inr (slot_ne (Or.inl (W 16 rfl)) (Or.inl (W 14 rfl)) (by decide) (t := (.array .long)) (t' := (.array .long)) (by decide) (by decide)))).ext E128)
  have f136 := (f129.ext E128)
  obtain ⟨T134, h134, X134, e134, W134, st134⟩ := putF X128 hx hZ hown (host := "") (Or.inl (W 15 rfl)) Via.refl e128 f135 f136 (Or.inl (W 16 rfl)) (W 2 rfl) (ty := (.array .long)) (by decide) rfl rfl (g := (mkF m 25 #[rv o1, .val (.long x1), .second] [(.ref b128), (.ref o1)])) rfl rfl (hb hby d1_25)
  have Fw134 := f135.same W134
  have N134 := Fr.snoc X134 N123 g1
  have go137 : own_S p e below ST T134 (mkF m 28 #[rv o1, .val (.long x1), .second] []) := fun tt kt => go133 tt (st134 _ kt)
  have KC134 : Keep h0 h134 [o1] := KC128.wr W134 (Or.inl (List.mem_of_getElem? (i := 0) rfl))
  have go138 : own_S p e below ST T134 (mkF m 30 #[rv o1, .val (.long x1), .second] [(.long x1), (.ref o1)]) := fun tt kt => go137 tt (by
      refine XS.aloadN X134.here hx rfl (hb hby d1_28) rfl rfl ?_
      refine XS.lloadN X134.here hx rfl (hb hby d1_29) rfl ?_
      exact kt)
  have f140 := ((((((F_end.ext E111).other W113 (Or.inr (slot_ne (Or.inl (W 18 rfl)) (Or.inl (W 12 rfl)) (by decide) (t := .long) (t' := (.array .long)) (by decide) (by decide)))).ext E118).other W123 (Or.inr (slot_ne (Or.inl (W 18 rfl)) (Or.inl (W 14 rfl)) (by decide) (t := .long) (t' := (.array .long)) (by decide) (by decide)))).ext E128).other W134 (Or.inr (slot_ne (Or.inl (W 18 rfl)) (Or.inl (W 16 rfl)) (by decide) (t := .long) (t' := (.array .long)) (by decide) (by decide))))
  have f141 := (f136.wr W134)
  obtain ⟨T139, h139, X139, e139, W139, st139⟩ := putF X134 hx hZ hown (host := "") (Or.inl (W 17 rfl)) Via.refl e134 f140 f141 (Or.inl (W 18 rfl)) (W 2 rfl) (ty := .long) (by decide) rfl rfl (g := (mkF m 30 #[rv o1, .val (.long x1), .second] [(.long x1), (.ref o1)])) rfl rfl (hb hby d1_30)
  have Fw139 := f140.same W139
  have N139 := Fr.snoc X139 N134 g1
  have go142 : own_S p e below ST T139 (mkF m 33 #[rv o1, .val (.long x1), .second] []) := fun tt kt => go138 tt (st139 _ kt)
  have KC139 : Keep h0 h139 [o1] := KC134.wr W139 (Or.inl (List.mem_of_getElem? (i := 0) rfl))
  have f143 := (f141.wr W139)
  have f144 := (((((Fw113.ext E118).other W123 (Or.inr (slot_ne (Or.inl (W 12 rfl)) (Or.inl (W 14 rfl)) (by decide) (t := (.array .long)) (t' := (.array .long)) (by decide) (by decide)))).ext E128).other W134 (Or.inr (slot_ne (Or.inl (W 12 rfl)) (Or.inl (W 16 rfl)) (by decide) (t := (.array .long)) (t' := (.array .long)) (by decide) (by decide)))).other W139 (Or.inr (slot_ne (Or.inl (W 12 rfl)) (Or.inl (W 18 rfl)) (by decide) (t := (.array .long)) (t' := .long) (by decide) (by decide))))
  have f145 := (((Fw123.ext E128).other W134 (Or.inr (slot_ne (Or.inl (W 14 rfl)) (Or.inl (W 16 rfl)) (by decide) (t := (.array .long)) (t' := (.array .long)) (by decide) (by decide)))).other W139 (Or.inr (slot_ne (Or.inl (W 14 rfl)) (Or.inl (W 18 rfl)) (by decide) (t := (.array .long)) (t' := .long) (by decide) (by decide))))
  have f146 := (Fw134.other W139 (Or.inr (slot_ne (Or.inl (W 16 rfl)) (Or.inl (W 18 rfl)) (by decide) (t := (.array .long)) (t' := .long) (by decide) (by decide))))
  have f147 := (((((((F_count.ext E111).other W113 (Or.inr (slot_ne (Or.inl (W 25 rfl)) (Or.inl (W 12 rfl)) (by decide) (t := .int) (t' := (.array .long)) (by decide) (by decide)))).ext E118).other W123 (Or.inr (slot_ne (Or.inl (W 25 rfl)) (Or.inl (W 14 rfl)) (by decide) (t := .int) (t' := (.array .long)) (by decide) (by decide)))).ext E128).other W134 (Or.inr (slot_ne (Or.inl (W 25 rfl)) (Or.inl (W 16 rfl)) (by decide) (t := .int) (t' := (.array .long)) (by decide) (by decide)))).other W139 (Or.inr (slot_ne (Or.inl (W 25 rfl)) (Or.inl (W 18 rfl)) (by decide) (t := .int) (t' := .long) (by decide) (by decide))))
  have f148 := (((((((F_highest.ext E111).other W113 (Or.inr (slot_ne (Or.inl (W 32 rfl)) (Or.inl (W 12 rfl)) (by decide) (t := .long) (t' := (.array .long)) (by decide) (by decide)))).ext E118).other W123 (Or.inr (slot_ne (Or.inl (W 32 rfl)) (Or.inl (W 14 rfl)) (by decide) (t := .long) (t' := (.array .long)) (by decide) (by decide)))).ext E128).other W134 (Or.inr (slot_ne (Or.inl (W 32 rfl)) (Or.inl (W 16 rfl)) (by decide) (t := .long) (t' := (.array .long)) (by decide) (by decide)))).other W139 (Or.inr (slot_ne (Or.inl (W 32 rfl)) (Or.inl (W 18 rfl)) (by decide) (t := .long) (t' := .long) (by decide) (by decide))))
  have f149 := (((f130.ext E128).other W134 (Ne.symm neo1_b111)).other W139 (Ne.symm neo1_b111))
  have f150 := (((f131.ext E128).other W134 (Ne.symm neo1_b118)).other W139 (Ne.symm neo1_b118))
  have f151 := ((V128.other W134 (Ne.symm neo1_b128)).other W139 (Ne.symm neo1_b128))
  obtain ⟨fs, hr, hrun, hended, hW, hsame⟩ := X139.leave (v := none) (fun _ => rfl) (hlocks := by first | exact BodyLoose.notSynchronized Bd | exact Body.notSynchronized Bd)
  refine ⟨_, _, pre0 _ (go142 _ ?_), hrun, hended, _, _, rfl, ?_, ⟨_, rfl⟩, hW, hsame.mono (by decide) (by decide)⟩
  · exact X139.returnOut hx Bd.returns (hb hby d1_33) hr
  · show Q1 Z o1 x1 h0 n0 _ T139.heap _
    rw [e139]
    exact ⟨b111, b118, b128, k111, k118, k128, rfl, N139, KC139, ⟨f143, f144, f145, f146, Fw139, f147, f148, f149, f150, f151, g1, ge_b111, ge_b118, ge_b128, neo1_b111, neo1_b118, neo1_b128, neb111_b118, neb111_b128, neb118_b128⟩⟩
theorem d4_0 : decode prog_214_method_2_code 0 = .ok (.lload_n 1, 1) := by decide +kernel
theorem d4_1 : decode prog_214_method_2_code 1 = .ok (.lconst 0, 1) := by decide +kernel
theorem d4_2 : decode prog_214_method_2_code 2 = .ok (.lcmp, 1) := by decide +kernel
theorem d4_3 : decode prog_214_method_2_code 3 = .ok (.ifCond .ne 9, 3) := by decide +kernel
theorem d4_6 : decode prog_214_method_2_code 6 = .ok (.ldc2_w 27, 3) := by decide +kernel
theorem d4_9 : decode prog_214_method_2_code 9 = .ok (.goto 4, 3) := by decide +kernel
theorem d4_12 : decode prog_214_method_2_code 12 = .ok (.lload_n 1, 1) := by decide +kernel
theorem d4_13 : decode prog_214_method_2_code 13 = .ok (.lstore 5, 2) := by decide +kernel
theorem d4_15 : decode prog_214_method_2_code 15 = .ok (.aload_n 0, 1) := by decide +kernel
theorem d4_16 : decode prog_214_method_2_code 16 = .ok (.getfield 29, 3) := by decide +kernel
theorem d4_19 : decode prog_214_method_2_code 19 = .ok (.ifCond .eq 26, 3) := by decide +kernel
theorem d4_45 : decode prog_214_method_2_code 45 = .ok (.aload_n 0, 1) := by decide +kernel
theorem d4_46 : decode prog_214_method_2_code 46 = .ok (.getfield 29, 3) := by decide +kernel
theorem d4_49 : decode prog_214_method_2_code 49 = .ok (.aload_n 0, 1) := by decide +kernel
theorem d4_50 : decode prog_214_method_2_code 50 = .ok (.getfield 7, 3) := by decide +kernel
theorem d4_53 : decode prog_214_method_2_code 53 = .ok (.arraylength, 1) := by decide +kernel
theorem d4_54 : decode prog_214_method_2_code 54 = .ok (.if_icmp .ne 54, 3) := by decide +kernel
theorem d4_108 : decode prog_214_method_2_code 108 = .ok (.aload_n 0, 1) := by decide +kernel
theorem d4_109 : decode prog_214_method_2_code 109 = .ok (.getfield 7, 3) := by decide +kernel
theorem d4_112 : decode prog_214_method_2_code 112 = .ok (.aload_n 0, 1) := by decide +kernel
theorem d4_113 : decode prog_214_method_2_code 113 = .ok (.getfield 29, 3) := by decide +kernel
theorem d4_116 : decode prog_214_method_2_code 116 = .ok (.aload_n 0, 1) := by decide +kernel
theorem d4_117 : decode prog_214_method_2_code 117 = .ok (.getfield 19, 3) := by decide +kernel
theorem d4_120 : decode prog_214_method_2_code 120 = .ok (.lastore, 1) := by decide +kernel
theorem d4_121 : decode prog_214_method_2_code 121 = .ok (.aload_n 0, 1) := by decide +kernel
theorem d4_122 : decode prog_214_method_2_code 122 = .ok (.getfield 13, 3) := by decide +kernel
theorem d4_125 : decode prog_214_method_2_code 125 = .ok (.aload_n 0, 1) := by decide +kernel
theorem d4_126 : decode prog_214_method_2_code 126 = .ok (.getfield 29, 3) := by decide +kernel
theorem d4_129 : decode prog_214_method_2_code 129 = .ok (.lload 5, 2) := by decide +kernel
theorem d4_131 : decode prog_214_method_2_code 131 = .ok (.lastore, 1) := by decide +kernel
theorem d4_132 : decode prog_214_method_2_code 132 = .ok (.aload_n 0, 1) := by decide +kernel
theorem d4_133 : decode prog_214_method_2_code 133 = .ok (.getfield 16, 3) := by decide +kernel
theorem d4_136 : decode prog_214_method_2_code 136 = .ok (.aload_n 0, 1) := by decide +kernel
theorem d4_137 : decode prog_214_method_2_code 137 = .ok (.getfield 29, 3) := by decide +kernel
theorem d4_140 : decode prog_214_method_2_code 140 = .ok (.aload_n 0, 1) := by decide +kernel
theorem d4_141 : decode prog_214_method_2_code 141 = .ok (.getfield 29, 3) := by decide +kernel
theorem d4_144 : decode prog_214_method_2_code 144 = .ok (.ifCond .ne 7, 3) := by decide +kernel
theorem d4_147 : decode prog_214_method_2_code 147 = .ok (.lload_n 1, 1) := by decide +kernel
theorem d4_148 : decode prog_214_method_2_code 148 = .ok (.goto 18, 3) := by decide +kernel
theorem d4_166 : decode prog_214_method_2_code 166 = .ok (.lastore, 1) := by decide +kernel
theorem d4_167 : decode prog_214_method_2_code 167 = .ok (.aload_n 0, 1) := by decide +kernel
theorem d4_168 : decode prog_214_method_2_code 168 = .ok (.dup, 1) := by decide +kernel
theorem d4_169 : decode prog_214_method_2_code 169 = .ok (.getfield 29, 3) := by decide +kernel
theorem d4_172 : decode prog_214_method_2_code 172 = .ok (.iconst 1, 1) := by decide +kernel
theorem d4_173 : decode prog_214_method_2_code 173 = .ok (.iadd, 1) := by decide +kernel
theorem d4_174 : decode prog_214_method_2_code 174 = .ok (.putfield 29, 3) := by decide +kernel
theorem d4_177 : decode prog_214_method_2_code 177 = .ok (.goto 48, 3) := by decide +kernel
theorem d4_225 : decode prog_214_method_2_code 225 = .ok (.aload_n 0, 1) := by decide +kernel
theorem d4_226 : decode prog_214_method_2_code 226 = .ok (.dup, 1) := by decide +kernel
theorem d4_227 : decode prog_214_method_2_code 227 = .ok (.getfield 19, 3) := by decide +kernel
theorem d4_230 : decode prog_214_method_2_code 230 = .ok (.lload_n 3, 1) := by decide +kernel
theorem d4_231 : decode prog_214_method_2_code 231 = .ok (.ladd, 1) := by decide +kernel
theorem d4_232 : decode prog_214_method_2_code 232 = .ok (.putfield 19, 3) := by decide +kernel
theorem d4_235 : decode prog_214_method_2_code 235 = .ok (.aload_n 0, 1) := by decide +kernel
theorem d4_236 : decode prog_214_method_2_code 236 = .ok (.aload_n 0, 1) := by decide +kernel
theorem d4_237 : decode prog_214_method_2_code 237 = .ok (.getfield 50, 3) := by decide +kernel
theorem d4_240 : decode prog_214_method_2_code 240 = .ok (.lload_n 1, 1) := by decide +kernel
theorem d4_241 : decode prog_214_method_2_code 241 = .ok (.invokestatic 41, 3) := by decide +kernel
theorem pd93 : parseMethodDescriptor "(JJ)J" = some ⟨[.long, .long], some .long⟩ := by decide +kernel
theorem d4_244 : decode prog_214_method_2_code 244 = .ok (.putfield 50, 3) := by decide +kernel
theorem d4_247 : decode prog_214_method_2_code 247 = .ok (.return_, 1) := by decide +kernel
theorem ef4c0 (m : MethodId) (x0 : Addr) (x1 : Int64) (x2 : Int64) : entryFrame m #[(.ref x0), (.long x1), (.long x2)] 8 = mkF m 0 #[.val (.ref x0), .val (.long x1), .second, .val (.long x2), .second, .unset, .unset, .unset] [] := by first | (simp [entryFrame, mkF, argsToLocals, Value.category]; done) | rfl
def Q4c0 (Z : State) (o1 : Addr) (bs : Addr) (bl : Addr) (br : Addr) (ks : ClassId) (kl : ClassId) (kr : ClassId) (cm : Int64) (ln : Int64) (en : Int64) (hi : Int64) (h0 : Heap) (n0 : Nat) (v : Option Value) (h : Heap) (L : List Loc) : Prop := ∃ lw : Int64, v = none ∧ Fr n0 L ∧ Keep h0 h [o1, bs, bl, br] ∧ own_LI Z h n0 o1 bs bl br ks kl kr [(.long en), (.long (0 : Int64)), (.long (0 : Int64))] [(.long lw), (.long (0 : Int64)), (.long (0 : Int64))] [(.long cm), (.long (0 : Int64)), (.long (0 : Int64))] (en + ln) (1 : Int32) (own_maxJ hi cm)
set_option maxRecDepth 65536 in
set_option maxHeartbeats 40000000 in
theorem rm4c0 (l : Launch) (Z : State) (a0 : Array Value) (hw : ∀ d ∈ tables_1, d.before a0 Z = true) (ws : List Jvm.Cond) (o1 : Addr) (bs : Addr) (bl : Addr) (br : Addr) (ks : ClassId) (kl : ClassId) (kr : ClassId) (cm : Int64) (ln : Int64) (en : Int64) (hi : Int64) (h0 : Heap) (n0 : Nat) (Z0 : n0 ≤ h0.size) (LI : own_LI Z h0 n0 o1 bs bl br ks kl kr [(.long (0 : Int64)), (.long (0 : Int64)), (.long (0 : Int64))] [(.long (0 : Int64)), (.long (0 : Int64)), (.long (0 : Int64))] [(.long (0 : Int64)), (.long (0 : Int64)), (.long (0 : Int64))] en (0 : Int32) hi) :
    MetFree l (⟨"com/example/altocommit/altocommit/store/LogIndex", "add", "(JJ)V"⟩ : MethodName) (head1 (Jvm.Cond.code (⟨"com/example/altocommit/altocommit/store/LogIndex", "add", "(JJ)V"⟩ : MethodName) prog_214_method_2_code 8 none :: ws) ({ frames := 1, cells := 0, slots := 0, locals := 16 } : Room)) (fun aa UU => aa = #[(.ref o1), (.long cm), (.long ln)] ∧ Z.Warmed39 UU.vm ∧ UU.heap = h0) (fun _ _ _ _ _ => True) (fun _ UU oo UU' => ∃ vv LL, oo = .returned vv ∧ Q4c0 Z o1 bs bl br ks kl kr cm ln en hi h0 n0 vv UU'.heap LL ∧ FrameEnd UU oo UU' LL ({ frames := 1, cells := 0, slots := 0, locals := 16 } : Room).cells ({ frames := 1, cells := 0, slots := 0, locals := 16 } : Room).slots) := by
  have W : ∀ {d : Jvm.Cond} (i : Nat), tables_1[i]? = some d → d.before a0 Z = true := fun i h => hw _ (List.mem_of_getElem? h)
  refine MetFree.of_bodySF (plainFor_of_name pn16) hisR ?_
  intro p e s m args below meth c s₁ Bd hml0 hP hK
  obtain ⟨rfl, hZ, hh⟩ := hP
  have hx := Bd.exec
  have hby := Bd.bytes
  have hml : c.maxLocals = 8 := hml0
  have hown : s.vm.findClass "com/example/altocommit/altocommit/store/LogIndex" = some m.cls := findClass_of_methodNamed Bd.named
  have hnm := (name_of_methodNamed Bd.named Bd.method).1
  have X0 : Stand p l e ({ frames := 1, cells := 0, slots := 0, locals := 16 } : Room) s m #[(.ref o1), (.long cm), (.long ln)] below meth c s₁ [] 0 0 := Stand.of_body Bd
  have e0 : s₁.heap = h0 := by rw [← hh, Bd.state]; rfl
  have N0 := Fr.nil n0
  have pre0 : ∀ tt, Steps p.tables e below (s₁.setTop (mkF m 0 #[rv o1, .val (.long cm), .second, .val (.long ln), .second, .unset, .unset, .unset] [])) tt → Steps p.tables e below (s₁.setTop (entryFrame m #[(.ref o1), (.long cm), (.long ln)] 8)) tt := fun tt kt => castTop (ef4c0 m o1 cm ln) kt
  obtain ⟨ST, hST⟩ : ∃ z : State, z = s₁.setTop (mkF m 0 #[rv o1, .val (.long cm), .second, .val (.long ln), .second, .unset, .unset, .unset] []) := ⟨_, rfl⟩
  rw [← hST] at pre0
  obtain ⟨LI_E, LI_starts, LI_lows, LI_reaches, LI_end, LI_count, LI_highest, LI_Vs, LI_Vl, LI_Vr, LI_go, LI_gs, LI_gl, LI_gr, LI_n0, LI_n1, LI_n2, LI_n3, LI_n4, LI_n5⟩ := LI
  have KC0 : Keep h0 h0 [o1, bs, bl, br] := Keep.refl h0 [o1, bs, bl, br]
  have go152 : own_S p e below ST s₁ (mkF m 3 #[rv o1, .val (.long cm), .second, .val (.long ln), .second, .unset, .unset, .unset] [(.int (lcmpW cm (0 : Int64)))]) := fun tt kt => (by
      rw [hST]
      show Steps p.tables e below (s₁.setTop (mkF m 0 #[rv o1, .val (.long cm), .second, .val (.long ln), .second, .unset, .unset, .unset] [])) _
      refine XS.lloadN X0.here hx rfl (hb hby d4_0) rfl ?_
      refine XS.lconst X0.here hx rfl (hb hby d4_1) ?_
      refine XS.lcmp X0.here hx rfl (hb hby d4_2) rfl ?_
      exact kt)
  obtain ⟨lw, hlw, sg153⟩ : ∃ (lw : Int64), lw = (if (lcmpW cm (0 : Int64)) = (0 : Int32) then (9223372036854775807 : Int64) else cm) ∧ ∀ tt, Steps p.tables e below (s₁.setTop (mkF m 13 #[rv o1, .val (.long cm), .second, .val (.long ln), .second, .unset, .unset, .unset] [(.long lw)])) tt → Steps p.tables e below (s₁.setTop (mkF m 3 #[rv o1, .val (.long cm), .second, .val (.long ln), .second, .unset, .unset, .unset] [(.int (lcmpW cm (0 : Int64)))])) tt := by
    by_cases hd3_0 : (lcmpW cm (0 : Int64)) = (0 : Int32)
    · refine ⟨_, (if_pos hd3_0).symm, fun tt kt => ?_⟩
      show Steps p.tables e below (s₁.setTop (mkF m 3 #[rv o1, .val (.long cm), .second, .val (.long ln), .second, .unset, .unset, .unset] [(.int (lcmpW cm (0 : Int64)))])) _
      refine XS.ifNo X0.here hx rfl (hb hby d4_3) rfl ((if0 _ _).trans (teq hd3_0).2) ?_
      refine X0.ldc2Long hx hown (mvT hZ (W 41 rfl)) (g := (mkF m 6 #[rv o1, .val (.long cm), .second, .val (.long ln), .second, .unset, .unset, .unset] [])) rfl (hb hby d4_6) _ ?_
      refine XS.goto X0.here hx rfl (pc0 := 9) (pc' := 13) rfl (hb hby d4_9) (by decide) (by decide) ?_
      exact kt
    · refine ⟨_, (if_neg hd3_0).symm, fun tt kt => ?_⟩
      show Steps p.tables e below (s₁.setTop (mkF m 3 #[rv o1, .val (.long cm), .second, .val (.long ln), .second, .unset, .unset, .unset] [(.int (lcmpW cm (0 : Int64)))])) _
      refine XS.ifYes X0.here hx rfl (pc0 := 3) (pc' := 12) rfl (hb hby d4_3) rfl ((if0 _ _).trans (feq hd3_0).2) (by decide) (by decide) ?_
      refine XS.lloadN X0.here hx rfl (hb hby d4_12) rfl ?_
      exact kt
  have go154 : own_S p e below ST s₁ (mkF m 13 #[rv o1, .val (.long cm), .second, .val (.long ln), .second, .unset, .unset, .unset] [(.long lw)]) := fun tt kt => go152 tt (sg153 _ kt)
  have go155 : own_S p e below ST s₁ (mkF m 16 #[rv o1, .val (.long cm), .second, .val (.long ln), .second, .val (.long lw), .second, .unset] [(.ref o1)]) := fun tt kt => go154 tt (by
      refine XS.lstore X0.here hx rfl (hb hby d4_13) rfl (l' := #[rv o1, .val (.long cm), .second, .val (.long ln), .second, .val (.long lw), .second, .unset]) rfl ?_
      refine XS.aloadN X0.here hx rfl (hb hby d4_15) rfl rfl ?_
      exact kt)
  obtain ⟨T156, X156, e156, st156⟩ := getF X0 hx hZ hown (host := "") (Or.inl (W 24 rfl)) Via.refl e0 LI_count (g := (mkF m 16 #[rv o1, .val (.long cm), .second, .val (.long ln), .second, .val (.long lw), .second, .unset] [(.ref o1)])) rfl rfl (hb hby d4_16)
  have go157 : own_S p e below ST T156 (mkF m 19 #[rv o1, .val (.long cm), .second, .val (.long ln), .second, .val (.long lw), .second, .unset] [(.int (0 : Int32))]) := fun tt kt => go155 tt (st156 _ kt)
  have go158 : own_S p e below ST T156 (mkF m 46 #[rv o1, .val (.long cm), .second, .val (.long ln), .second, .val (.long lw), .second, .unset] [(.ref o1)]) := fun tt kt => go157 tt (by
      refine XS.ifYes X156.here hx rfl (pc0 := 19) (pc' := 45) rfl (hb hby d4_19) rfl ((if0 _ _).trans (teq (by decide : (0 : Int32) = (0 : Int32))).1) (by decide) (by decide) ?_
      refine XS.aloadN X156.here hx rfl (hb hby d4_45) rfl rfl ?_
      exact kt)
  obtain ⟨T159, X159, e159, st159⟩ := getF X156 hx hZ hown (host := "") (Or.inl (W 24 rfl)) Via.refl e156 LI_count (g := (mkF m 46 #[rv o1, .val (.long cm), .second, .val (.long ln), .second, .val (.long lw), .second, .unset] [(.ref o1)])) rfl rfl (hb hby d4_46)
  have go160 : own_S p e below ST T159 (mkF m 49 #[rv o1, .val (.long cm), .second, .val (.long ln), .second, .val (.long lw), .second, .unset] [(.int (0 : Int32))]) := fun tt kt => go158 tt (st159 _ kt)
  have go161 : own_S p e below ST T159 (mkF m 50 #[rv o1, .val (.long cm), .second, .val (.long ln), .second, .val (.long lw), .second, .unset] [(.ref o1), (.int (0 : Int32))]) := fun tt kt => go160 tt (by
      refine XS.aloadN X159.here hx rfl (hb hby d4_49) rfl rfl ?_
      exact kt)
  obtain ⟨T162, X162, e162, st162⟩ := getF X159 hx hZ hown (host := "") (Or.inl (W 11 rfl)) Via.refl e159 LI_starts (g := (mkF m 50 #[rv o1, .val (.long cm), .second, .val (.long ln), .second, .val (.long lw), .second, .unset] [(.ref o1), (.int (0 : Int32))])) rfl rfl (hb hby d4_50)
  have go163 : own_S p e below ST T162 (mkF m 53 #[rv o1, .val (.long cm), .second, .val (.long ln), .second, .val (.long lw), .second, .unset] [(.ref bs), (.int (0 : Int32))]) := fun tt kt => go161 tt (st162 _ kt)
  obtain ⟨cl164, Ar164, q164, S164, M164, H164, G164⟩ := id LI_Vs
  have go165 : own_S p e below ST T162 (mkF m 54 #[rv o1, .val (.long cm), .second, .val (.long ln), .second, .val (.long lw), .second, .unset] [(.int (16 : Int32)), (.int (0 : Int32))]) := fun tt kt => go163 tt (by
      refine X162.arraylength hx (by rw [e162]; exact Ar164.1) (State.isArrayOf_alike hZ.alike Ar164.2.1) (g := (mkF m 53 #[rv o1, .val (.long cm), .second, .val (.long ln), .second, .val (.long lw), .second, .unset] [(.ref bs), (.int (0 : Int32))])) rfl rfl (hb hby d4_53) _ ?_
      rw [len_of S164 M164]
      exact kt)
  have go166 : own_S p e below ST T162 (mkF m 109 #[rv o1, .val (.long cm), .second, .val (.long ln), .second, .val (.long lw), .second, .unset] [(.ref o1)]) := fun tt kt => go165 tt (by
      refine XS.icmpYes X162.here hx rfl (pc0 := 54) (pc' := 108) rfl (hb hby d4_54) rfl (feq (by decide : ¬ ((0 : Int32) = (16 : Int32)))).2 (by decide) (by decide) ?_
      refine XS.aloadN X162.here hx rfl (hb hby d4_108) rfl rfl ?_
      exact kt)
  obtain ⟨T167, X167, e167, st167⟩ := getF X162 hx hZ hown (host := "") (Or.inl (W 11 rfl)) Via.refl e162 LI_starts (g := (mkF m 109 #[rv o1, .val (.long cm), .second, .val (.long ln), .second, .val (.long lw), .second, .unset] [(.ref o1)])) rfl rfl (hb hby d4_109)
  have go168 : own_S p e below ST T167 (mkF m 112 #[rv o1, .val (.long cm), .second, .val (.long ln), .second, .val (.long lw), .second, .unset] [(.ref bs)]) := fun tt kt => go166 tt (st167 _ kt)
  have go169 : own_S p e below ST T167 (mkF m 113 #[rv o1, .val (.long cm), .second, .val (.long ln), .second, .val (.long lw), .second, .unset] [(.ref o1), (.ref bs)]) := fun tt kt => go168 tt (by
      refine XS.aloadN X167.here hx rfl (hb hby d4_112) rfl rfl ?_
      exact kt)
  obtain ⟨T170, X170, e170, st170⟩ := getF X167 hx hZ hown (host := "") (Or.inl (W 24 rfl)) Via.refl e167 LI_count (g := (mkF m 113 #[rv o1, .val (.long cm), .second, .val (.long ln), .second, .val (.long lw), .second, .unset] [(.ref o1), (.ref bs)])) rfl rfl (hb hby d4_113)
  have go171 : own_S p e below ST T170 (mkF m 116 #[rv o1, .val (.long cm), .second, .val (.long ln), .second, .val (.long lw), .second, .unset] [(.int (0 : Int32)), (.ref bs)]) := fun tt kt => go169 tt (st170 _ kt)
  have go172 : own_S p e below ST T170 (mkF m 117 #[rv o1, .val (.long cm), .second, .val (.long ln), .second, .val (.long lw), .second, .unset] [(.ref o1), (.int (0 : Int32)), (.ref bs)]) := fun tt kt => go171 tt (by
      refine XS.aloadN X170.here hx rfl (hb hby d4_116) rfl rfl ?_
      exact kt)
  obtain ⟨T173, X173, e173, st173⟩ := getF X170 hx hZ hown (host := "") (Or.inl (W 17 rfl)) Via.refl e170 LI_end (g := (mkF m 117 #[rv o1, .val (.long cm), .second, .val (.long ln), .second, .val (.long lw), .second, .unset] [(.ref o1), (.int (0 : Int32)), (.ref bs)])) rfl rfl (hb hby d4_117)
  have go174 : own_S p e below ST T173 (mkF m 120 #[rv o1, .val (.long cm), .second, .val (.long ln), .second, .val (.long lw), .second, .unset] [(.long en), (.int (0 : Int32)), (.ref bs)]) := fun tt kt => go172 tt (st173 _ kt)
  obtain ⟨cl175, Ar175, q175, S175, M175, H175, G175⟩ := id LI_Vs
  have hin175 : ¬ ((0 : Int32) < 0 ∨ cl175.slots.size ≤ ((0 : Int32)).toNatClampNeg) := inb_of S175 ⟨by decide, by decide⟩
  obtain ⟨T175, h175, X175, e175, W175, st175⟩ := stJ X173 hx hZ e173 Ar175 (j := (0 : Int32)) hin175 (g := (mkF m 120 #[rv o1, .val (.long cm), .second, .val (.long ln), .second, .val (.long lw), .second, .unset] [(.long en), (.int (0 : Int32)), (.ref bs)])) rfl rfl (hb hby d4_120)
  have V175 : Arv Z h175 bs ks .long (16 : Int32) [(.long en), (.long (0 : Int64)), (.long (0 : Int64))] (.long (0 : Int64)) := Arv.set Ar175 q175 S175 M175 H175 G175 rfl W175 0 rfl (Nat.le_of_ble_eq_true rfl)
  have N175 := Fr.snoc X175 N0 LI_gs
  have KC175 : Keep h0 h175 [o1, bs, bl, br] := KC0.wr W175 (Or.inl (List.mem_of_getElem? (i := 1) rfl))
  have go176 : own_S p e below ST T175 (mkF m 121 #[rv o1, .val (.long cm), .second, .val (.long ln), .second, .val (.long lw), .second, .unset] []) := fun tt kt => go174 tt (st175 _ kt)
  have go177 : own_S p e below ST T175 (mkF m 122 #[rv o1, .val (.long cm), .second, .val (.long ln), .second, .val (.long lw), .second, .unset] [(.ref o1)]) := fun tt kt => go176 tt (by
      refine XS.aloadN X175.here hx rfl (hb hby d4_121) rfl rfl ?_
      exact kt)
  have f178 := (LI_lows.other W175 (Or.inl LI_n0))
  obtain ⟨T179, X179, e179, st179⟩ := getF X175 hx hZ hown (host := "") (Or.inl (W 13 rfl)) Via.refl e175 f178 (g := (mkF m 122 #[rv o1, .val (.long cm), .second, .val (.long ln), .second, .val (.long lw), .second, .unset] [(.ref o1)])) rfl rfl (hb hby d4_122)
  have go180 : own_S p e below ST T179 (mkF m 125 #[rv o1, .val (.long cm), .second, .val (.long ln), .second, .val (.long lw), .second, .unset] [(.ref bl)]) := fun tt kt => go177 tt (st179 _ kt)
  have go181 : own_S p e below ST T179 (mkF m 126 #[rv o1, .val (.long cm), .second, .val (.long ln), .second, .val (.long lw), .second, .unset] [(.ref o1), (.ref bl)]) := fun tt kt => go180 tt (by
      refine XS.aloadN X179.here hx rfl (hb hby d4_125) rfl rfl ?_
      exact kt)
  have f182 := (LI_count.other W175 (Or.inl LI_n0))
  obtain ⟨T183, X183, e183, st183⟩ := getF X179 hx hZ hown (host := "") (Or.inl (W 24 rfl)) Via.refl e179 f182 (g := (mkF m 126 #[rv o1, .val (.long cm), .second, .val (.long ln), .second, .val (.long lw), .second, .unset] [(.ref o1), (.ref bl)])) rfl rfl (hb hby d4_126)
  have go184 : own_S p e below ST T183 (mkF m 129 #[rv o1, .val (.long cm), .second, .val (.long ln), .second, .val (.long lw), .second, .unset] [(.int (0 : Int32)), (.ref bl)]) := fun tt kt => go181 tt (st183 _ kt)
  have go185 : own_S p e below ST T183 (mkF m 131 #[rv o1, .val (.long cm), .second, .val (.long ln), .second, .val (.long lw), .second, .unset] [(.long lw), (.int (0 : Int32)), (.ref bl)]) := fun tt kt => go184 tt (by
      refine XS.lload X183.here hx rfl (hb hby d4_129) rfl ?_
      exact kt)
  have f187 := (LI_Vl.other W175 (Ne.symm LI_n3))
  obtain ⟨cl186, Ar186, q186, S186, M186, H186, G186⟩ := id f187
  have hin186 : ¬ ((0 : Int32) < 0 ∨ cl186.slots.size ≤ ((0 : Int32)).toNatClampNeg) := inb_of S186 ⟨by decide, by decide⟩
  obtain ⟨T186, h186, X186, e186, W186, st186⟩ := stJ X183 hx hZ e183 Ar186 (j := (0 : Int32)) hin186 (g := (mkF m 131 #[rv o1, .val (.long cm), .second, .val (.long ln), .second, .val (.long lw), .second, .unset] [(.long lw), (.int (0 : Int32)), (.ref bl)])) rfl rfl (hb hby d4_131)
  have V186 : Arv Z h186 bl kl .long (16 : Int32) [(.long lw), (.long (0 : Int64)), (.long (0 : Int64))] (.long (0 : Int64)) := Arv.set Ar186 q186 S186 M186 H186 G186 rfl W186 0 rfl (Nat.le_of_ble_eq_true rfl)
  have N186 := Fr.snoc X186 N175 LI_gl
  have KC186 : Keep h0 h186 [o1, bs, bl, br] := KC175.wr W186 (Or.inl (List.mem_of_getElem? (i := 2) rfl))
  have go188 : own_S p e below ST T186 (mkF m 132 #[rv o1, .val (.long cm), .second, .val (.long ln), .second, .val (.long lw), .second, .unset] []) := fun tt kt => go185 tt (st186 _ kt)
  have go189 : own_S p e below ST T186 (mkF m 133 #[rv o1, .val (.long cm), .second, .val (.long ln), .second, .val (.long lw), .second, .unset] [(.ref o1)]) := fun tt kt => go188 tt (by
      refine XS.aloadN X186.here hx rfl (hb hby d4_132) rfl rfl ?_
      exact kt)
  have f190 := ((LI_reaches.other W175 (Or.inl LI_n0)).other W186 (Or.inl LI_n1))
  obtain ⟨T191, X191, e191, st191⟩ := getF X186 hx hZ hown (host := "") (Or.inl (W 15 rfl)) Via.refl e186 f190 (g := (mkF m 133 #[rv o1, .val (.long cm), .second, .val (.long ln), .second, .val (.long lw), .second, .unset] [(.ref o1)])) rfl rfl (hb hby d4_133)
  have go192 : own_S p e below ST T191 (mkF m 136 #[rv o1, .val (.long cm), .second, .val (.long ln), .second, .val (.long lw), .second, .unset] [(.ref br)]) := fun tt kt => go189 tt (st191 _ kt)
  have go193 : own_S p e below ST T191 (mkF m 137 #[rv o1, .val (.long cm), .second, .val (.long ln), .second, .val (.long lw), .second, .unset] [(.ref o1), (.ref br)]) := fun tt kt => go192 tt (by
      refine XS.aloadN X191.here hx rfl (hb hby d4_136) rfl rfl ?_
      exact kt)
  have f194 := (f182.other W186 (Or.inl LI_n1))
  obtain ⟨T195, X195, e195, st195⟩ := getF X191 hx hZ hown (host := "") (Or.inl (W 24 rfl)) Via.refl e191 f194 (g := (mkF m 137 #[rv o1, .val (.long cm), .second, .val (.long ln), .second, .val (.long lw), .second, .unset] [(.ref o1), (.ref br)])) rfl rfl (hb hby d4_137)
  have go196 : own_S p e below ST T195 (mkF m 140 #[rv o1, .val (.long cm), .second, .val (.long ln), .second, .val (.long lw), .second, .unset] [(.int (0 : Int32)), (.ref br)]) := fun tt kt => go193 tt (st195 _ kt)
  have go197 : own_S p e below ST T195 (mkF m 141 #[rv o1, .val (.long cm), .second, .val (.long ln), .second, .val (.long lw), .second, .unset] [(.ref o1), (.int (0 : Int32)), (.ref br)]) := fun tt kt => go196 tt (by
      refine XS.aloadN X195.here hx rfl (hb hby d4_140) rfl rfl ?_
      exact kt)
  obtain ⟨T198, X198, e198, st198⟩ := getF X195 hx hZ hown (host := "") (Or.inl (W 24 rfl)) Via.refl e195 f194 (g := (mkF m 141 #[rv o1, .val (.long cm), .second, .val (.long ln), .second, .val (.long lw), .second, .unset] [(.ref o1), (.int (0 : Int32)), (.ref br)])) rfl rfl (hb hby d4_141)
  have go199 : own_S p e below ST T198 (mkF m 144 #[rv o1, .val (.long cm), .second, .val (.long ln), .second, .val (.long lw), .second, .unset] [(.int (0 : Int32)), (.int (0 : Int32)), (.ref br)]) := fun tt kt => go197 tt (st198 _ kt)
  have go200 : own_S p e below ST T198 (mkF m 166 #[rv o1, .val (.long cm), .second, .val (.long ln), .second, .val (.long lw), .second, .unset] [(.long cm), (.int (0 : Int32)), (.ref br)]) := fun tt kt => go199 tt (by
      refine XS.ifNo X198.here hx rfl (hb hby d4_144) rfl ((if0 _ _).trans (teq (by decide : (0 : Int32) = (0 : Int32))).2) ?_
      refine XS.lloadN X198.here hx rfl (hb hby d4_147) rfl ?_
      refine XS.goto X198.here hx rfl (pc0 := 148) (pc' := 166) rfl (hb hby d4_148) (by decide) (by decide) ?_
      exact kt)
  have f202 := ((LI_Vr.other W175 (Ne.symm LI_n4)).other W186 (Ne.symm LI_n5))
  obtain ⟨cl201, Ar201, q201, S201, M201, H201, G201⟩ := id f202
  have hin201 : ¬ ((0 : Int32) < 0 ∨ cl201.slots.size ≤ ((0 : Int32)).toNatClampNeg) := inb_of S201 ⟨by decide, by decide⟩
  obtain ⟨T201, h201, X201, e201, W201, st201⟩ := stJ X198 hx hZ e198 Ar201 (j := (0 : Int32)) hin201 (g := (mkF m 166 #[rv o1, .val (.long cm), .second, .val (.long ln), .second, .val (.long lw), .second, .unset] [(.long cm), (.int (0 : Int32)), (.ref br)])) rfl rfl (hb hby d4_166)
  have V201 : Arv Z h201 br kr .long (16 : Int32) [(.long cm), (.long (0 : Int64)), (.long (0 : Int64))] (.long (0 : Int64)) := Arv.set Ar201 q201 S201 M201 H201 G201 rfl W201 0 rfl (Nat.le_of_ble_eq_true rfl)
  have N201 := Fr.snoc X201 N186 LI_gr
  have KC201 : Keep h0 h201 [o1, bs, bl, br] := KC186.wr W201 (Or.inl (List.mem_of_getElem? (i := 3) rfl))
  have go203 : own_S p e below ST T201 (mkF m 167 #[rv o1, .val (.long cm), .second, .val (.long ln), .second, .val (.long lw), .second, .unset] []) := fun tt kt => go200 tt (st201 _ kt)
  have go204 : own_S p e below ST T201 (mkF m 169 #[rv o1, .val (.long cm), .second, .val (.long ln), .second, .val (.long lw), .second, .unset] [(.ref o1), (.ref o1)]) := fun tt kt => go203 tt (by
      refine XS.aloadN X201.here hx rfl (hb hby d4_167) rfl rfl ?_
      refine XS.dup X201.here hx rfl (hb hby d4_168) rfl rfl ?_
      exact kt)
  have f205 := (f194.other W201 (Or.inl LI_n2))
  obtain ⟨T206, X206, e206, st206⟩ := getF X201 hx hZ hown (host := "") (Or.inl (W 24 rfl)) Via.refl e201 f205 (g := (mkF m 169 #[rv o1, .val (.long cm), .second, .val (.long ln), .second, .val (.long lw), .second, .unset] [(.ref o1), (.ref o1)])) rfl rfl (hb hby d4_169)
  have go207 : own_S p e below ST T206 (mkF m 172 #[rv o1, .val (.long cm), .second, .val (.long ln), .second, .val (.long lw), .second, .unset] [(.int (0 : Int32)), (.ref o1)]) := fun tt kt => go204 tt (st206 _ kt)
  have go208 : own_S p e below ST T206 (mkF m 174 #[rv o1, .val (.long cm), .second, .val (.long ln), .second, .val (.long lw), .second, .unset] [(.int (1 : Int32)), (.ref o1)]) := fun tt kt => go207 tt (by
      refine XS.iconst X206.here hx rfl (hb hby d4_172) ?_
      refine XS.iadd X206.here hx rfl (hb hby d4_173) rfl ?_
      exact kt)
  have f210 := (((LI_E.wr W175).wr W186).wr W201)
  obtain ⟨T209, h209, X209, e209, W209, st209⟩ := putF X206 hx hZ hown (host := "") (Or.inl (W 24 rfl)) Via.refl e206 f205 f210 (Or.inl (W 25 rfl)) (W 2 rfl) (ty := .int) (by decide) rfl rfl (g := (mkF m 174 #[rv o1, .val (.long cm), .second, .val (.long ln), .second, .val (.long lw), .second, .unset] [(.int (1 : Int32)), (.ref o1)])) rfl rfl (hb hby d4_174)
  have Fw209 := f205.same W209
  have N209 := Fr.snoc X209 N201 LI_go
  have go211 : own_S p e below ST T209 (mkF m 177 #[rv o1, .val (.long cm), .second, .val (.long ln), .second, .val (.long lw), .second, .unset] []) := fun tt kt => go208 tt (st209 _ kt)
  have KC209 : Keep h0 h209 [o1, bs, bl, br] := KC201.wr W209 (Or.inl (List.mem_of_getElem? (i := 0) rfl))
  have go212 : own_S p e below ST T209 (mkF m 227 #[rv o1, .val (.long cm), .second, .val (.long ln), .second, .val (.long lw), .second, .unset] [(.ref o1), (.ref o1)]) := fun tt kt => go211 tt (by
      refine XS.goto X209.here hx rfl (pc0 := 177) (pc' := 225) rfl (hb hby d4_177) (by decide) (by decide) ?_
      refine XS.aloadN X209.here hx rfl (hb hby d4_225) rfl rfl ?_
      refine XS.dup X209.here hx rfl (hb hby d4_226) rfl rfl ?_
      exact kt)
  have f213 := ((((LI_end.other W175 (Or.inl LI_n0)).other W186 (Or.inl LI_n1)).other W201 (Or.inl LI_n2)).other W209 (Or.inr (slot_ne (Or.inl (W 18 rfl)) (Or.inl (W 25 rfl)) (by decide) (t := .long) (t' := .int) (by decide) (by decide))))
  obtain ⟨T214, X214, e214, st214⟩ := getF X209 hx hZ hown (host := "") (Or.inl (W 17 rfl)) Via.refl e209 f213 (g := (mkF m 227 #[rv o1, .val (.long cm), .second, .val (.long ln), .second, .val (.long lw), .second, .unset] [(.ref o1), (.ref o1)])) rfl rfl (hb hby d4_227)
  have go215 : own_S p e below ST T214 (mkF m 230 #[rv o1, .val (.long cm), .second, .val (.long ln), .second, .val (.long lw), .second, .unset] [(.long en), (.ref o1)]) := fun tt kt => go212 tt (st214 _ kt)
  have go216 : own_S p e below ST T214 (mkF m 232 #[rv o1, .val (.long cm), .second, .val (.long ln), .second, .val (.long lw), .second, .unset] [(.long (en + ln)), (.ref o1)]) := fun tt kt => go215 tt (by
      refine XS.lloadN X214.here hx rfl (hb hby d4_230) rfl ?_
      refine XS.ladd X214.here hx rfl (hb hby d4_231) rfl ?_
      exact kt)
  have f218 := (f210.wr W209)
  obtain ⟨T217, h217, X217, e217, W217, st217⟩ := putF X214 hx hZ hown (host := "") (Or.inl (W 17 rfl)) Via.refl e214 f213 f218 (Or.inl (W 18 rfl)) (W 2 rfl) (ty := .long) (by decide) rfl rfl (g := (mkF m 232 #[rv o1, .val (.long cm), .second, .val (.long ln), .second, .val (.long lw), .second, .unset] [(.long (en + ln)), (.ref o1)])) rfl rfl (hb hby d4_232)
  have Fw217 := f213.same W217
  have N217 := Fr.snoc X217 N209 LI_go
  have go219 : own_S p e below ST T217 (mkF m 235 #[rv o1, .val (.long cm), .second, .val (.long ln), .second, .val (.long lw), .second, .unset] []) := fun tt kt => go216 tt (st217 _ kt)
  have KC217 : Keep h0 h217 [o1, bs, bl, br] := KC209.wr W217 (Or.inl (List.mem_of_getElem? (i := 0) rfl))
  have go220 : own_S p e below ST T217 (mkF m 237 #[rv o1, .val (.long cm), .second, .val (.long ln), .second, .val (.long lw), .second, .unset] [(.ref o1), (.ref o1)]) := fun tt kt => go219 tt (by
      refine XS.aloadN X217.here hx rfl (hb hby d4_235) rfl rfl ?_
      refine XS.aloadN X217.here hx rfl (hb hby d4_236) rfl rfl ?_
      exact kt)
  have f221 := (((((LI_highest.other W175 (Or.inl LI_n0)).other W186 (Or.inl LI_n1)).other W201 (Or.inl LI_n2)).other W209 (Or.inr (slot_ne (Or.inl (W 32 rfl)) (Or.inl (W 25 rfl)) (by decide) (t := .long) (t' := .int) (by decide) (by decide)))).other W217 (Or.inr (slot_ne (Or.inl (W 32 rfl)) (Or.inl (W 18 rfl)) (by decide) (t := .long) (t' := .long) (by decide) (by decide))))
  obtain ⟨T222, X222, e222, st222⟩ := getF X217 hx hZ hown (host := "") (Or.inl (W 31 rfl)) Via.refl e217 f221 (g := (mkF m 237 #[rv o1, .val (.long cm), .second, .val (.long ln), .second, .val (.long lw), .second, .unset] [(.ref o1), (.ref o1)])) rfl rfl (hb hby d4_237)
  have go223 : own_S p e below ST T222 (mkF m 240 #[rv o1, .val (.long cm), .second, .val (.long ln), .second, .val (.long lw), .second, .unset] [(.long hi), (.ref o1)]) := fun tt kt => go220 tt (st222 _ kt)
  have go224 : own_S p e below ST T222 (mkF m 241 #[rv o1, .val (.long cm), .second, .val (.long ln), .second, .val (.long lw), .second, .unset] [(.long cm), (.long hi), (.ref o1)]) := fun tt kt => go223 tt (by
      refine XS.lloadN X222.here hx rfl (hb hby d4_240) rfl ?_
      exact kt)
  have zs226 := (Nat.le_trans (Nat.le_trans (Nat.le_trans (Nat.le_trans (Nat.le_trans Z0 (Keep.of_wr W175).1) (Keep.of_wr W186).1) (Keep.of_wr W201).1) (Keep.of_wr W209).1) (Keep.of_wr W217).1)
  obtain ⟨_, _, ⟨T225, L225, k225, n225⟩, -, X225, ⟨Lc225, hQ225, l225, y225, z225⟩, st225⟩ := Jvm.LawKit.callS X222 hx (y := (⟨"java/lang/Math", "max", "(JJ)J"⟩ : MethodName)) hown (mvT hZ (W 33 rfl)) (mvT hZ (W 34 rfl)) (mvT hZ (W 35 rfl)) (mvT hZ (W 36 rfl)) (by decide) (backOf (W := 1) (rm5 l Z a0 hw [] hi cm h217 n0 zs226 ) hZ (W 36 rfl) (W 35 rfl) (by decide) (by decide)) (g := (mkF m 241 #[rv o1, .val (.long cm), .second, .val (.long ln), .second, .val (.long lw), .second, .unset] [(.long cm), (.long hi), (.ref o1)])) rfl (by rw [hml]; rfl) (argsL := [(.long hi), (.long cm)]) (rest := [(.ref o1)]) (lenOf pd93 rfl) rfl (by show 2 * 0 + _ ≤ _; exact Nat.le_of_eq rfl) (hb hby d4_241) (fun _ _ => ⟨rfl, e222, (by decide : 0 + 0 ≤ _), (by decide : 0 + 0 ≤ _)⟩)
  dsimp only [Pt.U, Pt.locs, Pt.cells, Pt.slots] at X225 l225 y225 z225 st225 hQ225
  subst l225 y225 z225
  obtain ⟨rfl, Nq225, eh225⟩ := hQ225
  have N225 := Fr.app N217 Nq225
  have go227 : own_S p e below ST T225 (mkF m 244 #[rv o1, .val (.long cm), .second, .val (.long ln), .second, .val (.long lw), .second, .unset] [(.long (own_maxJ hi cm)), (.ref o1)]) := fun tt kt => go224 tt (st225 _ kt)
  have f229 := (f218.wr W217)
  obtain ⟨T228, h228, X228, e228, W228, st228⟩ := putF X225 hx hZ hown (host := "") (Or.inl (W 31 rfl)) Via.refl eh225 f221 f229 (Or.inl (W 32 rfl)) (W 2 rfl) (ty := .long) (by decide) rfl rfl (g := (mkF m 244 #[rv o1, .val (.long cm), .second, .val (.long ln), .second, .val (.long lw), .second, .unset] [(.long (own_maxJ hi cm)), (.ref o1)])) rfl rfl (hb hby d4_244)
  have Fw228 := f221.same W228
  have N228 := Fr.snoc X228 N225 LI_go
  have go230 : own_S p e below ST T228 (mkF m 247 #[rv o1, .val (.long cm), .second, .val (.long ln), .second, .val (.long lw), .second, .unset] []) := fun tt kt => go227 tt (st228 _ kt)
  have KC228 : Keep h0 h228 [o1, bs, bl, br] := KC217.wr W228 (Or.inl (List.mem_of_getElem? (i := 0) rfl))
  have f231 := (f229.wr W228)
  have f232 := ((((((LI_starts.other W175 (Or.inl LI_n0)).other W186 (Or.inl LI_n1)).other W201 (Or.inl LI_n2)).other W209 (Or.inr (slot_ne (Or.inl (W 12 rfl)) (Or.inl (W 25 rfl)) (by decide) (t := (.array .long)) (t' := .int) (by decide) (by decide)))).other W217 (Or.inr (slot_ne (Or.inl (W 12 rfl)) (Or.inl (W 18 rfl)) (by decide) (t := (.array .long)) (t' := .long) (by decide) (by decide)))).other W228 (Or.inr (slot_ne (Or.inl (W 12 rfl)) (Or.inl (W 32 rfl)) (by decide) (t := (.array .long)) (t' := .long) (by decide) (by decide))))
  have f233 := (((((f178.other W186 (Or.inl LI_n1)).other W201 (Or.inl LI_n2)).other W209 (Or.inr (slot_ne (Or.inl (W 14 rfl)) (Or.inl (W 25 rfl)) (by decide) (t := (.array .long)) (t' := .int) (by decide) (by decide)))).other W217 (Or.inr (slot_ne (Or.inl (W 14 rfl)) (Or.inl (W 18 rfl)) (by decide) (t := (.array .long)) (t' := .long) (by decide) (by decide)))).other W228 (Or.inr (slot_ne (Or.inl (W 14 rfl)) (Or.inl (W 32 rfl)) (by decide) (t := (.array .long)) (t' := .long) (by decide) (by decide))))
  have f234 := ((((f190.other W201 (Or.inl LI_n2)).other W209 (Or.inr (slot_ne (Or.inl (W 16 rfl)) (Or.inl (W 25 rfl)) (by decide) (t := (.array .long)) (t' := .int) (by decide) (by decide)))).other W217 (Or.inr (slot_ne (Or.inl (W 16 rfl)) (Or.inl (W 18 rfl)) (by decide) (t := (.array .long)) (t' := .long) (by decide) (by decide)))).other W228 (Or.inr (slot_ne (Or.inl (W 16 rfl)) (Or.inl (W 32 rfl)) (by decide) (t := (.array .long)) (t' := .long) (by decide) (by decide))))
  have f235 := (Fw217.other W228 (Or.inr (slot_ne (Or.inl (W 18 rfl)) (Or.inl (W 32 rfl)) (by decide) (t := .long) (t' := .long) (by decide) (by decide))))
  have f236 := ((Fw209.other W217 (Or.inr (slot_ne (Or.inl (W 25 rfl)) (Or.inl (W 18 rfl)) (by decide) (t := .int) (t' := .long) (by decide) (by decide)))).other W228 (Or.inr (slot_ne (Or.inl (W 25 rfl)) (Or.inl (W 32 rfl)) (by decide) (t := .int) (t' := .long) (by decide) (by decide))))
  have f237 := (((((V175.other W186 LI_n3).other W201 LI_n4).other W209 (Ne.symm LI_n0)).other W217 (Ne.symm LI_n0)).other W228 (Ne.symm LI_n0))
  have f238 := ((((V186.other W201 LI_n5).other W209 (Ne.symm LI_n1)).other W217 (Ne.symm LI_n1)).other W228 (Ne.symm LI_n1))
  have f239 := (((V201.other W209 (Ne.symm LI_n2)).other W217 (Ne.symm LI_n2)).other W228 (Ne.symm LI_n2))
  obtain ⟨fs, hr, hrun, hended, hW, hsame⟩ := X228.leave (v := none) (fun _ => rfl) (hlocks := by first | exact BodyLoose.notSynchronized Bd | exact Body.notSynchronized Bd)
  refine ⟨_, _, pre0 _ (go230 _ ?_), hrun, hended, _, _, rfl, ?_, ⟨_, rfl⟩, hW, hsame.mono (by decide) (by decide)⟩
  · exact X228.returnOut hx Bd.returns (hb hby d4_247) hr
  · show Q4c0 Z o1 bs bl br ks kl kr cm ln en hi h0 n0 _ T228.heap _
    rw [e228]
    exact ⟨lw, rfl, N228, KC228, ⟨f231, f232, f233, f234, f235, f236, Fw228, f237, f238, f239, LI_go, LI_gs, LI_gl, LI_gr, LI_n0, LI_n1, LI_n2, LI_n3, LI_n4, LI_n5⟩⟩
theorem d4_22 : decode prog_214_method_2_code 22 = .ok (.aload_n 0, 1) := by decide +kernel
theorem d4_23 : decode prog_214_method_2_code 23 = .ok (.getfield 19, 3) := by decide +kernel
theorem d4_26 : decode prog_214_method_2_code 26 = .ok (.aload_n 0, 1) := by decide +kernel
theorem d4_27 : decode prog_214_method_2_code 27 = .ok (.getfield 7, 3) := by decide +kernel
theorem d4_30 : decode prog_214_method_2_code 30 = .ok (.aload_n 0, 1) := by decide +kernel
theorem d4_31 : decode prog_214_method_2_code 31 = .ok (.getfield 29, 3) := by decide +kernel
theorem d4_34 : decode prog_214_method_2_code 34 = .ok (.iconst 1, 1) := by decide +kernel
theorem d4_35 : decode prog_214_method_2_code 35 = .ok (.isub, 1) := by decide +kernel
theorem d4_36 : decode prog_214_method_2_code 36 = .ok (.laload, 1) := by decide +kernel
theorem d4_37 : decode prog_214_method_2_code 37 = .ok (.lsub, 1) := by decide +kernel
theorem d4_38 : decode prog_214_method_2_code 38 = .ok (.ldc2_w 33, 3) := by decide +kernel
theorem d4_41 : decode prog_214_method_2_code 41 = .ok (.lcmp, 1) := by decide +kernel
theorem d4_42 : decode prog_214_method_2_code 42 = .ok (.ifCond .lt 138, 3) := by decide +kernel
theorem d4_151 : decode prog_214_method_2_code 151 = .ok (.aload_n 0, 1) := by decide +kernel
theorem d4_152 : decode prog_214_method_2_code 152 = .ok (.getfield 16, 3) := by decide +kernel
theorem d4_155 : decode prog_214_method_2_code 155 = .ok (.aload_n 0, 1) := by decide +kernel
theorem d4_156 : decode prog_214_method_2_code 156 = .ok (.getfield 29, 3) := by decide +kernel
theorem d4_159 : decode prog_214_method_2_code 159 = .ok (.iconst 1, 1) := by decide +kernel
theorem d4_160 : decode prog_214_method_2_code 160 = .ok (.isub, 1) := by decide +kernel
theorem d4_161 : decode prog_214_method_2_code 161 = .ok (.laload, 1) := by decide +kernel
theorem d4_162 : decode prog_214_method_2_code 162 = .ok (.lload_n 1, 1) := by decide +kernel
theorem d4_163 : decode prog_214_method_2_code 163 = .ok (.invokestatic 41, 3) := by decide +kernel
theorem ef4c1 (m : MethodId) (x0 : Addr) (x1 : Int64) (x2 : Int64) : entryFrame m #[(.ref x0), (.long x1), (.long x2)] 8 = mkF m 0 #[.val (.ref x0), .val (.long x1), .second, .val (.long x2), .second, .unset, .unset, .unset] [] := by first | (simp [entryFrame, mkF, argsToLocals, Value.category]; done) | rfl
def Q4c1 (Z : State) (o1 : Addr) (bs : Addr) (bl : Addr) (br : Addr) (ks : ClassId) (kl : ClassId) (kr : ClassId) (cm : Int64) (ln : Int64) (en : Int64) (hi : Int64) (s0 : Int64) (w0 : Int64) (r0 : Int64) (h0 : Heap) (n0 : Nat) (v : Option Value) (h : Heap) (L : List Loc) : Prop := ∃ lw : Int64, v = none ∧ Fr n0 L ∧ Keep h0 h [o1, bs, bl, br] ∧ own_LI Z h n0 o1 bs bl br ks kl kr [(.long s0), (.long en), (.long (0 : Int64))] [(.long w0), (.long lw), (.long (0 : Int64))] [(.long r0), (.long (own_maxJ r0 cm)), (.long (0 : Int64))] (en + ln) (2 : Int32) (own_maxJ hi cm)
set_option maxRecDepth 65536 in
set_option maxHeartbeats 40000000 in
theorem rm4c1 (l : Launch) (Z : State) (a0 : Array Value) (hw : ∀ d ∈ tables_1, d.before a0 Z = true) (ws : List Jvm.Cond) (o1 : Addr) (bs : Addr) (bl : Addr) (br : Addr) (ks : ClassId) (kl : ClassId) (kr : ClassId) (cm : Int64) (ln : Int64) (en : Int64) (hi : Int64) (s0 : Int64) (w0 : Int64) (r0 : Int64) (h0 : Heap) (n0 : Nat) (Z0 : n0 ≤ h0.size) (LI : own_LI Z h0 n0 o1 bs bl br ks kl kr [(.long s0), (.long (0 : Int64)), (.long (0 : Int64))] [(.long w0), (.long (0 : Int64)), (.long (0 : Int64))] [(.long r0), (.long (0 : Int64)), (.long (0 : Int64))] en (1 : Int32) hi) (hm : ¬ (lcmpW (en - s0) (65536 : Int64) < (0 : Int32))) :
    MetFree l (⟨"com/example/altocommit/altocommit/store/LogIndex", "add", "(JJ)V"⟩ : MethodName) (head1 (Jvm.Cond.code (⟨"com/example/altocommit/altocommit/store/LogIndex", "add", "(JJ)V"⟩ : MethodName) prog_214_method_2_code 8 none :: ws) ({ frames := 1, cells := 0, slots := 0, locals := 17 } : Room)) (fun aa UU => aa = #[(.ref o1), (.long cm), (.long ln)] ∧ Z.Warmed39 UU.vm ∧ UU.heap = h0) (fun _ _ _ _ _ => True) (fun _ UU oo UU' => ∃ vv LL, oo = .returned vv ∧ Q4c1 Z o1 bs bl br ks kl kr cm ln en hi s0 w0 r0 h0 n0 vv UU'.heap LL ∧ FrameEnd UU oo UU' LL ({ frames := 1, cells := 0, slots := 0, locals := 17 } : Room).cells ({ frames := 1, cells := 0, slots := 0, locals := 17 } : Room).slots) := by
  have W : ∀ {d : Jvm.Cond} (i : Nat), tables_1[i]? = some d → d.before a0 Z = true := fun i h => hw _ (List.mem_of_getElem? h)
  refine MetFree.of_bodySF (plainFor_of_name pn16) hisR ?_
  intro p e s m args below meth c s₁ Bd hml0 hP hK
  obtain ⟨rfl, hZ, hh⟩ := hP
  have hx := Bd.exec
  have hby := Bd.bytes
  have hml : c.maxLocals = 8 := hml0
  have hown : s.vm.findClass "com/example/altocommit/altocommit/store/LogIndex" = some m.cls := findClass_of_methodNamed Bd.named
  have hnm := (name_of_methodNamed Bd.named Bd.method).1
  have X0 : Stand p l e ({ frames := 1, cells := 0, slots := 0, locals := 17 } : Room) s m #[(.ref o1), (.long cm), (.long ln)] below meth c s₁ [] 0 0 := Stand.of_body Bd
  have e0 : s₁.heap = h0 := by rw [← hh, Bd.state]; rfl
  have N0 := Fr.nil n0
  have pre0 : ∀ tt, Steps p.tables e below (s₁.setTop (mkF m 0 #[rv o1, .val (.long cm), .second, .val (.long ln), .second, .unset, .unset, .unset] [])) tt → Steps p.tables e below (s₁.setTop (entryFrame m #[(.ref o1), (.long cm), (.long ln)] 8)) tt := fun tt kt => castTop (ef4c1 m o1 cm ln) kt
  obtain ⟨ST, hST⟩ : ∃ z : State, z = s₁.setTop (mkF m 0 #[rv o1, .val (.long cm), .second, .val (.long ln), .second, .unset, .unset, .unset] []) := ⟨_, rfl⟩
  rw [← hST] at pre0
  obtain ⟨LI_E, LI_starts, LI_lows, LI_reaches, LI_end, LI_count, LI_highest, LI_Vs, LI_Vl, LI_Vr, LI_go, LI_gs, LI_gl, LI_gr, LI_n0, LI_n1, LI_n2, LI_n3, LI_n4, LI_n5⟩ := LI
  have KC0 : Keep h0 h0 [o1, bs, bl, br] := Keep.refl h0 [o1, bs, bl, br]
  have go240 : own_S p e below ST s₁ (mkF m 3 #[rv o1, .val (.long cm), .second, .val (.long ln), .second, .unset, .unset, .unset] [(.int (lcmpW cm (0 : Int64)))]) := fun tt kt => (by
      rw [hST]
      show Steps p.tables e below (s₁.setTop (mkF m 0 #[rv o1, .val (.long cm), .second, .val (.long ln), .second, .unset, .unset, .unset] [])) _
      refine XS.lloadN X0.here hx rfl (hb hby d4_0) rfl ?_
      refine XS.lconst X0.here hx rfl (hb hby d4_1) ?_
      refine XS.lcmp X0.here hx rfl (hb hby d4_2) rfl ?_
      exact kt)
  obtain ⟨lw, hlw, sg241⟩ : ∃ (lw : Int64), lw = (if (lcmpW cm (0 : Int64)) = (0 : Int32) then (9223372036854775807 : Int64) else cm) ∧ ∀ tt, Steps p.tables e below (s₁.setTop (mkF m 13 #[rv o1, .val (.long cm), .second, .val (.long ln), .second, .unset, .unset, .unset] [(.long lw)])) tt → Steps p.tables e below (s₁.setTop (mkF m 3 #[rv o1, .val (.long cm), .second, .val (.long ln), .second, .unset, .unset, .unset] [(.int (lcmpW cm (0 : Int64)))])) tt := by
    by_cases hd3_0 : (lcmpW cm (0 : Int64)) = (0 : Int32)
    · refine ⟨_, (if_pos hd3_0).symm, fun tt kt => ?_⟩
      show Steps p.tables e below (s₁.setTop (mkF m 3 #[rv o1, .val (.long cm), .second, .val (.long ln), .second, .unset, .unset, .unset] [(.int (lcmpW cm (0 : Int64)))])) _
      refine XS.ifNo X0.here hx rfl (hb hby d4_3) rfl ((if0 _ _).trans (teq hd3_0).2) ?_
      refine X0.ldc2Long hx hown (mvT hZ (W 41 rfl)) (g := (mkF m 6 #[rv o1, .val (.long cm), .second, .val (.long ln), .second, .unset, .unset, .unset] [])) rfl (hb hby d4_6) _ ?_
      refine XS.goto X0.here hx rfl (pc0 := 9) (pc' := 13) rfl (hb hby d4_9) (by decide) (by decide) ?_
      exact kt
    · refine ⟨_, (if_neg hd3_0).symm, fun tt kt => ?_⟩
      show Steps p.tables e below (s₁.setTop (mkF m 3 #[rv o1, .val (.long cm), .second, .val (.long ln), .second, .unset, .unset, .unset] [(.int (lcmpW cm (0 : Int64)))])) _
      refine XS.ifYes X0.here hx rfl (pc0 := 3) (pc' := 12) rfl (hb hby d4_3) rfl ((if0 _ _).trans (feq hd3_0).2) (by decide) (by decide) ?_
      refine XS.lloadN X0.here hx rfl (hb hby d4_12) rfl ?_
      exact kt
  have go242 : own_S p e below ST s₁ (mkF m 13 #[rv o1, .val (.long cm), .second, .val (.long ln), .second, .unset, .unset, .unset] [(.long lw)]) := fun tt kt => go240 tt (sg241 _ kt)
  have go243 : own_S p e below ST s₁ (mkF m 16 #[rv o1, .val (.long cm), .second, .val (.long ln), .second, .val (.long lw), .second, .unset] [(.ref o1)]) := fun tt kt => go242 tt (by
      refine XS.lstore X0.here hx rfl (hb hby d4_13) rfl (l' := #[rv o1, .val (.long cm), .second, .val (.long ln), .second, .val (.long lw), .second, .unset]) rfl ?_
      refine XS.aloadN X0.here hx rfl (hb hby d4_15) rfl rfl ?_
      exact kt)
  obtain ⟨T244, X244, e244, st244⟩ := getF X0 hx hZ hown (host := "") (Or.inl (W 24 rfl)) Via.refl e0 LI_count (g := (mkF m 16 #[rv o1, .val (.long cm), .second, .val (.long ln), .second, .val (.long lw), .second, .unset] [(.ref o1)])) rfl rfl (hb hby d4_16)
  have go245 : own_S p e below ST T244 (mkF m 19 #[rv o1, .val (.long cm), .second, .val (.long ln), .second, .val (.long lw), .second, .unset] [(.int (1 : Int32))]) := fun tt kt => go243 tt (st244 _ kt)
  have go246 : own_S p e below ST T244 (mkF m 23 #[rv o1, .val (.long cm), .second, .val (.long ln), .second, .val (.long lw), .second, .unset] [(.ref o1)]) := fun tt kt => go245 tt (by
      refine XS.ifNo X244.here hx rfl (hb hby d4_19) rfl ((if0 _ _).trans (feq (by decide : ¬ ((1 : Int32) = (0 : Int32)))).1) ?_
      refine XS.aloadN X244.here hx rfl (hb hby d4_22) rfl rfl ?_
      exact kt)
  obtain ⟨T247, X247, e247, st247⟩ := getF X244 hx hZ hown (host := "") (Or.inl (W 17 rfl)) Via.refl e244 LI_end (g := (mkF m 23 #[rv o1, .val (.long cm), .second, .val (.long ln), .second, .val (.long lw), .second, .unset] [(.ref o1)])) rfl rfl (hb hby d4_23)
  have go248 : own_S p e below ST T247 (mkF m 26 #[rv o1, .val (.long cm), .second, .val (.long ln), .second, .val (.long lw), .second, .unset] [(.long en)]) := fun tt kt => go246 tt (st247 _ kt)
  have go249 : own_S p e below ST T247 (mkF m 27 #[rv o1, .val (.long cm), .second, .val (.long ln), .second, .val (.long lw), .second, .unset] [(.ref o1), (.long en)]) := fun tt kt => go248 tt (by
      refine XS.aloadN X247.here hx rfl (hb hby d4_26) rfl rfl ?_
      exact kt)
  obtain ⟨T250, X250, e250, st250⟩ := getF X247 hx hZ hown (host := "") (Or.inl (W 11 rfl)) Via.refl e247 LI_starts (g := (mkF m 27 #[rv o1, .val (.long cm), .second, .val (.long ln), .second, .val (.long lw), .second, .unset] [(.ref o1), (.long en)])) rfl rfl (hb hby d4_27)
  have go251 : own_S p e below ST T250 (mkF m 30 #[rv o1, .val (.long cm), .second, .val (.long ln), .second, .val (.long lw), .second, .unset] [(.ref bs), (.long en)]) := fun tt kt => go249 tt (st250 _ kt)
  have go252 : own_S p e below ST T250 (mkF m 31 #[rv o1, .val (.long cm), .second, .val (.long ln), .second, .val (.long lw), .second, .unset] [(.ref o1), (.ref bs), (.long en)]) := fun tt kt => go251 tt (by
      refine XS.aloadN X250.here hx rfl (hb hby d4_30) rfl rfl ?_
      exact kt)
  obtain ⟨T253, X253, e253, st253⟩ := getF X250 hx hZ hown (host := "") (Or.inl (W 24 rfl)) Via.refl e250 LI_count (g := (mkF m 31 #[rv o1, .val (.long cm), .second, .val (.long ln), .second, .val (.long lw), .second, .unset] [(.ref o1), (.ref bs), (.long en)])) rfl rfl (hb hby d4_31)
  have go254 : own_S p e below ST T253 (mkF m 34 #[rv o1, .val (.long cm), .second, .val (.long ln), .second, .val (.long lw), .second, .unset] [(.int (1 : Int32)), (.ref bs), (.long en)]) := fun tt kt => go252 tt (st253 _ kt)
  have go255 : own_S p e below ST T253 (mkF m 36 #[rv o1, .val (.long cm), .second, .val (.long ln), .second, .val (.long lw), .second, .unset] [(.int (0 : Int32)), (.ref bs), (.long en)]) := fun tt kt => go254 tt (by
      refine XS.iconst X253.here hx rfl (hb hby d4_34) ?_
      refine XS.isub X253.here hx rfl (hb hby d4_35) rfl ?_
      exact kt)
  obtain ⟨cl256, Ar256, q256, S256, M256, H256, G256⟩ := id LI_Vs
  have hin256 : ¬ ((0 : Int32) < 0 ∨ cl256.slots.size ≤ ((0 : Int32)).toNatClampNeg) := inb_of S256 ⟨by decide, by decide⟩
  have hat256 : cl256.slots[((0 : Int32)).toNatClampNeg]? = some (.long s0) := H256.at hin256 rfl
  have go257 : own_S p e below ST T253 (mkF m 37 #[rv o1, .val (.long cm), .second, .val (.long ln), .second, .val (.long lw), .second, .unset] [(.long s0), (.long en)]) := fun tt kt => go255 tt (by
      refine X253.laload hx (j := (0 : Int32)) (v := (.long s0)) (by rw [e253]; exact Ar256.1) (State.isArrayOf_alike hZ.alike Ar256.2.1) Ar256.2.2 hin256 hat256 (g := (mkF m 36 #[rv o1, .val (.long cm), .second, .val (.long ln), .second, .val (.long lw), .second, .unset] [(.int (0 : Int32)), (.ref bs), (.long en)])) rfl rfl (hb hby d4_36) _ ?_
      exact kt)
  have go258 : own_S p e below ST T253 (mkF m 42 #[rv o1, .val (.long cm), .second, .val (.long ln), .second, .val (.long lw), .second, .unset] [(.int (lcmpW (en - s0) (65536 : Int64)))]) := fun tt kt => go257 tt (by
      refine XS.lsub X253.here hx rfl (hb hby d4_37) rfl ?_
      refine X253.ldc2Long hx hown (mvT hZ (W 37 rfl)) (g := (mkF m 38 #[rv o1, .val (.long cm), .second, .val (.long ln), .second, .val (.long lw), .second, .unset] [(.long (en - s0))])) rfl (hb hby d4_38) _ ?_
      refine XS.lcmp X253.here hx rfl (hb hby d4_41) rfl ?_
      exact kt)
  have go259 : own_S p e below ST T253 (mkF m 46 #[rv o1, .val (.long cm), .second, .val (.long ln), .second, .val (.long lw), .second, .unset] [(.ref o1)]) := fun tt kt => go258 tt (by
      refine XS.ifNo X253.here hx rfl (hb hby d4_42) rfl ((if0 _ _).trans (flt hm).1) ?_
      refine XS.aloadN X253.here hx rfl (hb hby d4_45) rfl rfl ?_
      exact kt)
  obtain ⟨T260, X260, e260, st260⟩ := getF X253 hx hZ hown (host := "") (Or.inl (W 24 rfl)) Via.refl e253 LI_count (g := (mkF m 46 #[rv o1, .val (.long cm), .second, .val (.long ln), .second, .val (.long lw), .second, .unset] [(.ref o1)])) rfl rfl (hb hby d4_46)
  have go261 : own_S p e below ST T260 (mkF m 49 #[rv o1, .val (.long cm), .second, .val (.long ln), .second, .val (.long lw), .second, .unset] [(.int (1 : Int32))]) := fun tt kt => go259 tt (st260 _ kt)
  have go262 : own_S p e below ST T260 (mkF m 50 #[rv o1, .val (.long cm), .second, .val (.long ln), .second, .val (.long lw), .second, .unset] [(.ref o1), (.int (1 : Int32))]) := fun tt kt => go261 tt (by
      refine XS.aloadN X260.here hx rfl (hb hby d4_49) rfl rfl ?_
      exact kt)
  obtain ⟨T263, X263, e263, st263⟩ := getF X260 hx hZ hown (host := "") (Or.inl (W 11 rfl)) Via.refl e260 LI_starts (g := (mkF m 50 #[rv o1, .val (.long cm), .second, .val (.long ln), .second, .val (.long lw), .second, .unset] [(.ref o1), (.int (1 : Int32))])) rfl rfl (hb hby d4_50)
  have go264 : own_S p e below ST T263 (mkF m 53 #[rv o1, .val (.long cm), .second, .val (.long ln), .second, .val (.long lw), .second, .unset] [(.ref bs), (.int (1 : Int32))]) := fun tt kt => go262 tt (st263 _ kt)
  obtain ⟨cl265, Ar265, q265, S265, M265, H265, G265⟩ := id LI_Vs
  have go266 : own_S p e below ST T263 (mkF m 54 #[rv o1, .val (.long cm), .second, .val (.long ln), .second, .val (.long lw), .second, .unset] [(.int (16 : Int32)), (.int (1 : Int32))]) := fun tt kt => go264 tt (by
      refine X263.arraylength hx (by rw [e263]; exact Ar265.1) (State.isArrayOf_alike hZ.alike Ar265.2.1) (g := (mkF m 53 #[rv o1, .val (.long cm), .second, .val (.long ln), .second, .val (.long lw), .second, .unset] [(.ref bs), (.int (1 : Int32))])) rfl rfl (hb hby d4_53) _ ?_
      rw [len_of S265 M265]
      exact kt)
  have go267 : own_S p e below ST T263 (mkF m 109 #[rv o1, .val (.long cm), .second, .val (.long ln), .second, .val (.long lw), .second, .unset] [(.ref o1)]) := fun tt kt => go266 tt (by
      refine XS.icmpYes X263.here hx rfl (pc0 := 54) (pc' := 108) rfl (hb hby d4_54) rfl (feq (by decide : ¬ ((1 : Int32) = (16 : Int32)))).2 (by decide) (by decide) ?_
      refine XS.aloadN X263.here hx rfl (hb hby d4_108) rfl rfl ?_
      exact kt)
  obtain ⟨T268, X268, e268, st268⟩ := getF X263 hx hZ hown (host := "") (Or.inl (W 11 rfl)) Via.refl e263 LI_starts (g := (mkF m 109 #[rv o1, .val (.long cm), .second, .val (.long ln), .second, .val (.long lw), .second, .unset] [(.ref o1)])) rfl rfl (hb hby d4_109)
  have go269 : own_S p e below ST T268 (mkF m 112 #[rv o1, .val (.long cm), .second, .val (.long ln), .second, .val (.long lw), .second, .unset] [(.ref bs)]) := fun tt kt => go267 tt (st268 _ kt)
  have go270 : own_S p e below ST T268 (mkF m 113 #[rv o1, .val (.long cm), .second, .val (.long ln), .second, .val (.long lw), .second, .unset] [(.ref o1), (.ref bs)]) := fun tt kt => go269 tt (by
      refine XS.aloadN X268.here hx rfl (hb hby d4_112) rfl rfl ?_
      exact kt)
  obtain ⟨T271, X271, e271, st271⟩ := getF X268 hx hZ hown (host := "") (Or.inl (W 24 rfl)) Via.refl e268 LI_count (g := (mkF m 113 #[rv o1, .val (.long cm), .second, .val (.long ln), .second, .val (.long lw), .second, .unset] [(.ref o1), (.ref bs)])) rfl rfl (hb hby d4_113)
  have go272 : own_S p e below ST T271 (mkF m 116 #[rv o1, .val (.long cm), .second, .val (.long ln), .second, .val (.long lw), .second, .unset] [(.int (1 : Int32)), (.ref bs)]) := fun tt kt => go270 tt (st271 _ kt)
  have go273 : own_S p e below ST T271 (mkF m 117 #[rv o1, .val (.long cm), .second, .val (.long ln), .second, .val (.long lw), .second, .unset] [(.ref o1), (.int (1 : Int32)), (.ref bs)]) := fun tt kt => go272 tt (by
      refine XS.aloadN X271.here hx rfl (hb hby d4_116) rfl rfl ?_
      exact kt)
  obtain ⟨T274, X274, e274, st274⟩ := getF X271 hx hZ hown (host := "") (Or.inl (W 17 rfl)) Via.refl e271 LI_end (g := (mkF m 117 #[rv o1, .val (.long cm), .second, .val (.long ln), .second, .val (.long lw), .second, .unset] [(.ref o1), (.int (1 : Int32)), (.ref bs)])) rfl rfl (hb hby d4_117)
  have go275 : own_S p e below ST T274 (mkF m 120 #[rv o1, .val (.long cm), .second, .val (.long ln), .second, .val (.long lw), .second, .unset] [(.long en), (.int (1 : Int32)), (.ref bs)]) := fun tt kt => go273 tt (st274 _ kt)
  obtain ⟨cl276, Ar276, q276, S276, M276, H276, G276⟩ := id LI_Vs
  have hin276 : ¬ ((1 : Int32) < 0 ∨ cl276.slots.size ≤ ((1 : Int32)).toNatClampNeg) := inb_of S276 ⟨by decide, by decide⟩
  obtain ⟨T276, h276, X276, e276, W276, st276⟩ := stJ X274 hx hZ e274 Ar276 (j := (1 : Int32)) hin276 (g := (mkF m 120 #[rv o1, .val (.long cm), .second, .val (.long ln), .second, .val (.long lw), .second, .unset] [(.long en), (.int (1 : Int32)), (.ref bs)])) rfl rfl (hb hby d4_120)
  have V276 : Arv Z h276 bs ks .long (16 : Int32) [(.long s0), (.long en), (.long (0 : Int64))] (.long (0 : Int64)) := Arv.set Ar276 q276 S276 M276 H276 G276 rfl W276 1 rfl (Nat.le_of_ble_eq_true rfl)
  have N276 := Fr.snoc X276 N0 LI_gs
  have KC276 : Keep h0 h276 [o1, bs, bl, br] := KC0.wr W276 (Or.inl (List.mem_of_getElem? (i := 1) rfl))
  have go277 : own_S p e below ST T276 (mkF m 121 #[rv o1, .val (.long cm), .second, .val (.long ln), .second, .val (.long lw), .second, .unset] []) := fun tt kt => go275 tt (st276 _ kt)
  have go278 : own_S p e below ST T276 (mkF m 122 #[rv o1, .val (.long cm), .second, .val (.long ln), .second, .val (.long lw), .second, .unset] [(.ref o1)]) := fun tt kt => go277 tt (by
      refine XS.aloadN X276.here hx rfl (hb hby d4_121) rfl rfl ?_
      exact kt)
  have f279 := (LI_lows.other W276 (Or.inl LI_n0))
  obtain ⟨T280, X280, e280, st280⟩ := getF X276 hx hZ hown (host := "") (Or.inl (W 13 rfl)) Via.refl e276 f279 (g := (mkF m 122 #[rv o1, .val (.long cm), .second, .val (.long ln), .second, .val (.long lw), .second, .unset] [(.ref o1)])) rfl rfl (hb hby d4_122)
  have go281 : own_S p e below ST T280 (mkF m 125 #[rv o1, .val (.long cm), .second, .val (.long ln), .second, .val (.long lw), .second, .unset] [(.ref bl)]) := fun tt kt => go278 tt (st280 _ kt)
  have go282 : own_S p e below ST T280 (mkF m 126 #[rv o1, .val (.long cm), .second, .val (.long ln), .second, .val (.long lw), .second, .unset] [(.ref o1), (.ref bl)]) := fun tt kt => go281 tt (by
      refine XS.aloadN X280.here hx rfl (hb hby d4_125) rfl rfl ?_
      exact kt)
  have f283 := (LI_count.other W276 (Or.inl LI_n0))
  obtain ⟨T284, X284, e284, st284⟩ := getF X280 hx hZ hown (host := "") (Or.inl (W 24 rfl)) Via.refl e280 f283 (g := (mkF m 126 #[rv o1, .val (.long cm), .second, .val (.long ln), .second, .val (.long lw), .second, .unset] [(.ref o1), (.ref bl)])) rfl rfl (hb hby d4_126)
  have go285 : own_S p e below ST T284 (mkF m 129 #[rv o1, .val (.long cm), .second, .val (.long ln), .second, .val (.long lw), .second, .unset] [(.int (1 : Int32)), (.ref bl)]) := fun tt kt => go282 tt (st284 _ kt)
  have go286 : own_S p e below ST T284 (mkF m 131 #[rv o1, .val (.long cm), .second, .val (.long ln), .second, .val (.long lw), .second, .unset] [(.long lw), (.int (1 : Int32)), (.ref bl)]) := fun tt kt => go285 tt (by
      refine XS.lload X284.here hx rfl (hb hby d4_129) rfl ?_
      exact kt)
  have f288 := (LI_Vl.other W276 (Ne.symm LI_n3))
  obtain ⟨cl287, Ar287, q287, S287, M287, H287, G287⟩ := id f288
  have hin287 : ¬ ((1 : Int32) < 0 ∨ cl287.slots.size ≤ ((1 : Int32)).toNatClampNeg) := inb_of S287 ⟨by decide, by decide⟩
  obtain ⟨T287, h287, X287, e287, W287, st287⟩ := stJ X284 hx hZ e284 Ar287 (j := (1 : Int32)) hin287 (g := (mkF m 131 #[rv o1, .val (.long cm), .second, .val (.long ln), .second, .val (.long lw), .second, .unset] [(.long lw), (.int (1 : Int32)), (.ref bl)])) rfl rfl (hb hby d4_131)
  have V287 : Arv Z h287 bl kl .long (16 : Int32) [(.long w0), (.long lw), (.long (0 : Int64))] (.long (0 : Int64)) := Arv.set Ar287 q287 S287 M287 H287 G287 rfl W287 1 rfl (Nat.le_of_ble_eq_true rfl)
  have N287 := Fr.snoc X287 N276 LI_gl
  have KC287 : Keep h0 h287 [o1, bs, bl, br] := KC276.wr W287 (Or.inl (List.mem_of_getElem? (i := 2) rfl))
  have go289 : own_S p e below ST T287 (mkF m 132 #[rv o1, .val (.long cm), .second, .val (.long ln), .second, .val (.long lw), .second, .unset] []) := fun tt kt => go286 tt (st287 _ kt)
  have go290 : own_S p e below ST T287 (mkF m 133 #[rv o1, .val (.long cm), .second, .val (.long ln), .second, .val (.long lw), .second, .unset] [(.ref o1)]) := fun tt kt => go289 tt (by
      refine XS.aloadN X287.here hx rfl (hb hby d4_132) rfl rfl ?_
      exact kt)
  have f291 := ((LI_reaches.other W276 (Or.inl LI_n0)).other W287 (Or.inl LI_n1))
  obtain ⟨T292, X292, e292, st292⟩ := getF X287 hx hZ hown (host := "") (Or.inl (W 15 rfl)) Via.refl e287 f291 (g := (mkF m 133 #[rv o1, .val (.long cm), .second, .val (.long ln), .second, .val (.long lw), .second, .unset] [(.ref o1)])) rfl rfl (hb hby d4_133)
  have go293 : own_S p e below ST T292 (mkF m 136 #[rv o1, .val (.long cm), .second, .val (.long ln), .second, .val (.long lw), .second, .unset] [(.ref br)]) := fun tt kt => go290 tt (st292 _ kt)
  have go294 : own_S p e below ST T292 (mkF m 137 #[rv o1, .val (.long cm), .second, .val (.long ln), .second, .val (.long lw), .second, .unset] [(.ref o1), (.ref br)]) := fun tt kt => go293 tt (by
      refine XS.aloadN X292.here hx rfl (hb hby d4_136) rfl rfl ?_
      exact kt)
  have f295 := (f283.other W287 (Or.inl LI_n1))
  obtain ⟨T296, X296, e296, st296⟩ := getF X292 hx hZ hown (host := "") (Or.inl (W 24 rfl)) Via.refl e292 f295 (g := (mkF m 137 #[rv o1, .val (.long cm), .second, .val (.long ln), .second, .val (.long lw), .second, .unset] [(.ref o1), (.ref br)])) rfl rfl (hb hby d4_137)
  have go297 : own_S p e below ST T296 (mkF m 140 #[rv o1, .val (.long cm), .second, .val (.long ln), .second, .val (.long lw), .second, .unset] [(.int (1 : Int32)), (.ref br)]) := fun tt kt => go294 tt (st296 _ kt)
  have go298 : own_S p e below ST T296 (mkF m 141 #[rv o1, .val (.long cm), .second, .val (.long ln), .second, .val (.long lw), .second, .unset] [(.ref o1), (.int (1 : Int32)), (.ref br)]) := fun tt kt => go297 tt (by
      refine XS.aloadN X296.here hx rfl (hb hby d4_140) rfl rfl ?_
      exact kt)
  obtain ⟨T299, X299, e299, st299⟩ := getF X296 hx hZ hown (host := "") (Or.inl (W 24 rfl)) Via.refl e296 f295 (g := (mkF m 141 #[rv o1, .val (.long cm), .second, .val (.long ln), .second, .val (.long lw), .second, .unset] [(.ref o1), (.int (1 : Int32)), (.ref br)])) rfl rfl (hb hby d4_141)
  have go300 : own_S p e below ST T299 (mkF m 144 #[rv o1, .val (.long cm), .second, .val (.long ln), .second, .val (.long lw), .second, .unset] [(.int (1 : Int32)), (.int (1 : Int32)), (.ref br)]) := fun tt kt => go298 tt (st299 _ kt)
  have go301 : own_S p e below ST T299 (mkF m 152 #[rv o1, .val (.long cm), .second, .val (.long ln), .second, .val (.long lw), .second, .unset] [(.ref o1), (.int (1 : Int32)), (.ref br)]) := fun tt kt => go300 tt (by
      refine XS.ifYes X299.here hx rfl (pc0 := 144) (pc' := 151) rfl (hb hby d4_144) rfl ((if0 _ _).trans (feq (by decide : ¬ ((1 : Int32) = (0 : Int32)))).2) (by decide) (by decide) ?_
      refine XS.aloadN X299.here hx rfl (hb hby d4_151) rfl rfl ?_
      exact kt)
  obtain ⟨T302, X302, e302, st302⟩ := getF X299 hx hZ hown (host := "") (Or.inl (W 15 rfl)) Via.refl e299 f291 (g := (mkF m 152 #[rv o1, .val (.long cm), .second, .val (.long ln), .second, .val (.long lw), .second, .unset] [(.ref o1), (.int (1 : Int32)), (.ref br)])) rfl rfl (hb hby d4_152)
  have go303 : own_S p e below ST T302 (mkF m 155 #[rv o1, .val (.long cm), .second, .val (.long ln), .second, .val (.long lw), .second, .unset] [(.ref br), (.int (1 : Int32)), (.ref br)]) := fun tt kt => go301 tt (st302 _ kt)
  have go304 : own_S p e below ST T302 (mkF m 156 #[rv o1, .val (.long cm), .second, .val (.long ln), .second, .val (.long lw), .second, .unset] [(.ref o1), (.ref br), (.int (1 : Int32)), (.ref br)]) := fun tt kt => go303 tt (by
      refine XS.aloadN X302.here hx rfl (hb hby d4_155) rfl rfl ?_
      exact kt)
  obtain ⟨T305, X305, e305, st305⟩ := getF X302 hx hZ hown (host := "") (Or.inl (W 24 rfl)) Via.refl e302 f295 (g := (mkF m 156 #[rv o1, .val (.long cm), .second, .val (.long ln), .second, .val (.long lw), .second, .unset] [(.ref o1), (.ref br), (.int (1 : Int32)), (.ref br)])) rfl rfl (hb hby d4_156)
  have go306 : own_S p e below ST T305 (mkF m 159 #[rv o1, .val (.long cm), .second, .val (.long ln), .second, .val (.long lw), .second, .unset] [(.int (1 : Int32)), (.ref br), (.int (1 : Int32)), (.ref br)]) := fun tt kt => go304 tt (st305 _ kt)
  have go307 : own_S p e below ST T305 (mkF m 161 #[rv o1, .val (.long cm), .second, .val (.long ln), .second, .val (.long lw), .second, .unset] [(.int (0 : Int32)), (.ref br), (.int (1 : Int32)), (.ref br)]) := fun tt kt => go306 tt (by
      refine XS.iconst X305.here hx rfl (hb hby d4_159) ?_
      refine XS.isub X305.here hx rfl (hb hby d4_160) rfl ?_
      exact kt)
  have f309 := ((LI_Vr.other W276 (Ne.symm LI_n4)).other W287 (Ne.symm LI_n5))
  obtain ⟨cl308, Ar308, q308, S308, M308, H308, G308⟩ := id f309
  have hin308 : ¬ ((0 : Int32) < 0 ∨ cl308.slots.size ≤ ((0 : Int32)).toNatClampNeg) := inb_of S308 ⟨by decide, by decide⟩
  have hat308 : cl308.slots[((0 : Int32)).toNatClampNeg]? = some (.long r0) := H308.at hin308 rfl
  have go310 : own_S p e below ST T305 (mkF m 162 #[rv o1, .val (.long cm), .second, .val (.long ln), .second, .val (.long lw), .second, .unset] [(.long r0), (.int (1 : Int32)), (.ref br)]) := fun tt kt => go307 tt (by
      refine X305.laload hx (j := (0 : Int32)) (v := (.long r0)) (by rw [e305]; exact Ar308.1) (State.isArrayOf_alike hZ.alike Ar308.2.1) Ar308.2.2 hin308 hat308 (g := (mkF m 161 #[rv o1, .val (.long cm), .second, .val (.long ln), .second, .val (.long lw), .second, .unset] [(.int (0 : Int32)), (.ref br), (.int (1 : Int32)), (.ref br)])) rfl rfl (hb hby d4_161) _ ?_
      exact kt)
  have go311 : own_S p e below ST T305 (mkF m 163 #[rv o1, .val (.long cm), .second, .val (.long ln), .second, .val (.long lw), .second, .unset] [(.long cm), (.long r0), (.int (1 : Int32)), (.ref br)]) := fun tt kt => go310 tt (by
      refine XS.lloadN X305.here hx rfl (hb hby d4_162) rfl ?_
      exact kt)
  have zs313 := (Nat.le_trans (Nat.le_trans Z0 (Keep.of_wr W276).1) (Keep.of_wr W287).1)
  obtain ⟨_, _, ⟨T312, L312, k312, n312⟩, -, X312, ⟨Lc312, hQ312, l312, y312, z312⟩, st312⟩ := Jvm.LawKit.callS X305 hx (y := (⟨"java/lang/Math", "max", "(JJ)J"⟩ : MethodName)) hown (mvT hZ (W 33 rfl)) (mvT hZ (W 34 rfl)) (mvT hZ (W 35 rfl)) (mvT hZ (W 36 rfl)) (by decide) (backOf (W := 2) (rm5 l Z a0 hw [] r0 cm h287 n0 zs313 ) hZ (W 36 rfl) (W 35 rfl) (by decide) (by decide)) (g := (mkF m 163 #[rv o1, .val (.long cm), .second, .val (.long ln), .second, .val (.long lw), .second, .unset] [(.long cm), (.long r0), (.int (1 : Int32)), (.ref br)])) rfl (by rw [hml]; rfl) (argsL := [(.long r0), (.long cm)]) (rest := [(.int (1 : Int32)), (.ref br)]) (lenOf pd93 rfl) rfl (by show 2 * 0 + _ ≤ _; exact Nat.le_of_eq rfl) (hb hby d4_163) (fun _ _ => ⟨rfl, e305, (by decide : 0 + 0 ≤ _), (by decide : 0 + 0 ≤ _)⟩)
  dsimp only [Pt.U, Pt.locs, Pt.cells, Pt.slots] at X312 l312 y312 z312 st312 hQ312
  subst l312 y312 z312
  obtain ⟨rfl, Nq312, eh312⟩ := hQ312
  have N312 := Fr.app N287 Nq312
  have go314 : own_S p e below ST T312 (mkF m 166 #[rv o1, .val (.long cm), .second, .val (.long ln), .second, .val (.long lw), .second, .unset] [(.long (own_maxJ r0 cm)), (.int (1 : Int32)), (.ref br)]) := fun tt kt => go311 tt (st312 _ kt)
  obtain ⟨cl315, Ar315, q315, S315, M315, H315, G315⟩ := id f309
  have hin315 : ¬ ((1 : Int32) < 0 ∨ cl315.slots.size ≤ ((1 : Int32)).toNatClampNeg) := inb_of S315 ⟨by decide, by decide⟩
  obtain ⟨T315, h315, X315, e315, W315, st315⟩ := stJ X312 hx hZ eh312 Ar315 (j := (1 : Int32)) hin315 (g := (mkF m 166 #[rv o1, .val (.long cm), .second, .val (.long ln), .second, .val (.long lw), .second, .unset] [(.long (own_maxJ r0 cm)), (.int (1 : Int32)), (.ref br)])) rfl rfl (hb hby d4_166)
  have V315 : Arv Z h315 br kr .long (16 : Int32) [(.long r0), (.long (own_maxJ r0 cm)), (.long (0 : Int64))] (.long (0 : Int64)) := Arv.set Ar315 q315 S315 M315 H315 G315 rfl W315 1 rfl (Nat.le_of_ble_eq_true rfl)
  have N315 := Fr.snoc X315 N312 LI_gr
  have KC315 : Keep h0 h315 [o1, bs, bl, br] := KC287.wr W315 (Or.inl (List.mem_of_getElem? (i := 3) rfl))
  have go316 : own_S p e below ST T315 (mkF m 167 #[rv o1, .val (.long cm), .second, .val (.long ln), .second, .val (.long lw), .second, .unset] []) := fun tt kt => go314 tt (st315 _ kt)
  have go317 : own_S p e below ST T315 (mkF m 169 #[rv o1, .val (.long cm), .second, .val (.long ln), .second, .val (.long lw), .second, .unset] [(.ref o1), (.ref o1)]) := fun tt kt => go316 tt (by
      refine XS.aloadN X315.here hx rfl (hb hby d4_167) rfl rfl ?_
      refine XS.dup X315.here hx rfl (hb hby d4_168) rfl rfl ?_
      exact kt)
  have f318 := (f295.other W315 (Or.inl LI_n2))
  obtain ⟨T319, X319, e319, st319⟩ := getF X315 hx hZ hown (host := "") (Or.inl (W 24 rfl)) Via.refl e315 f318 (g := (mkF m 169 #[rv o1, .val (.long cm), .second, .val (.long ln), .second, .val (.long lw), .second, .unset] [(.ref o1), (.ref o1)])) rfl rfl (hb hby d4_169)
  have go320 : own_S p e below ST T319 (mkF m 172 #[rv o1, .val (.long cm), .second, .val (.long ln), .second, .val (.long lw), .second, .unset] [(.int (1 : Int32)), (.ref o1)]) := fun tt kt => go317 tt (st319 _ kt)
  have go321 : own_S p e below ST T319 (mkF m 174 #[rv o1, .val (.long cm), .second, .val (.long ln), .second, .val (.long lw), .second, .unset] [(.int (2 : Int32)), (.ref o1)]) := fun tt kt => go320 tt (by
      refine XS.iconst X319.here hx rfl (hb hby d4_172) ?_
      refine XS.iadd X319.here hx rfl (hb hby d4_173) rfl ?_
      exact kt)
  have f323 := (((LI_E.wr W276).wr W287).wr W315)
  obtain ⟨T322, h322, X322, e322, W322, st322⟩ := putF X319 hx hZ hown (host := "") (Or.inl (W 24 rfl)) Via.refl e319 f318 f323 (Or.inl (W 25 rfl)) (W 2 rfl) (ty := .int) (by decide) rfl rfl (g := (mkF m 174 #[rv o1, .val (.long cm), .second, .val (.long ln), .second, .val (.long lw), .second, .unset] [(.int (2 : Int32)), (.ref o1)])) rfl rfl (hb hby d4_174)
  have Fw322 := f318.same W322
  have N322 := Fr.snoc X322 N315 LI_go
  have go324 : own_S p e below ST T322 (mkF m 177 #[rv o1, .val (.long cm), .second, .val (.long ln), .second, .val (.long lw), .second, .unset] []) := fun tt kt => go321 tt (st322 _ kt)
  have KC322 : Keep h0 h322 [o1, bs, bl, br] := KC315.wr W322 (Or.inl (List.mem_of_getElem? (i := 0) rfl))
  have go325 : own_S p e below ST T322 (mkF m 227 #[rv o1, .val (.long cm), .second, .val (.long ln), .second, .val (.long lw), .second, .unset] [(.ref o1), (.ref o1)]) := fun tt kt => go324 tt (by
      refine XS.goto X322.here hx rfl (pc0 := 177) (pc' := 225) rfl (hb hby d4_177) (by decide) (by decide) ?_
      refine XS.aloadN X322.here hx rfl (hb hby d4_225) rfl rfl ?_
      refine XS.dup X322.here hx rfl (hb hby d4_226) rfl rfl ?_
      exact kt)
  have f326 := ((((LI_end.other W276 (Or.inl LI_n0)).other W287 (Or.inl LI_n1)).other W315 (Or.inl LI_n2)).other W322 (Or.inr (slot_ne (Or.inl (W 18 rfl)) (Or.inl (W 25 rfl)) (by decide) (t := .long) (t' := .int) (by decide) (by decide))))
  obtain ⟨T327, X327, e327, st327⟩ := getF X322 hx hZ hown (host := "") (Or.inl (W 17 rfl)) Via.refl e322 f326 (g := (mkF m 227 #[rv o1, .val (.long cm), .second, .val (.long ln), .second, .val (.long lw), .second, .unset] [(.ref o1), (.ref o1)])) rfl rfl (hb hby d4_227)
  have go328 : own_S p e below ST T327 (mkF m 230 #[rv o1, .val (.long cm), .second, .val (.long ln), .second, .val (.long lw), .second, .unset] [(.long en), (.ref o1)]) := fun tt kt => go325 tt (st327 _ kt)
  have go329 : own_S p e below ST T327 (mkF m 232 #[rv o1, .val (.long cm), .second, .val (.long ln), .second, .val (.long lw), .second, .unset] [(.long (en + ln)), (.ref o1)]) := fun tt kt => go328 tt (by
      refine XS.lloadN X327.here hx rfl (hb hby d4_230) rfl ?_
      refine XS.ladd X327.here hx rfl (hb hby d4_231) rfl ?_
      exact kt)
  have f331 := (f323.wr W322)
  obtain ⟨T330, h330, X330, e330, W330, st330⟩ := putF X327 hx hZ hown (host := "") (Or.inl (W 17 rfl)) Via.refl e327 f326 f331 (Or.inl (W 18 rfl)) (W 2 rfl) (ty := .long) (by decide) rfl rfl (g := (mkF m 232 #[rv o1, .val (.long cm), .second, .val (.long ln), .second, .val (.long lw), .second, .unset] [(.long (en + ln)), (.ref o1)])) rfl rfl (hb hby d4_232)
  have Fw330 := f326.same W330
  have N330 := Fr.snoc X330 N322 LI_go
  have go332 : own_S p e below ST T330 (mkF m 235 #[rv o1, .val (.long cm), .second, .val (.long ln), .second, .val (.long lw), .second, .unset] []) := fun tt kt => go329 tt (st330 _ kt)
  have KC330 : Keep h0 h330 [o1, bs, bl, br] := KC322.wr W330 (Or.inl (List.mem_of_getElem? (i := 0) rfl))
  have go333 : own_S p e below ST T330 (mkF m 237 #[rv o1, .val (.long cm), .second, .val (.long ln), .second, .val (.long lw), .second, .unset] [(.ref o1), (.ref o1)]) := fun tt kt => go332 tt (by
      refine XS.aloadN X330.here hx rfl (hb hby d4_235) rfl rfl ?_
      refine XS.aloadN X330.here hx rfl (hb hby d4_236) rfl rfl ?_
      exact kt)
  have f334 := (((((LI_highest.other W276 (Or.inl LI_n0)).other W287 (Or.inl LI_n1)).other W315 (Or.inl LI_n2)).other W322 (Or.inr (slot_ne (Or.inl (W 32 rfl)) (Or.inl (W 25 rfl)) (by decide) (t := .long) (t' := .int) (by decide) (by decide)))).other W330 (Or.inr (slot_ne (Or.inl (W 32 rfl)) (Or.inl (W 18 rfl)) (by decide) (t := .long) (t' := .long) (by decide) (by decide))))
  obtain ⟨T335, X335, e335, st335⟩ := getF X330 hx hZ hown (host := "") (Or.inl (W 31 rfl)) Via.refl e330 f334 (g := (mkF m 237 #[rv o1, .val (.long cm), .second, .val (.long ln), .second, .val (.long lw), .second, .unset] [(.ref o1), (.ref o1)])) rfl rfl (hb hby d4_237)
  have go336 : own_S p e below ST T335 (mkF m 240 #[rv o1, .val (.long cm), .second, .val (.long ln), .second, .val (.long lw), .second, .unset] [(.long hi), (.ref o1)]) := fun tt kt => go333 tt (st335 _ kt)
  have go337 : own_S p e below ST T335 (mkF m 241 #[rv o1, .val (.long cm), .second, .val (.long ln), .second, .val (.long lw), .second, .unset] [(.long cm), (.long hi), (.ref o1)]) := fun tt kt => go336 tt (by
      refine XS.lloadN X335.here hx rfl (hb hby d4_240) rfl ?_
      exact kt)
  have zs339 := (Nat.le_trans (Nat.le_trans (Nat.le_trans zs313 (Keep.of_wr W315).1) (Keep.of_wr W322).1) (Keep.of_wr W330).1)
  obtain ⟨_, _, ⟨T338, L338, k338, n338⟩, -, X338, ⟨Lc338, hQ338, l338, y338, z338⟩, st338⟩ := Jvm.LawKit.callS X335 hx (y := (⟨"java/lang/Math", "max", "(JJ)J"⟩ : MethodName)) hown (mvT hZ (W 33 rfl)) (mvT hZ (W 34 rfl)) (mvT hZ (W 35 rfl)) (mvT hZ (W 36 rfl)) (by decide) (backOf (W := 1) (rm5 l Z a0 hw [] hi cm h330 n0 zs339 ) hZ (W 36 rfl) (W 35 rfl) (by decide) (by decide)) (g := (mkF m 241 #[rv o1, .val (.long cm), .second, .val (.long ln), .second, .val (.long lw), .second, .unset] [(.long cm), (.long hi), (.ref o1)])) rfl (by rw [hml]; rfl) (argsL := [(.long hi), (.long cm)]) (rest := [(.ref o1)]) (lenOf pd93 rfl) rfl (by show 2 * 0 + _ ≤ _; exact Nat.le_of_eq rfl) (hb hby d4_241) (fun _ _ => ⟨rfl, e335, (by decide : 0 + 0 ≤ _), (by decide : 0 + 0 ≤ _)⟩)
  dsimp only [Pt.U, Pt.locs, Pt.cells, Pt.slots] at X338 l338 y338 z338 st338 hQ338
  subst l338 y338 z338
  obtain ⟨rfl, Nq338, eh338⟩ := hQ338
  have N338 := Fr.app N330 Nq338
  have go340 : own_S p e below ST T338 (mkF m 244 #[rv o1, .val (.long cm), .second, .val (.long ln), .second, .val (.long lw), .second, .unset] [(.long (own_maxJ hi cm)), (.ref o1)]) := fun tt kt => go337 tt (st338 _ kt)
  have f342 := (f331.wr W330)
  obtain ⟨T341, h341, X341, e341, W341, st341⟩ := putF X338 hx hZ hown (host := "") (Or.inl (W 31 rfl)) Via.refl eh338 f334 f342 (Or.inl (W 32 rfl)) (W 2 rfl) (ty := .long) (by decide) rfl rfl (g := (mkF m 244 #[rv o1, .val (.long cm), .second, .val (.long ln), .second, .val (.long lw), .second, .unset] [(.long (own_maxJ hi cm)), (.ref o1)])) rfl rfl (hb hby d4_244)
  have Fw341 := f334.same W341
  have N341 := Fr.snoc X341 N338 LI_go
  have go343 : own_S p e below ST T341 (mkF m 247 #[rv o1, .val (.long cm), .second, .val (.long ln), .second, .val (.long lw), .second, .unset] []) := fun tt kt => go340 tt (st341 _ kt)
  have KC341 : Keep h0 h341 [o1, bs, bl, br] := KC330.wr W341 (Or.inl (List.mem_of_getElem? (i := 0) rfl))
  have f344 := (f342.wr W341)
  have f345 := ((((((LI_starts.other W276 (Or.inl LI_n0)).other W287 (Or.inl LI_n1)).other W315 (Or.inl LI_n2)).other W322 (Or.inr (slot_ne (Or.inl (W 12 rfl)) (Or.inl (W 25 rfl)) (by decide) (t := (.array .long)) (t' := .int) (by decide) (by decide)))).other W330 (Or.inr (slot_ne (Or.inl (W 12 rfl)) (Or.inl (W 18 rfl)) (by decide) (t := (.array .long)) (t' := .long) (by decide) (by decide)))).other W341 (Or.inr (slot_ne (Or.inl (W 12 rfl)) (Or.inl (W 32 rfl)) (by decide) (t := (.array .long)) (t' := .long) (by decide) (by decide))))
  have f346 := (((((f279.other W287 (Or.inl LI_n1)).other W315 (Or.inl LI_n2)).other W322 (Or.inr (slot_ne (Or.inl (W 14 rfl)) (Or.inl (W 25 rfl)) (by decide) (t := (.array .long)) (t' := .int) (by decide) (by decide)))).other W330 (Or.inr (slot_ne (Or.inl (W 14 rfl)) (Or.inl (W 18 rfl)) (by decide) (t := (.array .long)) (t' := .long) (by decide) (by decide)))).other W341 (Or.inr (slot_ne (Or.inl (W 14 rfl)) (Or.inl (W 32 rfl)) (by decide) (t := (.array .long)) (t' := .long) (by decide) (by decide))))
  have f347 := ((((f291.other W315 (Or.inl LI_n2)).other W322 (Or.inr (slot_ne (Or.inl (W 16 rfl)) (Or.inl (W 25 rfl)) (by decide) (t := (.array .long)) (t' := .int) (by decide) (by decide)))).other W330 (Or.inr (slot_ne (Or.inl (W 16 rfl)) (Or.inl (W 18 rfl)) (by decide) (t := (.array .long)) (t' := .long) (by decide) (by decide)))).other W341 (Or.inr (slot_ne (Or.inl (W 16 rfl)) (Or.inl (W 32 rfl)) (by decide) (t := (.array .long)) (t' := .long) (by decide) (by decide))))
  have f348 := (Fw330.other W341 (Or.inr (slot_ne (Or.inl (W 18 rfl)) (Or.inl (W 32 rfl)) (by decide) (t := .long) (t' := .long) (by decide) (by decide))))
  have f349 := ((Fw322.other W330 (Or.inr (slot_ne (Or.inl (W 25 rfl)) (Or.inl (W 18 rfl)) (by decide) (t := .int) (t' := .long) (by decide) (by decide)))).other W341 (Or.inr (slot_ne (Or.inl (W 25 rfl)) (Or.inl (W 32 rfl)) (by decide) (t := .int) (t' := .long) (by decide) (by decide))))
  have f350 := (((((V276.other W287 LI_n3).other W315 LI_n4).other W322 (Ne.symm LI_n0)).other W330 (Ne.symm LI_n0)).other W341 (Ne.symm LI_n0))
  have f351 := ((((V287.other W315 LI_n5).other W322 (Ne.symm LI_n1)).other W330 (Ne.symm LI_n1)).other W341 (Ne.symm LI_n1))
  have f352 := (((V315.other W322 (Ne.symm LI_n2)).other W330 (Ne.symm LI_n2)).other W341 (Ne.symm LI_n2))
  obtain ⟨fs, hr, hrun, hended, hW, hsame⟩ := X341.leave (v := none) (fun _ => rfl) (hlocks := by first | exact BodyLoose.notSynchronized Bd | exact Body.notSynchronized Bd)
  refine ⟨_, _, pre0 _ (go343 _ ?_), hrun, hended, _, _, rfl, ?_, ⟨_, rfl⟩, hW, hsame.mono (by decide) (by decide)⟩
  · exact X341.returnOut hx Bd.returns (hb hby d4_247) hr
  · show Q4c1 Z o1 bs bl br ks kl kr cm ln en hi s0 w0 r0 h0 n0 _ T341.heap _
    rw [e341]
    exact ⟨lw, rfl, N341, KC341, ⟨f344, f345, f346, f347, f348, f349, Fw341, f350, f351, f352, LI_go, LI_gs, LI_gl, LI_gr, LI_n0, LI_n1, LI_n2, LI_n3, LI_n4, LI_n5⟩⟩
theorem d4_180 : decode prog_214_method_2_code 180 = .ok (.aload_n 0, 1) := by decide +kernel
theorem d4_181 : decode prog_214_method_2_code 181 = .ok (.getfield 29, 3) := by decide +kernel
theorem d4_184 : decode prog_214_method_2_code 184 = .ok (.iconst 1, 1) := by decide +kernel
theorem d4_185 : decode prog_214_method_2_code 185 = .ok (.isub, 1) := by decide +kernel
theorem d4_186 : decode prog_214_method_2_code 186 = .ok (.istore 7, 2) := by decide +kernel
theorem d4_188 : decode prog_214_method_2_code 188 = .ok (.aload_n 0, 1) := by decide +kernel
theorem d4_189 : decode prog_214_method_2_code 189 = .ok (.getfield 13, 3) := by decide +kernel
theorem d4_192 : decode prog_214_method_2_code 192 = .ok (.iload 7, 2) := by decide +kernel
theorem d4_194 : decode prog_214_method_2_code 194 = .ok (.aload_n 0, 1) := by decide +kernel
theorem d4_195 : decode prog_214_method_2_code 195 = .ok (.getfield 13, 3) := by decide +kernel
theorem d4_198 : decode prog_214_method_2_code 198 = .ok (.iload 7, 2) := by decide +kernel
theorem d4_200 : decode prog_214_method_2_code 200 = .ok (.laload, 1) := by decide +kernel
theorem d4_201 : decode prog_214_method_2_code 201 = .ok (.lload 5, 2) := by decide +kernel
theorem d4_203 : decode prog_214_method_2_code 203 = .ok (.invokestatic 47, 3) := by decide +kernel
theorem d4_206 : decode prog_214_method_2_code 206 = .ok (.lastore, 1) := by decide +kernel
theorem d4_207 : decode prog_214_method_2_code 207 = .ok (.aload_n 0, 1) := by decide +kernel
theorem d4_208 : decode prog_214_method_2_code 208 = .ok (.getfield 16, 3) := by decide +kernel
theorem d4_211 : decode prog_214_method_2_code 211 = .ok (.iload 7, 2) := by decide +kernel
theorem d4_213 : decode prog_214_method_2_code 213 = .ok (.aload_n 0, 1) := by decide +kernel
theorem d4_214 : decode prog_214_method_2_code 214 = .ok (.getfield 16, 3) := by decide +kernel
theorem d4_217 : decode prog_214_method_2_code 217 = .ok (.iload 7, 2) := by decide +kernel
theorem d4_219 : decode prog_214_method_2_code 219 = .ok (.laload, 1) := by decide +kernel
theorem d4_220 : decode prog_214_method_2_code 220 = .ok (.lload_n 1, 1) := by decide +kernel
theorem d4_221 : decode prog_214_method_2_code 221 = .ok (.invokestatic 41, 3) := by decide +kernel
theorem d4_224 : decode prog_214_method_2_code 224 = .ok (.lastore, 1) := by decide +kernel
theorem ef4c1m (m : MethodId) (x0 : Addr) (x1 : Int64) (x2 : Int64) : entryFrame m #[(.ref x0), (.long x1), (.long x2)] 8 = mkF m 0 #[.val (.ref x0), .val (.long x1), .second, .val (.long x2), .second, .unset, .unset, .unset] [] := by first | (simp [entryFrame, mkF, argsToLocals, Value.category]; done) | rfl
def Q4c1m (Z : State) (o1 : Addr) (bs : Addr) (bl : Addr) (br : Addr) (ks : ClassId) (kl : ClassId) (kr : ClassId) (cm : Int64) (ln : Int64) (en : Int64) (hi : Int64) (s0 : Int64) (w0 : Int64) (r0 : Int64) (h0 : Heap) (n0 : Nat) (v : Option Value) (h : Heap) (L : List Loc) : Prop := ∃ lw : Int64, v = none ∧ Fr n0 L ∧ Keep h0 h [o1, bs, bl, br] ∧ own_LI Z h n0 o1 bs bl br ks kl kr [(.long s0), (.long (0 : Int64)), (.long (0 : Int64))] [(.long (own_minJ w0 lw)), (.long (0 : Int64)), (.long (0 : Int64))] [(.long (own_maxJ r0 cm)), (.long (0 : Int64)), (.long (0 : Int64))] (en + ln) (1 : Int32) (own_maxJ hi cm)
set_option maxRecDepth 65536 in
set_option maxHeartbeats 40000000 in
theorem rm4c1m (l : Launch) (Z : State) (a0 : Array Value) (hw : ∀ d ∈ tables_1, d.before a0 Z = true) (ws : List Jvm.Cond) (o1 : Addr) (bs : Addr) (bl : Addr) (br : Addr) (ks : ClassId) (kl : ClassId) (kr : ClassId) (cm : Int64) (ln : Int64) (en : Int64) (hi : Int64) (s0 : Int64) (w0 : Int64) (r0 : Int64) (h0 : Heap) (n0 : Nat) (Z0 : n0 ≤ h0.size) (LI : own_LI Z h0 n0 o1 bs bl br ks kl kr [(.long s0), (.long (0 : Int64)), (.long (0 : Int64))] [(.long w0), (.long (0 : Int64)), (.long (0 : Int64))] [(.long r0), (.long (0 : Int64)), (.long (0 : Int64))] en (1 : Int32) hi) (hm : lcmpW (en - s0) (65536 : Int64) < (0 : Int32)) :
    MetFree l (⟨"com/example/altocommit/altocommit/store/LogIndex", "add", "(JJ)V"⟩ : MethodName) (head1 (Jvm.Cond.code (⟨"com/example/altocommit/altocommit/store/LogIndex", "add", "(JJ)V"⟩ : MethodName) prog_214_method_2_code 8 none :: ws) ({ frames := 1, cells := 0, slots := 0, locals := 17 } : Room)) (fun aa UU => aa = #[(.ref o1), (.long cm), (.long ln)] ∧ Z.Warmed39 UU.vm ∧ UU.heap = h0) (fun _ _ _ _ _ => True) (fun _ UU oo UU' => ∃ vv LL, oo = .returned vv ∧ Q4c1m Z o1 bs bl br ks kl kr cm ln en hi s0 w0 r0 h0 n0 vv UU'.heap LL ∧ FrameEnd UU oo UU' LL ({ frames := 1, cells := 0, slots := 0, locals := 17 } : Room).cells ({ frames := 1, cells := 0, slots := 0, locals := 17 } : Room).slots) := by
  have W : ∀ {d : Jvm.Cond} (i : Nat), tables_1[i]? = some d → d.before a0 Z = true := fun i h => hw _ (List.mem_of_getElem? h)
  refine MetFree.of_bodySF (plainFor_of_name pn16) hisR ?_
  intro p e s m args below meth c s₁ Bd hml0 hP hK
  obtain ⟨rfl, hZ, hh⟩ := hP
  have hx := Bd.exec
  have hby := Bd.bytes
  have hml : c.maxLocals = 8 := hml0
  have hown : s.vm.findClass "com/example/altocommit/altocommit/store/LogIndex" = some m.cls := findClass_of_methodNamed Bd.named
  have hnm := (name_of_methodNamed Bd.named Bd.method).1
  have X0 : Stand p l e ({ frames := 1, cells := 0, slots := 0, locals := 17 } : Room) s m #[(.ref o1), (.long cm), (.long ln)] below meth c s₁ [] 0 0 := Stand.of_body Bd
  have e0 : s₁.heap = h0 := by rw [← hh, Bd.state]; rfl
  have N0 := Fr.nil n0
  have pre0 : ∀ tt, Steps p.tables e below (s₁.setTop (mkF m 0 #[rv o1, .val (.long cm), .second, .val (.long ln), .second, .unset, .unset, .unset] [])) tt → Steps p.tables e below (s₁.setTop (entryFrame m #[(.ref o1), (.long cm), (.long ln)] 8)) tt := fun tt kt => castTop (ef4c1m m o1 cm ln) kt
  obtain ⟨ST, hST⟩ : ∃ z : State, z = s₁.setTop (mkF m 0 #[rv o1, .val (.long cm), .second, .val (.long ln), .second, .unset, .unset, .unset] []) := ⟨_, rfl⟩
  rw [← hST] at pre0
  obtain ⟨LI_E, LI_starts, LI_lows, LI_reaches, LI_end, LI_count, LI_highest, LI_Vs, LI_Vl, LI_Vr, LI_go, LI_gs, LI_gl, LI_gr, LI_n0, LI_n1, LI_n2, LI_n3, LI_n4, LI_n5⟩ := LI
  have KC0 : Keep h0 h0 [o1, bs, bl, br] := Keep.refl h0 [o1, bs, bl, br]
  have go353 : own_S p e below ST s₁ (mkF m 3 #[rv o1, .val (.long cm), .second, .val (.long ln), .second, .unset, .unset, .unset] [(.int (lcmpW cm (0 : Int64)))]) := fun tt kt => (by
      rw [hST]
      show Steps p.tables e below (s₁.setTop (mkF m 0 #[rv o1, .val (.long cm), .second, .val (.long ln), .second, .unset, .unset, .unset] [])) _
      refine XS.lloadN X0.here hx rfl (hb hby d4_0) rfl ?_
      refine XS.lconst X0.here hx rfl (hb hby d4_1) ?_
      refine XS.lcmp X0.here hx rfl (hb hby d4_2) rfl ?_
      exact kt)
  obtain ⟨lw, hlw, sg354⟩ : ∃ (lw : Int64), lw = (if (lcmpW cm (0 : Int64)) = (0 : Int32) then (9223372036854775807 : Int64) else cm) ∧ ∀ tt, Steps p.tables e below (s₁.setTop (mkF m 13 #[rv o1, .val (.long cm), .second, .val (.long ln), .second, .unset, .unset, .unset] [(.long lw)])) tt → Steps p.tables e below (s₁.setTop (mkF m 3 #[rv o1, .val (.long cm), .second, .val (.long ln), .second, .unset, .unset, .unset] [(.int (lcmpW cm (0 : Int64)))])) tt := by
    by_cases hd3_0 : (lcmpW cm (0 : Int64)) = (0 : Int32)
    · refine ⟨_, (if_pos hd3_0).symm, fun tt kt => ?_⟩
      show Steps p.tables e below (s₁.setTop (mkF m 3 #[rv o1, .val (.long cm), .second, .val (.long ln), .second, .unset, .unset, .unset] [(.int (lcmpW cm (0 : Int64)))])) _
      refine XS.ifNo X0.here hx rfl (hb hby d4_3) rfl ((if0 _ _).trans (teq hd3_0).2) ?_
      refine X0.ldc2Long hx hown (mvT hZ (W 41 rfl)) (g := (mkF m 6 #[rv o1, .val (.long cm), .second, .val (.long ln), .second, .unset, .unset, .unset] [])) rfl (hb hby d4_6) _ ?_
      refine XS.goto X0.here hx rfl (pc0 := 9) (pc' := 13) rfl (hb hby d4_9) (by decide) (by decide) ?_
      exact kt
    · refine ⟨_, (if_neg hd3_0).symm, fun tt kt => ?_⟩
      show Steps p.tables e below (s₁.setTop (mkF m 3 #[rv o1, .val (.long cm), .second, .val (.long ln), .second, .unset, .unset, .unset] [(.int (lcmpW cm (0 : Int64)))])) _
      refine XS.ifYes X0.here hx rfl (pc0 := 3) (pc' := 12) rfl (hb hby d4_3) rfl ((if0 _ _).trans (feq hd3_0).2) (by decide) (by decide) ?_
      refine XS.lloadN X0.here hx rfl (hb hby d4_12) rfl ?_
      exact kt
  have go355 : own_S p e below ST s₁ (mkF m 13 #[rv o1, .val (.long cm), .second, .val (.long ln), .second, .unset, .unset, .unset] [(.long lw)]) := fun tt kt => go353 tt (sg354 _ kt)
  have go356 : own_S p e below ST s₁ (mkF m 16 #[rv o1, .val (.long cm), .second, .val (.long ln), .second, .val (.long lw), .second, .unset] [(.ref o1)]) := fun tt kt => go355 tt (by
      refine XS.lstore X0.here hx rfl (hb hby d4_13) rfl (l' := #[rv o1, .val (.long cm), .second, .val (.long ln), .second, .val (.long lw), .second, .unset]) rfl ?_
      refine XS.aloadN X0.here hx rfl (hb hby d4_15) rfl rfl ?_
      exact kt)
  obtain ⟨T357, X357, e357, st357⟩ := getF X0 hx hZ hown (host := "") (Or.inl (W 24 rfl)) Via.refl e0 LI_count (g := (mkF m 16 #[rv o1, .val (.long cm), .second, .val (.long ln), .second, .val (.long lw), .second, .unset] [(.ref o1)])) rfl rfl (hb hby d4_16)
  have go358 : own_S p e below ST T357 (mkF m 19 #[rv o1, .val (.long cm), .second, .val (.long ln), .second, .val (.long lw), .second, .unset] [(.int (1 : Int32))]) := fun tt kt => go356 tt (st357 _ kt)
  have go359 : own_S p e below ST T357 (mkF m 23 #[rv o1, .val (.long cm), .second, .val (.long ln), .second, .val (.long lw), .second, .unset] [(.ref o1)]) := fun tt kt => go358 tt (by
      refine XS.ifNo X357.here hx rfl (hb hby d4_19) rfl ((if0 _ _).trans (feq (by decide : ¬ ((1 : Int32) = (0 : Int32)))).1) ?_
      refine XS.aloadN X357.here hx rfl (hb hby d4_22) rfl rfl ?_
      exact kt)
  obtain ⟨T360, X360, e360, st360⟩ := getF X357 hx hZ hown (host := "") (Or.inl (W 17 rfl)) Via.refl e357 LI_end (g := (mkF m 23 #[rv o1, .val (.long cm), .second, .val (.long ln), .second, .val (.long lw), .second, .unset] [(.ref o1)])) rfl rfl (hb hby d4_23)
  have go361 : own_S p e below ST T360 (mkF m 26 #[rv o1, .val (.long cm), .second, .val (.long ln), .second, .val (.long lw), .second, .unset] [(.long en)]) := fun tt kt => go359 tt (st360 _ kt)
  have go362 : own_S p e below ST T360 (mkF m 27 #[rv o1, .val (.long cm), .second, .val (.long ln), .second, .val (.long lw), .second, .unset] [(.ref o1), (.long en)]) := fun tt kt => go361 tt (by
      refine XS.aloadN X360.here hx rfl (hb hby d4_26) rfl rfl ?_
      exact kt)
  obtain ⟨T363, X363, e363, st363⟩ := getF X360 hx hZ hown (host := "") (Or.inl (W 11 rfl)) Via.refl e360 LI_starts (g := (mkF m 27 #[rv o1, .val (.long cm), .second, .val (.long ln), .second, .val (.long lw), .second, .unset] [(.ref o1), (.long en)])) rfl rfl (hb hby d4_27)
  have go364 : own_S p e below ST T363 (mkF m 30 #[rv o1, .val (.long cm), .second, .val (.long ln), .second, .val (.long lw), .second, .unset] [(.ref bs), (.long en)]) := fun tt kt => go362 tt (st363 _ kt)
  have go365 : own_S p e below ST T363 (mkF m 31 #[rv o1, .val (.long cm), .second, .val (.long ln), .second, .val (.long lw), .second, .unset] [(.ref o1), (.ref bs), (.long en)]) := fun tt kt => go364 tt (by
      refine XS.aloadN X363.here hx rfl (hb hby d4_30) rfl rfl ?_
      exact kt)
  obtain ⟨T366, X366, e366, st366⟩ := getF X363 hx hZ hown (host := "") (Or.inl (W 24 rfl)) Via.refl e363 LI_count (g := (mkF m 31 #[rv o1, .val (.long cm), .second, .val (.long ln), .second, .val (.long lw), .second, .unset] [(.ref o1), (.ref bs), (.long en)])) rfl rfl (hb hby d4_31)
  have go367 : own_S p e below ST T366 (mkF m 34 #[rv o1, .val (.long cm), .second, .val (.long ln), .second, .val (.long lw), .second, .unset] [(.int (1 : Int32)), (.ref bs), (.long en)]) := fun tt kt => go365 tt (st366 _ kt)
  have go368 : own_S p e below ST T366 (mkF m 36 #[rv o1, .val (.long cm), .second, .val (.long ln), .second, .val (.long lw), .second, .unset] [(.int (0 : Int32)), (.ref bs), (.long en)]) := fun tt kt => go367 tt (by
      refine XS.iconst X366.here hx rfl (hb hby d4_34) ?_
      refine XS.isub X366.here hx rfl (hb hby d4_35) rfl ?_
      exact kt)
  obtain ⟨cl369, Ar369, q369, S369, M369, H369, G369⟩ := id LI_Vs
  have hin369 : ¬ ((0 : Int32) < 0 ∨ cl369.slots.size ≤ ((0 : Int32)).toNatClampNeg) := inb_of S369 ⟨by decide, by decide⟩
  have hat369 : cl369.slots[((0 : Int32)).toNatClampNeg]? = some (.long s0) := H369.at hin369 rfl
  have go370 : own_S p e below ST T366 (mkF m 37 #[rv o1, .val (.long cm), .second, .val (.long ln), .second, .val (.long lw), .second, .unset] [(.long s0), (.long en)]) := fun tt kt => go368 tt (by
      refine X366.laload hx (j := (0 : Int32)) (v := (.long s0)) (by rw [e366]; exact Ar369.1) (State.isArrayOf_alike hZ.alike Ar369.2.1) Ar369.2.2 hin369 hat369 (g := (mkF m 36 #[rv o1, .val (.long cm), .second, .val (.long ln), .second, .val (.long lw), .second, .unset] [(.int (0 : Int32)), (.ref bs), (.long en)])) rfl rfl (hb hby d4_36) _ ?_
      exact kt)
  have go371 : own_S p e below ST T366 (mkF m 42 #[rv o1, .val (.long cm), .second, .val (.long ln), .second, .val (.long lw), .second, .unset] [(.int (lcmpW (en - s0) (65536 : Int64)))]) := fun tt kt => go370 tt (by
      refine XS.lsub X366.here hx rfl (hb hby d4_37) rfl ?_
      refine X366.ldc2Long hx hown (mvT hZ (W 37 rfl)) (g := (mkF m 38 #[rv o1, .val (.long cm), .second, .val (.long ln), .second, .val (.long lw), .second, .unset] [(.long (en - s0))])) rfl (hb hby d4_38) _ ?_
      refine XS.lcmp X366.here hx rfl (hb hby d4_41) rfl ?_
      exact kt)
  have go372 : own_S p e below ST T366 (mkF m 181 #[rv o1, .val (.long cm), .second, .val (.long ln), .second, .val (.long lw), .second, .unset] [(.ref o1)]) := fun tt kt => go371 tt (by
      refine XS.ifYes X366.here hx rfl (pc0 := 42) (pc' := 180) rfl (hb hby d4_42) rfl ((if0 _ _).trans (tlt hm).1) (by decide) (by decide) ?_
      refine XS.aloadN X366.here hx rfl (hb hby d4_180) rfl rfl ?_
      exact kt)
  obtain ⟨T373, X373, e373, st373⟩ := getF X366 hx hZ hown (host := "") (Or.inl (W 24 rfl)) Via.refl e366 LI_count (g := (mkF m 181 #[rv o1, .val (.long cm), .second, .val (.long ln), .second, .val (.long lw), .second, .unset] [(.ref o1)])) rfl rfl (hb hby d4_181)
  have go374 : own_S p e below ST T373 (mkF m 184 #[rv o1, .val (.long cm), .second, .val (.long ln), .second, .val (.long lw), .second, .unset] [(.int (1 : Int32))]) := fun tt kt => go372 tt (st373 _ kt)
  have go375 : own_S p e below ST T373 (mkF m 189 #[rv o1, .val (.long cm), .second, .val (.long ln), .second, .val (.long lw), .second, iv (0 : Int32)] [(.ref o1)]) := fun tt kt => go374 tt (by
      refine XS.iconst X373.here hx rfl (hb hby d4_184) ?_
      refine XS.isub X373.here hx rfl (hb hby d4_185) rfl ?_
      refine XS.istore X373.here hx rfl (hb hby d4_186) rfl (l' := #[rv o1, .val (.long cm), .second, .val (.long ln), .second, .val (.long lw), .second, iv (0 : Int32)]) rfl ?_
      refine XS.aloadN X373.here hx rfl (hb hby d4_188) rfl rfl ?_
      exact kt)
  obtain ⟨T376, X376, e376, st376⟩ := getF X373 hx hZ hown (host := "") (Or.inl (W 13 rfl)) Via.refl e373 LI_lows (g := (mkF m 189 #[rv o1, .val (.long cm), .second, .val (.long ln), .second, .val (.long lw), .second, iv (0 : Int32)] [(.ref o1)])) rfl rfl (hb hby d4_189)
  have go377 : own_S p e below ST T376 (mkF m 192 #[rv o1, .val (.long cm), .second, .val (.long ln), .second, .val (.long lw), .second, iv (0 : Int32)] [(.ref bl)]) := fun tt kt => go375 tt (st376 _ kt)
  have go378 : own_S p e below ST T376 (mkF m 195 #[rv o1, .val (.long cm), .second, .val (.long ln), .second, .val (.long lw), .second, iv (0 : Int32)] [(.ref o1), (.int (0 : Int32)), (.ref bl)]) := fun tt kt => go377 tt (by
      refine XS.iload X376.here hx rfl (hb hby d4_192) rfl ?_
      refine XS.aloadN X376.here hx rfl (hb hby d4_194) rfl rfl ?_
      exact kt)
  obtain ⟨T379, X379, e379, st379⟩ := getF X376 hx hZ hown (host := "") (Or.inl (W 13 rfl)) Via.refl e376 LI_lows (g := (mkF m 195 #[rv o1, .val (.long cm), .second, .val (.long ln), .second, .val (.long lw), .second, iv (0 : Int32)] [(.ref o1), (.int (0 : Int32)), (.ref bl)])) rfl rfl (hb hby d4_195)
  have go380 : own_S p e below ST T379 (mkF m 198 #[rv o1, .val (.long cm), .second, .val (.long ln), .second, .val (.long lw), .second, iv (0 : Int32)] [(.ref bl), (.int (0 : Int32)), (.ref bl)]) := fun tt kt => go378 tt (st379 _ kt)
  have go381 : own_S p e below ST T379 (mkF m 200 #[rv o1, .val (.long cm), .second, .val (.long ln), .second, .val (.long lw), .second, iv (0 : Int32)] [(.int (0 : Int32)), (.ref bl), (.int (0 : Int32)), (.ref bl)]) := fun tt kt => go380 tt (by
      refine XS.iload X379.here hx rfl (hb hby d4_198) rfl ?_
      exact kt)
  obtain ⟨cl382, Ar382, q382, S382, M382, H382, G382⟩ := id LI_Vl
  have hin382 : ¬ ((0 : Int32) < 0 ∨ cl382.slots.size ≤ ((0 : Int32)).toNatClampNeg) := inb_of S382 ⟨by decide, by decide⟩
  have hat382 : cl382.slots[((0 : Int32)).toNatClampNeg]? = some (.long w0) := H382.at hin382 rfl
  have go383 : own_S p e below ST T379 (mkF m 201 #[rv o1, .val (.long cm), .second, .val (.long ln), .second, .val (.long lw), .second, iv (0 : Int32)] [(.long w0), (.int (0 : Int32)), (.ref bl)]) := fun tt kt => go381 tt (by
      refine X379.laload hx (j := (0 : Int32)) (v := (.long w0)) (by rw [e379]; exact Ar382.1) (State.isArrayOf_alike hZ.alike Ar382.2.1) Ar382.2.2 hin382 hat382 (g := (mkF m 200 #[rv o1, .val (.long cm), .second, .val (.long ln), .second, .val (.long lw), .second, iv (0 : Int32)] [(.int (0 : Int32)), (.ref bl), (.int (0 : Int32)), (.ref bl)])) rfl rfl (hb hby d4_200) _ ?_
      exact kt)
  have go384 : own_S p e below ST T379 (mkF m 203 #[rv o1, .val (.long cm), .second, .val (.long ln), .second, .val (.long lw), .second, iv (0 : Int32)] [(.long lw), (.long w0), (.int (0 : Int32)), (.ref bl)]) := fun tt kt => go383 tt (by
      refine XS.lload X379.here hx rfl (hb hby d4_201) rfl ?_
      exact kt)
  obtain ⟨_, _, ⟨T385, L385, k385, n385⟩, -, X385, ⟨Lc385, hQ385, l385, y385, z385⟩, st385⟩ := Jvm.LawKit.callS X379 hx (y := (⟨"java/lang/Math", "min", "(JJ)J"⟩ : MethodName)) hown (mvT hZ (W 38 rfl)) (mvT hZ (W 39 rfl)) (mvT hZ (W 35 rfl)) (mvT hZ (W 40 rfl)) (by decide) (backOf (W := 2) (rm6 l Z a0 hw [] w0 lw h0 n0 Z0 ) hZ (W 40 rfl) (W 35 rfl) (by decide) (by decide)) (g := (mkF m 203 #[rv o1, .val (.long cm), .second, .val (.long ln), .second, .val (.long lw), .second, iv (0 : Int32)] [(.long lw), (.long w0), (.int (0 : Int32)), (.ref bl)])) rfl (by rw [hml]; rfl) (argsL := [(.long w0), (.long lw)]) (rest := [(.int (0 : Int32)), (.ref bl)]) (lenOf pd93 rfl) rfl (by show 2 * 0 + _ ≤ _; exact Nat.le_of_eq rfl) (hb hby d4_203) (fun _ _ => ⟨rfl, e379, (by decide : 0 + 0 ≤ _), (by decide : 0 + 0 ≤ _)⟩)
  dsimp only [Pt.U, Pt.locs, Pt.cells, Pt.slots] at X385 l385 y385 z385 st385 hQ385
  subst l385 y385 z385
  obtain ⟨rfl, Nq385, eh385⟩ := hQ385
  have N385 := Fr.app N0 Nq385
  have go386 : own_S p e below ST T385 (mkF m 206 #[rv o1, .val (.long cm), .second, .val (.long ln), .second, .val (.long lw), .second, iv (0 : Int32)] [(.long (own_minJ w0 lw)), (.int (0 : Int32)), (.ref bl)]) := fun tt kt => go384 tt (st385 _ kt)
  obtain ⟨cl387, Ar387, q387, S387, M387, H387, G387⟩ := id LI_Vl
  have hin387 : ¬ ((0 : Int32) < 0 ∨ cl387.slots.size ≤ ((0 : Int32)).toNatClampNeg) := inb_of S387 ⟨by decide, by decide⟩
  obtain ⟨T387, h387, X387, e387, W387, st387⟩ := stJ X385 hx hZ eh385 Ar387 (j := (0 : Int32)) hin387 (g := (mkF m 206 #[rv o1, .val (.long cm), .second, .val (.long ln), .second, .val (.long lw), .second, iv (0 : Int32)] [(.long (own_minJ w0 lw)), (.int (0 : Int32)), (.ref bl)])) rfl rfl (hb hby d4_206)
  have V387 : Arv Z h387 bl kl .long (16 : Int32) [(.long (own_minJ w0 lw)), (.long (0 : Int64)), (.long (0 : Int64))] (.long (0 : Int64)) := Arv.set Ar387 q387 S387 M387 H387 G387 rfl W387 0 rfl (Nat.le_of_ble_eq_true rfl)
  have N387 := Fr.snoc X387 N385 LI_gl
  have KC387 : Keep h0 h387 [o1, bs, bl, br] := KC0.wr W387 (Or.inl (List.mem_of_getElem? (i := 2) rfl))
  have go388 : own_S p e below ST T387 (mkF m 207 #[rv o1, .val (.long cm), .second, .val (.long ln), .second, .val (.long lw), .second, iv (0 : Int32)] []) := fun tt kt => go386 tt (st387 _ kt)
  have go389 : own_S p e below ST T387 (mkF m 208 #[rv o1, .val (.long cm), .second, .val (.long ln), .second, .val (.long lw), .second, iv (0 : Int32)] [(.ref o1)]) := fun tt kt => go388 tt (by
      refine XS.aloadN X387.here hx rfl (hb hby d4_207) rfl rfl ?_
      exact kt)
  have f390 := (LI_reaches.other W387 (Or.inl LI_n1))
  obtain ⟨T391, X391, e391, st391⟩ := getF X387 hx hZ hown (host := "") (Or.inl (W 15 rfl)) Via.refl e387 f390 (g := (mkF m 208 #[rv o1, .val (.long cm), .second, .val (.long ln), .second, .val (.long lw), .second, iv (0 : Int32)] [(.ref o1)])) rfl rfl (hb hby d4_208)
  have go392 : own_S p e below ST T391 (mkF m 211 #[rv o1, .val (.long cm), .second, .val (.long ln), .second, .val (.long lw), .second, iv (0 : Int32)] [(.ref br)]) := fun tt kt => go389 tt (st391 _ kt)
  have go393 : own_S p e below ST T391 (mkF m 214 #[rv o1, .val (.long cm), .second, .val (.long ln), .second, .val (.long lw), .second, iv (0 : Int32)] [(.ref o1), (.int (0 : Int32)), (.ref br)]) := fun tt kt => go392 tt (by
      refine XS.iload X391.here hx rfl (hb hby d4_211) rfl ?_
      refine XS.aloadN X391.here hx rfl (hb hby d4_213) rfl rfl ?_
      exact kt)
  obtain ⟨T394, X394, e394, st394⟩ := getF X391 hx hZ hown (host := "") (Or.inl (W 15 rfl)) Via.refl e391 f390 (g := (mkF m 214 #[rv o1, .val (.long cm), .second, .val (.long ln), .second, .val (.long lw), .second, iv (0 : Int32)] [(.ref o1), (.int (0 : Int32)), (.ref br)])) rfl rfl (hb hby d4_214)
  have go395 : own_S p e below ST T394 (mkF m 217 #[rv o1, .val (.long cm), .second, .val (.long ln), .second, .val (.long lw), .second, iv (0 : Int32)] [(.ref br), (.int (0 : Int32)), (.ref br)]) := fun tt kt => go393 tt (st394 _ kt)
  have go396 : own_S p e below ST T394 (mkF m 219 #[rv o1, .val (.long cm), .second, .val (.long ln), .second, .val (.long lw), .second, iv (0 : Int32)] [(.int (0 : Int32)), (.ref br), (.int (0 : Int32)), (.ref br)]) := fun tt kt => go395 tt (by
      refine XS.iload X394.here hx rfl (hb hby d4_217) rfl ?_
      exact kt)
  have f398 := (LI_Vr.other W387 (Ne.symm LI_n5))
  obtain ⟨cl397, Ar397, q397, S397, M397, H397, G397⟩ := id f398
  have hin397 : ¬ ((0 : Int32) < 0 ∨ cl397.slots.size ≤ ((0 : Int32)).toNatClampNeg) := inb_of S397 ⟨by decide, by decide⟩
  have hat397 : cl397.slots[((0 : Int32)).toNatClampNeg]? = some (.long r0) := H397.at hin397 rfl
  have go399 : own_S p e below ST T394 (mkF m 220 #[rv o1, .val (.long cm), .second, .val (.long ln), .second, .val (.long lw), .second, iv (0 : Int32)] [(.long r0), (.int (0 : Int32)), (.ref br)]) := fun tt kt => go396 tt (by
      refine X394.laload hx (j := (0 : Int32)) (v := (.long r0)) (by rw [e394]; exact Ar397.1) (State.isArrayOf_alike hZ.alike Ar397.2.1) Ar397.2.2 hin397 hat397 (g := (mkF m 219 #[rv o1, .val (.long cm), .second, .val (.long ln), .second, .val (.long lw), .second, iv (0 : Int32)] [(.int (0 : Int32)), (.ref br), (.int (0 : Int32)), (.ref br)])) rfl rfl (hb hby d4_219) _ ?_
      exact kt)
  have go400 : own_S p e below ST T394 (mkF m 221 #[rv o1, .val (.long cm), .second, .val (.long ln), .second, .val (.long lw), .second, iv (0 : Int32)] [(.long cm), (.long r0), (.int (0 : Int32)), (.ref br)]) := fun tt kt => go399 tt (by
      refine XS.lloadN X394.here hx rfl (hb hby d4_220) rfl ?_
      exact kt)
  have zs402 := (Nat.le_trans Z0 (Keep.of_wr W387).1)
  obtain ⟨_, _, ⟨T401, L401, k401, n401⟩, -, X401, ⟨Lc401, hQ401, l401, y401, z401⟩, st401⟩ := Jvm.LawKit.callS X394 hx (y := (⟨"java/lang/Math", "max", "(JJ)J"⟩ : MethodName)) hown (mvT hZ (W 33 rfl)) (mvT hZ (W 34 rfl)) (mvT hZ (W 35 rfl)) (mvT hZ (W 36 rfl)) (by decide) (backOf (W := 2) (rm5 l Z a0 hw [] r0 cm h387 n0 zs402 ) hZ (W 36 rfl) (W 35 rfl) (by decide) (by decide)) (g := (mkF m 221 #[rv o1, .val (.long cm), .second, .val (.long ln), .second, .val (.long lw), .second, iv (0 : Int32)] [(.long cm), (.long r0), (.int (0 : Int32)), (.ref br)])) rfl (by rw [hml]; rfl) (argsL := [(.long r0), (.long cm)]) (rest := [(.int (0 : Int32)), (.ref br)]) (lenOf pd93 rfl) rfl (by show 2 * 0 + _ ≤ _; exact Nat.le_of_eq rfl) (hb hby d4_221) (fun _ _ => ⟨rfl, e394, (by decide : 0 + 0 ≤ _), (by decide : 0 + 0 ≤ _)⟩)
  dsimp only [Pt.U, Pt.locs, Pt.cells, Pt.slots] at X401 l401 y401 z401 st401 hQ401
  subst l401 y401 z401
  obtain ⟨rfl, Nq401, eh401⟩ := hQ401
  have N401 := Fr.app N387 Nq401
  have go403 : own_S p e below ST T401 (mkF m 224 #[rv o1, .val (.long cm), .second, .val (.long ln), .second, .val (.long lw), .second, iv (0 : Int32)] [(.long (own_maxJ r0 cm)), (.int (0 : Int32)), (.ref br)]) := fun tt kt => go400 tt (st401 _ kt)
  obtain ⟨cl404, Ar404, q404, S404, M404, H404, G404⟩ := id f398
  have hin404 : ¬ ((0 : Int32) < 0 ∨ cl404.slots.size ≤ ((0 : Int32)).toNatClampNeg) := inb_of S404 ⟨by decide, by decide⟩
  obtain ⟨T404, h404, X404, e404, W404, st404⟩ := stJ X401 hx hZ eh401 Ar404 (j := (0 : Int32)) hin404 (g := (mkF m 224 #[rv o1, .val (.long cm), .second, .val (.long ln), .second, .val (.long lw), .second, iv (0 : Int32)] [(.long (own_maxJ r0 cm)), (.int (0 : Int32)), (.ref br)])) rfl rfl (hb hby d4_224)
  have V404 : Arv Z h404 br kr .long (16 : Int32) [(.long (own_maxJ r0 cm)), (.long (0 : Int64)), (.long (0 : Int64))] (.long (0 : Int64)) := Arv.set Ar404 q404 S404 M404 H404 G404 rfl W404 0 rfl (Nat.le_of_ble_eq_true rfl)
  have N404 := Fr.snoc X404 N401 LI_gr
  have KC404 : Keep h0 h404 [o1, bs, bl, br] := KC387.wr W404 (Or.inl (List.mem_of_getElem? (i := 3) rfl))
  have go405 : own_S p e below ST T404 (mkF m 225 #[rv o1, .val (.long cm), .second, .val (.long ln), .second, .val (.long lw), .second, iv (0 : Int32)] []) := fun tt kt => go403 tt (st404 _ kt)
  have go406 : own_S p e below ST T404 (mkF m 227 #[rv o1, .val (.long cm), .second, .val (.long ln), .second, .val (.long lw), .second, iv (0 : Int32)] [(.ref o1), (.ref o1)]) := fun tt kt => go405 tt (by
      refine XS.aloadN X404.here hx rfl (hb hby d4_225) rfl rfl ?_
      refine XS.dup X404.here hx rfl (hb hby d4_226) rfl rfl ?_
      exact kt)
  have f407 := ((LI_end.other W387 (Or.inl LI_n1)).other W404 (Or.inl LI_n2))
  obtain ⟨T408, X408, e408, st408⟩ := getF X404 hx hZ hown (host := "") (Or.inl (W 17 rfl)) Via.refl e404 f407 (g := (mkF m 227 #[rv o1, .val (.long cm), .second, .val (.long ln), .second, .val (.long lw), .second, iv (0 : Int32)] [(.ref o1), (.ref o1)])) rfl rfl (hb hby d4_227)
  have go409 : own_S p e below ST T408 (mkF m 230 #[rv o1, .val (.long cm), .second, .val (.long ln), .second, .val (.long lw), .second, iv (0 : Int32)] [(.long en), (.ref o1)]) := fun tt kt => go406 tt (st408 _ kt)
  have go410 : own_S p e below ST T408 (mkF m 232 #[rv o1, .val (.long cm), .second, .val (.long ln), .second, .val (.long lw), .second, iv (0 : Int32)] [(.long (en + ln)), (.ref o1)]) := fun tt kt => go409 tt (by
      refine XS.lloadN X408.here hx rfl (hb hby d4_230) rfl ?_
      refine XS.ladd X408.here hx rfl (hb hby d4_231) rfl ?_
      exact kt)
  have f412 := ((LI_E.wr W387).wr W404)
  obtain ⟨T411, h411, X411, e411, W411, st411⟩ := putF X408 hx hZ hown (host := "") (Or.inl (W 17 rfl)) Via.refl e408 f407 f412 (Or.inl (W 18 rfl)) (W 2 rfl) (ty := .long) (by decide) rfl rfl (g := (mkF m 232 #[rv o1, .val (.long cm), .second, .val (.long ln), .second, .val (.long lw), .second, iv (0 : Int32)] [(.long (en + ln)), (.ref o1)])) rfl rfl (hb hby d4_232)
  have Fw411 := f407.same W411
  have N411 := Fr.snoc X411 N404 LI_go
  have go413 : own_S p e below ST T411 (mkF m 235 #[rv o1, .val (.long cm), .second, .val (.long ln), .second, .val (.long lw), .second, iv (0 : Int32)] []) := fun tt kt => go410 tt (st411 _ kt)
  have KC411 : Keep h0 h411 [o1, bs, bl, br] := KC404.wr W411 (Or.inl (List.mem_of_getElem? (i := 0) rfl))
  have go414 : own_S p e below ST T411 (mkF m 237 #[rv o1, .val (.long cm), .second, .val (.long ln), .second, .val (.long lw), .second, iv (0 : Int32)] [(.ref o1), (.ref o1)]) := fun tt kt => go413 tt (by
      refine XS.aloadN X411.here hx rfl (hb hby d4_235) rfl rfl ?_
      refine XS.aloadN X411.here hx rfl (hb hby d4_236) rfl rfl ?_
      exact kt)
  have f415 := (((LI_highest.other W387 (Or.inl LI_n1)).other W404 (Or.inl LI_n2)).other W411 (Or.inr (slot_ne (Or.inl (W 32 rfl)) (Or.inl (W 18 rfl)) (by decide) (t := .long) (t' := .long) (by decide) (by decide))))
  obtain ⟨T416, X416, e416, st416⟩ := getF X411 hx hZ hown (host := "") (Or.inl (W 31 rfl)) Via.refl e411 f415 (g := (mkF m 237 #[rv o1, .val (.long cm), .second, .val (.long ln), .second, .val (.long lw), .second, iv (0 : Int32)] [(.ref o1), (.ref o1)])) rfl rfl (hb hby d4_237)
  have go417 : own_S p e below ST T416 (mkF m 240 #[rv o1, .val (.long cm), .second, .val (.long ln), .second, .val (.long lw), .second, iv (0 : Int32)] [(.long hi), (.ref o1)]) := fun tt kt => go414 tt (st416 _ kt)
  have go418 : own_S p e below ST T416 (mkF m 241 #[rv o1, .val (.long cm), .second, .val (.long ln), .second, .val (.long lw), .second, iv (0 : Int32)] [(.long cm), (.long hi), (.ref o1)]) := fun tt kt => go417 tt (by
      refine XS.lloadN X416.here hx rfl (hb hby d4_240) rfl ?_
      exact kt)
  have zs420 := (Nat.le_trans (Nat.le_trans zs402 (Keep.of_wr W404).1) (Keep.of_wr W411).1)
  obtain ⟨_, _, ⟨T419, L419, k419, n419⟩, -, X419, ⟨Lc419, hQ419, l419, y419, z419⟩, st419⟩ := Jvm.LawKit.callS X416 hx (y := (⟨"java/lang/Math", "max", "(JJ)J"⟩ : MethodName)) hown (mvT hZ (W 33 rfl)) (mvT hZ (W 34 rfl)) (mvT hZ (W 35 rfl)) (mvT hZ (W 36 rfl)) (by decide) (backOf (W := 1) (rm5 l Z a0 hw [] hi cm h411 n0 zs420 ) hZ (W 36 rfl) (W 35 rfl) (by decide) (by decide)) (g := (mkF m 241 #[rv o1, .val (.long cm), .second, .val (.long ln), .second, .val (.long lw), .second, iv (0 : Int32)] [(.long cm), (.long hi), (.ref o1)])) rfl (by rw [hml]; rfl) (argsL := [(.long hi), (.long cm)]) (rest := [(.ref o1)]) (lenOf pd93 rfl) rfl (by show 2 * 0 + _ ≤ _; exact Nat.le_of_eq rfl) (hb hby d4_241) (fun _ _ => ⟨rfl, e416, (by decide : 0 + 0 ≤ _), (by decide : 0 + 0 ≤ _)⟩)
  dsimp only [Pt.U, Pt.locs, Pt.cells, Pt.slots] at X419 l419 y419 z419 st419 hQ419
  subst l419 y419 z419
  obtain ⟨rfl, Nq419, eh419⟩ := hQ419
  have N419 := Fr.app N411 Nq419
  have go421 : own_S p e below ST T419 (mkF m 244 #[rv o1, .val (.long cm), .second, .val (.long ln), .second, .val (.long lw), .second, iv (0 : Int32)] [(.long (own_maxJ hi cm)), (.ref o1)]) := fun tt kt => go418 tt (st419 _ kt)
  have f423 := (f412.wr W411)
  obtain ⟨T422, h422, X422, e422, W422, st422⟩ := putF X419 hx hZ hown (host := "") (Or.inl (W 31 rfl)) Via.refl eh419 f415 f423 (Or.inl (W 32 rfl)) (W 2 rfl) (ty := .long) (by decide) rfl rfl (g := (mkF m 244 #[rv o1, .val (.long cm), .second, .val (.long ln), .second, .val (.long lw), .second, iv (0 : Int32)] [(.long (own_maxJ hi cm)), (.ref o1)])) rfl rfl (hb hby d4_244)
  have Fw422 := f415.same W422
  have N422 := Fr.snoc X422 N419 LI_go
  have go424 : own_S p e below ST T422 (mkF m 247 #[rv o1, .val (.long cm), .second, .val (.long ln), .second, .val (.long lw), .second, iv (0 : Int32)] []) := fun tt kt => go421 tt (st422 _ kt)
  have KC422 : Keep h0 h422 [o1, bs, bl, br] := KC411.wr W422 (Or.inl (List.mem_of_getElem? (i := 0) rfl))
  have f425 := (f423.wr W422)
  have f426 := ((((LI_starts.other W387 (Or.inl LI_n1)).other W404 (Or.inl LI_n2)).other W411 (Or.inr (slot_ne (Or.inl (W 12 rfl)) (Or.inl (W 18 rfl)) (by decide) (t := (.array .long)) (t' := .long) (by decide) (by decide)))).other W422 (Or.inr (slot_ne (Or.inl (W 12 rfl)) (Or.inl (W 32 rfl)) (by decide) (t := (.array .long)) (t' := .long) (by decide) (by decide))))
  have f427 := ((((LI_lows.other W387 (Or.inl LI_n1)).other W404 (Or.inl LI_n2)).other W411 (Or.inr (slot_ne (Or.inl (W 14 rfl)) (Or.inl (W 18 rfl)) (by decide) (t := (.array .long)) (t' := .long) (by decide) (by decide)))).other W422 (Or.inr (slot_ne (Or.inl (W 14 rfl)) (Or.inl (W 32 rfl)) (by decide) (t := (.array .long)) (t' := .long) (by decide) (by decide))))
  have f428 := (((f390.other W404 (Or.inl LI_n2)).other W411 (Or.inr (slot_ne (Or.inl (W 16 rfl)) (Or.inl (W 18 rfl)) (by decide) (t := (.array .long)) (t' := .long) (by decide) (by decide)))).other W422 (Or.inr (slot_ne (Or.inl (W 16 rfl)) (Or.inl (W 32 rfl)) (by decide) (t := (.array .long)) (t' := .long) (by decide) (by decide))))
  have f429 := (Fw411.other W422 (Or.inr (slot_ne (Or.inl (W 18 rfl)) (Or.inl (W 32 rfl)) (by decide) (t := .long) (t' := .long) (by decide) (by decide))))
  have f430 := ((((LI_count.other W387 (Or.inl LI_n1)).other W404 (Or.inl LI_n2)).other W411 (Or.inr (slot_ne (Or.inl (W 25 rfl)) (Or.inl (W 18 rfl)) (by decide) (t := .int) (t' := .long) (by decide) (by decide)))).other W422 (Or.inr (slot_ne (Or.inl (W 25 rfl)) (Or.inl (W 32 rfl)) (by decide) (t := .int) (t' := .long) (by decide) (by decide))))
  have f431 := ((((LI_Vs.other W387 LI_n3).other W404 LI_n4).other W411 (Ne.symm LI_n0)).other W422 (Ne.symm LI_n0))
  have f432 := (((V387.other W404 LI_n5).other W411 (Ne.symm LI_n1)).other W422 (Ne.symm LI_n1))
  have f433 := ((V404.other W411 (Ne.symm LI_n2)).other W422 (Ne.symm LI_n2))
  obtain ⟨fs, hr, hrun, hended, hW, hsame⟩ := X422.leave (v := none) (fun _ => rfl) (hlocks := by first | exact BodyLoose.notSynchronized Bd | exact Body.notSynchronized Bd)
  refine ⟨_, _, pre0 _ (go424 _ ?_), hrun, hended, _, _, rfl, ?_, ⟨_, rfl⟩, hW, hsame.mono (by decide) (by decide)⟩
  · exact X422.returnOut hx Bd.returns (hb hby d4_247) hr
  · show Q4c1m Z o1 bs bl br ks kl kr cm ln en hi s0 w0 r0 h0 n0 _ T422.heap _
    rw [e422]
    exact ⟨lw, rfl, N422, KC422, ⟨f425, f426, f427, f428, f429, f430, Fw422, f431, f432, f433, LI_go, LI_gs, LI_gl, LI_gr, LI_n0, LI_n1, LI_n2, LI_n3, LI_n4, LI_n5⟩⟩
theorem ef4c2 (m : MethodId) (x0 : Addr) (x1 : Int64) (x2 : Int64) : entryFrame m #[(.ref x0), (.long x1), (.long x2)] 8 = mkF m 0 #[.val (.ref x0), .val (.long x1), .second, .val (.long x2), .second, .unset, .unset, .unset] [] := by first | (simp [entryFrame, mkF, argsToLocals, Value.category]; done) | rfl
def Q4c2 (Z : State) (o1 : Addr) (bs : Addr) (bl : Addr) (br : Addr) (ks : ClassId) (kl : ClassId) (kr : ClassId) (cm : Int64) (ln : Int64) (en : Int64) (hi : Int64) (s0 : Int64) (s1 : Int64) (w0 : Int64) (w1 : Int64) (r0 : Int64) (r1 : Int64) (h0 : Heap) (n0 : Nat) (v : Option Value) (h : Heap) (L : List Loc) : Prop := ∃ lw : Int64, v = none ∧ Fr n0 L ∧ Keep h0 h [o1, bs, bl, br] ∧ own_LI Z h n0 o1 bs bl br ks kl kr [(.long s0), (.long s1), (.long en)] [(.long w0), (.long w1), (.long lw)] [(.long r0), (.long r1), (.long (own_maxJ r1 cm))] (en + ln) (3 : Int32) (own_maxJ hi cm)
set_option maxRecDepth 65536 in
set_option maxHeartbeats 40000000 in
theorem rm4c2 (l : Launch) (Z : State) (a0 : Array Value) (hw : ∀ d ∈ tables_1, d.before a0 Z = true) (ws : List Jvm.Cond) (o1 : Addr) (bs : Addr) (bl : Addr) (br : Addr) (ks : ClassId) (kl : ClassId) (kr : ClassId) (cm : Int64) (ln : Int64) (en : Int64) (hi : Int64) (s0 : Int64) (s1 : Int64) (w0 : Int64) (w1 : Int64) (r0 : Int64) (r1 : Int64) (h0 : Heap) (n0 : Nat) (Z0 : n0 ≤ h0.size) (LI : own_LI Z h0 n0 o1 bs bl br ks kl kr [(.long s0), (.long s1), (.long (0 : Int64))] [(.long w0), (.long w1), (.long (0 : Int64))] [(.long r0), (.long r1), (.long (0 : Int64))] en (2 : Int32) hi) (hm : ¬ (lcmpW (en - s1) (65536 : Int64) < (0 : Int32))) :
    MetFree l (⟨"com/example/altocommit/altocommit/store/LogIndex", "add", "(JJ)V"⟩ : MethodName) (head1 (Jvm.Cond.code (⟨"com/example/altocommit/altocommit/store/LogIndex", "add", "(JJ)V"⟩ : MethodName) prog_214_method_2_code 8 none :: ws) ({ frames := 1, cells := 0, slots := 0, locals := 17 } : Room)) (fun aa UU => aa = #[(.ref o1), (.long cm), (.long ln)] ∧ Z.Warmed39 UU.vm ∧ UU.heap = h0) (fun _ _ _ _ _ => True) (fun _ UU oo UU' => ∃ vv LL, oo = .returned vv ∧ Q4c2 Z o1 bs bl br ks kl kr cm ln en hi s0 s1 w0 w1 r0 r1 h0 n0 vv UU'.heap LL ∧ FrameEnd UU oo UU' LL ({ frames := 1, cells := 0, slots := 0, locals := 17 } : Room).cells ({ frames := 1, cells := 0, slots := 0, locals := 17 } : Room).slots) := by
  have W : ∀ {d : Jvm.Cond} (i : Nat), tables_1[i]? = some d → d.before a0 Z = true := fun i h => hw _ (List.mem_of_getElem? h)
  refine MetFree.of_bodySF (plainFor_of_name pn16) hisR ?_
  intro p e s m args below meth c s₁ Bd hml0 hP hK
  obtain ⟨rfl, hZ, hh⟩ := hP
  have hx := Bd.exec
  have hby := Bd.bytes
  have hml : c.maxLocals = 8 := hml0
  have hown : s.vm.findClass "com/example/altocommit/altocommit/store/LogIndex" = some m.cls := findClass_of_methodNamed Bd.named
  have hnm := (name_of_methodNamed Bd.named Bd.method).1
  have X0 : Stand p l e ({ frames := 1, cells := 0, slots := 0, locals := 17 } : Room) s m #[(.ref o1), (.long cm), (.long ln)] below meth c s₁ [] 0 0 := Stand.of_body Bd
  have e0 : s₁.heap = h0 := by rw [← hh, Bd.state]; rfl
  have N0 := Fr.nil n0
  have pre0 : ∀ tt, Steps p.tables e below (s₁.setTop (mkF m 0 #[rv o1, .val (.long cm), .second, .val (.long ln), .second, .unset, .unset, .unset] [])) tt → Steps p.tables e below (s₁.setTop (entryFrame m #[(.ref o1), (.long cm), (.long ln)] 8)) tt := fun tt kt => castTop (ef4c2 m o1 cm ln) kt
  obtain ⟨ST, hST⟩ : ∃ z : State, z = s₁.setTop (mkF m 0 #[rv o1, .val (.long cm), .second, .val (.long ln), .second, .unset, .unset, .unset] []) := ⟨_, rfl⟩
  rw [← hST] at pre0
  obtain ⟨LI_E, LI_starts, LI_lows, LI_reaches, LI_end, LI_count, LI_highest, LI_Vs, LI_Vl, LI_Vr, LI_go, LI_gs, LI_gl, LI_gr, LI_n0, LI_n1, LI_n2, LI_n3, LI_n4, LI_n5⟩ := LI
  have KC0 : Keep h0 h0 [o1, bs, bl, br] := Keep.refl h0 [o1, bs, bl, br]
  have go434 : own_S p e below ST s₁ (mkF m 3 #[rv o1, .val (.long cm), .second, .val (.long ln), .second, .unset, .unset, .unset] [(.int (lcmpW cm (0 : Int64)))]) := fun tt kt => (by
      rw [hST]
      show Steps p.tables e below (s₁.setTop (mkF m 0 #[rv o1, .val (.long cm), .second, .val (.long ln), .second, .unset, .unset, .unset] [])) _
      refine XS.lloadN X0.here hx rfl (hb hby d4_0) rfl ?_
      refine XS.lconst X0.here hx rfl (hb hby d4_1) ?_
      refine XS.lcmp X0.here hx rfl (hb hby d4_2) rfl ?_
      exact kt)
  obtain ⟨lw, hlw, sg435⟩ : ∃ (lw : Int64), lw = (if (lcmpW cm (0 : Int64)) = (0 : Int32) then (9223372036854775807 : Int64) else cm) ∧ ∀ tt, Steps p.tables e below (s₁.setTop (mkF m 13 #[rv o1, .val (.long cm), .second, .val (.long ln), .second, .unset, .unset, .unset] [(.long lw)])) tt → Steps p.tables e below (s₁.setTop (mkF m 3 #[rv o1, .val (.long cm), .second, .val (.long ln), .second, .unset, .unset, .unset] [(.int (lcmpW cm (0 : Int64)))])) tt := by
    by_cases hd3_0 : (lcmpW cm (0 : Int64)) = (0 : Int32)
    · refine ⟨_, (if_pos hd3_0).symm, fun tt kt => ?_⟩
      show Steps p.tables e below (s₁.setTop (mkF m 3 #[rv o1, .val (.long cm), .second, .val (.long ln), .second, .unset, .unset, .unset] [(.int (lcmpW cm (0 : Int64)))])) _
      refine XS.ifNo X0.here hx rfl (hb hby d4_3) rfl ((if0 _ _).trans (teq hd3_0).2) ?_
      refine X0.ldc2Long hx hown (mvT hZ (W 41 rfl)) (g := (mkF m 6 #[rv o1, .val (.long cm), .second, .val (.long ln), .second, .unset, .unset, .unset] [])) rfl (hb hby d4_6) _ ?_
      refine XS.goto X0.here hx rfl (pc0 := 9) (pc' := 13) rfl (hb hby d4_9) (by decide) (by decide) ?_
      exact kt
    · refine ⟨_, (if_neg hd3_0).symm, fun tt kt => ?_⟩
      show Steps p.tables e below (s₁.setTop (mkF m 3 #[rv o1, .val (.long cm), .second, .val (.long ln), .second, .unset, .unset, .unset] [(.int (lcmpW cm (0 : Int64)))])) _
      refine XS.ifYes X0.here hx rfl (pc0 := 3) (pc' := 12) rfl (hb hby d4_3) rfl ((if0 _ _).trans (feq hd3_0).2) (by decide) (by decide) ?_
      refine XS.lloadN X0.here hx rfl (hb hby d4_12) rfl ?_
      exact kt
  have go436 : own_S p e below ST s₁ (mkF m 13 #[rv o1, .val (.long cm), .second, .val (.long ln), .second, .unset, .unset, .unset] [(.long lw)]) := fun tt kt => go434 tt (sg435 _ kt)
  have go437 : own_S p e below ST s₁ (mkF m 16 #[rv o1, .val (.long cm), .second, .val (.long ln), .second, .val (.long lw), .second, .unset] [(.ref o1)]) := fun tt kt => go436 tt (by
      refine XS.lstore X0.here hx rfl (hb hby d4_13) rfl (l' := #[rv o1, .val (.long cm), .second, .val (.long ln), .second, .val (.long lw), .second, .unset]) rfl ?_
      refine XS.aloadN X0.here hx rfl (hb hby d4_15) rfl rfl ?_
      exact kt)
  obtain ⟨T438, X438, e438, st438⟩ := getF X0 hx hZ hown (host := "") (Or.inl (W 24 rfl)) Via.refl e0 LI_count (g := (mkF m 16 #[rv o1, .val (.long cm), .second, .val (.long ln), .second, .val (.long lw), .second, .unset] [(.ref o1)])) rfl rfl (hb hby d4_16)
  have go439 : own_S p e below ST T438 (mkF m 19 #[rv o1, .val (.long cm), .second, .val (.long ln), .second, .val (.long lw), .second, .unset] [(.int (2 : Int32))]) := fun tt kt => go437 tt (st438 _ kt)
  have go440 : own_S p e below ST T438 (mkF m 23 #[rv o1, .val (.long cm), .second, .val (.long ln), .second, .val (.long lw), .second, .unset] [(.ref o1)]) := fun tt kt => go439 tt (by
      refine XS.ifNo X438.here hx rfl (hb hby d4_19) rfl ((if0 _ _).trans (feq (by decide : ¬ ((2 : Int32) = (0 : Int32)))).1) ?_
      refine XS.aloadN X438.here hx rfl (hb hby d4_22) rfl rfl ?_
      exact kt)
  obtain ⟨T441, X441, e441, st441⟩ := getF X438 hx hZ hown (host := "") (Or.inl (W 17 rfl)) Via.refl e438 LI_end (g := (mkF m 23 #[rv o1, .val (.long cm), .second, .val (.long ln), .second, .val (.long lw), .second, .unset] [(.ref o1)])) rfl rfl (hb hby d4_23)
  have go442 : own_S p e below ST T441 (mkF m 26 #[rv o1, .val (.long cm), .second, .val (.long ln), .second, .val (.long lw), .second, .unset] [(.long en)]) := fun tt kt => go440 tt (st441 _ kt)
  have go443 : own_S p e below ST T441 (mkF m 27 #[rv o1, .val (.long cm), .second, .val (.long ln), .second, .val (.long lw), .second, .unset] [(.ref o1), (.long en)]) := fun tt kt => go442 tt (by
      refine XS.aloadN X441.here hx rfl (hb hby d4_26) rfl rfl ?_
      exact kt)
  obtain ⟨T444, X444, e444, st444⟩ := getF X441 hx hZ hown (host := "") (Or.inl (W 11 rfl)) Via.refl e441 LI_starts (g := (mkF m 27 #[rv o1, .val (.long cm), .second, .val (.long ln), .second, .val (.long lw), .second, .unset] [(.ref o1), (.long en)])) rfl rfl (hb hby d4_27)
  have go445 : own_S p e below ST T444 (mkF m 30 #[rv o1, .val (.long cm), .second, .val (.long ln), .second, .val (.long lw), .second, .unset] [(.ref bs), (.long en)]) := fun tt kt => go443 tt (st444 _ kt)
  have go446 : own_S p e below ST T444 (mkF m 31 #[rv o1, .val (.long cm), .second, .val (.long ln), .second, .val (.long lw), .second, .unset] [(.ref o1), (.ref bs), (.long en)]) := fun tt kt => go445 tt (by
      refine XS.aloadN X444.here hx rfl (hb hby d4_30) rfl rfl ?_
      exact kt)
  obtain ⟨T447, X447, e447, st447⟩ := getF X444 hx hZ hown (host := "") (Or.inl (W 24 rfl)) Via.refl e444 LI_count (g := (mkF m 31 #[rv o1, .val (.long cm), .second, .val (.long ln), .second, .val (.long lw), .second, .unset] [(.ref o1), (.ref bs), (.long en)])) rfl rfl (hb hby d4_31)
  have go448 : own_S p e below ST T447 (mkF m 34 #[rv o1, .val (.long cm), .second, .val (.long ln), .second, .val (.long lw), .second, .unset] [(.int (2 : Int32)), (.ref bs), (.long en)]) := fun tt kt => go446 tt (st447 _ kt)
  have go449 : own_S p e below ST T447 (mkF m 36 #[rv o1, .val (.long cm), .second, .val (.long ln), .second, .val (.long lw), .second, .unset] [(.int (1 : Int32)), (.ref bs), (.long en)]) := fun tt kt => go448 tt (by
      refine XS.iconst X447.here hx rfl (hb hby d4_34) ?_
      refine XS.isub X447.here hx rfl (hb hby d4_35) rfl ?_
      exact kt)
  obtain ⟨cl450, Ar450, q450, S450, M450, H450, G450⟩ := id LI_Vs
  have hin450 : ¬ ((1 : Int32) < 0 ∨ cl450.slots.size ≤ ((1 : Int32)).toNatClampNeg) := inb_of S450 ⟨by decide, by decide⟩
  have hat450 : cl450.slots[((1 : Int32)).toNatClampNeg]? = some (.long s1) := H450.at hin450 rfl
  have go451 : own_S p e below ST T447 (mkF m 37 #[rv o1, .val (.long cm), .second, .val (.long ln), .second, .val (.long lw), .second, .unset] [(.long s1), (.long en)]) := fun tt kt => go449 tt (by
      refine X447.laload hx (j := (1 : Int32)) (v := (.long s1)) (by rw [e447]; exact Ar450.1) (State.isArrayOf_alike hZ.alike Ar450.2.1) Ar450.2.2 hin450 hat450 (g := (mkF m 36 #[rv o1, .val (.long cm), .second, .val (.long ln), .second, .val (.long lw), .second, .unset] [(.int (1 : Int32)), (.ref bs), (.long en)])) rfl rfl (hb hby d4_36) _ ?_
      exact kt)
  have go452 : own_S p e below ST T447 (mkF m 42 #[rv o1, .val (.long cm), .second, .val (.long ln), .second, .val (.long lw), .second, .unset] [(.int (lcmpW (en - s1) (65536 : Int64)))]) := fun tt kt => go451 tt (by
      refine XS.lsub X447.here hx rfl (hb hby d4_37) rfl ?_
      refine X447.ldc2Long hx hown (mvT hZ (W 37 rfl)) (g := (mkF m 38 #[rv o1, .val (.long cm), .second, .val (.long ln), .second, .val (.long lw), .second, .unset] [(.long (en - s1))])) rfl (hb hby d4_38) _ ?_
      refine XS.lcmp X447.here hx rfl (hb hby d4_41) rfl ?_
      exact kt)
  have go453 : own_S p e below ST T447 (mkF m 46 #[rv o1, .val (.long cm), .second, .val (.long ln), .second, .val (.long lw), .second, .unset] [(.ref o1)]) := fun tt kt => go452 tt (by
      refine XS.ifNo X447.here hx rfl (hb hby d4_42) rfl ((if0 _ _).trans (flt hm).1) ?_
      refine XS.aloadN X447.here hx rfl (hb hby d4_45) rfl rfl ?_
      exact kt)
  obtain ⟨T454, X454, e454, st454⟩ := getF X447 hx hZ hown (host := "") (Or.inl (W 24 rfl)) Via.refl e447 LI_count (g := (mkF m 46 #[rv o1, .val (.long cm), .second, .val (.long ln), .second, .val (.long lw), .second, .unset] [(.ref o1)])) rfl rfl (hb hby d4_46)
  have go455 : own_S p e below ST T454 (mkF m 49 #[rv o1, .val (.long cm), .second, .val (.long ln), .second, .val (.long lw), .second, .unset] [(.int (2 : Int32))]) := fun tt kt => go453 tt (st454 _ kt)
  have go456 : own_S p e below ST T454 (mkF m 50 #[rv o1, .val (.long cm), .second, .val (.long ln), .second, .val (.long lw), .second, .unset] [(.ref o1), (.int (2 : Int32))]) := fun tt kt => go455 tt (by
      refine XS.aloadN X454.here hx rfl (hb hby d4_49) rfl rfl ?_
      exact kt)
  obtain ⟨T457, X457, e457, st457⟩ := getF X454 hx hZ hown (host := "") (Or.inl (W 11 rfl)) Via.refl e454 LI_starts (g := (mkF m 50 #[rv o1, .val (.long cm), .second, .val (.long ln), .second, .val (.long lw), .second, .unset] [(.ref o1), (.int (2 : Int32))])) rfl rfl (hb hby d4_50)
  have go458 : own_S p e below ST T457 (mkF m 53 #[rv o1, .val (.long cm), .second, .val (.long ln), .second, .val (.long lw), .second, .unset] [(.ref bs), (.int (2 : Int32))]) := fun tt kt => go456 tt (st457 _ kt)
  obtain ⟨cl459, Ar459, q459, S459, M459, H459, G459⟩ := id LI_Vs
  have go460 : own_S p e below ST T457 (mkF m 54 #[rv o1, .val (.long cm), .second, .val (.long ln), .second, .val (.long lw), .second, .unset] [(.int (16 : Int32)), (.int (2 : Int32))]) := fun tt kt => go458 tt (by
      refine X457.arraylength hx (by rw [e457]; exact Ar459.1) (State.isArrayOf_alike hZ.alike Ar459.2.1) (g := (mkF m 53 #[rv o1, .val (.long cm), .second, .val (.long ln), .second, .val (.long lw), .second, .unset] [(.ref bs), (.int (2 : Int32))])) rfl rfl (hb hby d4_53) _ ?_
      rw [len_of S459 M459]
      exact kt)
  have go461 : own_S p e below ST T457 (mkF m 109 #[rv o1, .val (.long cm), .second, .val (.long ln), .second, .val (.long lw), .second, .unset] [(.ref o1)]) := fun tt kt => go460 tt (by
      refine XS.icmpYes X457.here hx rfl (pc0 := 54) (pc' := 108) rfl (hb hby d4_54) rfl (feq (by decide : ¬ ((2 : Int32) = (16 : Int32)))).2 (by decide) (by decide) ?_
      refine XS.aloadN X457.here hx rfl (hb hby d4_108) rfl rfl ?_
      exact kt)
  obtain ⟨T462, X462, e462, st462⟩ := getF X457 hx hZ hown (host := "") (Or.inl (W 11 rfl)) Via.refl e457 LI_starts (g := (mkF m 109 #[rv o1, .val (.long cm), .second, .val (.long ln), .second, .val (.long lw), .second, .unset] [(.ref o1)])) rfl rfl (hb hby d4_109)
  have go463 : own_S p e below ST T462 (mkF m 112 #[rv o1, .val (.long cm), .second, .val (.long ln), .second, .val (.long lw), .second, .unset] [(.ref bs)]) := fun tt kt => go461 tt (st462 _ kt)
  have go464 : own_S p e below ST T462 (mkF m 113 #[rv o1, .val (.long cm), .second, .val (.long ln), .second, .val (.long lw), .second, .unset] [(.ref o1), (.ref bs)]) := fun tt kt => go463 tt (by
      refine XS.aloadN X462.here hx rfl (hb hby d4_112) rfl rfl ?_
      exact kt)
  obtain ⟨T465, X465, e465, st465⟩ := getF X462 hx hZ hown (host := "") (Or.inl (W 24 rfl)) Via.refl e462 LI_count (g := (mkF m 113 #[rv o1, .val (.long cm), .second, .val (.long ln), .second, .val (.long lw), .second, .unset] [(.ref o1), (.ref bs)])) rfl rfl (hb hby d4_113)
  have go466 : own_S p e below ST T465 (mkF m 116 #[rv o1, .val (.long cm), .second, .val (.long ln), .second, .val (.long lw), .second, .unset] [(.int (2 : Int32)), (.ref bs)]) := fun tt kt => go464 tt (st465 _ kt)
  have go467 : own_S p e below ST T465 (mkF m 117 #[rv o1, .val (.long cm), .second, .val (.long ln), .second, .val (.long lw), .second, .unset] [(.ref o1), (.int (2 : Int32)), (.ref bs)]) := fun tt kt => go466 tt (by
      refine XS.aloadN X465.here hx rfl (hb hby d4_116) rfl rfl ?_
      exact kt)
  obtain ⟨T468, X468, e468, st468⟩ := getF X465 hx hZ hown (host := "") (Or.inl (W 17 rfl)) Via.refl e465 LI_end (g := (mkF m 117 #[rv o1, .val (.long cm), .second, .val (.long ln), .second, .val (.long lw), .second, .unset] [(.ref o1), (.int (2 : Int32)), (.ref bs)])) rfl rfl (hb hby d4_117)
  have go469 : own_S p e below ST T468 (mkF m 120 #[rv o1, .val (.long cm), .second, .val (.long ln), .second, .val (.long lw), .second, .unset] [(.long en), (.int (2 : Int32)), (.ref bs)]) := fun tt kt => go467 tt (st468 _ kt)
  obtain ⟨cl470, Ar470, q470, S470, M470, H470, G470⟩ := id LI_Vs
  have hin470 : ¬ ((2 : Int32) < 0 ∨ cl470.slots.size ≤ ((2 : Int32)).toNatClampNeg) := inb_of S470 ⟨by decide, by decide⟩
  obtain ⟨T470, h470, X470, e470, W470, st470⟩ := stJ X468 hx hZ e468 Ar470 (j := (2 : Int32)) hin470 (g := (mkF m 120 #[rv o1, .val (.long cm), .second, .val (.long ln), .second, .val (.long lw), .second, .unset] [(.long en), (.int (2 : Int32)), (.ref bs)])) rfl rfl (hb hby d4_120)
  have V470 : Arv Z h470 bs ks .long (16 : Int32) [(.long s0), (.long s1), (.long en)] (.long (0 : Int64)) := Arv.set Ar470 q470 S470 M470 H470 G470 rfl W470 2 rfl (Nat.le_of_ble_eq_true rfl)
  have N470 := Fr.snoc X470 N0 LI_gs
  have KC470 : Keep h0 h470 [o1, bs, bl, br] := KC0.wr W470 (Or.inl (List.mem_of_getElem? (i := 1) rfl))
  have go471 : own_S p e below ST T470 (mkF m 121 #[rv o1, .val (.long cm), .second, .val (.long ln), .second, .val (.long lw), .second, .unset] []) := fun tt kt => go469 tt (st470 _ kt)
  have go472 : own_S p e below ST T470 (mkF m 122 #[rv o1, .val (.long cm), .second, .val (.long ln), .second, .val (.long lw), .second, .unset] [(.ref o1)]) := fun tt kt => go471 tt (by
      refine XS.aloadN X470.here hx rfl (hb hby d4_121) rfl rfl ?_
      exact kt)
  have f473 := (LI_lows.other W470 (Or.inl LI_n0))
  obtain ⟨T474, X474, e474, st474⟩ := getF X470 hx hZ hown (host := "") (Or.inl (W 13 rfl)) Via.refl e470 f473 (g := (mkF m 122 #[rv o1, .val (.long cm), .second, .val (.long ln), .second, .val (.long lw), .second, .unset] [(.ref o1)])) rfl rfl (hb hby d4_122)
  have go475 : own_S p e below ST T474 (mkF m 125 #[rv o1, .val (.long cm), .second, .val (.long ln), .second, .val (.long lw), .second, .unset] [(.ref bl)]) := fun tt kt => go472 tt (st474 _ kt)
  have go476 : own_S p e below ST T474 (mkF m 126 #[rv o1, .val (.long cm), .second, .val (.long ln), .second, .val (.long lw), .second, .unset] [(.ref o1), (.ref bl)]) := fun tt kt => go475 tt (by
      refine XS.aloadN X474.here hx rfl (hb hby d4_125) rfl rfl ?_
      exact kt)
  have f477 := (LI_count.other W470 (Or.inl LI_n0))
  obtain ⟨T478, X478, e478, st478⟩ := getF X474 hx hZ hown (host := "") (Or.inl (W 24 rfl)) Via.refl e474 f477 (g := (mkF m 126 #[rv o1, .val (.long cm), .second, .val (.long ln), .second, .val (.long lw), .second, .unset] [(.ref o1), (.ref bl)])) rfl rfl (hb hby d4_126)
  have go479 : own_S p e below ST T478 (mkF m 129 #[rv o1, .val (.long cm), .second, .val (.long ln), .second, .val (.long lw), .second, .unset] [(.int (2 : Int32)), (.ref bl)]) := fun tt kt => go476 tt (st478 _ kt)
  have go480 : own_S p e below ST T478 (mkF m 131 #[rv o1, .val (.long cm), .second, .val (.long ln), .second, .val (.long lw), .second, .unset] [(.long lw), (.int (2 : Int32)), (.ref bl)]) := fun tt kt => go479 tt (by
      refine XS.lload X478.here hx rfl (hb hby d4_129) rfl ?_
      exact kt)
  have f482 := (LI_Vl.other W470 (Ne.symm LI_n3))
  obtain ⟨cl481, Ar481, q481, S481, M481, H481, G481⟩ := id f482
  have hin481 : ¬ ((2 : Int32) < 0 ∨ cl481.slots.size ≤ ((2 : Int32)).toNatClampNeg) := inb_of S481 ⟨by decide, by decide⟩
  obtain ⟨T481, h481, X481, e481, W481, st481⟩ := stJ X478 hx hZ e478 Ar481 (j := (2 : Int32)) hin481 (g := (mkF m 131 #[rv o1, .val (.long cm), .second, .val (.long ln), .second, .val (.long lw), .second, .unset] [(.long lw), (.int (2 : Int32)), (.ref bl)])) rfl rfl (hb hby d4_131)
  have V481 : Arv Z h481 bl kl .long (16 : Int32) [(.long w0), (.long w1), (.long lw)] (.long (0 : Int64)) := Arv.set Ar481 q481 S481 M481 H481 G481 rfl W481 2 rfl (Nat.le_of_ble_eq_true rfl)
  have N481 := Fr.snoc X481 N470 LI_gl
  have KC481 : Keep h0 h481 [o1, bs, bl, br] := KC470.wr W481 (Or.inl (List.mem_of_getElem? (i := 2) rfl))
  have go483 : own_S p e below ST T481 (mkF m 132 #[rv o1, .val (.long cm), .second, .val (.long ln), .second, .val (.long lw), .second, .unset] []) := fun tt kt => go480 tt (st481 _ kt)
  have go484 : own_S p e below ST T481 (mkF m 133 #[rv o1, .val (.long cm), .second, .val (.long ln), .second, .val (.long lw), .second, .unset] [(.ref o1)]) := fun tt kt => go483 tt (by
      refine XS.aloadN X481.here hx rfl (hb hby d4_132) rfl rfl ?_
      exact kt)
  have f485 := ((LI_reaches.other W470 (Or.inl LI_n0)).other W481 (Or.inl LI_n1))
  obtain ⟨T486, X486, e486, st486⟩ := getF X481 hx hZ hown (host := "") (Or.inl (W 15 rfl)) Via.refl e481 f485 (g := (mkF m 133 #[rv o1, .val (.long cm), .second, .val (.long ln), .second, .val (.long lw), .second, .unset] [(.ref o1)])) rfl rfl (hb hby d4_133)
  have go487 : own_S p e below ST T486 (mkF m 136 #[rv o1, .val (.long cm), .second, .val (.long ln), .second, .val (.long lw), .second, .unset] [(.ref br)]) := fun tt kt => go484 tt (st486 _ kt)
  have go488 : own_S p e below ST T486 (mkF m 137 #[rv o1, .val (.long cm), .second, .val (.long ln), .second, .val (.long lw), .second, .unset] [(.ref o1), (.ref br)]) := fun tt kt => go487 tt (by
      refine XS.aloadN X486.here hx rfl (hb hby d4_136) rfl rfl ?_
      exact kt)
  have f489 := (f477.other W481 (Or.inl LI_n1))
  obtain ⟨T490, X490, e490, st490⟩ := getF X486 hx hZ hown (host := "") (Or.inl (W 24 rfl)) Via.refl e486 f489 (g := (mkF m 137 #[rv o1, .val (.long cm), .second, .val (.long ln), .second, .val (.long lw), .second, .unset] [(.ref o1), (.ref br)])) rfl rfl (hb hby d4_137)
  have go491 : own_S p e below ST T490 (mkF m 140 #[rv o1, .val (.long cm), .second, .val (.long ln), .second, .val (.long lw), .second, .unset] [(.int (2 : Int32)), (.ref br)]) := fun tt kt => go488 tt (st490 _ kt)
  have go492 : own_S p e below ST T490 (mkF m 141 #[rv o1, .val (.long cm), .second, .val (.long ln), .second, .val (.long lw), .second, .unset] [(.ref o1), (.int (2 : Int32)), (.ref br)]) := fun tt kt => go491 tt (by
      refine XS.aloadN X490.here hx rfl (hb hby d4_140) rfl rfl ?_
      exact kt)
  obtain ⟨T493, X493, e493, st493⟩ := getF X490 hx hZ hown (host := "") (Or.inl (W 24 rfl)) Via.refl e490 f489 (g := (mkF m 141 #[rv o1, .val (.long cm), .second, .val (.long ln), .second, .val (.long lw), .second, .unset] [(.ref o1), (.int (2 : Int32)), (.ref br)])) rfl rfl (hb hby d4_141)
  have go494 : own_S p e below ST T493 (mkF m 144 #[rv o1, .val (.long cm), .second, .val (.long ln), .second, .val (.long lw), .second, .unset] [(.int (2 : Int32)), (.int (2 : Int32)), (.ref br)]) := fun tt kt => go492 tt (st493 _ kt)
  have go495 : own_S p e below ST T493 (mkF m 152 #[rv o1, .val (.long cm), .second, .val (.long ln), .second, .val (.long lw), .second, .unset] [(.ref o1), (.int (2 : Int32)), (.ref br)]) := fun tt kt => go494 tt (by
      refine XS.ifYes X493.here hx rfl (pc0 := 144) (pc' := 151) rfl (hb hby d4_144) rfl ((if0 _ _).trans (feq (by decide : ¬ ((2 : Int32) = (0 : Int32)))).2) (by decide) (by decide) ?_
      refine XS.aloadN X493.here hx rfl (hb hby d4_151) rfl rfl ?_
      exact kt)
  obtain ⟨T496, X496, e496, st496⟩ := getF X493 hx hZ hown (host := "") (Or.inl (W 15 rfl)) Via.refl e493 f485 (g := (mkF m 152 #[rv o1, .val (.long cm), .second, .val (.long ln), .second, .val (.long lw), .second, .unset] [(.ref o1), (.int (2 : Int32)), (.ref br)])) rfl rfl (hb hby d4_152)
  have go497 : own_S p e below ST T496 (mkF m 155 #[rv o1, .val (.long cm), .second, .val (.long ln), .second, .val (.long lw), .second, .unset] [(.ref br), (.int (2 : Int32)), (.ref br)]) := fun tt kt => go495 tt (st496 _ kt)
  have go498 : own_S p e below ST T496 (mkF m 156 #[rv o1, .val (.long cm), .second, .val (.long ln), .second, .val (.long lw), .second, .unset] [(.ref o1), (.ref br), (.int (2 : Int32)), (.ref br)]) := fun tt kt => go497 tt (by
      refine XS.aloadN X496.here hx rfl (hb hby d4_155) rfl rfl ?_
      exact kt)
  obtain ⟨T499, X499, e499, st499⟩ := getF X496 hx hZ hown (host := "") (Or.inl (W 24 rfl)) Via.refl e496 f489 (g := (mkF m 156 #[rv o1, .val (.long cm), .second, .val (.long ln), .second, .val (.long lw), .second, .unset] [(.ref o1), (.ref br), (.int (2 : Int32)), (.ref br)])) rfl rfl (hb hby d4_156)
  have go500 : own_S p e below ST T499 (mkF m 159 #[rv o1, .val (.long cm), .second, .val (.long ln), .second, .val (.long lw), .second, .unset] [(.int (2 : Int32)), (.ref br), (.int (2 : Int32)), (.ref br)]) := fun tt kt => go498 tt (st499 _ kt)
  have go501 : own_S p e below ST T499 (mkF m 161 #[rv o1, .val (.long cm), .second, .val (.long ln), .second, .val (.long lw), .second, .unset] [(.int (1 : Int32)), (.ref br), (.int (2 : Int32)), (.ref br)]) := fun tt kt => go500 tt (by
      refine XS.iconst X499.here hx rfl (hb hby d4_159) ?_
      refine XS.isub X499.here hx rfl (hb hby d4_160) rfl ?_
      exact kt)
  have f503 := ((LI_Vr.other W470 (Ne.symm LI_n4)).other W481 (Ne.symm LI_n5))
  obtain ⟨cl502, Ar502, q502, S502, M502, H502, G502⟩ := id f503
  have hin502 : ¬ ((1 : Int32) < 0 ∨ cl502.slots.size ≤ ((1 : Int32)).toNatClampNeg) := inb_of S502 ⟨by decide, by decide⟩
  have hat502 : cl502.slots[((1 : Int32)).toNatClampNeg]? = some (.long r1) := H502.at hin502 rfl
  have go504 : own_S p e below ST T499 (mkF m 162 #[rv o1, .val (.long cm), .second, .val (.long ln), .second, .val (.long lw), .second, .unset] [(.long r1), (.int (2 : Int32)), (.ref br)]) := fun tt kt => go501 tt (by
      refine X499.laload hx (j := (1 : Int32)) (v := (.long r1)) (by rw [e499]; exact Ar502.1) (State.isArrayOf_alike hZ.alike Ar502.2.1) Ar502.2.2 hin502 hat502 (g := (mkF m 161 #[rv o1, .val (.long cm), .second, .val (.long ln), .second, .val (.long lw), .second, .unset] [(.int (1 : Int32)), (.ref br), (.int (2 : Int32)), (.ref br)])) rfl rfl (hb hby d4_161) _ ?_
      exact kt)
  have go505 : own_S p e below ST T499 (mkF m 163 #[rv o1, .val (.long cm), .second, .val (.long ln), .second, .val (.long lw), .second, .unset] [(.long cm), (.long r1), (.int (2 : Int32)), (.ref br)]) := fun tt kt => go504 tt (by
      refine XS.lloadN X499.here hx rfl (hb hby d4_162) rfl ?_
      exact kt)
  have zs507 := (Nat.le_trans (Nat.le_trans Z0 (Keep.of_wr W470).1) (Keep.of_wr W481).1)
  obtain ⟨_, _, ⟨T506, L506, k506, n506⟩, -, X506, ⟨Lc506, hQ506, l506, y506, z506⟩, st506⟩ := Jvm.LawKit.callS X499 hx (y := (⟨"java/lang/Math", "max", "(JJ)J"⟩ : MethodName)) hown (mvT hZ (W 33 rfl)) (mvT hZ (W 34 rfl)) (mvT hZ (W 35 rfl)) (mvT hZ (W 36 rfl)) (by decide) (backOf (W := 2) (rm5 l Z a0 hw [] r1 cm h481 n0 zs507 ) hZ (W 36 rfl) (W 35 rfl) (by decide) (by decide)) (g := (mkF m 163 #[rv o1, .val (.long cm), .second, .val (.long ln), .second, .val (.long lw), .second, .unset] [(.long cm), (.long r1), (.int (2 : Int32)), (.ref br)])) rfl (by rw [hml]; rfl) (argsL := [(.long r1), (.long cm)]) (rest := [(.int (2 : Int32)), (.ref br)]) (lenOf pd93 rfl) rfl (by show 2 * 0 + _ ≤ _; exact Nat.le_of_eq rfl) (hb hby d4_163) (fun _ _ => ⟨rfl, e499, (by decide : 0 + 0 ≤ _), (by decide : 0 + 0 ≤ _)⟩)
  dsimp only [Pt.U, Pt.locs, Pt.cells, Pt.slots] at X506 l506 y506 z506 st506 hQ506
  subst l506 y506 z506
  obtain ⟨rfl, Nq506, eh506⟩ := hQ506
  have N506 := Fr.app N481 Nq506
  have go508 : own_S p e below ST T506 (mkF m 166 #[rv o1, .val (.long cm), .second, .val (.long ln), .second, .val (.long lw), .second, .unset] [(.long (own_maxJ r1 cm)), (.int (2 : Int32)), (.ref br)]) := fun tt kt => go505 tt (st506 _ kt)
  obtain ⟨cl509, Ar509, q509, S509, M509, H509, G509⟩ := id f503
  have hin509 : ¬ ((2 : Int32) < 0 ∨ cl509.slots.size ≤ ((2 : Int32)).toNatClampNeg) := inb_of S509 ⟨by decide, by decide⟩
  obtain ⟨T509, h509, X509, e509, W509, st509⟩ := stJ X506 hx hZ eh506 Ar509 (j := (2 : Int32)) hin509 (g := (mkF m 166 #[rv o1, .val (.long cm), .second, .val (.long ln), .second, .val (.long lw), .second, .unset] [(.long (own_maxJ r1 cm)), (.int (2 : Int32)), (.ref br)])) rfl rfl (hb hby d4_166)
  have V509 : Arv Z h509 br kr .long (16 : Int32) [(.long r0), (.long r1), (.long (own_maxJ r1 cm))] (.long (0 : Int64)) := Arv.set Ar509 q509 S509 M509 H509 G509 rfl W509 2 rfl (Nat.le_of_ble_eq_true rfl)
  have N509 := Fr.snoc X509 N506 LI_gr
  have KC509 : Keep h0 h509 [o1, bs, bl, br] := KC481.wr W509 (Or.inl (List.mem_of_getElem? (i := 3) rfl))
  have go510 : own_S p e below ST T509 (mkF m 167 #[rv o1, .val (.long cm), .second, .val (.long ln), .second, .val (.long lw), .second, .unset] []) := fun tt kt => go508 tt (st509 _ kt)
  have go511 : own_S p e below ST T509 (mkF m 169 #[rv o1, .val (.long cm), .second, .val (.long ln), .second, .val (.long lw), .second, .unset] [(.ref o1), (.ref o1)]) := fun tt kt => go510 tt (by
      refine XS.aloadN X509.here hx rfl (hb hby d4_167) rfl rfl ?_
      refine XS.dup X509.here hx rfl (hb hby d4_168) rfl rfl ?_
      exact kt)
  have f512 := (f489.other W509 (Or.inl LI_n2))
  obtain ⟨T513, X513, e513, st513⟩ := getF X509 hx hZ hown (host := "") (Or.inl (W 24 rfl)) Via.refl e509 f512 (g := (mkF m 169 #[rv o1, .val (.long cm), .second, .val (.long ln), .second, .val (.long lw), .second, .unset] [(.ref o1), (.ref o1)])) rfl rfl (hb hby d4_169)
  have go514 : own_S p e below ST T513 (mkF m 172 #[rv o1, .val (.long cm), .second, .val (.long ln), .second, .val (.long lw), .second, .unset] [(.int (2 : Int32)), (.ref o1)]) := fun tt kt => go511 tt (st513 _ kt)
  have go515 : own_S p e below ST T513 (mkF m 174 #[rv o1, .val (.long cm), .second, .val (.long ln), .second, .val (.long lw), .second, .unset] [(.int (3 : Int32)), (.ref o1)]) := fun tt kt => go514 tt (by
      refine XS.iconst X513.here hx rfl (hb hby d4_172) ?_
      refine XS.iadd X513.here hx rfl (hb hby d4_173) rfl ?_
      exact kt)
  have f517 := (((LI_E.wr W470).wr W481).wr W509)
  obtain ⟨T516, h516, X516, e516, W516, st516⟩ := putF X513 hx hZ hown (host := "") (Or.inl (W 24 rfl)) Via.refl e513 f512 f517 (Or.inl (W 25 rfl)) (W 2 rfl) (ty := .int) (by decide) rfl rfl (g := (mkF m 174 #[rv o1, .val (.long cm), .second, .val (.long ln), .second, .val (.long lw), .second, .unset] [(.int (3 : Int32)), (.ref o1)])) rfl rfl (hb hby d4_174)
  have Fw516 := f512.same W516
  have N516 := Fr.snoc X516 N509 LI_go
  have go518 : own_S p e below ST T516 (mkF m 177 #[rv o1, .val (.long cm), .second, .val (.long ln), .second, .val (.long lw), .second, .unset] []) := fun tt kt => go515 tt (st516 _ kt)
  have KC516 : Keep h0 h516 [o1, bs, bl, br] := KC509.wr W516 (Or.inl (List.mem_of_getElem? (i := 0) rfl))
  have go519 : own_S p e below ST T516 (mkF m 227 #[rv o1, .val (.long cm), .second, .val (.long ln), .second, .val (.long lw), .second, .unset] [(.ref o1), (.ref o1)]) := fun tt kt => go518 tt (by
      refine XS.goto X516.here hx rfl (pc0 := 177) (pc' := 225) rfl (hb hby d4_177) (by decide) (by decide) ?_
      refine XS.aloadN X516.here hx rfl (hb hby d4_225) rfl rfl ?_
      refine XS.dup X516.here hx rfl (hb hby d4_226) rfl rfl ?_
      exact kt)
  have f520 := ((((LI_end.other W470 (Or.inl LI_n0)).other W481 (Or.inl LI_n1)).other W509 (Or.inl LI_n2)).other W516 (Or.inr (slot_ne (Or.inl (W 18 rfl)) (Or.inl (W 25 rfl)) (by decide) (t := .long) (t' := .int) (by decide) (by decide))))
  obtain ⟨T521, X521, e521, st521⟩ := getF X516 hx hZ hown (host := "") (Or.inl (W 17 rfl)) Via.refl e516 f520 (g := (mkF m 227 #[rv o1, .val (.long cm), .second, .val (.long ln), .second, .val (.long lw), .second, .unset] [(.ref o1), (.ref o1)])) rfl rfl (hb hby d4_227)
  have go522 : own_S p e below ST T521 (mkF m 230 #[rv o1, .val (.long cm), .second, .val (.long ln), .second, .val (.long lw), .second, .unset] [(.long en), (.ref o1)]) := fun tt kt => go519 tt (st521 _ kt)
  have go523 : own_S p e below ST T521 (mkF m 232 #[rv o1, .val (.long cm), .second, .val (.long ln), .second, .val (.long lw), .second, .unset] [(.long (en + ln)), (.ref o1)]) := fun tt kt => go522 tt (by
      refine XS.lloadN X521.here hx rfl (hb hby d4_230) rfl ?_
      refine XS.ladd X521.here hx rfl (hb hby d4_231) rfl ?_
      exact kt)
  have f525 := (f517.wr W516)
  obtain ⟨T524, h524, X524, e524, W524, st524⟩ := putF X521 hx hZ hown (host := "") (Or.inl (W 17 rfl)) Via.refl e521 f520 f525 (Or.inl (W 18 rfl)) (W 2 rfl) (ty := .long) (by decide) rfl rfl (g := (mkF m 232 #[rv o1, .val (.long cm), .second, .val (.long ln), .second, .val (.long lw), .second, .unset] [(.long (en + ln)), (.ref o1)])) rfl rfl (hb hby d4_232)
  have Fw524 := f520.same W524
  have N524 := Fr.snoc X524 N516 LI_go
  have go526 : own_S p e below ST T524 (mkF m 235 #[rv o1, .val (.long cm), .second, .val (.long ln), .second, .val (.long lw), .second, .unset] []) := fun tt kt => go523 tt (st524 _ kt)
  have KC524 : Keep h0 h524 [o1, bs, bl, br] := KC516.wr W524 (Or.inl (List.mem_of_getElem? (i := 0) rfl))
  have go527 : own_S p e below ST T524 (mkF m 237 #[rv o1, .val (.long cm), .second, .val (.long ln), .second, .val (.long lw), .second, .unset] [(.ref o1), (.ref o1)]) := fun tt kt => go526 tt (by
      refine XS.aloadN X524.here hx rfl (hb hby d4_235) rfl rfl ?_
      refine XS.aloadN X524.here hx rfl (hb hby d4_236) rfl rfl ?_
      exact kt)
  have f528 := (((((LI_highest.other W470 (Or.inl LI_n0)).other W481 (Or.inl LI_n1)).other W509 (Or.inl LI_n2)).other W516 (Or.inr (slot_ne (Or.inl (W 32 rfl)) (Or.inl (W 25 rfl)) (by decide) (t := .long) (t' := .int) (by decide) (by decide)))).other W524 (Or.inr (slot_ne (Or.inl (W 32 rfl)) (Or.inl (W 18 rfl)) (by decide) (t := .long) (t' := .long) (by decide) (by decide))))
  obtain ⟨T529, X529, e529, st529⟩ := getF X524 hx hZ hown (host := "") (Or.inl (W 31 rfl)) Via.refl e524 f528 (g := (mkF m 237 #[rv o1, .val (.long cm), .second, .val (.long ln), .second, .val (.long lw), .second, .unset] [(.ref o1), (.ref o1)])) rfl rfl (hb hby d4_237)
  have go530 : own_S p e below ST T529 (mkF m 240 #[rv o1, .val (.long cm), .second, .val (.long ln), .second, .val (.long lw), .second, .unset] [(.long hi), (.ref o1)]) := fun tt kt => go527 tt (st529 _ kt)
  have go531 : own_S p e below ST T529 (mkF m 241 #[rv o1, .val (.long cm), .second, .val (.long ln), .second, .val (.long lw), .second, .unset] [(.long cm), (.long hi), (.ref o1)]) := fun tt kt => go530 tt (by
      refine XS.lloadN X529.here hx rfl (hb hby d4_240) rfl ?_
      exact kt)
  have zs533 := (Nat.le_trans (Nat.le_trans (Nat.le_trans zs507 (Keep.of_wr W509).1) (Keep.of_wr W516).1) (Keep.of_wr W524).1)
  obtain ⟨_, _, ⟨T532, L532, k532, n532⟩, -, X532, ⟨Lc532, hQ532, l532, y532, z532⟩, st532⟩ := Jvm.LawKit.callS X529 hx (y := (⟨"java/lang/Math", "max", "(JJ)J"⟩ : MethodName)) hown (mvT hZ (W 33 rfl)) (mvT hZ (W 34 rfl)) (mvT hZ (W 35 rfl)) (mvT hZ (W 36 rfl)) (by decide) (backOf (W := 1) (rm5 l Z a0 hw [] hi cm h524 n0 zs533 ) hZ (W 36 rfl) (W 35 rfl) (by decide) (by decide)) (g := (mkF m 241 #[rv o1, .val (.long cm), .second, .val (.long ln), .second, .val (.long lw), .second, .unset] [(.long cm), (.long hi), (.ref o1)])) rfl (by rw [hml]; rfl) (argsL := [(.long hi), (.long cm)]) (rest := [(.ref o1)]) (lenOf pd93 rfl) rfl (by show 2 * 0 + _ ≤ _; exact Nat.le_of_eq rfl) (hb hby d4_241) (fun _ _ => ⟨rfl, e529, (by decide : 0 + 0 ≤ _), (by decide : 0 + 0 ≤ _)⟩)
  dsimp only [Pt.U, Pt.locs, Pt.cells, Pt.slots] at X532 l532 y532 z532 st532 hQ532
  subst l532 y532 z532
  obtain ⟨rfl, Nq532, eh532⟩ := hQ532
  have N532 := Fr.app N524 Nq532
  have go534 : own_S p e below ST T532 (mkF m 244 #[rv o1, .val (.long cm), .second, .val (.long ln), .second, .val (.long lw), .second, .unset] [(.long (own_maxJ hi cm)), (.ref o1)]) := fun tt kt => go531 tt (st532 _ kt)
  have f536 := (f525.wr W524)
  obtain ⟨T535, h535, X535, e535, W535, st535⟩ := putF X532 hx hZ hown (host := "") (Or.inl (W 31 rfl)) Via.refl eh532 f528 f536 (Or.inl (W 32 rfl)) (W 2 rfl) (ty := .long) (by decide) rfl rfl (g := (mkF m 244 #[rv o1, .val (.long cm), .second, .val (.long ln), .second, .val (.long lw), .second, .unset] [(.long (own_maxJ hi cm)), (.ref o1)])) rfl rfl (hb hby d4_244)
  have Fw535 := f528.same W535
  have N535 := Fr.snoc X535 N532 LI_go
  have go537 : own_S p e below ST T535 (mkF m 247 #[rv o1, .val (.long cm), .second, .val (.long ln), .second, .val (.long lw), .second, .unset] []) := fun tt kt => go534 tt (st535 _ kt)
  have KC535 : Keep h0 h535 [o1, bs, bl, br] := KC524.wr W535 (Or.inl (List.mem_of_getElem? (i := 0) rfl))
  have f538 := (f536.wr W535)
  have f539 := ((((((LI_starts.other W470 (Or.inl LI_n0)).other W481 (Or.inl LI_n1)).other W509 (Or.inl LI_n2)).other W516 (Or.inr (slot_ne (Or.inl (W 12 rfl)) (Or.inl (W 25 rfl)) (by decide) (t := (.array .long)) (t' := .int) (by decide) (by decide)))).other W524 (Or.inr (slot_ne (Or.inl (W 12 rfl)) (Or.inl (W 18 rfl)) (by decide) (t := (.array .long)) (t' := .long) (by decide) (by decide)))).other W535 (Or.inr (slot_ne (Or.inl (W 12 rfl)) (Or.inl (W 32 rfl)) (by decide) (t := (.array .long)) (t' := .long) (by decide) (by decide))))
  have f540 := (((((f473.other W481 (Or.inl LI_n1)).other W509 (Or.inl LI_n2)).other W516 (Or.inr (slot_ne (Or.inl (W 14 rfl)) (Or.inl (W 25 rfl)) (by decide) (t := (.array .long)) (t' := .int) (by decide) (by decide)))).other W524 (Or.inr (slot_ne (Or.inl (W 14 rfl)) (Or.inl (W 18 rfl)) (by decide) (t := (.array .long)) (t' := .long) (by decide) (by decide)))).other W535 (Or.inr (slot_ne (Or.inl (W 14 rfl)) (Or.inl (W 32 rfl)) (by decide) (t := (.array .long)) (t' := .long) (by decide) (by decide))))
  have f541 := ((((f485.other W509 (Or.inl LI_n2)).other W516 (Or.inr (slot_ne (Or.inl (W 16 rfl)) (Or.inl (W 25 rfl)) (by decide) (t := (.array .long)) (t' := .int) (by decide) (by decide)))).other W524 (Or.inr (slot_ne (Or.inl (W 16 rfl)) (Or.inl (W 18 rfl)) (by decide) (t := (.array .long)) (t' := .long) (by decide) (by decide)))).other W535 (Or.inr (slot_ne (Or.inl (W 16 rfl)) (Or.inl (W 32 rfl)) (by decide) (t := (.array .long)) (t' := .long) (by decide) (by decide))))
  have f542 := (Fw524.other W535 (Or.inr (slot_ne (Or.inl (W 18 rfl)) (Or.inl (W 32 rfl)) (by decide) (t := .long) (t' := .long) (by decide) (by decide))))
  have f543 := ((Fw516.other W524 (Or.inr (slot_ne (Or.inl (W 25 rfl)) (Or.inl (W 18 rfl)) (by decide) (t := .int) (t' := .long) (by decide) (by decide)))).other W535 (Or.inr (slot_ne (Or.inl (W 25 rfl)) (Or.inl (W 32 rfl)) (by decide) (t := .int) (t' := .long) (by decide) (by decide))))
  have f544 := (((((V470.other W481 LI_n3).other W509 LI_n4).other W516 (Ne.symm LI_n0)).other W524 (Ne.symm LI_n0)).other W535 (Ne.symm LI_n0))
  have f545 := ((((V481.other W509 LI_n5).other W516 (Ne.symm LI_n1)).other W524 (Ne.symm LI_n1)).other W535 (Ne.symm LI_n1))
  have f546 := (((V509.other W516 (Ne.symm LI_n2)).other W524 (Ne.symm LI_n2)).other W535 (Ne.symm LI_n2))
  obtain ⟨fs, hr, hrun, hended, hW, hsame⟩ := X535.leave (v := none) (fun _ => rfl) (hlocks := by first | exact BodyLoose.notSynchronized Bd | exact Body.notSynchronized Bd)
  refine ⟨_, _, pre0 _ (go537 _ ?_), hrun, hended, _, _, rfl, ?_, ⟨_, rfl⟩, hW, hsame.mono (by decide) (by decide)⟩
  · exact X535.returnOut hx Bd.returns (hb hby d4_247) hr
  · show Q4c2 Z o1 bs bl br ks kl kr cm ln en hi s0 s1 w0 w1 r0 r1 h0 n0 _ T535.heap _
    rw [e535]
    exact ⟨lw, rfl, N535, KC535, ⟨f538, f539, f540, f541, f542, f543, Fw535, f544, f545, f546, LI_go, LI_gs, LI_gl, LI_gr, LI_n0, LI_n1, LI_n2, LI_n3, LI_n4, LI_n5⟩⟩
theorem ef4c2m (m : MethodId) (x0 : Addr) (x1 : Int64) (x2 : Int64) : entryFrame m #[(.ref x0), (.long x1), (.long x2)] 8 = mkF m 0 #[.val (.ref x0), .val (.long x1), .second, .val (.long x2), .second, .unset, .unset, .unset] [] := by first | (simp [entryFrame, mkF, argsToLocals, Value.category]; done) | rfl
def Q4c2m (Z : State) (o1 : Addr) (bs : Addr) (bl : Addr) (br : Addr) (ks : ClassId) (kl : ClassId) (kr : ClassId) (cm : Int64) (ln : Int64) (en : Int64) (hi : Int64) (s0 : Int64) (s1 : Int64) (w0 : Int64) (w1 : Int64) (r0 : Int64) (r1 : Int64) (h0 : Heap) (n0 : Nat) (v : Option Value) (h : Heap) (L : List Loc) : Prop := ∃ lw : Int64, v = none ∧ Fr n0 L ∧ Keep h0 h [o1, bs, bl, br] ∧ own_LI Z h n0 o1 bs bl br ks kl kr [(.long s0), (.long s1), (.long (0 : Int64))] [(.long w0), (.long (own_minJ w1 lw)), (.long (0 : Int64))] [(.long r0), (.long (own_maxJ r1 cm)), (.long (0 : Int64))] (en + ln) (2 : Int32) (own_maxJ hi cm)
set_option maxRecDepth 65536 in
set_option maxHeartbeats 40000000 in
theorem rm4c2m (l : Launch) (Z : State) (a0 : Array Value) (hw : ∀ d ∈ tables_1, d.before a0 Z = true) (ws : List Jvm.Cond) (o1 : Addr) (bs : Addr) (bl : Addr) (br : Addr) (ks : ClassId) (kl : ClassId) (kr : ClassId) (cm : Int64) (ln : Int64) (en : Int64) (hi : Int64) (s0 : Int64) (s1 : Int64) (w0 : Int64) (w1 : Int64) (r0 : Int64) (r1 : Int64) (h0 : Heap) (n0 : Nat) (Z0 : n0 ≤ h0.size) (LI : own_LI Z h0 n0 o1 bs bl br ks kl kr [(.long s0), (.long s1), (.long (0 : Int64))] [(.long w0), (.long w1), (.long (0 : Int64))] [(.long r0), (.long r1), (.long (0 : Int64))] en (2 : Int32) hi) (hm : lcmpW (en - s1) (65536 : Int64) < (0 : Int32)) :
    MetFree l (⟨"com/example/altocommit/altocommit/store/LogIndex", "add", "(JJ)V"⟩ : MethodName) (head1 (Jvm.Cond.code (⟨"com/example/altocommit/altocommit/store/LogIndex", "add", "(JJ)V"⟩ : MethodName) prog_214_method_2_code 8 none :: ws) ({ frames := 1, cells := 0, slots := 0, locals := 17 } : Room)) (fun aa UU => aa = #[(.ref o1), (.long cm), (.long ln)] ∧ Z.Warmed39 UU.vm ∧ UU.heap = h0) (fun _ _ _ _ _ => True) (fun _ UU oo UU' => ∃ vv LL, oo = .returned vv ∧ Q4c2m Z o1 bs bl br ks kl kr cm ln en hi s0 s1 w0 w1 r0 r1 h0 n0 vv UU'.heap LL ∧ FrameEnd UU oo UU' LL ({ frames := 1, cells := 0, slots := 0, locals := 17 } : Room).cells ({ frames := 1, cells := 0, slots := 0, locals := 17 } : Room).slots) := by
  have W : ∀ {d : Jvm.Cond} (i : Nat), tables_1[i]? = some d → d.before a0 Z = true := fun i h => hw _ (List.mem_of_getElem? h)
  refine MetFree.of_bodySF (plainFor_of_name pn16) hisR ?_
  intro p e s m args below meth c s₁ Bd hml0 hP hK
  obtain ⟨rfl, hZ, hh⟩ := hP
  have hx := Bd.exec
  have hby := Bd.bytes
  have hml : c.maxLocals = 8 := hml0
  have hown : s.vm.findClass "com/example/altocommit/altocommit/store/LogIndex" = some m.cls := findClass_of_methodNamed Bd.named
  have hnm := (name_of_methodNamed Bd.named Bd.method).1
  have X0 : Stand p l e ({ frames := 1, cells := 0, slots := 0, locals := 17 } : Room) s m #[(.ref o1), (.long cm), (.long ln)] below meth c s₁ [] 0 0 := Stand.of_body Bd
  have e0 : s₁.heap = h0 := by rw [← hh, Bd.state]; rfl
  have N0 := Fr.nil n0
  have pre0 : ∀ tt, Steps p.tables e below (s₁.setTop (mkF m 0 #[rv o1, .val (.long cm), .second, .val (.long ln), .second, .unset, .unset, .unset] [])) tt → Steps p.tables e below (s₁.setTop (entryFrame m #[(.ref o1), (.long cm), (.long ln)] 8)) tt := fun tt kt => castTop (ef4c2m m o1 cm ln) kt
  obtain ⟨ST, hST⟩ : ∃ z : State, z = s₁.setTop (mkF m 0 #[rv o1, .val (.long cm), .second, .val (.long ln), .second, .unset, .unset, .unset] []) := ⟨_, rfl⟩
  rw [← hST] at pre0
  obtain ⟨LI_E, LI_starts, LI_lows, LI_reaches, LI_end, LI_count, LI_highest, LI_Vs, LI_Vl, LI_Vr, LI_go, LI_gs, LI_gl, LI_gr, LI_n0, LI_n1, LI_n2, LI_n3, LI_n4, LI_n5⟩ := LI
  have KC0 : Keep h0 h0 [o1, bs, bl, br] := Keep.refl h0 [o1, bs, bl, br]
  have go547 : own_S p e below ST s₁ (mkF m 3 #[rv o1, .val (.long cm), .second, .val (.long ln), .second, .unset, .unset, .unset] [(.int (lcmpW cm (0 : Int64)))]) := fun tt kt => (by
      rw [hST]
      show Steps p.tables e below (s₁.setTop (mkF m 0 #[rv o1, .val (.long cm), .second, .val (.long ln), .second, .unset, .unset, .unset] [])) _
      refine XS.lloadN X0.here hx rfl (hb hby d4_0) rfl ?_
      refine XS.lconst X0.here hx rfl (hb hby d4_1) ?_
      refine XS.lcmp X0.here hx rfl (hb hby d4_2) rfl ?_
      exact kt)
  obtain ⟨lw, hlw, sg548⟩ : ∃ (lw : Int64), lw = (if (lcmpW cm (0 : Int64)) = (0 : Int32) then (9223372036854775807 : Int64) else cm) ∧ ∀ tt, Steps p.tables e below (s₁.setTop (mkF m 13 #[rv o1, .val (.long cm), .second, .val (.long ln), .second, .unset, .unset, .unset] [(.long lw)])) tt → Steps p.tables e below (s₁.setTop (mkF m 3 #[rv o1, .val (.long cm), .second, .val (.long ln), .second, .unset, .unset, .unset] [(.int (lcmpW cm (0 : Int64)))])) tt := by
    by_cases hd3_0 : (lcmpW cm (0 : Int64)) = (0 : Int32)
    · refine ⟨_, (if_pos hd3_0).symm, fun tt kt => ?_⟩
      show Steps p.tables e below (s₁.setTop (mkF m 3 #[rv o1, .val (.long cm), .second, .val (.long ln), .second, .unset, .unset, .unset] [(.int (lcmpW cm (0 : Int64)))])) _
      refine XS.ifNo X0.here hx rfl (hb hby d4_3) rfl ((if0 _ _).trans (teq hd3_0).2) ?_
      refine X0.ldc2Long hx hown (mvT hZ (W 41 rfl)) (g := (mkF m 6 #[rv o1, .val (.long cm), .second, .val (.long ln), .second, .unset, .unset, .unset] [])) rfl (hb hby d4_6) _ ?_
      refine XS.goto X0.here hx rfl (pc0 := 9) (pc' := 13) rfl (hb hby d4_9) (by decide) (by decide) ?_
      exact kt
    · refine ⟨_, (if_neg hd3_0).symm, fun tt kt => ?_⟩
      show Steps p.tables e below (s₁.setTop (mkF m 3 #[rv o1, .val (.long cm), .second, .val (.long ln), .second, .unset, .unset, .unset] [(.int (lcmpW cm (0 : Int64)))])) _
      refine XS.ifYes X0.here hx rfl (pc0 := 3) (pc' := 12) rfl (hb hby d4_3) rfl ((if0 _ _).trans (feq hd3_0).2) (by decide) (by decide) ?_
      refine XS.lloadN X0.here hx rfl (hb hby d4_12) rfl ?_
      exact kt
  have go549 : own_S p e below ST s₁ (mkF m 13 #[rv o1, .val (.long cm), .second, .val (.long ln), .second, .unset, .unset, .unset] [(.long lw)]) := fun tt kt => go547 tt (sg548 _ kt)
  have go550 : own_S p e below ST s₁ (mkF m 16 #[rv o1, .val (.long cm), .second, .val (.long ln), .second, .val (.long lw), .second, .unset] [(.ref o1)]) := fun tt kt => go549 tt (by
      refine XS.lstore X0.here hx rfl (hb hby d4_13) rfl (l' := #[rv o1, .val (.long cm), .second, .val (.long ln), .second, .val (.long lw), .second, .unset]) rfl ?_
      refine XS.aloadN X0.here hx rfl (hb hby d4_15) rfl rfl ?_
      exact kt)
  obtain ⟨T551, X551, e551, st551⟩ := getF X0 hx hZ hown (host := "") (Or.inl (W 24 rfl)) Via.refl e0 LI_count (g := (mkF m 16 #[rv o1, .val (.long cm), .second, .val (.long ln), .second, .val (.long lw), .second, .unset] [(.ref o1)])) rfl rfl (hb hby d4_16)
  have go552 : own_S p e below ST T551 (mkF m 19 #[rv o1, .val (.long cm), .second, .val (.long ln), .second, .val (.long lw), .second, .unset] [(.int (2 : Int32))]) := fun tt kt => go550 tt (st551 _ kt)
  have go553 : own_S p e below ST T551 (mkF m 23 #[rv o1, .val (.long cm), .second, .val (.long ln), .second, .val (.long lw), .second, .unset] [(.ref o1)]) := fun tt kt => go552 tt (by
      refine XS.ifNo X551.here hx rfl (hb hby d4_19) rfl ((if0 _ _).trans (feq (by decide : ¬ ((2 : Int32) = (0 : Int32)))).1) ?_
      refine XS.aloadN X551.here hx rfl (hb hby d4_22) rfl rfl ?_
      exact kt)
  obtain ⟨T554, X554, e554, st554⟩ := getF X551 hx hZ hown (host := "") (Or.inl (W 17 rfl)) Via.refl e551 LI_end (g := (mkF m 23 #[rv o1, .val (.long cm), .second, .val (.long ln), .second, .val (.long lw), .second, .unset] [(.ref o1)])) rfl rfl (hb hby d4_23)
  have go555 : own_S p e below ST T554 (mkF m 26 #[rv o1, .val (.long cm), .second, .val (.long ln), .second, .val (.long lw), .second, .unset] [(.long en)]) := fun tt kt => go553 tt (st554 _ kt)
  have go556 : own_S p e below ST T554 (mkF m 27 #[rv o1, .val (.long cm), .second, .val (.long ln), .second, .val (.long lw), .second, .unset] [(.ref o1), (.long en)]) := fun tt kt => go555 tt (by
      refine XS.aloadN X554.here hx rfl (hb hby d4_26) rfl rfl ?_
      exact kt)
  obtain ⟨T557, X557, e557, st557⟩ := getF X554 hx hZ hown (host := "") (Or.inl (W 11 rfl)) Via.refl e554 LI_starts (g := (mkF m 27 #[rv o1, .val (.long cm), .second, .val (.long ln), .second, .val (.long lw), .second, .unset] [(.ref o1), (.long en)])) rfl rfl (hb hby d4_27)
  have go558 : own_S p e below ST T557 (mkF m 30 #[rv o1, .val (.long cm), .second, .val (.long ln), .second, .val (.long lw), .second, .unset] [(.ref bs), (.long en)]) := fun tt kt => go556 tt (st557 _ kt)
  have go559 : own_S p e below ST T557 (mkF m 31 #[rv o1, .val (.long cm), .second, .val (.long ln), .second, .val (.long lw), .second, .unset] [(.ref o1), (.ref bs), (.long en)]) := fun tt kt => go558 tt (by
      refine XS.aloadN X557.here hx rfl (hb hby d4_30) rfl rfl ?_
      exact kt)
  obtain ⟨T560, X560, e560, st560⟩ := getF X557 hx hZ hown (host := "") (Or.inl (W 24 rfl)) Via.refl e557 LI_count (g := (mkF m 31 #[rv o1, .val (.long cm), .second, .val (.long ln), .second, .val (.long lw), .second, .unset] [(.ref o1), (.ref bs), (.long en)])) rfl rfl (hb hby d4_31)
  have go561 : own_S p e below ST T560 (mkF m 34 #[rv o1, .val (.long cm), .second, .val (.long ln), .second, .val (.long lw), .second, .unset] [(.int (2 : Int32)), (.ref bs), (.long en)]) := fun tt kt => go559 tt (st560 _ kt)
  have go562 : own_S p e below ST T560 (mkF m 36 #[rv o1, .val (.long cm), .second, .val (.long ln), .second, .val (.long lw), .second, .unset] [(.int (1 : Int32)), (.ref bs), (.long en)]) := fun tt kt => go561 tt (by
      refine XS.iconst X560.here hx rfl (hb hby d4_34) ?_
      refine XS.isub X560.here hx rfl (hb hby d4_35) rfl ?_
      exact kt)
  obtain ⟨cl563, Ar563, q563, S563, M563, H563, G563⟩ := id LI_Vs
  have hin563 : ¬ ((1 : Int32) < 0 ∨ cl563.slots.size ≤ ((1 : Int32)).toNatClampNeg) := inb_of S563 ⟨by decide, by decide⟩
  have hat563 : cl563.slots[((1 : Int32)).toNatClampNeg]? = some (.long s1) := H563.at hin563 rfl
  have go564 : own_S p e below ST T560 (mkF m 37 #[rv o1, .val (.long cm), .second, .val (.long ln), .second, .val (.long lw), .second, .unset] [(.long s1), (.long en)]) := fun tt kt => go562 tt (by
      refine X560.laload hx (j := (1 : Int32)) (v := (.long s1)) (by rw [e560]; exact Ar563.1) (State.isArrayOf_alike hZ.alike Ar563.2.1) Ar563.2.2 hin563 hat563 (g := (mkF m 36 #[rv o1, .val (.long cm), .second, .val (.long ln), .second, .val (.long lw), .second, .unset] [(.int (1 : Int32)), (.ref bs), (.long en)])) rfl rfl (hb hby d4_36) _ ?_
      exact kt)
  have go565 : own_S p e below ST T560 (mkF m 42 #[rv o1, .val (.long cm), .second, .val (.long ln), .second, .val (.long lw), .second, .unset] [(.int (lcmpW (en - s1) (65536 : Int64)))]) := fun tt kt => go564 tt (by
      refine XS.lsub X560.here hx rfl (hb hby d4_37) rfl ?_
      refine X560.ldc2Long hx hown (mvT hZ (W 37 rfl)) (g := (mkF m 38 #[rv o1, .val (.long cm), .second, .val (.long ln), .second, .val (.long lw), .second, .unset] [(.long (en - s1))])) rfl (hb hby d4_38) _ ?_
      refine XS.lcmp X560.here hx rfl (hb hby d4_41) rfl ?_
      exact kt)
  have go566 : own_S p e below ST T560 (mkF m 181 #[rv o1, .val (.long cm), .second, .val (.long ln), .second, .val (.long lw), .second, .unset] [(.ref o1)]) := fun tt kt => go565 tt (by
      refine XS.ifYes X560.here hx rfl (pc0 := 42) (pc' := 180) rfl (hb hby d4_42) rfl ((if0 _ _).trans (tlt hm).1) (by decide) (by decide) ?_
      refine XS.aloadN X560.here hx rfl (hb hby d4_180) rfl rfl ?_
      exact kt)
  obtain ⟨T567, X567, e567, st567⟩ := getF X560 hx hZ hown (host := "") (Or.inl (W 24 rfl)) Via.refl e560 LI_count (g := (mkF m 181 #[rv o1, .val (.long cm), .second, .val (.long ln), .second, .val (.long lw), .second, .unset] [(.ref o1)])) rfl rfl (hb hby d4_181)
  have go568 : own_S p e below ST T567 (mkF m 184 #[rv o1, .val (.long cm), .second, .val (.long ln), .second, .val (.long lw), .second, .unset] [(.int (2 : Int32))]) := fun tt kt => go566 tt (st567 _ kt)
  have go569 : own_S p e below ST T567 (mkF m 189 #[rv o1, .val (.long cm), .second, .val (.long ln), .second, .val (.long lw), .second, iv (1 : Int32)] [(.ref o1)]) := fun tt kt => go568 tt (by
      refine XS.iconst X567.here hx rfl (hb hby d4_184) ?_
      refine XS.isub X567.here hx rfl (hb hby d4_185) rfl ?_
      refine XS.istore X567.here hx rfl (hb hby d4_186) rfl (l' := #[rv o1, .val (.long cm), .second, .val (.long ln), .second, .val (.long lw), .second, iv (1 : Int32)]) rfl ?_
      refine XS.aloadN X567.here hx rfl (hb hby d4_188) rfl rfl ?_
      exact kt)
  obtain ⟨T570, X570, e570, st570⟩ := getF X567 hx hZ hown (host := "") (Or.inl (W 13 rfl)) Via.refl e567 LI_lows (g := (mkF m 189 #[rv o1, .val (.long cm), .second, .val (.long ln), .second, .val (.long lw), .second, iv (1 : Int32)] [(.ref o1)])) rfl rfl (hb hby d4_189)
  have go571 : own_S p e below ST T570 (mkF m 192 #[rv o1, .val (.long cm), .second, .val (.long ln), .second, .val (.long lw), .second, iv (1 : Int32)] [(.ref bl)]) := fun tt kt => go569 tt (st570 _ kt)
  have go572 : own_S p e below ST T570 (mkF m 195 #[rv o1, .val (.long cm), .second, .val (.long ln), .second, .val (.long lw), .second, iv (1 : Int32)] [(.ref o1), (.int (1 : Int32)), (.ref bl)]) := fun tt kt => go571 tt (by
      refine XS.iload X570.here hx rfl (hb hby d4_192) rfl ?_
      refine XS.aloadN X570.here hx rfl (hb hby d4_194) rfl rfl ?_
      exact kt)
  obtain ⟨T573, X573, e573, st573⟩ := getF X570 hx hZ hown (host := "") (Or.inl (W 13 rfl)) Via.refl e570 LI_lows (g := (mkF m 195 #[rv o1, .val (.long cm), .second, .val (.long ln), .second, .val (.long lw), .second, iv (1 : Int32)] [(.ref o1), (.int (1 : Int32)), (.ref bl)])) rfl rfl (hb hby d4_195)
  have go574 : own_S p e below ST T573 (mkF m 198 #[rv o1, .val (.long cm), .second, .val (.long ln), .second, .val (.long lw), .second, iv (1 : Int32)] [(.ref bl), (.int (1 : Int32)), (.ref bl)]) := fun tt kt => go572 tt (st573 _ kt)
  have go575 : own_S p e below ST T573 (mkF m 200 #[rv o1, .val (.long cm), .second, .val (.long ln), .second, .val (.long lw), .second, iv (1 : Int32)] [(.int (1 : Int32)), (.ref bl), (.int (1 : Int32)), (.ref bl)]) := fun tt kt => go574 tt (by
      refine XS.iload X573.here hx rfl (hb hby d4_198) rfl ?_
      exact kt)
  obtain ⟨cl576, Ar576, q576, S576, M576, H576, G576⟩ := id LI_Vl
  have hin576 : ¬ ((1 : Int32) < 0 ∨ cl576.slots.size ≤ ((1 : Int32)).toNatClampNeg) := inb_of S576 ⟨by decide, by decide⟩
  have hat576 : cl576.slots[((1 : Int32)).toNatClampNeg]? = some (.long w1) := H576.at hin576 rfl
  have go577 : own_S p e below ST T573 (mkF m 201 #[rv o1, .val (.long cm), .second, .val (.long ln), .second, .val (.long lw), .second, iv (1 : Int32)] [(.long w1), (.int (1 : Int32)), (.ref bl)]) := fun tt kt => go575 tt (by
      refine X573.laload hx (j := (1 : Int32)) (v := (.long w1)) (by rw [e573]; exact Ar576.1) (State.isArrayOf_alike hZ.alike Ar576.2.1) Ar576.2.2 hin576 hat576 (g := (mkF m 200 #[rv o1, .val (.long cm), .second, .val (.long ln), .second, .val (.long lw), .second, iv (1 : Int32)] [(.int (1 : Int32)), (.ref bl), (.int (1 : Int32)), (.ref bl)])) rfl rfl (hb hby d4_200) _ ?_
      exact kt)
  have go578 : own_S p e below ST T573 (mkF m 203 #[rv o1, .val (.long cm), .second, .val (.long ln), .second, .val (.long lw), .second, iv (1 : Int32)] [(.long lw), (.long w1), (.int (1 : Int32)), (.ref bl)]) := fun tt kt => go577 tt (by
      refine XS.lload X573.here hx rfl (hb hby d4_201) rfl ?_
      exact kt)
  obtain ⟨_, _, ⟨T579, L579, k579, n579⟩, -, X579, ⟨Lc579, hQ579, l579, y579, z579⟩, st579⟩ := Jvm.LawKit.callS X573 hx (y := (⟨"java/lang/Math", "min", "(JJ)J"⟩ : MethodName)) hown (mvT hZ (W 38 rfl)) (mvT hZ (W 39 rfl)) (mvT hZ (W 35 rfl)) (mvT hZ (W 40 rfl)) (by decide) (backOf (W := 2) (rm6 l Z a0 hw [] w1 lw h0 n0 Z0 ) hZ (W 40 rfl) (W 35 rfl) (by decide) (by decide)) (g := (mkF m 203 #[rv o1, .val (.long cm), .second, .val (.long ln), .second, .val (.long lw), .second, iv (1 : Int32)] [(.long lw), (.long w1), (.int (1 : Int32)), (.ref bl)])) rfl (by rw [hml]; rfl) (argsL := [(.long w1), (.long lw)]) (rest := [(.int (1 : Int32)), (.ref bl)]) (lenOf pd93 rfl) rfl (by show 2 * 0 + _ ≤ _; exact Nat.le_of_eq rfl) (hb hby d4_203) (fun _ _ => ⟨rfl, e573, (by decide : 0 + 0 ≤ _), (by decide : 0 + 0 ≤ _)⟩)
  dsimp only [Pt.U, Pt.locs, Pt.cells, Pt.slots] at X579 l579 y579 z579 st579 hQ579
  subst l579 y579 z579
  obtain ⟨rfl, Nq579, eh579⟩ := hQ579
  have N579 := Fr.app N0 Nq579
  have go580 : own_S p e below ST T579 (mkF m 206 #[rv o1, .val (.long cm), .second, .val (.long ln), .second, .val (.long lw), .second, iv (1 : Int32)] [(.long (own_minJ w1 lw)), (.int (1 : Int32)), (.ref bl)]) := fun tt kt => go578 tt (st579 _ kt)
  obtain ⟨cl581, Ar581, q581, S581, M581, H581, G581⟩ := id LI_Vl
  have hin581 : ¬ ((1 : Int32) < 0 ∨ cl581.slots.size ≤ ((1 : Int32)).toNatClampNeg) := inb_of S581 ⟨by decide, by decide⟩
  obtain ⟨T581, h581, X581, e581, W581, st581⟩ := stJ X579 hx hZ eh579 Ar581 (j := (1 : Int32)) hin581 (g := (mkF m 206 #[rv o1, .val (.long cm), .second, .val (.long ln), .second, .val (.long lw), .second, iv (1 : Int32)] [(.long (own_minJ w1 lw)), (.int (1 : Int32)), (.ref bl)])) rfl rfl (hb hby d4_206)
  have V581 : Arv Z h581 bl kl .long (16 : Int32) [(.long w0), (.long (own_minJ w1 lw)), (.long (0 : Int64))] (.long (0 : Int64)) := Arv.set Ar581 q581 S581 M581 H581 G581 rfl W581 1 rfl (Nat.le_of_ble_eq_true rfl)
  have N581 := Fr.snoc X581 N579 LI_gl
  have KC581 : Keep h0 h581 [o1, bs, bl, br] := KC0.wr W581 (Or.inl (List.mem_of_getElem? (i := 2) rfl))
  have go582 : own_S p e below ST T581 (mkF m 207 #[rv o1, .val (.long cm), .second, .val (.long ln), .second, .val (.long lw), .second, iv (1 : Int32)] []) := fun tt kt => go580 tt (st581 _ kt)
  have go583 : own_S p e below ST T581 (mkF m 208 #[rv o1, .val (.long cm), .second, .val (.long ln), .second, .val (.long lw), .second, iv (1 : Int32)] [(.ref o1)]) := fun tt kt => go582 tt (by
      refine XS.aloadN X581.here hx rfl (hb hby d4_207) rfl rfl ?_
      exact kt)
  have f584 := (LI_reaches.other W581 (Or.inl LI_n1))
  obtain ⟨T585, X585, e585, st585⟩ := getF X581 hx hZ hown (host := "") (Or.inl (W 15 rfl)) Via.refl e581 f584 (g := (mkF m 208 #[rv o1, .val (.long cm), .second, .val (.long ln), .second, .val (.long lw), .second, iv (1 : Int32)] [(.ref o1)])) rfl rfl (hb hby d4_208)
  have go586 : own_S p e below ST T585 (mkF m 211 #[rv o1, .val (.long cm), .second, .val (.long ln), .second, .val (.long lw), .second, iv (1 : Int32)] [(.ref br)]) := fun tt kt => go583 tt (st585 _ kt)
  have go587 : own_S p e below ST T585 (mkF m 214 #[rv o1, .val (.long cm), .second, .val (.long ln), .second, .val (.long lw), .second, iv (1 : Int32)] [(.ref o1), (.int (1 : Int32)), (.ref br)]) := fun tt kt => go586 tt (by
      refine XS.iload X585.here hx rfl (hb hby d4_211) rfl ?_
      refine XS.aloadN X585.here hx rfl (hb hby d4_213) rfl rfl ?_
      exact kt)
  obtain ⟨T588, X588, e588, st588⟩ := getF X585 hx hZ hown (host := "") (Or.inl (W 15 rfl)) Via.refl e585 f584 (g := (mkF m 214 #[rv o1, .val (.long cm), .second, .val (.long ln), .second, .val (.long lw), .second, iv (1 : Int32)] [(.ref o1), (.int (1 : Int32)), (.ref br)])) rfl rfl (hb hby d4_214)
  have go589 : own_S p e below ST T588 (mkF m 217 #[rv o1, .val (.long cm), .second, .val (.long ln), .second, .val (.long lw), .second, iv (1 : Int32)] [(.ref br), (.int (1 : Int32)), (.ref br)]) := fun tt kt => go587 tt (st588 _ kt)
  have go590 : own_S p e below ST T588 (mkF m 219 #[rv o1, .val (.long cm), .second, .val (.long ln), .second, .val (.long lw), .second, iv (1 : Int32)] [(.int (1 : Int32)), (.ref br), (.int (1 : Int32)), (.ref br)]) := fun tt kt => go589 tt (by
      refine XS.iload X588.here hx rfl (hb hby d4_217) rfl ?_
      exact kt)
  have f592 := (LI_Vr.other W581 (Ne.symm LI_n5))
  obtain ⟨cl591, Ar591, q591, S591, M591, H591, G591⟩ := id f592
  have hin591 : ¬ ((1 : Int32) < 0 ∨ cl591.slots.size ≤ ((1 : Int32)).toNatClampNeg) := inb_of S591 ⟨by decide, by decide⟩
  have hat591 : cl591.slots[((1 : Int32)).toNatClampNeg]? = some (.long r1) := H591.at hin591 rfl
  have go593 : own_S p e below ST T588 (mkF m 220 #[rv o1, .val (.long cm), .second, .val (.long ln), .second, .val (.long lw), .second, iv (1 : Int32)] [(.long r1), (.int (1 : Int32)), (.ref br)]) := fun tt kt => go590 tt (by
      refine X588.laload hx (j := (1 : Int32)) (v := (.long r1)) (by rw [e588]; exact Ar591.1) (State.isArrayOf_alike hZ.alike Ar591.2.1) Ar591.2.2 hin591 hat591 (g := (mkF m 219 #[rv o1, .val (.long cm), .second, .val (.long ln), .second, .val (.long lw), .second, iv (1 : Int32)] [(.int (1 : Int32)), (.ref br), (.int (1 : Int32)), (.ref br)])) rfl rfl (hb hby d4_219) _ ?_
      exact kt)
  have go594 : own_S p e below ST T588 (mkF m 221 #[rv o1, .val (.long cm), .second, .val (.long ln), .second, .val (.long lw), .second, iv (1 : Int32)] [(.long cm), (.long r1), (.int (1 : Int32)), (.ref br)]) := fun tt kt => go593 tt (by
      refine XS.lloadN X588.here hx rfl (hb hby d4_220) rfl ?_
      exact kt)
  have zs596 := (Nat.le_trans Z0 (Keep.of_wr W581).1)
  obtain ⟨_, _, ⟨T595, L595, k595, n595⟩, -, X595, ⟨Lc595, hQ595, l595, y595, z595⟩, st595⟩ := Jvm.LawKit.callS X588 hx (y := (⟨"java/lang/Math", "max", "(JJ)J"⟩ : MethodName)) hown (mvT hZ (W 33 rfl)) (mvT hZ (W 34 rfl)) (mvT hZ (W 35 rfl)) (mvT hZ (W 36 rfl)) (by decide) (backOf (W := 2) (rm5 l Z a0 hw [] r1 cm h581 n0 zs596 ) hZ (W 36 rfl) (W 35 rfl) (by decide) (by decide)) (g := (mkF m 221 #[rv o1, .val (.long cm), .second, .val (.long ln), .second, .val (.long lw), .second, iv (1 : Int32)] [(.long cm), (.long r1), (.int (1 : Int32)), (.ref br)])) rfl (by rw [hml]; rfl) (argsL := [(.long r1), (.long cm)]) (rest := [(.int (1 : Int32)), (.ref br)]) (lenOf pd93 rfl) rfl (by show 2 * 0 + _ ≤ _; exact Nat.le_of_eq rfl) (hb hby d4_221) (fun _ _ => ⟨rfl, e588, (by decide : 0 + 0 ≤ _), (by decide : 0 + 0 ≤ _)⟩)
  dsimp only [Pt.U, Pt.locs, Pt.cells, Pt.slots] at X595 l595 y595 z595 st595 hQ595
  subst l595 y595 z595
  obtain ⟨rfl, Nq595, eh595⟩ := hQ595
  have N595 := Fr.app N581 Nq595
  have go597 : own_S p e below ST T595 (mkF m 224 #[rv o1, .val (.long cm), .second, .val (.long ln), .second, .val (.long lw), .second, iv (1 : Int32)] [(.long (own_maxJ r1 cm)), (.int (1 : Int32)), (.ref br)]) := fun tt kt => go594 tt (st595 _ kt)
  obtain ⟨cl598, Ar598, q598, S598, M598, H598, G598⟩ := id f592
  have hin598 : ¬ ((1 : Int32) < 0 ∨ cl598.slots.size ≤ ((1 : Int32)).toNatClampNeg) := inb_of S598 ⟨by decide, by decide⟩
  obtain ⟨T598, h598, X598, e598, W598, st598⟩ := stJ X595 hx hZ eh595 Ar598 (j := (1 : Int32)) hin598 (g := (mkF m 224 #[rv o1, .val (.long cm), .second, .val (.long ln), .second, .val (.long lw), .second, iv (1 : Int32)] [(.long (own_maxJ r1 cm)), (.int (1 : Int32)), (.ref br)])) rfl rfl (hb hby d4_224)
  have V598 : Arv Z h598 br kr .long (16 : Int32) [(.long r0), (.long (own_maxJ r1 cm)), (.long (0 : Int64))] (.long (0 : Int64)) := Arv.set Ar598 q598 S598 M598 H598 G598 rfl W598 1 rfl (Nat.le_of_ble_eq_true rfl)
  have N598 := Fr.snoc X598 N595 LI_gr
  have KC598 : Keep h0 h598 [o1, bs, bl, br] := KC581.wr W598 (Or.inl (List.mem_of_getElem? (i := 3) rfl))
  have go599 : own_S p e below ST T598 (mkF m 225 #[rv o1, .val (.long cm), .second, .val (.long ln), .second, .val (.long lw), .second, iv (1 : Int32)] []) := fun tt kt => go597 tt (st598 _ kt)
  have go600 : own_S p e below ST T598 (mkF m 227 #[rv o1, .val (.long cm), .second, .val (.long ln), .second, .val (.long lw), .second, iv (1 : Int32)] [(.ref o1), (.ref o1)]) := fun tt kt => go599 tt (by
      refine XS.aloadN X598.here hx rfl (hb hby d4_225) rfl rfl ?_
      refine XS.dup X598.here hx rfl (hb hby d4_226) rfl rfl ?_
      exact kt)
  have f601 := ((LI_end.other W581 (Or.inl LI_n1)).other W598 (Or.inl LI_n2))
  obtain ⟨T602, X602, e602, st602⟩ := getF X598 hx hZ hown (host := "") (Or.inl (W 17 rfl)) Via.refl e598 f601 (g := (mkF m 227 #[rv o1, .val (.long cm), .second, .val (.long ln), .second, .val (.long lw), .second, iv (1 : Int32)] [(.ref o1), (.ref o1)])) rfl rfl (hb hby d4_227)
  have go603 : own_S p e below ST T602 (mkF m 230 #[rv o1, .val (.long cm), .second, .val (.long ln), .second, .val (.long lw), .second, iv (1 : Int32)] [(.long en), (.ref o1)]) := fun tt kt => go600 tt (st602 _ kt)
  have go604 : own_S p e below ST T602 (mkF m 232 #[rv o1, .val (.long cm), .second, .val (.long ln), .second, .val (.long lw), .second, iv (1 : Int32)] [(.long (en + ln)), (.ref o1)]) := fun tt kt => go603 tt (by
      refine XS.lloadN X602.here hx rfl (hb hby d4_230) rfl ?_
      refine XS.ladd X602.here hx rfl (hb hby d4_231) rfl ?_
      exact kt)
  have f606 := ((LI_E.wr W581).wr W598)
  obtain ⟨T605, h605, X605, e605, W605, st605⟩ := putF X602 hx hZ hown (host := "") (Or.inl (W 17 rfl)) Via.refl e602 f601 f606 (Or.inl (W 18 rfl)) (W 2 rfl) (ty := .long) (by decide) rfl rfl (g := (mkF m 232 #[rv o1, .val (.long cm), .second, .val (.long ln), .second, .val (.long lw), .second, iv (1 : Int32)] [(.long (en + ln)), (.ref o1)])) rfl rfl (hb hby d4_232)
  have Fw605 := f601.same W605
  have N605 := Fr.snoc X605 N598 LI_go
  have go607 : own_S p e below ST T605 (mkF m 235 #[rv o1, .val (.long cm), .second, .val (.long ln), .second, .val (.long lw), .second, iv (1 : Int32)] []) := fun tt kt => go604 tt (st605 _ kt)
  have KC605 : Keep h0 h605 [o1, bs, bl, br] := KC598.wr W605 (Or.inl (List.mem_of_getElem? (i := 0) rfl))
  have go608 : own_S p e below ST T605 (mkF m 237 #[rv o1, .val (.long cm), .second, .val (.long ln), .second, .val (.long lw), .second, iv (1 : Int32)] [(.ref o1), (.ref o1)]) := fun tt kt => go607 tt (by
      refine XS.aloadN X605.here hx rfl (hb hby d4_235) rfl rfl ?_
      refine XS.aloadN X605.here hx rfl (hb hby d4_236) rfl rfl ?_
      exact kt)
  have f609 := (((LI_highest.other W581 (Or.inl LI_n1)).other W598 (Or.inl LI_n2)).other W605 (Or.inr (slot_ne (Or.inl (W 32 rfl)) (Or.inl (W 18 rfl)) (by decide) (t := .long) (t' := .long) (by decide) (by decide))))
  obtain ⟨T610, X610, e610, st610⟩ := getF X605 hx hZ hown (host := "") (Or.inl (W 31 rfl)) Via.refl e605 f609 (g := (mkF m 237 #[rv o1, .val (.long cm), .second, .val (.long ln), .second, .val (.long lw), .second, iv (1 : Int32)] [(.ref o1), (.ref o1)])) rfl rfl (hb hby d4_237)
  have go611 : own_S p e below ST T610 (mkF m 240 #[rv o1, .val (.long cm), .second, .val (.long ln), .second, .val (.long lw), .second, iv (1 : Int32)] [(.long hi), (.ref o1)]) := fun tt kt => go608 tt (st610 _ kt)
  have go612 : own_S p e below ST T610 (mkF m 241 #[rv o1, .val (.long cm), .second, .val (.long ln), .second, .val (.long lw), .second, iv (1 : Int32)] [(.long cm), (.long hi), (.ref o1)]) := fun tt kt => go611 tt (by
      refine XS.lloadN X610.here hx rfl (hb hby d4_240) rfl ?_
      exact kt)
  have zs614 := (Nat.le_trans (Nat.le_trans zs596 (Keep.of_wr W598).1) (Keep.of_wr W605).1)
  obtain ⟨_, _, ⟨T613, L613, k613, n613⟩, -, X613, ⟨Lc613, hQ613, l613, y613, z613⟩, st613⟩ := Jvm.LawKit.callS X610 hx (y := (⟨"java/lang/Math", "max", "(JJ)J"⟩ : MethodName)) hown (mvT hZ (W 33 rfl)) (mvT hZ (W 34 rfl)) (mvT hZ (W 35 rfl)) (mvT hZ (W 36 rfl)) (by decide) (backOf (W := 1) (rm5 l Z a0 hw [] hi cm h605 n0 zs614 ) hZ (W 36 rfl) (W 35 rfl) (by decide) (by decide)) (g := (mkF m 241 #[rv o1, .val (.long cm), .second, .val (.long ln), .second, .val (.long lw), .second, iv (1 : Int32)] [(.long cm), (.long hi), (.ref o1)])) rfl (by rw [hml]; rfl) (argsL := [(.long hi), (.long cm)]) (rest := [(.ref o1)]) (lenOf pd93 rfl) rfl (by show 2 * 0 + _ ≤ _; exact Nat.le_of_eq rfl) (hb hby d4_241) (fun _ _ => ⟨rfl, e610, (by decide : 0 + 0 ≤ _), (by decide : 0 + 0 ≤ _)⟩)
  dsimp only [Pt.U, Pt.locs, Pt.cells, Pt.slots] at X613 l613 y613 z613 st613 hQ613
  subst l613 y613 z613
  obtain ⟨rfl, Nq613, eh613⟩ := hQ613
  have N613 := Fr.app N605 Nq613
  have go615 : own_S p e below ST T613 (mkF m 244 #[rv o1, .val (.long cm), .second, .val (.long ln), .second, .val (.long lw), .second, iv (1 : Int32)] [(.long (own_maxJ hi cm)), (.ref o1)]) := fun tt kt => go612 tt (st613 _ kt)
  have f617 := (f606.wr W605)
  obtain ⟨T616, h616, X616, e616, W616, st616⟩ := putF X613 hx hZ hown (host := "") (Or.inl (W 31 rfl)) Via.refl eh613 f609 f617 (Or.inl (W 32 rfl)) (W 2 rfl) (ty := .long) (by decide) rfl rfl (g := (mkF m 244 #[rv o1, .val (.long cm), .second, .val (.long ln), .second, .val (.long lw), .second, iv (1 : Int32)] [(.long (own_maxJ hi cm)), (.ref o1)])) rfl rfl (hb hby d4_244)
  have Fw616 := f609.same W616
  have N616 := Fr.snoc X616 N613 LI_go
  have go618 : own_S p e below ST T616 (mkF m 247 #[rv o1, .val (.long cm), .second, .val (.long ln), .second, .val (.long lw), .second, iv (1 : Int32)] []) := fun tt kt => go615 tt (st616 _ kt)
  have KC616 : Keep h0 h616 [o1, bs, bl, br] := KC605.wr W616 (Or.inl (List.mem_of_getElem? (i := 0) rfl))
  have f619 := (f617.wr W616)
  have f620 := ((((LI_starts.other W581 (Or.inl LI_n1)).other W598 (Or.inl LI_n2)).other W605 (Or.inr (slot_ne (Or.inl (W 12 rfl)) (Or.inl (W 18 rfl)) (by decide) (t := (.array .long)) (t' := .long) (by decide) (by decide)))).other W616 (Or.inr (slot_ne (Or.inl (W 12 rfl)) (Or.inl (W 32 rfl)) (by decide) (t := (.array .long)) (t' := .long) (by decide) (by decide))))
  have f621 := ((((LI_lows.other W581 (Or.inl LI_n1)).other W598 (Or.inl LI_n2)).other W605 (Or.inr (slot_ne (Or.inl (W 14 rfl)) (Or.inl (W 18 rfl)) (by decide) (t := (.array .long)) (t' := .long) (by decide) (by decide)))).other W616 (Or.inr (slot_ne (Or.inl (W 14 rfl)) (Or.inl (W 32 rfl)) (by decide) (t := (.array .long)) (t' := .long) (by decide) (by decide))))
  have f622 := (((f584.other W598 (Or.inl LI_n2)).other W605 (Or.inr (slot_ne (Or.inl (W 16 rfl)) (Or.inl (W 18 rfl)) (by decide) (t := (.array .long)) (t' := .long) (by decide) (by decide)))).other W616 (Or.inr (slot_ne (Or.inl (W 16 rfl)) (Or.inl (W 32 rfl)) (by decide) (t := (.array .long)) (t' := .long) (by decide) (by decide))))
  have f623 := (Fw605.other W616 (Or.inr (slot_ne (Or.inl (W 18 rfl)) (Or.inl (W 32 rfl)) (by decide) (t := .long) (t' := .long) (by decide) (by decide))))
  have f624 := ((((LI_count.other W581 (Or.inl LI_n1)).other W598 (Or.inl LI_n2)).other W605 (Or.inr (slot_ne (Or.inl (W 25 rfl)) (Or.inl (W 18 rfl)) (by decide) (t := .int) (t' := .long) (by decide) (by decide)))).other W616 (Or.inr (slot_ne (Or.inl (W 25 rfl)) (Or.inl (W 32 rfl)) (by decide) (t := .int) (t' := .long) (by decide) (by decide))))
  have f625 := ((((LI_Vs.other W581 LI_n3).other W598 LI_n4).other W605 (Ne.symm LI_n0)).other W616 (Ne.symm LI_n0))
  have f626 := (((V581.other W598 LI_n5).other W605 (Ne.symm LI_n1)).other W616 (Ne.symm LI_n1))
  have f627 := ((V598.other W605 (Ne.symm LI_n2)).other W616 (Ne.symm LI_n2))
  obtain ⟨fs, hr, hrun, hended, hW, hsame⟩ := X616.leave (v := none) (fun _ => rfl) (hlocks := by first | exact BodyLoose.notSynchronized Bd | exact Body.notSynchronized Bd)
  refine ⟨_, _, pre0 _ (go618 _ ?_), hrun, hended, _, _, rfl, ?_, ⟨_, rfl⟩, hW, hsame.mono (by decide) (by decide)⟩
  · exact X616.returnOut hx Bd.returns (hb hby d4_247) hr
  · show Q4c2m Z o1 bs bl br ks kl kr cm ln en hi s0 s1 w0 w1 r0 r1 h0 n0 _ T616.heap _
    rw [e616]
    exact ⟨lw, rfl, N616, KC616, ⟨f619, f620, f621, f622, f623, f624, Fw616, f625, f626, f627, LI_go, LI_gs, LI_gl, LI_gr, LI_n0, LI_n1, LI_n2, LI_n3, LI_n4, LI_n5⟩⟩
theorem d3_0 : decode prog_214_method_5_code 0 = .ok (.iconst 0, 1) := by decide +kernel
theorem d3_1 : decode prog_214_method_5_code 1 = .ok (.istore_n 3, 1) := by decide +kernel
theorem d3_2 : decode prog_214_method_5_code 2 = .ok (.iload_n 3, 1) := by decide +kernel
theorem d3_3 : decode prog_214_method_5_code 3 = .ok (.aload_n 0, 1) := by decide +kernel
theorem d3_4 : decode prog_214_method_5_code 4 = .ok (.getfield 29, 3) := by decide +kernel
theorem d3_7 : decode prog_214_method_5_code 7 = .ok (.if_icmp .ge 27, 3) := by decide +kernel
theorem d3_34 : decode prog_214_method_5_code 34 = .ok (.aload_n 0, 1) := by decide +kernel
theorem d3_35 : decode prog_214_method_5_code 35 = .ok (.getfield 19, 3) := by decide +kernel
theorem d3_38 : decode prog_214_method_5_code 38 = .ok (.lreturn, 1) := by decide +kernel
theorem ef3c0 (m : MethodId) (x0 : Addr) (x1 : Int64) : entryFrame m #[(.ref x0), (.long x1)] 4 = mkF m 0 #[.val (.ref x0), .val (.long x1), .second, .unset] [] := by first | (simp [entryFrame, mkF, argsToLocals, Value.category]; done) | rfl
def Q3c0 (Z : State) (o1 : Addr) (bs : Addr) (bl : Addr) (br : Addr) (ks : ClassId) (kl : ClassId) (kr : ClassId) (hgh : Int64) (en : Int64) (hi : Int64) (w0 : Int64) (w1 : Int64) (w2 : Int64) (h0 : Heap) (n0 : Nat) (v : Option Value) (h : Heap) (L : List Loc) : Prop := v = some (.long en) ∧ Fr n0 L ∧ h = h0
set_option maxRecDepth 65536 in
set_option maxHeartbeats 40000000 in
theorem rm3c0 (l : Launch) (Z : State) (a0 : Array Value) (hw : ∀ d ∈ tables_1, d.before a0 Z = true) (ws : List Jvm.Cond) (o1 : Addr) (bs : Addr) (bl : Addr) (br : Addr) (ks : ClassId) (kl : ClassId) (kr : ClassId) (hgh : Int64) (en : Int64) (hi : Int64) (w0 : Int64) (w1 : Int64) (w2 : Int64) (h0 : Heap) (n0 : Nat) (Z0 : n0 ≤ h0.size) (LI : own_LI Z h0 n0 o1 bs bl br ks kl kr [(.long (0 : Int64)), (.long (0 : Int64)), (.long (0 : Int64))] [(.long w0), (.long w1), (.long w2)] [(.long (0 : Int64)), (.long (0 : Int64)), (.long (0 : Int64))] en (0 : Int32) hi) :
    MetFree l (⟨"com/example/altocommit/altocommit/store/LogIndex", "allAtOrBelowUpTo", "(J)J"⟩ : MethodName) (head1 (Jvm.Cond.code (⟨"com/example/altocommit/altocommit/store/LogIndex", "allAtOrBelowUpTo", "(J)J"⟩ : MethodName) prog_214_method_5_code 4 (some .long) :: ws) ({ frames := 0, cells := 0, slots := 0, locals := 0 } : Room)) (fun aa UU => aa = #[(.ref o1), (.long hgh)] ∧ Z.Warmed39 UU.vm ∧ UU.heap = h0) (fun _ _ _ _ _ => True) (fun _ UU oo UU' => ∃ vv LL, oo = .returned vv ∧ Q3c0 Z o1 bs bl br ks kl kr hgh en hi w0 w1 w2 h0 n0 vv UU'.heap LL ∧ FrameEnd UU oo UU' LL ({ frames := 0, cells := 0, slots := 0, locals := 0 } : Room).cells ({ frames := 0, cells := 0, slots := 0, locals := 0 } : Room).slots) := by
  have W : ∀ {d : Jvm.Cond} (i : Nat), tables_1[i]? = some d → d.before a0 Z = true := fun i h => hw _ (List.mem_of_getElem? h)
  refine MetFree.of_bodySF (plainFor_of_name pn16) hisR ?_
  intro p e s m args below meth c s₁ Bd hml0 hP hK
  obtain ⟨rfl, hZ, hh⟩ := hP
  have hx := Bd.exec
  have hby := Bd.bytes
  have hml : c.maxLocals = 4 := hml0
  have hown : s.vm.findClass "com/example/altocommit/altocommit/store/LogIndex" = some m.cls := findClass_of_methodNamed Bd.named
  have hnm := (name_of_methodNamed Bd.named Bd.method).1
  have X0 : Stand p l e ({ frames := 0, cells := 0, slots := 0, locals := 0 } : Room) s m #[(.ref o1), (.long hgh)] below meth c s₁ [] 0 0 := Stand.of_body Bd
  have e0 : s₁.heap = h0 := by rw [← hh, Bd.state]; rfl
  have N0 := Fr.nil n0
  have pre0 : ∀ tt, Steps p.tables e below (s₁.setTop (mkF m 0 #[rv o1, .val (.long hgh), .second, .unset] [])) tt → Steps p.tables e below (s₁.setTop (entryFrame m #[(.ref o1), (.long hgh)] 4)) tt := fun tt kt => castTop (ef3c0 m o1 hgh) kt
  obtain ⟨ST, hST⟩ : ∃ z : State, z = s₁.setTop (mkF m 0 #[rv o1, .val (.long hgh), .second, .unset] []) := ⟨_, rfl⟩
  rw [← hST] at pre0
  obtain ⟨LI_E, LI_starts, LI_lows, LI_reaches, LI_end, LI_count, LI_highest, LI_Vs, LI_Vl, LI_Vr, LI_go, LI_gs, LI_gl, LI_gr, LI_n0, LI_n1, LI_n2, LI_n3, LI_n4, LI_n5⟩ := LI
  have go628 : own_S p e below ST s₁ (mkF m 4 #[rv o1, .val (.long hgh), .second, iv (0 : Int32)] [(.ref o1), (.int (0 : Int32))]) := fun tt kt => (by
      rw [hST]
      show Steps p.tables e below (s₁.setTop (mkF m 0 #[rv o1, .val (.long hgh), .second, .unset] [])) _
      refine XS.iconst X0.here hx rfl (hb hby d3_0) ?_
      refine XS.istoreN X0.here hx rfl (hb hby d3_1) rfl (l' := #[rv o1, .val (.long hgh), .second, iv (0 : Int32)]) rfl ?_
      refine XS.iloadN X0.here hx rfl (hb hby d3_2) rfl ?_
      refine XS.aloadN X0.here hx rfl (hb hby d3_3) rfl rfl ?_
      exact kt)
  obtain ⟨T629, X629, e629, st629⟩ := getF X0 hx hZ hown (host := "") (Or.inl (W 24 rfl)) Via.refl e0 LI_count (g := (mkF m 4 #[rv o1, .val (.long hgh), .second, iv (0 : Int32)] [(.ref o1), (.int (0 : Int32))])) rfl rfl (hb hby d3_4)
  have go630 : own_S p e below ST T629 (mkF m 7 #[rv o1, .val (.long hgh), .second, iv (0 : Int32)] [(.int (0 : Int32)), (.int (0 : Int32))]) := fun tt kt => go628 tt (st629 _ kt)
  have go631 : own_S p e below ST T629 (mkF m 35 #[rv o1, .val (.long hgh), .second, iv (0 : Int32)] [(.ref o1)]) := fun tt kt => go630 tt (by
      refine XS.icmpYes X629.here hx rfl (pc0 := 7) (pc' := 34) rfl (hb hby d3_7) rfl (flt (by decide : ¬ ((0 : Int32) < (0 : Int32)))).2.1 (by decide) (by decide) ?_
      refine XS.aloadN X629.here hx rfl (hb hby d3_34) rfl rfl ?_
      exact kt)
  obtain ⟨T632, X632, e632, st632⟩ := getF X629 hx hZ hown (host := "") (Or.inl (W 17 rfl)) Via.refl e629 LI_end (g := (mkF m 35 #[rv o1, .val (.long hgh), .second, iv (0 : Int32)] [(.ref o1)])) rfl rfl (hb hby d3_35)
  have go633 : own_S p e below ST T632 (mkF m 38 #[rv o1, .val (.long hgh), .second, iv (0 : Int32)] [(.long en)]) := fun tt kt => go631 tt (st632 _ kt)
  obtain ⟨fs, hr, hrun, hended, hW, hsame⟩ := X632.leave (v := some (.long en)) (fun h => by rw [Bd.returns] at h; cases h) (hlocks := by first | exact BodyLoose.notSynchronized Bd | exact Body.notSynchronized Bd)
  refine ⟨_, _, pre0 _ (go633 _ ?_), hrun, hended, _, _, rfl, ?_, ⟨_, rfl⟩, hW, hsame.mono (by decide) (by decide)⟩
  · exact retOut X632 hx Bd.returns rfl (Or.inr (Or.inl ⟨rfl, rfl, _, rfl⟩)) (hb hby d3_38) hr
  · show Q3c0 Z o1 bs bl br ks kl kr hgh en hi w0 w1 w2 h0 n0 _ T632.heap _
    rw [e632]
    exact ⟨rfl, N0, rfl⟩
theorem d3_10 : decode prog_214_method_5_code 10 = .ok (.aload_n 0, 1) := by decide +kernel
theorem d3_11 : decode prog_214_method_5_code 11 = .ok (.getfield 16, 3) := by decide +kernel
theorem d3_14 : decode prog_214_method_5_code 14 = .ok (.iload_n 3, 1) := by decide +kernel
theorem d3_15 : decode prog_214_method_5_code 15 = .ok (.laload, 1) := by decide +kernel
theorem d3_16 : decode prog_214_method_5_code 16 = .ok (.lload_n 1, 1) := by decide +kernel
theorem d3_17 : decode prog_214_method_5_code 17 = .ok (.lcmp, 1) := by decide +kernel
theorem d3_18 : decode prog_214_method_5_code 18 = .ok (.ifCond .le 10, 3) := by decide +kernel
theorem d3_21 : decode prog_214_method_5_code 21 = .ok (.aload_n 0, 1) := by decide +kernel
theorem d3_22 : decode prog_214_method_5_code 22 = .ok (.getfield 7, 3) := by decide +kernel
theorem d3_25 : decode prog_214_method_5_code 25 = .ok (.iload_n 3, 1) := by decide +kernel
theorem d3_26 : decode prog_214_method_5_code 26 = .ok (.laload, 1) := by decide +kernel
theorem d3_27 : decode prog_214_method_5_code 27 = .ok (.lreturn, 1) := by decide +kernel
theorem d3_28 : decode prog_214_method_5_code 28 = .ok (.iinc 3 1, 3) := by decide +kernel
theorem d3_31 : decode prog_214_method_5_code 31 = .ok (.goto (-29), 3) := by decide +kernel
theorem ef3c1 (m : MethodId) (x0 : Addr) (x1 : Int64) : entryFrame m #[(.ref x0), (.long x1)] 4 = mkF m 0 #[.val (.ref x0), .val (.long x1), .second, .unset] [] := by first | (simp [entryFrame, mkF, argsToLocals, Value.category]; done) | rfl
def Q3c1 (Z : State) (o1 : Addr) (bs : Addr) (bl : Addr) (br : Addr) (ks : ClassId) (kl : ClassId) (kr : ClassId) (hgh : Int64) (en : Int64) (hi : Int64) (s0 : Int64) (w0 : Int64) (w1 : Int64) (w2 : Int64) (r0 : Int64) (h0 : Heap) (n0 : Nat) (v : Option Value) (h : Heap) (L : List Loc) : Prop := v = some (.long (if (0 : Int32) < lcmpW r0 hgh then s0 else en)) ∧ Fr n0 L ∧ h = h0
set_option maxRecDepth 65536 in
set_option maxHeartbeats 40000000 in
theorem rm3c1 (l : Launch) (Z : State) (a0 : Array Value) (hw : ∀ d ∈ tables_1, d.before a0 Z = true) (ws : List Jvm.Cond) (o1 : Addr) (bs : Addr) (bl : Addr) (br : Addr) (ks : ClassId) (kl : ClassId) (kr : ClassId) (hgh : Int64) (en : Int64) (hi : Int64) (s0 : Int64) (w0 : Int64) (w1 : Int64) (w2 : Int64) (r0 : Int64) (h0 : Heap) (n0 : Nat) (Z0 : n0 ≤ h0.size) (LI : own_LI Z h0 n0 o1 bs bl br ks kl kr [(.long s0), (.long (0 : Int64)), (.long (0 : Int64))] [(.long w0), (.long w1), (.long w2)] [(.long r0), (.long (0 : Int64)), (.long (0 : Int64))] en (1 : Int32) hi) :
    MetFree l (⟨"com/example/altocommit/altocommit/store/LogIndex", "allAtOrBelowUpTo", "(J)J"⟩ : MethodName) (head1 (Jvm.Cond.code (⟨"com/example/altocommit/altocommit/store/LogIndex", "allAtOrBelowUpTo", "(J)J"⟩ : MethodName) prog_214_method_5_code 4 (some .long) :: ws) ({ frames := 0, cells := 0, slots := 0, locals := 0 } : Room)) (fun aa UU => aa = #[(.ref o1), (.long hgh)] ∧ Z.Warmed39 UU.vm ∧ UU.heap = h0) (fun _ _ _ _ _ => True) (fun _ UU oo UU' => ∃ vv LL, oo = .returned vv ∧ Q3c1 Z o1 bs bl br ks kl kr hgh en hi s0 w0 w1 w2 r0 h0 n0 vv UU'.heap LL ∧ FrameEnd UU oo UU' LL ({ frames := 0, cells := 0, slots := 0, locals := 0 } : Room).cells ({ frames := 0, cells := 0, slots := 0, locals := 0 } : Room).slots) := by
  have W : ∀ {d : Jvm.Cond} (i : Nat), tables_1[i]? = some d → d.before a0 Z = true := fun i h => hw _ (List.mem_of_getElem? h)
  refine MetFree.of_bodySF (plainFor_of_name pn16) hisR ?_
  intro p e s m args below meth c s₁ Bd hml0 hP hK
  obtain ⟨rfl, hZ, hh⟩ := hP
  have hx := Bd.exec
  have hby := Bd.bytes
  have hml : c.maxLocals = 4 := hml0
  have hown : s.vm.findClass "com/example/altocommit/altocommit/store/LogIndex" = some m.cls := findClass_of_methodNamed Bd.named
  have hnm := (name_of_methodNamed Bd.named Bd.method).1
  have X0 : Stand p l e ({ frames := 0, cells := 0, slots := 0, locals := 0 } : Room) s m #[(.ref o1), (.long hgh)] below meth c s₁ [] 0 0 := Stand.of_body Bd
  have e0 : s₁.heap = h0 := by rw [← hh, Bd.state]; rfl
  have N0 := Fr.nil n0
  have pre0 : ∀ tt, Steps p.tables e below (s₁.setTop (mkF m 0 #[rv o1, .val (.long hgh), .second, .unset] [])) tt → Steps p.tables e below (s₁.setTop (entryFrame m #[(.ref o1), (.long hgh)] 4)) tt := fun tt kt => castTop (ef3c1 m o1 hgh) kt
  obtain ⟨ST, hST⟩ : ∃ z : State, z = s₁.setTop (mkF m 0 #[rv o1, .val (.long hgh), .second, .unset] []) := ⟨_, rfl⟩
  rw [← hST] at pre0
  obtain ⟨LI_E, LI_starts, LI_lows, LI_reaches, LI_end, LI_count, LI_highest, LI_Vs, LI_Vl, LI_Vr, LI_go, LI_gs, LI_gl, LI_gr, LI_n0, LI_n1, LI_n2, LI_n3, LI_n4, LI_n5⟩ := LI
  have go634 : own_S p e below ST s₁ (mkF m 4 #[rv o1, .val (.long hgh), .second, iv (0 : Int32)] [(.ref o1), (.int (0 : Int32))]) := fun tt kt => (by
      rw [hST]
      show Steps p.tables e below (s₁.setTop (mkF m 0 #[rv o1, .val (.long hgh), .second, .unset] [])) _
      refine XS.iconst X0.here hx rfl (hb hby d3_0) ?_
      refine XS.istoreN X0.here hx rfl (hb hby d3_1) rfl (l' := #[rv o1, .val (.long hgh), .second, iv (0 : Int32)]) rfl ?_
      refine XS.iloadN X0.here hx rfl (hb hby d3_2) rfl ?_
      refine XS.aloadN X0.here hx rfl (hb hby d3_3) rfl rfl ?_
      exact kt)
  obtain ⟨T635, X635, e635, st635⟩ := getF X0 hx hZ hown (host := "") (Or.inl (W 24 rfl)) Via.refl e0 LI_count (g := (mkF m 4 #[rv o1, .val (.long hgh), .second, iv (0 : Int32)] [(.ref o1), (.int (0 : Int32))])) rfl rfl (hb hby d3_4)
  have go636 : own_S p e below ST T635 (mkF m 7 #[rv o1, .val (.long hgh), .second, iv (0 : Int32)] [(.int (1 : Int32)), (.int (0 : Int32))]) := fun tt kt => go634 tt (st635 _ kt)
  have go637 : own_S p e below ST T635 (mkF m 11 #[rv o1, .val (.long hgh), .second, iv (0 : Int32)] [(.ref o1)]) := fun tt kt => go636 tt (by
      refine XS.icmpNo X635.here hx rfl (hb hby d3_7) rfl (tlt (by decide : (0 : Int32) < (1 : Int32))).2.1 ?_
      refine XS.aloadN X635.here hx rfl (hb hby d3_10) rfl rfl ?_
      exact kt)
  obtain ⟨T638, X638, e638, st638⟩ := getF X635 hx hZ hown (host := "") (Or.inl (W 15 rfl)) Via.refl e635 LI_reaches (g := (mkF m 11 #[rv o1, .val (.long hgh), .second, iv (0 : Int32)] [(.ref o1)])) rfl rfl (hb hby d3_11)
  have go639 : own_S p e below ST T638 (mkF m 14 #[rv o1, .val (.long hgh), .second, iv (0 : Int32)] [(.ref br)]) := fun tt kt => go637 tt (st638 _ kt)
  have go640 : own_S p e below ST T638 (mkF m 15 #[rv o1, .val (.long hgh), .second, iv (0 : Int32)] [(.int (0 : Int32)), (.ref br)]) := fun tt kt => go639 tt (by
      refine XS.iloadN X638.here hx rfl (hb hby d3_14) rfl ?_
      exact kt)
  obtain ⟨cl641, Ar641, q641, S641, M641, H641, G641⟩ := id LI_Vr
  have hin641 : ¬ ((0 : Int32) < 0 ∨ cl641.slots.size ≤ ((0 : Int32)).toNatClampNeg) := inb_of S641 ⟨by decide, by decide⟩
  have hat641 : cl641.slots[((0 : Int32)).toNatClampNeg]? = some (.long r0) := H641.at hin641 rfl
  have go642 : own_S p e below ST T638 (mkF m 16 #[rv o1, .val (.long hgh), .second, iv (0 : Int32)] [(.long r0)]) := fun tt kt => go640 tt (by
      refine X638.laload hx (j := (0 : Int32)) (v := (.long r0)) (by rw [e638]; exact Ar641.1) (State.isArrayOf_alike hZ.alike Ar641.2.1) Ar641.2.2 hin641 hat641 (g := (mkF m 15 #[rv o1, .val (.long hgh), .second, iv (0 : Int32)] [(.int (0 : Int32)), (.ref br)])) rfl rfl (hb hby d3_15) _ ?_
      exact kt)
  have go643 : own_S p e below ST T638 (mkF m 18 #[rv o1, .val (.long hgh), .second, iv (0 : Int32)] [(.int (lcmpW r0 hgh))]) := fun tt kt => go642 tt (by
      refine XS.lloadN X638.here hx rfl (hb hby d3_16) rfl ?_
      refine XS.lcmp X638.here hx rfl (hb hby d3_17) rfl ?_
      exact kt)
  by_cases ha0 : (0 : Int32) < (lcmpW r0 hgh)
  · have go644 : own_S p e below ST T638 (mkF m 21 #[rv o1, .val (.long hgh), .second, iv (0 : Int32)] []) := fun tt kt => go643 tt (by
        refine XS.ifNo X638.here hx rfl (hb hby d3_18) rfl ((if0 _ _).trans (tlt ha0).2.2.2) ?_
        exact kt)
    have go645 : own_S p e below ST T638 (mkF m 22 #[rv o1, .val (.long hgh), .second, iv (0 : Int32)] [(.ref o1)]) := fun tt kt => go644 tt (by
        refine XS.aloadN X638.here hx rfl (hb hby d3_21) rfl rfl ?_
        exact kt)
    obtain ⟨T646, X646, e646, st646⟩ := getF X638 hx hZ hown (host := "") (Or.inl (W 11 rfl)) Via.refl e638 LI_starts (g := (mkF m 22 #[rv o1, .val (.long hgh), .second, iv (0 : Int32)] [(.ref o1)])) rfl rfl (hb hby d3_22)
    have go647 : own_S p e below ST T646 (mkF m 25 #[rv o1, .val (.long hgh), .second, iv (0 : Int32)] [(.ref bs)]) := fun tt kt => go645 tt (st646 _ kt)
    have go648 : own_S p e below ST T646 (mkF m 26 #[rv o1, .val (.long hgh), .second, iv (0 : Int32)] [(.int (0 : Int32)), (.ref bs)]) := fun tt kt => go647 tt (by
        refine XS.iloadN X646.here hx rfl (hb hby d3_25) rfl ?_
        exact kt)
    obtain ⟨cl649, Ar649, q649, S649, M649, H649, G649⟩ := id LI_Vs
    have hin649 : ¬ ((0 : Int32) < 0 ∨ cl649.slots.size ≤ ((0 : Int32)).toNatClampNeg) := inb_of S649 ⟨by decide, by decide⟩
    have hat649 : cl649.slots[((0 : Int32)).toNatClampNeg]? = some (.long s0) := H649.at hin649 rfl
    have go650 : own_S p e below ST T646 (mkF m 27 #[rv o1, .val (.long hgh), .second, iv (0 : Int32)] [(.long s0)]) := fun tt kt => go648 tt (by
        refine X646.laload hx (j := (0 : Int32)) (v := (.long s0)) (by rw [e646]; exact Ar649.1) (State.isArrayOf_alike hZ.alike Ar649.2.1) Ar649.2.2 hin649 hat649 (g := (mkF m 26 #[rv o1, .val (.long hgh), .second, iv (0 : Int32)] [(.int (0 : Int32)), (.ref bs)])) rfl rfl (hb hby d3_26) _ ?_
        exact kt)
    obtain ⟨fs, hr, hrun, hended, hW, hsame⟩ := X646.leave (v := some (.long s0)) (fun h => by rw [Bd.returns] at h; cases h) (hlocks := by first | exact BodyLoose.notSynchronized Bd | exact Body.notSynchronized Bd)
    refine ⟨_, _, pre0 _ (go650 _ ?_), hrun, hended, _, _, rfl, ?_, ⟨_, rfl⟩, hW, hsame.mono (by decide) (by decide)⟩
    · exact retOut X646 hx Bd.returns rfl (Or.inr (Or.inl ⟨rfl, rfl, _, rfl⟩)) (hb hby d3_27) hr
    · show Q3c1 Z o1 bs bl br ks kl kr hgh en hi s0 w0 w1 w2 r0 h0 n0 _ T646.heap _
      rw [e646]
      exact ⟨(by rw [if_pos ha0]), N0, rfl⟩
  · have go651 : own_S p e below ST T638 (mkF m 28 #[rv o1, .val (.long hgh), .second, iv (0 : Int32)] []) := fun tt kt => go643 tt (by
        refine XS.ifYes X638.here hx rfl (pc0 := 18) (pc' := 28) rfl (hb hby d3_18) rfl ((if0 _ _).trans (flt ha0).2.2.2) (by decide) (by decide) ?_
        exact kt)
    have go652 : own_S p e below ST T638 (mkF m 4 #[rv o1, .val (.long hgh), .second, iv (1 : Int32)] [(.ref o1), (.int (1 : Int32))]) := fun tt kt => go651 tt (by
        refine XS.iinc X638.here hx rfl (hb hby d3_28) rfl (l' := #[rv o1, .val (.long hgh), .second, iv (1 : Int32)]) rfl ?_
        refine XS.goto X638.here hx rfl (pc0 := 31) (pc' := 2) rfl (hb hby d3_31) (by decide) (by decide) ?_
        refine XS.iloadN X638.here hx rfl (hb hby d3_2) rfl ?_
        refine XS.aloadN X638.here hx rfl (hb hby d3_3) rfl rfl ?_
        exact kt)
    obtain ⟨T653, X653, e653, st653⟩ := getF X638 hx hZ hown (host := "") (Or.inl (W 24 rfl)) Via.refl e638 LI_count (g := (mkF m 4 #[rv o1, .val (.long hgh), .second, iv (1 : Int32)] [(.ref o1), (.int (1 : Int32))])) rfl rfl (hb hby d3_4)
    have go654 : own_S p e below ST T653 (mkF m 7 #[rv o1, .val (.long hgh), .second, iv (1 : Int32)] [(.int (1 : Int32)), (.int (1 : Int32))]) := fun tt kt => go652 tt (st653 _ kt)
    have go655 : own_S p e below ST T653 (mkF m 35 #[rv o1, .val (.long hgh), .second, iv (1 : Int32)] [(.ref o1)]) := fun tt kt => go654 tt (by
        refine XS.icmpYes X653.here hx rfl (pc0 := 7) (pc' := 34) rfl (hb hby d3_7) rfl (flt (by decide : ¬ ((1 : Int32) < (1 : Int32)))).2.1 (by decide) (by decide) ?_
        refine XS.aloadN X653.here hx rfl (hb hby d3_34) rfl rfl ?_
        exact kt)
    obtain ⟨T656, X656, e656, st656⟩ := getF X653 hx hZ hown (host := "") (Or.inl (W 17 rfl)) Via.refl e653 LI_end (g := (mkF m 35 #[rv o1, .val (.long hgh), .second, iv (1 : Int32)] [(.ref o1)])) rfl rfl (hb hby d3_35)
    have go657 : own_S p e below ST T656 (mkF m 38 #[rv o1, .val (.long hgh), .second, iv (1 : Int32)] [(.long en)]) := fun tt kt => go655 tt (st656 _ kt)
    obtain ⟨fs, hr, hrun, hended, hW, hsame⟩ := X656.leave (v := some (.long en)) (fun h => by rw [Bd.returns] at h; cases h) (hlocks := by first | exact BodyLoose.notSynchronized Bd | exact Body.notSynchronized Bd)
    refine ⟨_, _, pre0 _ (go657 _ ?_), hrun, hended, _, _, rfl, ?_, ⟨_, rfl⟩, hW, hsame.mono (by decide) (by decide)⟩
    · exact retOut X656 hx Bd.returns rfl (Or.inr (Or.inl ⟨rfl, rfl, _, rfl⟩)) (hb hby d3_38) hr
    · show Q3c1 Z o1 bs bl br ks kl kr hgh en hi s0 w0 w1 w2 r0 h0 n0 _ T656.heap _
      rw [e656]
      exact ⟨(by rw [if_neg ha0]), N0, rfl⟩
theorem ef3c2 (m : MethodId) (x0 : Addr) (x1 : Int64) : entryFrame m #[(.ref x0), (.long x1)] 4 = mkF m 0 #[.val (.ref x0), .val (.long x1), .second, .unset] [] := by first | (simp [entryFrame, mkF, argsToLocals, Value.category]; done) | rfl
def Q3c2 (Z : State) (o1 : Addr) (bs : Addr) (bl : Addr) (br : Addr) (ks : ClassId) (kl : ClassId) (kr : ClassId) (hgh : Int64) (en : Int64) (hi : Int64) (s0 : Int64) (s1 : Int64) (w0 : Int64) (w1 : Int64) (w2 : Int64) (r0 : Int64) (r1 : Int64) (h0 : Heap) (n0 : Nat) (v : Option Value) (h : Heap) (L : List Loc) : Prop := v = some (.long (if (0 : Int32) < lcmpW r0 hgh then s0 else (if (0 : Int32) < lcmpW r1 hgh then s1 else en))) ∧ Fr n0 L ∧ h = h0
set_option maxRecDepth 65536 in
set_option maxHeartbeats 40000000 in
theorem rm3c2 (l : Launch) (Z : State) (a0 : Array Value) (hw : ∀ d ∈ tables_1, d.before a0 Z = true) (ws : List Jvm.Cond) (o1 : Addr) (bs : Addr) (bl : Addr) (br : Addr) (ks : ClassId) (kl : ClassId) (kr : ClassId) (hgh : Int64) (en : Int64) (hi : Int64) (s0 : Int64) (s1 : Int64) (w0 : Int64) (w1 : Int64) (w2 : Int64) (r0 : Int64) (r1 : Int64) (h0 : Heap) (n0 : Nat) (Z0 : n0 ≤ h0.size) (LI : own_LI Z h0 n0 o1 bs bl br ks kl kr [(.long s0), (.long s1), (.long (0 : Int64))] [(.long w0), (.long w1), (.long w2)] [(.long r0), (.long r1), (.long (0 : Int64))] en (2 : Int32) hi) :
    MetFree l (⟨"com/example/altocommit/altocommit/store/LogIndex", "allAtOrBelowUpTo", "(J)J"⟩ : MethodName) (head1 (Jvm.Cond.code (⟨"com/example/altocommit/altocommit/store/LogIndex", "allAtOrBelowUpTo", "(J)J"⟩ : MethodName) prog_214_method_5_code 4 (some .long) :: ws) ({ frames := 0, cells := 0, slots := 0, locals := 0 } : Room)) (fun aa UU => aa = #[(.ref o1), (.long hgh)] ∧ Z.Warmed39 UU.vm ∧ UU.heap = h0) (fun _ _ _ _ _ => True) (fun _ UU oo UU' => ∃ vv LL, oo = .returned vv ∧ Q3c2 Z o1 bs bl br ks kl kr hgh en hi s0 s1 w0 w1 w2 r0 r1 h0 n0 vv UU'.heap LL ∧ FrameEnd UU oo UU' LL ({ frames := 0, cells := 0, slots := 0, locals := 0 } : Room).cells ({ frames := 0, cells := 0, slots := 0, locals := 0 } : Room).slots) := by
  have W : ∀ {d : Jvm.Cond} (i : Nat), tables_1[i]? = some d → d.before a0 Z = true := fun i h => hw _ (List.mem_of_getElem? h)
  refine MetFree.of_bodySF (plainFor_of_name pn16) hisR ?_
  intro p e s m args below meth c s₁ Bd hml0 hP hK
  obtain ⟨rfl, hZ, hh⟩ := hP
  have hx := Bd.exec
  have hby := Bd.bytes
  have hml : c.maxLocals = 4 := hml0
  have hown : s.vm.findClass "com/example/altocommit/altocommit/store/LogIndex" = some m.cls := findClass_of_methodNamed Bd.named
  have hnm := (name_of_methodNamed Bd.named Bd.method).1
  have X0 : Stand p l e ({ frames := 0, cells := 0, slots := 0, locals := 0 } : Room) s m #[(.ref o1), (.long hgh)] below meth c s₁ [] 0 0 := Stand.of_body Bd
  have e0 : s₁.heap = h0 := by rw [← hh, Bd.state]; rfl
  have N0 := Fr.nil n0
  have pre0 : ∀ tt, Steps p.tables e below (s₁.setTop (mkF m 0 #[rv o1, .val (.long hgh), .second, .unset] [])) tt → Steps p.tables e below (s₁.setTop (entryFrame m #[(.ref o1), (.long hgh)] 4)) tt := fun tt kt => castTop (ef3c2 m o1 hgh) kt
  obtain ⟨ST, hST⟩ : ∃ z : State, z = s₁.setTop (mkF m 0 #[rv o1, .val (.long hgh), .second, .unset] []) := ⟨_, rfl⟩
  rw [← hST] at pre0
  obtain ⟨LI_E, LI_starts, LI_lows, LI_reaches, LI_end, LI_count, LI_highest, LI_Vs, LI_Vl, LI_Vr, LI_go, LI_gs, LI_gl, LI_gr, LI_n0, LI_n1, LI_n2, LI_n3, LI_n4, LI_n5⟩ := LI
  have go658 : own_S p e below ST s₁ (mkF m 4 #[rv o1, .val (.long hgh), .second, iv (0 : Int32)] [(.ref o1), (.int (0 : Int32))]) := fun tt kt => (by
      rw [hST]
      show Steps p.tables e below (s₁.setTop (mkF m 0 #[rv o1, .val (.long hgh), .second, .unset] [])) _
      refine XS.iconst X0.here hx rfl (hb hby d3_0) ?_
      refine XS.istoreN X0.here hx rfl (hb hby d3_1) rfl (l' := #[rv o1, .val (.long hgh), .second, iv (0 : Int32)]) rfl ?_
      refine XS.iloadN X0.here hx rfl (hb hby d3_2) rfl ?_
      refine XS.aloadN X0.here hx rfl (hb hby d3_3) rfl rfl ?_
      exact kt)
  obtain ⟨T659, X659, e659, st659⟩ := getF X0 hx hZ hown (host := "") (Or.inl (W 24 rfl)) Via.refl e0 LI_count (g := (mkF m 4 #[rv o1, .val (.long hgh), .second, iv (0 : Int32)] [(.ref o1), (.int (0 : Int32))])) rfl rfl (hb hby d3_4)
  have go660 : own_S p e below ST T659 (mkF m 7 #[rv o1, .val (.long hgh), .second, iv (0 : Int32)] [(.int (2 : Int32)), (.int (0 : Int32))]) := fun tt kt => go658 tt (st659 _ kt)
  have go661 : own_S p e below ST T659 (mkF m 11 #[rv o1, .val (.long hgh), .second, iv (0 : Int32)] [(.ref o1)]) := fun tt kt => go660 tt (by
      refine XS.icmpNo X659.here hx rfl (hb hby d3_7) rfl (tlt (by decide : (0 : Int32) < (2 : Int32))).2.1 ?_
      refine XS.aloadN X659.here hx rfl (hb hby d3_10) rfl rfl ?_
      exact kt)
  obtain ⟨T662, X662, e662, st662⟩ := getF X659 hx hZ hown (host := "") (Or.inl (W 15 rfl)) Via.refl e659 LI_reaches (g := (mkF m 11 #[rv o1, .val (.long hgh), .second, iv (0 : Int32)] [(.ref o1)])) rfl rfl (hb hby d3_11)
  have go663 : own_S p e below ST T662 (mkF m 14 #[rv o1, .val (.long hgh), .second, iv (0 : Int32)] [(.ref br)]) := fun tt kt => go661 tt (st662 _ kt)
  have go664 : own_S p e below ST T662 (mkF m 15 #[rv o1, .val (.long hgh), .second, iv (0 : Int32)] [(.int (0 : Int32)), (.ref br)]) := fun tt kt => go663 tt (by
      refine XS.iloadN X662.here hx rfl (hb hby d3_14) rfl ?_
      exact kt)
  obtain ⟨cl665, Ar665, q665, S665, M665, H665, G665⟩ := id LI_Vr
  have hin665 : ¬ ((0 : Int32) < 0 ∨ cl665.slots.size ≤ ((0 : Int32)).toNatClampNeg) := inb_of S665 ⟨by decide, by decide⟩
  have hat665 : cl665.slots[((0 : Int32)).toNatClampNeg]? = some (.long r0) := H665.at hin665 rfl
  have go666 : own_S p e below ST T662 (mkF m 16 #[rv o1, .val (.long hgh), .second, iv (0 : Int32)] [(.long r0)]) := fun tt kt => go664 tt (by
      refine X662.laload hx (j := (0 : Int32)) (v := (.long r0)) (by rw [e662]; exact Ar665.1) (State.isArrayOf_alike hZ.alike Ar665.2.1) Ar665.2.2 hin665 hat665 (g := (mkF m 15 #[rv o1, .val (.long hgh), .second, iv (0 : Int32)] [(.int (0 : Int32)), (.ref br)])) rfl rfl (hb hby d3_15) _ ?_
      exact kt)
  have go667 : own_S p e below ST T662 (mkF m 18 #[rv o1, .val (.long hgh), .second, iv (0 : Int32)] [(.int (lcmpW r0 hgh))]) := fun tt kt => go666 tt (by
      refine XS.lloadN X662.here hx rfl (hb hby d3_16) rfl ?_
      refine XS.lcmp X662.here hx rfl (hb hby d3_17) rfl ?_
      exact kt)
  by_cases ha0 : (0 : Int32) < (lcmpW r0 hgh)
  · have go668 : own_S p e below ST T662 (mkF m 21 #[rv o1, .val (.long hgh), .second, iv (0 : Int32)] []) := fun tt kt => go667 tt (by
        refine XS.ifNo X662.here hx rfl (hb hby d3_18) rfl ((if0 _ _).trans (tlt ha0).2.2.2) ?_
        exact kt)
    have go669 : own_S p e below ST T662 (mkF m 22 #[rv o1, .val (.long hgh), .second, iv (0 : Int32)] [(.ref o1)]) := fun tt kt => go668 tt (by
        refine XS.aloadN X662.here hx rfl (hb hby d3_21) rfl rfl ?_
        exact kt)
    obtain ⟨T670, X670, e670, st670⟩ := getF X662 hx hZ hown (host := "") (Or.inl (W 11 rfl)) Via.refl e662 LI_starts (g := (mkF m 22 #[rv o1, .val (.long hgh), .second, iv (0 : Int32)] [(.ref o1)])) rfl rfl (hb hby d3_22)
    have go671 : own_S p e below ST T670 (mkF m 25 #[rv o1, .val (.long hgh), .second, iv (0 : Int32)] [(.ref bs)]) := fun tt kt => go669 tt (st670 _ kt)
    have go672 : own_S p e below ST T670 (mkF m 26 #[rv o1, .val (.long hgh), .second, iv (0 : Int32)] [(.int (0 : Int32)), (.ref bs)]) := fun tt kt => go671 tt (by
        refine XS.iloadN X670.here hx rfl (hb hby d3_25) rfl ?_
        exact kt)
    obtain ⟨cl673, Ar673, q673, S673, M673, H673, G673⟩ := id LI_Vs
    have hin673 : ¬ ((0 : Int32) < 0 ∨ cl673.slots.size ≤ ((0 : Int32)).toNatClampNeg) := inb_of S673 ⟨by decide, by decide⟩
    have hat673 : cl673.slots[((0 : Int32)).toNatClampNeg]? = some (.long s0) := H673.at hin673 rfl
    have go674 : own_S p e below ST T670 (mkF m 27 #[rv o1, .val (.long hgh), .second, iv (0 : Int32)] [(.long s0)]) := fun tt kt => go672 tt (by
        refine X670.laload hx (j := (0 : Int32)) (v := (.long s0)) (by rw [e670]; exact Ar673.1) (State.isArrayOf_alike hZ.alike Ar673.2.1) Ar673.2.2 hin673 hat673 (g := (mkF m 26 #[rv o1, .val (.long hgh), .second, iv (0 : Int32)] [(.int (0 : Int32)), (.ref bs)])) rfl rfl (hb hby d3_26) _ ?_
        exact kt)
    obtain ⟨fs, hr, hrun, hended, hW, hsame⟩ := X670.leave (v := some (.long s0)) (fun h => by rw [Bd.returns] at h; cases h) (hlocks := by first | exact BodyLoose.notSynchronized Bd | exact Body.notSynchronized Bd)
    refine ⟨_, _, pre0 _ (go674 _ ?_), hrun, hended, _, _, rfl, ?_, ⟨_, rfl⟩, hW, hsame.mono (by decide) (by decide)⟩
    · exact retOut X670 hx Bd.returns rfl (Or.inr (Or.inl ⟨rfl, rfl, _, rfl⟩)) (hb hby d3_27) hr
    · show Q3c2 Z o1 bs bl br ks kl kr hgh en hi s0 s1 w0 w1 w2 r0 r1 h0 n0 _ T670.heap _
      rw [e670]
      exact ⟨(by rw [if_pos ha0]), N0, rfl⟩
  · have go675 : own_S p e below ST T662 (mkF m 28 #[rv o1, .val (.long hgh), .second, iv (0 : Int32)] []) := fun tt kt => go667 tt (by
        refine XS.ifYes X662.here hx rfl (pc0 := 18) (pc' := 28) rfl (hb hby d3_18) rfl ((if0 _ _).trans (flt ha0).2.2.2) (by decide) (by decide) ?_
        exact kt)
    have go676 : own_S p e below ST T662 (mkF m 4 #[rv o1, .val (.long hgh), .second, iv (1 : Int32)] [(.ref o1), (.int (1 : Int32))]) := fun tt kt => go675 tt (by
        refine XS.iinc X662.here hx rfl (hb hby d3_28) rfl (l' := #[rv o1, .val (.long hgh), .second, iv (1 : Int32)]) rfl ?_
        refine XS.goto X662.here hx rfl (pc0 := 31) (pc' := 2) rfl (hb hby d3_31) (by decide) (by decide) ?_
        refine XS.iloadN X662.here hx rfl (hb hby d3_2) rfl ?_
        refine XS.aloadN X662.here hx rfl (hb hby d3_3) rfl rfl ?_
        exact kt)
    obtain ⟨T677, X677, e677, st677⟩ := getF X662 hx hZ hown (host := "") (Or.inl (W 24 rfl)) Via.refl e662 LI_count (g := (mkF m 4 #[rv o1, .val (.long hgh), .second, iv (1 : Int32)] [(.ref o1), (.int (1 : Int32))])) rfl rfl (hb hby d3_4)
    have go678 : own_S p e below ST T677 (mkF m 7 #[rv o1, .val (.long hgh), .second, iv (1 : Int32)] [(.int (2 : Int32)), (.int (1 : Int32))]) := fun tt kt => go676 tt (st677 _ kt)
    have go679 : own_S p e below ST T677 (mkF m 11 #[rv o1, .val (.long hgh), .second, iv (1 : Int32)] [(.ref o1)]) := fun tt kt => go678 tt (by
        refine XS.icmpNo X677.here hx rfl (hb hby d3_7) rfl (tlt (by decide : (1 : Int32) < (2 : Int32))).2.1 ?_
        refine XS.aloadN X677.here hx rfl (hb hby d3_10) rfl rfl ?_
        exact kt)
    obtain ⟨T680, X680, e680, st680⟩ := getF X677 hx hZ hown (host := "") (Or.inl (W 15 rfl)) Via.refl e677 LI_reaches (g := (mkF m 11 #[rv o1, .val (.long hgh), .second, iv (1 : Int32)] [(.ref o1)])) rfl rfl (hb hby d3_11)
    have go681 : own_S p e below ST T680 (mkF m 14 #[rv o1, .val (.long hgh), .second, iv (1 : Int32)] [(.ref br)]) := fun tt kt => go679 tt (st680 _ kt)
    have go682 : own_S p e below ST T680 (mkF m 15 #[rv o1, .val (.long hgh), .second, iv (1 : Int32)] [(.int (1 : Int32)), (.ref br)]) := fun tt kt => go681 tt (by
        refine XS.iloadN X680.here hx rfl (hb hby d3_14) rfl ?_
        exact kt)
    obtain ⟨cl683, Ar683, q683, S683, M683, H683, G683⟩ := id LI_Vr
    have hin683 : ¬ ((1 : Int32) < 0 ∨ cl683.slots.size ≤ ((1 : Int32)).toNatClampNeg) := inb_of S683 ⟨by decide, by decide⟩
    have hat683 : cl683.slots[((1 : Int32)).toNatClampNeg]? = some (.long r1) := H683.at hin683 rfl
    have go684 : own_S p e below ST T680 (mkF m 16 #[rv o1, .val (.long hgh), .second, iv (1 : Int32)] [(.long r1)]) := fun tt kt => go682 tt (by
        refine X680.laload hx (j := (1 : Int32)) (v := (.long r1)) (by rw [e680]; exact Ar683.1) (State.isArrayOf_alike hZ.alike Ar683.2.1) Ar683.2.2 hin683 hat683 (g := (mkF m 15 #[rv o1, .val (.long hgh), .second, iv (1 : Int32)] [(.int (1 : Int32)), (.ref br)])) rfl rfl (hb hby d3_15) _ ?_
        exact kt)
    have go685 : own_S p e below ST T680 (mkF m 18 #[rv o1, .val (.long hgh), .second, iv (1 : Int32)] [(.int (lcmpW r1 hgh))]) := fun tt kt => go684 tt (by
        refine XS.lloadN X680.here hx rfl (hb hby d3_16) rfl ?_
        refine XS.lcmp X680.here hx rfl (hb hby d3_17) rfl ?_
        exact kt)
    by_cases ha1 : (0 : Int32) < (lcmpW r1 hgh)
    · have go686 : own_S p e below ST T680 (mkF m 21 #[rv o1, .val (.long hgh), .second, iv (1 : Int32)] []) := fun tt kt => go685 tt (by
          refine XS.ifNo X680.here hx rfl (hb hby d3_18) rfl ((if0 _ _).trans (tlt ha1).2.2.2) ?_
          exact kt)
      have go687 : own_S p e below ST T680 (mkF m 22 #[rv o1, .val (.long hgh), .second, iv (1 : Int32)] [(.ref o1)]) := fun tt kt => go686 tt (by
          refine XS.aloadN X680.here hx rfl (hb hby d3_21) rfl rfl ?_
          exact kt)
      obtain ⟨T688, X688, e688, st688⟩ := getF X680 hx hZ hown (host := "") (Or.inl (W 11 rfl)) Via.refl e680 LI_starts (g := (mkF m 22 #[rv o1, .val (.long hgh), .second, iv (1 : Int32)] [(.ref o1)])) rfl rfl (hb hby d3_22)
      have go689 : own_S p e below ST T688 (mkF m 25 #[rv o1, .val (.long hgh), .second, iv (1 : Int32)] [(.ref bs)]) := fun tt kt => go687 tt (st688 _ kt)
      have go690 : own_S p e below ST T688 (mkF m 26 #[rv o1, .val (.long hgh), .second, iv (1 : Int32)] [(.int (1 : Int32)), (.ref bs)]) := fun tt kt => go689 tt (by
          refine XS.iloadN X688.here hx rfl (hb hby d3_25) rfl ?_
          exact kt)
      obtain ⟨cl691, Ar691, q691, S691, M691, H691, G691⟩ := id LI_Vs
      have hin691 : ¬ ((1 : Int32) < 0 ∨ cl691.slots.size ≤ ((1 : Int32)).toNatClampNeg) := inb_of S691 ⟨by decide, by decide⟩
      have hat691 : cl691.slots[((1 : Int32)).toNatClampNeg]? = some (.long s1) := H691.at hin691 rfl
      have go692 : own_S p e below ST T688 (mkF m 27 #[rv o1, .val (.long hgh), .second, iv (1 : Int32)] [(.long s1)]) := fun tt kt => go690 tt (by
          refine X688.laload hx (j := (1 : Int32)) (v := (.long s1)) (by rw [e688]; exact Ar691.1) (State.isArrayOf_alike hZ.alike Ar691.2.1) Ar691.2.2 hin691 hat691 (g := (mkF m 26 #[rv o1, .val (.long hgh), .second, iv (1 : Int32)] [(.int (1 : Int32)), (.ref bs)])) rfl rfl (hb hby d3_26) _ ?_
          exact kt)
      obtain ⟨fs, hr, hrun, hended, hW, hsame⟩ := X688.leave (v := some (.long s1)) (fun h => by rw [Bd.returns] at h; cases h) (hlocks := by first | exact BodyLoose.notSynchronized Bd | exact Body.notSynchronized Bd)
      refine ⟨_, _, pre0 _ (go692 _ ?_), hrun, hended, _, _, rfl, ?_, ⟨_, rfl⟩, hW, hsame.mono (by decide) (by decide)⟩
      · exact retOut X688 hx Bd.returns rfl (Or.inr (Or.inl ⟨rfl, rfl, _, rfl⟩)) (hb hby d3_27) hr
      · show Q3c2 Z o1 bs bl br ks kl kr hgh en hi s0 s1 w0 w1 w2 r0 r1 h0 n0 _ T688.heap _
        rw [e688]
        exact ⟨(by rw [if_neg ha0, if_pos ha1]), N0, rfl⟩
    · have go693 : own_S p e below ST T680 (mkF m 28 #[rv o1, .val (.long hgh), .second, iv (1 : Int32)] []) := fun tt kt => go685 tt (by
          refine XS.ifYes X680.here hx rfl (pc0 := 18) (pc' := 28) rfl (hb hby d3_18) rfl ((if0 _ _).trans (flt ha1).2.2.2) (by decide) (by decide) ?_
          exact kt)
      have go694 : own_S p e below ST T680 (mkF m 4 #[rv o1, .val (.long hgh), .second, iv (2 : Int32)] [(.ref o1), (.int (2 : Int32))]) := fun tt kt => go693 tt (by
          refine XS.iinc X680.here hx rfl (hb hby d3_28) rfl (l' := #[rv o1, .val (.long hgh), .second, iv (2 : Int32)]) rfl ?_
          refine XS.goto X680.here hx rfl (pc0 := 31) (pc' := 2) rfl (hb hby d3_31) (by decide) (by decide) ?_
          refine XS.iloadN X680.here hx rfl (hb hby d3_2) rfl ?_
          refine XS.aloadN X680.here hx rfl (hb hby d3_3) rfl rfl ?_
          exact kt)
      obtain ⟨T695, X695, e695, st695⟩ := getF X680 hx hZ hown (host := "") (Or.inl (W 24 rfl)) Via.refl e680 LI_count (g := (mkF m 4 #[rv o1, .val (.long hgh), .second, iv (2 : Int32)] [(.ref o1), (.int (2 : Int32))])) rfl rfl (hb hby d3_4)
      have go696 : own_S p e below ST T695 (mkF m 7 #[rv o1, .val (.long hgh), .second, iv (2 : Int32)] [(.int (2 : Int32)), (.int (2 : Int32))]) := fun tt kt => go694 tt (st695 _ kt)
      have go697 : own_S p e below ST T695 (mkF m 35 #[rv o1, .val (.long hgh), .second, iv (2 : Int32)] [(.ref o1)]) := fun tt kt => go696 tt (by
          refine XS.icmpYes X695.here hx rfl (pc0 := 7) (pc' := 34) rfl (hb hby d3_7) rfl (flt (by decide : ¬ ((2 : Int32) < (2 : Int32)))).2.1 (by decide) (by decide) ?_
          refine XS.aloadN X695.here hx rfl (hb hby d3_34) rfl rfl ?_
          exact kt)
      obtain ⟨T698, X698, e698, st698⟩ := getF X695 hx hZ hown (host := "") (Or.inl (W 17 rfl)) Via.refl e695 LI_end (g := (mkF m 35 #[rv o1, .val (.long hgh), .second, iv (2 : Int32)] [(.ref o1)])) rfl rfl (hb hby d3_35)
      have go699 : own_S p e below ST T698 (mkF m 38 #[rv o1, .val (.long hgh), .second, iv (2 : Int32)] [(.long en)]) := fun tt kt => go697 tt (st698 _ kt)
      obtain ⟨fs, hr, hrun, hended, hW, hsame⟩ := X698.leave (v := some (.long en)) (fun h => by rw [Bd.returns] at h; cases h) (hlocks := by first | exact BodyLoose.notSynchronized Bd | exact Body.notSynchronized Bd)
      refine ⟨_, _, pre0 _ (go699 _ ?_), hrun, hended, _, _, rfl, ?_, ⟨_, rfl⟩, hW, hsame.mono (by decide) (by decide)⟩
      · exact retOut X698 hx Bd.returns rfl (Or.inr (Or.inl ⟨rfl, rfl, _, rfl⟩)) (hb hby d3_38) hr
      · show Q3c2 Z o1 bs bl br ks kl kr hgh en hi s0 s1 w0 w1 w2 r0 r1 h0 n0 _ T698.heap _
        rw [e698]
        exact ⟨(by rw [if_neg ha0, if_neg ha1]), N0, rfl⟩
theorem ef3c3 (m : MethodId) (x0 : Addr) (x1 : Int64) : entryFrame m #[(.ref x0), (.long x1)] 4 = mkF m 0 #[.val (.ref x0), .val (.long x1), .second, .unset] [] := by first | (simp [entryFrame, mkF, argsToLocals, Value.category]; done) | rfl
def Q3c3 (Z : State) (o1 : Addr) (bs : Addr) (bl : Addr) (br : Addr) (ks : ClassId) (kl : ClassId) (kr : ClassId) (hgh : Int64) (en : Int64) (hi : Int64) (s0 : Int64) (s1 : Int64) (s2 : Int64) (w0 : Int64) (w1 : Int64) (w2 : Int64) (r0 : Int64) (r1 : Int64) (r2 : Int64) (h0 : Heap) (n0 : Nat) (v : Option Value) (h : Heap) (L : List Loc) : Prop := v = some (.long (if (0 : Int32) < lcmpW r0 hgh then s0 else (if (0 : Int32) < lcmpW r1 hgh then s1 else (if (0 : Int32) < lcmpW r2 hgh then s2 else en)))) ∧ Fr n0 L ∧ h = h0
set_option maxRecDepth 65536 in
set_option maxHeartbeats 40000000 in
theorem rm3c3 (l : Launch) (Z : State) (a0 : Array Value) (hw : ∀ d ∈ tables_1, d.before a0 Z = true) (ws : List Jvm.Cond) (o1 : Addr) (bs : Addr) (bl : Addr) (br : Addr) (ks : ClassId) (kl : ClassId) (kr : ClassId) (hgh : Int64) (en : Int64) (hi : Int64) (s0 : Int64) (s1 : Int64) (s2 : Int64) (w0 : Int64) (w1 : Int64) (w2 : Int64) (r0 : Int64) (r1 : Int64) (r2 : Int64) (h0 : Heap) (n0 : Nat) (Z0 : n0 ≤ h0.size) (LI : own_LI Z h0 n0 o1 bs bl br ks kl kr [(.long s0), (.long s1), (.long s2)] [(.long w0), (.long w1), (.long w2)] [(.long r0), (.long r1), (.long r2)] en (3 : Int32) hi) :
    MetFree l (⟨"com/example/altocommit/altocommit/store/LogIndex", "allAtOrBelowUpTo", "(J)J"⟩ : MethodName) (head1 (Jvm.Cond.code (⟨"com/example/altocommit/altocommit/store/LogIndex", "allAtOrBelowUpTo", "(J)J"⟩ : MethodName) prog_214_method_5_code 4 (some .long) :: ws) ({ frames := 0, cells := 0, slots := 0, locals := 0 } : Room)) (fun aa UU => aa = #[(.ref o1), (.long hgh)] ∧ Z.Warmed39 UU.vm ∧ UU.heap = h0) (fun _ _ _ _ _ => True) (fun _ UU oo UU' => ∃ vv LL, oo = .returned vv ∧ Q3c3 Z o1 bs bl br ks kl kr hgh en hi s0 s1 s2 w0 w1 w2 r0 r1 r2 h0 n0 vv UU'.heap LL ∧ FrameEnd UU oo UU' LL ({ frames := 0, cells := 0, slots := 0, locals := 0 } : Room).cells ({ frames := 0, cells := 0, slots := 0, locals := 0 } : Room).slots) := by
  have W : ∀ {d : Jvm.Cond} (i : Nat), tables_1[i]? = some d → d.before a0 Z = true := fun i h => hw _ (List.mem_of_getElem? h)
  refine MetFree.of_bodySF (plainFor_of_name pn16) hisR ?_
  intro p e s m args below meth c s₁ Bd hml0 hP hK
  obtain ⟨rfl, hZ, hh⟩ := hP
  have hx := Bd.exec
  have hby := Bd.bytes
  have hml : c.maxLocals = 4 := hml0
  have hown : s.vm.findClass "com/example/altocommit/altocommit/store/LogIndex" = some m.cls := findClass_of_methodNamed Bd.named
  have hnm := (name_of_methodNamed Bd.named Bd.method).1
  have X0 : Stand p l e ({ frames := 0, cells := 0, slots := 0, locals := 0 } : Room) s m #[(.ref o1), (.long hgh)] below meth c s₁ [] 0 0 := Stand.of_body Bd
  have e0 : s₁.heap = h0 := by rw [← hh, Bd.state]; rfl
  have N0 := Fr.nil n0
  have pre0 : ∀ tt, Steps p.tables e below (s₁.setTop (mkF m 0 #[rv o1, .val (.long hgh), .second, .unset] [])) tt → Steps p.tables e below (s₁.setTop (entryFrame m #[(.ref o1), (.long hgh)] 4)) tt := fun tt kt => castTop (ef3c3 m o1 hgh) kt
  obtain ⟨ST, hST⟩ : ∃ z : State, z = s₁.setTop (mkF m 0 #[rv o1, .val (.long hgh), .second, .unset] []) := ⟨_, rfl⟩
  rw [← hST] at pre0
  obtain ⟨LI_E, LI_starts, LI_lows, LI_reaches, LI_end, LI_count, LI_highest, LI_Vs, LI_Vl, LI_Vr, LI_go, LI_gs, LI_gl, LI_gr, LI_n0, LI_n1, LI_n2, LI_n3, LI_n4, LI_n5⟩ := LI
  have go700 : own_S p e below ST s₁ (mkF m 4 #[rv o1, .val (.long hgh), .second, iv (0 : Int32)] [(.ref o1), (.int (0 : Int32))]) := fun tt kt => (by
      rw [hST]
      show Steps p.tables e below (s₁.setTop (mkF m 0 #[rv o1, .val (.long hgh), .second, .unset] [])) _
      refine XS.iconst X0.here hx rfl (hb hby d3_0) ?_
      refine XS.istoreN X0.here hx rfl (hb hby d3_1) rfl (l' := #[rv o1, .val (.long hgh), .second, iv (0 : Int32)]) rfl ?_
      refine XS.iloadN X0.here hx rfl (hb hby d3_2) rfl ?_
      refine XS.aloadN X0.here hx rfl (hb hby d3_3) rfl rfl ?_
      exact kt)
  obtain ⟨T701, X701, e701, st701⟩ := getF X0 hx hZ hown (host := "") (Or.inl (W 24 rfl)) Via.refl e0 LI_count (g := (mkF m 4 #[rv o1, .val (.long hgh), .second, iv (0 : Int32)] [(.ref o1), (.int (0 : Int32))])) rfl rfl (hb hby d3_4)
  have go702 : own_S p e below ST T701 (mkF m 7 #[rv o1, .val (.long hgh), .second, iv (0 : Int32)] [(.int (3 : Int32)), (.int (0 : Int32))]) := fun tt kt => go700 tt (st701 _ kt)
  have go703 : own_S p e below ST T701 (mkF m 11 #[rv o1, .val (.long hgh), .second, iv (0 : Int32)] [(.ref o1)]) := fun tt kt => go702 tt (by
      refine XS.icmpNo X701.here hx rfl (hb hby d3_7) rfl (tlt (by decide : (0 : Int32) < (3 : Int32))).2.1 ?_
      refine XS.aloadN X701.here hx rfl (hb hby d3_10) rfl rfl ?_
      exact kt)
  obtain ⟨T704, X704, e704, st704⟩ := getF X701 hx hZ hown (host := "") (Or.inl (W 15 rfl)) Via.refl e701 LI_reaches (g := (mkF m 11 #[rv o1, .val (.long hgh), .second, iv (0 : Int32)] [(.ref o1)])) rfl rfl (hb hby d3_11)
  have go705 : own_S p e below ST T704 (mkF m 14 #[rv o1, .val (.long hgh), .second, iv (0 : Int32)] [(.ref br)]) := fun tt kt => go703 tt (st704 _ kt)
  have go706 : own_S p e below ST T704 (mkF m 15 #[rv o1, .val (.long hgh), .second, iv (0 : Int32)] [(.int (0 : Int32)), (.ref br)]) := fun tt kt => go705 tt (by
      refine XS.iloadN X704.here hx rfl (hb hby d3_14) rfl ?_
      exact kt)
  obtain ⟨cl707, Ar707, q707, S707, M707, H707, G707⟩ := id LI_Vr
  have hin707 : ¬ ((0 : Int32) < 0 ∨ cl707.slots.size ≤ ((0 : Int32)).toNatClampNeg) := inb_of S707 ⟨by decide, by decide⟩
  have hat707 : cl707.slots[((0 : Int32)).toNatClampNeg]? = some (.long r0) := H707.at hin707 rfl
  have go708 : own_S p e below ST T704 (mkF m 16 #[rv o1, .val (.long hgh), .second, iv (0 : Int32)] [(.long r0)]) := fun tt kt => go706 tt (by
      refine X704.laload hx (j := (0 : Int32)) (v := (.long r0)) (by rw [e704]; exact Ar707.1) (State.isArrayOf_alike hZ.alike Ar707.2.1) Ar707.2.2 hin707 hat707 (g := (mkF m 15 #[rv o1, .val (.long hgh), .second, iv (0 : Int32)] [(.int (0 : Int32)), (.ref br)])) rfl rfl (hb hby d3_15) _ ?_
      exact kt)
  have go709 : own_S p e below ST T704 (mkF m 18 #[rv o1, .val (.long hgh), .second, iv (0 : Int32)] [(.int (lcmpW r0 hgh))]) := fun tt kt => go708 tt (by
      refine XS.lloadN X704.here hx rfl (hb hby d3_16) rfl ?_
      refine XS.lcmp X704.here hx rfl (hb hby d3_17) rfl ?_
      exact kt)
  by_cases ha0 : (0 : Int32) < (lcmpW r0 hgh)
  · have go710 : own_S p e below ST T704 (mkF m 21 #[rv o1, .val (.long hgh), .second, iv (0 : Int32)] []) := fun tt kt => go709 tt (by
        refine XS.ifNo X704.here hx rfl (hb hby d3_18) rfl ((if0 _ _).trans (tlt ha0).2.2.2) ?_
        exact kt)
    have go711 : own_S p e below ST T704 (mkF m 22 #[rv o1, .val (.long hgh), .second, iv (0 : Int32)] [(.ref o1)]) := fun tt kt => go710 tt (by
        refine XS.aloadN X704.here hx rfl (hb hby d3_21) rfl rfl ?_
        exact kt)
    obtain ⟨T712, X712, e712, st712⟩ := getF X704 hx hZ hown (host := "") (Or.inl (W 11 rfl)) Via.refl e704 LI_starts (g := (mkF m 22 #[rv o1, .val (.long hgh), .second, iv (0 : Int32)] [(.ref o1)])) rfl rfl (hb hby d3_22)
    have go713 : own_S p e below ST T712 (mkF m 25 #[rv o1, .val (.long hgh), .second, iv (0 : Int32)] [(.ref bs)]) := fun tt kt => go711 tt (st712 _ kt)
    have go714 : own_S p e below ST T712 (mkF m 26 #[rv o1, .val (.long hgh), .second, iv (0 : Int32)] [(.int (0 : Int32)), (.ref bs)]) := fun tt kt => go713 tt (by
        refine XS.iloadN X712.here hx rfl (hb hby d3_25) rfl ?_
        exact kt)
    obtain ⟨cl715, Ar715, q715, S715, M715, H715, G715⟩ := id LI_Vs
    have hin715 : ¬ ((0 : Int32) < 0 ∨ cl715.slots.size ≤ ((0 : Int32)).toNatClampNeg) := inb_of S715 ⟨by decide, by decide⟩
    have hat715 : cl715.slots[((0 : Int32)).toNatClampNeg]? = some (.long s0) := H715.at hin715 rfl
    have go716 : own_S p e below ST T712 (mkF m 27 #[rv o1, .val (.long hgh), .second, iv (0 : Int32)] [(.long s0)]) := fun tt kt => go714 tt (by
        refine X712.laload hx (j := (0 : Int32)) (v := (.long s0)) (by rw [e712]; exact Ar715.1) (State.isArrayOf_alike hZ.alike Ar715.2.1) Ar715.2.2 hin715 hat715 (g := (mkF m 26 #[rv o1, .val (.long hgh), .second, iv (0 : Int32)] [(.int (0 : Int32)), (.ref bs)])) rfl rfl (hb hby d3_26) _ ?_
        exact kt)
    obtain ⟨fs, hr, hrun, hended, hW, hsame⟩ := X712.leave (v := some (.long s0)) (fun h => by rw [Bd.returns] at h; cases h) (hlocks := by first | exact BodyLoose.notSynchronized Bd | exact Body.notSynchronized Bd)
    refine ⟨_, _, pre0 _ (go716 _ ?_), hrun, hended, _, _, rfl, ?_, ⟨_, rfl⟩, hW, hsame.mono (by decide) (by decide)⟩
    · exact retOut X712 hx Bd.returns rfl (Or.inr (Or.inl ⟨rfl, rfl, _, rfl⟩)) (hb hby d3_27) hr
    · show Q3c3 Z o1 bs bl br ks kl kr hgh en hi s0 s1 s2 w0 w1 w2 r0 r1 r2 h0 n0 _ T712.heap _
      rw [e712]
      exact ⟨(by rw [if_pos ha0]), N0, rfl⟩
  · have go717 : own_S p e below ST T704 (mkF m 28 #[rv o1, .val (.long hgh), .second, iv (0 : Int32)] []) := fun tt kt => go709 tt (by
        refine XS.ifYes X704.here hx rfl (pc0 := 18) (pc' := 28) rfl (hb hby d3_18) rfl ((if0 _ _).trans (flt ha0).2.2.2) (by decide) (by decide) ?_
        exact kt)
    have go718 : own_S p e below ST T704 (mkF m 4 #[rv o1, .val (.long hgh), .second, iv (1 : Int32)] [(.ref o1), (.int (1 : Int32))]) := fun tt kt => go717 tt (by
        refine XS.iinc X704.here hx rfl (hb hby d3_28) rfl (l' := #[rv o1, .val (.long hgh), .second, iv (1 : Int32)]) rfl ?_
        refine XS.goto X704.here hx rfl (pc0 := 31) (pc' := 2) rfl (hb hby d3_31) (by decide) (by decide) ?_
        refine XS.iloadN X704.here hx rfl (hb hby d3_2) rfl ?_
        refine XS.aloadN X704.here hx rfl (hb hby d3_3) rfl rfl ?_
        exact kt)
    obtain ⟨T719, X719, e719, st719⟩ := getF X704 hx hZ hown (host := "") (Or.inl (W 24 rfl)) Via.refl e704 LI_count (g := (mkF m 4 #[rv o1, .val (.long hgh), .second, iv (1 : Int32)] [(.ref o1), (.int (1 : Int32))])) rfl rfl (hb hby d3_4)
    have go720 : own_S p e below ST T719 (mkF m 7 #[rv o1, .val (.long hgh), .second, iv (1 : Int32)] [(.int (3 : Int32)), (.int (1 : Int32))]) := fun tt kt => go718 tt (st719 _ kt)
    have go721 : own_S p e below ST T719 (mkF m 11 #[rv o1, .val (.long hgh), .second, iv (1 : Int32)] [(.ref o1)]) := fun tt kt => go720 tt (by
        refine XS.icmpNo X719.here hx rfl (hb hby d3_7) rfl (tlt (by decide : (1 : Int32) < (3 : Int32))).2.1 ?_
        refine XS.aloadN X719.here hx rfl (hb hby d3_10) rfl rfl ?_
        exact kt)
    obtain ⟨T722, X722, e722, st722⟩ := getF X719 hx hZ hown (host := "") (Or.inl (W 15 rfl)) Via.refl e719 LI_reaches (g := (mkF m 11 #[rv o1, .val (.long hgh), .second, iv (1 : Int32)] [(.ref o1)])) rfl rfl (hb hby d3_11)
    have go723 : own_S p e below ST T722 (mkF m 14 #[rv o1, .val (.long hgh), .second, iv (1 : Int32)] [(.ref br)]) := fun tt kt => go721 tt (st722 _ kt)
    have go724 : own_S p e below ST T722 (mkF m 15 #[rv o1, .val (.long hgh), .second, iv (1 : Int32)] [(.int (1 : Int32)), (.ref br)]) := fun tt kt => go723 tt (by
        refine XS.iloadN X722.here hx rfl (hb hby d3_14) rfl ?_
        exact kt)
    obtain ⟨cl725, Ar725, q725, S725, M725, H725, G725⟩ := id LI_Vr
    have hin725 : ¬ ((1 : Int32) < 0 ∨ cl725.slots.size ≤ ((1 : Int32)).toNatClampNeg) := inb_of S725 ⟨by decide, by decide⟩
    have hat725 : cl725.slots[((1 : Int32)).toNatClampNeg]? = some (.long r1) := H725.at hin725 rfl
    have go726 : own_S p e below ST T722 (mkF m 16 #[rv o1, .val (.long hgh), .second, iv (1 : Int32)] [(.long r1)]) := fun tt kt => go724 tt (by
        refine X722.laload hx (j := (1 : Int32)) (v := (.long r1)) (by rw [e722]; exact Ar725.1) (State.isArrayOf_alike hZ.alike Ar725.2.1) Ar725.2.2 hin725 hat725 (g := (mkF m 15 #[rv o1, .val (.long hgh), .second, iv (1 : Int32)] [(.int (1 : Int32)), (.ref br)])) rfl rfl (hb hby d3_15) _ ?_
        exact kt)
    have go727 : own_S p e below ST T722 (mkF m 18 #[rv o1, .val (.long hgh), .second, iv (1 : Int32)] [(.int (lcmpW r1 hgh))]) := fun tt kt => go726 tt (by
        refine XS.lloadN X722.here hx rfl (hb hby d3_16) rfl ?_
        refine XS.lcmp X722.here hx rfl (hb hby d3_17) rfl ?_
        exact kt)
    by_cases ha1 : (0 : Int32) < (lcmpW r1 hgh)
    · have go728 : own_S p e below ST T722 (mkF m 21 #[rv o1, .val (.long hgh), .second, iv (1 : Int32)] []) := fun tt kt => go727 tt (by
          refine XS.ifNo X722.here hx rfl (hb hby d3_18) rfl ((if0 _ _).trans (tlt ha1).2.2.2) ?_
          exact kt)
      have go729 : own_S p e below ST T722 (mkF m 22 #[rv o1, .val (.long hgh), .second, iv (1 : Int32)] [(.ref o1)]) := fun tt kt => go728 tt (by
          refine XS.aloadN X722.here hx rfl (hb hby d3_21) rfl rfl ?_
          exact kt)
      obtain ⟨T730, X730, e730, st730⟩ := getF X722 hx hZ hown (host := "") (Or.inl (W 11 rfl)) Via.refl e722 LI_starts (g := (mkF m 22 #[rv o1, .val (.long hgh), .second, iv (1 : Int32)] [(.ref o1)])) rfl rfl (hb hby d3_22)
      have go731 : own_S p e below ST T730 (mkF m 25 #[rv o1, .val (.long hgh), .second, iv (1 : Int32)] [(.ref bs)]) := fun tt kt => go729 tt (st730 _ kt)
      have go732 : own_S p e below ST T730 (mkF m 26 #[rv o1, .val (.long hgh), .second, iv (1 : Int32)] [(.int (1 : Int32)), (.ref bs)]) := fun tt kt => go731 tt (by
          refine XS.iloadN X730.here hx rfl (hb hby d3_25) rfl ?_
          exact kt)
      obtain ⟨cl733, Ar733, q733, S733, M733, H733, G733⟩ := id LI_Vs
      have hin733 : ¬ ((1 : Int32) < 0 ∨ cl733.slots.size ≤ ((1 : Int32)).toNatClampNeg) := inb_of S733 ⟨by decide, by decide⟩
      have hat733 : cl733.slots[((1 : Int32)).toNatClampNeg]? = some (.long s1) := H733.at hin733 rfl
      have go734 : own_S p e below ST T730 (mkF m 27 #[rv o1, .val (.long hgh), .second, iv (1 : Int32)] [(.long s1)]) := fun tt kt => go732 tt (by
          refine X730.laload hx (j := (1 : Int32)) (v := (.long s1)) (by rw [e730]; exact Ar733.1) (State.isArrayOf_alike hZ.alike Ar733.2.1) Ar733.2.2 hin733 hat733 (g := (mkF m 26 #[rv o1, .val (.long hgh), .second, iv (1 : Int32)] [(.int (1 : Int32)), (.ref bs)])) rfl rfl (hb hby d3_26) _ ?_
          exact kt)
      obtain ⟨fs, hr, hrun, hended, hW, hsame⟩ := X730.leave (v := some (.long s1)) (fun h => by rw [Bd.returns] at h; cases h) (hlocks := by first | exact BodyLoose.notSynchronized Bd | exact Body.notSynchronized Bd)
      refine ⟨_, _, pre0 _ (go734 _ ?_), hrun, hended, _, _, rfl, ?_, ⟨_, rfl⟩, hW, hsame.mono (by decide) (by decide)⟩
      · exact retOut X730 hx Bd.returns rfl (Or.inr (Or.inl ⟨rfl, rfl, _, rfl⟩)) (hb hby d3_27) hr
      · show Q3c3 Z o1 bs bl br ks kl kr hgh en hi s0 s1 s2 w0 w1 w2 r0 r1 r2 h0 n0 _ T730.heap _
        rw [e730]
        exact ⟨(by rw [if_neg ha0, if_pos ha1]), N0, rfl⟩
    · have go735 : own_S p e below ST T722 (mkF m 28 #[rv o1, .val (.long hgh), .second, iv (1 : Int32)] []) := fun tt kt => go727 tt (by
          refine XS.ifYes X722.here hx rfl (pc0 := 18) (pc' := 28) rfl (hb hby d3_18) rfl ((if0 _ _).trans (flt ha1).2.2.2) (by decide) (by decide) ?_
          exact kt)
      have go736 : own_S p e below ST T722 (mkF m 4 #[rv o1, .val (.long hgh), .second, iv (2 : Int32)] [(.ref o1), (.int (2 : Int32))]) := fun tt kt => go735 tt (by
          refine XS.iinc X722.here hx rfl (hb hby d3_28) rfl (l' := #[rv o1, .val (.long hgh), .second, iv (2 : Int32)]) rfl ?_
          refine XS.goto X722.here hx rfl (pc0 := 31) (pc' := 2) rfl (hb hby d3_31) (by decide) (by decide) ?_
          refine XS.iloadN X722.here hx rfl (hb hby d3_2) rfl ?_
          refine XS.aloadN X722.here hx rfl (hb hby d3_3) rfl rfl ?_
          exact kt)
      obtain ⟨T737, X737, e737, st737⟩ := getF X722 hx hZ hown (host := "") (Or.inl (W 24 rfl)) Via.refl e722 LI_count (g := (mkF m 4 #[rv o1, .val (.long hgh), .second, iv (2 : Int32)] [(.ref o1), (.int (2 : Int32))])) rfl rfl (hb hby d3_4)
      have go738 : own_S p e below ST T737 (mkF m 7 #[rv o1, .val (.long hgh), .second, iv (2 : Int32)] [(.int (3 : Int32)), (.int (2 : Int32))]) := fun tt kt => go736 tt (st737 _ kt)
      have go739 : own_S p e below ST T737 (mkF m 11 #[rv o1, .val (.long hgh), .second, iv (2 : Int32)] [(.ref o1)]) := fun tt kt => go738 tt (by
          refine XS.icmpNo X737.here hx rfl (hb hby d3_7) rfl (tlt (by decide : (2 : Int32) < (3 : Int32))).2.1 ?_
          refine XS.aloadN X737.here hx rfl (hb hby d3_10) rfl rfl ?_
          exact kt)
      obtain ⟨T740, X740, e740, st740⟩ := getF X737 hx hZ hown (host := "") (Or.inl (W 15 rfl)) Via.refl e737 LI_reaches (g := (mkF m 11 #[rv o1, .val (.long hgh), .second, iv (2 : Int32)] [(.ref o1)])) rfl rfl (hb hby d3_11)
      have go741 : own_S p e below ST T740 (mkF m 14 #[rv o1, .val (.long hgh), .second, iv (2 : Int32)] [(.ref br)]) := fun tt kt => go739 tt (st740 _ kt)
      have go742 : own_S p e below ST T740 (mkF m 15 #[rv o1, .val (.long hgh), .second, iv (2 : Int32)] [(.int (2 : Int32)), (.ref br)]) := fun tt kt => go741 tt (by
          refine XS.iloadN X740.here hx rfl (hb hby d3_14) rfl ?_
          exact kt)
      obtain ⟨cl743, Ar743, q743, S743, M743, H743, G743⟩ := id LI_Vr
      have hin743 : ¬ ((2 : Int32) < 0 ∨ cl743.slots.size ≤ ((2 : Int32)).toNatClampNeg) := inb_of S743 ⟨by decide, by decide⟩
      have hat743 : cl743.slots[((2 : Int32)).toNatClampNeg]? = some (.long r2) := H743.at hin743 rfl
      have go744 : own_S p e below ST T740 (mkF m 16 #[rv o1, .val (.long hgh), .second, iv (2 : Int32)] [(.long r2)]) := fun tt kt => go742 tt (by
          refine X740.laload hx (j := (2 : Int32)) (v := (.long r2)) (by rw [e740]; exact Ar743.1) (State.isArrayOf_alike hZ.alike Ar743.2.1) Ar743.2.2 hin743 hat743 (g := (mkF m 15 #[rv o1, .val (.long hgh), .second, iv (2 : Int32)] [(.int (2 : Int32)), (.ref br)])) rfl rfl (hb hby d3_15) _ ?_
          exact kt)
      have go745 : own_S p e below ST T740 (mkF m 18 #[rv o1, .val (.long hgh), .second, iv (2 : Int32)] [(.int (lcmpW r2 hgh))]) := fun tt kt => go744 tt (by
          refine XS.lloadN X740.here hx rfl (hb hby d3_16) rfl ?_
          refine XS.lcmp X740.here hx rfl (hb hby d3_17) rfl ?_
          exact kt)
      by_cases ha2 : (0 : Int32) < (lcmpW r2 hgh)
      · have go746 : own_S p e below ST T740 (mkF m 21 #[rv o1, .val (.long hgh), .second, iv (2 : Int32)] []) := fun tt kt => go745 tt (by
            refine XS.ifNo X740.here hx rfl (hb hby d3_18) rfl ((if0 _ _).trans (tlt ha2).2.2.2) ?_
            exact kt)
        have go747 : own_S p e below ST T740 (mkF m 22 #[rv o1, .val (.long hgh), .second, iv (2 : Int32)] [(.ref o1)]) := fun tt kt => go746 tt (by
            refine XS.aloadN X740.here hx rfl (hb hby d3_21) rfl rfl ?_
            exact kt)
        obtain ⟨T748, X748, e748, st748⟩ := getF X740 hx hZ hown (host := "") (Or.inl (W 11 rfl)) Via.refl e740 LI_starts (g := (mkF m 22 #[rv o1, .val (.long hgh), .second, iv (2 : Int32)] [(.ref o1)])) rfl rfl (hb hby d3_22)
        have go749 : own_S p e below ST T748 (mkF m 25 #[rv o1, .val (.long hgh), .second, iv (2 : Int32)] [(.ref bs)]) := fun tt kt => go747 tt (st748 _ kt)
        have go750 : own_S p e below ST T748 (mkF m 26 #[rv o1, .val (.long hgh), .second, iv (2 : Int32)] [(.int (2 : Int32)), (.ref bs)]) := fun tt kt => go749 tt (by
            refine XS.iloadN X748.here hx rfl (hb hby d3_25) rfl ?_
            exact kt)
        obtain ⟨cl751, Ar751, q751, S751, M751, H751, G751⟩ := id LI_Vs
        have hin751 : ¬ ((2 : Int32) < 0 ∨ cl751.slots.size ≤ ((2 : Int32)).toNatClampNeg) := inb_of S751 ⟨by decide, by decide⟩
        have hat751 : cl751.slots[((2 : Int32)).toNatClampNeg]? = some (.long s2) := H751.at hin751 rfl
        have go752 : own_S p e below ST T748 (mkF m 27 #[rv o1, .val (.long hgh), .second, iv (2 : Int32)] [(.long s2)]) := fun tt kt => go750 tt (by
            refine X748.laload hx (j := (2 : Int32)) (v := (.long s2)) (by rw [e748]; exact Ar751.1) (State.isArrayOf_alike hZ.alike Ar751.2.1) Ar751.2.2 hin751 hat751 (g := (mkF m 26 #[rv o1, .val (.long hgh), .second, iv (2 : Int32)] [(.int (2 : Int32)), (.ref bs)])) rfl rfl (hb hby d3_26) _ ?_
            exact kt)
        obtain ⟨fs, hr, hrun, hended, hW, hsame⟩ := X748.leave (v := some (.long s2)) (fun h => by rw [Bd.returns] at h; cases h) (hlocks := by first | exact BodyLoose.notSynchronized Bd | exact Body.notSynchronized Bd)
        refine ⟨_, _, pre0 _ (go752 _ ?_), hrun, hended, _, _, rfl, ?_, ⟨_, rfl⟩, hW, hsame.mono (by decide) (by decide)⟩
        · exact retOut X748 hx Bd.returns rfl (Or.inr (Or.inl ⟨rfl, rfl, _, rfl⟩)) (hb hby d3_27) hr
        · show Q3c3 Z o1 bs bl br ks kl kr hgh en hi s0 s1 s2 w0 w1 w2 r0 r1 r2 h0 n0 _ T748.heap _
          rw [e748]
          exact ⟨(by rw [if_neg ha0, if_neg ha1, if_pos ha2]), N0, rfl⟩
      · have go753 : own_S p e below ST T740 (mkF m 28 #[rv o1, .val (.long hgh), .second, iv (2 : Int32)] []) := fun tt kt => go745 tt (by
            refine XS.ifYes X740.here hx rfl (pc0 := 18) (pc' := 28) rfl (hb hby d3_18) rfl ((if0 _ _).trans (flt ha2).2.2.2) (by decide) (by decide) ?_
            exact kt)
        have go754 : own_S p e below ST T740 (mkF m 4 #[rv o1, .val (.long hgh), .second, iv (3 : Int32)] [(.ref o1), (.int (3 : Int32))]) := fun tt kt => go753 tt (by
            refine XS.iinc X740.here hx rfl (hb hby d3_28) rfl (l' := #[rv o1, .val (.long hgh), .second, iv (3 : Int32)]) rfl ?_
            refine XS.goto X740.here hx rfl (pc0 := 31) (pc' := 2) rfl (hb hby d3_31) (by decide) (by decide) ?_
            refine XS.iloadN X740.here hx rfl (hb hby d3_2) rfl ?_
            refine XS.aloadN X740.here hx rfl (hb hby d3_3) rfl rfl ?_
            exact kt)
        obtain ⟨T755, X755, e755, st755⟩ := getF X740 hx hZ hown (host := "") (Or.inl (W 24 rfl)) Via.refl e740 LI_count (g := (mkF m 4 #[rv o1, .val (.long hgh), .second, iv (3 : Int32)] [(.ref o1), (.int (3 : Int32))])) rfl rfl (hb hby d3_4)
        have go756 : own_S p e below ST T755 (mkF m 7 #[rv o1, .val (.long hgh), .second, iv (3 : Int32)] [(.int (3 : Int32)), (.int (3 : Int32))]) := fun tt kt => go754 tt (st755 _ kt)
        have go757 : own_S p e below ST T755 (mkF m 35 #[rv o1, .val (.long hgh), .second, iv (3 : Int32)] [(.ref o1)]) := fun tt kt => go756 tt (by
            refine XS.icmpYes X755.here hx rfl (pc0 := 7) (pc' := 34) rfl (hb hby d3_7) rfl (flt (by decide : ¬ ((3 : Int32) < (3 : Int32)))).2.1 (by decide) (by decide) ?_
            refine XS.aloadN X755.here hx rfl (hb hby d3_34) rfl rfl ?_
            exact kt)
        obtain ⟨T758, X758, e758, st758⟩ := getF X755 hx hZ hown (host := "") (Or.inl (W 17 rfl)) Via.refl e755 LI_end (g := (mkF m 35 #[rv o1, .val (.long hgh), .second, iv (3 : Int32)] [(.ref o1)])) rfl rfl (hb hby d3_35)
        have go759 : own_S p e below ST T758 (mkF m 38 #[rv o1, .val (.long hgh), .second, iv (3 : Int32)] [(.long en)]) := fun tt kt => go757 tt (st758 _ kt)
        obtain ⟨fs, hr, hrun, hended, hW, hsame⟩ := X758.leave (v := some (.long en)) (fun h => by rw [Bd.returns] at h; cases h) (hlocks := by first | exact BodyLoose.notSynchronized Bd | exact Body.notSynchronized Bd)
        refine ⟨_, _, pre0 _ (go759 _ ?_), hrun, hended, _, _, rfl, ?_, ⟨_, rfl⟩, hW, hsame.mono (by decide) (by decide)⟩
        · exact retOut X758 hx Bd.returns rfl (Or.inr (Or.inl ⟨rfl, rfl, _, rfl⟩)) (hb hby d3_38) hr
        · show Q3c3 Z o1 bs bl br ks kl kr hgh en hi s0 s1 s2 w0 w1 w2 r0 r1 r2 h0 n0 _ T758.heap _
          rw [e758]
          exact ⟨(by rw [if_neg ha0, if_neg ha1, if_neg ha2]), N0, rfl⟩
theorem pn166 : plainName "com/example/altocommit/altocommit/store/LogIndexAllAtOrBelowUpToPinLaw" = true := by first | (simp [plainName, overriddenIn]; done) | decide +kernel
theorem pd167 : parseMethodDescriptor "(J)V" = some ⟨[.long], none⟩ := by decide +kernel
theorem pd168 : parseMethodDescriptor "(J)J" = some ⟨[.long], some .long⟩ := by decide +kernel
theorem ef0n0 (m : MethodId) (x0 : Int64) (x1 : Int64) (x2 : Int64) (x3 : Int64) (x4 : Int64) (x5 : Int32) : entryFrame m #[(.long x0), (.long x1), (.long x2), (.long x3), (.long x4), (.int x5)] maxLocals = mkF m 0 #[.val (.long x0), .second, .val (.long x1), .second, .val (.long x2), .second, .val (.long x3), .second, .val (.long x4), .second, .val (.int x5), .unset, .unset, .unset, .unset, .unset, .unset, .unset, .unset, .unset, .unset, .unset, .unset, .unset, .unset, .unset, .unset, .unset, .unset, .unset, .unset, .unset, .unset, .unset, .unset, .unset, .unset, .unset, .unset] [] := by first | (simp [entryFrame, mkF, argsToLocals, Value.category, maxLocals]; done) | rfl
def Q0n0 (Z : State) (st : Int64) (c0 : Int64) (c1 : Int64) (c2 : Int64) (hgh : Int64) (fl : Int32) (h0 : Heap) (n0 : Nat) (v : Option Value) (h : Heap) (L : List Loc) : Prop := v = some (.int 1) ∧ Fr n0 L
set_option maxRecDepth 65536 in
set_option maxHeartbeats 40000000 in
theorem rm0n0 (l : Launch) (Z : State) (a0 : Array Value) (hw : ∀ d ∈ tables_1, d.before a0 Z = true) (ws : List Jvm.Cond) (st : Int64) (c0 : Int64) (c1 : Int64) (c2 : Int64) (hgh : Int64) (fl : Int32) (h0 : Heap) (n0 : Nat) (Z0 : n0 ≤ h0.size) (hk : ((fl.toUInt32 >>> ((3 : Int32) &&& 31).toUInt32).toInt32) &&& 3 = 0) :
    MetFree l x (head1 (Jvm.Cond.code x code maxLocals ret :: ws) room_1) (fun aa UU => aa = #[(.long st), (.long c0), (.long c1), (.long c2), (.long hgh), (.int fl)] ∧ Z.Warmed39 UU.vm ∧ UU.heap = h0) (fun _ _ _ _ _ => True) (fun _ UU oo UU' => ∃ vv LL, oo = .returned vv ∧ Q0n0 Z st c0 c1 c2 hgh fl h0 n0 vv UU'.heap LL ∧ FrameEnd UU oo UU' LL room_1.cells room_1.slots) := by
  have W : ∀ {d : Jvm.Cond} (i : Nat), tables_1[i]? = some d → d.before a0 Z = true := fun i h => hw _ (List.mem_of_getElem? h)
  refine MetFree.of_bodySF (plainFor_of_name pn166) hisR ?_
  intro p e s m args below meth c s₁ Bd hml0 hP hK
  obtain ⟨rfl, hZ, hh⟩ := hP
  have hx := Bd.exec
  have hby := Bd.bytes
  have hml : c.maxLocals = 39 := hml0
  have hown : s.vm.findClass "com/example/altocommit/altocommit/store/LogIndexAllAtOrBelowUpToPinLaw" = some m.cls := findClass_of_methodNamed Bd.named
  have hnm := (name_of_methodNamed Bd.named Bd.method).1
  have X0 : Stand p l e room_1 s m #[(.long st), (.long c0), (.long c1), (.long c2), (.long hgh), (.int fl)] below meth c s₁ [] 0 0 := Stand.of_body Bd
  have e0 : s₁.heap = h0 := by rw [← hh, Bd.state]; rfl
  have N0 := Fr.nil n0
  have pre0 : ∀ tt, Steps p.tables e below (s₁.setTop (mkF m 0 #[.val (.long st), .second, .val (.long c0), .second, .val (.long c1), .second, .val (.long c2), .second, .val (.long hgh), .second, iv fl, .unset, .unset, .unset, .unset, .unset, .unset, .unset, .unset, .unset, .unset, .unset, .unset, .unset, .unset, .unset, .unset, .unset, .unset, .unset, .unset, .unset, .unset, .unset, .unset, .unset, .unset, .unset, .unset] [])) tt → Steps p.tables e below (s₁.setTop (entryFrame m #[(.long st), (.long c0), (.long c1), (.long c2), (.long hgh), (.int fl)] maxLocals)) tt := fun tt kt => castTop (ef0n0 m st c0 c1 c2 hgh fl) kt
  obtain ⟨ST, hST⟩ : ∃ z : State, z = s₁.setTop (mkF m 0 #[.val (.long st), .second, .val (.long c0), .second, .val (.long c1), .second, .val (.long c2), .second, .val (.long hgh), .second, iv fl, .unset, .unset, .unset, .unset, .unset, .unset, .unset, .unset, .unset, .unset, .unset, .unset, .unset, .unset, .unset, .unset, .unset, .unset, .unset, .unset, .unset, .unset, .unset, .unset, .unset, .unset, .unset, .unset] []) := ⟨_, rfl⟩
  rw [← hST] at pre0
  have go760 : own_S p e below ST s₁ (mkF m 9 #[.val (.long st), .second, .val (.long c0), .second, .val (.long c1), .second, .val (.long c2), .second, .val (.long hgh), .second, iv fl, .val (.long (65536 : Int64)), .second, .unset, .unset, .unset, .unset, .unset, .unset, .unset, .unset, .unset, .unset, .unset, .unset, .unset, .unset, .unset, .unset, .unset, .unset, .unset, .unset, .unset, .unset, .unset, .unset, .unset, .unset] [(.int (fl &&& (1 : Int32)))]) := fun tt kt => (by
      rw [hST]
      show Steps p.tables e below (s₁.setTop (mkF m 0 #[.val (.long st), .second, .val (.long c0), .second, .val (.long c1), .second, .val (.long c2), .second, .val (.long hgh), .second, iv fl, .unset, .unset, .unset, .unset, .unset, .unset, .unset, .unset, .unset, .unset, .unset, .unset, .unset, .unset, .unset, .unset, .unset, .unset, .unset, .unset, .unset, .unset, .unset, .unset, .unset, .unset, .unset, .unset] [])) _
      refine X0.ldc2Long hx hown (mvT hZ (W 0 rfl)) (g := (mkF m 0 #[.val (.long st), .second, .val (.long c0), .second, .val (.long c1), .second, .val (.long c2), .second, .val (.long hgh), .second, iv fl, .unset, .unset, .unset, .unset, .unset, .unset, .unset, .unset, .unset, .unset, .unset, .unset, .unset, .unset, .unset, .unset, .unset, .unset, .unset, .unset, .unset, .unset, .unset, .unset, .unset, .unset, .unset, .unset] [])) rfl (hb hby at_0) _ ?_
      refine XS.lstore X0.here hx rfl (hb hby at_3) rfl (l' := #[.val (.long st), .second, .val (.long c0), .second, .val (.long c1), .second, .val (.long c2), .second, .val (.long hgh), .second, iv fl, .val (.long (65536 : Int64)), .second, .unset, .unset, .unset, .unset, .unset, .unset, .unset, .unset, .unset, .unset, .unset, .unset, .unset, .unset, .unset, .unset, .unset, .unset, .unset, .unset, .unset, .unset, .unset, .unset, .unset, .unset]) rfl ?_
      refine XS.iload X0.here hx rfl (hb hby at_5) rfl ?_
      refine XS.iconst X0.here hx rfl (hb hby at_7) ?_
      refine XS.iand X0.here hx rfl (hb hby at_8) rfl ?_
      exact kt)
  obtain ⟨l0, hl0, sg761⟩ : ∃ (l0 : Int64), l0 = (if (fl &&& (1 : Int32)) = (0 : Int32) then (1 : Int64) else (65536 : Int64)) ∧ ∀ tt, Steps p.tables e below (s₁.setTop (mkF m 18 #[.val (.long st), .second, .val (.long c0), .second, .val (.long c1), .second, .val (.long c2), .second, .val (.long hgh), .second, iv fl, .val (.long (65536 : Int64)), .second, .unset, .unset, .unset, .unset, .unset, .unset, .unset, .unset, .unset, .unset, .unset, .unset, .unset, .unset, .unset, .unset, .unset, .unset, .unset, .unset, .unset, .unset, .unset, .unset, .unset, .unset] [(.long l0)])) tt → Steps p.tables e below (s₁.setTop (mkF m 9 #[.val (.long st), .second, .val (.long c0), .second, .val (.long c1), .second, .val (.long c2), .second, .val (.long hgh), .second, iv fl, .val (.long (65536 : Int64)), .second, .unset, .unset, .unset, .unset, .unset, .unset, .unset, .unset, .unset, .unset, .unset, .unset, .unset, .unset, .unset, .unset, .unset, .unset, .unset, .unset, .unset, .unset, .unset, .unset, .unset, .unset] [(.int (fl &&& (1 : Int32)))])) tt := by
    by_cases hd9_0 : (fl &&& (1 : Int32)) = (0 : Int32)
    · refine ⟨_, (if_pos hd9_0).symm, fun tt kt => ?_⟩
      show Steps p.tables e below (s₁.setTop (mkF m 9 #[.val (.long st), .second, .val (.long c0), .second, .val (.long c1), .second, .val (.long c2), .second, .val (.long hgh), .second, iv fl, .val (.long (65536 : Int64)), .second, .unset, .unset, .unset, .unset, .unset, .unset, .unset, .unset, .unset, .unset, .unset, .unset, .unset, .unset, .unset, .unset, .unset, .unset, .unset, .unset, .unset, .unset, .unset, .unset, .unset, .unset] [(.int (fl &&& (1 : Int32)))])) _
      refine XS.ifYes X0.here hx rfl (pc0 := 9) (pc' := 17) rfl (hb hby at_9) rfl ((if0 _ _).trans (teq hd9_0).1) (by decide) (by decide) ?_
      refine XS.lconst X0.here hx rfl (hb hby at_17) ?_
      exact kt
    · refine ⟨_, (if_neg hd9_0).symm, fun tt kt => ?_⟩
      show Steps p.tables e below (s₁.setTop (mkF m 9 #[.val (.long st), .second, .val (.long c0), .second, .val (.long c1), .second, .val (.long c2), .second, .val (.long hgh), .second, iv fl, .val (.long (65536 : Int64)), .second, .unset, .unset, .unset, .unset, .unset, .unset, .unset, .unset, .unset, .unset, .unset, .unset, .unset, .unset, .unset, .unset, .unset, .unset, .unset, .unset, .unset, .unset, .unset, .unset, .unset, .unset] [(.int (fl &&& (1 : Int32)))])) _
      refine XS.ifNo X0.here hx rfl (hb hby at_9) rfl ((if0 _ _).trans (feq hd9_0).1) ?_
      refine XS.lload X0.here hx rfl (hb hby at_12) rfl ?_
      refine XS.goto X0.here hx rfl (pc0 := 14) (pc' := 18) rfl (hb hby at_14) (by decide) (by decide) ?_
      exact kt
  have go762 : own_S p e below ST s₁ (mkF m 18 #[.val (.long st), .second, .val (.long c0), .second, .val (.long c1), .second, .val (.long c2), .second, .val (.long hgh), .second, iv fl, .val (.long (65536 : Int64)), .second, .unset, .unset, .unset, .unset, .unset, .unset, .unset, .unset, .unset, .unset, .unset, .unset, .unset, .unset, .unset, .unset, .unset, .unset, .unset, .unset, .unset, .unset, .unset, .unset, .unset, .unset] [(.long l0)]) := fun tt kt => go760 tt (sg761 _ kt)
  have go763 : own_S p e below ST s₁ (mkF m 24 #[.val (.long st), .second, .val (.long c0), .second, .val (.long c1), .second, .val (.long c2), .second, .val (.long hgh), .second, iv fl, .val (.long (65536 : Int64)), .second, .val (.long l0), .second, .unset, .unset, .unset, .unset, .unset, .unset, .unset, .unset, .unset, .unset, .unset, .unset, .unset, .unset, .unset, .unset, .unset, .unset, .unset, .unset, .unset, .unset, .unset, .unset] [(.int (fl &&& (2 : Int32)))]) := fun tt kt => go762 tt (by
      refine XS.lstore X0.here hx rfl (hb hby at_18) rfl (l' := #[.val (.long st), .second, .val (.long c0), .second, .val (.long c1), .second, .val (.long c2), .second, .val (.long hgh), .second, iv fl, .val (.long (65536 : Int64)), .second, .val (.long l0), .second, .unset, .unset, .unset, .unset, .unset, .unset, .unset, .unset, .unset, .unset, .unset, .unset, .unset, .unset, .unset, .unset, .unset, .unset, .unset, .unset, .unset, .unset, .unset, .unset]) rfl ?_
      refine XS.iload X0.here hx rfl (hb hby at_20) rfl ?_
      refine XS.iconst X0.here hx rfl (hb hby at_22) ?_
      refine XS.iand X0.here hx rfl (hb hby at_23) rfl ?_
      exact kt)
  obtain ⟨l1, hl1, sg764⟩ : ∃ (l1 : Int64), l1 = (if (fl &&& (2 : Int32)) = (0 : Int32) then (1 : Int64) else (65536 : Int64)) ∧ ∀ tt, Steps p.tables e below (s₁.setTop (mkF m 33 #[.val (.long st), .second, .val (.long c0), .second, .val (.long c1), .second, .val (.long c2), .second, .val (.long hgh), .second, iv fl, .val (.long (65536 : Int64)), .second, .val (.long l0), .second, .unset, .unset, .unset, .unset, .unset, .unset, .unset, .unset, .unset, .unset, .unset, .unset, .unset, .unset, .unset, .unset, .unset, .unset, .unset, .unset, .unset, .unset, .unset, .unset] [(.long l1)])) tt → Steps p.tables e below (s₁.setTop (mkF m 24 #[.val (.long st), .second, .val (.long c0), .second, .val (.long c1), .second, .val (.long c2), .second, .val (.long hgh), .second, iv fl, .val (.long (65536 : Int64)), .second, .val (.long l0), .second, .unset, .unset, .unset, .unset, .unset, .unset, .unset, .unset, .unset, .unset, .unset, .unset, .unset, .unset, .unset, .unset, .unset, .unset, .unset, .unset, .unset, .unset, .unset, .unset] [(.int (fl &&& (2 : Int32)))])) tt := by
    by_cases hd24_0 : (fl &&& (2 : Int32)) = (0 : Int32)
    · refine ⟨_, (if_pos hd24_0).symm, fun tt kt => ?_⟩
      show Steps p.tables e below (s₁.setTop (mkF m 24 #[.val (.long st), .second, .val (.long c0), .second, .val (.long c1), .second, .val (.long c2), .second, .val (.long hgh), .second, iv fl, .val (.long (65536 : Int64)), .second, .val (.long l0), .second, .unset, .unset, .unset, .unset, .unset, .unset, .unset, .unset, .unset, .unset, .unset, .unset, .unset, .unset, .unset, .unset, .unset, .unset, .unset, .unset, .unset, .unset, .unset, .unset] [(.int (fl &&& (2 : Int32)))])) _
      refine XS.ifYes X0.here hx rfl (pc0 := 24) (pc' := 32) rfl (hb hby at_24) rfl ((if0 _ _).trans (teq hd24_0).1) (by decide) (by decide) ?_
      refine XS.lconst X0.here hx rfl (hb hby at_32) ?_
      exact kt
    · refine ⟨_, (if_neg hd24_0).symm, fun tt kt => ?_⟩
      show Steps p.tables e below (s₁.setTop (mkF m 24 #[.val (.long st), .second, .val (.long c0), .second, .val (.long c1), .second, .val (.long c2), .second, .val (.long hgh), .second, iv fl, .val (.long (65536 : Int64)), .second, .val (.long l0), .second, .unset, .unset, .unset, .unset, .unset, .unset, .unset, .unset, .unset, .unset, .unset, .unset, .unset, .unset, .unset, .unset, .unset, .unset, .unset, .unset, .unset, .unset, .unset, .unset] [(.int (fl &&& (2 : Int32)))])) _
      refine XS.ifNo X0.here hx rfl (hb hby at_24) rfl ((if0 _ _).trans (feq hd24_0).1) ?_
      refine XS.lload X0.here hx rfl (hb hby at_27) rfl ?_
      refine XS.goto X0.here hx rfl (pc0 := 29) (pc' := 33) rfl (hb hby at_29) (by decide) (by decide) ?_
      exact kt
  have go765 : own_S p e below ST s₁ (mkF m 33 #[.val (.long st), .second, .val (.long c0), .second, .val (.long c1), .second, .val (.long c2), .second, .val (.long hgh), .second, iv fl, .val (.long (65536 : Int64)), .second, .val (.long l0), .second, .unset, .unset, .unset, .unset, .unset, .unset, .unset, .unset, .unset, .unset, .unset, .unset, .unset, .unset, .unset, .unset, .unset, .unset, .unset, .unset, .unset, .unset, .unset, .unset] [(.long l1)]) := fun tt kt => go763 tt (sg764 _ kt)
  have go766 : own_S p e below ST s₁ (mkF m 39 #[.val (.long st), .second, .val (.long c0), .second, .val (.long c1), .second, .val (.long c2), .second, .val (.long hgh), .second, iv fl, .val (.long (65536 : Int64)), .second, .val (.long l0), .second, .val (.long l1), .second, .unset, .unset, .unset, .unset, .unset, .unset, .unset, .unset, .unset, .unset, .unset, .unset, .unset, .unset, .unset, .unset, .unset, .unset, .unset, .unset, .unset, .unset] [(.int (fl &&& (4 : Int32)))]) := fun tt kt => go765 tt (by
      refine XS.lstore X0.here hx rfl (hb hby at_33) rfl (l' := #[.val (.long st), .second, .val (.long c0), .second, .val (.long c1), .second, .val (.long c2), .second, .val (.long hgh), .second, iv fl, .val (.long (65536 : Int64)), .second, .val (.long l0), .second, .val (.long l1), .second, .unset, .unset, .unset, .unset, .unset, .unset, .unset, .unset, .unset, .unset, .unset, .unset, .unset, .unset, .unset, .unset, .unset, .unset, .unset, .unset, .unset, .unset]) rfl ?_
      refine XS.iload X0.here hx rfl (hb hby at_35) rfl ?_
      refine XS.iconst X0.here hx rfl (hb hby at_37) ?_
      refine XS.iand X0.here hx rfl (hb hby at_38) rfl ?_
      exact kt)
  obtain ⟨l2, hl2, sg767⟩ : ∃ (l2 : Int64), l2 = (if (fl &&& (4 : Int32)) = (0 : Int32) then (1 : Int64) else (65536 : Int64)) ∧ ∀ tt, Steps p.tables e below (s₁.setTop (mkF m 48 #[.val (.long st), .second, .val (.long c0), .second, .val (.long c1), .second, .val (.long c2), .second, .val (.long hgh), .second, iv fl, .val (.long (65536 : Int64)), .second, .val (.long l0), .second, .val (.long l1), .second, .unset, .unset, .unset, .unset, .unset, .unset, .unset, .unset, .unset, .unset, .unset, .unset, .unset, .unset, .unset, .unset, .unset, .unset, .unset, .unset, .unset, .unset] [(.long l2)])) tt → Steps p.tables e below (s₁.setTop (mkF m 39 #[.val (.long st), .second, .val (.long c0), .second, .val (.long c1), .second, .val (.long c2), .second, .val (.long hgh), .second, iv fl, .val (.long (65536 : Int64)), .second, .val (.long l0), .second, .val (.long l1), .second, .unset, .unset, .unset, .unset, .unset, .unset, .unset, .unset, .unset, .unset, .unset, .unset, .unset, .unset, .unset, .unset, .unset, .unset, .unset, .unset, .unset, .unset] [(.int (fl &&& (4 : Int32)))])) tt := by
    by_cases hd39_0 : (fl &&& (4 : Int32)) = (0 : Int32)
    · refine ⟨_, (if_pos hd39_0).symm, fun tt kt => ?_⟩
      show Steps p.tables e below (s₁.setTop (mkF m 39 #[.val (.long st), .second, .val (.long c0), .second, .val (.long c1), .second, .val (.long c2), .second, .val (.long hgh), .second, iv fl, .val (.long (65536 : Int64)), .second, .val (.long l0), .second, .val (.long l1), .second, .unset, .unset, .unset, .unset, .unset, .unset, .unset, .unset, .unset, .unset, .unset, .unset, .unset, .unset, .unset, .unset, .unset, .unset, .unset, .unset, .unset, .unset] [(.int (fl &&& (4 : Int32)))])) _
      refine XS.ifYes X0.here hx rfl (pc0 := 39) (pc' := 47) rfl (hb hby at_39) rfl ((if0 _ _).trans (teq hd39_0).1) (by decide) (by decide) ?_
      refine XS.lconst X0.here hx rfl (hb hby at_47) ?_
      exact kt
    · refine ⟨_, (if_neg hd39_0).symm, fun tt kt => ?_⟩
      show Steps p.tables e below (s₁.setTop (mkF m 39 #[.val (.long st), .second, .val (.long c0), .second, .val (.long c1), .second, .val (.long c2), .second, .val (.long hgh), .second, iv fl, .val (.long (65536 : Int64)), .second, .val (.long l0), .second, .val (.long l1), .second, .unset, .unset, .unset, .unset, .unset, .unset, .unset, .unset, .unset, .unset, .unset, .unset, .unset, .unset, .unset, .unset, .unset, .unset, .unset, .unset, .unset, .unset] [(.int (fl &&& (4 : Int32)))])) _
      refine XS.ifNo X0.here hx rfl (hb hby at_39) rfl ((if0 _ _).trans (feq hd39_0).1) ?_
      refine XS.lload X0.here hx rfl (hb hby at_42) rfl ?_
      refine XS.goto X0.here hx rfl (pc0 := 44) (pc' := 48) rfl (hb hby at_44) (by decide) (by decide) ?_
      exact kt
  have go768 : own_S p e below ST s₁ (mkF m 48 #[.val (.long st), .second, .val (.long c0), .second, .val (.long c1), .second, .val (.long c2), .second, .val (.long hgh), .second, iv fl, .val (.long (65536 : Int64)), .second, .val (.long l0), .second, .val (.long l1), .second, .unset, .unset, .unset, .unset, .unset, .unset, .unset, .unset, .unset, .unset, .unset, .unset, .unset, .unset, .unset, .unset, .unset, .unset, .unset, .unset, .unset, .unset] [(.long l2)]) := fun tt kt => go766 tt (sg767 _ kt)
  have go769 : own_S p e below ST s₁ (mkF m 58 #[.val (.long st), .second, .val (.long c0), .second, .val (.long c1), .second, .val (.long c2), .second, .val (.long hgh), .second, iv fl, .val (.long (65536 : Int64)), .second, .val (.long l0), .second, .val (.long l1), .second, .val (.long l2), .second, iv (((fl.toUInt32 >>> ((3 : Int32) &&& 31).toUInt32).toInt32) &&& (3 : Int32)), .unset, .unset, .unset, .unset, .unset, .unset, .unset, .unset, .unset, .unset, .unset, .unset, .unset, .unset, .unset, .unset, .unset, .unset, .unset] []) := fun tt kt => go768 tt (by
      refine XS.lstore X0.here hx rfl (hb hby at_48) rfl (l' := #[.val (.long st), .second, .val (.long c0), .second, .val (.long c1), .second, .val (.long c2), .second, .val (.long hgh), .second, iv fl, .val (.long (65536 : Int64)), .second, .val (.long l0), .second, .val (.long l1), .second, .val (.long l2), .second, .unset, .unset, .unset, .unset, .unset, .unset, .unset, .unset, .unset, .unset, .unset, .unset, .unset, .unset, .unset, .unset, .unset, .unset, .unset, .unset]) rfl ?_
      refine XS.iload X0.here hx rfl (hb hby at_50) rfl ?_
      refine XS.iconst X0.here hx rfl (hb hby at_52) ?_
      refine XS.iushr X0.here hx rfl (hb hby at_53) rfl ?_
      refine XS.iconst X0.here hx rfl (hb hby at_54) ?_
      refine XS.iand X0.here hx rfl (hb hby at_55) rfl ?_
      show Steps p.tables e below (s₁.setTop (mkF m 56 #[.val (.long st), .second, .val (.long c0), .second, .val (.long c1), .second, .val (.long c2), .second, .val (.long hgh), .second, iv fl, .val (.long (65536 : Int64)), .second, .val (.long l0), .second, .val (.long l1), .second, .val (.long l2), .second, .unset, .unset, .unset, .unset, .unset, .unset, .unset, .unset, .unset, .unset, .unset, .unset, .unset, .unset, .unset, .unset, .unset, .unset, .unset, .unset] [(.int (((fl.toUInt32 >>> ((3 : Int32) &&& 31).toUInt32).toInt32) &&& (3 : Int32)))])) _
      refine XS.istore X0.here hx rfl (hb hby at_56) rfl (l' := #[.val (.long st), .second, .val (.long c0), .second, .val (.long c1), .second, .val (.long c2), .second, .val (.long hgh), .second, iv fl, .val (.long (65536 : Int64)), .second, .val (.long l0), .second, .val (.long l1), .second, .val (.long l2), .second, iv (((fl.toUInt32 >>> ((3 : Int32) &&& 31).toUInt32).toInt32) &&& (3 : Int32)), .unset, .unset, .unset, .unset, .unset, .unset, .unset, .unset, .unset, .unset, .unset, .unset, .unset, .unset, .unset, .unset, .unset, .unset, .unset]) rfl ?_
      exact kt)
  rw [hk] at go769
  obtain ⟨b770, g770⟩ : ∃ z, z = h0.size := ⟨_, rfl⟩
  obtain ⟨T770, h770, X770, e770, E770, A770, D770, -, st770⟩ := newO X0 hx hZ hown (W 1 rfl) (W 2 rfl) (W 3 rfl) e0 (g := (mkF m 58 #[.val (.long st), .second, .val (.long c0), .second, .val (.long c1), .second, .val (.long c2), .second, .val (.long hgh), .second, iv fl, .val (.long (65536 : Int64)), .second, .val (.long l0), .second, .val (.long l1), .second, .val (.long l2), .second, iv (0 : Int32), .unset, .unset, .unset, .unset, .unset, .unset, .unset, .unset, .unset, .unset, .unset, .unset, .unset, .unset, .unset, .unset, .unset, .unset, .unset] [])) rfl (hb hby at_58) (by decide) (by decide)
  rw [← g770] at A770 D770 st770
  have ge_b770 : n0 ≤ b770 := Nat.le_trans Z0 (Nat.le_of_eq g770.symm)
  have F770_starts : Fld Z h770 b770 "com/example/altocommit/altocommit/store/LogIndex" "starts" "[J" .null := D770 (Or.inl (W 12 rfl)) (ty := (.array .long)) (by decide)
  have F770_lows : Fld Z h770 b770 "com/example/altocommit/altocommit/store/LogIndex" "lows" "[J" .null := D770 (Or.inl (W 14 rfl)) (ty := (.array .long)) (by decide)
  have F770_reaches : Fld Z h770 b770 "com/example/altocommit/altocommit/store/LogIndex" "reaches" "[J" .null := D770 (Or.inl (W 16 rfl)) (ty := (.array .long)) (by decide)
  have F770_end : Fld Z h770 b770 "com/example/altocommit/altocommit/store/LogIndex" "end" "J" (.long (0 : Int64)) := D770 (Or.inl (W 18 rfl)) (ty := .long) (by decide)
  have F770_count : Fld Z h770 b770 "com/example/altocommit/altocommit/store/LogIndex" "count" "I" (.int (0 : Int32)) := D770 (Or.inl (W 25 rfl)) (ty := .int) (by decide)
  have F770_highest : Fld Z h770 b770 "com/example/altocommit/altocommit/store/LogIndex" "highest" "J" (.long (0 : Int64)) := D770 (Or.inl (W 32 rfl)) (ty := .long) (by decide)
  have go771 : own_S p e below ST T770 (mkF m 61 #[.val (.long st), .second, .val (.long c0), .second, .val (.long c1), .second, .val (.long c2), .second, .val (.long hgh), .second, iv fl, .val (.long (65536 : Int64)), .second, .val (.long l0), .second, .val (.long l1), .second, .val (.long l2), .second, iv (0 : Int32), .unset, .unset, .unset, .unset, .unset, .unset, .unset, .unset, .unset, .unset, .unset, .unset, .unset, .unset, .unset, .unset, .unset, .unset, .unset] [(.ref b770)]) := fun tt kt => go769 tt (st770 _ kt)
  have go772 : own_S p e below ST T770 (mkF m 63 #[.val (.long st), .second, .val (.long c0), .second, .val (.long c1), .second, .val (.long c2), .second, .val (.long hgh), .second, iv fl, .val (.long (65536 : Int64)), .second, .val (.long l0), .second, .val (.long l1), .second, .val (.long l2), .second, iv (0 : Int32), .unset, .unset, .unset, .unset, .unset, .unset, .unset, .unset, .unset, .unset, .unset, .unset, .unset, .unset, .unset, .unset, .unset, .unset, .unset] [(.long st), (.ref b770), (.ref b770)]) := fun tt kt => go771 tt (by
      refine XS.dup X770.here hx rfl (hb hby at_61) rfl rfl ?_
      refine XS.lloadN X770.here hx rfl (hb hby at_62) rfl ?_
      exact kt)
  have zs774 := (Nat.le_trans Z0 E770.1)
  obtain ⟨_, _, ⟨T773, L773, k773, n773⟩, -, X773, ⟨Lc773, hQ773, l773, y773, z773⟩, st773⟩ := X770.specialBack hx (y := (⟨"com/example/altocommit/altocommit/store/LogIndex", "<init>", "(J)V"⟩ : MethodName)) rfl hown (mvT hZ (W 4 rfl)) (mvT hZ (W 5 rfl)) (mvT hZ (W 6 rfl)) (by decide) (backOf (W := 1) (rm1 l Z a0 hw [] b770 st h770 n0 zs774 F770_starts F770_lows F770_reaches F770_end F770_count F770_highest A770 ge_b770) hZ (W 6 rfl) (W 3 rfl) (by decide) (by decide)) (g := (mkF m 63 #[.val (.long st), .second, .val (.long c0), .second, .val (.long c1), .second, .val (.long c2), .second, .val (.long hgh), .second, iv fl, .val (.long (65536 : Int64)), .second, .val (.long l0), .second, .val (.long l1), .second, .val (.long l2), .second, iv (0 : Int32), .unset, .unset, .unset, .unset, .unset, .unset, .unset, .unset, .unset, .unset, .unset, .unset, .unset, .unset, .unset, .unset, .unset, .unset, .unset] [(.long st), (.ref b770), (.ref b770)])) rfl (by rw [hml]; rfl) (Steps.refl _) (a := b770) (argsL := [(.long st)]) (rest := [(.ref b770)]) (lenOf pd167 rfl) rfl (by show 2 * 0 + _ ≤ _; exact Nat.le_of_eq rfl) (hb hby at_63) (fun _ _ => ⟨rfl, e770, (by decide : 1 + 3 ≤ _), (by decide : 6 + 48 ≤ _)⟩)
  dsimp only [Pt.U, Pt.locs, Pt.cells, Pt.slots] at X773 l773 y773 z773 st773 hQ773
  subst l773 y773 z773
  obtain ⟨bs, bl, br, ks, kl, kr, rfl, Nq773, K773, LIi773⟩ := hQ773
  have N773 := Fr.app N0 Nq773
  have go775 : own_S p e below ST T773 (mkF m 66 #[.val (.long st), .second, .val (.long c0), .second, .val (.long c1), .second, .val (.long c2), .second, .val (.long hgh), .second, iv fl, .val (.long (65536 : Int64)), .second, .val (.long l0), .second, .val (.long l1), .second, .val (.long l2), .second, iv (0 : Int32), .unset, .unset, .unset, .unset, .unset, .unset, .unset, .unset, .unset, .unset, .unset, .unset, .unset, .unset, .unset, .unset, .unset, .unset, .unset] [(.ref b770)]) := fun tt kt => go772 tt (st773.trans kt)
  have go776 : own_S p e below ST T773 (mkF m 116 #[.val (.long st), .second, .val (.long c0), .second, .val (.long c1), .second, .val (.long c2), .second, .val (.long hgh), .second, iv fl, .val (.long (65536 : Int64)), .second, .val (.long l0), .second, .val (.long l1), .second, .val (.long l2), .second, iv (0 : Int32), rv b770, .unset, .unset, .unset, .unset, .unset, .unset, .unset, .unset, .unset, .unset, .unset, .unset, .unset, .unset, .unset, .unset, .unset, .unset] [(.long hgh), (.ref b770)]) := fun tt kt => go775 tt (by
      refine XS.astore X773.here hx rfl (hb hby at_66) rfl rfl (l' := #[.val (.long st), .second, .val (.long c0), .second, .val (.long c1), .second, .val (.long c2), .second, .val (.long hgh), .second, iv fl, .val (.long (65536 : Int64)), .second, .val (.long l0), .second, .val (.long l1), .second, .val (.long l2), .second, iv (0 : Int32), rv b770, .unset, .unset, .unset, .unset, .unset, .unset, .unset, .unset, .unset, .unset, .unset, .unset, .unset, .unset, .unset, .unset, .unset, .unset]) rfl ?_
      refine XS.iload X773.here hx rfl (hb hby at_68) rfl ?_
      refine XS.iconst X773.here hx rfl (hb hby at_70) ?_
      refine XS.icmpYes X773.here hx rfl (pc0 := 71) (pc' := 82) rfl (hb hby at_71) rfl (tlt (by decide : (0 : Int32) < (1 : Int32))).1 (by decide) (by decide) ?_
      refine XS.iload X773.here hx rfl (hb hby at_82) rfl ?_
      refine XS.iconst X773.here hx rfl (hb hby at_84) ?_
      show Steps p.tables e below (T773.setTop (mkF m 85 #[.val (.long st), .second, .val (.long c0), .second, .val (.long c1), .second, .val (.long c2), .second, .val (.long hgh), .second, iv fl, .val (.long (65536 : Int64)), .second, .val (.long l0), .second, .val (.long l1), .second, .val (.long l2), .second, iv (0 : Int32), rv b770, .unset, .unset, .unset, .unset, .unset, .unset, .unset, .unset, .unset, .unset, .unset, .unset, .unset, .unset, .unset, .unset, .unset, .unset] [(.int (2 : Int32)), (.int (0 : Int32))])) _
      refine XS.icmpYes X773.here hx rfl (pc0 := 85) (pc' := 97) rfl (hb hby at_85) rfl (tlt (by decide : (0 : Int32) < (2 : Int32))).1 (by decide) (by decide) ?_
      refine XS.iload X773.here hx rfl (hb hby at_97) rfl ?_
      refine XS.iconst X773.here hx rfl (hb hby at_99) ?_
      refine XS.icmpYes X773.here hx rfl (pc0 := 100) (pc' := 112) rfl (hb hby at_100) rfl (tlt (by decide : (0 : Int32) < (3 : Int32))).1 (by decide) (by decide) ?_
      refine XS.aload X773.here hx rfl (hb hby at_112) rfl rfl ?_
      refine XS.lload X773.here hx rfl (hb hby at_114) rfl ?_
      exact kt)
  have zs778 := (Nat.le_trans zs774 K773.1)
  have f779 := (A770.keep K773)
  obtain ⟨cq777, kq777, q777a, q777b, q777c⟩ := isOf hZ rfl f779
  obtain ⟨_, _, ⟨T777, L777, k777, n777⟩, -, X777, ⟨Lc777, hQ777, l777, y777, z777⟩, st777⟩ := X773.virtualBack hx (y := (⟨"com/example/altocommit/altocommit/store/LogIndex", "allAtOrBelowUpTo", "(J)J"⟩ : MethodName)) (z := (⟨"com/example/altocommit/altocommit/store/LogIndex", "allAtOrBelowUpTo", "(J)J"⟩ : MethodName)) hown (mvT hZ (W 19 rfl)) (mvT hZ (W 20 rfl)) (notFace_of_selects (args := #[]) (mvT hZ (W 22 rfl))) (mvT hZ (W 22 rfl)) (mvT hZ (W 21 rfl)) (by decide) (backOf (W := 0) (rm3c0 l Z a0 hw [] b770 bs bl br ks kl kr hgh st (0 : Int64) (0 : Int64) (0 : Int64) (0 : Int64) T773.heap n0 zs778 LIi773) hZ (W 23 rfl) (W 3 rfl) (by decide) (by decide)) q777a q777c (g := (mkF m 116 #[.val (.long st), .second, .val (.long c0), .second, .val (.long c1), .second, .val (.long c2), .second, .val (.long hgh), .second, iv fl, .val (.long (65536 : Int64)), .second, .val (.long l0), .second, .val (.long l1), .second, .val (.long l2), .second, iv (0 : Int32), rv b770, .unset, .unset, .unset, .unset, .unset, .unset, .unset, .unset, .unset, .unset, .unset, .unset, .unset, .unset, .unset, .unset, .unset, .unset] [(.long hgh), (.ref b770)])) rfl (by rw [hml]; rfl) (Steps.refl _) (argsL := [(.long hgh)]) (rest := []) (lenOf pd168 rfl) rfl (by show 2 * 0 + _ ≤ _; exact Nat.le_of_eq rfl) (hb hby at_116) (fun _ _ => ⟨rfl, rfl, (by decide : 4 + 0 ≤ _), (by decide : 54 + 0 ≤ _)⟩)
  dsimp only [Pt.U, Pt.locs, Pt.cells, Pt.slots] at X777 l777 y777 z777 st777 hQ777
  subst l777 y777 z777
  obtain ⟨rfl, Nq777, eh777⟩ := hQ777
  have N777 := Fr.app N773 Nq777
  have go780 : own_S p e below ST T777 (mkF m 119 #[.val (.long st), .second, .val (.long c0), .second, .val (.long c1), .second, .val (.long c2), .second, .val (.long hgh), .second, iv fl, .val (.long (65536 : Int64)), .second, .val (.long l0), .second, .val (.long l1), .second, .val (.long l2), .second, iv (0 : Int32), rv b770, .unset, .unset, .unset, .unset, .unset, .unset, .unset, .unset, .unset, .unset, .unset, .unset, .unset, .unset, .unset, .unset, .unset, .unset] [(.long st)]) := fun tt kt => go776 tt (st777.trans kt)
  have go781 : own_S p e below ST T777 (mkF m 183 #[.val (.long st), .second, .val (.long c0), .second, .val (.long c1), .second, .val (.long c2), .second, .val (.long hgh), .second, iv fl, .val (.long (65536 : Int64)), .second, .val (.long l0), .second, .val (.long l1), .second, .val (.long l2), .second, iv (0 : Int32), rv b770, .val (.long st), .second, .val (.long st), .second, .val (.long (st + l0)), .second, .val (.long ((st + l0) + l1)), .second, .val (.long st), .second, .val (.long st), .second, .unset, .unset, .unset, .unset, .unset, .unset] [(.int (lcmpW l0 (65536 : Int64)))]) := fun tt kt => go780 tt (by
      refine XS.lstore X777.here hx rfl (hb hby at_119) rfl (l' := #[.val (.long st), .second, .val (.long c0), .second, .val (.long c1), .second, .val (.long c2), .second, .val (.long hgh), .second, iv fl, .val (.long (65536 : Int64)), .second, .val (.long l0), .second, .val (.long l1), .second, .val (.long l2), .second, iv (0 : Int32), rv b770, .val (.long st), .second, .unset, .unset, .unset, .unset, .unset, .unset, .unset, .unset, .unset, .unset, .unset, .unset, .unset, .unset, .unset, .unset]) rfl ?_
      refine XS.lloadN X777.here hx rfl (hb hby at_121) rfl ?_
      refine XS.lstore X777.here hx rfl (hb hby at_122) rfl (l' := #[.val (.long st), .second, .val (.long c0), .second, .val (.long c1), .second, .val (.long c2), .second, .val (.long hgh), .second, iv fl, .val (.long (65536 : Int64)), .second, .val (.long l0), .second, .val (.long l1), .second, .val (.long l2), .second, iv (0 : Int32), rv b770, .val (.long st), .second, .val (.long st), .second, .unset, .unset, .unset, .unset, .unset, .unset, .unset, .unset, .unset, .unset, .unset, .unset, .unset, .unset]) rfl ?_
      refine XS.lload X777.here hx rfl (hb hby at_124) rfl ?_
      refine XS.lload X777.here hx rfl (hb hby at_126) rfl ?_
      refine XS.ladd X777.here hx rfl (hb hby at_128) rfl ?_
      show Steps p.tables e below (T777.setTop (mkF m 129 #[.val (.long st), .second, .val (.long c0), .second, .val (.long c1), .second, .val (.long c2), .second, .val (.long hgh), .second, iv fl, .val (.long (65536 : Int64)), .second, .val (.long l0), .second, .val (.long l1), .second, .val (.long l2), .second, iv (0 : Int32), rv b770, .val (.long st), .second, .val (.long st), .second, .unset, .unset, .unset, .unset, .unset, .unset, .unset, .unset, .unset, .unset, .unset, .unset, .unset, .unset] [(.long (st + l0))])) _
      refine XS.lstore X777.here hx rfl (hb hby at_129) rfl (l' := #[.val (.long st), .second, .val (.long c0), .second, .val (.long c1), .second, .val (.long c2), .second, .val (.long hgh), .second, iv fl, .val (.long (65536 : Int64)), .second, .val (.long l0), .second, .val (.long l1), .second, .val (.long l2), .second, iv (0 : Int32), rv b770, .val (.long st), .second, .val (.long st), .second, .val (.long (st + l0)), .second, .unset, .unset, .unset, .unset, .unset, .unset, .unset, .unset, .unset, .unset, .unset, .unset]) rfl ?_
      refine XS.lload X777.here hx rfl (hb hby at_131) rfl ?_
      refine XS.lload X777.here hx rfl (hb hby at_133) rfl ?_
      refine XS.ladd X777.here hx rfl (hb hby at_135) rfl ?_
      refine XS.lstore X777.here hx rfl (hb hby at_136) rfl (l' := #[.val (.long st), .second, .val (.long c0), .second, .val (.long c1), .second, .val (.long c2), .second, .val (.long hgh), .second, iv fl, .val (.long (65536 : Int64)), .second, .val (.long l0), .second, .val (.long l1), .second, .val (.long l2), .second, iv (0 : Int32), rv b770, .val (.long st), .second, .val (.long st), .second, .val (.long (st + l0)), .second, .val (.long ((st + l0) + l1)), .second, .unset, .unset, .unset, .unset, .unset, .unset, .unset, .unset, .unset, .unset]) rfl ?_
      refine XS.lloadN X777.here hx rfl (hb hby at_138) rfl ?_
      show Steps p.tables e below (T777.setTop (mkF m 139 #[.val (.long st), .second, .val (.long c0), .second, .val (.long c1), .second, .val (.long c2), .second, .val (.long hgh), .second, iv fl, .val (.long (65536 : Int64)), .second, .val (.long l0), .second, .val (.long l1), .second, .val (.long l2), .second, iv (0 : Int32), rv b770, .val (.long st), .second, .val (.long st), .second, .val (.long (st + l0)), .second, .val (.long ((st + l0) + l1)), .second, .unset, .unset, .unset, .unset, .unset, .unset, .unset, .unset, .unset, .unset] [(.long st)])) _
      refine XS.lstore X777.here hx rfl (hb hby at_139) rfl (l' := #[.val (.long st), .second, .val (.long c0), .second, .val (.long c1), .second, .val (.long c2), .second, .val (.long hgh), .second, iv fl, .val (.long (65536 : Int64)), .second, .val (.long l0), .second, .val (.long l1), .second, .val (.long l2), .second, iv (0 : Int32), rv b770, .val (.long st), .second, .val (.long st), .second, .val (.long (st + l0)), .second, .val (.long ((st + l0) + l1)), .second, .val (.long st), .second, .unset, .unset, .unset, .unset, .unset, .unset, .unset, .unset]) rfl ?_
      refine XS.iload X777.here hx rfl (hb hby at_141) rfl ?_
      refine XS.iconst X777.here hx rfl (hb hby at_143) ?_
      refine XS.icmpYes X777.here hx rfl (pc0 := 144) (pc' := 151) rfl (hb hby at_144) rfl (tlt (by decide : (0 : Int32) < (1 : Int32))).1 (by decide) (by decide) ?_
      refine XS.iload X777.here hx rfl (hb hby at_151) rfl ?_
      refine XS.iconst X777.here hx rfl (hb hby at_153) ?_
      show Steps p.tables e below (T777.setTop (mkF m 154 #[.val (.long st), .second, .val (.long c0), .second, .val (.long c1), .second, .val (.long c2), .second, .val (.long hgh), .second, iv fl, .val (.long (65536 : Int64)), .second, .val (.long l0), .second, .val (.long l1), .second, .val (.long l2), .second, iv (0 : Int32), rv b770, .val (.long st), .second, .val (.long st), .second, .val (.long (st + l0)), .second, .val (.long ((st + l0) + l1)), .second, .val (.long st), .second, .unset, .unset, .unset, .unset, .unset, .unset, .unset, .unset] [(.int (2 : Int32)), (.int (0 : Int32))])) _
      refine XS.icmpYes X777.here hx rfl (pc0 := 154) (pc' := 161) rfl (hb hby at_154) rfl (tlt (by decide : (0 : Int32) < (2 : Int32))).1 (by decide) (by decide) ?_
      refine XS.iload X777.here hx rfl (hb hby at_161) rfl ?_
      refine XS.iconst X777.here hx rfl (hb hby at_163) ?_
      refine XS.icmpYes X777.here hx rfl (pc0 := 164) (pc' := 174) rfl (hb hby at_164) rfl (tlt (by decide : (0 : Int32) < (3 : Int32))).1 (by decide) (by decide) ?_
      refine XS.lload X777.here hx rfl (hb hby at_174) rfl ?_
      refine XS.lstore X777.here hx rfl (hb hby at_176) rfl (l' := #[.val (.long st), .second, .val (.long c0), .second, .val (.long c1), .second, .val (.long c2), .second, .val (.long hgh), .second, iv fl, .val (.long (65536 : Int64)), .second, .val (.long l0), .second, .val (.long l1), .second, .val (.long l2), .second, iv (0 : Int32), rv b770, .val (.long st), .second, .val (.long st), .second, .val (.long (st + l0)), .second, .val (.long ((st + l0) + l1)), .second, .val (.long st), .second, .val (.long st), .second, .unset, .unset, .unset, .unset, .unset, .unset]) rfl ?_
      show Steps p.tables e below (T777.setTop (mkF m 178 #[.val (.long st), .second, .val (.long c0), .second, .val (.long c1), .second, .val (.long c2), .second, .val (.long hgh), .second, iv fl, .val (.long (65536 : Int64)), .second, .val (.long l0), .second, .val (.long l1), .second, .val (.long l2), .second, iv (0 : Int32), rv b770, .val (.long st), .second, .val (.long st), .second, .val (.long (st + l0)), .second, .val (.long ((st + l0) + l1)), .second, .val (.long st), .second, .val (.long st), .second, .unset, .unset, .unset, .unset, .unset, .unset] [])) _
      refine XS.lload X777.here hx rfl (hb hby at_178) rfl ?_
      refine XS.lload X777.here hx rfl (hb hby at_180) rfl ?_
      refine XS.lcmp X777.here hx rfl (hb hby at_182) rfl ?_
      exact kt)
  obtain ⟨ss1, hss1, sg782⟩ : ∃ (ss1 : Int64), ss1 = (if (lcmpW l0 (65536 : Int64)) = (0 : Int32) then (st + l0) else st) ∧ ∀ tt, Steps p.tables e below (T777.setTop (mkF m 193 #[.val (.long st), .second, .val (.long c0), .second, .val (.long c1), .second, .val (.long c2), .second, .val (.long hgh), .second, iv fl, .val (.long (65536 : Int64)), .second, .val (.long l0), .second, .val (.long l1), .second, .val (.long l2), .second, iv (0 : Int32), rv b770, .val (.long st), .second, .val (.long st), .second, .val (.long (st + l0)), .second, .val (.long ((st + l0) + l1)), .second, .val (.long st), .second, .val (.long st), .second, .unset, .unset, .unset, .unset, .unset, .unset] [(.long ss1)])) tt → Steps p.tables e below (T777.setTop (mkF m 183 #[.val (.long st), .second, .val (.long c0), .second, .val (.long c1), .second, .val (.long c2), .second, .val (.long hgh), .second, iv fl, .val (.long (65536 : Int64)), .second, .val (.long l0), .second, .val (.long l1), .second, .val (.long l2), .second, iv (0 : Int32), rv b770, .val (.long st), .second, .val (.long st), .second, .val (.long (st + l0)), .second, .val (.long ((st + l0) + l1)), .second, .val (.long st), .second, .val (.long st), .second, .unset, .unset, .unset, .unset, .unset, .unset] [(.int (lcmpW l0 (65536 : Int64)))])) tt := by
    by_cases hd183_0 : (lcmpW l0 (65536 : Int64)) = (0 : Int32)
    · refine ⟨_, (if_pos hd183_0).symm, fun tt kt => ?_⟩
      show Steps p.tables e below (T777.setTop (mkF m 183 #[.val (.long st), .second, .val (.long c0), .second, .val (.long c1), .second, .val (.long c2), .second, .val (.long hgh), .second, iv fl, .val (.long (65536 : Int64)), .second, .val (.long l0), .second, .val (.long l1), .second, .val (.long l2), .second, iv (0 : Int32), rv b770, .val (.long st), .second, .val (.long st), .second, .val (.long (st + l0)), .second, .val (.long ((st + l0) + l1)), .second, .val (.long st), .second, .val (.long st), .second, .unset, .unset, .unset, .unset, .unset, .unset] [(.int (lcmpW l0 (65536 : Int64)))])) _
      refine XS.ifNo X777.here hx rfl (hb hby at_183) rfl ((if0 _ _).trans (teq hd183_0).2) ?_
      refine XS.lload X777.here hx rfl (hb hby at_186) rfl ?_
      refine XS.goto X777.here hx rfl (pc0 := 188) (pc' := 193) rfl (hb hby at_188) (by decide) (by decide) ?_
      exact kt
    · refine ⟨_, (if_neg hd183_0).symm, fun tt kt => ?_⟩
      show Steps p.tables e below (T777.setTop (mkF m 183 #[.val (.long st), .second, .val (.long c0), .second, .val (.long c1), .second, .val (.long c2), .second, .val (.long hgh), .second, iv fl, .val (.long (65536 : Int64)), .second, .val (.long l0), .second, .val (.long l1), .second, .val (.long l2), .second, iv (0 : Int32), rv b770, .val (.long st), .second, .val (.long st), .second, .val (.long (st + l0)), .second, .val (.long ((st + l0) + l1)), .second, .val (.long st), .second, .val (.long st), .second, .unset, .unset, .unset, .unset, .unset, .unset] [(.int (lcmpW l0 (65536 : Int64)))])) _
      refine XS.ifYes X777.here hx rfl (pc0 := 183) (pc' := 191) rfl (hb hby at_183) rfl ((if0 _ _).trans (feq hd183_0).2) (by decide) (by decide) ?_
      refine XS.lload X777.here hx rfl (hb hby at_191) rfl ?_
      exact kt
  have go783 : own_S p e below ST T777 (mkF m 193 #[.val (.long st), .second, .val (.long c0), .second, .val (.long c1), .second, .val (.long c2), .second, .val (.long hgh), .second, iv fl, .val (.long (65536 : Int64)), .second, .val (.long l0), .second, .val (.long l1), .second, .val (.long l2), .second, iv (0 : Int32), rv b770, .val (.long st), .second, .val (.long st), .second, .val (.long (st + l0)), .second, .val (.long ((st + l0) + l1)), .second, .val (.long st), .second, .val (.long st), .second, .unset, .unset, .unset, .unset, .unset, .unset] [(.long ss1)]) := fun tt kt => go781 tt (sg782 _ kt)
  have go784 : own_S p e below ST T777 (mkF m 200 #[.val (.long st), .second, .val (.long c0), .second, .val (.long c1), .second, .val (.long c2), .second, .val (.long hgh), .second, iv fl, .val (.long (65536 : Int64)), .second, .val (.long l0), .second, .val (.long l1), .second, .val (.long l2), .second, iv (0 : Int32), rv b770, .val (.long st), .second, .val (.long st), .second, .val (.long (st + l0)), .second, .val (.long ((st + l0) + l1)), .second, .val (.long st), .second, .val (.long st), .second, .val (.long ss1), .second, .unset, .unset, .unset, .unset] [(.int (lcmpW l1 (65536 : Int64)))]) := fun tt kt => go783 tt (by
      refine XS.lstore X777.here hx rfl (hb hby at_193) rfl (l' := #[.val (.long st), .second, .val (.long c0), .second, .val (.long c1), .second, .val (.long c2), .second, .val (.long hgh), .second, iv fl, .val (.long (65536 : Int64)), .second, .val (.long l0), .second, .val (.long l1), .second, .val (.long l2), .second, iv (0 : Int32), rv b770, .val (.long st), .second, .val (.long st), .second, .val (.long (st + l0)), .second, .val (.long ((st + l0) + l1)), .second, .val (.long st), .second, .val (.long st), .second, .val (.long ss1), .second, .unset, .unset, .unset, .unset]) rfl ?_
      refine XS.lload X777.here hx rfl (hb hby at_195) rfl ?_
      refine XS.lload X777.here hx rfl (hb hby at_197) rfl ?_
      refine XS.lcmp X777.here hx rfl (hb hby at_199) rfl ?_
      exact kt)
  obtain ⟨ss2, hss2, sg785⟩ : ∃ (ss2 : Int64), ss2 = (if (lcmpW l1 (65536 : Int64)) = (0 : Int32) then ((st + l0) + l1) else ss1) ∧ ∀ tt, Steps p.tables e below (T777.setTop (mkF m 210 #[.val (.long st), .second, .val (.long c0), .second, .val (.long c1), .second, .val (.long c2), .second, .val (.long hgh), .second, iv fl, .val (.long (65536 : Int64)), .second, .val (.long l0), .second, .val (.long l1), .second, .val (.long l2), .second, iv (0 : Int32), rv b770, .val (.long st), .second, .val (.long st), .second, .val (.long (st + l0)), .second, .val (.long ((st + l0) + l1)), .second, .val (.long st), .second, .val (.long st), .second, .val (.long ss1), .second, .unset, .unset, .unset, .unset] [(.long ss2)])) tt → Steps p.tables e below (T777.setTop (mkF m 200 #[.val (.long st), .second, .val (.long c0), .second, .val (.long c1), .second, .val (.long c2), .second, .val (.long hgh), .second, iv fl, .val (.long (65536 : Int64)), .second, .val (.long l0), .second, .val (.long l1), .second, .val (.long l2), .second, iv (0 : Int32), rv b770, .val (.long st), .second, .val (.long st), .second, .val (.long (st + l0)), .second, .val (.long ((st + l0) + l1)), .second, .val (.long st), .second, .val (.long st), .second, .val (.long ss1), .second, .unset, .unset, .unset, .unset] [(.int (lcmpW l1 (65536 : Int64)))])) tt := by
    by_cases hd200_0 : (lcmpW l1 (65536 : Int64)) = (0 : Int32)
    · refine ⟨_, (if_pos hd200_0).symm, fun tt kt => ?_⟩
      show Steps p.tables e below (T777.setTop (mkF m 200 #[.val (.long st), .second, .val (.long c0), .second, .val (.long c1), .second, .val (.long c2), .second, .val (.long hgh), .second, iv fl, .val (.long (65536 : Int64)), .second, .val (.long l0), .second, .val (.long l1), .second, .val (.long l2), .second, iv (0 : Int32), rv b770, .val (.long st), .second, .val (.long st), .second, .val (.long (st + l0)), .second, .val (.long ((st + l0) + l1)), .second, .val (.long st), .second, .val (.long st), .second, .val (.long ss1), .second, .unset, .unset, .unset, .unset] [(.int (lcmpW l1 (65536 : Int64)))])) _
      refine XS.ifNo X777.here hx rfl (hb hby at_200) rfl ((if0 _ _).trans (teq hd200_0).2) ?_
      refine XS.lload X777.here hx rfl (hb hby at_203) rfl ?_
      refine XS.goto X777.here hx rfl (pc0 := 205) (pc' := 210) rfl (hb hby at_205) (by decide) (by decide) ?_
      exact kt
    · refine ⟨_, (if_neg hd200_0).symm, fun tt kt => ?_⟩
      show Steps p.tables e below (T777.setTop (mkF m 200 #[.val (.long st), .second, .val (.long c0), .second, .val (.long c1), .second, .val (.long c2), .second, .val (.long hgh), .second, iv fl, .val (.long (65536 : Int64)), .second, .val (.long l0), .second, .val (.long l1), .second, .val (.long l2), .second, iv (0 : Int32), rv b770, .val (.long st), .second, .val (.long st), .second, .val (.long (st + l0)), .second, .val (.long ((st + l0) + l1)), .second, .val (.long st), .second, .val (.long st), .second, .val (.long ss1), .second, .unset, .unset, .unset, .unset] [(.int (lcmpW l1 (65536 : Int64)))])) _
      refine XS.ifYes X777.here hx rfl (pc0 := 200) (pc' := 208) rfl (hb hby at_200) rfl ((if0 _ _).trans (feq hd200_0).2) (by decide) (by decide) ?_
      refine XS.lload X777.here hx rfl (hb hby at_208) rfl ?_
      exact kt
  have go786 : own_S p e below ST T777 (mkF m 210 #[.val (.long st), .second, .val (.long c0), .second, .val (.long c1), .second, .val (.long c2), .second, .val (.long hgh), .second, iv fl, .val (.long (65536 : Int64)), .second, .val (.long l0), .second, .val (.long l1), .second, .val (.long l2), .second, iv (0 : Int32), rv b770, .val (.long st), .second, .val (.long st), .second, .val (.long (st + l0)), .second, .val (.long ((st + l0) + l1)), .second, .val (.long st), .second, .val (.long st), .second, .val (.long ss1), .second, .unset, .unset, .unset, .unset] [(.long ss2)]) := fun tt kt => go784 tt (sg785 _ kt)
  have go787 : own_S p e below ST T777 (mkF m 283 #[.val (.long st), .second, .val (.long c0), .second, .val (.long c1), .second, .val (.long c2), .second, .val (.long hgh), .second, iv fl, .val (.long (65536 : Int64)), .second, .val (.long l0), .second, .val (.long l1), .second, .val (.long l2), .second, iv (0 : Int32), rv b770, .val (.long st), .second, .val (.long st), .second, .val (.long (st + l0)), .second, .val (.long ((st + l0) + l1)), .second, .val (.long st), .second, .val (.long st), .second, .val (.long ss1), .second, .val (.long ss2), .second, .val (.long st), .second] [(.int (lcmpW st st))]) := fun tt kt => go786 tt (by
      refine XS.lstore X777.here hx rfl (hb hby at_210) rfl (l' := #[.val (.long st), .second, .val (.long c0), .second, .val (.long c1), .second, .val (.long c2), .second, .val (.long hgh), .second, iv fl, .val (.long (65536 : Int64)), .second, .val (.long l0), .second, .val (.long l1), .second, .val (.long l2), .second, iv (0 : Int32), rv b770, .val (.long st), .second, .val (.long st), .second, .val (.long (st + l0)), .second, .val (.long ((st + l0) + l1)), .second, .val (.long st), .second, .val (.long st), .second, .val (.long ss1), .second, .val (.long ss2), .second, .unset, .unset]) rfl ?_
      refine XS.iload X777.here hx rfl (hb hby at_212) rfl ?_
      refine XS.iconst X777.here hx rfl (hb hby at_214) ?_
      refine XS.icmpYes X777.here hx rfl (pc0 := 215) (pc' := 232) rfl (hb hby at_215) rfl (tlt (by decide : (0 : Int32) < (1 : Int32))).1 (by decide) (by decide) ?_
      refine XS.iload X777.here hx rfl (hb hby at_232) rfl ?_
      refine XS.iconst X777.here hx rfl (hb hby at_234) ?_
      show Steps p.tables e below (T777.setTop (mkF m 235 #[.val (.long st), .second, .val (.long c0), .second, .val (.long c1), .second, .val (.long c2), .second, .val (.long hgh), .second, iv fl, .val (.long (65536 : Int64)), .second, .val (.long l0), .second, .val (.long l1), .second, .val (.long l2), .second, iv (0 : Int32), rv b770, .val (.long st), .second, .val (.long st), .second, .val (.long (st + l0)), .second, .val (.long ((st + l0) + l1)), .second, .val (.long st), .second, .val (.long st), .second, .val (.long ss1), .second, .val (.long ss2), .second, .unset, .unset] [(.int (2 : Int32)), (.int (0 : Int32))])) _
      refine XS.icmpYes X777.here hx rfl (pc0 := 235) (pc' := 253) rfl (hb hby at_235) rfl (tlt (by decide : (0 : Int32) < (2 : Int32))).1 (by decide) (by decide) ?_
      refine XS.iload X777.here hx rfl (hb hby at_253) rfl ?_
      refine XS.iconst X777.here hx rfl (hb hby at_255) ?_
      refine XS.icmpYes X777.here hx rfl (pc0 := 256) (pc' := 274) rfl (hb hby at_256) rfl (tlt (by decide : (0 : Int32) < (3 : Int32))).1 (by decide) (by decide) ?_
      refine XS.lload X777.here hx rfl (hb hby at_274) rfl ?_
      refine XS.lstore X777.here hx rfl (hb hby at_276) rfl (l' := #[.val (.long st), .second, .val (.long c0), .second, .val (.long c1), .second, .val (.long c2), .second, .val (.long hgh), .second, iv fl, .val (.long (65536 : Int64)), .second, .val (.long l0), .second, .val (.long l1), .second, .val (.long l2), .second, iv (0 : Int32), rv b770, .val (.long st), .second, .val (.long st), .second, .val (.long (st + l0)), .second, .val (.long ((st + l0) + l1)), .second, .val (.long st), .second, .val (.long st), .second, .val (.long ss1), .second, .val (.long ss2), .second, .val (.long st), .second]) rfl ?_
      show Steps p.tables e below (T777.setTop (mkF m 278 #[.val (.long st), .second, .val (.long c0), .second, .val (.long c1), .second, .val (.long c2), .second, .val (.long hgh), .second, iv fl, .val (.long (65536 : Int64)), .second, .val (.long l0), .second, .val (.long l1), .second, .val (.long l2), .second, iv (0 : Int32), rv b770, .val (.long st), .second, .val (.long st), .second, .val (.long (st + l0)), .second, .val (.long ((st + l0) + l1)), .second, .val (.long st), .second, .val (.long st), .second, .val (.long ss1), .second, .val (.long ss2), .second, .val (.long st), .second] [])) _
      refine XS.lload X777.here hx rfl (hb hby at_278) rfl ?_
      refine XS.lload X777.here hx rfl (hb hby at_280) rfl ?_
      refine XS.lcmp X777.here hx rfl (hb hby at_282) rfl ?_
      exact kt)
  have hfin : (lcmpW st st) = (0 : Int32) := by
    rw [lw_eq]
  have go788 : own_S p e below ST T777 (mkF m 291 #[.val (.long st), .second, .val (.long c0), .second, .val (.long c1), .second, .val (.long c2), .second, .val (.long hgh), .second, iv fl, .val (.long (65536 : Int64)), .second, .val (.long l0), .second, .val (.long l1), .second, .val (.long l2), .second, iv (0 : Int32), rv b770, .val (.long st), .second, .val (.long st), .second, .val (.long (st + l0)), .second, .val (.long ((st + l0) + l1)), .second, .val (.long st), .second, .val (.long st), .second, .val (.long ss1), .second, .val (.long ss2), .second, .val (.long st), .second] [(.int (1 : Int32))]) := fun tt kt => go787 tt (by
      refine XS.ifNo X777.here hx rfl (hb hby at_283) rfl ((if0 _ _).trans (teq hfin).2) ?_
      refine XS.iconst X777.here hx rfl (hb hby at_286) ?_
      refine XS.goto X777.here hx rfl (pc0 := 287) (pc' := 291) rfl (hb hby at_287) (by decide) (by decide) ?_
      exact kt)
  obtain ⟨fs, hr, hrun, hended, hW, hsame⟩ := X777.leave (v := some (.int (1 : Int32))) (fun h => by rw [Bd.returns] at h; cases h) (hlocks := by first | exact BodyLoose.notSynchronized Bd | exact Body.notSynchronized Bd)
  refine ⟨_, _, pre0 _ (go788 _ ?_), hrun, hended, _, _, rfl, ?_, ⟨_, rfl⟩, hW, hsame.mono (by decide) (by decide)⟩
  · exact retN X777 hx (t := .boolean) Bd.returns (by simp) (hb hby at_291) hr
  · show Q0n0 Z st c0 c1 c2 hgh fl h0 n0 _ T777.heap _
    rw [eh777]
    exact ⟨rfl, N777⟩
theorem pd169 : parseMethodDescriptor "(JJ)V" = some ⟨[.long, .long], none⟩ := by decide +kernel
theorem ef0n1 (m : MethodId) (x0 : Int64) (x1 : Int64) (x2 : Int64) (x3 : Int64) (x4 : Int64) (x5 : Int32) : entryFrame m #[(.long x0), (.long x1), (.long x2), (.long x3), (.long x4), (.int x5)] maxLocals = mkF m 0 #[.val (.long x0), .second, .val (.long x1), .second, .val (.long x2), .second, .val (.long x3), .second, .val (.long x4), .second, .val (.int x5), .unset, .unset, .unset, .unset, .unset, .unset, .unset, .unset, .unset, .unset, .unset, .unset, .unset, .unset, .unset, .unset, .unset, .unset, .unset, .unset, .unset, .unset, .unset, .unset, .unset, .unset, .unset, .unset] [] := by first | (simp [entryFrame, mkF, argsToLocals, Value.category, maxLocals]; done) | rfl
def Q0n1 (Z : State) (st : Int64) (c0 : Int64) (c1 : Int64) (c2 : Int64) (hgh : Int64) (fl : Int32) (h0 : Heap) (n0 : Nat) (v : Option Value) (h : Heap) (L : List Loc) : Prop := v = some (.int 1) ∧ Fr n0 L
set_option maxRecDepth 65536 in
set_option maxHeartbeats 40000000 in
theorem rm0n1 (l : Launch) (Z : State) (a0 : Array Value) (hw : ∀ d ∈ tables_1, d.before a0 Z = true) (ws : List Jvm.Cond) (st : Int64) (c0 : Int64) (c1 : Int64) (c2 : Int64) (hgh : Int64) (fl : Int32) (h0 : Heap) (n0 : Nat) (Z0 : n0 ≤ h0.size) (hk : ((fl.toUInt32 >>> ((3 : Int32) &&& 31).toUInt32).toInt32) &&& 3 = 1) :
    MetFree l x (head1 (Jvm.Cond.code x code maxLocals ret :: ws) room_1) (fun aa UU => aa = #[(.long st), (.long c0), (.long c1), (.long c2), (.long hgh), (.int fl)] ∧ Z.Warmed39 UU.vm ∧ UU.heap = h0) (fun _ _ _ _ _ => True) (fun _ UU oo UU' => ∃ vv LL, oo = .returned vv ∧ Q0n1 Z st c0 c1 c2 hgh fl h0 n0 vv UU'.heap LL ∧ FrameEnd UU oo UU' LL room_1.cells room_1.slots) := by
  have W : ∀ {d : Jvm.Cond} (i : Nat), tables_1[i]? = some d → d.before a0 Z = true := fun i h => hw _ (List.mem_of_getElem? h)
  refine MetFree.of_bodySF (plainFor_of_name pn166) hisR ?_
  intro p e s m args below meth c s₁ Bd hml0 hP hK
  obtain ⟨rfl, hZ, hh⟩ := hP
  have hx := Bd.exec
  have hby := Bd.bytes
  have hml : c.maxLocals = 39 := hml0
  have hown : s.vm.findClass "com/example/altocommit/altocommit/store/LogIndexAllAtOrBelowUpToPinLaw" = some m.cls := findClass_of_methodNamed Bd.named
  have hnm := (name_of_methodNamed Bd.named Bd.method).1
  have X0 : Stand p l e room_1 s m #[(.long st), (.long c0), (.long c1), (.long c2), (.long hgh), (.int fl)] below meth c s₁ [] 0 0 := Stand.of_body Bd
  have e0 : s₁.heap = h0 := by rw [← hh, Bd.state]; rfl
  have N0 := Fr.nil n0
  have pre0 : ∀ tt, Steps p.tables e below (s₁.setTop (mkF m 0 #[.val (.long st), .second, .val (.long c0), .second, .val (.long c1), .second, .val (.long c2), .second, .val (.long hgh), .second, iv fl, .unset, .unset, .unset, .unset, .unset, .unset, .unset, .unset, .unset, .unset, .unset, .unset, .unset, .unset, .unset, .unset, .unset, .unset, .unset, .unset, .unset, .unset, .unset, .unset, .unset, .unset, .unset, .unset] [])) tt → Steps p.tables e below (s₁.setTop (entryFrame m #[(.long st), (.long c0), (.long c1), (.long c2), (.long hgh), (.int fl)] maxLocals)) tt := fun tt kt => castTop (ef0n1 m st c0 c1 c2 hgh fl) kt
  obtain ⟨ST, hST⟩ : ∃ z : State, z = s₁.setTop (mkF m 0 #[.val (.long st), .second, .val (.long c0), .second, .val (.long c1), .second, .val (.long c2), .second, .val (.long hgh), .second, iv fl, .unset, .unset, .unset, .unset, .unset, .unset, .unset, .unset, .unset, .unset, .unset, .unset, .unset, .unset, .unset, .unset, .unset, .unset, .unset, .unset, .unset, .unset, .unset, .unset, .unset, .unset, .unset, .unset] []) := ⟨_, rfl⟩
  rw [← hST] at pre0
  have go789 : own_S p e below ST s₁ (mkF m 9 #[.val (.long st), .second, .val (.long c0), .second, .val (.long c1), .second, .val (.long c2), .second, .val (.long hgh), .second, iv fl, .val (.long (65536 : Int64)), .second, .unset, .unset, .unset, .unset, .unset, .unset, .unset, .unset, .unset, .unset, .unset, .unset, .unset, .unset, .unset, .unset, .unset, .unset, .unset, .unset, .unset, .unset, .unset, .unset, .unset, .unset] [(.int (fl &&& (1 : Int32)))]) := fun tt kt => (by
      rw [hST]
      show Steps p.tables e below (s₁.setTop (mkF m 0 #[.val (.long st), .second, .val (.long c0), .second, .val (.long c1), .second, .val (.long c2), .second, .val (.long hgh), .second, iv fl, .unset, .unset, .unset, .unset, .unset, .unset, .unset, .unset, .unset, .unset, .unset, .unset, .unset, .unset, .unset, .unset, .unset, .unset, .unset, .unset, .unset, .unset, .unset, .unset, .unset, .unset, .unset, .unset] [])) _
      refine X0.ldc2Long hx hown (mvT hZ (W 0 rfl)) (g := (mkF m 0 #[.val (.long st), .second, .val (.long c0), .second, .val (.long c1), .second, .val (.long c2), .second, .val (.long hgh), .second, iv fl, .unset, .unset, .unset, .unset, .unset, .unset, .unset, .unset, .unset, .unset, .unset, .unset, .unset, .unset, .unset, .unset, .unset, .unset, .unset, .unset, .unset, .unset, .unset, .unset, .unset, .unset, .unset, .unset] [])) rfl (hb hby at_0) _ ?_
      refine XS.lstore X0.here hx rfl (hb hby at_3) rfl (l' := #[.val (.long st), .second, .val (.long c0), .second, .val (.long c1), .second, .val (.long c2), .second, .val (.long hgh), .second, iv fl, .val (.long (65536 : Int64)), .second, .unset, .unset, .unset, .unset, .unset, .unset, .unset, .unset, .unset, .unset, .unset, .unset, .unset, .unset, .unset, .unset, .unset, .unset, .unset, .unset, .unset, .unset, .unset, .unset, .unset, .unset]) rfl ?_
      refine XS.iload X0.here hx rfl (hb hby at_5) rfl ?_
      refine XS.iconst X0.here hx rfl (hb hby at_7) ?_
      refine XS.iand X0.here hx rfl (hb hby at_8) rfl ?_
      exact kt)
  obtain ⟨l0, hl0, sg790⟩ : ∃ (l0 : Int64), l0 = (if (fl &&& (1 : Int32)) = (0 : Int32) then (1 : Int64) else (65536 : Int64)) ∧ ∀ tt, Steps p.tables e below (s₁.setTop (mkF m 18 #[.val (.long st), .second, .val (.long c0), .second, .val (.long c1), .second, .val (.long c2), .second, .val (.long hgh), .second, iv fl, .val (.long (65536 : Int64)), .second, .unset, .unset, .unset, .unset, .unset, .unset, .unset, .unset, .unset, .unset, .unset, .unset, .unset, .unset, .unset, .unset, .unset, .unset, .unset, .unset, .unset, .unset, .unset, .unset, .unset, .unset] [(.long l0)])) tt → Steps p.tables e below (s₁.setTop (mkF m 9 #[.val (.long st), .second, .val (.long c0), .second, .val (.long c1), .second, .val (.long c2), .second, .val (.long hgh), .second, iv fl, .val (.long (65536 : Int64)), .second, .unset, .unset, .unset, .unset, .unset, .unset, .unset, .unset, .unset, .unset, .unset, .unset, .unset, .unset, .unset, .unset, .unset, .unset, .unset, .unset, .unset, .unset, .unset, .unset, .unset, .unset] [(.int (fl &&& (1 : Int32)))])) tt := by
    by_cases hd9_0 : (fl &&& (1 : Int32)) = (0 : Int32)
    · refine ⟨_, (if_pos hd9_0).symm, fun tt kt => ?_⟩
      show Steps p.tables e below (s₁.setTop (mkF m 9 #[.val (.long st), .second, .val (.long c0), .second, .val (.long c1), .second, .val (.long c2), .second, .val (.long hgh), .second, iv fl, .val (.long (65536 : Int64)), .second, .unset, .unset, .unset, .unset, .unset, .unset, .unset, .unset, .unset, .unset, .unset, .unset, .unset, .unset, .unset, .unset, .unset, .unset, .unset, .unset, .unset, .unset, .unset, .unset, .unset, .unset] [(.int (fl &&& (1 : Int32)))])) _
      refine XS.ifYes X0.here hx rfl (pc0 := 9) (pc' := 17) rfl (hb hby at_9) rfl ((if0 _ _).trans (teq hd9_0).1) (by decide) (by decide) ?_
      refine XS.lconst X0.here hx rfl (hb hby at_17) ?_
      exact kt
    · refine ⟨_, (if_neg hd9_0).symm, fun tt kt => ?_⟩
      show Steps p.tables e below (s₁.setTop (mkF m 9 #[.val (.long st), .second, .val (.long c0), .second, .val (.long c1), .second, .val (.long c2), .second, .val (.long hgh), .second, iv fl, .val (.long (65536 : Int64)), .second, .unset, .unset, .unset, .unset, .unset, .unset, .unset, .unset, .unset, .unset, .unset, .unset, .unset, .unset, .unset, .unset, .unset, .unset, .unset, .unset, .unset, .unset, .unset, .unset, .unset, .unset] [(.int (fl &&& (1 : Int32)))])) _
      refine XS.ifNo X0.here hx rfl (hb hby at_9) rfl ((if0 _ _).trans (feq hd9_0).1) ?_
      refine XS.lload X0.here hx rfl (hb hby at_12) rfl ?_
      refine XS.goto X0.here hx rfl (pc0 := 14) (pc' := 18) rfl (hb hby at_14) (by decide) (by decide) ?_
      exact kt
  have go791 : own_S p e below ST s₁ (mkF m 18 #[.val (.long st), .second, .val (.long c0), .second, .val (.long c1), .second, .val (.long c2), .second, .val (.long hgh), .second, iv fl, .val (.long (65536 : Int64)), .second, .unset, .unset, .unset, .unset, .unset, .unset, .unset, .unset, .unset, .unset, .unset, .unset, .unset, .unset, .unset, .unset, .unset, .unset, .unset, .unset, .unset, .unset, .unset, .unset, .unset, .unset] [(.long l0)]) := fun tt kt => go789 tt (sg790 _ kt)
  have go792 : own_S p e below ST s₁ (mkF m 24 #[.val (.long st), .second, .val (.long c0), .second, .val (.long c1), .second, .val (.long c2), .second, .val (.long hgh), .second, iv fl, .val (.long (65536 : Int64)), .second, .val (.long l0), .second, .unset, .unset, .unset, .unset, .unset, .unset, .unset, .unset, .unset, .unset, .unset, .unset, .unset, .unset, .unset, .unset, .unset, .unset, .unset, .unset, .unset, .unset, .unset, .unset] [(.int (fl &&& (2 : Int32)))]) := fun tt kt => go791 tt (by
      refine XS.lstore X0.here hx rfl (hb hby at_18) rfl (l' := #[.val (.long st), .second, .val (.long c0), .second, .val (.long c1), .second, .val (.long c2), .second, .val (.long hgh), .second, iv fl, .val (.long (65536 : Int64)), .second, .val (.long l0), .second, .unset, .unset, .unset, .unset, .unset, .unset, .unset, .unset, .unset, .unset, .unset, .unset, .unset, .unset, .unset, .unset, .unset, .unset, .unset, .unset, .unset, .unset, .unset, .unset]) rfl ?_
      refine XS.iload X0.here hx rfl (hb hby at_20) rfl ?_
      refine XS.iconst X0.here hx rfl (hb hby at_22) ?_
      refine XS.iand X0.here hx rfl (hb hby at_23) rfl ?_
      exact kt)
  obtain ⟨l1, hl1, sg793⟩ : ∃ (l1 : Int64), l1 = (if (fl &&& (2 : Int32)) = (0 : Int32) then (1 : Int64) else (65536 : Int64)) ∧ ∀ tt, Steps p.tables e below (s₁.setTop (mkF m 33 #[.val (.long st), .second, .val (.long c0), .second, .val (.long c1), .second, .val (.long c2), .second, .val (.long hgh), .second, iv fl, .val (.long (65536 : Int64)), .second, .val (.long l0), .second, .unset, .unset, .unset, .unset, .unset, .unset, .unset, .unset, .unset, .unset, .unset, .unset, .unset, .unset, .unset, .unset, .unset, .unset, .unset, .unset, .unset, .unset, .unset, .unset] [(.long l1)])) tt → Steps p.tables e below (s₁.setTop (mkF m 24 #[.val (.long st), .second, .val (.long c0), .second, .val (.long c1), .second, .val (.long c2), .second, .val (.long hgh), .second, iv fl, .val (.long (65536 : Int64)), .second, .val (.long l0), .second, .unset, .unset, .unset, .unset, .unset, .unset, .unset, .unset, .unset, .unset, .unset, .unset, .unset, .unset, .unset, .unset, .unset, .unset, .unset, .unset, .unset, .unset, .unset, .unset] [(.int (fl &&& (2 : Int32)))])) tt := by
    by_cases hd24_0 : (fl &&& (2 : Int32)) = (0 : Int32)
    · refine ⟨_, (if_pos hd24_0).symm, fun tt kt => ?_⟩
      show Steps p.tables e below (s₁.setTop (mkF m 24 #[.val (.long st), .second, .val (.long c0), .second, .val (.long c1), .second, .val (.long c2), .second, .val (.long hgh), .second, iv fl, .val (.long (65536 : Int64)), .second, .val (.long l0), .second, .unset, .unset, .unset, .unset, .unset, .unset, .unset, .unset, .unset, .unset, .unset, .unset, .unset, .unset, .unset, .unset, .unset, .unset, .unset, .unset, .unset, .unset, .unset, .unset] [(.int (fl &&& (2 : Int32)))])) _
      refine XS.ifYes X0.here hx rfl (pc0 := 24) (pc' := 32) rfl (hb hby at_24) rfl ((if0 _ _).trans (teq hd24_0).1) (by decide) (by decide) ?_
      refine XS.lconst X0.here hx rfl (hb hby at_32) ?_
      exact kt
    · refine ⟨_, (if_neg hd24_0).symm, fun tt kt => ?_⟩
      show Steps p.tables e below (s₁.setTop (mkF m 24 #[.val (.long st), .second, .val (.long c0), .second, .val (.long c1), .second, .val (.long c2), .second, .val (.long hgh), .second, iv fl, .val (.long (65536 : Int64)), .second, .val (.long l0), .second, .unset, .unset, .unset, .unset, .unset, .unset, .unset, .unset, .unset, .unset, .unset, .unset, .unset, .unset, .unset, .unset, .unset, .unset, .unset, .unset, .unset, .unset, .unset, .unset] [(.int (fl &&& (2 : Int32)))])) _
      refine XS.ifNo X0.here hx rfl (hb hby at_24) rfl ((if0 _ _).trans (feq hd24_0).1) ?_
      refine XS.lload X0.here hx rfl (hb hby at_27) rfl ?_
      refine XS.goto X0.here hx rfl (pc0 := 29) (pc' := 33) rfl (hb hby at_29) (by decide) (by decide) ?_
      exact kt
  have go794 : own_S p e below ST s₁ (mkF m 33 #[.val (.long st), .second, .val (.long c0), .second, .val (.long c1), .second, .val (.long c2), .second, .val (.long hgh), .second, iv fl, .val (.long (65536 : Int64)), .second, .val (.long l0), .second, .unset, .unset, .unset, .unset, .unset, .unset, .unset, .unset, .unset, .unset, .unset, .unset, .unset, .unset, .unset, .unset, .unset, .unset, .unset, .unset, .unset, .unset, .unset, .unset] [(.long l1)]) := fun tt kt => go792 tt (sg793 _ kt)
  have go795 : own_S p e below ST s₁ (mkF m 39 #[.val (.long st), .second, .val (.long c0), .second, .val (.long c1), .second, .val (.long c2), .second, .val (.long hgh), .second, iv fl, .val (.long (65536 : Int64)), .second, .val (.long l0), .second, .val (.long l1), .second, .unset, .unset, .unset, .unset, .unset, .unset, .unset, .unset, .unset, .unset, .unset, .unset, .unset, .unset, .unset, .unset, .unset, .unset, .unset, .unset, .unset, .unset] [(.int (fl &&& (4 : Int32)))]) := fun tt kt => go794 tt (by
      refine XS.lstore X0.here hx rfl (hb hby at_33) rfl (l' := #[.val (.long st), .second, .val (.long c0), .second, .val (.long c1), .second, .val (.long c2), .second, .val (.long hgh), .second, iv fl, .val (.long (65536 : Int64)), .second, .val (.long l0), .second, .val (.long l1), .second, .unset, .unset, .unset, .unset, .unset, .unset, .unset, .unset, .unset, .unset, .unset, .unset, .unset, .unset, .unset, .unset, .unset, .unset, .unset, .unset, .unset, .unset]) rfl ?_
      refine XS.iload X0.here hx rfl (hb hby at_35) rfl ?_
      refine XS.iconst X0.here hx rfl (hb hby at_37) ?_
      refine XS.iand X0.here hx rfl (hb hby at_38) rfl ?_
      exact kt)
  obtain ⟨l2, hl2, sg796⟩ : ∃ (l2 : Int64), l2 = (if (fl &&& (4 : Int32)) = (0 : Int32) then (1 : Int64) else (65536 : Int64)) ∧ ∀ tt, Steps p.tables e below (s₁.setTop (mkF m 48 #[.val (.long st), .second, .val (.long c0), .second, .val (.long c1), .second, .val (.long c2), .second, .val (.long hgh), .second, iv fl, .val (.long (65536 : Int64)), .second, .val (.long l0), .second, .val (.long l1), .second, .unset, .unset, .unset, .unset, .unset, .unset, .unset, .unset, .unset, .unset, .unset, .unset, .unset, .unset, .unset, .unset, .unset, .unset, .unset, .unset, .unset, .unset] [(.long l2)])) tt → Steps p.tables e below (s₁.setTop (mkF m 39 #[.val (.long st), .second, .val (.long c0), .second, .val (.long c1), .second, .val (.long c2), .second, .val (.long hgh), .second, iv fl, .val (.long (65536 : Int64)), .second, .val (.long l0), .second, .val (.long l1), .second, .unset, .unset, .unset, .unset, .unset, .unset, .unset, .unset, .unset, .unset, .unset, .unset, .unset, .unset, .unset, .unset, .unset, .unset, .unset, .unset, .unset, .unset] [(.int (fl &&& (4 : Int32)))])) tt := by
    by_cases hd39_0 : (fl &&& (4 : Int32)) = (0 : Int32)
    · refine ⟨_, (if_pos hd39_0).symm, fun tt kt => ?_⟩
      show Steps p.tables e below (s₁.setTop (mkF m 39 #[.val (.long st), .second, .val (.long c0), .second, .val (.long c1), .second, .val (.long c2), .second, .val (.long hgh), .second, iv fl, .val (.long (65536 : Int64)), .second, .val (.long l0), .second, .val (.long l1), .second, .unset, .unset, .unset, .unset, .unset, .unset, .unset, .unset, .unset, .unset, .unset, .unset, .unset, .unset, .unset, .unset, .unset, .unset, .unset, .unset, .unset, .unset] [(.int (fl &&& (4 : Int32)))])) _
      refine XS.ifYes X0.here hx rfl (pc0 := 39) (pc' := 47) rfl (hb hby at_39) rfl ((if0 _ _).trans (teq hd39_0).1) (by decide) (by decide) ?_
      refine XS.lconst X0.here hx rfl (hb hby at_47) ?_
      exact kt
    · refine ⟨_, (if_neg hd39_0).symm, fun tt kt => ?_⟩
      show Steps p.tables e below (s₁.setTop (mkF m 39 #[.val (.long st), .second, .val (.long c0), .second, .val (.long c1), .second, .val (.long c2), .second, .val (.long hgh), .second, iv fl, .val (.long (65536 : Int64)), .second, .val (.long l0), .second, .val (.long l1), .second, .unset, .unset, .unset, .unset, .unset, .unset, .unset, .unset, .unset, .unset, .unset, .unset, .unset, .unset, .unset, .unset, .unset, .unset, .unset, .unset, .unset, .unset] [(.int (fl &&& (4 : Int32)))])) _
      refine XS.ifNo X0.here hx rfl (hb hby at_39) rfl ((if0 _ _).trans (feq hd39_0).1) ?_
      refine XS.lload X0.here hx rfl (hb hby at_42) rfl ?_
      refine XS.goto X0.here hx rfl (pc0 := 44) (pc' := 48) rfl (hb hby at_44) (by decide) (by decide) ?_
      exact kt
  have go797 : own_S p e below ST s₁ (mkF m 48 #[.val (.long st), .second, .val (.long c0), .second, .val (.long c1), .second, .val (.long c2), .second, .val (.long hgh), .second, iv fl, .val (.long (65536 : Int64)), .second, .val (.long l0), .second, .val (.long l1), .second, .unset, .unset, .unset, .unset, .unset, .unset, .unset, .unset, .unset, .unset, .unset, .unset, .unset, .unset, .unset, .unset, .unset, .unset, .unset, .unset, .unset, .unset] [(.long l2)]) := fun tt kt => go795 tt (sg796 _ kt)
  have go798 : own_S p e below ST s₁ (mkF m 58 #[.val (.long st), .second, .val (.long c0), .second, .val (.long c1), .second, .val (.long c2), .second, .val (.long hgh), .second, iv fl, .val (.long (65536 : Int64)), .second, .val (.long l0), .second, .val (.long l1), .second, .val (.long l2), .second, iv (((fl.toUInt32 >>> ((3 : Int32) &&& 31).toUInt32).toInt32) &&& (3 : Int32)), .unset, .unset, .unset, .unset, .unset, .unset, .unset, .unset, .unset, .unset, .unset, .unset, .unset, .unset, .unset, .unset, .unset, .unset, .unset] []) := fun tt kt => go797 tt (by
      refine XS.lstore X0.here hx rfl (hb hby at_48) rfl (l' := #[.val (.long st), .second, .val (.long c0), .second, .val (.long c1), .second, .val (.long c2), .second, .val (.long hgh), .second, iv fl, .val (.long (65536 : Int64)), .second, .val (.long l0), .second, .val (.long l1), .second, .val (.long l2), .second, .unset, .unset, .unset, .unset, .unset, .unset, .unset, .unset, .unset, .unset, .unset, .unset, .unset, .unset, .unset, .unset, .unset, .unset, .unset, .unset]) rfl ?_
      refine XS.iload X0.here hx rfl (hb hby at_50) rfl ?_
      refine XS.iconst X0.here hx rfl (hb hby at_52) ?_
      refine XS.iushr X0.here hx rfl (hb hby at_53) rfl ?_
      refine XS.iconst X0.here hx rfl (hb hby at_54) ?_
      refine XS.iand X0.here hx rfl (hb hby at_55) rfl ?_
      show Steps p.tables e below (s₁.setTop (mkF m 56 #[.val (.long st), .second, .val (.long c0), .second, .val (.long c1), .second, .val (.long c2), .second, .val (.long hgh), .second, iv fl, .val (.long (65536 : Int64)), .second, .val (.long l0), .second, .val (.long l1), .second, .val (.long l2), .second, .unset, .unset, .unset, .unset, .unset, .unset, .unset, .unset, .unset, .unset, .unset, .unset, .unset, .unset, .unset, .unset, .unset, .unset, .unset, .unset] [(.int (((fl.toUInt32 >>> ((3 : Int32) &&& 31).toUInt32).toInt32) &&& (3 : Int32)))])) _
      refine XS.istore X0.here hx rfl (hb hby at_56) rfl (l' := #[.val (.long st), .second, .val (.long c0), .second, .val (.long c1), .second, .val (.long c2), .second, .val (.long hgh), .second, iv fl, .val (.long (65536 : Int64)), .second, .val (.long l0), .second, .val (.long l1), .second, .val (.long l2), .second, iv (((fl.toUInt32 >>> ((3 : Int32) &&& 31).toUInt32).toInt32) &&& (3 : Int32)), .unset, .unset, .unset, .unset, .unset, .unset, .unset, .unset, .unset, .unset, .unset, .unset, .unset, .unset, .unset, .unset, .unset, .unset, .unset]) rfl ?_
      exact kt)
  rw [hk] at go798
  obtain ⟨b799, g799⟩ : ∃ z, z = h0.size := ⟨_, rfl⟩
  obtain ⟨T799, h799, X799, e799, E799, A799, D799, -, st799⟩ := newO X0 hx hZ hown (W 1 rfl) (W 2 rfl) (W 3 rfl) e0 (g := (mkF m 58 #[.val (.long st), .second, .val (.long c0), .second, .val (.long c1), .second, .val (.long c2), .second, .val (.long hgh), .second, iv fl, .val (.long (65536 : Int64)), .second, .val (.long l0), .second, .val (.long l1), .second, .val (.long l2), .second, iv (1 : Int32), .unset, .unset, .unset, .unset, .unset, .unset, .unset, .unset, .unset, .unset, .unset, .unset, .unset, .unset, .unset, .unset, .unset, .unset, .unset] [])) rfl (hb hby at_58) (by decide) (by decide)
  rw [← g799] at A799 D799 st799
  have ge_b799 : n0 ≤ b799 := Nat.le_trans Z0 (Nat.le_of_eq g799.symm)
  have F799_starts : Fld Z h799 b799 "com/example/altocommit/altocommit/store/LogIndex" "starts" "[J" .null := D799 (Or.inl (W 12 rfl)) (ty := (.array .long)) (by decide)
  have F799_lows : Fld Z h799 b799 "com/example/altocommit/altocommit/store/LogIndex" "lows" "[J" .null := D799 (Or.inl (W 14 rfl)) (ty := (.array .long)) (by decide)
  have F799_reaches : Fld Z h799 b799 "com/example/altocommit/altocommit/store/LogIndex" "reaches" "[J" .null := D799 (Or.inl (W 16 rfl)) (ty := (.array .long)) (by decide)
  have F799_end : Fld Z h799 b799 "com/example/altocommit/altocommit/store/LogIndex" "end" "J" (.long (0 : Int64)) := D799 (Or.inl (W 18 rfl)) (ty := .long) (by decide)
  have F799_count : Fld Z h799 b799 "com/example/altocommit/altocommit/store/LogIndex" "count" "I" (.int (0 : Int32)) := D799 (Or.inl (W 25 rfl)) (ty := .int) (by decide)
  have F799_highest : Fld Z h799 b799 "com/example/altocommit/altocommit/store/LogIndex" "highest" "J" (.long (0 : Int64)) := D799 (Or.inl (W 32 rfl)) (ty := .long) (by decide)
  have go800 : own_S p e below ST T799 (mkF m 61 #[.val (.long st), .second, .val (.long c0), .second, .val (.long c1), .second, .val (.long c2), .second, .val (.long hgh), .second, iv fl, .val (.long (65536 : Int64)), .second, .val (.long l0), .second, .val (.long l1), .second, .val (.long l2), .second, iv (1 : Int32), .unset, .unset, .unset, .unset, .unset, .unset, .unset, .unset, .unset, .unset, .unset, .unset, .unset, .unset, .unset, .unset, .unset, .unset, .unset] [(.ref b799)]) := fun tt kt => go798 tt (st799 _ kt)
  have go801 : own_S p e below ST T799 (mkF m 63 #[.val (.long st), .second, .val (.long c0), .second, .val (.long c1), .second, .val (.long c2), .second, .val (.long hgh), .second, iv fl, .val (.long (65536 : Int64)), .second, .val (.long l0), .second, .val (.long l1), .second, .val (.long l2), .second, iv (1 : Int32), .unset, .unset, .unset, .unset, .unset, .unset, .unset, .unset, .unset, .unset, .unset, .unset, .unset, .unset, .unset, .unset, .unset, .unset, .unset] [(.long st), (.ref b799), (.ref b799)]) := fun tt kt => go800 tt (by
      refine XS.dup X799.here hx rfl (hb hby at_61) rfl rfl ?_
      refine XS.lloadN X799.here hx rfl (hb hby at_62) rfl ?_
      exact kt)
  have zs803 := (Nat.le_trans Z0 E799.1)
  obtain ⟨_, _, ⟨T802, L802, k802, n802⟩, -, X802, ⟨Lc802, hQ802, l802, y802, z802⟩, st802⟩ := X799.specialBack hx (y := (⟨"com/example/altocommit/altocommit/store/LogIndex", "<init>", "(J)V"⟩ : MethodName)) rfl hown (mvT hZ (W 4 rfl)) (mvT hZ (W 5 rfl)) (mvT hZ (W 6 rfl)) (by decide) (backOf (W := 1) (rm1 l Z a0 hw [] b799 st h799 n0 zs803 F799_starts F799_lows F799_reaches F799_end F799_count F799_highest A799 ge_b799) hZ (W 6 rfl) (W 3 rfl) (by decide) (by decide)) (g := (mkF m 63 #[.val (.long st), .second, .val (.long c0), .second, .val (.long c1), .second, .val (.long c2), .second, .val (.long hgh), .second, iv fl, .val (.long (65536 : Int64)), .second, .val (.long l0), .second, .val (.long l1), .second, .val (.long l2), .second, iv (1 : Int32), .unset, .unset, .unset, .unset, .unset, .unset, .unset, .unset, .unset, .unset, .unset, .unset, .unset, .unset, .unset, .unset, .unset, .unset, .unset] [(.long st), (.ref b799), (.ref b799)])) rfl (by rw [hml]; rfl) (Steps.refl _) (a := b799) (argsL := [(.long st)]) (rest := [(.ref b799)]) (lenOf pd167 rfl) rfl (by show 2 * 0 + _ ≤ _; exact Nat.le_of_eq rfl) (hb hby at_63) (fun _ _ => ⟨rfl, e799, (by decide : 1 + 3 ≤ _), (by decide : 6 + 48 ≤ _)⟩)
  dsimp only [Pt.U, Pt.locs, Pt.cells, Pt.slots] at X802 l802 y802 z802 st802 hQ802
  subst l802 y802 z802
  obtain ⟨bs, bl, br, ks, kl, kr, rfl, Nq802, K802, LIi802⟩ := hQ802
  have N802 := Fr.app N0 Nq802
  have go804 : own_S p e below ST T802 (mkF m 66 #[.val (.long st), .second, .val (.long c0), .second, .val (.long c1), .second, .val (.long c2), .second, .val (.long hgh), .second, iv fl, .val (.long (65536 : Int64)), .second, .val (.long l0), .second, .val (.long l1), .second, .val (.long l2), .second, iv (1 : Int32), .unset, .unset, .unset, .unset, .unset, .unset, .unset, .unset, .unset, .unset, .unset, .unset, .unset, .unset, .unset, .unset, .unset, .unset, .unset] [(.ref b799)]) := fun tt kt => go801 tt (st802.trans kt)
  have go805 : own_S p e below ST T802 (mkF m 79 #[.val (.long st), .second, .val (.long c0), .second, .val (.long c1), .second, .val (.long c2), .second, .val (.long hgh), .second, iv fl, .val (.long (65536 : Int64)), .second, .val (.long l0), .second, .val (.long l1), .second, .val (.long l2), .second, iv (1 : Int32), rv b799, .unset, .unset, .unset, .unset, .unset, .unset, .unset, .unset, .unset, .unset, .unset, .unset, .unset, .unset, .unset, .unset, .unset, .unset] [(.long l0), (.long c0), (.ref b799)]) := fun tt kt => go804 tt (by
      refine XS.astore X802.here hx rfl (hb hby at_66) rfl rfl (l' := #[.val (.long st), .second, .val (.long c0), .second, .val (.long c1), .second, .val (.long c2), .second, .val (.long hgh), .second, iv fl, .val (.long (65536 : Int64)), .second, .val (.long l0), .second, .val (.long l1), .second, .val (.long l2), .second, iv (1 : Int32), rv b799, .unset, .unset, .unset, .unset, .unset, .unset, .unset, .unset, .unset, .unset, .unset, .unset, .unset, .unset, .unset, .unset, .unset, .unset]) rfl ?_
      refine XS.iload X802.here hx rfl (hb hby at_68) rfl ?_
      refine XS.iconst X802.here hx rfl (hb hby at_70) ?_
      refine XS.icmpNo X802.here hx rfl (hb hby at_71) rfl (flt (by decide : ¬ ((1 : Int32) < (1 : Int32)))).1 ?_
      refine XS.aload X802.here hx rfl (hb hby at_74) rfl rfl ?_
      refine XS.lloadN X802.here hx rfl (hb hby at_76) rfl ?_
      show Steps p.tables e below (T802.setTop (mkF m 77 #[.val (.long st), .second, .val (.long c0), .second, .val (.long c1), .second, .val (.long c2), .second, .val (.long hgh), .second, iv fl, .val (.long (65536 : Int64)), .second, .val (.long l0), .second, .val (.long l1), .second, .val (.long l2), .second, iv (1 : Int32), rv b799, .unset, .unset, .unset, .unset, .unset, .unset, .unset, .unset, .unset, .unset, .unset, .unset, .unset, .unset, .unset, .unset, .unset, .unset] [(.long c0), (.ref b799)])) _
      refine XS.lload X802.here hx rfl (hb hby at_77) rfl ?_
      exact kt)
  have zs808 := (Nat.le_trans zs803 K802.1)
  have f809 := (A799.keep K802)
  obtain ⟨cq807, kq807, q807a, q807b, q807c⟩ := isOf hZ rfl f809
  obtain ⟨_, _, ⟨T807, L807, k807, n807⟩, -, X807, ⟨Lc807, hQ807, l807, y807, z807⟩, st807⟩ := X802.virtualBack hx (y := (⟨"com/example/altocommit/altocommit/store/LogIndex", "add", "(JJ)V"⟩ : MethodName)) (z := (⟨"com/example/altocommit/altocommit/store/LogIndex", "add", "(JJ)V"⟩ : MethodName)) hown (mvT hZ (W 26 rfl)) (mvT hZ (W 27 rfl)) (notFace_of_selects (args := #[]) (mvT hZ (W 29 rfl))) (mvT hZ (W 29 rfl)) (mvT hZ (W 28 rfl)) (by decide) (backOf (W := 0) (rm4c0 l Z a0 hw [] b799 bs bl br ks kl kr c0 l0 st (0 : Int64) T802.heap n0 zs808 LIi802) hZ (W 30 rfl) (W 3 rfl) (by decide) (by decide)) q807a q807c (g := (mkF m 79 #[.val (.long st), .second, .val (.long c0), .second, .val (.long c1), .second, .val (.long c2), .second, .val (.long hgh), .second, iv fl, .val (.long (65536 : Int64)), .second, .val (.long l0), .second, .val (.long l1), .second, .val (.long l2), .second, iv (1 : Int32), rv b799, .unset, .unset, .unset, .unset, .unset, .unset, .unset, .unset, .unset, .unset, .unset, .unset, .unset, .unset, .unset, .unset, .unset, .unset] [(.long l0), (.long c0), (.ref b799)])) rfl (by rw [hml]; rfl) (Steps.refl _) (argsL := [(.long c0), (.long l0)]) (rest := []) (lenOf pd169 rfl) rfl (by show 2 * 0 + _ ≤ _; exact Nat.le_of_eq rfl) (hb hby at_79) (fun _ _ => ⟨rfl, rfl, (by decide : 4 + 0 ≤ _), (by decide : 54 + 0 ≤ _)⟩)
  dsimp only [Pt.U, Pt.locs, Pt.cells, Pt.slots] at X807 l807 y807 z807 st807 hQ807
  subst l807 y807 z807
  obtain ⟨lw806, rfl, Nq807, K807, LIi807⟩ := hQ807
  have N807 := Fr.app N802 Nq807
  have go810 : own_S p e below ST T807 (mkF m 82 #[.val (.long st), .second, .val (.long c0), .second, .val (.long c1), .second, .val (.long c2), .second, .val (.long hgh), .second, iv fl, .val (.long (65536 : Int64)), .second, .val (.long l0), .second, .val (.long l1), .second, .val (.long l2), .second, iv (1 : Int32), rv b799, .unset, .unset, .unset, .unset, .unset, .unset, .unset, .unset, .unset, .unset, .unset, .unset, .unset, .unset, .unset, .unset, .unset, .unset] []) := fun tt kt => go805 tt (st807.trans kt)
  have go811 : own_S p e below ST T807 (mkF m 116 #[.val (.long st), .second, .val (.long c0), .second, .val (.long c1), .second, .val (.long c2), .second, .val (.long hgh), .second, iv fl, .val (.long (65536 : Int64)), .second, .val (.long l0), .second, .val (.long l1), .second, .val (.long l2), .second, iv (1 : Int32), rv b799, .unset, .unset, .unset, .unset, .unset, .unset, .unset, .unset, .unset, .unset, .unset, .unset, .unset, .unset, .unset, .unset, .unset, .unset] [(.long hgh), (.ref b799)]) := fun tt kt => go810 tt (by
      refine XS.iload X807.here hx rfl (hb hby at_82) rfl ?_
      refine XS.iconst X807.here hx rfl (hb hby at_84) ?_
      refine XS.icmpYes X807.here hx rfl (pc0 := 85) (pc' := 97) rfl (hb hby at_85) rfl (tlt (by decide : (1 : Int32) < (2 : Int32))).1 (by decide) (by decide) ?_
      refine XS.iload X807.here hx rfl (hb hby at_97) rfl ?_
      refine XS.iconst X807.here hx rfl (hb hby at_99) ?_
      refine XS.icmpYes X807.here hx rfl (pc0 := 100) (pc' := 112) rfl (hb hby at_100) rfl (tlt (by decide : (1 : Int32) < (3 : Int32))).1 (by decide) (by decide) ?_
      show Steps p.tables e below (T807.setTop (mkF m 112 #[.val (.long st), .second, .val (.long c0), .second, .val (.long c1), .second, .val (.long c2), .second, .val (.long hgh), .second, iv fl, .val (.long (65536 : Int64)), .second, .val (.long l0), .second, .val (.long l1), .second, .val (.long l2), .second, iv (1 : Int32), rv b799, .unset, .unset, .unset, .unset, .unset, .unset, .unset, .unset, .unset, .unset, .unset, .unset, .unset, .unset, .unset, .unset, .unset, .unset] [])) _
      refine XS.aload X807.here hx rfl (hb hby at_112) rfl rfl ?_
      refine XS.lload X807.here hx rfl (hb hby at_114) rfl ?_
      exact kt)
  have zs813 := (Nat.le_trans zs808 K807.1)
  obtain ⟨cq812, kq812, q812a, q812b, q812c⟩ := isOf hZ rfl LIi807.1
  obtain ⟨_, _, ⟨T812, L812, k812, n812⟩, -, X812, ⟨Lc812, hQ812, l812, y812, z812⟩, st812⟩ := X807.virtualBack hx (y := (⟨"com/example/altocommit/altocommit/store/LogIndex", "allAtOrBelowUpTo", "(J)J"⟩ : MethodName)) (z := (⟨"com/example/altocommit/altocommit/store/LogIndex", "allAtOrBelowUpTo", "(J)J"⟩ : MethodName)) hown (mvT hZ (W 19 rfl)) (mvT hZ (W 20 rfl)) (notFace_of_selects (args := #[]) (mvT hZ (W 22 rfl))) (mvT hZ (W 22 rfl)) (mvT hZ (W 21 rfl)) (by decide) (backOf (W := 0) (rm3c1 l Z a0 hw [] b799 bs bl br ks kl kr hgh (st + l0) (own_maxJ (0 : Int64) c0) st lw806 (0 : Int64) (0 : Int64) c0 T807.heap n0 zs813 LIi807) hZ (W 23 rfl) (W 3 rfl) (by decide) (by decide)) q812a q812c (g := (mkF m 116 #[.val (.long st), .second, .val (.long c0), .second, .val (.long c1), .second, .val (.long c2), .second, .val (.long hgh), .second, iv fl, .val (.long (65536 : Int64)), .second, .val (.long l0), .second, .val (.long l1), .second, .val (.long l2), .second, iv (1 : Int32), rv b799, .unset, .unset, .unset, .unset, .unset, .unset, .unset, .unset, .unset, .unset, .unset, .unset, .unset, .unset, .unset, .unset, .unset, .unset] [(.long hgh), (.ref b799)])) rfl (by rw [hml]; rfl) (Steps.refl _) (argsL := [(.long hgh)]) (rest := []) (lenOf pd168 rfl) rfl (by show 2 * 0 + _ ≤ _; exact Nat.le_of_eq rfl) (hb hby at_116) (fun _ _ => ⟨rfl, rfl, (by decide : 4 + 0 ≤ _), (by decide : 54 + 0 ≤ _)⟩)
  dsimp only [Pt.U, Pt.locs, Pt.cells, Pt.slots] at X812 l812 y812 z812 st812 hQ812
  subst l812 y812 z812
  obtain ⟨rfl, Nq812, eh812⟩ := hQ812
  have N812 := Fr.app N807 Nq812
  have go814 : own_S p e below ST T812 (mkF m 119 #[.val (.long st), .second, .val (.long c0), .second, .val (.long c1), .second, .val (.long c2), .second, .val (.long hgh), .second, iv fl, .val (.long (65536 : Int64)), .second, .val (.long l0), .second, .val (.long l1), .second, .val (.long l2), .second, iv (1 : Int32), rv b799, .unset, .unset, .unset, .unset, .unset, .unset, .unset, .unset, .unset, .unset, .unset, .unset, .unset, .unset, .unset, .unset, .unset, .unset] [(.long (if (0 : Int32) < lcmpW c0 hgh then st else (st + l0)))]) := fun tt kt => go811 tt (st812.trans kt)
  obtain ⟨got, hgot⟩ : ∃ z : Int64, z = (if (0 : Int32) < lcmpW c0 hgh then st else (st + l0)) := ⟨_, rfl⟩
  rw [← hgot] at go814
  have go815 : own_S p e below ST T812 (mkF m 183 #[.val (.long st), .second, .val (.long c0), .second, .val (.long c1), .second, .val (.long c2), .second, .val (.long hgh), .second, iv fl, .val (.long (65536 : Int64)), .second, .val (.long l0), .second, .val (.long l1), .second, .val (.long l2), .second, iv (1 : Int32), rv b799, .val (.long got), .second, .val (.long st), .second, .val (.long (st + l0)), .second, .val (.long ((st + l0) + l1)), .second, .val (.long (st + l0)), .second, .val (.long st), .second, .unset, .unset, .unset, .unset, .unset, .unset] [(.int (lcmpW l0 (65536 : Int64)))]) := fun tt kt => go814 tt (by
      refine XS.lstore X812.here hx rfl (hb hby at_119) rfl (l' := #[.val (.long st), .second, .val (.long c0), .second, .val (.long c1), .second, .val (.long c2), .second, .val (.long hgh), .second, iv fl, .val (.long (65536 : Int64)), .second, .val (.long l0), .second, .val (.long l1), .second, .val (.long l2), .second, iv (1 : Int32), rv b799, .val (.long got), .second, .unset, .unset, .unset, .unset, .unset, .unset, .unset, .unset, .unset, .unset, .unset, .unset, .unset, .unset, .unset, .unset]) rfl ?_
      refine XS.lloadN X812.here hx rfl (hb hby at_121) rfl ?_
      refine XS.lstore X812.here hx rfl (hb hby at_122) rfl (l' := #[.val (.long st), .second, .val (.long c0), .second, .val (.long c1), .second, .val (.long c2), .second, .val (.long hgh), .second, iv fl, .val (.long (65536 : Int64)), .second, .val (.long l0), .second, .val (.long l1), .second, .val (.long l2), .second, iv (1 : Int32), rv b799, .val (.long got), .second, .val (.long st), .second, .unset, .unset, .unset, .unset, .unset, .unset, .unset, .unset, .unset, .unset, .unset, .unset, .unset, .unset]) rfl ?_
      refine XS.lload X812.here hx rfl (hb hby at_124) rfl ?_
      refine XS.lload X812.here hx rfl (hb hby at_126) rfl ?_
      refine XS.ladd X812.here hx rfl (hb hby at_128) rfl ?_
      show Steps p.tables e below (T812.setTop (mkF m 129 #[.val (.long st), .second, .val (.long c0), .second, .val (.long c1), .second, .val (.long c2), .second, .val (.long hgh), .second, iv fl, .val (.long (65536 : Int64)), .second, .val (.long l0), .second, .val (.long l1), .second, .val (.long l2), .second, iv (1 : Int32), rv b799, .val (.long got), .second, .val (.long st), .second, .unset, .unset, .unset, .unset, .unset, .unset, .unset, .unset, .unset, .unset, .unset, .unset, .unset, .unset] [(.long (st + l0))])) _
      refine XS.lstore X812.here hx rfl (hb hby at_129) rfl (l' := #[.val (.long st), .second, .val (.long c0), .second, .val (.long c1), .second, .val (.long c2), .second, .val (.long hgh), .second, iv fl, .val (.long (65536 : Int64)), .second, .val (.long l0), .second, .val (.long l1), .second, .val (.long l2), .second, iv (1 : Int32), rv b799, .val (.long got), .second, .val (.long st), .second, .val (.long (st + l0)), .second, .unset, .unset, .unset, .unset, .unset, .unset, .unset, .unset, .unset, .unset, .unset, .unset]) rfl ?_
      refine XS.lload X812.here hx rfl (hb hby at_131) rfl ?_
      refine XS.lload X812.here hx rfl (hb hby at_133) rfl ?_
      refine XS.ladd X812.here hx rfl (hb hby at_135) rfl ?_
      refine XS.lstore X812.here hx rfl (hb hby at_136) rfl (l' := #[.val (.long st), .second, .val (.long c0), .second, .val (.long c1), .second, .val (.long c2), .second, .val (.long hgh), .second, iv fl, .val (.long (65536 : Int64)), .second, .val (.long l0), .second, .val (.long l1), .second, .val (.long l2), .second, iv (1 : Int32), rv b799, .val (.long got), .second, .val (.long st), .second, .val (.long (st + l0)), .second, .val (.long ((st + l0) + l1)), .second, .unset, .unset, .unset, .unset, .unset, .unset, .unset, .unset, .unset, .unset]) rfl ?_
      refine XS.lloadN X812.here hx rfl (hb hby at_138) rfl ?_
      show Steps p.tables e below (T812.setTop (mkF m 139 #[.val (.long st), .second, .val (.long c0), .second, .val (.long c1), .second, .val (.long c2), .second, .val (.long hgh), .second, iv fl, .val (.long (65536 : Int64)), .second, .val (.long l0), .second, .val (.long l1), .second, .val (.long l2), .second, iv (1 : Int32), rv b799, .val (.long got), .second, .val (.long st), .second, .val (.long (st + l0)), .second, .val (.long ((st + l0) + l1)), .second, .unset, .unset, .unset, .unset, .unset, .unset, .unset, .unset, .unset, .unset] [(.long st)])) _
      refine XS.lstore X812.here hx rfl (hb hby at_139) rfl (l' := #[.val (.long st), .second, .val (.long c0), .second, .val (.long c1), .second, .val (.long c2), .second, .val (.long hgh), .second, iv fl, .val (.long (65536 : Int64)), .second, .val (.long l0), .second, .val (.long l1), .second, .val (.long l2), .second, iv (1 : Int32), rv b799, .val (.long got), .second, .val (.long st), .second, .val (.long (st + l0)), .second, .val (.long ((st + l0) + l1)), .second, .val (.long st), .second, .unset, .unset, .unset, .unset, .unset, .unset, .unset, .unset]) rfl ?_
      refine XS.iload X812.here hx rfl (hb hby at_141) rfl ?_
      refine XS.iconst X812.here hx rfl (hb hby at_143) ?_
      refine XS.icmpNo X812.here hx rfl (hb hby at_144) rfl (flt (by decide : ¬ ((1 : Int32) < (1 : Int32)))).1 ?_
      refine XS.lload X812.here hx rfl (hb hby at_147) rfl ?_
      refine XS.lstore X812.here hx rfl (hb hby at_149) rfl (l' := #[.val (.long st), .second, .val (.long c0), .second, .val (.long c1), .second, .val (.long c2), .second, .val (.long hgh), .second, iv fl, .val (.long (65536 : Int64)), .second, .val (.long l0), .second, .val (.long l1), .second, .val (.long l2), .second, iv (1 : Int32), rv b799, .val (.long got), .second, .val (.long st), .second, .val (.long (st + l0)), .second, .val (.long ((st + l0) + l1)), .second, .val (.long (st + l0)), .second, .unset, .unset, .unset, .unset, .unset, .unset, .unset, .unset]) rfl ?_
      show Steps p.tables e below (T812.setTop (mkF m 151 #[.val (.long st), .second, .val (.long c0), .second, .val (.long c1), .second, .val (.long c2), .second, .val (.long hgh), .second, iv fl, .val (.long (65536 : Int64)), .second, .val (.long l0), .second, .val (.long l1), .second, .val (.long l2), .second, iv (1 : Int32), rv b799, .val (.long got), .second, .val (.long st), .second, .val (.long (st + l0)), .second, .val (.long ((st + l0) + l1)), .second, .val (.long (st + l0)), .second, .unset, .unset, .unset, .unset, .unset, .unset, .unset, .unset] [])) _
      refine XS.iload X812.here hx rfl (hb hby at_151) rfl ?_
      refine XS.iconst X812.here hx rfl (hb hby at_153) ?_
      refine XS.icmpYes X812.here hx rfl (pc0 := 154) (pc' := 161) rfl (hb hby at_154) rfl (tlt (by decide : (1 : Int32) < (2 : Int32))).1 (by decide) (by decide) ?_
      refine XS.iload X812.here hx rfl (hb hby at_161) rfl ?_
      refine XS.iconst X812.here hx rfl (hb hby at_163) ?_
      refine XS.icmpYes X812.here hx rfl (pc0 := 164) (pc' := 174) rfl (hb hby at_164) rfl (tlt (by decide : (1 : Int32) < (3 : Int32))).1 (by decide) (by decide) ?_
      show Steps p.tables e below (T812.setTop (mkF m 174 #[.val (.long st), .second, .val (.long c0), .second, .val (.long c1), .second, .val (.long c2), .second, .val (.long hgh), .second, iv fl, .val (.long (65536 : Int64)), .second, .val (.long l0), .second, .val (.long l1), .second, .val (.long l2), .second, iv (1 : Int32), rv b799, .val (.long got), .second, .val (.long st), .second, .val (.long (st + l0)), .second, .val (.long ((st + l0) + l1)), .second, .val (.long (st + l0)), .second, .unset, .unset, .unset, .unset, .unset, .unset, .unset, .unset] [])) _
      refine XS.lload X812.here hx rfl (hb hby at_174) rfl ?_
      refine XS.lstore X812.here hx rfl (hb hby at_176) rfl (l' := #[.val (.long st), .second, .val (.long c0), .second, .val (.long c1), .second, .val (.long c2), .second, .val (.long hgh), .second, iv fl, .val (.long (65536 : Int64)), .second, .val (.long l0), .second, .val (.long l1), .second, .val (.long l2), .second, iv (1 : Int32), rv b799, .val (.long got), .second, .val (.long st), .second, .val (.long (st + l0)), .second, .val (.long ((st + l0) + l1)), .second, .val (.long (st + l0)), .second, .val (.long st), .second, .unset, .unset, .unset, .unset, .unset, .unset]) rfl ?_
      refine XS.lload X812.here hx rfl (hb hby at_178) rfl ?_
      refine XS.lload X812.here hx rfl (hb hby at_180) rfl ?_
      refine XS.lcmp X812.here hx rfl (hb hby at_182) rfl ?_
      exact kt)
  obtain ⟨ss1, hss1, sg816⟩ : ∃ (ss1 : Int64), ss1 = (if (lcmpW l0 (65536 : Int64)) = (0 : Int32) then (st + l0) else st) ∧ ∀ tt, Steps p.tables e below (T812.setTop (mkF m 193 #[.val (.long st), .second, .val (.long c0), .second, .val (.long c1), .second, .val (.long c2), .second, .val (.long hgh), .second, iv fl, .val (.long (65536 : Int64)), .second, .val (.long l0), .second, .val (.long l1), .second, .val (.long l2), .second, iv (1 : Int32), rv b799, .val (.long got), .second, .val (.long st), .second, .val (.long (st + l0)), .second, .val (.long ((st + l0) + l1)), .second, .val (.long (st + l0)), .second, .val (.long st), .second, .unset, .unset, .unset, .unset, .unset, .unset] [(.long ss1)])) tt → Steps p.tables e below (T812.setTop (mkF m 183 #[.val (.long st), .second, .val (.long c0), .second, .val (.long c1), .second, .val (.long c2), .second, .val (.long hgh), .second, iv fl, .val (.long (65536 : Int64)), .second, .val (.long l0), .second, .val (.long l1), .second, .val (.long l2), .second, iv (1 : Int32), rv b799, .val (.long got), .second, .val (.long st), .second, .val (.long (st + l0)), .second, .val (.long ((st + l0) + l1)), .second, .val (.long (st + l0)), .second, .val (.long st), .second, .unset, .unset, .unset, .unset, .unset, .unset] [(.int (lcmpW l0 (65536 : Int64)))])) tt := by
    by_cases hd183_0 : (lcmpW l0 (65536 : Int64)) = (0 : Int32)
    · refine ⟨_, (if_pos hd183_0).symm, fun tt kt => ?_⟩
      show Steps p.tables e below (T812.setTop (mkF m 183 #[.val (.long st), .second, .val (.long c0), .second, .val (.long c1), .second, .val (.long c2), .second, .val (.long hgh), .second, iv fl, .val (.long (65536 : Int64)), .second, .val (.long l0), .second, .val (.long l1), .second, .val (.long l2), .second, iv (1 : Int32), rv b799, .val (.long got), .second, .val (.long st), .second, .val (.long (st + l0)), .second, .val (.long ((st + l0) + l1)), .second, .val (.long (st + l0)), .second, .val (.long st), .second, .unset, .unset, .unset, .unset, .unset, .unset] [(.int (lcmpW l0 (65536 : Int64)))])) _
      refine XS.ifNo X812.here hx rfl (hb hby at_183) rfl ((if0 _ _).trans (teq hd183_0).2) ?_
      refine XS.lload X812.here hx rfl (hb hby at_186) rfl ?_
      refine XS.goto X812.here hx rfl (pc0 := 188) (pc' := 193) rfl (hb hby at_188) (by decide) (by decide) ?_
      exact kt
    · refine ⟨_, (if_neg hd183_0).symm, fun tt kt => ?_⟩
      show Steps p.tables e below (T812.setTop (mkF m 183 #[.val (.long st), .second, .val (.long c0), .second, .val (.long c1), .second, .val (.long c2), .second, .val (.long hgh), .second, iv fl, .val (.long (65536 : Int64)), .second, .val (.long l0), .second, .val (.long l1), .second, .val (.long l2), .second, iv (1 : Int32), rv b799, .val (.long got), .second, .val (.long st), .second, .val (.long (st + l0)), .second, .val (.long ((st + l0) + l1)), .second, .val (.long (st + l0)), .second, .val (.long st), .second, .unset, .unset, .unset, .unset, .unset, .unset] [(.int (lcmpW l0 (65536 : Int64)))])) _
      refine XS.ifYes X812.here hx rfl (pc0 := 183) (pc' := 191) rfl (hb hby at_183) rfl ((if0 _ _).trans (feq hd183_0).2) (by decide) (by decide) ?_
      refine XS.lload X812.here hx rfl (hb hby at_191) rfl ?_
      exact kt
  have go817 : own_S p e below ST T812 (mkF m 193 #[.val (.long st), .second, .val (.long c0), .second, .val (.long c1), .second, .val (.long c2), .second, .val (.long hgh), .second, iv fl, .val (.long (65536 : Int64)), .second, .val (.long l0), .second, .val (.long l1), .second, .val (.long l2), .second, iv (1 : Int32), rv b799, .val (.long got), .second, .val (.long st), .second, .val (.long (st + l0)), .second, .val (.long ((st + l0) + l1)), .second, .val (.long (st + l0)), .second, .val (.long st), .second, .unset, .unset, .unset, .unset, .unset, .unset] [(.long ss1)]) := fun tt kt => go815 tt (sg816 _ kt)
  have go818 : own_S p e below ST T812 (mkF m 200 #[.val (.long st), .second, .val (.long c0), .second, .val (.long c1), .second, .val (.long c2), .second, .val (.long hgh), .second, iv fl, .val (.long (65536 : Int64)), .second, .val (.long l0), .second, .val (.long l1), .second, .val (.long l2), .second, iv (1 : Int32), rv b799, .val (.long got), .second, .val (.long st), .second, .val (.long (st + l0)), .second, .val (.long ((st + l0) + l1)), .second, .val (.long (st + l0)), .second, .val (.long st), .second, .val (.long ss1), .second, .unset, .unset, .unset, .unset] [(.int (lcmpW l1 (65536 : Int64)))]) := fun tt kt => go817 tt (by
      refine XS.lstore X812.here hx rfl (hb hby at_193) rfl (l' := #[.val (.long st), .second, .val (.long c0), .second, .val (.long c1), .second, .val (.long c2), .second, .val (.long hgh), .second, iv fl, .val (.long (65536 : Int64)), .second, .val (.long l0), .second, .val (.long l1), .second, .val (.long l2), .second, iv (1 : Int32), rv b799, .val (.long got), .second, .val (.long st), .second, .val (.long (st + l0)), .second, .val (.long ((st + l0) + l1)), .second, .val (.long (st + l0)), .second, .val (.long st), .second, .val (.long ss1), .second, .unset, .unset, .unset, .unset]) rfl ?_
      refine XS.lload X812.here hx rfl (hb hby at_195) rfl ?_
      refine XS.lload X812.here hx rfl (hb hby at_197) rfl ?_
      refine XS.lcmp X812.here hx rfl (hb hby at_199) rfl ?_
      exact kt)
  obtain ⟨ss2, hss2, sg819⟩ : ∃ (ss2 : Int64), ss2 = (if (lcmpW l1 (65536 : Int64)) = (0 : Int32) then ((st + l0) + l1) else ss1) ∧ ∀ tt, Steps p.tables e below (T812.setTop (mkF m 210 #[.val (.long st), .second, .val (.long c0), .second, .val (.long c1), .second, .val (.long c2), .second, .val (.long hgh), .second, iv fl, .val (.long (65536 : Int64)), .second, .val (.long l0), .second, .val (.long l1), .second, .val (.long l2), .second, iv (1 : Int32), rv b799, .val (.long got), .second, .val (.long st), .second, .val (.long (st + l0)), .second, .val (.long ((st + l0) + l1)), .second, .val (.long (st + l0)), .second, .val (.long st), .second, .val (.long ss1), .second, .unset, .unset, .unset, .unset] [(.long ss2)])) tt → Steps p.tables e below (T812.setTop (mkF m 200 #[.val (.long st), .second, .val (.long c0), .second, .val (.long c1), .second, .val (.long c2), .second, .val (.long hgh), .second, iv fl, .val (.long (65536 : Int64)), .second, .val (.long l0), .second, .val (.long l1), .second, .val (.long l2), .second, iv (1 : Int32), rv b799, .val (.long got), .second, .val (.long st), .second, .val (.long (st + l0)), .second, .val (.long ((st + l0) + l1)), .second, .val (.long (st + l0)), .second, .val (.long st), .second, .val (.long ss1), .second, .unset, .unset, .unset, .unset] [(.int (lcmpW l1 (65536 : Int64)))])) tt := by
    by_cases hd200_0 : (lcmpW l1 (65536 : Int64)) = (0 : Int32)
    · refine ⟨_, (if_pos hd200_0).symm, fun tt kt => ?_⟩
      show Steps p.tables e below (T812.setTop (mkF m 200 #[.val (.long st), .second, .val (.long c0), .second, .val (.long c1), .second, .val (.long c2), .second, .val (.long hgh), .second, iv fl, .val (.long (65536 : Int64)), .second, .val (.long l0), .second, .val (.long l1), .second, .val (.long l2), .second, iv (1 : Int32), rv b799, .val (.long got), .second, .val (.long st), .second, .val (.long (st + l0)), .second, .val (.long ((st + l0) + l1)), .second, .val (.long (st + l0)), .second, .val (.long st), .second, .val (.long ss1), .second, .unset, .unset, .unset, .unset] [(.int (lcmpW l1 (65536 : Int64)))])) _
      refine XS.ifNo X812.here hx rfl (hb hby at_200) rfl ((if0 _ _).trans (teq hd200_0).2) ?_
      refine XS.lload X812.here hx rfl (hb hby at_203) rfl ?_
      refine XS.goto X812.here hx rfl (pc0 := 205) (pc' := 210) rfl (hb hby at_205) (by decide) (by decide) ?_
      exact kt
    · refine ⟨_, (if_neg hd200_0).symm, fun tt kt => ?_⟩
      show Steps p.tables e below (T812.setTop (mkF m 200 #[.val (.long st), .second, .val (.long c0), .second, .val (.long c1), .second, .val (.long c2), .second, .val (.long hgh), .second, iv fl, .val (.long (65536 : Int64)), .second, .val (.long l0), .second, .val (.long l1), .second, .val (.long l2), .second, iv (1 : Int32), rv b799, .val (.long got), .second, .val (.long st), .second, .val (.long (st + l0)), .second, .val (.long ((st + l0) + l1)), .second, .val (.long (st + l0)), .second, .val (.long st), .second, .val (.long ss1), .second, .unset, .unset, .unset, .unset] [(.int (lcmpW l1 (65536 : Int64)))])) _
      refine XS.ifYes X812.here hx rfl (pc0 := 200) (pc' := 208) rfl (hb hby at_200) rfl ((if0 _ _).trans (feq hd200_0).2) (by decide) (by decide) ?_
      refine XS.lload X812.here hx rfl (hb hby at_208) rfl ?_
      exact kt
  have go820 : own_S p e below ST T812 (mkF m 210 #[.val (.long st), .second, .val (.long c0), .second, .val (.long c1), .second, .val (.long c2), .second, .val (.long hgh), .second, iv fl, .val (.long (65536 : Int64)), .second, .val (.long l0), .second, .val (.long l1), .second, .val (.long l2), .second, iv (1 : Int32), rv b799, .val (.long got), .second, .val (.long st), .second, .val (.long (st + l0)), .second, .val (.long ((st + l0) + l1)), .second, .val (.long (st + l0)), .second, .val (.long st), .second, .val (.long ss1), .second, .unset, .unset, .unset, .unset] [(.long ss2)]) := fun tt kt => go818 tt (sg819 _ kt)
  have go821 : own_S p e below ST T812 (mkF m 222 #[.val (.long st), .second, .val (.long c0), .second, .val (.long c1), .second, .val (.long c2), .second, .val (.long hgh), .second, iv fl, .val (.long (65536 : Int64)), .second, .val (.long l0), .second, .val (.long l1), .second, .val (.long l2), .second, iv (1 : Int32), rv b799, .val (.long got), .second, .val (.long st), .second, .val (.long (st + l0)), .second, .val (.long ((st + l0) + l1)), .second, .val (.long (st + l0)), .second, .val (.long st), .second, .val (.long ss1), .second, .val (.long ss2), .second, .unset, .unset] [(.int (lcmpW c0 hgh))]) := fun tt kt => go820 tt (by
      refine XS.lstore X812.here hx rfl (hb hby at_210) rfl (l' := #[.val (.long st), .second, .val (.long c0), .second, .val (.long c1), .second, .val (.long c2), .second, .val (.long hgh), .second, iv fl, .val (.long (65536 : Int64)), .second, .val (.long l0), .second, .val (.long l1), .second, .val (.long l2), .second, iv (1 : Int32), rv b799, .val (.long got), .second, .val (.long st), .second, .val (.long (st + l0)), .second, .val (.long ((st + l0) + l1)), .second, .val (.long (st + l0)), .second, .val (.long st), .second, .val (.long ss1), .second, .val (.long ss2), .second, .unset, .unset]) rfl ?_
      refine XS.iload X812.here hx rfl (hb hby at_212) rfl ?_
      refine XS.iconst X812.here hx rfl (hb hby at_214) ?_
      refine XS.icmpNo X812.here hx rfl (hb hby at_215) rfl (flt (by decide : ¬ ((1 : Int32) < (1 : Int32)))).1 ?_
      refine XS.lloadN X812.here hx rfl (hb hby at_218) rfl ?_
      refine XS.lload X812.here hx rfl (hb hby at_219) rfl ?_
      show Steps p.tables e below (T812.setTop (mkF m 221 #[.val (.long st), .second, .val (.long c0), .second, .val (.long c1), .second, .val (.long c2), .second, .val (.long hgh), .second, iv fl, .val (.long (65536 : Int64)), .second, .val (.long l0), .second, .val (.long l1), .second, .val (.long l2), .second, iv (1 : Int32), rv b799, .val (.long got), .second, .val (.long st), .second, .val (.long (st + l0)), .second, .val (.long ((st + l0) + l1)), .second, .val (.long (st + l0)), .second, .val (.long st), .second, .val (.long ss1), .second, .val (.long ss2), .second, .unset, .unset] [(.long hgh), (.long c0)])) _
      refine XS.lcmp X812.here hx rfl (hb hby at_221) rfl ?_
      exact kt)
  obtain ⟨ex, hex, sg822⟩ : ∃ (ex : Int64), ex = (if (0 : Int32) < (lcmpW c0 hgh) then st else (st + l0)) ∧ ∀ tt, Steps p.tables e below (T812.setTop (mkF m 278 #[.val (.long st), .second, .val (.long c0), .second, .val (.long c1), .second, .val (.long c2), .second, .val (.long hgh), .second, iv fl, .val (.long (65536 : Int64)), .second, .val (.long l0), .second, .val (.long l1), .second, .val (.long l2), .second, iv (1 : Int32), rv b799, .val (.long got), .second, .val (.long st), .second, .val (.long (st + l0)), .second, .val (.long ((st + l0) + l1)), .second, .val (.long (st + l0)), .second, .val (.long st), .second, .val (.long ss1), .second, .val (.long ss2), .second, .val (.long ex), .second] [])) tt → Steps p.tables e below (T812.setTop (mkF m 222 #[.val (.long st), .second, .val (.long c0), .second, .val (.long c1), .second, .val (.long c2), .second, .val (.long hgh), .second, iv fl, .val (.long (65536 : Int64)), .second, .val (.long l0), .second, .val (.long l1), .second, .val (.long l2), .second, iv (1 : Int32), rv b799, .val (.long got), .second, .val (.long st), .second, .val (.long (st + l0)), .second, .val (.long ((st + l0) + l1)), .second, .val (.long (st + l0)), .second, .val (.long st), .second, .val (.long ss1), .second, .val (.long ss2), .second, .unset, .unset] [(.int (lcmpW c0 hgh))])) tt := by
    by_cases hd222_0 : (0 : Int32) < (lcmpW c0 hgh)
    · refine ⟨_, (if_pos hd222_0).symm, fun tt kt => ?_⟩
      show Steps p.tables e below (T812.setTop (mkF m 222 #[.val (.long st), .second, .val (.long c0), .second, .val (.long c1), .second, .val (.long c2), .second, .val (.long hgh), .second, iv fl, .val (.long (65536 : Int64)), .second, .val (.long l0), .second, .val (.long l1), .second, .val (.long l2), .second, iv (1 : Int32), rv b799, .val (.long got), .second, .val (.long st), .second, .val (.long (st + l0)), .second, .val (.long ((st + l0) + l1)), .second, .val (.long (st + l0)), .second, .val (.long st), .second, .val (.long ss1), .second, .val (.long ss2), .second, .unset, .unset] [(.int (lcmpW c0 hgh))])) _
      refine XS.ifNo X812.here hx rfl (hb hby at_222) rfl ((if0 _ _).trans (tlt hd222_0).2.2.2) ?_
      refine XS.lload X812.here hx rfl (hb hby at_225) rfl ?_
      refine XS.lstore X812.here hx rfl (hb hby at_227) rfl (l' := #[.val (.long st), .second, .val (.long c0), .second, .val (.long c1), .second, .val (.long c2), .second, .val (.long hgh), .second, iv fl, .val (.long (65536 : Int64)), .second, .val (.long l0), .second, .val (.long l1), .second, .val (.long l2), .second, iv (1 : Int32), rv b799, .val (.long got), .second, .val (.long st), .second, .val (.long (st + l0)), .second, .val (.long ((st + l0) + l1)), .second, .val (.long (st + l0)), .second, .val (.long st), .second, .val (.long ss1), .second, .val (.long ss2), .second, .val (.long st), .second]) rfl ?_
      refine XS.goto X812.here hx rfl (pc0 := 229) (pc' := 278) rfl (hb hby at_229) (by decide) (by decide) ?_
      exact kt
    · refine ⟨_, (if_neg hd222_0).symm, fun tt kt => ?_⟩
      show Steps p.tables e below (T812.setTop (mkF m 222 #[.val (.long st), .second, .val (.long c0), .second, .val (.long c1), .second, .val (.long c2), .second, .val (.long hgh), .second, iv fl, .val (.long (65536 : Int64)), .second, .val (.long l0), .second, .val (.long l1), .second, .val (.long l2), .second, iv (1 : Int32), rv b799, .val (.long got), .second, .val (.long st), .second, .val (.long (st + l0)), .second, .val (.long ((st + l0) + l1)), .second, .val (.long (st + l0)), .second, .val (.long st), .second, .val (.long ss1), .second, .val (.long ss2), .second, .unset, .unset] [(.int (lcmpW c0 hgh))])) _
      refine XS.ifYes X812.here hx rfl (pc0 := 222) (pc' := 232) rfl (hb hby at_222) rfl ((if0 _ _).trans (flt hd222_0).2.2.2) (by decide) (by decide) ?_
      refine XS.iload X812.here hx rfl (hb hby at_232) rfl ?_
      refine XS.iconst X812.here hx rfl (hb hby at_234) ?_
      refine XS.icmpYes X812.here hx rfl (pc0 := 235) (pc' := 253) rfl (hb hby at_235) rfl (tlt (by decide : (1 : Int32) < (2 : Int32))).1 (by decide) (by decide) ?_
      refine XS.iload X812.here hx rfl (hb hby at_253) rfl ?_
      refine XS.iconst X812.here hx rfl (hb hby at_255) ?_
      show Steps p.tables e below (T812.setTop (mkF m 256 #[.val (.long st), .second, .val (.long c0), .second, .val (.long c1), .second, .val (.long c2), .second, .val (.long hgh), .second, iv fl, .val (.long (65536 : Int64)), .second, .val (.long l0), .second, .val (.long l1), .second, .val (.long l2), .second, iv (1 : Int32), rv b799, .val (.long got), .second, .val (.long st), .second, .val (.long (st + l0)), .second, .val (.long ((st + l0) + l1)), .second, .val (.long (st + l0)), .second, .val (.long st), .second, .val (.long ss1), .second, .val (.long ss2), .second, .unset, .unset] [(.int (3 : Int32)), (.int (1 : Int32))])) _
      refine XS.icmpYes X812.here hx rfl (pc0 := 256) (pc' := 274) rfl (hb hby at_256) rfl (tlt (by decide : (1 : Int32) < (3 : Int32))).1 (by decide) (by decide) ?_
      refine XS.lload X812.here hx rfl (hb hby at_274) rfl ?_
      refine XS.lstore X812.here hx rfl (hb hby at_276) rfl (l' := #[.val (.long st), .second, .val (.long c0), .second, .val (.long c1), .second, .val (.long c2), .second, .val (.long hgh), .second, iv fl, .val (.long (65536 : Int64)), .second, .val (.long l0), .second, .val (.long l1), .second, .val (.long l2), .second, iv (1 : Int32), rv b799, .val (.long got), .second, .val (.long st), .second, .val (.long (st + l0)), .second, .val (.long ((st + l0) + l1)), .second, .val (.long (st + l0)), .second, .val (.long st), .second, .val (.long ss1), .second, .val (.long ss2), .second, .val (.long (st + l0)), .second]) rfl ?_
      exact kt
  have go823 : own_S p e below ST T812 (mkF m 278 #[.val (.long st), .second, .val (.long c0), .second, .val (.long c1), .second, .val (.long c2), .second, .val (.long hgh), .second, iv fl, .val (.long (65536 : Int64)), .second, .val (.long l0), .second, .val (.long l1), .second, .val (.long l2), .second, iv (1 : Int32), rv b799, .val (.long got), .second, .val (.long st), .second, .val (.long (st + l0)), .second, .val (.long ((st + l0) + l1)), .second, .val (.long (st + l0)), .second, .val (.long st), .second, .val (.long ss1), .second, .val (.long ss2), .second, .val (.long ex), .second] []) := fun tt kt => go821 tt (sg822 _ kt)
  have go824 : own_S p e below ST T812 (mkF m 283 #[.val (.long st), .second, .val (.long c0), .second, .val (.long c1), .second, .val (.long c2), .second, .val (.long hgh), .second, iv fl, .val (.long (65536 : Int64)), .second, .val (.long l0), .second, .val (.long l1), .second, .val (.long l2), .second, iv (1 : Int32), rv b799, .val (.long got), .second, .val (.long st), .second, .val (.long (st + l0)), .second, .val (.long ((st + l0) + l1)), .second, .val (.long (st + l0)), .second, .val (.long st), .second, .val (.long ss1), .second, .val (.long ss2), .second, .val (.long ex), .second] [(.int (lcmpW got ex))]) := fun tt kt => go823 tt (by
      refine XS.lload X812.here hx rfl (hb hby at_278) rfl ?_
      refine XS.lload X812.here hx rfl (hb hby at_280) rfl ?_
      refine XS.lcmp X812.here hx rfl (hb hby at_282) rfl ?_
      exact kt)
  have hfin : (lcmpW got ex) = (0 : Int32) := by
    rw [lw_eq, hgot, hex]
    all_goals (try simp only [own_gt])
    all_goals (by_cases y0 : (0 : Int32) < lcmpW c0 hgh <;> simp [y0])
  have go825 : own_S p e below ST T812 (mkF m 291 #[.val (.long st), .second, .val (.long c0), .second, .val (.long c1), .second, .val (.long c2), .second, .val (.long hgh), .second, iv fl, .val (.long (65536 : Int64)), .second, .val (.long l0), .second, .val (.long l1), .second, .val (.long l2), .second, iv (1 : Int32), rv b799, .val (.long got), .second, .val (.long st), .second, .val (.long (st + l0)), .second, .val (.long ((st + l0) + l1)), .second, .val (.long (st + l0)), .second, .val (.long st), .second, .val (.long ss1), .second, .val (.long ss2), .second, .val (.long ex), .second] [(.int (1 : Int32))]) := fun tt kt => go824 tt (by
      refine XS.ifNo X812.here hx rfl (hb hby at_283) rfl ((if0 _ _).trans (teq hfin).2) ?_
      refine XS.iconst X812.here hx rfl (hb hby at_286) ?_
      refine XS.goto X812.here hx rfl (pc0 := 287) (pc' := 291) rfl (hb hby at_287) (by decide) (by decide) ?_
      exact kt)
  obtain ⟨fs, hr, hrun, hended, hW, hsame⟩ := X812.leave (v := some (.int (1 : Int32))) (fun h => by rw [Bd.returns] at h; cases h) (hlocks := by first | exact BodyLoose.notSynchronized Bd | exact Body.notSynchronized Bd)
  refine ⟨_, _, pre0 _ (go825 _ ?_), hrun, hended, _, _, rfl, ?_, ⟨_, rfl⟩, hW, hsame.mono (by decide) (by decide)⟩
  · exact retN X812 hx (t := .boolean) Bd.returns (by simp) (hb hby at_291) hr
  · show Q0n1 Z st c0 c1 c2 hgh fl h0 n0 _ T812.heap _
    rw [eh812]
    exact ⟨rfl, N812⟩
theorem ef0n2a (m : MethodId) (x0 : Int64) (x1 : Int64) (x2 : Int64) (x3 : Int64) (x4 : Int64) (x5 : Int32) : entryFrame m #[(.long x0), (.long x1), (.long x2), (.long x3), (.long x4), (.int x5)] maxLocals = mkF m 0 #[.val (.long x0), .second, .val (.long x1), .second, .val (.long x2), .second, .val (.long x3), .second, .val (.long x4), .second, .val (.int x5), .unset, .unset, .unset, .unset, .unset, .unset, .unset, .unset, .unset, .unset, .unset, .unset, .unset, .unset, .unset, .unset, .unset, .unset, .unset, .unset, .unset, .unset, .unset, .unset, .unset, .unset, .unset, .unset] [] := by first | (simp [entryFrame, mkF, argsToLocals, Value.category, maxLocals]; done) | rfl
def Q0n2a (Z : State) (st : Int64) (c0 : Int64) (c1 : Int64) (c2 : Int64) (hgh : Int64) (fl : Int32) (h0 : Heap) (n0 : Nat) (v : Option Value) (h : Heap) (L : List Loc) : Prop := v = some (.int 1) ∧ Fr n0 L
set_option maxRecDepth 65536 in
set_option maxHeartbeats 40000000 in
theorem rm0n2a (l : Launch) (Z : State) (a0 : Array Value) (hw : ∀ d ∈ tables_1, d.before a0 Z = true) (ws : List Jvm.Cond) (st : Int64) (c0 : Int64) (c1 : Int64) (c2 : Int64) (hgh : Int64) (fl : Int32) (h0 : Heap) (n0 : Nat) (Z0 : n0 ≤ h0.size) (hk : ((fl.toUInt32 >>> ((3 : Int32) &&& 31).toUInt32).toInt32) &&& 3 = 2) (hb0 : (fl &&& (1 : Int32) = (0 : Int32))) :
    MetFree l x (head1 (Jvm.Cond.code x code maxLocals ret :: ws) room_1) (fun aa UU => aa = #[(.long st), (.long c0), (.long c1), (.long c2), (.long hgh), (.int fl)] ∧ Z.Warmed39 UU.vm ∧ UU.heap = h0) (fun _ _ _ _ _ => True) (fun _ UU oo UU' => ∃ vv LL, oo = .returned vv ∧ Q0n2a Z st c0 c1 c2 hgh fl h0 n0 vv UU'.heap LL ∧ FrameEnd UU oo UU' LL room_1.cells room_1.slots) := by
  have W : ∀ {d : Jvm.Cond} (i : Nat), tables_1[i]? = some d → d.before a0 Z = true := fun i h => hw _ (List.mem_of_getElem? h)
  refine MetFree.of_bodySF (plainFor_of_name pn166) hisR ?_
  intro p e s m args below meth c s₁ Bd hml0 hP hK
  obtain ⟨rfl, hZ, hh⟩ := hP
  have hx := Bd.exec
  have hby := Bd.bytes
  have hml : c.maxLocals = 39 := hml0
  have hown : s.vm.findClass "com/example/altocommit/altocommit/store/LogIndexAllAtOrBelowUpToPinLaw" = some m.cls := findClass_of_methodNamed Bd.named
  have hnm := (name_of_methodNamed Bd.named Bd.method).1
  have X0 : Stand p l e room_1 s m #[(.long st), (.long c0), (.long c1), (.long c2), (.long hgh), (.int fl)] below meth c s₁ [] 0 0 := Stand.of_body Bd
  have e0 : s₁.heap = h0 := by rw [← hh, Bd.state]; rfl
  have N0 := Fr.nil n0
  have pre0 : ∀ tt, Steps p.tables e below (s₁.setTop (mkF m 0 #[.val (.long st), .second, .val (.long c0), .second, .val (.long c1), .second, .val (.long c2), .second, .val (.long hgh), .second, iv fl, .unset, .unset, .unset, .unset, .unset, .unset, .unset, .unset, .unset, .unset, .unset, .unset, .unset, .unset, .unset, .unset, .unset, .unset, .unset, .unset, .unset, .unset, .unset, .unset, .unset, .unset, .unset, .unset] [])) tt → Steps p.tables e below (s₁.setTop (entryFrame m #[(.long st), (.long c0), (.long c1), (.long c2), (.long hgh), (.int fl)] maxLocals)) tt := fun tt kt => castTop (ef0n2a m st c0 c1 c2 hgh fl) kt
  obtain ⟨ST, hST⟩ : ∃ z : State, z = s₁.setTop (mkF m 0 #[.val (.long st), .second, .val (.long c0), .second, .val (.long c1), .second, .val (.long c2), .second, .val (.long hgh), .second, iv fl, .unset, .unset, .unset, .unset, .unset, .unset, .unset, .unset, .unset, .unset, .unset, .unset, .unset, .unset, .unset, .unset, .unset, .unset, .unset, .unset, .unset, .unset, .unset, .unset, .unset, .unset, .unset, .unset] []) := ⟨_, rfl⟩
  rw [← hST] at pre0
  have go826 : own_S p e below ST s₁ (mkF m 18 #[.val (.long st), .second, .val (.long c0), .second, .val (.long c1), .second, .val (.long c2), .second, .val (.long hgh), .second, iv fl, .val (.long (65536 : Int64)), .second, .unset, .unset, .unset, .unset, .unset, .unset, .unset, .unset, .unset, .unset, .unset, .unset, .unset, .unset, .unset, .unset, .unset, .unset, .unset, .unset, .unset, .unset, .unset, .unset, .unset, .unset] [(.long (1 : Int64))]) := fun tt kt => (by
      rw [hST]
      show Steps p.tables e below (s₁.setTop (mkF m 0 #[.val (.long st), .second, .val (.long c0), .second, .val (.long c1), .second, .val (.long c2), .second, .val (.long hgh), .second, iv fl, .unset, .unset, .unset, .unset, .unset, .unset, .unset, .unset, .unset, .unset, .unset, .unset, .unset, .unset, .unset, .unset, .unset, .unset, .unset, .unset, .unset, .unset, .unset, .unset, .unset, .unset, .unset, .unset] [])) _
      refine X0.ldc2Long hx hown (mvT hZ (W 0 rfl)) (g := (mkF m 0 #[.val (.long st), .second, .val (.long c0), .second, .val (.long c1), .second, .val (.long c2), .second, .val (.long hgh), .second, iv fl, .unset, .unset, .unset, .unset, .unset, .unset, .unset, .unset, .unset, .unset, .unset, .unset, .unset, .unset, .unset, .unset, .unset, .unset, .unset, .unset, .unset, .unset, .unset, .unset, .unset, .unset, .unset, .unset] [])) rfl (hb hby at_0) _ ?_
      refine XS.lstore X0.here hx rfl (hb hby at_3) rfl (l' := #[.val (.long st), .second, .val (.long c0), .second, .val (.long c1), .second, .val (.long c2), .second, .val (.long hgh), .second, iv fl, .val (.long (65536 : Int64)), .second, .unset, .unset, .unset, .unset, .unset, .unset, .unset, .unset, .unset, .unset, .unset, .unset, .unset, .unset, .unset, .unset, .unset, .unset, .unset, .unset, .unset, .unset, .unset, .unset, .unset, .unset]) rfl ?_
      refine XS.iload X0.here hx rfl (hb hby at_5) rfl ?_
      refine XS.iconst X0.here hx rfl (hb hby at_7) ?_
      refine XS.iand X0.here hx rfl (hb hby at_8) rfl ?_
      refine XS.ifYes X0.here hx rfl (pc0 := 9) (pc' := 17) rfl (hb hby at_9) rfl ((if0 _ _).trans (teq hb0).1) (by decide) (by decide) ?_
      show Steps p.tables e below (s₁.setTop (mkF m 17 #[.val (.long st), .second, .val (.long c0), .second, .val (.long c1), .second, .val (.long c2), .second, .val (.long hgh), .second, iv fl, .val (.long (65536 : Int64)), .second, .unset, .unset, .unset, .unset, .unset, .unset, .unset, .unset, .unset, .unset, .unset, .unset, .unset, .unset, .unset, .unset, .unset, .unset, .unset, .unset, .unset, .unset, .unset, .unset, .unset, .unset] [])) _
      refine XS.lconst X0.here hx rfl (hb hby at_17) ?_
      exact kt)
  have go827 : own_S p e below ST s₁ (mkF m 24 #[.val (.long st), .second, .val (.long c0), .second, .val (.long c1), .second, .val (.long c2), .second, .val (.long hgh), .second, iv fl, .val (.long (65536 : Int64)), .second, .val (.long (1 : Int64)), .second, .unset, .unset, .unset, .unset, .unset, .unset, .unset, .unset, .unset, .unset, .unset, .unset, .unset, .unset, .unset, .unset, .unset, .unset, .unset, .unset, .unset, .unset, .unset, .unset] [(.int (fl &&& (2 : Int32)))]) := fun tt kt => go826 tt (by
      refine XS.lstore X0.here hx rfl (hb hby at_18) rfl (l' := #[.val (.long st), .second, .val (.long c0), .second, .val (.long c1), .second, .val (.long c2), .second, .val (.long hgh), .second, iv fl, .val (.long (65536 : Int64)), .second, .val (.long (1 : Int64)), .second, .unset, .unset, .unset, .unset, .unset, .unset, .unset, .unset, .unset, .unset, .unset, .unset, .unset, .unset, .unset, .unset, .unset, .unset, .unset, .unset, .unset, .unset, .unset, .unset]) rfl ?_
      refine XS.iload X0.here hx rfl (hb hby at_20) rfl ?_
      refine XS.iconst X0.here hx rfl (hb hby at_22) ?_
      refine XS.iand X0.here hx rfl (hb hby at_23) rfl ?_
      exact kt)
  obtain ⟨l1, hl1, sg828⟩ : ∃ (l1 : Int64), l1 = (if (fl &&& (2 : Int32)) = (0 : Int32) then (1 : Int64) else (65536 : Int64)) ∧ ∀ tt, Steps p.tables e below (s₁.setTop (mkF m 33 #[.val (.long st), .second, .val (.long c0), .second, .val (.long c1), .second, .val (.long c2), .second, .val (.long hgh), .second, iv fl, .val (.long (65536 : Int64)), .second, .val (.long (1 : Int64)), .second, .unset, .unset, .unset, .unset, .unset, .unset, .unset, .unset, .unset, .unset, .unset, .unset, .unset, .unset, .unset, .unset, .unset, .unset, .unset, .unset, .unset, .unset, .unset, .unset] [(.long l1)])) tt → Steps p.tables e below (s₁.setTop (mkF m 24 #[.val (.long st), .second, .val (.long c0), .second, .val (.long c1), .second, .val (.long c2), .second, .val (.long hgh), .second, iv fl, .val (.long (65536 : Int64)), .second, .val (.long (1 : Int64)), .second, .unset, .unset, .unset, .unset, .unset, .unset, .unset, .unset, .unset, .unset, .unset, .unset, .unset, .unset, .unset, .unset, .unset, .unset, .unset, .unset, .unset, .unset, .unset, .unset] [(.int (fl &&& (2 : Int32)))])) tt := by
    by_cases hd24_0 : (fl &&& (2 : Int32)) = (0 : Int32)
    · refine ⟨_, (if_pos hd24_0).symm, fun tt kt => ?_⟩
      show Steps p.tables e below (s₁.setTop (mkF m 24 #[.val (.long st), .second, .val (.long c0), .second, .val (.long c1), .second, .val (.long c2), .second, .val (.long hgh), .second, iv fl, .val (.long (65536 : Int64)), .second, .val (.long (1 : Int64)), .second, .unset, .unset, .unset, .unset, .unset, .unset, .unset, .unset, .unset, .unset, .unset, .unset, .unset, .unset, .unset, .unset, .unset, .unset, .unset, .unset, .unset, .unset, .unset, .unset] [(.int (fl &&& (2 : Int32)))])) _
      refine XS.ifYes X0.here hx rfl (pc0 := 24) (pc' := 32) rfl (hb hby at_24) rfl ((if0 _ _).trans (teq hd24_0).1) (by decide) (by decide) ?_
      refine XS.lconst X0.here hx rfl (hb hby at_32) ?_
      exact kt
    · refine ⟨_, (if_neg hd24_0).symm, fun tt kt => ?_⟩
      show Steps p.tables e below (s₁.setTop (mkF m 24 #[.val (.long st), .second, .val (.long c0), .second, .val (.long c1), .second, .val (.long c2), .second, .val (.long hgh), .second, iv fl, .val (.long (65536 : Int64)), .second, .val (.long (1 : Int64)), .second, .unset, .unset, .unset, .unset, .unset, .unset, .unset, .unset, .unset, .unset, .unset, .unset, .unset, .unset, .unset, .unset, .unset, .unset, .unset, .unset, .unset, .unset, .unset, .unset] [(.int (fl &&& (2 : Int32)))])) _
      refine XS.ifNo X0.here hx rfl (hb hby at_24) rfl ((if0 _ _).trans (feq hd24_0).1) ?_
      refine XS.lload X0.here hx rfl (hb hby at_27) rfl ?_
      refine XS.goto X0.here hx rfl (pc0 := 29) (pc' := 33) rfl (hb hby at_29) (by decide) (by decide) ?_
      exact kt
  have go829 : own_S p e below ST s₁ (mkF m 33 #[.val (.long st), .second, .val (.long c0), .second, .val (.long c1), .second, .val (.long c2), .second, .val (.long hgh), .second, iv fl, .val (.long (65536 : Int64)), .second, .val (.long (1 : Int64)), .second, .unset, .unset, .unset, .unset, .unset, .unset, .unset, .unset, .unset, .unset, .unset, .unset, .unset, .unset, .unset, .unset, .unset, .unset, .unset, .unset, .unset, .unset, .unset, .unset] [(.long l1)]) := fun tt kt => go827 tt (sg828 _ kt)
  have go830 : own_S p e below ST s₁ (mkF m 39 #[.val (.long st), .second, .val (.long c0), .second, .val (.long c1), .second, .val (.long c2), .second, .val (.long hgh), .second, iv fl, .val (.long (65536 : Int64)), .second, .val (.long (1 : Int64)), .second, .val (.long l1), .second, .unset, .unset, .unset, .unset, .unset, .unset, .unset, .unset, .unset, .unset, .unset, .unset, .unset, .unset, .unset, .unset, .unset, .unset, .unset, .unset, .unset, .unset] [(.int (fl &&& (4 : Int32)))]) := fun tt kt => go829 tt (by
      refine XS.lstore X0.here hx rfl (hb hby at_33) rfl (l' := #[.val (.long st), .second, .val (.long c0), .second, .val (.long c1), .second, .val (.long c2), .second, .val (.long hgh), .second, iv fl, .val (.long (65536 : Int64)), .second, .val (.long (1 : Int64)), .second, .val (.long l1), .second, .unset, .unset, .unset, .unset, .unset, .unset, .unset, .unset, .unset, .unset, .unset, .unset, .unset, .unset, .unset, .unset, .unset, .unset, .unset, .unset, .unset, .unset]) rfl ?_
      refine XS.iload X0.here hx rfl (hb hby at_35) rfl ?_
      refine XS.iconst X0.here hx rfl (hb hby at_37) ?_
      refine XS.iand X0.here hx rfl (hb hby at_38) rfl ?_
      exact kt)
  obtain ⟨l2, hl2, sg831⟩ : ∃ (l2 : Int64), l2 = (if (fl &&& (4 : Int32)) = (0 : Int32) then (1 : Int64) else (65536 : Int64)) ∧ ∀ tt, Steps p.tables e below (s₁.setTop (mkF m 48 #[.val (.long st), .second, .val (.long c0), .second, .val (.long c1), .second, .val (.long c2), .second, .val (.long hgh), .second, iv fl, .val (.long (65536 : Int64)), .second, .val (.long (1 : Int64)), .second, .val (.long l1), .second, .unset, .unset, .unset, .unset, .unset, .unset, .unset, .unset, .unset, .unset, .unset, .unset, .unset, .unset, .unset, .unset, .unset, .unset, .unset, .unset, .unset, .unset] [(.long l2)])) tt → Steps p.tables e below (s₁.setTop (mkF m 39 #[.val (.long st), .second, .val (.long c0), .second, .val (.long c1), .second, .val (.long c2), .second, .val (.long hgh), .second, iv fl, .val (.long (65536 : Int64)), .second, .val (.long (1 : Int64)), .second, .val (.long l1), .second, .unset, .unset, .unset, .unset, .unset, .unset, .unset, .unset, .unset, .unset, .unset, .unset, .unset, .unset, .unset, .unset, .unset, .unset, .unset, .unset, .unset, .unset] [(.int (fl &&& (4 : Int32)))])) tt := by
    by_cases hd39_0 : (fl &&& (4 : Int32)) = (0 : Int32)
    · refine ⟨_, (if_pos hd39_0).symm, fun tt kt => ?_⟩
      show Steps p.tables e below (s₁.setTop (mkF m 39 #[.val (.long st), .second, .val (.long c0), .second, .val (.long c1), .second, .val (.long c2), .second, .val (.long hgh), .second, iv fl, .val (.long (65536 : Int64)), .second, .val (.long (1 : Int64)), .second, .val (.long l1), .second, .unset, .unset, .unset, .unset, .unset, .unset, .unset, .unset, .unset, .unset, .unset, .unset, .unset, .unset, .unset, .unset, .unset, .unset, .unset, .unset, .unset, .unset] [(.int (fl &&& (4 : Int32)))])) _
      refine XS.ifYes X0.here hx rfl (pc0 := 39) (pc' := 47) rfl (hb hby at_39) rfl ((if0 _ _).trans (teq hd39_0).1) (by decide) (by decide) ?_
      refine XS.lconst X0.here hx rfl (hb hby at_47) ?_
      exact kt
    · refine ⟨_, (if_neg hd39_0).symm, fun tt kt => ?_⟩
      show Steps p.tables e below (s₁.setTop (mkF m 39 #[.val (.long st), .second, .val (.long c0), .second, .val (.long c1), .second, .val (.long c2), .second, .val (.long hgh), .second, iv fl, .val (.long (65536 : Int64)), .second, .val (.long (1 : Int64)), .second, .val (.long l1), .second, .unset, .unset, .unset, .unset, .unset, .unset, .unset, .unset, .unset, .unset, .unset, .unset, .unset, .unset, .unset, .unset, .unset, .unset, .unset, .unset, .unset, .unset] [(.int (fl &&& (4 : Int32)))])) _
      refine XS.ifNo X0.here hx rfl (hb hby at_39) rfl ((if0 _ _).trans (feq hd39_0).1) ?_
      refine XS.lload X0.here hx rfl (hb hby at_42) rfl ?_
      refine XS.goto X0.here hx rfl (pc0 := 44) (pc' := 48) rfl (hb hby at_44) (by decide) (by decide) ?_
      exact kt
  have go832 : own_S p e below ST s₁ (mkF m 48 #[.val (.long st), .second, .val (.long c0), .second, .val (.long c1), .second, .val (.long c2), .second, .val (.long hgh), .second, iv fl, .val (.long (65536 : Int64)), .second, .val (.long (1 : Int64)), .second, .val (.long l1), .second, .unset, .unset, .unset, .unset, .unset, .unset, .unset, .unset, .unset, .unset, .unset, .unset, .unset, .unset, .unset, .unset, .unset, .unset, .unset, .unset, .unset, .unset] [(.long l2)]) := fun tt kt => go830 tt (sg831 _ kt)
  have go833 : own_S p e below ST s₁ (mkF m 58 #[.val (.long st), .second, .val (.long c0), .second, .val (.long c1), .second, .val (.long c2), .second, .val (.long hgh), .second, iv fl, .val (.long (65536 : Int64)), .second, .val (.long (1 : Int64)), .second, .val (.long l1), .second, .val (.long l2), .second, iv (((fl.toUInt32 >>> ((3 : Int32) &&& 31).toUInt32).toInt32) &&& (3 : Int32)), .unset, .unset, .unset, .unset, .unset, .unset, .unset, .unset, .unset, .unset, .unset, .unset, .unset, .unset, .unset, .unset, .unset, .unset, .unset] []) := fun tt kt => go832 tt (by
      refine XS.lstore X0.here hx rfl (hb hby at_48) rfl (l' := #[.val (.long st), .second, .val (.long c0), .second, .val (.long c1), .second, .val (.long c2), .second, .val (.long hgh), .second, iv fl, .val (.long (65536 : Int64)), .second, .val (.long (1 : Int64)), .second, .val (.long l1), .second, .val (.long l2), .second, .unset, .unset, .unset, .unset, .unset, .unset, .unset, .unset, .unset, .unset, .unset, .unset, .unset, .unset, .unset, .unset, .unset, .unset, .unset, .unset]) rfl ?_
      refine XS.iload X0.here hx rfl (hb hby at_50) rfl ?_
      refine XS.iconst X0.here hx rfl (hb hby at_52) ?_
      refine XS.iushr X0.here hx rfl (hb hby at_53) rfl ?_
      refine XS.iconst X0.here hx rfl (hb hby at_54) ?_
      refine XS.iand X0.here hx rfl (hb hby at_55) rfl ?_
      show Steps p.tables e below (s₁.setTop (mkF m 56 #[.val (.long st), .second, .val (.long c0), .second, .val (.long c1), .second, .val (.long c2), .second, .val (.long hgh), .second, iv fl, .val (.long (65536 : Int64)), .second, .val (.long (1 : Int64)), .second, .val (.long l1), .second, .val (.long l2), .second, .unset, .unset, .unset, .unset, .unset, .unset, .unset, .unset, .unset, .unset, .unset, .unset, .unset, .unset, .unset, .unset, .unset, .unset, .unset, .unset] [(.int (((fl.toUInt32 >>> ((3 : Int32) &&& 31).toUInt32).toInt32) &&& (3 : Int32)))])) _
      refine XS.istore X0.here hx rfl (hb hby at_56) rfl (l' := #[.val (.long st), .second, .val (.long c0), .second, .val (.long c1), .second, .val (.long c2), .second, .val (.long hgh), .second, iv fl, .val (.long (65536 : Int64)), .second, .val (.long (1 : Int64)), .second, .val (.long l1), .second, .val (.long l2), .second, iv (((fl.toUInt32 >>> ((3 : Int32) &&& 31).toUInt32).toInt32) &&& (3 : Int32)), .unset, .unset, .unset, .unset, .unset, .unset, .unset, .unset, .unset, .unset, .unset, .unset, .unset, .unset, .unset, .unset, .unset, .unset, .unset]) rfl ?_
      exact kt)
  rw [hk] at go833
  obtain ⟨b834, g834⟩ : ∃ z, z = h0.size := ⟨_, rfl⟩
  obtain ⟨T834, h834, X834, e834, E834, A834, D834, -, st834⟩ := newO X0 hx hZ hown (W 1 rfl) (W 2 rfl) (W 3 rfl) e0 (g := (mkF m 58 #[.val (.long st), .second, .val (.long c0), .second, .val (.long c1), .second, .val (.long c2), .second, .val (.long hgh), .second, iv fl, .val (.long (65536 : Int64)), .second, .val (.long (1 : Int64)), .second, .val (.long l1), .second, .val (.long l2), .second, iv (2 : Int32), .unset, .unset, .unset, .unset, .unset, .unset, .unset, .unset, .unset, .unset, .unset, .unset, .unset, .unset, .unset, .unset, .unset, .unset, .unset] [])) rfl (hb hby at_58) (by decide) (by decide)
  rw [← g834] at A834 D834 st834
  have ge_b834 : n0 ≤ b834 := Nat.le_trans Z0 (Nat.le_of_eq g834.symm)
  have F834_starts : Fld Z h834 b834 "com/example/altocommit/altocommit/store/LogIndex" "starts" "[J" .null := D834 (Or.inl (W 12 rfl)) (ty := (.array .long)) (by decide)
  have F834_lows : Fld Z h834 b834 "com/example/altocommit/altocommit/store/LogIndex" "lows" "[J" .null := D834 (Or.inl (W 14 rfl)) (ty := (.array .long)) (by decide)
  have F834_reaches : Fld Z h834 b834 "com/example/altocommit/altocommit/store/LogIndex" "reaches" "[J" .null := D834 (Or.inl (W 16 rfl)) (ty := (.array .long)) (by decide)
  have F834_end : Fld Z h834 b834 "com/example/altocommit/altocommit/store/LogIndex" "end" "J" (.long (0 : Int64)) := D834 (Or.inl (W 18 rfl)) (ty := .long) (by decide)
  have F834_count : Fld Z h834 b834 "com/example/altocommit/altocommit/store/LogIndex" "count" "I" (.int (0 : Int32)) := D834 (Or.inl (W 25 rfl)) (ty := .int) (by decide)
  have F834_highest : Fld Z h834 b834 "com/example/altocommit/altocommit/store/LogIndex" "highest" "J" (.long (0 : Int64)) := D834 (Or.inl (W 32 rfl)) (ty := .long) (by decide)
  have go835 : own_S p e below ST T834 (mkF m 61 #[.val (.long st), .second, .val (.long c0), .second, .val (.long c1), .second, .val (.long c2), .second, .val (.long hgh), .second, iv fl, .val (.long (65536 : Int64)), .second, .val (.long (1 : Int64)), .second, .val (.long l1), .second, .val (.long l2), .second, iv (2 : Int32), .unset, .unset, .unset, .unset, .unset, .unset, .unset, .unset, .unset, .unset, .unset, .unset, .unset, .unset, .unset, .unset, .unset, .unset, .unset] [(.ref b834)]) := fun tt kt => go833 tt (st834 _ kt)
  have go836 : own_S p e below ST T834 (mkF m 63 #[.val (.long st), .second, .val (.long c0), .second, .val (.long c1), .second, .val (.long c2), .second, .val (.long hgh), .second, iv fl, .val (.long (65536 : Int64)), .second, .val (.long (1 : Int64)), .second, .val (.long l1), .second, .val (.long l2), .second, iv (2 : Int32), .unset, .unset, .unset, .unset, .unset, .unset, .unset, .unset, .unset, .unset, .unset, .unset, .unset, .unset, .unset, .unset, .unset, .unset, .unset] [(.long st), (.ref b834), (.ref b834)]) := fun tt kt => go835 tt (by
      refine XS.dup X834.here hx rfl (hb hby at_61) rfl rfl ?_
      refine XS.lloadN X834.here hx rfl (hb hby at_62) rfl ?_
      exact kt)
  have zs838 := (Nat.le_trans Z0 E834.1)
  obtain ⟨_, _, ⟨T837, L837, k837, n837⟩, -, X837, ⟨Lc837, hQ837, l837, y837, z837⟩, st837⟩ := X834.specialBack hx (y := (⟨"com/example/altocommit/altocommit/store/LogIndex", "<init>", "(J)V"⟩ : MethodName)) rfl hown (mvT hZ (W 4 rfl)) (mvT hZ (W 5 rfl)) (mvT hZ (W 6 rfl)) (by decide) (backOf (W := 1) (rm1 l Z a0 hw [] b834 st h834 n0 zs838 F834_starts F834_lows F834_reaches F834_end F834_count F834_highest A834 ge_b834) hZ (W 6 rfl) (W 3 rfl) (by decide) (by decide)) (g := (mkF m 63 #[.val (.long st), .second, .val (.long c0), .second, .val (.long c1), .second, .val (.long c2), .second, .val (.long hgh), .second, iv fl, .val (.long (65536 : Int64)), .second, .val (.long (1 : Int64)), .second, .val (.long l1), .second, .val (.long l2), .second, iv (2 : Int32), .unset, .unset, .unset, .unset, .unset, .unset, .unset, .unset, .unset, .unset, .unset, .unset, .unset, .unset, .unset, .unset, .unset, .unset, .unset] [(.long st), (.ref b834), (.ref b834)])) rfl (by rw [hml]; rfl) (Steps.refl _) (a := b834) (argsL := [(.long st)]) (rest := [(.ref b834)]) (lenOf pd167 rfl) rfl (by show 2 * 0 + _ ≤ _; exact Nat.le_of_eq rfl) (hb hby at_63) (fun _ _ => ⟨rfl, e834, (by decide : 1 + 3 ≤ _), (by decide : 6 + 48 ≤ _)⟩)
  dsimp only [Pt.U, Pt.locs, Pt.cells, Pt.slots] at X837 l837 y837 z837 st837 hQ837
  subst l837 y837 z837
  obtain ⟨bs, bl, br, ks, kl, kr, rfl, Nq837, K837, LIi837⟩ := hQ837
  have N837 := Fr.app N0 Nq837
  have go839 : own_S p e below ST T837 (mkF m 66 #[.val (.long st), .second, .val (.long c0), .second, .val (.long c1), .second, .val (.long c2), .second, .val (.long hgh), .second, iv fl, .val (.long (65536 : Int64)), .second, .val (.long (1 : Int64)), .second, .val (.long l1), .second, .val (.long l2), .second, iv (2 : Int32), .unset, .unset, .unset, .unset, .unset, .unset, .unset, .unset, .unset, .unset, .unset, .unset, .unset, .unset, .unset, .unset, .unset, .unset, .unset] [(.ref b834)]) := fun tt kt => go836 tt (st837.trans kt)
  have go840 : own_S p e below ST T837 (mkF m 79 #[.val (.long st), .second, .val (.long c0), .second, .val (.long c1), .second, .val (.long c2), .second, .val (.long hgh), .second, iv fl, .val (.long (65536 : Int64)), .second, .val (.long (1 : Int64)), .second, .val (.long l1), .second, .val (.long l2), .second, iv (2 : Int32), rv b834, .unset, .unset, .unset, .unset, .unset, .unset, .unset, .unset, .unset, .unset, .unset, .unset, .unset, .unset, .unset, .unset, .unset, .unset] [(.long (1 : Int64)), (.long c0), (.ref b834)]) := fun tt kt => go839 tt (by
      refine XS.astore X837.here hx rfl (hb hby at_66) rfl rfl (l' := #[.val (.long st), .second, .val (.long c0), .second, .val (.long c1), .second, .val (.long c2), .second, .val (.long hgh), .second, iv fl, .val (.long (65536 : Int64)), .second, .val (.long (1 : Int64)), .second, .val (.long l1), .second, .val (.long l2), .second, iv (2 : Int32), rv b834, .unset, .unset, .unset, .unset, .unset, .unset, .unset, .unset, .unset, .unset, .unset, .unset, .unset, .unset, .unset, .unset, .unset, .unset]) rfl ?_
      refine XS.iload X837.here hx rfl (hb hby at_68) rfl ?_
      refine XS.iconst X837.here hx rfl (hb hby at_70) ?_
      refine XS.icmpNo X837.here hx rfl (hb hby at_71) rfl (flt (by decide : ¬ ((2 : Int32) < (1 : Int32)))).1 ?_
      refine XS.aload X837.here hx rfl (hb hby at_74) rfl rfl ?_
      refine XS.lloadN X837.here hx rfl (hb hby at_76) rfl ?_
      show Steps p.tables e below (T837.setTop (mkF m 77 #[.val (.long st), .second, .val (.long c0), .second, .val (.long c1), .second, .val (.long c2), .second, .val (.long hgh), .second, iv fl, .val (.long (65536 : Int64)), .second, .val (.long (1 : Int64)), .second, .val (.long l1), .second, .val (.long l2), .second, iv (2 : Int32), rv b834, .unset, .unset, .unset, .unset, .unset, .unset, .unset, .unset, .unset, .unset, .unset, .unset, .unset, .unset, .unset, .unset, .unset, .unset] [(.long c0), (.ref b834)])) _
      refine XS.lload X837.here hx rfl (hb hby at_77) rfl ?_
      exact kt)
  have zs843 := (Nat.le_trans zs838 K837.1)
  have f844 := (A834.keep K837)
  obtain ⟨cq842, kq842, q842a, q842b, q842c⟩ := isOf hZ rfl f844
  obtain ⟨_, _, ⟨T842, L842, k842, n842⟩, -, X842, ⟨Lc842, hQ842, l842, y842, z842⟩, st842⟩ := X837.virtualBack hx (y := (⟨"com/example/altocommit/altocommit/store/LogIndex", "add", "(JJ)V"⟩ : MethodName)) (z := (⟨"com/example/altocommit/altocommit/store/LogIndex", "add", "(JJ)V"⟩ : MethodName)) hown (mvT hZ (W 26 rfl)) (mvT hZ (W 27 rfl)) (notFace_of_selects (args := #[]) (mvT hZ (W 29 rfl))) (mvT hZ (W 29 rfl)) (mvT hZ (W 28 rfl)) (by decide) (backOf (W := 0) (rm4c0 l Z a0 hw [] b834 bs bl br ks kl kr c0 (1 : Int64) st (0 : Int64) T837.heap n0 zs843 LIi837) hZ (W 30 rfl) (W 3 rfl) (by decide) (by decide)) q842a q842c (g := (mkF m 79 #[.val (.long st), .second, .val (.long c0), .second, .val (.long c1), .second, .val (.long c2), .second, .val (.long hgh), .second, iv fl, .val (.long (65536 : Int64)), .second, .val (.long (1 : Int64)), .second, .val (.long l1), .second, .val (.long l2), .second, iv (2 : Int32), rv b834, .unset, .unset, .unset, .unset, .unset, .unset, .unset, .unset, .unset, .unset, .unset, .unset, .unset, .unset, .unset, .unset, .unset, .unset] [(.long (1 : Int64)), (.long c0), (.ref b834)])) rfl (by rw [hml]; rfl) (Steps.refl _) (argsL := [(.long c0), (.long (1 : Int64))]) (rest := []) (lenOf pd169 rfl) rfl (by show 2 * 0 + _ ≤ _; exact Nat.le_of_eq rfl) (hb hby at_79) (fun _ _ => ⟨rfl, rfl, (by decide : 4 + 0 ≤ _), (by decide : 54 + 0 ≤ _)⟩)
  dsimp only [Pt.U, Pt.locs, Pt.cells, Pt.slots] at X842 l842 y842 z842 st842 hQ842
  subst l842 y842 z842
  obtain ⟨lw841, rfl, Nq842, K842, LIi842⟩ := hQ842
  have N842 := Fr.app N837 Nq842
  have go845 : own_S p e below ST T842 (mkF m 82 #[.val (.long st), .second, .val (.long c0), .second, .val (.long c1), .second, .val (.long c2), .second, .val (.long hgh), .second, iv fl, .val (.long (65536 : Int64)), .second, .val (.long (1 : Int64)), .second, .val (.long l1), .second, .val (.long l2), .second, iv (2 : Int32), rv b834, .unset, .unset, .unset, .unset, .unset, .unset, .unset, .unset, .unset, .unset, .unset, .unset, .unset, .unset, .unset, .unset, .unset, .unset] []) := fun tt kt => go840 tt (st842.trans kt)
  have go846 : own_S p e below ST T842 (mkF m 94 #[.val (.long st), .second, .val (.long c0), .second, .val (.long c1), .second, .val (.long c2), .second, .val (.long hgh), .second, iv fl, .val (.long (65536 : Int64)), .second, .val (.long (1 : Int64)), .second, .val (.long l1), .second, .val (.long l2), .second, iv (2 : Int32), rv b834, .unset, .unset, .unset, .unset, .unset, .unset, .unset, .unset, .unset, .unset, .unset, .unset, .unset, .unset, .unset, .unset, .unset, .unset] [(.long l1), (.long c1), (.ref b834)]) := fun tt kt => go845 tt (by
      refine XS.iload X842.here hx rfl (hb hby at_82) rfl ?_
      refine XS.iconst X842.here hx rfl (hb hby at_84) ?_
      refine XS.icmpNo X842.here hx rfl (hb hby at_85) rfl (flt (by decide : ¬ ((2 : Int32) < (2 : Int32)))).1 ?_
      refine XS.aload X842.here hx rfl (hb hby at_88) rfl rfl ?_
      refine XS.lload X842.here hx rfl (hb hby at_90) rfl ?_
      refine XS.lload X842.here hx rfl (hb hby at_92) rfl ?_
      exact kt)
  have hm848 : (lcmpW ((st + (1 : Int64)) - st) (65536 : Int64) < (0 : Int32)) := by rw [own_as]; decide
  have zs850 := (Nat.le_trans zs843 K842.1)
  obtain ⟨cq849, kq849, q849a, q849b, q849c⟩ := isOf hZ rfl LIi842.1
  obtain ⟨_, _, ⟨T849, L849, k849, n849⟩, -, X849, ⟨Lc849, hQ849, l849, y849, z849⟩, st849⟩ := X842.virtualBack hx (y := (⟨"com/example/altocommit/altocommit/store/LogIndex", "add", "(JJ)V"⟩ : MethodName)) (z := (⟨"com/example/altocommit/altocommit/store/LogIndex", "add", "(JJ)V"⟩ : MethodName)) hown (mvT hZ (W 26 rfl)) (mvT hZ (W 27 rfl)) (notFace_of_selects (args := #[]) (mvT hZ (W 29 rfl))) (mvT hZ (W 29 rfl)) (mvT hZ (W 28 rfl)) (by decide) (backOf (W := 0) (rm4c1m l Z a0 hw [] b834 bs bl br ks kl kr c1 l1 (st + (1 : Int64)) (own_maxJ (0 : Int64) c0) st lw841 c0 T842.heap n0 zs850 LIi842 hm848) hZ (W 30 rfl) (W 3 rfl) (by decide) (by decide)) q849a q849c (g := (mkF m 94 #[.val (.long st), .second, .val (.long c0), .second, .val (.long c1), .second, .val (.long c2), .second, .val (.long hgh), .second, iv fl, .val (.long (65536 : Int64)), .second, .val (.long (1 : Int64)), .second, .val (.long l1), .second, .val (.long l2), .second, iv (2 : Int32), rv b834, .unset, .unset, .unset, .unset, .unset, .unset, .unset, .unset, .unset, .unset, .unset, .unset, .unset, .unset, .unset, .unset, .unset, .unset] [(.long l1), (.long c1), (.ref b834)])) rfl (by rw [hml]; rfl) (Steps.refl _) (argsL := [(.long c1), (.long l1)]) (rest := []) (lenOf pd169 rfl) rfl (by show 2 * 0 + _ ≤ _; exact Nat.le_of_eq rfl) (hb hby at_94) (fun _ _ => ⟨rfl, rfl, (by decide : 4 + 0 ≤ _), (by decide : 54 + 0 ≤ _)⟩)
  dsimp only [Pt.U, Pt.locs, Pt.cells, Pt.slots] at X849 l849 y849 z849 st849 hQ849
  subst l849 y849 z849
  obtain ⟨lw847, rfl, Nq849, K849, LIi849⟩ := hQ849
  have N849 := Fr.app N842 Nq849
  have go851 : own_S p e below ST T849 (mkF m 97 #[.val (.long st), .second, .val (.long c0), .second, .val (.long c1), .second, .val (.long c2), .second, .val (.long hgh), .second, iv fl, .val (.long (65536 : Int64)), .second, .val (.long (1 : Int64)), .second, .val (.long l1), .second, .val (.long l2), .second, iv (2 : Int32), rv b834, .unset, .unset, .unset, .unset, .unset, .unset, .unset, .unset, .unset, .unset, .unset, .unset, .unset, .unset, .unset, .unset, .unset, .unset] []) := fun tt kt => go846 tt (st849.trans kt)
  have go852 : own_S p e below ST T849 (mkF m 116 #[.val (.long st), .second, .val (.long c0), .second, .val (.long c1), .second, .val (.long c2), .second, .val (.long hgh), .second, iv fl, .val (.long (65536 : Int64)), .second, .val (.long (1 : Int64)), .second, .val (.long l1), .second, .val (.long l2), .second, iv (2 : Int32), rv b834, .unset, .unset, .unset, .unset, .unset, .unset, .unset, .unset, .unset, .unset, .unset, .unset, .unset, .unset, .unset, .unset, .unset, .unset] [(.long hgh), (.ref b834)]) := fun tt kt => go851 tt (by
      refine XS.iload X849.here hx rfl (hb hby at_97) rfl ?_
      refine XS.iconst X849.here hx rfl (hb hby at_99) ?_
      refine XS.icmpYes X849.here hx rfl (pc0 := 100) (pc' := 112) rfl (hb hby at_100) rfl (tlt (by decide : (2 : Int32) < (3 : Int32))).1 (by decide) (by decide) ?_
      refine XS.aload X849.here hx rfl (hb hby at_112) rfl rfl ?_
      refine XS.lload X849.here hx rfl (hb hby at_114) rfl ?_
      exact kt)
  have zs854 := (Nat.le_trans zs850 K849.1)
  obtain ⟨cq853, kq853, q853a, q853b, q853c⟩ := isOf hZ rfl LIi849.1
  obtain ⟨_, _, ⟨T853, L853, k853, n853⟩, -, X853, ⟨Lc853, hQ853, l853, y853, z853⟩, st853⟩ := X849.virtualBack hx (y := (⟨"com/example/altocommit/altocommit/store/LogIndex", "allAtOrBelowUpTo", "(J)J"⟩ : MethodName)) (z := (⟨"com/example/altocommit/altocommit/store/LogIndex", "allAtOrBelowUpTo", "(J)J"⟩ : MethodName)) hown (mvT hZ (W 19 rfl)) (mvT hZ (W 20 rfl)) (notFace_of_selects (args := #[]) (mvT hZ (W 22 rfl))) (mvT hZ (W 22 rfl)) (mvT hZ (W 21 rfl)) (by decide) (backOf (W := 0) (rm3c1 l Z a0 hw [] b834 bs bl br ks kl kr hgh ((st + (1 : Int64)) + l1) (own_maxJ (own_maxJ (0 : Int64) c0) c1) st (own_minJ lw841 lw847) (0 : Int64) (0 : Int64) (own_maxJ c0 c1) T849.heap n0 zs854 LIi849) hZ (W 23 rfl) (W 3 rfl) (by decide) (by decide)) q853a q853c (g := (mkF m 116 #[.val (.long st), .second, .val (.long c0), .second, .val (.long c1), .second, .val (.long c2), .second, .val (.long hgh), .second, iv fl, .val (.long (65536 : Int64)), .second, .val (.long (1 : Int64)), .second, .val (.long l1), .second, .val (.long l2), .second, iv (2 : Int32), rv b834, .unset, .unset, .unset, .unset, .unset, .unset, .unset, .unset, .unset, .unset, .unset, .unset, .unset, .unset, .unset, .unset, .unset, .unset] [(.long hgh), (.ref b834)])) rfl (by rw [hml]; rfl) (Steps.refl _) (argsL := [(.long hgh)]) (rest := []) (lenOf pd168 rfl) rfl (by show 2 * 0 + _ ≤ _; exact Nat.le_of_eq rfl) (hb hby at_116) (fun _ _ => ⟨rfl, rfl, (by decide : 4 + 0 ≤ _), (by decide : 54 + 0 ≤ _)⟩)
  dsimp only [Pt.U, Pt.locs, Pt.cells, Pt.slots] at X853 l853 y853 z853 st853 hQ853
  subst l853 y853 z853
  obtain ⟨rfl, Nq853, eh853⟩ := hQ853
  have N853 := Fr.app N849 Nq853
  have go855 : own_S p e below ST T853 (mkF m 119 #[.val (.long st), .second, .val (.long c0), .second, .val (.long c1), .second, .val (.long c2), .second, .val (.long hgh), .second, iv fl, .val (.long (65536 : Int64)), .second, .val (.long (1 : Int64)), .second, .val (.long l1), .second, .val (.long l2), .second, iv (2 : Int32), rv b834, .unset, .unset, .unset, .unset, .unset, .unset, .unset, .unset, .unset, .unset, .unset, .unset, .unset, .unset, .unset, .unset, .unset, .unset] [(.long (if (0 : Int32) < lcmpW (own_maxJ c0 c1) hgh then st else ((st + (1 : Int64)) + l1)))]) := fun tt kt => go852 tt (st853.trans kt)
  obtain ⟨got, hgot⟩ : ∃ z : Int64, z = (if (0 : Int32) < lcmpW (own_maxJ c0 c1) hgh then st else ((st + (1 : Int64)) + l1)) := ⟨_, rfl⟩
  rw [← hgot] at go855
  have go856 : own_S p e below ST T853 (mkF m 200 #[.val (.long st), .second, .val (.long c0), .second, .val (.long c1), .second, .val (.long c2), .second, .val (.long hgh), .second, iv fl, .val (.long (65536 : Int64)), .second, .val (.long (1 : Int64)), .second, .val (.long l1), .second, .val (.long l2), .second, iv (2 : Int32), rv b834, .val (.long got), .second, .val (.long st), .second, .val (.long (st + (1 : Int64))), .second, .val (.long ((st + (1 : Int64)) + l1)), .second, .val (.long ((st + (1 : Int64)) + l1)), .second, .val (.long st), .second, .val (.long st), .second, .unset, .unset, .unset, .unset] [(.int (lcmpW l1 (65536 : Int64)))]) := fun tt kt => go855 tt (by
      refine XS.lstore X853.here hx rfl (hb hby at_119) rfl (l' := #[.val (.long st), .second, .val (.long c0), .second, .val (.long c1), .second, .val (.long c2), .second, .val (.long hgh), .second, iv fl, .val (.long (65536 : Int64)), .second, .val (.long (1 : Int64)), .second, .val (.long l1), .second, .val (.long l2), .second, iv (2 : Int32), rv b834, .val (.long got), .second, .unset, .unset, .unset, .unset, .unset, .unset, .unset, .unset, .unset, .unset, .unset, .unset, .unset, .unset, .unset, .unset]) rfl ?_
      refine XS.lloadN X853.here hx rfl (hb hby at_121) rfl ?_
      refine XS.lstore X853.here hx rfl (hb hby at_122) rfl (l' := #[.val (.long st), .second, .val (.long c0), .second, .val (.long c1), .second, .val (.long c2), .second, .val (.long hgh), .second, iv fl, .val (.long (65536 : Int64)), .second, .val (.long (1 : Int64)), .second, .val (.long l1), .second, .val (.long l2), .second, iv (2 : Int32), rv b834, .val (.long got), .second, .val (.long st), .second, .unset, .unset, .unset, .unset, .unset, .unset, .unset, .unset, .unset, .unset, .unset, .unset, .unset, .unset]) rfl ?_
      refine XS.lload X853.here hx rfl (hb hby at_124) rfl ?_
      refine XS.lload X853.here hx rfl (hb hby at_126) rfl ?_
      refine XS.ladd X853.here hx rfl (hb hby at_128) rfl ?_
      show Steps p.tables e below (T853.setTop (mkF m 129 #[.val (.long st), .second, .val (.long c0), .second, .val (.long c1), .second, .val (.long c2), .second, .val (.long hgh), .second, iv fl, .val (.long (65536 : Int64)), .second, .val (.long (1 : Int64)), .second, .val (.long l1), .second, .val (.long l2), .second, iv (2 : Int32), rv b834, .val (.long got), .second, .val (.long st), .second, .unset, .unset, .unset, .unset, .unset, .unset, .unset, .unset, .unset, .unset, .unset, .unset, .unset, .unset] [(.long (st + (1 : Int64)))])) _
      refine XS.lstore X853.here hx rfl (hb hby at_129) rfl (l' := #[.val (.long st), .second, .val (.long c0), .second, .val (.long c1), .second, .val (.long c2), .second, .val (.long hgh), .second, iv fl, .val (.long (65536 : Int64)), .second, .val (.long (1 : Int64)), .second, .val (.long l1), .second, .val (.long l2), .second, iv (2 : Int32), rv b834, .val (.long got), .second, .val (.long st), .second, .val (.long (st + (1 : Int64))), .second, .unset, .unset, .unset, .unset, .unset, .unset, .unset, .unset, .unset, .unset, .unset, .unset]) rfl ?_
      refine XS.lload X853.here hx rfl (hb hby at_131) rfl ?_
      refine XS.lload X853.here hx rfl (hb hby at_133) rfl ?_
      refine XS.ladd X853.here hx rfl (hb hby at_135) rfl ?_
      refine XS.lstore X853.here hx rfl (hb hby at_136) rfl (l' := #[.val (.long st), .second, .val (.long c0), .second, .val (.long c1), .second, .val (.long c2), .second, .val (.long hgh), .second, iv fl, .val (.long (65536 : Int64)), .second, .val (.long (1 : Int64)), .second, .val (.long l1), .second, .val (.long l2), .second, iv (2 : Int32), rv b834, .val (.long got), .second, .val (.long st), .second, .val (.long (st + (1 : Int64))), .second, .val (.long ((st + (1 : Int64)) + l1)), .second, .unset, .unset, .unset, .unset, .unset, .unset, .unset, .unset, .unset, .unset]) rfl ?_
      refine XS.lloadN X853.here hx rfl (hb hby at_138) rfl ?_
      show Steps p.tables e below (T853.setTop (mkF m 139 #[.val (.long st), .second, .val (.long c0), .second, .val (.long c1), .second, .val (.long c2), .second, .val (.long hgh), .second, iv fl, .val (.long (65536 : Int64)), .second, .val (.long (1 : Int64)), .second, .val (.long l1), .second, .val (.long l2), .second, iv (2 : Int32), rv b834, .val (.long got), .second, .val (.long st), .second, .val (.long (st + (1 : Int64))), .second, .val (.long ((st + (1 : Int64)) + l1)), .second, .unset, .unset, .unset, .unset, .unset, .unset, .unset, .unset, .unset, .unset] [(.long st)])) _
      refine XS.lstore X853.here hx rfl (hb hby at_139) rfl (l' := #[.val (.long st), .second, .val (.long c0), .second, .val (.long c1), .second, .val (.long c2), .second, .val (.long hgh), .second, iv fl, .val (.long (65536 : Int64)), .second, .val (.long (1 : Int64)), .second, .val (.long l1), .second, .val (.long l2), .second, iv (2 : Int32), rv b834, .val (.long got), .second, .val (.long st), .second, .val (.long (st + (1 : Int64))), .second, .val (.long ((st + (1 : Int64)) + l1)), .second, .val (.long st), .second, .unset, .unset, .unset, .unset, .unset, .unset, .unset, .unset]) rfl ?_
      refine XS.iload X853.here hx rfl (hb hby at_141) rfl ?_
      refine XS.iconst X853.here hx rfl (hb hby at_143) ?_
      refine XS.icmpNo X853.here hx rfl (hb hby at_144) rfl (flt (by decide : ¬ ((2 : Int32) < (1 : Int32)))).1 ?_
      refine XS.lload X853.here hx rfl (hb hby at_147) rfl ?_
      refine XS.lstore X853.here hx rfl (hb hby at_149) rfl (l' := #[.val (.long st), .second, .val (.long c0), .second, .val (.long c1), .second, .val (.long c2), .second, .val (.long hgh), .second, iv fl, .val (.long (65536 : Int64)), .second, .val (.long (1 : Int64)), .second, .val (.long l1), .second, .val (.long l2), .second, iv (2 : Int32), rv b834, .val (.long got), .second, .val (.long st), .second, .val (.long (st + (1 : Int64))), .second, .val (.long ((st + (1 : Int64)) + l1)), .second, .val (.long (st + (1 : Int64))), .second, .unset, .unset, .unset, .unset, .unset, .unset, .unset, .unset]) rfl ?_
      show Steps p.tables e below (T853.setTop (mkF m 151 #[.val (.long st), .second, .val (.long c0), .second, .val (.long c1), .second, .val (.long c2), .second, .val (.long hgh), .second, iv fl, .val (.long (65536 : Int64)), .second, .val (.long (1 : Int64)), .second, .val (.long l1), .second, .val (.long l2), .second, iv (2 : Int32), rv b834, .val (.long got), .second, .val (.long st), .second, .val (.long (st + (1 : Int64))), .second, .val (.long ((st + (1 : Int64)) + l1)), .second, .val (.long (st + (1 : Int64))), .second, .unset, .unset, .unset, .unset, .unset, .unset, .unset, .unset] [])) _
      refine XS.iload X853.here hx rfl (hb hby at_151) rfl ?_
      refine XS.iconst X853.here hx rfl (hb hby at_153) ?_
      refine XS.icmpNo X853.here hx rfl (hb hby at_154) rfl (flt (by decide : ¬ ((2 : Int32) < (2 : Int32)))).1 ?_
      refine XS.lload X853.here hx rfl (hb hby at_157) rfl ?_
      refine XS.lstore X853.here hx rfl (hb hby at_159) rfl (l' := #[.val (.long st), .second, .val (.long c0), .second, .val (.long c1), .second, .val (.long c2), .second, .val (.long hgh), .second, iv fl, .val (.long (65536 : Int64)), .second, .val (.long (1 : Int64)), .second, .val (.long l1), .second, .val (.long l2), .second, iv (2 : Int32), rv b834, .val (.long got), .second, .val (.long st), .second, .val (.long (st + (1 : Int64))), .second, .val (.long ((st + (1 : Int64)) + l1)), .second, .val (.long ((st + (1 : Int64)) + l1)), .second, .unset, .unset, .unset, .unset, .unset, .unset, .unset, .unset]) rfl ?_
      refine XS.iload X853.here hx rfl (hb hby at_161) rfl ?_
      show Steps p.tables e below (T853.setTop (mkF m 163 #[.val (.long st), .second, .val (.long c0), .second, .val (.long c1), .second, .val (.long c2), .second, .val (.long hgh), .second, iv fl, .val (.long (65536 : Int64)), .second, .val (.long (1 : Int64)), .second, .val (.long l1), .second, .val (.long l2), .second, iv (2 : Int32), rv b834, .val (.long got), .second, .val (.long st), .second, .val (.long (st + (1 : Int64))), .second, .val (.long ((st + (1 : Int64)) + l1)), .second, .val (.long ((st + (1 : Int64)) + l1)), .second, .unset, .unset, .unset, .unset, .unset, .unset, .unset, .unset] [(.int (2 : Int32))])) _
      refine XS.iconst X853.here hx rfl (hb hby at_163) ?_
      refine XS.icmpYes X853.here hx rfl (pc0 := 164) (pc' := 174) rfl (hb hby at_164) rfl (tlt (by decide : (2 : Int32) < (3 : Int32))).1 (by decide) (by decide) ?_
      refine XS.lload X853.here hx rfl (hb hby at_174) rfl ?_
      refine XS.lstore X853.here hx rfl (hb hby at_176) rfl (l' := #[.val (.long st), .second, .val (.long c0), .second, .val (.long c1), .second, .val (.long c2), .second, .val (.long hgh), .second, iv fl, .val (.long (65536 : Int64)), .second, .val (.long (1 : Int64)), .second, .val (.long l1), .second, .val (.long l2), .second, iv (2 : Int32), rv b834, .val (.long got), .second, .val (.long st), .second, .val (.long (st + (1 : Int64))), .second, .val (.long ((st + (1 : Int64)) + l1)), .second, .val (.long ((st + (1 : Int64)) + l1)), .second, .val (.long st), .second, .unset, .unset, .unset, .unset, .unset, .unset]) rfl ?_
      refine XS.lload X853.here hx rfl (hb hby at_178) rfl ?_
      refine XS.lload X853.here hx rfl (hb hby at_180) rfl ?_
      show Steps p.tables e below (T853.setTop (mkF m 182 #[.val (.long st), .second, .val (.long c0), .second, .val (.long c1), .second, .val (.long c2), .second, .val (.long hgh), .second, iv fl, .val (.long (65536 : Int64)), .second, .val (.long (1 : Int64)), .second, .val (.long l1), .second, .val (.long l2), .second, iv (2 : Int32), rv b834, .val (.long got), .second, .val (.long st), .second, .val (.long (st + (1 : Int64))), .second, .val (.long ((st + (1 : Int64)) + l1)), .second, .val (.long ((st + (1 : Int64)) + l1)), .second, .val (.long st), .second, .unset, .unset, .unset, .unset, .unset, .unset] [(.long (65536 : Int64)), (.long (1 : Int64))])) _
      refine XS.lcmp X853.here hx rfl (hb hby at_182) rfl ?_
      refine XS.ifYes X853.here hx rfl (pc0 := 183) (pc' := 191) rfl (hb hby at_183) rfl ((if0 _ _).trans (feq (by decide : ¬ ((lcmpW (1 : Int64) (65536 : Int64)) = (0 : Int32)))).2) (by decide) (by decide) ?_
      refine XS.lload X853.here hx rfl (hb hby at_191) rfl ?_
      refine XS.lstore X853.here hx rfl (hb hby at_193) rfl (l' := #[.val (.long st), .second, .val (.long c0), .second, .val (.long c1), .second, .val (.long c2), .second, .val (.long hgh), .second, iv fl, .val (.long (65536 : Int64)), .second, .val (.long (1 : Int64)), .second, .val (.long l1), .second, .val (.long l2), .second, iv (2 : Int32), rv b834, .val (.long got), .second, .val (.long st), .second, .val (.long (st + (1 : Int64))), .second, .val (.long ((st + (1 : Int64)) + l1)), .second, .val (.long ((st + (1 : Int64)) + l1)), .second, .val (.long st), .second, .val (.long st), .second, .unset, .unset, .unset, .unset]) rfl ?_
      refine XS.lload X853.here hx rfl (hb hby at_195) rfl ?_
      refine XS.lload X853.here hx rfl (hb hby at_197) rfl ?_
      show Steps p.tables e below (T853.setTop (mkF m 199 #[.val (.long st), .second, .val (.long c0), .second, .val (.long c1), .second, .val (.long c2), .second, .val (.long hgh), .second, iv fl, .val (.long (65536 : Int64)), .second, .val (.long (1 : Int64)), .second, .val (.long l1), .second, .val (.long l2), .second, iv (2 : Int32), rv b834, .val (.long got), .second, .val (.long st), .second, .val (.long (st + (1 : Int64))), .second, .val (.long ((st + (1 : Int64)) + l1)), .second, .val (.long ((st + (1 : Int64)) + l1)), .second, .val (.long st), .second, .val (.long st), .second, .unset, .unset, .unset, .unset] [(.long (65536 : Int64)), (.long l1)])) _
      refine XS.lcmp X853.here hx rfl (hb hby at_199) rfl ?_
      exact kt)
  obtain ⟨ss2, hss2, sg857⟩ : ∃ (ss2 : Int64), ss2 = (if (lcmpW l1 (65536 : Int64)) = (0 : Int32) then ((st + (1 : Int64)) + l1) else st) ∧ ∀ tt, Steps p.tables e below (T853.setTop (mkF m 210 #[.val (.long st), .second, .val (.long c0), .second, .val (.long c1), .second, .val (.long c2), .second, .val (.long hgh), .second, iv fl, .val (.long (65536 : Int64)), .second, .val (.long (1 : Int64)), .second, .val (.long l1), .second, .val (.long l2), .second, iv (2 : Int32), rv b834, .val (.long got), .second, .val (.long st), .second, .val (.long (st + (1 : Int64))), .second, .val (.long ((st + (1 : Int64)) + l1)), .second, .val (.long ((st + (1 : Int64)) + l1)), .second, .val (.long st), .second, .val (.long st), .second, .unset, .unset, .unset, .unset] [(.long ss2)])) tt → Steps p.tables e below (T853.setTop (mkF m 200 #[.val (.long st), .second, .val (.long c0), .second, .val (.long c1), .second, .val (.long c2), .second, .val (.long hgh), .second, iv fl, .val (.long (65536 : Int64)), .second, .val (.long (1 : Int64)), .second, .val (.long l1), .second, .val (.long l2), .second, iv (2 : Int32), rv b834, .val (.long got), .second, .val (.long st), .second, .val (.long (st + (1 : Int64))), .second, .val (.long ((st + (1 : Int64)) + l1)), .second, .val (.long ((st + (1 : Int64)) + l1)), .second, .val (.long st), .second, .val (.long st), .second, .unset, .unset, .unset, .unset] [(.int (lcmpW l1 (65536 : Int64)))])) tt := by
    by_cases hd200_0 : (lcmpW l1 (65536 : Int64)) = (0 : Int32)
    · refine ⟨_, (if_pos hd200_0).symm, fun tt kt => ?_⟩
      show Steps p.tables e below (T853.setTop (mkF m 200 #[.val (.long st), .second, .val (.long c0), .second, .val (.long c1), .second, .val (.long c2), .second, .val (.long hgh), .second, iv fl, .val (.long (65536 : Int64)), .second, .val (.long (1 : Int64)), .second, .val (.long l1), .second, .val (.long l2), .second, iv (2 : Int32), rv b834, .val (.long got), .second, .val (.long st), .second, .val (.long (st + (1 : Int64))), .second, .val (.long ((st + (1 : Int64)) + l1)), .second, .val (.long ((st + (1 : Int64)) + l1)), .second, .val (.long st), .second, .val (.long st), .second, .unset, .unset, .unset, .unset] [(.int (lcmpW l1 (65536 : Int64)))])) _
      refine XS.ifNo X853.here hx rfl (hb hby at_200) rfl ((if0 _ _).trans (teq hd200_0).2) ?_
      refine XS.lload X853.here hx rfl (hb hby at_203) rfl ?_
      refine XS.goto X853.here hx rfl (pc0 := 205) (pc' := 210) rfl (hb hby at_205) (by decide) (by decide) ?_
      exact kt
    · refine ⟨_, (if_neg hd200_0).symm, fun tt kt => ?_⟩
      show Steps p.tables e below (T853.setTop (mkF m 200 #[.val (.long st), .second, .val (.long c0), .second, .val (.long c1), .second, .val (.long c2), .second, .val (.long hgh), .second, iv fl, .val (.long (65536 : Int64)), .second, .val (.long (1 : Int64)), .second, .val (.long l1), .second, .val (.long l2), .second, iv (2 : Int32), rv b834, .val (.long got), .second, .val (.long st), .second, .val (.long (st + (1 : Int64))), .second, .val (.long ((st + (1 : Int64)) + l1)), .second, .val (.long ((st + (1 : Int64)) + l1)), .second, .val (.long st), .second, .val (.long st), .second, .unset, .unset, .unset, .unset] [(.int (lcmpW l1 (65536 : Int64)))])) _
      refine XS.ifYes X853.here hx rfl (pc0 := 200) (pc' := 208) rfl (hb hby at_200) rfl ((if0 _ _).trans (feq hd200_0).2) (by decide) (by decide) ?_
      refine XS.lload X853.here hx rfl (hb hby at_208) rfl ?_
      exact kt
  have go858 : own_S p e below ST T853 (mkF m 210 #[.val (.long st), .second, .val (.long c0), .second, .val (.long c1), .second, .val (.long c2), .second, .val (.long hgh), .second, iv fl, .val (.long (65536 : Int64)), .second, .val (.long (1 : Int64)), .second, .val (.long l1), .second, .val (.long l2), .second, iv (2 : Int32), rv b834, .val (.long got), .second, .val (.long st), .second, .val (.long (st + (1 : Int64))), .second, .val (.long ((st + (1 : Int64)) + l1)), .second, .val (.long ((st + (1 : Int64)) + l1)), .second, .val (.long st), .second, .val (.long st), .second, .unset, .unset, .unset, .unset] [(.long ss2)]) := fun tt kt => go856 tt (sg857 _ kt)
  have go859 : own_S p e below ST T853 (mkF m 222 #[.val (.long st), .second, .val (.long c0), .second, .val (.long c1), .second, .val (.long c2), .second, .val (.long hgh), .second, iv fl, .val (.long (65536 : Int64)), .second, .val (.long (1 : Int64)), .second, .val (.long l1), .second, .val (.long l2), .second, iv (2 : Int32), rv b834, .val (.long got), .second, .val (.long st), .second, .val (.long (st + (1 : Int64))), .second, .val (.long ((st + (1 : Int64)) + l1)), .second, .val (.long ((st + (1 : Int64)) + l1)), .second, .val (.long st), .second, .val (.long st), .second, .val (.long ss2), .second, .unset, .unset] [(.int (lcmpW c0 hgh))]) := fun tt kt => go858 tt (by
      refine XS.lstore X853.here hx rfl (hb hby at_210) rfl (l' := #[.val (.long st), .second, .val (.long c0), .second, .val (.long c1), .second, .val (.long c2), .second, .val (.long hgh), .second, iv fl, .val (.long (65536 : Int64)), .second, .val (.long (1 : Int64)), .second, .val (.long l1), .second, .val (.long l2), .second, iv (2 : Int32), rv b834, .val (.long got), .second, .val (.long st), .second, .val (.long (st + (1 : Int64))), .second, .val (.long ((st + (1 : Int64)) + l1)), .second, .val (.long ((st + (1 : Int64)) + l1)), .second, .val (.long st), .second, .val (.long st), .second, .val (.long ss2), .second, .unset, .unset]) rfl ?_
      refine XS.iload X853.here hx rfl (hb hby at_212) rfl ?_
      refine XS.iconst X853.here hx rfl (hb hby at_214) ?_
      refine XS.icmpNo X853.here hx rfl (hb hby at_215) rfl (flt (by decide : ¬ ((2 : Int32) < (1 : Int32)))).1 ?_
      refine XS.lloadN X853.here hx rfl (hb hby at_218) rfl ?_
      refine XS.lload X853.here hx rfl (hb hby at_219) rfl ?_
      show Steps p.tables e below (T853.setTop (mkF m 221 #[.val (.long st), .second, .val (.long c0), .second, .val (.long c1), .second, .val (.long c2), .second, .val (.long hgh), .second, iv fl, .val (.long (65536 : Int64)), .second, .val (.long (1 : Int64)), .second, .val (.long l1), .second, .val (.long l2), .second, iv (2 : Int32), rv b834, .val (.long got), .second, .val (.long st), .second, .val (.long (st + (1 : Int64))), .second, .val (.long ((st + (1 : Int64)) + l1)), .second, .val (.long ((st + (1 : Int64)) + l1)), .second, .val (.long st), .second, .val (.long st), .second, .val (.long ss2), .second, .unset, .unset] [(.long hgh), (.long c0)])) _
      refine XS.lcmp X853.here hx rfl (hb hby at_221) rfl ?_
      exact kt)
  obtain ⟨ex, hex, sg860⟩ : ∃ (ex : Int64), ex = (if (0 : Int32) < (lcmpW c0 hgh) then st else (if (0 : Int32) < (lcmpW c1 hgh) then st else ((st + (1 : Int64)) + l1))) ∧ ∀ tt, Steps p.tables e below (T853.setTop (mkF m 278 #[.val (.long st), .second, .val (.long c0), .second, .val (.long c1), .second, .val (.long c2), .second, .val (.long hgh), .second, iv fl, .val (.long (65536 : Int64)), .second, .val (.long (1 : Int64)), .second, .val (.long l1), .second, .val (.long l2), .second, iv (2 : Int32), rv b834, .val (.long got), .second, .val (.long st), .second, .val (.long (st + (1 : Int64))), .second, .val (.long ((st + (1 : Int64)) + l1)), .second, .val (.long ((st + (1 : Int64)) + l1)), .second, .val (.long st), .second, .val (.long st), .second, .val (.long ss2), .second, .val (.long ex), .second] [])) tt → Steps p.tables e below (T853.setTop (mkF m 222 #[.val (.long st), .second, .val (.long c0), .second, .val (.long c1), .second, .val (.long c2), .second, .val (.long hgh), .second, iv fl, .val (.long (65536 : Int64)), .second, .val (.long (1 : Int64)), .second, .val (.long l1), .second, .val (.long l2), .second, iv (2 : Int32), rv b834, .val (.long got), .second, .val (.long st), .second, .val (.long (st + (1 : Int64))), .second, .val (.long ((st + (1 : Int64)) + l1)), .second, .val (.long ((st + (1 : Int64)) + l1)), .second, .val (.long st), .second, .val (.long st), .second, .val (.long ss2), .second, .unset, .unset] [(.int (lcmpW c0 hgh))])) tt := by
    by_cases hd222_0 : (0 : Int32) < (lcmpW c0 hgh)
    · refine ⟨_, (if_pos hd222_0).symm, fun tt kt => ?_⟩
      show Steps p.tables e below (T853.setTop (mkF m 222 #[.val (.long st), .second, .val (.long c0), .second, .val (.long c1), .second, .val (.long c2), .second, .val (.long hgh), .second, iv fl, .val (.long (65536 : Int64)), .second, .val (.long (1 : Int64)), .second, .val (.long l1), .second, .val (.long l2), .second, iv (2 : Int32), rv b834, .val (.long got), .second, .val (.long st), .second, .val (.long (st + (1 : Int64))), .second, .val (.long ((st + (1 : Int64)) + l1)), .second, .val (.long ((st + (1 : Int64)) + l1)), .second, .val (.long st), .second, .val (.long st), .second, .val (.long ss2), .second, .unset, .unset] [(.int (lcmpW c0 hgh))])) _
      refine XS.ifNo X853.here hx rfl (hb hby at_222) rfl ((if0 _ _).trans (tlt hd222_0).2.2.2) ?_
      refine XS.lload X853.here hx rfl (hb hby at_225) rfl ?_
      refine XS.lstore X853.here hx rfl (hb hby at_227) rfl (l' := #[.val (.long st), .second, .val (.long c0), .second, .val (.long c1), .second, .val (.long c2), .second, .val (.long hgh), .second, iv fl, .val (.long (65536 : Int64)), .second, .val (.long (1 : Int64)), .second, .val (.long l1), .second, .val (.long l2), .second, iv (2 : Int32), rv b834, .val (.long got), .second, .val (.long st), .second, .val (.long (st + (1 : Int64))), .second, .val (.long ((st + (1 : Int64)) + l1)), .second, .val (.long ((st + (1 : Int64)) + l1)), .second, .val (.long st), .second, .val (.long st), .second, .val (.long ss2), .second, .val (.long st), .second]) rfl ?_
      refine XS.goto X853.here hx rfl (pc0 := 229) (pc' := 278) rfl (hb hby at_229) (by decide) (by decide) ?_
      exact kt
    · by_cases hd243_1 : (0 : Int32) < (lcmpW c1 hgh)
      · refine ⟨_, ((if_neg hd222_0).trans (if_pos hd243_1)).symm, fun tt kt => ?_⟩
        show Steps p.tables e below (T853.setTop (mkF m 222 #[.val (.long st), .second, .val (.long c0), .second, .val (.long c1), .second, .val (.long c2), .second, .val (.long hgh), .second, iv fl, .val (.long (65536 : Int64)), .second, .val (.long (1 : Int64)), .second, .val (.long l1), .second, .val (.long l2), .second, iv (2 : Int32), rv b834, .val (.long got), .second, .val (.long st), .second, .val (.long (st + (1 : Int64))), .second, .val (.long ((st + (1 : Int64)) + l1)), .second, .val (.long ((st + (1 : Int64)) + l1)), .second, .val (.long st), .second, .val (.long st), .second, .val (.long ss2), .second, .unset, .unset] [(.int (lcmpW c0 hgh))])) _
        refine XS.ifYes X853.here hx rfl (pc0 := 222) (pc' := 232) rfl (hb hby at_222) rfl ((if0 _ _).trans (flt hd222_0).2.2.2) (by decide) (by decide) ?_
        refine XS.iload X853.here hx rfl (hb hby at_232) rfl ?_
        refine XS.iconst X853.here hx rfl (hb hby at_234) ?_
        refine XS.icmpNo X853.here hx rfl (hb hby at_235) rfl (flt (by decide : ¬ ((2 : Int32) < (2 : Int32)))).1 ?_
        refine XS.lload X853.here hx rfl (hb hby at_238) rfl ?_
        refine XS.lload X853.here hx rfl (hb hby at_240) rfl ?_
        show Steps p.tables e below (T853.setTop (mkF m 242 #[.val (.long st), .second, .val (.long c0), .second, .val (.long c1), .second, .val (.long c2), .second, .val (.long hgh), .second, iv fl, .val (.long (65536 : Int64)), .second, .val (.long (1 : Int64)), .second, .val (.long l1), .second, .val (.long l2), .second, iv (2 : Int32), rv b834, .val (.long got), .second, .val (.long st), .second, .val (.long (st + (1 : Int64))), .second, .val (.long ((st + (1 : Int64)) + l1)), .second, .val (.long ((st + (1 : Int64)) + l1)), .second, .val (.long st), .second, .val (.long st), .second, .val (.long ss2), .second, .unset, .unset] [(.long hgh), (.long c1)])) _
        refine XS.lcmp X853.here hx rfl (hb hby at_242) rfl ?_
        refine XS.ifNo X853.here hx rfl (hb hby at_243) rfl ((if0 _ _).trans (tlt hd243_1).2.2.2) ?_
        refine XS.lload X853.here hx rfl (hb hby at_246) rfl ?_
        refine XS.lstore X853.here hx rfl (hb hby at_248) rfl (l' := #[.val (.long st), .second, .val (.long c0), .second, .val (.long c1), .second, .val (.long c2), .second, .val (.long hgh), .second, iv fl, .val (.long (65536 : Int64)), .second, .val (.long (1 : Int64)), .second, .val (.long l1), .second, .val (.long l2), .second, iv (2 : Int32), rv b834, .val (.long got), .second, .val (.long st), .second, .val (.long (st + (1 : Int64))), .second, .val (.long ((st + (1 : Int64)) + l1)), .second, .val (.long ((st + (1 : Int64)) + l1)), .second, .val (.long st), .second, .val (.long st), .second, .val (.long ss2), .second, .val (.long st), .second]) rfl ?_
        refine XS.goto X853.here hx rfl (pc0 := 250) (pc' := 278) rfl (hb hby at_250) (by decide) (by decide) ?_
        exact kt
      · refine ⟨_, ((if_neg hd222_0).trans (if_neg hd243_1)).symm, fun tt kt => ?_⟩
        show Steps p.tables e below (T853.setTop (mkF m 222 #[.val (.long st), .second, .val (.long c0), .second, .val (.long c1), .second, .val (.long c2), .second, .val (.long hgh), .second, iv fl, .val (.long (65536 : Int64)), .second, .val (.long (1 : Int64)), .second, .val (.long l1), .second, .val (.long l2), .second, iv (2 : Int32), rv b834, .val (.long got), .second, .val (.long st), .second, .val (.long (st + (1 : Int64))), .second, .val (.long ((st + (1 : Int64)) + l1)), .second, .val (.long ((st + (1 : Int64)) + l1)), .second, .val (.long st), .second, .val (.long st), .second, .val (.long ss2), .second, .unset, .unset] [(.int (lcmpW c0 hgh))])) _
        refine XS.ifYes X853.here hx rfl (pc0 := 222) (pc' := 232) rfl (hb hby at_222) rfl ((if0 _ _).trans (flt hd222_0).2.2.2) (by decide) (by decide) ?_
        refine XS.iload X853.here hx rfl (hb hby at_232) rfl ?_
        refine XS.iconst X853.here hx rfl (hb hby at_234) ?_
        refine XS.icmpNo X853.here hx rfl (hb hby at_235) rfl (flt (by decide : ¬ ((2 : Int32) < (2 : Int32)))).1 ?_
        refine XS.lload X853.here hx rfl (hb hby at_238) rfl ?_
        refine XS.lload X853.here hx rfl (hb hby at_240) rfl ?_
        show Steps p.tables e below (T853.setTop (mkF m 242 #[.val (.long st), .second, .val (.long c0), .second, .val (.long c1), .second, .val (.long c2), .second, .val (.long hgh), .second, iv fl, .val (.long (65536 : Int64)), .second, .val (.long (1 : Int64)), .second, .val (.long l1), .second, .val (.long l2), .second, iv (2 : Int32), rv b834, .val (.long got), .second, .val (.long st), .second, .val (.long (st + (1 : Int64))), .second, .val (.long ((st + (1 : Int64)) + l1)), .second, .val (.long ((st + (1 : Int64)) + l1)), .second, .val (.long st), .second, .val (.long st), .second, .val (.long ss2), .second, .unset, .unset] [(.long hgh), (.long c1)])) _
        refine XS.lcmp X853.here hx rfl (hb hby at_242) rfl ?_
        refine XS.ifYes X853.here hx rfl (pc0 := 243) (pc' := 253) rfl (hb hby at_243) rfl ((if0 _ _).trans (flt hd243_1).2.2.2) (by decide) (by decide) ?_
        refine XS.iload X853.here hx rfl (hb hby at_253) rfl ?_
        refine XS.iconst X853.here hx rfl (hb hby at_255) ?_
        refine XS.icmpYes X853.here hx rfl (pc0 := 256) (pc' := 274) rfl (hb hby at_256) rfl (tlt (by decide : (2 : Int32) < (3 : Int32))).1 (by decide) (by decide) ?_
        refine XS.lload X853.here hx rfl (hb hby at_274) rfl ?_
        show Steps p.tables e below (T853.setTop (mkF m 276 #[.val (.long st), .second, .val (.long c0), .second, .val (.long c1), .second, .val (.long c2), .second, .val (.long hgh), .second, iv fl, .val (.long (65536 : Int64)), .second, .val (.long (1 : Int64)), .second, .val (.long l1), .second, .val (.long l2), .second, iv (2 : Int32), rv b834, .val (.long got), .second, .val (.long st), .second, .val (.long (st + (1 : Int64))), .second, .val (.long ((st + (1 : Int64)) + l1)), .second, .val (.long ((st + (1 : Int64)) + l1)), .second, .val (.long st), .second, .val (.long st), .second, .val (.long ss2), .second, .unset, .unset] [(.long ((st + (1 : Int64)) + l1))])) _
        refine XS.lstore X853.here hx rfl (hb hby at_276) rfl (l' := #[.val (.long st), .second, .val (.long c0), .second, .val (.long c1), .second, .val (.long c2), .second, .val (.long hgh), .second, iv fl, .val (.long (65536 : Int64)), .second, .val (.long (1 : Int64)), .second, .val (.long l1), .second, .val (.long l2), .second, iv (2 : Int32), rv b834, .val (.long got), .second, .val (.long st), .second, .val (.long (st + (1 : Int64))), .second, .val (.long ((st + (1 : Int64)) + l1)), .second, .val (.long ((st + (1 : Int64)) + l1)), .second, .val (.long st), .second, .val (.long st), .second, .val (.long ss2), .second, .val (.long ((st + (1 : Int64)) + l1)), .second]) rfl ?_
        exact kt
  have go861 : own_S p e below ST T853 (mkF m 278 #[.val (.long st), .second, .val (.long c0), .second, .val (.long c1), .second, .val (.long c2), .second, .val (.long hgh), .second, iv fl, .val (.long (65536 : Int64)), .second, .val (.long (1 : Int64)), .second, .val (.long l1), .second, .val (.long l2), .second, iv (2 : Int32), rv b834, .val (.long got), .second, .val (.long st), .second, .val (.long (st + (1 : Int64))), .second, .val (.long ((st + (1 : Int64)) + l1)), .second, .val (.long ((st + (1 : Int64)) + l1)), .second, .val (.long st), .second, .val (.long st), .second, .val (.long ss2), .second, .val (.long ex), .second] []) := fun tt kt => go859 tt (sg860 _ kt)
  have go862 : own_S p e below ST T853 (mkF m 283 #[.val (.long st), .second, .val (.long c0), .second, .val (.long c1), .second, .val (.long c2), .second, .val (.long hgh), .second, iv fl, .val (.long (65536 : Int64)), .second, .val (.long (1 : Int64)), .second, .val (.long l1), .second, .val (.long l2), .second, iv (2 : Int32), rv b834, .val (.long got), .second, .val (.long st), .second, .val (.long (st + (1 : Int64))), .second, .val (.long ((st + (1 : Int64)) + l1)), .second, .val (.long ((st + (1 : Int64)) + l1)), .second, .val (.long st), .second, .val (.long st), .second, .val (.long ss2), .second, .val (.long ex), .second] [(.int (lcmpW got ex))]) := fun tt kt => go861 tt (by
      refine XS.lload X853.here hx rfl (hb hby at_278) rfl ?_
      refine XS.lload X853.here hx rfl (hb hby at_280) rfl ?_
      refine XS.lcmp X853.here hx rfl (hb hby at_282) rfl ?_
      exact kt)
  have hfin : (lcmpW got ex) = (0 : Int32) := by
    rw [lw_eq, hgot, hex]
    all_goals (try simp only [own_gt])
    all_goals (by_cases y0 : (0 : Int32) < lcmpW c0 hgh <;> by_cases y1 : (0 : Int32) < lcmpW c1 hgh <;> simp [y0, y1])
  have go863 : own_S p e below ST T853 (mkF m 291 #[.val (.long st), .second, .val (.long c0), .second, .val (.long c1), .second, .val (.long c2), .second, .val (.long hgh), .second, iv fl, .val (.long (65536 : Int64)), .second, .val (.long (1 : Int64)), .second, .val (.long l1), .second, .val (.long l2), .second, iv (2 : Int32), rv b834, .val (.long got), .second, .val (.long st), .second, .val (.long (st + (1 : Int64))), .second, .val (.long ((st + (1 : Int64)) + l1)), .second, .val (.long ((st + (1 : Int64)) + l1)), .second, .val (.long st), .second, .val (.long st), .second, .val (.long ss2), .second, .val (.long ex), .second] [(.int (1 : Int32))]) := fun tt kt => go862 tt (by
      refine XS.ifNo X853.here hx rfl (hb hby at_283) rfl ((if0 _ _).trans (teq hfin).2) ?_
      refine XS.iconst X853.here hx rfl (hb hby at_286) ?_
      refine XS.goto X853.here hx rfl (pc0 := 287) (pc' := 291) rfl (hb hby at_287) (by decide) (by decide) ?_
      exact kt)
  obtain ⟨fs, hr, hrun, hended, hW, hsame⟩ := X853.leave (v := some (.int (1 : Int32))) (fun h => by rw [Bd.returns] at h; cases h) (hlocks := by first | exact BodyLoose.notSynchronized Bd | exact Body.notSynchronized Bd)
  refine ⟨_, _, pre0 _ (go863 _ ?_), hrun, hended, _, _, rfl, ?_, ⟨_, rfl⟩, hW, hsame.mono (by decide) (by decide)⟩
  · exact retN X853 hx (t := .boolean) Bd.returns (by simp) (hb hby at_291) hr
  · show Q0n2a Z st c0 c1 c2 hgh fl h0 n0 _ T853.heap _
    rw [eh853]
    exact ⟨rfl, N853⟩
theorem ef0n2b (m : MethodId) (x0 : Int64) (x1 : Int64) (x2 : Int64) (x3 : Int64) (x4 : Int64) (x5 : Int32) : entryFrame m #[(.long x0), (.long x1), (.long x2), (.long x3), (.long x4), (.int x5)] maxLocals = mkF m 0 #[.val (.long x0), .second, .val (.long x1), .second, .val (.long x2), .second, .val (.long x3), .second, .val (.long x4), .second, .val (.int x5), .unset, .unset, .unset, .unset, .unset, .unset, .unset, .unset, .unset, .unset, .unset, .unset, .unset, .unset, .unset, .unset, .unset, .unset, .unset, .unset, .unset, .unset, .unset, .unset, .unset, .unset, .unset, .unset] [] := by first | (simp [entryFrame, mkF, argsToLocals, Value.category, maxLocals]; done) | rfl
def Q0n2b (Z : State) (st : Int64) (c0 : Int64) (c1 : Int64) (c2 : Int64) (hgh : Int64) (fl : Int32) (h0 : Heap) (n0 : Nat) (v : Option Value) (h : Heap) (L : List Loc) : Prop := v = some (.int 1) ∧ Fr n0 L
set_option maxRecDepth 65536 in
set_option maxHeartbeats 40000000 in
theorem rm0n2b (l : Launch) (Z : State) (a0 : Array Value) (hw : ∀ d ∈ tables_1, d.before a0 Z = true) (ws : List Jvm.Cond) (st : Int64) (c0 : Int64) (c1 : Int64) (c2 : Int64) (hgh : Int64) (fl : Int32) (h0 : Heap) (n0 : Nat) (Z0 : n0 ≤ h0.size) (hk : ((fl.toUInt32 >>> ((3 : Int32) &&& 31).toUInt32).toInt32) &&& 3 = 2) (hb0 : ¬ (fl &&& (1 : Int32) = (0 : Int32))) :
    MetFree l x (head1 (Jvm.Cond.code x code maxLocals ret :: ws) room_1) (fun aa UU => aa = #[(.long st), (.long c0), (.long c1), (.long c2), (.long hgh), (.int fl)] ∧ Z.Warmed39 UU.vm ∧ UU.heap = h0) (fun _ _ _ _ _ => True) (fun _ UU oo UU' => ∃ vv LL, oo = .returned vv ∧ Q0n2b Z st c0 c1 c2 hgh fl h0 n0 vv UU'.heap LL ∧ FrameEnd UU oo UU' LL room_1.cells room_1.slots) := by
  have W : ∀ {d : Jvm.Cond} (i : Nat), tables_1[i]? = some d → d.before a0 Z = true := fun i h => hw _ (List.mem_of_getElem? h)
  refine MetFree.of_bodySF (plainFor_of_name pn166) hisR ?_
  intro p e s m args below meth c s₁ Bd hml0 hP hK
  obtain ⟨rfl, hZ, hh⟩ := hP
  have hx := Bd.exec
  have hby := Bd.bytes
  have hml : c.maxLocals = 39 := hml0
  have hown : s.vm.findClass "com/example/altocommit/altocommit/store/LogIndexAllAtOrBelowUpToPinLaw" = some m.cls := findClass_of_methodNamed Bd.named
  have hnm := (name_of_methodNamed Bd.named Bd.method).1
  have X0 : Stand p l e room_1 s m #[(.long st), (.long c0), (.long c1), (.long c2), (.long hgh), (.int fl)] below meth c s₁ [] 0 0 := Stand.of_body Bd
  have e0 : s₁.heap = h0 := by rw [← hh, Bd.state]; rfl
  have N0 := Fr.nil n0
  have pre0 : ∀ tt, Steps p.tables e below (s₁.setTop (mkF m 0 #[.val (.long st), .second, .val (.long c0), .second, .val (.long c1), .second, .val (.long c2), .second, .val (.long hgh), .second, iv fl, .unset, .unset, .unset, .unset, .unset, .unset, .unset, .unset, .unset, .unset, .unset, .unset, .unset, .unset, .unset, .unset, .unset, .unset, .unset, .unset, .unset, .unset, .unset, .unset, .unset, .unset, .unset, .unset] [])) tt → Steps p.tables e below (s₁.setTop (entryFrame m #[(.long st), (.long c0), (.long c1), (.long c2), (.long hgh), (.int fl)] maxLocals)) tt := fun tt kt => castTop (ef0n2b m st c0 c1 c2 hgh fl) kt
  obtain ⟨ST, hST⟩ : ∃ z : State, z = s₁.setTop (mkF m 0 #[.val (.long st), .second, .val (.long c0), .second, .val (.long c1), .second, .val (.long c2), .second, .val (.long hgh), .second, iv fl, .unset, .unset, .unset, .unset, .unset, .unset, .unset, .unset, .unset, .unset, .unset, .unset, .unset, .unset, .unset, .unset, .unset, .unset, .unset, .unset, .unset, .unset, .unset, .unset, .unset, .unset, .unset, .unset] []) := ⟨_, rfl⟩
  rw [← hST] at pre0
  have go864 : own_S p e below ST s₁ (mkF m 18 #[.val (.long st), .second, .val (.long c0), .second, .val (.long c1), .second, .val (.long c2), .second, .val (.long hgh), .second, iv fl, .val (.long (65536 : Int64)), .second, .unset, .unset, .unset, .unset, .unset, .unset, .unset, .unset, .unset, .unset, .unset, .unset, .unset, .unset, .unset, .unset, .unset, .unset, .unset, .unset, .unset, .unset, .unset, .unset, .unset, .unset] [(.long (65536 : Int64))]) := fun tt kt => (by
      rw [hST]
      show Steps p.tables e below (s₁.setTop (mkF m 0 #[.val (.long st), .second, .val (.long c0), .second, .val (.long c1), .second, .val (.long c2), .second, .val (.long hgh), .second, iv fl, .unset, .unset, .unset, .unset, .unset, .unset, .unset, .unset, .unset, .unset, .unset, .unset, .unset, .unset, .unset, .unset, .unset, .unset, .unset, .unset, .unset, .unset, .unset, .unset, .unset, .unset, .unset, .unset] [])) _
      refine X0.ldc2Long hx hown (mvT hZ (W 0 rfl)) (g := (mkF m 0 #[.val (.long st), .second, .val (.long c0), .second, .val (.long c1), .second, .val (.long c2), .second, .val (.long hgh), .second, iv fl, .unset, .unset, .unset, .unset, .unset, .unset, .unset, .unset, .unset, .unset, .unset, .unset, .unset, .unset, .unset, .unset, .unset, .unset, .unset, .unset, .unset, .unset, .unset, .unset, .unset, .unset, .unset, .unset] [])) rfl (hb hby at_0) _ ?_
      refine XS.lstore X0.here hx rfl (hb hby at_3) rfl (l' := #[.val (.long st), .second, .val (.long c0), .second, .val (.long c1), .second, .val (.long c2), .second, .val (.long hgh), .second, iv fl, .val (.long (65536 : Int64)), .second, .unset, .unset, .unset, .unset, .unset, .unset, .unset, .unset, .unset, .unset, .unset, .unset, .unset, .unset, .unset, .unset, .unset, .unset, .unset, .unset, .unset, .unset, .unset, .unset, .unset, .unset]) rfl ?_
      refine XS.iload X0.here hx rfl (hb hby at_5) rfl ?_
      refine XS.iconst X0.here hx rfl (hb hby at_7) ?_
      refine XS.iand X0.here hx rfl (hb hby at_8) rfl ?_
      refine XS.ifNo X0.here hx rfl (hb hby at_9) rfl ((if0 _ _).trans (feq hb0).1) ?_
      show Steps p.tables e below (s₁.setTop (mkF m 12 #[.val (.long st), .second, .val (.long c0), .second, .val (.long c1), .second, .val (.long c2), .second, .val (.long hgh), .second, iv fl, .val (.long (65536 : Int64)), .second, .unset, .unset, .unset, .unset, .unset, .unset, .unset, .unset, .unset, .unset, .unset, .unset, .unset, .unset, .unset, .unset, .unset, .unset, .unset, .unset, .unset, .unset, .unset, .unset, .unset, .unset] [])) _
      refine XS.lload X0.here hx rfl (hb hby at_12) rfl ?_
      refine XS.goto X0.here hx rfl (pc0 := 14) (pc' := 18) rfl (hb hby at_14) (by decide) (by decide) ?_
      exact kt)
  have go865 : own_S p e below ST s₁ (mkF m 24 #[.val (.long st), .second, .val (.long c0), .second, .val (.long c1), .second, .val (.long c2), .second, .val (.long hgh), .second, iv fl, .val (.long (65536 : Int64)), .second, .val (.long (65536 : Int64)), .second, .unset, .unset, .unset, .unset, .unset, .unset, .unset, .unset, .unset, .unset, .unset, .unset, .unset, .unset, .unset, .unset, .unset, .unset, .unset, .unset, .unset, .unset, .unset, .unset] [(.int (fl &&& (2 : Int32)))]) := fun tt kt => go864 tt (by
      refine XS.lstore X0.here hx rfl (hb hby at_18) rfl (l' := #[.val (.long st), .second, .val (.long c0), .second, .val (.long c1), .second, .val (.long c2), .second, .val (.long hgh), .second, iv fl, .val (.long (65536 : Int64)), .second, .val (.long (65536 : Int64)), .second, .unset, .unset, .unset, .unset, .unset, .unset, .unset, .unset, .unset, .unset, .unset, .unset, .unset, .unset, .unset, .unset, .unset, .unset, .unset, .unset, .unset, .unset, .unset, .unset]) rfl ?_
      refine XS.iload X0.here hx rfl (hb hby at_20) rfl ?_
      refine XS.iconst X0.here hx rfl (hb hby at_22) ?_
      refine XS.iand X0.here hx rfl (hb hby at_23) rfl ?_
      exact kt)
  obtain ⟨l1, hl1, sg866⟩ : ∃ (l1 : Int64), l1 = (if (fl &&& (2 : Int32)) = (0 : Int32) then (1 : Int64) else (65536 : Int64)) ∧ ∀ tt, Steps p.tables e below (s₁.setTop (mkF m 33 #[.val (.long st), .second, .val (.long c0), .second, .val (.long c1), .second, .val (.long c2), .second, .val (.long hgh), .second, iv fl, .val (.long (65536 : Int64)), .second, .val (.long (65536 : Int64)), .second, .unset, .unset, .unset, .unset, .unset, .unset, .unset, .unset, .unset, .unset, .unset, .unset, .unset, .unset, .unset, .unset, .unset, .unset, .unset, .unset, .unset, .unset, .unset, .unset] [(.long l1)])) tt → Steps p.tables e below (s₁.setTop (mkF m 24 #[.val (.long st), .second, .val (.long c0), .second, .val (.long c1), .second, .val (.long c2), .second, .val (.long hgh), .second, iv fl, .val (.long (65536 : Int64)), .second, .val (.long (65536 : Int64)), .second, .unset, .unset, .unset, .unset, .unset, .unset, .unset, .unset, .unset, .unset, .unset, .unset, .unset, .unset, .unset, .unset, .unset, .unset, .unset, .unset, .unset, .unset, .unset, .unset] [(.int (fl &&& (2 : Int32)))])) tt := by
    by_cases hd24_0 : (fl &&& (2 : Int32)) = (0 : Int32)
    · refine ⟨_, (if_pos hd24_0).symm, fun tt kt => ?_⟩
      show Steps p.tables e below (s₁.setTop (mkF m 24 #[.val (.long st), .second, .val (.long c0), .second, .val (.long c1), .second, .val (.long c2), .second, .val (.long hgh), .second, iv fl, .val (.long (65536 : Int64)), .second, .val (.long (65536 : Int64)), .second, .unset, .unset, .unset, .unset, .unset, .unset, .unset, .unset, .unset, .unset, .unset, .unset, .unset, .unset, .unset, .unset, .unset, .unset, .unset, .unset, .unset, .unset, .unset, .unset] [(.int (fl &&& (2 : Int32)))])) _
      refine XS.ifYes X0.here hx rfl (pc0 := 24) (pc' := 32) rfl (hb hby at_24) rfl ((if0 _ _).trans (teq hd24_0).1) (by decide) (by decide) ?_
      refine XS.lconst X0.here hx rfl (hb hby at_32) ?_
      exact kt
    · refine ⟨_, (if_neg hd24_0).symm, fun tt kt => ?_⟩
      show Steps p.tables e below (s₁.setTop (mkF m 24 #[.val (.long st), .second, .val (.long c0), .second, .val (.long c1), .second, .val (.long c2), .second, .val (.long hgh), .second, iv fl, .val (.long (65536 : Int64)), .second, .val (.long (65536 : Int64)), .second, .unset, .unset, .unset, .unset, .unset, .unset, .unset, .unset, .unset, .unset, .unset, .unset, .unset, .unset, .unset, .unset, .unset, .unset, .unset, .unset, .unset, .unset, .unset, .unset] [(.int (fl &&& (2 : Int32)))])) _
      refine XS.ifNo X0.here hx rfl (hb hby at_24) rfl ((if0 _ _).trans (feq hd24_0).1) ?_
      refine XS.lload X0.here hx rfl (hb hby at_27) rfl ?_
      refine XS.goto X0.here hx rfl (pc0 := 29) (pc' := 33) rfl (hb hby at_29) (by decide) (by decide) ?_
      exact kt
  have go867 : own_S p e below ST s₁ (mkF m 33 #[.val (.long st), .second, .val (.long c0), .second, .val (.long c1), .second, .val (.long c2), .second, .val (.long hgh), .second, iv fl, .val (.long (65536 : Int64)), .second, .val (.long (65536 : Int64)), .second, .unset, .unset, .unset, .unset, .unset, .unset, .unset, .unset, .unset, .unset, .unset, .unset, .unset, .unset, .unset, .unset, .unset, .unset, .unset, .unset, .unset, .unset, .unset, .unset] [(.long l1)]) := fun tt kt => go865 tt (sg866 _ kt)
  have go868 : own_S p e below ST s₁ (mkF m 39 #[.val (.long st), .second, .val (.long c0), .second, .val (.long c1), .second, .val (.long c2), .second, .val (.long hgh), .second, iv fl, .val (.long (65536 : Int64)), .second, .val (.long (65536 : Int64)), .second, .val (.long l1), .second, .unset, .unset, .unset, .unset, .unset, .unset, .unset, .unset, .unset, .unset, .unset, .unset, .unset, .unset, .unset, .unset, .unset, .unset, .unset, .unset, .unset, .unset] [(.int (fl &&& (4 : Int32)))]) := fun tt kt => go867 tt (by
      refine XS.lstore X0.here hx rfl (hb hby at_33) rfl (l' := #[.val (.long st), .second, .val (.long c0), .second, .val (.long c1), .second, .val (.long c2), .second, .val (.long hgh), .second, iv fl, .val (.long (65536 : Int64)), .second, .val (.long (65536 : Int64)), .second, .val (.long l1), .second, .unset, .unset, .unset, .unset, .unset, .unset, .unset, .unset, .unset, .unset, .unset, .unset, .unset, .unset, .unset, .unset, .unset, .unset, .unset, .unset, .unset, .unset]) rfl ?_
      refine XS.iload X0.here hx rfl (hb hby at_35) rfl ?_
      refine XS.iconst X0.here hx rfl (hb hby at_37) ?_
      refine XS.iand X0.here hx rfl (hb hby at_38) rfl ?_
      exact kt)
  obtain ⟨l2, hl2, sg869⟩ : ∃ (l2 : Int64), l2 = (if (fl &&& (4 : Int32)) = (0 : Int32) then (1 : Int64) else (65536 : Int64)) ∧ ∀ tt, Steps p.tables e below (s₁.setTop (mkF m 48 #[.val (.long st), .second, .val (.long c0), .second, .val (.long c1), .second, .val (.long c2), .second, .val (.long hgh), .second, iv fl, .val (.long (65536 : Int64)), .second, .val (.long (65536 : Int64)), .second, .val (.long l1), .second, .unset, .unset, .unset, .unset, .unset, .unset, .unset, .unset, .unset, .unset, .unset, .unset, .unset, .unset, .unset, .unset, .unset, .unset, .unset, .unset, .unset, .unset] [(.long l2)])) tt → Steps p.tables e below (s₁.setTop (mkF m 39 #[.val (.long st), .second, .val (.long c0), .second, .val (.long c1), .second, .val (.long c2), .second, .val (.long hgh), .second, iv fl, .val (.long (65536 : Int64)), .second, .val (.long (65536 : Int64)), .second, .val (.long l1), .second, .unset, .unset, .unset, .unset, .unset, .unset, .unset, .unset, .unset, .unset, .unset, .unset, .unset, .unset, .unset, .unset, .unset, .unset, .unset, .unset, .unset, .unset] [(.int (fl &&& (4 : Int32)))])) tt := by
    by_cases hd39_0 : (fl &&& (4 : Int32)) = (0 : Int32)
    · refine ⟨_, (if_pos hd39_0).symm, fun tt kt => ?_⟩
      show Steps p.tables e below (s₁.setTop (mkF m 39 #[.val (.long st), .second, .val (.long c0), .second, .val (.long c1), .second, .val (.long c2), .second, .val (.long hgh), .second, iv fl, .val (.long (65536 : Int64)), .second, .val (.long (65536 : Int64)), .second, .val (.long l1), .second, .unset, .unset, .unset, .unset, .unset, .unset, .unset, .unset, .unset, .unset, .unset, .unset, .unset, .unset, .unset, .unset, .unset, .unset, .unset, .unset, .unset, .unset] [(.int (fl &&& (4 : Int32)))])) _
      refine XS.ifYes X0.here hx rfl (pc0 := 39) (pc' := 47) rfl (hb hby at_39) rfl ((if0 _ _).trans (teq hd39_0).1) (by decide) (by decide) ?_
      refine XS.lconst X0.here hx rfl (hb hby at_47) ?_
      exact kt
    · refine ⟨_, (if_neg hd39_0).symm, fun tt kt => ?_⟩
      show Steps p.tables e below (s₁.setTop (mkF m 39 #[.val (.long st), .second, .val (.long c0), .second, .val (.long c1), .second, .val (.long c2), .second, .val (.long hgh), .second, iv fl, .val (.long (65536 : Int64)), .second, .val (.long (65536 : Int64)), .second, .val (.long l1), .second, .unset, .unset, .unset, .unset, .unset, .unset, .unset, .unset, .unset, .unset, .unset, .unset, .unset, .unset, .unset, .unset, .unset, .unset, .unset, .unset, .unset, .unset] [(.int (fl &&& (4 : Int32)))])) _
      refine XS.ifNo X0.here hx rfl (hb hby at_39) rfl ((if0 _ _).trans (feq hd39_0).1) ?_
      refine XS.lload X0.here hx rfl (hb hby at_42) rfl ?_
      refine XS.goto X0.here hx rfl (pc0 := 44) (pc' := 48) rfl (hb hby at_44) (by decide) (by decide) ?_
      exact kt
  have go870 : own_S p e below ST s₁ (mkF m 48 #[.val (.long st), .second, .val (.long c0), .second, .val (.long c1), .second, .val (.long c2), .second, .val (.long hgh), .second, iv fl, .val (.long (65536 : Int64)), .second, .val (.long (65536 : Int64)), .second, .val (.long l1), .second, .unset, .unset, .unset, .unset, .unset, .unset, .unset, .unset, .unset, .unset, .unset, .unset, .unset, .unset, .unset, .unset, .unset, .unset, .unset, .unset, .unset, .unset] [(.long l2)]) := fun tt kt => go868 tt (sg869 _ kt)
  have go871 : own_S p e below ST s₁ (mkF m 58 #[.val (.long st), .second, .val (.long c0), .second, .val (.long c1), .second, .val (.long c2), .second, .val (.long hgh), .second, iv fl, .val (.long (65536 : Int64)), .second, .val (.long (65536 : Int64)), .second, .val (.long l1), .second, .val (.long l2), .second, iv (((fl.toUInt32 >>> ((3 : Int32) &&& 31).toUInt32).toInt32) &&& (3 : Int32)), .unset, .unset, .unset, .unset, .unset, .unset, .unset, .unset, .unset, .unset, .unset, .unset, .unset, .unset, .unset, .unset, .unset, .unset, .unset] []) := fun tt kt => go870 tt (by
      refine XS.lstore X0.here hx rfl (hb hby at_48) rfl (l' := #[.val (.long st), .second, .val (.long c0), .second, .val (.long c1), .second, .val (.long c2), .second, .val (.long hgh), .second, iv fl, .val (.long (65536 : Int64)), .second, .val (.long (65536 : Int64)), .second, .val (.long l1), .second, .val (.long l2), .second, .unset, .unset, .unset, .unset, .unset, .unset, .unset, .unset, .unset, .unset, .unset, .unset, .unset, .unset, .unset, .unset, .unset, .unset, .unset, .unset]) rfl ?_
      refine XS.iload X0.here hx rfl (hb hby at_50) rfl ?_
      refine XS.iconst X0.here hx rfl (hb hby at_52) ?_
      refine XS.iushr X0.here hx rfl (hb hby at_53) rfl ?_
      refine XS.iconst X0.here hx rfl (hb hby at_54) ?_
      refine XS.iand X0.here hx rfl (hb hby at_55) rfl ?_
      show Steps p.tables e below (s₁.setTop (mkF m 56 #[.val (.long st), .second, .val (.long c0), .second, .val (.long c1), .second, .val (.long c2), .second, .val (.long hgh), .second, iv fl, .val (.long (65536 : Int64)), .second, .val (.long (65536 : Int64)), .second, .val (.long l1), .second, .val (.long l2), .second, .unset, .unset, .unset, .unset, .unset, .unset, .unset, .unset, .unset, .unset, .unset, .unset, .unset, .unset, .unset, .unset, .unset, .unset, .unset, .unset] [(.int (((fl.toUInt32 >>> ((3 : Int32) &&& 31).toUInt32).toInt32) &&& (3 : Int32)))])) _
      refine XS.istore X0.here hx rfl (hb hby at_56) rfl (l' := #[.val (.long st), .second, .val (.long c0), .second, .val (.long c1), .second, .val (.long c2), .second, .val (.long hgh), .second, iv fl, .val (.long (65536 : Int64)), .second, .val (.long (65536 : Int64)), .second, .val (.long l1), .second, .val (.long l2), .second, iv (((fl.toUInt32 >>> ((3 : Int32) &&& 31).toUInt32).toInt32) &&& (3 : Int32)), .unset, .unset, .unset, .unset, .unset, .unset, .unset, .unset, .unset, .unset, .unset, .unset, .unset, .unset, .unset, .unset, .unset, .unset, .unset]) rfl ?_
      exact kt)
  rw [hk] at go871
  obtain ⟨b872, g872⟩ : ∃ z, z = h0.size := ⟨_, rfl⟩
  obtain ⟨T872, h872, X872, e872, E872, A872, D872, -, st872⟩ := newO X0 hx hZ hown (W 1 rfl) (W 2 rfl) (W 3 rfl) e0 (g := (mkF m 58 #[.val (.long st), .second, .val (.long c0), .second, .val (.long c1), .second, .val (.long c2), .second, .val (.long hgh), .second, iv fl, .val (.long (65536 : Int64)), .second, .val (.long (65536 : Int64)), .second, .val (.long l1), .second, .val (.long l2), .second, iv (2 : Int32), .unset, .unset, .unset, .unset, .unset, .unset, .unset, .unset, .unset, .unset, .unset, .unset, .unset, .unset, .unset, .unset, .unset, .unset, .unset] [])) rfl (hb hby at_58) (by decide) (by decide)
  rw [← g872] at A872 D872 st872
  have ge_b872 : n0 ≤ b872 := Nat.le_trans Z0 (Nat.le_of_eq g872.symm)
  have F872_starts : Fld Z h872 b872 "com/example/altocommit/altocommit/store/LogIndex" "starts" "[J" .null := D872 (Or.inl (W 12 rfl)) (ty := (.array .long)) (by decide)
  have F872_lows : Fld Z h872 b872 "com/example/altocommit/altocommit/store/LogIndex" "lows" "[J" .null := D872 (Or.inl (W 14 rfl)) (ty := (.array .long)) (by decide)
  have F872_reaches : Fld Z h872 b872 "com/example/altocommit/altocommit/store/LogIndex" "reaches" "[J" .null := D872 (Or.inl (W 16 rfl)) (ty := (.array .long)) (by decide)
  have F872_end : Fld Z h872 b872 "com/example/altocommit/altocommit/store/LogIndex" "end" "J" (.long (0 : Int64)) := D872 (Or.inl (W 18 rfl)) (ty := .long) (by decide)
  have F872_count : Fld Z h872 b872 "com/example/altocommit/altocommit/store/LogIndex" "count" "I" (.int (0 : Int32)) := D872 (Or.inl (W 25 rfl)) (ty := .int) (by decide)
  have F872_highest : Fld Z h872 b872 "com/example/altocommit/altocommit/store/LogIndex" "highest" "J" (.long (0 : Int64)) := D872 (Or.inl (W 32 rfl)) (ty := .long) (by decide)
  have go873 : own_S p e below ST T872 (mkF m 61 #[.val (.long st), .second, .val (.long c0), .second, .val (.long c1), .second, .val (.long c2), .second, .val (.long hgh), .second, iv fl, .val (.long (65536 : Int64)), .second, .val (.long (65536 : Int64)), .second, .val (.long l1), .second, .val (.long l2), .second, iv (2 : Int32), .unset, .unset, .unset, .unset, .unset, .unset, .unset, .unset, .unset, .unset, .unset, .unset, .unset, .unset, .unset, .unset, .unset, .unset, .unset] [(.ref b872)]) := fun tt kt => go871 tt (st872 _ kt)
  have go874 : own_S p e below ST T872 (mkF m 63 #[.val (.long st), .second, .val (.long c0), .second, .val (.long c1), .second, .val (.long c2), .second, .val (.long hgh), .second, iv fl, .val (.long (65536 : Int64)), .second, .val (.long (65536 : Int64)), .second, .val (.long l1), .second, .val (.long l2), .second, iv (2 : Int32), .unset, .unset, .unset, .unset, .unset, .unset, .unset, .unset, .unset, .unset, .unset, .unset, .unset, .unset, .unset, .unset, .unset, .unset, .unset] [(.long st), (.ref b872), (.ref b872)]) := fun tt kt => go873 tt (by
      refine XS.dup X872.here hx rfl (hb hby at_61) rfl rfl ?_
      refine XS.lloadN X872.here hx rfl (hb hby at_62) rfl ?_
      exact kt)
  have zs876 := (Nat.le_trans Z0 E872.1)
  obtain ⟨_, _, ⟨T875, L875, k875, n875⟩, -, X875, ⟨Lc875, hQ875, l875, y875, z875⟩, st875⟩ := X872.specialBack hx (y := (⟨"com/example/altocommit/altocommit/store/LogIndex", "<init>", "(J)V"⟩ : MethodName)) rfl hown (mvT hZ (W 4 rfl)) (mvT hZ (W 5 rfl)) (mvT hZ (W 6 rfl)) (by decide) (backOf (W := 1) (rm1 l Z a0 hw [] b872 st h872 n0 zs876 F872_starts F872_lows F872_reaches F872_end F872_count F872_highest A872 ge_b872) hZ (W 6 rfl) (W 3 rfl) (by decide) (by decide)) (g := (mkF m 63 #[.val (.long st), .second, .val (.long c0), .second, .val (.long c1), .second, .val (.long c2), .second, .val (.long hgh), .second, iv fl, .val (.long (65536 : Int64)), .second, .val (.long (65536 : Int64)), .second, .val (.long l1), .second, .val (.long l2), .second, iv (2 : Int32), .unset, .unset, .unset, .unset, .unset, .unset, .unset, .unset, .unset, .unset, .unset, .unset, .unset, .unset, .unset, .unset, .unset, .unset, .unset] [(.long st), (.ref b872), (.ref b872)])) rfl (by rw [hml]; rfl) (Steps.refl _) (a := b872) (argsL := [(.long st)]) (rest := [(.ref b872)]) (lenOf pd167 rfl) rfl (by show 2 * 0 + _ ≤ _; exact Nat.le_of_eq rfl) (hb hby at_63) (fun _ _ => ⟨rfl, e872, (by decide : 1 + 3 ≤ _), (by decide : 6 + 48 ≤ _)⟩)
  dsimp only [Pt.U, Pt.locs, Pt.cells, Pt.slots] at X875 l875 y875 z875 st875 hQ875
  subst l875 y875 z875
  obtain ⟨bs, bl, br, ks, kl, kr, rfl, Nq875, K875, LIi875⟩ := hQ875
  have N875 := Fr.app N0 Nq875
  have go877 : own_S p e below ST T875 (mkF m 66 #[.val (.long st), .second, .val (.long c0), .second, .val (.long c1), .second, .val (.long c2), .second, .val (.long hgh), .second, iv fl, .val (.long (65536 : Int64)), .second, .val (.long (65536 : Int64)), .second, .val (.long l1), .second, .val (.long l2), .second, iv (2 : Int32), .unset, .unset, .unset, .unset, .unset, .unset, .unset, .unset, .unset, .unset, .unset, .unset, .unset, .unset, .unset, .unset, .unset, .unset, .unset] [(.ref b872)]) := fun tt kt => go874 tt (st875.trans kt)
  have go878 : own_S p e below ST T875 (mkF m 79 #[.val (.long st), .second, .val (.long c0), .second, .val (.long c1), .second, .val (.long c2), .second, .val (.long hgh), .second, iv fl, .val (.long (65536 : Int64)), .second, .val (.long (65536 : Int64)), .second, .val (.long l1), .second, .val (.long l2), .second, iv (2 : Int32), rv b872, .unset, .unset, .unset, .unset, .unset, .unset, .unset, .unset, .unset, .unset, .unset, .unset, .unset, .unset, .unset, .unset, .unset, .unset] [(.long (65536 : Int64)), (.long c0), (.ref b872)]) := fun tt kt => go877 tt (by
      refine XS.astore X875.here hx rfl (hb hby at_66) rfl rfl (l' := #[.val (.long st), .second, .val (.long c0), .second, .val (.long c1), .second, .val (.long c2), .second, .val (.long hgh), .second, iv fl, .val (.long (65536 : Int64)), .second, .val (.long (65536 : Int64)), .second, .val (.long l1), .second, .val (.long l2), .second, iv (2 : Int32), rv b872, .unset, .unset, .unset, .unset, .unset, .unset, .unset, .unset, .unset, .unset, .unset, .unset, .unset, .unset, .unset, .unset, .unset, .unset]) rfl ?_
      refine XS.iload X875.here hx rfl (hb hby at_68) rfl ?_
      refine XS.iconst X875.here hx rfl (hb hby at_70) ?_
      refine XS.icmpNo X875.here hx rfl (hb hby at_71) rfl (flt (by decide : ¬ ((2 : Int32) < (1 : Int32)))).1 ?_
      refine XS.aload X875.here hx rfl (hb hby at_74) rfl rfl ?_
      refine XS.lloadN X875.here hx rfl (hb hby at_76) rfl ?_
      show Steps p.tables e below (T875.setTop (mkF m 77 #[.val (.long st), .second, .val (.long c0), .second, .val (.long c1), .second, .val (.long c2), .second, .val (.long hgh), .second, iv fl, .val (.long (65536 : Int64)), .second, .val (.long (65536 : Int64)), .second, .val (.long l1), .second, .val (.long l2), .second, iv (2 : Int32), rv b872, .unset, .unset, .unset, .unset, .unset, .unset, .unset, .unset, .unset, .unset, .unset, .unset, .unset, .unset, .unset, .unset, .unset, .unset] [(.long c0), (.ref b872)])) _
      refine XS.lload X875.here hx rfl (hb hby at_77) rfl ?_
      exact kt)
  have zs881 := (Nat.le_trans zs876 K875.1)
  have f882 := (A872.keep K875)
  obtain ⟨cq880, kq880, q880a, q880b, q880c⟩ := isOf hZ rfl f882
  obtain ⟨_, _, ⟨T880, L880, k880, n880⟩, -, X880, ⟨Lc880, hQ880, l880, y880, z880⟩, st880⟩ := X875.virtualBack hx (y := (⟨"com/example/altocommit/altocommit/store/LogIndex", "add", "(JJ)V"⟩ : MethodName)) (z := (⟨"com/example/altocommit/altocommit/store/LogIndex", "add", "(JJ)V"⟩ : MethodName)) hown (mvT hZ (W 26 rfl)) (mvT hZ (W 27 rfl)) (notFace_of_selects (args := #[]) (mvT hZ (W 29 rfl))) (mvT hZ (W 29 rfl)) (mvT hZ (W 28 rfl)) (by decide) (backOf (W := 0) (rm4c0 l Z a0 hw [] b872 bs bl br ks kl kr c0 (65536 : Int64) st (0 : Int64) T875.heap n0 zs881 LIi875) hZ (W 30 rfl) (W 3 rfl) (by decide) (by decide)) q880a q880c (g := (mkF m 79 #[.val (.long st), .second, .val (.long c0), .second, .val (.long c1), .second, .val (.long c2), .second, .val (.long hgh), .second, iv fl, .val (.long (65536 : Int64)), .second, .val (.long (65536 : Int64)), .second, .val (.long l1), .second, .val (.long l2), .second, iv (2 : Int32), rv b872, .unset, .unset, .unset, .unset, .unset, .unset, .unset, .unset, .unset, .unset, .unset, .unset, .unset, .unset, .unset, .unset, .unset, .unset] [(.long (65536 : Int64)), (.long c0), (.ref b872)])) rfl (by rw [hml]; rfl) (Steps.refl _) (argsL := [(.long c0), (.long (65536 : Int64))]) (rest := []) (lenOf pd169 rfl) rfl (by show 2 * 0 + _ ≤ _; exact Nat.le_of_eq rfl) (hb hby at_79) (fun _ _ => ⟨rfl, rfl, (by decide : 4 + 0 ≤ _), (by decide : 54 + 0 ≤ _)⟩)
  dsimp only [Pt.U, Pt.locs, Pt.cells, Pt.slots] at X880 l880 y880 z880 st880 hQ880
  subst l880 y880 z880
  obtain ⟨lw879, rfl, Nq880, K880, LIi880⟩ := hQ880
  have N880 := Fr.app N875 Nq880
  have go883 : own_S p e below ST T880 (mkF m 82 #[.val (.long st), .second, .val (.long c0), .second, .val (.long c1), .second, .val (.long c2), .second, .val (.long hgh), .second, iv fl, .val (.long (65536 : Int64)), .second, .val (.long (65536 : Int64)), .second, .val (.long l1), .second, .val (.long l2), .second, iv (2 : Int32), rv b872, .unset, .unset, .unset, .unset, .unset, .unset, .unset, .unset, .unset, .unset, .unset, .unset, .unset, .unset, .unset, .unset, .unset, .unset] []) := fun tt kt => go878 tt (st880.trans kt)
  have go884 : own_S p e below ST T880 (mkF m 94 #[.val (.long st), .second, .val (.long c0), .second, .val (.long c1), .second, .val (.long c2), .second, .val (.long hgh), .second, iv fl, .val (.long (65536 : Int64)), .second, .val (.long (65536 : Int64)), .second, .val (.long l1), .second, .val (.long l2), .second, iv (2 : Int32), rv b872, .unset, .unset, .unset, .unset, .unset, .unset, .unset, .unset, .unset, .unset, .unset, .unset, .unset, .unset, .unset, .unset, .unset, .unset] [(.long l1), (.long c1), (.ref b872)]) := fun tt kt => go883 tt (by
      refine XS.iload X880.here hx rfl (hb hby at_82) rfl ?_
      refine XS.iconst X880.here hx rfl (hb hby at_84) ?_
      refine XS.icmpNo X880.here hx rfl (hb hby at_85) rfl (flt (by decide : ¬ ((2 : Int32) < (2 : Int32)))).1 ?_
      refine XS.aload X880.here hx rfl (hb hby at_88) rfl rfl ?_
      refine XS.lload X880.here hx rfl (hb hby at_90) rfl ?_
      refine XS.lload X880.here hx rfl (hb hby at_92) rfl ?_
      exact kt)
  have hm886 : ¬ (lcmpW ((st + (65536 : Int64)) - st) (65536 : Int64) < (0 : Int32)) := by rw [own_as]; decide
  have zs888 := (Nat.le_trans zs881 K880.1)
  obtain ⟨cq887, kq887, q887a, q887b, q887c⟩ := isOf hZ rfl LIi880.1
  obtain ⟨_, _, ⟨T887, L887, k887, n887⟩, -, X887, ⟨Lc887, hQ887, l887, y887, z887⟩, st887⟩ := X880.virtualBack hx (y := (⟨"com/example/altocommit/altocommit/store/LogIndex", "add", "(JJ)V"⟩ : MethodName)) (z := (⟨"com/example/altocommit/altocommit/store/LogIndex", "add", "(JJ)V"⟩ : MethodName)) hown (mvT hZ (W 26 rfl)) (mvT hZ (W 27 rfl)) (notFace_of_selects (args := #[]) (mvT hZ (W 29 rfl))) (mvT hZ (W 29 rfl)) (mvT hZ (W 28 rfl)) (by decide) (backOf (W := 0) (rm4c1 l Z a0 hw [] b872 bs bl br ks kl kr c1 l1 (st + (65536 : Int64)) (own_maxJ (0 : Int64) c0) st lw879 c0 T880.heap n0 zs888 LIi880 hm886) hZ (W 30 rfl) (W 3 rfl) (by decide) (by decide)) q887a q887c (g := (mkF m 94 #[.val (.long st), .second, .val (.long c0), .second, .val (.long c1), .second, .val (.long c2), .second, .val (.long hgh), .second, iv fl, .val (.long (65536 : Int64)), .second, .val (.long (65536 : Int64)), .second, .val (.long l1), .second, .val (.long l2), .second, iv (2 : Int32), rv b872, .unset, .unset, .unset, .unset, .unset, .unset, .unset, .unset, .unset, .unset, .unset, .unset, .unset, .unset, .unset, .unset, .unset, .unset] [(.long l1), (.long c1), (.ref b872)])) rfl (by rw [hml]; rfl) (Steps.refl _) (argsL := [(.long c1), (.long l1)]) (rest := []) (lenOf pd169 rfl) rfl (by show 2 * 0 + _ ≤ _; exact Nat.le_of_eq rfl) (hb hby at_94) (fun _ _ => ⟨rfl, rfl, (by decide : 4 + 0 ≤ _), (by decide : 54 + 0 ≤ _)⟩)
  dsimp only [Pt.U, Pt.locs, Pt.cells, Pt.slots] at X887 l887 y887 z887 st887 hQ887
  subst l887 y887 z887
  obtain ⟨lw885, rfl, Nq887, K887, LIi887⟩ := hQ887
  have N887 := Fr.app N880 Nq887
  have go889 : own_S p e below ST T887 (mkF m 97 #[.val (.long st), .second, .val (.long c0), .second, .val (.long c1), .second, .val (.long c2), .second, .val (.long hgh), .second, iv fl, .val (.long (65536 : Int64)), .second, .val (.long (65536 : Int64)), .second, .val (.long l1), .second, .val (.long l2), .second, iv (2 : Int32), rv b872, .unset, .unset, .unset, .unset, .unset, .unset, .unset, .unset, .unset, .unset, .unset, .unset, .unset, .unset, .unset, .unset, .unset, .unset] []) := fun tt kt => go884 tt (st887.trans kt)
  have go890 : own_S p e below ST T887 (mkF m 116 #[.val (.long st), .second, .val (.long c0), .second, .val (.long c1), .second, .val (.long c2), .second, .val (.long hgh), .second, iv fl, .val (.long (65536 : Int64)), .second, .val (.long (65536 : Int64)), .second, .val (.long l1), .second, .val (.long l2), .second, iv (2 : Int32), rv b872, .unset, .unset, .unset, .unset, .unset, .unset, .unset, .unset, .unset, .unset, .unset, .unset, .unset, .unset, .unset, .unset, .unset, .unset] [(.long hgh), (.ref b872)]) := fun tt kt => go889 tt (by
      refine XS.iload X887.here hx rfl (hb hby at_97) rfl ?_
      refine XS.iconst X887.here hx rfl (hb hby at_99) ?_
      refine XS.icmpYes X887.here hx rfl (pc0 := 100) (pc' := 112) rfl (hb hby at_100) rfl (tlt (by decide : (2 : Int32) < (3 : Int32))).1 (by decide) (by decide) ?_
      refine XS.aload X887.here hx rfl (hb hby at_112) rfl rfl ?_
      refine XS.lload X887.here hx rfl (hb hby at_114) rfl ?_
      exact kt)
  have zs892 := (Nat.le_trans zs888 K887.1)
  obtain ⟨cq891, kq891, q891a, q891b, q891c⟩ := isOf hZ rfl LIi887.1
  obtain ⟨_, _, ⟨T891, L891, k891, n891⟩, -, X891, ⟨Lc891, hQ891, l891, y891, z891⟩, st891⟩ := X887.virtualBack hx (y := (⟨"com/example/altocommit/altocommit/store/LogIndex", "allAtOrBelowUpTo", "(J)J"⟩ : MethodName)) (z := (⟨"com/example/altocommit/altocommit/store/LogIndex", "allAtOrBelowUpTo", "(J)J"⟩ : MethodName)) hown (mvT hZ (W 19 rfl)) (mvT hZ (W 20 rfl)) (notFace_of_selects (args := #[]) (mvT hZ (W 22 rfl))) (mvT hZ (W 22 rfl)) (mvT hZ (W 21 rfl)) (by decide) (backOf (W := 0) (rm3c2 l Z a0 hw [] b872 bs bl br ks kl kr hgh ((st + (65536 : Int64)) + l1) (own_maxJ (own_maxJ (0 : Int64) c0) c1) st (st + (65536 : Int64)) lw879 lw885 (0 : Int64) c0 (own_maxJ c0 c1) T887.heap n0 zs892 LIi887) hZ (W 23 rfl) (W 3 rfl) (by decide) (by decide)) q891a q891c (g := (mkF m 116 #[.val (.long st), .second, .val (.long c0), .second, .val (.long c1), .second, .val (.long c2), .second, .val (.long hgh), .second, iv fl, .val (.long (65536 : Int64)), .second, .val (.long (65536 : Int64)), .second, .val (.long l1), .second, .val (.long l2), .second, iv (2 : Int32), rv b872, .unset, .unset, .unset, .unset, .unset, .unset, .unset, .unset, .unset, .unset, .unset, .unset, .unset, .unset, .unset, .unset, .unset, .unset] [(.long hgh), (.ref b872)])) rfl (by rw [hml]; rfl) (Steps.refl _) (argsL := [(.long hgh)]) (rest := []) (lenOf pd168 rfl) rfl (by show 2 * 0 + _ ≤ _; exact Nat.le_of_eq rfl) (hb hby at_116) (fun _ _ => ⟨rfl, rfl, (by decide : 4 + 0 ≤ _), (by decide : 54 + 0 ≤ _)⟩)
  dsimp only [Pt.U, Pt.locs, Pt.cells, Pt.slots] at X891 l891 y891 z891 st891 hQ891
  subst l891 y891 z891
  obtain ⟨rfl, Nq891, eh891⟩ := hQ891
  have N891 := Fr.app N887 Nq891
  have go893 : own_S p e below ST T891 (mkF m 119 #[.val (.long st), .second, .val (.long c0), .second, .val (.long c1), .second, .val (.long c2), .second, .val (.long hgh), .second, iv fl, .val (.long (65536 : Int64)), .second, .val (.long (65536 : Int64)), .second, .val (.long l1), .second, .val (.long l2), .second, iv (2 : Int32), rv b872, .unset, .unset, .unset, .unset, .unset, .unset, .unset, .unset, .unset, .unset, .unset, .unset, .unset, .unset, .unset, .unset, .unset, .unset] [(.long (if (0 : Int32) < lcmpW c0 hgh then st else (if (0 : Int32) < lcmpW (own_maxJ c0 c1) hgh then (st + (65536 : Int64)) else ((st + (65536 : Int64)) + l1))))]) := fun tt kt => go890 tt (st891.trans kt)
  obtain ⟨got, hgot⟩ : ∃ z : Int64, z = (if (0 : Int32) < lcmpW c0 hgh then st else (if (0 : Int32) < lcmpW (own_maxJ c0 c1) hgh then (st + (65536 : Int64)) else ((st + (65536 : Int64)) + l1))) := ⟨_, rfl⟩
  rw [← hgot] at go893
  have go894 : own_S p e below ST T891 (mkF m 200 #[.val (.long st), .second, .val (.long c0), .second, .val (.long c1), .second, .val (.long c2), .second, .val (.long hgh), .second, iv fl, .val (.long (65536 : Int64)), .second, .val (.long (65536 : Int64)), .second, .val (.long l1), .second, .val (.long l2), .second, iv (2 : Int32), rv b872, .val (.long got), .second, .val (.long st), .second, .val (.long (st + (65536 : Int64))), .second, .val (.long ((st + (65536 : Int64)) + l1)), .second, .val (.long ((st + (65536 : Int64)) + l1)), .second, .val (.long st), .second, .val (.long (st + (65536 : Int64))), .second, .unset, .unset, .unset, .unset] [(.int (lcmpW l1 (65536 : Int64)))]) := fun tt kt => go893 tt (by
      refine XS.lstore X891.here hx rfl (hb hby at_119) rfl (l' := #[.val (.long st), .second, .val (.long c0), .second, .val (.long c1), .second, .val (.long c2), .second, .val (.long hgh), .second, iv fl, .val (.long (65536 : Int64)), .second, .val (.long (65536 : Int64)), .second, .val (.long l1), .second, .val (.long l2), .second, iv (2 : Int32), rv b872, .val (.long got), .second, .unset, .unset, .unset, .unset, .unset, .unset, .unset, .unset, .unset, .unset, .unset, .unset, .unset, .unset, .unset, .unset]) rfl ?_
      refine XS.lloadN X891.here hx rfl (hb hby at_121) rfl ?_
      refine XS.lstore X891.here hx rfl (hb hby at_122) rfl (l' := #[.val (.long st), .second, .val (.long c0), .second, .val (.long c1), .second, .val (.long c2), .second, .val (.long hgh), .second, iv fl, .val (.long (65536 : Int64)), .second, .val (.long (65536 : Int64)), .second, .val (.long l1), .second, .val (.long l2), .second, iv (2 : Int32), rv b872, .val (.long got), .second, .val (.long st), .second, .unset, .unset, .unset, .unset, .unset, .unset, .unset, .unset, .unset, .unset, .unset, .unset, .unset, .unset]) rfl ?_
      refine XS.lload X891.here hx rfl (hb hby at_124) rfl ?_
      refine XS.lload X891.here hx rfl (hb hby at_126) rfl ?_
      refine XS.ladd X891.here hx rfl (hb hby at_128) rfl ?_
      show Steps p.tables e below (T891.setTop (mkF m 129 #[.val (.long st), .second, .val (.long c0), .second, .val (.long c1), .second, .val (.long c2), .second, .val (.long hgh), .second, iv fl, .val (.long (65536 : Int64)), .second, .val (.long (65536 : Int64)), .second, .val (.long l1), .second, .val (.long l2), .second, iv (2 : Int32), rv b872, .val (.long got), .second, .val (.long st), .second, .unset, .unset, .unset, .unset, .unset, .unset, .unset, .unset, .unset, .unset, .unset, .unset, .unset, .unset] [(.long (st + (65536 : Int64)))])) _
      refine XS.lstore X891.here hx rfl (hb hby at_129) rfl (l' := #[.val (.long st), .second, .val (.long c0), .second, .val (.long c1), .second, .val (.long c2), .second, .val (.long hgh), .second, iv fl, .val (.long (65536 : Int64)), .second, .val (.long (65536 : Int64)), .second, .val (.long l1), .second, .val (.long l2), .second, iv (2 : Int32), rv b872, .val (.long got), .second, .val (.long st), .second, .val (.long (st + (65536 : Int64))), .second, .unset, .unset, .unset, .unset, .unset, .unset, .unset, .unset, .unset, .unset, .unset, .unset]) rfl ?_
      refine XS.lload X891.here hx rfl (hb hby at_131) rfl ?_
      refine XS.lload X891.here hx rfl (hb hby at_133) rfl ?_
      refine XS.ladd X891.here hx rfl (hb hby at_135) rfl ?_
      refine XS.lstore X891.here hx rfl (hb hby at_136) rfl (l' := #[.val (.long st), .second, .val (.long c0), .second, .val (.long c1), .second, .val (.long c2), .second, .val (.long hgh), .second, iv fl, .val (.long (65536 : Int64)), .second, .val (.long (65536 : Int64)), .second, .val (.long l1), .second, .val (.long l2), .second, iv (2 : Int32), rv b872, .val (.long got), .second, .val (.long st), .second, .val (.long (st + (65536 : Int64))), .second, .val (.long ((st + (65536 : Int64)) + l1)), .second, .unset, .unset, .unset, .unset, .unset, .unset, .unset, .unset, .unset, .unset]) rfl ?_
      refine XS.lloadN X891.here hx rfl (hb hby at_138) rfl ?_
      show Steps p.tables e below (T891.setTop (mkF m 139 #[.val (.long st), .second, .val (.long c0), .second, .val (.long c1), .second, .val (.long c2), .second, .val (.long hgh), .second, iv fl, .val (.long (65536 : Int64)), .second, .val (.long (65536 : Int64)), .second, .val (.long l1), .second, .val (.long l2), .second, iv (2 : Int32), rv b872, .val (.long got), .second, .val (.long st), .second, .val (.long (st + (65536 : Int64))), .second, .val (.long ((st + (65536 : Int64)) + l1)), .second, .unset, .unset, .unset, .unset, .unset, .unset, .unset, .unset, .unset, .unset] [(.long st)])) _
      refine XS.lstore X891.here hx rfl (hb hby at_139) rfl (l' := #[.val (.long st), .second, .val (.long c0), .second, .val (.long c1), .second, .val (.long c2), .second, .val (.long hgh), .second, iv fl, .val (.long (65536 : Int64)), .second, .val (.long (65536 : Int64)), .second, .val (.long l1), .second, .val (.long l2), .second, iv (2 : Int32), rv b872, .val (.long got), .second, .val (.long st), .second, .val (.long (st + (65536 : Int64))), .second, .val (.long ((st + (65536 : Int64)) + l1)), .second, .val (.long st), .second, .unset, .unset, .unset, .unset, .unset, .unset, .unset, .unset]) rfl ?_
      refine XS.iload X891.here hx rfl (hb hby at_141) rfl ?_
      refine XS.iconst X891.here hx rfl (hb hby at_143) ?_
      refine XS.icmpNo X891.here hx rfl (hb hby at_144) rfl (flt (by decide : ¬ ((2 : Int32) < (1 : Int32)))).1 ?_
      refine XS.lload X891.here hx rfl (hb hby at_147) rfl ?_
      refine XS.lstore X891.here hx rfl (hb hby at_149) rfl (l' := #[.val (.long st), .second, .val (.long c0), .second, .val (.long c1), .second, .val (.long c2), .second, .val (.long hgh), .second, iv fl, .val (.long (65536 : Int64)), .second, .val (.long (65536 : Int64)), .second, .val (.long l1), .second, .val (.long l2), .second, iv (2 : Int32), rv b872, .val (.long got), .second, .val (.long st), .second, .val (.long (st + (65536 : Int64))), .second, .val (.long ((st + (65536 : Int64)) + l1)), .second, .val (.long (st + (65536 : Int64))), .second, .unset, .unset, .unset, .unset, .unset, .unset, .unset, .unset]) rfl ?_
      show Steps p.tables e below (T891.setTop (mkF m 151 #[.val (.long st), .second, .val (.long c0), .second, .val (.long c1), .second, .val (.long c2), .second, .val (.long hgh), .second, iv fl, .val (.long (65536 : Int64)), .second, .val (.long (65536 : Int64)), .second, .val (.long l1), .second, .val (.long l2), .second, iv (2 : Int32), rv b872, .val (.long got), .second, .val (.long st), .second, .val (.long (st + (65536 : Int64))), .second, .val (.long ((st + (65536 : Int64)) + l1)), .second, .val (.long (st + (65536 : Int64))), .second, .unset, .unset, .unset, .unset, .unset, .unset, .unset, .unset] [])) _
      refine XS.iload X891.here hx rfl (hb hby at_151) rfl ?_
      refine XS.iconst X891.here hx rfl (hb hby at_153) ?_
      refine XS.icmpNo X891.here hx rfl (hb hby at_154) rfl (flt (by decide : ¬ ((2 : Int32) < (2 : Int32)))).1 ?_
      refine XS.lload X891.here hx rfl (hb hby at_157) rfl ?_
      refine XS.lstore X891.here hx rfl (hb hby at_159) rfl (l' := #[.val (.long st), .second, .val (.long c0), .second, .val (.long c1), .second, .val (.long c2), .second, .val (.long hgh), .second, iv fl, .val (.long (65536 : Int64)), .second, .val (.long (65536 : Int64)), .second, .val (.long l1), .second, .val (.long l2), .second, iv (2 : Int32), rv b872, .val (.long got), .second, .val (.long st), .second, .val (.long (st + (65536 : Int64))), .second, .val (.long ((st + (65536 : Int64)) + l1)), .second, .val (.long ((st + (65536 : Int64)) + l1)), .second, .unset, .unset, .unset, .unset, .unset, .unset, .unset, .unset]) rfl ?_
      refine XS.iload X891.here hx rfl (hb hby at_161) rfl ?_
      show Steps p.tables e below (T891.setTop (mkF m 163 #[.val (.long st), .second, .val (.long c0), .second, .val (.long c1), .second, .val (.long c2), .second, .val (.long hgh), .second, iv fl, .val (.long (65536 : Int64)), .second, .val (.long (65536 : Int64)), .second, .val (.long l1), .second, .val (.long l2), .second, iv (2 : Int32), rv b872, .val (.long got), .second, .val (.long st), .second, .val (.long (st + (65536 : Int64))), .second, .val (.long ((st + (65536 : Int64)) + l1)), .second, .val (.long ((st + (65536 : Int64)) + l1)), .second, .unset, .unset, .unset, .unset, .unset, .unset, .unset, .unset] [(.int (2 : Int32))])) _
      refine XS.iconst X891.here hx rfl (hb hby at_163) ?_
      refine XS.icmpYes X891.here hx rfl (pc0 := 164) (pc' := 174) rfl (hb hby at_164) rfl (tlt (by decide : (2 : Int32) < (3 : Int32))).1 (by decide) (by decide) ?_
      refine XS.lload X891.here hx rfl (hb hby at_174) rfl ?_
      refine XS.lstore X891.here hx rfl (hb hby at_176) rfl (l' := #[.val (.long st), .second, .val (.long c0), .second, .val (.long c1), .second, .val (.long c2), .second, .val (.long hgh), .second, iv fl, .val (.long (65536 : Int64)), .second, .val (.long (65536 : Int64)), .second, .val (.long l1), .second, .val (.long l2), .second, iv (2 : Int32), rv b872, .val (.long got), .second, .val (.long st), .second, .val (.long (st + (65536 : Int64))), .second, .val (.long ((st + (65536 : Int64)) + l1)), .second, .val (.long ((st + (65536 : Int64)) + l1)), .second, .val (.long st), .second, .unset, .unset, .unset, .unset, .unset, .unset]) rfl ?_
      refine XS.lload X891.here hx rfl (hb hby at_178) rfl ?_
      refine XS.lload X891.here hx rfl (hb hby at_180) rfl ?_
      show Steps p.tables e below (T891.setTop (mkF m 182 #[.val (.long st), .second, .val (.long c0), .second, .val (.long c1), .second, .val (.long c2), .second, .val (.long hgh), .second, iv fl, .val (.long (65536 : Int64)), .second, .val (.long (65536 : Int64)), .second, .val (.long l1), .second, .val (.long l2), .second, iv (2 : Int32), rv b872, .val (.long got), .second, .val (.long st), .second, .val (.long (st + (65536 : Int64))), .second, .val (.long ((st + (65536 : Int64)) + l1)), .second, .val (.long ((st + (65536 : Int64)) + l1)), .second, .val (.long st), .second, .unset, .unset, .unset, .unset, .unset, .unset] [(.long (65536 : Int64)), (.long (65536 : Int64))])) _
      refine XS.lcmp X891.here hx rfl (hb hby at_182) rfl ?_
      refine XS.ifNo X891.here hx rfl (hb hby at_183) rfl ((if0 _ _).trans (teq (by decide : (lcmpW (65536 : Int64) (65536 : Int64)) = (0 : Int32))).2) ?_
      refine XS.lload X891.here hx rfl (hb hby at_186) rfl ?_
      refine XS.goto X891.here hx rfl (pc0 := 188) (pc' := 193) rfl (hb hby at_188) (by decide) (by decide) ?_
      refine XS.lstore X891.here hx rfl (hb hby at_193) rfl (l' := #[.val (.long st), .second, .val (.long c0), .second, .val (.long c1), .second, .val (.long c2), .second, .val (.long hgh), .second, iv fl, .val (.long (65536 : Int64)), .second, .val (.long (65536 : Int64)), .second, .val (.long l1), .second, .val (.long l2), .second, iv (2 : Int32), rv b872, .val (.long got), .second, .val (.long st), .second, .val (.long (st + (65536 : Int64))), .second, .val (.long ((st + (65536 : Int64)) + l1)), .second, .val (.long ((st + (65536 : Int64)) + l1)), .second, .val (.long st), .second, .val (.long (st + (65536 : Int64))), .second, .unset, .unset, .unset, .unset]) rfl ?_
      refine XS.lload X891.here hx rfl (hb hby at_195) rfl ?_
      show Steps p.tables e below (T891.setTop (mkF m 197 #[.val (.long st), .second, .val (.long c0), .second, .val (.long c1), .second, .val (.long c2), .second, .val (.long hgh), .second, iv fl, .val (.long (65536 : Int64)), .second, .val (.long (65536 : Int64)), .second, .val (.long l1), .second, .val (.long l2), .second, iv (2 : Int32), rv b872, .val (.long got), .second, .val (.long st), .second, .val (.long (st + (65536 : Int64))), .second, .val (.long ((st + (65536 : Int64)) + l1)), .second, .val (.long ((st + (65536 : Int64)) + l1)), .second, .val (.long st), .second, .val (.long (st + (65536 : Int64))), .second, .unset, .unset, .unset, .unset] [(.long l1)])) _
      refine XS.lload X891.here hx rfl (hb hby at_197) rfl ?_
      refine XS.lcmp X891.here hx rfl (hb hby at_199) rfl ?_
      exact kt)
  obtain ⟨ss2, hss2, sg895⟩ : ∃ (ss2 : Int64), ss2 = (if (lcmpW l1 (65536 : Int64)) = (0 : Int32) then ((st + (65536 : Int64)) + l1) else (st + (65536 : Int64))) ∧ ∀ tt, Steps p.tables e below (T891.setTop (mkF m 210 #[.val (.long st), .second, .val (.long c0), .second, .val (.long c1), .second, .val (.long c2), .second, .val (.long hgh), .second, iv fl, .val (.long (65536 : Int64)), .second, .val (.long (65536 : Int64)), .second, .val (.long l1), .second, .val (.long l2), .second, iv (2 : Int32), rv b872, .val (.long got), .second, .val (.long st), .second, .val (.long (st + (65536 : Int64))), .second, .val (.long ((st + (65536 : Int64)) + l1)), .second, .val (.long ((st + (65536 : Int64)) + l1)), .second, .val (.long st), .second, .val (.long (st + (65536 : Int64))), .second, .unset, .unset, .unset, .unset] [(.long ss2)])) tt → Steps p.tables e below (T891.setTop (mkF m 200 #[.val (.long st), .second, .val (.long c0), .second, .val (.long c1), .second, .val (.long c2), .second, .val (.long hgh), .second, iv fl, .val (.long (65536 : Int64)), .second, .val (.long (65536 : Int64)), .second, .val (.long l1), .second, .val (.long l2), .second, iv (2 : Int32), rv b872, .val (.long got), .second, .val (.long st), .second, .val (.long (st + (65536 : Int64))), .second, .val (.long ((st + (65536 : Int64)) + l1)), .second, .val (.long ((st + (65536 : Int64)) + l1)), .second, .val (.long st), .second, .val (.long (st + (65536 : Int64))), .second, .unset, .unset, .unset, .unset] [(.int (lcmpW l1 (65536 : Int64)))])) tt := by
    by_cases hd200_0 : (lcmpW l1 (65536 : Int64)) = (0 : Int32)
    · refine ⟨_, (if_pos hd200_0).symm, fun tt kt => ?_⟩
      show Steps p.tables e below (T891.setTop (mkF m 200 #[.val (.long st), .second, .val (.long c0), .second, .val (.long c1), .second, .val (.long c2), .second, .val (.long hgh), .second, iv fl, .val (.long (65536 : Int64)), .second, .val (.long (65536 : Int64)), .second, .val (.long l1), .second, .val (.long l2), .second, iv (2 : Int32), rv b872, .val (.long got), .second, .val (.long st), .second, .val (.long (st + (65536 : Int64))), .second, .val (.long ((st + (65536 : Int64)) + l1)), .second, .val (.long ((st + (65536 : Int64)) + l1)), .second, .val (.long st), .second, .val (.long (st + (65536 : Int64))), .second, .unset, .unset, .unset, .unset] [(.int (lcmpW l1 (65536 : Int64)))])) _
      refine XS.ifNo X891.here hx rfl (hb hby at_200) rfl ((if0 _ _).trans (teq hd200_0).2) ?_
      refine XS.lload X891.here hx rfl (hb hby at_203) rfl ?_
      refine XS.goto X891.here hx rfl (pc0 := 205) (pc' := 210) rfl (hb hby at_205) (by decide) (by decide) ?_
      exact kt
    · refine ⟨_, (if_neg hd200_0).symm, fun tt kt => ?_⟩
      show Steps p.tables e below (T891.setTop (mkF m 200 #[.val (.long st), .second, .val (.long c0), .second, .val (.long c1), .second, .val (.long c2), .second, .val (.long hgh), .second, iv fl, .val (.long (65536 : Int64)), .second, .val (.long (65536 : Int64)), .second, .val (.long l1), .second, .val (.long l2), .second, iv (2 : Int32), rv b872, .val (.long got), .second, .val (.long st), .second, .val (.long (st + (65536 : Int64))), .second, .val (.long ((st + (65536 : Int64)) + l1)), .second, .val (.long ((st + (65536 : Int64)) + l1)), .second, .val (.long st), .second, .val (.long (st + (65536 : Int64))), .second, .unset, .unset, .unset, .unset] [(.int (lcmpW l1 (65536 : Int64)))])) _
      refine XS.ifYes X891.here hx rfl (pc0 := 200) (pc' := 208) rfl (hb hby at_200) rfl ((if0 _ _).trans (feq hd200_0).2) (by decide) (by decide) ?_
      refine XS.lload X891.here hx rfl (hb hby at_208) rfl ?_
      exact kt
  have go896 : own_S p e below ST T891 (mkF m 210 #[.val (.long st), .second, .val (.long c0), .second, .val (.long c1), .second, .val (.long c2), .second, .val (.long hgh), .second, iv fl, .val (.long (65536 : Int64)), .second, .val (.long (65536 : Int64)), .second, .val (.long l1), .second, .val (.long l2), .second, iv (2 : Int32), rv b872, .val (.long got), .second, .val (.long st), .second, .val (.long (st + (65536 : Int64))), .second, .val (.long ((st + (65536 : Int64)) + l1)), .second, .val (.long ((st + (65536 : Int64)) + l1)), .second, .val (.long st), .second, .val (.long (st + (65536 : Int64))), .second, .unset, .unset, .unset, .unset] [(.long ss2)]) := fun tt kt => go894 tt (sg895 _ kt)
  have go897 : own_S p e below ST T891 (mkF m 222 #[.val (.long st), .second, .val (.long c0), .second, .val (.long c1), .second, .val (.long c2), .second, .val (.long hgh), .second, iv fl, .val (.long (65536 : Int64)), .second, .val (.long (65536 : Int64)), .second, .val (.long l1), .second, .val (.long l2), .second, iv (2 : Int32), rv b872, .val (.long got), .second, .val (.long st), .second, .val (.long (st + (65536 : Int64))), .second, .val (.long ((st + (65536 : Int64)) + l1)), .second, .val (.long ((st + (65536 : Int64)) + l1)), .second, .val (.long st), .second, .val (.long (st + (65536 : Int64))), .second, .val (.long ss2), .second, .unset, .unset] [(.int (lcmpW c0 hgh))]) := fun tt kt => go896 tt (by
      refine XS.lstore X891.here hx rfl (hb hby at_210) rfl (l' := #[.val (.long st), .second, .val (.long c0), .second, .val (.long c1), .second, .val (.long c2), .second, .val (.long hgh), .second, iv fl, .val (.long (65536 : Int64)), .second, .val (.long (65536 : Int64)), .second, .val (.long l1), .second, .val (.long l2), .second, iv (2 : Int32), rv b872, .val (.long got), .second, .val (.long st), .second, .val (.long (st + (65536 : Int64))), .second, .val (.long ((st + (65536 : Int64)) + l1)), .second, .val (.long ((st + (65536 : Int64)) + l1)), .second, .val (.long st), .second, .val (.long (st + (65536 : Int64))), .second, .val (.long ss2), .second, .unset, .unset]) rfl ?_
      refine XS.iload X891.here hx rfl (hb hby at_212) rfl ?_
      refine XS.iconst X891.here hx rfl (hb hby at_214) ?_
      refine XS.icmpNo X891.here hx rfl (hb hby at_215) rfl (flt (by decide : ¬ ((2 : Int32) < (1 : Int32)))).1 ?_
      refine XS.lloadN X891.here hx rfl (hb hby at_218) rfl ?_
      refine XS.lload X891.here hx rfl (hb hby at_219) rfl ?_
      show Steps p.tables e below (T891.setTop (mkF m 221 #[.val (.long st), .second, .val (.long c0), .second, .val (.long c1), .second, .val (.long c2), .second, .val (.long hgh), .second, iv fl, .val (.long (65536 : Int64)), .second, .val (.long (65536 : Int64)), .second, .val (.long l1), .second, .val (.long l2), .second, iv (2 : Int32), rv b872, .val (.long got), .second, .val (.long st), .second, .val (.long (st + (65536 : Int64))), .second, .val (.long ((st + (65536 : Int64)) + l1)), .second, .val (.long ((st + (65536 : Int64)) + l1)), .second, .val (.long st), .second, .val (.long (st + (65536 : Int64))), .second, .val (.long ss2), .second, .unset, .unset] [(.long hgh), (.long c0)])) _
      refine XS.lcmp X891.here hx rfl (hb hby at_221) rfl ?_
      exact kt)
  obtain ⟨ex, hex, sg898⟩ : ∃ (ex : Int64), ex = (if (0 : Int32) < (lcmpW c0 hgh) then st else (if (0 : Int32) < (lcmpW c1 hgh) then (st + (65536 : Int64)) else ((st + (65536 : Int64)) + l1))) ∧ ∀ tt, Steps p.tables e below (T891.setTop (mkF m 278 #[.val (.long st), .second, .val (.long c0), .second, .val (.long c1), .second, .val (.long c2), .second, .val (.long hgh), .second, iv fl, .val (.long (65536 : Int64)), .second, .val (.long (65536 : Int64)), .second, .val (.long l1), .second, .val (.long l2), .second, iv (2 : Int32), rv b872, .val (.long got), .second, .val (.long st), .second, .val (.long (st + (65536 : Int64))), .second, .val (.long ((st + (65536 : Int64)) + l1)), .second, .val (.long ((st + (65536 : Int64)) + l1)), .second, .val (.long st), .second, .val (.long (st + (65536 : Int64))), .second, .val (.long ss2), .second, .val (.long ex), .second] [])) tt → Steps p.tables e below (T891.setTop (mkF m 222 #[.val (.long st), .second, .val (.long c0), .second, .val (.long c1), .second, .val (.long c2), .second, .val (.long hgh), .second, iv fl, .val (.long (65536 : Int64)), .second, .val (.long (65536 : Int64)), .second, .val (.long l1), .second, .val (.long l2), .second, iv (2 : Int32), rv b872, .val (.long got), .second, .val (.long st), .second, .val (.long (st + (65536 : Int64))), .second, .val (.long ((st + (65536 : Int64)) + l1)), .second, .val (.long ((st + (65536 : Int64)) + l1)), .second, .val (.long st), .second, .val (.long (st + (65536 : Int64))), .second, .val (.long ss2), .second, .unset, .unset] [(.int (lcmpW c0 hgh))])) tt := by
    by_cases hd222_0 : (0 : Int32) < (lcmpW c0 hgh)
    · refine ⟨_, (if_pos hd222_0).symm, fun tt kt => ?_⟩
      show Steps p.tables e below (T891.setTop (mkF m 222 #[.val (.long st), .second, .val (.long c0), .second, .val (.long c1), .second, .val (.long c2), .second, .val (.long hgh), .second, iv fl, .val (.long (65536 : Int64)), .second, .val (.long (65536 : Int64)), .second, .val (.long l1), .second, .val (.long l2), .second, iv (2 : Int32), rv b872, .val (.long got), .second, .val (.long st), .second, .val (.long (st + (65536 : Int64))), .second, .val (.long ((st + (65536 : Int64)) + l1)), .second, .val (.long ((st + (65536 : Int64)) + l1)), .second, .val (.long st), .second, .val (.long (st + (65536 : Int64))), .second, .val (.long ss2), .second, .unset, .unset] [(.int (lcmpW c0 hgh))])) _
      refine XS.ifNo X891.here hx rfl (hb hby at_222) rfl ((if0 _ _).trans (tlt hd222_0).2.2.2) ?_
      refine XS.lload X891.here hx rfl (hb hby at_225) rfl ?_
      refine XS.lstore X891.here hx rfl (hb hby at_227) rfl (l' := #[.val (.long st), .second, .val (.long c0), .second, .val (.long c1), .second, .val (.long c2), .second, .val (.long hgh), .second, iv fl, .val (.long (65536 : Int64)), .second, .val (.long (65536 : Int64)), .second, .val (.long l1), .second, .val (.long l2), .second, iv (2 : Int32), rv b872, .val (.long got), .second, .val (.long st), .second, .val (.long (st + (65536 : Int64))), .second, .val (.long ((st + (65536 : Int64)) + l1)), .second, .val (.long ((st + (65536 : Int64)) + l1)), .second, .val (.long st), .second, .val (.long (st + (65536 : Int64))), .second, .val (.long ss2), .second, .val (.long st), .second]) rfl ?_
      refine XS.goto X891.here hx rfl (pc0 := 229) (pc' := 278) rfl (hb hby at_229) (by decide) (by decide) ?_
      exact kt
    · by_cases hd243_1 : (0 : Int32) < (lcmpW c1 hgh)
      · refine ⟨_, ((if_neg hd222_0).trans (if_pos hd243_1)).symm, fun tt kt => ?_⟩
        show Steps p.tables e below (T891.setTop (mkF m 222 #[.val (.long st), .second, .val (.long c0), .second, .val (.long c1), .second, .val (.long c2), .second, .val (.long hgh), .second, iv fl, .val (.long (65536 : Int64)), .second, .val (.long (65536 : Int64)), .second, .val (.long l1), .second, .val (.long l2), .second, iv (2 : Int32), rv b872, .val (.long got), .second, .val (.long st), .second, .val (.long (st + (65536 : Int64))), .second, .val (.long ((st + (65536 : Int64)) + l1)), .second, .val (.long ((st + (65536 : Int64)) + l1)), .second, .val (.long st), .second, .val (.long (st + (65536 : Int64))), .second, .val (.long ss2), .second, .unset, .unset] [(.int (lcmpW c0 hgh))])) _
        refine XS.ifYes X891.here hx rfl (pc0 := 222) (pc' := 232) rfl (hb hby at_222) rfl ((if0 _ _).trans (flt hd222_0).2.2.2) (by decide) (by decide) ?_
        refine XS.iload X891.here hx rfl (hb hby at_232) rfl ?_
        refine XS.iconst X891.here hx rfl (hb hby at_234) ?_
        refine XS.icmpNo X891.here hx rfl (hb hby at_235) rfl (flt (by decide : ¬ ((2 : Int32) < (2 : Int32)))).1 ?_
        refine XS.lload X891.here hx rfl (hb hby at_238) rfl ?_
        refine XS.lload X891.here hx rfl (hb hby at_240) rfl ?_
        show Steps p.tables e below (T891.setTop (mkF m 242 #[.val (.long st), .second, .val (.long c0), .second, .val (.long c1), .second, .val (.long c2), .second, .val (.long hgh), .second, iv fl, .val (.long (65536 : Int64)), .second, .val (.long (65536 : Int64)), .second, .val (.long l1), .second, .val (.long l2), .second, iv (2 : Int32), rv b872, .val (.long got), .second, .val (.long st), .second, .val (.long (st + (65536 : Int64))), .second, .val (.long ((st + (65536 : Int64)) + l1)), .second, .val (.long ((st + (65536 : Int64)) + l1)), .second, .val (.long st), .second, .val (.long (st + (65536 : Int64))), .second, .val (.long ss2), .second, .unset, .unset] [(.long hgh), (.long c1)])) _
        refine XS.lcmp X891.here hx rfl (hb hby at_242) rfl ?_
        refine XS.ifNo X891.here hx rfl (hb hby at_243) rfl ((if0 _ _).trans (tlt hd243_1).2.2.2) ?_
        refine XS.lload X891.here hx rfl (hb hby at_246) rfl ?_
        refine XS.lstore X891.here hx rfl (hb hby at_248) rfl (l' := #[.val (.long st), .second, .val (.long c0), .second, .val (.long c1), .second, .val (.long c2), .second, .val (.long hgh), .second, iv fl, .val (.long (65536 : Int64)), .second, .val (.long (65536 : Int64)), .second, .val (.long l1), .second, .val (.long l2), .second, iv (2 : Int32), rv b872, .val (.long got), .second, .val (.long st), .second, .val (.long (st + (65536 : Int64))), .second, .val (.long ((st + (65536 : Int64)) + l1)), .second, .val (.long ((st + (65536 : Int64)) + l1)), .second, .val (.long st), .second, .val (.long (st + (65536 : Int64))), .second, .val (.long ss2), .second, .val (.long (st + (65536 : Int64))), .second]) rfl ?_
        refine XS.goto X891.here hx rfl (pc0 := 250) (pc' := 278) rfl (hb hby at_250) (by decide) (by decide) ?_
        exact kt
      · refine ⟨_, ((if_neg hd222_0).trans (if_neg hd243_1)).symm, fun tt kt => ?_⟩
        show Steps p.tables e below (T891.setTop (mkF m 222 #[.val (.long st), .second, .val (.long c0), .second, .val (.long c1), .second, .val (.long c2), .second, .val (.long hgh), .second, iv fl, .val (.long (65536 : Int64)), .second, .val (.long (65536 : Int64)), .second, .val (.long l1), .second, .val (.long l2), .second, iv (2 : Int32), rv b872, .val (.long got), .second, .val (.long st), .second, .val (.long (st + (65536 : Int64))), .second, .val (.long ((st + (65536 : Int64)) + l1)), .second, .val (.long ((st + (65536 : Int64)) + l1)), .second, .val (.long st), .second, .val (.long (st + (65536 : Int64))), .second, .val (.long ss2), .second, .unset, .unset] [(.int (lcmpW c0 hgh))])) _
        refine XS.ifYes X891.here hx rfl (pc0 := 222) (pc' := 232) rfl (hb hby at_222) rfl ((if0 _ _).trans (flt hd222_0).2.2.2) (by decide) (by decide) ?_
        refine XS.iload X891.here hx rfl (hb hby at_232) rfl ?_
        refine XS.iconst X891.here hx rfl (hb hby at_234) ?_
        refine XS.icmpNo X891.here hx rfl (hb hby at_235) rfl (flt (by decide : ¬ ((2 : Int32) < (2 : Int32)))).1 ?_
        refine XS.lload X891.here hx rfl (hb hby at_238) rfl ?_
        refine XS.lload X891.here hx rfl (hb hby at_240) rfl ?_
        show Steps p.tables e below (T891.setTop (mkF m 242 #[.val (.long st), .second, .val (.long c0), .second, .val (.long c1), .second, .val (.long c2), .second, .val (.long hgh), .second, iv fl, .val (.long (65536 : Int64)), .second, .val (.long (65536 : Int64)), .second, .val (.long l1), .second, .val (.long l2), .second, iv (2 : Int32), rv b872, .val (.long got), .second, .val (.long st), .second, .val (.long (st + (65536 : Int64))), .second, .val (.long ((st + (65536 : Int64)) + l1)), .second, .val (.long ((st + (65536 : Int64)) + l1)), .second, .val (.long st), .second, .val (.long (st + (65536 : Int64))), .second, .val (.long ss2), .second, .unset, .unset] [(.long hgh), (.long c1)])) _
        refine XS.lcmp X891.here hx rfl (hb hby at_242) rfl ?_
        refine XS.ifYes X891.here hx rfl (pc0 := 243) (pc' := 253) rfl (hb hby at_243) rfl ((if0 _ _).trans (flt hd243_1).2.2.2) (by decide) (by decide) ?_
        refine XS.iload X891.here hx rfl (hb hby at_253) rfl ?_
        refine XS.iconst X891.here hx rfl (hb hby at_255) ?_
        refine XS.icmpYes X891.here hx rfl (pc0 := 256) (pc' := 274) rfl (hb hby at_256) rfl (tlt (by decide : (2 : Int32) < (3 : Int32))).1 (by decide) (by decide) ?_
        refine XS.lload X891.here hx rfl (hb hby at_274) rfl ?_
        show Steps p.tables e below (T891.setTop (mkF m 276 #[.val (.long st), .second, .val (.long c0), .second, .val (.long c1), .second, .val (.long c2), .second, .val (.long hgh), .second, iv fl, .val (.long (65536 : Int64)), .second, .val (.long (65536 : Int64)), .second, .val (.long l1), .second, .val (.long l2), .second, iv (2 : Int32), rv b872, .val (.long got), .second, .val (.long st), .second, .val (.long (st + (65536 : Int64))), .second, .val (.long ((st + (65536 : Int64)) + l1)), .second, .val (.long ((st + (65536 : Int64)) + l1)), .second, .val (.long st), .second, .val (.long (st + (65536 : Int64))), .second, .val (.long ss2), .second, .unset, .unset] [(.long ((st + (65536 : Int64)) + l1))])) _
        refine XS.lstore X891.here hx rfl (hb hby at_276) rfl (l' := #[.val (.long st), .second, .val (.long c0), .second, .val (.long c1), .second, .val (.long c2), .second, .val (.long hgh), .second, iv fl, .val (.long (65536 : Int64)), .second, .val (.long (65536 : Int64)), .second, .val (.long l1), .second, .val (.long l2), .second, iv (2 : Int32), rv b872, .val (.long got), .second, .val (.long st), .second, .val (.long (st + (65536 : Int64))), .second, .val (.long ((st + (65536 : Int64)) + l1)), .second, .val (.long ((st + (65536 : Int64)) + l1)), .second, .val (.long st), .second, .val (.long (st + (65536 : Int64))), .second, .val (.long ss2), .second, .val (.long ((st + (65536 : Int64)) + l1)), .second]) rfl ?_
        exact kt
  have go899 : own_S p e below ST T891 (mkF m 278 #[.val (.long st), .second, .val (.long c0), .second, .val (.long c1), .second, .val (.long c2), .second, .val (.long hgh), .second, iv fl, .val (.long (65536 : Int64)), .second, .val (.long (65536 : Int64)), .second, .val (.long l1), .second, .val (.long l2), .second, iv (2 : Int32), rv b872, .val (.long got), .second, .val (.long st), .second, .val (.long (st + (65536 : Int64))), .second, .val (.long ((st + (65536 : Int64)) + l1)), .second, .val (.long ((st + (65536 : Int64)) + l1)), .second, .val (.long st), .second, .val (.long (st + (65536 : Int64))), .second, .val (.long ss2), .second, .val (.long ex), .second] []) := fun tt kt => go897 tt (sg898 _ kt)
  have go900 : own_S p e below ST T891 (mkF m 283 #[.val (.long st), .second, .val (.long c0), .second, .val (.long c1), .second, .val (.long c2), .second, .val (.long hgh), .second, iv fl, .val (.long (65536 : Int64)), .second, .val (.long (65536 : Int64)), .second, .val (.long l1), .second, .val (.long l2), .second, iv (2 : Int32), rv b872, .val (.long got), .second, .val (.long st), .second, .val (.long (st + (65536 : Int64))), .second, .val (.long ((st + (65536 : Int64)) + l1)), .second, .val (.long ((st + (65536 : Int64)) + l1)), .second, .val (.long st), .second, .val (.long (st + (65536 : Int64))), .second, .val (.long ss2), .second, .val (.long ex), .second] [(.int (lcmpW got ex))]) := fun tt kt => go899 tt (by
      refine XS.lload X891.here hx rfl (hb hby at_278) rfl ?_
      refine XS.lload X891.here hx rfl (hb hby at_280) rfl ?_
      refine XS.lcmp X891.here hx rfl (hb hby at_282) rfl ?_
      exact kt)
  have hfin : (lcmpW got ex) = (0 : Int32) := by
    rw [lw_eq, hgot, hex]
    all_goals (try simp only [own_gt])
    all_goals (by_cases y0 : (0 : Int32) < lcmpW c0 hgh <;> by_cases y1 : (0 : Int32) < lcmpW c1 hgh <;> simp [y0, y1])
  have go901 : own_S p e below ST T891 (mkF m 291 #[.val (.long st), .second, .val (.long c0), .second, .val (.long c1), .second, .val (.long c2), .second, .val (.long hgh), .second, iv fl, .val (.long (65536 : Int64)), .second, .val (.long (65536 : Int64)), .second, .val (.long l1), .second, .val (.long l2), .second, iv (2 : Int32), rv b872, .val (.long got), .second, .val (.long st), .second, .val (.long (st + (65536 : Int64))), .second, .val (.long ((st + (65536 : Int64)) + l1)), .second, .val (.long ((st + (65536 : Int64)) + l1)), .second, .val (.long st), .second, .val (.long (st + (65536 : Int64))), .second, .val (.long ss2), .second, .val (.long ex), .second] [(.int (1 : Int32))]) := fun tt kt => go900 tt (by
      refine XS.ifNo X891.here hx rfl (hb hby at_283) rfl ((if0 _ _).trans (teq hfin).2) ?_
      refine XS.iconst X891.here hx rfl (hb hby at_286) ?_
      refine XS.goto X891.here hx rfl (pc0 := 287) (pc' := 291) rfl (hb hby at_287) (by decide) (by decide) ?_
      exact kt)
  obtain ⟨fs, hr, hrun, hended, hW, hsame⟩ := X891.leave (v := some (.int (1 : Int32))) (fun h => by rw [Bd.returns] at h; cases h) (hlocks := by first | exact BodyLoose.notSynchronized Bd | exact Body.notSynchronized Bd)
  refine ⟨_, _, pre0 _ (go901 _ ?_), hrun, hended, _, _, rfl, ?_, ⟨_, rfl⟩, hW, hsame.mono (by decide) (by decide)⟩
  · exact retN X891 hx (t := .boolean) Bd.returns (by simp) (hb hby at_291) hr
  · show Q0n2b Z st c0 c1 c2 hgh fl h0 n0 _ T891.heap _
    rw [eh891]
    exact ⟨rfl, N891⟩
theorem ef0n3aa (m : MethodId) (x0 : Int64) (x1 : Int64) (x2 : Int64) (x3 : Int64) (x4 : Int64) (x5 : Int32) : entryFrame m #[(.long x0), (.long x1), (.long x2), (.long x3), (.long x4), (.int x5)] maxLocals = mkF m 0 #[.val (.long x0), .second, .val (.long x1), .second, .val (.long x2), .second, .val (.long x3), .second, .val (.long x4), .second, .val (.int x5), .unset, .unset, .unset, .unset, .unset, .unset, .unset, .unset, .unset, .unset, .unset, .unset, .unset, .unset, .unset, .unset, .unset, .unset, .unset, .unset, .unset, .unset, .unset, .unset, .unset, .unset, .unset, .unset] [] := by first | (simp [entryFrame, mkF, argsToLocals, Value.category, maxLocals]; done) | rfl
def Q0n3aa (Z : State) (st : Int64) (c0 : Int64) (c1 : Int64) (c2 : Int64) (hgh : Int64) (fl : Int32) (h0 : Heap) (n0 : Nat) (v : Option Value) (h : Heap) (L : List Loc) : Prop := v = some (.int 1) ∧ Fr n0 L
set_option maxRecDepth 65536 in
set_option maxHeartbeats 40000000 in
theorem rm0n3aa (l : Launch) (Z : State) (a0 : Array Value) (hw : ∀ d ∈ tables_1, d.before a0 Z = true) (ws : List Jvm.Cond) (st : Int64) (c0 : Int64) (c1 : Int64) (c2 : Int64) (hgh : Int64) (fl : Int32) (h0 : Heap) (n0 : Nat) (Z0 : n0 ≤ h0.size) (hk : ((fl.toUInt32 >>> ((3 : Int32) &&& 31).toUInt32).toInt32) &&& 3 = 3) (hb0 : (fl &&& (1 : Int32) = (0 : Int32))) (hb1 : (fl &&& (2 : Int32) = (0 : Int32))) :
    MetFree l x (head1 (Jvm.Cond.code x code maxLocals ret :: ws) room_1) (fun aa UU => aa = #[(.long st), (.long c0), (.long c1), (.long c2), (.long hgh), (.int fl)] ∧ Z.Warmed39 UU.vm ∧ UU.heap = h0) (fun _ _ _ _ _ => True) (fun _ UU oo UU' => ∃ vv LL, oo = .returned vv ∧ Q0n3aa Z st c0 c1 c2 hgh fl h0 n0 vv UU'.heap LL ∧ FrameEnd UU oo UU' LL room_1.cells room_1.slots) := by
  have W : ∀ {d : Jvm.Cond} (i : Nat), tables_1[i]? = some d → d.before a0 Z = true := fun i h => hw _ (List.mem_of_getElem? h)
  refine MetFree.of_bodySF (plainFor_of_name pn166) hisR ?_
  intro p e s m args below meth c s₁ Bd hml0 hP hK
  obtain ⟨rfl, hZ, hh⟩ := hP
  have hx := Bd.exec
  have hby := Bd.bytes
  have hml : c.maxLocals = 39 := hml0
  have hown : s.vm.findClass "com/example/altocommit/altocommit/store/LogIndexAllAtOrBelowUpToPinLaw" = some m.cls := findClass_of_methodNamed Bd.named
  have hnm := (name_of_methodNamed Bd.named Bd.method).1
  have X0 : Stand p l e room_1 s m #[(.long st), (.long c0), (.long c1), (.long c2), (.long hgh), (.int fl)] below meth c s₁ [] 0 0 := Stand.of_body Bd
  have e0 : s₁.heap = h0 := by rw [← hh, Bd.state]; rfl
  have N0 := Fr.nil n0
  have pre0 : ∀ tt, Steps p.tables e below (s₁.setTop (mkF m 0 #[.val (.long st), .second, .val (.long c0), .second, .val (.long c1), .second, .val (.long c2), .second, .val (.long hgh), .second, iv fl, .unset, .unset, .unset, .unset, .unset, .unset, .unset, .unset, .unset, .unset, .unset, .unset, .unset, .unset, .unset, .unset, .unset, .unset, .unset, .unset, .unset, .unset, .unset, .unset, .unset, .unset, .unset, .unset] [])) tt → Steps p.tables e below (s₁.setTop (entryFrame m #[(.long st), (.long c0), (.long c1), (.long c2), (.long hgh), (.int fl)] maxLocals)) tt := fun tt kt => castTop (ef0n3aa m st c0 c1 c2 hgh fl) kt
  obtain ⟨ST, hST⟩ : ∃ z : State, z = s₁.setTop (mkF m 0 #[.val (.long st), .second, .val (.long c0), .second, .val (.long c1), .second, .val (.long c2), .second, .val (.long hgh), .second, iv fl, .unset, .unset, .unset, .unset, .unset, .unset, .unset, .unset, .unset, .unset, .unset, .unset, .unset, .unset, .unset, .unset, .unset, .unset, .unset, .unset, .unset, .unset, .unset, .unset, .unset, .unset, .unset, .unset] []) := ⟨_, rfl⟩
  rw [← hST] at pre0
  have go902 : own_S p e below ST s₁ (mkF m 18 #[.val (.long st), .second, .val (.long c0), .second, .val (.long c1), .second, .val (.long c2), .second, .val (.long hgh), .second, iv fl, .val (.long (65536 : Int64)), .second, .unset, .unset, .unset, .unset, .unset, .unset, .unset, .unset, .unset, .unset, .unset, .unset, .unset, .unset, .unset, .unset, .unset, .unset, .unset, .unset, .unset, .unset, .unset, .unset, .unset, .unset] [(.long (1 : Int64))]) := fun tt kt => (by
      rw [hST]
      show Steps p.tables e below (s₁.setTop (mkF m 0 #[.val (.long st), .second, .val (.long c0), .second, .val (.long c1), .second, .val (.long c2), .second, .val (.long hgh), .second, iv fl, .unset, .unset, .unset, .unset, .unset, .unset, .unset, .unset, .unset, .unset, .unset, .unset, .unset, .unset, .unset, .unset, .unset, .unset, .unset, .unset, .unset, .unset, .unset, .unset, .unset, .unset, .unset, .unset] [])) _
      refine X0.ldc2Long hx hown (mvT hZ (W 0 rfl)) (g := (mkF m 0 #[.val (.long st), .second, .val (.long c0), .second, .val (.long c1), .second, .val (.long c2), .second, .val (.long hgh), .second, iv fl, .unset, .unset, .unset, .unset, .unset, .unset, .unset, .unset, .unset, .unset, .unset, .unset, .unset, .unset, .unset, .unset, .unset, .unset, .unset, .unset, .unset, .unset, .unset, .unset, .unset, .unset, .unset, .unset] [])) rfl (hb hby at_0) _ ?_
      refine XS.lstore X0.here hx rfl (hb hby at_3) rfl (l' := #[.val (.long st), .second, .val (.long c0), .second, .val (.long c1), .second, .val (.long c2), .second, .val (.long hgh), .second, iv fl, .val (.long (65536 : Int64)), .second, .unset, .unset, .unset, .unset, .unset, .unset, .unset, .unset, .unset, .unset, .unset, .unset, .unset, .unset, .unset, .unset, .unset, .unset, .unset, .unset, .unset, .unset, .unset, .unset, .unset, .unset]) rfl ?_
      refine XS.iload X0.here hx rfl (hb hby at_5) rfl ?_
      refine XS.iconst X0.here hx rfl (hb hby at_7) ?_
      refine XS.iand X0.here hx rfl (hb hby at_8) rfl ?_
      refine XS.ifYes X0.here hx rfl (pc0 := 9) (pc' := 17) rfl (hb hby at_9) rfl ((if0 _ _).trans (teq hb0).1) (by decide) (by decide) ?_
      show Steps p.tables e below (s₁.setTop (mkF m 17 #[.val (.long st), .second, .val (.long c0), .second, .val (.long c1), .second, .val (.long c2), .second, .val (.long hgh), .second, iv fl, .val (.long (65536 : Int64)), .second, .unset, .unset, .unset, .unset, .unset, .unset, .unset, .unset, .unset, .unset, .unset, .unset, .unset, .unset, .unset, .unset, .unset, .unset, .unset, .unset, .unset, .unset, .unset, .unset, .unset, .unset] [])) _
      refine XS.lconst X0.here hx rfl (hb hby at_17) ?_
      exact kt)
  have go903 : own_S p e below ST s₁ (mkF m 33 #[.val (.long st), .second, .val (.long c0), .second, .val (.long c1), .second, .val (.long c2), .second, .val (.long hgh), .second, iv fl, .val (.long (65536 : Int64)), .second, .val (.long (1 : Int64)), .second, .unset, .unset, .unset, .unset, .unset, .unset, .unset, .unset, .unset, .unset, .unset, .unset, .unset, .unset, .unset, .unset, .unset, .unset, .unset, .unset, .unset, .unset, .unset, .unset] [(.long (1 : Int64))]) := fun tt kt => go902 tt (by
      refine XS.lstore X0.here hx rfl (hb hby at_18) rfl (l' := #[.val (.long st), .second, .val (.long c0), .second, .val (.long c1), .second, .val (.long c2), .second, .val (.long hgh), .second, iv fl, .val (.long (65536 : Int64)), .second, .val (.long (1 : Int64)), .second, .unset, .unset, .unset, .unset, .unset, .unset, .unset, .unset, .unset, .unset, .unset, .unset, .unset, .unset, .unset, .unset, .unset, .unset, .unset, .unset, .unset, .unset, .unset, .unset]) rfl ?_
      refine XS.iload X0.here hx rfl (hb hby at_20) rfl ?_
      refine XS.iconst X0.here hx rfl (hb hby at_22) ?_
      refine XS.iand X0.here hx rfl (hb hby at_23) rfl ?_
      refine XS.ifYes X0.here hx rfl (pc0 := 24) (pc' := 32) rfl (hb hby at_24) rfl ((if0 _ _).trans (teq hb1).1) (by decide) (by decide) ?_
      refine XS.lconst X0.here hx rfl (hb hby at_32) ?_
      exact kt)
  have go904 : own_S p e below ST s₁ (mkF m 39 #[.val (.long st), .second, .val (.long c0), .second, .val (.long c1), .second, .val (.long c2), .second, .val (.long hgh), .second, iv fl, .val (.long (65536 : Int64)), .second, .val (.long (1 : Int64)), .second, .val (.long (1 : Int64)), .second, .unset, .unset, .unset, .unset, .unset, .unset, .unset, .unset, .unset, .unset, .unset, .unset, .unset, .unset, .unset, .unset, .unset, .unset, .unset, .unset, .unset, .unset] [(.int (fl &&& (4 : Int32)))]) := fun tt kt => go903 tt (by
      refine XS.lstore X0.here hx rfl (hb hby at_33) rfl (l' := #[.val (.long st), .second, .val (.long c0), .second, .val (.long c1), .second, .val (.long c2), .second, .val (.long hgh), .second, iv fl, .val (.long (65536 : Int64)), .second, .val (.long (1 : Int64)), .second, .val (.long (1 : Int64)), .second, .unset, .unset, .unset, .unset, .unset, .unset, .unset, .unset, .unset, .unset, .unset, .unset, .unset, .unset, .unset, .unset, .unset, .unset, .unset, .unset, .unset, .unset]) rfl ?_
      refine XS.iload X0.here hx rfl (hb hby at_35) rfl ?_
      refine XS.iconst X0.here hx rfl (hb hby at_37) ?_
      refine XS.iand X0.here hx rfl (hb hby at_38) rfl ?_
      exact kt)
  obtain ⟨l2, hl2, sg905⟩ : ∃ (l2 : Int64), l2 = (if (fl &&& (4 : Int32)) = (0 : Int32) then (1 : Int64) else (65536 : Int64)) ∧ ∀ tt, Steps p.tables e below (s₁.setTop (mkF m 48 #[.val (.long st), .second, .val (.long c0), .second, .val (.long c1), .second, .val (.long c2), .second, .val (.long hgh), .second, iv fl, .val (.long (65536 : Int64)), .second, .val (.long (1 : Int64)), .second, .val (.long (1 : Int64)), .second, .unset, .unset, .unset, .unset, .unset, .unset, .unset, .unset, .unset, .unset, .unset, .unset, .unset, .unset, .unset, .unset, .unset, .unset, .unset, .unset, .unset, .unset] [(.long l2)])) tt → Steps p.tables e below (s₁.setTop (mkF m 39 #[.val (.long st), .second, .val (.long c0), .second, .val (.long c1), .second, .val (.long c2), .second, .val (.long hgh), .second, iv fl, .val (.long (65536 : Int64)), .second, .val (.long (1 : Int64)), .second, .val (.long (1 : Int64)), .second, .unset, .unset, .unset, .unset, .unset, .unset, .unset, .unset, .unset, .unset, .unset, .unset, .unset, .unset, .unset, .unset, .unset, .unset, .unset, .unset, .unset, .unset] [(.int (fl &&& (4 : Int32)))])) tt := by
    by_cases hd39_0 : (fl &&& (4 : Int32)) = (0 : Int32)
    · refine ⟨_, (if_pos hd39_0).symm, fun tt kt => ?_⟩
      show Steps p.tables e below (s₁.setTop (mkF m 39 #[.val (.long st), .second, .val (.long c0), .second, .val (.long c1), .second, .val (.long c2), .second, .val (.long hgh), .second, iv fl, .val (.long (65536 : Int64)), .second, .val (.long (1 : Int64)), .second, .val (.long (1 : Int64)), .second, .unset, .unset, .unset, .unset, .unset, .unset, .unset, .unset, .unset, .unset, .unset, .unset, .unset, .unset, .unset, .unset, .unset, .unset, .unset, .unset, .unset, .unset] [(.int (fl &&& (4 : Int32)))])) _
      refine XS.ifYes X0.here hx rfl (pc0 := 39) (pc' := 47) rfl (hb hby at_39) rfl ((if0 _ _).trans (teq hd39_0).1) (by decide) (by decide) ?_
      refine XS.lconst X0.here hx rfl (hb hby at_47) ?_
      exact kt
    · refine ⟨_, (if_neg hd39_0).symm, fun tt kt => ?_⟩
      show Steps p.tables e below (s₁.setTop (mkF m 39 #[.val (.long st), .second, .val (.long c0), .second, .val (.long c1), .second, .val (.long c2), .second, .val (.long hgh), .second, iv fl, .val (.long (65536 : Int64)), .second, .val (.long (1 : Int64)), .second, .val (.long (1 : Int64)), .second, .unset, .unset, .unset, .unset, .unset, .unset, .unset, .unset, .unset, .unset, .unset, .unset, .unset, .unset, .unset, .unset, .unset, .unset, .unset, .unset, .unset, .unset] [(.int (fl &&& (4 : Int32)))])) _
      refine XS.ifNo X0.here hx rfl (hb hby at_39) rfl ((if0 _ _).trans (feq hd39_0).1) ?_
      refine XS.lload X0.here hx rfl (hb hby at_42) rfl ?_
      refine XS.goto X0.here hx rfl (pc0 := 44) (pc' := 48) rfl (hb hby at_44) (by decide) (by decide) ?_
      exact kt
  have go906 : own_S p e below ST s₁ (mkF m 48 #[.val (.long st), .second, .val (.long c0), .second, .val (.long c1), .second, .val (.long c2), .second, .val (.long hgh), .second, iv fl, .val (.long (65536 : Int64)), .second, .val (.long (1 : Int64)), .second, .val (.long (1 : Int64)), .second, .unset, .unset, .unset, .unset, .unset, .unset, .unset, .unset, .unset, .unset, .unset, .unset, .unset, .unset, .unset, .unset, .unset, .unset, .unset, .unset, .unset, .unset] [(.long l2)]) := fun tt kt => go904 tt (sg905 _ kt)
  have go907 : own_S p e below ST s₁ (mkF m 58 #[.val (.long st), .second, .val (.long c0), .second, .val (.long c1), .second, .val (.long c2), .second, .val (.long hgh), .second, iv fl, .val (.long (65536 : Int64)), .second, .val (.long (1 : Int64)), .second, .val (.long (1 : Int64)), .second, .val (.long l2), .second, iv (((fl.toUInt32 >>> ((3 : Int32) &&& 31).toUInt32).toInt32) &&& (3 : Int32)), .unset, .unset, .unset, .unset, .unset, .unset, .unset, .unset, .unset, .unset, .unset, .unset, .unset, .unset, .unset, .unset, .unset, .unset, .unset] []) := fun tt kt => go906 tt (by
      refine XS.lstore X0.here hx rfl (hb hby at_48) rfl (l' := #[.val (.long st), .second, .val (.long c0), .second, .val (.long c1), .second, .val (.long c2), .second, .val (.long hgh), .second, iv fl, .val (.long (65536 : Int64)), .second, .val (.long (1 : Int64)), .second, .val (.long (1 : Int64)), .second, .val (.long l2), .second, .unset, .unset, .unset, .unset, .unset, .unset, .unset, .unset, .unset, .unset, .unset, .unset, .unset, .unset, .unset, .unset, .unset, .unset, .unset, .unset]) rfl ?_
      refine XS.iload X0.here hx rfl (hb hby at_50) rfl ?_
      refine XS.iconst X0.here hx rfl (hb hby at_52) ?_
      refine XS.iushr X0.here hx rfl (hb hby at_53) rfl ?_
      refine XS.iconst X0.here hx rfl (hb hby at_54) ?_
      refine XS.iand X0.here hx rfl (hb hby at_55) rfl ?_
      show Steps p.tables e below (s₁.setTop (mkF m 56 #[.val (.long st), .second, .val (.long c0), .second, .val (.long c1), .second, .val (.long c2), .second, .val (.long hgh), .second, iv fl, .val (.long (65536 : Int64)), .second, .val (.long (1 : Int64)), .second, .val (.long (1 : Int64)), .second, .val (.long l2), .second, .unset, .unset, .unset, .unset, .unset, .unset, .unset, .unset, .unset, .unset, .unset, .unset, .unset, .unset, .unset, .unset, .unset, .unset, .unset, .unset] [(.int (((fl.toUInt32 >>> ((3 : Int32) &&& 31).toUInt32).toInt32) &&& (3 : Int32)))])) _
      refine XS.istore X0.here hx rfl (hb hby at_56) rfl (l' := #[.val (.long st), .second, .val (.long c0), .second, .val (.long c1), .second, .val (.long c2), .second, .val (.long hgh), .second, iv fl, .val (.long (65536 : Int64)), .second, .val (.long (1 : Int64)), .second, .val (.long (1 : Int64)), .second, .val (.long l2), .second, iv (((fl.toUInt32 >>> ((3 : Int32) &&& 31).toUInt32).toInt32) &&& (3 : Int32)), .unset, .unset, .unset, .unset, .unset, .unset, .unset, .unset, .unset, .unset, .unset, .unset, .unset, .unset, .unset, .unset, .unset, .unset, .unset]) rfl ?_
      exact kt)
  rw [hk] at go907
  obtain ⟨b908, g908⟩ : ∃ z, z = h0.size := ⟨_, rfl⟩
  obtain ⟨T908, h908, X908, e908, E908, A908, D908, -, st908⟩ := newO X0 hx hZ hown (W 1 rfl) (W 2 rfl) (W 3 rfl) e0 (g := (mkF m 58 #[.val (.long st), .second, .val (.long c0), .second, .val (.long c1), .second, .val (.long c2), .second, .val (.long hgh), .second, iv fl, .val (.long (65536 : Int64)), .second, .val (.long (1 : Int64)), .second, .val (.long (1 : Int64)), .second, .val (.long l2), .second, iv (3 : Int32), .unset, .unset, .unset, .unset, .unset, .unset, .unset, .unset, .unset, .unset, .unset, .unset, .unset, .unset, .unset, .unset, .unset, .unset, .unset] [])) rfl (hb hby at_58) (by decide) (by decide)
  rw [← g908] at A908 D908 st908
  have ge_b908 : n0 ≤ b908 := Nat.le_trans Z0 (Nat.le_of_eq g908.symm)
  have F908_starts : Fld Z h908 b908 "com/example/altocommit/altocommit/store/LogIndex" "starts" "[J" .null := D908 (Or.inl (W 12 rfl)) (ty := (.array .long)) (by decide)
  have F908_lows : Fld Z h908 b908 "com/example/altocommit/altocommit/store/LogIndex" "lows" "[J" .null := D908 (Or.inl (W 14 rfl)) (ty := (.array .long)) (by decide)
  have F908_reaches : Fld Z h908 b908 "com/example/altocommit/altocommit/store/LogIndex" "reaches" "[J" .null := D908 (Or.inl (W 16 rfl)) (ty := (.array .long)) (by decide)
  have F908_end : Fld Z h908 b908 "com/example/altocommit/altocommit/store/LogIndex" "end" "J" (.long (0 : Int64)) := D908 (Or.inl (W 18 rfl)) (ty := .long) (by decide)
  have F908_count : Fld Z h908 b908 "com/example/altocommit/altocommit/store/LogIndex" "count" "I" (.int (0 : Int32)) := D908 (Or.inl (W 25 rfl)) (ty := .int) (by decide)
  have F908_highest : Fld Z h908 b908 "com/example/altocommit/altocommit/store/LogIndex" "highest" "J" (.long (0 : Int64)) := D908 (Or.inl (W 32 rfl)) (ty := .long) (by decide)
  have go909 : own_S p e below ST T908 (mkF m 61 #[.val (.long st), .second, .val (.long c0), .second, .val (.long c1), .second, .val (.long c2), .second, .val (.long hgh), .second, iv fl, .val (.long (65536 : Int64)), .second, .val (.long (1 : Int64)), .second, .val (.long (1 : Int64)), .second, .val (.long l2), .second, iv (3 : Int32), .unset, .unset, .unset, .unset, .unset, .unset, .unset, .unset, .unset, .unset, .unset, .unset, .unset, .unset, .unset, .unset, .unset, .unset, .unset] [(.ref b908)]) := fun tt kt => go907 tt (st908 _ kt)
  have go910 : own_S p e below ST T908 (mkF m 63 #[.val (.long st), .second, .val (.long c0), .second, .val (.long c1), .second, .val (.long c2), .second, .val (.long hgh), .second, iv fl, .val (.long (65536 : Int64)), .second, .val (.long (1 : Int64)), .second, .val (.long (1 : Int64)), .second, .val (.long l2), .second, iv (3 : Int32), .unset, .unset, .unset, .unset, .unset, .unset, .unset, .unset, .unset, .unset, .unset, .unset, .unset, .unset, .unset, .unset, .unset, .unset, .unset] [(.long st), (.ref b908), (.ref b908)]) := fun tt kt => go909 tt (by
      refine XS.dup X908.here hx rfl (hb hby at_61) rfl rfl ?_
      refine XS.lloadN X908.here hx rfl (hb hby at_62) rfl ?_
      exact kt)
  have zs912 := (Nat.le_trans Z0 E908.1)
  obtain ⟨_, _, ⟨T911, L911, k911, n911⟩, -, X911, ⟨Lc911, hQ911, l911, y911, z911⟩, st911⟩ := X908.specialBack hx (y := (⟨"com/example/altocommit/altocommit/store/LogIndex", "<init>", "(J)V"⟩ : MethodName)) rfl hown (mvT hZ (W 4 rfl)) (mvT hZ (W 5 rfl)) (mvT hZ (W 6 rfl)) (by decide) (backOf (W := 1) (rm1 l Z a0 hw [] b908 st h908 n0 zs912 F908_starts F908_lows F908_reaches F908_end F908_count F908_highest A908 ge_b908) hZ (W 6 rfl) (W 3 rfl) (by decide) (by decide)) (g := (mkF m 63 #[.val (.long st), .second, .val (.long c0), .second, .val (.long c1), .second, .val (.long c2), .second, .val (.long hgh), .second, iv fl, .val (.long (65536 : Int64)), .second, .val (.long (1 : Int64)), .second, .val (.long (1 : Int64)), .second, .val (.long l2), .second, iv (3 : Int32), .unset, .unset, .unset, .unset, .unset, .unset, .unset, .unset, .unset, .unset, .unset, .unset, .unset, .unset, .unset, .unset, .unset, .unset, .unset] [(.long st), (.ref b908), (.ref b908)])) rfl (by rw [hml]; rfl) (Steps.refl _) (a := b908) (argsL := [(.long st)]) (rest := [(.ref b908)]) (lenOf pd167 rfl) rfl (by show 2 * 0 + _ ≤ _; exact Nat.le_of_eq rfl) (hb hby at_63) (fun _ _ => ⟨rfl, e908, (by decide : 1 + 3 ≤ _), (by decide : 6 + 48 ≤ _)⟩)
  dsimp only [Pt.U, Pt.locs, Pt.cells, Pt.slots] at X911 l911 y911 z911 st911 hQ911
  subst l911 y911 z911
  obtain ⟨bs, bl, br, ks, kl, kr, rfl, Nq911, K911, LIi911⟩ := hQ911
  have N911 := Fr.app N0 Nq911
  have go913 : own_S p e below ST T911 (mkF m 66 #[.val (.long st), .second, .val (.long c0), .second, .val (.long c1), .second, .val (.long c2), .second, .val (.long hgh), .second, iv fl, .val (.long (65536 : Int64)), .second, .val (.long (1 : Int64)), .second, .val (.long (1 : Int64)), .second, .val (.long l2), .second, iv (3 : Int32), .unset, .unset, .unset, .unset, .unset, .unset, .unset, .unset, .unset, .unset, .unset, .unset, .unset, .unset, .unset, .unset, .unset, .unset, .unset] [(.ref b908)]) := fun tt kt => go910 tt (st911.trans kt)
  have go914 : own_S p e below ST T911 (mkF m 79 #[.val (.long st), .second, .val (.long c0), .second, .val (.long c1), .second, .val (.long c2), .second, .val (.long hgh), .second, iv fl, .val (.long (65536 : Int64)), .second, .val (.long (1 : Int64)), .second, .val (.long (1 : Int64)), .second, .val (.long l2), .second, iv (3 : Int32), rv b908, .unset, .unset, .unset, .unset, .unset, .unset, .unset, .unset, .unset, .unset, .unset, .unset, .unset, .unset, .unset, .unset, .unset, .unset] [(.long (1 : Int64)), (.long c0), (.ref b908)]) := fun tt kt => go913 tt (by
      refine XS.astore X911.here hx rfl (hb hby at_66) rfl rfl (l' := #[.val (.long st), .second, .val (.long c0), .second, .val (.long c1), .second, .val (.long c2), .second, .val (.long hgh), .second, iv fl, .val (.long (65536 : Int64)), .second, .val (.long (1 : Int64)), .second, .val (.long (1 : Int64)), .second, .val (.long l2), .second, iv (3 : Int32), rv b908, .unset, .unset, .unset, .unset, .unset, .unset, .unset, .unset, .unset, .unset, .unset, .unset, .unset, .unset, .unset, .unset, .unset, .unset]) rfl ?_
      refine XS.iload X911.here hx rfl (hb hby at_68) rfl ?_
      refine XS.iconst X911.here hx rfl (hb hby at_70) ?_
      refine XS.icmpNo X911.here hx rfl (hb hby at_71) rfl (flt (by decide : ¬ ((3 : Int32) < (1 : Int32)))).1 ?_
      refine XS.aload X911.here hx rfl (hb hby at_74) rfl rfl ?_
      refine XS.lloadN X911.here hx rfl (hb hby at_76) rfl ?_
      show Steps p.tables e below (T911.setTop (mkF m 77 #[.val (.long st), .second, .val (.long c0), .second, .val (.long c1), .second, .val (.long c2), .second, .val (.long hgh), .second, iv fl, .val (.long (65536 : Int64)), .second, .val (.long (1 : Int64)), .second, .val (.long (1 : Int64)), .second, .val (.long l2), .second, iv (3 : Int32), rv b908, .unset, .unset, .unset, .unset, .unset, .unset, .unset, .unset, .unset, .unset, .unset, .unset, .unset, .unset, .unset, .unset, .unset, .unset] [(.long c0), (.ref b908)])) _
      refine XS.lload X911.here hx rfl (hb hby at_77) rfl ?_
      exact kt)
  have zs917 := (Nat.le_trans zs912 K911.1)
  have f918 := (A908.keep K911)
  obtain ⟨cq916, kq916, q916a, q916b, q916c⟩ := isOf hZ rfl f918
  obtain ⟨_, _, ⟨T916, L916, k916, n916⟩, -, X916, ⟨Lc916, hQ916, l916, y916, z916⟩, st916⟩ := X911.virtualBack hx (y := (⟨"com/example/altocommit/altocommit/store/LogIndex", "add", "(JJ)V"⟩ : MethodName)) (z := (⟨"com/example/altocommit/altocommit/store/LogIndex", "add", "(JJ)V"⟩ : MethodName)) hown (mvT hZ (W 26 rfl)) (mvT hZ (W 27 rfl)) (notFace_of_selects (args := #[]) (mvT hZ (W 29 rfl))) (mvT hZ (W 29 rfl)) (mvT hZ (W 28 rfl)) (by decide) (backOf (W := 0) (rm4c0 l Z a0 hw [] b908 bs bl br ks kl kr c0 (1 : Int64) st (0 : Int64) T911.heap n0 zs917 LIi911) hZ (W 30 rfl) (W 3 rfl) (by decide) (by decide)) q916a q916c (g := (mkF m 79 #[.val (.long st), .second, .val (.long c0), .second, .val (.long c1), .second, .val (.long c2), .second, .val (.long hgh), .second, iv fl, .val (.long (65536 : Int64)), .second, .val (.long (1 : Int64)), .second, .val (.long (1 : Int64)), .second, .val (.long l2), .second, iv (3 : Int32), rv b908, .unset, .unset, .unset, .unset, .unset, .unset, .unset, .unset, .unset, .unset, .unset, .unset, .unset, .unset, .unset, .unset, .unset, .unset] [(.long (1 : Int64)), (.long c0), (.ref b908)])) rfl (by rw [hml]; rfl) (Steps.refl _) (argsL := [(.long c0), (.long (1 : Int64))]) (rest := []) (lenOf pd169 rfl) rfl (by show 2 * 0 + _ ≤ _; exact Nat.le_of_eq rfl) (hb hby at_79) (fun _ _ => ⟨rfl, rfl, (by decide : 4 + 0 ≤ _), (by decide : 54 + 0 ≤ _)⟩)
  dsimp only [Pt.U, Pt.locs, Pt.cells, Pt.slots] at X916 l916 y916 z916 st916 hQ916
  subst l916 y916 z916
  obtain ⟨lw915, rfl, Nq916, K916, LIi916⟩ := hQ916
  have N916 := Fr.app N911 Nq916
  have go919 : own_S p e below ST T916 (mkF m 82 #[.val (.long st), .second, .val (.long c0), .second, .val (.long c1), .second, .val (.long c2), .second, .val (.long hgh), .second, iv fl, .val (.long (65536 : Int64)), .second, .val (.long (1 : Int64)), .second, .val (.long (1 : Int64)), .second, .val (.long l2), .second, iv (3 : Int32), rv b908, .unset, .unset, .unset, .unset, .unset, .unset, .unset, .unset, .unset, .unset, .unset, .unset, .unset, .unset, .unset, .unset, .unset, .unset] []) := fun tt kt => go914 tt (st916.trans kt)
  have go920 : own_S p e below ST T916 (mkF m 94 #[.val (.long st), .second, .val (.long c0), .second, .val (.long c1), .second, .val (.long c2), .second, .val (.long hgh), .second, iv fl, .val (.long (65536 : Int64)), .second, .val (.long (1 : Int64)), .second, .val (.long (1 : Int64)), .second, .val (.long l2), .second, iv (3 : Int32), rv b908, .unset, .unset, .unset, .unset, .unset, .unset, .unset, .unset, .unset, .unset, .unset, .unset, .unset, .unset, .unset, .unset, .unset, .unset] [(.long (1 : Int64)), (.long c1), (.ref b908)]) := fun tt kt => go919 tt (by
      refine XS.iload X916.here hx rfl (hb hby at_82) rfl ?_
      refine XS.iconst X916.here hx rfl (hb hby at_84) ?_
      refine XS.icmpNo X916.here hx rfl (hb hby at_85) rfl (flt (by decide : ¬ ((3 : Int32) < (2 : Int32)))).1 ?_
      refine XS.aload X916.here hx rfl (hb hby at_88) rfl rfl ?_
      refine XS.lload X916.here hx rfl (hb hby at_90) rfl ?_
      refine XS.lload X916.here hx rfl (hb hby at_92) rfl ?_
      exact kt)
  have hm922 : (lcmpW ((st + (1 : Int64)) - st) (65536 : Int64) < (0 : Int32)) := by rw [own_as]; decide
  have zs924 := (Nat.le_trans zs917 K916.1)
  obtain ⟨cq923, kq923, q923a, q923b, q923c⟩ := isOf hZ rfl LIi916.1
  obtain ⟨_, _, ⟨T923, L923, k923, n923⟩, -, X923, ⟨Lc923, hQ923, l923, y923, z923⟩, st923⟩ := X916.virtualBack hx (y := (⟨"com/example/altocommit/altocommit/store/LogIndex", "add", "(JJ)V"⟩ : MethodName)) (z := (⟨"com/example/altocommit/altocommit/store/LogIndex", "add", "(JJ)V"⟩ : MethodName)) hown (mvT hZ (W 26 rfl)) (mvT hZ (W 27 rfl)) (notFace_of_selects (args := #[]) (mvT hZ (W 29 rfl))) (mvT hZ (W 29 rfl)) (mvT hZ (W 28 rfl)) (by decide) (backOf (W := 0) (rm4c1m l Z a0 hw [] b908 bs bl br ks kl kr c1 (1 : Int64) (st + (1 : Int64)) (own_maxJ (0 : Int64) c0) st lw915 c0 T916.heap n0 zs924 LIi916 hm922) hZ (W 30 rfl) (W 3 rfl) (by decide) (by decide)) q923a q923c (g := (mkF m 94 #[.val (.long st), .second, .val (.long c0), .second, .val (.long c1), .second, .val (.long c2), .second, .val (.long hgh), .second, iv fl, .val (.long (65536 : Int64)), .second, .val (.long (1 : Int64)), .second, .val (.long (1 : Int64)), .second, .val (.long l2), .second, iv (3 : Int32), rv b908, .unset, .unset, .unset, .unset, .unset, .unset, .unset, .unset, .unset, .unset, .unset, .unset, .unset, .unset, .unset, .unset, .unset, .unset] [(.long (1 : Int64)), (.long c1), (.ref b908)])) rfl (by rw [hml]; rfl) (Steps.refl _) (argsL := [(.long c1), (.long (1 : Int64))]) (rest := []) (lenOf pd169 rfl) rfl (by show 2 * 0 + _ ≤ _; exact Nat.le_of_eq rfl) (hb hby at_94) (fun _ _ => ⟨rfl, rfl, (by decide : 4 + 0 ≤ _), (by decide : 54 + 0 ≤ _)⟩)
  dsimp only [Pt.U, Pt.locs, Pt.cells, Pt.slots] at X923 l923 y923 z923 st923 hQ923
  subst l923 y923 z923
  obtain ⟨lw921, rfl, Nq923, K923, LIi923⟩ := hQ923
  have N923 := Fr.app N916 Nq923
  have go925 : own_S p e below ST T923 (mkF m 97 #[.val (.long st), .second, .val (.long c0), .second, .val (.long c1), .second, .val (.long c2), .second, .val (.long hgh), .second, iv fl, .val (.long (65536 : Int64)), .second, .val (.long (1 : Int64)), .second, .val (.long (1 : Int64)), .second, .val (.long l2), .second, iv (3 : Int32), rv b908, .unset, .unset, .unset, .unset, .unset, .unset, .unset, .unset, .unset, .unset, .unset, .unset, .unset, .unset, .unset, .unset, .unset, .unset] []) := fun tt kt => go920 tt (st923.trans kt)
  have go926 : own_S p e below ST T923 (mkF m 109 #[.val (.long st), .second, .val (.long c0), .second, .val (.long c1), .second, .val (.long c2), .second, .val (.long hgh), .second, iv fl, .val (.long (65536 : Int64)), .second, .val (.long (1 : Int64)), .second, .val (.long (1 : Int64)), .second, .val (.long l2), .second, iv (3 : Int32), rv b908, .unset, .unset, .unset, .unset, .unset, .unset, .unset, .unset, .unset, .unset, .unset, .unset, .unset, .unset, .unset, .unset, .unset, .unset] [(.long l2), (.long c2), (.ref b908)]) := fun tt kt => go925 tt (by
      refine XS.iload X923.here hx rfl (hb hby at_97) rfl ?_
      refine XS.iconst X923.here hx rfl (hb hby at_99) ?_
      refine XS.icmpNo X923.here hx rfl (hb hby at_100) rfl (flt (by decide : ¬ ((3 : Int32) < (3 : Int32)))).1 ?_
      refine XS.aload X923.here hx rfl (hb hby at_103) rfl rfl ?_
      refine XS.lload X923.here hx rfl (hb hby at_105) rfl ?_
      refine XS.lload X923.here hx rfl (hb hby at_107) rfl ?_
      exact kt)
  have hm928 : (lcmpW (((st + (1 : Int64)) + (1 : Int64)) - st) (65536 : Int64) < (0 : Int32)) := by rw [own_as2]; decide
  have zs930 := (Nat.le_trans zs924 K923.1)
  obtain ⟨cq929, kq929, q929a, q929b, q929c⟩ := isOf hZ rfl LIi923.1
  obtain ⟨_, _, ⟨T929, L929, k929, n929⟩, -, X929, ⟨Lc929, hQ929, l929, y929, z929⟩, st929⟩ := X923.virtualBack hx (y := (⟨"com/example/altocommit/altocommit/store/LogIndex", "add", "(JJ)V"⟩ : MethodName)) (z := (⟨"com/example/altocommit/altocommit/store/LogIndex", "add", "(JJ)V"⟩ : MethodName)) hown (mvT hZ (W 26 rfl)) (mvT hZ (W 27 rfl)) (notFace_of_selects (args := #[]) (mvT hZ (W 29 rfl))) (mvT hZ (W 29 rfl)) (mvT hZ (W 28 rfl)) (by decide) (backOf (W := 0) (rm4c1m l Z a0 hw [] b908 bs bl br ks kl kr c2 l2 ((st + (1 : Int64)) + (1 : Int64)) (own_maxJ (own_maxJ (0 : Int64) c0) c1) st (own_minJ lw915 lw921) (own_maxJ c0 c1) T923.heap n0 zs930 LIi923 hm928) hZ (W 30 rfl) (W 3 rfl) (by decide) (by decide)) q929a q929c (g := (mkF m 109 #[.val (.long st), .second, .val (.long c0), .second, .val (.long c1), .second, .val (.long c2), .second, .val (.long hgh), .second, iv fl, .val (.long (65536 : Int64)), .second, .val (.long (1 : Int64)), .second, .val (.long (1 : Int64)), .second, .val (.long l2), .second, iv (3 : Int32), rv b908, .unset, .unset, .unset, .unset, .unset, .unset, .unset, .unset, .unset, .unset, .unset, .unset, .unset, .unset, .unset, .unset, .unset, .unset] [(.long l2), (.long c2), (.ref b908)])) rfl (by rw [hml]; rfl) (Steps.refl _) (argsL := [(.long c2), (.long l2)]) (rest := []) (lenOf pd169 rfl) rfl (by show 2 * 0 + _ ≤ _; exact Nat.le_of_eq rfl) (hb hby at_109) (fun _ _ => ⟨rfl, rfl, (by decide : 4 + 0 ≤ _), (by decide : 54 + 0 ≤ _)⟩)
  dsimp only [Pt.U, Pt.locs, Pt.cells, Pt.slots] at X929 l929 y929 z929 st929 hQ929
  subst l929 y929 z929
  obtain ⟨lw927, rfl, Nq929, K929, LIi929⟩ := hQ929
  have N929 := Fr.app N923 Nq929
  have go931 : own_S p e below ST T929 (mkF m 112 #[.val (.long st), .second, .val (.long c0), .second, .val (.long c1), .second, .val (.long c2), .second, .val (.long hgh), .second, iv fl, .val (.long (65536 : Int64)), .second, .val (.long (1 : Int64)), .second, .val (.long (1 : Int64)), .second, .val (.long l2), .second, iv (3 : Int32), rv b908, .unset, .unset, .unset, .unset, .unset, .unset, .unset, .unset, .unset, .unset, .unset, .unset, .unset, .unset, .unset, .unset, .unset, .unset] []) := fun tt kt => go926 tt (st929.trans kt)
  have go932 : own_S p e below ST T929 (mkF m 116 #[.val (.long st), .second, .val (.long c0), .second, .val (.long c1), .second, .val (.long c2), .second, .val (.long hgh), .second, iv fl, .val (.long (65536 : Int64)), .second, .val (.long (1 : Int64)), .second, .val (.long (1 : Int64)), .second, .val (.long l2), .second, iv (3 : Int32), rv b908, .unset, .unset, .unset, .unset, .unset, .unset, .unset, .unset, .unset, .unset, .unset, .unset, .unset, .unset, .unset, .unset, .unset, .unset] [(.long hgh), (.ref b908)]) := fun tt kt => go931 tt (by
      refine XS.aload X929.here hx rfl (hb hby at_112) rfl rfl ?_
      refine XS.lload X929.here hx rfl (hb hby at_114) rfl ?_
      exact kt)
  have zs934 := (Nat.le_trans zs930 K929.1)
  obtain ⟨cq933, kq933, q933a, q933b, q933c⟩ := isOf hZ rfl LIi929.1
  obtain ⟨_, _, ⟨T933, L933, k933, n933⟩, -, X933, ⟨Lc933, hQ933, l933, y933, z933⟩, st933⟩ := X929.virtualBack hx (y := (⟨"com/example/altocommit/altocommit/store/LogIndex", "allAtOrBelowUpTo", "(J)J"⟩ : MethodName)) (z := (⟨"com/example/altocommit/altocommit/store/LogIndex", "allAtOrBelowUpTo", "(J)J"⟩ : MethodName)) hown (mvT hZ (W 19 rfl)) (mvT hZ (W 20 rfl)) (notFace_of_selects (args := #[]) (mvT hZ (W 22 rfl))) (mvT hZ (W 22 rfl)) (mvT hZ (W 21 rfl)) (by decide) (backOf (W := 0) (rm3c1 l Z a0 hw [] b908 bs bl br ks kl kr hgh (((st + (1 : Int64)) + (1 : Int64)) + l2) (own_maxJ (own_maxJ (own_maxJ (0 : Int64) c0) c1) c2) st (own_minJ (own_minJ lw915 lw921) lw927) (0 : Int64) (0 : Int64) (own_maxJ (own_maxJ c0 c1) c2) T929.heap n0 zs934 LIi929) hZ (W 23 rfl) (W 3 rfl) (by decide) (by decide)) q933a q933c (g := (mkF m 116 #[.val (.long st), .second, .val (.long c0), .second, .val (.long c1), .second, .val (.long c2), .second, .val (.long hgh), .second, iv fl, .val (.long (65536 : Int64)), .second, .val (.long (1 : Int64)), .second, .val (.long (1 : Int64)), .second, .val (.long l2), .second, iv (3 : Int32), rv b908, .unset, .unset, .unset, .unset, .unset, .unset, .unset, .unset, .unset, .unset, .unset, .unset, .unset, .unset, .unset, .unset, .unset, .unset] [(.long hgh), (.ref b908)])) rfl (by rw [hml]; rfl) (Steps.refl _) (argsL := [(.long hgh)]) (rest := []) (lenOf pd168 rfl) rfl (by show 2 * 0 + _ ≤ _; exact Nat.le_of_eq rfl) (hb hby at_116) (fun _ _ => ⟨rfl, rfl, (by decide : 4 + 0 ≤ _), (by decide : 54 + 0 ≤ _)⟩)
  dsimp only [Pt.U, Pt.locs, Pt.cells, Pt.slots] at X933 l933 y933 z933 st933 hQ933
  subst l933 y933 z933
  obtain ⟨rfl, Nq933, eh933⟩ := hQ933
  have N933 := Fr.app N929 Nq933
  have go935 : own_S p e below ST T933 (mkF m 119 #[.val (.long st), .second, .val (.long c0), .second, .val (.long c1), .second, .val (.long c2), .second, .val (.long hgh), .second, iv fl, .val (.long (65536 : Int64)), .second, .val (.long (1 : Int64)), .second, .val (.long (1 : Int64)), .second, .val (.long l2), .second, iv (3 : Int32), rv b908, .unset, .unset, .unset, .unset, .unset, .unset, .unset, .unset, .unset, .unset, .unset, .unset, .unset, .unset, .unset, .unset, .unset, .unset] [(.long (if (0 : Int32) < lcmpW (own_maxJ (own_maxJ c0 c1) c2) hgh then st else (((st + (1 : Int64)) + (1 : Int64)) + l2)))]) := fun tt kt => go932 tt (st933.trans kt)
  obtain ⟨got, hgot⟩ : ∃ z : Int64, z = (if (0 : Int32) < lcmpW (own_maxJ (own_maxJ c0 c1) c2) hgh then st else (((st + (1 : Int64)) + (1 : Int64)) + l2)) := ⟨_, rfl⟩
  rw [← hgot] at go935
  have go936 : own_S p e below ST T933 (mkF m 222 #[.val (.long st), .second, .val (.long c0), .second, .val (.long c1), .second, .val (.long c2), .second, .val (.long hgh), .second, iv fl, .val (.long (65536 : Int64)), .second, .val (.long (1 : Int64)), .second, .val (.long (1 : Int64)), .second, .val (.long l2), .second, iv (3 : Int32), rv b908, .val (.long got), .second, .val (.long st), .second, .val (.long (st + (1 : Int64))), .second, .val (.long ((st + (1 : Int64)) + (1 : Int64))), .second, .val (.long (((st + (1 : Int64)) + (1 : Int64)) + l2)), .second, .val (.long st), .second, .val (.long st), .second, .val (.long st), .second, .unset, .unset] [(.int (lcmpW c0 hgh))]) := fun tt kt => go935 tt (by
      refine XS.lstore X933.here hx rfl (hb hby at_119) rfl (l' := #[.val (.long st), .second, .val (.long c0), .second, .val (.long c1), .second, .val (.long c2), .second, .val (.long hgh), .second, iv fl, .val (.long (65536 : Int64)), .second, .val (.long (1 : Int64)), .second, .val (.long (1 : Int64)), .second, .val (.long l2), .second, iv (3 : Int32), rv b908, .val (.long got), .second, .unset, .unset, .unset, .unset, .unset, .unset, .unset, .unset, .unset, .unset, .unset, .unset, .unset, .unset, .unset, .unset]) rfl ?_
      refine XS.lloadN X933.here hx rfl (hb hby at_121) rfl ?_
      refine XS.lstore X933.here hx rfl (hb hby at_122) rfl (l' := #[.val (.long st), .second, .val (.long c0), .second, .val (.long c1), .second, .val (.long c2), .second, .val (.long hgh), .second, iv fl, .val (.long (65536 : Int64)), .second, .val (.long (1 : Int64)), .second, .val (.long (1 : Int64)), .second, .val (.long l2), .second, iv (3 : Int32), rv b908, .val (.long got), .second, .val (.long st), .second, .unset, .unset, .unset, .unset, .unset, .unset, .unset, .unset, .unset, .unset, .unset, .unset, .unset, .unset]) rfl ?_
      refine XS.lload X933.here hx rfl (hb hby at_124) rfl ?_
      refine XS.lload X933.here hx rfl (hb hby at_126) rfl ?_
      refine XS.ladd X933.here hx rfl (hb hby at_128) rfl ?_
      show Steps p.tables e below (T933.setTop (mkF m 129 #[.val (.long st), .second, .val (.long c0), .second, .val (.long c1), .second, .val (.long c2), .second, .val (.long hgh), .second, iv fl, .val (.long (65536 : Int64)), .second, .val (.long (1 : Int64)), .second, .val (.long (1 : Int64)), .second, .val (.long l2), .second, iv (3 : Int32), rv b908, .val (.long got), .second, .val (.long st), .second, .unset, .unset, .unset, .unset, .unset, .unset, .unset, .unset, .unset, .unset, .unset, .unset, .unset, .unset] [(.long (st + (1 : Int64)))])) _
      refine XS.lstore X933.here hx rfl (hb hby at_129) rfl (l' := #[.val (.long st), .second, .val (.long c0), .second, .val (.long c1), .second, .val (.long c2), .second, .val (.long hgh), .second, iv fl, .val (.long (65536 : Int64)), .second, .val (.long (1 : Int64)), .second, .val (.long (1 : Int64)), .second, .val (.long l2), .second, iv (3 : Int32), rv b908, .val (.long got), .second, .val (.long st), .second, .val (.long (st + (1 : Int64))), .second, .unset, .unset, .unset, .unset, .unset, .unset, .unset, .unset, .unset, .unset, .unset, .unset]) rfl ?_
      refine XS.lload X933.here hx rfl (hb hby at_131) rfl ?_
      refine XS.lload X933.here hx rfl (hb hby at_133) rfl ?_
      refine XS.ladd X933.here hx rfl (hb hby at_135) rfl ?_
      refine XS.lstore X933.here hx rfl (hb hby at_136) rfl (l' := #[.val (.long st), .second, .val (.long c0), .second, .val (.long c1), .second, .val (.long c2), .second, .val (.long hgh), .second, iv fl, .val (.long (65536 : Int64)), .second, .val (.long (1 : Int64)), .second, .val (.long (1 : Int64)), .second, .val (.long l2), .second, iv (3 : Int32), rv b908, .val (.long got), .second, .val (.long st), .second, .val (.long (st + (1 : Int64))), .second, .val (.long ((st + (1 : Int64)) + (1 : Int64))), .second, .unset, .unset, .unset, .unset, .unset, .unset, .unset, .unset, .unset, .unset]) rfl ?_
      refine XS.lloadN X933.here hx rfl (hb hby at_138) rfl ?_
      show Steps p.tables e below (T933.setTop (mkF m 139 #[.val (.long st), .second, .val (.long c0), .second, .val (.long c1), .second, .val (.long c2), .second, .val (.long hgh), .second, iv fl, .val (.long (65536 : Int64)), .second, .val (.long (1 : Int64)), .second, .val (.long (1 : Int64)), .second, .val (.long l2), .second, iv (3 : Int32), rv b908, .val (.long got), .second, .val (.long st), .second, .val (.long (st + (1 : Int64))), .second, .val (.long ((st + (1 : Int64)) + (1 : Int64))), .second, .unset, .unset, .unset, .unset, .unset, .unset, .unset, .unset, .unset, .unset] [(.long st)])) _
      refine XS.lstore X933.here hx rfl (hb hby at_139) rfl (l' := #[.val (.long st), .second, .val (.long c0), .second, .val (.long c1), .second, .val (.long c2), .second, .val (.long hgh), .second, iv fl, .val (.long (65536 : Int64)), .second, .val (.long (1 : Int64)), .second, .val (.long (1 : Int64)), .second, .val (.long l2), .second, iv (3 : Int32), rv b908, .val (.long got), .second, .val (.long st), .second, .val (.long (st + (1 : Int64))), .second, .val (.long ((st + (1 : Int64)) + (1 : Int64))), .second, .val (.long st), .second, .unset, .unset, .unset, .unset, .unset, .unset, .unset, .unset]) rfl ?_
      refine XS.iload X933.here hx rfl (hb hby at_141) rfl ?_
      refine XS.iconst X933.here hx rfl (hb hby at_143) ?_
      refine XS.icmpNo X933.here hx rfl (hb hby at_144) rfl (flt (by decide : ¬ ((3 : Int32) < (1 : Int32)))).1 ?_
      refine XS.lload X933.here hx rfl (hb hby at_147) rfl ?_
      refine XS.lstore X933.here hx rfl (hb hby at_149) rfl (l' := #[.val (.long st), .second, .val (.long c0), .second, .val (.long c1), .second, .val (.long c2), .second, .val (.long hgh), .second, iv fl, .val (.long (65536 : Int64)), .second, .val (.long (1 : Int64)), .second, .val (.long (1 : Int64)), .second, .val (.long l2), .second, iv (3 : Int32), rv b908, .val (.long got), .second, .val (.long st), .second, .val (.long (st + (1 : Int64))), .second, .val (.long ((st + (1 : Int64)) + (1 : Int64))), .second, .val (.long (st + (1 : Int64))), .second, .unset, .unset, .unset, .unset, .unset, .unset, .unset, .unset]) rfl ?_
      show Steps p.tables e below (T933.setTop (mkF m 151 #[.val (.long st), .second, .val (.long c0), .second, .val (.long c1), .second, .val (.long c2), .second, .val (.long hgh), .second, iv fl, .val (.long (65536 : Int64)), .second, .val (.long (1 : Int64)), .second, .val (.long (1 : Int64)), .second, .val (.long l2), .second, iv (3 : Int32), rv b908, .val (.long got), .second, .val (.long st), .second, .val (.long (st + (1 : Int64))), .second, .val (.long ((st + (1 : Int64)) + (1 : Int64))), .second, .val (.long (st + (1 : Int64))), .second, .unset, .unset, .unset, .unset, .unset, .unset, .unset, .unset] [])) _
      refine XS.iload X933.here hx rfl (hb hby at_151) rfl ?_
      refine XS.iconst X933.here hx rfl (hb hby at_153) ?_
      refine XS.icmpNo X933.here hx rfl (hb hby at_154) rfl (flt (by decide : ¬ ((3 : Int32) < (2 : Int32)))).1 ?_
      refine XS.lload X933.here hx rfl (hb hby at_157) rfl ?_
      refine XS.lstore X933.here hx rfl (hb hby at_159) rfl (l' := #[.val (.long st), .second, .val (.long c0), .second, .val (.long c1), .second, .val (.long c2), .second, .val (.long hgh), .second, iv fl, .val (.long (65536 : Int64)), .second, .val (.long (1 : Int64)), .second, .val (.long (1 : Int64)), .second, .val (.long l2), .second, iv (3 : Int32), rv b908, .val (.long got), .second, .val (.long st), .second, .val (.long (st + (1 : Int64))), .second, .val (.long ((st + (1 : Int64)) + (1 : Int64))), .second, .val (.long ((st + (1 : Int64)) + (1 : Int64))), .second, .unset, .unset, .unset, .unset, .unset, .unset, .unset, .unset]) rfl ?_
      refine XS.iload X933.here hx rfl (hb hby at_161) rfl ?_
      show Steps p.tables e below (T933.setTop (mkF m 163 #[.val (.long st), .second, .val (.long c0), .second, .val (.long c1), .second, .val (.long c2), .second, .val (.long hgh), .second, iv fl, .val (.long (65536 : Int64)), .second, .val (.long (1 : Int64)), .second, .val (.long (1 : Int64)), .second, .val (.long l2), .second, iv (3 : Int32), rv b908, .val (.long got), .second, .val (.long st), .second, .val (.long (st + (1 : Int64))), .second, .val (.long ((st + (1 : Int64)) + (1 : Int64))), .second, .val (.long ((st + (1 : Int64)) + (1 : Int64))), .second, .unset, .unset, .unset, .unset, .unset, .unset, .unset, .unset] [(.int (3 : Int32))])) _
      refine XS.iconst X933.here hx rfl (hb hby at_163) ?_
      refine XS.icmpNo X933.here hx rfl (hb hby at_164) rfl (flt (by decide : ¬ ((3 : Int32) < (3 : Int32)))).1 ?_
      refine XS.lload X933.here hx rfl (hb hby at_167) rfl ?_
      refine XS.lload X933.here hx rfl (hb hby at_169) rfl ?_
      refine XS.ladd X933.here hx rfl (hb hby at_171) rfl ?_
      refine XS.lstore X933.here hx rfl (hb hby at_172) rfl (l' := #[.val (.long st), .second, .val (.long c0), .second, .val (.long c1), .second, .val (.long c2), .second, .val (.long hgh), .second, iv fl, .val (.long (65536 : Int64)), .second, .val (.long (1 : Int64)), .second, .val (.long (1 : Int64)), .second, .val (.long l2), .second, iv (3 : Int32), rv b908, .val (.long got), .second, .val (.long st), .second, .val (.long (st + (1 : Int64))), .second, .val (.long ((st + (1 : Int64)) + (1 : Int64))), .second, .val (.long (((st + (1 : Int64)) + (1 : Int64)) + l2)), .second, .unset, .unset, .unset, .unset, .unset, .unset, .unset, .unset]) rfl ?_
      show Steps p.tables e below (T933.setTop (mkF m 174 #[.val (.long st), .second, .val (.long c0), .second, .val (.long c1), .second, .val (.long c2), .second, .val (.long hgh), .second, iv fl, .val (.long (65536 : Int64)), .second, .val (.long (1 : Int64)), .second, .val (.long (1 : Int64)), .second, .val (.long l2), .second, iv (3 : Int32), rv b908, .val (.long got), .second, .val (.long st), .second, .val (.long (st + (1 : Int64))), .second, .val (.long ((st + (1 : Int64)) + (1 : Int64))), .second, .val (.long (((st + (1 : Int64)) + (1 : Int64)) + l2)), .second, .unset, .unset, .unset, .unset, .unset, .unset, .unset, .unset] [])) _
      refine XS.lload X933.here hx rfl (hb hby at_174) rfl ?_
      refine XS.lstore X933.here hx rfl (hb hby at_176) rfl (l' := #[.val (.long st), .second, .val (.long c0), .second, .val (.long c1), .second, .val (.long c2), .second, .val (.long hgh), .second, iv fl, .val (.long (65536 : Int64)), .second, .val (.long (1 : Int64)), .second, .val (.long (1 : Int64)), .second, .val (.long l2), .second, iv (3 : Int32), rv b908, .val (.long got), .second, .val (.long st), .second, .val (.long (st + (1 : Int64))), .second, .val (.long ((st + (1 : Int64)) + (1 : Int64))), .second, .val (.long (((st + (1 : Int64)) + (1 : Int64)) + l2)), .second, .val (.long st), .second, .unset, .unset, .unset, .unset, .unset, .unset]) rfl ?_
      refine XS.lload X933.here hx rfl (hb hby at_178) rfl ?_
      refine XS.lload X933.here hx rfl (hb hby at_180) rfl ?_
      refine XS.lcmp X933.here hx rfl (hb hby at_182) rfl ?_
      refine XS.ifYes X933.here hx rfl (pc0 := 183) (pc' := 191) rfl (hb hby at_183) rfl ((if0 _ _).trans (feq (by decide : ¬ ((lcmpW (1 : Int64) (65536 : Int64)) = (0 : Int32)))).2) (by decide) (by decide) ?_
      show Steps p.tables e below (T933.setTop (mkF m 191 #[.val (.long st), .second, .val (.long c0), .second, .val (.long c1), .second, .val (.long c2), .second, .val (.long hgh), .second, iv fl, .val (.long (65536 : Int64)), .second, .val (.long (1 : Int64)), .second, .val (.long (1 : Int64)), .second, .val (.long l2), .second, iv (3 : Int32), rv b908, .val (.long got), .second, .val (.long st), .second, .val (.long (st + (1 : Int64))), .second, .val (.long ((st + (1 : Int64)) + (1 : Int64))), .second, .val (.long (((st + (1 : Int64)) + (1 : Int64)) + l2)), .second, .val (.long st), .second, .unset, .unset, .unset, .unset, .unset, .unset] [])) _
      refine XS.lload X933.here hx rfl (hb hby at_191) rfl ?_
      refine XS.lstore X933.here hx rfl (hb hby at_193) rfl (l' := #[.val (.long st), .second, .val (.long c0), .second, .val (.long c1), .second, .val (.long c2), .second, .val (.long hgh), .second, iv fl, .val (.long (65536 : Int64)), .second, .val (.long (1 : Int64)), .second, .val (.long (1 : Int64)), .second, .val (.long l2), .second, iv (3 : Int32), rv b908, .val (.long got), .second, .val (.long st), .second, .val (.long (st + (1 : Int64))), .second, .val (.long ((st + (1 : Int64)) + (1 : Int64))), .second, .val (.long (((st + (1 : Int64)) + (1 : Int64)) + l2)), .second, .val (.long st), .second, .val (.long st), .second, .unset, .unset, .unset, .unset]) rfl ?_
      refine XS.lload X933.here hx rfl (hb hby at_195) rfl ?_
      refine XS.lload X933.here hx rfl (hb hby at_197) rfl ?_
      refine XS.lcmp X933.here hx rfl (hb hby at_199) rfl ?_
      refine XS.ifYes X933.here hx rfl (pc0 := 200) (pc' := 208) rfl (hb hby at_200) rfl ((if0 _ _).trans (feq (by decide : ¬ ((lcmpW (1 : Int64) (65536 : Int64)) = (0 : Int32)))).2) (by decide) (by decide) ?_
      show Steps p.tables e below (T933.setTop (mkF m 208 #[.val (.long st), .second, .val (.long c0), .second, .val (.long c1), .second, .val (.long c2), .second, .val (.long hgh), .second, iv fl, .val (.long (65536 : Int64)), .second, .val (.long (1 : Int64)), .second, .val (.long (1 : Int64)), .second, .val (.long l2), .second, iv (3 : Int32), rv b908, .val (.long got), .second, .val (.long st), .second, .val (.long (st + (1 : Int64))), .second, .val (.long ((st + (1 : Int64)) + (1 : Int64))), .second, .val (.long (((st + (1 : Int64)) + (1 : Int64)) + l2)), .second, .val (.long st), .second, .val (.long st), .second, .unset, .unset, .unset, .unset] [])) _
      refine XS.lload X933.here hx rfl (hb hby at_208) rfl ?_
      refine XS.lstore X933.here hx rfl (hb hby at_210) rfl (l' := #[.val (.long st), .second, .val (.long c0), .second, .val (.long c1), .second, .val (.long c2), .second, .val (.long hgh), .second, iv fl, .val (.long (65536 : Int64)), .second, .val (.long (1 : Int64)), .second, .val (.long (1 : Int64)), .second, .val (.long l2), .second, iv (3 : Int32), rv b908, .val (.long got), .second, .val (.long st), .second, .val (.long (st + (1 : Int64))), .second, .val (.long ((st + (1 : Int64)) + (1 : Int64))), .second, .val (.long (((st + (1 : Int64)) + (1 : Int64)) + l2)), .second, .val (.long st), .second, .val (.long st), .second, .val (.long st), .second, .unset, .unset]) rfl ?_
      refine XS.iload X933.here hx rfl (hb hby at_212) rfl ?_
      refine XS.iconst X933.here hx rfl (hb hby at_214) ?_
      refine XS.icmpNo X933.here hx rfl (hb hby at_215) rfl (flt (by decide : ¬ ((3 : Int32) < (1 : Int32)))).1 ?_
      refine XS.lloadN X933.here hx rfl (hb hby at_218) rfl ?_
      show Steps p.tables e below (T933.setTop (mkF m 219 #[.val (.long st), .second, .val (.long c0), .second, .val (.long c1), .second, .val (.long c2), .second, .val (.long hgh), .second, iv fl, .val (.long (65536 : Int64)), .second, .val (.long (1 : Int64)), .second, .val (.long (1 : Int64)), .second, .val (.long l2), .second, iv (3 : Int32), rv b908, .val (.long got), .second, .val (.long st), .second, .val (.long (st + (1 : Int64))), .second, .val (.long ((st + (1 : Int64)) + (1 : Int64))), .second, .val (.long (((st + (1 : Int64)) + (1 : Int64)) + l2)), .second, .val (.long st), .second, .val (.long st), .second, .val (.long st), .second, .unset, .unset] [(.long c0)])) _
      refine XS.lload X933.here hx rfl (hb hby at_219) rfl ?_
      refine XS.lcmp X933.here hx rfl (hb hby at_221) rfl ?_
      exact kt)
  obtain ⟨ex, hex, sg937⟩ : ∃ (ex : Int64), ex = (if (0 : Int32) < (lcmpW c0 hgh) then st else (if (0 : Int32) < (lcmpW c1 hgh) then st else (if (0 : Int32) < (lcmpW c2 hgh) then st else (((st + (1 : Int64)) + (1 : Int64)) + l2)))) ∧ ∀ tt, Steps p.tables e below (T933.setTop (mkF m 278 #[.val (.long st), .second, .val (.long c0), .second, .val (.long c1), .second, .val (.long c2), .second, .val (.long hgh), .second, iv fl, .val (.long (65536 : Int64)), .second, .val (.long (1 : Int64)), .second, .val (.long (1 : Int64)), .second, .val (.long l2), .second, iv (3 : Int32), rv b908, .val (.long got), .second, .val (.long st), .second, .val (.long (st + (1 : Int64))), .second, .val (.long ((st + (1 : Int64)) + (1 : Int64))), .second, .val (.long (((st + (1 : Int64)) + (1 : Int64)) + l2)), .second, .val (.long st), .second, .val (.long st), .second, .val (.long st), .second, .val (.long ex), .second] [])) tt → Steps p.tables e below (T933.setTop (mkF m 222 #[.val (.long st), .second, .val (.long c0), .second, .val (.long c1), .second, .val (.long c2), .second, .val (.long hgh), .second, iv fl, .val (.long (65536 : Int64)), .second, .val (.long (1 : Int64)), .second, .val (.long (1 : Int64)), .second, .val (.long l2), .second, iv (3 : Int32), rv b908, .val (.long got), .second, .val (.long st), .second, .val (.long (st + (1 : Int64))), .second, .val (.long ((st + (1 : Int64)) + (1 : Int64))), .second, .val (.long (((st + (1 : Int64)) + (1 : Int64)) + l2)), .second, .val (.long st), .second, .val (.long st), .second, .val (.long st), .second, .unset, .unset] [(.int (lcmpW c0 hgh))])) tt := by
    by_cases hd222_0 : (0 : Int32) < (lcmpW c0 hgh)
    · refine ⟨_, (if_pos hd222_0).symm, fun tt kt => ?_⟩
      show Steps p.tables e below (T933.setTop (mkF m 222 #[.val (.long st), .second, .val (.long c0), .second, .val (.long c1), .second, .val (.long c2), .second, .val (.long hgh), .second, iv fl, .val (.long (65536 : Int64)), .second, .val (.long (1 : Int64)), .second, .val (.long (1 : Int64)), .second, .val (.long l2), .second, iv (3 : Int32), rv b908, .val (.long got), .second, .val (.long st), .second, .val (.long (st + (1 : Int64))), .second, .val (.long ((st + (1 : Int64)) + (1 : Int64))), .second, .val (.long (((st + (1 : Int64)) + (1 : Int64)) + l2)), .second, .val (.long st), .second, .val (.long st), .second, .val (.long st), .second, .unset, .unset] [(.int (lcmpW c0 hgh))])) _
      refine XS.ifNo X933.here hx rfl (hb hby at_222) rfl ((if0 _ _).trans (tlt hd222_0).2.2.2) ?_
      refine XS.lload X933.here hx rfl (hb hby at_225) rfl ?_
      refine XS.lstore X933.here hx rfl (hb hby at_227) rfl (l' := #[.val (.long st), .second, .val (.long c0), .second, .val (.long c1), .second, .val (.long c2), .second, .val (.long hgh), .second, iv fl, .val (.long (65536 : Int64)), .second, .val (.long (1 : Int64)), .second, .val (.long (1 : Int64)), .second, .val (.long l2), .second, iv (3 : Int32), rv b908, .val (.long got), .second, .val (.long st), .second, .val (.long (st + (1 : Int64))), .second, .val (.long ((st + (1 : Int64)) + (1 : Int64))), .second, .val (.long (((st + (1 : Int64)) + (1 : Int64)) + l2)), .second, .val (.long st), .second, .val (.long st), .second, .val (.long st), .second, .val (.long st), .second]) rfl ?_
      refine XS.goto X933.here hx rfl (pc0 := 229) (pc' := 278) rfl (hb hby at_229) (by decide) (by decide) ?_
      exact kt
    · by_cases hd243_1 : (0 : Int32) < (lcmpW c1 hgh)
      · refine ⟨_, ((if_neg hd222_0).trans (if_pos hd243_1)).symm, fun tt kt => ?_⟩
        show Steps p.tables e below (T933.setTop (mkF m 222 #[.val (.long st), .second, .val (.long c0), .second, .val (.long c1), .second, .val (.long c2), .second, .val (.long hgh), .second, iv fl, .val (.long (65536 : Int64)), .second, .val (.long (1 : Int64)), .second, .val (.long (1 : Int64)), .second, .val (.long l2), .second, iv (3 : Int32), rv b908, .val (.long got), .second, .val (.long st), .second, .val (.long (st + (1 : Int64))), .second, .val (.long ((st + (1 : Int64)) + (1 : Int64))), .second, .val (.long (((st + (1 : Int64)) + (1 : Int64)) + l2)), .second, .val (.long st), .second, .val (.long st), .second, .val (.long st), .second, .unset, .unset] [(.int (lcmpW c0 hgh))])) _
        refine XS.ifYes X933.here hx rfl (pc0 := 222) (pc' := 232) rfl (hb hby at_222) rfl ((if0 _ _).trans (flt hd222_0).2.2.2) (by decide) (by decide) ?_
        refine XS.iload X933.here hx rfl (hb hby at_232) rfl ?_
        refine XS.iconst X933.here hx rfl (hb hby at_234) ?_
        refine XS.icmpNo X933.here hx rfl (hb hby at_235) rfl (flt (by decide : ¬ ((3 : Int32) < (2 : Int32)))).1 ?_
        refine XS.lload X933.here hx rfl (hb hby at_238) rfl ?_
        refine XS.lload X933.here hx rfl (hb hby at_240) rfl ?_
        show Steps p.tables e below (T933.setTop (mkF m 242 #[.val (.long st), .second, .val (.long c0), .second, .val (.long c1), .second, .val (.long c2), .second, .val (.long hgh), .second, iv fl, .val (.long (65536 : Int64)), .second, .val (.long (1 : Int64)), .second, .val (.long (1 : Int64)), .second, .val (.long l2), .second, iv (3 : Int32), rv b908, .val (.long got), .second, .val (.long st), .second, .val (.long (st + (1 : Int64))), .second, .val (.long ((st + (1 : Int64)) + (1 : Int64))), .second, .val (.long (((st + (1 : Int64)) + (1 : Int64)) + l2)), .second, .val (.long st), .second, .val (.long st), .second, .val (.long st), .second, .unset, .unset] [(.long hgh), (.long c1)])) _
        refine XS.lcmp X933.here hx rfl (hb hby at_242) rfl ?_
        refine XS.ifNo X933.here hx rfl (hb hby at_243) rfl ((if0 _ _).trans (tlt hd243_1).2.2.2) ?_
        refine XS.lload X933.here hx rfl (hb hby at_246) rfl ?_
        refine XS.lstore X933.here hx rfl (hb hby at_248) rfl (l' := #[.val (.long st), .second, .val (.long c0), .second, .val (.long c1), .second, .val (.long c2), .second, .val (.long hgh), .second, iv fl, .val (.long (65536 : Int64)), .second, .val (.long (1 : Int64)), .second, .val (.long (1 : Int64)), .second, .val (.long l2), .second, iv (3 : Int32), rv b908, .val (.long got), .second, .val (.long st), .second, .val (.long (st + (1 : Int64))), .second, .val (.long ((st + (1 : Int64)) + (1 : Int64))), .second, .val (.long (((st + (1 : Int64)) + (1 : Int64)) + l2)), .second, .val (.long st), .second, .val (.long st), .second, .val (.long st), .second, .val (.long st), .second]) rfl ?_
        refine XS.goto X933.here hx rfl (pc0 := 250) (pc' := 278) rfl (hb hby at_250) (by decide) (by decide) ?_
        exact kt
      · by_cases hd264_2 : (0 : Int32) < (lcmpW c2 hgh)
        · refine ⟨_, (((if_neg hd222_0).trans (if_neg hd243_1)).trans (if_pos hd264_2)).symm, fun tt kt => ?_⟩
          show Steps p.tables e below (T933.setTop (mkF m 222 #[.val (.long st), .second, .val (.long c0), .second, .val (.long c1), .second, .val (.long c2), .second, .val (.long hgh), .second, iv fl, .val (.long (65536 : Int64)), .second, .val (.long (1 : Int64)), .second, .val (.long (1 : Int64)), .second, .val (.long l2), .second, iv (3 : Int32), rv b908, .val (.long got), .second, .val (.long st), .second, .val (.long (st + (1 : Int64))), .second, .val (.long ((st + (1 : Int64)) + (1 : Int64))), .second, .val (.long (((st + (1 : Int64)) + (1 : Int64)) + l2)), .second, .val (.long st), .second, .val (.long st), .second, .val (.long st), .second, .unset, .unset] [(.int (lcmpW c0 hgh))])) _
          refine XS.ifYes X933.here hx rfl (pc0 := 222) (pc' := 232) rfl (hb hby at_222) rfl ((if0 _ _).trans (flt hd222_0).2.2.2) (by decide) (by decide) ?_
          refine XS.iload X933.here hx rfl (hb hby at_232) rfl ?_
          refine XS.iconst X933.here hx rfl (hb hby at_234) ?_
          refine XS.icmpNo X933.here hx rfl (hb hby at_235) rfl (flt (by decide : ¬ ((3 : Int32) < (2 : Int32)))).1 ?_
          refine XS.lload X933.here hx rfl (hb hby at_238) rfl ?_
          refine XS.lload X933.here hx rfl (hb hby at_240) rfl ?_
          show Steps p.tables e below (T933.setTop (mkF m 242 #[.val (.long st), .second, .val (.long c0), .second, .val (.long c1), .second, .val (.long c2), .second, .val (.long hgh), .second, iv fl, .val (.long (65536 : Int64)), .second, .val (.long (1 : Int64)), .second, .val (.long (1 : Int64)), .second, .val (.long l2), .second, iv (3 : Int32), rv b908, .val (.long got), .second, .val (.long st), .second, .val (.long (st + (1 : Int64))), .second, .val (.long ((st + (1 : Int64)) + (1 : Int64))), .second, .val (.long (((st + (1 : Int64)) + (1 : Int64)) + l2)), .second, .val (.long st), .second, .val (.long st), .second, .val (.long st), .second, .unset, .unset] [(.long hgh), (.long c1)])) _
          refine XS.lcmp X933.here hx rfl (hb hby at_242) rfl ?_
          refine XS.ifYes X933.here hx rfl (pc0 := 243) (pc' := 253) rfl (hb hby at_243) rfl ((if0 _ _).trans (flt hd243_1).2.2.2) (by decide) (by decide) ?_
          refine XS.iload X933.here hx rfl (hb hby at_253) rfl ?_
          refine XS.iconst X933.here hx rfl (hb hby at_255) ?_
          refine XS.icmpNo X933.here hx rfl (hb hby at_256) rfl (flt (by decide : ¬ ((3 : Int32) < (3 : Int32)))).1 ?_
          refine XS.lload X933.here hx rfl (hb hby at_259) rfl ?_
          show Steps p.tables e below (T933.setTop (mkF m 261 #[.val (.long st), .second, .val (.long c0), .second, .val (.long c1), .second, .val (.long c2), .second, .val (.long hgh), .second, iv fl, .val (.long (65536 : Int64)), .second, .val (.long (1 : Int64)), .second, .val (.long (1 : Int64)), .second, .val (.long l2), .second, iv (3 : Int32), rv b908, .val (.long got), .second, .val (.long st), .second, .val (.long (st + (1 : Int64))), .second, .val (.long ((st + (1 : Int64)) + (1 : Int64))), .second, .val (.long (((st + (1 : Int64)) + (1 : Int64)) + l2)), .second, .val (.long st), .second, .val (.long st), .second, .val (.long st), .second, .unset, .unset] [(.long c2)])) _
          refine XS.lload X933.here hx rfl (hb hby at_261) rfl ?_
          refine XS.lcmp X933.here hx rfl (hb hby at_263) rfl ?_
          refine XS.ifNo X933.here hx rfl (hb hby at_264) rfl ((if0 _ _).trans (tlt hd264_2).2.2.2) ?_
          refine XS.lload X933.here hx rfl (hb hby at_267) rfl ?_
          refine XS.lstore X933.here hx rfl (hb hby at_269) rfl (l' := #[.val (.long st), .second, .val (.long c0), .second, .val (.long c1), .second, .val (.long c2), .second, .val (.long hgh), .second, iv fl, .val (.long (65536 : Int64)), .second, .val (.long (1 : Int64)), .second, .val (.long (1 : Int64)), .second, .val (.long l2), .second, iv (3 : Int32), rv b908, .val (.long got), .second, .val (.long st), .second, .val (.long (st + (1 : Int64))), .second, .val (.long ((st + (1 : Int64)) + (1 : Int64))), .second, .val (.long (((st + (1 : Int64)) + (1 : Int64)) + l2)), .second, .val (.long st), .second, .val (.long st), .second, .val (.long st), .second, .val (.long st), .second]) rfl ?_
          refine XS.goto X933.here hx rfl (pc0 := 271) (pc' := 278) rfl (hb hby at_271) (by decide) (by decide) ?_
          exact kt
        · refine ⟨_, (((if_neg hd222_0).trans (if_neg hd243_1)).trans (if_neg hd264_2)).symm, fun tt kt => ?_⟩
          show Steps p.tables e below (T933.setTop (mkF m 222 #[.val (.long st), .second, .val (.long c0), .second, .val (.long c1), .second, .val (.long c2), .second, .val (.long hgh), .second, iv fl, .val (.long (65536 : Int64)), .second, .val (.long (1 : Int64)), .second, .val (.long (1 : Int64)), .second, .val (.long l2), .second, iv (3 : Int32), rv b908, .val (.long got), .second, .val (.long st), .second, .val (.long (st + (1 : Int64))), .second, .val (.long ((st + (1 : Int64)) + (1 : Int64))), .second, .val (.long (((st + (1 : Int64)) + (1 : Int64)) + l2)), .second, .val (.long st), .second, .val (.long st), .second, .val (.long st), .second, .unset, .unset] [(.int (lcmpW c0 hgh))])) _
          refine XS.ifYes X933.here hx rfl (pc0 := 222) (pc' := 232) rfl (hb hby at_222) rfl ((if0 _ _).trans (flt hd222_0).2.2.2) (by decide) (by decide) ?_
          refine XS.iload X933.here hx rfl (hb hby at_232) rfl ?_
          refine XS.iconst X933.here hx rfl (hb hby at_234) ?_
          refine XS.icmpNo X933.here hx rfl (hb hby at_235) rfl (flt (by decide : ¬ ((3 : Int32) < (2 : Int32)))).1 ?_
          refine XS.lload X933.here hx rfl (hb hby at_238) rfl ?_
          refine XS.lload X933.here hx rfl (hb hby at_240) rfl ?_
          show Steps p.tables e below (T933.setTop (mkF m 242 #[.val (.long st), .second, .val (.long c0), .second, .val (.long c1), .second, .val (.long c2), .second, .val (.long hgh), .second, iv fl, .val (.long (65536 : Int64)), .second, .val (.long (1 : Int64)), .second, .val (.long (1 : Int64)), .second, .val (.long l2), .second, iv (3 : Int32), rv b908, .val (.long got), .second, .val (.long st), .second, .val (.long (st + (1 : Int64))), .second, .val (.long ((st + (1 : Int64)) + (1 : Int64))), .second, .val (.long (((st + (1 : Int64)) + (1 : Int64)) + l2)), .second, .val (.long st), .second, .val (.long st), .second, .val (.long st), .second, .unset, .unset] [(.long hgh), (.long c1)])) _
          refine XS.lcmp X933.here hx rfl (hb hby at_242) rfl ?_
          refine XS.ifYes X933.here hx rfl (pc0 := 243) (pc' := 253) rfl (hb hby at_243) rfl ((if0 _ _).trans (flt hd243_1).2.2.2) (by decide) (by decide) ?_
          refine XS.iload X933.here hx rfl (hb hby at_253) rfl ?_
          refine XS.iconst X933.here hx rfl (hb hby at_255) ?_
          refine XS.icmpNo X933.here hx rfl (hb hby at_256) rfl (flt (by decide : ¬ ((3 : Int32) < (3 : Int32)))).1 ?_
          refine XS.lload X933.here hx rfl (hb hby at_259) rfl ?_
          show Steps p.tables e below (T933.setTop (mkF m 261 #[.val (.long st), .second, .val (.long c0), .second, .val (.long c1), .second, .val (.long c2), .second, .val (.long hgh), .second, iv fl, .val (.long (65536 : Int64)), .second, .val (.long (1 : Int64)), .second, .val (.long (1 : Int64)), .second, .val (.long l2), .second, iv (3 : Int32), rv b908, .val (.long got), .second, .val (.long st), .second, .val (.long (st + (1 : Int64))), .second, .val (.long ((st + (1 : Int64)) + (1 : Int64))), .second, .val (.long (((st + (1 : Int64)) + (1 : Int64)) + l2)), .second, .val (.long st), .second, .val (.long st), .second, .val (.long st), .second, .unset, .unset] [(.long c2)])) _
          refine XS.lload X933.here hx rfl (hb hby at_261) rfl ?_
          refine XS.lcmp X933.here hx rfl (hb hby at_263) rfl ?_
          refine XS.ifYes X933.here hx rfl (pc0 := 264) (pc' := 274) rfl (hb hby at_264) rfl ((if0 _ _).trans (flt hd264_2).2.2.2) (by decide) (by decide) ?_
          refine XS.lload X933.here hx rfl (hb hby at_274) rfl ?_
          refine XS.lstore X933.here hx rfl (hb hby at_276) rfl (l' := #[.val (.long st), .second, .val (.long c0), .second, .val (.long c1), .second, .val (.long c2), .second, .val (.long hgh), .second, iv fl, .val (.long (65536 : Int64)), .second, .val (.long (1 : Int64)), .second, .val (.long (1 : Int64)), .second, .val (.long l2), .second, iv (3 : Int32), rv b908, .val (.long got), .second, .val (.long st), .second, .val (.long (st + (1 : Int64))), .second, .val (.long ((st + (1 : Int64)) + (1 : Int64))), .second, .val (.long (((st + (1 : Int64)) + (1 : Int64)) + l2)), .second, .val (.long st), .second, .val (.long st), .second, .val (.long st), .second, .val (.long (((st + (1 : Int64)) + (1 : Int64)) + l2)), .second]) rfl ?_
          exact kt
  have go938 : own_S p e below ST T933 (mkF m 278 #[.val (.long st), .second, .val (.long c0), .second, .val (.long c1), .second, .val (.long c2), .second, .val (.long hgh), .second, iv fl, .val (.long (65536 : Int64)), .second, .val (.long (1 : Int64)), .second, .val (.long (1 : Int64)), .second, .val (.long l2), .second, iv (3 : Int32), rv b908, .val (.long got), .second, .val (.long st), .second, .val (.long (st + (1 : Int64))), .second, .val (.long ((st + (1 : Int64)) + (1 : Int64))), .second, .val (.long (((st + (1 : Int64)) + (1 : Int64)) + l2)), .second, .val (.long st), .second, .val (.long st), .second, .val (.long st), .second, .val (.long ex), .second] []) := fun tt kt => go936 tt (sg937 _ kt)
  have go939 : own_S p e below ST T933 (mkF m 283 #[.val (.long st), .second, .val (.long c0), .second, .val (.long c1), .second, .val (.long c2), .second, .val (.long hgh), .second, iv fl, .val (.long (65536 : Int64)), .second, .val (.long (1 : Int64)), .second, .val (.long (1 : Int64)), .second, .val (.long l2), .second, iv (3 : Int32), rv b908, .val (.long got), .second, .val (.long st), .second, .val (.long (st + (1 : Int64))), .second, .val (.long ((st + (1 : Int64)) + (1 : Int64))), .second, .val (.long (((st + (1 : Int64)) + (1 : Int64)) + l2)), .second, .val (.long st), .second, .val (.long st), .second, .val (.long st), .second, .val (.long ex), .second] [(.int (lcmpW got ex))]) := fun tt kt => go938 tt (by
      refine XS.lload X933.here hx rfl (hb hby at_278) rfl ?_
      refine XS.lload X933.here hx rfl (hb hby at_280) rfl ?_
      refine XS.lcmp X933.here hx rfl (hb hby at_282) rfl ?_
      exact kt)
  have hfin : (lcmpW got ex) = (0 : Int32) := by
    rw [lw_eq, hgot, hex]
    all_goals (try simp only [own_gt])
    all_goals (by_cases y0 : (0 : Int32) < lcmpW c0 hgh <;> by_cases y1 : (0 : Int32) < lcmpW c1 hgh <;> by_cases y2 : (0 : Int32) < lcmpW c2 hgh <;> simp [y0, y1, y2])
  have go940 : own_S p e below ST T933 (mkF m 291 #[.val (.long st), .second, .val (.long c0), .second, .val (.long c1), .second, .val (.long c2), .second, .val (.long hgh), .second, iv fl, .val (.long (65536 : Int64)), .second, .val (.long (1 : Int64)), .second, .val (.long (1 : Int64)), .second, .val (.long l2), .second, iv (3 : Int32), rv b908, .val (.long got), .second, .val (.long st), .second, .val (.long (st + (1 : Int64))), .second, .val (.long ((st + (1 : Int64)) + (1 : Int64))), .second, .val (.long (((st + (1 : Int64)) + (1 : Int64)) + l2)), .second, .val (.long st), .second, .val (.long st), .second, .val (.long st), .second, .val (.long ex), .second] [(.int (1 : Int32))]) := fun tt kt => go939 tt (by
      refine XS.ifNo X933.here hx rfl (hb hby at_283) rfl ((if0 _ _).trans (teq hfin).2) ?_
      refine XS.iconst X933.here hx rfl (hb hby at_286) ?_
      refine XS.goto X933.here hx rfl (pc0 := 287) (pc' := 291) rfl (hb hby at_287) (by decide) (by decide) ?_
      exact kt)
  obtain ⟨fs, hr, hrun, hended, hW, hsame⟩ := X933.leave (v := some (.int (1 : Int32))) (fun h => by rw [Bd.returns] at h; cases h) (hlocks := by first | exact BodyLoose.notSynchronized Bd | exact Body.notSynchronized Bd)
  refine ⟨_, _, pre0 _ (go940 _ ?_), hrun, hended, _, _, rfl, ?_, ⟨_, rfl⟩, hW, hsame.mono (by decide) (by decide)⟩
  · exact retN X933 hx (t := .boolean) Bd.returns (by simp) (hb hby at_291) hr
  · show Q0n3aa Z st c0 c1 c2 hgh fl h0 n0 _ T933.heap _
    rw [eh933]
    exact ⟨rfl, N933⟩
theorem ef0n3ab (m : MethodId) (x0 : Int64) (x1 : Int64) (x2 : Int64) (x3 : Int64) (x4 : Int64) (x5 : Int32) : entryFrame m #[(.long x0), (.long x1), (.long x2), (.long x3), (.long x4), (.int x5)] maxLocals = mkF m 0 #[.val (.long x0), .second, .val (.long x1), .second, .val (.long x2), .second, .val (.long x3), .second, .val (.long x4), .second, .val (.int x5), .unset, .unset, .unset, .unset, .unset, .unset, .unset, .unset, .unset, .unset, .unset, .unset, .unset, .unset, .unset, .unset, .unset, .unset, .unset, .unset, .unset, .unset, .unset, .unset, .unset, .unset, .unset, .unset] [] := by first | (simp [entryFrame, mkF, argsToLocals, Value.category, maxLocals]; done) | rfl
def Q0n3ab (Z : State) (st : Int64) (c0 : Int64) (c1 : Int64) (c2 : Int64) (hgh : Int64) (fl : Int32) (h0 : Heap) (n0 : Nat) (v : Option Value) (h : Heap) (L : List Loc) : Prop := v = some (.int 1) ∧ Fr n0 L
set_option maxRecDepth 65536 in
set_option maxHeartbeats 40000000 in
theorem rm0n3ab (l : Launch) (Z : State) (a0 : Array Value) (hw : ∀ d ∈ tables_1, d.before a0 Z = true) (ws : List Jvm.Cond) (st : Int64) (c0 : Int64) (c1 : Int64) (c2 : Int64) (hgh : Int64) (fl : Int32) (h0 : Heap) (n0 : Nat) (Z0 : n0 ≤ h0.size) (hk : ((fl.toUInt32 >>> ((3 : Int32) &&& 31).toUInt32).toInt32) &&& 3 = 3) (hb0 : (fl &&& (1 : Int32) = (0 : Int32))) (hb1 : ¬ (fl &&& (2 : Int32) = (0 : Int32))) :
    MetFree l x (head1 (Jvm.Cond.code x code maxLocals ret :: ws) room_1) (fun aa UU => aa = #[(.long st), (.long c0), (.long c1), (.long c2), (.long hgh), (.int fl)] ∧ Z.Warmed39 UU.vm ∧ UU.heap = h0) (fun _ _ _ _ _ => True) (fun _ UU oo UU' => ∃ vv LL, oo = .returned vv ∧ Q0n3ab Z st c0 c1 c2 hgh fl h0 n0 vv UU'.heap LL ∧ FrameEnd UU oo UU' LL room_1.cells room_1.slots) := by
  have W : ∀ {d : Jvm.Cond} (i : Nat), tables_1[i]? = some d → d.before a0 Z = true := fun i h => hw _ (List.mem_of_getElem? h)
  refine MetFree.of_bodySF (plainFor_of_name pn166) hisR ?_
  intro p e s m args below meth c s₁ Bd hml0 hP hK
  obtain ⟨rfl, hZ, hh⟩ := hP
  have hx := Bd.exec
  have hby := Bd.bytes
  have hml : c.maxLocals = 39 := hml0
  have hown : s.vm.findClass "com/example/altocommit/altocommit/store/LogIndexAllAtOrBelowUpToPinLaw" = some m.cls := findClass_of_methodNamed Bd.named
  have hnm := (name_of_methodNamed Bd.named Bd.method).1
  have X0 : Stand p l e room_1 s m #[(.long st), (.long c0), (.long c1), (.long c2), (.long hgh), (.int fl)] below meth c s₁ [] 0 0 := Stand.of_body Bd
  have e0 : s₁.heap = h0 := by rw [← hh, Bd.state]; rfl
  have N0 := Fr.nil n0
  have pre0 : ∀ tt, Steps p.tables e below (s₁.setTop (mkF m 0 #[.val (.long st), .second, .val (.long c0), .second, .val (.long c1), .second, .val (.long c2), .second, .val (.long hgh), .second, iv fl, .unset, .unset, .unset, .unset, .unset, .unset, .unset, .unset, .unset, .unset, .unset, .unset, .unset, .unset, .unset, .unset, .unset, .unset, .unset, .unset, .unset, .unset, .unset, .unset, .unset, .unset, .unset, .unset] [])) tt → Steps p.tables e below (s₁.setTop (entryFrame m #[(.long st), (.long c0), (.long c1), (.long c2), (.long hgh), (.int fl)] maxLocals)) tt := fun tt kt => castTop (ef0n3ab m st c0 c1 c2 hgh fl) kt
  obtain ⟨ST, hST⟩ : ∃ z : State, z = s₁.setTop (mkF m 0 #[.val (.long st), .second, .val (.long c0), .second, .val (.long c1), .second, .val (.long c2), .second, .val (.long hgh), .second, iv fl, .unset, .unset, .unset, .unset, .unset, .unset, .unset, .unset, .unset, .unset, .unset, .unset, .unset, .unset, .unset, .unset, .unset, .unset, .unset, .unset, .unset, .unset, .unset, .unset, .unset, .unset, .unset, .unset] []) := ⟨_, rfl⟩
  rw [← hST] at pre0
  have go941 : own_S p e below ST s₁ (mkF m 18 #[.val (.long st), .second, .val (.long c0), .second, .val (.long c1), .second, .val (.long c2), .second, .val (.long hgh), .second, iv fl, .val (.long (65536 : Int64)), .second, .unset, .unset, .unset, .unset, .unset, .unset, .unset, .unset, .unset, .unset, .unset, .unset, .unset, .unset, .unset, .unset, .unset, .unset, .unset, .unset, .unset, .unset, .unset, .unset, .unset, .unset] [(.long (1 : Int64))]) := fun tt kt => (by
      rw [hST]
      show Steps p.tables e below (s₁.setTop (mkF m 0 #[.val (.long st), .second, .val (.long c0), .second, .val (.long c1), .second, .val (.long c2), .second, .val (.long hgh), .second, iv fl, .unset, .unset, .unset, .unset, .unset, .unset, .unset, .unset, .unset, .unset, .unset, .unset, .unset, .unset, .unset, .unset, .unset, .unset, .unset, .unset, .unset, .unset, .unset, .unset, .unset, .unset, .unset, .unset] [])) _
      refine X0.ldc2Long hx hown (mvT hZ (W 0 rfl)) (g := (mkF m 0 #[.val (.long st), .second, .val (.long c0), .second, .val (.long c1), .second, .val (.long c2), .second, .val (.long hgh), .second, iv fl, .unset, .unset, .unset, .unset, .unset, .unset, .unset, .unset, .unset, .unset, .unset, .unset, .unset, .unset, .unset, .unset, .unset, .unset, .unset, .unset, .unset, .unset, .unset, .unset, .unset, .unset, .unset, .unset] [])) rfl (hb hby at_0) _ ?_
      refine XS.lstore X0.here hx rfl (hb hby at_3) rfl (l' := #[.val (.long st), .second, .val (.long c0), .second, .val (.long c1), .second, .val (.long c2), .second, .val (.long hgh), .second, iv fl, .val (.long (65536 : Int64)), .second, .unset, .unset, .unset, .unset, .unset, .unset, .unset, .unset, .unset, .unset, .unset, .unset, .unset, .unset, .unset, .unset, .unset, .unset, .unset, .unset, .unset, .unset, .unset, .unset, .unset, .unset]) rfl ?_
      refine XS.iload X0.here hx rfl (hb hby at_5) rfl ?_
      refine XS.iconst X0.here hx rfl (hb hby at_7) ?_
      refine XS.iand X0.here hx rfl (hb hby at_8) rfl ?_
      refine XS.ifYes X0.here hx rfl (pc0 := 9) (pc' := 17) rfl (hb hby at_9) rfl ((if0 _ _).trans (teq hb0).1) (by decide) (by decide) ?_
      show Steps p.tables e below (s₁.setTop (mkF m 17 #[.val (.long st), .second, .val (.long c0), .second, .val (.long c1), .second, .val (.long c2), .second, .val (.long hgh), .second, iv fl, .val (.long (65536 : Int64)), .second, .unset, .unset, .unset, .unset, .unset, .unset, .unset, .unset, .unset, .unset, .unset, .unset, .unset, .unset, .unset, .unset, .unset, .unset, .unset, .unset, .unset, .unset, .unset, .unset, .unset, .unset] [])) _
      refine XS.lconst X0.here hx rfl (hb hby at_17) ?_
      exact kt)
  have go942 : own_S p e below ST s₁ (mkF m 33 #[.val (.long st), .second, .val (.long c0), .second, .val (.long c1), .second, .val (.long c2), .second, .val (.long hgh), .second, iv fl, .val (.long (65536 : Int64)), .second, .val (.long (1 : Int64)), .second, .unset, .unset, .unset, .unset, .unset, .unset, .unset, .unset, .unset, .unset, .unset, .unset, .unset, .unset, .unset, .unset, .unset, .unset, .unset, .unset, .unset, .unset, .unset, .unset] [(.long (65536 : Int64))]) := fun tt kt => go941 tt (by
      refine XS.lstore X0.here hx rfl (hb hby at_18) rfl (l' := #[.val (.long st), .second, .val (.long c0), .second, .val (.long c1), .second, .val (.long c2), .second, .val (.long hgh), .second, iv fl, .val (.long (65536 : Int64)), .second, .val (.long (1 : Int64)), .second, .unset, .unset, .unset, .unset, .unset, .unset, .unset, .unset, .unset, .unset, .unset, .unset, .unset, .unset, .unset, .unset, .unset, .unset, .unset, .unset, .unset, .unset, .unset, .unset]) rfl ?_
      refine XS.iload X0.here hx rfl (hb hby at_20) rfl ?_
      refine XS.iconst X0.here hx rfl (hb hby at_22) ?_
      refine XS.iand X0.here hx rfl (hb hby at_23) rfl ?_
      refine XS.ifNo X0.here hx rfl (hb hby at_24) rfl ((if0 _ _).trans (feq hb1).1) ?_
      refine XS.lload X0.here hx rfl (hb hby at_27) rfl ?_
      show Steps p.tables e below (s₁.setTop (mkF m 29 #[.val (.long st), .second, .val (.long c0), .second, .val (.long c1), .second, .val (.long c2), .second, .val (.long hgh), .second, iv fl, .val (.long (65536 : Int64)), .second, .val (.long (1 : Int64)), .second, .unset, .unset, .unset, .unset, .unset, .unset, .unset, .unset, .unset, .unset, .unset, .unset, .unset, .unset, .unset, .unset, .unset, .unset, .unset, .unset, .unset, .unset, .unset, .unset] [(.long (65536 : Int64))])) _
      refine XS.goto X0.here hx rfl (pc0 := 29) (pc' := 33) rfl (hb hby at_29) (by decide) (by decide) ?_
      exact kt)
  have go943 : own_S p e below ST s₁ (mkF m 39 #[.val (.long st), .second, .val (.long c0), .second, .val (.long c1), .second, .val (.long c2), .second, .val (.long hgh), .second, iv fl, .val (.long (65536 : Int64)), .second, .val (.long (1 : Int64)), .second, .val (.long (65536 : Int64)), .second, .unset, .unset, .unset, .unset, .unset, .unset, .unset, .unset, .unset, .unset, .unset, .unset, .unset, .unset, .unset, .unset, .unset, .unset, .unset, .unset, .unset, .unset] [(.int (fl &&& (4 : Int32)))]) := fun tt kt => go942 tt (by
      refine XS.lstore X0.here hx rfl (hb hby at_33) rfl (l' := #[.val (.long st), .second, .val (.long c0), .second, .val (.long c1), .second, .val (.long c2), .second, .val (.long hgh), .second, iv fl, .val (.long (65536 : Int64)), .second, .val (.long (1 : Int64)), .second, .val (.long (65536 : Int64)), .second, .unset, .unset, .unset, .unset, .unset, .unset, .unset, .unset, .unset, .unset, .unset, .unset, .unset, .unset, .unset, .unset, .unset, .unset, .unset, .unset, .unset, .unset]) rfl ?_
      refine XS.iload X0.here hx rfl (hb hby at_35) rfl ?_
      refine XS.iconst X0.here hx rfl (hb hby at_37) ?_
      refine XS.iand X0.here hx rfl (hb hby at_38) rfl ?_
      exact kt)
  obtain ⟨l2, hl2, sg944⟩ : ∃ (l2 : Int64), l2 = (if (fl &&& (4 : Int32)) = (0 : Int32) then (1 : Int64) else (65536 : Int64)) ∧ ∀ tt, Steps p.tables e below (s₁.setTop (mkF m 48 #[.val (.long st), .second, .val (.long c0), .second, .val (.long c1), .second, .val (.long c2), .second, .val (.long hgh), .second, iv fl, .val (.long (65536 : Int64)), .second, .val (.long (1 : Int64)), .second, .val (.long (65536 : Int64)), .second, .unset, .unset, .unset, .unset, .unset, .unset, .unset, .unset, .unset, .unset, .unset, .unset, .unset, .unset, .unset, .unset, .unset, .unset, .unset, .unset, .unset, .unset] [(.long l2)])) tt → Steps p.tables e below (s₁.setTop (mkF m 39 #[.val (.long st), .second, .val (.long c0), .second, .val (.long c1), .second, .val (.long c2), .second, .val (.long hgh), .second, iv fl, .val (.long (65536 : Int64)), .second, .val (.long (1 : Int64)), .second, .val (.long (65536 : Int64)), .second, .unset, .unset, .unset, .unset, .unset, .unset, .unset, .unset, .unset, .unset, .unset, .unset, .unset, .unset, .unset, .unset, .unset, .unset, .unset, .unset, .unset, .unset] [(.int (fl &&& (4 : Int32)))])) tt := by
    by_cases hd39_0 : (fl &&& (4 : Int32)) = (0 : Int32)
    · refine ⟨_, (if_pos hd39_0).symm, fun tt kt => ?_⟩
      show Steps p.tables e below (s₁.setTop (mkF m 39 #[.val (.long st), .second, .val (.long c0), .second, .val (.long c1), .second, .val (.long c2), .second, .val (.long hgh), .second, iv fl, .val (.long (65536 : Int64)), .second, .val (.long (1 : Int64)), .second, .val (.long (65536 : Int64)), .second, .unset, .unset, .unset, .unset, .unset, .unset, .unset, .unset, .unset, .unset, .unset, .unset, .unset, .unset, .unset, .unset, .unset, .unset, .unset, .unset, .unset, .unset] [(.int (fl &&& (4 : Int32)))])) _
      refine XS.ifYes X0.here hx rfl (pc0 := 39) (pc' := 47) rfl (hb hby at_39) rfl ((if0 _ _).trans (teq hd39_0).1) (by decide) (by decide) ?_
      refine XS.lconst X0.here hx rfl (hb hby at_47) ?_
      exact kt
    · refine ⟨_, (if_neg hd39_0).symm, fun tt kt => ?_⟩
      show Steps p.tables e below (s₁.setTop (mkF m 39 #[.val (.long st), .second, .val (.long c0), .second, .val (.long c1), .second, .val (.long c2), .second, .val (.long hgh), .second, iv fl, .val (.long (65536 : Int64)), .second, .val (.long (1 : Int64)), .second, .val (.long (65536 : Int64)), .second, .unset, .unset, .unset, .unset, .unset, .unset, .unset, .unset, .unset, .unset, .unset, .unset, .unset, .unset, .unset, .unset, .unset, .unset, .unset, .unset, .unset, .unset] [(.int (fl &&& (4 : Int32)))])) _
      refine XS.ifNo X0.here hx rfl (hb hby at_39) rfl ((if0 _ _).trans (feq hd39_0).1) ?_
      refine XS.lload X0.here hx rfl (hb hby at_42) rfl ?_
      refine XS.goto X0.here hx rfl (pc0 := 44) (pc' := 48) rfl (hb hby at_44) (by decide) (by decide) ?_
      exact kt
  have go945 : own_S p e below ST s₁ (mkF m 48 #[.val (.long st), .second, .val (.long c0), .second, .val (.long c1), .second, .val (.long c2), .second, .val (.long hgh), .second, iv fl, .val (.long (65536 : Int64)), .second, .val (.long (1 : Int64)), .second, .val (.long (65536 : Int64)), .second, .unset, .unset, .unset, .unset, .unset, .unset, .unset, .unset, .unset, .unset, .unset, .unset, .unset, .unset, .unset, .unset, .unset, .unset, .unset, .unset, .unset, .unset] [(.long l2)]) := fun tt kt => go943 tt (sg944 _ kt)
  have go946 : own_S p e below ST s₁ (mkF m 58 #[.val (.long st), .second, .val (.long c0), .second, .val (.long c1), .second, .val (.long c2), .second, .val (.long hgh), .second, iv fl, .val (.long (65536 : Int64)), .second, .val (.long (1 : Int64)), .second, .val (.long (65536 : Int64)), .second, .val (.long l2), .second, iv (((fl.toUInt32 >>> ((3 : Int32) &&& 31).toUInt32).toInt32) &&& (3 : Int32)), .unset, .unset, .unset, .unset, .unset, .unset, .unset, .unset, .unset, .unset, .unset, .unset, .unset, .unset, .unset, .unset, .unset, .unset, .unset] []) := fun tt kt => go945 tt (by
      refine XS.lstore X0.here hx rfl (hb hby at_48) rfl (l' := #[.val (.long st), .second, .val (.long c0), .second, .val (.long c1), .second, .val (.long c2), .second, .val (.long hgh), .second, iv fl, .val (.long (65536 : Int64)), .second, .val (.long (1 : Int64)), .second, .val (.long (65536 : Int64)), .second, .val (.long l2), .second, .unset, .unset, .unset, .unset, .unset, .unset, .unset, .unset, .unset, .unset, .unset, .unset, .unset, .unset, .unset, .unset, .unset, .unset, .unset, .unset]) rfl ?_
      refine XS.iload X0.here hx rfl (hb hby at_50) rfl ?_
      refine XS.iconst X0.here hx rfl (hb hby at_52) ?_
      refine XS.iushr X0.here hx rfl (hb hby at_53) rfl ?_
      refine XS.iconst X0.here hx rfl (hb hby at_54) ?_
      refine XS.iand X0.here hx rfl (hb hby at_55) rfl ?_
      show Steps p.tables e below (s₁.setTop (mkF m 56 #[.val (.long st), .second, .val (.long c0), .second, .val (.long c1), .second, .val (.long c2), .second, .val (.long hgh), .second, iv fl, .val (.long (65536 : Int64)), .second, .val (.long (1 : Int64)), .second, .val (.long (65536 : Int64)), .second, .val (.long l2), .second, .unset, .unset, .unset, .unset, .unset, .unset, .unset, .unset, .unset, .unset, .unset, .unset, .unset, .unset, .unset, .unset, .unset, .unset, .unset, .unset] [(.int (((fl.toUInt32 >>> ((3 : Int32) &&& 31).toUInt32).toInt32) &&& (3 : Int32)))])) _
      refine XS.istore X0.here hx rfl (hb hby at_56) rfl (l' := #[.val (.long st), .second, .val (.long c0), .second, .val (.long c1), .second, .val (.long c2), .second, .val (.long hgh), .second, iv fl, .val (.long (65536 : Int64)), .second, .val (.long (1 : Int64)), .second, .val (.long (65536 : Int64)), .second, .val (.long l2), .second, iv (((fl.toUInt32 >>> ((3 : Int32) &&& 31).toUInt32).toInt32) &&& (3 : Int32)), .unset, .unset, .unset, .unset, .unset, .unset, .unset, .unset, .unset, .unset, .unset, .unset, .unset, .unset, .unset, .unset, .unset, .unset, .unset]) rfl ?_
      exact kt)
  rw [hk] at go946
  obtain ⟨b947, g947⟩ : ∃ z, z = h0.size := ⟨_, rfl⟩
  obtain ⟨T947, h947, X947, e947, E947, A947, D947, -, st947⟩ := newO X0 hx hZ hown (W 1 rfl) (W 2 rfl) (W 3 rfl) e0 (g := (mkF m 58 #[.val (.long st), .second, .val (.long c0), .second, .val (.long c1), .second, .val (.long c2), .second, .val (.long hgh), .second, iv fl, .val (.long (65536 : Int64)), .second, .val (.long (1 : Int64)), .second, .val (.long (65536 : Int64)), .second, .val (.long l2), .second, iv (3 : Int32), .unset, .unset, .unset, .unset, .unset, .unset, .unset, .unset, .unset, .unset, .unset, .unset, .unset, .unset, .unset, .unset, .unset, .unset, .unset] [])) rfl (hb hby at_58) (by decide) (by decide)
  rw [← g947] at A947 D947 st947
  have ge_b947 : n0 ≤ b947 := Nat.le_trans Z0 (Nat.le_of_eq g947.symm)
  have F947_starts : Fld Z h947 b947 "com/example/altocommit/altocommit/store/LogIndex" "starts" "[J" .null := D947 (Or.inl (W 12 rfl)) (ty := (.array .long)) (by decide)
  have F947_lows : Fld Z h947 b947 "com/example/altocommit/altocommit/store/LogIndex" "lows" "[J" .null := D947 (Or.inl (W 14 rfl)) (ty := (.array .long)) (by decide)
  have F947_reaches : Fld Z h947 b947 "com/example/altocommit/altocommit/store/LogIndex" "reaches" "[J" .null := D947 (Or.inl (W 16 rfl)) (ty := (.array .long)) (by decide)
  have F947_end : Fld Z h947 b947 "com/example/altocommit/altocommit/store/LogIndex" "end" "J" (.long (0 : Int64)) := D947 (Or.inl (W 18 rfl)) (ty := .long) (by decide)
  have F947_count : Fld Z h947 b947 "com/example/altocommit/altocommit/store/LogIndex" "count" "I" (.int (0 : Int32)) := D947 (Or.inl (W 25 rfl)) (ty := .int) (by decide)
  have F947_highest : Fld Z h947 b947 "com/example/altocommit/altocommit/store/LogIndex" "highest" "J" (.long (0 : Int64)) := D947 (Or.inl (W 32 rfl)) (ty := .long) (by decide)
  have go948 : own_S p e below ST T947 (mkF m 61 #[.val (.long st), .second, .val (.long c0), .second, .val (.long c1), .second, .val (.long c2), .second, .val (.long hgh), .second, iv fl, .val (.long (65536 : Int64)), .second, .val (.long (1 : Int64)), .second, .val (.long (65536 : Int64)), .second, .val (.long l2), .second, iv (3 : Int32), .unset, .unset, .unset, .unset, .unset, .unset, .unset, .unset, .unset, .unset, .unset, .unset, .unset, .unset, .unset, .unset, .unset, .unset, .unset] [(.ref b947)]) := fun tt kt => go946 tt (st947 _ kt)
  have go949 : own_S p e below ST T947 (mkF m 63 #[.val (.long st), .second, .val (.long c0), .second, .val (.long c1), .second, .val (.long c2), .second, .val (.long hgh), .second, iv fl, .val (.long (65536 : Int64)), .second, .val (.long (1 : Int64)), .second, .val (.long (65536 : Int64)), .second, .val (.long l2), .second, iv (3 : Int32), .unset, .unset, .unset, .unset, .unset, .unset, .unset, .unset, .unset, .unset, .unset, .unset, .unset, .unset, .unset, .unset, .unset, .unset, .unset] [(.long st), (.ref b947), (.ref b947)]) := fun tt kt => go948 tt (by
      refine XS.dup X947.here hx rfl (hb hby at_61) rfl rfl ?_
      refine XS.lloadN X947.here hx rfl (hb hby at_62) rfl ?_
      exact kt)
  have zs951 := (Nat.le_trans Z0 E947.1)
  obtain ⟨_, _, ⟨T950, L950, k950, n950⟩, -, X950, ⟨Lc950, hQ950, l950, y950, z950⟩, st950⟩ := X947.specialBack hx (y := (⟨"com/example/altocommit/altocommit/store/LogIndex", "<init>", "(J)V"⟩ : MethodName)) rfl hown (mvT hZ (W 4 rfl)) (mvT hZ (W 5 rfl)) (mvT hZ (W 6 rfl)) (by decide) (backOf (W := 1) (rm1 l Z a0 hw [] b947 st h947 n0 zs951 F947_starts F947_lows F947_reaches F947_end F947_count F947_highest A947 ge_b947) hZ (W 6 rfl) (W 3 rfl) (by decide) (by decide)) (g := (mkF m 63 #[.val (.long st), .second, .val (.long c0), .second, .val (.long c1), .second, .val (.long c2), .second, .val (.long hgh), .second, iv fl, .val (.long (65536 : Int64)), .second, .val (.long (1 : Int64)), .second, .val (.long (65536 : Int64)), .second, .val (.long l2), .second, iv (3 : Int32), .unset, .unset, .unset, .unset, .unset, .unset, .unset, .unset, .unset, .unset, .unset, .unset, .unset, .unset, .unset, .unset, .unset, .unset, .unset] [(.long st), (.ref b947), (.ref b947)])) rfl (by rw [hml]; rfl) (Steps.refl _) (a := b947) (argsL := [(.long st)]) (rest := [(.ref b947)]) (lenOf pd167 rfl) rfl (by show 2 * 0 + _ ≤ _; exact Nat.le_of_eq rfl) (hb hby at_63) (fun _ _ => ⟨rfl, e947, (by decide : 1 + 3 ≤ _), (by decide : 6 + 48 ≤ _)⟩)
  dsimp only [Pt.U, Pt.locs, Pt.cells, Pt.slots] at X950 l950 y950 z950 st950 hQ950
  subst l950 y950 z950
  obtain ⟨bs, bl, br, ks, kl, kr, rfl, Nq950, K950, LIi950⟩ := hQ950
  have N950 := Fr.app N0 Nq950
  have go952 : own_S p e below ST T950 (mkF m 66 #[.val (.long st), .second, .val (.long c0), .second, .val (.long c1), .second, .val (.long c2), .second, .val (.long hgh), .second, iv fl, .val (.long (65536 : Int64)), .second, .val (.long (1 : Int64)), .second, .val (.long (65536 : Int64)), .second, .val (.long l2), .second, iv (3 : Int32), .unset, .unset, .unset, .unset, .unset, .unset, .unset, .unset, .unset, .unset, .unset, .unset, .unset, .unset, .unset, .unset, .unset, .unset, .unset] [(.ref b947)]) := fun tt kt => go949 tt (st950.trans kt)
  have go953 : own_S p e below ST T950 (mkF m 79 #[.val (.long st), .second, .val (.long c0), .second, .val (.long c1), .second, .val (.long c2), .second, .val (.long hgh), .second, iv fl, .val (.long (65536 : Int64)), .second, .val (.long (1 : Int64)), .second, .val (.long (65536 : Int64)), .second, .val (.long l2), .second, iv (3 : Int32), rv b947, .unset, .unset, .unset, .unset, .unset, .unset, .unset, .unset, .unset, .unset, .unset, .unset, .unset, .unset, .unset, .unset, .unset, .unset] [(.long (1 : Int64)), (.long c0), (.ref b947)]) := fun tt kt => go952 tt (by
      refine XS.astore X950.here hx rfl (hb hby at_66) rfl rfl (l' := #[.val (.long st), .second, .val (.long c0), .second, .val (.long c1), .second, .val (.long c2), .second, .val (.long hgh), .second, iv fl, .val (.long (65536 : Int64)), .second, .val (.long (1 : Int64)), .second, .val (.long (65536 : Int64)), .second, .val (.long l2), .second, iv (3 : Int32), rv b947, .unset, .unset, .unset, .unset, .unset, .unset, .unset, .unset, .unset, .unset, .unset, .unset, .unset, .unset, .unset, .unset, .unset, .unset]) rfl ?_
      refine XS.iload X950.here hx rfl (hb hby at_68) rfl ?_
      refine XS.iconst X950.here hx rfl (hb hby at_70) ?_
      refine XS.icmpNo X950.here hx rfl (hb hby at_71) rfl (flt (by decide : ¬ ((3 : Int32) < (1 : Int32)))).1 ?_
      refine XS.aload X950.here hx rfl (hb hby at_74) rfl rfl ?_
      refine XS.lloadN X950.here hx rfl (hb hby at_76) rfl ?_
      show Steps p.tables e below (T950.setTop (mkF m 77 #[.val (.long st), .second, .val (.long c0), .second, .val (.long c1), .second, .val (.long c2), .second, .val (.long hgh), .second, iv fl, .val (.long (65536 : Int64)), .second, .val (.long (1 : Int64)), .second, .val (.long (65536 : Int64)), .second, .val (.long l2), .second, iv (3 : Int32), rv b947, .unset, .unset, .unset, .unset, .unset, .unset, .unset, .unset, .unset, .unset, .unset, .unset, .unset, .unset, .unset, .unset, .unset, .unset] [(.long c0), (.ref b947)])) _
      refine XS.lload X950.here hx rfl (hb hby at_77) rfl ?_
      exact kt)
  have zs956 := (Nat.le_trans zs951 K950.1)
  have f957 := (A947.keep K950)
  obtain ⟨cq955, kq955, q955a, q955b, q955c⟩ := isOf hZ rfl f957
  obtain ⟨_, _, ⟨T955, L955, k955, n955⟩, -, X955, ⟨Lc955, hQ955, l955, y955, z955⟩, st955⟩ := X950.virtualBack hx (y := (⟨"com/example/altocommit/altocommit/store/LogIndex", "add", "(JJ)V"⟩ : MethodName)) (z := (⟨"com/example/altocommit/altocommit/store/LogIndex", "add", "(JJ)V"⟩ : MethodName)) hown (mvT hZ (W 26 rfl)) (mvT hZ (W 27 rfl)) (notFace_of_selects (args := #[]) (mvT hZ (W 29 rfl))) (mvT hZ (W 29 rfl)) (mvT hZ (W 28 rfl)) (by decide) (backOf (W := 0) (rm4c0 l Z a0 hw [] b947 bs bl br ks kl kr c0 (1 : Int64) st (0 : Int64) T950.heap n0 zs956 LIi950) hZ (W 30 rfl) (W 3 rfl) (by decide) (by decide)) q955a q955c (g := (mkF m 79 #[.val (.long st), .second, .val (.long c0), .second, .val (.long c1), .second, .val (.long c2), .second, .val (.long hgh), .second, iv fl, .val (.long (65536 : Int64)), .second, .val (.long (1 : Int64)), .second, .val (.long (65536 : Int64)), .second, .val (.long l2), .second, iv (3 : Int32), rv b947, .unset, .unset, .unset, .unset, .unset, .unset, .unset, .unset, .unset, .unset, .unset, .unset, .unset, .unset, .unset, .unset, .unset, .unset] [(.long (1 : Int64)), (.long c0), (.ref b947)])) rfl (by rw [hml]; rfl) (Steps.refl _) (argsL := [(.long c0), (.long (1 : Int64))]) (rest := []) (lenOf pd169 rfl) rfl (by show 2 * 0 + _ ≤ _; exact Nat.le_of_eq rfl) (hb hby at_79) (fun _ _ => ⟨rfl, rfl, (by decide : 4 + 0 ≤ _), (by decide : 54 + 0 ≤ _)⟩)
  dsimp only [Pt.U, Pt.locs, Pt.cells, Pt.slots] at X955 l955 y955 z955 st955 hQ955
  subst l955 y955 z955
  obtain ⟨lw954, rfl, Nq955, K955, LIi955⟩ := hQ955
  have N955 := Fr.app N950 Nq955
  have go958 : own_S p e below ST T955 (mkF m 82 #[.val (.long st), .second, .val (.long c0), .second, .val (.long c1), .second, .val (.long c2), .second, .val (.long hgh), .second, iv fl, .val (.long (65536 : Int64)), .second, .val (.long (1 : Int64)), .second, .val (.long (65536 : Int64)), .second, .val (.long l2), .second, iv (3 : Int32), rv b947, .unset, .unset, .unset, .unset, .unset, .unset, .unset, .unset, .unset, .unset, .unset, .unset, .unset, .unset, .unset, .unset, .unset, .unset] []) := fun tt kt => go953 tt (st955.trans kt)
  have go959 : own_S p e below ST T955 (mkF m 94 #[.val (.long st), .second, .val (.long c0), .second, .val (.long c1), .second, .val (.long c2), .second, .val (.long hgh), .second, iv fl, .val (.long (65536 : Int64)), .second, .val (.long (1 : Int64)), .second, .val (.long (65536 : Int64)), .second, .val (.long l2), .second, iv (3 : Int32), rv b947, .unset, .unset, .unset, .unset, .unset, .unset, .unset, .unset, .unset, .unset, .unset, .unset, .unset, .unset, .unset, .unset, .unset, .unset] [(.long (65536 : Int64)), (.long c1), (.ref b947)]) := fun tt kt => go958 tt (by
      refine XS.iload X955.here hx rfl (hb hby at_82) rfl ?_
      refine XS.iconst X955.here hx rfl (hb hby at_84) ?_
      refine XS.icmpNo X955.here hx rfl (hb hby at_85) rfl (flt (by decide : ¬ ((3 : Int32) < (2 : Int32)))).1 ?_
      refine XS.aload X955.here hx rfl (hb hby at_88) rfl rfl ?_
      refine XS.lload X955.here hx rfl (hb hby at_90) rfl ?_
      refine XS.lload X955.here hx rfl (hb hby at_92) rfl ?_
      exact kt)
  have hm961 : (lcmpW ((st + (1 : Int64)) - st) (65536 : Int64) < (0 : Int32)) := by rw [own_as]; decide
  have zs963 := (Nat.le_trans zs956 K955.1)
  obtain ⟨cq962, kq962, q962a, q962b, q962c⟩ := isOf hZ rfl LIi955.1
  obtain ⟨_, _, ⟨T962, L962, k962, n962⟩, -, X962, ⟨Lc962, hQ962, l962, y962, z962⟩, st962⟩ := X955.virtualBack hx (y := (⟨"com/example/altocommit/altocommit/store/LogIndex", "add", "(JJ)V"⟩ : MethodName)) (z := (⟨"com/example/altocommit/altocommit/store/LogIndex", "add", "(JJ)V"⟩ : MethodName)) hown (mvT hZ (W 26 rfl)) (mvT hZ (W 27 rfl)) (notFace_of_selects (args := #[]) (mvT hZ (W 29 rfl))) (mvT hZ (W 29 rfl)) (mvT hZ (W 28 rfl)) (by decide) (backOf (W := 0) (rm4c1m l Z a0 hw [] b947 bs bl br ks kl kr c1 (65536 : Int64) (st + (1 : Int64)) (own_maxJ (0 : Int64) c0) st lw954 c0 T955.heap n0 zs963 LIi955 hm961) hZ (W 30 rfl) (W 3 rfl) (by decide) (by decide)) q962a q962c (g := (mkF m 94 #[.val (.long st), .second, .val (.long c0), .second, .val (.long c1), .second, .val (.long c2), .second, .val (.long hgh), .second, iv fl, .val (.long (65536 : Int64)), .second, .val (.long (1 : Int64)), .second, .val (.long (65536 : Int64)), .second, .val (.long l2), .second, iv (3 : Int32), rv b947, .unset, .unset, .unset, .unset, .unset, .unset, .unset, .unset, .unset, .unset, .unset, .unset, .unset, .unset, .unset, .unset, .unset, .unset] [(.long (65536 : Int64)), (.long c1), (.ref b947)])) rfl (by rw [hml]; rfl) (Steps.refl _) (argsL := [(.long c1), (.long (65536 : Int64))]) (rest := []) (lenOf pd169 rfl) rfl (by show 2 * 0 + _ ≤ _; exact Nat.le_of_eq rfl) (hb hby at_94) (fun _ _ => ⟨rfl, rfl, (by decide : 4 + 0 ≤ _), (by decide : 54 + 0 ≤ _)⟩)
  dsimp only [Pt.U, Pt.locs, Pt.cells, Pt.slots] at X962 l962 y962 z962 st962 hQ962
  subst l962 y962 z962
  obtain ⟨lw960, rfl, Nq962, K962, LIi962⟩ := hQ962
  have N962 := Fr.app N955 Nq962
  have go964 : own_S p e below ST T962 (mkF m 97 #[.val (.long st), .second, .val (.long c0), .second, .val (.long c1), .second, .val (.long c2), .second, .val (.long hgh), .second, iv fl, .val (.long (65536 : Int64)), .second, .val (.long (1 : Int64)), .second, .val (.long (65536 : Int64)), .second, .val (.long l2), .second, iv (3 : Int32), rv b947, .unset, .unset, .unset, .unset, .unset, .unset, .unset, .unset, .unset, .unset, .unset, .unset, .unset, .unset, .unset, .unset, .unset, .unset] []) := fun tt kt => go959 tt (st962.trans kt)
  have go965 : own_S p e below ST T962 (mkF m 109 #[.val (.long st), .second, .val (.long c0), .second, .val (.long c1), .second, .val (.long c2), .second, .val (.long hgh), .second, iv fl, .val (.long (65536 : Int64)), .second, .val (.long (1 : Int64)), .second, .val (.long (65536 : Int64)), .second, .val (.long l2), .second, iv (3 : Int32), rv b947, .unset, .unset, .unset, .unset, .unset, .unset, .unset, .unset, .unset, .unset, .unset, .unset, .unset, .unset, .unset, .unset, .unset, .unset] [(.long l2), (.long c2), (.ref b947)]) := fun tt kt => go964 tt (by
      refine XS.iload X962.here hx rfl (hb hby at_97) rfl ?_
      refine XS.iconst X962.here hx rfl (hb hby at_99) ?_
      refine XS.icmpNo X962.here hx rfl (hb hby at_100) rfl (flt (by decide : ¬ ((3 : Int32) < (3 : Int32)))).1 ?_
      refine XS.aload X962.here hx rfl (hb hby at_103) rfl rfl ?_
      refine XS.lload X962.here hx rfl (hb hby at_105) rfl ?_
      refine XS.lload X962.here hx rfl (hb hby at_107) rfl ?_
      exact kt)
  have hm967 : ¬ (lcmpW (((st + (1 : Int64)) + (65536 : Int64)) - st) (65536 : Int64) < (0 : Int32)) := by rw [own_as2]; decide
  have zs969 := (Nat.le_trans zs963 K962.1)
  obtain ⟨cq968, kq968, q968a, q968b, q968c⟩ := isOf hZ rfl LIi962.1
  obtain ⟨_, _, ⟨T968, L968, k968, n968⟩, -, X968, ⟨Lc968, hQ968, l968, y968, z968⟩, st968⟩ := X962.virtualBack hx (y := (⟨"com/example/altocommit/altocommit/store/LogIndex", "add", "(JJ)V"⟩ : MethodName)) (z := (⟨"com/example/altocommit/altocommit/store/LogIndex", "add", "(JJ)V"⟩ : MethodName)) hown (mvT hZ (W 26 rfl)) (mvT hZ (W 27 rfl)) (notFace_of_selects (args := #[]) (mvT hZ (W 29 rfl))) (mvT hZ (W 29 rfl)) (mvT hZ (W 28 rfl)) (by decide) (backOf (W := 0) (rm4c1 l Z a0 hw [] b947 bs bl br ks kl kr c2 l2 ((st + (1 : Int64)) + (65536 : Int64)) (own_maxJ (own_maxJ (0 : Int64) c0) c1) st (own_minJ lw954 lw960) (own_maxJ c0 c1) T962.heap n0 zs969 LIi962 hm967) hZ (W 30 rfl) (W 3 rfl) (by decide) (by decide)) q968a q968c (g := (mkF m 109 #[.val (.long st), .second, .val (.long c0), .second, .val (.long c1), .second, .val (.long c2), .second, .val (.long hgh), .second, iv fl, .val (.long (65536 : Int64)), .second, .val (.long (1 : Int64)), .second, .val (.long (65536 : Int64)), .second, .val (.long l2), .second, iv (3 : Int32), rv b947, .unset, .unset, .unset, .unset, .unset, .unset, .unset, .unset, .unset, .unset, .unset, .unset, .unset, .unset, .unset, .unset, .unset, .unset] [(.long l2), (.long c2), (.ref b947)])) rfl (by rw [hml]; rfl) (Steps.refl _) (argsL := [(.long c2), (.long l2)]) (rest := []) (lenOf pd169 rfl) rfl (by show 2 * 0 + _ ≤ _; exact Nat.le_of_eq rfl) (hb hby at_109) (fun _ _ => ⟨rfl, rfl, (by decide : 4 + 0 ≤ _), (by decide : 54 + 0 ≤ _)⟩)
  dsimp only [Pt.U, Pt.locs, Pt.cells, Pt.slots] at X968 l968 y968 z968 st968 hQ968
  subst l968 y968 z968
  obtain ⟨lw966, rfl, Nq968, K968, LIi968⟩ := hQ968
  have N968 := Fr.app N962 Nq968
  have go970 : own_S p e below ST T968 (mkF m 112 #[.val (.long st), .second, .val (.long c0), .second, .val (.long c1), .second, .val (.long c2), .second, .val (.long hgh), .second, iv fl, .val (.long (65536 : Int64)), .second, .val (.long (1 : Int64)), .second, .val (.long (65536 : Int64)), .second, .val (.long l2), .second, iv (3 : Int32), rv b947, .unset, .unset, .unset, .unset, .unset, .unset, .unset, .unset, .unset, .unset, .unset, .unset, .unset, .unset, .unset, .unset, .unset, .unset] []) := fun tt kt => go965 tt (st968.trans kt)
  have go971 : own_S p e below ST T968 (mkF m 116 #[.val (.long st), .second, .val (.long c0), .second, .val (.long c1), .second, .val (.long c2), .second, .val (.long hgh), .second, iv fl, .val (.long (65536 : Int64)), .second, .val (.long (1 : Int64)), .second, .val (.long (65536 : Int64)), .second, .val (.long l2), .second, iv (3 : Int32), rv b947, .unset, .unset, .unset, .unset, .unset, .unset, .unset, .unset, .unset, .unset, .unset, .unset, .unset, .unset, .unset, .unset, .unset, .unset] [(.long hgh), (.ref b947)]) := fun tt kt => go970 tt (by
      refine XS.aload X968.here hx rfl (hb hby at_112) rfl rfl ?_
      refine XS.lload X968.here hx rfl (hb hby at_114) rfl ?_
      exact kt)
  have zs973 := (Nat.le_trans zs969 K968.1)
  obtain ⟨cq972, kq972, q972a, q972b, q972c⟩ := isOf hZ rfl LIi968.1
  obtain ⟨_, _, ⟨T972, L972, k972, n972⟩, -, X972, ⟨Lc972, hQ972, l972, y972, z972⟩, st972⟩ := X968.virtualBack hx (y := (⟨"com/example/altocommit/altocommit/store/LogIndex", "allAtOrBelowUpTo", "(J)J"⟩ : MethodName)) (z := (⟨"com/example/altocommit/altocommit/store/LogIndex", "allAtOrBelowUpTo", "(J)J"⟩ : MethodName)) hown (mvT hZ (W 19 rfl)) (mvT hZ (W 20 rfl)) (notFace_of_selects (args := #[]) (mvT hZ (W 22 rfl))) (mvT hZ (W 22 rfl)) (mvT hZ (W 21 rfl)) (by decide) (backOf (W := 0) (rm3c2 l Z a0 hw [] b947 bs bl br ks kl kr hgh (((st + (1 : Int64)) + (65536 : Int64)) + l2) (own_maxJ (own_maxJ (own_maxJ (0 : Int64) c0) c1) c2) st ((st + (1 : Int64)) + (65536 : Int64)) (own_minJ lw954 lw960) lw966 (0 : Int64) (own_maxJ c0 c1) (own_maxJ (own_maxJ c0 c1) c2) T968.heap n0 zs973 LIi968) hZ (W 23 rfl) (W 3 rfl) (by decide) (by decide)) q972a q972c (g := (mkF m 116 #[.val (.long st), .second, .val (.long c0), .second, .val (.long c1), .second, .val (.long c2), .second, .val (.long hgh), .second, iv fl, .val (.long (65536 : Int64)), .second, .val (.long (1 : Int64)), .second, .val (.long (65536 : Int64)), .second, .val (.long l2), .second, iv (3 : Int32), rv b947, .unset, .unset, .unset, .unset, .unset, .unset, .unset, .unset, .unset, .unset, .unset, .unset, .unset, .unset, .unset, .unset, .unset, .unset] [(.long hgh), (.ref b947)])) rfl (by rw [hml]; rfl) (Steps.refl _) (argsL := [(.long hgh)]) (rest := []) (lenOf pd168 rfl) rfl (by show 2 * 0 + _ ≤ _; exact Nat.le_of_eq rfl) (hb hby at_116) (fun _ _ => ⟨rfl, rfl, (by decide : 4 + 0 ≤ _), (by decide : 54 + 0 ≤ _)⟩)
  dsimp only [Pt.U, Pt.locs, Pt.cells, Pt.slots] at X972 l972 y972 z972 st972 hQ972
  subst l972 y972 z972
  obtain ⟨rfl, Nq972, eh972⟩ := hQ972
  have N972 := Fr.app N968 Nq972
  have go974 : own_S p e below ST T972 (mkF m 119 #[.val (.long st), .second, .val (.long c0), .second, .val (.long c1), .second, .val (.long c2), .second, .val (.long hgh), .second, iv fl, .val (.long (65536 : Int64)), .second, .val (.long (1 : Int64)), .second, .val (.long (65536 : Int64)), .second, .val (.long l2), .second, iv (3 : Int32), rv b947, .unset, .unset, .unset, .unset, .unset, .unset, .unset, .unset, .unset, .unset, .unset, .unset, .unset, .unset, .unset, .unset, .unset, .unset] [(.long (if (0 : Int32) < lcmpW (own_maxJ c0 c1) hgh then st else (if (0 : Int32) < lcmpW (own_maxJ (own_maxJ c0 c1) c2) hgh then ((st + (1 : Int64)) + (65536 : Int64)) else (((st + (1 : Int64)) + (65536 : Int64)) + l2))))]) := fun tt kt => go971 tt (st972.trans kt)
  obtain ⟨got, hgot⟩ : ∃ z : Int64, z = (if (0 : Int32) < lcmpW (own_maxJ c0 c1) hgh then st else (if (0 : Int32) < lcmpW (own_maxJ (own_maxJ c0 c1) c2) hgh then ((st + (1 : Int64)) + (65536 : Int64)) else (((st + (1 : Int64)) + (65536 : Int64)) + l2))) := ⟨_, rfl⟩
  rw [← hgot] at go974
  have go975 : own_S p e below ST T972 (mkF m 222 #[.val (.long st), .second, .val (.long c0), .second, .val (.long c1), .second, .val (.long c2), .second, .val (.long hgh), .second, iv fl, .val (.long (65536 : Int64)), .second, .val (.long (1 : Int64)), .second, .val (.long (65536 : Int64)), .second, .val (.long l2), .second, iv (3 : Int32), rv b947, .val (.long got), .second, .val (.long st), .second, .val (.long (st + (1 : Int64))), .second, .val (.long ((st + (1 : Int64)) + (65536 : Int64))), .second, .val (.long (((st + (1 : Int64)) + (65536 : Int64)) + l2)), .second, .val (.long st), .second, .val (.long st), .second, .val (.long ((st + (1 : Int64)) + (65536 : Int64))), .second, .unset, .unset] [(.int (lcmpW c0 hgh))]) := fun tt kt => go974 tt (by
      refine XS.lstore X972.here hx rfl (hb hby at_119) rfl (l' := #[.val (.long st), .second, .val (.long c0), .second, .val (.long c1), .second, .val (.long c2), .second, .val (.long hgh), .second, iv fl, .val (.long (65536 : Int64)), .second, .val (.long (1 : Int64)), .second, .val (.long (65536 : Int64)), .second, .val (.long l2), .second, iv (3 : Int32), rv b947, .val (.long got), .second, .unset, .unset, .unset, .unset, .unset, .unset, .unset, .unset, .unset, .unset, .unset, .unset, .unset, .unset, .unset, .unset]) rfl ?_
      refine XS.lloadN X972.here hx rfl (hb hby at_121) rfl ?_
      refine XS.lstore X972.here hx rfl (hb hby at_122) rfl (l' := #[.val (.long st), .second, .val (.long c0), .second, .val (.long c1), .second, .val (.long c2), .second, .val (.long hgh), .second, iv fl, .val (.long (65536 : Int64)), .second, .val (.long (1 : Int64)), .second, .val (.long (65536 : Int64)), .second, .val (.long l2), .second, iv (3 : Int32), rv b947, .val (.long got), .second, .val (.long st), .second, .unset, .unset, .unset, .unset, .unset, .unset, .unset, .unset, .unset, .unset, .unset, .unset, .unset, .unset]) rfl ?_
      refine XS.lload X972.here hx rfl (hb hby at_124) rfl ?_
      refine XS.lload X972.here hx rfl (hb hby at_126) rfl ?_
      refine XS.ladd X972.here hx rfl (hb hby at_128) rfl ?_
      show Steps p.tables e below (T972.setTop (mkF m 129 #[.val (.long st), .second, .val (.long c0), .second, .val (.long c1), .second, .val (.long c2), .second, .val (.long hgh), .second, iv fl, .val (.long (65536 : Int64)), .second, .val (.long (1 : Int64)), .second, .val (.long (65536 : Int64)), .second, .val (.long l2), .second, iv (3 : Int32), rv b947, .val (.long got), .second, .val (.long st), .second, .unset, .unset, .unset, .unset, .unset, .unset, .unset, .unset, .unset, .unset, .unset, .unset, .unset, .unset] [(.long (st + (1 : Int64)))])) _
      refine XS.lstore X972.here hx rfl (hb hby at_129) rfl (l' := #[.val (.long st), .second, .val (.long c0), .second, .val (.long c1), .second, .val (.long c2), .second, .val (.long hgh), .second, iv fl, .val (.long (65536 : Int64)), .second, .val (.long (1 : Int64)), .second, .val (.long (65536 : Int64)), .second, .val (.long l2), .second, iv (3 : Int32), rv b947, .val (.long got), .second, .val (.long st), .second, .val (.long (st + (1 : Int64))), .second, .unset, .unset, .unset, .unset, .unset, .unset, .unset, .unset, .unset, .unset, .unset, .unset]) rfl ?_
      refine XS.lload X972.here hx rfl (hb hby at_131) rfl ?_
      refine XS.lload X972.here hx rfl (hb hby at_133) rfl ?_
      refine XS.ladd X972.here hx rfl (hb hby at_135) rfl ?_
      refine XS.lstore X972.here hx rfl (hb hby at_136) rfl (l' := #[.val (.long st), .second, .val (.long c0), .second, .val (.long c1), .second, .val (.long c2), .second, .val (.long hgh), .second, iv fl, .val (.long (65536 : Int64)), .second, .val (.long (1 : Int64)), .second, .val (.long (65536 : Int64)), .second, .val (.long l2), .second, iv (3 : Int32), rv b947, .val (.long got), .second, .val (.long st), .second, .val (.long (st + (1 : Int64))), .second, .val (.long ((st + (1 : Int64)) + (65536 : Int64))), .second, .unset, .unset, .unset, .unset, .unset, .unset, .unset, .unset, .unset, .unset]) rfl ?_
      refine XS.lloadN X972.here hx rfl (hb hby at_138) rfl ?_
      show Steps p.tables e below (T972.setTop (mkF m 139 #[.val (.long st), .second, .val (.long c0), .second, .val (.long c1), .second, .val (.long c2), .second, .val (.long hgh), .second, iv fl, .val (.long (65536 : Int64)), .second, .val (.long (1 : Int64)), .second, .val (.long (65536 : Int64)), .second, .val (.long l2), .second, iv (3 : Int32), rv b947, .val (.long got), .second, .val (.long st), .second, .val (.long (st + (1 : Int64))), .second, .val (.long ((st + (1 : Int64)) + (65536 : Int64))), .second, .unset, .unset, .unset, .unset, .unset, .unset, .unset, .unset, .unset, .unset] [(.long st)])) _
      refine XS.lstore X972.here hx rfl (hb hby at_139) rfl (l' := #[.val (.long st), .second, .val (.long c0), .second, .val (.long c1), .second, .val (.long c2), .second, .val (.long hgh), .second, iv fl, .val (.long (65536 : Int64)), .second, .val (.long (1 : Int64)), .second, .val (.long (65536 : Int64)), .second, .val (.long l2), .second, iv (3 : Int32), rv b947, .val (.long got), .second, .val (.long st), .second, .val (.long (st + (1 : Int64))), .second, .val (.long ((st + (1 : Int64)) + (65536 : Int64))), .second, .val (.long st), .second, .unset, .unset, .unset, .unset, .unset, .unset, .unset, .unset]) rfl ?_
      refine XS.iload X972.here hx rfl (hb hby at_141) rfl ?_
      refine XS.iconst X972.here hx rfl (hb hby at_143) ?_
      refine XS.icmpNo X972.here hx rfl (hb hby at_144) rfl (flt (by decide : ¬ ((3 : Int32) < (1 : Int32)))).1 ?_
      refine XS.lload X972.here hx rfl (hb hby at_147) rfl ?_
      refine XS.lstore X972.here hx rfl (hb hby at_149) rfl (l' := #[.val (.long st), .second, .val (.long c0), .second, .val (.long c1), .second, .val (.long c2), .second, .val (.long hgh), .second, iv fl, .val (.long (65536 : Int64)), .second, .val (.long (1 : Int64)), .second, .val (.long (65536 : Int64)), .second, .val (.long l2), .second, iv (3 : Int32), rv b947, .val (.long got), .second, .val (.long st), .second, .val (.long (st + (1 : Int64))), .second, .val (.long ((st + (1 : Int64)) + (65536 : Int64))), .second, .val (.long (st + (1 : Int64))), .second, .unset, .unset, .unset, .unset, .unset, .unset, .unset, .unset]) rfl ?_
      show Steps p.tables e below (T972.setTop (mkF m 151 #[.val (.long st), .second, .val (.long c0), .second, .val (.long c1), .second, .val (.long c2), .second, .val (.long hgh), .second, iv fl, .val (.long (65536 : Int64)), .second, .val (.long (1 : Int64)), .second, .val (.long (65536 : Int64)), .second, .val (.long l2), .second, iv (3 : Int32), rv b947, .val (.long got), .second, .val (.long st), .second, .val (.long (st + (1 : Int64))), .second, .val (.long ((st + (1 : Int64)) + (65536 : Int64))), .second, .val (.long (st + (1 : Int64))), .second, .unset, .unset, .unset, .unset, .unset, .unset, .unset, .unset] [])) _
      refine XS.iload X972.here hx rfl (hb hby at_151) rfl ?_
      refine XS.iconst X972.here hx rfl (hb hby at_153) ?_
      refine XS.icmpNo X972.here hx rfl (hb hby at_154) rfl (flt (by decide : ¬ ((3 : Int32) < (2 : Int32)))).1 ?_
      refine XS.lload X972.here hx rfl (hb hby at_157) rfl ?_
      refine XS.lstore X972.here hx rfl (hb hby at_159) rfl (l' := #[.val (.long st), .second, .val (.long c0), .second, .val (.long c1), .second, .val (.long c2), .second, .val (.long hgh), .second, iv fl, .val (.long (65536 : Int64)), .second, .val (.long (1 : Int64)), .second, .val (.long (65536 : Int64)), .second, .val (.long l2), .second, iv (3 : Int32), rv b947, .val (.long got), .second, .val (.long st), .second, .val (.long (st + (1 : Int64))), .second, .val (.long ((st + (1 : Int64)) + (65536 : Int64))), .second, .val (.long ((st + (1 : Int64)) + (65536 : Int64))), .second, .unset, .unset, .unset, .unset, .unset, .unset, .unset, .unset]) rfl ?_
      refine XS.iload X972.here hx rfl (hb hby at_161) rfl ?_
      show Steps p.tables e below (T972.setTop (mkF m 163 #[.val (.long st), .second, .val (.long c0), .second, .val (.long c1), .second, .val (.long c2), .second, .val (.long hgh), .second, iv fl, .val (.long (65536 : Int64)), .second, .val (.long (1 : Int64)), .second, .val (.long (65536 : Int64)), .second, .val (.long l2), .second, iv (3 : Int32), rv b947, .val (.long got), .second, .val (.long st), .second, .val (.long (st + (1 : Int64))), .second, .val (.long ((st + (1 : Int64)) + (65536 : Int64))), .second, .val (.long ((st + (1 : Int64)) + (65536 : Int64))), .second, .unset, .unset, .unset, .unset, .unset, .unset, .unset, .unset] [(.int (3 : Int32))])) _
      refine XS.iconst X972.here hx rfl (hb hby at_163) ?_
      refine XS.icmpNo X972.here hx rfl (hb hby at_164) rfl (flt (by decide : ¬ ((3 : Int32) < (3 : Int32)))).1 ?_
      refine XS.lload X972.here hx rfl (hb hby at_167) rfl ?_
      refine XS.lload X972.here hx rfl (hb hby at_169) rfl ?_
      refine XS.ladd X972.here hx rfl (hb hby at_171) rfl ?_
      refine XS.lstore X972.here hx rfl (hb hby at_172) rfl (l' := #[.val (.long st), .second, .val (.long c0), .second, .val (.long c1), .second, .val (.long c2), .second, .val (.long hgh), .second, iv fl, .val (.long (65536 : Int64)), .second, .val (.long (1 : Int64)), .second, .val (.long (65536 : Int64)), .second, .val (.long l2), .second, iv (3 : Int32), rv b947, .val (.long got), .second, .val (.long st), .second, .val (.long (st + (1 : Int64))), .second, .val (.long ((st + (1 : Int64)) + (65536 : Int64))), .second, .val (.long (((st + (1 : Int64)) + (65536 : Int64)) + l2)), .second, .unset, .unset, .unset, .unset, .unset, .unset, .unset, .unset]) rfl ?_
      show Steps p.tables e below (T972.setTop (mkF m 174 #[.val (.long st), .second, .val (.long c0), .second, .val (.long c1), .second, .val (.long c2), .second, .val (.long hgh), .second, iv fl, .val (.long (65536 : Int64)), .second, .val (.long (1 : Int64)), .second, .val (.long (65536 : Int64)), .second, .val (.long l2), .second, iv (3 : Int32), rv b947, .val (.long got), .second, .val (.long st), .second, .val (.long (st + (1 : Int64))), .second, .val (.long ((st + (1 : Int64)) + (65536 : Int64))), .second, .val (.long (((st + (1 : Int64)) + (65536 : Int64)) + l2)), .second, .unset, .unset, .unset, .unset, .unset, .unset, .unset, .unset] [])) _
      refine XS.lload X972.here hx rfl (hb hby at_174) rfl ?_
      refine XS.lstore X972.here hx rfl (hb hby at_176) rfl (l' := #[.val (.long st), .second, .val (.long c0), .second, .val (.long c1), .second, .val (.long c2), .second, .val (.long hgh), .second, iv fl, .val (.long (65536 : Int64)), .second, .val (.long (1 : Int64)), .second, .val (.long (65536 : Int64)), .second, .val (.long l2), .second, iv (3 : Int32), rv b947, .val (.long got), .second, .val (.long st), .second, .val (.long (st + (1 : Int64))), .second, .val (.long ((st + (1 : Int64)) + (65536 : Int64))), .second, .val (.long (((st + (1 : Int64)) + (65536 : Int64)) + l2)), .second, .val (.long st), .second, .unset, .unset, .unset, .unset, .unset, .unset]) rfl ?_
      refine XS.lload X972.here hx rfl (hb hby at_178) rfl ?_
      refine XS.lload X972.here hx rfl (hb hby at_180) rfl ?_
      refine XS.lcmp X972.here hx rfl (hb hby at_182) rfl ?_
      refine XS.ifYes X972.here hx rfl (pc0 := 183) (pc' := 191) rfl (hb hby at_183) rfl ((if0 _ _).trans (feq (by decide : ¬ ((lcmpW (1 : Int64) (65536 : Int64)) = (0 : Int32)))).2) (by decide) (by decide) ?_
      show Steps p.tables e below (T972.setTop (mkF m 191 #[.val (.long st), .second, .val (.long c0), .second, .val (.long c1), .second, .val (.long c2), .second, .val (.long hgh), .second, iv fl, .val (.long (65536 : Int64)), .second, .val (.long (1 : Int64)), .second, .val (.long (65536 : Int64)), .second, .val (.long l2), .second, iv (3 : Int32), rv b947, .val (.long got), .second, .val (.long st), .second, .val (.long (st + (1 : Int64))), .second, .val (.long ((st + (1 : Int64)) + (65536 : Int64))), .second, .val (.long (((st + (1 : Int64)) + (65536 : Int64)) + l2)), .second, .val (.long st), .second, .unset, .unset, .unset, .unset, .unset, .unset] [])) _
      refine XS.lload X972.here hx rfl (hb hby at_191) rfl ?_
      refine XS.lstore X972.here hx rfl (hb hby at_193) rfl (l' := #[.val (.long st), .second, .val (.long c0), .second, .val (.long c1), .second, .val (.long c2), .second, .val (.long hgh), .second, iv fl, .val (.long (65536 : Int64)), .second, .val (.long (1 : Int64)), .second, .val (.long (65536 : Int64)), .second, .val (.long l2), .second, iv (3 : Int32), rv b947, .val (.long got), .second, .val (.long st), .second, .val (.long (st + (1 : Int64))), .second, .val (.long ((st + (1 : Int64)) + (65536 : Int64))), .second, .val (.long (((st + (1 : Int64)) + (65536 : Int64)) + l2)), .second, .val (.long st), .second, .val (.long st), .second, .unset, .unset, .unset, .unset]) rfl ?_
      refine XS.lload X972.here hx rfl (hb hby at_195) rfl ?_
      refine XS.lload X972.here hx rfl (hb hby at_197) rfl ?_
      refine XS.lcmp X972.here hx rfl (hb hby at_199) rfl ?_
      refine XS.ifNo X972.here hx rfl (hb hby at_200) rfl ((if0 _ _).trans (teq (by decide : (lcmpW (65536 : Int64) (65536 : Int64)) = (0 : Int32))).2) ?_
      show Steps p.tables e below (T972.setTop (mkF m 203 #[.val (.long st), .second, .val (.long c0), .second, .val (.long c1), .second, .val (.long c2), .second, .val (.long hgh), .second, iv fl, .val (.long (65536 : Int64)), .second, .val (.long (1 : Int64)), .second, .val (.long (65536 : Int64)), .second, .val (.long l2), .second, iv (3 : Int32), rv b947, .val (.long got), .second, .val (.long st), .second, .val (.long (st + (1 : Int64))), .second, .val (.long ((st + (1 : Int64)) + (65536 : Int64))), .second, .val (.long (((st + (1 : Int64)) + (65536 : Int64)) + l2)), .second, .val (.long st), .second, .val (.long st), .second, .unset, .unset, .unset, .unset] [])) _
      refine XS.lload X972.here hx rfl (hb hby at_203) rfl ?_
      refine XS.goto X972.here hx rfl (pc0 := 205) (pc' := 210) rfl (hb hby at_205) (by decide) (by decide) ?_
      refine XS.lstore X972.here hx rfl (hb hby at_210) rfl (l' := #[.val (.long st), .second, .val (.long c0), .second, .val (.long c1), .second, .val (.long c2), .second, .val (.long hgh), .second, iv fl, .val (.long (65536 : Int64)), .second, .val (.long (1 : Int64)), .second, .val (.long (65536 : Int64)), .second, .val (.long l2), .second, iv (3 : Int32), rv b947, .val (.long got), .second, .val (.long st), .second, .val (.long (st + (1 : Int64))), .second, .val (.long ((st + (1 : Int64)) + (65536 : Int64))), .second, .val (.long (((st + (1 : Int64)) + (65536 : Int64)) + l2)), .second, .val (.long st), .second, .val (.long st), .second, .val (.long ((st + (1 : Int64)) + (65536 : Int64))), .second, .unset, .unset]) rfl ?_
      refine XS.iload X972.here hx rfl (hb hby at_212) rfl ?_
      refine XS.iconst X972.here hx rfl (hb hby at_214) ?_
      refine XS.icmpNo X972.here hx rfl (hb hby at_215) rfl (flt (by decide : ¬ ((3 : Int32) < (1 : Int32)))).1 ?_
      show Steps p.tables e below (T972.setTop (mkF m 218 #[.val (.long st), .second, .val (.long c0), .second, .val (.long c1), .second, .val (.long c2), .second, .val (.long hgh), .second, iv fl, .val (.long (65536 : Int64)), .second, .val (.long (1 : Int64)), .second, .val (.long (65536 : Int64)), .second, .val (.long l2), .second, iv (3 : Int32), rv b947, .val (.long got), .second, .val (.long st), .second, .val (.long (st + (1 : Int64))), .second, .val (.long ((st + (1 : Int64)) + (65536 : Int64))), .second, .val (.long (((st + (1 : Int64)) + (65536 : Int64)) + l2)), .second, .val (.long st), .second, .val (.long st), .second, .val (.long ((st + (1 : Int64)) + (65536 : Int64))), .second, .unset, .unset] [])) _
      refine XS.lloadN X972.here hx rfl (hb hby at_218) rfl ?_
      refine XS.lload X972.here hx rfl (hb hby at_219) rfl ?_
      refine XS.lcmp X972.here hx rfl (hb hby at_221) rfl ?_
      exact kt)
  obtain ⟨ex, hex, sg976⟩ : ∃ (ex : Int64), ex = (if (0 : Int32) < (lcmpW c0 hgh) then st else (if (0 : Int32) < (lcmpW c1 hgh) then st else (if (0 : Int32) < (lcmpW c2 hgh) then ((st + (1 : Int64)) + (65536 : Int64)) else (((st + (1 : Int64)) + (65536 : Int64)) + l2)))) ∧ ∀ tt, Steps p.tables e below (T972.setTop (mkF m 278 #[.val (.long st), .second, .val (.long c0), .second, .val (.long c1), .second, .val (.long c2), .second, .val (.long hgh), .second, iv fl, .val (.long (65536 : Int64)), .second, .val (.long (1 : Int64)), .second, .val (.long (65536 : Int64)), .second, .val (.long l2), .second, iv (3 : Int32), rv b947, .val (.long got), .second, .val (.long st), .second, .val (.long (st + (1 : Int64))), .second, .val (.long ((st + (1 : Int64)) + (65536 : Int64))), .second, .val (.long (((st + (1 : Int64)) + (65536 : Int64)) + l2)), .second, .val (.long st), .second, .val (.long st), .second, .val (.long ((st + (1 : Int64)) + (65536 : Int64))), .second, .val (.long ex), .second] [])) tt → Steps p.tables e below (T972.setTop (mkF m 222 #[.val (.long st), .second, .val (.long c0), .second, .val (.long c1), .second, .val (.long c2), .second, .val (.long hgh), .second, iv fl, .val (.long (65536 : Int64)), .second, .val (.long (1 : Int64)), .second, .val (.long (65536 : Int64)), .second, .val (.long l2), .second, iv (3 : Int32), rv b947, .val (.long got), .second, .val (.long st), .second, .val (.long (st + (1 : Int64))), .second, .val (.long ((st + (1 : Int64)) + (65536 : Int64))), .second, .val (.long (((st + (1 : Int64)) + (65536 : Int64)) + l2)), .second, .val (.long st), .second, .val (.long st), .second, .val (.long ((st + (1 : Int64)) + (65536 : Int64))), .second, .unset, .unset] [(.int (lcmpW c0 hgh))])) tt := by
    by_cases hd222_0 : (0 : Int32) < (lcmpW c0 hgh)
    · refine ⟨_, (if_pos hd222_0).symm, fun tt kt => ?_⟩
      show Steps p.tables e below (T972.setTop (mkF m 222 #[.val (.long st), .second, .val (.long c0), .second, .val (.long c1), .second, .val (.long c2), .second, .val (.long hgh), .second, iv fl, .val (.long (65536 : Int64)), .second, .val (.long (1 : Int64)), .second, .val (.long (65536 : Int64)), .second, .val (.long l2), .second, iv (3 : Int32), rv b947, .val (.long got), .second, .val (.long st), .second, .val (.long (st + (1 : Int64))), .second, .val (.long ((st + (1 : Int64)) + (65536 : Int64))), .second, .val (.long (((st + (1 : Int64)) + (65536 : Int64)) + l2)), .second, .val (.long st), .second, .val (.long st), .second, .val (.long ((st + (1 : Int64)) + (65536 : Int64))), .second, .unset, .unset] [(.int (lcmpW c0 hgh))])) _
      refine XS.ifNo X972.here hx rfl (hb hby at_222) rfl ((if0 _ _).trans (tlt hd222_0).2.2.2) ?_
      refine XS.lload X972.here hx rfl (hb hby at_225) rfl ?_
      refine XS.lstore X972.here hx rfl (hb hby at_227) rfl (l' := #[.val (.long st), .second, .val (.long c0), .second, .val (.long c1), .second, .val (.long c2), .second, .val (.long hgh), .second, iv fl, .val (.long (65536 : Int64)), .second, .val (.long (1 : Int64)), .second, .val (.long (65536 : Int64)), .second, .val (.long l2), .second, iv (3 : Int32), rv b947, .val (.long got), .second, .val (.long st), .second, .val (.long (st + (1 : Int64))), .second, .val (.long ((st + (1 : Int64)) + (65536 : Int64))), .second, .val (.long (((st + (1 : Int64)) + (65536 : Int64)) + l2)), .second, .val (.long st), .second, .val (.long st), .second, .val (.long ((st + (1 : Int64)) + (65536 : Int64))), .second, .val (.long st), .second]) rfl ?_
      refine XS.goto X972.here hx rfl (pc0 := 229) (pc' := 278) rfl (hb hby at_229) (by decide) (by decide) ?_
      exact kt
    · by_cases hd243_1 : (0 : Int32) < (lcmpW c1 hgh)
      · refine ⟨_, ((if_neg hd222_0).trans (if_pos hd243_1)).symm, fun tt kt => ?_⟩
        show Steps p.tables e below (T972.setTop (mkF m 222 #[.val (.long st), .second, .val (.long c0), .second, .val (.long c1), .second, .val (.long c2), .second, .val (.long hgh), .second, iv fl, .val (.long (65536 : Int64)), .second, .val (.long (1 : Int64)), .second, .val (.long (65536 : Int64)), .second, .val (.long l2), .second, iv (3 : Int32), rv b947, .val (.long got), .second, .val (.long st), .second, .val (.long (st + (1 : Int64))), .second, .val (.long ((st + (1 : Int64)) + (65536 : Int64))), .second, .val (.long (((st + (1 : Int64)) + (65536 : Int64)) + l2)), .second, .val (.long st), .second, .val (.long st), .second, .val (.long ((st + (1 : Int64)) + (65536 : Int64))), .second, .unset, .unset] [(.int (lcmpW c0 hgh))])) _
        refine XS.ifYes X972.here hx rfl (pc0 := 222) (pc' := 232) rfl (hb hby at_222) rfl ((if0 _ _).trans (flt hd222_0).2.2.2) (by decide) (by decide) ?_
        refine XS.iload X972.here hx rfl (hb hby at_232) rfl ?_
        refine XS.iconst X972.here hx rfl (hb hby at_234) ?_
        refine XS.icmpNo X972.here hx rfl (hb hby at_235) rfl (flt (by decide : ¬ ((3 : Int32) < (2 : Int32)))).1 ?_
        refine XS.lload X972.here hx rfl (hb hby at_238) rfl ?_
        refine XS.lload X972.here hx rfl (hb hby at_240) rfl ?_
        show Steps p.tables e below (T972.setTop (mkF m 242 #[.val (.long st), .second, .val (.long c0), .second, .val (.long c1), .second, .val (.long c2), .second, .val (.long hgh), .second, iv fl, .val (.long (65536 : Int64)), .second, .val (.long (1 : Int64)), .second, .val (.long (65536 : Int64)), .second, .val (.long l2), .second, iv (3 : Int32), rv b947, .val (.long got), .second, .val (.long st), .second, .val (.long (st + (1 : Int64))), .second, .val (.long ((st + (1 : Int64)) + (65536 : Int64))), .second, .val (.long (((st + (1 : Int64)) + (65536 : Int64)) + l2)), .second, .val (.long st), .second, .val (.long st), .second, .val (.long ((st + (1 : Int64)) + (65536 : Int64))), .second, .unset, .unset] [(.long hgh), (.long c1)])) _
        refine XS.lcmp X972.here hx rfl (hb hby at_242) rfl ?_
        refine XS.ifNo X972.here hx rfl (hb hby at_243) rfl ((if0 _ _).trans (tlt hd243_1).2.2.2) ?_
        refine XS.lload X972.here hx rfl (hb hby at_246) rfl ?_
        refine XS.lstore X972.here hx rfl (hb hby at_248) rfl (l' := #[.val (.long st), .second, .val (.long c0), .second, .val (.long c1), .second, .val (.long c2), .second, .val (.long hgh), .second, iv fl, .val (.long (65536 : Int64)), .second, .val (.long (1 : Int64)), .second, .val (.long (65536 : Int64)), .second, .val (.long l2), .second, iv (3 : Int32), rv b947, .val (.long got), .second, .val (.long st), .second, .val (.long (st + (1 : Int64))), .second, .val (.long ((st + (1 : Int64)) + (65536 : Int64))), .second, .val (.long (((st + (1 : Int64)) + (65536 : Int64)) + l2)), .second, .val (.long st), .second, .val (.long st), .second, .val (.long ((st + (1 : Int64)) + (65536 : Int64))), .second, .val (.long st), .second]) rfl ?_
        refine XS.goto X972.here hx rfl (pc0 := 250) (pc' := 278) rfl (hb hby at_250) (by decide) (by decide) ?_
        exact kt
      · by_cases hd264_2 : (0 : Int32) < (lcmpW c2 hgh)
        · refine ⟨_, (((if_neg hd222_0).trans (if_neg hd243_1)).trans (if_pos hd264_2)).symm, fun tt kt => ?_⟩
          show Steps p.tables e below (T972.setTop (mkF m 222 #[.val (.long st), .second, .val (.long c0), .second, .val (.long c1), .second, .val (.long c2), .second, .val (.long hgh), .second, iv fl, .val (.long (65536 : Int64)), .second, .val (.long (1 : Int64)), .second, .val (.long (65536 : Int64)), .second, .val (.long l2), .second, iv (3 : Int32), rv b947, .val (.long got), .second, .val (.long st), .second, .val (.long (st + (1 : Int64))), .second, .val (.long ((st + (1 : Int64)) + (65536 : Int64))), .second, .val (.long (((st + (1 : Int64)) + (65536 : Int64)) + l2)), .second, .val (.long st), .second, .val (.long st), .second, .val (.long ((st + (1 : Int64)) + (65536 : Int64))), .second, .unset, .unset] [(.int (lcmpW c0 hgh))])) _
          refine XS.ifYes X972.here hx rfl (pc0 := 222) (pc' := 232) rfl (hb hby at_222) rfl ((if0 _ _).trans (flt hd222_0).2.2.2) (by decide) (by decide) ?_
          refine XS.iload X972.here hx rfl (hb hby at_232) rfl ?_
          refine XS.iconst X972.here hx rfl (hb hby at_234) ?_
          refine XS.icmpNo X972.here hx rfl (hb hby at_235) rfl (flt (by decide : ¬ ((3 : Int32) < (2 : Int32)))).1 ?_
          refine XS.lload X972.here hx rfl (hb hby at_238) rfl ?_
          refine XS.lload X972.here hx rfl (hb hby at_240) rfl ?_
          show Steps p.tables e below (T972.setTop (mkF m 242 #[.val (.long st), .second, .val (.long c0), .second, .val (.long c1), .second, .val (.long c2), .second, .val (.long hgh), .second, iv fl, .val (.long (65536 : Int64)), .second, .val (.long (1 : Int64)), .second, .val (.long (65536 : Int64)), .second, .val (.long l2), .second, iv (3 : Int32), rv b947, .val (.long got), .second, .val (.long st), .second, .val (.long (st + (1 : Int64))), .second, .val (.long ((st + (1 : Int64)) + (65536 : Int64))), .second, .val (.long (((st + (1 : Int64)) + (65536 : Int64)) + l2)), .second, .val (.long st), .second, .val (.long st), .second, .val (.long ((st + (1 : Int64)) + (65536 : Int64))), .second, .unset, .unset] [(.long hgh), (.long c1)])) _
          refine XS.lcmp X972.here hx rfl (hb hby at_242) rfl ?_
          refine XS.ifYes X972.here hx rfl (pc0 := 243) (pc' := 253) rfl (hb hby at_243) rfl ((if0 _ _).trans (flt hd243_1).2.2.2) (by decide) (by decide) ?_
          refine XS.iload X972.here hx rfl (hb hby at_253) rfl ?_
          refine XS.iconst X972.here hx rfl (hb hby at_255) ?_
          refine XS.icmpNo X972.here hx rfl (hb hby at_256) rfl (flt (by decide : ¬ ((3 : Int32) < (3 : Int32)))).1 ?_
          refine XS.lload X972.here hx rfl (hb hby at_259) rfl ?_
          show Steps p.tables e below (T972.setTop (mkF m 261 #[.val (.long st), .second, .val (.long c0), .second, .val (.long c1), .second, .val (.long c2), .second, .val (.long hgh), .second, iv fl, .val (.long (65536 : Int64)), .second, .val (.long (1 : Int64)), .second, .val (.long (65536 : Int64)), .second, .val (.long l2), .second, iv (3 : Int32), rv b947, .val (.long got), .second, .val (.long st), .second, .val (.long (st + (1 : Int64))), .second, .val (.long ((st + (1 : Int64)) + (65536 : Int64))), .second, .val (.long (((st + (1 : Int64)) + (65536 : Int64)) + l2)), .second, .val (.long st), .second, .val (.long st), .second, .val (.long ((st + (1 : Int64)) + (65536 : Int64))), .second, .unset, .unset] [(.long c2)])) _
          refine XS.lload X972.here hx rfl (hb hby at_261) rfl ?_
          refine XS.lcmp X972.here hx rfl (hb hby at_263) rfl ?_
          refine XS.ifNo X972.here hx rfl (hb hby at_264) rfl ((if0 _ _).trans (tlt hd264_2).2.2.2) ?_
          refine XS.lload X972.here hx rfl (hb hby at_267) rfl ?_
          refine XS.lstore X972.here hx rfl (hb hby at_269) rfl (l' := #[.val (.long st), .second, .val (.long c0), .second, .val (.long c1), .second, .val (.long c2), .second, .val (.long hgh), .second, iv fl, .val (.long (65536 : Int64)), .second, .val (.long (1 : Int64)), .second, .val (.long (65536 : Int64)), .second, .val (.long l2), .second, iv (3 : Int32), rv b947, .val (.long got), .second, .val (.long st), .second, .val (.long (st + (1 : Int64))), .second, .val (.long ((st + (1 : Int64)) + (65536 : Int64))), .second, .val (.long (((st + (1 : Int64)) + (65536 : Int64)) + l2)), .second, .val (.long st), .second, .val (.long st), .second, .val (.long ((st + (1 : Int64)) + (65536 : Int64))), .second, .val (.long ((st + (1 : Int64)) + (65536 : Int64))), .second]) rfl ?_
          refine XS.goto X972.here hx rfl (pc0 := 271) (pc' := 278) rfl (hb hby at_271) (by decide) (by decide) ?_
          exact kt
        · refine ⟨_, (((if_neg hd222_0).trans (if_neg hd243_1)).trans (if_neg hd264_2)).symm, fun tt kt => ?_⟩
          show Steps p.tables e below (T972.setTop (mkF m 222 #[.val (.long st), .second, .val (.long c0), .second, .val (.long c1), .second, .val (.long c2), .second, .val (.long hgh), .second, iv fl, .val (.long (65536 : Int64)), .second, .val (.long (1 : Int64)), .second, .val (.long (65536 : Int64)), .second, .val (.long l2), .second, iv (3 : Int32), rv b947, .val (.long got), .second, .val (.long st), .second, .val (.long (st + (1 : Int64))), .second, .val (.long ((st + (1 : Int64)) + (65536 : Int64))), .second, .val (.long (((st + (1 : Int64)) + (65536 : Int64)) + l2)), .second, .val (.long st), .second, .val (.long st), .second, .val (.long ((st + (1 : Int64)) + (65536 : Int64))), .second, .unset, .unset] [(.int (lcmpW c0 hgh))])) _
          refine XS.ifYes X972.here hx rfl (pc0 := 222) (pc' := 232) rfl (hb hby at_222) rfl ((if0 _ _).trans (flt hd222_0).2.2.2) (by decide) (by decide) ?_
          refine XS.iload X972.here hx rfl (hb hby at_232) rfl ?_
          refine XS.iconst X972.here hx rfl (hb hby at_234) ?_
          refine XS.icmpNo X972.here hx rfl (hb hby at_235) rfl (flt (by decide : ¬ ((3 : Int32) < (2 : Int32)))).1 ?_
          refine XS.lload X972.here hx rfl (hb hby at_238) rfl ?_
          refine XS.lload X972.here hx rfl (hb hby at_240) rfl ?_
          show Steps p.tables e below (T972.setTop (mkF m 242 #[.val (.long st), .second, .val (.long c0), .second, .val (.long c1), .second, .val (.long c2), .second, .val (.long hgh), .second, iv fl, .val (.long (65536 : Int64)), .second, .val (.long (1 : Int64)), .second, .val (.long (65536 : Int64)), .second, .val (.long l2), .second, iv (3 : Int32), rv b947, .val (.long got), .second, .val (.long st), .second, .val (.long (st + (1 : Int64))), .second, .val (.long ((st + (1 : Int64)) + (65536 : Int64))), .second, .val (.long (((st + (1 : Int64)) + (65536 : Int64)) + l2)), .second, .val (.long st), .second, .val (.long st), .second, .val (.long ((st + (1 : Int64)) + (65536 : Int64))), .second, .unset, .unset] [(.long hgh), (.long c1)])) _
          refine XS.lcmp X972.here hx rfl (hb hby at_242) rfl ?_
          refine XS.ifYes X972.here hx rfl (pc0 := 243) (pc' := 253) rfl (hb hby at_243) rfl ((if0 _ _).trans (flt hd243_1).2.2.2) (by decide) (by decide) ?_
          refine XS.iload X972.here hx rfl (hb hby at_253) rfl ?_
          refine XS.iconst X972.here hx rfl (hb hby at_255) ?_
          refine XS.icmpNo X972.here hx rfl (hb hby at_256) rfl (flt (by decide : ¬ ((3 : Int32) < (3 : Int32)))).1 ?_
          refine XS.lload X972.here hx rfl (hb hby at_259) rfl ?_
          show Steps p.tables e below (T972.setTop (mkF m 261 #[.val (.long st), .second, .val (.long c0), .second, .val (.long c1), .second, .val (.long c2), .second, .val (.long hgh), .second, iv fl, .val (.long (65536 : Int64)), .second, .val (.long (1 : Int64)), .second, .val (.long (65536 : Int64)), .second, .val (.long l2), .second, iv (3 : Int32), rv b947, .val (.long got), .second, .val (.long st), .second, .val (.long (st + (1 : Int64))), .second, .val (.long ((st + (1 : Int64)) + (65536 : Int64))), .second, .val (.long (((st + (1 : Int64)) + (65536 : Int64)) + l2)), .second, .val (.long st), .second, .val (.long st), .second, .val (.long ((st + (1 : Int64)) + (65536 : Int64))), .second, .unset, .unset] [(.long c2)])) _
          refine XS.lload X972.here hx rfl (hb hby at_261) rfl ?_
          refine XS.lcmp X972.here hx rfl (hb hby at_263) rfl ?_
          refine XS.ifYes X972.here hx rfl (pc0 := 264) (pc' := 274) rfl (hb hby at_264) rfl ((if0 _ _).trans (flt hd264_2).2.2.2) (by decide) (by decide) ?_
          refine XS.lload X972.here hx rfl (hb hby at_274) rfl ?_
          refine XS.lstore X972.here hx rfl (hb hby at_276) rfl (l' := #[.val (.long st), .second, .val (.long c0), .second, .val (.long c1), .second, .val (.long c2), .second, .val (.long hgh), .second, iv fl, .val (.long (65536 : Int64)), .second, .val (.long (1 : Int64)), .second, .val (.long (65536 : Int64)), .second, .val (.long l2), .second, iv (3 : Int32), rv b947, .val (.long got), .second, .val (.long st), .second, .val (.long (st + (1 : Int64))), .second, .val (.long ((st + (1 : Int64)) + (65536 : Int64))), .second, .val (.long (((st + (1 : Int64)) + (65536 : Int64)) + l2)), .second, .val (.long st), .second, .val (.long st), .second, .val (.long ((st + (1 : Int64)) + (65536 : Int64))), .second, .val (.long (((st + (1 : Int64)) + (65536 : Int64)) + l2)), .second]) rfl ?_
          exact kt
  have go977 : own_S p e below ST T972 (mkF m 278 #[.val (.long st), .second, .val (.long c0), .second, .val (.long c1), .second, .val (.long c2), .second, .val (.long hgh), .second, iv fl, .val (.long (65536 : Int64)), .second, .val (.long (1 : Int64)), .second, .val (.long (65536 : Int64)), .second, .val (.long l2), .second, iv (3 : Int32), rv b947, .val (.long got), .second, .val (.long st), .second, .val (.long (st + (1 : Int64))), .second, .val (.long ((st + (1 : Int64)) + (65536 : Int64))), .second, .val (.long (((st + (1 : Int64)) + (65536 : Int64)) + l2)), .second, .val (.long st), .second, .val (.long st), .second, .val (.long ((st + (1 : Int64)) + (65536 : Int64))), .second, .val (.long ex), .second] []) := fun tt kt => go975 tt (sg976 _ kt)
  have go978 : own_S p e below ST T972 (mkF m 283 #[.val (.long st), .second, .val (.long c0), .second, .val (.long c1), .second, .val (.long c2), .second, .val (.long hgh), .second, iv fl, .val (.long (65536 : Int64)), .second, .val (.long (1 : Int64)), .second, .val (.long (65536 : Int64)), .second, .val (.long l2), .second, iv (3 : Int32), rv b947, .val (.long got), .second, .val (.long st), .second, .val (.long (st + (1 : Int64))), .second, .val (.long ((st + (1 : Int64)) + (65536 : Int64))), .second, .val (.long (((st + (1 : Int64)) + (65536 : Int64)) + l2)), .second, .val (.long st), .second, .val (.long st), .second, .val (.long ((st + (1 : Int64)) + (65536 : Int64))), .second, .val (.long ex), .second] [(.int (lcmpW got ex))]) := fun tt kt => go977 tt (by
      refine XS.lload X972.here hx rfl (hb hby at_278) rfl ?_
      refine XS.lload X972.here hx rfl (hb hby at_280) rfl ?_
      refine XS.lcmp X972.here hx rfl (hb hby at_282) rfl ?_
      exact kt)
  have hfin : (lcmpW got ex) = (0 : Int32) := by
    rw [lw_eq, hgot, hex]
    all_goals (try simp only [own_gt])
    all_goals (by_cases y0 : (0 : Int32) < lcmpW c0 hgh <;> by_cases y1 : (0 : Int32) < lcmpW c1 hgh <;> by_cases y2 : (0 : Int32) < lcmpW c2 hgh <;> simp [y0, y1, y2])
  have go979 : own_S p e below ST T972 (mkF m 291 #[.val (.long st), .second, .val (.long c0), .second, .val (.long c1), .second, .val (.long c2), .second, .val (.long hgh), .second, iv fl, .val (.long (65536 : Int64)), .second, .val (.long (1 : Int64)), .second, .val (.long (65536 : Int64)), .second, .val (.long l2), .second, iv (3 : Int32), rv b947, .val (.long got), .second, .val (.long st), .second, .val (.long (st + (1 : Int64))), .second, .val (.long ((st + (1 : Int64)) + (65536 : Int64))), .second, .val (.long (((st + (1 : Int64)) + (65536 : Int64)) + l2)), .second, .val (.long st), .second, .val (.long st), .second, .val (.long ((st + (1 : Int64)) + (65536 : Int64))), .second, .val (.long ex), .second] [(.int (1 : Int32))]) := fun tt kt => go978 tt (by
      refine XS.ifNo X972.here hx rfl (hb hby at_283) rfl ((if0 _ _).trans (teq hfin).2) ?_
      refine XS.iconst X972.here hx rfl (hb hby at_286) ?_
      refine XS.goto X972.here hx rfl (pc0 := 287) (pc' := 291) rfl (hb hby at_287) (by decide) (by decide) ?_
      exact kt)
  obtain ⟨fs, hr, hrun, hended, hW, hsame⟩ := X972.leave (v := some (.int (1 : Int32))) (fun h => by rw [Bd.returns] at h; cases h) (hlocks := by first | exact BodyLoose.notSynchronized Bd | exact Body.notSynchronized Bd)
  refine ⟨_, _, pre0 _ (go979 _ ?_), hrun, hended, _, _, rfl, ?_, ⟨_, rfl⟩, hW, hsame.mono (by decide) (by decide)⟩
  · exact retN X972 hx (t := .boolean) Bd.returns (by simp) (hb hby at_291) hr
  · show Q0n3ab Z st c0 c1 c2 hgh fl h0 n0 _ T972.heap _
    rw [eh972]
    exact ⟨rfl, N972⟩
theorem ef0n3ba (m : MethodId) (x0 : Int64) (x1 : Int64) (x2 : Int64) (x3 : Int64) (x4 : Int64) (x5 : Int32) : entryFrame m #[(.long x0), (.long x1), (.long x2), (.long x3), (.long x4), (.int x5)] maxLocals = mkF m 0 #[.val (.long x0), .second, .val (.long x1), .second, .val (.long x2), .second, .val (.long x3), .second, .val (.long x4), .second, .val (.int x5), .unset, .unset, .unset, .unset, .unset, .unset, .unset, .unset, .unset, .unset, .unset, .unset, .unset, .unset, .unset, .unset, .unset, .unset, .unset, .unset, .unset, .unset, .unset, .unset, .unset, .unset, .unset, .unset] [] := by first | (simp [entryFrame, mkF, argsToLocals, Value.category, maxLocals]; done) | rfl
def Q0n3ba (Z : State) (st : Int64) (c0 : Int64) (c1 : Int64) (c2 : Int64) (hgh : Int64) (fl : Int32) (h0 : Heap) (n0 : Nat) (v : Option Value) (h : Heap) (L : List Loc) : Prop := v = some (.int 1) ∧ Fr n0 L
set_option maxRecDepth 65536 in
set_option maxHeartbeats 40000000 in
theorem rm0n3ba (l : Launch) (Z : State) (a0 : Array Value) (hw : ∀ d ∈ tables_1, d.before a0 Z = true) (ws : List Jvm.Cond) (st : Int64) (c0 : Int64) (c1 : Int64) (c2 : Int64) (hgh : Int64) (fl : Int32) (h0 : Heap) (n0 : Nat) (Z0 : n0 ≤ h0.size) (hk : ((fl.toUInt32 >>> ((3 : Int32) &&& 31).toUInt32).toInt32) &&& 3 = 3) (hb0 : ¬ (fl &&& (1 : Int32) = (0 : Int32))) (hb1 : (fl &&& (2 : Int32) = (0 : Int32))) :
    MetFree l x (head1 (Jvm.Cond.code x code maxLocals ret :: ws) room_1) (fun aa UU => aa = #[(.long st), (.long c0), (.long c1), (.long c2), (.long hgh), (.int fl)] ∧ Z.Warmed39 UU.vm ∧ UU.heap = h0) (fun _ _ _ _ _ => True) (fun _ UU oo UU' => ∃ vv LL, oo = .returned vv ∧ Q0n3ba Z st c0 c1 c2 hgh fl h0 n0 vv UU'.heap LL ∧ FrameEnd UU oo UU' LL room_1.cells room_1.slots) := by
  have W : ∀ {d : Jvm.Cond} (i : Nat), tables_1[i]? = some d → d.before a0 Z = true := fun i h => hw _ (List.mem_of_getElem? h)
  refine MetFree.of_bodySF (plainFor_of_name pn166) hisR ?_
  intro p e s m args below meth c s₁ Bd hml0 hP hK
  obtain ⟨rfl, hZ, hh⟩ := hP
  have hx := Bd.exec
  have hby := Bd.bytes
  have hml : c.maxLocals = 39 := hml0
  have hown : s.vm.findClass "com/example/altocommit/altocommit/store/LogIndexAllAtOrBelowUpToPinLaw" = some m.cls := findClass_of_methodNamed Bd.named
  have hnm := (name_of_methodNamed Bd.named Bd.method).1
  have X0 : Stand p l e room_1 s m #[(.long st), (.long c0), (.long c1), (.long c2), (.long hgh), (.int fl)] below meth c s₁ [] 0 0 := Stand.of_body Bd
  have e0 : s₁.heap = h0 := by rw [← hh, Bd.state]; rfl
  have N0 := Fr.nil n0
  have pre0 : ∀ tt, Steps p.tables e below (s₁.setTop (mkF m 0 #[.val (.long st), .second, .val (.long c0), .second, .val (.long c1), .second, .val (.long c2), .second, .val (.long hgh), .second, iv fl, .unset, .unset, .unset, .unset, .unset, .unset, .unset, .unset, .unset, .unset, .unset, .unset, .unset, .unset, .unset, .unset, .unset, .unset, .unset, .unset, .unset, .unset, .unset, .unset, .unset, .unset, .unset, .unset] [])) tt → Steps p.tables e below (s₁.setTop (entryFrame m #[(.long st), (.long c0), (.long c1), (.long c2), (.long hgh), (.int fl)] maxLocals)) tt := fun tt kt => castTop (ef0n3ba m st c0 c1 c2 hgh fl) kt
  obtain ⟨ST, hST⟩ : ∃ z : State, z = s₁.setTop (mkF m 0 #[.val (.long st), .second, .val (.long c0), .second, .val (.long c1), .second, .val (.long c2), .second, .val (.long hgh), .second, iv fl, .unset, .unset, .unset, .unset, .unset, .unset, .unset, .unset, .unset, .unset, .unset, .unset, .unset, .unset, .unset, .unset, .unset, .unset, .unset, .unset, .unset, .unset, .unset, .unset, .unset, .unset, .unset, .unset] []) := ⟨_, rfl⟩
  rw [← hST] at pre0
  have go980 : own_S p e below ST s₁ (mkF m 18 #[.val (.long st), .second, .val (.long c0), .second, .val (.long c1), .second, .val (.long c2), .second, .val (.long hgh), .second, iv fl, .val (.long (65536 : Int64)), .second, .unset, .unset, .unset, .unset, .unset, .unset, .unset, .unset, .unset, .unset, .unset, .unset, .unset, .unset, .unset, .unset, .unset, .unset, .unset, .unset, .unset, .unset, .unset, .unset, .unset, .unset] [(.long (65536 : Int64))]) := fun tt kt => (by
      rw [hST]
      show Steps p.tables e below (s₁.setTop (mkF m 0 #[.val (.long st), .second, .val (.long c0), .second, .val (.long c1), .second, .val (.long c2), .second, .val (.long hgh), .second, iv fl, .unset, .unset, .unset, .unset, .unset, .unset, .unset, .unset, .unset, .unset, .unset, .unset, .unset, .unset, .unset, .unset, .unset, .unset, .unset, .unset, .unset, .unset, .unset, .unset, .unset, .unset, .unset, .unset] [])) _
      refine X0.ldc2Long hx hown (mvT hZ (W 0 rfl)) (g := (mkF m 0 #[.val (.long st), .second, .val (.long c0), .second, .val (.long c1), .second, .val (.long c2), .second, .val (.long hgh), .second, iv fl, .unset, .unset, .unset, .unset, .unset, .unset, .unset, .unset, .unset, .unset, .unset, .unset, .unset, .unset, .unset, .unset, .unset, .unset, .unset, .unset, .unset, .unset, .unset, .unset, .unset, .unset, .unset, .unset] [])) rfl (hb hby at_0) _ ?_
      refine XS.lstore X0.here hx rfl (hb hby at_3) rfl (l' := #[.val (.long st), .second, .val (.long c0), .second, .val (.long c1), .second, .val (.long c2), .second, .val (.long hgh), .second, iv fl, .val (.long (65536 : Int64)), .second, .unset, .unset, .unset, .unset, .unset, .unset, .unset, .unset, .unset, .unset, .unset, .unset, .unset, .unset, .unset, .unset, .unset, .unset, .unset, .unset, .unset, .unset, .unset, .unset, .unset, .unset]) rfl ?_
      refine XS.iload X0.here hx rfl (hb hby at_5) rfl ?_
      refine XS.iconst X0.here hx rfl (hb hby at_7) ?_
      refine XS.iand X0.here hx rfl (hb hby at_8) rfl ?_
      refine XS.ifNo X0.here hx rfl (hb hby at_9) rfl ((if0 _ _).trans (feq hb0).1) ?_
      show Steps p.tables e below (s₁.setTop (mkF m 12 #[.val (.long st), .second, .val (.long c0), .second, .val (.long c1), .second, .val (.long c2), .second, .val (.long hgh), .second, iv fl, .val (.long (65536 : Int64)), .second, .unset, .unset, .unset, .unset, .unset, .unset, .unset, .unset, .unset, .unset, .unset, .unset, .unset, .unset, .unset, .unset, .unset, .unset, .unset, .unset, .unset, .unset, .unset, .unset, .unset, .unset] [])) _
      refine XS.lload X0.here hx rfl (hb hby at_12) rfl ?_
      refine XS.goto X0.here hx rfl (pc0 := 14) (pc' := 18) rfl (hb hby at_14) (by decide) (by decide) ?_
      exact kt)
  have go981 : own_S p e below ST s₁ (mkF m 33 #[.val (.long st), .second, .val (.long c0), .second, .val (.long c1), .second, .val (.long c2), .second, .val (.long hgh), .second, iv fl, .val (.long (65536 : Int64)), .second, .val (.long (65536 : Int64)), .second, .unset, .unset, .unset, .unset, .unset, .unset, .unset, .unset, .unset, .unset, .unset, .unset, .unset, .unset, .unset, .unset, .unset, .unset, .unset, .unset, .unset, .unset, .unset, .unset] [(.long (1 : Int64))]) := fun tt kt => go980 tt (by
      refine XS.lstore X0.here hx rfl (hb hby at_18) rfl (l' := #[.val (.long st), .second, .val (.long c0), .second, .val (.long c1), .second, .val (.long c2), .second, .val (.long hgh), .second, iv fl, .val (.long (65536 : Int64)), .second, .val (.long (65536 : Int64)), .second, .unset, .unset, .unset, .unset, .unset, .unset, .unset, .unset, .unset, .unset, .unset, .unset, .unset, .unset, .unset, .unset, .unset, .unset, .unset, .unset, .unset, .unset, .unset, .unset]) rfl ?_
      refine XS.iload X0.here hx rfl (hb hby at_20) rfl ?_
      refine XS.iconst X0.here hx rfl (hb hby at_22) ?_
      refine XS.iand X0.here hx rfl (hb hby at_23) rfl ?_
      refine XS.ifYes X0.here hx rfl (pc0 := 24) (pc' := 32) rfl (hb hby at_24) rfl ((if0 _ _).trans (teq hb1).1) (by decide) (by decide) ?_
      refine XS.lconst X0.here hx rfl (hb hby at_32) ?_
      exact kt)
  have go982 : own_S p e below ST s₁ (mkF m 39 #[.val (.long st), .second, .val (.long c0), .second, .val (.long c1), .second, .val (.long c2), .second, .val (.long hgh), .second, iv fl, .val (.long (65536 : Int64)), .second, .val (.long (65536 : Int64)), .second, .val (.long (1 : Int64)), .second, .unset, .unset, .unset, .unset, .unset, .unset, .unset, .unset, .unset, .unset, .unset, .unset, .unset, .unset, .unset, .unset, .unset, .unset, .unset, .unset, .unset, .unset] [(.int (fl &&& (4 : Int32)))]) := fun tt kt => go981 tt (by
      refine XS.lstore X0.here hx rfl (hb hby at_33) rfl (l' := #[.val (.long st), .second, .val (.long c0), .second, .val (.long c1), .second, .val (.long c2), .second, .val (.long hgh), .second, iv fl, .val (.long (65536 : Int64)), .second, .val (.long (65536 : Int64)), .second, .val (.long (1 : Int64)), .second, .unset, .unset, .unset, .unset, .unset, .unset, .unset, .unset, .unset, .unset, .unset, .unset, .unset, .unset, .unset, .unset, .unset, .unset, .unset, .unset, .unset, .unset]) rfl ?_
      refine XS.iload X0.here hx rfl (hb hby at_35) rfl ?_
      refine XS.iconst X0.here hx rfl (hb hby at_37) ?_
      refine XS.iand X0.here hx rfl (hb hby at_38) rfl ?_
      exact kt)
  obtain ⟨l2, hl2, sg983⟩ : ∃ (l2 : Int64), l2 = (if (fl &&& (4 : Int32)) = (0 : Int32) then (1 : Int64) else (65536 : Int64)) ∧ ∀ tt, Steps p.tables e below (s₁.setTop (mkF m 48 #[.val (.long st), .second, .val (.long c0), .second, .val (.long c1), .second, .val (.long c2), .second, .val (.long hgh), .second, iv fl, .val (.long (65536 : Int64)), .second, .val (.long (65536 : Int64)), .second, .val (.long (1 : Int64)), .second, .unset, .unset, .unset, .unset, .unset, .unset, .unset, .unset, .unset, .unset, .unset, .unset, .unset, .unset, .unset, .unset, .unset, .unset, .unset, .unset, .unset, .unset] [(.long l2)])) tt → Steps p.tables e below (s₁.setTop (mkF m 39 #[.val (.long st), .second, .val (.long c0), .second, .val (.long c1), .second, .val (.long c2), .second, .val (.long hgh), .second, iv fl, .val (.long (65536 : Int64)), .second, .val (.long (65536 : Int64)), .second, .val (.long (1 : Int64)), .second, .unset, .unset, .unset, .unset, .unset, .unset, .unset, .unset, .unset, .unset, .unset, .unset, .unset, .unset, .unset, .unset, .unset, .unset, .unset, .unset, .unset, .unset] [(.int (fl &&& (4 : Int32)))])) tt := by
    by_cases hd39_0 : (fl &&& (4 : Int32)) = (0 : Int32)
    · refine ⟨_, (if_pos hd39_0).symm, fun tt kt => ?_⟩
      show Steps p.tables e below (s₁.setTop (mkF m 39 #[.val (.long st), .second, .val (.long c0), .second, .val (.long c1), .second, .val (.long c2), .second, .val (.long hgh), .second, iv fl, .val (.long (65536 : Int64)), .second, .val (.long (65536 : Int64)), .second, .val (.long (1 : Int64)), .second, .unset, .unset, .unset, .unset, .unset, .unset, .unset, .unset, .unset, .unset, .unset, .unset, .unset, .unset, .unset, .unset, .unset, .unset, .unset, .unset, .unset, .unset] [(.int (fl &&& (4 : Int32)))])) _
      refine XS.ifYes X0.here hx rfl (pc0 := 39) (pc' := 47) rfl (hb hby at_39) rfl ((if0 _ _).trans (teq hd39_0).1) (by decide) (by decide) ?_
      refine XS.lconst X0.here hx rfl (hb hby at_47) ?_
      exact kt
    · refine ⟨_, (if_neg hd39_0).symm, fun tt kt => ?_⟩
      show Steps p.tables e below (s₁.setTop (mkF m 39 #[.val (.long st), .second, .val (.long c0), .second, .val (.long c1), .second, .val (.long c2), .second, .val (.long hgh), .second, iv fl, .val (.long (65536 : Int64)), .second, .val (.long (65536 : Int64)), .second, .val (.long (1 : Int64)), .second, .unset, .unset, .unset, .unset, .unset, .unset, .unset, .unset, .unset, .unset, .unset, .unset, .unset, .unset, .unset, .unset, .unset, .unset, .unset, .unset, .unset, .unset] [(.int (fl &&& (4 : Int32)))])) _
      refine XS.ifNo X0.here hx rfl (hb hby at_39) rfl ((if0 _ _).trans (feq hd39_0).1) ?_
      refine XS.lload X0.here hx rfl (hb hby at_42) rfl ?_
      refine XS.goto X0.here hx rfl (pc0 := 44) (pc' := 48) rfl (hb hby at_44) (by decide) (by decide) ?_
      exact kt
  have go984 : own_S p e below ST s₁ (mkF m 48 #[.val (.long st), .second, .val (.long c0), .second, .val (.long c1), .second, .val (.long c2), .second, .val (.long hgh), .second, iv fl, .val (.long (65536 : Int64)), .second, .val (.long (65536 : Int64)), .second, .val (.long (1 : Int64)), .second, .unset, .unset, .unset, .unset, .unset, .unset, .unset, .unset, .unset, .unset, .unset, .unset, .unset, .unset, .unset, .unset, .unset, .unset, .unset, .unset, .unset, .unset] [(.long l2)]) := fun tt kt => go982 tt (sg983 _ kt)
  have go985 : own_S p e below ST s₁ (mkF m 58 #[.val (.long st), .second, .val (.long c0), .second, .val (.long c1), .second, .val (.long c2), .second, .val (.long hgh), .second, iv fl, .val (.long (65536 : Int64)), .second, .val (.long (65536 : Int64)), .second, .val (.long (1 : Int64)), .second, .val (.long l2), .second, iv (((fl.toUInt32 >>> ((3 : Int32) &&& 31).toUInt32).toInt32) &&& (3 : Int32)), .unset, .unset, .unset, .unset, .unset, .unset, .unset, .unset, .unset, .unset, .unset, .unset, .unset, .unset, .unset, .unset, .unset, .unset, .unset] []) := fun tt kt => go984 tt (by
      refine XS.lstore X0.here hx rfl (hb hby at_48) rfl (l' := #[.val (.long st), .second, .val (.long c0), .second, .val (.long c1), .second, .val (.long c2), .second, .val (.long hgh), .second, iv fl, .val (.long (65536 : Int64)), .second, .val (.long (65536 : Int64)), .second, .val (.long (1 : Int64)), .second, .val (.long l2), .second, .unset, .unset, .unset, .unset, .unset, .unset, .unset, .unset, .unset, .unset, .unset, .unset, .unset, .unset, .unset, .unset, .unset, .unset, .unset, .unset]) rfl ?_
      refine XS.iload X0.here hx rfl (hb hby at_50) rfl ?_
      refine XS.iconst X0.here hx rfl (hb hby at_52) ?_
      refine XS.iushr X0.here hx rfl (hb hby at_53) rfl ?_
      refine XS.iconst X0.here hx rfl (hb hby at_54) ?_
      refine XS.iand X0.here hx rfl (hb hby at_55) rfl ?_
      show Steps p.tables e below (s₁.setTop (mkF m 56 #[.val (.long st), .second, .val (.long c0), .second, .val (.long c1), .second, .val (.long c2), .second, .val (.long hgh), .second, iv fl, .val (.long (65536 : Int64)), .second, .val (.long (65536 : Int64)), .second, .val (.long (1 : Int64)), .second, .val (.long l2), .second, .unset, .unset, .unset, .unset, .unset, .unset, .unset, .unset, .unset, .unset, .unset, .unset, .unset, .unset, .unset, .unset, .unset, .unset, .unset, .unset] [(.int (((fl.toUInt32 >>> ((3 : Int32) &&& 31).toUInt32).toInt32) &&& (3 : Int32)))])) _
      refine XS.istore X0.here hx rfl (hb hby at_56) rfl (l' := #[.val (.long st), .second, .val (.long c0), .second, .val (.long c1), .second, .val (.long c2), .second, .val (.long hgh), .second, iv fl, .val (.long (65536 : Int64)), .second, .val (.long (65536 : Int64)), .second, .val (.long (1 : Int64)), .second, .val (.long l2), .second, iv (((fl.toUInt32 >>> ((3 : Int32) &&& 31).toUInt32).toInt32) &&& (3 : Int32)), .unset, .unset, .unset, .unset, .unset, .unset, .unset, .unset, .unset, .unset, .unset, .unset, .unset, .unset, .unset, .unset, .unset, .unset, .unset]) rfl ?_
      exact kt)
  rw [hk] at go985
  obtain ⟨b986, g986⟩ : ∃ z, z = h0.size := ⟨_, rfl⟩
  obtain ⟨T986, h986, X986, e986, E986, A986, D986, -, st986⟩ := newO X0 hx hZ hown (W 1 rfl) (W 2 rfl) (W 3 rfl) e0 (g := (mkF m 58 #[.val (.long st), .second, .val (.long c0), .second, .val (.long c1), .second, .val (.long c2), .second, .val (.long hgh), .second, iv fl, .val (.long (65536 : Int64)), .second, .val (.long (65536 : Int64)), .second, .val (.long (1 : Int64)), .second, .val (.long l2), .second, iv (3 : Int32), .unset, .unset, .unset, .unset, .unset, .unset, .unset, .unset, .unset, .unset, .unset, .unset, .unset, .unset, .unset, .unset, .unset, .unset, .unset] [])) rfl (hb hby at_58) (by decide) (by decide)
  rw [← g986] at A986 D986 st986
  have ge_b986 : n0 ≤ b986 := Nat.le_trans Z0 (Nat.le_of_eq g986.symm)
  have F986_starts : Fld Z h986 b986 "com/example/altocommit/altocommit/store/LogIndex" "starts" "[J" .null := D986 (Or.inl (W 12 rfl)) (ty := (.array .long)) (by decide)
  have F986_lows : Fld Z h986 b986 "com/example/altocommit/altocommit/store/LogIndex" "lows" "[J" .null := D986 (Or.inl (W 14 rfl)) (ty := (.array .long)) (by decide)
  have F986_reaches : Fld Z h986 b986 "com/example/altocommit/altocommit/store/LogIndex" "reaches" "[J" .null := D986 (Or.inl (W 16 rfl)) (ty := (.array .long)) (by decide)
  have F986_end : Fld Z h986 b986 "com/example/altocommit/altocommit/store/LogIndex" "end" "J" (.long (0 : Int64)) := D986 (Or.inl (W 18 rfl)) (ty := .long) (by decide)
  have F986_count : Fld Z h986 b986 "com/example/altocommit/altocommit/store/LogIndex" "count" "I" (.int (0 : Int32)) := D986 (Or.inl (W 25 rfl)) (ty := .int) (by decide)
  have F986_highest : Fld Z h986 b986 "com/example/altocommit/altocommit/store/LogIndex" "highest" "J" (.long (0 : Int64)) := D986 (Or.inl (W 32 rfl)) (ty := .long) (by decide)
  have go987 : own_S p e below ST T986 (mkF m 61 #[.val (.long st), .second, .val (.long c0), .second, .val (.long c1), .second, .val (.long c2), .second, .val (.long hgh), .second, iv fl, .val (.long (65536 : Int64)), .second, .val (.long (65536 : Int64)), .second, .val (.long (1 : Int64)), .second, .val (.long l2), .second, iv (3 : Int32), .unset, .unset, .unset, .unset, .unset, .unset, .unset, .unset, .unset, .unset, .unset, .unset, .unset, .unset, .unset, .unset, .unset, .unset, .unset] [(.ref b986)]) := fun tt kt => go985 tt (st986 _ kt)
  have go988 : own_S p e below ST T986 (mkF m 63 #[.val (.long st), .second, .val (.long c0), .second, .val (.long c1), .second, .val (.long c2), .second, .val (.long hgh), .second, iv fl, .val (.long (65536 : Int64)), .second, .val (.long (65536 : Int64)), .second, .val (.long (1 : Int64)), .second, .val (.long l2), .second, iv (3 : Int32), .unset, .unset, .unset, .unset, .unset, .unset, .unset, .unset, .unset, .unset, .unset, .unset, .unset, .unset, .unset, .unset, .unset, .unset, .unset] [(.long st), (.ref b986), (.ref b986)]) := fun tt kt => go987 tt (by
      refine XS.dup X986.here hx rfl (hb hby at_61) rfl rfl ?_
      refine XS.lloadN X986.here hx rfl (hb hby at_62) rfl ?_
      exact kt)
  have zs990 := (Nat.le_trans Z0 E986.1)
  obtain ⟨_, _, ⟨T989, L989, k989, n989⟩, -, X989, ⟨Lc989, hQ989, l989, y989, z989⟩, st989⟩ := X986.specialBack hx (y := (⟨"com/example/altocommit/altocommit/store/LogIndex", "<init>", "(J)V"⟩ : MethodName)) rfl hown (mvT hZ (W 4 rfl)) (mvT hZ (W 5 rfl)) (mvT hZ (W 6 rfl)) (by decide) (backOf (W := 1) (rm1 l Z a0 hw [] b986 st h986 n0 zs990 F986_starts F986_lows F986_reaches F986_end F986_count F986_highest A986 ge_b986) hZ (W 6 rfl) (W 3 rfl) (by decide) (by decide)) (g := (mkF m 63 #[.val (.long st), .second, .val (.long c0), .second, .val (.long c1), .second, .val (.long c2), .second, .val (.long hgh), .second, iv fl, .val (.long (65536 : Int64)), .second, .val (.long (65536 : Int64)), .second, .val (.long (1 : Int64)), .second, .val (.long l2), .second, iv (3 : Int32), .unset, .unset, .unset, .unset, .unset, .unset, .unset, .unset, .unset, .unset, .unset, .unset, .unset, .unset, .unset, .unset, .unset, .unset, .unset] [(.long st), (.ref b986), (.ref b986)])) rfl (by rw [hml]; rfl) (Steps.refl _) (a := b986) (argsL := [(.long st)]) (rest := [(.ref b986)]) (lenOf pd167 rfl) rfl (by show 2 * 0 + _ ≤ _; exact Nat.le_of_eq rfl) (hb hby at_63) (fun _ _ => ⟨rfl, e986, (by decide : 1 + 3 ≤ _), (by decide : 6 + 48 ≤ _)⟩)
  dsimp only [Pt.U, Pt.locs, Pt.cells, Pt.slots] at X989 l989 y989 z989 st989 hQ989
  subst l989 y989 z989
  obtain ⟨bs, bl, br, ks, kl, kr, rfl, Nq989, K989, LIi989⟩ := hQ989
  have N989 := Fr.app N0 Nq989
  have go991 : own_S p e below ST T989 (mkF m 66 #[.val (.long st), .second, .val (.long c0), .second, .val (.long c1), .second, .val (.long c2), .second, .val (.long hgh), .second, iv fl, .val (.long (65536 : Int64)), .second, .val (.long (65536 : Int64)), .second, .val (.long (1 : Int64)), .second, .val (.long l2), .second, iv (3 : Int32), .unset, .unset, .unset, .unset, .unset, .unset, .unset, .unset, .unset, .unset, .unset, .unset, .unset, .unset, .unset, .unset, .unset, .unset, .unset] [(.ref b986)]) := fun tt kt => go988 tt (st989.trans kt)
  have go992 : own_S p e below ST T989 (mkF m 79 #[.val (.long st), .second, .val (.long c0), .second, .val (.long c1), .second, .val (.long c2), .second, .val (.long hgh), .second, iv fl, .val (.long (65536 : Int64)), .second, .val (.long (65536 : Int64)), .second, .val (.long (1 : Int64)), .second, .val (.long l2), .second, iv (3 : Int32), rv b986, .unset, .unset, .unset, .unset, .unset, .unset, .unset, .unset, .unset, .unset, .unset, .unset, .unset, .unset, .unset, .unset, .unset, .unset] [(.long (65536 : Int64)), (.long c0), (.ref b986)]) := fun tt kt => go991 tt (by
      refine XS.astore X989.here hx rfl (hb hby at_66) rfl rfl (l' := #[.val (.long st), .second, .val (.long c0), .second, .val (.long c1), .second, .val (.long c2), .second, .val (.long hgh), .second, iv fl, .val (.long (65536 : Int64)), .second, .val (.long (65536 : Int64)), .second, .val (.long (1 : Int64)), .second, .val (.long l2), .second, iv (3 : Int32), rv b986, .unset, .unset, .unset, .unset, .unset, .unset, .unset, .unset, .unset, .unset, .unset, .unset, .unset, .unset, .unset, .unset, .unset, .unset]) rfl ?_
      refine XS.iload X989.here hx rfl (hb hby at_68) rfl ?_
      refine XS.iconst X989.here hx rfl (hb hby at_70) ?_
      refine XS.icmpNo X989.here hx rfl (hb hby at_71) rfl (flt (by decide : ¬ ((3 : Int32) < (1 : Int32)))).1 ?_
      refine XS.aload X989.here hx rfl (hb hby at_74) rfl rfl ?_
      refine XS.lloadN X989.here hx rfl (hb hby at_76) rfl ?_
      show Steps p.tables e below (T989.setTop (mkF m 77 #[.val (.long st), .second, .val (.long c0), .second, .val (.long c1), .second, .val (.long c2), .second, .val (.long hgh), .second, iv fl, .val (.long (65536 : Int64)), .second, .val (.long (65536 : Int64)), .second, .val (.long (1 : Int64)), .second, .val (.long l2), .second, iv (3 : Int32), rv b986, .unset, .unset, .unset, .unset, .unset, .unset, .unset, .unset, .unset, .unset, .unset, .unset, .unset, .unset, .unset, .unset, .unset, .unset] [(.long c0), (.ref b986)])) _
      refine XS.lload X989.here hx rfl (hb hby at_77) rfl ?_
      exact kt)
  have zs995 := (Nat.le_trans zs990 K989.1)
  have f996 := (A986.keep K989)
  obtain ⟨cq994, kq994, q994a, q994b, q994c⟩ := isOf hZ rfl f996
  obtain ⟨_, _, ⟨T994, L994, k994, n994⟩, -, X994, ⟨Lc994, hQ994, l994, y994, z994⟩, st994⟩ := X989.virtualBack hx (y := (⟨"com/example/altocommit/altocommit/store/LogIndex", "add", "(JJ)V"⟩ : MethodName)) (z := (⟨"com/example/altocommit/altocommit/store/LogIndex", "add", "(JJ)V"⟩ : MethodName)) hown (mvT hZ (W 26 rfl)) (mvT hZ (W 27 rfl)) (notFace_of_selects (args := #[]) (mvT hZ (W 29 rfl))) (mvT hZ (W 29 rfl)) (mvT hZ (W 28 rfl)) (by decide) (backOf (W := 0) (rm4c0 l Z a0 hw [] b986 bs bl br ks kl kr c0 (65536 : Int64) st (0 : Int64) T989.heap n0 zs995 LIi989) hZ (W 30 rfl) (W 3 rfl) (by decide) (by decide)) q994a q994c (g := (mkF m 79 #[.val (.long st), .second, .val (.long c0), .second, .val (.long c1), .second, .val (.long c2), .second, .val (.long hgh), .second, iv fl, .val (.long (65536 : Int64)), .second, .val (.long (65536 : Int64)), .second, .val (.long (1 : Int64)), .second, .val (.long l2), .second, iv (3 : Int32), rv b986, .unset, .unset, .unset, .unset, .unset, .unset, .unset, .unset, .unset, .unset, .unset, .unset, .unset, .unset, .unset, .unset, .unset, .unset] [(.long (65536 : Int64)), (.long c0), (.ref b986)])) rfl (by rw [hml]; rfl) (Steps.refl _) (argsL := [(.long c0), (.long (65536 : Int64))]) (rest := []) (lenOf pd169 rfl) rfl (by show 2 * 0 + _ ≤ _; exact Nat.le_of_eq rfl) (hb hby at_79) (fun _ _ => ⟨rfl, rfl, (by decide : 4 + 0 ≤ _), (by decide : 54 + 0 ≤ _)⟩)
  dsimp only [Pt.U, Pt.locs, Pt.cells, Pt.slots] at X994 l994 y994 z994 st994 hQ994
  subst l994 y994 z994
  obtain ⟨lw993, rfl, Nq994, K994, LIi994⟩ := hQ994
  have N994 := Fr.app N989 Nq994
  have go997 : own_S p e below ST T994 (mkF m 82 #[.val (.long st), .second, .val (.long c0), .second, .val (.long c1), .second, .val (.long c2), .second, .val (.long hgh), .second, iv fl, .val (.long (65536 : Int64)), .second, .val (.long (65536 : Int64)), .second, .val (.long (1 : Int64)), .second, .val (.long l2), .second, iv (3 : Int32), rv b986, .unset, .unset, .unset, .unset, .unset, .unset, .unset, .unset, .unset, .unset, .unset, .unset, .unset, .unset, .unset, .unset, .unset, .unset] []) := fun tt kt => go992 tt (st994.trans kt)
  have go998 : own_S p e below ST T994 (mkF m 94 #[.val (.long st), .second, .val (.long c0), .second, .val (.long c1), .second, .val (.long c2), .second, .val (.long hgh), .second, iv fl, .val (.long (65536 : Int64)), .second, .val (.long (65536 : Int64)), .second, .val (.long (1 : Int64)), .second, .val (.long l2), .second, iv (3 : Int32), rv b986, .unset, .unset, .unset, .unset, .unset, .unset, .unset, .unset, .unset, .unset, .unset, .unset, .unset, .unset, .unset, .unset, .unset, .unset] [(.long (1 : Int64)), (.long c1), (.ref b986)]) := fun tt kt => go997 tt (by
      refine XS.iload X994.here hx rfl (hb hby at_82) rfl ?_
      refine XS.iconst X994.here hx rfl (hb hby at_84) ?_
      refine XS.icmpNo X994.here hx rfl (hb hby at_85) rfl (flt (by decide : ¬ ((3 : Int32) < (2 : Int32)))).1 ?_
      refine XS.aload X994.here hx rfl (hb hby at_88) rfl rfl ?_
      refine XS.lload X994.here hx rfl (hb hby at_90) rfl ?_
      refine XS.lload X994.here hx rfl (hb hby at_92) rfl ?_
      exact kt)
  have hm1000 : ¬ (lcmpW ((st + (65536 : Int64)) - st) (65536 : Int64) < (0 : Int32)) := by rw [own_as]; decide
  have zs1002 := (Nat.le_trans zs995 K994.1)
  obtain ⟨cq1001, kq1001, q1001a, q1001b, q1001c⟩ := isOf hZ rfl LIi994.1
  obtain ⟨_, _, ⟨T1001, L1001, k1001, n1001⟩, -, X1001, ⟨Lc1001, hQ1001, l1001, y1001, z1001⟩, st1001⟩ := X994.virtualBack hx (y := (⟨"com/example/altocommit/altocommit/store/LogIndex", "add", "(JJ)V"⟩ : MethodName)) (z := (⟨"com/example/altocommit/altocommit/store/LogIndex", "add", "(JJ)V"⟩ : MethodName)) hown (mvT hZ (W 26 rfl)) (mvT hZ (W 27 rfl)) (notFace_of_selects (args := #[]) (mvT hZ (W 29 rfl))) (mvT hZ (W 29 rfl)) (mvT hZ (W 28 rfl)) (by decide) (backOf (W := 0) (rm4c1 l Z a0 hw [] b986 bs bl br ks kl kr c1 (1 : Int64) (st + (65536 : Int64)) (own_maxJ (0 : Int64) c0) st lw993 c0 T994.heap n0 zs1002 LIi994 hm1000) hZ (W 30 rfl) (W 3 rfl) (by decide) (by decide)) q1001a q1001c (g := (mkF m 94 #[.val (.long st), .second, .val (.long c0), .second, .val (.long c1), .second, .val (.long c2), .second, .val (.long hgh), .second, iv fl, .val (.long (65536 : Int64)), .second, .val (.long (65536 : Int64)), .second, .val (.long (1 : Int64)), .second, .val (.long l2), .second, iv (3 : Int32), rv b986, .unset, .unset, .unset, .unset, .unset, .unset, .unset, .unset, .unset, .unset, .unset, .unset, .unset, .unset, .unset, .unset, .unset, .unset] [(.long (1 : Int64)), (.long c1), (.ref b986)])) rfl (by rw [hml]; rfl) (Steps.refl _) (argsL := [(.long c1), (.long (1 : Int64))]) (rest := []) (lenOf pd169 rfl) rfl (by show 2 * 0 + _ ≤ _; exact Nat.le_of_eq rfl) (hb hby at_94) (fun _ _ => ⟨rfl, rfl, (by decide : 4 + 0 ≤ _), (by decide : 54 + 0 ≤ _)⟩)
  dsimp only [Pt.U, Pt.locs, Pt.cells, Pt.slots] at X1001 l1001 y1001 z1001 st1001 hQ1001
  subst l1001 y1001 z1001
  obtain ⟨lw999, rfl, Nq1001, K1001, LIi1001⟩ := hQ1001
  have N1001 := Fr.app N994 Nq1001
  have go1003 : own_S p e below ST T1001 (mkF m 97 #[.val (.long st), .second, .val (.long c0), .second, .val (.long c1), .second, .val (.long c2), .second, .val (.long hgh), .second, iv fl, .val (.long (65536 : Int64)), .second, .val (.long (65536 : Int64)), .second, .val (.long (1 : Int64)), .second, .val (.long l2), .second, iv (3 : Int32), rv b986, .unset, .unset, .unset, .unset, .unset, .unset, .unset, .unset, .unset, .unset, .unset, .unset, .unset, .unset, .unset, .unset, .unset, .unset] []) := fun tt kt => go998 tt (st1001.trans kt)
  have go1004 : own_S p e below ST T1001 (mkF m 109 #[.val (.long st), .second, .val (.long c0), .second, .val (.long c1), .second, .val (.long c2), .second, .val (.long hgh), .second, iv fl, .val (.long (65536 : Int64)), .second, .val (.long (65536 : Int64)), .second, .val (.long (1 : Int64)), .second, .val (.long l2), .second, iv (3 : Int32), rv b986, .unset, .unset, .unset, .unset, .unset, .unset, .unset, .unset, .unset, .unset, .unset, .unset, .unset, .unset, .unset, .unset, .unset, .unset] [(.long l2), (.long c2), (.ref b986)]) := fun tt kt => go1003 tt (by
      refine XS.iload X1001.here hx rfl (hb hby at_97) rfl ?_
      refine XS.iconst X1001.here hx rfl (hb hby at_99) ?_
      refine XS.icmpNo X1001.here hx rfl (hb hby at_100) rfl (flt (by decide : ¬ ((3 : Int32) < (3 : Int32)))).1 ?_
      refine XS.aload X1001.here hx rfl (hb hby at_103) rfl rfl ?_
      refine XS.lload X1001.here hx rfl (hb hby at_105) rfl ?_
      refine XS.lload X1001.here hx rfl (hb hby at_107) rfl ?_
      exact kt)
  have hm1006 : (lcmpW (((st + (65536 : Int64)) + (1 : Int64)) - (st + (65536 : Int64))) (65536 : Int64) < (0 : Int32)) := by rw [own_as]; decide
  have zs1008 := (Nat.le_trans zs1002 K1001.1)
  obtain ⟨cq1007, kq1007, q1007a, q1007b, q1007c⟩ := isOf hZ rfl LIi1001.1
  obtain ⟨_, _, ⟨T1007, L1007, k1007, n1007⟩, -, X1007, ⟨Lc1007, hQ1007, l1007, y1007, z1007⟩, st1007⟩ := X1001.virtualBack hx (y := (⟨"com/example/altocommit/altocommit/store/LogIndex", "add", "(JJ)V"⟩ : MethodName)) (z := (⟨"com/example/altocommit/altocommit/store/LogIndex", "add", "(JJ)V"⟩ : MethodName)) hown (mvT hZ (W 26 rfl)) (mvT hZ (W 27 rfl)) (notFace_of_selects (args := #[]) (mvT hZ (W 29 rfl))) (mvT hZ (W 29 rfl)) (mvT hZ (W 28 rfl)) (by decide) (backOf (W := 0) (rm4c2m l Z a0 hw [] b986 bs bl br ks kl kr c2 l2 ((st + (65536 : Int64)) + (1 : Int64)) (own_maxJ (own_maxJ (0 : Int64) c0) c1) st (st + (65536 : Int64)) lw993 lw999 c0 (own_maxJ c0 c1) T1001.heap n0 zs1008 LIi1001 hm1006) hZ (W 30 rfl) (W 3 rfl) (by decide) (by decide)) q1007a q1007c (g := (mkF m 109 #[.val (.long st), .second, .val (.long c0), .second, .val (.long c1), .second, .val (.long c2), .second, .val (.long hgh), .second, iv fl, .val (.long (65536 : Int64)), .second, .val (.long (65536 : Int64)), .second, .val (.long (1 : Int64)), .second, .val (.long l2), .second, iv (3 : Int32), rv b986, .unset, .unset, .unset, .unset, .unset, .unset, .unset, .unset, .unset, .unset, .unset, .unset, .unset, .unset, .unset, .unset, .unset, .unset] [(.long l2), (.long c2), (.ref b986)])) rfl (by rw [hml]; rfl) (Steps.refl _) (argsL := [(.long c2), (.long l2)]) (rest := []) (lenOf pd169 rfl) rfl (by show 2 * 0 + _ ≤ _; exact Nat.le_of_eq rfl) (hb hby at_109) (fun _ _ => ⟨rfl, rfl, (by decide : 4 + 0 ≤ _), (by decide : 54 + 0 ≤ _)⟩)
  dsimp only [Pt.U, Pt.locs, Pt.cells, Pt.slots] at X1007 l1007 y1007 z1007 st1007 hQ1007
  subst l1007 y1007 z1007
  obtain ⟨lw1005, rfl, Nq1007, K1007, LIi1007⟩ := hQ1007
  have N1007 := Fr.app N1001 Nq1007
  have go1009 : own_S p e below ST T1007 (mkF m 112 #[.val (.long st), .second, .val (.long c0), .second, .val (.long c1), .second, .val (.long c2), .second, .val (.long hgh), .second, iv fl, .val (.long (65536 : Int64)), .second, .val (.long (65536 : Int64)), .second, .val (.long (1 : Int64)), .second, .val (.long l2), .second, iv (3 : Int32), rv b986, .unset, .unset, .unset, .unset, .unset, .unset, .unset, .unset, .unset, .unset, .unset, .unset, .unset, .unset, .unset, .unset, .unset, .unset] []) := fun tt kt => go1004 tt (st1007.trans kt)
  have go1010 : own_S p e below ST T1007 (mkF m 116 #[.val (.long st), .second, .val (.long c0), .second, .val (.long c1), .second, .val (.long c2), .second, .val (.long hgh), .second, iv fl, .val (.long (65536 : Int64)), .second, .val (.long (65536 : Int64)), .second, .val (.long (1 : Int64)), .second, .val (.long l2), .second, iv (3 : Int32), rv b986, .unset, .unset, .unset, .unset, .unset, .unset, .unset, .unset, .unset, .unset, .unset, .unset, .unset, .unset, .unset, .unset, .unset, .unset] [(.long hgh), (.ref b986)]) := fun tt kt => go1009 tt (by
      refine XS.aload X1007.here hx rfl (hb hby at_112) rfl rfl ?_
      refine XS.lload X1007.here hx rfl (hb hby at_114) rfl ?_
      exact kt)
  have zs1012 := (Nat.le_trans zs1008 K1007.1)
  obtain ⟨cq1011, kq1011, q1011a, q1011b, q1011c⟩ := isOf hZ rfl LIi1007.1
  obtain ⟨_, _, ⟨T1011, L1011, k1011, n1011⟩, -, X1011, ⟨Lc1011, hQ1011, l1011, y1011, z1011⟩, st1011⟩ := X1007.virtualBack hx (y := (⟨"com/example/altocommit/altocommit/store/LogIndex", "allAtOrBelowUpTo", "(J)J"⟩ : MethodName)) (z := (⟨"com/example/altocommit/altocommit/store/LogIndex", "allAtOrBelowUpTo", "(J)J"⟩ : MethodName)) hown (mvT hZ (W 19 rfl)) (mvT hZ (W 20 rfl)) (notFace_of_selects (args := #[]) (mvT hZ (W 22 rfl))) (mvT hZ (W 22 rfl)) (mvT hZ (W 21 rfl)) (by decide) (backOf (W := 0) (rm3c2 l Z a0 hw [] b986 bs bl br ks kl kr hgh (((st + (65536 : Int64)) + (1 : Int64)) + l2) (own_maxJ (own_maxJ (own_maxJ (0 : Int64) c0) c1) c2) st (st + (65536 : Int64)) lw993 (own_minJ lw999 lw1005) (0 : Int64) c0 (own_maxJ (own_maxJ c0 c1) c2) T1007.heap n0 zs1012 LIi1007) hZ (W 23 rfl) (W 3 rfl) (by decide) (by decide)) q1011a q1011c (g := (mkF m 116 #[.val (.long st), .second, .val (.long c0), .second, .val (.long c1), .second, .val (.long c2), .second, .val (.long hgh), .second, iv fl, .val (.long (65536 : Int64)), .second, .val (.long (65536 : Int64)), .second, .val (.long (1 : Int64)), .second, .val (.long l2), .second, iv (3 : Int32), rv b986, .unset, .unset, .unset, .unset, .unset, .unset, .unset, .unset, .unset, .unset, .unset, .unset, .unset, .unset, .unset, .unset, .unset, .unset] [(.long hgh), (.ref b986)])) rfl (by rw [hml]; rfl) (Steps.refl _) (argsL := [(.long hgh)]) (rest := []) (lenOf pd168 rfl) rfl (by show 2 * 0 + _ ≤ _; exact Nat.le_of_eq rfl) (hb hby at_116) (fun _ _ => ⟨rfl, rfl, (by decide : 4 + 0 ≤ _), (by decide : 54 + 0 ≤ _)⟩)
  dsimp only [Pt.U, Pt.locs, Pt.cells, Pt.slots] at X1011 l1011 y1011 z1011 st1011 hQ1011
  subst l1011 y1011 z1011
  obtain ⟨rfl, Nq1011, eh1011⟩ := hQ1011
  have N1011 := Fr.app N1007 Nq1011
  have go1013 : own_S p e below ST T1011 (mkF m 119 #[.val (.long st), .second, .val (.long c0), .second, .val (.long c1), .second, .val (.long c2), .second, .val (.long hgh), .second, iv fl, .val (.long (65536 : Int64)), .second, .val (.long (65536 : Int64)), .second, .val (.long (1 : Int64)), .second, .val (.long l2), .second, iv (3 : Int32), rv b986, .unset, .unset, .unset, .unset, .unset, .unset, .unset, .unset, .unset, .unset, .unset, .unset, .unset, .unset, .unset, .unset, .unset, .unset] [(.long (if (0 : Int32) < lcmpW c0 hgh then st else (if (0 : Int32) < lcmpW (own_maxJ (own_maxJ c0 c1) c2) hgh then (st + (65536 : Int64)) else (((st + (65536 : Int64)) + (1 : Int64)) + l2))))]) := fun tt kt => go1010 tt (st1011.trans kt)
  obtain ⟨got, hgot⟩ : ∃ z : Int64, z = (if (0 : Int32) < lcmpW c0 hgh then st else (if (0 : Int32) < lcmpW (own_maxJ (own_maxJ c0 c1) c2) hgh then (st + (65536 : Int64)) else (((st + (65536 : Int64)) + (1 : Int64)) + l2))) := ⟨_, rfl⟩
  rw [← hgot] at go1013
  have go1014 : own_S p e below ST T1011 (mkF m 222 #[.val (.long st), .second, .val (.long c0), .second, .val (.long c1), .second, .val (.long c2), .second, .val (.long hgh), .second, iv fl, .val (.long (65536 : Int64)), .second, .val (.long (65536 : Int64)), .second, .val (.long (1 : Int64)), .second, .val (.long l2), .second, iv (3 : Int32), rv b986, .val (.long got), .second, .val (.long st), .second, .val (.long (st + (65536 : Int64))), .second, .val (.long ((st + (65536 : Int64)) + (1 : Int64))), .second, .val (.long (((st + (65536 : Int64)) + (1 : Int64)) + l2)), .second, .val (.long st), .second, .val (.long (st + (65536 : Int64))), .second, .val (.long (st + (65536 : Int64))), .second, .unset, .unset] [(.int (lcmpW c0 hgh))]) := fun tt kt => go1013 tt (by
      refine XS.lstore X1011.here hx rfl (hb hby at_119) rfl (l' := #[.val (.long st), .second, .val (.long c0), .second, .val (.long c1), .second, .val (.long c2), .second, .val (.long hgh), .second, iv fl, .val (.long (65536 : Int64)), .second, .val (.long (65536 : Int64)), .second, .val (.long (1 : Int64)), .second, .val (.long l2), .second, iv (3 : Int32), rv b986, .val (.long got), .second, .unset, .unset, .unset, .unset, .unset, .unset, .unset, .unset, .unset, .unset, .unset, .unset, .unset, .unset, .unset, .unset]) rfl ?_
      refine XS.lloadN X1011.here hx rfl (hb hby at_121) rfl ?_
      refine XS.lstore X1011.here hx rfl (hb hby at_122) rfl (l' := #[.val (.long st), .second, .val (.long c0), .second, .val (.long c1), .second, .val (.long c2), .second, .val (.long hgh), .second, iv fl, .val (.long (65536 : Int64)), .second, .val (.long (65536 : Int64)), .second, .val (.long (1 : Int64)), .second, .val (.long l2), .second, iv (3 : Int32), rv b986, .val (.long got), .second, .val (.long st), .second, .unset, .unset, .unset, .unset, .unset, .unset, .unset, .unset, .unset, .unset, .unset, .unset, .unset, .unset]) rfl ?_
      refine XS.lload X1011.here hx rfl (hb hby at_124) rfl ?_
      refine XS.lload X1011.here hx rfl (hb hby at_126) rfl ?_
      refine XS.ladd X1011.here hx rfl (hb hby at_128) rfl ?_
      show Steps p.tables e below (T1011.setTop (mkF m 129 #[.val (.long st), .second, .val (.long c0), .second, .val (.long c1), .second, .val (.long c2), .second, .val (.long hgh), .second, iv fl, .val (.long (65536 : Int64)), .second, .val (.long (65536 : Int64)), .second, .val (.long (1 : Int64)), .second, .val (.long l2), .second, iv (3 : Int32), rv b986, .val (.long got), .second, .val (.long st), .second, .unset, .unset, .unset, .unset, .unset, .unset, .unset, .unset, .unset, .unset, .unset, .unset, .unset, .unset] [(.long (st + (65536 : Int64)))])) _
      refine XS.lstore X1011.here hx rfl (hb hby at_129) rfl (l' := #[.val (.long st), .second, .val (.long c0), .second, .val (.long c1), .second, .val (.long c2), .second, .val (.long hgh), .second, iv fl, .val (.long (65536 : Int64)), .second, .val (.long (65536 : Int64)), .second, .val (.long (1 : Int64)), .second, .val (.long l2), .second, iv (3 : Int32), rv b986, .val (.long got), .second, .val (.long st), .second, .val (.long (st + (65536 : Int64))), .second, .unset, .unset, .unset, .unset, .unset, .unset, .unset, .unset, .unset, .unset, .unset, .unset]) rfl ?_
      refine XS.lload X1011.here hx rfl (hb hby at_131) rfl ?_
      refine XS.lload X1011.here hx rfl (hb hby at_133) rfl ?_
      refine XS.ladd X1011.here hx rfl (hb hby at_135) rfl ?_
      refine XS.lstore X1011.here hx rfl (hb hby at_136) rfl (l' := #[.val (.long st), .second, .val (.long c0), .second, .val (.long c1), .second, .val (.long c2), .second, .val (.long hgh), .second, iv fl, .val (.long (65536 : Int64)), .second, .val (.long (65536 : Int64)), .second, .val (.long (1 : Int64)), .second, .val (.long l2), .second, iv (3 : Int32), rv b986, .val (.long got), .second, .val (.long st), .second, .val (.long (st + (65536 : Int64))), .second, .val (.long ((st + (65536 : Int64)) + (1 : Int64))), .second, .unset, .unset, .unset, .unset, .unset, .unset, .unset, .unset, .unset, .unset]) rfl ?_
      refine XS.lloadN X1011.here hx rfl (hb hby at_138) rfl ?_
      show Steps p.tables e below (T1011.setTop (mkF m 139 #[.val (.long st), .second, .val (.long c0), .second, .val (.long c1), .second, .val (.long c2), .second, .val (.long hgh), .second, iv fl, .val (.long (65536 : Int64)), .second, .val (.long (65536 : Int64)), .second, .val (.long (1 : Int64)), .second, .val (.long l2), .second, iv (3 : Int32), rv b986, .val (.long got), .second, .val (.long st), .second, .val (.long (st + (65536 : Int64))), .second, .val (.long ((st + (65536 : Int64)) + (1 : Int64))), .second, .unset, .unset, .unset, .unset, .unset, .unset, .unset, .unset, .unset, .unset] [(.long st)])) _
      refine XS.lstore X1011.here hx rfl (hb hby at_139) rfl (l' := #[.val (.long st), .second, .val (.long c0), .second, .val (.long c1), .second, .val (.long c2), .second, .val (.long hgh), .second, iv fl, .val (.long (65536 : Int64)), .second, .val (.long (65536 : Int64)), .second, .val (.long (1 : Int64)), .second, .val (.long l2), .second, iv (3 : Int32), rv b986, .val (.long got), .second, .val (.long st), .second, .val (.long (st + (65536 : Int64))), .second, .val (.long ((st + (65536 : Int64)) + (1 : Int64))), .second, .val (.long st), .second, .unset, .unset, .unset, .unset, .unset, .unset, .unset, .unset]) rfl ?_
      refine XS.iload X1011.here hx rfl (hb hby at_141) rfl ?_
      refine XS.iconst X1011.here hx rfl (hb hby at_143) ?_
      refine XS.icmpNo X1011.here hx rfl (hb hby at_144) rfl (flt (by decide : ¬ ((3 : Int32) < (1 : Int32)))).1 ?_
      refine XS.lload X1011.here hx rfl (hb hby at_147) rfl ?_
      refine XS.lstore X1011.here hx rfl (hb hby at_149) rfl (l' := #[.val (.long st), .second, .val (.long c0), .second, .val (.long c1), .second, .val (.long c2), .second, .val (.long hgh), .second, iv fl, .val (.long (65536 : Int64)), .second, .val (.long (65536 : Int64)), .second, .val (.long (1 : Int64)), .second, .val (.long l2), .second, iv (3 : Int32), rv b986, .val (.long got), .second, .val (.long st), .second, .val (.long (st + (65536 : Int64))), .second, .val (.long ((st + (65536 : Int64)) + (1 : Int64))), .second, .val (.long (st + (65536 : Int64))), .second, .unset, .unset, .unset, .unset, .unset, .unset, .unset, .unset]) rfl ?_
      show Steps p.tables e below (T1011.setTop (mkF m 151 #[.val (.long st), .second, .val (.long c0), .second, .val (.long c1), .second, .val (.long c2), .second, .val (.long hgh), .second, iv fl, .val (.long (65536 : Int64)), .second, .val (.long (65536 : Int64)), .second, .val (.long (1 : Int64)), .second, .val (.long l2), .second, iv (3 : Int32), rv b986, .val (.long got), .second, .val (.long st), .second, .val (.long (st + (65536 : Int64))), .second, .val (.long ((st + (65536 : Int64)) + (1 : Int64))), .second, .val (.long (st + (65536 : Int64))), .second, .unset, .unset, .unset, .unset, .unset, .unset, .unset, .unset] [])) _
      refine XS.iload X1011.here hx rfl (hb hby at_151) rfl ?_
      refine XS.iconst X1011.here hx rfl (hb hby at_153) ?_
      refine XS.icmpNo X1011.here hx rfl (hb hby at_154) rfl (flt (by decide : ¬ ((3 : Int32) < (2 : Int32)))).1 ?_
      refine XS.lload X1011.here hx rfl (hb hby at_157) rfl ?_
      refine XS.lstore X1011.here hx rfl (hb hby at_159) rfl (l' := #[.val (.long st), .second, .val (.long c0), .second, .val (.long c1), .second, .val (.long c2), .second, .val (.long hgh), .second, iv fl, .val (.long (65536 : Int64)), .second, .val (.long (65536 : Int64)), .second, .val (.long (1 : Int64)), .second, .val (.long l2), .second, iv (3 : Int32), rv b986, .val (.long got), .second, .val (.long st), .second, .val (.long (st + (65536 : Int64))), .second, .val (.long ((st + (65536 : Int64)) + (1 : Int64))), .second, .val (.long ((st + (65536 : Int64)) + (1 : Int64))), .second, .unset, .unset, .unset, .unset, .unset, .unset, .unset, .unset]) rfl ?_
      refine XS.iload X1011.here hx rfl (hb hby at_161) rfl ?_
      show Steps p.tables e below (T1011.setTop (mkF m 163 #[.val (.long st), .second, .val (.long c0), .second, .val (.long c1), .second, .val (.long c2), .second, .val (.long hgh), .second, iv fl, .val (.long (65536 : Int64)), .second, .val (.long (65536 : Int64)), .second, .val (.long (1 : Int64)), .second, .val (.long l2), .second, iv (3 : Int32), rv b986, .val (.long got), .second, .val (.long st), .second, .val (.long (st + (65536 : Int64))), .second, .val (.long ((st + (65536 : Int64)) + (1 : Int64))), .second, .val (.long ((st + (65536 : Int64)) + (1 : Int64))), .second, .unset, .unset, .unset, .unset, .unset, .unset, .unset, .unset] [(.int (3 : Int32))])) _
      refine XS.iconst X1011.here hx rfl (hb hby at_163) ?_
      refine XS.icmpNo X1011.here hx rfl (hb hby at_164) rfl (flt (by decide : ¬ ((3 : Int32) < (3 : Int32)))).1 ?_
      refine XS.lload X1011.here hx rfl (hb hby at_167) rfl ?_
      refine XS.lload X1011.here hx rfl (hb hby at_169) rfl ?_
      refine XS.ladd X1011.here hx rfl (hb hby at_171) rfl ?_
      refine XS.lstore X1011.here hx rfl (hb hby at_172) rfl (l' := #[.val (.long st), .second, .val (.long c0), .second, .val (.long c1), .second, .val (.long c2), .second, .val (.long hgh), .second, iv fl, .val (.long (65536 : Int64)), .second, .val (.long (65536 : Int64)), .second, .val (.long (1 : Int64)), .second, .val (.long l2), .second, iv (3 : Int32), rv b986, .val (.long got), .second, .val (.long st), .second, .val (.long (st + (65536 : Int64))), .second, .val (.long ((st + (65536 : Int64)) + (1 : Int64))), .second, .val (.long (((st + (65536 : Int64)) + (1 : Int64)) + l2)), .second, .unset, .unset, .unset, .unset, .unset, .unset, .unset, .unset]) rfl ?_
      show Steps p.tables e below (T1011.setTop (mkF m 174 #[.val (.long st), .second, .val (.long c0), .second, .val (.long c1), .second, .val (.long c2), .second, .val (.long hgh), .second, iv fl, .val (.long (65536 : Int64)), .second, .val (.long (65536 : Int64)), .second, .val (.long (1 : Int64)), .second, .val (.long l2), .second, iv (3 : Int32), rv b986, .val (.long got), .second, .val (.long st), .second, .val (.long (st + (65536 : Int64))), .second, .val (.long ((st + (65536 : Int64)) + (1 : Int64))), .second, .val (.long (((st + (65536 : Int64)) + (1 : Int64)) + l2)), .second, .unset, .unset, .unset, .unset, .unset, .unset, .unset, .unset] [])) _
      refine XS.lload X1011.here hx rfl (hb hby at_174) rfl ?_
      refine XS.lstore X1011.here hx rfl (hb hby at_176) rfl (l' := #[.val (.long st), .second, .val (.long c0), .second, .val (.long c1), .second, .val (.long c2), .second, .val (.long hgh), .second, iv fl, .val (.long (65536 : Int64)), .second, .val (.long (65536 : Int64)), .second, .val (.long (1 : Int64)), .second, .val (.long l2), .second, iv (3 : Int32), rv b986, .val (.long got), .second, .val (.long st), .second, .val (.long (st + (65536 : Int64))), .second, .val (.long ((st + (65536 : Int64)) + (1 : Int64))), .second, .val (.long (((st + (65536 : Int64)) + (1 : Int64)) + l2)), .second, .val (.long st), .second, .unset, .unset, .unset, .unset, .unset, .unset]) rfl ?_
      refine XS.lload X1011.here hx rfl (hb hby at_178) rfl ?_
      refine XS.lload X1011.here hx rfl (hb hby at_180) rfl ?_
      refine XS.lcmp X1011.here hx rfl (hb hby at_182) rfl ?_
      refine XS.ifNo X1011.here hx rfl (hb hby at_183) rfl ((if0 _ _).trans (teq (by decide : (lcmpW (65536 : Int64) (65536 : Int64)) = (0 : Int32))).2) ?_
      show Steps p.tables e below (T1011.setTop (mkF m 186 #[.val (.long st), .second, .val (.long c0), .second, .val (.long c1), .second, .val (.long c2), .second, .val (.long hgh), .second, iv fl, .val (.long (65536 : Int64)), .second, .val (.long (65536 : Int64)), .second, .val (.long (1 : Int64)), .second, .val (.long l2), .second, iv (3 : Int32), rv b986, .val (.long got), .second, .val (.long st), .second, .val (.long (st + (65536 : Int64))), .second, .val (.long ((st + (65536 : Int64)) + (1 : Int64))), .second, .val (.long (((st + (65536 : Int64)) + (1 : Int64)) + l2)), .second, .val (.long st), .second, .unset, .unset, .unset, .unset, .unset, .unset] [])) _
      refine XS.lload X1011.here hx rfl (hb hby at_186) rfl ?_
      refine XS.goto X1011.here hx rfl (pc0 := 188) (pc' := 193) rfl (hb hby at_188) (by decide) (by decide) ?_
      refine XS.lstore X1011.here hx rfl (hb hby at_193) rfl (l' := #[.val (.long st), .second, .val (.long c0), .second, .val (.long c1), .second, .val (.long c2), .second, .val (.long hgh), .second, iv fl, .val (.long (65536 : Int64)), .second, .val (.long (65536 : Int64)), .second, .val (.long (1 : Int64)), .second, .val (.long l2), .second, iv (3 : Int32), rv b986, .val (.long got), .second, .val (.long st), .second, .val (.long (st + (65536 : Int64))), .second, .val (.long ((st + (65536 : Int64)) + (1 : Int64))), .second, .val (.long (((st + (65536 : Int64)) + (1 : Int64)) + l2)), .second, .val (.long st), .second, .val (.long (st + (65536 : Int64))), .second, .unset, .unset, .unset, .unset]) rfl ?_
      refine XS.lload X1011.here hx rfl (hb hby at_195) rfl ?_
      refine XS.lload X1011.here hx rfl (hb hby at_197) rfl ?_
      refine XS.lcmp X1011.here hx rfl (hb hby at_199) rfl ?_
      show Steps p.tables e below (T1011.setTop (mkF m 200 #[.val (.long st), .second, .val (.long c0), .second, .val (.long c1), .second, .val (.long c2), .second, .val (.long hgh), .second, iv fl, .val (.long (65536 : Int64)), .second, .val (.long (65536 : Int64)), .second, .val (.long (1 : Int64)), .second, .val (.long l2), .second, iv (3 : Int32), rv b986, .val (.long got), .second, .val (.long st), .second, .val (.long (st + (65536 : Int64))), .second, .val (.long ((st + (65536 : Int64)) + (1 : Int64))), .second, .val (.long (((st + (65536 : Int64)) + (1 : Int64)) + l2)), .second, .val (.long st), .second, .val (.long (st + (65536 : Int64))), .second, .unset, .unset, .unset, .unset] [(.int (lcmpW (1 : Int64) (65536 : Int64)))])) _
      refine XS.ifYes X1011.here hx rfl (pc0 := 200) (pc' := 208) rfl (hb hby at_200) rfl ((if0 _ _).trans (feq (by decide : ¬ ((lcmpW (1 : Int64) (65536 : Int64)) = (0 : Int32)))).2) (by decide) (by decide) ?_
      refine XS.lload X1011.here hx rfl (hb hby at_208) rfl ?_
      refine XS.lstore X1011.here hx rfl (hb hby at_210) rfl (l' := #[.val (.long st), .second, .val (.long c0), .second, .val (.long c1), .second, .val (.long c2), .second, .val (.long hgh), .second, iv fl, .val (.long (65536 : Int64)), .second, .val (.long (65536 : Int64)), .second, .val (.long (1 : Int64)), .second, .val (.long l2), .second, iv (3 : Int32), rv b986, .val (.long got), .second, .val (.long st), .second, .val (.long (st + (65536 : Int64))), .second, .val (.long ((st + (65536 : Int64)) + (1 : Int64))), .second, .val (.long (((st + (65536 : Int64)) + (1 : Int64)) + l2)), .second, .val (.long st), .second, .val (.long (st + (65536 : Int64))), .second, .val (.long (st + (65536 : Int64))), .second, .unset, .unset]) rfl ?_
      refine XS.iload X1011.here hx rfl (hb hby at_212) rfl ?_
      refine XS.iconst X1011.here hx rfl (hb hby at_214) ?_
      refine XS.icmpNo X1011.here hx rfl (hb hby at_215) rfl (flt (by decide : ¬ ((3 : Int32) < (1 : Int32)))).1 ?_
      show Steps p.tables e below (T1011.setTop (mkF m 218 #[.val (.long st), .second, .val (.long c0), .second, .val (.long c1), .second, .val (.long c2), .second, .val (.long hgh), .second, iv fl, .val (.long (65536 : Int64)), .second, .val (.long (65536 : Int64)), .second, .val (.long (1 : Int64)), .second, .val (.long l2), .second, iv (3 : Int32), rv b986, .val (.long got), .second, .val (.long st), .second, .val (.long (st + (65536 : Int64))), .second, .val (.long ((st + (65536 : Int64)) + (1 : Int64))), .second, .val (.long (((st + (65536 : Int64)) + (1 : Int64)) + l2)), .second, .val (.long st), .second, .val (.long (st + (65536 : Int64))), .second, .val (.long (st + (65536 : Int64))), .second, .unset, .unset] [])) _
      refine XS.lloadN X1011.here hx rfl (hb hby at_218) rfl ?_
      refine XS.lload X1011.here hx rfl (hb hby at_219) rfl ?_
      refine XS.lcmp X1011.here hx rfl (hb hby at_221) rfl ?_
      exact kt)
  obtain ⟨ex, hex, sg1015⟩ : ∃ (ex : Int64), ex = (if (0 : Int32) < (lcmpW c0 hgh) then st else (if (0 : Int32) < (lcmpW c1 hgh) then (st + (65536 : Int64)) else (if (0 : Int32) < (lcmpW c2 hgh) then (st + (65536 : Int64)) else (((st + (65536 : Int64)) + (1 : Int64)) + l2)))) ∧ ∀ tt, Steps p.tables e below (T1011.setTop (mkF m 278 #[.val (.long st), .second, .val (.long c0), .second, .val (.long c1), .second, .val (.long c2), .second, .val (.long hgh), .second, iv fl, .val (.long (65536 : Int64)), .second, .val (.long (65536 : Int64)), .second, .val (.long (1 : Int64)), .second, .val (.long l2), .second, iv (3 : Int32), rv b986, .val (.long got), .second, .val (.long st), .second, .val (.long (st + (65536 : Int64))), .second, .val (.long ((st + (65536 : Int64)) + (1 : Int64))), .second, .val (.long (((st + (65536 : Int64)) + (1 : Int64)) + l2)), .second, .val (.long st), .second, .val (.long (st + (65536 : Int64))), .second, .val (.long (st + (65536 : Int64))), .second, .val (.long ex), .second] [])) tt → Steps p.tables e below (T1011.setTop (mkF m 222 #[.val (.long st), .second, .val (.long c0), .second, .val (.long c1), .second, .val (.long c2), .second, .val (.long hgh), .second, iv fl, .val (.long (65536 : Int64)), .second, .val (.long (65536 : Int64)), .second, .val (.long (1 : Int64)), .second, .val (.long l2), .second, iv (3 : Int32), rv b986, .val (.long got), .second, .val (.long st), .second, .val (.long (st + (65536 : Int64))), .second, .val (.long ((st + (65536 : Int64)) + (1 : Int64))), .second, .val (.long (((st + (65536 : Int64)) + (1 : Int64)) + l2)), .second, .val (.long st), .second, .val (.long (st + (65536 : Int64))), .second, .val (.long (st + (65536 : Int64))), .second, .unset, .unset] [(.int (lcmpW c0 hgh))])) tt := by
    by_cases hd222_0 : (0 : Int32) < (lcmpW c0 hgh)
    · refine ⟨_, (if_pos hd222_0).symm, fun tt kt => ?_⟩
      show Steps p.tables e below (T1011.setTop (mkF m 222 #[.val (.long st), .second, .val (.long c0), .second, .val (.long c1), .second, .val (.long c2), .second, .val (.long hgh), .second, iv fl, .val (.long (65536 : Int64)), .second, .val (.long (65536 : Int64)), .second, .val (.long (1 : Int64)), .second, .val (.long l2), .second, iv (3 : Int32), rv b986, .val (.long got), .second, .val (.long st), .second, .val (.long (st + (65536 : Int64))), .second, .val (.long ((st + (65536 : Int64)) + (1 : Int64))), .second, .val (.long (((st + (65536 : Int64)) + (1 : Int64)) + l2)), .second, .val (.long st), .second, .val (.long (st + (65536 : Int64))), .second, .val (.long (st + (65536 : Int64))), .second, .unset, .unset] [(.int (lcmpW c0 hgh))])) _
      refine XS.ifNo X1011.here hx rfl (hb hby at_222) rfl ((if0 _ _).trans (tlt hd222_0).2.2.2) ?_
      refine XS.lload X1011.here hx rfl (hb hby at_225) rfl ?_
      refine XS.lstore X1011.here hx rfl (hb hby at_227) rfl (l' := #[.val (.long st), .second, .val (.long c0), .second, .val (.long c1), .second, .val (.long c2), .second, .val (.long hgh), .second, iv fl, .val (.long (65536 : Int64)), .second, .val (.long (65536 : Int64)), .second, .val (.long (1 : Int64)), .second, .val (.long l2), .second, iv (3 : Int32), rv b986, .val (.long got), .second, .val (.long st), .second, .val (.long (st + (65536 : Int64))), .second, .val (.long ((st + (65536 : Int64)) + (1 : Int64))), .second, .val (.long (((st + (65536 : Int64)) + (1 : Int64)) + l2)), .second, .val (.long st), .second, .val (.long (st + (65536 : Int64))), .second, .val (.long (st + (65536 : Int64))), .second, .val (.long st), .second]) rfl ?_
      refine XS.goto X1011.here hx rfl (pc0 := 229) (pc' := 278) rfl (hb hby at_229) (by decide) (by decide) ?_
      exact kt
    · by_cases hd243_1 : (0 : Int32) < (lcmpW c1 hgh)
      · refine ⟨_, ((if_neg hd222_0).trans (if_pos hd243_1)).symm, fun tt kt => ?_⟩
        show Steps p.tables e below (T1011.setTop (mkF m 222 #[.val (.long st), .second, .val (.long c0), .second, .val (.long c1), .second, .val (.long c2), .second, .val (.long hgh), .second, iv fl, .val (.long (65536 : Int64)), .second, .val (.long (65536 : Int64)), .second, .val (.long (1 : Int64)), .second, .val (.long l2), .second, iv (3 : Int32), rv b986, .val (.long got), .second, .val (.long st), .second, .val (.long (st + (65536 : Int64))), .second, .val (.long ((st + (65536 : Int64)) + (1 : Int64))), .second, .val (.long (((st + (65536 : Int64)) + (1 : Int64)) + l2)), .second, .val (.long st), .second, .val (.long (st + (65536 : Int64))), .second, .val (.long (st + (65536 : Int64))), .second, .unset, .unset] [(.int (lcmpW c0 hgh))])) _
        refine XS.ifYes X1011.here hx rfl (pc0 := 222) (pc' := 232) rfl (hb hby at_222) rfl ((if0 _ _).trans (flt hd222_0).2.2.2) (by decide) (by decide) ?_
        refine XS.iload X1011.here hx rfl (hb hby at_232) rfl ?_
        refine XS.iconst X1011.here hx rfl (hb hby at_234) ?_
        refine XS.icmpNo X1011.here hx rfl (hb hby at_235) rfl (flt (by decide : ¬ ((3 : Int32) < (2 : Int32)))).1 ?_
        refine XS.lload X1011.here hx rfl (hb hby at_238) rfl ?_
        refine XS.lload X1011.here hx rfl (hb hby at_240) rfl ?_
        show Steps p.tables e below (T1011.setTop (mkF m 242 #[.val (.long st), .second, .val (.long c0), .second, .val (.long c1), .second, .val (.long c2), .second, .val (.long hgh), .second, iv fl, .val (.long (65536 : Int64)), .second, .val (.long (65536 : Int64)), .second, .val (.long (1 : Int64)), .second, .val (.long l2), .second, iv (3 : Int32), rv b986, .val (.long got), .second, .val (.long st), .second, .val (.long (st + (65536 : Int64))), .second, .val (.long ((st + (65536 : Int64)) + (1 : Int64))), .second, .val (.long (((st + (65536 : Int64)) + (1 : Int64)) + l2)), .second, .val (.long st), .second, .val (.long (st + (65536 : Int64))), .second, .val (.long (st + (65536 : Int64))), .second, .unset, .unset] [(.long hgh), (.long c1)])) _
        refine XS.lcmp X1011.here hx rfl (hb hby at_242) rfl ?_
        refine XS.ifNo X1011.here hx rfl (hb hby at_243) rfl ((if0 _ _).trans (tlt hd243_1).2.2.2) ?_
        refine XS.lload X1011.here hx rfl (hb hby at_246) rfl ?_
        refine XS.lstore X1011.here hx rfl (hb hby at_248) rfl (l' := #[.val (.long st), .second, .val (.long c0), .second, .val (.long c1), .second, .val (.long c2), .second, .val (.long hgh), .second, iv fl, .val (.long (65536 : Int64)), .second, .val (.long (65536 : Int64)), .second, .val (.long (1 : Int64)), .second, .val (.long l2), .second, iv (3 : Int32), rv b986, .val (.long got), .second, .val (.long st), .second, .val (.long (st + (65536 : Int64))), .second, .val (.long ((st + (65536 : Int64)) + (1 : Int64))), .second, .val (.long (((st + (65536 : Int64)) + (1 : Int64)) + l2)), .second, .val (.long st), .second, .val (.long (st + (65536 : Int64))), .second, .val (.long (st + (65536 : Int64))), .second, .val (.long (st + (65536 : Int64))), .second]) rfl ?_
        refine XS.goto X1011.here hx rfl (pc0 := 250) (pc' := 278) rfl (hb hby at_250) (by decide) (by decide) ?_
        exact kt
      · by_cases hd264_2 : (0 : Int32) < (lcmpW c2 hgh)
        · refine ⟨_, (((if_neg hd222_0).trans (if_neg hd243_1)).trans (if_pos hd264_2)).symm, fun tt kt => ?_⟩
          show Steps p.tables e below (T1011.setTop (mkF m 222 #[.val (.long st), .second, .val (.long c0), .second, .val (.long c1), .second, .val (.long c2), .second, .val (.long hgh), .second, iv fl, .val (.long (65536 : Int64)), .second, .val (.long (65536 : Int64)), .second, .val (.long (1 : Int64)), .second, .val (.long l2), .second, iv (3 : Int32), rv b986, .val (.long got), .second, .val (.long st), .second, .val (.long (st + (65536 : Int64))), .second, .val (.long ((st + (65536 : Int64)) + (1 : Int64))), .second, .val (.long (((st + (65536 : Int64)) + (1 : Int64)) + l2)), .second, .val (.long st), .second, .val (.long (st + (65536 : Int64))), .second, .val (.long (st + (65536 : Int64))), .second, .unset, .unset] [(.int (lcmpW c0 hgh))])) _
          refine XS.ifYes X1011.here hx rfl (pc0 := 222) (pc' := 232) rfl (hb hby at_222) rfl ((if0 _ _).trans (flt hd222_0).2.2.2) (by decide) (by decide) ?_
          refine XS.iload X1011.here hx rfl (hb hby at_232) rfl ?_
          refine XS.iconst X1011.here hx rfl (hb hby at_234) ?_
          refine XS.icmpNo X1011.here hx rfl (hb hby at_235) rfl (flt (by decide : ¬ ((3 : Int32) < (2 : Int32)))).1 ?_
          refine XS.lload X1011.here hx rfl (hb hby at_238) rfl ?_
          refine XS.lload X1011.here hx rfl (hb hby at_240) rfl ?_
          show Steps p.tables e below (T1011.setTop (mkF m 242 #[.val (.long st), .second, .val (.long c0), .second, .val (.long c1), .second, .val (.long c2), .second, .val (.long hgh), .second, iv fl, .val (.long (65536 : Int64)), .second, .val (.long (65536 : Int64)), .second, .val (.long (1 : Int64)), .second, .val (.long l2), .second, iv (3 : Int32), rv b986, .val (.long got), .second, .val (.long st), .second, .val (.long (st + (65536 : Int64))), .second, .val (.long ((st + (65536 : Int64)) + (1 : Int64))), .second, .val (.long (((st + (65536 : Int64)) + (1 : Int64)) + l2)), .second, .val (.long st), .second, .val (.long (st + (65536 : Int64))), .second, .val (.long (st + (65536 : Int64))), .second, .unset, .unset] [(.long hgh), (.long c1)])) _
          refine XS.lcmp X1011.here hx rfl (hb hby at_242) rfl ?_
          refine XS.ifYes X1011.here hx rfl (pc0 := 243) (pc' := 253) rfl (hb hby at_243) rfl ((if0 _ _).trans (flt hd243_1).2.2.2) (by decide) (by decide) ?_
          refine XS.iload X1011.here hx rfl (hb hby at_253) rfl ?_
          refine XS.iconst X1011.here hx rfl (hb hby at_255) ?_
          refine XS.icmpNo X1011.here hx rfl (hb hby at_256) rfl (flt (by decide : ¬ ((3 : Int32) < (3 : Int32)))).1 ?_
          refine XS.lload X1011.here hx rfl (hb hby at_259) rfl ?_
          show Steps p.tables e below (T1011.setTop (mkF m 261 #[.val (.long st), .second, .val (.long c0), .second, .val (.long c1), .second, .val (.long c2), .second, .val (.long hgh), .second, iv fl, .val (.long (65536 : Int64)), .second, .val (.long (65536 : Int64)), .second, .val (.long (1 : Int64)), .second, .val (.long l2), .second, iv (3 : Int32), rv b986, .val (.long got), .second, .val (.long st), .second, .val (.long (st + (65536 : Int64))), .second, .val (.long ((st + (65536 : Int64)) + (1 : Int64))), .second, .val (.long (((st + (65536 : Int64)) + (1 : Int64)) + l2)), .second, .val (.long st), .second, .val (.long (st + (65536 : Int64))), .second, .val (.long (st + (65536 : Int64))), .second, .unset, .unset] [(.long c2)])) _
          refine XS.lload X1011.here hx rfl (hb hby at_261) rfl ?_
          refine XS.lcmp X1011.here hx rfl (hb hby at_263) rfl ?_
          refine XS.ifNo X1011.here hx rfl (hb hby at_264) rfl ((if0 _ _).trans (tlt hd264_2).2.2.2) ?_
          refine XS.lload X1011.here hx rfl (hb hby at_267) rfl ?_
          refine XS.lstore X1011.here hx rfl (hb hby at_269) rfl (l' := #[.val (.long st), .second, .val (.long c0), .second, .val (.long c1), .second, .val (.long c2), .second, .val (.long hgh), .second, iv fl, .val (.long (65536 : Int64)), .second, .val (.long (65536 : Int64)), .second, .val (.long (1 : Int64)), .second, .val (.long l2), .second, iv (3 : Int32), rv b986, .val (.long got), .second, .val (.long st), .second, .val (.long (st + (65536 : Int64))), .second, .val (.long ((st + (65536 : Int64)) + (1 : Int64))), .second, .val (.long (((st + (65536 : Int64)) + (1 : Int64)) + l2)), .second, .val (.long st), .second, .val (.long (st + (65536 : Int64))), .second, .val (.long (st + (65536 : Int64))), .second, .val (.long (st + (65536 : Int64))), .second]) rfl ?_
          refine XS.goto X1011.here hx rfl (pc0 := 271) (pc' := 278) rfl (hb hby at_271) (by decide) (by decide) ?_
          exact kt
        · refine ⟨_, (((if_neg hd222_0).trans (if_neg hd243_1)).trans (if_neg hd264_2)).symm, fun tt kt => ?_⟩
          show Steps p.tables e below (T1011.setTop (mkF m 222 #[.val (.long st), .second, .val (.long c0), .second, .val (.long c1), .second, .val (.long c2), .second, .val (.long hgh), .second, iv fl, .val (.long (65536 : Int64)), .second, .val (.long (65536 : Int64)), .second, .val (.long (1 : Int64)), .second, .val (.long l2), .second, iv (3 : Int32), rv b986, .val (.long got), .second, .val (.long st), .second, .val (.long (st + (65536 : Int64))), .second, .val (.long ((st + (65536 : Int64)) + (1 : Int64))), .second, .val (.long (((st + (65536 : Int64)) + (1 : Int64)) + l2)), .second, .val (.long st), .second, .val (.long (st + (65536 : Int64))), .second, .val (.long (st + (65536 : Int64))), .second, .unset, .unset] [(.int (lcmpW c0 hgh))])) _
          refine XS.ifYes X1011.here hx rfl (pc0 := 222) (pc' := 232) rfl (hb hby at_222) rfl ((if0 _ _).trans (flt hd222_0).2.2.2) (by decide) (by decide) ?_
          refine XS.iload X1011.here hx rfl (hb hby at_232) rfl ?_
          refine XS.iconst X1011.here hx rfl (hb hby at_234) ?_
          refine XS.icmpNo X1011.here hx rfl (hb hby at_235) rfl (flt (by decide : ¬ ((3 : Int32) < (2 : Int32)))).1 ?_
          refine XS.lload X1011.here hx rfl (hb hby at_238) rfl ?_
          refine XS.lload X1011.here hx rfl (hb hby at_240) rfl ?_
          show Steps p.tables e below (T1011.setTop (mkF m 242 #[.val (.long st), .second, .val (.long c0), .second, .val (.long c1), .second, .val (.long c2), .second, .val (.long hgh), .second, iv fl, .val (.long (65536 : Int64)), .second, .val (.long (65536 : Int64)), .second, .val (.long (1 : Int64)), .second, .val (.long l2), .second, iv (3 : Int32), rv b986, .val (.long got), .second, .val (.long st), .second, .val (.long (st + (65536 : Int64))), .second, .val (.long ((st + (65536 : Int64)) + (1 : Int64))), .second, .val (.long (((st + (65536 : Int64)) + (1 : Int64)) + l2)), .second, .val (.long st), .second, .val (.long (st + (65536 : Int64))), .second, .val (.long (st + (65536 : Int64))), .second, .unset, .unset] [(.long hgh), (.long c1)])) _
          refine XS.lcmp X1011.here hx rfl (hb hby at_242) rfl ?_
          refine XS.ifYes X1011.here hx rfl (pc0 := 243) (pc' := 253) rfl (hb hby at_243) rfl ((if0 _ _).trans (flt hd243_1).2.2.2) (by decide) (by decide) ?_
          refine XS.iload X1011.here hx rfl (hb hby at_253) rfl ?_
          refine XS.iconst X1011.here hx rfl (hb hby at_255) ?_
          refine XS.icmpNo X1011.here hx rfl (hb hby at_256) rfl (flt (by decide : ¬ ((3 : Int32) < (3 : Int32)))).1 ?_
          refine XS.lload X1011.here hx rfl (hb hby at_259) rfl ?_
          show Steps p.tables e below (T1011.setTop (mkF m 261 #[.val (.long st), .second, .val (.long c0), .second, .val (.long c1), .second, .val (.long c2), .second, .val (.long hgh), .second, iv fl, .val (.long (65536 : Int64)), .second, .val (.long (65536 : Int64)), .second, .val (.long (1 : Int64)), .second, .val (.long l2), .second, iv (3 : Int32), rv b986, .val (.long got), .second, .val (.long st), .second, .val (.long (st + (65536 : Int64))), .second, .val (.long ((st + (65536 : Int64)) + (1 : Int64))), .second, .val (.long (((st + (65536 : Int64)) + (1 : Int64)) + l2)), .second, .val (.long st), .second, .val (.long (st + (65536 : Int64))), .second, .val (.long (st + (65536 : Int64))), .second, .unset, .unset] [(.long c2)])) _
          refine XS.lload X1011.here hx rfl (hb hby at_261) rfl ?_
          refine XS.lcmp X1011.here hx rfl (hb hby at_263) rfl ?_
          refine XS.ifYes X1011.here hx rfl (pc0 := 264) (pc' := 274) rfl (hb hby at_264) rfl ((if0 _ _).trans (flt hd264_2).2.2.2) (by decide) (by decide) ?_
          refine XS.lload X1011.here hx rfl (hb hby at_274) rfl ?_
          refine XS.lstore X1011.here hx rfl (hb hby at_276) rfl (l' := #[.val (.long st), .second, .val (.long c0), .second, .val (.long c1), .second, .val (.long c2), .second, .val (.long hgh), .second, iv fl, .val (.long (65536 : Int64)), .second, .val (.long (65536 : Int64)), .second, .val (.long (1 : Int64)), .second, .val (.long l2), .second, iv (3 : Int32), rv b986, .val (.long got), .second, .val (.long st), .second, .val (.long (st + (65536 : Int64))), .second, .val (.long ((st + (65536 : Int64)) + (1 : Int64))), .second, .val (.long (((st + (65536 : Int64)) + (1 : Int64)) + l2)), .second, .val (.long st), .second, .val (.long (st + (65536 : Int64))), .second, .val (.long (st + (65536 : Int64))), .second, .val (.long (((st + (65536 : Int64)) + (1 : Int64)) + l2)), .second]) rfl ?_
          exact kt
  have go1016 : own_S p e below ST T1011 (mkF m 278 #[.val (.long st), .second, .val (.long c0), .second, .val (.long c1), .second, .val (.long c2), .second, .val (.long hgh), .second, iv fl, .val (.long (65536 : Int64)), .second, .val (.long (65536 : Int64)), .second, .val (.long (1 : Int64)), .second, .val (.long l2), .second, iv (3 : Int32), rv b986, .val (.long got), .second, .val (.long st), .second, .val (.long (st + (65536 : Int64))), .second, .val (.long ((st + (65536 : Int64)) + (1 : Int64))), .second, .val (.long (((st + (65536 : Int64)) + (1 : Int64)) + l2)), .second, .val (.long st), .second, .val (.long (st + (65536 : Int64))), .second, .val (.long (st + (65536 : Int64))), .second, .val (.long ex), .second] []) := fun tt kt => go1014 tt (sg1015 _ kt)
  have go1017 : own_S p e below ST T1011 (mkF m 283 #[.val (.long st), .second, .val (.long c0), .second, .val (.long c1), .second, .val (.long c2), .second, .val (.long hgh), .second, iv fl, .val (.long (65536 : Int64)), .second, .val (.long (65536 : Int64)), .second, .val (.long (1 : Int64)), .second, .val (.long l2), .second, iv (3 : Int32), rv b986, .val (.long got), .second, .val (.long st), .second, .val (.long (st + (65536 : Int64))), .second, .val (.long ((st + (65536 : Int64)) + (1 : Int64))), .second, .val (.long (((st + (65536 : Int64)) + (1 : Int64)) + l2)), .second, .val (.long st), .second, .val (.long (st + (65536 : Int64))), .second, .val (.long (st + (65536 : Int64))), .second, .val (.long ex), .second] [(.int (lcmpW got ex))]) := fun tt kt => go1016 tt (by
      refine XS.lload X1011.here hx rfl (hb hby at_278) rfl ?_
      refine XS.lload X1011.here hx rfl (hb hby at_280) rfl ?_
      refine XS.lcmp X1011.here hx rfl (hb hby at_282) rfl ?_
      exact kt)
  have hfin : (lcmpW got ex) = (0 : Int32) := by
    rw [lw_eq, hgot, hex]
    all_goals (try simp only [own_gt])
    all_goals (by_cases y0 : (0 : Int32) < lcmpW c0 hgh <;> by_cases y1 : (0 : Int32) < lcmpW c1 hgh <;> by_cases y2 : (0 : Int32) < lcmpW c2 hgh <;> simp [y0, y1, y2])
  have go1018 : own_S p e below ST T1011 (mkF m 291 #[.val (.long st), .second, .val (.long c0), .second, .val (.long c1), .second, .val (.long c2), .second, .val (.long hgh), .second, iv fl, .val (.long (65536 : Int64)), .second, .val (.long (65536 : Int64)), .second, .val (.long (1 : Int64)), .second, .val (.long l2), .second, iv (3 : Int32), rv b986, .val (.long got), .second, .val (.long st), .second, .val (.long (st + (65536 : Int64))), .second, .val (.long ((st + (65536 : Int64)) + (1 : Int64))), .second, .val (.long (((st + (65536 : Int64)) + (1 : Int64)) + l2)), .second, .val (.long st), .second, .val (.long (st + (65536 : Int64))), .second, .val (.long (st + (65536 : Int64))), .second, .val (.long ex), .second] [(.int (1 : Int32))]) := fun tt kt => go1017 tt (by
      refine XS.ifNo X1011.here hx rfl (hb hby at_283) rfl ((if0 _ _).trans (teq hfin).2) ?_
      refine XS.iconst X1011.here hx rfl (hb hby at_286) ?_
      refine XS.goto X1011.here hx rfl (pc0 := 287) (pc' := 291) rfl (hb hby at_287) (by decide) (by decide) ?_
      exact kt)
  obtain ⟨fs, hr, hrun, hended, hW, hsame⟩ := X1011.leave (v := some (.int (1 : Int32))) (fun h => by rw [Bd.returns] at h; cases h) (hlocks := by first | exact BodyLoose.notSynchronized Bd | exact Body.notSynchronized Bd)
  refine ⟨_, _, pre0 _ (go1018 _ ?_), hrun, hended, _, _, rfl, ?_, ⟨_, rfl⟩, hW, hsame.mono (by decide) (by decide)⟩
  · exact retN X1011 hx (t := .boolean) Bd.returns (by simp) (hb hby at_291) hr
  · show Q0n3ba Z st c0 c1 c2 hgh fl h0 n0 _ T1011.heap _
    rw [eh1011]
    exact ⟨rfl, N1011⟩
theorem ef0n3bb (m : MethodId) (x0 : Int64) (x1 : Int64) (x2 : Int64) (x3 : Int64) (x4 : Int64) (x5 : Int32) : entryFrame m #[(.long x0), (.long x1), (.long x2), (.long x3), (.long x4), (.int x5)] maxLocals = mkF m 0 #[.val (.long x0), .second, .val (.long x1), .second, .val (.long x2), .second, .val (.long x3), .second, .val (.long x4), .second, .val (.int x5), .unset, .unset, .unset, .unset, .unset, .unset, .unset, .unset, .unset, .unset, .unset, .unset, .unset, .unset, .unset, .unset, .unset, .unset, .unset, .unset, .unset, .unset, .unset, .unset, .unset, .unset, .unset, .unset] [] := by first | (simp [entryFrame, mkF, argsToLocals, Value.category, maxLocals]; done) | rfl
def Q0n3bb (Z : State) (st : Int64) (c0 : Int64) (c1 : Int64) (c2 : Int64) (hgh : Int64) (fl : Int32) (h0 : Heap) (n0 : Nat) (v : Option Value) (h : Heap) (L : List Loc) : Prop := v = some (.int 1) ∧ Fr n0 L
set_option maxRecDepth 65536 in
set_option maxHeartbeats 40000000 in
theorem rm0n3bb (l : Launch) (Z : State) (a0 : Array Value) (hw : ∀ d ∈ tables_1, d.before a0 Z = true) (ws : List Jvm.Cond) (st : Int64) (c0 : Int64) (c1 : Int64) (c2 : Int64) (hgh : Int64) (fl : Int32) (h0 : Heap) (n0 : Nat) (Z0 : n0 ≤ h0.size) (hk : ((fl.toUInt32 >>> ((3 : Int32) &&& 31).toUInt32).toInt32) &&& 3 = 3) (hb0 : ¬ (fl &&& (1 : Int32) = (0 : Int32))) (hb1 : ¬ (fl &&& (2 : Int32) = (0 : Int32))) :
    MetFree l x (head1 (Jvm.Cond.code x code maxLocals ret :: ws) room_1) (fun aa UU => aa = #[(.long st), (.long c0), (.long c1), (.long c2), (.long hgh), (.int fl)] ∧ Z.Warmed39 UU.vm ∧ UU.heap = h0) (fun _ _ _ _ _ => True) (fun _ UU oo UU' => ∃ vv LL, oo = .returned vv ∧ Q0n3bb Z st c0 c1 c2 hgh fl h0 n0 vv UU'.heap LL ∧ FrameEnd UU oo UU' LL room_1.cells room_1.slots) := by
  have W : ∀ {d : Jvm.Cond} (i : Nat), tables_1[i]? = some d → d.before a0 Z = true := fun i h => hw _ (List.mem_of_getElem? h)
  refine MetFree.of_bodySF (plainFor_of_name pn166) hisR ?_
  intro p e s m args below meth c s₁ Bd hml0 hP hK
  obtain ⟨rfl, hZ, hh⟩ := hP
  have hx := Bd.exec
  have hby := Bd.bytes
  have hml : c.maxLocals = 39 := hml0
  have hown : s.vm.findClass "com/example/altocommit/altocommit/store/LogIndexAllAtOrBelowUpToPinLaw" = some m.cls := findClass_of_methodNamed Bd.named
  have hnm := (name_of_methodNamed Bd.named Bd.method).1
  have X0 : Stand p l e room_1 s m #[(.long st), (.long c0), (.long c1), (.long c2), (.long hgh), (.int fl)] below meth c s₁ [] 0 0 := Stand.of_body Bd
  have e0 : s₁.heap = h0 := by rw [← hh, Bd.state]; rfl
  have N0 := Fr.nil n0
  have pre0 : ∀ tt, Steps p.tables e below (s₁.setTop (mkF m 0 #[.val (.long st), .second, .val (.long c0), .second, .val (.long c1), .second, .val (.long c2), .second, .val (.long hgh), .second, iv fl, .unset, .unset, .unset, .unset, .unset, .unset, .unset, .unset, .unset, .unset, .unset, .unset, .unset, .unset, .unset, .unset, .unset, .unset, .unset, .unset, .unset, .unset, .unset, .unset, .unset, .unset, .unset, .unset] [])) tt → Steps p.tables e below (s₁.setTop (entryFrame m #[(.long st), (.long c0), (.long c1), (.long c2), (.long hgh), (.int fl)] maxLocals)) tt := fun tt kt => castTop (ef0n3bb m st c0 c1 c2 hgh fl) kt
  obtain ⟨ST, hST⟩ : ∃ z : State, z = s₁.setTop (mkF m 0 #[.val (.long st), .second, .val (.long c0), .second, .val (.long c1), .second, .val (.long c2), .second, .val (.long hgh), .second, iv fl, .unset, .unset, .unset, .unset, .unset, .unset, .unset, .unset, .unset, .unset, .unset, .unset, .unset, .unset, .unset, .unset, .unset, .unset, .unset, .unset, .unset, .unset, .unset, .unset, .unset, .unset, .unset, .unset] []) := ⟨_, rfl⟩
  rw [← hST] at pre0
  have go1019 : own_S p e below ST s₁ (mkF m 18 #[.val (.long st), .second, .val (.long c0), .second, .val (.long c1), .second, .val (.long c2), .second, .val (.long hgh), .second, iv fl, .val (.long (65536 : Int64)), .second, .unset, .unset, .unset, .unset, .unset, .unset, .unset, .unset, .unset, .unset, .unset, .unset, .unset, .unset, .unset, .unset, .unset, .unset, .unset, .unset, .unset, .unset, .unset, .unset, .unset, .unset] [(.long (65536 : Int64))]) := fun tt kt => (by
      rw [hST]
      show Steps p.tables e below (s₁.setTop (mkF m 0 #[.val (.long st), .second, .val (.long c0), .second, .val (.long c1), .second, .val (.long c2), .second, .val (.long hgh), .second, iv fl, .unset, .unset, .unset, .unset, .unset, .unset, .unset, .unset, .unset, .unset, .unset, .unset, .unset, .unset, .unset, .unset, .unset, .unset, .unset, .unset, .unset, .unset, .unset, .unset, .unset, .unset, .unset, .unset] [])) _
      refine X0.ldc2Long hx hown (mvT hZ (W 0 rfl)) (g := (mkF m 0 #[.val (.long st), .second, .val (.long c0), .second, .val (.long c1), .second, .val (.long c2), .second, .val (.long hgh), .second, iv fl, .unset, .unset, .unset, .unset, .unset, .unset, .unset, .unset, .unset, .unset, .unset, .unset, .unset, .unset, .unset, .unset, .unset, .unset, .unset, .unset, .unset, .unset, .unset, .unset, .unset, .unset, .unset, .unset] [])) rfl (hb hby at_0) _ ?_
      refine XS.lstore X0.here hx rfl (hb hby at_3) rfl (l' := #[.val (.long st), .second, .val (.long c0), .second, .val (.long c1), .second, .val (.long c2), .second, .val (.long hgh), .second, iv fl, .val (.long (65536 : Int64)), .second, .unset, .unset, .unset, .unset, .unset, .unset, .unset, .unset, .unset, .unset, .unset, .unset, .unset, .unset, .unset, .unset, .unset, .unset, .unset, .unset, .unset, .unset, .unset, .unset, .unset, .unset]) rfl ?_
      refine XS.iload X0.here hx rfl (hb hby at_5) rfl ?_
      refine XS.iconst X0.here hx rfl (hb hby at_7) ?_
      refine XS.iand X0.here hx rfl (hb hby at_8) rfl ?_
      refine XS.ifNo X0.here hx rfl (hb hby at_9) rfl ((if0 _ _).trans (feq hb0).1) ?_
      show Steps p.tables e below (s₁.setTop (mkF m 12 #[.val (.long st), .second, .val (.long c0), .second, .val (.long c1), .second, .val (.long c2), .second, .val (.long hgh), .second, iv fl, .val (.long (65536 : Int64)), .second, .unset, .unset, .unset, .unset, .unset, .unset, .unset, .unset, .unset, .unset, .unset, .unset, .unset, .unset, .unset, .unset, .unset, .unset, .unset, .unset, .unset, .unset, .unset, .unset, .unset, .unset] [])) _
      refine XS.lload X0.here hx rfl (hb hby at_12) rfl ?_
      refine XS.goto X0.here hx rfl (pc0 := 14) (pc' := 18) rfl (hb hby at_14) (by decide) (by decide) ?_
      exact kt)
  have go1020 : own_S p e below ST s₁ (mkF m 33 #[.val (.long st), .second, .val (.long c0), .second, .val (.long c1), .second, .val (.long c2), .second, .val (.long hgh), .second, iv fl, .val (.long (65536 : Int64)), .second, .val (.long (65536 : Int64)), .second, .unset, .unset, .unset, .unset, .unset, .unset, .unset, .unset, .unset, .unset, .unset, .unset, .unset, .unset, .unset, .unset, .unset, .unset, .unset, .unset, .unset, .unset, .unset, .unset] [(.long (65536 : Int64))]) := fun tt kt => go1019 tt (by
      refine XS.lstore X0.here hx rfl (hb hby at_18) rfl (l' := #[.val (.long st), .second, .val (.long c0), .second, .val (.long c1), .second, .val (.long c2), .second, .val (.long hgh), .second, iv fl, .val (.long (65536 : Int64)), .second, .val (.long (65536 : Int64)), .second, .unset, .unset, .unset, .unset, .unset, .unset, .unset, .unset, .unset, .unset, .unset, .unset, .unset, .unset, .unset, .unset, .unset, .unset, .unset, .unset, .unset, .unset, .unset, .unset]) rfl ?_
      refine XS.iload X0.here hx rfl (hb hby at_20) rfl ?_
      refine XS.iconst X0.here hx rfl (hb hby at_22) ?_
      refine XS.iand X0.here hx rfl (hb hby at_23) rfl ?_
      refine XS.ifNo X0.here hx rfl (hb hby at_24) rfl ((if0 _ _).trans (feq hb1).1) ?_
      refine XS.lload X0.here hx rfl (hb hby at_27) rfl ?_
      show Steps p.tables e below (s₁.setTop (mkF m 29 #[.val (.long st), .second, .val (.long c0), .second, .val (.long c1), .second, .val (.long c2), .second, .val (.long hgh), .second, iv fl, .val (.long (65536 : Int64)), .second, .val (.long (65536 : Int64)), .second, .unset, .unset, .unset, .unset, .unset, .unset, .unset, .unset, .unset, .unset, .unset, .unset, .unset, .unset, .unset, .unset, .unset, .unset, .unset, .unset, .unset, .unset, .unset, .unset] [(.long (65536 : Int64))])) _
      refine XS.goto X0.here hx rfl (pc0 := 29) (pc' := 33) rfl (hb hby at_29) (by decide) (by decide) ?_
      exact kt)
  have go1021 : own_S p e below ST s₁ (mkF m 39 #[.val (.long st), .second, .val (.long c0), .second, .val (.long c1), .second, .val (.long c2), .second, .val (.long hgh), .second, iv fl, .val (.long (65536 : Int64)), .second, .val (.long (65536 : Int64)), .second, .val (.long (65536 : Int64)), .second, .unset, .unset, .unset, .unset, .unset, .unset, .unset, .unset, .unset, .unset, .unset, .unset, .unset, .unset, .unset, .unset, .unset, .unset, .unset, .unset, .unset, .unset] [(.int (fl &&& (4 : Int32)))]) := fun tt kt => go1020 tt (by
      refine XS.lstore X0.here hx rfl (hb hby at_33) rfl (l' := #[.val (.long st), .second, .val (.long c0), .second, .val (.long c1), .second, .val (.long c2), .second, .val (.long hgh), .second, iv fl, .val (.long (65536 : Int64)), .second, .val (.long (65536 : Int64)), .second, .val (.long (65536 : Int64)), .second, .unset, .unset, .unset, .unset, .unset, .unset, .unset, .unset, .unset, .unset, .unset, .unset, .unset, .unset, .unset, .unset, .unset, .unset, .unset, .unset, .unset, .unset]) rfl ?_
      refine XS.iload X0.here hx rfl (hb hby at_35) rfl ?_
      refine XS.iconst X0.here hx rfl (hb hby at_37) ?_
      refine XS.iand X0.here hx rfl (hb hby at_38) rfl ?_
      exact kt)
  obtain ⟨l2, hl2, sg1022⟩ : ∃ (l2 : Int64), l2 = (if (fl &&& (4 : Int32)) = (0 : Int32) then (1 : Int64) else (65536 : Int64)) ∧ ∀ tt, Steps p.tables e below (s₁.setTop (mkF m 48 #[.val (.long st), .second, .val (.long c0), .second, .val (.long c1), .second, .val (.long c2), .second, .val (.long hgh), .second, iv fl, .val (.long (65536 : Int64)), .second, .val (.long (65536 : Int64)), .second, .val (.long (65536 : Int64)), .second, .unset, .unset, .unset, .unset, .unset, .unset, .unset, .unset, .unset, .unset, .unset, .unset, .unset, .unset, .unset, .unset, .unset, .unset, .unset, .unset, .unset, .unset] [(.long l2)])) tt → Steps p.tables e below (s₁.setTop (mkF m 39 #[.val (.long st), .second, .val (.long c0), .second, .val (.long c1), .second, .val (.long c2), .second, .val (.long hgh), .second, iv fl, .val (.long (65536 : Int64)), .second, .val (.long (65536 : Int64)), .second, .val (.long (65536 : Int64)), .second, .unset, .unset, .unset, .unset, .unset, .unset, .unset, .unset, .unset, .unset, .unset, .unset, .unset, .unset, .unset, .unset, .unset, .unset, .unset, .unset, .unset, .unset] [(.int (fl &&& (4 : Int32)))])) tt := by
    by_cases hd39_0 : (fl &&& (4 : Int32)) = (0 : Int32)
    · refine ⟨_, (if_pos hd39_0).symm, fun tt kt => ?_⟩
      show Steps p.tables e below (s₁.setTop (mkF m 39 #[.val (.long st), .second, .val (.long c0), .second, .val (.long c1), .second, .val (.long c2), .second, .val (.long hgh), .second, iv fl, .val (.long (65536 : Int64)), .second, .val (.long (65536 : Int64)), .second, .val (.long (65536 : Int64)), .second, .unset, .unset, .unset, .unset, .unset, .unset, .unset, .unset, .unset, .unset, .unset, .unset, .unset, .unset, .unset, .unset, .unset, .unset, .unset, .unset, .unset, .unset] [(.int (fl &&& (4 : Int32)))])) _
      refine XS.ifYes X0.here hx rfl (pc0 := 39) (pc' := 47) rfl (hb hby at_39) rfl ((if0 _ _).trans (teq hd39_0).1) (by decide) (by decide) ?_
      refine XS.lconst X0.here hx rfl (hb hby at_47) ?_
      exact kt
    · refine ⟨_, (if_neg hd39_0).symm, fun tt kt => ?_⟩
      show Steps p.tables e below (s₁.setTop (mkF m 39 #[.val (.long st), .second, .val (.long c0), .second, .val (.long c1), .second, .val (.long c2), .second, .val (.long hgh), .second, iv fl, .val (.long (65536 : Int64)), .second, .val (.long (65536 : Int64)), .second, .val (.long (65536 : Int64)), .second, .unset, .unset, .unset, .unset, .unset, .unset, .unset, .unset, .unset, .unset, .unset, .unset, .unset, .unset, .unset, .unset, .unset, .unset, .unset, .unset, .unset, .unset] [(.int (fl &&& (4 : Int32)))])) _
      refine XS.ifNo X0.here hx rfl (hb hby at_39) rfl ((if0 _ _).trans (feq hd39_0).1) ?_
      refine XS.lload X0.here hx rfl (hb hby at_42) rfl ?_
      refine XS.goto X0.here hx rfl (pc0 := 44) (pc' := 48) rfl (hb hby at_44) (by decide) (by decide) ?_
      exact kt
  have go1023 : own_S p e below ST s₁ (mkF m 48 #[.val (.long st), .second, .val (.long c0), .second, .val (.long c1), .second, .val (.long c2), .second, .val (.long hgh), .second, iv fl, .val (.long (65536 : Int64)), .second, .val (.long (65536 : Int64)), .second, .val (.long (65536 : Int64)), .second, .unset, .unset, .unset, .unset, .unset, .unset, .unset, .unset, .unset, .unset, .unset, .unset, .unset, .unset, .unset, .unset, .unset, .unset, .unset, .unset, .unset, .unset] [(.long l2)]) := fun tt kt => go1021 tt (sg1022 _ kt)
  have go1024 : own_S p e below ST s₁ (mkF m 58 #[.val (.long st), .second, .val (.long c0), .second, .val (.long c1), .second, .val (.long c2), .second, .val (.long hgh), .second, iv fl, .val (.long (65536 : Int64)), .second, .val (.long (65536 : Int64)), .second, .val (.long (65536 : Int64)), .second, .val (.long l2), .second, iv (((fl.toUInt32 >>> ((3 : Int32) &&& 31).toUInt32).toInt32) &&& (3 : Int32)), .unset, .unset, .unset, .unset, .unset, .unset, .unset, .unset, .unset, .unset, .unset, .unset, .unset, .unset, .unset, .unset, .unset, .unset, .unset] []) := fun tt kt => go1023 tt (by
      refine XS.lstore X0.here hx rfl (hb hby at_48) rfl (l' := #[.val (.long st), .second, .val (.long c0), .second, .val (.long c1), .second, .val (.long c2), .second, .val (.long hgh), .second, iv fl, .val (.long (65536 : Int64)), .second, .val (.long (65536 : Int64)), .second, .val (.long (65536 : Int64)), .second, .val (.long l2), .second, .unset, .unset, .unset, .unset, .unset, .unset, .unset, .unset, .unset, .unset, .unset, .unset, .unset, .unset, .unset, .unset, .unset, .unset, .unset, .unset]) rfl ?_
      refine XS.iload X0.here hx rfl (hb hby at_50) rfl ?_
      refine XS.iconst X0.here hx rfl (hb hby at_52) ?_
      refine XS.iushr X0.here hx rfl (hb hby at_53) rfl ?_
      refine XS.iconst X0.here hx rfl (hb hby at_54) ?_
      refine XS.iand X0.here hx rfl (hb hby at_55) rfl ?_
      show Steps p.tables e below (s₁.setTop (mkF m 56 #[.val (.long st), .second, .val (.long c0), .second, .val (.long c1), .second, .val (.long c2), .second, .val (.long hgh), .second, iv fl, .val (.long (65536 : Int64)), .second, .val (.long (65536 : Int64)), .second, .val (.long (65536 : Int64)), .second, .val (.long l2), .second, .unset, .unset, .unset, .unset, .unset, .unset, .unset, .unset, .unset, .unset, .unset, .unset, .unset, .unset, .unset, .unset, .unset, .unset, .unset, .unset] [(.int (((fl.toUInt32 >>> ((3 : Int32) &&& 31).toUInt32).toInt32) &&& (3 : Int32)))])) _
      refine XS.istore X0.here hx rfl (hb hby at_56) rfl (l' := #[.val (.long st), .second, .val (.long c0), .second, .val (.long c1), .second, .val (.long c2), .second, .val (.long hgh), .second, iv fl, .val (.long (65536 : Int64)), .second, .val (.long (65536 : Int64)), .second, .val (.long (65536 : Int64)), .second, .val (.long l2), .second, iv (((fl.toUInt32 >>> ((3 : Int32) &&& 31).toUInt32).toInt32) &&& (3 : Int32)), .unset, .unset, .unset, .unset, .unset, .unset, .unset, .unset, .unset, .unset, .unset, .unset, .unset, .unset, .unset, .unset, .unset, .unset, .unset]) rfl ?_
      exact kt)
  rw [hk] at go1024
  obtain ⟨b1025, g1025⟩ : ∃ z, z = h0.size := ⟨_, rfl⟩
  obtain ⟨T1025, h1025, X1025, e1025, E1025, A1025, D1025, -, st1025⟩ := newO X0 hx hZ hown (W 1 rfl) (W 2 rfl) (W 3 rfl) e0 (g := (mkF m 58 #[.val (.long st), .second, .val (.long c0), .second, .val (.long c1), .second, .val (.long c2), .second, .val (.long hgh), .second, iv fl, .val (.long (65536 : Int64)), .second, .val (.long (65536 : Int64)), .second, .val (.long (65536 : Int64)), .second, .val (.long l2), .second, iv (3 : Int32), .unset, .unset, .unset, .unset, .unset, .unset, .unset, .unset, .unset, .unset, .unset, .unset, .unset, .unset, .unset, .unset, .unset, .unset, .unset] [])) rfl (hb hby at_58) (by decide) (by decide)
  rw [← g1025] at A1025 D1025 st1025
  have ge_b1025 : n0 ≤ b1025 := Nat.le_trans Z0 (Nat.le_of_eq g1025.symm)
  have F1025_starts : Fld Z h1025 b1025 "com/example/altocommit/altocommit/store/LogIndex" "starts" "[J" .null := D1025 (Or.inl (W 12 rfl)) (ty := (.array .long)) (by decide)
  have F1025_lows : Fld Z h1025 b1025 "com/example/altocommit/altocommit/store/LogIndex" "lows" "[J" .null := D1025 (Or.inl (W 14 rfl)) (ty := (.array .long)) (by decide)
  have F1025_reaches : Fld Z h1025 b1025 "com/example/altocommit/altocommit/store/LogIndex" "reaches" "[J" .null := D1025 (Or.inl (W 16 rfl)) (ty := (.array .long)) (by decide)
  have F1025_end : Fld Z h1025 b1025 "com/example/altocommit/altocommit/store/LogIndex" "end" "J" (.long (0 : Int64)) := D1025 (Or.inl (W 18 rfl)) (ty := .long) (by decide)
  have F1025_count : Fld Z h1025 b1025 "com/example/altocommit/altocommit/store/LogIndex" "count" "I" (.int (0 : Int32)) := D1025 (Or.inl (W 25 rfl)) (ty := .int) (by decide)
  have F1025_highest : Fld Z h1025 b1025 "com/example/altocommit/altocommit/store/LogIndex" "highest" "J" (.long (0 : Int64)) := D1025 (Or.inl (W 32 rfl)) (ty := .long) (by decide)
  have go1026 : own_S p e below ST T1025 (mkF m 61 #[.val (.long st), .second, .val (.long c0), .second, .val (.long c1), .second, .val (.long c2), .second, .val (.long hgh), .second, iv fl, .val (.long (65536 : Int64)), .second, .val (.long (65536 : Int64)), .second, .val (.long (65536 : Int64)), .second, .val (.long l2), .second, iv (3 : Int32), .unset, .unset, .unset, .unset, .unset, .unset, .unset, .unset, .unset, .unset, .unset, .unset, .unset, .unset, .unset, .unset, .unset, .unset, .unset] [(.ref b1025)]) := fun tt kt => go1024 tt (st1025 _ kt)
  have go1027 : own_S p e below ST T1025 (mkF m 63 #[.val (.long st), .second, .val (.long c0), .second, .val (.long c1), .second, .val (.long c2), .second, .val (.long hgh), .second, iv fl, .val (.long (65536 : Int64)), .second, .val (.long (65536 : Int64)), .second, .val (.long (65536 : Int64)), .second, .val (.long l2), .second, iv (3 : Int32), .unset, .unset, .unset, .unset, .unset, .unset, .unset, .unset, .unset, .unset, .unset, .unset, .unset, .unset, .unset, .unset, .unset, .unset, .unset] [(.long st), (.ref b1025), (.ref b1025)]) := fun tt kt => go1026 tt (by
      refine XS.dup X1025.here hx rfl (hb hby at_61) rfl rfl ?_
      refine XS.lloadN X1025.here hx rfl (hb hby at_62) rfl ?_
      exact kt)
  have zs1029 := (Nat.le_trans Z0 E1025.1)
  obtain ⟨_, _, ⟨T1028, L1028, k1028, n1028⟩, -, X1028, ⟨Lc1028, hQ1028, l1028, y1028, z1028⟩, st1028⟩ := X1025.specialBack hx (y := (⟨"com/example/altocommit/altocommit/store/LogIndex", "<init>", "(J)V"⟩ : MethodName)) rfl hown (mvT hZ (W 4 rfl)) (mvT hZ (W 5 rfl)) (mvT hZ (W 6 rfl)) (by decide) (backOf (W := 1) (rm1 l Z a0 hw [] b1025 st h1025 n0 zs1029 F1025_starts F1025_lows F1025_reaches F1025_end F1025_count F1025_highest A1025 ge_b1025) hZ (W 6 rfl) (W 3 rfl) (by decide) (by decide)) (g := (mkF m 63 #[.val (.long st), .second, .val (.long c0), .second, .val (.long c1), .second, .val (.long c2), .second, .val (.long hgh), .second, iv fl, .val (.long (65536 : Int64)), .second, .val (.long (65536 : Int64)), .second, .val (.long (65536 : Int64)), .second, .val (.long l2), .second, iv (3 : Int32), .unset, .unset, .unset, .unset, .unset, .unset, .unset, .unset, .unset, .unset, .unset, .unset, .unset, .unset, .unset, .unset, .unset, .unset, .unset] [(.long st), (.ref b1025), (.ref b1025)])) rfl (by rw [hml]; rfl) (Steps.refl _) (a := b1025) (argsL := [(.long st)]) (rest := [(.ref b1025)]) (lenOf pd167 rfl) rfl (by show 2 * 0 + _ ≤ _; exact Nat.le_of_eq rfl) (hb hby at_63) (fun _ _ => ⟨rfl, e1025, (by decide : 1 + 3 ≤ _), (by decide : 6 + 48 ≤ _)⟩)
  dsimp only [Pt.U, Pt.locs, Pt.cells, Pt.slots] at X1028 l1028 y1028 z1028 st1028 hQ1028
  subst l1028 y1028 z1028
  obtain ⟨bs, bl, br, ks, kl, kr, rfl, Nq1028, K1028, LIi1028⟩ := hQ1028
  have N1028 := Fr.app N0 Nq1028
  have go1030 : own_S p e below ST T1028 (mkF m 66 #[.val (.long st), .second, .val (.long c0), .second, .val (.long c1), .second, .val (.long c2), .second, .val (.long hgh), .second, iv fl, .val (.long (65536 : Int64)), .second, .val (.long (65536 : Int64)), .second, .val (.long (65536 : Int64)), .second, .val (.long l2), .second, iv (3 : Int32), .unset, .unset, .unset, .unset, .unset, .unset, .unset, .unset, .unset, .unset, .unset, .unset, .unset, .unset, .unset, .unset, .unset, .unset, .unset] [(.ref b1025)]) := fun tt kt => go1027 tt (st1028.trans kt)
  have go1031 : own_S p e below ST T1028 (mkF m 79 #[.val (.long st), .second, .val (.long c0), .second, .val (.long c1), .second, .val (.long c2), .second, .val (.long hgh), .second, iv fl, .val (.long (65536 : Int64)), .second, .val (.long (65536 : Int64)), .second, .val (.long (65536 : Int64)), .second, .val (.long l2), .second, iv (3 : Int32), rv b1025, .unset, .unset, .unset, .unset, .unset, .unset, .unset, .unset, .unset, .unset, .unset, .unset, .unset, .unset, .unset, .unset, .unset, .unset] [(.long (65536 : Int64)), (.long c0), (.ref b1025)]) := fun tt kt => go1030 tt (by
      refine XS.astore X1028.here hx rfl (hb hby at_66) rfl rfl (l' := #[.val (.long st), .second, .val (.long c0), .second, .val (.long c1), .second, .val (.long c2), .second, .val (.long hgh), .second, iv fl, .val (.long (65536 : Int64)), .second, .val (.long (65536 : Int64)), .second, .val (.long (65536 : Int64)), .second, .val (.long l2), .second, iv (3 : Int32), rv b1025, .unset, .unset, .unset, .unset, .unset, .unset, .unset, .unset, .unset, .unset, .unset, .unset, .unset, .unset, .unset, .unset, .unset, .unset]) rfl ?_
      refine XS.iload X1028.here hx rfl (hb hby at_68) rfl ?_
      refine XS.iconst X1028.here hx rfl (hb hby at_70) ?_
      refine XS.icmpNo X1028.here hx rfl (hb hby at_71) rfl (flt (by decide : ¬ ((3 : Int32) < (1 : Int32)))).1 ?_
      refine XS.aload X1028.here hx rfl (hb hby at_74) rfl rfl ?_
      refine XS.lloadN X1028.here hx rfl (hb hby at_76) rfl ?_
      show Steps p.tables e below (T1028.setTop (mkF m 77 #[.val (.long st), .second, .val (.long c0), .second, .val (.long c1), .second, .val (.long c2), .second, .val (.long hgh), .second, iv fl, .val (.long (65536 : Int64)), .second, .val (.long (65536 : Int64)), .second, .val (.long (65536 : Int64)), .second, .val (.long l2), .second, iv (3 : Int32), rv b1025, .unset, .unset, .unset, .unset, .unset, .unset, .unset, .unset, .unset, .unset, .unset, .unset, .unset, .unset, .unset, .unset, .unset, .unset] [(.long c0), (.ref b1025)])) _
      refine XS.lload X1028.here hx rfl (hb hby at_77) rfl ?_
      exact kt)
  have zs1034 := (Nat.le_trans zs1029 K1028.1)
  have f1035 := (A1025.keep K1028)
  obtain ⟨cq1033, kq1033, q1033a, q1033b, q1033c⟩ := isOf hZ rfl f1035
  obtain ⟨_, _, ⟨T1033, L1033, k1033, n1033⟩, -, X1033, ⟨Lc1033, hQ1033, l1033, y1033, z1033⟩, st1033⟩ := X1028.virtualBack hx (y := (⟨"com/example/altocommit/altocommit/store/LogIndex", "add", "(JJ)V"⟩ : MethodName)) (z := (⟨"com/example/altocommit/altocommit/store/LogIndex", "add", "(JJ)V"⟩ : MethodName)) hown (mvT hZ (W 26 rfl)) (mvT hZ (W 27 rfl)) (notFace_of_selects (args := #[]) (mvT hZ (W 29 rfl))) (mvT hZ (W 29 rfl)) (mvT hZ (W 28 rfl)) (by decide) (backOf (W := 0) (rm4c0 l Z a0 hw [] b1025 bs bl br ks kl kr c0 (65536 : Int64) st (0 : Int64) T1028.heap n0 zs1034 LIi1028) hZ (W 30 rfl) (W 3 rfl) (by decide) (by decide)) q1033a q1033c (g := (mkF m 79 #[.val (.long st), .second, .val (.long c0), .second, .val (.long c1), .second, .val (.long c2), .second, .val (.long hgh), .second, iv fl, .val (.long (65536 : Int64)), .second, .val (.long (65536 : Int64)), .second, .val (.long (65536 : Int64)), .second, .val (.long l2), .second, iv (3 : Int32), rv b1025, .unset, .unset, .unset, .unset, .unset, .unset, .unset, .unset, .unset, .unset, .unset, .unset, .unset, .unset, .unset, .unset, .unset, .unset] [(.long (65536 : Int64)), (.long c0), (.ref b1025)])) rfl (by rw [hml]; rfl) (Steps.refl _) (argsL := [(.long c0), (.long (65536 : Int64))]) (rest := []) (lenOf pd169 rfl) rfl (by show 2 * 0 + _ ≤ _; exact Nat.le_of_eq rfl) (hb hby at_79) (fun _ _ => ⟨rfl, rfl, (by decide : 4 + 0 ≤ _), (by decide : 54 + 0 ≤ _)⟩)
  dsimp only [Pt.U, Pt.locs, Pt.cells, Pt.slots] at X1033 l1033 y1033 z1033 st1033 hQ1033
  subst l1033 y1033 z1033
  obtain ⟨lw1032, rfl, Nq1033, K1033, LIi1033⟩ := hQ1033
  have N1033 := Fr.app N1028 Nq1033
  have go1036 : own_S p e below ST T1033 (mkF m 82 #[.val (.long st), .second, .val (.long c0), .second, .val (.long c1), .second, .val (.long c2), .second, .val (.long hgh), .second, iv fl, .val (.long (65536 : Int64)), .second, .val (.long (65536 : Int64)), .second, .val (.long (65536 : Int64)), .second, .val (.long l2), .second, iv (3 : Int32), rv b1025, .unset, .unset, .unset, .unset, .unset, .unset, .unset, .unset, .unset, .unset, .unset, .unset, .unset, .unset, .unset, .unset, .unset, .unset] []) := fun tt kt => go1031 tt (st1033.trans kt)
  have go1037 : own_S p e below ST T1033 (mkF m 94 #[.val (.long st), .second, .val (.long c0), .second, .val (.long c1), .second, .val (.long c2), .second, .val (.long hgh), .second, iv fl, .val (.long (65536 : Int64)), .second, .val (.long (65536 : Int64)), .second, .val (.long (65536 : Int64)), .second, .val (.long l2), .second, iv (3 : Int32), rv b1025, .unset, .unset, .unset, .unset, .unset, .unset, .unset, .unset, .unset, .unset, .unset, .unset, .unset, .unset, .unset, .unset, .unset, .unset] [(.long (65536 : Int64)), (.long c1), (.ref b1025)]) := fun tt kt => go1036 tt (by
      refine XS.iload X1033.here hx rfl (hb hby at_82) rfl ?_
      refine XS.iconst X1033.here hx rfl (hb hby at_84) ?_
      refine XS.icmpNo X1033.here hx rfl (hb hby at_85) rfl (flt (by decide : ¬ ((3 : Int32) < (2 : Int32)))).1 ?_
      refine XS.aload X1033.here hx rfl (hb hby at_88) rfl rfl ?_
      refine XS.lload X1033.here hx rfl (hb hby at_90) rfl ?_
      refine XS.lload X1033.here hx rfl (hb hby at_92) rfl ?_
      exact kt)
  have hm1039 : ¬ (lcmpW ((st + (65536 : Int64)) - st) (65536 : Int64) < (0 : Int32)) := by rw [own_as]; decide
  have zs1041 := (Nat.le_trans zs1034 K1033.1)
  obtain ⟨cq1040, kq1040, q1040a, q1040b, q1040c⟩ := isOf hZ rfl LIi1033.1
  obtain ⟨_, _, ⟨T1040, L1040, k1040, n1040⟩, -, X1040, ⟨Lc1040, hQ1040, l1040, y1040, z1040⟩, st1040⟩ := X1033.virtualBack hx (y := (⟨"com/example/altocommit/altocommit/store/LogIndex", "add", "(JJ)V"⟩ : MethodName)) (z := (⟨"com/example/altocommit/altocommit/store/LogIndex", "add", "(JJ)V"⟩ : MethodName)) hown (mvT hZ (W 26 rfl)) (mvT hZ (W 27 rfl)) (notFace_of_selects (args := #[]) (mvT hZ (W 29 rfl))) (mvT hZ (W 29 rfl)) (mvT hZ (W 28 rfl)) (by decide) (backOf (W := 0) (rm4c1 l Z a0 hw [] b1025 bs bl br ks kl kr c1 (65536 : Int64) (st + (65536 : Int64)) (own_maxJ (0 : Int64) c0) st lw1032 c0 T1033.heap n0 zs1041 LIi1033 hm1039) hZ (W 30 rfl) (W 3 rfl) (by decide) (by decide)) q1040a q1040c (g := (mkF m 94 #[.val (.long st), .second, .val (.long c0), .second, .val (.long c1), .second, .val (.long c2), .second, .val (.long hgh), .second, iv fl, .val (.long (65536 : Int64)), .second, .val (.long (65536 : Int64)), .second, .val (.long (65536 : Int64)), .second, .val (.long l2), .second, iv (3 : Int32), rv b1025, .unset, .unset, .unset, .unset, .unset, .unset, .unset, .unset, .unset, .unset, .unset, .unset, .unset, .unset, .unset, .unset, .unset, .unset] [(.long (65536 : Int64)), (.long c1), (.ref b1025)])) rfl (by rw [hml]; rfl) (Steps.refl _) (argsL := [(.long c1), (.long (65536 : Int64))]) (rest := []) (lenOf pd169 rfl) rfl (by show 2 * 0 + _ ≤ _; exact Nat.le_of_eq rfl) (hb hby at_94) (fun _ _ => ⟨rfl, rfl, (by decide : 4 + 0 ≤ _), (by decide : 54 + 0 ≤ _)⟩)
  dsimp only [Pt.U, Pt.locs, Pt.cells, Pt.slots] at X1040 l1040 y1040 z1040 st1040 hQ1040
  subst l1040 y1040 z1040
  obtain ⟨lw1038, rfl, Nq1040, K1040, LIi1040⟩ := hQ1040
  have N1040 := Fr.app N1033 Nq1040
  have go1042 : own_S p e below ST T1040 (mkF m 97 #[.val (.long st), .second, .val (.long c0), .second, .val (.long c1), .second, .val (.long c2), .second, .val (.long hgh), .second, iv fl, .val (.long (65536 : Int64)), .second, .val (.long (65536 : Int64)), .second, .val (.long (65536 : Int64)), .second, .val (.long l2), .second, iv (3 : Int32), rv b1025, .unset, .unset, .unset, .unset, .unset, .unset, .unset, .unset, .unset, .unset, .unset, .unset, .unset, .unset, .unset, .unset, .unset, .unset] []) := fun tt kt => go1037 tt (st1040.trans kt)
  have go1043 : own_S p e below ST T1040 (mkF m 109 #[.val (.long st), .second, .val (.long c0), .second, .val (.long c1), .second, .val (.long c2), .second, .val (.long hgh), .second, iv fl, .val (.long (65536 : Int64)), .second, .val (.long (65536 : Int64)), .second, .val (.long (65536 : Int64)), .second, .val (.long l2), .second, iv (3 : Int32), rv b1025, .unset, .unset, .unset, .unset, .unset, .unset, .unset, .unset, .unset, .unset, .unset, .unset, .unset, .unset, .unset, .unset, .unset, .unset] [(.long l2), (.long c2), (.ref b1025)]) := fun tt kt => go1042 tt (by
      refine XS.iload X1040.here hx rfl (hb hby at_97) rfl ?_
      refine XS.iconst X1040.here hx rfl (hb hby at_99) ?_
      refine XS.icmpNo X1040.here hx rfl (hb hby at_100) rfl (flt (by decide : ¬ ((3 : Int32) < (3 : Int32)))).1 ?_
      refine XS.aload X1040.here hx rfl (hb hby at_103) rfl rfl ?_
      refine XS.lload X1040.here hx rfl (hb hby at_105) rfl ?_
      refine XS.lload X1040.here hx rfl (hb hby at_107) rfl ?_
      exact kt)
  have hm1045 : ¬ (lcmpW (((st + (65536 : Int64)) + (65536 : Int64)) - (st + (65536 : Int64))) (65536 : Int64) < (0 : Int32)) := by rw [own_as]; decide
  have zs1047 := (Nat.le_trans zs1041 K1040.1)
  obtain ⟨cq1046, kq1046, q1046a, q1046b, q1046c⟩ := isOf hZ rfl LIi1040.1
  obtain ⟨_, _, ⟨T1046, L1046, k1046, n1046⟩, -, X1046, ⟨Lc1046, hQ1046, l1046, y1046, z1046⟩, st1046⟩ := X1040.virtualBack hx (y := (⟨"com/example/altocommit/altocommit/store/LogIndex", "add", "(JJ)V"⟩ : MethodName)) (z := (⟨"com/example/altocommit/altocommit/store/LogIndex", "add", "(JJ)V"⟩ : MethodName)) hown (mvT hZ (W 26 rfl)) (mvT hZ (W 27 rfl)) (notFace_of_selects (args := #[]) (mvT hZ (W 29 rfl))) (mvT hZ (W 29 rfl)) (mvT hZ (W 28 rfl)) (by decide) (backOf (W := 0) (rm4c2 l Z a0 hw [] b1025 bs bl br ks kl kr c2 l2 ((st + (65536 : Int64)) + (65536 : Int64)) (own_maxJ (own_maxJ (0 : Int64) c0) c1) st (st + (65536 : Int64)) lw1032 lw1038 c0 (own_maxJ c0 c1) T1040.heap n0 zs1047 LIi1040 hm1045) hZ (W 30 rfl) (W 3 rfl) (by decide) (by decide)) q1046a q1046c (g := (mkF m 109 #[.val (.long st), .second, .val (.long c0), .second, .val (.long c1), .second, .val (.long c2), .second, .val (.long hgh), .second, iv fl, .val (.long (65536 : Int64)), .second, .val (.long (65536 : Int64)), .second, .val (.long (65536 : Int64)), .second, .val (.long l2), .second, iv (3 : Int32), rv b1025, .unset, .unset, .unset, .unset, .unset, .unset, .unset, .unset, .unset, .unset, .unset, .unset, .unset, .unset, .unset, .unset, .unset, .unset] [(.long l2), (.long c2), (.ref b1025)])) rfl (by rw [hml]; rfl) (Steps.refl _) (argsL := [(.long c2), (.long l2)]) (rest := []) (lenOf pd169 rfl) rfl (by show 2 * 0 + _ ≤ _; exact Nat.le_of_eq rfl) (hb hby at_109) (fun _ _ => ⟨rfl, rfl, (by decide : 4 + 0 ≤ _), (by decide : 54 + 0 ≤ _)⟩)
  dsimp only [Pt.U, Pt.locs, Pt.cells, Pt.slots] at X1046 l1046 y1046 z1046 st1046 hQ1046
  subst l1046 y1046 z1046
  obtain ⟨lw1044, rfl, Nq1046, K1046, LIi1046⟩ := hQ1046
  have N1046 := Fr.app N1040 Nq1046
  have go1048 : own_S p e below ST T1046 (mkF m 112 #[.val (.long st), .second, .val (.long c0), .second, .val (.long c1), .second, .val (.long c2), .second, .val (.long hgh), .second, iv fl, .val (.long (65536 : Int64)), .second, .val (.long (65536 : Int64)), .second, .val (.long (65536 : Int64)), .second, .val (.long l2), .second, iv (3 : Int32), rv b1025, .unset, .unset, .unset, .unset, .unset, .unset, .unset, .unset, .unset, .unset, .unset, .unset, .unset, .unset, .unset, .unset, .unset, .unset] []) := fun tt kt => go1043 tt (st1046.trans kt)
  have go1049 : own_S p e below ST T1046 (mkF m 116 #[.val (.long st), .second, .val (.long c0), .second, .val (.long c1), .second, .val (.long c2), .second, .val (.long hgh), .second, iv fl, .val (.long (65536 : Int64)), .second, .val (.long (65536 : Int64)), .second, .val (.long (65536 : Int64)), .second, .val (.long l2), .second, iv (3 : Int32), rv b1025, .unset, .unset, .unset, .unset, .unset, .unset, .unset, .unset, .unset, .unset, .unset, .unset, .unset, .unset, .unset, .unset, .unset, .unset] [(.long hgh), (.ref b1025)]) := fun tt kt => go1048 tt (by
      refine XS.aload X1046.here hx rfl (hb hby at_112) rfl rfl ?_
      refine XS.lload X1046.here hx rfl (hb hby at_114) rfl ?_
      exact kt)
  have zs1051 := (Nat.le_trans zs1047 K1046.1)
  obtain ⟨cq1050, kq1050, q1050a, q1050b, q1050c⟩ := isOf hZ rfl LIi1046.1
  obtain ⟨_, _, ⟨T1050, L1050, k1050, n1050⟩, -, X1050, ⟨Lc1050, hQ1050, l1050, y1050, z1050⟩, st1050⟩ := X1046.virtualBack hx (y := (⟨"com/example/altocommit/altocommit/store/LogIndex", "allAtOrBelowUpTo", "(J)J"⟩ : MethodName)) (z := (⟨"com/example/altocommit/altocommit/store/LogIndex", "allAtOrBelowUpTo", "(J)J"⟩ : MethodName)) hown (mvT hZ (W 19 rfl)) (mvT hZ (W 20 rfl)) (notFace_of_selects (args := #[]) (mvT hZ (W 22 rfl))) (mvT hZ (W 22 rfl)) (mvT hZ (W 21 rfl)) (by decide) (backOf (W := 0) (rm3c3 l Z a0 hw [] b1025 bs bl br ks kl kr hgh (((st + (65536 : Int64)) + (65536 : Int64)) + l2) (own_maxJ (own_maxJ (own_maxJ (0 : Int64) c0) c1) c2) st (st + (65536 : Int64)) ((st + (65536 : Int64)) + (65536 : Int64)) lw1032 lw1038 lw1044 c0 (own_maxJ c0 c1) (own_maxJ (own_maxJ c0 c1) c2) T1046.heap n0 zs1051 LIi1046) hZ (W 23 rfl) (W 3 rfl) (by decide) (by decide)) q1050a q1050c (g := (mkF m 116 #[.val (.long st), .second, .val (.long c0), .second, .val (.long c1), .second, .val (.long c2), .second, .val (.long hgh), .second, iv fl, .val (.long (65536 : Int64)), .second, .val (.long (65536 : Int64)), .second, .val (.long (65536 : Int64)), .second, .val (.long l2), .second, iv (3 : Int32), rv b1025, .unset, .unset, .unset, .unset, .unset, .unset, .unset, .unset, .unset, .unset, .unset, .unset, .unset, .unset, .unset, .unset, .unset, .unset] [(.long hgh), (.ref b1025)])) rfl (by rw [hml]; rfl) (Steps.refl _) (argsL := [(.long hgh)]) (rest := []) (lenOf pd168 rfl) rfl (by show 2 * 0 + _ ≤ _; exact Nat.le_of_eq rfl) (hb hby at_116) (fun _ _ => ⟨rfl, rfl, (by decide : 4 + 0 ≤ _), (by decide : 54 + 0 ≤ _)⟩)
  dsimp only [Pt.U, Pt.locs, Pt.cells, Pt.slots] at X1050 l1050 y1050 z1050 st1050 hQ1050
  subst l1050 y1050 z1050
  obtain ⟨rfl, Nq1050, eh1050⟩ := hQ1050
  have N1050 := Fr.app N1046 Nq1050
  have go1052 : own_S p e below ST T1050 (mkF m 119 #[.val (.long st), .second, .val (.long c0), .second, .val (.long c1), .second, .val (.long c2), .second, .val (.long hgh), .second, iv fl, .val (.long (65536 : Int64)), .second, .val (.long (65536 : Int64)), .second, .val (.long (65536 : Int64)), .second, .val (.long l2), .second, iv (3 : Int32), rv b1025, .unset, .unset, .unset, .unset, .unset, .unset, .unset, .unset, .unset, .unset, .unset, .unset, .unset, .unset, .unset, .unset, .unset, .unset] [(.long (if (0 : Int32) < lcmpW c0 hgh then st else (if (0 : Int32) < lcmpW (own_maxJ c0 c1) hgh then (st + (65536 : Int64)) else (if (0 : Int32) < lcmpW (own_maxJ (own_maxJ c0 c1) c2) hgh then ((st + (65536 : Int64)) + (65536 : Int64)) else (((st + (65536 : Int64)) + (65536 : Int64)) + l2)))))]) := fun tt kt => go1049 tt (st1050.trans kt)
  obtain ⟨got, hgot⟩ : ∃ z : Int64, z = (if (0 : Int32) < lcmpW c0 hgh then st else (if (0 : Int32) < lcmpW (own_maxJ c0 c1) hgh then (st + (65536 : Int64)) else (if (0 : Int32) < lcmpW (own_maxJ (own_maxJ c0 c1) c2) hgh then ((st + (65536 : Int64)) + (65536 : Int64)) else (((st + (65536 : Int64)) + (65536 : Int64)) + l2)))) := ⟨_, rfl⟩
  rw [← hgot] at go1052
  have go1053 : own_S p e below ST T1050 (mkF m 222 #[.val (.long st), .second, .val (.long c0), .second, .val (.long c1), .second, .val (.long c2), .second, .val (.long hgh), .second, iv fl, .val (.long (65536 : Int64)), .second, .val (.long (65536 : Int64)), .second, .val (.long (65536 : Int64)), .second, .val (.long l2), .second, iv (3 : Int32), rv b1025, .val (.long got), .second, .val (.long st), .second, .val (.long (st + (65536 : Int64))), .second, .val (.long ((st + (65536 : Int64)) + (65536 : Int64))), .second, .val (.long (((st + (65536 : Int64)) + (65536 : Int64)) + l2)), .second, .val (.long st), .second, .val (.long (st + (65536 : Int64))), .second, .val (.long ((st + (65536 : Int64)) + (65536 : Int64))), .second, .unset, .unset] [(.int (lcmpW c0 hgh))]) := fun tt kt => go1052 tt (by
      refine XS.lstore X1050.here hx rfl (hb hby at_119) rfl (l' := #[.val (.long st), .second, .val (.long c0), .second, .val (.long c1), .second, .val (.long c2), .second, .val (.long hgh), .second, iv fl, .val (.long (65536 : Int64)), .second, .val (.long (65536 : Int64)), .second, .val (.long (65536 : Int64)), .second, .val (.long l2), .second, iv (3 : Int32), rv b1025, .val (.long got), .second, .unset, .unset, .unset, .unset, .unset, .unset, .unset, .unset, .unset, .unset, .unset, .unset, .unset, .unset, .unset, .unset]) rfl ?_
      refine XS.lloadN X1050.here hx rfl (hb hby at_121) rfl ?_
      refine XS.lstore X1050.here hx rfl (hb hby at_122) rfl (l' := #[.val (.long st), .second, .val (.long c0), .second, .val (.long c1), .second, .val (.long c2), .second, .val (.long hgh), .second, iv fl, .val (.long (65536 : Int64)), .second, .val (.long (65536 : Int64)), .second, .val (.long (65536 : Int64)), .second, .val (.long l2), .second, iv (3 : Int32), rv b1025, .val (.long got), .second, .val (.long st), .second, .unset, .unset, .unset, .unset, .unset, .unset, .unset, .unset, .unset, .unset, .unset, .unset, .unset, .unset]) rfl ?_
      refine XS.lload X1050.here hx rfl (hb hby at_124) rfl ?_
      refine XS.lload X1050.here hx rfl (hb hby at_126) rfl ?_
      refine XS.ladd X1050.here hx rfl (hb hby at_128) rfl ?_
      show Steps p.tables e below (T1050.setTop (mkF m 129 #[.val (.long st), .second, .val (.long c0), .second, .val (.long c1), .second, .val (.long c2), .second, .val (.long hgh), .second, iv fl, .val (.long (65536 : Int64)), .second, .val (.long (65536 : Int64)), .second, .val (.long (65536 : Int64)), .second, .val (.long l2), .second, iv (3 : Int32), rv b1025, .val (.long got), .second, .val (.long st), .second, .unset, .unset, .unset, .unset, .unset, .unset, .unset, .unset, .unset, .unset, .unset, .unset, .unset, .unset] [(.long (st + (65536 : Int64)))])) _
      refine XS.lstore X1050.here hx rfl (hb hby at_129) rfl (l' := #[.val (.long st), .second, .val (.long c0), .second, .val (.long c1), .second, .val (.long c2), .second, .val (.long hgh), .second, iv fl, .val (.long (65536 : Int64)), .second, .val (.long (65536 : Int64)), .second, .val (.long (65536 : Int64)), .second, .val (.long l2), .second, iv (3 : Int32), rv b1025, .val (.long got), .second, .val (.long st), .second, .val (.long (st + (65536 : Int64))), .second, .unset, .unset, .unset, .unset, .unset, .unset, .unset, .unset, .unset, .unset, .unset, .unset]) rfl ?_
      refine XS.lload X1050.here hx rfl (hb hby at_131) rfl ?_
      refine XS.lload X1050.here hx rfl (hb hby at_133) rfl ?_
      refine XS.ladd X1050.here hx rfl (hb hby at_135) rfl ?_
      refine XS.lstore X1050.here hx rfl (hb hby at_136) rfl (l' := #[.val (.long st), .second, .val (.long c0), .second, .val (.long c1), .second, .val (.long c2), .second, .val (.long hgh), .second, iv fl, .val (.long (65536 : Int64)), .second, .val (.long (65536 : Int64)), .second, .val (.long (65536 : Int64)), .second, .val (.long l2), .second, iv (3 : Int32), rv b1025, .val (.long got), .second, .val (.long st), .second, .val (.long (st + (65536 : Int64))), .second, .val (.long ((st + (65536 : Int64)) + (65536 : Int64))), .second, .unset, .unset, .unset, .unset, .unset, .unset, .unset, .unset, .unset, .unset]) rfl ?_
      refine XS.lloadN X1050.here hx rfl (hb hby at_138) rfl ?_
      show Steps p.tables e below (T1050.setTop (mkF m 139 #[.val (.long st), .second, .val (.long c0), .second, .val (.long c1), .second, .val (.long c2), .second, .val (.long hgh), .second, iv fl, .val (.long (65536 : Int64)), .second, .val (.long (65536 : Int64)), .second, .val (.long (65536 : Int64)), .second, .val (.long l2), .second, iv (3 : Int32), rv b1025, .val (.long got), .second, .val (.long st), .second, .val (.long (st + (65536 : Int64))), .second, .val (.long ((st + (65536 : Int64)) + (65536 : Int64))), .second, .unset, .unset, .unset, .unset, .unset, .unset, .unset, .unset, .unset, .unset] [(.long st)])) _
      refine XS.lstore X1050.here hx rfl (hb hby at_139) rfl (l' := #[.val (.long st), .second, .val (.long c0), .second, .val (.long c1), .second, .val (.long c2), .second, .val (.long hgh), .second, iv fl, .val (.long (65536 : Int64)), .second, .val (.long (65536 : Int64)), .second, .val (.long (65536 : Int64)), .second, .val (.long l2), .second, iv (3 : Int32), rv b1025, .val (.long got), .second, .val (.long st), .second, .val (.long (st + (65536 : Int64))), .second, .val (.long ((st + (65536 : Int64)) + (65536 : Int64))), .second, .val (.long st), .second, .unset, .unset, .unset, .unset, .unset, .unset, .unset, .unset]) rfl ?_
      refine XS.iload X1050.here hx rfl (hb hby at_141) rfl ?_
      refine XS.iconst X1050.here hx rfl (hb hby at_143) ?_
      refine XS.icmpNo X1050.here hx rfl (hb hby at_144) rfl (flt (by decide : ¬ ((3 : Int32) < (1 : Int32)))).1 ?_
      refine XS.lload X1050.here hx rfl (hb hby at_147) rfl ?_
      refine XS.lstore X1050.here hx rfl (hb hby at_149) rfl (l' := #[.val (.long st), .second, .val (.long c0), .second, .val (.long c1), .second, .val (.long c2), .second, .val (.long hgh), .second, iv fl, .val (.long (65536 : Int64)), .second, .val (.long (65536 : Int64)), .second, .val (.long (65536 : Int64)), .second, .val (.long l2), .second, iv (3 : Int32), rv b1025, .val (.long got), .second, .val (.long st), .second, .val (.long (st + (65536 : Int64))), .second, .val (.long ((st + (65536 : Int64)) + (65536 : Int64))), .second, .val (.long (st + (65536 : Int64))), .second, .unset, .unset, .unset, .unset, .unset, .unset, .unset, .unset]) rfl ?_
      show Steps p.tables e below (T1050.setTop (mkF m 151 #[.val (.long st), .second, .val (.long c0), .second, .val (.long c1), .second, .val (.long c2), .second, .val (.long hgh), .second, iv fl, .val (.long (65536 : Int64)), .second, .val (.long (65536 : Int64)), .second, .val (.long (65536 : Int64)), .second, .val (.long l2), .second, iv (3 : Int32), rv b1025, .val (.long got), .second, .val (.long st), .second, .val (.long (st + (65536 : Int64))), .second, .val (.long ((st + (65536 : Int64)) + (65536 : Int64))), .second, .val (.long (st + (65536 : Int64))), .second, .unset, .unset, .unset, .unset, .unset, .unset, .unset, .unset] [])) _
      refine XS.iload X1050.here hx rfl (hb hby at_151) rfl ?_
      refine XS.iconst X1050.here hx rfl (hb hby at_153) ?_
      refine XS.icmpNo X1050.here hx rfl (hb hby at_154) rfl (flt (by decide : ¬ ((3 : Int32) < (2 : Int32)))).1 ?_
      refine XS.lload X1050.here hx rfl (hb hby at_157) rfl ?_
      refine XS.lstore X1050.here hx rfl (hb hby at_159) rfl (l' := #[.val (.long st), .second, .val (.long c0), .second, .val (.long c1), .second, .val (.long c2), .second, .val (.long hgh), .second, iv fl, .val (.long (65536 : Int64)), .second, .val (.long (65536 : Int64)), .second, .val (.long (65536 : Int64)), .second, .val (.long l2), .second, iv (3 : Int32), rv b1025, .val (.long got), .second, .val (.long st), .second, .val (.long (st + (65536 : Int64))), .second, .val (.long ((st + (65536 : Int64)) + (65536 : Int64))), .second, .val (.long ((st + (65536 : Int64)) + (65536 : Int64))), .second, .unset, .unset, .unset, .unset, .unset, .unset, .unset, .unset]) rfl ?_
      refine XS.iload X1050.here hx rfl (hb hby at_161) rfl ?_
      show Steps p.tables e below (T1050.setTop (mkF m 163 #[.val (.long st), .second, .val (.long c0), .second, .val (.long c1), .second, .val (.long c2), .second, .val (.long hgh), .second, iv fl, .val (.long (65536 : Int64)), .second, .val (.long (65536 : Int64)), .second, .val (.long (65536 : Int64)), .second, .val (.long l2), .second, iv (3 : Int32), rv b1025, .val (.long got), .second, .val (.long st), .second, .val (.long (st + (65536 : Int64))), .second, .val (.long ((st + (65536 : Int64)) + (65536 : Int64))), .second, .val (.long ((st + (65536 : Int64)) + (65536 : Int64))), .second, .unset, .unset, .unset, .unset, .unset, .unset, .unset, .unset] [(.int (3 : Int32))])) _
      refine XS.iconst X1050.here hx rfl (hb hby at_163) ?_
      refine XS.icmpNo X1050.here hx rfl (hb hby at_164) rfl (flt (by decide : ¬ ((3 : Int32) < (3 : Int32)))).1 ?_
      refine XS.lload X1050.here hx rfl (hb hby at_167) rfl ?_
      refine XS.lload X1050.here hx rfl (hb hby at_169) rfl ?_
      refine XS.ladd X1050.here hx rfl (hb hby at_171) rfl ?_
      refine XS.lstore X1050.here hx rfl (hb hby at_172) rfl (l' := #[.val (.long st), .second, .val (.long c0), .second, .val (.long c1), .second, .val (.long c2), .second, .val (.long hgh), .second, iv fl, .val (.long (65536 : Int64)), .second, .val (.long (65536 : Int64)), .second, .val (.long (65536 : Int64)), .second, .val (.long l2), .second, iv (3 : Int32), rv b1025, .val (.long got), .second, .val (.long st), .second, .val (.long (st + (65536 : Int64))), .second, .val (.long ((st + (65536 : Int64)) + (65536 : Int64))), .second, .val (.long (((st + (65536 : Int64)) + (65536 : Int64)) + l2)), .second, .unset, .unset, .unset, .unset, .unset, .unset, .unset, .unset]) rfl ?_
      show Steps p.tables e below (T1050.setTop (mkF m 174 #[.val (.long st), .second, .val (.long c0), .second, .val (.long c1), .second, .val (.long c2), .second, .val (.long hgh), .second, iv fl, .val (.long (65536 : Int64)), .second, .val (.long (65536 : Int64)), .second, .val (.long (65536 : Int64)), .second, .val (.long l2), .second, iv (3 : Int32), rv b1025, .val (.long got), .second, .val (.long st), .second, .val (.long (st + (65536 : Int64))), .second, .val (.long ((st + (65536 : Int64)) + (65536 : Int64))), .second, .val (.long (((st + (65536 : Int64)) + (65536 : Int64)) + l2)), .second, .unset, .unset, .unset, .unset, .unset, .unset, .unset, .unset] [])) _
      refine XS.lload X1050.here hx rfl (hb hby at_174) rfl ?_
      refine XS.lstore X1050.here hx rfl (hb hby at_176) rfl (l' := #[.val (.long st), .second, .val (.long c0), .second, .val (.long c1), .second, .val (.long c2), .second, .val (.long hgh), .second, iv fl, .val (.long (65536 : Int64)), .second, .val (.long (65536 : Int64)), .second, .val (.long (65536 : Int64)), .second, .val (.long l2), .second, iv (3 : Int32), rv b1025, .val (.long got), .second, .val (.long st), .second, .val (.long (st + (65536 : Int64))), .second, .val (.long ((st + (65536 : Int64)) + (65536 : Int64))), .second, .val (.long (((st + (65536 : Int64)) + (65536 : Int64)) + l2)), .second, .val (.long st), .second, .unset, .unset, .unset, .unset, .unset, .unset]) rfl ?_
      refine XS.lload X1050.here hx rfl (hb hby at_178) rfl ?_
      refine XS.lload X1050.here hx rfl (hb hby at_180) rfl ?_
      refine XS.lcmp X1050.here hx rfl (hb hby at_182) rfl ?_
      refine XS.ifNo X1050.here hx rfl (hb hby at_183) rfl ((if0 _ _).trans (teq (by decide : (lcmpW (65536 : Int64) (65536 : Int64)) = (0 : Int32))).2) ?_
      show Steps p.tables e below (T1050.setTop (mkF m 186 #[.val (.long st), .second, .val (.long c0), .second, .val (.long c1), .second, .val (.long c2), .second, .val (.long hgh), .second, iv fl, .val (.long (65536 : Int64)), .second, .val (.long (65536 : Int64)), .second, .val (.long (65536 : Int64)), .second, .val (.long l2), .second, iv (3 : Int32), rv b1025, .val (.long got), .second, .val (.long st), .second, .val (.long (st + (65536 : Int64))), .second, .val (.long ((st + (65536 : Int64)) + (65536 : Int64))), .second, .val (.long (((st + (65536 : Int64)) + (65536 : Int64)) + l2)), .second, .val (.long st), .second, .unset, .unset, .unset, .unset, .unset, .unset] [])) _
      refine XS.lload X1050.here hx rfl (hb hby at_186) rfl ?_
      refine XS.goto X1050.here hx rfl (pc0 := 188) (pc' := 193) rfl (hb hby at_188) (by decide) (by decide) ?_
      refine XS.lstore X1050.here hx rfl (hb hby at_193) rfl (l' := #[.val (.long st), .second, .val (.long c0), .second, .val (.long c1), .second, .val (.long c2), .second, .val (.long hgh), .second, iv fl, .val (.long (65536 : Int64)), .second, .val (.long (65536 : Int64)), .second, .val (.long (65536 : Int64)), .second, .val (.long l2), .second, iv (3 : Int32), rv b1025, .val (.long got), .second, .val (.long st), .second, .val (.long (st + (65536 : Int64))), .second, .val (.long ((st + (65536 : Int64)) + (65536 : Int64))), .second, .val (.long (((st + (65536 : Int64)) + (65536 : Int64)) + l2)), .second, .val (.long st), .second, .val (.long (st + (65536 : Int64))), .second, .unset, .unset, .unset, .unset]) rfl ?_
      refine XS.lload X1050.here hx rfl (hb hby at_195) rfl ?_
      refine XS.lload X1050.here hx rfl (hb hby at_197) rfl ?_
      refine XS.lcmp X1050.here hx rfl (hb hby at_199) rfl ?_
      show Steps p.tables e below (T1050.setTop (mkF m 200 #[.val (.long st), .second, .val (.long c0), .second, .val (.long c1), .second, .val (.long c2), .second, .val (.long hgh), .second, iv fl, .val (.long (65536 : Int64)), .second, .val (.long (65536 : Int64)), .second, .val (.long (65536 : Int64)), .second, .val (.long l2), .second, iv (3 : Int32), rv b1025, .val (.long got), .second, .val (.long st), .second, .val (.long (st + (65536 : Int64))), .second, .val (.long ((st + (65536 : Int64)) + (65536 : Int64))), .second, .val (.long (((st + (65536 : Int64)) + (65536 : Int64)) + l2)), .second, .val (.long st), .second, .val (.long (st + (65536 : Int64))), .second, .unset, .unset, .unset, .unset] [(.int (lcmpW (65536 : Int64) (65536 : Int64)))])) _
      refine XS.ifNo X1050.here hx rfl (hb hby at_200) rfl ((if0 _ _).trans (teq (by decide : (lcmpW (65536 : Int64) (65536 : Int64)) = (0 : Int32))).2) ?_
      refine XS.lload X1050.here hx rfl (hb hby at_203) rfl ?_
      refine XS.goto X1050.here hx rfl (pc0 := 205) (pc' := 210) rfl (hb hby at_205) (by decide) (by decide) ?_
      refine XS.lstore X1050.here hx rfl (hb hby at_210) rfl (l' := #[.val (.long st), .second, .val (.long c0), .second, .val (.long c1), .second, .val (.long c2), .second, .val (.long hgh), .second, iv fl, .val (.long (65536 : Int64)), .second, .val (.long (65536 : Int64)), .second, .val (.long (65536 : Int64)), .second, .val (.long l2), .second, iv (3 : Int32), rv b1025, .val (.long got), .second, .val (.long st), .second, .val (.long (st + (65536 : Int64))), .second, .val (.long ((st + (65536 : Int64)) + (65536 : Int64))), .second, .val (.long (((st + (65536 : Int64)) + (65536 : Int64)) + l2)), .second, .val (.long st), .second, .val (.long (st + (65536 : Int64))), .second, .val (.long ((st + (65536 : Int64)) + (65536 : Int64))), .second, .unset, .unset]) rfl ?_
      refine XS.iload X1050.here hx rfl (hb hby at_212) rfl ?_
      refine XS.iconst X1050.here hx rfl (hb hby at_214) ?_
      show Steps p.tables e below (T1050.setTop (mkF m 215 #[.val (.long st), .second, .val (.long c0), .second, .val (.long c1), .second, .val (.long c2), .second, .val (.long hgh), .second, iv fl, .val (.long (65536 : Int64)), .second, .val (.long (65536 : Int64)), .second, .val (.long (65536 : Int64)), .second, .val (.long l2), .second, iv (3 : Int32), rv b1025, .val (.long got), .second, .val (.long st), .second, .val (.long (st + (65536 : Int64))), .second, .val (.long ((st + (65536 : Int64)) + (65536 : Int64))), .second, .val (.long (((st + (65536 : Int64)) + (65536 : Int64)) + l2)), .second, .val (.long st), .second, .val (.long (st + (65536 : Int64))), .second, .val (.long ((st + (65536 : Int64)) + (65536 : Int64))), .second, .unset, .unset] [(.int (1 : Int32)), (.int (3 : Int32))])) _
      refine XS.icmpNo X1050.here hx rfl (hb hby at_215) rfl (flt (by decide : ¬ ((3 : Int32) < (1 : Int32)))).1 ?_
      refine XS.lloadN X1050.here hx rfl (hb hby at_218) rfl ?_
      refine XS.lload X1050.here hx rfl (hb hby at_219) rfl ?_
      refine XS.lcmp X1050.here hx rfl (hb hby at_221) rfl ?_
      exact kt)
  obtain ⟨ex, hex, sg1054⟩ : ∃ (ex : Int64), ex = (if (0 : Int32) < (lcmpW c0 hgh) then st else (if (0 : Int32) < (lcmpW c1 hgh) then (st + (65536 : Int64)) else (if (0 : Int32) < (lcmpW c2 hgh) then ((st + (65536 : Int64)) + (65536 : Int64)) else (((st + (65536 : Int64)) + (65536 : Int64)) + l2)))) ∧ ∀ tt, Steps p.tables e below (T1050.setTop (mkF m 278 #[.val (.long st), .second, .val (.long c0), .second, .val (.long c1), .second, .val (.long c2), .second, .val (.long hgh), .second, iv fl, .val (.long (65536 : Int64)), .second, .val (.long (65536 : Int64)), .second, .val (.long (65536 : Int64)), .second, .val (.long l2), .second, iv (3 : Int32), rv b1025, .val (.long got), .second, .val (.long st), .second, .val (.long (st + (65536 : Int64))), .second, .val (.long ((st + (65536 : Int64)) + (65536 : Int64))), .second, .val (.long (((st + (65536 : Int64)) + (65536 : Int64)) + l2)), .second, .val (.long st), .second, .val (.long (st + (65536 : Int64))), .second, .val (.long ((st + (65536 : Int64)) + (65536 : Int64))), .second, .val (.long ex), .second] [])) tt → Steps p.tables e below (T1050.setTop (mkF m 222 #[.val (.long st), .second, .val (.long c0), .second, .val (.long c1), .second, .val (.long c2), .second, .val (.long hgh), .second, iv fl, .val (.long (65536 : Int64)), .second, .val (.long (65536 : Int64)), .second, .val (.long (65536 : Int64)), .second, .val (.long l2), .second, iv (3 : Int32), rv b1025, .val (.long got), .second, .val (.long st), .second, .val (.long (st + (65536 : Int64))), .second, .val (.long ((st + (65536 : Int64)) + (65536 : Int64))), .second, .val (.long (((st + (65536 : Int64)) + (65536 : Int64)) + l2)), .second, .val (.long st), .second, .val (.long (st + (65536 : Int64))), .second, .val (.long ((st + (65536 : Int64)) + (65536 : Int64))), .second, .unset, .unset] [(.int (lcmpW c0 hgh))])) tt := by
    by_cases hd222_0 : (0 : Int32) < (lcmpW c0 hgh)
    · refine ⟨_, (if_pos hd222_0).symm, fun tt kt => ?_⟩
      show Steps p.tables e below (T1050.setTop (mkF m 222 #[.val (.long st), .second, .val (.long c0), .second, .val (.long c1), .second, .val (.long c2), .second, .val (.long hgh), .second, iv fl, .val (.long (65536 : Int64)), .second, .val (.long (65536 : Int64)), .second, .val (.long (65536 : Int64)), .second, .val (.long l2), .second, iv (3 : Int32), rv b1025, .val (.long got), .second, .val (.long st), .second, .val (.long (st + (65536 : Int64))), .second, .val (.long ((st + (65536 : Int64)) + (65536 : Int64))), .second, .val (.long (((st + (65536 : Int64)) + (65536 : Int64)) + l2)), .second, .val (.long st), .second, .val (.long (st + (65536 : Int64))), .second, .val (.long ((st + (65536 : Int64)) + (65536 : Int64))), .second, .unset, .unset] [(.int (lcmpW c0 hgh))])) _
      refine XS.ifNo X1050.here hx rfl (hb hby at_222) rfl ((if0 _ _).trans (tlt hd222_0).2.2.2) ?_
      refine XS.lload X1050.here hx rfl (hb hby at_225) rfl ?_
      refine XS.lstore X1050.here hx rfl (hb hby at_227) rfl (l' := #[.val (.long st), .second, .val (.long c0), .second, .val (.long c1), .second, .val (.long c2), .second, .val (.long hgh), .second, iv fl, .val (.long (65536 : Int64)), .second, .val (.long (65536 : Int64)), .second, .val (.long (65536 : Int64)), .second, .val (.long l2), .second, iv (3 : Int32), rv b1025, .val (.long got), .second, .val (.long st), .second, .val (.long (st + (65536 : Int64))), .second, .val (.long ((st + (65536 : Int64)) + (65536 : Int64))), .second, .val (.long (((st + (65536 : Int64)) + (65536 : Int64)) + l2)), .second, .val (.long st), .second, .val (.long (st + (65536 : Int64))), .second, .val (.long ((st + (65536 : Int64)) + (65536 : Int64))), .second, .val (.long st), .second]) rfl ?_
      refine XS.goto X1050.here hx rfl (pc0 := 229) (pc' := 278) rfl (hb hby at_229) (by decide) (by decide) ?_
      exact kt
    · by_cases hd243_1 : (0 : Int32) < (lcmpW c1 hgh)
      · refine ⟨_, ((if_neg hd222_0).trans (if_pos hd243_1)).symm, fun tt kt => ?_⟩
        show Steps p.tables e below (T1050.setTop (mkF m 222 #[.val (.long st), .second, .val (.long c0), .second, .val (.long c1), .second, .val (.long c2), .second, .val (.long hgh), .second, iv fl, .val (.long (65536 : Int64)), .second, .val (.long (65536 : Int64)), .second, .val (.long (65536 : Int64)), .second, .val (.long l2), .second, iv (3 : Int32), rv b1025, .val (.long got), .second, .val (.long st), .second, .val (.long (st + (65536 : Int64))), .second, .val (.long ((st + (65536 : Int64)) + (65536 : Int64))), .second, .val (.long (((st + (65536 : Int64)) + (65536 : Int64)) + l2)), .second, .val (.long st), .second, .val (.long (st + (65536 : Int64))), .second, .val (.long ((st + (65536 : Int64)) + (65536 : Int64))), .second, .unset, .unset] [(.int (lcmpW c0 hgh))])) _
        refine XS.ifYes X1050.here hx rfl (pc0 := 222) (pc' := 232) rfl (hb hby at_222) rfl ((if0 _ _).trans (flt hd222_0).2.2.2) (by decide) (by decide) ?_
        refine XS.iload X1050.here hx rfl (hb hby at_232) rfl ?_
        refine XS.iconst X1050.here hx rfl (hb hby at_234) ?_
        refine XS.icmpNo X1050.here hx rfl (hb hby at_235) rfl (flt (by decide : ¬ ((3 : Int32) < (2 : Int32)))).1 ?_
        refine XS.lload X1050.here hx rfl (hb hby at_238) rfl ?_
        refine XS.lload X1050.here hx rfl (hb hby at_240) rfl ?_
        show Steps p.tables e below (T1050.setTop (mkF m 242 #[.val (.long st), .second, .val (.long c0), .second, .val (.long c1), .second, .val (.long c2), .second, .val (.long hgh), .second, iv fl, .val (.long (65536 : Int64)), .second, .val (.long (65536 : Int64)), .second, .val (.long (65536 : Int64)), .second, .val (.long l2), .second, iv (3 : Int32), rv b1025, .val (.long got), .second, .val (.long st), .second, .val (.long (st + (65536 : Int64))), .second, .val (.long ((st + (65536 : Int64)) + (65536 : Int64))), .second, .val (.long (((st + (65536 : Int64)) + (65536 : Int64)) + l2)), .second, .val (.long st), .second, .val (.long (st + (65536 : Int64))), .second, .val (.long ((st + (65536 : Int64)) + (65536 : Int64))), .second, .unset, .unset] [(.long hgh), (.long c1)])) _
        refine XS.lcmp X1050.here hx rfl (hb hby at_242) rfl ?_
        refine XS.ifNo X1050.here hx rfl (hb hby at_243) rfl ((if0 _ _).trans (tlt hd243_1).2.2.2) ?_
        refine XS.lload X1050.here hx rfl (hb hby at_246) rfl ?_
        refine XS.lstore X1050.here hx rfl (hb hby at_248) rfl (l' := #[.val (.long st), .second, .val (.long c0), .second, .val (.long c1), .second, .val (.long c2), .second, .val (.long hgh), .second, iv fl, .val (.long (65536 : Int64)), .second, .val (.long (65536 : Int64)), .second, .val (.long (65536 : Int64)), .second, .val (.long l2), .second, iv (3 : Int32), rv b1025, .val (.long got), .second, .val (.long st), .second, .val (.long (st + (65536 : Int64))), .second, .val (.long ((st + (65536 : Int64)) + (65536 : Int64))), .second, .val (.long (((st + (65536 : Int64)) + (65536 : Int64)) + l2)), .second, .val (.long st), .second, .val (.long (st + (65536 : Int64))), .second, .val (.long ((st + (65536 : Int64)) + (65536 : Int64))), .second, .val (.long (st + (65536 : Int64))), .second]) rfl ?_
        refine XS.goto X1050.here hx rfl (pc0 := 250) (pc' := 278) rfl (hb hby at_250) (by decide) (by decide) ?_
        exact kt
      · by_cases hd264_2 : (0 : Int32) < (lcmpW c2 hgh)
        · refine ⟨_, (((if_neg hd222_0).trans (if_neg hd243_1)).trans (if_pos hd264_2)).symm, fun tt kt => ?_⟩
          show Steps p.tables e below (T1050.setTop (mkF m 222 #[.val (.long st), .second, .val (.long c0), .second, .val (.long c1), .second, .val (.long c2), .second, .val (.long hgh), .second, iv fl, .val (.long (65536 : Int64)), .second, .val (.long (65536 : Int64)), .second, .val (.long (65536 : Int64)), .second, .val (.long l2), .second, iv (3 : Int32), rv b1025, .val (.long got), .second, .val (.long st), .second, .val (.long (st + (65536 : Int64))), .second, .val (.long ((st + (65536 : Int64)) + (65536 : Int64))), .second, .val (.long (((st + (65536 : Int64)) + (65536 : Int64)) + l2)), .second, .val (.long st), .second, .val (.long (st + (65536 : Int64))), .second, .val (.long ((st + (65536 : Int64)) + (65536 : Int64))), .second, .unset, .unset] [(.int (lcmpW c0 hgh))])) _
          refine XS.ifYes X1050.here hx rfl (pc0 := 222) (pc' := 232) rfl (hb hby at_222) rfl ((if0 _ _).trans (flt hd222_0).2.2.2) (by decide) (by decide) ?_
          refine XS.iload X1050.here hx rfl (hb hby at_232) rfl ?_
          refine XS.iconst X1050.here hx rfl (hb hby at_234) ?_
          refine XS.icmpNo X1050.here hx rfl (hb hby at_235) rfl (flt (by decide : ¬ ((3 : Int32) < (2 : Int32)))).1 ?_
          refine XS.lload X1050.here hx rfl (hb hby at_238) rfl ?_
          refine XS.lload X1050.here hx rfl (hb hby at_240) rfl ?_
          show Steps p.tables e below (T1050.setTop (mkF m 242 #[.val (.long st), .second, .val (.long c0), .second, .val (.long c1), .second, .val (.long c2), .second, .val (.long hgh), .second, iv fl, .val (.long (65536 : Int64)), .second, .val (.long (65536 : Int64)), .second, .val (.long (65536 : Int64)), .second, .val (.long l2), .second, iv (3 : Int32), rv b1025, .val (.long got), .second, .val (.long st), .second, .val (.long (st + (65536 : Int64))), .second, .val (.long ((st + (65536 : Int64)) + (65536 : Int64))), .second, .val (.long (((st + (65536 : Int64)) + (65536 : Int64)) + l2)), .second, .val (.long st), .second, .val (.long (st + (65536 : Int64))), .second, .val (.long ((st + (65536 : Int64)) + (65536 : Int64))), .second, .unset, .unset] [(.long hgh), (.long c1)])) _
          refine XS.lcmp X1050.here hx rfl (hb hby at_242) rfl ?_
          refine XS.ifYes X1050.here hx rfl (pc0 := 243) (pc' := 253) rfl (hb hby at_243) rfl ((if0 _ _).trans (flt hd243_1).2.2.2) (by decide) (by decide) ?_
          refine XS.iload X1050.here hx rfl (hb hby at_253) rfl ?_
          refine XS.iconst X1050.here hx rfl (hb hby at_255) ?_
          refine XS.icmpNo X1050.here hx rfl (hb hby at_256) rfl (flt (by decide : ¬ ((3 : Int32) < (3 : Int32)))).1 ?_
          refine XS.lload X1050.here hx rfl (hb hby at_259) rfl ?_
          show Steps p.tables e below (T1050.setTop (mkF m 261 #[.val (.long st), .second, .val (.long c0), .second, .val (.long c1), .second, .val (.long c2), .second, .val (.long hgh), .second, iv fl, .val (.long (65536 : Int64)), .second, .val (.long (65536 : Int64)), .second, .val (.long (65536 : Int64)), .second, .val (.long l2), .second, iv (3 : Int32), rv b1025, .val (.long got), .second, .val (.long st), .second, .val (.long (st + (65536 : Int64))), .second, .val (.long ((st + (65536 : Int64)) + (65536 : Int64))), .second, .val (.long (((st + (65536 : Int64)) + (65536 : Int64)) + l2)), .second, .val (.long st), .second, .val (.long (st + (65536 : Int64))), .second, .val (.long ((st + (65536 : Int64)) + (65536 : Int64))), .second, .unset, .unset] [(.long c2)])) _
          refine XS.lload X1050.here hx rfl (hb hby at_261) rfl ?_
          refine XS.lcmp X1050.here hx rfl (hb hby at_263) rfl ?_
          refine XS.ifNo X1050.here hx rfl (hb hby at_264) rfl ((if0 _ _).trans (tlt hd264_2).2.2.2) ?_
          refine XS.lload X1050.here hx rfl (hb hby at_267) rfl ?_
          refine XS.lstore X1050.here hx rfl (hb hby at_269) rfl (l' := #[.val (.long st), .second, .val (.long c0), .second, .val (.long c1), .second, .val (.long c2), .second, .val (.long hgh), .second, iv fl, .val (.long (65536 : Int64)), .second, .val (.long (65536 : Int64)), .second, .val (.long (65536 : Int64)), .second, .val (.long l2), .second, iv (3 : Int32), rv b1025, .val (.long got), .second, .val (.long st), .second, .val (.long (st + (65536 : Int64))), .second, .val (.long ((st + (65536 : Int64)) + (65536 : Int64))), .second, .val (.long (((st + (65536 : Int64)) + (65536 : Int64)) + l2)), .second, .val (.long st), .second, .val (.long (st + (65536 : Int64))), .second, .val (.long ((st + (65536 : Int64)) + (65536 : Int64))), .second, .val (.long ((st + (65536 : Int64)) + (65536 : Int64))), .second]) rfl ?_
          refine XS.goto X1050.here hx rfl (pc0 := 271) (pc' := 278) rfl (hb hby at_271) (by decide) (by decide) ?_
          exact kt
        · refine ⟨_, (((if_neg hd222_0).trans (if_neg hd243_1)).trans (if_neg hd264_2)).symm, fun tt kt => ?_⟩
          show Steps p.tables e below (T1050.setTop (mkF m 222 #[.val (.long st), .second, .val (.long c0), .second, .val (.long c1), .second, .val (.long c2), .second, .val (.long hgh), .second, iv fl, .val (.long (65536 : Int64)), .second, .val (.long (65536 : Int64)), .second, .val (.long (65536 : Int64)), .second, .val (.long l2), .second, iv (3 : Int32), rv b1025, .val (.long got), .second, .val (.long st), .second, .val (.long (st + (65536 : Int64))), .second, .val (.long ((st + (65536 : Int64)) + (65536 : Int64))), .second, .val (.long (((st + (65536 : Int64)) + (65536 : Int64)) + l2)), .second, .val (.long st), .second, .val (.long (st + (65536 : Int64))), .second, .val (.long ((st + (65536 : Int64)) + (65536 : Int64))), .second, .unset, .unset] [(.int (lcmpW c0 hgh))])) _
          refine XS.ifYes X1050.here hx rfl (pc0 := 222) (pc' := 232) rfl (hb hby at_222) rfl ((if0 _ _).trans (flt hd222_0).2.2.2) (by decide) (by decide) ?_
          refine XS.iload X1050.here hx rfl (hb hby at_232) rfl ?_
          refine XS.iconst X1050.here hx rfl (hb hby at_234) ?_
          refine XS.icmpNo X1050.here hx rfl (hb hby at_235) rfl (flt (by decide : ¬ ((3 : Int32) < (2 : Int32)))).1 ?_
          refine XS.lload X1050.here hx rfl (hb hby at_238) rfl ?_
          refine XS.lload X1050.here hx rfl (hb hby at_240) rfl ?_
          show Steps p.tables e below (T1050.setTop (mkF m 242 #[.val (.long st), .second, .val (.long c0), .second, .val (.long c1), .second, .val (.long c2), .second, .val (.long hgh), .second, iv fl, .val (.long (65536 : Int64)), .second, .val (.long (65536 : Int64)), .second, .val (.long (65536 : Int64)), .second, .val (.long l2), .second, iv (3 : Int32), rv b1025, .val (.long got), .second, .val (.long st), .second, .val (.long (st + (65536 : Int64))), .second, .val (.long ((st + (65536 : Int64)) + (65536 : Int64))), .second, .val (.long (((st + (65536 : Int64)) + (65536 : Int64)) + l2)), .second, .val (.long st), .second, .val (.long (st + (65536 : Int64))), .second, .val (.long ((st + (65536 : Int64)) + (65536 : Int64))), .second, .unset, .unset] [(.long hgh), (.long c1)])) _
          refine XS.lcmp X1050.here hx rfl (hb hby at_242) rfl ?_
          refine XS.ifYes X1050.here hx rfl (pc0 := 243) (pc' := 253) rfl (hb hby at_243) rfl ((if0 _ _).trans (flt hd243_1).2.2.2) (by decide) (by decide) ?_
          refine XS.iload X1050.here hx rfl (hb hby at_253) rfl ?_
          refine XS.iconst X1050.here hx rfl (hb hby at_255) ?_
          refine XS.icmpNo X1050.here hx rfl (hb hby at_256) rfl (flt (by decide : ¬ ((3 : Int32) < (3 : Int32)))).1 ?_
          refine XS.lload X1050.here hx rfl (hb hby at_259) rfl ?_
          show Steps p.tables e below (T1050.setTop (mkF m 261 #[.val (.long st), .second, .val (.long c0), .second, .val (.long c1), .second, .val (.long c2), .second, .val (.long hgh), .second, iv fl, .val (.long (65536 : Int64)), .second, .val (.long (65536 : Int64)), .second, .val (.long (65536 : Int64)), .second, .val (.long l2), .second, iv (3 : Int32), rv b1025, .val (.long got), .second, .val (.long st), .second, .val (.long (st + (65536 : Int64))), .second, .val (.long ((st + (65536 : Int64)) + (65536 : Int64))), .second, .val (.long (((st + (65536 : Int64)) + (65536 : Int64)) + l2)), .second, .val (.long st), .second, .val (.long (st + (65536 : Int64))), .second, .val (.long ((st + (65536 : Int64)) + (65536 : Int64))), .second, .unset, .unset] [(.long c2)])) _
          refine XS.lload X1050.here hx rfl (hb hby at_261) rfl ?_
          refine XS.lcmp X1050.here hx rfl (hb hby at_263) rfl ?_
          refine XS.ifYes X1050.here hx rfl (pc0 := 264) (pc' := 274) rfl (hb hby at_264) rfl ((if0 _ _).trans (flt hd264_2).2.2.2) (by decide) (by decide) ?_
          refine XS.lload X1050.here hx rfl (hb hby at_274) rfl ?_
          refine XS.lstore X1050.here hx rfl (hb hby at_276) rfl (l' := #[.val (.long st), .second, .val (.long c0), .second, .val (.long c1), .second, .val (.long c2), .second, .val (.long hgh), .second, iv fl, .val (.long (65536 : Int64)), .second, .val (.long (65536 : Int64)), .second, .val (.long (65536 : Int64)), .second, .val (.long l2), .second, iv (3 : Int32), rv b1025, .val (.long got), .second, .val (.long st), .second, .val (.long (st + (65536 : Int64))), .second, .val (.long ((st + (65536 : Int64)) + (65536 : Int64))), .second, .val (.long (((st + (65536 : Int64)) + (65536 : Int64)) + l2)), .second, .val (.long st), .second, .val (.long (st + (65536 : Int64))), .second, .val (.long ((st + (65536 : Int64)) + (65536 : Int64))), .second, .val (.long (((st + (65536 : Int64)) + (65536 : Int64)) + l2)), .second]) rfl ?_
          exact kt
  have go1055 : own_S p e below ST T1050 (mkF m 278 #[.val (.long st), .second, .val (.long c0), .second, .val (.long c1), .second, .val (.long c2), .second, .val (.long hgh), .second, iv fl, .val (.long (65536 : Int64)), .second, .val (.long (65536 : Int64)), .second, .val (.long (65536 : Int64)), .second, .val (.long l2), .second, iv (3 : Int32), rv b1025, .val (.long got), .second, .val (.long st), .second, .val (.long (st + (65536 : Int64))), .second, .val (.long ((st + (65536 : Int64)) + (65536 : Int64))), .second, .val (.long (((st + (65536 : Int64)) + (65536 : Int64)) + l2)), .second, .val (.long st), .second, .val (.long (st + (65536 : Int64))), .second, .val (.long ((st + (65536 : Int64)) + (65536 : Int64))), .second, .val (.long ex), .second] []) := fun tt kt => go1053 tt (sg1054 _ kt)
  have go1056 : own_S p e below ST T1050 (mkF m 283 #[.val (.long st), .second, .val (.long c0), .second, .val (.long c1), .second, .val (.long c2), .second, .val (.long hgh), .second, iv fl, .val (.long (65536 : Int64)), .second, .val (.long (65536 : Int64)), .second, .val (.long (65536 : Int64)), .second, .val (.long l2), .second, iv (3 : Int32), rv b1025, .val (.long got), .second, .val (.long st), .second, .val (.long (st + (65536 : Int64))), .second, .val (.long ((st + (65536 : Int64)) + (65536 : Int64))), .second, .val (.long (((st + (65536 : Int64)) + (65536 : Int64)) + l2)), .second, .val (.long st), .second, .val (.long (st + (65536 : Int64))), .second, .val (.long ((st + (65536 : Int64)) + (65536 : Int64))), .second, .val (.long ex), .second] [(.int (lcmpW got ex))]) := fun tt kt => go1055 tt (by
      refine XS.lload X1050.here hx rfl (hb hby at_278) rfl ?_
      refine XS.lload X1050.here hx rfl (hb hby at_280) rfl ?_
      refine XS.lcmp X1050.here hx rfl (hb hby at_282) rfl ?_
      exact kt)
  have hfin : (lcmpW got ex) = (0 : Int32) := by
    rw [lw_eq, hgot, hex]
    all_goals (try simp only [own_gt])
    all_goals (by_cases y0 : (0 : Int32) < lcmpW c0 hgh <;> by_cases y1 : (0 : Int32) < lcmpW c1 hgh <;> by_cases y2 : (0 : Int32) < lcmpW c2 hgh <;> simp [y0, y1, y2])
  have go1057 : own_S p e below ST T1050 (mkF m 291 #[.val (.long st), .second, .val (.long c0), .second, .val (.long c1), .second, .val (.long c2), .second, .val (.long hgh), .second, iv fl, .val (.long (65536 : Int64)), .second, .val (.long (65536 : Int64)), .second, .val (.long (65536 : Int64)), .second, .val (.long l2), .second, iv (3 : Int32), rv b1025, .val (.long got), .second, .val (.long st), .second, .val (.long (st + (65536 : Int64))), .second, .val (.long ((st + (65536 : Int64)) + (65536 : Int64))), .second, .val (.long (((st + (65536 : Int64)) + (65536 : Int64)) + l2)), .second, .val (.long st), .second, .val (.long (st + (65536 : Int64))), .second, .val (.long ((st + (65536 : Int64)) + (65536 : Int64))), .second, .val (.long ex), .second] [(.int (1 : Int32))]) := fun tt kt => go1056 tt (by
      refine XS.ifNo X1050.here hx rfl (hb hby at_283) rfl ((if0 _ _).trans (teq hfin).2) ?_
      refine XS.iconst X1050.here hx rfl (hb hby at_286) ?_
      refine XS.goto X1050.here hx rfl (pc0 := 287) (pc' := 291) rfl (hb hby at_287) (by decide) (by decide) ?_
      exact kt)
  obtain ⟨fs, hr, hrun, hended, hW, hsame⟩ := X1050.leave (v := some (.int (1 : Int32))) (fun h => by rw [Bd.returns] at h; cases h) (hlocks := by first | exact BodyLoose.notSynchronized Bd | exact Body.notSynchronized Bd)
  refine ⟨_, _, pre0 _ (go1057 _ ?_), hrun, hended, _, _, rfl, ?_, ⟨_, rfl⟩, hW, hsame.mono (by decide) (by decide)⟩
  · exact retN X1050 hx (t := .boolean) Bd.returns (by simp) (hb hby at_291) hr
  · show Q0n3bb Z st c0 c1 c2 hgh fl h0 n0 _ T1050.heap _
    rw [eh1050]
    exact ⟨rfl, N1050⟩
theorem rm0 (l : Launch) (Z : State) (a0 : Array Value) (hw : ∀ d ∈ tables_1, d.before a0 Z = true) (ws : List Jvm.Cond) (st : Int64) (c0 : Int64) (c1 : Int64) (c2 : Int64) (hgh : Int64) (fl : Int32) (h0 : Heap) (n0 : Nat) (Z0 : n0 ≤ h0.size) :
    MetFree l x (head1 (Jvm.Cond.code x code maxLocals ret :: ws) room_1) (fun aa UU => aa = #[(.long st), (.long c0), (.long c1), (.long c2), (.long hgh), (.int fl)] ∧ Z.Warmed39 UU.vm ∧ UU.heap = h0) (fun _ _ _ _ _ => True) (fun _ UU oo UU' => ∃ vv LL, oo = .returned vv ∧ Q0n0 Z st c0 c1 c2 hgh fl h0 n0 vv UU'.heap LL ∧ FrameEnd UU oo UU' LL room_1.cells room_1.slots) := by
  rcases own_4 ((fl.toUInt32 >>> ((3 : Int32) &&& 31).toUInt32).toInt32) with hk | hk | hk | hk
  · exact rm0n0 l Z a0 hw ws st c0 c1 c2 hgh fl h0 n0 Z0 hk
  · exact rm0n1 l Z a0 hw ws st c0 c1 c2 hgh fl h0 n0 Z0 hk
  · by_cases q0 : fl &&& (1 : Int32) = (0 : Int32)
    · exact rm0n2a l Z a0 hw ws st c0 c1 c2 hgh fl h0 n0 Z0 hk q0
    · exact rm0n2b l Z a0 hw ws st c0 c1 c2 hgh fl h0 n0 Z0 hk q0
  · by_cases q0 : fl &&& (1 : Int32) = (0 : Int32) <;> by_cases q1 : fl &&& (2 : Int32) = (0 : Int32)
    · exact rm0n3aa l Z a0 hw ws st c0 c1 c2 hgh fl h0 n0 Z0 hk q0 q1
    · exact rm0n3ab l Z a0 hw ws st c0 c1 c2 hgh fl h0 n0 Z0 hk q0 q1
    · exact rm0n3ba l Z a0 hw ws st c0 c1 c2 hgh fl h0 n0 Z0 hk q0 q1
    · exact rm0n3bb l Z a0 hw ws st c0 c1 c2 hgh fl h0 n0 Z0 hk q0 q1
set_option maxRecDepth 65536 in
set_option maxHeartbeats 40000000 in
theorem comes_1 {Post : Tables → Env → Array Value → State → Outcome → State → Prop} (hpost : ∀ tb e args s v u, (limb_1_1.after args s (.returned v) u = true ∧ limb_1_2.after args s (.returned v) u = true ∧ True) → FrameEnd s (.returned v) u (Jvm.fieldLocs frame_1_writes args s ++ Jvm.arrayLocs frame_1_arrays args s ++ Jvm.staticLocs frame_1_statics s) 16 192 → Post tb e args s (.returned v) u) :
    ArmFor flags0 classFile x code maxLocals ret World_1 tables_1 room_1 Calls_1 rest_1 Pre_1 Post := by
  intro l hfl _ _ p e ha hc hk s m args below hf hA hF happ hP
  obtain ⟨hcalls, hrest, hpre⟩ := hP
  obtain ⟨-, -, -, hnamed, -, -, -, hat⟩ := (Spec.applies_iff hf).mp happ
  obtain ⟨hg, hn⟩ := and_e (Cond.before_iff.mp (show (Jvm.Cond.and given_1 narrow_1).before args s = true from hpre))
  obtain ⟨gg1, gg2⟩ := and_e hg
  obtain ⟨gg3, gg4⟩ := and_e gg2
  obtain ⟨gg5, gg6⟩ := and_e gg4
  obtain ⟨gg7, gg8⟩ := and_e gg6
  obtain ⟨gg9, gg10⟩ := and_e gg8
  obtain ⟨gg11, gg12⟩ := and_e gg10
  obtain ⟨w0, w1, w2, w3, w4, w5, rfl⟩ : ∃ w0 w1 w2 w3 w4 w5 : Value, args = #[w0, w1, w2, w3, w4, w5] := by
    have hs : args.size = 6 := by simpa [Cond.value, given_1] using gg1
    obtain ⟨L⟩ := args
    match L, hs with
    | [w0, w1, w2, w3, w4, w5], _ => exact ⟨w0, w1, w2, w3, w4, w5, rfl⟩
  have hw := fun d (hd : d ∈ tables_1) => atoms_spec (ws := Jvm.Cond.code x code maxLocals ret :: tables_1) hat d (List.mem_cons_of_mem _ hd)
  have W : ∀ {d : Jvm.Cond} (i : Nat), tables_1[i]? = some d → d.before _ s = true := fun i h => hw _ (List.mem_of_getElem? h)
  have hfit : Fit s := fun {y c} hc i hi => by
    obtain ⟨ha, rfl⟩ := Array.getElem?_eq_some_iff.mp hc
    have q := List.all_eq_true.mp ((Array.all_eq_true_iff_forall_mem.mp hF) _ (Array.getElem_mem ha)) i (List.mem_range.mpr hi)
    simpa [Array.getElem?_eq_getElem hi] using q
  obtain ⟨i0, ei0⟩ := isL_v gg3
  obtain rfl : w0 = (.long i0) := Option.some.inj ei0
  obtain ⟨i1, ei1⟩ := isL_v gg5
  obtain rfl : w1 = (.long i1) := Option.some.inj ei1
  obtain ⟨i2, ei2⟩ := isL_v gg7
  obtain rfl : w2 = (.long i2) := Option.some.inj ei2
  obtain ⟨i3, ei3⟩ := isL_v gg9
  obtain rfl : w3 = (.long i3) := Option.some.inj ei3
  obtain ⟨i4, ei4⟩ := isL_v gg11
  obtain rfl : w4 = (.long i4) := Option.some.inj ei4
  obtain ⟨i5, ei5⟩ := is_v gg12
  obtain rfl : w5 = (.int i5) := Option.some.inj ei5
  obtain ⟨n, o, h1, h2, h3, _, L, rfl, ⟨rfl, N⟩, hq⟩ := rm0 l s _ hw tables_1 i0 i1 i2 i3 i4 i5 s.heap s.heap.size (Nat.le_refl _)  p e ha hc hk s m _ below hf ((Spec.applies_iff_loose hf).mp happ).1 ⟨rfl, State.Warmed39.refl s, rfl⟩ trivial
  refine ⟨n, _, h1, h2, h3, hpost _ _ _ _ _ _ ⟨Cond.after_iff.mpr rfl, Cond.after_iff.mpr (eq_i res_at (Term.int_eval (1)) rfl), trivial⟩ ⟨hq.1, hq.2.1, (hq.2.2.sift fun y hy => Or.inr (N y hy)).mono (by decide) (by decide)⟩⟩
theorem main_1_1 : Claimed_1_1 := comes_1 fun _ _ _ _ _ _ h hF => ⟨h.1, hF⟩
theorem main_1_2 : Claimed_1_2 := comes_1 fun _ _ _ _ _ _ h hF => ⟨h.2.1, hF⟩
end Jvm.Pilot.@@N@@
namespace Jvm.Pilot.@@N@@
open Jvm Jvm.ClassFile Sem Op Lib Jvm.Free Jvm.Stand Jvm.Pilot.@@N@@.Jvm.D
/-! MADE BY PROGRAM (witnessworld.py) out of the Statement's table words and the real class files: 12 classes; the members and pool entries that the words name. The judged class is class 1, her method 1. -/
namespace start1
open Jvm.ClassFile
def u (s : String) : CpInfo := .utf8 (stringToUtf16 s)
/-- a pool by its gaps: so many unusable entries, then the entry; so many at the end -/
def gap : Nat → List CpInfo → List CpInfo
  | 0, r => r
  | n + 1, r => .unusable :: gap n r
def poolList (es : List (Nat × CpInfo)) (last : Nat) : List CpInfo := es.foldr (fun e r => gap e.1 (e.2 :: r)) (gap last [])
def pool (es : List (Nat × CpInfo)) (last : Nat) : Array CpInfo := ⟨poolList es last⟩
def fileOf (pool : Array CpInfo) (this : Nat) (attrs : Array Attribute := #[]) (ms : Array MethodInfo := #[]) (fl : Nat := 33) (sup : Nat := 0) (ifs : Array Nat := #[]) (fds : Array FieldInfo := #[]) : ClassFile where
  minorVersion := 0
  majorVersion := 65
  constantPool := pool
  accessFlags := fl
  thisClass := this
  superClass := sup
  interfaces := ifs
  fields := fds
  methods := ms
  attributes := attrs
def plain (name : String) (sup : Option ClassId) : Class where
  name := name
  kind := .ordinary
  loader := none
  accessFlags := 33
  super := sup
  interfaces := #[]
  cf := none
  fields := #[]
  methods := #[]
  instanceTypes := #[]
  staticTypes := #[]
  resolved := #[]
  callSites := []
  init := .initialized
  statics := none
  mirror := none

def pool0 : Array CpInfo := pool [(5, u "<init>"), (0, u "()V"), (1, .class_ 10), (1, u "java/lang/Object")] 113

def k0c0 : Code := { maxStack := 0, maxLocals := 1, code := object_method_1_code, exceptionTable := #[], attributes := #[] }
def k0m0 : Method := { name := "<init>", desc := "()V", sig := { parameters := [], returnType := none }, accessFlags := 1, code := some k0c0 }
/-- java/lang/Object -/
def k0 : Class := { plain "java/lang/Object" none with
  accessFlags := 33
  interfaces := #[]
  cf := some (fileOf pool0 8 #[] #[{ accessFlags := 1, nameIndex := 5, descriptorIndex := 6, attributes := #[] }] 33 0 #[] #[])
  fields := #[]
  methods := #[k0m0]
  instanceTypes := #[]
  staticTypes := #[]
  resolved := Array.replicate 124 none
  statics := none }

def pool1 : Array CpInfo := pool [(2, .class_ 4), (1, u "java/lang/Object"), (0, u "<init>"), (0, u "()V"), (0, .class_ 8), (0, u "com/example/altocommit/altocommit/store/LogIndex"), (0, .long 65536), (1, .methodref 7 12), (0, .nameAndType 5 13), (0, u "(J)V"), (0, .methodref 7 15), (0, .nameAndType 16 17), (0, u "add"), (0, u "(JJ)V"), (0, .methodref 7 19), (0, .nameAndType 20 21), (0, u "allAtOrBelowUpTo"), (0, u "(J)J"), (0, .class_ 23), (0, u "com/example/altocommit/altocommit/store/LogIndexAllAtOrBelowUpToPinLaw"), (2, u "law"), (0, u "(JJJJJI)Z")] 3

def k1m0 : Method := { name := "<init>", desc := "()V", sig := { parameters := [], returnType := none }, accessFlags := 1, code := none }
def k1c1 : Code := { maxStack := 5, maxLocals := 39, code := code, exceptionTable := #[], attributes := #[] }
def k1m1 : Method := { name := "law", desc := "(JJJJJI)Z", sig := { parameters := [.long, .long, .long, .long, .long, .int], returnType := some .boolean }, accessFlags := 9, code := some k1c1 }
/-- com/example/altocommit/altocommit/store/LogIndexAllAtOrBelowUpToPinLaw -/
def k1 : Class := { plain "com/example/altocommit/altocommit/store/LogIndexAllAtOrBelowUpToPinLaw" (some 0) with
  accessFlags := 49
  interfaces := #[]
  cf := some (fileOf pool1 22 #[] #[{ accessFlags := 1, nameIndex := 5, descriptorIndex := 6, attributes := #[] }, { accessFlags := 9, nameIndex := 26, descriptorIndex := 27, attributes := #[] }] 49 2 #[] #[])
  fields := #[]
  methods := #[k1m0, k1m1]
  instanceTypes := #[]
  staticTypes := #[]
  resolved := Array.replicate 31 none
  statics := none }

def pool2 : Array CpInfo := pool [(1, .methodref 2 3), (0, .class_ 4), (0, .nameAndType 5 6), (0, u "java/lang/Object"), (0, u "<init>"), (0, u "()V"), (0, .fieldref 8 9), (0, .class_ 10), (0, .nameAndType 11 12), (0, u "com/example/altocommit/altocommit/store/LogIndex"), (0, u "starts"), (0, u "[J"), (0, .fieldref 8 14), (0, .nameAndType 15 12), (0, u "lows"), (0, .fieldref 8 17), (0, .nameAndType 18 12), (0, u "reaches"), (0, .fieldref 8 20), (0, .nameAndType 21 22), (0, u "end"), (0, u "J"), (4, .long 9223372036854775807), (1, .fieldref 8 30), (0, .nameAndType 31 32), (0, u "count"), (0, u "I"), (0, .long 65536), (7, .methodref 42 43), (0, .class_ 44), (0, .nameAndType 45 46), (0, u "java/lang/Math"), (0, u "max"), (0, u "(JJ)J"), (0, .methodref 42 48), (0, .nameAndType 49 46), (0, u "min"), (0, .fieldref 8 51), (0, .nameAndType 52 22), (0, u "highest"), (3, .class_ 57), (0, u "com/example/altocommit/altocommit/store/LogIndex$Span"), (2, u "(JJ)V"), (4, u "add"), (7, u "SPAN_BYTES"), (1, u "(J)V"), (9, u "allAtOrBelowUpTo"), (0, u "(J)J")] 6

def k2c0 : Code := { maxStack := 3, maxLocals := 3, code := prog_214_method_1_code, exceptionTable := #[], attributes := #[] }
def k2m0 : Method := { name := "<init>", desc := "(J)V", sig := { parameters := [.long], returnType := none }, accessFlags := 0, code := some k2c0 }
def k2c1 : Code := { maxStack := 6, maxLocals := 8, code := prog_214_method_2_code, exceptionTable := #[], attributes := #[] }
def k2m1 : Method := { name := "add", desc := "(JJ)V", sig := { parameters := [.long, .long], returnType := none }, accessFlags := 0, code := some k2c1 }
def k2c2 : Code := { maxStack := 4, maxLocals := 4, code := prog_214_method_5_code, exceptionTable := #[], attributes := #[] }
def k2m2 : Method := { name := "allAtOrBelowUpTo", desc := "(J)J", sig := { parameters := [.long], returnType := some .long }, accessFlags := 0, code := some k2c2 }
/-- com/example/altocommit/altocommit/store/LogIndex -/
def k2 : Class := { plain "com/example/altocommit/altocommit/store/LogIndex" (some 0) with
  accessFlags := 49
  interfaces := #[]
  cf := some (fileOf pool2 8 #[.nestMembers #[56]] #[{ accessFlags := 0, nameIndex := 5, descriptorIndex := 75, attributes := #[] }, { accessFlags := 0, nameIndex := 65, descriptorIndex := 60, attributes := #[] }, { accessFlags := 0, nameIndex := 85, descriptorIndex := 86, attributes := #[] }] 49 2 #[] #[{ accessFlags := 25, nameIndex := 73, descriptorIndex := 22, attributes := #[] }, { accessFlags := 2, nameIndex := 11, descriptorIndex := 12, attributes := #[] }, { accessFlags := 2, nameIndex := 15, descriptorIndex := 12, attributes := #[] }, { accessFlags := 2, nameIndex := 18, descriptorIndex := 12, attributes := #[] }, { accessFlags := 2, nameIndex := 31, descriptorIndex := 32, attributes := #[] }, { accessFlags := 2, nameIndex := 21, descriptorIndex := 22, attributes := #[] }, { accessFlags := 2, nameIndex := 52, descriptorIndex := 22, attributes := #[] }])
  fields := #[{ name := "SPAN_BYTES", type := .long, accessFlags := 25, slot := 0, constantValue := 0 }, { name := "starts", type := (.array .long), accessFlags := 2, slot := 0, constantValue := 0 }, { name := "lows", type := (.array .long), accessFlags := 2, slot := 1, constantValue := 0 }, { name := "reaches", type := (.array .long), accessFlags := 2, slot := 2, constantValue := 0 }, { name := "count", type := .int, accessFlags := 2, slot := 3, constantValue := 0 }, { name := "end", type := .long, accessFlags := 2, slot := 4, constantValue := 0 }, { name := "highest", type := .long, accessFlags := 2, slot := 5, constantValue := 0 }]
  methods := #[k2m0, k2m1, k2m2]
  instanceTypes := #[(.array .long), (.array .long), (.array .long), .int, .long, .long]
  staticTypes := #[.long]
  resolved := Array.replicate 93 none
  statics := none }

def pool3 : Array CpInfo := pool [(1, .class_ 2), (0, u "java/lang/Math"), (1, .class_ 6), (1, u "java/lang/Object"), (0, u "<init>"), (0, u "()V"), (89, .class_ 100), (1, u "java/lang/Math$RandomNumberGeneratorHolder"), (20, u "(JJ)J"), (50, u "negativeZeroFloatBits"), (0, u "J"), (2, u "negativeZeroDoubleBits"), (21, u "max"), (2, u "min"), (43, u "$assertionsDisabled"), (0, u "Z"), (91, u "twoToTheDoubleScaleDown"), (0, u "D"), (4, u "twoToTheDoubleScaleUp"), (9, u "E"), (3, u "PI"), (2, u "TAU"), (2, u "DEGREES_TO_RADIANS"), (0, u "RADIANS_TO_DEGREES")] 94

def k3m0 : Method := { name := "<init>", desc := "()V", sig := { parameters := [], returnType := none }, accessFlags := 2, code := none }
def k3c1 : Code := { maxStack := 4, maxLocals := 4, code := jdk_29_method_66_code, exceptionTable := #[], attributes := #[] }
def k3m1 : Method := { name := "max", desc := "(JJ)J", sig := { parameters := [.long, .long], returnType := some .long }, accessFlags := 9, code := some k3c1 }
def k3c2 : Code := { maxStack := 4, maxLocals := 4, code := jdk_29_method_70_code, exceptionTable := #[], attributes := #[] }
def k3m2 : Method := { name := "min", desc := "(JJ)J", sig := { parameters := [.long, .long], returnType := some .long }, accessFlags := 9, code := some k3c2 }
/-- java/lang/Math -/
def k3 : Class := { plain "java/lang/Math" (some 0) with
  accessFlags := 49
  interfaces := #[]
  cf := some (fileOf pool3 1 #[.nestMembers #[98]] #[{ accessFlags := 2, nameIndex := 7, descriptorIndex := 8, attributes := #[] }, { accessFlags := 9, nameIndex := 198, descriptorIndex := 121, attributes := #[] }, { accessFlags := 9, nameIndex := 201, descriptorIndex := 121, attributes := #[] }] 49 4 #[] #[{ accessFlags := 25, nameIndex := 354, descriptorIndex := 339, attributes := #[] }, { accessFlags := 25, nameIndex := 358, descriptorIndex := 339, attributes := #[] }, { accessFlags := 25, nameIndex := 361, descriptorIndex := 339, attributes := #[] }, { accessFlags := 26, nameIndex := 364, descriptorIndex := 339, attributes := #[] }, { accessFlags := 26, nameIndex := 365, descriptorIndex := 339, attributes := #[] }, { accessFlags := 26, nameIndex := 172, descriptorIndex := 173, attributes := #[] }, { accessFlags := 26, nameIndex := 176, descriptorIndex := 173, attributes := #[] }, { accessFlags := 8, nameIndex := 344, descriptorIndex := 339, attributes := #[] }, { accessFlags := 8, nameIndex := 338, descriptorIndex := 339, attributes := #[] }, { accessFlags := 4120, nameIndex := 245, descriptorIndex := 246, attributes := #[] }])
  fields := #[{ name := "E", type := .double, accessFlags := 25, slot := 0, constantValue := 0 }, { name := "PI", type := .double, accessFlags := 25, slot := 1, constantValue := 0 }, { name := "TAU", type := .double, accessFlags := 25, slot := 2, constantValue := 0 }, { name := "DEGREES_TO_RADIANS", type := .double, accessFlags := 26, slot := 3, constantValue := 0 }, { name := "RADIANS_TO_DEGREES", type := .double, accessFlags := 26, slot := 4, constantValue := 0 }, { name := "negativeZeroFloatBits", type := .long, accessFlags := 26, slot := 5, constantValue := 0 }, { name := "negativeZeroDoubleBits", type := .long, accessFlags := 26, slot := 6, constantValue := 0 }, { name := "twoToTheDoubleScaleUp", type := .double, accessFlags := 8, slot := 7, constantValue := 0 }, { name := "twoToTheDoubleScaleDown", type := .double, accessFlags := 8, slot := 8, constantValue := 0 }, { name := "$assertionsDisabled", type := .boolean, accessFlags := 4120, slot := 9, constantValue := 0 }]
  methods := #[k3m0, k3m1, k3m2]
  instanceTypes := #[]
  staticTypes := #[.double, .double, .double, .double, .double, .long, .long, .double, .double, .boolean]
  resolved := Array.replicate 460 none
  statics := none }

def pool4 : Array CpInfo := pool [(1, u "java/lang/Cloneable"), (0, .class_ 1), (0, u "java/lang/Object"), (0, .class_ 3)] 3

/-- java/lang/Cloneable -/
def k4 : Class := { plain "java/lang/Cloneable" (some 0) with
  accessFlags := 1537
  interfaces := #[]
  cf := some (fileOf pool4 2 #[] #[] 1537 4 #[] #[])
  fields := #[]
  methods := #[]
  instanceTypes := #[]
  staticTypes := #[]
  resolved := Array.replicate 8 none
  statics := none }

def pool5 : Array CpInfo := pool [(1, u "java/io/Serializable"), (0, .class_ 1), (0, u "java/lang/Object"), (0, .class_ 3)] 3

/-- java/io/Serializable -/
def k5 : Class := { plain "java/io/Serializable" (some 0) with
  accessFlags := 1537
  interfaces := #[]
  cf := some (fileOf pool5 2 #[] #[] 1537 4 #[] #[])
  fields := #[]
  methods := #[]
  instanceTypes := #[]
  staticTypes := #[]
  resolved := Array.replicate 8 none
  statics := none }

/-- the primitive byte -/
def k6 : Class := { plain "byte" none with kind := .primitive 'B', accessFlags := 0x411 }
/-- [B -/
def k7 : Class := { plain "[B" (some 0) with kind := .array 6 .byte, interfaces := #[4, 5], accessFlags := 1041 }

/-- the primitive int -/
def k8 : Class := { plain "int" none with kind := .primitive 'I', accessFlags := 0x411 }
/-- [I -/
def k9 : Class := { plain "[I" (some 0) with kind := .array 8 .int, interfaces := #[4, 5], accessFlags := 1041 }

/-- the primitive long -/
def k10 : Class := { plain "long" none with kind := .primitive 'J', accessFlags := 0x411 }
/-- [J -/
def k11 : Class := { plain "[J" (some 0) with kind := .array 10 .long, interfaces := #[4, 5], accessFlags := 1041 }

def heap : Heap := #[]
def classes : Array Class := #[k0, k1, k2, k3, k4, k5, k6, k7, k8, k9, k10, k11]
def interned : List (Array UInt16 × Addr) := []
def slotsUsed : Nat := 0
def theMethod : MethodId := ⟨1, 1⟩
def args0 : Array Value := #[.long 5, .long 1, .long 2, .long 3, .long 2, .int 29]
def aboutOver (below : List Frame) : State where
  vm := { classes := classes, interned := interned.toArray }
  heap := heap
  slotsUsed := slotsUsed
  threads := #[{ frames := .invoking theMethod args0 :: below }]
def below0 : List Frame := [.native { method := ⟨0, 0⟩, args := #[] }]
def about1 : State := aboutOver below0
def p0 : Program := .bare "" "" ""
def e0 : Env := launch0.env 0 0 0
theorem w_frames : about1.frames = Frame.invoking theMethod args0 :: below0 := rfl
set_option maxRecDepth 65536 in
theorem w_args : argsFit about1.vm theMethod args0 = true := by decide +kernel
set_option maxRecDepth 65536 in
theorem w_heap : heapFits about1 = true := by decide +kernel
set_option maxRecDepth 65536 in
theorem w_runnable : about1.curStatus? = some .runnable := by decide +kernel
set_option maxRecDepth 65536 in
theorem w_alone : about1.alone = true := by decide +kernel
set_option maxRecDepth 65536 in
theorem w_named : about1.methodNamed? x = some theMethod := by decide +kernel
set_option maxRecDepth 65536 in
theorem w_hears : about1.hears theMethod below0 = true := by decide +kernel
set_option maxRecDepth 65536 in
theorem w_ripe : about1.ripe theMethod args0 below0 = true := by decide +kernel
theorem w_running : about1.status = .running := rfl
set_option maxRecDepth 65536 in
theorem w_room : about1.hasRoom e0.platform room_1 = true :=
  launch0.hasRoom_least _ room_1 (by decide +kernel) (by decide +kernel) (by decide +kernel) (by decide +kernel) (by decide +kernel) (by decide +kernel)
theorem allAtoms_all (ts : List Jvm.Cond) (a : Array Jvm.Value) (st : Jvm.State) : (allAtoms ts).before a st = ts.all (fun c => c.before a st) := by
  induction ts with
  | nil => rfl
  | cons c t ih =>
    show (Jvm.Cond.and c (allAtoms t)).before a st = _
    rw [Jvm.Cond.before_and, ih, List.all_cons]
def words1 : List Jvm.Cond := Jvm.Cond.code x code maxLocals ret :: tables_1
/-- a 'code' word, met by the world's own term for the bytes: nothing is compared byte by byte -/
theorem code_word {y : MethodName} {bytes : ByteArray} {mx : Nat} {rt : Option FieldType} {a : Array Value} {s : State} {m : MethodId} {meth : Method} {c : Code} (h1 : s.methodNamed? y = some m) (h2 : s.vm.method? m = some meth) (h3 : meth.code = some c) (h4 : c.code = bytes)
    (h5 : (c.maxLocals == mx && c.exceptionTable.isEmpty && decide (c.maxStack ≤ mostOperands) && decide (meth.sig.returnType = rt) && !meth.locks && decide (parseMethodDescriptor y.desc = some meth.sig)) = true) : (Jvm.Cond.code y bytes mx rt).before a s = true := by
  simp only [Bool.and_eq_true, beq_iff_eq, Bool.not_eq_true', decide_eq_true_eq] at h5
  obtain ⟨⟨⟨⟨⟨g1, g2⟩, g3⟩, g4⟩, g5⟩, g6⟩ := h5
  simp [Cond.before, Cond.holds, Cond.value, h1, h2, h3, h4, g1, g2, g3, g4, g5, g6]
def isCode : Jvm.Cond → Bool
  | .code _ _ _ _ => true
  | _ => false
theorem all_split {L : List Jvm.Cond} {P : Jvm.Cond → Bool} (h1 : L.all (fun c => isCode c || P c) = true) (h2 : ∀ c ∈ L.filter isCode, P c = true) : L.all P = true := by
  refine List.all_eq_true.mpr fun c hc => ?_
  have h := List.all_eq_true.mp h1 c hc
  rcases Bool.eq_false_or_eq_true (isCode c) with hi | hi
  · exact h2 c (List.mem_filter.mpr ⟨hc, hi⟩)
  · simpa [hi] using h
set_option maxRecDepth 65536 in
theorem w_c0 : (Jvm.Cond.code x code maxLocals ret).before args0 about1 = true := code_word (m := ⟨1, 1⟩) (meth := k1m1) (c := k1c1) (by decide +kernel) rfl rfl rfl (by decide +kernel)
set_option maxRecDepth 65536 in
theorem w_c1 : (Jvm.Cond.code ({ cls := "com/example/altocommit/altocommit/store/LogIndex", name := "<init>", desc := "(J)V" } : Jvm.MethodName) prog_214_method_1_code (3 : Nat) (Option.none : Option Jvm.ClassFile.FieldType)).before args0 about1 = true := code_word (m := ⟨2, 0⟩) (meth := k2m0) (c := k2c0) (by decide +kernel) rfl rfl rfl (by decide +kernel)
set_option maxRecDepth 65536 in
theorem w_c2 : (Jvm.Cond.code ({ cls := "java/lang/Object", name := "<init>", desc := "()V" } : Jvm.MethodName) object_method_1_code (1 : Nat) (Option.none : Option Jvm.ClassFile.FieldType)).before args0 about1 = true := code_word (m := ⟨0, 0⟩) (meth := k0m0) (c := k0c0) (by decide +kernel) rfl rfl rfl (by decide +kernel)
set_option maxRecDepth 65536 in
theorem w_c3 : (Jvm.Cond.code ({ cls := "com/example/altocommit/altocommit/store/LogIndex", name := "allAtOrBelowUpTo", desc := "(J)J" } : Jvm.MethodName) prog_214_method_5_code (4 : Nat) (Option.some Jvm.ClassFile.FieldType.long)).before args0 about1 = true := code_word (m := ⟨2, 2⟩) (meth := k2m2) (c := k2c2) (by decide +kernel) rfl rfl rfl (by decide +kernel)
set_option maxRecDepth 65536 in
theorem w_c4 : (Jvm.Cond.code ({ cls := "com/example/altocommit/altocommit/store/LogIndex", name := "add", desc := "(JJ)V" } : Jvm.MethodName) prog_214_method_2_code (8 : Nat) (Option.none : Option Jvm.ClassFile.FieldType)).before args0 about1 = true := code_word (m := ⟨2, 1⟩) (meth := k2m1) (c := k2c1) (by decide +kernel) rfl rfl rfl (by decide +kernel)
set_option maxRecDepth 65536 in
theorem w_c5 : (Jvm.Cond.code ({ cls := "java/lang/Math", name := "max", desc := "(JJ)J" } : Jvm.MethodName) jdk_29_method_66_code (4 : Nat) (Option.some Jvm.ClassFile.FieldType.long)).before args0 about1 = true := code_word (m := ⟨3, 1⟩) (meth := k3m1) (c := k3c1) (by decide +kernel) rfl rfl rfl (by decide +kernel)
set_option maxRecDepth 65536 in
theorem w_c6 : (Jvm.Cond.code ({ cls := "java/lang/Math", name := "min", desc := "(JJ)J" } : Jvm.MethodName) jdk_29_method_70_code (4 : Nat) (Option.some Jvm.ClassFile.FieldType.long)).before args0 about1 = true := code_word (m := ⟨3, 2⟩) (meth := k3m2) (c := k3c2) (by decide +kernel) rfl rfl rfl (by decide +kernel)
def codes1 : List Jvm.Cond := [Jvm.Cond.code x code maxLocals ret, Jvm.Cond.code ({ cls := "com/example/altocommit/altocommit/store/LogIndex", name := "<init>", desc := "(J)V" } : Jvm.MethodName) prog_214_method_1_code (3 : Nat) (Option.none : Option Jvm.ClassFile.FieldType), Jvm.Cond.code ({ cls := "java/lang/Object", name := "<init>", desc := "()V" } : Jvm.MethodName) object_method_1_code (1 : Nat) (Option.none : Option Jvm.ClassFile.FieldType), Jvm.Cond.code ({ cls := "com/example/altocommit/altocommit/store/LogIndex", name := "allAtOrBelowUpTo", desc := "(J)J" } : Jvm.MethodName) prog_214_method_5_code (4 : Nat) (Option.some Jvm.ClassFile.FieldType.long), Jvm.Cond.code ({ cls := "com/example/altocommit/altocommit/store/LogIndex", name := "add", desc := "(JJ)V" } : Jvm.MethodName) prog_214_method_2_code (8 : Nat) (Option.none : Option Jvm.ClassFile.FieldType), Jvm.Cond.code ({ cls := "java/lang/Math", name := "max", desc := "(JJ)J" } : Jvm.MethodName) jdk_29_method_66_code (4 : Nat) (Option.some Jvm.ClassFile.FieldType.long), Jvm.Cond.code ({ cls := "java/lang/Math", name := "min", desc := "(JJ)J" } : Jvm.MethodName) jdk_29_method_70_code (4 : Nat) (Option.some Jvm.ClassFile.FieldType.long)]
set_option maxRecDepth 65536 in
theorem codes_eq : words1.filter isCode = codes1 := rfl
theorem w_codes : ∀ c ∈ words1.filter isCode, c.before args0 about1 = true := by
  rw [codes_eq]
  intro c hc
  simp only [codes1, List.mem_cons, List.not_mem_nil, or_false] at hc
  rcases hc with rfl | rfl | rfl | rfl | rfl | rfl | rfl
  · exact w_c0
  · exact w_c1
  · exact w_c2
  · exact w_c3
  · exact w_c4
  · exact w_c5
  · exact w_c6
set_option maxRecDepth 65536 in
theorem w_t1 : (words1.take 24).all (fun c => isCode c || c.before args0 about1) = true := by decide +kernel
set_option maxRecDepth 65536 in
theorem w_t2 : (words1.drop 24).all (fun c => isCode c || c.before args0 about1) = true := by decide +kernel
theorem w_tables : (allAtoms (Jvm.Cond.code x code maxLocals ret :: tables_1)).before args0 about1 = true := by
  rw [allAtoms_all]
  show words1.all (fun c => c.before args0 about1) = true
  refine all_split ?_ w_codes
  rw [← List.take_append_drop 24 words1, List.all_append, w_t1, w_t2]
  rfl
set_option maxRecDepth 65536 in
theorem w_case : (Jvm.Cond.and given_1 narrow_1).before args0 about1 = true := by decide +kernel
theorem w_applies : (headSpec (Jvm.Cond.code x code maxLocals ret :: tables_1) room_1).applies x e0.platform about1 = true :=
  (Spec.applies_iff w_frames).mpr ⟨w_running, w_runnable, w_alone, w_named, w_hears, w_ripe, w_room, w_tables⟩
theorem atStart : AtStart classFile x code maxLocals ret World_1 tables_1 room_1 Calls_1 rest_1 Pre_1 launch0 p0 e0 about1 theMethod args0 below0 :=
  ⟨lists_1, trivial, launch0.admits_env _ _ _, launch0.least_env, fairChoices_fair.cas, fairChoices_fair.clock, w_frames, w_args, w_heap, w_applies, trivial, trivial, w_case⟩
end start1
theorem witness_1 : WitnessClaimed_1 := ⟨start1.p0, start1.e0, start1.about1, start1.theMethod, start1.args0, start1.below0, start1.atStart⟩
end Jvm.Pilot.@@N@@
