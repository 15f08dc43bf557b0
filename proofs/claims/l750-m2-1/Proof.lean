import JvmDerived
import JvmDerived.Pilot.@@N@@Statement
import JvmDerived.Pilot.@@N@@Code
set_option linter.unusedVariables false
set_option linter.unusedSimpArgs false
namespace Jvm.RoadKit
open Sem ClassFile Op Lib Jvm.Stand Jvm.Free Jvm.LawKit
section New
variable {p : Program} {l : Launch} {e : Env} {R : Room} {s : State} {m : MethodId} {args : Array Value} {below : List Frame} {meth : Method} {c : Code} {T : State} {locs : List Loc} {cells slots : Nat}
theorem retI (X : Stand p l e R s m args below meth c T locs cells slots) (hx : p.tables.exec = Jvm.exec) {pc : Nat} {Ls : Array Slot} {z : Int32} {rest : List Value} (hret : meth.sig.returnType = some .int) (hd : decode c.code pc = .ok (.ireturn, 1)) {fs : List Frame}
    (hl : ∀ (f : JFrame) (acts : List Action), f.method = m → f.locked = none → f.entered = [] → (doReturn e (T.setTop f) acts (some (.int z))).1 = T.setFrames fs) : Steps p.tables e below (T.setTop (mkF m pc Ls (.int z :: rest))) (T.setFrames fs) := by
  have hm' : T.vm.method? m = some meth := X.method'
  have hn : narrow .int (.int z) = .int z := rfl
  show Steps p.tables e below (T.setTop { method := m, pc := pc, locals := Ls, stack := _ :: rest, locked := none }) _
  jvm_step X.here [X.here.top, hx, hd, hm', hret, hn]
  first | (intro acts; rw [hl _ acts rfl rfl rfl]) | rw [hl _ _ rfl rfl rfl]
  exact Steps.refl _
end New
end Jvm.RoadKit
namespace Jvm.Pilot.@@N@@
open Jvm Jvm.ClassFile Sem Op Lib Jvm.Free Jvm.Stand Jvm.LawKit Jvm.RoadKit Bundle Jvm.Pilot.@@N@@.Jvm.D
abbrev own_S (p : Program) (e : Env) (below : List Frame) (S T : State) (f : JFrame) : Prop := ∀ tt, Steps p.tables e below (T.setTop f) tt → Steps p.tables e below S tt
theorem own_b53 (x : Int32) : B53 x.toInt64 := by
  have h := c_i2l x
  have r := rng32 x
  exact ⟨by omega, by omega⟩
theorem own_dc (x y : Int32) (o : CmpOp) : cmpValue (FP.dcmp (FP.i2d x) (FP.i2d y)) o = lcmpW (x.toInt64) (y.toInt64) := by
  rw [i2d_w, i2d_w]; exact dcmpV_w (own_b53 x) (own_b53 y) o
theorem own_lt (x y : Int32) : lcmpW (x.toInt64) (y.toInt64) < (0 : Int32) ↔ x < y := by
  rw [lw_lt, Int64.lt_iff_toInt_lt, Int32.lt_iff_toInt_lt, c_i2l, c_i2l]
theorem own_gt (x y : Int32) : (0 : Int32) < lcmpW (x.toInt64) (y.toInt64) ↔ y < x := by
  rw [lw_gt, Int64.lt_iff_toInt_lt, Int32.lt_iff_toInt_lt, c_i2l, c_i2l]
def own_g (x y : Int32) : Int32 := if (0 : Int32) < lcmpW (x.toInt64) (y.toInt64) then 1 else 0
theorem own_4 (x : Int32) : x &&& 3 = 0 ∨ x &&& 3 = 1 ∨ x &&& 3 = 2 ∨ x &&& 3 = 3 := by
  have h1 := c_mask x 3 2 (by decide) (by decide)
  have e4 : ((2 ^ 2 : Nat) : Int) = 4 := by decide
  rw [e4] at h1
  have e0 : (0 : Int32).toInt = 0 := rfl
  have e1 : (1 : Int32).toInt = 1 := rfl
  have e2 : (2 : Int32).toInt = 2 := rfl
  have e3 : (3 : Int32).toInt = 3 := rfl
  simp only [← Int32.toInt_inj]
  omega
theorem own_tri (x y : Int32) (h1 : x < y) (h2 : y < x) : False := by rw [Int32.lt_iff_toInt_lt] at h1 h2; omega
theorem pn0 : plainName "com/example/declination/declination/ranking/NondominatedSorting" = true := by first | (simp [plainName, overriddenIn]; done) | decide +kernel
theorem d1_0 : decode prog_38_method_2_code 0 = .ok (.iconst 0, 1) := by decide +kernel
theorem d1_1 : decode prog_38_method_2_code 1 = .ok (.istore_n 2, 1) := by decide +kernel
theorem d1_2 : decode prog_38_method_2_code 2 = .ok (.iconst 0, 1) := by decide +kernel
theorem d1_3 : decode prog_38_method_2_code 3 = .ok (.istore_n 3, 1) := by decide +kernel
theorem d1_4 : decode prog_38_method_2_code 4 = .ok (.iload_n 3, 1) := by decide +kernel
theorem d1_5 : decode prog_38_method_2_code 5 = .ok (.aload_n 0, 1) := by decide +kernel
theorem d1_6 : decode prog_38_method_2_code 6 = .ok (.arraylength, 1) := by decide +kernel
theorem d1_7 : decode prog_38_method_2_code 7 = .ok (.if_icmp .ge 39, 3) := by decide +kernel
theorem d1_46 : decode prog_38_method_2_code 46 = .ok (.iload_n 2, 1) := by decide +kernel
theorem d1_47 : decode prog_38_method_2_code 47 = .ok (.ireturn, 1) := by decide +kernel
theorem ef1k0 (m : MethodId) (x0 : Addr) (x1 : Addr) : entryFrame m #[(.ref x0), (.ref x1)] 4 = mkF m 0 #[.val (.ref x0), .val (.ref x1), .unset, .unset] [] := by first | (simp [entryFrame, mkF, argsToLocals, Value.category]; done) | rfl
def Q1k0 (Z : State) (o1 : Addr) (o2 : Addr) (k1 : ClassId) (k2 : ClassId) (h0 : Heap) (n0 : Nat) (v : Option Value) (h : Heap) (L : List Loc) : Prop := v = some (.int (nar .boolean (0 : Int32))) ∧ Fr n0 L ∧ h = h0
set_option maxRecDepth 65536 in
set_option maxHeartbeats 40000000 in
theorem rm1k0 (l : Launch) (Z : State) (a0 : Array Value) (hw : ∀ d ∈ tables_1, d.before a0 Z = true) (ws : List Jvm.Cond) (o1 : Addr) (o2 : Addr) (k1 : ClassId) (k2 : ClassId) (h0 : Heap) (n0 : Nat) (Z0 : n0 ≤ h0.size) (V1 : Arv Z h0 o1 k1 .double (0 : Int32) [] (.double 0)) (V2 : Arv Z h0 o2 k2 .double (0 : Int32) [] (.double 0)) :
    MetFree l (⟨"com/example/declination/declination/ranking/NondominatedSorting", "dominates", "([D[D)Z"⟩ : MethodName) (head1 (Jvm.Cond.code (⟨"com/example/declination/declination/ranking/NondominatedSorting", "dominates", "([D[D)Z"⟩ : MethodName) prog_38_method_2_code 4 (some .boolean) :: ws) ({ frames := 0, cells := 0, slots := 0, locals := 0 } : Room)) (fun aa UU => aa = #[(.ref o1), (.ref o2)] ∧ Z.Warmed39 UU.vm ∧ UU.heap = h0) (fun _ _ _ _ _ => True) (fun _ UU oo UU' => ∃ vv LL, oo = .returned vv ∧ Q1k0 Z o1 o2 k1 k2 h0 n0 vv UU'.heap LL ∧ FrameEnd UU oo UU' LL ({ frames := 0, cells := 0, slots := 0, locals := 0 } : Room).cells ({ frames := 0, cells := 0, slots := 0, locals := 0 } : Room).slots) := by
  have W : ∀ {d : Jvm.Cond} (i : Nat), tables_1[i]? = some d → d.before a0 Z = true := fun i h => hw _ (List.mem_of_getElem? h)
  refine MetFree.of_bodySF (plainFor_of_name pn0) hisR ?_
  intro p e s m args below meth c s₁ Bd hml0 hP hK
  obtain ⟨rfl, hZ, hh⟩ := hP
  have hx := Bd.exec
  have hby := Bd.bytes
  have hml : c.maxLocals = 4 := hml0
  have hown : s.vm.findClass "com/example/declination/declination/ranking/NondominatedSorting" = some m.cls := findClass_of_methodNamed Bd.named
  have hnm := (name_of_methodNamed Bd.named Bd.method).1
  have X0 : Stand p l e ({ frames := 0, cells := 0, slots := 0, locals := 0 } : Room) s m #[(.ref o1), (.ref o2)] below meth c s₁ [] 0 0 := Stand.of_body Bd
  have e0 : s₁.heap = h0 := by rw [← hh, Bd.state]; rfl
  have N0 := Fr.nil n0
  have pre0 : ∀ tt, Steps p.tables e below (s₁.setTop (mkF m 0 #[rv o1, rv o2, .unset, .unset] [])) tt → Steps p.tables e below (s₁.setTop (entryFrame m #[(.ref o1), (.ref o2)] 4)) tt := fun tt kt => castTop (ef1k0 m o1 o2) kt
  obtain ⟨ST, hST⟩ : ∃ z : State, z = s₁.setTop (mkF m 0 #[rv o1, rv o2, .unset, .unset] []) := ⟨_, rfl⟩
  rw [← hST] at pre0
  have go101 : own_S p e below ST s₁ (mkF m 6 #[rv o1, rv o2, iv (0 : Int32), iv (0 : Int32)] [(.ref o1), (.int (0 : Int32))]) := fun tt kt => (by
      rw [hST]
      show Steps p.tables e below (s₁.setTop (mkF m 0 #[rv o1, rv o2, .unset, .unset] [])) _
      refine XS.iconst X0.here hx rfl (hb hby d1_0) ?_
      refine XS.istoreN X0.here hx rfl (hb hby d1_1) rfl (l' := #[rv o1, rv o2, iv (0 : Int32), .unset]) rfl ?_
      refine XS.iconst X0.here hx rfl (hb hby d1_2) ?_
      refine XS.istoreN X0.here hx rfl (hb hby d1_3) rfl (l' := #[rv o1, rv o2, iv (0 : Int32), iv (0 : Int32)]) rfl ?_
      refine XS.iloadN X0.here hx rfl (hb hby d1_4) rfl ?_
      refine XS.aloadN X0.here hx rfl (hb hby d1_5) rfl rfl ?_
      exact kt)
  obtain ⟨cl102, Ar102, q102, S102, M102, H102, G102⟩ := id V1
  have go103 : own_S p e below ST s₁ (mkF m 7 #[rv o1, rv o2, iv (0 : Int32), iv (0 : Int32)] [(.int (0 : Int32)), (.int (0 : Int32))]) := fun tt kt => go101 tt (by
      refine X0.arraylength hx (by rw [e0]; exact Ar102.1) (State.isArrayOf_alike hZ.alike Ar102.2.1) (g := (mkF m 6 #[rv o1, rv o2, iv (0 : Int32), iv (0 : Int32)] [(.ref o1), (.int (0 : Int32))])) rfl rfl (hb hby d1_6) _ ?_
      rw [len_of S102 M102]
      exact kt)
  have go104 : own_S p e below ST s₁ (mkF m 47 #[rv o1, rv o2, iv (0 : Int32), iv (0 : Int32)] [(.int (0 : Int32))]) := fun tt kt => go103 tt (by
      refine XS.icmpYes X0.here hx rfl (pc0 := 7) (pc' := 46) rfl (hb hby d1_7) rfl (flt (by decide : ¬ ((0 : Int32) < (0 : Int32)))).2.1 (by decide) (by decide) ?_
      refine XS.iloadN X0.here hx rfl (hb hby d1_46) rfl ?_
      exact kt)
  obtain ⟨fs, hr, hrun, hended, hW, hsame⟩ := X0.leave (v := some (.int (0 : Int32))) (fun h => by rw [Bd.returns] at h; cases h)
  refine ⟨_, _, pre0 _ (go104 _ ?_), hrun, hended, _, _, rfl, ?_, ⟨_, rfl⟩, hW, hsame.mono (by decide) (by decide)⟩
  · exact retN X0 hx (t := .boolean) Bd.returns (by simp) (hb hby d1_47) hr
  · show Q1k0 Z o1 o2 k1 k2 h0 n0 _ s₁.heap _
    rw [e0]
    exact ⟨rfl, N0, rfl⟩
theorem d1_10 : decode prog_38_method_2_code 10 = .ok (.aload_n 0, 1) := by decide +kernel
theorem d1_11 : decode prog_38_method_2_code 11 = .ok (.iload_n 3, 1) := by decide +kernel
theorem d1_12 : decode prog_38_method_2_code 12 = .ok (.daload, 1) := by decide +kernel
theorem d1_13 : decode prog_38_method_2_code 13 = .ok (.aload_n 1, 1) := by decide +kernel
theorem d1_14 : decode prog_38_method_2_code 14 = .ok (.iload_n 3, 1) := by decide +kernel
theorem d1_15 : decode prog_38_method_2_code 15 = .ok (.daload, 1) := by decide +kernel
theorem d1_16 : decode prog_38_method_2_code 16 = .ok (.dcmp .g, 1) := by decide +kernel
theorem d1_17 : decode prog_38_method_2_code 17 = .ok (.ifCond .ge 5, 3) := by decide +kernel
theorem d1_20 : decode prog_38_method_2_code 20 = .ok (.iconst 0, 1) := by decide +kernel
theorem d1_21 : decode prog_38_method_2_code 21 = .ok (.ireturn, 1) := by decide +kernel
theorem d1_22 : decode prog_38_method_2_code 22 = .ok (.iload_n 2, 1) := by decide +kernel
theorem d1_23 : decode prog_38_method_2_code 23 = .ok (.aload_n 0, 1) := by decide +kernel
theorem d1_24 : decode prog_38_method_2_code 24 = .ok (.iload_n 3, 1) := by decide +kernel
theorem d1_25 : decode prog_38_method_2_code 25 = .ok (.daload, 1) := by decide +kernel
theorem d1_26 : decode prog_38_method_2_code 26 = .ok (.aload_n 1, 1) := by decide +kernel
theorem d1_27 : decode prog_38_method_2_code 27 = .ok (.iload_n 3, 1) := by decide +kernel
theorem d1_28 : decode prog_38_method_2_code 28 = .ok (.daload, 1) := by decide +kernel
theorem d1_29 : decode prog_38_method_2_code 29 = .ok (.dcmp .l, 1) := by decide +kernel
theorem d1_30 : decode prog_38_method_2_code 30 = .ok (.ifCond .le 7, 3) := by decide +kernel
theorem d1_33 : decode prog_38_method_2_code 33 = .ok (.iconst 1, 1) := by decide +kernel
theorem d1_34 : decode prog_38_method_2_code 34 = .ok (.goto 4, 3) := by decide +kernel
theorem d1_37 : decode prog_38_method_2_code 37 = .ok (.iconst 0, 1) := by decide +kernel
theorem d1_38 : decode prog_38_method_2_code 38 = .ok (.ior, 1) := by decide +kernel
theorem d1_39 : decode prog_38_method_2_code 39 = .ok (.istore_n 2, 1) := by decide +kernel
theorem d1_40 : decode prog_38_method_2_code 40 = .ok (.iinc 3 1, 3) := by decide +kernel
theorem d1_43 : decode prog_38_method_2_code 43 = .ok (.goto (-39), 3) := by decide +kernel
theorem ef1k1 (m : MethodId) (x0 : Addr) (x1 : Addr) : entryFrame m #[(.ref x0), (.ref x1)] 4 = mkF m 0 #[.val (.ref x0), .val (.ref x1), .unset, .unset] [] := by first | (simp [entryFrame, mkF, argsToLocals, Value.category]; done) | rfl
def Q1k1 (Z : State) (o1 : Addr) (o2 : Addr) (k1 : ClassId) (k2 : ClassId) (x0 : Int32) (y0 : Int32) (h0 : Heap) (n0 : Nat) (v : Option Value) (h : Heap) (L : List Loc) : Prop := v = some (.int (if lcmpW (x0.toInt64) (y0.toInt64) < (0 : Int32) then 0 else (nar .boolean ((0 : Int32) ||| own_g x0 y0)))) ∧ Fr n0 L ∧ h = h0
set_option maxRecDepth 65536 in
set_option maxHeartbeats 40000000 in
theorem rm1k1 (l : Launch) (Z : State) (a0 : Array Value) (hw : ∀ d ∈ tables_1, d.before a0 Z = true) (ws : List Jvm.Cond) (o1 : Addr) (o2 : Addr) (k1 : ClassId) (k2 : ClassId) (x0 : Int32) (y0 : Int32) (h0 : Heap) (n0 : Nat) (Z0 : n0 ≤ h0.size) (V1 : Arv Z h0 o1 k1 .double (1 : Int32) [(.double (FP.i2d x0))] (.double 0)) (V2 : Arv Z h0 o2 k2 .double (1 : Int32) [(.double (FP.i2d y0))] (.double 0)) :
    MetFree l (⟨"com/example/declination/declination/ranking/NondominatedSorting", "dominates", "([D[D)Z"⟩ : MethodName) (head1 (Jvm.Cond.code (⟨"com/example/declination/declination/ranking/NondominatedSorting", "dominates", "([D[D)Z"⟩ : MethodName) prog_38_method_2_code 4 (some .boolean) :: ws) ({ frames := 0, cells := 0, slots := 0, locals := 0 } : Room)) (fun aa UU => aa = #[(.ref o1), (.ref o2)] ∧ Z.Warmed39 UU.vm ∧ UU.heap = h0) (fun _ _ _ _ _ => True) (fun _ UU oo UU' => ∃ vv LL, oo = .returned vv ∧ Q1k1 Z o1 o2 k1 k2 x0 y0 h0 n0 vv UU'.heap LL ∧ FrameEnd UU oo UU' LL ({ frames := 0, cells := 0, slots := 0, locals := 0 } : Room).cells ({ frames := 0, cells := 0, slots := 0, locals := 0 } : Room).slots) := by
  have W : ∀ {d : Jvm.Cond} (i : Nat), tables_1[i]? = some d → d.before a0 Z = true := fun i h => hw _ (List.mem_of_getElem? h)
  refine MetFree.of_bodySF (plainFor_of_name pn0) hisR ?_
  intro p e s m args below meth c s₁ Bd hml0 hP hK
  obtain ⟨rfl, hZ, hh⟩ := hP
  have hx := Bd.exec
  have hby := Bd.bytes
  have hml : c.maxLocals = 4 := hml0
  have hown : s.vm.findClass "com/example/declination/declination/ranking/NondominatedSorting" = some m.cls := findClass_of_methodNamed Bd.named
  have hnm := (name_of_methodNamed Bd.named Bd.method).1
  have X0 : Stand p l e ({ frames := 0, cells := 0, slots := 0, locals := 0 } : Room) s m #[(.ref o1), (.ref o2)] below meth c s₁ [] 0 0 := Stand.of_body Bd
  have e0 : s₁.heap = h0 := by rw [← hh, Bd.state]; rfl
  have N0 := Fr.nil n0
  have pre0 : ∀ tt, Steps p.tables e below (s₁.setTop (mkF m 0 #[rv o1, rv o2, .unset, .unset] [])) tt → Steps p.tables e below (s₁.setTop (entryFrame m #[(.ref o1), (.ref o2)] 4)) tt := fun tt kt => castTop (ef1k1 m o1 o2) kt
  obtain ⟨ST, hST⟩ : ∃ z : State, z = s₁.setTop (mkF m 0 #[rv o1, rv o2, .unset, .unset] []) := ⟨_, rfl⟩
  rw [← hST] at pre0
  have go105 : own_S p e below ST s₁ (mkF m 6 #[rv o1, rv o2, iv (0 : Int32), iv (0 : Int32)] [(.ref o1), (.int (0 : Int32))]) := fun tt kt => (by
      rw [hST]
      show Steps p.tables e below (s₁.setTop (mkF m 0 #[rv o1, rv o2, .unset, .unset] [])) _
      refine XS.iconst X0.here hx rfl (hb hby d1_0) ?_
      refine XS.istoreN X0.here hx rfl (hb hby d1_1) rfl (l' := #[rv o1, rv o2, iv (0 : Int32), .unset]) rfl ?_
      refine XS.iconst X0.here hx rfl (hb hby d1_2) ?_
      refine XS.istoreN X0.here hx rfl (hb hby d1_3) rfl (l' := #[rv o1, rv o2, iv (0 : Int32), iv (0 : Int32)]) rfl ?_
      refine XS.iloadN X0.here hx rfl (hb hby d1_4) rfl ?_
      refine XS.aloadN X0.here hx rfl (hb hby d1_5) rfl rfl ?_
      exact kt)
  obtain ⟨cl106, Ar106, q106, S106, M106, H106, G106⟩ := id V1
  have go107 : own_S p e below ST s₁ (mkF m 7 #[rv o1, rv o2, iv (0 : Int32), iv (0 : Int32)] [(.int (1 : Int32)), (.int (0 : Int32))]) := fun tt kt => go105 tt (by
      refine X0.arraylength hx (by rw [e0]; exact Ar106.1) (State.isArrayOf_alike hZ.alike Ar106.2.1) (g := (mkF m 6 #[rv o1, rv o2, iv (0 : Int32), iv (0 : Int32)] [(.ref o1), (.int (0 : Int32))])) rfl rfl (hb hby d1_6) _ ?_
      rw [len_of S106 M106]
      exact kt)
  have go108 : own_S p e below ST s₁ (mkF m 12 #[rv o1, rv o2, iv (0 : Int32), iv (0 : Int32)] [(.int (0 : Int32)), (.ref o1)]) := fun tt kt => go107 tt (by
      refine XS.icmpNo X0.here hx rfl (hb hby d1_7) rfl (tlt (by decide : (0 : Int32) < (1 : Int32))).2.1 ?_
      refine XS.aloadN X0.here hx rfl (hb hby d1_10) rfl rfl ?_
      refine XS.iloadN X0.here hx rfl (hb hby d1_11) rfl ?_
      exact kt)
  obtain ⟨cl109, Ar109, q109, S109, M109, H109, G109⟩ := id V1
  have hin109 : ¬ ((0 : Int32) < 0 ∨ cl109.slots.size ≤ ((0 : Int32)).toNatClampNeg) := inb_of S109 ⟨by decide, by decide⟩
  have hat109 : cl109.slots[((0 : Int32)).toNatClampNeg]? = some (.double (FP.i2d x0)) := H109.at hin109 rfl
  have go110 : own_S p e below ST s₁ (mkF m 13 #[rv o1, rv o2, iv (0 : Int32), iv (0 : Int32)] [(.double (FP.i2d x0))]) := fun tt kt => go108 tt (by
      refine X0.daload hx (j := (0 : Int32)) (v := (.double (FP.i2d x0))) (by rw [e0]; exact Ar109.1) (State.isArrayOf_alike hZ.alike Ar109.2.1) Ar109.2.2 hin109 hat109 (g := (mkF m 12 #[rv o1, rv o2, iv (0 : Int32), iv (0 : Int32)] [(.int (0 : Int32)), (.ref o1)])) rfl rfl (hb hby d1_12) _ ?_
      exact kt)
  have go111 : own_S p e below ST s₁ (mkF m 15 #[rv o1, rv o2, iv (0 : Int32), iv (0 : Int32)] [(.int (0 : Int32)), (.ref o2), (.double (FP.i2d x0))]) := fun tt kt => go110 tt (by
      refine XS.aloadN X0.here hx rfl (hb hby d1_13) rfl rfl ?_
      refine XS.iloadN X0.here hx rfl (hb hby d1_14) rfl ?_
      exact kt)
  obtain ⟨cl112, Ar112, q112, S112, M112, H112, G112⟩ := id V2
  have hin112 : ¬ ((0 : Int32) < 0 ∨ cl112.slots.size ≤ ((0 : Int32)).toNatClampNeg) := inb_of S112 ⟨by decide, by decide⟩
  have hat112 : cl112.slots[((0 : Int32)).toNatClampNeg]? = some (.double (FP.i2d y0)) := H112.at hin112 rfl
  have go113 : own_S p e below ST s₁ (mkF m 16 #[rv o1, rv o2, iv (0 : Int32), iv (0 : Int32)] [(.double (FP.i2d y0)), (.double (FP.i2d x0))]) := fun tt kt => go111 tt (by
      refine X0.daload hx (j := (0 : Int32)) (v := (.double (FP.i2d y0))) (by rw [e0]; exact Ar112.1) (State.isArrayOf_alike hZ.alike Ar112.2.1) Ar112.2.2 hin112 hat112 (g := (mkF m 15 #[rv o1, rv o2, iv (0 : Int32), iv (0 : Int32)] [(.int (0 : Int32)), (.ref o2), (.double (FP.i2d x0))])) rfl rfl (hb hby d1_15) _ ?_
      exact kt)
  have go114 : own_S p e below ST s₁ (mkF m 17 #[rv o1, rv o2, iv (0 : Int32), iv (0 : Int32)] [(.int (lcmpW (x0.toInt64) (y0.toInt64)))]) := fun tt kt => go113 tt (by
      refine XS.dcmpS X0.here hx rfl (hb hby d1_16) rfl (own_dc x0 y0 _) ?_
      exact kt)
  by_cases ha0 : (lcmpW (x0.toInt64) (y0.toInt64)) < (0 : Int32)
  · have go115 : own_S p e below ST s₁ (mkF m 20 #[rv o1, rv o2, iv (0 : Int32), iv (0 : Int32)] []) := fun tt kt => go114 tt (by
        refine XS.ifNo X0.here hx rfl (hb hby d1_17) rfl ((if0 _ _).trans (tlt ha0).2.1) ?_
        exact kt)
    have go116 : own_S p e below ST s₁ (mkF m 21 #[rv o1, rv o2, iv (0 : Int32), iv (0 : Int32)] [(.int (0 : Int32))]) := fun tt kt => go115 tt (by
        refine XS.iconst X0.here hx rfl (hb hby d1_20) ?_
        exact kt)
    obtain ⟨fs, hr, hrun, hended, hW, hsame⟩ := X0.leave (v := some (.int (0 : Int32))) (fun h => by rw [Bd.returns] at h; cases h)
    refine ⟨_, _, pre0 _ (go116 _ ?_), hrun, hended, _, _, rfl, ?_, ⟨_, rfl⟩, hW, hsame.mono (by decide) (by decide)⟩
    · exact retN X0 hx (t := .boolean) Bd.returns (by simp) (hb hby d1_21) hr
    · show Q1k1 Z o1 o2 k1 k2 x0 y0 h0 n0 _ s₁.heap _
      rw [e0]
      exact ⟨(by rw [if_pos ha0]), N0, rfl⟩
  · have go117 : own_S p e below ST s₁ (mkF m 22 #[rv o1, rv o2, iv (0 : Int32), iv (0 : Int32)] []) := fun tt kt => go114 tt (by
        refine XS.ifYes X0.here hx rfl (pc0 := 17) (pc' := 22) rfl (hb hby d1_17) rfl ((if0 _ _).trans (flt ha0).2.1) (by decide) (by decide) ?_
        exact kt)
    have go118 : own_S p e below ST s₁ (mkF m 25 #[rv o1, rv o2, iv (0 : Int32), iv (0 : Int32)] [(.int (0 : Int32)), (.ref o1), (.int (0 : Int32))]) := fun tt kt => go117 tt (by
        refine XS.iloadN X0.here hx rfl (hb hby d1_22) rfl ?_
        refine XS.aloadN X0.here hx rfl (hb hby d1_23) rfl rfl ?_
        refine XS.iloadN X0.here hx rfl (hb hby d1_24) rfl ?_
        exact kt)
    obtain ⟨cl119, Ar119, q119, S119, M119, H119, G119⟩ := id V1
    have hin119 : ¬ ((0 : Int32) < 0 ∨ cl119.slots.size ≤ ((0 : Int32)).toNatClampNeg) := inb_of S119 ⟨by decide, by decide⟩
    have hat119 : cl119.slots[((0 : Int32)).toNatClampNeg]? = some (.double (FP.i2d x0)) := H119.at hin119 rfl
    have go120 : own_S p e below ST s₁ (mkF m 26 #[rv o1, rv o2, iv (0 : Int32), iv (0 : Int32)] [(.double (FP.i2d x0)), (.int (0 : Int32))]) := fun tt kt => go118 tt (by
        refine X0.daload hx (j := (0 : Int32)) (v := (.double (FP.i2d x0))) (by rw [e0]; exact Ar119.1) (State.isArrayOf_alike hZ.alike Ar119.2.1) Ar119.2.2 hin119 hat119 (g := (mkF m 25 #[rv o1, rv o2, iv (0 : Int32), iv (0 : Int32)] [(.int (0 : Int32)), (.ref o1), (.int (0 : Int32))])) rfl rfl (hb hby d1_25) _ ?_
        exact kt)
    have go121 : own_S p e below ST s₁ (mkF m 28 #[rv o1, rv o2, iv (0 : Int32), iv (0 : Int32)] [(.int (0 : Int32)), (.ref o2), (.double (FP.i2d x0)), (.int (0 : Int32))]) := fun tt kt => go120 tt (by
        refine XS.aloadN X0.here hx rfl (hb hby d1_26) rfl rfl ?_
        refine XS.iloadN X0.here hx rfl (hb hby d1_27) rfl ?_
        exact kt)
    obtain ⟨cl122, Ar122, q122, S122, M122, H122, G122⟩ := id V2
    have hin122 : ¬ ((0 : Int32) < 0 ∨ cl122.slots.size ≤ ((0 : Int32)).toNatClampNeg) := inb_of S122 ⟨by decide, by decide⟩
    have hat122 : cl122.slots[((0 : Int32)).toNatClampNeg]? = some (.double (FP.i2d y0)) := H122.at hin122 rfl
    have go123 : own_S p e below ST s₁ (mkF m 29 #[rv o1, rv o2, iv (0 : Int32), iv (0 : Int32)] [(.double (FP.i2d y0)), (.double (FP.i2d x0)), (.int (0 : Int32))]) := fun tt kt => go121 tt (by
        refine X0.daload hx (j := (0 : Int32)) (v := (.double (FP.i2d y0))) (by rw [e0]; exact Ar122.1) (State.isArrayOf_alike hZ.alike Ar122.2.1) Ar122.2.2 hin122 hat122 (g := (mkF m 28 #[rv o1, rv o2, iv (0 : Int32), iv (0 : Int32)] [(.int (0 : Int32)), (.ref o2), (.double (FP.i2d x0)), (.int (0 : Int32))])) rfl rfl (hb hby d1_28) _ ?_
        exact kt)
    have go124 : own_S p e below ST s₁ (mkF m 30 #[rv o1, rv o2, iv (0 : Int32), iv (0 : Int32)] [(.int (lcmpW (x0.toInt64) (y0.toInt64))), (.int (0 : Int32))]) := fun tt kt => go123 tt (by
        refine XS.dcmpS X0.here hx rfl (hb hby d1_29) rfl (own_dc x0 y0 _) ?_
        exact kt)
    obtain ⟨v0, hv0, sg125⟩ : ∃ (v0 : Int32), v0 = (if (0 : Int32) < (lcmpW (x0.toInt64) (y0.toInt64)) then (1 : Int32) else (0 : Int32)) ∧ ∀ tt, Steps p.tables e below (s₁.setTop (mkF m 38 #[rv o1, rv o2, iv (0 : Int32), iv (0 : Int32)] [(.int v0), (.int (0 : Int32))])) tt → Steps p.tables e below (s₁.setTop (mkF m 30 #[rv o1, rv o2, iv (0 : Int32), iv (0 : Int32)] [(.int (lcmpW (x0.toInt64) (y0.toInt64))), (.int (0 : Int32))])) tt := by
      by_cases hd30_0 : (0 : Int32) < (lcmpW (x0.toInt64) (y0.toInt64))
      · refine ⟨_, (if_pos hd30_0).symm, fun tt kt => ?_⟩
        show Steps p.tables e below (s₁.setTop (mkF m 30 #[rv o1, rv o2, iv (0 : Int32), iv (0 : Int32)] [(.int (lcmpW (x0.toInt64) (y0.toInt64))), (.int (0 : Int32))])) _
        refine XS.ifNo X0.here hx rfl (hb hby d1_30) rfl ((if0 _ _).trans (tlt hd30_0).2.2.2) ?_
        refine XS.iconst X0.here hx rfl (hb hby d1_33) ?_
        refine XS.goto X0.here hx rfl (pc0 := 34) (pc' := 38) rfl (hb hby d1_34) (by decide) (by decide) ?_
        exact kt
      · refine ⟨_, (if_neg hd30_0).symm, fun tt kt => ?_⟩
        show Steps p.tables e below (s₁.setTop (mkF m 30 #[rv o1, rv o2, iv (0 : Int32), iv (0 : Int32)] [(.int (lcmpW (x0.toInt64) (y0.toInt64))), (.int (0 : Int32))])) _
        refine XS.ifYes X0.here hx rfl (pc0 := 30) (pc' := 37) rfl (hb hby d1_30) rfl ((if0 _ _).trans (flt hd30_0).2.2.2) (by decide) (by decide) ?_
        refine XS.iconst X0.here hx rfl (hb hby d1_37) ?_
        exact kt
    have go126 : own_S p e below ST s₁ (mkF m 38 #[rv o1, rv o2, iv (0 : Int32), iv (0 : Int32)] [(.int v0), (.int (0 : Int32))]) := fun tt kt => go124 tt (sg125 _ kt)
    have go127 : own_S p e below ST s₁ (mkF m 6 #[rv o1, rv o2, iv ((0 : Int32) ||| v0), iv (1 : Int32)] [(.ref o1), (.int (1 : Int32))]) := fun tt kt => go126 tt (by
        refine XS.ior X0.here hx rfl (hb hby d1_38) rfl ?_
        refine XS.istoreN X0.here hx rfl (hb hby d1_39) rfl (l' := #[rv o1, rv o2, iv ((0 : Int32) ||| v0), iv (0 : Int32)]) rfl ?_
        refine XS.iinc X0.here hx rfl (hb hby d1_40) rfl (l' := #[rv o1, rv o2, iv ((0 : Int32) ||| v0), iv (1 : Int32)]) rfl ?_
        refine XS.goto X0.here hx rfl (pc0 := 43) (pc' := 4) rfl (hb hby d1_43) (by decide) (by decide) ?_
        refine XS.iloadN X0.here hx rfl (hb hby d1_4) rfl ?_
        refine XS.aloadN X0.here hx rfl (hb hby d1_5) rfl rfl ?_
        exact kt)
    obtain ⟨cl128, Ar128, q128, S128, M128, H128, G128⟩ := id V1
    have go129 : own_S p e below ST s₁ (mkF m 7 #[rv o1, rv o2, iv ((0 : Int32) ||| v0), iv (1 : Int32)] [(.int (1 : Int32)), (.int (1 : Int32))]) := fun tt kt => go127 tt (by
        refine X0.arraylength hx (by rw [e0]; exact Ar128.1) (State.isArrayOf_alike hZ.alike Ar128.2.1) (g := (mkF m 6 #[rv o1, rv o2, iv ((0 : Int32) ||| v0), iv (1 : Int32)] [(.ref o1), (.int (1 : Int32))])) rfl rfl (hb hby d1_6) _ ?_
        rw [len_of S128 M128]
        exact kt)
    have go130 : own_S p e below ST s₁ (mkF m 47 #[rv o1, rv o2, iv ((0 : Int32) ||| v0), iv (1 : Int32)] [(.int ((0 : Int32) ||| v0))]) := fun tt kt => go129 tt (by
        refine XS.icmpYes X0.here hx rfl (pc0 := 7) (pc' := 46) rfl (hb hby d1_7) rfl (flt (by decide : ¬ ((1 : Int32) < (1 : Int32)))).2.1 (by decide) (by decide) ?_
        refine XS.iloadN X0.here hx rfl (hb hby d1_46) rfl ?_
        exact kt)
    obtain ⟨fs, hr, hrun, hended, hW, hsame⟩ := X0.leave (v := some (.int (nar .boolean ((0 : Int32) ||| v0)))) (fun h => by rw [Bd.returns] at h; cases h)
    refine ⟨_, _, pre0 _ (go130 _ ?_), hrun, hended, _, _, rfl, ?_, ⟨_, rfl⟩, hW, hsame.mono (by decide) (by decide)⟩
    · exact retN X0 hx (t := .boolean) Bd.returns (by simp) (hb hby d1_47) hr
    · show Q1k1 Z o1 o2 k1 k2 x0 y0 h0 n0 _ s₁.heap _
      rw [e0]
      exact ⟨(by rw [if_neg ha0, hv0]; rfl), N0, rfl⟩
theorem ef1k2 (m : MethodId) (x0 : Addr) (x1 : Addr) : entryFrame m #[(.ref x0), (.ref x1)] 4 = mkF m 0 #[.val (.ref x0), .val (.ref x1), .unset, .unset] [] := by first | (simp [entryFrame, mkF, argsToLocals, Value.category]; done) | rfl
def Q1k2 (Z : State) (o1 : Addr) (o2 : Addr) (k1 : ClassId) (k2 : ClassId) (x0 : Int32) (x1 : Int32) (y0 : Int32) (y1 : Int32) (h0 : Heap) (n0 : Nat) (v : Option Value) (h : Heap) (L : List Loc) : Prop := v = some (.int (if lcmpW (x0.toInt64) (y0.toInt64) < (0 : Int32) then 0 else (if lcmpW (x1.toInt64) (y1.toInt64) < (0 : Int32) then 0 else (nar .boolean (((0 : Int32) ||| own_g x0 y0) ||| own_g x1 y1))))) ∧ Fr n0 L ∧ h = h0
set_option maxRecDepth 65536 in
set_option maxHeartbeats 40000000 in
theorem rm1k2 (l : Launch) (Z : State) (a0 : Array Value) (hw : ∀ d ∈ tables_1, d.before a0 Z = true) (ws : List Jvm.Cond) (o1 : Addr) (o2 : Addr) (k1 : ClassId) (k2 : ClassId) (x0 : Int32) (x1 : Int32) (y0 : Int32) (y1 : Int32) (h0 : Heap) (n0 : Nat) (Z0 : n0 ≤ h0.size) (V1 : Arv Z h0 o1 k1 .double (2 : Int32) [(.double (FP.i2d x0)), (.double (FP.i2d x1))] (.double 0)) (V2 : Arv Z h0 o2 k2 .double (2 : Int32) [(.double (FP.i2d y0)), (.double (FP.i2d y1))] (.double 0)) :
    MetFree l (⟨"com/example/declination/declination/ranking/NondominatedSorting", "dominates", "([D[D)Z"⟩ : MethodName) (head1 (Jvm.Cond.code (⟨"com/example/declination/declination/ranking/NondominatedSorting", "dominates", "([D[D)Z"⟩ : MethodName) prog_38_method_2_code 4 (some .boolean) :: ws) ({ frames := 0, cells := 0, slots := 0, locals := 0 } : Room)) (fun aa UU => aa = #[(.ref o1), (.ref o2)] ∧ Z.Warmed39 UU.vm ∧ UU.heap = h0) (fun _ _ _ _ _ => True) (fun _ UU oo UU' => ∃ vv LL, oo = .returned vv ∧ Q1k2 Z o1 o2 k1 k2 x0 x1 y0 y1 h0 n0 vv UU'.heap LL ∧ FrameEnd UU oo UU' LL ({ frames := 0, cells := 0, slots := 0, locals := 0 } : Room).cells ({ frames := 0, cells := 0, slots := 0, locals := 0 } : Room).slots) := by
  have W : ∀ {d : Jvm.Cond} (i : Nat), tables_1[i]? = some d → d.before a0 Z = true := fun i h => hw _ (List.mem_of_getElem? h)
  refine MetFree.of_bodySF (plainFor_of_name pn0) hisR ?_
  intro p e s m args below meth c s₁ Bd hml0 hP hK
  obtain ⟨rfl, hZ, hh⟩ := hP
  have hx := Bd.exec
  have hby := Bd.bytes
  have hml : c.maxLocals = 4 := hml0
  have hown : s.vm.findClass "com/example/declination/declination/ranking/NondominatedSorting" = some m.cls := findClass_of_methodNamed Bd.named
  have hnm := (name_of_methodNamed Bd.named Bd.method).1
  have X0 : Stand p l e ({ frames := 0, cells := 0, slots := 0, locals := 0 } : Room) s m #[(.ref o1), (.ref o2)] below meth c s₁ [] 0 0 := Stand.of_body Bd
  have e0 : s₁.heap = h0 := by rw [← hh, Bd.state]; rfl
  have N0 := Fr.nil n0
  have pre0 : ∀ tt, Steps p.tables e below (s₁.setTop (mkF m 0 #[rv o1, rv o2, .unset, .unset] [])) tt → Steps p.tables e below (s₁.setTop (entryFrame m #[(.ref o1), (.ref o2)] 4)) tt := fun tt kt => castTop (ef1k2 m o1 o2) kt
  obtain ⟨ST, hST⟩ : ∃ z : State, z = s₁.setTop (mkF m 0 #[rv o1, rv o2, .unset, .unset] []) := ⟨_, rfl⟩
  rw [← hST] at pre0
  have go131 : own_S p e below ST s₁ (mkF m 6 #[rv o1, rv o2, iv (0 : Int32), iv (0 : Int32)] [(.ref o1), (.int (0 : Int32))]) := fun tt kt => (by
      rw [hST]
      show Steps p.tables e below (s₁.setTop (mkF m 0 #[rv o1, rv o2, .unset, .unset] [])) _
      refine XS.iconst X0.here hx rfl (hb hby d1_0) ?_
      refine XS.istoreN X0.here hx rfl (hb hby d1_1) rfl (l' := #[rv o1, rv o2, iv (0 : Int32), .unset]) rfl ?_
      refine XS.iconst X0.here hx rfl (hb hby d1_2) ?_
      refine XS.istoreN X0.here hx rfl (hb hby d1_3) rfl (l' := #[rv o1, rv o2, iv (0 : Int32), iv (0 : Int32)]) rfl ?_
      refine XS.iloadN X0.here hx rfl (hb hby d1_4) rfl ?_
      refine XS.aloadN X0.here hx rfl (hb hby d1_5) rfl rfl ?_
      exact kt)
  obtain ⟨cl132, Ar132, q132, S132, M132, H132, G132⟩ := id V1
  have go133 : own_S p e below ST s₁ (mkF m 7 #[rv o1, rv o2, iv (0 : Int32), iv (0 : Int32)] [(.int (2 : Int32)), (.int (0 : Int32))]) := fun tt kt => go131 tt (by
      refine X0.arraylength hx (by rw [e0]; exact Ar132.1) (State.isArrayOf_alike hZ.alike Ar132.2.1) (g := (mkF m 6 #[rv o1, rv o2, iv (0 : Int32), iv (0 : Int32)] [(.ref o1), (.int (0 : Int32))])) rfl rfl (hb hby d1_6) _ ?_
      rw [len_of S132 M132]
      exact kt)
  have go134 : own_S p e below ST s₁ (mkF m 12 #[rv o1, rv o2, iv (0 : Int32), iv (0 : Int32)] [(.int (0 : Int32)), (.ref o1)]) := fun tt kt => go133 tt (by
      refine XS.icmpNo X0.here hx rfl (hb hby d1_7) rfl (tlt (by decide : (0 : Int32) < (2 : Int32))).2.1 ?_
      refine XS.aloadN X0.here hx rfl (hb hby d1_10) rfl rfl ?_
      refine XS.iloadN X0.here hx rfl (hb hby d1_11) rfl ?_
      exact kt)
  obtain ⟨cl135, Ar135, q135, S135, M135, H135, G135⟩ := id V1
  have hin135 : ¬ ((0 : Int32) < 0 ∨ cl135.slots.size ≤ ((0 : Int32)).toNatClampNeg) := inb_of S135 ⟨by decide, by decide⟩
  have hat135 : cl135.slots[((0 : Int32)).toNatClampNeg]? = some (.double (FP.i2d x0)) := H135.at hin135 rfl
  have go136 : own_S p e below ST s₁ (mkF m 13 #[rv o1, rv o2, iv (0 : Int32), iv (0 : Int32)] [(.double (FP.i2d x0))]) := fun tt kt => go134 tt (by
      refine X0.daload hx (j := (0 : Int32)) (v := (.double (FP.i2d x0))) (by rw [e0]; exact Ar135.1) (State.isArrayOf_alike hZ.alike Ar135.2.1) Ar135.2.2 hin135 hat135 (g := (mkF m 12 #[rv o1, rv o2, iv (0 : Int32), iv (0 : Int32)] [(.int (0 : Int32)), (.ref o1)])) rfl rfl (hb hby d1_12) _ ?_
      exact kt)
  have go137 : own_S p e below ST s₁ (mkF m 15 #[rv o1, rv o2, iv (0 : Int32), iv (0 : Int32)] [(.int (0 : Int32)), (.ref o2), (.double (FP.i2d x0))]) := fun tt kt => go136 tt (by
      refine XS.aloadN X0.here hx rfl (hb hby d1_13) rfl rfl ?_
      refine XS.iloadN X0.here hx rfl (hb hby d1_14) rfl ?_
      exact kt)
  obtain ⟨cl138, Ar138, q138, S138, M138, H138, G138⟩ := id V2
  have hin138 : ¬ ((0 : Int32) < 0 ∨ cl138.slots.size ≤ ((0 : Int32)).toNatClampNeg) := inb_of S138 ⟨by decide, by decide⟩
  have hat138 : cl138.slots[((0 : Int32)).toNatClampNeg]? = some (.double (FP.i2d y0)) := H138.at hin138 rfl
  have go139 : own_S p e below ST s₁ (mkF m 16 #[rv o1, rv o2, iv (0 : Int32), iv (0 : Int32)] [(.double (FP.i2d y0)), (.double (FP.i2d x0))]) := fun tt kt => go137 tt (by
      refine X0.daload hx (j := (0 : Int32)) (v := (.double (FP.i2d y0))) (by rw [e0]; exact Ar138.1) (State.isArrayOf_alike hZ.alike Ar138.2.1) Ar138.2.2 hin138 hat138 (g := (mkF m 15 #[rv o1, rv o2, iv (0 : Int32), iv (0 : Int32)] [(.int (0 : Int32)), (.ref o2), (.double (FP.i2d x0))])) rfl rfl (hb hby d1_15) _ ?_
      exact kt)
  have go140 : own_S p e below ST s₁ (mkF m 17 #[rv o1, rv o2, iv (0 : Int32), iv (0 : Int32)] [(.int (lcmpW (x0.toInt64) (y0.toInt64)))]) := fun tt kt => go139 tt (by
      refine XS.dcmpS X0.here hx rfl (hb hby d1_16) rfl (own_dc x0 y0 _) ?_
      exact kt)
  by_cases ha0 : (lcmpW (x0.toInt64) (y0.toInt64)) < (0 : Int32)
  · have go141 : own_S p e below ST s₁ (mkF m 20 #[rv o1, rv o2, iv (0 : Int32), iv (0 : Int32)] []) := fun tt kt => go140 tt (by
        refine XS.ifNo X0.here hx rfl (hb hby d1_17) rfl ((if0 _ _).trans (tlt ha0).2.1) ?_
        exact kt)
    have go142 : own_S p e below ST s₁ (mkF m 21 #[rv o1, rv o2, iv (0 : Int32), iv (0 : Int32)] [(.int (0 : Int32))]) := fun tt kt => go141 tt (by
        refine XS.iconst X0.here hx rfl (hb hby d1_20) ?_
        exact kt)
    obtain ⟨fs, hr, hrun, hended, hW, hsame⟩ := X0.leave (v := some (.int (0 : Int32))) (fun h => by rw [Bd.returns] at h; cases h)
    refine ⟨_, _, pre0 _ (go142 _ ?_), hrun, hended, _, _, rfl, ?_, ⟨_, rfl⟩, hW, hsame.mono (by decide) (by decide)⟩
    · exact retN X0 hx (t := .boolean) Bd.returns (by simp) (hb hby d1_21) hr
    · show Q1k2 Z o1 o2 k1 k2 x0 x1 y0 y1 h0 n0 _ s₁.heap _
      rw [e0]
      exact ⟨(by rw [if_pos ha0]), N0, rfl⟩
  · have go143 : own_S p e below ST s₁ (mkF m 22 #[rv o1, rv o2, iv (0 : Int32), iv (0 : Int32)] []) := fun tt kt => go140 tt (by
        refine XS.ifYes X0.here hx rfl (pc0 := 17) (pc' := 22) rfl (hb hby d1_17) rfl ((if0 _ _).trans (flt ha0).2.1) (by decide) (by decide) ?_
        exact kt)
    have go144 : own_S p e below ST s₁ (mkF m 25 #[rv o1, rv o2, iv (0 : Int32), iv (0 : Int32)] [(.int (0 : Int32)), (.ref o1), (.int (0 : Int32))]) := fun tt kt => go143 tt (by
        refine XS.iloadN X0.here hx rfl (hb hby d1_22) rfl ?_
        refine XS.aloadN X0.here hx rfl (hb hby d1_23) rfl rfl ?_
        refine XS.iloadN X0.here hx rfl (hb hby d1_24) rfl ?_
        exact kt)
    obtain ⟨cl145, Ar145, q145, S145, M145, H145, G145⟩ := id V1
    have hin145 : ¬ ((0 : Int32) < 0 ∨ cl145.slots.size ≤ ((0 : Int32)).toNatClampNeg) := inb_of S145 ⟨by decide, by decide⟩
    have hat145 : cl145.slots[((0 : Int32)).toNatClampNeg]? = some (.double (FP.i2d x0)) := H145.at hin145 rfl
    have go146 : own_S p e below ST s₁ (mkF m 26 #[rv o1, rv o2, iv (0 : Int32), iv (0 : Int32)] [(.double (FP.i2d x0)), (.int (0 : Int32))]) := fun tt kt => go144 tt (by
        refine X0.daload hx (j := (0 : Int32)) (v := (.double (FP.i2d x0))) (by rw [e0]; exact Ar145.1) (State.isArrayOf_alike hZ.alike Ar145.2.1) Ar145.2.2 hin145 hat145 (g := (mkF m 25 #[rv o1, rv o2, iv (0 : Int32), iv (0 : Int32)] [(.int (0 : Int32)), (.ref o1), (.int (0 : Int32))])) rfl rfl (hb hby d1_25) _ ?_
        exact kt)
    have go147 : own_S p e below ST s₁ (mkF m 28 #[rv o1, rv o2, iv (0 : Int32), iv (0 : Int32)] [(.int (0 : Int32)), (.ref o2), (.double (FP.i2d x0)), (.int (0 : Int32))]) := fun tt kt => go146 tt (by
        refine XS.aloadN X0.here hx rfl (hb hby d1_26) rfl rfl ?_
        refine XS.iloadN X0.here hx rfl (hb hby d1_27) rfl ?_
        exact kt)
    obtain ⟨cl148, Ar148, q148, S148, M148, H148, G148⟩ := id V2
    have hin148 : ¬ ((0 : Int32) < 0 ∨ cl148.slots.size ≤ ((0 : Int32)).toNatClampNeg) := inb_of S148 ⟨by decide, by decide⟩
    have hat148 : cl148.slots[((0 : Int32)).toNatClampNeg]? = some (.double (FP.i2d y0)) := H148.at hin148 rfl
    have go149 : own_S p e below ST s₁ (mkF m 29 #[rv o1, rv o2, iv (0 : Int32), iv (0 : Int32)] [(.double (FP.i2d y0)), (.double (FP.i2d x0)), (.int (0 : Int32))]) := fun tt kt => go147 tt (by
        refine X0.daload hx (j := (0 : Int32)) (v := (.double (FP.i2d y0))) (by rw [e0]; exact Ar148.1) (State.isArrayOf_alike hZ.alike Ar148.2.1) Ar148.2.2 hin148 hat148 (g := (mkF m 28 #[rv o1, rv o2, iv (0 : Int32), iv (0 : Int32)] [(.int (0 : Int32)), (.ref o2), (.double (FP.i2d x0)), (.int (0 : Int32))])) rfl rfl (hb hby d1_28) _ ?_
        exact kt)
    have go150 : own_S p e below ST s₁ (mkF m 30 #[rv o1, rv o2, iv (0 : Int32), iv (0 : Int32)] [(.int (lcmpW (x0.toInt64) (y0.toInt64))), (.int (0 : Int32))]) := fun tt kt => go149 tt (by
        refine XS.dcmpS X0.here hx rfl (hb hby d1_29) rfl (own_dc x0 y0 _) ?_
        exact kt)
    obtain ⟨v0, hv0, sg151⟩ : ∃ (v0 : Int32), v0 = (if (0 : Int32) < (lcmpW (x0.toInt64) (y0.toInt64)) then (1 : Int32) else (0 : Int32)) ∧ ∀ tt, Steps p.tables e below (s₁.setTop (mkF m 38 #[rv o1, rv o2, iv (0 : Int32), iv (0 : Int32)] [(.int v0), (.int (0 : Int32))])) tt → Steps p.tables e below (s₁.setTop (mkF m 30 #[rv o1, rv o2, iv (0 : Int32), iv (0 : Int32)] [(.int (lcmpW (x0.toInt64) (y0.toInt64))), (.int (0 : Int32))])) tt := by
      by_cases hd30_0 : (0 : Int32) < (lcmpW (x0.toInt64) (y0.toInt64))
      · refine ⟨_, (if_pos hd30_0).symm, fun tt kt => ?_⟩
        show Steps p.tables e below (s₁.setTop (mkF m 30 #[rv o1, rv o2, iv (0 : Int32), iv (0 : Int32)] [(.int (lcmpW (x0.toInt64) (y0.toInt64))), (.int (0 : Int32))])) _
        refine XS.ifNo X0.here hx rfl (hb hby d1_30) rfl ((if0 _ _).trans (tlt hd30_0).2.2.2) ?_
        refine XS.iconst X0.here hx rfl (hb hby d1_33) ?_
        refine XS.goto X0.here hx rfl (pc0 := 34) (pc' := 38) rfl (hb hby d1_34) (by decide) (by decide) ?_
        exact kt
      · refine ⟨_, (if_neg hd30_0).symm, fun tt kt => ?_⟩
        show Steps p.tables e below (s₁.setTop (mkF m 30 #[rv o1, rv o2, iv (0 : Int32), iv (0 : Int32)] [(.int (lcmpW (x0.toInt64) (y0.toInt64))), (.int (0 : Int32))])) _
        refine XS.ifYes X0.here hx rfl (pc0 := 30) (pc' := 37) rfl (hb hby d1_30) rfl ((if0 _ _).trans (flt hd30_0).2.2.2) (by decide) (by decide) ?_
        refine XS.iconst X0.here hx rfl (hb hby d1_37) ?_
        exact kt
    have go152 : own_S p e below ST s₁ (mkF m 38 #[rv o1, rv o2, iv (0 : Int32), iv (0 : Int32)] [(.int v0), (.int (0 : Int32))]) := fun tt kt => go150 tt (sg151 _ kt)
    have go153 : own_S p e below ST s₁ (mkF m 6 #[rv o1, rv o2, iv ((0 : Int32) ||| v0), iv (1 : Int32)] [(.ref o1), (.int (1 : Int32))]) := fun tt kt => go152 tt (by
        refine XS.ior X0.here hx rfl (hb hby d1_38) rfl ?_
        refine XS.istoreN X0.here hx rfl (hb hby d1_39) rfl (l' := #[rv o1, rv o2, iv ((0 : Int32) ||| v0), iv (0 : Int32)]) rfl ?_
        refine XS.iinc X0.here hx rfl (hb hby d1_40) rfl (l' := #[rv o1, rv o2, iv ((0 : Int32) ||| v0), iv (1 : Int32)]) rfl ?_
        refine XS.goto X0.here hx rfl (pc0 := 43) (pc' := 4) rfl (hb hby d1_43) (by decide) (by decide) ?_
        refine XS.iloadN X0.here hx rfl (hb hby d1_4) rfl ?_
        refine XS.aloadN X0.here hx rfl (hb hby d1_5) rfl rfl ?_
        exact kt)
    obtain ⟨cl154, Ar154, q154, S154, M154, H154, G154⟩ := id V1
    have go155 : own_S p e below ST s₁ (mkF m 7 #[rv o1, rv o2, iv ((0 : Int32) ||| v0), iv (1 : Int32)] [(.int (2 : Int32)), (.int (1 : Int32))]) := fun tt kt => go153 tt (by
        refine X0.arraylength hx (by rw [e0]; exact Ar154.1) (State.isArrayOf_alike hZ.alike Ar154.2.1) (g := (mkF m 6 #[rv o1, rv o2, iv ((0 : Int32) ||| v0), iv (1 : Int32)] [(.ref o1), (.int (1 : Int32))])) rfl rfl (hb hby d1_6) _ ?_
        rw [len_of S154 M154]
        exact kt)
    have go156 : own_S p e below ST s₁ (mkF m 12 #[rv o1, rv o2, iv ((0 : Int32) ||| v0), iv (1 : Int32)] [(.int (1 : Int32)), (.ref o1)]) := fun tt kt => go155 tt (by
        refine XS.icmpNo X0.here hx rfl (hb hby d1_7) rfl (tlt (by decide : (1 : Int32) < (2 : Int32))).2.1 ?_
        refine XS.aloadN X0.here hx rfl (hb hby d1_10) rfl rfl ?_
        refine XS.iloadN X0.here hx rfl (hb hby d1_11) rfl ?_
        exact kt)
    obtain ⟨cl157, Ar157, q157, S157, M157, H157, G157⟩ := id V1
    have hin157 : ¬ ((1 : Int32) < 0 ∨ cl157.slots.size ≤ ((1 : Int32)).toNatClampNeg) := inb_of S157 ⟨by decide, by decide⟩
    have hat157 : cl157.slots[((1 : Int32)).toNatClampNeg]? = some (.double (FP.i2d x1)) := H157.at hin157 rfl
    have go158 : own_S p e below ST s₁ (mkF m 13 #[rv o1, rv o2, iv ((0 : Int32) ||| v0), iv (1 : Int32)] [(.double (FP.i2d x1))]) := fun tt kt => go156 tt (by
        refine X0.daload hx (j := (1 : Int32)) (v := (.double (FP.i2d x1))) (by rw [e0]; exact Ar157.1) (State.isArrayOf_alike hZ.alike Ar157.2.1) Ar157.2.2 hin157 hat157 (g := (mkF m 12 #[rv o1, rv o2, iv ((0 : Int32) ||| v0), iv (1 : Int32)] [(.int (1 : Int32)), (.ref o1)])) rfl rfl (hb hby d1_12) _ ?_
        exact kt)
    have go159 : own_S p e below ST s₁ (mkF m 15 #[rv o1, rv o2, iv ((0 : Int32) ||| v0), iv (1 : Int32)] [(.int (1 : Int32)), (.ref o2), (.double (FP.i2d x1))]) := fun tt kt => go158 tt (by
        refine XS.aloadN X0.here hx rfl (hb hby d1_13) rfl rfl ?_
        refine XS.iloadN X0.here hx rfl (hb hby d1_14) rfl ?_
        exact kt)
    obtain ⟨cl160, Ar160, q160, S160, M160, H160, G160⟩ := id V2
    have hin160 : ¬ ((1 : Int32) < 0 ∨ cl160.slots.size ≤ ((1 : Int32)).toNatClampNeg) := inb_of S160 ⟨by decide, by decide⟩
    have hat160 : cl160.slots[((1 : Int32)).toNatClampNeg]? = some (.double (FP.i2d y1)) := H160.at hin160 rfl
    have go161 : own_S p e below ST s₁ (mkF m 16 #[rv o1, rv o2, iv ((0 : Int32) ||| v0), iv (1 : Int32)] [(.double (FP.i2d y1)), (.double (FP.i2d x1))]) := fun tt kt => go159 tt (by
        refine X0.daload hx (j := (1 : Int32)) (v := (.double (FP.i2d y1))) (by rw [e0]; exact Ar160.1) (State.isArrayOf_alike hZ.alike Ar160.2.1) Ar160.2.2 hin160 hat160 (g := (mkF m 15 #[rv o1, rv o2, iv ((0 : Int32) ||| v0), iv (1 : Int32)] [(.int (1 : Int32)), (.ref o2), (.double (FP.i2d x1))])) rfl rfl (hb hby d1_15) _ ?_
        exact kt)
    have go162 : own_S p e below ST s₁ (mkF m 17 #[rv o1, rv o2, iv ((0 : Int32) ||| v0), iv (1 : Int32)] [(.int (lcmpW (x1.toInt64) (y1.toInt64)))]) := fun tt kt => go161 tt (by
        refine XS.dcmpS X0.here hx rfl (hb hby d1_16) rfl (own_dc x1 y1 _) ?_
        exact kt)
    by_cases ha1 : (lcmpW (x1.toInt64) (y1.toInt64)) < (0 : Int32)
    · have go163 : own_S p e below ST s₁ (mkF m 20 #[rv o1, rv o2, iv ((0 : Int32) ||| v0), iv (1 : Int32)] []) := fun tt kt => go162 tt (by
          refine XS.ifNo X0.here hx rfl (hb hby d1_17) rfl ((if0 _ _).trans (tlt ha1).2.1) ?_
          exact kt)
      have go164 : own_S p e below ST s₁ (mkF m 21 #[rv o1, rv o2, iv ((0 : Int32) ||| v0), iv (1 : Int32)] [(.int (0 : Int32))]) := fun tt kt => go163 tt (by
          refine XS.iconst X0.here hx rfl (hb hby d1_20) ?_
          exact kt)
      obtain ⟨fs, hr, hrun, hended, hW, hsame⟩ := X0.leave (v := some (.int (0 : Int32))) (fun h => by rw [Bd.returns] at h; cases h)
      refine ⟨_, _, pre0 _ (go164 _ ?_), hrun, hended, _, _, rfl, ?_, ⟨_, rfl⟩, hW, hsame.mono (by decide) (by decide)⟩
      · exact retN X0 hx (t := .boolean) Bd.returns (by simp) (hb hby d1_21) hr
      · show Q1k2 Z o1 o2 k1 k2 x0 x1 y0 y1 h0 n0 _ s₁.heap _
        rw [e0]
        exact ⟨(by rw [if_neg ha0, if_pos ha1]), N0, rfl⟩
    · have go165 : own_S p e below ST s₁ (mkF m 22 #[rv o1, rv o2, iv ((0 : Int32) ||| v0), iv (1 : Int32)] []) := fun tt kt => go162 tt (by
          refine XS.ifYes X0.here hx rfl (pc0 := 17) (pc' := 22) rfl (hb hby d1_17) rfl ((if0 _ _).trans (flt ha1).2.1) (by decide) (by decide) ?_
          exact kt)
      have go166 : own_S p e below ST s₁ (mkF m 25 #[rv o1, rv o2, iv ((0 : Int32) ||| v0), iv (1 : Int32)] [(.int (1 : Int32)), (.ref o1), (.int ((0 : Int32) ||| v0))]) := fun tt kt => go165 tt (by
          refine XS.iloadN X0.here hx rfl (hb hby d1_22) rfl ?_
          refine XS.aloadN X0.here hx rfl (hb hby d1_23) rfl rfl ?_
          refine XS.iloadN X0.here hx rfl (hb hby d1_24) rfl ?_
          exact kt)
      obtain ⟨cl167, Ar167, q167, S167, M167, H167, G167⟩ := id V1
      have hin167 : ¬ ((1 : Int32) < 0 ∨ cl167.slots.size ≤ ((1 : Int32)).toNatClampNeg) := inb_of S167 ⟨by decide, by decide⟩
      have hat167 : cl167.slots[((1 : Int32)).toNatClampNeg]? = some (.double (FP.i2d x1)) := H167.at hin167 rfl
      have go168 : own_S p e below ST s₁ (mkF m 26 #[rv o1, rv o2, iv ((0 : Int32) ||| v0), iv (1 : Int32)] [(.double (FP.i2d x1)), (.int ((0 : Int32) ||| v0))]) := fun tt kt => go166 tt (by
          refine X0.daload hx (j := (1 : Int32)) (v := (.double (FP.i2d x1))) (by rw [e0]; exact Ar167.1) (State.isArrayOf_alike hZ.alike Ar167.2.1) Ar167.2.2 hin167 hat167 (g := (mkF m 25 #[rv o1, rv o2, iv ((0 : Int32) ||| v0), iv (1 : Int32)] [(.int (1 : Int32)), (.ref o1), (.int ((0 : Int32) ||| v0))])) rfl rfl (hb hby d1_25) _ ?_
          exact kt)
      have go169 : own_S p e below ST s₁ (mkF m 28 #[rv o1, rv o2, iv ((0 : Int32) ||| v0), iv (1 : Int32)] [(.int (1 : Int32)), (.ref o2), (.double (FP.i2d x1)), (.int ((0 : Int32) ||| v0))]) := fun tt kt => go168 tt (by
          refine XS.aloadN X0.here hx rfl (hb hby d1_26) rfl rfl ?_
          refine XS.iloadN X0.here hx rfl (hb hby d1_27) rfl ?_
          exact kt)
      obtain ⟨cl170, Ar170, q170, S170, M170, H170, G170⟩ := id V2
      have hin170 : ¬ ((1 : Int32) < 0 ∨ cl170.slots.size ≤ ((1 : Int32)).toNatClampNeg) := inb_of S170 ⟨by decide, by decide⟩
      have hat170 : cl170.slots[((1 : Int32)).toNatClampNeg]? = some (.double (FP.i2d y1)) := H170.at hin170 rfl
      have go171 : own_S p e below ST s₁ (mkF m 29 #[rv o1, rv o2, iv ((0 : Int32) ||| v0), iv (1 : Int32)] [(.double (FP.i2d y1)), (.double (FP.i2d x1)), (.int ((0 : Int32) ||| v0))]) := fun tt kt => go169 tt (by
          refine X0.daload hx (j := (1 : Int32)) (v := (.double (FP.i2d y1))) (by rw [e0]; exact Ar170.1) (State.isArrayOf_alike hZ.alike Ar170.2.1) Ar170.2.2 hin170 hat170 (g := (mkF m 28 #[rv o1, rv o2, iv ((0 : Int32) ||| v0), iv (1 : Int32)] [(.int (1 : Int32)), (.ref o2), (.double (FP.i2d x1)), (.int ((0 : Int32) ||| v0))])) rfl rfl (hb hby d1_28) _ ?_
          exact kt)
      have go172 : own_S p e below ST s₁ (mkF m 30 #[rv o1, rv o2, iv ((0 : Int32) ||| v0), iv (1 : Int32)] [(.int (lcmpW (x1.toInt64) (y1.toInt64))), (.int ((0 : Int32) ||| v0))]) := fun tt kt => go171 tt (by
          refine XS.dcmpS X0.here hx rfl (hb hby d1_29) rfl (own_dc x1 y1 _) ?_
          exact kt)
      obtain ⟨v1, hv1, sg173⟩ : ∃ (v1 : Int32), v1 = (if (0 : Int32) < (lcmpW (x1.toInt64) (y1.toInt64)) then (1 : Int32) else (0 : Int32)) ∧ ∀ tt, Steps p.tables e below (s₁.setTop (mkF m 38 #[rv o1, rv o2, iv ((0 : Int32) ||| v0), iv (1 : Int32)] [(.int v1), (.int ((0 : Int32) ||| v0))])) tt → Steps p.tables e below (s₁.setTop (mkF m 30 #[rv o1, rv o2, iv ((0 : Int32) ||| v0), iv (1 : Int32)] [(.int (lcmpW (x1.toInt64) (y1.toInt64))), (.int ((0 : Int32) ||| v0))])) tt := by
        by_cases hd30_0 : (0 : Int32) < (lcmpW (x1.toInt64) (y1.toInt64))
        · refine ⟨_, (if_pos hd30_0).symm, fun tt kt => ?_⟩
          show Steps p.tables e below (s₁.setTop (mkF m 30 #[rv o1, rv o2, iv ((0 : Int32) ||| v0), iv (1 : Int32)] [(.int (lcmpW (x1.toInt64) (y1.toInt64))), (.int ((0 : Int32) ||| v0))])) _
          refine XS.ifNo X0.here hx rfl (hb hby d1_30) rfl ((if0 _ _).trans (tlt hd30_0).2.2.2) ?_
          refine XS.iconst X0.here hx rfl (hb hby d1_33) ?_
          refine XS.goto X0.here hx rfl (pc0 := 34) (pc' := 38) rfl (hb hby d1_34) (by decide) (by decide) ?_
          exact kt
        · refine ⟨_, (if_neg hd30_0).symm, fun tt kt => ?_⟩
          show Steps p.tables e below (s₁.setTop (mkF m 30 #[rv o1, rv o2, iv ((0 : Int32) ||| v0), iv (1 : Int32)] [(.int (lcmpW (x1.toInt64) (y1.toInt64))), (.int ((0 : Int32) ||| v0))])) _
          refine XS.ifYes X0.here hx rfl (pc0 := 30) (pc' := 37) rfl (hb hby d1_30) rfl ((if0 _ _).trans (flt hd30_0).2.2.2) (by decide) (by decide) ?_
          refine XS.iconst X0.here hx rfl (hb hby d1_37) ?_
          exact kt
      have go174 : own_S p e below ST s₁ (mkF m 38 #[rv o1, rv o2, iv ((0 : Int32) ||| v0), iv (1 : Int32)] [(.int v1), (.int ((0 : Int32) ||| v0))]) := fun tt kt => go172 tt (sg173 _ kt)
      have go175 : own_S p e below ST s₁ (mkF m 6 #[rv o1, rv o2, iv (((0 : Int32) ||| v0) ||| v1), iv (2 : Int32)] [(.ref o1), (.int (2 : Int32))]) := fun tt kt => go174 tt (by
          refine XS.ior X0.here hx rfl (hb hby d1_38) rfl ?_
          refine XS.istoreN X0.here hx rfl (hb hby d1_39) rfl (l' := #[rv o1, rv o2, iv (((0 : Int32) ||| v0) ||| v1), iv (1 : Int32)]) rfl ?_
          refine XS.iinc X0.here hx rfl (hb hby d1_40) rfl (l' := #[rv o1, rv o2, iv (((0 : Int32) ||| v0) ||| v1), iv (2 : Int32)]) rfl ?_
          refine XS.goto X0.here hx rfl (pc0 := 43) (pc' := 4) rfl (hb hby d1_43) (by decide) (by decide) ?_
          refine XS.iloadN X0.here hx rfl (hb hby d1_4) rfl ?_
          refine XS.aloadN X0.here hx rfl (hb hby d1_5) rfl rfl ?_
          exact kt)
      obtain ⟨cl176, Ar176, q176, S176, M176, H176, G176⟩ := id V1
      have go177 : own_S p e below ST s₁ (mkF m 7 #[rv o1, rv o2, iv (((0 : Int32) ||| v0) ||| v1), iv (2 : Int32)] [(.int (2 : Int32)), (.int (2 : Int32))]) := fun tt kt => go175 tt (by
          refine X0.arraylength hx (by rw [e0]; exact Ar176.1) (State.isArrayOf_alike hZ.alike Ar176.2.1) (g := (mkF m 6 #[rv o1, rv o2, iv (((0 : Int32) ||| v0) ||| v1), iv (2 : Int32)] [(.ref o1), (.int (2 : Int32))])) rfl rfl (hb hby d1_6) _ ?_
          rw [len_of S176 M176]
          exact kt)
      have go178 : own_S p e below ST s₁ (mkF m 47 #[rv o1, rv o2, iv (((0 : Int32) ||| v0) ||| v1), iv (2 : Int32)] [(.int (((0 : Int32) ||| v0) ||| v1))]) := fun tt kt => go177 tt (by
          refine XS.icmpYes X0.here hx rfl (pc0 := 7) (pc' := 46) rfl (hb hby d1_7) rfl (flt (by decide : ¬ ((2 : Int32) < (2 : Int32)))).2.1 (by decide) (by decide) ?_
          refine XS.iloadN X0.here hx rfl (hb hby d1_46) rfl ?_
          exact kt)
      obtain ⟨fs, hr, hrun, hended, hW, hsame⟩ := X0.leave (v := some (.int (nar .boolean (((0 : Int32) ||| v0) ||| v1)))) (fun h => by rw [Bd.returns] at h; cases h)
      refine ⟨_, _, pre0 _ (go178 _ ?_), hrun, hended, _, _, rfl, ?_, ⟨_, rfl⟩, hW, hsame.mono (by decide) (by decide)⟩
      · exact retN X0 hx (t := .boolean) Bd.returns (by simp) (hb hby d1_47) hr
      · show Q1k2 Z o1 o2 k1 k2 x0 x1 y0 y1 h0 n0 _ s₁.heap _
        rw [e0]
        exact ⟨(by rw [if_neg ha0, if_neg ha1, hv0, hv1]; rfl), N0, rfl⟩
theorem ef1k3 (m : MethodId) (x0 : Addr) (x1 : Addr) : entryFrame m #[(.ref x0), (.ref x1)] 4 = mkF m 0 #[.val (.ref x0), .val (.ref x1), .unset, .unset] [] := by first | (simp [entryFrame, mkF, argsToLocals, Value.category]; done) | rfl
def Q1k3 (Z : State) (o1 : Addr) (o2 : Addr) (k1 : ClassId) (k2 : ClassId) (x0 : Int32) (x1 : Int32) (x2 : Int32) (y0 : Int32) (y1 : Int32) (y2 : Int32) (h0 : Heap) (n0 : Nat) (v : Option Value) (h : Heap) (L : List Loc) : Prop := v = some (.int (if lcmpW (x0.toInt64) (y0.toInt64) < (0 : Int32) then 0 else (if lcmpW (x1.toInt64) (y1.toInt64) < (0 : Int32) then 0 else (if lcmpW (x2.toInt64) (y2.toInt64) < (0 : Int32) then 0 else (nar .boolean ((((0 : Int32) ||| own_g x0 y0) ||| own_g x1 y1) ||| own_g x2 y2)))))) ∧ Fr n0 L ∧ h = h0
set_option maxRecDepth 65536 in
set_option maxHeartbeats 40000000 in
theorem rm1k3 (l : Launch) (Z : State) (a0 : Array Value) (hw : ∀ d ∈ tables_1, d.before a0 Z = true) (ws : List Jvm.Cond) (o1 : Addr) (o2 : Addr) (k1 : ClassId) (k2 : ClassId) (x0 : Int32) (x1 : Int32) (x2 : Int32) (y0 : Int32) (y1 : Int32) (y2 : Int32) (h0 : Heap) (n0 : Nat) (Z0 : n0 ≤ h0.size) (V1 : Arv Z h0 o1 k1 .double (3 : Int32) [(.double (FP.i2d x0)), (.double (FP.i2d x1)), (.double (FP.i2d x2))] (.double 0)) (V2 : Arv Z h0 o2 k2 .double (3 : Int32) [(.double (FP.i2d y0)), (.double (FP.i2d y1)), (.double (FP.i2d y2))] (.double 0)) :
    MetFree l (⟨"com/example/declination/declination/ranking/NondominatedSorting", "dominates", "([D[D)Z"⟩ : MethodName) (head1 (Jvm.Cond.code (⟨"com/example/declination/declination/ranking/NondominatedSorting", "dominates", "([D[D)Z"⟩ : MethodName) prog_38_method_2_code 4 (some .boolean) :: ws) ({ frames := 0, cells := 0, slots := 0, locals := 0 } : Room)) (fun aa UU => aa = #[(.ref o1), (.ref o2)] ∧ Z.Warmed39 UU.vm ∧ UU.heap = h0) (fun _ _ _ _ _ => True) (fun _ UU oo UU' => ∃ vv LL, oo = .returned vv ∧ Q1k3 Z o1 o2 k1 k2 x0 x1 x2 y0 y1 y2 h0 n0 vv UU'.heap LL ∧ FrameEnd UU oo UU' LL ({ frames := 0, cells := 0, slots := 0, locals := 0 } : Room).cells ({ frames := 0, cells := 0, slots := 0, locals := 0 } : Room).slots) := by
  have W : ∀ {d : Jvm.Cond} (i : Nat), tables_1[i]? = some d → d.before a0 Z = true := fun i h => hw _ (List.mem_of_getElem? h)
  refine MetFree.of_bodySF (plainFor_of_name pn0) hisR ?_
  intro p e s m args below meth c s₁ Bd hml0 hP hK
  obtain ⟨rfl, hZ, hh⟩ := hP
  have hx := Bd.exec
  have hby := Bd.bytes
  have hml : c.maxLocals = 4 := hml0
  have hown : s.vm.findClass "com/example/declination/declination/ranking/NondominatedSorting" = some m.cls := findClass_of_methodNamed Bd.named
  have hnm := (name_of_methodNamed Bd.named Bd.method).1
  have X0 : Stand p l e ({ frames := 0, cells := 0, slots := 0, locals := 0 } : Room) s m #[(.ref o1), (.ref o2)] below meth c s₁ [] 0 0 := Stand.of_body Bd
  have e0 : s₁.heap = h0 := by rw [← hh, Bd.state]; rfl
  have N0 := Fr.nil n0
  have pre0 : ∀ tt, Steps p.tables e below (s₁.setTop (mkF m 0 #[rv o1, rv o2, .unset, .unset] [])) tt → Steps p.tables e below (s₁.setTop (entryFrame m #[(.ref o1), (.ref o2)] 4)) tt := fun tt kt => castTop (ef1k3 m o1 o2) kt
  obtain ⟨ST, hST⟩ : ∃ z : State, z = s₁.setTop (mkF m 0 #[rv o1, rv o2, .unset, .unset] []) := ⟨_, rfl⟩
  rw [← hST] at pre0
  have go179 : own_S p e below ST s₁ (mkF m 6 #[rv o1, rv o2, iv (0 : Int32), iv (0 : Int32)] [(.ref o1), (.int (0 : Int32))]) := fun tt kt => (by
      rw [hST]
      show Steps p.tables e below (s₁.setTop (mkF m 0 #[rv o1, rv o2, .unset, .unset] [])) _
      refine XS.iconst X0.here hx rfl (hb hby d1_0) ?_
      refine XS.istoreN X0.here hx rfl (hb hby d1_1) rfl (l' := #[rv o1, rv o2, iv (0 : Int32), .unset]) rfl ?_
      refine XS.iconst X0.here hx rfl (hb hby d1_2) ?_
      refine XS.istoreN X0.here hx rfl (hb hby d1_3) rfl (l' := #[rv o1, rv o2, iv (0 : Int32), iv (0 : Int32)]) rfl ?_
      refine XS.iloadN X0.here hx rfl (hb hby d1_4) rfl ?_
      refine XS.aloadN X0.here hx rfl (hb hby d1_5) rfl rfl ?_
      exact kt)
  obtain ⟨cl180, Ar180, q180, S180, M180, H180, G180⟩ := id V1
  have go181 : own_S p e below ST s₁ (mkF m 7 #[rv o1, rv o2, iv (0 : Int32), iv (0 : Int32)] [(.int (3 : Int32)), (.int (0 : Int32))]) := fun tt kt => go179 tt (by
      refine X0.arraylength hx (by rw [e0]; exact Ar180.1) (State.isArrayOf_alike hZ.alike Ar180.2.1) (g := (mkF m 6 #[rv o1, rv o2, iv (0 : Int32), iv (0 : Int32)] [(.ref o1), (.int (0 : Int32))])) rfl rfl (hb hby d1_6) _ ?_
      rw [len_of S180 M180]
      exact kt)
  have go182 : own_S p e below ST s₁ (mkF m 12 #[rv o1, rv o2, iv (0 : Int32), iv (0 : Int32)] [(.int (0 : Int32)), (.ref o1)]) := fun tt kt => go181 tt (by
      refine XS.icmpNo X0.here hx rfl (hb hby d1_7) rfl (tlt (by decide : (0 : Int32) < (3 : Int32))).2.1 ?_
      refine XS.aloadN X0.here hx rfl (hb hby d1_10) rfl rfl ?_
      refine XS.iloadN X0.here hx rfl (hb hby d1_11) rfl ?_
      exact kt)
  obtain ⟨cl183, Ar183, q183, S183, M183, H183, G183⟩ := id V1
  have hin183 : ¬ ((0 : Int32) < 0 ∨ cl183.slots.size ≤ ((0 : Int32)).toNatClampNeg) := inb_of S183 ⟨by decide, by decide⟩
  have hat183 : cl183.slots[((0 : Int32)).toNatClampNeg]? = some (.double (FP.i2d x0)) := H183.at hin183 rfl
  have go184 : own_S p e below ST s₁ (mkF m 13 #[rv o1, rv o2, iv (0 : Int32), iv (0 : Int32)] [(.double (FP.i2d x0))]) := fun tt kt => go182 tt (by
      refine X0.daload hx (j := (0 : Int32)) (v := (.double (FP.i2d x0))) (by rw [e0]; exact Ar183.1) (State.isArrayOf_alike hZ.alike Ar183.2.1) Ar183.2.2 hin183 hat183 (g := (mkF m 12 #[rv o1, rv o2, iv (0 : Int32), iv (0 : Int32)] [(.int (0 : Int32)), (.ref o1)])) rfl rfl (hb hby d1_12) _ ?_
      exact kt)
  have go185 : own_S p e below ST s₁ (mkF m 15 #[rv o1, rv o2, iv (0 : Int32), iv (0 : Int32)] [(.int (0 : Int32)), (.ref o2), (.double (FP.i2d x0))]) := fun tt kt => go184 tt (by
      refine XS.aloadN X0.here hx rfl (hb hby d1_13) rfl rfl ?_
      refine XS.iloadN X0.here hx rfl (hb hby d1_14) rfl ?_
      exact kt)
  obtain ⟨cl186, Ar186, q186, S186, M186, H186, G186⟩ := id V2
  have hin186 : ¬ ((0 : Int32) < 0 ∨ cl186.slots.size ≤ ((0 : Int32)).toNatClampNeg) := inb_of S186 ⟨by decide, by decide⟩
  have hat186 : cl186.slots[((0 : Int32)).toNatClampNeg]? = some (.double (FP.i2d y0)) := H186.at hin186 rfl
  have go187 : own_S p e below ST s₁ (mkF m 16 #[rv o1, rv o2, iv (0 : Int32), iv (0 : Int32)] [(.double (FP.i2d y0)), (.double (FP.i2d x0))]) := fun tt kt => go185 tt (by
      refine X0.daload hx (j := (0 : Int32)) (v := (.double (FP.i2d y0))) (by rw [e0]; exact Ar186.1) (State.isArrayOf_alike hZ.alike Ar186.2.1) Ar186.2.2 hin186 hat186 (g := (mkF m 15 #[rv o1, rv o2, iv (0 : Int32), iv (0 : Int32)] [(.int (0 : Int32)), (.ref o2), (.double (FP.i2d x0))])) rfl rfl (hb hby d1_15) _ ?_
      exact kt)
  have go188 : own_S p e below ST s₁ (mkF m 17 #[rv o1, rv o2, iv (0 : Int32), iv (0 : Int32)] [(.int (lcmpW (x0.toInt64) (y0.toInt64)))]) := fun tt kt => go187 tt (by
      refine XS.dcmpS X0.here hx rfl (hb hby d1_16) rfl (own_dc x0 y0 _) ?_
      exact kt)
  by_cases ha0 : (lcmpW (x0.toInt64) (y0.toInt64)) < (0 : Int32)
  · have go189 : own_S p e below ST s₁ (mkF m 20 #[rv o1, rv o2, iv (0 : Int32), iv (0 : Int32)] []) := fun tt kt => go188 tt (by
        refine XS.ifNo X0.here hx rfl (hb hby d1_17) rfl ((if0 _ _).trans (tlt ha0).2.1) ?_
        exact kt)
    have go190 : own_S p e below ST s₁ (mkF m 21 #[rv o1, rv o2, iv (0 : Int32), iv (0 : Int32)] [(.int (0 : Int32))]) := fun tt kt => go189 tt (by
        refine XS.iconst X0.here hx rfl (hb hby d1_20) ?_
        exact kt)
    obtain ⟨fs, hr, hrun, hended, hW, hsame⟩ := X0.leave (v := some (.int (0 : Int32))) (fun h => by rw [Bd.returns] at h; cases h)
    refine ⟨_, _, pre0 _ (go190 _ ?_), hrun, hended, _, _, rfl, ?_, ⟨_, rfl⟩, hW, hsame.mono (by decide) (by decide)⟩
    · exact retN X0 hx (t := .boolean) Bd.returns (by simp) (hb hby d1_21) hr
    · show Q1k3 Z o1 o2 k1 k2 x0 x1 x2 y0 y1 y2 h0 n0 _ s₁.heap _
      rw [e0]
      exact ⟨(by rw [if_pos ha0]), N0, rfl⟩
  · have go191 : own_S p e below ST s₁ (mkF m 22 #[rv o1, rv o2, iv (0 : Int32), iv (0 : Int32)] []) := fun tt kt => go188 tt (by
        refine XS.ifYes X0.here hx rfl (pc0 := 17) (pc' := 22) rfl (hb hby d1_17) rfl ((if0 _ _).trans (flt ha0).2.1) (by decide) (by decide) ?_
        exact kt)
    have go192 : own_S p e below ST s₁ (mkF m 25 #[rv o1, rv o2, iv (0 : Int32), iv (0 : Int32)] [(.int (0 : Int32)), (.ref o1), (.int (0 : Int32))]) := fun tt kt => go191 tt (by
        refine XS.iloadN X0.here hx rfl (hb hby d1_22) rfl ?_
        refine XS.aloadN X0.here hx rfl (hb hby d1_23) rfl rfl ?_
        refine XS.iloadN X0.here hx rfl (hb hby d1_24) rfl ?_
        exact kt)
    obtain ⟨cl193, Ar193, q193, S193, M193, H193, G193⟩ := id V1
    have hin193 : ¬ ((0 : Int32) < 0 ∨ cl193.slots.size ≤ ((0 : Int32)).toNatClampNeg) := inb_of S193 ⟨by decide, by decide⟩
    have hat193 : cl193.slots[((0 : Int32)).toNatClampNeg]? = some (.double (FP.i2d x0)) := H193.at hin193 rfl
    have go194 : own_S p e below ST s₁ (mkF m 26 #[rv o1, rv o2, iv (0 : Int32), iv (0 : Int32)] [(.double (FP.i2d x0)), (.int (0 : Int32))]) := fun tt kt => go192 tt (by
        refine X0.daload hx (j := (0 : Int32)) (v := (.double (FP.i2d x0))) (by rw [e0]; exact Ar193.1) (State.isArrayOf_alike hZ.alike Ar193.2.1) Ar193.2.2 hin193 hat193 (g := (mkF m 25 #[rv o1, rv o2, iv (0 : Int32), iv (0 : Int32)] [(.int (0 : Int32)), (.ref o1), (.int (0 : Int32))])) rfl rfl (hb hby d1_25) _ ?_
        exact kt)
    have go195 : own_S p e below ST s₁ (mkF m 28 #[rv o1, rv o2, iv (0 : Int32), iv (0 : Int32)] [(.int (0 : Int32)), (.ref o2), (.double (FP.i2d x0)), (.int (0 : Int32))]) := fun tt kt => go194 tt (by
        refine XS.aloadN X0.here hx rfl (hb hby d1_26) rfl rfl ?_
        refine XS.iloadN X0.here hx rfl (hb hby d1_27) rfl ?_
        exact kt)
    obtain ⟨cl196, Ar196, q196, S196, M196, H196, G196⟩ := id V2
    have hin196 : ¬ ((0 : Int32) < 0 ∨ cl196.slots.size ≤ ((0 : Int32)).toNatClampNeg) := inb_of S196 ⟨by decide, by decide⟩
    have hat196 : cl196.slots[((0 : Int32)).toNatClampNeg]? = some (.double (FP.i2d y0)) := H196.at hin196 rfl
    have go197 : own_S p e below ST s₁ (mkF m 29 #[rv o1, rv o2, iv (0 : Int32), iv (0 : Int32)] [(.double (FP.i2d y0)), (.double (FP.i2d x0)), (.int (0 : Int32))]) := fun tt kt => go195 tt (by
        refine X0.daload hx (j := (0 : Int32)) (v := (.double (FP.i2d y0))) (by rw [e0]; exact Ar196.1) (State.isArrayOf_alike hZ.alike Ar196.2.1) Ar196.2.2 hin196 hat196 (g := (mkF m 28 #[rv o1, rv o2, iv (0 : Int32), iv (0 : Int32)] [(.int (0 : Int32)), (.ref o2), (.double (FP.i2d x0)), (.int (0 : Int32))])) rfl rfl (hb hby d1_28) _ ?_
        exact kt)
    have go198 : own_S p e below ST s₁ (mkF m 30 #[rv o1, rv o2, iv (0 : Int32), iv (0 : Int32)] [(.int (lcmpW (x0.toInt64) (y0.toInt64))), (.int (0 : Int32))]) := fun tt kt => go197 tt (by
        refine XS.dcmpS X0.here hx rfl (hb hby d1_29) rfl (own_dc x0 y0 _) ?_
        exact kt)
    obtain ⟨v0, hv0, sg199⟩ : ∃ (v0 : Int32), v0 = (if (0 : Int32) < (lcmpW (x0.toInt64) (y0.toInt64)) then (1 : Int32) else (0 : Int32)) ∧ ∀ tt, Steps p.tables e below (s₁.setTop (mkF m 38 #[rv o1, rv o2, iv (0 : Int32), iv (0 : Int32)] [(.int v0), (.int (0 : Int32))])) tt → Steps p.tables e below (s₁.setTop (mkF m 30 #[rv o1, rv o2, iv (0 : Int32), iv (0 : Int32)] [(.int (lcmpW (x0.toInt64) (y0.toInt64))), (.int (0 : Int32))])) tt := by
      by_cases hd30_0 : (0 : Int32) < (lcmpW (x0.toInt64) (y0.toInt64))
      · refine ⟨_, (if_pos hd30_0).symm, fun tt kt => ?_⟩
        show Steps p.tables e below (s₁.setTop (mkF m 30 #[rv o1, rv o2, iv (0 : Int32), iv (0 : Int32)] [(.int (lcmpW (x0.toInt64) (y0.toInt64))), (.int (0 : Int32))])) _
        refine XS.ifNo X0.here hx rfl (hb hby d1_30) rfl ((if0 _ _).trans (tlt hd30_0).2.2.2) ?_
        refine XS.iconst X0.here hx rfl (hb hby d1_33) ?_
        refine XS.goto X0.here hx rfl (pc0 := 34) (pc' := 38) rfl (hb hby d1_34) (by decide) (by decide) ?_
        exact kt
      · refine ⟨_, (if_neg hd30_0).symm, fun tt kt => ?_⟩
        show Steps p.tables e below (s₁.setTop (mkF m 30 #[rv o1, rv o2, iv (0 : Int32), iv (0 : Int32)] [(.int (lcmpW (x0.toInt64) (y0.toInt64))), (.int (0 : Int32))])) _
        refine XS.ifYes X0.here hx rfl (pc0 := 30) (pc' := 37) rfl (hb hby d1_30) rfl ((if0 _ _).trans (flt hd30_0).2.2.2) (by decide) (by decide) ?_
        refine XS.iconst X0.here hx rfl (hb hby d1_37) ?_
        exact kt
    have go200 : own_S p e below ST s₁ (mkF m 38 #[rv o1, rv o2, iv (0 : Int32), iv (0 : Int32)] [(.int v0), (.int (0 : Int32))]) := fun tt kt => go198 tt (sg199 _ kt)
    have go201 : own_S p e below ST s₁ (mkF m 6 #[rv o1, rv o2, iv ((0 : Int32) ||| v0), iv (1 : Int32)] [(.ref o1), (.int (1 : Int32))]) := fun tt kt => go200 tt (by
        refine XS.ior X0.here hx rfl (hb hby d1_38) rfl ?_
        refine XS.istoreN X0.here hx rfl (hb hby d1_39) rfl (l' := #[rv o1, rv o2, iv ((0 : Int32) ||| v0), iv (0 : Int32)]) rfl ?_
        refine XS.iinc X0.here hx rfl (hb hby d1_40) rfl (l' := #[rv o1, rv o2, iv ((0 : Int32) ||| v0), iv (1 : Int32)]) rfl ?_
        refine XS.goto X0.here hx rfl (pc0 := 43) (pc' := 4) rfl (hb hby d1_43) (by decide) (by decide) ?_
        refine XS.iloadN X0.here hx rfl (hb hby d1_4) rfl ?_
        refine XS.aloadN X0.here hx rfl (hb hby d1_5) rfl rfl ?_
        exact kt)
    obtain ⟨cl202, Ar202, q202, S202, M202, H202, G202⟩ := id V1
    have go203 : own_S p e below ST s₁ (mkF m 7 #[rv o1, rv o2, iv ((0 : Int32) ||| v0), iv (1 : Int32)] [(.int (3 : Int32)), (.int (1 : Int32))]) := fun tt kt => go201 tt (by
        refine X0.arraylength hx (by rw [e0]; exact Ar202.1) (State.isArrayOf_alike hZ.alike Ar202.2.1) (g := (mkF m 6 #[rv o1, rv o2, iv ((0 : Int32) ||| v0), iv (1 : Int32)] [(.ref o1), (.int (1 : Int32))])) rfl rfl (hb hby d1_6) _ ?_
        rw [len_of S202 M202]
        exact kt)
    have go204 : own_S p e below ST s₁ (mkF m 12 #[rv o1, rv o2, iv ((0 : Int32) ||| v0), iv (1 : Int32)] [(.int (1 : Int32)), (.ref o1)]) := fun tt kt => go203 tt (by
        refine XS.icmpNo X0.here hx rfl (hb hby d1_7) rfl (tlt (by decide : (1 : Int32) < (3 : Int32))).2.1 ?_
        refine XS.aloadN X0.here hx rfl (hb hby d1_10) rfl rfl ?_
        refine XS.iloadN X0.here hx rfl (hb hby d1_11) rfl ?_
        exact kt)
    obtain ⟨cl205, Ar205, q205, S205, M205, H205, G205⟩ := id V1
    have hin205 : ¬ ((1 : Int32) < 0 ∨ cl205.slots.size ≤ ((1 : Int32)).toNatClampNeg) := inb_of S205 ⟨by decide, by decide⟩
    have hat205 : cl205.slots[((1 : Int32)).toNatClampNeg]? = some (.double (FP.i2d x1)) := H205.at hin205 rfl
    have go206 : own_S p e below ST s₁ (mkF m 13 #[rv o1, rv o2, iv ((0 : Int32) ||| v0), iv (1 : Int32)] [(.double (FP.i2d x1))]) := fun tt kt => go204 tt (by
        refine X0.daload hx (j := (1 : Int32)) (v := (.double (FP.i2d x1))) (by rw [e0]; exact Ar205.1) (State.isArrayOf_alike hZ.alike Ar205.2.1) Ar205.2.2 hin205 hat205 (g := (mkF m 12 #[rv o1, rv o2, iv ((0 : Int32) ||| v0), iv (1 : Int32)] [(.int (1 : Int32)), (.ref o1)])) rfl rfl (hb hby d1_12) _ ?_
        exact kt)
    have go207 : own_S p e below ST s₁ (mkF m 15 #[rv o1, rv o2, iv ((0 : Int32) ||| v0), iv (1 : Int32)] [(.int (1 : Int32)), (.ref o2), (.double (FP.i2d x1))]) := fun tt kt => go206 tt (by
        refine XS.aloadN X0.here hx rfl (hb hby d1_13) rfl rfl ?_
        refine XS.iloadN X0.here hx rfl (hb hby d1_14) rfl ?_
        exact kt)
    obtain ⟨cl208, Ar208, q208, S208, M208, H208, G208⟩ := id V2
    have hin208 : ¬ ((1 : Int32) < 0 ∨ cl208.slots.size ≤ ((1 : Int32)).toNatClampNeg) := inb_of S208 ⟨by decide, by decide⟩
    have hat208 : cl208.slots[((1 : Int32)).toNatClampNeg]? = some (.double (FP.i2d y1)) := H208.at hin208 rfl
    have go209 : own_S p e below ST s₁ (mkF m 16 #[rv o1, rv o2, iv ((0 : Int32) ||| v0), iv (1 : Int32)] [(.double (FP.i2d y1)), (.double (FP.i2d x1))]) := fun tt kt => go207 tt (by
        refine X0.daload hx (j := (1 : Int32)) (v := (.double (FP.i2d y1))) (by rw [e0]; exact Ar208.1) (State.isArrayOf_alike hZ.alike Ar208.2.1) Ar208.2.2 hin208 hat208 (g := (mkF m 15 #[rv o1, rv o2, iv ((0 : Int32) ||| v0), iv (1 : Int32)] [(.int (1 : Int32)), (.ref o2), (.double (FP.i2d x1))])) rfl rfl (hb hby d1_15) _ ?_
        exact kt)
    have go210 : own_S p e below ST s₁ (mkF m 17 #[rv o1, rv o2, iv ((0 : Int32) ||| v0), iv (1 : Int32)] [(.int (lcmpW (x1.toInt64) (y1.toInt64)))]) := fun tt kt => go209 tt (by
        refine XS.dcmpS X0.here hx rfl (hb hby d1_16) rfl (own_dc x1 y1 _) ?_
        exact kt)
    by_cases ha1 : (lcmpW (x1.toInt64) (y1.toInt64)) < (0 : Int32)
    · have go211 : own_S p e below ST s₁ (mkF m 20 #[rv o1, rv o2, iv ((0 : Int32) ||| v0), iv (1 : Int32)] []) := fun tt kt => go210 tt (by
          refine XS.ifNo X0.here hx rfl (hb hby d1_17) rfl ((if0 _ _).trans (tlt ha1).2.1) ?_
          exact kt)
      have go212 : own_S p e below ST s₁ (mkF m 21 #[rv o1, rv o2, iv ((0 : Int32) ||| v0), iv (1 : Int32)] [(.int (0 : Int32))]) := fun tt kt => go211 tt (by
          refine XS.iconst X0.here hx rfl (hb hby d1_20) ?_
          exact kt)
      obtain ⟨fs, hr, hrun, hended, hW, hsame⟩ := X0.leave (v := some (.int (0 : Int32))) (fun h => by rw [Bd.returns] at h; cases h)
      refine ⟨_, _, pre0 _ (go212 _ ?_), hrun, hended, _, _, rfl, ?_, ⟨_, rfl⟩, hW, hsame.mono (by decide) (by decide)⟩
      · exact retN X0 hx (t := .boolean) Bd.returns (by simp) (hb hby d1_21) hr
      · show Q1k3 Z o1 o2 k1 k2 x0 x1 x2 y0 y1 y2 h0 n0 _ s₁.heap _
        rw [e0]
        exact ⟨(by rw [if_neg ha0, if_pos ha1]), N0, rfl⟩
    · have go213 : own_S p e below ST s₁ (mkF m 22 #[rv o1, rv o2, iv ((0 : Int32) ||| v0), iv (1 : Int32)] []) := fun tt kt => go210 tt (by
          refine XS.ifYes X0.here hx rfl (pc0 := 17) (pc' := 22) rfl (hb hby d1_17) rfl ((if0 _ _).trans (flt ha1).2.1) (by decide) (by decide) ?_
          exact kt)
      have go214 : own_S p e below ST s₁ (mkF m 25 #[rv o1, rv o2, iv ((0 : Int32) ||| v0), iv (1 : Int32)] [(.int (1 : Int32)), (.ref o1), (.int ((0 : Int32) ||| v0))]) := fun tt kt => go213 tt (by
          refine XS.iloadN X0.here hx rfl (hb hby d1_22) rfl ?_
          refine XS.aloadN X0.here hx rfl (hb hby d1_23) rfl rfl ?_
          refine XS.iloadN X0.here hx rfl (hb hby d1_24) rfl ?_
          exact kt)
      obtain ⟨cl215, Ar215, q215, S215, M215, H215, G215⟩ := id V1
      have hin215 : ¬ ((1 : Int32) < 0 ∨ cl215.slots.size ≤ ((1 : Int32)).toNatClampNeg) := inb_of S215 ⟨by decide, by decide⟩
      have hat215 : cl215.slots[((1 : Int32)).toNatClampNeg]? = some (.double (FP.i2d x1)) := H215.at hin215 rfl
      have go216 : own_S p e below ST s₁ (mkF m 26 #[rv o1, rv o2, iv ((0 : Int32) ||| v0), iv (1 : Int32)] [(.double (FP.i2d x1)), (.int ((0 : Int32) ||| v0))]) := fun tt kt => go214 tt (by
          refine X0.daload hx (j := (1 : Int32)) (v := (.double (FP.i2d x1))) (by rw [e0]; exact Ar215.1) (State.isArrayOf_alike hZ.alike Ar215.2.1) Ar215.2.2 hin215 hat215 (g := (mkF m 25 #[rv o1, rv o2, iv ((0 : Int32) ||| v0), iv (1 : Int32)] [(.int (1 : Int32)), (.ref o1), (.int ((0 : Int32) ||| v0))])) rfl rfl (hb hby d1_25) _ ?_
          exact kt)
      have go217 : own_S p e below ST s₁ (mkF m 28 #[rv o1, rv o2, iv ((0 : Int32) ||| v0), iv (1 : Int32)] [(.int (1 : Int32)), (.ref o2), (.double (FP.i2d x1)), (.int ((0 : Int32) ||| v0))]) := fun tt kt => go216 tt (by
          refine XS.aloadN X0.here hx rfl (hb hby d1_26) rfl rfl ?_
          refine XS.iloadN X0.here hx rfl (hb hby d1_27) rfl ?_
          exact kt)
      obtain ⟨cl218, Ar218, q218, S218, M218, H218, G218⟩ := id V2
      have hin218 : ¬ ((1 : Int32) < 0 ∨ cl218.slots.size ≤ ((1 : Int32)).toNatClampNeg) := inb_of S218 ⟨by decide, by decide⟩
      have hat218 : cl218.slots[((1 : Int32)).toNatClampNeg]? = some (.double (FP.i2d y1)) := H218.at hin218 rfl
      have go219 : own_S p e below ST s₁ (mkF m 29 #[rv o1, rv o2, iv ((0 : Int32) ||| v0), iv (1 : Int32)] [(.double (FP.i2d y1)), (.double (FP.i2d x1)), (.int ((0 : Int32) ||| v0))]) := fun tt kt => go217 tt (by
          refine X0.daload hx (j := (1 : Int32)) (v := (.double (FP.i2d y1))) (by rw [e0]; exact Ar218.1) (State.isArrayOf_alike hZ.alike Ar218.2.1) Ar218.2.2 hin218 hat218 (g := (mkF m 28 #[rv o1, rv o2, iv ((0 : Int32) ||| v0), iv (1 : Int32)] [(.int (1 : Int32)), (.ref o2), (.double (FP.i2d x1)), (.int ((0 : Int32) ||| v0))])) rfl rfl (hb hby d1_28) _ ?_
          exact kt)
      have go220 : own_S p e below ST s₁ (mkF m 30 #[rv o1, rv o2, iv ((0 : Int32) ||| v0), iv (1 : Int32)] [(.int (lcmpW (x1.toInt64) (y1.toInt64))), (.int ((0 : Int32) ||| v0))]) := fun tt kt => go219 tt (by
          refine XS.dcmpS X0.here hx rfl (hb hby d1_29) rfl (own_dc x1 y1 _) ?_
          exact kt)
      obtain ⟨v1, hv1, sg221⟩ : ∃ (v1 : Int32), v1 = (if (0 : Int32) < (lcmpW (x1.toInt64) (y1.toInt64)) then (1 : Int32) else (0 : Int32)) ∧ ∀ tt, Steps p.tables e below (s₁.setTop (mkF m 38 #[rv o1, rv o2, iv ((0 : Int32) ||| v0), iv (1 : Int32)] [(.int v1), (.int ((0 : Int32) ||| v0))])) tt → Steps p.tables e below (s₁.setTop (mkF m 30 #[rv o1, rv o2, iv ((0 : Int32) ||| v0), iv (1 : Int32)] [(.int (lcmpW (x1.toInt64) (y1.toInt64))), (.int ((0 : Int32) ||| v0))])) tt := by
        by_cases hd30_0 : (0 : Int32) < (lcmpW (x1.toInt64) (y1.toInt64))
        · refine ⟨_, (if_pos hd30_0).symm, fun tt kt => ?_⟩
          show Steps p.tables e below (s₁.setTop (mkF m 30 #[rv o1, rv o2, iv ((0 : Int32) ||| v0), iv (1 : Int32)] [(.int (lcmpW (x1.toInt64) (y1.toInt64))), (.int ((0 : Int32) ||| v0))])) _
          refine XS.ifNo X0.here hx rfl (hb hby d1_30) rfl ((if0 _ _).trans (tlt hd30_0).2.2.2) ?_
          refine XS.iconst X0.here hx rfl (hb hby d1_33) ?_
          refine XS.goto X0.here hx rfl (pc0 := 34) (pc' := 38) rfl (hb hby d1_34) (by decide) (by decide) ?_
          exact kt
        · refine ⟨_, (if_neg hd30_0).symm, fun tt kt => ?_⟩
          show Steps p.tables e below (s₁.setTop (mkF m 30 #[rv o1, rv o2, iv ((0 : Int32) ||| v0), iv (1 : Int32)] [(.int (lcmpW (x1.toInt64) (y1.toInt64))), (.int ((0 : Int32) ||| v0))])) _
          refine XS.ifYes X0.here hx rfl (pc0 := 30) (pc' := 37) rfl (hb hby d1_30) rfl ((if0 _ _).trans (flt hd30_0).2.2.2) (by decide) (by decide) ?_
          refine XS.iconst X0.here hx rfl (hb hby d1_37) ?_
          exact kt
      have go222 : own_S p e below ST s₁ (mkF m 38 #[rv o1, rv o2, iv ((0 : Int32) ||| v0), iv (1 : Int32)] [(.int v1), (.int ((0 : Int32) ||| v0))]) := fun tt kt => go220 tt (sg221 _ kt)
      have go223 : own_S p e below ST s₁ (mkF m 6 #[rv o1, rv o2, iv (((0 : Int32) ||| v0) ||| v1), iv (2 : Int32)] [(.ref o1), (.int (2 : Int32))]) := fun tt kt => go222 tt (by
          refine XS.ior X0.here hx rfl (hb hby d1_38) rfl ?_
          refine XS.istoreN X0.here hx rfl (hb hby d1_39) rfl (l' := #[rv o1, rv o2, iv (((0 : Int32) ||| v0) ||| v1), iv (1 : Int32)]) rfl ?_
          refine XS.iinc X0.here hx rfl (hb hby d1_40) rfl (l' := #[rv o1, rv o2, iv (((0 : Int32) ||| v0) ||| v1), iv (2 : Int32)]) rfl ?_
          refine XS.goto X0.here hx rfl (pc0 := 43) (pc' := 4) rfl (hb hby d1_43) (by decide) (by decide) ?_
          refine XS.iloadN X0.here hx rfl (hb hby d1_4) rfl ?_
          refine XS.aloadN X0.here hx rfl (hb hby d1_5) rfl rfl ?_
          exact kt)
      obtain ⟨cl224, Ar224, q224, S224, M224, H224, G224⟩ := id V1
      have go225 : own_S p e below ST s₁ (mkF m 7 #[rv o1, rv o2, iv (((0 : Int32) ||| v0) ||| v1), iv (2 : Int32)] [(.int (3 : Int32)), (.int (2 : Int32))]) := fun tt kt => go223 tt (by
          refine X0.arraylength hx (by rw [e0]; exact Ar224.1) (State.isArrayOf_alike hZ.alike Ar224.2.1) (g := (mkF m 6 #[rv o1, rv o2, iv (((0 : Int32) ||| v0) ||| v1), iv (2 : Int32)] [(.ref o1), (.int (2 : Int32))])) rfl rfl (hb hby d1_6) _ ?_
          rw [len_of S224 M224]
          exact kt)
      have go226 : own_S p e below ST s₁ (mkF m 12 #[rv o1, rv o2, iv (((0 : Int32) ||| v0) ||| v1), iv (2 : Int32)] [(.int (2 : Int32)), (.ref o1)]) := fun tt kt => go225 tt (by
          refine XS.icmpNo X0.here hx rfl (hb hby d1_7) rfl (tlt (by decide : (2 : Int32) < (3 : Int32))).2.1 ?_
          refine XS.aloadN X0.here hx rfl (hb hby d1_10) rfl rfl ?_
          refine XS.iloadN X0.here hx rfl (hb hby d1_11) rfl ?_
          exact kt)
      obtain ⟨cl227, Ar227, q227, S227, M227, H227, G227⟩ := id V1
      have hin227 : ¬ ((2 : Int32) < 0 ∨ cl227.slots.size ≤ ((2 : Int32)).toNatClampNeg) := inb_of S227 ⟨by decide, by decide⟩
      have hat227 : cl227.slots[((2 : Int32)).toNatClampNeg]? = some (.double (FP.i2d x2)) := H227.at hin227 rfl
      have go228 : own_S p e below ST s₁ (mkF m 13 #[rv o1, rv o2, iv (((0 : Int32) ||| v0) ||| v1), iv (2 : Int32)] [(.double (FP.i2d x2))]) := fun tt kt => go226 tt (by
          refine X0.daload hx (j := (2 : Int32)) (v := (.double (FP.i2d x2))) (by rw [e0]; exact Ar227.1) (State.isArrayOf_alike hZ.alike Ar227.2.1) Ar227.2.2 hin227 hat227 (g := (mkF m 12 #[rv o1, rv o2, iv (((0 : Int32) ||| v0) ||| v1), iv (2 : Int32)] [(.int (2 : Int32)), (.ref o1)])) rfl rfl (hb hby d1_12) _ ?_
          exact kt)
      have go229 : own_S p e below ST s₁ (mkF m 15 #[rv o1, rv o2, iv (((0 : Int32) ||| v0) ||| v1), iv (2 : Int32)] [(.int (2 : Int32)), (.ref o2), (.double (FP.i2d x2))]) := fun tt kt => go228 tt (by
          refine XS.aloadN X0.here hx rfl (hb hby d1_13) rfl rfl ?_
          refine XS.iloadN X0.here hx rfl (hb hby d1_14) rfl ?_
          exact kt)
      obtain ⟨cl230, Ar230, q230, S230, M230, H230, G230⟩ := id V2
      have hin230 : ¬ ((2 : Int32) < 0 ∨ cl230.slots.size ≤ ((2 : Int32)).toNatClampNeg) := inb_of S230 ⟨by decide, by decide⟩
      have hat230 : cl230.slots[((2 : Int32)).toNatClampNeg]? = some (.double (FP.i2d y2)) := H230.at hin230 rfl
      have go231 : own_S p e below ST s₁ (mkF m 16 #[rv o1, rv o2, iv (((0 : Int32) ||| v0) ||| v1), iv (2 : Int32)] [(.double (FP.i2d y2)), (.double (FP.i2d x2))]) := fun tt kt => go229 tt (by
          refine X0.daload hx (j := (2 : Int32)) (v := (.double (FP.i2d y2))) (by rw [e0]; exact Ar230.1) (State.isArrayOf_alike hZ.alike Ar230.2.1) Ar230.2.2 hin230 hat230 (g := (mkF m 15 #[rv o1, rv o2, iv (((0 : Int32) ||| v0) ||| v1), iv (2 : Int32)] [(.int (2 : Int32)), (.ref o2), (.double (FP.i2d x2))])) rfl rfl (hb hby d1_15) _ ?_
          exact kt)
      have go232 : own_S p e below ST s₁ (mkF m 17 #[rv o1, rv o2, iv (((0 : Int32) ||| v0) ||| v1), iv (2 : Int32)] [(.int (lcmpW (x2.toInt64) (y2.toInt64)))]) := fun tt kt => go231 tt (by
          refine XS.dcmpS X0.here hx rfl (hb hby d1_16) rfl (own_dc x2 y2 _) ?_
          exact kt)
      by_cases ha2 : (lcmpW (x2.toInt64) (y2.toInt64)) < (0 : Int32)
      · have go233 : own_S p e below ST s₁ (mkF m 20 #[rv o1, rv o2, iv (((0 : Int32) ||| v0) ||| v1), iv (2 : Int32)] []) := fun tt kt => go232 tt (by
            refine XS.ifNo X0.here hx rfl (hb hby d1_17) rfl ((if0 _ _).trans (tlt ha2).2.1) ?_
            exact kt)
        have go234 : own_S p e below ST s₁ (mkF m 21 #[rv o1, rv o2, iv (((0 : Int32) ||| v0) ||| v1), iv (2 : Int32)] [(.int (0 : Int32))]) := fun tt kt => go233 tt (by
            refine XS.iconst X0.here hx rfl (hb hby d1_20) ?_
            exact kt)
        obtain ⟨fs, hr, hrun, hended, hW, hsame⟩ := X0.leave (v := some (.int (0 : Int32))) (fun h => by rw [Bd.returns] at h; cases h)
        refine ⟨_, _, pre0 _ (go234 _ ?_), hrun, hended, _, _, rfl, ?_, ⟨_, rfl⟩, hW, hsame.mono (by decide) (by decide)⟩
        · exact retN X0 hx (t := .boolean) Bd.returns (by simp) (hb hby d1_21) hr
        · show Q1k3 Z o1 o2 k1 k2 x0 x1 x2 y0 y1 y2 h0 n0 _ s₁.heap _
          rw [e0]
          exact ⟨(by rw [if_neg ha0, if_neg ha1, if_pos ha2]), N0, rfl⟩
      · have go235 : own_S p e below ST s₁ (mkF m 22 #[rv o1, rv o2, iv (((0 : Int32) ||| v0) ||| v1), iv (2 : Int32)] []) := fun tt kt => go232 tt (by
            refine XS.ifYes X0.here hx rfl (pc0 := 17) (pc' := 22) rfl (hb hby d1_17) rfl ((if0 _ _).trans (flt ha2).2.1) (by decide) (by decide) ?_
            exact kt)
        have go236 : own_S p e below ST s₁ (mkF m 25 #[rv o1, rv o2, iv (((0 : Int32) ||| v0) ||| v1), iv (2 : Int32)] [(.int (2 : Int32)), (.ref o1), (.int (((0 : Int32) ||| v0) ||| v1))]) := fun tt kt => go235 tt (by
            refine XS.iloadN X0.here hx rfl (hb hby d1_22) rfl ?_
            refine XS.aloadN X0.here hx rfl (hb hby d1_23) rfl rfl ?_
            refine XS.iloadN X0.here hx rfl (hb hby d1_24) rfl ?_
            exact kt)
        obtain ⟨cl237, Ar237, q237, S237, M237, H237, G237⟩ := id V1
        have hin237 : ¬ ((2 : Int32) < 0 ∨ cl237.slots.size ≤ ((2 : Int32)).toNatClampNeg) := inb_of S237 ⟨by decide, by decide⟩
        have hat237 : cl237.slots[((2 : Int32)).toNatClampNeg]? = some (.double (FP.i2d x2)) := H237.at hin237 rfl
        have go238 : own_S p e below ST s₁ (mkF m 26 #[rv o1, rv o2, iv (((0 : Int32) ||| v0) ||| v1), iv (2 : Int32)] [(.double (FP.i2d x2)), (.int (((0 : Int32) ||| v0) ||| v1))]) := fun tt kt => go236 tt (by
            refine X0.daload hx (j := (2 : Int32)) (v := (.double (FP.i2d x2))) (by rw [e0]; exact Ar237.1) (State.isArrayOf_alike hZ.alike Ar237.2.1) Ar237.2.2 hin237 hat237 (g := (mkF m 25 #[rv o1, rv o2, iv (((0 : Int32) ||| v0) ||| v1), iv (2 : Int32)] [(.int (2 : Int32)), (.ref o1), (.int (((0 : Int32) ||| v0) ||| v1))])) rfl rfl (hb hby d1_25) _ ?_
            exact kt)
        have go239 : own_S p e below ST s₁ (mkF m 28 #[rv o1, rv o2, iv (((0 : Int32) ||| v0) ||| v1), iv (2 : Int32)] [(.int (2 : Int32)), (.ref o2), (.double (FP.i2d x2)), (.int (((0 : Int32) ||| v0) ||| v1))]) := fun tt kt => go238 tt (by
            refine XS.aloadN X0.here hx rfl (hb hby d1_26) rfl rfl ?_
            refine XS.iloadN X0.here hx rfl (hb hby d1_27) rfl ?_
            exact kt)
        obtain ⟨cl240, Ar240, q240, S240, M240, H240, G240⟩ := id V2
        have hin240 : ¬ ((2 : Int32) < 0 ∨ cl240.slots.size ≤ ((2 : Int32)).toNatClampNeg) := inb_of S240 ⟨by decide, by decide⟩
        have hat240 : cl240.slots[((2 : Int32)).toNatClampNeg]? = some (.double (FP.i2d y2)) := H240.at hin240 rfl
        have go241 : own_S p e below ST s₁ (mkF m 29 #[rv o1, rv o2, iv (((0 : Int32) ||| v0) ||| v1), iv (2 : Int32)] [(.double (FP.i2d y2)), (.double (FP.i2d x2)), (.int (((0 : Int32) ||| v0) ||| v1))]) := fun tt kt => go239 tt (by
            refine X0.daload hx (j := (2 : Int32)) (v := (.double (FP.i2d y2))) (by rw [e0]; exact Ar240.1) (State.isArrayOf_alike hZ.alike Ar240.2.1) Ar240.2.2 hin240 hat240 (g := (mkF m 28 #[rv o1, rv o2, iv (((0 : Int32) ||| v0) ||| v1), iv (2 : Int32)] [(.int (2 : Int32)), (.ref o2), (.double (FP.i2d x2)), (.int (((0 : Int32) ||| v0) ||| v1))])) rfl rfl (hb hby d1_28) _ ?_
            exact kt)
        have go242 : own_S p e below ST s₁ (mkF m 30 #[rv o1, rv o2, iv (((0 : Int32) ||| v0) ||| v1), iv (2 : Int32)] [(.int (lcmpW (x2.toInt64) (y2.toInt64))), (.int (((0 : Int32) ||| v0) ||| v1))]) := fun tt kt => go241 tt (by
            refine XS.dcmpS X0.here hx rfl (hb hby d1_29) rfl (own_dc x2 y2 _) ?_
            exact kt)
        obtain ⟨v2, hv2, sg243⟩ : ∃ (v2 : Int32), v2 = (if (0 : Int32) < (lcmpW (x2.toInt64) (y2.toInt64)) then (1 : Int32) else (0 : Int32)) ∧ ∀ tt, Steps p.tables e below (s₁.setTop (mkF m 38 #[rv o1, rv o2, iv (((0 : Int32) ||| v0) ||| v1), iv (2 : Int32)] [(.int v2), (.int (((0 : Int32) ||| v0) ||| v1))])) tt → Steps p.tables e below (s₁.setTop (mkF m 30 #[rv o1, rv o2, iv (((0 : Int32) ||| v0) ||| v1), iv (2 : Int32)] [(.int (lcmpW (x2.toInt64) (y2.toInt64))), (.int (((0 : Int32) ||| v0) ||| v1))])) tt := by
          by_cases hd30_0 : (0 : Int32) < (lcmpW (x2.toInt64) (y2.toInt64))
          · refine ⟨_, (if_pos hd30_0).symm, fun tt kt => ?_⟩
            show Steps p.tables e below (s₁.setTop (mkF m 30 #[rv o1, rv o2, iv (((0 : Int32) ||| v0) ||| v1), iv (2 : Int32)] [(.int (lcmpW (x2.toInt64) (y2.toInt64))), (.int (((0 : Int32) ||| v0) ||| v1))])) _
            refine XS.ifNo X0.here hx rfl (hb hby d1_30) rfl ((if0 _ _).trans (tlt hd30_0).2.2.2) ?_
            refine XS.iconst X0.here hx rfl (hb hby d1_33) ?_
            refine XS.goto X0.here hx rfl (pc0 := 34) (pc' := 38) rfl (hb hby d1_34) (by decide) (by decide) ?_
            exact kt
          · refine ⟨_, (if_neg hd30_0).symm, fun tt kt => ?_⟩
            show Steps p.tables e below (s₁.setTop (mkF m 30 #[rv o1, rv o2, iv (((0 : Int32) ||| v0) ||| v1), iv (2 : Int32)] [(.int (lcmpW (x2.toInt64) (y2.toInt64))), (.int (((0 : Int32) ||| v0) ||| v1))])) _
            refine XS.ifYes X0.here hx rfl (pc0 := 30) (pc' := 37) rfl (hb hby d1_30) rfl ((if0 _ _).trans (flt hd30_0).2.2.2) (by decide) (by decide) ?_
            refine XS.iconst X0.here hx rfl (hb hby d1_37) ?_
            exact kt
        have go244 : own_S p e below ST s₁ (mkF m 38 #[rv o1, rv o2, iv (((0 : Int32) ||| v0) ||| v1), iv (2 : Int32)] [(.int v2), (.int (((0 : Int32) ||| v0) ||| v1))]) := fun tt kt => go242 tt (sg243 _ kt)
        have go245 : own_S p e below ST s₁ (mkF m 6 #[rv o1, rv o2, iv ((((0 : Int32) ||| v0) ||| v1) ||| v2), iv (3 : Int32)] [(.ref o1), (.int (3 : Int32))]) := fun tt kt => go244 tt (by
            refine XS.ior X0.here hx rfl (hb hby d1_38) rfl ?_
            refine XS.istoreN X0.here hx rfl (hb hby d1_39) rfl (l' := #[rv o1, rv o2, iv ((((0 : Int32) ||| v0) ||| v1) ||| v2), iv (2 : Int32)]) rfl ?_
            refine XS.iinc X0.here hx rfl (hb hby d1_40) rfl (l' := #[rv o1, rv o2, iv ((((0 : Int32) ||| v0) ||| v1) ||| v2), iv (3 : Int32)]) rfl ?_
            refine XS.goto X0.here hx rfl (pc0 := 43) (pc' := 4) rfl (hb hby d1_43) (by decide) (by decide) ?_
            refine XS.iloadN X0.here hx rfl (hb hby d1_4) rfl ?_
            refine XS.aloadN X0.here hx rfl (hb hby d1_5) rfl rfl ?_
            exact kt)
        obtain ⟨cl246, Ar246, q246, S246, M246, H246, G246⟩ := id V1
        have go247 : own_S p e below ST s₁ (mkF m 7 #[rv o1, rv o2, iv ((((0 : Int32) ||| v0) ||| v1) ||| v2), iv (3 : Int32)] [(.int (3 : Int32)), (.int (3 : Int32))]) := fun tt kt => go245 tt (by
            refine X0.arraylength hx (by rw [e0]; exact Ar246.1) (State.isArrayOf_alike hZ.alike Ar246.2.1) (g := (mkF m 6 #[rv o1, rv o2, iv ((((0 : Int32) ||| v0) ||| v1) ||| v2), iv (3 : Int32)] [(.ref o1), (.int (3 : Int32))])) rfl rfl (hb hby d1_6) _ ?_
            rw [len_of S246 M246]
            exact kt)
        have go248 : own_S p e below ST s₁ (mkF m 47 #[rv o1, rv o2, iv ((((0 : Int32) ||| v0) ||| v1) ||| v2), iv (3 : Int32)] [(.int ((((0 : Int32) ||| v0) ||| v1) ||| v2))]) := fun tt kt => go247 tt (by
            refine XS.icmpYes X0.here hx rfl (pc0 := 7) (pc' := 46) rfl (hb hby d1_7) rfl (flt (by decide : ¬ ((3 : Int32) < (3 : Int32)))).2.1 (by decide) (by decide) ?_
            refine XS.iloadN X0.here hx rfl (hb hby d1_46) rfl ?_
            exact kt)
        obtain ⟨fs, hr, hrun, hended, hW, hsame⟩ := X0.leave (v := some (.int (nar .boolean ((((0 : Int32) ||| v0) ||| v1) ||| v2)))) (fun h => by rw [Bd.returns] at h; cases h)
        refine ⟨_, _, pre0 _ (go248 _ ?_), hrun, hended, _, _, rfl, ?_, ⟨_, rfl⟩, hW, hsame.mono (by decide) (by decide)⟩
        · exact retN X0 hx (t := .boolean) Bd.returns (by simp) (hb hby d1_47) hr
        · show Q1k3 Z o1 o2 k1 k2 x0 x1 x2 y0 y1 y2 h0 n0 _ s₁.heap _
          rw [e0]
          exact ⟨(by rw [if_neg ha0, if_neg ha1, if_neg ha2, hv0, hv1, hv2]; rfl), N0, rfl⟩
theorem pn37 : plainName "com/example/declination/declination/ranking/NondominatedSortingDominatesPinLaw" = true := by first | (simp [plainName, overriddenIn]; done) | decide +kernel
theorem pd38 : parseMethodDescriptor "([D[D)Z" = some ⟨[(.array .double), (.array .double)], some .boolean⟩ := by decide +kernel
theorem ef0k0 (m : MethodId) (x0 : Int32) (x1 : Int64) (x2 : Int64) (x3 : Int64) : entryFrame m #[(.int x0), (.long x1), (.long x2), (.long x3)] maxLocals = mkF m 0 #[.val (.int x0), .val (.long x1), .second, .val (.long x2), .second, .val (.long x3), .second, .unset, .unset, .unset, .unset, .unset, .unset, .unset, .unset, .unset, .unset, .unset, .unset] [] := by first | (simp [entryFrame, mkF, argsToLocals, Value.category, maxLocals]; done) | rfl
def Q0k0 (Z : State) (ln : Int32) (p0 : Int64) (p1 : Int64) (p2 : Int64) (h0 : Heap) (n0 : Nat) (v : Option Value) (h : Heap) (L : List Loc) : Prop := v = some (.int 1) ∧ Fr n0 L
set_option maxRecDepth 65536 in
set_option maxHeartbeats 40000000 in
theorem rm0k0 (l : Launch) (Z : State) (a0 : Array Value) (hw : ∀ d ∈ tables_1, d.before a0 Z = true) (ws : List Jvm.Cond) (ln : Int32) (p0 : Int64) (p1 : Int64) (p2 : Int64) (h0 : Heap) (n0 : Nat) (Z0 : n0 ≤ h0.size) (hk : ln &&& 3 = 0) :
    MetFree l x (head1 (Jvm.Cond.code x code maxLocals ret :: ws) room_1) (fun aa UU => aa = #[(.int ln), (.long p0), (.long p1), (.long p2)] ∧ Z.Warmed39 UU.vm ∧ UU.heap = h0) (fun _ _ _ _ _ => True) (fun _ UU oo UU' => ∃ vv LL, oo = .returned vv ∧ Q0k0 Z ln p0 p1 p2 h0 n0 vv UU'.heap LL ∧ FrameEnd UU oo UU' LL room_1.cells room_1.slots) := by
  have W : ∀ {d : Jvm.Cond} (i : Nat), tables_1[i]? = some d → d.before a0 Z = true := fun i h => hw _ (List.mem_of_getElem? h)
  refine MetFree.of_bodySF (plainFor_of_name pn37) hisR ?_
  intro p e s m args below meth c s₁ Bd hml0 hP hK
  obtain ⟨rfl, hZ, hh⟩ := hP
  have hx := Bd.exec
  have hby := Bd.bytes
  have hml : c.maxLocals = 19 := hml0
  have hown : s.vm.findClass "com/example/declination/declination/ranking/NondominatedSortingDominatesPinLaw" = some m.cls := findClass_of_methodNamed Bd.named
  have hnm := (name_of_methodNamed Bd.named Bd.method).1
  have X0 : Stand p l e room_1 s m #[(.int ln), (.long p0), (.long p1), (.long p2)] below meth c s₁ [] 0 0 := Stand.of_body Bd
  have e0 : s₁.heap = h0 := by rw [← hh, Bd.state]; rfl
  have N0 := Fr.nil n0
  have pre0 : ∀ tt, Steps p.tables e below (s₁.setTop (mkF m 0 #[iv ln, .val (.long p0), .second, .val (.long p1), .second, .val (.long p2), .second, .unset, .unset, .unset, .unset, .unset, .unset, .unset, .unset, .unset, .unset, .unset, .unset] [])) tt → Steps p.tables e below (s₁.setTop (entryFrame m #[(.int ln), (.long p0), (.long p1), (.long p2)] maxLocals)) tt := fun tt kt => castTop (ef0k0 m ln p0 p1 p2) kt
  obtain ⟨ST, hST⟩ : ∃ z : State, z = s₁.setTop (mkF m 0 #[iv ln, .val (.long p0), .second, .val (.long p1), .second, .val (.long p2), .second, .unset, .unset, .unset, .unset, .unset, .unset, .unset, .unset, .unset, .unset, .unset, .unset] []) := ⟨_, rfl⟩
  rw [← hST] at pre0
  have go249 : own_S p e below ST s₁ (mkF m 5 #[iv ln, .val (.long p0), .second, .val (.long p1), .second, .val (.long p2), .second, iv (ln &&& (3 : Int32)), .unset, .unset, .unset, .unset, .unset, .unset, .unset, .unset, .unset, .unset, .unset] []) := fun tt kt => (by
      rw [hST]
      show Steps p.tables e below (s₁.setTop (mkF m 0 #[iv ln, .val (.long p0), .second, .val (.long p1), .second, .val (.long p2), .second, .unset, .unset, .unset, .unset, .unset, .unset, .unset, .unset, .unset, .unset, .unset, .unset] [])) _
      refine XS.iloadN X0.here hx rfl (hb hby at_0) rfl ?_
      refine XS.iconst X0.here hx rfl (hb hby at_1) ?_
      refine XS.iand X0.here hx rfl (hb hby at_2) rfl ?_
      refine XS.istore X0.here hx rfl (hb hby at_3) rfl (l' := #[iv ln, .val (.long p0), .second, .val (.long p1), .second, .val (.long p2), .second, iv (ln &&& (3 : Int32)), .unset, .unset, .unset, .unset, .unset, .unset, .unset, .unset, .unset, .unset, .unset]) rfl ?_
      exact kt)
  rw [hk] at go249
  have go250 : own_S p e below ST s₁ (mkF m 7 #[iv ln, .val (.long p0), .second, .val (.long p1), .second, .val (.long p2), .second, iv (0 : Int32), .unset, .unset, .unset, .unset, .unset, .unset, .unset, .unset, .unset, .unset, .unset] [(.int (p0.toInt32))]) := fun tt kt => go249 tt (by
      refine XS.lloadN X0.here hx rfl (hb hby at_5) rfl ?_
      refine XS.l2i X0.here hx rfl (hb hby at_6) rfl ?_
      exact kt)
  obtain ⟨x0, hx0⟩ : ∃ z : Int32, z = (p0.toInt32) := ⟨_, rfl⟩
  rw [← hx0] at go250
  have go251 : own_S p e below ST s₁ (mkF m 14 #[iv ln, .val (.long p0), .second, .val (.long p1), .second, .val (.long p2), .second, iv (0 : Int32), iv x0, .unset, .unset, .unset, .unset, .unset, .unset, .unset, .unset, .unset, .unset] [(.int (((p0.toUInt64 >>> ((32 : Int32) &&& 0x3f).toInt64.toUInt64).toInt64).toInt32))]) := fun tt kt => go250 tt (by
      refine XS.istore X0.here hx rfl (hb hby at_7) rfl (l' := #[iv ln, .val (.long p0), .second, .val (.long p1), .second, .val (.long p2), .second, iv (0 : Int32), iv x0, .unset, .unset, .unset, .unset, .unset, .unset, .unset, .unset, .unset, .unset]) rfl ?_
      refine XS.lloadN X0.here hx rfl (hb hby at_9) rfl ?_
      refine XS.bipush X0.here hx rfl (hb hby at_10) ?_
      refine XS.lushr X0.here hx rfl (hb hby at_12) rfl ?_
      refine XS.l2i X0.here hx rfl (hb hby at_13) rfl ?_
      exact kt)
  obtain ⟨y0, hy0⟩ : ∃ z : Int32, z = (((p0.toUInt64 >>> ((32 : Int32) &&& 0x3f).toInt64.toUInt64).toInt64).toInt32) := ⟨_, rfl⟩
  rw [← hy0] at go251
  have go252 : own_S p e below ST s₁ (mkF m 18 #[iv ln, .val (.long p0), .second, .val (.long p1), .second, .val (.long p2), .second, iv (0 : Int32), iv x0, iv y0, .unset, .unset, .unset, .unset, .unset, .unset, .unset, .unset, .unset] [(.int (p1.toInt32))]) := fun tt kt => go251 tt (by
      refine XS.istore X0.here hx rfl (hb hby at_14) rfl (l' := #[iv ln, .val (.long p0), .second, .val (.long p1), .second, .val (.long p2), .second, iv (0 : Int32), iv x0, iv y0, .unset, .unset, .unset, .unset, .unset, .unset, .unset, .unset, .unset]) rfl ?_
      refine XS.lloadN X0.here hx rfl (hb hby at_16) rfl ?_
      refine XS.l2i X0.here hx rfl (hb hby at_17) rfl ?_
      exact kt)
  obtain ⟨x1, hx1⟩ : ∃ z : Int32, z = (p1.toInt32) := ⟨_, rfl⟩
  rw [← hx1] at go252
  have go253 : own_S p e below ST s₁ (mkF m 25 #[iv ln, .val (.long p0), .second, .val (.long p1), .second, .val (.long p2), .second, iv (0 : Int32), iv x0, iv y0, iv x1, .unset, .unset, .unset, .unset, .unset, .unset, .unset, .unset] [(.int (((p1.toUInt64 >>> ((32 : Int32) &&& 0x3f).toInt64.toUInt64).toInt64).toInt32))]) := fun tt kt => go252 tt (by
      refine XS.istore X0.here hx rfl (hb hby at_18) rfl (l' := #[iv ln, .val (.long p0), .second, .val (.long p1), .second, .val (.long p2), .second, iv (0 : Int32), iv x0, iv y0, iv x1, .unset, .unset, .unset, .unset, .unset, .unset, .unset, .unset]) rfl ?_
      refine XS.lloadN X0.here hx rfl (hb hby at_20) rfl ?_
      refine XS.bipush X0.here hx rfl (hb hby at_21) ?_
      refine XS.lushr X0.here hx rfl (hb hby at_23) rfl ?_
      refine XS.l2i X0.here hx rfl (hb hby at_24) rfl ?_
      exact kt)
  obtain ⟨y1, hy1⟩ : ∃ z : Int32, z = (((p1.toUInt64 >>> ((32 : Int32) &&& 0x3f).toInt64.toUInt64).toInt64).toInt32) := ⟨_, rfl⟩
  rw [← hy1] at go253
  have go254 : own_S p e below ST s₁ (mkF m 30 #[iv ln, .val (.long p0), .second, .val (.long p1), .second, .val (.long p2), .second, iv (0 : Int32), iv x0, iv y0, iv x1, iv y1, .unset, .unset, .unset, .unset, .unset, .unset, .unset] [(.int (p2.toInt32))]) := fun tt kt => go253 tt (by
      refine XS.istore X0.here hx rfl (hb hby at_25) rfl (l' := #[iv ln, .val (.long p0), .second, .val (.long p1), .second, .val (.long p2), .second, iv (0 : Int32), iv x0, iv y0, iv x1, iv y1, .unset, .unset, .unset, .unset, .unset, .unset, .unset]) rfl ?_
      refine XS.lload X0.here hx rfl (hb hby at_27) rfl ?_
      refine XS.l2i X0.here hx rfl (hb hby at_29) rfl ?_
      exact kt)
  obtain ⟨x2, hx2⟩ : ∃ z : Int32, z = (p2.toInt32) := ⟨_, rfl⟩
  rw [← hx2] at go254
  have go255 : own_S p e below ST s₁ (mkF m 38 #[iv ln, .val (.long p0), .second, .val (.long p1), .second, .val (.long p2), .second, iv (0 : Int32), iv x0, iv y0, iv x1, iv y1, iv x2, .unset, .unset, .unset, .unset, .unset, .unset] [(.int (((p2.toUInt64 >>> ((32 : Int32) &&& 0x3f).toInt64.toUInt64).toInt64).toInt32))]) := fun tt kt => go254 tt (by
      refine XS.istore X0.here hx rfl (hb hby at_30) rfl (l' := #[iv ln, .val (.long p0), .second, .val (.long p1), .second, .val (.long p2), .second, iv (0 : Int32), iv x0, iv y0, iv x1, iv y1, iv x2, .unset, .unset, .unset, .unset, .unset, .unset]) rfl ?_
      refine XS.lload X0.here hx rfl (hb hby at_32) rfl ?_
      refine XS.bipush X0.here hx rfl (hb hby at_34) ?_
      refine XS.lushr X0.here hx rfl (hb hby at_36) rfl ?_
      refine XS.l2i X0.here hx rfl (hb hby at_37) rfl ?_
      exact kt)
  obtain ⟨y2, hy2⟩ : ∃ z : Int32, z = (((p2.toUInt64 >>> ((32 : Int32) &&& 0x3f).toInt64.toUInt64).toInt64).toInt32) := ⟨_, rfl⟩
  rw [← hy2] at go255
  have go256 : own_S p e below ST s₁ (mkF m 42 #[iv ln, .val (.long p0), .second, .val (.long p1), .second, .val (.long p2), .second, iv (0 : Int32), iv x0, iv y0, iv x1, iv y1, iv x2, iv y2, .unset, .unset, .unset, .unset, .unset] [(.int (0 : Int32))]) := fun tt kt => go255 tt (by
      refine XS.istore X0.here hx rfl (hb hby at_38) rfl (l' := #[iv ln, .val (.long p0), .second, .val (.long p1), .second, .val (.long p2), .second, iv (0 : Int32), iv x0, iv y0, iv x1, iv y1, iv x2, iv y2, .unset, .unset, .unset, .unset, .unset]) rfl ?_
      refine XS.iload X0.here hx rfl (hb hby at_40) rfl ?_
      exact kt)
  obtain ⟨b257, g257⟩ : ∃ z, z = h0.size := ⟨_, rfl⟩
  obtain ⟨T257, h257, k257, X257, e257, E257, A257, st257⟩ := newP X0 hx hZ (W 0 rfl) e0 (g := (mkF m 42 #[iv ln, .val (.long p0), .second, .val (.long p1), .second, .val (.long p2), .second, iv (0 : Int32), iv x0, iv y0, iv x1, iv y1, iv x2, iv y2, .unset, .unset, .unset, .unset, .unset] [(.int (0 : Int32))])) rfl (hb hby at_42) rfl (by decide) (cap := 0) (by decide) (by decide) (by decide) (by decide)
  rw [← g257] at A257 st257
  have ge_b257 : n0 ≤ b257 := Nat.le_trans Z0 (Nat.le_of_eq g257.symm)
  have V257 : Arv Z h257 b257 k257 .double (0 : Int32) [] (.double 0) := (Arv.new A257 (by decide)).pad (pad_rep [] (.double 0) 0)
  have go258 : own_S p e below ST T257 (mkF m 44 #[iv ln, .val (.long p0), .second, .val (.long p1), .second, .val (.long p2), .second, iv (0 : Int32), iv x0, iv y0, iv x1, iv y1, iv x2, iv y2, .unset, .unset, .unset, .unset, .unset] [(.ref b257)]) := fun tt kt => go256 tt (st257 _ kt)
  have go259 : own_S p e below ST T257 (mkF m 48 #[iv ln, .val (.long p0), .second, .val (.long p1), .second, .val (.long p2), .second, iv (0 : Int32), iv x0, iv y0, iv x1, iv y1, iv x2, iv y2, rv b257, .unset, .unset, .unset, .unset] [(.int (0 : Int32))]) := fun tt kt => go258 tt (by
      refine XS.astore X257.here hx rfl (hb hby at_44) rfl rfl (l' := #[iv ln, .val (.long p0), .second, .val (.long p1), .second, .val (.long p2), .second, iv (0 : Int32), iv x0, iv y0, iv x1, iv y1, iv x2, iv y2, rv b257, .unset, .unset, .unset, .unset]) rfl ?_
      refine XS.iload X257.here hx rfl (hb hby at_46) rfl ?_
      exact kt)
  have zs261 := (Nat.le_trans Z0 E257.1)
  obtain ⟨b260, g260⟩ : ∃ z, z = h257.size := ⟨_, rfl⟩
  obtain ⟨T260, h260, k260, X260, e260, E260, A260, st260⟩ := newP X257 hx hZ (W 0 rfl) e257 (g := (mkF m 48 #[iv ln, .val (.long p0), .second, .val (.long p1), .second, .val (.long p2), .second, iv (0 : Int32), iv x0, iv y0, iv x1, iv y1, iv x2, iv y2, rv b257, .unset, .unset, .unset, .unset] [(.int (0 : Int32))])) rfl (hb hby at_48) rfl (by decide) (cap := 0) (by decide) (by decide) (by decide) (by decide)
  rw [← g260] at A260 st260
  have neb257_b260 : b257 ≠ b260 := Nat.ne_of_lt (Nat.lt_of_lt_of_le V257.lt (Nat.le_of_eq g260.symm))
  have ge_b260 : n0 ≤ b260 := Nat.le_trans zs261 (Nat.le_of_eq g260.symm)
  have V260 : Arv Z h260 b260 k260 .double (0 : Int32) [] (.double 0) := (Arv.new A260 (by decide)).pad (pad_rep [] (.double 0) 0)
  have go262 : own_S p e below ST T260 (mkF m 50 #[iv ln, .val (.long p0), .second, .val (.long p1), .second, .val (.long p2), .second, iv (0 : Int32), iv x0, iv y0, iv x1, iv y1, iv x2, iv y2, rv b257, .unset, .unset, .unset, .unset] [(.ref b260)]) := fun tt kt => go259 tt (st260 _ kt)
  have go263 : own_S p e below ST T260 (mkF m 224 #[iv ln, .val (.long p0), .second, .val (.long p1), .second, .val (.long p2), .second, iv (0 : Int32), iv x0, iv y0, iv x1, iv y1, iv x2, iv y2, rv b257, rv b260, iv (1 : Int32), iv (0 : Int32), iv (0 : Int32)] [(.ref b260), (.ref b257)]) := fun tt kt => go262 tt (by
      refine XS.astore X260.here hx rfl (hb hby at_50) rfl rfl (l' := #[iv ln, .val (.long p0), .second, .val (.long p1), .second, .val (.long p2), .second, iv (0 : Int32), iv x0, iv y0, iv x1, iv y1, iv x2, iv y2, rv b257, rv b260, .unset, .unset, .unset]) rfl ?_
      refine XS.iload X260.here hx rfl (hb hby at_52) rfl ?_
      refine XS.ifYes X260.here hx rfl (pc0 := 54) (pc' := 71) rfl (hb hby at_54) rfl ((if0 _ _).trans (flt (by decide : ¬ ((0 : Int32) < (0 : Int32)))).2.2.2) (by decide) (by decide) ?_
      refine XS.iload X260.here hx rfl (hb hby at_71) rfl ?_
      refine XS.iconst X260.here hx rfl (hb hby at_73) ?_
      refine XS.icmpYes X260.here hx rfl (pc0 := 74) (pc' := 91) rfl (hb hby at_74) rfl (flt (by decide : ¬ ((1 : Int32) < (0 : Int32)))).2.2.2 (by decide) (by decide) ?_
      show Steps p.tables e below (T260.setTop (mkF m 91 #[iv ln, .val (.long p0), .second, .val (.long p1), .second, .val (.long p2), .second, iv (0 : Int32), iv x0, iv y0, iv x1, iv y1, iv x2, iv y2, rv b257, rv b260, .unset, .unset, .unset] [])) _
      refine XS.iload X260.here hx rfl (hb hby at_91) rfl ?_
      refine XS.iconst X260.here hx rfl (hb hby at_93) ?_
      refine XS.icmpYes X260.here hx rfl (pc0 := 94) (pc' := 111) rfl (hb hby at_94) rfl (flt (by decide : ¬ ((2 : Int32) < (0 : Int32)))).2.2.2 (by decide) (by decide) ?_
      refine XS.iload X260.here hx rfl (hb hby at_111) rfl ?_
      refine XS.iconst X260.here hx rfl (hb hby at_113) ?_
      refine XS.icmpYes X260.here hx rfl (pc0 := 114) (pc' := 124) rfl (hb hby at_114) rfl (tlt (by decide : (0 : Int32) < (1 : Int32))).1 (by decide) (by decide) ?_
      show Steps p.tables e below (T260.setTop (mkF m 124 #[iv ln, .val (.long p0), .second, .val (.long p1), .second, .val (.long p2), .second, iv (0 : Int32), iv x0, iv y0, iv x1, iv y1, iv x2, iv y2, rv b257, rv b260, .unset, .unset, .unset] [])) _
      refine XS.iload X260.here hx rfl (hb hby at_124) rfl ?_
      refine XS.iconst X260.here hx rfl (hb hby at_126) ?_
      refine XS.icmpYes X260.here hx rfl (pc0 := 127) (pc' := 137) rfl (hb hby at_127) rfl (tlt (by decide : (0 : Int32) < (2 : Int32))).1 (by decide) (by decide) ?_
      refine XS.iload X260.here hx rfl (hb hby at_137) rfl ?_
      refine XS.iconst X260.here hx rfl (hb hby at_139) ?_
      refine XS.icmpYes X260.here hx rfl (pc0 := 140) (pc' := 150) rfl (hb hby at_140) rfl (tlt (by decide : (0 : Int32) < (3 : Int32))).1 (by decide) (by decide) ?_
      show Steps p.tables e below (T260.setTop (mkF m 150 #[iv ln, .val (.long p0), .second, .val (.long p1), .second, .val (.long p2), .second, iv (0 : Int32), iv x0, iv y0, iv x1, iv y1, iv x2, iv y2, rv b257, rv b260, .unset, .unset, .unset] [])) _
      refine XS.iconst X260.here hx rfl (hb hby at_150) ?_
      refine XS.goto X260.here hx rfl (pc0 := 151) (pc' := 155) rfl (hb hby at_151) (by decide) (by decide) ?_
      refine XS.istore X260.here hx rfl (hb hby at_155) rfl (l' := #[iv ln, .val (.long p0), .second, .val (.long p1), .second, .val (.long p2), .second, iv (0 : Int32), iv x0, iv y0, iv x1, iv y1, iv x2, iv y2, rv b257, rv b260, iv (1 : Int32), .unset, .unset]) rfl ?_
      refine XS.iload X260.here hx rfl (hb hby at_157) rfl ?_
      refine XS.iconst X260.here hx rfl (hb hby at_159) ?_
      refine XS.icmpYes X260.here hx rfl (pc0 := 160) (pc' := 170) rfl (hb hby at_160) rfl (tlt (by decide : (0 : Int32) < (1 : Int32))).1 (by decide) (by decide) ?_
      show Steps p.tables e below (T260.setTop (mkF m 170 #[iv ln, .val (.long p0), .second, .val (.long p1), .second, .val (.long p2), .second, iv (0 : Int32), iv x0, iv y0, iv x1, iv y1, iv x2, iv y2, rv b257, rv b260, iv (1 : Int32), .unset, .unset] [])) _
      refine XS.iload X260.here hx rfl (hb hby at_170) rfl ?_
      refine XS.iconst X260.here hx rfl (hb hby at_172) ?_
      refine XS.icmpYes X260.here hx rfl (pc0 := 173) (pc' := 183) rfl (hb hby at_173) rfl (tlt (by decide : (0 : Int32) < (2 : Int32))).1 (by decide) (by decide) ?_
      refine XS.iload X260.here hx rfl (hb hby at_183) rfl ?_
      refine XS.iconst X260.here hx rfl (hb hby at_185) ?_
      refine XS.icmpYes X260.here hx rfl (pc0 := 186) (pc' := 200) rfl (hb hby at_186) rfl (tlt (by decide : (0 : Int32) < (3 : Int32))).1 (by decide) (by decide) ?_
      show Steps p.tables e below (T260.setTop (mkF m 200 #[iv ln, .val (.long p0), .second, .val (.long p1), .second, .val (.long p2), .second, iv (0 : Int32), iv x0, iv y0, iv x1, iv y1, iv x2, iv y2, rv b257, rv b260, iv (1 : Int32), .unset, .unset] [])) _
      refine XS.iconst X260.here hx rfl (hb hby at_200) ?_
      refine XS.istore X260.here hx rfl (hb hby at_201) rfl (l' := #[iv ln, .val (.long p0), .second, .val (.long p1), .second, .val (.long p2), .second, iv (0 : Int32), iv x0, iv y0, iv x1, iv y1, iv x2, iv y2, rv b257, rv b260, iv (1 : Int32), iv (0 : Int32), .unset]) rfl ?_
      refine XS.iload X260.here hx rfl (hb hby at_203) rfl ?_
      refine XS.ifNo X260.here hx rfl (hb hby at_205) rfl ((if0 _ _).trans (feq (by decide : ¬ ((1 : Int32) = (0 : Int32)))).1) ?_
      refine XS.iload X260.here hx rfl (hb hby at_208) rfl ?_
      refine XS.ifYes X260.here hx rfl (pc0 := 210) (pc' := 217) rfl (hb hby at_210) rfl ((if0 _ _).trans (teq (by decide : (0 : Int32) = (0 : Int32))).1) (by decide) (by decide) ?_
      show Steps p.tables e below (T260.setTop (mkF m 217 #[iv ln, .val (.long p0), .second, .val (.long p1), .second, .val (.long p2), .second, iv (0 : Int32), iv x0, iv y0, iv x1, iv y1, iv x2, iv y2, rv b257, rv b260, iv (1 : Int32), iv (0 : Int32), .unset] [])) _
      refine XS.iconst X260.here hx rfl (hb hby at_217) ?_
      refine XS.istore X260.here hx rfl (hb hby at_218) rfl (l' := #[iv ln, .val (.long p0), .second, .val (.long p1), .second, .val (.long p2), .second, iv (0 : Int32), iv x0, iv y0, iv x1, iv y1, iv x2, iv y2, rv b257, rv b260, iv (1 : Int32), iv (0 : Int32), iv (0 : Int32)]) rfl ?_
      refine XS.aload X260.here hx rfl (hb hby at_220) rfl rfl ?_
      refine XS.aload X260.here hx rfl (hb hby at_222) rfl rfl ?_
      exact kt)
  have f264 := (V257.ext E260)
  have zs266 := (Nat.le_trans zs261 E260.1)
  obtain ⟨_, _, ⟨T265, L265, k265, n265⟩, -, X265, ⟨Lc265, hQ265, l265, y265, z265⟩, st265⟩ := Jvm.LawKit.callS X260 hx (y := (⟨"com/example/declination/declination/ranking/NondominatedSorting", "dominates", "([D[D)Z"⟩ : MethodName)) hown (mvT hZ (W 1 rfl)) (mvT hZ (W 2 rfl)) (mvT hZ (W 3 rfl)) (mvT hZ (W 4 rfl)) (by decide) (backOf (W := 0) (rm1k0 l Z a0 hw [] b257 b260 _ _ h260 n0 zs266 f264 V260) hZ (W 4 rfl) (W 3 rfl) (by decide) (by decide)) (g := (mkF m 224 #[iv ln, .val (.long p0), .second, .val (.long p1), .second, .val (.long p2), .second, iv (0 : Int32), iv x0, iv y0, iv x1, iv y1, iv x2, iv y2, rv b257, rv b260, iv (1 : Int32), iv (0 : Int32), iv (0 : Int32)] [(.ref b260), (.ref b257)])) rfl (by rw [hml]; rfl) (argsL := [(.ref b257), (.ref b260)]) (rest := []) (lenOf pd38 rfl) rfl (by show 2 * 0 + _ ≤ _; exact Nat.le_of_eq rfl) (hb hby at_224) (fun _ _ => ⟨rfl, e260, (by decide : 2 + 0 ≤ _), (by decide : 0 + 0 ≤ _)⟩)
  dsimp only [Pt.U, Pt.locs, Pt.cells, Pt.slots] at X265 l265 y265 z265 st265 hQ265
  subst l265 y265 z265
  obtain ⟨rfl, Nq265, eh265⟩ := hQ265
  have N265 := Fr.app N0 Nq265
  have go267 : own_S p e below ST T265 (mkF m 227 #[iv ln, .val (.long p0), .second, .val (.long p1), .second, .val (.long p2), .second, iv (0 : Int32), iv x0, iv y0, iv x1, iv y1, iv x2, iv y2, rv b257, rv b260, iv (1 : Int32), iv (0 : Int32), iv (0 : Int32)] [(.int (nar .boolean (0 : Int32)))]) := fun tt kt => go263 tt (st265 _ kt)
  have go268 : own_S p e below ST T265 (mkF m 229 #[iv ln, .val (.long p0), .second, .val (.long p1), .second, .val (.long p2), .second, iv (0 : Int32), iv x0, iv y0, iv x1, iv y1, iv x2, iv y2, rv b257, rv b260, iv (1 : Int32), iv (0 : Int32), iv (0 : Int32)] [(.int (0 : Int32)), (.int (nar .boolean (0 : Int32)))]) := fun tt kt => go267 tt (by
      refine XS.iload X265.here hx rfl (hb hby at_227) rfl ?_
      exact kt)
  have hfin : (nar .boolean (0 : Int32)) = (0 : Int32) := by
    decide
  have go269 : own_S p e below ST T265 (mkF m 237 #[iv ln, .val (.long p0), .second, .val (.long p1), .second, .val (.long p2), .second, iv (0 : Int32), iv x0, iv y0, iv x1, iv y1, iv x2, iv y2, rv b257, rv b260, iv (1 : Int32), iv (0 : Int32), iv (0 : Int32)] [(.int (1 : Int32))]) := fun tt kt => go268 tt (by
      refine XS.icmpNo X265.here hx rfl (hb hby at_229) rfl (teq hfin).2 ?_
      refine XS.iconst X265.here hx rfl (hb hby at_232) ?_
      refine XS.goto X265.here hx rfl (pc0 := 233) (pc' := 237) rfl (hb hby at_233) (by decide) (by decide) ?_
      exact kt)
  obtain ⟨fs, hr, hrun, hended, hW, hsame⟩ := X265.leave (v := some (.int (1 : Int32))) (fun h => by rw [Bd.returns] at h; cases h)
  refine ⟨_, _, pre0 _ (go269 _ ?_), hrun, hended, _, _, rfl, ?_, ⟨_, rfl⟩, hW, hsame.mono (by decide) (by decide)⟩
  · exact retN X265 hx (t := .boolean) Bd.returns (by simp) (hb hby at_237) hr
  · show Q0k0 Z ln p0 p1 p2 h0 n0 _ T265.heap _
    rw [eh265]
    exact ⟨rfl, N265⟩
theorem ef0k1 (m : MethodId) (x0 : Int32) (x1 : Int64) (x2 : Int64) (x3 : Int64) : entryFrame m #[(.int x0), (.long x1), (.long x2), (.long x3)] maxLocals = mkF m 0 #[.val (.int x0), .val (.long x1), .second, .val (.long x2), .second, .val (.long x3), .second, .unset, .unset, .unset, .unset, .unset, .unset, .unset, .unset, .unset, .unset, .unset, .unset] [] := by first | (simp [entryFrame, mkF, argsToLocals, Value.category, maxLocals]; done) | rfl
def Q0k1 (Z : State) (ln : Int32) (p0 : Int64) (p1 : Int64) (p2 : Int64) (h0 : Heap) (n0 : Nat) (v : Option Value) (h : Heap) (L : List Loc) : Prop := v = some (.int 1) ∧ Fr n0 L
set_option maxRecDepth 65536 in
set_option maxHeartbeats 40000000 in
theorem rm0k1 (l : Launch) (Z : State) (a0 : Array Value) (hw : ∀ d ∈ tables_1, d.before a0 Z = true) (ws : List Jvm.Cond) (ln : Int32) (p0 : Int64) (p1 : Int64) (p2 : Int64) (h0 : Heap) (n0 : Nat) (Z0 : n0 ≤ h0.size) (hk : ln &&& 3 = 1) :
    MetFree l x (head1 (Jvm.Cond.code x code maxLocals ret :: ws) room_1) (fun aa UU => aa = #[(.int ln), (.long p0), (.long p1), (.long p2)] ∧ Z.Warmed39 UU.vm ∧ UU.heap = h0) (fun _ _ _ _ _ => True) (fun _ UU oo UU' => ∃ vv LL, oo = .returned vv ∧ Q0k1 Z ln p0 p1 p2 h0 n0 vv UU'.heap LL ∧ FrameEnd UU oo UU' LL room_1.cells room_1.slots) := by
  have W : ∀ {d : Jvm.Cond} (i : Nat), tables_1[i]? = some d → d.before a0 Z = true := fun i h => hw _ (List.mem_of_getElem? h)
  refine MetFree.of_bodySF (plainFor_of_name pn37) hisR ?_
  intro p e s m args below meth c s₁ Bd hml0 hP hK
  obtain ⟨rfl, hZ, hh⟩ := hP
  have hx := Bd.exec
  have hby := Bd.bytes
  have hml : c.maxLocals = 19 := hml0
  have hown : s.vm.findClass "com/example/declination/declination/ranking/NondominatedSortingDominatesPinLaw" = some m.cls := findClass_of_methodNamed Bd.named
  have hnm := (name_of_methodNamed Bd.named Bd.method).1
  have X0 : Stand p l e room_1 s m #[(.int ln), (.long p0), (.long p1), (.long p2)] below meth c s₁ [] 0 0 := Stand.of_body Bd
  have e0 : s₁.heap = h0 := by rw [← hh, Bd.state]; rfl
  have N0 := Fr.nil n0
  have pre0 : ∀ tt, Steps p.tables e below (s₁.setTop (mkF m 0 #[iv ln, .val (.long p0), .second, .val (.long p1), .second, .val (.long p2), .second, .unset, .unset, .unset, .unset, .unset, .unset, .unset, .unset, .unset, .unset, .unset, .unset] [])) tt → Steps p.tables e below (s₁.setTop (entryFrame m #[(.int ln), (.long p0), (.long p1), (.long p2)] maxLocals)) tt := fun tt kt => castTop (ef0k1 m ln p0 p1 p2) kt
  obtain ⟨ST, hST⟩ : ∃ z : State, z = s₁.setTop (mkF m 0 #[iv ln, .val (.long p0), .second, .val (.long p1), .second, .val (.long p2), .second, .unset, .unset, .unset, .unset, .unset, .unset, .unset, .unset, .unset, .unset, .unset, .unset] []) := ⟨_, rfl⟩
  rw [← hST] at pre0
  have go270 : own_S p e below ST s₁ (mkF m 5 #[iv ln, .val (.long p0), .second, .val (.long p1), .second, .val (.long p2), .second, iv (ln &&& (3 : Int32)), .unset, .unset, .unset, .unset, .unset, .unset, .unset, .unset, .unset, .unset, .unset] []) := fun tt kt => (by
      rw [hST]
      show Steps p.tables e below (s₁.setTop (mkF m 0 #[iv ln, .val (.long p0), .second, .val (.long p1), .second, .val (.long p2), .second, .unset, .unset, .unset, .unset, .unset, .unset, .unset, .unset, .unset, .unset, .unset, .unset] [])) _
      refine XS.iloadN X0.here hx rfl (hb hby at_0) rfl ?_
      refine XS.iconst X0.here hx rfl (hb hby at_1) ?_
      refine XS.iand X0.here hx rfl (hb hby at_2) rfl ?_
      refine XS.istore X0.here hx rfl (hb hby at_3) rfl (l' := #[iv ln, .val (.long p0), .second, .val (.long p1), .second, .val (.long p2), .second, iv (ln &&& (3 : Int32)), .unset, .unset, .unset, .unset, .unset, .unset, .unset, .unset, .unset, .unset, .unset]) rfl ?_
      exact kt)
  rw [hk] at go270
  have go271 : own_S p e below ST s₁ (mkF m 7 #[iv ln, .val (.long p0), .second, .val (.long p1), .second, .val (.long p2), .second, iv (1 : Int32), .unset, .unset, .unset, .unset, .unset, .unset, .unset, .unset, .unset, .unset, .unset] [(.int (p0.toInt32))]) := fun tt kt => go270 tt (by
      refine XS.lloadN X0.here hx rfl (hb hby at_5) rfl ?_
      refine XS.l2i X0.here hx rfl (hb hby at_6) rfl ?_
      exact kt)
  obtain ⟨x0, hx0⟩ : ∃ z : Int32, z = (p0.toInt32) := ⟨_, rfl⟩
  rw [← hx0] at go271
  have go272 : own_S p e below ST s₁ (mkF m 14 #[iv ln, .val (.long p0), .second, .val (.long p1), .second, .val (.long p2), .second, iv (1 : Int32), iv x0, .unset, .unset, .unset, .unset, .unset, .unset, .unset, .unset, .unset, .unset] [(.int (((p0.toUInt64 >>> ((32 : Int32) &&& 0x3f).toInt64.toUInt64).toInt64).toInt32))]) := fun tt kt => go271 tt (by
      refine XS.istore X0.here hx rfl (hb hby at_7) rfl (l' := #[iv ln, .val (.long p0), .second, .val (.long p1), .second, .val (.long p2), .second, iv (1 : Int32), iv x0, .unset, .unset, .unset, .unset, .unset, .unset, .unset, .unset, .unset, .unset]) rfl ?_
      refine XS.lloadN X0.here hx rfl (hb hby at_9) rfl ?_
      refine XS.bipush X0.here hx rfl (hb hby at_10) ?_
      refine XS.lushr X0.here hx rfl (hb hby at_12) rfl ?_
      refine XS.l2i X0.here hx rfl (hb hby at_13) rfl ?_
      exact kt)
  obtain ⟨y0, hy0⟩ : ∃ z : Int32, z = (((p0.toUInt64 >>> ((32 : Int32) &&& 0x3f).toInt64.toUInt64).toInt64).toInt32) := ⟨_, rfl⟩
  rw [← hy0] at go272
  have go273 : own_S p e below ST s₁ (mkF m 18 #[iv ln, .val (.long p0), .second, .val (.long p1), .second, .val (.long p2), .second, iv (1 : Int32), iv x0, iv y0, .unset, .unset, .unset, .unset, .unset, .unset, .unset, .unset, .unset] [(.int (p1.toInt32))]) := fun tt kt => go272 tt (by
      refine XS.istore X0.here hx rfl (hb hby at_14) rfl (l' := #[iv ln, .val (.long p0), .second, .val (.long p1), .second, .val (.long p2), .second, iv (1 : Int32), iv x0, iv y0, .unset, .unset, .unset, .unset, .unset, .unset, .unset, .unset, .unset]) rfl ?_
      refine XS.lloadN X0.here hx rfl (hb hby at_16) rfl ?_
      refine XS.l2i X0.here hx rfl (hb hby at_17) rfl ?_
      exact kt)
  obtain ⟨x1, hx1⟩ : ∃ z : Int32, z = (p1.toInt32) := ⟨_, rfl⟩
  rw [← hx1] at go273
  have go274 : own_S p e below ST s₁ (mkF m 25 #[iv ln, .val (.long p0), .second, .val (.long p1), .second, .val (.long p2), .second, iv (1 : Int32), iv x0, iv y0, iv x1, .unset, .unset, .unset, .unset, .unset, .unset, .unset, .unset] [(.int (((p1.toUInt64 >>> ((32 : Int32) &&& 0x3f).toInt64.toUInt64).toInt64).toInt32))]) := fun tt kt => go273 tt (by
      refine XS.istore X0.here hx rfl (hb hby at_18) rfl (l' := #[iv ln, .val (.long p0), .second, .val (.long p1), .second, .val (.long p2), .second, iv (1 : Int32), iv x0, iv y0, iv x1, .unset, .unset, .unset, .unset, .unset, .unset, .unset, .unset]) rfl ?_
      refine XS.lloadN X0.here hx rfl (hb hby at_20) rfl ?_
      refine XS.bipush X0.here hx rfl (hb hby at_21) ?_
      refine XS.lushr X0.here hx rfl (hb hby at_23) rfl ?_
      refine XS.l2i X0.here hx rfl (hb hby at_24) rfl ?_
      exact kt)
  obtain ⟨y1, hy1⟩ : ∃ z : Int32, z = (((p1.toUInt64 >>> ((32 : Int32) &&& 0x3f).toInt64.toUInt64).toInt64).toInt32) := ⟨_, rfl⟩
  rw [← hy1] at go274
  have go275 : own_S p e below ST s₁ (mkF m 30 #[iv ln, .val (.long p0), .second, .val (.long p1), .second, .val (.long p2), .second, iv (1 : Int32), iv x0, iv y0, iv x1, iv y1, .unset, .unset, .unset, .unset, .unset, .unset, .unset] [(.int (p2.toInt32))]) := fun tt kt => go274 tt (by
      refine XS.istore X0.here hx rfl (hb hby at_25) rfl (l' := #[iv ln, .val (.long p0), .second, .val (.long p1), .second, .val (.long p2), .second, iv (1 : Int32), iv x0, iv y0, iv x1, iv y1, .unset, .unset, .unset, .unset, .unset, .unset, .unset]) rfl ?_
      refine XS.lload X0.here hx rfl (hb hby at_27) rfl ?_
      refine XS.l2i X0.here hx rfl (hb hby at_29) rfl ?_
      exact kt)
  obtain ⟨x2, hx2⟩ : ∃ z : Int32, z = (p2.toInt32) := ⟨_, rfl⟩
  rw [← hx2] at go275
  have go276 : own_S p e below ST s₁ (mkF m 38 #[iv ln, .val (.long p0), .second, .val (.long p1), .second, .val (.long p2), .second, iv (1 : Int32), iv x0, iv y0, iv x1, iv y1, iv x2, .unset, .unset, .unset, .unset, .unset, .unset] [(.int (((p2.toUInt64 >>> ((32 : Int32) &&& 0x3f).toInt64.toUInt64).toInt64).toInt32))]) := fun tt kt => go275 tt (by
      refine XS.istore X0.here hx rfl (hb hby at_30) rfl (l' := #[iv ln, .val (.long p0), .second, .val (.long p1), .second, .val (.long p2), .second, iv (1 : Int32), iv x0, iv y0, iv x1, iv y1, iv x2, .unset, .unset, .unset, .unset, .unset, .unset]) rfl ?_
      refine XS.lload X0.here hx rfl (hb hby at_32) rfl ?_
      refine XS.bipush X0.here hx rfl (hb hby at_34) ?_
      refine XS.lushr X0.here hx rfl (hb hby at_36) rfl ?_
      refine XS.l2i X0.here hx rfl (hb hby at_37) rfl ?_
      exact kt)
  obtain ⟨y2, hy2⟩ : ∃ z : Int32, z = (((p2.toUInt64 >>> ((32 : Int32) &&& 0x3f).toInt64.toUInt64).toInt64).toInt32) := ⟨_, rfl⟩
  rw [← hy2] at go276
  have go277 : own_S p e below ST s₁ (mkF m 42 #[iv ln, .val (.long p0), .second, .val (.long p1), .second, .val (.long p2), .second, iv (1 : Int32), iv x0, iv y0, iv x1, iv y1, iv x2, iv y2, .unset, .unset, .unset, .unset, .unset] [(.int (1 : Int32))]) := fun tt kt => go276 tt (by
      refine XS.istore X0.here hx rfl (hb hby at_38) rfl (l' := #[iv ln, .val (.long p0), .second, .val (.long p1), .second, .val (.long p2), .second, iv (1 : Int32), iv x0, iv y0, iv x1, iv y1, iv x2, iv y2, .unset, .unset, .unset, .unset, .unset]) rfl ?_
      refine XS.iload X0.here hx rfl (hb hby at_40) rfl ?_
      exact kt)
  obtain ⟨b278, g278⟩ : ∃ z, z = h0.size := ⟨_, rfl⟩
  obtain ⟨T278, h278, k278, X278, e278, E278, A278, st278⟩ := newP X0 hx hZ (W 0 rfl) e0 (g := (mkF m 42 #[iv ln, .val (.long p0), .second, .val (.long p1), .second, .val (.long p2), .second, iv (1 : Int32), iv x0, iv y0, iv x1, iv y1, iv x2, iv y2, .unset, .unset, .unset, .unset, .unset] [(.int (1 : Int32))])) rfl (hb hby at_42) rfl (by decide) (cap := 1) (by decide) (by decide) (by decide) (by decide)
  rw [← g278] at A278 st278
  have ge_b278 : n0 ≤ b278 := Nat.le_trans Z0 (Nat.le_of_eq g278.symm)
  have V278 : Arv Z h278 b278 k278 .double (1 : Int32) [(.double 0)] (.double 0) := (Arv.new A278 (by decide)).pad (pad_rep [] (.double 0) 1)
  have go279 : own_S p e below ST T278 (mkF m 44 #[iv ln, .val (.long p0), .second, .val (.long p1), .second, .val (.long p2), .second, iv (1 : Int32), iv x0, iv y0, iv x1, iv y1, iv x2, iv y2, .unset, .unset, .unset, .unset, .unset] [(.ref b278)]) := fun tt kt => go277 tt (st278 _ kt)
  have go280 : own_S p e below ST T278 (mkF m 48 #[iv ln, .val (.long p0), .second, .val (.long p1), .second, .val (.long p2), .second, iv (1 : Int32), iv x0, iv y0, iv x1, iv y1, iv x2, iv y2, rv b278, .unset, .unset, .unset, .unset] [(.int (1 : Int32))]) := fun tt kt => go279 tt (by
      refine XS.astore X278.here hx rfl (hb hby at_44) rfl rfl (l' := #[iv ln, .val (.long p0), .second, .val (.long p1), .second, .val (.long p2), .second, iv (1 : Int32), iv x0, iv y0, iv x1, iv y1, iv x2, iv y2, rv b278, .unset, .unset, .unset, .unset]) rfl ?_
      refine XS.iload X278.here hx rfl (hb hby at_46) rfl ?_
      exact kt)
  have zs282 := (Nat.le_trans Z0 E278.1)
  obtain ⟨b281, g281⟩ : ∃ z, z = h278.size := ⟨_, rfl⟩
  obtain ⟨T281, h281, k281, X281, e281, E281, A281, st281⟩ := newP X278 hx hZ (W 0 rfl) e278 (g := (mkF m 48 #[iv ln, .val (.long p0), .second, .val (.long p1), .second, .val (.long p2), .second, iv (1 : Int32), iv x0, iv y0, iv x1, iv y1, iv x2, iv y2, rv b278, .unset, .unset, .unset, .unset] [(.int (1 : Int32))])) rfl (hb hby at_48) rfl (by decide) (cap := 1) (by decide) (by decide) (by decide) (by decide)
  rw [← g281] at A281 st281
  have neb278_b281 : b278 ≠ b281 := Nat.ne_of_lt (Nat.lt_of_lt_of_le V278.lt (Nat.le_of_eq g281.symm))
  have ge_b281 : n0 ≤ b281 := Nat.le_trans zs282 (Nat.le_of_eq g281.symm)
  have V281 : Arv Z h281 b281 k281 .double (1 : Int32) [(.double 0)] (.double 0) := (Arv.new A281 (by decide)).pad (pad_rep [] (.double 0) 1)
  have go283 : own_S p e below ST T281 (mkF m 50 #[iv ln, .val (.long p0), .second, .val (.long p1), .second, .val (.long p2), .second, iv (1 : Int32), iv x0, iv y0, iv x1, iv y1, iv x2, iv y2, rv b278, .unset, .unset, .unset, .unset] [(.ref b281)]) := fun tt kt => go280 tt (st281 _ kt)
  have go284 : own_S p e below ST T281 (mkF m 63 #[iv ln, .val (.long p0), .second, .val (.long p1), .second, .val (.long p2), .second, iv (1 : Int32), iv x0, iv y0, iv x1, iv y1, iv x2, iv y2, rv b278, rv b281, .unset, .unset, .unset] [(.double (FP.i2d x0)), (.int (0 : Int32)), (.ref b278)]) := fun tt kt => go283 tt (by
      refine XS.astore X281.here hx rfl (hb hby at_50) rfl rfl (l' := #[iv ln, .val (.long p0), .second, .val (.long p1), .second, .val (.long p2), .second, iv (1 : Int32), iv x0, iv y0, iv x1, iv y1, iv x2, iv y2, rv b278, rv b281, .unset, .unset, .unset]) rfl ?_
      refine XS.iload X281.here hx rfl (hb hby at_52) rfl ?_
      refine XS.ifNo X281.here hx rfl (hb hby at_54) rfl ((if0 _ _).trans (tlt (by decide : (0 : Int32) < (1 : Int32))).2.2.2) ?_
      refine XS.aload X281.here hx rfl (hb hby at_57) rfl rfl ?_
      refine XS.iconst X281.here hx rfl (hb hby at_59) ?_
      refine XS.iload X281.here hx rfl (hb hby at_60) rfl ?_
      show Steps p.tables e below (T281.setTop (mkF m 62 #[iv ln, .val (.long p0), .second, .val (.long p1), .second, .val (.long p2), .second, iv (1 : Int32), iv x0, iv y0, iv x1, iv y1, iv x2, iv y2, rv b278, rv b281, .unset, .unset, .unset] [(.int x0), (.int (0 : Int32)), (.ref b278)])) _
      refine XS.i2dS X281.here hx rfl (hb hby at_62) rfl rfl ?_
      exact kt)
  have f286 := (V278.ext E281)
  obtain ⟨cl285, Ar285, q285, S285, M285, H285, G285⟩ := id f286
  have hin285 : ¬ ((0 : Int32) < 0 ∨ cl285.slots.size ≤ ((0 : Int32)).toNatClampNeg) := inb_of S285 ⟨by decide, by decide⟩
  obtain ⟨T285, h285, X285, e285, W285, st285⟩ := stD X281 hx hZ e281 Ar285 (j := (0 : Int32)) hin285 (g := (mkF m 63 #[iv ln, .val (.long p0), .second, .val (.long p1), .second, .val (.long p2), .second, iv (1 : Int32), iv x0, iv y0, iv x1, iv y1, iv x2, iv y2, rv b278, rv b281, .unset, .unset, .unset] [(.double (FP.i2d x0)), (.int (0 : Int32)), (.ref b278)])) rfl rfl (hb hby at_63)
  have V285 : Arv Z h285 b278 k278 .double (1 : Int32) [(.double (FP.i2d x0))] (.double 0) := Arv.set Ar285 q285 S285 M285 H285 G285 rfl W285 0 rfl (Nat.le_of_ble_eq_true rfl)
  have N285 := Fr.snoc X285 N0 ge_b278
  have go287 : own_S p e below ST T285 (mkF m 64 #[iv ln, .val (.long p0), .second, .val (.long p1), .second, .val (.long p2), .second, iv (1 : Int32), iv x0, iv y0, iv x1, iv y1, iv x2, iv y2, rv b278, rv b281, .unset, .unset, .unset] []) := fun tt kt => go284 tt (st285 _ kt)
  have go288 : own_S p e below ST T285 (mkF m 70 #[iv ln, .val (.long p0), .second, .val (.long p1), .second, .val (.long p2), .second, iv (1 : Int32), iv x0, iv y0, iv x1, iv y1, iv x2, iv y2, rv b278, rv b281, .unset, .unset, .unset] [(.double (FP.i2d y0)), (.int (0 : Int32)), (.ref b281)]) := fun tt kt => go287 tt (by
      refine XS.aload X285.here hx rfl (hb hby at_64) rfl rfl ?_
      refine XS.iconst X285.here hx rfl (hb hby at_66) ?_
      refine XS.iload X285.here hx rfl (hb hby at_67) rfl ?_
      refine XS.i2dS X285.here hx rfl (hb hby at_69) rfl rfl ?_
      exact kt)
  have f290 := (V281.other W285 (Ne.symm neb278_b281))
  obtain ⟨cl289, Ar289, q289, S289, M289, H289, G289⟩ := id f290
  have hin289 : ¬ ((0 : Int32) < 0 ∨ cl289.slots.size ≤ ((0 : Int32)).toNatClampNeg) := inb_of S289 ⟨by decide, by decide⟩
  obtain ⟨T289, h289, X289, e289, W289, st289⟩ := stD X285 hx hZ e285 Ar289 (j := (0 : Int32)) hin289 (g := (mkF m 70 #[iv ln, .val (.long p0), .second, .val (.long p1), .second, .val (.long p2), .second, iv (1 : Int32), iv x0, iv y0, iv x1, iv y1, iv x2, iv y2, rv b278, rv b281, .unset, .unset, .unset] [(.double (FP.i2d y0)), (.int (0 : Int32)), (.ref b281)])) rfl rfl (hb hby at_70)
  have V289 : Arv Z h289 b281 k281 .double (1 : Int32) [(.double (FP.i2d y0))] (.double 0) := Arv.set Ar289 q289 S289 M289 H289 G289 rfl W289 0 rfl (Nat.le_of_ble_eq_true rfl)
  have N289 := Fr.snoc X289 N285 ge_b281
  have go291 : own_S p e below ST T289 (mkF m 71 #[iv ln, .val (.long p0), .second, .val (.long p1), .second, .val (.long p2), .second, iv (1 : Int32), iv x0, iv y0, iv x1, iv y1, iv x2, iv y2, rv b278, rv b281, .unset, .unset, .unset] []) := fun tt kt => go288 tt (st289 _ kt)
  have go292 : own_S p e below ST T289 (mkF m 121 #[iv ln, .val (.long p0), .second, .val (.long p1), .second, .val (.long p2), .second, iv (1 : Int32), iv x0, iv y0, iv x1, iv y1, iv x2, iv y2, rv b278, rv b281, .unset, .unset, .unset] [(.int y0), (.int x0)]) := fun tt kt => go291 tt (by
      refine XS.iload X289.here hx rfl (hb hby at_71) rfl ?_
      refine XS.iconst X289.here hx rfl (hb hby at_73) ?_
      refine XS.icmpYes X289.here hx rfl (pc0 := 74) (pc' := 91) rfl (hb hby at_74) rfl (flt (by decide : ¬ ((1 : Int32) < (1 : Int32)))).2.2.2 (by decide) (by decide) ?_
      refine XS.iload X289.here hx rfl (hb hby at_91) rfl ?_
      refine XS.iconst X289.here hx rfl (hb hby at_93) ?_
      refine XS.icmpYes X289.here hx rfl (pc0 := 94) (pc' := 111) rfl (hb hby at_94) rfl (flt (by decide : ¬ ((2 : Int32) < (1 : Int32)))).2.2.2 (by decide) (by decide) ?_
      show Steps p.tables e below (T289.setTop (mkF m 111 #[iv ln, .val (.long p0), .second, .val (.long p1), .second, .val (.long p2), .second, iv (1 : Int32), iv x0, iv y0, iv x1, iv y1, iv x2, iv y2, rv b278, rv b281, .unset, .unset, .unset] [])) _
      refine XS.iload X289.here hx rfl (hb hby at_111) rfl ?_
      refine XS.iconst X289.here hx rfl (hb hby at_113) ?_
      refine XS.icmpNo X289.here hx rfl (hb hby at_114) rfl (flt (by decide : ¬ ((1 : Int32) < (1 : Int32)))).1 ?_
      refine XS.iload X289.here hx rfl (hb hby at_117) rfl ?_
      refine XS.iload X289.here hx rfl (hb hby at_119) rfl ?_
      exact kt)
  obtain ⟨al, hal, sg293⟩ : ∃ (al : Int32), al = (if x0 < y0 then (0 : Int32) else (1 : Int32)) ∧ ∀ tt, Steps p.tables e below (T289.setTop (mkF m 155 #[iv ln, .val (.long p0), .second, .val (.long p1), .second, .val (.long p2), .second, iv (1 : Int32), iv x0, iv y0, iv x1, iv y1, iv x2, iv y2, rv b278, rv b281, .unset, .unset, .unset] [(.int al)])) tt → Steps p.tables e below (T289.setTop (mkF m 121 #[iv ln, .val (.long p0), .second, .val (.long p1), .second, .val (.long p2), .second, iv (1 : Int32), iv x0, iv y0, iv x1, iv y1, iv x2, iv y2, rv b278, rv b281, .unset, .unset, .unset] [(.int y0), (.int x0)])) tt := by
    by_cases hd121_0 : x0 < y0
    · refine ⟨_, (if_pos hd121_0).symm, fun tt kt => ?_⟩
      show Steps p.tables e below (T289.setTop (mkF m 121 #[iv ln, .val (.long p0), .second, .val (.long p1), .second, .val (.long p2), .second, iv (1 : Int32), iv x0, iv y0, iv x1, iv y1, iv x2, iv y2, rv b278, rv b281, .unset, .unset, .unset] [(.int y0), (.int x0)])) _
      refine XS.icmpYes X289.here hx rfl (pc0 := 121) (pc' := 154) rfl (hb hby at_121) rfl (tlt hd121_0).1 (by decide) (by decide) ?_
      refine XS.iconst X289.here hx rfl (hb hby at_154) ?_
      exact kt
    · refine ⟨_, (if_neg hd121_0).symm, fun tt kt => ?_⟩
      show Steps p.tables e below (T289.setTop (mkF m 121 #[iv ln, .val (.long p0), .second, .val (.long p1), .second, .val (.long p2), .second, iv (1 : Int32), iv x0, iv y0, iv x1, iv y1, iv x2, iv y2, rv b278, rv b281, .unset, .unset, .unset] [(.int y0), (.int x0)])) _
      refine XS.icmpNo X289.here hx rfl (hb hby at_121) rfl (flt hd121_0).1 ?_
      refine XS.iload X289.here hx rfl (hb hby at_124) rfl ?_
      refine XS.iconst X289.here hx rfl (hb hby at_126) ?_
      refine XS.icmpYes X289.here hx rfl (pc0 := 127) (pc' := 137) rfl (hb hby at_127) rfl (tlt (by decide : (1 : Int32) < (2 : Int32))).1 (by decide) (by decide) ?_
      refine XS.iload X289.here hx rfl (hb hby at_137) rfl ?_
      refine XS.iconst X289.here hx rfl (hb hby at_139) ?_
      show Steps p.tables e below (T289.setTop (mkF m 140 #[iv ln, .val (.long p0), .second, .val (.long p1), .second, .val (.long p2), .second, iv (1 : Int32), iv x0, iv y0, iv x1, iv y1, iv x2, iv y2, rv b278, rv b281, .unset, .unset, .unset] [(.int (3 : Int32)), (.int (1 : Int32))])) _
      refine XS.icmpYes X289.here hx rfl (pc0 := 140) (pc' := 150) rfl (hb hby at_140) rfl (tlt (by decide : (1 : Int32) < (3 : Int32))).1 (by decide) (by decide) ?_
      refine XS.iconst X289.here hx rfl (hb hby at_150) ?_
      refine XS.goto X289.here hx rfl (pc0 := 151) (pc' := 155) rfl (hb hby at_151) (by decide) (by decide) ?_
      exact kt
  have go294 : own_S p e below ST T289 (mkF m 155 #[iv ln, .val (.long p0), .second, .val (.long p1), .second, .val (.long p2), .second, iv (1 : Int32), iv x0, iv y0, iv x1, iv y1, iv x2, iv y2, rv b278, rv b281, .unset, .unset, .unset] [(.int al)]) := fun tt kt => go292 tt (sg293 _ kt)
  have go295 : own_S p e below ST T289 (mkF m 167 #[iv ln, .val (.long p0), .second, .val (.long p1), .second, .val (.long p2), .second, iv (1 : Int32), iv x0, iv y0, iv x1, iv y1, iv x2, iv y2, rv b278, rv b281, iv al, .unset, .unset] [(.int y0), (.int x0)]) := fun tt kt => go294 tt (by
      refine XS.istore X289.here hx rfl (hb hby at_155) rfl (l' := #[iv ln, .val (.long p0), .second, .val (.long p1), .second, .val (.long p2), .second, iv (1 : Int32), iv x0, iv y0, iv x1, iv y1, iv x2, iv y2, rv b278, rv b281, iv al, .unset, .unset]) rfl ?_
      refine XS.iload X289.here hx rfl (hb hby at_157) rfl ?_
      refine XS.iconst X289.here hx rfl (hb hby at_159) ?_
      refine XS.icmpNo X289.here hx rfl (hb hby at_160) rfl (flt (by decide : ¬ ((1 : Int32) < (1 : Int32)))).1 ?_
      refine XS.iload X289.here hx rfl (hb hby at_163) rfl ?_
      refine XS.iload X289.here hx rfl (hb hby at_165) rfl ?_
      exact kt)
  obtain ⟨gs, hgs, sg296⟩ : ∃ (gs : Int32), gs = (if y0 < x0 then (1 : Int32) else (0 : Int32)) ∧ ∀ tt, Steps p.tables e below (T289.setTop (mkF m 201 #[iv ln, .val (.long p0), .second, .val (.long p1), .second, .val (.long p2), .second, iv (1 : Int32), iv x0, iv y0, iv x1, iv y1, iv x2, iv y2, rv b278, rv b281, iv al, .unset, .unset] [(.int gs)])) tt → Steps p.tables e below (T289.setTop (mkF m 167 #[iv ln, .val (.long p0), .second, .val (.long p1), .second, .val (.long p2), .second, iv (1 : Int32), iv x0, iv y0, iv x1, iv y1, iv x2, iv y2, rv b278, rv b281, iv al, .unset, .unset] [(.int y0), (.int x0)])) tt := by
    by_cases hd167_0 : y0 < x0
    · refine ⟨_, (if_pos hd167_0).symm, fun tt kt => ?_⟩
      show Steps p.tables e below (T289.setTop (mkF m 167 #[iv ln, .val (.long p0), .second, .val (.long p1), .second, .val (.long p2), .second, iv (1 : Int32), iv x0, iv y0, iv x1, iv y1, iv x2, iv y2, rv b278, rv b281, iv al, .unset, .unset] [(.int y0), (.int x0)])) _
      refine XS.icmpYes X289.here hx rfl (pc0 := 167) (pc' := 196) rfl (hb hby at_167) rfl (tlt hd167_0).2.2.1 (by decide) (by decide) ?_
      refine XS.iconst X289.here hx rfl (hb hby at_196) ?_
      refine XS.goto X289.here hx rfl (pc0 := 197) (pc' := 201) rfl (hb hby at_197) (by decide) (by decide) ?_
      exact kt
    · refine ⟨_, (if_neg hd167_0).symm, fun tt kt => ?_⟩
      show Steps p.tables e below (T289.setTop (mkF m 167 #[iv ln, .val (.long p0), .second, .val (.long p1), .second, .val (.long p2), .second, iv (1 : Int32), iv x0, iv y0, iv x1, iv y1, iv x2, iv y2, rv b278, rv b281, iv al, .unset, .unset] [(.int y0), (.int x0)])) _
      refine XS.icmpNo X289.here hx rfl (hb hby at_167) rfl (flt hd167_0).2.2.1 ?_
      refine XS.iload X289.here hx rfl (hb hby at_170) rfl ?_
      refine XS.iconst X289.here hx rfl (hb hby at_172) ?_
      refine XS.icmpYes X289.here hx rfl (pc0 := 173) (pc' := 183) rfl (hb hby at_173) rfl (tlt (by decide : (1 : Int32) < (2 : Int32))).1 (by decide) (by decide) ?_
      refine XS.iload X289.here hx rfl (hb hby at_183) rfl ?_
      refine XS.iconst X289.here hx rfl (hb hby at_185) ?_
      show Steps p.tables e below (T289.setTop (mkF m 186 #[iv ln, .val (.long p0), .second, .val (.long p1), .second, .val (.long p2), .second, iv (1 : Int32), iv x0, iv y0, iv x1, iv y1, iv x2, iv y2, rv b278, rv b281, iv al, .unset, .unset] [(.int (3 : Int32)), (.int (1 : Int32))])) _
      refine XS.icmpYes X289.here hx rfl (pc0 := 186) (pc' := 200) rfl (hb hby at_186) rfl (tlt (by decide : (1 : Int32) < (3 : Int32))).1 (by decide) (by decide) ?_
      refine XS.iconst X289.here hx rfl (hb hby at_200) ?_
      exact kt
  have go297 : own_S p e below ST T289 (mkF m 201 #[iv ln, .val (.long p0), .second, .val (.long p1), .second, .val (.long p2), .second, iv (1 : Int32), iv x0, iv y0, iv x1, iv y1, iv x2, iv y2, rv b278, rv b281, iv al, .unset, .unset] [(.int gs)]) := fun tt kt => go295 tt (sg296 _ kt)
  have go298 : own_S p e below ST T289 (mkF m 205 #[iv ln, .val (.long p0), .second, .val (.long p1), .second, .val (.long p2), .second, iv (1 : Int32), iv x0, iv y0, iv x1, iv y1, iv x2, iv y2, rv b278, rv b281, iv al, iv gs, .unset] [(.int al)]) := fun tt kt => go297 tt (by
      refine XS.istore X289.here hx rfl (hb hby at_201) rfl (l' := #[iv ln, .val (.long p0), .second, .val (.long p1), .second, .val (.long p2), .second, iv (1 : Int32), iv x0, iv y0, iv x1, iv y1, iv x2, iv y2, rv b278, rv b281, iv al, iv gs, .unset]) rfl ?_
      refine XS.iload X289.here hx rfl (hb hby at_203) rfl ?_
      exact kt)
  obtain ⟨ex, hex, sg299⟩ : ∃ (ex : Int32), ex = (if al = (0 : Int32) then (0 : Int32) else (if gs = (0 : Int32) then (0 : Int32) else (1 : Int32))) ∧ ∀ tt, Steps p.tables e below (T289.setTop (mkF m 218 #[iv ln, .val (.long p0), .second, .val (.long p1), .second, .val (.long p2), .second, iv (1 : Int32), iv x0, iv y0, iv x1, iv y1, iv x2, iv y2, rv b278, rv b281, iv al, iv gs, .unset] [(.int ex)])) tt → Steps p.tables e below (T289.setTop (mkF m 205 #[iv ln, .val (.long p0), .second, .val (.long p1), .second, .val (.long p2), .second, iv (1 : Int32), iv x0, iv y0, iv x1, iv y1, iv x2, iv y2, rv b278, rv b281, iv al, iv gs, .unset] [(.int al)])) tt := by
    by_cases hd205_0 : al = (0 : Int32)
    · refine ⟨_, (if_pos hd205_0).symm, fun tt kt => ?_⟩
      show Steps p.tables e below (T289.setTop (mkF m 205 #[iv ln, .val (.long p0), .second, .val (.long p1), .second, .val (.long p2), .second, iv (1 : Int32), iv x0, iv y0, iv x1, iv y1, iv x2, iv y2, rv b278, rv b281, iv al, iv gs, .unset] [(.int al)])) _
      refine XS.ifYes X289.here hx rfl (pc0 := 205) (pc' := 217) rfl (hb hby at_205) rfl ((if0 _ _).trans (teq hd205_0).1) (by decide) (by decide) ?_
      refine XS.iconst X289.here hx rfl (hb hby at_217) ?_
      exact kt
    · by_cases hd210_1 : gs = (0 : Int32)
      · refine ⟨_, ((if_neg hd205_0).trans (if_pos hd210_1)).symm, fun tt kt => ?_⟩
        show Steps p.tables e below (T289.setTop (mkF m 205 #[iv ln, .val (.long p0), .second, .val (.long p1), .second, .val (.long p2), .second, iv (1 : Int32), iv x0, iv y0, iv x1, iv y1, iv x2, iv y2, rv b278, rv b281, iv al, iv gs, .unset] [(.int al)])) _
        refine XS.ifNo X289.here hx rfl (hb hby at_205) rfl ((if0 _ _).trans (feq hd205_0).1) ?_
        refine XS.iload X289.here hx rfl (hb hby at_208) rfl ?_
        refine XS.ifYes X289.here hx rfl (pc0 := 210) (pc' := 217) rfl (hb hby at_210) rfl ((if0 _ _).trans (teq hd210_1).1) (by decide) (by decide) ?_
        refine XS.iconst X289.here hx rfl (hb hby at_217) ?_
        exact kt
      · refine ⟨_, ((if_neg hd205_0).trans (if_neg hd210_1)).symm, fun tt kt => ?_⟩
        show Steps p.tables e below (T289.setTop (mkF m 205 #[iv ln, .val (.long p0), .second, .val (.long p1), .second, .val (.long p2), .second, iv (1 : Int32), iv x0, iv y0, iv x1, iv y1, iv x2, iv y2, rv b278, rv b281, iv al, iv gs, .unset] [(.int al)])) _
        refine XS.ifNo X289.here hx rfl (hb hby at_205) rfl ((if0 _ _).trans (feq hd205_0).1) ?_
        refine XS.iload X289.here hx rfl (hb hby at_208) rfl ?_
        refine XS.ifNo X289.here hx rfl (hb hby at_210) rfl ((if0 _ _).trans (feq hd210_1).1) ?_
        refine XS.iconst X289.here hx rfl (hb hby at_213) ?_
        refine XS.goto X289.here hx rfl (pc0 := 214) (pc' := 218) rfl (hb hby at_214) (by decide) (by decide) ?_
        exact kt
  have go300 : own_S p e below ST T289 (mkF m 218 #[iv ln, .val (.long p0), .second, .val (.long p1), .second, .val (.long p2), .second, iv (1 : Int32), iv x0, iv y0, iv x1, iv y1, iv x2, iv y2, rv b278, rv b281, iv al, iv gs, .unset] [(.int ex)]) := fun tt kt => go298 tt (sg299 _ kt)
  have go301 : own_S p e below ST T289 (mkF m 224 #[iv ln, .val (.long p0), .second, .val (.long p1), .second, .val (.long p2), .second, iv (1 : Int32), iv x0, iv y0, iv x1, iv y1, iv x2, iv y2, rv b278, rv b281, iv al, iv gs, iv ex] [(.ref b281), (.ref b278)]) := fun tt kt => go300 tt (by
      refine XS.istore X289.here hx rfl (hb hby at_218) rfl (l' := #[iv ln, .val (.long p0), .second, .val (.long p1), .second, .val (.long p2), .second, iv (1 : Int32), iv x0, iv y0, iv x1, iv y1, iv x2, iv y2, rv b278, rv b281, iv al, iv gs, iv ex]) rfl ?_
      refine XS.aload X289.here hx rfl (hb hby at_220) rfl rfl ?_
      refine XS.aload X289.here hx rfl (hb hby at_222) rfl rfl ?_
      exact kt)
  have f302 := (V285.other W289 neb278_b281)
  have zs304 := (Nat.le_trans (Nat.le_trans (Nat.le_trans zs282 E281.1) (Keep.of_wr W285).1) (Keep.of_wr W289).1)
  obtain ⟨_, _, ⟨T303, L303, k303, n303⟩, -, X303, ⟨Lc303, hQ303, l303, y303, z303⟩, st303⟩ := Jvm.LawKit.callS X289 hx (y := (⟨"com/example/declination/declination/ranking/NondominatedSorting", "dominates", "([D[D)Z"⟩ : MethodName)) hown (mvT hZ (W 1 rfl)) (mvT hZ (W 2 rfl)) (mvT hZ (W 3 rfl)) (mvT hZ (W 4 rfl)) (by decide) (backOf (W := 0) (rm1k1 l Z a0 hw [] b278 b281 _ _ x0 y0 h289 n0 zs304 f302 V289) hZ (W 4 rfl) (W 3 rfl) (by decide) (by decide)) (g := (mkF m 224 #[iv ln, .val (.long p0), .second, .val (.long p1), .second, .val (.long p2), .second, iv (1 : Int32), iv x0, iv y0, iv x1, iv y1, iv x2, iv y2, rv b278, rv b281, iv al, iv gs, iv ex] [(.ref b281), (.ref b278)])) rfl (by rw [hml]; rfl) (argsL := [(.ref b278), (.ref b281)]) (rest := []) (lenOf pd38 rfl) rfl (by show 2 * 0 + _ ≤ _; exact Nat.le_of_eq rfl) (hb hby at_224) (fun _ _ => ⟨rfl, e289, (by decide : 2 + 0 ≤ _), (by decide : 2 + 0 ≤ _)⟩)
  dsimp only [Pt.U, Pt.locs, Pt.cells, Pt.slots] at X303 l303 y303 z303 st303 hQ303
  subst l303 y303 z303
  obtain ⟨rfl, Nq303, eh303⟩ := hQ303
  have N303 := Fr.app N289 Nq303
  have go305 : own_S p e below ST T303 (mkF m 227 #[iv ln, .val (.long p0), .second, .val (.long p1), .second, .val (.long p2), .second, iv (1 : Int32), iv x0, iv y0, iv x1, iv y1, iv x2, iv y2, rv b278, rv b281, iv al, iv gs, iv ex] [(.int (if lcmpW (x0.toInt64) (y0.toInt64) < (0 : Int32) then 0 else (nar .boolean ((0 : Int32) ||| own_g x0 y0))))]) := fun tt kt => go301 tt (st303 _ kt)
  have go306 : own_S p e below ST T303 (mkF m 229 #[iv ln, .val (.long p0), .second, .val (.long p1), .second, .val (.long p2), .second, iv (1 : Int32), iv x0, iv y0, iv x1, iv y1, iv x2, iv y2, rv b278, rv b281, iv al, iv gs, iv ex] [(.int ex), (.int (if lcmpW (x0.toInt64) (y0.toInt64) < (0 : Int32) then 0 else (nar .boolean ((0 : Int32) ||| own_g x0 y0))))]) := fun tt kt => go305 tt (by
      refine XS.iload X303.here hx rfl (hb hby at_227) rfl ?_
      exact kt)
  have hfin : (if lcmpW (x0.toInt64) (y0.toInt64) < (0 : Int32) then 0 else (nar .boolean ((0 : Int32) ||| own_g x0 y0))) = ex := by
    simp only [own_lt, own_g, own_gt]
    rw [hex, hgs, hal]
    by_cases u0 : x0 < y0 <;> by_cases t0 : y0 < x0
    all_goals first | exact (own_tri _ _ u0 t0).elim | (simp only [u0, t0, if_true, if_false, ↓reduceIte] <;> decide) | (simp [u0, t0] <;> decide)
  have go307 : own_S p e below ST T303 (mkF m 237 #[iv ln, .val (.long p0), .second, .val (.long p1), .second, .val (.long p2), .second, iv (1 : Int32), iv x0, iv y0, iv x1, iv y1, iv x2, iv y2, rv b278, rv b281, iv al, iv gs, iv ex] [(.int (1 : Int32))]) := fun tt kt => go306 tt (by
      refine XS.icmpNo X303.here hx rfl (hb hby at_229) rfl (teq hfin).2 ?_
      refine XS.iconst X303.here hx rfl (hb hby at_232) ?_
      refine XS.goto X303.here hx rfl (pc0 := 233) (pc' := 237) rfl (hb hby at_233) (by decide) (by decide) ?_
      exact kt)
  obtain ⟨fs, hr, hrun, hended, hW, hsame⟩ := X303.leave (v := some (.int (1 : Int32))) (fun h => by rw [Bd.returns] at h; cases h)
  refine ⟨_, _, pre0 _ (go307 _ ?_), hrun, hended, _, _, rfl, ?_, ⟨_, rfl⟩, hW, hsame.mono (by decide) (by decide)⟩
  · exact retN X303 hx (t := .boolean) Bd.returns (by simp) (hb hby at_237) hr
  · show Q0k1 Z ln p0 p1 p2 h0 n0 _ T303.heap _
    rw [eh303]
    exact ⟨rfl, N303⟩
theorem ef0k2 (m : MethodId) (x0 : Int32) (x1 : Int64) (x2 : Int64) (x3 : Int64) : entryFrame m #[(.int x0), (.long x1), (.long x2), (.long x3)] maxLocals = mkF m 0 #[.val (.int x0), .val (.long x1), .second, .val (.long x2), .second, .val (.long x3), .second, .unset, .unset, .unset, .unset, .unset, .unset, .unset, .unset, .unset, .unset, .unset, .unset] [] := by first | (simp [entryFrame, mkF, argsToLocals, Value.category, maxLocals]; done) | rfl
def Q0k2 (Z : State) (ln : Int32) (p0 : Int64) (p1 : Int64) (p2 : Int64) (h0 : Heap) (n0 : Nat) (v : Option Value) (h : Heap) (L : List Loc) : Prop := v = some (.int 1) ∧ Fr n0 L
set_option maxRecDepth 65536 in
set_option maxHeartbeats 40000000 in
theorem rm0k2 (l : Launch) (Z : State) (a0 : Array Value) (hw : ∀ d ∈ tables_1, d.before a0 Z = true) (ws : List Jvm.Cond) (ln : Int32) (p0 : Int64) (p1 : Int64) (p2 : Int64) (h0 : Heap) (n0 : Nat) (Z0 : n0 ≤ h0.size) (hk : ln &&& 3 = 2) :
    MetFree l x (head1 (Jvm.Cond.code x code maxLocals ret :: ws) room_1) (fun aa UU => aa = #[(.int ln), (.long p0), (.long p1), (.long p2)] ∧ Z.Warmed39 UU.vm ∧ UU.heap = h0) (fun _ _ _ _ _ => True) (fun _ UU oo UU' => ∃ vv LL, oo = .returned vv ∧ Q0k2 Z ln p0 p1 p2 h0 n0 vv UU'.heap LL ∧ FrameEnd UU oo UU' LL room_1.cells room_1.slots) := by
  have W : ∀ {d : Jvm.Cond} (i : Nat), tables_1[i]? = some d → d.before a0 Z = true := fun i h => hw _ (List.mem_of_getElem? h)
  refine MetFree.of_bodySF (plainFor_of_name pn37) hisR ?_
  intro p e s m args below meth c s₁ Bd hml0 hP hK
  obtain ⟨rfl, hZ, hh⟩ := hP
  have hx := Bd.exec
  have hby := Bd.bytes
  have hml : c.maxLocals = 19 := hml0
  have hown : s.vm.findClass "com/example/declination/declination/ranking/NondominatedSortingDominatesPinLaw" = some m.cls := findClass_of_methodNamed Bd.named
  have hnm := (name_of_methodNamed Bd.named Bd.method).1
  have X0 : Stand p l e room_1 s m #[(.int ln), (.long p0), (.long p1), (.long p2)] below meth c s₁ [] 0 0 := Stand.of_body Bd
  have e0 : s₁.heap = h0 := by rw [← hh, Bd.state]; rfl
  have N0 := Fr.nil n0
  have pre0 : ∀ tt, Steps p.tables e below (s₁.setTop (mkF m 0 #[iv ln, .val (.long p0), .second, .val (.long p1), .second, .val (.long p2), .second, .unset, .unset, .unset, .unset, .unset, .unset, .unset, .unset, .unset, .unset, .unset, .unset] [])) tt → Steps p.tables e below (s₁.setTop (entryFrame m #[(.int ln), (.long p0), (.long p1), (.long p2)] maxLocals)) tt := fun tt kt => castTop (ef0k2 m ln p0 p1 p2) kt
  obtain ⟨ST, hST⟩ : ∃ z : State, z = s₁.setTop (mkF m 0 #[iv ln, .val (.long p0), .second, .val (.long p1), .second, .val (.long p2), .second, .unset, .unset, .unset, .unset, .unset, .unset, .unset, .unset, .unset, .unset, .unset, .unset] []) := ⟨_, rfl⟩
  rw [← hST] at pre0
  have go308 : own_S p e below ST s₁ (mkF m 5 #[iv ln, .val (.long p0), .second, .val (.long p1), .second, .val (.long p2), .second, iv (ln &&& (3 : Int32)), .unset, .unset, .unset, .unset, .unset, .unset, .unset, .unset, .unset, .unset, .unset] []) := fun tt kt => (by
      rw [hST]
      show Steps p.tables e below (s₁.setTop (mkF m 0 #[iv ln, .val (.long p0), .second, .val (.long p1), .second, .val (.long p2), .second, .unset, .unset, .unset, .unset, .unset, .unset, .unset, .unset, .unset, .unset, .unset, .unset] [])) _
      refine XS.iloadN X0.here hx rfl (hb hby at_0) rfl ?_
      refine XS.iconst X0.here hx rfl (hb hby at_1) ?_
      refine XS.iand X0.here hx rfl (hb hby at_2) rfl ?_
      refine XS.istore X0.here hx rfl (hb hby at_3) rfl (l' := #[iv ln, .val (.long p0), .second, .val (.long p1), .second, .val (.long p2), .second, iv (ln &&& (3 : Int32)), .unset, .unset, .unset, .unset, .unset, .unset, .unset, .unset, .unset, .unset, .unset]) rfl ?_
      exact kt)
  rw [hk] at go308
  have go309 : own_S p e below ST s₁ (mkF m 7 #[iv ln, .val (.long p0), .second, .val (.long p1), .second, .val (.long p2), .second, iv (2 : Int32), .unset, .unset, .unset, .unset, .unset, .unset, .unset, .unset, .unset, .unset, .unset] [(.int (p0.toInt32))]) := fun tt kt => go308 tt (by
      refine XS.lloadN X0.here hx rfl (hb hby at_5) rfl ?_
      refine XS.l2i X0.here hx rfl (hb hby at_6) rfl ?_
      exact kt)
  obtain ⟨x0, hx0⟩ : ∃ z : Int32, z = (p0.toInt32) := ⟨_, rfl⟩
  rw [← hx0] at go309
  have go310 : own_S p e below ST s₁ (mkF m 14 #[iv ln, .val (.long p0), .second, .val (.long p1), .second, .val (.long p2), .second, iv (2 : Int32), iv x0, .unset, .unset, .unset, .unset, .unset, .unset, .unset, .unset, .unset, .unset] [(.int (((p0.toUInt64 >>> ((32 : Int32) &&& 0x3f).toInt64.toUInt64).toInt64).toInt32))]) := fun tt kt => go309 tt (by
      refine XS.istore X0.here hx rfl (hb hby at_7) rfl (l' := #[iv ln, .val (.long p0), .second, .val (.long p1), .second, .val (.long p2), .second, iv (2 : Int32), iv x0, .unset, .unset, .unset, .unset, .unset, .unset, .unset, .unset, .unset, .unset]) rfl ?_
      refine XS.lloadN X0.here hx rfl (hb hby at_9) rfl ?_
      refine XS.bipush X0.here hx rfl (hb hby at_10) ?_
      refine XS.lushr X0.here hx rfl (hb hby at_12) rfl ?_
      refine XS.l2i X0.here hx rfl (hb hby at_13) rfl ?_
      exact kt)
  obtain ⟨y0, hy0⟩ : ∃ z : Int32, z = (((p0.toUInt64 >>> ((32 : Int32) &&& 0x3f).toInt64.toUInt64).toInt64).toInt32) := ⟨_, rfl⟩
  rw [← hy0] at go310
  have go311 : own_S p e below ST s₁ (mkF m 18 #[iv ln, .val (.long p0), .second, .val (.long p1), .second, .val (.long p2), .second, iv (2 : Int32), iv x0, iv y0, .unset, .unset, .unset, .unset, .unset, .unset, .unset, .unset, .unset] [(.int (p1.toInt32))]) := fun tt kt => go310 tt (by
      refine XS.istore X0.here hx rfl (hb hby at_14) rfl (l' := #[iv ln, .val (.long p0), .second, .val (.long p1), .second, .val (.long p2), .second, iv (2 : Int32), iv x0, iv y0, .unset, .unset, .unset, .unset, .unset, .unset, .unset, .unset, .unset]) rfl ?_
      refine XS.lloadN X0.here hx rfl (hb hby at_16) rfl ?_
      refine XS.l2i X0.here hx rfl (hb hby at_17) rfl ?_
      exact kt)
  obtain ⟨x1, hx1⟩ : ∃ z : Int32, z = (p1.toInt32) := ⟨_, rfl⟩
  rw [← hx1] at go311
  have go312 : own_S p e below ST s₁ (mkF m 25 #[iv ln, .val (.long p0), .second, .val (.long p1), .second, .val (.long p2), .second, iv (2 : Int32), iv x0, iv y0, iv x1, .unset, .unset, .unset, .unset, .unset, .unset, .unset, .unset] [(.int (((p1.toUInt64 >>> ((32 : Int32) &&& 0x3f).toInt64.toUInt64).toInt64).toInt32))]) := fun tt kt => go311 tt (by
      refine XS.istore X0.here hx rfl (hb hby at_18) rfl (l' := #[iv ln, .val (.long p0), .second, .val (.long p1), .second, .val (.long p2), .second, iv (2 : Int32), iv x0, iv y0, iv x1, .unset, .unset, .unset, .unset, .unset, .unset, .unset, .unset]) rfl ?_
      refine XS.lloadN X0.here hx rfl (hb hby at_20) rfl ?_
      refine XS.bipush X0.here hx rfl (hb hby at_21) ?_
      refine XS.lushr X0.here hx rfl (hb hby at_23) rfl ?_
      refine XS.l2i X0.here hx rfl (hb hby at_24) rfl ?_
      exact kt)
  obtain ⟨y1, hy1⟩ : ∃ z : Int32, z = (((p1.toUInt64 >>> ((32 : Int32) &&& 0x3f).toInt64.toUInt64).toInt64).toInt32) := ⟨_, rfl⟩
  rw [← hy1] at go312
  have go313 : own_S p e below ST s₁ (mkF m 30 #[iv ln, .val (.long p0), .second, .val (.long p1), .second, .val (.long p2), .second, iv (2 : Int32), iv x0, iv y0, iv x1, iv y1, .unset, .unset, .unset, .unset, .unset, .unset, .unset] [(.int (p2.toInt32))]) := fun tt kt => go312 tt (by
      refine XS.istore X0.here hx rfl (hb hby at_25) rfl (l' := #[iv ln, .val (.long p0), .second, .val (.long p1), .second, .val (.long p2), .second, iv (2 : Int32), iv x0, iv y0, iv x1, iv y1, .unset, .unset, .unset, .unset, .unset, .unset, .unset]) rfl ?_
      refine XS.lload X0.here hx rfl (hb hby at_27) rfl ?_
      refine XS.l2i X0.here hx rfl (hb hby at_29) rfl ?_
      exact kt)
  obtain ⟨x2, hx2⟩ : ∃ z : Int32, z = (p2.toInt32) := ⟨_, rfl⟩
  rw [← hx2] at go313
  have go314 : own_S p e below ST s₁ (mkF m 38 #[iv ln, .val (.long p0), .second, .val (.long p1), .second, .val (.long p2), .second, iv (2 : Int32), iv x0, iv y0, iv x1, iv y1, iv x2, .unset, .unset, .unset, .unset, .unset, .unset] [(.int (((p2.toUInt64 >>> ((32 : Int32) &&& 0x3f).toInt64.toUInt64).toInt64).toInt32))]) := fun tt kt => go313 tt (by
      refine XS.istore X0.here hx rfl (hb hby at_30) rfl (l' := #[iv ln, .val (.long p0), .second, .val (.long p1), .second, .val (.long p2), .second, iv (2 : Int32), iv x0, iv y0, iv x1, iv y1, iv x2, .unset, .unset, .unset, .unset, .unset, .unset]) rfl ?_
      refine XS.lload X0.here hx rfl (hb hby at_32) rfl ?_
      refine XS.bipush X0.here hx rfl (hb hby at_34) ?_
      refine XS.lushr X0.here hx rfl (hb hby at_36) rfl ?_
      refine XS.l2i X0.here hx rfl (hb hby at_37) rfl ?_
      exact kt)
  obtain ⟨y2, hy2⟩ : ∃ z : Int32, z = (((p2.toUInt64 >>> ((32 : Int32) &&& 0x3f).toInt64.toUInt64).toInt64).toInt32) := ⟨_, rfl⟩
  rw [← hy2] at go314
  have go315 : own_S p e below ST s₁ (mkF m 42 #[iv ln, .val (.long p0), .second, .val (.long p1), .second, .val (.long p2), .second, iv (2 : Int32), iv x0, iv y0, iv x1, iv y1, iv x2, iv y2, .unset, .unset, .unset, .unset, .unset] [(.int (2 : Int32))]) := fun tt kt => go314 tt (by
      refine XS.istore X0.here hx rfl (hb hby at_38) rfl (l' := #[iv ln, .val (.long p0), .second, .val (.long p1), .second, .val (.long p2), .second, iv (2 : Int32), iv x0, iv y0, iv x1, iv y1, iv x2, iv y2, .unset, .unset, .unset, .unset, .unset]) rfl ?_
      refine XS.iload X0.here hx rfl (hb hby at_40) rfl ?_
      exact kt)
  obtain ⟨b316, g316⟩ : ∃ z, z = h0.size := ⟨_, rfl⟩
  obtain ⟨T316, h316, k316, X316, e316, E316, A316, st316⟩ := newP X0 hx hZ (W 0 rfl) e0 (g := (mkF m 42 #[iv ln, .val (.long p0), .second, .val (.long p1), .second, .val (.long p2), .second, iv (2 : Int32), iv x0, iv y0, iv x1, iv y1, iv x2, iv y2, .unset, .unset, .unset, .unset, .unset] [(.int (2 : Int32))])) rfl (hb hby at_42) rfl (by decide) (cap := 2) (by decide) (by decide) (by decide) (by decide)
  rw [← g316] at A316 st316
  have ge_b316 : n0 ≤ b316 := Nat.le_trans Z0 (Nat.le_of_eq g316.symm)
  have V316 : Arv Z h316 b316 k316 .double (2 : Int32) [(.double 0), (.double 0)] (.double 0) := (Arv.new A316 (by decide)).pad (pad_rep [] (.double 0) 2)
  have go317 : own_S p e below ST T316 (mkF m 44 #[iv ln, .val (.long p0), .second, .val (.long p1), .second, .val (.long p2), .second, iv (2 : Int32), iv x0, iv y0, iv x1, iv y1, iv x2, iv y2, .unset, .unset, .unset, .unset, .unset] [(.ref b316)]) := fun tt kt => go315 tt (st316 _ kt)
  have go318 : own_S p e below ST T316 (mkF m 48 #[iv ln, .val (.long p0), .second, .val (.long p1), .second, .val (.long p2), .second, iv (2 : Int32), iv x0, iv y0, iv x1, iv y1, iv x2, iv y2, rv b316, .unset, .unset, .unset, .unset] [(.int (2 : Int32))]) := fun tt kt => go317 tt (by
      refine XS.astore X316.here hx rfl (hb hby at_44) rfl rfl (l' := #[iv ln, .val (.long p0), .second, .val (.long p1), .second, .val (.long p2), .second, iv (2 : Int32), iv x0, iv y0, iv x1, iv y1, iv x2, iv y2, rv b316, .unset, .unset, .unset, .unset]) rfl ?_
      refine XS.iload X316.here hx rfl (hb hby at_46) rfl ?_
      exact kt)
  have zs320 := (Nat.le_trans Z0 E316.1)
  obtain ⟨b319, g319⟩ : ∃ z, z = h316.size := ⟨_, rfl⟩
  obtain ⟨T319, h319, k319, X319, e319, E319, A319, st319⟩ := newP X316 hx hZ (W 0 rfl) e316 (g := (mkF m 48 #[iv ln, .val (.long p0), .second, .val (.long p1), .second, .val (.long p2), .second, iv (2 : Int32), iv x0, iv y0, iv x1, iv y1, iv x2, iv y2, rv b316, .unset, .unset, .unset, .unset] [(.int (2 : Int32))])) rfl (hb hby at_48) rfl (by decide) (cap := 2) (by decide) (by decide) (by decide) (by decide)
  rw [← g319] at A319 st319
  have neb316_b319 : b316 ≠ b319 := Nat.ne_of_lt (Nat.lt_of_lt_of_le V316.lt (Nat.le_of_eq g319.symm))
  have ge_b319 : n0 ≤ b319 := Nat.le_trans zs320 (Nat.le_of_eq g319.symm)
  have V319 : Arv Z h319 b319 k319 .double (2 : Int32) [(.double 0), (.double 0)] (.double 0) := (Arv.new A319 (by decide)).pad (pad_rep [] (.double 0) 2)
  have go321 : own_S p e below ST T319 (mkF m 50 #[iv ln, .val (.long p0), .second, .val (.long p1), .second, .val (.long p2), .second, iv (2 : Int32), iv x0, iv y0, iv x1, iv y1, iv x2, iv y2, rv b316, .unset, .unset, .unset, .unset] [(.ref b319)]) := fun tt kt => go318 tt (st319 _ kt)
  have go322 : own_S p e below ST T319 (mkF m 63 #[iv ln, .val (.long p0), .second, .val (.long p1), .second, .val (.long p2), .second, iv (2 : Int32), iv x0, iv y0, iv x1, iv y1, iv x2, iv y2, rv b316, rv b319, .unset, .unset, .unset] [(.double (FP.i2d x0)), (.int (0 : Int32)), (.ref b316)]) := fun tt kt => go321 tt (by
      refine XS.astore X319.here hx rfl (hb hby at_50) rfl rfl (l' := #[iv ln, .val (.long p0), .second, .val (.long p1), .second, .val (.long p2), .second, iv (2 : Int32), iv x0, iv y0, iv x1, iv y1, iv x2, iv y2, rv b316, rv b319, .unset, .unset, .unset]) rfl ?_
      refine XS.iload X319.here hx rfl (hb hby at_52) rfl ?_
      refine XS.ifNo X319.here hx rfl (hb hby at_54) rfl ((if0 _ _).trans (tlt (by decide : (0 : Int32) < (2 : Int32))).2.2.2) ?_
      refine XS.aload X319.here hx rfl (hb hby at_57) rfl rfl ?_
      refine XS.iconst X319.here hx rfl (hb hby at_59) ?_
      refine XS.iload X319.here hx rfl (hb hby at_60) rfl ?_
      show Steps p.tables e below (T319.setTop (mkF m 62 #[iv ln, .val (.long p0), .second, .val (.long p1), .second, .val (.long p2), .second, iv (2 : Int32), iv x0, iv y0, iv x1, iv y1, iv x2, iv y2, rv b316, rv b319, .unset, .unset, .unset] [(.int x0), (.int (0 : Int32)), (.ref b316)])) _
      refine XS.i2dS X319.here hx rfl (hb hby at_62) rfl rfl ?_
      exact kt)
  have f324 := (V316.ext E319)
  obtain ⟨cl323, Ar323, q323, S323, M323, H323, G323⟩ := id f324
  have hin323 : ¬ ((0 : Int32) < 0 ∨ cl323.slots.size ≤ ((0 : Int32)).toNatClampNeg) := inb_of S323 ⟨by decide, by decide⟩
  obtain ⟨T323, h323, X323, e323, W323, st323⟩ := stD X319 hx hZ e319 Ar323 (j := (0 : Int32)) hin323 (g := (mkF m 63 #[iv ln, .val (.long p0), .second, .val (.long p1), .second, .val (.long p2), .second, iv (2 : Int32), iv x0, iv y0, iv x1, iv y1, iv x2, iv y2, rv b316, rv b319, .unset, .unset, .unset] [(.double (FP.i2d x0)), (.int (0 : Int32)), (.ref b316)])) rfl rfl (hb hby at_63)
  have V323 : Arv Z h323 b316 k316 .double (2 : Int32) [(.double (FP.i2d x0)), (.double 0)] (.double 0) := Arv.set Ar323 q323 S323 M323 H323 G323 rfl W323 0 rfl (Nat.le_of_ble_eq_true rfl)
  have N323 := Fr.snoc X323 N0 ge_b316
  have go325 : own_S p e below ST T323 (mkF m 64 #[iv ln, .val (.long p0), .second, .val (.long p1), .second, .val (.long p2), .second, iv (2 : Int32), iv x0, iv y0, iv x1, iv y1, iv x2, iv y2, rv b316, rv b319, .unset, .unset, .unset] []) := fun tt kt => go322 tt (st323 _ kt)
  have go326 : own_S p e below ST T323 (mkF m 70 #[iv ln, .val (.long p0), .second, .val (.long p1), .second, .val (.long p2), .second, iv (2 : Int32), iv x0, iv y0, iv x1, iv y1, iv x2, iv y2, rv b316, rv b319, .unset, .unset, .unset] [(.double (FP.i2d y0)), (.int (0 : Int32)), (.ref b319)]) := fun tt kt => go325 tt (by
      refine XS.aload X323.here hx rfl (hb hby at_64) rfl rfl ?_
      refine XS.iconst X323.here hx rfl (hb hby at_66) ?_
      refine XS.iload X323.here hx rfl (hb hby at_67) rfl ?_
      refine XS.i2dS X323.here hx rfl (hb hby at_69) rfl rfl ?_
      exact kt)
  have f328 := (V319.other W323 (Ne.symm neb316_b319))
  obtain ⟨cl327, Ar327, q327, S327, M327, H327, G327⟩ := id f328
  have hin327 : ¬ ((0 : Int32) < 0 ∨ cl327.slots.size ≤ ((0 : Int32)).toNatClampNeg) := inb_of S327 ⟨by decide, by decide⟩
  obtain ⟨T327, h327, X327, e327, W327, st327⟩ := stD X323 hx hZ e323 Ar327 (j := (0 : Int32)) hin327 (g := (mkF m 70 #[iv ln, .val (.long p0), .second, .val (.long p1), .second, .val (.long p2), .second, iv (2 : Int32), iv x0, iv y0, iv x1, iv y1, iv x2, iv y2, rv b316, rv b319, .unset, .unset, .unset] [(.double (FP.i2d y0)), (.int (0 : Int32)), (.ref b319)])) rfl rfl (hb hby at_70)
  have V327 : Arv Z h327 b319 k319 .double (2 : Int32) [(.double (FP.i2d y0)), (.double 0)] (.double 0) := Arv.set Ar327 q327 S327 M327 H327 G327 rfl W327 0 rfl (Nat.le_of_ble_eq_true rfl)
  have N327 := Fr.snoc X327 N323 ge_b319
  have go329 : own_S p e below ST T327 (mkF m 71 #[iv ln, .val (.long p0), .second, .val (.long p1), .second, .val (.long p2), .second, iv (2 : Int32), iv x0, iv y0, iv x1, iv y1, iv x2, iv y2, rv b316, rv b319, .unset, .unset, .unset] []) := fun tt kt => go326 tt (st327 _ kt)
  have go330 : own_S p e below ST T327 (mkF m 83 #[iv ln, .val (.long p0), .second, .val (.long p1), .second, .val (.long p2), .second, iv (2 : Int32), iv x0, iv y0, iv x1, iv y1, iv x2, iv y2, rv b316, rv b319, .unset, .unset, .unset] [(.double (FP.i2d x1)), (.int (1 : Int32)), (.ref b316)]) := fun tt kt => go329 tt (by
      refine XS.iload X327.here hx rfl (hb hby at_71) rfl ?_
      refine XS.iconst X327.here hx rfl (hb hby at_73) ?_
      refine XS.icmpNo X327.here hx rfl (hb hby at_74) rfl (tlt (by decide : (1 : Int32) < (2 : Int32))).2.2.2 ?_
      refine XS.aload X327.here hx rfl (hb hby at_77) rfl rfl ?_
      refine XS.iconst X327.here hx rfl (hb hby at_79) ?_
      refine XS.iload X327.here hx rfl (hb hby at_80) rfl ?_
      show Steps p.tables e below (T327.setTop (mkF m 82 #[iv ln, .val (.long p0), .second, .val (.long p1), .second, .val (.long p2), .second, iv (2 : Int32), iv x0, iv y0, iv x1, iv y1, iv x2, iv y2, rv b316, rv b319, .unset, .unset, .unset] [(.int x1), (.int (1 : Int32)), (.ref b316)])) _
      refine XS.i2dS X327.here hx rfl (hb hby at_82) rfl rfl ?_
      exact kt)
  have f332 := (V323.other W327 neb316_b319)
  obtain ⟨cl331, Ar331, q331, S331, M331, H331, G331⟩ := id f332
  have hin331 : ¬ ((1 : Int32) < 0 ∨ cl331.slots.size ≤ ((1 : Int32)).toNatClampNeg) := inb_of S331 ⟨by decide, by decide⟩
  obtain ⟨T331, h331, X331, e331, W331, st331⟩ := stD X327 hx hZ e327 Ar331 (j := (1 : Int32)) hin331 (g := (mkF m 83 #[iv ln, .val (.long p0), .second, .val (.long p1), .second, .val (.long p2), .second, iv (2 : Int32), iv x0, iv y0, iv x1, iv y1, iv x2, iv y2, rv b316, rv b319, .unset, .unset, .unset] [(.double (FP.i2d x1)), (.int (1 : Int32)), (.ref b316)])) rfl rfl (hb hby at_83)
  have V331 : Arv Z h331 b316 k316 .double (2 : Int32) [(.double (FP.i2d x0)), (.double (FP.i2d x1))] (.double 0) := Arv.set Ar331 q331 S331 M331 H331 G331 rfl W331 1 rfl (Nat.le_of_ble_eq_true rfl)
  have N331 := Fr.snoc X331 N327 ge_b316
  have go333 : own_S p e below ST T331 (mkF m 84 #[iv ln, .val (.long p0), .second, .val (.long p1), .second, .val (.long p2), .second, iv (2 : Int32), iv x0, iv y0, iv x1, iv y1, iv x2, iv y2, rv b316, rv b319, .unset, .unset, .unset] []) := fun tt kt => go330 tt (st331 _ kt)
  have go334 : own_S p e below ST T331 (mkF m 90 #[iv ln, .val (.long p0), .second, .val (.long p1), .second, .val (.long p2), .second, iv (2 : Int32), iv x0, iv y0, iv x1, iv y1, iv x2, iv y2, rv b316, rv b319, .unset, .unset, .unset] [(.double (FP.i2d y1)), (.int (1 : Int32)), (.ref b319)]) := fun tt kt => go333 tt (by
      refine XS.aload X331.here hx rfl (hb hby at_84) rfl rfl ?_
      refine XS.iconst X331.here hx rfl (hb hby at_86) ?_
      refine XS.iload X331.here hx rfl (hb hby at_87) rfl ?_
      refine XS.i2dS X331.here hx rfl (hb hby at_89) rfl rfl ?_
      exact kt)
  have f336 := (V327.other W331 (Ne.symm neb316_b319))
  obtain ⟨cl335, Ar335, q335, S335, M335, H335, G335⟩ := id f336
  have hin335 : ¬ ((1 : Int32) < 0 ∨ cl335.slots.size ≤ ((1 : Int32)).toNatClampNeg) := inb_of S335 ⟨by decide, by decide⟩
  obtain ⟨T335, h335, X335, e335, W335, st335⟩ := stD X331 hx hZ e331 Ar335 (j := (1 : Int32)) hin335 (g := (mkF m 90 #[iv ln, .val (.long p0), .second, .val (.long p1), .second, .val (.long p2), .second, iv (2 : Int32), iv x0, iv y0, iv x1, iv y1, iv x2, iv y2, rv b316, rv b319, .unset, .unset, .unset] [(.double (FP.i2d y1)), (.int (1 : Int32)), (.ref b319)])) rfl rfl (hb hby at_90)
  have V335 : Arv Z h335 b319 k319 .double (2 : Int32) [(.double (FP.i2d y0)), (.double (FP.i2d y1))] (.double 0) := Arv.set Ar335 q335 S335 M335 H335 G335 rfl W335 1 rfl (Nat.le_of_ble_eq_true rfl)
  have N335 := Fr.snoc X335 N331 ge_b319
  have go337 : own_S p e below ST T335 (mkF m 91 #[iv ln, .val (.long p0), .second, .val (.long p1), .second, .val (.long p2), .second, iv (2 : Int32), iv x0, iv y0, iv x1, iv y1, iv x2, iv y2, rv b316, rv b319, .unset, .unset, .unset] []) := fun tt kt => go334 tt (st335 _ kt)
  have go338 : own_S p e below ST T335 (mkF m 121 #[iv ln, .val (.long p0), .second, .val (.long p1), .second, .val (.long p2), .second, iv (2 : Int32), iv x0, iv y0, iv x1, iv y1, iv x2, iv y2, rv b316, rv b319, .unset, .unset, .unset] [(.int y0), (.int x0)]) := fun tt kt => go337 tt (by
      refine XS.iload X335.here hx rfl (hb hby at_91) rfl ?_
      refine XS.iconst X335.here hx rfl (hb hby at_93) ?_
      refine XS.icmpYes X335.here hx rfl (pc0 := 94) (pc' := 111) rfl (hb hby at_94) rfl (flt (by decide : ¬ ((2 : Int32) < (2 : Int32)))).2.2.2 (by decide) (by decide) ?_
      refine XS.iload X335.here hx rfl (hb hby at_111) rfl ?_
      refine XS.iconst X335.here hx rfl (hb hby at_113) ?_
      refine XS.icmpNo X335.here hx rfl (hb hby at_114) rfl (flt (by decide : ¬ ((2 : Int32) < (1 : Int32)))).1 ?_
      show Steps p.tables e below (T335.setTop (mkF m 117 #[iv ln, .val (.long p0), .second, .val (.long p1), .second, .val (.long p2), .second, iv (2 : Int32), iv x0, iv y0, iv x1, iv y1, iv x2, iv y2, rv b316, rv b319, .unset, .unset, .unset] [])) _
      refine XS.iload X335.here hx rfl (hb hby at_117) rfl ?_
      refine XS.iload X335.here hx rfl (hb hby at_119) rfl ?_
      exact kt)
  obtain ⟨al, hal, sg339⟩ : ∃ (al : Int32), al = (if x0 < y0 then (0 : Int32) else (if x1 < y1 then (0 : Int32) else (1 : Int32))) ∧ ∀ tt, Steps p.tables e below (T335.setTop (mkF m 155 #[iv ln, .val (.long p0), .second, .val (.long p1), .second, .val (.long p2), .second, iv (2 : Int32), iv x0, iv y0, iv x1, iv y1, iv x2, iv y2, rv b316, rv b319, .unset, .unset, .unset] [(.int al)])) tt → Steps p.tables e below (T335.setTop (mkF m 121 #[iv ln, .val (.long p0), .second, .val (.long p1), .second, .val (.long p2), .second, iv (2 : Int32), iv x0, iv y0, iv x1, iv y1, iv x2, iv y2, rv b316, rv b319, .unset, .unset, .unset] [(.int y0), (.int x0)])) tt := by
    by_cases hd121_0 : x0 < y0
    · refine ⟨_, (if_pos hd121_0).symm, fun tt kt => ?_⟩
      show Steps p.tables e below (T335.setTop (mkF m 121 #[iv ln, .val (.long p0), .second, .val (.long p1), .second, .val (.long p2), .second, iv (2 : Int32), iv x0, iv y0, iv x1, iv y1, iv x2, iv y2, rv b316, rv b319, .unset, .unset, .unset] [(.int y0), (.int x0)])) _
      refine XS.icmpYes X335.here hx rfl (pc0 := 121) (pc' := 154) rfl (hb hby at_121) rfl (tlt hd121_0).1 (by decide) (by decide) ?_
      refine XS.iconst X335.here hx rfl (hb hby at_154) ?_
      exact kt
    · by_cases hd134_1 : x1 < y1
      · refine ⟨_, ((if_neg hd121_0).trans (if_pos hd134_1)).symm, fun tt kt => ?_⟩
        show Steps p.tables e below (T335.setTop (mkF m 121 #[iv ln, .val (.long p0), .second, .val (.long p1), .second, .val (.long p2), .second, iv (2 : Int32), iv x0, iv y0, iv x1, iv y1, iv x2, iv y2, rv b316, rv b319, .unset, .unset, .unset] [(.int y0), (.int x0)])) _
        refine XS.icmpNo X335.here hx rfl (hb hby at_121) rfl (flt hd121_0).1 ?_
        refine XS.iload X335.here hx rfl (hb hby at_124) rfl ?_
        refine XS.iconst X335.here hx rfl (hb hby at_126) ?_
        refine XS.icmpNo X335.here hx rfl (hb hby at_127) rfl (flt (by decide : ¬ ((2 : Int32) < (2 : Int32)))).1 ?_
        refine XS.iload X335.here hx rfl (hb hby at_130) rfl ?_
        refine XS.iload X335.here hx rfl (hb hby at_132) rfl ?_
        show Steps p.tables e below (T335.setTop (mkF m 134 #[iv ln, .val (.long p0), .second, .val (.long p1), .second, .val (.long p2), .second, iv (2 : Int32), iv x0, iv y0, iv x1, iv y1, iv x2, iv y2, rv b316, rv b319, .unset, .unset, .unset] [(.int y1), (.int x1)])) _
        refine XS.icmpYes X335.here hx rfl (pc0 := 134) (pc' := 154) rfl (hb hby at_134) rfl (tlt hd134_1).1 (by decide) (by decide) ?_
        refine XS.iconst X335.here hx rfl (hb hby at_154) ?_
        exact kt
      · refine ⟨_, ((if_neg hd121_0).trans (if_neg hd134_1)).symm, fun tt kt => ?_⟩
        show Steps p.tables e below (T335.setTop (mkF m 121 #[iv ln, .val (.long p0), .second, .val (.long p1), .second, .val (.long p2), .second, iv (2 : Int32), iv x0, iv y0, iv x1, iv y1, iv x2, iv y2, rv b316, rv b319, .unset, .unset, .unset] [(.int y0), (.int x0)])) _
        refine XS.icmpNo X335.here hx rfl (hb hby at_121) rfl (flt hd121_0).1 ?_
        refine XS.iload X335.here hx rfl (hb hby at_124) rfl ?_
        refine XS.iconst X335.here hx rfl (hb hby at_126) ?_
        refine XS.icmpNo X335.here hx rfl (hb hby at_127) rfl (flt (by decide : ¬ ((2 : Int32) < (2 : Int32)))).1 ?_
        refine XS.iload X335.here hx rfl (hb hby at_130) rfl ?_
        refine XS.iload X335.here hx rfl (hb hby at_132) rfl ?_
        show Steps p.tables e below (T335.setTop (mkF m 134 #[iv ln, .val (.long p0), .second, .val (.long p1), .second, .val (.long p2), .second, iv (2 : Int32), iv x0, iv y0, iv x1, iv y1, iv x2, iv y2, rv b316, rv b319, .unset, .unset, .unset] [(.int y1), (.int x1)])) _
        refine XS.icmpNo X335.here hx rfl (hb hby at_134) rfl (flt hd134_1).1 ?_
        refine XS.iload X335.here hx rfl (hb hby at_137) rfl ?_
        refine XS.iconst X335.here hx rfl (hb hby at_139) ?_
        refine XS.icmpYes X335.here hx rfl (pc0 := 140) (pc' := 150) rfl (hb hby at_140) rfl (tlt (by decide : (2 : Int32) < (3 : Int32))).1 (by decide) (by decide) ?_
        refine XS.iconst X335.here hx rfl (hb hby at_150) ?_
        refine XS.goto X335.here hx rfl (pc0 := 151) (pc' := 155) rfl (hb hby at_151) (by decide) (by decide) ?_
        exact kt
  have go340 : own_S p e below ST T335 (mkF m 155 #[iv ln, .val (.long p0), .second, .val (.long p1), .second, .val (.long p2), .second, iv (2 : Int32), iv x0, iv y0, iv x1, iv y1, iv x2, iv y2, rv b316, rv b319, .unset, .unset, .unset] [(.int al)]) := fun tt kt => go338 tt (sg339 _ kt)
  have go341 : own_S p e below ST T335 (mkF m 167 #[iv ln, .val (.long p0), .second, .val (.long p1), .second, .val (.long p2), .second, iv (2 : Int32), iv x0, iv y0, iv x1, iv y1, iv x2, iv y2, rv b316, rv b319, iv al, .unset, .unset] [(.int y0), (.int x0)]) := fun tt kt => go340 tt (by
      refine XS.istore X335.here hx rfl (hb hby at_155) rfl (l' := #[iv ln, .val (.long p0), .second, .val (.long p1), .second, .val (.long p2), .second, iv (2 : Int32), iv x0, iv y0, iv x1, iv y1, iv x2, iv y2, rv b316, rv b319, iv al, .unset, .unset]) rfl ?_
      refine XS.iload X335.here hx rfl (hb hby at_157) rfl ?_
      refine XS.iconst X335.here hx rfl (hb hby at_159) ?_
      refine XS.icmpNo X335.here hx rfl (hb hby at_160) rfl (flt (by decide : ¬ ((2 : Int32) < (1 : Int32)))).1 ?_
      refine XS.iload X335.here hx rfl (hb hby at_163) rfl ?_
      refine XS.iload X335.here hx rfl (hb hby at_165) rfl ?_
      exact kt)
  obtain ⟨gs, hgs, sg342⟩ : ∃ (gs : Int32), gs = (if y0 < x0 then (1 : Int32) else (if y1 < x1 then (1 : Int32) else (0 : Int32))) ∧ ∀ tt, Steps p.tables e below (T335.setTop (mkF m 201 #[iv ln, .val (.long p0), .second, .val (.long p1), .second, .val (.long p2), .second, iv (2 : Int32), iv x0, iv y0, iv x1, iv y1, iv x2, iv y2, rv b316, rv b319, iv al, .unset, .unset] [(.int gs)])) tt → Steps p.tables e below (T335.setTop (mkF m 167 #[iv ln, .val (.long p0), .second, .val (.long p1), .second, .val (.long p2), .second, iv (2 : Int32), iv x0, iv y0, iv x1, iv y1, iv x2, iv y2, rv b316, rv b319, iv al, .unset, .unset] [(.int y0), (.int x0)])) tt := by
    by_cases hd167_0 : y0 < x0
    · refine ⟨_, (if_pos hd167_0).symm, fun tt kt => ?_⟩
      show Steps p.tables e below (T335.setTop (mkF m 167 #[iv ln, .val (.long p0), .second, .val (.long p1), .second, .val (.long p2), .second, iv (2 : Int32), iv x0, iv y0, iv x1, iv y1, iv x2, iv y2, rv b316, rv b319, iv al, .unset, .unset] [(.int y0), (.int x0)])) _
      refine XS.icmpYes X335.here hx rfl (pc0 := 167) (pc' := 196) rfl (hb hby at_167) rfl (tlt hd167_0).2.2.1 (by decide) (by decide) ?_
      refine XS.iconst X335.here hx rfl (hb hby at_196) ?_
      refine XS.goto X335.here hx rfl (pc0 := 197) (pc' := 201) rfl (hb hby at_197) (by decide) (by decide) ?_
      exact kt
    · by_cases hd180_1 : y1 < x1
      · refine ⟨_, ((if_neg hd167_0).trans (if_pos hd180_1)).symm, fun tt kt => ?_⟩
        show Steps p.tables e below (T335.setTop (mkF m 167 #[iv ln, .val (.long p0), .second, .val (.long p1), .second, .val (.long p2), .second, iv (2 : Int32), iv x0, iv y0, iv x1, iv y1, iv x2, iv y2, rv b316, rv b319, iv al, .unset, .unset] [(.int y0), (.int x0)])) _
        refine XS.icmpNo X335.here hx rfl (hb hby at_167) rfl (flt hd167_0).2.2.1 ?_
        refine XS.iload X335.here hx rfl (hb hby at_170) rfl ?_
        refine XS.iconst X335.here hx rfl (hb hby at_172) ?_
        refine XS.icmpNo X335.here hx rfl (hb hby at_173) rfl (flt (by decide : ¬ ((2 : Int32) < (2 : Int32)))).1 ?_
        refine XS.iload X335.here hx rfl (hb hby at_176) rfl ?_
        refine XS.iload X335.here hx rfl (hb hby at_178) rfl ?_
        show Steps p.tables e below (T335.setTop (mkF m 180 #[iv ln, .val (.long p0), .second, .val (.long p1), .second, .val (.long p2), .second, iv (2 : Int32), iv x0, iv y0, iv x1, iv y1, iv x2, iv y2, rv b316, rv b319, iv al, .unset, .unset] [(.int y1), (.int x1)])) _
        refine XS.icmpYes X335.here hx rfl (pc0 := 180) (pc' := 196) rfl (hb hby at_180) rfl (tlt hd180_1).2.2.1 (by decide) (by decide) ?_
        refine XS.iconst X335.here hx rfl (hb hby at_196) ?_
        refine XS.goto X335.here hx rfl (pc0 := 197) (pc' := 201) rfl (hb hby at_197) (by decide) (by decide) ?_
        exact kt
      · refine ⟨_, ((if_neg hd167_0).trans (if_neg hd180_1)).symm, fun tt kt => ?_⟩
        show Steps p.tables e below (T335.setTop (mkF m 167 #[iv ln, .val (.long p0), .second, .val (.long p1), .second, .val (.long p2), .second, iv (2 : Int32), iv x0, iv y0, iv x1, iv y1, iv x2, iv y2, rv b316, rv b319, iv al, .unset, .unset] [(.int y0), (.int x0)])) _
        refine XS.icmpNo X335.here hx rfl (hb hby at_167) rfl (flt hd167_0).2.2.1 ?_
        refine XS.iload X335.here hx rfl (hb hby at_170) rfl ?_
        refine XS.iconst X335.here hx rfl (hb hby at_172) ?_
        refine XS.icmpNo X335.here hx rfl (hb hby at_173) rfl (flt (by decide : ¬ ((2 : Int32) < (2 : Int32)))).1 ?_
        refine XS.iload X335.here hx rfl (hb hby at_176) rfl ?_
        refine XS.iload X335.here hx rfl (hb hby at_178) rfl ?_
        show Steps p.tables e below (T335.setTop (mkF m 180 #[iv ln, .val (.long p0), .second, .val (.long p1), .second, .val (.long p2), .second, iv (2 : Int32), iv x0, iv y0, iv x1, iv y1, iv x2, iv y2, rv b316, rv b319, iv al, .unset, .unset] [(.int y1), (.int x1)])) _
        refine XS.icmpNo X335.here hx rfl (hb hby at_180) rfl (flt hd180_1).2.2.1 ?_
        refine XS.iload X335.here hx rfl (hb hby at_183) rfl ?_
        refine XS.iconst X335.here hx rfl (hb hby at_185) ?_
        refine XS.icmpYes X335.here hx rfl (pc0 := 186) (pc' := 200) rfl (hb hby at_186) rfl (tlt (by decide : (2 : Int32) < (3 : Int32))).1 (by decide) (by decide) ?_
        refine XS.iconst X335.here hx rfl (hb hby at_200) ?_
        exact kt
  have go343 : own_S p e below ST T335 (mkF m 201 #[iv ln, .val (.long p0), .second, .val (.long p1), .second, .val (.long p2), .second, iv (2 : Int32), iv x0, iv y0, iv x1, iv y1, iv x2, iv y2, rv b316, rv b319, iv al, .unset, .unset] [(.int gs)]) := fun tt kt => go341 tt (sg342 _ kt)
  have go344 : own_S p e below ST T335 (mkF m 205 #[iv ln, .val (.long p0), .second, .val (.long p1), .second, .val (.long p2), .second, iv (2 : Int32), iv x0, iv y0, iv x1, iv y1, iv x2, iv y2, rv b316, rv b319, iv al, iv gs, .unset] [(.int al)]) := fun tt kt => go343 tt (by
      refine XS.istore X335.here hx rfl (hb hby at_201) rfl (l' := #[iv ln, .val (.long p0), .second, .val (.long p1), .second, .val (.long p2), .second, iv (2 : Int32), iv x0, iv y0, iv x1, iv y1, iv x2, iv y2, rv b316, rv b319, iv al, iv gs, .unset]) rfl ?_
      refine XS.iload X335.here hx rfl (hb hby at_203) rfl ?_
      exact kt)
  obtain ⟨ex, hex, sg345⟩ : ∃ (ex : Int32), ex = (if al = (0 : Int32) then (0 : Int32) else (if gs = (0 : Int32) then (0 : Int32) else (1 : Int32))) ∧ ∀ tt, Steps p.tables e below (T335.setTop (mkF m 218 #[iv ln, .val (.long p0), .second, .val (.long p1), .second, .val (.long p2), .second, iv (2 : Int32), iv x0, iv y0, iv x1, iv y1, iv x2, iv y2, rv b316, rv b319, iv al, iv gs, .unset] [(.int ex)])) tt → Steps p.tables e below (T335.setTop (mkF m 205 #[iv ln, .val (.long p0), .second, .val (.long p1), .second, .val (.long p2), .second, iv (2 : Int32), iv x0, iv y0, iv x1, iv y1, iv x2, iv y2, rv b316, rv b319, iv al, iv gs, .unset] [(.int al)])) tt := by
    by_cases hd205_0 : al = (0 : Int32)
    · refine ⟨_, (if_pos hd205_0).symm, fun tt kt => ?_⟩
      show Steps p.tables e below (T335.setTop (mkF m 205 #[iv ln, .val (.long p0), .second, .val (.long p1), .second, .val (.long p2), .second, iv (2 : Int32), iv x0, iv y0, iv x1, iv y1, iv x2, iv y2, rv b316, rv b319, iv al, iv gs, .unset] [(.int al)])) _
      refine XS.ifYes X335.here hx rfl (pc0 := 205) (pc' := 217) rfl (hb hby at_205) rfl ((if0 _ _).trans (teq hd205_0).1) (by decide) (by decide) ?_
      refine XS.iconst X335.here hx rfl (hb hby at_217) ?_
      exact kt
    · by_cases hd210_1 : gs = (0 : Int32)
      · refine ⟨_, ((if_neg hd205_0).trans (if_pos hd210_1)).symm, fun tt kt => ?_⟩
        show Steps p.tables e below (T335.setTop (mkF m 205 #[iv ln, .val (.long p0), .second, .val (.long p1), .second, .val (.long p2), .second, iv (2 : Int32), iv x0, iv y0, iv x1, iv y1, iv x2, iv y2, rv b316, rv b319, iv al, iv gs, .unset] [(.int al)])) _
        refine XS.ifNo X335.here hx rfl (hb hby at_205) rfl ((if0 _ _).trans (feq hd205_0).1) ?_
        refine XS.iload X335.here hx rfl (hb hby at_208) rfl ?_
        refine XS.ifYes X335.here hx rfl (pc0 := 210) (pc' := 217) rfl (hb hby at_210) rfl ((if0 _ _).trans (teq hd210_1).1) (by decide) (by decide) ?_
        refine XS.iconst X335.here hx rfl (hb hby at_217) ?_
        exact kt
      · refine ⟨_, ((if_neg hd205_0).trans (if_neg hd210_1)).symm, fun tt kt => ?_⟩
        show Steps p.tables e below (T335.setTop (mkF m 205 #[iv ln, .val (.long p0), .second, .val (.long p1), .second, .val (.long p2), .second, iv (2 : Int32), iv x0, iv y0, iv x1, iv y1, iv x2, iv y2, rv b316, rv b319, iv al, iv gs, .unset] [(.int al)])) _
        refine XS.ifNo X335.here hx rfl (hb hby at_205) rfl ((if0 _ _).trans (feq hd205_0).1) ?_
        refine XS.iload X335.here hx rfl (hb hby at_208) rfl ?_
        refine XS.ifNo X335.here hx rfl (hb hby at_210) rfl ((if0 _ _).trans (feq hd210_1).1) ?_
        refine XS.iconst X335.here hx rfl (hb hby at_213) ?_
        refine XS.goto X335.here hx rfl (pc0 := 214) (pc' := 218) rfl (hb hby at_214) (by decide) (by decide) ?_
        exact kt
  have go346 : own_S p e below ST T335 (mkF m 218 #[iv ln, .val (.long p0), .second, .val (.long p1), .second, .val (.long p2), .second, iv (2 : Int32), iv x0, iv y0, iv x1, iv y1, iv x2, iv y2, rv b316, rv b319, iv al, iv gs, .unset] [(.int ex)]) := fun tt kt => go344 tt (sg345 _ kt)
  have go347 : own_S p e below ST T335 (mkF m 224 #[iv ln, .val (.long p0), .second, .val (.long p1), .second, .val (.long p2), .second, iv (2 : Int32), iv x0, iv y0, iv x1, iv y1, iv x2, iv y2, rv b316, rv b319, iv al, iv gs, iv ex] [(.ref b319), (.ref b316)]) := fun tt kt => go346 tt (by
      refine XS.istore X335.here hx rfl (hb hby at_218) rfl (l' := #[iv ln, .val (.long p0), .second, .val (.long p1), .second, .val (.long p2), .second, iv (2 : Int32), iv x0, iv y0, iv x1, iv y1, iv x2, iv y2, rv b316, rv b319, iv al, iv gs, iv ex]) rfl ?_
      refine XS.aload X335.here hx rfl (hb hby at_220) rfl rfl ?_
      refine XS.aload X335.here hx rfl (hb hby at_222) rfl rfl ?_
      exact kt)
  have f348 := (V331.other W335 neb316_b319)
  have zs350 := (Nat.le_trans (Nat.le_trans (Nat.le_trans (Nat.le_trans (Nat.le_trans zs320 E319.1) (Keep.of_wr W323).1) (Keep.of_wr W327).1) (Keep.of_wr W331).1) (Keep.of_wr W335).1)
  obtain ⟨_, _, ⟨T349, L349, k349, n349⟩, -, X349, ⟨Lc349, hQ349, l349, y349, z349⟩, st349⟩ := Jvm.LawKit.callS X335 hx (y := (⟨"com/example/declination/declination/ranking/NondominatedSorting", "dominates", "([D[D)Z"⟩ : MethodName)) hown (mvT hZ (W 1 rfl)) (mvT hZ (W 2 rfl)) (mvT hZ (W 3 rfl)) (mvT hZ (W 4 rfl)) (by decide) (backOf (W := 0) (rm1k2 l Z a0 hw [] b316 b319 _ _ x0 x1 y0 y1 h335 n0 zs350 f348 V335) hZ (W 4 rfl) (W 3 rfl) (by decide) (by decide)) (g := (mkF m 224 #[iv ln, .val (.long p0), .second, .val (.long p1), .second, .val (.long p2), .second, iv (2 : Int32), iv x0, iv y0, iv x1, iv y1, iv x2, iv y2, rv b316, rv b319, iv al, iv gs, iv ex] [(.ref b319), (.ref b316)])) rfl (by rw [hml]; rfl) (argsL := [(.ref b316), (.ref b319)]) (rest := []) (lenOf pd38 rfl) rfl (by show 2 * 0 + _ ≤ _; exact Nat.le_of_eq rfl) (hb hby at_224) (fun _ _ => ⟨rfl, e335, (by decide : 2 + 0 ≤ _), (by decide : 4 + 0 ≤ _)⟩)
  dsimp only [Pt.U, Pt.locs, Pt.cells, Pt.slots] at X349 l349 y349 z349 st349 hQ349
  subst l349 y349 z349
  obtain ⟨rfl, Nq349, eh349⟩ := hQ349
  have N349 := Fr.app N335 Nq349
  have go351 : own_S p e below ST T349 (mkF m 227 #[iv ln, .val (.long p0), .second, .val (.long p1), .second, .val (.long p2), .second, iv (2 : Int32), iv x0, iv y0, iv x1, iv y1, iv x2, iv y2, rv b316, rv b319, iv al, iv gs, iv ex] [(.int (if lcmpW (x0.toInt64) (y0.toInt64) < (0 : Int32) then 0 else (if lcmpW (x1.toInt64) (y1.toInt64) < (0 : Int32) then 0 else (nar .boolean (((0 : Int32) ||| own_g x0 y0) ||| own_g x1 y1)))))]) := fun tt kt => go347 tt (st349 _ kt)
  have go352 : own_S p e below ST T349 (mkF m 229 #[iv ln, .val (.long p0), .second, .val (.long p1), .second, .val (.long p2), .second, iv (2 : Int32), iv x0, iv y0, iv x1, iv y1, iv x2, iv y2, rv b316, rv b319, iv al, iv gs, iv ex] [(.int ex), (.int (if lcmpW (x0.toInt64) (y0.toInt64) < (0 : Int32) then 0 else (if lcmpW (x1.toInt64) (y1.toInt64) < (0 : Int32) then 0 else (nar .boolean (((0 : Int32) ||| own_g x0 y0) ||| own_g x1 y1)))))]) := fun tt kt => go351 tt (by
      refine XS.iload X349.here hx rfl (hb hby at_227) rfl ?_
      exact kt)
  have hfin : (if lcmpW (x0.toInt64) (y0.toInt64) < (0 : Int32) then 0 else (if lcmpW (x1.toInt64) (y1.toInt64) < (0 : Int32) then 0 else (nar .boolean (((0 : Int32) ||| own_g x0 y0) ||| own_g x1 y1)))) = ex := by
    simp only [own_lt, own_g, own_gt]
    rw [hex, hgs, hal]
    by_cases u0 : x0 < y0 <;> by_cases t0 : y0 < x0
    all_goals (by_cases u1 : x1 < y1 <;> by_cases t1 : y1 < x1)
    all_goals first | exact (own_tri _ _ u0 t0).elim | exact (own_tri _ _ u1 t1).elim | (simp only [u0, t0, u1, t1, if_true, if_false, ↓reduceIte] <;> decide) | (simp [u0, t0, u1, t1] <;> decide)
  have go353 : own_S p e below ST T349 (mkF m 237 #[iv ln, .val (.long p0), .second, .val (.long p1), .second, .val (.long p2), .second, iv (2 : Int32), iv x0, iv y0, iv x1, iv y1, iv x2, iv y2, rv b316, rv b319, iv al, iv gs, iv ex] [(.int (1 : Int32))]) := fun tt kt => go352 tt (by
      refine XS.icmpNo X349.here hx rfl (hb hby at_229) rfl (teq hfin).2 ?_
      refine XS.iconst X349.here hx rfl (hb hby at_232) ?_
      refine XS.goto X349.here hx rfl (pc0 := 233) (pc' := 237) rfl (hb hby at_233) (by decide) (by decide) ?_
      exact kt)
  obtain ⟨fs, hr, hrun, hended, hW, hsame⟩ := X349.leave (v := some (.int (1 : Int32))) (fun h => by rw [Bd.returns] at h; cases h)
  refine ⟨_, _, pre0 _ (go353 _ ?_), hrun, hended, _, _, rfl, ?_, ⟨_, rfl⟩, hW, hsame.mono (by decide) (by decide)⟩
  · exact retN X349 hx (t := .boolean) Bd.returns (by simp) (hb hby at_237) hr
  · show Q0k2 Z ln p0 p1 p2 h0 n0 _ T349.heap _
    rw [eh349]
    exact ⟨rfl, N349⟩
theorem ef0k3 (m : MethodId) (x0 : Int32) (x1 : Int64) (x2 : Int64) (x3 : Int64) : entryFrame m #[(.int x0), (.long x1), (.long x2), (.long x3)] maxLocals = mkF m 0 #[.val (.int x0), .val (.long x1), .second, .val (.long x2), .second, .val (.long x3), .second, .unset, .unset, .unset, .unset, .unset, .unset, .unset, .unset, .unset, .unset, .unset, .unset] [] := by first | (simp [entryFrame, mkF, argsToLocals, Value.category, maxLocals]; done) | rfl
def Q0k3 (Z : State) (ln : Int32) (p0 : Int64) (p1 : Int64) (p2 : Int64) (h0 : Heap) (n0 : Nat) (v : Option Value) (h : Heap) (L : List Loc) : Prop := v = some (.int 1) ∧ Fr n0 L
set_option maxRecDepth 65536 in
set_option maxHeartbeats 40000000 in
theorem rm0k3 (l : Launch) (Z : State) (a0 : Array Value) (hw : ∀ d ∈ tables_1, d.before a0 Z = true) (ws : List Jvm.Cond) (ln : Int32) (p0 : Int64) (p1 : Int64) (p2 : Int64) (h0 : Heap) (n0 : Nat) (Z0 : n0 ≤ h0.size) (hk : ln &&& 3 = 3) :
    MetFree l x (head1 (Jvm.Cond.code x code maxLocals ret :: ws) room_1) (fun aa UU => aa = #[(.int ln), (.long p0), (.long p1), (.long p2)] ∧ Z.Warmed39 UU.vm ∧ UU.heap = h0) (fun _ _ _ _ _ => True) (fun _ UU oo UU' => ∃ vv LL, oo = .returned vv ∧ Q0k3 Z ln p0 p1 p2 h0 n0 vv UU'.heap LL ∧ FrameEnd UU oo UU' LL room_1.cells room_1.slots) := by
  have W : ∀ {d : Jvm.Cond} (i : Nat), tables_1[i]? = some d → d.before a0 Z = true := fun i h => hw _ (List.mem_of_getElem? h)
  refine MetFree.of_bodySF (plainFor_of_name pn37) hisR ?_
  intro p e s m args below meth c s₁ Bd hml0 hP hK
  obtain ⟨rfl, hZ, hh⟩ := hP
  have hx := Bd.exec
  have hby := Bd.bytes
  have hml : c.maxLocals = 19 := hml0
  have hown : s.vm.findClass "com/example/declination/declination/ranking/NondominatedSortingDominatesPinLaw" = some m.cls := findClass_of_methodNamed Bd.named
  have hnm := (name_of_methodNamed Bd.named Bd.method).1
  have X0 : Stand p l e room_1 s m #[(.int ln), (.long p0), (.long p1), (.long p2)] below meth c s₁ [] 0 0 := Stand.of_body Bd
  have e0 : s₁.heap = h0 := by rw [← hh, Bd.state]; rfl
  have N0 := Fr.nil n0
  have pre0 : ∀ tt, Steps p.tables e below (s₁.setTop (mkF m 0 #[iv ln, .val (.long p0), .second, .val (.long p1), .second, .val (.long p2), .second, .unset, .unset, .unset, .unset, .unset, .unset, .unset, .unset, .unset, .unset, .unset, .unset] [])) tt → Steps p.tables e below (s₁.setTop (entryFrame m #[(.int ln), (.long p0), (.long p1), (.long p2)] maxLocals)) tt := fun tt kt => castTop (ef0k3 m ln p0 p1 p2) kt
  obtain ⟨ST, hST⟩ : ∃ z : State, z = s₁.setTop (mkF m 0 #[iv ln, .val (.long p0), .second, .val (.long p1), .second, .val (.long p2), .second, .unset, .unset, .unset, .unset, .unset, .unset, .unset, .unset, .unset, .unset, .unset, .unset] []) := ⟨_, rfl⟩
  rw [← hST] at pre0
  have go354 : own_S p e below ST s₁ (mkF m 5 #[iv ln, .val (.long p0), .second, .val (.long p1), .second, .val (.long p2), .second, iv (ln &&& (3 : Int32)), .unset, .unset, .unset, .unset, .unset, .unset, .unset, .unset, .unset, .unset, .unset] []) := fun tt kt => (by
      rw [hST]
      show Steps p.tables e below (s₁.setTop (mkF m 0 #[iv ln, .val (.long p0), .second, .val (.long p1), .second, .val (.long p2), .second, .unset, .unset, .unset, .unset, .unset, .unset, .unset, .unset, .unset, .unset, .unset, .unset] [])) _
      refine XS.iloadN X0.here hx rfl (hb hby at_0) rfl ?_
      refine XS.iconst X0.here hx rfl (hb hby at_1) ?_
      refine XS.iand X0.here hx rfl (hb hby at_2) rfl ?_
      refine XS.istore X0.here hx rfl (hb hby at_3) rfl (l' := #[iv ln, .val (.long p0), .second, .val (.long p1), .second, .val (.long p2), .second, iv (ln &&& (3 : Int32)), .unset, .unset, .unset, .unset, .unset, .unset, .unset, .unset, .unset, .unset, .unset]) rfl ?_
      exact kt)
  rw [hk] at go354
  have go355 : own_S p e below ST s₁ (mkF m 7 #[iv ln, .val (.long p0), .second, .val (.long p1), .second, .val (.long p2), .second, iv (3 : Int32), .unset, .unset, .unset, .unset, .unset, .unset, .unset, .unset, .unset, .unset, .unset] [(.int (p0.toInt32))]) := fun tt kt => go354 tt (by
      refine XS.lloadN X0.here hx rfl (hb hby at_5) rfl ?_
      refine XS.l2i X0.here hx rfl (hb hby at_6) rfl ?_
      exact kt)
  obtain ⟨x0, hx0⟩ : ∃ z : Int32, z = (p0.toInt32) := ⟨_, rfl⟩
  rw [← hx0] at go355
  have go356 : own_S p e below ST s₁ (mkF m 14 #[iv ln, .val (.long p0), .second, .val (.long p1), .second, .val (.long p2), .second, iv (3 : Int32), iv x0, .unset, .unset, .unset, .unset, .unset, .unset, .unset, .unset, .unset, .unset] [(.int (((p0.toUInt64 >>> ((32 : Int32) &&& 0x3f).toInt64.toUInt64).toInt64).toInt32))]) := fun tt kt => go355 tt (by
      refine XS.istore X0.here hx rfl (hb hby at_7) rfl (l' := #[iv ln, .val (.long p0), .second, .val (.long p1), .second, .val (.long p2), .second, iv (3 : Int32), iv x0, .unset, .unset, .unset, .unset, .unset, .unset, .unset, .unset, .unset, .unset]) rfl ?_
      refine XS.lloadN X0.here hx rfl (hb hby at_9) rfl ?_
      refine XS.bipush X0.here hx rfl (hb hby at_10) ?_
      refine XS.lushr X0.here hx rfl (hb hby at_12) rfl ?_
      refine XS.l2i X0.here hx rfl (hb hby at_13) rfl ?_
      exact kt)
  obtain ⟨y0, hy0⟩ : ∃ z : Int32, z = (((p0.toUInt64 >>> ((32 : Int32) &&& 0x3f).toInt64.toUInt64).toInt64).toInt32) := ⟨_, rfl⟩
  rw [← hy0] at go356
  have go357 : own_S p e below ST s₁ (mkF m 18 #[iv ln, .val (.long p0), .second, .val (.long p1), .second, .val (.long p2), .second, iv (3 : Int32), iv x0, iv y0, .unset, .unset, .unset, .unset, .unset, .unset, .unset, .unset, .unset] [(.int (p1.toInt32))]) := fun tt kt => go356 tt (by
      refine XS.istore X0.here hx rfl (hb hby at_14) rfl (l' := #[iv ln, .val (.long p0), .second, .val (.long p1), .second, .val (.long p2), .second, iv (3 : Int32), iv x0, iv y0, .unset, .unset, .unset, .unset, .unset, .unset, .unset, .unset, .unset]) rfl ?_
      refine XS.lloadN X0.here hx rfl (hb hby at_16) rfl ?_
      refine XS.l2i X0.here hx rfl (hb hby at_17) rfl ?_
      exact kt)
  obtain ⟨x1, hx1⟩ : ∃ z : Int32, z = (p1.toInt32) := ⟨_, rfl⟩
  rw [← hx1] at go357
  have go358 : own_S p e below ST s₁ (mkF m 25 #[iv ln, .val (.long p0), .second, .val (.long p1), .second, .val (.long p2), .second, iv (3 : Int32), iv x0, iv y0, iv x1, .unset, .unset, .unset, .unset, .unset, .unset, .unset, .unset] [(.int (((p1.toUInt64 >>> ((32 : Int32) &&& 0x3f).toInt64.toUInt64).toInt64).toInt32))]) := fun tt kt => go357 tt (by
      refine XS.istore X0.here hx rfl (hb hby at_18) rfl (l' := #[iv ln, .val (.long p0), .second, .val (.long p1), .second, .val (.long p2), .second, iv (3 : Int32), iv x0, iv y0, iv x1, .unset, .unset, .unset, .unset, .unset, .unset, .unset, .unset]) rfl ?_
      refine XS.lloadN X0.here hx rfl (hb hby at_20) rfl ?_
      refine XS.bipush X0.here hx rfl (hb hby at_21) ?_
      refine XS.lushr X0.here hx rfl (hb hby at_23) rfl ?_
      refine XS.l2i X0.here hx rfl (hb hby at_24) rfl ?_
      exact kt)
  obtain ⟨y1, hy1⟩ : ∃ z : Int32, z = (((p1.toUInt64 >>> ((32 : Int32) &&& 0x3f).toInt64.toUInt64).toInt64).toInt32) := ⟨_, rfl⟩
  rw [← hy1] at go358
  have go359 : own_S p e below ST s₁ (mkF m 30 #[iv ln, .val (.long p0), .second, .val (.long p1), .second, .val (.long p2), .second, iv (3 : Int32), iv x0, iv y0, iv x1, iv y1, .unset, .unset, .unset, .unset, .unset, .unset, .unset] [(.int (p2.toInt32))]) := fun tt kt => go358 tt (by
      refine XS.istore X0.here hx rfl (hb hby at_25) rfl (l' := #[iv ln, .val (.long p0), .second, .val (.long p1), .second, .val (.long p2), .second, iv (3 : Int32), iv x0, iv y0, iv x1, iv y1, .unset, .unset, .unset, .unset, .unset, .unset, .unset]) rfl ?_
      refine XS.lload X0.here hx rfl (hb hby at_27) rfl ?_
      refine XS.l2i X0.here hx rfl (hb hby at_29) rfl ?_
      exact kt)
  obtain ⟨x2, hx2⟩ : ∃ z : Int32, z = (p2.toInt32) := ⟨_, rfl⟩
  rw [← hx2] at go359
  have go360 : own_S p e below ST s₁ (mkF m 38 #[iv ln, .val (.long p0), .second, .val (.long p1), .second, .val (.long p2), .second, iv (3 : Int32), iv x0, iv y0, iv x1, iv y1, iv x2, .unset, .unset, .unset, .unset, .unset, .unset] [(.int (((p2.toUInt64 >>> ((32 : Int32) &&& 0x3f).toInt64.toUInt64).toInt64).toInt32))]) := fun tt kt => go359 tt (by
      refine XS.istore X0.here hx rfl (hb hby at_30) rfl (l' := #[iv ln, .val (.long p0), .second, .val (.long p1), .second, .val (.long p2), .second, iv (3 : Int32), iv x0, iv y0, iv x1, iv y1, iv x2, .unset, .unset, .unset, .unset, .unset, .unset]) rfl ?_
      refine XS.lload X0.here hx rfl (hb hby at_32) rfl ?_
      refine XS.bipush X0.here hx rfl (hb hby at_34) ?_
      refine XS.lushr X0.here hx rfl (hb hby at_36) rfl ?_
      refine XS.l2i X0.here hx rfl (hb hby at_37) rfl ?_
      exact kt)
  obtain ⟨y2, hy2⟩ : ∃ z : Int32, z = (((p2.toUInt64 >>> ((32 : Int32) &&& 0x3f).toInt64.toUInt64).toInt64).toInt32) := ⟨_, rfl⟩
  rw [← hy2] at go360
  have go361 : own_S p e below ST s₁ (mkF m 42 #[iv ln, .val (.long p0), .second, .val (.long p1), .second, .val (.long p2), .second, iv (3 : Int32), iv x0, iv y0, iv x1, iv y1, iv x2, iv y2, .unset, .unset, .unset, .unset, .unset] [(.int (3 : Int32))]) := fun tt kt => go360 tt (by
      refine XS.istore X0.here hx rfl (hb hby at_38) rfl (l' := #[iv ln, .val (.long p0), .second, .val (.long p1), .second, .val (.long p2), .second, iv (3 : Int32), iv x0, iv y0, iv x1, iv y1, iv x2, iv y2, .unset, .unset, .unset, .unset, .unset]) rfl ?_
      refine XS.iload X0.here hx rfl (hb hby at_40) rfl ?_
      exact kt)
  obtain ⟨b362, g362⟩ : ∃ z, z = h0.size := ⟨_, rfl⟩
  obtain ⟨T362, h362, k362, X362, e362, E362, A362, st362⟩ := newP X0 hx hZ (W 0 rfl) e0 (g := (mkF m 42 #[iv ln, .val (.long p0), .second, .val (.long p1), .second, .val (.long p2), .second, iv (3 : Int32), iv x0, iv y0, iv x1, iv y1, iv x2, iv y2, .unset, .unset, .unset, .unset, .unset] [(.int (3 : Int32))])) rfl (hb hby at_42) rfl (by decide) (cap := 3) (by decide) (by decide) (by decide) (by decide)
  rw [← g362] at A362 st362
  have ge_b362 : n0 ≤ b362 := Nat.le_trans Z0 (Nat.le_of_eq g362.symm)
  have V362 : Arv Z h362 b362 k362 .double (3 : Int32) [(.double 0), (.double 0), (.double 0)] (.double 0) := (Arv.new A362 (by decide)).pad (pad_rep [] (.double 0) 3)
  have go363 : own_S p e below ST T362 (mkF m 44 #[iv ln, .val (.long p0), .second, .val (.long p1), .second, .val (.long p2), .second, iv (3 : Int32), iv x0, iv y0, iv x1, iv y1, iv x2, iv y2, .unset, .unset, .unset, .unset, .unset] [(.ref b362)]) := fun tt kt => go361 tt (st362 _ kt)
  have go364 : own_S p e below ST T362 (mkF m 48 #[iv ln, .val (.long p0), .second, .val (.long p1), .second, .val (.long p2), .second, iv (3 : Int32), iv x0, iv y0, iv x1, iv y1, iv x2, iv y2, rv b362, .unset, .unset, .unset, .unset] [(.int (3 : Int32))]) := fun tt kt => go363 tt (by
      refine XS.astore X362.here hx rfl (hb hby at_44) rfl rfl (l' := #[iv ln, .val (.long p0), .second, .val (.long p1), .second, .val (.long p2), .second, iv (3 : Int32), iv x0, iv y0, iv x1, iv y1, iv x2, iv y2, rv b362, .unset, .unset, .unset, .unset]) rfl ?_
      refine XS.iload X362.here hx rfl (hb hby at_46) rfl ?_
      exact kt)
  have zs366 := (Nat.le_trans Z0 E362.1)
  obtain ⟨b365, g365⟩ : ∃ z, z = h362.size := ⟨_, rfl⟩
  obtain ⟨T365, h365, k365, X365, e365, E365, A365, st365⟩ := newP X362 hx hZ (W 0 rfl) e362 (g := (mkF m 48 #[iv ln, .val (.long p0), .second, .val (.long p1), .second, .val (.long p2), .second, iv (3 : Int32), iv x0, iv y0, iv x1, iv y1, iv x2, iv y2, rv b362, .unset, .unset, .unset, .unset] [(.int (3 : Int32))])) rfl (hb hby at_48) rfl (by decide) (cap := 3) (by decide) (by decide) (by decide) (by decide)
  rw [← g365] at A365 st365
  have neb362_b365 : b362 ≠ b365 := Nat.ne_of_lt (Nat.lt_of_lt_of_le V362.lt (Nat.le_of_eq g365.symm))
  have ge_b365 : n0 ≤ b365 := Nat.le_trans zs366 (Nat.le_of_eq g365.symm)
  have V365 : Arv Z h365 b365 k365 .double (3 : Int32) [(.double 0), (.double 0), (.double 0)] (.double 0) := (Arv.new A365 (by decide)).pad (pad_rep [] (.double 0) 3)
  have go367 : own_S p e below ST T365 (mkF m 50 #[iv ln, .val (.long p0), .second, .val (.long p1), .second, .val (.long p2), .second, iv (3 : Int32), iv x0, iv y0, iv x1, iv y1, iv x2, iv y2, rv b362, .unset, .unset, .unset, .unset] [(.ref b365)]) := fun tt kt => go364 tt (st365 _ kt)
  have go368 : own_S p e below ST T365 (mkF m 63 #[iv ln, .val (.long p0), .second, .val (.long p1), .second, .val (.long p2), .second, iv (3 : Int32), iv x0, iv y0, iv x1, iv y1, iv x2, iv y2, rv b362, rv b365, .unset, .unset, .unset] [(.double (FP.i2d x0)), (.int (0 : Int32)), (.ref b362)]) := fun tt kt => go367 tt (by
      refine XS.astore X365.here hx rfl (hb hby at_50) rfl rfl (l' := #[iv ln, .val (.long p0), .second, .val (.long p1), .second, .val (.long p2), .second, iv (3 : Int32), iv x0, iv y0, iv x1, iv y1, iv x2, iv y2, rv b362, rv b365, .unset, .unset, .unset]) rfl ?_
      refine XS.iload X365.here hx rfl (hb hby at_52) rfl ?_
      refine XS.ifNo X365.here hx rfl (hb hby at_54) rfl ((if0 _ _).trans (tlt (by decide : (0 : Int32) < (3 : Int32))).2.2.2) ?_
      refine XS.aload X365.here hx rfl (hb hby at_57) rfl rfl ?_
      refine XS.iconst X365.here hx rfl (hb hby at_59) ?_
      refine XS.iload X365.here hx rfl (hb hby at_60) rfl ?_
      show Steps p.tables e below (T365.setTop (mkF m 62 #[iv ln, .val (.long p0), .second, .val (.long p1), .second, .val (.long p2), .second, iv (3 : Int32), iv x0, iv y0, iv x1, iv y1, iv x2, iv y2, rv b362, rv b365, .unset, .unset, .unset] [(.int x0), (.int (0 : Int32)), (.ref b362)])) _
      refine XS.i2dS X365.here hx rfl (hb hby at_62) rfl rfl ?_
      exact kt)
  have f370 := (V362.ext E365)
  obtain ⟨cl369, Ar369, q369, S369, M369, H369, G369⟩ := id f370
  have hin369 : ¬ ((0 : Int32) < 0 ∨ cl369.slots.size ≤ ((0 : Int32)).toNatClampNeg) := inb_of S369 ⟨by decide, by decide⟩
  obtain ⟨T369, h369, X369, e369, W369, st369⟩ := stD X365 hx hZ e365 Ar369 (j := (0 : Int32)) hin369 (g := (mkF m 63 #[iv ln, .val (.long p0), .second, .val (.long p1), .second, .val (.long p2), .second, iv (3 : Int32), iv x0, iv y0, iv x1, iv y1, iv x2, iv y2, rv b362, rv b365, .unset, .unset, .unset] [(.double (FP.i2d x0)), (.int (0 : Int32)), (.ref b362)])) rfl rfl (hb hby at_63)
  have V369 : Arv Z h369 b362 k362 .double (3 : Int32) [(.double (FP.i2d x0)), (.double 0), (.double 0)] (.double 0) := Arv.set Ar369 q369 S369 M369 H369 G369 rfl W369 0 rfl (Nat.le_of_ble_eq_true rfl)
  have N369 := Fr.snoc X369 N0 ge_b362
  have go371 : own_S p e below ST T369 (mkF m 64 #[iv ln, .val (.long p0), .second, .val (.long p1), .second, .val (.long p2), .second, iv (3 : Int32), iv x0, iv y0, iv x1, iv y1, iv x2, iv y2, rv b362, rv b365, .unset, .unset, .unset] []) := fun tt kt => go368 tt (st369 _ kt)
  have go372 : own_S p e below ST T369 (mkF m 70 #[iv ln, .val (.long p0), .second, .val (.long p1), .second, .val (.long p2), .second, iv (3 : Int32), iv x0, iv y0, iv x1, iv y1, iv x2, iv y2, rv b362, rv b365, .unset, .unset, .unset] [(.double (FP.i2d y0)), (.int (0 : Int32)), (.ref b365)]) := fun tt kt => go371 tt (by
      refine XS.aload X369.here hx rfl (hb hby at_64) rfl rfl ?_
      refine XS.iconst X369.here hx rfl (hb hby at_66) ?_
      refine XS.iload X369.here hx rfl (hb hby at_67) rfl ?_
      refine XS.i2dS X369.here hx rfl (hb hby at_69) rfl rfl ?_
      exact kt)
  have f374 := (V365.other W369 (Ne.symm neb362_b365))
  obtain ⟨cl373, Ar373, q373, S373, M373, H373, G373⟩ := id f374
  have hin373 : ¬ ((0 : Int32) < 0 ∨ cl373.slots.size ≤ ((0 : Int32)).toNatClampNeg) := inb_of S373 ⟨by decide, by decide⟩
  obtain ⟨T373, h373, X373, e373, W373, st373⟩ := stD X369 hx hZ e369 Ar373 (j := (0 : Int32)) hin373 (g := (mkF m 70 #[iv ln, .val (.long p0), .second, .val (.long p1), .second, .val (.long p2), .second, iv (3 : Int32), iv x0, iv y0, iv x1, iv y1, iv x2, iv y2, rv b362, rv b365, .unset, .unset, .unset] [(.double (FP.i2d y0)), (.int (0 : Int32)), (.ref b365)])) rfl rfl (hb hby at_70)
  have V373 : Arv Z h373 b365 k365 .double (3 : Int32) [(.double (FP.i2d y0)), (.double 0), (.double 0)] (.double 0) := Arv.set Ar373 q373 S373 M373 H373 G373 rfl W373 0 rfl (Nat.le_of_ble_eq_true rfl)
  have N373 := Fr.snoc X373 N369 ge_b365
  have go375 : own_S p e below ST T373 (mkF m 71 #[iv ln, .val (.long p0), .second, .val (.long p1), .second, .val (.long p2), .second, iv (3 : Int32), iv x0, iv y0, iv x1, iv y1, iv x2, iv y2, rv b362, rv b365, .unset, .unset, .unset] []) := fun tt kt => go372 tt (st373 _ kt)
  have go376 : own_S p e below ST T373 (mkF m 83 #[iv ln, .val (.long p0), .second, .val (.long p1), .second, .val (.long p2), .second, iv (3 : Int32), iv x0, iv y0, iv x1, iv y1, iv x2, iv y2, rv b362, rv b365, .unset, .unset, .unset] [(.double (FP.i2d x1)), (.int (1 : Int32)), (.ref b362)]) := fun tt kt => go375 tt (by
      refine XS.iload X373.here hx rfl (hb hby at_71) rfl ?_
      refine XS.iconst X373.here hx rfl (hb hby at_73) ?_
      refine XS.icmpNo X373.here hx rfl (hb hby at_74) rfl (tlt (by decide : (1 : Int32) < (3 : Int32))).2.2.2 ?_
      refine XS.aload X373.here hx rfl (hb hby at_77) rfl rfl ?_
      refine XS.iconst X373.here hx rfl (hb hby at_79) ?_
      refine XS.iload X373.here hx rfl (hb hby at_80) rfl ?_
      show Steps p.tables e below (T373.setTop (mkF m 82 #[iv ln, .val (.long p0), .second, .val (.long p1), .second, .val (.long p2), .second, iv (3 : Int32), iv x0, iv y0, iv x1, iv y1, iv x2, iv y2, rv b362, rv b365, .unset, .unset, .unset] [(.int x1), (.int (1 : Int32)), (.ref b362)])) _
      refine XS.i2dS X373.here hx rfl (hb hby at_82) rfl rfl ?_
      exact kt)
  have f378 := (V369.other W373 neb362_b365)
  obtain ⟨cl377, Ar377, q377, S377, M377, H377, G377⟩ := id f378
  have hin377 : ¬ ((1 : Int32) < 0 ∨ cl377.slots.size ≤ ((1 : Int32)).toNatClampNeg) := inb_of S377 ⟨by decide, by decide⟩
  obtain ⟨T377, h377, X377, e377, W377, st377⟩ := stD X373 hx hZ e373 Ar377 (j := (1 : Int32)) hin377 (g := (mkF m 83 #[iv ln, .val (.long p0), .second, .val (.long p1), .second, .val (.long p2), .second, iv (3 : Int32), iv x0, iv y0, iv x1, iv y1, iv x2, iv y2, rv b362, rv b365, .unset, .unset, .unset] [(.double (FP.i2d x1)), (.int (1 : Int32)), (.ref b362)])) rfl rfl (hb hby at_83)
  have V377 : Arv Z h377 b362 k362 .double (3 : Int32) [(.double (FP.i2d x0)), (.double (FP.i2d x1)), (.double 0)] (.double 0) := Arv.set Ar377 q377 S377 M377 H377 G377 rfl W377 1 rfl (Nat.le_of_ble_eq_true rfl)
  have N377 := Fr.snoc X377 N373 ge_b362
  have go379 : own_S p e below ST T377 (mkF m 84 #[iv ln, .val (.long p0), .second, .val (.long p1), .second, .val (.long p2), .second, iv (3 : Int32), iv x0, iv y0, iv x1, iv y1, iv x2, iv y2, rv b362, rv b365, .unset, .unset, .unset] []) := fun tt kt => go376 tt (st377 _ kt)
  have go380 : own_S p e below ST T377 (mkF m 90 #[iv ln, .val (.long p0), .second, .val (.long p1), .second, .val (.long p2), .second, iv (3 : Int32), iv x0, iv y0, iv x1, iv y1, iv x2, iv y2, rv b362, rv b365, .unset, .unset, .unset] [(.double (FP.i2d y1)), (.int (1 : Int32)), (.ref b365)]) := fun tt kt => go379 tt (by
      refine XS.aload X377.here hx rfl (hb hby at_84) rfl rfl ?_
      refine XS.iconst X377.here hx rfl (hb hby at_86) ?_
      refine XS.iload X377.here hx rfl (hb hby at_87) rfl ?_
      refine XS.i2dS X377.here hx rfl (hb hby at_89) rfl rfl ?_
      exact kt)
  have f382 := (V373.other W377 (Ne.symm neb362_b365))
  obtain ⟨cl381, Ar381, q381, S381, M381, H381, G381⟩ := id f382
  have hin381 : ¬ ((1 : Int32) < 0 ∨ cl381.slots.size ≤ ((1 : Int32)).toNatClampNeg) := inb_of S381 ⟨by decide, by decide⟩
  obtain ⟨T381, h381, X381, e381, W381, st381⟩ := stD X377 hx hZ e377 Ar381 (j := (1 : Int32)) hin381 (g := (mkF m 90 #[iv ln, .val (.long p0), .second, .val (.long p1), .second, .val (.long p2), .second, iv (3 : Int32), iv x0, iv y0, iv x1, iv y1, iv x2, iv y2, rv b362, rv b365, .unset, .unset, .unset] [(.double (FP.i2d y1)), (.int (1 : Int32)), (.ref b365)])) rfl rfl (hb hby at_90)
  have V381 : Arv Z h381 b365 k365 .double (3 : Int32) [(.double (FP.i2d y0)), (.double (FP.i2d y1)), (.double 0)] (.double 0) := Arv.set Ar381 q381 S381 M381 H381 G381 rfl W381 1 rfl (Nat.le_of_ble_eq_true rfl)
  have N381 := Fr.snoc X381 N377 ge_b365
  have go383 : own_S p e below ST T381 (mkF m 91 #[iv ln, .val (.long p0), .second, .val (.long p1), .second, .val (.long p2), .second, iv (3 : Int32), iv x0, iv y0, iv x1, iv y1, iv x2, iv y2, rv b362, rv b365, .unset, .unset, .unset] []) := fun tt kt => go380 tt (st381 _ kt)
  have go384 : own_S p e below ST T381 (mkF m 103 #[iv ln, .val (.long p0), .second, .val (.long p1), .second, .val (.long p2), .second, iv (3 : Int32), iv x0, iv y0, iv x1, iv y1, iv x2, iv y2, rv b362, rv b365, .unset, .unset, .unset] [(.double (FP.i2d x2)), (.int (2 : Int32)), (.ref b362)]) := fun tt kt => go383 tt (by
      refine XS.iload X381.here hx rfl (hb hby at_91) rfl ?_
      refine XS.iconst X381.here hx rfl (hb hby at_93) ?_
      refine XS.icmpNo X381.here hx rfl (hb hby at_94) rfl (tlt (by decide : (2 : Int32) < (3 : Int32))).2.2.2 ?_
      refine XS.aload X381.here hx rfl (hb hby at_97) rfl rfl ?_
      refine XS.iconst X381.here hx rfl (hb hby at_99) ?_
      refine XS.iload X381.here hx rfl (hb hby at_100) rfl ?_
      show Steps p.tables e below (T381.setTop (mkF m 102 #[iv ln, .val (.long p0), .second, .val (.long p1), .second, .val (.long p2), .second, iv (3 : Int32), iv x0, iv y0, iv x1, iv y1, iv x2, iv y2, rv b362, rv b365, .unset, .unset, .unset] [(.int x2), (.int (2 : Int32)), (.ref b362)])) _
      refine XS.i2dS X381.here hx rfl (hb hby at_102) rfl rfl ?_
      exact kt)
  have f386 := (V377.other W381 neb362_b365)
  obtain ⟨cl385, Ar385, q385, S385, M385, H385, G385⟩ := id f386
  have hin385 : ¬ ((2 : Int32) < 0 ∨ cl385.slots.size ≤ ((2 : Int32)).toNatClampNeg) := inb_of S385 ⟨by decide, by decide⟩
  obtain ⟨T385, h385, X385, e385, W385, st385⟩ := stD X381 hx hZ e381 Ar385 (j := (2 : Int32)) hin385 (g := (mkF m 103 #[iv ln, .val (.long p0), .second, .val (.long p1), .second, .val (.long p2), .second, iv (3 : Int32), iv x0, iv y0, iv x1, iv y1, iv x2, iv y2, rv b362, rv b365, .unset, .unset, .unset] [(.double (FP.i2d x2)), (.int (2 : Int32)), (.ref b362)])) rfl rfl (hb hby at_103)
  have V385 : Arv Z h385 b362 k362 .double (3 : Int32) [(.double (FP.i2d x0)), (.double (FP.i2d x1)), (.double (FP.i2d x2))] (.double 0) := Arv.set Ar385 q385 S385 M385 H385 G385 rfl W385 2 rfl (Nat.le_of_ble_eq_true rfl)
  have N385 := Fr.snoc X385 N381 ge_b362
  have go387 : own_S p e below ST T385 (mkF m 104 #[iv ln, .val (.long p0), .second, .val (.long p1), .second, .val (.long p2), .second, iv (3 : Int32), iv x0, iv y0, iv x1, iv y1, iv x2, iv y2, rv b362, rv b365, .unset, .unset, .unset] []) := fun tt kt => go384 tt (st385 _ kt)
  have go388 : own_S p e below ST T385 (mkF m 110 #[iv ln, .val (.long p0), .second, .val (.long p1), .second, .val (.long p2), .second, iv (3 : Int32), iv x0, iv y0, iv x1, iv y1, iv x2, iv y2, rv b362, rv b365, .unset, .unset, .unset] [(.double (FP.i2d y2)), (.int (2 : Int32)), (.ref b365)]) := fun tt kt => go387 tt (by
      refine XS.aload X385.here hx rfl (hb hby at_104) rfl rfl ?_
      refine XS.iconst X385.here hx rfl (hb hby at_106) ?_
      refine XS.iload X385.here hx rfl (hb hby at_107) rfl ?_
      refine XS.i2dS X385.here hx rfl (hb hby at_109) rfl rfl ?_
      exact kt)
  have f390 := (V381.other W385 (Ne.symm neb362_b365))
  obtain ⟨cl389, Ar389, q389, S389, M389, H389, G389⟩ := id f390
  have hin389 : ¬ ((2 : Int32) < 0 ∨ cl389.slots.size ≤ ((2 : Int32)).toNatClampNeg) := inb_of S389 ⟨by decide, by decide⟩
  obtain ⟨T389, h389, X389, e389, W389, st389⟩ := stD X385 hx hZ e385 Ar389 (j := (2 : Int32)) hin389 (g := (mkF m 110 #[iv ln, .val (.long p0), .second, .val (.long p1), .second, .val (.long p2), .second, iv (3 : Int32), iv x0, iv y0, iv x1, iv y1, iv x2, iv y2, rv b362, rv b365, .unset, .unset, .unset] [(.double (FP.i2d y2)), (.int (2 : Int32)), (.ref b365)])) rfl rfl (hb hby at_110)
  have V389 : Arv Z h389 b365 k365 .double (3 : Int32) [(.double (FP.i2d y0)), (.double (FP.i2d y1)), (.double (FP.i2d y2))] (.double 0) := Arv.set Ar389 q389 S389 M389 H389 G389 rfl W389 2 rfl (Nat.le_of_ble_eq_true rfl)
  have N389 := Fr.snoc X389 N385 ge_b365
  have go391 : own_S p e below ST T389 (mkF m 111 #[iv ln, .val (.long p0), .second, .val (.long p1), .second, .val (.long p2), .second, iv (3 : Int32), iv x0, iv y0, iv x1, iv y1, iv x2, iv y2, rv b362, rv b365, .unset, .unset, .unset] []) := fun tt kt => go388 tt (st389 _ kt)
  have go392 : own_S p e below ST T389 (mkF m 121 #[iv ln, .val (.long p0), .second, .val (.long p1), .second, .val (.long p2), .second, iv (3 : Int32), iv x0, iv y0, iv x1, iv y1, iv x2, iv y2, rv b362, rv b365, .unset, .unset, .unset] [(.int y0), (.int x0)]) := fun tt kt => go391 tt (by
      refine XS.iload X389.here hx rfl (hb hby at_111) rfl ?_
      refine XS.iconst X389.here hx rfl (hb hby at_113) ?_
      refine XS.icmpNo X389.here hx rfl (hb hby at_114) rfl (flt (by decide : ¬ ((3 : Int32) < (1 : Int32)))).1 ?_
      refine XS.iload X389.here hx rfl (hb hby at_117) rfl ?_
      refine XS.iload X389.here hx rfl (hb hby at_119) rfl ?_
      exact kt)
  obtain ⟨al, hal, sg393⟩ : ∃ (al : Int32), al = (if x0 < y0 then (0 : Int32) else (if x1 < y1 then (0 : Int32) else (if x2 < y2 then (0 : Int32) else (1 : Int32)))) ∧ ∀ tt, Steps p.tables e below (T389.setTop (mkF m 155 #[iv ln, .val (.long p0), .second, .val (.long p1), .second, .val (.long p2), .second, iv (3 : Int32), iv x0, iv y0, iv x1, iv y1, iv x2, iv y2, rv b362, rv b365, .unset, .unset, .unset] [(.int al)])) tt → Steps p.tables e below (T389.setTop (mkF m 121 #[iv ln, .val (.long p0), .second, .val (.long p1), .second, .val (.long p2), .second, iv (3 : Int32), iv x0, iv y0, iv x1, iv y1, iv x2, iv y2, rv b362, rv b365, .unset, .unset, .unset] [(.int y0), (.int x0)])) tt := by
    by_cases hd121_0 : x0 < y0
    · refine ⟨_, (if_pos hd121_0).symm, fun tt kt => ?_⟩
      show Steps p.tables e below (T389.setTop (mkF m 121 #[iv ln, .val (.long p0), .second, .val (.long p1), .second, .val (.long p2), .second, iv (3 : Int32), iv x0, iv y0, iv x1, iv y1, iv x2, iv y2, rv b362, rv b365, .unset, .unset, .unset] [(.int y0), (.int x0)])) _
      refine XS.icmpYes X389.here hx rfl (pc0 := 121) (pc' := 154) rfl (hb hby at_121) rfl (tlt hd121_0).1 (by decide) (by decide) ?_
      refine XS.iconst X389.here hx rfl (hb hby at_154) ?_
      exact kt
    · by_cases hd134_1 : x1 < y1
      · refine ⟨_, ((if_neg hd121_0).trans (if_pos hd134_1)).symm, fun tt kt => ?_⟩
        show Steps p.tables e below (T389.setTop (mkF m 121 #[iv ln, .val (.long p0), .second, .val (.long p1), .second, .val (.long p2), .second, iv (3 : Int32), iv x0, iv y0, iv x1, iv y1, iv x2, iv y2, rv b362, rv b365, .unset, .unset, .unset] [(.int y0), (.int x0)])) _
        refine XS.icmpNo X389.here hx rfl (hb hby at_121) rfl (flt hd121_0).1 ?_
        refine XS.iload X389.here hx rfl (hb hby at_124) rfl ?_
        refine XS.iconst X389.here hx rfl (hb hby at_126) ?_
        refine XS.icmpNo X389.here hx rfl (hb hby at_127) rfl (flt (by decide : ¬ ((3 : Int32) < (2 : Int32)))).1 ?_
        refine XS.iload X389.here hx rfl (hb hby at_130) rfl ?_
        refine XS.iload X389.here hx rfl (hb hby at_132) rfl ?_
        show Steps p.tables e below (T389.setTop (mkF m 134 #[iv ln, .val (.long p0), .second, .val (.long p1), .second, .val (.long p2), .second, iv (3 : Int32), iv x0, iv y0, iv x1, iv y1, iv x2, iv y2, rv b362, rv b365, .unset, .unset, .unset] [(.int y1), (.int x1)])) _
        refine XS.icmpYes X389.here hx rfl (pc0 := 134) (pc' := 154) rfl (hb hby at_134) rfl (tlt hd134_1).1 (by decide) (by decide) ?_
        refine XS.iconst X389.here hx rfl (hb hby at_154) ?_
        exact kt
      · by_cases hd147_2 : x2 < y2
        · refine ⟨_, (((if_neg hd121_0).trans (if_neg hd134_1)).trans (if_pos hd147_2)).symm, fun tt kt => ?_⟩
          show Steps p.tables e below (T389.setTop (mkF m 121 #[iv ln, .val (.long p0), .second, .val (.long p1), .second, .val (.long p2), .second, iv (3 : Int32), iv x0, iv y0, iv x1, iv y1, iv x2, iv y2, rv b362, rv b365, .unset, .unset, .unset] [(.int y0), (.int x0)])) _
          refine XS.icmpNo X389.here hx rfl (hb hby at_121) rfl (flt hd121_0).1 ?_
          refine XS.iload X389.here hx rfl (hb hby at_124) rfl ?_
          refine XS.iconst X389.here hx rfl (hb hby at_126) ?_
          refine XS.icmpNo X389.here hx rfl (hb hby at_127) rfl (flt (by decide : ¬ ((3 : Int32) < (2 : Int32)))).1 ?_
          refine XS.iload X389.here hx rfl (hb hby at_130) rfl ?_
          refine XS.iload X389.here hx rfl (hb hby at_132) rfl ?_
          show Steps p.tables e below (T389.setTop (mkF m 134 #[iv ln, .val (.long p0), .second, .val (.long p1), .second, .val (.long p2), .second, iv (3 : Int32), iv x0, iv y0, iv x1, iv y1, iv x2, iv y2, rv b362, rv b365, .unset, .unset, .unset] [(.int y1), (.int x1)])) _
          refine XS.icmpNo X389.here hx rfl (hb hby at_134) rfl (flt hd134_1).1 ?_
          refine XS.iload X389.here hx rfl (hb hby at_137) rfl ?_
          refine XS.iconst X389.here hx rfl (hb hby at_139) ?_
          refine XS.icmpNo X389.here hx rfl (hb hby at_140) rfl (flt (by decide : ¬ ((3 : Int32) < (3 : Int32)))).1 ?_
          refine XS.iload X389.here hx rfl (hb hby at_143) rfl ?_
          refine XS.iload X389.here hx rfl (hb hby at_145) rfl ?_
          show Steps p.tables e below (T389.setTop (mkF m 147 #[iv ln, .val (.long p0), .second, .val (.long p1), .second, .val (.long p2), .second, iv (3 : Int32), iv x0, iv y0, iv x1, iv y1, iv x2, iv y2, rv b362, rv b365, .unset, .unset, .unset] [(.int y2), (.int x2)])) _
          refine XS.icmpYes X389.here hx rfl (pc0 := 147) (pc' := 154) rfl (hb hby at_147) rfl (tlt hd147_2).1 (by decide) (by decide) ?_
          refine XS.iconst X389.here hx rfl (hb hby at_154) ?_
          exact kt
        · refine ⟨_, (((if_neg hd121_0).trans (if_neg hd134_1)).trans (if_neg hd147_2)).symm, fun tt kt => ?_⟩
          show Steps p.tables e below (T389.setTop (mkF m 121 #[iv ln, .val (.long p0), .second, .val (.long p1), .second, .val (.long p2), .second, iv (3 : Int32), iv x0, iv y0, iv x1, iv y1, iv x2, iv y2, rv b362, rv b365, .unset, .unset, .unset] [(.int y0), (.int x0)])) _
          refine XS.icmpNo X389.here hx rfl (hb hby at_121) rfl (flt hd121_0).1 ?_
          refine XS.iload X389.here hx rfl (hb hby at_124) rfl ?_
          refine XS.iconst X389.here hx rfl (hb hby at_126) ?_
          refine XS.icmpNo X389.here hx rfl (hb hby at_127) rfl (flt (by decide : ¬ ((3 : Int32) < (2 : Int32)))).1 ?_
          refine XS.iload X389.here hx rfl (hb hby at_130) rfl ?_
          refine XS.iload X389.here hx rfl (hb hby at_132) rfl ?_
          show Steps p.tables e below (T389.setTop (mkF m 134 #[iv ln, .val (.long p0), .second, .val (.long p1), .second, .val (.long p2), .second, iv (3 : Int32), iv x0, iv y0, iv x1, iv y1, iv x2, iv y2, rv b362, rv b365, .unset, .unset, .unset] [(.int y1), (.int x1)])) _
          refine XS.icmpNo X389.here hx rfl (hb hby at_134) rfl (flt hd134_1).1 ?_
          refine XS.iload X389.here hx rfl (hb hby at_137) rfl ?_
          refine XS.iconst X389.here hx rfl (hb hby at_139) ?_
          refine XS.icmpNo X389.here hx rfl (hb hby at_140) rfl (flt (by decide : ¬ ((3 : Int32) < (3 : Int32)))).1 ?_
          refine XS.iload X389.here hx rfl (hb hby at_143) rfl ?_
          refine XS.iload X389.here hx rfl (hb hby at_145) rfl ?_
          show Steps p.tables e below (T389.setTop (mkF m 147 #[iv ln, .val (.long p0), .second, .val (.long p1), .second, .val (.long p2), .second, iv (3 : Int32), iv x0, iv y0, iv x1, iv y1, iv x2, iv y2, rv b362, rv b365, .unset, .unset, .unset] [(.int y2), (.int x2)])) _
          refine XS.icmpNo X389.here hx rfl (hb hby at_147) rfl (flt hd147_2).1 ?_
          refine XS.iconst X389.here hx rfl (hb hby at_150) ?_
          refine XS.goto X389.here hx rfl (pc0 := 151) (pc' := 155) rfl (hb hby at_151) (by decide) (by decide) ?_
          exact kt
  have go394 : own_S p e below ST T389 (mkF m 155 #[iv ln, .val (.long p0), .second, .val (.long p1), .second, .val (.long p2), .second, iv (3 : Int32), iv x0, iv y0, iv x1, iv y1, iv x2, iv y2, rv b362, rv b365, .unset, .unset, .unset] [(.int al)]) := fun tt kt => go392 tt (sg393 _ kt)
  have go395 : own_S p e below ST T389 (mkF m 167 #[iv ln, .val (.long p0), .second, .val (.long p1), .second, .val (.long p2), .second, iv (3 : Int32), iv x0, iv y0, iv x1, iv y1, iv x2, iv y2, rv b362, rv b365, iv al, .unset, .unset] [(.int y0), (.int x0)]) := fun tt kt => go394 tt (by
      refine XS.istore X389.here hx rfl (hb hby at_155) rfl (l' := #[iv ln, .val (.long p0), .second, .val (.long p1), .second, .val (.long p2), .second, iv (3 : Int32), iv x0, iv y0, iv x1, iv y1, iv x2, iv y2, rv b362, rv b365, iv al, .unset, .unset]) rfl ?_
      refine XS.iload X389.here hx rfl (hb hby at_157) rfl ?_
      refine XS.iconst X389.here hx rfl (hb hby at_159) ?_
      refine XS.icmpNo X389.here hx rfl (hb hby at_160) rfl (flt (by decide : ¬ ((3 : Int32) < (1 : Int32)))).1 ?_
      refine XS.iload X389.here hx rfl (hb hby at_163) rfl ?_
      refine XS.iload X389.here hx rfl (hb hby at_165) rfl ?_
      exact kt)
  obtain ⟨gs, hgs, sg396⟩ : ∃ (gs : Int32), gs = (if y0 < x0 then (1 : Int32) else (if y1 < x1 then (1 : Int32) else (if y2 < x2 then (1 : Int32) else (0 : Int32)))) ∧ ∀ tt, Steps p.tables e below (T389.setTop (mkF m 201 #[iv ln, .val (.long p0), .second, .val (.long p1), .second, .val (.long p2), .second, iv (3 : Int32), iv x0, iv y0, iv x1, iv y1, iv x2, iv y2, rv b362, rv b365, iv al, .unset, .unset] [(.int gs)])) tt → Steps p.tables e below (T389.setTop (mkF m 167 #[iv ln, .val (.long p0), .second, .val (.long p1), .second, .val (.long p2), .second, iv (3 : Int32), iv x0, iv y0, iv x1, iv y1, iv x2, iv y2, rv b362, rv b365, iv al, .unset, .unset] [(.int y0), (.int x0)])) tt := by
    by_cases hd167_0 : y0 < x0
    · refine ⟨_, (if_pos hd167_0).symm, fun tt kt => ?_⟩
      show Steps p.tables e below (T389.setTop (mkF m 167 #[iv ln, .val (.long p0), .second, .val (.long p1), .second, .val (.long p2), .second, iv (3 : Int32), iv x0, iv y0, iv x1, iv y1, iv x2, iv y2, rv b362, rv b365, iv al, .unset, .unset] [(.int y0), (.int x0)])) _
      refine XS.icmpYes X389.here hx rfl (pc0 := 167) (pc' := 196) rfl (hb hby at_167) rfl (tlt hd167_0).2.2.1 (by decide) (by decide) ?_
      refine XS.iconst X389.here hx rfl (hb hby at_196) ?_
      refine XS.goto X389.here hx rfl (pc0 := 197) (pc' := 201) rfl (hb hby at_197) (by decide) (by decide) ?_
      exact kt
    · by_cases hd180_1 : y1 < x1
      · refine ⟨_, ((if_neg hd167_0).trans (if_pos hd180_1)).symm, fun tt kt => ?_⟩
        show Steps p.tables e below (T389.setTop (mkF m 167 #[iv ln, .val (.long p0), .second, .val (.long p1), .second, .val (.long p2), .second, iv (3 : Int32), iv x0, iv y0, iv x1, iv y1, iv x2, iv y2, rv b362, rv b365, iv al, .unset, .unset] [(.int y0), (.int x0)])) _
        refine XS.icmpNo X389.here hx rfl (hb hby at_167) rfl (flt hd167_0).2.2.1 ?_
        refine XS.iload X389.here hx rfl (hb hby at_170) rfl ?_
        refine XS.iconst X389.here hx rfl (hb hby at_172) ?_
        refine XS.icmpNo X389.here hx rfl (hb hby at_173) rfl (flt (by decide : ¬ ((3 : Int32) < (2 : Int32)))).1 ?_
        refine XS.iload X389.here hx rfl (hb hby at_176) rfl ?_
        refine XS.iload X389.here hx rfl (hb hby at_178) rfl ?_
        show Steps p.tables e below (T389.setTop (mkF m 180 #[iv ln, .val (.long p0), .second, .val (.long p1), .second, .val (.long p2), .second, iv (3 : Int32), iv x0, iv y0, iv x1, iv y1, iv x2, iv y2, rv b362, rv b365, iv al, .unset, .unset] [(.int y1), (.int x1)])) _
        refine XS.icmpYes X389.here hx rfl (pc0 := 180) (pc' := 196) rfl (hb hby at_180) rfl (tlt hd180_1).2.2.1 (by decide) (by decide) ?_
        refine XS.iconst X389.here hx rfl (hb hby at_196) ?_
        refine XS.goto X389.here hx rfl (pc0 := 197) (pc' := 201) rfl (hb hby at_197) (by decide) (by decide) ?_
        exact kt
      · by_cases hd193_2 : y2 < x2
        · refine ⟨_, (((if_neg hd167_0).trans (if_neg hd180_1)).trans (if_pos hd193_2)).symm, fun tt kt => ?_⟩
          show Steps p.tables e below (T389.setTop (mkF m 167 #[iv ln, .val (.long p0), .second, .val (.long p1), .second, .val (.long p2), .second, iv (3 : Int32), iv x0, iv y0, iv x1, iv y1, iv x2, iv y2, rv b362, rv b365, iv al, .unset, .unset] [(.int y0), (.int x0)])) _
          refine XS.icmpNo X389.here hx rfl (hb hby at_167) rfl (flt hd167_0).2.2.1 ?_
          refine XS.iload X389.here hx rfl (hb hby at_170) rfl ?_
          refine XS.iconst X389.here hx rfl (hb hby at_172) ?_
          refine XS.icmpNo X389.here hx rfl (hb hby at_173) rfl (flt (by decide : ¬ ((3 : Int32) < (2 : Int32)))).1 ?_
          refine XS.iload X389.here hx rfl (hb hby at_176) rfl ?_
          refine XS.iload X389.here hx rfl (hb hby at_178) rfl ?_
          show Steps p.tables e below (T389.setTop (mkF m 180 #[iv ln, .val (.long p0), .second, .val (.long p1), .second, .val (.long p2), .second, iv (3 : Int32), iv x0, iv y0, iv x1, iv y1, iv x2, iv y2, rv b362, rv b365, iv al, .unset, .unset] [(.int y1), (.int x1)])) _
          refine XS.icmpNo X389.here hx rfl (hb hby at_180) rfl (flt hd180_1).2.2.1 ?_
          refine XS.iload X389.here hx rfl (hb hby at_183) rfl ?_
          refine XS.iconst X389.here hx rfl (hb hby at_185) ?_
          refine XS.icmpNo X389.here hx rfl (hb hby at_186) rfl (flt (by decide : ¬ ((3 : Int32) < (3 : Int32)))).1 ?_
          refine XS.iload X389.here hx rfl (hb hby at_189) rfl ?_
          refine XS.iload X389.here hx rfl (hb hby at_191) rfl ?_
          show Steps p.tables e below (T389.setTop (mkF m 193 #[iv ln, .val (.long p0), .second, .val (.long p1), .second, .val (.long p2), .second, iv (3 : Int32), iv x0, iv y0, iv x1, iv y1, iv x2, iv y2, rv b362, rv b365, iv al, .unset, .unset] [(.int y2), (.int x2)])) _
          refine XS.icmpNo X389.here hx rfl (hb hby at_193) rfl (tlt hd193_2).2.2.2 ?_
          refine XS.iconst X389.here hx rfl (hb hby at_196) ?_
          refine XS.goto X389.here hx rfl (pc0 := 197) (pc' := 201) rfl (hb hby at_197) (by decide) (by decide) ?_
          exact kt
        · refine ⟨_, (((if_neg hd167_0).trans (if_neg hd180_1)).trans (if_neg hd193_2)).symm, fun tt kt => ?_⟩
          show Steps p.tables e below (T389.setTop (mkF m 167 #[iv ln, .val (.long p0), .second, .val (.long p1), .second, .val (.long p2), .second, iv (3 : Int32), iv x0, iv y0, iv x1, iv y1, iv x2, iv y2, rv b362, rv b365, iv al, .unset, .unset] [(.int y0), (.int x0)])) _
          refine XS.icmpNo X389.here hx rfl (hb hby at_167) rfl (flt hd167_0).2.2.1 ?_
          refine XS.iload X389.here hx rfl (hb hby at_170) rfl ?_
          refine XS.iconst X389.here hx rfl (hb hby at_172) ?_
          refine XS.icmpNo X389.here hx rfl (hb hby at_173) rfl (flt (by decide : ¬ ((3 : Int32) < (2 : Int32)))).1 ?_
          refine XS.iload X389.here hx rfl (hb hby at_176) rfl ?_
          refine XS.iload X389.here hx rfl (hb hby at_178) rfl ?_
          show Steps p.tables e below (T389.setTop (mkF m 180 #[iv ln, .val (.long p0), .second, .val (.long p1), .second, .val (.long p2), .second, iv (3 : Int32), iv x0, iv y0, iv x1, iv y1, iv x2, iv y2, rv b362, rv b365, iv al, .unset, .unset] [(.int y1), (.int x1)])) _
          refine XS.icmpNo X389.here hx rfl (hb hby at_180) rfl (flt hd180_1).2.2.1 ?_
          refine XS.iload X389.here hx rfl (hb hby at_183) rfl ?_
          refine XS.iconst X389.here hx rfl (hb hby at_185) ?_
          refine XS.icmpNo X389.here hx rfl (hb hby at_186) rfl (flt (by decide : ¬ ((3 : Int32) < (3 : Int32)))).1 ?_
          refine XS.iload X389.here hx rfl (hb hby at_189) rfl ?_
          refine XS.iload X389.here hx rfl (hb hby at_191) rfl ?_
          show Steps p.tables e below (T389.setTop (mkF m 193 #[iv ln, .val (.long p0), .second, .val (.long p1), .second, .val (.long p2), .second, iv (3 : Int32), iv x0, iv y0, iv x1, iv y1, iv x2, iv y2, rv b362, rv b365, iv al, .unset, .unset] [(.int y2), (.int x2)])) _
          refine XS.icmpYes X389.here hx rfl (pc0 := 193) (pc' := 200) rfl (hb hby at_193) rfl (flt hd193_2).2.2.2 (by decide) (by decide) ?_
          refine XS.iconst X389.here hx rfl (hb hby at_200) ?_
          exact kt
  have go397 : own_S p e below ST T389 (mkF m 201 #[iv ln, .val (.long p0), .second, .val (.long p1), .second, .val (.long p2), .second, iv (3 : Int32), iv x0, iv y0, iv x1, iv y1, iv x2, iv y2, rv b362, rv b365, iv al, .unset, .unset] [(.int gs)]) := fun tt kt => go395 tt (sg396 _ kt)
  have go398 : own_S p e below ST T389 (mkF m 205 #[iv ln, .val (.long p0), .second, .val (.long p1), .second, .val (.long p2), .second, iv (3 : Int32), iv x0, iv y0, iv x1, iv y1, iv x2, iv y2, rv b362, rv b365, iv al, iv gs, .unset] [(.int al)]) := fun tt kt => go397 tt (by
      refine XS.istore X389.here hx rfl (hb hby at_201) rfl (l' := #[iv ln, .val (.long p0), .second, .val (.long p1), .second, .val (.long p2), .second, iv (3 : Int32), iv x0, iv y0, iv x1, iv y1, iv x2, iv y2, rv b362, rv b365, iv al, iv gs, .unset]) rfl ?_
      refine XS.iload X389.here hx rfl (hb hby at_203) rfl ?_
      exact kt)
  obtain ⟨ex, hex, sg399⟩ : ∃ (ex : Int32), ex = (if al = (0 : Int32) then (0 : Int32) else (if gs = (0 : Int32) then (0 : Int32) else (1 : Int32))) ∧ ∀ tt, Steps p.tables e below (T389.setTop (mkF m 218 #[iv ln, .val (.long p0), .second, .val (.long p1), .second, .val (.long p2), .second, iv (3 : Int32), iv x0, iv y0, iv x1, iv y1, iv x2, iv y2, rv b362, rv b365, iv al, iv gs, .unset] [(.int ex)])) tt → Steps p.tables e below (T389.setTop (mkF m 205 #[iv ln, .val (.long p0), .second, .val (.long p1), .second, .val (.long p2), .second, iv (3 : Int32), iv x0, iv y0, iv x1, iv y1, iv x2, iv y2, rv b362, rv b365, iv al, iv gs, .unset] [(.int al)])) tt := by
    by_cases hd205_0 : al = (0 : Int32)
    · refine ⟨_, (if_pos hd205_0).symm, fun tt kt => ?_⟩
      show Steps p.tables e below (T389.setTop (mkF m 205 #[iv ln, .val (.long p0), .second, .val (.long p1), .second, .val (.long p2), .second, iv (3 : Int32), iv x0, iv y0, iv x1, iv y1, iv x2, iv y2, rv b362, rv b365, iv al, iv gs, .unset] [(.int al)])) _
      refine XS.ifYes X389.here hx rfl (pc0 := 205) (pc' := 217) rfl (hb hby at_205) rfl ((if0 _ _).trans (teq hd205_0).1) (by decide) (by decide) ?_
      refine XS.iconst X389.here hx rfl (hb hby at_217) ?_
      exact kt
    · by_cases hd210_1 : gs = (0 : Int32)
      · refine ⟨_, ((if_neg hd205_0).trans (if_pos hd210_1)).symm, fun tt kt => ?_⟩
        show Steps p.tables e below (T389.setTop (mkF m 205 #[iv ln, .val (.long p0), .second, .val (.long p1), .second, .val (.long p2), .second, iv (3 : Int32), iv x0, iv y0, iv x1, iv y1, iv x2, iv y2, rv b362, rv b365, iv al, iv gs, .unset] [(.int al)])) _
        refine XS.ifNo X389.here hx rfl (hb hby at_205) rfl ((if0 _ _).trans (feq hd205_0).1) ?_
        refine XS.iload X389.here hx rfl (hb hby at_208) rfl ?_
        refine XS.ifYes X389.here hx rfl (pc0 := 210) (pc' := 217) rfl (hb hby at_210) rfl ((if0 _ _).trans (teq hd210_1).1) (by decide) (by decide) ?_
        refine XS.iconst X389.here hx rfl (hb hby at_217) ?_
        exact kt
      · refine ⟨_, ((if_neg hd205_0).trans (if_neg hd210_1)).symm, fun tt kt => ?_⟩
        show Steps p.tables e below (T389.setTop (mkF m 205 #[iv ln, .val (.long p0), .second, .val (.long p1), .second, .val (.long p2), .second, iv (3 : Int32), iv x0, iv y0, iv x1, iv y1, iv x2, iv y2, rv b362, rv b365, iv al, iv gs, .unset] [(.int al)])) _
        refine XS.ifNo X389.here hx rfl (hb hby at_205) rfl ((if0 _ _).trans (feq hd205_0).1) ?_
        refine XS.iload X389.here hx rfl (hb hby at_208) rfl ?_
        refine XS.ifNo X389.here hx rfl (hb hby at_210) rfl ((if0 _ _).trans (feq hd210_1).1) ?_
        refine XS.iconst X389.here hx rfl (hb hby at_213) ?_
        refine XS.goto X389.here hx rfl (pc0 := 214) (pc' := 218) rfl (hb hby at_214) (by decide) (by decide) ?_
        exact kt
  have go400 : own_S p e below ST T389 (mkF m 218 #[iv ln, .val (.long p0), .second, .val (.long p1), .second, .val (.long p2), .second, iv (3 : Int32), iv x0, iv y0, iv x1, iv y1, iv x2, iv y2, rv b362, rv b365, iv al, iv gs, .unset] [(.int ex)]) := fun tt kt => go398 tt (sg399 _ kt)
  have go401 : own_S p e below ST T389 (mkF m 224 #[iv ln, .val (.long p0), .second, .val (.long p1), .second, .val (.long p2), .second, iv (3 : Int32), iv x0, iv y0, iv x1, iv y1, iv x2, iv y2, rv b362, rv b365, iv al, iv gs, iv ex] [(.ref b365), (.ref b362)]) := fun tt kt => go400 tt (by
      refine XS.istore X389.here hx rfl (hb hby at_218) rfl (l' := #[iv ln, .val (.long p0), .second, .val (.long p1), .second, .val (.long p2), .second, iv (3 : Int32), iv x0, iv y0, iv x1, iv y1, iv x2, iv y2, rv b362, rv b365, iv al, iv gs, iv ex]) rfl ?_
      refine XS.aload X389.here hx rfl (hb hby at_220) rfl rfl ?_
      refine XS.aload X389.here hx rfl (hb hby at_222) rfl rfl ?_
      exact kt)
  have f402 := (V385.other W389 neb362_b365)
  have zs404 := (Nat.le_trans (Nat.le_trans (Nat.le_trans (Nat.le_trans (Nat.le_trans (Nat.le_trans (Nat.le_trans zs366 E365.1) (Keep.of_wr W369).1) (Keep.of_wr W373).1) (Keep.of_wr W377).1) (Keep.of_wr W381).1) (Keep.of_wr W385).1) (Keep.of_wr W389).1)
  obtain ⟨_, _, ⟨T403, L403, k403, n403⟩, -, X403, ⟨Lc403, hQ403, l403, y403, z403⟩, st403⟩ := Jvm.LawKit.callS X389 hx (y := (⟨"com/example/declination/declination/ranking/NondominatedSorting", "dominates", "([D[D)Z"⟩ : MethodName)) hown (mvT hZ (W 1 rfl)) (mvT hZ (W 2 rfl)) (mvT hZ (W 3 rfl)) (mvT hZ (W 4 rfl)) (by decide) (backOf (W := 0) (rm1k3 l Z a0 hw [] b362 b365 _ _ x0 x1 x2 y0 y1 y2 h389 n0 zs404 f402 V389) hZ (W 4 rfl) (W 3 rfl) (by decide) (by decide)) (g := (mkF m 224 #[iv ln, .val (.long p0), .second, .val (.long p1), .second, .val (.long p2), .second, iv (3 : Int32), iv x0, iv y0, iv x1, iv y1, iv x2, iv y2, rv b362, rv b365, iv al, iv gs, iv ex] [(.ref b365), (.ref b362)])) rfl (by rw [hml]; rfl) (argsL := [(.ref b362), (.ref b365)]) (rest := []) (lenOf pd38 rfl) rfl (by show 2 * 0 + _ ≤ _; exact Nat.le_of_eq rfl) (hb hby at_224) (fun _ _ => ⟨rfl, e389, (by decide : 2 + 0 ≤ _), (by decide : 6 + 0 ≤ _)⟩)
  dsimp only [Pt.U, Pt.locs, Pt.cells, Pt.slots] at X403 l403 y403 z403 st403 hQ403
  subst l403 y403 z403
  obtain ⟨rfl, Nq403, eh403⟩ := hQ403
  have N403 := Fr.app N389 Nq403
  have go405 : own_S p e below ST T403 (mkF m 227 #[iv ln, .val (.long p0), .second, .val (.long p1), .second, .val (.long p2), .second, iv (3 : Int32), iv x0, iv y0, iv x1, iv y1, iv x2, iv y2, rv b362, rv b365, iv al, iv gs, iv ex] [(.int (if lcmpW (x0.toInt64) (y0.toInt64) < (0 : Int32) then 0 else (if lcmpW (x1.toInt64) (y1.toInt64) < (0 : Int32) then 0 else (if lcmpW (x2.toInt64) (y2.toInt64) < (0 : Int32) then 0 else (nar .boolean ((((0 : Int32) ||| own_g x0 y0) ||| own_g x1 y1) ||| own_g x2 y2))))))]) := fun tt kt => go401 tt (st403 _ kt)
  have go406 : own_S p e below ST T403 (mkF m 229 #[iv ln, .val (.long p0), .second, .val (.long p1), .second, .val (.long p2), .second, iv (3 : Int32), iv x0, iv y0, iv x1, iv y1, iv x2, iv y2, rv b362, rv b365, iv al, iv gs, iv ex] [(.int ex), (.int (if lcmpW (x0.toInt64) (y0.toInt64) < (0 : Int32) then 0 else (if lcmpW (x1.toInt64) (y1.toInt64) < (0 : Int32) then 0 else (if lcmpW (x2.toInt64) (y2.toInt64) < (0 : Int32) then 0 else (nar .boolean ((((0 : Int32) ||| own_g x0 y0) ||| own_g x1 y1) ||| own_g x2 y2))))))]) := fun tt kt => go405 tt (by
      refine XS.iload X403.here hx rfl (hb hby at_227) rfl ?_
      exact kt)
  have hfin : (if lcmpW (x0.toInt64) (y0.toInt64) < (0 : Int32) then 0 else (if lcmpW (x1.toInt64) (y1.toInt64) < (0 : Int32) then 0 else (if lcmpW (x2.toInt64) (y2.toInt64) < (0 : Int32) then 0 else (nar .boolean ((((0 : Int32) ||| own_g x0 y0) ||| own_g x1 y1) ||| own_g x2 y2))))) = ex := by
    simp only [own_lt, own_g, own_gt]
    rw [hex, hgs, hal]
    by_cases u0 : x0 < y0 <;> by_cases t0 : y0 < x0
    all_goals (by_cases u1 : x1 < y1 <;> by_cases t1 : y1 < x1)
    all_goals (by_cases u2 : x2 < y2 <;> by_cases t2 : y2 < x2)
    all_goals first | exact (own_tri _ _ u0 t0).elim | exact (own_tri _ _ u1 t1).elim | exact (own_tri _ _ u2 t2).elim | (simp only [u0, t0, u1, t1, u2, t2, if_true, if_false, ↓reduceIte] <;> decide) | (simp [u0, t0, u1, t1, u2, t2] <;> decide)
  have go407 : own_S p e below ST T403 (mkF m 237 #[iv ln, .val (.long p0), .second, .val (.long p1), .second, .val (.long p2), .second, iv (3 : Int32), iv x0, iv y0, iv x1, iv y1, iv x2, iv y2, rv b362, rv b365, iv al, iv gs, iv ex] [(.int (1 : Int32))]) := fun tt kt => go406 tt (by
      refine XS.icmpNo X403.here hx rfl (hb hby at_229) rfl (teq hfin).2 ?_
      refine XS.iconst X403.here hx rfl (hb hby at_232) ?_
      refine XS.goto X403.here hx rfl (pc0 := 233) (pc' := 237) rfl (hb hby at_233) (by decide) (by decide) ?_
      exact kt)
  obtain ⟨fs, hr, hrun, hended, hW, hsame⟩ := X403.leave (v := some (.int (1 : Int32))) (fun h => by rw [Bd.returns] at h; cases h)
  refine ⟨_, _, pre0 _ (go407 _ ?_), hrun, hended, _, _, rfl, ?_, ⟨_, rfl⟩, hW, hsame.mono (by decide) (by decide)⟩
  · exact retN X403 hx (t := .boolean) Bd.returns (by simp) (hb hby at_237) hr
  · show Q0k3 Z ln p0 p1 p2 h0 n0 _ T403.heap _
    rw [eh403]
    exact ⟨rfl, N403⟩
theorem rm0 (l : Launch) (Z : State) (a0 : Array Value) (hw : ∀ d ∈ tables_1, d.before a0 Z = true) (ws : List Jvm.Cond) (ln : Int32) (p0 : Int64) (p1 : Int64) (p2 : Int64) (h0 : Heap) (n0 : Nat) (Z0 : n0 ≤ h0.size) :
    MetFree l x (head1 (Jvm.Cond.code x code maxLocals ret :: ws) room_1) (fun aa UU => aa = #[(.int ln), (.long p0), (.long p1), (.long p2)] ∧ Z.Warmed39 UU.vm ∧ UU.heap = h0) (fun _ _ _ _ _ => True) (fun _ UU oo UU' => ∃ vv LL, oo = .returned vv ∧ Q0k0 Z ln p0 p1 p2 h0 n0 vv UU'.heap LL ∧ FrameEnd UU oo UU' LL room_1.cells room_1.slots) := by
  rcases own_4 ln with hk | hk | hk | hk
  · exact rm0k0 l Z a0 hw ws ln p0 p1 p2 h0 n0 Z0  hk
  · exact rm0k1 l Z a0 hw ws ln p0 p1 p2 h0 n0 Z0  hk
  · exact rm0k2 l Z a0 hw ws ln p0 p1 p2 h0 n0 Z0  hk
  · exact rm0k3 l Z a0 hw ws ln p0 p1 p2 h0 n0 Z0  hk
set_option maxRecDepth 65536 in
set_option maxHeartbeats 40000000 in
theorem comes_1 {Post : Tables → Env → Array Value → State → Outcome → State → Prop} (hpost : ∀ tb e args s v u, (limb_1_1.after args s (.returned v) u = true ∧ limb_1_2.after args s (.returned v) u = true ∧ True) → FrameEnd s (.returned v) u (Jvm.fieldLocs frame_1_writes args s ++ Jvm.arrayLocs frame_1_arrays args s ++ Jvm.staticLocs frame_1_statics s) 16 128 → Post tb e args s (.returned v) u) :
    ArmFor flags0 classFile x code maxLocals ret World_1 tables_1 room_1 Calls_1 rest_1 Pre_1 Post := by
  intro l hfl _ _ p e ha hc hk s m args below hf hA hF happ hP
  obtain ⟨hcalls, hrest, hpre⟩ := hP
  obtain ⟨-, -, -, hnamed, -, -, -, hat⟩ := (Spec.applies_iff hf).mp happ
  obtain ⟨hg, hn⟩ := and_e (Cond.before_iff.mp (show (Jvm.Cond.and given_1 narrow_1).before args s = true from hpre))
  obtain ⟨gg1, gg2⟩ := and_e hg
  obtain ⟨gg3, gg4⟩ := and_e gg2
  obtain ⟨gg5, gg6⟩ := and_e gg4
  obtain ⟨gg7, gg8⟩ := and_e gg6
  obtain ⟨w0, w1, w2, w3, rfl⟩ : ∃ w0 w1 w2 w3 : Value, args = #[w0, w1, w2, w3] := by
    have hs : args.size = 4 := by simpa [Cond.value, given_1] using gg1
    obtain ⟨L⟩ := args
    match L, hs with
    | [w0, w1, w2, w3], _ => exact ⟨w0, w1, w2, w3, rfl⟩
  have hw := fun d (hd : d ∈ tables_1) => atoms_spec (ws := Jvm.Cond.code x code maxLocals ret :: tables_1) hat d (List.mem_cons_of_mem _ hd)
  have W : ∀ {d : Jvm.Cond} (i : Nat), tables_1[i]? = some d → d.before _ s = true := fun i h => hw _ (List.mem_of_getElem? h)
  have hfit : Fit s := fun {y c} hc i hi => by
    obtain ⟨ha, rfl⟩ := Array.getElem?_eq_some_iff.mp hc
    have q := List.all_eq_true.mp ((Array.all_eq_true_iff_forall_mem.mp hF) _ (Array.getElem_mem ha)) i (List.mem_range.mpr hi)
    simpa [Array.getElem?_eq_getElem hi] using q
  obtain ⟨i0, ei0⟩ := is_v gg3
  obtain rfl : w0 = (.int i0) := Option.some.inj ei0
  obtain ⟨i1, ei1⟩ := isL_v gg5
  obtain rfl : w1 = (.long i1) := Option.some.inj ei1
  obtain ⟨i2, ei2⟩ := isL_v gg7
  obtain rfl : w2 = (.long i2) := Option.some.inj ei2
  obtain ⟨i3, ei3⟩ := isL_v gg8
  obtain rfl : w3 = (.long i3) := Option.some.inj ei3
  obtain ⟨n, o, h1, h2, h3, _, L, rfl, ⟨rfl, N⟩, hq⟩ := rm0 l s _ hw tables_1 i0 i1 i2 i3 s.heap s.heap.size (Nat.le_refl _)  p e ha hc hk s m _ below hf ((Spec.applies_iff_loose hf).mp happ).1 ⟨rfl, State.Warmed39.refl s, rfl⟩ trivial
  refine ⟨n, _, h1, h2, h3, hpost _ _ _ _ _ _ ⟨Cond.after_iff.mpr rfl, Cond.after_iff.mpr (eq_i res_at (Term.int_eval (1)) rfl), trivial⟩ ⟨hq.1, hq.2.1, (hq.2.2.sift fun y hy => Or.inr (N y hy)).mono (by decide) (by decide)⟩⟩
theorem main_1_1 : Claimed_1_1 := comes_1 fun _ _ _ _ _ _ h hF => ⟨h.1, hF⟩
theorem main_1_2 : Claimed_1_2 := comes_1 fun _ _ _ _ _ _ h hF => ⟨h.2.1, hF⟩
end Jvm.Pilot.@@N@@
namespace Jvm.Pilot.@@N@@
open Jvm Jvm.ClassFile Sem Op Lib Jvm.Free Jvm.Stand Jvm.Pilot.@@N@@.Jvm.D
/-! MADE BY PROGRAM (witnessworld.py) out of the Statement's table words and the real class files: 9 classes; the members and pool entries that the words name. The judged class is class 1, her method 1. -/
namespace start1
open Jvm.ClassFile
def u (s : String) : CpInfo := .utf8 (stringToUtf16 s)
/-- a pool by its gaps: so many unusable entries, then the entry; so many at the end -/
def gap : Nat → List CpInfo → List CpInfo
  | 0, r => r
  | n + 1, r => .unusable :: gap n r
def poolList (es : List (Nat × CpInfo)) (last : Nat) : List CpInfo := es.foldr (fun e r => gap e.1 (e.2 :: r)) (gap last [])
def pool (es : List (Nat × CpInfo)) (last : Nat) : Array CpInfo := ⟨poolList es last⟩
def fileOf (pool : Array CpInfo) (this : Nat) (attrs : Array Attribute := #[]) (ms : Array MethodInfo := #[]) (fl : Nat := 33) (sup : Nat := 0) (ifs : Array Nat := #[]) (fds : Array FieldInfo := #[]) : ClassFile where
  minorVersion := 0
  majorVersion := 65
  constantPool := pool
  accessFlags := fl
  thisClass := this
  superClass := sup
  interfaces := ifs
  fields := fds
  methods := ms
  attributes := attrs
def plain (name : String) (sup : Option ClassId) : Class where
  name := name
  kind := .ordinary
  loader := none
  accessFlags := 33
  super := sup
  interfaces := #[]
  cf := none
  fields := #[]
  methods := #[]
  instanceTypes := #[]
  staticTypes := #[]
  resolved := #[]
  callSites := []
  init := .initialized
  statics := none
  mirror := none

def pool0 : Array CpInfo := pool [(5, u "<init>"), (0, u "()V"), (1, .class_ 10), (1, u "java/lang/Object")] 113

def k0m0 : Method := { name := "<init>", desc := "()V", sig := { parameters := [], returnType := none }, accessFlags := 1, code := none }
/-- java/lang/Object -/
def k0 : Class := { plain "java/lang/Object" none with
  accessFlags := 33
  interfaces := #[]
  cf := some (fileOf pool0 8 #[] #[{ accessFlags := 1, nameIndex := 5, descriptorIndex := 6, attributes := #[] }] 33 0 #[] #[])
  fields := #[]
  methods := #[k0m0]
  instanceTypes := #[]
  staticTypes := #[]
  resolved := Array.replicate 124 none
  statics := none }

def pool1 : Array CpInfo := pool [(2, .class_ 4), (1, u "java/lang/Object"), (0, u "<init>"), (0, u "()V"), (0, .methodref 8 9), (0, .class_ 10), (0, .nameAndType 11 12), (0, u "com/example/declination/declination/ranking/NondominatedSorting"), (0, u "dominates"), (0, u "([D[D)Z"), (0, .class_ 14), (0, u "com/example/declination/declination/ranking/NondominatedSortingDominatesPinLaw"), (2, u "law"), (0, u "(IJJJ)Z")] 5

def k1m0 : Method := { name := "<init>", desc := "()V", sig := { parameters := [], returnType := none }, accessFlags := 1, code := none }
def k1c1 : Code := { maxStack := 4, maxLocals := 19, code := code, exceptionTable := #[], attributes := #[] }
def k1m1 : Method := { name := "law", desc := "(IJJJ)Z", sig := { parameters := [.int, .long, .long, .long], returnType := some .boolean }, accessFlags := 9, code := some k1c1 }
/-- com/example/declination/declination/ranking/NondominatedSortingDominatesPinLaw -/
def k1 : Class := { plain "com/example/declination/declination/ranking/NondominatedSortingDominatesPinLaw" (some 0) with
  accessFlags := 49
  interfaces := #[]
  cf := some (fileOf pool1 13 #[] #[{ accessFlags := 1, nameIndex := 5, descriptorIndex := 6, attributes := #[] }, { accessFlags := 9, nameIndex := 17, descriptorIndex := 18, attributes := #[] }] 49 2 #[] #[])
  fields := #[]
  methods := #[k1m0, k1m1]
  instanceTypes := #[]
  staticTypes := #[]
  resolved := Array.replicate 24 none
  statics := none }

def pool2 : Array CpInfo := pool [(2, .class_ 4), (1, u "java/lang/Object"), (0, u "<init>"), (0, u "()V"), (20, .class_ 29), (1, u "com/example/declination/declination/ranking/NondominatedSorting"), (44, u "([D[D)Z"), (2, u "dominates")] 51

def k2m0 : Method := { name := "<init>", desc := "()V", sig := { parameters := [], returnType := none }, accessFlags := 2, code := none }
def k2c1 : Code := { maxStack := 5, maxLocals := 4, code := prog_38_method_2_code, exceptionTable := #[], attributes := #[] }
def k2m1 : Method := { name := "dominates", desc := "([D[D)Z", sig := { parameters := [(.array .double), (.array .double)], returnType := some .boolean }, accessFlags := 9, code := some k2c1 }
/-- com/example/declination/declination/ranking/NondominatedSorting -/
def k2 : Class := { plain "com/example/declination/declination/ranking/NondominatedSorting" (some 0) with
  accessFlags := 49
  interfaces := #[]
  cf := some (fileOf pool2 27 #[] #[{ accessFlags := 2, nameIndex := 5, descriptorIndex := 6, attributes := #[] }, { accessFlags := 9, nameIndex := 77, descriptorIndex := 74, attributes := #[] }] 49 2 #[] #[])
  fields := #[]
  methods := #[k2m0, k2m1]
  instanceTypes := #[]
  staticTypes := #[]
  resolved := Array.replicate 129 none
  statics := none }

def pool3 : Array CpInfo := pool [(1, u "java/lang/Cloneable"), (0, .class_ 1), (0, u "java/lang/Object"), (0, .class_ 3)] 3

/-- java/lang/Cloneable -/
def k3 : Class := { plain "java/lang/Cloneable" (some 0) with
  accessFlags := 1537
  interfaces := #[]
  cf := some (fileOf pool3 2 #[] #[] 1537 4 #[] #[])
  fields := #[]
  methods := #[]
  instanceTypes := #[]
  staticTypes := #[]
  resolved := Array.replicate 8 none
  statics := none }

def pool4 : Array CpInfo := pool [(1, u "java/io/Serializable"), (0, .class_ 1), (0, u "java/lang/Object"), (0, .class_ 3)] 3

/-- java/io/Serializable -/
def k4 : Class := { plain "java/io/Serializable" (some 0) with
  accessFlags := 1537
  interfaces := #[]
  cf := some (fileOf pool4 2 #[] #[] 1537 4 #[] #[])
  fields := #[]
  methods := #[]
  instanceTypes := #[]
  staticTypes := #[]
  resolved := Array.replicate 8 none
  statics := none }

/-- the primitive byte -/
def k5 : Class := { plain "byte" none with kind := .primitive 'B', accessFlags := 0x411 }
/-- [B -/
def k6 : Class := { plain "[B" (some 0) with kind := .array 5 .byte, interfaces := #[3, 4], accessFlags := 1041 }

/-- the primitive int -/
def k7 : Class := { plain "int" none with kind := .primitive 'I', accessFlags := 0x411 }
/-- [I -/
def k8 : Class := { plain "[I" (some 0) with kind := .array 7 .int, interfaces := #[3, 4], accessFlags := 1041 }

def heap : Heap := #[]
def k9 : Class := { plain "double" none with kind := .primitive 'D', accessFlags := 0x411 }
def k10 : Class := { plain "[D" (some 0) with kind := .array 9 .double, interfaces := #[3, 4], accessFlags := 1041 }
def classes : Array Class := #[k0, k1, k2, k3, k4, k5, k6, k7, k8, k9, k10]
def interned : List (Array UInt16 × Addr) := []
def slotsUsed : Nat := 0
def theMethod : MethodId := ⟨1, 1⟩
def args0 : Array Value := #[.int 5, .long 1, .long 2, .long 3]
def aboutOver (below : List Frame) : State where
  vm := { classes := classes, interned := interned.toArray }
  heap := heap
  slotsUsed := slotsUsed
  threads := #[{ frames := .invoking theMethod args0 :: below }]
def below0 : List Frame := [.native { method := ⟨0, 0⟩, args := #[] }]
def about1 : State := aboutOver below0
def p0 : Program := .bare "" "" ""
def e0 : Env := launch0.env 0 0 0
theorem w_frames : about1.frames = Frame.invoking theMethod args0 :: below0 := rfl
set_option maxRecDepth 65536 in
theorem w_args : argsFit about1.vm theMethod args0 = true := by decide +kernel
set_option maxRecDepth 65536 in
theorem w_heap : heapFits about1 = true := by decide +kernel
set_option maxRecDepth 65536 in
theorem w_runnable : about1.curStatus? = some .runnable := by decide +kernel
set_option maxRecDepth 65536 in
theorem w_alone : about1.alone = true := by decide +kernel
set_option maxRecDepth 65536 in
theorem w_named : about1.methodNamed? x = some theMethod := by decide +kernel
set_option maxRecDepth 65536 in
theorem w_hears : about1.hears theMethod below0 = true := by decide +kernel
set_option maxRecDepth 65536 in
theorem w_ripe : about1.ripe theMethod args0 below0 = true := by decide +kernel
theorem w_running : about1.status = .running := rfl
set_option maxRecDepth 65536 in
theorem w_room : about1.hasRoom e0.platform room_1 = true :=
  launch0.hasRoom_least _ room_1 (by decide +kernel) (by decide +kernel) (by decide +kernel) (by decide +kernel) (by decide +kernel) (by decide +kernel)
theorem allAtoms_all (ts : List Jvm.Cond) (a : Array Jvm.Value) (st : Jvm.State) : (allAtoms ts).before a st = ts.all (fun c => c.before a st) := by
  induction ts with
  | nil => rfl
  | cons c t ih =>
    show (Jvm.Cond.and c (allAtoms t)).before a st = _
    rw [Jvm.Cond.before_and, ih, List.all_cons]
def words1 : List Jvm.Cond := Jvm.Cond.code x code maxLocals ret :: tables_1
/-- a 'code' word, met by the world's own term for the bytes: nothing is compared byte by byte -/
theorem code_word {y : MethodName} {bytes : ByteArray} {mx : Nat} {rt : Option FieldType} {a : Array Value} {s : State} {m : MethodId} {meth : Method} {c : Code} (h1 : s.methodNamed? y = some m) (h2 : s.vm.method? m = some meth) (h3 : meth.code = some c) (h4 : c.code = bytes)
    (h5 : (c.maxLocals == mx && c.exceptionTable.isEmpty && decide (c.maxStack ≤ mostOperands) && decide (meth.sig.returnType = rt) && !meth.locks && decide (parseMethodDescriptor y.desc = some meth.sig)) = true) : (Jvm.Cond.code y bytes mx rt).before a s = true := by
  simp only [Bool.and_eq_true, beq_iff_eq, Bool.not_eq_true', decide_eq_true_eq] at h5
  obtain ⟨⟨⟨⟨⟨g1, g2⟩, g3⟩, g4⟩, g5⟩, g6⟩ := h5
  simp [Cond.before, Cond.holds, Cond.value, h1, h2, h3, h4, g1, g2, g3, g4, g5, g6]
def isCode : Jvm.Cond → Bool
  | .code _ _ _ _ => true
  | _ => false
theorem all_split {L : List Jvm.Cond} {P : Jvm.Cond → Bool} (h1 : L.all (fun c => isCode c || P c) = true) (h2 : ∀ c ∈ L.filter isCode, P c = true) : L.all P = true := by
  refine List.all_eq_true.mpr fun c hc => ?_
  have h := List.all_eq_true.mp h1 c hc
  rcases Bool.eq_false_or_eq_true (isCode c) with hi | hi
  · exact h2 c (List.mem_filter.mpr ⟨hc, hi⟩)
  · simpa [hi] using h
set_option maxRecDepth 65536 in
theorem w_c0 : (Jvm.Cond.code x code maxLocals ret).before args0 about1 = true := code_word (m := ⟨1, 1⟩) (meth := k1m1) (c := k1c1) (by decide +kernel) rfl rfl rfl (by decide +kernel)
set_option maxRecDepth 65536 in
theorem w_c1 : (Jvm.Cond.code ({ cls := "com/example/declination/declination/ranking/NondominatedSorting", name := "dominates", desc := "([D[D)Z" } : Jvm.MethodName) prog_38_method_2_code (4 : Nat) (Option.some Jvm.ClassFile.FieldType.boolean)).before args0 about1 = true := code_word (m := ⟨2, 1⟩) (meth := k2m1) (c := k2c1) (by decide +kernel) rfl rfl rfl (by decide +kernel)
def codes1 : List Jvm.Cond := [Jvm.Cond.code x code maxLocals ret, Jvm.Cond.code ({ cls := "com/example/declination/declination/ranking/NondominatedSorting", name := "dominates", desc := "([D[D)Z" } : Jvm.MethodName) prog_38_method_2_code (4 : Nat) (Option.some Jvm.ClassFile.FieldType.boolean)]
set_option maxRecDepth 65536 in
theorem codes_eq : words1.filter isCode = codes1 := rfl
theorem w_codes : ∀ c ∈ words1.filter isCode, c.before args0 about1 = true := by
  rw [codes_eq]
  intro c hc
  simp only [codes1, List.mem_cons, List.not_mem_nil, or_false] at hc
  rcases hc with rfl | rfl
  · exact w_c0
  · exact w_c1
set_option maxRecDepth 65536 in
theorem w_t1 : words1.all (fun c => isCode c || c.before args0 about1) = true := by decide +kernel
theorem w_tables : (allAtoms (Jvm.Cond.code x code maxLocals ret :: tables_1)).before args0 about1 = true := by
  rw [allAtoms_all]
  show words1.all (fun c => c.before args0 about1) = true
  refine all_split ?_ w_codes
  rw [w_t1]
set_option maxRecDepth 65536 in
theorem w_case : (Jvm.Cond.and given_1 narrow_1).before args0 about1 = true := by decide +kernel
theorem w_applies : (headSpec (Jvm.Cond.code x code maxLocals ret :: tables_1) room_1).applies x e0.platform about1 = true :=
  (Spec.applies_iff w_frames).mpr ⟨w_running, w_runnable, w_alone, w_named, w_hears, w_ripe, w_room, w_tables⟩
theorem atStart : AtStart classFile x code maxLocals ret World_1 tables_1 room_1 Calls_1 rest_1 Pre_1 launch0 p0 e0 about1 theMethod args0 below0 :=
  ⟨lists_1, trivial, launch0.admits_env _ _ _, launch0.least_env, fairChoices_fair.cas, fairChoices_fair.clock, w_frames, w_args, w_heap, w_applies, trivial, trivial, w_case⟩
end start1
theorem witness_1 : WitnessClaimed_1 := ⟨start1.p0, start1.e0, start1.about1, start1.theMethod, start1.args0, start1.below0, start1.atStart⟩
end Jvm.Pilot.@@N@@
