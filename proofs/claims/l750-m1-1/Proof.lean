import JvmDerived
import JvmDerived.Pilot.@@N@@Statement
import JvmDerived.Pilot.@@N@@Code
set_option linter.unusedVariables false
set_option linter.unusedSimpArgs false
namespace Jvm.RoadKit
open Sem ClassFile Op Lib Jvm.Stand Jvm.Free Jvm.LawKit
section New
variable {p : Program} {l : Launch} {e : Env} {R : Room} {s : State} {m : MethodId} {args : Array Value} {below : List Frame} {meth : Method} {c : Code} {T : State} {locs : List Loc} {cells slots : Nat}
theorem retI (X : Stand p l e R s m args below meth c T locs cells slots) (hx : p.tables.exec = Jvm.exec) {pc : Nat} {Ls : Array Slot} {z : Int32} {rest : List Value} (hret : meth.sig.returnType = some .int) (hd : decode c.code pc = .ok (.ireturn, 1)) {fs : List Frame}
    (hl : ∀ (f : JFrame) (acts : List Action), f.method = m → f.locked = none → f.entered = [] → (doReturn e (T.setTop f) acts (some (.int z))).1 = T.setFrames fs) : Steps p.tables e below (T.setTop (mkF m pc Ls (.int z :: rest))) (T.setFrames fs) := by
  have hm' : T.vm.method? m = some meth := X.method'
  have hn : narrow .int (.int z) = .int z := rfl
  show Steps p.tables e below (T.setTop { method := m, pc := pc, locals := Ls, stack := _ :: rest, locked := none }) _
  jvm_step X.here [X.here.top, hx, hd, hm', hret, hn]
  first | (intro acts; rw [hl _ acts rfl rfl rfl]) | rw [hl _ _ rfl rfl rfl]
  exact Steps.refl _
end New
end Jvm.RoadKit
namespace Jvm.Pilot.@@N@@
open Jvm Jvm.ClassFile Sem Op Lib Jvm.Free Jvm.Stand Jvm.LawKit Jvm.RoadKit Bundle Jvm.Pilot.@@N@@.Jvm.D
abbrev own_S (p : Program) (e : Env) (below : List Frame) (S T : State) (f : JFrame) : Prop := ∀ tt, Steps p.tables e below (T.setTop f) tt → Steps p.tables e below S tt
def own_val (H q x : Int32) : Int32 := if x % 2 = 0 then x / 2 else if q < H then x / 2 + 1 else x / 2
def own_seen (H q x : Int32) : Int32 := if x % 2 = 0 then q else if q < H then q + 1 else q + 1
def own_inc (q H io : Int32) : Int32 := if io = 1 then (if q < H then 1 else 0) else 0
theorem own_6 (x : Int32) : (x &&& 2147483647) % 6 = 0 ∨ (x &&& 2147483647) % 6 = 1 ∨ (x &&& 2147483647) % 6 = 2 ∨ (x &&& 2147483647) % 6 = 3 ∨ (x &&& 2147483647) % 6 = 4 ∨ (x &&& 2147483647) % 6 = 5 := by
  have h1 := c_and x 2147483647 (by decide)
  have h2 := (c_irem (x &&& 2147483647) 6 6 rfl).1 h1.1
  have e0 : (0 : Int32).toInt = 0 := rfl
  have e1 : (1 : Int32).toInt = 1 := rfl
  have e2 : (2 : Int32).toInt = 2 := rfl
  have e3 : (3 : Int32).toInt = 3 := rfl
  have e4 : (4 : Int32).toInt = 4 := rfl
  have e5 : (5 : Int32).toInt = 5 := rfl
  simp only [← Int32.toInt_inj]
  omega
theorem own_nn (x s : Int32) (h : s = x &&& 2147483647) : 0 ≤ s.toInt := by
  have h1 := c_and x 2147483647 (by decide)
  rw [← h] at h1; exact h1.1
theorem own_bit (x : Int32) : (x &&& 1).toInt = x.toInt % 2 := by have h := c_mask x 1 1 (by decide) (by decide); simpa using h
theorem own_rem (x : Int32) (h : 0 ≤ x.toInt) : x % 2 = x &&& 1 := by
  rw [← Int32.toInt_inj, own_bit, (c_irem x 2 2 rfl).1 h]
theorem own_half (x : Int32) (h : 0 ≤ x.toInt) : x / 2 = x >>> ((1 : Int32) &&& 31) := by
  have a := (c_idiv x 2 2 rfl (by decide)).1 h
  have b := c_ishr x 1 1 (by decide)
  rw [← Int32.toInt_inj, a, b]; simp
theorem own_01 (x : Int32) : (x &&& 1) = 0 ∨ (x &&& 1) = 1 := by
  have h := own_bit x
  have e0 : (0 : Int32).toInt = 0 := rfl
  have e1 : (1 : Int32).toInt = 1 := rfl
  simp only [← Int32.toInt_inj]; omega
theorem own_ve (H q x : Int32) (h : 0 ≤ x.toInt) : own_val H q x = (x >>> ((1 : Int32) &&& 31)) + own_inc q H (x &&& 1) := by
  unfold own_val own_inc; rw [own_rem x h, own_half x h]
  rcases own_01 x with e | e
  · rw [e, if_pos rfl, if_neg (by decide), Int32.add_zero]
  · rw [e, if_neg (by decide), if_pos rfl]; split
    · rfl
    · rw [Int32.add_zero]
theorem own_se (H q x : Int32) (h : 0 ≤ x.toInt) : own_seen H q x = q + (x &&& 1) := by
  unfold own_seen; rw [own_rem x h]
  rcases own_01 x with e | e
  · rw [e, if_pos rfl, Int32.add_zero]
  · rw [e, if_neg (by decide)]; split <;> rfl
theorem own_up (y x : Int32) (n : Int) (h : 0 ≤ y.toInt ∧ y.toInt ≤ n) (hn : n ≤ 10) : 0 ≤ (y + (x &&& 1)).toInt ∧ (y + (x &&& 1)).toInt ≤ n + 1 := by
  have h1 := own_bit x
  have h2 := c_iadd y (x &&& 1)
  have h3 := rng32 (y + (x &&& 1))
  omega
theorem pn0 : plainName "com/example/declination/declination/engine/Nsga2KeptCountsPinLaw" = true := by first | (simp [plainName, overriddenIn]; done) | decide +kernel
theorem d2_0 : decode method_3_code 0 = .ok (.iload_n 1, 1) := by decide +kernel
theorem d2_1 : decode method_3_code 1 = .ok (.iload_n 2, 1) := by decide +kernel
theorem d2_2 : decode method_3_code 2 = .ok (.if_icmp .lt 5, 3) := by decide +kernel
theorem d2_5 : decode method_3_code 5 = .ok (.iconst 1, 1) := by decide +kernel
theorem d2_6 : decode method_3_code 6 = .ok (.ireturn, 1) := by decide +kernel
theorem ef2g (m : MethodId) (x0 : Addr) (x1 : Int32) (x2 : Int32) (x3 : Int32) (x4 : Int32) (x5 : Int32) (x6 : Int32) : entryFrame m #[(.ref x0), (.int x1), (.int x2), (.int x3), (.int x4), (.int x5), (.int x6)] 8 = mkF m 0 #[.val (.ref x0), .val (.int x1), .val (.int x2), .val (.int x3), .val (.int x4), .val (.int x5), .val (.int x6), .unset] [] := by first | (simp [entryFrame, mkF, argsToLocals, Value.category]; done) | rfl
def Q2g (Z : State) (o1 : Addr) (k' : Int32) (ln : Int32) (sz : Int32) (ob : Int32) (io : Int32) (hf : Int32) (h0 : Heap) (n0 : Nat) (v : Option Value) (h : Heap) (L : List Loc) : Prop := v = some (.int 1) ∧ Fr n0 L ∧ h = h0
set_option maxRecDepth 65536 in
set_option maxHeartbeats 40000000 in
theorem rm2g (l : Launch) (Z : State) (a0 : Array Value) (hw : ∀ d ∈ tables_1, d.before a0 Z = true) (ws : List Jvm.Cond) (o1 : Addr) (k' : Int32) (ln : Int32) (sz : Int32) (ob : Int32) (io : Int32) (hf : Int32) (h0 : Heap) (n0 : Nat) (Z0 : n0 ≤ h0.size) (hge : ¬ k' < ln) :
    MetFree l (⟨"com/example/declination/declination/engine/Nsga2KeptCountsPinLaw", "slot", "([IIIIIII)Z"⟩ : MethodName) (head1 (Jvm.Cond.code (⟨"com/example/declination/declination/engine/Nsga2KeptCountsPinLaw", "slot", "([IIIIIII)Z"⟩ : MethodName) method_3_code 8 (some .boolean) :: ws) ({ frames := 0, cells := 0, slots := 0, locals := 0 } : Room)) (fun aa UU => aa = #[(.ref o1), (.int k'), (.int ln), (.int sz), (.int ob), (.int io), (.int hf)] ∧ Z.Warmed39 UU.vm ∧ UU.heap = h0) (fun _ _ _ _ _ => True) (fun _ UU oo UU' => ∃ vv LL, oo = .returned vv ∧ Q2g Z o1 k' ln sz ob io hf h0 n0 vv UU'.heap LL ∧ FrameEnd UU oo UU' LL ({ frames := 0, cells := 0, slots := 0, locals := 0 } : Room).cells ({ frames := 0, cells := 0, slots := 0, locals := 0 } : Room).slots) := by
  have W : ∀ {d : Jvm.Cond} (i : Nat), tables_1[i]? = some d → d.before a0 Z = true := fun i h => hw _ (List.mem_of_getElem? h)
  refine MetFree.of_bodySF (plainFor_of_name pn0) hisR ?_
  intro p e s m args below meth c s₁ Bd hml0 hP hK
  obtain ⟨rfl, hZ, hh⟩ := hP
  have hx := Bd.exec
  have hby := Bd.bytes
  have hml : c.maxLocals = 8 := hml0
  have hown : s.vm.findClass "com/example/declination/declination/engine/Nsga2KeptCountsPinLaw" = some m.cls := findClass_of_methodNamed Bd.named
  have hnm := (name_of_methodNamed Bd.named Bd.method).1
  have X0 : Stand p l e ({ frames := 0, cells := 0, slots := 0, locals := 0 } : Room) s m #[(.ref o1), (.int k'), (.int ln), (.int sz), (.int ob), (.int io), (.int hf)] below meth c s₁ [] 0 0 := Stand.of_body Bd
  have e0 : s₁.heap = h0 := by rw [← hh, Bd.state]; rfl
  have N0 := Fr.nil n0
  have pre0 : ∀ tt, Steps p.tables e below (s₁.setTop (mkF m 0 #[rv o1, iv k', iv ln, iv sz, iv ob, iv io, iv hf, .unset] [])) tt → Steps p.tables e below (s₁.setTop (entryFrame m #[(.ref o1), (.int k'), (.int ln), (.int sz), (.int ob), (.int io), (.int hf)] 8)) tt := fun tt kt => castTop (ef2g m o1 k' ln sz ob io hf) kt
  obtain ⟨ST, hST⟩ : ∃ z : State, z = s₁.setTop (mkF m 0 #[rv o1, iv k', iv ln, iv sz, iv ob, iv io, iv hf, .unset] []) := ⟨_, rfl⟩
  rw [← hST] at pre0
  have go101 : own_S p e below ST s₁ (mkF m 6 #[rv o1, iv k', iv ln, iv sz, iv ob, iv io, iv hf, .unset] [(.int (1 : Int32))]) := fun tt kt => (by
      rw [hST]
      show Steps p.tables e below (s₁.setTop (mkF m 0 #[rv o1, iv k', iv ln, iv sz, iv ob, iv io, iv hf, .unset] [])) _
      refine XS.iloadN X0.here hx rfl (hb hby d2_0) rfl ?_
      refine XS.iloadN X0.here hx rfl (hb hby d2_1) rfl ?_
      refine XS.icmpNo X0.here hx rfl (hb hby d2_2) rfl (flt hge).1 ?_
      refine XS.iconst X0.here hx rfl (hb hby d2_5) ?_
      exact kt)
  obtain ⟨fs, hr, hrun, hended, hW, hsame⟩ := X0.leave (v := some (.int (1 : Int32))) (fun h => by rw [Bd.returns] at h; cases h)
  refine ⟨_, _, pre0 _ (go101 _ ?_), hrun, hended, _, _, rfl, ?_, ⟨_, rfl⟩, hW, hsame.mono (by decide) (by decide)⟩
  · exact retN X0 hx (t := .boolean) Bd.returns (by simp) (hb hby d2_6) hr
  · show Q2g Z o1 k' ln sz ob io hf h0 n0 _ s₁.heap _
    rw [e0]
    exact ⟨rfl, N0, rfl⟩
theorem d2_7 : decode method_3_code 7 = .ok (.iload_n 3, 1) := by decide +kernel
theorem d2_8 : decode method_3_code 8 = .ok (.iconst 1, 1) := by decide +kernel
theorem d2_9 : decode method_3_code 9 = .ok (.ishr, 1) := by decide +kernel
theorem d2_10 : decode method_3_code 10 = .ok (.iload 5, 2) := by decide +kernel
theorem d2_12 : decode method_3_code 12 = .ok (.iconst 1, 1) := by decide +kernel
theorem d2_13 : decode method_3_code 13 = .ok (.if_icmp .ne 14, 3) := by decide +kernel
theorem d2_16 : decode method_3_code 16 = .ok (.iload 4, 2) := by decide +kernel
theorem d2_18 : decode method_3_code 18 = .ok (.iload 6, 2) := by decide +kernel
theorem d2_20 : decode method_3_code 20 = .ok (.if_icmp .ge 7, 3) := by decide +kernel
theorem d2_23 : decode method_3_code 23 = .ok (.iconst 1, 1) := by decide +kernel
theorem d2_24 : decode method_3_code 24 = .ok (.goto 4, 3) := by decide +kernel
theorem d2_27 : decode method_3_code 27 = .ok (.iconst 0, 1) := by decide +kernel
theorem d2_28 : decode method_3_code 28 = .ok (.iadd, 1) := by decide +kernel
theorem d2_29 : decode method_3_code 29 = .ok (.istore 7, 2) := by decide +kernel
theorem d2_31 : decode method_3_code 31 = .ok (.aload_n 0, 1) := by decide +kernel
theorem d2_32 : decode method_3_code 32 = .ok (.iload_n 1, 1) := by decide +kernel
theorem d2_33 : decode method_3_code 33 = .ok (.iaload, 1) := by decide +kernel
theorem d2_34 : decode method_3_code 34 = .ok (.iload 7, 2) := by decide +kernel
theorem d2_36 : decode method_3_code 36 = .ok (.if_icmp .ne 7, 3) := by decide +kernel
theorem d2_39 : decode method_3_code 39 = .ok (.iconst 1, 1) := by decide +kernel
theorem d2_40 : decode method_3_code 40 = .ok (.goto 4, 3) := by decide +kernel
theorem d2_44 : decode method_3_code 44 = .ok (.ireturn, 1) := by decide +kernel
theorem ef2l (m : MethodId) (x0 : Addr) (x1 : Int32) (x2 : Int32) (x3 : Int32) (x4 : Int32) (x5 : Int32) (x6 : Int32) : entryFrame m #[(.ref x0), (.int x1), (.int x2), (.int x3), (.int x4), (.int x5), (.int x6)] 8 = mkF m 0 #[.val (.ref x0), .val (.int x1), .val (.int x2), .val (.int x3), .val (.int x4), .val (.int x5), .val (.int x6), .unset] [] := by first | (simp [entryFrame, mkF, argsToLocals, Value.category]; done) | rfl
def Q2l (Z : State) (o1 : Addr) (k' : Int32) (ln : Int32) (sz : Int32) (ob : Int32) (io : Int32) (hf : Int32) (ka : ClassId) (vs : List Value) (dv : Value) (ek : Int32) (h0 : Heap) (n0 : Nat) (v : Option Value) (h : Heap) (L : List Loc) : Prop := v = some (.int 1) ∧ Fr n0 L ∧ h = h0
set_option maxRecDepth 65536 in
set_option maxHeartbeats 40000000 in
theorem rm2l (l : Launch) (Z : State) (a0 : Array Value) (hw : ∀ d ∈ tables_1, d.before a0 Z = true) (ws : List Jvm.Cond) (o1 : Addr) (k' : Int32) (ln : Int32) (sz : Int32) (ob : Int32) (io : Int32) (hf : Int32) (ka : ClassId) (vs : List Value) (dv : Value) (ek : Int32) (h0 : Heap) (n0 : Nat) (Z0 : n0 ≤ h0.size) (hlt : k' < ln) (hk0 : ¬ k' < 0) (Va : Arv Z h0 o1 ka .int ln vs dv) (hat : vs.getD (k').toNatClampNeg dv = .int ek) (hexp : ek = (sz >>> ((1 : Int32) &&& 31)) + own_inc ob hf io) :
    MetFree l (⟨"com/example/declination/declination/engine/Nsga2KeptCountsPinLaw", "slot", "([IIIIIII)Z"⟩ : MethodName) (head1 (Jvm.Cond.code (⟨"com/example/declination/declination/engine/Nsga2KeptCountsPinLaw", "slot", "([IIIIIII)Z"⟩ : MethodName) method_3_code 8 (some .boolean) :: ws) ({ frames := 0, cells := 0, slots := 0, locals := 0 } : Room)) (fun aa UU => aa = #[(.ref o1), (.int k'), (.int ln), (.int sz), (.int ob), (.int io), (.int hf)] ∧ Z.Warmed39 UU.vm ∧ UU.heap = h0) (fun _ _ _ _ _ => True) (fun _ UU oo UU' => ∃ vv LL, oo = .returned vv ∧ Q2l Z o1 k' ln sz ob io hf ka vs dv ek h0 n0 vv UU'.heap LL ∧ FrameEnd UU oo UU' LL ({ frames := 0, cells := 0, slots := 0, locals := 0 } : Room).cells ({ frames := 0, cells := 0, slots := 0, locals := 0 } : Room).slots) := by
  have W : ∀ {d : Jvm.Cond} (i : Nat), tables_1[i]? = some d → d.before a0 Z = true := fun i h => hw _ (List.mem_of_getElem? h)
  refine MetFree.of_bodySF (plainFor_of_name pn0) hisR ?_
  intro p e s m args below meth c s₁ Bd hml0 hP hK
  obtain ⟨rfl, hZ, hh⟩ := hP
  have hx := Bd.exec
  have hby := Bd.bytes
  have hml : c.maxLocals = 8 := hml0
  have hown : s.vm.findClass "com/example/declination/declination/engine/Nsga2KeptCountsPinLaw" = some m.cls := findClass_of_methodNamed Bd.named
  have hnm := (name_of_methodNamed Bd.named Bd.method).1
  have X0 : Stand p l e ({ frames := 0, cells := 0, slots := 0, locals := 0 } : Room) s m #[(.ref o1), (.int k'), (.int ln), (.int sz), (.int ob), (.int io), (.int hf)] below meth c s₁ [] 0 0 := Stand.of_body Bd
  have e0 : s₁.heap = h0 := by rw [← hh, Bd.state]; rfl
  have N0 := Fr.nil n0
  have pre0 : ∀ tt, Steps p.tables e below (s₁.setTop (mkF m 0 #[rv o1, iv k', iv ln, iv sz, iv ob, iv io, iv hf, .unset] [])) tt → Steps p.tables e below (s₁.setTop (entryFrame m #[(.ref o1), (.int k'), (.int ln), (.int sz), (.int ob), (.int io), (.int hf)] 8)) tt := fun tt kt => castTop (ef2l m o1 k' ln sz ob io hf) kt
  obtain ⟨ST, hST⟩ : ∃ z : State, z = s₁.setTop (mkF m 0 #[rv o1, iv k', iv ln, iv sz, iv ob, iv io, iv hf, .unset] []) := ⟨_, rfl⟩
  rw [← hST] at pre0
  have go102 : own_S p e below ST s₁ (mkF m 13 #[rv o1, iv k', iv ln, iv sz, iv ob, iv io, iv hf, .unset] [(.int (1 : Int32)), (.int io), (.int (sz >>> ((1 : Int32) &&& 31)))]) := fun tt kt => (by
      rw [hST]
      show Steps p.tables e below (s₁.setTop (mkF m 0 #[rv o1, iv k', iv ln, iv sz, iv ob, iv io, iv hf, .unset] [])) _
      refine XS.iloadN X0.here hx rfl (hb hby d2_0) rfl ?_
      refine XS.iloadN X0.here hx rfl (hb hby d2_1) rfl ?_
      refine XS.icmpYes X0.here hx rfl (pc0 := 2) (pc' := 7) rfl (hb hby d2_2) rfl (tlt hlt).1 (by decide) (by decide) ?_
      refine XS.iloadN X0.here hx rfl (hb hby d2_7) rfl ?_
      refine XS.iconst X0.here hx rfl (hb hby d2_8) ?_
      refine XS.ishr X0.here hx rfl (hb hby d2_9) rfl ?_
      show Steps p.tables e below (s₁.setTop (mkF m 10 #[rv o1, iv k', iv ln, iv sz, iv ob, iv io, iv hf, .unset] [(.int (sz >>> ((1 : Int32) &&& 31)))])) _
      refine XS.iload X0.here hx rfl (hb hby d2_10) rfl ?_
      refine XS.iconst X0.here hx rfl (hb hby d2_12) ?_
      exact kt)
  obtain ⟨v, hv, sg103⟩ : ∃ (v : Int32), v = (if io = (1 : Int32) then (if ob < hf then (1 : Int32) else (0 : Int32)) else (0 : Int32)) ∧ ∀ tt, Steps p.tables e below (s₁.setTop (mkF m 28 #[rv o1, iv k', iv ln, iv sz, iv ob, iv io, iv hf, .unset] [(.int v), (.int (sz >>> ((1 : Int32) &&& 31)))])) tt → Steps p.tables e below (s₁.setTop (mkF m 13 #[rv o1, iv k', iv ln, iv sz, iv ob, iv io, iv hf, .unset] [(.int (1 : Int32)), (.int io), (.int (sz >>> ((1 : Int32) &&& 31)))])) tt := by
    by_cases hd13_0 : io = (1 : Int32)
    · by_cases hd20_1 : ob < hf
      · refine ⟨_, ((if_pos hd13_0).trans (if_pos hd20_1)).symm, fun tt kt => ?_⟩
        show Steps p.tables e below (s₁.setTop (mkF m 13 #[rv o1, iv k', iv ln, iv sz, iv ob, iv io, iv hf, .unset] [(.int (1 : Int32)), (.int io), (.int (sz >>> ((1 : Int32) &&& 31)))])) _
        refine XS.icmpNo X0.here hx rfl (hb hby d2_13) rfl (teq hd13_0).2 ?_
        refine XS.iload X0.here hx rfl (hb hby d2_16) rfl ?_
        refine XS.iload X0.here hx rfl (hb hby d2_18) rfl ?_
        refine XS.icmpNo X0.here hx rfl (hb hby d2_20) rfl (tlt hd20_1).2.1 ?_
        refine XS.iconst X0.here hx rfl (hb hby d2_23) ?_
        refine XS.goto X0.here hx rfl (pc0 := 24) (pc' := 28) rfl (hb hby d2_24) (by decide) (by decide) ?_
        exact kt
      · refine ⟨_, ((if_pos hd13_0).trans (if_neg hd20_1)).symm, fun tt kt => ?_⟩
        show Steps p.tables e below (s₁.setTop (mkF m 13 #[rv o1, iv k', iv ln, iv sz, iv ob, iv io, iv hf, .unset] [(.int (1 : Int32)), (.int io), (.int (sz >>> ((1 : Int32) &&& 31)))])) _
        refine XS.icmpNo X0.here hx rfl (hb hby d2_13) rfl (teq hd13_0).2 ?_
        refine XS.iload X0.here hx rfl (hb hby d2_16) rfl ?_
        refine XS.iload X0.here hx rfl (hb hby d2_18) rfl ?_
        refine XS.icmpYes X0.here hx rfl (pc0 := 20) (pc' := 27) rfl (hb hby d2_20) rfl (flt hd20_1).2.1 (by decide) (by decide) ?_
        refine XS.iconst X0.here hx rfl (hb hby d2_27) ?_
        exact kt
    · refine ⟨_, (if_neg hd13_0).symm, fun tt kt => ?_⟩
      show Steps p.tables e below (s₁.setTop (mkF m 13 #[rv o1, iv k', iv ln, iv sz, iv ob, iv io, iv hf, .unset] [(.int (1 : Int32)), (.int io), (.int (sz >>> ((1 : Int32) &&& 31)))])) _
      refine XS.icmpYes X0.here hx rfl (pc0 := 13) (pc' := 27) rfl (hb hby d2_13) rfl (feq hd13_0).2 (by decide) (by decide) ?_
      refine XS.iconst X0.here hx rfl (hb hby d2_27) ?_
      exact kt
  have go104 : own_S p e below ST s₁ (mkF m 28 #[rv o1, iv k', iv ln, iv sz, iv ob, iv io, iv hf, .unset] [(.int v), (.int (sz >>> ((1 : Int32) &&& 31)))]) := fun tt kt => go102 tt (sg103 _ kt)
  have hq : ek = (sz >>> ((1 : Int32) &&& 31)) + v := by rw [hexp, hv]; rfl
  have go105 : own_S p e below ST s₁ (mkF m 33 #[rv o1, iv k', iv ln, iv sz, iv ob, iv io, iv hf, iv ((sz >>> ((1 : Int32) &&& 31)) + v)] [(.int k'), (.ref o1)]) := fun tt kt => go104 tt (by
      refine XS.iadd X0.here hx rfl (hb hby d2_28) rfl ?_
      refine XS.istore X0.here hx rfl (hb hby d2_29) rfl (l' := #[rv o1, iv k', iv ln, iv sz, iv ob, iv io, iv hf, iv ((sz >>> ((1 : Int32) &&& 31)) + v)]) rfl ?_
      refine XS.aloadN X0.here hx rfl (hb hby d2_31) rfl rfl ?_
      refine XS.iloadN X0.here hx rfl (hb hby d2_32) rfl ?_
      exact kt)
  obtain ⟨cl106, Ar106, q106, S106, M106, H106, G106⟩ := id Va
  have hin106 : ¬ (k' < 0 ∨ cl106.slots.size ≤ (k').toNatClampNeg) := inb_of S106 ⟨hk0, hlt⟩
  have hat106 : cl106.slots[(k').toNatClampNeg]? = some (.int ek) := H106.at hin106 hat
  have go107 : own_S p e below ST s₁ (mkF m 34 #[rv o1, iv k', iv ln, iv sz, iv ob, iv io, iv hf, iv ((sz >>> ((1 : Int32) &&& 31)) + v)] [(.int ek)]) := fun tt kt => go105 tt (by
      refine X0.iaload hx (j := k') (v := (.int ek)) (by rw [e0]; exact Ar106.1) (State.isArrayOf_alike hZ.alike Ar106.2.1) Ar106.2.2 hin106 hat106 (g := (mkF m 33 #[rv o1, iv k', iv ln, iv sz, iv ob, iv io, iv hf, iv ((sz >>> ((1 : Int32) &&& 31)) + v)] [(.int k'), (.ref o1)])) rfl rfl (hb hby d2_33) _ ?_
      exact kt)
  have go108 : own_S p e below ST s₁ (mkF m 36 #[rv o1, iv k', iv ln, iv sz, iv ob, iv io, iv hf, iv ((sz >>> ((1 : Int32) &&& 31)) + v)] [(.int ((sz >>> ((1 : Int32) &&& 31)) + v)), (.int ek)]) := fun tt kt => go107 tt (by
      refine XS.iload X0.here hx rfl (hb hby d2_34) rfl ?_
      exact kt)
  have go109 : own_S p e below ST s₁ (mkF m 44 #[rv o1, iv k', iv ln, iv sz, iv ob, iv io, iv hf, iv ((sz >>> ((1 : Int32) &&& 31)) + v)] [(.int (1 : Int32))]) := fun tt kt => go108 tt (by
      refine XS.icmpNo X0.here hx rfl (hb hby d2_36) rfl (teq hq).2 ?_
      refine XS.iconst X0.here hx rfl (hb hby d2_39) ?_
      refine XS.goto X0.here hx rfl (pc0 := 40) (pc' := 44) rfl (hb hby d2_40) (by decide) (by decide) ?_
      exact kt)
  obtain ⟨fs, hr, hrun, hended, hW, hsame⟩ := X0.leave (v := some (.int (1 : Int32))) (fun h => by rw [Bd.returns] at h; cases h)
  refine ⟨_, _, pre0 _ (go109 _ ?_), hrun, hended, _, _, rfl, ?_, ⟨_, rfl⟩, hW, hsame.mono (by decide) (by decide)⟩
  · exact retN X0 hx (t := .boolean) Bd.returns (by simp) (hb hby d2_44) hr
  · show Q2l Z o1 k' ln sz ob io hf ka vs dv ek h0 n0 _ s₁.heap _
    rw [e0]
    exact ⟨rfl, N0, rfl⟩
theorem pn28 : plainName "com/example/declination/declination/engine/Nsga2" = true := by first | (simp [plainName, overriddenIn]; done) | decide +kernel
theorem d1_0 : decode prog_6_method_6_code 0 = .ok (.iconst 0, 1) := by decide +kernel
theorem d1_1 : decode prog_6_method_6_code 1 = .ok (.istore_n 1, 1) := by decide +kernel
theorem d1_2 : decode prog_6_method_6_code 2 = .ok (.aload_n 0, 1) := by decide +kernel
theorem d1_3 : decode prog_6_method_6_code 3 = .ok (.astore_n 2, 1) := by decide +kernel
theorem d1_4 : decode prog_6_method_6_code 4 = .ok (.aload_n 2, 1) := by decide +kernel
theorem d1_5 : decode prog_6_method_6_code 5 = .ok (.arraylength, 1) := by decide +kernel
theorem d1_6 : decode prog_6_method_6_code 6 = .ok (.istore_n 3, 1) := by decide +kernel
theorem d1_7 : decode prog_6_method_6_code 7 = .ok (.iconst 0, 1) := by decide +kernel
theorem d1_8 : decode prog_6_method_6_code 8 = .ok (.istore 4, 2) := by decide +kernel
theorem d1_10 : decode prog_6_method_6_code 10 = .ok (.iload 4, 2) := by decide +kernel
theorem d1_12 : decode prog_6_method_6_code 12 = .ok (.iload_n 3, 1) := by decide +kernel
theorem d1_13 : decode prog_6_method_6_code 13 = .ok (.if_icmp .ge 22, 3) := by decide +kernel
theorem d1_35 : decode prog_6_method_6_code 35 = .ok (.aload_n 0, 1) := by decide +kernel
theorem d1_36 : decode prog_6_method_6_code 36 = .ok (.arraylength, 1) := by decide +kernel
theorem d1_37 : decode prog_6_method_6_code 37 = .ok (.newarray .int, 2) := by decide +kernel
theorem d1_39 : decode prog_6_method_6_code 39 = .ok (.astore_n 2, 1) := by decide +kernel
theorem d1_40 : decode prog_6_method_6_code 40 = .ok (.iconst 0, 1) := by decide +kernel
theorem d1_41 : decode prog_6_method_6_code 41 = .ok (.istore_n 3, 1) := by decide +kernel
theorem d1_42 : decode prog_6_method_6_code 42 = .ok (.iconst 0, 1) := by decide +kernel
theorem d1_43 : decode prog_6_method_6_code 43 = .ok (.istore 4, 2) := by decide +kernel
theorem d1_45 : decode prog_6_method_6_code 45 = .ok (.iload 4, 2) := by decide +kernel
theorem d1_47 : decode prog_6_method_6_code 47 = .ok (.aload_n 0, 1) := by decide +kernel
theorem d1_48 : decode prog_6_method_6_code 48 = .ok (.arraylength, 1) := by decide +kernel
theorem d1_49 : decode prog_6_method_6_code 49 = .ok (.if_icmp .ge 46, 3) := by decide +kernel
theorem d1_95 : decode prog_6_method_6_code 95 = .ok (.aload_n 2, 1) := by decide +kernel
theorem d1_96 : decode prog_6_method_6_code 96 = .ok (.areturn, 1) := by decide +kernel
theorem ef1k0 (m : MethodId) (x0 : Addr) : entryFrame m #[(.ref x0)] 6 = mkF m 0 #[.val (.ref x0), .unset, .unset, .unset, .unset, .unset] [] := by first | (simp [entryFrame, mkF, argsToLocals, Value.category]; done) | rfl
def Q1k0 (Z : State) (o1 : Addr) (ka : ClassId) (h0 : Heap) (n0 : Nat) (v : Option Value) (h : Heap) (L : List Loc) : Prop := ∃ (b : Addr) (kb : ClassId) (od  : Int32), v = some (.ref b) ∧ Fr n0 L ∧ Keep h0 h [] ∧ Arv Z h b kb .int (0 : Int32) [] (.int (0 : Int32)) ∧ od = (0 : Int32)
set_option maxRecDepth 65536 in
set_option maxHeartbeats 40000000 in
theorem rm1k0 (l : Launch) (Z : State) (a0 : Array Value) (hw : ∀ d ∈ tables_1, d.before a0 Z = true) (ws : List Jvm.Cond) (o1 : Addr) (ka : ClassId) (h0 : Heap) (n0 : Nat) (Z0 : n0 ≤ h0.size) (Va : Arv Z h0 o1 ka .int (0 : Int32) [] (.int (0 : Int32))) :
    MetFree l (⟨"com/example/declination/declination/engine/Nsga2", "keptCounts", "([I)[I"⟩ : MethodName) (head1 (Jvm.Cond.code (⟨"com/example/declination/declination/engine/Nsga2", "keptCounts", "([I)[I"⟩ : MethodName) prog_6_method_6_code 6 (some (.array .int)) :: ws) ({ frames := 0, cells := 1, slots := 0, locals := 0 } : Room)) (fun aa UU => aa = #[(.ref o1)] ∧ Z.Warmed39 UU.vm ∧ UU.heap = h0) (fun _ _ _ _ _ => True) (fun _ UU oo UU' => ∃ vv LL, oo = .returned vv ∧ Q1k0 Z o1 ka h0 n0 vv UU'.heap LL ∧ FrameEnd UU oo UU' LL ({ frames := 0, cells := 1, slots := 0, locals := 0 } : Room).cells ({ frames := 0, cells := 1, slots := 0, locals := 0 } : Room).slots) := by
  have W : ∀ {d : Jvm.Cond} (i : Nat), tables_1[i]? = some d → d.before a0 Z = true := fun i h => hw _ (List.mem_of_getElem? h)
  refine MetFree.of_bodySF (plainFor_of_name pn28) hisR ?_
  intro p e s m args below meth c s₁ Bd hml0 hP hK
  obtain ⟨rfl, hZ, hh⟩ := hP
  have hx := Bd.exec
  have hby := Bd.bytes
  have hml : c.maxLocals = 6 := hml0
  have hown : s.vm.findClass "com/example/declination/declination/engine/Nsga2" = some m.cls := findClass_of_methodNamed Bd.named
  have hnm := (name_of_methodNamed Bd.named Bd.method).1
  have X0 : Stand p l e ({ frames := 0, cells := 1, slots := 0, locals := 0 } : Room) s m #[(.ref o1)] below meth c s₁ [] 0 0 := Stand.of_body Bd
  have e0 : s₁.heap = h0 := by rw [← hh, Bd.state]; rfl
  have N0 := Fr.nil n0
  have pre0 : ∀ tt, Steps p.tables e below (s₁.setTop (mkF m 0 #[rv o1, .unset, .unset, .unset, .unset, .unset] [])) tt → Steps p.tables e below (s₁.setTop (entryFrame m #[(.ref o1)] 6)) tt := fun tt kt => castTop (ef1k0 m o1) kt
  obtain ⟨ST, hST⟩ : ∃ z : State, z = s₁.setTop (mkF m 0 #[rv o1, .unset, .unset, .unset, .unset, .unset] []) := ⟨_, rfl⟩
  rw [← hST] at pre0
  have KC0 : Keep h0 h0 [] := Keep.refl h0 []
  have go110 : own_S p e below ST s₁ (mkF m 5 #[rv o1, iv (0 : Int32), rv o1, .unset, .unset, .unset] [(.ref o1)]) := fun tt kt => (by
      rw [hST]
      show Steps p.tables e below (s₁.setTop (mkF m 0 #[rv o1, .unset, .unset, .unset, .unset, .unset] [])) _
      refine XS.iconst X0.here hx rfl (hb hby d1_0) ?_
      refine XS.istoreN X0.here hx rfl (hb hby d1_1) rfl (l' := #[rv o1, iv (0 : Int32), .unset, .unset, .unset, .unset]) rfl ?_
      refine XS.aloadN X0.here hx rfl (hb hby d1_2) rfl rfl ?_
      refine XS.astoreN X0.here hx rfl (hb hby d1_3) rfl rfl (l' := #[rv o1, iv (0 : Int32), rv o1, .unset, .unset, .unset]) rfl ?_
      refine XS.aloadN X0.here hx rfl (hb hby d1_4) rfl rfl ?_
      exact kt)
  obtain ⟨cl111, Ar111, q111, S111, M111, H111, G111⟩ := id Va
  have go112 : own_S p e below ST s₁ (mkF m 6 #[rv o1, iv (0 : Int32), rv o1, .unset, .unset, .unset] [(.int (0 : Int32))]) := fun tt kt => go110 tt (by
      refine X0.arraylength hx (by rw [e0]; exact Ar111.1) (State.isArrayOf_alike hZ.alike Ar111.2.1) (g := (mkF m 5 #[rv o1, iv (0 : Int32), rv o1, .unset, .unset, .unset] [(.ref o1)])) rfl rfl (hb hby d1_5) _ ?_
      rw [len_of S111 M111]
      exact kt)
  have go113 : own_S p e below ST s₁ (mkF m 35 #[rv o1, iv (0 : Int32), rv o1, iv (0 : Int32), iv (0 : Int32), .unset] []) := fun tt kt => go112 tt (by
      refine XS.istoreN X0.here hx rfl (hb hby d1_6) rfl (l' := #[rv o1, iv (0 : Int32), rv o1, iv (0 : Int32), .unset, .unset]) rfl ?_
      refine XS.iconst X0.here hx rfl (hb hby d1_7) ?_
      refine XS.istore X0.here hx rfl (hb hby d1_8) rfl (l' := #[rv o1, iv (0 : Int32), rv o1, iv (0 : Int32), iv (0 : Int32), .unset]) rfl ?_
      refine XS.iload X0.here hx rfl (hb hby d1_10) rfl ?_
      refine XS.iloadN X0.here hx rfl (hb hby d1_12) rfl ?_
      refine XS.icmpYes X0.here hx rfl (pc0 := 13) (pc' := 35) rfl (hb hby d1_13) rfl (flt (by decide : ¬ ((0 : Int32) < (0 : Int32)))).2.1 (by decide) (by decide) ?_
      exact kt)
  obtain ⟨od, hod⟩ : ∃ z : Int32, z = (0 : Int32) := ⟨_, rfl⟩
  have go114 : own_S p e below ST s₁ (mkF m 36 #[rv o1, iv (0 : Int32), rv o1, iv (0 : Int32), iv (0 : Int32), .unset] [(.ref o1)]) := fun tt kt => go113 tt (by
      refine XS.aloadN X0.here hx rfl (hb hby d1_35) rfl rfl ?_
      exact kt)
  obtain ⟨cl115, Ar115, q115, S115, M115, H115, G115⟩ := id Va
  have go116 : own_S p e below ST s₁ (mkF m 37 #[rv o1, iv (0 : Int32), rv o1, iv (0 : Int32), iv (0 : Int32), .unset] [(.int (0 : Int32))]) := fun tt kt => go114 tt (by
      refine X0.arraylength hx (by rw [e0]; exact Ar115.1) (State.isArrayOf_alike hZ.alike Ar115.2.1) (g := (mkF m 36 #[rv o1, iv (0 : Int32), rv o1, iv (0 : Int32), iv (0 : Int32), .unset] [(.ref o1)])) rfl rfl (hb hby d1_36) _ ?_
      rw [len_of S115 M115]
      exact kt)
  obtain ⟨b117, g117⟩ : ∃ z, z = h0.size := ⟨_, rfl⟩
  obtain ⟨T117, h117, k117, X117, e117, E117, A117, st117⟩ := newP X0 hx hZ (W 1 rfl) e0 (g := (mkF m 37 #[rv o1, iv (0 : Int32), rv o1, iv (0 : Int32), iv (0 : Int32), .unset] [(.int (0 : Int32))])) rfl (hb hby d1_37) rfl (by decide) (cap := 0) (by decide) (by decide) (by decide) (by decide)
  rw [← g117] at A117 st117
  have neo1_b117 : o1 ≠ b117 := Nat.ne_of_lt (Nat.lt_of_lt_of_le Va.lt (Nat.le_of_eq g117.symm))
  have ge_b117 : n0 ≤ b117 := Nat.le_trans Z0 (Nat.le_of_eq g117.symm)
  have sz_b117 : h0.size ≤ b117 := Nat.le_trans KC0.1 (Nat.le_of_eq g117.symm)
  have V117 : Arv Z h117 b117 k117 .int (0 : Int32) [] (.int (0 : Int32)) := (Arv.new A117 (by decide)).pad (pad_rep [] (.int (0 : Int32)) 0)
  have KC117 : Keep h0 h117 [] := KC0.ext E117
  have go118 : own_S p e below ST T117 (mkF m 39 #[rv o1, iv (0 : Int32), rv o1, iv (0 : Int32), iv (0 : Int32), .unset] [(.ref b117)]) := fun tt kt => go116 tt (st117 _ kt)
  have go119 : own_S p e below ST T117 (mkF m 45 #[rv o1, iv (0 : Int32), rv b117, iv (0 : Int32), iv (0 : Int32), .unset] []) := fun tt kt => go118 tt (by
      refine XS.astoreN X117.here hx rfl (hb hby d1_39) rfl rfl (l' := #[rv o1, iv (0 : Int32), rv b117, iv (0 : Int32), iv (0 : Int32), .unset]) rfl ?_
      refine XS.iconst X117.here hx rfl (hb hby d1_40) ?_
      refine XS.istoreN X117.here hx rfl (hb hby d1_41) rfl (l' := #[rv o1, iv (0 : Int32), rv b117, iv (0 : Int32), iv (0 : Int32), .unset]) rfl ?_
      refine XS.iconst X117.here hx rfl (hb hby d1_42) ?_
      refine XS.istore X117.here hx rfl (hb hby d1_43) rfl (l' := #[rv o1, iv (0 : Int32), rv b117, iv (0 : Int32), iv (0 : Int32), .unset]) rfl ?_
      exact kt)
  have go120 : own_S p e below ST T117 (mkF m 48 #[rv o1, iv (0 : Int32), rv b117, iv (0 : Int32), iv (0 : Int32), .unset] [(.ref o1), (.int (0 : Int32))]) := fun tt kt => go119 tt (by
      refine XS.iload X117.here hx rfl (hb hby d1_45) rfl ?_
      refine XS.aloadN X117.here hx rfl (hb hby d1_47) rfl rfl ?_
      exact kt)
  have f122 := (Va.ext E117)
  obtain ⟨cl121, Ar121, q121, S121, M121, H121, G121⟩ := id f122
  have go123 : own_S p e below ST T117 (mkF m 49 #[rv o1, iv (0 : Int32), rv b117, iv (0 : Int32), iv (0 : Int32), .unset] [(.int (0 : Int32)), (.int (0 : Int32))]) := fun tt kt => go120 tt (by
      refine X117.arraylength hx (by rw [e117]; exact Ar121.1) (State.isArrayOf_alike hZ.alike Ar121.2.1) (g := (mkF m 48 #[rv o1, iv (0 : Int32), rv b117, iv (0 : Int32), iv (0 : Int32), .unset] [(.ref o1), (.int (0 : Int32))])) rfl rfl (hb hby d1_48) _ ?_
      rw [len_of S121 M121]
      exact kt)
  have go124 : own_S p e below ST T117 (mkF m 96 #[rv o1, iv (0 : Int32), rv b117, iv (0 : Int32), iv (0 : Int32), .unset] [(.ref b117)]) := fun tt kt => go123 tt (by
      refine XS.icmpYes X117.here hx rfl (pc0 := 49) (pc' := 95) rfl (hb hby d1_49) rfl (flt (by decide : ¬ ((0 : Int32) < (0 : Int32)))).2.1 (by decide) (by decide) ?_
      refine XS.aloadN X117.here hx rfl (hb hby d1_95) rfl rfl ?_
      exact kt)
  obtain ⟨fs, hr, hrun, hended, hW, hsame⟩ := X117.leave (v := some (.ref b117)) (fun h => by rw [Bd.returns] at h; cases h)
  refine ⟨_, _, pre0 _ (go124 _ ?_), hrun, hended, _, _, rfl, ?_, ⟨_, rfl⟩, hW, hsame.mono (by decide) (by decide)⟩
  · exact retOut X117 hx Bd.returns rfl (Or.inr (Or.inr (Or.inr (Or.inr ⟨rfl, rfl, rfl⟩)))) (hb hby d1_96) hr
  · show Q1k0 Z o1 ka h0 n0 _ T117.heap _
    rw [e117]
    exact ⟨b117, k117, od, rfl, N0, KC117, V117, hod⟩
theorem d1_16 : decode prog_6_method_6_code 16 = .ok (.aload_n 2, 1) := by decide +kernel
theorem d1_17 : decode prog_6_method_6_code 17 = .ok (.iload 4, 2) := by decide +kernel
theorem d1_19 : decode prog_6_method_6_code 19 = .ok (.iaload, 1) := by decide +kernel
theorem d1_20 : decode prog_6_method_6_code 20 = .ok (.istore 5, 2) := by decide +kernel
theorem d1_22 : decode prog_6_method_6_code 22 = .ok (.iload_n 1, 1) := by decide +kernel
theorem d1_23 : decode prog_6_method_6_code 23 = .ok (.iload 5, 2) := by decide +kernel
theorem d1_25 : decode prog_6_method_6_code 25 = .ok (.iconst 2, 1) := by decide +kernel
theorem d1_26 : decode prog_6_method_6_code 26 = .ok (.irem, 1) := by decide +kernel
theorem d1_27 : decode prog_6_method_6_code 27 = .ok (.iadd, 1) := by decide +kernel
theorem d1_28 : decode prog_6_method_6_code 28 = .ok (.istore_n 1, 1) := by decide +kernel
theorem d1_29 : decode prog_6_method_6_code 29 = .ok (.iinc 4 1, 3) := by decide +kernel
theorem d1_32 : decode prog_6_method_6_code 32 = .ok (.goto (-22), 3) := by decide +kernel
theorem d1_52 : decode prog_6_method_6_code 52 = .ok (.aload_n 2, 1) := by decide +kernel
theorem d1_53 : decode prog_6_method_6_code 53 = .ok (.iload 4, 2) := by decide +kernel
theorem d1_55 : decode prog_6_method_6_code 55 = .ok (.aload_n 0, 1) := by decide +kernel
theorem d1_56 : decode prog_6_method_6_code 56 = .ok (.iload 4, 2) := by decide +kernel
theorem d1_58 : decode prog_6_method_6_code 58 = .ok (.iaload, 1) := by decide +kernel
theorem d1_59 : decode prog_6_method_6_code 59 = .ok (.iconst 2, 1) := by decide +kernel
theorem d1_60 : decode prog_6_method_6_code 60 = .ok (.idiv, 1) := by decide +kernel
theorem d1_61 : decode prog_6_method_6_code 61 = .ok (.iastore, 1) := by decide +kernel
theorem d1_62 : decode prog_6_method_6_code 62 = .ok (.aload_n 0, 1) := by decide +kernel
theorem d1_63 : decode prog_6_method_6_code 63 = .ok (.iload 4, 2) := by decide +kernel
theorem d1_65 : decode prog_6_method_6_code 65 = .ok (.iaload, 1) := by decide +kernel
theorem d1_66 : decode prog_6_method_6_code 66 = .ok (.iconst 2, 1) := by decide +kernel
theorem d1_67 : decode prog_6_method_6_code 67 = .ok (.irem, 1) := by decide +kernel
theorem d1_68 : decode prog_6_method_6_code 68 = .ok (.ifCond .eq 21, 3) := by decide +kernel
theorem d1_71 : decode prog_6_method_6_code 71 = .ok (.iload_n 3, 1) := by decide +kernel
theorem d1_72 : decode prog_6_method_6_code 72 = .ok (.iload_n 1, 1) := by decide +kernel
theorem d1_73 : decode prog_6_method_6_code 73 = .ok (.iconst 2, 1) := by decide +kernel
theorem d1_74 : decode prog_6_method_6_code 74 = .ok (.idiv, 1) := by decide +kernel
theorem d1_75 : decode prog_6_method_6_code 75 = .ok (.if_icmp .ge 11, 3) := by decide +kernel
theorem d1_78 : decode prog_6_method_6_code 78 = .ok (.aload_n 2, 1) := by decide +kernel
theorem d1_79 : decode prog_6_method_6_code 79 = .ok (.iload 4, 2) := by decide +kernel
theorem d1_81 : decode prog_6_method_6_code 81 = .ok (.dup2, 1) := by decide +kernel
theorem d1_82 : decode prog_6_method_6_code 82 = .ok (.iaload, 1) := by decide +kernel
theorem d1_83 : decode prog_6_method_6_code 83 = .ok (.iconst 1, 1) := by decide +kernel
theorem d1_84 : decode prog_6_method_6_code 84 = .ok (.iadd, 1) := by decide +kernel
theorem d1_85 : decode prog_6_method_6_code 85 = .ok (.iastore, 1) := by decide +kernel
theorem d1_86 : decode prog_6_method_6_code 86 = .ok (.iinc 3 1, 3) := by decide +kernel
theorem d1_89 : decode prog_6_method_6_code 89 = .ok (.iinc 4 1, 3) := by decide +kernel
theorem d1_92 : decode prog_6_method_6_code 92 = .ok (.goto (-47), 3) := by decide +kernel
theorem ef1k1 (m : MethodId) (x0 : Addr) : entryFrame m #[(.ref x0)] 6 = mkF m 0 #[.val (.ref x0), .unset, .unset, .unset, .unset, .unset] [] := by first | (simp [entryFrame, mkF, argsToLocals, Value.category]; done) | rfl
def Q1k1 (Z : State) (o1 : Addr) (ka : ClassId) (s0 : Int32) (h0 : Heap) (n0 : Nat) (v : Option Value) (h : Heap) (L : List Loc) : Prop := ∃ (b : Addr) (kb : ClassId) (od e0 q1 : Int32), v = some (.ref b) ∧ Fr n0 L ∧ Keep h0 h [] ∧ Arv Z h b kb .int (1 : Int32) [(.int e0)] (.int (0 : Int32)) ∧ od = ((0 : Int32) + (s0 % (2 : Int32))) ∧ e0 = own_val (od / (2 : Int32)) (0 : Int32) s0 ∧ q1 = own_seen (od / (2 : Int32)) (0 : Int32) s0
set_option maxRecDepth 65536 in
set_option maxHeartbeats 40000000 in
theorem rm1k1 (l : Launch) (Z : State) (a0 : Array Value) (hw : ∀ d ∈ tables_1, d.before a0 Z = true) (ws : List Jvm.Cond) (o1 : Addr) (ka : ClassId) (s0 : Int32) (h0 : Heap) (n0 : Nat) (Z0 : n0 ≤ h0.size) (Va : Arv Z h0 o1 ka .int (1 : Int32) [(.int s0)] (.int (0 : Int32))) :
    MetFree l (⟨"com/example/declination/declination/engine/Nsga2", "keptCounts", "([I)[I"⟩ : MethodName) (head1 (Jvm.Cond.code (⟨"com/example/declination/declination/engine/Nsga2", "keptCounts", "([I)[I"⟩ : MethodName) prog_6_method_6_code 6 (some (.array .int)) :: ws) ({ frames := 0, cells := 1, slots := 1, locals := 0 } : Room)) (fun aa UU => aa = #[(.ref o1)] ∧ Z.Warmed39 UU.vm ∧ UU.heap = h0) (fun _ _ _ _ _ => True) (fun _ UU oo UU' => ∃ vv LL, oo = .returned vv ∧ Q1k1 Z o1 ka s0 h0 n0 vv UU'.heap LL ∧ FrameEnd UU oo UU' LL ({ frames := 0, cells := 1, slots := 1, locals := 0 } : Room).cells ({ frames := 0, cells := 1, slots := 1, locals := 0 } : Room).slots) := by
  have W : ∀ {d : Jvm.Cond} (i : Nat), tables_1[i]? = some d → d.before a0 Z = true := fun i h => hw _ (List.mem_of_getElem? h)
  refine MetFree.of_bodySF (plainFor_of_name pn28) hisR ?_
  intro p e s m args below meth c s₁ Bd hml0 hP hK
  obtain ⟨rfl, hZ, hh⟩ := hP
  have hx := Bd.exec
  have hby := Bd.bytes
  have hml : c.maxLocals = 6 := hml0
  have hown : s.vm.findClass "com/example/declination/declination/engine/Nsga2" = some m.cls := findClass_of_methodNamed Bd.named
  have hnm := (name_of_methodNamed Bd.named Bd.method).1
  have X0 : Stand p l e ({ frames := 0, cells := 1, slots := 1, locals := 0 } : Room) s m #[(.ref o1)] below meth c s₁ [] 0 0 := Stand.of_body Bd
  have e0 : s₁.heap = h0 := by rw [← hh, Bd.state]; rfl
  have N0 := Fr.nil n0
  have pre0 : ∀ tt, Steps p.tables e below (s₁.setTop (mkF m 0 #[rv o1, .unset, .unset, .unset, .unset, .unset] [])) tt → Steps p.tables e below (s₁.setTop (entryFrame m #[(.ref o1)] 6)) tt := fun tt kt => castTop (ef1k1 m o1) kt
  obtain ⟨ST, hST⟩ : ∃ z : State, z = s₁.setTop (mkF m 0 #[rv o1, .unset, .unset, .unset, .unset, .unset] []) := ⟨_, rfl⟩
  rw [← hST] at pre0
  have KC0 : Keep h0 h0 [] := Keep.refl h0 []
  have go125 : own_S p e below ST s₁ (mkF m 5 #[rv o1, iv (0 : Int32), rv o1, .unset, .unset, .unset] [(.ref o1)]) := fun tt kt => (by
      rw [hST]
      show Steps p.tables e below (s₁.setTop (mkF m 0 #[rv o1, .unset, .unset, .unset, .unset, .unset] [])) _
      refine XS.iconst X0.here hx rfl (hb hby d1_0) ?_
      refine XS.istoreN X0.here hx rfl (hb hby d1_1) rfl (l' := #[rv o1, iv (0 : Int32), .unset, .unset, .unset, .unset]) rfl ?_
      refine XS.aloadN X0.here hx rfl (hb hby d1_2) rfl rfl ?_
      refine XS.astoreN X0.here hx rfl (hb hby d1_3) rfl rfl (l' := #[rv o1, iv (0 : Int32), rv o1, .unset, .unset, .unset]) rfl ?_
      refine XS.aloadN X0.here hx rfl (hb hby d1_4) rfl rfl ?_
      exact kt)
  obtain ⟨cl126, Ar126, q126, S126, M126, H126, G126⟩ := id Va
  have go127 : own_S p e below ST s₁ (mkF m 6 #[rv o1, iv (0 : Int32), rv o1, .unset, .unset, .unset] [(.int (1 : Int32))]) := fun tt kt => go125 tt (by
      refine X0.arraylength hx (by rw [e0]; exact Ar126.1) (State.isArrayOf_alike hZ.alike Ar126.2.1) (g := (mkF m 5 #[rv o1, iv (0 : Int32), rv o1, .unset, .unset, .unset] [(.ref o1)])) rfl rfl (hb hby d1_5) _ ?_
      rw [len_of S126 M126]
      exact kt)
  have go128 : own_S p e below ST s₁ (mkF m 19 #[rv o1, iv (0 : Int32), rv o1, iv (1 : Int32), iv (0 : Int32), .unset] [(.int (0 : Int32)), (.ref o1)]) := fun tt kt => go127 tt (by
      refine XS.istoreN X0.here hx rfl (hb hby d1_6) rfl (l' := #[rv o1, iv (0 : Int32), rv o1, iv (1 : Int32), .unset, .unset]) rfl ?_
      refine XS.iconst X0.here hx rfl (hb hby d1_7) ?_
      refine XS.istore X0.here hx rfl (hb hby d1_8) rfl (l' := #[rv o1, iv (0 : Int32), rv o1, iv (1 : Int32), iv (0 : Int32), .unset]) rfl ?_
      refine XS.iload X0.here hx rfl (hb hby d1_10) rfl ?_
      refine XS.iloadN X0.here hx rfl (hb hby d1_12) rfl ?_
      refine XS.icmpNo X0.here hx rfl (hb hby d1_13) rfl (tlt (by decide : (0 : Int32) < (1 : Int32))).2.1 ?_
      show Steps p.tables e below (s₁.setTop (mkF m 16 #[rv o1, iv (0 : Int32), rv o1, iv (1 : Int32), iv (0 : Int32), .unset] [])) _
      refine XS.aloadN X0.here hx rfl (hb hby d1_16) rfl rfl ?_
      refine XS.iload X0.here hx rfl (hb hby d1_17) rfl ?_
      exact kt)
  obtain ⟨cl129, Ar129, q129, S129, M129, H129, G129⟩ := id Va
  have hin129 : ¬ ((0 : Int32) < 0 ∨ cl129.slots.size ≤ ((0 : Int32)).toNatClampNeg) := inb_of S129 ⟨by decide, by decide⟩
  have hat129 : cl129.slots[((0 : Int32)).toNatClampNeg]? = some (.int s0) := H129.at hin129 rfl
  have go130 : own_S p e below ST s₁ (mkF m 20 #[rv o1, iv (0 : Int32), rv o1, iv (1 : Int32), iv (0 : Int32), .unset] [(.int s0)]) := fun tt kt => go128 tt (by
      refine X0.iaload hx (j := (0 : Int32)) (v := (.int s0)) (by rw [e0]; exact Ar129.1) (State.isArrayOf_alike hZ.alike Ar129.2.1) Ar129.2.2 hin129 hat129 (g := (mkF m 19 #[rv o1, iv (0 : Int32), rv o1, iv (1 : Int32), iv (0 : Int32), .unset] [(.int (0 : Int32)), (.ref o1)])) rfl rfl (hb hby d1_19) _ ?_
      exact kt)
  have go131 : own_S p e below ST s₁ (mkF m 35 #[rv o1, iv ((0 : Int32) + (s0 % (2 : Int32))), rv o1, iv (1 : Int32), iv (1 : Int32), iv s0] []) := fun tt kt => go130 tt (by
      refine XS.istore X0.here hx rfl (hb hby d1_20) rfl (l' := #[rv o1, iv (0 : Int32), rv o1, iv (1 : Int32), iv (0 : Int32), iv s0]) rfl ?_
      refine XS.iloadN X0.here hx rfl (hb hby d1_22) rfl ?_
      refine XS.iload X0.here hx rfl (hb hby d1_23) rfl ?_
      refine XS.iconst X0.here hx rfl (hb hby d1_25) ?_
      refine iremM (g := (mkF m 26 #[rv o1, iv (0 : Int32), rv o1, iv (1 : Int32), iv (0 : Int32), iv s0] [(.int (2 : Int32)), (.int s0), (.int (0 : Int32))])) X0 hx rfl (hb hby d1_26) rfl (by decide) ?_
      refine XS.iadd X0.here hx rfl (hb hby d1_27) rfl ?_
      show Steps p.tables e below (s₁.setTop (mkF m 28 #[rv o1, iv (0 : Int32), rv o1, iv (1 : Int32), iv (0 : Int32), iv s0] [(.int ((0 : Int32) + (s0 % (2 : Int32))))])) _
      refine XS.istoreN X0.here hx rfl (hb hby d1_28) rfl (l' := #[rv o1, iv ((0 : Int32) + (s0 % (2 : Int32))), rv o1, iv (1 : Int32), iv (0 : Int32), iv s0]) rfl ?_
      refine XS.iinc X0.here hx rfl (hb hby d1_29) rfl (l' := #[rv o1, iv ((0 : Int32) + (s0 % (2 : Int32))), rv o1, iv (1 : Int32), iv (1 : Int32), iv s0]) rfl ?_
      refine XS.goto X0.here hx rfl (pc0 := 32) (pc' := 10) rfl (hb hby d1_32) (by decide) (by decide) ?_
      refine XS.iload X0.here hx rfl (hb hby d1_10) rfl ?_
      refine XS.iloadN X0.here hx rfl (hb hby d1_12) rfl ?_
      refine XS.icmpYes X0.here hx rfl (pc0 := 13) (pc' := 35) rfl (hb hby d1_13) rfl (flt (by decide : ¬ ((1 : Int32) < (1 : Int32)))).2.1 (by decide) (by decide) ?_
      exact kt)
  obtain ⟨od, hod⟩ : ∃ z : Int32, z = ((0 : Int32) + (s0 % (2 : Int32))) := ⟨_, rfl⟩
  rw [← hod] at go131
  have go132 : own_S p e below ST s₁ (mkF m 36 #[rv o1, iv od, rv o1, iv (1 : Int32), iv (1 : Int32), iv s0] [(.ref o1)]) := fun tt kt => go131 tt (by
      refine XS.aloadN X0.here hx rfl (hb hby d1_35) rfl rfl ?_
      exact kt)
  obtain ⟨cl133, Ar133, q133, S133, M133, H133, G133⟩ := id Va
  have go134 : own_S p e below ST s₁ (mkF m 37 #[rv o1, iv od, rv o1, iv (1 : Int32), iv (1 : Int32), iv s0] [(.int (1 : Int32))]) := fun tt kt => go132 tt (by
      refine X0.arraylength hx (by rw [e0]; exact Ar133.1) (State.isArrayOf_alike hZ.alike Ar133.2.1) (g := (mkF m 36 #[rv o1, iv od, rv o1, iv (1 : Int32), iv (1 : Int32), iv s0] [(.ref o1)])) rfl rfl (hb hby d1_36) _ ?_
      rw [len_of S133 M133]
      exact kt)
  obtain ⟨b135, g135⟩ : ∃ z, z = h0.size := ⟨_, rfl⟩
  obtain ⟨T135, h135, k135, X135, e135, E135, A135, st135⟩ := newP X0 hx hZ (W 1 rfl) e0 (g := (mkF m 37 #[rv o1, iv od, rv o1, iv (1 : Int32), iv (1 : Int32), iv s0] [(.int (1 : Int32))])) rfl (hb hby d1_37) rfl (by decide) (cap := 1) (by decide) (by decide) (by decide) (by decide)
  rw [← g135] at A135 st135
  have neo1_b135 : o1 ≠ b135 := Nat.ne_of_lt (Nat.lt_of_lt_of_le Va.lt (Nat.le_of_eq g135.symm))
  have ge_b135 : n0 ≤ b135 := Nat.le_trans Z0 (Nat.le_of_eq g135.symm)
  have sz_b135 : h0.size ≤ b135 := Nat.le_trans KC0.1 (Nat.le_of_eq g135.symm)
  have V135 : Arv Z h135 b135 k135 .int (1 : Int32) [(.int (0 : Int32))] (.int (0 : Int32)) := (Arv.new A135 (by decide)).pad (pad_rep [] (.int (0 : Int32)) 1)
  have KC135 : Keep h0 h135 [] := KC0.ext E135
  have go136 : own_S p e below ST T135 (mkF m 39 #[rv o1, iv od, rv o1, iv (1 : Int32), iv (1 : Int32), iv s0] [(.ref b135)]) := fun tt kt => go134 tt (st135 _ kt)
  have go137 : own_S p e below ST T135 (mkF m 45 #[rv o1, iv od, rv b135, iv (0 : Int32), iv (0 : Int32), iv s0] []) := fun tt kt => go136 tt (by
      refine XS.astoreN X135.here hx rfl (hb hby d1_39) rfl rfl (l' := #[rv o1, iv od, rv b135, iv (1 : Int32), iv (1 : Int32), iv s0]) rfl ?_
      refine XS.iconst X135.here hx rfl (hb hby d1_40) ?_
      refine XS.istoreN X135.here hx rfl (hb hby d1_41) rfl (l' := #[rv o1, iv od, rv b135, iv (0 : Int32), iv (1 : Int32), iv s0]) rfl ?_
      refine XS.iconst X135.here hx rfl (hb hby d1_42) ?_
      refine XS.istore X135.here hx rfl (hb hby d1_43) rfl (l' := #[rv o1, iv od, rv b135, iv (0 : Int32), iv (0 : Int32), iv s0]) rfl ?_
      exact kt)
  have go138 : own_S p e below ST T135 (mkF m 48 #[rv o1, iv od, rv b135, iv (0 : Int32), iv (0 : Int32), iv s0] [(.ref o1), (.int (0 : Int32))]) := fun tt kt => go137 tt (by
      refine XS.iload X135.here hx rfl (hb hby d1_45) rfl ?_
      refine XS.aloadN X135.here hx rfl (hb hby d1_47) rfl rfl ?_
      exact kt)
  have f140 := (Va.ext E135)
  obtain ⟨cl139, Ar139, q139, S139, M139, H139, G139⟩ := id f140
  have go141 : own_S p e below ST T135 (mkF m 49 #[rv o1, iv od, rv b135, iv (0 : Int32), iv (0 : Int32), iv s0] [(.int (1 : Int32)), (.int (0 : Int32))]) := fun tt kt => go138 tt (by
      refine X135.arraylength hx (by rw [e135]; exact Ar139.1) (State.isArrayOf_alike hZ.alike Ar139.2.1) (g := (mkF m 48 #[rv o1, iv od, rv b135, iv (0 : Int32), iv (0 : Int32), iv s0] [(.ref o1), (.int (0 : Int32))])) rfl rfl (hb hby d1_48) _ ?_
      rw [len_of S139 M139]
      exact kt)
  have go142 : own_S p e below ST T135 (mkF m 58 #[rv o1, iv od, rv b135, iv (0 : Int32), iv (0 : Int32), iv s0] [(.int (0 : Int32)), (.ref o1), (.int (0 : Int32)), (.ref b135)]) := fun tt kt => go141 tt (by
      refine XS.icmpNo X135.here hx rfl (hb hby d1_49) rfl (tlt (by decide : (0 : Int32) < (1 : Int32))).2.1 ?_
      refine XS.aloadN X135.here hx rfl (hb hby d1_52) rfl rfl ?_
      refine XS.iload X135.here hx rfl (hb hby d1_53) rfl ?_
      refine XS.aloadN X135.here hx rfl (hb hby d1_55) rfl rfl ?_
      refine XS.iload X135.here hx rfl (hb hby d1_56) rfl ?_
      exact kt)
  obtain ⟨cl143, Ar143, q143, S143, M143, H143, G143⟩ := id f140
  have hin143 : ¬ ((0 : Int32) < 0 ∨ cl143.slots.size ≤ ((0 : Int32)).toNatClampNeg) := inb_of S143 ⟨by decide, by decide⟩
  have hat143 : cl143.slots[((0 : Int32)).toNatClampNeg]? = some (.int s0) := H143.at hin143 rfl
  have go144 : own_S p e below ST T135 (mkF m 59 #[rv o1, iv od, rv b135, iv (0 : Int32), iv (0 : Int32), iv s0] [(.int s0), (.int (0 : Int32)), (.ref b135)]) := fun tt kt => go142 tt (by
      refine X135.iaload hx (j := (0 : Int32)) (v := (.int s0)) (by rw [e135]; exact Ar143.1) (State.isArrayOf_alike hZ.alike Ar143.2.1) Ar143.2.2 hin143 hat143 (g := (mkF m 58 #[rv o1, iv od, rv b135, iv (0 : Int32), iv (0 : Int32), iv s0] [(.int (0 : Int32)), (.ref o1), (.int (0 : Int32)), (.ref b135)])) rfl rfl (hb hby d1_58) _ ?_
      exact kt)
  have go145 : own_S p e below ST T135 (mkF m 61 #[rv o1, iv od, rv b135, iv (0 : Int32), iv (0 : Int32), iv s0] [(.int (s0 / (2 : Int32))), (.int (0 : Int32)), (.ref b135)]) := fun tt kt => go144 tt (by
      refine XS.iconst X135.here hx rfl (hb hby d1_59) ?_
      refine XS.idiv X135.here hx rfl (hb hby d1_60) rfl (by decide) ?_
      exact kt)
  obtain ⟨cl146, Ar146, q146, S146, M146, H146, G146⟩ := id V135
  have hin146 : ¬ ((0 : Int32) < 0 ∨ cl146.slots.size ≤ ((0 : Int32)).toNatClampNeg) := inb_of S146 ⟨by decide, by decide⟩
  obtain ⟨T146, h146, X146, e146, W146, st146⟩ := stI X135 hx hZ e135 Ar146 (j := (0 : Int32)) hin146 (g := (mkF m 61 #[rv o1, iv od, rv b135, iv (0 : Int32), iv (0 : Int32), iv s0] [(.int (s0 / (2 : Int32))), (.int (0 : Int32)), (.ref b135)])) rfl rfl (hb hby d1_61)
  have V146 : Arv Z h146 b135 k135 .int (1 : Int32) [(.int (s0 / (2 : Int32)))] (.int (0 : Int32)) := Arv.set Ar146 q146 S146 M146 H146 G146 rfl W146 0 rfl (Nat.le_of_ble_eq_true rfl)
  have N146 := Fr.snoc X146 N0 ge_b135
  have KC146 : Keep h0 h146 [] := KC135.wr W146 (Or.inr sz_b135)
  have go147 : own_S p e below ST T146 (mkF m 62 #[rv o1, iv od, rv b135, iv (0 : Int32), iv (0 : Int32), iv s0] []) := fun tt kt => go145 tt (st146 _ kt)
  have go148 : own_S p e below ST T146 (mkF m 65 #[rv o1, iv od, rv b135, iv (0 : Int32), iv (0 : Int32), iv s0] [(.int (0 : Int32)), (.ref o1)]) := fun tt kt => go147 tt (by
      refine XS.aloadN X146.here hx rfl (hb hby d1_62) rfl rfl ?_
      refine XS.iload X146.here hx rfl (hb hby d1_63) rfl ?_
      exact kt)
  have f150 := (f140.other W146 neo1_b135)
  obtain ⟨cl149, Ar149, q149, S149, M149, H149, G149⟩ := id f150
  have hin149 : ¬ ((0 : Int32) < 0 ∨ cl149.slots.size ≤ ((0 : Int32)).toNatClampNeg) := inb_of S149 ⟨by decide, by decide⟩
  have hat149 : cl149.slots[((0 : Int32)).toNatClampNeg]? = some (.int s0) := H149.at hin149 rfl
  have go151 : own_S p e below ST T146 (mkF m 66 #[rv o1, iv od, rv b135, iv (0 : Int32), iv (0 : Int32), iv s0] [(.int s0)]) := fun tt kt => go148 tt (by
      refine X146.iaload hx (j := (0 : Int32)) (v := (.int s0)) (by rw [e146]; exact Ar149.1) (State.isArrayOf_alike hZ.alike Ar149.2.1) Ar149.2.2 hin149 hat149 (g := (mkF m 65 #[rv o1, iv od, rv b135, iv (0 : Int32), iv (0 : Int32), iv s0] [(.int (0 : Int32)), (.ref o1)])) rfl rfl (hb hby d1_65) _ ?_
      exact kt)
  have go152 : own_S p e below ST T146 (mkF m 68 #[rv o1, iv od, rv b135, iv (0 : Int32), iv (0 : Int32), iv s0] [(.int (s0 % (2 : Int32)))]) := fun tt kt => go151 tt (by
      refine XS.iconst X146.here hx rfl (hb hby d1_66) ?_
      refine iremM (g := (mkF m 67 #[rv o1, iv od, rv b135, iv (0 : Int32), iv (0 : Int32), iv s0] [(.int (2 : Int32)), (.int s0)])) X146 hx rfl (hb hby d1_67) rfl (by decide) ?_
      exact kt)
  have zs153 := (Nat.le_trans (Nat.le_trans Z0 E135.1) (Keep.of_wr W146).1)
  obtain ⟨T167, h167, L167, q1, e0, X167, e167, N167, K167, c167_0, hq1, he0, sg167⟩ : ∃ (T167 : State) (h167 : Heap) (L167 : List Loc) (q1 : Int32) (e0 : Int32), Stand p l e ({ frames := 0, cells := 1, slots := 1, locals := 0 } : Room) s m #[(.ref o1)] below meth c T167 L167 (0 + 1) (0 + 1) ∧ T167.heap = h167 ∧ Fr n0 L167 ∧ Keep h146 h167 [b135] ∧ Arv Z h167 b135 k135 .int (1 : Int32) [(.int e0)] (.int (0 : Int32)) ∧ q1 = (if (s0 % (2 : Int32)) = (0 : Int32) then (0 : Int32) else (if (0 : Int32) < (od / (2 : Int32)) then (1 : Int32) else (1 : Int32))) ∧ e0 = (if (s0 % (2 : Int32)) = (0 : Int32) then (s0 / (2 : Int32)) else (if (0 : Int32) < (od / (2 : Int32)) then ((s0 / (2 : Int32)) + (1 : Int32)) else (s0 / (2 : Int32)))) ∧ ∀ tt, Steps p.tables e below (T167.setTop (mkF m 89 #[rv o1, iv od, rv b135, iv q1, iv (0 : Int32), iv s0] [])) tt → Steps p.tables e below (T146.setTop (mkF m 68 #[rv o1, iv od, rv b135, iv (0 : Int32), iv (0 : Int32), iv s0] [(.int (s0 % (2 : Int32)))])) tt := by
    by_cases hj68_0 : (s0 % (2 : Int32)) = (0 : Int32)
    · have go154 : own_S p e below (T146.setTop (mkF m 68 #[rv o1, iv od, rv b135, iv (0 : Int32), iv (0 : Int32), iv s0] [(.int (s0 % (2 : Int32)))])) T146 (mkF m 89 #[rv o1, iv od, rv b135, iv (0 : Int32), iv (0 : Int32), iv s0] []) := fun tt kt => (fun (tt : State) (kt : Steps p.tables e below (T146.setTop (mkF m 68 #[rv o1, iv od, rv b135, iv (0 : Int32), iv (0 : Int32), iv s0] [(.int (s0 % (2 : Int32)))])) tt) => kt) tt (by
          refine XS.ifYes X146.here hx rfl (pc0 := 68) (pc' := 89) rfl (hb hby d1_68) rfl ((if0 _ _).trans (teq hj68_0).1) (by decide) (by decide) ?_
          exact kt)
      exact ⟨T146, h146, _, (0 : Int32), (s0 / (2 : Int32)), X146, e146, N146, (Keep.refl h146 [b135]), V146, (if_pos hj68_0).symm, (if_pos hj68_0).symm, go154⟩
    · have go155 : own_S p e below (T146.setTop (mkF m 68 #[rv o1, iv od, rv b135, iv (0 : Int32), iv (0 : Int32), iv s0] [(.int (s0 % (2 : Int32)))])) T146 (mkF m 71 #[rv o1, iv od, rv b135, iv (0 : Int32), iv (0 : Int32), iv s0] []) := fun tt kt => (fun (tt : State) (kt : Steps p.tables e below (T146.setTop (mkF m 68 #[rv o1, iv od, rv b135, iv (0 : Int32), iv (0 : Int32), iv s0] [(.int (s0 % (2 : Int32)))])) tt) => kt) tt (by
          refine XS.ifNo X146.here hx rfl (hb hby d1_68) rfl ((if0 _ _).trans (feq hj68_0).1) ?_
          exact kt)
      have go156 : own_S p e below (T146.setTop (mkF m 68 #[rv o1, iv od, rv b135, iv (0 : Int32), iv (0 : Int32), iv s0] [(.int (s0 % (2 : Int32)))])) T146 (mkF m 75 #[rv o1, iv od, rv b135, iv (0 : Int32), iv (0 : Int32), iv s0] [(.int (od / (2 : Int32))), (.int (0 : Int32))]) := fun tt kt => go155 tt (by
          refine XS.iloadN X146.here hx rfl (hb hby d1_71) rfl ?_
          refine XS.iloadN X146.here hx rfl (hb hby d1_72) rfl ?_
          refine XS.iconst X146.here hx rfl (hb hby d1_73) ?_
          refine XS.idiv X146.here hx rfl (hb hby d1_74) rfl (by decide) ?_
          exact kt)
      by_cases hj75_1 : (0 : Int32) < (od / (2 : Int32))
      · have go157 : own_S p e below (T146.setTop (mkF m 68 #[rv o1, iv od, rv b135, iv (0 : Int32), iv (0 : Int32), iv s0] [(.int (s0 % (2 : Int32)))])) T146 (mkF m 78 #[rv o1, iv od, rv b135, iv (0 : Int32), iv (0 : Int32), iv s0] []) := fun tt kt => go156 tt (by
            refine XS.icmpNo X146.here hx rfl (hb hby d1_75) rfl (tlt hj75_1).2.1 ?_
            exact kt)
        have go158 : own_S p e below (T146.setTop (mkF m 68 #[rv o1, iv od, rv b135, iv (0 : Int32), iv (0 : Int32), iv s0] [(.int (s0 % (2 : Int32)))])) T146 (mkF m 82 #[rv o1, iv od, rv b135, iv (0 : Int32), iv (0 : Int32), iv s0] [(.int (0 : Int32)), (.ref b135), (.int (0 : Int32)), (.ref b135)]) := fun tt kt => go157 tt (by
            refine XS.aloadN X146.here hx rfl (hb hby d1_78) rfl rfl ?_
            refine XS.iload X146.here hx rfl (hb hby d1_79) rfl ?_
            refine XT.dup2 X146.here hx rfl (hb hby d1_81) rfl rfl rfl ?_
            exact kt)
        obtain ⟨cl159, Ar159, q159, S159, M159, H159, G159⟩ := id V146
        have hin159 : ¬ ((0 : Int32) < 0 ∨ cl159.slots.size ≤ ((0 : Int32)).toNatClampNeg) := inb_of S159 ⟨by decide, by decide⟩
        have hat159 : cl159.slots[((0 : Int32)).toNatClampNeg]? = some (.int (s0 / (2 : Int32))) := H159.at hin159 rfl
        have go160 : own_S p e below (T146.setTop (mkF m 68 #[rv o1, iv od, rv b135, iv (0 : Int32), iv (0 : Int32), iv s0] [(.int (s0 % (2 : Int32)))])) T146 (mkF m 83 #[rv o1, iv od, rv b135, iv (0 : Int32), iv (0 : Int32), iv s0] [(.int (s0 / (2 : Int32))), (.int (0 : Int32)), (.ref b135)]) := fun tt kt => go158 tt (by
            refine X146.iaload hx (j := (0 : Int32)) (v := (.int (s0 / (2 : Int32)))) (by rw [e146]; exact Ar159.1) (State.isArrayOf_alike hZ.alike Ar159.2.1) Ar159.2.2 hin159 hat159 (g := (mkF m 82 #[rv o1, iv od, rv b135, iv (0 : Int32), iv (0 : Int32), iv s0] [(.int (0 : Int32)), (.ref b135), (.int (0 : Int32)), (.ref b135)])) rfl rfl (hb hby d1_82) _ ?_
            exact kt)
        have go161 : own_S p e below (T146.setTop (mkF m 68 #[rv o1, iv od, rv b135, iv (0 : Int32), iv (0 : Int32), iv s0] [(.int (s0 % (2 : Int32)))])) T146 (mkF m 85 #[rv o1, iv od, rv b135, iv (0 : Int32), iv (0 : Int32), iv s0] [(.int ((s0 / (2 : Int32)) + (1 : Int32))), (.int (0 : Int32)), (.ref b135)]) := fun tt kt => go160 tt (by
            refine XS.iconst X146.here hx rfl (hb hby d1_83) ?_
            refine XS.iadd X146.here hx rfl (hb hby d1_84) rfl ?_
            exact kt)
        obtain ⟨cl162, Ar162, q162, S162, M162, H162, G162⟩ := id V146
        have hin162 : ¬ ((0 : Int32) < 0 ∨ cl162.slots.size ≤ ((0 : Int32)).toNatClampNeg) := inb_of S162 ⟨by decide, by decide⟩
        obtain ⟨T162, h162, X162, e162, W162, st162⟩ := stI X146 hx hZ e146 Ar162 (j := (0 : Int32)) hin162 (g := (mkF m 85 #[rv o1, iv od, rv b135, iv (0 : Int32), iv (0 : Int32), iv s0] [(.int ((s0 / (2 : Int32)) + (1 : Int32))), (.int (0 : Int32)), (.ref b135)])) rfl rfl (hb hby d1_85)
        have V162 : Arv Z h162 b135 k135 .int (1 : Int32) [(.int ((s0 / (2 : Int32)) + (1 : Int32)))] (.int (0 : Int32)) := Arv.set Ar162 q162 S162 M162 H162 G162 rfl W162 0 rfl (Nat.le_of_ble_eq_true rfl)
        have N162 := Fr.snoc X162 N146 ge_b135
        have kj162 : Keep h146 h162 [b135] := (Keep.refl h146 [b135]).wr W162 (Or.inl (List.mem_of_getElem? (i := 0) rfl))
        have KC162 : Keep h0 h162 [] := KC146.wr W162 (Or.inr sz_b135)
        have go163 : own_S p e below (T146.setTop (mkF m 68 #[rv o1, iv od, rv b135, iv (0 : Int32), iv (0 : Int32), iv s0] [(.int (s0 % (2 : Int32)))])) T162 (mkF m 86 #[rv o1, iv od, rv b135, iv (0 : Int32), iv (0 : Int32), iv s0] []) := fun tt kt => go161 tt (st162 _ kt)
        have go164 : own_S p e below (T146.setTop (mkF m 68 #[rv o1, iv od, rv b135, iv (0 : Int32), iv (0 : Int32), iv s0] [(.int (s0 % (2 : Int32)))])) T162 (mkF m 89 #[rv o1, iv od, rv b135, iv (1 : Int32), iv (0 : Int32), iv s0] []) := fun tt kt => go163 tt (by
            refine XS.iinc X162.here hx rfl (hb hby d1_86) rfl (l' := #[rv o1, iv od, rv b135, iv (1 : Int32), iv (0 : Int32), iv s0]) rfl ?_
            exact kt)
        exact ⟨T162, h162, _, (1 : Int32), ((s0 / (2 : Int32)) + (1 : Int32)), X162, e162, N162, kj162, V162, ((if_neg hj68_0).trans (if_pos hj75_1)).symm, ((if_neg hj68_0).trans (if_pos hj75_1)).symm, go164⟩
      · have go165 : own_S p e below (T146.setTop (mkF m 68 #[rv o1, iv od, rv b135, iv (0 : Int32), iv (0 : Int32), iv s0] [(.int (s0 % (2 : Int32)))])) T146 (mkF m 86 #[rv o1, iv od, rv b135, iv (0 : Int32), iv (0 : Int32), iv s0] []) := fun tt kt => go156 tt (by
            refine XS.icmpYes X146.here hx rfl (pc0 := 75) (pc' := 86) rfl (hb hby d1_75) rfl (flt hj75_1).2.1 (by decide) (by decide) ?_
            exact kt)
        have go166 : own_S p e below (T146.setTop (mkF m 68 #[rv o1, iv od, rv b135, iv (0 : Int32), iv (0 : Int32), iv s0] [(.int (s0 % (2 : Int32)))])) T146 (mkF m 89 #[rv o1, iv od, rv b135, iv (1 : Int32), iv (0 : Int32), iv s0] []) := fun tt kt => go165 tt (by
            refine XS.iinc X146.here hx rfl (hb hby d1_86) rfl (l' := #[rv o1, iv od, rv b135, iv (1 : Int32), iv (0 : Int32), iv s0]) rfl ?_
            exact kt)
        exact ⟨T146, h146, _, (1 : Int32), (s0 / (2 : Int32)), X146, e146, N146, (Keep.refl h146 [b135]), V146, ((if_neg hj68_0).trans (if_neg hj75_1)).symm, ((if_neg hj68_0).trans (if_neg hj75_1)).symm, go166⟩
  have KC167 : Keep h0 h167 [] := KC146.trans K167 (allS (Or.inr sz_b135) all0)
  have go168 : own_S p e below ST T167 (mkF m 89 #[rv o1, iv od, rv b135, iv q1, iv (0 : Int32), iv s0] []) := fun tt kt => go152 tt (sg167 _ kt)
  have go169 : own_S p e below ST T167 (mkF m 45 #[rv o1, iv od, rv b135, iv q1, iv (1 : Int32), iv s0] []) := fun tt kt => go168 tt (by
      refine XS.iinc X167.here hx rfl (hb hby d1_89) rfl (l' := #[rv o1, iv od, rv b135, iv q1, iv (1 : Int32), iv s0]) rfl ?_
      refine XS.goto X167.here hx rfl (pc0 := 92) (pc' := 45) rfl (hb hby d1_92) (by decide) (by decide) ?_
      exact kt)
  have go170 : own_S p e below ST T167 (mkF m 48 #[rv o1, iv od, rv b135, iv q1, iv (1 : Int32), iv s0] [(.ref o1), (.int (1 : Int32))]) := fun tt kt => go169 tt (by
      refine XS.iload X167.here hx rfl (hb hby d1_45) rfl ?_
      refine XS.aloadN X167.here hx rfl (hb hby d1_47) rfl rfl ?_
      exact kt)
  have f172 := (f150.keep K167 (ninS neo1_b135 nin0))
  obtain ⟨cl171, Ar171, q171, S171, M171, H171, G171⟩ := id f172
  have go173 : own_S p e below ST T167 (mkF m 49 #[rv o1, iv od, rv b135, iv q1, iv (1 : Int32), iv s0] [(.int (1 : Int32)), (.int (1 : Int32))]) := fun tt kt => go170 tt (by
      refine X167.arraylength hx (by rw [e167]; exact Ar171.1) (State.isArrayOf_alike hZ.alike Ar171.2.1) (g := (mkF m 48 #[rv o1, iv od, rv b135, iv q1, iv (1 : Int32), iv s0] [(.ref o1), (.int (1 : Int32))])) rfl rfl (hb hby d1_48) _ ?_
      rw [len_of S171 M171]
      exact kt)
  have go174 : own_S p e below ST T167 (mkF m 96 #[rv o1, iv od, rv b135, iv q1, iv (1 : Int32), iv s0] [(.ref b135)]) := fun tt kt => go173 tt (by
      refine XS.icmpYes X167.here hx rfl (pc0 := 49) (pc' := 95) rfl (hb hby d1_49) rfl (flt (by decide : ¬ ((1 : Int32) < (1 : Int32)))).2.1 (by decide) (by decide) ?_
      refine XS.aloadN X167.here hx rfl (hb hby d1_95) rfl rfl ?_
      exact kt)
  obtain ⟨fs, hr, hrun, hended, hW, hsame⟩ := X167.leave (v := some (.ref b135)) (fun h => by rw [Bd.returns] at h; cases h)
  refine ⟨_, _, pre0 _ (go174 _ ?_), hrun, hended, _, _, rfl, ?_, ⟨_, rfl⟩, hW, hsame.mono (by decide) (by decide)⟩
  · exact retOut X167 hx Bd.returns rfl (Or.inr (Or.inr (Or.inr (Or.inr ⟨rfl, rfl, rfl⟩)))) (hb hby d1_96) hr
  · show Q1k1 Z o1 ka s0 h0 n0 _ T167.heap _
    rw [e167]
    exact ⟨b135, k135, od, e0, q1, rfl, N167, KC167, c167_0, hod, he0, hq1⟩
theorem ef1k2 (m : MethodId) (x0 : Addr) : entryFrame m #[(.ref x0)] 6 = mkF m 0 #[.val (.ref x0), .unset, .unset, .unset, .unset, .unset] [] := by first | (simp [entryFrame, mkF, argsToLocals, Value.category]; done) | rfl
def Q1k2 (Z : State) (o1 : Addr) (ka : ClassId) (s0 : Int32) (s1 : Int32) (h0 : Heap) (n0 : Nat) (v : Option Value) (h : Heap) (L : List Loc) : Prop := ∃ (b : Addr) (kb : ClassId) (od e0 e1 q1 q2 : Int32), v = some (.ref b) ∧ Fr n0 L ∧ Keep h0 h [] ∧ Arv Z h b kb .int (2 : Int32) [(.int e0), (.int e1)] (.int (0 : Int32)) ∧ od = (((0 : Int32) + (s0 % (2 : Int32))) + (s1 % (2 : Int32))) ∧ e0 = own_val (od / (2 : Int32)) (0 : Int32) s0 ∧ q1 = own_seen (od / (2 : Int32)) (0 : Int32) s0 ∧ e1 = own_val (od / (2 : Int32)) q1 s1 ∧ q2 = own_seen (od / (2 : Int32)) q1 s1
set_option maxRecDepth 65536 in
set_option maxHeartbeats 40000000 in
theorem rm1k2 (l : Launch) (Z : State) (a0 : Array Value) (hw : ∀ d ∈ tables_1, d.before a0 Z = true) (ws : List Jvm.Cond) (o1 : Addr) (ka : ClassId) (s0 : Int32) (s1 : Int32) (h0 : Heap) (n0 : Nat) (Z0 : n0 ≤ h0.size) (Va : Arv Z h0 o1 ka .int (2 : Int32) [(.int s0), (.int s1)] (.int (0 : Int32))) :
    MetFree l (⟨"com/example/declination/declination/engine/Nsga2", "keptCounts", "([I)[I"⟩ : MethodName) (head1 (Jvm.Cond.code (⟨"com/example/declination/declination/engine/Nsga2", "keptCounts", "([I)[I"⟩ : MethodName) prog_6_method_6_code 6 (some (.array .int)) :: ws) ({ frames := 0, cells := 1, slots := 2, locals := 0 } : Room)) (fun aa UU => aa = #[(.ref o1)] ∧ Z.Warmed39 UU.vm ∧ UU.heap = h0) (fun _ _ _ _ _ => True) (fun _ UU oo UU' => ∃ vv LL, oo = .returned vv ∧ Q1k2 Z o1 ka s0 s1 h0 n0 vv UU'.heap LL ∧ FrameEnd UU oo UU' LL ({ frames := 0, cells := 1, slots := 2, locals := 0 } : Room).cells ({ frames := 0, cells := 1, slots := 2, locals := 0 } : Room).slots) := by
  have W : ∀ {d : Jvm.Cond} (i : Nat), tables_1[i]? = some d → d.before a0 Z = true := fun i h => hw _ (List.mem_of_getElem? h)
  refine MetFree.of_bodySF (plainFor_of_name pn28) hisR ?_
  intro p e s m args below meth c s₁ Bd hml0 hP hK
  obtain ⟨rfl, hZ, hh⟩ := hP
  have hx := Bd.exec
  have hby := Bd.bytes
  have hml : c.maxLocals = 6 := hml0
  have hown : s.vm.findClass "com/example/declination/declination/engine/Nsga2" = some m.cls := findClass_of_methodNamed Bd.named
  have hnm := (name_of_methodNamed Bd.named Bd.method).1
  have X0 : Stand p l e ({ frames := 0, cells := 1, slots := 2, locals := 0 } : Room) s m #[(.ref o1)] below meth c s₁ [] 0 0 := Stand.of_body Bd
  have e0 : s₁.heap = h0 := by rw [← hh, Bd.state]; rfl
  have N0 := Fr.nil n0
  have pre0 : ∀ tt, Steps p.tables e below (s₁.setTop (mkF m 0 #[rv o1, .unset, .unset, .unset, .unset, .unset] [])) tt → Steps p.tables e below (s₁.setTop (entryFrame m #[(.ref o1)] 6)) tt := fun tt kt => castTop (ef1k2 m o1) kt
  obtain ⟨ST, hST⟩ : ∃ z : State, z = s₁.setTop (mkF m 0 #[rv o1, .unset, .unset, .unset, .unset, .unset] []) := ⟨_, rfl⟩
  rw [← hST] at pre0
  have KC0 : Keep h0 h0 [] := Keep.refl h0 []
  have go175 : own_S p e below ST s₁ (mkF m 5 #[rv o1, iv (0 : Int32), rv o1, .unset, .unset, .unset] [(.ref o1)]) := fun tt kt => (by
      rw [hST]
      show Steps p.tables e below (s₁.setTop (mkF m 0 #[rv o1, .unset, .unset, .unset, .unset, .unset] [])) _
      refine XS.iconst X0.here hx rfl (hb hby d1_0) ?_
      refine XS.istoreN X0.here hx rfl (hb hby d1_1) rfl (l' := #[rv o1, iv (0 : Int32), .unset, .unset, .unset, .unset]) rfl ?_
      refine XS.aloadN X0.here hx rfl (hb hby d1_2) rfl rfl ?_
      refine XS.astoreN X0.here hx rfl (hb hby d1_3) rfl rfl (l' := #[rv o1, iv (0 : Int32), rv o1, .unset, .unset, .unset]) rfl ?_
      refine XS.aloadN X0.here hx rfl (hb hby d1_4) rfl rfl ?_
      exact kt)
  obtain ⟨cl176, Ar176, q176, S176, M176, H176, G176⟩ := id Va
  have go177 : own_S p e below ST s₁ (mkF m 6 #[rv o1, iv (0 : Int32), rv o1, .unset, .unset, .unset] [(.int (2 : Int32))]) := fun tt kt => go175 tt (by
      refine X0.arraylength hx (by rw [e0]; exact Ar176.1) (State.isArrayOf_alike hZ.alike Ar176.2.1) (g := (mkF m 5 #[rv o1, iv (0 : Int32), rv o1, .unset, .unset, .unset] [(.ref o1)])) rfl rfl (hb hby d1_5) _ ?_
      rw [len_of S176 M176]
      exact kt)
  have go178 : own_S p e below ST s₁ (mkF m 19 #[rv o1, iv (0 : Int32), rv o1, iv (2 : Int32), iv (0 : Int32), .unset] [(.int (0 : Int32)), (.ref o1)]) := fun tt kt => go177 tt (by
      refine XS.istoreN X0.here hx rfl (hb hby d1_6) rfl (l' := #[rv o1, iv (0 : Int32), rv o1, iv (2 : Int32), .unset, .unset]) rfl ?_
      refine XS.iconst X0.here hx rfl (hb hby d1_7) ?_
      refine XS.istore X0.here hx rfl (hb hby d1_8) rfl (l' := #[rv o1, iv (0 : Int32), rv o1, iv (2 : Int32), iv (0 : Int32), .unset]) rfl ?_
      refine XS.iload X0.here hx rfl (hb hby d1_10) rfl ?_
      refine XS.iloadN X0.here hx rfl (hb hby d1_12) rfl ?_
      refine XS.icmpNo X0.here hx rfl (hb hby d1_13) rfl (tlt (by decide : (0 : Int32) < (2 : Int32))).2.1 ?_
      show Steps p.tables e below (s₁.setTop (mkF m 16 #[rv o1, iv (0 : Int32), rv o1, iv (2 : Int32), iv (0 : Int32), .unset] [])) _
      refine XS.aloadN X0.here hx rfl (hb hby d1_16) rfl rfl ?_
      refine XS.iload X0.here hx rfl (hb hby d1_17) rfl ?_
      exact kt)
  obtain ⟨cl179, Ar179, q179, S179, M179, H179, G179⟩ := id Va
  have hin179 : ¬ ((0 : Int32) < 0 ∨ cl179.slots.size ≤ ((0 : Int32)).toNatClampNeg) := inb_of S179 ⟨by decide, by decide⟩
  have hat179 : cl179.slots[((0 : Int32)).toNatClampNeg]? = some (.int s0) := H179.at hin179 rfl
  have go180 : own_S p e below ST s₁ (mkF m 20 #[rv o1, iv (0 : Int32), rv o1, iv (2 : Int32), iv (0 : Int32), .unset] [(.int s0)]) := fun tt kt => go178 tt (by
      refine X0.iaload hx (j := (0 : Int32)) (v := (.int s0)) (by rw [e0]; exact Ar179.1) (State.isArrayOf_alike hZ.alike Ar179.2.1) Ar179.2.2 hin179 hat179 (g := (mkF m 19 #[rv o1, iv (0 : Int32), rv o1, iv (2 : Int32), iv (0 : Int32), .unset] [(.int (0 : Int32)), (.ref o1)])) rfl rfl (hb hby d1_19) _ ?_
      exact kt)
  have go181 : own_S p e below ST s₁ (mkF m 19 #[rv o1, iv ((0 : Int32) + (s0 % (2 : Int32))), rv o1, iv (2 : Int32), iv (1 : Int32), iv s0] [(.int (1 : Int32)), (.ref o1)]) := fun tt kt => go180 tt (by
      refine XS.istore X0.here hx rfl (hb hby d1_20) rfl (l' := #[rv o1, iv (0 : Int32), rv o1, iv (2 : Int32), iv (0 : Int32), iv s0]) rfl ?_
      refine XS.iloadN X0.here hx rfl (hb hby d1_22) rfl ?_
      refine XS.iload X0.here hx rfl (hb hby d1_23) rfl ?_
      refine XS.iconst X0.here hx rfl (hb hby d1_25) ?_
      refine iremM (g := (mkF m 26 #[rv o1, iv (0 : Int32), rv o1, iv (2 : Int32), iv (0 : Int32), iv s0] [(.int (2 : Int32)), (.int s0), (.int (0 : Int32))])) X0 hx rfl (hb hby d1_26) rfl (by decide) ?_
      refine XS.iadd X0.here hx rfl (hb hby d1_27) rfl ?_
      show Steps p.tables e below (s₁.setTop (mkF m 28 #[rv o1, iv (0 : Int32), rv o1, iv (2 : Int32), iv (0 : Int32), iv s0] [(.int ((0 : Int32) + (s0 % (2 : Int32))))])) _
      refine XS.istoreN X0.here hx rfl (hb hby d1_28) rfl (l' := #[rv o1, iv ((0 : Int32) + (s0 % (2 : Int32))), rv o1, iv (2 : Int32), iv (0 : Int32), iv s0]) rfl ?_
      refine XS.iinc X0.here hx rfl (hb hby d1_29) rfl (l' := #[rv o1, iv ((0 : Int32) + (s0 % (2 : Int32))), rv o1, iv (2 : Int32), iv (1 : Int32), iv s0]) rfl ?_
      refine XS.goto X0.here hx rfl (pc0 := 32) (pc' := 10) rfl (hb hby d1_32) (by decide) (by decide) ?_
      refine XS.iload X0.here hx rfl (hb hby d1_10) rfl ?_
      refine XS.iloadN X0.here hx rfl (hb hby d1_12) rfl ?_
      refine XS.icmpNo X0.here hx rfl (hb hby d1_13) rfl (tlt (by decide : (1 : Int32) < (2 : Int32))).2.1 ?_
      show Steps p.tables e below (s₁.setTop (mkF m 16 #[rv o1, iv ((0 : Int32) + (s0 % (2 : Int32))), rv o1, iv (2 : Int32), iv (1 : Int32), iv s0] [])) _
      refine XS.aloadN X0.here hx rfl (hb hby d1_16) rfl rfl ?_
      refine XS.iload X0.here hx rfl (hb hby d1_17) rfl ?_
      exact kt)
  obtain ⟨cl182, Ar182, q182, S182, M182, H182, G182⟩ := id Va
  have hin182 : ¬ ((1 : Int32) < 0 ∨ cl182.slots.size ≤ ((1 : Int32)).toNatClampNeg) := inb_of S182 ⟨by decide, by decide⟩
  have hat182 : cl182.slots[((1 : Int32)).toNatClampNeg]? = some (.int s1) := H182.at hin182 rfl
  have go183 : own_S p e below ST s₁ (mkF m 20 #[rv o1, iv ((0 : Int32) + (s0 % (2 : Int32))), rv o1, iv (2 : Int32), iv (1 : Int32), iv s0] [(.int s1)]) := fun tt kt => go181 tt (by
      refine X0.iaload hx (j := (1 : Int32)) (v := (.int s1)) (by rw [e0]; exact Ar182.1) (State.isArrayOf_alike hZ.alike Ar182.2.1) Ar182.2.2 hin182 hat182 (g := (mkF m 19 #[rv o1, iv ((0 : Int32) + (s0 % (2 : Int32))), rv o1, iv (2 : Int32), iv (1 : Int32), iv s0] [(.int (1 : Int32)), (.ref o1)])) rfl rfl (hb hby d1_19) _ ?_
      exact kt)
  have go184 : own_S p e below ST s₁ (mkF m 35 #[rv o1, iv (((0 : Int32) + (s0 % (2 : Int32))) + (s1 % (2 : Int32))), rv o1, iv (2 : Int32), iv (2 : Int32), iv s1] []) := fun tt kt => go183 tt (by
      refine XS.istore X0.here hx rfl (hb hby d1_20) rfl (l' := #[rv o1, iv ((0 : Int32) + (s0 % (2 : Int32))), rv o1, iv (2 : Int32), iv (1 : Int32), iv s1]) rfl ?_
      refine XS.iloadN X0.here hx rfl (hb hby d1_22) rfl ?_
      refine XS.iload X0.here hx rfl (hb hby d1_23) rfl ?_
      refine XS.iconst X0.here hx rfl (hb hby d1_25) ?_
      refine iremM (g := (mkF m 26 #[rv o1, iv ((0 : Int32) + (s0 % (2 : Int32))), rv o1, iv (2 : Int32), iv (1 : Int32), iv s1] [(.int (2 : Int32)), (.int s1), (.int ((0 : Int32) + (s0 % (2 : Int32))))])) X0 hx rfl (hb hby d1_26) rfl (by decide) ?_
      refine XS.iadd X0.here hx rfl (hb hby d1_27) rfl ?_
      show Steps p.tables e below (s₁.setTop (mkF m 28 #[rv o1, iv ((0 : Int32) + (s0 % (2 : Int32))), rv o1, iv (2 : Int32), iv (1 : Int32), iv s1] [(.int (((0 : Int32) + (s0 % (2 : Int32))) + (s1 % (2 : Int32))))])) _
      refine XS.istoreN X0.here hx rfl (hb hby d1_28) rfl (l' := #[rv o1, iv (((0 : Int32) + (s0 % (2 : Int32))) + (s1 % (2 : Int32))), rv o1, iv (2 : Int32), iv (1 : Int32), iv s1]) rfl ?_
      refine XS.iinc X0.here hx rfl (hb hby d1_29) rfl (l' := #[rv o1, iv (((0 : Int32) + (s0 % (2 : Int32))) + (s1 % (2 : Int32))), rv o1, iv (2 : Int32), iv (2 : Int32), iv s1]) rfl ?_
      refine XS.goto X0.here hx rfl (pc0 := 32) (pc' := 10) rfl (hb hby d1_32) (by decide) (by decide) ?_
      refine XS.iload X0.here hx rfl (hb hby d1_10) rfl ?_
      refine XS.iloadN X0.here hx rfl (hb hby d1_12) rfl ?_
      refine XS.icmpYes X0.here hx rfl (pc0 := 13) (pc' := 35) rfl (hb hby d1_13) rfl (flt (by decide : ¬ ((2 : Int32) < (2 : Int32)))).2.1 (by decide) (by decide) ?_
      exact kt)
  obtain ⟨od, hod⟩ : ∃ z : Int32, z = (((0 : Int32) + (s0 % (2 : Int32))) + (s1 % (2 : Int32))) := ⟨_, rfl⟩
  rw [← hod] at go184
  have go185 : own_S p e below ST s₁ (mkF m 36 #[rv o1, iv od, rv o1, iv (2 : Int32), iv (2 : Int32), iv s1] [(.ref o1)]) := fun tt kt => go184 tt (by
      refine XS.aloadN X0.here hx rfl (hb hby d1_35) rfl rfl ?_
      exact kt)
  obtain ⟨cl186, Ar186, q186, S186, M186, H186, G186⟩ := id Va
  have go187 : own_S p e below ST s₁ (mkF m 37 #[rv o1, iv od, rv o1, iv (2 : Int32), iv (2 : Int32), iv s1] [(.int (2 : Int32))]) := fun tt kt => go185 tt (by
      refine X0.arraylength hx (by rw [e0]; exact Ar186.1) (State.isArrayOf_alike hZ.alike Ar186.2.1) (g := (mkF m 36 #[rv o1, iv od, rv o1, iv (2 : Int32), iv (2 : Int32), iv s1] [(.ref o1)])) rfl rfl (hb hby d1_36) _ ?_
      rw [len_of S186 M186]
      exact kt)
  obtain ⟨b188, g188⟩ : ∃ z, z = h0.size := ⟨_, rfl⟩
  obtain ⟨T188, h188, k188, X188, e188, E188, A188, st188⟩ := newP X0 hx hZ (W 1 rfl) e0 (g := (mkF m 37 #[rv o1, iv od, rv o1, iv (2 : Int32), iv (2 : Int32), iv s1] [(.int (2 : Int32))])) rfl (hb hby d1_37) rfl (by decide) (cap := 2) (by decide) (by decide) (by decide) (by decide)
  rw [← g188] at A188 st188
  have neo1_b188 : o1 ≠ b188 := Nat.ne_of_lt (Nat.lt_of_lt_of_le Va.lt (Nat.le_of_eq g188.symm))
  have ge_b188 : n0 ≤ b188 := Nat.le_trans Z0 (Nat.le_of_eq g188.symm)
  have sz_b188 : h0.size ≤ b188 := Nat.le_trans KC0.1 (Nat.le_of_eq g188.symm)
  have V188 : Arv Z h188 b188 k188 .int (2 : Int32) [(.int (0 : Int32)), (.int (0 : Int32))] (.int (0 : Int32)) := (Arv.new A188 (by decide)).pad (pad_rep [] (.int (0 : Int32)) 2)
  have KC188 : Keep h0 h188 [] := KC0.ext E188
  have go189 : own_S p e below ST T188 (mkF m 39 #[rv o1, iv od, rv o1, iv (2 : Int32), iv (2 : Int32), iv s1] [(.ref b188)]) := fun tt kt => go187 tt (st188 _ kt)
  have go190 : own_S p e below ST T188 (mkF m 45 #[rv o1, iv od, rv b188, iv (0 : Int32), iv (0 : Int32), iv s1] []) := fun tt kt => go189 tt (by
      refine XS.astoreN X188.here hx rfl (hb hby d1_39) rfl rfl (l' := #[rv o1, iv od, rv b188, iv (2 : Int32), iv (2 : Int32), iv s1]) rfl ?_
      refine XS.iconst X188.here hx rfl (hb hby d1_40) ?_
      refine XS.istoreN X188.here hx rfl (hb hby d1_41) rfl (l' := #[rv o1, iv od, rv b188, iv (0 : Int32), iv (2 : Int32), iv s1]) rfl ?_
      refine XS.iconst X188.here hx rfl (hb hby d1_42) ?_
      refine XS.istore X188.here hx rfl (hb hby d1_43) rfl (l' := #[rv o1, iv od, rv b188, iv (0 : Int32), iv (0 : Int32), iv s1]) rfl ?_
      exact kt)
  have go191 : own_S p e below ST T188 (mkF m 48 #[rv o1, iv od, rv b188, iv (0 : Int32), iv (0 : Int32), iv s1] [(.ref o1), (.int (0 : Int32))]) := fun tt kt => go190 tt (by
      refine XS.iload X188.here hx rfl (hb hby d1_45) rfl ?_
      refine XS.aloadN X188.here hx rfl (hb hby d1_47) rfl rfl ?_
      exact kt)
  have f193 := (Va.ext E188)
  obtain ⟨cl192, Ar192, q192, S192, M192, H192, G192⟩ := id f193
  have go194 : own_S p e below ST T188 (mkF m 49 #[rv o1, iv od, rv b188, iv (0 : Int32), iv (0 : Int32), iv s1] [(.int (2 : Int32)), (.int (0 : Int32))]) := fun tt kt => go191 tt (by
      refine X188.arraylength hx (by rw [e188]; exact Ar192.1) (State.isArrayOf_alike hZ.alike Ar192.2.1) (g := (mkF m 48 #[rv o1, iv od, rv b188, iv (0 : Int32), iv (0 : Int32), iv s1] [(.ref o1), (.int (0 : Int32))])) rfl rfl (hb hby d1_48) _ ?_
      rw [len_of S192 M192]
      exact kt)
  have go195 : own_S p e below ST T188 (mkF m 58 #[rv o1, iv od, rv b188, iv (0 : Int32), iv (0 : Int32), iv s1] [(.int (0 : Int32)), (.ref o1), (.int (0 : Int32)), (.ref b188)]) := fun tt kt => go194 tt (by
      refine XS.icmpNo X188.here hx rfl (hb hby d1_49) rfl (tlt (by decide : (0 : Int32) < (2 : Int32))).2.1 ?_
      refine XS.aloadN X188.here hx rfl (hb hby d1_52) rfl rfl ?_
      refine XS.iload X188.here hx rfl (hb hby d1_53) rfl ?_
      refine XS.aloadN X188.here hx rfl (hb hby d1_55) rfl rfl ?_
      refine XS.iload X188.here hx rfl (hb hby d1_56) rfl ?_
      exact kt)
  obtain ⟨cl196, Ar196, q196, S196, M196, H196, G196⟩ := id f193
  have hin196 : ¬ ((0 : Int32) < 0 ∨ cl196.slots.size ≤ ((0 : Int32)).toNatClampNeg) := inb_of S196 ⟨by decide, by decide⟩
  have hat196 : cl196.slots[((0 : Int32)).toNatClampNeg]? = some (.int s0) := H196.at hin196 rfl
  have go197 : own_S p e below ST T188 (mkF m 59 #[rv o1, iv od, rv b188, iv (0 : Int32), iv (0 : Int32), iv s1] [(.int s0), (.int (0 : Int32)), (.ref b188)]) := fun tt kt => go195 tt (by
      refine X188.iaload hx (j := (0 : Int32)) (v := (.int s0)) (by rw [e188]; exact Ar196.1) (State.isArrayOf_alike hZ.alike Ar196.2.1) Ar196.2.2 hin196 hat196 (g := (mkF m 58 #[rv o1, iv od, rv b188, iv (0 : Int32), iv (0 : Int32), iv s1] [(.int (0 : Int32)), (.ref o1), (.int (0 : Int32)), (.ref b188)])) rfl rfl (hb hby d1_58) _ ?_
      exact kt)
  have go198 : own_S p e below ST T188 (mkF m 61 #[rv o1, iv od, rv b188, iv (0 : Int32), iv (0 : Int32), iv s1] [(.int (s0 / (2 : Int32))), (.int (0 : Int32)), (.ref b188)]) := fun tt kt => go197 tt (by
      refine XS.iconst X188.here hx rfl (hb hby d1_59) ?_
      refine XS.idiv X188.here hx rfl (hb hby d1_60) rfl (by decide) ?_
      exact kt)
  obtain ⟨cl199, Ar199, q199, S199, M199, H199, G199⟩ := id V188
  have hin199 : ¬ ((0 : Int32) < 0 ∨ cl199.slots.size ≤ ((0 : Int32)).toNatClampNeg) := inb_of S199 ⟨by decide, by decide⟩
  obtain ⟨T199, h199, X199, e199, W199, st199⟩ := stI X188 hx hZ e188 Ar199 (j := (0 : Int32)) hin199 (g := (mkF m 61 #[rv o1, iv od, rv b188, iv (0 : Int32), iv (0 : Int32), iv s1] [(.int (s0 / (2 : Int32))), (.int (0 : Int32)), (.ref b188)])) rfl rfl (hb hby d1_61)
  have V199 : Arv Z h199 b188 k188 .int (2 : Int32) [(.int (s0 / (2 : Int32))), (.int (0 : Int32))] (.int (0 : Int32)) := Arv.set Ar199 q199 S199 M199 H199 G199 rfl W199 0 rfl (Nat.le_of_ble_eq_true rfl)
  have N199 := Fr.snoc X199 N0 ge_b188
  have KC199 : Keep h0 h199 [] := KC188.wr W199 (Or.inr sz_b188)
  have go200 : own_S p e below ST T199 (mkF m 62 #[rv o1, iv od, rv b188, iv (0 : Int32), iv (0 : Int32), iv s1] []) := fun tt kt => go198 tt (st199 _ kt)
  have go201 : own_S p e below ST T199 (mkF m 65 #[rv o1, iv od, rv b188, iv (0 : Int32), iv (0 : Int32), iv s1] [(.int (0 : Int32)), (.ref o1)]) := fun tt kt => go200 tt (by
      refine XS.aloadN X199.here hx rfl (hb hby d1_62) rfl rfl ?_
      refine XS.iload X199.here hx rfl (hb hby d1_63) rfl ?_
      exact kt)
  have f203 := (f193.other W199 neo1_b188)
  obtain ⟨cl202, Ar202, q202, S202, M202, H202, G202⟩ := id f203
  have hin202 : ¬ ((0 : Int32) < 0 ∨ cl202.slots.size ≤ ((0 : Int32)).toNatClampNeg) := inb_of S202 ⟨by decide, by decide⟩
  have hat202 : cl202.slots[((0 : Int32)).toNatClampNeg]? = some (.int s0) := H202.at hin202 rfl
  have go204 : own_S p e below ST T199 (mkF m 66 #[rv o1, iv od, rv b188, iv (0 : Int32), iv (0 : Int32), iv s1] [(.int s0)]) := fun tt kt => go201 tt (by
      refine X199.iaload hx (j := (0 : Int32)) (v := (.int s0)) (by rw [e199]; exact Ar202.1) (State.isArrayOf_alike hZ.alike Ar202.2.1) Ar202.2.2 hin202 hat202 (g := (mkF m 65 #[rv o1, iv od, rv b188, iv (0 : Int32), iv (0 : Int32), iv s1] [(.int (0 : Int32)), (.ref o1)])) rfl rfl (hb hby d1_65) _ ?_
      exact kt)
  have go205 : own_S p e below ST T199 (mkF m 68 #[rv o1, iv od, rv b188, iv (0 : Int32), iv (0 : Int32), iv s1] [(.int (s0 % (2 : Int32)))]) := fun tt kt => go204 tt (by
      refine XS.iconst X199.here hx rfl (hb hby d1_66) ?_
      refine iremM (g := (mkF m 67 #[rv o1, iv od, rv b188, iv (0 : Int32), iv (0 : Int32), iv s1] [(.int (2 : Int32)), (.int s0)])) X199 hx rfl (hb hby d1_67) rfl (by decide) ?_
      exact kt)
  have zs206 := (Nat.le_trans (Nat.le_trans Z0 E188.1) (Keep.of_wr W199).1)
  obtain ⟨T220, h220, L220, q1, e0, X220, e220, N220, K220, c220_0, hq1, he0, sg220⟩ : ∃ (T220 : State) (h220 : Heap) (L220 : List Loc) (q1 : Int32) (e0 : Int32), Stand p l e ({ frames := 0, cells := 1, slots := 2, locals := 0 } : Room) s m #[(.ref o1)] below meth c T220 L220 (0 + 1) (0 + 2) ∧ T220.heap = h220 ∧ Fr n0 L220 ∧ Keep h199 h220 [b188] ∧ Arv Z h220 b188 k188 .int (2 : Int32) [(.int e0), (.int (0 : Int32))] (.int (0 : Int32)) ∧ q1 = (if (s0 % (2 : Int32)) = (0 : Int32) then (0 : Int32) else (if (0 : Int32) < (od / (2 : Int32)) then (1 : Int32) else (1 : Int32))) ∧ e0 = (if (s0 % (2 : Int32)) = (0 : Int32) then (s0 / (2 : Int32)) else (if (0 : Int32) < (od / (2 : Int32)) then ((s0 / (2 : Int32)) + (1 : Int32)) else (s0 / (2 : Int32)))) ∧ ∀ tt, Steps p.tables e below (T220.setTop (mkF m 89 #[rv o1, iv od, rv b188, iv q1, iv (0 : Int32), iv s1] [])) tt → Steps p.tables e below (T199.setTop (mkF m 68 #[rv o1, iv od, rv b188, iv (0 : Int32), iv (0 : Int32), iv s1] [(.int (s0 % (2 : Int32)))])) tt := by
    by_cases hj68_0 : (s0 % (2 : Int32)) = (0 : Int32)
    · have go207 : own_S p e below (T199.setTop (mkF m 68 #[rv o1, iv od, rv b188, iv (0 : Int32), iv (0 : Int32), iv s1] [(.int (s0 % (2 : Int32)))])) T199 (mkF m 89 #[rv o1, iv od, rv b188, iv (0 : Int32), iv (0 : Int32), iv s1] []) := fun tt kt => (fun (tt : State) (kt : Steps p.tables e below (T199.setTop (mkF m 68 #[rv o1, iv od, rv b188, iv (0 : Int32), iv (0 : Int32), iv s1] [(.int (s0 % (2 : Int32)))])) tt) => kt) tt (by
          refine XS.ifYes X199.here hx rfl (pc0 := 68) (pc' := 89) rfl (hb hby d1_68) rfl ((if0 _ _).trans (teq hj68_0).1) (by decide) (by decide) ?_
          exact kt)
      exact ⟨T199, h199, _, (0 : Int32), (s0 / (2 : Int32)), X199, e199, N199, (Keep.refl h199 [b188]), V199, (if_pos hj68_0).symm, (if_pos hj68_0).symm, go207⟩
    · have go208 : own_S p e below (T199.setTop (mkF m 68 #[rv o1, iv od, rv b188, iv (0 : Int32), iv (0 : Int32), iv s1] [(.int (s0 % (2 : Int32)))])) T199 (mkF m 71 #[rv o1, iv od, rv b188, iv (0 : Int32), iv (0 : Int32), iv s1] []) := fun tt kt => (fun (tt : State) (kt : Steps p.tables e below (T199.setTop (mkF m 68 #[rv o1, iv od, rv b188, iv (0 : Int32), iv (0 : Int32), iv s1] [(.int (s0 % (2 : Int32)))])) tt) => kt) tt (by
          refine XS.ifNo X199.here hx rfl (hb hby d1_68) rfl ((if0 _ _).trans (feq hj68_0).1) ?_
          exact kt)
      have go209 : own_S p e below (T199.setTop (mkF m 68 #[rv o1, iv od, rv b188, iv (0 : Int32), iv (0 : Int32), iv s1] [(.int (s0 % (2 : Int32)))])) T199 (mkF m 75 #[rv o1, iv od, rv b188, iv (0 : Int32), iv (0 : Int32), iv s1] [(.int (od / (2 : Int32))), (.int (0 : Int32))]) := fun tt kt => go208 tt (by
          refine XS.iloadN X199.here hx rfl (hb hby d1_71) rfl ?_
          refine XS.iloadN X199.here hx rfl (hb hby d1_72) rfl ?_
          refine XS.iconst X199.here hx rfl (hb hby d1_73) ?_
          refine XS.idiv X199.here hx rfl (hb hby d1_74) rfl (by decide) ?_
          exact kt)
      by_cases hj75_1 : (0 : Int32) < (od / (2 : Int32))
      · have go210 : own_S p e below (T199.setTop (mkF m 68 #[rv o1, iv od, rv b188, iv (0 : Int32), iv (0 : Int32), iv s1] [(.int (s0 % (2 : Int32)))])) T199 (mkF m 78 #[rv o1, iv od, rv b188, iv (0 : Int32), iv (0 : Int32), iv s1] []) := fun tt kt => go209 tt (by
            refine XS.icmpNo X199.here hx rfl (hb hby d1_75) rfl (tlt hj75_1).2.1 ?_
            exact kt)
        have go211 : own_S p e below (T199.setTop (mkF m 68 #[rv o1, iv od, rv b188, iv (0 : Int32), iv (0 : Int32), iv s1] [(.int (s0 % (2 : Int32)))])) T199 (mkF m 82 #[rv o1, iv od, rv b188, iv (0 : Int32), iv (0 : Int32), iv s1] [(.int (0 : Int32)), (.ref b188), (.int (0 : Int32)), (.ref b188)]) := fun tt kt => go210 tt (by
            refine XS.aloadN X199.here hx rfl (hb hby d1_78) rfl rfl ?_
            refine XS.iload X199.here hx rfl (hb hby d1_79) rfl ?_
            refine XT.dup2 X199.here hx rfl (hb hby d1_81) rfl rfl rfl ?_
            exact kt)
        obtain ⟨cl212, Ar212, q212, S212, M212, H212, G212⟩ := id V199
        have hin212 : ¬ ((0 : Int32) < 0 ∨ cl212.slots.size ≤ ((0 : Int32)).toNatClampNeg) := inb_of S212 ⟨by decide, by decide⟩
        have hat212 : cl212.slots[((0 : Int32)).toNatClampNeg]? = some (.int (s0 / (2 : Int32))) := H212.at hin212 rfl
        have go213 : own_S p e below (T199.setTop (mkF m 68 #[rv o1, iv od, rv b188, iv (0 : Int32), iv (0 : Int32), iv s1] [(.int (s0 % (2 : Int32)))])) T199 (mkF m 83 #[rv o1, iv od, rv b188, iv (0 : Int32), iv (0 : Int32), iv s1] [(.int (s0 / (2 : Int32))), (.int (0 : Int32)), (.ref b188)]) := fun tt kt => go211 tt (by
            refine X199.iaload hx (j := (0 : Int32)) (v := (.int (s0 / (2 : Int32)))) (by rw [e199]; exact Ar212.1) (State.isArrayOf_alike hZ.alike Ar212.2.1) Ar212.2.2 hin212 hat212 (g := (mkF m 82 #[rv o1, iv od, rv b188, iv (0 : Int32), iv (0 : Int32), iv s1] [(.int (0 : Int32)), (.ref b188), (.int (0 : Int32)), (.ref b188)])) rfl rfl (hb hby d1_82) _ ?_
            exact kt)
        have go214 : own_S p e below (T199.setTop (mkF m 68 #[rv o1, iv od, rv b188, iv (0 : Int32), iv (0 : Int32), iv s1] [(.int (s0 % (2 : Int32)))])) T199 (mkF m 85 #[rv o1, iv od, rv b188, iv (0 : Int32), iv (0 : Int32), iv s1] [(.int ((s0 / (2 : Int32)) + (1 : Int32))), (.int (0 : Int32)), (.ref b188)]) := fun tt kt => go213 tt (by
            refine XS.iconst X199.here hx rfl (hb hby d1_83) ?_
            refine XS.iadd X199.here hx rfl (hb hby d1_84) rfl ?_
            exact kt)
        obtain ⟨cl215, Ar215, q215, S215, M215, H215, G215⟩ := id V199
        have hin215 : ¬ ((0 : Int32) < 0 ∨ cl215.slots.size ≤ ((0 : Int32)).toNatClampNeg) := inb_of S215 ⟨by decide, by decide⟩
        obtain ⟨T215, h215, X215, e215, W215, st215⟩ := stI X199 hx hZ e199 Ar215 (j := (0 : Int32)) hin215 (g := (mkF m 85 #[rv o1, iv od, rv b188, iv (0 : Int32), iv (0 : Int32), iv s1] [(.int ((s0 / (2 : Int32)) + (1 : Int32))), (.int (0 : Int32)), (.ref b188)])) rfl rfl (hb hby d1_85)
        have V215 : Arv Z h215 b188 k188 .int (2 : Int32) [(.int ((s0 / (2 : Int32)) + (1 : Int32))), (.int (0 : Int32))] (.int (0 : Int32)) := Arv.set Ar215 q215 S215 M215 H215 G215 rfl W215 0 rfl (Nat.le_of_ble_eq_true rfl)
        have N215 := Fr.snoc X215 N199 ge_b188
        have kj215 : Keep h199 h215 [b188] := (Keep.refl h199 [b188]).wr W215 (Or.inl (List.mem_of_getElem? (i := 0) rfl))
        have KC215 : Keep h0 h215 [] := KC199.wr W215 (Or.inr sz_b188)
        have go216 : own_S p e below (T199.setTop (mkF m 68 #[rv o1, iv od, rv b188, iv (0 : Int32), iv (0 : Int32), iv s1] [(.int (s0 % (2 : Int32)))])) T215 (mkF m 86 #[rv o1, iv od, rv b188, iv (0 : Int32), iv (0 : Int32), iv s1] []) := fun tt kt => go214 tt (st215 _ kt)
        have go217 : own_S p e below (T199.setTop (mkF m 68 #[rv o1, iv od, rv b188, iv (0 : Int32), iv (0 : Int32), iv s1] [(.int (s0 % (2 : Int32)))])) T215 (mkF m 89 #[rv o1, iv od, rv b188, iv (1 : Int32), iv (0 : Int32), iv s1] []) := fun tt kt => go216 tt (by
            refine XS.iinc X215.here hx rfl (hb hby d1_86) rfl (l' := #[rv o1, iv od, rv b188, iv (1 : Int32), iv (0 : Int32), iv s1]) rfl ?_
            exact kt)
        exact ⟨T215, h215, _, (1 : Int32), ((s0 / (2 : Int32)) + (1 : Int32)), X215, e215, N215, kj215, V215, ((if_neg hj68_0).trans (if_pos hj75_1)).symm, ((if_neg hj68_0).trans (if_pos hj75_1)).symm, go217⟩
      · have go218 : own_S p e below (T199.setTop (mkF m 68 #[rv o1, iv od, rv b188, iv (0 : Int32), iv (0 : Int32), iv s1] [(.int (s0 % (2 : Int32)))])) T199 (mkF m 86 #[rv o1, iv od, rv b188, iv (0 : Int32), iv (0 : Int32), iv s1] []) := fun tt kt => go209 tt (by
            refine XS.icmpYes X199.here hx rfl (pc0 := 75) (pc' := 86) rfl (hb hby d1_75) rfl (flt hj75_1).2.1 (by decide) (by decide) ?_
            exact kt)
        have go219 : own_S p e below (T199.setTop (mkF m 68 #[rv o1, iv od, rv b188, iv (0 : Int32), iv (0 : Int32), iv s1] [(.int (s0 % (2 : Int32)))])) T199 (mkF m 89 #[rv o1, iv od, rv b188, iv (1 : Int32), iv (0 : Int32), iv s1] []) := fun tt kt => go218 tt (by
            refine XS.iinc X199.here hx rfl (hb hby d1_86) rfl (l' := #[rv o1, iv od, rv b188, iv (1 : Int32), iv (0 : Int32), iv s1]) rfl ?_
            exact kt)
        exact ⟨T199, h199, _, (1 : Int32), (s0 / (2 : Int32)), X199, e199, N199, (Keep.refl h199 [b188]), V199, ((if_neg hj68_0).trans (if_neg hj75_1)).symm, ((if_neg hj68_0).trans (if_neg hj75_1)).symm, go219⟩
  have KC220 : Keep h0 h220 [] := KC199.trans K220 (allS (Or.inr sz_b188) all0)
  have go221 : own_S p e below ST T220 (mkF m 89 #[rv o1, iv od, rv b188, iv q1, iv (0 : Int32), iv s1] []) := fun tt kt => go205 tt (sg220 _ kt)
  have go222 : own_S p e below ST T220 (mkF m 45 #[rv o1, iv od, rv b188, iv q1, iv (1 : Int32), iv s1] []) := fun tt kt => go221 tt (by
      refine XS.iinc X220.here hx rfl (hb hby d1_89) rfl (l' := #[rv o1, iv od, rv b188, iv q1, iv (1 : Int32), iv s1]) rfl ?_
      refine XS.goto X220.here hx rfl (pc0 := 92) (pc' := 45) rfl (hb hby d1_92) (by decide) (by decide) ?_
      exact kt)
  have go223 : own_S p e below ST T220 (mkF m 48 #[rv o1, iv od, rv b188, iv q1, iv (1 : Int32), iv s1] [(.ref o1), (.int (1 : Int32))]) := fun tt kt => go222 tt (by
      refine XS.iload X220.here hx rfl (hb hby d1_45) rfl ?_
      refine XS.aloadN X220.here hx rfl (hb hby d1_47) rfl rfl ?_
      exact kt)
  have f225 := (f203.keep K220 (ninS neo1_b188 nin0))
  obtain ⟨cl224, Ar224, q224, S224, M224, H224, G224⟩ := id f225
  have go226 : own_S p e below ST T220 (mkF m 49 #[rv o1, iv od, rv b188, iv q1, iv (1 : Int32), iv s1] [(.int (2 : Int32)), (.int (1 : Int32))]) := fun tt kt => go223 tt (by
      refine X220.arraylength hx (by rw [e220]; exact Ar224.1) (State.isArrayOf_alike hZ.alike Ar224.2.1) (g := (mkF m 48 #[rv o1, iv od, rv b188, iv q1, iv (1 : Int32), iv s1] [(.ref o1), (.int (1 : Int32))])) rfl rfl (hb hby d1_48) _ ?_
      rw [len_of S224 M224]
      exact kt)
  have go227 : own_S p e below ST T220 (mkF m 58 #[rv o1, iv od, rv b188, iv q1, iv (1 : Int32), iv s1] [(.int (1 : Int32)), (.ref o1), (.int (1 : Int32)), (.ref b188)]) := fun tt kt => go226 tt (by
      refine XS.icmpNo X220.here hx rfl (hb hby d1_49) rfl (tlt (by decide : (1 : Int32) < (2 : Int32))).2.1 ?_
      refine XS.aloadN X220.here hx rfl (hb hby d1_52) rfl rfl ?_
      refine XS.iload X220.here hx rfl (hb hby d1_53) rfl ?_
      refine XS.aloadN X220.here hx rfl (hb hby d1_55) rfl rfl ?_
      refine XS.iload X220.here hx rfl (hb hby d1_56) rfl ?_
      exact kt)
  obtain ⟨cl228, Ar228, q228, S228, M228, H228, G228⟩ := id f225
  have hin228 : ¬ ((1 : Int32) < 0 ∨ cl228.slots.size ≤ ((1 : Int32)).toNatClampNeg) := inb_of S228 ⟨by decide, by decide⟩
  have hat228 : cl228.slots[((1 : Int32)).toNatClampNeg]? = some (.int s1) := H228.at hin228 rfl
  have go229 : own_S p e below ST T220 (mkF m 59 #[rv o1, iv od, rv b188, iv q1, iv (1 : Int32), iv s1] [(.int s1), (.int (1 : Int32)), (.ref b188)]) := fun tt kt => go227 tt (by
      refine X220.iaload hx (j := (1 : Int32)) (v := (.int s1)) (by rw [e220]; exact Ar228.1) (State.isArrayOf_alike hZ.alike Ar228.2.1) Ar228.2.2 hin228 hat228 (g := (mkF m 58 #[rv o1, iv od, rv b188, iv q1, iv (1 : Int32), iv s1] [(.int (1 : Int32)), (.ref o1), (.int (1 : Int32)), (.ref b188)])) rfl rfl (hb hby d1_58) _ ?_
      exact kt)
  have go230 : own_S p e below ST T220 (mkF m 61 #[rv o1, iv od, rv b188, iv q1, iv (1 : Int32), iv s1] [(.int (s1 / (2 : Int32))), (.int (1 : Int32)), (.ref b188)]) := fun tt kt => go229 tt (by
      refine XS.iconst X220.here hx rfl (hb hby d1_59) ?_
      refine XS.idiv X220.here hx rfl (hb hby d1_60) rfl (by decide) ?_
      exact kt)
  obtain ⟨cl231, Ar231, q231, S231, M231, H231, G231⟩ := id c220_0
  have hin231 : ¬ ((1 : Int32) < 0 ∨ cl231.slots.size ≤ ((1 : Int32)).toNatClampNeg) := inb_of S231 ⟨by decide, by decide⟩
  obtain ⟨T231, h231, X231, e231, W231, st231⟩ := stI X220 hx hZ e220 Ar231 (j := (1 : Int32)) hin231 (g := (mkF m 61 #[rv o1, iv od, rv b188, iv q1, iv (1 : Int32), iv s1] [(.int (s1 / (2 : Int32))), (.int (1 : Int32)), (.ref b188)])) rfl rfl (hb hby d1_61)
  have V231 : Arv Z h231 b188 k188 .int (2 : Int32) [(.int e0), (.int (s1 / (2 : Int32)))] (.int (0 : Int32)) := Arv.set Ar231 q231 S231 M231 H231 G231 rfl W231 1 rfl (Nat.le_of_ble_eq_true rfl)
  have N231 := Fr.snoc X231 N220 ge_b188
  have KC231 : Keep h0 h231 [] := KC220.wr W231 (Or.inr sz_b188)
  have go232 : own_S p e below ST T231 (mkF m 62 #[rv o1, iv od, rv b188, iv q1, iv (1 : Int32), iv s1] []) := fun tt kt => go230 tt (st231 _ kt)
  have go233 : own_S p e below ST T231 (mkF m 65 #[rv o1, iv od, rv b188, iv q1, iv (1 : Int32), iv s1] [(.int (1 : Int32)), (.ref o1)]) := fun tt kt => go232 tt (by
      refine XS.aloadN X231.here hx rfl (hb hby d1_62) rfl rfl ?_
      refine XS.iload X231.here hx rfl (hb hby d1_63) rfl ?_
      exact kt)
  have f235 := (f225.other W231 neo1_b188)
  obtain ⟨cl234, Ar234, q234, S234, M234, H234, G234⟩ := id f235
  have hin234 : ¬ ((1 : Int32) < 0 ∨ cl234.slots.size ≤ ((1 : Int32)).toNatClampNeg) := inb_of S234 ⟨by decide, by decide⟩
  have hat234 : cl234.slots[((1 : Int32)).toNatClampNeg]? = some (.int s1) := H234.at hin234 rfl
  have go236 : own_S p e below ST T231 (mkF m 66 #[rv o1, iv od, rv b188, iv q1, iv (1 : Int32), iv s1] [(.int s1)]) := fun tt kt => go233 tt (by
      refine X231.iaload hx (j := (1 : Int32)) (v := (.int s1)) (by rw [e231]; exact Ar234.1) (State.isArrayOf_alike hZ.alike Ar234.2.1) Ar234.2.2 hin234 hat234 (g := (mkF m 65 #[rv o1, iv od, rv b188, iv q1, iv (1 : Int32), iv s1] [(.int (1 : Int32)), (.ref o1)])) rfl rfl (hb hby d1_65) _ ?_
      exact kt)
  have go237 : own_S p e below ST T231 (mkF m 68 #[rv o1, iv od, rv b188, iv q1, iv (1 : Int32), iv s1] [(.int (s1 % (2 : Int32)))]) := fun tt kt => go236 tt (by
      refine XS.iconst X231.here hx rfl (hb hby d1_66) ?_
      refine iremM (g := (mkF m 67 #[rv o1, iv od, rv b188, iv q1, iv (1 : Int32), iv s1] [(.int (2 : Int32)), (.int s1)])) X231 hx rfl (hb hby d1_67) rfl (by decide) ?_
      exact kt)
  have zs238 := (Nat.le_trans (Nat.le_trans zs206 K220.1) (Keep.of_wr W231).1)
  obtain ⟨T252, h252, L252, q2, e1, X252, e252, N252, K252, c252_0, hq2, he1, sg252⟩ : ∃ (T252 : State) (h252 : Heap) (L252 : List Loc) (q2 : Int32) (e1 : Int32), Stand p l e ({ frames := 0, cells := 1, slots := 2, locals := 0 } : Room) s m #[(.ref o1)] below meth c T252 L252 (0 + 1) (0 + 2) ∧ T252.heap = h252 ∧ Fr n0 L252 ∧ Keep h231 h252 [b188] ∧ Arv Z h252 b188 k188 .int (2 : Int32) [(.int e0), (.int e1)] (.int (0 : Int32)) ∧ q2 = (if (s1 % (2 : Int32)) = (0 : Int32) then q1 else (if q1 < (od / (2 : Int32)) then (q1 + (1 : Int32)) else (q1 + (1 : Int32)))) ∧ e1 = (if (s1 % (2 : Int32)) = (0 : Int32) then (s1 / (2 : Int32)) else (if q1 < (od / (2 : Int32)) then ((s1 / (2 : Int32)) + (1 : Int32)) else (s1 / (2 : Int32)))) ∧ ∀ tt, Steps p.tables e below (T252.setTop (mkF m 89 #[rv o1, iv od, rv b188, iv q2, iv (1 : Int32), iv s1] [])) tt → Steps p.tables e below (T231.setTop (mkF m 68 #[rv o1, iv od, rv b188, iv q1, iv (1 : Int32), iv s1] [(.int (s1 % (2 : Int32)))])) tt := by
    by_cases hj68_0 : (s1 % (2 : Int32)) = (0 : Int32)
    · have go239 : own_S p e below (T231.setTop (mkF m 68 #[rv o1, iv od, rv b188, iv q1, iv (1 : Int32), iv s1] [(.int (s1 % (2 : Int32)))])) T231 (mkF m 89 #[rv o1, iv od, rv b188, iv q1, iv (1 : Int32), iv s1] []) := fun tt kt => (fun (tt : State) (kt : Steps p.tables e below (T231.setTop (mkF m 68 #[rv o1, iv od, rv b188, iv q1, iv (1 : Int32), iv s1] [(.int (s1 % (2 : Int32)))])) tt) => kt) tt (by
          refine XS.ifYes X231.here hx rfl (pc0 := 68) (pc' := 89) rfl (hb hby d1_68) rfl ((if0 _ _).trans (teq hj68_0).1) (by decide) (by decide) ?_
          exact kt)
      exact ⟨T231, h231, _, q1, (s1 / (2 : Int32)), X231, e231, N231, (Keep.refl h231 [b188]), V231, (if_pos hj68_0).symm, (if_pos hj68_0).symm, go239⟩
    · have go240 : own_S p e below (T231.setTop (mkF m 68 #[rv o1, iv od, rv b188, iv q1, iv (1 : Int32), iv s1] [(.int (s1 % (2 : Int32)))])) T231 (mkF m 71 #[rv o1, iv od, rv b188, iv q1, iv (1 : Int32), iv s1] []) := fun tt kt => (fun (tt : State) (kt : Steps p.tables e below (T231.setTop (mkF m 68 #[rv o1, iv od, rv b188, iv q1, iv (1 : Int32), iv s1] [(.int (s1 % (2 : Int32)))])) tt) => kt) tt (by
          refine XS.ifNo X231.here hx rfl (hb hby d1_68) rfl ((if0 _ _).trans (feq hj68_0).1) ?_
          exact kt)
      have go241 : own_S p e below (T231.setTop (mkF m 68 #[rv o1, iv od, rv b188, iv q1, iv (1 : Int32), iv s1] [(.int (s1 % (2 : Int32)))])) T231 (mkF m 75 #[rv o1, iv od, rv b188, iv q1, iv (1 : Int32), iv s1] [(.int (od / (2 : Int32))), (.int q1)]) := fun tt kt => go240 tt (by
          refine XS.iloadN X231.here hx rfl (hb hby d1_71) rfl ?_
          refine XS.iloadN X231.here hx rfl (hb hby d1_72) rfl ?_
          refine XS.iconst X231.here hx rfl (hb hby d1_73) ?_
          refine XS.idiv X231.here hx rfl (hb hby d1_74) rfl (by decide) ?_
          exact kt)
      by_cases hj75_1 : q1 < (od / (2 : Int32))
      · have go242 : own_S p e below (T231.setTop (mkF m 68 #[rv o1, iv od, rv b188, iv q1, iv (1 : Int32), iv s1] [(.int (s1 % (2 : Int32)))])) T231 (mkF m 78 #[rv o1, iv od, rv b188, iv q1, iv (1 : Int32), iv s1] []) := fun tt kt => go241 tt (by
            refine XS.icmpNo X231.here hx rfl (hb hby d1_75) rfl (tlt hj75_1).2.1 ?_
            exact kt)
        have go243 : own_S p e below (T231.setTop (mkF m 68 #[rv o1, iv od, rv b188, iv q1, iv (1 : Int32), iv s1] [(.int (s1 % (2 : Int32)))])) T231 (mkF m 82 #[rv o1, iv od, rv b188, iv q1, iv (1 : Int32), iv s1] [(.int (1 : Int32)), (.ref b188), (.int (1 : Int32)), (.ref b188)]) := fun tt kt => go242 tt (by
            refine XS.aloadN X231.here hx rfl (hb hby d1_78) rfl rfl ?_
            refine XS.iload X231.here hx rfl (hb hby d1_79) rfl ?_
            refine XT.dup2 X231.here hx rfl (hb hby d1_81) rfl rfl rfl ?_
            exact kt)
        obtain ⟨cl244, Ar244, q244, S244, M244, H244, G244⟩ := id V231
        have hin244 : ¬ ((1 : Int32) < 0 ∨ cl244.slots.size ≤ ((1 : Int32)).toNatClampNeg) := inb_of S244 ⟨by decide, by decide⟩
        have hat244 : cl244.slots[((1 : Int32)).toNatClampNeg]? = some (.int (s1 / (2 : Int32))) := H244.at hin244 rfl
        have go245 : own_S p e below (T231.setTop (mkF m 68 #[rv o1, iv od, rv b188, iv q1, iv (1 : Int32), iv s1] [(.int (s1 % (2 : Int32)))])) T231 (mkF m 83 #[rv o1, iv od, rv b188, iv q1, iv (1 : Int32), iv s1] [(.int (s1 / (2 : Int32))), (.int (1 : Int32)), (.ref b188)]) := fun tt kt => go243 tt (by
            refine X231.iaload hx (j := (1 : Int32)) (v := (.int (s1 / (2 : Int32)))) (by rw [e231]; exact Ar244.1) (State.isArrayOf_alike hZ.alike Ar244.2.1) Ar244.2.2 hin244 hat244 (g := (mkF m 82 #[rv o1, iv od, rv b188, iv q1, iv (1 : Int32), iv s1] [(.int (1 : Int32)), (.ref b188), (.int (1 : Int32)), (.ref b188)])) rfl rfl (hb hby d1_82) _ ?_
            exact kt)
        have go246 : own_S p e below (T231.setTop (mkF m 68 #[rv o1, iv od, rv b188, iv q1, iv (1 : Int32), iv s1] [(.int (s1 % (2 : Int32)))])) T231 (mkF m 85 #[rv o1, iv od, rv b188, iv q1, iv (1 : Int32), iv s1] [(.int ((s1 / (2 : Int32)) + (1 : Int32))), (.int (1 : Int32)), (.ref b188)]) := fun tt kt => go245 tt (by
            refine XS.iconst X231.here hx rfl (hb hby d1_83) ?_
            refine XS.iadd X231.here hx rfl (hb hby d1_84) rfl ?_
            exact kt)
        obtain ⟨cl247, Ar247, q247, S247, M247, H247, G247⟩ := id V231
        have hin247 : ¬ ((1 : Int32) < 0 ∨ cl247.slots.size ≤ ((1 : Int32)).toNatClampNeg) := inb_of S247 ⟨by decide, by decide⟩
        obtain ⟨T247, h247, X247, e247, W247, st247⟩ := stI X231 hx hZ e231 Ar247 (j := (1 : Int32)) hin247 (g := (mkF m 85 #[rv o1, iv od, rv b188, iv q1, iv (1 : Int32), iv s1] [(.int ((s1 / (2 : Int32)) + (1 : Int32))), (.int (1 : Int32)), (.ref b188)])) rfl rfl (hb hby d1_85)
        have V247 : Arv Z h247 b188 k188 .int (2 : Int32) [(.int e0), (.int ((s1 / (2 : Int32)) + (1 : Int32)))] (.int (0 : Int32)) := Arv.set Ar247 q247 S247 M247 H247 G247 rfl W247 1 rfl (Nat.le_of_ble_eq_true rfl)
        have N247 := Fr.snoc X247 N231 ge_b188
        have kj247 : Keep h231 h247 [b188] := (Keep.refl h231 [b188]).wr W247 (Or.inl (List.mem_of_getElem? (i := 0) rfl))
        have KC247 : Keep h0 h247 [] := KC231.wr W247 (Or.inr sz_b188)
        have go248 : own_S p e below (T231.setTop (mkF m 68 #[rv o1, iv od, rv b188, iv q1, iv (1 : Int32), iv s1] [(.int (s1 % (2 : Int32)))])) T247 (mkF m 86 #[rv o1, iv od, rv b188, iv q1, iv (1 : Int32), iv s1] []) := fun tt kt => go246 tt (st247 _ kt)
        have go249 : own_S p e below (T231.setTop (mkF m 68 #[rv o1, iv od, rv b188, iv q1, iv (1 : Int32), iv s1] [(.int (s1 % (2 : Int32)))])) T247 (mkF m 89 #[rv o1, iv od, rv b188, iv (q1 + (1 : Int32)), iv (1 : Int32), iv s1] []) := fun tt kt => go248 tt (by
            refine XS.iinc X247.here hx rfl (hb hby d1_86) rfl (l' := #[rv o1, iv od, rv b188, iv (q1 + (1 : Int32)), iv (1 : Int32), iv s1]) rfl ?_
            exact kt)
        exact ⟨T247, h247, _, (q1 + (1 : Int32)), ((s1 / (2 : Int32)) + (1 : Int32)), X247, e247, N247, kj247, V247, ((if_neg hj68_0).trans (if_pos hj75_1)).symm, ((if_neg hj68_0).trans (if_pos hj75_1)).symm, go249⟩
      · have go250 : own_S p e below (T231.setTop (mkF m 68 #[rv o1, iv od, rv b188, iv q1, iv (1 : Int32), iv s1] [(.int (s1 % (2 : Int32)))])) T231 (mkF m 86 #[rv o1, iv od, rv b188, iv q1, iv (1 : Int32), iv s1] []) := fun tt kt => go241 tt (by
            refine XS.icmpYes X231.here hx rfl (pc0 := 75) (pc' := 86) rfl (hb hby d1_75) rfl (flt hj75_1).2.1 (by decide) (by decide) ?_
            exact kt)
        have go251 : own_S p e below (T231.setTop (mkF m 68 #[rv o1, iv od, rv b188, iv q1, iv (1 : Int32), iv s1] [(.int (s1 % (2 : Int32)))])) T231 (mkF m 89 #[rv o1, iv od, rv b188, iv (q1 + (1 : Int32)), iv (1 : Int32), iv s1] []) := fun tt kt => go250 tt (by
            refine XS.iinc X231.here hx rfl (hb hby d1_86) rfl (l' := #[rv o1, iv od, rv b188, iv (q1 + (1 : Int32)), iv (1 : Int32), iv s1]) rfl ?_
            exact kt)
        exact ⟨T231, h231, _, (q1 + (1 : Int32)), (s1 / (2 : Int32)), X231, e231, N231, (Keep.refl h231 [b188]), V231, ((if_neg hj68_0).trans (if_neg hj75_1)).symm, ((if_neg hj68_0).trans (if_neg hj75_1)).symm, go251⟩
  have KC252 : Keep h0 h252 [] := KC231.trans K252 (allS (Or.inr sz_b188) all0)
  have go253 : own_S p e below ST T252 (mkF m 89 #[rv o1, iv od, rv b188, iv q2, iv (1 : Int32), iv s1] []) := fun tt kt => go237 tt (sg252 _ kt)
  have go254 : own_S p e below ST T252 (mkF m 45 #[rv o1, iv od, rv b188, iv q2, iv (2 : Int32), iv s1] []) := fun tt kt => go253 tt (by
      refine XS.iinc X252.here hx rfl (hb hby d1_89) rfl (l' := #[rv o1, iv od, rv b188, iv q2, iv (2 : Int32), iv s1]) rfl ?_
      refine XS.goto X252.here hx rfl (pc0 := 92) (pc' := 45) rfl (hb hby d1_92) (by decide) (by decide) ?_
      exact kt)
  have go255 : own_S p e below ST T252 (mkF m 48 #[rv o1, iv od, rv b188, iv q2, iv (2 : Int32), iv s1] [(.ref o1), (.int (2 : Int32))]) := fun tt kt => go254 tt (by
      refine XS.iload X252.here hx rfl (hb hby d1_45) rfl ?_
      refine XS.aloadN X252.here hx rfl (hb hby d1_47) rfl rfl ?_
      exact kt)
  have f257 := (f235.keep K252 (ninS neo1_b188 nin0))
  obtain ⟨cl256, Ar256, q256, S256, M256, H256, G256⟩ := id f257
  have go258 : own_S p e below ST T252 (mkF m 49 #[rv o1, iv od, rv b188, iv q2, iv (2 : Int32), iv s1] [(.int (2 : Int32)), (.int (2 : Int32))]) := fun tt kt => go255 tt (by
      refine X252.arraylength hx (by rw [e252]; exact Ar256.1) (State.isArrayOf_alike hZ.alike Ar256.2.1) (g := (mkF m 48 #[rv o1, iv od, rv b188, iv q2, iv (2 : Int32), iv s1] [(.ref o1), (.int (2 : Int32))])) rfl rfl (hb hby d1_48) _ ?_
      rw [len_of S256 M256]
      exact kt)
  have go259 : own_S p e below ST T252 (mkF m 96 #[rv o1, iv od, rv b188, iv q2, iv (2 : Int32), iv s1] [(.ref b188)]) := fun tt kt => go258 tt (by
      refine XS.icmpYes X252.here hx rfl (pc0 := 49) (pc' := 95) rfl (hb hby d1_49) rfl (flt (by decide : ¬ ((2 : Int32) < (2 : Int32)))).2.1 (by decide) (by decide) ?_
      refine XS.aloadN X252.here hx rfl (hb hby d1_95) rfl rfl ?_
      exact kt)
  obtain ⟨fs, hr, hrun, hended, hW, hsame⟩ := X252.leave (v := some (.ref b188)) (fun h => by rw [Bd.returns] at h; cases h)
  refine ⟨_, _, pre0 _ (go259 _ ?_), hrun, hended, _, _, rfl, ?_, ⟨_, rfl⟩, hW, hsame.mono (by decide) (by decide)⟩
  · exact retOut X252 hx Bd.returns rfl (Or.inr (Or.inr (Or.inr (Or.inr ⟨rfl, rfl, rfl⟩)))) (hb hby d1_96) hr
  · show Q1k2 Z o1 ka s0 s1 h0 n0 _ T252.heap _
    rw [e252]
    exact ⟨b188, k188, od, e0, e1, q1, q2, rfl, N252, KC252, c252_0, hod, he0, hq1, he1, hq2⟩
theorem ef1k3 (m : MethodId) (x0 : Addr) : entryFrame m #[(.ref x0)] 6 = mkF m 0 #[.val (.ref x0), .unset, .unset, .unset, .unset, .unset] [] := by first | (simp [entryFrame, mkF, argsToLocals, Value.category]; done) | rfl
def Q1k3 (Z : State) (o1 : Addr) (ka : ClassId) (s0 : Int32) (s1 : Int32) (s2 : Int32) (h0 : Heap) (n0 : Nat) (v : Option Value) (h : Heap) (L : List Loc) : Prop := ∃ (b : Addr) (kb : ClassId) (od e0 e1 e2 q1 q2 q3 : Int32), v = some (.ref b) ∧ Fr n0 L ∧ Keep h0 h [] ∧ Arv Z h b kb .int (3 : Int32) [(.int e0), (.int e1), (.int e2)] (.int (0 : Int32)) ∧ od = ((((0 : Int32) + (s0 % (2 : Int32))) + (s1 % (2 : Int32))) + (s2 % (2 : Int32))) ∧ e0 = own_val (od / (2 : Int32)) (0 : Int32) s0 ∧ q1 = own_seen (od / (2 : Int32)) (0 : Int32) s0 ∧ e1 = own_val (od / (2 : Int32)) q1 s1 ∧ q2 = own_seen (od / (2 : Int32)) q1 s1 ∧ e2 = own_val (od / (2 : Int32)) q2 s2 ∧ q3 = own_seen (od / (2 : Int32)) q2 s2
set_option maxRecDepth 65536 in
set_option maxHeartbeats 40000000 in
theorem rm1k3 (l : Launch) (Z : State) (a0 : Array Value) (hw : ∀ d ∈ tables_1, d.before a0 Z = true) (ws : List Jvm.Cond) (o1 : Addr) (ka : ClassId) (s0 : Int32) (s1 : Int32) (s2 : Int32) (h0 : Heap) (n0 : Nat) (Z0 : n0 ≤ h0.size) (Va : Arv Z h0 o1 ka .int (3 : Int32) [(.int s0), (.int s1), (.int s2)] (.int (0 : Int32))) :
    MetFree l (⟨"com/example/declination/declination/engine/Nsga2", "keptCounts", "([I)[I"⟩ : MethodName) (head1 (Jvm.Cond.code (⟨"com/example/declination/declination/engine/Nsga2", "keptCounts", "([I)[I"⟩ : MethodName) prog_6_method_6_code 6 (some (.array .int)) :: ws) ({ frames := 0, cells := 1, slots := 3, locals := 0 } : Room)) (fun aa UU => aa = #[(.ref o1)] ∧ Z.Warmed39 UU.vm ∧ UU.heap = h0) (fun _ _ _ _ _ => True) (fun _ UU oo UU' => ∃ vv LL, oo = .returned vv ∧ Q1k3 Z o1 ka s0 s1 s2 h0 n0 vv UU'.heap LL ∧ FrameEnd UU oo UU' LL ({ frames := 0, cells := 1, slots := 3, locals := 0 } : Room).cells ({ frames := 0, cells := 1, slots := 3, locals := 0 } : Room).slots) := by
  have W : ∀ {d : Jvm.Cond} (i : Nat), tables_1[i]? = some d → d.before a0 Z = true := fun i h => hw _ (List.mem_of_getElem? h)
  refine MetFree.of_bodySF (plainFor_of_name pn28) hisR ?_
  intro p e s m args below meth c s₁ Bd hml0 hP hK
  obtain ⟨rfl, hZ, hh⟩ := hP
  have hx := Bd.exec
  have hby := Bd.bytes
  have hml : c.maxLocals = 6 := hml0
  have hown : s.vm.findClass "com/example/declination/declination/engine/Nsga2" = some m.cls := findClass_of_methodNamed Bd.named
  have hnm := (name_of_methodNamed Bd.named Bd.method).1
  have X0 : Stand p l e ({ frames := 0, cells := 1, slots := 3, locals := 0 } : Room) s m #[(.ref o1)] below meth c s₁ [] 0 0 := Stand.of_body Bd
  have e0 : s₁.heap = h0 := by rw [← hh, Bd.state]; rfl
  have N0 := Fr.nil n0
  have pre0 : ∀ tt, Steps p.tables e below (s₁.setTop (mkF m 0 #[rv o1, .unset, .unset, .unset, .unset, .unset] [])) tt → Steps p.tables e below (s₁.setTop (entryFrame m #[(.ref o1)] 6)) tt := fun tt kt => castTop (ef1k3 m o1) kt
  obtain ⟨ST, hST⟩ : ∃ z : State, z = s₁.setTop (mkF m 0 #[rv o1, .unset, .unset, .unset, .unset, .unset] []) := ⟨_, rfl⟩
  rw [← hST] at pre0
  have KC0 : Keep h0 h0 [] := Keep.refl h0 []
  have go260 : own_S p e below ST s₁ (mkF m 5 #[rv o1, iv (0 : Int32), rv o1, .unset, .unset, .unset] [(.ref o1)]) := fun tt kt => (by
      rw [hST]
      show Steps p.tables e below (s₁.setTop (mkF m 0 #[rv o1, .unset, .unset, .unset, .unset, .unset] [])) _
      refine XS.iconst X0.here hx rfl (hb hby d1_0) ?_
      refine XS.istoreN X0.here hx rfl (hb hby d1_1) rfl (l' := #[rv o1, iv (0 : Int32), .unset, .unset, .unset, .unset]) rfl ?_
      refine XS.aloadN X0.here hx rfl (hb hby d1_2) rfl rfl ?_
      refine XS.astoreN X0.here hx rfl (hb hby d1_3) rfl rfl (l' := #[rv o1, iv (0 : Int32), rv o1, .unset, .unset, .unset]) rfl ?_
      refine XS.aloadN X0.here hx rfl (hb hby d1_4) rfl rfl ?_
      exact kt)
  obtain ⟨cl261, Ar261, q261, S261, M261, H261, G261⟩ := id Va
  have go262 : own_S p e below ST s₁ (mkF m 6 #[rv o1, iv (0 : Int32), rv o1, .unset, .unset, .unset] [(.int (3 : Int32))]) := fun tt kt => go260 tt (by
      refine X0.arraylength hx (by rw [e0]; exact Ar261.1) (State.isArrayOf_alike hZ.alike Ar261.2.1) (g := (mkF m 5 #[rv o1, iv (0 : Int32), rv o1, .unset, .unset, .unset] [(.ref o1)])) rfl rfl (hb hby d1_5) _ ?_
      rw [len_of S261 M261]
      exact kt)
  have go263 : own_S p e below ST s₁ (mkF m 19 #[rv o1, iv (0 : Int32), rv o1, iv (3 : Int32), iv (0 : Int32), .unset] [(.int (0 : Int32)), (.ref o1)]) := fun tt kt => go262 tt (by
      refine XS.istoreN X0.here hx rfl (hb hby d1_6) rfl (l' := #[rv o1, iv (0 : Int32), rv o1, iv (3 : Int32), .unset, .unset]) rfl ?_
      refine XS.iconst X0.here hx rfl (hb hby d1_7) ?_
      refine XS.istore X0.here hx rfl (hb hby d1_8) rfl (l' := #[rv o1, iv (0 : Int32), rv o1, iv (3 : Int32), iv (0 : Int32), .unset]) rfl ?_
      refine XS.iload X0.here hx rfl (hb hby d1_10) rfl ?_
      refine XS.iloadN X0.here hx rfl (hb hby d1_12) rfl ?_
      refine XS.icmpNo X0.here hx rfl (hb hby d1_13) rfl (tlt (by decide : (0 : Int32) < (3 : Int32))).2.1 ?_
      show Steps p.tables e below (s₁.setTop (mkF m 16 #[rv o1, iv (0 : Int32), rv o1, iv (3 : Int32), iv (0 : Int32), .unset] [])) _
      refine XS.aloadN X0.here hx rfl (hb hby d1_16) rfl rfl ?_
      refine XS.iload X0.here hx rfl (hb hby d1_17) rfl ?_
      exact kt)
  obtain ⟨cl264, Ar264, q264, S264, M264, H264, G264⟩ := id Va
  have hin264 : ¬ ((0 : Int32) < 0 ∨ cl264.slots.size ≤ ((0 : Int32)).toNatClampNeg) := inb_of S264 ⟨by decide, by decide⟩
  have hat264 : cl264.slots[((0 : Int32)).toNatClampNeg]? = some (.int s0) := H264.at hin264 rfl
  have go265 : own_S p e below ST s₁ (mkF m 20 #[rv o1, iv (0 : Int32), rv o1, iv (3 : Int32), iv (0 : Int32), .unset] [(.int s0)]) := fun tt kt => go263 tt (by
      refine X0.iaload hx (j := (0 : Int32)) (v := (.int s0)) (by rw [e0]; exact Ar264.1) (State.isArrayOf_alike hZ.alike Ar264.2.1) Ar264.2.2 hin264 hat264 (g := (mkF m 19 #[rv o1, iv (0 : Int32), rv o1, iv (3 : Int32), iv (0 : Int32), .unset] [(.int (0 : Int32)), (.ref o1)])) rfl rfl (hb hby d1_19) _ ?_
      exact kt)
  have go266 : own_S p e below ST s₁ (mkF m 19 #[rv o1, iv ((0 : Int32) + (s0 % (2 : Int32))), rv o1, iv (3 : Int32), iv (1 : Int32), iv s0] [(.int (1 : Int32)), (.ref o1)]) := fun tt kt => go265 tt (by
      refine XS.istore X0.here hx rfl (hb hby d1_20) rfl (l' := #[rv o1, iv (0 : Int32), rv o1, iv (3 : Int32), iv (0 : Int32), iv s0]) rfl ?_
      refine XS.iloadN X0.here hx rfl (hb hby d1_22) rfl ?_
      refine XS.iload X0.here hx rfl (hb hby d1_23) rfl ?_
      refine XS.iconst X0.here hx rfl (hb hby d1_25) ?_
      refine iremM (g := (mkF m 26 #[rv o1, iv (0 : Int32), rv o1, iv (3 : Int32), iv (0 : Int32), iv s0] [(.int (2 : Int32)), (.int s0), (.int (0 : Int32))])) X0 hx rfl (hb hby d1_26) rfl (by decide) ?_
      refine XS.iadd X0.here hx rfl (hb hby d1_27) rfl ?_
      show Steps p.tables e below (s₁.setTop (mkF m 28 #[rv o1, iv (0 : Int32), rv o1, iv (3 : Int32), iv (0 : Int32), iv s0] [(.int ((0 : Int32) + (s0 % (2 : Int32))))])) _
      refine XS.istoreN X0.here hx rfl (hb hby d1_28) rfl (l' := #[rv o1, iv ((0 : Int32) + (s0 % (2 : Int32))), rv o1, iv (3 : Int32), iv (0 : Int32), iv s0]) rfl ?_
      refine XS.iinc X0.here hx rfl (hb hby d1_29) rfl (l' := #[rv o1, iv ((0 : Int32) + (s0 % (2 : Int32))), rv o1, iv (3 : Int32), iv (1 : Int32), iv s0]) rfl ?_
      refine XS.goto X0.here hx rfl (pc0 := 32) (pc' := 10) rfl (hb hby d1_32) (by decide) (by decide) ?_
      refine XS.iload X0.here hx rfl (hb hby d1_10) rfl ?_
      refine XS.iloadN X0.here hx rfl (hb hby d1_12) rfl ?_
      refine XS.icmpNo X0.here hx rfl (hb hby d1_13) rfl (tlt (by decide : (1 : Int32) < (3 : Int32))).2.1 ?_
      show Steps p.tables e below (s₁.setTop (mkF m 16 #[rv o1, iv ((0 : Int32) + (s0 % (2 : Int32))), rv o1, iv (3 : Int32), iv (1 : Int32), iv s0] [])) _
      refine XS.aloadN X0.here hx rfl (hb hby d1_16) rfl rfl ?_
      refine XS.iload X0.here hx rfl (hb hby d1_17) rfl ?_
      exact kt)
  obtain ⟨cl267, Ar267, q267, S267, M267, H267, G267⟩ := id Va
  have hin267 : ¬ ((1 : Int32) < 0 ∨ cl267.slots.size ≤ ((1 : Int32)).toNatClampNeg) := inb_of S267 ⟨by decide, by decide⟩
  have hat267 : cl267.slots[((1 : Int32)).toNatClampNeg]? = some (.int s1) := H267.at hin267 rfl
  have go268 : own_S p e below ST s₁ (mkF m 20 #[rv o1, iv ((0 : Int32) + (s0 % (2 : Int32))), rv o1, iv (3 : Int32), iv (1 : Int32), iv s0] [(.int s1)]) := fun tt kt => go266 tt (by
      refine X0.iaload hx (j := (1 : Int32)) (v := (.int s1)) (by rw [e0]; exact Ar267.1) (State.isArrayOf_alike hZ.alike Ar267.2.1) Ar267.2.2 hin267 hat267 (g := (mkF m 19 #[rv o1, iv ((0 : Int32) + (s0 % (2 : Int32))), rv o1, iv (3 : Int32), iv (1 : Int32), iv s0] [(.int (1 : Int32)), (.ref o1)])) rfl rfl (hb hby d1_19) _ ?_
      exact kt)
  have go269 : own_S p e below ST s₁ (mkF m 19 #[rv o1, iv (((0 : Int32) + (s0 % (2 : Int32))) + (s1 % (2 : Int32))), rv o1, iv (3 : Int32), iv (2 : Int32), iv s1] [(.int (2 : Int32)), (.ref o1)]) := fun tt kt => go268 tt (by
      refine XS.istore X0.here hx rfl (hb hby d1_20) rfl (l' := #[rv o1, iv ((0 : Int32) + (s0 % (2 : Int32))), rv o1, iv (3 : Int32), iv (1 : Int32), iv s1]) rfl ?_
      refine XS.iloadN X0.here hx rfl (hb hby d1_22) rfl ?_
      refine XS.iload X0.here hx rfl (hb hby d1_23) rfl ?_
      refine XS.iconst X0.here hx rfl (hb hby d1_25) ?_
      refine iremM (g := (mkF m 26 #[rv o1, iv ((0 : Int32) + (s0 % (2 : Int32))), rv o1, iv (3 : Int32), iv (1 : Int32), iv s1] [(.int (2 : Int32)), (.int s1), (.int ((0 : Int32) + (s0 % (2 : Int32))))])) X0 hx rfl (hb hby d1_26) rfl (by decide) ?_
      refine XS.iadd X0.here hx rfl (hb hby d1_27) rfl ?_
      show Steps p.tables e below (s₁.setTop (mkF m 28 #[rv o1, iv ((0 : Int32) + (s0 % (2 : Int32))), rv o1, iv (3 : Int32), iv (1 : Int32), iv s1] [(.int (((0 : Int32) + (s0 % (2 : Int32))) + (s1 % (2 : Int32))))])) _
      refine XS.istoreN X0.here hx rfl (hb hby d1_28) rfl (l' := #[rv o1, iv (((0 : Int32) + (s0 % (2 : Int32))) + (s1 % (2 : Int32))), rv o1, iv (3 : Int32), iv (1 : Int32), iv s1]) rfl ?_
      refine XS.iinc X0.here hx rfl (hb hby d1_29) rfl (l' := #[rv o1, iv (((0 : Int32) + (s0 % (2 : Int32))) + (s1 % (2 : Int32))), rv o1, iv (3 : Int32), iv (2 : Int32), iv s1]) rfl ?_
      refine XS.goto X0.here hx rfl (pc0 := 32) (pc' := 10) rfl (hb hby d1_32) (by decide) (by decide) ?_
      refine XS.iload X0.here hx rfl (hb hby d1_10) rfl ?_
      refine XS.iloadN X0.here hx rfl (hb hby d1_12) rfl ?_
      refine XS.icmpNo X0.here hx rfl (hb hby d1_13) rfl (tlt (by decide : (2 : Int32) < (3 : Int32))).2.1 ?_
      show Steps p.tables e below (s₁.setTop (mkF m 16 #[rv o1, iv (((0 : Int32) + (s0 % (2 : Int32))) + (s1 % (2 : Int32))), rv o1, iv (3 : Int32), iv (2 : Int32), iv s1] [])) _
      refine XS.aloadN X0.here hx rfl (hb hby d1_16) rfl rfl ?_
      refine XS.iload X0.here hx rfl (hb hby d1_17) rfl ?_
      exact kt)
  obtain ⟨cl270, Ar270, q270, S270, M270, H270, G270⟩ := id Va
  have hin270 : ¬ ((2 : Int32) < 0 ∨ cl270.slots.size ≤ ((2 : Int32)).toNatClampNeg) := inb_of S270 ⟨by decide, by decide⟩
  have hat270 : cl270.slots[((2 : Int32)).toNatClampNeg]? = some (.int s2) := H270.at hin270 rfl
  have go271 : own_S p e below ST s₁ (mkF m 20 #[rv o1, iv (((0 : Int32) + (s0 % (2 : Int32))) + (s1 % (2 : Int32))), rv o1, iv (3 : Int32), iv (2 : Int32), iv s1] [(.int s2)]) := fun tt kt => go269 tt (by
      refine X0.iaload hx (j := (2 : Int32)) (v := (.int s2)) (by rw [e0]; exact Ar270.1) (State.isArrayOf_alike hZ.alike Ar270.2.1) Ar270.2.2 hin270 hat270 (g := (mkF m 19 #[rv o1, iv (((0 : Int32) + (s0 % (2 : Int32))) + (s1 % (2 : Int32))), rv o1, iv (3 : Int32), iv (2 : Int32), iv s1] [(.int (2 : Int32)), (.ref o1)])) rfl rfl (hb hby d1_19) _ ?_
      exact kt)
  have go272 : own_S p e below ST s₁ (mkF m 35 #[rv o1, iv ((((0 : Int32) + (s0 % (2 : Int32))) + (s1 % (2 : Int32))) + (s2 % (2 : Int32))), rv o1, iv (3 : Int32), iv (3 : Int32), iv s2] []) := fun tt kt => go271 tt (by
      refine XS.istore X0.here hx rfl (hb hby d1_20) rfl (l' := #[rv o1, iv (((0 : Int32) + (s0 % (2 : Int32))) + (s1 % (2 : Int32))), rv o1, iv (3 : Int32), iv (2 : Int32), iv s2]) rfl ?_
      refine XS.iloadN X0.here hx rfl (hb hby d1_22) rfl ?_
      refine XS.iload X0.here hx rfl (hb hby d1_23) rfl ?_
      refine XS.iconst X0.here hx rfl (hb hby d1_25) ?_
      refine iremM (g := (mkF m 26 #[rv o1, iv (((0 : Int32) + (s0 % (2 : Int32))) + (s1 % (2 : Int32))), rv o1, iv (3 : Int32), iv (2 : Int32), iv s2] [(.int (2 : Int32)), (.int s2), (.int (((0 : Int32) + (s0 % (2 : Int32))) + (s1 % (2 : Int32))))])) X0 hx rfl (hb hby d1_26) rfl (by decide) ?_
      refine XS.iadd X0.here hx rfl (hb hby d1_27) rfl ?_
      show Steps p.tables e below (s₁.setTop (mkF m 28 #[rv o1, iv (((0 : Int32) + (s0 % (2 : Int32))) + (s1 % (2 : Int32))), rv o1, iv (3 : Int32), iv (2 : Int32), iv s2] [(.int ((((0 : Int32) + (s0 % (2 : Int32))) + (s1 % (2 : Int32))) + (s2 % (2 : Int32))))])) _
      refine XS.istoreN X0.here hx rfl (hb hby d1_28) rfl (l' := #[rv o1, iv ((((0 : Int32) + (s0 % (2 : Int32))) + (s1 % (2 : Int32))) + (s2 % (2 : Int32))), rv o1, iv (3 : Int32), iv (2 : Int32), iv s2]) rfl ?_
      refine XS.iinc X0.here hx rfl (hb hby d1_29) rfl (l' := #[rv o1, iv ((((0 : Int32) + (s0 % (2 : Int32))) + (s1 % (2 : Int32))) + (s2 % (2 : Int32))), rv o1, iv (3 : Int32), iv (3 : Int32), iv s2]) rfl ?_
      refine XS.goto X0.here hx rfl (pc0 := 32) (pc' := 10) rfl (hb hby d1_32) (by decide) (by decide) ?_
      refine XS.iload X0.here hx rfl (hb hby d1_10) rfl ?_
      refine XS.iloadN X0.here hx rfl (hb hby d1_12) rfl ?_
      refine XS.icmpYes X0.here hx rfl (pc0 := 13) (pc' := 35) rfl (hb hby d1_13) rfl (flt (by decide : ¬ ((3 : Int32) < (3 : Int32)))).2.1 (by decide) (by decide) ?_
      exact kt)
  obtain ⟨od, hod⟩ : ∃ z : Int32, z = ((((0 : Int32) + (s0 % (2 : Int32))) + (s1 % (2 : Int32))) + (s2 % (2 : Int32))) := ⟨_, rfl⟩
  rw [← hod] at go272
  have go273 : own_S p e below ST s₁ (mkF m 36 #[rv o1, iv od, rv o1, iv (3 : Int32), iv (3 : Int32), iv s2] [(.ref o1)]) := fun tt kt => go272 tt (by
      refine XS.aloadN X0.here hx rfl (hb hby d1_35) rfl rfl ?_
      exact kt)
  obtain ⟨cl274, Ar274, q274, S274, M274, H274, G274⟩ := id Va
  have go275 : own_S p e below ST s₁ (mkF m 37 #[rv o1, iv od, rv o1, iv (3 : Int32), iv (3 : Int32), iv s2] [(.int (3 : Int32))]) := fun tt kt => go273 tt (by
      refine X0.arraylength hx (by rw [e0]; exact Ar274.1) (State.isArrayOf_alike hZ.alike Ar274.2.1) (g := (mkF m 36 #[rv o1, iv od, rv o1, iv (3 : Int32), iv (3 : Int32), iv s2] [(.ref o1)])) rfl rfl (hb hby d1_36) _ ?_
      rw [len_of S274 M274]
      exact kt)
  obtain ⟨b276, g276⟩ : ∃ z, z = h0.size := ⟨_, rfl⟩
  obtain ⟨T276, h276, k276, X276, e276, E276, A276, st276⟩ := newP X0 hx hZ (W 1 rfl) e0 (g := (mkF m 37 #[rv o1, iv od, rv o1, iv (3 : Int32), iv (3 : Int32), iv s2] [(.int (3 : Int32))])) rfl (hb hby d1_37) rfl (by decide) (cap := 3) (by decide) (by decide) (by decide) (by decide)
  rw [← g276] at A276 st276
  have neo1_b276 : o1 ≠ b276 := Nat.ne_of_lt (Nat.lt_of_lt_of_le Va.lt (Nat.le_of_eq g276.symm))
  have ge_b276 : n0 ≤ b276 := Nat.le_trans Z0 (Nat.le_of_eq g276.symm)
  have sz_b276 : h0.size ≤ b276 := Nat.le_trans KC0.1 (Nat.le_of_eq g276.symm)
  have V276 : Arv Z h276 b276 k276 .int (3 : Int32) [(.int (0 : Int32)), (.int (0 : Int32)), (.int (0 : Int32))] (.int (0 : Int32)) := (Arv.new A276 (by decide)).pad (pad_rep [] (.int (0 : Int32)) 3)
  have KC276 : Keep h0 h276 [] := KC0.ext E276
  have go277 : own_S p e below ST T276 (mkF m 39 #[rv o1, iv od, rv o1, iv (3 : Int32), iv (3 : Int32), iv s2] [(.ref b276)]) := fun tt kt => go275 tt (st276 _ kt)
  have go278 : own_S p e below ST T276 (mkF m 45 #[rv o1, iv od, rv b276, iv (0 : Int32), iv (0 : Int32), iv s2] []) := fun tt kt => go277 tt (by
      refine XS.astoreN X276.here hx rfl (hb hby d1_39) rfl rfl (l' := #[rv o1, iv od, rv b276, iv (3 : Int32), iv (3 : Int32), iv s2]) rfl ?_
      refine XS.iconst X276.here hx rfl (hb hby d1_40) ?_
      refine XS.istoreN X276.here hx rfl (hb hby d1_41) rfl (l' := #[rv o1, iv od, rv b276, iv (0 : Int32), iv (3 : Int32), iv s2]) rfl ?_
      refine XS.iconst X276.here hx rfl (hb hby d1_42) ?_
      refine XS.istore X276.here hx rfl (hb hby d1_43) rfl (l' := #[rv o1, iv od, rv b276, iv (0 : Int32), iv (0 : Int32), iv s2]) rfl ?_
      exact kt)
  have go279 : own_S p e below ST T276 (mkF m 48 #[rv o1, iv od, rv b276, iv (0 : Int32), iv (0 : Int32), iv s2] [(.ref o1), (.int (0 : Int32))]) := fun tt kt => go278 tt (by
      refine XS.iload X276.here hx rfl (hb hby d1_45) rfl ?_
      refine XS.aloadN X276.here hx rfl (hb hby d1_47) rfl rfl ?_
      exact kt)
  have f281 := (Va.ext E276)
  obtain ⟨cl280, Ar280, q280, S280, M280, H280, G280⟩ := id f281
  have go282 : own_S p e below ST T276 (mkF m 49 #[rv o1, iv od, rv b276, iv (0 : Int32), iv (0 : Int32), iv s2] [(.int (3 : Int32)), (.int (0 : Int32))]) := fun tt kt => go279 tt (by
      refine X276.arraylength hx (by rw [e276]; exact Ar280.1) (State.isArrayOf_alike hZ.alike Ar280.2.1) (g := (mkF m 48 #[rv o1, iv od, rv b276, iv (0 : Int32), iv (0 : Int32), iv s2] [(.ref o1), (.int (0 : Int32))])) rfl rfl (hb hby d1_48) _ ?_
      rw [len_of S280 M280]
      exact kt)
  have go283 : own_S p e below ST T276 (mkF m 58 #[rv o1, iv od, rv b276, iv (0 : Int32), iv (0 : Int32), iv s2] [(.int (0 : Int32)), (.ref o1), (.int (0 : Int32)), (.ref b276)]) := fun tt kt => go282 tt (by
      refine XS.icmpNo X276.here hx rfl (hb hby d1_49) rfl (tlt (by decide : (0 : Int32) < (3 : Int32))).2.1 ?_
      refine XS.aloadN X276.here hx rfl (hb hby d1_52) rfl rfl ?_
      refine XS.iload X276.here hx rfl (hb hby d1_53) rfl ?_
      refine XS.aloadN X276.here hx rfl (hb hby d1_55) rfl rfl ?_
      refine XS.iload X276.here hx rfl (hb hby d1_56) rfl ?_
      exact kt)
  obtain ⟨cl284, Ar284, q284, S284, M284, H284, G284⟩ := id f281
  have hin284 : ¬ ((0 : Int32) < 0 ∨ cl284.slots.size ≤ ((0 : Int32)).toNatClampNeg) := inb_of S284 ⟨by decide, by decide⟩
  have hat284 : cl284.slots[((0 : Int32)).toNatClampNeg]? = some (.int s0) := H284.at hin284 rfl
  have go285 : own_S p e below ST T276 (mkF m 59 #[rv o1, iv od, rv b276, iv (0 : Int32), iv (0 : Int32), iv s2] [(.int s0), (.int (0 : Int32)), (.ref b276)]) := fun tt kt => go283 tt (by
      refine X276.iaload hx (j := (0 : Int32)) (v := (.int s0)) (by rw [e276]; exact Ar284.1) (State.isArrayOf_alike hZ.alike Ar284.2.1) Ar284.2.2 hin284 hat284 (g := (mkF m 58 #[rv o1, iv od, rv b276, iv (0 : Int32), iv (0 : Int32), iv s2] [(.int (0 : Int32)), (.ref o1), (.int (0 : Int32)), (.ref b276)])) rfl rfl (hb hby d1_58) _ ?_
      exact kt)
  have go286 : own_S p e below ST T276 (mkF m 61 #[rv o1, iv od, rv b276, iv (0 : Int32), iv (0 : Int32), iv s2] [(.int (s0 / (2 : Int32))), (.int (0 : Int32)), (.ref b276)]) := fun tt kt => go285 tt (by
      refine XS.iconst X276.here hx rfl (hb hby d1_59) ?_
      refine XS.idiv X276.here hx rfl (hb hby d1_60) rfl (by decide) ?_
      exact kt)
  obtain ⟨cl287, Ar287, q287, S287, M287, H287, G287⟩ := id V276
  have hin287 : ¬ ((0 : Int32) < 0 ∨ cl287.slots.size ≤ ((0 : Int32)).toNatClampNeg) := inb_of S287 ⟨by decide, by decide⟩
  obtain ⟨T287, h287, X287, e287, W287, st287⟩ := stI X276 hx hZ e276 Ar287 (j := (0 : Int32)) hin287 (g := (mkF m 61 #[rv o1, iv od, rv b276, iv (0 : Int32), iv (0 : Int32), iv s2] [(.int (s0 / (2 : Int32))), (.int (0 : Int32)), (.ref b276)])) rfl rfl (hb hby d1_61)
  have V287 : Arv Z h287 b276 k276 .int (3 : Int32) [(.int (s0 / (2 : Int32))), (.int (0 : Int32)), (.int (0 : Int32))] (.int (0 : Int32)) := Arv.set Ar287 q287 S287 M287 H287 G287 rfl W287 0 rfl (Nat.le_of_ble_eq_true rfl)
  have N287 := Fr.snoc X287 N0 ge_b276
  have KC287 : Keep h0 h287 [] := KC276.wr W287 (Or.inr sz_b276)
  have go288 : own_S p e below ST T287 (mkF m 62 #[rv o1, iv od, rv b276, iv (0 : Int32), iv (0 : Int32), iv s2] []) := fun tt kt => go286 tt (st287 _ kt)
  have go289 : own_S p e below ST T287 (mkF m 65 #[rv o1, iv od, rv b276, iv (0 : Int32), iv (0 : Int32), iv s2] [(.int (0 : Int32)), (.ref o1)]) := fun tt kt => go288 tt (by
      refine XS.aloadN X287.here hx rfl (hb hby d1_62) rfl rfl ?_
      refine XS.iload X287.here hx rfl (hb hby d1_63) rfl ?_
      exact kt)
  have f291 := (f281.other W287 neo1_b276)
  obtain ⟨cl290, Ar290, q290, S290, M290, H290, G290⟩ := id f291
  have hin290 : ¬ ((0 : Int32) < 0 ∨ cl290.slots.size ≤ ((0 : Int32)).toNatClampNeg) := inb_of S290 ⟨by decide, by decide⟩
  have hat290 : cl290.slots[((0 : Int32)).toNatClampNeg]? = some (.int s0) := H290.at hin290 rfl
  have go292 : own_S p e below ST T287 (mkF m 66 #[rv o1, iv od, rv b276, iv (0 : Int32), iv (0 : Int32), iv s2] [(.int s0)]) := fun tt kt => go289 tt (by
      refine X287.iaload hx (j := (0 : Int32)) (v := (.int s0)) (by rw [e287]; exact Ar290.1) (State.isArrayOf_alike hZ.alike Ar290.2.1) Ar290.2.2 hin290 hat290 (g := (mkF m 65 #[rv o1, iv od, rv b276, iv (0 : Int32), iv (0 : Int32), iv s2] [(.int (0 : Int32)), (.ref o1)])) rfl rfl (hb hby d1_65) _ ?_
      exact kt)
  have go293 : own_S p e below ST T287 (mkF m 68 #[rv o1, iv od, rv b276, iv (0 : Int32), iv (0 : Int32), iv s2] [(.int (s0 % (2 : Int32)))]) := fun tt kt => go292 tt (by
      refine XS.iconst X287.here hx rfl (hb hby d1_66) ?_
      refine iremM (g := (mkF m 67 #[rv o1, iv od, rv b276, iv (0 : Int32), iv (0 : Int32), iv s2] [(.int (2 : Int32)), (.int s0)])) X287 hx rfl (hb hby d1_67) rfl (by decide) ?_
      exact kt)
  have zs294 := (Nat.le_trans (Nat.le_trans Z0 E276.1) (Keep.of_wr W287).1)
  obtain ⟨T308, h308, L308, q1, e0, X308, e308, N308, K308, c308_0, hq1, he0, sg308⟩ : ∃ (T308 : State) (h308 : Heap) (L308 : List Loc) (q1 : Int32) (e0 : Int32), Stand p l e ({ frames := 0, cells := 1, slots := 3, locals := 0 } : Room) s m #[(.ref o1)] below meth c T308 L308 (0 + 1) (0 + 3) ∧ T308.heap = h308 ∧ Fr n0 L308 ∧ Keep h287 h308 [b276] ∧ Arv Z h308 b276 k276 .int (3 : Int32) [(.int e0), (.int (0 : Int32)), (.int (0 : Int32))] (.int (0 : Int32)) ∧ q1 = (if (s0 % (2 : Int32)) = (0 : Int32) then (0 : Int32) else (if (0 : Int32) < (od / (2 : Int32)) then (1 : Int32) else (1 : Int32))) ∧ e0 = (if (s0 % (2 : Int32)) = (0 : Int32) then (s0 / (2 : Int32)) else (if (0 : Int32) < (od / (2 : Int32)) then ((s0 / (2 : Int32)) + (1 : Int32)) else (s0 / (2 : Int32)))) ∧ ∀ tt, Steps p.tables e below (T308.setTop (mkF m 89 #[rv o1, iv od, rv b276, iv q1, iv (0 : Int32), iv s2] [])) tt → Steps p.tables e below (T287.setTop (mkF m 68 #[rv o1, iv od, rv b276, iv (0 : Int32), iv (0 : Int32), iv s2] [(.int (s0 % (2 : Int32)))])) tt := by
    by_cases hj68_0 : (s0 % (2 : Int32)) = (0 : Int32)
    · have go295 : own_S p e below (T287.setTop (mkF m 68 #[rv o1, iv od, rv b276, iv (0 : Int32), iv (0 : Int32), iv s2] [(.int (s0 % (2 : Int32)))])) T287 (mkF m 89 #[rv o1, iv od, rv b276, iv (0 : Int32), iv (0 : Int32), iv s2] []) := fun tt kt => (fun (tt : State) (kt : Steps p.tables e below (T287.setTop (mkF m 68 #[rv o1, iv od, rv b276, iv (0 : Int32), iv (0 : Int32), iv s2] [(.int (s0 % (2 : Int32)))])) tt) => kt) tt (by
          refine XS.ifYes X287.here hx rfl (pc0 := 68) (pc' := 89) rfl (hb hby d1_68) rfl ((if0 _ _).trans (teq hj68_0).1) (by decide) (by decide) ?_
          exact kt)
      exact ⟨T287, h287, _, (0 : Int32), (s0 / (2 : Int32)), X287, e287, N287, (Keep.refl h287 [b276]), V287, (if_pos hj68_0).symm, (if_pos hj68_0).symm, go295⟩
    · have go296 : own_S p e below (T287.setTop (mkF m 68 #[rv o1, iv od, rv b276, iv (0 : Int32), iv (0 : Int32), iv s2] [(.int (s0 % (2 : Int32)))])) T287 (mkF m 71 #[rv o1, iv od, rv b276, iv (0 : Int32), iv (0 : Int32), iv s2] []) := fun tt kt => (fun (tt : State) (kt : Steps p.tables e below (T287.setTop (mkF m 68 #[rv o1, iv od, rv b276, iv (0 : Int32), iv (0 : Int32), iv s2] [(.int (s0 % (2 : Int32)))])) tt) => kt) tt (by
          refine XS.ifNo X287.here hx rfl (hb hby d1_68) rfl ((if0 _ _).trans (feq hj68_0).1) ?_
          exact kt)
      have go297 : own_S p e below (T287.setTop (mkF m 68 #[rv o1, iv od, rv b276, iv (0 : Int32), iv (0 : Int32), iv s2] [(.int (s0 % (2 : Int32)))])) T287 (mkF m 75 #[rv o1, iv od, rv b276, iv (0 : Int32), iv (0 : Int32), iv s2] [(.int (od / (2 : Int32))), (.int (0 : Int32))]) := fun tt kt => go296 tt (by
          refine XS.iloadN X287.here hx rfl (hb hby d1_71) rfl ?_
          refine XS.iloadN X287.here hx rfl (hb hby d1_72) rfl ?_
          refine XS.iconst X287.here hx rfl (hb hby d1_73) ?_
          refine XS.idiv X287.here hx rfl (hb hby d1_74) rfl (by decide) ?_
          exact kt)
      by_cases hj75_1 : (0 : Int32) < (od / (2 : Int32))
      · have go298 : own_S p e below (T287.setTop (mkF m 68 #[rv o1, iv od, rv b276, iv (0 : Int32), iv (0 : Int32), iv s2] [(.int (s0 % (2 : Int32)))])) T287 (mkF m 78 #[rv o1, iv od, rv b276, iv (0 : Int32), iv (0 : Int32), iv s2] []) := fun tt kt => go297 tt (by
            refine XS.icmpNo X287.here hx rfl (hb hby d1_75) rfl (tlt hj75_1).2.1 ?_
            exact kt)
        have go299 : own_S p e below (T287.setTop (mkF m 68 #[rv o1, iv od, rv b276, iv (0 : Int32), iv (0 : Int32), iv s2] [(.int (s0 % (2 : Int32)))])) T287 (mkF m 82 #[rv o1, iv od, rv b276, iv (0 : Int32), iv (0 : Int32), iv s2] [(.int (0 : Int32)), (.ref b276), (.int (0 : Int32)), (.ref b276)]) := fun tt kt => go298 tt (by
            refine XS.aloadN X287.here hx rfl (hb hby d1_78) rfl rfl ?_
            refine XS.iload X287.here hx rfl (hb hby d1_79) rfl ?_
            refine XT.dup2 X287.here hx rfl (hb hby d1_81) rfl rfl rfl ?_
            exact kt)
        obtain ⟨cl300, Ar300, q300, S300, M300, H300, G300⟩ := id V287
        have hin300 : ¬ ((0 : Int32) < 0 ∨ cl300.slots.size ≤ ((0 : Int32)).toNatClampNeg) := inb_of S300 ⟨by decide, by decide⟩
        have hat300 : cl300.slots[((0 : Int32)).toNatClampNeg]? = some (.int (s0 / (2 : Int32))) := H300.at hin300 rfl
        have go301 : own_S p e below (T287.setTop (mkF m 68 #[rv o1, iv od, rv b276, iv (0 : Int32), iv (0 : Int32), iv s2] [(.int (s0 % (2 : Int32)))])) T287 (mkF m 83 #[rv o1, iv od, rv b276, iv (0 : Int32), iv (0 : Int32), iv s2] [(.int (s0 / (2 : Int32))), (.int (0 : Int32)), (.ref b276)]) := fun tt kt => go299 tt (by
            refine X287.iaload hx (j := (0 : Int32)) (v := (.int (s0 / (2 : Int32)))) (by rw [e287]; exact Ar300.1) (State.isArrayOf_alike hZ.alike Ar300.2.1) Ar300.2.2 hin300 hat300 (g := (mkF m 82 #[rv o1, iv od, rv b276, iv (0 : Int32), iv (0 : Int32), iv s2] [(.int (0 : Int32)), (.ref b276), (.int (0 : Int32)), (.ref b276)])) rfl rfl (hb hby d1_82) _ ?_
            exact kt)
        have go302 : own_S p e below (T287.setTop (mkF m 68 #[rv o1, iv od, rv b276, iv (0 : Int32), iv (0 : Int32), iv s2] [(.int (s0 % (2 : Int32)))])) T287 (mkF m 85 #[rv o1, iv od, rv b276, iv (0 : Int32), iv (0 : Int32), iv s2] [(.int ((s0 / (2 : Int32)) + (1 : Int32))), (.int (0 : Int32)), (.ref b276)]) := fun tt kt => go301 tt (by
            refine XS.iconst X287.here hx rfl (hb hby d1_83) ?_
            refine XS.iadd X287.here hx rfl (hb hby d1_84) rfl ?_
            exact kt)
        obtain ⟨cl303, Ar303, q303, S303, M303, H303, G303⟩ := id V287
        have hin303 : ¬ ((0 : Int32) < 0 ∨ cl303.slots.size ≤ ((0 : Int32)).toNatClampNeg) := inb_of S303 ⟨by decide, by decide⟩
        obtain ⟨T303, h303, X303, e303, W303, st303⟩ := stI X287 hx hZ e287 Ar303 (j := (0 : Int32)) hin303 (g := (mkF m 85 #[rv o1, iv od, rv b276, iv (0 : Int32), iv (0 : Int32), iv s2] [(.int ((s0 / (2 : Int32)) + (1 : Int32))), (.int (0 : Int32)), (.ref b276)])) rfl rfl (hb hby d1_85)
        have V303 : Arv Z h303 b276 k276 .int (3 : Int32) [(.int ((s0 / (2 : Int32)) + (1 : Int32))), (.int (0 : Int32)), (.int (0 : Int32))] (.int (0 : Int32)) := Arv.set Ar303 q303 S303 M303 H303 G303 rfl W303 0 rfl (Nat.le_of_ble_eq_true rfl)
        have N303 := Fr.snoc X303 N287 ge_b276
        have kj303 : Keep h287 h303 [b276] := (Keep.refl h287 [b276]).wr W303 (Or.inl (List.mem_of_getElem? (i := 0) rfl))
        have KC303 : Keep h0 h303 [] := KC287.wr W303 (Or.inr sz_b276)
        have go304 : own_S p e below (T287.setTop (mkF m 68 #[rv o1, iv od, rv b276, iv (0 : Int32), iv (0 : Int32), iv s2] [(.int (s0 % (2 : Int32)))])) T303 (mkF m 86 #[rv o1, iv od, rv b276, iv (0 : Int32), iv (0 : Int32), iv s2] []) := fun tt kt => go302 tt (st303 _ kt)
        have go305 : own_S p e below (T287.setTop (mkF m 68 #[rv o1, iv od, rv b276, iv (0 : Int32), iv (0 : Int32), iv s2] [(.int (s0 % (2 : Int32)))])) T303 (mkF m 89 #[rv o1, iv od, rv b276, iv (1 : Int32), iv (0 : Int32), iv s2] []) := fun tt kt => go304 tt (by
            refine XS.iinc X303.here hx rfl (hb hby d1_86) rfl (l' := #[rv o1, iv od, rv b276, iv (1 : Int32), iv (0 : Int32), iv s2]) rfl ?_
            exact kt)
        exact ⟨T303, h303, _, (1 : Int32), ((s0 / (2 : Int32)) + (1 : Int32)), X303, e303, N303, kj303, V303, ((if_neg hj68_0).trans (if_pos hj75_1)).symm, ((if_neg hj68_0).trans (if_pos hj75_1)).symm, go305⟩
      · have go306 : own_S p e below (T287.setTop (mkF m 68 #[rv o1, iv od, rv b276, iv (0 : Int32), iv (0 : Int32), iv s2] [(.int (s0 % (2 : Int32)))])) T287 (mkF m 86 #[rv o1, iv od, rv b276, iv (0 : Int32), iv (0 : Int32), iv s2] []) := fun tt kt => go297 tt (by
            refine XS.icmpYes X287.here hx rfl (pc0 := 75) (pc' := 86) rfl (hb hby d1_75) rfl (flt hj75_1).2.1 (by decide) (by decide) ?_
            exact kt)
        have go307 : own_S p e below (T287.setTop (mkF m 68 #[rv o1, iv od, rv b276, iv (0 : Int32), iv (0 : Int32), iv s2] [(.int (s0 % (2 : Int32)))])) T287 (mkF m 89 #[rv o1, iv od, rv b276, iv (1 : Int32), iv (0 : Int32), iv s2] []) := fun tt kt => go306 tt (by
            refine XS.iinc X287.here hx rfl (hb hby d1_86) rfl (l' := #[rv o1, iv od, rv b276, iv (1 : Int32), iv (0 : Int32), iv s2]) rfl ?_
            exact kt)
        exact ⟨T287, h287, _, (1 : Int32), (s0 / (2 : Int32)), X287, e287, N287, (Keep.refl h287 [b276]), V287, ((if_neg hj68_0).trans (if_neg hj75_1)).symm, ((if_neg hj68_0).trans (if_neg hj75_1)).symm, go307⟩
  have KC308 : Keep h0 h308 [] := KC287.trans K308 (allS (Or.inr sz_b276) all0)
  have go309 : own_S p e below ST T308 (mkF m 89 #[rv o1, iv od, rv b276, iv q1, iv (0 : Int32), iv s2] []) := fun tt kt => go293 tt (sg308 _ kt)
  have go310 : own_S p e below ST T308 (mkF m 45 #[rv o1, iv od, rv b276, iv q1, iv (1 : Int32), iv s2] []) := fun tt kt => go309 tt (by
      refine XS.iinc X308.here hx rfl (hb hby d1_89) rfl (l' := #[rv o1, iv od, rv b276, iv q1, iv (1 : Int32), iv s2]) rfl ?_
      refine XS.goto X308.here hx rfl (pc0 := 92) (pc' := 45) rfl (hb hby d1_92) (by decide) (by decide) ?_
      exact kt)
  have go311 : own_S p e below ST T308 (mkF m 48 #[rv o1, iv od, rv b276, iv q1, iv (1 : Int32), iv s2] [(.ref o1), (.int (1 : Int32))]) := fun tt kt => go310 tt (by
      refine XS.iload X308.here hx rfl (hb hby d1_45) rfl ?_
      refine XS.aloadN X308.here hx rfl (hb hby d1_47) rfl rfl ?_
      exact kt)
  have f313 := (f291.keep K308 (ninS neo1_b276 nin0))
  obtain ⟨cl312, Ar312, q312, S312, M312, H312, G312⟩ := id f313
  have go314 : own_S p e below ST T308 (mkF m 49 #[rv o1, iv od, rv b276, iv q1, iv (1 : Int32), iv s2] [(.int (3 : Int32)), (.int (1 : Int32))]) := fun tt kt => go311 tt (by
      refine X308.arraylength hx (by rw [e308]; exact Ar312.1) (State.isArrayOf_alike hZ.alike Ar312.2.1) (g := (mkF m 48 #[rv o1, iv od, rv b276, iv q1, iv (1 : Int32), iv s2] [(.ref o1), (.int (1 : Int32))])) rfl rfl (hb hby d1_48) _ ?_
      rw [len_of S312 M312]
      exact kt)
  have go315 : own_S p e below ST T308 (mkF m 58 #[rv o1, iv od, rv b276, iv q1, iv (1 : Int32), iv s2] [(.int (1 : Int32)), (.ref o1), (.int (1 : Int32)), (.ref b276)]) := fun tt kt => go314 tt (by
      refine XS.icmpNo X308.here hx rfl (hb hby d1_49) rfl (tlt (by decide : (1 : Int32) < (3 : Int32))).2.1 ?_
      refine XS.aloadN X308.here hx rfl (hb hby d1_52) rfl rfl ?_
      refine XS.iload X308.here hx rfl (hb hby d1_53) rfl ?_
      refine XS.aloadN X308.here hx rfl (hb hby d1_55) rfl rfl ?_
      refine XS.iload X308.here hx rfl (hb hby d1_56) rfl ?_
      exact kt)
  obtain ⟨cl316, Ar316, q316, S316, M316, H316, G316⟩ := id f313
  have hin316 : ¬ ((1 : Int32) < 0 ∨ cl316.slots.size ≤ ((1 : Int32)).toNatClampNeg) := inb_of S316 ⟨by decide, by decide⟩
  have hat316 : cl316.slots[((1 : Int32)).toNatClampNeg]? = some (.int s1) := H316.at hin316 rfl
  have go317 : own_S p e below ST T308 (mkF m 59 #[rv o1, iv od, rv b276, iv q1, iv (1 : Int32), iv s2] [(.int s1), (.int (1 : Int32)), (.ref b276)]) := fun tt kt => go315 tt (by
      refine X308.iaload hx (j := (1 : Int32)) (v := (.int s1)) (by rw [e308]; exact Ar316.1) (State.isArrayOf_alike hZ.alike Ar316.2.1) Ar316.2.2 hin316 hat316 (g := (mkF m 58 #[rv o1, iv od, rv b276, iv q1, iv (1 : Int32), iv s2] [(.int (1 : Int32)), (.ref o1), (.int (1 : Int32)), (.ref b276)])) rfl rfl (hb hby d1_58) _ ?_
      exact kt)
  have go318 : own_S p e below ST T308 (mkF m 61 #[rv o1, iv od, rv b276, iv q1, iv (1 : Int32), iv s2] [(.int (s1 / (2 : Int32))), (.int (1 : Int32)), (.ref b276)]) := fun tt kt => go317 tt (by
      refine XS.iconst X308.here hx rfl (hb hby d1_59) ?_
      refine XS.idiv X308.here hx rfl (hb hby d1_60) rfl (by decide) ?_
      exact kt)
  obtain ⟨cl319, Ar319, q319, S319, M319, H319, G319⟩ := id c308_0
  have hin319 : ¬ ((1 : Int32) < 0 ∨ cl319.slots.size ≤ ((1 : Int32)).toNatClampNeg) := inb_of S319 ⟨by decide, by decide⟩
  obtain ⟨T319, h319, X319, e319, W319, st319⟩ := stI X308 hx hZ e308 Ar319 (j := (1 : Int32)) hin319 (g := (mkF m 61 #[rv o1, iv od, rv b276, iv q1, iv (1 : Int32), iv s2] [(.int (s1 / (2 : Int32))), (.int (1 : Int32)), (.ref b276)])) rfl rfl (hb hby d1_61)
  have V319 : Arv Z h319 b276 k276 .int (3 : Int32) [(.int e0), (.int (s1 / (2 : Int32))), (.int (0 : Int32))] (.int (0 : Int32)) := Arv.set Ar319 q319 S319 M319 H319 G319 rfl W319 1 rfl (Nat.le_of_ble_eq_true rfl)
  have N319 := Fr.snoc X319 N308 ge_b276
  have KC319 : Keep h0 h319 [] := KC308.wr W319 (Or.inr sz_b276)
  have go320 : own_S p e below ST T319 (mkF m 62 #[rv o1, iv od, rv b276, iv q1, iv (1 : Int32), iv s2] []) := fun tt kt => go318 tt (st319 _ kt)
  have go321 : own_S p e below ST T319 (mkF m 65 #[rv o1, iv od, rv b276, iv q1, iv (1 : Int32), iv s2] [(.int (1 : Int32)), (.ref o1)]) := fun tt kt => go320 tt (by
      refine XS.aloadN X319.here hx rfl (hb hby d1_62) rfl rfl ?_
      refine XS.iload X319.here hx rfl (hb hby d1_63) rfl ?_
      exact kt)
  have f323 := (f313.other W319 neo1_b276)
  obtain ⟨cl322, Ar322, q322, S322, M322, H322, G322⟩ := id f323
  have hin322 : ¬ ((1 : Int32) < 0 ∨ cl322.slots.size ≤ ((1 : Int32)).toNatClampNeg) := inb_of S322 ⟨by decide, by decide⟩
  have hat322 : cl322.slots[((1 : Int32)).toNatClampNeg]? = some (.int s1) := H322.at hin322 rfl
  have go324 : own_S p e below ST T319 (mkF m 66 #[rv o1, iv od, rv b276, iv q1, iv (1 : Int32), iv s2] [(.int s1)]) := fun tt kt => go321 tt (by
      refine X319.iaload hx (j := (1 : Int32)) (v := (.int s1)) (by rw [e319]; exact Ar322.1) (State.isArrayOf_alike hZ.alike Ar322.2.1) Ar322.2.2 hin322 hat322 (g := (mkF m 65 #[rv o1, iv od, rv b276, iv q1, iv (1 : Int32), iv s2] [(.int (1 : Int32)), (.ref o1)])) rfl rfl (hb hby d1_65) _ ?_
      exact kt)
  have go325 : own_S p e below ST T319 (mkF m 68 #[rv o1, iv od, rv b276, iv q1, iv (1 : Int32), iv s2] [(.int (s1 % (2 : Int32)))]) := fun tt kt => go324 tt (by
      refine XS.iconst X319.here hx rfl (hb hby d1_66) ?_
      refine iremM (g := (mkF m 67 #[rv o1, iv od, rv b276, iv q1, iv (1 : Int32), iv s2] [(.int (2 : Int32)), (.int s1)])) X319 hx rfl (hb hby d1_67) rfl (by decide) ?_
      exact kt)
  have zs326 := (Nat.le_trans (Nat.le_trans zs294 K308.1) (Keep.of_wr W319).1)
  obtain ⟨T340, h340, L340, q2, e1, X340, e340, N340, K340, c340_0, hq2, he1, sg340⟩ : ∃ (T340 : State) (h340 : Heap) (L340 : List Loc) (q2 : Int32) (e1 : Int32), Stand p l e ({ frames := 0, cells := 1, slots := 3, locals := 0 } : Room) s m #[(.ref o1)] below meth c T340 L340 (0 + 1) (0 + 3) ∧ T340.heap = h340 ∧ Fr n0 L340 ∧ Keep h319 h340 [b276] ∧ Arv Z h340 b276 k276 .int (3 : Int32) [(.int e0), (.int e1), (.int (0 : Int32))] (.int (0 : Int32)) ∧ q2 = (if (s1 % (2 : Int32)) = (0 : Int32) then q1 else (if q1 < (od / (2 : Int32)) then (q1 + (1 : Int32)) else (q1 + (1 : Int32)))) ∧ e1 = (if (s1 % (2 : Int32)) = (0 : Int32) then (s1 / (2 : Int32)) else (if q1 < (od / (2 : Int32)) then ((s1 / (2 : Int32)) + (1 : Int32)) else (s1 / (2 : Int32)))) ∧ ∀ tt, Steps p.tables e below (T340.setTop (mkF m 89 #[rv o1, iv od, rv b276, iv q2, iv (1 : Int32), iv s2] [])) tt → Steps p.tables e below (T319.setTop (mkF m 68 #[rv o1, iv od, rv b276, iv q1, iv (1 : Int32), iv s2] [(.int (s1 % (2 : Int32)))])) tt := by
    by_cases hj68_0 : (s1 % (2 : Int32)) = (0 : Int32)
    · have go327 : own_S p e below (T319.setTop (mkF m 68 #[rv o1, iv od, rv b276, iv q1, iv (1 : Int32), iv s2] [(.int (s1 % (2 : Int32)))])) T319 (mkF m 89 #[rv o1, iv od, rv b276, iv q1, iv (1 : Int32), iv s2] []) := fun tt kt => (fun (tt : State) (kt : Steps p.tables e below (T319.setTop (mkF m 68 #[rv o1, iv od, rv b276, iv q1, iv (1 : Int32), iv s2] [(.int (s1 % (2 : Int32)))])) tt) => kt) tt (by
          refine XS.ifYes X319.here hx rfl (pc0 := 68) (pc' := 89) rfl (hb hby d1_68) rfl ((if0 _ _).trans (teq hj68_0).1) (by decide) (by decide) ?_
          exact kt)
      exact ⟨T319, h319, _, q1, (s1 / (2 : Int32)), X319, e319, N319, (Keep.refl h319 [b276]), V319, (if_pos hj68_0).symm, (if_pos hj68_0).symm, go327⟩
    · have go328 : own_S p e below (T319.setTop (mkF m 68 #[rv o1, iv od, rv b276, iv q1, iv (1 : Int32), iv s2] [(.int (s1 % (2 : Int32)))])) T319 (mkF m 71 #[rv o1, iv od, rv b276, iv q1, iv (1 : Int32), iv s2] []) := fun tt kt => (fun (tt : State) (kt : Steps p.tables e below (T319.setTop (mkF m 68 #[rv o1, iv od, rv b276, iv q1, iv (1 : Int32), iv s2] [(.int (s1 % (2 : Int32)))])) tt) => kt) tt (by
          refine XS.ifNo X319.here hx rfl (hb hby d1_68) rfl ((if0 _ _).trans (feq hj68_0).1) ?_
          exact kt)
      have go329 : own_S p e below (T319.setTop (mkF m 68 #[rv o1, iv od, rv b276, iv q1, iv (1 : Int32), iv s2] [(.int (s1 % (2 : Int32)))])) T319 (mkF m 75 #[rv o1, iv od, rv b276, iv q1, iv (1 : Int32), iv s2] [(.int (od / (2 : Int32))), (.int q1)]) := fun tt kt => go328 tt (by
          refine XS.iloadN X319.here hx rfl (hb hby d1_71) rfl ?_
          refine XS.iloadN X319.here hx rfl (hb hby d1_72) rfl ?_
          refine XS.iconst X319.here hx rfl (hb hby d1_73) ?_
          refine XS.idiv X319.here hx rfl (hb hby d1_74) rfl (by decide) ?_
          exact kt)
      by_cases hj75_1 : q1 < (od / (2 : Int32))
      · have go330 : own_S p e below (T319.setTop (mkF m 68 #[rv o1, iv od, rv b276, iv q1, iv (1 : Int32), iv s2] [(.int (s1 % (2 : Int32)))])) T319 (mkF m 78 #[rv o1, iv od, rv b276, iv q1, iv (1 : Int32), iv s2] []) := fun tt kt => go329 tt (by
            refine XS.icmpNo X319.here hx rfl (hb hby d1_75) rfl (tlt hj75_1).2.1 ?_
            exact kt)
        have go331 : own_S p e below (T319.setTop (mkF m 68 #[rv o1, iv od, rv b276, iv q1, iv (1 : Int32), iv s2] [(.int (s1 % (2 : Int32)))])) T319 (mkF m 82 #[rv o1, iv od, rv b276, iv q1, iv (1 : Int32), iv s2] [(.int (1 : Int32)), (.ref b276), (.int (1 : Int32)), (.ref b276)]) := fun tt kt => go330 tt (by
            refine XS.aloadN X319.here hx rfl (hb hby d1_78) rfl rfl ?_
            refine XS.iload X319.here hx rfl (hb hby d1_79) rfl ?_
            refine XT.dup2 X319.here hx rfl (hb hby d1_81) rfl rfl rfl ?_
            exact kt)
        obtain ⟨cl332, Ar332, q332, S332, M332, H332, G332⟩ := id V319
        have hin332 : ¬ ((1 : Int32) < 0 ∨ cl332.slots.size ≤ ((1 : Int32)).toNatClampNeg) := inb_of S332 ⟨by decide, by decide⟩
        have hat332 : cl332.slots[((1 : Int32)).toNatClampNeg]? = some (.int (s1 / (2 : Int32))) := H332.at hin332 rfl
        have go333 : own_S p e below (T319.setTop (mkF m 68 #[rv o1, iv od, rv b276, iv q1, iv (1 : Int32), iv s2] [(.int (s1 % (2 : Int32)))])) T319 (mkF m 83 #[rv o1, iv od, rv b276, iv q1, iv (1 : Int32), iv s2] [(.int (s1 / (2 : Int32))), (.int (1 : Int32)), (.ref b276)]) := fun tt kt => go331 tt (by
            refine X319.iaload hx (j := (1 : Int32)) (v := (.int (s1 / (2 : Int32)))) (by rw [e319]; exact Ar332.1) (State.isArrayOf_alike hZ.alike Ar332.2.1) Ar332.2.2 hin332 hat332 (g := (mkF m 82 #[rv o1, iv od, rv b276, iv q1, iv (1 : Int32), iv s2] [(.int (1 : Int32)), (.ref b276), (.int (1 : Int32)), (.ref b276)])) rfl rfl (hb hby d1_82) _ ?_
            exact kt)
        have go334 : own_S p e below (T319.setTop (mkF m 68 #[rv o1, iv od, rv b276, iv q1, iv (1 : Int32), iv s2] [(.int (s1 % (2 : Int32)))])) T319 (mkF m 85 #[rv o1, iv od, rv b276, iv q1, iv (1 : Int32), iv s2] [(.int ((s1 / (2 : Int32)) + (1 : Int32))), (.int (1 : Int32)), (.ref b276)]) := fun tt kt => go333 tt (by
            refine XS.iconst X319.here hx rfl (hb hby d1_83) ?_
            refine XS.iadd X319.here hx rfl (hb hby d1_84) rfl ?_
            exact kt)
        obtain ⟨cl335, Ar335, q335, S335, M335, H335, G335⟩ := id V319
        have hin335 : ¬ ((1 : Int32) < 0 ∨ cl335.slots.size ≤ ((1 : Int32)).toNatClampNeg) := inb_of S335 ⟨by decide, by decide⟩
        obtain ⟨T335, h335, X335, e335, W335, st335⟩ := stI X319 hx hZ e319 Ar335 (j := (1 : Int32)) hin335 (g := (mkF m 85 #[rv o1, iv od, rv b276, iv q1, iv (1 : Int32), iv s2] [(.int ((s1 / (2 : Int32)) + (1 : Int32))), (.int (1 : Int32)), (.ref b276)])) rfl rfl (hb hby d1_85)
        have V335 : Arv Z h335 b276 k276 .int (3 : Int32) [(.int e0), (.int ((s1 / (2 : Int32)) + (1 : Int32))), (.int (0 : Int32))] (.int (0 : Int32)) := Arv.set Ar335 q335 S335 M335 H335 G335 rfl W335 1 rfl (Nat.le_of_ble_eq_true rfl)
        have N335 := Fr.snoc X335 N319 ge_b276
        have kj335 : Keep h319 h335 [b276] := (Keep.refl h319 [b276]).wr W335 (Or.inl (List.mem_of_getElem? (i := 0) rfl))
        have KC335 : Keep h0 h335 [] := KC319.wr W335 (Or.inr sz_b276)
        have go336 : own_S p e below (T319.setTop (mkF m 68 #[rv o1, iv od, rv b276, iv q1, iv (1 : Int32), iv s2] [(.int (s1 % (2 : Int32)))])) T335 (mkF m 86 #[rv o1, iv od, rv b276, iv q1, iv (1 : Int32), iv s2] []) := fun tt kt => go334 tt (st335 _ kt)
        have go337 : own_S p e below (T319.setTop (mkF m 68 #[rv o1, iv od, rv b276, iv q1, iv (1 : Int32), iv s2] [(.int (s1 % (2 : Int32)))])) T335 (mkF m 89 #[rv o1, iv od, rv b276, iv (q1 + (1 : Int32)), iv (1 : Int32), iv s2] []) := fun tt kt => go336 tt (by
            refine XS.iinc X335.here hx rfl (hb hby d1_86) rfl (l' := #[rv o1, iv od, rv b276, iv (q1 + (1 : Int32)), iv (1 : Int32), iv s2]) rfl ?_
            exact kt)
        exact ⟨T335, h335, _, (q1 + (1 : Int32)), ((s1 / (2 : Int32)) + (1 : Int32)), X335, e335, N335, kj335, V335, ((if_neg hj68_0).trans (if_pos hj75_1)).symm, ((if_neg hj68_0).trans (if_pos hj75_1)).symm, go337⟩
      · have go338 : own_S p e below (T319.setTop (mkF m 68 #[rv o1, iv od, rv b276, iv q1, iv (1 : Int32), iv s2] [(.int (s1 % (2 : Int32)))])) T319 (mkF m 86 #[rv o1, iv od, rv b276, iv q1, iv (1 : Int32), iv s2] []) := fun tt kt => go329 tt (by
            refine XS.icmpYes X319.here hx rfl (pc0 := 75) (pc' := 86) rfl (hb hby d1_75) rfl (flt hj75_1).2.1 (by decide) (by decide) ?_
            exact kt)
        have go339 : own_S p e below (T319.setTop (mkF m 68 #[rv o1, iv od, rv b276, iv q1, iv (1 : Int32), iv s2] [(.int (s1 % (2 : Int32)))])) T319 (mkF m 89 #[rv o1, iv od, rv b276, iv (q1 + (1 : Int32)), iv (1 : Int32), iv s2] []) := fun tt kt => go338 tt (by
            refine XS.iinc X319.here hx rfl (hb hby d1_86) rfl (l' := #[rv o1, iv od, rv b276, iv (q1 + (1 : Int32)), iv (1 : Int32), iv s2]) rfl ?_
            exact kt)
        exact ⟨T319, h319, _, (q1 + (1 : Int32)), (s1 / (2 : Int32)), X319, e319, N319, (Keep.refl h319 [b276]), V319, ((if_neg hj68_0).trans (if_neg hj75_1)).symm, ((if_neg hj68_0).trans (if_neg hj75_1)).symm, go339⟩
  have KC340 : Keep h0 h340 [] := KC319.trans K340 (allS (Or.inr sz_b276) all0)
  have go341 : own_S p e below ST T340 (mkF m 89 #[rv o1, iv od, rv b276, iv q2, iv (1 : Int32), iv s2] []) := fun tt kt => go325 tt (sg340 _ kt)
  have go342 : own_S p e below ST T340 (mkF m 45 #[rv o1, iv od, rv b276, iv q2, iv (2 : Int32), iv s2] []) := fun tt kt => go341 tt (by
      refine XS.iinc X340.here hx rfl (hb hby d1_89) rfl (l' := #[rv o1, iv od, rv b276, iv q2, iv (2 : Int32), iv s2]) rfl ?_
      refine XS.goto X340.here hx rfl (pc0 := 92) (pc' := 45) rfl (hb hby d1_92) (by decide) (by decide) ?_
      exact kt)
  have go343 : own_S p e below ST T340 (mkF m 48 #[rv o1, iv od, rv b276, iv q2, iv (2 : Int32), iv s2] [(.ref o1), (.int (2 : Int32))]) := fun tt kt => go342 tt (by
      refine XS.iload X340.here hx rfl (hb hby d1_45) rfl ?_
      refine XS.aloadN X340.here hx rfl (hb hby d1_47) rfl rfl ?_
      exact kt)
  have f345 := (f323.keep K340 (ninS neo1_b276 nin0))
  obtain ⟨cl344, Ar344, q344, S344, M344, H344, G344⟩ := id f345
  have go346 : own_S p e below ST T340 (mkF m 49 #[rv o1, iv od, rv b276, iv q2, iv (2 : Int32), iv s2] [(.int (3 : Int32)), (.int (2 : Int32))]) := fun tt kt => go343 tt (by
      refine X340.arraylength hx (by rw [e340]; exact Ar344.1) (State.isArrayOf_alike hZ.alike Ar344.2.1) (g := (mkF m 48 #[rv o1, iv od, rv b276, iv q2, iv (2 : Int32), iv s2] [(.ref o1), (.int (2 : Int32))])) rfl rfl (hb hby d1_48) _ ?_
      rw [len_of S344 M344]
      exact kt)
  have go347 : own_S p e below ST T340 (mkF m 58 #[rv o1, iv od, rv b276, iv q2, iv (2 : Int32), iv s2] [(.int (2 : Int32)), (.ref o1), (.int (2 : Int32)), (.ref b276)]) := fun tt kt => go346 tt (by
      refine XS.icmpNo X340.here hx rfl (hb hby d1_49) rfl (tlt (by decide : (2 : Int32) < (3 : Int32))).2.1 ?_
      refine XS.aloadN X340.here hx rfl (hb hby d1_52) rfl rfl ?_
      refine XS.iload X340.here hx rfl (hb hby d1_53) rfl ?_
      refine XS.aloadN X340.here hx rfl (hb hby d1_55) rfl rfl ?_
      refine XS.iload X340.here hx rfl (hb hby d1_56) rfl ?_
      exact kt)
  obtain ⟨cl348, Ar348, q348, S348, M348, H348, G348⟩ := id f345
  have hin348 : ¬ ((2 : Int32) < 0 ∨ cl348.slots.size ≤ ((2 : Int32)).toNatClampNeg) := inb_of S348 ⟨by decide, by decide⟩
  have hat348 : cl348.slots[((2 : Int32)).toNatClampNeg]? = some (.int s2) := H348.at hin348 rfl
  have go349 : own_S p e below ST T340 (mkF m 59 #[rv o1, iv od, rv b276, iv q2, iv (2 : Int32), iv s2] [(.int s2), (.int (2 : Int32)), (.ref b276)]) := fun tt kt => go347 tt (by
      refine X340.iaload hx (j := (2 : Int32)) (v := (.int s2)) (by rw [e340]; exact Ar348.1) (State.isArrayOf_alike hZ.alike Ar348.2.1) Ar348.2.2 hin348 hat348 (g := (mkF m 58 #[rv o1, iv od, rv b276, iv q2, iv (2 : Int32), iv s2] [(.int (2 : Int32)), (.ref o1), (.int (2 : Int32)), (.ref b276)])) rfl rfl (hb hby d1_58) _ ?_
      exact kt)
  have go350 : own_S p e below ST T340 (mkF m 61 #[rv o1, iv od, rv b276, iv q2, iv (2 : Int32), iv s2] [(.int (s2 / (2 : Int32))), (.int (2 : Int32)), (.ref b276)]) := fun tt kt => go349 tt (by
      refine XS.iconst X340.here hx rfl (hb hby d1_59) ?_
      refine XS.idiv X340.here hx rfl (hb hby d1_60) rfl (by decide) ?_
      exact kt)
  obtain ⟨cl351, Ar351, q351, S351, M351, H351, G351⟩ := id c340_0
  have hin351 : ¬ ((2 : Int32) < 0 ∨ cl351.slots.size ≤ ((2 : Int32)).toNatClampNeg) := inb_of S351 ⟨by decide, by decide⟩
  obtain ⟨T351, h351, X351, e351, W351, st351⟩ := stI X340 hx hZ e340 Ar351 (j := (2 : Int32)) hin351 (g := (mkF m 61 #[rv o1, iv od, rv b276, iv q2, iv (2 : Int32), iv s2] [(.int (s2 / (2 : Int32))), (.int (2 : Int32)), (.ref b276)])) rfl rfl (hb hby d1_61)
  have V351 : Arv Z h351 b276 k276 .int (3 : Int32) [(.int e0), (.int e1), (.int (s2 / (2 : Int32)))] (.int (0 : Int32)) := Arv.set Ar351 q351 S351 M351 H351 G351 rfl W351 2 rfl (Nat.le_of_ble_eq_true rfl)
  have N351 := Fr.snoc X351 N340 ge_b276
  have KC351 : Keep h0 h351 [] := KC340.wr W351 (Or.inr sz_b276)
  have go352 : own_S p e below ST T351 (mkF m 62 #[rv o1, iv od, rv b276, iv q2, iv (2 : Int32), iv s2] []) := fun tt kt => go350 tt (st351 _ kt)
  have go353 : own_S p e below ST T351 (mkF m 65 #[rv o1, iv od, rv b276, iv q2, iv (2 : Int32), iv s2] [(.int (2 : Int32)), (.ref o1)]) := fun tt kt => go352 tt (by
      refine XS.aloadN X351.here hx rfl (hb hby d1_62) rfl rfl ?_
      refine XS.iload X351.here hx rfl (hb hby d1_63) rfl ?_
      exact kt)
  have f355 := (f345.other W351 neo1_b276)
  obtain ⟨cl354, Ar354, q354, S354, M354, H354, G354⟩ := id f355
  have hin354 : ¬ ((2 : Int32) < 0 ∨ cl354.slots.size ≤ ((2 : Int32)).toNatClampNeg) := inb_of S354 ⟨by decide, by decide⟩
  have hat354 : cl354.slots[((2 : Int32)).toNatClampNeg]? = some (.int s2) := H354.at hin354 rfl
  have go356 : own_S p e below ST T351 (mkF m 66 #[rv o1, iv od, rv b276, iv q2, iv (2 : Int32), iv s2] [(.int s2)]) := fun tt kt => go353 tt (by
      refine X351.iaload hx (j := (2 : Int32)) (v := (.int s2)) (by rw [e351]; exact Ar354.1) (State.isArrayOf_alike hZ.alike Ar354.2.1) Ar354.2.2 hin354 hat354 (g := (mkF m 65 #[rv o1, iv od, rv b276, iv q2, iv (2 : Int32), iv s2] [(.int (2 : Int32)), (.ref o1)])) rfl rfl (hb hby d1_65) _ ?_
      exact kt)
  have go357 : own_S p e below ST T351 (mkF m 68 #[rv o1, iv od, rv b276, iv q2, iv (2 : Int32), iv s2] [(.int (s2 % (2 : Int32)))]) := fun tt kt => go356 tt (by
      refine XS.iconst X351.here hx rfl (hb hby d1_66) ?_
      refine iremM (g := (mkF m 67 #[rv o1, iv od, rv b276, iv q2, iv (2 : Int32), iv s2] [(.int (2 : Int32)), (.int s2)])) X351 hx rfl (hb hby d1_67) rfl (by decide) ?_
      exact kt)
  have zs358 := (Nat.le_trans (Nat.le_trans zs326 K340.1) (Keep.of_wr W351).1)
  obtain ⟨T372, h372, L372, q3, e2, X372, e372, N372, K372, c372_0, hq3, he2, sg372⟩ : ∃ (T372 : State) (h372 : Heap) (L372 : List Loc) (q3 : Int32) (e2 : Int32), Stand p l e ({ frames := 0, cells := 1, slots := 3, locals := 0 } : Room) s m #[(.ref o1)] below meth c T372 L372 (0 + 1) (0 + 3) ∧ T372.heap = h372 ∧ Fr n0 L372 ∧ Keep h351 h372 [b276] ∧ Arv Z h372 b276 k276 .int (3 : Int32) [(.int e0), (.int e1), (.int e2)] (.int (0 : Int32)) ∧ q3 = (if (s2 % (2 : Int32)) = (0 : Int32) then q2 else (if q2 < (od / (2 : Int32)) then (q2 + (1 : Int32)) else (q2 + (1 : Int32)))) ∧ e2 = (if (s2 % (2 : Int32)) = (0 : Int32) then (s2 / (2 : Int32)) else (if q2 < (od / (2 : Int32)) then ((s2 / (2 : Int32)) + (1 : Int32)) else (s2 / (2 : Int32)))) ∧ ∀ tt, Steps p.tables e below (T372.setTop (mkF m 89 #[rv o1, iv od, rv b276, iv q3, iv (2 : Int32), iv s2] [])) tt → Steps p.tables e below (T351.setTop (mkF m 68 #[rv o1, iv od, rv b276, iv q2, iv (2 : Int32), iv s2] [(.int (s2 % (2 : Int32)))])) tt := by
    by_cases hj68_0 : (s2 % (2 : Int32)) = (0 : Int32)
    · have go359 : own_S p e below (T351.setTop (mkF m 68 #[rv o1, iv od, rv b276, iv q2, iv (2 : Int32), iv s2] [(.int (s2 % (2 : Int32)))])) T351 (mkF m 89 #[rv o1, iv od, rv b276, iv q2, iv (2 : Int32), iv s2] []) := fun tt kt => (fun (tt : State) (kt : Steps p.tables e below (T351.setTop (mkF m 68 #[rv o1, iv od, rv b276, iv q2, iv (2 : Int32), iv s2] [(.int (s2 % (2 : Int32)))])) tt) => kt) tt (by
          refine XS.ifYes X351.here hx rfl (pc0 := 68) (pc' := 89) rfl (hb hby d1_68) rfl ((if0 _ _).trans (teq hj68_0).1) (by decide) (by decide) ?_
          exact kt)
      exact ⟨T351, h351, _, q2, (s2 / (2 : Int32)), X351, e351, N351, (Keep.refl h351 [b276]), V351, (if_pos hj68_0).symm, (if_pos hj68_0).symm, go359⟩
    · have go360 : own_S p e below (T351.setTop (mkF m 68 #[rv o1, iv od, rv b276, iv q2, iv (2 : Int32), iv s2] [(.int (s2 % (2 : Int32)))])) T351 (mkF m 71 #[rv o1, iv od, rv b276, iv q2, iv (2 : Int32), iv s2] []) := fun tt kt => (fun (tt : State) (kt : Steps p.tables e below (T351.setTop (mkF m 68 #[rv o1, iv od, rv b276, iv q2, iv (2 : Int32), iv s2] [(.int (s2 % (2 : Int32)))])) tt) => kt) tt (by
          refine XS.ifNo X351.here hx rfl (hb hby d1_68) rfl ((if0 _ _).trans (feq hj68_0).1) ?_
          exact kt)
      have go361 : own_S p e below (T351.setTop (mkF m 68 #[rv o1, iv od, rv b276, iv q2, iv (2 : Int32), iv s2] [(.int (s2 % (2 : Int32)))])) T351 (mkF m 75 #[rv o1, iv od, rv b276, iv q2, iv (2 : Int32), iv s2] [(.int (od / (2 : Int32))), (.int q2)]) := fun tt kt => go360 tt (by
          refine XS.iloadN X351.here hx rfl (hb hby d1_71) rfl ?_
          refine XS.iloadN X351.here hx rfl (hb hby d1_72) rfl ?_
          refine XS.iconst X351.here hx rfl (hb hby d1_73) ?_
          refine XS.idiv X351.here hx rfl (hb hby d1_74) rfl (by decide) ?_
          exact kt)
      by_cases hj75_1 : q2 < (od / (2 : Int32))
      · have go362 : own_S p e below (T351.setTop (mkF m 68 #[rv o1, iv od, rv b276, iv q2, iv (2 : Int32), iv s2] [(.int (s2 % (2 : Int32)))])) T351 (mkF m 78 #[rv o1, iv od, rv b276, iv q2, iv (2 : Int32), iv s2] []) := fun tt kt => go361 tt (by
            refine XS.icmpNo X351.here hx rfl (hb hby d1_75) rfl (tlt hj75_1).2.1 ?_
            exact kt)
        have go363 : own_S p e below (T351.setTop (mkF m 68 #[rv o1, iv od, rv b276, iv q2, iv (2 : Int32), iv s2] [(.int (s2 % (2 : Int32)))])) T351 (mkF m 82 #[rv o1, iv od, rv b276, iv q2, iv (2 : Int32), iv s2] [(.int (2 : Int32)), (.ref b276), (.int (2 : Int32)), (.ref b276)]) := fun tt kt => go362 tt (by
            refine XS.aloadN X351.here hx rfl (hb hby d1_78) rfl rfl ?_
            refine XS.iload X351.here hx rfl (hb hby d1_79) rfl ?_
            refine XT.dup2 X351.here hx rfl (hb hby d1_81) rfl rfl rfl ?_
            exact kt)
        obtain ⟨cl364, Ar364, q364, S364, M364, H364, G364⟩ := id V351
        have hin364 : ¬ ((2 : Int32) < 0 ∨ cl364.slots.size ≤ ((2 : Int32)).toNatClampNeg) := inb_of S364 ⟨by decide, by decide⟩
        have hat364 : cl364.slots[((2 : Int32)).toNatClampNeg]? = some (.int (s2 / (2 : Int32))) := H364.at hin364 rfl
        have go365 : own_S p e below (T351.setTop (mkF m 68 #[rv o1, iv od, rv b276, iv q2, iv (2 : Int32), iv s2] [(.int (s2 % (2 : Int32)))])) T351 (mkF m 83 #[rv o1, iv od, rv b276, iv q2, iv (2 : Int32), iv s2] [(.int (s2 / (2 : Int32))), (.int (2 : Int32)), (.ref b276)]) := fun tt kt => go363 tt (by
            refine X351.iaload hx (j := (2 : Int32)) (v := (.int (s2 / (2 : Int32)))) (by rw [e351]; exact Ar364.1) (State.isArrayOf_alike hZ.alike Ar364.2.1) Ar364.2.2 hin364 hat364 (g := (mkF m 82 #[rv o1, iv od, rv b276, iv q2, iv (2 : Int32), iv s2] [(.int (2 : Int32)), (.ref b276), (.int (2 : Int32)), (.ref b276)])) rfl rfl (hb hby d1_82) _ ?_
            exact kt)
        have go366 : own_S p e below (T351.setTop (mkF m 68 #[rv o1, iv od, rv b276, iv q2, iv (2 : Int32), iv s2] [(.int (s2 % (2 : Int32)))])) T351 (mkF m 85 #[rv o1, iv od, rv b276, iv q2, iv (2 : Int32), iv s2] [(.int ((s2 / (2 : Int32)) + (1 : Int32))), (.int (2 : Int32)), (.ref b276)]) := fun tt kt => go365 tt (by
            refine XS.iconst X351.here hx rfl (hb hby d1_83) ?_
            refine XS.iadd X351.here hx rfl (hb hby d1_84) rfl ?_
            exact kt)
        obtain ⟨cl367, Ar367, q367, S367, M367, H367, G367⟩ := id V351
        have hin367 : ¬ ((2 : Int32) < 0 ∨ cl367.slots.size ≤ ((2 : Int32)).toNatClampNeg) := inb_of S367 ⟨by decide, by decide⟩
        obtain ⟨T367, h367, X367, e367, W367, st367⟩ := stI X351 hx hZ e351 Ar367 (j := (2 : Int32)) hin367 (g := (mkF m 85 #[rv o1, iv od, rv b276, iv q2, iv (2 : Int32), iv s2] [(.int ((s2 / (2 : Int32)) + (1 : Int32))), (.int (2 : Int32)), (.ref b276)])) rfl rfl (hb hby d1_85)
        have V367 : Arv Z h367 b276 k276 .int (3 : Int32) [(.int e0), (.int e1), (.int ((s2 / (2 : Int32)) + (1 : Int32)))] (.int (0 : Int32)) := Arv.set Ar367 q367 S367 M367 H367 G367 rfl W367 2 rfl (Nat.le_of_ble_eq_true rfl)
        have N367 := Fr.snoc X367 N351 ge_b276
        have kj367 : Keep h351 h367 [b276] := (Keep.refl h351 [b276]).wr W367 (Or.inl (List.mem_of_getElem? (i := 0) rfl))
        have KC367 : Keep h0 h367 [] := KC351.wr W367 (Or.inr sz_b276)
        have go368 : own_S p e below (T351.setTop (mkF m 68 #[rv o1, iv od, rv b276, iv q2, iv (2 : Int32), iv s2] [(.int (s2 % (2 : Int32)))])) T367 (mkF m 86 #[rv o1, iv od, rv b276, iv q2, iv (2 : Int32), iv s2] []) := fun tt kt => go366 tt (st367 _ kt)
        have go369 : own_S p e below (T351.setTop (mkF m 68 #[rv o1, iv od, rv b276, iv q2, iv (2 : Int32), iv s2] [(.int (s2 % (2 : Int32)))])) T367 (mkF m 89 #[rv o1, iv od, rv b276, iv (q2 + (1 : Int32)), iv (2 : Int32), iv s2] []) := fun tt kt => go368 tt (by
            refine XS.iinc X367.here hx rfl (hb hby d1_86) rfl (l' := #[rv o1, iv od, rv b276, iv (q2 + (1 : Int32)), iv (2 : Int32), iv s2]) rfl ?_
            exact kt)
        exact ⟨T367, h367, _, (q2 + (1 : Int32)), ((s2 / (2 : Int32)) + (1 : Int32)), X367, e367, N367, kj367, V367, ((if_neg hj68_0).trans (if_pos hj75_1)).symm, ((if_neg hj68_0).trans (if_pos hj75_1)).symm, go369⟩
      · have go370 : own_S p e below (T351.setTop (mkF m 68 #[rv o1, iv od, rv b276, iv q2, iv (2 : Int32), iv s2] [(.int (s2 % (2 : Int32)))])) T351 (mkF m 86 #[rv o1, iv od, rv b276, iv q2, iv (2 : Int32), iv s2] []) := fun tt kt => go361 tt (by
            refine XS.icmpYes X351.here hx rfl (pc0 := 75) (pc' := 86) rfl (hb hby d1_75) rfl (flt hj75_1).2.1 (by decide) (by decide) ?_
            exact kt)
        have go371 : own_S p e below (T351.setTop (mkF m 68 #[rv o1, iv od, rv b276, iv q2, iv (2 : Int32), iv s2] [(.int (s2 % (2 : Int32)))])) T351 (mkF m 89 #[rv o1, iv od, rv b276, iv (q2 + (1 : Int32)), iv (2 : Int32), iv s2] []) := fun tt kt => go370 tt (by
            refine XS.iinc X351.here hx rfl (hb hby d1_86) rfl (l' := #[rv o1, iv od, rv b276, iv (q2 + (1 : Int32)), iv (2 : Int32), iv s2]) rfl ?_
            exact kt)
        exact ⟨T351, h351, _, (q2 + (1 : Int32)), (s2 / (2 : Int32)), X351, e351, N351, (Keep.refl h351 [b276]), V351, ((if_neg hj68_0).trans (if_neg hj75_1)).symm, ((if_neg hj68_0).trans (if_neg hj75_1)).symm, go371⟩
  have KC372 : Keep h0 h372 [] := KC351.trans K372 (allS (Or.inr sz_b276) all0)
  have go373 : own_S p e below ST T372 (mkF m 89 #[rv o1, iv od, rv b276, iv q3, iv (2 : Int32), iv s2] []) := fun tt kt => go357 tt (sg372 _ kt)
  have go374 : own_S p e below ST T372 (mkF m 45 #[rv o1, iv od, rv b276, iv q3, iv (3 : Int32), iv s2] []) := fun tt kt => go373 tt (by
      refine XS.iinc X372.here hx rfl (hb hby d1_89) rfl (l' := #[rv o1, iv od, rv b276, iv q3, iv (3 : Int32), iv s2]) rfl ?_
      refine XS.goto X372.here hx rfl (pc0 := 92) (pc' := 45) rfl (hb hby d1_92) (by decide) (by decide) ?_
      exact kt)
  have go375 : own_S p e below ST T372 (mkF m 48 #[rv o1, iv od, rv b276, iv q3, iv (3 : Int32), iv s2] [(.ref o1), (.int (3 : Int32))]) := fun tt kt => go374 tt (by
      refine XS.iload X372.here hx rfl (hb hby d1_45) rfl ?_
      refine XS.aloadN X372.here hx rfl (hb hby d1_47) rfl rfl ?_
      exact kt)
  have f377 := (f355.keep K372 (ninS neo1_b276 nin0))
  obtain ⟨cl376, Ar376, q376, S376, M376, H376, G376⟩ := id f377
  have go378 : own_S p e below ST T372 (mkF m 49 #[rv o1, iv od, rv b276, iv q3, iv (3 : Int32), iv s2] [(.int (3 : Int32)), (.int (3 : Int32))]) := fun tt kt => go375 tt (by
      refine X372.arraylength hx (by rw [e372]; exact Ar376.1) (State.isArrayOf_alike hZ.alike Ar376.2.1) (g := (mkF m 48 #[rv o1, iv od, rv b276, iv q3, iv (3 : Int32), iv s2] [(.ref o1), (.int (3 : Int32))])) rfl rfl (hb hby d1_48) _ ?_
      rw [len_of S376 M376]
      exact kt)
  have go379 : own_S p e below ST T372 (mkF m 96 #[rv o1, iv od, rv b276, iv q3, iv (3 : Int32), iv s2] [(.ref b276)]) := fun tt kt => go378 tt (by
      refine XS.icmpYes X372.here hx rfl (pc0 := 49) (pc' := 95) rfl (hb hby d1_49) rfl (flt (by decide : ¬ ((3 : Int32) < (3 : Int32)))).2.1 (by decide) (by decide) ?_
      refine XS.aloadN X372.here hx rfl (hb hby d1_95) rfl rfl ?_
      exact kt)
  obtain ⟨fs, hr, hrun, hended, hW, hsame⟩ := X372.leave (v := some (.ref b276)) (fun h => by rw [Bd.returns] at h; cases h)
  refine ⟨_, _, pre0 _ (go379 _ ?_), hrun, hended, _, _, rfl, ?_, ⟨_, rfl⟩, hW, hsame.mono (by decide) (by decide)⟩
  · exact retOut X372 hx Bd.returns rfl (Or.inr (Or.inr (Or.inr (Or.inr ⟨rfl, rfl, rfl⟩)))) (hb hby d1_96) hr
  · show Q1k3 Z o1 ka s0 s1 s2 h0 n0 _ T372.heap _
    rw [e372]
    exact ⟨b276, k276, od, e0, e1, e2, q1, q2, q3, rfl, N372, KC372, c372_0, hod, he0, hq1, he1, hq2, he2, hq3⟩
theorem ef1k4 (m : MethodId) (x0 : Addr) : entryFrame m #[(.ref x0)] 6 = mkF m 0 #[.val (.ref x0), .unset, .unset, .unset, .unset, .unset] [] := by first | (simp [entryFrame, mkF, argsToLocals, Value.category]; done) | rfl
def Q1k4 (Z : State) (o1 : Addr) (ka : ClassId) (s0 : Int32) (s1 : Int32) (s2 : Int32) (s3 : Int32) (h0 : Heap) (n0 : Nat) (v : Option Value) (h : Heap) (L : List Loc) : Prop := ∃ (b : Addr) (kb : ClassId) (od e0 e1 e2 e3 q1 q2 q3 q4 : Int32), v = some (.ref b) ∧ Fr n0 L ∧ Keep h0 h [] ∧ Arv Z h b kb .int (4 : Int32) [(.int e0), (.int e1), (.int e2), (.int e3)] (.int (0 : Int32)) ∧ od = (((((0 : Int32) + (s0 % (2 : Int32))) + (s1 % (2 : Int32))) + (s2 % (2 : Int32))) + (s3 % (2 : Int32))) ∧ e0 = own_val (od / (2 : Int32)) (0 : Int32) s0 ∧ q1 = own_seen (od / (2 : Int32)) (0 : Int32) s0 ∧ e1 = own_val (od / (2 : Int32)) q1 s1 ∧ q2 = own_seen (od / (2 : Int32)) q1 s1 ∧ e2 = own_val (od / (2 : Int32)) q2 s2 ∧ q3 = own_seen (od / (2 : Int32)) q2 s2 ∧ e3 = own_val (od / (2 : Int32)) q3 s3 ∧ q4 = own_seen (od / (2 : Int32)) q3 s3
set_option maxRecDepth 65536 in
set_option maxHeartbeats 40000000 in
theorem rm1k4 (l : Launch) (Z : State) (a0 : Array Value) (hw : ∀ d ∈ tables_1, d.before a0 Z = true) (ws : List Jvm.Cond) (o1 : Addr) (ka : ClassId) (s0 : Int32) (s1 : Int32) (s2 : Int32) (s3 : Int32) (h0 : Heap) (n0 : Nat) (Z0 : n0 ≤ h0.size) (Va : Arv Z h0 o1 ka .int (4 : Int32) [(.int s0), (.int s1), (.int s2), (.int s3)] (.int (0 : Int32))) :
    MetFree l (⟨"com/example/declination/declination/engine/Nsga2", "keptCounts", "([I)[I"⟩ : MethodName) (head1 (Jvm.Cond.code (⟨"com/example/declination/declination/engine/Nsga2", "keptCounts", "([I)[I"⟩ : MethodName) prog_6_method_6_code 6 (some (.array .int)) :: ws) ({ frames := 0, cells := 1, slots := 4, locals := 0 } : Room)) (fun aa UU => aa = #[(.ref o1)] ∧ Z.Warmed39 UU.vm ∧ UU.heap = h0) (fun _ _ _ _ _ => True) (fun _ UU oo UU' => ∃ vv LL, oo = .returned vv ∧ Q1k4 Z o1 ka s0 s1 s2 s3 h0 n0 vv UU'.heap LL ∧ FrameEnd UU oo UU' LL ({ frames := 0, cells := 1, slots := 4, locals := 0 } : Room).cells ({ frames := 0, cells := 1, slots := 4, locals := 0 } : Room).slots) := by
  have W : ∀ {d : Jvm.Cond} (i : Nat), tables_1[i]? = some d → d.before a0 Z = true := fun i h => hw _ (List.mem_of_getElem? h)
  refine MetFree.of_bodySF (plainFor_of_name pn28) hisR ?_
  intro p e s m args below meth c s₁ Bd hml0 hP hK
  obtain ⟨rfl, hZ, hh⟩ := hP
  have hx := Bd.exec
  have hby := Bd.bytes
  have hml : c.maxLocals = 6 := hml0
  have hown : s.vm.findClass "com/example/declination/declination/engine/Nsga2" = some m.cls := findClass_of_methodNamed Bd.named
  have hnm := (name_of_methodNamed Bd.named Bd.method).1
  have X0 : Stand p l e ({ frames := 0, cells := 1, slots := 4, locals := 0 } : Room) s m #[(.ref o1)] below meth c s₁ [] 0 0 := Stand.of_body Bd
  have e0 : s₁.heap = h0 := by rw [← hh, Bd.state]; rfl
  have N0 := Fr.nil n0
  have pre0 : ∀ tt, Steps p.tables e below (s₁.setTop (mkF m 0 #[rv o1, .unset, .unset, .unset, .unset, .unset] [])) tt → Steps p.tables e below (s₁.setTop (entryFrame m #[(.ref o1)] 6)) tt := fun tt kt => castTop (ef1k4 m o1) kt
  obtain ⟨ST, hST⟩ : ∃ z : State, z = s₁.setTop (mkF m 0 #[rv o1, .unset, .unset, .unset, .unset, .unset] []) := ⟨_, rfl⟩
  rw [← hST] at pre0
  have KC0 : Keep h0 h0 [] := Keep.refl h0 []
  have go380 : own_S p e below ST s₁ (mkF m 5 #[rv o1, iv (0 : Int32), rv o1, .unset, .unset, .unset] [(.ref o1)]) := fun tt kt => (by
      rw [hST]
      show Steps p.tables e below (s₁.setTop (mkF m 0 #[rv o1, .unset, .unset, .unset, .unset, .unset] [])) _
      refine XS.iconst X0.here hx rfl (hb hby d1_0) ?_
      refine XS.istoreN X0.here hx rfl (hb hby d1_1) rfl (l' := #[rv o1, iv (0 : Int32), .unset, .unset, .unset, .unset]) rfl ?_
      refine XS.aloadN X0.here hx rfl (hb hby d1_2) rfl rfl ?_
      refine XS.astoreN X0.here hx rfl (hb hby d1_3) rfl rfl (l' := #[rv o1, iv (0 : Int32), rv o1, .unset, .unset, .unset]) rfl ?_
      refine XS.aloadN X0.here hx rfl (hb hby d1_4) rfl rfl ?_
      exact kt)
  obtain ⟨cl381, Ar381, q381, S381, M381, H381, G381⟩ := id Va
  have go382 : own_S p e below ST s₁ (mkF m 6 #[rv o1, iv (0 : Int32), rv o1, .unset, .unset, .unset] [(.int (4 : Int32))]) := fun tt kt => go380 tt (by
      refine X0.arraylength hx (by rw [e0]; exact Ar381.1) (State.isArrayOf_alike hZ.alike Ar381.2.1) (g := (mkF m 5 #[rv o1, iv (0 : Int32), rv o1, .unset, .unset, .unset] [(.ref o1)])) rfl rfl (hb hby d1_5) _ ?_
      rw [len_of S381 M381]
      exact kt)
  have go383 : own_S p e below ST s₁ (mkF m 19 #[rv o1, iv (0 : Int32), rv o1, iv (4 : Int32), iv (0 : Int32), .unset] [(.int (0 : Int32)), (.ref o1)]) := fun tt kt => go382 tt (by
      refine XS.istoreN X0.here hx rfl (hb hby d1_6) rfl (l' := #[rv o1, iv (0 : Int32), rv o1, iv (4 : Int32), .unset, .unset]) rfl ?_
      refine XS.iconst X0.here hx rfl (hb hby d1_7) ?_
      refine XS.istore X0.here hx rfl (hb hby d1_8) rfl (l' := #[rv o1, iv (0 : Int32), rv o1, iv (4 : Int32), iv (0 : Int32), .unset]) rfl ?_
      refine XS.iload X0.here hx rfl (hb hby d1_10) rfl ?_
      refine XS.iloadN X0.here hx rfl (hb hby d1_12) rfl ?_
      refine XS.icmpNo X0.here hx rfl (hb hby d1_13) rfl (tlt (by decide : (0 : Int32) < (4 : Int32))).2.1 ?_
      show Steps p.tables e below (s₁.setTop (mkF m 16 #[rv o1, iv (0 : Int32), rv o1, iv (4 : Int32), iv (0 : Int32), .unset] [])) _
      refine XS.aloadN X0.here hx rfl (hb hby d1_16) rfl rfl ?_
      refine XS.iload X0.here hx rfl (hb hby d1_17) rfl ?_
      exact kt)
  obtain ⟨cl384, Ar384, q384, S384, M384, H384, G384⟩ := id Va
  have hin384 : ¬ ((0 : Int32) < 0 ∨ cl384.slots.size ≤ ((0 : Int32)).toNatClampNeg) := inb_of S384 ⟨by decide, by decide⟩
  have hat384 : cl384.slots[((0 : Int32)).toNatClampNeg]? = some (.int s0) := H384.at hin384 rfl
  have go385 : own_S p e below ST s₁ (mkF m 20 #[rv o1, iv (0 : Int32), rv o1, iv (4 : Int32), iv (0 : Int32), .unset] [(.int s0)]) := fun tt kt => go383 tt (by
      refine X0.iaload hx (j := (0 : Int32)) (v := (.int s0)) (by rw [e0]; exact Ar384.1) (State.isArrayOf_alike hZ.alike Ar384.2.1) Ar384.2.2 hin384 hat384 (g := (mkF m 19 #[rv o1, iv (0 : Int32), rv o1, iv (4 : Int32), iv (0 : Int32), .unset] [(.int (0 : Int32)), (.ref o1)])) rfl rfl (hb hby d1_19) _ ?_
      exact kt)
  have go386 : own_S p e below ST s₁ (mkF m 19 #[rv o1, iv ((0 : Int32) + (s0 % (2 : Int32))), rv o1, iv (4 : Int32), iv (1 : Int32), iv s0] [(.int (1 : Int32)), (.ref o1)]) := fun tt kt => go385 tt (by
      refine XS.istore X0.here hx rfl (hb hby d1_20) rfl (l' := #[rv o1, iv (0 : Int32), rv o1, iv (4 : Int32), iv (0 : Int32), iv s0]) rfl ?_
      refine XS.iloadN X0.here hx rfl (hb hby d1_22) rfl ?_
      refine XS.iload X0.here hx rfl (hb hby d1_23) rfl ?_
      refine XS.iconst X0.here hx rfl (hb hby d1_25) ?_
      refine iremM (g := (mkF m 26 #[rv o1, iv (0 : Int32), rv o1, iv (4 : Int32), iv (0 : Int32), iv s0] [(.int (2 : Int32)), (.int s0), (.int (0 : Int32))])) X0 hx rfl (hb hby d1_26) rfl (by decide) ?_
      refine XS.iadd X0.here hx rfl (hb hby d1_27) rfl ?_
      show Steps p.tables e below (s₁.setTop (mkF m 28 #[rv o1, iv (0 : Int32), rv o1, iv (4 : Int32), iv (0 : Int32), iv s0] [(.int ((0 : Int32) + (s0 % (2 : Int32))))])) _
      refine XS.istoreN X0.here hx rfl (hb hby d1_28) rfl (l' := #[rv o1, iv ((0 : Int32) + (s0 % (2 : Int32))), rv o1, iv (4 : Int32), iv (0 : Int32), iv s0]) rfl ?_
      refine XS.iinc X0.here hx rfl (hb hby d1_29) rfl (l' := #[rv o1, iv ((0 : Int32) + (s0 % (2 : Int32))), rv o1, iv (4 : Int32), iv (1 : Int32), iv s0]) rfl ?_
      refine XS.goto X0.here hx rfl (pc0 := 32) (pc' := 10) rfl (hb hby d1_32) (by decide) (by decide) ?_
      refine XS.iload X0.here hx rfl (hb hby d1_10) rfl ?_
      refine XS.iloadN X0.here hx rfl (hb hby d1_12) rfl ?_
      refine XS.icmpNo X0.here hx rfl (hb hby d1_13) rfl (tlt (by decide : (1 : Int32) < (4 : Int32))).2.1 ?_
      show Steps p.tables e below (s₁.setTop (mkF m 16 #[rv o1, iv ((0 : Int32) + (s0 % (2 : Int32))), rv o1, iv (4 : Int32), iv (1 : Int32), iv s0] [])) _
      refine XS.aloadN X0.here hx rfl (hb hby d1_16) rfl rfl ?_
      refine XS.iload X0.here hx rfl (hb hby d1_17) rfl ?_
      exact kt)
  obtain ⟨cl387, Ar387, q387, S387, M387, H387, G387⟩ := id Va
  have hin387 : ¬ ((1 : Int32) < 0 ∨ cl387.slots.size ≤ ((1 : Int32)).toNatClampNeg) := inb_of S387 ⟨by decide, by decide⟩
  have hat387 : cl387.slots[((1 : Int32)).toNatClampNeg]? = some (.int s1) := H387.at hin387 rfl
  have go388 : own_S p e below ST s₁ (mkF m 20 #[rv o1, iv ((0 : Int32) + (s0 % (2 : Int32))), rv o1, iv (4 : Int32), iv (1 : Int32), iv s0] [(.int s1)]) := fun tt kt => go386 tt (by
      refine X0.iaload hx (j := (1 : Int32)) (v := (.int s1)) (by rw [e0]; exact Ar387.1) (State.isArrayOf_alike hZ.alike Ar387.2.1) Ar387.2.2 hin387 hat387 (g := (mkF m 19 #[rv o1, iv ((0 : Int32) + (s0 % (2 : Int32))), rv o1, iv (4 : Int32), iv (1 : Int32), iv s0] [(.int (1 : Int32)), (.ref o1)])) rfl rfl (hb hby d1_19) _ ?_
      exact kt)
  have go389 : own_S p e below ST s₁ (mkF m 19 #[rv o1, iv (((0 : Int32) + (s0 % (2 : Int32))) + (s1 % (2 : Int32))), rv o1, iv (4 : Int32), iv (2 : Int32), iv s1] [(.int (2 : Int32)), (.ref o1)]) := fun tt kt => go388 tt (by
      refine XS.istore X0.here hx rfl (hb hby d1_20) rfl (l' := #[rv o1, iv ((0 : Int32) + (s0 % (2 : Int32))), rv o1, iv (4 : Int32), iv (1 : Int32), iv s1]) rfl ?_
      refine XS.iloadN X0.here hx rfl (hb hby d1_22) rfl ?_
      refine XS.iload X0.here hx rfl (hb hby d1_23) rfl ?_
      refine XS.iconst X0.here hx rfl (hb hby d1_25) ?_
      refine iremM (g := (mkF m 26 #[rv o1, iv ((0 : Int32) + (s0 % (2 : Int32))), rv o1, iv (4 : Int32), iv (1 : Int32), iv s1] [(.int (2 : Int32)), (.int s1), (.int ((0 : Int32) + (s0 % (2 : Int32))))])) X0 hx rfl (hb hby d1_26) rfl (by decide) ?_
      refine XS.iadd X0.here hx rfl (hb hby d1_27) rfl ?_
      show Steps p.tables e below (s₁.setTop (mkF m 28 #[rv o1, iv ((0 : Int32) + (s0 % (2 : Int32))), rv o1, iv (4 : Int32), iv (1 : Int32), iv s1] [(.int (((0 : Int32) + (s0 % (2 : Int32))) + (s1 % (2 : Int32))))])) _
      refine XS.istoreN X0.here hx rfl (hb hby d1_28) rfl (l' := #[rv o1, iv (((0 : Int32) + (s0 % (2 : Int32))) + (s1 % (2 : Int32))), rv o1, iv (4 : Int32), iv (1 : Int32), iv s1]) rfl ?_
      refine XS.iinc X0.here hx rfl (hb hby d1_29) rfl (l' := #[rv o1, iv (((0 : Int32) + (s0 % (2 : Int32))) + (s1 % (2 : Int32))), rv o1, iv (4 : Int32), iv (2 : Int32), iv s1]) rfl ?_
      refine XS.goto X0.here hx rfl (pc0 := 32) (pc' := 10) rfl (hb hby d1_32) (by decide) (by decide) ?_
      refine XS.iload X0.here hx rfl (hb hby d1_10) rfl ?_
      refine XS.iloadN X0.here hx rfl (hb hby d1_12) rfl ?_
      refine XS.icmpNo X0.here hx rfl (hb hby d1_13) rfl (tlt (by decide : (2 : Int32) < (4 : Int32))).2.1 ?_
      show Steps p.tables e below (s₁.setTop (mkF m 16 #[rv o1, iv (((0 : Int32) + (s0 % (2 : Int32))) + (s1 % (2 : Int32))), rv o1, iv (4 : Int32), iv (2 : Int32), iv s1] [])) _
      refine XS.aloadN X0.here hx rfl (hb hby d1_16) rfl rfl ?_
      refine XS.iload X0.here hx rfl (hb hby d1_17) rfl ?_
      exact kt)
  obtain ⟨cl390, Ar390, q390, S390, M390, H390, G390⟩ := id Va
  have hin390 : ¬ ((2 : Int32) < 0 ∨ cl390.slots.size ≤ ((2 : Int32)).toNatClampNeg) := inb_of S390 ⟨by decide, by decide⟩
  have hat390 : cl390.slots[((2 : Int32)).toNatClampNeg]? = some (.int s2) := H390.at hin390 rfl
  have go391 : own_S p e below ST s₁ (mkF m 20 #[rv o1, iv (((0 : Int32) + (s0 % (2 : Int32))) + (s1 % (2 : Int32))), rv o1, iv (4 : Int32), iv (2 : Int32), iv s1] [(.int s2)]) := fun tt kt => go389 tt (by
      refine X0.iaload hx (j := (2 : Int32)) (v := (.int s2)) (by rw [e0]; exact Ar390.1) (State.isArrayOf_alike hZ.alike Ar390.2.1) Ar390.2.2 hin390 hat390 (g := (mkF m 19 #[rv o1, iv (((0 : Int32) + (s0 % (2 : Int32))) + (s1 % (2 : Int32))), rv o1, iv (4 : Int32), iv (2 : Int32), iv s1] [(.int (2 : Int32)), (.ref o1)])) rfl rfl (hb hby d1_19) _ ?_
      exact kt)
  have go392 : own_S p e below ST s₁ (mkF m 19 #[rv o1, iv ((((0 : Int32) + (s0 % (2 : Int32))) + (s1 % (2 : Int32))) + (s2 % (2 : Int32))), rv o1, iv (4 : Int32), iv (3 : Int32), iv s2] [(.int (3 : Int32)), (.ref o1)]) := fun tt kt => go391 tt (by
      refine XS.istore X0.here hx rfl (hb hby d1_20) rfl (l' := #[rv o1, iv (((0 : Int32) + (s0 % (2 : Int32))) + (s1 % (2 : Int32))), rv o1, iv (4 : Int32), iv (2 : Int32), iv s2]) rfl ?_
      refine XS.iloadN X0.here hx rfl (hb hby d1_22) rfl ?_
      refine XS.iload X0.here hx rfl (hb hby d1_23) rfl ?_
      refine XS.iconst X0.here hx rfl (hb hby d1_25) ?_
      refine iremM (g := (mkF m 26 #[rv o1, iv (((0 : Int32) + (s0 % (2 : Int32))) + (s1 % (2 : Int32))), rv o1, iv (4 : Int32), iv (2 : Int32), iv s2] [(.int (2 : Int32)), (.int s2), (.int (((0 : Int32) + (s0 % (2 : Int32))) + (s1 % (2 : Int32))))])) X0 hx rfl (hb hby d1_26) rfl (by decide) ?_
      refine XS.iadd X0.here hx rfl (hb hby d1_27) rfl ?_
      show Steps p.tables e below (s₁.setTop (mkF m 28 #[rv o1, iv (((0 : Int32) + (s0 % (2 : Int32))) + (s1 % (2 : Int32))), rv o1, iv (4 : Int32), iv (2 : Int32), iv s2] [(.int ((((0 : Int32) + (s0 % (2 : Int32))) + (s1 % (2 : Int32))) + (s2 % (2 : Int32))))])) _
      refine XS.istoreN X0.here hx rfl (hb hby d1_28) rfl (l' := #[rv o1, iv ((((0 : Int32) + (s0 % (2 : Int32))) + (s1 % (2 : Int32))) + (s2 % (2 : Int32))), rv o1, iv (4 : Int32), iv (2 : Int32), iv s2]) rfl ?_
      refine XS.iinc X0.here hx rfl (hb hby d1_29) rfl (l' := #[rv o1, iv ((((0 : Int32) + (s0 % (2 : Int32))) + (s1 % (2 : Int32))) + (s2 % (2 : Int32))), rv o1, iv (4 : Int32), iv (3 : Int32), iv s2]) rfl ?_
      refine XS.goto X0.here hx rfl (pc0 := 32) (pc' := 10) rfl (hb hby d1_32) (by decide) (by decide) ?_
      refine XS.iload X0.here hx rfl (hb hby d1_10) rfl ?_
      refine XS.iloadN X0.here hx rfl (hb hby d1_12) rfl ?_
      refine XS.icmpNo X0.here hx rfl (hb hby d1_13) rfl (tlt (by decide : (3 : Int32) < (4 : Int32))).2.1 ?_
      show Steps p.tables e below (s₁.setTop (mkF m 16 #[rv o1, iv ((((0 : Int32) + (s0 % (2 : Int32))) + (s1 % (2 : Int32))) + (s2 % (2 : Int32))), rv o1, iv (4 : Int32), iv (3 : Int32), iv s2] [])) _
      refine XS.aloadN X0.here hx rfl (hb hby d1_16) rfl rfl ?_
      refine XS.iload X0.here hx rfl (hb hby d1_17) rfl ?_
      exact kt)
  obtain ⟨cl393, Ar393, q393, S393, M393, H393, G393⟩ := id Va
  have hin393 : ¬ ((3 : Int32) < 0 ∨ cl393.slots.size ≤ ((3 : Int32)).toNatClampNeg) := inb_of S393 ⟨by decide, by decide⟩
  have hat393 : cl393.slots[((3 : Int32)).toNatClampNeg]? = some (.int s3) := H393.at hin393 rfl
  have go394 : own_S p e below ST s₁ (mkF m 20 #[rv o1, iv ((((0 : Int32) + (s0 % (2 : Int32))) + (s1 % (2 : Int32))) + (s2 % (2 : Int32))), rv o1, iv (4 : Int32), iv (3 : Int32), iv s2] [(.int s3)]) := fun tt kt => go392 tt (by
      refine X0.iaload hx (j := (3 : Int32)) (v := (.int s3)) (by rw [e0]; exact Ar393.1) (State.isArrayOf_alike hZ.alike Ar393.2.1) Ar393.2.2 hin393 hat393 (g := (mkF m 19 #[rv o1, iv ((((0 : Int32) + (s0 % (2 : Int32))) + (s1 % (2 : Int32))) + (s2 % (2 : Int32))), rv o1, iv (4 : Int32), iv (3 : Int32), iv s2] [(.int (3 : Int32)), (.ref o1)])) rfl rfl (hb hby d1_19) _ ?_
      exact kt)
  have go395 : own_S p e below ST s₁ (mkF m 35 #[rv o1, iv (((((0 : Int32) + (s0 % (2 : Int32))) + (s1 % (2 : Int32))) + (s2 % (2 : Int32))) + (s3 % (2 : Int32))), rv o1, iv (4 : Int32), iv (4 : Int32), iv s3] []) := fun tt kt => go394 tt (by
      refine XS.istore X0.here hx rfl (hb hby d1_20) rfl (l' := #[rv o1, iv ((((0 : Int32) + (s0 % (2 : Int32))) + (s1 % (2 : Int32))) + (s2 % (2 : Int32))), rv o1, iv (4 : Int32), iv (3 : Int32), iv s3]) rfl ?_
      refine XS.iloadN X0.here hx rfl (hb hby d1_22) rfl ?_
      refine XS.iload X0.here hx rfl (hb hby d1_23) rfl ?_
      refine XS.iconst X0.here hx rfl (hb hby d1_25) ?_
      refine iremM (g := (mkF m 26 #[rv o1, iv ((((0 : Int32) + (s0 % (2 : Int32))) + (s1 % (2 : Int32))) + (s2 % (2 : Int32))), rv o1, iv (4 : Int32), iv (3 : Int32), iv s3] [(.int (2 : Int32)), (.int s3), (.int ((((0 : Int32) + (s0 % (2 : Int32))) + (s1 % (2 : Int32))) + (s2 % (2 : Int32))))])) X0 hx rfl (hb hby d1_26) rfl (by decide) ?_
      refine XS.iadd X0.here hx rfl (hb hby d1_27) rfl ?_
      show Steps p.tables e below (s₁.setTop (mkF m 28 #[rv o1, iv ((((0 : Int32) + (s0 % (2 : Int32))) + (s1 % (2 : Int32))) + (s2 % (2 : Int32))), rv o1, iv (4 : Int32), iv (3 : Int32), iv s3] [(.int (((((0 : Int32) + (s0 % (2 : Int32))) + (s1 % (2 : Int32))) + (s2 % (2 : Int32))) + (s3 % (2 : Int32))))])) _
      refine XS.istoreN X0.here hx rfl (hb hby d1_28) rfl (l' := #[rv o1, iv (((((0 : Int32) + (s0 % (2 : Int32))) + (s1 % (2 : Int32))) + (s2 % (2 : Int32))) + (s3 % (2 : Int32))), rv o1, iv (4 : Int32), iv (3 : Int32), iv s3]) rfl ?_
      refine XS.iinc X0.here hx rfl (hb hby d1_29) rfl (l' := #[rv o1, iv (((((0 : Int32) + (s0 % (2 : Int32))) + (s1 % (2 : Int32))) + (s2 % (2 : Int32))) + (s3 % (2 : Int32))), rv o1, iv (4 : Int32), iv (4 : Int32), iv s3]) rfl ?_
      refine XS.goto X0.here hx rfl (pc0 := 32) (pc' := 10) rfl (hb hby d1_32) (by decide) (by decide) ?_
      refine XS.iload X0.here hx rfl (hb hby d1_10) rfl ?_
      refine XS.iloadN X0.here hx rfl (hb hby d1_12) rfl ?_
      refine XS.icmpYes X0.here hx rfl (pc0 := 13) (pc' := 35) rfl (hb hby d1_13) rfl (flt (by decide : ¬ ((4 : Int32) < (4 : Int32)))).2.1 (by decide) (by decide) ?_
      exact kt)
  obtain ⟨od, hod⟩ : ∃ z : Int32, z = (((((0 : Int32) + (s0 % (2 : Int32))) + (s1 % (2 : Int32))) + (s2 % (2 : Int32))) + (s3 % (2 : Int32))) := ⟨_, rfl⟩
  rw [← hod] at go395
  have go396 : own_S p e below ST s₁ (mkF m 36 #[rv o1, iv od, rv o1, iv (4 : Int32), iv (4 : Int32), iv s3] [(.ref o1)]) := fun tt kt => go395 tt (by
      refine XS.aloadN X0.here hx rfl (hb hby d1_35) rfl rfl ?_
      exact kt)
  obtain ⟨cl397, Ar397, q397, S397, M397, H397, G397⟩ := id Va
  have go398 : own_S p e below ST s₁ (mkF m 37 #[rv o1, iv od, rv o1, iv (4 : Int32), iv (4 : Int32), iv s3] [(.int (4 : Int32))]) := fun tt kt => go396 tt (by
      refine X0.arraylength hx (by rw [e0]; exact Ar397.1) (State.isArrayOf_alike hZ.alike Ar397.2.1) (g := (mkF m 36 #[rv o1, iv od, rv o1, iv (4 : Int32), iv (4 : Int32), iv s3] [(.ref o1)])) rfl rfl (hb hby d1_36) _ ?_
      rw [len_of S397 M397]
      exact kt)
  obtain ⟨b399, g399⟩ : ∃ z, z = h0.size := ⟨_, rfl⟩
  obtain ⟨T399, h399, k399, X399, e399, E399, A399, st399⟩ := newP X0 hx hZ (W 1 rfl) e0 (g := (mkF m 37 #[rv o1, iv od, rv o1, iv (4 : Int32), iv (4 : Int32), iv s3] [(.int (4 : Int32))])) rfl (hb hby d1_37) rfl (by decide) (cap := 4) (by decide) (by decide) (by decide) (by decide)
  rw [← g399] at A399 st399
  have neo1_b399 : o1 ≠ b399 := Nat.ne_of_lt (Nat.lt_of_lt_of_le Va.lt (Nat.le_of_eq g399.symm))
  have ge_b399 : n0 ≤ b399 := Nat.le_trans Z0 (Nat.le_of_eq g399.symm)
  have sz_b399 : h0.size ≤ b399 := Nat.le_trans KC0.1 (Nat.le_of_eq g399.symm)
  have V399 : Arv Z h399 b399 k399 .int (4 : Int32) [(.int (0 : Int32)), (.int (0 : Int32)), (.int (0 : Int32)), (.int (0 : Int32))] (.int (0 : Int32)) := (Arv.new A399 (by decide)).pad (pad_rep [] (.int (0 : Int32)) 4)
  have KC399 : Keep h0 h399 [] := KC0.ext E399
  have go400 : own_S p e below ST T399 (mkF m 39 #[rv o1, iv od, rv o1, iv (4 : Int32), iv (4 : Int32), iv s3] [(.ref b399)]) := fun tt kt => go398 tt (st399 _ kt)
  have go401 : own_S p e below ST T399 (mkF m 45 #[rv o1, iv od, rv b399, iv (0 : Int32), iv (0 : Int32), iv s3] []) := fun tt kt => go400 tt (by
      refine XS.astoreN X399.here hx rfl (hb hby d1_39) rfl rfl (l' := #[rv o1, iv od, rv b399, iv (4 : Int32), iv (4 : Int32), iv s3]) rfl ?_
      refine XS.iconst X399.here hx rfl (hb hby d1_40) ?_
      refine XS.istoreN X399.here hx rfl (hb hby d1_41) rfl (l' := #[rv o1, iv od, rv b399, iv (0 : Int32), iv (4 : Int32), iv s3]) rfl ?_
      refine XS.iconst X399.here hx rfl (hb hby d1_42) ?_
      refine XS.istore X399.here hx rfl (hb hby d1_43) rfl (l' := #[rv o1, iv od, rv b399, iv (0 : Int32), iv (0 : Int32), iv s3]) rfl ?_
      exact kt)
  have go402 : own_S p e below ST T399 (mkF m 48 #[rv o1, iv od, rv b399, iv (0 : Int32), iv (0 : Int32), iv s3] [(.ref o1), (.int (0 : Int32))]) := fun tt kt => go401 tt (by
      refine XS.iload X399.here hx rfl (hb hby d1_45) rfl ?_
      refine XS.aloadN X399.here hx rfl (hb hby d1_47) rfl rfl ?_
      exact kt)
  have f404 := (Va.ext E399)
  obtain ⟨cl403, Ar403, q403, S403, M403, H403, G403⟩ := id f404
  have go405 : own_S p e below ST T399 (mkF m 49 #[rv o1, iv od, rv b399, iv (0 : Int32), iv (0 : Int32), iv s3] [(.int (4 : Int32)), (.int (0 : Int32))]) := fun tt kt => go402 tt (by
      refine X399.arraylength hx (by rw [e399]; exact Ar403.1) (State.isArrayOf_alike hZ.alike Ar403.2.1) (g := (mkF m 48 #[rv o1, iv od, rv b399, iv (0 : Int32), iv (0 : Int32), iv s3] [(.ref o1), (.int (0 : Int32))])) rfl rfl (hb hby d1_48) _ ?_
      rw [len_of S403 M403]
      exact kt)
  have go406 : own_S p e below ST T399 (mkF m 58 #[rv o1, iv od, rv b399, iv (0 : Int32), iv (0 : Int32), iv s3] [(.int (0 : Int32)), (.ref o1), (.int (0 : Int32)), (.ref b399)]) := fun tt kt => go405 tt (by
      refine XS.icmpNo X399.here hx rfl (hb hby d1_49) rfl (tlt (by decide : (0 : Int32) < (4 : Int32))).2.1 ?_
      refine XS.aloadN X399.here hx rfl (hb hby d1_52) rfl rfl ?_
      refine XS.iload X399.here hx rfl (hb hby d1_53) rfl ?_
      refine XS.aloadN X399.here hx rfl (hb hby d1_55) rfl rfl ?_
      refine XS.iload X399.here hx rfl (hb hby d1_56) rfl ?_
      exact kt)
  obtain ⟨cl407, Ar407, q407, S407, M407, H407, G407⟩ := id f404
  have hin407 : ¬ ((0 : Int32) < 0 ∨ cl407.slots.size ≤ ((0 : Int32)).toNatClampNeg) := inb_of S407 ⟨by decide, by decide⟩
  have hat407 : cl407.slots[((0 : Int32)).toNatClampNeg]? = some (.int s0) := H407.at hin407 rfl
  have go408 : own_S p e below ST T399 (mkF m 59 #[rv o1, iv od, rv b399, iv (0 : Int32), iv (0 : Int32), iv s3] [(.int s0), (.int (0 : Int32)), (.ref b399)]) := fun tt kt => go406 tt (by
      refine X399.iaload hx (j := (0 : Int32)) (v := (.int s0)) (by rw [e399]; exact Ar407.1) (State.isArrayOf_alike hZ.alike Ar407.2.1) Ar407.2.2 hin407 hat407 (g := (mkF m 58 #[rv o1, iv od, rv b399, iv (0 : Int32), iv (0 : Int32), iv s3] [(.int (0 : Int32)), (.ref o1), (.int (0 : Int32)), (.ref b399)])) rfl rfl (hb hby d1_58) _ ?_
      exact kt)
  have go409 : own_S p e below ST T399 (mkF m 61 #[rv o1, iv od, rv b399, iv (0 : Int32), iv (0 : Int32), iv s3] [(.int (s0 / (2 : Int32))), (.int (0 : Int32)), (.ref b399)]) := fun tt kt => go408 tt (by
      refine XS.iconst X399.here hx rfl (hb hby d1_59) ?_
      refine XS.idiv X399.here hx rfl (hb hby d1_60) rfl (by decide) ?_
      exact kt)
  obtain ⟨cl410, Ar410, q410, S410, M410, H410, G410⟩ := id V399
  have hin410 : ¬ ((0 : Int32) < 0 ∨ cl410.slots.size ≤ ((0 : Int32)).toNatClampNeg) := inb_of S410 ⟨by decide, by decide⟩
  obtain ⟨T410, h410, X410, e410, W410, st410⟩ := stI X399 hx hZ e399 Ar410 (j := (0 : Int32)) hin410 (g := (mkF m 61 #[rv o1, iv od, rv b399, iv (0 : Int32), iv (0 : Int32), iv s3] [(.int (s0 / (2 : Int32))), (.int (0 : Int32)), (.ref b399)])) rfl rfl (hb hby d1_61)
  have V410 : Arv Z h410 b399 k399 .int (4 : Int32) [(.int (s0 / (2 : Int32))), (.int (0 : Int32)), (.int (0 : Int32)), (.int (0 : Int32))] (.int (0 : Int32)) := Arv.set Ar410 q410 S410 M410 H410 G410 rfl W410 0 rfl (Nat.le_of_ble_eq_true rfl)
  have N410 := Fr.snoc X410 N0 ge_b399
  have KC410 : Keep h0 h410 [] := KC399.wr W410 (Or.inr sz_b399)
  have go411 : own_S p e below ST T410 (mkF m 62 #[rv o1, iv od, rv b399, iv (0 : Int32), iv (0 : Int32), iv s3] []) := fun tt kt => go409 tt (st410 _ kt)
  have go412 : own_S p e below ST T410 (mkF m 65 #[rv o1, iv od, rv b399, iv (0 : Int32), iv (0 : Int32), iv s3] [(.int (0 : Int32)), (.ref o1)]) := fun tt kt => go411 tt (by
      refine XS.aloadN X410.here hx rfl (hb hby d1_62) rfl rfl ?_
      refine XS.iload X410.here hx rfl (hb hby d1_63) rfl ?_
      exact kt)
  have f414 := (f404.other W410 neo1_b399)
  obtain ⟨cl413, Ar413, q413, S413, M413, H413, G413⟩ := id f414
  have hin413 : ¬ ((0 : Int32) < 0 ∨ cl413.slots.size ≤ ((0 : Int32)).toNatClampNeg) := inb_of S413 ⟨by decide, by decide⟩
  have hat413 : cl413.slots[((0 : Int32)).toNatClampNeg]? = some (.int s0) := H413.at hin413 rfl
  have go415 : own_S p e below ST T410 (mkF m 66 #[rv o1, iv od, rv b399, iv (0 : Int32), iv (0 : Int32), iv s3] [(.int s0)]) := fun tt kt => go412 tt (by
      refine X410.iaload hx (j := (0 : Int32)) (v := (.int s0)) (by rw [e410]; exact Ar413.1) (State.isArrayOf_alike hZ.alike Ar413.2.1) Ar413.2.2 hin413 hat413 (g := (mkF m 65 #[rv o1, iv od, rv b399, iv (0 : Int32), iv (0 : Int32), iv s3] [(.int (0 : Int32)), (.ref o1)])) rfl rfl (hb hby d1_65) _ ?_
      exact kt)
  have go416 : own_S p e below ST T410 (mkF m 68 #[rv o1, iv od, rv b399, iv (0 : Int32), iv (0 : Int32), iv s3] [(.int (s0 % (2 : Int32)))]) := fun tt kt => go415 tt (by
      refine XS.iconst X410.here hx rfl (hb hby d1_66) ?_
      refine iremM (g := (mkF m 67 #[rv o1, iv od, rv b399, iv (0 : Int32), iv (0 : Int32), iv s3] [(.int (2 : Int32)), (.int s0)])) X410 hx rfl (hb hby d1_67) rfl (by decide) ?_
      exact kt)
  have zs417 := (Nat.le_trans (Nat.le_trans Z0 E399.1) (Keep.of_wr W410).1)
  obtain ⟨T431, h431, L431, q1, e0, X431, e431, N431, K431, c431_0, hq1, he0, sg431⟩ : ∃ (T431 : State) (h431 : Heap) (L431 : List Loc) (q1 : Int32) (e0 : Int32), Stand p l e ({ frames := 0, cells := 1, slots := 4, locals := 0 } : Room) s m #[(.ref o1)] below meth c T431 L431 (0 + 1) (0 + 4) ∧ T431.heap = h431 ∧ Fr n0 L431 ∧ Keep h410 h431 [b399] ∧ Arv Z h431 b399 k399 .int (4 : Int32) [(.int e0), (.int (0 : Int32)), (.int (0 : Int32)), (.int (0 : Int32))] (.int (0 : Int32)) ∧ q1 = (if (s0 % (2 : Int32)) = (0 : Int32) then (0 : Int32) else (if (0 : Int32) < (od / (2 : Int32)) then (1 : Int32) else (1 : Int32))) ∧ e0 = (if (s0 % (2 : Int32)) = (0 : Int32) then (s0 / (2 : Int32)) else (if (0 : Int32) < (od / (2 : Int32)) then ((s0 / (2 : Int32)) + (1 : Int32)) else (s0 / (2 : Int32)))) ∧ ∀ tt, Steps p.tables e below (T431.setTop (mkF m 89 #[rv o1, iv od, rv b399, iv q1, iv (0 : Int32), iv s3] [])) tt → Steps p.tables e below (T410.setTop (mkF m 68 #[rv o1, iv od, rv b399, iv (0 : Int32), iv (0 : Int32), iv s3] [(.int (s0 % (2 : Int32)))])) tt := by
    by_cases hj68_0 : (s0 % (2 : Int32)) = (0 : Int32)
    · have go418 : own_S p e below (T410.setTop (mkF m 68 #[rv o1, iv od, rv b399, iv (0 : Int32), iv (0 : Int32), iv s3] [(.int (s0 % (2 : Int32)))])) T410 (mkF m 89 #[rv o1, iv od, rv b399, iv (0 : Int32), iv (0 : Int32), iv s3] []) := fun tt kt => (fun (tt : State) (kt : Steps p.tables e below (T410.setTop (mkF m 68 #[rv o1, iv od, rv b399, iv (0 : Int32), iv (0 : Int32), iv s3] [(.int (s0 % (2 : Int32)))])) tt) => kt) tt (by
          refine XS.ifYes X410.here hx rfl (pc0 := 68) (pc' := 89) rfl (hb hby d1_68) rfl ((if0 _ _).trans (teq hj68_0).1) (by decide) (by decide) ?_
          exact kt)
      exact ⟨T410, h410, _, (0 : Int32), (s0 / (2 : Int32)), X410, e410, N410, (Keep.refl h410 [b399]), V410, (if_pos hj68_0).symm, (if_pos hj68_0).symm, go418⟩
    · have go419 : own_S p e below (T410.setTop (mkF m 68 #[rv o1, iv od, rv b399, iv (0 : Int32), iv (0 : Int32), iv s3] [(.int (s0 % (2 : Int32)))])) T410 (mkF m 71 #[rv o1, iv od, rv b399, iv (0 : Int32), iv (0 : Int32), iv s3] []) := fun tt kt => (fun (tt : State) (kt : Steps p.tables e below (T410.setTop (mkF m 68 #[rv o1, iv od, rv b399, iv (0 : Int32), iv (0 : Int32), iv s3] [(.int (s0 % (2 : Int32)))])) tt) => kt) tt (by
          refine XS.ifNo X410.here hx rfl (hb hby d1_68) rfl ((if0 _ _).trans (feq hj68_0).1) ?_
          exact kt)
      have go420 : own_S p e below (T410.setTop (mkF m 68 #[rv o1, iv od, rv b399, iv (0 : Int32), iv (0 : Int32), iv s3] [(.int (s0 % (2 : Int32)))])) T410 (mkF m 75 #[rv o1, iv od, rv b399, iv (0 : Int32), iv (0 : Int32), iv s3] [(.int (od / (2 : Int32))), (.int (0 : Int32))]) := fun tt kt => go419 tt (by
          refine XS.iloadN X410.here hx rfl (hb hby d1_71) rfl ?_
          refine XS.iloadN X410.here hx rfl (hb hby d1_72) rfl ?_
          refine XS.iconst X410.here hx rfl (hb hby d1_73) ?_
          refine XS.idiv X410.here hx rfl (hb hby d1_74) rfl (by decide) ?_
          exact kt)
      by_cases hj75_1 : (0 : Int32) < (od / (2 : Int32))
      · have go421 : own_S p e below (T410.setTop (mkF m 68 #[rv o1, iv od, rv b399, iv (0 : Int32), iv (0 : Int32), iv s3] [(.int (s0 % (2 : Int32)))])) T410 (mkF m 78 #[rv o1, iv od, rv b399, iv (0 : Int32), iv (0 : Int32), iv s3] []) := fun tt kt => go420 tt (by
            refine XS.icmpNo X410.here hx rfl (hb hby d1_75) rfl (tlt hj75_1).2.1 ?_
            exact kt)
        have go422 : own_S p e below (T410.setTop (mkF m 68 #[rv o1, iv od, rv b399, iv (0 : Int32), iv (0 : Int32), iv s3] [(.int (s0 % (2 : Int32)))])) T410 (mkF m 82 #[rv o1, iv od, rv b399, iv (0 : Int32), iv (0 : Int32), iv s3] [(.int (0 : Int32)), (.ref b399), (.int (0 : Int32)), (.ref b399)]) := fun tt kt => go421 tt (by
            refine XS.aloadN X410.here hx rfl (hb hby d1_78) rfl rfl ?_
            refine XS.iload X410.here hx rfl (hb hby d1_79) rfl ?_
            refine XT.dup2 X410.here hx rfl (hb hby d1_81) rfl rfl rfl ?_
            exact kt)
        obtain ⟨cl423, Ar423, q423, S423, M423, H423, G423⟩ := id V410
        have hin423 : ¬ ((0 : Int32) < 0 ∨ cl423.slots.size ≤ ((0 : Int32)).toNatClampNeg) := inb_of S423 ⟨by decide, by decide⟩
        have hat423 : cl423.slots[((0 : Int32)).toNatClampNeg]? = some (.int (s0 / (2 : Int32))) := H423.at hin423 rfl
        have go424 : own_S p e below (T410.setTop (mkF m 68 #[rv o1, iv od, rv b399, iv (0 : Int32), iv (0 : Int32), iv s3] [(.int (s0 % (2 : Int32)))])) T410 (mkF m 83 #[rv o1, iv od, rv b399, iv (0 : Int32), iv (0 : Int32), iv s3] [(.int (s0 / (2 : Int32))), (.int (0 : Int32)), (.ref b399)]) := fun tt kt => go422 tt (by
            refine X410.iaload hx (j := (0 : Int32)) (v := (.int (s0 / (2 : Int32)))) (by rw [e410]; exact Ar423.1) (State.isArrayOf_alike hZ.alike Ar423.2.1) Ar423.2.2 hin423 hat423 (g := (mkF m 82 #[rv o1, iv od, rv b399, iv (0 : Int32), iv (0 : Int32), iv s3] [(.int (0 : Int32)), (.ref b399), (.int (0 : Int32)), (.ref b399)])) rfl rfl (hb hby d1_82) _ ?_
            exact kt)
        have go425 : own_S p e below (T410.setTop (mkF m 68 #[rv o1, iv od, rv b399, iv (0 : Int32), iv (0 : Int32), iv s3] [(.int (s0 % (2 : Int32)))])) T410 (mkF m 85 #[rv o1, iv od, rv b399, iv (0 : Int32), iv (0 : Int32), iv s3] [(.int ((s0 / (2 : Int32)) + (1 : Int32))), (.int (0 : Int32)), (.ref b399)]) := fun tt kt => go424 tt (by
            refine XS.iconst X410.here hx rfl (hb hby d1_83) ?_
            refine XS.iadd X410.here hx rfl (hb hby d1_84) rfl ?_
            exact kt)
        obtain ⟨cl426, Ar426, q426, S426, M426, H426, G426⟩ := id V410
        have hin426 : ¬ ((0 : Int32) < 0 ∨ cl426.slots.size ≤ ((0 : Int32)).toNatClampNeg) := inb_of S426 ⟨by decide, by decide⟩
        obtain ⟨T426, h426, X426, e426, W426, st426⟩ := stI X410 hx hZ e410 Ar426 (j := (0 : Int32)) hin426 (g := (mkF m 85 #[rv o1, iv od, rv b399, iv (0 : Int32), iv (0 : Int32), iv s3] [(.int ((s0 / (2 : Int32)) + (1 : Int32))), (.int (0 : Int32)), (.ref b399)])) rfl rfl (hb hby d1_85)
        have V426 : Arv Z h426 b399 k399 .int (4 : Int32) [(.int ((s0 / (2 : Int32)) + (1 : Int32))), (.int (0 : Int32)), (.int (0 : Int32)), (.int (0 : Int32))] (.int (0 : Int32)) := Arv.set Ar426 q426 S426 M426 H426 G426 rfl W426 0 rfl (Nat.le_of_ble_eq_true rfl)
        have N426 := Fr.snoc X426 N410 ge_b399
        have kj426 : Keep h410 h426 [b399] := (Keep.refl h410 [b399]).wr W426 (Or.inl (List.mem_of_getElem? (i := 0) rfl))
        have KC426 : Keep h0 h426 [] := KC410.wr W426 (Or.inr sz_b399)
        have go427 : own_S p e below (T410.setTop (mkF m 68 #[rv o1, iv od, rv b399, iv (0 : Int32), iv (0 : Int32), iv s3] [(.int (s0 % (2 : Int32)))])) T426 (mkF m 86 #[rv o1, iv od, rv b399, iv (0 : Int32), iv (0 : Int32), iv s3] []) := fun tt kt => go425 tt (st426 _ kt)
        have go428 : own_S p e below (T410.setTop (mkF m 68 #[rv o1, iv od, rv b399, iv (0 : Int32), iv (0 : Int32), iv s3] [(.int (s0 % (2 : Int32)))])) T426 (mkF m 89 #[rv o1, iv od, rv b399, iv (1 : Int32), iv (0 : Int32), iv s3] []) := fun tt kt => go427 tt (by
            refine XS.iinc X426.here hx rfl (hb hby d1_86) rfl (l' := #[rv o1, iv od, rv b399, iv (1 : Int32), iv (0 : Int32), iv s3]) rfl ?_
            exact kt)
        exact ⟨T426, h426, _, (1 : Int32), ((s0 / (2 : Int32)) + (1 : Int32)), X426, e426, N426, kj426, V426, ((if_neg hj68_0).trans (if_pos hj75_1)).symm, ((if_neg hj68_0).trans (if_pos hj75_1)).symm, go428⟩
      · have go429 : own_S p e below (T410.setTop (mkF m 68 #[rv o1, iv od, rv b399, iv (0 : Int32), iv (0 : Int32), iv s3] [(.int (s0 % (2 : Int32)))])) T410 (mkF m 86 #[rv o1, iv od, rv b399, iv (0 : Int32), iv (0 : Int32), iv s3] []) := fun tt kt => go420 tt (by
            refine XS.icmpYes X410.here hx rfl (pc0 := 75) (pc' := 86) rfl (hb hby d1_75) rfl (flt hj75_1).2.1 (by decide) (by decide) ?_
            exact kt)
        have go430 : own_S p e below (T410.setTop (mkF m 68 #[rv o1, iv od, rv b399, iv (0 : Int32), iv (0 : Int32), iv s3] [(.int (s0 % (2 : Int32)))])) T410 (mkF m 89 #[rv o1, iv od, rv b399, iv (1 : Int32), iv (0 : Int32), iv s3] []) := fun tt kt => go429 tt (by
            refine XS.iinc X410.here hx rfl (hb hby d1_86) rfl (l' := #[rv o1, iv od, rv b399, iv (1 : Int32), iv (0 : Int32), iv s3]) rfl ?_
            exact kt)
        exact ⟨T410, h410, _, (1 : Int32), (s0 / (2 : Int32)), X410, e410, N410, (Keep.refl h410 [b399]), V410, ((if_neg hj68_0).trans (if_neg hj75_1)).symm, ((if_neg hj68_0).trans (if_neg hj75_1)).symm, go430⟩
  have KC431 : Keep h0 h431 [] := KC410.trans K431 (allS (Or.inr sz_b399) all0)
  have go432 : own_S p e below ST T431 (mkF m 89 #[rv o1, iv od, rv b399, iv q1, iv (0 : Int32), iv s3] []) := fun tt kt => go416 tt (sg431 _ kt)
  have go433 : own_S p e below ST T431 (mkF m 45 #[rv o1, iv od, rv b399, iv q1, iv (1 : Int32), iv s3] []) := fun tt kt => go432 tt (by
      refine XS.iinc X431.here hx rfl (hb hby d1_89) rfl (l' := #[rv o1, iv od, rv b399, iv q1, iv (1 : Int32), iv s3]) rfl ?_
      refine XS.goto X431.here hx rfl (pc0 := 92) (pc' := 45) rfl (hb hby d1_92) (by decide) (by decide) ?_
      exact kt)
  have go434 : own_S p e below ST T431 (mkF m 48 #[rv o1, iv od, rv b399, iv q1, iv (1 : Int32), iv s3] [(.ref o1), (.int (1 : Int32))]) := fun tt kt => go433 tt (by
      refine XS.iload X431.here hx rfl (hb hby d1_45) rfl ?_
      refine XS.aloadN X431.here hx rfl (hb hby d1_47) rfl rfl ?_
      exact kt)
  have f436 := (f414.keep K431 (ninS neo1_b399 nin0))
  obtain ⟨cl435, Ar435, q435, S435, M435, H435, G435⟩ := id f436
  have go437 : own_S p e below ST T431 (mkF m 49 #[rv o1, iv od, rv b399, iv q1, iv (1 : Int32), iv s3] [(.int (4 : Int32)), (.int (1 : Int32))]) := fun tt kt => go434 tt (by
      refine X431.arraylength hx (by rw [e431]; exact Ar435.1) (State.isArrayOf_alike hZ.alike Ar435.2.1) (g := (mkF m 48 #[rv o1, iv od, rv b399, iv q1, iv (1 : Int32), iv s3] [(.ref o1), (.int (1 : Int32))])) rfl rfl (hb hby d1_48) _ ?_
      rw [len_of S435 M435]
      exact kt)
  have go438 : own_S p e below ST T431 (mkF m 58 #[rv o1, iv od, rv b399, iv q1, iv (1 : Int32), iv s3] [(.int (1 : Int32)), (.ref o1), (.int (1 : Int32)), (.ref b399)]) := fun tt kt => go437 tt (by
      refine XS.icmpNo X431.here hx rfl (hb hby d1_49) rfl (tlt (by decide : (1 : Int32) < (4 : Int32))).2.1 ?_
      refine XS.aloadN X431.here hx rfl (hb hby d1_52) rfl rfl ?_
      refine XS.iload X431.here hx rfl (hb hby d1_53) rfl ?_
      refine XS.aloadN X431.here hx rfl (hb hby d1_55) rfl rfl ?_
      refine XS.iload X431.here hx rfl (hb hby d1_56) rfl ?_
      exact kt)
  obtain ⟨cl439, Ar439, q439, S439, M439, H439, G439⟩ := id f436
  have hin439 : ¬ ((1 : Int32) < 0 ∨ cl439.slots.size ≤ ((1 : Int32)).toNatClampNeg) := inb_of S439 ⟨by decide, by decide⟩
  have hat439 : cl439.slots[((1 : Int32)).toNatClampNeg]? = some (.int s1) := H439.at hin439 rfl
  have go440 : own_S p e below ST T431 (mkF m 59 #[rv o1, iv od, rv b399, iv q1, iv (1 : Int32), iv s3] [(.int s1), (.int (1 : Int32)), (.ref b399)]) := fun tt kt => go438 tt (by
      refine X431.iaload hx (j := (1 : Int32)) (v := (.int s1)) (by rw [e431]; exact Ar439.1) (State.isArrayOf_alike hZ.alike Ar439.2.1) Ar439.2.2 hin439 hat439 (g := (mkF m 58 #[rv o1, iv od, rv b399, iv q1, iv (1 : Int32), iv s3] [(.int (1 : Int32)), (.ref o1), (.int (1 : Int32)), (.ref b399)])) rfl rfl (hb hby d1_58) _ ?_
      exact kt)
  have go441 : own_S p e below ST T431 (mkF m 61 #[rv o1, iv od, rv b399, iv q1, iv (1 : Int32), iv s3] [(.int (s1 / (2 : Int32))), (.int (1 : Int32)), (.ref b399)]) := fun tt kt => go440 tt (by
      refine XS.iconst X431.here hx rfl (hb hby d1_59) ?_
      refine XS.idiv X431.here hx rfl (hb hby d1_60) rfl (by decide) ?_
      exact kt)
  obtain ⟨cl442, Ar442, q442, S442, M442, H442, G442⟩ := id c431_0
  have hin442 : ¬ ((1 : Int32) < 0 ∨ cl442.slots.size ≤ ((1 : Int32)).toNatClampNeg) := inb_of S442 ⟨by decide, by decide⟩
  obtain ⟨T442, h442, X442, e442, W442, st442⟩ := stI X431 hx hZ e431 Ar442 (j := (1 : Int32)) hin442 (g := (mkF m 61 #[rv o1, iv od, rv b399, iv q1, iv (1 : Int32), iv s3] [(.int (s1 / (2 : Int32))), (.int (1 : Int32)), (.ref b399)])) rfl rfl (hb hby d1_61)
  have V442 : Arv Z h442 b399 k399 .int (4 : Int32) [(.int e0), (.int (s1 / (2 : Int32))), (.int (0 : Int32)), (.int (0 : Int32))] (.int (0 : Int32)) := Arv.set Ar442 q442 S442 M442 H442 G442 rfl W442 1 rfl (Nat.le_of_ble_eq_true rfl)
  have N442 := Fr.snoc X442 N431 ge_b399
  have KC442 : Keep h0 h442 [] := KC431.wr W442 (Or.inr sz_b399)
  have go443 : own_S p e below ST T442 (mkF m 62 #[rv o1, iv od, rv b399, iv q1, iv (1 : Int32), iv s3] []) := fun tt kt => go441 tt (st442 _ kt)
  have go444 : own_S p e below ST T442 (mkF m 65 #[rv o1, iv od, rv b399, iv q1, iv (1 : Int32), iv s3] [(.int (1 : Int32)), (.ref o1)]) := fun tt kt => go443 tt (by
      refine XS.aloadN X442.here hx rfl (hb hby d1_62) rfl rfl ?_
      refine XS.iload X442.here hx rfl (hb hby d1_63) rfl ?_
      exact kt)
  have f446 := (f436.other W442 neo1_b399)
  obtain ⟨cl445, Ar445, q445, S445, M445, H445, G445⟩ := id f446
  have hin445 : ¬ ((1 : Int32) < 0 ∨ cl445.slots.size ≤ ((1 : Int32)).toNatClampNeg) := inb_of S445 ⟨by decide, by decide⟩
  have hat445 : cl445.slots[((1 : Int32)).toNatClampNeg]? = some (.int s1) := H445.at hin445 rfl
  have go447 : own_S p e below ST T442 (mkF m 66 #[rv o1, iv od, rv b399, iv q1, iv (1 : Int32), iv s3] [(.int s1)]) := fun tt kt => go444 tt (by
      refine X442.iaload hx (j := (1 : Int32)) (v := (.int s1)) (by rw [e442]; exact Ar445.1) (State.isArrayOf_alike hZ.alike Ar445.2.1) Ar445.2.2 hin445 hat445 (g := (mkF m 65 #[rv o1, iv od, rv b399, iv q1, iv (1 : Int32), iv s3] [(.int (1 : Int32)), (.ref o1)])) rfl rfl (hb hby d1_65) _ ?_
      exact kt)
  have go448 : own_S p e below ST T442 (mkF m 68 #[rv o1, iv od, rv b399, iv q1, iv (1 : Int32), iv s3] [(.int (s1 % (2 : Int32)))]) := fun tt kt => go447 tt (by
      refine XS.iconst X442.here hx rfl (hb hby d1_66) ?_
      refine iremM (g := (mkF m 67 #[rv o1, iv od, rv b399, iv q1, iv (1 : Int32), iv s3] [(.int (2 : Int32)), (.int s1)])) X442 hx rfl (hb hby d1_67) rfl (by decide) ?_
      exact kt)
  have zs449 := (Nat.le_trans (Nat.le_trans zs417 K431.1) (Keep.of_wr W442).1)
  obtain ⟨T463, h463, L463, q2, e1, X463, e463, N463, K463, c463_0, hq2, he1, sg463⟩ : ∃ (T463 : State) (h463 : Heap) (L463 : List Loc) (q2 : Int32) (e1 : Int32), Stand p l e ({ frames := 0, cells := 1, slots := 4, locals := 0 } : Room) s m #[(.ref o1)] below meth c T463 L463 (0 + 1) (0 + 4) ∧ T463.heap = h463 ∧ Fr n0 L463 ∧ Keep h442 h463 [b399] ∧ Arv Z h463 b399 k399 .int (4 : Int32) [(.int e0), (.int e1), (.int (0 : Int32)), (.int (0 : Int32))] (.int (0 : Int32)) ∧ q2 = (if (s1 % (2 : Int32)) = (0 : Int32) then q1 else (if q1 < (od / (2 : Int32)) then (q1 + (1 : Int32)) else (q1 + (1 : Int32)))) ∧ e1 = (if (s1 % (2 : Int32)) = (0 : Int32) then (s1 / (2 : Int32)) else (if q1 < (od / (2 : Int32)) then ((s1 / (2 : Int32)) + (1 : Int32)) else (s1 / (2 : Int32)))) ∧ ∀ tt, Steps p.tables e below (T463.setTop (mkF m 89 #[rv o1, iv od, rv b399, iv q2, iv (1 : Int32), iv s3] [])) tt → Steps p.tables e below (T442.setTop (mkF m 68 #[rv o1, iv od, rv b399, iv q1, iv (1 : Int32), iv s3] [(.int (s1 % (2 : Int32)))])) tt := by
    by_cases hj68_0 : (s1 % (2 : Int32)) = (0 : Int32)
    · have go450 : own_S p e below (T442.setTop (mkF m 68 #[rv o1, iv od, rv b399, iv q1, iv (1 : Int32), iv s3] [(.int (s1 % (2 : Int32)))])) T442 (mkF m 89 #[rv o1, iv od, rv b399, iv q1, iv (1 : Int32), iv s3] []) := fun tt kt => (fun (tt : State) (kt : Steps p.tables e below (T442.setTop (mkF m 68 #[rv o1, iv od, rv b399, iv q1, iv (1 : Int32), iv s3] [(.int (s1 % (2 : Int32)))])) tt) => kt) tt (by
          refine XS.ifYes X442.here hx rfl (pc0 := 68) (pc' := 89) rfl (hb hby d1_68) rfl ((if0 _ _).trans (teq hj68_0).1) (by decide) (by decide) ?_
          exact kt)
      exact ⟨T442, h442, _, q1, (s1 / (2 : Int32)), X442, e442, N442, (Keep.refl h442 [b399]), V442, (if_pos hj68_0).symm, (if_pos hj68_0).symm, go450⟩
    · have go451 : own_S p e below (T442.setTop (mkF m 68 #[rv o1, iv od, rv b399, iv q1, iv (1 : Int32), iv s3] [(.int (s1 % (2 : Int32)))])) T442 (mkF m 71 #[rv o1, iv od, rv b399, iv q1, iv (1 : Int32), iv s3] []) := fun tt kt => (fun (tt : State) (kt : Steps p.tables e below (T442.setTop (mkF m 68 #[rv o1, iv od, rv b399, iv q1, iv (1 : Int32), iv s3] [(.int (s1 % (2 : Int32)))])) tt) => kt) tt (by
          refine XS.ifNo X442.here hx rfl (hb hby d1_68) rfl ((if0 _ _).trans (feq hj68_0).1) ?_
          exact kt)
      have go452 : own_S p e below (T442.setTop (mkF m 68 #[rv o1, iv od, rv b399, iv q1, iv (1 : Int32), iv s3] [(.int (s1 % (2 : Int32)))])) T442 (mkF m 75 #[rv o1, iv od, rv b399, iv q1, iv (1 : Int32), iv s3] [(.int (od / (2 : Int32))), (.int q1)]) := fun tt kt => go451 tt (by
          refine XS.iloadN X442.here hx rfl (hb hby d1_71) rfl ?_
          refine XS.iloadN X442.here hx rfl (hb hby d1_72) rfl ?_
          refine XS.iconst X442.here hx rfl (hb hby d1_73) ?_
          refine XS.idiv X442.here hx rfl (hb hby d1_74) rfl (by decide) ?_
          exact kt)
      by_cases hj75_1 : q1 < (od / (2 : Int32))
      · have go453 : own_S p e below (T442.setTop (mkF m 68 #[rv o1, iv od, rv b399, iv q1, iv (1 : Int32), iv s3] [(.int (s1 % (2 : Int32)))])) T442 (mkF m 78 #[rv o1, iv od, rv b399, iv q1, iv (1 : Int32), iv s3] []) := fun tt kt => go452 tt (by
            refine XS.icmpNo X442.here hx rfl (hb hby d1_75) rfl (tlt hj75_1).2.1 ?_
            exact kt)
        have go454 : own_S p e below (T442.setTop (mkF m 68 #[rv o1, iv od, rv b399, iv q1, iv (1 : Int32), iv s3] [(.int (s1 % (2 : Int32)))])) T442 (mkF m 82 #[rv o1, iv od, rv b399, iv q1, iv (1 : Int32), iv s3] [(.int (1 : Int32)), (.ref b399), (.int (1 : Int32)), (.ref b399)]) := fun tt kt => go453 tt (by
            refine XS.aloadN X442.here hx rfl (hb hby d1_78) rfl rfl ?_
            refine XS.iload X442.here hx rfl (hb hby d1_79) rfl ?_
            refine XT.dup2 X442.here hx rfl (hb hby d1_81) rfl rfl rfl ?_
            exact kt)
        obtain ⟨cl455, Ar455, q455, S455, M455, H455, G455⟩ := id V442
        have hin455 : ¬ ((1 : Int32) < 0 ∨ cl455.slots.size ≤ ((1 : Int32)).toNatClampNeg) := inb_of S455 ⟨by decide, by decide⟩
        have hat455 : cl455.slots[((1 : Int32)).toNatClampNeg]? = some (.int (s1 / (2 : Int32))) := H455.at hin455 rfl
        have go456 : own_S p e below (T442.setTop (mkF m 68 #[rv o1, iv od, rv b399, iv q1, iv (1 : Int32), iv s3] [(.int (s1 % (2 : Int32)))])) T442 (mkF m 83 #[rv o1, iv od, rv b399, iv q1, iv (1 : Int32), iv s3] [(.int (s1 / (2 : Int32))), (.int (1 : Int32)), (.ref b399)]) := fun tt kt => go454 tt (by
            refine X442.iaload hx (j := (1 : Int32)) (v := (.int (s1 / (2 : Int32)))) (by rw [e442]; exact Ar455.1) (State.isArrayOf_alike hZ.alike Ar455.2.1) Ar455.2.2 hin455 hat455 (g := (mkF m 82 #[rv o1, iv od, rv b399, iv q1, iv (1 : Int32), iv s3] [(.int (1 : Int32)), (.ref b399), (.int (1 : Int32)), (.ref b399)])) rfl rfl (hb hby d1_82) _ ?_
            exact kt)
        have go457 : own_S p e below (T442.setTop (mkF m 68 #[rv o1, iv od, rv b399, iv q1, iv (1 : Int32), iv s3] [(.int (s1 % (2 : Int32)))])) T442 (mkF m 85 #[rv o1, iv od, rv b399, iv q1, iv (1 : Int32), iv s3] [(.int ((s1 / (2 : Int32)) + (1 : Int32))), (.int (1 : Int32)), (.ref b399)]) := fun tt kt => go456 tt (by
            refine XS.iconst X442.here hx rfl (hb hby d1_83) ?_
            refine XS.iadd X442.here hx rfl (hb hby d1_84) rfl ?_
            exact kt)
        obtain ⟨cl458, Ar458, q458, S458, M458, H458, G458⟩ := id V442
        have hin458 : ¬ ((1 : Int32) < 0 ∨ cl458.slots.size ≤ ((1 : Int32)).toNatClampNeg) := inb_of S458 ⟨by decide, by decide⟩
        obtain ⟨T458, h458, X458, e458, W458, st458⟩ := stI X442 hx hZ e442 Ar458 (j := (1 : Int32)) hin458 (g := (mkF m 85 #[rv o1, iv od, rv b399, iv q1, iv (1 : Int32), iv s3] [(.int ((s1 / (2 : Int32)) + (1 : Int32))), (.int (1 : Int32)), (.ref b399)])) rfl rfl (hb hby d1_85)
        have V458 : Arv Z h458 b399 k399 .int (4 : Int32) [(.int e0), (.int ((s1 / (2 : Int32)) + (1 : Int32))), (.int (0 : Int32)), (.int (0 : Int32))] (.int (0 : Int32)) := Arv.set Ar458 q458 S458 M458 H458 G458 rfl W458 1 rfl (Nat.le_of_ble_eq_true rfl)
        have N458 := Fr.snoc X458 N442 ge_b399
        have kj458 : Keep h442 h458 [b399] := (Keep.refl h442 [b399]).wr W458 (Or.inl (List.mem_of_getElem? (i := 0) rfl))
        have KC458 : Keep h0 h458 [] := KC442.wr W458 (Or.inr sz_b399)
        have go459 : own_S p e below (T442.setTop (mkF m 68 #[rv o1, iv od, rv b399, iv q1, iv (1 : Int32), iv s3] [(.int (s1 % (2 : Int32)))])) T458 (mkF m 86 #[rv o1, iv od, rv b399, iv q1, iv (1 : Int32), iv s3] []) := fun tt kt => go457 tt (st458 _ kt)
        have go460 : own_S p e below (T442.setTop (mkF m 68 #[rv o1, iv od, rv b399, iv q1, iv (1 : Int32), iv s3] [(.int (s1 % (2 : Int32)))])) T458 (mkF m 89 #[rv o1, iv od, rv b399, iv (q1 + (1 : Int32)), iv (1 : Int32), iv s3] []) := fun tt kt => go459 tt (by
            refine XS.iinc X458.here hx rfl (hb hby d1_86) rfl (l' := #[rv o1, iv od, rv b399, iv (q1 + (1 : Int32)), iv (1 : Int32), iv s3]) rfl ?_
            exact kt)
        exact ⟨T458, h458, _, (q1 + (1 : Int32)), ((s1 / (2 : Int32)) + (1 : Int32)), X458, e458, N458, kj458, V458, ((if_neg hj68_0).trans (if_pos hj75_1)).symm, ((if_neg hj68_0).trans (if_pos hj75_1)).symm, go460⟩
      · have go461 : own_S p e below (T442.setTop (mkF m 68 #[rv o1, iv od, rv b399, iv q1, iv (1 : Int32), iv s3] [(.int (s1 % (2 : Int32)))])) T442 (mkF m 86 #[rv o1, iv od, rv b399, iv q1, iv (1 : Int32), iv s3] []) := fun tt kt => go452 tt (by
            refine XS.icmpYes X442.here hx rfl (pc0 := 75) (pc' := 86) rfl (hb hby d1_75) rfl (flt hj75_1).2.1 (by decide) (by decide) ?_
            exact kt)
        have go462 : own_S p e below (T442.setTop (mkF m 68 #[rv o1, iv od, rv b399, iv q1, iv (1 : Int32), iv s3] [(.int (s1 % (2 : Int32)))])) T442 (mkF m 89 #[rv o1, iv od, rv b399, iv (q1 + (1 : Int32)), iv (1 : Int32), iv s3] []) := fun tt kt => go461 tt (by
            refine XS.iinc X442.here hx rfl (hb hby d1_86) rfl (l' := #[rv o1, iv od, rv b399, iv (q1 + (1 : Int32)), iv (1 : Int32), iv s3]) rfl ?_
            exact kt)
        exact ⟨T442, h442, _, (q1 + (1 : Int32)), (s1 / (2 : Int32)), X442, e442, N442, (Keep.refl h442 [b399]), V442, ((if_neg hj68_0).trans (if_neg hj75_1)).symm, ((if_neg hj68_0).trans (if_neg hj75_1)).symm, go462⟩
  have KC463 : Keep h0 h463 [] := KC442.trans K463 (allS (Or.inr sz_b399) all0)
  have go464 : own_S p e below ST T463 (mkF m 89 #[rv o1, iv od, rv b399, iv q2, iv (1 : Int32), iv s3] []) := fun tt kt => go448 tt (sg463 _ kt)
  have go465 : own_S p e below ST T463 (mkF m 45 #[rv o1, iv od, rv b399, iv q2, iv (2 : Int32), iv s3] []) := fun tt kt => go464 tt (by
      refine XS.iinc X463.here hx rfl (hb hby d1_89) rfl (l' := #[rv o1, iv od, rv b399, iv q2, iv (2 : Int32), iv s3]) rfl ?_
      refine XS.goto X463.here hx rfl (pc0 := 92) (pc' := 45) rfl (hb hby d1_92) (by decide) (by decide) ?_
      exact kt)
  have go466 : own_S p e below ST T463 (mkF m 48 #[rv o1, iv od, rv b399, iv q2, iv (2 : Int32), iv s3] [(.ref o1), (.int (2 : Int32))]) := fun tt kt => go465 tt (by
      refine XS.iload X463.here hx rfl (hb hby d1_45) rfl ?_
      refine XS.aloadN X463.here hx rfl (hb hby d1_47) rfl rfl ?_
      exact kt)
  have f468 := (f446.keep K463 (ninS neo1_b399 nin0))
  obtain ⟨cl467, Ar467, q467, S467, M467, H467, G467⟩ := id f468
  have go469 : own_S p e below ST T463 (mkF m 49 #[rv o1, iv od, rv b399, iv q2, iv (2 : Int32), iv s3] [(.int (4 : Int32)), (.int (2 : Int32))]) := fun tt kt => go466 tt (by
      refine X463.arraylength hx (by rw [e463]; exact Ar467.1) (State.isArrayOf_alike hZ.alike Ar467.2.1) (g := (mkF m 48 #[rv o1, iv od, rv b399, iv q2, iv (2 : Int32), iv s3] [(.ref o1), (.int (2 : Int32))])) rfl rfl (hb hby d1_48) _ ?_
      rw [len_of S467 M467]
      exact kt)
  have go470 : own_S p e below ST T463 (mkF m 58 #[rv o1, iv od, rv b399, iv q2, iv (2 : Int32), iv s3] [(.int (2 : Int32)), (.ref o1), (.int (2 : Int32)), (.ref b399)]) := fun tt kt => go469 tt (by
      refine XS.icmpNo X463.here hx rfl (hb hby d1_49) rfl (tlt (by decide : (2 : Int32) < (4 : Int32))).2.1 ?_
      refine XS.aloadN X463.here hx rfl (hb hby d1_52) rfl rfl ?_
      refine XS.iload X463.here hx rfl (hb hby d1_53) rfl ?_
      refine XS.aloadN X463.here hx rfl (hb hby d1_55) rfl rfl ?_
      refine XS.iload X463.here hx rfl (hb hby d1_56) rfl ?_
      exact kt)
  obtain ⟨cl471, Ar471, q471, S471, M471, H471, G471⟩ := id f468
  have hin471 : ¬ ((2 : Int32) < 0 ∨ cl471.slots.size ≤ ((2 : Int32)).toNatClampNeg) := inb_of S471 ⟨by decide, by decide⟩
  have hat471 : cl471.slots[((2 : Int32)).toNatClampNeg]? = some (.int s2) := H471.at hin471 rfl
  have go472 : own_S p e below ST T463 (mkF m 59 #[rv o1, iv od, rv b399, iv q2, iv (2 : Int32), iv s3] [(.int s2), (.int (2 : Int32)), (.ref b399)]) := fun tt kt => go470 tt (by
      refine X463.iaload hx (j := (2 : Int32)) (v := (.int s2)) (by rw [e463]; exact Ar471.1) (State.isArrayOf_alike hZ.alike Ar471.2.1) Ar471.2.2 hin471 hat471 (g := (mkF m 58 #[rv o1, iv od, rv b399, iv q2, iv (2 : Int32), iv s3] [(.int (2 : Int32)), (.ref o1), (.int (2 : Int32)), (.ref b399)])) rfl rfl (hb hby d1_58) _ ?_
      exact kt)
  have go473 : own_S p e below ST T463 (mkF m 61 #[rv o1, iv od, rv b399, iv q2, iv (2 : Int32), iv s3] [(.int (s2 / (2 : Int32))), (.int (2 : Int32)), (.ref b399)]) := fun tt kt => go472 tt (by
      refine XS.iconst X463.here hx rfl (hb hby d1_59) ?_
      refine XS.idiv X463.here hx rfl (hb hby d1_60) rfl (by decide) ?_
      exact kt)
  obtain ⟨cl474, Ar474, q474, S474, M474, H474, G474⟩ := id c463_0
  have hin474 : ¬ ((2 : Int32) < 0 ∨ cl474.slots.size ≤ ((2 : Int32)).toNatClampNeg) := inb_of S474 ⟨by decide, by decide⟩
  obtain ⟨T474, h474, X474, e474, W474, st474⟩ := stI X463 hx hZ e463 Ar474 (j := (2 : Int32)) hin474 (g := (mkF m 61 #[rv o1, iv od, rv b399, iv q2, iv (2 : Int32), iv s3] [(.int (s2 / (2 : Int32))), (.int (2 : Int32)), (.ref b399)])) rfl rfl (hb hby d1_61)
  have V474 : Arv Z h474 b399 k399 .int (4 : Int32) [(.int e0), (.int e1), (.int (s2 / (2 : Int32))), (.int (0 : Int32))] (.int (0 : Int32)) := Arv.set Ar474 q474 S474 M474 H474 G474 rfl W474 2 rfl (Nat.le_of_ble_eq_true rfl)
  have N474 := Fr.snoc X474 N463 ge_b399
  have KC474 : Keep h0 h474 [] := KC463.wr W474 (Or.inr sz_b399)
  have go475 : own_S p e below ST T474 (mkF m 62 #[rv o1, iv od, rv b399, iv q2, iv (2 : Int32), iv s3] []) := fun tt kt => go473 tt (st474 _ kt)
  have go476 : own_S p e below ST T474 (mkF m 65 #[rv o1, iv od, rv b399, iv q2, iv (2 : Int32), iv s3] [(.int (2 : Int32)), (.ref o1)]) := fun tt kt => go475 tt (by
      refine XS.aloadN X474.here hx rfl (hb hby d1_62) rfl rfl ?_
      refine XS.iload X474.here hx rfl (hb hby d1_63) rfl ?_
      exact kt)
  have f478 := (f468.other W474 neo1_b399)
  obtain ⟨cl477, Ar477, q477, S477, M477, H477, G477⟩ := id f478
  have hin477 : ¬ ((2 : Int32) < 0 ∨ cl477.slots.size ≤ ((2 : Int32)).toNatClampNeg) := inb_of S477 ⟨by decide, by decide⟩
  have hat477 : cl477.slots[((2 : Int32)).toNatClampNeg]? = some (.int s2) := H477.at hin477 rfl
  have go479 : own_S p e below ST T474 (mkF m 66 #[rv o1, iv od, rv b399, iv q2, iv (2 : Int32), iv s3] [(.int s2)]) := fun tt kt => go476 tt (by
      refine X474.iaload hx (j := (2 : Int32)) (v := (.int s2)) (by rw [e474]; exact Ar477.1) (State.isArrayOf_alike hZ.alike Ar477.2.1) Ar477.2.2 hin477 hat477 (g := (mkF m 65 #[rv o1, iv od, rv b399, iv q2, iv (2 : Int32), iv s3] [(.int (2 : Int32)), (.ref o1)])) rfl rfl (hb hby d1_65) _ ?_
      exact kt)
  have go480 : own_S p e below ST T474 (mkF m 68 #[rv o1, iv od, rv b399, iv q2, iv (2 : Int32), iv s3] [(.int (s2 % (2 : Int32)))]) := fun tt kt => go479 tt (by
      refine XS.iconst X474.here hx rfl (hb hby d1_66) ?_
      refine iremM (g := (mkF m 67 #[rv o1, iv od, rv b399, iv q2, iv (2 : Int32), iv s3] [(.int (2 : Int32)), (.int s2)])) X474 hx rfl (hb hby d1_67) rfl (by decide) ?_
      exact kt)
  have zs481 := (Nat.le_trans (Nat.le_trans zs449 K463.1) (Keep.of_wr W474).1)
  obtain ⟨T495, h495, L495, q3, e2, X495, e495, N495, K495, c495_0, hq3, he2, sg495⟩ : ∃ (T495 : State) (h495 : Heap) (L495 : List Loc) (q3 : Int32) (e2 : Int32), Stand p l e ({ frames := 0, cells := 1, slots := 4, locals := 0 } : Room) s m #[(.ref o1)] below meth c T495 L495 (0 + 1) (0 + 4) ∧ T495.heap = h495 ∧ Fr n0 L495 ∧ Keep h474 h495 [b399] ∧ Arv Z h495 b399 k399 .int (4 : Int32) [(.int e0), (.int e1), (.int e2), (.int (0 : Int32))] (.int (0 : Int32)) ∧ q3 = (if (s2 % (2 : Int32)) = (0 : Int32) then q2 else (if q2 < (od / (2 : Int32)) then (q2 + (1 : Int32)) else (q2 + (1 : Int32)))) ∧ e2 = (if (s2 % (2 : Int32)) = (0 : Int32) then (s2 / (2 : Int32)) else (if q2 < (od / (2 : Int32)) then ((s2 / (2 : Int32)) + (1 : Int32)) else (s2 / (2 : Int32)))) ∧ ∀ tt, Steps p.tables e below (T495.setTop (mkF m 89 #[rv o1, iv od, rv b399, iv q3, iv (2 : Int32), iv s3] [])) tt → Steps p.tables e below (T474.setTop (mkF m 68 #[rv o1, iv od, rv b399, iv q2, iv (2 : Int32), iv s3] [(.int (s2 % (2 : Int32)))])) tt := by
    by_cases hj68_0 : (s2 % (2 : Int32)) = (0 : Int32)
    · have go482 : own_S p e below (T474.setTop (mkF m 68 #[rv o1, iv od, rv b399, iv q2, iv (2 : Int32), iv s3] [(.int (s2 % (2 : Int32)))])) T474 (mkF m 89 #[rv o1, iv od, rv b399, iv q2, iv (2 : Int32), iv s3] []) := fun tt kt => (fun (tt : State) (kt : Steps p.tables e below (T474.setTop (mkF m 68 #[rv o1, iv od, rv b399, iv q2, iv (2 : Int32), iv s3] [(.int (s2 % (2 : Int32)))])) tt) => kt) tt (by
          refine XS.ifYes X474.here hx rfl (pc0 := 68) (pc' := 89) rfl (hb hby d1_68) rfl ((if0 _ _).trans (teq hj68_0).1) (by decide) (by decide) ?_
          exact kt)
      exact ⟨T474, h474, _, q2, (s2 / (2 : Int32)), X474, e474, N474, (Keep.refl h474 [b399]), V474, (if_pos hj68_0).symm, (if_pos hj68_0).symm, go482⟩
    · have go483 : own_S p e below (T474.setTop (mkF m 68 #[rv o1, iv od, rv b399, iv q2, iv (2 : Int32), iv s3] [(.int (s2 % (2 : Int32)))])) T474 (mkF m 71 #[rv o1, iv od, rv b399, iv q2, iv (2 : Int32), iv s3] []) := fun tt kt => (fun (tt : State) (kt : Steps p.tables e below (T474.setTop (mkF m 68 #[rv o1, iv od, rv b399, iv q2, iv (2 : Int32), iv s3] [(.int (s2 % (2 : Int32)))])) tt) => kt) tt (by
          refine XS.ifNo X474.here hx rfl (hb hby d1_68) rfl ((if0 _ _).trans (feq hj68_0).1) ?_
          exact kt)
      have go484 : own_S p e below (T474.setTop (mkF m 68 #[rv o1, iv od, rv b399, iv q2, iv (2 : Int32), iv s3] [(.int (s2 % (2 : Int32)))])) T474 (mkF m 75 #[rv o1, iv od, rv b399, iv q2, iv (2 : Int32), iv s3] [(.int (od / (2 : Int32))), (.int q2)]) := fun tt kt => go483 tt (by
          refine XS.iloadN X474.here hx rfl (hb hby d1_71) rfl ?_
          refine XS.iloadN X474.here hx rfl (hb hby d1_72) rfl ?_
          refine XS.iconst X474.here hx rfl (hb hby d1_73) ?_
          refine XS.idiv X474.here hx rfl (hb hby d1_74) rfl (by decide) ?_
          exact kt)
      by_cases hj75_1 : q2 < (od / (2 : Int32))
      · have go485 : own_S p e below (T474.setTop (mkF m 68 #[rv o1, iv od, rv b399, iv q2, iv (2 : Int32), iv s3] [(.int (s2 % (2 : Int32)))])) T474 (mkF m 78 #[rv o1, iv od, rv b399, iv q2, iv (2 : Int32), iv s3] []) := fun tt kt => go484 tt (by
            refine XS.icmpNo X474.here hx rfl (hb hby d1_75) rfl (tlt hj75_1).2.1 ?_
            exact kt)
        have go486 : own_S p e below (T474.setTop (mkF m 68 #[rv o1, iv od, rv b399, iv q2, iv (2 : Int32), iv s3] [(.int (s2 % (2 : Int32)))])) T474 (mkF m 82 #[rv o1, iv od, rv b399, iv q2, iv (2 : Int32), iv s3] [(.int (2 : Int32)), (.ref b399), (.int (2 : Int32)), (.ref b399)]) := fun tt kt => go485 tt (by
            refine XS.aloadN X474.here hx rfl (hb hby d1_78) rfl rfl ?_
            refine XS.iload X474.here hx rfl (hb hby d1_79) rfl ?_
            refine XT.dup2 X474.here hx rfl (hb hby d1_81) rfl rfl rfl ?_
            exact kt)
        obtain ⟨cl487, Ar487, q487, S487, M487, H487, G487⟩ := id V474
        have hin487 : ¬ ((2 : Int32) < 0 ∨ cl487.slots.size ≤ ((2 : Int32)).toNatClampNeg) := inb_of S487 ⟨by decide, by decide⟩
        have hat487 : cl487.slots[((2 : Int32)).toNatClampNeg]? = some (.int (s2 / (2 : Int32))) := H487.at hin487 rfl
        have go488 : own_S p e below (T474.setTop (mkF m 68 #[rv o1, iv od, rv b399, iv q2, iv (2 : Int32), iv s3] [(.int (s2 % (2 : Int32)))])) T474 (mkF m 83 #[rv o1, iv od, rv b399, iv q2, iv (2 : Int32), iv s3] [(.int (s2 / (2 : Int32))), (.int (2 : Int32)), (.ref b399)]) := fun tt kt => go486 tt (by
            refine X474.iaload hx (j := (2 : Int32)) (v := (.int (s2 / (2 : Int32)))) (by rw [e474]; exact Ar487.1) (State.isArrayOf_alike hZ.alike Ar487.2.1) Ar487.2.2 hin487 hat487 (g := (mkF m 82 #[rv o1, iv od, rv b399, iv q2, iv (2 : Int32), iv s3] [(.int (2 : Int32)), (.ref b399), (.int (2 : Int32)), (.ref b399)])) rfl rfl (hb hby d1_82) _ ?_
            exact kt)
        have go489 : own_S p e below (T474.setTop (mkF m 68 #[rv o1, iv od, rv b399, iv q2, iv (2 : Int32), iv s3] [(.int (s2 % (2 : Int32)))])) T474 (mkF m 85 #[rv o1, iv od, rv b399, iv q2, iv (2 : Int32), iv s3] [(.int ((s2 / (2 : Int32)) + (1 : Int32))), (.int (2 : Int32)), (.ref b399)]) := fun tt kt => go488 tt (by
            refine XS.iconst X474.here hx rfl (hb hby d1_83) ?_
            refine XS.iadd X474.here hx rfl (hb hby d1_84) rfl ?_
            exact kt)
        obtain ⟨cl490, Ar490, q490, S490, M490, H490, G490⟩ := id V474
        have hin490 : ¬ ((2 : Int32) < 0 ∨ cl490.slots.size ≤ ((2 : Int32)).toNatClampNeg) := inb_of S490 ⟨by decide, by decide⟩
        obtain ⟨T490, h490, X490, e490, W490, st490⟩ := stI X474 hx hZ e474 Ar490 (j := (2 : Int32)) hin490 (g := (mkF m 85 #[rv o1, iv od, rv b399, iv q2, iv (2 : Int32), iv s3] [(.int ((s2 / (2 : Int32)) + (1 : Int32))), (.int (2 : Int32)), (.ref b399)])) rfl rfl (hb hby d1_85)
        have V490 : Arv Z h490 b399 k399 .int (4 : Int32) [(.int e0), (.int e1), (.int ((s2 / (2 : Int32)) + (1 : Int32))), (.int (0 : Int32))] (.int (0 : Int32)) := Arv.set Ar490 q490 S490 M490 H490 G490 rfl W490 2 rfl (Nat.le_of_ble_eq_true rfl)
        have N490 := Fr.snoc X490 N474 ge_b399
        have kj490 : Keep h474 h490 [b399] := (Keep.refl h474 [b399]).wr W490 (Or.inl (List.mem_of_getElem? (i := 0) rfl))
        have KC490 : Keep h0 h490 [] := KC474.wr W490 (Or.inr sz_b399)
        have go491 : own_S p e below (T474.setTop (mkF m 68 #[rv o1, iv od, rv b399, iv q2, iv (2 : Int32), iv s3] [(.int (s2 % (2 : Int32)))])) T490 (mkF m 86 #[rv o1, iv od, rv b399, iv q2, iv (2 : Int32), iv s3] []) := fun tt kt => go489 tt (st490 _ kt)
        have go492 : own_S p e below (T474.setTop (mkF m 68 #[rv o1, iv od, rv b399, iv q2, iv (2 : Int32), iv s3] [(.int (s2 % (2 : Int32)))])) T490 (mkF m 89 #[rv o1, iv od, rv b399, iv (q2 + (1 : Int32)), iv (2 : Int32), iv s3] []) := fun tt kt => go491 tt (by
            refine XS.iinc X490.here hx rfl (hb hby d1_86) rfl (l' := #[rv o1, iv od, rv b399, iv (q2 + (1 : Int32)), iv (2 : Int32), iv s3]) rfl ?_
            exact kt)
        exact ⟨T490, h490, _, (q2 + (1 : Int32)), ((s2 / (2 : Int32)) + (1 : Int32)), X490, e490, N490, kj490, V490, ((if_neg hj68_0).trans (if_pos hj75_1)).symm, ((if_neg hj68_0).trans (if_pos hj75_1)).symm, go492⟩
      · have go493 : own_S p e below (T474.setTop (mkF m 68 #[rv o1, iv od, rv b399, iv q2, iv (2 : Int32), iv s3] [(.int (s2 % (2 : Int32)))])) T474 (mkF m 86 #[rv o1, iv od, rv b399, iv q2, iv (2 : Int32), iv s3] []) := fun tt kt => go484 tt (by
            refine XS.icmpYes X474.here hx rfl (pc0 := 75) (pc' := 86) rfl (hb hby d1_75) rfl (flt hj75_1).2.1 (by decide) (by decide) ?_
            exact kt)
        have go494 : own_S p e below (T474.setTop (mkF m 68 #[rv o1, iv od, rv b399, iv q2, iv (2 : Int32), iv s3] [(.int (s2 % (2 : Int32)))])) T474 (mkF m 89 #[rv o1, iv od, rv b399, iv (q2 + (1 : Int32)), iv (2 : Int32), iv s3] []) := fun tt kt => go493 tt (by
            refine XS.iinc X474.here hx rfl (hb hby d1_86) rfl (l' := #[rv o1, iv od, rv b399, iv (q2 + (1 : Int32)), iv (2 : Int32), iv s3]) rfl ?_
            exact kt)
        exact ⟨T474, h474, _, (q2 + (1 : Int32)), (s2 / (2 : Int32)), X474, e474, N474, (Keep.refl h474 [b399]), V474, ((if_neg hj68_0).trans (if_neg hj75_1)).symm, ((if_neg hj68_0).trans (if_neg hj75_1)).symm, go494⟩
  have KC495 : Keep h0 h495 [] := KC474.trans K495 (allS (Or.inr sz_b399) all0)
  have go496 : own_S p e below ST T495 (mkF m 89 #[rv o1, iv od, rv b399, iv q3, iv (2 : Int32), iv s3] []) := fun tt kt => go480 tt (sg495 _ kt)
  have go497 : own_S p e below ST T495 (mkF m 45 #[rv o1, iv od, rv b399, iv q3, iv (3 : Int32), iv s3] []) := fun tt kt => go496 tt (by
      refine XS.iinc X495.here hx rfl (hb hby d1_89) rfl (l' := #[rv o1, iv od, rv b399, iv q3, iv (3 : Int32), iv s3]) rfl ?_
      refine XS.goto X495.here hx rfl (pc0 := 92) (pc' := 45) rfl (hb hby d1_92) (by decide) (by decide) ?_
      exact kt)
  have go498 : own_S p e below ST T495 (mkF m 48 #[rv o1, iv od, rv b399, iv q3, iv (3 : Int32), iv s3] [(.ref o1), (.int (3 : Int32))]) := fun tt kt => go497 tt (by
      refine XS.iload X495.here hx rfl (hb hby d1_45) rfl ?_
      refine XS.aloadN X495.here hx rfl (hb hby d1_47) rfl rfl ?_
      exact kt)
  have f500 := (f478.keep K495 (ninS neo1_b399 nin0))
  obtain ⟨cl499, Ar499, q499, S499, M499, H499, G499⟩ := id f500
  have go501 : own_S p e below ST T495 (mkF m 49 #[rv o1, iv od, rv b399, iv q3, iv (3 : Int32), iv s3] [(.int (4 : Int32)), (.int (3 : Int32))]) := fun tt kt => go498 tt (by
      refine X495.arraylength hx (by rw [e495]; exact Ar499.1) (State.isArrayOf_alike hZ.alike Ar499.2.1) (g := (mkF m 48 #[rv o1, iv od, rv b399, iv q3, iv (3 : Int32), iv s3] [(.ref o1), (.int (3 : Int32))])) rfl rfl (hb hby d1_48) _ ?_
      rw [len_of S499 M499]
      exact kt)
  have go502 : own_S p e below ST T495 (mkF m 58 #[rv o1, iv od, rv b399, iv q3, iv (3 : Int32), iv s3] [(.int (3 : Int32)), (.ref o1), (.int (3 : Int32)), (.ref b399)]) := fun tt kt => go501 tt (by
      refine XS.icmpNo X495.here hx rfl (hb hby d1_49) rfl (tlt (by decide : (3 : Int32) < (4 : Int32))).2.1 ?_
      refine XS.aloadN X495.here hx rfl (hb hby d1_52) rfl rfl ?_
      refine XS.iload X495.here hx rfl (hb hby d1_53) rfl ?_
      refine XS.aloadN X495.here hx rfl (hb hby d1_55) rfl rfl ?_
      refine XS.iload X495.here hx rfl (hb hby d1_56) rfl ?_
      exact kt)
  obtain ⟨cl503, Ar503, q503, S503, M503, H503, G503⟩ := id f500
  have hin503 : ¬ ((3 : Int32) < 0 ∨ cl503.slots.size ≤ ((3 : Int32)).toNatClampNeg) := inb_of S503 ⟨by decide, by decide⟩
  have hat503 : cl503.slots[((3 : Int32)).toNatClampNeg]? = some (.int s3) := H503.at hin503 rfl
  have go504 : own_S p e below ST T495 (mkF m 59 #[rv o1, iv od, rv b399, iv q3, iv (3 : Int32), iv s3] [(.int s3), (.int (3 : Int32)), (.ref b399)]) := fun tt kt => go502 tt (by
      refine X495.iaload hx (j := (3 : Int32)) (v := (.int s3)) (by rw [e495]; exact Ar503.1) (State.isArrayOf_alike hZ.alike Ar503.2.1) Ar503.2.2 hin503 hat503 (g := (mkF m 58 #[rv o1, iv od, rv b399, iv q3, iv (3 : Int32), iv s3] [(.int (3 : Int32)), (.ref o1), (.int (3 : Int32)), (.ref b399)])) rfl rfl (hb hby d1_58) _ ?_
      exact kt)
  have go505 : own_S p e below ST T495 (mkF m 61 #[rv o1, iv od, rv b399, iv q3, iv (3 : Int32), iv s3] [(.int (s3 / (2 : Int32))), (.int (3 : Int32)), (.ref b399)]) := fun tt kt => go504 tt (by
      refine XS.iconst X495.here hx rfl (hb hby d1_59) ?_
      refine XS.idiv X495.here hx rfl (hb hby d1_60) rfl (by decide) ?_
      exact kt)
  obtain ⟨cl506, Ar506, q506, S506, M506, H506, G506⟩ := id c495_0
  have hin506 : ¬ ((3 : Int32) < 0 ∨ cl506.slots.size ≤ ((3 : Int32)).toNatClampNeg) := inb_of S506 ⟨by decide, by decide⟩
  obtain ⟨T506, h506, X506, e506, W506, st506⟩ := stI X495 hx hZ e495 Ar506 (j := (3 : Int32)) hin506 (g := (mkF m 61 #[rv o1, iv od, rv b399, iv q3, iv (3 : Int32), iv s3] [(.int (s3 / (2 : Int32))), (.int (3 : Int32)), (.ref b399)])) rfl rfl (hb hby d1_61)
  have V506 : Arv Z h506 b399 k399 .int (4 : Int32) [(.int e0), (.int e1), (.int e2), (.int (s3 / (2 : Int32)))] (.int (0 : Int32)) := Arv.set Ar506 q506 S506 M506 H506 G506 rfl W506 3 rfl (Nat.le_of_ble_eq_true rfl)
  have N506 := Fr.snoc X506 N495 ge_b399
  have KC506 : Keep h0 h506 [] := KC495.wr W506 (Or.inr sz_b399)
  have go507 : own_S p e below ST T506 (mkF m 62 #[rv o1, iv od, rv b399, iv q3, iv (3 : Int32), iv s3] []) := fun tt kt => go505 tt (st506 _ kt)
  have go508 : own_S p e below ST T506 (mkF m 65 #[rv o1, iv od, rv b399, iv q3, iv (3 : Int32), iv s3] [(.int (3 : Int32)), (.ref o1)]) := fun tt kt => go507 tt (by
      refine XS.aloadN X506.here hx rfl (hb hby d1_62) rfl rfl ?_
      refine XS.iload X506.here hx rfl (hb hby d1_63) rfl ?_
      exact kt)
  have f510 := (f500.other W506 neo1_b399)
  obtain ⟨cl509, Ar509, q509, S509, M509, H509, G509⟩ := id f510
  have hin509 : ¬ ((3 : Int32) < 0 ∨ cl509.slots.size ≤ ((3 : Int32)).toNatClampNeg) := inb_of S509 ⟨by decide, by decide⟩
  have hat509 : cl509.slots[((3 : Int32)).toNatClampNeg]? = some (.int s3) := H509.at hin509 rfl
  have go511 : own_S p e below ST T506 (mkF m 66 #[rv o1, iv od, rv b399, iv q3, iv (3 : Int32), iv s3] [(.int s3)]) := fun tt kt => go508 tt (by
      refine X506.iaload hx (j := (3 : Int32)) (v := (.int s3)) (by rw [e506]; exact Ar509.1) (State.isArrayOf_alike hZ.alike Ar509.2.1) Ar509.2.2 hin509 hat509 (g := (mkF m 65 #[rv o1, iv od, rv b399, iv q3, iv (3 : Int32), iv s3] [(.int (3 : Int32)), (.ref o1)])) rfl rfl (hb hby d1_65) _ ?_
      exact kt)
  have go512 : own_S p e below ST T506 (mkF m 68 #[rv o1, iv od, rv b399, iv q3, iv (3 : Int32), iv s3] [(.int (s3 % (2 : Int32)))]) := fun tt kt => go511 tt (by
      refine XS.iconst X506.here hx rfl (hb hby d1_66) ?_
      refine iremM (g := (mkF m 67 #[rv o1, iv od, rv b399, iv q3, iv (3 : Int32), iv s3] [(.int (2 : Int32)), (.int s3)])) X506 hx rfl (hb hby d1_67) rfl (by decide) ?_
      exact kt)
  have zs513 := (Nat.le_trans (Nat.le_trans zs481 K495.1) (Keep.of_wr W506).1)
  obtain ⟨T527, h527, L527, q4, e3, X527, e527, N527, K527, c527_0, hq4, he3, sg527⟩ : ∃ (T527 : State) (h527 : Heap) (L527 : List Loc) (q4 : Int32) (e3 : Int32), Stand p l e ({ frames := 0, cells := 1, slots := 4, locals := 0 } : Room) s m #[(.ref o1)] below meth c T527 L527 (0 + 1) (0 + 4) ∧ T527.heap = h527 ∧ Fr n0 L527 ∧ Keep h506 h527 [b399] ∧ Arv Z h527 b399 k399 .int (4 : Int32) [(.int e0), (.int e1), (.int e2), (.int e3)] (.int (0 : Int32)) ∧ q4 = (if (s3 % (2 : Int32)) = (0 : Int32) then q3 else (if q3 < (od / (2 : Int32)) then (q3 + (1 : Int32)) else (q3 + (1 : Int32)))) ∧ e3 = (if (s3 % (2 : Int32)) = (0 : Int32) then (s3 / (2 : Int32)) else (if q3 < (od / (2 : Int32)) then ((s3 / (2 : Int32)) + (1 : Int32)) else (s3 / (2 : Int32)))) ∧ ∀ tt, Steps p.tables e below (T527.setTop (mkF m 89 #[rv o1, iv od, rv b399, iv q4, iv (3 : Int32), iv s3] [])) tt → Steps p.tables e below (T506.setTop (mkF m 68 #[rv o1, iv od, rv b399, iv q3, iv (3 : Int32), iv s3] [(.int (s3 % (2 : Int32)))])) tt := by
    by_cases hj68_0 : (s3 % (2 : Int32)) = (0 : Int32)
    · have go514 : own_S p e below (T506.setTop (mkF m 68 #[rv o1, iv od, rv b399, iv q3, iv (3 : Int32), iv s3] [(.int (s3 % (2 : Int32)))])) T506 (mkF m 89 #[rv o1, iv od, rv b399, iv q3, iv (3 : Int32), iv s3] []) := fun tt kt => (fun (tt : State) (kt : Steps p.tables e below (T506.setTop (mkF m 68 #[rv o1, iv od, rv b399, iv q3, iv (3 : Int32), iv s3] [(.int (s3 % (2 : Int32)))])) tt) => kt) tt (by
          refine XS.ifYes X506.here hx rfl (pc0 := 68) (pc' := 89) rfl (hb hby d1_68) rfl ((if0 _ _).trans (teq hj68_0).1) (by decide) (by decide) ?_
          exact kt)
      exact ⟨T506, h506, _, q3, (s3 / (2 : Int32)), X506, e506, N506, (Keep.refl h506 [b399]), V506, (if_pos hj68_0).symm, (if_pos hj68_0).symm, go514⟩
    · have go515 : own_S p e below (T506.setTop (mkF m 68 #[rv o1, iv od, rv b399, iv q3, iv (3 : Int32), iv s3] [(.int (s3 % (2 : Int32)))])) T506 (mkF m 71 #[rv o1, iv od, rv b399, iv q3, iv (3 : Int32), iv s3] []) := fun tt kt => (fun (tt : State) (kt : Steps p.tables e below (T506.setTop (mkF m 68 #[rv o1, iv od, rv b399, iv q3, iv (3 : Int32), iv s3] [(.int (s3 % (2 : Int32)))])) tt) => kt) tt (by
          refine XS.ifNo X506.here hx rfl (hb hby d1_68) rfl ((if0 _ _).trans (feq hj68_0).1) ?_
          exact kt)
      have go516 : own_S p e below (T506.setTop (mkF m 68 #[rv o1, iv od, rv b399, iv q3, iv (3 : Int32), iv s3] [(.int (s3 % (2 : Int32)))])) T506 (mkF m 75 #[rv o1, iv od, rv b399, iv q3, iv (3 : Int32), iv s3] [(.int (od / (2 : Int32))), (.int q3)]) := fun tt kt => go515 tt (by
          refine XS.iloadN X506.here hx rfl (hb hby d1_71) rfl ?_
          refine XS.iloadN X506.here hx rfl (hb hby d1_72) rfl ?_
          refine XS.iconst X506.here hx rfl (hb hby d1_73) ?_
          refine XS.idiv X506.here hx rfl (hb hby d1_74) rfl (by decide) ?_
          exact kt)
      by_cases hj75_1 : q3 < (od / (2 : Int32))
      · have go517 : own_S p e below (T506.setTop (mkF m 68 #[rv o1, iv od, rv b399, iv q3, iv (3 : Int32), iv s3] [(.int (s3 % (2 : Int32)))])) T506 (mkF m 78 #[rv o1, iv od, rv b399, iv q3, iv (3 : Int32), iv s3] []) := fun tt kt => go516 tt (by
            refine XS.icmpNo X506.here hx rfl (hb hby d1_75) rfl (tlt hj75_1).2.1 ?_
            exact kt)
        have go518 : own_S p e below (T506.setTop (mkF m 68 #[rv o1, iv od, rv b399, iv q3, iv (3 : Int32), iv s3] [(.int (s3 % (2 : Int32)))])) T506 (mkF m 82 #[rv o1, iv od, rv b399, iv q3, iv (3 : Int32), iv s3] [(.int (3 : Int32)), (.ref b399), (.int (3 : Int32)), (.ref b399)]) := fun tt kt => go517 tt (by
            refine XS.aloadN X506.here hx rfl (hb hby d1_78) rfl rfl ?_
            refine XS.iload X506.here hx rfl (hb hby d1_79) rfl ?_
            refine XT.dup2 X506.here hx rfl (hb hby d1_81) rfl rfl rfl ?_
            exact kt)
        obtain ⟨cl519, Ar519, q519, S519, M519, H519, G519⟩ := id V506
        have hin519 : ¬ ((3 : Int32) < 0 ∨ cl519.slots.size ≤ ((3 : Int32)).toNatClampNeg) := inb_of S519 ⟨by decide, by decide⟩
        have hat519 : cl519.slots[((3 : Int32)).toNatClampNeg]? = some (.int (s3 / (2 : Int32))) := H519.at hin519 rfl
        have go520 : own_S p e below (T506.setTop (mkF m 68 #[rv o1, iv od, rv b399, iv q3, iv (3 : Int32), iv s3] [(.int (s3 % (2 : Int32)))])) T506 (mkF m 83 #[rv o1, iv od, rv b399, iv q3, iv (3 : Int32), iv s3] [(.int (s3 / (2 : Int32))), (.int (3 : Int32)), (.ref b399)]) := fun tt kt => go518 tt (by
            refine X506.iaload hx (j := (3 : Int32)) (v := (.int (s3 / (2 : Int32)))) (by rw [e506]; exact Ar519.1) (State.isArrayOf_alike hZ.alike Ar519.2.1) Ar519.2.2 hin519 hat519 (g := (mkF m 82 #[rv o1, iv od, rv b399, iv q3, iv (3 : Int32), iv s3] [(.int (3 : Int32)), (.ref b399), (.int (3 : Int32)), (.ref b399)])) rfl rfl (hb hby d1_82) _ ?_
            exact kt)
        have go521 : own_S p e below (T506.setTop (mkF m 68 #[rv o1, iv od, rv b399, iv q3, iv (3 : Int32), iv s3] [(.int (s3 % (2 : Int32)))])) T506 (mkF m 85 #[rv o1, iv od, rv b399, iv q3, iv (3 : Int32), iv s3] [(.int ((s3 / (2 : Int32)) + (1 : Int32))), (.int (3 : Int32)), (.ref b399)]) := fun tt kt => go520 tt (by
            refine XS.iconst X506.here hx rfl (hb hby d1_83) ?_
            refine XS.iadd X506.here hx rfl (hb hby d1_84) rfl ?_
            exact kt)
        obtain ⟨cl522, Ar522, q522, S522, M522, H522, G522⟩ := id V506
        have hin522 : ¬ ((3 : Int32) < 0 ∨ cl522.slots.size ≤ ((3 : Int32)).toNatClampNeg) := inb_of S522 ⟨by decide, by decide⟩
        obtain ⟨T522, h522, X522, e522, W522, st522⟩ := stI X506 hx hZ e506 Ar522 (j := (3 : Int32)) hin522 (g := (mkF m 85 #[rv o1, iv od, rv b399, iv q3, iv (3 : Int32), iv s3] [(.int ((s3 / (2 : Int32)) + (1 : Int32))), (.int (3 : Int32)), (.ref b399)])) rfl rfl (hb hby d1_85)
        have V522 : Arv Z h522 b399 k399 .int (4 : Int32) [(.int e0), (.int e1), (.int e2), (.int ((s3 / (2 : Int32)) + (1 : Int32)))] (.int (0 : Int32)) := Arv.set Ar522 q522 S522 M522 H522 G522 rfl W522 3 rfl (Nat.le_of_ble_eq_true rfl)
        have N522 := Fr.snoc X522 N506 ge_b399
        have kj522 : Keep h506 h522 [b399] := (Keep.refl h506 [b399]).wr W522 (Or.inl (List.mem_of_getElem? (i := 0) rfl))
        have KC522 : Keep h0 h522 [] := KC506.wr W522 (Or.inr sz_b399)
        have go523 : own_S p e below (T506.setTop (mkF m 68 #[rv o1, iv od, rv b399, iv q3, iv (3 : Int32), iv s3] [(.int (s3 % (2 : Int32)))])) T522 (mkF m 86 #[rv o1, iv od, rv b399, iv q3, iv (3 : Int32), iv s3] []) := fun tt kt => go521 tt (st522 _ kt)
        have go524 : own_S p e below (T506.setTop (mkF m 68 #[rv o1, iv od, rv b399, iv q3, iv (3 : Int32), iv s3] [(.int (s3 % (2 : Int32)))])) T522 (mkF m 89 #[rv o1, iv od, rv b399, iv (q3 + (1 : Int32)), iv (3 : Int32), iv s3] []) := fun tt kt => go523 tt (by
            refine XS.iinc X522.here hx rfl (hb hby d1_86) rfl (l' := #[rv o1, iv od, rv b399, iv (q3 + (1 : Int32)), iv (3 : Int32), iv s3]) rfl ?_
            exact kt)
        exact ⟨T522, h522, _, (q3 + (1 : Int32)), ((s3 / (2 : Int32)) + (1 : Int32)), X522, e522, N522, kj522, V522, ((if_neg hj68_0).trans (if_pos hj75_1)).symm, ((if_neg hj68_0).trans (if_pos hj75_1)).symm, go524⟩
      · have go525 : own_S p e below (T506.setTop (mkF m 68 #[rv o1, iv od, rv b399, iv q3, iv (3 : Int32), iv s3] [(.int (s3 % (2 : Int32)))])) T506 (mkF m 86 #[rv o1, iv od, rv b399, iv q3, iv (3 : Int32), iv s3] []) := fun tt kt => go516 tt (by
            refine XS.icmpYes X506.here hx rfl (pc0 := 75) (pc' := 86) rfl (hb hby d1_75) rfl (flt hj75_1).2.1 (by decide) (by decide) ?_
            exact kt)
        have go526 : own_S p e below (T506.setTop (mkF m 68 #[rv o1, iv od, rv b399, iv q3, iv (3 : Int32), iv s3] [(.int (s3 % (2 : Int32)))])) T506 (mkF m 89 #[rv o1, iv od, rv b399, iv (q3 + (1 : Int32)), iv (3 : Int32), iv s3] []) := fun tt kt => go525 tt (by
            refine XS.iinc X506.here hx rfl (hb hby d1_86) rfl (l' := #[rv o1, iv od, rv b399, iv (q3 + (1 : Int32)), iv (3 : Int32), iv s3]) rfl ?_
            exact kt)
        exact ⟨T506, h506, _, (q3 + (1 : Int32)), (s3 / (2 : Int32)), X506, e506, N506, (Keep.refl h506 [b399]), V506, ((if_neg hj68_0).trans (if_neg hj75_1)).symm, ((if_neg hj68_0).trans (if_neg hj75_1)).symm, go526⟩
  have KC527 : Keep h0 h527 [] := KC506.trans K527 (allS (Or.inr sz_b399) all0)
  have go528 : own_S p e below ST T527 (mkF m 89 #[rv o1, iv od, rv b399, iv q4, iv (3 : Int32), iv s3] []) := fun tt kt => go512 tt (sg527 _ kt)
  have go529 : own_S p e below ST T527 (mkF m 45 #[rv o1, iv od, rv b399, iv q4, iv (4 : Int32), iv s3] []) := fun tt kt => go528 tt (by
      refine XS.iinc X527.here hx rfl (hb hby d1_89) rfl (l' := #[rv o1, iv od, rv b399, iv q4, iv (4 : Int32), iv s3]) rfl ?_
      refine XS.goto X527.here hx rfl (pc0 := 92) (pc' := 45) rfl (hb hby d1_92) (by decide) (by decide) ?_
      exact kt)
  have go530 : own_S p e below ST T527 (mkF m 48 #[rv o1, iv od, rv b399, iv q4, iv (4 : Int32), iv s3] [(.ref o1), (.int (4 : Int32))]) := fun tt kt => go529 tt (by
      refine XS.iload X527.here hx rfl (hb hby d1_45) rfl ?_
      refine XS.aloadN X527.here hx rfl (hb hby d1_47) rfl rfl ?_
      exact kt)
  have f532 := (f510.keep K527 (ninS neo1_b399 nin0))
  obtain ⟨cl531, Ar531, q531, S531, M531, H531, G531⟩ := id f532
  have go533 : own_S p e below ST T527 (mkF m 49 #[rv o1, iv od, rv b399, iv q4, iv (4 : Int32), iv s3] [(.int (4 : Int32)), (.int (4 : Int32))]) := fun tt kt => go530 tt (by
      refine X527.arraylength hx (by rw [e527]; exact Ar531.1) (State.isArrayOf_alike hZ.alike Ar531.2.1) (g := (mkF m 48 #[rv o1, iv od, rv b399, iv q4, iv (4 : Int32), iv s3] [(.ref o1), (.int (4 : Int32))])) rfl rfl (hb hby d1_48) _ ?_
      rw [len_of S531 M531]
      exact kt)
  have go534 : own_S p e below ST T527 (mkF m 96 #[rv o1, iv od, rv b399, iv q4, iv (4 : Int32), iv s3] [(.ref b399)]) := fun tt kt => go533 tt (by
      refine XS.icmpYes X527.here hx rfl (pc0 := 49) (pc' := 95) rfl (hb hby d1_49) rfl (flt (by decide : ¬ ((4 : Int32) < (4 : Int32)))).2.1 (by decide) (by decide) ?_
      refine XS.aloadN X527.here hx rfl (hb hby d1_95) rfl rfl ?_
      exact kt)
  obtain ⟨fs, hr, hrun, hended, hW, hsame⟩ := X527.leave (v := some (.ref b399)) (fun h => by rw [Bd.returns] at h; cases h)
  refine ⟨_, _, pre0 _ (go534 _ ?_), hrun, hended, _, _, rfl, ?_, ⟨_, rfl⟩, hW, hsame.mono (by decide) (by decide)⟩
  · exact retOut X527 hx Bd.returns rfl (Or.inr (Or.inr (Or.inr (Or.inr ⟨rfl, rfl, rfl⟩)))) (hb hby d1_96) hr
  · show Q1k4 Z o1 ka s0 s1 s2 s3 h0 n0 _ T527.heap _
    rw [e527]
    exact ⟨b399, k399, od, e0, e1, e2, e3, q1, q2, q3, q4, rfl, N527, KC527, c527_0, hod, he0, hq1, he1, hq2, he2, hq3, he3, hq4⟩
theorem ef1k5 (m : MethodId) (x0 : Addr) : entryFrame m #[(.ref x0)] 6 = mkF m 0 #[.val (.ref x0), .unset, .unset, .unset, .unset, .unset] [] := by first | (simp [entryFrame, mkF, argsToLocals, Value.category]; done) | rfl
def Q1k5 (Z : State) (o1 : Addr) (ka : ClassId) (s0 : Int32) (s1 : Int32) (s2 : Int32) (s3 : Int32) (s4 : Int32) (h0 : Heap) (n0 : Nat) (v : Option Value) (h : Heap) (L : List Loc) : Prop := ∃ (b : Addr) (kb : ClassId) (od e0 e1 e2 e3 e4 q1 q2 q3 q4 q5 : Int32), v = some (.ref b) ∧ Fr n0 L ∧ Keep h0 h [] ∧ Arv Z h b kb .int (5 : Int32) [(.int e0), (.int e1), (.int e2), (.int e3), (.int e4)] (.int (0 : Int32)) ∧ od = ((((((0 : Int32) + (s0 % (2 : Int32))) + (s1 % (2 : Int32))) + (s2 % (2 : Int32))) + (s3 % (2 : Int32))) + (s4 % (2 : Int32))) ∧ e0 = own_val (od / (2 : Int32)) (0 : Int32) s0 ∧ q1 = own_seen (od / (2 : Int32)) (0 : Int32) s0 ∧ e1 = own_val (od / (2 : Int32)) q1 s1 ∧ q2 = own_seen (od / (2 : Int32)) q1 s1 ∧ e2 = own_val (od / (2 : Int32)) q2 s2 ∧ q3 = own_seen (od / (2 : Int32)) q2 s2 ∧ e3 = own_val (od / (2 : Int32)) q3 s3 ∧ q4 = own_seen (od / (2 : Int32)) q3 s3 ∧ e4 = own_val (od / (2 : Int32)) q4 s4 ∧ q5 = own_seen (od / (2 : Int32)) q4 s4
set_option maxRecDepth 65536 in
set_option maxHeartbeats 40000000 in
theorem rm1k5 (l : Launch) (Z : State) (a0 : Array Value) (hw : ∀ d ∈ tables_1, d.before a0 Z = true) (ws : List Jvm.Cond) (o1 : Addr) (ka : ClassId) (s0 : Int32) (s1 : Int32) (s2 : Int32) (s3 : Int32) (s4 : Int32) (h0 : Heap) (n0 : Nat) (Z0 : n0 ≤ h0.size) (Va : Arv Z h0 o1 ka .int (5 : Int32) [(.int s0), (.int s1), (.int s2), (.int s3), (.int s4)] (.int (0 : Int32))) :
    MetFree l (⟨"com/example/declination/declination/engine/Nsga2", "keptCounts", "([I)[I"⟩ : MethodName) (head1 (Jvm.Cond.code (⟨"com/example/declination/declination/engine/Nsga2", "keptCounts", "([I)[I"⟩ : MethodName) prog_6_method_6_code 6 (some (.array .int)) :: ws) ({ frames := 0, cells := 1, slots := 5, locals := 0 } : Room)) (fun aa UU => aa = #[(.ref o1)] ∧ Z.Warmed39 UU.vm ∧ UU.heap = h0) (fun _ _ _ _ _ => True) (fun _ UU oo UU' => ∃ vv LL, oo = .returned vv ∧ Q1k5 Z o1 ka s0 s1 s2 s3 s4 h0 n0 vv UU'.heap LL ∧ FrameEnd UU oo UU' LL ({ frames := 0, cells := 1, slots := 5, locals := 0 } : Room).cells ({ frames := 0, cells := 1, slots := 5, locals := 0 } : Room).slots) := by
  have W : ∀ {d : Jvm.Cond} (i : Nat), tables_1[i]? = some d → d.before a0 Z = true := fun i h => hw _ (List.mem_of_getElem? h)
  refine MetFree.of_bodySF (plainFor_of_name pn28) hisR ?_
  intro p e s m args below meth c s₁ Bd hml0 hP hK
  obtain ⟨rfl, hZ, hh⟩ := hP
  have hx := Bd.exec
  have hby := Bd.bytes
  have hml : c.maxLocals = 6 := hml0
  have hown : s.vm.findClass "com/example/declination/declination/engine/Nsga2" = some m.cls := findClass_of_methodNamed Bd.named
  have hnm := (name_of_methodNamed Bd.named Bd.method).1
  have X0 : Stand p l e ({ frames := 0, cells := 1, slots := 5, locals := 0 } : Room) s m #[(.ref o1)] below meth c s₁ [] 0 0 := Stand.of_body Bd
  have e0 : s₁.heap = h0 := by rw [← hh, Bd.state]; rfl
  have N0 := Fr.nil n0
  have pre0 : ∀ tt, Steps p.tables e below (s₁.setTop (mkF m 0 #[rv o1, .unset, .unset, .unset, .unset, .unset] [])) tt → Steps p.tables e below (s₁.setTop (entryFrame m #[(.ref o1)] 6)) tt := fun tt kt => castTop (ef1k5 m o1) kt
  obtain ⟨ST, hST⟩ : ∃ z : State, z = s₁.setTop (mkF m 0 #[rv o1, .unset, .unset, .unset, .unset, .unset] []) := ⟨_, rfl⟩
  rw [← hST] at pre0
  have KC0 : Keep h0 h0 [] := Keep.refl h0 []
  have go535 : own_S p e below ST s₁ (mkF m 5 #[rv o1, iv (0 : Int32), rv o1, .unset, .unset, .unset] [(.ref o1)]) := fun tt kt => (by
      rw [hST]
      show Steps p.tables e below (s₁.setTop (mkF m 0 #[rv o1, .unset, .unset, .unset, .unset, .unset] [])) _
      refine XS.iconst X0.here hx rfl (hb hby d1_0) ?_
      refine XS.istoreN X0.here hx rfl (hb hby d1_1) rfl (l' := #[rv o1, iv (0 : Int32), .unset, .unset, .unset, .unset]) rfl ?_
      refine XS.aloadN X0.here hx rfl (hb hby d1_2) rfl rfl ?_
      refine XS.astoreN X0.here hx rfl (hb hby d1_3) rfl rfl (l' := #[rv o1, iv (0 : Int32), rv o1, .unset, .unset, .unset]) rfl ?_
      refine XS.aloadN X0.here hx rfl (hb hby d1_4) rfl rfl ?_
      exact kt)
  obtain ⟨cl536, Ar536, q536, S536, M536, H536, G536⟩ := id Va
  have go537 : own_S p e below ST s₁ (mkF m 6 #[rv o1, iv (0 : Int32), rv o1, .unset, .unset, .unset] [(.int (5 : Int32))]) := fun tt kt => go535 tt (by
      refine X0.arraylength hx (by rw [e0]; exact Ar536.1) (State.isArrayOf_alike hZ.alike Ar536.2.1) (g := (mkF m 5 #[rv o1, iv (0 : Int32), rv o1, .unset, .unset, .unset] [(.ref o1)])) rfl rfl (hb hby d1_5) _ ?_
      rw [len_of S536 M536]
      exact kt)
  have go538 : own_S p e below ST s₁ (mkF m 19 #[rv o1, iv (0 : Int32), rv o1, iv (5 : Int32), iv (0 : Int32), .unset] [(.int (0 : Int32)), (.ref o1)]) := fun tt kt => go537 tt (by
      refine XS.istoreN X0.here hx rfl (hb hby d1_6) rfl (l' := #[rv o1, iv (0 : Int32), rv o1, iv (5 : Int32), .unset, .unset]) rfl ?_
      refine XS.iconst X0.here hx rfl (hb hby d1_7) ?_
      refine XS.istore X0.here hx rfl (hb hby d1_8) rfl (l' := #[rv o1, iv (0 : Int32), rv o1, iv (5 : Int32), iv (0 : Int32), .unset]) rfl ?_
      refine XS.iload X0.here hx rfl (hb hby d1_10) rfl ?_
      refine XS.iloadN X0.here hx rfl (hb hby d1_12) rfl ?_
      refine XS.icmpNo X0.here hx rfl (hb hby d1_13) rfl (tlt (by decide : (0 : Int32) < (5 : Int32))).2.1 ?_
      show Steps p.tables e below (s₁.setTop (mkF m 16 #[rv o1, iv (0 : Int32), rv o1, iv (5 : Int32), iv (0 : Int32), .unset] [])) _
      refine XS.aloadN X0.here hx rfl (hb hby d1_16) rfl rfl ?_
      refine XS.iload X0.here hx rfl (hb hby d1_17) rfl ?_
      exact kt)
  obtain ⟨cl539, Ar539, q539, S539, M539, H539, G539⟩ := id Va
  have hin539 : ¬ ((0 : Int32) < 0 ∨ cl539.slots.size ≤ ((0 : Int32)).toNatClampNeg) := inb_of S539 ⟨by decide, by decide⟩
  have hat539 : cl539.slots[((0 : Int32)).toNatClampNeg]? = some (.int s0) := H539.at hin539 rfl
  have go540 : own_S p e below ST s₁ (mkF m 20 #[rv o1, iv (0 : Int32), rv o1, iv (5 : Int32), iv (0 : Int32), .unset] [(.int s0)]) := fun tt kt => go538 tt (by
      refine X0.iaload hx (j := (0 : Int32)) (v := (.int s0)) (by rw [e0]; exact Ar539.1) (State.isArrayOf_alike hZ.alike Ar539.2.1) Ar539.2.2 hin539 hat539 (g := (mkF m 19 #[rv o1, iv (0 : Int32), rv o1, iv (5 : Int32), iv (0 : Int32), .unset] [(.int (0 : Int32)), (.ref o1)])) rfl rfl (hb hby d1_19) _ ?_
      exact kt)
  have go541 : own_S p e below ST s₁ (mkF m 19 #[rv o1, iv ((0 : Int32) + (s0 % (2 : Int32))), rv o1, iv (5 : Int32), iv (1 : Int32), iv s0] [(.int (1 : Int32)), (.ref o1)]) := fun tt kt => go540 tt (by
      refine XS.istore X0.here hx rfl (hb hby d1_20) rfl (l' := #[rv o1, iv (0 : Int32), rv o1, iv (5 : Int32), iv (0 : Int32), iv s0]) rfl ?_
      refine XS.iloadN X0.here hx rfl (hb hby d1_22) rfl ?_
      refine XS.iload X0.here hx rfl (hb hby d1_23) rfl ?_
      refine XS.iconst X0.here hx rfl (hb hby d1_25) ?_
      refine iremM (g := (mkF m 26 #[rv o1, iv (0 : Int32), rv o1, iv (5 : Int32), iv (0 : Int32), iv s0] [(.int (2 : Int32)), (.int s0), (.int (0 : Int32))])) X0 hx rfl (hb hby d1_26) rfl (by decide) ?_
      refine XS.iadd X0.here hx rfl (hb hby d1_27) rfl ?_
      show Steps p.tables e below (s₁.setTop (mkF m 28 #[rv o1, iv (0 : Int32), rv o1, iv (5 : Int32), iv (0 : Int32), iv s0] [(.int ((0 : Int32) + (s0 % (2 : Int32))))])) _
      refine XS.istoreN X0.here hx rfl (hb hby d1_28) rfl (l' := #[rv o1, iv ((0 : Int32) + (s0 % (2 : Int32))), rv o1, iv (5 : Int32), iv (0 : Int32), iv s0]) rfl ?_
      refine XS.iinc X0.here hx rfl (hb hby d1_29) rfl (l' := #[rv o1, iv ((0 : Int32) + (s0 % (2 : Int32))), rv o1, iv (5 : Int32), iv (1 : Int32), iv s0]) rfl ?_
      refine XS.goto X0.here hx rfl (pc0 := 32) (pc' := 10) rfl (hb hby d1_32) (by decide) (by decide) ?_
      refine XS.iload X0.here hx rfl (hb hby d1_10) rfl ?_
      refine XS.iloadN X0.here hx rfl (hb hby d1_12) rfl ?_
      refine XS.icmpNo X0.here hx rfl (hb hby d1_13) rfl (tlt (by decide : (1 : Int32) < (5 : Int32))).2.1 ?_
      show Steps p.tables e below (s₁.setTop (mkF m 16 #[rv o1, iv ((0 : Int32) + (s0 % (2 : Int32))), rv o1, iv (5 : Int32), iv (1 : Int32), iv s0] [])) _
      refine XS.aloadN X0.here hx rfl (hb hby d1_16) rfl rfl ?_
      refine XS.iload X0.here hx rfl (hb hby d1_17) rfl ?_
      exact kt)
  obtain ⟨cl542, Ar542, q542, S542, M542, H542, G542⟩ := id Va
  have hin542 : ¬ ((1 : Int32) < 0 ∨ cl542.slots.size ≤ ((1 : Int32)).toNatClampNeg) := inb_of S542 ⟨by decide, by decide⟩
  have hat542 : cl542.slots[((1 : Int32)).toNatClampNeg]? = some (.int s1) := H542.at hin542 rfl
  have go543 : own_S p e below ST s₁ (mkF m 20 #[rv o1, iv ((0 : Int32) + (s0 % (2 : Int32))), rv o1, iv (5 : Int32), iv (1 : Int32), iv s0] [(.int s1)]) := fun tt kt => go541 tt (by
      refine X0.iaload hx (j := (1 : Int32)) (v := (.int s1)) (by rw [e0]; exact Ar542.1) (State.isArrayOf_alike hZ.alike Ar542.2.1) Ar542.2.2 hin542 hat542 (g := (mkF m 19 #[rv o1, iv ((0 : Int32) + (s0 % (2 : Int32))), rv o1, iv (5 : Int32), iv (1 : Int32), iv s0] [(.int (1 : Int32)), (.ref o1)])) rfl rfl (hb hby d1_19) _ ?_
      exact kt)
  have go544 : own_S p e below ST s₁ (mkF m 19 #[rv o1, iv (((0 : Int32) + (s0 % (2 : Int32))) + (s1 % (2 : Int32))), rv o1, iv (5 : Int32), iv (2 : Int32), iv s1] [(.int (2 : Int32)), (.ref o1)]) := fun tt kt => go543 tt (by
      refine XS.istore X0.here hx rfl (hb hby d1_20) rfl (l' := #[rv o1, iv ((0 : Int32) + (s0 % (2 : Int32))), rv o1, iv (5 : Int32), iv (1 : Int32), iv s1]) rfl ?_
      refine XS.iloadN X0.here hx rfl (hb hby d1_22) rfl ?_
      refine XS.iload X0.here hx rfl (hb hby d1_23) rfl ?_
      refine XS.iconst X0.here hx rfl (hb hby d1_25) ?_
      refine iremM (g := (mkF m 26 #[rv o1, iv ((0 : Int32) + (s0 % (2 : Int32))), rv o1, iv (5 : Int32), iv (1 : Int32), iv s1] [(.int (2 : Int32)), (.int s1), (.int ((0 : Int32) + (s0 % (2 : Int32))))])) X0 hx rfl (hb hby d1_26) rfl (by decide) ?_
      refine XS.iadd X0.here hx rfl (hb hby d1_27) rfl ?_
      show Steps p.tables e below (s₁.setTop (mkF m 28 #[rv o1, iv ((0 : Int32) + (s0 % (2 : Int32))), rv o1, iv (5 : Int32), iv (1 : Int32), iv s1] [(.int (((0 : Int32) + (s0 % (2 : Int32))) + (s1 % (2 : Int32))))])) _
      refine XS.istoreN X0.here hx rfl (hb hby d1_28) rfl (l' := #[rv o1, iv (((0 : Int32) + (s0 % (2 : Int32))) + (s1 % (2 : Int32))), rv o1, iv (5 : Int32), iv (1 : Int32), iv s1]) rfl ?_
      refine XS.iinc X0.here hx rfl (hb hby d1_29) rfl (l' := #[rv o1, iv (((0 : Int32) + (s0 % (2 : Int32))) + (s1 % (2 : Int32))), rv o1, iv (5 : Int32), iv (2 : Int32), iv s1]) rfl ?_
      refine XS.goto X0.here hx rfl (pc0 := 32) (pc' := 10) rfl (hb hby d1_32) (by decide) (by decide) ?_
      refine XS.iload X0.here hx rfl (hb hby d1_10) rfl ?_
      refine XS.iloadN X0.here hx rfl (hb hby d1_12) rfl ?_
      refine XS.icmpNo X0.here hx rfl (hb hby d1_13) rfl (tlt (by decide : (2 : Int32) < (5 : Int32))).2.1 ?_
      show Steps p.tables e below (s₁.setTop (mkF m 16 #[rv o1, iv (((0 : Int32) + (s0 % (2 : Int32))) + (s1 % (2 : Int32))), rv o1, iv (5 : Int32), iv (2 : Int32), iv s1] [])) _
      refine XS.aloadN X0.here hx rfl (hb hby d1_16) rfl rfl ?_
      refine XS.iload X0.here hx rfl (hb hby d1_17) rfl ?_
      exact kt)
  obtain ⟨cl545, Ar545, q545, S545, M545, H545, G545⟩ := id Va
  have hin545 : ¬ ((2 : Int32) < 0 ∨ cl545.slots.size ≤ ((2 : Int32)).toNatClampNeg) := inb_of S545 ⟨by decide, by decide⟩
  have hat545 : cl545.slots[((2 : Int32)).toNatClampNeg]? = some (.int s2) := H545.at hin545 rfl
  have go546 : own_S p e below ST s₁ (mkF m 20 #[rv o1, iv (((0 : Int32) + (s0 % (2 : Int32))) + (s1 % (2 : Int32))), rv o1, iv (5 : Int32), iv (2 : Int32), iv s1] [(.int s2)]) := fun tt kt => go544 tt (by
      refine X0.iaload hx (j := (2 : Int32)) (v := (.int s2)) (by rw [e0]; exact Ar545.1) (State.isArrayOf_alike hZ.alike Ar545.2.1) Ar545.2.2 hin545 hat545 (g := (mkF m 19 #[rv o1, iv (((0 : Int32) + (s0 % (2 : Int32))) + (s1 % (2 : Int32))), rv o1, iv (5 : Int32), iv (2 : Int32), iv s1] [(.int (2 : Int32)), (.ref o1)])) rfl rfl (hb hby d1_19) _ ?_
      exact kt)
  have go547 : own_S p e below ST s₁ (mkF m 19 #[rv o1, iv ((((0 : Int32) + (s0 % (2 : Int32))) + (s1 % (2 : Int32))) + (s2 % (2 : Int32))), rv o1, iv (5 : Int32), iv (3 : Int32), iv s2] [(.int (3 : Int32)), (.ref o1)]) := fun tt kt => go546 tt (by
      refine XS.istore X0.here hx rfl (hb hby d1_20) rfl (l' := #[rv o1, iv (((0 : Int32) + (s0 % (2 : Int32))) + (s1 % (2 : Int32))), rv o1, iv (5 : Int32), iv (2 : Int32), iv s2]) rfl ?_
      refine XS.iloadN X0.here hx rfl (hb hby d1_22) rfl ?_
      refine XS.iload X0.here hx rfl (hb hby d1_23) rfl ?_
      refine XS.iconst X0.here hx rfl (hb hby d1_25) ?_
      refine iremM (g := (mkF m 26 #[rv o1, iv (((0 : Int32) + (s0 % (2 : Int32))) + (s1 % (2 : Int32))), rv o1, iv (5 : Int32), iv (2 : Int32), iv s2] [(.int (2 : Int32)), (.int s2), (.int (((0 : Int32) + (s0 % (2 : Int32))) + (s1 % (2 : Int32))))])) X0 hx rfl (hb hby d1_26) rfl (by decide) ?_
      refine XS.iadd X0.here hx rfl (hb hby d1_27) rfl ?_
      show Steps p.tables e below (s₁.setTop (mkF m 28 #[rv o1, iv (((0 : Int32) + (s0 % (2 : Int32))) + (s1 % (2 : Int32))), rv o1, iv (5 : Int32), iv (2 : Int32), iv s2] [(.int ((((0 : Int32) + (s0 % (2 : Int32))) + (s1 % (2 : Int32))) + (s2 % (2 : Int32))))])) _
      refine XS.istoreN X0.here hx rfl (hb hby d1_28) rfl (l' := #[rv o1, iv ((((0 : Int32) + (s0 % (2 : Int32))) + (s1 % (2 : Int32))) + (s2 % (2 : Int32))), rv o1, iv (5 : Int32), iv (2 : Int32), iv s2]) rfl ?_
      refine XS.iinc X0.here hx rfl (hb hby d1_29) rfl (l' := #[rv o1, iv ((((0 : Int32) + (s0 % (2 : Int32))) + (s1 % (2 : Int32))) + (s2 % (2 : Int32))), rv o1, iv (5 : Int32), iv (3 : Int32), iv s2]) rfl ?_
      refine XS.goto X0.here hx rfl (pc0 := 32) (pc' := 10) rfl (hb hby d1_32) (by decide) (by decide) ?_
      refine XS.iload X0.here hx rfl (hb hby d1_10) rfl ?_
      refine XS.iloadN X0.here hx rfl (hb hby d1_12) rfl ?_
      refine XS.icmpNo X0.here hx rfl (hb hby d1_13) rfl (tlt (by decide : (3 : Int32) < (5 : Int32))).2.1 ?_
      show Steps p.tables e below (s₁.setTop (mkF m 16 #[rv o1, iv ((((0 : Int32) + (s0 % (2 : Int32))) + (s1 % (2 : Int32))) + (s2 % (2 : Int32))), rv o1, iv (5 : Int32), iv (3 : Int32), iv s2] [])) _
      refine XS.aloadN X0.here hx rfl (hb hby d1_16) rfl rfl ?_
      refine XS.iload X0.here hx rfl (hb hby d1_17) rfl ?_
      exact kt)
  obtain ⟨cl548, Ar548, q548, S548, M548, H548, G548⟩ := id Va
  have hin548 : ¬ ((3 : Int32) < 0 ∨ cl548.slots.size ≤ ((3 : Int32)).toNatClampNeg) := inb_of S548 ⟨by decide, by decide⟩
  have hat548 : cl548.slots[((3 : Int32)).toNatClampNeg]? = some (.int s3) := H548.at hin548 rfl
  have go549 : own_S p e below ST s₁ (mkF m 20 #[rv o1, iv ((((0 : Int32) + (s0 % (2 : Int32))) + (s1 % (2 : Int32))) + (s2 % (2 : Int32))), rv o1, iv (5 : Int32), iv (3 : Int32), iv s2] [(.int s3)]) := fun tt kt => go547 tt (by
      refine X0.iaload hx (j := (3 : Int32)) (v := (.int s3)) (by rw [e0]; exact Ar548.1) (State.isArrayOf_alike hZ.alike Ar548.2.1) Ar548.2.2 hin548 hat548 (g := (mkF m 19 #[rv o1, iv ((((0 : Int32) + (s0 % (2 : Int32))) + (s1 % (2 : Int32))) + (s2 % (2 : Int32))), rv o1, iv (5 : Int32), iv (3 : Int32), iv s2] [(.int (3 : Int32)), (.ref o1)])) rfl rfl (hb hby d1_19) _ ?_
      exact kt)
  have go550 : own_S p e below ST s₁ (mkF m 19 #[rv o1, iv (((((0 : Int32) + (s0 % (2 : Int32))) + (s1 % (2 : Int32))) + (s2 % (2 : Int32))) + (s3 % (2 : Int32))), rv o1, iv (5 : Int32), iv (4 : Int32), iv s3] [(.int (4 : Int32)), (.ref o1)]) := fun tt kt => go549 tt (by
      refine XS.istore X0.here hx rfl (hb hby d1_20) rfl (l' := #[rv o1, iv ((((0 : Int32) + (s0 % (2 : Int32))) + (s1 % (2 : Int32))) + (s2 % (2 : Int32))), rv o1, iv (5 : Int32), iv (3 : Int32), iv s3]) rfl ?_
      refine XS.iloadN X0.here hx rfl (hb hby d1_22) rfl ?_
      refine XS.iload X0.here hx rfl (hb hby d1_23) rfl ?_
      refine XS.iconst X0.here hx rfl (hb hby d1_25) ?_
      refine iremM (g := (mkF m 26 #[rv o1, iv ((((0 : Int32) + (s0 % (2 : Int32))) + (s1 % (2 : Int32))) + (s2 % (2 : Int32))), rv o1, iv (5 : Int32), iv (3 : Int32), iv s3] [(.int (2 : Int32)), (.int s3), (.int ((((0 : Int32) + (s0 % (2 : Int32))) + (s1 % (2 : Int32))) + (s2 % (2 : Int32))))])) X0 hx rfl (hb hby d1_26) rfl (by decide) ?_
      refine XS.iadd X0.here hx rfl (hb hby d1_27) rfl ?_
      show Steps p.tables e below (s₁.setTop (mkF m 28 #[rv o1, iv ((((0 : Int32) + (s0 % (2 : Int32))) + (s1 % (2 : Int32))) + (s2 % (2 : Int32))), rv o1, iv (5 : Int32), iv (3 : Int32), iv s3] [(.int (((((0 : Int32) + (s0 % (2 : Int32))) + (s1 % (2 : Int32))) + (s2 % (2 : Int32))) + (s3 % (2 : Int32))))])) _
      refine XS.istoreN X0.here hx rfl (hb hby d1_28) rfl (l' := #[rv o1, iv (((((0 : Int32) + (s0 % (2 : Int32))) + (s1 % (2 : Int32))) + (s2 % (2 : Int32))) + (s3 % (2 : Int32))), rv o1, iv (5 : Int32), iv (3 : Int32), iv s3]) rfl ?_
      refine XS.iinc X0.here hx rfl (hb hby d1_29) rfl (l' := #[rv o1, iv (((((0 : Int32) + (s0 % (2 : Int32))) + (s1 % (2 : Int32))) + (s2 % (2 : Int32))) + (s3 % (2 : Int32))), rv o1, iv (5 : Int32), iv (4 : Int32), iv s3]) rfl ?_
      refine XS.goto X0.here hx rfl (pc0 := 32) (pc' := 10) rfl (hb hby d1_32) (by decide) (by decide) ?_
      refine XS.iload X0.here hx rfl (hb hby d1_10) rfl ?_
      refine XS.iloadN X0.here hx rfl (hb hby d1_12) rfl ?_
      refine XS.icmpNo X0.here hx rfl (hb hby d1_13) rfl (tlt (by decide : (4 : Int32) < (5 : Int32))).2.1 ?_
      show Steps p.tables e below (s₁.setTop (mkF m 16 #[rv o1, iv (((((0 : Int32) + (s0 % (2 : Int32))) + (s1 % (2 : Int32))) + (s2 % (2 : Int32))) + (s3 % (2 : Int32))), rv o1, iv (5 : Int32), iv (4 : Int32), iv s3] [])) _
      refine XS.aloadN X0.here hx rfl (hb hby d1_16) rfl rfl ?_
      refine XS.iload X0.here hx rfl (hb hby d1_17) rfl ?_
      exact kt)
  obtain ⟨cl551, Ar551, q551, S551, M551, H551, G551⟩ := id Va
  have hin551 : ¬ ((4 : Int32) < 0 ∨ cl551.slots.size ≤ ((4 : Int32)).toNatClampNeg) := inb_of S551 ⟨by decide, by decide⟩
  have hat551 : cl551.slots[((4 : Int32)).toNatClampNeg]? = some (.int s4) := H551.at hin551 rfl
  have go552 : own_S p e below ST s₁ (mkF m 20 #[rv o1, iv (((((0 : Int32) + (s0 % (2 : Int32))) + (s1 % (2 : Int32))) + (s2 % (2 : Int32))) + (s3 % (2 : Int32))), rv o1, iv (5 : Int32), iv (4 : Int32), iv s3] [(.int s4)]) := fun tt kt => go550 tt (by
      refine X0.iaload hx (j := (4 : Int32)) (v := (.int s4)) (by rw [e0]; exact Ar551.1) (State.isArrayOf_alike hZ.alike Ar551.2.1) Ar551.2.2 hin551 hat551 (g := (mkF m 19 #[rv o1, iv (((((0 : Int32) + (s0 % (2 : Int32))) + (s1 % (2 : Int32))) + (s2 % (2 : Int32))) + (s3 % (2 : Int32))), rv o1, iv (5 : Int32), iv (4 : Int32), iv s3] [(.int (4 : Int32)), (.ref o1)])) rfl rfl (hb hby d1_19) _ ?_
      exact kt)
  have go553 : own_S p e below ST s₁ (mkF m 35 #[rv o1, iv ((((((0 : Int32) + (s0 % (2 : Int32))) + (s1 % (2 : Int32))) + (s2 % (2 : Int32))) + (s3 % (2 : Int32))) + (s4 % (2 : Int32))), rv o1, iv (5 : Int32), iv (5 : Int32), iv s4] []) := fun tt kt => go552 tt (by
      refine XS.istore X0.here hx rfl (hb hby d1_20) rfl (l' := #[rv o1, iv (((((0 : Int32) + (s0 % (2 : Int32))) + (s1 % (2 : Int32))) + (s2 % (2 : Int32))) + (s3 % (2 : Int32))), rv o1, iv (5 : Int32), iv (4 : Int32), iv s4]) rfl ?_
      refine XS.iloadN X0.here hx rfl (hb hby d1_22) rfl ?_
      refine XS.iload X0.here hx rfl (hb hby d1_23) rfl ?_
      refine XS.iconst X0.here hx rfl (hb hby d1_25) ?_
      refine iremM (g := (mkF m 26 #[rv o1, iv (((((0 : Int32) + (s0 % (2 : Int32))) + (s1 % (2 : Int32))) + (s2 % (2 : Int32))) + (s3 % (2 : Int32))), rv o1, iv (5 : Int32), iv (4 : Int32), iv s4] [(.int (2 : Int32)), (.int s4), (.int (((((0 : Int32) + (s0 % (2 : Int32))) + (s1 % (2 : Int32))) + (s2 % (2 : Int32))) + (s3 % (2 : Int32))))])) X0 hx rfl (hb hby d1_26) rfl (by decide) ?_
      refine XS.iadd X0.here hx rfl (hb hby d1_27) rfl ?_
      show Steps p.tables e below (s₁.setTop (mkF m 28 #[rv o1, iv (((((0 : Int32) + (s0 % (2 : Int32))) + (s1 % (2 : Int32))) + (s2 % (2 : Int32))) + (s3 % (2 : Int32))), rv o1, iv (5 : Int32), iv (4 : Int32), iv s4] [(.int ((((((0 : Int32) + (s0 % (2 : Int32))) + (s1 % (2 : Int32))) + (s2 % (2 : Int32))) + (s3 % (2 : Int32))) + (s4 % (2 : Int32))))])) _
      refine XS.istoreN X0.here hx rfl (hb hby d1_28) rfl (l' := #[rv o1, iv ((((((0 : Int32) + (s0 % (2 : Int32))) + (s1 % (2 : Int32))) + (s2 % (2 : Int32))) + (s3 % (2 : Int32))) + (s4 % (2 : Int32))), rv o1, iv (5 : Int32), iv (4 : Int32), iv s4]) rfl ?_
      refine XS.iinc X0.here hx rfl (hb hby d1_29) rfl (l' := #[rv o1, iv ((((((0 : Int32) + (s0 % (2 : Int32))) + (s1 % (2 : Int32))) + (s2 % (2 : Int32))) + (s3 % (2 : Int32))) + (s4 % (2 : Int32))), rv o1, iv (5 : Int32), iv (5 : Int32), iv s4]) rfl ?_
      refine XS.goto X0.here hx rfl (pc0 := 32) (pc' := 10) rfl (hb hby d1_32) (by decide) (by decide) ?_
      refine XS.iload X0.here hx rfl (hb hby d1_10) rfl ?_
      refine XS.iloadN X0.here hx rfl (hb hby d1_12) rfl ?_
      refine XS.icmpYes X0.here hx rfl (pc0 := 13) (pc' := 35) rfl (hb hby d1_13) rfl (flt (by decide : ¬ ((5 : Int32) < (5 : Int32)))).2.1 (by decide) (by decide) ?_
      exact kt)
  obtain ⟨od, hod⟩ : ∃ z : Int32, z = ((((((0 : Int32) + (s0 % (2 : Int32))) + (s1 % (2 : Int32))) + (s2 % (2 : Int32))) + (s3 % (2 : Int32))) + (s4 % (2 : Int32))) := ⟨_, rfl⟩
  rw [← hod] at go553
  have go554 : own_S p e below ST s₁ (mkF m 36 #[rv o1, iv od, rv o1, iv (5 : Int32), iv (5 : Int32), iv s4] [(.ref o1)]) := fun tt kt => go553 tt (by
      refine XS.aloadN X0.here hx rfl (hb hby d1_35) rfl rfl ?_
      exact kt)
  obtain ⟨cl555, Ar555, q555, S555, M555, H555, G555⟩ := id Va
  have go556 : own_S p e below ST s₁ (mkF m 37 #[rv o1, iv od, rv o1, iv (5 : Int32), iv (5 : Int32), iv s4] [(.int (5 : Int32))]) := fun tt kt => go554 tt (by
      refine X0.arraylength hx (by rw [e0]; exact Ar555.1) (State.isArrayOf_alike hZ.alike Ar555.2.1) (g := (mkF m 36 #[rv o1, iv od, rv o1, iv (5 : Int32), iv (5 : Int32), iv s4] [(.ref o1)])) rfl rfl (hb hby d1_36) _ ?_
      rw [len_of S555 M555]
      exact kt)
  obtain ⟨b557, g557⟩ : ∃ z, z = h0.size := ⟨_, rfl⟩
  obtain ⟨T557, h557, k557, X557, e557, E557, A557, st557⟩ := newP X0 hx hZ (W 1 rfl) e0 (g := (mkF m 37 #[rv o1, iv od, rv o1, iv (5 : Int32), iv (5 : Int32), iv s4] [(.int (5 : Int32))])) rfl (hb hby d1_37) rfl (by decide) (cap := 5) (by decide) (by decide) (by decide) (by decide)
  rw [← g557] at A557 st557
  have neo1_b557 : o1 ≠ b557 := Nat.ne_of_lt (Nat.lt_of_lt_of_le Va.lt (Nat.le_of_eq g557.symm))
  have ge_b557 : n0 ≤ b557 := Nat.le_trans Z0 (Nat.le_of_eq g557.symm)
  have sz_b557 : h0.size ≤ b557 := Nat.le_trans KC0.1 (Nat.le_of_eq g557.symm)
  have V557 : Arv Z h557 b557 k557 .int (5 : Int32) [(.int (0 : Int32)), (.int (0 : Int32)), (.int (0 : Int32)), (.int (0 : Int32)), (.int (0 : Int32))] (.int (0 : Int32)) := (Arv.new A557 (by decide)).pad (pad_rep [] (.int (0 : Int32)) 5)
  have KC557 : Keep h0 h557 [] := KC0.ext E557
  have go558 : own_S p e below ST T557 (mkF m 39 #[rv o1, iv od, rv o1, iv (5 : Int32), iv (5 : Int32), iv s4] [(.ref b557)]) := fun tt kt => go556 tt (st557 _ kt)
  have go559 : own_S p e below ST T557 (mkF m 45 #[rv o1, iv od, rv b557, iv (0 : Int32), iv (0 : Int32), iv s4] []) := fun tt kt => go558 tt (by
      refine XS.astoreN X557.here hx rfl (hb hby d1_39) rfl rfl (l' := #[rv o1, iv od, rv b557, iv (5 : Int32), iv (5 : Int32), iv s4]) rfl ?_
      refine XS.iconst X557.here hx rfl (hb hby d1_40) ?_
      refine XS.istoreN X557.here hx rfl (hb hby d1_41) rfl (l' := #[rv o1, iv od, rv b557, iv (0 : Int32), iv (5 : Int32), iv s4]) rfl ?_
      refine XS.iconst X557.here hx rfl (hb hby d1_42) ?_
      refine XS.istore X557.here hx rfl (hb hby d1_43) rfl (l' := #[rv o1, iv od, rv b557, iv (0 : Int32), iv (0 : Int32), iv s4]) rfl ?_
      exact kt)
  have go560 : own_S p e below ST T557 (mkF m 48 #[rv o1, iv od, rv b557, iv (0 : Int32), iv (0 : Int32), iv s4] [(.ref o1), (.int (0 : Int32))]) := fun tt kt => go559 tt (by
      refine XS.iload X557.here hx rfl (hb hby d1_45) rfl ?_
      refine XS.aloadN X557.here hx rfl (hb hby d1_47) rfl rfl ?_
      exact kt)
  have f562 := (Va.ext E557)
  obtain ⟨cl561, Ar561, q561, S561, M561, H561, G561⟩ := id f562
  have go563 : own_S p e below ST T557 (mkF m 49 #[rv o1, iv od, rv b557, iv (0 : Int32), iv (0 : Int32), iv s4] [(.int (5 : Int32)), (.int (0 : Int32))]) := fun tt kt => go560 tt (by
      refine X557.arraylength hx (by rw [e557]; exact Ar561.1) (State.isArrayOf_alike hZ.alike Ar561.2.1) (g := (mkF m 48 #[rv o1, iv od, rv b557, iv (0 : Int32), iv (0 : Int32), iv s4] [(.ref o1), (.int (0 : Int32))])) rfl rfl (hb hby d1_48) _ ?_
      rw [len_of S561 M561]
      exact kt)
  have go564 : own_S p e below ST T557 (mkF m 58 #[rv o1, iv od, rv b557, iv (0 : Int32), iv (0 : Int32), iv s4] [(.int (0 : Int32)), (.ref o1), (.int (0 : Int32)), (.ref b557)]) := fun tt kt => go563 tt (by
      refine XS.icmpNo X557.here hx rfl (hb hby d1_49) rfl (tlt (by decide : (0 : Int32) < (5 : Int32))).2.1 ?_
      refine XS.aloadN X557.here hx rfl (hb hby d1_52) rfl rfl ?_
      refine XS.iload X557.here hx rfl (hb hby d1_53) rfl ?_
      refine XS.aloadN X557.here hx rfl (hb hby d1_55) rfl rfl ?_
      refine XS.iload X557.here hx rfl (hb hby d1_56) rfl ?_
      exact kt)
  obtain ⟨cl565, Ar565, q565, S565, M565, H565, G565⟩ := id f562
  have hin565 : ¬ ((0 : Int32) < 0 ∨ cl565.slots.size ≤ ((0 : Int32)).toNatClampNeg) := inb_of S565 ⟨by decide, by decide⟩
  have hat565 : cl565.slots[((0 : Int32)).toNatClampNeg]? = some (.int s0) := H565.at hin565 rfl
  have go566 : own_S p e below ST T557 (mkF m 59 #[rv o1, iv od, rv b557, iv (0 : Int32), iv (0 : Int32), iv s4] [(.int s0), (.int (0 : Int32)), (.ref b557)]) := fun tt kt => go564 tt (by
      refine X557.iaload hx (j := (0 : Int32)) (v := (.int s0)) (by rw [e557]; exact Ar565.1) (State.isArrayOf_alike hZ.alike Ar565.2.1) Ar565.2.2 hin565 hat565 (g := (mkF m 58 #[rv o1, iv od, rv b557, iv (0 : Int32), iv (0 : Int32), iv s4] [(.int (0 : Int32)), (.ref o1), (.int (0 : Int32)), (.ref b557)])) rfl rfl (hb hby d1_58) _ ?_
      exact kt)
  have go567 : own_S p e below ST T557 (mkF m 61 #[rv o1, iv od, rv b557, iv (0 : Int32), iv (0 : Int32), iv s4] [(.int (s0 / (2 : Int32))), (.int (0 : Int32)), (.ref b557)]) := fun tt kt => go566 tt (by
      refine XS.iconst X557.here hx rfl (hb hby d1_59) ?_
      refine XS.idiv X557.here hx rfl (hb hby d1_60) rfl (by decide) ?_
      exact kt)
  obtain ⟨cl568, Ar568, q568, S568, M568, H568, G568⟩ := id V557
  have hin568 : ¬ ((0 : Int32) < 0 ∨ cl568.slots.size ≤ ((0 : Int32)).toNatClampNeg) := inb_of S568 ⟨by decide, by decide⟩
  obtain ⟨T568, h568, X568, e568, W568, st568⟩ := stI X557 hx hZ e557 Ar568 (j := (0 : Int32)) hin568 (g := (mkF m 61 #[rv o1, iv od, rv b557, iv (0 : Int32), iv (0 : Int32), iv s4] [(.int (s0 / (2 : Int32))), (.int (0 : Int32)), (.ref b557)])) rfl rfl (hb hby d1_61)
  have V568 : Arv Z h568 b557 k557 .int (5 : Int32) [(.int (s0 / (2 : Int32))), (.int (0 : Int32)), (.int (0 : Int32)), (.int (0 : Int32)), (.int (0 : Int32))] (.int (0 : Int32)) := Arv.set Ar568 q568 S568 M568 H568 G568 rfl W568 0 rfl (Nat.le_of_ble_eq_true rfl)
  have N568 := Fr.snoc X568 N0 ge_b557
  have KC568 : Keep h0 h568 [] := KC557.wr W568 (Or.inr sz_b557)
  have go569 : own_S p e below ST T568 (mkF m 62 #[rv o1, iv od, rv b557, iv (0 : Int32), iv (0 : Int32), iv s4] []) := fun tt kt => go567 tt (st568 _ kt)
  have go570 : own_S p e below ST T568 (mkF m 65 #[rv o1, iv od, rv b557, iv (0 : Int32), iv (0 : Int32), iv s4] [(.int (0 : Int32)), (.ref o1)]) := fun tt kt => go569 tt (by
      refine XS.aloadN X568.here hx rfl (hb hby d1_62) rfl rfl ?_
      refine XS.iload X568.here hx rfl (hb hby d1_63) rfl ?_
      exact kt)
  have f572 := (f562.other W568 neo1_b557)
  obtain ⟨cl571, Ar571, q571, S571, M571, H571, G571⟩ := id f572
  have hin571 : ¬ ((0 : Int32) < 0 ∨ cl571.slots.size ≤ ((0 : Int32)).toNatClampNeg) := inb_of S571 ⟨by decide, by decide⟩
  have hat571 : cl571.slots[((0 : Int32)).toNatClampNeg]? = some (.int s0) := H571.at hin571 rfl
  have go573 : own_S p e below ST T568 (mkF m 66 #[rv o1, iv od, rv b557, iv (0 : Int32), iv (0 : Int32), iv s4] [(.int s0)]) := fun tt kt => go570 tt (by
      refine X568.iaload hx (j := (0 : Int32)) (v := (.int s0)) (by rw [e568]; exact Ar571.1) (State.isArrayOf_alike hZ.alike Ar571.2.1) Ar571.2.2 hin571 hat571 (g := (mkF m 65 #[rv o1, iv od, rv b557, iv (0 : Int32), iv (0 : Int32), iv s4] [(.int (0 : Int32)), (.ref o1)])) rfl rfl (hb hby d1_65) _ ?_
      exact kt)
  have go574 : own_S p e below ST T568 (mkF m 68 #[rv o1, iv od, rv b557, iv (0 : Int32), iv (0 : Int32), iv s4] [(.int (s0 % (2 : Int32)))]) := fun tt kt => go573 tt (by
      refine XS.iconst X568.here hx rfl (hb hby d1_66) ?_
      refine iremM (g := (mkF m 67 #[rv o1, iv od, rv b557, iv (0 : Int32), iv (0 : Int32), iv s4] [(.int (2 : Int32)), (.int s0)])) X568 hx rfl (hb hby d1_67) rfl (by decide) ?_
      exact kt)
  have zs575 := (Nat.le_trans (Nat.le_trans Z0 E557.1) (Keep.of_wr W568).1)
  obtain ⟨T589, h589, L589, q1, e0, X589, e589, N589, K589, c589_0, hq1, he0, sg589⟩ : ∃ (T589 : State) (h589 : Heap) (L589 : List Loc) (q1 : Int32) (e0 : Int32), Stand p l e ({ frames := 0, cells := 1, slots := 5, locals := 0 } : Room) s m #[(.ref o1)] below meth c T589 L589 (0 + 1) (0 + 5) ∧ T589.heap = h589 ∧ Fr n0 L589 ∧ Keep h568 h589 [b557] ∧ Arv Z h589 b557 k557 .int (5 : Int32) [(.int e0), (.int (0 : Int32)), (.int (0 : Int32)), (.int (0 : Int32)), (.int (0 : Int32))] (.int (0 : Int32)) ∧ q1 = (if (s0 % (2 : Int32)) = (0 : Int32) then (0 : Int32) else (if (0 : Int32) < (od / (2 : Int32)) then (1 : Int32) else (1 : Int32))) ∧ e0 = (if (s0 % (2 : Int32)) = (0 : Int32) then (s0 / (2 : Int32)) else (if (0 : Int32) < (od / (2 : Int32)) then ((s0 / (2 : Int32)) + (1 : Int32)) else (s0 / (2 : Int32)))) ∧ ∀ tt, Steps p.tables e below (T589.setTop (mkF m 89 #[rv o1, iv od, rv b557, iv q1, iv (0 : Int32), iv s4] [])) tt → Steps p.tables e below (T568.setTop (mkF m 68 #[rv o1, iv od, rv b557, iv (0 : Int32), iv (0 : Int32), iv s4] [(.int (s0 % (2 : Int32)))])) tt := by
    by_cases hj68_0 : (s0 % (2 : Int32)) = (0 : Int32)
    · have go576 : own_S p e below (T568.setTop (mkF m 68 #[rv o1, iv od, rv b557, iv (0 : Int32), iv (0 : Int32), iv s4] [(.int (s0 % (2 : Int32)))])) T568 (mkF m 89 #[rv o1, iv od, rv b557, iv (0 : Int32), iv (0 : Int32), iv s4] []) := fun tt kt => (fun (tt : State) (kt : Steps p.tables e below (T568.setTop (mkF m 68 #[rv o1, iv od, rv b557, iv (0 : Int32), iv (0 : Int32), iv s4] [(.int (s0 % (2 : Int32)))])) tt) => kt) tt (by
          refine XS.ifYes X568.here hx rfl (pc0 := 68) (pc' := 89) rfl (hb hby d1_68) rfl ((if0 _ _).trans (teq hj68_0).1) (by decide) (by decide) ?_
          exact kt)
      exact ⟨T568, h568, _, (0 : Int32), (s0 / (2 : Int32)), X568, e568, N568, (Keep.refl h568 [b557]), V568, (if_pos hj68_0).symm, (if_pos hj68_0).symm, go576⟩
    · have go577 : own_S p e below (T568.setTop (mkF m 68 #[rv o1, iv od, rv b557, iv (0 : Int32), iv (0 : Int32), iv s4] [(.int (s0 % (2 : Int32)))])) T568 (mkF m 71 #[rv o1, iv od, rv b557, iv (0 : Int32), iv (0 : Int32), iv s4] []) := fun tt kt => (fun (tt : State) (kt : Steps p.tables e below (T568.setTop (mkF m 68 #[rv o1, iv od, rv b557, iv (0 : Int32), iv (0 : Int32), iv s4] [(.int (s0 % (2 : Int32)))])) tt) => kt) tt (by
          refine XS.ifNo X568.here hx rfl (hb hby d1_68) rfl ((if0 _ _).trans (feq hj68_0).1) ?_
          exact kt)
      have go578 : own_S p e below (T568.setTop (mkF m 68 #[rv o1, iv od, rv b557, iv (0 : Int32), iv (0 : Int32), iv s4] [(.int (s0 % (2 : Int32)))])) T568 (mkF m 75 #[rv o1, iv od, rv b557, iv (0 : Int32), iv (0 : Int32), iv s4] [(.int (od / (2 : Int32))), (.int (0 : Int32))]) := fun tt kt => go577 tt (by
          refine XS.iloadN X568.here hx rfl (hb hby d1_71) rfl ?_
          refine XS.iloadN X568.here hx rfl (hb hby d1_72) rfl ?_
          refine XS.iconst X568.here hx rfl (hb hby d1_73) ?_
          refine XS.idiv X568.here hx rfl (hb hby d1_74) rfl (by decide) ?_
          exact kt)
      by_cases hj75_1 : (0 : Int32) < (od / (2 : Int32))
      · have go579 : own_S p e below (T568.setTop (mkF m 68 #[rv o1, iv od, rv b557, iv (0 : Int32), iv (0 : Int32), iv s4] [(.int (s0 % (2 : Int32)))])) T568 (mkF m 78 #[rv o1, iv od, rv b557, iv (0 : Int32), iv (0 : Int32), iv s4] []) := fun tt kt => go578 tt (by
            refine XS.icmpNo X568.here hx rfl (hb hby d1_75) rfl (tlt hj75_1).2.1 ?_
            exact kt)
        have go580 : own_S p e below (T568.setTop (mkF m 68 #[rv o1, iv od, rv b557, iv (0 : Int32), iv (0 : Int32), iv s4] [(.int (s0 % (2 : Int32)))])) T568 (mkF m 82 #[rv o1, iv od, rv b557, iv (0 : Int32), iv (0 : Int32), iv s4] [(.int (0 : Int32)), (.ref b557), (.int (0 : Int32)), (.ref b557)]) := fun tt kt => go579 tt (by
            refine XS.aloadN X568.here hx rfl (hb hby d1_78) rfl rfl ?_
            refine XS.iload X568.here hx rfl (hb hby d1_79) rfl ?_
            refine XT.dup2 X568.here hx rfl (hb hby d1_81) rfl rfl rfl ?_
            exact kt)
        obtain ⟨cl581, Ar581, q581, S581, M581, H581, G581⟩ := id V568
        have hin581 : ¬ ((0 : Int32) < 0 ∨ cl581.slots.size ≤ ((0 : Int32)).toNatClampNeg) := inb_of S581 ⟨by decide, by decide⟩
        have hat581 : cl581.slots[((0 : Int32)).toNatClampNeg]? = some (.int (s0 / (2 : Int32))) := H581.at hin581 rfl
        have go582 : own_S p e below (T568.setTop (mkF m 68 #[rv o1, iv od, rv b557, iv (0 : Int32), iv (0 : Int32), iv s4] [(.int (s0 % (2 : Int32)))])) T568 (mkF m 83 #[rv o1, iv od, rv b557, iv (0 : Int32), iv (0 : Int32), iv s4] [(.int (s0 / (2 : Int32))), (.int (0 : Int32)), (.ref b557)]) := fun tt kt => go580 tt (by
            refine X568.iaload hx (j := (0 : Int32)) (v := (.int (s0 / (2 : Int32)))) (by rw [e568]; exact Ar581.1) (State.isArrayOf_alike hZ.alike Ar581.2.1) Ar581.2.2 hin581 hat581 (g := (mkF m 82 #[rv o1, iv od, rv b557, iv (0 : Int32), iv (0 : Int32), iv s4] [(.int (0 : Int32)), (.ref b557), (.int (0 : Int32)), (.ref b557)])) rfl rfl (hb hby d1_82) _ ?_
            exact kt)
        have go583 : own_S p e below (T568.setTop (mkF m 68 #[rv o1, iv od, rv b557, iv (0 : Int32), iv (0 : Int32), iv s4] [(.int (s0 % (2 : Int32)))])) T568 (mkF m 85 #[rv o1, iv od, rv b557, iv (0 : Int32), iv (0 : Int32), iv s4] [(.int ((s0 / (2 : Int32)) + (1 : Int32))), (.int (0 : Int32)), (.ref b557)]) := fun tt kt => go582 tt (by
            refine XS.iconst X568.here hx rfl (hb hby d1_83) ?_
            refine XS.iadd X568.here hx rfl (hb hby d1_84) rfl ?_
            exact kt)
        obtain ⟨cl584, Ar584, q584, S584, M584, H584, G584⟩ := id V568
        have hin584 : ¬ ((0 : Int32) < 0 ∨ cl584.slots.size ≤ ((0 : Int32)).toNatClampNeg) := inb_of S584 ⟨by decide, by decide⟩
        obtain ⟨T584, h584, X584, e584, W584, st584⟩ := stI X568 hx hZ e568 Ar584 (j := (0 : Int32)) hin584 (g := (mkF m 85 #[rv o1, iv od, rv b557, iv (0 : Int32), iv (0 : Int32), iv s4] [(.int ((s0 / (2 : Int32)) + (1 : Int32))), (.int (0 : Int32)), (.ref b557)])) rfl rfl (hb hby d1_85)
        have V584 : Arv Z h584 b557 k557 .int (5 : Int32) [(.int ((s0 / (2 : Int32)) + (1 : Int32))), (.int (0 : Int32)), (.int (0 : Int32)), (.int (0 : Int32)), (.int (0 : Int32))] (.int (0 : Int32)) := Arv.set Ar584 q584 S584 M584 H584 G584 rfl W584 0 rfl (Nat.le_of_ble_eq_true rfl)
        have N584 := Fr.snoc X584 N568 ge_b557
        have kj584 : Keep h568 h584 [b557] := (Keep.refl h568 [b557]).wr W584 (Or.inl (List.mem_of_getElem? (i := 0) rfl))
        have KC584 : Keep h0 h584 [] := KC568.wr W584 (Or.inr sz_b557)
        have go585 : own_S p e below (T568.setTop (mkF m 68 #[rv o1, iv od, rv b557, iv (0 : Int32), iv (0 : Int32), iv s4] [(.int (s0 % (2 : Int32)))])) T584 (mkF m 86 #[rv o1, iv od, rv b557, iv (0 : Int32), iv (0 : Int32), iv s4] []) := fun tt kt => go583 tt (st584 _ kt)
        have go586 : own_S p e below (T568.setTop (mkF m 68 #[rv o1, iv od, rv b557, iv (0 : Int32), iv (0 : Int32), iv s4] [(.int (s0 % (2 : Int32)))])) T584 (mkF m 89 #[rv o1, iv od, rv b557, iv (1 : Int32), iv (0 : Int32), iv s4] []) := fun tt kt => go585 tt (by
            refine XS.iinc X584.here hx rfl (hb hby d1_86) rfl (l' := #[rv o1, iv od, rv b557, iv (1 : Int32), iv (0 : Int32), iv s4]) rfl ?_
            exact kt)
        exact ⟨T584, h584, _, (1 : Int32), ((s0 / (2 : Int32)) + (1 : Int32)), X584, e584, N584, kj584, V584, ((if_neg hj68_0).trans (if_pos hj75_1)).symm, ((if_neg hj68_0).trans (if_pos hj75_1)).symm, go586⟩
      · have go587 : own_S p e below (T568.setTop (mkF m 68 #[rv o1, iv od, rv b557, iv (0 : Int32), iv (0 : Int32), iv s4] [(.int (s0 % (2 : Int32)))])) T568 (mkF m 86 #[rv o1, iv od, rv b557, iv (0 : Int32), iv (0 : Int32), iv s4] []) := fun tt kt => go578 tt (by
            refine XS.icmpYes X568.here hx rfl (pc0 := 75) (pc' := 86) rfl (hb hby d1_75) rfl (flt hj75_1).2.1 (by decide) (by decide) ?_
            exact kt)
        have go588 : own_S p e below (T568.setTop (mkF m 68 #[rv o1, iv od, rv b557, iv (0 : Int32), iv (0 : Int32), iv s4] [(.int (s0 % (2 : Int32)))])) T568 (mkF m 89 #[rv o1, iv od, rv b557, iv (1 : Int32), iv (0 : Int32), iv s4] []) := fun tt kt => go587 tt (by
            refine XS.iinc X568.here hx rfl (hb hby d1_86) rfl (l' := #[rv o1, iv od, rv b557, iv (1 : Int32), iv (0 : Int32), iv s4]) rfl ?_
            exact kt)
        exact ⟨T568, h568, _, (1 : Int32), (s0 / (2 : Int32)), X568, e568, N568, (Keep.refl h568 [b557]), V568, ((if_neg hj68_0).trans (if_neg hj75_1)).symm, ((if_neg hj68_0).trans (if_neg hj75_1)).symm, go588⟩
  have KC589 : Keep h0 h589 [] := KC568.trans K589 (allS (Or.inr sz_b557) all0)
  have go590 : own_S p e below ST T589 (mkF m 89 #[rv o1, iv od, rv b557, iv q1, iv (0 : Int32), iv s4] []) := fun tt kt => go574 tt (sg589 _ kt)
  have go591 : own_S p e below ST T589 (mkF m 45 #[rv o1, iv od, rv b557, iv q1, iv (1 : Int32), iv s4] []) := fun tt kt => go590 tt (by
      refine XS.iinc X589.here hx rfl (hb hby d1_89) rfl (l' := #[rv o1, iv od, rv b557, iv q1, iv (1 : Int32), iv s4]) rfl ?_
      refine XS.goto X589.here hx rfl (pc0 := 92) (pc' := 45) rfl (hb hby d1_92) (by decide) (by decide) ?_
      exact kt)
  have go592 : own_S p e below ST T589 (mkF m 48 #[rv o1, iv od, rv b557, iv q1, iv (1 : Int32), iv s4] [(.ref o1), (.int (1 : Int32))]) := fun tt kt => go591 tt (by
      refine XS.iload X589.here hx rfl (hb hby d1_45) rfl ?_
      refine XS.aloadN X589.here hx rfl (hb hby d1_47) rfl rfl ?_
      exact kt)
  have f594 := (f572.keep K589 (ninS neo1_b557 nin0))
  obtain ⟨cl593, Ar593, q593, S593, M593, H593, G593⟩ := id f594
  have go595 : own_S p e below ST T589 (mkF m 49 #[rv o1, iv od, rv b557, iv q1, iv (1 : Int32), iv s4] [(.int (5 : Int32)), (.int (1 : Int32))]) := fun tt kt => go592 tt (by
      refine X589.arraylength hx (by rw [e589]; exact Ar593.1) (State.isArrayOf_alike hZ.alike Ar593.2.1) (g := (mkF m 48 #[rv o1, iv od, rv b557, iv q1, iv (1 : Int32), iv s4] [(.ref o1), (.int (1 : Int32))])) rfl rfl (hb hby d1_48) _ ?_
      rw [len_of S593 M593]
      exact kt)
  have go596 : own_S p e below ST T589 (mkF m 58 #[rv o1, iv od, rv b557, iv q1, iv (1 : Int32), iv s4] [(.int (1 : Int32)), (.ref o1), (.int (1 : Int32)), (.ref b557)]) := fun tt kt => go595 tt (by
      refine XS.icmpNo X589.here hx rfl (hb hby d1_49) rfl (tlt (by decide : (1 : Int32) < (5 : Int32))).2.1 ?_
      refine XS.aloadN X589.here hx rfl (hb hby d1_52) rfl rfl ?_
      refine XS.iload X589.here hx rfl (hb hby d1_53) rfl ?_
      refine XS.aloadN X589.here hx rfl (hb hby d1_55) rfl rfl ?_
      refine XS.iload X589.here hx rfl (hb hby d1_56) rfl ?_
      exact kt)
  obtain ⟨cl597, Ar597, q597, S597, M597, H597, G597⟩ := id f594
  have hin597 : ¬ ((1 : Int32) < 0 ∨ cl597.slots.size ≤ ((1 : Int32)).toNatClampNeg) := inb_of S597 ⟨by decide, by decide⟩
  have hat597 : cl597.slots[((1 : Int32)).toNatClampNeg]? = some (.int s1) := H597.at hin597 rfl
  have go598 : own_S p e below ST T589 (mkF m 59 #[rv o1, iv od, rv b557, iv q1, iv (1 : Int32), iv s4] [(.int s1), (.int (1 : Int32)), (.ref b557)]) := fun tt kt => go596 tt (by
      refine X589.iaload hx (j := (1 : Int32)) (v := (.int s1)) (by rw [e589]; exact Ar597.1) (State.isArrayOf_alike hZ.alike Ar597.2.1) Ar597.2.2 hin597 hat597 (g := (mkF m 58 #[rv o1, iv od, rv b557, iv q1, iv (1 : Int32), iv s4] [(.int (1 : Int32)), (.ref o1), (.int (1 : Int32)), (.ref b557)])) rfl rfl (hb hby d1_58) _ ?_
      exact kt)
  have go599 : own_S p e below ST T589 (mkF m 61 #[rv o1, iv od, rv b557, iv q1, iv (1 : Int32), iv s4] [(.int (s1 / (2 : Int32))), (.int (1 : Int32)), (.ref b557)]) := fun tt kt => go598 tt (by
      refine XS.iconst X589.here hx rfl (hb hby d1_59) ?_
      refine XS.idiv X589.here hx rfl (hb hby d1_60) rfl (by decide) ?_
      exact kt)
  obtain ⟨cl600, Ar600, q600, S600, M600, H600, G600⟩ := id c589_0
  have hin600 : ¬ ((1 : Int32) < 0 ∨ cl600.slots.size ≤ ((1 : Int32)).toNatClampNeg) := inb_of S600 ⟨by decide, by decide⟩
  obtain ⟨T600, h600, X600, e600, W600, st600⟩ := stI X589 hx hZ e589 Ar600 (j := (1 : Int32)) hin600 (g := (mkF m 61 #[rv o1, iv od, rv b557, iv q1, iv (1 : Int32), iv s4] [(.int (s1 / (2 : Int32))), (.int (1 : Int32)), (.ref b557)])) rfl rfl (hb hby d1_61)
  have V600 : Arv Z h600 b557 k557 .int (5 : Int32) [(.int e0), (.int (s1 / (2 : Int32))), (.int (0 : Int32)), (.int (0 : Int32)), (.int (0 : Int32))] (.int (0 : Int32)) := Arv.set Ar600 q600 S600 M600 H600 G600 rfl W600 1 rfl (Nat.le_of_ble_eq_true rfl)
  have N600 := Fr.snoc X600 N589 ge_b557
  have KC600 : Keep h0 h600 [] := KC589.wr W600 (Or.inr sz_b557)
  have go601 : own_S p e below ST T600 (mkF m 62 #[rv o1, iv od, rv b557, iv q1, iv (1 : Int32), iv s4] []) := fun tt kt => go599 tt (st600 _ kt)
  have go602 : own_S p e below ST T600 (mkF m 65 #[rv o1, iv od, rv b557, iv q1, iv (1 : Int32), iv s4] [(.int (1 : Int32)), (.ref o1)]) := fun tt kt => go601 tt (by
      refine XS.aloadN X600.here hx rfl (hb hby d1_62) rfl rfl ?_
      refine XS.iload X600.here hx rfl (hb hby d1_63) rfl ?_
      exact kt)
  have f604 := (f594.other W600 neo1_b557)
  obtain ⟨cl603, Ar603, q603, S603, M603, H603, G603⟩ := id f604
  have hin603 : ¬ ((1 : Int32) < 0 ∨ cl603.slots.size ≤ ((1 : Int32)).toNatClampNeg) := inb_of S603 ⟨by decide, by decide⟩
  have hat603 : cl603.slots[((1 : Int32)).toNatClampNeg]? = some (.int s1) := H603.at hin603 rfl
  have go605 : own_S p e below ST T600 (mkF m 66 #[rv o1, iv od, rv b557, iv q1, iv (1 : Int32), iv s4] [(.int s1)]) := fun tt kt => go602 tt (by
      refine X600.iaload hx (j := (1 : Int32)) (v := (.int s1)) (by rw [e600]; exact Ar603.1) (State.isArrayOf_alike hZ.alike Ar603.2.1) Ar603.2.2 hin603 hat603 (g := (mkF m 65 #[rv o1, iv od, rv b557, iv q1, iv (1 : Int32), iv s4] [(.int (1 : Int32)), (.ref o1)])) rfl rfl (hb hby d1_65) _ ?_
      exact kt)
  have go606 : own_S p e below ST T600 (mkF m 68 #[rv o1, iv od, rv b557, iv q1, iv (1 : Int32), iv s4] [(.int (s1 % (2 : Int32)))]) := fun tt kt => go605 tt (by
      refine XS.iconst X600.here hx rfl (hb hby d1_66) ?_
      refine iremM (g := (mkF m 67 #[rv o1, iv od, rv b557, iv q1, iv (1 : Int32), iv s4] [(.int (2 : Int32)), (.int s1)])) X600 hx rfl (hb hby d1_67) rfl (by decide) ?_
      exact kt)
  have zs607 := (Nat.le_trans (Nat.le_trans zs575 K589.1) (Keep.of_wr W600).1)
  obtain ⟨T621, h621, L621, q2, e1, X621, e621, N621, K621, c621_0, hq2, he1, sg621⟩ : ∃ (T621 : State) (h621 : Heap) (L621 : List Loc) (q2 : Int32) (e1 : Int32), Stand p l e ({ frames := 0, cells := 1, slots := 5, locals := 0 } : Room) s m #[(.ref o1)] below meth c T621 L621 (0 + 1) (0 + 5) ∧ T621.heap = h621 ∧ Fr n0 L621 ∧ Keep h600 h621 [b557] ∧ Arv Z h621 b557 k557 .int (5 : Int32) [(.int e0), (.int e1), (.int (0 : Int32)), (.int (0 : Int32)), (.int (0 : Int32))] (.int (0 : Int32)) ∧ q2 = (if (s1 % (2 : Int32)) = (0 : Int32) then q1 else (if q1 < (od / (2 : Int32)) then (q1 + (1 : Int32)) else (q1 + (1 : Int32)))) ∧ e1 = (if (s1 % (2 : Int32)) = (0 : Int32) then (s1 / (2 : Int32)) else (if q1 < (od / (2 : Int32)) then ((s1 / (2 : Int32)) + (1 : Int32)) else (s1 / (2 : Int32)))) ∧ ∀ tt, Steps p.tables e below (T621.setTop (mkF m 89 #[rv o1, iv od, rv b557, iv q2, iv (1 : Int32), iv s4] [])) tt → Steps p.tables e below (T600.setTop (mkF m 68 #[rv o1, iv od, rv b557, iv q1, iv (1 : Int32), iv s4] [(.int (s1 % (2 : Int32)))])) tt := by
    by_cases hj68_0 : (s1 % (2 : Int32)) = (0 : Int32)
    · have go608 : own_S p e below (T600.setTop (mkF m 68 #[rv o1, iv od, rv b557, iv q1, iv (1 : Int32), iv s4] [(.int (s1 % (2 : Int32)))])) T600 (mkF m 89 #[rv o1, iv od, rv b557, iv q1, iv (1 : Int32), iv s4] []) := fun tt kt => (fun (tt : State) (kt : Steps p.tables e below (T600.setTop (mkF m 68 #[rv o1, iv od, rv b557, iv q1, iv (1 : Int32), iv s4] [(.int (s1 % (2 : Int32)))])) tt) => kt) tt (by
          refine XS.ifYes X600.here hx rfl (pc0 := 68) (pc' := 89) rfl (hb hby d1_68) rfl ((if0 _ _).trans (teq hj68_0).1) (by decide) (by decide) ?_
          exact kt)
      exact ⟨T600, h600, _, q1, (s1 / (2 : Int32)), X600, e600, N600, (Keep.refl h600 [b557]), V600, (if_pos hj68_0).symm, (if_pos hj68_0).symm, go608⟩
    · have go609 : own_S p e below (T600.setTop (mkF m 68 #[rv o1, iv od, rv b557, iv q1, iv (1 : Int32), iv s4] [(.int (s1 % (2 : Int32)))])) T600 (mkF m 71 #[rv o1, iv od, rv b557, iv q1, iv (1 : Int32), iv s4] []) := fun tt kt => (fun (tt : State) (kt : Steps p.tables e below (T600.setTop (mkF m 68 #[rv o1, iv od, rv b557, iv q1, iv (1 : Int32), iv s4] [(.int (s1 % (2 : Int32)))])) tt) => kt) tt (by
          refine XS.ifNo X600.here hx rfl (hb hby d1_68) rfl ((if0 _ _).trans (feq hj68_0).1) ?_
          exact kt)
      have go610 : own_S p e below (T600.setTop (mkF m 68 #[rv o1, iv od, rv b557, iv q1, iv (1 : Int32), iv s4] [(.int (s1 % (2 : Int32)))])) T600 (mkF m 75 #[rv o1, iv od, rv b557, iv q1, iv (1 : Int32), iv s4] [(.int (od / (2 : Int32))), (.int q1)]) := fun tt kt => go609 tt (by
          refine XS.iloadN X600.here hx rfl (hb hby d1_71) rfl ?_
          refine XS.iloadN X600.here hx rfl (hb hby d1_72) rfl ?_
          refine XS.iconst X600.here hx rfl (hb hby d1_73) ?_
          refine XS.idiv X600.here hx rfl (hb hby d1_74) rfl (by decide) ?_
          exact kt)
      by_cases hj75_1 : q1 < (od / (2 : Int32))
      · have go611 : own_S p e below (T600.setTop (mkF m 68 #[rv o1, iv od, rv b557, iv q1, iv (1 : Int32), iv s4] [(.int (s1 % (2 : Int32)))])) T600 (mkF m 78 #[rv o1, iv od, rv b557, iv q1, iv (1 : Int32), iv s4] []) := fun tt kt => go610 tt (by
            refine XS.icmpNo X600.here hx rfl (hb hby d1_75) rfl (tlt hj75_1).2.1 ?_
            exact kt)
        have go612 : own_S p e below (T600.setTop (mkF m 68 #[rv o1, iv od, rv b557, iv q1, iv (1 : Int32), iv s4] [(.int (s1 % (2 : Int32)))])) T600 (mkF m 82 #[rv o1, iv od, rv b557, iv q1, iv (1 : Int32), iv s4] [(.int (1 : Int32)), (.ref b557), (.int (1 : Int32)), (.ref b557)]) := fun tt kt => go611 tt (by
            refine XS.aloadN X600.here hx rfl (hb hby d1_78) rfl rfl ?_
            refine XS.iload X600.here hx rfl (hb hby d1_79) rfl ?_
            refine XT.dup2 X600.here hx rfl (hb hby d1_81) rfl rfl rfl ?_
            exact kt)
        obtain ⟨cl613, Ar613, q613, S613, M613, H613, G613⟩ := id V600
        have hin613 : ¬ ((1 : Int32) < 0 ∨ cl613.slots.size ≤ ((1 : Int32)).toNatClampNeg) := inb_of S613 ⟨by decide, by decide⟩
        have hat613 : cl613.slots[((1 : Int32)).toNatClampNeg]? = some (.int (s1 / (2 : Int32))) := H613.at hin613 rfl
        have go614 : own_S p e below (T600.setTop (mkF m 68 #[rv o1, iv od, rv b557, iv q1, iv (1 : Int32), iv s4] [(.int (s1 % (2 : Int32)))])) T600 (mkF m 83 #[rv o1, iv od, rv b557, iv q1, iv (1 : Int32), iv s4] [(.int (s1 / (2 : Int32))), (.int (1 : Int32)), (.ref b557)]) := fun tt kt => go612 tt (by
            refine X600.iaload hx (j := (1 : Int32)) (v := (.int (s1 / (2 : Int32)))) (by rw [e600]; exact Ar613.1) (State.isArrayOf_alike hZ.alike Ar613.2.1) Ar613.2.2 hin613 hat613 (g := (mkF m 82 #[rv o1, iv od, rv b557, iv q1, iv (1 : Int32), iv s4] [(.int (1 : Int32)), (.ref b557), (.int (1 : Int32)), (.ref b557)])) rfl rfl (hb hby d1_82) _ ?_
            exact kt)
        have go615 : own_S p e below (T600.setTop (mkF m 68 #[rv o1, iv od, rv b557, iv q1, iv (1 : Int32), iv s4] [(.int (s1 % (2 : Int32)))])) T600 (mkF m 85 #[rv o1, iv od, rv b557, iv q1, iv (1 : Int32), iv s4] [(.int ((s1 / (2 : Int32)) + (1 : Int32))), (.int (1 : Int32)), (.ref b557)]) := fun tt kt => go614 tt (by
            refine XS.iconst X600.here hx rfl (hb hby d1_83) ?_
            refine XS.iadd X600.here hx rfl (hb hby d1_84) rfl ?_
            exact kt)
        obtain ⟨cl616, Ar616, q616, S616, M616, H616, G616⟩ := id V600
        have hin616 : ¬ ((1 : Int32) < 0 ∨ cl616.slots.size ≤ ((1 : Int32)).toNatClampNeg) := inb_of S616 ⟨by decide, by decide⟩
        obtain ⟨T616, h616, X616, e616, W616, st616⟩ := stI X600 hx hZ e600 Ar616 (j := (1 : Int32)) hin616 (g := (mkF m 85 #[rv o1, iv od, rv b557, iv q1, iv (1 : Int32), iv s4] [(.int ((s1 / (2 : Int32)) + (1 : Int32))), (.int (1 : Int32)), (.ref b557)])) rfl rfl (hb hby d1_85)
        have V616 : Arv Z h616 b557 k557 .int (5 : Int32) [(.int e0), (.int ((s1 / (2 : Int32)) + (1 : Int32))), (.int (0 : Int32)), (.int (0 : Int32)), (.int (0 : Int32))] (.int (0 : Int32)) := Arv.set Ar616 q616 S616 M616 H616 G616 rfl W616 1 rfl (Nat.le_of_ble_eq_true rfl)
        have N616 := Fr.snoc X616 N600 ge_b557
        have kj616 : Keep h600 h616 [b557] := (Keep.refl h600 [b557]).wr W616 (Or.inl (List.mem_of_getElem? (i := 0) rfl))
        have KC616 : Keep h0 h616 [] := KC600.wr W616 (Or.inr sz_b557)
        have go617 : own_S p e below (T600.setTop (mkF m 68 #[rv o1, iv od, rv b557, iv q1, iv (1 : Int32), iv s4] [(.int (s1 % (2 : Int32)))])) T616 (mkF m 86 #[rv o1, iv od, rv b557, iv q1, iv (1 : Int32), iv s4] []) := fun tt kt => go615 tt (st616 _ kt)
        have go618 : own_S p e below (T600.setTop (mkF m 68 #[rv o1, iv od, rv b557, iv q1, iv (1 : Int32), iv s4] [(.int (s1 % (2 : Int32)))])) T616 (mkF m 89 #[rv o1, iv od, rv b557, iv (q1 + (1 : Int32)), iv (1 : Int32), iv s4] []) := fun tt kt => go617 tt (by
            refine XS.iinc X616.here hx rfl (hb hby d1_86) rfl (l' := #[rv o1, iv od, rv b557, iv (q1 + (1 : Int32)), iv (1 : Int32), iv s4]) rfl ?_
            exact kt)
        exact ⟨T616, h616, _, (q1 + (1 : Int32)), ((s1 / (2 : Int32)) + (1 : Int32)), X616, e616, N616, kj616, V616, ((if_neg hj68_0).trans (if_pos hj75_1)).symm, ((if_neg hj68_0).trans (if_pos hj75_1)).symm, go618⟩
      · have go619 : own_S p e below (T600.setTop (mkF m 68 #[rv o1, iv od, rv b557, iv q1, iv (1 : Int32), iv s4] [(.int (s1 % (2 : Int32)))])) T600 (mkF m 86 #[rv o1, iv od, rv b557, iv q1, iv (1 : Int32), iv s4] []) := fun tt kt => go610 tt (by
            refine XS.icmpYes X600.here hx rfl (pc0 := 75) (pc' := 86) rfl (hb hby d1_75) rfl (flt hj75_1).2.1 (by decide) (by decide) ?_
            exact kt)
        have go620 : own_S p e below (T600.setTop (mkF m 68 #[rv o1, iv od, rv b557, iv q1, iv (1 : Int32), iv s4] [(.int (s1 % (2 : Int32)))])) T600 (mkF m 89 #[rv o1, iv od, rv b557, iv (q1 + (1 : Int32)), iv (1 : Int32), iv s4] []) := fun tt kt => go619 tt (by
            refine XS.iinc X600.here hx rfl (hb hby d1_86) rfl (l' := #[rv o1, iv od, rv b557, iv (q1 + (1 : Int32)), iv (1 : Int32), iv s4]) rfl ?_
            exact kt)
        exact ⟨T600, h600, _, (q1 + (1 : Int32)), (s1 / (2 : Int32)), X600, e600, N600, (Keep.refl h600 [b557]), V600, ((if_neg hj68_0).trans (if_neg hj75_1)).symm, ((if_neg hj68_0).trans (if_neg hj75_1)).symm, go620⟩
  have KC621 : Keep h0 h621 [] := KC600.trans K621 (allS (Or.inr sz_b557) all0)
  have go622 : own_S p e below ST T621 (mkF m 89 #[rv o1, iv od, rv b557, iv q2, iv (1 : Int32), iv s4] []) := fun tt kt => go606 tt (sg621 _ kt)
  have go623 : own_S p e below ST T621 (mkF m 45 #[rv o1, iv od, rv b557, iv q2, iv (2 : Int32), iv s4] []) := fun tt kt => go622 tt (by
      refine XS.iinc X621.here hx rfl (hb hby d1_89) rfl (l' := #[rv o1, iv od, rv b557, iv q2, iv (2 : Int32), iv s4]) rfl ?_
      refine XS.goto X621.here hx rfl (pc0 := 92) (pc' := 45) rfl (hb hby d1_92) (by decide) (by decide) ?_
      exact kt)
  have go624 : own_S p e below ST T621 (mkF m 48 #[rv o1, iv od, rv b557, iv q2, iv (2 : Int32), iv s4] [(.ref o1), (.int (2 : Int32))]) := fun tt kt => go623 tt (by
      refine XS.iload X621.here hx rfl (hb hby d1_45) rfl ?_
      refine XS.aloadN X621.here hx rfl (hb hby d1_47) rfl rfl ?_
      exact kt)
  have f626 := (f604.keep K621 (ninS neo1_b557 nin0))
  obtain ⟨cl625, Ar625, q625, S625, M625, H625, G625⟩ := id f626
  have go627 : own_S p e below ST T621 (mkF m 49 #[rv o1, iv od, rv b557, iv q2, iv (2 : Int32), iv s4] [(.int (5 : Int32)), (.int (2 : Int32))]) := fun tt kt => go624 tt (by
      refine X621.arraylength hx (by rw [e621]; exact Ar625.1) (State.isArrayOf_alike hZ.alike Ar625.2.1) (g := (mkF m 48 #[rv o1, iv od, rv b557, iv q2, iv (2 : Int32), iv s4] [(.ref o1), (.int (2 : Int32))])) rfl rfl (hb hby d1_48) _ ?_
      rw [len_of S625 M625]
      exact kt)
  have go628 : own_S p e below ST T621 (mkF m 58 #[rv o1, iv od, rv b557, iv q2, iv (2 : Int32), iv s4] [(.int (2 : Int32)), (.ref o1), (.int (2 : Int32)), (.ref b557)]) := fun tt kt => go627 tt (by
      refine XS.icmpNo X621.here hx rfl (hb hby d1_49) rfl (tlt (by decide : (2 : Int32) < (5 : Int32))).2.1 ?_
      refine XS.aloadN X621.here hx rfl (hb hby d1_52) rfl rfl ?_
      refine XS.iload X621.here hx rfl (hb hby d1_53) rfl ?_
      refine XS.aloadN X621.here hx rfl (hb hby d1_55) rfl rfl ?_
      refine XS.iload X621.here hx rfl (hb hby d1_56) rfl ?_
      exact kt)
  obtain ⟨cl629, Ar629, q629, S629, M629, H629, G629⟩ := id f626
  have hin629 : ¬ ((2 : Int32) < 0 ∨ cl629.slots.size ≤ ((2 : Int32)).toNatClampNeg) := inb_of S629 ⟨by decide, by decide⟩
  have hat629 : cl629.slots[((2 : Int32)).toNatClampNeg]? = some (.int s2) := H629.at hin629 rfl
  have go630 : own_S p e below ST T621 (mkF m 59 #[rv o1, iv od, rv b557, iv q2, iv (2 : Int32), iv s4] [(.int s2), (.int (2 : Int32)), (.ref b557)]) := fun tt kt => go628 tt (by
      refine X621.iaload hx (j := (2 : Int32)) (v := (.int s2)) (by rw [e621]; exact Ar629.1) (State.isArrayOf_alike hZ.alike Ar629.2.1) Ar629.2.2 hin629 hat629 (g := (mkF m 58 #[rv o1, iv od, rv b557, iv q2, iv (2 : Int32), iv s4] [(.int (2 : Int32)), (.ref o1), (.int (2 : Int32)), (.ref b557)])) rfl rfl (hb hby d1_58) _ ?_
      exact kt)
  have go631 : own_S p e below ST T621 (mkF m 61 #[rv o1, iv od, rv b557, iv q2, iv (2 : Int32), iv s4] [(.int (s2 / (2 : Int32))), (.int (2 : Int32)), (.ref b557)]) := fun tt kt => go630 tt (by
      refine XS.iconst X621.here hx rfl (hb hby d1_59) ?_
      refine XS.idiv X621.here hx rfl (hb hby d1_60) rfl (by decide) ?_
      exact kt)
  obtain ⟨cl632, Ar632, q632, S632, M632, H632, G632⟩ := id c621_0
  have hin632 : ¬ ((2 : Int32) < 0 ∨ cl632.slots.size ≤ ((2 : Int32)).toNatClampNeg) := inb_of S632 ⟨by decide, by decide⟩
  obtain ⟨T632, h632, X632, e632, W632, st632⟩ := stI X621 hx hZ e621 Ar632 (j := (2 : Int32)) hin632 (g := (mkF m 61 #[rv o1, iv od, rv b557, iv q2, iv (2 : Int32), iv s4] [(.int (s2 / (2 : Int32))), (.int (2 : Int32)), (.ref b557)])) rfl rfl (hb hby d1_61)
  have V632 : Arv Z h632 b557 k557 .int (5 : Int32) [(.int e0), (.int e1), (.int (s2 / (2 : Int32))), (.int (0 : Int32)), (.int (0 : Int32))] (.int (0 : Int32)) := Arv.set Ar632 q632 S632 M632 H632 G632 rfl W632 2 rfl (Nat.le_of_ble_eq_true rfl)
  have N632 := Fr.snoc X632 N621 ge_b557
  have KC632 : Keep h0 h632 [] := KC621.wr W632 (Or.inr sz_b557)
  have go633 : own_S p e below ST T632 (mkF m 62 #[rv o1, iv od, rv b557, iv q2, iv (2 : Int32), iv s4] []) := fun tt kt => go631 tt (st632 _ kt)
  have go634 : own_S p e below ST T632 (mkF m 65 #[rv o1, iv od, rv b557, iv q2, iv (2 : Int32), iv s4] [(.int (2 : Int32)), (.ref o1)]) := fun tt kt => go633 tt (by
      refine XS.aloadN X632.here hx rfl (hb hby d1_62) rfl rfl ?_
      refine XS.iload X632.here hx rfl (hb hby d1_63) rfl ?_
      exact kt)
  have f636 := (f626.other W632 neo1_b557)
  obtain ⟨cl635, Ar635, q635, S635, M635, H635, G635⟩ := id f636
  have hin635 : ¬ ((2 : Int32) < 0 ∨ cl635.slots.size ≤ ((2 : Int32)).toNatClampNeg) := inb_of S635 ⟨by decide, by decide⟩
  have hat635 : cl635.slots[((2 : Int32)).toNatClampNeg]? = some (.int s2) := H635.at hin635 rfl
  have go637 : own_S p e below ST T632 (mkF m 66 #[rv o1, iv od, rv b557, iv q2, iv (2 : Int32), iv s4] [(.int s2)]) := fun tt kt => go634 tt (by
      refine X632.iaload hx (j := (2 : Int32)) (v := (.int s2)) (by rw [e632]; exact Ar635.1) (State.isArrayOf_alike hZ.alike Ar635.2.1) Ar635.2.2 hin635 hat635 (g := (mkF m 65 #[rv o1, iv od, rv b557, iv q2, iv (2 : Int32), iv s4] [(.int (2 : Int32)), (.ref o1)])) rfl rfl (hb hby d1_65) _ ?_
      exact kt)
  have go638 : own_S p e below ST T632 (mkF m 68 #[rv o1, iv od, rv b557, iv q2, iv (2 : Int32), iv s4] [(.int (s2 % (2 : Int32)))]) := fun tt kt => go637 tt (by
      refine XS.iconst X632.here hx rfl (hb hby d1_66) ?_
      refine iremM (g := (mkF m 67 #[rv o1, iv od, rv b557, iv q2, iv (2 : Int32), iv s4] [(.int (2 : Int32)), (.int s2)])) X632 hx rfl (hb hby d1_67) rfl (by decide) ?_
      exact kt)
  have zs639 := (Nat.le_trans (Nat.le_trans zs607 K621.1) (Keep.of_wr W632).1)
  obtain ⟨T653, h653, L653, q3, e2, X653, e653, N653, K653, c653_0, hq3, he2, sg653⟩ : ∃ (T653 : State) (h653 : Heap) (L653 : List Loc) (q3 : Int32) (e2 : Int32), Stand p l e ({ frames := 0, cells := 1, slots := 5, locals := 0 } : Room) s m #[(.ref o1)] below meth c T653 L653 (0 + 1) (0 + 5) ∧ T653.heap = h653 ∧ Fr n0 L653 ∧ Keep h632 h653 [b557] ∧ Arv Z h653 b557 k557 .int (5 : Int32) [(.int e0), (.int e1), (.int e2), (.int (0 : Int32)), (.int (0 : Int32))] (.int (0 : Int32)) ∧ q3 = (if (s2 % (2 : Int32)) = (0 : Int32) then q2 else (if q2 < (od / (2 : Int32)) then (q2 + (1 : Int32)) else (q2 + (1 : Int32)))) ∧ e2 = (if (s2 % (2 : Int32)) = (0 : Int32) then (s2 / (2 : Int32)) else (if q2 < (od / (2 : Int32)) then ((s2 / (2 : Int32)) + (1 : Int32)) else (s2 / (2 : Int32)))) ∧ ∀ tt, Steps p.tables e below (T653.setTop (mkF m 89 #[rv o1, iv od, rv b557, iv q3, iv (2 : Int32), iv s4] [])) tt → Steps p.tables e below (T632.setTop (mkF m 68 #[rv o1, iv od, rv b557, iv q2, iv (2 : Int32), iv s4] [(.int (s2 % (2 : Int32)))])) tt := by
    by_cases hj68_0 : (s2 % (2 : Int32)) = (0 : Int32)
    · have go640 : own_S p e below (T632.setTop (mkF m 68 #[rv o1, iv od, rv b557, iv q2, iv (2 : Int32), iv s4] [(.int (s2 % (2 : Int32)))])) T632 (mkF m 89 #[rv o1, iv od, rv b557, iv q2, iv (2 : Int32), iv s4] []) := fun tt kt => (fun (tt : State) (kt : Steps p.tables e below (T632.setTop (mkF m 68 #[rv o1, iv od, rv b557, iv q2, iv (2 : Int32), iv s4] [(.int (s2 % (2 : Int32)))])) tt) => kt) tt (by
          refine XS.ifYes X632.here hx rfl (pc0 := 68) (pc' := 89) rfl (hb hby d1_68) rfl ((if0 _ _).trans (teq hj68_0).1) (by decide) (by decide) ?_
          exact kt)
      exact ⟨T632, h632, _, q2, (s2 / (2 : Int32)), X632, e632, N632, (Keep.refl h632 [b557]), V632, (if_pos hj68_0).symm, (if_pos hj68_0).symm, go640⟩
    · have go641 : own_S p e below (T632.setTop (mkF m 68 #[rv o1, iv od, rv b557, iv q2, iv (2 : Int32), iv s4] [(.int (s2 % (2 : Int32)))])) T632 (mkF m 71 #[rv o1, iv od, rv b557, iv q2, iv (2 : Int32), iv s4] []) := fun tt kt => (fun (tt : State) (kt : Steps p.tables e below (T632.setTop (mkF m 68 #[rv o1, iv od, rv b557, iv q2, iv (2 : Int32), iv s4] [(.int (s2 % (2 : Int32)))])) tt) => kt) tt (by
          refine XS.ifNo X632.here hx rfl (hb hby d1_68) rfl ((if0 _ _).trans (feq hj68_0).1) ?_
          exact kt)
      have go642 : own_S p e below (T632.setTop (mkF m 68 #[rv o1, iv od, rv b557, iv q2, iv (2 : Int32), iv s4] [(.int (s2 % (2 : Int32)))])) T632 (mkF m 75 #[rv o1, iv od, rv b557, iv q2, iv (2 : Int32), iv s4] [(.int (od / (2 : Int32))), (.int q2)]) := fun tt kt => go641 tt (by
          refine XS.iloadN X632.here hx rfl (hb hby d1_71) rfl ?_
          refine XS.iloadN X632.here hx rfl (hb hby d1_72) rfl ?_
          refine XS.iconst X632.here hx rfl (hb hby d1_73) ?_
          refine XS.idiv X632.here hx rfl (hb hby d1_74) rfl (by decide) ?_
          exact kt)
      by_cases hj75_1 : q2 < (od / (2 : Int32))
      · have go643 : own_S p e below (T632.setTop (mkF m 68 #[rv o1, iv od, rv b557, iv q2, iv (2 : Int32), iv s4] [(.int (s2 % (2 : Int32)))])) T632 (mkF m 78 #[rv o1, iv od, rv b557, iv q2, iv (2 : Int32), iv s4] []) := fun tt kt => go642 tt (by
            refine XS.icmpNo X632.here hx rfl (hb hby d1_75) rfl (tlt hj75_1).2.1 ?_
            exact kt)
        have go644 : own_S p e below (T632.setTop (mkF m 68 #[rv o1, iv od, rv b557, iv q2, iv (2 : Int32), iv s4] [(.int (s2 % (2 : Int32)))])) T632 (mkF m 82 #[rv o1, iv od, rv b557, iv q2, iv (2 : Int32), iv s4] [(.int (2 : Int32)), (.ref b557), (.int (2 : Int32)), (.ref b557)]) := fun tt kt => go643 tt (by
            refine XS.aloadN X632.here hx rfl (hb hby d1_78) rfl rfl ?_
            refine XS.iload X632.here hx rfl (hb hby d1_79) rfl ?_
            refine XT.dup2 X632.here hx rfl (hb hby d1_81) rfl rfl rfl ?_
            exact kt)
        obtain ⟨cl645, Ar645, q645, S645, M645, H645, G645⟩ := id V632
        have hin645 : ¬ ((2 : Int32) < 0 ∨ cl645.slots.size ≤ ((2 : Int32)).toNatClampNeg) := inb_of S645 ⟨by decide, by decide⟩
        have hat645 : cl645.slots[((2 : Int32)).toNatClampNeg]? = some (.int (s2 / (2 : Int32))) := H645.at hin645 rfl
        have go646 : own_S p e below (T632.setTop (mkF m 68 #[rv o1, iv od, rv b557, iv q2, iv (2 : Int32), iv s4] [(.int (s2 % (2 : Int32)))])) T632 (mkF m 83 #[rv o1, iv od, rv b557, iv q2, iv (2 : Int32), iv s4] [(.int (s2 / (2 : Int32))), (.int (2 : Int32)), (.ref b557)]) := fun tt kt => go644 tt (by
            refine X632.iaload hx (j := (2 : Int32)) (v := (.int (s2 / (2 : Int32)))) (by rw [e632]; exact Ar645.1) (State.isArrayOf_alike hZ.alike Ar645.2.1) Ar645.2.2 hin645 hat645 (g := (mkF m 82 #[rv o1, iv od, rv b557, iv q2, iv (2 : Int32), iv s4] [(.int (2 : Int32)), (.ref b557), (.int (2 : Int32)), (.ref b557)])) rfl rfl (hb hby d1_82) _ ?_
            exact kt)
        have go647 : own_S p e below (T632.setTop (mkF m 68 #[rv o1, iv od, rv b557, iv q2, iv (2 : Int32), iv s4] [(.int (s2 % (2 : Int32)))])) T632 (mkF m 85 #[rv o1, iv od, rv b557, iv q2, iv (2 : Int32), iv s4] [(.int ((s2 / (2 : Int32)) + (1 : Int32))), (.int (2 : Int32)), (.ref b557)]) := fun tt kt => go646 tt (by
            refine XS.iconst X632.here hx rfl (hb hby d1_83) ?_
            refine XS.iadd X632.here hx rfl (hb hby d1_84) rfl ?_
            exact kt)
        obtain ⟨cl648, Ar648, q648, S648, M648, H648, G648⟩ := id V632
        have hin648 : ¬ ((2 : Int32) < 0 ∨ cl648.slots.size ≤ ((2 : Int32)).toNatClampNeg) := inb_of S648 ⟨by decide, by decide⟩
        obtain ⟨T648, h648, X648, e648, W648, st648⟩ := stI X632 hx hZ e632 Ar648 (j := (2 : Int32)) hin648 (g := (mkF m 85 #[rv o1, iv od, rv b557, iv q2, iv (2 : Int32), iv s4] [(.int ((s2 / (2 : Int32)) + (1 : Int32))), (.int (2 : Int32)), (.ref b557)])) rfl rfl (hb hby d1_85)
        have V648 : Arv Z h648 b557 k557 .int (5 : Int32) [(.int e0), (.int e1), (.int ((s2 / (2 : Int32)) + (1 : Int32))), (.int (0 : Int32)), (.int (0 : Int32))] (.int (0 : Int32)) := Arv.set Ar648 q648 S648 M648 H648 G648 rfl W648 2 rfl (Nat.le_of_ble_eq_true rfl)
        have N648 := Fr.snoc X648 N632 ge_b557
        have kj648 : Keep h632 h648 [b557] := (Keep.refl h632 [b557]).wr W648 (Or.inl (List.mem_of_getElem? (i := 0) rfl))
        have KC648 : Keep h0 h648 [] := KC632.wr W648 (Or.inr sz_b557)
        have go649 : own_S p e below (T632.setTop (mkF m 68 #[rv o1, iv od, rv b557, iv q2, iv (2 : Int32), iv s4] [(.int (s2 % (2 : Int32)))])) T648 (mkF m 86 #[rv o1, iv od, rv b557, iv q2, iv (2 : Int32), iv s4] []) := fun tt kt => go647 tt (st648 _ kt)
        have go650 : own_S p e below (T632.setTop (mkF m 68 #[rv o1, iv od, rv b557, iv q2, iv (2 : Int32), iv s4] [(.int (s2 % (2 : Int32)))])) T648 (mkF m 89 #[rv o1, iv od, rv b557, iv (q2 + (1 : Int32)), iv (2 : Int32), iv s4] []) := fun tt kt => go649 tt (by
            refine XS.iinc X648.here hx rfl (hb hby d1_86) rfl (l' := #[rv o1, iv od, rv b557, iv (q2 + (1 : Int32)), iv (2 : Int32), iv s4]) rfl ?_
            exact kt)
        exact ⟨T648, h648, _, (q2 + (1 : Int32)), ((s2 / (2 : Int32)) + (1 : Int32)), X648, e648, N648, kj648, V648, ((if_neg hj68_0).trans (if_pos hj75_1)).symm, ((if_neg hj68_0).trans (if_pos hj75_1)).symm, go650⟩
      · have go651 : own_S p e below (T632.setTop (mkF m 68 #[rv o1, iv od, rv b557, iv q2, iv (2 : Int32), iv s4] [(.int (s2 % (2 : Int32)))])) T632 (mkF m 86 #[rv o1, iv od, rv b557, iv q2, iv (2 : Int32), iv s4] []) := fun tt kt => go642 tt (by
            refine XS.icmpYes X632.here hx rfl (pc0 := 75) (pc' := 86) rfl (hb hby d1_75) rfl (flt hj75_1).2.1 (by decide) (by decide) ?_
            exact kt)
        have go652 : own_S p e below (T632.setTop (mkF m 68 #[rv o1, iv od, rv b557, iv q2, iv (2 : Int32), iv s4] [(.int (s2 % (2 : Int32)))])) T632 (mkF m 89 #[rv o1, iv od, rv b557, iv (q2 + (1 : Int32)), iv (2 : Int32), iv s4] []) := fun tt kt => go651 tt (by
            refine XS.iinc X632.here hx rfl (hb hby d1_86) rfl (l' := #[rv o1, iv od, rv b557, iv (q2 + (1 : Int32)), iv (2 : Int32), iv s4]) rfl ?_
            exact kt)
        exact ⟨T632, h632, _, (q2 + (1 : Int32)), (s2 / (2 : Int32)), X632, e632, N632, (Keep.refl h632 [b557]), V632, ((if_neg hj68_0).trans (if_neg hj75_1)).symm, ((if_neg hj68_0).trans (if_neg hj75_1)).symm, go652⟩
  have KC653 : Keep h0 h653 [] := KC632.trans K653 (allS (Or.inr sz_b557) all0)
  have go654 : own_S p e below ST T653 (mkF m 89 #[rv o1, iv od, rv b557, iv q3, iv (2 : Int32), iv s4] []) := fun tt kt => go638 tt (sg653 _ kt)
  have go655 : own_S p e below ST T653 (mkF m 45 #[rv o1, iv od, rv b557, iv q3, iv (3 : Int32), iv s4] []) := fun tt kt => go654 tt (by
      refine XS.iinc X653.here hx rfl (hb hby d1_89) rfl (l' := #[rv o1, iv od, rv b557, iv q3, iv (3 : Int32), iv s4]) rfl ?_
      refine XS.goto X653.here hx rfl (pc0 := 92) (pc' := 45) rfl (hb hby d1_92) (by decide) (by decide) ?_
      exact kt)
  have go656 : own_S p e below ST T653 (mkF m 48 #[rv o1, iv od, rv b557, iv q3, iv (3 : Int32), iv s4] [(.ref o1), (.int (3 : Int32))]) := fun tt kt => go655 tt (by
      refine XS.iload X653.here hx rfl (hb hby d1_45) rfl ?_
      refine XS.aloadN X653.here hx rfl (hb hby d1_47) rfl rfl ?_
      exact kt)
  have f658 := (f636.keep K653 (ninS neo1_b557 nin0))
  obtain ⟨cl657, Ar657, q657, S657, M657, H657, G657⟩ := id f658
  have go659 : own_S p e below ST T653 (mkF m 49 #[rv o1, iv od, rv b557, iv q3, iv (3 : Int32), iv s4] [(.int (5 : Int32)), (.int (3 : Int32))]) := fun tt kt => go656 tt (by
      refine X653.arraylength hx (by rw [e653]; exact Ar657.1) (State.isArrayOf_alike hZ.alike Ar657.2.1) (g := (mkF m 48 #[rv o1, iv od, rv b557, iv q3, iv (3 : Int32), iv s4] [(.ref o1), (.int (3 : Int32))])) rfl rfl (hb hby d1_48) _ ?_
      rw [len_of S657 M657]
      exact kt)
  have go660 : own_S p e below ST T653 (mkF m 58 #[rv o1, iv od, rv b557, iv q3, iv (3 : Int32), iv s4] [(.int (3 : Int32)), (.ref o1), (.int (3 : Int32)), (.ref b557)]) := fun tt kt => go659 tt (by
      refine XS.icmpNo X653.here hx rfl (hb hby d1_49) rfl (tlt (by decide : (3 : Int32) < (5 : Int32))).2.1 ?_
      refine XS.aloadN X653.here hx rfl (hb hby d1_52) rfl rfl ?_
      refine XS.iload X653.here hx rfl (hb hby d1_53) rfl ?_
      refine XS.aloadN X653.here hx rfl (hb hby d1_55) rfl rfl ?_
      refine XS.iload X653.here hx rfl (hb hby d1_56) rfl ?_
      exact kt)
  obtain ⟨cl661, Ar661, q661, S661, M661, H661, G661⟩ := id f658
  have hin661 : ¬ ((3 : Int32) < 0 ∨ cl661.slots.size ≤ ((3 : Int32)).toNatClampNeg) := inb_of S661 ⟨by decide, by decide⟩
  have hat661 : cl661.slots[((3 : Int32)).toNatClampNeg]? = some (.int s3) := H661.at hin661 rfl
  have go662 : own_S p e below ST T653 (mkF m 59 #[rv o1, iv od, rv b557, iv q3, iv (3 : Int32), iv s4] [(.int s3), (.int (3 : Int32)), (.ref b557)]) := fun tt kt => go660 tt (by
      refine X653.iaload hx (j := (3 : Int32)) (v := (.int s3)) (by rw [e653]; exact Ar661.1) (State.isArrayOf_alike hZ.alike Ar661.2.1) Ar661.2.2 hin661 hat661 (g := (mkF m 58 #[rv o1, iv od, rv b557, iv q3, iv (3 : Int32), iv s4] [(.int (3 : Int32)), (.ref o1), (.int (3 : Int32)), (.ref b557)])) rfl rfl (hb hby d1_58) _ ?_
      exact kt)
  have go663 : own_S p e below ST T653 (mkF m 61 #[rv o1, iv od, rv b557, iv q3, iv (3 : Int32), iv s4] [(.int (s3 / (2 : Int32))), (.int (3 : Int32)), (.ref b557)]) := fun tt kt => go662 tt (by
      refine XS.iconst X653.here hx rfl (hb hby d1_59) ?_
      refine XS.idiv X653.here hx rfl (hb hby d1_60) rfl (by decide) ?_
      exact kt)
  obtain ⟨cl664, Ar664, q664, S664, M664, H664, G664⟩ := id c653_0
  have hin664 : ¬ ((3 : Int32) < 0 ∨ cl664.slots.size ≤ ((3 : Int32)).toNatClampNeg) := inb_of S664 ⟨by decide, by decide⟩
  obtain ⟨T664, h664, X664, e664, W664, st664⟩ := stI X653 hx hZ e653 Ar664 (j := (3 : Int32)) hin664 (g := (mkF m 61 #[rv o1, iv od, rv b557, iv q3, iv (3 : Int32), iv s4] [(.int (s3 / (2 : Int32))), (.int (3 : Int32)), (.ref b557)])) rfl rfl (hb hby d1_61)
  have V664 : Arv Z h664 b557 k557 .int (5 : Int32) [(.int e0), (.int e1), (.int e2), (.int (s3 / (2 : Int32))), (.int (0 : Int32))] (.int (0 : Int32)) := Arv.set Ar664 q664 S664 M664 H664 G664 rfl W664 3 rfl (Nat.le_of_ble_eq_true rfl)
  have N664 := Fr.snoc X664 N653 ge_b557
  have KC664 : Keep h0 h664 [] := KC653.wr W664 (Or.inr sz_b557)
  have go665 : own_S p e below ST T664 (mkF m 62 #[rv o1, iv od, rv b557, iv q3, iv (3 : Int32), iv s4] []) := fun tt kt => go663 tt (st664 _ kt)
  have go666 : own_S p e below ST T664 (mkF m 65 #[rv o1, iv od, rv b557, iv q3, iv (3 : Int32), iv s4] [(.int (3 : Int32)), (.ref o1)]) := fun tt kt => go665 tt (by
      refine XS.aloadN X664.here hx rfl (hb hby d1_62) rfl rfl ?_
      refine XS.iload X664.here hx rfl (hb hby d1_63) rfl ?_
      exact kt)
  have f668 := (f658.other W664 neo1_b557)
  obtain ⟨cl667, Ar667, q667, S667, M667, H667, G667⟩ := id f668
  have hin667 : ¬ ((3 : Int32) < 0 ∨ cl667.slots.size ≤ ((3 : Int32)).toNatClampNeg) := inb_of S667 ⟨by decide, by decide⟩
  have hat667 : cl667.slots[((3 : Int32)).toNatClampNeg]? = some (.int s3) := H667.at hin667 rfl
  have go669 : own_S p e below ST T664 (mkF m 66 #[rv o1, iv od, rv b557, iv q3, iv (3 : Int32), iv s4] [(.int s3)]) := fun tt kt => go666 tt (by
      refine X664.iaload hx (j := (3 : Int32)) (v := (.int s3)) (by rw [e664]; exact Ar667.1) (State.isArrayOf_alike hZ.alike Ar667.2.1) Ar667.2.2 hin667 hat667 (g := (mkF m 65 #[rv o1, iv od, rv b557, iv q3, iv (3 : Int32), iv s4] [(.int (3 : Int32)), (.ref o1)])) rfl rfl (hb hby d1_65) _ ?_
      exact kt)
  have go670 : own_S p e below ST T664 (mkF m 68 #[rv o1, iv od, rv b557, iv q3, iv (3 : Int32), iv s4] [(.int (s3 % (2 : Int32)))]) := fun tt kt => go669 tt (by
      refine XS.iconst X664.here hx rfl (hb hby d1_66) ?_
      refine iremM (g := (mkF m 67 #[rv o1, iv od, rv b557, iv q3, iv (3 : Int32), iv s4] [(.int (2 : Int32)), (.int s3)])) X664 hx rfl (hb hby d1_67) rfl (by decide) ?_
      exact kt)
  have zs671 := (Nat.le_trans (Nat.le_trans zs639 K653.1) (Keep.of_wr W664).1)
  obtain ⟨T685, h685, L685, q4, e3, X685, e685, N685, K685, c685_0, hq4, he3, sg685⟩ : ∃ (T685 : State) (h685 : Heap) (L685 : List Loc) (q4 : Int32) (e3 : Int32), Stand p l e ({ frames := 0, cells := 1, slots := 5, locals := 0 } : Room) s m #[(.ref o1)] below meth c T685 L685 (0 + 1) (0 + 5) ∧ T685.heap = h685 ∧ Fr n0 L685 ∧ Keep h664 h685 [b557] ∧ Arv Z h685 b557 k557 .int (5 : Int32) [(.int e0), (.int e1), (.int e2), (.int e3), (.int (0 : Int32))] (.int (0 : Int32)) ∧ q4 = (if (s3 % (2 : Int32)) = (0 : Int32) then q3 else (if q3 < (od / (2 : Int32)) then (q3 + (1 : Int32)) else (q3 + (1 : Int32)))) ∧ e3 = (if (s3 % (2 : Int32)) = (0 : Int32) then (s3 / (2 : Int32)) else (if q3 < (od / (2 : Int32)) then ((s3 / (2 : Int32)) + (1 : Int32)) else (s3 / (2 : Int32)))) ∧ ∀ tt, Steps p.tables e below (T685.setTop (mkF m 89 #[rv o1, iv od, rv b557, iv q4, iv (3 : Int32), iv s4] [])) tt → Steps p.tables e below (T664.setTop (mkF m 68 #[rv o1, iv od, rv b557, iv q3, iv (3 : Int32), iv s4] [(.int (s3 % (2 : Int32)))])) tt := by
    by_cases hj68_0 : (s3 % (2 : Int32)) = (0 : Int32)
    · have go672 : own_S p e below (T664.setTop (mkF m 68 #[rv o1, iv od, rv b557, iv q3, iv (3 : Int32), iv s4] [(.int (s3 % (2 : Int32)))])) T664 (mkF m 89 #[rv o1, iv od, rv b557, iv q3, iv (3 : Int32), iv s4] []) := fun tt kt => (fun (tt : State) (kt : Steps p.tables e below (T664.setTop (mkF m 68 #[rv o1, iv od, rv b557, iv q3, iv (3 : Int32), iv s4] [(.int (s3 % (2 : Int32)))])) tt) => kt) tt (by
          refine XS.ifYes X664.here hx rfl (pc0 := 68) (pc' := 89) rfl (hb hby d1_68) rfl ((if0 _ _).trans (teq hj68_0).1) (by decide) (by decide) ?_
          exact kt)
      exact ⟨T664, h664, _, q3, (s3 / (2 : Int32)), X664, e664, N664, (Keep.refl h664 [b557]), V664, (if_pos hj68_0).symm, (if_pos hj68_0).symm, go672⟩
    · have go673 : own_S p e below (T664.setTop (mkF m 68 #[rv o1, iv od, rv b557, iv q3, iv (3 : Int32), iv s4] [(.int (s3 % (2 : Int32)))])) T664 (mkF m 71 #[rv o1, iv od, rv b557, iv q3, iv (3 : Int32), iv s4] []) := fun tt kt => (fun (tt : State) (kt : Steps p.tables e below (T664.setTop (mkF m 68 #[rv o1, iv od, rv b557, iv q3, iv (3 : Int32), iv s4] [(.int (s3 % (2 : Int32)))])) tt) => kt) tt (by
          refine XS.ifNo X664.here hx rfl (hb hby d1_68) rfl ((if0 _ _).trans (feq hj68_0).1) ?_
          exact kt)
      have go674 : own_S p e below (T664.setTop (mkF m 68 #[rv o1, iv od, rv b557, iv q3, iv (3 : Int32), iv s4] [(.int (s3 % (2 : Int32)))])) T664 (mkF m 75 #[rv o1, iv od, rv b557, iv q3, iv (3 : Int32), iv s4] [(.int (od / (2 : Int32))), (.int q3)]) := fun tt kt => go673 tt (by
          refine XS.iloadN X664.here hx rfl (hb hby d1_71) rfl ?_
          refine XS.iloadN X664.here hx rfl (hb hby d1_72) rfl ?_
          refine XS.iconst X664.here hx rfl (hb hby d1_73) ?_
          refine XS.idiv X664.here hx rfl (hb hby d1_74) rfl (by decide) ?_
          exact kt)
      by_cases hj75_1 : q3 < (od / (2 : Int32))
      · have go675 : own_S p e below (T664.setTop (mkF m 68 #[rv o1, iv od, rv b557, iv q3, iv (3 : Int32), iv s4] [(.int (s3 % (2 : Int32)))])) T664 (mkF m 78 #[rv o1, iv od, rv b557, iv q3, iv (3 : Int32), iv s4] []) := fun tt kt => go674 tt (by
            refine XS.icmpNo X664.here hx rfl (hb hby d1_75) rfl (tlt hj75_1).2.1 ?_
            exact kt)
        have go676 : own_S p e below (T664.setTop (mkF m 68 #[rv o1, iv od, rv b557, iv q3, iv (3 : Int32), iv s4] [(.int (s3 % (2 : Int32)))])) T664 (mkF m 82 #[rv o1, iv od, rv b557, iv q3, iv (3 : Int32), iv s4] [(.int (3 : Int32)), (.ref b557), (.int (3 : Int32)), (.ref b557)]) := fun tt kt => go675 tt (by
            refine XS.aloadN X664.here hx rfl (hb hby d1_78) rfl rfl ?_
            refine XS.iload X664.here hx rfl (hb hby d1_79) rfl ?_
            refine XT.dup2 X664.here hx rfl (hb hby d1_81) rfl rfl rfl ?_
            exact kt)
        obtain ⟨cl677, Ar677, q677, S677, M677, H677, G677⟩ := id V664
        have hin677 : ¬ ((3 : Int32) < 0 ∨ cl677.slots.size ≤ ((3 : Int32)).toNatClampNeg) := inb_of S677 ⟨by decide, by decide⟩
        have hat677 : cl677.slots[((3 : Int32)).toNatClampNeg]? = some (.int (s3 / (2 : Int32))) := H677.at hin677 rfl
        have go678 : own_S p e below (T664.setTop (mkF m 68 #[rv o1, iv od, rv b557, iv q3, iv (3 : Int32), iv s4] [(.int (s3 % (2 : Int32)))])) T664 (mkF m 83 #[rv o1, iv od, rv b557, iv q3, iv (3 : Int32), iv s4] [(.int (s3 / (2 : Int32))), (.int (3 : Int32)), (.ref b557)]) := fun tt kt => go676 tt (by
            refine X664.iaload hx (j := (3 : Int32)) (v := (.int (s3 / (2 : Int32)))) (by rw [e664]; exact Ar677.1) (State.isArrayOf_alike hZ.alike Ar677.2.1) Ar677.2.2 hin677 hat677 (g := (mkF m 82 #[rv o1, iv od, rv b557, iv q3, iv (3 : Int32), iv s4] [(.int (3 : Int32)), (.ref b557), (.int (3 : Int32)), (.ref b557)])) rfl rfl (hb hby d1_82) _ ?_
            exact kt)
        have go679 : own_S p e below (T664.setTop (mkF m 68 #[rv o1, iv od, rv b557, iv q3, iv (3 : Int32), iv s4] [(.int (s3 % (2 : Int32)))])) T664 (mkF m 85 #[rv o1, iv od, rv b557, iv q3, iv (3 : Int32), iv s4] [(.int ((s3 / (2 : Int32)) + (1 : Int32))), (.int (3 : Int32)), (.ref b557)]) := fun tt kt => go678 tt (by
            refine XS.iconst X664.here hx rfl (hb hby d1_83) ?_
            refine XS.iadd X664.here hx rfl (hb hby d1_84) rfl ?_
            exact kt)
        obtain ⟨cl680, Ar680, q680, S680, M680, H680, G680⟩ := id V664
        have hin680 : ¬ ((3 : Int32) < 0 ∨ cl680.slots.size ≤ ((3 : Int32)).toNatClampNeg) := inb_of S680 ⟨by decide, by decide⟩
        obtain ⟨T680, h680, X680, e680, W680, st680⟩ := stI X664 hx hZ e664 Ar680 (j := (3 : Int32)) hin680 (g := (mkF m 85 #[rv o1, iv od, rv b557, iv q3, iv (3 : Int32), iv s4] [(.int ((s3 / (2 : Int32)) + (1 : Int32))), (.int (3 : Int32)), (.ref b557)])) rfl rfl (hb hby d1_85)
        have V680 : Arv Z h680 b557 k557 .int (5 : Int32) [(.int e0), (.int e1), (.int e2), (.int ((s3 / (2 : Int32)) + (1 : Int32))), (.int (0 : Int32))] (.int (0 : Int32)) := Arv.set Ar680 q680 S680 M680 H680 G680 rfl W680 3 rfl (Nat.le_of_ble_eq_true rfl)
        have N680 := Fr.snoc X680 N664 ge_b557
        have kj680 : Keep h664 h680 [b557] := (Keep.refl h664 [b557]).wr W680 (Or.inl (List.mem_of_getElem? (i := 0) rfl))
        have KC680 : Keep h0 h680 [] := KC664.wr W680 (Or.inr sz_b557)
        have go681 : own_S p e below (T664.setTop (mkF m 68 #[rv o1, iv od, rv b557, iv q3, iv (3 : Int32), iv s4] [(.int (s3 % (2 : Int32)))])) T680 (mkF m 86 #[rv o1, iv od, rv b557, iv q3, iv (3 : Int32), iv s4] []) := fun tt kt => go679 tt (st680 _ kt)
        have go682 : own_S p e below (T664.setTop (mkF m 68 #[rv o1, iv od, rv b557, iv q3, iv (3 : Int32), iv s4] [(.int (s3 % (2 : Int32)))])) T680 (mkF m 89 #[rv o1, iv od, rv b557, iv (q3 + (1 : Int32)), iv (3 : Int32), iv s4] []) := fun tt kt => go681 tt (by
            refine XS.iinc X680.here hx rfl (hb hby d1_86) rfl (l' := #[rv o1, iv od, rv b557, iv (q3 + (1 : Int32)), iv (3 : Int32), iv s4]) rfl ?_
            exact kt)
        exact ⟨T680, h680, _, (q3 + (1 : Int32)), ((s3 / (2 : Int32)) + (1 : Int32)), X680, e680, N680, kj680, V680, ((if_neg hj68_0).trans (if_pos hj75_1)).symm, ((if_neg hj68_0).trans (if_pos hj75_1)).symm, go682⟩
      · have go683 : own_S p e below (T664.setTop (mkF m 68 #[rv o1, iv od, rv b557, iv q3, iv (3 : Int32), iv s4] [(.int (s3 % (2 : Int32)))])) T664 (mkF m 86 #[rv o1, iv od, rv b557, iv q3, iv (3 : Int32), iv s4] []) := fun tt kt => go674 tt (by
            refine XS.icmpYes X664.here hx rfl (pc0 := 75) (pc' := 86) rfl (hb hby d1_75) rfl (flt hj75_1).2.1 (by decide) (by decide) ?_
            exact kt)
        have go684 : own_S p e below (T664.setTop (mkF m 68 #[rv o1, iv od, rv b557, iv q3, iv (3 : Int32), iv s4] [(.int (s3 % (2 : Int32)))])) T664 (mkF m 89 #[rv o1, iv od, rv b557, iv (q3 + (1 : Int32)), iv (3 : Int32), iv s4] []) := fun tt kt => go683 tt (by
            refine XS.iinc X664.here hx rfl (hb hby d1_86) rfl (l' := #[rv o1, iv od, rv b557, iv (q3 + (1 : Int32)), iv (3 : Int32), iv s4]) rfl ?_
            exact kt)
        exact ⟨T664, h664, _, (q3 + (1 : Int32)), (s3 / (2 : Int32)), X664, e664, N664, (Keep.refl h664 [b557]), V664, ((if_neg hj68_0).trans (if_neg hj75_1)).symm, ((if_neg hj68_0).trans (if_neg hj75_1)).symm, go684⟩
  have KC685 : Keep h0 h685 [] := KC664.trans K685 (allS (Or.inr sz_b557) all0)
  have go686 : own_S p e below ST T685 (mkF m 89 #[rv o1, iv od, rv b557, iv q4, iv (3 : Int32), iv s4] []) := fun tt kt => go670 tt (sg685 _ kt)
  have go687 : own_S p e below ST T685 (mkF m 45 #[rv o1, iv od, rv b557, iv q4, iv (4 : Int32), iv s4] []) := fun tt kt => go686 tt (by
      refine XS.iinc X685.here hx rfl (hb hby d1_89) rfl (l' := #[rv o1, iv od, rv b557, iv q4, iv (4 : Int32), iv s4]) rfl ?_
      refine XS.goto X685.here hx rfl (pc0 := 92) (pc' := 45) rfl (hb hby d1_92) (by decide) (by decide) ?_
      exact kt)
  have go688 : own_S p e below ST T685 (mkF m 48 #[rv o1, iv od, rv b557, iv q4, iv (4 : Int32), iv s4] [(.ref o1), (.int (4 : Int32))]) := fun tt kt => go687 tt (by
      refine XS.iload X685.here hx rfl (hb hby d1_45) rfl ?_
      refine XS.aloadN X685.here hx rfl (hb hby d1_47) rfl rfl ?_
      exact kt)
  have f690 := (f668.keep K685 (ninS neo1_b557 nin0))
  obtain ⟨cl689, Ar689, q689, S689, M689, H689, G689⟩ := id f690
  have go691 : own_S p e below ST T685 (mkF m 49 #[rv o1, iv od, rv b557, iv q4, iv (4 : Int32), iv s4] [(.int (5 : Int32)), (.int (4 : Int32))]) := fun tt kt => go688 tt (by
      refine X685.arraylength hx (by rw [e685]; exact Ar689.1) (State.isArrayOf_alike hZ.alike Ar689.2.1) (g := (mkF m 48 #[rv o1, iv od, rv b557, iv q4, iv (4 : Int32), iv s4] [(.ref o1), (.int (4 : Int32))])) rfl rfl (hb hby d1_48) _ ?_
      rw [len_of S689 M689]
      exact kt)
  have go692 : own_S p e below ST T685 (mkF m 58 #[rv o1, iv od, rv b557, iv q4, iv (4 : Int32), iv s4] [(.int (4 : Int32)), (.ref o1), (.int (4 : Int32)), (.ref b557)]) := fun tt kt => go691 tt (by
      refine XS.icmpNo X685.here hx rfl (hb hby d1_49) rfl (tlt (by decide : (4 : Int32) < (5 : Int32))).2.1 ?_
      refine XS.aloadN X685.here hx rfl (hb hby d1_52) rfl rfl ?_
      refine XS.iload X685.here hx rfl (hb hby d1_53) rfl ?_
      refine XS.aloadN X685.here hx rfl (hb hby d1_55) rfl rfl ?_
      refine XS.iload X685.here hx rfl (hb hby d1_56) rfl ?_
      exact kt)
  obtain ⟨cl693, Ar693, q693, S693, M693, H693, G693⟩ := id f690
  have hin693 : ¬ ((4 : Int32) < 0 ∨ cl693.slots.size ≤ ((4 : Int32)).toNatClampNeg) := inb_of S693 ⟨by decide, by decide⟩
  have hat693 : cl693.slots[((4 : Int32)).toNatClampNeg]? = some (.int s4) := H693.at hin693 rfl
  have go694 : own_S p e below ST T685 (mkF m 59 #[rv o1, iv od, rv b557, iv q4, iv (4 : Int32), iv s4] [(.int s4), (.int (4 : Int32)), (.ref b557)]) := fun tt kt => go692 tt (by
      refine X685.iaload hx (j := (4 : Int32)) (v := (.int s4)) (by rw [e685]; exact Ar693.1) (State.isArrayOf_alike hZ.alike Ar693.2.1) Ar693.2.2 hin693 hat693 (g := (mkF m 58 #[rv o1, iv od, rv b557, iv q4, iv (4 : Int32), iv s4] [(.int (4 : Int32)), (.ref o1), (.int (4 : Int32)), (.ref b557)])) rfl rfl (hb hby d1_58) _ ?_
      exact kt)
  have go695 : own_S p e below ST T685 (mkF m 61 #[rv o1, iv od, rv b557, iv q4, iv (4 : Int32), iv s4] [(.int (s4 / (2 : Int32))), (.int (4 : Int32)), (.ref b557)]) := fun tt kt => go694 tt (by
      refine XS.iconst X685.here hx rfl (hb hby d1_59) ?_
      refine XS.idiv X685.here hx rfl (hb hby d1_60) rfl (by decide) ?_
      exact kt)
  obtain ⟨cl696, Ar696, q696, S696, M696, H696, G696⟩ := id c685_0
  have hin696 : ¬ ((4 : Int32) < 0 ∨ cl696.slots.size ≤ ((4 : Int32)).toNatClampNeg) := inb_of S696 ⟨by decide, by decide⟩
  obtain ⟨T696, h696, X696, e696, W696, st696⟩ := stI X685 hx hZ e685 Ar696 (j := (4 : Int32)) hin696 (g := (mkF m 61 #[rv o1, iv od, rv b557, iv q4, iv (4 : Int32), iv s4] [(.int (s4 / (2 : Int32))), (.int (4 : Int32)), (.ref b557)])) rfl rfl (hb hby d1_61)
  have V696 : Arv Z h696 b557 k557 .int (5 : Int32) [(.int e0), (.int e1), (.int e2), (.int e3), (.int (s4 / (2 : Int32)))] (.int (0 : Int32)) := Arv.set Ar696 q696 S696 M696 H696 G696 rfl W696 4 rfl (Nat.le_of_ble_eq_true rfl)
  have N696 := Fr.snoc X696 N685 ge_b557
  have KC696 : Keep h0 h696 [] := KC685.wr W696 (Or.inr sz_b557)
  have go697 : own_S p e below ST T696 (mkF m 62 #[rv o1, iv od, rv b557, iv q4, iv (4 : Int32), iv s4] []) := fun tt kt => go695 tt (st696 _ kt)
  have go698 : own_S p e below ST T696 (mkF m 65 #[rv o1, iv od, rv b557, iv q4, iv (4 : Int32), iv s4] [(.int (4 : Int32)), (.ref o1)]) := fun tt kt => go697 tt (by
      refine XS.aloadN X696.here hx rfl (hb hby d1_62) rfl rfl ?_
      refine XS.iload X696.here hx rfl (hb hby d1_63) rfl ?_
      exact kt)
  have f700 := (f690.other W696 neo1_b557)
  obtain ⟨cl699, Ar699, q699, S699, M699, H699, G699⟩ := id f700
  have hin699 : ¬ ((4 : Int32) < 0 ∨ cl699.slots.size ≤ ((4 : Int32)).toNatClampNeg) := inb_of S699 ⟨by decide, by decide⟩
  have hat699 : cl699.slots[((4 : Int32)).toNatClampNeg]? = some (.int s4) := H699.at hin699 rfl
  have go701 : own_S p e below ST T696 (mkF m 66 #[rv o1, iv od, rv b557, iv q4, iv (4 : Int32), iv s4] [(.int s4)]) := fun tt kt => go698 tt (by
      refine X696.iaload hx (j := (4 : Int32)) (v := (.int s4)) (by rw [e696]; exact Ar699.1) (State.isArrayOf_alike hZ.alike Ar699.2.1) Ar699.2.2 hin699 hat699 (g := (mkF m 65 #[rv o1, iv od, rv b557, iv q4, iv (4 : Int32), iv s4] [(.int (4 : Int32)), (.ref o1)])) rfl rfl (hb hby d1_65) _ ?_
      exact kt)
  have go702 : own_S p e below ST T696 (mkF m 68 #[rv o1, iv od, rv b557, iv q4, iv (4 : Int32), iv s4] [(.int (s4 % (2 : Int32)))]) := fun tt kt => go701 tt (by
      refine XS.iconst X696.here hx rfl (hb hby d1_66) ?_
      refine iremM (g := (mkF m 67 #[rv o1, iv od, rv b557, iv q4, iv (4 : Int32), iv s4] [(.int (2 : Int32)), (.int s4)])) X696 hx rfl (hb hby d1_67) rfl (by decide) ?_
      exact kt)
  have zs703 := (Nat.le_trans (Nat.le_trans zs671 K685.1) (Keep.of_wr W696).1)
  obtain ⟨T717, h717, L717, q5, e4, X717, e717, N717, K717, c717_0, hq5, he4, sg717⟩ : ∃ (T717 : State) (h717 : Heap) (L717 : List Loc) (q5 : Int32) (e4 : Int32), Stand p l e ({ frames := 0, cells := 1, slots := 5, locals := 0 } : Room) s m #[(.ref o1)] below meth c T717 L717 (0 + 1) (0 + 5) ∧ T717.heap = h717 ∧ Fr n0 L717 ∧ Keep h696 h717 [b557] ∧ Arv Z h717 b557 k557 .int (5 : Int32) [(.int e0), (.int e1), (.int e2), (.int e3), (.int e4)] (.int (0 : Int32)) ∧ q5 = (if (s4 % (2 : Int32)) = (0 : Int32) then q4 else (if q4 < (od / (2 : Int32)) then (q4 + (1 : Int32)) else (q4 + (1 : Int32)))) ∧ e4 = (if (s4 % (2 : Int32)) = (0 : Int32) then (s4 / (2 : Int32)) else (if q4 < (od / (2 : Int32)) then ((s4 / (2 : Int32)) + (1 : Int32)) else (s4 / (2 : Int32)))) ∧ ∀ tt, Steps p.tables e below (T717.setTop (mkF m 89 #[rv o1, iv od, rv b557, iv q5, iv (4 : Int32), iv s4] [])) tt → Steps p.tables e below (T696.setTop (mkF m 68 #[rv o1, iv od, rv b557, iv q4, iv (4 : Int32), iv s4] [(.int (s4 % (2 : Int32)))])) tt := by
    by_cases hj68_0 : (s4 % (2 : Int32)) = (0 : Int32)
    · have go704 : own_S p e below (T696.setTop (mkF m 68 #[rv o1, iv od, rv b557, iv q4, iv (4 : Int32), iv s4] [(.int (s4 % (2 : Int32)))])) T696 (mkF m 89 #[rv o1, iv od, rv b557, iv q4, iv (4 : Int32), iv s4] []) := fun tt kt => (fun (tt : State) (kt : Steps p.tables e below (T696.setTop (mkF m 68 #[rv o1, iv od, rv b557, iv q4, iv (4 : Int32), iv s4] [(.int (s4 % (2 : Int32)))])) tt) => kt) tt (by
          refine XS.ifYes X696.here hx rfl (pc0 := 68) (pc' := 89) rfl (hb hby d1_68) rfl ((if0 _ _).trans (teq hj68_0).1) (by decide) (by decide) ?_
          exact kt)
      exact ⟨T696, h696, _, q4, (s4 / (2 : Int32)), X696, e696, N696, (Keep.refl h696 [b557]), V696, (if_pos hj68_0).symm, (if_pos hj68_0).symm, go704⟩
    · have go705 : own_S p e below (T696.setTop (mkF m 68 #[rv o1, iv od, rv b557, iv q4, iv (4 : Int32), iv s4] [(.int (s4 % (2 : Int32)))])) T696 (mkF m 71 #[rv o1, iv od, rv b557, iv q4, iv (4 : Int32), iv s4] []) := fun tt kt => (fun (tt : State) (kt : Steps p.tables e below (T696.setTop (mkF m 68 #[rv o1, iv od, rv b557, iv q4, iv (4 : Int32), iv s4] [(.int (s4 % (2 : Int32)))])) tt) => kt) tt (by
          refine XS.ifNo X696.here hx rfl (hb hby d1_68) rfl ((if0 _ _).trans (feq hj68_0).1) ?_
          exact kt)
      have go706 : own_S p e below (T696.setTop (mkF m 68 #[rv o1, iv od, rv b557, iv q4, iv (4 : Int32), iv s4] [(.int (s4 % (2 : Int32)))])) T696 (mkF m 75 #[rv o1, iv od, rv b557, iv q4, iv (4 : Int32), iv s4] [(.int (od / (2 : Int32))), (.int q4)]) := fun tt kt => go705 tt (by
          refine XS.iloadN X696.here hx rfl (hb hby d1_71) rfl ?_
          refine XS.iloadN X696.here hx rfl (hb hby d1_72) rfl ?_
          refine XS.iconst X696.here hx rfl (hb hby d1_73) ?_
          refine XS.idiv X696.here hx rfl (hb hby d1_74) rfl (by decide) ?_
          exact kt)
      by_cases hj75_1 : q4 < (od / (2 : Int32))
      · have go707 : own_S p e below (T696.setTop (mkF m 68 #[rv o1, iv od, rv b557, iv q4, iv (4 : Int32), iv s4] [(.int (s4 % (2 : Int32)))])) T696 (mkF m 78 #[rv o1, iv od, rv b557, iv q4, iv (4 : Int32), iv s4] []) := fun tt kt => go706 tt (by
            refine XS.icmpNo X696.here hx rfl (hb hby d1_75) rfl (tlt hj75_1).2.1 ?_
            exact kt)
        have go708 : own_S p e below (T696.setTop (mkF m 68 #[rv o1, iv od, rv b557, iv q4, iv (4 : Int32), iv s4] [(.int (s4 % (2 : Int32)))])) T696 (mkF m 82 #[rv o1, iv od, rv b557, iv q4, iv (4 : Int32), iv s4] [(.int (4 : Int32)), (.ref b557), (.int (4 : Int32)), (.ref b557)]) := fun tt kt => go707 tt (by
            refine XS.aloadN X696.here hx rfl (hb hby d1_78) rfl rfl ?_
            refine XS.iload X696.here hx rfl (hb hby d1_79) rfl ?_
            refine XT.dup2 X696.here hx rfl (hb hby d1_81) rfl rfl rfl ?_
            exact kt)
        obtain ⟨cl709, Ar709, q709, S709, M709, H709, G709⟩ := id V696
        have hin709 : ¬ ((4 : Int32) < 0 ∨ cl709.slots.size ≤ ((4 : Int32)).toNatClampNeg) := inb_of S709 ⟨by decide, by decide⟩
        have hat709 : cl709.slots[((4 : Int32)).toNatClampNeg]? = some (.int (s4 / (2 : Int32))) := H709.at hin709 rfl
        have go710 : own_S p e below (T696.setTop (mkF m 68 #[rv o1, iv od, rv b557, iv q4, iv (4 : Int32), iv s4] [(.int (s4 % (2 : Int32)))])) T696 (mkF m 83 #[rv o1, iv od, rv b557, iv q4, iv (4 : Int32), iv s4] [(.int (s4 / (2 : Int32))), (.int (4 : Int32)), (.ref b557)]) := fun tt kt => go708 tt (by
            refine X696.iaload hx (j := (4 : Int32)) (v := (.int (s4 / (2 : Int32)))) (by rw [e696]; exact Ar709.1) (State.isArrayOf_alike hZ.alike Ar709.2.1) Ar709.2.2 hin709 hat709 (g := (mkF m 82 #[rv o1, iv od, rv b557, iv q4, iv (4 : Int32), iv s4] [(.int (4 : Int32)), (.ref b557), (.int (4 : Int32)), (.ref b557)])) rfl rfl (hb hby d1_82) _ ?_
            exact kt)
        have go711 : own_S p e below (T696.setTop (mkF m 68 #[rv o1, iv od, rv b557, iv q4, iv (4 : Int32), iv s4] [(.int (s4 % (2 : Int32)))])) T696 (mkF m 85 #[rv o1, iv od, rv b557, iv q4, iv (4 : Int32), iv s4] [(.int ((s4 / (2 : Int32)) + (1 : Int32))), (.int (4 : Int32)), (.ref b557)]) := fun tt kt => go710 tt (by
            refine XS.iconst X696.here hx rfl (hb hby d1_83) ?_
            refine XS.iadd X696.here hx rfl (hb hby d1_84) rfl ?_
            exact kt)
        obtain ⟨cl712, Ar712, q712, S712, M712, H712, G712⟩ := id V696
        have hin712 : ¬ ((4 : Int32) < 0 ∨ cl712.slots.size ≤ ((4 : Int32)).toNatClampNeg) := inb_of S712 ⟨by decide, by decide⟩
        obtain ⟨T712, h712, X712, e712, W712, st712⟩ := stI X696 hx hZ e696 Ar712 (j := (4 : Int32)) hin712 (g := (mkF m 85 #[rv o1, iv od, rv b557, iv q4, iv (4 : Int32), iv s4] [(.int ((s4 / (2 : Int32)) + (1 : Int32))), (.int (4 : Int32)), (.ref b557)])) rfl rfl (hb hby d1_85)
        have V712 : Arv Z h712 b557 k557 .int (5 : Int32) [(.int e0), (.int e1), (.int e2), (.int e3), (.int ((s4 / (2 : Int32)) + (1 : Int32)))] (.int (0 : Int32)) := Arv.set Ar712 q712 S712 M712 H712 G712 rfl W712 4 rfl (Nat.le_of_ble_eq_true rfl)
        have N712 := Fr.snoc X712 N696 ge_b557
        have kj712 : Keep h696 h712 [b557] := (Keep.refl h696 [b557]).wr W712 (Or.inl (List.mem_of_getElem? (i := 0) rfl))
        have KC712 : Keep h0 h712 [] := KC696.wr W712 (Or.inr sz_b557)
        have go713 : own_S p e below (T696.setTop (mkF m 68 #[rv o1, iv od, rv b557, iv q4, iv (4 : Int32), iv s4] [(.int (s4 % (2 : Int32)))])) T712 (mkF m 86 #[rv o1, iv od, rv b557, iv q4, iv (4 : Int32), iv s4] []) := fun tt kt => go711 tt (st712 _ kt)
        have go714 : own_S p e below (T696.setTop (mkF m 68 #[rv o1, iv od, rv b557, iv q4, iv (4 : Int32), iv s4] [(.int (s4 % (2 : Int32)))])) T712 (mkF m 89 #[rv o1, iv od, rv b557, iv (q4 + (1 : Int32)), iv (4 : Int32), iv s4] []) := fun tt kt => go713 tt (by
            refine XS.iinc X712.here hx rfl (hb hby d1_86) rfl (l' := #[rv o1, iv od, rv b557, iv (q4 + (1 : Int32)), iv (4 : Int32), iv s4]) rfl ?_
            exact kt)
        exact ⟨T712, h712, _, (q4 + (1 : Int32)), ((s4 / (2 : Int32)) + (1 : Int32)), X712, e712, N712, kj712, V712, ((if_neg hj68_0).trans (if_pos hj75_1)).symm, ((if_neg hj68_0).trans (if_pos hj75_1)).symm, go714⟩
      · have go715 : own_S p e below (T696.setTop (mkF m 68 #[rv o1, iv od, rv b557, iv q4, iv (4 : Int32), iv s4] [(.int (s4 % (2 : Int32)))])) T696 (mkF m 86 #[rv o1, iv od, rv b557, iv q4, iv (4 : Int32), iv s4] []) := fun tt kt => go706 tt (by
            refine XS.icmpYes X696.here hx rfl (pc0 := 75) (pc' := 86) rfl (hb hby d1_75) rfl (flt hj75_1).2.1 (by decide) (by decide) ?_
            exact kt)
        have go716 : own_S p e below (T696.setTop (mkF m 68 #[rv o1, iv od, rv b557, iv q4, iv (4 : Int32), iv s4] [(.int (s4 % (2 : Int32)))])) T696 (mkF m 89 #[rv o1, iv od, rv b557, iv (q4 + (1 : Int32)), iv (4 : Int32), iv s4] []) := fun tt kt => go715 tt (by
            refine XS.iinc X696.here hx rfl (hb hby d1_86) rfl (l' := #[rv o1, iv od, rv b557, iv (q4 + (1 : Int32)), iv (4 : Int32), iv s4]) rfl ?_
            exact kt)
        exact ⟨T696, h696, _, (q4 + (1 : Int32)), (s4 / (2 : Int32)), X696, e696, N696, (Keep.refl h696 [b557]), V696, ((if_neg hj68_0).trans (if_neg hj75_1)).symm, ((if_neg hj68_0).trans (if_neg hj75_1)).symm, go716⟩
  have KC717 : Keep h0 h717 [] := KC696.trans K717 (allS (Or.inr sz_b557) all0)
  have go718 : own_S p e below ST T717 (mkF m 89 #[rv o1, iv od, rv b557, iv q5, iv (4 : Int32), iv s4] []) := fun tt kt => go702 tt (sg717 _ kt)
  have go719 : own_S p e below ST T717 (mkF m 45 #[rv o1, iv od, rv b557, iv q5, iv (5 : Int32), iv s4] []) := fun tt kt => go718 tt (by
      refine XS.iinc X717.here hx rfl (hb hby d1_89) rfl (l' := #[rv o1, iv od, rv b557, iv q5, iv (5 : Int32), iv s4]) rfl ?_
      refine XS.goto X717.here hx rfl (pc0 := 92) (pc' := 45) rfl (hb hby d1_92) (by decide) (by decide) ?_
      exact kt)
  have go720 : own_S p e below ST T717 (mkF m 48 #[rv o1, iv od, rv b557, iv q5, iv (5 : Int32), iv s4] [(.ref o1), (.int (5 : Int32))]) := fun tt kt => go719 tt (by
      refine XS.iload X717.here hx rfl (hb hby d1_45) rfl ?_
      refine XS.aloadN X717.here hx rfl (hb hby d1_47) rfl rfl ?_
      exact kt)
  have f722 := (f700.keep K717 (ninS neo1_b557 nin0))
  obtain ⟨cl721, Ar721, q721, S721, M721, H721, G721⟩ := id f722
  have go723 : own_S p e below ST T717 (mkF m 49 #[rv o1, iv od, rv b557, iv q5, iv (5 : Int32), iv s4] [(.int (5 : Int32)), (.int (5 : Int32))]) := fun tt kt => go720 tt (by
      refine X717.arraylength hx (by rw [e717]; exact Ar721.1) (State.isArrayOf_alike hZ.alike Ar721.2.1) (g := (mkF m 48 #[rv o1, iv od, rv b557, iv q5, iv (5 : Int32), iv s4] [(.ref o1), (.int (5 : Int32))])) rfl rfl (hb hby d1_48) _ ?_
      rw [len_of S721 M721]
      exact kt)
  have go724 : own_S p e below ST T717 (mkF m 96 #[rv o1, iv od, rv b557, iv q5, iv (5 : Int32), iv s4] [(.ref b557)]) := fun tt kt => go723 tt (by
      refine XS.icmpYes X717.here hx rfl (pc0 := 49) (pc' := 95) rfl (hb hby d1_49) rfl (flt (by decide : ¬ ((5 : Int32) < (5 : Int32)))).2.1 (by decide) (by decide) ?_
      refine XS.aloadN X717.here hx rfl (hb hby d1_95) rfl rfl ?_
      exact kt)
  obtain ⟨fs, hr, hrun, hended, hW, hsame⟩ := X717.leave (v := some (.ref b557)) (fun h => by rw [Bd.returns] at h; cases h)
  refine ⟨_, _, pre0 _ (go724 _ ?_), hrun, hended, _, _, rfl, ?_, ⟨_, rfl⟩, hW, hsame.mono (by decide) (by decide)⟩
  · exact retOut X717 hx Bd.returns rfl (Or.inr (Or.inr (Or.inr (Or.inr ⟨rfl, rfl, rfl⟩)))) (hb hby d1_96) hr
  · show Q1k5 Z o1 ka s0 s1 s2 s3 s4 h0 n0 _ T717.heap _
    rw [e717]
    exact ⟨b557, k557, od, e0, e1, e2, e3, e4, q1, q2, q3, q4, q5, rfl, N717, KC717, c717_0, hod, he0, hq1, he1, hq2, he2, hq3, he3, hq4, he4, hq5⟩
theorem pd96 : parseMethodDescriptor "([I)[I" = some ⟨[(.array .int)], some (.array .int)⟩ := by decide +kernel
theorem pd97 : parseMethodDescriptor "([IIIIIII)Z" = some ⟨[(.array .int), .int, .int, .int, .int, .int, .int], some .boolean⟩ := by decide +kernel
theorem ef0k0 (m : MethodId) (x0 : Int32) (x1 : Int32) (x2 : Int32) (x3 : Int32) (x4 : Int32) (x5 : Int32) : entryFrame m #[(.int x0), (.int x1), (.int x2), (.int x3), (.int x4), (.int x5)] maxLocals = mkF m 0 #[.val (.int x0), .val (.int x1), .val (.int x2), .val (.int x3), .val (.int x4), .val (.int x5), .unset, .unset, .unset, .unset, .unset, .unset, .unset, .unset, .unset, .unset, .unset, .unset, .unset, .unset, .unset] [] := by first | (simp [entryFrame, mkF, argsToLocals, Value.category, maxLocals]; done) | rfl
def Q0k0 (Z : State) (ls : Int32) (a : Int32) (b : Int32) (c' : Int32) (d : Int32) (e' : Int32) (h0 : Heap) (n0 : Nat) (v : Option Value) (h : Heap) (L : List Loc) : Prop := v = some (.int 1) ∧ Fr n0 L
set_option maxRecDepth 65536 in
set_option maxHeartbeats 40000000 in
theorem rm0k0 (l : Launch) (Z : State) (a0 : Array Value) (hw : ∀ d ∈ tables_1, d.before a0 Z = true) (ws : List Jvm.Cond) (ls : Int32) (a : Int32) (b : Int32) (c' : Int32) (d : Int32) (e' : Int32) (h0 : Heap) (n0 : Nat) (Z0 : n0 ≤ h0.size) (hk : (ls &&& 2147483647) % 6 = 0) :
    MetFree l x (head1 (Jvm.Cond.code x code maxLocals ret :: ws) room_1) (fun aa UU => aa = #[(.int ls), (.int a), (.int b), (.int c'), (.int d), (.int e')] ∧ Z.Warmed39 UU.vm ∧ UU.heap = h0) (fun _ _ _ _ _ => True) (fun _ UU oo UU' => ∃ vv LL, oo = .returned vv ∧ Q0k0 Z ls a b c' d e' h0 n0 vv UU'.heap LL ∧ FrameEnd UU oo UU' LL room_1.cells room_1.slots) := by
  have W : ∀ {d : Jvm.Cond} (i : Nat), tables_1[i]? = some d → d.before a0 Z = true := fun i h => hw _ (List.mem_of_getElem? h)
  refine MetFree.of_bodySF (plainFor_of_name pn0) hisR ?_
  intro p e s m args below meth c s₁ Bd hml0 hP hK
  obtain ⟨rfl, hZ, hh⟩ := hP
  have hx := Bd.exec
  have hby := Bd.bytes
  have hml : c.maxLocals = 21 := hml0
  have hown : s.vm.findClass "com/example/declination/declination/engine/Nsga2KeptCountsPinLaw" = some m.cls := findClass_of_methodNamed Bd.named
  have hnm := (name_of_methodNamed Bd.named Bd.method).1
  have X0 : Stand p l e room_1 s m #[(.int ls), (.int a), (.int b), (.int c'), (.int d), (.int e')] below meth c s₁ [] 0 0 := Stand.of_body Bd
  have e0 : s₁.heap = h0 := by rw [← hh, Bd.state]; rfl
  have N0 := Fr.nil n0
  have pre0 : ∀ tt, Steps p.tables e below (s₁.setTop (mkF m 0 #[iv ls, iv a, iv b, iv c', iv d, iv e', .unset, .unset, .unset, .unset, .unset, .unset, .unset, .unset, .unset, .unset, .unset, .unset, .unset, .unset, .unset] [])) tt → Steps p.tables e below (s₁.setTop (entryFrame m #[(.int ls), (.int a), (.int b), (.int c'), (.int d), (.int e')] maxLocals)) tt := fun tt kt => castTop (ef0k0 m ls a b c' d e') kt
  obtain ⟨ST, hST⟩ : ∃ z : State, z = s₁.setTop (mkF m 0 #[iv ls, iv a, iv b, iv c', iv d, iv e', .unset, .unset, .unset, .unset, .unset, .unset, .unset, .unset, .unset, .unset, .unset, .unset, .unset, .unset, .unset] []) := ⟨_, rfl⟩
  rw [← hST] at pre0
  have go725 : own_S p e below ST s₁ (mkF m 9 #[iv ls, iv a, iv b, iv c', iv d, iv e', iv ((ls &&& (2147483647 : Int32)) % (6 : Int32)), .unset, .unset, .unset, .unset, .unset, .unset, .unset, .unset, .unset, .unset, .unset, .unset, .unset, .unset] []) := fun tt kt => (by
      rw [hST]
      show Steps p.tables e below (s₁.setTop (mkF m 0 #[iv ls, iv a, iv b, iv c', iv d, iv e', .unset, .unset, .unset, .unset, .unset, .unset, .unset, .unset, .unset, .unset, .unset, .unset, .unset, .unset, .unset] [])) _
      refine XS.iloadN X0.here hx rfl (hb hby at_0) rfl ?_
      refine X0.ldcInt hx hown (mvT hZ (W 0 rfl)) (g := (mkF m 1 #[iv ls, iv a, iv b, iv c', iv d, iv e', .unset, .unset, .unset, .unset, .unset, .unset, .unset, .unset, .unset, .unset, .unset, .unset, .unset, .unset, .unset] [(.int ls)])) rfl (hb hby at_1) _ ?_
      refine XS.iand X0.here hx rfl (hb hby at_3) rfl ?_
      refine XS.bipush X0.here hx rfl (hb hby at_4) ?_
      refine iremM (g := (mkF m 6 #[iv ls, iv a, iv b, iv c', iv d, iv e', .unset, .unset, .unset, .unset, .unset, .unset, .unset, .unset, .unset, .unset, .unset, .unset, .unset, .unset, .unset] [(.int (6 : Int32)), (.int (ls &&& (2147483647 : Int32)))])) X0 hx rfl (hb hby at_6) rfl (by decide) ?_
      refine XS.istore X0.here hx rfl (hb hby at_7) rfl (l' := #[iv ls, iv a, iv b, iv c', iv d, iv e', iv ((ls &&& (2147483647 : Int32)) % (6 : Int32)), .unset, .unset, .unset, .unset, .unset, .unset, .unset, .unset, .unset, .unset, .unset, .unset, .unset, .unset]) rfl ?_
      exact kt)
  rw [hk] at go725
  have go726 : own_S p e below ST s₁ (mkF m 15 #[iv ls, iv a, iv b, iv c', iv d, iv e', iv (0 : Int32), iv (a &&& (2147483647 : Int32)), .unset, .unset, .unset, .unset, .unset, .unset, .unset, .unset, .unset, .unset, .unset, .unset, .unset] []) := fun tt kt => go725 tt (by
      refine XS.iloadN X0.here hx rfl (hb hby at_9) rfl ?_
      refine X0.ldcInt hx hown (mvT hZ (W 0 rfl)) (g := (mkF m 10 #[iv ls, iv a, iv b, iv c', iv d, iv e', iv (0 : Int32), .unset, .unset, .unset, .unset, .unset, .unset, .unset, .unset, .unset, .unset, .unset, .unset, .unset, .unset] [(.int a)])) rfl (hb hby at_10) _ ?_
      refine XS.iand X0.here hx rfl (hb hby at_12) rfl ?_
      refine XS.istore X0.here hx rfl (hb hby at_13) rfl (l' := #[iv ls, iv a, iv b, iv c', iv d, iv e', iv (0 : Int32), iv (a &&& (2147483647 : Int32)), .unset, .unset, .unset, .unset, .unset, .unset, .unset, .unset, .unset, .unset, .unset, .unset, .unset]) rfl ?_
      exact kt)
  obtain ⟨s0, hs0⟩ : ∃ z : Int32, z = (a &&& (2147483647 : Int32)) := ⟨_, rfl⟩
  rw [← hs0] at go726
  have nn0 := own_nn _ s0 hs0
  have go727 : own_S p e below ST s₁ (mkF m 21 #[iv ls, iv a, iv b, iv c', iv d, iv e', iv (0 : Int32), iv s0, iv (b &&& (2147483647 : Int32)), .unset, .unset, .unset, .unset, .unset, .unset, .unset, .unset, .unset, .unset, .unset, .unset] []) := fun tt kt => go726 tt (by
      refine XS.iloadN X0.here hx rfl (hb hby at_15) rfl ?_
      refine X0.ldcInt hx hown (mvT hZ (W 0 rfl)) (g := (mkF m 16 #[iv ls, iv a, iv b, iv c', iv d, iv e', iv (0 : Int32), iv s0, .unset, .unset, .unset, .unset, .unset, .unset, .unset, .unset, .unset, .unset, .unset, .unset, .unset] [(.int b)])) rfl (hb hby at_16) _ ?_
      refine XS.iand X0.here hx rfl (hb hby at_18) rfl ?_
      refine XS.istore X0.here hx rfl (hb hby at_19) rfl (l' := #[iv ls, iv a, iv b, iv c', iv d, iv e', iv (0 : Int32), iv s0, iv (b &&& (2147483647 : Int32)), .unset, .unset, .unset, .unset, .unset, .unset, .unset, .unset, .unset, .unset, .unset, .unset]) rfl ?_
      exact kt)
  obtain ⟨s1, hs1⟩ : ∃ z : Int32, z = (b &&& (2147483647 : Int32)) := ⟨_, rfl⟩
  rw [← hs1] at go727
  have nn1 := own_nn _ s1 hs1
  have go728 : own_S p e below ST s₁ (mkF m 27 #[iv ls, iv a, iv b, iv c', iv d, iv e', iv (0 : Int32), iv s0, iv s1, iv (c' &&& (2147483647 : Int32)), .unset, .unset, .unset, .unset, .unset, .unset, .unset, .unset, .unset, .unset, .unset] []) := fun tt kt => go727 tt (by
      refine XS.iloadN X0.here hx rfl (hb hby at_21) rfl ?_
      refine X0.ldcInt hx hown (mvT hZ (W 0 rfl)) (g := (mkF m 22 #[iv ls, iv a, iv b, iv c', iv d, iv e', iv (0 : Int32), iv s0, iv s1, .unset, .unset, .unset, .unset, .unset, .unset, .unset, .unset, .unset, .unset, .unset, .unset] [(.int c')])) rfl (hb hby at_22) _ ?_
      refine XS.iand X0.here hx rfl (hb hby at_24) rfl ?_
      refine XS.istore X0.here hx rfl (hb hby at_25) rfl (l' := #[iv ls, iv a, iv b, iv c', iv d, iv e', iv (0 : Int32), iv s0, iv s1, iv (c' &&& (2147483647 : Int32)), .unset, .unset, .unset, .unset, .unset, .unset, .unset, .unset, .unset, .unset, .unset]) rfl ?_
      exact kt)
  obtain ⟨s2, hs2⟩ : ∃ z : Int32, z = (c' &&& (2147483647 : Int32)) := ⟨_, rfl⟩
  rw [← hs2] at go728
  have nn2 := own_nn _ s2 hs2
  have go729 : own_S p e below ST s₁ (mkF m 34 #[iv ls, iv a, iv b, iv c', iv d, iv e', iv (0 : Int32), iv s0, iv s1, iv s2, iv (d &&& (2147483647 : Int32)), .unset, .unset, .unset, .unset, .unset, .unset, .unset, .unset, .unset, .unset] []) := fun tt kt => go728 tt (by
      refine XS.iload X0.here hx rfl (hb hby at_27) rfl ?_
      refine X0.ldcInt hx hown (mvT hZ (W 0 rfl)) (g := (mkF m 29 #[iv ls, iv a, iv b, iv c', iv d, iv e', iv (0 : Int32), iv s0, iv s1, iv s2, .unset, .unset, .unset, .unset, .unset, .unset, .unset, .unset, .unset, .unset, .unset] [(.int d)])) rfl (hb hby at_29) _ ?_
      refine XS.iand X0.here hx rfl (hb hby at_31) rfl ?_
      refine XS.istore X0.here hx rfl (hb hby at_32) rfl (l' := #[iv ls, iv a, iv b, iv c', iv d, iv e', iv (0 : Int32), iv s0, iv s1, iv s2, iv (d &&& (2147483647 : Int32)), .unset, .unset, .unset, .unset, .unset, .unset, .unset, .unset, .unset, .unset]) rfl ?_
      exact kt)
  obtain ⟨s3, hs3⟩ : ∃ z : Int32, z = (d &&& (2147483647 : Int32)) := ⟨_, rfl⟩
  rw [← hs3] at go729
  have nn3 := own_nn _ s3 hs3
  have go730 : own_S p e below ST s₁ (mkF m 41 #[iv ls, iv a, iv b, iv c', iv d, iv e', iv (0 : Int32), iv s0, iv s1, iv s2, iv s3, iv (e' &&& (2147483647 : Int32)), .unset, .unset, .unset, .unset, .unset, .unset, .unset, .unset, .unset] []) := fun tt kt => go729 tt (by
      refine XS.iload X0.here hx rfl (hb hby at_34) rfl ?_
      refine X0.ldcInt hx hown (mvT hZ (W 0 rfl)) (g := (mkF m 36 #[iv ls, iv a, iv b, iv c', iv d, iv e', iv (0 : Int32), iv s0, iv s1, iv s2, iv s3, .unset, .unset, .unset, .unset, .unset, .unset, .unset, .unset, .unset, .unset] [(.int e')])) rfl (hb hby at_36) _ ?_
      refine XS.iand X0.here hx rfl (hb hby at_38) rfl ?_
      refine XS.istore X0.here hx rfl (hb hby at_39) rfl (l' := #[iv ls, iv a, iv b, iv c', iv d, iv e', iv (0 : Int32), iv s0, iv s1, iv s2, iv s3, iv (e' &&& (2147483647 : Int32)), .unset, .unset, .unset, .unset, .unset, .unset, .unset, .unset, .unset]) rfl ?_
      exact kt)
  obtain ⟨s4, hs4⟩ : ∃ z : Int32, z = (e' &&& (2147483647 : Int32)) := ⟨_, rfl⟩
  rw [← hs4] at go730
  have nn4 := own_nn _ s4 hs4
  have go731 : own_S p e below ST s₁ (mkF m 43 #[iv ls, iv a, iv b, iv c', iv d, iv e', iv (0 : Int32), iv s0, iv s1, iv s2, iv s3, iv s4, .unset, .unset, .unset, .unset, .unset, .unset, .unset, .unset, .unset] [(.int (0 : Int32))]) := fun tt kt => go730 tt (by
      refine XS.iload X0.here hx rfl (hb hby at_41) rfl ?_
      exact kt)
  obtain ⟨b732, g732⟩ : ∃ z, z = h0.size := ⟨_, rfl⟩
  obtain ⟨T732, h732, k732, X732, e732, E732, A732, st732⟩ := newP X0 hx hZ (W 1 rfl) e0 (g := (mkF m 43 #[iv ls, iv a, iv b, iv c', iv d, iv e', iv (0 : Int32), iv s0, iv s1, iv s2, iv s3, iv s4, .unset, .unset, .unset, .unset, .unset, .unset, .unset, .unset, .unset] [(.int (0 : Int32))])) rfl (hb hby at_43) rfl (by decide) (cap := 0) (by decide) (by decide) (by decide) (by decide)
  rw [← g732] at A732 st732
  have ge_b732 : n0 ≤ b732 := Nat.le_trans Z0 (Nat.le_of_eq g732.symm)
  have V732 : Arv Z h732 b732 k732 .int (0 : Int32) [] (.int (0 : Int32)) := (Arv.new A732 (by decide)).pad (pad_rep [] (.int (0 : Int32)) 0)
  have go733 : own_S p e below ST T732 (mkF m 45 #[iv ls, iv a, iv b, iv c', iv d, iv e', iv (0 : Int32), iv s0, iv s1, iv s2, iv s3, iv s4, .unset, .unset, .unset, .unset, .unset, .unset, .unset, .unset, .unset] [(.ref b732)]) := fun tt kt => go731 tt (st732 _ kt)
  have go734 : own_S p e below ST T732 (mkF m 108 #[iv ls, iv a, iv b, iv c', iv d, iv e', iv (0 : Int32), iv s0, iv s1, iv s2, iv s3, iv s4, rv b732, .unset, .unset, .unset, .unset, .unset, .unset, .unset, .unset] [(.ref b732)]) := fun tt kt => go733 tt (by
      refine XS.astore X732.here hx rfl (hb hby at_45) rfl rfl (l' := #[iv ls, iv a, iv b, iv c', iv d, iv e', iv (0 : Int32), iv s0, iv s1, iv s2, iv s3, iv s4, rv b732, .unset, .unset, .unset, .unset, .unset, .unset, .unset, .unset]) rfl ?_
      refine XS.iload X732.here hx rfl (hb hby at_47) rfl ?_
      refine XS.ifYes X732.here hx rfl (pc0 := 49) (pc' := 58) rfl (hb hby at_49) rfl ((if0 _ _).trans (flt (by decide : ¬ ((0 : Int32) < (0 : Int32)))).2.2.2) (by decide) (by decide) ?_
      refine XS.iload X732.here hx rfl (hb hby at_58) rfl ?_
      refine XS.iconst X732.here hx rfl (hb hby at_60) ?_
      refine XS.icmpYes X732.here hx rfl (pc0 := 61) (pc' := 70) rfl (hb hby at_61) rfl (flt (by decide : ¬ ((1 : Int32) < (0 : Int32)))).2.2.2 (by decide) (by decide) ?_
      show Steps p.tables e below (T732.setTop (mkF m 70 #[iv ls, iv a, iv b, iv c', iv d, iv e', iv (0 : Int32), iv s0, iv s1, iv s2, iv s3, iv s4, rv b732, .unset, .unset, .unset, .unset, .unset, .unset, .unset, .unset] [])) _
      refine XS.iload X732.here hx rfl (hb hby at_70) rfl ?_
      refine XS.iconst X732.here hx rfl (hb hby at_72) ?_
      refine XS.icmpYes X732.here hx rfl (pc0 := 73) (pc' := 82) rfl (hb hby at_73) rfl (flt (by decide : ¬ ((2 : Int32) < (0 : Int32)))).2.2.2 (by decide) (by decide) ?_
      refine XS.iload X732.here hx rfl (hb hby at_82) rfl ?_
      refine XS.iconst X732.here hx rfl (hb hby at_84) ?_
      refine XS.icmpYes X732.here hx rfl (pc0 := 85) (pc' := 94) rfl (hb hby at_85) rfl (flt (by decide : ¬ ((3 : Int32) < (0 : Int32)))).2.2.2 (by decide) (by decide) ?_
      show Steps p.tables e below (T732.setTop (mkF m 94 #[iv ls, iv a, iv b, iv c', iv d, iv e', iv (0 : Int32), iv s0, iv s1, iv s2, iv s3, iv s4, rv b732, .unset, .unset, .unset, .unset, .unset, .unset, .unset, .unset] [])) _
      refine XS.iload X732.here hx rfl (hb hby at_94) rfl ?_
      refine XS.iconst X732.here hx rfl (hb hby at_96) ?_
      refine XS.icmpYes X732.here hx rfl (pc0 := 97) (pc' := 106) rfl (hb hby at_97) rfl (flt (by decide : ¬ ((4 : Int32) < (0 : Int32)))).2.2.2 (by decide) (by decide) ?_
      refine XS.aload X732.here hx rfl (hb hby at_106) rfl rfl ?_
      exact kt)
  have zs736 := (Nat.le_trans Z0 E732.1)
  obtain ⟨_, _, ⟨T735, L735, k735, n735⟩, -, X735, ⟨Lc735, hQ735, l735, y735, z735⟩, st735⟩ := Jvm.LawKit.callS X732 hx (y := (⟨"com/example/declination/declination/engine/Nsga2", "keptCounts", "([I)[I"⟩ : MethodName)) hown (mvT hZ (W 2 rfl)) (mvT hZ (W 3 rfl)) (mvT hZ (W 4 rfl)) (mvT hZ (W 5 rfl)) (by decide) (backOf (W := 0) (rm1k0 l Z a0 hw [] b732 _ h732 n0 zs736 V732) hZ (W 5 rfl) (W 4 rfl) (by decide) (by decide)) (g := (mkF m 108 #[iv ls, iv a, iv b, iv c', iv d, iv e', iv (0 : Int32), iv s0, iv s1, iv s2, iv s3, iv s4, rv b732, .unset, .unset, .unset, .unset, .unset, .unset, .unset, .unset] [(.ref b732)])) rfl (by rw [hml]; rfl) (argsL := [(.ref b732)]) (rest := []) (lenOf pd96 rfl) rfl (by show 2 * 0 + _ ≤ _; exact Nat.le_of_eq rfl) (hb hby at_108) (fun _ _ => ⟨rfl, e732, (by decide : 1 + 1 ≤ _), (by decide : 0 + 0 ≤ _)⟩)
  dsimp only [Pt.U, Pt.locs, Pt.cells, Pt.slots] at X735 l735 y735 z735 st735 hQ735
  subst l735 y735 z735
  obtain ⟨bk, kk, od, rfl, Nq735, K735, Vk735, hod⟩ := hQ735
  have N735 := Fr.app N0 Nq735
  have go737 : own_S p e below ST T735 (mkF m 111 #[iv ls, iv a, iv b, iv c', iv d, iv e', iv (0 : Int32), iv s0, iv s1, iv s2, iv s3, iv s4, rv b732, .unset, .unset, .unset, .unset, .unset, .unset, .unset, .unset] [(.ref bk)]) := fun tt kt => go734 tt (st735 _ kt)
  have go738 : own_S p e below ST T735 (mkF m 120 #[iv ls, iv a, iv b, iv c', iv d, iv e', iv (0 : Int32), iv s0, iv s1, iv s2, iv s3, iv s4, rv b732, rv bk, .unset, .unset, .unset, .unset, .unset, .unset, .unset] [(.ref bk)]) := fun tt kt => go737 tt (by
      refine XS.astore X735.here hx rfl (hb hby at_111) rfl rfl (l' := #[iv ls, iv a, iv b, iv c', iv d, iv e', iv (0 : Int32), iv s0, iv s1, iv s2, iv s3, iv s4, rv b732, rv bk, .unset, .unset, .unset, .unset, .unset, .unset, .unset]) rfl ?_
      refine XS.aload X735.here hx rfl (hb hby at_113) rfl rfl ?_
      refine XS.ifnullNo X735.here hx rfl (hb hby at_115) rfl ?_
      refine XS.aload X735.here hx rfl (hb hby at_118) rfl rfl ?_
      exact kt)
  obtain ⟨cl739, Ar739, q739, S739, M739, H739, G739⟩ := id Vk735
  have go740 : own_S p e below ST T735 (mkF m 121 #[iv ls, iv a, iv b, iv c', iv d, iv e', iv (0 : Int32), iv s0, iv s1, iv s2, iv s3, iv s4, rv b732, rv bk, .unset, .unset, .unset, .unset, .unset, .unset, .unset] [(.int (0 : Int32))]) := fun tt kt => go738 tt (by
      refine X735.arraylength hx (by exact Ar739.1) (State.isArrayOf_alike hZ.alike Ar739.2.1) (g := (mkF m 120 #[iv ls, iv a, iv b, iv c', iv d, iv e', iv (0 : Int32), iv s0, iv s1, iv s2, iv s3, iv s4, rv b732, rv bk, .unset, .unset, .unset, .unset, .unset, .unset, .unset] [(.ref bk)])) rfl rfl (hb hby at_120) _ ?_
      rw [len_of S739 M739]
      exact kt)
  have go741 : own_S p e below ST T735 (mkF m 229 #[iv ls, iv a, iv b, iv c', iv d, iv e', iv (0 : Int32), iv s0, iv s1, iv s2, iv s3, iv s4, rv b732, rv bk, iv (0 : Int32), iv (0 : Int32), iv (0 : Int32), iv (0 : Int32), iv (0 : Int32), iv (0 : Int32), iv ((0 : Int32) >>> ((1 : Int32) &&& 31))] []) := fun tt kt => go740 tt (by
      refine XS.iload X735.here hx rfl (hb hby at_121) rfl ?_
      refine XS.icmpYes X735.here hx rfl (pc0 := 123) (pc' := 128) rfl (hb hby at_123) rfl (teq (by decide : (0 : Int32) = (0 : Int32))).1 (by decide) (by decide) ?_
      refine XS.iload X735.here hx rfl (hb hby at_128) rfl ?_
      refine XS.ifYes X735.here hx rfl (pc0 := 130) (pc' := 140) rfl (hb hby at_130) rfl ((if0 _ _).trans (flt (by decide : ¬ ((0 : Int32) < (0 : Int32)))).2.2.2) (by decide) (by decide) ?_
      refine XS.iconst X735.here hx rfl (hb hby at_140) ?_
      refine XS.istore X735.here hx rfl (hb hby at_141) rfl (l' := #[iv ls, iv a, iv b, iv c', iv d, iv e', iv (0 : Int32), iv s0, iv s1, iv s2, iv s3, iv s4, rv b732, rv bk, iv (0 : Int32), .unset, .unset, .unset, .unset, .unset, .unset]) rfl ?_
      show Steps p.tables e below (T735.setTop (mkF m 143 #[iv ls, iv a, iv b, iv c', iv d, iv e', iv (0 : Int32), iv s0, iv s1, iv s2, iv s3, iv s4, rv b732, rv bk, iv (0 : Int32), .unset, .unset, .unset, .unset, .unset, .unset] [])) _
      refine XS.iload X735.here hx rfl (hb hby at_143) rfl ?_
      refine XS.iconst X735.here hx rfl (hb hby at_145) ?_
      refine XS.icmpYes X735.here hx rfl (pc0 := 146) (pc' := 156) rfl (hb hby at_146) rfl (flt (by decide : ¬ ((1 : Int32) < (0 : Int32)))).2.2.2 (by decide) (by decide) ?_
      refine XS.iconst X735.here hx rfl (hb hby at_156) ?_
      refine XS.istore X735.here hx rfl (hb hby at_157) rfl (l' := #[iv ls, iv a, iv b, iv c', iv d, iv e', iv (0 : Int32), iv s0, iv s1, iv s2, iv s3, iv s4, rv b732, rv bk, iv (0 : Int32), iv (0 : Int32), .unset, .unset, .unset, .unset, .unset]) rfl ?_
      refine XS.iload X735.here hx rfl (hb hby at_159) rfl ?_
      show Steps p.tables e below (T735.setTop (mkF m 161 #[iv ls, iv a, iv b, iv c', iv d, iv e', iv (0 : Int32), iv s0, iv s1, iv s2, iv s3, iv s4, rv b732, rv bk, iv (0 : Int32), iv (0 : Int32), .unset, .unset, .unset, .unset, .unset] [(.int (0 : Int32))])) _
      refine XS.iconst X735.here hx rfl (hb hby at_161) ?_
      refine XS.icmpYes X735.here hx rfl (pc0 := 162) (pc' := 172) rfl (hb hby at_162) rfl (flt (by decide : ¬ ((2 : Int32) < (0 : Int32)))).2.2.2 (by decide) (by decide) ?_
      refine XS.iconst X735.here hx rfl (hb hby at_172) ?_
      refine XS.istore X735.here hx rfl (hb hby at_173) rfl (l' := #[iv ls, iv a, iv b, iv c', iv d, iv e', iv (0 : Int32), iv s0, iv s1, iv s2, iv s3, iv s4, rv b732, rv bk, iv (0 : Int32), iv (0 : Int32), iv (0 : Int32), .unset, .unset, .unset, .unset]) rfl ?_
      refine XS.iload X735.here hx rfl (hb hby at_175) rfl ?_
      refine XS.iconst X735.here hx rfl (hb hby at_177) ?_
      show Steps p.tables e below (T735.setTop (mkF m 178 #[iv ls, iv a, iv b, iv c', iv d, iv e', iv (0 : Int32), iv s0, iv s1, iv s2, iv s3, iv s4, rv b732, rv bk, iv (0 : Int32), iv (0 : Int32), iv (0 : Int32), .unset, .unset, .unset, .unset] [(.int (3 : Int32)), (.int (0 : Int32))])) _
      refine XS.icmpYes X735.here hx rfl (pc0 := 178) (pc' := 188) rfl (hb hby at_178) rfl (flt (by decide : ¬ ((3 : Int32) < (0 : Int32)))).2.2.2 (by decide) (by decide) ?_
      refine XS.iconst X735.here hx rfl (hb hby at_188) ?_
      refine XS.istore X735.here hx rfl (hb hby at_189) rfl (l' := #[iv ls, iv a, iv b, iv c', iv d, iv e', iv (0 : Int32), iv s0, iv s1, iv s2, iv s3, iv s4, rv b732, rv bk, iv (0 : Int32), iv (0 : Int32), iv (0 : Int32), iv (0 : Int32), .unset, .unset, .unset]) rfl ?_
      refine XS.iload X735.here hx rfl (hb hby at_191) rfl ?_
      refine XS.iconst X735.here hx rfl (hb hby at_193) ?_
      refine XS.icmpYes X735.here hx rfl (pc0 := 194) (pc' := 204) rfl (hb hby at_194) rfl (flt (by decide : ¬ ((4 : Int32) < (0 : Int32)))).2.2.2 (by decide) (by decide) ?_
      show Steps p.tables e below (T735.setTop (mkF m 204 #[iv ls, iv a, iv b, iv c', iv d, iv e', iv (0 : Int32), iv s0, iv s1, iv s2, iv s3, iv s4, rv b732, rv bk, iv (0 : Int32), iv (0 : Int32), iv (0 : Int32), iv (0 : Int32), .unset, .unset, .unset] [])) _
      refine XS.iconst X735.here hx rfl (hb hby at_204) ?_
      refine XS.istore X735.here hx rfl (hb hby at_205) rfl (l' := #[iv ls, iv a, iv b, iv c', iv d, iv e', iv (0 : Int32), iv s0, iv s1, iv s2, iv s3, iv s4, rv b732, rv bk, iv (0 : Int32), iv (0 : Int32), iv (0 : Int32), iv (0 : Int32), iv (0 : Int32), .unset, .unset]) rfl ?_
      refine XS.iload X735.here hx rfl (hb hby at_207) rfl ?_
      refine XS.iload X735.here hx rfl (hb hby at_209) rfl ?_
      refine XS.iadd X735.here hx rfl (hb hby at_211) rfl ?_
      refine XS.iload X735.here hx rfl (hb hby at_212) rfl ?_
      show Steps p.tables e below (T735.setTop (mkF m 214 #[iv ls, iv a, iv b, iv c', iv d, iv e', iv (0 : Int32), iv s0, iv s1, iv s2, iv s3, iv s4, rv b732, rv bk, iv (0 : Int32), iv (0 : Int32), iv (0 : Int32), iv (0 : Int32), iv (0 : Int32), .unset, .unset] [(.int (0 : Int32)), (.int (0 : Int32))])) _
      refine XS.iadd X735.here hx rfl (hb hby at_214) rfl ?_
      refine XS.iload X735.here hx rfl (hb hby at_215) rfl ?_
      refine XS.iadd X735.here hx rfl (hb hby at_217) rfl ?_
      refine XS.iload X735.here hx rfl (hb hby at_218) rfl ?_
      refine XS.iadd X735.here hx rfl (hb hby at_220) rfl ?_
      refine XS.istore X735.here hx rfl (hb hby at_221) rfl (l' := #[iv ls, iv a, iv b, iv c', iv d, iv e', iv (0 : Int32), iv s0, iv s1, iv s2, iv s3, iv s4, rv b732, rv bk, iv (0 : Int32), iv (0 : Int32), iv (0 : Int32), iv (0 : Int32), iv (0 : Int32), iv (0 : Int32), .unset]) rfl ?_
      show Steps p.tables e below (T735.setTop (mkF m 223 #[iv ls, iv a, iv b, iv c', iv d, iv e', iv (0 : Int32), iv s0, iv s1, iv s2, iv s3, iv s4, rv b732, rv bk, iv (0 : Int32), iv (0 : Int32), iv (0 : Int32), iv (0 : Int32), iv (0 : Int32), iv (0 : Int32), .unset] [])) _
      refine XS.iload X735.here hx rfl (hb hby at_223) rfl ?_
      refine XS.iconst X735.here hx rfl (hb hby at_225) ?_
      refine XS.ishr X735.here hx rfl (hb hby at_226) rfl ?_
      refine XS.istore X735.here hx rfl (hb hby at_227) rfl (l' := #[iv ls, iv a, iv b, iv c', iv d, iv e', iv (0 : Int32), iv s0, iv s1, iv s2, iv s3, iv s4, rv b732, rv bk, iv (0 : Int32), iv (0 : Int32), iv (0 : Int32), iv (0 : Int32), iv (0 : Int32), iv (0 : Int32), iv ((0 : Int32) >>> ((1 : Int32) &&& 31))]) rfl ?_
      exact kt)
  have go742 : own_S p e below ST T735 (mkF m 241 #[iv ls, iv a, iv b, iv c', iv d, iv e', iv (0 : Int32), iv s0, iv s1, iv s2, iv s3, iv s4, rv b732, rv bk, iv (0 : Int32), iv (0 : Int32), iv (0 : Int32), iv (0 : Int32), iv (0 : Int32), iv (0 : Int32), iv ((0 : Int32) >>> ((1 : Int32) &&& 31))] [(.int ((0 : Int32) >>> ((1 : Int32) &&& 31))), (.int (0 : Int32)), (.int (0 : Int32)), (.int s0), (.int (0 : Int32)), (.int (0 : Int32)), (.ref bk)]) := fun tt kt => go741 tt (by
      refine XS.aload X735.here hx rfl (hb hby at_229) rfl rfl ?_
      refine XS.iconst X735.here hx rfl (hb hby at_231) ?_
      refine XS.iload X735.here hx rfl (hb hby at_232) rfl ?_
      refine XS.iload X735.here hx rfl (hb hby at_234) rfl ?_
      refine XS.iconst X735.here hx rfl (hb hby at_236) ?_
      refine XS.iload X735.here hx rfl (hb hby at_237) rfl ?_
      show Steps p.tables e below (T735.setTop (mkF m 239 #[iv ls, iv a, iv b, iv c', iv d, iv e', iv (0 : Int32), iv s0, iv s1, iv s2, iv s3, iv s4, rv b732, rv bk, iv (0 : Int32), iv (0 : Int32), iv (0 : Int32), iv (0 : Int32), iv (0 : Int32), iv (0 : Int32), iv ((0 : Int32) >>> ((1 : Int32) &&& 31))] [(.int (0 : Int32)), (.int (0 : Int32)), (.int s0), (.int (0 : Int32)), (.int (0 : Int32)), (.ref bk)])) _
      refine XS.iload X735.here hx rfl (hb hby at_239) rfl ?_
      exact kt)
  have zs744 := (Nat.le_trans zs736 K735.1)
  obtain ⟨_, _, ⟨T743, L743, k743, n743⟩, -, X743, ⟨Lc743, hQ743, l743, y743, z743⟩, st743⟩ := Jvm.LawKit.callS X735 hx (y := (⟨"com/example/declination/declination/engine/Nsga2KeptCountsPinLaw", "slot", "([IIIIIII)Z"⟩ : MethodName)) hown (mvT hZ (W 6 rfl)) (mvT hZ (W 7 rfl)) (mvT hZ (W 8 rfl)) (mvT hZ (W 9 rfl)) (by decide) (backOf (W := 0) (rm2g l Z a0 hw [] bk (0 : Int32) (0 : Int32) s0 (0 : Int32) (0 : Int32) ((0 : Int32) >>> ((1 : Int32) &&& 31)) T735.heap n0 zs744 (by decide)) hZ (W 9 rfl) (W 8 rfl) (by decide) (by decide)) (g := (mkF m 241 #[iv ls, iv a, iv b, iv c', iv d, iv e', iv (0 : Int32), iv s0, iv s1, iv s2, iv s3, iv s4, rv b732, rv bk, iv (0 : Int32), iv (0 : Int32), iv (0 : Int32), iv (0 : Int32), iv (0 : Int32), iv (0 : Int32), iv ((0 : Int32) >>> ((1 : Int32) &&& 31))] [(.int ((0 : Int32) >>> ((1 : Int32) &&& 31))), (.int (0 : Int32)), (.int (0 : Int32)), (.int s0), (.int (0 : Int32)), (.int (0 : Int32)), (.ref bk)])) rfl (by rw [hml]; rfl) (argsL := [(.ref bk), (.int (0 : Int32)), (.int (0 : Int32)), (.int s0), (.int (0 : Int32)), (.int (0 : Int32)), (.int ((0 : Int32) >>> ((1 : Int32) &&& 31)))]) (rest := []) (lenOf pd97 rfl) rfl (by show 2 * 0 + _ ≤ _; exact Nat.le_of_eq rfl) (hb hby at_241) (fun _ _ => ⟨rfl, rfl, (by decide : 2 + 0 ≤ _), (by decide : 0 + 0 ≤ _)⟩)
  dsimp only [Pt.U, Pt.locs, Pt.cells, Pt.slots] at X743 l743 y743 z743 st743 hQ743
  subst l743 y743 z743
  obtain ⟨rfl, Nq743, eh743⟩ := hQ743
  have N743 := Fr.app N735 Nq743
  have go745 : own_S p e below ST T743 (mkF m 244 #[iv ls, iv a, iv b, iv c', iv d, iv e', iv (0 : Int32), iv s0, iv s1, iv s2, iv s3, iv s4, rv b732, rv bk, iv (0 : Int32), iv (0 : Int32), iv (0 : Int32), iv (0 : Int32), iv (0 : Int32), iv (0 : Int32), iv ((0 : Int32) >>> ((1 : Int32) &&& 31))] [(.int (1 : Int32))]) := fun tt kt => go742 tt (st743 _ kt)
  have go746 : own_S p e below ST T743 (mkF m 260 #[iv ls, iv a, iv b, iv c', iv d, iv e', iv (0 : Int32), iv s0, iv s1, iv s2, iv s3, iv s4, rv b732, rv bk, iv (0 : Int32), iv (0 : Int32), iv (0 : Int32), iv (0 : Int32), iv (0 : Int32), iv (0 : Int32), iv ((0 : Int32) >>> ((1 : Int32) &&& 31))] [(.int ((0 : Int32) >>> ((1 : Int32) &&& 31))), (.int (0 : Int32)), (.int (0 : Int32)), (.int s1), (.int (0 : Int32)), (.int (1 : Int32)), (.ref bk)]) := fun tt kt => go745 tt (by
      refine XS.ifNo X743.here hx rfl (hb hby at_244) rfl ((if0 _ _).trans (feq (by decide : ¬ ((1 : Int32) = (0 : Int32)))).1) ?_
      refine XS.aload X743.here hx rfl (hb hby at_247) rfl rfl ?_
      refine XS.iconst X743.here hx rfl (hb hby at_249) ?_
      refine XS.iload X743.here hx rfl (hb hby at_250) rfl ?_
      refine XS.iload X743.here hx rfl (hb hby at_252) rfl ?_
      refine XS.iload X743.here hx rfl (hb hby at_254) rfl ?_
      show Steps p.tables e below (T743.setTop (mkF m 256 #[iv ls, iv a, iv b, iv c', iv d, iv e', iv (0 : Int32), iv s0, iv s1, iv s2, iv s3, iv s4, rv b732, rv bk, iv (0 : Int32), iv (0 : Int32), iv (0 : Int32), iv (0 : Int32), iv (0 : Int32), iv (0 : Int32), iv ((0 : Int32) >>> ((1 : Int32) &&& 31))] [(.int (0 : Int32)), (.int s1), (.int (0 : Int32)), (.int (1 : Int32)), (.ref bk)])) _
      refine XS.iload X743.here hx rfl (hb hby at_256) rfl ?_
      refine XS.iload X743.here hx rfl (hb hby at_258) rfl ?_
      exact kt)
  obtain ⟨_, _, ⟨T747, L747, k747, n747⟩, -, X747, ⟨Lc747, hQ747, l747, y747, z747⟩, st747⟩ := Jvm.LawKit.callS X743 hx (y := (⟨"com/example/declination/declination/engine/Nsga2KeptCountsPinLaw", "slot", "([IIIIIII)Z"⟩ : MethodName)) hown (mvT hZ (W 6 rfl)) (mvT hZ (W 7 rfl)) (mvT hZ (W 8 rfl)) (mvT hZ (W 9 rfl)) (by decide) (backOf (W := 0) (rm2g l Z a0 hw [] bk (1 : Int32) (0 : Int32) s1 (0 : Int32) (0 : Int32) ((0 : Int32) >>> ((1 : Int32) &&& 31)) T735.heap n0 zs744 (by decide)) hZ (W 9 rfl) (W 8 rfl) (by decide) (by decide)) (g := (mkF m 260 #[iv ls, iv a, iv b, iv c', iv d, iv e', iv (0 : Int32), iv s0, iv s1, iv s2, iv s3, iv s4, rv b732, rv bk, iv (0 : Int32), iv (0 : Int32), iv (0 : Int32), iv (0 : Int32), iv (0 : Int32), iv (0 : Int32), iv ((0 : Int32) >>> ((1 : Int32) &&& 31))] [(.int ((0 : Int32) >>> ((1 : Int32) &&& 31))), (.int (0 : Int32)), (.int (0 : Int32)), (.int s1), (.int (0 : Int32)), (.int (1 : Int32)), (.ref bk)])) rfl (by rw [hml]; rfl) (argsL := [(.ref bk), (.int (1 : Int32)), (.int (0 : Int32)), (.int s1), (.int (0 : Int32)), (.int (0 : Int32)), (.int ((0 : Int32) >>> ((1 : Int32) &&& 31)))]) (rest := []) (lenOf pd97 rfl) rfl (by show 2 * 0 + _ ≤ _; exact Nat.le_of_eq rfl) (hb hby at_260) (fun _ _ => ⟨rfl, eh743, (by decide : 2 + 0 ≤ _), (by decide : 0 + 0 ≤ _)⟩)
  dsimp only [Pt.U, Pt.locs, Pt.cells, Pt.slots] at X747 l747 y747 z747 st747 hQ747
  subst l747 y747 z747
  obtain ⟨rfl, Nq747, eh747⟩ := hQ747
  have N747 := Fr.app N743 Nq747
  have go748 : own_S p e below ST T747 (mkF m 263 #[iv ls, iv a, iv b, iv c', iv d, iv e', iv (0 : Int32), iv s0, iv s1, iv s2, iv s3, iv s4, rv b732, rv bk, iv (0 : Int32), iv (0 : Int32), iv (0 : Int32), iv (0 : Int32), iv (0 : Int32), iv (0 : Int32), iv ((0 : Int32) >>> ((1 : Int32) &&& 31))] [(.int (1 : Int32))]) := fun tt kt => go746 tt (st747 _ kt)
  have go749 : own_S p e below ST T747 (mkF m 282 #[iv ls, iv a, iv b, iv c', iv d, iv e', iv (0 : Int32), iv s0, iv s1, iv s2, iv s3, iv s4, rv b732, rv bk, iv (0 : Int32), iv (0 : Int32), iv (0 : Int32), iv (0 : Int32), iv (0 : Int32), iv (0 : Int32), iv ((0 : Int32) >>> ((1 : Int32) &&& 31))] [(.int ((0 : Int32) >>> ((1 : Int32) &&& 31))), (.int (0 : Int32)), (.int (0 : Int32)), (.int s2), (.int (0 : Int32)), (.int (2 : Int32)), (.ref bk)]) := fun tt kt => go748 tt (by
      refine XS.ifNo X747.here hx rfl (hb hby at_263) rfl ((if0 _ _).trans (feq (by decide : ¬ ((1 : Int32) = (0 : Int32)))).1) ?_
      refine XS.aload X747.here hx rfl (hb hby at_266) rfl rfl ?_
      refine XS.iconst X747.here hx rfl (hb hby at_268) ?_
      refine XS.iload X747.here hx rfl (hb hby at_269) rfl ?_
      refine XS.iload X747.here hx rfl (hb hby at_271) rfl ?_
      refine XS.iload X747.here hx rfl (hb hby at_273) rfl ?_
      show Steps p.tables e below (T747.setTop (mkF m 275 #[iv ls, iv a, iv b, iv c', iv d, iv e', iv (0 : Int32), iv s0, iv s1, iv s2, iv s3, iv s4, rv b732, rv bk, iv (0 : Int32), iv (0 : Int32), iv (0 : Int32), iv (0 : Int32), iv (0 : Int32), iv (0 : Int32), iv ((0 : Int32) >>> ((1 : Int32) &&& 31))] [(.int (0 : Int32)), (.int s2), (.int (0 : Int32)), (.int (2 : Int32)), (.ref bk)])) _
      refine XS.iload X747.here hx rfl (hb hby at_275) rfl ?_
      refine XS.iadd X747.here hx rfl (hb hby at_277) rfl ?_
      refine XS.iload X747.here hx rfl (hb hby at_278) rfl ?_
      refine XS.iload X747.here hx rfl (hb hby at_280) rfl ?_
      exact kt)
  obtain ⟨_, _, ⟨T750, L750, k750, n750⟩, -, X750, ⟨Lc750, hQ750, l750, y750, z750⟩, st750⟩ := Jvm.LawKit.callS X747 hx (y := (⟨"com/example/declination/declination/engine/Nsga2KeptCountsPinLaw", "slot", "([IIIIIII)Z"⟩ : MethodName)) hown (mvT hZ (W 6 rfl)) (mvT hZ (W 7 rfl)) (mvT hZ (W 8 rfl)) (mvT hZ (W 9 rfl)) (by decide) (backOf (W := 0) (rm2g l Z a0 hw [] bk (2 : Int32) (0 : Int32) s2 (0 : Int32) (0 : Int32) ((0 : Int32) >>> ((1 : Int32) &&& 31)) T735.heap n0 zs744 (by decide)) hZ (W 9 rfl) (W 8 rfl) (by decide) (by decide)) (g := (mkF m 282 #[iv ls, iv a, iv b, iv c', iv d, iv e', iv (0 : Int32), iv s0, iv s1, iv s2, iv s3, iv s4, rv b732, rv bk, iv (0 : Int32), iv (0 : Int32), iv (0 : Int32), iv (0 : Int32), iv (0 : Int32), iv (0 : Int32), iv ((0 : Int32) >>> ((1 : Int32) &&& 31))] [(.int ((0 : Int32) >>> ((1 : Int32) &&& 31))), (.int (0 : Int32)), (.int (0 : Int32)), (.int s2), (.int (0 : Int32)), (.int (2 : Int32)), (.ref bk)])) rfl (by rw [hml]; rfl) (argsL := [(.ref bk), (.int (2 : Int32)), (.int (0 : Int32)), (.int s2), (.int (0 : Int32)), (.int (0 : Int32)), (.int ((0 : Int32) >>> ((1 : Int32) &&& 31)))]) (rest := []) (lenOf pd97 rfl) rfl (by show 2 * 0 + _ ≤ _; exact Nat.le_of_eq rfl) (hb hby at_282) (fun _ _ => ⟨rfl, eh747, (by decide : 2 + 0 ≤ _), (by decide : 0 + 0 ≤ _)⟩)
  dsimp only [Pt.U, Pt.locs, Pt.cells, Pt.slots] at X750 l750 y750 z750 st750 hQ750
  subst l750 y750 z750
  obtain ⟨rfl, Nq750, eh750⟩ := hQ750
  have N750 := Fr.app N747 Nq750
  have go751 : own_S p e below ST T750 (mkF m 285 #[iv ls, iv a, iv b, iv c', iv d, iv e', iv (0 : Int32), iv s0, iv s1, iv s2, iv s3, iv s4, rv b732, rv bk, iv (0 : Int32), iv (0 : Int32), iv (0 : Int32), iv (0 : Int32), iv (0 : Int32), iv (0 : Int32), iv ((0 : Int32) >>> ((1 : Int32) &&& 31))] [(.int (1 : Int32))]) := fun tt kt => go749 tt (st750 _ kt)
  have go752 : own_S p e below ST T750 (mkF m 307 #[iv ls, iv a, iv b, iv c', iv d, iv e', iv (0 : Int32), iv s0, iv s1, iv s2, iv s3, iv s4, rv b732, rv bk, iv (0 : Int32), iv (0 : Int32), iv (0 : Int32), iv (0 : Int32), iv (0 : Int32), iv (0 : Int32), iv ((0 : Int32) >>> ((1 : Int32) &&& 31))] [(.int ((0 : Int32) >>> ((1 : Int32) &&& 31))), (.int (0 : Int32)), (.int (0 : Int32)), (.int s3), (.int (0 : Int32)), (.int (3 : Int32)), (.ref bk)]) := fun tt kt => go751 tt (by
      refine XS.ifNo X750.here hx rfl (hb hby at_285) rfl ((if0 _ _).trans (feq (by decide : ¬ ((1 : Int32) = (0 : Int32)))).1) ?_
      refine XS.aload X750.here hx rfl (hb hby at_288) rfl rfl ?_
      refine XS.iconst X750.here hx rfl (hb hby at_290) ?_
      refine XS.iload X750.here hx rfl (hb hby at_291) rfl ?_
      refine XS.iload X750.here hx rfl (hb hby at_293) rfl ?_
      refine XS.iload X750.here hx rfl (hb hby at_295) rfl ?_
      show Steps p.tables e below (T750.setTop (mkF m 297 #[iv ls, iv a, iv b, iv c', iv d, iv e', iv (0 : Int32), iv s0, iv s1, iv s2, iv s3, iv s4, rv b732, rv bk, iv (0 : Int32), iv (0 : Int32), iv (0 : Int32), iv (0 : Int32), iv (0 : Int32), iv (0 : Int32), iv ((0 : Int32) >>> ((1 : Int32) &&& 31))] [(.int (0 : Int32)), (.int s3), (.int (0 : Int32)), (.int (3 : Int32)), (.ref bk)])) _
      refine XS.iload X750.here hx rfl (hb hby at_297) rfl ?_
      refine XS.iadd X750.here hx rfl (hb hby at_299) rfl ?_
      refine XS.iload X750.here hx rfl (hb hby at_300) rfl ?_
      refine XS.iadd X750.here hx rfl (hb hby at_302) rfl ?_
      refine XS.iload X750.here hx rfl (hb hby at_303) rfl ?_
      refine XS.iload X750.here hx rfl (hb hby at_305) rfl ?_
      exact kt)
  obtain ⟨_, _, ⟨T753, L753, k753, n753⟩, -, X753, ⟨Lc753, hQ753, l753, y753, z753⟩, st753⟩ := Jvm.LawKit.callS X750 hx (y := (⟨"com/example/declination/declination/engine/Nsga2KeptCountsPinLaw", "slot", "([IIIIIII)Z"⟩ : MethodName)) hown (mvT hZ (W 6 rfl)) (mvT hZ (W 7 rfl)) (mvT hZ (W 8 rfl)) (mvT hZ (W 9 rfl)) (by decide) (backOf (W := 0) (rm2g l Z a0 hw [] bk (3 : Int32) (0 : Int32) s3 (0 : Int32) (0 : Int32) ((0 : Int32) >>> ((1 : Int32) &&& 31)) T735.heap n0 zs744 (by decide)) hZ (W 9 rfl) (W 8 rfl) (by decide) (by decide)) (g := (mkF m 307 #[iv ls, iv a, iv b, iv c', iv d, iv e', iv (0 : Int32), iv s0, iv s1, iv s2, iv s3, iv s4, rv b732, rv bk, iv (0 : Int32), iv (0 : Int32), iv (0 : Int32), iv (0 : Int32), iv (0 : Int32), iv (0 : Int32), iv ((0 : Int32) >>> ((1 : Int32) &&& 31))] [(.int ((0 : Int32) >>> ((1 : Int32) &&& 31))), (.int (0 : Int32)), (.int (0 : Int32)), (.int s3), (.int (0 : Int32)), (.int (3 : Int32)), (.ref bk)])) rfl (by rw [hml]; rfl) (argsL := [(.ref bk), (.int (3 : Int32)), (.int (0 : Int32)), (.int s3), (.int (0 : Int32)), (.int (0 : Int32)), (.int ((0 : Int32) >>> ((1 : Int32) &&& 31)))]) (rest := []) (lenOf pd97 rfl) rfl (by show 2 * 0 + _ ≤ _; exact Nat.le_of_eq rfl) (hb hby at_307) (fun _ _ => ⟨rfl, eh750, (by decide : 2 + 0 ≤ _), (by decide : 0 + 0 ≤ _)⟩)
  dsimp only [Pt.U, Pt.locs, Pt.cells, Pt.slots] at X753 l753 y753 z753 st753 hQ753
  subst l753 y753 z753
  obtain ⟨rfl, Nq753, eh753⟩ := hQ753
  have N753 := Fr.app N750 Nq753
  have go754 : own_S p e below ST T753 (mkF m 310 #[iv ls, iv a, iv b, iv c', iv d, iv e', iv (0 : Int32), iv s0, iv s1, iv s2, iv s3, iv s4, rv b732, rv bk, iv (0 : Int32), iv (0 : Int32), iv (0 : Int32), iv (0 : Int32), iv (0 : Int32), iv (0 : Int32), iv ((0 : Int32) >>> ((1 : Int32) &&& 31))] [(.int (1 : Int32))]) := fun tt kt => go752 tt (st753 _ kt)
  have go755 : own_S p e below ST T753 (mkF m 335 #[iv ls, iv a, iv b, iv c', iv d, iv e', iv (0 : Int32), iv s0, iv s1, iv s2, iv s3, iv s4, rv b732, rv bk, iv (0 : Int32), iv (0 : Int32), iv (0 : Int32), iv (0 : Int32), iv (0 : Int32), iv (0 : Int32), iv ((0 : Int32) >>> ((1 : Int32) &&& 31))] [(.int ((0 : Int32) >>> ((1 : Int32) &&& 31))), (.int (0 : Int32)), (.int (0 : Int32)), (.int s4), (.int (0 : Int32)), (.int (4 : Int32)), (.ref bk)]) := fun tt kt => go754 tt (by
      refine XS.ifNo X753.here hx rfl (hb hby at_310) rfl ((if0 _ _).trans (feq (by decide : ¬ ((1 : Int32) = (0 : Int32)))).1) ?_
      refine XS.aload X753.here hx rfl (hb hby at_313) rfl rfl ?_
      refine XS.iconst X753.here hx rfl (hb hby at_315) ?_
      refine XS.iload X753.here hx rfl (hb hby at_316) rfl ?_
      refine XS.iload X753.here hx rfl (hb hby at_318) rfl ?_
      refine XS.iload X753.here hx rfl (hb hby at_320) rfl ?_
      show Steps p.tables e below (T753.setTop (mkF m 322 #[iv ls, iv a, iv b, iv c', iv d, iv e', iv (0 : Int32), iv s0, iv s1, iv s2, iv s3, iv s4, rv b732, rv bk, iv (0 : Int32), iv (0 : Int32), iv (0 : Int32), iv (0 : Int32), iv (0 : Int32), iv (0 : Int32), iv ((0 : Int32) >>> ((1 : Int32) &&& 31))] [(.int (0 : Int32)), (.int s4), (.int (0 : Int32)), (.int (4 : Int32)), (.ref bk)])) _
      refine XS.iload X753.here hx rfl (hb hby at_322) rfl ?_
      refine XS.iadd X753.here hx rfl (hb hby at_324) rfl ?_
      refine XS.iload X753.here hx rfl (hb hby at_325) rfl ?_
      refine XS.iadd X753.here hx rfl (hb hby at_327) rfl ?_
      refine XS.iload X753.here hx rfl (hb hby at_328) rfl ?_
      refine XS.iadd X753.here hx rfl (hb hby at_330) rfl ?_
      show Steps p.tables e below (T753.setTop (mkF m 331 #[iv ls, iv a, iv b, iv c', iv d, iv e', iv (0 : Int32), iv s0, iv s1, iv s2, iv s3, iv s4, rv b732, rv bk, iv (0 : Int32), iv (0 : Int32), iv (0 : Int32), iv (0 : Int32), iv (0 : Int32), iv (0 : Int32), iv ((0 : Int32) >>> ((1 : Int32) &&& 31))] [(.int (0 : Int32)), (.int s4), (.int (0 : Int32)), (.int (4 : Int32)), (.ref bk)])) _
      refine XS.iload X753.here hx rfl (hb hby at_331) rfl ?_
      refine XS.iload X753.here hx rfl (hb hby at_333) rfl ?_
      exact kt)
  obtain ⟨_, _, ⟨T756, L756, k756, n756⟩, -, X756, ⟨Lc756, hQ756, l756, y756, z756⟩, st756⟩ := Jvm.LawKit.callS X753 hx (y := (⟨"com/example/declination/declination/engine/Nsga2KeptCountsPinLaw", "slot", "([IIIIIII)Z"⟩ : MethodName)) hown (mvT hZ (W 6 rfl)) (mvT hZ (W 7 rfl)) (mvT hZ (W 8 rfl)) (mvT hZ (W 9 rfl)) (by decide) (backOf (W := 0) (rm2g l Z a0 hw [] bk (4 : Int32) (0 : Int32) s4 (0 : Int32) (0 : Int32) ((0 : Int32) >>> ((1 : Int32) &&& 31)) T735.heap n0 zs744 (by decide)) hZ (W 9 rfl) (W 8 rfl) (by decide) (by decide)) (g := (mkF m 335 #[iv ls, iv a, iv b, iv c', iv d, iv e', iv (0 : Int32), iv s0, iv s1, iv s2, iv s3, iv s4, rv b732, rv bk, iv (0 : Int32), iv (0 : Int32), iv (0 : Int32), iv (0 : Int32), iv (0 : Int32), iv (0 : Int32), iv ((0 : Int32) >>> ((1 : Int32) &&& 31))] [(.int ((0 : Int32) >>> ((1 : Int32) &&& 31))), (.int (0 : Int32)), (.int (0 : Int32)), (.int s4), (.int (0 : Int32)), (.int (4 : Int32)), (.ref bk)])) rfl (by rw [hml]; rfl) (argsL := [(.ref bk), (.int (4 : Int32)), (.int (0 : Int32)), (.int s4), (.int (0 : Int32)), (.int (0 : Int32)), (.int ((0 : Int32) >>> ((1 : Int32) &&& 31)))]) (rest := []) (lenOf pd97 rfl) rfl (by show 2 * 0 + _ ≤ _; exact Nat.le_of_eq rfl) (hb hby at_335) (fun _ _ => ⟨rfl, eh753, (by decide : 2 + 0 ≤ _), (by decide : 0 + 0 ≤ _)⟩)
  dsimp only [Pt.U, Pt.locs, Pt.cells, Pt.slots] at X756 l756 y756 z756 st756 hQ756
  subst l756 y756 z756
  obtain ⟨rfl, Nq756, eh756⟩ := hQ756
  have N756 := Fr.app N753 Nq756
  have go757 : own_S p e below ST T756 (mkF m 338 #[iv ls, iv a, iv b, iv c', iv d, iv e', iv (0 : Int32), iv s0, iv s1, iv s2, iv s3, iv s4, rv b732, rv bk, iv (0 : Int32), iv (0 : Int32), iv (0 : Int32), iv (0 : Int32), iv (0 : Int32), iv (0 : Int32), iv ((0 : Int32) >>> ((1 : Int32) &&& 31))] [(.int (1 : Int32))]) := fun tt kt => go755 tt (st756 _ kt)
  have go758 : own_S p e below ST T756 (mkF m 346 #[iv ls, iv a, iv b, iv c', iv d, iv e', iv (0 : Int32), iv s0, iv s1, iv s2, iv s3, iv s4, rv b732, rv bk, iv (0 : Int32), iv (0 : Int32), iv (0 : Int32), iv (0 : Int32), iv (0 : Int32), iv (0 : Int32), iv ((0 : Int32) >>> ((1 : Int32) &&& 31))] [(.int (1 : Int32))]) := fun tt kt => go757 tt (by
      refine XS.ifNo X756.here hx rfl (hb hby at_338) rfl ((if0 _ _).trans (feq (by decide : ¬ ((1 : Int32) = (0 : Int32)))).1) ?_
      refine XS.iconst X756.here hx rfl (hb hby at_341) ?_
      refine XS.goto X756.here hx rfl (pc0 := 342) (pc' := 346) rfl (hb hby at_342) (by decide) (by decide) ?_
      exact kt)
  obtain ⟨fs, hr, hrun, hended, hW, hsame⟩ := X756.leave (v := some (.int (1 : Int32))) (fun h => by rw [Bd.returns] at h; cases h)
  refine ⟨_, _, pre0 _ (go758 _ ?_), hrun, hended, _, _, rfl, ?_, ⟨_, rfl⟩, hW, hsame.mono (by decide) (by decide)⟩
  · exact retN X756 hx (t := .boolean) Bd.returns (by simp) (hb hby at_346) hr
  · show Q0k0 Z ls a b c' d e' h0 n0 _ T756.heap _
    rw [eh756]
    exact ⟨rfl, N756⟩
theorem ef0k1 (m : MethodId) (x0 : Int32) (x1 : Int32) (x2 : Int32) (x3 : Int32) (x4 : Int32) (x5 : Int32) : entryFrame m #[(.int x0), (.int x1), (.int x2), (.int x3), (.int x4), (.int x5)] maxLocals = mkF m 0 #[.val (.int x0), .val (.int x1), .val (.int x2), .val (.int x3), .val (.int x4), .val (.int x5), .unset, .unset, .unset, .unset, .unset, .unset, .unset, .unset, .unset, .unset, .unset, .unset, .unset, .unset, .unset] [] := by first | (simp [entryFrame, mkF, argsToLocals, Value.category, maxLocals]; done) | rfl
def Q0k1 (Z : State) (ls : Int32) (a : Int32) (b : Int32) (c' : Int32) (d : Int32) (e' : Int32) (h0 : Heap) (n0 : Nat) (v : Option Value) (h : Heap) (L : List Loc) : Prop := v = some (.int 1) ∧ Fr n0 L
set_option maxRecDepth 65536 in
set_option maxHeartbeats 40000000 in
theorem rm0k1 (l : Launch) (Z : State) (a0 : Array Value) (hw : ∀ d ∈ tables_1, d.before a0 Z = true) (ws : List Jvm.Cond) (ls : Int32) (a : Int32) (b : Int32) (c' : Int32) (d : Int32) (e' : Int32) (h0 : Heap) (n0 : Nat) (Z0 : n0 ≤ h0.size) (hk : (ls &&& 2147483647) % 6 = 1) :
    MetFree l x (head1 (Jvm.Cond.code x code maxLocals ret :: ws) room_1) (fun aa UU => aa = #[(.int ls), (.int a), (.int b), (.int c'), (.int d), (.int e')] ∧ Z.Warmed39 UU.vm ∧ UU.heap = h0) (fun _ _ _ _ _ => True) (fun _ UU oo UU' => ∃ vv LL, oo = .returned vv ∧ Q0k1 Z ls a b c' d e' h0 n0 vv UU'.heap LL ∧ FrameEnd UU oo UU' LL room_1.cells room_1.slots) := by
  have W : ∀ {d : Jvm.Cond} (i : Nat), tables_1[i]? = some d → d.before a0 Z = true := fun i h => hw _ (List.mem_of_getElem? h)
  refine MetFree.of_bodySF (plainFor_of_name pn0) hisR ?_
  intro p e s m args below meth c s₁ Bd hml0 hP hK
  obtain ⟨rfl, hZ, hh⟩ := hP
  have hx := Bd.exec
  have hby := Bd.bytes
  have hml : c.maxLocals = 21 := hml0
  have hown : s.vm.findClass "com/example/declination/declination/engine/Nsga2KeptCountsPinLaw" = some m.cls := findClass_of_methodNamed Bd.named
  have hnm := (name_of_methodNamed Bd.named Bd.method).1
  have X0 : Stand p l e room_1 s m #[(.int ls), (.int a), (.int b), (.int c'), (.int d), (.int e')] below meth c s₁ [] 0 0 := Stand.of_body Bd
  have e0 : s₁.heap = h0 := by rw [← hh, Bd.state]; rfl
  have N0 := Fr.nil n0
  have pre0 : ∀ tt, Steps p.tables e below (s₁.setTop (mkF m 0 #[iv ls, iv a, iv b, iv c', iv d, iv e', .unset, .unset, .unset, .unset, .unset, .unset, .unset, .unset, .unset, .unset, .unset, .unset, .unset, .unset, .unset] [])) tt → Steps p.tables e below (s₁.setTop (entryFrame m #[(.int ls), (.int a), (.int b), (.int c'), (.int d), (.int e')] maxLocals)) tt := fun tt kt => castTop (ef0k1 m ls a b c' d e') kt
  obtain ⟨ST, hST⟩ : ∃ z : State, z = s₁.setTop (mkF m 0 #[iv ls, iv a, iv b, iv c', iv d, iv e', .unset, .unset, .unset, .unset, .unset, .unset, .unset, .unset, .unset, .unset, .unset, .unset, .unset, .unset, .unset] []) := ⟨_, rfl⟩
  rw [← hST] at pre0
  have go759 : own_S p e below ST s₁ (mkF m 9 #[iv ls, iv a, iv b, iv c', iv d, iv e', iv ((ls &&& (2147483647 : Int32)) % (6 : Int32)), .unset, .unset, .unset, .unset, .unset, .unset, .unset, .unset, .unset, .unset, .unset, .unset, .unset, .unset] []) := fun tt kt => (by
      rw [hST]
      show Steps p.tables e below (s₁.setTop (mkF m 0 #[iv ls, iv a, iv b, iv c', iv d, iv e', .unset, .unset, .unset, .unset, .unset, .unset, .unset, .unset, .unset, .unset, .unset, .unset, .unset, .unset, .unset] [])) _
      refine XS.iloadN X0.here hx rfl (hb hby at_0) rfl ?_
      refine X0.ldcInt hx hown (mvT hZ (W 0 rfl)) (g := (mkF m 1 #[iv ls, iv a, iv b, iv c', iv d, iv e', .unset, .unset, .unset, .unset, .unset, .unset, .unset, .unset, .unset, .unset, .unset, .unset, .unset, .unset, .unset] [(.int ls)])) rfl (hb hby at_1) _ ?_
      refine XS.iand X0.here hx rfl (hb hby at_3) rfl ?_
      refine XS.bipush X0.here hx rfl (hb hby at_4) ?_
      refine iremM (g := (mkF m 6 #[iv ls, iv a, iv b, iv c', iv d, iv e', .unset, .unset, .unset, .unset, .unset, .unset, .unset, .unset, .unset, .unset, .unset, .unset, .unset, .unset, .unset] [(.int (6 : Int32)), (.int (ls &&& (2147483647 : Int32)))])) X0 hx rfl (hb hby at_6) rfl (by decide) ?_
      refine XS.istore X0.here hx rfl (hb hby at_7) rfl (l' := #[iv ls, iv a, iv b, iv c', iv d, iv e', iv ((ls &&& (2147483647 : Int32)) % (6 : Int32)), .unset, .unset, .unset, .unset, .unset, .unset, .unset, .unset, .unset, .unset, .unset, .unset, .unset, .unset]) rfl ?_
      exact kt)
  rw [hk] at go759
  have go760 : own_S p e below ST s₁ (mkF m 15 #[iv ls, iv a, iv b, iv c', iv d, iv e', iv (1 : Int32), iv (a &&& (2147483647 : Int32)), .unset, .unset, .unset, .unset, .unset, .unset, .unset, .unset, .unset, .unset, .unset, .unset, .unset] []) := fun tt kt => go759 tt (by
      refine XS.iloadN X0.here hx rfl (hb hby at_9) rfl ?_
      refine X0.ldcInt hx hown (mvT hZ (W 0 rfl)) (g := (mkF m 10 #[iv ls, iv a, iv b, iv c', iv d, iv e', iv (1 : Int32), .unset, .unset, .unset, .unset, .unset, .unset, .unset, .unset, .unset, .unset, .unset, .unset, .unset, .unset] [(.int a)])) rfl (hb hby at_10) _ ?_
      refine XS.iand X0.here hx rfl (hb hby at_12) rfl ?_
      refine XS.istore X0.here hx rfl (hb hby at_13) rfl (l' := #[iv ls, iv a, iv b, iv c', iv d, iv e', iv (1 : Int32), iv (a &&& (2147483647 : Int32)), .unset, .unset, .unset, .unset, .unset, .unset, .unset, .unset, .unset, .unset, .unset, .unset, .unset]) rfl ?_
      exact kt)
  obtain ⟨s0, hs0⟩ : ∃ z : Int32, z = (a &&& (2147483647 : Int32)) := ⟨_, rfl⟩
  rw [← hs0] at go760
  have nn0 := own_nn _ s0 hs0
  have go761 : own_S p e below ST s₁ (mkF m 21 #[iv ls, iv a, iv b, iv c', iv d, iv e', iv (1 : Int32), iv s0, iv (b &&& (2147483647 : Int32)), .unset, .unset, .unset, .unset, .unset, .unset, .unset, .unset, .unset, .unset, .unset, .unset] []) := fun tt kt => go760 tt (by
      refine XS.iloadN X0.here hx rfl (hb hby at_15) rfl ?_
      refine X0.ldcInt hx hown (mvT hZ (W 0 rfl)) (g := (mkF m 16 #[iv ls, iv a, iv b, iv c', iv d, iv e', iv (1 : Int32), iv s0, .unset, .unset, .unset, .unset, .unset, .unset, .unset, .unset, .unset, .unset, .unset, .unset, .unset] [(.int b)])) rfl (hb hby at_16) _ ?_
      refine XS.iand X0.here hx rfl (hb hby at_18) rfl ?_
      refine XS.istore X0.here hx rfl (hb hby at_19) rfl (l' := #[iv ls, iv a, iv b, iv c', iv d, iv e', iv (1 : Int32), iv s0, iv (b &&& (2147483647 : Int32)), .unset, .unset, .unset, .unset, .unset, .unset, .unset, .unset, .unset, .unset, .unset, .unset]) rfl ?_
      exact kt)
  obtain ⟨s1, hs1⟩ : ∃ z : Int32, z = (b &&& (2147483647 : Int32)) := ⟨_, rfl⟩
  rw [← hs1] at go761
  have nn1 := own_nn _ s1 hs1
  have go762 : own_S p e below ST s₁ (mkF m 27 #[iv ls, iv a, iv b, iv c', iv d, iv e', iv (1 : Int32), iv s0, iv s1, iv (c' &&& (2147483647 : Int32)), .unset, .unset, .unset, .unset, .unset, .unset, .unset, .unset, .unset, .unset, .unset] []) := fun tt kt => go761 tt (by
      refine XS.iloadN X0.here hx rfl (hb hby at_21) rfl ?_
      refine X0.ldcInt hx hown (mvT hZ (W 0 rfl)) (g := (mkF m 22 #[iv ls, iv a, iv b, iv c', iv d, iv e', iv (1 : Int32), iv s0, iv s1, .unset, .unset, .unset, .unset, .unset, .unset, .unset, .unset, .unset, .unset, .unset, .unset] [(.int c')])) rfl (hb hby at_22) _ ?_
      refine XS.iand X0.here hx rfl (hb hby at_24) rfl ?_
      refine XS.istore X0.here hx rfl (hb hby at_25) rfl (l' := #[iv ls, iv a, iv b, iv c', iv d, iv e', iv (1 : Int32), iv s0, iv s1, iv (c' &&& (2147483647 : Int32)), .unset, .unset, .unset, .unset, .unset, .unset, .unset, .unset, .unset, .unset, .unset]) rfl ?_
      exact kt)
  obtain ⟨s2, hs2⟩ : ∃ z : Int32, z = (c' &&& (2147483647 : Int32)) := ⟨_, rfl⟩
  rw [← hs2] at go762
  have nn2 := own_nn _ s2 hs2
  have go763 : own_S p e below ST s₁ (mkF m 34 #[iv ls, iv a, iv b, iv c', iv d, iv e', iv (1 : Int32), iv s0, iv s1, iv s2, iv (d &&& (2147483647 : Int32)), .unset, .unset, .unset, .unset, .unset, .unset, .unset, .unset, .unset, .unset] []) := fun tt kt => go762 tt (by
      refine XS.iload X0.here hx rfl (hb hby at_27) rfl ?_
      refine X0.ldcInt hx hown (mvT hZ (W 0 rfl)) (g := (mkF m 29 #[iv ls, iv a, iv b, iv c', iv d, iv e', iv (1 : Int32), iv s0, iv s1, iv s2, .unset, .unset, .unset, .unset, .unset, .unset, .unset, .unset, .unset, .unset, .unset] [(.int d)])) rfl (hb hby at_29) _ ?_
      refine XS.iand X0.here hx rfl (hb hby at_31) rfl ?_
      refine XS.istore X0.here hx rfl (hb hby at_32) rfl (l' := #[iv ls, iv a, iv b, iv c', iv d, iv e', iv (1 : Int32), iv s0, iv s1, iv s2, iv (d &&& (2147483647 : Int32)), .unset, .unset, .unset, .unset, .unset, .unset, .unset, .unset, .unset, .unset]) rfl ?_
      exact kt)
  obtain ⟨s3, hs3⟩ : ∃ z : Int32, z = (d &&& (2147483647 : Int32)) := ⟨_, rfl⟩
  rw [← hs3] at go763
  have nn3 := own_nn _ s3 hs3
  have go764 : own_S p e below ST s₁ (mkF m 41 #[iv ls, iv a, iv b, iv c', iv d, iv e', iv (1 : Int32), iv s0, iv s1, iv s2, iv s3, iv (e' &&& (2147483647 : Int32)), .unset, .unset, .unset, .unset, .unset, .unset, .unset, .unset, .unset] []) := fun tt kt => go763 tt (by
      refine XS.iload X0.here hx rfl (hb hby at_34) rfl ?_
      refine X0.ldcInt hx hown (mvT hZ (W 0 rfl)) (g := (mkF m 36 #[iv ls, iv a, iv b, iv c', iv d, iv e', iv (1 : Int32), iv s0, iv s1, iv s2, iv s3, .unset, .unset, .unset, .unset, .unset, .unset, .unset, .unset, .unset, .unset] [(.int e')])) rfl (hb hby at_36) _ ?_
      refine XS.iand X0.here hx rfl (hb hby at_38) rfl ?_
      refine XS.istore X0.here hx rfl (hb hby at_39) rfl (l' := #[iv ls, iv a, iv b, iv c', iv d, iv e', iv (1 : Int32), iv s0, iv s1, iv s2, iv s3, iv (e' &&& (2147483647 : Int32)), .unset, .unset, .unset, .unset, .unset, .unset, .unset, .unset, .unset]) rfl ?_
      exact kt)
  obtain ⟨s4, hs4⟩ : ∃ z : Int32, z = (e' &&& (2147483647 : Int32)) := ⟨_, rfl⟩
  rw [← hs4] at go764
  have nn4 := own_nn _ s4 hs4
  have go765 : own_S p e below ST s₁ (mkF m 43 #[iv ls, iv a, iv b, iv c', iv d, iv e', iv (1 : Int32), iv s0, iv s1, iv s2, iv s3, iv s4, .unset, .unset, .unset, .unset, .unset, .unset, .unset, .unset, .unset] [(.int (1 : Int32))]) := fun tt kt => go764 tt (by
      refine XS.iload X0.here hx rfl (hb hby at_41) rfl ?_
      exact kt)
  obtain ⟨b766, g766⟩ : ∃ z, z = h0.size := ⟨_, rfl⟩
  obtain ⟨T766, h766, k766, X766, e766, E766, A766, st766⟩ := newP X0 hx hZ (W 1 rfl) e0 (g := (mkF m 43 #[iv ls, iv a, iv b, iv c', iv d, iv e', iv (1 : Int32), iv s0, iv s1, iv s2, iv s3, iv s4, .unset, .unset, .unset, .unset, .unset, .unset, .unset, .unset, .unset] [(.int (1 : Int32))])) rfl (hb hby at_43) rfl (by decide) (cap := 1) (by decide) (by decide) (by decide) (by decide)
  rw [← g766] at A766 st766
  have ge_b766 : n0 ≤ b766 := Nat.le_trans Z0 (Nat.le_of_eq g766.symm)
  have V766 : Arv Z h766 b766 k766 .int (1 : Int32) [(.int (0 : Int32))] (.int (0 : Int32)) := (Arv.new A766 (by decide)).pad (pad_rep [] (.int (0 : Int32)) 1)
  have go767 : own_S p e below ST T766 (mkF m 45 #[iv ls, iv a, iv b, iv c', iv d, iv e', iv (1 : Int32), iv s0, iv s1, iv s2, iv s3, iv s4, .unset, .unset, .unset, .unset, .unset, .unset, .unset, .unset, .unset] [(.ref b766)]) := fun tt kt => go765 tt (st766 _ kt)
  have go768 : own_S p e below ST T766 (mkF m 57 #[iv ls, iv a, iv b, iv c', iv d, iv e', iv (1 : Int32), iv s0, iv s1, iv s2, iv s3, iv s4, rv b766, .unset, .unset, .unset, .unset, .unset, .unset, .unset, .unset] [(.int s0), (.int (0 : Int32)), (.ref b766)]) := fun tt kt => go767 tt (by
      refine XS.astore X766.here hx rfl (hb hby at_45) rfl rfl (l' := #[iv ls, iv a, iv b, iv c', iv d, iv e', iv (1 : Int32), iv s0, iv s1, iv s2, iv s3, iv s4, rv b766, .unset, .unset, .unset, .unset, .unset, .unset, .unset, .unset]) rfl ?_
      refine XS.iload X766.here hx rfl (hb hby at_47) rfl ?_
      refine XS.ifNo X766.here hx rfl (hb hby at_49) rfl ((if0 _ _).trans (tlt (by decide : (0 : Int32) < (1 : Int32))).2.2.2) ?_
      refine XS.aload X766.here hx rfl (hb hby at_52) rfl rfl ?_
      refine XS.iconst X766.here hx rfl (hb hby at_54) ?_
      refine XS.iload X766.here hx rfl (hb hby at_55) rfl ?_
      exact kt)
  obtain ⟨cl769, Ar769, q769, S769, M769, H769, G769⟩ := id V766
  have hin769 : ¬ ((0 : Int32) < 0 ∨ cl769.slots.size ≤ ((0 : Int32)).toNatClampNeg) := inb_of S769 ⟨by decide, by decide⟩
  obtain ⟨T769, h769, X769, e769, W769, st769⟩ := stI X766 hx hZ e766 Ar769 (j := (0 : Int32)) hin769 (g := (mkF m 57 #[iv ls, iv a, iv b, iv c', iv d, iv e', iv (1 : Int32), iv s0, iv s1, iv s2, iv s3, iv s4, rv b766, .unset, .unset, .unset, .unset, .unset, .unset, .unset, .unset] [(.int s0), (.int (0 : Int32)), (.ref b766)])) rfl rfl (hb hby at_57)
  have V769 : Arv Z h769 b766 k766 .int (1 : Int32) [(.int s0)] (.int (0 : Int32)) := Arv.set Ar769 q769 S769 M769 H769 G769 rfl W769 0 rfl (Nat.le_of_ble_eq_true rfl)
  have N769 := Fr.snoc X769 N0 ge_b766
  have go770 : own_S p e below ST T769 (mkF m 58 #[iv ls, iv a, iv b, iv c', iv d, iv e', iv (1 : Int32), iv s0, iv s1, iv s2, iv s3, iv s4, rv b766, .unset, .unset, .unset, .unset, .unset, .unset, .unset, .unset] []) := fun tt kt => go768 tt (st769 _ kt)
  have go771 : own_S p e below ST T769 (mkF m 108 #[iv ls, iv a, iv b, iv c', iv d, iv e', iv (1 : Int32), iv s0, iv s1, iv s2, iv s3, iv s4, rv b766, .unset, .unset, .unset, .unset, .unset, .unset, .unset, .unset] [(.ref b766)]) := fun tt kt => go770 tt (by
      refine XS.iload X769.here hx rfl (hb hby at_58) rfl ?_
      refine XS.iconst X769.here hx rfl (hb hby at_60) ?_
      refine XS.icmpYes X769.here hx rfl (pc0 := 61) (pc' := 70) rfl (hb hby at_61) rfl (flt (by decide : ¬ ((1 : Int32) < (1 : Int32)))).2.2.2 (by decide) (by decide) ?_
      refine XS.iload X769.here hx rfl (hb hby at_70) rfl ?_
      refine XS.iconst X769.here hx rfl (hb hby at_72) ?_
      refine XS.icmpYes X769.here hx rfl (pc0 := 73) (pc' := 82) rfl (hb hby at_73) rfl (flt (by decide : ¬ ((2 : Int32) < (1 : Int32)))).2.2.2 (by decide) (by decide) ?_
      show Steps p.tables e below (T769.setTop (mkF m 82 #[iv ls, iv a, iv b, iv c', iv d, iv e', iv (1 : Int32), iv s0, iv s1, iv s2, iv s3, iv s4, rv b766, .unset, .unset, .unset, .unset, .unset, .unset, .unset, .unset] [])) _
      refine XS.iload X769.here hx rfl (hb hby at_82) rfl ?_
      refine XS.iconst X769.here hx rfl (hb hby at_84) ?_
      refine XS.icmpYes X769.here hx rfl (pc0 := 85) (pc' := 94) rfl (hb hby at_85) rfl (flt (by decide : ¬ ((3 : Int32) < (1 : Int32)))).2.2.2 (by decide) (by decide) ?_
      refine XS.iload X769.here hx rfl (hb hby at_94) rfl ?_
      refine XS.iconst X769.here hx rfl (hb hby at_96) ?_
      refine XS.icmpYes X769.here hx rfl (pc0 := 97) (pc' := 106) rfl (hb hby at_97) rfl (flt (by decide : ¬ ((4 : Int32) < (1 : Int32)))).2.2.2 (by decide) (by decide) ?_
      show Steps p.tables e below (T769.setTop (mkF m 106 #[iv ls, iv a, iv b, iv c', iv d, iv e', iv (1 : Int32), iv s0, iv s1, iv s2, iv s3, iv s4, rv b766, .unset, .unset, .unset, .unset, .unset, .unset, .unset, .unset] [])) _
      refine XS.aload X769.here hx rfl (hb hby at_106) rfl rfl ?_
      exact kt)
  have zs773 := (Nat.le_trans (Nat.le_trans Z0 E766.1) (Keep.of_wr W769).1)
  obtain ⟨_, _, ⟨T772, L772, k772, n772⟩, -, X772, ⟨Lc772, hQ772, l772, y772, z772⟩, st772⟩ := Jvm.LawKit.callS X769 hx (y := (⟨"com/example/declination/declination/engine/Nsga2", "keptCounts", "([I)[I"⟩ : MethodName)) hown (mvT hZ (W 2 rfl)) (mvT hZ (W 3 rfl)) (mvT hZ (W 4 rfl)) (mvT hZ (W 5 rfl)) (by decide) (backOf (W := 0) (rm1k1 l Z a0 hw [] b766 _ s0 h769 n0 zs773 V769) hZ (W 5 rfl) (W 4 rfl) (by decide) (by decide)) (g := (mkF m 108 #[iv ls, iv a, iv b, iv c', iv d, iv e', iv (1 : Int32), iv s0, iv s1, iv s2, iv s3, iv s4, rv b766, .unset, .unset, .unset, .unset, .unset, .unset, .unset, .unset] [(.ref b766)])) rfl (by rw [hml]; rfl) (argsL := [(.ref b766)]) (rest := []) (lenOf pd96 rfl) rfl (by show 2 * 0 + _ ≤ _; exact Nat.le_of_eq rfl) (hb hby at_108) (fun _ _ => ⟨rfl, e769, (by decide : 1 + 1 ≤ _), (by decide : 1 + 1 ≤ _)⟩)
  dsimp only [Pt.U, Pt.locs, Pt.cells, Pt.slots] at X772 l772 y772 z772 st772 hQ772
  subst l772 y772 z772
  obtain ⟨bk, kk, od, e0, q1, rfl, Nq772, K772, Vk772, hod, he0, hq1⟩ := hQ772
  have N772 := Fr.app N769 Nq772
  have go774 : own_S p e below ST T772 (mkF m 111 #[iv ls, iv a, iv b, iv c', iv d, iv e', iv (1 : Int32), iv s0, iv s1, iv s2, iv s3, iv s4, rv b766, .unset, .unset, .unset, .unset, .unset, .unset, .unset, .unset] [(.ref bk)]) := fun tt kt => go771 tt (st772 _ kt)
  have go775 : own_S p e below ST T772 (mkF m 120 #[iv ls, iv a, iv b, iv c', iv d, iv e', iv (1 : Int32), iv s0, iv s1, iv s2, iv s3, iv s4, rv b766, rv bk, .unset, .unset, .unset, .unset, .unset, .unset, .unset] [(.ref bk)]) := fun tt kt => go774 tt (by
      refine XS.astore X772.here hx rfl (hb hby at_111) rfl rfl (l' := #[iv ls, iv a, iv b, iv c', iv d, iv e', iv (1 : Int32), iv s0, iv s1, iv s2, iv s3, iv s4, rv b766, rv bk, .unset, .unset, .unset, .unset, .unset, .unset, .unset]) rfl ?_
      refine XS.aload X772.here hx rfl (hb hby at_113) rfl rfl ?_
      refine XS.ifnullNo X772.here hx rfl (hb hby at_115) rfl ?_
      refine XS.aload X772.here hx rfl (hb hby at_118) rfl rfl ?_
      exact kt)
  obtain ⟨cl776, Ar776, q776, S776, M776, H776, G776⟩ := id Vk772
  have go777 : own_S p e below ST T772 (mkF m 121 #[iv ls, iv a, iv b, iv c', iv d, iv e', iv (1 : Int32), iv s0, iv s1, iv s2, iv s3, iv s4, rv b766, rv bk, .unset, .unset, .unset, .unset, .unset, .unset, .unset] [(.int (1 : Int32))]) := fun tt kt => go775 tt (by
      refine X772.arraylength hx (by exact Ar776.1) (State.isArrayOf_alike hZ.alike Ar776.2.1) (g := (mkF m 120 #[iv ls, iv a, iv b, iv c', iv d, iv e', iv (1 : Int32), iv s0, iv s1, iv s2, iv s3, iv s4, rv b766, rv bk, .unset, .unset, .unset, .unset, .unset, .unset, .unset] [(.ref bk)])) rfl rfl (hb hby at_120) _ ?_
      rw [len_of S776 M776]
      exact kt)
  have go778 : own_S p e below ST T772 (mkF m 229 #[iv ls, iv a, iv b, iv c', iv d, iv e', iv (1 : Int32), iv s0, iv s1, iv s2, iv s3, iv s4, rv b766, rv bk, iv (s0 &&& (1 : Int32)), iv (0 : Int32), iv (0 : Int32), iv (0 : Int32), iv (0 : Int32), iv (((((s0 &&& (1 : Int32)) + (0 : Int32)) + (0 : Int32)) + (0 : Int32)) + (0 : Int32)), iv ((((((s0 &&& (1 : Int32)) + (0 : Int32)) + (0 : Int32)) + (0 : Int32)) + (0 : Int32)) >>> ((1 : Int32) &&& 31))] []) := fun tt kt => go777 tt (by
      refine XS.iload X772.here hx rfl (hb hby at_121) rfl ?_
      refine XS.icmpYes X772.here hx rfl (pc0 := 123) (pc' := 128) rfl (hb hby at_123) rfl (teq (by decide : (1 : Int32) = (1 : Int32))).1 (by decide) (by decide) ?_
      refine XS.iload X772.here hx rfl (hb hby at_128) rfl ?_
      refine XS.ifNo X772.here hx rfl (hb hby at_130) rfl ((if0 _ _).trans (tlt (by decide : (0 : Int32) < (1 : Int32))).2.2.2) ?_
      refine XS.iload X772.here hx rfl (hb hby at_133) rfl ?_
      refine XS.iconst X772.here hx rfl (hb hby at_135) ?_
      show Steps p.tables e below (T772.setTop (mkF m 136 #[iv ls, iv a, iv b, iv c', iv d, iv e', iv (1 : Int32), iv s0, iv s1, iv s2, iv s3, iv s4, rv b766, rv bk, .unset, .unset, .unset, .unset, .unset, .unset, .unset] [(.int (1 : Int32)), (.int s0)])) _
      refine XS.iand X772.here hx rfl (hb hby at_136) rfl ?_
      refine XS.goto X772.here hx rfl (pc0 := 137) (pc' := 141) rfl (hb hby at_137) (by decide) (by decide) ?_
      refine XS.istore X772.here hx rfl (hb hby at_141) rfl (l' := #[iv ls, iv a, iv b, iv c', iv d, iv e', iv (1 : Int32), iv s0, iv s1, iv s2, iv s3, iv s4, rv b766, rv bk, iv (s0 &&& (1 : Int32)), .unset, .unset, .unset, .unset, .unset, .unset]) rfl ?_
      refine XS.iload X772.here hx rfl (hb hby at_143) rfl ?_
      refine XS.iconst X772.here hx rfl (hb hby at_145) ?_
      refine XS.icmpYes X772.here hx rfl (pc0 := 146) (pc' := 156) rfl (hb hby at_146) rfl (flt (by decide : ¬ ((1 : Int32) < (1 : Int32)))).2.2.2 (by decide) (by decide) ?_
      show Steps p.tables e below (T772.setTop (mkF m 156 #[iv ls, iv a, iv b, iv c', iv d, iv e', iv (1 : Int32), iv s0, iv s1, iv s2, iv s3, iv s4, rv b766, rv bk, iv (s0 &&& (1 : Int32)), .unset, .unset, .unset, .unset, .unset, .unset] [])) _
      refine XS.iconst X772.here hx rfl (hb hby at_156) ?_
      refine XS.istore X772.here hx rfl (hb hby at_157) rfl (l' := #[iv ls, iv a, iv b, iv c', iv d, iv e', iv (1 : Int32), iv s0, iv s1, iv s2, iv s3, iv s4, rv b766, rv bk, iv (s0 &&& (1 : Int32)), iv (0 : Int32), .unset, .unset, .unset, .unset, .unset]) rfl ?_
      refine XS.iload X772.here hx rfl (hb hby at_159) rfl ?_
      refine XS.iconst X772.here hx rfl (hb hby at_161) ?_
      refine XS.icmpYes X772.here hx rfl (pc0 := 162) (pc' := 172) rfl (hb hby at_162) rfl (flt (by decide : ¬ ((2 : Int32) < (1 : Int32)))).2.2.2 (by decide) (by decide) ?_
      refine XS.iconst X772.here hx rfl (hb hby at_172) ?_
      show Steps p.tables e below (T772.setTop (mkF m 173 #[iv ls, iv a, iv b, iv c', iv d, iv e', iv (1 : Int32), iv s0, iv s1, iv s2, iv s3, iv s4, rv b766, rv bk, iv (s0 &&& (1 : Int32)), iv (0 : Int32), .unset, .unset, .unset, .unset, .unset] [(.int (0 : Int32))])) _
      refine XS.istore X772.here hx rfl (hb hby at_173) rfl (l' := #[iv ls, iv a, iv b, iv c', iv d, iv e', iv (1 : Int32), iv s0, iv s1, iv s2, iv s3, iv s4, rv b766, rv bk, iv (s0 &&& (1 : Int32)), iv (0 : Int32), iv (0 : Int32), .unset, .unset, .unset, .unset]) rfl ?_
      refine XS.iload X772.here hx rfl (hb hby at_175) rfl ?_
      refine XS.iconst X772.here hx rfl (hb hby at_177) ?_
      refine XS.icmpYes X772.here hx rfl (pc0 := 178) (pc' := 188) rfl (hb hby at_178) rfl (flt (by decide : ¬ ((3 : Int32) < (1 : Int32)))).2.2.2 (by decide) (by decide) ?_
      refine XS.iconst X772.here hx rfl (hb hby at_188) ?_
      refine XS.istore X772.here hx rfl (hb hby at_189) rfl (l' := #[iv ls, iv a, iv b, iv c', iv d, iv e', iv (1 : Int32), iv s0, iv s1, iv s2, iv s3, iv s4, rv b766, rv bk, iv (s0 &&& (1 : Int32)), iv (0 : Int32), iv (0 : Int32), iv (0 : Int32), .unset, .unset, .unset]) rfl ?_
      show Steps p.tables e below (T772.setTop (mkF m 191 #[iv ls, iv a, iv b, iv c', iv d, iv e', iv (1 : Int32), iv s0, iv s1, iv s2, iv s3, iv s4, rv b766, rv bk, iv (s0 &&& (1 : Int32)), iv (0 : Int32), iv (0 : Int32), iv (0 : Int32), .unset, .unset, .unset] [])) _
      refine XS.iload X772.here hx rfl (hb hby at_191) rfl ?_
      refine XS.iconst X772.here hx rfl (hb hby at_193) ?_
      refine XS.icmpYes X772.here hx rfl (pc0 := 194) (pc' := 204) rfl (hb hby at_194) rfl (flt (by decide : ¬ ((4 : Int32) < (1 : Int32)))).2.2.2 (by decide) (by decide) ?_
      refine XS.iconst X772.here hx rfl (hb hby at_204) ?_
      refine XS.istore X772.here hx rfl (hb hby at_205) rfl (l' := #[iv ls, iv a, iv b, iv c', iv d, iv e', iv (1 : Int32), iv s0, iv s1, iv s2, iv s3, iv s4, rv b766, rv bk, iv (s0 &&& (1 : Int32)), iv (0 : Int32), iv (0 : Int32), iv (0 : Int32), iv (0 : Int32), .unset, .unset]) rfl ?_
      refine XS.iload X772.here hx rfl (hb hby at_207) rfl ?_
      show Steps p.tables e below (T772.setTop (mkF m 209 #[iv ls, iv a, iv b, iv c', iv d, iv e', iv (1 : Int32), iv s0, iv s1, iv s2, iv s3, iv s4, rv b766, rv bk, iv (s0 &&& (1 : Int32)), iv (0 : Int32), iv (0 : Int32), iv (0 : Int32), iv (0 : Int32), .unset, .unset] [(.int (s0 &&& (1 : Int32)))])) _
      refine XS.iload X772.here hx rfl (hb hby at_209) rfl ?_
      refine XS.iadd X772.here hx rfl (hb hby at_211) rfl ?_
      refine XS.iload X772.here hx rfl (hb hby at_212) rfl ?_
      refine XS.iadd X772.here hx rfl (hb hby at_214) rfl ?_
      refine XS.iload X772.here hx rfl (hb hby at_215) rfl ?_
      refine XS.iadd X772.here hx rfl (hb hby at_217) rfl ?_
      show Steps p.tables e below (T772.setTop (mkF m 218 #[iv ls, iv a, iv b, iv c', iv d, iv e', iv (1 : Int32), iv s0, iv s1, iv s2, iv s3, iv s4, rv b766, rv bk, iv (s0 &&& (1 : Int32)), iv (0 : Int32), iv (0 : Int32), iv (0 : Int32), iv (0 : Int32), .unset, .unset] [(.int ((((s0 &&& (1 : Int32)) + (0 : Int32)) + (0 : Int32)) + (0 : Int32)))])) _
      refine XS.iload X772.here hx rfl (hb hby at_218) rfl ?_
      refine XS.iadd X772.here hx rfl (hb hby at_220) rfl ?_
      refine XS.istore X772.here hx rfl (hb hby at_221) rfl (l' := #[iv ls, iv a, iv b, iv c', iv d, iv e', iv (1 : Int32), iv s0, iv s1, iv s2, iv s3, iv s4, rv b766, rv bk, iv (s0 &&& (1 : Int32)), iv (0 : Int32), iv (0 : Int32), iv (0 : Int32), iv (0 : Int32), iv (((((s0 &&& (1 : Int32)) + (0 : Int32)) + (0 : Int32)) + (0 : Int32)) + (0 : Int32)), .unset]) rfl ?_
      refine XS.iload X772.here hx rfl (hb hby at_223) rfl ?_
      refine XS.iconst X772.here hx rfl (hb hby at_225) ?_
      refine XS.ishr X772.here hx rfl (hb hby at_226) rfl ?_
      show Steps p.tables e below (T772.setTop (mkF m 227 #[iv ls, iv a, iv b, iv c', iv d, iv e', iv (1 : Int32), iv s0, iv s1, iv s2, iv s3, iv s4, rv b766, rv bk, iv (s0 &&& (1 : Int32)), iv (0 : Int32), iv (0 : Int32), iv (0 : Int32), iv (0 : Int32), iv (((((s0 &&& (1 : Int32)) + (0 : Int32)) + (0 : Int32)) + (0 : Int32)) + (0 : Int32)), .unset] [(.int ((((((s0 &&& (1 : Int32)) + (0 : Int32)) + (0 : Int32)) + (0 : Int32)) + (0 : Int32)) >>> ((1 : Int32) &&& 31)))])) _
      refine XS.istore X772.here hx rfl (hb hby at_227) rfl (l' := #[iv ls, iv a, iv b, iv c', iv d, iv e', iv (1 : Int32), iv s0, iv s1, iv s2, iv s3, iv s4, rv b766, rv bk, iv (s0 &&& (1 : Int32)), iv (0 : Int32), iv (0 : Int32), iv (0 : Int32), iv (0 : Int32), iv (((((s0 &&& (1 : Int32)) + (0 : Int32)) + (0 : Int32)) + (0 : Int32)) + (0 : Int32)), iv ((((((s0 &&& (1 : Int32)) + (0 : Int32)) + (0 : Int32)) + (0 : Int32)) + (0 : Int32)) >>> ((1 : Int32) &&& 31))]) rfl ?_
      exact kt)
  have u0 : 0 ≤ (0 : Int32).toInt ∧ (0 : Int32).toInt ≤ 0 := by decide
  have u1 : 0 ≤ ((0 : Int32) + (s0 &&& 1)).toInt ∧ ((0 : Int32) + (s0 &&& 1)).toInt ≤ 1 := own_up (0 : Int32) s0 0 u0 (by decide)
  have hod' : od = ((0 : Int32) + (s0 &&& 1)) := by rw [hod, own_rem s0 nn0]
  have hH : od / (2 : Int32) = ((((((s0 &&& (1 : Int32)) + (0 : Int32)) + (0 : Int32)) + (0 : Int32)) + (0 : Int32)) >>> ((1 : Int32) &&& 31)) := by rw [hod', own_half _ u1.1]; simp only [Int32.add_zero, Int32.zero_add]
  have hqq0 : (0 : Int32) = (0 : Int32) := by rfl
  have hx0 : e0 = (s0 >>> ((1 : Int32) &&& 31)) + own_inc (0 : Int32) ((((((s0 &&& (1 : Int32)) + (0 : Int32)) + (0 : Int32)) + (0 : Int32)) + (0 : Int32)) >>> ((1 : Int32) &&& 31)) (s0 &&& (1 : Int32)) := by rw [he0, own_ve _ _ _ nn0, hH, hqq0]
  have go779 : own_S p e below ST T772 (mkF m 241 #[iv ls, iv a, iv b, iv c', iv d, iv e', iv (1 : Int32), iv s0, iv s1, iv s2, iv s3, iv s4, rv b766, rv bk, iv (s0 &&& (1 : Int32)), iv (0 : Int32), iv (0 : Int32), iv (0 : Int32), iv (0 : Int32), iv (((((s0 &&& (1 : Int32)) + (0 : Int32)) + (0 : Int32)) + (0 : Int32)) + (0 : Int32)), iv ((((((s0 &&& (1 : Int32)) + (0 : Int32)) + (0 : Int32)) + (0 : Int32)) + (0 : Int32)) >>> ((1 : Int32) &&& 31))] [(.int ((((((s0 &&& (1 : Int32)) + (0 : Int32)) + (0 : Int32)) + (0 : Int32)) + (0 : Int32)) >>> ((1 : Int32) &&& 31))), (.int (s0 &&& (1 : Int32))), (.int (0 : Int32)), (.int s0), (.int (1 : Int32)), (.int (0 : Int32)), (.ref bk)]) := fun tt kt => go778 tt (by
      refine XS.aload X772.here hx rfl (hb hby at_229) rfl rfl ?_
      refine XS.iconst X772.here hx rfl (hb hby at_231) ?_
      refine XS.iload X772.here hx rfl (hb hby at_232) rfl ?_
      refine XS.iload X772.here hx rfl (hb hby at_234) rfl ?_
      refine XS.iconst X772.here hx rfl (hb hby at_236) ?_
      refine XS.iload X772.here hx rfl (hb hby at_237) rfl ?_
      show Steps p.tables e below (T772.setTop (mkF m 239 #[iv ls, iv a, iv b, iv c', iv d, iv e', iv (1 : Int32), iv s0, iv s1, iv s2, iv s3, iv s4, rv b766, rv bk, iv (s0 &&& (1 : Int32)), iv (0 : Int32), iv (0 : Int32), iv (0 : Int32), iv (0 : Int32), iv (((((s0 &&& (1 : Int32)) + (0 : Int32)) + (0 : Int32)) + (0 : Int32)) + (0 : Int32)), iv ((((((s0 &&& (1 : Int32)) + (0 : Int32)) + (0 : Int32)) + (0 : Int32)) + (0 : Int32)) >>> ((1 : Int32) &&& 31))] [(.int (s0 &&& (1 : Int32))), (.int (0 : Int32)), (.int s0), (.int (1 : Int32)), (.int (0 : Int32)), (.ref bk)])) _
      refine XS.iload X772.here hx rfl (hb hby at_239) rfl ?_
      exact kt)
  have zs781 := (Nat.le_trans zs773 K772.1)
  obtain ⟨_, _, ⟨T780, L780, k780, n780⟩, -, X780, ⟨Lc780, hQ780, l780, y780, z780⟩, st780⟩ := Jvm.LawKit.callS X772 hx (y := (⟨"com/example/declination/declination/engine/Nsga2KeptCountsPinLaw", "slot", "([IIIIIII)Z"⟩ : MethodName)) hown (mvT hZ (W 6 rfl)) (mvT hZ (W 7 rfl)) (mvT hZ (W 8 rfl)) (mvT hZ (W 9 rfl)) (by decide) (backOf (W := 0) (rm2l l Z a0 hw [] bk (0 : Int32) (1 : Int32) s0 (0 : Int32) (s0 &&& (1 : Int32)) ((((((s0 &&& (1 : Int32)) + (0 : Int32)) + (0 : Int32)) + (0 : Int32)) + (0 : Int32)) >>> ((1 : Int32) &&& 31)) _ _ _ e0 T772.heap n0 zs781 (by decide) (by decide) Vk772 rfl hx0) hZ (W 9 rfl) (W 8 rfl) (by decide) (by decide)) (g := (mkF m 241 #[iv ls, iv a, iv b, iv c', iv d, iv e', iv (1 : Int32), iv s0, iv s1, iv s2, iv s3, iv s4, rv b766, rv bk, iv (s0 &&& (1 : Int32)), iv (0 : Int32), iv (0 : Int32), iv (0 : Int32), iv (0 : Int32), iv (((((s0 &&& (1 : Int32)) + (0 : Int32)) + (0 : Int32)) + (0 : Int32)) + (0 : Int32)), iv ((((((s0 &&& (1 : Int32)) + (0 : Int32)) + (0 : Int32)) + (0 : Int32)) + (0 : Int32)) >>> ((1 : Int32) &&& 31))] [(.int ((((((s0 &&& (1 : Int32)) + (0 : Int32)) + (0 : Int32)) + (0 : Int32)) + (0 : Int32)) >>> ((1 : Int32) &&& 31))), (.int (s0 &&& (1 : Int32))), (.int (0 : Int32)), (.int s0), (.int (1 : Int32)), (.int (0 : Int32)), (.ref bk)])) rfl (by rw [hml]; rfl) (argsL := [(.ref bk), (.int (0 : Int32)), (.int (1 : Int32)), (.int s0), (.int (0 : Int32)), (.int (s0 &&& (1 : Int32))), (.int ((((((s0 &&& (1 : Int32)) + (0 : Int32)) + (0 : Int32)) + (0 : Int32)) + (0 : Int32)) >>> ((1 : Int32) &&& 31)))]) (rest := []) (lenOf pd97 rfl) rfl (by show 2 * 0 + _ ≤ _; exact Nat.le_of_eq rfl) (hb hby at_241) (fun _ _ => ⟨rfl, rfl, (by decide : 2 + 0 ≤ _), (by decide : 2 + 0 ≤ _)⟩)
  dsimp only [Pt.U, Pt.locs, Pt.cells, Pt.slots] at X780 l780 y780 z780 st780 hQ780
  subst l780 y780 z780
  obtain ⟨rfl, Nq780, eh780⟩ := hQ780
  have N780 := Fr.app N772 Nq780
  have go782 : own_S p e below ST T780 (mkF m 244 #[iv ls, iv a, iv b, iv c', iv d, iv e', iv (1 : Int32), iv s0, iv s1, iv s2, iv s3, iv s4, rv b766, rv bk, iv (s0 &&& (1 : Int32)), iv (0 : Int32), iv (0 : Int32), iv (0 : Int32), iv (0 : Int32), iv (((((s0 &&& (1 : Int32)) + (0 : Int32)) + (0 : Int32)) + (0 : Int32)) + (0 : Int32)), iv ((((((s0 &&& (1 : Int32)) + (0 : Int32)) + (0 : Int32)) + (0 : Int32)) + (0 : Int32)) >>> ((1 : Int32) &&& 31))] [(.int (1 : Int32))]) := fun tt kt => go779 tt (st780 _ kt)
  have go783 : own_S p e below ST T780 (mkF m 260 #[iv ls, iv a, iv b, iv c', iv d, iv e', iv (1 : Int32), iv s0, iv s1, iv s2, iv s3, iv s4, rv b766, rv bk, iv (s0 &&& (1 : Int32)), iv (0 : Int32), iv (0 : Int32), iv (0 : Int32), iv (0 : Int32), iv (((((s0 &&& (1 : Int32)) + (0 : Int32)) + (0 : Int32)) + (0 : Int32)) + (0 : Int32)), iv ((((((s0 &&& (1 : Int32)) + (0 : Int32)) + (0 : Int32)) + (0 : Int32)) + (0 : Int32)) >>> ((1 : Int32) &&& 31))] [(.int ((((((s0 &&& (1 : Int32)) + (0 : Int32)) + (0 : Int32)) + (0 : Int32)) + (0 : Int32)) >>> ((1 : Int32) &&& 31))), (.int (0 : Int32)), (.int (s0 &&& (1 : Int32))), (.int s1), (.int (1 : Int32)), (.int (1 : Int32)), (.ref bk)]) := fun tt kt => go782 tt (by
      refine XS.ifNo X780.here hx rfl (hb hby at_244) rfl ((if0 _ _).trans (feq (by decide : ¬ ((1 : Int32) = (0 : Int32)))).1) ?_
      refine XS.aload X780.here hx rfl (hb hby at_247) rfl rfl ?_
      refine XS.iconst X780.here hx rfl (hb hby at_249) ?_
      refine XS.iload X780.here hx rfl (hb hby at_250) rfl ?_
      refine XS.iload X780.here hx rfl (hb hby at_252) rfl ?_
      refine XS.iload X780.here hx rfl (hb hby at_254) rfl ?_
      show Steps p.tables e below (T780.setTop (mkF m 256 #[iv ls, iv a, iv b, iv c', iv d, iv e', iv (1 : Int32), iv s0, iv s1, iv s2, iv s3, iv s4, rv b766, rv bk, iv (s0 &&& (1 : Int32)), iv (0 : Int32), iv (0 : Int32), iv (0 : Int32), iv (0 : Int32), iv (((((s0 &&& (1 : Int32)) + (0 : Int32)) + (0 : Int32)) + (0 : Int32)) + (0 : Int32)), iv ((((((s0 &&& (1 : Int32)) + (0 : Int32)) + (0 : Int32)) + (0 : Int32)) + (0 : Int32)) >>> ((1 : Int32) &&& 31))] [(.int (s0 &&& (1 : Int32))), (.int s1), (.int (1 : Int32)), (.int (1 : Int32)), (.ref bk)])) _
      refine XS.iload X780.here hx rfl (hb hby at_256) rfl ?_
      refine XS.iload X780.here hx rfl (hb hby at_258) rfl ?_
      exact kt)
  obtain ⟨_, _, ⟨T784, L784, k784, n784⟩, -, X784, ⟨Lc784, hQ784, l784, y784, z784⟩, st784⟩ := Jvm.LawKit.callS X780 hx (y := (⟨"com/example/declination/declination/engine/Nsga2KeptCountsPinLaw", "slot", "([IIIIIII)Z"⟩ : MethodName)) hown (mvT hZ (W 6 rfl)) (mvT hZ (W 7 rfl)) (mvT hZ (W 8 rfl)) (mvT hZ (W 9 rfl)) (by decide) (backOf (W := 0) (rm2g l Z a0 hw [] bk (1 : Int32) (1 : Int32) s1 (s0 &&& (1 : Int32)) (0 : Int32) ((((((s0 &&& (1 : Int32)) + (0 : Int32)) + (0 : Int32)) + (0 : Int32)) + (0 : Int32)) >>> ((1 : Int32) &&& 31)) T772.heap n0 zs781 (by decide)) hZ (W 9 rfl) (W 8 rfl) (by decide) (by decide)) (g := (mkF m 260 #[iv ls, iv a, iv b, iv c', iv d, iv e', iv (1 : Int32), iv s0, iv s1, iv s2, iv s3, iv s4, rv b766, rv bk, iv (s0 &&& (1 : Int32)), iv (0 : Int32), iv (0 : Int32), iv (0 : Int32), iv (0 : Int32), iv (((((s0 &&& (1 : Int32)) + (0 : Int32)) + (0 : Int32)) + (0 : Int32)) + (0 : Int32)), iv ((((((s0 &&& (1 : Int32)) + (0 : Int32)) + (0 : Int32)) + (0 : Int32)) + (0 : Int32)) >>> ((1 : Int32) &&& 31))] [(.int ((((((s0 &&& (1 : Int32)) + (0 : Int32)) + (0 : Int32)) + (0 : Int32)) + (0 : Int32)) >>> ((1 : Int32) &&& 31))), (.int (0 : Int32)), (.int (s0 &&& (1 : Int32))), (.int s1), (.int (1 : Int32)), (.int (1 : Int32)), (.ref bk)])) rfl (by rw [hml]; rfl) (argsL := [(.ref bk), (.int (1 : Int32)), (.int (1 : Int32)), (.int s1), (.int (s0 &&& (1 : Int32))), (.int (0 : Int32)), (.int ((((((s0 &&& (1 : Int32)) + (0 : Int32)) + (0 : Int32)) + (0 : Int32)) + (0 : Int32)) >>> ((1 : Int32) &&& 31)))]) (rest := []) (lenOf pd97 rfl) rfl (by show 2 * 0 + _ ≤ _; exact Nat.le_of_eq rfl) (hb hby at_260) (fun _ _ => ⟨rfl, eh780, (by decide : 2 + 0 ≤ _), (by decide : 2 + 0 ≤ _)⟩)
  dsimp only [Pt.U, Pt.locs, Pt.cells, Pt.slots] at X784 l784 y784 z784 st784 hQ784
  subst l784 y784 z784
  obtain ⟨rfl, Nq784, eh784⟩ := hQ784
  have N784 := Fr.app N780 Nq784
  have go785 : own_S p e below ST T784 (mkF m 263 #[iv ls, iv a, iv b, iv c', iv d, iv e', iv (1 : Int32), iv s0, iv s1, iv s2, iv s3, iv s4, rv b766, rv bk, iv (s0 &&& (1 : Int32)), iv (0 : Int32), iv (0 : Int32), iv (0 : Int32), iv (0 : Int32), iv (((((s0 &&& (1 : Int32)) + (0 : Int32)) + (0 : Int32)) + (0 : Int32)) + (0 : Int32)), iv ((((((s0 &&& (1 : Int32)) + (0 : Int32)) + (0 : Int32)) + (0 : Int32)) + (0 : Int32)) >>> ((1 : Int32) &&& 31))] [(.int (1 : Int32))]) := fun tt kt => go783 tt (st784 _ kt)
  have go786 : own_S p e below ST T784 (mkF m 282 #[iv ls, iv a, iv b, iv c', iv d, iv e', iv (1 : Int32), iv s0, iv s1, iv s2, iv s3, iv s4, rv b766, rv bk, iv (s0 &&& (1 : Int32)), iv (0 : Int32), iv (0 : Int32), iv (0 : Int32), iv (0 : Int32), iv (((((s0 &&& (1 : Int32)) + (0 : Int32)) + (0 : Int32)) + (0 : Int32)) + (0 : Int32)), iv ((((((s0 &&& (1 : Int32)) + (0 : Int32)) + (0 : Int32)) + (0 : Int32)) + (0 : Int32)) >>> ((1 : Int32) &&& 31))] [(.int ((((((s0 &&& (1 : Int32)) + (0 : Int32)) + (0 : Int32)) + (0 : Int32)) + (0 : Int32)) >>> ((1 : Int32) &&& 31))), (.int (0 : Int32)), (.int ((s0 &&& (1 : Int32)) + (0 : Int32))), (.int s2), (.int (1 : Int32)), (.int (2 : Int32)), (.ref bk)]) := fun tt kt => go785 tt (by
      refine XS.ifNo X784.here hx rfl (hb hby at_263) rfl ((if0 _ _).trans (feq (by decide : ¬ ((1 : Int32) = (0 : Int32)))).1) ?_
      refine XS.aload X784.here hx rfl (hb hby at_266) rfl rfl ?_
      refine XS.iconst X784.here hx rfl (hb hby at_268) ?_
      refine XS.iload X784.here hx rfl (hb hby at_269) rfl ?_
      refine XS.iload X784.here hx rfl (hb hby at_271) rfl ?_
      refine XS.iload X784.here hx rfl (hb hby at_273) rfl ?_
      show Steps p.tables e below (T784.setTop (mkF m 275 #[iv ls, iv a, iv b, iv c', iv d, iv e', iv (1 : Int32), iv s0, iv s1, iv s2, iv s3, iv s4, rv b766, rv bk, iv (s0 &&& (1 : Int32)), iv (0 : Int32), iv (0 : Int32), iv (0 : Int32), iv (0 : Int32), iv (((((s0 &&& (1 : Int32)) + (0 : Int32)) + (0 : Int32)) + (0 : Int32)) + (0 : Int32)), iv ((((((s0 &&& (1 : Int32)) + (0 : Int32)) + (0 : Int32)) + (0 : Int32)) + (0 : Int32)) >>> ((1 : Int32) &&& 31))] [(.int (s0 &&& (1 : Int32))), (.int s2), (.int (1 : Int32)), (.int (2 : Int32)), (.ref bk)])) _
      refine XS.iload X784.here hx rfl (hb hby at_275) rfl ?_
      refine XS.iadd X784.here hx rfl (hb hby at_277) rfl ?_
      refine XS.iload X784.here hx rfl (hb hby at_278) rfl ?_
      refine XS.iload X784.here hx rfl (hb hby at_280) rfl ?_
      exact kt)
  obtain ⟨_, _, ⟨T787, L787, k787, n787⟩, -, X787, ⟨Lc787, hQ787, l787, y787, z787⟩, st787⟩ := Jvm.LawKit.callS X784 hx (y := (⟨"com/example/declination/declination/engine/Nsga2KeptCountsPinLaw", "slot", "([IIIIIII)Z"⟩ : MethodName)) hown (mvT hZ (W 6 rfl)) (mvT hZ (W 7 rfl)) (mvT hZ (W 8 rfl)) (mvT hZ (W 9 rfl)) (by decide) (backOf (W := 0) (rm2g l Z a0 hw [] bk (2 : Int32) (1 : Int32) s2 ((s0 &&& (1 : Int32)) + (0 : Int32)) (0 : Int32) ((((((s0 &&& (1 : Int32)) + (0 : Int32)) + (0 : Int32)) + (0 : Int32)) + (0 : Int32)) >>> ((1 : Int32) &&& 31)) T772.heap n0 zs781 (by decide)) hZ (W 9 rfl) (W 8 rfl) (by decide) (by decide)) (g := (mkF m 282 #[iv ls, iv a, iv b, iv c', iv d, iv e', iv (1 : Int32), iv s0, iv s1, iv s2, iv s3, iv s4, rv b766, rv bk, iv (s0 &&& (1 : Int32)), iv (0 : Int32), iv (0 : Int32), iv (0 : Int32), iv (0 : Int32), iv (((((s0 &&& (1 : Int32)) + (0 : Int32)) + (0 : Int32)) + (0 : Int32)) + (0 : Int32)), iv ((((((s0 &&& (1 : Int32)) + (0 : Int32)) + (0 : Int32)) + (0 : Int32)) + (0 : Int32)) >>> ((1 : Int32) &&& 31))] [(.int ((((((s0 &&& (1 : Int32)) + (0 : Int32)) + (0 : Int32)) + (0 : Int32)) + (0 : Int32)) >>> ((1 : Int32) &&& 31))), (.int (0 : Int32)), (.int ((s0 &&& (1 : Int32)) + (0 : Int32))), (.int s2), (.int (1 : Int32)), (.int (2 : Int32)), (.ref bk)])) rfl (by rw [hml]; rfl) (argsL := [(.ref bk), (.int (2 : Int32)), (.int (1 : Int32)), (.int s2), (.int ((s0 &&& (1 : Int32)) + (0 : Int32))), (.int (0 : Int32)), (.int ((((((s0 &&& (1 : Int32)) + (0 : Int32)) + (0 : Int32)) + (0 : Int32)) + (0 : Int32)) >>> ((1 : Int32) &&& 31)))]) (rest := []) (lenOf pd97 rfl) rfl (by show 2 * 0 + _ ≤ _; exact Nat.le_of_eq rfl) (hb hby at_282) (fun _ _ => ⟨rfl, eh784, (by decide : 2 + 0 ≤ _), (by decide : 2 + 0 ≤ _)⟩)
  dsimp only [Pt.U, Pt.locs, Pt.cells, Pt.slots] at X787 l787 y787 z787 st787 hQ787
  subst l787 y787 z787
  obtain ⟨rfl, Nq787, eh787⟩ := hQ787
  have N787 := Fr.app N784 Nq787
  have go788 : own_S p e below ST T787 (mkF m 285 #[iv ls, iv a, iv b, iv c', iv d, iv e', iv (1 : Int32), iv s0, iv s1, iv s2, iv s3, iv s4, rv b766, rv bk, iv (s0 &&& (1 : Int32)), iv (0 : Int32), iv (0 : Int32), iv (0 : Int32), iv (0 : Int32), iv (((((s0 &&& (1 : Int32)) + (0 : Int32)) + (0 : Int32)) + (0 : Int32)) + (0 : Int32)), iv ((((((s0 &&& (1 : Int32)) + (0 : Int32)) + (0 : Int32)) + (0 : Int32)) + (0 : Int32)) >>> ((1 : Int32) &&& 31))] [(.int (1 : Int32))]) := fun tt kt => go786 tt (st787 _ kt)
  have go789 : own_S p e below ST T787 (mkF m 307 #[iv ls, iv a, iv b, iv c', iv d, iv e', iv (1 : Int32), iv s0, iv s1, iv s2, iv s3, iv s4, rv b766, rv bk, iv (s0 &&& (1 : Int32)), iv (0 : Int32), iv (0 : Int32), iv (0 : Int32), iv (0 : Int32), iv (((((s0 &&& (1 : Int32)) + (0 : Int32)) + (0 : Int32)) + (0 : Int32)) + (0 : Int32)), iv ((((((s0 &&& (1 : Int32)) + (0 : Int32)) + (0 : Int32)) + (0 : Int32)) + (0 : Int32)) >>> ((1 : Int32) &&& 31))] [(.int ((((((s0 &&& (1 : Int32)) + (0 : Int32)) + (0 : Int32)) + (0 : Int32)) + (0 : Int32)) >>> ((1 : Int32) &&& 31))), (.int (0 : Int32)), (.int (((s0 &&& (1 : Int32)) + (0 : Int32)) + (0 : Int32))), (.int s3), (.int (1 : Int32)), (.int (3 : Int32)), (.ref bk)]) := fun tt kt => go788 tt (by
      refine XS.ifNo X787.here hx rfl (hb hby at_285) rfl ((if0 _ _).trans (feq (by decide : ¬ ((1 : Int32) = (0 : Int32)))).1) ?_
      refine XS.aload X787.here hx rfl (hb hby at_288) rfl rfl ?_
      refine XS.iconst X787.here hx rfl (hb hby at_290) ?_
      refine XS.iload X787.here hx rfl (hb hby at_291) rfl ?_
      refine XS.iload X787.here hx rfl (hb hby at_293) rfl ?_
      refine XS.iload X787.here hx rfl (hb hby at_295) rfl ?_
      show Steps p.tables e below (T787.setTop (mkF m 297 #[iv ls, iv a, iv b, iv c', iv d, iv e', iv (1 : Int32), iv s0, iv s1, iv s2, iv s3, iv s4, rv b766, rv bk, iv (s0 &&& (1 : Int32)), iv (0 : Int32), iv (0 : Int32), iv (0 : Int32), iv (0 : Int32), iv (((((s0 &&& (1 : Int32)) + (0 : Int32)) + (0 : Int32)) + (0 : Int32)) + (0 : Int32)), iv ((((((s0 &&& (1 : Int32)) + (0 : Int32)) + (0 : Int32)) + (0 : Int32)) + (0 : Int32)) >>> ((1 : Int32) &&& 31))] [(.int (s0 &&& (1 : Int32))), (.int s3), (.int (1 : Int32)), (.int (3 : Int32)), (.ref bk)])) _
      refine XS.iload X787.here hx rfl (hb hby at_297) rfl ?_
      refine XS.iadd X787.here hx rfl (hb hby at_299) rfl ?_
      refine XS.iload X787.here hx rfl (hb hby at_300) rfl ?_
      refine XS.iadd X787.here hx rfl (hb hby at_302) rfl ?_
      refine XS.iload X787.here hx rfl (hb hby at_303) rfl ?_
      refine XS.iload X787.here hx rfl (hb hby at_305) rfl ?_
      exact kt)
  obtain ⟨_, _, ⟨T790, L790, k790, n790⟩, -, X790, ⟨Lc790, hQ790, l790, y790, z790⟩, st790⟩ := Jvm.LawKit.callS X787 hx (y := (⟨"com/example/declination/declination/engine/Nsga2KeptCountsPinLaw", "slot", "([IIIIIII)Z"⟩ : MethodName)) hown (mvT hZ (W 6 rfl)) (mvT hZ (W 7 rfl)) (mvT hZ (W 8 rfl)) (mvT hZ (W 9 rfl)) (by decide) (backOf (W := 0) (rm2g l Z a0 hw [] bk (3 : Int32) (1 : Int32) s3 (((s0 &&& (1 : Int32)) + (0 : Int32)) + (0 : Int32)) (0 : Int32) ((((((s0 &&& (1 : Int32)) + (0 : Int32)) + (0 : Int32)) + (0 : Int32)) + (0 : Int32)) >>> ((1 : Int32) &&& 31)) T772.heap n0 zs781 (by decide)) hZ (W 9 rfl) (W 8 rfl) (by decide) (by decide)) (g := (mkF m 307 #[iv ls, iv a, iv b, iv c', iv d, iv e', iv (1 : Int32), iv s0, iv s1, iv s2, iv s3, iv s4, rv b766, rv bk, iv (s0 &&& (1 : Int32)), iv (0 : Int32), iv (0 : Int32), iv (0 : Int32), iv (0 : Int32), iv (((((s0 &&& (1 : Int32)) + (0 : Int32)) + (0 : Int32)) + (0 : Int32)) + (0 : Int32)), iv ((((((s0 &&& (1 : Int32)) + (0 : Int32)) + (0 : Int32)) + (0 : Int32)) + (0 : Int32)) >>> ((1 : Int32) &&& 31))] [(.int ((((((s0 &&& (1 : Int32)) + (0 : Int32)) + (0 : Int32)) + (0 : Int32)) + (0 : Int32)) >>> ((1 : Int32) &&& 31))), (.int (0 : Int32)), (.int (((s0 &&& (1 : Int32)) + (0 : Int32)) + (0 : Int32))), (.int s3), (.int (1 : Int32)), (.int (3 : Int32)), (.ref bk)])) rfl (by rw [hml]; rfl) (argsL := [(.ref bk), (.int (3 : Int32)), (.int (1 : Int32)), (.int s3), (.int (((s0 &&& (1 : Int32)) + (0 : Int32)) + (0 : Int32))), (.int (0 : Int32)), (.int ((((((s0 &&& (1 : Int32)) + (0 : Int32)) + (0 : Int32)) + (0 : Int32)) + (0 : Int32)) >>> ((1 : Int32) &&& 31)))]) (rest := []) (lenOf pd97 rfl) rfl (by show 2 * 0 + _ ≤ _; exact Nat.le_of_eq rfl) (hb hby at_307) (fun _ _ => ⟨rfl, eh787, (by decide : 2 + 0 ≤ _), (by decide : 2 + 0 ≤ _)⟩)
  dsimp only [Pt.U, Pt.locs, Pt.cells, Pt.slots] at X790 l790 y790 z790 st790 hQ790
  subst l790 y790 z790
  obtain ⟨rfl, Nq790, eh790⟩ := hQ790
  have N790 := Fr.app N787 Nq790
  have go791 : own_S p e below ST T790 (mkF m 310 #[iv ls, iv a, iv b, iv c', iv d, iv e', iv (1 : Int32), iv s0, iv s1, iv s2, iv s3, iv s4, rv b766, rv bk, iv (s0 &&& (1 : Int32)), iv (0 : Int32), iv (0 : Int32), iv (0 : Int32), iv (0 : Int32), iv (((((s0 &&& (1 : Int32)) + (0 : Int32)) + (0 : Int32)) + (0 : Int32)) + (0 : Int32)), iv ((((((s0 &&& (1 : Int32)) + (0 : Int32)) + (0 : Int32)) + (0 : Int32)) + (0 : Int32)) >>> ((1 : Int32) &&& 31))] [(.int (1 : Int32))]) := fun tt kt => go789 tt (st790 _ kt)
  have go792 : own_S p e below ST T790 (mkF m 335 #[iv ls, iv a, iv b, iv c', iv d, iv e', iv (1 : Int32), iv s0, iv s1, iv s2, iv s3, iv s4, rv b766, rv bk, iv (s0 &&& (1 : Int32)), iv (0 : Int32), iv (0 : Int32), iv (0 : Int32), iv (0 : Int32), iv (((((s0 &&& (1 : Int32)) + (0 : Int32)) + (0 : Int32)) + (0 : Int32)) + (0 : Int32)), iv ((((((s0 &&& (1 : Int32)) + (0 : Int32)) + (0 : Int32)) + (0 : Int32)) + (0 : Int32)) >>> ((1 : Int32) &&& 31))] [(.int ((((((s0 &&& (1 : Int32)) + (0 : Int32)) + (0 : Int32)) + (0 : Int32)) + (0 : Int32)) >>> ((1 : Int32) &&& 31))), (.int (0 : Int32)), (.int ((((s0 &&& (1 : Int32)) + (0 : Int32)) + (0 : Int32)) + (0 : Int32))), (.int s4), (.int (1 : Int32)), (.int (4 : Int32)), (.ref bk)]) := fun tt kt => go791 tt (by
      refine XS.ifNo X790.here hx rfl (hb hby at_310) rfl ((if0 _ _).trans (feq (by decide : ¬ ((1 : Int32) = (0 : Int32)))).1) ?_
      refine XS.aload X790.here hx rfl (hb hby at_313) rfl rfl ?_
      refine XS.iconst X790.here hx rfl (hb hby at_315) ?_
      refine XS.iload X790.here hx rfl (hb hby at_316) rfl ?_
      refine XS.iload X790.here hx rfl (hb hby at_318) rfl ?_
      refine XS.iload X790.here hx rfl (hb hby at_320) rfl ?_
      show Steps p.tables e below (T790.setTop (mkF m 322 #[iv ls, iv a, iv b, iv c', iv d, iv e', iv (1 : Int32), iv s0, iv s1, iv s2, iv s3, iv s4, rv b766, rv bk, iv (s0 &&& (1 : Int32)), iv (0 : Int32), iv (0 : Int32), iv (0 : Int32), iv (0 : Int32), iv (((((s0 &&& (1 : Int32)) + (0 : Int32)) + (0 : Int32)) + (0 : Int32)) + (0 : Int32)), iv ((((((s0 &&& (1 : Int32)) + (0 : Int32)) + (0 : Int32)) + (0 : Int32)) + (0 : Int32)) >>> ((1 : Int32) &&& 31))] [(.int (s0 &&& (1 : Int32))), (.int s4), (.int (1 : Int32)), (.int (4 : Int32)), (.ref bk)])) _
      refine XS.iload X790.here hx rfl (hb hby at_322) rfl ?_
      refine XS.iadd X790.here hx rfl (hb hby at_324) rfl ?_
      refine XS.iload X790.here hx rfl (hb hby at_325) rfl ?_
      refine XS.iadd X790.here hx rfl (hb hby at_327) rfl ?_
      refine XS.iload X790.here hx rfl (hb hby at_328) rfl ?_
      refine XS.iadd X790.here hx rfl (hb hby at_330) rfl ?_
      show Steps p.tables e below (T790.setTop (mkF m 331 #[iv ls, iv a, iv b, iv c', iv d, iv e', iv (1 : Int32), iv s0, iv s1, iv s2, iv s3, iv s4, rv b766, rv bk, iv (s0 &&& (1 : Int32)), iv (0 : Int32), iv (0 : Int32), iv (0 : Int32), iv (0 : Int32), iv (((((s0 &&& (1 : Int32)) + (0 : Int32)) + (0 : Int32)) + (0 : Int32)) + (0 : Int32)), iv ((((((s0 &&& (1 : Int32)) + (0 : Int32)) + (0 : Int32)) + (0 : Int32)) + (0 : Int32)) >>> ((1 : Int32) &&& 31))] [(.int ((((s0 &&& (1 : Int32)) + (0 : Int32)) + (0 : Int32)) + (0 : Int32))), (.int s4), (.int (1 : Int32)), (.int (4 : Int32)), (.ref bk)])) _
      refine XS.iload X790.here hx rfl (hb hby at_331) rfl ?_
      refine XS.iload X790.here hx rfl (hb hby at_333) rfl ?_
      exact kt)
  obtain ⟨_, _, ⟨T793, L793, k793, n793⟩, -, X793, ⟨Lc793, hQ793, l793, y793, z793⟩, st793⟩ := Jvm.LawKit.callS X790 hx (y := (⟨"com/example/declination/declination/engine/Nsga2KeptCountsPinLaw", "slot", "([IIIIIII)Z"⟩ : MethodName)) hown (mvT hZ (W 6 rfl)) (mvT hZ (W 7 rfl)) (mvT hZ (W 8 rfl)) (mvT hZ (W 9 rfl)) (by decide) (backOf (W := 0) (rm2g l Z a0 hw [] bk (4 : Int32) (1 : Int32) s4 ((((s0 &&& (1 : Int32)) + (0 : Int32)) + (0 : Int32)) + (0 : Int32)) (0 : Int32) ((((((s0 &&& (1 : Int32)) + (0 : Int32)) + (0 : Int32)) + (0 : Int32)) + (0 : Int32)) >>> ((1 : Int32) &&& 31)) T772.heap n0 zs781 (by decide)) hZ (W 9 rfl) (W 8 rfl) (by decide) (by decide)) (g := (mkF m 335 #[iv ls, iv a, iv b, iv c', iv d, iv e', iv (1 : Int32), iv s0, iv s1, iv s2, iv s3, iv s4, rv b766, rv bk, iv (s0 &&& (1 : Int32)), iv (0 : Int32), iv (0 : Int32), iv (0 : Int32), iv (0 : Int32), iv (((((s0 &&& (1 : Int32)) + (0 : Int32)) + (0 : Int32)) + (0 : Int32)) + (0 : Int32)), iv ((((((s0 &&& (1 : Int32)) + (0 : Int32)) + (0 : Int32)) + (0 : Int32)) + (0 : Int32)) >>> ((1 : Int32) &&& 31))] [(.int ((((((s0 &&& (1 : Int32)) + (0 : Int32)) + (0 : Int32)) + (0 : Int32)) + (0 : Int32)) >>> ((1 : Int32) &&& 31))), (.int (0 : Int32)), (.int ((((s0 &&& (1 : Int32)) + (0 : Int32)) + (0 : Int32)) + (0 : Int32))), (.int s4), (.int (1 : Int32)), (.int (4 : Int32)), (.ref bk)])) rfl (by rw [hml]; rfl) (argsL := [(.ref bk), (.int (4 : Int32)), (.int (1 : Int32)), (.int s4), (.int ((((s0 &&& (1 : Int32)) + (0 : Int32)) + (0 : Int32)) + (0 : Int32))), (.int (0 : Int32)), (.int ((((((s0 &&& (1 : Int32)) + (0 : Int32)) + (0 : Int32)) + (0 : Int32)) + (0 : Int32)) >>> ((1 : Int32) &&& 31)))]) (rest := []) (lenOf pd97 rfl) rfl (by show 2 * 0 + _ ≤ _; exact Nat.le_of_eq rfl) (hb hby at_335) (fun _ _ => ⟨rfl, eh790, (by decide : 2 + 0 ≤ _), (by decide : 2 + 0 ≤ _)⟩)
  dsimp only [Pt.U, Pt.locs, Pt.cells, Pt.slots] at X793 l793 y793 z793 st793 hQ793
  subst l793 y793 z793
  obtain ⟨rfl, Nq793, eh793⟩ := hQ793
  have N793 := Fr.app N790 Nq793
  have go794 : own_S p e below ST T793 (mkF m 338 #[iv ls, iv a, iv b, iv c', iv d, iv e', iv (1 : Int32), iv s0, iv s1, iv s2, iv s3, iv s4, rv b766, rv bk, iv (s0 &&& (1 : Int32)), iv (0 : Int32), iv (0 : Int32), iv (0 : Int32), iv (0 : Int32), iv (((((s0 &&& (1 : Int32)) + (0 : Int32)) + (0 : Int32)) + (0 : Int32)) + (0 : Int32)), iv ((((((s0 &&& (1 : Int32)) + (0 : Int32)) + (0 : Int32)) + (0 : Int32)) + (0 : Int32)) >>> ((1 : Int32) &&& 31))] [(.int (1 : Int32))]) := fun tt kt => go792 tt (st793 _ kt)
  have go795 : own_S p e below ST T793 (mkF m 346 #[iv ls, iv a, iv b, iv c', iv d, iv e', iv (1 : Int32), iv s0, iv s1, iv s2, iv s3, iv s4, rv b766, rv bk, iv (s0 &&& (1 : Int32)), iv (0 : Int32), iv (0 : Int32), iv (0 : Int32), iv (0 : Int32), iv (((((s0 &&& (1 : Int32)) + (0 : Int32)) + (0 : Int32)) + (0 : Int32)) + (0 : Int32)), iv ((((((s0 &&& (1 : Int32)) + (0 : Int32)) + (0 : Int32)) + (0 : Int32)) + (0 : Int32)) >>> ((1 : Int32) &&& 31))] [(.int (1 : Int32))]) := fun tt kt => go794 tt (by
      refine XS.ifNo X793.here hx rfl (hb hby at_338) rfl ((if0 _ _).trans (feq (by decide : ¬ ((1 : Int32) = (0 : Int32)))).1) ?_
      refine XS.iconst X793.here hx rfl (hb hby at_341) ?_
      refine XS.goto X793.here hx rfl (pc0 := 342) (pc' := 346) rfl (hb hby at_342) (by decide) (by decide) ?_
      exact kt)
  obtain ⟨fs, hr, hrun, hended, hW, hsame⟩ := X793.leave (v := some (.int (1 : Int32))) (fun h => by rw [Bd.returns] at h; cases h)
  refine ⟨_, _, pre0 _ (go795 _ ?_), hrun, hended, _, _, rfl, ?_, ⟨_, rfl⟩, hW, hsame.mono (by decide) (by decide)⟩
  · exact retN X793 hx (t := .boolean) Bd.returns (by simp) (hb hby at_346) hr
  · show Q0k1 Z ls a b c' d e' h0 n0 _ T793.heap _
    rw [eh793]
    exact ⟨rfl, N793⟩
theorem ef0k2 (m : MethodId) (x0 : Int32) (x1 : Int32) (x2 : Int32) (x3 : Int32) (x4 : Int32) (x5 : Int32) : entryFrame m #[(.int x0), (.int x1), (.int x2), (.int x3), (.int x4), (.int x5)] maxLocals = mkF m 0 #[.val (.int x0), .val (.int x1), .val (.int x2), .val (.int x3), .val (.int x4), .val (.int x5), .unset, .unset, .unset, .unset, .unset, .unset, .unset, .unset, .unset, .unset, .unset, .unset, .unset, .unset, .unset] [] := by first | (simp [entryFrame, mkF, argsToLocals, Value.category, maxLocals]; done) | rfl
def Q0k2 (Z : State) (ls : Int32) (a : Int32) (b : Int32) (c' : Int32) (d : Int32) (e' : Int32) (h0 : Heap) (n0 : Nat) (v : Option Value) (h : Heap) (L : List Loc) : Prop := v = some (.int 1) ∧ Fr n0 L
set_option maxRecDepth 65536 in
set_option maxHeartbeats 40000000 in
theorem rm0k2 (l : Launch) (Z : State) (a0 : Array Value) (hw : ∀ d ∈ tables_1, d.before a0 Z = true) (ws : List Jvm.Cond) (ls : Int32) (a : Int32) (b : Int32) (c' : Int32) (d : Int32) (e' : Int32) (h0 : Heap) (n0 : Nat) (Z0 : n0 ≤ h0.size) (hk : (ls &&& 2147483647) % 6 = 2) :
    MetFree l x (head1 (Jvm.Cond.code x code maxLocals ret :: ws) room_1) (fun aa UU => aa = #[(.int ls), (.int a), (.int b), (.int c'), (.int d), (.int e')] ∧ Z.Warmed39 UU.vm ∧ UU.heap = h0) (fun _ _ _ _ _ => True) (fun _ UU oo UU' => ∃ vv LL, oo = .returned vv ∧ Q0k2 Z ls a b c' d e' h0 n0 vv UU'.heap LL ∧ FrameEnd UU oo UU' LL room_1.cells room_1.slots) := by
  have W : ∀ {d : Jvm.Cond} (i : Nat), tables_1[i]? = some d → d.before a0 Z = true := fun i h => hw _ (List.mem_of_getElem? h)
  refine MetFree.of_bodySF (plainFor_of_name pn0) hisR ?_
  intro p e s m args below meth c s₁ Bd hml0 hP hK
  obtain ⟨rfl, hZ, hh⟩ := hP
  have hx := Bd.exec
  have hby := Bd.bytes
  have hml : c.maxLocals = 21 := hml0
  have hown : s.vm.findClass "com/example/declination/declination/engine/Nsga2KeptCountsPinLaw" = some m.cls := findClass_of_methodNamed Bd.named
  have hnm := (name_of_methodNamed Bd.named Bd.method).1
  have X0 : Stand p l e room_1 s m #[(.int ls), (.int a), (.int b), (.int c'), (.int d), (.int e')] below meth c s₁ [] 0 0 := Stand.of_body Bd
  have e0 : s₁.heap = h0 := by rw [← hh, Bd.state]; rfl
  have N0 := Fr.nil n0
  have pre0 : ∀ tt, Steps p.tables e below (s₁.setTop (mkF m 0 #[iv ls, iv a, iv b, iv c', iv d, iv e', .unset, .unset, .unset, .unset, .unset, .unset, .unset, .unset, .unset, .unset, .unset, .unset, .unset, .unset, .unset] [])) tt → Steps p.tables e below (s₁.setTop (entryFrame m #[(.int ls), (.int a), (.int b), (.int c'), (.int d), (.int e')] maxLocals)) tt := fun tt kt => castTop (ef0k2 m ls a b c' d e') kt
  obtain ⟨ST, hST⟩ : ∃ z : State, z = s₁.setTop (mkF m 0 #[iv ls, iv a, iv b, iv c', iv d, iv e', .unset, .unset, .unset, .unset, .unset, .unset, .unset, .unset, .unset, .unset, .unset, .unset, .unset, .unset, .unset] []) := ⟨_, rfl⟩
  rw [← hST] at pre0
  have go796 : own_S p e below ST s₁ (mkF m 9 #[iv ls, iv a, iv b, iv c', iv d, iv e', iv ((ls &&& (2147483647 : Int32)) % (6 : Int32)), .unset, .unset, .unset, .unset, .unset, .unset, .unset, .unset, .unset, .unset, .unset, .unset, .unset, .unset] []) := fun tt kt => (by
      rw [hST]
      show Steps p.tables e below (s₁.setTop (mkF m 0 #[iv ls, iv a, iv b, iv c', iv d, iv e', .unset, .unset, .unset, .unset, .unset, .unset, .unset, .unset, .unset, .unset, .unset, .unset, .unset, .unset, .unset] [])) _
      refine XS.iloadN X0.here hx rfl (hb hby at_0) rfl ?_
      refine X0.ldcInt hx hown (mvT hZ (W 0 rfl)) (g := (mkF m 1 #[iv ls, iv a, iv b, iv c', iv d, iv e', .unset, .unset, .unset, .unset, .unset, .unset, .unset, .unset, .unset, .unset, .unset, .unset, .unset, .unset, .unset] [(.int ls)])) rfl (hb hby at_1) _ ?_
      refine XS.iand X0.here hx rfl (hb hby at_3) rfl ?_
      refine XS.bipush X0.here hx rfl (hb hby at_4) ?_
      refine iremM (g := (mkF m 6 #[iv ls, iv a, iv b, iv c', iv d, iv e', .unset, .unset, .unset, .unset, .unset, .unset, .unset, .unset, .unset, .unset, .unset, .unset, .unset, .unset, .unset] [(.int (6 : Int32)), (.int (ls &&& (2147483647 : Int32)))])) X0 hx rfl (hb hby at_6) rfl (by decide) ?_
      refine XS.istore X0.here hx rfl (hb hby at_7) rfl (l' := #[iv ls, iv a, iv b, iv c', iv d, iv e', iv ((ls &&& (2147483647 : Int32)) % (6 : Int32)), .unset, .unset, .unset, .unset, .unset, .unset, .unset, .unset, .unset, .unset, .unset, .unset, .unset, .unset]) rfl ?_
      exact kt)
  rw [hk] at go796
  have go797 : own_S p e below ST s₁ (mkF m 15 #[iv ls, iv a, iv b, iv c', iv d, iv e', iv (2 : Int32), iv (a &&& (2147483647 : Int32)), .unset, .unset, .unset, .unset, .unset, .unset, .unset, .unset, .unset, .unset, .unset, .unset, .unset] []) := fun tt kt => go796 tt (by
      refine XS.iloadN X0.here hx rfl (hb hby at_9) rfl ?_
      refine X0.ldcInt hx hown (mvT hZ (W 0 rfl)) (g := (mkF m 10 #[iv ls, iv a, iv b, iv c', iv d, iv e', iv (2 : Int32), .unset, .unset, .unset, .unset, .unset, .unset, .unset, .unset, .unset, .unset, .unset, .unset, .unset, .unset] [(.int a)])) rfl (hb hby at_10) _ ?_
      refine XS.iand X0.here hx rfl (hb hby at_12) rfl ?_
      refine XS.istore X0.here hx rfl (hb hby at_13) rfl (l' := #[iv ls, iv a, iv b, iv c', iv d, iv e', iv (2 : Int32), iv (a &&& (2147483647 : Int32)), .unset, .unset, .unset, .unset, .unset, .unset, .unset, .unset, .unset, .unset, .unset, .unset, .unset]) rfl ?_
      exact kt)
  obtain ⟨s0, hs0⟩ : ∃ z : Int32, z = (a &&& (2147483647 : Int32)) := ⟨_, rfl⟩
  rw [← hs0] at go797
  have nn0 := own_nn _ s0 hs0
  have go798 : own_S p e below ST s₁ (mkF m 21 #[iv ls, iv a, iv b, iv c', iv d, iv e', iv (2 : Int32), iv s0, iv (b &&& (2147483647 : Int32)), .unset, .unset, .unset, .unset, .unset, .unset, .unset, .unset, .unset, .unset, .unset, .unset] []) := fun tt kt => go797 tt (by
      refine XS.iloadN X0.here hx rfl (hb hby at_15) rfl ?_
      refine X0.ldcInt hx hown (mvT hZ (W 0 rfl)) (g := (mkF m 16 #[iv ls, iv a, iv b, iv c', iv d, iv e', iv (2 : Int32), iv s0, .unset, .unset, .unset, .unset, .unset, .unset, .unset, .unset, .unset, .unset, .unset, .unset, .unset] [(.int b)])) rfl (hb hby at_16) _ ?_
      refine XS.iand X0.here hx rfl (hb hby at_18) rfl ?_
      refine XS.istore X0.here hx rfl (hb hby at_19) rfl (l' := #[iv ls, iv a, iv b, iv c', iv d, iv e', iv (2 : Int32), iv s0, iv (b &&& (2147483647 : Int32)), .unset, .unset, .unset, .unset, .unset, .unset, .unset, .unset, .unset, .unset, .unset, .unset]) rfl ?_
      exact kt)
  obtain ⟨s1, hs1⟩ : ∃ z : Int32, z = (b &&& (2147483647 : Int32)) := ⟨_, rfl⟩
  rw [← hs1] at go798
  have nn1 := own_nn _ s1 hs1
  have go799 : own_S p e below ST s₁ (mkF m 27 #[iv ls, iv a, iv b, iv c', iv d, iv e', iv (2 : Int32), iv s0, iv s1, iv (c' &&& (2147483647 : Int32)), .unset, .unset, .unset, .unset, .unset, .unset, .unset, .unset, .unset, .unset, .unset] []) := fun tt kt => go798 tt (by
      refine XS.iloadN X0.here hx rfl (hb hby at_21) rfl ?_
      refine X0.ldcInt hx hown (mvT hZ (W 0 rfl)) (g := (mkF m 22 #[iv ls, iv a, iv b, iv c', iv d, iv e', iv (2 : Int32), iv s0, iv s1, .unset, .unset, .unset, .unset, .unset, .unset, .unset, .unset, .unset, .unset, .unset, .unset] [(.int c')])) rfl (hb hby at_22) _ ?_
      refine XS.iand X0.here hx rfl (hb hby at_24) rfl ?_
      refine XS.istore X0.here hx rfl (hb hby at_25) rfl (l' := #[iv ls, iv a, iv b, iv c', iv d, iv e', iv (2 : Int32), iv s0, iv s1, iv (c' &&& (2147483647 : Int32)), .unset, .unset, .unset, .unset, .unset, .unset, .unset, .unset, .unset, .unset, .unset]) rfl ?_
      exact kt)
  obtain ⟨s2, hs2⟩ : ∃ z : Int32, z = (c' &&& (2147483647 : Int32)) := ⟨_, rfl⟩
  rw [← hs2] at go799
  have nn2 := own_nn _ s2 hs2
  have go800 : own_S p e below ST s₁ (mkF m 34 #[iv ls, iv a, iv b, iv c', iv d, iv e', iv (2 : Int32), iv s0, iv s1, iv s2, iv (d &&& (2147483647 : Int32)), .unset, .unset, .unset, .unset, .unset, .unset, .unset, .unset, .unset, .unset] []) := fun tt kt => go799 tt (by
      refine XS.iload X0.here hx rfl (hb hby at_27) rfl ?_
      refine X0.ldcInt hx hown (mvT hZ (W 0 rfl)) (g := (mkF m 29 #[iv ls, iv a, iv b, iv c', iv d, iv e', iv (2 : Int32), iv s0, iv s1, iv s2, .unset, .unset, .unset, .unset, .unset, .unset, .unset, .unset, .unset, .unset, .unset] [(.int d)])) rfl (hb hby at_29) _ ?_
      refine XS.iand X0.here hx rfl (hb hby at_31) rfl ?_
      refine XS.istore X0.here hx rfl (hb hby at_32) rfl (l' := #[iv ls, iv a, iv b, iv c', iv d, iv e', iv (2 : Int32), iv s0, iv s1, iv s2, iv (d &&& (2147483647 : Int32)), .unset, .unset, .unset, .unset, .unset, .unset, .unset, .unset, .unset, .unset]) rfl ?_
      exact kt)
  obtain ⟨s3, hs3⟩ : ∃ z : Int32, z = (d &&& (2147483647 : Int32)) := ⟨_, rfl⟩
  rw [← hs3] at go800
  have nn3 := own_nn _ s3 hs3
  have go801 : own_S p e below ST s₁ (mkF m 41 #[iv ls, iv a, iv b, iv c', iv d, iv e', iv (2 : Int32), iv s0, iv s1, iv s2, iv s3, iv (e' &&& (2147483647 : Int32)), .unset, .unset, .unset, .unset, .unset, .unset, .unset, .unset, .unset] []) := fun tt kt => go800 tt (by
      refine XS.iload X0.here hx rfl (hb hby at_34) rfl ?_
      refine X0.ldcInt hx hown (mvT hZ (W 0 rfl)) (g := (mkF m 36 #[iv ls, iv a, iv b, iv c', iv d, iv e', iv (2 : Int32), iv s0, iv s1, iv s2, iv s3, .unset, .unset, .unset, .unset, .unset, .unset, .unset, .unset, .unset, .unset] [(.int e')])) rfl (hb hby at_36) _ ?_
      refine XS.iand X0.here hx rfl (hb hby at_38) rfl ?_
      refine XS.istore X0.here hx rfl (hb hby at_39) rfl (l' := #[iv ls, iv a, iv b, iv c', iv d, iv e', iv (2 : Int32), iv s0, iv s1, iv s2, iv s3, iv (e' &&& (2147483647 : Int32)), .unset, .unset, .unset, .unset, .unset, .unset, .unset, .unset, .unset]) rfl ?_
      exact kt)
  obtain ⟨s4, hs4⟩ : ∃ z : Int32, z = (e' &&& (2147483647 : Int32)) := ⟨_, rfl⟩
  rw [← hs4] at go801
  have nn4 := own_nn _ s4 hs4
  have go802 : own_S p e below ST s₁ (mkF m 43 #[iv ls, iv a, iv b, iv c', iv d, iv e', iv (2 : Int32), iv s0, iv s1, iv s2, iv s3, iv s4, .unset, .unset, .unset, .unset, .unset, .unset, .unset, .unset, .unset] [(.int (2 : Int32))]) := fun tt kt => go801 tt (by
      refine XS.iload X0.here hx rfl (hb hby at_41) rfl ?_
      exact kt)
  obtain ⟨b803, g803⟩ : ∃ z, z = h0.size := ⟨_, rfl⟩
  obtain ⟨T803, h803, k803, X803, e803, E803, A803, st803⟩ := newP X0 hx hZ (W 1 rfl) e0 (g := (mkF m 43 #[iv ls, iv a, iv b, iv c', iv d, iv e', iv (2 : Int32), iv s0, iv s1, iv s2, iv s3, iv s4, .unset, .unset, .unset, .unset, .unset, .unset, .unset, .unset, .unset] [(.int (2 : Int32))])) rfl (hb hby at_43) rfl (by decide) (cap := 2) (by decide) (by decide) (by decide) (by decide)
  rw [← g803] at A803 st803
  have ge_b803 : n0 ≤ b803 := Nat.le_trans Z0 (Nat.le_of_eq g803.symm)
  have V803 : Arv Z h803 b803 k803 .int (2 : Int32) [(.int (0 : Int32)), (.int (0 : Int32))] (.int (0 : Int32)) := (Arv.new A803 (by decide)).pad (pad_rep [] (.int (0 : Int32)) 2)
  have go804 : own_S p e below ST T803 (mkF m 45 #[iv ls, iv a, iv b, iv c', iv d, iv e', iv (2 : Int32), iv s0, iv s1, iv s2, iv s3, iv s4, .unset, .unset, .unset, .unset, .unset, .unset, .unset, .unset, .unset] [(.ref b803)]) := fun tt kt => go802 tt (st803 _ kt)
  have go805 : own_S p e below ST T803 (mkF m 57 #[iv ls, iv a, iv b, iv c', iv d, iv e', iv (2 : Int32), iv s0, iv s1, iv s2, iv s3, iv s4, rv b803, .unset, .unset, .unset, .unset, .unset, .unset, .unset, .unset] [(.int s0), (.int (0 : Int32)), (.ref b803)]) := fun tt kt => go804 tt (by
      refine XS.astore X803.here hx rfl (hb hby at_45) rfl rfl (l' := #[iv ls, iv a, iv b, iv c', iv d, iv e', iv (2 : Int32), iv s0, iv s1, iv s2, iv s3, iv s4, rv b803, .unset, .unset, .unset, .unset, .unset, .unset, .unset, .unset]) rfl ?_
      refine XS.iload X803.here hx rfl (hb hby at_47) rfl ?_
      refine XS.ifNo X803.here hx rfl (hb hby at_49) rfl ((if0 _ _).trans (tlt (by decide : (0 : Int32) < (2 : Int32))).2.2.2) ?_
      refine XS.aload X803.here hx rfl (hb hby at_52) rfl rfl ?_
      refine XS.iconst X803.here hx rfl (hb hby at_54) ?_
      refine XS.iload X803.here hx rfl (hb hby at_55) rfl ?_
      exact kt)
  obtain ⟨cl806, Ar806, q806, S806, M806, H806, G806⟩ := id V803
  have hin806 : ¬ ((0 : Int32) < 0 ∨ cl806.slots.size ≤ ((0 : Int32)).toNatClampNeg) := inb_of S806 ⟨by decide, by decide⟩
  obtain ⟨T806, h806, X806, e806, W806, st806⟩ := stI X803 hx hZ e803 Ar806 (j := (0 : Int32)) hin806 (g := (mkF m 57 #[iv ls, iv a, iv b, iv c', iv d, iv e', iv (2 : Int32), iv s0, iv s1, iv s2, iv s3, iv s4, rv b803, .unset, .unset, .unset, .unset, .unset, .unset, .unset, .unset] [(.int s0), (.int (0 : Int32)), (.ref b803)])) rfl rfl (hb hby at_57)
  have V806 : Arv Z h806 b803 k803 .int (2 : Int32) [(.int s0), (.int (0 : Int32))] (.int (0 : Int32)) := Arv.set Ar806 q806 S806 M806 H806 G806 rfl W806 0 rfl (Nat.le_of_ble_eq_true rfl)
  have N806 := Fr.snoc X806 N0 ge_b803
  have go807 : own_S p e below ST T806 (mkF m 58 #[iv ls, iv a, iv b, iv c', iv d, iv e', iv (2 : Int32), iv s0, iv s1, iv s2, iv s3, iv s4, rv b803, .unset, .unset, .unset, .unset, .unset, .unset, .unset, .unset] []) := fun tt kt => go805 tt (st806 _ kt)
  have go808 : own_S p e below ST T806 (mkF m 69 #[iv ls, iv a, iv b, iv c', iv d, iv e', iv (2 : Int32), iv s0, iv s1, iv s2, iv s3, iv s4, rv b803, .unset, .unset, .unset, .unset, .unset, .unset, .unset, .unset] [(.int s1), (.int (1 : Int32)), (.ref b803)]) := fun tt kt => go807 tt (by
      refine XS.iload X806.here hx rfl (hb hby at_58) rfl ?_
      refine XS.iconst X806.here hx rfl (hb hby at_60) ?_
      refine XS.icmpNo X806.here hx rfl (hb hby at_61) rfl (tlt (by decide : (1 : Int32) < (2 : Int32))).2.2.2 ?_
      refine XS.aload X806.here hx rfl (hb hby at_64) rfl rfl ?_
      refine XS.iconst X806.here hx rfl (hb hby at_66) ?_
      refine XS.iload X806.here hx rfl (hb hby at_67) rfl ?_
      exact kt)
  obtain ⟨cl809, Ar809, q809, S809, M809, H809, G809⟩ := id V806
  have hin809 : ¬ ((1 : Int32) < 0 ∨ cl809.slots.size ≤ ((1 : Int32)).toNatClampNeg) := inb_of S809 ⟨by decide, by decide⟩
  obtain ⟨T809, h809, X809, e809, W809, st809⟩ := stI X806 hx hZ e806 Ar809 (j := (1 : Int32)) hin809 (g := (mkF m 69 #[iv ls, iv a, iv b, iv c', iv d, iv e', iv (2 : Int32), iv s0, iv s1, iv s2, iv s3, iv s4, rv b803, .unset, .unset, .unset, .unset, .unset, .unset, .unset, .unset] [(.int s1), (.int (1 : Int32)), (.ref b803)])) rfl rfl (hb hby at_69)
  have V809 : Arv Z h809 b803 k803 .int (2 : Int32) [(.int s0), (.int s1)] (.int (0 : Int32)) := Arv.set Ar809 q809 S809 M809 H809 G809 rfl W809 1 rfl (Nat.le_of_ble_eq_true rfl)
  have N809 := Fr.snoc X809 N806 ge_b803
  have go810 : own_S p e below ST T809 (mkF m 70 #[iv ls, iv a, iv b, iv c', iv d, iv e', iv (2 : Int32), iv s0, iv s1, iv s2, iv s3, iv s4, rv b803, .unset, .unset, .unset, .unset, .unset, .unset, .unset, .unset] []) := fun tt kt => go808 tt (st809 _ kt)
  have go811 : own_S p e below ST T809 (mkF m 108 #[iv ls, iv a, iv b, iv c', iv d, iv e', iv (2 : Int32), iv s0, iv s1, iv s2, iv s3, iv s4, rv b803, .unset, .unset, .unset, .unset, .unset, .unset, .unset, .unset] [(.ref b803)]) := fun tt kt => go810 tt (by
      refine XS.iload X809.here hx rfl (hb hby at_70) rfl ?_
      refine XS.iconst X809.here hx rfl (hb hby at_72) ?_
      refine XS.icmpYes X809.here hx rfl (pc0 := 73) (pc' := 82) rfl (hb hby at_73) rfl (flt (by decide : ¬ ((2 : Int32) < (2 : Int32)))).2.2.2 (by decide) (by decide) ?_
      refine XS.iload X809.here hx rfl (hb hby at_82) rfl ?_
      refine XS.iconst X809.here hx rfl (hb hby at_84) ?_
      refine XS.icmpYes X809.here hx rfl (pc0 := 85) (pc' := 94) rfl (hb hby at_85) rfl (flt (by decide : ¬ ((3 : Int32) < (2 : Int32)))).2.2.2 (by decide) (by decide) ?_
      show Steps p.tables e below (T809.setTop (mkF m 94 #[iv ls, iv a, iv b, iv c', iv d, iv e', iv (2 : Int32), iv s0, iv s1, iv s2, iv s3, iv s4, rv b803, .unset, .unset, .unset, .unset, .unset, .unset, .unset, .unset] [])) _
      refine XS.iload X809.here hx rfl (hb hby at_94) rfl ?_
      refine XS.iconst X809.here hx rfl (hb hby at_96) ?_
      refine XS.icmpYes X809.here hx rfl (pc0 := 97) (pc' := 106) rfl (hb hby at_97) rfl (flt (by decide : ¬ ((4 : Int32) < (2 : Int32)))).2.2.2 (by decide) (by decide) ?_
      refine XS.aload X809.here hx rfl (hb hby at_106) rfl rfl ?_
      exact kt)
  have zs813 := (Nat.le_trans (Nat.le_trans (Nat.le_trans Z0 E803.1) (Keep.of_wr W806).1) (Keep.of_wr W809).1)
  obtain ⟨_, _, ⟨T812, L812, k812, n812⟩, -, X812, ⟨Lc812, hQ812, l812, y812, z812⟩, st812⟩ := Jvm.LawKit.callS X809 hx (y := (⟨"com/example/declination/declination/engine/Nsga2", "keptCounts", "([I)[I"⟩ : MethodName)) hown (mvT hZ (W 2 rfl)) (mvT hZ (W 3 rfl)) (mvT hZ (W 4 rfl)) (mvT hZ (W 5 rfl)) (by decide) (backOf (W := 0) (rm1k2 l Z a0 hw [] b803 _ s0 s1 h809 n0 zs813 V809) hZ (W 5 rfl) (W 4 rfl) (by decide) (by decide)) (g := (mkF m 108 #[iv ls, iv a, iv b, iv c', iv d, iv e', iv (2 : Int32), iv s0, iv s1, iv s2, iv s3, iv s4, rv b803, .unset, .unset, .unset, .unset, .unset, .unset, .unset, .unset] [(.ref b803)])) rfl (by rw [hml]; rfl) (argsL := [(.ref b803)]) (rest := []) (lenOf pd96 rfl) rfl (by show 2 * 0 + _ ≤ _; exact Nat.le_of_eq rfl) (hb hby at_108) (fun _ _ => ⟨rfl, e809, (by decide : 1 + 1 ≤ _), (by decide : 2 + 2 ≤ _)⟩)
  dsimp only [Pt.U, Pt.locs, Pt.cells, Pt.slots] at X812 l812 y812 z812 st812 hQ812
  subst l812 y812 z812
  obtain ⟨bk, kk, od, e0, e1, q1, q2, rfl, Nq812, K812, Vk812, hod, he0, hq1, he1, hq2⟩ := hQ812
  have N812 := Fr.app N809 Nq812
  have go814 : own_S p e below ST T812 (mkF m 111 #[iv ls, iv a, iv b, iv c', iv d, iv e', iv (2 : Int32), iv s0, iv s1, iv s2, iv s3, iv s4, rv b803, .unset, .unset, .unset, .unset, .unset, .unset, .unset, .unset] [(.ref bk)]) := fun tt kt => go811 tt (st812 _ kt)
  have go815 : own_S p e below ST T812 (mkF m 120 #[iv ls, iv a, iv b, iv c', iv d, iv e', iv (2 : Int32), iv s0, iv s1, iv s2, iv s3, iv s4, rv b803, rv bk, .unset, .unset, .unset, .unset, .unset, .unset, .unset] [(.ref bk)]) := fun tt kt => go814 tt (by
      refine XS.astore X812.here hx rfl (hb hby at_111) rfl rfl (l' := #[iv ls, iv a, iv b, iv c', iv d, iv e', iv (2 : Int32), iv s0, iv s1, iv s2, iv s3, iv s4, rv b803, rv bk, .unset, .unset, .unset, .unset, .unset, .unset, .unset]) rfl ?_
      refine XS.aload X812.here hx rfl (hb hby at_113) rfl rfl ?_
      refine XS.ifnullNo X812.here hx rfl (hb hby at_115) rfl ?_
      refine XS.aload X812.here hx rfl (hb hby at_118) rfl rfl ?_
      exact kt)
  obtain ⟨cl816, Ar816, q816, S816, M816, H816, G816⟩ := id Vk812
  have go817 : own_S p e below ST T812 (mkF m 121 #[iv ls, iv a, iv b, iv c', iv d, iv e', iv (2 : Int32), iv s0, iv s1, iv s2, iv s3, iv s4, rv b803, rv bk, .unset, .unset, .unset, .unset, .unset, .unset, .unset] [(.int (2 : Int32))]) := fun tt kt => go815 tt (by
      refine X812.arraylength hx (by exact Ar816.1) (State.isArrayOf_alike hZ.alike Ar816.2.1) (g := (mkF m 120 #[iv ls, iv a, iv b, iv c', iv d, iv e', iv (2 : Int32), iv s0, iv s1, iv s2, iv s3, iv s4, rv b803, rv bk, .unset, .unset, .unset, .unset, .unset, .unset, .unset] [(.ref bk)])) rfl rfl (hb hby at_120) _ ?_
      rw [len_of S816 M816]
      exact kt)
  have go818 : own_S p e below ST T812 (mkF m 229 #[iv ls, iv a, iv b, iv c', iv d, iv e', iv (2 : Int32), iv s0, iv s1, iv s2, iv s3, iv s4, rv b803, rv bk, iv (s0 &&& (1 : Int32)), iv (s1 &&& (1 : Int32)), iv (0 : Int32), iv (0 : Int32), iv (0 : Int32), iv (((((s0 &&& (1 : Int32)) + (s1 &&& (1 : Int32))) + (0 : Int32)) + (0 : Int32)) + (0 : Int32)), iv ((((((s0 &&& (1 : Int32)) + (s1 &&& (1 : Int32))) + (0 : Int32)) + (0 : Int32)) + (0 : Int32)) >>> ((1 : Int32) &&& 31))] []) := fun tt kt => go817 tt (by
      refine XS.iload X812.here hx rfl (hb hby at_121) rfl ?_
      refine XS.icmpYes X812.here hx rfl (pc0 := 123) (pc' := 128) rfl (hb hby at_123) rfl (teq (by decide : (2 : Int32) = (2 : Int32))).1 (by decide) (by decide) ?_
      refine XS.iload X812.here hx rfl (hb hby at_128) rfl ?_
      refine XS.ifNo X812.here hx rfl (hb hby at_130) rfl ((if0 _ _).trans (tlt (by decide : (0 : Int32) < (2 : Int32))).2.2.2) ?_
      refine XS.iload X812.here hx rfl (hb hby at_133) rfl ?_
      refine XS.iconst X812.here hx rfl (hb hby at_135) ?_
      show Steps p.tables e below (T812.setTop (mkF m 136 #[iv ls, iv a, iv b, iv c', iv d, iv e', iv (2 : Int32), iv s0, iv s1, iv s2, iv s3, iv s4, rv b803, rv bk, .unset, .unset, .unset, .unset, .unset, .unset, .unset] [(.int (1 : Int32)), (.int s0)])) _
      refine XS.iand X812.here hx rfl (hb hby at_136) rfl ?_
      refine XS.goto X812.here hx rfl (pc0 := 137) (pc' := 141) rfl (hb hby at_137) (by decide) (by decide) ?_
      refine XS.istore X812.here hx rfl (hb hby at_141) rfl (l' := #[iv ls, iv a, iv b, iv c', iv d, iv e', iv (2 : Int32), iv s0, iv s1, iv s2, iv s3, iv s4, rv b803, rv bk, iv (s0 &&& (1 : Int32)), .unset, .unset, .unset, .unset, .unset, .unset]) rfl ?_
      refine XS.iload X812.here hx rfl (hb hby at_143) rfl ?_
      refine XS.iconst X812.here hx rfl (hb hby at_145) ?_
      refine XS.icmpNo X812.here hx rfl (hb hby at_146) rfl (tlt (by decide : (1 : Int32) < (2 : Int32))).2.2.2 ?_
      show Steps p.tables e below (T812.setTop (mkF m 149 #[iv ls, iv a, iv b, iv c', iv d, iv e', iv (2 : Int32), iv s0, iv s1, iv s2, iv s3, iv s4, rv b803, rv bk, iv (s0 &&& (1 : Int32)), .unset, .unset, .unset, .unset, .unset, .unset] [])) _
      refine XS.iload X812.here hx rfl (hb hby at_149) rfl ?_
      refine XS.iconst X812.here hx rfl (hb hby at_151) ?_
      refine XS.iand X812.here hx rfl (hb hby at_152) rfl ?_
      refine XS.goto X812.here hx rfl (pc0 := 153) (pc' := 157) rfl (hb hby at_153) (by decide) (by decide) ?_
      refine XS.istore X812.here hx rfl (hb hby at_157) rfl (l' := #[iv ls, iv a, iv b, iv c', iv d, iv e', iv (2 : Int32), iv s0, iv s1, iv s2, iv s3, iv s4, rv b803, rv bk, iv (s0 &&& (1 : Int32)), iv (s1 &&& (1 : Int32)), .unset, .unset, .unset, .unset, .unset]) rfl ?_
      refine XS.iload X812.here hx rfl (hb hby at_159) rfl ?_
      show Steps p.tables e below (T812.setTop (mkF m 161 #[iv ls, iv a, iv b, iv c', iv d, iv e', iv (2 : Int32), iv s0, iv s1, iv s2, iv s3, iv s4, rv b803, rv bk, iv (s0 &&& (1 : Int32)), iv (s1 &&& (1 : Int32)), .unset, .unset, .unset, .unset, .unset] [(.int (2 : Int32))])) _
      refine XS.iconst X812.here hx rfl (hb hby at_161) ?_
      refine XS.icmpYes X812.here hx rfl (pc0 := 162) (pc' := 172) rfl (hb hby at_162) rfl (flt (by decide : ¬ ((2 : Int32) < (2 : Int32)))).2.2.2 (by decide) (by decide) ?_
      refine XS.iconst X812.here hx rfl (hb hby at_172) ?_
      refine XS.istore X812.here hx rfl (hb hby at_173) rfl (l' := #[iv ls, iv a, iv b, iv c', iv d, iv e', iv (2 : Int32), iv s0, iv s1, iv s2, iv s3, iv s4, rv b803, rv bk, iv (s0 &&& (1 : Int32)), iv (s1 &&& (1 : Int32)), iv (0 : Int32), .unset, .unset, .unset, .unset]) rfl ?_
      refine XS.iload X812.here hx rfl (hb hby at_175) rfl ?_
      refine XS.iconst X812.here hx rfl (hb hby at_177) ?_
      show Steps p.tables e below (T812.setTop (mkF m 178 #[iv ls, iv a, iv b, iv c', iv d, iv e', iv (2 : Int32), iv s0, iv s1, iv s2, iv s3, iv s4, rv b803, rv bk, iv (s0 &&& (1 : Int32)), iv (s1 &&& (1 : Int32)), iv (0 : Int32), .unset, .unset, .unset, .unset] [(.int (3 : Int32)), (.int (2 : Int32))])) _
      refine XS.icmpYes X812.here hx rfl (pc0 := 178) (pc' := 188) rfl (hb hby at_178) rfl (flt (by decide : ¬ ((3 : Int32) < (2 : Int32)))).2.2.2 (by decide) (by decide) ?_
      refine XS.iconst X812.here hx rfl (hb hby at_188) ?_
      refine XS.istore X812.here hx rfl (hb hby at_189) rfl (l' := #[iv ls, iv a, iv b, iv c', iv d, iv e', iv (2 : Int32), iv s0, iv s1, iv s2, iv s3, iv s4, rv b803, rv bk, iv (s0 &&& (1 : Int32)), iv (s1 &&& (1 : Int32)), iv (0 : Int32), iv (0 : Int32), .unset, .unset, .unset]) rfl ?_
      refine XS.iload X812.here hx rfl (hb hby at_191) rfl ?_
      refine XS.iconst X812.here hx rfl (hb hby at_193) ?_
      refine XS.icmpYes X812.here hx rfl (pc0 := 194) (pc' := 204) rfl (hb hby at_194) rfl (flt (by decide : ¬ ((4 : Int32) < (2 : Int32)))).2.2.2 (by decide) (by decide) ?_
      show Steps p.tables e below (T812.setTop (mkF m 204 #[iv ls, iv a, iv b, iv c', iv d, iv e', iv (2 : Int32), iv s0, iv s1, iv s2, iv s3, iv s4, rv b803, rv bk, iv (s0 &&& (1 : Int32)), iv (s1 &&& (1 : Int32)), iv (0 : Int32), iv (0 : Int32), .unset, .unset, .unset] [])) _
      refine XS.iconst X812.here hx rfl (hb hby at_204) ?_
      refine XS.istore X812.here hx rfl (hb hby at_205) rfl (l' := #[iv ls, iv a, iv b, iv c', iv d, iv e', iv (2 : Int32), iv s0, iv s1, iv s2, iv s3, iv s4, rv b803, rv bk, iv (s0 &&& (1 : Int32)), iv (s1 &&& (1 : Int32)), iv (0 : Int32), iv (0 : Int32), iv (0 : Int32), .unset, .unset]) rfl ?_
      refine XS.iload X812.here hx rfl (hb hby at_207) rfl ?_
      refine XS.iload X812.here hx rfl (hb hby at_209) rfl ?_
      refine XS.iadd X812.here hx rfl (hb hby at_211) rfl ?_
      refine XS.iload X812.here hx rfl (hb hby at_212) rfl ?_
      show Steps p.tables e below (T812.setTop (mkF m 214 #[iv ls, iv a, iv b, iv c', iv d, iv e', iv (2 : Int32), iv s0, iv s1, iv s2, iv s3, iv s4, rv b803, rv bk, iv (s0 &&& (1 : Int32)), iv (s1 &&& (1 : Int32)), iv (0 : Int32), iv (0 : Int32), iv (0 : Int32), .unset, .unset] [(.int (0 : Int32)), (.int ((s0 &&& (1 : Int32)) + (s1 &&& (1 : Int32))))])) _
      refine XS.iadd X812.here hx rfl (hb hby at_214) rfl ?_
      refine XS.iload X812.here hx rfl (hb hby at_215) rfl ?_
      refine XS.iadd X812.here hx rfl (hb hby at_217) rfl ?_
      refine XS.iload X812.here hx rfl (hb hby at_218) rfl ?_
      refine XS.iadd X812.here hx rfl (hb hby at_220) rfl ?_
      refine XS.istore X812.here hx rfl (hb hby at_221) rfl (l' := #[iv ls, iv a, iv b, iv c', iv d, iv e', iv (2 : Int32), iv s0, iv s1, iv s2, iv s3, iv s4, rv b803, rv bk, iv (s0 &&& (1 : Int32)), iv (s1 &&& (1 : Int32)), iv (0 : Int32), iv (0 : Int32), iv (0 : Int32), iv (((((s0 &&& (1 : Int32)) + (s1 &&& (1 : Int32))) + (0 : Int32)) + (0 : Int32)) + (0 : Int32)), .unset]) rfl ?_
      show Steps p.tables e below (T812.setTop (mkF m 223 #[iv ls, iv a, iv b, iv c', iv d, iv e', iv (2 : Int32), iv s0, iv s1, iv s2, iv s3, iv s4, rv b803, rv bk, iv (s0 &&& (1 : Int32)), iv (s1 &&& (1 : Int32)), iv (0 : Int32), iv (0 : Int32), iv (0 : Int32), iv (((((s0 &&& (1 : Int32)) + (s1 &&& (1 : Int32))) + (0 : Int32)) + (0 : Int32)) + (0 : Int32)), .unset] [])) _
      refine XS.iload X812.here hx rfl (hb hby at_223) rfl ?_
      refine XS.iconst X812.here hx rfl (hb hby at_225) ?_
      refine XS.ishr X812.here hx rfl (hb hby at_226) rfl ?_
      refine XS.istore X812.here hx rfl (hb hby at_227) rfl (l' := #[iv ls, iv a, iv b, iv c', iv d, iv e', iv (2 : Int32), iv s0, iv s1, iv s2, iv s3, iv s4, rv b803, rv bk, iv (s0 &&& (1 : Int32)), iv (s1 &&& (1 : Int32)), iv (0 : Int32), iv (0 : Int32), iv (0 : Int32), iv (((((s0 &&& (1 : Int32)) + (s1 &&& (1 : Int32))) + (0 : Int32)) + (0 : Int32)) + (0 : Int32)), iv ((((((s0 &&& (1 : Int32)) + (s1 &&& (1 : Int32))) + (0 : Int32)) + (0 : Int32)) + (0 : Int32)) >>> ((1 : Int32) &&& 31))]) rfl ?_
      exact kt)
  have u0 : 0 ≤ (0 : Int32).toInt ∧ (0 : Int32).toInt ≤ 0 := by decide
  have u1 : 0 ≤ ((0 : Int32) + (s0 &&& 1)).toInt ∧ ((0 : Int32) + (s0 &&& 1)).toInt ≤ 1 := own_up (0 : Int32) s0 0 u0 (by decide)
  have u2 : 0 ≤ (((0 : Int32) + (s0 &&& 1)) + (s1 &&& 1)).toInt ∧ (((0 : Int32) + (s0 &&& 1)) + (s1 &&& 1)).toInt ≤ 2 := own_up ((0 : Int32) + (s0 &&& 1)) s1 1 u1 (by decide)
  have hod' : od = (((0 : Int32) + (s0 &&& 1)) + (s1 &&& 1)) := by rw [hod, own_rem s0 nn0, own_rem s1 nn1]
  have hH : od / (2 : Int32) = ((((((s0 &&& (1 : Int32)) + (s1 &&& (1 : Int32))) + (0 : Int32)) + (0 : Int32)) + (0 : Int32)) >>> ((1 : Int32) &&& 31)) := by rw [hod', own_half _ u2.1]; simp only [Int32.add_zero, Int32.zero_add]
  have hqq0 : (0 : Int32) = (0 : Int32) := by rfl
  have hx0 : e0 = (s0 >>> ((1 : Int32) &&& 31)) + own_inc (0 : Int32) ((((((s0 &&& (1 : Int32)) + (s1 &&& (1 : Int32))) + (0 : Int32)) + (0 : Int32)) + (0 : Int32)) >>> ((1 : Int32) &&& 31)) (s0 &&& (1 : Int32)) := by rw [he0, own_ve _ _ _ nn0, hH, hqq0]
  have hqq1 : q1 = (s0 &&& (1 : Int32)) := by rw [hq1, own_se _ _ _ nn0, hqq0]; simp only [Int32.zero_add]
  have hx1 : e1 = (s1 >>> ((1 : Int32) &&& 31)) + own_inc (s0 &&& (1 : Int32)) ((((((s0 &&& (1 : Int32)) + (s1 &&& (1 : Int32))) + (0 : Int32)) + (0 : Int32)) + (0 : Int32)) >>> ((1 : Int32) &&& 31)) (s1 &&& (1 : Int32)) := by rw [he1, own_ve _ _ _ nn1, hH, hqq1]
  have go819 : own_S p e below ST T812 (mkF m 241 #[iv ls, iv a, iv b, iv c', iv d, iv e', iv (2 : Int32), iv s0, iv s1, iv s2, iv s3, iv s4, rv b803, rv bk, iv (s0 &&& (1 : Int32)), iv (s1 &&& (1 : Int32)), iv (0 : Int32), iv (0 : Int32), iv (0 : Int32), iv (((((s0 &&& (1 : Int32)) + (s1 &&& (1 : Int32))) + (0 : Int32)) + (0 : Int32)) + (0 : Int32)), iv ((((((s0 &&& (1 : Int32)) + (s1 &&& (1 : Int32))) + (0 : Int32)) + (0 : Int32)) + (0 : Int32)) >>> ((1 : Int32) &&& 31))] [(.int ((((((s0 &&& (1 : Int32)) + (s1 &&& (1 : Int32))) + (0 : Int32)) + (0 : Int32)) + (0 : Int32)) >>> ((1 : Int32) &&& 31))), (.int (s0 &&& (1 : Int32))), (.int (0 : Int32)), (.int s0), (.int (2 : Int32)), (.int (0 : Int32)), (.ref bk)]) := fun tt kt => go818 tt (by
      refine XS.aload X812.here hx rfl (hb hby at_229) rfl rfl ?_
      refine XS.iconst X812.here hx rfl (hb hby at_231) ?_
      refine XS.iload X812.here hx rfl (hb hby at_232) rfl ?_
      refine XS.iload X812.here hx rfl (hb hby at_234) rfl ?_
      refine XS.iconst X812.here hx rfl (hb hby at_236) ?_
      refine XS.iload X812.here hx rfl (hb hby at_237) rfl ?_
      show Steps p.tables e below (T812.setTop (mkF m 239 #[iv ls, iv a, iv b, iv c', iv d, iv e', iv (2 : Int32), iv s0, iv s1, iv s2, iv s3, iv s4, rv b803, rv bk, iv (s0 &&& (1 : Int32)), iv (s1 &&& (1 : Int32)), iv (0 : Int32), iv (0 : Int32), iv (0 : Int32), iv (((((s0 &&& (1 : Int32)) + (s1 &&& (1 : Int32))) + (0 : Int32)) + (0 : Int32)) + (0 : Int32)), iv ((((((s0 &&& (1 : Int32)) + (s1 &&& (1 : Int32))) + (0 : Int32)) + (0 : Int32)) + (0 : Int32)) >>> ((1 : Int32) &&& 31))] [(.int (s0 &&& (1 : Int32))), (.int (0 : Int32)), (.int s0), (.int (2 : Int32)), (.int (0 : Int32)), (.ref bk)])) _
      refine XS.iload X812.here hx rfl (hb hby at_239) rfl ?_
      exact kt)
  have zs821 := (Nat.le_trans zs813 K812.1)
  obtain ⟨_, _, ⟨T820, L820, k820, n820⟩, -, X820, ⟨Lc820, hQ820, l820, y820, z820⟩, st820⟩ := Jvm.LawKit.callS X812 hx (y := (⟨"com/example/declination/declination/engine/Nsga2KeptCountsPinLaw", "slot", "([IIIIIII)Z"⟩ : MethodName)) hown (mvT hZ (W 6 rfl)) (mvT hZ (W 7 rfl)) (mvT hZ (W 8 rfl)) (mvT hZ (W 9 rfl)) (by decide) (backOf (W := 0) (rm2l l Z a0 hw [] bk (0 : Int32) (2 : Int32) s0 (0 : Int32) (s0 &&& (1 : Int32)) ((((((s0 &&& (1 : Int32)) + (s1 &&& (1 : Int32))) + (0 : Int32)) + (0 : Int32)) + (0 : Int32)) >>> ((1 : Int32) &&& 31)) _ _ _ e0 T812.heap n0 zs821 (by decide) (by decide) Vk812 rfl hx0) hZ (W 9 rfl) (W 8 rfl) (by decide) (by decide)) (g := (mkF m 241 #[iv ls, iv a, iv b, iv c', iv d, iv e', iv (2 : Int32), iv s0, iv s1, iv s2, iv s3, iv s4, rv b803, rv bk, iv (s0 &&& (1 : Int32)), iv (s1 &&& (1 : Int32)), iv (0 : Int32), iv (0 : Int32), iv (0 : Int32), iv (((((s0 &&& (1 : Int32)) + (s1 &&& (1 : Int32))) + (0 : Int32)) + (0 : Int32)) + (0 : Int32)), iv ((((((s0 &&& (1 : Int32)) + (s1 &&& (1 : Int32))) + (0 : Int32)) + (0 : Int32)) + (0 : Int32)) >>> ((1 : Int32) &&& 31))] [(.int ((((((s0 &&& (1 : Int32)) + (s1 &&& (1 : Int32))) + (0 : Int32)) + (0 : Int32)) + (0 : Int32)) >>> ((1 : Int32) &&& 31))), (.int (s0 &&& (1 : Int32))), (.int (0 : Int32)), (.int s0), (.int (2 : Int32)), (.int (0 : Int32)), (.ref bk)])) rfl (by rw [hml]; rfl) (argsL := [(.ref bk), (.int (0 : Int32)), (.int (2 : Int32)), (.int s0), (.int (0 : Int32)), (.int (s0 &&& (1 : Int32))), (.int ((((((s0 &&& (1 : Int32)) + (s1 &&& (1 : Int32))) + (0 : Int32)) + (0 : Int32)) + (0 : Int32)) >>> ((1 : Int32) &&& 31)))]) (rest := []) (lenOf pd97 rfl) rfl (by show 2 * 0 + _ ≤ _; exact Nat.le_of_eq rfl) (hb hby at_241) (fun _ _ => ⟨rfl, rfl, (by decide : 2 + 0 ≤ _), (by decide : 4 + 0 ≤ _)⟩)
  dsimp only [Pt.U, Pt.locs, Pt.cells, Pt.slots] at X820 l820 y820 z820 st820 hQ820
  subst l820 y820 z820
  obtain ⟨rfl, Nq820, eh820⟩ := hQ820
  have N820 := Fr.app N812 Nq820
  have go822 : own_S p e below ST T820 (mkF m 244 #[iv ls, iv a, iv b, iv c', iv d, iv e', iv (2 : Int32), iv s0, iv s1, iv s2, iv s3, iv s4, rv b803, rv bk, iv (s0 &&& (1 : Int32)), iv (s1 &&& (1 : Int32)), iv (0 : Int32), iv (0 : Int32), iv (0 : Int32), iv (((((s0 &&& (1 : Int32)) + (s1 &&& (1 : Int32))) + (0 : Int32)) + (0 : Int32)) + (0 : Int32)), iv ((((((s0 &&& (1 : Int32)) + (s1 &&& (1 : Int32))) + (0 : Int32)) + (0 : Int32)) + (0 : Int32)) >>> ((1 : Int32) &&& 31))] [(.int (1 : Int32))]) := fun tt kt => go819 tt (st820 _ kt)
  have go823 : own_S p e below ST T820 (mkF m 260 #[iv ls, iv a, iv b, iv c', iv d, iv e', iv (2 : Int32), iv s0, iv s1, iv s2, iv s3, iv s4, rv b803, rv bk, iv (s0 &&& (1 : Int32)), iv (s1 &&& (1 : Int32)), iv (0 : Int32), iv (0 : Int32), iv (0 : Int32), iv (((((s0 &&& (1 : Int32)) + (s1 &&& (1 : Int32))) + (0 : Int32)) + (0 : Int32)) + (0 : Int32)), iv ((((((s0 &&& (1 : Int32)) + (s1 &&& (1 : Int32))) + (0 : Int32)) + (0 : Int32)) + (0 : Int32)) >>> ((1 : Int32) &&& 31))] [(.int ((((((s0 &&& (1 : Int32)) + (s1 &&& (1 : Int32))) + (0 : Int32)) + (0 : Int32)) + (0 : Int32)) >>> ((1 : Int32) &&& 31))), (.int (s1 &&& (1 : Int32))), (.int (s0 &&& (1 : Int32))), (.int s1), (.int (2 : Int32)), (.int (1 : Int32)), (.ref bk)]) := fun tt kt => go822 tt (by
      refine XS.ifNo X820.here hx rfl (hb hby at_244) rfl ((if0 _ _).trans (feq (by decide : ¬ ((1 : Int32) = (0 : Int32)))).1) ?_
      refine XS.aload X820.here hx rfl (hb hby at_247) rfl rfl ?_
      refine XS.iconst X820.here hx rfl (hb hby at_249) ?_
      refine XS.iload X820.here hx rfl (hb hby at_250) rfl ?_
      refine XS.iload X820.here hx rfl (hb hby at_252) rfl ?_
      refine XS.iload X820.here hx rfl (hb hby at_254) rfl ?_
      show Steps p.tables e below (T820.setTop (mkF m 256 #[iv ls, iv a, iv b, iv c', iv d, iv e', iv (2 : Int32), iv s0, iv s1, iv s2, iv s3, iv s4, rv b803, rv bk, iv (s0 &&& (1 : Int32)), iv (s1 &&& (1 : Int32)), iv (0 : Int32), iv (0 : Int32), iv (0 : Int32), iv (((((s0 &&& (1 : Int32)) + (s1 &&& (1 : Int32))) + (0 : Int32)) + (0 : Int32)) + (0 : Int32)), iv ((((((s0 &&& (1 : Int32)) + (s1 &&& (1 : Int32))) + (0 : Int32)) + (0 : Int32)) + (0 : Int32)) >>> ((1 : Int32) &&& 31))] [(.int (s0 &&& (1 : Int32))), (.int s1), (.int (2 : Int32)), (.int (1 : Int32)), (.ref bk)])) _
      refine XS.iload X820.here hx rfl (hb hby at_256) rfl ?_
      refine XS.iload X820.here hx rfl (hb hby at_258) rfl ?_
      exact kt)
  obtain ⟨_, _, ⟨T824, L824, k824, n824⟩, -, X824, ⟨Lc824, hQ824, l824, y824, z824⟩, st824⟩ := Jvm.LawKit.callS X820 hx (y := (⟨"com/example/declination/declination/engine/Nsga2KeptCountsPinLaw", "slot", "([IIIIIII)Z"⟩ : MethodName)) hown (mvT hZ (W 6 rfl)) (mvT hZ (W 7 rfl)) (mvT hZ (W 8 rfl)) (mvT hZ (W 9 rfl)) (by decide) (backOf (W := 0) (rm2l l Z a0 hw [] bk (1 : Int32) (2 : Int32) s1 (s0 &&& (1 : Int32)) (s1 &&& (1 : Int32)) ((((((s0 &&& (1 : Int32)) + (s1 &&& (1 : Int32))) + (0 : Int32)) + (0 : Int32)) + (0 : Int32)) >>> ((1 : Int32) &&& 31)) _ _ _ e1 T812.heap n0 zs821 (by decide) (by decide) Vk812 rfl hx1) hZ (W 9 rfl) (W 8 rfl) (by decide) (by decide)) (g := (mkF m 260 #[iv ls, iv a, iv b, iv c', iv d, iv e', iv (2 : Int32), iv s0, iv s1, iv s2, iv s3, iv s4, rv b803, rv bk, iv (s0 &&& (1 : Int32)), iv (s1 &&& (1 : Int32)), iv (0 : Int32), iv (0 : Int32), iv (0 : Int32), iv (((((s0 &&& (1 : Int32)) + (s1 &&& (1 : Int32))) + (0 : Int32)) + (0 : Int32)) + (0 : Int32)), iv ((((((s0 &&& (1 : Int32)) + (s1 &&& (1 : Int32))) + (0 : Int32)) + (0 : Int32)) + (0 : Int32)) >>> ((1 : Int32) &&& 31))] [(.int ((((((s0 &&& (1 : Int32)) + (s1 &&& (1 : Int32))) + (0 : Int32)) + (0 : Int32)) + (0 : Int32)) >>> ((1 : Int32) &&& 31))), (.int (s1 &&& (1 : Int32))), (.int (s0 &&& (1 : Int32))), (.int s1), (.int (2 : Int32)), (.int (1 : Int32)), (.ref bk)])) rfl (by rw [hml]; rfl) (argsL := [(.ref bk), (.int (1 : Int32)), (.int (2 : Int32)), (.int s1), (.int (s0 &&& (1 : Int32))), (.int (s1 &&& (1 : Int32))), (.int ((((((s0 &&& (1 : Int32)) + (s1 &&& (1 : Int32))) + (0 : Int32)) + (0 : Int32)) + (0 : Int32)) >>> ((1 : Int32) &&& 31)))]) (rest := []) (lenOf pd97 rfl) rfl (by show 2 * 0 + _ ≤ _; exact Nat.le_of_eq rfl) (hb hby at_260) (fun _ _ => ⟨rfl, eh820, (by decide : 2 + 0 ≤ _), (by decide : 4 + 0 ≤ _)⟩)
  dsimp only [Pt.U, Pt.locs, Pt.cells, Pt.slots] at X824 l824 y824 z824 st824 hQ824
  subst l824 y824 z824
  obtain ⟨rfl, Nq824, eh824⟩ := hQ824
  have N824 := Fr.app N820 Nq824
  have go825 : own_S p e below ST T824 (mkF m 263 #[iv ls, iv a, iv b, iv c', iv d, iv e', iv (2 : Int32), iv s0, iv s1, iv s2, iv s3, iv s4, rv b803, rv bk, iv (s0 &&& (1 : Int32)), iv (s1 &&& (1 : Int32)), iv (0 : Int32), iv (0 : Int32), iv (0 : Int32), iv (((((s0 &&& (1 : Int32)) + (s1 &&& (1 : Int32))) + (0 : Int32)) + (0 : Int32)) + (0 : Int32)), iv ((((((s0 &&& (1 : Int32)) + (s1 &&& (1 : Int32))) + (0 : Int32)) + (0 : Int32)) + (0 : Int32)) >>> ((1 : Int32) &&& 31))] [(.int (1 : Int32))]) := fun tt kt => go823 tt (st824 _ kt)
  have go826 : own_S p e below ST T824 (mkF m 282 #[iv ls, iv a, iv b, iv c', iv d, iv e', iv (2 : Int32), iv s0, iv s1, iv s2, iv s3, iv s4, rv b803, rv bk, iv (s0 &&& (1 : Int32)), iv (s1 &&& (1 : Int32)), iv (0 : Int32), iv (0 : Int32), iv (0 : Int32), iv (((((s0 &&& (1 : Int32)) + (s1 &&& (1 : Int32))) + (0 : Int32)) + (0 : Int32)) + (0 : Int32)), iv ((((((s0 &&& (1 : Int32)) + (s1 &&& (1 : Int32))) + (0 : Int32)) + (0 : Int32)) + (0 : Int32)) >>> ((1 : Int32) &&& 31))] [(.int ((((((s0 &&& (1 : Int32)) + (s1 &&& (1 : Int32))) + (0 : Int32)) + (0 : Int32)) + (0 : Int32)) >>> ((1 : Int32) &&& 31))), (.int (0 : Int32)), (.int ((s0 &&& (1 : Int32)) + (s1 &&& (1 : Int32)))), (.int s2), (.int (2 : Int32)), (.int (2 : Int32)), (.ref bk)]) := fun tt kt => go825 tt (by
      refine XS.ifNo X824.here hx rfl (hb hby at_263) rfl ((if0 _ _).trans (feq (by decide : ¬ ((1 : Int32) = (0 : Int32)))).1) ?_
      refine XS.aload X824.here hx rfl (hb hby at_266) rfl rfl ?_
      refine XS.iconst X824.here hx rfl (hb hby at_268) ?_
      refine XS.iload X824.here hx rfl (hb hby at_269) rfl ?_
      refine XS.iload X824.here hx rfl (hb hby at_271) rfl ?_
      refine XS.iload X824.here hx rfl (hb hby at_273) rfl ?_
      show Steps p.tables e below (T824.setTop (mkF m 275 #[iv ls, iv a, iv b, iv c', iv d, iv e', iv (2 : Int32), iv s0, iv s1, iv s2, iv s3, iv s4, rv b803, rv bk, iv (s0 &&& (1 : Int32)), iv (s1 &&& (1 : Int32)), iv (0 : Int32), iv (0 : Int32), iv (0 : Int32), iv (((((s0 &&& (1 : Int32)) + (s1 &&& (1 : Int32))) + (0 : Int32)) + (0 : Int32)) + (0 : Int32)), iv ((((((s0 &&& (1 : Int32)) + (s1 &&& (1 : Int32))) + (0 : Int32)) + (0 : Int32)) + (0 : Int32)) >>> ((1 : Int32) &&& 31))] [(.int (s0 &&& (1 : Int32))), (.int s2), (.int (2 : Int32)), (.int (2 : Int32)), (.ref bk)])) _
      refine XS.iload X824.here hx rfl (hb hby at_275) rfl ?_
      refine XS.iadd X824.here hx rfl (hb hby at_277) rfl ?_
      refine XS.iload X824.here hx rfl (hb hby at_278) rfl ?_
      refine XS.iload X824.here hx rfl (hb hby at_280) rfl ?_
      exact kt)
  obtain ⟨_, _, ⟨T827, L827, k827, n827⟩, -, X827, ⟨Lc827, hQ827, l827, y827, z827⟩, st827⟩ := Jvm.LawKit.callS X824 hx (y := (⟨"com/example/declination/declination/engine/Nsga2KeptCountsPinLaw", "slot", "([IIIIIII)Z"⟩ : MethodName)) hown (mvT hZ (W 6 rfl)) (mvT hZ (W 7 rfl)) (mvT hZ (W 8 rfl)) (mvT hZ (W 9 rfl)) (by decide) (backOf (W := 0) (rm2g l Z a0 hw [] bk (2 : Int32) (2 : Int32) s2 ((s0 &&& (1 : Int32)) + (s1 &&& (1 : Int32))) (0 : Int32) ((((((s0 &&& (1 : Int32)) + (s1 &&& (1 : Int32))) + (0 : Int32)) + (0 : Int32)) + (0 : Int32)) >>> ((1 : Int32) &&& 31)) T812.heap n0 zs821 (by decide)) hZ (W 9 rfl) (W 8 rfl) (by decide) (by decide)) (g := (mkF m 282 #[iv ls, iv a, iv b, iv c', iv d, iv e', iv (2 : Int32), iv s0, iv s1, iv s2, iv s3, iv s4, rv b803, rv bk, iv (s0 &&& (1 : Int32)), iv (s1 &&& (1 : Int32)), iv (0 : Int32), iv (0 : Int32), iv (0 : Int32), iv (((((s0 &&& (1 : Int32)) + (s1 &&& (1 : Int32))) + (0 : Int32)) + (0 : Int32)) + (0 : Int32)), iv ((((((s0 &&& (1 : Int32)) + (s1 &&& (1 : Int32))) + (0 : Int32)) + (0 : Int32)) + (0 : Int32)) >>> ((1 : Int32) &&& 31))] [(.int ((((((s0 &&& (1 : Int32)) + (s1 &&& (1 : Int32))) + (0 : Int32)) + (0 : Int32)) + (0 : Int32)) >>> ((1 : Int32) &&& 31))), (.int (0 : Int32)), (.int ((s0 &&& (1 : Int32)) + (s1 &&& (1 : Int32)))), (.int s2), (.int (2 : Int32)), (.int (2 : Int32)), (.ref bk)])) rfl (by rw [hml]; rfl) (argsL := [(.ref bk), (.int (2 : Int32)), (.int (2 : Int32)), (.int s2), (.int ((s0 &&& (1 : Int32)) + (s1 &&& (1 : Int32)))), (.int (0 : Int32)), (.int ((((((s0 &&& (1 : Int32)) + (s1 &&& (1 : Int32))) + (0 : Int32)) + (0 : Int32)) + (0 : Int32)) >>> ((1 : Int32) &&& 31)))]) (rest := []) (lenOf pd97 rfl) rfl (by show 2 * 0 + _ ≤ _; exact Nat.le_of_eq rfl) (hb hby at_282) (fun _ _ => ⟨rfl, eh824, (by decide : 2 + 0 ≤ _), (by decide : 4 + 0 ≤ _)⟩)
  dsimp only [Pt.U, Pt.locs, Pt.cells, Pt.slots] at X827 l827 y827 z827 st827 hQ827
  subst l827 y827 z827
  obtain ⟨rfl, Nq827, eh827⟩ := hQ827
  have N827 := Fr.app N824 Nq827
  have go828 : own_S p e below ST T827 (mkF m 285 #[iv ls, iv a, iv b, iv c', iv d, iv e', iv (2 : Int32), iv s0, iv s1, iv s2, iv s3, iv s4, rv b803, rv bk, iv (s0 &&& (1 : Int32)), iv (s1 &&& (1 : Int32)), iv (0 : Int32), iv (0 : Int32), iv (0 : Int32), iv (((((s0 &&& (1 : Int32)) + (s1 &&& (1 : Int32))) + (0 : Int32)) + (0 : Int32)) + (0 : Int32)), iv ((((((s0 &&& (1 : Int32)) + (s1 &&& (1 : Int32))) + (0 : Int32)) + (0 : Int32)) + (0 : Int32)) >>> ((1 : Int32) &&& 31))] [(.int (1 : Int32))]) := fun tt kt => go826 tt (st827 _ kt)
  have go829 : own_S p e below ST T827 (mkF m 307 #[iv ls, iv a, iv b, iv c', iv d, iv e', iv (2 : Int32), iv s0, iv s1, iv s2, iv s3, iv s4, rv b803, rv bk, iv (s0 &&& (1 : Int32)), iv (s1 &&& (1 : Int32)), iv (0 : Int32), iv (0 : Int32), iv (0 : Int32), iv (((((s0 &&& (1 : Int32)) + (s1 &&& (1 : Int32))) + (0 : Int32)) + (0 : Int32)) + (0 : Int32)), iv ((((((s0 &&& (1 : Int32)) + (s1 &&& (1 : Int32))) + (0 : Int32)) + (0 : Int32)) + (0 : Int32)) >>> ((1 : Int32) &&& 31))] [(.int ((((((s0 &&& (1 : Int32)) + (s1 &&& (1 : Int32))) + (0 : Int32)) + (0 : Int32)) + (0 : Int32)) >>> ((1 : Int32) &&& 31))), (.int (0 : Int32)), (.int (((s0 &&& (1 : Int32)) + (s1 &&& (1 : Int32))) + (0 : Int32))), (.int s3), (.int (2 : Int32)), (.int (3 : Int32)), (.ref bk)]) := fun tt kt => go828 tt (by
      refine XS.ifNo X827.here hx rfl (hb hby at_285) rfl ((if0 _ _).trans (feq (by decide : ¬ ((1 : Int32) = (0 : Int32)))).1) ?_
      refine XS.aload X827.here hx rfl (hb hby at_288) rfl rfl ?_
      refine XS.iconst X827.here hx rfl (hb hby at_290) ?_
      refine XS.iload X827.here hx rfl (hb hby at_291) rfl ?_
      refine XS.iload X827.here hx rfl (hb hby at_293) rfl ?_
      refine XS.iload X827.here hx rfl (hb hby at_295) rfl ?_
      show Steps p.tables e below (T827.setTop (mkF m 297 #[iv ls, iv a, iv b, iv c', iv d, iv e', iv (2 : Int32), iv s0, iv s1, iv s2, iv s3, iv s4, rv b803, rv bk, iv (s0 &&& (1 : Int32)), iv (s1 &&& (1 : Int32)), iv (0 : Int32), iv (0 : Int32), iv (0 : Int32), iv (((((s0 &&& (1 : Int32)) + (s1 &&& (1 : Int32))) + (0 : Int32)) + (0 : Int32)) + (0 : Int32)), iv ((((((s0 &&& (1 : Int32)) + (s1 &&& (1 : Int32))) + (0 : Int32)) + (0 : Int32)) + (0 : Int32)) >>> ((1 : Int32) &&& 31))] [(.int (s0 &&& (1 : Int32))), (.int s3), (.int (2 : Int32)), (.int (3 : Int32)), (.ref bk)])) _
      refine XS.iload X827.here hx rfl (hb hby at_297) rfl ?_
      refine XS.iadd X827.here hx rfl (hb hby at_299) rfl ?_
      refine XS.iload X827.here hx rfl (hb hby at_300) rfl ?_
      refine XS.iadd X827.here hx rfl (hb hby at_302) rfl ?_
      refine XS.iload X827.here hx rfl (hb hby at_303) rfl ?_
      refine XS.iload X827.here hx rfl (hb hby at_305) rfl ?_
      exact kt)
  obtain ⟨_, _, ⟨T830, L830, k830, n830⟩, -, X830, ⟨Lc830, hQ830, l830, y830, z830⟩, st830⟩ := Jvm.LawKit.callS X827 hx (y := (⟨"com/example/declination/declination/engine/Nsga2KeptCountsPinLaw", "slot", "([IIIIIII)Z"⟩ : MethodName)) hown (mvT hZ (W 6 rfl)) (mvT hZ (W 7 rfl)) (mvT hZ (W 8 rfl)) (mvT hZ (W 9 rfl)) (by decide) (backOf (W := 0) (rm2g l Z a0 hw [] bk (3 : Int32) (2 : Int32) s3 (((s0 &&& (1 : Int32)) + (s1 &&& (1 : Int32))) + (0 : Int32)) (0 : Int32) ((((((s0 &&& (1 : Int32)) + (s1 &&& (1 : Int32))) + (0 : Int32)) + (0 : Int32)) + (0 : Int32)) >>> ((1 : Int32) &&& 31)) T812.heap n0 zs821 (by decide)) hZ (W 9 rfl) (W 8 rfl) (by decide) (by decide)) (g := (mkF m 307 #[iv ls, iv a, iv b, iv c', iv d, iv e', iv (2 : Int32), iv s0, iv s1, iv s2, iv s3, iv s4, rv b803, rv bk, iv (s0 &&& (1 : Int32)), iv (s1 &&& (1 : Int32)), iv (0 : Int32), iv (0 : Int32), iv (0 : Int32), iv (((((s0 &&& (1 : Int32)) + (s1 &&& (1 : Int32))) + (0 : Int32)) + (0 : Int32)) + (0 : Int32)), iv ((((((s0 &&& (1 : Int32)) + (s1 &&& (1 : Int32))) + (0 : Int32)) + (0 : Int32)) + (0 : Int32)) >>> ((1 : Int32) &&& 31))] [(.int ((((((s0 &&& (1 : Int32)) + (s1 &&& (1 : Int32))) + (0 : Int32)) + (0 : Int32)) + (0 : Int32)) >>> ((1 : Int32) &&& 31))), (.int (0 : Int32)), (.int (((s0 &&& (1 : Int32)) + (s1 &&& (1 : Int32))) + (0 : Int32))), (.int s3), (.int (2 : Int32)), (.int (3 : Int32)), (.ref bk)])) rfl (by rw [hml]; rfl) (argsL := [(.ref bk), (.int (3 : Int32)), (.int (2 : Int32)), (.int s3), (.int (((s0 &&& (1 : Int32)) + (s1 &&& (1 : Int32))) + (0 : Int32))), (.int (0 : Int32)), (.int ((((((s0 &&& (1 : Int32)) + (s1 &&& (1 : Int32))) + (0 : Int32)) + (0 : Int32)) + (0 : Int32)) >>> ((1 : Int32) &&& 31)))]) (rest := []) (lenOf pd97 rfl) rfl (by show 2 * 0 + _ ≤ _; exact Nat.le_of_eq rfl) (hb hby at_307) (fun _ _ => ⟨rfl, eh827, (by decide : 2 + 0 ≤ _), (by decide : 4 + 0 ≤ _)⟩)
  dsimp only [Pt.U, Pt.locs, Pt.cells, Pt.slots] at X830 l830 y830 z830 st830 hQ830
  subst l830 y830 z830
  obtain ⟨rfl, Nq830, eh830⟩ := hQ830
  have N830 := Fr.app N827 Nq830
  have go831 : own_S p e below ST T830 (mkF m 310 #[iv ls, iv a, iv b, iv c', iv d, iv e', iv (2 : Int32), iv s0, iv s1, iv s2, iv s3, iv s4, rv b803, rv bk, iv (s0 &&& (1 : Int32)), iv (s1 &&& (1 : Int32)), iv (0 : Int32), iv (0 : Int32), iv (0 : Int32), iv (((((s0 &&& (1 : Int32)) + (s1 &&& (1 : Int32))) + (0 : Int32)) + (0 : Int32)) + (0 : Int32)), iv ((((((s0 &&& (1 : Int32)) + (s1 &&& (1 : Int32))) + (0 : Int32)) + (0 : Int32)) + (0 : Int32)) >>> ((1 : Int32) &&& 31))] [(.int (1 : Int32))]) := fun tt kt => go829 tt (st830 _ kt)
  have go832 : own_S p e below ST T830 (mkF m 335 #[iv ls, iv a, iv b, iv c', iv d, iv e', iv (2 : Int32), iv s0, iv s1, iv s2, iv s3, iv s4, rv b803, rv bk, iv (s0 &&& (1 : Int32)), iv (s1 &&& (1 : Int32)), iv (0 : Int32), iv (0 : Int32), iv (0 : Int32), iv (((((s0 &&& (1 : Int32)) + (s1 &&& (1 : Int32))) + (0 : Int32)) + (0 : Int32)) + (0 : Int32)), iv ((((((s0 &&& (1 : Int32)) + (s1 &&& (1 : Int32))) + (0 : Int32)) + (0 : Int32)) + (0 : Int32)) >>> ((1 : Int32) &&& 31))] [(.int ((((((s0 &&& (1 : Int32)) + (s1 &&& (1 : Int32))) + (0 : Int32)) + (0 : Int32)) + (0 : Int32)) >>> ((1 : Int32) &&& 31))), (.int (0 : Int32)), (.int ((((s0 &&& (1 : Int32)) + (s1 &&& (1 : Int32))) + (0 : Int32)) + (0 : Int32))), (.int s4), (.int (2 : Int32)), (.int (4 : Int32)), (.ref bk)]) := fun tt kt => go831 tt (by
      refine XS.ifNo X830.here hx rfl (hb hby at_310) rfl ((if0 _ _).trans (feq (by decide : ¬ ((1 : Int32) = (0 : Int32)))).1) ?_
      refine XS.aload X830.here hx rfl (hb hby at_313) rfl rfl ?_
      refine XS.iconst X830.here hx rfl (hb hby at_315) ?_
      refine XS.iload X830.here hx rfl (hb hby at_316) rfl ?_
      refine XS.iload X830.here hx rfl (hb hby at_318) rfl ?_
      refine XS.iload X830.here hx rfl (hb hby at_320) rfl ?_
      show Steps p.tables e below (T830.setTop (mkF m 322 #[iv ls, iv a, iv b, iv c', iv d, iv e', iv (2 : Int32), iv s0, iv s1, iv s2, iv s3, iv s4, rv b803, rv bk, iv (s0 &&& (1 : Int32)), iv (s1 &&& (1 : Int32)), iv (0 : Int32), iv (0 : Int32), iv (0 : Int32), iv (((((s0 &&& (1 : Int32)) + (s1 &&& (1 : Int32))) + (0 : Int32)) + (0 : Int32)) + (0 : Int32)), iv ((((((s0 &&& (1 : Int32)) + (s1 &&& (1 : Int32))) + (0 : Int32)) + (0 : Int32)) + (0 : Int32)) >>> ((1 : Int32) &&& 31))] [(.int (s0 &&& (1 : Int32))), (.int s4), (.int (2 : Int32)), (.int (4 : Int32)), (.ref bk)])) _
      refine XS.iload X830.here hx rfl (hb hby at_322) rfl ?_
      refine XS.iadd X830.here hx rfl (hb hby at_324) rfl ?_
      refine XS.iload X830.here hx rfl (hb hby at_325) rfl ?_
      refine XS.iadd X830.here hx rfl (hb hby at_327) rfl ?_
      refine XS.iload X830.here hx rfl (hb hby at_328) rfl ?_
      refine XS.iadd X830.here hx rfl (hb hby at_330) rfl ?_
      show Steps p.tables e below (T830.setTop (mkF m 331 #[iv ls, iv a, iv b, iv c', iv d, iv e', iv (2 : Int32), iv s0, iv s1, iv s2, iv s3, iv s4, rv b803, rv bk, iv (s0 &&& (1 : Int32)), iv (s1 &&& (1 : Int32)), iv (0 : Int32), iv (0 : Int32), iv (0 : Int32), iv (((((s0 &&& (1 : Int32)) + (s1 &&& (1 : Int32))) + (0 : Int32)) + (0 : Int32)) + (0 : Int32)), iv ((((((s0 &&& (1 : Int32)) + (s1 &&& (1 : Int32))) + (0 : Int32)) + (0 : Int32)) + (0 : Int32)) >>> ((1 : Int32) &&& 31))] [(.int ((((s0 &&& (1 : Int32)) + (s1 &&& (1 : Int32))) + (0 : Int32)) + (0 : Int32))), (.int s4), (.int (2 : Int32)), (.int (4 : Int32)), (.ref bk)])) _
      refine XS.iload X830.here hx rfl (hb hby at_331) rfl ?_
      refine XS.iload X830.here hx rfl (hb hby at_333) rfl ?_
      exact kt)
  obtain ⟨_, _, ⟨T833, L833, k833, n833⟩, -, X833, ⟨Lc833, hQ833, l833, y833, z833⟩, st833⟩ := Jvm.LawKit.callS X830 hx (y := (⟨"com/example/declination/declination/engine/Nsga2KeptCountsPinLaw", "slot", "([IIIIIII)Z"⟩ : MethodName)) hown (mvT hZ (W 6 rfl)) (mvT hZ (W 7 rfl)) (mvT hZ (W 8 rfl)) (mvT hZ (W 9 rfl)) (by decide) (backOf (W := 0) (rm2g l Z a0 hw [] bk (4 : Int32) (2 : Int32) s4 ((((s0 &&& (1 : Int32)) + (s1 &&& (1 : Int32))) + (0 : Int32)) + (0 : Int32)) (0 : Int32) ((((((s0 &&& (1 : Int32)) + (s1 &&& (1 : Int32))) + (0 : Int32)) + (0 : Int32)) + (0 : Int32)) >>> ((1 : Int32) &&& 31)) T812.heap n0 zs821 (by decide)) hZ (W 9 rfl) (W 8 rfl) (by decide) (by decide)) (g := (mkF m 335 #[iv ls, iv a, iv b, iv c', iv d, iv e', iv (2 : Int32), iv s0, iv s1, iv s2, iv s3, iv s4, rv b803, rv bk, iv (s0 &&& (1 : Int32)), iv (s1 &&& (1 : Int32)), iv (0 : Int32), iv (0 : Int32), iv (0 : Int32), iv (((((s0 &&& (1 : Int32)) + (s1 &&& (1 : Int32))) + (0 : Int32)) + (0 : Int32)) + (0 : Int32)), iv ((((((s0 &&& (1 : Int32)) + (s1 &&& (1 : Int32))) + (0 : Int32)) + (0 : Int32)) + (0 : Int32)) >>> ((1 : Int32) &&& 31))] [(.int ((((((s0 &&& (1 : Int32)) + (s1 &&& (1 : Int32))) + (0 : Int32)) + (0 : Int32)) + (0 : Int32)) >>> ((1 : Int32) &&& 31))), (.int (0 : Int32)), (.int ((((s0 &&& (1 : Int32)) + (s1 &&& (1 : Int32))) + (0 : Int32)) + (0 : Int32))), (.int s4), (.int (2 : Int32)), (.int (4 : Int32)), (.ref bk)])) rfl (by rw [hml]; rfl) (argsL := [(.ref bk), (.int (4 : Int32)), (.int (2 : Int32)), (.int s4), (.int ((((s0 &&& (1 : Int32)) + (s1 &&& (1 : Int32))) + (0 : Int32)) + (0 : Int32))), (.int (0 : Int32)), (.int ((((((s0 &&& (1 : Int32)) + (s1 &&& (1 : Int32))) + (0 : Int32)) + (0 : Int32)) + (0 : Int32)) >>> ((1 : Int32) &&& 31)))]) (rest := []) (lenOf pd97 rfl) rfl (by show 2 * 0 + _ ≤ _; exact Nat.le_of_eq rfl) (hb hby at_335) (fun _ _ => ⟨rfl, eh830, (by decide : 2 + 0 ≤ _), (by decide : 4 + 0 ≤ _)⟩)
  dsimp only [Pt.U, Pt.locs, Pt.cells, Pt.slots] at X833 l833 y833 z833 st833 hQ833
  subst l833 y833 z833
  obtain ⟨rfl, Nq833, eh833⟩ := hQ833
  have N833 := Fr.app N830 Nq833
  have go834 : own_S p e below ST T833 (mkF m 338 #[iv ls, iv a, iv b, iv c', iv d, iv e', iv (2 : Int32), iv s0, iv s1, iv s2, iv s3, iv s4, rv b803, rv bk, iv (s0 &&& (1 : Int32)), iv (s1 &&& (1 : Int32)), iv (0 : Int32), iv (0 : Int32), iv (0 : Int32), iv (((((s0 &&& (1 : Int32)) + (s1 &&& (1 : Int32))) + (0 : Int32)) + (0 : Int32)) + (0 : Int32)), iv ((((((s0 &&& (1 : Int32)) + (s1 &&& (1 : Int32))) + (0 : Int32)) + (0 : Int32)) + (0 : Int32)) >>> ((1 : Int32) &&& 31))] [(.int (1 : Int32))]) := fun tt kt => go832 tt (st833 _ kt)
  have go835 : own_S p e below ST T833 (mkF m 346 #[iv ls, iv a, iv b, iv c', iv d, iv e', iv (2 : Int32), iv s0, iv s1, iv s2, iv s3, iv s4, rv b803, rv bk, iv (s0 &&& (1 : Int32)), iv (s1 &&& (1 : Int32)), iv (0 : Int32), iv (0 : Int32), iv (0 : Int32), iv (((((s0 &&& (1 : Int32)) + (s1 &&& (1 : Int32))) + (0 : Int32)) + (0 : Int32)) + (0 : Int32)), iv ((((((s0 &&& (1 : Int32)) + (s1 &&& (1 : Int32))) + (0 : Int32)) + (0 : Int32)) + (0 : Int32)) >>> ((1 : Int32) &&& 31))] [(.int (1 : Int32))]) := fun tt kt => go834 tt (by
      refine XS.ifNo X833.here hx rfl (hb hby at_338) rfl ((if0 _ _).trans (feq (by decide : ¬ ((1 : Int32) = (0 : Int32)))).1) ?_
      refine XS.iconst X833.here hx rfl (hb hby at_341) ?_
      refine XS.goto X833.here hx rfl (pc0 := 342) (pc' := 346) rfl (hb hby at_342) (by decide) (by decide) ?_
      exact kt)
  obtain ⟨fs, hr, hrun, hended, hW, hsame⟩ := X833.leave (v := some (.int (1 : Int32))) (fun h => by rw [Bd.returns] at h; cases h)
  refine ⟨_, _, pre0 _ (go835 _ ?_), hrun, hended, _, _, rfl, ?_, ⟨_, rfl⟩, hW, hsame.mono (by decide) (by decide)⟩
  · exact retN X833 hx (t := .boolean) Bd.returns (by simp) (hb hby at_346) hr
  · show Q0k2 Z ls a b c' d e' h0 n0 _ T833.heap _
    rw [eh833]
    exact ⟨rfl, N833⟩
theorem ef0k3 (m : MethodId) (x0 : Int32) (x1 : Int32) (x2 : Int32) (x3 : Int32) (x4 : Int32) (x5 : Int32) : entryFrame m #[(.int x0), (.int x1), (.int x2), (.int x3), (.int x4), (.int x5)] maxLocals = mkF m 0 #[.val (.int x0), .val (.int x1), .val (.int x2), .val (.int x3), .val (.int x4), .val (.int x5), .unset, .unset, .unset, .unset, .unset, .unset, .unset, .unset, .unset, .unset, .unset, .unset, .unset, .unset, .unset] [] := by first | (simp [entryFrame, mkF, argsToLocals, Value.category, maxLocals]; done) | rfl
def Q0k3 (Z : State) (ls : Int32) (a : Int32) (b : Int32) (c' : Int32) (d : Int32) (e' : Int32) (h0 : Heap) (n0 : Nat) (v : Option Value) (h : Heap) (L : List Loc) : Prop := v = some (.int 1) ∧ Fr n0 L
set_option maxRecDepth 65536 in
set_option maxHeartbeats 40000000 in
theorem rm0k3 (l : Launch) (Z : State) (a0 : Array Value) (hw : ∀ d ∈ tables_1, d.before a0 Z = true) (ws : List Jvm.Cond) (ls : Int32) (a : Int32) (b : Int32) (c' : Int32) (d : Int32) (e' : Int32) (h0 : Heap) (n0 : Nat) (Z0 : n0 ≤ h0.size) (hk : (ls &&& 2147483647) % 6 = 3) :
    MetFree l x (head1 (Jvm.Cond.code x code maxLocals ret :: ws) room_1) (fun aa UU => aa = #[(.int ls), (.int a), (.int b), (.int c'), (.int d), (.int e')] ∧ Z.Warmed39 UU.vm ∧ UU.heap = h0) (fun _ _ _ _ _ => True) (fun _ UU oo UU' => ∃ vv LL, oo = .returned vv ∧ Q0k3 Z ls a b c' d e' h0 n0 vv UU'.heap LL ∧ FrameEnd UU oo UU' LL room_1.cells room_1.slots) := by
  have W : ∀ {d : Jvm.Cond} (i : Nat), tables_1[i]? = some d → d.before a0 Z = true := fun i h => hw _ (List.mem_of_getElem? h)
  refine MetFree.of_bodySF (plainFor_of_name pn0) hisR ?_
  intro p e s m args below meth c s₁ Bd hml0 hP hK
  obtain ⟨rfl, hZ, hh⟩ := hP
  have hx := Bd.exec
  have hby := Bd.bytes
  have hml : c.maxLocals = 21 := hml0
  have hown : s.vm.findClass "com/example/declination/declination/engine/Nsga2KeptCountsPinLaw" = some m.cls := findClass_of_methodNamed Bd.named
  have hnm := (name_of_methodNamed Bd.named Bd.method).1
  have X0 : Stand p l e room_1 s m #[(.int ls), (.int a), (.int b), (.int c'), (.int d), (.int e')] below meth c s₁ [] 0 0 := Stand.of_body Bd
  have e0 : s₁.heap = h0 := by rw [← hh, Bd.state]; rfl
  have N0 := Fr.nil n0
  have pre0 : ∀ tt, Steps p.tables e below (s₁.setTop (mkF m 0 #[iv ls, iv a, iv b, iv c', iv d, iv e', .unset, .unset, .unset, .unset, .unset, .unset, .unset, .unset, .unset, .unset, .unset, .unset, .unset, .unset, .unset] [])) tt → Steps p.tables e below (s₁.setTop (entryFrame m #[(.int ls), (.int a), (.int b), (.int c'), (.int d), (.int e')] maxLocals)) tt := fun tt kt => castTop (ef0k3 m ls a b c' d e') kt
  obtain ⟨ST, hST⟩ : ∃ z : State, z = s₁.setTop (mkF m 0 #[iv ls, iv a, iv b, iv c', iv d, iv e', .unset, .unset, .unset, .unset, .unset, .unset, .unset, .unset, .unset, .unset, .unset, .unset, .unset, .unset, .unset] []) := ⟨_, rfl⟩
  rw [← hST] at pre0
  have go836 : own_S p e below ST s₁ (mkF m 9 #[iv ls, iv a, iv b, iv c', iv d, iv e', iv ((ls &&& (2147483647 : Int32)) % (6 : Int32)), .unset, .unset, .unset, .unset, .unset, .unset, .unset, .unset, .unset, .unset, .unset, .unset, .unset, .unset] []) := fun tt kt => (by
      rw [hST]
      show Steps p.tables e below (s₁.setTop (mkF m 0 #[iv ls, iv a, iv b, iv c', iv d, iv e', .unset, .unset, .unset, .unset, .unset, .unset, .unset, .unset, .unset, .unset, .unset, .unset, .unset, .unset, .unset] [])) _
      refine XS.iloadN X0.here hx rfl (hb hby at_0) rfl ?_
      refine X0.ldcInt hx hown (mvT hZ (W 0 rfl)) (g := (mkF m 1 #[iv ls, iv a, iv b, iv c', iv d, iv e', .unset, .unset, .unset, .unset, .unset, .unset, .unset, .unset, .unset, .unset, .unset, .unset, .unset, .unset, .unset] [(.int ls)])) rfl (hb hby at_1) _ ?_
      refine XS.iand X0.here hx rfl (hb hby at_3) rfl ?_
      refine XS.bipush X0.here hx rfl (hb hby at_4) ?_
      refine iremM (g := (mkF m 6 #[iv ls, iv a, iv b, iv c', iv d, iv e', .unset, .unset, .unset, .unset, .unset, .unset, .unset, .unset, .unset, .unset, .unset, .unset, .unset, .unset, .unset] [(.int (6 : Int32)), (.int (ls &&& (2147483647 : Int32)))])) X0 hx rfl (hb hby at_6) rfl (by decide) ?_
      refine XS.istore X0.here hx rfl (hb hby at_7) rfl (l' := #[iv ls, iv a, iv b, iv c', iv d, iv e', iv ((ls &&& (2147483647 : Int32)) % (6 : Int32)), .unset, .unset, .unset, .unset, .unset, .unset, .unset, .unset, .unset, .unset, .unset, .unset, .unset, .unset]) rfl ?_
      exact kt)
  rw [hk] at go836
  have go837 : own_S p e below ST s₁ (mkF m 15 #[iv ls, iv a, iv b, iv c', iv d, iv e', iv (3 : Int32), iv (a &&& (2147483647 : Int32)), .unset, .unset, .unset, .unset, .unset, .unset, .unset, .unset, .unset, .unset, .unset, .unset, .unset] []) := fun tt kt => go836 tt (by
      refine XS.iloadN X0.here hx rfl (hb hby at_9) rfl ?_
      refine X0.ldcInt hx hown (mvT hZ (W 0 rfl)) (g := (mkF m 10 #[iv ls, iv a, iv b, iv c', iv d, iv e', iv (3 : Int32), .unset, .unset, .unset, .unset, .unset, .unset, .unset, .unset, .unset, .unset, .unset, .unset, .unset, .unset] [(.int a)])) rfl (hb hby at_10) _ ?_
      refine XS.iand X0.here hx rfl (hb hby at_12) rfl ?_
      refine XS.istore X0.here hx rfl (hb hby at_13) rfl (l' := #[iv ls, iv a, iv b, iv c', iv d, iv e', iv (3 : Int32), iv (a &&& (2147483647 : Int32)), .unset, .unset, .unset, .unset, .unset, .unset, .unset, .unset, .unset, .unset, .unset, .unset, .unset]) rfl ?_
      exact kt)
  obtain ⟨s0, hs0⟩ : ∃ z : Int32, z = (a &&& (2147483647 : Int32)) := ⟨_, rfl⟩
  rw [← hs0] at go837
  have nn0 := own_nn _ s0 hs0
  have go838 : own_S p e below ST s₁ (mkF m 21 #[iv ls, iv a, iv b, iv c', iv d, iv e', iv (3 : Int32), iv s0, iv (b &&& (2147483647 : Int32)), .unset, .unset, .unset, .unset, .unset, .unset, .unset, .unset, .unset, .unset, .unset, .unset] []) := fun tt kt => go837 tt (by
      refine XS.iloadN X0.here hx rfl (hb hby at_15) rfl ?_
      refine X0.ldcInt hx hown (mvT hZ (W 0 rfl)) (g := (mkF m 16 #[iv ls, iv a, iv b, iv c', iv d, iv e', iv (3 : Int32), iv s0, .unset, .unset, .unset, .unset, .unset, .unset, .unset, .unset, .unset, .unset, .unset, .unset, .unset] [(.int b)])) rfl (hb hby at_16) _ ?_
      refine XS.iand X0.here hx rfl (hb hby at_18) rfl ?_
      refine XS.istore X0.here hx rfl (hb hby at_19) rfl (l' := #[iv ls, iv a, iv b, iv c', iv d, iv e', iv (3 : Int32), iv s0, iv (b &&& (2147483647 : Int32)), .unset, .unset, .unset, .unset, .unset, .unset, .unset, .unset, .unset, .unset, .unset, .unset]) rfl ?_
      exact kt)
  obtain ⟨s1, hs1⟩ : ∃ z : Int32, z = (b &&& (2147483647 : Int32)) := ⟨_, rfl⟩
  rw [← hs1] at go838
  have nn1 := own_nn _ s1 hs1
  have go839 : own_S p e below ST s₁ (mkF m 27 #[iv ls, iv a, iv b, iv c', iv d, iv e', iv (3 : Int32), iv s0, iv s1, iv (c' &&& (2147483647 : Int32)), .unset, .unset, .unset, .unset, .unset, .unset, .unset, .unset, .unset, .unset, .unset] []) := fun tt kt => go838 tt (by
      refine XS.iloadN X0.here hx rfl (hb hby at_21) rfl ?_
      refine X0.ldcInt hx hown (mvT hZ (W 0 rfl)) (g := (mkF m 22 #[iv ls, iv a, iv b, iv c', iv d, iv e', iv (3 : Int32), iv s0, iv s1, .unset, .unset, .unset, .unset, .unset, .unset, .unset, .unset, .unset, .unset, .unset, .unset] [(.int c')])) rfl (hb hby at_22) _ ?_
      refine XS.iand X0.here hx rfl (hb hby at_24) rfl ?_
      refine XS.istore X0.here hx rfl (hb hby at_25) rfl (l' := #[iv ls, iv a, iv b, iv c', iv d, iv e', iv (3 : Int32), iv s0, iv s1, iv (c' &&& (2147483647 : Int32)), .unset, .unset, .unset, .unset, .unset, .unset, .unset, .unset, .unset, .unset, .unset]) rfl ?_
      exact kt)
  obtain ⟨s2, hs2⟩ : ∃ z : Int32, z = (c' &&& (2147483647 : Int32)) := ⟨_, rfl⟩
  rw [← hs2] at go839
  have nn2 := own_nn _ s2 hs2
  have go840 : own_S p e below ST s₁ (mkF m 34 #[iv ls, iv a, iv b, iv c', iv d, iv e', iv (3 : Int32), iv s0, iv s1, iv s2, iv (d &&& (2147483647 : Int32)), .unset, .unset, .unset, .unset, .unset, .unset, .unset, .unset, .unset, .unset] []) := fun tt kt => go839 tt (by
      refine XS.iload X0.here hx rfl (hb hby at_27) rfl ?_
      refine X0.ldcInt hx hown (mvT hZ (W 0 rfl)) (g := (mkF m 29 #[iv ls, iv a, iv b, iv c', iv d, iv e', iv (3 : Int32), iv s0, iv s1, iv s2, .unset, .unset, .unset, .unset, .unset, .unset, .unset, .unset, .unset, .unset, .unset] [(.int d)])) rfl (hb hby at_29) _ ?_
      refine XS.iand X0.here hx rfl (hb hby at_31) rfl ?_
      refine XS.istore X0.here hx rfl (hb hby at_32) rfl (l' := #[iv ls, iv a, iv b, iv c', iv d, iv e', iv (3 : Int32), iv s0, iv s1, iv s2, iv (d &&& (2147483647 : Int32)), .unset, .unset, .unset, .unset, .unset, .unset, .unset, .unset, .unset, .unset]) rfl ?_
      exact kt)
  obtain ⟨s3, hs3⟩ : ∃ z : Int32, z = (d &&& (2147483647 : Int32)) := ⟨_, rfl⟩
  rw [← hs3] at go840
  have nn3 := own_nn _ s3 hs3
  have go841 : own_S p e below ST s₁ (mkF m 41 #[iv ls, iv a, iv b, iv c', iv d, iv e', iv (3 : Int32), iv s0, iv s1, iv s2, iv s3, iv (e' &&& (2147483647 : Int32)), .unset, .unset, .unset, .unset, .unset, .unset, .unset, .unset, .unset] []) := fun tt kt => go840 tt (by
      refine XS.iload X0.here hx rfl (hb hby at_34) rfl ?_
      refine X0.ldcInt hx hown (mvT hZ (W 0 rfl)) (g := (mkF m 36 #[iv ls, iv a, iv b, iv c', iv d, iv e', iv (3 : Int32), iv s0, iv s1, iv s2, iv s3, .unset, .unset, .unset, .unset, .unset, .unset, .unset, .unset, .unset, .unset] [(.int e')])) rfl (hb hby at_36) _ ?_
      refine XS.iand X0.here hx rfl (hb hby at_38) rfl ?_
      refine XS.istore X0.here hx rfl (hb hby at_39) rfl (l' := #[iv ls, iv a, iv b, iv c', iv d, iv e', iv (3 : Int32), iv s0, iv s1, iv s2, iv s3, iv (e' &&& (2147483647 : Int32)), .unset, .unset, .unset, .unset, .unset, .unset, .unset, .unset, .unset]) rfl ?_
      exact kt)
  obtain ⟨s4, hs4⟩ : ∃ z : Int32, z = (e' &&& (2147483647 : Int32)) := ⟨_, rfl⟩
  rw [← hs4] at go841
  have nn4 := own_nn _ s4 hs4
  have go842 : own_S p e below ST s₁ (mkF m 43 #[iv ls, iv a, iv b, iv c', iv d, iv e', iv (3 : Int32), iv s0, iv s1, iv s2, iv s3, iv s4, .unset, .unset, .unset, .unset, .unset, .unset, .unset, .unset, .unset] [(.int (3 : Int32))]) := fun tt kt => go841 tt (by
      refine XS.iload X0.here hx rfl (hb hby at_41) rfl ?_
      exact kt)
  obtain ⟨b843, g843⟩ : ∃ z, z = h0.size := ⟨_, rfl⟩
  obtain ⟨T843, h843, k843, X843, e843, E843, A843, st843⟩ := newP X0 hx hZ (W 1 rfl) e0 (g := (mkF m 43 #[iv ls, iv a, iv b, iv c', iv d, iv e', iv (3 : Int32), iv s0, iv s1, iv s2, iv s3, iv s4, .unset, .unset, .unset, .unset, .unset, .unset, .unset, .unset, .unset] [(.int (3 : Int32))])) rfl (hb hby at_43) rfl (by decide) (cap := 3) (by decide) (by decide) (by decide) (by decide)
  rw [← g843] at A843 st843
  have ge_b843 : n0 ≤ b843 := Nat.le_trans Z0 (Nat.le_of_eq g843.symm)
  have V843 : Arv Z h843 b843 k843 .int (3 : Int32) [(.int (0 : Int32)), (.int (0 : Int32)), (.int (0 : Int32))] (.int (0 : Int32)) := (Arv.new A843 (by decide)).pad (pad_rep [] (.int (0 : Int32)) 3)
  have go844 : own_S p e below ST T843 (mkF m 45 #[iv ls, iv a, iv b, iv c', iv d, iv e', iv (3 : Int32), iv s0, iv s1, iv s2, iv s3, iv s4, .unset, .unset, .unset, .unset, .unset, .unset, .unset, .unset, .unset] [(.ref b843)]) := fun tt kt => go842 tt (st843 _ kt)
  have go845 : own_S p e below ST T843 (mkF m 57 #[iv ls, iv a, iv b, iv c', iv d, iv e', iv (3 : Int32), iv s0, iv s1, iv s2, iv s3, iv s4, rv b843, .unset, .unset, .unset, .unset, .unset, .unset, .unset, .unset] [(.int s0), (.int (0 : Int32)), (.ref b843)]) := fun tt kt => go844 tt (by
      refine XS.astore X843.here hx rfl (hb hby at_45) rfl rfl (l' := #[iv ls, iv a, iv b, iv c', iv d, iv e', iv (3 : Int32), iv s0, iv s1, iv s2, iv s3, iv s4, rv b843, .unset, .unset, .unset, .unset, .unset, .unset, .unset, .unset]) rfl ?_
      refine XS.iload X843.here hx rfl (hb hby at_47) rfl ?_
      refine XS.ifNo X843.here hx rfl (hb hby at_49) rfl ((if0 _ _).trans (tlt (by decide : (0 : Int32) < (3 : Int32))).2.2.2) ?_
      refine XS.aload X843.here hx rfl (hb hby at_52) rfl rfl ?_
      refine XS.iconst X843.here hx rfl (hb hby at_54) ?_
      refine XS.iload X843.here hx rfl (hb hby at_55) rfl ?_
      exact kt)
  obtain ⟨cl846, Ar846, q846, S846, M846, H846, G846⟩ := id V843
  have hin846 : ¬ ((0 : Int32) < 0 ∨ cl846.slots.size ≤ ((0 : Int32)).toNatClampNeg) := inb_of S846 ⟨by decide, by decide⟩
  obtain ⟨T846, h846, X846, e846, W846, st846⟩ := stI X843 hx hZ e843 Ar846 (j := (0 : Int32)) hin846 (g := (mkF m 57 #[iv ls, iv a, iv b, iv c', iv d, iv e', iv (3 : Int32), iv s0, iv s1, iv s2, iv s3, iv s4, rv b843, .unset, .unset, .unset, .unset, .unset, .unset, .unset, .unset] [(.int s0), (.int (0 : Int32)), (.ref b843)])) rfl rfl (hb hby at_57)
  have V846 : Arv Z h846 b843 k843 .int (3 : Int32) [(.int s0), (.int (0 : Int32)), (.int (0 : Int32))] (.int (0 : Int32)) := Arv.set Ar846 q846 S846 M846 H846 G846 rfl W846 0 rfl (Nat.le_of_ble_eq_true rfl)
  have N846 := Fr.snoc X846 N0 ge_b843
  have go847 : own_S p e below ST T846 (mkF m 58 #[iv ls, iv a, iv b, iv c', iv d, iv e', iv (3 : Int32), iv s0, iv s1, iv s2, iv s3, iv s4, rv b843, .unset, .unset, .unset, .unset, .unset, .unset, .unset, .unset] []) := fun tt kt => go845 tt (st846 _ kt)
  have go848 : own_S p e below ST T846 (mkF m 69 #[iv ls, iv a, iv b, iv c', iv d, iv e', iv (3 : Int32), iv s0, iv s1, iv s2, iv s3, iv s4, rv b843, .unset, .unset, .unset, .unset, .unset, .unset, .unset, .unset] [(.int s1), (.int (1 : Int32)), (.ref b843)]) := fun tt kt => go847 tt (by
      refine XS.iload X846.here hx rfl (hb hby at_58) rfl ?_
      refine XS.iconst X846.here hx rfl (hb hby at_60) ?_
      refine XS.icmpNo X846.here hx rfl (hb hby at_61) rfl (tlt (by decide : (1 : Int32) < (3 : Int32))).2.2.2 ?_
      refine XS.aload X846.here hx rfl (hb hby at_64) rfl rfl ?_
      refine XS.iconst X846.here hx rfl (hb hby at_66) ?_
      refine XS.iload X846.here hx rfl (hb hby at_67) rfl ?_
      exact kt)
  obtain ⟨cl849, Ar849, q849, S849, M849, H849, G849⟩ := id V846
  have hin849 : ¬ ((1 : Int32) < 0 ∨ cl849.slots.size ≤ ((1 : Int32)).toNatClampNeg) := inb_of S849 ⟨by decide, by decide⟩
  obtain ⟨T849, h849, X849, e849, W849, st849⟩ := stI X846 hx hZ e846 Ar849 (j := (1 : Int32)) hin849 (g := (mkF m 69 #[iv ls, iv a, iv b, iv c', iv d, iv e', iv (3 : Int32), iv s0, iv s1, iv s2, iv s3, iv s4, rv b843, .unset, .unset, .unset, .unset, .unset, .unset, .unset, .unset] [(.int s1), (.int (1 : Int32)), (.ref b843)])) rfl rfl (hb hby at_69)
  have V849 : Arv Z h849 b843 k843 .int (3 : Int32) [(.int s0), (.int s1), (.int (0 : Int32))] (.int (0 : Int32)) := Arv.set Ar849 q849 S849 M849 H849 G849 rfl W849 1 rfl (Nat.le_of_ble_eq_true rfl)
  have N849 := Fr.snoc X849 N846 ge_b843
  have go850 : own_S p e below ST T849 (mkF m 70 #[iv ls, iv a, iv b, iv c', iv d, iv e', iv (3 : Int32), iv s0, iv s1, iv s2, iv s3, iv s4, rv b843, .unset, .unset, .unset, .unset, .unset, .unset, .unset, .unset] []) := fun tt kt => go848 tt (st849 _ kt)
  have go851 : own_S p e below ST T849 (mkF m 81 #[iv ls, iv a, iv b, iv c', iv d, iv e', iv (3 : Int32), iv s0, iv s1, iv s2, iv s3, iv s4, rv b843, .unset, .unset, .unset, .unset, .unset, .unset, .unset, .unset] [(.int s2), (.int (2 : Int32)), (.ref b843)]) := fun tt kt => go850 tt (by
      refine XS.iload X849.here hx rfl (hb hby at_70) rfl ?_
      refine XS.iconst X849.here hx rfl (hb hby at_72) ?_
      refine XS.icmpNo X849.here hx rfl (hb hby at_73) rfl (tlt (by decide : (2 : Int32) < (3 : Int32))).2.2.2 ?_
      refine XS.aload X849.here hx rfl (hb hby at_76) rfl rfl ?_
      refine XS.iconst X849.here hx rfl (hb hby at_78) ?_
      refine XS.iload X849.here hx rfl (hb hby at_79) rfl ?_
      exact kt)
  obtain ⟨cl852, Ar852, q852, S852, M852, H852, G852⟩ := id V849
  have hin852 : ¬ ((2 : Int32) < 0 ∨ cl852.slots.size ≤ ((2 : Int32)).toNatClampNeg) := inb_of S852 ⟨by decide, by decide⟩
  obtain ⟨T852, h852, X852, e852, W852, st852⟩ := stI X849 hx hZ e849 Ar852 (j := (2 : Int32)) hin852 (g := (mkF m 81 #[iv ls, iv a, iv b, iv c', iv d, iv e', iv (3 : Int32), iv s0, iv s1, iv s2, iv s3, iv s4, rv b843, .unset, .unset, .unset, .unset, .unset, .unset, .unset, .unset] [(.int s2), (.int (2 : Int32)), (.ref b843)])) rfl rfl (hb hby at_81)
  have V852 : Arv Z h852 b843 k843 .int (3 : Int32) [(.int s0), (.int s1), (.int s2)] (.int (0 : Int32)) := Arv.set Ar852 q852 S852 M852 H852 G852 rfl W852 2 rfl (Nat.le_of_ble_eq_true rfl)
  have N852 := Fr.snoc X852 N849 ge_b843
  have go853 : own_S p e below ST T852 (mkF m 82 #[iv ls, iv a, iv b, iv c', iv d, iv e', iv (3 : Int32), iv s0, iv s1, iv s2, iv s3, iv s4, rv b843, .unset, .unset, .unset, .unset, .unset, .unset, .unset, .unset] []) := fun tt kt => go851 tt (st852 _ kt)
  have go854 : own_S p e below ST T852 (mkF m 108 #[iv ls, iv a, iv b, iv c', iv d, iv e', iv (3 : Int32), iv s0, iv s1, iv s2, iv s3, iv s4, rv b843, .unset, .unset, .unset, .unset, .unset, .unset, .unset, .unset] [(.ref b843)]) := fun tt kt => go853 tt (by
      refine XS.iload X852.here hx rfl (hb hby at_82) rfl ?_
      refine XS.iconst X852.here hx rfl (hb hby at_84) ?_
      refine XS.icmpYes X852.here hx rfl (pc0 := 85) (pc' := 94) rfl (hb hby at_85) rfl (flt (by decide : ¬ ((3 : Int32) < (3 : Int32)))).2.2.2 (by decide) (by decide) ?_
      refine XS.iload X852.here hx rfl (hb hby at_94) rfl ?_
      refine XS.iconst X852.here hx rfl (hb hby at_96) ?_
      refine XS.icmpYes X852.here hx rfl (pc0 := 97) (pc' := 106) rfl (hb hby at_97) rfl (flt (by decide : ¬ ((4 : Int32) < (3 : Int32)))).2.2.2 (by decide) (by decide) ?_
      show Steps p.tables e below (T852.setTop (mkF m 106 #[iv ls, iv a, iv b, iv c', iv d, iv e', iv (3 : Int32), iv s0, iv s1, iv s2, iv s3, iv s4, rv b843, .unset, .unset, .unset, .unset, .unset, .unset, .unset, .unset] [])) _
      refine XS.aload X852.here hx rfl (hb hby at_106) rfl rfl ?_
      exact kt)
  have zs856 := (Nat.le_trans (Nat.le_trans (Nat.le_trans (Nat.le_trans Z0 E843.1) (Keep.of_wr W846).1) (Keep.of_wr W849).1) (Keep.of_wr W852).1)
  obtain ⟨_, _, ⟨T855, L855, k855, n855⟩, -, X855, ⟨Lc855, hQ855, l855, y855, z855⟩, st855⟩ := Jvm.LawKit.callS X852 hx (y := (⟨"com/example/declination/declination/engine/Nsga2", "keptCounts", "([I)[I"⟩ : MethodName)) hown (mvT hZ (W 2 rfl)) (mvT hZ (W 3 rfl)) (mvT hZ (W 4 rfl)) (mvT hZ (W 5 rfl)) (by decide) (backOf (W := 0) (rm1k3 l Z a0 hw [] b843 _ s0 s1 s2 h852 n0 zs856 V852) hZ (W 5 rfl) (W 4 rfl) (by decide) (by decide)) (g := (mkF m 108 #[iv ls, iv a, iv b, iv c', iv d, iv e', iv (3 : Int32), iv s0, iv s1, iv s2, iv s3, iv s4, rv b843, .unset, .unset, .unset, .unset, .unset, .unset, .unset, .unset] [(.ref b843)])) rfl (by rw [hml]; rfl) (argsL := [(.ref b843)]) (rest := []) (lenOf pd96 rfl) rfl (by show 2 * 0 + _ ≤ _; exact Nat.le_of_eq rfl) (hb hby at_108) (fun _ _ => ⟨rfl, e852, (by decide : 1 + 1 ≤ _), (by decide : 3 + 3 ≤ _)⟩)
  dsimp only [Pt.U, Pt.locs, Pt.cells, Pt.slots] at X855 l855 y855 z855 st855 hQ855
  subst l855 y855 z855
  obtain ⟨bk, kk, od, e0, e1, e2, q1, q2, q3, rfl, Nq855, K855, Vk855, hod, he0, hq1, he1, hq2, he2, hq3⟩ := hQ855
  have N855 := Fr.app N852 Nq855
  have go857 : own_S p e below ST T855 (mkF m 111 #[iv ls, iv a, iv b, iv c', iv d, iv e', iv (3 : Int32), iv s0, iv s1, iv s2, iv s3, iv s4, rv b843, .unset, .unset, .unset, .unset, .unset, .unset, .unset, .unset] [(.ref bk)]) := fun tt kt => go854 tt (st855 _ kt)
  have go858 : own_S p e below ST T855 (mkF m 120 #[iv ls, iv a, iv b, iv c', iv d, iv e', iv (3 : Int32), iv s0, iv s1, iv s2, iv s3, iv s4, rv b843, rv bk, .unset, .unset, .unset, .unset, .unset, .unset, .unset] [(.ref bk)]) := fun tt kt => go857 tt (by
      refine XS.astore X855.here hx rfl (hb hby at_111) rfl rfl (l' := #[iv ls, iv a, iv b, iv c', iv d, iv e', iv (3 : Int32), iv s0, iv s1, iv s2, iv s3, iv s4, rv b843, rv bk, .unset, .unset, .unset, .unset, .unset, .unset, .unset]) rfl ?_
      refine XS.aload X855.here hx rfl (hb hby at_113) rfl rfl ?_
      refine XS.ifnullNo X855.here hx rfl (hb hby at_115) rfl ?_
      refine XS.aload X855.here hx rfl (hb hby at_118) rfl rfl ?_
      exact kt)
  obtain ⟨cl859, Ar859, q859, S859, M859, H859, G859⟩ := id Vk855
  have go860 : own_S p e below ST T855 (mkF m 121 #[iv ls, iv a, iv b, iv c', iv d, iv e', iv (3 : Int32), iv s0, iv s1, iv s2, iv s3, iv s4, rv b843, rv bk, .unset, .unset, .unset, .unset, .unset, .unset, .unset] [(.int (3 : Int32))]) := fun tt kt => go858 tt (by
      refine X855.arraylength hx (by exact Ar859.1) (State.isArrayOf_alike hZ.alike Ar859.2.1) (g := (mkF m 120 #[iv ls, iv a, iv b, iv c', iv d, iv e', iv (3 : Int32), iv s0, iv s1, iv s2, iv s3, iv s4, rv b843, rv bk, .unset, .unset, .unset, .unset, .unset, .unset, .unset] [(.ref bk)])) rfl rfl (hb hby at_120) _ ?_
      rw [len_of S859 M859]
      exact kt)
  have go861 : own_S p e below ST T855 (mkF m 229 #[iv ls, iv a, iv b, iv c', iv d, iv e', iv (3 : Int32), iv s0, iv s1, iv s2, iv s3, iv s4, rv b843, rv bk, iv (s0 &&& (1 : Int32)), iv (s1 &&& (1 : Int32)), iv (s2 &&& (1 : Int32)), iv (0 : Int32), iv (0 : Int32), iv (((((s0 &&& (1 : Int32)) + (s1 &&& (1 : Int32))) + (s2 &&& (1 : Int32))) + (0 : Int32)) + (0 : Int32)), iv ((((((s0 &&& (1 : Int32)) + (s1 &&& (1 : Int32))) + (s2 &&& (1 : Int32))) + (0 : Int32)) + (0 : Int32)) >>> ((1 : Int32) &&& 31))] []) := fun tt kt => go860 tt (by
      refine XS.iload X855.here hx rfl (hb hby at_121) rfl ?_
      refine XS.icmpYes X855.here hx rfl (pc0 := 123) (pc' := 128) rfl (hb hby at_123) rfl (teq (by decide : (3 : Int32) = (3 : Int32))).1 (by decide) (by decide) ?_
      refine XS.iload X855.here hx rfl (hb hby at_128) rfl ?_
      refine XS.ifNo X855.here hx rfl (hb hby at_130) rfl ((if0 _ _).trans (tlt (by decide : (0 : Int32) < (3 : Int32))).2.2.2) ?_
      refine XS.iload X855.here hx rfl (hb hby at_133) rfl ?_
      refine XS.iconst X855.here hx rfl (hb hby at_135) ?_
      show Steps p.tables e below (T855.setTop (mkF m 136 #[iv ls, iv a, iv b, iv c', iv d, iv e', iv (3 : Int32), iv s0, iv s1, iv s2, iv s3, iv s4, rv b843, rv bk, .unset, .unset, .unset, .unset, .unset, .unset, .unset] [(.int (1 : Int32)), (.int s0)])) _
      refine XS.iand X855.here hx rfl (hb hby at_136) rfl ?_
      refine XS.goto X855.here hx rfl (pc0 := 137) (pc' := 141) rfl (hb hby at_137) (by decide) (by decide) ?_
      refine XS.istore X855.here hx rfl (hb hby at_141) rfl (l' := #[iv ls, iv a, iv b, iv c', iv d, iv e', iv (3 : Int32), iv s0, iv s1, iv s2, iv s3, iv s4, rv b843, rv bk, iv (s0 &&& (1 : Int32)), .unset, .unset, .unset, .unset, .unset, .unset]) rfl ?_
      refine XS.iload X855.here hx rfl (hb hby at_143) rfl ?_
      refine XS.iconst X855.here hx rfl (hb hby at_145) ?_
      refine XS.icmpNo X855.here hx rfl (hb hby at_146) rfl (tlt (by decide : (1 : Int32) < (3 : Int32))).2.2.2 ?_
      show Steps p.tables e below (T855.setTop (mkF m 149 #[iv ls, iv a, iv b, iv c', iv d, iv e', iv (3 : Int32), iv s0, iv s1, iv s2, iv s3, iv s4, rv b843, rv bk, iv (s0 &&& (1 : Int32)), .unset, .unset, .unset, .unset, .unset, .unset] [])) _
      refine XS.iload X855.here hx rfl (hb hby at_149) rfl ?_
      refine XS.iconst X855.here hx rfl (hb hby at_151) ?_
      refine XS.iand X855.here hx rfl (hb hby at_152) rfl ?_
      refine XS.goto X855.here hx rfl (pc0 := 153) (pc' := 157) rfl (hb hby at_153) (by decide) (by decide) ?_
      refine XS.istore X855.here hx rfl (hb hby at_157) rfl (l' := #[iv ls, iv a, iv b, iv c', iv d, iv e', iv (3 : Int32), iv s0, iv s1, iv s2, iv s3, iv s4, rv b843, rv bk, iv (s0 &&& (1 : Int32)), iv (s1 &&& (1 : Int32)), .unset, .unset, .unset, .unset, .unset]) rfl ?_
      refine XS.iload X855.here hx rfl (hb hby at_159) rfl ?_
      show Steps p.tables e below (T855.setTop (mkF m 161 #[iv ls, iv a, iv b, iv c', iv d, iv e', iv (3 : Int32), iv s0, iv s1, iv s2, iv s3, iv s4, rv b843, rv bk, iv (s0 &&& (1 : Int32)), iv (s1 &&& (1 : Int32)), .unset, .unset, .unset, .unset, .unset] [(.int (3 : Int32))])) _
      refine XS.iconst X855.here hx rfl (hb hby at_161) ?_
      refine XS.icmpNo X855.here hx rfl (hb hby at_162) rfl (tlt (by decide : (2 : Int32) < (3 : Int32))).2.2.2 ?_
      refine XS.iload X855.here hx rfl (hb hby at_165) rfl ?_
      refine XS.iconst X855.here hx rfl (hb hby at_167) ?_
      refine XS.iand X855.here hx rfl (hb hby at_168) rfl ?_
      refine XS.goto X855.here hx rfl (pc0 := 169) (pc' := 173) rfl (hb hby at_169) (by decide) (by decide) ?_
      show Steps p.tables e below (T855.setTop (mkF m 173 #[iv ls, iv a, iv b, iv c', iv d, iv e', iv (3 : Int32), iv s0, iv s1, iv s2, iv s3, iv s4, rv b843, rv bk, iv (s0 &&& (1 : Int32)), iv (s1 &&& (1 : Int32)), .unset, .unset, .unset, .unset, .unset] [(.int (s2 &&& (1 : Int32)))])) _
      refine XS.istore X855.here hx rfl (hb hby at_173) rfl (l' := #[iv ls, iv a, iv b, iv c', iv d, iv e', iv (3 : Int32), iv s0, iv s1, iv s2, iv s3, iv s4, rv b843, rv bk, iv (s0 &&& (1 : Int32)), iv (s1 &&& (1 : Int32)), iv (s2 &&& (1 : Int32)), .unset, .unset, .unset, .unset]) rfl ?_
      refine XS.iload X855.here hx rfl (hb hby at_175) rfl ?_
      refine XS.iconst X855.here hx rfl (hb hby at_177) ?_
      refine XS.icmpYes X855.here hx rfl (pc0 := 178) (pc' := 188) rfl (hb hby at_178) rfl (flt (by decide : ¬ ((3 : Int32) < (3 : Int32)))).2.2.2 (by decide) (by decide) ?_
      refine XS.iconst X855.here hx rfl (hb hby at_188) ?_
      refine XS.istore X855.here hx rfl (hb hby at_189) rfl (l' := #[iv ls, iv a, iv b, iv c', iv d, iv e', iv (3 : Int32), iv s0, iv s1, iv s2, iv s3, iv s4, rv b843, rv bk, iv (s0 &&& (1 : Int32)), iv (s1 &&& (1 : Int32)), iv (s2 &&& (1 : Int32)), iv (0 : Int32), .unset, .unset, .unset]) rfl ?_
      show Steps p.tables e below (T855.setTop (mkF m 191 #[iv ls, iv a, iv b, iv c', iv d, iv e', iv (3 : Int32), iv s0, iv s1, iv s2, iv s3, iv s4, rv b843, rv bk, iv (s0 &&& (1 : Int32)), iv (s1 &&& (1 : Int32)), iv (s2 &&& (1 : Int32)), iv (0 : Int32), .unset, .unset, .unset] [])) _
      refine XS.iload X855.here hx rfl (hb hby at_191) rfl ?_
      refine XS.iconst X855.here hx rfl (hb hby at_193) ?_
      refine XS.icmpYes X855.here hx rfl (pc0 := 194) (pc' := 204) rfl (hb hby at_194) rfl (flt (by decide : ¬ ((4 : Int32) < (3 : Int32)))).2.2.2 (by decide) (by decide) ?_
      refine XS.iconst X855.here hx rfl (hb hby at_204) ?_
      refine XS.istore X855.here hx rfl (hb hby at_205) rfl (l' := #[iv ls, iv a, iv b, iv c', iv d, iv e', iv (3 : Int32), iv s0, iv s1, iv s2, iv s3, iv s4, rv b843, rv bk, iv (s0 &&& (1 : Int32)), iv (s1 &&& (1 : Int32)), iv (s2 &&& (1 : Int32)), iv (0 : Int32), iv (0 : Int32), .unset, .unset]) rfl ?_
      refine XS.iload X855.here hx rfl (hb hby at_207) rfl ?_
      show Steps p.tables e below (T855.setTop (mkF m 209 #[iv ls, iv a, iv b, iv c', iv d, iv e', iv (3 : Int32), iv s0, iv s1, iv s2, iv s3, iv s4, rv b843, rv bk, iv (s0 &&& (1 : Int32)), iv (s1 &&& (1 : Int32)), iv (s2 &&& (1 : Int32)), iv (0 : Int32), iv (0 : Int32), .unset, .unset] [(.int (s0 &&& (1 : Int32)))])) _
      refine XS.iload X855.here hx rfl (hb hby at_209) rfl ?_
      refine XS.iadd X855.here hx rfl (hb hby at_211) rfl ?_
      refine XS.iload X855.here hx rfl (hb hby at_212) rfl ?_
      refine XS.iadd X855.here hx rfl (hb hby at_214) rfl ?_
      refine XS.iload X855.here hx rfl (hb hby at_215) rfl ?_
      refine XS.iadd X855.here hx rfl (hb hby at_217) rfl ?_
      show Steps p.tables e below (T855.setTop (mkF m 218 #[iv ls, iv a, iv b, iv c', iv d, iv e', iv (3 : Int32), iv s0, iv s1, iv s2, iv s3, iv s4, rv b843, rv bk, iv (s0 &&& (1 : Int32)), iv (s1 &&& (1 : Int32)), iv (s2 &&& (1 : Int32)), iv (0 : Int32), iv (0 : Int32), .unset, .unset] [(.int ((((s0 &&& (1 : Int32)) + (s1 &&& (1 : Int32))) + (s2 &&& (1 : Int32))) + (0 : Int32)))])) _
      refine XS.iload X855.here hx rfl (hb hby at_218) rfl ?_
      refine XS.iadd X855.here hx rfl (hb hby at_220) rfl ?_
      refine XS.istore X855.here hx rfl (hb hby at_221) rfl (l' := #[iv ls, iv a, iv b, iv c', iv d, iv e', iv (3 : Int32), iv s0, iv s1, iv s2, iv s3, iv s4, rv b843, rv bk, iv (s0 &&& (1 : Int32)), iv (s1 &&& (1 : Int32)), iv (s2 &&& (1 : Int32)), iv (0 : Int32), iv (0 : Int32), iv (((((s0 &&& (1 : Int32)) + (s1 &&& (1 : Int32))) + (s2 &&& (1 : Int32))) + (0 : Int32)) + (0 : Int32)), .unset]) rfl ?_
      refine XS.iload X855.here hx rfl (hb hby at_223) rfl ?_
      refine XS.iconst X855.here hx rfl (hb hby at_225) ?_
      refine XS.ishr X855.here hx rfl (hb hby at_226) rfl ?_
      show Steps p.tables e below (T855.setTop (mkF m 227 #[iv ls, iv a, iv b, iv c', iv d, iv e', iv (3 : Int32), iv s0, iv s1, iv s2, iv s3, iv s4, rv b843, rv bk, iv (s0 &&& (1 : Int32)), iv (s1 &&& (1 : Int32)), iv (s2 &&& (1 : Int32)), iv (0 : Int32), iv (0 : Int32), iv (((((s0 &&& (1 : Int32)) + (s1 &&& (1 : Int32))) + (s2 &&& (1 : Int32))) + (0 : Int32)) + (0 : Int32)), .unset] [(.int ((((((s0 &&& (1 : Int32)) + (s1 &&& (1 : Int32))) + (s2 &&& (1 : Int32))) + (0 : Int32)) + (0 : Int32)) >>> ((1 : Int32) &&& 31)))])) _
      refine XS.istore X855.here hx rfl (hb hby at_227) rfl (l' := #[iv ls, iv a, iv b, iv c', iv d, iv e', iv (3 : Int32), iv s0, iv s1, iv s2, iv s3, iv s4, rv b843, rv bk, iv (s0 &&& (1 : Int32)), iv (s1 &&& (1 : Int32)), iv (s2 &&& (1 : Int32)), iv (0 : Int32), iv (0 : Int32), iv (((((s0 &&& (1 : Int32)) + (s1 &&& (1 : Int32))) + (s2 &&& (1 : Int32))) + (0 : Int32)) + (0 : Int32)), iv ((((((s0 &&& (1 : Int32)) + (s1 &&& (1 : Int32))) + (s2 &&& (1 : Int32))) + (0 : Int32)) + (0 : Int32)) >>> ((1 : Int32) &&& 31))]) rfl ?_
      exact kt)
  have u0 : 0 ≤ (0 : Int32).toInt ∧ (0 : Int32).toInt ≤ 0 := by decide
  have u1 : 0 ≤ ((0 : Int32) + (s0 &&& 1)).toInt ∧ ((0 : Int32) + (s0 &&& 1)).toInt ≤ 1 := own_up (0 : Int32) s0 0 u0 (by decide)
  have u2 : 0 ≤ (((0 : Int32) + (s0 &&& 1)) + (s1 &&& 1)).toInt ∧ (((0 : Int32) + (s0 &&& 1)) + (s1 &&& 1)).toInt ≤ 2 := own_up ((0 : Int32) + (s0 &&& 1)) s1 1 u1 (by decide)
  have u3 : 0 ≤ ((((0 : Int32) + (s0 &&& 1)) + (s1 &&& 1)) + (s2 &&& 1)).toInt ∧ ((((0 : Int32) + (s0 &&& 1)) + (s1 &&& 1)) + (s2 &&& 1)).toInt ≤ 3 := own_up (((0 : Int32) + (s0 &&& 1)) + (s1 &&& 1)) s2 2 u2 (by decide)
  have hod' : od = ((((0 : Int32) + (s0 &&& 1)) + (s1 &&& 1)) + (s2 &&& 1)) := by rw [hod, own_rem s0 nn0, own_rem s1 nn1, own_rem s2 nn2]
  have hH : od / (2 : Int32) = ((((((s0 &&& (1 : Int32)) + (s1 &&& (1 : Int32))) + (s2 &&& (1 : Int32))) + (0 : Int32)) + (0 : Int32)) >>> ((1 : Int32) &&& 31)) := by rw [hod', own_half _ u3.1]; simp only [Int32.add_zero, Int32.zero_add]
  have hqq0 : (0 : Int32) = (0 : Int32) := by rfl
  have hx0 : e0 = (s0 >>> ((1 : Int32) &&& 31)) + own_inc (0 : Int32) ((((((s0 &&& (1 : Int32)) + (s1 &&& (1 : Int32))) + (s2 &&& (1 : Int32))) + (0 : Int32)) + (0 : Int32)) >>> ((1 : Int32) &&& 31)) (s0 &&& (1 : Int32)) := by rw [he0, own_ve _ _ _ nn0, hH, hqq0]
  have hqq1 : q1 = (s0 &&& (1 : Int32)) := by rw [hq1, own_se _ _ _ nn0, hqq0]; simp only [Int32.zero_add]
  have hx1 : e1 = (s1 >>> ((1 : Int32) &&& 31)) + own_inc (s0 &&& (1 : Int32)) ((((((s0 &&& (1 : Int32)) + (s1 &&& (1 : Int32))) + (s2 &&& (1 : Int32))) + (0 : Int32)) + (0 : Int32)) >>> ((1 : Int32) &&& 31)) (s1 &&& (1 : Int32)) := by rw [he1, own_ve _ _ _ nn1, hH, hqq1]
  have hqq2 : q2 = ((s0 &&& (1 : Int32)) + (s1 &&& (1 : Int32))) := by rw [hq2, own_se _ _ _ nn1, hqq1]
  have hx2 : e2 = (s2 >>> ((1 : Int32) &&& 31)) + own_inc ((s0 &&& (1 : Int32)) + (s1 &&& (1 : Int32))) ((((((s0 &&& (1 : Int32)) + (s1 &&& (1 : Int32))) + (s2 &&& (1 : Int32))) + (0 : Int32)) + (0 : Int32)) >>> ((1 : Int32) &&& 31)) (s2 &&& (1 : Int32)) := by rw [he2, own_ve _ _ _ nn2, hH, hqq2]
  have go862 : own_S p e below ST T855 (mkF m 241 #[iv ls, iv a, iv b, iv c', iv d, iv e', iv (3 : Int32), iv s0, iv s1, iv s2, iv s3, iv s4, rv b843, rv bk, iv (s0 &&& (1 : Int32)), iv (s1 &&& (1 : Int32)), iv (s2 &&& (1 : Int32)), iv (0 : Int32), iv (0 : Int32), iv (((((s0 &&& (1 : Int32)) + (s1 &&& (1 : Int32))) + (s2 &&& (1 : Int32))) + (0 : Int32)) + (0 : Int32)), iv ((((((s0 &&& (1 : Int32)) + (s1 &&& (1 : Int32))) + (s2 &&& (1 : Int32))) + (0 : Int32)) + (0 : Int32)) >>> ((1 : Int32) &&& 31))] [(.int ((((((s0 &&& (1 : Int32)) + (s1 &&& (1 : Int32))) + (s2 &&& (1 : Int32))) + (0 : Int32)) + (0 : Int32)) >>> ((1 : Int32) &&& 31))), (.int (s0 &&& (1 : Int32))), (.int (0 : Int32)), (.int s0), (.int (3 : Int32)), (.int (0 : Int32)), (.ref bk)]) := fun tt kt => go861 tt (by
      refine XS.aload X855.here hx rfl (hb hby at_229) rfl rfl ?_
      refine XS.iconst X855.here hx rfl (hb hby at_231) ?_
      refine XS.iload X855.here hx rfl (hb hby at_232) rfl ?_
      refine XS.iload X855.here hx rfl (hb hby at_234) rfl ?_
      refine XS.iconst X855.here hx rfl (hb hby at_236) ?_
      refine XS.iload X855.here hx rfl (hb hby at_237) rfl ?_
      show Steps p.tables e below (T855.setTop (mkF m 239 #[iv ls, iv a, iv b, iv c', iv d, iv e', iv (3 : Int32), iv s0, iv s1, iv s2, iv s3, iv s4, rv b843, rv bk, iv (s0 &&& (1 : Int32)), iv (s1 &&& (1 : Int32)), iv (s2 &&& (1 : Int32)), iv (0 : Int32), iv (0 : Int32), iv (((((s0 &&& (1 : Int32)) + (s1 &&& (1 : Int32))) + (s2 &&& (1 : Int32))) + (0 : Int32)) + (0 : Int32)), iv ((((((s0 &&& (1 : Int32)) + (s1 &&& (1 : Int32))) + (s2 &&& (1 : Int32))) + (0 : Int32)) + (0 : Int32)) >>> ((1 : Int32) &&& 31))] [(.int (s0 &&& (1 : Int32))), (.int (0 : Int32)), (.int s0), (.int (3 : Int32)), (.int (0 : Int32)), (.ref bk)])) _
      refine XS.iload X855.here hx rfl (hb hby at_239) rfl ?_
      exact kt)
  have zs864 := (Nat.le_trans zs856 K855.1)
  obtain ⟨_, _, ⟨T863, L863, k863, n863⟩, -, X863, ⟨Lc863, hQ863, l863, y863, z863⟩, st863⟩ := Jvm.LawKit.callS X855 hx (y := (⟨"com/example/declination/declination/engine/Nsga2KeptCountsPinLaw", "slot", "([IIIIIII)Z"⟩ : MethodName)) hown (mvT hZ (W 6 rfl)) (mvT hZ (W 7 rfl)) (mvT hZ (W 8 rfl)) (mvT hZ (W 9 rfl)) (by decide) (backOf (W := 0) (rm2l l Z a0 hw [] bk (0 : Int32) (3 : Int32) s0 (0 : Int32) (s0 &&& (1 : Int32)) ((((((s0 &&& (1 : Int32)) + (s1 &&& (1 : Int32))) + (s2 &&& (1 : Int32))) + (0 : Int32)) + (0 : Int32)) >>> ((1 : Int32) &&& 31)) _ _ _ e0 T855.heap n0 zs864 (by decide) (by decide) Vk855 rfl hx0) hZ (W 9 rfl) (W 8 rfl) (by decide) (by decide)) (g := (mkF m 241 #[iv ls, iv a, iv b, iv c', iv d, iv e', iv (3 : Int32), iv s0, iv s1, iv s2, iv s3, iv s4, rv b843, rv bk, iv (s0 &&& (1 : Int32)), iv (s1 &&& (1 : Int32)), iv (s2 &&& (1 : Int32)), iv (0 : Int32), iv (0 : Int32), iv (((((s0 &&& (1 : Int32)) + (s1 &&& (1 : Int32))) + (s2 &&& (1 : Int32))) + (0 : Int32)) + (0 : Int32)), iv ((((((s0 &&& (1 : Int32)) + (s1 &&& (1 : Int32))) + (s2 &&& (1 : Int32))) + (0 : Int32)) + (0 : Int32)) >>> ((1 : Int32) &&& 31))] [(.int ((((((s0 &&& (1 : Int32)) + (s1 &&& (1 : Int32))) + (s2 &&& (1 : Int32))) + (0 : Int32)) + (0 : Int32)) >>> ((1 : Int32) &&& 31))), (.int (s0 &&& (1 : Int32))), (.int (0 : Int32)), (.int s0), (.int (3 : Int32)), (.int (0 : Int32)), (.ref bk)])) rfl (by rw [hml]; rfl) (argsL := [(.ref bk), (.int (0 : Int32)), (.int (3 : Int32)), (.int s0), (.int (0 : Int32)), (.int (s0 &&& (1 : Int32))), (.int ((((((s0 &&& (1 : Int32)) + (s1 &&& (1 : Int32))) + (s2 &&& (1 : Int32))) + (0 : Int32)) + (0 : Int32)) >>> ((1 : Int32) &&& 31)))]) (rest := []) (lenOf pd97 rfl) rfl (by show 2 * 0 + _ ≤ _; exact Nat.le_of_eq rfl) (hb hby at_241) (fun _ _ => ⟨rfl, rfl, (by decide : 2 + 0 ≤ _), (by decide : 6 + 0 ≤ _)⟩)
  dsimp only [Pt.U, Pt.locs, Pt.cells, Pt.slots] at X863 l863 y863 z863 st863 hQ863
  subst l863 y863 z863
  obtain ⟨rfl, Nq863, eh863⟩ := hQ863
  have N863 := Fr.app N855 Nq863
  have go865 : own_S p e below ST T863 (mkF m 244 #[iv ls, iv a, iv b, iv c', iv d, iv e', iv (3 : Int32), iv s0, iv s1, iv s2, iv s3, iv s4, rv b843, rv bk, iv (s0 &&& (1 : Int32)), iv (s1 &&& (1 : Int32)), iv (s2 &&& (1 : Int32)), iv (0 : Int32), iv (0 : Int32), iv (((((s0 &&& (1 : Int32)) + (s1 &&& (1 : Int32))) + (s2 &&& (1 : Int32))) + (0 : Int32)) + (0 : Int32)), iv ((((((s0 &&& (1 : Int32)) + (s1 &&& (1 : Int32))) + (s2 &&& (1 : Int32))) + (0 : Int32)) + (0 : Int32)) >>> ((1 : Int32) &&& 31))] [(.int (1 : Int32))]) := fun tt kt => go862 tt (st863 _ kt)
  have go866 : own_S p e below ST T863 (mkF m 260 #[iv ls, iv a, iv b, iv c', iv d, iv e', iv (3 : Int32), iv s0, iv s1, iv s2, iv s3, iv s4, rv b843, rv bk, iv (s0 &&& (1 : Int32)), iv (s1 &&& (1 : Int32)), iv (s2 &&& (1 : Int32)), iv (0 : Int32), iv (0 : Int32), iv (((((s0 &&& (1 : Int32)) + (s1 &&& (1 : Int32))) + (s2 &&& (1 : Int32))) + (0 : Int32)) + (0 : Int32)), iv ((((((s0 &&& (1 : Int32)) + (s1 &&& (1 : Int32))) + (s2 &&& (1 : Int32))) + (0 : Int32)) + (0 : Int32)) >>> ((1 : Int32) &&& 31))] [(.int ((((((s0 &&& (1 : Int32)) + (s1 &&& (1 : Int32))) + (s2 &&& (1 : Int32))) + (0 : Int32)) + (0 : Int32)) >>> ((1 : Int32) &&& 31))), (.int (s1 &&& (1 : Int32))), (.int (s0 &&& (1 : Int32))), (.int s1), (.int (3 : Int32)), (.int (1 : Int32)), (.ref bk)]) := fun tt kt => go865 tt (by
      refine XS.ifNo X863.here hx rfl (hb hby at_244) rfl ((if0 _ _).trans (feq (by decide : ¬ ((1 : Int32) = (0 : Int32)))).1) ?_
      refine XS.aload X863.here hx rfl (hb hby at_247) rfl rfl ?_
      refine XS.iconst X863.here hx rfl (hb hby at_249) ?_
      refine XS.iload X863.here hx rfl (hb hby at_250) rfl ?_
      refine XS.iload X863.here hx rfl (hb hby at_252) rfl ?_
      refine XS.iload X863.here hx rfl (hb hby at_254) rfl ?_
      show Steps p.tables e below (T863.setTop (mkF m 256 #[iv ls, iv a, iv b, iv c', iv d, iv e', iv (3 : Int32), iv s0, iv s1, iv s2, iv s3, iv s4, rv b843, rv bk, iv (s0 &&& (1 : Int32)), iv (s1 &&& (1 : Int32)), iv (s2 &&& (1 : Int32)), iv (0 : Int32), iv (0 : Int32), iv (((((s0 &&& (1 : Int32)) + (s1 &&& (1 : Int32))) + (s2 &&& (1 : Int32))) + (0 : Int32)) + (0 : Int32)), iv ((((((s0 &&& (1 : Int32)) + (s1 &&& (1 : Int32))) + (s2 &&& (1 : Int32))) + (0 : Int32)) + (0 : Int32)) >>> ((1 : Int32) &&& 31))] [(.int (s0 &&& (1 : Int32))), (.int s1), (.int (3 : Int32)), (.int (1 : Int32)), (.ref bk)])) _
      refine XS.iload X863.here hx rfl (hb hby at_256) rfl ?_
      refine XS.iload X863.here hx rfl (hb hby at_258) rfl ?_
      exact kt)
  obtain ⟨_, _, ⟨T867, L867, k867, n867⟩, -, X867, ⟨Lc867, hQ867, l867, y867, z867⟩, st867⟩ := Jvm.LawKit.callS X863 hx (y := (⟨"com/example/declination/declination/engine/Nsga2KeptCountsPinLaw", "slot", "([IIIIIII)Z"⟩ : MethodName)) hown (mvT hZ (W 6 rfl)) (mvT hZ (W 7 rfl)) (mvT hZ (W 8 rfl)) (mvT hZ (W 9 rfl)) (by decide) (backOf (W := 0) (rm2l l Z a0 hw [] bk (1 : Int32) (3 : Int32) s1 (s0 &&& (1 : Int32)) (s1 &&& (1 : Int32)) ((((((s0 &&& (1 : Int32)) + (s1 &&& (1 : Int32))) + (s2 &&& (1 : Int32))) + (0 : Int32)) + (0 : Int32)) >>> ((1 : Int32) &&& 31)) _ _ _ e1 T855.heap n0 zs864 (by decide) (by decide) Vk855 rfl hx1) hZ (W 9 rfl) (W 8 rfl) (by decide) (by decide)) (g := (mkF m 260 #[iv ls, iv a, iv b, iv c', iv d, iv e', iv (3 : Int32), iv s0, iv s1, iv s2, iv s3, iv s4, rv b843, rv bk, iv (s0 &&& (1 : Int32)), iv (s1 &&& (1 : Int32)), iv (s2 &&& (1 : Int32)), iv (0 : Int32), iv (0 : Int32), iv (((((s0 &&& (1 : Int32)) + (s1 &&& (1 : Int32))) + (s2 &&& (1 : Int32))) + (0 : Int32)) + (0 : Int32)), iv ((((((s0 &&& (1 : Int32)) + (s1 &&& (1 : Int32))) + (s2 &&& (1 : Int32))) + (0 : Int32)) + (0 : Int32)) >>> ((1 : Int32) &&& 31))] [(.int ((((((s0 &&& (1 : Int32)) + (s1 &&& (1 : Int32))) + (s2 &&& (1 : Int32))) + (0 : Int32)) + (0 : Int32)) >>> ((1 : Int32) &&& 31))), (.int (s1 &&& (1 : Int32))), (.int (s0 &&& (1 : Int32))), (.int s1), (.int (3 : Int32)), (.int (1 : Int32)), (.ref bk)])) rfl (by rw [hml]; rfl) (argsL := [(.ref bk), (.int (1 : Int32)), (.int (3 : Int32)), (.int s1), (.int (s0 &&& (1 : Int32))), (.int (s1 &&& (1 : Int32))), (.int ((((((s0 &&& (1 : Int32)) + (s1 &&& (1 : Int32))) + (s2 &&& (1 : Int32))) + (0 : Int32)) + (0 : Int32)) >>> ((1 : Int32) &&& 31)))]) (rest := []) (lenOf pd97 rfl) rfl (by show 2 * 0 + _ ≤ _; exact Nat.le_of_eq rfl) (hb hby at_260) (fun _ _ => ⟨rfl, eh863, (by decide : 2 + 0 ≤ _), (by decide : 6 + 0 ≤ _)⟩)
  dsimp only [Pt.U, Pt.locs, Pt.cells, Pt.slots] at X867 l867 y867 z867 st867 hQ867
  subst l867 y867 z867
  obtain ⟨rfl, Nq867, eh867⟩ := hQ867
  have N867 := Fr.app N863 Nq867
  have go868 : own_S p e below ST T867 (mkF m 263 #[iv ls, iv a, iv b, iv c', iv d, iv e', iv (3 : Int32), iv s0, iv s1, iv s2, iv s3, iv s4, rv b843, rv bk, iv (s0 &&& (1 : Int32)), iv (s1 &&& (1 : Int32)), iv (s2 &&& (1 : Int32)), iv (0 : Int32), iv (0 : Int32), iv (((((s0 &&& (1 : Int32)) + (s1 &&& (1 : Int32))) + (s2 &&& (1 : Int32))) + (0 : Int32)) + (0 : Int32)), iv ((((((s0 &&& (1 : Int32)) + (s1 &&& (1 : Int32))) + (s2 &&& (1 : Int32))) + (0 : Int32)) + (0 : Int32)) >>> ((1 : Int32) &&& 31))] [(.int (1 : Int32))]) := fun tt kt => go866 tt (st867 _ kt)
  have go869 : own_S p e below ST T867 (mkF m 282 #[iv ls, iv a, iv b, iv c', iv d, iv e', iv (3 : Int32), iv s0, iv s1, iv s2, iv s3, iv s4, rv b843, rv bk, iv (s0 &&& (1 : Int32)), iv (s1 &&& (1 : Int32)), iv (s2 &&& (1 : Int32)), iv (0 : Int32), iv (0 : Int32), iv (((((s0 &&& (1 : Int32)) + (s1 &&& (1 : Int32))) + (s2 &&& (1 : Int32))) + (0 : Int32)) + (0 : Int32)), iv ((((((s0 &&& (1 : Int32)) + (s1 &&& (1 : Int32))) + (s2 &&& (1 : Int32))) + (0 : Int32)) + (0 : Int32)) >>> ((1 : Int32) &&& 31))] [(.int ((((((s0 &&& (1 : Int32)) + (s1 &&& (1 : Int32))) + (s2 &&& (1 : Int32))) + (0 : Int32)) + (0 : Int32)) >>> ((1 : Int32) &&& 31))), (.int (s2 &&& (1 : Int32))), (.int ((s0 &&& (1 : Int32)) + (s1 &&& (1 : Int32)))), (.int s2), (.int (3 : Int32)), (.int (2 : Int32)), (.ref bk)]) := fun tt kt => go868 tt (by
      refine XS.ifNo X867.here hx rfl (hb hby at_263) rfl ((if0 _ _).trans (feq (by decide : ¬ ((1 : Int32) = (0 : Int32)))).1) ?_
      refine XS.aload X867.here hx rfl (hb hby at_266) rfl rfl ?_
      refine XS.iconst X867.here hx rfl (hb hby at_268) ?_
      refine XS.iload X867.here hx rfl (hb hby at_269) rfl ?_
      refine XS.iload X867.here hx rfl (hb hby at_271) rfl ?_
      refine XS.iload X867.here hx rfl (hb hby at_273) rfl ?_
      show Steps p.tables e below (T867.setTop (mkF m 275 #[iv ls, iv a, iv b, iv c', iv d, iv e', iv (3 : Int32), iv s0, iv s1, iv s2, iv s3, iv s4, rv b843, rv bk, iv (s0 &&& (1 : Int32)), iv (s1 &&& (1 : Int32)), iv (s2 &&& (1 : Int32)), iv (0 : Int32), iv (0 : Int32), iv (((((s0 &&& (1 : Int32)) + (s1 &&& (1 : Int32))) + (s2 &&& (1 : Int32))) + (0 : Int32)) + (0 : Int32)), iv ((((((s0 &&& (1 : Int32)) + (s1 &&& (1 : Int32))) + (s2 &&& (1 : Int32))) + (0 : Int32)) + (0 : Int32)) >>> ((1 : Int32) &&& 31))] [(.int (s0 &&& (1 : Int32))), (.int s2), (.int (3 : Int32)), (.int (2 : Int32)), (.ref bk)])) _
      refine XS.iload X867.here hx rfl (hb hby at_275) rfl ?_
      refine XS.iadd X867.here hx rfl (hb hby at_277) rfl ?_
      refine XS.iload X867.here hx rfl (hb hby at_278) rfl ?_
      refine XS.iload X867.here hx rfl (hb hby at_280) rfl ?_
      exact kt)
  obtain ⟨_, _, ⟨T870, L870, k870, n870⟩, -, X870, ⟨Lc870, hQ870, l870, y870, z870⟩, st870⟩ := Jvm.LawKit.callS X867 hx (y := (⟨"com/example/declination/declination/engine/Nsga2KeptCountsPinLaw", "slot", "([IIIIIII)Z"⟩ : MethodName)) hown (mvT hZ (W 6 rfl)) (mvT hZ (W 7 rfl)) (mvT hZ (W 8 rfl)) (mvT hZ (W 9 rfl)) (by decide) (backOf (W := 0) (rm2l l Z a0 hw [] bk (2 : Int32) (3 : Int32) s2 ((s0 &&& (1 : Int32)) + (s1 &&& (1 : Int32))) (s2 &&& (1 : Int32)) ((((((s0 &&& (1 : Int32)) + (s1 &&& (1 : Int32))) + (s2 &&& (1 : Int32))) + (0 : Int32)) + (0 : Int32)) >>> ((1 : Int32) &&& 31)) _ _ _ e2 T855.heap n0 zs864 (by decide) (by decide) Vk855 rfl hx2) hZ (W 9 rfl) (W 8 rfl) (by decide) (by decide)) (g := (mkF m 282 #[iv ls, iv a, iv b, iv c', iv d, iv e', iv (3 : Int32), iv s0, iv s1, iv s2, iv s3, iv s4, rv b843, rv bk, iv (s0 &&& (1 : Int32)), iv (s1 &&& (1 : Int32)), iv (s2 &&& (1 : Int32)), iv (0 : Int32), iv (0 : Int32), iv (((((s0 &&& (1 : Int32)) + (s1 &&& (1 : Int32))) + (s2 &&& (1 : Int32))) + (0 : Int32)) + (0 : Int32)), iv ((((((s0 &&& (1 : Int32)) + (s1 &&& (1 : Int32))) + (s2 &&& (1 : Int32))) + (0 : Int32)) + (0 : Int32)) >>> ((1 : Int32) &&& 31))] [(.int ((((((s0 &&& (1 : Int32)) + (s1 &&& (1 : Int32))) + (s2 &&& (1 : Int32))) + (0 : Int32)) + (0 : Int32)) >>> ((1 : Int32) &&& 31))), (.int (s2 &&& (1 : Int32))), (.int ((s0 &&& (1 : Int32)) + (s1 &&& (1 : Int32)))), (.int s2), (.int (3 : Int32)), (.int (2 : Int32)), (.ref bk)])) rfl (by rw [hml]; rfl) (argsL := [(.ref bk), (.int (2 : Int32)), (.int (3 : Int32)), (.int s2), (.int ((s0 &&& (1 : Int32)) + (s1 &&& (1 : Int32)))), (.int (s2 &&& (1 : Int32))), (.int ((((((s0 &&& (1 : Int32)) + (s1 &&& (1 : Int32))) + (s2 &&& (1 : Int32))) + (0 : Int32)) + (0 : Int32)) >>> ((1 : Int32) &&& 31)))]) (rest := []) (lenOf pd97 rfl) rfl (by show 2 * 0 + _ ≤ _; exact Nat.le_of_eq rfl) (hb hby at_282) (fun _ _ => ⟨rfl, eh867, (by decide : 2 + 0 ≤ _), (by decide : 6 + 0 ≤ _)⟩)
  dsimp only [Pt.U, Pt.locs, Pt.cells, Pt.slots] at X870 l870 y870 z870 st870 hQ870
  subst l870 y870 z870
  obtain ⟨rfl, Nq870, eh870⟩ := hQ870
  have N870 := Fr.app N867 Nq870
  have go871 : own_S p e below ST T870 (mkF m 285 #[iv ls, iv a, iv b, iv c', iv d, iv e', iv (3 : Int32), iv s0, iv s1, iv s2, iv s3, iv s4, rv b843, rv bk, iv (s0 &&& (1 : Int32)), iv (s1 &&& (1 : Int32)), iv (s2 &&& (1 : Int32)), iv (0 : Int32), iv (0 : Int32), iv (((((s0 &&& (1 : Int32)) + (s1 &&& (1 : Int32))) + (s2 &&& (1 : Int32))) + (0 : Int32)) + (0 : Int32)), iv ((((((s0 &&& (1 : Int32)) + (s1 &&& (1 : Int32))) + (s2 &&& (1 : Int32))) + (0 : Int32)) + (0 : Int32)) >>> ((1 : Int32) &&& 31))] [(.int (1 : Int32))]) := fun tt kt => go869 tt (st870 _ kt)
  have go872 : own_S p e below ST T870 (mkF m 307 #[iv ls, iv a, iv b, iv c', iv d, iv e', iv (3 : Int32), iv s0, iv s1, iv s2, iv s3, iv s4, rv b843, rv bk, iv (s0 &&& (1 : Int32)), iv (s1 &&& (1 : Int32)), iv (s2 &&& (1 : Int32)), iv (0 : Int32), iv (0 : Int32), iv (((((s0 &&& (1 : Int32)) + (s1 &&& (1 : Int32))) + (s2 &&& (1 : Int32))) + (0 : Int32)) + (0 : Int32)), iv ((((((s0 &&& (1 : Int32)) + (s1 &&& (1 : Int32))) + (s2 &&& (1 : Int32))) + (0 : Int32)) + (0 : Int32)) >>> ((1 : Int32) &&& 31))] [(.int ((((((s0 &&& (1 : Int32)) + (s1 &&& (1 : Int32))) + (s2 &&& (1 : Int32))) + (0 : Int32)) + (0 : Int32)) >>> ((1 : Int32) &&& 31))), (.int (0 : Int32)), (.int (((s0 &&& (1 : Int32)) + (s1 &&& (1 : Int32))) + (s2 &&& (1 : Int32)))), (.int s3), (.int (3 : Int32)), (.int (3 : Int32)), (.ref bk)]) := fun tt kt => go871 tt (by
      refine XS.ifNo X870.here hx rfl (hb hby at_285) rfl ((if0 _ _).trans (feq (by decide : ¬ ((1 : Int32) = (0 : Int32)))).1) ?_
      refine XS.aload X870.here hx rfl (hb hby at_288) rfl rfl ?_
      refine XS.iconst X870.here hx rfl (hb hby at_290) ?_
      refine XS.iload X870.here hx rfl (hb hby at_291) rfl ?_
      refine XS.iload X870.here hx rfl (hb hby at_293) rfl ?_
      refine XS.iload X870.here hx rfl (hb hby at_295) rfl ?_
      show Steps p.tables e below (T870.setTop (mkF m 297 #[iv ls, iv a, iv b, iv c', iv d, iv e', iv (3 : Int32), iv s0, iv s1, iv s2, iv s3, iv s4, rv b843, rv bk, iv (s0 &&& (1 : Int32)), iv (s1 &&& (1 : Int32)), iv (s2 &&& (1 : Int32)), iv (0 : Int32), iv (0 : Int32), iv (((((s0 &&& (1 : Int32)) + (s1 &&& (1 : Int32))) + (s2 &&& (1 : Int32))) + (0 : Int32)) + (0 : Int32)), iv ((((((s0 &&& (1 : Int32)) + (s1 &&& (1 : Int32))) + (s2 &&& (1 : Int32))) + (0 : Int32)) + (0 : Int32)) >>> ((1 : Int32) &&& 31))] [(.int (s0 &&& (1 : Int32))), (.int s3), (.int (3 : Int32)), (.int (3 : Int32)), (.ref bk)])) _
      refine XS.iload X870.here hx rfl (hb hby at_297) rfl ?_
      refine XS.iadd X870.here hx rfl (hb hby at_299) rfl ?_
      refine XS.iload X870.here hx rfl (hb hby at_300) rfl ?_
      refine XS.iadd X870.here hx rfl (hb hby at_302) rfl ?_
      refine XS.iload X870.here hx rfl (hb hby at_303) rfl ?_
      refine XS.iload X870.here hx rfl (hb hby at_305) rfl ?_
      exact kt)
  obtain ⟨_, _, ⟨T873, L873, k873, n873⟩, -, X873, ⟨Lc873, hQ873, l873, y873, z873⟩, st873⟩ := Jvm.LawKit.callS X870 hx (y := (⟨"com/example/declination/declination/engine/Nsga2KeptCountsPinLaw", "slot", "([IIIIIII)Z"⟩ : MethodName)) hown (mvT hZ (W 6 rfl)) (mvT hZ (W 7 rfl)) (mvT hZ (W 8 rfl)) (mvT hZ (W 9 rfl)) (by decide) (backOf (W := 0) (rm2g l Z a0 hw [] bk (3 : Int32) (3 : Int32) s3 (((s0 &&& (1 : Int32)) + (s1 &&& (1 : Int32))) + (s2 &&& (1 : Int32))) (0 : Int32) ((((((s0 &&& (1 : Int32)) + (s1 &&& (1 : Int32))) + (s2 &&& (1 : Int32))) + (0 : Int32)) + (0 : Int32)) >>> ((1 : Int32) &&& 31)) T855.heap n0 zs864 (by decide)) hZ (W 9 rfl) (W 8 rfl) (by decide) (by decide)) (g := (mkF m 307 #[iv ls, iv a, iv b, iv c', iv d, iv e', iv (3 : Int32), iv s0, iv s1, iv s2, iv s3, iv s4, rv b843, rv bk, iv (s0 &&& (1 : Int32)), iv (s1 &&& (1 : Int32)), iv (s2 &&& (1 : Int32)), iv (0 : Int32), iv (0 : Int32), iv (((((s0 &&& (1 : Int32)) + (s1 &&& (1 : Int32))) + (s2 &&& (1 : Int32))) + (0 : Int32)) + (0 : Int32)), iv ((((((s0 &&& (1 : Int32)) + (s1 &&& (1 : Int32))) + (s2 &&& (1 : Int32))) + (0 : Int32)) + (0 : Int32)) >>> ((1 : Int32) &&& 31))] [(.int ((((((s0 &&& (1 : Int32)) + (s1 &&& (1 : Int32))) + (s2 &&& (1 : Int32))) + (0 : Int32)) + (0 : Int32)) >>> ((1 : Int32) &&& 31))), (.int (0 : Int32)), (.int (((s0 &&& (1 : Int32)) + (s1 &&& (1 : Int32))) + (s2 &&& (1 : Int32)))), (.int s3), (.int (3 : Int32)), (.int (3 : Int32)), (.ref bk)])) rfl (by rw [hml]; rfl) (argsL := [(.ref bk), (.int (3 : Int32)), (.int (3 : Int32)), (.int s3), (.int (((s0 &&& (1 : Int32)) + (s1 &&& (1 : Int32))) + (s2 &&& (1 : Int32)))), (.int (0 : Int32)), (.int ((((((s0 &&& (1 : Int32)) + (s1 &&& (1 : Int32))) + (s2 &&& (1 : Int32))) + (0 : Int32)) + (0 : Int32)) >>> ((1 : Int32) &&& 31)))]) (rest := []) (lenOf pd97 rfl) rfl (by show 2 * 0 + _ ≤ _; exact Nat.le_of_eq rfl) (hb hby at_307) (fun _ _ => ⟨rfl, eh870, (by decide : 2 + 0 ≤ _), (by decide : 6 + 0 ≤ _)⟩)
  dsimp only [Pt.U, Pt.locs, Pt.cells, Pt.slots] at X873 l873 y873 z873 st873 hQ873
  subst l873 y873 z873
  obtain ⟨rfl, Nq873, eh873⟩ := hQ873
  have N873 := Fr.app N870 Nq873
  have go874 : own_S p e below ST T873 (mkF m 310 #[iv ls, iv a, iv b, iv c', iv d, iv e', iv (3 : Int32), iv s0, iv s1, iv s2, iv s3, iv s4, rv b843, rv bk, iv (s0 &&& (1 : Int32)), iv (s1 &&& (1 : Int32)), iv (s2 &&& (1 : Int32)), iv (0 : Int32), iv (0 : Int32), iv (((((s0 &&& (1 : Int32)) + (s1 &&& (1 : Int32))) + (s2 &&& (1 : Int32))) + (0 : Int32)) + (0 : Int32)), iv ((((((s0 &&& (1 : Int32)) + (s1 &&& (1 : Int32))) + (s2 &&& (1 : Int32))) + (0 : Int32)) + (0 : Int32)) >>> ((1 : Int32) &&& 31))] [(.int (1 : Int32))]) := fun tt kt => go872 tt (st873 _ kt)
  have go875 : own_S p e below ST T873 (mkF m 335 #[iv ls, iv a, iv b, iv c', iv d, iv e', iv (3 : Int32), iv s0, iv s1, iv s2, iv s3, iv s4, rv b843, rv bk, iv (s0 &&& (1 : Int32)), iv (s1 &&& (1 : Int32)), iv (s2 &&& (1 : Int32)), iv (0 : Int32), iv (0 : Int32), iv (((((s0 &&& (1 : Int32)) + (s1 &&& (1 : Int32))) + (s2 &&& (1 : Int32))) + (0 : Int32)) + (0 : Int32)), iv ((((((s0 &&& (1 : Int32)) + (s1 &&& (1 : Int32))) + (s2 &&& (1 : Int32))) + (0 : Int32)) + (0 : Int32)) >>> ((1 : Int32) &&& 31))] [(.int ((((((s0 &&& (1 : Int32)) + (s1 &&& (1 : Int32))) + (s2 &&& (1 : Int32))) + (0 : Int32)) + (0 : Int32)) >>> ((1 : Int32) &&& 31))), (.int (0 : Int32)), (.int ((((s0 &&& (1 : Int32)) + (s1 &&& (1 : Int32))) + (s2 &&& (1 : Int32))) + (0 : Int32))), (.int s4), (.int (3 : Int32)), (.int (4 : Int32)), (.ref bk)]) := fun tt kt => go874 tt (by
      refine XS.ifNo X873.here hx rfl (hb hby at_310) rfl ((if0 _ _).trans (feq (by decide : ¬ ((1 : Int32) = (0 : Int32)))).1) ?_
      refine XS.aload X873.here hx rfl (hb hby at_313) rfl rfl ?_
      refine XS.iconst X873.here hx rfl (hb hby at_315) ?_
      refine XS.iload X873.here hx rfl (hb hby at_316) rfl ?_
      refine XS.iload X873.here hx rfl (hb hby at_318) rfl ?_
      refine XS.iload X873.here hx rfl (hb hby at_320) rfl ?_
      show Steps p.tables e below (T873.setTop (mkF m 322 #[iv ls, iv a, iv b, iv c', iv d, iv e', iv (3 : Int32), iv s0, iv s1, iv s2, iv s3, iv s4, rv b843, rv bk, iv (s0 &&& (1 : Int32)), iv (s1 &&& (1 : Int32)), iv (s2 &&& (1 : Int32)), iv (0 : Int32), iv (0 : Int32), iv (((((s0 &&& (1 : Int32)) + (s1 &&& (1 : Int32))) + (s2 &&& (1 : Int32))) + (0 : Int32)) + (0 : Int32)), iv ((((((s0 &&& (1 : Int32)) + (s1 &&& (1 : Int32))) + (s2 &&& (1 : Int32))) + (0 : Int32)) + (0 : Int32)) >>> ((1 : Int32) &&& 31))] [(.int (s0 &&& (1 : Int32))), (.int s4), (.int (3 : Int32)), (.int (4 : Int32)), (.ref bk)])) _
      refine XS.iload X873.here hx rfl (hb hby at_322) rfl ?_
      refine XS.iadd X873.here hx rfl (hb hby at_324) rfl ?_
      refine XS.iload X873.here hx rfl (hb hby at_325) rfl ?_
      refine XS.iadd X873.here hx rfl (hb hby at_327) rfl ?_
      refine XS.iload X873.here hx rfl (hb hby at_328) rfl ?_
      refine XS.iadd X873.here hx rfl (hb hby at_330) rfl ?_
      show Steps p.tables e below (T873.setTop (mkF m 331 #[iv ls, iv a, iv b, iv c', iv d, iv e', iv (3 : Int32), iv s0, iv s1, iv s2, iv s3, iv s4, rv b843, rv bk, iv (s0 &&& (1 : Int32)), iv (s1 &&& (1 : Int32)), iv (s2 &&& (1 : Int32)), iv (0 : Int32), iv (0 : Int32), iv (((((s0 &&& (1 : Int32)) + (s1 &&& (1 : Int32))) + (s2 &&& (1 : Int32))) + (0 : Int32)) + (0 : Int32)), iv ((((((s0 &&& (1 : Int32)) + (s1 &&& (1 : Int32))) + (s2 &&& (1 : Int32))) + (0 : Int32)) + (0 : Int32)) >>> ((1 : Int32) &&& 31))] [(.int ((((s0 &&& (1 : Int32)) + (s1 &&& (1 : Int32))) + (s2 &&& (1 : Int32))) + (0 : Int32))), (.int s4), (.int (3 : Int32)), (.int (4 : Int32)), (.ref bk)])) _
      refine XS.iload X873.here hx rfl (hb hby at_331) rfl ?_
      refine XS.iload X873.here hx rfl (hb hby at_333) rfl ?_
      exact kt)
  obtain ⟨_, _, ⟨T876, L876, k876, n876⟩, -, X876, ⟨Lc876, hQ876, l876, y876, z876⟩, st876⟩ := Jvm.LawKit.callS X873 hx (y := (⟨"com/example/declination/declination/engine/Nsga2KeptCountsPinLaw", "slot", "([IIIIIII)Z"⟩ : MethodName)) hown (mvT hZ (W 6 rfl)) (mvT hZ (W 7 rfl)) (mvT hZ (W 8 rfl)) (mvT hZ (W 9 rfl)) (by decide) (backOf (W := 0) (rm2g l Z a0 hw [] bk (4 : Int32) (3 : Int32) s4 ((((s0 &&& (1 : Int32)) + (s1 &&& (1 : Int32))) + (s2 &&& (1 : Int32))) + (0 : Int32)) (0 : Int32) ((((((s0 &&& (1 : Int32)) + (s1 &&& (1 : Int32))) + (s2 &&& (1 : Int32))) + (0 : Int32)) + (0 : Int32)) >>> ((1 : Int32) &&& 31)) T855.heap n0 zs864 (by decide)) hZ (W 9 rfl) (W 8 rfl) (by decide) (by decide)) (g := (mkF m 335 #[iv ls, iv a, iv b, iv c', iv d, iv e', iv (3 : Int32), iv s0, iv s1, iv s2, iv s3, iv s4, rv b843, rv bk, iv (s0 &&& (1 : Int32)), iv (s1 &&& (1 : Int32)), iv (s2 &&& (1 : Int32)), iv (0 : Int32), iv (0 : Int32), iv (((((s0 &&& (1 : Int32)) + (s1 &&& (1 : Int32))) + (s2 &&& (1 : Int32))) + (0 : Int32)) + (0 : Int32)), iv ((((((s0 &&& (1 : Int32)) + (s1 &&& (1 : Int32))) + (s2 &&& (1 : Int32))) + (0 : Int32)) + (0 : Int32)) >>> ((1 : Int32) &&& 31))] [(.int ((((((s0 &&& (1 : Int32)) + (s1 &&& (1 : Int32))) + (s2 &&& (1 : Int32))) + (0 : Int32)) + (0 : Int32)) >>> ((1 : Int32) &&& 31))), (.int (0 : Int32)), (.int ((((s0 &&& (1 : Int32)) + (s1 &&& (1 : Int32))) + (s2 &&& (1 : Int32))) + (0 : Int32))), (.int s4), (.int (3 : Int32)), (.int (4 : Int32)), (.ref bk)])) rfl (by rw [hml]; rfl) (argsL := [(.ref bk), (.int (4 : Int32)), (.int (3 : Int32)), (.int s4), (.int ((((s0 &&& (1 : Int32)) + (s1 &&& (1 : Int32))) + (s2 &&& (1 : Int32))) + (0 : Int32))), (.int (0 : Int32)), (.int ((((((s0 &&& (1 : Int32)) + (s1 &&& (1 : Int32))) + (s2 &&& (1 : Int32))) + (0 : Int32)) + (0 : Int32)) >>> ((1 : Int32) &&& 31)))]) (rest := []) (lenOf pd97 rfl) rfl (by show 2 * 0 + _ ≤ _; exact Nat.le_of_eq rfl) (hb hby at_335) (fun _ _ => ⟨rfl, eh873, (by decide : 2 + 0 ≤ _), (by decide : 6 + 0 ≤ _)⟩)
  dsimp only [Pt.U, Pt.locs, Pt.cells, Pt.slots] at X876 l876 y876 z876 st876 hQ876
  subst l876 y876 z876
  obtain ⟨rfl, Nq876, eh876⟩ := hQ876
  have N876 := Fr.app N873 Nq876
  have go877 : own_S p e below ST T876 (mkF m 338 #[iv ls, iv a, iv b, iv c', iv d, iv e', iv (3 : Int32), iv s0, iv s1, iv s2, iv s3, iv s4, rv b843, rv bk, iv (s0 &&& (1 : Int32)), iv (s1 &&& (1 : Int32)), iv (s2 &&& (1 : Int32)), iv (0 : Int32), iv (0 : Int32), iv (((((s0 &&& (1 : Int32)) + (s1 &&& (1 : Int32))) + (s2 &&& (1 : Int32))) + (0 : Int32)) + (0 : Int32)), iv ((((((s0 &&& (1 : Int32)) + (s1 &&& (1 : Int32))) + (s2 &&& (1 : Int32))) + (0 : Int32)) + (0 : Int32)) >>> ((1 : Int32) &&& 31))] [(.int (1 : Int32))]) := fun tt kt => go875 tt (st876 _ kt)
  have go878 : own_S p e below ST T876 (mkF m 346 #[iv ls, iv a, iv b, iv c', iv d, iv e', iv (3 : Int32), iv s0, iv s1, iv s2, iv s3, iv s4, rv b843, rv bk, iv (s0 &&& (1 : Int32)), iv (s1 &&& (1 : Int32)), iv (s2 &&& (1 : Int32)), iv (0 : Int32), iv (0 : Int32), iv (((((s0 &&& (1 : Int32)) + (s1 &&& (1 : Int32))) + (s2 &&& (1 : Int32))) + (0 : Int32)) + (0 : Int32)), iv ((((((s0 &&& (1 : Int32)) + (s1 &&& (1 : Int32))) + (s2 &&& (1 : Int32))) + (0 : Int32)) + (0 : Int32)) >>> ((1 : Int32) &&& 31))] [(.int (1 : Int32))]) := fun tt kt => go877 tt (by
      refine XS.ifNo X876.here hx rfl (hb hby at_338) rfl ((if0 _ _).trans (feq (by decide : ¬ ((1 : Int32) = (0 : Int32)))).1) ?_
      refine XS.iconst X876.here hx rfl (hb hby at_341) ?_
      refine XS.goto X876.here hx rfl (pc0 := 342) (pc' := 346) rfl (hb hby at_342) (by decide) (by decide) ?_
      exact kt)
  obtain ⟨fs, hr, hrun, hended, hW, hsame⟩ := X876.leave (v := some (.int (1 : Int32))) (fun h => by rw [Bd.returns] at h; cases h)
  refine ⟨_, _, pre0 _ (go878 _ ?_), hrun, hended, _, _, rfl, ?_, ⟨_, rfl⟩, hW, hsame.mono (by decide) (by decide)⟩
  · exact retN X876 hx (t := .boolean) Bd.returns (by simp) (hb hby at_346) hr
  · show Q0k3 Z ls a b c' d e' h0 n0 _ T876.heap _
    rw [eh876]
    exact ⟨rfl, N876⟩
theorem ef0k4 (m : MethodId) (x0 : Int32) (x1 : Int32) (x2 : Int32) (x3 : Int32) (x4 : Int32) (x5 : Int32) : entryFrame m #[(.int x0), (.int x1), (.int x2), (.int x3), (.int x4), (.int x5)] maxLocals = mkF m 0 #[.val (.int x0), .val (.int x1), .val (.int x2), .val (.int x3), .val (.int x4), .val (.int x5), .unset, .unset, .unset, .unset, .unset, .unset, .unset, .unset, .unset, .unset, .unset, .unset, .unset, .unset, .unset] [] := by first | (simp [entryFrame, mkF, argsToLocals, Value.category, maxLocals]; done) | rfl
def Q0k4 (Z : State) (ls : Int32) (a : Int32) (b : Int32) (c' : Int32) (d : Int32) (e' : Int32) (h0 : Heap) (n0 : Nat) (v : Option Value) (h : Heap) (L : List Loc) : Prop := v = some (.int 1) ∧ Fr n0 L
set_option maxRecDepth 65536 in
set_option maxHeartbeats 40000000 in
theorem rm0k4 (l : Launch) (Z : State) (a0 : Array Value) (hw : ∀ d ∈ tables_1, d.before a0 Z = true) (ws : List Jvm.Cond) (ls : Int32) (a : Int32) (b : Int32) (c' : Int32) (d : Int32) (e' : Int32) (h0 : Heap) (n0 : Nat) (Z0 : n0 ≤ h0.size) (hk : (ls &&& 2147483647) % 6 = 4) :
    MetFree l x (head1 (Jvm.Cond.code x code maxLocals ret :: ws) room_1) (fun aa UU => aa = #[(.int ls), (.int a), (.int b), (.int c'), (.int d), (.int e')] ∧ Z.Warmed39 UU.vm ∧ UU.heap = h0) (fun _ _ _ _ _ => True) (fun _ UU oo UU' => ∃ vv LL, oo = .returned vv ∧ Q0k4 Z ls a b c' d e' h0 n0 vv UU'.heap LL ∧ FrameEnd UU oo UU' LL room_1.cells room_1.slots) := by
  have W : ∀ {d : Jvm.Cond} (i : Nat), tables_1[i]? = some d → d.before a0 Z = true := fun i h => hw _ (List.mem_of_getElem? h)
  refine MetFree.of_bodySF (plainFor_of_name pn0) hisR ?_
  intro p e s m args below meth c s₁ Bd hml0 hP hK
  obtain ⟨rfl, hZ, hh⟩ := hP
  have hx := Bd.exec
  have hby := Bd.bytes
  have hml : c.maxLocals = 21 := hml0
  have hown : s.vm.findClass "com/example/declination/declination/engine/Nsga2KeptCountsPinLaw" = some m.cls := findClass_of_methodNamed Bd.named
  have hnm := (name_of_methodNamed Bd.named Bd.method).1
  have X0 : Stand p l e room_1 s m #[(.int ls), (.int a), (.int b), (.int c'), (.int d), (.int e')] below meth c s₁ [] 0 0 := Stand.of_body Bd
  have e0 : s₁.heap = h0 := by rw [← hh, Bd.state]; rfl
  have N0 := Fr.nil n0
  have pre0 : ∀ tt, Steps p.tables e below (s₁.setTop (mkF m 0 #[iv ls, iv a, iv b, iv c', iv d, iv e', .unset, .unset, .unset, .unset, .unset, .unset, .unset, .unset, .unset, .unset, .unset, .unset, .unset, .unset, .unset] [])) tt → Steps p.tables e below (s₁.setTop (entryFrame m #[(.int ls), (.int a), (.int b), (.int c'), (.int d), (.int e')] maxLocals)) tt := fun tt kt => castTop (ef0k4 m ls a b c' d e') kt
  obtain ⟨ST, hST⟩ : ∃ z : State, z = s₁.setTop (mkF m 0 #[iv ls, iv a, iv b, iv c', iv d, iv e', .unset, .unset, .unset, .unset, .unset, .unset, .unset, .unset, .unset, .unset, .unset, .unset, .unset, .unset, .unset] []) := ⟨_, rfl⟩
  rw [← hST] at pre0
  have go879 : own_S p e below ST s₁ (mkF m 9 #[iv ls, iv a, iv b, iv c', iv d, iv e', iv ((ls &&& (2147483647 : Int32)) % (6 : Int32)), .unset, .unset, .unset, .unset, .unset, .unset, .unset, .unset, .unset, .unset, .unset, .unset, .unset, .unset] []) := fun tt kt => (by
      rw [hST]
      show Steps p.tables e below (s₁.setTop (mkF m 0 #[iv ls, iv a, iv b, iv c', iv d, iv e', .unset, .unset, .unset, .unset, .unset, .unset, .unset, .unset, .unset, .unset, .unset, .unset, .unset, .unset, .unset] [])) _
      refine XS.iloadN X0.here hx rfl (hb hby at_0) rfl ?_
      refine X0.ldcInt hx hown (mvT hZ (W 0 rfl)) (g := (mkF m 1 #[iv ls, iv a, iv b, iv c', iv d, iv e', .unset, .unset, .unset, .unset, .unset, .unset, .unset, .unset, .unset, .unset, .unset, .unset, .unset, .unset, .unset] [(.int ls)])) rfl (hb hby at_1) _ ?_
      refine XS.iand X0.here hx rfl (hb hby at_3) rfl ?_
      refine XS.bipush X0.here hx rfl (hb hby at_4) ?_
      refine iremM (g := (mkF m 6 #[iv ls, iv a, iv b, iv c', iv d, iv e', .unset, .unset, .unset, .unset, .unset, .unset, .unset, .unset, .unset, .unset, .unset, .unset, .unset, .unset, .unset] [(.int (6 : Int32)), (.int (ls &&& (2147483647 : Int32)))])) X0 hx rfl (hb hby at_6) rfl (by decide) ?_
      refine XS.istore X0.here hx rfl (hb hby at_7) rfl (l' := #[iv ls, iv a, iv b, iv c', iv d, iv e', iv ((ls &&& (2147483647 : Int32)) % (6 : Int32)), .unset, .unset, .unset, .unset, .unset, .unset, .unset, .unset, .unset, .unset, .unset, .unset, .unset, .unset]) rfl ?_
      exact kt)
  rw [hk] at go879
  have go880 : own_S p e below ST s₁ (mkF m 15 #[iv ls, iv a, iv b, iv c', iv d, iv e', iv (4 : Int32), iv (a &&& (2147483647 : Int32)), .unset, .unset, .unset, .unset, .unset, .unset, .unset, .unset, .unset, .unset, .unset, .unset, .unset] []) := fun tt kt => go879 tt (by
      refine XS.iloadN X0.here hx rfl (hb hby at_9) rfl ?_
      refine X0.ldcInt hx hown (mvT hZ (W 0 rfl)) (g := (mkF m 10 #[iv ls, iv a, iv b, iv c', iv d, iv e', iv (4 : Int32), .unset, .unset, .unset, .unset, .unset, .unset, .unset, .unset, .unset, .unset, .unset, .unset, .unset, .unset] [(.int a)])) rfl (hb hby at_10) _ ?_
      refine XS.iand X0.here hx rfl (hb hby at_12) rfl ?_
      refine XS.istore X0.here hx rfl (hb hby at_13) rfl (l' := #[iv ls, iv a, iv b, iv c', iv d, iv e', iv (4 : Int32), iv (a &&& (2147483647 : Int32)), .unset, .unset, .unset, .unset, .unset, .unset, .unset, .unset, .unset, .unset, .unset, .unset, .unset]) rfl ?_
      exact kt)
  obtain ⟨s0, hs0⟩ : ∃ z : Int32, z = (a &&& (2147483647 : Int32)) := ⟨_, rfl⟩
  rw [← hs0] at go880
  have nn0 := own_nn _ s0 hs0
  have go881 : own_S p e below ST s₁ (mkF m 21 #[iv ls, iv a, iv b, iv c', iv d, iv e', iv (4 : Int32), iv s0, iv (b &&& (2147483647 : Int32)), .unset, .unset, .unset, .unset, .unset, .unset, .unset, .unset, .unset, .unset, .unset, .unset] []) := fun tt kt => go880 tt (by
      refine XS.iloadN X0.here hx rfl (hb hby at_15) rfl ?_
      refine X0.ldcInt hx hown (mvT hZ (W 0 rfl)) (g := (mkF m 16 #[iv ls, iv a, iv b, iv c', iv d, iv e', iv (4 : Int32), iv s0, .unset, .unset, .unset, .unset, .unset, .unset, .unset, .unset, .unset, .unset, .unset, .unset, .unset] [(.int b)])) rfl (hb hby at_16) _ ?_
      refine XS.iand X0.here hx rfl (hb hby at_18) rfl ?_
      refine XS.istore X0.here hx rfl (hb hby at_19) rfl (l' := #[iv ls, iv a, iv b, iv c', iv d, iv e', iv (4 : Int32), iv s0, iv (b &&& (2147483647 : Int32)), .unset, .unset, .unset, .unset, .unset, .unset, .unset, .unset, .unset, .unset, .unset, .unset]) rfl ?_
      exact kt)
  obtain ⟨s1, hs1⟩ : ∃ z : Int32, z = (b &&& (2147483647 : Int32)) := ⟨_, rfl⟩
  rw [← hs1] at go881
  have nn1 := own_nn _ s1 hs1
  have go882 : own_S p e below ST s₁ (mkF m 27 #[iv ls, iv a, iv b, iv c', iv d, iv e', iv (4 : Int32), iv s0, iv s1, iv (c' &&& (2147483647 : Int32)), .unset, .unset, .unset, .unset, .unset, .unset, .unset, .unset, .unset, .unset, .unset] []) := fun tt kt => go881 tt (by
      refine XS.iloadN X0.here hx rfl (hb hby at_21) rfl ?_
      refine X0.ldcInt hx hown (mvT hZ (W 0 rfl)) (g := (mkF m 22 #[iv ls, iv a, iv b, iv c', iv d, iv e', iv (4 : Int32), iv s0, iv s1, .unset, .unset, .unset, .unset, .unset, .unset, .unset, .unset, .unset, .unset, .unset, .unset] [(.int c')])) rfl (hb hby at_22) _ ?_
      refine XS.iand X0.here hx rfl (hb hby at_24) rfl ?_
      refine XS.istore X0.here hx rfl (hb hby at_25) rfl (l' := #[iv ls, iv a, iv b, iv c', iv d, iv e', iv (4 : Int32), iv s0, iv s1, iv (c' &&& (2147483647 : Int32)), .unset, .unset, .unset, .unset, .unset, .unset, .unset, .unset, .unset, .unset, .unset]) rfl ?_
      exact kt)
  obtain ⟨s2, hs2⟩ : ∃ z : Int32, z = (c' &&& (2147483647 : Int32)) := ⟨_, rfl⟩
  rw [← hs2] at go882
  have nn2 := own_nn _ s2 hs2
  have go883 : own_S p e below ST s₁ (mkF m 34 #[iv ls, iv a, iv b, iv c', iv d, iv e', iv (4 : Int32), iv s0, iv s1, iv s2, iv (d &&& (2147483647 : Int32)), .unset, .unset, .unset, .unset, .unset, .unset, .unset, .unset, .unset, .unset] []) := fun tt kt => go882 tt (by
      refine XS.iload X0.here hx rfl (hb hby at_27) rfl ?_
      refine X0.ldcInt hx hown (mvT hZ (W 0 rfl)) (g := (mkF m 29 #[iv ls, iv a, iv b, iv c', iv d, iv e', iv (4 : Int32), iv s0, iv s1, iv s2, .unset, .unset, .unset, .unset, .unset, .unset, .unset, .unset, .unset, .unset, .unset] [(.int d)])) rfl (hb hby at_29) _ ?_
      refine XS.iand X0.here hx rfl (hb hby at_31) rfl ?_
      refine XS.istore X0.here hx rfl (hb hby at_32) rfl (l' := #[iv ls, iv a, iv b, iv c', iv d, iv e', iv (4 : Int32), iv s0, iv s1, iv s2, iv (d &&& (2147483647 : Int32)), .unset, .unset, .unset, .unset, .unset, .unset, .unset, .unset, .unset, .unset]) rfl ?_
      exact kt)
  obtain ⟨s3, hs3⟩ : ∃ z : Int32, z = (d &&& (2147483647 : Int32)) := ⟨_, rfl⟩
  rw [← hs3] at go883
  have nn3 := own_nn _ s3 hs3
  have go884 : own_S p e below ST s₁ (mkF m 41 #[iv ls, iv a, iv b, iv c', iv d, iv e', iv (4 : Int32), iv s0, iv s1, iv s2, iv s3, iv (e' &&& (2147483647 : Int32)), .unset, .unset, .unset, .unset, .unset, .unset, .unset, .unset, .unset] []) := fun tt kt => go883 tt (by
      refine XS.iload X0.here hx rfl (hb hby at_34) rfl ?_
      refine X0.ldcInt hx hown (mvT hZ (W 0 rfl)) (g := (mkF m 36 #[iv ls, iv a, iv b, iv c', iv d, iv e', iv (4 : Int32), iv s0, iv s1, iv s2, iv s3, .unset, .unset, .unset, .unset, .unset, .unset, .unset, .unset, .unset, .unset] [(.int e')])) rfl (hb hby at_36) _ ?_
      refine XS.iand X0.here hx rfl (hb hby at_38) rfl ?_
      refine XS.istore X0.here hx rfl (hb hby at_39) rfl (l' := #[iv ls, iv a, iv b, iv c', iv d, iv e', iv (4 : Int32), iv s0, iv s1, iv s2, iv s3, iv (e' &&& (2147483647 : Int32)), .unset, .unset, .unset, .unset, .unset, .unset, .unset, .unset, .unset]) rfl ?_
      exact kt)
  obtain ⟨s4, hs4⟩ : ∃ z : Int32, z = (e' &&& (2147483647 : Int32)) := ⟨_, rfl⟩
  rw [← hs4] at go884
  have nn4 := own_nn _ s4 hs4
  have go885 : own_S p e below ST s₁ (mkF m 43 #[iv ls, iv a, iv b, iv c', iv d, iv e', iv (4 : Int32), iv s0, iv s1, iv s2, iv s3, iv s4, .unset, .unset, .unset, .unset, .unset, .unset, .unset, .unset, .unset] [(.int (4 : Int32))]) := fun tt kt => go884 tt (by
      refine XS.iload X0.here hx rfl (hb hby at_41) rfl ?_
      exact kt)
  obtain ⟨b886, g886⟩ : ∃ z, z = h0.size := ⟨_, rfl⟩
  obtain ⟨T886, h886, k886, X886, e886, E886, A886, st886⟩ := newP X0 hx hZ (W 1 rfl) e0 (g := (mkF m 43 #[iv ls, iv a, iv b, iv c', iv d, iv e', iv (4 : Int32), iv s0, iv s1, iv s2, iv s3, iv s4, .unset, .unset, .unset, .unset, .unset, .unset, .unset, .unset, .unset] [(.int (4 : Int32))])) rfl (hb hby at_43) rfl (by decide) (cap := 4) (by decide) (by decide) (by decide) (by decide)
  rw [← g886] at A886 st886
  have ge_b886 : n0 ≤ b886 := Nat.le_trans Z0 (Nat.le_of_eq g886.symm)
  have V886 : Arv Z h886 b886 k886 .int (4 : Int32) [(.int (0 : Int32)), (.int (0 : Int32)), (.int (0 : Int32)), (.int (0 : Int32))] (.int (0 : Int32)) := (Arv.new A886 (by decide)).pad (pad_rep [] (.int (0 : Int32)) 4)
  have go887 : own_S p e below ST T886 (mkF m 45 #[iv ls, iv a, iv b, iv c', iv d, iv e', iv (4 : Int32), iv s0, iv s1, iv s2, iv s3, iv s4, .unset, .unset, .unset, .unset, .unset, .unset, .unset, .unset, .unset] [(.ref b886)]) := fun tt kt => go885 tt (st886 _ kt)
  have go888 : own_S p e below ST T886 (mkF m 57 #[iv ls, iv a, iv b, iv c', iv d, iv e', iv (4 : Int32), iv s0, iv s1, iv s2, iv s3, iv s4, rv b886, .unset, .unset, .unset, .unset, .unset, .unset, .unset, .unset] [(.int s0), (.int (0 : Int32)), (.ref b886)]) := fun tt kt => go887 tt (by
      refine XS.astore X886.here hx rfl (hb hby at_45) rfl rfl (l' := #[iv ls, iv a, iv b, iv c', iv d, iv e', iv (4 : Int32), iv s0, iv s1, iv s2, iv s3, iv s4, rv b886, .unset, .unset, .unset, .unset, .unset, .unset, .unset, .unset]) rfl ?_
      refine XS.iload X886.here hx rfl (hb hby at_47) rfl ?_
      refine XS.ifNo X886.here hx rfl (hb hby at_49) rfl ((if0 _ _).trans (tlt (by decide : (0 : Int32) < (4 : Int32))).2.2.2) ?_
      refine XS.aload X886.here hx rfl (hb hby at_52) rfl rfl ?_
      refine XS.iconst X886.here hx rfl (hb hby at_54) ?_
      refine XS.iload X886.here hx rfl (hb hby at_55) rfl ?_
      exact kt)
  obtain ⟨cl889, Ar889, q889, S889, M889, H889, G889⟩ := id V886
  have hin889 : ¬ ((0 : Int32) < 0 ∨ cl889.slots.size ≤ ((0 : Int32)).toNatClampNeg) := inb_of S889 ⟨by decide, by decide⟩
  obtain ⟨T889, h889, X889, e889, W889, st889⟩ := stI X886 hx hZ e886 Ar889 (j := (0 : Int32)) hin889 (g := (mkF m 57 #[iv ls, iv a, iv b, iv c', iv d, iv e', iv (4 : Int32), iv s0, iv s1, iv s2, iv s3, iv s4, rv b886, .unset, .unset, .unset, .unset, .unset, .unset, .unset, .unset] [(.int s0), (.int (0 : Int32)), (.ref b886)])) rfl rfl (hb hby at_57)
  have V889 : Arv Z h889 b886 k886 .int (4 : Int32) [(.int s0), (.int (0 : Int32)), (.int (0 : Int32)), (.int (0 : Int32))] (.int (0 : Int32)) := Arv.set Ar889 q889 S889 M889 H889 G889 rfl W889 0 rfl (Nat.le_of_ble_eq_true rfl)
  have N889 := Fr.snoc X889 N0 ge_b886
  have go890 : own_S p e below ST T889 (mkF m 58 #[iv ls, iv a, iv b, iv c', iv d, iv e', iv (4 : Int32), iv s0, iv s1, iv s2, iv s3, iv s4, rv b886, .unset, .unset, .unset, .unset, .unset, .unset, .unset, .unset] []) := fun tt kt => go888 tt (st889 _ kt)
  have go891 : own_S p e below ST T889 (mkF m 69 #[iv ls, iv a, iv b, iv c', iv d, iv e', iv (4 : Int32), iv s0, iv s1, iv s2, iv s3, iv s4, rv b886, .unset, .unset, .unset, .unset, .unset, .unset, .unset, .unset] [(.int s1), (.int (1 : Int32)), (.ref b886)]) := fun tt kt => go890 tt (by
      refine XS.iload X889.here hx rfl (hb hby at_58) rfl ?_
      refine XS.iconst X889.here hx rfl (hb hby at_60) ?_
      refine XS.icmpNo X889.here hx rfl (hb hby at_61) rfl (tlt (by decide : (1 : Int32) < (4 : Int32))).2.2.2 ?_
      refine XS.aload X889.here hx rfl (hb hby at_64) rfl rfl ?_
      refine XS.iconst X889.here hx rfl (hb hby at_66) ?_
      refine XS.iload X889.here hx rfl (hb hby at_67) rfl ?_
      exact kt)
  obtain ⟨cl892, Ar892, q892, S892, M892, H892, G892⟩ := id V889
  have hin892 : ¬ ((1 : Int32) < 0 ∨ cl892.slots.size ≤ ((1 : Int32)).toNatClampNeg) := inb_of S892 ⟨by decide, by decide⟩
  obtain ⟨T892, h892, X892, e892, W892, st892⟩ := stI X889 hx hZ e889 Ar892 (j := (1 : Int32)) hin892 (g := (mkF m 69 #[iv ls, iv a, iv b, iv c', iv d, iv e', iv (4 : Int32), iv s0, iv s1, iv s2, iv s3, iv s4, rv b886, .unset, .unset, .unset, .unset, .unset, .unset, .unset, .unset] [(.int s1), (.int (1 : Int32)), (.ref b886)])) rfl rfl (hb hby at_69)
  have V892 : Arv Z h892 b886 k886 .int (4 : Int32) [(.int s0), (.int s1), (.int (0 : Int32)), (.int (0 : Int32))] (.int (0 : Int32)) := Arv.set Ar892 q892 S892 M892 H892 G892 rfl W892 1 rfl (Nat.le_of_ble_eq_true rfl)
  have N892 := Fr.snoc X892 N889 ge_b886
  have go893 : own_S p e below ST T892 (mkF m 70 #[iv ls, iv a, iv b, iv c', iv d, iv e', iv (4 : Int32), iv s0, iv s1, iv s2, iv s3, iv s4, rv b886, .unset, .unset, .unset, .unset, .unset, .unset, .unset, .unset] []) := fun tt kt => go891 tt (st892 _ kt)
  have go894 : own_S p e below ST T892 (mkF m 81 #[iv ls, iv a, iv b, iv c', iv d, iv e', iv (4 : Int32), iv s0, iv s1, iv s2, iv s3, iv s4, rv b886, .unset, .unset, .unset, .unset, .unset, .unset, .unset, .unset] [(.int s2), (.int (2 : Int32)), (.ref b886)]) := fun tt kt => go893 tt (by
      refine XS.iload X892.here hx rfl (hb hby at_70) rfl ?_
      refine XS.iconst X892.here hx rfl (hb hby at_72) ?_
      refine XS.icmpNo X892.here hx rfl (hb hby at_73) rfl (tlt (by decide : (2 : Int32) < (4 : Int32))).2.2.2 ?_
      refine XS.aload X892.here hx rfl (hb hby at_76) rfl rfl ?_
      refine XS.iconst X892.here hx rfl (hb hby at_78) ?_
      refine XS.iload X892.here hx rfl (hb hby at_79) rfl ?_
      exact kt)
  obtain ⟨cl895, Ar895, q895, S895, M895, H895, G895⟩ := id V892
  have hin895 : ¬ ((2 : Int32) < 0 ∨ cl895.slots.size ≤ ((2 : Int32)).toNatClampNeg) := inb_of S895 ⟨by decide, by decide⟩
  obtain ⟨T895, h895, X895, e895, W895, st895⟩ := stI X892 hx hZ e892 Ar895 (j := (2 : Int32)) hin895 (g := (mkF m 81 #[iv ls, iv a, iv b, iv c', iv d, iv e', iv (4 : Int32), iv s0, iv s1, iv s2, iv s3, iv s4, rv b886, .unset, .unset, .unset, .unset, .unset, .unset, .unset, .unset] [(.int s2), (.int (2 : Int32)), (.ref b886)])) rfl rfl (hb hby at_81)
  have V895 : Arv Z h895 b886 k886 .int (4 : Int32) [(.int s0), (.int s1), (.int s2), (.int (0 : Int32))] (.int (0 : Int32)) := Arv.set Ar895 q895 S895 M895 H895 G895 rfl W895 2 rfl (Nat.le_of_ble_eq_true rfl)
  have N895 := Fr.snoc X895 N892 ge_b886
  have go896 : own_S p e below ST T895 (mkF m 82 #[iv ls, iv a, iv b, iv c', iv d, iv e', iv (4 : Int32), iv s0, iv s1, iv s2, iv s3, iv s4, rv b886, .unset, .unset, .unset, .unset, .unset, .unset, .unset, .unset] []) := fun tt kt => go894 tt (st895 _ kt)
  have go897 : own_S p e below ST T895 (mkF m 93 #[iv ls, iv a, iv b, iv c', iv d, iv e', iv (4 : Int32), iv s0, iv s1, iv s2, iv s3, iv s4, rv b886, .unset, .unset, .unset, .unset, .unset, .unset, .unset, .unset] [(.int s3), (.int (3 : Int32)), (.ref b886)]) := fun tt kt => go896 tt (by
      refine XS.iload X895.here hx rfl (hb hby at_82) rfl ?_
      refine XS.iconst X895.here hx rfl (hb hby at_84) ?_
      refine XS.icmpNo X895.here hx rfl (hb hby at_85) rfl (tlt (by decide : (3 : Int32) < (4 : Int32))).2.2.2 ?_
      refine XS.aload X895.here hx rfl (hb hby at_88) rfl rfl ?_
      refine XS.iconst X895.here hx rfl (hb hby at_90) ?_
      refine XS.iload X895.here hx rfl (hb hby at_91) rfl ?_
      exact kt)
  obtain ⟨cl898, Ar898, q898, S898, M898, H898, G898⟩ := id V895
  have hin898 : ¬ ((3 : Int32) < 0 ∨ cl898.slots.size ≤ ((3 : Int32)).toNatClampNeg) := inb_of S898 ⟨by decide, by decide⟩
  obtain ⟨T898, h898, X898, e898, W898, st898⟩ := stI X895 hx hZ e895 Ar898 (j := (3 : Int32)) hin898 (g := (mkF m 93 #[iv ls, iv a, iv b, iv c', iv d, iv e', iv (4 : Int32), iv s0, iv s1, iv s2, iv s3, iv s4, rv b886, .unset, .unset, .unset, .unset, .unset, .unset, .unset, .unset] [(.int s3), (.int (3 : Int32)), (.ref b886)])) rfl rfl (hb hby at_93)
  have V898 : Arv Z h898 b886 k886 .int (4 : Int32) [(.int s0), (.int s1), (.int s2), (.int s3)] (.int (0 : Int32)) := Arv.set Ar898 q898 S898 M898 H898 G898 rfl W898 3 rfl (Nat.le_of_ble_eq_true rfl)
  have N898 := Fr.snoc X898 N895 ge_b886
  have go899 : own_S p e below ST T898 (mkF m 94 #[iv ls, iv a, iv b, iv c', iv d, iv e', iv (4 : Int32), iv s0, iv s1, iv s2, iv s3, iv s4, rv b886, .unset, .unset, .unset, .unset, .unset, .unset, .unset, .unset] []) := fun tt kt => go897 tt (st898 _ kt)
  have go900 : own_S p e below ST T898 (mkF m 108 #[iv ls, iv a, iv b, iv c', iv d, iv e', iv (4 : Int32), iv s0, iv s1, iv s2, iv s3, iv s4, rv b886, .unset, .unset, .unset, .unset, .unset, .unset, .unset, .unset] [(.ref b886)]) := fun tt kt => go899 tt (by
      refine XS.iload X898.here hx rfl (hb hby at_94) rfl ?_
      refine XS.iconst X898.here hx rfl (hb hby at_96) ?_
      refine XS.icmpYes X898.here hx rfl (pc0 := 97) (pc' := 106) rfl (hb hby at_97) rfl (flt (by decide : ¬ ((4 : Int32) < (4 : Int32)))).2.2.2 (by decide) (by decide) ?_
      refine XS.aload X898.here hx rfl (hb hby at_106) rfl rfl ?_
      exact kt)
  have zs902 := (Nat.le_trans (Nat.le_trans (Nat.le_trans (Nat.le_trans (Nat.le_trans Z0 E886.1) (Keep.of_wr W889).1) (Keep.of_wr W892).1) (Keep.of_wr W895).1) (Keep.of_wr W898).1)
  obtain ⟨_, _, ⟨T901, L901, k901, n901⟩, -, X901, ⟨Lc901, hQ901, l901, y901, z901⟩, st901⟩ := Jvm.LawKit.callS X898 hx (y := (⟨"com/example/declination/declination/engine/Nsga2", "keptCounts", "([I)[I"⟩ : MethodName)) hown (mvT hZ (W 2 rfl)) (mvT hZ (W 3 rfl)) (mvT hZ (W 4 rfl)) (mvT hZ (W 5 rfl)) (by decide) (backOf (W := 0) (rm1k4 l Z a0 hw [] b886 _ s0 s1 s2 s3 h898 n0 zs902 V898) hZ (W 5 rfl) (W 4 rfl) (by decide) (by decide)) (g := (mkF m 108 #[iv ls, iv a, iv b, iv c', iv d, iv e', iv (4 : Int32), iv s0, iv s1, iv s2, iv s3, iv s4, rv b886, .unset, .unset, .unset, .unset, .unset, .unset, .unset, .unset] [(.ref b886)])) rfl (by rw [hml]; rfl) (argsL := [(.ref b886)]) (rest := []) (lenOf pd96 rfl) rfl (by show 2 * 0 + _ ≤ _; exact Nat.le_of_eq rfl) (hb hby at_108) (fun _ _ => ⟨rfl, e898, (by decide : 1 + 1 ≤ _), (by decide : 4 + 4 ≤ _)⟩)
  dsimp only [Pt.U, Pt.locs, Pt.cells, Pt.slots] at X901 l901 y901 z901 st901 hQ901
  subst l901 y901 z901
  obtain ⟨bk, kk, od, e0, e1, e2, e3, q1, q2, q3, q4, rfl, Nq901, K901, Vk901, hod, he0, hq1, he1, hq2, he2, hq3, he3, hq4⟩ := hQ901
  have N901 := Fr.app N898 Nq901
  have go903 : own_S p e below ST T901 (mkF m 111 #[iv ls, iv a, iv b, iv c', iv d, iv e', iv (4 : Int32), iv s0, iv s1, iv s2, iv s3, iv s4, rv b886, .unset, .unset, .unset, .unset, .unset, .unset, .unset, .unset] [(.ref bk)]) := fun tt kt => go900 tt (st901 _ kt)
  have go904 : own_S p e below ST T901 (mkF m 120 #[iv ls, iv a, iv b, iv c', iv d, iv e', iv (4 : Int32), iv s0, iv s1, iv s2, iv s3, iv s4, rv b886, rv bk, .unset, .unset, .unset, .unset, .unset, .unset, .unset] [(.ref bk)]) := fun tt kt => go903 tt (by
      refine XS.astore X901.here hx rfl (hb hby at_111) rfl rfl (l' := #[iv ls, iv a, iv b, iv c', iv d, iv e', iv (4 : Int32), iv s0, iv s1, iv s2, iv s3, iv s4, rv b886, rv bk, .unset, .unset, .unset, .unset, .unset, .unset, .unset]) rfl ?_
      refine XS.aload X901.here hx rfl (hb hby at_113) rfl rfl ?_
      refine XS.ifnullNo X901.here hx rfl (hb hby at_115) rfl ?_
      refine XS.aload X901.here hx rfl (hb hby at_118) rfl rfl ?_
      exact kt)
  obtain ⟨cl905, Ar905, q905, S905, M905, H905, G905⟩ := id Vk901
  have go906 : own_S p e below ST T901 (mkF m 121 #[iv ls, iv a, iv b, iv c', iv d, iv e', iv (4 : Int32), iv s0, iv s1, iv s2, iv s3, iv s4, rv b886, rv bk, .unset, .unset, .unset, .unset, .unset, .unset, .unset] [(.int (4 : Int32))]) := fun tt kt => go904 tt (by
      refine X901.arraylength hx (by exact Ar905.1) (State.isArrayOf_alike hZ.alike Ar905.2.1) (g := (mkF m 120 #[iv ls, iv a, iv b, iv c', iv d, iv e', iv (4 : Int32), iv s0, iv s1, iv s2, iv s3, iv s4, rv b886, rv bk, .unset, .unset, .unset, .unset, .unset, .unset, .unset] [(.ref bk)])) rfl rfl (hb hby at_120) _ ?_
      rw [len_of S905 M905]
      exact kt)
  have go907 : own_S p e below ST T901 (mkF m 229 #[iv ls, iv a, iv b, iv c', iv d, iv e', iv (4 : Int32), iv s0, iv s1, iv s2, iv s3, iv s4, rv b886, rv bk, iv (s0 &&& (1 : Int32)), iv (s1 &&& (1 : Int32)), iv (s2 &&& (1 : Int32)), iv (s3 &&& (1 : Int32)), iv (0 : Int32), iv (((((s0 &&& (1 : Int32)) + (s1 &&& (1 : Int32))) + (s2 &&& (1 : Int32))) + (s3 &&& (1 : Int32))) + (0 : Int32)), iv ((((((s0 &&& (1 : Int32)) + (s1 &&& (1 : Int32))) + (s2 &&& (1 : Int32))) + (s3 &&& (1 : Int32))) + (0 : Int32)) >>> ((1 : Int32) &&& 31))] []) := fun tt kt => go906 tt (by
      refine XS.iload X901.here hx rfl (hb hby at_121) rfl ?_
      refine XS.icmpYes X901.here hx rfl (pc0 := 123) (pc' := 128) rfl (hb hby at_123) rfl (teq (by decide : (4 : Int32) = (4 : Int32))).1 (by decide) (by decide) ?_
      refine XS.iload X901.here hx rfl (hb hby at_128) rfl ?_
      refine XS.ifNo X901.here hx rfl (hb hby at_130) rfl ((if0 _ _).trans (tlt (by decide : (0 : Int32) < (4 : Int32))).2.2.2) ?_
      refine XS.iload X901.here hx rfl (hb hby at_133) rfl ?_
      refine XS.iconst X901.here hx rfl (hb hby at_135) ?_
      show Steps p.tables e below (T901.setTop (mkF m 136 #[iv ls, iv a, iv b, iv c', iv d, iv e', iv (4 : Int32), iv s0, iv s1, iv s2, iv s3, iv s4, rv b886, rv bk, .unset, .unset, .unset, .unset, .unset, .unset, .unset] [(.int (1 : Int32)), (.int s0)])) _
      refine XS.iand X901.here hx rfl (hb hby at_136) rfl ?_
      refine XS.goto X901.here hx rfl (pc0 := 137) (pc' := 141) rfl (hb hby at_137) (by decide) (by decide) ?_
      refine XS.istore X901.here hx rfl (hb hby at_141) rfl (l' := #[iv ls, iv a, iv b, iv c', iv d, iv e', iv (4 : Int32), iv s0, iv s1, iv s2, iv s3, iv s4, rv b886, rv bk, iv (s0 &&& (1 : Int32)), .unset, .unset, .unset, .unset, .unset, .unset]) rfl ?_
      refine XS.iload X901.here hx rfl (hb hby at_143) rfl ?_
      refine XS.iconst X901.here hx rfl (hb hby at_145) ?_
      refine XS.icmpNo X901.here hx rfl (hb hby at_146) rfl (tlt (by decide : (1 : Int32) < (4 : Int32))).2.2.2 ?_
      show Steps p.tables e below (T901.setTop (mkF m 149 #[iv ls, iv a, iv b, iv c', iv d, iv e', iv (4 : Int32), iv s0, iv s1, iv s2, iv s3, iv s4, rv b886, rv bk, iv (s0 &&& (1 : Int32)), .unset, .unset, .unset, .unset, .unset, .unset] [])) _
      refine XS.iload X901.here hx rfl (hb hby at_149) rfl ?_
      refine XS.iconst X901.here hx rfl (hb hby at_151) ?_
      refine XS.iand X901.here hx rfl (hb hby at_152) rfl ?_
      refine XS.goto X901.here hx rfl (pc0 := 153) (pc' := 157) rfl (hb hby at_153) (by decide) (by decide) ?_
      refine XS.istore X901.here hx rfl (hb hby at_157) rfl (l' := #[iv ls, iv a, iv b, iv c', iv d, iv e', iv (4 : Int32), iv s0, iv s1, iv s2, iv s3, iv s4, rv b886, rv bk, iv (s0 &&& (1 : Int32)), iv (s1 &&& (1 : Int32)), .unset, .unset, .unset, .unset, .unset]) rfl ?_
      refine XS.iload X901.here hx rfl (hb hby at_159) rfl ?_
      show Steps p.tables e below (T901.setTop (mkF m 161 #[iv ls, iv a, iv b, iv c', iv d, iv e', iv (4 : Int32), iv s0, iv s1, iv s2, iv s3, iv s4, rv b886, rv bk, iv (s0 &&& (1 : Int32)), iv (s1 &&& (1 : Int32)), .unset, .unset, .unset, .unset, .unset] [(.int (4 : Int32))])) _
      refine XS.iconst X901.here hx rfl (hb hby at_161) ?_
      refine XS.icmpNo X901.here hx rfl (hb hby at_162) rfl (tlt (by decide : (2 : Int32) < (4 : Int32))).2.2.2 ?_
      refine XS.iload X901.here hx rfl (hb hby at_165) rfl ?_
      refine XS.iconst X901.here hx rfl (hb hby at_167) ?_
      refine XS.iand X901.here hx rfl (hb hby at_168) rfl ?_
      refine XS.goto X901.here hx rfl (pc0 := 169) (pc' := 173) rfl (hb hby at_169) (by decide) (by decide) ?_
      show Steps p.tables e below (T901.setTop (mkF m 173 #[iv ls, iv a, iv b, iv c', iv d, iv e', iv (4 : Int32), iv s0, iv s1, iv s2, iv s3, iv s4, rv b886, rv bk, iv (s0 &&& (1 : Int32)), iv (s1 &&& (1 : Int32)), .unset, .unset, .unset, .unset, .unset] [(.int (s2 &&& (1 : Int32)))])) _
      refine XS.istore X901.here hx rfl (hb hby at_173) rfl (l' := #[iv ls, iv a, iv b, iv c', iv d, iv e', iv (4 : Int32), iv s0, iv s1, iv s2, iv s3, iv s4, rv b886, rv bk, iv (s0 &&& (1 : Int32)), iv (s1 &&& (1 : Int32)), iv (s2 &&& (1 : Int32)), .unset, .unset, .unset, .unset]) rfl ?_
      refine XS.iload X901.here hx rfl (hb hby at_175) rfl ?_
      refine XS.iconst X901.here hx rfl (hb hby at_177) ?_
      refine XS.icmpNo X901.here hx rfl (hb hby at_178) rfl (tlt (by decide : (3 : Int32) < (4 : Int32))).2.2.2 ?_
      refine XS.iload X901.here hx rfl (hb hby at_181) rfl ?_
      refine XS.iconst X901.here hx rfl (hb hby at_183) ?_
      show Steps p.tables e below (T901.setTop (mkF m 184 #[iv ls, iv a, iv b, iv c', iv d, iv e', iv (4 : Int32), iv s0, iv s1, iv s2, iv s3, iv s4, rv b886, rv bk, iv (s0 &&& (1 : Int32)), iv (s1 &&& (1 : Int32)), iv (s2 &&& (1 : Int32)), .unset, .unset, .unset, .unset] [(.int (1 : Int32)), (.int s3)])) _
      refine XS.iand X901.here hx rfl (hb hby at_184) rfl ?_
      refine XS.goto X901.here hx rfl (pc0 := 185) (pc' := 189) rfl (hb hby at_185) (by decide) (by decide) ?_
      refine XS.istore X901.here hx rfl (hb hby at_189) rfl (l' := #[iv ls, iv a, iv b, iv c', iv d, iv e', iv (4 : Int32), iv s0, iv s1, iv s2, iv s3, iv s4, rv b886, rv bk, iv (s0 &&& (1 : Int32)), iv (s1 &&& (1 : Int32)), iv (s2 &&& (1 : Int32)), iv (s3 &&& (1 : Int32)), .unset, .unset, .unset]) rfl ?_
      refine XS.iload X901.here hx rfl (hb hby at_191) rfl ?_
      refine XS.iconst X901.here hx rfl (hb hby at_193) ?_
      refine XS.icmpYes X901.here hx rfl (pc0 := 194) (pc' := 204) rfl (hb hby at_194) rfl (flt (by decide : ¬ ((4 : Int32) < (4 : Int32)))).2.2.2 (by decide) (by decide) ?_
      show Steps p.tables e below (T901.setTop (mkF m 204 #[iv ls, iv a, iv b, iv c', iv d, iv e', iv (4 : Int32), iv s0, iv s1, iv s2, iv s3, iv s4, rv b886, rv bk, iv (s0 &&& (1 : Int32)), iv (s1 &&& (1 : Int32)), iv (s2 &&& (1 : Int32)), iv (s3 &&& (1 : Int32)), .unset, .unset, .unset] [])) _
      refine XS.iconst X901.here hx rfl (hb hby at_204) ?_
      refine XS.istore X901.here hx rfl (hb hby at_205) rfl (l' := #[iv ls, iv a, iv b, iv c', iv d, iv e', iv (4 : Int32), iv s0, iv s1, iv s2, iv s3, iv s4, rv b886, rv bk, iv (s0 &&& (1 : Int32)), iv (s1 &&& (1 : Int32)), iv (s2 &&& (1 : Int32)), iv (s3 &&& (1 : Int32)), iv (0 : Int32), .unset, .unset]) rfl ?_
      refine XS.iload X901.here hx rfl (hb hby at_207) rfl ?_
      refine XS.iload X901.here hx rfl (hb hby at_209) rfl ?_
      refine XS.iadd X901.here hx rfl (hb hby at_211) rfl ?_
      refine XS.iload X901.here hx rfl (hb hby at_212) rfl ?_
      show Steps p.tables e below (T901.setTop (mkF m 214 #[iv ls, iv a, iv b, iv c', iv d, iv e', iv (4 : Int32), iv s0, iv s1, iv s2, iv s3, iv s4, rv b886, rv bk, iv (s0 &&& (1 : Int32)), iv (s1 &&& (1 : Int32)), iv (s2 &&& (1 : Int32)), iv (s3 &&& (1 : Int32)), iv (0 : Int32), .unset, .unset] [(.int (s2 &&& (1 : Int32))), (.int ((s0 &&& (1 : Int32)) + (s1 &&& (1 : Int32))))])) _
      refine XS.iadd X901.here hx rfl (hb hby at_214) rfl ?_
      refine XS.iload X901.here hx rfl (hb hby at_215) rfl ?_
      refine XS.iadd X901.here hx rfl (hb hby at_217) rfl ?_
      refine XS.iload X901.here hx rfl (hb hby at_218) rfl ?_
      refine XS.iadd X901.here hx rfl (hb hby at_220) rfl ?_
      refine XS.istore X901.here hx rfl (hb hby at_221) rfl (l' := #[iv ls, iv a, iv b, iv c', iv d, iv e', iv (4 : Int32), iv s0, iv s1, iv s2, iv s3, iv s4, rv b886, rv bk, iv (s0 &&& (1 : Int32)), iv (s1 &&& (1 : Int32)), iv (s2 &&& (1 : Int32)), iv (s3 &&& (1 : Int32)), iv (0 : Int32), iv (((((s0 &&& (1 : Int32)) + (s1 &&& (1 : Int32))) + (s2 &&& (1 : Int32))) + (s3 &&& (1 : Int32))) + (0 : Int32)), .unset]) rfl ?_
      show Steps p.tables e below (T901.setTop (mkF m 223 #[iv ls, iv a, iv b, iv c', iv d, iv e', iv (4 : Int32), iv s0, iv s1, iv s2, iv s3, iv s4, rv b886, rv bk, iv (s0 &&& (1 : Int32)), iv (s1 &&& (1 : Int32)), iv (s2 &&& (1 : Int32)), iv (s3 &&& (1 : Int32)), iv (0 : Int32), iv (((((s0 &&& (1 : Int32)) + (s1 &&& (1 : Int32))) + (s2 &&& (1 : Int32))) + (s3 &&& (1 : Int32))) + (0 : Int32)), .unset] [])) _
      refine XS.iload X901.here hx rfl (hb hby at_223) rfl ?_
      refine XS.iconst X901.here hx rfl (hb hby at_225) ?_
      refine XS.ishr X901.here hx rfl (hb hby at_226) rfl ?_
      refine XS.istore X901.here hx rfl (hb hby at_227) rfl (l' := #[iv ls, iv a, iv b, iv c', iv d, iv e', iv (4 : Int32), iv s0, iv s1, iv s2, iv s3, iv s4, rv b886, rv bk, iv (s0 &&& (1 : Int32)), iv (s1 &&& (1 : Int32)), iv (s2 &&& (1 : Int32)), iv (s3 &&& (1 : Int32)), iv (0 : Int32), iv (((((s0 &&& (1 : Int32)) + (s1 &&& (1 : Int32))) + (s2 &&& (1 : Int32))) + (s3 &&& (1 : Int32))) + (0 : Int32)), iv ((((((s0 &&& (1 : Int32)) + (s1 &&& (1 : Int32))) + (s2 &&& (1 : Int32))) + (s3 &&& (1 : Int32))) + (0 : Int32)) >>> ((1 : Int32) &&& 31))]) rfl ?_
      exact kt)
  have u0 : 0 ≤ (0 : Int32).toInt ∧ (0 : Int32).toInt ≤ 0 := by decide
  have u1 : 0 ≤ ((0 : Int32) + (s0 &&& 1)).toInt ∧ ((0 : Int32) + (s0 &&& 1)).toInt ≤ 1 := own_up (0 : Int32) s0 0 u0 (by decide)
  have u2 : 0 ≤ (((0 : Int32) + (s0 &&& 1)) + (s1 &&& 1)).toInt ∧ (((0 : Int32) + (s0 &&& 1)) + (s1 &&& 1)).toInt ≤ 2 := own_up ((0 : Int32) + (s0 &&& 1)) s1 1 u1 (by decide)
  have u3 : 0 ≤ ((((0 : Int32) + (s0 &&& 1)) + (s1 &&& 1)) + (s2 &&& 1)).toInt ∧ ((((0 : Int32) + (s0 &&& 1)) + (s1 &&& 1)) + (s2 &&& 1)).toInt ≤ 3 := own_up (((0 : Int32) + (s0 &&& 1)) + (s1 &&& 1)) s2 2 u2 (by decide)
  have u4 : 0 ≤ (((((0 : Int32) + (s0 &&& 1)) + (s1 &&& 1)) + (s2 &&& 1)) + (s3 &&& 1)).toInt ∧ (((((0 : Int32) + (s0 &&& 1)) + (s1 &&& 1)) + (s2 &&& 1)) + (s3 &&& 1)).toInt ≤ 4 := own_up ((((0 : Int32) + (s0 &&& 1)) + (s1 &&& 1)) + (s2 &&& 1)) s3 3 u3 (by decide)
  have hod' : od = (((((0 : Int32) + (s0 &&& 1)) + (s1 &&& 1)) + (s2 &&& 1)) + (s3 &&& 1)) := by rw [hod, own_rem s0 nn0, own_rem s1 nn1, own_rem s2 nn2, own_rem s3 nn3]
  have hH : od / (2 : Int32) = ((((((s0 &&& (1 : Int32)) + (s1 &&& (1 : Int32))) + (s2 &&& (1 : Int32))) + (s3 &&& (1 : Int32))) + (0 : Int32)) >>> ((1 : Int32) &&& 31)) := by rw [hod', own_half _ u4.1]; simp only [Int32.add_zero, Int32.zero_add]
  have hqq0 : (0 : Int32) = (0 : Int32) := by rfl
  have hx0 : e0 = (s0 >>> ((1 : Int32) &&& 31)) + own_inc (0 : Int32) ((((((s0 &&& (1 : Int32)) + (s1 &&& (1 : Int32))) + (s2 &&& (1 : Int32))) + (s3 &&& (1 : Int32))) + (0 : Int32)) >>> ((1 : Int32) &&& 31)) (s0 &&& (1 : Int32)) := by rw [he0, own_ve _ _ _ nn0, hH, hqq0]
  have hqq1 : q1 = (s0 &&& (1 : Int32)) := by rw [hq1, own_se _ _ _ nn0, hqq0]; simp only [Int32.zero_add]
  have hx1 : e1 = (s1 >>> ((1 : Int32) &&& 31)) + own_inc (s0 &&& (1 : Int32)) ((((((s0 &&& (1 : Int32)) + (s1 &&& (1 : Int32))) + (s2 &&& (1 : Int32))) + (s3 &&& (1 : Int32))) + (0 : Int32)) >>> ((1 : Int32) &&& 31)) (s1 &&& (1 : Int32)) := by rw [he1, own_ve _ _ _ nn1, hH, hqq1]
  have hqq2 : q2 = ((s0 &&& (1 : Int32)) + (s1 &&& (1 : Int32))) := by rw [hq2, own_se _ _ _ nn1, hqq1]
  have hx2 : e2 = (s2 >>> ((1 : Int32) &&& 31)) + own_inc ((s0 &&& (1 : Int32)) + (s1 &&& (1 : Int32))) ((((((s0 &&& (1 : Int32)) + (s1 &&& (1 : Int32))) + (s2 &&& (1 : Int32))) + (s3 &&& (1 : Int32))) + (0 : Int32)) >>> ((1 : Int32) &&& 31)) (s2 &&& (1 : Int32)) := by rw [he2, own_ve _ _ _ nn2, hH, hqq2]
  have hqq3 : q3 = (((s0 &&& (1 : Int32)) + (s1 &&& (1 : Int32))) + (s2 &&& (1 : Int32))) := by rw [hq3, own_se _ _ _ nn2, hqq2]
  have hx3 : e3 = (s3 >>> ((1 : Int32) &&& 31)) + own_inc (((s0 &&& (1 : Int32)) + (s1 &&& (1 : Int32))) + (s2 &&& (1 : Int32))) ((((((s0 &&& (1 : Int32)) + (s1 &&& (1 : Int32))) + (s2 &&& (1 : Int32))) + (s3 &&& (1 : Int32))) + (0 : Int32)) >>> ((1 : Int32) &&& 31)) (s3 &&& (1 : Int32)) := by rw [he3, own_ve _ _ _ nn3, hH, hqq3]
  have go908 : own_S p e below ST T901 (mkF m 241 #[iv ls, iv a, iv b, iv c', iv d, iv e', iv (4 : Int32), iv s0, iv s1, iv s2, iv s3, iv s4, rv b886, rv bk, iv (s0 &&& (1 : Int32)), iv (s1 &&& (1 : Int32)), iv (s2 &&& (1 : Int32)), iv (s3 &&& (1 : Int32)), iv (0 : Int32), iv (((((s0 &&& (1 : Int32)) + (s1 &&& (1 : Int32))) + (s2 &&& (1 : Int32))) + (s3 &&& (1 : Int32))) + (0 : Int32)), iv ((((((s0 &&& (1 : Int32)) + (s1 &&& (1 : Int32))) + (s2 &&& (1 : Int32))) + (s3 &&& (1 : Int32))) + (0 : Int32)) >>> ((1 : Int32) &&& 31))] [(.int ((((((s0 &&& (1 : Int32)) + (s1 &&& (1 : Int32))) + (s2 &&& (1 : Int32))) + (s3 &&& (1 : Int32))) + (0 : Int32)) >>> ((1 : Int32) &&& 31))), (.int (s0 &&& (1 : Int32))), (.int (0 : Int32)), (.int s0), (.int (4 : Int32)), (.int (0 : Int32)), (.ref bk)]) := fun tt kt => go907 tt (by
      refine XS.aload X901.here hx rfl (hb hby at_229) rfl rfl ?_
      refine XS.iconst X901.here hx rfl (hb hby at_231) ?_
      refine XS.iload X901.here hx rfl (hb hby at_232) rfl ?_
      refine XS.iload X901.here hx rfl (hb hby at_234) rfl ?_
      refine XS.iconst X901.here hx rfl (hb hby at_236) ?_
      refine XS.iload X901.here hx rfl (hb hby at_237) rfl ?_
      show Steps p.tables e below (T901.setTop (mkF m 239 #[iv ls, iv a, iv b, iv c', iv d, iv e', iv (4 : Int32), iv s0, iv s1, iv s2, iv s3, iv s4, rv b886, rv bk, iv (s0 &&& (1 : Int32)), iv (s1 &&& (1 : Int32)), iv (s2 &&& (1 : Int32)), iv (s3 &&& (1 : Int32)), iv (0 : Int32), iv (((((s0 &&& (1 : Int32)) + (s1 &&& (1 : Int32))) + (s2 &&& (1 : Int32))) + (s3 &&& (1 : Int32))) + (0 : Int32)), iv ((((((s0 &&& (1 : Int32)) + (s1 &&& (1 : Int32))) + (s2 &&& (1 : Int32))) + (s3 &&& (1 : Int32))) + (0 : Int32)) >>> ((1 : Int32) &&& 31))] [(.int (s0 &&& (1 : Int32))), (.int (0 : Int32)), (.int s0), (.int (4 : Int32)), (.int (0 : Int32)), (.ref bk)])) _
      refine XS.iload X901.here hx rfl (hb hby at_239) rfl ?_
      exact kt)
  have zs910 := (Nat.le_trans zs902 K901.1)
  obtain ⟨_, _, ⟨T909, L909, k909, n909⟩, -, X909, ⟨Lc909, hQ909, l909, y909, z909⟩, st909⟩ := Jvm.LawKit.callS X901 hx (y := (⟨"com/example/declination/declination/engine/Nsga2KeptCountsPinLaw", "slot", "([IIIIIII)Z"⟩ : MethodName)) hown (mvT hZ (W 6 rfl)) (mvT hZ (W 7 rfl)) (mvT hZ (W 8 rfl)) (mvT hZ (W 9 rfl)) (by decide) (backOf (W := 0) (rm2l l Z a0 hw [] bk (0 : Int32) (4 : Int32) s0 (0 : Int32) (s0 &&& (1 : Int32)) ((((((s0 &&& (1 : Int32)) + (s1 &&& (1 : Int32))) + (s2 &&& (1 : Int32))) + (s3 &&& (1 : Int32))) + (0 : Int32)) >>> ((1 : Int32) &&& 31)) _ _ _ e0 T901.heap n0 zs910 (by decide) (by decide) Vk901 rfl hx0) hZ (W 9 rfl) (W 8 rfl) (by decide) (by decide)) (g := (mkF m 241 #[iv ls, iv a, iv b, iv c', iv d, iv e', iv (4 : Int32), iv s0, iv s1, iv s2, iv s3, iv s4, rv b886, rv bk, iv (s0 &&& (1 : Int32)), iv (s1 &&& (1 : Int32)), iv (s2 &&& (1 : Int32)), iv (s3 &&& (1 : Int32)), iv (0 : Int32), iv (((((s0 &&& (1 : Int32)) + (s1 &&& (1 : Int32))) + (s2 &&& (1 : Int32))) + (s3 &&& (1 : Int32))) + (0 : Int32)), iv ((((((s0 &&& (1 : Int32)) + (s1 &&& (1 : Int32))) + (s2 &&& (1 : Int32))) + (s3 &&& (1 : Int32))) + (0 : Int32)) >>> ((1 : Int32) &&& 31))] [(.int ((((((s0 &&& (1 : Int32)) + (s1 &&& (1 : Int32))) + (s2 &&& (1 : Int32))) + (s3 &&& (1 : Int32))) + (0 : Int32)) >>> ((1 : Int32) &&& 31))), (.int (s0 &&& (1 : Int32))), (.int (0 : Int32)), (.int s0), (.int (4 : Int32)), (.int (0 : Int32)), (.ref bk)])) rfl (by rw [hml]; rfl) (argsL := [(.ref bk), (.int (0 : Int32)), (.int (4 : Int32)), (.int s0), (.int (0 : Int32)), (.int (s0 &&& (1 : Int32))), (.int ((((((s0 &&& (1 : Int32)) + (s1 &&& (1 : Int32))) + (s2 &&& (1 : Int32))) + (s3 &&& (1 : Int32))) + (0 : Int32)) >>> ((1 : Int32) &&& 31)))]) (rest := []) (lenOf pd97 rfl) rfl (by show 2 * 0 + _ ≤ _; exact Nat.le_of_eq rfl) (hb hby at_241) (fun _ _ => ⟨rfl, rfl, (by decide : 2 + 0 ≤ _), (by decide : 8 + 0 ≤ _)⟩)
  dsimp only [Pt.U, Pt.locs, Pt.cells, Pt.slots] at X909 l909 y909 z909 st909 hQ909
  subst l909 y909 z909
  obtain ⟨rfl, Nq909, eh909⟩ := hQ909
  have N909 := Fr.app N901 Nq909
  have go911 : own_S p e below ST T909 (mkF m 244 #[iv ls, iv a, iv b, iv c', iv d, iv e', iv (4 : Int32), iv s0, iv s1, iv s2, iv s3, iv s4, rv b886, rv bk, iv (s0 &&& (1 : Int32)), iv (s1 &&& (1 : Int32)), iv (s2 &&& (1 : Int32)), iv (s3 &&& (1 : Int32)), iv (0 : Int32), iv (((((s0 &&& (1 : Int32)) + (s1 &&& (1 : Int32))) + (s2 &&& (1 : Int32))) + (s3 &&& (1 : Int32))) + (0 : Int32)), iv ((((((s0 &&& (1 : Int32)) + (s1 &&& (1 : Int32))) + (s2 &&& (1 : Int32))) + (s3 &&& (1 : Int32))) + (0 : Int32)) >>> ((1 : Int32) &&& 31))] [(.int (1 : Int32))]) := fun tt kt => go908 tt (st909 _ kt)
  have go912 : own_S p e below ST T909 (mkF m 260 #[iv ls, iv a, iv b, iv c', iv d, iv e', iv (4 : Int32), iv s0, iv s1, iv s2, iv s3, iv s4, rv b886, rv bk, iv (s0 &&& (1 : Int32)), iv (s1 &&& (1 : Int32)), iv (s2 &&& (1 : Int32)), iv (s3 &&& (1 : Int32)), iv (0 : Int32), iv (((((s0 &&& (1 : Int32)) + (s1 &&& (1 : Int32))) + (s2 &&& (1 : Int32))) + (s3 &&& (1 : Int32))) + (0 : Int32)), iv ((((((s0 &&& (1 : Int32)) + (s1 &&& (1 : Int32))) + (s2 &&& (1 : Int32))) + (s3 &&& (1 : Int32))) + (0 : Int32)) >>> ((1 : Int32) &&& 31))] [(.int ((((((s0 &&& (1 : Int32)) + (s1 &&& (1 : Int32))) + (s2 &&& (1 : Int32))) + (s3 &&& (1 : Int32))) + (0 : Int32)) >>> ((1 : Int32) &&& 31))), (.int (s1 &&& (1 : Int32))), (.int (s0 &&& (1 : Int32))), (.int s1), (.int (4 : Int32)), (.int (1 : Int32)), (.ref bk)]) := fun tt kt => go911 tt (by
      refine XS.ifNo X909.here hx rfl (hb hby at_244) rfl ((if0 _ _).trans (feq (by decide : ¬ ((1 : Int32) = (0 : Int32)))).1) ?_
      refine XS.aload X909.here hx rfl (hb hby at_247) rfl rfl ?_
      refine XS.iconst X909.here hx rfl (hb hby at_249) ?_
      refine XS.iload X909.here hx rfl (hb hby at_250) rfl ?_
      refine XS.iload X909.here hx rfl (hb hby at_252) rfl ?_
      refine XS.iload X909.here hx rfl (hb hby at_254) rfl ?_
      show Steps p.tables e below (T909.setTop (mkF m 256 #[iv ls, iv a, iv b, iv c', iv d, iv e', iv (4 : Int32), iv s0, iv s1, iv s2, iv s3, iv s4, rv b886, rv bk, iv (s0 &&& (1 : Int32)), iv (s1 &&& (1 : Int32)), iv (s2 &&& (1 : Int32)), iv (s3 &&& (1 : Int32)), iv (0 : Int32), iv (((((s0 &&& (1 : Int32)) + (s1 &&& (1 : Int32))) + (s2 &&& (1 : Int32))) + (s3 &&& (1 : Int32))) + (0 : Int32)), iv ((((((s0 &&& (1 : Int32)) + (s1 &&& (1 : Int32))) + (s2 &&& (1 : Int32))) + (s3 &&& (1 : Int32))) + (0 : Int32)) >>> ((1 : Int32) &&& 31))] [(.int (s0 &&& (1 : Int32))), (.int s1), (.int (4 : Int32)), (.int (1 : Int32)), (.ref bk)])) _
      refine XS.iload X909.here hx rfl (hb hby at_256) rfl ?_
      refine XS.iload X909.here hx rfl (hb hby at_258) rfl ?_
      exact kt)
  obtain ⟨_, _, ⟨T913, L913, k913, n913⟩, -, X913, ⟨Lc913, hQ913, l913, y913, z913⟩, st913⟩ := Jvm.LawKit.callS X909 hx (y := (⟨"com/example/declination/declination/engine/Nsga2KeptCountsPinLaw", "slot", "([IIIIIII)Z"⟩ : MethodName)) hown (mvT hZ (W 6 rfl)) (mvT hZ (W 7 rfl)) (mvT hZ (W 8 rfl)) (mvT hZ (W 9 rfl)) (by decide) (backOf (W := 0) (rm2l l Z a0 hw [] bk (1 : Int32) (4 : Int32) s1 (s0 &&& (1 : Int32)) (s1 &&& (1 : Int32)) ((((((s0 &&& (1 : Int32)) + (s1 &&& (1 : Int32))) + (s2 &&& (1 : Int32))) + (s3 &&& (1 : Int32))) + (0 : Int32)) >>> ((1 : Int32) &&& 31)) _ _ _ e1 T901.heap n0 zs910 (by decide) (by decide) Vk901 rfl hx1) hZ (W 9 rfl) (W 8 rfl) (by decide) (by decide)) (g := (mkF m 260 #[iv ls, iv a, iv b, iv c', iv d, iv e', iv (4 : Int32), iv s0, iv s1, iv s2, iv s3, iv s4, rv b886, rv bk, iv (s0 &&& (1 : Int32)), iv (s1 &&& (1 : Int32)), iv (s2 &&& (1 : Int32)), iv (s3 &&& (1 : Int32)), iv (0 : Int32), iv (((((s0 &&& (1 : Int32)) + (s1 &&& (1 : Int32))) + (s2 &&& (1 : Int32))) + (s3 &&& (1 : Int32))) + (0 : Int32)), iv ((((((s0 &&& (1 : Int32)) + (s1 &&& (1 : Int32))) + (s2 &&& (1 : Int32))) + (s3 &&& (1 : Int32))) + (0 : Int32)) >>> ((1 : Int32) &&& 31))] [(.int ((((((s0 &&& (1 : Int32)) + (s1 &&& (1 : Int32))) + (s2 &&& (1 : Int32))) + (s3 &&& (1 : Int32))) + (0 : Int32)) >>> ((1 : Int32) &&& 31))), (.int (s1 &&& (1 : Int32))), (.int (s0 &&& (1 : Int32))), (.int s1), (.int (4 : Int32)), (.int (1 : Int32)), (.ref bk)])) rfl (by rw [hml]; rfl) (argsL := [(.ref bk), (.int (1 : Int32)), (.int (4 : Int32)), (.int s1), (.int (s0 &&& (1 : Int32))), (.int (s1 &&& (1 : Int32))), (.int ((((((s0 &&& (1 : Int32)) + (s1 &&& (1 : Int32))) + (s2 &&& (1 : Int32))) + (s3 &&& (1 : Int32))) + (0 : Int32)) >>> ((1 : Int32) &&& 31)))]) (rest := []) (lenOf pd97 rfl) rfl (by show 2 * 0 + _ ≤ _; exact Nat.le_of_eq rfl) (hb hby at_260) (fun _ _ => ⟨rfl, eh909, (by decide : 2 + 0 ≤ _), (by decide : 8 + 0 ≤ _)⟩)
  dsimp only [Pt.U, Pt.locs, Pt.cells, Pt.slots] at X913 l913 y913 z913 st913 hQ913
  subst l913 y913 z913
  obtain ⟨rfl, Nq913, eh913⟩ := hQ913
  have N913 := Fr.app N909 Nq913
  have go914 : own_S p e below ST T913 (mkF m 263 #[iv ls, iv a, iv b, iv c', iv d, iv e', iv (4 : Int32), iv s0, iv s1, iv s2, iv s3, iv s4, rv b886, rv bk, iv (s0 &&& (1 : Int32)), iv (s1 &&& (1 : Int32)), iv (s2 &&& (1 : Int32)), iv (s3 &&& (1 : Int32)), iv (0 : Int32), iv (((((s0 &&& (1 : Int32)) + (s1 &&& (1 : Int32))) + (s2 &&& (1 : Int32))) + (s3 &&& (1 : Int32))) + (0 : Int32)), iv ((((((s0 &&& (1 : Int32)) + (s1 &&& (1 : Int32))) + (s2 &&& (1 : Int32))) + (s3 &&& (1 : Int32))) + (0 : Int32)) >>> ((1 : Int32) &&& 31))] [(.int (1 : Int32))]) := fun tt kt => go912 tt (st913 _ kt)
  have go915 : own_S p e below ST T913 (mkF m 282 #[iv ls, iv a, iv b, iv c', iv d, iv e', iv (4 : Int32), iv s0, iv s1, iv s2, iv s3, iv s4, rv b886, rv bk, iv (s0 &&& (1 : Int32)), iv (s1 &&& (1 : Int32)), iv (s2 &&& (1 : Int32)), iv (s3 &&& (1 : Int32)), iv (0 : Int32), iv (((((s0 &&& (1 : Int32)) + (s1 &&& (1 : Int32))) + (s2 &&& (1 : Int32))) + (s3 &&& (1 : Int32))) + (0 : Int32)), iv ((((((s0 &&& (1 : Int32)) + (s1 &&& (1 : Int32))) + (s2 &&& (1 : Int32))) + (s3 &&& (1 : Int32))) + (0 : Int32)) >>> ((1 : Int32) &&& 31))] [(.int ((((((s0 &&& (1 : Int32)) + (s1 &&& (1 : Int32))) + (s2 &&& (1 : Int32))) + (s3 &&& (1 : Int32))) + (0 : Int32)) >>> ((1 : Int32) &&& 31))), (.int (s2 &&& (1 : Int32))), (.int ((s0 &&& (1 : Int32)) + (s1 &&& (1 : Int32)))), (.int s2), (.int (4 : Int32)), (.int (2 : Int32)), (.ref bk)]) := fun tt kt => go914 tt (by
      refine XS.ifNo X913.here hx rfl (hb hby at_263) rfl ((if0 _ _).trans (feq (by decide : ¬ ((1 : Int32) = (0 : Int32)))).1) ?_
      refine XS.aload X913.here hx rfl (hb hby at_266) rfl rfl ?_
      refine XS.iconst X913.here hx rfl (hb hby at_268) ?_
      refine XS.iload X913.here hx rfl (hb hby at_269) rfl ?_
      refine XS.iload X913.here hx rfl (hb hby at_271) rfl ?_
      refine XS.iload X913.here hx rfl (hb hby at_273) rfl ?_
      show Steps p.tables e below (T913.setTop (mkF m 275 #[iv ls, iv a, iv b, iv c', iv d, iv e', iv (4 : Int32), iv s0, iv s1, iv s2, iv s3, iv s4, rv b886, rv bk, iv (s0 &&& (1 : Int32)), iv (s1 &&& (1 : Int32)), iv (s2 &&& (1 : Int32)), iv (s3 &&& (1 : Int32)), iv (0 : Int32), iv (((((s0 &&& (1 : Int32)) + (s1 &&& (1 : Int32))) + (s2 &&& (1 : Int32))) + (s3 &&& (1 : Int32))) + (0 : Int32)), iv ((((((s0 &&& (1 : Int32)) + (s1 &&& (1 : Int32))) + (s2 &&& (1 : Int32))) + (s3 &&& (1 : Int32))) + (0 : Int32)) >>> ((1 : Int32) &&& 31))] [(.int (s0 &&& (1 : Int32))), (.int s2), (.int (4 : Int32)), (.int (2 : Int32)), (.ref bk)])) _
      refine XS.iload X913.here hx rfl (hb hby at_275) rfl ?_
      refine XS.iadd X913.here hx rfl (hb hby at_277) rfl ?_
      refine XS.iload X913.here hx rfl (hb hby at_278) rfl ?_
      refine XS.iload X913.here hx rfl (hb hby at_280) rfl ?_
      exact kt)
  obtain ⟨_, _, ⟨T916, L916, k916, n916⟩, -, X916, ⟨Lc916, hQ916, l916, y916, z916⟩, st916⟩ := Jvm.LawKit.callS X913 hx (y := (⟨"com/example/declination/declination/engine/Nsga2KeptCountsPinLaw", "slot", "([IIIIIII)Z"⟩ : MethodName)) hown (mvT hZ (W 6 rfl)) (mvT hZ (W 7 rfl)) (mvT hZ (W 8 rfl)) (mvT hZ (W 9 rfl)) (by decide) (backOf (W := 0) (rm2l l Z a0 hw [] bk (2 : Int32) (4 : Int32) s2 ((s0 &&& (1 : Int32)) + (s1 &&& (1 : Int32))) (s2 &&& (1 : Int32)) ((((((s0 &&& (1 : Int32)) + (s1 &&& (1 : Int32))) + (s2 &&& (1 : Int32))) + (s3 &&& (1 : Int32))) + (0 : Int32)) >>> ((1 : Int32) &&& 31)) _ _ _ e2 T901.heap n0 zs910 (by decide) (by decide) Vk901 rfl hx2) hZ (W 9 rfl) (W 8 rfl) (by decide) (by decide)) (g := (mkF m 282 #[iv ls, iv a, iv b, iv c', iv d, iv e', iv (4 : Int32), iv s0, iv s1, iv s2, iv s3, iv s4, rv b886, rv bk, iv (s0 &&& (1 : Int32)), iv (s1 &&& (1 : Int32)), iv (s2 &&& (1 : Int32)), iv (s3 &&& (1 : Int32)), iv (0 : Int32), iv (((((s0 &&& (1 : Int32)) + (s1 &&& (1 : Int32))) + (s2 &&& (1 : Int32))) + (s3 &&& (1 : Int32))) + (0 : Int32)), iv ((((((s0 &&& (1 : Int32)) + (s1 &&& (1 : Int32))) + (s2 &&& (1 : Int32))) + (s3 &&& (1 : Int32))) + (0 : Int32)) >>> ((1 : Int32) &&& 31))] [(.int ((((((s0 &&& (1 : Int32)) + (s1 &&& (1 : Int32))) + (s2 &&& (1 : Int32))) + (s3 &&& (1 : Int32))) + (0 : Int32)) >>> ((1 : Int32) &&& 31))), (.int (s2 &&& (1 : Int32))), (.int ((s0 &&& (1 : Int32)) + (s1 &&& (1 : Int32)))), (.int s2), (.int (4 : Int32)), (.int (2 : Int32)), (.ref bk)])) rfl (by rw [hml]; rfl) (argsL := [(.ref bk), (.int (2 : Int32)), (.int (4 : Int32)), (.int s2), (.int ((s0 &&& (1 : Int32)) + (s1 &&& (1 : Int32)))), (.int (s2 &&& (1 : Int32))), (.int ((((((s0 &&& (1 : Int32)) + (s1 &&& (1 : Int32))) + (s2 &&& (1 : Int32))) + (s3 &&& (1 : Int32))) + (0 : Int32)) >>> ((1 : Int32) &&& 31)))]) (rest := []) (lenOf pd97 rfl) rfl (by show 2 * 0 + _ ≤ _; exact Nat.le_of_eq rfl) (hb hby at_282) (fun _ _ => ⟨rfl, eh913, (by decide : 2 + 0 ≤ _), (by decide : 8 + 0 ≤ _)⟩)
  dsimp only [Pt.U, Pt.locs, Pt.cells, Pt.slots] at X916 l916 y916 z916 st916 hQ916
  subst l916 y916 z916
  obtain ⟨rfl, Nq916, eh916⟩ := hQ916
  have N916 := Fr.app N913 Nq916
  have go917 : own_S p e below ST T916 (mkF m 285 #[iv ls, iv a, iv b, iv c', iv d, iv e', iv (4 : Int32), iv s0, iv s1, iv s2, iv s3, iv s4, rv b886, rv bk, iv (s0 &&& (1 : Int32)), iv (s1 &&& (1 : Int32)), iv (s2 &&& (1 : Int32)), iv (s3 &&& (1 : Int32)), iv (0 : Int32), iv (((((s0 &&& (1 : Int32)) + (s1 &&& (1 : Int32))) + (s2 &&& (1 : Int32))) + (s3 &&& (1 : Int32))) + (0 : Int32)), iv ((((((s0 &&& (1 : Int32)) + (s1 &&& (1 : Int32))) + (s2 &&& (1 : Int32))) + (s3 &&& (1 : Int32))) + (0 : Int32)) >>> ((1 : Int32) &&& 31))] [(.int (1 : Int32))]) := fun tt kt => go915 tt (st916 _ kt)
  have go918 : own_S p e below ST T916 (mkF m 307 #[iv ls, iv a, iv b, iv c', iv d, iv e', iv (4 : Int32), iv s0, iv s1, iv s2, iv s3, iv s4, rv b886, rv bk, iv (s0 &&& (1 : Int32)), iv (s1 &&& (1 : Int32)), iv (s2 &&& (1 : Int32)), iv (s3 &&& (1 : Int32)), iv (0 : Int32), iv (((((s0 &&& (1 : Int32)) + (s1 &&& (1 : Int32))) + (s2 &&& (1 : Int32))) + (s3 &&& (1 : Int32))) + (0 : Int32)), iv ((((((s0 &&& (1 : Int32)) + (s1 &&& (1 : Int32))) + (s2 &&& (1 : Int32))) + (s3 &&& (1 : Int32))) + (0 : Int32)) >>> ((1 : Int32) &&& 31))] [(.int ((((((s0 &&& (1 : Int32)) + (s1 &&& (1 : Int32))) + (s2 &&& (1 : Int32))) + (s3 &&& (1 : Int32))) + (0 : Int32)) >>> ((1 : Int32) &&& 31))), (.int (s3 &&& (1 : Int32))), (.int (((s0 &&& (1 : Int32)) + (s1 &&& (1 : Int32))) + (s2 &&& (1 : Int32)))), (.int s3), (.int (4 : Int32)), (.int (3 : Int32)), (.ref bk)]) := fun tt kt => go917 tt (by
      refine XS.ifNo X916.here hx rfl (hb hby at_285) rfl ((if0 _ _).trans (feq (by decide : ¬ ((1 : Int32) = (0 : Int32)))).1) ?_
      refine XS.aload X916.here hx rfl (hb hby at_288) rfl rfl ?_
      refine XS.iconst X916.here hx rfl (hb hby at_290) ?_
      refine XS.iload X916.here hx rfl (hb hby at_291) rfl ?_
      refine XS.iload X916.here hx rfl (hb hby at_293) rfl ?_
      refine XS.iload X916.here hx rfl (hb hby at_295) rfl ?_
      show Steps p.tables e below (T916.setTop (mkF m 297 #[iv ls, iv a, iv b, iv c', iv d, iv e', iv (4 : Int32), iv s0, iv s1, iv s2, iv s3, iv s4, rv b886, rv bk, iv (s0 &&& (1 : Int32)), iv (s1 &&& (1 : Int32)), iv (s2 &&& (1 : Int32)), iv (s3 &&& (1 : Int32)), iv (0 : Int32), iv (((((s0 &&& (1 : Int32)) + (s1 &&& (1 : Int32))) + (s2 &&& (1 : Int32))) + (s3 &&& (1 : Int32))) + (0 : Int32)), iv ((((((s0 &&& (1 : Int32)) + (s1 &&& (1 : Int32))) + (s2 &&& (1 : Int32))) + (s3 &&& (1 : Int32))) + (0 : Int32)) >>> ((1 : Int32) &&& 31))] [(.int (s0 &&& (1 : Int32))), (.int s3), (.int (4 : Int32)), (.int (3 : Int32)), (.ref bk)])) _
      refine XS.iload X916.here hx rfl (hb hby at_297) rfl ?_
      refine XS.iadd X916.here hx rfl (hb hby at_299) rfl ?_
      refine XS.iload X916.here hx rfl (hb hby at_300) rfl ?_
      refine XS.iadd X916.here hx rfl (hb hby at_302) rfl ?_
      refine XS.iload X916.here hx rfl (hb hby at_303) rfl ?_
      refine XS.iload X916.here hx rfl (hb hby at_305) rfl ?_
      exact kt)
  obtain ⟨_, _, ⟨T919, L919, k919, n919⟩, -, X919, ⟨Lc919, hQ919, l919, y919, z919⟩, st919⟩ := Jvm.LawKit.callS X916 hx (y := (⟨"com/example/declination/declination/engine/Nsga2KeptCountsPinLaw", "slot", "([IIIIIII)Z"⟩ : MethodName)) hown (mvT hZ (W 6 rfl)) (mvT hZ (W 7 rfl)) (mvT hZ (W 8 rfl)) (mvT hZ (W 9 rfl)) (by decide) (backOf (W := 0) (rm2l l Z a0 hw [] bk (3 : Int32) (4 : Int32) s3 (((s0 &&& (1 : Int32)) + (s1 &&& (1 : Int32))) + (s2 &&& (1 : Int32))) (s3 &&& (1 : Int32)) ((((((s0 &&& (1 : Int32)) + (s1 &&& (1 : Int32))) + (s2 &&& (1 : Int32))) + (s3 &&& (1 : Int32))) + (0 : Int32)) >>> ((1 : Int32) &&& 31)) _ _ _ e3 T901.heap n0 zs910 (by decide) (by decide) Vk901 rfl hx3) hZ (W 9 rfl) (W 8 rfl) (by decide) (by decide)) (g := (mkF m 307 #[iv ls, iv a, iv b, iv c', iv d, iv e', iv (4 : Int32), iv s0, iv s1, iv s2, iv s3, iv s4, rv b886, rv bk, iv (s0 &&& (1 : Int32)), iv (s1 &&& (1 : Int32)), iv (s2 &&& (1 : Int32)), iv (s3 &&& (1 : Int32)), iv (0 : Int32), iv (((((s0 &&& (1 : Int32)) + (s1 &&& (1 : Int32))) + (s2 &&& (1 : Int32))) + (s3 &&& (1 : Int32))) + (0 : Int32)), iv ((((((s0 &&& (1 : Int32)) + (s1 &&& (1 : Int32))) + (s2 &&& (1 : Int32))) + (s3 &&& (1 : Int32))) + (0 : Int32)) >>> ((1 : Int32) &&& 31))] [(.int ((((((s0 &&& (1 : Int32)) + (s1 &&& (1 : Int32))) + (s2 &&& (1 : Int32))) + (s3 &&& (1 : Int32))) + (0 : Int32)) >>> ((1 : Int32) &&& 31))), (.int (s3 &&& (1 : Int32))), (.int (((s0 &&& (1 : Int32)) + (s1 &&& (1 : Int32))) + (s2 &&& (1 : Int32)))), (.int s3), (.int (4 : Int32)), (.int (3 : Int32)), (.ref bk)])) rfl (by rw [hml]; rfl) (argsL := [(.ref bk), (.int (3 : Int32)), (.int (4 : Int32)), (.int s3), (.int (((s0 &&& (1 : Int32)) + (s1 &&& (1 : Int32))) + (s2 &&& (1 : Int32)))), (.int (s3 &&& (1 : Int32))), (.int ((((((s0 &&& (1 : Int32)) + (s1 &&& (1 : Int32))) + (s2 &&& (1 : Int32))) + (s3 &&& (1 : Int32))) + (0 : Int32)) >>> ((1 : Int32) &&& 31)))]) (rest := []) (lenOf pd97 rfl) rfl (by show 2 * 0 + _ ≤ _; exact Nat.le_of_eq rfl) (hb hby at_307) (fun _ _ => ⟨rfl, eh916, (by decide : 2 + 0 ≤ _), (by decide : 8 + 0 ≤ _)⟩)
  dsimp only [Pt.U, Pt.locs, Pt.cells, Pt.slots] at X919 l919 y919 z919 st919 hQ919
  subst l919 y919 z919
  obtain ⟨rfl, Nq919, eh919⟩ := hQ919
  have N919 := Fr.app N916 Nq919
  have go920 : own_S p e below ST T919 (mkF m 310 #[iv ls, iv a, iv b, iv c', iv d, iv e', iv (4 : Int32), iv s0, iv s1, iv s2, iv s3, iv s4, rv b886, rv bk, iv (s0 &&& (1 : Int32)), iv (s1 &&& (1 : Int32)), iv (s2 &&& (1 : Int32)), iv (s3 &&& (1 : Int32)), iv (0 : Int32), iv (((((s0 &&& (1 : Int32)) + (s1 &&& (1 : Int32))) + (s2 &&& (1 : Int32))) + (s3 &&& (1 : Int32))) + (0 : Int32)), iv ((((((s0 &&& (1 : Int32)) + (s1 &&& (1 : Int32))) + (s2 &&& (1 : Int32))) + (s3 &&& (1 : Int32))) + (0 : Int32)) >>> ((1 : Int32) &&& 31))] [(.int (1 : Int32))]) := fun tt kt => go918 tt (st919 _ kt)
  have go921 : own_S p e below ST T919 (mkF m 335 #[iv ls, iv a, iv b, iv c', iv d, iv e', iv (4 : Int32), iv s0, iv s1, iv s2, iv s3, iv s4, rv b886, rv bk, iv (s0 &&& (1 : Int32)), iv (s1 &&& (1 : Int32)), iv (s2 &&& (1 : Int32)), iv (s3 &&& (1 : Int32)), iv (0 : Int32), iv (((((s0 &&& (1 : Int32)) + (s1 &&& (1 : Int32))) + (s2 &&& (1 : Int32))) + (s3 &&& (1 : Int32))) + (0 : Int32)), iv ((((((s0 &&& (1 : Int32)) + (s1 &&& (1 : Int32))) + (s2 &&& (1 : Int32))) + (s3 &&& (1 : Int32))) + (0 : Int32)) >>> ((1 : Int32) &&& 31))] [(.int ((((((s0 &&& (1 : Int32)) + (s1 &&& (1 : Int32))) + (s2 &&& (1 : Int32))) + (s3 &&& (1 : Int32))) + (0 : Int32)) >>> ((1 : Int32) &&& 31))), (.int (0 : Int32)), (.int ((((s0 &&& (1 : Int32)) + (s1 &&& (1 : Int32))) + (s2 &&& (1 : Int32))) + (s3 &&& (1 : Int32)))), (.int s4), (.int (4 : Int32)), (.int (4 : Int32)), (.ref bk)]) := fun tt kt => go920 tt (by
      refine XS.ifNo X919.here hx rfl (hb hby at_310) rfl ((if0 _ _).trans (feq (by decide : ¬ ((1 : Int32) = (0 : Int32)))).1) ?_
      refine XS.aload X919.here hx rfl (hb hby at_313) rfl rfl ?_
      refine XS.iconst X919.here hx rfl (hb hby at_315) ?_
      refine XS.iload X919.here hx rfl (hb hby at_316) rfl ?_
      refine XS.iload X919.here hx rfl (hb hby at_318) rfl ?_
      refine XS.iload X919.here hx rfl (hb hby at_320) rfl ?_
      show Steps p.tables e below (T919.setTop (mkF m 322 #[iv ls, iv a, iv b, iv c', iv d, iv e', iv (4 : Int32), iv s0, iv s1, iv s2, iv s3, iv s4, rv b886, rv bk, iv (s0 &&& (1 : Int32)), iv (s1 &&& (1 : Int32)), iv (s2 &&& (1 : Int32)), iv (s3 &&& (1 : Int32)), iv (0 : Int32), iv (((((s0 &&& (1 : Int32)) + (s1 &&& (1 : Int32))) + (s2 &&& (1 : Int32))) + (s3 &&& (1 : Int32))) + (0 : Int32)), iv ((((((s0 &&& (1 : Int32)) + (s1 &&& (1 : Int32))) + (s2 &&& (1 : Int32))) + (s3 &&& (1 : Int32))) + (0 : Int32)) >>> ((1 : Int32) &&& 31))] [(.int (s0 &&& (1 : Int32))), (.int s4), (.int (4 : Int32)), (.int (4 : Int32)), (.ref bk)])) _
      refine XS.iload X919.here hx rfl (hb hby at_322) rfl ?_
      refine XS.iadd X919.here hx rfl (hb hby at_324) rfl ?_
      refine XS.iload X919.here hx rfl (hb hby at_325) rfl ?_
      refine XS.iadd X919.here hx rfl (hb hby at_327) rfl ?_
      refine XS.iload X919.here hx rfl (hb hby at_328) rfl ?_
      refine XS.iadd X919.here hx rfl (hb hby at_330) rfl ?_
      show Steps p.tables e below (T919.setTop (mkF m 331 #[iv ls, iv a, iv b, iv c', iv d, iv e', iv (4 : Int32), iv s0, iv s1, iv s2, iv s3, iv s4, rv b886, rv bk, iv (s0 &&& (1 : Int32)), iv (s1 &&& (1 : Int32)), iv (s2 &&& (1 : Int32)), iv (s3 &&& (1 : Int32)), iv (0 : Int32), iv (((((s0 &&& (1 : Int32)) + (s1 &&& (1 : Int32))) + (s2 &&& (1 : Int32))) + (s3 &&& (1 : Int32))) + (0 : Int32)), iv ((((((s0 &&& (1 : Int32)) + (s1 &&& (1 : Int32))) + (s2 &&& (1 : Int32))) + (s3 &&& (1 : Int32))) + (0 : Int32)) >>> ((1 : Int32) &&& 31))] [(.int ((((s0 &&& (1 : Int32)) + (s1 &&& (1 : Int32))) + (s2 &&& (1 : Int32))) + (s3 &&& (1 : Int32)))), (.int s4), (.int (4 : Int32)), (.int (4 : Int32)), (.ref bk)])) _
      refine XS.iload X919.here hx rfl (hb hby at_331) rfl ?_
      refine XS.iload X919.here hx rfl (hb hby at_333) rfl ?_
      exact kt)
  obtain ⟨_, _, ⟨T922, L922, k922, n922⟩, -, X922, ⟨Lc922, hQ922, l922, y922, z922⟩, st922⟩ := Jvm.LawKit.callS X919 hx (y := (⟨"com/example/declination/declination/engine/Nsga2KeptCountsPinLaw", "slot", "([IIIIIII)Z"⟩ : MethodName)) hown (mvT hZ (W 6 rfl)) (mvT hZ (W 7 rfl)) (mvT hZ (W 8 rfl)) (mvT hZ (W 9 rfl)) (by decide) (backOf (W := 0) (rm2g l Z a0 hw [] bk (4 : Int32) (4 : Int32) s4 ((((s0 &&& (1 : Int32)) + (s1 &&& (1 : Int32))) + (s2 &&& (1 : Int32))) + (s3 &&& (1 : Int32))) (0 : Int32) ((((((s0 &&& (1 : Int32)) + (s1 &&& (1 : Int32))) + (s2 &&& (1 : Int32))) + (s3 &&& (1 : Int32))) + (0 : Int32)) >>> ((1 : Int32) &&& 31)) T901.heap n0 zs910 (by decide)) hZ (W 9 rfl) (W 8 rfl) (by decide) (by decide)) (g := (mkF m 335 #[iv ls, iv a, iv b, iv c', iv d, iv e', iv (4 : Int32), iv s0, iv s1, iv s2, iv s3, iv s4, rv b886, rv bk, iv (s0 &&& (1 : Int32)), iv (s1 &&& (1 : Int32)), iv (s2 &&& (1 : Int32)), iv (s3 &&& (1 : Int32)), iv (0 : Int32), iv (((((s0 &&& (1 : Int32)) + (s1 &&& (1 : Int32))) + (s2 &&& (1 : Int32))) + (s3 &&& (1 : Int32))) + (0 : Int32)), iv ((((((s0 &&& (1 : Int32)) + (s1 &&& (1 : Int32))) + (s2 &&& (1 : Int32))) + (s3 &&& (1 : Int32))) + (0 : Int32)) >>> ((1 : Int32) &&& 31))] [(.int ((((((s0 &&& (1 : Int32)) + (s1 &&& (1 : Int32))) + (s2 &&& (1 : Int32))) + (s3 &&& (1 : Int32))) + (0 : Int32)) >>> ((1 : Int32) &&& 31))), (.int (0 : Int32)), (.int ((((s0 &&& (1 : Int32)) + (s1 &&& (1 : Int32))) + (s2 &&& (1 : Int32))) + (s3 &&& (1 : Int32)))), (.int s4), (.int (4 : Int32)), (.int (4 : Int32)), (.ref bk)])) rfl (by rw [hml]; rfl) (argsL := [(.ref bk), (.int (4 : Int32)), (.int (4 : Int32)), (.int s4), (.int ((((s0 &&& (1 : Int32)) + (s1 &&& (1 : Int32))) + (s2 &&& (1 : Int32))) + (s3 &&& (1 : Int32)))), (.int (0 : Int32)), (.int ((((((s0 &&& (1 : Int32)) + (s1 &&& (1 : Int32))) + (s2 &&& (1 : Int32))) + (s3 &&& (1 : Int32))) + (0 : Int32)) >>> ((1 : Int32) &&& 31)))]) (rest := []) (lenOf pd97 rfl) rfl (by show 2 * 0 + _ ≤ _; exact Nat.le_of_eq rfl) (hb hby at_335) (fun _ _ => ⟨rfl, eh919, (by decide : 2 + 0 ≤ _), (by decide : 8 + 0 ≤ _)⟩)
  dsimp only [Pt.U, Pt.locs, Pt.cells, Pt.slots] at X922 l922 y922 z922 st922 hQ922
  subst l922 y922 z922
  obtain ⟨rfl, Nq922, eh922⟩ := hQ922
  have N922 := Fr.app N919 Nq922
  have go923 : own_S p e below ST T922 (mkF m 338 #[iv ls, iv a, iv b, iv c', iv d, iv e', iv (4 : Int32), iv s0, iv s1, iv s2, iv s3, iv s4, rv b886, rv bk, iv (s0 &&& (1 : Int32)), iv (s1 &&& (1 : Int32)), iv (s2 &&& (1 : Int32)), iv (s3 &&& (1 : Int32)), iv (0 : Int32), iv (((((s0 &&& (1 : Int32)) + (s1 &&& (1 : Int32))) + (s2 &&& (1 : Int32))) + (s3 &&& (1 : Int32))) + (0 : Int32)), iv ((((((s0 &&& (1 : Int32)) + (s1 &&& (1 : Int32))) + (s2 &&& (1 : Int32))) + (s3 &&& (1 : Int32))) + (0 : Int32)) >>> ((1 : Int32) &&& 31))] [(.int (1 : Int32))]) := fun tt kt => go921 tt (st922 _ kt)
  have go924 : own_S p e below ST T922 (mkF m 346 #[iv ls, iv a, iv b, iv c', iv d, iv e', iv (4 : Int32), iv s0, iv s1, iv s2, iv s3, iv s4, rv b886, rv bk, iv (s0 &&& (1 : Int32)), iv (s1 &&& (1 : Int32)), iv (s2 &&& (1 : Int32)), iv (s3 &&& (1 : Int32)), iv (0 : Int32), iv (((((s0 &&& (1 : Int32)) + (s1 &&& (1 : Int32))) + (s2 &&& (1 : Int32))) + (s3 &&& (1 : Int32))) + (0 : Int32)), iv ((((((s0 &&& (1 : Int32)) + (s1 &&& (1 : Int32))) + (s2 &&& (1 : Int32))) + (s3 &&& (1 : Int32))) + (0 : Int32)) >>> ((1 : Int32) &&& 31))] [(.int (1 : Int32))]) := fun tt kt => go923 tt (by
      refine XS.ifNo X922.here hx rfl (hb hby at_338) rfl ((if0 _ _).trans (feq (by decide : ¬ ((1 : Int32) = (0 : Int32)))).1) ?_
      refine XS.iconst X922.here hx rfl (hb hby at_341) ?_
      refine XS.goto X922.here hx rfl (pc0 := 342) (pc' := 346) rfl (hb hby at_342) (by decide) (by decide) ?_
      exact kt)
  obtain ⟨fs, hr, hrun, hended, hW, hsame⟩ := X922.leave (v := some (.int (1 : Int32))) (fun h => by rw [Bd.returns] at h; cases h)
  refine ⟨_, _, pre0 _ (go924 _ ?_), hrun, hended, _, _, rfl, ?_, ⟨_, rfl⟩, hW, hsame.mono (by decide) (by decide)⟩
  · exact retN X922 hx (t := .boolean) Bd.returns (by simp) (hb hby at_346) hr
  · show Q0k4 Z ls a b c' d e' h0 n0 _ T922.heap _
    rw [eh922]
    exact ⟨rfl, N922⟩
theorem ef0k5 (m : MethodId) (x0 : Int32) (x1 : Int32) (x2 : Int32) (x3 : Int32) (x4 : Int32) (x5 : Int32) : entryFrame m #[(.int x0), (.int x1), (.int x2), (.int x3), (.int x4), (.int x5)] maxLocals = mkF m 0 #[.val (.int x0), .val (.int x1), .val (.int x2), .val (.int x3), .val (.int x4), .val (.int x5), .unset, .unset, .unset, .unset, .unset, .unset, .unset, .unset, .unset, .unset, .unset, .unset, .unset, .unset, .unset] [] := by first | (simp [entryFrame, mkF, argsToLocals, Value.category, maxLocals]; done) | rfl
def Q0k5 (Z : State) (ls : Int32) (a : Int32) (b : Int32) (c' : Int32) (d : Int32) (e' : Int32) (h0 : Heap) (n0 : Nat) (v : Option Value) (h : Heap) (L : List Loc) : Prop := v = some (.int 1) ∧ Fr n0 L
set_option maxRecDepth 65536 in
set_option maxHeartbeats 40000000 in
theorem rm0k5 (l : Launch) (Z : State) (a0 : Array Value) (hw : ∀ d ∈ tables_1, d.before a0 Z = true) (ws : List Jvm.Cond) (ls : Int32) (a : Int32) (b : Int32) (c' : Int32) (d : Int32) (e' : Int32) (h0 : Heap) (n0 : Nat) (Z0 : n0 ≤ h0.size) (hk : (ls &&& 2147483647) % 6 = 5) :
    MetFree l x (head1 (Jvm.Cond.code x code maxLocals ret :: ws) room_1) (fun aa UU => aa = #[(.int ls), (.int a), (.int b), (.int c'), (.int d), (.int e')] ∧ Z.Warmed39 UU.vm ∧ UU.heap = h0) (fun _ _ _ _ _ => True) (fun _ UU oo UU' => ∃ vv LL, oo = .returned vv ∧ Q0k5 Z ls a b c' d e' h0 n0 vv UU'.heap LL ∧ FrameEnd UU oo UU' LL room_1.cells room_1.slots) := by
  have W : ∀ {d : Jvm.Cond} (i : Nat), tables_1[i]? = some d → d.before a0 Z = true := fun i h => hw _ (List.mem_of_getElem? h)
  refine MetFree.of_bodySF (plainFor_of_name pn0) hisR ?_
  intro p e s m args below meth c s₁ Bd hml0 hP hK
  obtain ⟨rfl, hZ, hh⟩ := hP
  have hx := Bd.exec
  have hby := Bd.bytes
  have hml : c.maxLocals = 21 := hml0
  have hown : s.vm.findClass "com/example/declination/declination/engine/Nsga2KeptCountsPinLaw" = some m.cls := findClass_of_methodNamed Bd.named
  have hnm := (name_of_methodNamed Bd.named Bd.method).1
  have X0 : Stand p l e room_1 s m #[(.int ls), (.int a), (.int b), (.int c'), (.int d), (.int e')] below meth c s₁ [] 0 0 := Stand.of_body Bd
  have e0 : s₁.heap = h0 := by rw [← hh, Bd.state]; rfl
  have N0 := Fr.nil n0
  have pre0 : ∀ tt, Steps p.tables e below (s₁.setTop (mkF m 0 #[iv ls, iv a, iv b, iv c', iv d, iv e', .unset, .unset, .unset, .unset, .unset, .unset, .unset, .unset, .unset, .unset, .unset, .unset, .unset, .unset, .unset] [])) tt → Steps p.tables e below (s₁.setTop (entryFrame m #[(.int ls), (.int a), (.int b), (.int c'), (.int d), (.int e')] maxLocals)) tt := fun tt kt => castTop (ef0k5 m ls a b c' d e') kt
  obtain ⟨ST, hST⟩ : ∃ z : State, z = s₁.setTop (mkF m 0 #[iv ls, iv a, iv b, iv c', iv d, iv e', .unset, .unset, .unset, .unset, .unset, .unset, .unset, .unset, .unset, .unset, .unset, .unset, .unset, .unset, .unset] []) := ⟨_, rfl⟩
  rw [← hST] at pre0
  have go925 : own_S p e below ST s₁ (mkF m 9 #[iv ls, iv a, iv b, iv c', iv d, iv e', iv ((ls &&& (2147483647 : Int32)) % (6 : Int32)), .unset, .unset, .unset, .unset, .unset, .unset, .unset, .unset, .unset, .unset, .unset, .unset, .unset, .unset] []) := fun tt kt => (by
      rw [hST]
      show Steps p.tables e below (s₁.setTop (mkF m 0 #[iv ls, iv a, iv b, iv c', iv d, iv e', .unset, .unset, .unset, .unset, .unset, .unset, .unset, .unset, .unset, .unset, .unset, .unset, .unset, .unset, .unset] [])) _
      refine XS.iloadN X0.here hx rfl (hb hby at_0) rfl ?_
      refine X0.ldcInt hx hown (mvT hZ (W 0 rfl)) (g := (mkF m 1 #[iv ls, iv a, iv b, iv c', iv d, iv e', .unset, .unset, .unset, .unset, .unset, .unset, .unset, .unset, .unset, .unset, .unset, .unset, .unset, .unset, .unset] [(.int ls)])) rfl (hb hby at_1) _ ?_
      refine XS.iand X0.here hx rfl (hb hby at_3) rfl ?_
      refine XS.bipush X0.here hx rfl (hb hby at_4) ?_
      refine iremM (g := (mkF m 6 #[iv ls, iv a, iv b, iv c', iv d, iv e', .unset, .unset, .unset, .unset, .unset, .unset, .unset, .unset, .unset, .unset, .unset, .unset, .unset, .unset, .unset] [(.int (6 : Int32)), (.int (ls &&& (2147483647 : Int32)))])) X0 hx rfl (hb hby at_6) rfl (by decide) ?_
      refine XS.istore X0.here hx rfl (hb hby at_7) rfl (l' := #[iv ls, iv a, iv b, iv c', iv d, iv e', iv ((ls &&& (2147483647 : Int32)) % (6 : Int32)), .unset, .unset, .unset, .unset, .unset, .unset, .unset, .unset, .unset, .unset, .unset, .unset, .unset, .unset]) rfl ?_
      exact kt)
  rw [hk] at go925
  have go926 : own_S p e below ST s₁ (mkF m 15 #[iv ls, iv a, iv b, iv c', iv d, iv e', iv (5 : Int32), iv (a &&& (2147483647 : Int32)), .unset, .unset, .unset, .unset, .unset, .unset, .unset, .unset, .unset, .unset, .unset, .unset, .unset] []) := fun tt kt => go925 tt (by
      refine XS.iloadN X0.here hx rfl (hb hby at_9) rfl ?_
      refine X0.ldcInt hx hown (mvT hZ (W 0 rfl)) (g := (mkF m 10 #[iv ls, iv a, iv b, iv c', iv d, iv e', iv (5 : Int32), .unset, .unset, .unset, .unset, .unset, .unset, .unset, .unset, .unset, .unset, .unset, .unset, .unset, .unset] [(.int a)])) rfl (hb hby at_10) _ ?_
      refine XS.iand X0.here hx rfl (hb hby at_12) rfl ?_
      refine XS.istore X0.here hx rfl (hb hby at_13) rfl (l' := #[iv ls, iv a, iv b, iv c', iv d, iv e', iv (5 : Int32), iv (a &&& (2147483647 : Int32)), .unset, .unset, .unset, .unset, .unset, .unset, .unset, .unset, .unset, .unset, .unset, .unset, .unset]) rfl ?_
      exact kt)
  obtain ⟨s0, hs0⟩ : ∃ z : Int32, z = (a &&& (2147483647 : Int32)) := ⟨_, rfl⟩
  rw [← hs0] at go926
  have nn0 := own_nn _ s0 hs0
  have go927 : own_S p e below ST s₁ (mkF m 21 #[iv ls, iv a, iv b, iv c', iv d, iv e', iv (5 : Int32), iv s0, iv (b &&& (2147483647 : Int32)), .unset, .unset, .unset, .unset, .unset, .unset, .unset, .unset, .unset, .unset, .unset, .unset] []) := fun tt kt => go926 tt (by
      refine XS.iloadN X0.here hx rfl (hb hby at_15) rfl ?_
      refine X0.ldcInt hx hown (mvT hZ (W 0 rfl)) (g := (mkF m 16 #[iv ls, iv a, iv b, iv c', iv d, iv e', iv (5 : Int32), iv s0, .unset, .unset, .unset, .unset, .unset, .unset, .unset, .unset, .unset, .unset, .unset, .unset, .unset] [(.int b)])) rfl (hb hby at_16) _ ?_
      refine XS.iand X0.here hx rfl (hb hby at_18) rfl ?_
      refine XS.istore X0.here hx rfl (hb hby at_19) rfl (l' := #[iv ls, iv a, iv b, iv c', iv d, iv e', iv (5 : Int32), iv s0, iv (b &&& (2147483647 : Int32)), .unset, .unset, .unset, .unset, .unset, .unset, .unset, .unset, .unset, .unset, .unset, .unset]) rfl ?_
      exact kt)
  obtain ⟨s1, hs1⟩ : ∃ z : Int32, z = (b &&& (2147483647 : Int32)) := ⟨_, rfl⟩
  rw [← hs1] at go927
  have nn1 := own_nn _ s1 hs1
  have go928 : own_S p e below ST s₁ (mkF m 27 #[iv ls, iv a, iv b, iv c', iv d, iv e', iv (5 : Int32), iv s0, iv s1, iv (c' &&& (2147483647 : Int32)), .unset, .unset, .unset, .unset, .unset, .unset, .unset, .unset, .unset, .unset, .unset] []) := fun tt kt => go927 tt (by
      refine XS.iloadN X0.here hx rfl (hb hby at_21) rfl ?_
      refine X0.ldcInt hx hown (mvT hZ (W 0 rfl)) (g := (mkF m 22 #[iv ls, iv a, iv b, iv c', iv d, iv e', iv (5 : Int32), iv s0, iv s1, .unset, .unset, .unset, .unset, .unset, .unset, .unset, .unset, .unset, .unset, .unset, .unset] [(.int c')])) rfl (hb hby at_22) _ ?_
      refine XS.iand X0.here hx rfl (hb hby at_24) rfl ?_
      refine XS.istore X0.here hx rfl (hb hby at_25) rfl (l' := #[iv ls, iv a, iv b, iv c', iv d, iv e', iv (5 : Int32), iv s0, iv s1, iv (c' &&& (2147483647 : Int32)), .unset, .unset, .unset, .unset, .unset, .unset, .unset, .unset, .unset, .unset, .unset]) rfl ?_
      exact kt)
  obtain ⟨s2, hs2⟩ : ∃ z : Int32, z = (c' &&& (2147483647 : Int32)) := ⟨_, rfl⟩
  rw [← hs2] at go928
  have nn2 := own_nn _ s2 hs2
  have go929 : own_S p e below ST s₁ (mkF m 34 #[iv ls, iv a, iv b, iv c', iv d, iv e', iv (5 : Int32), iv s0, iv s1, iv s2, iv (d &&& (2147483647 : Int32)), .unset, .unset, .unset, .unset, .unset, .unset, .unset, .unset, .unset, .unset] []) := fun tt kt => go928 tt (by
      refine XS.iload X0.here hx rfl (hb hby at_27) rfl ?_
      refine X0.ldcInt hx hown (mvT hZ (W 0 rfl)) (g := (mkF m 29 #[iv ls, iv a, iv b, iv c', iv d, iv e', iv (5 : Int32), iv s0, iv s1, iv s2, .unset, .unset, .unset, .unset, .unset, .unset, .unset, .unset, .unset, .unset, .unset] [(.int d)])) rfl (hb hby at_29) _ ?_
      refine XS.iand X0.here hx rfl (hb hby at_31) rfl ?_
      refine XS.istore X0.here hx rfl (hb hby at_32) rfl (l' := #[iv ls, iv a, iv b, iv c', iv d, iv e', iv (5 : Int32), iv s0, iv s1, iv s2, iv (d &&& (2147483647 : Int32)), .unset, .unset, .unset, .unset, .unset, .unset, .unset, .unset, .unset, .unset]) rfl ?_
      exact kt)
  obtain ⟨s3, hs3⟩ : ∃ z : Int32, z = (d &&& (2147483647 : Int32)) := ⟨_, rfl⟩
  rw [← hs3] at go929
  have nn3 := own_nn _ s3 hs3
  have go930 : own_S p e below ST s₁ (mkF m 41 #[iv ls, iv a, iv b, iv c', iv d, iv e', iv (5 : Int32), iv s0, iv s1, iv s2, iv s3, iv (e' &&& (2147483647 : Int32)), .unset, .unset, .unset, .unset, .unset, .unset, .unset, .unset, .unset] []) := fun tt kt => go929 tt (by
      refine XS.iload X0.here hx rfl (hb hby at_34) rfl ?_
      refine X0.ldcInt hx hown (mvT hZ (W 0 rfl)) (g := (mkF m 36 #[iv ls, iv a, iv b, iv c', iv d, iv e', iv (5 : Int32), iv s0, iv s1, iv s2, iv s3, .unset, .unset, .unset, .unset, .unset, .unset, .unset, .unset, .unset, .unset] [(.int e')])) rfl (hb hby at_36) _ ?_
      refine XS.iand X0.here hx rfl (hb hby at_38) rfl ?_
      refine XS.istore X0.here hx rfl (hb hby at_39) rfl (l' := #[iv ls, iv a, iv b, iv c', iv d, iv e', iv (5 : Int32), iv s0, iv s1, iv s2, iv s3, iv (e' &&& (2147483647 : Int32)), .unset, .unset, .unset, .unset, .unset, .unset, .unset, .unset, .unset]) rfl ?_
      exact kt)
  obtain ⟨s4, hs4⟩ : ∃ z : Int32, z = (e' &&& (2147483647 : Int32)) := ⟨_, rfl⟩
  rw [← hs4] at go930
  have nn4 := own_nn _ s4 hs4
  have go931 : own_S p e below ST s₁ (mkF m 43 #[iv ls, iv a, iv b, iv c', iv d, iv e', iv (5 : Int32), iv s0, iv s1, iv s2, iv s3, iv s4, .unset, .unset, .unset, .unset, .unset, .unset, .unset, .unset, .unset] [(.int (5 : Int32))]) := fun tt kt => go930 tt (by
      refine XS.iload X0.here hx rfl (hb hby at_41) rfl ?_
      exact kt)
  obtain ⟨b932, g932⟩ : ∃ z, z = h0.size := ⟨_, rfl⟩
  obtain ⟨T932, h932, k932, X932, e932, E932, A932, st932⟩ := newP X0 hx hZ (W 1 rfl) e0 (g := (mkF m 43 #[iv ls, iv a, iv b, iv c', iv d, iv e', iv (5 : Int32), iv s0, iv s1, iv s2, iv s3, iv s4, .unset, .unset, .unset, .unset, .unset, .unset, .unset, .unset, .unset] [(.int (5 : Int32))])) rfl (hb hby at_43) rfl (by decide) (cap := 5) (by decide) (by decide) (by decide) (by decide)
  rw [← g932] at A932 st932
  have ge_b932 : n0 ≤ b932 := Nat.le_trans Z0 (Nat.le_of_eq g932.symm)
  have V932 : Arv Z h932 b932 k932 .int (5 : Int32) [(.int (0 : Int32)), (.int (0 : Int32)), (.int (0 : Int32)), (.int (0 : Int32)), (.int (0 : Int32))] (.int (0 : Int32)) := (Arv.new A932 (by decide)).pad (pad_rep [] (.int (0 : Int32)) 5)
  have go933 : own_S p e below ST T932 (mkF m 45 #[iv ls, iv a, iv b, iv c', iv d, iv e', iv (5 : Int32), iv s0, iv s1, iv s2, iv s3, iv s4, .unset, .unset, .unset, .unset, .unset, .unset, .unset, .unset, .unset] [(.ref b932)]) := fun tt kt => go931 tt (st932 _ kt)
  have go934 : own_S p e below ST T932 (mkF m 57 #[iv ls, iv a, iv b, iv c', iv d, iv e', iv (5 : Int32), iv s0, iv s1, iv s2, iv s3, iv s4, rv b932, .unset, .unset, .unset, .unset, .unset, .unset, .unset, .unset] [(.int s0), (.int (0 : Int32)), (.ref b932)]) := fun tt kt => go933 tt (by
      refine XS.astore X932.here hx rfl (hb hby at_45) rfl rfl (l' := #[iv ls, iv a, iv b, iv c', iv d, iv e', iv (5 : Int32), iv s0, iv s1, iv s2, iv s3, iv s4, rv b932, .unset, .unset, .unset, .unset, .unset, .unset, .unset, .unset]) rfl ?_
      refine XS.iload X932.here hx rfl (hb hby at_47) rfl ?_
      refine XS.ifNo X932.here hx rfl (hb hby at_49) rfl ((if0 _ _).trans (tlt (by decide : (0 : Int32) < (5 : Int32))).2.2.2) ?_
      refine XS.aload X932.here hx rfl (hb hby at_52) rfl rfl ?_
      refine XS.iconst X932.here hx rfl (hb hby at_54) ?_
      refine XS.iload X932.here hx rfl (hb hby at_55) rfl ?_
      exact kt)
  obtain ⟨cl935, Ar935, q935, S935, M935, H935, G935⟩ := id V932
  have hin935 : ¬ ((0 : Int32) < 0 ∨ cl935.slots.size ≤ ((0 : Int32)).toNatClampNeg) := inb_of S935 ⟨by decide, by decide⟩
  obtain ⟨T935, h935, X935, e935, W935, st935⟩ := stI X932 hx hZ e932 Ar935 (j := (0 : Int32)) hin935 (g := (mkF m 57 #[iv ls, iv a, iv b, iv c', iv d, iv e', iv (5 : Int32), iv s0, iv s1, iv s2, iv s3, iv s4, rv b932, .unset, .unset, .unset, .unset, .unset, .unset, .unset, .unset] [(.int s0), (.int (0 : Int32)), (.ref b932)])) rfl rfl (hb hby at_57)
  have V935 : Arv Z h935 b932 k932 .int (5 : Int32) [(.int s0), (.int (0 : Int32)), (.int (0 : Int32)), (.int (0 : Int32)), (.int (0 : Int32))] (.int (0 : Int32)) := Arv.set Ar935 q935 S935 M935 H935 G935 rfl W935 0 rfl (Nat.le_of_ble_eq_true rfl)
  have N935 := Fr.snoc X935 N0 ge_b932
  have go936 : own_S p e below ST T935 (mkF m 58 #[iv ls, iv a, iv b, iv c', iv d, iv e', iv (5 : Int32), iv s0, iv s1, iv s2, iv s3, iv s4, rv b932, .unset, .unset, .unset, .unset, .unset, .unset, .unset, .unset] []) := fun tt kt => go934 tt (st935 _ kt)
  have go937 : own_S p e below ST T935 (mkF m 69 #[iv ls, iv a, iv b, iv c', iv d, iv e', iv (5 : Int32), iv s0, iv s1, iv s2, iv s3, iv s4, rv b932, .unset, .unset, .unset, .unset, .unset, .unset, .unset, .unset] [(.int s1), (.int (1 : Int32)), (.ref b932)]) := fun tt kt => go936 tt (by
      refine XS.iload X935.here hx rfl (hb hby at_58) rfl ?_
      refine XS.iconst X935.here hx rfl (hb hby at_60) ?_
      refine XS.icmpNo X935.here hx rfl (hb hby at_61) rfl (tlt (by decide : (1 : Int32) < (5 : Int32))).2.2.2 ?_
      refine XS.aload X935.here hx rfl (hb hby at_64) rfl rfl ?_
      refine XS.iconst X935.here hx rfl (hb hby at_66) ?_
      refine XS.iload X935.here hx rfl (hb hby at_67) rfl ?_
      exact kt)
  obtain ⟨cl938, Ar938, q938, S938, M938, H938, G938⟩ := id V935
  have hin938 : ¬ ((1 : Int32) < 0 ∨ cl938.slots.size ≤ ((1 : Int32)).toNatClampNeg) := inb_of S938 ⟨by decide, by decide⟩
  obtain ⟨T938, h938, X938, e938, W938, st938⟩ := stI X935 hx hZ e935 Ar938 (j := (1 : Int32)) hin938 (g := (mkF m 69 #[iv ls, iv a, iv b, iv c', iv d, iv e', iv (5 : Int32), iv s0, iv s1, iv s2, iv s3, iv s4, rv b932, .unset, .unset, .unset, .unset, .unset, .unset, .unset, .unset] [(.int s1), (.int (1 : Int32)), (.ref b932)])) rfl rfl (hb hby at_69)
  have V938 : Arv Z h938 b932 k932 .int (5 : Int32) [(.int s0), (.int s1), (.int (0 : Int32)), (.int (0 : Int32)), (.int (0 : Int32))] (.int (0 : Int32)) := Arv.set Ar938 q938 S938 M938 H938 G938 rfl W938 1 rfl (Nat.le_of_ble_eq_true rfl)
  have N938 := Fr.snoc X938 N935 ge_b932
  have go939 : own_S p e below ST T938 (mkF m 70 #[iv ls, iv a, iv b, iv c', iv d, iv e', iv (5 : Int32), iv s0, iv s1, iv s2, iv s3, iv s4, rv b932, .unset, .unset, .unset, .unset, .unset, .unset, .unset, .unset] []) := fun tt kt => go937 tt (st938 _ kt)
  have go940 : own_S p e below ST T938 (mkF m 81 #[iv ls, iv a, iv b, iv c', iv d, iv e', iv (5 : Int32), iv s0, iv s1, iv s2, iv s3, iv s4, rv b932, .unset, .unset, .unset, .unset, .unset, .unset, .unset, .unset] [(.int s2), (.int (2 : Int32)), (.ref b932)]) := fun tt kt => go939 tt (by
      refine XS.iload X938.here hx rfl (hb hby at_70) rfl ?_
      refine XS.iconst X938.here hx rfl (hb hby at_72) ?_
      refine XS.icmpNo X938.here hx rfl (hb hby at_73) rfl (tlt (by decide : (2 : Int32) < (5 : Int32))).2.2.2 ?_
      refine XS.aload X938.here hx rfl (hb hby at_76) rfl rfl ?_
      refine XS.iconst X938.here hx rfl (hb hby at_78) ?_
      refine XS.iload X938.here hx rfl (hb hby at_79) rfl ?_
      exact kt)
  obtain ⟨cl941, Ar941, q941, S941, M941, H941, G941⟩ := id V938
  have hin941 : ¬ ((2 : Int32) < 0 ∨ cl941.slots.size ≤ ((2 : Int32)).toNatClampNeg) := inb_of S941 ⟨by decide, by decide⟩
  obtain ⟨T941, h941, X941, e941, W941, st941⟩ := stI X938 hx hZ e938 Ar941 (j := (2 : Int32)) hin941 (g := (mkF m 81 #[iv ls, iv a, iv b, iv c', iv d, iv e', iv (5 : Int32), iv s0, iv s1, iv s2, iv s3, iv s4, rv b932, .unset, .unset, .unset, .unset, .unset, .unset, .unset, .unset] [(.int s2), (.int (2 : Int32)), (.ref b932)])) rfl rfl (hb hby at_81)
  have V941 : Arv Z h941 b932 k932 .int (5 : Int32) [(.int s0), (.int s1), (.int s2), (.int (0 : Int32)), (.int (0 : Int32))] (.int (0 : Int32)) := Arv.set Ar941 q941 S941 M941 H941 G941 rfl W941 2 rfl (Nat.le_of_ble_eq_true rfl)
  have N941 := Fr.snoc X941 N938 ge_b932
  have go942 : own_S p e below ST T941 (mkF m 82 #[iv ls, iv a, iv b, iv c', iv d, iv e', iv (5 : Int32), iv s0, iv s1, iv s2, iv s3, iv s4, rv b932, .unset, .unset, .unset, .unset, .unset, .unset, .unset, .unset] []) := fun tt kt => go940 tt (st941 _ kt)
  have go943 : own_S p e below ST T941 (mkF m 93 #[iv ls, iv a, iv b, iv c', iv d, iv e', iv (5 : Int32), iv s0, iv s1, iv s2, iv s3, iv s4, rv b932, .unset, .unset, .unset, .unset, .unset, .unset, .unset, .unset] [(.int s3), (.int (3 : Int32)), (.ref b932)]) := fun tt kt => go942 tt (by
      refine XS.iload X941.here hx rfl (hb hby at_82) rfl ?_
      refine XS.iconst X941.here hx rfl (hb hby at_84) ?_
      refine XS.icmpNo X941.here hx rfl (hb hby at_85) rfl (tlt (by decide : (3 : Int32) < (5 : Int32))).2.2.2 ?_
      refine XS.aload X941.here hx rfl (hb hby at_88) rfl rfl ?_
      refine XS.iconst X941.here hx rfl (hb hby at_90) ?_
      refine XS.iload X941.here hx rfl (hb hby at_91) rfl ?_
      exact kt)
  obtain ⟨cl944, Ar944, q944, S944, M944, H944, G944⟩ := id V941
  have hin944 : ¬ ((3 : Int32) < 0 ∨ cl944.slots.size ≤ ((3 : Int32)).toNatClampNeg) := inb_of S944 ⟨by decide, by decide⟩
  obtain ⟨T944, h944, X944, e944, W944, st944⟩ := stI X941 hx hZ e941 Ar944 (j := (3 : Int32)) hin944 (g := (mkF m 93 #[iv ls, iv a, iv b, iv c', iv d, iv e', iv (5 : Int32), iv s0, iv s1, iv s2, iv s3, iv s4, rv b932, .unset, .unset, .unset, .unset, .unset, .unset, .unset, .unset] [(.int s3), (.int (3 : Int32)), (.ref b932)])) rfl rfl (hb hby at_93)
  have V944 : Arv Z h944 b932 k932 .int (5 : Int32) [(.int s0), (.int s1), (.int s2), (.int s3), (.int (0 : Int32))] (.int (0 : Int32)) := Arv.set Ar944 q944 S944 M944 H944 G944 rfl W944 3 rfl (Nat.le_of_ble_eq_true rfl)
  have N944 := Fr.snoc X944 N941 ge_b932
  have go945 : own_S p e below ST T944 (mkF m 94 #[iv ls, iv a, iv b, iv c', iv d, iv e', iv (5 : Int32), iv s0, iv s1, iv s2, iv s3, iv s4, rv b932, .unset, .unset, .unset, .unset, .unset, .unset, .unset, .unset] []) := fun tt kt => go943 tt (st944 _ kt)
  have go946 : own_S p e below ST T944 (mkF m 105 #[iv ls, iv a, iv b, iv c', iv d, iv e', iv (5 : Int32), iv s0, iv s1, iv s2, iv s3, iv s4, rv b932, .unset, .unset, .unset, .unset, .unset, .unset, .unset, .unset] [(.int s4), (.int (4 : Int32)), (.ref b932)]) := fun tt kt => go945 tt (by
      refine XS.iload X944.here hx rfl (hb hby at_94) rfl ?_
      refine XS.iconst X944.here hx rfl (hb hby at_96) ?_
      refine XS.icmpNo X944.here hx rfl (hb hby at_97) rfl (tlt (by decide : (4 : Int32) < (5 : Int32))).2.2.2 ?_
      refine XS.aload X944.here hx rfl (hb hby at_100) rfl rfl ?_
      refine XS.iconst X944.here hx rfl (hb hby at_102) ?_
      refine XS.iload X944.here hx rfl (hb hby at_103) rfl ?_
      exact kt)
  obtain ⟨cl947, Ar947, q947, S947, M947, H947, G947⟩ := id V944
  have hin947 : ¬ ((4 : Int32) < 0 ∨ cl947.slots.size ≤ ((4 : Int32)).toNatClampNeg) := inb_of S947 ⟨by decide, by decide⟩
  obtain ⟨T947, h947, X947, e947, W947, st947⟩ := stI X944 hx hZ e944 Ar947 (j := (4 : Int32)) hin947 (g := (mkF m 105 #[iv ls, iv a, iv b, iv c', iv d, iv e', iv (5 : Int32), iv s0, iv s1, iv s2, iv s3, iv s4, rv b932, .unset, .unset, .unset, .unset, .unset, .unset, .unset, .unset] [(.int s4), (.int (4 : Int32)), (.ref b932)])) rfl rfl (hb hby at_105)
  have V947 : Arv Z h947 b932 k932 .int (5 : Int32) [(.int s0), (.int s1), (.int s2), (.int s3), (.int s4)] (.int (0 : Int32)) := Arv.set Ar947 q947 S947 M947 H947 G947 rfl W947 4 rfl (Nat.le_of_ble_eq_true rfl)
  have N947 := Fr.snoc X947 N944 ge_b932
  have go948 : own_S p e below ST T947 (mkF m 106 #[iv ls, iv a, iv b, iv c', iv d, iv e', iv (5 : Int32), iv s0, iv s1, iv s2, iv s3, iv s4, rv b932, .unset, .unset, .unset, .unset, .unset, .unset, .unset, .unset] []) := fun tt kt => go946 tt (st947 _ kt)
  have go949 : own_S p e below ST T947 (mkF m 108 #[iv ls, iv a, iv b, iv c', iv d, iv e', iv (5 : Int32), iv s0, iv s1, iv s2, iv s3, iv s4, rv b932, .unset, .unset, .unset, .unset, .unset, .unset, .unset, .unset] [(.ref b932)]) := fun tt kt => go948 tt (by
      refine XS.aload X947.here hx rfl (hb hby at_106) rfl rfl ?_
      exact kt)
  have zs951 := (Nat.le_trans (Nat.le_trans (Nat.le_trans (Nat.le_trans (Nat.le_trans (Nat.le_trans Z0 E932.1) (Keep.of_wr W935).1) (Keep.of_wr W938).1) (Keep.of_wr W941).1) (Keep.of_wr W944).1) (Keep.of_wr W947).1)
  obtain ⟨_, _, ⟨T950, L950, k950, n950⟩, -, X950, ⟨Lc950, hQ950, l950, y950, z950⟩, st950⟩ := Jvm.LawKit.callS X947 hx (y := (⟨"com/example/declination/declination/engine/Nsga2", "keptCounts", "([I)[I"⟩ : MethodName)) hown (mvT hZ (W 2 rfl)) (mvT hZ (W 3 rfl)) (mvT hZ (W 4 rfl)) (mvT hZ (W 5 rfl)) (by decide) (backOf (W := 0) (rm1k5 l Z a0 hw [] b932 _ s0 s1 s2 s3 s4 h947 n0 zs951 V947) hZ (W 5 rfl) (W 4 rfl) (by decide) (by decide)) (g := (mkF m 108 #[iv ls, iv a, iv b, iv c', iv d, iv e', iv (5 : Int32), iv s0, iv s1, iv s2, iv s3, iv s4, rv b932, .unset, .unset, .unset, .unset, .unset, .unset, .unset, .unset] [(.ref b932)])) rfl (by rw [hml]; rfl) (argsL := [(.ref b932)]) (rest := []) (lenOf pd96 rfl) rfl (by show 2 * 0 + _ ≤ _; exact Nat.le_of_eq rfl) (hb hby at_108) (fun _ _ => ⟨rfl, e947, (by decide : 1 + 1 ≤ _), (by decide : 5 + 5 ≤ _)⟩)
  dsimp only [Pt.U, Pt.locs, Pt.cells, Pt.slots] at X950 l950 y950 z950 st950 hQ950
  subst l950 y950 z950
  obtain ⟨bk, kk, od, e0, e1, e2, e3, e4, q1, q2, q3, q4, q5, rfl, Nq950, K950, Vk950, hod, he0, hq1, he1, hq2, he2, hq3, he3, hq4, he4, hq5⟩ := hQ950
  have N950 := Fr.app N947 Nq950
  have go952 : own_S p e below ST T950 (mkF m 111 #[iv ls, iv a, iv b, iv c', iv d, iv e', iv (5 : Int32), iv s0, iv s1, iv s2, iv s3, iv s4, rv b932, .unset, .unset, .unset, .unset, .unset, .unset, .unset, .unset] [(.ref bk)]) := fun tt kt => go949 tt (st950 _ kt)
  have go953 : own_S p e below ST T950 (mkF m 120 #[iv ls, iv a, iv b, iv c', iv d, iv e', iv (5 : Int32), iv s0, iv s1, iv s2, iv s3, iv s4, rv b932, rv bk, .unset, .unset, .unset, .unset, .unset, .unset, .unset] [(.ref bk)]) := fun tt kt => go952 tt (by
      refine XS.astore X950.here hx rfl (hb hby at_111) rfl rfl (l' := #[iv ls, iv a, iv b, iv c', iv d, iv e', iv (5 : Int32), iv s0, iv s1, iv s2, iv s3, iv s4, rv b932, rv bk, .unset, .unset, .unset, .unset, .unset, .unset, .unset]) rfl ?_
      refine XS.aload X950.here hx rfl (hb hby at_113) rfl rfl ?_
      refine XS.ifnullNo X950.here hx rfl (hb hby at_115) rfl ?_
      refine XS.aload X950.here hx rfl (hb hby at_118) rfl rfl ?_
      exact kt)
  obtain ⟨cl954, Ar954, q954, S954, M954, H954, G954⟩ := id Vk950
  have go955 : own_S p e below ST T950 (mkF m 121 #[iv ls, iv a, iv b, iv c', iv d, iv e', iv (5 : Int32), iv s0, iv s1, iv s2, iv s3, iv s4, rv b932, rv bk, .unset, .unset, .unset, .unset, .unset, .unset, .unset] [(.int (5 : Int32))]) := fun tt kt => go953 tt (by
      refine X950.arraylength hx (by exact Ar954.1) (State.isArrayOf_alike hZ.alike Ar954.2.1) (g := (mkF m 120 #[iv ls, iv a, iv b, iv c', iv d, iv e', iv (5 : Int32), iv s0, iv s1, iv s2, iv s3, iv s4, rv b932, rv bk, .unset, .unset, .unset, .unset, .unset, .unset, .unset] [(.ref bk)])) rfl rfl (hb hby at_120) _ ?_
      rw [len_of S954 M954]
      exact kt)
  have go956 : own_S p e below ST T950 (mkF m 229 #[iv ls, iv a, iv b, iv c', iv d, iv e', iv (5 : Int32), iv s0, iv s1, iv s2, iv s3, iv s4, rv b932, rv bk, iv (s0 &&& (1 : Int32)), iv (s1 &&& (1 : Int32)), iv (s2 &&& (1 : Int32)), iv (s3 &&& (1 : Int32)), iv (s4 &&& (1 : Int32)), iv (((((s0 &&& (1 : Int32)) + (s1 &&& (1 : Int32))) + (s2 &&& (1 : Int32))) + (s3 &&& (1 : Int32))) + (s4 &&& (1 : Int32))), iv ((((((s0 &&& (1 : Int32)) + (s1 &&& (1 : Int32))) + (s2 &&& (1 : Int32))) + (s3 &&& (1 : Int32))) + (s4 &&& (1 : Int32))) >>> ((1 : Int32) &&& 31))] []) := fun tt kt => go955 tt (by
      refine XS.iload X950.here hx rfl (hb hby at_121) rfl ?_
      refine XS.icmpYes X950.here hx rfl (pc0 := 123) (pc' := 128) rfl (hb hby at_123) rfl (teq (by decide : (5 : Int32) = (5 : Int32))).1 (by decide) (by decide) ?_
      refine XS.iload X950.here hx rfl (hb hby at_128) rfl ?_
      refine XS.ifNo X950.here hx rfl (hb hby at_130) rfl ((if0 _ _).trans (tlt (by decide : (0 : Int32) < (5 : Int32))).2.2.2) ?_
      refine XS.iload X950.here hx rfl (hb hby at_133) rfl ?_
      refine XS.iconst X950.here hx rfl (hb hby at_135) ?_
      show Steps p.tables e below (T950.setTop (mkF m 136 #[iv ls, iv a, iv b, iv c', iv d, iv e', iv (5 : Int32), iv s0, iv s1, iv s2, iv s3, iv s4, rv b932, rv bk, .unset, .unset, .unset, .unset, .unset, .unset, .unset] [(.int (1 : Int32)), (.int s0)])) _
      refine XS.iand X950.here hx rfl (hb hby at_136) rfl ?_
      refine XS.goto X950.here hx rfl (pc0 := 137) (pc' := 141) rfl (hb hby at_137) (by decide) (by decide) ?_
      refine XS.istore X950.here hx rfl (hb hby at_141) rfl (l' := #[iv ls, iv a, iv b, iv c', iv d, iv e', iv (5 : Int32), iv s0, iv s1, iv s2, iv s3, iv s4, rv b932, rv bk, iv (s0 &&& (1 : Int32)), .unset, .unset, .unset, .unset, .unset, .unset]) rfl ?_
      refine XS.iload X950.here hx rfl (hb hby at_143) rfl ?_
      refine XS.iconst X950.here hx rfl (hb hby at_145) ?_
      refine XS.icmpNo X950.here hx rfl (hb hby at_146) rfl (tlt (by decide : (1 : Int32) < (5 : Int32))).2.2.2 ?_
      show Steps p.tables e below (T950.setTop (mkF m 149 #[iv ls, iv a, iv b, iv c', iv d, iv e', iv (5 : Int32), iv s0, iv s1, iv s2, iv s3, iv s4, rv b932, rv bk, iv (s0 &&& (1 : Int32)), .unset, .unset, .unset, .unset, .unset, .unset] [])) _
      refine XS.iload X950.here hx rfl (hb hby at_149) rfl ?_
      refine XS.iconst X950.here hx rfl (hb hby at_151) ?_
      refine XS.iand X950.here hx rfl (hb hby at_152) rfl ?_
      refine XS.goto X950.here hx rfl (pc0 := 153) (pc' := 157) rfl (hb hby at_153) (by decide) (by decide) ?_
      refine XS.istore X950.here hx rfl (hb hby at_157) rfl (l' := #[iv ls, iv a, iv b, iv c', iv d, iv e', iv (5 : Int32), iv s0, iv s1, iv s2, iv s3, iv s4, rv b932, rv bk, iv (s0 &&& (1 : Int32)), iv (s1 &&& (1 : Int32)), .unset, .unset, .unset, .unset, .unset]) rfl ?_
      refine XS.iload X950.here hx rfl (hb hby at_159) rfl ?_
      show Steps p.tables e below (T950.setTop (mkF m 161 #[iv ls, iv a, iv b, iv c', iv d, iv e', iv (5 : Int32), iv s0, iv s1, iv s2, iv s3, iv s4, rv b932, rv bk, iv (s0 &&& (1 : Int32)), iv (s1 &&& (1 : Int32)), .unset, .unset, .unset, .unset, .unset] [(.int (5 : Int32))])) _
      refine XS.iconst X950.here hx rfl (hb hby at_161) ?_
      refine XS.icmpNo X950.here hx rfl (hb hby at_162) rfl (tlt (by decide : (2 : Int32) < (5 : Int32))).2.2.2 ?_
      refine XS.iload X950.here hx rfl (hb hby at_165) rfl ?_
      refine XS.iconst X950.here hx rfl (hb hby at_167) ?_
      refine XS.iand X950.here hx rfl (hb hby at_168) rfl ?_
      refine XS.goto X950.here hx rfl (pc0 := 169) (pc' := 173) rfl (hb hby at_169) (by decide) (by decide) ?_
      show Steps p.tables e below (T950.setTop (mkF m 173 #[iv ls, iv a, iv b, iv c', iv d, iv e', iv (5 : Int32), iv s0, iv s1, iv s2, iv s3, iv s4, rv b932, rv bk, iv (s0 &&& (1 : Int32)), iv (s1 &&& (1 : Int32)), .unset, .unset, .unset, .unset, .unset] [(.int (s2 &&& (1 : Int32)))])) _
      refine XS.istore X950.here hx rfl (hb hby at_173) rfl (l' := #[iv ls, iv a, iv b, iv c', iv d, iv e', iv (5 : Int32), iv s0, iv s1, iv s2, iv s3, iv s4, rv b932, rv bk, iv (s0 &&& (1 : Int32)), iv (s1 &&& (1 : Int32)), iv (s2 &&& (1 : Int32)), .unset, .unset, .unset, .unset]) rfl ?_
      refine XS.iload X950.here hx rfl (hb hby at_175) rfl ?_
      refine XS.iconst X950.here hx rfl (hb hby at_177) ?_
      refine XS.icmpNo X950.here hx rfl (hb hby at_178) rfl (tlt (by decide : (3 : Int32) < (5 : Int32))).2.2.2 ?_
      refine XS.iload X950.here hx rfl (hb hby at_181) rfl ?_
      refine XS.iconst X950.here hx rfl (hb hby at_183) ?_
      show Steps p.tables e below (T950.setTop (mkF m 184 #[iv ls, iv a, iv b, iv c', iv d, iv e', iv (5 : Int32), iv s0, iv s1, iv s2, iv s3, iv s4, rv b932, rv bk, iv (s0 &&& (1 : Int32)), iv (s1 &&& (1 : Int32)), iv (s2 &&& (1 : Int32)), .unset, .unset, .unset, .unset] [(.int (1 : Int32)), (.int s3)])) _
      refine XS.iand X950.here hx rfl (hb hby at_184) rfl ?_
      refine XS.goto X950.here hx rfl (pc0 := 185) (pc' := 189) rfl (hb hby at_185) (by decide) (by decide) ?_
      refine XS.istore X950.here hx rfl (hb hby at_189) rfl (l' := #[iv ls, iv a, iv b, iv c', iv d, iv e', iv (5 : Int32), iv s0, iv s1, iv s2, iv s3, iv s4, rv b932, rv bk, iv (s0 &&& (1 : Int32)), iv (s1 &&& (1 : Int32)), iv (s2 &&& (1 : Int32)), iv (s3 &&& (1 : Int32)), .unset, .unset, .unset]) rfl ?_
      refine XS.iload X950.here hx rfl (hb hby at_191) rfl ?_
      refine XS.iconst X950.here hx rfl (hb hby at_193) ?_
      refine XS.icmpNo X950.here hx rfl (hb hby at_194) rfl (tlt (by decide : (4 : Int32) < (5 : Int32))).2.2.2 ?_
      show Steps p.tables e below (T950.setTop (mkF m 197 #[iv ls, iv a, iv b, iv c', iv d, iv e', iv (5 : Int32), iv s0, iv s1, iv s2, iv s3, iv s4, rv b932, rv bk, iv (s0 &&& (1 : Int32)), iv (s1 &&& (1 : Int32)), iv (s2 &&& (1 : Int32)), iv (s3 &&& (1 : Int32)), .unset, .unset, .unset] [])) _
      refine XS.iload X950.here hx rfl (hb hby at_197) rfl ?_
      refine XS.iconst X950.here hx rfl (hb hby at_199) ?_
      refine XS.iand X950.here hx rfl (hb hby at_200) rfl ?_
      refine XS.goto X950.here hx rfl (pc0 := 201) (pc' := 205) rfl (hb hby at_201) (by decide) (by decide) ?_
      refine XS.istore X950.here hx rfl (hb hby at_205) rfl (l' := #[iv ls, iv a, iv b, iv c', iv d, iv e', iv (5 : Int32), iv s0, iv s1, iv s2, iv s3, iv s4, rv b932, rv bk, iv (s0 &&& (1 : Int32)), iv (s1 &&& (1 : Int32)), iv (s2 &&& (1 : Int32)), iv (s3 &&& (1 : Int32)), iv (s4 &&& (1 : Int32)), .unset, .unset]) rfl ?_
      refine XS.iload X950.here hx rfl (hb hby at_207) rfl ?_
      show Steps p.tables e below (T950.setTop (mkF m 209 #[iv ls, iv a, iv b, iv c', iv d, iv e', iv (5 : Int32), iv s0, iv s1, iv s2, iv s3, iv s4, rv b932, rv bk, iv (s0 &&& (1 : Int32)), iv (s1 &&& (1 : Int32)), iv (s2 &&& (1 : Int32)), iv (s3 &&& (1 : Int32)), iv (s4 &&& (1 : Int32)), .unset, .unset] [(.int (s0 &&& (1 : Int32)))])) _
      refine XS.iload X950.here hx rfl (hb hby at_209) rfl ?_
      refine XS.iadd X950.here hx rfl (hb hby at_211) rfl ?_
      refine XS.iload X950.here hx rfl (hb hby at_212) rfl ?_
      refine XS.iadd X950.here hx rfl (hb hby at_214) rfl ?_
      refine XS.iload X950.here hx rfl (hb hby at_215) rfl ?_
      refine XS.iadd X950.here hx rfl (hb hby at_217) rfl ?_
      show Steps p.tables e below (T950.setTop (mkF m 218 #[iv ls, iv a, iv b, iv c', iv d, iv e', iv (5 : Int32), iv s0, iv s1, iv s2, iv s3, iv s4, rv b932, rv bk, iv (s0 &&& (1 : Int32)), iv (s1 &&& (1 : Int32)), iv (s2 &&& (1 : Int32)), iv (s3 &&& (1 : Int32)), iv (s4 &&& (1 : Int32)), .unset, .unset] [(.int ((((s0 &&& (1 : Int32)) + (s1 &&& (1 : Int32))) + (s2 &&& (1 : Int32))) + (s3 &&& (1 : Int32))))])) _
      refine XS.iload X950.here hx rfl (hb hby at_218) rfl ?_
      refine XS.iadd X950.here hx rfl (hb hby at_220) rfl ?_
      refine XS.istore X950.here hx rfl (hb hby at_221) rfl (l' := #[iv ls, iv a, iv b, iv c', iv d, iv e', iv (5 : Int32), iv s0, iv s1, iv s2, iv s3, iv s4, rv b932, rv bk, iv (s0 &&& (1 : Int32)), iv (s1 &&& (1 : Int32)), iv (s2 &&& (1 : Int32)), iv (s3 &&& (1 : Int32)), iv (s4 &&& (1 : Int32)), iv (((((s0 &&& (1 : Int32)) + (s1 &&& (1 : Int32))) + (s2 &&& (1 : Int32))) + (s3 &&& (1 : Int32))) + (s4 &&& (1 : Int32))), .unset]) rfl ?_
      refine XS.iload X950.here hx rfl (hb hby at_223) rfl ?_
      refine XS.iconst X950.here hx rfl (hb hby at_225) ?_
      refine XS.ishr X950.here hx rfl (hb hby at_226) rfl ?_
      show Steps p.tables e below (T950.setTop (mkF m 227 #[iv ls, iv a, iv b, iv c', iv d, iv e', iv (5 : Int32), iv s0, iv s1, iv s2, iv s3, iv s4, rv b932, rv bk, iv (s0 &&& (1 : Int32)), iv (s1 &&& (1 : Int32)), iv (s2 &&& (1 : Int32)), iv (s3 &&& (1 : Int32)), iv (s4 &&& (1 : Int32)), iv (((((s0 &&& (1 : Int32)) + (s1 &&& (1 : Int32))) + (s2 &&& (1 : Int32))) + (s3 &&& (1 : Int32))) + (s4 &&& (1 : Int32))), .unset] [(.int ((((((s0 &&& (1 : Int32)) + (s1 &&& (1 : Int32))) + (s2 &&& (1 : Int32))) + (s3 &&& (1 : Int32))) + (s4 &&& (1 : Int32))) >>> ((1 : Int32) &&& 31)))])) _
      refine XS.istore X950.here hx rfl (hb hby at_227) rfl (l' := #[iv ls, iv a, iv b, iv c', iv d, iv e', iv (5 : Int32), iv s0, iv s1, iv s2, iv s3, iv s4, rv b932, rv bk, iv (s0 &&& (1 : Int32)), iv (s1 &&& (1 : Int32)), iv (s2 &&& (1 : Int32)), iv (s3 &&& (1 : Int32)), iv (s4 &&& (1 : Int32)), iv (((((s0 &&& (1 : Int32)) + (s1 &&& (1 : Int32))) + (s2 &&& (1 : Int32))) + (s3 &&& (1 : Int32))) + (s4 &&& (1 : Int32))), iv ((((((s0 &&& (1 : Int32)) + (s1 &&& (1 : Int32))) + (s2 &&& (1 : Int32))) + (s3 &&& (1 : Int32))) + (s4 &&& (1 : Int32))) >>> ((1 : Int32) &&& 31))]) rfl ?_
      exact kt)
  have u0 : 0 ≤ (0 : Int32).toInt ∧ (0 : Int32).toInt ≤ 0 := by decide
  have u1 : 0 ≤ ((0 : Int32) + (s0 &&& 1)).toInt ∧ ((0 : Int32) + (s0 &&& 1)).toInt ≤ 1 := own_up (0 : Int32) s0 0 u0 (by decide)
  have u2 : 0 ≤ (((0 : Int32) + (s0 &&& 1)) + (s1 &&& 1)).toInt ∧ (((0 : Int32) + (s0 &&& 1)) + (s1 &&& 1)).toInt ≤ 2 := own_up ((0 : Int32) + (s0 &&& 1)) s1 1 u1 (by decide)
  have u3 : 0 ≤ ((((0 : Int32) + (s0 &&& 1)) + (s1 &&& 1)) + (s2 &&& 1)).toInt ∧ ((((0 : Int32) + (s0 &&& 1)) + (s1 &&& 1)) + (s2 &&& 1)).toInt ≤ 3 := own_up (((0 : Int32) + (s0 &&& 1)) + (s1 &&& 1)) s2 2 u2 (by decide)
  have u4 : 0 ≤ (((((0 : Int32) + (s0 &&& 1)) + (s1 &&& 1)) + (s2 &&& 1)) + (s3 &&& 1)).toInt ∧ (((((0 : Int32) + (s0 &&& 1)) + (s1 &&& 1)) + (s2 &&& 1)) + (s3 &&& 1)).toInt ≤ 4 := own_up ((((0 : Int32) + (s0 &&& 1)) + (s1 &&& 1)) + (s2 &&& 1)) s3 3 u3 (by decide)
  have u5 : 0 ≤ ((((((0 : Int32) + (s0 &&& 1)) + (s1 &&& 1)) + (s2 &&& 1)) + (s3 &&& 1)) + (s4 &&& 1)).toInt ∧ ((((((0 : Int32) + (s0 &&& 1)) + (s1 &&& 1)) + (s2 &&& 1)) + (s3 &&& 1)) + (s4 &&& 1)).toInt ≤ 5 := own_up (((((0 : Int32) + (s0 &&& 1)) + (s1 &&& 1)) + (s2 &&& 1)) + (s3 &&& 1)) s4 4 u4 (by decide)
  have hod' : od = ((((((0 : Int32) + (s0 &&& 1)) + (s1 &&& 1)) + (s2 &&& 1)) + (s3 &&& 1)) + (s4 &&& 1)) := by rw [hod, own_rem s0 nn0, own_rem s1 nn1, own_rem s2 nn2, own_rem s3 nn3, own_rem s4 nn4]
  have hH : od / (2 : Int32) = ((((((s0 &&& (1 : Int32)) + (s1 &&& (1 : Int32))) + (s2 &&& (1 : Int32))) + (s3 &&& (1 : Int32))) + (s4 &&& (1 : Int32))) >>> ((1 : Int32) &&& 31)) := by rw [hod', own_half _ u5.1]; simp only [Int32.add_zero, Int32.zero_add]
  have hqq0 : (0 : Int32) = (0 : Int32) := by rfl
  have hx0 : e0 = (s0 >>> ((1 : Int32) &&& 31)) + own_inc (0 : Int32) ((((((s0 &&& (1 : Int32)) + (s1 &&& (1 : Int32))) + (s2 &&& (1 : Int32))) + (s3 &&& (1 : Int32))) + (s4 &&& (1 : Int32))) >>> ((1 : Int32) &&& 31)) (s0 &&& (1 : Int32)) := by rw [he0, own_ve _ _ _ nn0, hH, hqq0]
  have hqq1 : q1 = (s0 &&& (1 : Int32)) := by rw [hq1, own_se _ _ _ nn0, hqq0]; simp only [Int32.zero_add]
  have hx1 : e1 = (s1 >>> ((1 : Int32) &&& 31)) + own_inc (s0 &&& (1 : Int32)) ((((((s0 &&& (1 : Int32)) + (s1 &&& (1 : Int32))) + (s2 &&& (1 : Int32))) + (s3 &&& (1 : Int32))) + (s4 &&& (1 : Int32))) >>> ((1 : Int32) &&& 31)) (s1 &&& (1 : Int32)) := by rw [he1, own_ve _ _ _ nn1, hH, hqq1]
  have hqq2 : q2 = ((s0 &&& (1 : Int32)) + (s1 &&& (1 : Int32))) := by rw [hq2, own_se _ _ _ nn1, hqq1]
  have hx2 : e2 = (s2 >>> ((1 : Int32) &&& 31)) + own_inc ((s0 &&& (1 : Int32)) + (s1 &&& (1 : Int32))) ((((((s0 &&& (1 : Int32)) + (s1 &&& (1 : Int32))) + (s2 &&& (1 : Int32))) + (s3 &&& (1 : Int32))) + (s4 &&& (1 : Int32))) >>> ((1 : Int32) &&& 31)) (s2 &&& (1 : Int32)) := by rw [he2, own_ve _ _ _ nn2, hH, hqq2]
  have hqq3 : q3 = (((s0 &&& (1 : Int32)) + (s1 &&& (1 : Int32))) + (s2 &&& (1 : Int32))) := by rw [hq3, own_se _ _ _ nn2, hqq2]
  have hx3 : e3 = (s3 >>> ((1 : Int32) &&& 31)) + own_inc (((s0 &&& (1 : Int32)) + (s1 &&& (1 : Int32))) + (s2 &&& (1 : Int32))) ((((((s0 &&& (1 : Int32)) + (s1 &&& (1 : Int32))) + (s2 &&& (1 : Int32))) + (s3 &&& (1 : Int32))) + (s4 &&& (1 : Int32))) >>> ((1 : Int32) &&& 31)) (s3 &&& (1 : Int32)) := by rw [he3, own_ve _ _ _ nn3, hH, hqq3]
  have hqq4 : q4 = ((((s0 &&& (1 : Int32)) + (s1 &&& (1 : Int32))) + (s2 &&& (1 : Int32))) + (s3 &&& (1 : Int32))) := by rw [hq4, own_se _ _ _ nn3, hqq3]
  have hx4 : e4 = (s4 >>> ((1 : Int32) &&& 31)) + own_inc ((((s0 &&& (1 : Int32)) + (s1 &&& (1 : Int32))) + (s2 &&& (1 : Int32))) + (s3 &&& (1 : Int32))) ((((((s0 &&& (1 : Int32)) + (s1 &&& (1 : Int32))) + (s2 &&& (1 : Int32))) + (s3 &&& (1 : Int32))) + (s4 &&& (1 : Int32))) >>> ((1 : Int32) &&& 31)) (s4 &&& (1 : Int32)) := by rw [he4, own_ve _ _ _ nn4, hH, hqq4]
  have go957 : own_S p e below ST T950 (mkF m 241 #[iv ls, iv a, iv b, iv c', iv d, iv e', iv (5 : Int32), iv s0, iv s1, iv s2, iv s3, iv s4, rv b932, rv bk, iv (s0 &&& (1 : Int32)), iv (s1 &&& (1 : Int32)), iv (s2 &&& (1 : Int32)), iv (s3 &&& (1 : Int32)), iv (s4 &&& (1 : Int32)), iv (((((s0 &&& (1 : Int32)) + (s1 &&& (1 : Int32))) + (s2 &&& (1 : Int32))) + (s3 &&& (1 : Int32))) + (s4 &&& (1 : Int32))), iv ((((((s0 &&& (1 : Int32)) + (s1 &&& (1 : Int32))) + (s2 &&& (1 : Int32))) + (s3 &&& (1 : Int32))) + (s4 &&& (1 : Int32))) >>> ((1 : Int32) &&& 31))] [(.int ((((((s0 &&& (1 : Int32)) + (s1 &&& (1 : Int32))) + (s2 &&& (1 : Int32))) + (s3 &&& (1 : Int32))) + (s4 &&& (1 : Int32))) >>> ((1 : Int32) &&& 31))), (.int (s0 &&& (1 : Int32))), (.int (0 : Int32)), (.int s0), (.int (5 : Int32)), (.int (0 : Int32)), (.ref bk)]) := fun tt kt => go956 tt (by
      refine XS.aload X950.here hx rfl (hb hby at_229) rfl rfl ?_
      refine XS.iconst X950.here hx rfl (hb hby at_231) ?_
      refine XS.iload X950.here hx rfl (hb hby at_232) rfl ?_
      refine XS.iload X950.here hx rfl (hb hby at_234) rfl ?_
      refine XS.iconst X950.here hx rfl (hb hby at_236) ?_
      refine XS.iload X950.here hx rfl (hb hby at_237) rfl ?_
      show Steps p.tables e below (T950.setTop (mkF m 239 #[iv ls, iv a, iv b, iv c', iv d, iv e', iv (5 : Int32), iv s0, iv s1, iv s2, iv s3, iv s4, rv b932, rv bk, iv (s0 &&& (1 : Int32)), iv (s1 &&& (1 : Int32)), iv (s2 &&& (1 : Int32)), iv (s3 &&& (1 : Int32)), iv (s4 &&& (1 : Int32)), iv (((((s0 &&& (1 : Int32)) + (s1 &&& (1 : Int32))) + (s2 &&& (1 : Int32))) + (s3 &&& (1 : Int32))) + (s4 &&& (1 : Int32))), iv ((((((s0 &&& (1 : Int32)) + (s1 &&& (1 : Int32))) + (s2 &&& (1 : Int32))) + (s3 &&& (1 : Int32))) + (s4 &&& (1 : Int32))) >>> ((1 : Int32) &&& 31))] [(.int (s0 &&& (1 : Int32))), (.int (0 : Int32)), (.int s0), (.int (5 : Int32)), (.int (0 : Int32)), (.ref bk)])) _
      refine XS.iload X950.here hx rfl (hb hby at_239) rfl ?_
      exact kt)
  have zs959 := (Nat.le_trans zs951 K950.1)
  obtain ⟨_, _, ⟨T958, L958, k958, n958⟩, -, X958, ⟨Lc958, hQ958, l958, y958, z958⟩, st958⟩ := Jvm.LawKit.callS X950 hx (y := (⟨"com/example/declination/declination/engine/Nsga2KeptCountsPinLaw", "slot", "([IIIIIII)Z"⟩ : MethodName)) hown (mvT hZ (W 6 rfl)) (mvT hZ (W 7 rfl)) (mvT hZ (W 8 rfl)) (mvT hZ (W 9 rfl)) (by decide) (backOf (W := 0) (rm2l l Z a0 hw [] bk (0 : Int32) (5 : Int32) s0 (0 : Int32) (s0 &&& (1 : Int32)) ((((((s0 &&& (1 : Int32)) + (s1 &&& (1 : Int32))) + (s2 &&& (1 : Int32))) + (s3 &&& (1 : Int32))) + (s4 &&& (1 : Int32))) >>> ((1 : Int32) &&& 31)) _ _ _ e0 T950.heap n0 zs959 (by decide) (by decide) Vk950 rfl hx0) hZ (W 9 rfl) (W 8 rfl) (by decide) (by decide)) (g := (mkF m 241 #[iv ls, iv a, iv b, iv c', iv d, iv e', iv (5 : Int32), iv s0, iv s1, iv s2, iv s3, iv s4, rv b932, rv bk, iv (s0 &&& (1 : Int32)), iv (s1 &&& (1 : Int32)), iv (s2 &&& (1 : Int32)), iv (s3 &&& (1 : Int32)), iv (s4 &&& (1 : Int32)), iv (((((s0 &&& (1 : Int32)) + (s1 &&& (1 : Int32))) + (s2 &&& (1 : Int32))) + (s3 &&& (1 : Int32))) + (s4 &&& (1 : Int32))), iv ((((((s0 &&& (1 : Int32)) + (s1 &&& (1 : Int32))) + (s2 &&& (1 : Int32))) + (s3 &&& (1 : Int32))) + (s4 &&& (1 : Int32))) >>> ((1 : Int32) &&& 31))] [(.int ((((((s0 &&& (1 : Int32)) + (s1 &&& (1 : Int32))) + (s2 &&& (1 : Int32))) + (s3 &&& (1 : Int32))) + (s4 &&& (1 : Int32))) >>> ((1 : Int32) &&& 31))), (.int (s0 &&& (1 : Int32))), (.int (0 : Int32)), (.int s0), (.int (5 : Int32)), (.int (0 : Int32)), (.ref bk)])) rfl (by rw [hml]; rfl) (argsL := [(.ref bk), (.int (0 : Int32)), (.int (5 : Int32)), (.int s0), (.int (0 : Int32)), (.int (s0 &&& (1 : Int32))), (.int ((((((s0 &&& (1 : Int32)) + (s1 &&& (1 : Int32))) + (s2 &&& (1 : Int32))) + (s3 &&& (1 : Int32))) + (s4 &&& (1 : Int32))) >>> ((1 : Int32) &&& 31)))]) (rest := []) (lenOf pd97 rfl) rfl (by show 2 * 0 + _ ≤ _; exact Nat.le_of_eq rfl) (hb hby at_241) (fun _ _ => ⟨rfl, rfl, (by decide : 2 + 0 ≤ _), (by decide : 10 + 0 ≤ _)⟩)
  dsimp only [Pt.U, Pt.locs, Pt.cells, Pt.slots] at X958 l958 y958 z958 st958 hQ958
  subst l958 y958 z958
  obtain ⟨rfl, Nq958, eh958⟩ := hQ958
  have N958 := Fr.app N950 Nq958
  have go960 : own_S p e below ST T958 (mkF m 244 #[iv ls, iv a, iv b, iv c', iv d, iv e', iv (5 : Int32), iv s0, iv s1, iv s2, iv s3, iv s4, rv b932, rv bk, iv (s0 &&& (1 : Int32)), iv (s1 &&& (1 : Int32)), iv (s2 &&& (1 : Int32)), iv (s3 &&& (1 : Int32)), iv (s4 &&& (1 : Int32)), iv (((((s0 &&& (1 : Int32)) + (s1 &&& (1 : Int32))) + (s2 &&& (1 : Int32))) + (s3 &&& (1 : Int32))) + (s4 &&& (1 : Int32))), iv ((((((s0 &&& (1 : Int32)) + (s1 &&& (1 : Int32))) + (s2 &&& (1 : Int32))) + (s3 &&& (1 : Int32))) + (s4 &&& (1 : Int32))) >>> ((1 : Int32) &&& 31))] [(.int (1 : Int32))]) := fun tt kt => go957 tt (st958 _ kt)
  have go961 : own_S p e below ST T958 (mkF m 260 #[iv ls, iv a, iv b, iv c', iv d, iv e', iv (5 : Int32), iv s0, iv s1, iv s2, iv s3, iv s4, rv b932, rv bk, iv (s0 &&& (1 : Int32)), iv (s1 &&& (1 : Int32)), iv (s2 &&& (1 : Int32)), iv (s3 &&& (1 : Int32)), iv (s4 &&& (1 : Int32)), iv (((((s0 &&& (1 : Int32)) + (s1 &&& (1 : Int32))) + (s2 &&& (1 : Int32))) + (s3 &&& (1 : Int32))) + (s4 &&& (1 : Int32))), iv ((((((s0 &&& (1 : Int32)) + (s1 &&& (1 : Int32))) + (s2 &&& (1 : Int32))) + (s3 &&& (1 : Int32))) + (s4 &&& (1 : Int32))) >>> ((1 : Int32) &&& 31))] [(.int ((((((s0 &&& (1 : Int32)) + (s1 &&& (1 : Int32))) + (s2 &&& (1 : Int32))) + (s3 &&& (1 : Int32))) + (s4 &&& (1 : Int32))) >>> ((1 : Int32) &&& 31))), (.int (s1 &&& (1 : Int32))), (.int (s0 &&& (1 : Int32))), (.int s1), (.int (5 : Int32)), (.int (1 : Int32)), (.ref bk)]) := fun tt kt => go960 tt (by
      refine XS.ifNo X958.here hx rfl (hb hby at_244) rfl ((if0 _ _).trans (feq (by decide : ¬ ((1 : Int32) = (0 : Int32)))).1) ?_
      refine XS.aload X958.here hx rfl (hb hby at_247) rfl rfl ?_
      refine XS.iconst X958.here hx rfl (hb hby at_249) ?_
      refine XS.iload X958.here hx rfl (hb hby at_250) rfl ?_
      refine XS.iload X958.here hx rfl (hb hby at_252) rfl ?_
      refine XS.iload X958.here hx rfl (hb hby at_254) rfl ?_
      show Steps p.tables e below (T958.setTop (mkF m 256 #[iv ls, iv a, iv b, iv c', iv d, iv e', iv (5 : Int32), iv s0, iv s1, iv s2, iv s3, iv s4, rv b932, rv bk, iv (s0 &&& (1 : Int32)), iv (s1 &&& (1 : Int32)), iv (s2 &&& (1 : Int32)), iv (s3 &&& (1 : Int32)), iv (s4 &&& (1 : Int32)), iv (((((s0 &&& (1 : Int32)) + (s1 &&& (1 : Int32))) + (s2 &&& (1 : Int32))) + (s3 &&& (1 : Int32))) + (s4 &&& (1 : Int32))), iv ((((((s0 &&& (1 : Int32)) + (s1 &&& (1 : Int32))) + (s2 &&& (1 : Int32))) + (s3 &&& (1 : Int32))) + (s4 &&& (1 : Int32))) >>> ((1 : Int32) &&& 31))] [(.int (s0 &&& (1 : Int32))), (.int s1), (.int (5 : Int32)), (.int (1 : Int32)), (.ref bk)])) _
      refine XS.iload X958.here hx rfl (hb hby at_256) rfl ?_
      refine XS.iload X958.here hx rfl (hb hby at_258) rfl ?_
      exact kt)
  obtain ⟨_, _, ⟨T962, L962, k962, n962⟩, -, X962, ⟨Lc962, hQ962, l962, y962, z962⟩, st962⟩ := Jvm.LawKit.callS X958 hx (y := (⟨"com/example/declination/declination/engine/Nsga2KeptCountsPinLaw", "slot", "([IIIIIII)Z"⟩ : MethodName)) hown (mvT hZ (W 6 rfl)) (mvT hZ (W 7 rfl)) (mvT hZ (W 8 rfl)) (mvT hZ (W 9 rfl)) (by decide) (backOf (W := 0) (rm2l l Z a0 hw [] bk (1 : Int32) (5 : Int32) s1 (s0 &&& (1 : Int32)) (s1 &&& (1 : Int32)) ((((((s0 &&& (1 : Int32)) + (s1 &&& (1 : Int32))) + (s2 &&& (1 : Int32))) + (s3 &&& (1 : Int32))) + (s4 &&& (1 : Int32))) >>> ((1 : Int32) &&& 31)) _ _ _ e1 T950.heap n0 zs959 (by decide) (by decide) Vk950 rfl hx1) hZ (W 9 rfl) (W 8 rfl) (by decide) (by decide)) (g := (mkF m 260 #[iv ls, iv a, iv b, iv c', iv d, iv e', iv (5 : Int32), iv s0, iv s1, iv s2, iv s3, iv s4, rv b932, rv bk, iv (s0 &&& (1 : Int32)), iv (s1 &&& (1 : Int32)), iv (s2 &&& (1 : Int32)), iv (s3 &&& (1 : Int32)), iv (s4 &&& (1 : Int32)), iv (((((s0 &&& (1 : Int32)) + (s1 &&& (1 : Int32))) + (s2 &&& (1 : Int32))) + (s3 &&& (1 : Int32))) + (s4 &&& (1 : Int32))), iv ((((((s0 &&& (1 : Int32)) + (s1 &&& (1 : Int32))) + (s2 &&& (1 : Int32))) + (s3 &&& (1 : Int32))) + (s4 &&& (1 : Int32))) >>> ((1 : Int32) &&& 31))] [(.int ((((((s0 &&& (1 : Int32)) + (s1 &&& (1 : Int32))) + (s2 &&& (1 : Int32))) + (s3 &&& (1 : Int32))) + (s4 &&& (1 : Int32))) >>> ((1 : Int32) &&& 31))), (.int (s1 &&& (1 : Int32))), (.int (s0 &&& (1 : Int32))), (.int s1), (.int (5 : Int32)), (.int (1 : Int32)), (.ref bk)])) rfl (by rw [hml]; rfl) (argsL := [(.ref bk), (.int (1 : Int32)), (.int (5 : Int32)), (.int s1), (.int (s0 &&& (1 : Int32))), (.int (s1 &&& (1 : Int32))), (.int ((((((s0 &&& (1 : Int32)) + (s1 &&& (1 : Int32))) + (s2 &&& (1 : Int32))) + (s3 &&& (1 : Int32))) + (s4 &&& (1 : Int32))) >>> ((1 : Int32) &&& 31)))]) (rest := []) (lenOf pd97 rfl) rfl (by show 2 * 0 + _ ≤ _; exact Nat.le_of_eq rfl) (hb hby at_260) (fun _ _ => ⟨rfl, eh958, (by decide : 2 + 0 ≤ _), (by decide : 10 + 0 ≤ _)⟩)
  dsimp only [Pt.U, Pt.locs, Pt.cells, Pt.slots] at X962 l962 y962 z962 st962 hQ962
  subst l962 y962 z962
  obtain ⟨rfl, Nq962, eh962⟩ := hQ962
  have N962 := Fr.app N958 Nq962
  have go963 : own_S p e below ST T962 (mkF m 263 #[iv ls, iv a, iv b, iv c', iv d, iv e', iv (5 : Int32), iv s0, iv s1, iv s2, iv s3, iv s4, rv b932, rv bk, iv (s0 &&& (1 : Int32)), iv (s1 &&& (1 : Int32)), iv (s2 &&& (1 : Int32)), iv (s3 &&& (1 : Int32)), iv (s4 &&& (1 : Int32)), iv (((((s0 &&& (1 : Int32)) + (s1 &&& (1 : Int32))) + (s2 &&& (1 : Int32))) + (s3 &&& (1 : Int32))) + (s4 &&& (1 : Int32))), iv ((((((s0 &&& (1 : Int32)) + (s1 &&& (1 : Int32))) + (s2 &&& (1 : Int32))) + (s3 &&& (1 : Int32))) + (s4 &&& (1 : Int32))) >>> ((1 : Int32) &&& 31))] [(.int (1 : Int32))]) := fun tt kt => go961 tt (st962 _ kt)
  have go964 : own_S p e below ST T962 (mkF m 282 #[iv ls, iv a, iv b, iv c', iv d, iv e', iv (5 : Int32), iv s0, iv s1, iv s2, iv s3, iv s4, rv b932, rv bk, iv (s0 &&& (1 : Int32)), iv (s1 &&& (1 : Int32)), iv (s2 &&& (1 : Int32)), iv (s3 &&& (1 : Int32)), iv (s4 &&& (1 : Int32)), iv (((((s0 &&& (1 : Int32)) + (s1 &&& (1 : Int32))) + (s2 &&& (1 : Int32))) + (s3 &&& (1 : Int32))) + (s4 &&& (1 : Int32))), iv ((((((s0 &&& (1 : Int32)) + (s1 &&& (1 : Int32))) + (s2 &&& (1 : Int32))) + (s3 &&& (1 : Int32))) + (s4 &&& (1 : Int32))) >>> ((1 : Int32) &&& 31))] [(.int ((((((s0 &&& (1 : Int32)) + (s1 &&& (1 : Int32))) + (s2 &&& (1 : Int32))) + (s3 &&& (1 : Int32))) + (s4 &&& (1 : Int32))) >>> ((1 : Int32) &&& 31))), (.int (s2 &&& (1 : Int32))), (.int ((s0 &&& (1 : Int32)) + (s1 &&& (1 : Int32)))), (.int s2), (.int (5 : Int32)), (.int (2 : Int32)), (.ref bk)]) := fun tt kt => go963 tt (by
      refine XS.ifNo X962.here hx rfl (hb hby at_263) rfl ((if0 _ _).trans (feq (by decide : ¬ ((1 : Int32) = (0 : Int32)))).1) ?_
      refine XS.aload X962.here hx rfl (hb hby at_266) rfl rfl ?_
      refine XS.iconst X962.here hx rfl (hb hby at_268) ?_
      refine XS.iload X962.here hx rfl (hb hby at_269) rfl ?_
      refine XS.iload X962.here hx rfl (hb hby at_271) rfl ?_
      refine XS.iload X962.here hx rfl (hb hby at_273) rfl ?_
      show Steps p.tables e below (T962.setTop (mkF m 275 #[iv ls, iv a, iv b, iv c', iv d, iv e', iv (5 : Int32), iv s0, iv s1, iv s2, iv s3, iv s4, rv b932, rv bk, iv (s0 &&& (1 : Int32)), iv (s1 &&& (1 : Int32)), iv (s2 &&& (1 : Int32)), iv (s3 &&& (1 : Int32)), iv (s4 &&& (1 : Int32)), iv (((((s0 &&& (1 : Int32)) + (s1 &&& (1 : Int32))) + (s2 &&& (1 : Int32))) + (s3 &&& (1 : Int32))) + (s4 &&& (1 : Int32))), iv ((((((s0 &&& (1 : Int32)) + (s1 &&& (1 : Int32))) + (s2 &&& (1 : Int32))) + (s3 &&& (1 : Int32))) + (s4 &&& (1 : Int32))) >>> ((1 : Int32) &&& 31))] [(.int (s0 &&& (1 : Int32))), (.int s2), (.int (5 : Int32)), (.int (2 : Int32)), (.ref bk)])) _
      refine XS.iload X962.here hx rfl (hb hby at_275) rfl ?_
      refine XS.iadd X962.here hx rfl (hb hby at_277) rfl ?_
      refine XS.iload X962.here hx rfl (hb hby at_278) rfl ?_
      refine XS.iload X962.here hx rfl (hb hby at_280) rfl ?_
      exact kt)
  obtain ⟨_, _, ⟨T965, L965, k965, n965⟩, -, X965, ⟨Lc965, hQ965, l965, y965, z965⟩, st965⟩ := Jvm.LawKit.callS X962 hx (y := (⟨"com/example/declination/declination/engine/Nsga2KeptCountsPinLaw", "slot", "([IIIIIII)Z"⟩ : MethodName)) hown (mvT hZ (W 6 rfl)) (mvT hZ (W 7 rfl)) (mvT hZ (W 8 rfl)) (mvT hZ (W 9 rfl)) (by decide) (backOf (W := 0) (rm2l l Z a0 hw [] bk (2 : Int32) (5 : Int32) s2 ((s0 &&& (1 : Int32)) + (s1 &&& (1 : Int32))) (s2 &&& (1 : Int32)) ((((((s0 &&& (1 : Int32)) + (s1 &&& (1 : Int32))) + (s2 &&& (1 : Int32))) + (s3 &&& (1 : Int32))) + (s4 &&& (1 : Int32))) >>> ((1 : Int32) &&& 31)) _ _ _ e2 T950.heap n0 zs959 (by decide) (by decide) Vk950 rfl hx2) hZ (W 9 rfl) (W 8 rfl) (by decide) (by decide)) (g := (mkF m 282 #[iv ls, iv a, iv b, iv c', iv d, iv e', iv (5 : Int32), iv s0, iv s1, iv s2, iv s3, iv s4, rv b932, rv bk, iv (s0 &&& (1 : Int32)), iv (s1 &&& (1 : Int32)), iv (s2 &&& (1 : Int32)), iv (s3 &&& (1 : Int32)), iv (s4 &&& (1 : Int32)), iv (((((s0 &&& (1 : Int32)) + (s1 &&& (1 : Int32))) + (s2 &&& (1 : Int32))) + (s3 &&& (1 : Int32))) + (s4 &&& (1 : Int32))), iv ((((((s0 &&& (1 : Int32)) + (s1 &&& (1 : Int32))) + (s2 &&& (1 : Int32))) + (s3 &&& (1 : Int32))) + (s4 &&& (1 : Int32))) >>> ((1 : Int32) &&& 31))] [(.int ((((((s0 &&& (1 : Int32)) + (s1 &&& (1 : Int32))) + (s2 &&& (1 : Int32))) + (s3 &&& (1 : Int32))) + (s4 &&& (1 : Int32))) >>> ((1 : Int32) &&& 31))), (.int (s2 &&& (1 : Int32))), (.int ((s0 &&& (1 : Int32)) + (s1 &&& (1 : Int32)))), (.int s2), (.int (5 : Int32)), (.int (2 : Int32)), (.ref bk)])) rfl (by rw [hml]; rfl) (argsL := [(.ref bk), (.int (2 : Int32)), (.int (5 : Int32)), (.int s2), (.int ((s0 &&& (1 : Int32)) + (s1 &&& (1 : Int32)))), (.int (s2 &&& (1 : Int32))), (.int ((((((s0 &&& (1 : Int32)) + (s1 &&& (1 : Int32))) + (s2 &&& (1 : Int32))) + (s3 &&& (1 : Int32))) + (s4 &&& (1 : Int32))) >>> ((1 : Int32) &&& 31)))]) (rest := []) (lenOf pd97 rfl) rfl (by show 2 * 0 + _ ≤ _; exact Nat.le_of_eq rfl) (hb hby at_282) (fun _ _ => ⟨rfl, eh962, (by decide : 2 + 0 ≤ _), (by decide : 10 + 0 ≤ _)⟩)
  dsimp only [Pt.U, Pt.locs, Pt.cells, Pt.slots] at X965 l965 y965 z965 st965 hQ965
  subst l965 y965 z965
  obtain ⟨rfl, Nq965, eh965⟩ := hQ965
  have N965 := Fr.app N962 Nq965
  have go966 : own_S p e below ST T965 (mkF m 285 #[iv ls, iv a, iv b, iv c', iv d, iv e', iv (5 : Int32), iv s0, iv s1, iv s2, iv s3, iv s4, rv b932, rv bk, iv (s0 &&& (1 : Int32)), iv (s1 &&& (1 : Int32)), iv (s2 &&& (1 : Int32)), iv (s3 &&& (1 : Int32)), iv (s4 &&& (1 : Int32)), iv (((((s0 &&& (1 : Int32)) + (s1 &&& (1 : Int32))) + (s2 &&& (1 : Int32))) + (s3 &&& (1 : Int32))) + (s4 &&& (1 : Int32))), iv ((((((s0 &&& (1 : Int32)) + (s1 &&& (1 : Int32))) + (s2 &&& (1 : Int32))) + (s3 &&& (1 : Int32))) + (s4 &&& (1 : Int32))) >>> ((1 : Int32) &&& 31))] [(.int (1 : Int32))]) := fun tt kt => go964 tt (st965 _ kt)
  have go967 : own_S p e below ST T965 (mkF m 307 #[iv ls, iv a, iv b, iv c', iv d, iv e', iv (5 : Int32), iv s0, iv s1, iv s2, iv s3, iv s4, rv b932, rv bk, iv (s0 &&& (1 : Int32)), iv (s1 &&& (1 : Int32)), iv (s2 &&& (1 : Int32)), iv (s3 &&& (1 : Int32)), iv (s4 &&& (1 : Int32)), iv (((((s0 &&& (1 : Int32)) + (s1 &&& (1 : Int32))) + (s2 &&& (1 : Int32))) + (s3 &&& (1 : Int32))) + (s4 &&& (1 : Int32))), iv ((((((s0 &&& (1 : Int32)) + (s1 &&& (1 : Int32))) + (s2 &&& (1 : Int32))) + (s3 &&& (1 : Int32))) + (s4 &&& (1 : Int32))) >>> ((1 : Int32) &&& 31))] [(.int ((((((s0 &&& (1 : Int32)) + (s1 &&& (1 : Int32))) + (s2 &&& (1 : Int32))) + (s3 &&& (1 : Int32))) + (s4 &&& (1 : Int32))) >>> ((1 : Int32) &&& 31))), (.int (s3 &&& (1 : Int32))), (.int (((s0 &&& (1 : Int32)) + (s1 &&& (1 : Int32))) + (s2 &&& (1 : Int32)))), (.int s3), (.int (5 : Int32)), (.int (3 : Int32)), (.ref bk)]) := fun tt kt => go966 tt (by
      refine XS.ifNo X965.here hx rfl (hb hby at_285) rfl ((if0 _ _).trans (feq (by decide : ¬ ((1 : Int32) = (0 : Int32)))).1) ?_
      refine XS.aload X965.here hx rfl (hb hby at_288) rfl rfl ?_
      refine XS.iconst X965.here hx rfl (hb hby at_290) ?_
      refine XS.iload X965.here hx rfl (hb hby at_291) rfl ?_
      refine XS.iload X965.here hx rfl (hb hby at_293) rfl ?_
      refine XS.iload X965.here hx rfl (hb hby at_295) rfl ?_
      show Steps p.tables e below (T965.setTop (mkF m 297 #[iv ls, iv a, iv b, iv c', iv d, iv e', iv (5 : Int32), iv s0, iv s1, iv s2, iv s3, iv s4, rv b932, rv bk, iv (s0 &&& (1 : Int32)), iv (s1 &&& (1 : Int32)), iv (s2 &&& (1 : Int32)), iv (s3 &&& (1 : Int32)), iv (s4 &&& (1 : Int32)), iv (((((s0 &&& (1 : Int32)) + (s1 &&& (1 : Int32))) + (s2 &&& (1 : Int32))) + (s3 &&& (1 : Int32))) + (s4 &&& (1 : Int32))), iv ((((((s0 &&& (1 : Int32)) + (s1 &&& (1 : Int32))) + (s2 &&& (1 : Int32))) + (s3 &&& (1 : Int32))) + (s4 &&& (1 : Int32))) >>> ((1 : Int32) &&& 31))] [(.int (s0 &&& (1 : Int32))), (.int s3), (.int (5 : Int32)), (.int (3 : Int32)), (.ref bk)])) _
      refine XS.iload X965.here hx rfl (hb hby at_297) rfl ?_
      refine XS.iadd X965.here hx rfl (hb hby at_299) rfl ?_
      refine XS.iload X965.here hx rfl (hb hby at_300) rfl ?_
      refine XS.iadd X965.here hx rfl (hb hby at_302) rfl ?_
      refine XS.iload X965.here hx rfl (hb hby at_303) rfl ?_
      refine XS.iload X965.here hx rfl (hb hby at_305) rfl ?_
      exact kt)
  obtain ⟨_, _, ⟨T968, L968, k968, n968⟩, -, X968, ⟨Lc968, hQ968, l968, y968, z968⟩, st968⟩ := Jvm.LawKit.callS X965 hx (y := (⟨"com/example/declination/declination/engine/Nsga2KeptCountsPinLaw", "slot", "([IIIIIII)Z"⟩ : MethodName)) hown (mvT hZ (W 6 rfl)) (mvT hZ (W 7 rfl)) (mvT hZ (W 8 rfl)) (mvT hZ (W 9 rfl)) (by decide) (backOf (W := 0) (rm2l l Z a0 hw [] bk (3 : Int32) (5 : Int32) s3 (((s0 &&& (1 : Int32)) + (s1 &&& (1 : Int32))) + (s2 &&& (1 : Int32))) (s3 &&& (1 : Int32)) ((((((s0 &&& (1 : Int32)) + (s1 &&& (1 : Int32))) + (s2 &&& (1 : Int32))) + (s3 &&& (1 : Int32))) + (s4 &&& (1 : Int32))) >>> ((1 : Int32) &&& 31)) _ _ _ e3 T950.heap n0 zs959 (by decide) (by decide) Vk950 rfl hx3) hZ (W 9 rfl) (W 8 rfl) (by decide) (by decide)) (g := (mkF m 307 #[iv ls, iv a, iv b, iv c', iv d, iv e', iv (5 : Int32), iv s0, iv s1, iv s2, iv s3, iv s4, rv b932, rv bk, iv (s0 &&& (1 : Int32)), iv (s1 &&& (1 : Int32)), iv (s2 &&& (1 : Int32)), iv (s3 &&& (1 : Int32)), iv (s4 &&& (1 : Int32)), iv (((((s0 &&& (1 : Int32)) + (s1 &&& (1 : Int32))) + (s2 &&& (1 : Int32))) + (s3 &&& (1 : Int32))) + (s4 &&& (1 : Int32))), iv ((((((s0 &&& (1 : Int32)) + (s1 &&& (1 : Int32))) + (s2 &&& (1 : Int32))) + (s3 &&& (1 : Int32))) + (s4 &&& (1 : Int32))) >>> ((1 : Int32) &&& 31))] [(.int ((((((s0 &&& (1 : Int32)) + (s1 &&& (1 : Int32))) + (s2 &&& (1 : Int32))) + (s3 &&& (1 : Int32))) + (s4 &&& (1 : Int32))) >>> ((1 : Int32) &&& 31))), (.int (s3 &&& (1 : Int32))), (.int (((s0 &&& (1 : Int32)) + (s1 &&& (1 : Int32))) + (s2 &&& (1 : Int32)))), (.int s3), (.int (5 : Int32)), (.int (3 : Int32)), (.ref bk)])) rfl (by rw [hml]; rfl) (argsL := [(.ref bk), (.int (3 : Int32)), (.int (5 : Int32)), (.int s3), (.int (((s0 &&& (1 : Int32)) + (s1 &&& (1 : Int32))) + (s2 &&& (1 : Int32)))), (.int (s3 &&& (1 : Int32))), (.int ((((((s0 &&& (1 : Int32)) + (s1 &&& (1 : Int32))) + (s2 &&& (1 : Int32))) + (s3 &&& (1 : Int32))) + (s4 &&& (1 : Int32))) >>> ((1 : Int32) &&& 31)))]) (rest := []) (lenOf pd97 rfl) rfl (by show 2 * 0 + _ ≤ _; exact Nat.le_of_eq rfl) (hb hby at_307) (fun _ _ => ⟨rfl, eh965, (by decide : 2 + 0 ≤ _), (by decide : 10 + 0 ≤ _)⟩)
  dsimp only [Pt.U, Pt.locs, Pt.cells, Pt.slots] at X968 l968 y968 z968 st968 hQ968
  subst l968 y968 z968
  obtain ⟨rfl, Nq968, eh968⟩ := hQ968
  have N968 := Fr.app N965 Nq968
  have go969 : own_S p e below ST T968 (mkF m 310 #[iv ls, iv a, iv b, iv c', iv d, iv e', iv (5 : Int32), iv s0, iv s1, iv s2, iv s3, iv s4, rv b932, rv bk, iv (s0 &&& (1 : Int32)), iv (s1 &&& (1 : Int32)), iv (s2 &&& (1 : Int32)), iv (s3 &&& (1 : Int32)), iv (s4 &&& (1 : Int32)), iv (((((s0 &&& (1 : Int32)) + (s1 &&& (1 : Int32))) + (s2 &&& (1 : Int32))) + (s3 &&& (1 : Int32))) + (s4 &&& (1 : Int32))), iv ((((((s0 &&& (1 : Int32)) + (s1 &&& (1 : Int32))) + (s2 &&& (1 : Int32))) + (s3 &&& (1 : Int32))) + (s4 &&& (1 : Int32))) >>> ((1 : Int32) &&& 31))] [(.int (1 : Int32))]) := fun tt kt => go967 tt (st968 _ kt)
  have go970 : own_S p e below ST T968 (mkF m 335 #[iv ls, iv a, iv b, iv c', iv d, iv e', iv (5 : Int32), iv s0, iv s1, iv s2, iv s3, iv s4, rv b932, rv bk, iv (s0 &&& (1 : Int32)), iv (s1 &&& (1 : Int32)), iv (s2 &&& (1 : Int32)), iv (s3 &&& (1 : Int32)), iv (s4 &&& (1 : Int32)), iv (((((s0 &&& (1 : Int32)) + (s1 &&& (1 : Int32))) + (s2 &&& (1 : Int32))) + (s3 &&& (1 : Int32))) + (s4 &&& (1 : Int32))), iv ((((((s0 &&& (1 : Int32)) + (s1 &&& (1 : Int32))) + (s2 &&& (1 : Int32))) + (s3 &&& (1 : Int32))) + (s4 &&& (1 : Int32))) >>> ((1 : Int32) &&& 31))] [(.int ((((((s0 &&& (1 : Int32)) + (s1 &&& (1 : Int32))) + (s2 &&& (1 : Int32))) + (s3 &&& (1 : Int32))) + (s4 &&& (1 : Int32))) >>> ((1 : Int32) &&& 31))), (.int (s4 &&& (1 : Int32))), (.int ((((s0 &&& (1 : Int32)) + (s1 &&& (1 : Int32))) + (s2 &&& (1 : Int32))) + (s3 &&& (1 : Int32)))), (.int s4), (.int (5 : Int32)), (.int (4 : Int32)), (.ref bk)]) := fun tt kt => go969 tt (by
      refine XS.ifNo X968.here hx rfl (hb hby at_310) rfl ((if0 _ _).trans (feq (by decide : ¬ ((1 : Int32) = (0 : Int32)))).1) ?_
      refine XS.aload X968.here hx rfl (hb hby at_313) rfl rfl ?_
      refine XS.iconst X968.here hx rfl (hb hby at_315) ?_
      refine XS.iload X968.here hx rfl (hb hby at_316) rfl ?_
      refine XS.iload X968.here hx rfl (hb hby at_318) rfl ?_
      refine XS.iload X968.here hx rfl (hb hby at_320) rfl ?_
      show Steps p.tables e below (T968.setTop (mkF m 322 #[iv ls, iv a, iv b, iv c', iv d, iv e', iv (5 : Int32), iv s0, iv s1, iv s2, iv s3, iv s4, rv b932, rv bk, iv (s0 &&& (1 : Int32)), iv (s1 &&& (1 : Int32)), iv (s2 &&& (1 : Int32)), iv (s3 &&& (1 : Int32)), iv (s4 &&& (1 : Int32)), iv (((((s0 &&& (1 : Int32)) + (s1 &&& (1 : Int32))) + (s2 &&& (1 : Int32))) + (s3 &&& (1 : Int32))) + (s4 &&& (1 : Int32))), iv ((((((s0 &&& (1 : Int32)) + (s1 &&& (1 : Int32))) + (s2 &&& (1 : Int32))) + (s3 &&& (1 : Int32))) + (s4 &&& (1 : Int32))) >>> ((1 : Int32) &&& 31))] [(.int (s0 &&& (1 : Int32))), (.int s4), (.int (5 : Int32)), (.int (4 : Int32)), (.ref bk)])) _
      refine XS.iload X968.here hx rfl (hb hby at_322) rfl ?_
      refine XS.iadd X968.here hx rfl (hb hby at_324) rfl ?_
      refine XS.iload X968.here hx rfl (hb hby at_325) rfl ?_
      refine XS.iadd X968.here hx rfl (hb hby at_327) rfl ?_
      refine XS.iload X968.here hx rfl (hb hby at_328) rfl ?_
      refine XS.iadd X968.here hx rfl (hb hby at_330) rfl ?_
      show Steps p.tables e below (T968.setTop (mkF m 331 #[iv ls, iv a, iv b, iv c', iv d, iv e', iv (5 : Int32), iv s0, iv s1, iv s2, iv s3, iv s4, rv b932, rv bk, iv (s0 &&& (1 : Int32)), iv (s1 &&& (1 : Int32)), iv (s2 &&& (1 : Int32)), iv (s3 &&& (1 : Int32)), iv (s4 &&& (1 : Int32)), iv (((((s0 &&& (1 : Int32)) + (s1 &&& (1 : Int32))) + (s2 &&& (1 : Int32))) + (s3 &&& (1 : Int32))) + (s4 &&& (1 : Int32))), iv ((((((s0 &&& (1 : Int32)) + (s1 &&& (1 : Int32))) + (s2 &&& (1 : Int32))) + (s3 &&& (1 : Int32))) + (s4 &&& (1 : Int32))) >>> ((1 : Int32) &&& 31))] [(.int ((((s0 &&& (1 : Int32)) + (s1 &&& (1 : Int32))) + (s2 &&& (1 : Int32))) + (s3 &&& (1 : Int32)))), (.int s4), (.int (5 : Int32)), (.int (4 : Int32)), (.ref bk)])) _
      refine XS.iload X968.here hx rfl (hb hby at_331) rfl ?_
      refine XS.iload X968.here hx rfl (hb hby at_333) rfl ?_
      exact kt)
  obtain ⟨_, _, ⟨T971, L971, k971, n971⟩, -, X971, ⟨Lc971, hQ971, l971, y971, z971⟩, st971⟩ := Jvm.LawKit.callS X968 hx (y := (⟨"com/example/declination/declination/engine/Nsga2KeptCountsPinLaw", "slot", "([IIIIIII)Z"⟩ : MethodName)) hown (mvT hZ (W 6 rfl)) (mvT hZ (W 7 rfl)) (mvT hZ (W 8 rfl)) (mvT hZ (W 9 rfl)) (by decide) (backOf (W := 0) (rm2l l Z a0 hw [] bk (4 : Int32) (5 : Int32) s4 ((((s0 &&& (1 : Int32)) + (s1 &&& (1 : Int32))) + (s2 &&& (1 : Int32))) + (s3 &&& (1 : Int32))) (s4 &&& (1 : Int32)) ((((((s0 &&& (1 : Int32)) + (s1 &&& (1 : Int32))) + (s2 &&& (1 : Int32))) + (s3 &&& (1 : Int32))) + (s4 &&& (1 : Int32))) >>> ((1 : Int32) &&& 31)) _ _ _ e4 T950.heap n0 zs959 (by decide) (by decide) Vk950 rfl hx4) hZ (W 9 rfl) (W 8 rfl) (by decide) (by decide)) (g := (mkF m 335 #[iv ls, iv a, iv b, iv c', iv d, iv e', iv (5 : Int32), iv s0, iv s1, iv s2, iv s3, iv s4, rv b932, rv bk, iv (s0 &&& (1 : Int32)), iv (s1 &&& (1 : Int32)), iv (s2 &&& (1 : Int32)), iv (s3 &&& (1 : Int32)), iv (s4 &&& (1 : Int32)), iv (((((s0 &&& (1 : Int32)) + (s1 &&& (1 : Int32))) + (s2 &&& (1 : Int32))) + (s3 &&& (1 : Int32))) + (s4 &&& (1 : Int32))), iv ((((((s0 &&& (1 : Int32)) + (s1 &&& (1 : Int32))) + (s2 &&& (1 : Int32))) + (s3 &&& (1 : Int32))) + (s4 &&& (1 : Int32))) >>> ((1 : Int32) &&& 31))] [(.int ((((((s0 &&& (1 : Int32)) + (s1 &&& (1 : Int32))) + (s2 &&& (1 : Int32))) + (s3 &&& (1 : Int32))) + (s4 &&& (1 : Int32))) >>> ((1 : Int32) &&& 31))), (.int (s4 &&& (1 : Int32))), (.int ((((s0 &&& (1 : Int32)) + (s1 &&& (1 : Int32))) + (s2 &&& (1 : Int32))) + (s3 &&& (1 : Int32)))), (.int s4), (.int (5 : Int32)), (.int (4 : Int32)), (.ref bk)])) rfl (by rw [hml]; rfl) (argsL := [(.ref bk), (.int (4 : Int32)), (.int (5 : Int32)), (.int s4), (.int ((((s0 &&& (1 : Int32)) + (s1 &&& (1 : Int32))) + (s2 &&& (1 : Int32))) + (s3 &&& (1 : Int32)))), (.int (s4 &&& (1 : Int32))), (.int ((((((s0 &&& (1 : Int32)) + (s1 &&& (1 : Int32))) + (s2 &&& (1 : Int32))) + (s3 &&& (1 : Int32))) + (s4 &&& (1 : Int32))) >>> ((1 : Int32) &&& 31)))]) (rest := []) (lenOf pd97 rfl) rfl (by show 2 * 0 + _ ≤ _; exact Nat.le_of_eq rfl) (hb hby at_335) (fun _ _ => ⟨rfl, eh968, (by decide : 2 + 0 ≤ _), (by decide : 10 + 0 ≤ _)⟩)
  dsimp only [Pt.U, Pt.locs, Pt.cells, Pt.slots] at X971 l971 y971 z971 st971 hQ971
  subst l971 y971 z971
  obtain ⟨rfl, Nq971, eh971⟩ := hQ971
  have N971 := Fr.app N968 Nq971
  have go972 : own_S p e below ST T971 (mkF m 338 #[iv ls, iv a, iv b, iv c', iv d, iv e', iv (5 : Int32), iv s0, iv s1, iv s2, iv s3, iv s4, rv b932, rv bk, iv (s0 &&& (1 : Int32)), iv (s1 &&& (1 : Int32)), iv (s2 &&& (1 : Int32)), iv (s3 &&& (1 : Int32)), iv (s4 &&& (1 : Int32)), iv (((((s0 &&& (1 : Int32)) + (s1 &&& (1 : Int32))) + (s2 &&& (1 : Int32))) + (s3 &&& (1 : Int32))) + (s4 &&& (1 : Int32))), iv ((((((s0 &&& (1 : Int32)) + (s1 &&& (1 : Int32))) + (s2 &&& (1 : Int32))) + (s3 &&& (1 : Int32))) + (s4 &&& (1 : Int32))) >>> ((1 : Int32) &&& 31))] [(.int (1 : Int32))]) := fun tt kt => go970 tt (st971 _ kt)
  have go973 : own_S p e below ST T971 (mkF m 346 #[iv ls, iv a, iv b, iv c', iv d, iv e', iv (5 : Int32), iv s0, iv s1, iv s2, iv s3, iv s4, rv b932, rv bk, iv (s0 &&& (1 : Int32)), iv (s1 &&& (1 : Int32)), iv (s2 &&& (1 : Int32)), iv (s3 &&& (1 : Int32)), iv (s4 &&& (1 : Int32)), iv (((((s0 &&& (1 : Int32)) + (s1 &&& (1 : Int32))) + (s2 &&& (1 : Int32))) + (s3 &&& (1 : Int32))) + (s4 &&& (1 : Int32))), iv ((((((s0 &&& (1 : Int32)) + (s1 &&& (1 : Int32))) + (s2 &&& (1 : Int32))) + (s3 &&& (1 : Int32))) + (s4 &&& (1 : Int32))) >>> ((1 : Int32) &&& 31))] [(.int (1 : Int32))]) := fun tt kt => go972 tt (by
      refine XS.ifNo X971.here hx rfl (hb hby at_338) rfl ((if0 _ _).trans (feq (by decide : ¬ ((1 : Int32) = (0 : Int32)))).1) ?_
      refine XS.iconst X971.here hx rfl (hb hby at_341) ?_
      refine XS.goto X971.here hx rfl (pc0 := 342) (pc' := 346) rfl (hb hby at_342) (by decide) (by decide) ?_
      exact kt)
  obtain ⟨fs, hr, hrun, hended, hW, hsame⟩ := X971.leave (v := some (.int (1 : Int32))) (fun h => by rw [Bd.returns] at h; cases h)
  refine ⟨_, _, pre0 _ (go973 _ ?_), hrun, hended, _, _, rfl, ?_, ⟨_, rfl⟩, hW, hsame.mono (by decide) (by decide)⟩
  · exact retN X971 hx (t := .boolean) Bd.returns (by simp) (hb hby at_346) hr
  · show Q0k5 Z ls a b c' d e' h0 n0 _ T971.heap _
    rw [eh971]
    exact ⟨rfl, N971⟩
theorem rm0 (l : Launch) (Z : State) (a0 : Array Value) (hw : ∀ d ∈ tables_1, d.before a0 Z = true) (ws : List Jvm.Cond) (ls : Int32) (a : Int32) (b : Int32) (c' : Int32) (d : Int32) (e' : Int32) (h0 : Heap) (n0 : Nat) (Z0 : n0 ≤ h0.size) :
    MetFree l x (head1 (Jvm.Cond.code x code maxLocals ret :: ws) room_1) (fun aa UU => aa = #[(.int ls), (.int a), (.int b), (.int c'), (.int d), (.int e')] ∧ Z.Warmed39 UU.vm ∧ UU.heap = h0) (fun _ _ _ _ _ => True) (fun _ UU oo UU' => ∃ vv LL, oo = .returned vv ∧ Q0k0 Z ls a b c' d e' h0 n0 vv UU'.heap LL ∧ FrameEnd UU oo UU' LL room_1.cells room_1.slots) := by
  rcases own_6 ls with hk | hk | hk | hk | hk | hk
  · exact rm0k0 l Z a0 hw ws ls a b c' d e' h0 n0 Z0  hk
  · exact rm0k1 l Z a0 hw ws ls a b c' d e' h0 n0 Z0  hk
  · exact rm0k2 l Z a0 hw ws ls a b c' d e' h0 n0 Z0  hk
  · exact rm0k3 l Z a0 hw ws ls a b c' d e' h0 n0 Z0  hk
  · exact rm0k4 l Z a0 hw ws ls a b c' d e' h0 n0 Z0  hk
  · exact rm0k5 l Z a0 hw ws ls a b c' d e' h0 n0 Z0  hk
set_option maxRecDepth 65536 in
set_option maxHeartbeats 40000000 in
theorem comes_1 {Post : Tables → Env → Array Value → State → Outcome → State → Prop} (hpost : ∀ tb e args s v u, (limb_1_1.after args s (.returned v) u = true ∧ limb_1_2.after args s (.returned v) u = true ∧ True) → FrameEnd s (.returned v) u (Jvm.fieldLocs frame_1_writes args s ++ Jvm.arrayLocs frame_1_arrays args s ++ Jvm.staticLocs frame_1_statics s) 16 128 → Post tb e args s (.returned v) u) :
    ArmFor flags0 classFile x code maxLocals ret World_1 tables_1 room_1 Calls_1 rest_1 Pre_1 Post := by
  intro l hfl _ _ p e ha hc hk s m args below hf hA hF happ hP
  obtain ⟨hcalls, hrest, hpre⟩ := hP
  obtain ⟨-, -, -, hnamed, -, -, -, hat⟩ := (Spec.applies_iff hf).mp happ
  obtain ⟨hg, hn⟩ := and_e (Cond.before_iff.mp (show (Jvm.Cond.and given_1 narrow_1).before args s = true from hpre))
  obtain ⟨gg1, gg2⟩ := and_e hg
  obtain ⟨gg3, gg4⟩ := and_e gg2
  obtain ⟨gg5, gg6⟩ := and_e gg4
  obtain ⟨gg7, gg8⟩ := and_e gg6
  obtain ⟨gg9, gg10⟩ := and_e gg8
  obtain ⟨gg11, gg12⟩ := and_e gg10
  obtain ⟨w0, w1, w2, w3, w4, w5, rfl⟩ : ∃ w0 w1 w2 w3 w4 w5 : Value, args = #[w0, w1, w2, w3, w4, w5] := by
    have hs : args.size = 6 := by simpa [Cond.value, given_1] using gg1
    obtain ⟨L⟩ := args
    match L, hs with
    | [w0, w1, w2, w3, w4, w5], _ => exact ⟨w0, w1, w2, w3, w4, w5, rfl⟩
  have hw := fun d (hd : d ∈ tables_1) => atoms_spec (ws := Jvm.Cond.code x code maxLocals ret :: tables_1) hat d (List.mem_cons_of_mem _ hd)
  have W : ∀ {d : Jvm.Cond} (i : Nat), tables_1[i]? = some d → d.before _ s = true := fun i h => hw _ (List.mem_of_getElem? h)
  have hfit : Fit s := fun {y c} hc i hi => by
    obtain ⟨ha, rfl⟩ := Array.getElem?_eq_some_iff.mp hc
    have q := List.all_eq_true.mp ((Array.all_eq_true_iff_forall_mem.mp hF) _ (Array.getElem_mem ha)) i (List.mem_range.mpr hi)
    simpa [Array.getElem?_eq_getElem hi] using q
  obtain ⟨i0, ei0⟩ := is_v gg3
  obtain rfl : w0 = (.int i0) := Option.some.inj ei0
  obtain ⟨i1, ei1⟩ := is_v gg5
  obtain rfl : w1 = (.int i1) := Option.some.inj ei1
  obtain ⟨i2, ei2⟩ := is_v gg7
  obtain rfl : w2 = (.int i2) := Option.some.inj ei2
  obtain ⟨i3, ei3⟩ := is_v gg9
  obtain rfl : w3 = (.int i3) := Option.some.inj ei3
  obtain ⟨i4, ei4⟩ := is_v gg11
  obtain rfl : w4 = (.int i4) := Option.some.inj ei4
  obtain ⟨i5, ei5⟩ := is_v gg12
  obtain rfl : w5 = (.int i5) := Option.some.inj ei5
  obtain ⟨n, o, h1, h2, h3, _, L, rfl, ⟨rfl, N⟩, hq⟩ := rm0 l s _ hw tables_1 i0 i1 i2 i3 i4 i5 s.heap s.heap.size (Nat.le_refl _)  p e ha hc hk s m _ below hf ((Spec.applies_iff_loose hf).mp happ).1 ⟨rfl, State.Warmed39.refl s, rfl⟩ trivial
  refine ⟨n, _, h1, h2, h3, hpost _ _ _ _ _ _ ⟨Cond.after_iff.mpr rfl, Cond.after_iff.mpr (eq_i res_at (Term.int_eval (1)) rfl), trivial⟩ ⟨hq.1, hq.2.1, (hq.2.2.sift fun y hy => Or.inr (N y hy)).mono (by decide) (by decide)⟩⟩
theorem main_1_1 : Claimed_1_1 := comes_1 fun _ _ _ _ _ _ h hF => ⟨h.1, hF⟩
theorem main_1_2 : Claimed_1_2 := comes_1 fun _ _ _ _ _ _ h hF => ⟨h.2.1, hF⟩
end Jvm.Pilot.@@N@@
namespace Jvm.Pilot.@@N@@
open Jvm Jvm.ClassFile Sem Op Lib Jvm.Free Jvm.Stand Jvm.Pilot.@@N@@.Jvm.D
/-! MADE BY PROGRAM (witnessworld.py) out of the Statement's table words and the real class files: 9 classes; the members and pool entries that the words name. The judged class is class 1, her method 1. -/
namespace start1
open Jvm.ClassFile
def u (s : String) : CpInfo := .utf8 (stringToUtf16 s)
/-- a pool by its gaps: so many unusable entries, then the entry; so many at the end -/
def gap : Nat → List CpInfo → List CpInfo
  | 0, r => r
  | n + 1, r => .unusable :: gap n r
def poolList (es : List (Nat × CpInfo)) (last : Nat) : List CpInfo := es.foldr (fun e r => gap e.1 (e.2 :: r)) (gap last [])
def pool (es : List (Nat × CpInfo)) (last : Nat) : Array CpInfo := ⟨poolList es last⟩
def fileOf (pool : Array CpInfo) (this : Nat) (attrs : Array Attribute := #[]) (ms : Array MethodInfo := #[]) (fl : Nat := 33) (sup : Nat := 0) (ifs : Array Nat := #[]) (fds : Array FieldInfo := #[]) : ClassFile where
  minorVersion := 0
  majorVersion := 65
  constantPool := pool
  accessFlags := fl
  thisClass := this
  superClass := sup
  interfaces := ifs
  fields := fds
  methods := ms
  attributes := attrs
def plain (name : String) (sup : Option ClassId) : Class where
  name := name
  kind := .ordinary
  loader := none
  accessFlags := 33
  super := sup
  interfaces := #[]
  cf := none
  fields := #[]
  methods := #[]
  instanceTypes := #[]
  staticTypes := #[]
  resolved := #[]
  callSites := []
  init := .initialized
  statics := none
  mirror := none

def pool0 : Array CpInfo := pool [(5, u "<init>"), (0, u "()V"), (1, .class_ 10), (1, u "java/lang/Object")] 113

def k0m0 : Method := { name := "<init>", desc := "()V", sig := { parameters := [], returnType := none }, accessFlags := 1, code := none }
/-- java/lang/Object -/
def k0 : Class := { plain "java/lang/Object" none with
  accessFlags := 33
  interfaces := #[]
  cf := some (fileOf pool0 8 #[] #[{ accessFlags := 1, nameIndex := 5, descriptorIndex := 6, attributes := #[] }] 33 0 #[] #[])
  fields := #[]
  methods := #[k0m0]
  instanceTypes := #[]
  staticTypes := #[]
  resolved := Array.replicate 124 none
  statics := none }

def pool1 : Array CpInfo := pool [(2, .class_ 4), (1, u "java/lang/Object"), (0, u "<init>"), (0, u "()V"), (0, .integer 2147483647), (0, .methodref 9 10), (0, .class_ 11), (0, .nameAndType 12 13), (0, u "com/example/declination/declination/engine/Nsga2"), (0, u "keptCounts"), (0, u "([I)[I"), (0, .methodref 15 16), (0, .class_ 17), (0, .nameAndType 18 19), (0, u "com/example/declination/declination/engine/Nsga2KeptCountsPinLaw"), (0, u "slot"), (0, u "([IIIIIII)Z"), (2, u "law"), (0, u "(IIIIII)Z")] 5

def k1m0 : Method := { name := "<init>", desc := "()V", sig := { parameters := [], returnType := none }, accessFlags := 1, code := none }
def k1c1 : Code := { maxStack := 7, maxLocals := 21, code := code, exceptionTable := #[], attributes := #[] }
def k1m1 : Method := { name := "law", desc := "(IIIIII)Z", sig := { parameters := [.int, .int, .int, .int, .int, .int], returnType := some .boolean }, accessFlags := 9, code := some k1c1 }
def k1c2 : Code := { maxStack := 3, maxLocals := 8, code := method_3_code, exceptionTable := #[], attributes := #[] }
def k1m2 : Method := { name := "slot", desc := "([IIIIIII)Z", sig := { parameters := [(.array .int), .int, .int, .int, .int, .int, .int], returnType := some .boolean }, accessFlags := 10, code := some k1c2 }
/-- com/example/declination/declination/engine/Nsga2KeptCountsPinLaw -/
def k1 : Class := { plain "com/example/declination/declination/engine/Nsga2KeptCountsPinLaw" (some 0) with
  accessFlags := 49
  interfaces := #[]
  cf := some (fileOf pool1 15 #[] #[{ accessFlags := 1, nameIndex := 5, descriptorIndex := 6, attributes := #[] }, { accessFlags := 9, nameIndex := 22, descriptorIndex := 23, attributes := #[] }, { accessFlags := 10, nameIndex := 18, descriptorIndex := 19, attributes := #[] }] 49 2 #[] #[])
  fields := #[]
  methods := #[k1m0, k1m1, k1m2]
  instanceTypes := #[]
  staticTypes := #[]
  resolved := Array.replicate 29 none
  statics := none }

def pool2 : Array CpInfo := pool [(2, .class_ 4), (1, u "java/lang/Object"), (3, u "instance"), (9, .class_ 20), (1, u "com/example/declination/declination/engine/Nsga2"), (0, u "Lcom/example/declination/declination/model/KnapsackInstance;"), (1, u "settings"), (0, .class_ 25), (0, u "com/example/declination/declination/engine/Nsga2$Settings"), (2, u "Lcom/example/declination/declination/engine/Nsga2$Settings;"), (47, .class_ 78), (1, u "com/example/declination/declination/engine/Nsga2$Search"), (171, u "keptCounts"), (0, u "([I)[I"), (18, .class_ 271), (0, u "com/example/declination/declination/engine/Nsga2$Ranks"), (0, .class_ 273), (0, u "com/example/declination/declination/engine/Nsga2$Probabilities"), (0, .class_ 275), (0, u "com/example/declination/declination/engine/Nsga2$Generation")] 50

def k2c0 : Code := { maxStack := 4, maxLocals := 6, code := prog_6_method_6_code, exceptionTable := #[], attributes := #[] }
def k2m0 : Method := { name := "keptCounts", desc := "([I)[I", sig := { parameters := [(.array .int)], returnType := some (.array .int) }, accessFlags := 8, code := some k2c0 }
/-- com/example/declination/declination/engine/Nsga2 -/
def k2 : Class := { plain "com/example/declination/declination/engine/Nsga2" (some 0) with
  accessFlags := 49
  interfaces := #[]
  cf := some (fileOf pool2 18 #[.nestMembers #[270, 272, 274, 76, 24]] #[{ accessFlags := 8, nameIndex := 250, descriptorIndex := 251, attributes := #[] }] 49 2 #[] #[{ accessFlags := 18, nameIndex := 8, descriptorIndex := 21, attributes := #[] }, { accessFlags := 18, nameIndex := 23, descriptorIndex := 28, attributes := #[] }])
  fields := #[{ name := "instance", type := (.object "com/example/declination/declination/model/KnapsackInstance"), accessFlags := 18, slot := 0, constantValue := 0 }, { name := "settings", type := (.object "com/example/declination/declination/engine/Nsga2$Settings"), accessFlags := 18, slot := 1, constantValue := 0 }]
  methods := #[k2m0]
  instanceTypes := #[(.object "com/example/declination/declination/model/KnapsackInstance"), (.object "com/example/declination/declination/engine/Nsga2$Settings")]
  staticTypes := #[]
  resolved := Array.replicate 326 none
  statics := none }

def pool3 : Array CpInfo := pool [(1, u "java/lang/Cloneable"), (0, .class_ 1), (0, u "java/lang/Object"), (0, .class_ 3)] 3

/-- java/lang/Cloneable -/
def k3 : Class := { plain "java/lang/Cloneable" (some 0) with
  accessFlags := 1537
  interfaces := #[]
  cf := some (fileOf pool3 2 #[] #[] 1537 4 #[] #[])
  fields := #[]
  methods := #[]
  instanceTypes := #[]
  staticTypes := #[]
  resolved := Array.replicate 8 none
  statics := none }

def pool4 : Array CpInfo := pool [(1, u "java/io/Serializable"), (0, .class_ 1), (0, u "java/lang/Object"), (0, .class_ 3)] 3

/-- java/io/Serializable -/
def k4 : Class := { plain "java/io/Serializable" (some 0) with
  accessFlags := 1537
  interfaces := #[]
  cf := some (fileOf pool4 2 #[] #[] 1537 4 #[] #[])
  fields := #[]
  methods := #[]
  instanceTypes := #[]
  staticTypes := #[]
  resolved := Array.replicate 8 none
  statics := none }

/-- the primitive byte -/
def k5 : Class := { plain "byte" none with kind := .primitive 'B', accessFlags := 0x411 }
/-- [B -/
def k6 : Class := { plain "[B" (some 0) with kind := .array 5 .byte, interfaces := #[3, 4], accessFlags := 1041 }

/-- the primitive int -/
def k7 : Class := { plain "int" none with kind := .primitive 'I', accessFlags := 0x411 }
/-- [I -/
def k8 : Class := { plain "[I" (some 0) with kind := .array 7 .int, interfaces := #[3, 4], accessFlags := 1041 }

def heap : Heap := #[]
def classes : Array Class := #[k0, k1, k2, k3, k4, k5, k6, k7, k8]
def interned : List (Array UInt16 × Addr) := []
def slotsUsed : Nat := 0
def theMethod : MethodId := ⟨1, 1⟩
def args0 : Array Value := #[.int 5, .int 1, .int 2, .int 3, .int 4, .int 9]
def aboutOver (below : List Frame) : State where
  vm := { classes := classes, interned := interned.toArray }
  heap := heap
  slotsUsed := slotsUsed
  threads := #[{ frames := .invoking theMethod args0 :: below }]
def below0 : List Frame := [.native { method := ⟨0, 0⟩, args := #[] }]
def about1 : State := aboutOver below0
def p0 : Program := .bare "" "" ""
def e0 : Env := launch0.env 0 0 0
theorem w_frames : about1.frames = Frame.invoking theMethod args0 :: below0 := rfl
set_option maxRecDepth 65536 in
theorem w_args : argsFit about1.vm theMethod args0 = true := by decide +kernel
set_option maxRecDepth 65536 in
theorem w_heap : heapFits about1 = true := by decide +kernel
set_option maxRecDepth 65536 in
theorem w_runnable : about1.curStatus? = some .runnable := by decide +kernel
set_option maxRecDepth 65536 in
theorem w_alone : about1.alone = true := by decide +kernel
set_option maxRecDepth 65536 in
theorem w_named : about1.methodNamed? x = some theMethod := by decide +kernel
set_option maxRecDepth 65536 in
theorem w_hears : about1.hears theMethod below0 = true := by decide +kernel
set_option maxRecDepth 65536 in
theorem w_ripe : about1.ripe theMethod args0 below0 = true := by decide +kernel
theorem w_running : about1.status = .running := rfl
set_option maxRecDepth 65536 in
theorem w_room : about1.hasRoom e0.platform room_1 = true :=
  launch0.hasRoom_least _ room_1 (by decide +kernel) (by decide +kernel) (by decide +kernel) (by decide +kernel) (by decide +kernel) (by decide +kernel)
theorem allAtoms_all (ts : List Jvm.Cond) (a : Array Jvm.Value) (st : Jvm.State) : (allAtoms ts).before a st = ts.all (fun c => c.before a st) := by
  induction ts with
  | nil => rfl
  | cons c t ih =>
    show (Jvm.Cond.and c (allAtoms t)).before a st = _
    rw [Jvm.Cond.before_and, ih, List.all_cons]
def words1 : List Jvm.Cond := Jvm.Cond.code x code maxLocals ret :: tables_1
/-- a 'code' word, met by the world's own term for the bytes: nothing is compared byte by byte -/
theorem code_word {y : MethodName} {bytes : ByteArray} {mx : Nat} {rt : Option FieldType} {a : Array Value} {s : State} {m : MethodId} {meth : Method} {c : Code} (h1 : s.methodNamed? y = some m) (h2 : s.vm.method? m = some meth) (h3 : meth.code = some c) (h4 : c.code = bytes)
    (h5 : (c.maxLocals == mx && c.exceptionTable.isEmpty && decide (c.maxStack ≤ mostOperands) && decide (meth.sig.returnType = rt) && !meth.locks && decide (parseMethodDescriptor y.desc = some meth.sig)) = true) : (Jvm.Cond.code y bytes mx rt).before a s = true := by
  simp only [Bool.and_eq_true, beq_iff_eq, Bool.not_eq_true', decide_eq_true_eq] at h5
  obtain ⟨⟨⟨⟨⟨g1, g2⟩, g3⟩, g4⟩, g5⟩, g6⟩ := h5
  simp [Cond.before, Cond.holds, Cond.value, h1, h2, h3, h4, g1, g2, g3, g4, g5, g6]
def isCode : Jvm.Cond → Bool
  | .code _ _ _ _ => true
  | _ => false
theorem all_split {L : List Jvm.Cond} {P : Jvm.Cond → Bool} (h1 : L.all (fun c => isCode c || P c) = true) (h2 : ∀ c ∈ L.filter isCode, P c = true) : L.all P = true := by
  refine List.all_eq_true.mpr fun c hc => ?_
  have h := List.all_eq_true.mp h1 c hc
  rcases Bool.eq_false_or_eq_true (isCode c) with hi | hi
  · exact h2 c (List.mem_filter.mpr ⟨hc, hi⟩)
  · simpa [hi] using h
set_option maxRecDepth 65536 in
theorem w_c0 : (Jvm.Cond.code x code maxLocals ret).before args0 about1 = true := code_word (m := ⟨1, 1⟩) (meth := k1m1) (c := k1c1) (by decide +kernel) rfl rfl rfl (by decide +kernel)
set_option maxRecDepth 65536 in
theorem w_c1 : (Jvm.Cond.code ({ cls := "com/example/declination/declination/engine/Nsga2", name := "keptCounts", desc := "([I)[I" } : Jvm.MethodName) prog_6_method_6_code (6 : Nat) (Option.some (Jvm.ClassFile.FieldType.array Jvm.ClassFile.FieldType.int))).before args0 about1 = true := code_word (m := ⟨2, 0⟩) (meth := k2m0) (c := k2c0) (by decide +kernel) rfl rfl rfl (by decide +kernel)
set_option maxRecDepth 65536 in
theorem w_c2 : (Jvm.Cond.code ({ cls := "com/example/declination/declination/engine/Nsga2KeptCountsPinLaw", name := "slot", desc := "([IIIIIII)Z" } : Jvm.MethodName) method_3_code (8 : Nat) (Option.some Jvm.ClassFile.FieldType.boolean)).before args0 about1 = true := code_word (m := ⟨1, 2⟩) (meth := k1m2) (c := k1c2) (by decide +kernel) rfl rfl rfl (by decide +kernel)
def codes1 : List Jvm.Cond := [Jvm.Cond.code x code maxLocals ret, Jvm.Cond.code ({ cls := "com/example/declination/declination/engine/Nsga2", name := "keptCounts", desc := "([I)[I" } : Jvm.MethodName) prog_6_method_6_code (6 : Nat) (Option.some (Jvm.ClassFile.FieldType.array Jvm.ClassFile.FieldType.int)), Jvm.Cond.code ({ cls := "com/example/declination/declination/engine/Nsga2KeptCountsPinLaw", name := "slot", desc := "([IIIIIII)Z" } : Jvm.MethodName) method_3_code (8 : Nat) (Option.some Jvm.ClassFile.FieldType.boolean)]
set_option maxRecDepth 65536 in
theorem codes_eq : words1.filter isCode = codes1 := rfl
theorem w_codes : ∀ c ∈ words1.filter isCode, c.before args0 about1 = true := by
  rw [codes_eq]
  intro c hc
  simp only [codes1, List.mem_cons, List.not_mem_nil, or_false] at hc
  rcases hc with rfl | rfl | rfl
  · exact w_c0
  · exact w_c1
  · exact w_c2
set_option maxRecDepth 65536 in
theorem w_t1 : words1.all (fun c => isCode c || c.before args0 about1) = true := by decide +kernel
theorem w_tables : (allAtoms (Jvm.Cond.code x code maxLocals ret :: tables_1)).before args0 about1 = true := by
  rw [allAtoms_all]
  show words1.all (fun c => c.before args0 about1) = true
  refine all_split ?_ w_codes
  rw [w_t1]
set_option maxRecDepth 65536 in
theorem w_case : (Jvm.Cond.and given_1 narrow_1).before args0 about1 = true := by decide +kernel
theorem w_applies : (headSpec (Jvm.Cond.code x code maxLocals ret :: tables_1) room_1).applies x e0.platform about1 = true :=
  (Spec.applies_iff w_frames).mpr ⟨w_running, w_runnable, w_alone, w_named, w_hears, w_ripe, w_room, w_tables⟩
theorem atStart : AtStart classFile x code maxLocals ret World_1 tables_1 room_1 Calls_1 rest_1 Pre_1 launch0 p0 e0 about1 theMethod args0 below0 :=
  ⟨lists_1, trivial, launch0.admits_env _ _ _, launch0.least_env, fairChoices_fair.cas, fairChoices_fair.clock, w_frames, w_args, w_heap, w_applies, trivial, trivial, w_case⟩
end start1
theorem witness_1 : WitnessClaimed_1 := ⟨start1.p0, start1.e0, start1.about1, start1.theMethod, start1.args0, start1.below0, start1.atStart⟩
end Jvm.Pilot.@@N@@
