import JvmDerived
import JvmDerived.Pilot.@@N@@Statement
import JvmDerived.Pilot.@@N@@Code
set_option linter.unusedVariables false
set_option linter.unusedSimpArgs false
namespace Jvm.RoadKit
open Sem ClassFile Op Lib Jvm.Stand Jvm.Free Jvm.LawKit
section New
variable {p : Program} {l : Launch} {e : Env} {R : Room} {s : State} {m : MethodId} {args : Array Value} {below : List Frame} {meth : Method} {c : Code} {T : State} {locs : List Loc} {cells slots : Nat}
theorem retI (X : Stand p l e R s m args below meth c T locs cells slots) (hx : p.tables.exec = Jvm.exec) {pc : Nat} {Ls : Array Slot} {z : Int32} {rest : List Value} (hret : meth.sig.returnType = some .int) (hd : decode c.code pc = .ok (.ireturn, 1)) {fs : List Frame}
    (hl : ∀ (f : JFrame) (acts : List Action), f.method = m → f.locked = none → f.entered = [] → (doReturn e (T.setTop f) acts (some (.int z))).1 = T.setFrames fs) : Steps p.tables e below (T.setTop (mkF m pc Ls (.int z :: rest))) (T.setFrames fs) := by
  have hm' : T.vm.method? m = some meth := X.method'
  have hn : narrow .int (.int z) = .int z := rfl
  show Steps p.tables e below (T.setTop { method := m, pc := pc, locals := Ls, stack := _ :: rest, locked := none }) _
  jvm_step X.here [X.here.top, hx, hd, hm', hret, hn]
  first | (intro acts; rw [hl _ acts rfl rfl rfl]) | rw [hl _ _ rfl rfl rfl]
  exact Steps.refl _
end New
end Jvm.RoadKit
namespace Jvm.Pilot.@@N@@
open Jvm Jvm.ClassFile Sem Op Lib Jvm.Free Jvm.Stand Jvm.LawKit Jvm.RoadKit Bundle Jvm.Pilot.@@N@@.Jvm.D
abbrev own_S (p : Program) (e : Env) (below : List Frame) (S T : State) (f : JFrame) : Prop := ∀ tt, Steps p.tables e below (T.setTop f) tt → Steps p.tables e below S tt
def own_cyc (f s n : Int32) : Int32 := if s = (f + 1) % n then f else if f = (s + 1) % n then s else -1
theorem own_mod (x n : Int32) (h1 : 0 ≤ x.toInt) (h2 : 0 < n.toInt) : (x % n).toInt = x.toInt % n.toInt := by rw [Int32.toInt_mod, Int.tmod_eq_emod_of_nonneg h1]
theorem own_n (c n : Int32) (h : n = 1 + (c &&& 2147483647) % 2147483647) : 1 ≤ n.toInt := by
  have h1 := c_and c 2147483647 (by decide)
  have em : (2147483647 : Int32).toInt = 2147483647 := rfl
  have h2 := own_mod (c &&& 2147483647) 2147483647 h1.1 (by decide)
  have e1 : (1 : Int32).toInt = 1 := rfl
  have h3 := c_iadd 1 ((c &&& 2147483647) % 2147483647)
  have h4 := rng32 (1 + (c &&& 2147483647) % 2147483647)
  rw [← h] at h3 h4
  rw [em] at h2
  omega
theorem own_ne0 (n : Int32) (h : 1 ≤ n.toInt) : n ≠ 0 := fun q => by subst q; revert h; decide
theorem own_in (a n x : Int32) (hn : 1 ≤ n.toInt) (h : x = (a &&& 2147483647) % n) : 0 ≤ x.toInt ∧ x.toInt < n.toInt := by
  have h1 := c_and a 2147483647 (by decide)
  have h2 := own_mod (a &&& 2147483647) n h1.1 (by omega)
  rw [← h] at h2
  have h3 := Int.emod_nonneg (a &&& 2147483647).toInt (b := n.toInt) (by omega)
  have h4 := Int.emod_lt_of_pos (a &&& 2147483647).toInt (b := n.toInt) (by omega)
  omega
theorem own_next (f n : Int32) (h1 : 0 ≤ f.toInt) (h2 : f.toInt < n.toInt) : ((f + 1) % n).toInt = if f.toInt + 1 = n.toInt then 0 else f.toInt + 1 := by
  have r := rng32 n
  have a := c_iadd f 1
  have ra := rng32 (f + 1)
  have e1 : (1 : Int32).toInt = 1 := rfl
  have ea : (f + 1).toInt = f.toInt + 1 := by omega
  rw [own_mod _ _ (by omega) (by omega), ea]
  split
  · rename_i q; rw [q]; exact Int.emod_self
  · exact Int.emod_eq_of_lt (by omega) (by omega)
theorem own_sec (b n mode first second : Int32) (hn : 1 ≤ n.toInt) (hf : 0 ≤ first.toInt ∧ first.toInt < n.toInt)
    (h : second = (if mode = (0 : Int32) then (if first = (n - (1 : Int32)) then (0 : Int32) else (first + (1 : Int32))) else (if mode = (1 : Int32) then (if first = (0 : Int32) then (n - (1 : Int32)) else (first - (1 : Int32))) else ((b &&& (2147483647 : Int32)) % n)))) : 0 ≤ second.toInt ∧ second.toInt < n.toInt := by
  have e0 : (0 : Int32).toInt = 0 := rfl
  have e1 : (1 : Int32).toInt = 1 := rfl
  have a1 := c_isub n 1
  have b1 := rng32 (n - 1)
  have a2 := c_iadd first 1
  have b2 := rng32 (first + 1)
  have a3 := c_isub first 1
  have b3 := rng32 (first - 1)
  have bn := rng32 n
  by_cases q1 : mode = 0
  · rw [if_pos q1] at h
    by_cases q2 : first = n - 1
    · rw [if_pos q2] at h; subst h; omega
    · rw [if_neg q2] at h; rw [← Int32.toInt_inj] at q2; subst h; omega
  · rw [if_neg q1] at h
    by_cases q3 : mode = 1
    · rw [if_pos q3] at h
      by_cases q2 : first = 0
      · rw [if_pos q2] at h; subst h; omega
      · rw [if_neg q2] at h; rw [← Int32.toInt_inj] at q2; subst h; omega
    · rw [if_neg q3] at h; exact own_in b n second hn h
theorem own_fin (n first second got expected : Int32) (hn : 1 ≤ n.toInt) (hf : 0 ≤ first.toInt ∧ first.toInt < n.toInt) (hs : 0 ≤ second.toInt ∧ second.toInt < n.toInt) (hg : got = own_cyc first second n)
    (he : expected = (if (second - first) = (1 : Int32) then first else (if first = (n - (1 : Int32)) then (if second = (0 : Int32) then first else (if (first - second) = (1 : Int32) then second else (if second = (n - (1 : Int32)) then (if first = (0 : Int32) then second else (-1 : Int32)) else (-1 : Int32)))) else (if (first - second) = (1 : Int32) then second else (if second = (n - (1 : Int32)) then (if first = (0 : Int32) then second else (-1 : Int32)) else (-1 : Int32)))))) : got = expected := by
  have e0 : (0 : Int32).toInt = 0 := rfl
  have e1 : (1 : Int32).toInt = 1 := rfl
  have a1 := c_isub n 1
  have b1 := rng32 (n - 1)
  have a2 := c_isub second first
  have b2 := rng32 (second - first)
  have a3 := c_isub first second
  have b3 := rng32 (first - second)
  have bn := rng32 n
  have c1 := own_next first n hf.1 hf.2
  have c2 := own_next second n hs.1 hs.2
  have k1 : second = (first + 1) % n ↔ ((first.toInt + 1 = n.toInt ∧ second.toInt = 0) ∨ (¬ first.toInt + 1 = n.toInt ∧ second.toInt = first.toInt + 1)) := by
    rw [← Int32.toInt_inj, c1]; split <;> omega
  have k2 : first = (second + 1) % n ↔ ((second.toInt + 1 = n.toInt ∧ first.toInt = 0) ∨ (¬ second.toInt + 1 = n.toInt ∧ first.toInt = second.toInt + 1)) := by
    rw [← Int32.toInt_inj, c2]; split <;> omega
  have k3 : second - first = 1 ↔ second.toInt = first.toInt + 1 := by rw [← Int32.toInt_inj]; omega
  have k4 : first - second = 1 ↔ first.toInt = second.toInt + 1 := by rw [← Int32.toInt_inj]; omega
  have k5 : first = n - 1 ↔ first.toInt + 1 = n.toInt := by rw [← Int32.toInt_inj]; omega
  have k6 : second = n - 1 ↔ second.toInt + 1 = n.toInt := by rw [← Int32.toInt_inj]; omega
  have k7 : first = 0 ↔ first.toInt = 0 := by rw [← Int32.toInt_inj]; omega
  have k8 : second = 0 ↔ second.toInt = 0 := by rw [← Int32.toInt_inj]; omega
  rw [hg, he]
  unfold own_cyc
  simp only [k1, k2, k3, k4, k5, k6, k7, k8]
  clear c1 c2 k1 k2 k3 k4 k5 k6 k7 k8 a1 b1 a2 b2 a3 b3
  repeat' split
  all_goals first | rfl | (exfalso; omega) | (rw [← Int32.toInt_inj]; omega)
theorem pn0 : plainName "com/example/inscribe/inscribe/algorithm/Route" = true := by first | (simp [plainName, overriddenIn]; done) | decide +kernel
theorem d1_0 : decode prog_10_method_7_code 0 = .ok (.iload_n 1, 1) := by decide +kernel
theorem d1_1 : decode prog_10_method_7_code 1 = .ok (.iload_n 0, 1) := by decide +kernel
theorem d1_2 : decode prog_10_method_7_code 2 = .ok (.iconst 1, 1) := by decide +kernel
theorem d1_3 : decode prog_10_method_7_code 3 = .ok (.iadd, 1) := by decide +kernel
theorem d1_4 : decode prog_10_method_7_code 4 = .ok (.iload_n 2, 1) := by decide +kernel
theorem d1_5 : decode prog_10_method_7_code 5 = .ok (.irem, 1) := by decide +kernel
theorem d1_6 : decode prog_10_method_7_code 6 = .ok (.if_icmp .ne 5, 3) := by decide +kernel
theorem d1_9 : decode prog_10_method_7_code 9 = .ok (.iload_n 0, 1) := by decide +kernel
theorem d1_10 : decode prog_10_method_7_code 10 = .ok (.ireturn, 1) := by decide +kernel
theorem d1_11 : decode prog_10_method_7_code 11 = .ok (.iload_n 0, 1) := by decide +kernel
theorem d1_12 : decode prog_10_method_7_code 12 = .ok (.iload_n 1, 1) := by decide +kernel
theorem d1_13 : decode prog_10_method_7_code 13 = .ok (.iconst 1, 1) := by decide +kernel
theorem d1_14 : decode prog_10_method_7_code 14 = .ok (.iadd, 1) := by decide +kernel
theorem d1_15 : decode prog_10_method_7_code 15 = .ok (.iload_n 2, 1) := by decide +kernel
theorem d1_16 : decode prog_10_method_7_code 16 = .ok (.irem, 1) := by decide +kernel
theorem d1_17 : decode prog_10_method_7_code 17 = .ok (.if_icmp .ne 7, 3) := by decide +kernel
theorem d1_20 : decode prog_10_method_7_code 20 = .ok (.iload_n 1, 1) := by decide +kernel
theorem d1_21 : decode prog_10_method_7_code 21 = .ok (.goto 4, 3) := by decide +kernel
theorem d1_24 : decode prog_10_method_7_code 24 = .ok (.iconst (-1), 1) := by decide +kernel
theorem d1_25 : decode prog_10_method_7_code 25 = .ok (.ireturn, 1) := by decide +kernel
theorem ef1 (m : MethodId) (x0 : Int32) (x1 : Int32) (x2 : Int32) : entryFrame m #[(.int x0), (.int x1), (.int x2)] 3 = mkF m 0 #[.val (.int x0), .val (.int x1), .val (.int x2)] [] := by first | (simp [entryFrame, mkF, argsToLocals, Value.category]; done) | rfl
def Q1 (Z : State) (f : Int32) (s' : Int32) (n : Int32) (h0 : Heap) (n0 : Nat) (v : Option Value) (h : Heap) (L : List Loc) : Prop := v = some (.int (own_cyc f s' n)) ∧ Fr n0 L ∧ h = h0
set_option maxRecDepth 65536 in
set_option maxHeartbeats 40000000 in
theorem rm1 (l : Launch) (Z : State) (a0 : Array Value) (hw : ∀ d ∈ tables_1, d.before a0 Z = true) (ws : List Jvm.Cond) (f : Int32) (s' : Int32) (n : Int32) (h0 : Heap) (n0 : Nat) (Z0 : n0 ≤ h0.size) (hn0 : n ≠ 0) :
    MetFree l (⟨"com/example/inscribe/inscribe/algorithm/Route", "cycleEdgeStart", "(III)I"⟩ : MethodName) (head1 (Jvm.Cond.code (⟨"com/example/inscribe/inscribe/algorithm/Route", "cycleEdgeStart", "(III)I"⟩ : MethodName) prog_10_method_7_code 3 (some .int) :: ws) ({ frames := 0, cells := 0, slots := 0, locals := 0 } : Room)) (fun aa UU => aa = #[(.int f), (.int s'), (.int n)] ∧ Z.Warmed39 UU.vm ∧ UU.heap = h0) (fun _ _ _ _ _ => True) (fun _ UU oo UU' => ∃ vv LL, oo = .returned vv ∧ Q1 Z f s' n h0 n0 vv UU'.heap LL ∧ FrameEnd UU oo UU' LL ({ frames := 0, cells := 0, slots := 0, locals := 0 } : Room).cells ({ frames := 0, cells := 0, slots := 0, locals := 0 } : Room).slots) := by
  have W : ∀ {d : Jvm.Cond} (i : Nat), tables_1[i]? = some d → d.before a0 Z = true := fun i h => hw _ (List.mem_of_getElem? h)
  refine MetFree.of_bodySF (plainFor_of_name pn0) hisR ?_
  intro p e s m args below meth c s₁ Bd hml0 hP hK
  obtain ⟨rfl, hZ, hh⟩ := hP
  have hx := Bd.exec
  have hby := Bd.bytes
  have hml : c.maxLocals = 3 := hml0
  have hown : s.vm.findClass "com/example/inscribe/inscribe/algorithm/Route" = some m.cls := findClass_of_methodNamed Bd.named
  have hnm := (name_of_methodNamed Bd.named Bd.method).1
  have X0 : Stand p l e ({ frames := 0, cells := 0, slots := 0, locals := 0 } : Room) s m #[(.int f), (.int s'), (.int n)] below meth c s₁ [] 0 0 := Stand.of_body Bd
  have e0 : s₁.heap = h0 := by rw [← hh, Bd.state]; rfl
  have N0 := Fr.nil n0
  have pre0 : ∀ tt, Steps p.tables e below (s₁.setTop (mkF m 0 #[iv f, iv s', iv n] [])) tt → Steps p.tables e below (s₁.setTop (entryFrame m #[(.int f), (.int s'), (.int n)] 3)) tt := fun tt kt => castTop (ef1 m f s' n) kt
  obtain ⟨ST, hST⟩ : ∃ z : State, z = s₁.setTop (mkF m 0 #[iv f, iv s', iv n] []) := ⟨_, rfl⟩
  rw [← hST] at pre0
  have go101 : own_S p e below ST s₁ (mkF m 6 #[iv f, iv s', iv n] [(.int ((f + (1 : Int32)) % n)), (.int s')]) := fun tt kt => (by
      rw [hST]
      show Steps p.tables e below (s₁.setTop (mkF m 0 #[iv f, iv s', iv n] [])) _
      refine XS.iloadN X0.here hx rfl (hb hby d1_0) rfl ?_
      refine XS.iloadN X0.here hx rfl (hb hby d1_1) rfl ?_
      refine XS.iconst X0.here hx rfl (hb hby d1_2) ?_
      refine XS.iadd X0.here hx rfl (hb hby d1_3) rfl ?_
      refine XS.iloadN X0.here hx rfl (hb hby d1_4) rfl ?_
      refine iremM (g := (mkF m 5 #[iv f, iv s', iv n] [(.int n), (.int (f + (1 : Int32))), (.int s')])) X0 hx rfl (hb hby d1_5) rfl hn0 ?_
      exact kt)
  by_cases hc6 : s' = ((f + (1 : Int32)) % n)
  · have go102 : own_S p e below ST s₁ (mkF m 9 #[iv f, iv s', iv n] []) := fun tt kt => go101 tt (by
        refine XS.icmpNo X0.here hx rfl (hb hby d1_6) rfl (teq hc6).2 ?_
        exact kt)
    have go103 : own_S p e below ST s₁ (mkF m 10 #[iv f, iv s', iv n] [(.int f)]) := fun tt kt => go102 tt (by
        refine XS.iloadN X0.here hx rfl (hb hby d1_9) rfl ?_
        exact kt)
    obtain ⟨fs, hr, hrun, hended, hW, hsame⟩ := X0.leave (v := some (.int f)) (fun h => by rw [Bd.returns] at h; cases h)
    refine ⟨_, _, pre0 _ (go103 _ ?_), hrun, hended, _, _, rfl, ?_, ⟨_, rfl⟩, hW, hsame.mono (by decide) (by decide)⟩
    · exact retI X0 hx Bd.returns (hb hby d1_10) hr
    · show Q1 Z f s' n h0 n0 _ s₁.heap _
      rw [e0]
      exact ⟨(by rw [own_cyc, if_pos hc6]), N0, rfl⟩
  · have go104 : own_S p e below ST s₁ (mkF m 11 #[iv f, iv s', iv n] []) := fun tt kt => go101 tt (by
        refine XS.icmpYes X0.here hx rfl (pc0 := 6) (pc' := 11) rfl (hb hby d1_6) rfl (feq hc6).2 (by decide) (by decide) ?_
        exact kt)
    have go105 : own_S p e below ST s₁ (mkF m 17 #[iv f, iv s', iv n] [(.int ((s' + (1 : Int32)) % n)), (.int f)]) := fun tt kt => go104 tt (by
        refine XS.iloadN X0.here hx rfl (hb hby d1_11) rfl ?_
        refine XS.iloadN X0.here hx rfl (hb hby d1_12) rfl ?_
        refine XS.iconst X0.here hx rfl (hb hby d1_13) ?_
        refine XS.iadd X0.here hx rfl (hb hby d1_14) rfl ?_
        refine XS.iloadN X0.here hx rfl (hb hby d1_15) rfl ?_
        refine iremM (g := (mkF m 16 #[iv f, iv s', iv n] [(.int n), (.int (s' + (1 : Int32))), (.int f)])) X0 hx rfl (hb hby d1_16) rfl hn0 ?_
        exact kt)
    obtain ⟨v, hv, sg106⟩ : ∃ (v : Int32), v = (if f = ((s' + (1 : Int32)) % n) then s' else (-1 : Int32)) ∧ ∀ tt, Steps p.tables e below (s₁.setTop (mkF m 25 #[iv f, iv s', iv n] [(.int v)])) tt → Steps p.tables e below (s₁.setTop (mkF m 17 #[iv f, iv s', iv n] [(.int ((s' + (1 : Int32)) % n)), (.int f)])) tt := by
      by_cases hd17_0 : f = ((s' + (1 : Int32)) % n)
      · refine ⟨_, (if_pos hd17_0).symm, fun tt kt => ?_⟩
        show Steps p.tables e below (s₁.setTop (mkF m 17 #[iv f, iv s', iv n] [(.int ((s' + (1 : Int32)) % n)), (.int f)])) _
        refine XS.icmpNo X0.here hx rfl (hb hby d1_17) rfl (teq hd17_0).2 ?_
        refine XS.iloadN X0.here hx rfl (hb hby d1_20) rfl ?_
        refine XS.goto X0.here hx rfl (pc0 := 21) (pc' := 25) rfl (hb hby d1_21) (by decide) (by decide) ?_
        exact kt
      · refine ⟨_, (if_neg hd17_0).symm, fun tt kt => ?_⟩
        show Steps p.tables e below (s₁.setTop (mkF m 17 #[iv f, iv s', iv n] [(.int ((s' + (1 : Int32)) % n)), (.int f)])) _
        refine XS.icmpYes X0.here hx rfl (pc0 := 17) (pc' := 24) rfl (hb hby d1_17) rfl (feq hd17_0).2 (by decide) (by decide) ?_
        refine XS.iconst X0.here hx rfl (hb hby d1_24) ?_
        exact kt
    have go107 : own_S p e below ST s₁ (mkF m 25 #[iv f, iv s', iv n] [(.int v)]) := fun tt kt => go105 tt (sg106 _ kt)
    obtain ⟨fs, hr, hrun, hended, hW, hsame⟩ := X0.leave (v := some (.int v)) (fun h => by rw [Bd.returns] at h; cases h)
    refine ⟨_, _, pre0 _ (go107 _ ?_), hrun, hended, _, _, rfl, ?_, ⟨_, rfl⟩, hW, hsame.mono (by decide) (by decide)⟩
    · exact retI X0 hx Bd.returns (hb hby d1_25) hr
    · show Q1 Z f s' n h0 n0 _ s₁.heap _
      rw [e0]
      exact ⟨(by rw [hv, own_cyc, if_neg hc6]), N0, rfl⟩
theorem pn21 : plainName "com/example/inscribe/inscribe/algorithm/RouteCycleEdgeStartPinLaw" = true := by first | (simp [plainName, overriddenIn]; done) | decide +kernel
theorem pd22 : parseMethodDescriptor "(III)I" = some ⟨[.int, .int, .int], some .int⟩ := by decide +kernel
theorem ef0 (m : MethodId) (x0 : Int32) (x1 : Int32) (x2 : Int32) (x3 : Int32) : entryFrame m #[(.int x0), (.int x1), (.int x2), (.int x3)] maxLocals = mkF m 0 #[.val (.int x0), .val (.int x1), .val (.int x2), .val (.int x3), .unset, .unset, .unset, .unset, .unset, .unset] [] := by first | (simp [entryFrame, mkF, argsToLocals, Value.category, maxLocals]; done) | rfl
def Q0 (Z : State) (a : Int32) (b : Int32) (c' : Int32) (d : Int32) (h0 : Heap) (n0 : Nat) (v : Option Value) (h : Heap) (L : List Loc) : Prop := v = some (.int 1) ∧ Fr n0 L
set_option maxRecDepth 65536 in
set_option maxHeartbeats 40000000 in
theorem rm0 (l : Launch) (Z : State) (a0 : Array Value) (hw : ∀ d ∈ tables_1, d.before a0 Z = true) (ws : List Jvm.Cond) (a : Int32) (b : Int32) (c' : Int32) (d : Int32) (h0 : Heap) (n0 : Nat) (Z0 : n0 ≤ h0.size) :
    MetFree l x (head1 (Jvm.Cond.code x code maxLocals ret :: ws) room_1) (fun aa UU => aa = #[(.int a), (.int b), (.int c'), (.int d)] ∧ Z.Warmed39 UU.vm ∧ UU.heap = h0) (fun _ _ _ _ _ => True) (fun _ UU oo UU' => ∃ vv LL, oo = .returned vv ∧ Q0 Z a b c' d h0 n0 vv UU'.heap LL ∧ FrameEnd UU oo UU' LL room_1.cells room_1.slots) := by
  have W : ∀ {d : Jvm.Cond} (i : Nat), tables_1[i]? = some d → d.before a0 Z = true := fun i h => hw _ (List.mem_of_getElem? h)
  refine MetFree.of_bodySF (plainFor_of_name pn21) hisR ?_
  intro p e s m args below meth c s₁ Bd hml0 hP hK
  obtain ⟨rfl, hZ, hh⟩ := hP
  have hx := Bd.exec
  have hby := Bd.bytes
  have hml : c.maxLocals = 10 := hml0
  have hown : s.vm.findClass "com/example/inscribe/inscribe/algorithm/RouteCycleEdgeStartPinLaw" = some m.cls := findClass_of_methodNamed Bd.named
  have hnm := (name_of_methodNamed Bd.named Bd.method).1
  have X0 : Stand p l e room_1 s m #[(.int a), (.int b), (.int c'), (.int d)] below meth c s₁ [] 0 0 := Stand.of_body Bd
  have e0 : s₁.heap = h0 := by rw [← hh, Bd.state]; rfl
  have N0 := Fr.nil n0
  have pre0 : ∀ tt, Steps p.tables e below (s₁.setTop (mkF m 0 #[iv a, iv b, iv c', iv d, .unset, .unset, .unset, .unset, .unset, .unset] [])) tt → Steps p.tables e below (s₁.setTop (entryFrame m #[(.int a), (.int b), (.int c'), (.int d)] maxLocals)) tt := fun tt kt => castTop (ef0 m a b c' d) kt
  obtain ⟨ST, hST⟩ : ∃ z : State, z = s₁.setTop (mkF m 0 #[iv a, iv b, iv c', iv d, .unset, .unset, .unset, .unset, .unset, .unset] []) := ⟨_, rfl⟩
  rw [← hST] at pre0
  have go108 : own_S p e below ST s₁ (mkF m 11 #[iv a, iv b, iv c', iv d, iv ((1 : Int32) + ((c' &&& (2147483647 : Int32)) % (2147483647 : Int32))), .unset, .unset, .unset, .unset, .unset] []) := fun tt kt => (by
      rw [hST]
      show Steps p.tables e below (s₁.setTop (mkF m 0 #[iv a, iv b, iv c', iv d, .unset, .unset, .unset, .unset, .unset, .unset] [])) _
      refine XS.iconst X0.here hx rfl (hb hby at_0) ?_
      refine XS.iloadN X0.here hx rfl (hb hby at_1) rfl ?_
      refine X0.ldcInt hx hown (mvT hZ (W 0 rfl)) (g := (mkF m 2 #[iv a, iv b, iv c', iv d, .unset, .unset, .unset, .unset, .unset, .unset] [(.int c'), (.int (1 : Int32))])) rfl (hb hby at_2) _ ?_
      refine XS.iand X0.here hx rfl (hb hby at_4) rfl ?_
      refine X0.ldcInt hx hown (mvT hZ (W 0 rfl)) (g := (mkF m 5 #[iv a, iv b, iv c', iv d, .unset, .unset, .unset, .unset, .unset, .unset] [(.int (c' &&& (2147483647 : Int32))), (.int (1 : Int32))])) rfl (hb hby at_5) _ ?_
      refine iremM (g := (mkF m 7 #[iv a, iv b, iv c', iv d, .unset, .unset, .unset, .unset, .unset, .unset] [(.int (2147483647 : Int32)), (.int (c' &&& (2147483647 : Int32))), (.int (1 : Int32))])) X0 hx rfl (hb hby at_7) rfl (by decide) ?_
      show Steps p.tables e below (s₁.setTop (mkF m 8 #[iv a, iv b, iv c', iv d, .unset, .unset, .unset, .unset, .unset, .unset] [(.int ((c' &&& (2147483647 : Int32)) % (2147483647 : Int32))), (.int (1 : Int32))])) _
      refine XS.iadd X0.here hx rfl (hb hby at_8) rfl ?_
      refine XS.istore X0.here hx rfl (hb hby at_9) rfl (l' := #[iv a, iv b, iv c', iv d, iv ((1 : Int32) + ((c' &&& (2147483647 : Int32)) % (2147483647 : Int32))), .unset, .unset, .unset, .unset, .unset]) rfl ?_
      exact kt)
  obtain ⟨n, hn⟩ : ∃ z : Int32, z = ((1 : Int32) + ((c' &&& (2147483647 : Int32)) % (2147483647 : Int32))) := ⟨_, rfl⟩
  rw [← hn] at go108
  have hn1 := own_n c' n hn
  have hn0 := own_ne0 n hn1
  have go109 : own_S p e below ST s₁ (mkF m 20 #[iv a, iv b, iv c', iv d, iv n, iv ((a &&& (2147483647 : Int32)) % n), .unset, .unset, .unset, .unset] []) := fun tt kt => go108 tt (by
      refine XS.iloadN X0.here hx rfl (hb hby at_11) rfl ?_
      refine X0.ldcInt hx hown (mvT hZ (W 0 rfl)) (g := (mkF m 12 #[iv a, iv b, iv c', iv d, iv n, .unset, .unset, .unset, .unset, .unset] [(.int a)])) rfl (hb hby at_12) _ ?_
      refine XS.iand X0.here hx rfl (hb hby at_14) rfl ?_
      refine XS.iload X0.here hx rfl (hb hby at_15) rfl ?_
      refine iremM (g := (mkF m 17 #[iv a, iv b, iv c', iv d, iv n, .unset, .unset, .unset, .unset, .unset] [(.int n), (.int (a &&& (2147483647 : Int32)))])) X0 hx rfl (hb hby at_17) rfl hn0 ?_
      refine XS.istore X0.here hx rfl (hb hby at_18) rfl (l' := #[iv a, iv b, iv c', iv d, iv n, iv ((a &&& (2147483647 : Int32)) % n), .unset, .unset, .unset, .unset]) rfl ?_
      exact kt)
  obtain ⟨first, hfirst⟩ : ∃ z : Int32, z = ((a &&& (2147483647 : Int32)) % n) := ⟨_, rfl⟩
  rw [← hfirst] at go109
  have hf := own_in a n first hn1 hfirst
  have go110 : own_S p e below ST s₁ (mkF m 25 #[iv a, iv b, iv c', iv d, iv n, iv first, iv (d &&& (3 : Int32)), .unset, .unset, .unset] []) := fun tt kt => go109 tt (by
      refine XS.iloadN X0.here hx rfl (hb hby at_20) rfl ?_
      refine XS.iconst X0.here hx rfl (hb hby at_21) ?_
      refine XS.iand X0.here hx rfl (hb hby at_22) rfl ?_
      refine XS.istore X0.here hx rfl (hb hby at_23) rfl (l' := #[iv a, iv b, iv c', iv d, iv n, iv first, iv (d &&& (3 : Int32)), .unset, .unset, .unset]) rfl ?_
      exact kt)
  obtain ⟨mode, hmode⟩ : ∃ z : Int32, z = (d &&& (3 : Int32)) := ⟨_, rfl⟩
  rw [← hmode] at go110
  have go111 : own_S p e below ST s₁ (mkF m 27 #[iv a, iv b, iv c', iv d, iv n, iv first, iv mode, .unset, .unset, .unset] [(.int mode)]) := fun tt kt => go110 tt (by
      refine XS.iload X0.here hx rfl (hb hby at_25) rfl ?_
      exact kt)
  obtain ⟨second, hsecond, sg112⟩ : ∃ (second : Int32), second = (if mode = (0 : Int32) then (if first = (n - (1 : Int32)) then (0 : Int32) else (first + (1 : Int32))) else (if mode = (1 : Int32) then (if first = (0 : Int32) then (n - (1 : Int32)) else (first - (1 : Int32))) else ((b &&& (2147483647 : Int32)) % n))) ∧ ∀ tt, Steps p.tables e below (s₁.setTop (mkF m 88 #[iv a, iv b, iv c', iv d, iv n, iv first, iv mode, iv second, .unset, .unset] [])) tt → Steps p.tables e below (s₁.setTop (mkF m 27 #[iv a, iv b, iv c', iv d, iv n, iv first, iv mode, .unset, .unset, .unset] [(.int mode)])) tt := by
    by_cases hd27_0 : mode = (0 : Int32)
    · by_cases hd36_1 : first = (n - (1 : Int32))
      · refine ⟨_, ((if_pos hd27_0).trans (if_pos hd36_1)).symm, fun tt kt => ?_⟩
        show Steps p.tables e below (s₁.setTop (mkF m 27 #[iv a, iv b, iv c', iv d, iv n, iv first, iv mode, .unset, .unset, .unset] [(.int mode)])) _
        refine XS.ifNo X0.here hx rfl (hb hby at_27) rfl ((if0 _ _).trans (teq hd27_0).2) ?_
        refine XS.iload X0.here hx rfl (hb hby at_30) rfl ?_
        refine XS.iload X0.here hx rfl (hb hby at_32) rfl ?_
        refine XS.iconst X0.here hx rfl (hb hby at_34) ?_
        refine XS.isub X0.here hx rfl (hb hby at_35) rfl ?_
        refine XS.icmpNo X0.here hx rfl (hb hby at_36) rfl (teq hd36_1).2 ?_
        show Steps p.tables e below (s₁.setTop (mkF m 39 #[iv a, iv b, iv c', iv d, iv n, iv first, iv mode, .unset, .unset, .unset] [])) _
        refine XS.iconst X0.here hx rfl (hb hby at_39) ?_
        refine XS.goto X0.here hx rfl (pc0 := 40) (pc' := 47) rfl (hb hby at_40) (by decide) (by decide) ?_
        refine XS.istore X0.here hx rfl (hb hby at_47) rfl (l' := #[iv a, iv b, iv c', iv d, iv n, iv first, iv mode, iv (0 : Int32), .unset, .unset]) rfl ?_
        refine XS.goto X0.here hx rfl (pc0 := 49) (pc' := 88) rfl (hb hby at_49) (by decide) (by decide) ?_
        exact kt
      · refine ⟨_, ((if_pos hd27_0).trans (if_neg hd36_1)).symm, fun tt kt => ?_⟩
        show Steps p.tables e below (s₁.setTop (mkF m 27 #[iv a, iv b, iv c', iv d, iv n, iv first, iv mode, .unset, .unset, .unset] [(.int mode)])) _
        refine XS.ifNo X0.here hx rfl (hb hby at_27) rfl ((if0 _ _).trans (teq hd27_0).2) ?_
        refine XS.iload X0.here hx rfl (hb hby at_30) rfl ?_
        refine XS.iload X0.here hx rfl (hb hby at_32) rfl ?_
        refine XS.iconst X0.here hx rfl (hb hby at_34) ?_
        refine XS.isub X0.here hx rfl (hb hby at_35) rfl ?_
        refine XS.icmpYes X0.here hx rfl (pc0 := 36) (pc' := 43) rfl (hb hby at_36) rfl (feq hd36_1).2 (by decide) (by decide) ?_
        show Steps p.tables e below (s₁.setTop (mkF m 43 #[iv a, iv b, iv c', iv d, iv n, iv first, iv mode, .unset, .unset, .unset] [])) _
        refine XS.iload X0.here hx rfl (hb hby at_43) rfl ?_
        refine XS.iconst X0.here hx rfl (hb hby at_45) ?_
        refine XS.iadd X0.here hx rfl (hb hby at_46) rfl ?_
        refine XS.istore X0.here hx rfl (hb hby at_47) rfl (l' := #[iv a, iv b, iv c', iv d, iv n, iv first, iv mode, iv (first + (1 : Int32)), .unset, .unset]) rfl ?_
        refine XS.goto X0.here hx rfl (pc0 := 49) (pc' := 88) rfl (hb hby at_49) (by decide) (by decide) ?_
        exact kt
    · by_cases hd55_1 : mode = (1 : Int32)
      · by_cases hd60_2 : first = (0 : Int32)
        · refine ⟨_, (((if_neg hd27_0).trans (if_pos hd55_1)).trans (if_pos hd60_2)).symm, fun tt kt => ?_⟩
          show Steps p.tables e below (s₁.setTop (mkF m 27 #[iv a, iv b, iv c', iv d, iv n, iv first, iv mode, .unset, .unset, .unset] [(.int mode)])) _
          refine XS.ifYes X0.here hx rfl (pc0 := 27) (pc' := 52) rfl (hb hby at_27) rfl ((if0 _ _).trans (feq hd27_0).2) (by decide) (by decide) ?_
          refine XS.iload X0.here hx rfl (hb hby at_52) rfl ?_
          refine XS.iconst X0.here hx rfl (hb hby at_54) ?_
          refine XS.icmpNo X0.here hx rfl (hb hby at_55) rfl (teq hd55_1).2 ?_
          refine XS.iload X0.here hx rfl (hb hby at_58) rfl ?_
          refine XS.ifNo X0.here hx rfl (hb hby at_60) rfl ((if0 _ _).trans (teq hd60_2).2) ?_
          show Steps p.tables e below (s₁.setTop (mkF m 63 #[iv a, iv b, iv c', iv d, iv n, iv first, iv mode, .unset, .unset, .unset] [])) _
          refine XS.iload X0.here hx rfl (hb hby at_63) rfl ?_
          refine XS.iconst X0.here hx rfl (hb hby at_65) ?_
          refine XS.isub X0.here hx rfl (hb hby at_66) rfl ?_
          refine XS.goto X0.here hx rfl (pc0 := 67) (pc' := 74) rfl (hb hby at_67) (by decide) (by decide) ?_
          refine XS.istore X0.here hx rfl (hb hby at_74) rfl (l' := #[iv a, iv b, iv c', iv d, iv n, iv first, iv mode, iv (n - (1 : Int32)), .unset, .unset]) rfl ?_
          refine XS.goto X0.here hx rfl (pc0 := 76) (pc' := 88) rfl (hb hby at_76) (by decide) (by decide) ?_
          exact kt
        · refine ⟨_, (((if_neg hd27_0).trans (if_pos hd55_1)).trans (if_neg hd60_2)).symm, fun tt kt => ?_⟩
          show Steps p.tables e below (s₁.setTop (mkF m 27 #[iv a, iv b, iv c', iv d, iv n, iv first, iv mode, .unset, .unset, .unset] [(.int mode)])) _
          refine XS.ifYes X0.here hx rfl (pc0 := 27) (pc' := 52) rfl (hb hby at_27) rfl ((if0 _ _).trans (feq hd27_0).2) (by decide) (by decide) ?_
          refine XS.iload X0.here hx rfl (hb hby at_52) rfl ?_
          refine XS.iconst X0.here hx rfl (hb hby at_54) ?_
          refine XS.icmpNo X0.here hx rfl (hb hby at_55) rfl (teq hd55_1).2 ?_
          refine XS.iload X0.here hx rfl (hb hby at_58) rfl ?_
          refine XS.ifYes X0.here hx rfl (pc0 := 60) (pc' := 70) rfl (hb hby at_60) rfl ((if0 _ _).trans (feq hd60_2).2) (by decide) (by decide) ?_
          show Steps p.tables e below (s₁.setTop (mkF m 70 #[iv a, iv b, iv c', iv d, iv n, iv first, iv mode, .unset, .unset, .unset] [])) _
          refine XS.iload X0.here hx rfl (hb hby at_70) rfl ?_
          refine XS.iconst X0.here hx rfl (hb hby at_72) ?_
          refine XS.isub X0.here hx rfl (hb hby at_73) rfl ?_
          refine XS.istore X0.here hx rfl (hb hby at_74) rfl (l' := #[iv a, iv b, iv c', iv d, iv n, iv first, iv mode, iv (first - (1 : Int32)), .unset, .unset]) rfl ?_
          refine XS.goto X0.here hx rfl (pc0 := 76) (pc' := 88) rfl (hb hby at_76) (by decide) (by decide) ?_
          exact kt
      · refine ⟨_, ((if_neg hd27_0).trans (if_neg hd55_1)).symm, fun tt kt => ?_⟩
        show Steps p.tables e below (s₁.setTop (mkF m 27 #[iv a, iv b, iv c', iv d, iv n, iv first, iv mode, .unset, .unset, .unset] [(.int mode)])) _
        refine XS.ifYes X0.here hx rfl (pc0 := 27) (pc' := 52) rfl (hb hby at_27) rfl ((if0 _ _).trans (feq hd27_0).2) (by decide) (by decide) ?_
        refine XS.iload X0.here hx rfl (hb hby at_52) rfl ?_
        refine XS.iconst X0.here hx rfl (hb hby at_54) ?_
        refine XS.icmpYes X0.here hx rfl (pc0 := 55) (pc' := 79) rfl (hb hby at_55) rfl (feq hd55_1).2 (by decide) (by decide) ?_
        refine XS.iloadN X0.here hx rfl (hb hby at_79) rfl ?_
        refine X0.ldcInt hx hown (mvT hZ (W 0 rfl)) (g := (mkF m 80 #[iv a, iv b, iv c', iv d, iv n, iv first, iv mode, .unset, .unset, .unset] [(.int b)])) rfl (hb hby at_80) _ ?_
        show Steps p.tables e below (s₁.setTop (mkF m 82 #[iv a, iv b, iv c', iv d, iv n, iv first, iv mode, .unset, .unset, .unset] [(.int (2147483647 : Int32)), (.int b)])) _
        refine XS.iand X0.here hx rfl (hb hby at_82) rfl ?_
        refine XS.iload X0.here hx rfl (hb hby at_83) rfl ?_
        refine iremM (g := (mkF m 85 #[iv a, iv b, iv c', iv d, iv n, iv first, iv mode, .unset, .unset, .unset] [(.int n), (.int (b &&& (2147483647 : Int32)))])) X0 hx rfl (hb hby at_85) rfl hn0 ?_
        refine XS.istore X0.here hx rfl (hb hby at_86) rfl (l' := #[iv a, iv b, iv c', iv d, iv n, iv first, iv mode, iv ((b &&& (2147483647 : Int32)) % n), .unset, .unset]) rfl ?_
        exact kt
  have go113 : own_S p e below ST s₁ (mkF m 88 #[iv a, iv b, iv c', iv d, iv n, iv first, iv mode, iv second, .unset, .unset] []) := fun tt kt => go111 tt (sg112 _ kt)
  have hs := own_sec b n mode first second hn1 hf hsecond
  have go114 : own_S p e below ST s₁ (mkF m 94 #[iv a, iv b, iv c', iv d, iv n, iv first, iv mode, iv second, .unset, .unset] [(.int n), (.int second), (.int first)]) := fun tt kt => go113 tt (by
      refine XS.iload X0.here hx rfl (hb hby at_88) rfl ?_
      refine XS.iload X0.here hx rfl (hb hby at_90) rfl ?_
      refine XS.iload X0.here hx rfl (hb hby at_92) rfl ?_
      exact kt)
  obtain ⟨_, _, ⟨T115, L115, k115, n115⟩, -, X115, ⟨Lc115, hQ115, l115, y115, z115⟩, st115⟩ := Jvm.LawKit.callS X0 hx (y := (⟨"com/example/inscribe/inscribe/algorithm/Route", "cycleEdgeStart", "(III)I"⟩ : MethodName)) hown (mvT hZ (W 1 rfl)) (mvT hZ (W 2 rfl)) (mvT hZ (W 3 rfl)) (mvT hZ (W 4 rfl)) (by decide) (backOf (W := 0) (rm1 l Z a0 hw [] first second n h0 n0 Z0 hn0) hZ (W 4 rfl) (W 3 rfl) (by decide) (by decide)) (g := (mkF m 94 #[iv a, iv b, iv c', iv d, iv n, iv first, iv mode, iv second, .unset, .unset] [(.int n), (.int second), (.int first)])) rfl (by rw [hml]; rfl) (argsL := [(.int first), (.int second), (.int n)]) (rest := []) (lenOf pd22 rfl) rfl (by show 2 * 0 + _ ≤ _; exact Nat.le_of_eq rfl) (hb hby at_94) (fun _ _ => ⟨rfl, e0, (by decide : 0 + 0 ≤ _), (by decide : 0 + 0 ≤ _)⟩)
  dsimp only [Pt.U, Pt.locs, Pt.cells, Pt.slots] at X115 l115 y115 z115 st115 hQ115
  subst l115 y115 z115
  obtain ⟨rfl, Nq115, eh115⟩ := hQ115
  have N115 := Fr.app N0 Nq115
  have go116 : own_S p e below ST T115 (mkF m 97 #[iv a, iv b, iv c', iv d, iv n, iv first, iv mode, iv second, .unset, .unset] [(.int (own_cyc first second n))]) := fun tt kt => go114 tt (st115 _ kt)
  have go117 : own_S p e below ST T115 (mkF m 99 #[iv a, iv b, iv c', iv d, iv n, iv first, iv mode, iv second, iv (own_cyc first second n), .unset] []) := fun tt kt => go116 tt (by
      refine XS.istore X115.here hx rfl (hb hby at_97) rfl (l' := #[iv a, iv b, iv c', iv d, iv n, iv first, iv mode, iv second, iv (own_cyc first second n), .unset]) rfl ?_
      exact kt)
  obtain ⟨got, hgot⟩ : ∃ z : Int32, z = (own_cyc first second n) := ⟨_, rfl⟩
  rw [← hgot] at go117
  have go118 : own_S p e below ST T115 (mkF m 105 #[iv a, iv b, iv c', iv d, iv n, iv first, iv mode, iv second, iv got, .unset] [(.int (1 : Int32)), (.int (second - first))]) := fun tt kt => go117 tt (by
      refine XS.iload X115.here hx rfl (hb hby at_99) rfl ?_
      refine XS.iload X115.here hx rfl (hb hby at_101) rfl ?_
      refine XS.isub X115.here hx rfl (hb hby at_103) rfl ?_
      refine XS.iconst X115.here hx rfl (hb hby at_104) ?_
      exact kt)
  obtain ⟨expected, hexpected, sg119⟩ : ∃ (expected : Int32), expected = (if (second - first) = (1 : Int32) then first else (if first = (n - (1 : Int32)) then (if second = (0 : Int32) then first else (if (first - second) = (1 : Int32) then second else (if second = (n - (1 : Int32)) then (if first = (0 : Int32) then second else (-1 : Int32)) else (-1 : Int32)))) else (if (first - second) = (1 : Int32) then second else (if second = (n - (1 : Int32)) then (if first = (0 : Int32) then second else (-1 : Int32)) else (-1 : Int32))))) ∧ ∀ tt, Steps p.tables e below (T115.setTop (mkF m 162 #[iv a, iv b, iv c', iv d, iv n, iv first, iv mode, iv second, iv got, iv expected] [])) tt → Steps p.tables e below (T115.setTop (mkF m 105 #[iv a, iv b, iv c', iv d, iv n, iv first, iv mode, iv second, iv got, .unset] [(.int (1 : Int32)), (.int (second - first))])) tt := by
    by_cases hd105_0 : (second - first) = (1 : Int32)
    · refine ⟨_, (if_pos hd105_0).symm, fun tt kt => ?_⟩
      show Steps p.tables e below (T115.setTop (mkF m 105 #[iv a, iv b, iv c', iv d, iv n, iv first, iv mode, iv second, iv got, .unset] [(.int (1 : Int32)), (.int (second - first))])) _
      refine XS.icmpYes X115.here hx rfl (pc0 := 105) (pc' := 122) rfl (hb hby at_105) rfl (teq hd105_0).1 (by decide) (by decide) ?_
      refine XS.iload X115.here hx rfl (hb hby at_122) rfl ?_
      refine XS.istore X115.here hx rfl (hb hby at_124) rfl (l' := #[iv a, iv b, iv c', iv d, iv n, iv first, iv mode, iv second, iv got, iv first]) rfl ?_
      refine XS.goto X115.here hx rfl (pc0 := 126) (pc' := 162) rfl (hb hby at_126) (by decide) (by decide) ?_
      exact kt
    · by_cases hd114_1 : first = (n - (1 : Int32))
      · by_cases hd119_2 : second = (0 : Int32)
        · refine ⟨_, (((if_neg hd105_0).trans (if_pos hd114_1)).trans (if_pos hd119_2)).symm, fun tt kt => ?_⟩
          show Steps p.tables e below (T115.setTop (mkF m 105 #[iv a, iv b, iv c', iv d, iv n, iv first, iv mode, iv second, iv got, .unset] [(.int (1 : Int32)), (.int (second - first))])) _
          refine XS.icmpNo X115.here hx rfl (hb hby at_105) rfl (feq hd105_0).1 ?_
          refine XS.iload X115.here hx rfl (hb hby at_108) rfl ?_
          refine XS.iload X115.here hx rfl (hb hby at_110) rfl ?_
          refine XS.iconst X115.here hx rfl (hb hby at_112) ?_
          refine XS.isub X115.here hx rfl (hb hby at_113) rfl ?_
          refine XS.icmpNo X115.here hx rfl (hb hby at_114) rfl (teq hd114_1).2 ?_
          show Steps p.tables e below (T115.setTop (mkF m 117 #[iv a, iv b, iv c', iv d, iv n, iv first, iv mode, iv second, iv got, .unset] [])) _
          refine XS.iload X115.here hx rfl (hb hby at_117) rfl ?_
          refine XS.ifNo X115.here hx rfl (hb hby at_119) rfl ((if0 _ _).trans (teq hd119_2).2) ?_
          refine XS.iload X115.here hx rfl (hb hby at_122) rfl ?_
          refine XS.istore X115.here hx rfl (hb hby at_124) rfl (l' := #[iv a, iv b, iv c', iv d, iv n, iv first, iv mode, iv second, iv got, iv first]) rfl ?_
          refine XS.goto X115.here hx rfl (pc0 := 126) (pc' := 162) rfl (hb hby at_126) (by decide) (by decide) ?_
          exact kt
        · by_cases hd135_3 : (first - second) = (1 : Int32)
          · refine ⟨_, ((((if_neg hd105_0).trans (if_pos hd114_1)).trans (if_neg hd119_2)).trans (if_pos hd135_3)).symm, fun tt kt => ?_⟩
            show Steps p.tables e below (T115.setTop (mkF m 105 #[iv a, iv b, iv c', iv d, iv n, iv first, iv mode, iv second, iv got, .unset] [(.int (1 : Int32)), (.int (second - first))])) _
            refine XS.icmpNo X115.here hx rfl (hb hby at_105) rfl (feq hd105_0).1 ?_
            refine XS.iload X115.here hx rfl (hb hby at_108) rfl ?_
            refine XS.iload X115.here hx rfl (hb hby at_110) rfl ?_
            refine XS.iconst X115.here hx rfl (hb hby at_112) ?_
            refine XS.isub X115.here hx rfl (hb hby at_113) rfl ?_
            refine XS.icmpNo X115.here hx rfl (hb hby at_114) rfl (teq hd114_1).2 ?_
            show Steps p.tables e below (T115.setTop (mkF m 117 #[iv a, iv b, iv c', iv d, iv n, iv first, iv mode, iv second, iv got, .unset] [])) _
            refine XS.iload X115.here hx rfl (hb hby at_117) rfl ?_
            refine XS.ifYes X115.here hx rfl (pc0 := 119) (pc' := 129) rfl (hb hby at_119) rfl ((if0 _ _).trans (feq hd119_2).2) (by decide) (by decide) ?_
            refine XS.iload X115.here hx rfl (hb hby at_129) rfl ?_
            refine XS.iload X115.here hx rfl (hb hby at_131) rfl ?_
            refine XS.isub X115.here hx rfl (hb hby at_133) rfl ?_
            refine XS.iconst X115.here hx rfl (hb hby at_134) ?_
            show Steps p.tables e below (T115.setTop (mkF m 135 #[iv a, iv b, iv c', iv d, iv n, iv first, iv mode, iv second, iv got, .unset] [(.int (1 : Int32)), (.int (first - second))])) _
            refine XS.icmpYes X115.here hx rfl (pc0 := 135) (pc' := 152) rfl (hb hby at_135) rfl (teq hd135_3).1 (by decide) (by decide) ?_
            refine XS.iload X115.here hx rfl (hb hby at_152) rfl ?_
            refine XS.istore X115.here hx rfl (hb hby at_154) rfl (l' := #[iv a, iv b, iv c', iv d, iv n, iv first, iv mode, iv second, iv got, iv second]) rfl ?_
            refine XS.goto X115.here hx rfl (pc0 := 156) (pc' := 162) rfl (hb hby at_156) (by decide) (by decide) ?_
            exact kt
          · by_cases hd144_4 : second = (n - (1 : Int32))
            · by_cases hd149_5 : first = (0 : Int32)
              · refine ⟨_, ((((((if_neg hd105_0).trans (if_pos hd114_1)).trans (if_neg hd119_2)).trans (if_neg hd135_3)).trans (if_pos hd144_4)).trans (if_pos hd149_5)).symm, fun tt kt => ?_⟩
                show Steps p.tables e below (T115.setTop (mkF m 105 #[iv a, iv b, iv c', iv d, iv n, iv first, iv mode, iv second, iv got, .unset] [(.int (1 : Int32)), (.int (second - first))])) _
                refine XS.icmpNo X115.here hx rfl (hb hby at_105) rfl (feq hd105_0).1 ?_
                refine XS.iload X115.here hx rfl (hb hby at_108) rfl ?_
                refine XS.iload X115.here hx rfl (hb hby at_110) rfl ?_
                refine XS.iconst X115.here hx rfl (hb hby at_112) ?_
                refine XS.isub X115.here hx rfl (hb hby at_113) rfl ?_
                refine XS.icmpNo X115.here hx rfl (hb hby at_114) rfl (teq hd114_1).2 ?_
                show Steps p.tables e below (T115.setTop (mkF m 117 #[iv a, iv b, iv c', iv d, iv n, iv first, iv mode, iv second, iv got, .unset] [])) _
                refine XS.iload X115.here hx rfl (hb hby at_117) rfl ?_
                refine XS.ifYes X115.here hx rfl (pc0 := 119) (pc' := 129) rfl (hb hby at_119) rfl ((if0 _ _).trans (feq hd119_2).2) (by decide) (by decide) ?_
                refine XS.iload X115.here hx rfl (hb hby at_129) rfl ?_
                refine XS.iload X115.here hx rfl (hb hby at_131) rfl ?_
                refine XS.isub X115.here hx rfl (hb hby at_133) rfl ?_
                refine XS.iconst X115.here hx rfl (hb hby at_134) ?_
                show Steps p.tables e below (T115.setTop (mkF m 135 #[iv a, iv b, iv c', iv d, iv n, iv first, iv mode, iv second, iv got, .unset] [(.int (1 : Int32)), (.int (first - second))])) _
                refine XS.icmpNo X115.here hx rfl (hb hby at_135) rfl (feq hd135_3).1 ?_
                refine XS.iload X115.here hx rfl (hb hby at_138) rfl ?_
                refine XS.iload X115.here hx rfl (hb hby at_140) rfl ?_
                refine XS.iconst X115.here hx rfl (hb hby at_142) ?_
                refine XS.isub X115.here hx rfl (hb hby at_143) rfl ?_
                refine XS.icmpNo X115.here hx rfl (hb hby at_144) rfl (teq hd144_4).2 ?_
                show Steps p.tables e below (T115.setTop (mkF m 147 #[iv a, iv b, iv c', iv d, iv n, iv first, iv mode, iv second, iv got, .unset] [])) _
                refine XS.iload X115.here hx rfl (hb hby at_147) rfl ?_
                refine XS.ifNo X115.here hx rfl (hb hby at_149) rfl ((if0 _ _).trans (teq hd149_5).2) ?_
                refine XS.iload X115.here hx rfl (hb hby at_152) rfl ?_
                refine XS.istore X115.here hx rfl (hb hby at_154) rfl (l' := #[iv a, iv b, iv c', iv d, iv n, iv first, iv mode, iv second, iv got, iv second]) rfl ?_
                refine XS.goto X115.here hx rfl (pc0 := 156) (pc' := 162) rfl (hb hby at_156) (by decide) (by decide) ?_
                exact kt
              · refine ⟨_, ((((((if_neg hd105_0).trans (if_pos hd114_1)).trans (if_neg hd119_2)).trans (if_neg hd135_3)).trans (if_pos hd144_4)).trans (if_neg hd149_5)).symm, fun tt kt => ?_⟩
                show Steps p.tables e below (T115.setTop (mkF m 105 #[iv a, iv b, iv c', iv d, iv n, iv first, iv mode, iv second, iv got, .unset] [(.int (1 : Int32)), (.int (second - first))])) _
                refine XS.icmpNo X115.here hx rfl (hb hby at_105) rfl (feq hd105_0).1 ?_
                refine XS.iload X115.here hx rfl (hb hby at_108) rfl ?_
                refine XS.iload X115.here hx rfl (hb hby at_110) rfl ?_
                refine XS.iconst X115.here hx rfl (hb hby at_112) ?_
                refine XS.isub X115.here hx rfl (hb hby at_113) rfl ?_
                refine XS.icmpNo X115.here hx rfl (hb hby at_114) rfl (teq hd114_1).2 ?_
                show Steps p.tables e below (T115.setTop (mkF m 117 #[iv a, iv b, iv c', iv d, iv n, iv first, iv mode, iv second, iv got, .unset] [])) _
                refine XS.iload X115.here hx rfl (hb hby at_117) rfl ?_
                refine XS.ifYes X115.here hx rfl (pc0 := 119) (pc' := 129) rfl (hb hby at_119) rfl ((if0 _ _).trans (feq hd119_2).2) (by decide) (by decide) ?_
                refine XS.iload X115.here hx rfl (hb hby at_129) rfl ?_
                refine XS.iload X115.here hx rfl (hb hby at_131) rfl ?_
                refine XS.isub X115.here hx rfl (hb hby at_133) rfl ?_
                refine XS.iconst X115.here hx rfl (hb hby at_134) ?_
                show Steps p.tables e below (T115.setTop (mkF m 135 #[iv a, iv b, iv c', iv d, iv n, iv first, iv mode, iv second, iv got, .unset] [(.int (1 : Int32)), (.int (first - second))])) _
                refine XS.icmpNo X115.here hx rfl (hb hby at_135) rfl (feq hd135_3).1 ?_
                refine XS.iload X115.here hx rfl (hb hby at_138) rfl ?_
                refine XS.iload X115.here hx rfl (hb hby at_140) rfl ?_
                refine XS.iconst X115.here hx rfl (hb hby at_142) ?_
                refine XS.isub X115.here hx rfl (hb hby at_143) rfl ?_
                refine XS.icmpNo X115.here hx rfl (hb hby at_144) rfl (teq hd144_4).2 ?_
                show Steps p.tables e below (T115.setTop (mkF m 147 #[iv a, iv b, iv c', iv d, iv n, iv first, iv mode, iv second, iv got, .unset] [])) _
                refine XS.iload X115.here hx rfl (hb hby at_147) rfl ?_
                refine XS.ifYes X115.here hx rfl (pc0 := 149) (pc' := 159) rfl (hb hby at_149) rfl ((if0 _ _).trans (feq hd149_5).2) (by decide) (by decide) ?_
                refine XS.iconst X115.here hx rfl (hb hby at_159) ?_
                refine XS.istore X115.here hx rfl (hb hby at_160) rfl (l' := #[iv a, iv b, iv c', iv d, iv n, iv first, iv mode, iv second, iv got, iv (-1 : Int32)]) rfl ?_
                exact kt
            · refine ⟨_, (((((if_neg hd105_0).trans (if_pos hd114_1)).trans (if_neg hd119_2)).trans (if_neg hd135_3)).trans (if_neg hd144_4)).symm, fun tt kt => ?_⟩
              show Steps p.tables e below (T115.setTop (mkF m 105 #[iv a, iv b, iv c', iv d, iv n, iv first, iv mode, iv second, iv got, .unset] [(.int (1 : Int32)), (.int (second - first))])) _
              refine XS.icmpNo X115.here hx rfl (hb hby at_105) rfl (feq hd105_0).1 ?_
              refine XS.iload X115.here hx rfl (hb hby at_108) rfl ?_
              refine XS.iload X115.here hx rfl (hb hby at_110) rfl ?_
              refine XS.iconst X115.here hx rfl (hb hby at_112) ?_
              refine XS.isub X115.here hx rfl (hb hby at_113) rfl ?_
              refine XS.icmpNo X115.here hx rfl (hb hby at_114) rfl (teq hd114_1).2 ?_
              show Steps p.tables e below (T115.setTop (mkF m 117 #[iv a, iv b, iv c', iv d, iv n, iv first, iv mode, iv second, iv got, .unset] [])) _
              refine XS.iload X115.here hx rfl (hb hby at_117) rfl ?_
              refine XS.ifYes X115.here hx rfl (pc0 := 119) (pc' := 129) rfl (hb hby at_119) rfl ((if0 _ _).trans (feq hd119_2).2) (by decide) (by decide) ?_
              refine XS.iload X115.here hx rfl (hb hby at_129) rfl ?_
              refine XS.iload X115.here hx rfl (hb hby at_131) rfl ?_
              refine XS.isub X115.here hx rfl (hb hby at_133) rfl ?_
              refine XS.iconst X115.here hx rfl (hb hby at_134) ?_
              show Steps p.tables e below (T115.setTop (mkF m 135 #[iv a, iv b, iv c', iv d, iv n, iv first, iv mode, iv second, iv got, .unset] [(.int (1 : Int32)), (.int (first - second))])) _
              refine XS.icmpNo X115.here hx rfl (hb hby at_135) rfl (feq hd135_3).1 ?_
              refine XS.iload X115.here hx rfl (hb hby at_138) rfl ?_
              refine XS.iload X115.here hx rfl (hb hby at_140) rfl ?_
              refine XS.iconst X115.here hx rfl (hb hby at_142) ?_
              refine XS.isub X115.here hx rfl (hb hby at_143) rfl ?_
              refine XS.icmpYes X115.here hx rfl (pc0 := 144) (pc' := 159) rfl (hb hby at_144) rfl (feq hd144_4).2 (by decide) (by decide) ?_
              show Steps p.tables e below (T115.setTop (mkF m 159 #[iv a, iv b, iv c', iv d, iv n, iv first, iv mode, iv second, iv got, .unset] [])) _
              refine XS.iconst X115.here hx rfl (hb hby at_159) ?_
              refine XS.istore X115.here hx rfl (hb hby at_160) rfl (l' := #[iv a, iv b, iv c', iv d, iv n, iv first, iv mode, iv second, iv got, iv (-1 : Int32)]) rfl ?_
              exact kt
      · by_cases hd135_2 : (first - second) = (1 : Int32)
        · refine ⟨_, (((if_neg hd105_0).trans (if_neg hd114_1)).trans (if_pos hd135_2)).symm, fun tt kt => ?_⟩
          show Steps p.tables e below (T115.setTop (mkF m 105 #[iv a, iv b, iv c', iv d, iv n, iv first, iv mode, iv second, iv got, .unset] [(.int (1 : Int32)), (.int (second - first))])) _
          refine XS.icmpNo X115.here hx rfl (hb hby at_105) rfl (feq hd105_0).1 ?_
          refine XS.iload X115.here hx rfl (hb hby at_108) rfl ?_
          refine XS.iload X115.here hx rfl (hb hby at_110) rfl ?_
          refine XS.iconst X115.here hx rfl (hb hby at_112) ?_
          refine XS.isub X115.here hx rfl (hb hby at_113) rfl ?_
          refine XS.icmpYes X115.here hx rfl (pc0 := 114) (pc' := 129) rfl (hb hby at_114) rfl (feq hd114_1).2 (by decide) (by decide) ?_
          show Steps p.tables e below (T115.setTop (mkF m 129 #[iv a, iv b, iv c', iv d, iv n, iv first, iv mode, iv second, iv got, .unset] [])) _
          refine XS.iload X115.here hx rfl (hb hby at_129) rfl ?_
          refine XS.iload X115.here hx rfl (hb hby at_131) rfl ?_
          refine XS.isub X115.here hx rfl (hb hby at_133) rfl ?_
          refine XS.iconst X115.here hx rfl (hb hby at_134) ?_
          refine XS.icmpYes X115.here hx rfl (pc0 := 135) (pc' := 152) rfl (hb hby at_135) rfl (teq hd135_2).1 (by decide) (by decide) ?_
          refine XS.iload X115.here hx rfl (hb hby at_152) rfl ?_
          show Steps p.tables e below (T115.setTop (mkF m 154 #[iv a, iv b, iv c', iv d, iv n, iv first, iv mode, iv second, iv got, .unset] [(.int second)])) _
          refine XS.istore X115.here hx rfl (hb hby at_154) rfl (l' := #[iv a, iv b, iv c', iv d, iv n, iv first, iv mode, iv second, iv got, iv second]) rfl ?_
          refine XS.goto X115.here hx rfl (pc0 := 156) (pc' := 162) rfl (hb hby at_156) (by decide) (by decide) ?_
          exact kt
        · by_cases hd144_3 : second = (n - (1 : Int32))
          · by_cases hd149_4 : first = (0 : Int32)
            · refine ⟨_, (((((if_neg hd105_0).trans (if_neg hd114_1)).trans (if_neg hd135_2)).trans (if_pos hd144_3)).trans (if_pos hd149_4)).symm, fun tt kt => ?_⟩
              show Steps p.tables e below (T115.setTop (mkF m 105 #[iv a, iv b, iv c', iv d, iv n, iv first, iv mode, iv second, iv got, .unset] [(.int (1 : Int32)), (.int (second - first))])) _
              refine XS.icmpNo X115.here hx rfl (hb hby at_105) rfl (feq hd105_0).1 ?_
              refine XS.iload X115.here hx rfl (hb hby at_108) rfl ?_
              refine XS.iload X115.here hx rfl (hb hby at_110) rfl ?_
              refine XS.iconst X115.here hx rfl (hb hby at_112) ?_
              refine XS.isub X115.here hx rfl (hb hby at_113) rfl ?_
              refine XS.icmpYes X115.here hx rfl (pc0 := 114) (pc' := 129) rfl (hb hby at_114) rfl (feq hd114_1).2 (by decide) (by decide) ?_
              show Steps p.tables e below (T115.setTop (mkF m 129 #[iv a, iv b, iv c', iv d, iv n, iv first, iv mode, iv second, iv got, .unset] [])) _
              refine XS.iload X115.here hx rfl (hb hby at_129) rfl ?_
              refine XS.iload X115.here hx rfl (hb hby at_131) rfl ?_
              refine XS.isub X115.here hx rfl (hb hby at_133) rfl ?_
              refine XS.iconst X115.here hx rfl (hb hby at_134) ?_
              refine XS.icmpNo X115.here hx rfl (hb hby at_135) rfl (feq hd135_2).1 ?_
              refine XS.iload X115.here hx rfl (hb hby at_138) rfl ?_
              show Steps p.tables e below (T115.setTop (mkF m 140 #[iv a, iv b, iv c', iv d, iv n, iv first, iv mode, iv second, iv got, .unset] [(.int second)])) _
              refine XS.iload X115.here hx rfl (hb hby at_140) rfl ?_
              refine XS.iconst X115.here hx rfl (hb hby at_142) ?_
              refine XS.isub X115.here hx rfl (hb hby at_143) rfl ?_
              refine XS.icmpNo X115.here hx rfl (hb hby at_144) rfl (teq hd144_3).2 ?_
              refine XS.iload X115.here hx rfl (hb hby at_147) rfl ?_
              refine XS.ifNo X115.here hx rfl (hb hby at_149) rfl ((if0 _ _).trans (teq hd149_4).2) ?_
              show Steps p.tables e below (T115.setTop (mkF m 152 #[iv a, iv b, iv c', iv d, iv n, iv first, iv mode, iv second, iv got, .unset] [])) _
              refine XS.iload X115.here hx rfl (hb hby at_152) rfl ?_
              refine XS.istore X115.here hx rfl (hb hby at_154) rfl (l' := #[iv a, iv b, iv c', iv d, iv n, iv first, iv mode, iv second, iv got, iv second]) rfl ?_
              refine XS.goto X115.here hx rfl (pc0 := 156) (pc' := 162) rfl (hb hby at_156) (by decide) (by decide) ?_
              exact kt
            · refine ⟨_, (((((if_neg hd105_0).trans (if_neg hd114_1)).trans (if_neg hd135_2)).trans (if_pos hd144_3)).trans (if_neg hd149_4)).symm, fun tt kt => ?_⟩
              show Steps p.tables e below (T115.setTop (mkF m 105 #[iv a, iv b, iv c', iv d, iv n, iv first, iv mode, iv second, iv got, .unset] [(.int (1 : Int32)), (.int (second - first))])) _
              refine XS.icmpNo X115.here hx rfl (hb hby at_105) rfl (feq hd105_0).1 ?_
              refine XS.iload X115.here hx rfl (hb hby at_108) rfl ?_
              refine XS.iload X115.here hx rfl (hb hby at_110) rfl ?_
              refine XS.iconst X115.here hx rfl (hb hby at_112) ?_
              refine XS.isub X115.here hx rfl (hb hby at_113) rfl ?_
              refine XS.icmpYes X115.here hx rfl (pc0 := 114) (pc' := 129) rfl (hb hby at_114) rfl (feq hd114_1).2 (by decide) (by decide) ?_
              show Steps p.tables e below (T115.setTop (mkF m 129 #[iv a, iv b, iv c', iv d, iv n, iv first, iv mode, iv second, iv got, .unset] [])) _
              refine XS.iload X115.here hx rfl (hb hby at_129) rfl ?_
              refine XS.iload X115.here hx rfl (hb hby at_131) rfl ?_
              refine XS.isub X115.here hx rfl (hb hby at_133) rfl ?_
              refine XS.iconst X115.here hx rfl (hb hby at_134) ?_
              refine XS.icmpNo X115.here hx rfl (hb hby at_135) rfl (feq hd135_2).1 ?_
              refine XS.iload X115.here hx rfl (hb hby at_138) rfl ?_
              show Steps p.tables e below (T115.setTop (mkF m 140 #[iv a, iv b, iv c', iv d, iv n, iv first, iv mode, iv second, iv got, .unset] [(.int second)])) _
              refine XS.iload X115.here hx rfl (hb hby at_140) rfl ?_
              refine XS.iconst X115.here hx rfl (hb hby at_142) ?_
              refine XS.isub X115.here hx rfl (hb hby at_143) rfl ?_
              refine XS.icmpNo X115.here hx rfl (hb hby at_144) rfl (teq hd144_3).2 ?_
              refine XS.iload X115.here hx rfl (hb hby at_147) rfl ?_
              refine XS.ifYes X115.here hx rfl (pc0 := 149) (pc' := 159) rfl (hb hby at_149) rfl ((if0 _ _).trans (feq hd149_4).2) (by decide) (by decide) ?_
              show Steps p.tables e below (T115.setTop (mkF m 159 #[iv a, iv b, iv c', iv d, iv n, iv first, iv mode, iv second, iv got, .unset] [])) _
              refine XS.iconst X115.here hx rfl (hb hby at_159) ?_
              refine XS.istore X115.here hx rfl (hb hby at_160) rfl (l' := #[iv a, iv b, iv c', iv d, iv n, iv first, iv mode, iv second, iv got, iv (-1 : Int32)]) rfl ?_
              exact kt
          · refine ⟨_, ((((if_neg hd105_0).trans (if_neg hd114_1)).trans (if_neg hd135_2)).trans (if_neg hd144_3)).symm, fun tt kt => ?_⟩
            show Steps p.tables e below (T115.setTop (mkF m 105 #[iv a, iv b, iv c', iv d, iv n, iv first, iv mode, iv second, iv got, .unset] [(.int (1 : Int32)), (.int (second - first))])) _
            refine XS.icmpNo X115.here hx rfl (hb hby at_105) rfl (feq hd105_0).1 ?_
            refine XS.iload X115.here hx rfl (hb hby at_108) rfl ?_
            refine XS.iload X115.here hx rfl (hb hby at_110) rfl ?_
            refine XS.iconst X115.here hx rfl (hb hby at_112) ?_
            refine XS.isub X115.here hx rfl (hb hby at_113) rfl ?_
            refine XS.icmpYes X115.here hx rfl (pc0 := 114) (pc' := 129) rfl (hb hby at_114) rfl (feq hd114_1).2 (by decide) (by decide) ?_
            show Steps p.tables e below (T115.setTop (mkF m 129 #[iv a, iv b, iv c', iv d, iv n, iv first, iv mode, iv second, iv got, .unset] [])) _
            refine XS.iload X115.here hx rfl (hb hby at_129) rfl ?_
            refine XS.iload X115.here hx rfl (hb hby at_131) rfl ?_
            refine XS.isub X115.here hx rfl (hb hby at_133) rfl ?_
            refine XS.iconst X115.here hx rfl (hb hby at_134) ?_
            refine XS.icmpNo X115.here hx rfl (hb hby at_135) rfl (feq hd135_2).1 ?_
            refine XS.iload X115.here hx rfl (hb hby at_138) rfl ?_
            show Steps p.tables e below (T115.setTop (mkF m 140 #[iv a, iv b, iv c', iv d, iv n, iv first, iv mode, iv second, iv got, .unset] [(.int second)])) _
            refine XS.iload X115.here hx rfl (hb hby at_140) rfl ?_
            refine XS.iconst X115.here hx rfl (hb hby at_142) ?_
            refine XS.isub X115.here hx rfl (hb hby at_143) rfl ?_
            refine XS.icmpYes X115.here hx rfl (pc0 := 144) (pc' := 159) rfl (hb hby at_144) rfl (feq hd144_3).2 (by decide) (by decide) ?_
            refine XS.iconst X115.here hx rfl (hb hby at_159) ?_
            refine XS.istore X115.here hx rfl (hb hby at_160) rfl (l' := #[iv a, iv b, iv c', iv d, iv n, iv first, iv mode, iv second, iv got, iv (-1 : Int32)]) rfl ?_
            exact kt
  have go120 : own_S p e below ST T115 (mkF m 162 #[iv a, iv b, iv c', iv d, iv n, iv first, iv mode, iv second, iv got, iv expected] []) := fun tt kt => go118 tt (sg119 _ kt)
  have hfin := own_fin n first second got expected hn1 hf hs hgot hexpected
  have go121 : own_S p e below ST T115 (mkF m 166 #[iv a, iv b, iv c', iv d, iv n, iv first, iv mode, iv second, iv got, iv expected] [(.int expected), (.int got)]) := fun tt kt => go120 tt (by
      refine XS.iload X115.here hx rfl (hb hby at_162) rfl ?_
      refine XS.iload X115.here hx rfl (hb hby at_164) rfl ?_
      exact kt)
  have go122 : own_S p e below ST T115 (mkF m 174 #[iv a, iv b, iv c', iv d, iv n, iv first, iv mode, iv second, iv got, iv expected] [(.int (1 : Int32))]) := fun tt kt => go121 tt (by
      refine XS.icmpNo X115.here hx rfl (hb hby at_166) rfl (teq hfin).2 ?_
      refine XS.iconst X115.here hx rfl (hb hby at_169) ?_
      refine XS.goto X115.here hx rfl (pc0 := 170) (pc' := 174) rfl (hb hby at_170) (by decide) (by decide) ?_
      exact kt)
  obtain ⟨fs, hr, hrun, hended, hW, hsame⟩ := X115.leave (v := some (.int (1 : Int32))) (fun h => by rw [Bd.returns] at h; cases h)
  refine ⟨_, _, pre0 _ (go122 _ ?_), hrun, hended, _, _, rfl, ?_, ⟨_, rfl⟩, hW, hsame.mono (by decide) (by decide)⟩
  · exact retN X115 hx (t := .boolean) Bd.returns (by simp) (hb hby at_174) hr
  · show Q0 Z a b c' d h0 n0 _ T115.heap _
    rw [eh115]
    exact ⟨rfl, N115⟩
set_option maxRecDepth 65536 in
set_option maxHeartbeats 40000000 in
theorem comes_1 {Post : Tables → Env → Array Value → State → Outcome → State → Prop} (hpost : ∀ tb e args s v u, (limb_1_1.after args s (.returned v) u = true ∧ limb_1_2.after args s (.returned v) u = true ∧ True) → FrameEnd s (.returned v) u (Jvm.fieldLocs frame_1_writes args s ++ Jvm.arrayLocs frame_1_arrays args s ++ Jvm.staticLocs frame_1_statics s) 0 0 → Post tb e args s (.returned v) u) :
    ArmFor flags0 classFile x code maxLocals ret World_1 tables_1 room_1 Calls_1 rest_1 Pre_1 Post := by
  intro l hfl _ _ p e ha hc hk s m args below hf hA hF happ hP
  obtain ⟨hcalls, hrest, hpre⟩ := hP
  obtain ⟨-, -, -, hnamed, -, -, -, hat⟩ := (Spec.applies_iff hf).mp happ
  obtain ⟨hg, hn⟩ := and_e (Cond.before_iff.mp (show (Jvm.Cond.and given_1 narrow_1).before args s = true from hpre))
  obtain ⟨gg1, gg2⟩ := and_e hg
  obtain ⟨gg3, gg4⟩ := and_e gg2
  obtain ⟨gg5, gg6⟩ := and_e gg4
  obtain ⟨gg7, gg8⟩ := and_e gg6
  obtain ⟨w0, w1, w2, w3, rfl⟩ : ∃ w0 w1 w2 w3 : Value, args = #[w0, w1, w2, w3] := by
    have hs : args.size = 4 := by simpa [Cond.value, given_1] using gg1
    obtain ⟨L⟩ := args
    match L, hs with
    | [w0, w1, w2, w3], _ => exact ⟨w0, w1, w2, w3, rfl⟩
  have hw := fun d (hd : d ∈ tables_1) => atoms_spec (ws := Jvm.Cond.code x code maxLocals ret :: tables_1) hat d (List.mem_cons_of_mem _ hd)
  have W : ∀ {d : Jvm.Cond} (i : Nat), tables_1[i]? = some d → d.before _ s = true := fun i h => hw _ (List.mem_of_getElem? h)
  have hfit : Fit s := fun {y c} hc i hi => by
    obtain ⟨ha, rfl⟩ := Array.getElem?_eq_some_iff.mp hc
    have q := List.all_eq_true.mp ((Array.all_eq_true_iff_forall_mem.mp hF) _ (Array.getElem_mem ha)) i (List.mem_range.mpr hi)
    simpa [Array.getElem?_eq_getElem hi] using q
  obtain ⟨i0, ei0⟩ := is_v gg3
  obtain rfl : w0 = (.int i0) := Option.some.inj ei0
  obtain ⟨i1, ei1⟩ := is_v gg5
  obtain rfl : w1 = (.int i1) := Option.some.inj ei1
  obtain ⟨i2, ei2⟩ := is_v gg7
  obtain rfl : w2 = (.int i2) := Option.some.inj ei2
  obtain ⟨i3, ei3⟩ := is_v gg8
  obtain rfl : w3 = (.int i3) := Option.some.inj ei3
  obtain ⟨n, o, h1, h2, h3, _, L, rfl, ⟨rfl, N⟩, hq⟩ := rm0 l s _ hw tables_1 i0 i1 i2 i3 s.heap s.heap.size (Nat.le_refl _)  p e ha hc hk s m _ below hf ((Spec.applies_iff_loose hf).mp happ).1 ⟨rfl, State.Warmed39.refl s, rfl⟩ trivial
  refine ⟨n, _, h1, h2, h3, hpost _ _ _ _ _ _ ⟨Cond.after_iff.mpr rfl, Cond.after_iff.mpr (eq_i res_at (Term.int_eval (1)) rfl), trivial⟩ ⟨hq.1, hq.2.1, (hq.2.2.sift fun y hy => Or.inr (N y hy)).mono (by decide) (by decide)⟩⟩
theorem main_1_1 : Claimed_1_1 := comes_1 fun _ _ _ _ _ _ h hF => ⟨h.1, hF⟩
theorem main_1_2 : Claimed_1_2 := comes_1 fun _ _ _ _ _ _ h hF => ⟨h.2.1, hF⟩
end Jvm.Pilot.@@N@@
namespace Jvm.Pilot.@@N@@
open Jvm Jvm.ClassFile Sem Op Lib Jvm.Free Jvm.Stand Jvm.Pilot.@@N@@.Jvm.D
/-! MADE BY PROGRAM (witnessworld.py) out of the Statement's table words and the real class files: 9 classes; the members and pool entries that the words name. The judged class is class 1, her method 1. -/
namespace start1
open Jvm.ClassFile
def u (s : String) : CpInfo := .utf8 (stringToUtf16 s)
/-- a pool by its gaps: so many unusable entries, then the entry; so many at the end -/
def gap : Nat → List CpInfo → List CpInfo
  | 0, r => r
  | n + 1, r => .unusable :: gap n r
def poolList (es : List (Nat × CpInfo)) (last : Nat) : List CpInfo := es.foldr (fun e r => gap e.1 (e.2 :: r)) (gap last [])
def pool (es : List (Nat × CpInfo)) (last : Nat) : Array CpInfo := ⟨poolList es last⟩
def fileOf (pool : Array CpInfo) (this : Nat) (attrs : Array Attribute := #[]) (ms : Array MethodInfo := #[]) (fl : Nat := 33) (sup : Nat := 0) (ifs : Array Nat := #[]) (fds : Array FieldInfo := #[]) : ClassFile where
  minorVersion := 0
  majorVersion := 65
  constantPool := pool
  accessFlags := fl
  thisClass := this
  superClass := sup
  interfaces := ifs
  fields := fds
  methods := ms
  attributes := attrs
def plain (name : String) (sup : Option ClassId) : Class where
  name := name
  kind := .ordinary
  loader := none
  accessFlags := 33
  super := sup
  interfaces := #[]
  cf := none
  fields := #[]
  methods := #[]
  instanceTypes := #[]
  staticTypes := #[]
  resolved := #[]
  callSites := []
  init := .initialized
  statics := none
  mirror := none

def pool0 : Array CpInfo := pool [(5, u "<init>"), (0, u "()V"), (1, .class_ 10), (1, u "java/lang/Object")] 113

def k0m0 : Method := { name := "<init>", desc := "()V", sig := { parameters := [], returnType := none }, accessFlags := 1, code := none }
/-- java/lang/Object -/
def k0 : Class := { plain "java/lang/Object" none with
  accessFlags := 33
  interfaces := #[]
  cf := some (fileOf pool0 8 #[] #[{ accessFlags := 1, nameIndex := 5, descriptorIndex := 6, attributes := #[] }] 33 0 #[] #[])
  fields := #[]
  methods := #[k0m0]
  instanceTypes := #[]
  staticTypes := #[]
  resolved := Array.replicate 124 none
  statics := none }

def pool1 : Array CpInfo := pool [(2, .class_ 4), (1, u "java/lang/Object"), (0, u "<init>"), (0, u "()V"), (0, .integer 2147483647), (0, .methodref 9 10), (0, .class_ 11), (0, .nameAndType 12 13), (0, u "com/example/inscribe/inscribe/algorithm/Route"), (0, u "cycleEdgeStart"), (0, u "(III)I"), (0, .class_ 15), (0, u "com/example/inscribe/inscribe/algorithm/RouteCycleEdgeStartPinLaw"), (2, u "law"), (0, u "(IIII)Z")] 3

def k1m0 : Method := { name := "<init>", desc := "()V", sig := { parameters := [], returnType := none }, accessFlags := 1, code := none }
def k1c1 : Code := { maxStack := 3, maxLocals := 10, code := code, exceptionTable := #[], attributes := #[] }
def k1m1 : Method := { name := "law", desc := "(IIII)Z", sig := { parameters := [.int, .int, .int, .int], returnType := some .boolean }, accessFlags := 9, code := some k1c1 }
/-- com/example/inscribe/inscribe/algorithm/RouteCycleEdgeStartPinLaw -/
def k1 : Class := { plain "com/example/inscribe/inscribe/algorithm/RouteCycleEdgeStartPinLaw" (some 0) with
  accessFlags := 49
  interfaces := #[]
  cf := some (fileOf pool1 14 #[] #[{ accessFlags := 1, nameIndex := 5, descriptorIndex := 6, attributes := #[] }, { accessFlags := 9, nameIndex := 18, descriptorIndex := 19, attributes := #[] }] 49 2 #[] #[])
  fields := #[]
  methods := #[k1m0, k1m1]
  instanceTypes := #[]
  staticTypes := #[]
  resolved := Array.replicate 23 none
  statics := none }

def pool2 : Array CpInfo := pool [(2, .class_ 4), (1, u "java/lang/Object"), (0, u "<init>"), (0, u "()V"), (0, .class_ 8), (0, u "com/example/inscribe/inscribe/algorithm/Route"), (11, u "cycleEdgeStart"), (0, u "(III)I"), (4, .class_ 27), (0, u "com/example/inscribe/inscribe/algorithm/Route$Path")] 2

def k2m0 : Method := { name := "<init>", desc := "()V", sig := { parameters := [], returnType := none }, accessFlags := 0, code := none }
def k2c1 : Code := { maxStack := 3, maxLocals := 3, code := prog_10_method_7_code, exceptionTable := #[], attributes := #[] }
def k2m1 : Method := { name := "cycleEdgeStart", desc := "(III)I", sig := { parameters := [.int, .int, .int], returnType := some .int }, accessFlags := 8, code := some k2c1 }
/-- com/example/inscribe/inscribe/algorithm/Route -/
def k2 : Class := { plain "com/example/inscribe/inscribe/algorithm/Route" (some 0) with
  accessFlags := 1056
  interfaces := #[]
  cf := some (fileOf pool2 7 #[.nestMembers #[26]] #[{ accessFlags := 0, nameIndex := 5, descriptorIndex := 6, attributes := #[] }, { accessFlags := 8, nameIndex := 20, descriptorIndex := 21, attributes := #[] }] 1056 2 #[] #[])
  fields := #[]
  methods := #[k2m0, k2m1]
  instanceTypes := #[]
  staticTypes := #[]
  resolved := Array.replicate 30 none
  statics := none }

def pool3 : Array CpInfo := pool [(1, u "java/lang/Cloneable"), (0, .class_ 1), (0, u "java/lang/Object"), (0, .class_ 3)] 3

/-- java/lang/Cloneable -/
def k3 : Class := { plain "java/lang/Cloneable" (some 0) with
  accessFlags := 1537
  interfaces := #[]
  cf := some (fileOf pool3 2 #[] #[] 1537 4 #[] #[])
  fields := #[]
  methods := #[]
  instanceTypes := #[]
  staticTypes := #[]
  resolved := Array.replicate 8 none
  statics := none }

def pool4 : Array CpInfo := pool [(1, u "java/io/Serializable"), (0, .class_ 1), (0, u "java/lang/Object"), (0, .class_ 3)] 3

/-- java/io/Serializable -/
def k4 : Class := { plain "java/io/Serializable" (some 0) with
  accessFlags := 1537
  interfaces := #[]
  cf := some (fileOf pool4 2 #[] #[] 1537 4 #[] #[])
  fields := #[]
  methods := #[]
  instanceTypes := #[]
  staticTypes := #[]
  resolved := Array.replicate 8 none
  statics := none }

/-- the primitive byte -/
def k5 : Class := { plain "byte" none with kind := .primitive 'B', accessFlags := 0x411 }
/-- [B -/
def k6 : Class := { plain "[B" (some 0) with kind := .array 5 .byte, interfaces := #[3, 4], accessFlags := 1041 }

/-- the primitive int -/
def k7 : Class := { plain "int" none with kind := .primitive 'I', accessFlags := 0x411 }
/-- [I -/
def k8 : Class := { plain "[I" (some 0) with kind := .array 7 .int, interfaces := #[3, 4], accessFlags := 1041 }

def heap : Heap := #[]
def classes : Array Class := #[k0, k1, k2, k3, k4, k5, k6, k7, k8]
def interned : List (Array UInt16 × Addr) := []
def slotsUsed : Nat := 0
def theMethod : MethodId := ⟨1, 1⟩
def args0 : Array Value := #[.int 5, .int 3, .int 7, .int 1]
def aboutOver (below : List Frame) : State where
  vm := { classes := classes, interned := interned.toArray }
  heap := heap
  slotsUsed := slotsUsed
  threads := #[{ frames := .invoking theMethod args0 :: below }]
def below0 : List Frame := [.native { method := ⟨0, 0⟩, args := #[] }]
def about1 : State := aboutOver below0
def p0 : Program := .bare "" "" ""
def e0 : Env := launch0.env 0 0 0
theorem w_frames : about1.frames = Frame.invoking theMethod args0 :: below0 := rfl
set_option maxRecDepth 65536 in
theorem w_args : argsFit about1.vm theMethod args0 = true := by decide +kernel
set_option maxRecDepth 65536 in
theorem w_heap : heapFits about1 = true := by decide +kernel
set_option maxRecDepth 65536 in
theorem w_runnable : about1.curStatus? = some .runnable := by decide +kernel
set_option maxRecDepth 65536 in
theorem w_alone : about1.alone = true := by decide +kernel
set_option maxRecDepth 65536 in
theorem w_named : about1.methodNamed? x = some theMethod := by decide +kernel
set_option maxRecDepth 65536 in
theorem w_hears : about1.hears theMethod below0 = true := by decide +kernel
set_option maxRecDepth 65536 in
theorem w_ripe : about1.ripe theMethod args0 below0 = true := by decide +kernel
theorem w_running : about1.status = .running := rfl
set_option maxRecDepth 65536 in
theorem w_room : about1.hasRoom e0.platform room_1 = true :=
  launch0.hasRoom_least _ room_1 (by decide +kernel) (by decide +kernel) (by decide +kernel) (by decide +kernel) (by decide +kernel) (by decide +kernel)
theorem allAtoms_all (ts : List Jvm.Cond) (a : Array Jvm.Value) (st : Jvm.State) : (allAtoms ts).before a st = ts.all (fun c => c.before a st) := by
  induction ts with
  | nil => rfl
  | cons c t ih =>
    show (Jvm.Cond.and c (allAtoms t)).before a st = _
    rw [Jvm.Cond.before_and, ih, List.all_cons]
def words1 : List Jvm.Cond := Jvm.Cond.code x code maxLocals ret :: tables_1
/-- a 'code' word, met by the world's own term for the bytes: nothing is compared byte by byte -/
theorem code_word {y : MethodName} {bytes : ByteArray} {mx : Nat} {rt : Option FieldType} {a : Array Value} {s : State} {m : MethodId} {meth : Method} {c : Code} (h1 : s.methodNamed? y = some m) (h2 : s.vm.method? m = some meth) (h3 : meth.code = some c) (h4 : c.code = bytes)
    (h5 : (c.maxLocals == mx && c.exceptionTable.isEmpty && decide (c.maxStack ≤ mostOperands) && decide (meth.sig.returnType = rt) && !meth.locks && decide (parseMethodDescriptor y.desc = some meth.sig)) = true) : (Jvm.Cond.code y bytes mx rt).before a s = true := by
  simp only [Bool.and_eq_true, beq_iff_eq, Bool.not_eq_true', decide_eq_true_eq] at h5
  obtain ⟨⟨⟨⟨⟨g1, g2⟩, g3⟩, g4⟩, g5⟩, g6⟩ := h5
  simp [Cond.before, Cond.holds, Cond.value, h1, h2, h3, h4, g1, g2, g3, g4, g5, g6]
def isCode : Jvm.Cond → Bool
  | .code _ _ _ _ => true
  | _ => false
theorem all_split {L : List Jvm.Cond} {P : Jvm.Cond → Bool} (h1 : L.all (fun c => isCode c || P c) = true) (h2 : ∀ c ∈ L.filter isCode, P c = true) : L.all P = true := by
  refine List.all_eq_true.mpr fun c hc => ?_
  have h := List.all_eq_true.mp h1 c hc
  rcases Bool.eq_false_or_eq_true (isCode c) with hi | hi
  · exact h2 c (List.mem_filter.mpr ⟨hc, hi⟩)
  · simpa [hi] using h
set_option maxRecDepth 65536 in
theorem w_c0 : (Jvm.Cond.code x code maxLocals ret).before args0 about1 = true := code_word (m := ⟨1, 1⟩) (meth := k1m1) (c := k1c1) (by decide +kernel) rfl rfl rfl (by decide +kernel)
set_option maxRecDepth 65536 in
theorem w_c1 : (Jvm.Cond.code ({ cls := "com/example/inscribe/inscribe/algorithm/Route", name := "cycleEdgeStart", desc := "(III)I" } : Jvm.MethodName) prog_10_method_7_code (3 : Nat) (Option.some Jvm.ClassFile.FieldType.int)).before args0 about1 = true := code_word (m := ⟨2, 1⟩) (meth := k2m1) (c := k2c1) (by decide +kernel) rfl rfl rfl (by decide +kernel)
def codes1 : List Jvm.Cond := [Jvm.Cond.code x code maxLocals ret, Jvm.Cond.code ({ cls := "com/example/inscribe/inscribe/algorithm/Route", name := "cycleEdgeStart", desc := "(III)I" } : Jvm.MethodName) prog_10_method_7_code (3 : Nat) (Option.some Jvm.ClassFile.FieldType.int)]
set_option maxRecDepth 65536 in
theorem codes_eq : words1.filter isCode = codes1 := rfl
theorem w_codes : ∀ c ∈ words1.filter isCode, c.before args0 about1 = true := by
  rw [codes_eq]
  intro c hc
  simp only [codes1, List.mem_cons, List.not_mem_nil, or_false] at hc
  rcases hc with rfl | rfl
  · exact w_c0
  · exact w_c1
set_option maxRecDepth 65536 in
theorem w_t1 : words1.all (fun c => isCode c || c.before args0 about1) = true := by decide +kernel
theorem w_tables : (allAtoms (Jvm.Cond.code x code maxLocals ret :: tables_1)).before args0 about1 = true := by
  rw [allAtoms_all]
  show words1.all (fun c => c.before args0 about1) = true
  refine all_split ?_ w_codes
  rw [w_t1]
set_option maxRecDepth 65536 in
theorem w_case : (Jvm.Cond.and given_1 narrow_1).before args0 about1 = true := by decide +kernel
theorem w_applies : (headSpec (Jvm.Cond.code x code maxLocals ret :: tables_1) room_1).applies x e0.platform about1 = true :=
  (Spec.applies_iff w_frames).mpr ⟨w_running, w_runnable, w_alone, w_named, w_hears, w_ripe, w_room, w_tables⟩
theorem atStart : AtStart classFile x code maxLocals ret World_1 tables_1 room_1 Calls_1 rest_1 Pre_1 launch0 p0 e0 about1 theMethod args0 below0 :=
  ⟨lists_1, trivial, launch0.admits_env _ _ _, launch0.least_env, fairChoices_fair.cas, fairChoices_fair.clock, w_frames, w_args, w_heap, w_applies, trivial, trivial, w_case⟩
end start1
theorem witness_1 : WitnessClaimed_1 := ⟨start1.p0, start1.e0, start1.about1, start1.theMethod, start1.args0, start1.below0, start1.atStart⟩
end Jvm.Pilot.@@N@@
