import JvmDerived
import JvmDerived.Pilot.@@N@@Statement
import JvmDerived.Pilot.@@N@@Code
set_option linter.unusedVariables false
set_option linter.unusedSimpArgs false
namespace Jvm.RoadKit
open Sem ClassFile Op Lib Jvm.Stand Jvm.Free Jvm.LawKit
section New
variable {p : Program} {l : Launch} {e : Env} {R : Room} {s : State} {m : MethodId} {args : Array Value} {below : List Frame} {meth : Method} {c : Code} {T : State} {locs : List Loc} {cells slots : Nat}
theorem retI (X : Stand p l e R s m args below meth c T locs cells slots) (hx : p.tables.exec = Jvm.exec) {pc : Nat} {Ls : Array Slot} {z : Int32} {rest : List Value} (hret : meth.sig.returnType = some .int) (hd : decode c.code pc = .ok (.ireturn, 1)) {fs : List Frame}
    (hl : ∀ (f : JFrame) (acts : List Action), f.method = m → f.locked = none → f.entered = [] → (doReturn e (T.setTop f) acts (some (.int z))).1 = T.setFrames fs) : Steps p.tables e below (T.setTop (mkF m pc Ls (.int z :: rest))) (T.setFrames fs) := by
  have hm' : T.vm.method? m = some meth := X.method'
  have hn : narrow .int (.int z) = .int z := rfl
  show Steps p.tables e below (T.setTop { method := m, pc := pc, locals := Ls, stack := _ :: rest, locked := none }) _
  jvm_step X.here [X.here.top, hx, hd, hm', hret, hn]
  first | (intro acts; rw [hl _ acts rfl rfl rfl]) | rw [hl _ _ rfl rfl rfl]
  exact Steps.refl _
end New
end Jvm.RoadKit
namespace Jvm.Pilot.@@N@@
open Jvm Jvm.ClassFile Sem Op Lib Jvm.Free Jvm.Stand Jvm.LawKit Jvm.RoadKit Bundle Jvm.Pilot.@@N@@.Jvm.D
abbrev own_S (p : Program) (e : Env) (below : List Frame) (S T : State) (f : JFrame) : Prop := ∀ tt, Steps p.tables e below (T.setTop f) tt → Steps p.tables e below S tt
theorem own_neI {args : Array Value} {first s : State} {o : Option Outcome} {idx : List Nat} {t : Term} {k x : Int32} (h : (Jvm.Cond.eq t (.int k)).value args first o s idx = some false) (ht : t.eval args first o idx s = some (.int x)) : ¬ x = k := by
  simpa [Jvm.Cond.value, Term.eval, ht] using h
abbrev own_EL : List (String × Nat) := [("java/lang/String", 7)]
theorem own_ew {Z : State} {a0 : Array Value} (hw : ∀ d ∈ tables_1, d.before a0 Z = true) : EW Z a0 own_EL :=
  EW.cons (text := "") (hw _ (List.mem_of_getElem? (i := 21) rfl)) (by decide) EW.nil
theorem own_WS {Z : State} {a0 : Array Value} (hw : ∀ d ∈ tables_1, d.before a0 Z = true) : ∀ a ∈ Bundle.stringAtoms, a.before a0 Z = true := by
  intro a ha
  simp only [Bundle.stringAtoms, Bundle.sN, List.mem_cons, List.not_mem_nil, or_false] at ha
  rcases ha with rfl | rfl | rfl | rfl | rfl | rfl | rfl
  · exact hw _ (List.mem_of_getElem? (i := 9) rfl)
  · exact hw _ (List.mem_of_getElem? (i := 8) rfl)
  · exact hw _ (List.mem_of_getElem? (i := 22) rfl)
  · exact hw _ (List.mem_of_getElem? (i := 23) rfl)
  · exact hw _ (List.mem_of_getElem? (i := 24) rfl)
  · exact hw _ (List.mem_of_getElem? (i := 25) rfl)
  · exact hw _ (List.mem_of_getElem? (i := 26) rfl)
theorem own_cls {vm : Vm} {A B : String} {c : ClassId} (h1 : vm.findClass A = some c) (h2 : vm.findClass B = some c) : A = B := by
  obtain ⟨k, q1, q2⟩ := Vm.findClass_spec h1
  obtain ⟨k', q3, q4⟩ := Vm.findClass_spec h2
  cases q1.symm.trans q3
  exact q2.symm.trans q4
/-- a String that has no value yet is not booked -/
theorem own_safeN {Z : State} {EL : List (String × Nat)} {vm : Vm} {h : Heap} {x : Addr} (hZ : Z.Warmed39 vm) (E : Exa Z h x "java/lang/String") (F : Fld Z h x "java/lang/String" "value" "[B" .null) : Safe Z EL vm h x := fun B => by
  obtain ⟨p, -, u, a, -, q, -, ⟨cS, ⟨h1, hS, hc⟩, -, hB, -⟩, hy⟩ := B
  obtain ⟨cell, k, e1, e2, -⟩ := E
  have e2' : vm.findClass "java/lang/String" = some cell.cls := (hZ.alike.findClass _ _).trans e2
  rcases hy with rfl | rfl
  · obtain ⟨cl, cf, kf, i, f, f1, f2, -, -, -, -, f3⟩ := F
    cases (show h[q.sa]? = some q.sC from h1.1).symm.trans f1
    obtain ⟨c', k', i', g1, -⟩ := h1.2.2.2.1
    obtain ⟨kz, g2⟩ := ff_back (U := Wst Z vm h) hZ.alike g1
    cases f2.symm.trans g2
    have := f3.symm.trans h1.2.2.2.2.2.2.2.1
    cases this
  · cases (show h[q.sd]? = some q.SA from h1.2.2.2.2.2.2.2.2.2.1).symm.trans e1
    exact absurd (own_cls e2' hB) (by decide)
theorem own_cr {Z s T : State} {EL : List (String × Nat)} {h0 h : Heap} (hh : s.heap = h0) (e : T.heap = h) (c : CHr Z EL s.vm h0 T.vm h) : CHr Z EL s.vm s.heap T.vm T.heap := by
  subst hh e; exact c
theorem own_no {Z : State} {a0 : Array Value} {C S K : String} {n : Nat} (w : (Jvm.Cond.superclass C S).before a0 Z = true) (wn : (Jvm.Cond.noSuperclass S).before a0 Z = true) (wk : (Jvm.Cond.instantiable K n).before a0 Z = true) (h1 : C ≠ K) (h2 : S ≠ K) :
    ∃ c t, Z.vm.findClass C = some c ∧ Z.vm.findClass K = some t ∧ Z.vm.assignable c t = false := by
  obtain ⟨t, kt, g1, g2, g3, g4, -, -⟩ := Cond.instantiable_spec wk
  obtain ⟨p, kp, p1, p2, p3, -, -⟩ := Cond.noSuperclass_spec wn
  obtain ⟨c, c0⟩ := found_sup w
  obtain ⟨p', k, kp', q1, q2, q3, q4, q5, -, q7⟩ := Cond.superclass_spec c0 w
  cases p1.symm.trans q1
  have n1 := ids_ne c0 g1 h1
  have n2 := ids_ne p1 g1 h2
  have gi : kt.isInterface = false := (Bool.or_eq_false_iff.mp g4).1
  have e2 : ∀ fuel, Z.vm.isSubclassAux fuel p t = false := fun fuel => by
    cases fuel with
    | zero => rfl
    | succ f => simp [Vm.isSubclassAux, n2, p2, p3]
  have e1 : ∀ fuel, Z.vm.isSubclassAux fuel c t = false := fun fuel => by
    cases fuel with
    | zero => rfl
    | succ f => simp [Vm.isSubclassAux, n1, q2, q4, e2]
  refine ⟨c, t, c0, g1, ?_⟩
  show Z.vm.assignableAux (255 + 1) c t = false
  simp [Vm.assignableAux, n1, q2, g2, q5, g3, gi, Vm.isSubclass, e1]
theorem own_c0 : ((0 : Int32).toInt8.toInt32) = (0 : Int32) := by decide
theorem own_cf {Z : State} {h : Heap} {x : Addr} (F : Fld Z h x "java/lang/String" "coder" "B" (.int ((0 : Int32).toInt8.toInt32))) : Fld Z h x "java/lang/String" "coder" "B" (.int (0 : Int32)) := by
  rw [own_c0] at F; exact F
def own_ch (x s : Int32) : Int32 := ((x.toUInt32 >>> (s &&& 31).toUInt32).toInt32) &&& 255
theorem own_i2c (y : Int32) : nar .char ((y &&& 255).toUInt32.toUInt16.toUInt32.toInt32) = y &&& 255 := by
  rw [i2c_mask]; exact i2c_mask y
theorem own_nch (x s : Int32) : nar .char (own_ch x s) = own_ch x s := i2c_mask _
theorem own_chb (x s : Int32) : 0 ≤ (own_ch x s).toInt ∧ (own_ch x s).toInt < 256 := by
  have h1 := c_mask ((x.toUInt32 >>> (s &&& 31).toUInt32).toInt32) 255 8 (by decide) (by decide)
  have e4 : ((2 ^ 8 : Nat) : Int) = 256 := by decide
  rw [e4] at h1
  unfold own_ch; rw [h1]
  exact ⟨Int.emod_nonneg _ (by decide), Int.emod_lt_of_pos _ (by decide)⟩
theorem own_q (x s : Int32) : ¬ (255 : Int32) < nar .char (own_ch x s) := by
  rw [own_nch, Int32.lt_iff_toInt_lt]
  have h1 := own_chb x s
  have e : (255 : Int32).toInt = 255 := rfl
  omega
theorem own_fin (n : Nat) (x m : Int32) (hm : m.toInt = n) (h : 0 ≤ x.toInt ∧ x.toInt < m.toInt) : ∃ k : Fin n, x = Int32.ofNat k.val := by
  have r := rng32 m
  refine ⟨⟨x.toInt.toNat, by omega⟩, ?_⟩
  rw [← Int32.toInt_inj, Int32.toInt_ofNat_small (by show x.toInt.toNat < 2147483648; omega)]; show x.toInt = ((x.toInt.toNat : Nat) : Int); omega
def own_by (c : Int32) : Int32 := nar .byte ((nar .char c).toInt8.toInt32)
theorem own_bk : ∀ k : Fin 256, own_by (Int32.ofNat k.val) &&& 255 = Int32.ofNat k.val := by decide +kernel
theorem own_back (x s : Int32) : own_by (own_ch x s) &&& 255 = own_ch x s := by
  obtain ⟨k, e⟩ := own_fin 256 (own_ch x s) 256 rfl (own_chb x s)
  rw [e]; exact own_bk k
theorem own_inj (x y s : Int32) : (own_by (own_ch x s) = own_by (own_ch y s)) ↔ own_ch x s = own_ch y s := by
  constructor
  · intro h; rw [← own_back x s, ← own_back y s, h]
  · intro h; rw [h]
theorem own_k (x s : Int32) (h : s = x &&& 3) : s = 0 ∨ s = 1 ∨ s = 2 ∨ s = 3 := by
  have h1 := c_mask x 3 2 (by decide) (by decide)
  rw [← h] at h1
  have e4 : ((2 ^ 2 : Nat) : Int) = 4 := by decide
  rw [e4] at h1
  have e0 : (0 : Int32).toInt = 0 := rfl
  have e1 : (1 : Int32).toInt = 1 := rfl
  have e2 : (2 : Int32).toInt = 2 := rfl
  have e3 : (3 : Int32).toInt = 3 := rfl
  simp only [← Int32.toInt_inj]
  omega
theorem own_k3 (x : Int32) (h0 : ¬ x &&& 3 = 0) (h1 : ¬ x &&& 3 = 1) (h2 : ¬ x &&& 3 = 2) : x &&& 3 = 3 := by
  rcases own_k x _ rfl with h | h | h | h
  · exact absurd h h0
  · exact absurd h h1
  · exact absurd h h2
  · exact h
def own_vs (k : Int32) : List Value := if k &&& 3 = 0 then [] else if k &&& 3 = 1 then [.int (own_by (own_ch k 2))] else if k &&& 3 = 2 then [.int (own_by (own_ch k 2)), .int (own_by (own_ch k 10))] else [.int (own_by (own_ch k 2)), .int (own_by (own_ch k 10)), .int (own_by (own_ch k 18))]
theorem own_vs0 {k : Int32} (h : k &&& 3 = 0) : own_vs k = [] := by rw [own_vs, if_pos h]
theorem own_vs1 {k : Int32} (h : k &&& 3 = 1) : own_vs k = [.int (own_by (own_ch k 2))] := by
  rw [own_vs, if_neg (by rw [h]; decide), if_pos h]
theorem own_vs2 {k : Int32} (h : k &&& 3 = 2) : own_vs k = [.int (own_by (own_ch k 2)), .int (own_by (own_ch k 10))] := by
  rw [own_vs, if_neg (by rw [h]; decide), if_neg (by rw [h]; decide), if_pos h]
theorem own_vs3 {k : Int32} (h : k &&& 3 = 3) : own_vs k = [.int (own_by (own_ch k 2)), .int (own_by (own_ch k 10)), .int (own_by (own_ch k 18))] := by
  rw [own_vs, if_neg (by rw [h]; decide), if_neg (by rw [h]; decide), if_neg (by rw [h]; decide)]
abbrev own_P (x y : Int32) : Prop := (x &&& 3 = y &&& 3) ∧ (x &&& 3 < 1 ∨ own_ch x 2 = own_ch y 2) ∧ (x &&& 3 < 2 ∨ own_ch x 10 = own_ch y 10) ∧ (x &&& 3 < 3 ∨ own_ch x 18 = own_ch y 18)
def own_ke (x y : Int32) : Int32 := if own_P x y then 1 else 0
theorem own_kp {x y : Int32} (h : own_P x y) : own_P y x := by
  obtain ⟨a, b, c, d⟩ := h
  exact ⟨a.symm, by rw [← a]; exact b.imp id Eq.symm, by rw [← a]; exact c.imp id Eq.symm, by rw [← a]; exact d.imp id Eq.symm⟩
theorem own_kf {x y : Int32} (h : ¬ own_P x y) : own_ke x y = 0 := if_neg h
theorem own_kt {x y : Int32} (h : own_P x y) : own_ke x y = 1 := if_pos h
theorem own_kc (x y : Int32) : own_ke x y = own_ke y x := by
  by_cases h : own_P x y
  · rw [own_kt h, own_kt (own_kp h)]
  · rw [own_kf h, own_kf (fun q => h (own_kp q))]
theorem own_k1 {x y : Int32} (h : ¬ own_ke x y = 0) : own_ke x y = 1 := by
  by_cases q : own_P x y
  · exact own_kt q
  · exact absurd (own_kf q) h
theorem own_kd {x y i j : Int32} (h1 : x &&& 3 = i) (h2 : y &&& 3 = j) (hn : ¬ i = j) : own_ke x y = 0 := own_kf fun q => hn (h1.symm.trans (q.1.trans h2))
def own_an (x y z t : Int32) : Int32 := if own_ke x y = 0 then 0 else if own_ke z t = 0 then 0 else 1
theorem own_ans {a b : Int32} (h : a = b) : some (Value.int a) = some (Value.int b) := by rw [h]
theorem own_fb (y : Int32) : fits .byte (.int (nar .byte y)) = true := fits_nar_byte y
theorem own_ke0 {x y : Int32} (h1 : x &&& 3 = 0) (h2 : y &&& 3 = 0) : own_ke x y = 1 := by
  have a1 : (0 : Int32) < 1 := by decide
  have a2 : (0 : Int32) < 2 := by decide
  have a3 : (0 : Int32) < 3 := by decide
  simp only [own_ke, own_P, h1, h2, own_inj, a1, a2, a3, false_or, true_or, and_true, true_and, if_true]
theorem own_ke1 {x y : Int32} (h1 : x &&& 3 = 1) (h2 : y &&& 3 = 1) : own_ke x y = if own_by (own_ch x 2) = own_by (own_ch y 2) then 1 else 0 := by
  have a1 : ¬ (1 : Int32) < 1 := by decide
  have a2 : (1 : Int32) < 2 := by decide
  have a3 : (1 : Int32) < 3 := by decide
  simp only [own_ke, own_P, h1, h2, own_inj, a1, a2, a3, false_or, true_or, and_true, true_and, if_true]
theorem own_ke2 {x y : Int32} (h1 : x &&& 3 = 2) (h2 : y &&& 3 = 2) : own_ke x y = if own_by (own_ch x 2) = own_by (own_ch y 2) ∧ own_by (own_ch x 10) = own_by (own_ch y 10) then 1 else 0 := by
  have a1 : ¬ (2 : Int32) < 1 := by decide
  have a2 : ¬ (2 : Int32) < 2 := by decide
  have a3 : (2 : Int32) < 3 := by decide
  simp only [own_ke, own_P, h1, h2, own_inj, a1, a2, a3, false_or, true_or, and_true, true_and, if_true]
theorem own_ke3 {x y : Int32} (h1 : x &&& 3 = 3) (h2 : y &&& 3 = 3) : own_ke x y = if own_by (own_ch x 2) = own_by (own_ch y 2) ∧ own_by (own_ch x 10) = own_by (own_ch y 10) ∧ own_by (own_ch x 18) = own_by (own_ch y 18) then 1 else 0 := by
  have a1 : ¬ (3 : Int32) < 1 := by decide
  have a2 : ¬ (3 : Int32) < 2 := by decide
  have a3 : ¬ (3 : Int32) < 3 := by decide
  simp only [own_ke, own_P, h1, h2, own_inj, a1, a2, a3, false_or, true_or, and_true, true_and, if_true]
theorem pn0 : plainName "com/example/inscribe/inscribe/model/EdgeEqualsPinLaw" = true := by first | (simp [plainName, overriddenIn]; done) | decide +kernel
theorem d5_0 : decode method_2_code 0 = .ok (.iload_n 0, 1) := by decide +kernel
theorem d5_1 : decode method_2_code 1 = .ok (.iload_n 1, 1) := by decide +kernel
theorem d5_2 : decode method_2_code 2 = .ok (.iushr, 1) := by decide +kernel
theorem d5_3 : decode method_2_code 3 = .ok (.sipush 255, 3) := by decide +kernel
theorem d5_6 : decode method_2_code 6 = .ok (.iand, 1) := by decide +kernel
theorem d5_7 : decode method_2_code 7 = .ok (.i2c, 1) := by decide +kernel
theorem d5_8 : decode method_2_code 8 = .ok (.ireturn, 1) := by decide +kernel
theorem ef5 (m : MethodId) (x0 : Int32) (x1 : Int32) : entryFrame m #[(.int x0), (.int x1)] 2 = mkF m 0 #[.val (.int x0), .val (.int x1)] [] := by first | (simp [entryFrame, mkF, argsToLocals, Value.category]; done) | rfl
def Q5 (Z : State) (p0 : Int32) (p1 : Int32) (h0 : Heap) (n0 : Nat) (v : Option Value) (h : Heap) (L : List Loc) : Prop := v = some (.int (own_ch p0 p1)) ∧ Fr n0 L ∧ h = h0
set_option maxRecDepth 65536 in
set_option maxHeartbeats 40000000 in
theorem rm5 (l : Launch) (Z : State) (a0 : Array Value) (hw : ∀ d ∈ tables_1, d.before a0 Z = true) (ws : List Jvm.Cond) (p0 : Int32) (p1 : Int32) (h0 : Heap) (n0 : Nat) (Z0 : n0 ≤ h0.size) :
    MetFree l (⟨"com/example/inscribe/inscribe/model/EdgeEqualsPinLaw", "ch", "(II)C"⟩ : MethodName) (head1 (Jvm.Cond.code (⟨"com/example/inscribe/inscribe/model/EdgeEqualsPinLaw", "ch", "(II)C"⟩ : MethodName) method_2_code 2 (some .char) :: ws) ({ frames := 0, cells := 0, slots := 0, locals := 0 } : Room)) (fun aa UU => aa = #[(.int p0), (.int p1)] ∧ Z.Warmed39 UU.vm ∧ UU.heap = h0) (fun _ _ _ _ _ => True) (fun _ UU oo UU' => ∃ vv LL, oo = .returned vv ∧ Q5 Z p0 p1 h0 n0 vv UU'.heap LL ∧ FrameEnd UU oo UU' LL ({ frames := 0, cells := 0, slots := 0, locals := 0 } : Room).cells ({ frames := 0, cells := 0, slots := 0, locals := 0 } : Room).slots) := by
  have W : ∀ {d : Jvm.Cond} (i : Nat), tables_1[i]? = some d → d.before a0 Z = true := fun i h => hw _ (List.mem_of_getElem? h)
  refine MetFree.of_bodySF (plainFor_of_name pn0) hisR ?_
  intro p e s m args below meth c s₁ Bd hml0 hP hK
  obtain ⟨rfl, hZ, hh⟩ := hP
  have hx := Bd.exec
  have hby := Bd.bytes
  have hml : c.maxLocals = 2 := hml0
  have hown : s.vm.findClass "com/example/inscribe/inscribe/model/EdgeEqualsPinLaw" = some m.cls := findClass_of_methodNamed Bd.named
  have hnm := (name_of_methodNamed Bd.named Bd.method).1
  have X0 : Stand p l e ({ frames := 0, cells := 0, slots := 0, locals := 0 } : Room) s m #[(.int p0), (.int p1)] below meth c s₁ [] 0 0 := Stand.of_body Bd
  have e0 : s₁.heap = h0 := by rw [← hh, Bd.state]; rfl
  have N0 := Fr.nil n0
  have pre0 : ∀ tt, Steps p.tables e below (s₁.setTop (mkF m 0 #[iv p0, iv p1] [])) tt → Steps p.tables e below (s₁.setTop (entryFrame m #[(.int p0), (.int p1)] 2)) tt := fun tt kt => castTop (ef5 m p0 p1) kt
  obtain ⟨ST, hST⟩ : ∃ z : State, z = s₁.setTop (mkF m 0 #[iv p0, iv p1] []) := ⟨_, rfl⟩
  rw [← hST] at pre0
  have go101 : own_S p e below ST s₁ (mkF m 8 #[iv p0, iv p1] [(.int ((((p0.toUInt32 >>> (p1 &&& 31).toUInt32).toInt32) &&& (255 : Int32)).toUInt32.toUInt16.toUInt32.toInt32))]) := fun tt kt => (by
      rw [hST]
      show Steps p.tables e below (s₁.setTop (mkF m 0 #[iv p0, iv p1] [])) _
      refine XS.iloadN X0.here hx rfl (hb hby d5_0) rfl ?_
      refine XS.iloadN X0.here hx rfl (hb hby d5_1) rfl ?_
      refine XS.iushr X0.here hx rfl (hb hby d5_2) rfl ?_
      refine XS.sipush X0.here hx rfl (hb hby d5_3) ?_
      refine XS.iand X0.here hx rfl (hb hby d5_6) rfl ?_
      refine XS.i2c X0.here hx rfl (hb hby d5_7) rfl ?_
      exact kt)
  obtain ⟨fs, hr, hrun, hended, hW, hsame⟩ := X0.leave (v := some (.int (nar .char ((((p0.toUInt32 >>> (p1 &&& 31).toUInt32).toInt32) &&& (255 : Int32)).toUInt32.toUInt16.toUInt32.toInt32)))) (fun h => by rw [Bd.returns] at h; cases h) (hlocks := by first | exact BodyLoose.notSynchronized Bd | exact Body.notSynchronized Bd)
  refine ⟨_, _, pre0 _ (go101 _ ?_), hrun, hended, _, _, rfl, ?_, ⟨_, rfl⟩, hW, hsame.mono (by decide) (by decide)⟩
  · exact retN X0 hx (t := .char) Bd.returns (by simp) (hb hby d5_8) hr
  · show Q5 Z p0 p1 h0 n0 _ s₁.heap _
    rw [e0]
    exact ⟨own_ans (own_i2c _), N0, rfl⟩
theorem pn8 : plainName "java/lang/StringUTF16" = true := by first | (simp [plainName, overriddenIn]; done) | decide +kernel
theorem d7_0 : decode jdk_52_method_21_code 0 = .ok (.iconst 0, 1) := by decide +kernel
theorem d7_1 : decode jdk_52_method_21_code 1 = .ok (.istore 5, 2) := by decide +kernel
theorem d7_3 : decode jdk_52_method_21_code 3 = .ok (.iload 5, 2) := by decide +kernel
theorem d7_5 : decode jdk_52_method_21_code 5 = .ok (.iload 4, 2) := by decide +kernel
theorem d7_7 : decode jdk_52_method_21_code 7 = .ok (.if_icmp .ge 37, 3) := by decide +kernel
theorem d7_10 : decode jdk_52_method_21_code 10 = .ok (.aload_n 0, 1) := by decide +kernel
theorem d7_11 : decode jdk_52_method_21_code 11 = .ok (.iload_n 1, 1) := by decide +kernel
theorem d7_12 : decode jdk_52_method_21_code 12 = .ok (.caload, 1) := by decide +kernel
theorem d7_13 : decode jdk_52_method_21_code 13 = .ok (.istore 6, 2) := by decide +kernel
theorem d7_15 : decode jdk_52_method_21_code 15 = .ok (.iload 6, 2) := by decide +kernel
theorem d7_17 : decode jdk_52_method_21_code 17 = .ok (.sipush 255, 3) := by decide +kernel
theorem d7_20 : decode jdk_52_method_21_code 20 = .ok (.if_icmp .le 6, 3) := by decide +kernel
theorem d7_26 : decode jdk_52_method_21_code 26 = .ok (.aload_n 2, 1) := by decide +kernel
theorem d7_27 : decode jdk_52_method_21_code 27 = .ok (.iload_n 3, 1) := by decide +kernel
theorem d7_28 : decode jdk_52_method_21_code 28 = .ok (.iload 6, 2) := by decide +kernel
theorem d7_30 : decode jdk_52_method_21_code 30 = .ok (.i2b, 1) := by decide +kernel
theorem d7_31 : decode jdk_52_method_21_code 31 = .ok (.bastore, 1) := by decide +kernel
theorem d7_32 : decode jdk_52_method_21_code 32 = .ok (.iinc 1 1, 3) := by decide +kernel
theorem d7_35 : decode jdk_52_method_21_code 35 = .ok (.iinc 3 1, 3) := by decide +kernel
theorem d7_38 : decode jdk_52_method_21_code 38 = .ok (.iinc 5 1, 3) := by decide +kernel
theorem d7_41 : decode jdk_52_method_21_code 41 = .ok (.goto (-38), 3) := by decide +kernel
theorem d7_44 : decode jdk_52_method_21_code 44 = .ok (.iload 4, 2) := by decide +kernel
theorem d7_46 : decode jdk_52_method_21_code 46 = .ok (.ireturn, 1) := by decide +kernel
theorem ef7k1 (m : MethodId) (x0 : Addr) (x1 : Int32) (x2 : Addr) (x3 : Int32) (x4 : Int32) : entryFrame m #[(.ref x0), (.int x1), (.ref x2), (.int x3), (.int x4)] 7 = mkF m 0 #[.val (.ref x0), .val (.int x1), .val (.ref x2), .val (.int x3), .val (.int x4), .unset, .unset] [] := by first | (simp [entryFrame, mkF, argsToLocals, Value.category]; done) | rfl
def Q7k1 (Z : State) (o1 : Addr) (k1 : ClassId) (o2 : Addr) (k2 : ClassId) (c0 : Int32) (h0 : Heap) (n0 : Nat) (v : Option Value) (h : Heap) (L : List Loc) : Prop := v = some (.int (1 : Int32)) ∧ Fr n0 L ∧ Keep h0 h [o2] ∧ Arv Z h o2 k2 .byte (1 : Int32) [(.int (nar .byte (c0.toInt8.toInt32)))] (.int (0 : Int32))
set_option maxRecDepth 65536 in
set_option maxHeartbeats 40000000 in
theorem rm7k1 (l : Launch) (Z : State) (a0 : Array Value) (hw : ∀ d ∈ tables_1, d.before a0 Z = true) (ws : List Jvm.Cond) (o1 : Addr) (k1 : ClassId) (o2 : Addr) (k2 : ClassId) (c0 : Int32) (h0 : Heap) (n0 : Nat) (Z0 : n0 ≤ h0.size) (V1 : Arv Z h0 o1 k1 .char (1 : Int32) [(.int c0)] (.int (0 : Int32))) (V2 : Arv Z h0 o2 k2 .byte (1 : Int32) [(.int (0 : Int32))] (.int (0 : Int32))) (n12 : o1 ≠ o2) (g2 : n0 ≤ o2) (q0 : ¬ (255 : Int32) < c0) :
    MetFree l (⟨"java/lang/StringUTF16", "compress", "([CI[BII)I"⟩ : MethodName) (head1 (Jvm.Cond.code (⟨"java/lang/StringUTF16", "compress", "([CI[BII)I"⟩ : MethodName) jdk_52_method_21_code 7 (some .int) :: ws) ({ frames := 0, cells := 0, slots := 0, locals := 0 } : Room)) (fun aa UU => aa = #[(.ref o1), (.int (0 : Int32)), (.ref o2), (.int (0 : Int32)), (.int (1 : Int32))] ∧ Z.Warmed39 UU.vm ∧ UU.heap = h0) (fun _ _ _ _ _ => True) (fun _ UU oo UU' => ∃ vv LL, oo = .returned vv ∧ Q7k1 Z o1 k1 o2 k2 c0 h0 n0 vv UU'.heap LL ∧ FrameEnd UU oo UU' LL ({ frames := 0, cells := 0, slots := 0, locals := 0 } : Room).cells ({ frames := 0, cells := 0, slots := 0, locals := 0 } : Room).slots) := by
  have W : ∀ {d : Jvm.Cond} (i : Nat), tables_1[i]? = some d → d.before a0 Z = true := fun i h => hw _ (List.mem_of_getElem? h)
  refine MetFree.of_bodySF (plainFor_of_name pn8) hisR ?_
  intro p e s m args below meth c s₁ Bd hml0 hP hK
  obtain ⟨rfl, hZ, hh⟩ := hP
  have hx := Bd.exec
  have hby := Bd.bytes
  have hml : c.maxLocals = 7 := hml0
  have hown : s.vm.findClass "java/lang/StringUTF16" = some m.cls := findClass_of_methodNamed Bd.named
  have hnm := (name_of_methodNamed Bd.named Bd.method).1
  have X0 : Stand p l e ({ frames := 0, cells := 0, slots := 0, locals := 0 } : Room) s m #[(.ref o1), (.int (0 : Int32)), (.ref o2), (.int (0 : Int32)), (.int (1 : Int32))] below meth c s₁ [] 0 0 := Stand.of_body Bd
  have e0 : s₁.heap = h0 := by rw [← hh, Bd.state]; rfl
  have N0 := Fr.nil n0
  have pre0 : ∀ tt, Steps p.tables e below (s₁.setTop (mkF m 0 #[rv o1, iv (0 : Int32), rv o2, iv (0 : Int32), iv (1 : Int32), .unset, .unset] [])) tt → Steps p.tables e below (s₁.setTop (entryFrame m #[(.ref o1), (.int (0 : Int32)), (.ref o2), (.int (0 : Int32)), (.int (1 : Int32))] 7)) tt := fun tt kt => castTop (ef7k1 m o1 (0 : Int32) o2 (0 : Int32) (1 : Int32)) kt
  obtain ⟨ST, hST⟩ : ∃ z : State, z = s₁.setTop (mkF m 0 #[rv o1, iv (0 : Int32), rv o2, iv (0 : Int32), iv (1 : Int32), .unset, .unset] []) := ⟨_, rfl⟩
  rw [← hST] at pre0
  have KC0 : Keep h0 h0 [o2] := Keep.refl h0 [o2]
  have go102 : own_S p e below ST s₁ (mkF m 12 #[rv o1, iv (0 : Int32), rv o2, iv (0 : Int32), iv (1 : Int32), iv (0 : Int32), .unset] [(.int (0 : Int32)), (.ref o1)]) := fun tt kt => (by
      rw [hST]
      show Steps p.tables e below (s₁.setTop (mkF m 0 #[rv o1, iv (0 : Int32), rv o2, iv (0 : Int32), iv (1 : Int32), .unset, .unset] [])) _
      refine XS.iconst X0.here hx rfl (hb hby d7_0) ?_
      refine XS.istore X0.here hx rfl (hb hby d7_1) rfl (l' := #[rv o1, iv (0 : Int32), rv o2, iv (0 : Int32), iv (1 : Int32), iv (0 : Int32), .unset]) rfl ?_
      refine XS.iload X0.here hx rfl (hb hby d7_3) rfl ?_
      refine XS.iload X0.here hx rfl (hb hby d7_5) rfl ?_
      refine XS.icmpNo X0.here hx rfl (hb hby d7_7) rfl (tlt (by decide : (0 : Int32) < (1 : Int32))).2.1 ?_
      refine XS.aloadN X0.here hx rfl (hb hby d7_10) rfl rfl ?_
      show Steps p.tables e below (s₁.setTop (mkF m 11 #[rv o1, iv (0 : Int32), rv o2, iv (0 : Int32), iv (1 : Int32), iv (0 : Int32), .unset] [(.ref o1)])) _
      refine XS.iloadN X0.here hx rfl (hb hby d7_11) rfl ?_
      exact kt)
  obtain ⟨cl103, Ar103, q103, S103, M103, H103, G103⟩ := id V1
  have hin103 : ¬ ((0 : Int32) < 0 ∨ cl103.slots.size ≤ ((0 : Int32)).toNatClampNeg) := inb_of S103 ⟨by decide, by decide⟩
  have hat103 : cl103.slots[((0 : Int32)).toNatClampNeg]? = some (.int c0) := H103.at hin103 rfl
  have go104 : own_S p e below ST s₁ (mkF m 13 #[rv o1, iv (0 : Int32), rv o2, iv (0 : Int32), iv (1 : Int32), iv (0 : Int32), .unset] [(.int c0)]) := fun tt kt => go102 tt (by
      refine X0.caload hx (j := (0 : Int32)) (v := (.int c0)) (by rw [e0]; exact Ar103.1) (State.isArrayOf_alike hZ.alike Ar103.2.1) Ar103.2.2 hin103 hat103 (g := (mkF m 12 #[rv o1, iv (0 : Int32), rv o2, iv (0 : Int32), iv (1 : Int32), iv (0 : Int32), .unset] [(.int (0 : Int32)), (.ref o1)])) rfl rfl (hb hby d7_12) _ ?_
      exact kt)
  have go105 : own_S p e below ST s₁ (mkF m 31 #[rv o1, iv (0 : Int32), rv o2, iv (0 : Int32), iv (1 : Int32), iv (0 : Int32), iv c0] [(.int (c0.toInt8.toInt32)), (.int (0 : Int32)), (.ref o2)]) := fun tt kt => go104 tt (by
      refine XS.istore X0.here hx rfl (hb hby d7_13) rfl (l' := #[rv o1, iv (0 : Int32), rv o2, iv (0 : Int32), iv (1 : Int32), iv (0 : Int32), iv c0]) rfl ?_
      refine XS.iload X0.here hx rfl (hb hby d7_15) rfl ?_
      refine XS.sipush X0.here hx rfl (hb hby d7_17) ?_
      refine XS.icmpYes X0.here hx rfl (pc0 := 20) (pc' := 26) rfl (hb hby d7_20) rfl (flt q0).2.2.2 (by decide) (by decide) ?_
      refine XS.aloadN X0.here hx rfl (hb hby d7_26) rfl rfl ?_
      refine XS.iloadN X0.here hx rfl (hb hby d7_27) rfl ?_
      show Steps p.tables e below (s₁.setTop (mkF m 28 #[rv o1, iv (0 : Int32), rv o2, iv (0 : Int32), iv (1 : Int32), iv (0 : Int32), iv c0] [(.int (0 : Int32)), (.ref o2)])) _
      refine XS.iload X0.here hx rfl (hb hby d7_28) rfl ?_
      refine XS.i2b X0.here hx rfl (hb hby d7_30) rfl ?_
      exact kt)
  obtain ⟨cl106, Ar106, q106, S106, M106, H106, G106⟩ := id V2
  have hin106 : ¬ ((0 : Int32) < 0 ∨ cl106.slots.size ≤ ((0 : Int32)).toNatClampNeg) := inb_of S106 ⟨by decide, by decide⟩
  obtain ⟨T106, h106, X106, e106, W106, st106⟩ := stB X0 hx hZ e0 Ar106 (j := (0 : Int32)) hin106 (g := (mkF m 31 #[rv o1, iv (0 : Int32), rv o2, iv (0 : Int32), iv (1 : Int32), iv (0 : Int32), iv c0] [(.int (c0.toInt8.toInt32)), (.int (0 : Int32)), (.ref o2)])) rfl rfl (hb hby d7_31)
  have V106 : Arv Z h106 o2 k2 .byte (1 : Int32) [(.int (nar .byte (c0.toInt8.toInt32)))] (.int (0 : Int32)) := Arv.set Ar106 q106 S106 M106 H106 G106 (own_fb _) W106 0 rfl (Nat.le_of_ble_eq_true rfl)
  have N106 := Fr.snoc X106 N0 g2
  have KC106 : Keep h0 h106 [o2] := KC0.wr W106 (Or.inl (List.mem_of_getElem? (i := 0) rfl))
  have go107 : own_S p e below ST T106 (mkF m 32 #[rv o1, iv (0 : Int32), rv o2, iv (0 : Int32), iv (1 : Int32), iv (0 : Int32), iv c0] []) := fun tt kt => go105 tt (st106 _ kt)
  have go108 : own_S p e below ST T106 (mkF m 46 #[rv o1, iv (1 : Int32), rv o2, iv (1 : Int32), iv (1 : Int32), iv (1 : Int32), iv c0] [(.int (1 : Int32))]) := fun tt kt => go107 tt (by
      refine XS.iinc X106.here hx rfl (hb hby d7_32) rfl (l' := #[rv o1, iv (1 : Int32), rv o2, iv (0 : Int32), iv (1 : Int32), iv (0 : Int32), iv c0]) rfl ?_
      refine XS.iinc X106.here hx rfl (hb hby d7_35) rfl (l' := #[rv o1, iv (1 : Int32), rv o2, iv (1 : Int32), iv (1 : Int32), iv (0 : Int32), iv c0]) rfl ?_
      refine XS.iinc X106.here hx rfl (hb hby d7_38) rfl (l' := #[rv o1, iv (1 : Int32), rv o2, iv (1 : Int32), iv (1 : Int32), iv (1 : Int32), iv c0]) rfl ?_
      refine XS.goto X106.here hx rfl (pc0 := 41) (pc' := 3) rfl (hb hby d7_41) (by decide) (by decide) ?_
      refine XS.iload X106.here hx rfl (hb hby d7_3) rfl ?_
      refine XS.iload X106.here hx rfl (hb hby d7_5) rfl ?_
      show Steps p.tables e below (T106.setTop (mkF m 7 #[rv o1, iv (1 : Int32), rv o2, iv (1 : Int32), iv (1 : Int32), iv (1 : Int32), iv c0] [(.int (1 : Int32)), (.int (1 : Int32))])) _
      refine XS.icmpYes X106.here hx rfl (pc0 := 7) (pc' := 44) rfl (hb hby d7_7) rfl (flt (by decide : ¬ ((1 : Int32) < (1 : Int32)))).2.1 (by decide) (by decide) ?_
      refine XS.iload X106.here hx rfl (hb hby d7_44) rfl ?_
      exact kt)
  obtain ⟨fs, hr, hrun, hended, hW, hsame⟩ := X106.leave (v := some (.int (1 : Int32))) (fun h => by rw [Bd.returns] at h; cases h) (hlocks := by first | exact BodyLoose.notSynchronized Bd | exact Body.notSynchronized Bd)
  refine ⟨_, _, pre0 _ (go108 _ ?_), hrun, hended, _, _, rfl, ?_, ⟨_, rfl⟩, hW, hsame.mono (by decide) (by decide)⟩
  · exact retI X106 hx Bd.returns (hb hby d7_46) hr
  · show Q7k1 Z o1 k1 o2 k2 c0 h0 n0 _ T106.heap _
    rw [e106]
    exact ⟨rfl, N106, KC106, V106⟩
theorem d6_0 : decode jdk_52_method_16_code 0 = .ok (.iload_n 2, 1) := by decide +kernel
theorem d6_1 : decode jdk_52_method_16_code 1 = .ok (.newarray .byte, 2) := by decide +kernel
theorem d6_3 : decode jdk_52_method_16_code 3 = .ok (.astore_n 3, 1) := by decide +kernel
theorem d6_4 : decode jdk_52_method_16_code 4 = .ok (.aload_n 0, 1) := by decide +kernel
theorem d6_5 : decode jdk_52_method_16_code 5 = .ok (.iload_n 1, 1) := by decide +kernel
theorem d6_6 : decode jdk_52_method_16_code 6 = .ok (.aload_n 3, 1) := by decide +kernel
theorem d6_7 : decode jdk_52_method_16_code 7 = .ok (.iconst 0, 1) := by decide +kernel
theorem d6_8 : decode jdk_52_method_16_code 8 = .ok (.iload_n 2, 1) := by decide +kernel
theorem d6_9 : decode jdk_52_method_16_code 9 = .ok (.invokestatic 115, 3) := by decide +kernel
theorem pd41 : parseMethodDescriptor "([CI[BII)I" = some ⟨[(.array .char), .int, (.array .byte), .int, .int], some .int⟩ := by decide +kernel
theorem d6_12 : decode jdk_52_method_16_code 12 = .ok (.istore 4, 2) := by decide +kernel
theorem d6_14 : decode jdk_52_method_16_code 14 = .ok (.iload 4, 2) := by decide +kernel
theorem d6_16 : decode jdk_52_method_16_code 16 = .ok (.iload_n 2, 1) := by decide +kernel
theorem d6_17 : decode jdk_52_method_16_code 17 = .ok (.if_icmp .eq 40, 3) := by decide +kernel
theorem d6_57 : decode jdk_52_method_16_code 57 = .ok (.aload_n 3, 1) := by decide +kernel
theorem d6_58 : decode jdk_52_method_16_code 58 = .ok (.areturn, 1) := by decide +kernel
theorem ef6k1 (m : MethodId) (x0 : Addr) (x1 : Int32) (x2 : Int32) : entryFrame m #[(.ref x0), (.int x1), (.int x2)] 6 = mkF m 0 #[.val (.ref x0), .val (.int x1), .val (.int x2), .unset, .unset, .unset] [] := by first | (simp [entryFrame, mkF, argsToLocals, Value.category]; done) | rfl
def Q6k1 (Z : State) (o1 : Addr) (k1 : ClassId) (c0 : Int32) (h0 : Heap) (n0 : Nat) (v : Option Value) (h : Heap) (L : List Loc) : Prop := ∃ (b : Addr) (kb : ClassId), v = some (.ref b) ∧ Fr n0 L ∧ Keep h0 h [] ∧ Arv Z h b kb .byte (1 : Int32) [(.int (nar .byte (c0.toInt8.toInt32)))] (.int (0 : Int32)) ∧ n0 ≤ b ∧ h0.size ≤ b
set_option maxRecDepth 65536 in
set_option maxHeartbeats 40000000 in
theorem rm6k1 (l : Launch) (Z : State) (a0 : Array Value) (hw : ∀ d ∈ tables_1, d.before a0 Z = true) (ws : List Jvm.Cond) (o1 : Addr) (k1 : ClassId) (c0 : Int32) (h0 : Heap) (n0 : Nat) (Z0 : n0 ≤ h0.size) (V1 : Arv Z h0 o1 k1 .char (1 : Int32) [(.int c0)] (.int (0 : Int32))) (q0 : ¬ (255 : Int32) < c0) :
    MetFree l (⟨"java/lang/StringUTF16", "compress", "([CII)[B"⟩ : MethodName) (head1 (Jvm.Cond.code (⟨"java/lang/StringUTF16", "compress", "([CII)[B"⟩ : MethodName) jdk_52_method_16_code 6 (some (.array .byte)) :: ws) ({ frames := 1, cells := 1, slots := 1, locals := 18 } : Room)) (fun aa UU => aa = #[(.ref o1), (.int (0 : Int32)), (.int (1 : Int32))] ∧ Z.Warmed39 UU.vm ∧ UU.heap = h0) (fun _ _ _ _ _ => True) (fun _ UU oo UU' => ∃ vv LL, oo = .returned vv ∧ Q6k1 Z o1 k1 c0 h0 n0 vv UU'.heap LL ∧ FrameEnd UU oo UU' LL ({ frames := 1, cells := 1, slots := 1, locals := 18 } : Room).cells ({ frames := 1, cells := 1, slots := 1, locals := 18 } : Room).slots) := by
  have W : ∀ {d : Jvm.Cond} (i : Nat), tables_1[i]? = some d → d.before a0 Z = true := fun i h => hw _ (List.mem_of_getElem? h)
  refine MetFree.of_bodySF (plainFor_of_name pn8) hisR ?_
  intro p e s m args below meth c s₁ Bd hml0 hP hK
  obtain ⟨rfl, hZ, hh⟩ := hP
  have hx := Bd.exec
  have hby := Bd.bytes
  have hml : c.maxLocals = 6 := hml0
  have hown : s.vm.findClass "java/lang/StringUTF16" = some m.cls := findClass_of_methodNamed Bd.named
  have hnm := (name_of_methodNamed Bd.named Bd.method).1
  have X0 : Stand p l e ({ frames := 1, cells := 1, slots := 1, locals := 18 } : Room) s m #[(.ref o1), (.int (0 : Int32)), (.int (1 : Int32))] below meth c s₁ [] 0 0 := Stand.of_body Bd
  have e0 : s₁.heap = h0 := by rw [← hh, Bd.state]; rfl
  have N0 := Fr.nil n0
  have pre0 : ∀ tt, Steps p.tables e below (s₁.setTop (mkF m 0 #[rv o1, iv (0 : Int32), iv (1 : Int32), .unset, .unset, .unset] [])) tt → Steps p.tables e below (s₁.setTop (entryFrame m #[(.ref o1), (.int (0 : Int32)), (.int (1 : Int32))] 6)) tt := fun tt kt => castTop (ef6k1 m o1 (0 : Int32) (1 : Int32)) kt
  obtain ⟨ST, hST⟩ : ∃ z : State, z = s₁.setTop (mkF m 0 #[rv o1, iv (0 : Int32), iv (1 : Int32), .unset, .unset, .unset] []) := ⟨_, rfl⟩
  rw [← hST] at pre0
  have KC0 : Keep h0 h0 [] := Keep.refl h0 []
  have go109 : own_S p e below ST s₁ (mkF m 1 #[rv o1, iv (0 : Int32), iv (1 : Int32), .unset, .unset, .unset] [(.int (1 : Int32))]) := fun tt kt => (by
      rw [hST]
      show Steps p.tables e below (s₁.setTop (mkF m 0 #[rv o1, iv (0 : Int32), iv (1 : Int32), .unset, .unset, .unset] [])) _
      refine XS.iloadN X0.here hx rfl (hb hby d6_0) rfl ?_
      exact kt)
  obtain ⟨b110, g110⟩ : ∃ z, z = h0.size := ⟨_, rfl⟩
  obtain ⟨T110, h110, k110, X110, e110, E110, A110, st110⟩ := newP X0 hx hZ (W 22 rfl) e0 (g := (mkF m 1 #[rv o1, iv (0 : Int32), iv (1 : Int32), .unset, .unset, .unset] [(.int (1 : Int32))])) rfl (hb hby d6_1) rfl (by decide) (cap := 1) (by decide) (by decide) (by decide) (by decide)
  rw [← g110] at A110 st110
  have neo1_b110 : o1 ≠ b110 := Nat.ne_of_lt (Nat.lt_of_lt_of_le V1.lt (Nat.le_of_eq g110.symm))
  have ge_b110 : n0 ≤ b110 := Nat.le_trans Z0 (Nat.le_of_eq g110.symm)
  have sz_b110 : h0.size ≤ b110 := Nat.le_trans KC0.1 (Nat.le_of_eq g110.symm)
  have V110 : Arv Z h110 b110 k110 .byte (1 : Int32) [(.int (0 : Int32))] (.int (0 : Int32)) := (Arv.new A110 (by decide)).pad (pad_rep [] (.int (0 : Int32)) 1)
  have KC110 : Keep h0 h110 [] := KC0.ext E110
  have go111 : own_S p e below ST T110 (mkF m 3 #[rv o1, iv (0 : Int32), iv (1 : Int32), .unset, .unset, .unset] [(.ref b110)]) := fun tt kt => go109 tt (st110 _ kt)
  have go112 : own_S p e below ST T110 (mkF m 9 #[rv o1, iv (0 : Int32), iv (1 : Int32), rv b110, .unset, .unset] [(.int (1 : Int32)), (.int (0 : Int32)), (.ref b110), (.int (0 : Int32)), (.ref o1)]) := fun tt kt => go111 tt (by
      refine XS.astoreN X110.here hx rfl (hb hby d6_3) rfl rfl (l' := #[rv o1, iv (0 : Int32), iv (1 : Int32), rv b110, .unset, .unset]) rfl ?_
      refine XS.aloadN X110.here hx rfl (hb hby d6_4) rfl rfl ?_
      refine XS.iloadN X110.here hx rfl (hb hby d6_5) rfl ?_
      refine XS.aloadN X110.here hx rfl (hb hby d6_6) rfl rfl ?_
      refine XS.iconst X110.here hx rfl (hb hby d6_7) ?_
      refine XS.iloadN X110.here hx rfl (hb hby d6_8) rfl ?_
      exact kt)
  have f113 := (V1.ext E110)
  have zs115 := (Nat.le_trans Z0 E110.1)
  obtain ⟨_, _, ⟨T114, L114, k114, n114⟩, -, X114, ⟨Lc114, hQ114, l114, y114, z114⟩, st114⟩ := Jvm.LawKit.callS X110 hx (y := (⟨"java/lang/StringUTF16", "compress", "([CI[BII)I"⟩ : MethodName)) hown (mvT hZ (W 37 rfl)) (mvT hZ (W 38 rfl)) (mvT hZ (W 35 rfl)) (mvT hZ (W 39 rfl)) (by decide) (backOf (W := 0) (rm7k1 l Z a0 hw [] o1 k1 b110 k110 c0 h110 n0 zs115 f113 V110 neo1_b110 ge_b110 q0) hZ (W 39 rfl) (W 35 rfl) (by decide) (by decide)) (g := (mkF m 9 #[rv o1, iv (0 : Int32), iv (1 : Int32), rv b110, .unset, .unset] [(.int (1 : Int32)), (.int (0 : Int32)), (.ref b110), (.int (0 : Int32)), (.ref o1)])) rfl (by rw [hml]; rfl) (argsL := [(.ref o1), (.int (0 : Int32)), (.ref b110), (.int (0 : Int32)), (.int (1 : Int32))]) (rest := []) (lenOf pd41 rfl) rfl (by show 2 * 0 + _ ≤ _; exact Nat.le_of_eq rfl) (hb hby d6_9) (fun _ _ => ⟨rfl, e110, (by decide : 1 + 0 ≤ _), (by decide : 1 + 0 ≤ _)⟩)
  dsimp only [Pt.U, Pt.locs, Pt.cells, Pt.slots] at X114 l114 y114 z114 st114 hQ114
  subst l114 y114 z114
  obtain ⟨rfl, Nq114, K114, Vb114⟩ := hQ114
  have N114 := Fr.app N0 Nq114
  have go116 : own_S p e below ST T114 (mkF m 12 #[rv o1, iv (0 : Int32), iv (1 : Int32), rv b110, .unset, .unset] [(.int (1 : Int32))]) := fun tt kt => go112 tt (st114 _ kt)
  have KC114 : Keep h0 T114.heap [] := KC110.trans K114 (allS (Or.inr sz_b110) all0)
  have go117 : own_S p e below ST T114 (mkF m 58 #[rv o1, iv (0 : Int32), iv (1 : Int32), rv b110, iv (1 : Int32), .unset] [(.ref b110)]) := fun tt kt => go116 tt (by
      refine XS.istore X114.here hx rfl (hb hby d6_12) rfl (l' := #[rv o1, iv (0 : Int32), iv (1 : Int32), rv b110, iv (1 : Int32), .unset]) rfl ?_
      refine XS.iload X114.here hx rfl (hb hby d6_14) rfl ?_
      refine XS.iloadN X114.here hx rfl (hb hby d6_16) rfl ?_
      refine XS.icmpYes X114.here hx rfl (pc0 := 17) (pc' := 57) rfl (hb hby d6_17) rfl (teq (by decide : (1 : Int32) = (1 : Int32))).1 (by decide) (by decide) ?_
      refine XS.aloadN X114.here hx rfl (hb hby d6_57) rfl rfl ?_
      exact kt)
  obtain ⟨fs, hr, hrun, hended, hW, hsame⟩ := X114.leave (v := some (.ref b110)) (fun h => by rw [Bd.returns] at h; cases h) (hlocks := by first | exact BodyLoose.notSynchronized Bd | exact Body.notSynchronized Bd)
  refine ⟨_, _, pre0 _ (go117 _ ?_), hrun, hended, _, _, rfl, ?_, ⟨_, rfl⟩, hW, hsame.mono (by decide) (by decide)⟩
  · exact retOut X114 hx Bd.returns rfl (Or.inr (Or.inr (Or.inr (Or.inr ⟨rfl, rfl, rfl⟩)))) (hb hby d6_58) hr
  · show Q6k1 Z o1 k1 c0 h0 n0 _ T114.heap _
    exact ⟨b110, k110, rfl, N114, KC114, Vb114, ge_b110, sz_b110⟩
theorem d8_0 : decode jdk_52_method_15_code 0 = .ok (.iload_n 1, 1) := by decide +kernel
theorem d8_1 : decode jdk_52_method_15_code 1 = .ok (.aload_n 0, 1) := by decide +kernel
theorem d8_2 : decode jdk_52_method_15_code 2 = .ok (.arraylength, 1) := by decide +kernel
theorem d8_3 : decode jdk_52_method_15_code 3 = .ok (.isub, 1) := by decide +kernel
theorem d8_4 : decode jdk_52_method_15_code 4 = .ok (.bipush 31, 2) := by decide +kernel
theorem d8_6 : decode jdk_52_method_15_code 6 = .ok (.iushr, 1) := by decide +kernel
theorem d8_7 : decode jdk_52_method_15_code 7 = .ok (.i2b, 1) := by decide +kernel
theorem d8_8 : decode jdk_52_method_15_code 8 = .ok (.ireturn, 1) := by decide +kernel
theorem ef8k1 (m : MethodId) (x0 : Addr) (x1 : Int32) : entryFrame m #[(.ref x0), (.int x1)] 2 = mkF m 0 #[.val (.ref x0), .val (.int x1)] [] := by first | (simp [entryFrame, mkF, argsToLocals, Value.category]; done) | rfl
def Q8k1 (Z : State) (o1 : Addr) (k1 : ClassId) (vs : List Value) (h0 : Heap) (n0 : Nat) (v : Option Value) (h : Heap) (L : List Loc) : Prop := v = some (.int (0 : Int32)) ∧ Fr n0 L ∧ h = h0
set_option maxRecDepth 65536 in
set_option maxHeartbeats 40000000 in
theorem rm8k1 (l : Launch) (Z : State) (a0 : Array Value) (hw : ∀ d ∈ tables_1, d.before a0 Z = true) (ws : List Jvm.Cond) (o1 : Addr) (k1 : ClassId) (vs : List Value) (h0 : Heap) (n0 : Nat) (Z0 : n0 ≤ h0.size) (V1 : Arv Z h0 o1 k1 .byte (1 : Int32) vs (.int (0 : Int32))) :
    MetFree l (⟨"java/lang/StringUTF16", "coderFromArrayLen", "([BI)B"⟩ : MethodName) (head1 (Jvm.Cond.code (⟨"java/lang/StringUTF16", "coderFromArrayLen", "([BI)B"⟩ : MethodName) jdk_52_method_15_code 2 (some .byte) :: ws) ({ frames := 0, cells := 0, slots := 0, locals := 0 } : Room)) (fun aa UU => aa = #[(.ref o1), (.int (1 : Int32))] ∧ Z.Warmed39 UU.vm ∧ UU.heap = h0) (fun _ _ _ _ _ => True) (fun _ UU oo UU' => ∃ vv LL, oo = .returned vv ∧ Q8k1 Z o1 k1 vs h0 n0 vv UU'.heap LL ∧ FrameEnd UU oo UU' LL ({ frames := 0, cells := 0, slots := 0, locals := 0 } : Room).cells ({ frames := 0, cells := 0, slots := 0, locals := 0 } : Room).slots) := by
  have W : ∀ {d : Jvm.Cond} (i : Nat), tables_1[i]? = some d → d.before a0 Z = true := fun i h => hw _ (List.mem_of_getElem? h)
  refine MetFree.of_bodySF (plainFor_of_name pn8) hisR ?_
  intro p e s m args below meth c s₁ Bd hml0 hP hK
  obtain ⟨rfl, hZ, hh⟩ := hP
  have hx := Bd.exec
  have hby := Bd.bytes
  have hml : c.maxLocals = 2 := hml0
  have hown : s.vm.findClass "java/lang/StringUTF16" = some m.cls := findClass_of_methodNamed Bd.named
  have hnm := (name_of_methodNamed Bd.named Bd.method).1
  have X0 : Stand p l e ({ frames := 0, cells := 0, slots := 0, locals := 0 } : Room) s m #[(.ref o1), (.int (1 : Int32))] below meth c s₁ [] 0 0 := Stand.of_body Bd
  have e0 : s₁.heap = h0 := by rw [← hh, Bd.state]; rfl
  have N0 := Fr.nil n0
  have pre0 : ∀ tt, Steps p.tables e below (s₁.setTop (mkF m 0 #[rv o1, iv (1 : Int32)] [])) tt → Steps p.tables e below (s₁.setTop (entryFrame m #[(.ref o1), (.int (1 : Int32))] 2)) tt := fun tt kt => castTop (ef8k1 m o1 (1 : Int32)) kt
  obtain ⟨ST, hST⟩ : ∃ z : State, z = s₁.setTop (mkF m 0 #[rv o1, iv (1 : Int32)] []) := ⟨_, rfl⟩
  rw [← hST] at pre0
  have go118 : own_S p e below ST s₁ (mkF m 2 #[rv o1, iv (1 : Int32)] [(.ref o1), (.int (1 : Int32))]) := fun tt kt => (by
      rw [hST]
      show Steps p.tables e below (s₁.setTop (mkF m 0 #[rv o1, iv (1 : Int32)] [])) _
      refine XS.iloadN X0.here hx rfl (hb hby d8_0) rfl ?_
      refine XS.aloadN X0.here hx rfl (hb hby d8_1) rfl rfl ?_
      exact kt)
  obtain ⟨cl119, Ar119, q119, S119, M119, H119, G119⟩ := id V1
  have go120 : own_S p e below ST s₁ (mkF m 3 #[rv o1, iv (1 : Int32)] [(.int (1 : Int32)), (.int (1 : Int32))]) := fun tt kt => go118 tt (by
      refine X0.arraylength hx (by rw [e0]; exact Ar119.1) (State.isArrayOf_alike hZ.alike Ar119.2.1) (g := (mkF m 2 #[rv o1, iv (1 : Int32)] [(.ref o1), (.int (1 : Int32))])) rfl rfl (hb hby d8_2) _ ?_
      rw [len_of S119 M119]
      exact kt)
  have go121 : own_S p e below ST s₁ (mkF m 8 #[rv o1, iv (1 : Int32)] [(.int ((((0 : Int32).toUInt32 >>> ((31 : Int32) &&& 31).toUInt32).toInt32).toInt8.toInt32))]) := fun tt kt => go120 tt (by
      refine XS.isub X0.here hx rfl (hb hby d8_3) rfl ?_
      refine XS.bipush X0.here hx rfl (hb hby d8_4) ?_
      refine XS.iushr X0.here hx rfl (hb hby d8_6) rfl ?_
      refine XS.i2b X0.here hx rfl (hb hby d8_7) rfl ?_
      exact kt)
  obtain ⟨fs, hr, hrun, hended, hW, hsame⟩ := X0.leave (v := some (.int (nar .byte ((((0 : Int32).toUInt32 >>> ((31 : Int32) &&& 31).toUInt32).toInt32).toInt8.toInt32)))) (fun h => by rw [Bd.returns] at h; cases h) (hlocks := by first | exact BodyLoose.notSynchronized Bd | exact Body.notSynchronized Bd)
  refine ⟨_, _, pre0 _ (go121 _ ?_), hrun, hended, _, _, rfl, ?_, ⟨_, rfl⟩, hW, hsame.mono (by decide) (by decide)⟩
  · exact retN X0 hx (t := .byte) Bd.returns (by simp) (hb hby d8_8) hr
  · show Q8k1 Z o1 k1 vs h0 n0 _ s₁.heap _
    rw [e0]
    exact ⟨own_ans (by decide), N0, rfl⟩
theorem pn56 : plainName "java/lang/String" = true := by first | (simp [plainName, overriddenIn]; done) | decide +kernel
theorem d3_0 : decode jdk_42_method_149_code 0 = .ok (.aload_n 0, 1) := by decide +kernel
theorem d3_1 : decode jdk_42_method_149_code 1 = .ok (.invokespecial 1, 3) := by decide +kernel
theorem d3_4 : decode jdk_42_method_149_code 4 = .ok (.iload_n 3, 1) := by decide +kernel
theorem d3_5 : decode jdk_42_method_149_code 5 = .ok (.ifCond .ne 22, 3) := by decide +kernel
theorem d3_27 : decode jdk_42_method_149_code 27 = .ok (.getstatic 38, 3) := by decide +kernel
theorem d3_30 : decode jdk_42_method_149_code 30 = .ok (.ifCond .eq 28, 3) := by decide +kernel
theorem d3_33 : decode jdk_42_method_149_code 33 = .ok (.aload_n 1, 1) := by decide +kernel
theorem d3_34 : decode jdk_42_method_149_code 34 = .ok (.iload_n 2, 1) := by decide +kernel
theorem d3_35 : decode jdk_42_method_149_code 35 = .ok (.iload_n 3, 1) := by decide +kernel
theorem d3_36 : decode jdk_42_method_149_code 36 = .ok (.invokestatic 177, 3) := by decide +kernel
theorem pd67 : parseMethodDescriptor "([CII)[B" = some ⟨[(.array .char), .int, .int], some (.array .byte)⟩ := by decide +kernel
theorem d3_39 : decode jdk_42_method_149_code 39 = .ok (.astore 5, 2) := by decide +kernel
theorem d3_41 : decode jdk_42_method_149_code 41 = .ok (.aload_n 0, 1) := by decide +kernel
theorem d3_42 : decode jdk_42_method_149_code 42 = .ok (.aload 5, 2) := by decide +kernel
theorem d3_44 : decode jdk_42_method_149_code 44 = .ok (.iload_n 3, 1) := by decide +kernel
theorem d3_45 : decode jdk_42_method_149_code 45 = .ok (.invokestatic 47, 3) := by decide +kernel
theorem pd73 : parseMethodDescriptor "([BI)B" = some ⟨[(.array .byte), .int], some .byte⟩ := by decide +kernel
theorem d3_48 : decode jdk_42_method_149_code 48 = .ok (.putfield 15, 3) := by decide +kernel
theorem d3_51 : decode jdk_42_method_149_code 51 = .ok (.aload_n 0, 1) := by decide +kernel
theorem d3_52 : decode jdk_42_method_149_code 52 = .ok (.aload 5, 2) := by decide +kernel
theorem d3_54 : decode jdk_42_method_149_code 54 = .ok (.putfield 9, 3) := by decide +kernel
theorem d3_57 : decode jdk_42_method_149_code 57 = .ok (.return_, 1) := by decide +kernel
theorem ef3k1 (m : MethodId) (x0 : Addr) (x1 : Addr) (x2 : Int32) (x3 : Int32) : entryFrame m #[(.ref x0), (.ref x1), (.int x2), (.int x3), .null] 6 = mkF m 0 #[.val (.ref x0), .val (.ref x1), .val (.int x2), .val (.int x3), .val .null, .unset] [] := by first | (simp [entryFrame, mkF, argsToLocals, Value.category]; done) | rfl
def Q3k1 (Z : State) (o1 : Addr) (o2 : Addr) (k2 : ClassId) (c0 : Int32) (cs : Int32) (h0 : Heap) (n0 : Nat) (v : Option Value) (h : Heap) (L : List Loc) : Prop := ∃ (b : Addr) (kb : ClassId), v = none ∧ Fr n0 L ∧ Keep h0 h [o1] ∧ Fld Z h o1 "java/lang/String" "coder" "B" (.int (0 : Int32)) ∧ Fld Z h o1 "java/lang/String" "value" "[B" (.ref b) ∧ Arv Z h b kb .byte (1 : Int32) [(.int (nar .byte (c0.toInt8.toInt32)))] (.int (0 : Int32))
set_option maxRecDepth 65536 in
set_option maxHeartbeats 40000000 in
theorem rm3k1 (l : Launch) (Z : State) (a0 : Array Value) (hw : ∀ d ∈ tables_1, d.before a0 Z = true) (ws : List Jvm.Cond) (o1 : Addr) (o2 : Addr) (k2 : ClassId) (c0 : Int32) (cs : Int32) (h0 : Heap) (n0 : Nat) (Z0 : n0 ≤ h0.size) (F1 : Fld Z h0 o1 "java/lang/String" "coder" "B" (.int (0 : Int32))) (F2 : Fld Z h0 o1 "java/lang/String" "value" "[B" .null) (E1 : Exa Z h0 o1 "java/lang/String") (g1 : n0 ≤ o1) (V2 : Arv Z h0 o2 k2 .char (1 : Int32) [(.int c0)] (.int (0 : Int32))) (n12 : o1 ≠ o2) (q0 : ¬ (255 : Int32) < c0) (SC : Sta Z Z.heap "java/lang/String" "COMPACT_STRINGS" "Z" (.int cs)) (hcs : ¬ cs = 0) (OL : Old Z n0 h0) :
    MetFree l (⟨"java/lang/String", "<init>", "([CIILjava/lang/Void;)V"⟩ : MethodName) (head1 (Jvm.Cond.code (⟨"java/lang/String", "<init>", "([CIILjava/lang/Void;)V"⟩ : MethodName) jdk_42_method_149_code 6 none :: ws) ({ frames := 2, cells := 1, slots := 1, locals := 35 } : Room)) (fun aa UU => aa = #[(.ref o1), (.ref o2), (.int (0 : Int32)), (.int (1 : Int32)), .null] ∧ Z.Warmed39 UU.vm ∧ UU.heap = h0) (fun _ _ _ _ _ => True) (fun _ UU oo UU' => ∃ vv LL, oo = .returned vv ∧ Q3k1 Z o1 o2 k2 c0 cs h0 n0 vv UU'.heap LL ∧ FrameEnd UU oo UU' LL ({ frames := 2, cells := 1, slots := 1, locals := 35 } : Room).cells ({ frames := 2, cells := 1, slots := 1, locals := 35 } : Room).slots) := by
  have W : ∀ {d : Jvm.Cond} (i : Nat), tables_1[i]? = some d → d.before a0 Z = true := fun i h => hw _ (List.mem_of_getElem? h)
  refine MetFree.of_bodySF (plainFor_of_name pn56) hisR ?_
  intro p e s m args below meth c s₁ Bd hml0 hP hK
  obtain ⟨rfl, hZ, hh⟩ := hP
  have hx := Bd.exec
  have hby := Bd.bytes
  have hml : c.maxLocals = 6 := hml0
  have hown : s.vm.findClass "java/lang/String" = some m.cls := findClass_of_methodNamed Bd.named
  have hnm := (name_of_methodNamed Bd.named Bd.method).1
  have X0 : Stand p l e ({ frames := 2, cells := 1, slots := 1, locals := 35 } : Room) s m #[(.ref o1), (.ref o2), (.int (0 : Int32)), (.int (1 : Int32)), .null] below meth c s₁ [] 0 0 := Stand.of_body Bd
  have e0 : s₁.heap = h0 := by rw [← hh, Bd.state]; rfl
  have N0 := Fr.nil n0
  have pre0 : ∀ tt, Steps p.tables e below (s₁.setTop (mkF m 0 #[rv o1, rv o2, iv (0 : Int32), iv (1 : Int32), .val .null, .unset] [])) tt → Steps p.tables e below (s₁.setTop (entryFrame m #[(.ref o1), (.ref o2), (.int (0 : Int32)), (.int (1 : Int32)), .null] 6)) tt := fun tt kt => castTop (ef3k1 m o1 o2 (0 : Int32) (1 : Int32)) kt
  obtain ⟨ST, hST⟩ : ∃ z : State, z = s₁.setTop (mkF m 0 #[rv o1, rv o2, iv (0 : Int32), iv (1 : Int32), .val .null, .unset] []) := ⟨_, rfl⟩
  rw [← hST] at pre0
  have KC0 : Keep h0 h0 [o1] := Keep.refl h0 [o1]
  have go122 : own_S p e below ST s₁ (mkF m 1 #[rv o1, rv o2, iv (0 : Int32), iv (1 : Int32), .val .null, .unset] [(.ref o1)]) := fun tt kt => (by
      rw [hST]
      show Steps p.tables e below (s₁.setTop (mkF m 0 #[rv o1, rv o2, iv (0 : Int32), iv (1 : Int32), .val .null, .unset] [])) _
      refine XS.aloadN X0.here hx rfl (hb hby d3_0) rfl rfl ?_
      exact kt)
  obtain ⟨T123, X123, e123, st123⟩ := initO X0 hx hZ hown (W 18 rfl) (W 19 rfl) (W 20 rfl) e0 (g := (mkF m 1 #[rv o1, rv o2, iv (0 : Int32), iv (1 : Int32), .val .null, .unset] [(.ref o1)])) rfl (by rw [hml]; rfl) rfl (hb hby d3_1) (by decide) (W := 0) (by show 2 * 0 + _ ≤ _; exact Nat.le_of_eq rfl) (by decide)
  have go124 : own_S p e below ST T123 (mkF m 4 #[rv o1, rv o2, iv (0 : Int32), iv (1 : Int32), .val .null, .unset] []) := fun tt kt => go122 tt (st123 _ kt)
  have go125 : own_S p e below ST T123 (mkF m 27 #[rv o1, rv o2, iv (0 : Int32), iv (1 : Int32), .val .null, .unset] []) := fun tt kt => go124 tt (by
      refine XS.iloadN X123.here hx rfl (hb hby d3_4) rfl ?_
      refine XS.ifYes X123.here hx rfl (pc0 := 5) (pc' := 27) rfl (hb hby d3_5) rfl ((if0 _ _).trans (feq (by decide : ¬ ((1 : Int32) = (0 : Int32)))).2) (by decide) (by decide) ?_
      exact kt)
  obtain ⟨T126, X126, e126, st126⟩ := getS2 X123 hx hZ hown (host := "") (Or.inl (W 32 rfl)) Via.refl e123 (SC.ext OL.2) (g := (mkF m 27 #[rv o1, rv o2, iv (0 : Int32), iv (1 : Int32), .val .null, .unset] [])) rfl (hb hby d3_27)
  have go127 : own_S p e below ST T126 (mkF m 30 #[rv o1, rv o2, iv (0 : Int32), iv (1 : Int32), .val .null, .unset] [(.int cs)]) := fun tt kt => go125 tt (st126 _ kt)
  have go128 : own_S p e below ST T126 (mkF m 36 #[rv o1, rv o2, iv (0 : Int32), iv (1 : Int32), .val .null, .unset] [(.int (1 : Int32)), (.int (0 : Int32)), (.ref o2)]) := fun tt kt => go127 tt (by
      refine XS.ifNo X126.here hx rfl (hb hby d3_30) rfl ((if0 _ _).trans (feq hcs).1) ?_
      refine XS.aloadN X126.here hx rfl (hb hby d3_33) rfl rfl ?_
      refine XS.iloadN X126.here hx rfl (hb hby d3_34) rfl ?_
      refine XS.iloadN X126.here hx rfl (hb hby d3_35) rfl ?_
      exact kt)
  obtain ⟨_, _, ⟨T129, L129, k129, n129⟩, -, X129, ⟨Lc129, hQ129, l129, y129, z129⟩, st129⟩ := Jvm.LawKit.callS X126 hx (y := (⟨"java/lang/StringUTF16", "compress", "([CII)[B"⟩ : MethodName)) hown (mvT hZ (W 33 rfl)) (mvT hZ (W 34 rfl)) (mvT hZ (W 35 rfl)) (mvT hZ (W 36 rfl)) (by decide) (backOf (W := 0) (rm6k1 l Z a0 hw [] o2 k2 c0 h0 n0 Z0 V2 q0) hZ (W 36 rfl) (W 35 rfl) (by decide) (by decide)) (g := (mkF m 36 #[rv o1, rv o2, iv (0 : Int32), iv (1 : Int32), .val .null, .unset] [(.int (1 : Int32)), (.int (0 : Int32)), (.ref o2)])) rfl (by rw [hml]; rfl) (argsL := [(.ref o2), (.int (0 : Int32)), (.int (1 : Int32))]) (rest := []) (lenOf pd67 rfl) rfl (by show 2 * 0 + _ ≤ _; exact Nat.le_of_eq rfl) (hb hby d3_36) (fun _ _ => ⟨rfl, e126, (by decide : 0 + 1 ≤ _), (by decide : 0 + 1 ≤ _)⟩)
  dsimp only [Pt.U, Pt.locs, Pt.cells, Pt.slots] at X129 l129 y129 z129 st129 hQ129
  subst l129 y129 z129
  obtain ⟨b129, kb129, rfl, Nq129, K129, Vb129, gb129, zb129⟩ := hQ129
  have N129 := Fr.app N0 Nq129
  have go130 : own_S p e below ST T129 (mkF m 39 #[rv o1, rv o2, iv (0 : Int32), iv (1 : Int32), .val .null, .unset] [(.ref b129)]) := fun tt kt => go128 tt (st129 _ kt)
  have KC129 : Keep h0 T129.heap [o1] := KC0.trans K129 all0
  have neo1_b129 : o1 ≠ b129 := Nat.ne_of_lt (Nat.lt_of_lt_of_le E1.lt zb129)
  have neo2_b129 : o2 ≠ b129 := Nat.ne_of_lt (Nat.lt_of_lt_of_le V2.lt zb129)
  have go131 : own_S p e below ST T129 (mkF m 45 #[rv o1, rv o2, iv (0 : Int32), iv (1 : Int32), .val .null, rv b129] [(.int (1 : Int32)), (.ref b129), (.ref o1)]) := fun tt kt => go130 tt (by
      refine XS.astore X129.here hx rfl (hb hby d3_39) rfl rfl (l' := #[rv o1, rv o2, iv (0 : Int32), iv (1 : Int32), .val .null, rv b129]) rfl ?_
      refine XS.aloadN X129.here hx rfl (hb hby d3_41) rfl rfl ?_
      refine XS.aload X129.here hx rfl (hb hby d3_42) rfl rfl ?_
      refine XS.iloadN X129.here hx rfl (hb hby d3_44) rfl ?_
      exact kt)
  have zs133 := (Nat.le_trans Z0 K129.1)
  obtain ⟨_, _, ⟨T132, L132, k132, n132⟩, -, X132, ⟨Lc132, hQ132, l132, y132, z132⟩, st132⟩ := Jvm.LawKit.callS X129 hx (y := (⟨"java/lang/StringUTF16", "coderFromArrayLen", "([BI)B"⟩ : MethodName)) hown (mvT hZ (W 40 rfl)) (mvT hZ (W 41 rfl)) (mvT hZ (W 35 rfl)) (mvT hZ (W 42 rfl)) (by decide) (backOf (W := 1) (rm8k1 l Z a0 hw [] b129 kb129 _ T129.heap n0 zs133 Vb129) hZ (W 42 rfl) (W 35 rfl) (by decide) (by decide)) (g := (mkF m 45 #[rv o1, rv o2, iv (0 : Int32), iv (1 : Int32), .val .null, rv b129] [(.int (1 : Int32)), (.ref b129), (.ref o1)])) rfl (by rw [hml]; rfl) (argsL := [(.ref b129), (.int (1 : Int32))]) (rest := [(.ref o1)]) (lenOf pd73 rfl) rfl (by show 2 * 0 + _ ≤ _; exact Nat.le_of_eq rfl) (hb hby d3_45) (fun _ _ => ⟨rfl, rfl, (by decide : 1 + 0 ≤ _), (by decide : 1 + 0 ≤ _)⟩)
  dsimp only [Pt.U, Pt.locs, Pt.cells, Pt.slots] at X132 l132 y132 z132 st132 hQ132
  subst l132 y132 z132
  obtain ⟨rfl, Nq132, eh132⟩ := hQ132
  have N132 := Fr.app N129 Nq132
  have go134 : own_S p e below ST T132 (mkF m 48 #[rv o1, rv o2, iv (0 : Int32), iv (1 : Int32), .val .null, rv b129] [(.int (0 : Int32)), (.ref o1)]) := fun tt kt => go131 tt (st132 _ kt)
  have f136 := (F1.keep K129 nin0)
  have f137 := (E1.keep K129)
  obtain ⟨T135, h135, X135, e135, W135, st135⟩ := putFN X132 hx hZ hown (W 28 rfl) Via.refl eh132 f136 f137 (Or.inr ⟨(W 24 rfl), rfl, hnm⟩) (W 8 rfl) (ty := .byte) (v' := (.int ((0 : Int32).toInt8.toInt32))) (by decide) rfl (fits_nar_byte _) (g := (mkF m 48 #[rv o1, rv o2, iv (0 : Int32), iv (1 : Int32), .val .null, rv b129] [(.int (0 : Int32)), (.ref o1)])) rfl rfl (hb hby d3_48)
  have Fw135 := f136.same W135
  have N135 := Fr.snoc X135 N132 g1
  have go138 : own_S p e below ST T135 (mkF m 51 #[rv o1, rv o2, iv (0 : Int32), iv (1 : Int32), .val .null, rv b129] []) := fun tt kt => go134 tt (st135 _ kt)
  have KC135 : Keep h0 h135 [o1] := KC129.wr W135 (Or.inl (List.mem_of_getElem? (i := 0) rfl))
  have go139 : own_S p e below ST T135 (mkF m 54 #[rv o1, rv o2, iv (0 : Int32), iv (1 : Int32), .val .null, rv b129] [(.ref b129), (.ref o1)]) := fun tt kt => go138 tt (by
      refine XS.aloadN X135.here hx rfl (hb hby d3_51) rfl rfl ?_
      refine XS.aload X135.here hx rfl (hb hby d3_52) rfl rfl ?_
      exact kt)
  have f141 := ((F2.keep K129 nin0).other W135 (Or.inr (slot_ne (Or.inr (W 23 rfl)) (Or.inr (W 24 rfl)) (by decide) (t := (.array .byte)) (t' := .byte) (by decide) (by decide))))
  have f142 := (f137.wr W135)
  obtain ⟨T140, h140, X140, e140, W140, st140⟩ := putF X135 hx hZ hown (host := "") (Or.inl (W 27 rfl)) Via.refl e135 f141 f142 (Or.inr ⟨(W 23 rfl), rfl, hnm⟩) (W 8 rfl) (ty := (.array .byte)) (by decide) rfl rfl (g := (mkF m 54 #[rv o1, rv o2, iv (0 : Int32), iv (1 : Int32), .val .null, rv b129] [(.ref b129), (.ref o1)])) rfl rfl (hb hby d3_54)
  have Fw140 := f141.same W140
  have N140 := Fr.snoc X140 N135 g1
  have go143 : own_S p e below ST T140 (mkF m 57 #[rv o1, rv o2, iv (0 : Int32), iv (1 : Int32), .val .null, rv b129] []) := fun tt kt => go139 tt (st140 _ kt)
  have KC140 : Keep h0 h140 [o1] := KC135.wr W140 (Or.inl (List.mem_of_getElem? (i := 0) rfl))
  have f144 := (Fw135.other W140 (Or.inr (slot_ne (Or.inr (W 24 rfl)) (Or.inr (W 23 rfl)) (by decide) (t := .byte) (t' := (.array .byte)) (by decide) (by decide))))
  have f145 := ((Vb129.other W135 (Ne.symm neo1_b129)).other W140 (Ne.symm neo1_b129))
  obtain ⟨fs, hr, hrun, hended, hW, hsame⟩ := X140.leave (v := none) (fun _ => rfl) (hlocks := by first | exact BodyLoose.notSynchronized Bd | exact Body.notSynchronized Bd)
  refine ⟨_, _, pre0 _ (go143 _ ?_), hrun, hended, _, _, rfl, ?_, ⟨_, rfl⟩, hW, hsame.mono (by decide) (by decide)⟩
  · exact X140.returnOut hx Bd.returns (hb hby d3_57) hr
  · show Q3k1 Z o1 o2 k2 c0 cs h0 n0 _ T140.heap _
    rw [e140]
    exact ⟨b129, kb129, rfl, N140, KC140, own_cf f144, Fw140, f145⟩
theorem d2_0 : decode jdk_42_method_3_code 0 = .ok (.aload_n 0, 1) := by decide +kernel
theorem d2_1 : decode jdk_42_method_3_code 1 = .ok (.aload_n 1, 1) := by decide +kernel
theorem d2_2 : decode jdk_42_method_3_code 2 = .ok (.iconst 0, 1) := by decide +kernel
theorem d2_3 : decode jdk_42_method_3_code 3 = .ok (.aload_n 1, 1) := by decide +kernel
theorem d2_4 : decode jdk_42_method_3_code 4 = .ok (.arraylength, 1) := by decide +kernel
theorem d2_5 : decode jdk_42_method_3_code 5 = .ok (.aconst_null, 1) := by decide +kernel
theorem d2_6 : decode jdk_42_method_3_code 6 = .ok (.invokespecial 27, 3) := by decide +kernel
theorem pd86 : parseMethodDescriptor "([CIILjava/lang/Void;)V" = some ⟨[(.array .char), .int, .int, (.object "java/lang/Void")], none⟩ := by decide +kernel
theorem d2_9 : decode jdk_42_method_3_code 9 = .ok (.return_, 1) := by decide +kernel
theorem ef2k1 (m : MethodId) (x0 : Addr) (x1 : Addr) : entryFrame m #[(.ref x0), (.ref x1)] 2 = mkF m 0 #[.val (.ref x0), .val (.ref x1)] [] := by first | (simp [entryFrame, mkF, argsToLocals, Value.category]; done) | rfl
def Q2k1 (Z : State) (o1 : Addr) (o2 : Addr) (k2 : ClassId) (c0 : Int32) (cs : Int32) (h0 : Heap) (n0 : Nat) (v : Option Value) (h : Heap) (L : List Loc) : Prop := ∃ (b : Addr) (kb : ClassId), v = none ∧ Fr n0 L ∧ Keep h0 h [o1] ∧ Fld Z h o1 "java/lang/String" "coder" "B" (.int (0 : Int32)) ∧ Fld Z h o1 "java/lang/String" "value" "[B" (.ref b) ∧ Arv Z h b kb .byte (1 : Int32) [(.int (nar .byte (c0.toInt8.toInt32)))] (.int (0 : Int32))
set_option maxRecDepth 65536 in
set_option maxHeartbeats 40000000 in
theorem rm2k1 (l : Launch) (Z : State) (a0 : Array Value) (hw : ∀ d ∈ tables_1, d.before a0 Z = true) (ws : List Jvm.Cond) (o1 : Addr) (o2 : Addr) (k2 : ClassId) (c0 : Int32) (cs : Int32) (h0 : Heap) (n0 : Nat) (Z0 : n0 ≤ h0.size) (F1 : Fld Z h0 o1 "java/lang/String" "coder" "B" (.int (0 : Int32))) (F2 : Fld Z h0 o1 "java/lang/String" "value" "[B" .null) (E1 : Exa Z h0 o1 "java/lang/String") (g1 : n0 ≤ o1) (V2 : Arv Z h0 o2 k2 .char (1 : Int32) [(.int c0)] (.int (0 : Int32))) (n12 : o1 ≠ o2) (q0 : ¬ (255 : Int32) < c0) (SC : Sta Z Z.heap "java/lang/String" "COMPACT_STRINGS" "Z" (.int cs)) (hcs : ¬ cs = 0) (OL : Old Z n0 h0) :
    MetFree l (⟨"java/lang/String", "<init>", "([C)V"⟩ : MethodName) (head1 (Jvm.Cond.code (⟨"java/lang/String", "<init>", "([C)V"⟩ : MethodName) jdk_42_method_3_code 2 none :: ws) ({ frames := 3, cells := 1, slots := 1, locals := 52 } : Room)) (fun aa UU => aa = #[(.ref o1), (.ref o2)] ∧ Z.Warmed39 UU.vm ∧ UU.heap = h0) (fun _ _ _ _ _ => True) (fun _ UU oo UU' => ∃ vv LL, oo = .returned vv ∧ Q2k1 Z o1 o2 k2 c0 cs h0 n0 vv UU'.heap LL ∧ FrameEnd UU oo UU' LL ({ frames := 3, cells := 1, slots := 1, locals := 52 } : Room).cells ({ frames := 3, cells := 1, slots := 1, locals := 52 } : Room).slots) := by
  have W : ∀ {d : Jvm.Cond} (i : Nat), tables_1[i]? = some d → d.before a0 Z = true := fun i h => hw _ (List.mem_of_getElem? h)
  refine MetFree.of_bodySF (plainFor_of_name pn56) hisR ?_
  intro p e s m args below meth c s₁ Bd hml0 hP hK
  obtain ⟨rfl, hZ, hh⟩ := hP
  have hx := Bd.exec
  have hby := Bd.bytes
  have hml : c.maxLocals = 2 := hml0
  have hown : s.vm.findClass "java/lang/String" = some m.cls := findClass_of_methodNamed Bd.named
  have hnm := (name_of_methodNamed Bd.named Bd.method).1
  have X0 : Stand p l e ({ frames := 3, cells := 1, slots := 1, locals := 52 } : Room) s m #[(.ref o1), (.ref o2)] below meth c s₁ [] 0 0 := Stand.of_body Bd
  have e0 : s₁.heap = h0 := by rw [← hh, Bd.state]; rfl
  have N0 := Fr.nil n0
  have pre0 : ∀ tt, Steps p.tables e below (s₁.setTop (mkF m 0 #[rv o1, rv o2] [])) tt → Steps p.tables e below (s₁.setTop (entryFrame m #[(.ref o1), (.ref o2)] 2)) tt := fun tt kt => castTop (ef2k1 m o1 o2) kt
  obtain ⟨ST, hST⟩ : ∃ z : State, z = s₁.setTop (mkF m 0 #[rv o1, rv o2] []) := ⟨_, rfl⟩
  rw [← hST] at pre0
  have KC0 : Keep h0 h0 [o1] := Keep.refl h0 [o1]
  have go146 : own_S p e below ST s₁ (mkF m 4 #[rv o1, rv o2] [(.ref o2), (.int (0 : Int32)), (.ref o2), (.ref o1)]) := fun tt kt => (by
      rw [hST]
      show Steps p.tables e below (s₁.setTop (mkF m 0 #[rv o1, rv o2] [])) _
      refine XS.aloadN X0.here hx rfl (hb hby d2_0) rfl rfl ?_
      refine XS.aloadN X0.here hx rfl (hb hby d2_1) rfl rfl ?_
      refine XS.iconst X0.here hx rfl (hb hby d2_2) ?_
      refine XS.aloadN X0.here hx rfl (hb hby d2_3) rfl rfl ?_
      exact kt)
  obtain ⟨cl147, Ar147, q147, S147, M147, H147, G147⟩ := id V2
  have go148 : own_S p e below ST s₁ (mkF m 5 #[rv o1, rv o2] [(.int (1 : Int32)), (.int (0 : Int32)), (.ref o2), (.ref o1)]) := fun tt kt => go146 tt (by
      refine X0.arraylength hx (by rw [e0]; exact Ar147.1) (State.isArrayOf_alike hZ.alike Ar147.2.1) (g := (mkF m 4 #[rv o1, rv o2] [(.ref o2), (.int (0 : Int32)), (.ref o2), (.ref o1)])) rfl rfl (hb hby d2_4) _ ?_
      rw [len_of S147 M147]
      exact kt)
  have go149 : own_S p e below ST s₁ (mkF m 6 #[rv o1, rv o2] [.null, (.int (1 : Int32)), (.int (0 : Int32)), (.ref o2), (.ref o1)]) := fun tt kt => go148 tt (by
      refine XS.aconstNull X0.here hx rfl (hb hby d2_5) ?_
      exact kt)
  obtain ⟨_, _, ⟨T150, L150, k150, n150⟩, -, X150, ⟨Lc150, hQ150, l150, y150, z150⟩, st150⟩ := X0.specialBack hx (y := (⟨"java/lang/String", "<init>", "([CIILjava/lang/Void;)V"⟩ : MethodName)) rfl hown (mvT hZ (W 14 rfl)) (mvT hZ (W 15 rfl)) (mvT hZ (W 17 rfl)) (by decide) (backOf (W := 0) (rm3k1 l Z a0 hw [] o1 o2 k2 c0 cs h0 n0 Z0 F1 F2 E1 g1 V2 n12 q0 SC hcs OL) hZ (W 17 rfl) (W 9 rfl) (by decide) (by decide)) (g := (mkF m 6 #[rv o1, rv o2] [.null, (.int (1 : Int32)), (.int (0 : Int32)), (.ref o2), (.ref o1)])) rfl (by rw [hml]; rfl) (Steps.refl _) (a := o1) (argsL := [(.ref o2), (.int (0 : Int32)), (.int (1 : Int32)), .null]) (rest := []) (lenOf pd86 rfl) rfl (by show 2 * 0 + _ ≤ _; exact Nat.le_of_eq rfl) (hb hby d2_6) (fun _ _ => ⟨rfl, e0, (by decide : 0 + 1 ≤ _), (by decide : 0 + 1 ≤ _)⟩)
  dsimp only [Pt.U, Pt.locs, Pt.cells, Pt.slots] at X150 l150 y150 z150 st150 hQ150
  subst l150 y150 z150
  obtain ⟨b150, kb150, rfl, Nq150, K150, Fa150, Fb150, Vb150⟩ := hQ150
  have N150 := Fr.app N0 Nq150
  have go151 : own_S p e below ST T150 (mkF m 9 #[rv o1, rv o2] []) := fun tt kt => go149 tt (st150.trans kt)
  have KC150 : Keep h0 T150.heap [o1] := KC0.trans K150 (allS (Or.inl (List.mem_of_getElem? (i := 0) rfl)) all0)
  obtain ⟨fs, hr, hrun, hended, hW, hsame⟩ := X150.leave (v := none) (fun _ => rfl) (hlocks := by first | exact BodyLoose.notSynchronized Bd | exact Body.notSynchronized Bd)
  refine ⟨_, _, pre0 _ (go151 _ ?_), hrun, hended, _, _, rfl, ?_, ⟨_, rfl⟩, hW, hsame.mono (by decide) (by decide)⟩
  · exact X150.returnOut hx Bd.returns (hb hby d2_9) hr
  · show Q2k1 Z o1 o2 k2 c0 cs h0 n0 _ T150.heap _
    exact ⟨b150, kb150, rfl, N150, KC150, Fa150, Fb150, Vb150⟩
theorem ef7k2 (m : MethodId) (x0 : Addr) (x1 : Int32) (x2 : Addr) (x3 : Int32) (x4 : Int32) : entryFrame m #[(.ref x0), (.int x1), (.ref x2), (.int x3), (.int x4)] 7 = mkF m 0 #[.val (.ref x0), .val (.int x1), .val (.ref x2), .val (.int x3), .val (.int x4), .unset, .unset] [] := by first | (simp [entryFrame, mkF, argsToLocals, Value.category]; done) | rfl
def Q7k2 (Z : State) (o1 : Addr) (k1 : ClassId) (o2 : Addr) (k2 : ClassId) (c0 : Int32) (c1 : Int32) (h0 : Heap) (n0 : Nat) (v : Option Value) (h : Heap) (L : List Loc) : Prop := v = some (.int (2 : Int32)) ∧ Fr n0 L ∧ Keep h0 h [o2] ∧ Arv Z h o2 k2 .byte (2 : Int32) [(.int (nar .byte (c0.toInt8.toInt32))), (.int (nar .byte (c1.toInt8.toInt32)))] (.int (0 : Int32))
set_option maxRecDepth 65536 in
set_option maxHeartbeats 40000000 in
theorem rm7k2 (l : Launch) (Z : State) (a0 : Array Value) (hw : ∀ d ∈ tables_1, d.before a0 Z = true) (ws : List Jvm.Cond) (o1 : Addr) (k1 : ClassId) (o2 : Addr) (k2 : ClassId) (c0 : Int32) (c1 : Int32) (h0 : Heap) (n0 : Nat) (Z0 : n0 ≤ h0.size) (V1 : Arv Z h0 o1 k1 .char (2 : Int32) [(.int c0), (.int c1)] (.int (0 : Int32))) (V2 : Arv Z h0 o2 k2 .byte (2 : Int32) [(.int (0 : Int32)), (.int (0 : Int32))] (.int (0 : Int32))) (n12 : o1 ≠ o2) (g2 : n0 ≤ o2) (q0 : ¬ (255 : Int32) < c0) (q1 : ¬ (255 : Int32) < c1) :
    MetFree l (⟨"java/lang/StringUTF16", "compress", "([CI[BII)I"⟩ : MethodName) (head1 (Jvm.Cond.code (⟨"java/lang/StringUTF16", "compress", "([CI[BII)I"⟩ : MethodName) jdk_52_method_21_code 7 (some .int) :: ws) ({ frames := 0, cells := 0, slots := 0, locals := 0 } : Room)) (fun aa UU => aa = #[(.ref o1), (.int (0 : Int32)), (.ref o2), (.int (0 : Int32)), (.int (2 : Int32))] ∧ Z.Warmed39 UU.vm ∧ UU.heap = h0) (fun _ _ _ _ _ => True) (fun _ UU oo UU' => ∃ vv LL, oo = .returned vv ∧ Q7k2 Z o1 k1 o2 k2 c0 c1 h0 n0 vv UU'.heap LL ∧ FrameEnd UU oo UU' LL ({ frames := 0, cells := 0, slots := 0, locals := 0 } : Room).cells ({ frames := 0, cells := 0, slots := 0, locals := 0 } : Room).slots) := by
  have W : ∀ {d : Jvm.Cond} (i : Nat), tables_1[i]? = some d → d.before a0 Z = true := fun i h => hw _ (List.mem_of_getElem? h)
  refine MetFree.of_bodySF (plainFor_of_name pn8) hisR ?_
  intro p e s m args below meth c s₁ Bd hml0 hP hK
  obtain ⟨rfl, hZ, hh⟩ := hP
  have hx := Bd.exec
  have hby := Bd.bytes
  have hml : c.maxLocals = 7 := hml0
  have hown : s.vm.findClass "java/lang/StringUTF16" = some m.cls := findClass_of_methodNamed Bd.named
  have hnm := (name_of_methodNamed Bd.named Bd.method).1
  have X0 : Stand p l e ({ frames := 0, cells := 0, slots := 0, locals := 0 } : Room) s m #[(.ref o1), (.int (0 : Int32)), (.ref o2), (.int (0 : Int32)), (.int (2 : Int32))] below meth c s₁ [] 0 0 := Stand.of_body Bd
  have e0 : s₁.heap = h0 := by rw [← hh, Bd.state]; rfl
  have N0 := Fr.nil n0
  have pre0 : ∀ tt, Steps p.tables e below (s₁.setTop (mkF m 0 #[rv o1, iv (0 : Int32), rv o2, iv (0 : Int32), iv (2 : Int32), .unset, .unset] [])) tt → Steps p.tables e below (s₁.setTop (entryFrame m #[(.ref o1), (.int (0 : Int32)), (.ref o2), (.int (0 : Int32)), (.int (2 : Int32))] 7)) tt := fun tt kt => castTop (ef7k2 m o1 (0 : Int32) o2 (0 : Int32) (2 : Int32)) kt
  obtain ⟨ST, hST⟩ : ∃ z : State, z = s₁.setTop (mkF m 0 #[rv o1, iv (0 : Int32), rv o2, iv (0 : Int32), iv (2 : Int32), .unset, .unset] []) := ⟨_, rfl⟩
  rw [← hST] at pre0
  have KC0 : Keep h0 h0 [o2] := Keep.refl h0 [o2]
  have go152 : own_S p e below ST s₁ (mkF m 12 #[rv o1, iv (0 : Int32), rv o2, iv (0 : Int32), iv (2 : Int32), iv (0 : Int32), .unset] [(.int (0 : Int32)), (.ref o1)]) := fun tt kt => (by
      rw [hST]
      show Steps p.tables e below (s₁.setTop (mkF m 0 #[rv o1, iv (0 : Int32), rv o2, iv (0 : Int32), iv (2 : Int32), .unset, .unset] [])) _
      refine XS.iconst X0.here hx rfl (hb hby d7_0) ?_
      refine XS.istore X0.here hx rfl (hb hby d7_1) rfl (l' := #[rv o1, iv (0 : Int32), rv o2, iv (0 : Int32), iv (2 : Int32), iv (0 : Int32), .unset]) rfl ?_
      refine XS.iload X0.here hx rfl (hb hby d7_3) rfl ?_
      refine XS.iload X0.here hx rfl (hb hby d7_5) rfl ?_
      refine XS.icmpNo X0.here hx rfl (hb hby d7_7) rfl (tlt (by decide : (0 : Int32) < (2 : Int32))).2.1 ?_
      refine XS.aloadN X0.here hx rfl (hb hby d7_10) rfl rfl ?_
      show Steps p.tables e below (s₁.setTop (mkF m 11 #[rv o1, iv (0 : Int32), rv o2, iv (0 : Int32), iv (2 : Int32), iv (0 : Int32), .unset] [(.ref o1)])) _
      refine XS.iloadN X0.here hx rfl (hb hby d7_11) rfl ?_
      exact kt)
  obtain ⟨cl153, Ar153, q153, S153, M153, H153, G153⟩ := id V1
  have hin153 : ¬ ((0 : Int32) < 0 ∨ cl153.slots.size ≤ ((0 : Int32)).toNatClampNeg) := inb_of S153 ⟨by decide, by decide⟩
  have hat153 : cl153.slots[((0 : Int32)).toNatClampNeg]? = some (.int c0) := H153.at hin153 rfl
  have go154 : own_S p e below ST s₁ (mkF m 13 #[rv o1, iv (0 : Int32), rv o2, iv (0 : Int32), iv (2 : Int32), iv (0 : Int32), .unset] [(.int c0)]) := fun tt kt => go152 tt (by
      refine X0.caload hx (j := (0 : Int32)) (v := (.int c0)) (by rw [e0]; exact Ar153.1) (State.isArrayOf_alike hZ.alike Ar153.2.1) Ar153.2.2 hin153 hat153 (g := (mkF m 12 #[rv o1, iv (0 : Int32), rv o2, iv (0 : Int32), iv (2 : Int32), iv (0 : Int32), .unset] [(.int (0 : Int32)), (.ref o1)])) rfl rfl (hb hby d7_12) _ ?_
      exact kt)
  have go155 : own_S p e below ST s₁ (mkF m 31 #[rv o1, iv (0 : Int32), rv o2, iv (0 : Int32), iv (2 : Int32), iv (0 : Int32), iv c0] [(.int (c0.toInt8.toInt32)), (.int (0 : Int32)), (.ref o2)]) := fun tt kt => go154 tt (by
      refine XS.istore X0.here hx rfl (hb hby d7_13) rfl (l' := #[rv o1, iv (0 : Int32), rv o2, iv (0 : Int32), iv (2 : Int32), iv (0 : Int32), iv c0]) rfl ?_
      refine XS.iload X0.here hx rfl (hb hby d7_15) rfl ?_
      refine XS.sipush X0.here hx rfl (hb hby d7_17) ?_
      refine XS.icmpYes X0.here hx rfl (pc0 := 20) (pc' := 26) rfl (hb hby d7_20) rfl (flt q0).2.2.2 (by decide) (by decide) ?_
      refine XS.aloadN X0.here hx rfl (hb hby d7_26) rfl rfl ?_
      refine XS.iloadN X0.here hx rfl (hb hby d7_27) rfl ?_
      show Steps p.tables e below (s₁.setTop (mkF m 28 #[rv o1, iv (0 : Int32), rv o2, iv (0 : Int32), iv (2 : Int32), iv (0 : Int32), iv c0] [(.int (0 : Int32)), (.ref o2)])) _
      refine XS.iload X0.here hx rfl (hb hby d7_28) rfl ?_
      refine XS.i2b X0.here hx rfl (hb hby d7_30) rfl ?_
      exact kt)
  obtain ⟨cl156, Ar156, q156, S156, M156, H156, G156⟩ := id V2
  have hin156 : ¬ ((0 : Int32) < 0 ∨ cl156.slots.size ≤ ((0 : Int32)).toNatClampNeg) := inb_of S156 ⟨by decide, by decide⟩
  obtain ⟨T156, h156, X156, e156, W156, st156⟩ := stB X0 hx hZ e0 Ar156 (j := (0 : Int32)) hin156 (g := (mkF m 31 #[rv o1, iv (0 : Int32), rv o2, iv (0 : Int32), iv (2 : Int32), iv (0 : Int32), iv c0] [(.int (c0.toInt8.toInt32)), (.int (0 : Int32)), (.ref o2)])) rfl rfl (hb hby d7_31)
  have V156 : Arv Z h156 o2 k2 .byte (2 : Int32) [(.int (nar .byte (c0.toInt8.toInt32))), (.int (0 : Int32))] (.int (0 : Int32)) := Arv.set Ar156 q156 S156 M156 H156 G156 (own_fb _) W156 0 rfl (Nat.le_of_ble_eq_true rfl)
  have N156 := Fr.snoc X156 N0 g2
  have KC156 : Keep h0 h156 [o2] := KC0.wr W156 (Or.inl (List.mem_of_getElem? (i := 0) rfl))
  have go157 : own_S p e below ST T156 (mkF m 32 #[rv o1, iv (0 : Int32), rv o2, iv (0 : Int32), iv (2 : Int32), iv (0 : Int32), iv c0] []) := fun tt kt => go155 tt (st156 _ kt)
  have go158 : own_S p e below ST T156 (mkF m 12 #[rv o1, iv (1 : Int32), rv o2, iv (1 : Int32), iv (2 : Int32), iv (1 : Int32), iv c0] [(.int (1 : Int32)), (.ref o1)]) := fun tt kt => go157 tt (by
      refine XS.iinc X156.here hx rfl (hb hby d7_32) rfl (l' := #[rv o1, iv (1 : Int32), rv o2, iv (0 : Int32), iv (2 : Int32), iv (0 : Int32), iv c0]) rfl ?_
      refine XS.iinc X156.here hx rfl (hb hby d7_35) rfl (l' := #[rv o1, iv (1 : Int32), rv o2, iv (1 : Int32), iv (2 : Int32), iv (0 : Int32), iv c0]) rfl ?_
      refine XS.iinc X156.here hx rfl (hb hby d7_38) rfl (l' := #[rv o1, iv (1 : Int32), rv o2, iv (1 : Int32), iv (2 : Int32), iv (1 : Int32), iv c0]) rfl ?_
      refine XS.goto X156.here hx rfl (pc0 := 41) (pc' := 3) rfl (hb hby d7_41) (by decide) (by decide) ?_
      refine XS.iload X156.here hx rfl (hb hby d7_3) rfl ?_
      refine XS.iload X156.here hx rfl (hb hby d7_5) rfl ?_
      show Steps p.tables e below (T156.setTop (mkF m 7 #[rv o1, iv (1 : Int32), rv o2, iv (1 : Int32), iv (2 : Int32), iv (1 : Int32), iv c0] [(.int (2 : Int32)), (.int (1 : Int32))])) _
      refine XS.icmpNo X156.here hx rfl (hb hby d7_7) rfl (tlt (by decide : (1 : Int32) < (2 : Int32))).2.1 ?_
      refine XS.aloadN X156.here hx rfl (hb hby d7_10) rfl rfl ?_
      refine XS.iloadN X156.here hx rfl (hb hby d7_11) rfl ?_
      exact kt)
  have f160 := (V1.other W156 n12)
  obtain ⟨cl159, Ar159, q159, S159, M159, H159, G159⟩ := id f160
  have hin159 : ¬ ((1 : Int32) < 0 ∨ cl159.slots.size ≤ ((1 : Int32)).toNatClampNeg) := inb_of S159 ⟨by decide, by decide⟩
  have hat159 : cl159.slots[((1 : Int32)).toNatClampNeg]? = some (.int c1) := H159.at hin159 rfl
  have go161 : own_S p e below ST T156 (mkF m 13 #[rv o1, iv (1 : Int32), rv o2, iv (1 : Int32), iv (2 : Int32), iv (1 : Int32), iv c0] [(.int c1)]) := fun tt kt => go158 tt (by
      refine X156.caload hx (j := (1 : Int32)) (v := (.int c1)) (by rw [e156]; exact Ar159.1) (State.isArrayOf_alike hZ.alike Ar159.2.1) Ar159.2.2 hin159 hat159 (g := (mkF m 12 #[rv o1, iv (1 : Int32), rv o2, iv (1 : Int32), iv (2 : Int32), iv (1 : Int32), iv c0] [(.int (1 : Int32)), (.ref o1)])) rfl rfl (hb hby d7_12) _ ?_
      exact kt)
  have go162 : own_S p e below ST T156 (mkF m 31 #[rv o1, iv (1 : Int32), rv o2, iv (1 : Int32), iv (2 : Int32), iv (1 : Int32), iv c1] [(.int (c1.toInt8.toInt32)), (.int (1 : Int32)), (.ref o2)]) := fun tt kt => go161 tt (by
      refine XS.istore X156.here hx rfl (hb hby d7_13) rfl (l' := #[rv o1, iv (1 : Int32), rv o2, iv (1 : Int32), iv (2 : Int32), iv (1 : Int32), iv c1]) rfl ?_
      refine XS.iload X156.here hx rfl (hb hby d7_15) rfl ?_
      refine XS.sipush X156.here hx rfl (hb hby d7_17) ?_
      refine XS.icmpYes X156.here hx rfl (pc0 := 20) (pc' := 26) rfl (hb hby d7_20) rfl (flt q1).2.2.2 (by decide) (by decide) ?_
      refine XS.aloadN X156.here hx rfl (hb hby d7_26) rfl rfl ?_
      refine XS.iloadN X156.here hx rfl (hb hby d7_27) rfl ?_
      show Steps p.tables e below (T156.setTop (mkF m 28 #[rv o1, iv (1 : Int32), rv o2, iv (1 : Int32), iv (2 : Int32), iv (1 : Int32), iv c1] [(.int (1 : Int32)), (.ref o2)])) _
      refine XS.iload X156.here hx rfl (hb hby d7_28) rfl ?_
      refine XS.i2b X156.here hx rfl (hb hby d7_30) rfl ?_
      exact kt)
  obtain ⟨cl163, Ar163, q163, S163, M163, H163, G163⟩ := id V156
  have hin163 : ¬ ((1 : Int32) < 0 ∨ cl163.slots.size ≤ ((1 : Int32)).toNatClampNeg) := inb_of S163 ⟨by decide, by decide⟩
  obtain ⟨T163, h163, X163, e163, W163, st163⟩ := stB X156 hx hZ e156 Ar163 (j := (1 : Int32)) hin163 (g := (mkF m 31 #[rv o1, iv (1 : Int32), rv o2, iv (1 : Int32), iv (2 : Int32), iv (1 : Int32), iv c1] [(.int (c1.toInt8.toInt32)), (.int (1 : Int32)), (.ref o2)])) rfl rfl (hb hby d7_31)
  have V163 : Arv Z h163 o2 k2 .byte (2 : Int32) [(.int (nar .byte (c0.toInt8.toInt32))), (.int (nar .byte (c1.toInt8.toInt32)))] (.int (0 : Int32)) := Arv.set Ar163 q163 S163 M163 H163 G163 (own_fb _) W163 1 rfl (Nat.le_of_ble_eq_true rfl)
  have N163 := Fr.snoc X163 N156 g2
  have KC163 : Keep h0 h163 [o2] := KC156.wr W163 (Or.inl (List.mem_of_getElem? (i := 0) rfl))
  have go164 : own_S p e below ST T163 (mkF m 32 #[rv o1, iv (1 : Int32), rv o2, iv (1 : Int32), iv (2 : Int32), iv (1 : Int32), iv c1] []) := fun tt kt => go162 tt (st163 _ kt)
  have go165 : own_S p e below ST T163 (mkF m 46 #[rv o1, iv (2 : Int32), rv o2, iv (2 : Int32), iv (2 : Int32), iv (2 : Int32), iv c1] [(.int (2 : Int32))]) := fun tt kt => go164 tt (by
      refine XS.iinc X163.here hx rfl (hb hby d7_32) rfl (l' := #[rv o1, iv (2 : Int32), rv o2, iv (1 : Int32), iv (2 : Int32), iv (1 : Int32), iv c1]) rfl ?_
      refine XS.iinc X163.here hx rfl (hb hby d7_35) rfl (l' := #[rv o1, iv (2 : Int32), rv o2, iv (2 : Int32), iv (2 : Int32), iv (1 : Int32), iv c1]) rfl ?_
      refine XS.iinc X163.here hx rfl (hb hby d7_38) rfl (l' := #[rv o1, iv (2 : Int32), rv o2, iv (2 : Int32), iv (2 : Int32), iv (2 : Int32), iv c1]) rfl ?_
      refine XS.goto X163.here hx rfl (pc0 := 41) (pc' := 3) rfl (hb hby d7_41) (by decide) (by decide) ?_
      refine XS.iload X163.here hx rfl (hb hby d7_3) rfl ?_
      refine XS.iload X163.here hx rfl (hb hby d7_5) rfl ?_
      show Steps p.tables e below (T163.setTop (mkF m 7 #[rv o1, iv (2 : Int32), rv o2, iv (2 : Int32), iv (2 : Int32), iv (2 : Int32), iv c1] [(.int (2 : Int32)), (.int (2 : Int32))])) _
      refine XS.icmpYes X163.here hx rfl (pc0 := 7) (pc' := 44) rfl (hb hby d7_7) rfl (flt (by decide : ¬ ((2 : Int32) < (2 : Int32)))).2.1 (by decide) (by decide) ?_
      refine XS.iload X163.here hx rfl (hb hby d7_44) rfl ?_
      exact kt)
  obtain ⟨fs, hr, hrun, hended, hW, hsame⟩ := X163.leave (v := some (.int (2 : Int32))) (fun h => by rw [Bd.returns] at h; cases h) (hlocks := by first | exact BodyLoose.notSynchronized Bd | exact Body.notSynchronized Bd)
  refine ⟨_, _, pre0 _ (go165 _ ?_), hrun, hended, _, _, rfl, ?_, ⟨_, rfl⟩, hW, hsame.mono (by decide) (by decide)⟩
  · exact retI X163 hx Bd.returns (hb hby d7_46) hr
  · show Q7k2 Z o1 k1 o2 k2 c0 c1 h0 n0 _ T163.heap _
    rw [e163]
    exact ⟨rfl, N163, KC163, V163⟩
theorem ef6k2 (m : MethodId) (x0 : Addr) (x1 : Int32) (x2 : Int32) : entryFrame m #[(.ref x0), (.int x1), (.int x2)] 6 = mkF m 0 #[.val (.ref x0), .val (.int x1), .val (.int x2), .unset, .unset, .unset] [] := by first | (simp [entryFrame, mkF, argsToLocals, Value.category]; done) | rfl
def Q6k2 (Z : State) (o1 : Addr) (k1 : ClassId) (c0 : Int32) (c1 : Int32) (h0 : Heap) (n0 : Nat) (v : Option Value) (h : Heap) (L : List Loc) : Prop := ∃ (b : Addr) (kb : ClassId), v = some (.ref b) ∧ Fr n0 L ∧ Keep h0 h [] ∧ Arv Z h b kb .byte (2 : Int32) [(.int (nar .byte (c0.toInt8.toInt32))), (.int (nar .byte (c1.toInt8.toInt32)))] (.int (0 : Int32)) ∧ n0 ≤ b ∧ h0.size ≤ b
set_option maxRecDepth 65536 in
set_option maxHeartbeats 40000000 in
theorem rm6k2 (l : Launch) (Z : State) (a0 : Array Value) (hw : ∀ d ∈ tables_1, d.before a0 Z = true) (ws : List Jvm.Cond) (o1 : Addr) (k1 : ClassId) (c0 : Int32) (c1 : Int32) (h0 : Heap) (n0 : Nat) (Z0 : n0 ≤ h0.size) (V1 : Arv Z h0 o1 k1 .char (2 : Int32) [(.int c0), (.int c1)] (.int (0 : Int32))) (q0 : ¬ (255 : Int32) < c0) (q1 : ¬ (255 : Int32) < c1) :
    MetFree l (⟨"java/lang/StringUTF16", "compress", "([CII)[B"⟩ : MethodName) (head1 (Jvm.Cond.code (⟨"java/lang/StringUTF16", "compress", "([CII)[B"⟩ : MethodName) jdk_52_method_16_code 6 (some (.array .byte)) :: ws) ({ frames := 1, cells := 1, slots := 2, locals := 18 } : Room)) (fun aa UU => aa = #[(.ref o1), (.int (0 : Int32)), (.int (2 : Int32))] ∧ Z.Warmed39 UU.vm ∧ UU.heap = h0) (fun _ _ _ _ _ => True) (fun _ UU oo UU' => ∃ vv LL, oo = .returned vv ∧ Q6k2 Z o1 k1 c0 c1 h0 n0 vv UU'.heap LL ∧ FrameEnd UU oo UU' LL ({ frames := 1, cells := 1, slots := 2, locals := 18 } : Room).cells ({ frames := 1, cells := 1, slots := 2, locals := 18 } : Room).slots) := by
  have W : ∀ {d : Jvm.Cond} (i : Nat), tables_1[i]? = some d → d.before a0 Z = true := fun i h => hw _ (List.mem_of_getElem? h)
  refine MetFree.of_bodySF (plainFor_of_name pn8) hisR ?_
  intro p e s m args below meth c s₁ Bd hml0 hP hK
  obtain ⟨rfl, hZ, hh⟩ := hP
  have hx := Bd.exec
  have hby := Bd.bytes
  have hml : c.maxLocals = 6 := hml0
  have hown : s.vm.findClass "java/lang/StringUTF16" = some m.cls := findClass_of_methodNamed Bd.named
  have hnm := (name_of_methodNamed Bd.named Bd.method).1
  have X0 : Stand p l e ({ frames := 1, cells := 1, slots := 2, locals := 18 } : Room) s m #[(.ref o1), (.int (0 : Int32)), (.int (2 : Int32))] below meth c s₁ [] 0 0 := Stand.of_body Bd
  have e0 : s₁.heap = h0 := by rw [← hh, Bd.state]; rfl
  have N0 := Fr.nil n0
  have pre0 : ∀ tt, Steps p.tables e below (s₁.setTop (mkF m 0 #[rv o1, iv (0 : Int32), iv (2 : Int32), .unset, .unset, .unset] [])) tt → Steps p.tables e below (s₁.setTop (entryFrame m #[(.ref o1), (.int (0 : Int32)), (.int (2 : Int32))] 6)) tt := fun tt kt => castTop (ef6k2 m o1 (0 : Int32) (2 : Int32)) kt
  obtain ⟨ST, hST⟩ : ∃ z : State, z = s₁.setTop (mkF m 0 #[rv o1, iv (0 : Int32), iv (2 : Int32), .unset, .unset, .unset] []) := ⟨_, rfl⟩
  rw [← hST] at pre0
  have KC0 : Keep h0 h0 [] := Keep.refl h0 []
  have go166 : own_S p e below ST s₁ (mkF m 1 #[rv o1, iv (0 : Int32), iv (2 : Int32), .unset, .unset, .unset] [(.int (2 : Int32))]) := fun tt kt => (by
      rw [hST]
      show Steps p.tables e below (s₁.setTop (mkF m 0 #[rv o1, iv (0 : Int32), iv (2 : Int32), .unset, .unset, .unset] [])) _
      refine XS.iloadN X0.here hx rfl (hb hby d6_0) rfl ?_
      exact kt)
  obtain ⟨b167, g167⟩ : ∃ z, z = h0.size := ⟨_, rfl⟩
  obtain ⟨T167, h167, k167, X167, e167, E167, A167, st167⟩ := newP X0 hx hZ (W 22 rfl) e0 (g := (mkF m 1 #[rv o1, iv (0 : Int32), iv (2 : Int32), .unset, .unset, .unset] [(.int (2 : Int32))])) rfl (hb hby d6_1) rfl (by decide) (cap := 2) (by decide) (by decide) (by decide) (by decide)
  rw [← g167] at A167 st167
  have neo1_b167 : o1 ≠ b167 := Nat.ne_of_lt (Nat.lt_of_lt_of_le V1.lt (Nat.le_of_eq g167.symm))
  have ge_b167 : n0 ≤ b167 := Nat.le_trans Z0 (Nat.le_of_eq g167.symm)
  have sz_b167 : h0.size ≤ b167 := Nat.le_trans KC0.1 (Nat.le_of_eq g167.symm)
  have V167 : Arv Z h167 b167 k167 .byte (2 : Int32) [(.int (0 : Int32)), (.int (0 : Int32))] (.int (0 : Int32)) := (Arv.new A167 (by decide)).pad (pad_rep [] (.int (0 : Int32)) 2)
  have KC167 : Keep h0 h167 [] := KC0.ext E167
  have go168 : own_S p e below ST T167 (mkF m 3 #[rv o1, iv (0 : Int32), iv (2 : Int32), .unset, .unset, .unset] [(.ref b167)]) := fun tt kt => go166 tt (st167 _ kt)
  have go169 : own_S p e below ST T167 (mkF m 9 #[rv o1, iv (0 : Int32), iv (2 : Int32), rv b167, .unset, .unset] [(.int (2 : Int32)), (.int (0 : Int32)), (.ref b167), (.int (0 : Int32)), (.ref o1)]) := fun tt kt => go168 tt (by
      refine XS.astoreN X167.here hx rfl (hb hby d6_3) rfl rfl (l' := #[rv o1, iv (0 : Int32), iv (2 : Int32), rv b167, .unset, .unset]) rfl ?_
      refine XS.aloadN X167.here hx rfl (hb hby d6_4) rfl rfl ?_
      refine XS.iloadN X167.here hx rfl (hb hby d6_5) rfl ?_
      refine XS.aloadN X167.here hx rfl (hb hby d6_6) rfl rfl ?_
      refine XS.iconst X167.here hx rfl (hb hby d6_7) ?_
      refine XS.iloadN X167.here hx rfl (hb hby d6_8) rfl ?_
      exact kt)
  have f170 := (V1.ext E167)
  have zs172 := (Nat.le_trans Z0 E167.1)
  obtain ⟨_, _, ⟨T171, L171, k171, n171⟩, -, X171, ⟨Lc171, hQ171, l171, y171, z171⟩, st171⟩ := Jvm.LawKit.callS X167 hx (y := (⟨"java/lang/StringUTF16", "compress", "([CI[BII)I"⟩ : MethodName)) hown (mvT hZ (W 37 rfl)) (mvT hZ (W 38 rfl)) (mvT hZ (W 35 rfl)) (mvT hZ (W 39 rfl)) (by decide) (backOf (W := 0) (rm7k2 l Z a0 hw [] o1 k1 b167 k167 c0 c1 h167 n0 zs172 f170 V167 neo1_b167 ge_b167 q0 q1) hZ (W 39 rfl) (W 35 rfl) (by decide) (by decide)) (g := (mkF m 9 #[rv o1, iv (0 : Int32), iv (2 : Int32), rv b167, .unset, .unset] [(.int (2 : Int32)), (.int (0 : Int32)), (.ref b167), (.int (0 : Int32)), (.ref o1)])) rfl (by rw [hml]; rfl) (argsL := [(.ref o1), (.int (0 : Int32)), (.ref b167), (.int (0 : Int32)), (.int (2 : Int32))]) (rest := []) (lenOf pd41 rfl) rfl (by show 2 * 0 + _ ≤ _; exact Nat.le_of_eq rfl) (hb hby d6_9) (fun _ _ => ⟨rfl, e167, (by decide : 1 + 0 ≤ _), (by decide : 2 + 0 ≤ _)⟩)
  dsimp only [Pt.U, Pt.locs, Pt.cells, Pt.slots] at X171 l171 y171 z171 st171 hQ171
  subst l171 y171 z171
  obtain ⟨rfl, Nq171, K171, Vb171⟩ := hQ171
  have N171 := Fr.app N0 Nq171
  have go173 : own_S p e below ST T171 (mkF m 12 #[rv o1, iv (0 : Int32), iv (2 : Int32), rv b167, .unset, .unset] [(.int (2 : Int32))]) := fun tt kt => go169 tt (st171 _ kt)
  have KC171 : Keep h0 T171.heap [] := KC167.trans K171 (allS (Or.inr sz_b167) all0)
  have go174 : own_S p e below ST T171 (mkF m 58 #[rv o1, iv (0 : Int32), iv (2 : Int32), rv b167, iv (2 : Int32), .unset] [(.ref b167)]) := fun tt kt => go173 tt (by
      refine XS.istore X171.here hx rfl (hb hby d6_12) rfl (l' := #[rv o1, iv (0 : Int32), iv (2 : Int32), rv b167, iv (2 : Int32), .unset]) rfl ?_
      refine XS.iload X171.here hx rfl (hb hby d6_14) rfl ?_
      refine XS.iloadN X171.here hx rfl (hb hby d6_16) rfl ?_
      refine XS.icmpYes X171.here hx rfl (pc0 := 17) (pc' := 57) rfl (hb hby d6_17) rfl (teq (by decide : (2 : Int32) = (2 : Int32))).1 (by decide) (by decide) ?_
      refine XS.aloadN X171.here hx rfl (hb hby d6_57) rfl rfl ?_
      exact kt)
  obtain ⟨fs, hr, hrun, hended, hW, hsame⟩ := X171.leave (v := some (.ref b167)) (fun h => by rw [Bd.returns] at h; cases h) (hlocks := by first | exact BodyLoose.notSynchronized Bd | exact Body.notSynchronized Bd)
  refine ⟨_, _, pre0 _ (go174 _ ?_), hrun, hended, _, _, rfl, ?_, ⟨_, rfl⟩, hW, hsame.mono (by decide) (by decide)⟩
  · exact retOut X171 hx Bd.returns rfl (Or.inr (Or.inr (Or.inr (Or.inr ⟨rfl, rfl, rfl⟩)))) (hb hby d6_58) hr
  · show Q6k2 Z o1 k1 c0 c1 h0 n0 _ T171.heap _
    exact ⟨b167, k167, rfl, N171, KC171, Vb171, ge_b167, sz_b167⟩
theorem ef8k2 (m : MethodId) (x0 : Addr) (x1 : Int32) : entryFrame m #[(.ref x0), (.int x1)] 2 = mkF m 0 #[.val (.ref x0), .val (.int x1)] [] := by first | (simp [entryFrame, mkF, argsToLocals, Value.category]; done) | rfl
def Q8k2 (Z : State) (o1 : Addr) (k1 : ClassId) (vs : List Value) (h0 : Heap) (n0 : Nat) (v : Option Value) (h : Heap) (L : List Loc) : Prop := v = some (.int (0 : Int32)) ∧ Fr n0 L ∧ h = h0
set_option maxRecDepth 65536 in
set_option maxHeartbeats 40000000 in
theorem rm8k2 (l : Launch) (Z : State) (a0 : Array Value) (hw : ∀ d ∈ tables_1, d.before a0 Z = true) (ws : List Jvm.Cond) (o1 : Addr) (k1 : ClassId) (vs : List Value) (h0 : Heap) (n0 : Nat) (Z0 : n0 ≤ h0.size) (V1 : Arv Z h0 o1 k1 .byte (2 : Int32) vs (.int (0 : Int32))) :
    MetFree l (⟨"java/lang/StringUTF16", "coderFromArrayLen", "([BI)B"⟩ : MethodName) (head1 (Jvm.Cond.code (⟨"java/lang/StringUTF16", "coderFromArrayLen", "([BI)B"⟩ : MethodName) jdk_52_method_15_code 2 (some .byte) :: ws) ({ frames := 0, cells := 0, slots := 0, locals := 0 } : Room)) (fun aa UU => aa = #[(.ref o1), (.int (2 : Int32))] ∧ Z.Warmed39 UU.vm ∧ UU.heap = h0) (fun _ _ _ _ _ => True) (fun _ UU oo UU' => ∃ vv LL, oo = .returned vv ∧ Q8k2 Z o1 k1 vs h0 n0 vv UU'.heap LL ∧ FrameEnd UU oo UU' LL ({ frames := 0, cells := 0, slots := 0, locals := 0 } : Room).cells ({ frames := 0, cells := 0, slots := 0, locals := 0 } : Room).slots) := by
  have W : ∀ {d : Jvm.Cond} (i : Nat), tables_1[i]? = some d → d.before a0 Z = true := fun i h => hw _ (List.mem_of_getElem? h)
  refine MetFree.of_bodySF (plainFor_of_name pn8) hisR ?_
  intro p e s m args below meth c s₁ Bd hml0 hP hK
  obtain ⟨rfl, hZ, hh⟩ := hP
  have hx := Bd.exec
  have hby := Bd.bytes
  have hml : c.maxLocals = 2 := hml0
  have hown : s.vm.findClass "java/lang/StringUTF16" = some m.cls := findClass_of_methodNamed Bd.named
  have hnm := (name_of_methodNamed Bd.named Bd.method).1
  have X0 : Stand p l e ({ frames := 0, cells := 0, slots := 0, locals := 0 } : Room) s m #[(.ref o1), (.int (2 : Int32))] below meth c s₁ [] 0 0 := Stand.of_body Bd
  have e0 : s₁.heap = h0 := by rw [← hh, Bd.state]; rfl
  have N0 := Fr.nil n0
  have pre0 : ∀ tt, Steps p.tables e below (s₁.setTop (mkF m 0 #[rv o1, iv (2 : Int32)] [])) tt → Steps p.tables e below (s₁.setTop (entryFrame m #[(.ref o1), (.int (2 : Int32))] 2)) tt := fun tt kt => castTop (ef8k2 m o1 (2 : Int32)) kt
  obtain ⟨ST, hST⟩ : ∃ z : State, z = s₁.setTop (mkF m 0 #[rv o1, iv (2 : Int32)] []) := ⟨_, rfl⟩
  rw [← hST] at pre0
  have go175 : own_S p e below ST s₁ (mkF m 2 #[rv o1, iv (2 : Int32)] [(.ref o1), (.int (2 : Int32))]) := fun tt kt => (by
      rw [hST]
      show Steps p.tables e below (s₁.setTop (mkF m 0 #[rv o1, iv (2 : Int32)] [])) _
      refine XS.iloadN X0.here hx rfl (hb hby d8_0) rfl ?_
      refine XS.aloadN X0.here hx rfl (hb hby d8_1) rfl rfl ?_
      exact kt)
  obtain ⟨cl176, Ar176, q176, S176, M176, H176, G176⟩ := id V1
  have go177 : own_S p e below ST s₁ (mkF m 3 #[rv o1, iv (2 : Int32)] [(.int (2 : Int32)), (.int (2 : Int32))]) := fun tt kt => go175 tt (by
      refine X0.arraylength hx (by rw [e0]; exact Ar176.1) (State.isArrayOf_alike hZ.alike Ar176.2.1) (g := (mkF m 2 #[rv o1, iv (2 : Int32)] [(.ref o1), (.int (2 : Int32))])) rfl rfl (hb hby d8_2) _ ?_
      rw [len_of S176 M176]
      exact kt)
  have go178 : own_S p e below ST s₁ (mkF m 8 #[rv o1, iv (2 : Int32)] [(.int ((((0 : Int32).toUInt32 >>> ((31 : Int32) &&& 31).toUInt32).toInt32).toInt8.toInt32))]) := fun tt kt => go177 tt (by
      refine XS.isub X0.here hx rfl (hb hby d8_3) rfl ?_
      refine XS.bipush X0.here hx rfl (hb hby d8_4) ?_
      refine XS.iushr X0.here hx rfl (hb hby d8_6) rfl ?_
      refine XS.i2b X0.here hx rfl (hb hby d8_7) rfl ?_
      exact kt)
  obtain ⟨fs, hr, hrun, hended, hW, hsame⟩ := X0.leave (v := some (.int (nar .byte ((((0 : Int32).toUInt32 >>> ((31 : Int32) &&& 31).toUInt32).toInt32).toInt8.toInt32)))) (fun h => by rw [Bd.returns] at h; cases h) (hlocks := by first | exact BodyLoose.notSynchronized Bd | exact Body.notSynchronized Bd)
  refine ⟨_, _, pre0 _ (go178 _ ?_), hrun, hended, _, _, rfl, ?_, ⟨_, rfl⟩, hW, hsame.mono (by decide) (by decide)⟩
  · exact retN X0 hx (t := .byte) Bd.returns (by simp) (hb hby d8_8) hr
  · show Q8k2 Z o1 k1 vs h0 n0 _ s₁.heap _
    rw [e0]
    exact ⟨own_ans (by decide), N0, rfl⟩
theorem ef3k2 (m : MethodId) (x0 : Addr) (x1 : Addr) (x2 : Int32) (x3 : Int32) : entryFrame m #[(.ref x0), (.ref x1), (.int x2), (.int x3), .null] 6 = mkF m 0 #[.val (.ref x0), .val (.ref x1), .val (.int x2), .val (.int x3), .val .null, .unset] [] := by first | (simp [entryFrame, mkF, argsToLocals, Value.category]; done) | rfl
def Q3k2 (Z : State) (o1 : Addr) (o2 : Addr) (k2 : ClassId) (c0 : Int32) (c1 : Int32) (cs : Int32) (h0 : Heap) (n0 : Nat) (v : Option Value) (h : Heap) (L : List Loc) : Prop := ∃ (b : Addr) (kb : ClassId), v = none ∧ Fr n0 L ∧ Keep h0 h [o1] ∧ Fld Z h o1 "java/lang/String" "coder" "B" (.int (0 : Int32)) ∧ Fld Z h o1 "java/lang/String" "value" "[B" (.ref b) ∧ Arv Z h b kb .byte (2 : Int32) [(.int (nar .byte (c0.toInt8.toInt32))), (.int (nar .byte (c1.toInt8.toInt32)))] (.int (0 : Int32))
set_option maxRecDepth 65536 in
set_option maxHeartbeats 40000000 in
theorem rm3k2 (l : Launch) (Z : State) (a0 : Array Value) (hw : ∀ d ∈ tables_1, d.before a0 Z = true) (ws : List Jvm.Cond) (o1 : Addr) (o2 : Addr) (k2 : ClassId) (c0 : Int32) (c1 : Int32) (cs : Int32) (h0 : Heap) (n0 : Nat) (Z0 : n0 ≤ h0.size) (F1 : Fld Z h0 o1 "java/lang/String" "coder" "B" (.int (0 : Int32))) (F2 : Fld Z h0 o1 "java/lang/String" "value" "[B" .null) (E1 : Exa Z h0 o1 "java/lang/String") (g1 : n0 ≤ o1) (V2 : Arv Z h0 o2 k2 .char (2 : Int32) [(.int c0), (.int c1)] (.int (0 : Int32))) (n12 : o1 ≠ o2) (q0 : ¬ (255 : Int32) < c0) (q1 : ¬ (255 : Int32) < c1) (SC : Sta Z Z.heap "java/lang/String" "COMPACT_STRINGS" "Z" (.int cs)) (hcs : ¬ cs = 0) (OL : Old Z n0 h0) :
    MetFree l (⟨"java/lang/String", "<init>", "([CIILjava/lang/Void;)V"⟩ : MethodName) (head1 (Jvm.Cond.code (⟨"java/lang/String", "<init>", "([CIILjava/lang/Void;)V"⟩ : MethodName) jdk_42_method_149_code 6 none :: ws) ({ frames := 2, cells := 1, slots := 2, locals := 35 } : Room)) (fun aa UU => aa = #[(.ref o1), (.ref o2), (.int (0 : Int32)), (.int (2 : Int32)), .null] ∧ Z.Warmed39 UU.vm ∧ UU.heap = h0) (fun _ _ _ _ _ => True) (fun _ UU oo UU' => ∃ vv LL, oo = .returned vv ∧ Q3k2 Z o1 o2 k2 c0 c1 cs h0 n0 vv UU'.heap LL ∧ FrameEnd UU oo UU' LL ({ frames := 2, cells := 1, slots := 2, locals := 35 } : Room).cells ({ frames := 2, cells := 1, slots := 2, locals := 35 } : Room).slots) := by
  have W : ∀ {d : Jvm.Cond} (i : Nat), tables_1[i]? = some d → d.before a0 Z = true := fun i h => hw _ (List.mem_of_getElem? h)
  refine MetFree.of_bodySF (plainFor_of_name pn56) hisR ?_
  intro p e s m args below meth c s₁ Bd hml0 hP hK
  obtain ⟨rfl, hZ, hh⟩ := hP
  have hx := Bd.exec
  have hby := Bd.bytes
  have hml : c.maxLocals = 6 := hml0
  have hown : s.vm.findClass "java/lang/String" = some m.cls := findClass_of_methodNamed Bd.named
  have hnm := (name_of_methodNamed Bd.named Bd.method).1
  have X0 : Stand p l e ({ frames := 2, cells := 1, slots := 2, locals := 35 } : Room) s m #[(.ref o1), (.ref o2), (.int (0 : Int32)), (.int (2 : Int32)), .null] below meth c s₁ [] 0 0 := Stand.of_body Bd
  have e0 : s₁.heap = h0 := by rw [← hh, Bd.state]; rfl
  have N0 := Fr.nil n0
  have pre0 : ∀ tt, Steps p.tables e below (s₁.setTop (mkF m 0 #[rv o1, rv o2, iv (0 : Int32), iv (2 : Int32), .val .null, .unset] [])) tt → Steps p.tables e below (s₁.setTop (entryFrame m #[(.ref o1), (.ref o2), (.int (0 : Int32)), (.int (2 : Int32)), .null] 6)) tt := fun tt kt => castTop (ef3k2 m o1 o2 (0 : Int32) (2 : Int32)) kt
  obtain ⟨ST, hST⟩ : ∃ z : State, z = s₁.setTop (mkF m 0 #[rv o1, rv o2, iv (0 : Int32), iv (2 : Int32), .val .null, .unset] []) := ⟨_, rfl⟩
  rw [← hST] at pre0
  have KC0 : Keep h0 h0 [o1] := Keep.refl h0 [o1]
  have go179 : own_S p e below ST s₁ (mkF m 1 #[rv o1, rv o2, iv (0 : Int32), iv (2 : Int32), .val .null, .unset] [(.ref o1)]) := fun tt kt => (by
      rw [hST]
      show Steps p.tables e below (s₁.setTop (mkF m 0 #[rv o1, rv o2, iv (0 : Int32), iv (2 : Int32), .val .null, .unset] [])) _
      refine XS.aloadN X0.here hx rfl (hb hby d3_0) rfl rfl ?_
      exact kt)
  obtain ⟨T180, X180, e180, st180⟩ := initO X0 hx hZ hown (W 18 rfl) (W 19 rfl) (W 20 rfl) e0 (g := (mkF m 1 #[rv o1, rv o2, iv (0 : Int32), iv (2 : Int32), .val .null, .unset] [(.ref o1)])) rfl (by rw [hml]; rfl) rfl (hb hby d3_1) (by decide) (W := 0) (by show 2 * 0 + _ ≤ _; exact Nat.le_of_eq rfl) (by decide)
  have go181 : own_S p e below ST T180 (mkF m 4 #[rv o1, rv o2, iv (0 : Int32), iv (2 : Int32), .val .null, .unset] []) := fun tt kt => go179 tt (st180 _ kt)
  have go182 : own_S p e below ST T180 (mkF m 27 #[rv o1, rv o2, iv (0 : Int32), iv (2 : Int32), .val .null, .unset] []) := fun tt kt => go181 tt (by
      refine XS.iloadN X180.here hx rfl (hb hby d3_4) rfl ?_
      refine XS.ifYes X180.here hx rfl (pc0 := 5) (pc' := 27) rfl (hb hby d3_5) rfl ((if0 _ _).trans (feq (by decide : ¬ ((2 : Int32) = (0 : Int32)))).2) (by decide) (by decide) ?_
      exact kt)
  obtain ⟨T183, X183, e183, st183⟩ := getS2 X180 hx hZ hown (host := "") (Or.inl (W 32 rfl)) Via.refl e180 (SC.ext OL.2) (g := (mkF m 27 #[rv o1, rv o2, iv (0 : Int32), iv (2 : Int32), .val .null, .unset] [])) rfl (hb hby d3_27)
  have go184 : own_S p e below ST T183 (mkF m 30 #[rv o1, rv o2, iv (0 : Int32), iv (2 : Int32), .val .null, .unset] [(.int cs)]) := fun tt kt => go182 tt (st183 _ kt)
  have go185 : own_S p e below ST T183 (mkF m 36 #[rv o1, rv o2, iv (0 : Int32), iv (2 : Int32), .val .null, .unset] [(.int (2 : Int32)), (.int (0 : Int32)), (.ref o2)]) := fun tt kt => go184 tt (by
      refine XS.ifNo X183.here hx rfl (hb hby d3_30) rfl ((if0 _ _).trans (feq hcs).1) ?_
      refine XS.aloadN X183.here hx rfl (hb hby d3_33) rfl rfl ?_
      refine XS.iloadN X183.here hx rfl (hb hby d3_34) rfl ?_
      refine XS.iloadN X183.here hx rfl (hb hby d3_35) rfl ?_
      exact kt)
  obtain ⟨_, _, ⟨T186, L186, k186, n186⟩, -, X186, ⟨Lc186, hQ186, l186, y186, z186⟩, st186⟩ := Jvm.LawKit.callS X183 hx (y := (⟨"java/lang/StringUTF16", "compress", "([CII)[B"⟩ : MethodName)) hown (mvT hZ (W 33 rfl)) (mvT hZ (W 34 rfl)) (mvT hZ (W 35 rfl)) (mvT hZ (W 36 rfl)) (by decide) (backOf (W := 0) (rm6k2 l Z a0 hw [] o2 k2 c0 c1 h0 n0 Z0 V2 q0 q1) hZ (W 36 rfl) (W 35 rfl) (by decide) (by decide)) (g := (mkF m 36 #[rv o1, rv o2, iv (0 : Int32), iv (2 : Int32), .val .null, .unset] [(.int (2 : Int32)), (.int (0 : Int32)), (.ref o2)])) rfl (by rw [hml]; rfl) (argsL := [(.ref o2), (.int (0 : Int32)), (.int (2 : Int32))]) (rest := []) (lenOf pd67 rfl) rfl (by show 2 * 0 + _ ≤ _; exact Nat.le_of_eq rfl) (hb hby d3_36) (fun _ _ => ⟨rfl, e183, (by decide : 0 + 1 ≤ _), (by decide : 0 + 2 ≤ _)⟩)
  dsimp only [Pt.U, Pt.locs, Pt.cells, Pt.slots] at X186 l186 y186 z186 st186 hQ186
  subst l186 y186 z186
  obtain ⟨b186, kb186, rfl, Nq186, K186, Vb186, gb186, zb186⟩ := hQ186
  have N186 := Fr.app N0 Nq186
  have go187 : own_S p e below ST T186 (mkF m 39 #[rv o1, rv o2, iv (0 : Int32), iv (2 : Int32), .val .null, .unset] [(.ref b186)]) := fun tt kt => go185 tt (st186 _ kt)
  have KC186 : Keep h0 T186.heap [o1] := KC0.trans K186 all0
  have neo1_b186 : o1 ≠ b186 := Nat.ne_of_lt (Nat.lt_of_lt_of_le E1.lt zb186)
  have neo2_b186 : o2 ≠ b186 := Nat.ne_of_lt (Nat.lt_of_lt_of_le V2.lt zb186)
  have go188 : own_S p e below ST T186 (mkF m 45 #[rv o1, rv o2, iv (0 : Int32), iv (2 : Int32), .val .null, rv b186] [(.int (2 : Int32)), (.ref b186), (.ref o1)]) := fun tt kt => go187 tt (by
      refine XS.astore X186.here hx rfl (hb hby d3_39) rfl rfl (l' := #[rv o1, rv o2, iv (0 : Int32), iv (2 : Int32), .val .null, rv b186]) rfl ?_
      refine XS.aloadN X186.here hx rfl (hb hby d3_41) rfl rfl ?_
      refine XS.aload X186.here hx rfl (hb hby d3_42) rfl rfl ?_
      refine XS.iloadN X186.here hx rfl (hb hby d3_44) rfl ?_
      exact kt)
  have zs190 := (Nat.le_trans Z0 K186.1)
  obtain ⟨_, _, ⟨T189, L189, k189, n189⟩, -, X189, ⟨Lc189, hQ189, l189, y189, z189⟩, st189⟩ := Jvm.LawKit.callS X186 hx (y := (⟨"java/lang/StringUTF16", "coderFromArrayLen", "([BI)B"⟩ : MethodName)) hown (mvT hZ (W 40 rfl)) (mvT hZ (W 41 rfl)) (mvT hZ (W 35 rfl)) (mvT hZ (W 42 rfl)) (by decide) (backOf (W := 1) (rm8k2 l Z a0 hw [] b186 kb186 _ T186.heap n0 zs190 Vb186) hZ (W 42 rfl) (W 35 rfl) (by decide) (by decide)) (g := (mkF m 45 #[rv o1, rv o2, iv (0 : Int32), iv (2 : Int32), .val .null, rv b186] [(.int (2 : Int32)), (.ref b186), (.ref o1)])) rfl (by rw [hml]; rfl) (argsL := [(.ref b186), (.int (2 : Int32))]) (rest := [(.ref o1)]) (lenOf pd73 rfl) rfl (by show 2 * 0 + _ ≤ _; exact Nat.le_of_eq rfl) (hb hby d3_45) (fun _ _ => ⟨rfl, rfl, (by decide : 1 + 0 ≤ _), (by decide : 2 + 0 ≤ _)⟩)
  dsimp only [Pt.U, Pt.locs, Pt.cells, Pt.slots] at X189 l189 y189 z189 st189 hQ189
  subst l189 y189 z189
  obtain ⟨rfl, Nq189, eh189⟩ := hQ189
  have N189 := Fr.app N186 Nq189
  have go191 : own_S p e below ST T189 (mkF m 48 #[rv o1, rv o2, iv (0 : Int32), iv (2 : Int32), .val .null, rv b186] [(.int (0 : Int32)), (.ref o1)]) := fun tt kt => go188 tt (st189 _ kt)
  have f193 := (F1.keep K186 nin0)
  have f194 := (E1.keep K186)
  obtain ⟨T192, h192, X192, e192, W192, st192⟩ := putFN X189 hx hZ hown (W 28 rfl) Via.refl eh189 f193 f194 (Or.inr ⟨(W 24 rfl), rfl, hnm⟩) (W 8 rfl) (ty := .byte) (v' := (.int ((0 : Int32).toInt8.toInt32))) (by decide) rfl (fits_nar_byte _) (g := (mkF m 48 #[rv o1, rv o2, iv (0 : Int32), iv (2 : Int32), .val .null, rv b186] [(.int (0 : Int32)), (.ref o1)])) rfl rfl (hb hby d3_48)
  have Fw192 := f193.same W192
  have N192 := Fr.snoc X192 N189 g1
  have go195 : own_S p e below ST T192 (mkF m 51 #[rv o1, rv o2, iv (0 : Int32), iv (2 : Int32), .val .null, rv b186] []) := fun tt kt => go191 tt (st192 _ kt)
  have KC192 : Keep h0 h192 [o1] := KC186.wr W192 (Or.inl (List.mem_of_getElem? (i := 0) rfl))
  have go196 : own_S p e below ST T192 (mkF m 54 #[rv o1, rv o2, iv (0 : Int32), iv (2 : Int32), .val .null, rv b186] [(.ref b186), (.ref o1)]) := fun tt kt => go195 tt (by
      refine XS.aloadN X192.here hx rfl (hb hby d3_51) rfl rfl ?_
      refine XS.aload X192.here hx rfl (hb hby d3_52) rfl rfl ?_
      exact kt)
  have f198 := ((F2.keep K186 nin0).other W192 (Or.inr (slot_ne (Or.inr (W 23 rfl)) (Or.inr (W 24 rfl)) (by decide) (t := (.array .byte)) (t' := .byte) (by decide) (by decide))))
  have f199 := (f194.wr W192)
  obtain ⟨T197, h197, X197, e197, W197, st197⟩ := putF X192 hx hZ hown (host := "") (Or.inl (W 27 rfl)) Via.refl e192 f198 f199 (Or.inr ⟨(W 23 rfl), rfl, hnm⟩) (W 8 rfl) (ty := (.array .byte)) (by decide) rfl rfl (g := (mkF m 54 #[rv o1, rv o2, iv (0 : Int32), iv (2 : Int32), .val .null, rv b186] [(.ref b186), (.ref o1)])) rfl rfl (hb hby d3_54)
  have Fw197 := f198.same W197
  have N197 := Fr.snoc X197 N192 g1
  have go200 : own_S p e below ST T197 (mkF m 57 #[rv o1, rv o2, iv (0 : Int32), iv (2 : Int32), .val .null, rv b186] []) := fun tt kt => go196 tt (st197 _ kt)
  have KC197 : Keep h0 h197 [o1] := KC192.wr W197 (Or.inl (List.mem_of_getElem? (i := 0) rfl))
  have f201 := (Fw192.other W197 (Or.inr (slot_ne (Or.inr (W 24 rfl)) (Or.inr (W 23 rfl)) (by decide) (t := .byte) (t' := (.array .byte)) (by decide) (by decide))))
  have f202 := ((Vb186.other W192 (Ne.symm neo1_b186)).other W197 (Ne.symm neo1_b186))
  obtain ⟨fs, hr, hrun, hended, hW, hsame⟩ := X197.leave (v := none) (fun _ => rfl) (hlocks := by first | exact BodyLoose.notSynchronized Bd | exact Body.notSynchronized Bd)
  refine ⟨_, _, pre0 _ (go200 _ ?_), hrun, hended, _, _, rfl, ?_, ⟨_, rfl⟩, hW, hsame.mono (by decide) (by decide)⟩
  · exact X197.returnOut hx Bd.returns (hb hby d3_57) hr
  · show Q3k2 Z o1 o2 k2 c0 c1 cs h0 n0 _ T197.heap _
    rw [e197]
    exact ⟨b186, kb186, rfl, N197, KC197, own_cf f201, Fw197, f202⟩
theorem ef2k2 (m : MethodId) (x0 : Addr) (x1 : Addr) : entryFrame m #[(.ref x0), (.ref x1)] 2 = mkF m 0 #[.val (.ref x0), .val (.ref x1)] [] := by first | (simp [entryFrame, mkF, argsToLocals, Value.category]; done) | rfl
def Q2k2 (Z : State) (o1 : Addr) (o2 : Addr) (k2 : ClassId) (c0 : Int32) (c1 : Int32) (cs : Int32) (h0 : Heap) (n0 : Nat) (v : Option Value) (h : Heap) (L : List Loc) : Prop := ∃ (b : Addr) (kb : ClassId), v = none ∧ Fr n0 L ∧ Keep h0 h [o1] ∧ Fld Z h o1 "java/lang/String" "coder" "B" (.int (0 : Int32)) ∧ Fld Z h o1 "java/lang/String" "value" "[B" (.ref b) ∧ Arv Z h b kb .byte (2 : Int32) [(.int (nar .byte (c0.toInt8.toInt32))), (.int (nar .byte (c1.toInt8.toInt32)))] (.int (0 : Int32))
set_option maxRecDepth 65536 in
set_option maxHeartbeats 40000000 in
theorem rm2k2 (l : Launch) (Z : State) (a0 : Array Value) (hw : ∀ d ∈ tables_1, d.before a0 Z = true) (ws : List Jvm.Cond) (o1 : Addr) (o2 : Addr) (k2 : ClassId) (c0 : Int32) (c1 : Int32) (cs : Int32) (h0 : Heap) (n0 : Nat) (Z0 : n0 ≤ h0.size) (F1 : Fld Z h0 o1 "java/lang/String" "coder" "B" (.int (0 : Int32))) (F2 : Fld Z h0 o1 "java/lang/String" "value" "[B" .null) (E1 : Exa Z h0 o1 "java/lang/String") (g1 : n0 ≤ o1) (V2 : Arv Z h0 o2 k2 .char (2 : Int32) [(.int c0), (.int c1)] (.int (0 : Int32))) (n12 : o1 ≠ o2) (q0 : ¬ (255 : Int32) < c0) (q1 : ¬ (255 : Int32) < c1) (SC : Sta Z Z.heap "java/lang/String" "COMPACT_STRINGS" "Z" (.int cs)) (hcs : ¬ cs = 0) (OL : Old Z n0 h0) :
    MetFree l (⟨"java/lang/String", "<init>", "([C)V"⟩ : MethodName) (head1 (Jvm.Cond.code (⟨"java/lang/String", "<init>", "([C)V"⟩ : MethodName) jdk_42_method_3_code 2 none :: ws) ({ frames := 3, cells := 1, slots := 2, locals := 52 } : Room)) (fun aa UU => aa = #[(.ref o1), (.ref o2)] ∧ Z.Warmed39 UU.vm ∧ UU.heap = h0) (fun _ _ _ _ _ => True) (fun _ UU oo UU' => ∃ vv LL, oo = .returned vv ∧ Q2k2 Z o1 o2 k2 c0 c1 cs h0 n0 vv UU'.heap LL ∧ FrameEnd UU oo UU' LL ({ frames := 3, cells := 1, slots := 2, locals := 52 } : Room).cells ({ frames := 3, cells := 1, slots := 2, locals := 52 } : Room).slots) := by
  have W : ∀ {d : Jvm.Cond} (i : Nat), tables_1[i]? = some d → d.before a0 Z = true := fun i h => hw _ (List.mem_of_getElem? h)
  refine MetFree.of_bodySF (plainFor_of_name pn56) hisR ?_
  intro p e s m args below meth c s₁ Bd hml0 hP hK
  obtain ⟨rfl, hZ, hh⟩ := hP
  have hx := Bd.exec
  have hby := Bd.bytes
  have hml : c.maxLocals = 2 := hml0
  have hown : s.vm.findClass "java/lang/String" = some m.cls := findClass_of_methodNamed Bd.named
  have hnm := (name_of_methodNamed Bd.named Bd.method).1
  have X0 : Stand p l e ({ frames := 3, cells := 1, slots := 2, locals := 52 } : Room) s m #[(.ref o1), (.ref o2)] below meth c s₁ [] 0 0 := Stand.of_body Bd
  have e0 : s₁.heap = h0 := by rw [← hh, Bd.state]; rfl
  have N0 := Fr.nil n0
  have pre0 : ∀ tt, Steps p.tables e below (s₁.setTop (mkF m 0 #[rv o1, rv o2] [])) tt → Steps p.tables e below (s₁.setTop (entryFrame m #[(.ref o1), (.ref o2)] 2)) tt := fun tt kt => castTop (ef2k2 m o1 o2) kt
  obtain ⟨ST, hST⟩ : ∃ z : State, z = s₁.setTop (mkF m 0 #[rv o1, rv o2] []) := ⟨_, rfl⟩
  rw [← hST] at pre0
  have KC0 : Keep h0 h0 [o1] := Keep.refl h0 [o1]
  have go203 : own_S p e below ST s₁ (mkF m 4 #[rv o1, rv o2] [(.ref o2), (.int (0 : Int32)), (.ref o2), (.ref o1)]) := fun tt kt => (by
      rw [hST]
      show Steps p.tables e below (s₁.setTop (mkF m 0 #[rv o1, rv o2] [])) _
      refine XS.aloadN X0.here hx rfl (hb hby d2_0) rfl rfl ?_
      refine XS.aloadN X0.here hx rfl (hb hby d2_1) rfl rfl ?_
      refine XS.iconst X0.here hx rfl (hb hby d2_2) ?_
      refine XS.aloadN X0.here hx rfl (hb hby d2_3) rfl rfl ?_
      exact kt)
  obtain ⟨cl204, Ar204, q204, S204, M204, H204, G204⟩ := id V2
  have go205 : own_S p e below ST s₁ (mkF m 5 #[rv o1, rv o2] [(.int (2 : Int32)), (.int (0 : Int32)), (.ref o2), (.ref o1)]) := fun tt kt => go203 tt (by
      refine X0.arraylength hx (by rw [e0]; exact Ar204.1) (State.isArrayOf_alike hZ.alike Ar204.2.1) (g := (mkF m 4 #[rv o1, rv o2] [(.ref o2), (.int (0 : Int32)), (.ref o2), (.ref o1)])) rfl rfl (hb hby d2_4) _ ?_
      rw [len_of S204 M204]
      exact kt)
  have go206 : own_S p e below ST s₁ (mkF m 6 #[rv o1, rv o2] [.null, (.int (2 : Int32)), (.int (0 : Int32)), (.ref o2), (.ref o1)]) := fun tt kt => go205 tt (by
      refine XS.aconstNull X0.here hx rfl (hb hby d2_5) ?_
      exact kt)
  obtain ⟨_, _, ⟨T207, L207, k207, n207⟩, -, X207, ⟨Lc207, hQ207, l207, y207, z207⟩, st207⟩ := X0.specialBack hx (y := (⟨"java/lang/String", "<init>", "([CIILjava/lang/Void;)V"⟩ : MethodName)) rfl hown (mvT hZ (W 14 rfl)) (mvT hZ (W 15 rfl)) (mvT hZ (W 17 rfl)) (by decide) (backOf (W := 0) (rm3k2 l Z a0 hw [] o1 o2 k2 c0 c1 cs h0 n0 Z0 F1 F2 E1 g1 V2 n12 q0 q1 SC hcs OL) hZ (W 17 rfl) (W 9 rfl) (by decide) (by decide)) (g := (mkF m 6 #[rv o1, rv o2] [.null, (.int (2 : Int32)), (.int (0 : Int32)), (.ref o2), (.ref o1)])) rfl (by rw [hml]; rfl) (Steps.refl _) (a := o1) (argsL := [(.ref o2), (.int (0 : Int32)), (.int (2 : Int32)), .null]) (rest := []) (lenOf pd86 rfl) rfl (by show 2 * 0 + _ ≤ _; exact Nat.le_of_eq rfl) (hb hby d2_6) (fun _ _ => ⟨rfl, e0, (by decide : 0 + 1 ≤ _), (by decide : 0 + 2 ≤ _)⟩)
  dsimp only [Pt.U, Pt.locs, Pt.cells, Pt.slots] at X207 l207 y207 z207 st207 hQ207
  subst l207 y207 z207
  obtain ⟨b207, kb207, rfl, Nq207, K207, Fa207, Fb207, Vb207⟩ := hQ207
  have N207 := Fr.app N0 Nq207
  have go208 : own_S p e below ST T207 (mkF m 9 #[rv o1, rv o2] []) := fun tt kt => go206 tt (st207.trans kt)
  have KC207 : Keep h0 T207.heap [o1] := KC0.trans K207 (allS (Or.inl (List.mem_of_getElem? (i := 0) rfl)) all0)
  obtain ⟨fs, hr, hrun, hended, hW, hsame⟩ := X207.leave (v := none) (fun _ => rfl) (hlocks := by first | exact BodyLoose.notSynchronized Bd | exact Body.notSynchronized Bd)
  refine ⟨_, _, pre0 _ (go208 _ ?_), hrun, hended, _, _, rfl, ?_, ⟨_, rfl⟩, hW, hsame.mono (by decide) (by decide)⟩
  · exact X207.returnOut hx Bd.returns (hb hby d2_9) hr
  · show Q2k2 Z o1 o2 k2 c0 c1 cs h0 n0 _ T207.heap _
    exact ⟨b207, kb207, rfl, N207, KC207, Fa207, Fb207, Vb207⟩
theorem ef7k3 (m : MethodId) (x0 : Addr) (x1 : Int32) (x2 : Addr) (x3 : Int32) (x4 : Int32) : entryFrame m #[(.ref x0), (.int x1), (.ref x2), (.int x3), (.int x4)] 7 = mkF m 0 #[.val (.ref x0), .val (.int x1), .val (.ref x2), .val (.int x3), .val (.int x4), .unset, .unset] [] := by first | (simp [entryFrame, mkF, argsToLocals, Value.category]; done) | rfl
def Q7k3 (Z : State) (o1 : Addr) (k1 : ClassId) (o2 : Addr) (k2 : ClassId) (c0 : Int32) (c1 : Int32) (c2 : Int32) (h0 : Heap) (n0 : Nat) (v : Option Value) (h : Heap) (L : List Loc) : Prop := v = some (.int (3 : Int32)) ∧ Fr n0 L ∧ Keep h0 h [o2] ∧ Arv Z h o2 k2 .byte (3 : Int32) [(.int (nar .byte (c0.toInt8.toInt32))), (.int (nar .byte (c1.toInt8.toInt32))), (.int (nar .byte (c2.toInt8.toInt32)))] (.int (0 : Int32))
set_option maxRecDepth 65536 in
set_option maxHeartbeats 40000000 in
theorem rm7k3 (l : Launch) (Z : State) (a0 : Array Value) (hw : ∀ d ∈ tables_1, d.before a0 Z = true) (ws : List Jvm.Cond) (o1 : Addr) (k1 : ClassId) (o2 : Addr) (k2 : ClassId) (c0 : Int32) (c1 : Int32) (c2 : Int32) (h0 : Heap) (n0 : Nat) (Z0 : n0 ≤ h0.size) (V1 : Arv Z h0 o1 k1 .char (3 : Int32) [(.int c0), (.int c1), (.int c2)] (.int (0 : Int32))) (V2 : Arv Z h0 o2 k2 .byte (3 : Int32) [(.int (0 : Int32)), (.int (0 : Int32)), (.int (0 : Int32))] (.int (0 : Int32))) (n12 : o1 ≠ o2) (g2 : n0 ≤ o2) (q0 : ¬ (255 : Int32) < c0) (q1 : ¬ (255 : Int32) < c1) (q2 : ¬ (255 : Int32) < c2) :
    MetFree l (⟨"java/lang/StringUTF16", "compress", "([CI[BII)I"⟩ : MethodName) (head1 (Jvm.Cond.code (⟨"java/lang/StringUTF16", "compress", "([CI[BII)I"⟩ : MethodName) jdk_52_method_21_code 7 (some .int) :: ws) ({ frames := 0, cells := 0, slots := 0, locals := 0 } : Room)) (fun aa UU => aa = #[(.ref o1), (.int (0 : Int32)), (.ref o2), (.int (0 : Int32)), (.int (3 : Int32))] ∧ Z.Warmed39 UU.vm ∧ UU.heap = h0) (fun _ _ _ _ _ => True) (fun _ UU oo UU' => ∃ vv LL, oo = .returned vv ∧ Q7k3 Z o1 k1 o2 k2 c0 c1 c2 h0 n0 vv UU'.heap LL ∧ FrameEnd UU oo UU' LL ({ frames := 0, cells := 0, slots := 0, locals := 0 } : Room).cells ({ frames := 0, cells := 0, slots := 0, locals := 0 } : Room).slots) := by
  have W : ∀ {d : Jvm.Cond} (i : Nat), tables_1[i]? = some d → d.before a0 Z = true := fun i h => hw _ (List.mem_of_getElem? h)
  refine MetFree.of_bodySF (plainFor_of_name pn8) hisR ?_
  intro p e s m args below meth c s₁ Bd hml0 hP hK
  obtain ⟨rfl, hZ, hh⟩ := hP
  have hx := Bd.exec
  have hby := Bd.bytes
  have hml : c.maxLocals = 7 := hml0
  have hown : s.vm.findClass "java/lang/StringUTF16" = some m.cls := findClass_of_methodNamed Bd.named
  have hnm := (name_of_methodNamed Bd.named Bd.method).1
  have X0 : Stand p l e ({ frames := 0, cells := 0, slots := 0, locals := 0 } : Room) s m #[(.ref o1), (.int (0 : Int32)), (.ref o2), (.int (0 : Int32)), (.int (3 : Int32))] below meth c s₁ [] 0 0 := Stand.of_body Bd
  have e0 : s₁.heap = h0 := by rw [← hh, Bd.state]; rfl
  have N0 := Fr.nil n0
  have pre0 : ∀ tt, Steps p.tables e below (s₁.setTop (mkF m 0 #[rv o1, iv (0 : Int32), rv o2, iv (0 : Int32), iv (3 : Int32), .unset, .unset] [])) tt → Steps p.tables e below (s₁.setTop (entryFrame m #[(.ref o1), (.int (0 : Int32)), (.ref o2), (.int (0 : Int32)), (.int (3 : Int32))] 7)) tt := fun tt kt => castTop (ef7k3 m o1 (0 : Int32) o2 (0 : Int32) (3 : Int32)) kt
  obtain ⟨ST, hST⟩ : ∃ z : State, z = s₁.setTop (mkF m 0 #[rv o1, iv (0 : Int32), rv o2, iv (0 : Int32), iv (3 : Int32), .unset, .unset] []) := ⟨_, rfl⟩
  rw [← hST] at pre0
  have KC0 : Keep h0 h0 [o2] := Keep.refl h0 [o2]
  have go209 : own_S p e below ST s₁ (mkF m 12 #[rv o1, iv (0 : Int32), rv o2, iv (0 : Int32), iv (3 : Int32), iv (0 : Int32), .unset] [(.int (0 : Int32)), (.ref o1)]) := fun tt kt => (by
      rw [hST]
      show Steps p.tables e below (s₁.setTop (mkF m 0 #[rv o1, iv (0 : Int32), rv o2, iv (0 : Int32), iv (3 : Int32), .unset, .unset] [])) _
      refine XS.iconst X0.here hx rfl (hb hby d7_0) ?_
      refine XS.istore X0.here hx rfl (hb hby d7_1) rfl (l' := #[rv o1, iv (0 : Int32), rv o2, iv (0 : Int32), iv (3 : Int32), iv (0 : Int32), .unset]) rfl ?_
      refine XS.iload X0.here hx rfl (hb hby d7_3) rfl ?_
      refine XS.iload X0.here hx rfl (hb hby d7_5) rfl ?_
      refine XS.icmpNo X0.here hx rfl (hb hby d7_7) rfl (tlt (by decide : (0 : Int32) < (3 : Int32))).2.1 ?_
      refine XS.aloadN X0.here hx rfl (hb hby d7_10) rfl rfl ?_
      show Steps p.tables e below (s₁.setTop (mkF m 11 #[rv o1, iv (0 : Int32), rv o2, iv (0 : Int32), iv (3 : Int32), iv (0 : Int32), .unset] [(.ref o1)])) _
      refine XS.iloadN X0.here hx rfl (hb hby d7_11) rfl ?_
      exact kt)
  obtain ⟨cl210, Ar210, q210, S210, M210, H210, G210⟩ := id V1
  have hin210 : ¬ ((0 : Int32) < 0 ∨ cl210.slots.size ≤ ((0 : Int32)).toNatClampNeg) := inb_of S210 ⟨by decide, by decide⟩
  have hat210 : cl210.slots[((0 : Int32)).toNatClampNeg]? = some (.int c0) := H210.at hin210 rfl
  have go211 : own_S p e below ST s₁ (mkF m 13 #[rv o1, iv (0 : Int32), rv o2, iv (0 : Int32), iv (3 : Int32), iv (0 : Int32), .unset] [(.int c0)]) := fun tt kt => go209 tt (by
      refine X0.caload hx (j := (0 : Int32)) (v := (.int c0)) (by rw [e0]; exact Ar210.1) (State.isArrayOf_alike hZ.alike Ar210.2.1) Ar210.2.2 hin210 hat210 (g := (mkF m 12 #[rv o1, iv (0 : Int32), rv o2, iv (0 : Int32), iv (3 : Int32), iv (0 : Int32), .unset] [(.int (0 : Int32)), (.ref o1)])) rfl rfl (hb hby d7_12) _ ?_
      exact kt)
  have go212 : own_S p e below ST s₁ (mkF m 31 #[rv o1, iv (0 : Int32), rv o2, iv (0 : Int32), iv (3 : Int32), iv (0 : Int32), iv c0] [(.int (c0.toInt8.toInt32)), (.int (0 : Int32)), (.ref o2)]) := fun tt kt => go211 tt (by
      refine XS.istore X0.here hx rfl (hb hby d7_13) rfl (l' := #[rv o1, iv (0 : Int32), rv o2, iv (0 : Int32), iv (3 : Int32), iv (0 : Int32), iv c0]) rfl ?_
      refine XS.iload X0.here hx rfl (hb hby d7_15) rfl ?_
      refine XS.sipush X0.here hx rfl (hb hby d7_17) ?_
      refine XS.icmpYes X0.here hx rfl (pc0 := 20) (pc' := 26) rfl (hb hby d7_20) rfl (flt q0).2.2.2 (by decide) (by decide) ?_
      refine XS.aloadN X0.here hx rfl (hb hby d7_26) rfl rfl ?_
      refine XS.iloadN X0.here hx rfl (hb hby d7_27) rfl ?_
      show Steps p.tables e below (s₁.setTop (mkF m 28 #[rv o1, iv (0 : Int32), rv o2, iv (0 : Int32), iv (3 : Int32), iv (0 : Int32), iv c0] [(.int (0 : Int32)), (.ref o2)])) _
      refine XS.iload X0.here hx rfl (hb hby d7_28) rfl ?_
      refine XS.i2b X0.here hx rfl (hb hby d7_30) rfl ?_
      exact kt)
  obtain ⟨cl213, Ar213, q213, S213, M213, H213, G213⟩ := id V2
  have hin213 : ¬ ((0 : Int32) < 0 ∨ cl213.slots.size ≤ ((0 : Int32)).toNatClampNeg) := inb_of S213 ⟨by decide, by decide⟩
  obtain ⟨T213, h213, X213, e213, W213, st213⟩ := stB X0 hx hZ e0 Ar213 (j := (0 : Int32)) hin213 (g := (mkF m 31 #[rv o1, iv (0 : Int32), rv o2, iv (0 : Int32), iv (3 : Int32), iv (0 : Int32), iv c0] [(.int (c0.toInt8.toInt32)), (.int (0 : Int32)), (.ref o2)])) rfl rfl (hb hby d7_31)
  have V213 : Arv Z h213 o2 k2 .byte (3 : Int32) [(.int (nar .byte (c0.toInt8.toInt32))), (.int (0 : Int32)), (.int (0 : Int32))] (.int (0 : Int32)) := Arv.set Ar213 q213 S213 M213 H213 G213 (own_fb _) W213 0 rfl (Nat.le_of_ble_eq_true rfl)
  have N213 := Fr.snoc X213 N0 g2
  have KC213 : Keep h0 h213 [o2] := KC0.wr W213 (Or.inl (List.mem_of_getElem? (i := 0) rfl))
  have go214 : own_S p e below ST T213 (mkF m 32 #[rv o1, iv (0 : Int32), rv o2, iv (0 : Int32), iv (3 : Int32), iv (0 : Int32), iv c0] []) := fun tt kt => go212 tt (st213 _ kt)
  have go215 : own_S p e below ST T213 (mkF m 12 #[rv o1, iv (1 : Int32), rv o2, iv (1 : Int32), iv (3 : Int32), iv (1 : Int32), iv c0] [(.int (1 : Int32)), (.ref o1)]) := fun tt kt => go214 tt (by
      refine XS.iinc X213.here hx rfl (hb hby d7_32) rfl (l' := #[rv o1, iv (1 : Int32), rv o2, iv (0 : Int32), iv (3 : Int32), iv (0 : Int32), iv c0]) rfl ?_
      refine XS.iinc X213.here hx rfl (hb hby d7_35) rfl (l' := #[rv o1, iv (1 : Int32), rv o2, iv (1 : Int32), iv (3 : Int32), iv (0 : Int32), iv c0]) rfl ?_
      refine XS.iinc X213.here hx rfl (hb hby d7_38) rfl (l' := #[rv o1, iv (1 : Int32), rv o2, iv (1 : Int32), iv (3 : Int32), iv (1 : Int32), iv c0]) rfl ?_
      refine XS.goto X213.here hx rfl (pc0 := 41) (pc' := 3) rfl (hb hby d7_41) (by decide) (by decide) ?_
      refine XS.iload X213.here hx rfl (hb hby d7_3) rfl ?_
      refine XS.iload X213.here hx rfl (hb hby d7_5) rfl ?_
      show Steps p.tables e below (T213.setTop (mkF m 7 #[rv o1, iv (1 : Int32), rv o2, iv (1 : Int32), iv (3 : Int32), iv (1 : Int32), iv c0] [(.int (3 : Int32)), (.int (1 : Int32))])) _
      refine XS.icmpNo X213.here hx rfl (hb hby d7_7) rfl (tlt (by decide : (1 : Int32) < (3 : Int32))).2.1 ?_
      refine XS.aloadN X213.here hx rfl (hb hby d7_10) rfl rfl ?_
      refine XS.iloadN X213.here hx rfl (hb hby d7_11) rfl ?_
      exact kt)
  have f217 := (V1.other W213 n12)
  obtain ⟨cl216, Ar216, q216, S216, M216, H216, G216⟩ := id f217
  have hin216 : ¬ ((1 : Int32) < 0 ∨ cl216.slots.size ≤ ((1 : Int32)).toNatClampNeg) := inb_of S216 ⟨by decide, by decide⟩
  have hat216 : cl216.slots[((1 : Int32)).toNatClampNeg]? = some (.int c1) := H216.at hin216 rfl
  have go218 : own_S p e below ST T213 (mkF m 13 #[rv o1, iv (1 : Int32), rv o2, iv (1 : Int32), iv (3 : Int32), iv (1 : Int32), iv c0] [(.int c1)]) := fun tt kt => go215 tt (by
      refine X213.caload hx (j := (1 : Int32)) (v := (.int c1)) (by rw [e213]; exact Ar216.1) (State.isArrayOf_alike hZ.alike Ar216.2.1) Ar216.2.2 hin216 hat216 (g := (mkF m 12 #[rv o1, iv (1 : Int32), rv o2, iv (1 : Int32), iv (3 : Int32), iv (1 : Int32), iv c0] [(.int (1 : Int32)), (.ref o1)])) rfl rfl (hb hby d7_12) _ ?_
      exact kt)
  have go219 : own_S p e below ST T213 (mkF m 31 #[rv o1, iv (1 : Int32), rv o2, iv (1 : Int32), iv (3 : Int32), iv (1 : Int32), iv c1] [(.int (c1.toInt8.toInt32)), (.int (1 : Int32)), (.ref o2)]) := fun tt kt => go218 tt (by
      refine XS.istore X213.here hx rfl (hb hby d7_13) rfl (l' := #[rv o1, iv (1 : Int32), rv o2, iv (1 : Int32), iv (3 : Int32), iv (1 : Int32), iv c1]) rfl ?_
      refine XS.iload X213.here hx rfl (hb hby d7_15) rfl ?_
      refine XS.sipush X213.here hx rfl (hb hby d7_17) ?_
      refine XS.icmpYes X213.here hx rfl (pc0 := 20) (pc' := 26) rfl (hb hby d7_20) rfl (flt q1).2.2.2 (by decide) (by decide) ?_
      refine XS.aloadN X213.here hx rfl (hb hby d7_26) rfl rfl ?_
      refine XS.iloadN X213.here hx rfl (hb hby d7_27) rfl ?_
      show Steps p.tables e below (T213.setTop (mkF m 28 #[rv o1, iv (1 : Int32), rv o2, iv (1 : Int32), iv (3 : Int32), iv (1 : Int32), iv c1] [(.int (1 : Int32)), (.ref o2)])) _
      refine XS.iload X213.here hx rfl (hb hby d7_28) rfl ?_
      refine XS.i2b X213.here hx rfl (hb hby d7_30) rfl ?_
      exact kt)
  obtain ⟨cl220, Ar220, q220, S220, M220, H220, G220⟩ := id V213
  have hin220 : ¬ ((1 : Int32) < 0 ∨ cl220.slots.size ≤ ((1 : Int32)).toNatClampNeg) := inb_of S220 ⟨by decide, by decide⟩
  obtain ⟨T220, h220, X220, e220, W220, st220⟩ := stB X213 hx hZ e213 Ar220 (j := (1 : Int32)) hin220 (g := (mkF m 31 #[rv o1, iv (1 : Int32), rv o2, iv (1 : Int32), iv (3 : Int32), iv (1 : Int32), iv c1] [(.int (c1.toInt8.toInt32)), (.int (1 : Int32)), (.ref o2)])) rfl rfl (hb hby d7_31)
  have V220 : Arv Z h220 o2 k2 .byte (3 : Int32) [(.int (nar .byte (c0.toInt8.toInt32))), (.int (nar .byte (c1.toInt8.toInt32))), (.int (0 : Int32))] (.int (0 : Int32)) := Arv.set Ar220 q220 S220 M220 H220 G220 (own_fb _) W220 1 rfl (Nat.le_of_ble_eq_true rfl)
  have N220 := Fr.snoc X220 N213 g2
  have KC220 : Keep h0 h220 [o2] := KC213.wr W220 (Or.inl (List.mem_of_getElem? (i := 0) rfl))
  have go221 : own_S p e below ST T220 (mkF m 32 #[rv o1, iv (1 : Int32), rv o2, iv (1 : Int32), iv (3 : Int32), iv (1 : Int32), iv c1] []) := fun tt kt => go219 tt (st220 _ kt)
  have go222 : own_S p e below ST T220 (mkF m 12 #[rv o1, iv (2 : Int32), rv o2, iv (2 : Int32), iv (3 : Int32), iv (2 : Int32), iv c1] [(.int (2 : Int32)), (.ref o1)]) := fun tt kt => go221 tt (by
      refine XS.iinc X220.here hx rfl (hb hby d7_32) rfl (l' := #[rv o1, iv (2 : Int32), rv o2, iv (1 : Int32), iv (3 : Int32), iv (1 : Int32), iv c1]) rfl ?_
      refine XS.iinc X220.here hx rfl (hb hby d7_35) rfl (l' := #[rv o1, iv (2 : Int32), rv o2, iv (2 : Int32), iv (3 : Int32), iv (1 : Int32), iv c1]) rfl ?_
      refine XS.iinc X220.here hx rfl (hb hby d7_38) rfl (l' := #[rv o1, iv (2 : Int32), rv o2, iv (2 : Int32), iv (3 : Int32), iv (2 : Int32), iv c1]) rfl ?_
      refine XS.goto X220.here hx rfl (pc0 := 41) (pc' := 3) rfl (hb hby d7_41) (by decide) (by decide) ?_
      refine XS.iload X220.here hx rfl (hb hby d7_3) rfl ?_
      refine XS.iload X220.here hx rfl (hb hby d7_5) rfl ?_
      show Steps p.tables e below (T220.setTop (mkF m 7 #[rv o1, iv (2 : Int32), rv o2, iv (2 : Int32), iv (3 : Int32), iv (2 : Int32), iv c1] [(.int (3 : Int32)), (.int (2 : Int32))])) _
      refine XS.icmpNo X220.here hx rfl (hb hby d7_7) rfl (tlt (by decide : (2 : Int32) < (3 : Int32))).2.1 ?_
      refine XS.aloadN X220.here hx rfl (hb hby d7_10) rfl rfl ?_
      refine XS.iloadN X220.here hx rfl (hb hby d7_11) rfl ?_
      exact kt)
  have f224 := (f217.other W220 n12)
  obtain ⟨cl223, Ar223, q223, S223, M223, H223, G223⟩ := id f224
  have hin223 : ¬ ((2 : Int32) < 0 ∨ cl223.slots.size ≤ ((2 : Int32)).toNatClampNeg) := inb_of S223 ⟨by decide, by decide⟩
  have hat223 : cl223.slots[((2 : Int32)).toNatClampNeg]? = some (.int c2) := H223.at hin223 rfl
  have go225 : own_S p e below ST T220 (mkF m 13 #[rv o1, iv (2 : Int32), rv o2, iv (2 : Int32), iv (3 : Int32), iv (2 : Int32), iv c1] [(.int c2)]) := fun tt kt => go222 tt (by
      refine X220.caload hx (j := (2 : Int32)) (v := (.int c2)) (by rw [e220]; exact Ar223.1) (State.isArrayOf_alike hZ.alike Ar223.2.1) Ar223.2.2 hin223 hat223 (g := (mkF m 12 #[rv o1, iv (2 : Int32), rv o2, iv (2 : Int32), iv (3 : Int32), iv (2 : Int32), iv c1] [(.int (2 : Int32)), (.ref o1)])) rfl rfl (hb hby d7_12) _ ?_
      exact kt)
  have go226 : own_S p e below ST T220 (mkF m 31 #[rv o1, iv (2 : Int32), rv o2, iv (2 : Int32), iv (3 : Int32), iv (2 : Int32), iv c2] [(.int (c2.toInt8.toInt32)), (.int (2 : Int32)), (.ref o2)]) := fun tt kt => go225 tt (by
      refine XS.istore X220.here hx rfl (hb hby d7_13) rfl (l' := #[rv o1, iv (2 : Int32), rv o2, iv (2 : Int32), iv (3 : Int32), iv (2 : Int32), iv c2]) rfl ?_
      refine XS.iload X220.here hx rfl (hb hby d7_15) rfl ?_
      refine XS.sipush X220.here hx rfl (hb hby d7_17) ?_
      refine XS.icmpYes X220.here hx rfl (pc0 := 20) (pc' := 26) rfl (hb hby d7_20) rfl (flt q2).2.2.2 (by decide) (by decide) ?_
      refine XS.aloadN X220.here hx rfl (hb hby d7_26) rfl rfl ?_
      refine XS.iloadN X220.here hx rfl (hb hby d7_27) rfl ?_
      show Steps p.tables e below (T220.setTop (mkF m 28 #[rv o1, iv (2 : Int32), rv o2, iv (2 : Int32), iv (3 : Int32), iv (2 : Int32), iv c2] [(.int (2 : Int32)), (.ref o2)])) _
      refine XS.iload X220.here hx rfl (hb hby d7_28) rfl ?_
      refine XS.i2b X220.here hx rfl (hb hby d7_30) rfl ?_
      exact kt)
  obtain ⟨cl227, Ar227, q227, S227, M227, H227, G227⟩ := id V220
  have hin227 : ¬ ((2 : Int32) < 0 ∨ cl227.slots.size ≤ ((2 : Int32)).toNatClampNeg) := inb_of S227 ⟨by decide, by decide⟩
  obtain ⟨T227, h227, X227, e227, W227, st227⟩ := stB X220 hx hZ e220 Ar227 (j := (2 : Int32)) hin227 (g := (mkF m 31 #[rv o1, iv (2 : Int32), rv o2, iv (2 : Int32), iv (3 : Int32), iv (2 : Int32), iv c2] [(.int (c2.toInt8.toInt32)), (.int (2 : Int32)), (.ref o2)])) rfl rfl (hb hby d7_31)
  have V227 : Arv Z h227 o2 k2 .byte (3 : Int32) [(.int (nar .byte (c0.toInt8.toInt32))), (.int (nar .byte (c1.toInt8.toInt32))), (.int (nar .byte (c2.toInt8.toInt32)))] (.int (0 : Int32)) := Arv.set Ar227 q227 S227 M227 H227 G227 (own_fb _) W227 2 rfl (Nat.le_of_ble_eq_true rfl)
  have N227 := Fr.snoc X227 N220 g2
  have KC227 : Keep h0 h227 [o2] := KC220.wr W227 (Or.inl (List.mem_of_getElem? (i := 0) rfl))
  have go228 : own_S p e below ST T227 (mkF m 32 #[rv o1, iv (2 : Int32), rv o2, iv (2 : Int32), iv (3 : Int32), iv (2 : Int32), iv c2] []) := fun tt kt => go226 tt (st227 _ kt)
  have go229 : own_S p e below ST T227 (mkF m 46 #[rv o1, iv (3 : Int32), rv o2, iv (3 : Int32), iv (3 : Int32), iv (3 : Int32), iv c2] [(.int (3 : Int32))]) := fun tt kt => go228 tt (by
      refine XS.iinc X227.here hx rfl (hb hby d7_32) rfl (l' := #[rv o1, iv (3 : Int32), rv o2, iv (2 : Int32), iv (3 : Int32), iv (2 : Int32), iv c2]) rfl ?_
      refine XS.iinc X227.here hx rfl (hb hby d7_35) rfl (l' := #[rv o1, iv (3 : Int32), rv o2, iv (3 : Int32), iv (3 : Int32), iv (2 : Int32), iv c2]) rfl ?_
      refine XS.iinc X227.here hx rfl (hb hby d7_38) rfl (l' := #[rv o1, iv (3 : Int32), rv o2, iv (3 : Int32), iv (3 : Int32), iv (3 : Int32), iv c2]) rfl ?_
      refine XS.goto X227.here hx rfl (pc0 := 41) (pc' := 3) rfl (hb hby d7_41) (by decide) (by decide) ?_
      refine XS.iload X227.here hx rfl (hb hby d7_3) rfl ?_
      refine XS.iload X227.here hx rfl (hb hby d7_5) rfl ?_
      show Steps p.tables e below (T227.setTop (mkF m 7 #[rv o1, iv (3 : Int32), rv o2, iv (3 : Int32), iv (3 : Int32), iv (3 : Int32), iv c2] [(.int (3 : Int32)), (.int (3 : Int32))])) _
      refine XS.icmpYes X227.here hx rfl (pc0 := 7) (pc' := 44) rfl (hb hby d7_7) rfl (flt (by decide : ¬ ((3 : Int32) < (3 : Int32)))).2.1 (by decide) (by decide) ?_
      refine XS.iload X227.here hx rfl (hb hby d7_44) rfl ?_
      exact kt)
  obtain ⟨fs, hr, hrun, hended, hW, hsame⟩ := X227.leave (v := some (.int (3 : Int32))) (fun h => by rw [Bd.returns] at h; cases h) (hlocks := by first | exact BodyLoose.notSynchronized Bd | exact Body.notSynchronized Bd)
  refine ⟨_, _, pre0 _ (go229 _ ?_), hrun, hended, _, _, rfl, ?_, ⟨_, rfl⟩, hW, hsame.mono (by decide) (by decide)⟩
  · exact retI X227 hx Bd.returns (hb hby d7_46) hr
  · show Q7k3 Z o1 k1 o2 k2 c0 c1 c2 h0 n0 _ T227.heap _
    rw [e227]
    exact ⟨rfl, N227, KC227, V227⟩
theorem ef6k3 (m : MethodId) (x0 : Addr) (x1 : Int32) (x2 : Int32) : entryFrame m #[(.ref x0), (.int x1), (.int x2)] 6 = mkF m 0 #[.val (.ref x0), .val (.int x1), .val (.int x2), .unset, .unset, .unset] [] := by first | (simp [entryFrame, mkF, argsToLocals, Value.category]; done) | rfl
def Q6k3 (Z : State) (o1 : Addr) (k1 : ClassId) (c0 : Int32) (c1 : Int32) (c2 : Int32) (h0 : Heap) (n0 : Nat) (v : Option Value) (h : Heap) (L : List Loc) : Prop := ∃ (b : Addr) (kb : ClassId), v = some (.ref b) ∧ Fr n0 L ∧ Keep h0 h [] ∧ Arv Z h b kb .byte (3 : Int32) [(.int (nar .byte (c0.toInt8.toInt32))), (.int (nar .byte (c1.toInt8.toInt32))), (.int (nar .byte (c2.toInt8.toInt32)))] (.int (0 : Int32)) ∧ n0 ≤ b ∧ h0.size ≤ b
set_option maxRecDepth 65536 in
set_option maxHeartbeats 40000000 in
theorem rm6k3 (l : Launch) (Z : State) (a0 : Array Value) (hw : ∀ d ∈ tables_1, d.before a0 Z = true) (ws : List Jvm.Cond) (o1 : Addr) (k1 : ClassId) (c0 : Int32) (c1 : Int32) (c2 : Int32) (h0 : Heap) (n0 : Nat) (Z0 : n0 ≤ h0.size) (V1 : Arv Z h0 o1 k1 .char (3 : Int32) [(.int c0), (.int c1), (.int c2)] (.int (0 : Int32))) (q0 : ¬ (255 : Int32) < c0) (q1 : ¬ (255 : Int32) < c1) (q2 : ¬ (255 : Int32) < c2) :
    MetFree l (⟨"java/lang/StringUTF16", "compress", "([CII)[B"⟩ : MethodName) (head1 (Jvm.Cond.code (⟨"java/lang/StringUTF16", "compress", "([CII)[B"⟩ : MethodName) jdk_52_method_16_code 6 (some (.array .byte)) :: ws) ({ frames := 1, cells := 1, slots := 3, locals := 18 } : Room)) (fun aa UU => aa = #[(.ref o1), (.int (0 : Int32)), (.int (3 : Int32))] ∧ Z.Warmed39 UU.vm ∧ UU.heap = h0) (fun _ _ _ _ _ => True) (fun _ UU oo UU' => ∃ vv LL, oo = .returned vv ∧ Q6k3 Z o1 k1 c0 c1 c2 h0 n0 vv UU'.heap LL ∧ FrameEnd UU oo UU' LL ({ frames := 1, cells := 1, slots := 3, locals := 18 } : Room).cells ({ frames := 1, cells := 1, slots := 3, locals := 18 } : Room).slots) := by
  have W : ∀ {d : Jvm.Cond} (i : Nat), tables_1[i]? = some d → d.before a0 Z = true := fun i h => hw _ (List.mem_of_getElem? h)
  refine MetFree.of_bodySF (plainFor_of_name pn8) hisR ?_
  intro p e s m args below meth c s₁ Bd hml0 hP hK
  obtain ⟨rfl, hZ, hh⟩ := hP
  have hx := Bd.exec
  have hby := Bd.bytes
  have hml : c.maxLocals = 6 := hml0
  have hown : s.vm.findClass "java/lang/StringUTF16" = some m.cls := findClass_of_methodNamed Bd.named
  have hnm := (name_of_methodNamed Bd.named Bd.method).1
  have X0 : Stand p l e ({ frames := 1, cells := 1, slots := 3, locals := 18 } : Room) s m #[(.ref o1), (.int (0 : Int32)), (.int (3 : Int32))] below meth c s₁ [] 0 0 := Stand.of_body Bd
  have e0 : s₁.heap = h0 := by rw [← hh, Bd.state]; rfl
  have N0 := Fr.nil n0
  have pre0 : ∀ tt, Steps p.tables e below (s₁.setTop (mkF m 0 #[rv o1, iv (0 : Int32), iv (3 : Int32), .unset, .unset, .unset] [])) tt → Steps p.tables e below (s₁.setTop (entryFrame m #[(.ref o1), (.int (0 : Int32)), (.int (3 : Int32))] 6)) tt := fun tt kt => castTop (ef6k3 m o1 (0 : Int32) (3 : Int32)) kt
  obtain ⟨ST, hST⟩ : ∃ z : State, z = s₁.setTop (mkF m 0 #[rv o1, iv (0 : Int32), iv (3 : Int32), .unset, .unset, .unset] []) := ⟨_, rfl⟩
  rw [← hST] at pre0
  have KC0 : Keep h0 h0 [] := Keep.refl h0 []
  have go230 : own_S p e below ST s₁ (mkF m 1 #[rv o1, iv (0 : Int32), iv (3 : Int32), .unset, .unset, .unset] [(.int (3 : Int32))]) := fun tt kt => (by
      rw [hST]
      show Steps p.tables e below (s₁.setTop (mkF m 0 #[rv o1, iv (0 : Int32), iv (3 : Int32), .unset, .unset, .unset] [])) _
      refine XS.iloadN X0.here hx rfl (hb hby d6_0) rfl ?_
      exact kt)
  obtain ⟨b231, g231⟩ : ∃ z, z = h0.size := ⟨_, rfl⟩
  obtain ⟨T231, h231, k231, X231, e231, E231, A231, st231⟩ := newP X0 hx hZ (W 22 rfl) e0 (g := (mkF m 1 #[rv o1, iv (0 : Int32), iv (3 : Int32), .unset, .unset, .unset] [(.int (3 : Int32))])) rfl (hb hby d6_1) rfl (by decide) (cap := 3) (by decide) (by decide) (by decide) (by decide)
  rw [← g231] at A231 st231
  have neo1_b231 : o1 ≠ b231 := Nat.ne_of_lt (Nat.lt_of_lt_of_le V1.lt (Nat.le_of_eq g231.symm))
  have ge_b231 : n0 ≤ b231 := Nat.le_trans Z0 (Nat.le_of_eq g231.symm)
  have sz_b231 : h0.size ≤ b231 := Nat.le_trans KC0.1 (Nat.le_of_eq g231.symm)
  have V231 : Arv Z h231 b231 k231 .byte (3 : Int32) [(.int (0 : Int32)), (.int (0 : Int32)), (.int (0 : Int32))] (.int (0 : Int32)) := (Arv.new A231 (by decide)).pad (pad_rep [] (.int (0 : Int32)) 3)
  have KC231 : Keep h0 h231 [] := KC0.ext E231
  have go232 : own_S p e below ST T231 (mkF m 3 #[rv o1, iv (0 : Int32), iv (3 : Int32), .unset, .unset, .unset] [(.ref b231)]) := fun tt kt => go230 tt (st231 _ kt)
  have go233 : own_S p e below ST T231 (mkF m 9 #[rv o1, iv (0 : Int32), iv (3 : Int32), rv b231, .unset, .unset] [(.int (3 : Int32)), (.int (0 : Int32)), (.ref b231), (.int (0 : Int32)), (.ref o1)]) := fun tt kt => go232 tt (by
      refine XS.astoreN X231.here hx rfl (hb hby d6_3) rfl rfl (l' := #[rv o1, iv (0 : Int32), iv (3 : Int32), rv b231, .unset, .unset]) rfl ?_
      refine XS.aloadN X231.here hx rfl (hb hby d6_4) rfl rfl ?_
      refine XS.iloadN X231.here hx rfl (hb hby d6_5) rfl ?_
      refine XS.aloadN X231.here hx rfl (hb hby d6_6) rfl rfl ?_
      refine XS.iconst X231.here hx rfl (hb hby d6_7) ?_
      refine XS.iloadN X231.here hx rfl (hb hby d6_8) rfl ?_
      exact kt)
  have f234 := (V1.ext E231)
  have zs236 := (Nat.le_trans Z0 E231.1)
  obtain ⟨_, _, ⟨T235, L235, k235, n235⟩, -, X235, ⟨Lc235, hQ235, l235, y235, z235⟩, st235⟩ := Jvm.LawKit.callS X231 hx (y := (⟨"java/lang/StringUTF16", "compress", "([CI[BII)I"⟩ : MethodName)) hown (mvT hZ (W 37 rfl)) (mvT hZ (W 38 rfl)) (mvT hZ (W 35 rfl)) (mvT hZ (W 39 rfl)) (by decide) (backOf (W := 0) (rm7k3 l Z a0 hw [] o1 k1 b231 k231 c0 c1 c2 h231 n0 zs236 f234 V231 neo1_b231 ge_b231 q0 q1 q2) hZ (W 39 rfl) (W 35 rfl) (by decide) (by decide)) (g := (mkF m 9 #[rv o1, iv (0 : Int32), iv (3 : Int32), rv b231, .unset, .unset] [(.int (3 : Int32)), (.int (0 : Int32)), (.ref b231), (.int (0 : Int32)), (.ref o1)])) rfl (by rw [hml]; rfl) (argsL := [(.ref o1), (.int (0 : Int32)), (.ref b231), (.int (0 : Int32)), (.int (3 : Int32))]) (rest := []) (lenOf pd41 rfl) rfl (by show 2 * 0 + _ ≤ _; exact Nat.le_of_eq rfl) (hb hby d6_9) (fun _ _ => ⟨rfl, e231, (by decide : 1 + 0 ≤ _), (by decide : 3 + 0 ≤ _)⟩)
  dsimp only [Pt.U, Pt.locs, Pt.cells, Pt.slots] at X235 l235 y235 z235 st235 hQ235
  subst l235 y235 z235
  obtain ⟨rfl, Nq235, K235, Vb235⟩ := hQ235
  have N235 := Fr.app N0 Nq235
  have go237 : own_S p e below ST T235 (mkF m 12 #[rv o1, iv (0 : Int32), iv (3 : Int32), rv b231, .unset, .unset] [(.int (3 : Int32))]) := fun tt kt => go233 tt (st235 _ kt)
  have KC235 : Keep h0 T235.heap [] := KC231.trans K235 (allS (Or.inr sz_b231) all0)
  have go238 : own_S p e below ST T235 (mkF m 58 #[rv o1, iv (0 : Int32), iv (3 : Int32), rv b231, iv (3 : Int32), .unset] [(.ref b231)]) := fun tt kt => go237 tt (by
      refine XS.istore X235.here hx rfl (hb hby d6_12) rfl (l' := #[rv o1, iv (0 : Int32), iv (3 : Int32), rv b231, iv (3 : Int32), .unset]) rfl ?_
      refine XS.iload X235.here hx rfl (hb hby d6_14) rfl ?_
      refine XS.iloadN X235.here hx rfl (hb hby d6_16) rfl ?_
      refine XS.icmpYes X235.here hx rfl (pc0 := 17) (pc' := 57) rfl (hb hby d6_17) rfl (teq (by decide : (3 : Int32) = (3 : Int32))).1 (by decide) (by decide) ?_
      refine XS.aloadN X235.here hx rfl (hb hby d6_57) rfl rfl ?_
      exact kt)
  obtain ⟨fs, hr, hrun, hended, hW, hsame⟩ := X235.leave (v := some (.ref b231)) (fun h => by rw [Bd.returns] at h; cases h) (hlocks := by first | exact BodyLoose.notSynchronized Bd | exact Body.notSynchronized Bd)
  refine ⟨_, _, pre0 _ (go238 _ ?_), hrun, hended, _, _, rfl, ?_, ⟨_, rfl⟩, hW, hsame.mono (by decide) (by decide)⟩
  · exact retOut X235 hx Bd.returns rfl (Or.inr (Or.inr (Or.inr (Or.inr ⟨rfl, rfl, rfl⟩)))) (hb hby d6_58) hr
  · show Q6k3 Z o1 k1 c0 c1 c2 h0 n0 _ T235.heap _
    exact ⟨b231, k231, rfl, N235, KC235, Vb235, ge_b231, sz_b231⟩
theorem ef8k3 (m : MethodId) (x0 : Addr) (x1 : Int32) : entryFrame m #[(.ref x0), (.int x1)] 2 = mkF m 0 #[.val (.ref x0), .val (.int x1)] [] := by first | (simp [entryFrame, mkF, argsToLocals, Value.category]; done) | rfl
def Q8k3 (Z : State) (o1 : Addr) (k1 : ClassId) (vs : List Value) (h0 : Heap) (n0 : Nat) (v : Option Value) (h : Heap) (L : List Loc) : Prop := v = some (.int (0 : Int32)) ∧ Fr n0 L ∧ h = h0
set_option maxRecDepth 65536 in
set_option maxHeartbeats 40000000 in
theorem rm8k3 (l : Launch) (Z : State) (a0 : Array Value) (hw : ∀ d ∈ tables_1, d.before a0 Z = true) (ws : List Jvm.Cond) (o1 : Addr) (k1 : ClassId) (vs : List Value) (h0 : Heap) (n0 : Nat) (Z0 : n0 ≤ h0.size) (V1 : Arv Z h0 o1 k1 .byte (3 : Int32) vs (.int (0 : Int32))) :
    MetFree l (⟨"java/lang/StringUTF16", "coderFromArrayLen", "([BI)B"⟩ : MethodName) (head1 (Jvm.Cond.code (⟨"java/lang/StringUTF16", "coderFromArrayLen", "([BI)B"⟩ : MethodName) jdk_52_method_15_code 2 (some .byte) :: ws) ({ frames := 0, cells := 0, slots := 0, locals := 0 } : Room)) (fun aa UU => aa = #[(.ref o1), (.int (3 : Int32))] ∧ Z.Warmed39 UU.vm ∧ UU.heap = h0) (fun _ _ _ _ _ => True) (fun _ UU oo UU' => ∃ vv LL, oo = .returned vv ∧ Q8k3 Z o1 k1 vs h0 n0 vv UU'.heap LL ∧ FrameEnd UU oo UU' LL ({ frames := 0, cells := 0, slots := 0, locals := 0 } : Room).cells ({ frames := 0, cells := 0, slots := 0, locals := 0 } : Room).slots) := by
  have W : ∀ {d : Jvm.Cond} (i : Nat), tables_1[i]? = some d → d.before a0 Z = true := fun i h => hw _ (List.mem_of_getElem? h)
  refine MetFree.of_bodySF (plainFor_of_name pn8) hisR ?_
  intro p e s m args below meth c s₁ Bd hml0 hP hK
  obtain ⟨rfl, hZ, hh⟩ := hP
  have hx := Bd.exec
  have hby := Bd.bytes
  have hml : c.maxLocals = 2 := hml0
  have hown : s.vm.findClass "java/lang/StringUTF16" = some m.cls := findClass_of_methodNamed Bd.named
  have hnm := (name_of_methodNamed Bd.named Bd.method).1
  have X0 : Stand p l e ({ frames := 0, cells := 0, slots := 0, locals := 0 } : Room) s m #[(.ref o1), (.int (3 : Int32))] below meth c s₁ [] 0 0 := Stand.of_body Bd
  have e0 : s₁.heap = h0 := by rw [← hh, Bd.state]; rfl
  have N0 := Fr.nil n0
  have pre0 : ∀ tt, Steps p.tables e below (s₁.setTop (mkF m 0 #[rv o1, iv (3 : Int32)] [])) tt → Steps p.tables e below (s₁.setTop (entryFrame m #[(.ref o1), (.int (3 : Int32))] 2)) tt := fun tt kt => castTop (ef8k3 m o1 (3 : Int32)) kt
  obtain ⟨ST, hST⟩ : ∃ z : State, z = s₁.setTop (mkF m 0 #[rv o1, iv (3 : Int32)] []) := ⟨_, rfl⟩
  rw [← hST] at pre0
  have go239 : own_S p e below ST s₁ (mkF m 2 #[rv o1, iv (3 : Int32)] [(.ref o1), (.int (3 : Int32))]) := fun tt kt => (by
      rw [hST]
      show Steps p.tables e below (s₁.setTop (mkF m 0 #[rv o1, iv (3 : Int32)] [])) _
      refine XS.iloadN X0.here hx rfl (hb hby d8_0) rfl ?_
      refine XS.aloadN X0.here hx rfl (hb hby d8_1) rfl rfl ?_
      exact kt)
  obtain ⟨cl240, Ar240, q240, S240, M240, H240, G240⟩ := id V1
  have go241 : own_S p e below ST s₁ (mkF m 3 #[rv o1, iv (3 : Int32)] [(.int (3 : Int32)), (.int (3 : Int32))]) := fun tt kt => go239 tt (by
      refine X0.arraylength hx (by rw [e0]; exact Ar240.1) (State.isArrayOf_alike hZ.alike Ar240.2.1) (g := (mkF m 2 #[rv o1, iv (3 : Int32)] [(.ref o1), (.int (3 : Int32))])) rfl rfl (hb hby d8_2) _ ?_
      rw [len_of S240 M240]
      exact kt)
  have go242 : own_S p e below ST s₁ (mkF m 8 #[rv o1, iv (3 : Int32)] [(.int ((((0 : Int32).toUInt32 >>> ((31 : Int32) &&& 31).toUInt32).toInt32).toInt8.toInt32))]) := fun tt kt => go241 tt (by
      refine XS.isub X0.here hx rfl (hb hby d8_3) rfl ?_
      refine XS.bipush X0.here hx rfl (hb hby d8_4) ?_
      refine XS.iushr X0.here hx rfl (hb hby d8_6) rfl ?_
      refine XS.i2b X0.here hx rfl (hb hby d8_7) rfl ?_
      exact kt)
  obtain ⟨fs, hr, hrun, hended, hW, hsame⟩ := X0.leave (v := some (.int (nar .byte ((((0 : Int32).toUInt32 >>> ((31 : Int32) &&& 31).toUInt32).toInt32).toInt8.toInt32)))) (fun h => by rw [Bd.returns] at h; cases h) (hlocks := by first | exact BodyLoose.notSynchronized Bd | exact Body.notSynchronized Bd)
  refine ⟨_, _, pre0 _ (go242 _ ?_), hrun, hended, _, _, rfl, ?_, ⟨_, rfl⟩, hW, hsame.mono (by decide) (by decide)⟩
  · exact retN X0 hx (t := .byte) Bd.returns (by simp) (hb hby d8_8) hr
  · show Q8k3 Z o1 k1 vs h0 n0 _ s₁.heap _
    rw [e0]
    exact ⟨own_ans (by decide), N0, rfl⟩
theorem ef3k3 (m : MethodId) (x0 : Addr) (x1 : Addr) (x2 : Int32) (x3 : Int32) : entryFrame m #[(.ref x0), (.ref x1), (.int x2), (.int x3), .null] 6 = mkF m 0 #[.val (.ref x0), .val (.ref x1), .val (.int x2), .val (.int x3), .val .null, .unset] [] := by first | (simp [entryFrame, mkF, argsToLocals, Value.category]; done) | rfl
def Q3k3 (Z : State) (o1 : Addr) (o2 : Addr) (k2 : ClassId) (c0 : Int32) (c1 : Int32) (c2 : Int32) (cs : Int32) (h0 : Heap) (n0 : Nat) (v : Option Value) (h : Heap) (L : List Loc) : Prop := ∃ (b : Addr) (kb : ClassId), v = none ∧ Fr n0 L ∧ Keep h0 h [o1] ∧ Fld Z h o1 "java/lang/String" "coder" "B" (.int (0 : Int32)) ∧ Fld Z h o1 "java/lang/String" "value" "[B" (.ref b) ∧ Arv Z h b kb .byte (3 : Int32) [(.int (nar .byte (c0.toInt8.toInt32))), (.int (nar .byte (c1.toInt8.toInt32))), (.int (nar .byte (c2.toInt8.toInt32)))] (.int (0 : Int32))
set_option maxRecDepth 65536 in
set_option maxHeartbeats 40000000 in
theorem rm3k3 (l : Launch) (Z : State) (a0 : Array Value) (hw : ∀ d ∈ tables_1, d.before a0 Z = true) (ws : List Jvm.Cond) (o1 : Addr) (o2 : Addr) (k2 : ClassId) (c0 : Int32) (c1 : Int32) (c2 : Int32) (cs : Int32) (h0 : Heap) (n0 : Nat) (Z0 : n0 ≤ h0.size) (F1 : Fld Z h0 o1 "java/lang/String" "coder" "B" (.int (0 : Int32))) (F2 : Fld Z h0 o1 "java/lang/String" "value" "[B" .null) (E1 : Exa Z h0 o1 "java/lang/String") (g1 : n0 ≤ o1) (V2 : Arv Z h0 o2 k2 .char (3 : Int32) [(.int c0), (.int c1), (.int c2)] (.int (0 : Int32))) (n12 : o1 ≠ o2) (q0 : ¬ (255 : Int32) < c0) (q1 : ¬ (255 : Int32) < c1) (q2 : ¬ (255 : Int32) < c2) (SC : Sta Z Z.heap "java/lang/String" "COMPACT_STRINGS" "Z" (.int cs)) (hcs : ¬ cs = 0) (OL : Old Z n0 h0) :
    MetFree l (⟨"java/lang/String", "<init>", "([CIILjava/lang/Void;)V"⟩ : MethodName) (head1 (Jvm.Cond.code (⟨"java/lang/String", "<init>", "([CIILjava/lang/Void;)V"⟩ : MethodName) jdk_42_method_149_code 6 none :: ws) ({ frames := 2, cells := 1, slots := 3, locals := 35 } : Room)) (fun aa UU => aa = #[(.ref o1), (.ref o2), (.int (0 : Int32)), (.int (3 : Int32)), .null] ∧ Z.Warmed39 UU.vm ∧ UU.heap = h0) (fun _ _ _ _ _ => True) (fun _ UU oo UU' => ∃ vv LL, oo = .returned vv ∧ Q3k3 Z o1 o2 k2 c0 c1 c2 cs h0 n0 vv UU'.heap LL ∧ FrameEnd UU oo UU' LL ({ frames := 2, cells := 1, slots := 3, locals := 35 } : Room).cells ({ frames := 2, cells := 1, slots := 3, locals := 35 } : Room).slots) := by
  have W : ∀ {d : Jvm.Cond} (i : Nat), tables_1[i]? = some d → d.before a0 Z = true := fun i h => hw _ (List.mem_of_getElem? h)
  refine MetFree.of_bodySF (plainFor_of_name pn56) hisR ?_
  intro p e s m args below meth c s₁ Bd hml0 hP hK
  obtain ⟨rfl, hZ, hh⟩ := hP
  have hx := Bd.exec
  have hby := Bd.bytes
  have hml : c.maxLocals = 6 := hml0
  have hown : s.vm.findClass "java/lang/String" = some m.cls := findClass_of_methodNamed Bd.named
  have hnm := (name_of_methodNamed Bd.named Bd.method).1
  have X0 : Stand p l e ({ frames := 2, cells := 1, slots := 3, locals := 35 } : Room) s m #[(.ref o1), (.ref o2), (.int (0 : Int32)), (.int (3 : Int32)), .null] below meth c s₁ [] 0 0 := Stand.of_body Bd
  have e0 : s₁.heap = h0 := by rw [← hh, Bd.state]; rfl
  have N0 := Fr.nil n0
  have pre0 : ∀ tt, Steps p.tables e below (s₁.setTop (mkF m 0 #[rv o1, rv o2, iv (0 : Int32), iv (3 : Int32), .val .null, .unset] [])) tt → Steps p.tables e below (s₁.setTop (entryFrame m #[(.ref o1), (.ref o2), (.int (0 : Int32)), (.int (3 : Int32)), .null] 6)) tt := fun tt kt => castTop (ef3k3 m o1 o2 (0 : Int32) (3 : Int32)) kt
  obtain ⟨ST, hST⟩ : ∃ z : State, z = s₁.setTop (mkF m 0 #[rv o1, rv o2, iv (0 : Int32), iv (3 : Int32), .val .null, .unset] []) := ⟨_, rfl⟩
  rw [← hST] at pre0
  have KC0 : Keep h0 h0 [o1] := Keep.refl h0 [o1]
  have go243 : own_S p e below ST s₁ (mkF m 1 #[rv o1, rv o2, iv (0 : Int32), iv (3 : Int32), .val .null, .unset] [(.ref o1)]) := fun tt kt => (by
      rw [hST]
      show Steps p.tables e below (s₁.setTop (mkF m 0 #[rv o1, rv o2, iv (0 : Int32), iv (3 : Int32), .val .null, .unset] [])) _
      refine XS.aloadN X0.here hx rfl (hb hby d3_0) rfl rfl ?_
      exact kt)
  obtain ⟨T244, X244, e244, st244⟩ := initO X0 hx hZ hown (W 18 rfl) (W 19 rfl) (W 20 rfl) e0 (g := (mkF m 1 #[rv o1, rv o2, iv (0 : Int32), iv (3 : Int32), .val .null, .unset] [(.ref o1)])) rfl (by rw [hml]; rfl) rfl (hb hby d3_1) (by decide) (W := 0) (by show 2 * 0 + _ ≤ _; exact Nat.le_of_eq rfl) (by decide)
  have go245 : own_S p e below ST T244 (mkF m 4 #[rv o1, rv o2, iv (0 : Int32), iv (3 : Int32), .val .null, .unset] []) := fun tt kt => go243 tt (st244 _ kt)
  have go246 : own_S p e below ST T244 (mkF m 27 #[rv o1, rv o2, iv (0 : Int32), iv (3 : Int32), .val .null, .unset] []) := fun tt kt => go245 tt (by
      refine XS.iloadN X244.here hx rfl (hb hby d3_4) rfl ?_
      refine XS.ifYes X244.here hx rfl (pc0 := 5) (pc' := 27) rfl (hb hby d3_5) rfl ((if0 _ _).trans (feq (by decide : ¬ ((3 : Int32) = (0 : Int32)))).2) (by decide) (by decide) ?_
      exact kt)
  obtain ⟨T247, X247, e247, st247⟩ := getS2 X244 hx hZ hown (host := "") (Or.inl (W 32 rfl)) Via.refl e244 (SC.ext OL.2) (g := (mkF m 27 #[rv o1, rv o2, iv (0 : Int32), iv (3 : Int32), .val .null, .unset] [])) rfl (hb hby d3_27)
  have go248 : own_S p e below ST T247 (mkF m 30 #[rv o1, rv o2, iv (0 : Int32), iv (3 : Int32), .val .null, .unset] [(.int cs)]) := fun tt kt => go246 tt (st247 _ kt)
  have go249 : own_S p e below ST T247 (mkF m 36 #[rv o1, rv o2, iv (0 : Int32), iv (3 : Int32), .val .null, .unset] [(.int (3 : Int32)), (.int (0 : Int32)), (.ref o2)]) := fun tt kt => go248 tt (by
      refine XS.ifNo X247.here hx rfl (hb hby d3_30) rfl ((if0 _ _).trans (feq hcs).1) ?_
      refine XS.aloadN X247.here hx rfl (hb hby d3_33) rfl rfl ?_
      refine XS.iloadN X247.here hx rfl (hb hby d3_34) rfl ?_
      refine XS.iloadN X247.here hx rfl (hb hby d3_35) rfl ?_
      exact kt)
  obtain ⟨_, _, ⟨T250, L250, k250, n250⟩, -, X250, ⟨Lc250, hQ250, l250, y250, z250⟩, st250⟩ := Jvm.LawKit.callS X247 hx (y := (⟨"java/lang/StringUTF16", "compress", "([CII)[B"⟩ : MethodName)) hown (mvT hZ (W 33 rfl)) (mvT hZ (W 34 rfl)) (mvT hZ (W 35 rfl)) (mvT hZ (W 36 rfl)) (by decide) (backOf (W := 0) (rm6k3 l Z a0 hw [] o2 k2 c0 c1 c2 h0 n0 Z0 V2 q0 q1 q2) hZ (W 36 rfl) (W 35 rfl) (by decide) (by decide)) (g := (mkF m 36 #[rv o1, rv o2, iv (0 : Int32), iv (3 : Int32), .val .null, .unset] [(.int (3 : Int32)), (.int (0 : Int32)), (.ref o2)])) rfl (by rw [hml]; rfl) (argsL := [(.ref o2), (.int (0 : Int32)), (.int (3 : Int32))]) (rest := []) (lenOf pd67 rfl) rfl (by show 2 * 0 + _ ≤ _; exact Nat.le_of_eq rfl) (hb hby d3_36) (fun _ _ => ⟨rfl, e247, (by decide : 0 + 1 ≤ _), (by decide : 0 + 3 ≤ _)⟩)
  dsimp only [Pt.U, Pt.locs, Pt.cells, Pt.slots] at X250 l250 y250 z250 st250 hQ250
  subst l250 y250 z250
  obtain ⟨b250, kb250, rfl, Nq250, K250, Vb250, gb250, zb250⟩ := hQ250
  have N250 := Fr.app N0 Nq250
  have go251 : own_S p e below ST T250 (mkF m 39 #[rv o1, rv o2, iv (0 : Int32), iv (3 : Int32), .val .null, .unset] [(.ref b250)]) := fun tt kt => go249 tt (st250 _ kt)
  have KC250 : Keep h0 T250.heap [o1] := KC0.trans K250 all0
  have neo1_b250 : o1 ≠ b250 := Nat.ne_of_lt (Nat.lt_of_lt_of_le E1.lt zb250)
  have neo2_b250 : o2 ≠ b250 := Nat.ne_of_lt (Nat.lt_of_lt_of_le V2.lt zb250)
  have go252 : own_S p e below ST T250 (mkF m 45 #[rv o1, rv o2, iv (0 : Int32), iv (3 : Int32), .val .null, rv b250] [(.int (3 : Int32)), (.ref b250), (.ref o1)]) := fun tt kt => go251 tt (by
      refine XS.astore X250.here hx rfl (hb hby d3_39) rfl rfl (l' := #[rv o1, rv o2, iv (0 : Int32), iv (3 : Int32), .val .null, rv b250]) rfl ?_
      refine XS.aloadN X250.here hx rfl (hb hby d3_41) rfl rfl ?_
      refine XS.aload X250.here hx rfl (hb hby d3_42) rfl rfl ?_
      refine XS.iloadN X250.here hx rfl (hb hby d3_44) rfl ?_
      exact kt)
  have zs254 := (Nat.le_trans Z0 K250.1)
  obtain ⟨_, _, ⟨T253, L253, k253, n253⟩, -, X253, ⟨Lc253, hQ253, l253, y253, z253⟩, st253⟩ := Jvm.LawKit.callS X250 hx (y := (⟨"java/lang/StringUTF16", "coderFromArrayLen", "([BI)B"⟩ : MethodName)) hown (mvT hZ (W 40 rfl)) (mvT hZ (W 41 rfl)) (mvT hZ (W 35 rfl)) (mvT hZ (W 42 rfl)) (by decide) (backOf (W := 1) (rm8k3 l Z a0 hw [] b250 kb250 _ T250.heap n0 zs254 Vb250) hZ (W 42 rfl) (W 35 rfl) (by decide) (by decide)) (g := (mkF m 45 #[rv o1, rv o2, iv (0 : Int32), iv (3 : Int32), .val .null, rv b250] [(.int (3 : Int32)), (.ref b250), (.ref o1)])) rfl (by rw [hml]; rfl) (argsL := [(.ref b250), (.int (3 : Int32))]) (rest := [(.ref o1)]) (lenOf pd73 rfl) rfl (by show 2 * 0 + _ ≤ _; exact Nat.le_of_eq rfl) (hb hby d3_45) (fun _ _ => ⟨rfl, rfl, (by decide : 1 + 0 ≤ _), (by decide : 3 + 0 ≤ _)⟩)
  dsimp only [Pt.U, Pt.locs, Pt.cells, Pt.slots] at X253 l253 y253 z253 st253 hQ253
  subst l253 y253 z253
  obtain ⟨rfl, Nq253, eh253⟩ := hQ253
  have N253 := Fr.app N250 Nq253
  have go255 : own_S p e below ST T253 (mkF m 48 #[rv o1, rv o2, iv (0 : Int32), iv (3 : Int32), .val .null, rv b250] [(.int (0 : Int32)), (.ref o1)]) := fun tt kt => go252 tt (st253 _ kt)
  have f257 := (F1.keep K250 nin0)
  have f258 := (E1.keep K250)
  obtain ⟨T256, h256, X256, e256, W256, st256⟩ := putFN X253 hx hZ hown (W 28 rfl) Via.refl eh253 f257 f258 (Or.inr ⟨(W 24 rfl), rfl, hnm⟩) (W 8 rfl) (ty := .byte) (v' := (.int ((0 : Int32).toInt8.toInt32))) (by decide) rfl (fits_nar_byte _) (g := (mkF m 48 #[rv o1, rv o2, iv (0 : Int32), iv (3 : Int32), .val .null, rv b250] [(.int (0 : Int32)), (.ref o1)])) rfl rfl (hb hby d3_48)
  have Fw256 := f257.same W256
  have N256 := Fr.snoc X256 N253 g1
  have go259 : own_S p e below ST T256 (mkF m 51 #[rv o1, rv o2, iv (0 : Int32), iv (3 : Int32), .val .null, rv b250] []) := fun tt kt => go255 tt (st256 _ kt)
  have KC256 : Keep h0 h256 [o1] := KC250.wr W256 (Or.inl (List.mem_of_getElem? (i := 0) rfl))
  have go260 : own_S p e below ST T256 (mkF m 54 #[rv o1, rv o2, iv (0 : Int32), iv (3 : Int32), .val .null, rv b250] [(.ref b250), (.ref o1)]) := fun tt kt => go259 tt (by
      refine XS.aloadN X256.here hx rfl (hb hby d3_51) rfl rfl ?_
      refine XS.aload X256.here hx rfl (hb hby d3_52) rfl rfl ?_
      exact kt)
  have f262 := ((F2.keep K250 nin0).other W256 (Or.inr (slot_ne (Or.inr (W 23 rfl)) (Or.inr (W 24 rfl)) (by decide) (t := (.array .byte)) (t' := .byte) (by decide) (by decide))))
  have f263 := (f258.wr W256)
  obtain ⟨T261, h261, X261, e261, W261, st261⟩ := putF X256 hx hZ hown (host := "") (Or.inl (W 27 rfl)) Via.refl e256 f262 f263 (Or.inr ⟨(W 23 rfl), rfl, hnm⟩) (W 8 rfl) (ty := (.array .byte)) (by decide) rfl rfl (g := (mkF m 54 #[rv o1, rv o2, iv (0 : Int32), iv (3 : Int32), .val .null, rv b250] [(.ref b250), (.ref o1)])) rfl rfl (hb hby d3_54)
  have Fw261 := f262.same W261
  have N261 := Fr.snoc X261 N256 g1
  have go264 : own_S p e below ST T261 (mkF m 57 #[rv o1, rv o2, iv (0 : Int32), iv (3 : Int32), .val .null, rv b250] []) := fun tt kt => go260 tt (st261 _ kt)
  have KC261 : Keep h0 h261 [o1] := KC256.wr W261 (Or.inl (List.mem_of_getElem? (i := 0) rfl))
  have f265 := (Fw256.other W261 (Or.inr (slot_ne (Or.inr (W 24 rfl)) (Or.inr (W 23 rfl)) (by decide) (t := .byte) (t' := (.array .byte)) (by decide) (by decide))))
  have f266 := ((Vb250.other W256 (Ne.symm neo1_b250)).other W261 (Ne.symm neo1_b250))
  obtain ⟨fs, hr, hrun, hended, hW, hsame⟩ := X261.leave (v := none) (fun _ => rfl) (hlocks := by first | exact BodyLoose.notSynchronized Bd | exact Body.notSynchronized Bd)
  refine ⟨_, _, pre0 _ (go264 _ ?_), hrun, hended, _, _, rfl, ?_, ⟨_, rfl⟩, hW, hsame.mono (by decide) (by decide)⟩
  · exact X261.returnOut hx Bd.returns (hb hby d3_57) hr
  · show Q3k3 Z o1 o2 k2 c0 c1 c2 cs h0 n0 _ T261.heap _
    rw [e261]
    exact ⟨b250, kb250, rfl, N261, KC261, own_cf f265, Fw261, f266⟩
theorem ef2k3 (m : MethodId) (x0 : Addr) (x1 : Addr) : entryFrame m #[(.ref x0), (.ref x1)] 2 = mkF m 0 #[.val (.ref x0), .val (.ref x1)] [] := by first | (simp [entryFrame, mkF, argsToLocals, Value.category]; done) | rfl
def Q2k3 (Z : State) (o1 : Addr) (o2 : Addr) (k2 : ClassId) (c0 : Int32) (c1 : Int32) (c2 : Int32) (cs : Int32) (h0 : Heap) (n0 : Nat) (v : Option Value) (h : Heap) (L : List Loc) : Prop := ∃ (b : Addr) (kb : ClassId), v = none ∧ Fr n0 L ∧ Keep h0 h [o1] ∧ Fld Z h o1 "java/lang/String" "coder" "B" (.int (0 : Int32)) ∧ Fld Z h o1 "java/lang/String" "value" "[B" (.ref b) ∧ Arv Z h b kb .byte (3 : Int32) [(.int (nar .byte (c0.toInt8.toInt32))), (.int (nar .byte (c1.toInt8.toInt32))), (.int (nar .byte (c2.toInt8.toInt32)))] (.int (0 : Int32))
set_option maxRecDepth 65536 in
set_option maxHeartbeats 40000000 in
theorem rm2k3 (l : Launch) (Z : State) (a0 : Array Value) (hw : ∀ d ∈ tables_1, d.before a0 Z = true) (ws : List Jvm.Cond) (o1 : Addr) (o2 : Addr) (k2 : ClassId) (c0 : Int32) (c1 : Int32) (c2 : Int32) (cs : Int32) (h0 : Heap) (n0 : Nat) (Z0 : n0 ≤ h0.size) (F1 : Fld Z h0 o1 "java/lang/String" "coder" "B" (.int (0 : Int32))) (F2 : Fld Z h0 o1 "java/lang/String" "value" "[B" .null) (E1 : Exa Z h0 o1 "java/lang/String") (g1 : n0 ≤ o1) (V2 : Arv Z h0 o2 k2 .char (3 : Int32) [(.int c0), (.int c1), (.int c2)] (.int (0 : Int32))) (n12 : o1 ≠ o2) (q0 : ¬ (255 : Int32) < c0) (q1 : ¬ (255 : Int32) < c1) (q2 : ¬ (255 : Int32) < c2) (SC : Sta Z Z.heap "java/lang/String" "COMPACT_STRINGS" "Z" (.int cs)) (hcs : ¬ cs = 0) (OL : Old Z n0 h0) :
    MetFree l (⟨"java/lang/String", "<init>", "([C)V"⟩ : MethodName) (head1 (Jvm.Cond.code (⟨"java/lang/String", "<init>", "([C)V"⟩ : MethodName) jdk_42_method_3_code 2 none :: ws) ({ frames := 3, cells := 1, slots := 3, locals := 52 } : Room)) (fun aa UU => aa = #[(.ref o1), (.ref o2)] ∧ Z.Warmed39 UU.vm ∧ UU.heap = h0) (fun _ _ _ _ _ => True) (fun _ UU oo UU' => ∃ vv LL, oo = .returned vv ∧ Q2k3 Z o1 o2 k2 c0 c1 c2 cs h0 n0 vv UU'.heap LL ∧ FrameEnd UU oo UU' LL ({ frames := 3, cells := 1, slots := 3, locals := 52 } : Room).cells ({ frames := 3, cells := 1, slots := 3, locals := 52 } : Room).slots) := by
  have W : ∀ {d : Jvm.Cond} (i : Nat), tables_1[i]? = some d → d.before a0 Z = true := fun i h => hw _ (List.mem_of_getElem? h)
  refine MetFree.of_bodySF (plainFor_of_name pn56) hisR ?_
  intro p e s m args below meth c s₁ Bd hml0 hP hK
  obtain ⟨rfl, hZ, hh⟩ := hP
  have hx := Bd.exec
  have hby := Bd.bytes
  have hml : c.maxLocals = 2 := hml0
  have hown : s.vm.findClass "java/lang/String" = some m.cls := findClass_of_methodNamed Bd.named
  have hnm := (name_of_methodNamed Bd.named Bd.method).1
  have X0 : Stand p l e ({ frames := 3, cells := 1, slots := 3, locals := 52 } : Room) s m #[(.ref o1), (.ref o2)] below meth c s₁ [] 0 0 := Stand.of_body Bd
  have e0 : s₁.heap = h0 := by rw [← hh, Bd.state]; rfl
  have N0 := Fr.nil n0
  have pre0 : ∀ tt, Steps p.tables e below (s₁.setTop (mkF m 0 #[rv o1, rv o2] [])) tt → Steps p.tables e below (s₁.setTop (entryFrame m #[(.ref o1), (.ref o2)] 2)) tt := fun tt kt => castTop (ef2k3 m o1 o2) kt
  obtain ⟨ST, hST⟩ : ∃ z : State, z = s₁.setTop (mkF m 0 #[rv o1, rv o2] []) := ⟨_, rfl⟩
  rw [← hST] at pre0
  have KC0 : Keep h0 h0 [o1] := Keep.refl h0 [o1]
  have go267 : own_S p e below ST s₁ (mkF m 4 #[rv o1, rv o2] [(.ref o2), (.int (0 : Int32)), (.ref o2), (.ref o1)]) := fun tt kt => (by
      rw [hST]
      show Steps p.tables e below (s₁.setTop (mkF m 0 #[rv o1, rv o2] [])) _
      refine XS.aloadN X0.here hx rfl (hb hby d2_0) rfl rfl ?_
      refine XS.aloadN X0.here hx rfl (hb hby d2_1) rfl rfl ?_
      refine XS.iconst X0.here hx rfl (hb hby d2_2) ?_
      refine XS.aloadN X0.here hx rfl (hb hby d2_3) rfl rfl ?_
      exact kt)
  obtain ⟨cl268, Ar268, q268, S268, M268, H268, G268⟩ := id V2
  have go269 : own_S p e below ST s₁ (mkF m 5 #[rv o1, rv o2] [(.int (3 : Int32)), (.int (0 : Int32)), (.ref o2), (.ref o1)]) := fun tt kt => go267 tt (by
      refine X0.arraylength hx (by rw [e0]; exact Ar268.1) (State.isArrayOf_alike hZ.alike Ar268.2.1) (g := (mkF m 4 #[rv o1, rv o2] [(.ref o2), (.int (0 : Int32)), (.ref o2), (.ref o1)])) rfl rfl (hb hby d2_4) _ ?_
      rw [len_of S268 M268]
      exact kt)
  have go270 : own_S p e below ST s₁ (mkF m 6 #[rv o1, rv o2] [.null, (.int (3 : Int32)), (.int (0 : Int32)), (.ref o2), (.ref o1)]) := fun tt kt => go269 tt (by
      refine XS.aconstNull X0.here hx rfl (hb hby d2_5) ?_
      exact kt)
  obtain ⟨_, _, ⟨T271, L271, k271, n271⟩, -, X271, ⟨Lc271, hQ271, l271, y271, z271⟩, st271⟩ := X0.specialBack hx (y := (⟨"java/lang/String", "<init>", "([CIILjava/lang/Void;)V"⟩ : MethodName)) rfl hown (mvT hZ (W 14 rfl)) (mvT hZ (W 15 rfl)) (mvT hZ (W 17 rfl)) (by decide) (backOf (W := 0) (rm3k3 l Z a0 hw [] o1 o2 k2 c0 c1 c2 cs h0 n0 Z0 F1 F2 E1 g1 V2 n12 q0 q1 q2 SC hcs OL) hZ (W 17 rfl) (W 9 rfl) (by decide) (by decide)) (g := (mkF m 6 #[rv o1, rv o2] [.null, (.int (3 : Int32)), (.int (0 : Int32)), (.ref o2), (.ref o1)])) rfl (by rw [hml]; rfl) (Steps.refl _) (a := o1) (argsL := [(.ref o2), (.int (0 : Int32)), (.int (3 : Int32)), .null]) (rest := []) (lenOf pd86 rfl) rfl (by show 2 * 0 + _ ≤ _; exact Nat.le_of_eq rfl) (hb hby d2_6) (fun _ _ => ⟨rfl, e0, (by decide : 0 + 1 ≤ _), (by decide : 0 + 3 ≤ _)⟩)
  dsimp only [Pt.U, Pt.locs, Pt.cells, Pt.slots] at X271 l271 y271 z271 st271 hQ271
  subst l271 y271 z271
  obtain ⟨b271, kb271, rfl, Nq271, K271, Fa271, Fb271, Vb271⟩ := hQ271
  have N271 := Fr.app N0 Nq271
  have go272 : own_S p e below ST T271 (mkF m 9 #[rv o1, rv o2] []) := fun tt kt => go270 tt (st271.trans kt)
  have KC271 : Keep h0 T271.heap [o1] := KC0.trans K271 (allS (Or.inl (List.mem_of_getElem? (i := 0) rfl)) all0)
  obtain ⟨fs, hr, hrun, hended, hW, hsame⟩ := X271.leave (v := none) (fun _ => rfl) (hlocks := by first | exact BodyLoose.notSynchronized Bd | exact Body.notSynchronized Bd)
  refine ⟨_, _, pre0 _ (go272 _ ?_), hrun, hended, _, _, rfl, ?_, ⟨_, rfl⟩, hW, hsame.mono (by decide) (by decide)⟩
  · exact X271.returnOut hx Bd.returns (hb hby d2_9) hr
  · show Q2k3 Z o1 o2 k2 c0 c1 c2 cs h0 n0 _ T271.heap _
    exact ⟨b271, kb271, rfl, N271, KC271, Fa271, Fb271, Vb271⟩
theorem d3_8 : decode jdk_42_method_149_code 8 = .ok (.aload_n 0, 1) := by decide +kernel
theorem d3_9 : decode jdk_42_method_149_code 9 = .ok (.ldc 7, 2) := by decide +kernel
theorem d3_11 : decode jdk_42_method_149_code 11 = .ok (.getfield 9, 3) := by decide +kernel
theorem d3_14 : decode jdk_42_method_149_code 14 = .ok (.putfield 9, 3) := by decide +kernel
theorem d3_17 : decode jdk_42_method_149_code 17 = .ok (.aload_n 0, 1) := by decide +kernel
theorem d3_18 : decode jdk_42_method_149_code 18 = .ok (.ldc 7, 2) := by decide +kernel
theorem d3_20 : decode jdk_42_method_149_code 20 = .ok (.getfield 15, 3) := by decide +kernel
theorem d3_23 : decode jdk_42_method_149_code 23 = .ok (.putfield 15, 3) := by decide +kernel
theorem d3_26 : decode jdk_42_method_149_code 26 = .ok (.return_, 1) := by decide +kernel
theorem ef3k0 (m : MethodId) (x0 : Addr) (x1 : Addr) (x2 : Int32) (x3 : Int32) : entryFrame m #[(.ref x0), (.ref x1), (.int x2), (.int x3), .null] 6 = mkF m 0 #[.val (.ref x0), .val (.ref x1), .val (.int x2), .val (.int x3), .val .null, .unset] [] := by first | (simp [entryFrame, mkF, argsToLocals, Value.category]; done) | rfl
def Q3k0 (Z : State) (o1 : Addr) (o2 : Addr) (k2 : ClassId) (h0 : Heap) (n0 : Nat) (v : Option Value) (h : Heap) (L : List Loc) : Prop := ∃ (b : Addr) (kb : ClassId), v = none ∧ Fr n0 L ∧ Keep h0 h [o1] ∧ Fld Z h o1 "java/lang/String" "coder" "B" (.int (0 : Int32)) ∧ Fld Z h o1 "java/lang/String" "value" "[B" (.ref b) ∧ Arv Z h b kb .byte (0 : Int32) [] (.int (0 : Int32))
set_option maxRecDepth 65536 in
set_option maxHeartbeats 40000000 in
theorem rm3k0 (l : Launch) (Z : State) (a0 : Array Value) (hw : ∀ d ∈ tables_1, d.before a0 Z = true) (ws : List Jvm.Cond) (o1 : Addr) (o2 : Addr) (k2 : ClassId) (h0 : Heap) (n0 : Nat) (Z0 : n0 ≤ h0.size) (F1 : Fld Z h0 o1 "java/lang/String" "coder" "B" (.int (0 : Int32))) (F2 : Fld Z h0 o1 "java/lang/String" "value" "[B" .null) (E1 : Exa Z h0 o1 "java/lang/String") (g1 : n0 ≤ o1) (V2 : Arv Z h0 o2 k2 .char (0 : Int32) [] (.int (0 : Int32))) (n12 : o1 ≠ o2) :
    MetFree l (⟨"java/lang/String", "<init>", "([CIILjava/lang/Void;)V"⟩ : MethodName) (head1 (Jvm.Cond.code (⟨"java/lang/String", "<init>", "([CIILjava/lang/Void;)V"⟩ : MethodName) jdk_42_method_149_code 6 none :: ws) ({ frames := 1, cells := 2, slots := 4, locals := 12 } : Room)) (fun aa UU => aa = #[(.ref o1), (.ref o2), (.int (0 : Int32)), (.int (0 : Int32)), .null] ∧ Z.Warmed39 UU.vm ∧ UU.heap = h0 ∧ CHv Z own_EL UU.vm h0) (fun _ _ _ _ _ => True) (fun _ UU oo UU' => ∃ vv LL, oo = .returned vv ∧ Q3k0 Z o1 o2 k2 h0 n0 vv UU'.heap LL ∧ CHr Z own_EL UU.vm UU.heap UU'.vm UU'.heap ∧ ReturnedEndW UU oo UU' LL ({ frames := 1, cells := 2, slots := 4, locals := 12 } : Room).cells ({ frames := 1, cells := 2, slots := 4, locals := 12 } : Room).slots) := by
  have W : ∀ {d : Jvm.Cond} (i : Nat), tables_1[i]? = some d → d.before a0 Z = true := fun i h => hw _ (List.mem_of_getElem? h)
  refine MetFree.of_bodySF (plainFor_of_name pn56) hisR ?_
  intro p e s m args below meth c s₁ Bd hml0 hP hK
  obtain ⟨rfl, hZ, hh, hC⟩ := hP
  have hx := Bd.exec
  have hby := Bd.bytes
  have hml : c.maxLocals = 6 := hml0
  have hown : s.vm.findClass "java/lang/String" = some m.cls := findClass_of_methodNamed Bd.named
  have hnm := (name_of_methodNamed Bd.named Bd.method).1
  have X0 : Stand p l e ({ frames := 1, cells := 2, slots := 4, locals := 12 } : Room) (s.setVm s.vm) m #[(.ref o1), (.ref o2), (.int (0 : Int32)), (.int (0 : Int32)), .null] below meth c s₁ [] 0 0 := Stand.of_body Bd
  have e0 : s₁.heap = h0 := by rw [← hh, Bd.state]; rfl
  have N0 := Fr.nil n0
  have pre0 : ∀ tt, Steps p.tables e below (s₁.setTop (mkF m 0 #[rv o1, rv o2, iv (0 : Int32), iv (0 : Int32), .val .null, .unset] [])) tt → Steps p.tables e below (s₁.setTop (entryFrame m #[(.ref o1), (.ref o2), (.int (0 : Int32)), (.int (0 : Int32)), .null] 6)) tt := fun tt kt => castTop (ef3k0 m o1 o2 (0 : Int32) (0 : Int32)) kt
  obtain ⟨ST, hST⟩ : ∃ z : State, z = s₁.setTop (mkF m 0 #[rv o1, rv o2, iv (0 : Int32), iv (0 : Int32), .val .null, .unset] []) := ⟨_, rfl⟩
  rw [← hST] at pre0
  have hZ : Z.Warmed39 (s.setVm s.vm).vm := hZ
  have hown : (s.setVm s.vm).vm.findClass "java/lang/String" = some m.cls := hown
  have hS0 : s.Since s.vm s.heap.size := (State.WarmedH.refl s).since _
  have hk0 : s.heap.size ≤ h0.size := Nat.le_of_eq (congrArg Array.size hh)
  have hEL := own_ew hw
  have hWS := own_WS hw
  have CR0 : CHr Z own_EL s.vm h0 s.vm h0 := CHr.refl hC
  have KC0 : Keep h0 h0 [o1] := Keep.refl h0 [o1]
  have go273 : own_S p e below ST s₁ (mkF m 1 #[rv o1, rv o2, iv (0 : Int32), iv (0 : Int32), .val .null, .unset] [(.ref o1)]) := fun tt kt => (by
      rw [hST]
      show Steps p.tables e below (s₁.setTop (mkF m 0 #[rv o1, rv o2, iv (0 : Int32), iv (0 : Int32), .val .null, .unset] [])) _
      refine XS.aloadN X0.here hx rfl (hb hby d3_0) rfl rfl ?_
      exact kt)
  obtain ⟨T274, X274, e274, st274⟩ := initO X0 hx hZ hown (W 18 rfl) (W 19 rfl) (W 20 rfl) e0 (g := (mkF m 1 #[rv o1, rv o2, iv (0 : Int32), iv (0 : Int32), .val .null, .unset] [(.ref o1)])) rfl (by rw [hml]; rfl) rfl (hb hby d3_1) (by decide) (W := 0) (by show 2 * 0 + _ ≤ _; exact Nat.le_of_eq rfl) (by decide)
  have go275 : own_S p e below ST T274 (mkF m 4 #[rv o1, rv o2, iv (0 : Int32), iv (0 : Int32), .val .null, .unset] []) := fun tt kt => go273 tt (st274 _ kt)
  have go276 : own_S p e below ST T274 (mkF m 9 #[rv o1, rv o2, iv (0 : Int32), iv (0 : Int32), .val .null, .unset] [(.ref o1)]) := fun tt kt => go275 tt (by
      refine XS.iloadN X274.here hx rfl (hb hby d3_4) rfl ?_
      refine XS.ifNo X274.here hx rfl (hb hby d3_5) rfl ((if0 _ _).trans (teq (by decide : (0 : Int32) = (0 : Int32))).2) ?_
      refine XS.aloadN X274.here hx rfl (hb hby d3_8) rfl rfl ?_
      exact kt)
  obtain ⟨a277, T277, h277, k277, b277, kb277, X277, e277, E277, hS277, hk277, hZ, hown, Ea277, Fc277, Fv277, Vb277, -, -, C277, Li277, Sa277, st277⟩ := ldcCH (s := s) (vm0 := s.vm) X274 hx hZ hown (W 21 rfl) hWS e274 hS0 hk0 hEL (List.mem_singleton.mpr rfl) CR0.1 (vs := []) (z := 0) ⟨by decide, rfl⟩ (by decide) (by decide) (g := (mkF m 9 #[rv o1, rv o2, iv (0 : Int32), iv (0 : Int32), .val .null, .unset] [(.ref o1)])) rfl (hb hby d3_9) (n := 0) (by decide) (by decide) (by decide) (by decide)
  have KC277 : Keep h0 h277 [o1] := KC0.ext E277
  have CR277 := CR0.trans (C277)
  have f279 := (E1.ext E277)
  have f280 := (F2.ext E277)
  have Sf278 : Safe Z own_EL T277.vm h277 o1 := own_safeN hZ f279 f280
  have na277 := Sa277 _ Sf278
  have go281 : own_S p e below ST T277 (mkF m 11 #[rv o1, rv o2, iv (0 : Int32), iv (0 : Int32), .val .null, .unset] [(.ref a277), (.ref o1)]) := fun tt kt => go276 tt (st277 _ kt)
  obtain ⟨T282, X282, e282, st282⟩ := getF X277 hx hZ hown (host := "") (Or.inl (W 27 rfl)) Via.refl e277 Fv277 (g := (mkF m 11 #[rv o1, rv o2, iv (0 : Int32), iv (0 : Int32), .val .null, .unset] [(.ref a277), (.ref o1)])) rfl rfl (hb hby d3_11)
  have go283 : own_S p e below ST T282 (mkF m 14 #[rv o1, rv o2, iv (0 : Int32), iv (0 : Int32), .val .null, .unset] [(.ref b277), (.ref o1)]) := fun tt kt => go281 tt (st282 _ kt)
  have Sf284 : Safe Z own_EL T277.vm h277 o1 := own_safeN hZ f279 f280
  obtain ⟨T285, h285, X285, e285, W285, st285⟩ := putF X282 hx hZ hown (host := "") (Or.inl (W 27 rfl)) Via.refl e282 f280 f279 (Or.inr ⟨(W 23 rfl), rfl, hnm⟩) (W 8 rfl) (ty := (.array .byte)) (by decide) rfl rfl (g := (mkF m 14 #[rv o1, rv o2, iv (0 : Int32), iv (0 : Int32), .val .null, .unset] [(.ref b277), (.ref o1)])) rfl rfl (hb hby d3_14)
  have Fw285 := f280.same W285
  have N285 := Fr.snoc X285 N0 g1
  have go286 : own_S p e below ST T285 (mkF m 17 #[rv o1, rv o2, iv (0 : Int32), iv (0 : Int32), .val .null, .unset] []) := fun tt kt => go283 tt (st285 _ kt)
  have KC285 : Keep h0 h285 [o1] := KC277.wr W285 (Or.inl (List.mem_of_getElem? (i := 0) rfl))
  have CR285 := CR277.trans (CHr.wr W285 Sf284 CR277.1)
  have hk285 := Nat.le_trans hk277 ((Keep.of_wr W285).1)
  have Sg285 := Safe.wr W285 Sf284 CR277.1 Sf284
  have go287 : own_S p e below ST T285 (mkF m 18 #[rv o1, rv o2, iv (0 : Int32), iv (0 : Int32), .val .null, .unset] [(.ref o1)]) := fun tt kt => go286 tt (by
      refine XS.aloadN X285.here hx rfl (hb hby d3_17) rfl rfl ?_
      exact kt)
  have st288 := ldcAgain X285 hx hZ hown (W 21 rfl) Li277 (g := (mkF m 18 #[rv o1, rv o2, iv (0 : Int32), iv (0 : Int32), .val .null, .unset] [(.ref o1)])) rfl (hb hby d3_18)
  have go289 : own_S p e below ST T285 (mkF m 20 #[rv o1, rv o2, iv (0 : Int32), iv (0 : Int32), .val .null, .unset] [(.ref a277), (.ref o1)]) := fun tt kt => go287 tt (st288 _ kt)
  have f290 := (Fc277.other W285 (Or.inl (Ne.symm na277.1)))
  obtain ⟨T291, X291, e291, st291⟩ := getF X285 hx hZ hown (host := "") (Or.inl (W 28 rfl)) Via.refl e285 f290 (g := (mkF m 20 #[rv o1, rv o2, iv (0 : Int32), iv (0 : Int32), .val .null, .unset] [(.ref a277), (.ref o1)])) rfl rfl (hb hby d3_20)
  have go292 : own_S p e below ST T291 (mkF m 23 #[rv o1, rv o2, iv (0 : Int32), iv (0 : Int32), .val .null, .unset] [(.int (0 : Int32)), (.ref o1)]) := fun tt kt => go289 tt (st291 _ kt)
  have f294 := ((F1.ext E277).other W285 (Or.inr (slot_ne (Or.inr (W 24 rfl)) (Or.inr (W 23 rfl)) (by decide) (t := .byte) (t' := (.array .byte)) (by decide) (by decide))))
  have f295 := (f279.wr W285)
  obtain ⟨T293, h293, X293, e293, W293, st293⟩ := putFN X291 hx hZ hown (W 28 rfl) Via.refl e291 f294 f295 (Or.inr ⟨(W 24 rfl), rfl, hnm⟩) (W 8 rfl) (ty := .byte) (v' := (.int ((0 : Int32).toInt8.toInt32))) (by decide) rfl (fits_nar_byte _) (g := (mkF m 23 #[rv o1, rv o2, iv (0 : Int32), iv (0 : Int32), .val .null, .unset] [(.int (0 : Int32)), (.ref o1)])) rfl rfl (hb hby d3_23)
  have Fw293 := f294.same W293
  have N293 := Fr.snoc X293 N285 g1
  have go296 : own_S p e below ST T293 (mkF m 26 #[rv o1, rv o2, iv (0 : Int32), iv (0 : Int32), .val .null, .unset] []) := fun tt kt => go292 tt (st293 _ kt)
  have KC293 : Keep h0 h293 [o1] := KC285.wr W293 (Or.inl (List.mem_of_getElem? (i := 0) rfl))
  have CR293 := CR285.trans (CHr.wr W293 Sg285 CR285.1)
  have hk293 := Nat.le_trans hk285 ((Keep.of_wr W293).1)
  have Sg293 := Safe.wr W293 Sg285 CR285.1 Sg285
  have f297 := (Fw285.other W293 (Or.inr (slot_ne (Or.inr (W 23 rfl)) (Or.inr (W 24 rfl)) (by decide) (t := (.array .byte)) (t' := .byte) (by decide) (by decide))))
  have f298 := ((Vb277.other W285 (Ne.symm na277.2)).other W293 (Ne.symm na277.2))
  obtain ⟨fs, hr, hrun, hended, hend⟩ := X293.leaveW (s := s) (vm₁ := T277.vm) hS277 (by rw [e293]; exact hk293) (v := none) (fun _ => rfl) (hlocks := by first | exact BodyLoose.notSynchronized Bd | exact Body.notSynchronized Bd)
  refine ⟨_, _, pre0 _ (go296 _ ?_), hrun, hended, _, _, rfl, ?_, ?_, hend.1, hend.2.1, hend.2.2.1, hend.2.2.2.mono (by decide) (by decide)⟩
  · exact X293.returnOut hx Bd.returns (hb hby d3_26) hr
  · show Q3k0 Z o1 o2 k2 h0 n0 _ T293.heap _
    rw [e293]
    exact ⟨b277, kb277, rfl, N293, KC293, own_cf Fw293, f297, f298⟩
  · show CHr Z own_EL s.vm s.heap T293.vm T293.heap
    exact own_cr hh e293 (CR293.trans (CHv.at X293 hZ hEL CR293.1))
theorem ef2k0 (m : MethodId) (x0 : Addr) (x1 : Addr) : entryFrame m #[(.ref x0), (.ref x1)] 2 = mkF m 0 #[.val (.ref x0), .val (.ref x1)] [] := by first | (simp [entryFrame, mkF, argsToLocals, Value.category]; done) | rfl
def Q2k0 (Z : State) (o1 : Addr) (o2 : Addr) (k2 : ClassId) (h0 : Heap) (n0 : Nat) (v : Option Value) (h : Heap) (L : List Loc) : Prop := ∃ (b : Addr) (kb : ClassId), v = none ∧ Fr n0 L ∧ Keep h0 h [o1] ∧ Fld Z h o1 "java/lang/String" "coder" "B" (.int (0 : Int32)) ∧ Fld Z h o1 "java/lang/String" "value" "[B" (.ref b) ∧ Arv Z h b kb .byte (0 : Int32) [] (.int (0 : Int32))
set_option maxRecDepth 65536 in
set_option maxHeartbeats 40000000 in
theorem rm2k0 (l : Launch) (Z : State) (a0 : Array Value) (hw : ∀ d ∈ tables_1, d.before a0 Z = true) (ws : List Jvm.Cond) (o1 : Addr) (o2 : Addr) (k2 : ClassId) (h0 : Heap) (n0 : Nat) (Z0 : n0 ≤ h0.size) (F1 : Fld Z h0 o1 "java/lang/String" "coder" "B" (.int (0 : Int32))) (F2 : Fld Z h0 o1 "java/lang/String" "value" "[B" .null) (E1 : Exa Z h0 o1 "java/lang/String") (g1 : n0 ≤ o1) (V2 : Arv Z h0 o2 k2 .char (0 : Int32) [] (.int (0 : Int32))) (n12 : o1 ≠ o2) :
    MetFree l (⟨"java/lang/String", "<init>", "([C)V"⟩ : MethodName) (head1 (Jvm.Cond.code (⟨"java/lang/String", "<init>", "([C)V"⟩ : MethodName) jdk_42_method_3_code 2 none :: ws) ({ frames := 2, cells := 2, slots := 4, locals := 29 } : Room)) (fun aa UU => aa = #[(.ref o1), (.ref o2)] ∧ Z.Warmed39 UU.vm ∧ UU.heap = h0 ∧ CHv Z own_EL UU.vm h0) (fun _ _ _ _ _ => True) (fun _ UU oo UU' => ∃ vv LL, oo = .returned vv ∧ Q2k0 Z o1 o2 k2 h0 n0 vv UU'.heap LL ∧ CHr Z own_EL UU.vm UU.heap UU'.vm UU'.heap ∧ ReturnedEndW UU oo UU' LL ({ frames := 2, cells := 2, slots := 4, locals := 29 } : Room).cells ({ frames := 2, cells := 2, slots := 4, locals := 29 } : Room).slots) := by
  have W : ∀ {d : Jvm.Cond} (i : Nat), tables_1[i]? = some d → d.before a0 Z = true := fun i h => hw _ (List.mem_of_getElem? h)
  refine MetFree.of_bodySF (plainFor_of_name pn56) hisR ?_
  intro p e s m args below meth c s₁ Bd hml0 hP hK
  obtain ⟨rfl, hZ, hh, hC⟩ := hP
  have hx := Bd.exec
  have hby := Bd.bytes
  have hml : c.maxLocals = 2 := hml0
  have hown : s.vm.findClass "java/lang/String" = some m.cls := findClass_of_methodNamed Bd.named
  have hnm := (name_of_methodNamed Bd.named Bd.method).1
  have X0 : Stand p l e ({ frames := 2, cells := 2, slots := 4, locals := 29 } : Room) (s.setVm s.vm) m #[(.ref o1), (.ref o2)] below meth c s₁ [] 0 0 := Stand.of_body Bd
  have e0 : s₁.heap = h0 := by rw [← hh, Bd.state]; rfl
  have N0 := Fr.nil n0
  have pre0 : ∀ tt, Steps p.tables e below (s₁.setTop (mkF m 0 #[rv o1, rv o2] [])) tt → Steps p.tables e below (s₁.setTop (entryFrame m #[(.ref o1), (.ref o2)] 2)) tt := fun tt kt => castTop (ef2k0 m o1 o2) kt
  obtain ⟨ST, hST⟩ : ∃ z : State, z = s₁.setTop (mkF m 0 #[rv o1, rv o2] []) := ⟨_, rfl⟩
  rw [← hST] at pre0
  have hZ : Z.Warmed39 (s.setVm s.vm).vm := hZ
  have hown : (s.setVm s.vm).vm.findClass "java/lang/String" = some m.cls := hown
  have hS0 : s.Since s.vm s.heap.size := (State.WarmedH.refl s).since _
  have hk0 : s.heap.size ≤ h0.size := Nat.le_of_eq (congrArg Array.size hh)
  have hEL := own_ew hw
  have hWS := own_WS hw
  have CR0 : CHr Z own_EL s.vm h0 s.vm h0 := CHr.refl hC
  have KC0 : Keep h0 h0 [o1] := Keep.refl h0 [o1]
  have go299 : own_S p e below ST s₁ (mkF m 4 #[rv o1, rv o2] [(.ref o2), (.int (0 : Int32)), (.ref o2), (.ref o1)]) := fun tt kt => (by
      rw [hST]
      show Steps p.tables e below (s₁.setTop (mkF m 0 #[rv o1, rv o2] [])) _
      refine XS.aloadN X0.here hx rfl (hb hby d2_0) rfl rfl ?_
      refine XS.aloadN X0.here hx rfl (hb hby d2_1) rfl rfl ?_
      refine XS.iconst X0.here hx rfl (hb hby d2_2) ?_
      refine XS.aloadN X0.here hx rfl (hb hby d2_3) rfl rfl ?_
      exact kt)
  obtain ⟨cl300, Ar300, q300, S300, M300, H300, G300⟩ := id V2
  have go301 : own_S p e below ST s₁ (mkF m 5 #[rv o1, rv o2] [(.int (0 : Int32)), (.int (0 : Int32)), (.ref o2), (.ref o1)]) := fun tt kt => go299 tt (by
      refine X0.arraylength hx (by rw [e0]; exact Ar300.1) (State.isArrayOf_alike hZ.alike Ar300.2.1) (g := (mkF m 4 #[rv o1, rv o2] [(.ref o2), (.int (0 : Int32)), (.ref o2), (.ref o1)])) rfl rfl (hb hby d2_4) _ ?_
      rw [len_of S300 M300]
      exact kt)
  have go302 : own_S p e below ST s₁ (mkF m 6 #[rv o1, rv o2] [.null, (.int (0 : Int32)), (.int (0 : Int32)), (.ref o2), (.ref o1)]) := fun tt kt => go301 tt (by
      refine XS.aconstNull X0.here hx rfl (hb hby d2_5) ?_
      exact kt)
  obtain ⟨_, _, ⟨T303, L303, k303, n303⟩, -, X303, S303, g303, ⟨Lc303, hQ303, l303, y303, z303, C303⟩, st303⟩ := X0.specialBackS hx (y := (⟨"java/lang/String", "<init>", "([CIILjava/lang/Void;)V"⟩ : MethodName)) rfl hown (mvT hZ (W 14 rfl)) (mvT hZ (W 15 rfl)) (mvT hZ (W 17 rfl)) (by decide) (backOfSH (s := s) (vm0 := s.vm) (W := 0) (rm3k0 l Z a0 hw [] o1 o2 k2 h0 n0 Z0 F1 F2 E1 g1 V2 n12) hZ (W 17 rfl) (W 9 rfl) (by decide) (by decide) hEL CR0.1) (g := (mkF m 6 #[rv o1, rv o2] [.null, (.int (0 : Int32)), (.int (0 : Int32)), (.ref o2), (.ref o1)])) rfl (by rw [hml]; rfl) (Steps.refl _) (a := o1) (argsL := [(.ref o2), (.int (0 : Int32)), (.int (0 : Int32)), .null]) (rest := []) (lenOf pd86 rfl) rfl (by show 2 * 0 + _ ≤ _; exact Nat.le_of_eq rfl) (hb hby d2_6) (fun _ _ => ⟨rfl, e0, (by decide : 0 + 2 ≤ _), (by decide : 0 + 4 ≤ _)⟩)
  dsimp only [Pt.U, Pt.locs, Pt.cells, Pt.slots] at X303 S303 g303 l303 y303 z303 C303 st303 hQ303
  subst l303 y303 z303
  obtain ⟨b303, kb303, rfl, Nq303, K303, Fa303, Fb303, Vb303⟩ := hQ303
  obtain ⟨X303, hS303, hZ, hown⟩ := rebS hS0 (by rw [e0]; exact hk0) X303 S303 g303 hZ hown
  have hk303 : T303.heap.size ≤ T303.heap.size := Nat.le_refl _
  have N303 := Fr.app N0 Nq303
  have CR303 := CR0.trans (C303)
  have go304 : own_S p e below ST T303 (mkF m 9 #[rv o1, rv o2] []) := fun tt kt => go302 tt (st303.trans kt)
  have KC303 : Keep h0 T303.heap [o1] := KC0.trans K303 (allS (Or.inl (List.mem_of_getElem? (i := 0) rfl)) all0)
  obtain ⟨fs, hr, hrun, hended, hend⟩ := X303.leaveW (s := s) (vm₁ := T303.vm) hS303 (by exact hk303) (v := none) (fun _ => rfl) (hlocks := by first | exact BodyLoose.notSynchronized Bd | exact Body.notSynchronized Bd)
  refine ⟨_, _, pre0 _ (go304 _ ?_), hrun, hended, _, _, rfl, ?_, ?_, hend.1, hend.2.1, hend.2.2.1, hend.2.2.2.mono (by decide) (by decide)⟩
  · exact X303.returnOut hx Bd.returns (hb hby d2_9) hr
  · show Q2k0 Z o1 o2 k2 h0 n0 _ T303.heap _
    exact ⟨b303, kb303, rfl, N303, KC303, Fa303, Fb303, Vb303⟩
  · show CHr Z own_EL s.vm s.heap T303.vm T303.heap
    exact own_cr hh rfl (CR303.trans (CHv.at X303 hZ hEL CR303.1))
theorem d1_0 : decode method_3_code 0 = .ok (.iload_n 0, 1) := by decide +kernel
theorem d1_1 : decode method_3_code 1 = .ok (.iconst 3, 1) := by decide +kernel
theorem d1_2 : decode method_3_code 2 = .ok (.iand, 1) := by decide +kernel
theorem d1_3 : decode method_3_code 3 = .ok (.istore_n 1, 1) := by decide +kernel
theorem d1_4 : decode method_3_code 4 = .ok (.iload_n 1, 1) := by decide +kernel
theorem d1_5 : decode method_3_code 5 = .ok (.ifCond .ne 14, 3) := by decide +kernel
theorem d1_8 : decode method_3_code 8 = .ok (.new 7, 3) := by decide +kernel
theorem d1_11 : decode method_3_code 11 = .ok (.dup, 1) := by decide +kernel
theorem d1_12 : decode method_3_code 12 = .ok (.iconst 0, 1) := by decide +kernel
theorem d1_13 : decode method_3_code 13 = .ok (.newarray .char, 2) := by decide +kernel
theorem d1_15 : decode method_3_code 15 = .ok (.invokespecial 9, 3) := by decide +kernel
theorem pd108 : parseMethodDescriptor "([C)V" = some ⟨[(.array .char)], none⟩ := by decide +kernel
theorem d1_18 : decode method_3_code 18 = .ok (.areturn, 1) := by decide +kernel
theorem d1_19 : decode method_3_code 19 = .ok (.iload_n 1, 1) := by decide +kernel
theorem d1_20 : decode method_3_code 20 = .ok (.iconst 1, 1) := by decide +kernel
theorem d1_21 : decode method_3_code 21 = .ok (.if_icmp .ne 22, 3) := by decide +kernel
theorem d1_24 : decode method_3_code 24 = .ok (.new 7, 3) := by decide +kernel
theorem d1_27 : decode method_3_code 27 = .ok (.dup, 1) := by decide +kernel
theorem d1_28 : decode method_3_code 28 = .ok (.iconst 1, 1) := by decide +kernel
theorem d1_29 : decode method_3_code 29 = .ok (.newarray .char, 2) := by decide +kernel
theorem d1_31 : decode method_3_code 31 = .ok (.dup, 1) := by decide +kernel
theorem d1_32 : decode method_3_code 32 = .ok (.iconst 0, 1) := by decide +kernel
theorem d1_33 : decode method_3_code 33 = .ok (.iload_n 0, 1) := by decide +kernel
theorem d1_34 : decode method_3_code 34 = .ok (.iconst 2, 1) := by decide +kernel
theorem d1_35 : decode method_3_code 35 = .ok (.invokestatic 12, 3) := by decide +kernel
theorem pd122 : parseMethodDescriptor "(II)C" = some ⟨[.int, .int], some .char⟩ := by decide +kernel
theorem d1_38 : decode method_3_code 38 = .ok (.castore, 1) := by decide +kernel
theorem d1_39 : decode method_3_code 39 = .ok (.invokespecial 9, 3) := by decide +kernel
theorem d1_42 : decode method_3_code 42 = .ok (.areturn, 1) := by decide +kernel
theorem d1_43 : decode method_3_code 43 = .ok (.iload_n 1, 1) := by decide +kernel
theorem d1_44 : decode method_3_code 44 = .ok (.iconst 2, 1) := by decide +kernel
theorem d1_45 : decode method_3_code 45 = .ok (.if_icmp .ne 31, 3) := by decide +kernel
theorem d1_48 : decode method_3_code 48 = .ok (.new 7, 3) := by decide +kernel
theorem d1_51 : decode method_3_code 51 = .ok (.dup, 1) := by decide +kernel
theorem d1_52 : decode method_3_code 52 = .ok (.iconst 2, 1) := by decide +kernel
theorem d1_53 : decode method_3_code 53 = .ok (.newarray .char, 2) := by decide +kernel
theorem d1_55 : decode method_3_code 55 = .ok (.dup, 1) := by decide +kernel
theorem d1_56 : decode method_3_code 56 = .ok (.iconst 0, 1) := by decide +kernel
theorem d1_57 : decode method_3_code 57 = .ok (.iload_n 0, 1) := by decide +kernel
theorem d1_58 : decode method_3_code 58 = .ok (.iconst 2, 1) := by decide +kernel
theorem d1_59 : decode method_3_code 59 = .ok (.invokestatic 12, 3) := by decide +kernel
theorem d1_62 : decode method_3_code 62 = .ok (.castore, 1) := by decide +kernel
theorem d1_63 : decode method_3_code 63 = .ok (.dup, 1) := by decide +kernel
theorem d1_64 : decode method_3_code 64 = .ok (.iconst 1, 1) := by decide +kernel
theorem d1_65 : decode method_3_code 65 = .ok (.iload_n 0, 1) := by decide +kernel
theorem d1_66 : decode method_3_code 66 = .ok (.bipush 10, 2) := by decide +kernel
theorem d1_68 : decode method_3_code 68 = .ok (.invokestatic 12, 3) := by decide +kernel
theorem d1_71 : decode method_3_code 71 = .ok (.castore, 1) := by decide +kernel
theorem d1_72 : decode method_3_code 72 = .ok (.invokespecial 9, 3) := by decide +kernel
theorem d1_75 : decode method_3_code 75 = .ok (.areturn, 1) := by decide +kernel
theorem d1_76 : decode method_3_code 76 = .ok (.new 7, 3) := by decide +kernel
theorem d1_79 : decode method_3_code 79 = .ok (.dup, 1) := by decide +kernel
theorem d1_80 : decode method_3_code 80 = .ok (.iconst 3, 1) := by decide +kernel
theorem d1_81 : decode method_3_code 81 = .ok (.newarray .char, 2) := by decide +kernel
theorem d1_83 : decode method_3_code 83 = .ok (.dup, 1) := by decide +kernel
theorem d1_84 : decode method_3_code 84 = .ok (.iconst 0, 1) := by decide +kernel
theorem d1_85 : decode method_3_code 85 = .ok (.iload_n 0, 1) := by decide +kernel
theorem d1_86 : decode method_3_code 86 = .ok (.iconst 2, 1) := by decide +kernel
theorem d1_87 : decode method_3_code 87 = .ok (.invokestatic 12, 3) := by decide +kernel
theorem d1_90 : decode method_3_code 90 = .ok (.castore, 1) := by decide +kernel
theorem d1_91 : decode method_3_code 91 = .ok (.dup, 1) := by decide +kernel
theorem d1_92 : decode method_3_code 92 = .ok (.iconst 1, 1) := by decide +kernel
theorem d1_93 : decode method_3_code 93 = .ok (.iload_n 0, 1) := by decide +kernel
theorem d1_94 : decode method_3_code 94 = .ok (.bipush 10, 2) := by decide +kernel
theorem d1_96 : decode method_3_code 96 = .ok (.invokestatic 12, 3) := by decide +kernel
theorem d1_99 : decode method_3_code 99 = .ok (.castore, 1) := by decide +kernel
theorem d1_100 : decode method_3_code 100 = .ok (.dup, 1) := by decide +kernel
theorem d1_101 : decode method_3_code 101 = .ok (.iconst 2, 1) := by decide +kernel
theorem d1_102 : decode method_3_code 102 = .ok (.iload_n 0, 1) := by decide +kernel
theorem d1_103 : decode method_3_code 103 = .ok (.bipush 18, 2) := by decide +kernel
theorem d1_105 : decode method_3_code 105 = .ok (.invokestatic 12, 3) := by decide +kernel
theorem d1_108 : decode method_3_code 108 = .ok (.castore, 1) := by decide +kernel
theorem d1_109 : decode method_3_code 109 = .ok (.invokespecial 9, 3) := by decide +kernel
theorem d1_112 : decode method_3_code 112 = .ok (.areturn, 1) := by decide +kernel
theorem ef1 (m : MethodId) (x0 : Int32) : entryFrame m #[(.int x0)] 2 = mkF m 0 #[.val (.int x0), .unset] [] := by first | (simp [entryFrame, mkF, argsToLocals, Value.category]; done) | rfl
def Q1 (Z : State) (k : Int32) (cs : Int32) (h0 : Heap) (n0 : Nat) (v : Option Value) (h : Heap) (L : List Loc) : Prop := ∃ (b ob : Addr) (kb : ClassId), v = some (.ref ob) ∧ Fr n0 L ∧ Keep h0 h [] ∧ Exa Z h ob "java/lang/String" ∧ Fld Z h ob "java/lang/String" "coder" "B" (.int (0 : Int32)) ∧ Fld Z h ob "java/lang/String" "value" "[B" (.ref b) ∧ Arv Z h b kb .byte (k &&& (3 : Int32)) (own_vs k) (.int (0 : Int32)) ∧ n0 ≤ ob ∧ h0.size ≤ ob
set_option maxRecDepth 65536 in
set_option maxHeartbeats 40000000 in
theorem rm1 (l : Launch) (Z : State) (a0 : Array Value) (hw : ∀ d ∈ tables_1, d.before a0 Z = true) (ws : List Jvm.Cond) (k : Int32) (cs : Int32) (h0 : Heap) (n0 : Nat) (Z0 : n0 ≤ h0.size) (SC : Sta Z Z.heap "java/lang/String" "COMPACT_STRINGS" "Z" (.int cs)) (hcs : ¬ cs = 0) (OL : Old Z n0 h0) :
    MetFree l (⟨"com/example/inscribe/inscribe/model/EdgeEqualsPinLaw", "mk", "(I)Ljava/lang/String;"⟩ : MethodName) (head1 (Jvm.Cond.code (⟨"com/example/inscribe/inscribe/model/EdgeEqualsPinLaw", "mk", "(I)Ljava/lang/String;"⟩ : MethodName) method_3_code 2 (some (.object "java/lang/String")) :: ws) ({ frames := 4, cells := 4, slots := 10, locals := 66 } : Room)) (fun aa UU => aa = #[(.int k)] ∧ Z.Warmed39 UU.vm ∧ UU.heap = h0 ∧ CHv Z own_EL UU.vm h0) (fun _ _ _ _ _ => True) (fun _ UU oo UU' => ∃ vv LL, oo = .returned vv ∧ Q1 Z k cs h0 n0 vv UU'.heap LL ∧ CHr Z own_EL UU.vm UU.heap UU'.vm UU'.heap ∧ ReturnedEndW UU oo UU' LL ({ frames := 4, cells := 4, slots := 10, locals := 66 } : Room).cells ({ frames := 4, cells := 4, slots := 10, locals := 66 } : Room).slots) := by
  have W : ∀ {d : Jvm.Cond} (i : Nat), tables_1[i]? = some d → d.before a0 Z = true := fun i h => hw _ (List.mem_of_getElem? h)
  refine MetFree.of_bodySF (plainFor_of_name pn0) hisR ?_
  intro p e s m args below meth c s₁ Bd hml0 hP hK
  obtain ⟨rfl, hZ, hh, hC⟩ := hP
  have hx := Bd.exec
  have hby := Bd.bytes
  have hml : c.maxLocals = 2 := hml0
  have hown : s.vm.findClass "com/example/inscribe/inscribe/model/EdgeEqualsPinLaw" = some m.cls := findClass_of_methodNamed Bd.named
  have hnm := (name_of_methodNamed Bd.named Bd.method).1
  have X0 : Stand p l e ({ frames := 4, cells := 4, slots := 10, locals := 66 } : Room) (s.setVm s.vm) m #[(.int k)] below meth c s₁ [] 0 0 := Stand.of_body Bd
  have e0 : s₁.heap = h0 := by rw [← hh, Bd.state]; rfl
  have N0 := Fr.nil n0
  have pre0 : ∀ tt, Steps p.tables e below (s₁.setTop (mkF m 0 #[iv k, .unset] [])) tt → Steps p.tables e below (s₁.setTop (entryFrame m #[(.int k)] 2)) tt := fun tt kt => castTop (ef1 m k) kt
  obtain ⟨ST, hST⟩ : ∃ z : State, z = s₁.setTop (mkF m 0 #[iv k, .unset] []) := ⟨_, rfl⟩
  rw [← hST] at pre0
  have hZ : Z.Warmed39 (s.setVm s.vm).vm := hZ
  have hown : (s.setVm s.vm).vm.findClass "com/example/inscribe/inscribe/model/EdgeEqualsPinLaw" = some m.cls := hown
  have hS0 : s.Since s.vm s.heap.size := (State.WarmedH.refl s).since _
  have hk0 : s.heap.size ≤ h0.size := Nat.le_of_eq (congrArg Array.size hh)
  have hEL := own_ew hw
  have hWS := own_WS hw
  have CR0 : CHr Z own_EL s.vm h0 s.vm h0 := CHr.refl hC
  have KC0 : Keep h0 h0 [] := Keep.refl h0 []
  have go305 : own_S p e below ST s₁ (mkF m 5 #[iv k, iv (k &&& (3 : Int32))] [(.int (k &&& (3 : Int32)))]) := fun tt kt => (by
      rw [hST]
      show Steps p.tables e below (s₁.setTop (mkF m 0 #[iv k, .unset] [])) _
      refine XS.iloadN X0.here hx rfl (hb hby d1_0) rfl ?_
      refine XS.iconst X0.here hx rfl (hb hby d1_1) ?_
      refine XS.iand X0.here hx rfl (hb hby d1_2) rfl ?_
      refine XS.istoreN X0.here hx rfl (hb hby d1_3) rfl (l' := #[iv k, iv (k &&& (3 : Int32))]) rfl ?_
      refine XS.iloadN X0.here hx rfl (hb hby d1_4) rfl ?_
      exact kt)
  by_cases c0 : (k &&& (3 : Int32)) = (0 : Int32)
  · have go306 : own_S p e below ST s₁ (mkF m 8 #[iv k, iv (k &&& (3 : Int32))] []) := fun tt kt => go305 tt (by
        refine XS.ifNo X0.here hx rfl (hb hby d1_5) rfl ((if0 _ _).trans (teq c0).2) ?_
        exact kt)
    obtain ⟨b307, g307⟩ : ∃ z, z = h0.size := ⟨_, rfl⟩
    obtain ⟨T307, h307, X307, e307, E307, A307, D307, -, st307⟩ := newO X0 hx hZ hown (W 7 rfl) (W 8 rfl) (W 9 rfl) e0 (g := (mkF m 8 #[iv k, iv (k &&& (3 : Int32))] [])) rfl (hb hby d1_8) (by decide) (by decide)
    rw [← g307] at A307 D307 st307
    have ge_b307 : n0 ≤ b307 := Nat.le_trans Z0 (Nat.le_of_eq g307.symm)
    have sz_b307 : h0.size ≤ b307 := Nat.le_trans KC0.1 (Nat.le_of_eq g307.symm)
    have F307_value : Fld Z h307 b307 "java/lang/String" "value" "[B" .null := D307 (Or.inr (W 23 rfl)) (ty := (.array .byte)) (by decide)
    have F307_coder : Fld Z h307 b307 "java/lang/String" "coder" "B" (.int (0 : Int32)) := D307 (Or.inr (W 24 rfl)) (ty := .byte) (by decide)
    have KC307 : Keep h0 h307 [] := KC0.ext E307
    have CR307 := CR0.trans (CHr.ext E307 CR0.1)
    have hk307 := Nat.le_trans hk0 (E307.1)
    have go308 : own_S p e below ST T307 (mkF m 11 #[iv k, iv (k &&& (3 : Int32))] [(.ref b307)]) := fun tt kt => go306 tt (st307 _ kt)
    have go309 : own_S p e below ST T307 (mkF m 13 #[iv k, iv (k &&& (3 : Int32))] [(.int (0 : Int32)), (.ref b307), (.ref b307)]) := fun tt kt => go308 tt (by
        refine XS.dup X307.here hx rfl (hb hby d1_11) rfl rfl ?_
        refine XS.iconst X307.here hx rfl (hb hby d1_12) ?_
        exact kt)
    have zs311 := (Nat.le_trans Z0 E307.1)
    obtain ⟨b310, g310⟩ : ∃ z, z = h307.size := ⟨_, rfl⟩
    obtain ⟨T310, h310, k310, X310, e310, E310, A310, st310⟩ := newP X307 hx hZ (W 10 rfl) e307 (g := (mkF m 13 #[iv k, iv (k &&& (3 : Int32))] [(.int (0 : Int32)), (.ref b307), (.ref b307)])) rfl (hb hby d1_13) rfl (by decide) (cap := 0) (by decide) (by decide) (by decide) (by decide)
    rw [← g310] at A310 st310
    have neb307_b310 : b307 ≠ b310 := Nat.ne_of_lt (Nat.lt_of_lt_of_le A307.lt (Nat.le_of_eq g310.symm))
    have ge_b310 : n0 ≤ b310 := Nat.le_trans zs311 (Nat.le_of_eq g310.symm)
    have sz_b310 : h0.size ≤ b310 := Nat.le_trans KC307.1 (Nat.le_of_eq g310.symm)
    have V310 : Arv Z h310 b310 k310 .char (0 : Int32) [] (.int (0 : Int32)) := (Arv.new A310 (by decide)).pad (pad_rep [] (.int (0 : Int32)) 0)
    have KC310 : Keep h0 h310 [] := KC307.ext E310
    have CR310 := CR307.trans (CHr.ext E310 CR307.1)
    have hk310 := Nat.le_trans hk307 (E310.1)
    have go312 : own_S p e below ST T310 (mkF m 15 #[iv k, iv (k &&& (3 : Int32))] [(.ref b310), (.ref b307), (.ref b307)]) := fun tt kt => go309 tt (st310 _ kt)
    have f313 := (F307_coder.ext E310)
    have f314 := (F307_value.ext E310)
    have f315 := (A307.ext E310)
    have zs317 := (Nat.le_trans zs311 E310.1)
    obtain ⟨_, _, ⟨T316, L316, k316, n316⟩, -, X316, S316, g316, ⟨Lc316, hQ316, l316, y316, z316, C316⟩, st316⟩ := X310.specialBackS hx (y := (⟨"java/lang/String", "<init>", "([C)V"⟩ : MethodName)) rfl hown (mvT hZ (W 11 rfl)) (mvT hZ (W 12 rfl)) (mvT hZ (W 13 rfl)) (by decide) (backOfSH (s := s) (vm0 := s.vm) (W := 1) (rm2k0 l Z a0 hw [] b307 b310 k310 h310 n0 zs317 f313 f314 f315 ge_b307 V310 neb307_b310) hZ (W 13 rfl) (W 9 rfl) (by decide) (by decide) hEL CR310.1) (g := (mkF m 15 #[iv k, iv (k &&& (3 : Int32))] [(.ref b310), (.ref b307), (.ref b307)])) rfl (by rw [hml]; rfl) (Steps.refl _) (a := b307) (argsL := [(.ref b310)]) (rest := [(.ref b307)]) (lenOf pd108 rfl) rfl (by show 2 * 0 + _ ≤ _; exact Nat.le_of_eq rfl) (hb hby d1_15) (fun _ _ => ⟨rfl, e310, (by decide : 2 + 2 ≤ _), (by decide : 4 + 4 ≤ _)⟩)
    dsimp only [Pt.U, Pt.locs, Pt.cells, Pt.slots] at X316 S316 g316 l316 y316 z316 C316 st316 hQ316
    subst l316 y316 z316
    obtain ⟨b316, kb316, rfl, Nq316, K316, Fa316, Fb316, Vb316⟩ := hQ316
    obtain ⟨X316, hS316, hZ, hown⟩ := rebS hS0 (by rw [e310]; exact hk310) X316 S316 g316 hZ hown
    have hk316 : T316.heap.size ≤ T316.heap.size := Nat.le_refl _
    have N316 := Fr.app N0 Nq316
    have CR316 := CR310.trans (C316)
    have go318 : own_S p e below ST T316 (mkF m 18 #[iv k, iv (k &&& (3 : Int32))] [(.ref b307)]) := fun tt kt => go312 tt (st316.trans kt)
    have KC316 : Keep h0 T316.heap [] := KC310.trans K316 (allS (Or.inr sz_b307) all0)
    have f319 := (f315.keep K316)
    obtain ⟨fs, hr, hrun, hended, hend⟩ := X316.leaveW (s := s) (vm₁ := T316.vm) hS316 (by exact hk316) (v := some (.ref b307)) (fun h => by rw [Bd.returns] at h; cases h) (hlocks := by first | exact BodyLoose.notSynchronized Bd | exact Body.notSynchronized Bd)
    refine ⟨_, _, pre0 _ (go318 _ ?_), hrun, hended, _, _, rfl, ?_, ?_, hend.1, hend.2.1, hend.2.2.1, hend.2.2.2.mono (by decide) (by decide)⟩
    · exact retOut X316 hx Bd.returns rfl (Or.inr (Or.inr (Or.inr (Or.inr ⟨rfl, rfl, rfl⟩)))) (hb hby d1_18) hr
    · show Q1 Z k cs h0 n0 _ T316.heap _
      exact ⟨b316, b307, kb316, rfl, N316, KC316, f319, Fa316, Fb316, (by rw [own_vs0 c0, c0]; exact Vb316), ge_b307, sz_b307⟩
    · show CHr Z own_EL s.vm s.heap T316.vm T316.heap
      exact own_cr hh rfl (CR316.trans (CHv.at X316 hZ hEL CR316.1))
  · have go320 : own_S p e below ST s₁ (mkF m 19 #[iv k, iv (k &&& (3 : Int32))] []) := fun tt kt => go305 tt (by
        refine XS.ifYes X0.here hx rfl (pc0 := 5) (pc' := 19) rfl (hb hby d1_5) rfl ((if0 _ _).trans (feq c0).2) (by decide) (by decide) ?_
        exact kt)
    have go321 : own_S p e below ST s₁ (mkF m 21 #[iv k, iv (k &&& (3 : Int32))] [(.int (1 : Int32)), (.int (k &&& (3 : Int32)))]) := fun tt kt => go320 tt (by
        refine XS.iloadN X0.here hx rfl (hb hby d1_19) rfl ?_
        refine XS.iconst X0.here hx rfl (hb hby d1_20) ?_
        exact kt)
    by_cases c1 : (k &&& (3 : Int32)) = (1 : Int32)
    · have go322 : own_S p e below ST s₁ (mkF m 24 #[iv k, iv (k &&& (3 : Int32))] []) := fun tt kt => go321 tt (by
          refine XS.icmpNo X0.here hx rfl (hb hby d1_21) rfl (teq c1).2 ?_
          exact kt)
      obtain ⟨b323, g323⟩ : ∃ z, z = h0.size := ⟨_, rfl⟩
      obtain ⟨T323, h323, X323, e323, E323, A323, D323, -, st323⟩ := newO X0 hx hZ hown (W 7 rfl) (W 8 rfl) (W 9 rfl) e0 (g := (mkF m 24 #[iv k, iv (k &&& (3 : Int32))] [])) rfl (hb hby d1_24) (by decide) (by decide)
      rw [← g323] at A323 D323 st323
      have ge_b323 : n0 ≤ b323 := Nat.le_trans Z0 (Nat.le_of_eq g323.symm)
      have sz_b323 : h0.size ≤ b323 := Nat.le_trans KC0.1 (Nat.le_of_eq g323.symm)
      have F323_value : Fld Z h323 b323 "java/lang/String" "value" "[B" .null := D323 (Or.inr (W 23 rfl)) (ty := (.array .byte)) (by decide)
      have F323_coder : Fld Z h323 b323 "java/lang/String" "coder" "B" (.int (0 : Int32)) := D323 (Or.inr (W 24 rfl)) (ty := .byte) (by decide)
      have KC323 : Keep h0 h323 [] := KC0.ext E323
      have CR323 := CR0.trans (CHr.ext E323 CR0.1)
      have hk323 := Nat.le_trans hk0 (E323.1)
      have go324 : own_S p e below ST T323 (mkF m 27 #[iv k, iv (k &&& (3 : Int32))] [(.ref b323)]) := fun tt kt => go322 tt (st323 _ kt)
      have go325 : own_S p e below ST T323 (mkF m 29 #[iv k, iv (k &&& (3 : Int32))] [(.int (1 : Int32)), (.ref b323), (.ref b323)]) := fun tt kt => go324 tt (by
          refine XS.dup X323.here hx rfl (hb hby d1_27) rfl rfl ?_
          refine XS.iconst X323.here hx rfl (hb hby d1_28) ?_
          exact kt)
      have zs327 := (Nat.le_trans Z0 E323.1)
      obtain ⟨b326, g326⟩ : ∃ z, z = h323.size := ⟨_, rfl⟩
      obtain ⟨T326, h326, k326, X326, e326, E326, A326, st326⟩ := newP X323 hx hZ (W 10 rfl) e323 (g := (mkF m 29 #[iv k, iv (k &&& (3 : Int32))] [(.int (1 : Int32)), (.ref b323), (.ref b323)])) rfl (hb hby d1_29) rfl (by decide) (cap := 1) (by decide) (by decide) (by decide) (by decide)
      rw [← g326] at A326 st326
      have neb323_b326 : b323 ≠ b326 := Nat.ne_of_lt (Nat.lt_of_lt_of_le A323.lt (Nat.le_of_eq g326.symm))
      have ge_b326 : n0 ≤ b326 := Nat.le_trans zs327 (Nat.le_of_eq g326.symm)
      have sz_b326 : h0.size ≤ b326 := Nat.le_trans KC323.1 (Nat.le_of_eq g326.symm)
      have V326 : Arv Z h326 b326 k326 .char (1 : Int32) [(.int (0 : Int32))] (.int (0 : Int32)) := (Arv.new A326 (by decide)).pad (pad_rep [] (.int (0 : Int32)) 1)
      have KC326 : Keep h0 h326 [] := KC323.ext E326
      have CR326 := CR323.trans (CHr.ext E326 CR323.1)
      have hk326 := Nat.le_trans hk323 (E326.1)
      have go328 : own_S p e below ST T326 (mkF m 31 #[iv k, iv (k &&& (3 : Int32))] [(.ref b326), (.ref b323), (.ref b323)]) := fun tt kt => go325 tt (st326 _ kt)
      have go329 : own_S p e below ST T326 (mkF m 35 #[iv k, iv (k &&& (3 : Int32))] [(.int (2 : Int32)), (.int k), (.int (0 : Int32)), (.ref b326), (.ref b326), (.ref b323), (.ref b323)]) := fun tt kt => go328 tt (by
          refine XS.dup X326.here hx rfl (hb hby d1_31) rfl rfl ?_
          refine XS.iconst X326.here hx rfl (hb hby d1_32) ?_
          refine XS.iloadN X326.here hx rfl (hb hby d1_33) rfl ?_
          refine XS.iconst X326.here hx rfl (hb hby d1_34) ?_
          exact kt)
      have zs331 := (Nat.le_trans zs327 E326.1)
      obtain ⟨_, _, ⟨T330, L330, k330, n330⟩, -, X330, ⟨Lc330, hQ330, l330, y330, z330⟩, st330⟩ := Jvm.LawKit.callS X326 hx (y := (⟨"com/example/inscribe/inscribe/model/EdgeEqualsPinLaw", "ch", "(II)C"⟩ : MethodName)) hown (mvT hZ (W 29 rfl)) (mvT hZ (W 30 rfl)) (mvT hZ (W 5 rfl)) (mvT hZ (W 31 rfl)) (by decide) (backOf (W := 5) (rm5 l Z a0 hw [] k (2 : Int32) h326 n0 zs331 ) hZ (W 31 rfl) (W 5 rfl) (by decide) (by decide)) (g := (mkF m 35 #[iv k, iv (k &&& (3 : Int32))] [(.int (2 : Int32)), (.int k), (.int (0 : Int32)), (.ref b326), (.ref b326), (.ref b323), (.ref b323)])) rfl (by rw [hml]; rfl) (argsL := [(.int k), (.int (2 : Int32))]) (rest := [(.int (0 : Int32)), (.ref b326), (.ref b326), (.ref b323), (.ref b323)]) (lenOf pd122 rfl) rfl (by show 2 * 0 + _ ≤ _; exact Nat.le_of_eq rfl) (hb hby d1_35) (fun _ _ => ⟨rfl, e326, (by decide : 2 + 0 ≤ _), (by decide : 5 + 0 ≤ _)⟩)
      dsimp only [Pt.U, Pt.locs, Pt.cells, Pt.slots] at X330 l330 y330 z330 st330 hQ330
      subst l330 y330 z330
      obtain ⟨rfl, Nq330, eh330⟩ := hQ330
      have N330 := Fr.app N0 Nq330
      have go332 : own_S p e below ST T330 (mkF m 38 #[iv k, iv (k &&& (3 : Int32))] [(.int (own_ch k (2 : Int32))), (.int (0 : Int32)), (.ref b326), (.ref b326), (.ref b323), (.ref b323)]) := fun tt kt => go329 tt (st330 _ kt)
      obtain ⟨cl333, Ar333, q333, S333, M333, H333, G333⟩ := id V326
      have hin333 : ¬ ((0 : Int32) < 0 ∨ cl333.slots.size ≤ ((0 : Int32)).toNatClampNeg) := inb_of S333 ⟨by decide, by decide⟩
      obtain ⟨T333, h333, X333, e333, W333, st333⟩ := stC X330 hx hZ eh330 Ar333 (j := (0 : Int32)) hin333 (g := (mkF m 38 #[iv k, iv (k &&& (3 : Int32))] [(.int (own_ch k (2 : Int32))), (.int (0 : Int32)), (.ref b326), (.ref b326), (.ref b323), (.ref b323)])) rfl rfl (hb hby d1_38)
      have V333 : Arv Z h333 b326 k326 .char (1 : Int32) [(.int (nar .char (own_ch k (2 : Int32))))] (.int (0 : Int32)) := Arv.set Ar333 q333 S333 M333 H333 G333 (fits_nar_char _) W333 0 rfl (Nat.le_of_ble_eq_true rfl)
      have N333 := Fr.snoc X333 N330 ge_b326
      have KC333 : Keep h0 h333 [] := KC326.wr W333 (Or.inr sz_b326)
      have CR333 := CR326.trans (CHr.wr W333 (Safe.arr hZ.alike Ar333 (by decide)) CR326.1)
      have hk333 := Nat.le_trans hk326 ((Keep.of_wr W333).1)
      have go334 : own_S p e below ST T333 (mkF m 39 #[iv k, iv (k &&& (3 : Int32))] [(.ref b326), (.ref b323), (.ref b323)]) := fun tt kt => go332 tt (st333 _ kt)
      have f336 := ((A323.ext E326).wr W333)
      have f337 := ((F323_value.ext E326).other W333 (Or.inl neb323_b326))
      have Sf335 : Safe Z own_EL s.vm h333 b323 := own_safeN hZ f336 f337
      have f338 := ((F323_coder.ext E326).other W333 (Or.inl neb323_b326))
      have f339 := (((OL.ext E323).ext E326).wr W333 ge_b326)
      have zs341 := (Nat.le_trans zs331 (Keep.of_wr W333).1)
      obtain ⟨_, _, ⟨T340, L340, k340, n340⟩, -, X340, ⟨Lc340, hQ340, l340, y340, z340⟩, st340⟩ := X333.specialBack hx (y := (⟨"java/lang/String", "<init>", "([C)V"⟩ : MethodName)) rfl hown (mvT hZ (W 11 rfl)) (mvT hZ (W 12 rfl)) (mvT hZ (W 13 rfl)) (by decide) (backOf (W := 1) (rm2k1 l Z a0 hw [] b323 b326 k326 (nar .char (own_ch k (2 : Int32))) cs h333 n0 zs341 f338 f337 f336 ge_b323 V333 neb323_b326 (own_q k (2 : Int32)) SC hcs f339) hZ (W 13 rfl) (W 9 rfl) (by decide) (by decide)) (g := (mkF m 39 #[iv k, iv (k &&& (3 : Int32))] [(.ref b326), (.ref b323), (.ref b323)])) rfl (by rw [hml]; rfl) (Steps.refl _) (a := b323) (argsL := [(.ref b326)]) (rest := [(.ref b323)]) (lenOf pd108 rfl) rfl (by show 2 * 0 + _ ≤ _; exact Nat.le_of_eq rfl) (hb hby d1_39) (fun _ _ => ⟨rfl, e333, (by decide : 2 + 1 ≤ _), (by decide : 5 + 1 ≤ _)⟩)
      dsimp only [Pt.U, Pt.locs, Pt.cells, Pt.slots] at X340 l340 y340 z340 st340 hQ340
      subst l340 y340 z340
      obtain ⟨b340, kb340, rfl, Nq340, K340, Fa340, Fb340, Vb340⟩ := hQ340
      have N340 := Fr.app N333 Nq340
      have go342 : own_S p e below ST T340 (mkF m 42 #[iv k, iv (k &&& (3 : Int32))] [(.ref b323)]) := fun tt kt => go334 tt (st340.trans kt)
      have KC340 : Keep h0 T340.heap [] := KC333.trans K340 (allS (Or.inr sz_b323) all0)
      have CR340 := CR333.trans (CHr.keep K340 (allS Sf335 all0) CR333.1)
      have hk340 := Nat.le_trans hk333 (K340.1)
      have f343 := (f336.keep K340)
      obtain ⟨fs, hr, hrun, hended, hend⟩ := X340.leaveW (s := s) (vm₁ := s.vm) hS0 (by exact hk340) (v := some (.ref b323)) (fun h => by rw [Bd.returns] at h; cases h) (hlocks := by first | exact BodyLoose.notSynchronized Bd | exact Body.notSynchronized Bd)
      refine ⟨_, _, pre0 _ (go342 _ ?_), hrun, hended, _, _, rfl, ?_, ?_, hend.1, hend.2.1, hend.2.2.1, hend.2.2.2.mono (by decide) (by decide)⟩
      · exact retOut X340 hx Bd.returns rfl (Or.inr (Or.inr (Or.inr (Or.inr ⟨rfl, rfl, rfl⟩)))) (hb hby d1_42) hr
      · show Q1 Z k cs h0 n0 _ T340.heap _
        exact ⟨b340, b323, kb340, rfl, N340, KC340, f343, Fa340, Fb340, (by rw [own_vs1 c1, c1]; exact Vb340), ge_b323, sz_b323⟩
      · show CHr Z own_EL s.vm s.heap T340.vm T340.heap
        exact own_cr hh rfl (CR340.trans (CHv.at X340 hZ hEL CR340.1))
    · have go344 : own_S p e below ST s₁ (mkF m 43 #[iv k, iv (k &&& (3 : Int32))] []) := fun tt kt => go321 tt (by
          refine XS.icmpYes X0.here hx rfl (pc0 := 21) (pc' := 43) rfl (hb hby d1_21) rfl (feq c1).2 (by decide) (by decide) ?_
          exact kt)
      have go345 : own_S p e below ST s₁ (mkF m 45 #[iv k, iv (k &&& (3 : Int32))] [(.int (2 : Int32)), (.int (k &&& (3 : Int32)))]) := fun tt kt => go344 tt (by
          refine XS.iloadN X0.here hx rfl (hb hby d1_43) rfl ?_
          refine XS.iconst X0.here hx rfl (hb hby d1_44) ?_
          exact kt)
      by_cases c2 : (k &&& (3 : Int32)) = (2 : Int32)
      · have go346 : own_S p e below ST s₁ (mkF m 48 #[iv k, iv (k &&& (3 : Int32))] []) := fun tt kt => go345 tt (by
            refine XS.icmpNo X0.here hx rfl (hb hby d1_45) rfl (teq c2).2 ?_
            exact kt)
        obtain ⟨b347, g347⟩ : ∃ z, z = h0.size := ⟨_, rfl⟩
        obtain ⟨T347, h347, X347, e347, E347, A347, D347, -, st347⟩ := newO X0 hx hZ hown (W 7 rfl) (W 8 rfl) (W 9 rfl) e0 (g := (mkF m 48 #[iv k, iv (k &&& (3 : Int32))] [])) rfl (hb hby d1_48) (by decide) (by decide)
        rw [← g347] at A347 D347 st347
        have ge_b347 : n0 ≤ b347 := Nat.le_trans Z0 (Nat.le_of_eq g347.symm)
        have sz_b347 : h0.size ≤ b347 := Nat.le_trans KC0.1 (Nat.le_of_eq g347.symm)
        have F347_value : Fld Z h347 b347 "java/lang/String" "value" "[B" .null := D347 (Or.inr (W 23 rfl)) (ty := (.array .byte)) (by decide)
        have F347_coder : Fld Z h347 b347 "java/lang/String" "coder" "B" (.int (0 : Int32)) := D347 (Or.inr (W 24 rfl)) (ty := .byte) (by decide)
        have KC347 : Keep h0 h347 [] := KC0.ext E347
        have CR347 := CR0.trans (CHr.ext E347 CR0.1)
        have hk347 := Nat.le_trans hk0 (E347.1)
        have go348 : own_S p e below ST T347 (mkF m 51 #[iv k, iv (k &&& (3 : Int32))] [(.ref b347)]) := fun tt kt => go346 tt (st347 _ kt)
        have go349 : own_S p e below ST T347 (mkF m 53 #[iv k, iv (k &&& (3 : Int32))] [(.int (2 : Int32)), (.ref b347), (.ref b347)]) := fun tt kt => go348 tt (by
            refine XS.dup X347.here hx rfl (hb hby d1_51) rfl rfl ?_
            refine XS.iconst X347.here hx rfl (hb hby d1_52) ?_
            exact kt)
        have zs351 := (Nat.le_trans Z0 E347.1)
        obtain ⟨b350, g350⟩ : ∃ z, z = h347.size := ⟨_, rfl⟩
        obtain ⟨T350, h350, k350, X350, e350, E350, A350, st350⟩ := newP X347 hx hZ (W 10 rfl) e347 (g := (mkF m 53 #[iv k, iv (k &&& (3 : Int32))] [(.int (2 : Int32)), (.ref b347), (.ref b347)])) rfl (hb hby d1_53) rfl (by decide) (cap := 2) (by decide) (by decide) (by decide) (by decide)
        rw [← g350] at A350 st350
        have neb347_b350 : b347 ≠ b350 := Nat.ne_of_lt (Nat.lt_of_lt_of_le A347.lt (Nat.le_of_eq g350.symm))
        have ge_b350 : n0 ≤ b350 := Nat.le_trans zs351 (Nat.le_of_eq g350.symm)
        have sz_b350 : h0.size ≤ b350 := Nat.le_trans KC347.1 (Nat.le_of_eq g350.symm)
        have V350 : Arv Z h350 b350 k350 .char (2 : Int32) [(.int (0 : Int32)), (.int (0 : Int32))] (.int (0 : Int32)) := (Arv.new A350 (by decide)).pad (pad_rep [] (.int (0 : Int32)) 2)
        have KC350 : Keep h0 h350 [] := KC347.ext E350
        have CR350 := CR347.trans (CHr.ext E350 CR347.1)
        have hk350 := Nat.le_trans hk347 (E350.1)
        have go352 : own_S p e below ST T350 (mkF m 55 #[iv k, iv (k &&& (3 : Int32))] [(.ref b350), (.ref b347), (.ref b347)]) := fun tt kt => go349 tt (st350 _ kt)
        have go353 : own_S p e below ST T350 (mkF m 59 #[iv k, iv (k &&& (3 : Int32))] [(.int (2 : Int32)), (.int k), (.int (0 : Int32)), (.ref b350), (.ref b350), (.ref b347), (.ref b347)]) := fun tt kt => go352 tt (by
            refine XS.dup X350.here hx rfl (hb hby d1_55) rfl rfl ?_
            refine XS.iconst X350.here hx rfl (hb hby d1_56) ?_
            refine XS.iloadN X350.here hx rfl (hb hby d1_57) rfl ?_
            refine XS.iconst X350.here hx rfl (hb hby d1_58) ?_
            exact kt)
        have zs355 := (Nat.le_trans zs351 E350.1)
        obtain ⟨_, _, ⟨T354, L354, k354, n354⟩, -, X354, ⟨Lc354, hQ354, l354, y354, z354⟩, st354⟩ := Jvm.LawKit.callS X350 hx (y := (⟨"com/example/inscribe/inscribe/model/EdgeEqualsPinLaw", "ch", "(II)C"⟩ : MethodName)) hown (mvT hZ (W 29 rfl)) (mvT hZ (W 30 rfl)) (mvT hZ (W 5 rfl)) (mvT hZ (W 31 rfl)) (by decide) (backOf (W := 5) (rm5 l Z a0 hw [] k (2 : Int32) h350 n0 zs355 ) hZ (W 31 rfl) (W 5 rfl) (by decide) (by decide)) (g := (mkF m 59 #[iv k, iv (k &&& (3 : Int32))] [(.int (2 : Int32)), (.int k), (.int (0 : Int32)), (.ref b350), (.ref b350), (.ref b347), (.ref b347)])) rfl (by rw [hml]; rfl) (argsL := [(.int k), (.int (2 : Int32))]) (rest := [(.int (0 : Int32)), (.ref b350), (.ref b350), (.ref b347), (.ref b347)]) (lenOf pd122 rfl) rfl (by show 2 * 0 + _ ≤ _; exact Nat.le_of_eq rfl) (hb hby d1_59) (fun _ _ => ⟨rfl, e350, (by decide : 2 + 0 ≤ _), (by decide : 6 + 0 ≤ _)⟩)
        dsimp only [Pt.U, Pt.locs, Pt.cells, Pt.slots] at X354 l354 y354 z354 st354 hQ354
        subst l354 y354 z354
        obtain ⟨rfl, Nq354, eh354⟩ := hQ354
        have N354 := Fr.app N0 Nq354
        have go356 : own_S p e below ST T354 (mkF m 62 #[iv k, iv (k &&& (3 : Int32))] [(.int (own_ch k (2 : Int32))), (.int (0 : Int32)), (.ref b350), (.ref b350), (.ref b347), (.ref b347)]) := fun tt kt => go353 tt (st354 _ kt)
        obtain ⟨cl357, Ar357, q357, S357, M357, H357, G357⟩ := id V350
        have hin357 : ¬ ((0 : Int32) < 0 ∨ cl357.slots.size ≤ ((0 : Int32)).toNatClampNeg) := inb_of S357 ⟨by decide, by decide⟩
        obtain ⟨T357, h357, X357, e357, W357, st357⟩ := stC X354 hx hZ eh354 Ar357 (j := (0 : Int32)) hin357 (g := (mkF m 62 #[iv k, iv (k &&& (3 : Int32))] [(.int (own_ch k (2 : Int32))), (.int (0 : Int32)), (.ref b350), (.ref b350), (.ref b347), (.ref b347)])) rfl rfl (hb hby d1_62)
        have V357 : Arv Z h357 b350 k350 .char (2 : Int32) [(.int (nar .char (own_ch k (2 : Int32)))), (.int (0 : Int32))] (.int (0 : Int32)) := Arv.set Ar357 q357 S357 M357 H357 G357 (fits_nar_char _) W357 0 rfl (Nat.le_of_ble_eq_true rfl)
        have N357 := Fr.snoc X357 N354 ge_b350
        have KC357 : Keep h0 h357 [] := KC350.wr W357 (Or.inr sz_b350)
        have CR357 := CR350.trans (CHr.wr W357 (Safe.arr hZ.alike Ar357 (by decide)) CR350.1)
        have hk357 := Nat.le_trans hk350 ((Keep.of_wr W357).1)
        have go358 : own_S p e below ST T357 (mkF m 63 #[iv k, iv (k &&& (3 : Int32))] [(.ref b350), (.ref b347), (.ref b347)]) := fun tt kt => go356 tt (st357 _ kt)
        have go359 : own_S p e below ST T357 (mkF m 68 #[iv k, iv (k &&& (3 : Int32))] [(.int (10 : Int32)), (.int k), (.int (1 : Int32)), (.ref b350), (.ref b350), (.ref b347), (.ref b347)]) := fun tt kt => go358 tt (by
            refine XS.dup X357.here hx rfl (hb hby d1_63) rfl rfl ?_
            refine XS.iconst X357.here hx rfl (hb hby d1_64) ?_
            refine XS.iloadN X357.here hx rfl (hb hby d1_65) rfl ?_
            refine XS.bipush X357.here hx rfl (hb hby d1_66) ?_
            exact kt)
        have zs361 := (Nat.le_trans zs355 (Keep.of_wr W357).1)
        obtain ⟨_, _, ⟨T360, L360, k360, n360⟩, -, X360, ⟨Lc360, hQ360, l360, y360, z360⟩, st360⟩ := Jvm.LawKit.callS X357 hx (y := (⟨"com/example/inscribe/inscribe/model/EdgeEqualsPinLaw", "ch", "(II)C"⟩ : MethodName)) hown (mvT hZ (W 29 rfl)) (mvT hZ (W 30 rfl)) (mvT hZ (W 5 rfl)) (mvT hZ (W 31 rfl)) (by decide) (backOf (W := 5) (rm5 l Z a0 hw [] k (10 : Int32) h357 n0 zs361 ) hZ (W 31 rfl) (W 5 rfl) (by decide) (by decide)) (g := (mkF m 68 #[iv k, iv (k &&& (3 : Int32))] [(.int (10 : Int32)), (.int k), (.int (1 : Int32)), (.ref b350), (.ref b350), (.ref b347), (.ref b347)])) rfl (by rw [hml]; rfl) (argsL := [(.int k), (.int (10 : Int32))]) (rest := [(.int (1 : Int32)), (.ref b350), (.ref b350), (.ref b347), (.ref b347)]) (lenOf pd122 rfl) rfl (by show 2 * 0 + _ ≤ _; exact Nat.le_of_eq rfl) (hb hby d1_68) (fun _ _ => ⟨rfl, e357, (by decide : 2 + 0 ≤ _), (by decide : 6 + 0 ≤ _)⟩)
        dsimp only [Pt.U, Pt.locs, Pt.cells, Pt.slots] at X360 l360 y360 z360 st360 hQ360
        subst l360 y360 z360
        obtain ⟨rfl, Nq360, eh360⟩ := hQ360
        have N360 := Fr.app N357 Nq360
        have go362 : own_S p e below ST T360 (mkF m 71 #[iv k, iv (k &&& (3 : Int32))] [(.int (own_ch k (10 : Int32))), (.int (1 : Int32)), (.ref b350), (.ref b350), (.ref b347), (.ref b347)]) := fun tt kt => go359 tt (st360 _ kt)
        obtain ⟨cl363, Ar363, q363, S363, M363, H363, G363⟩ := id V357
        have hin363 : ¬ ((1 : Int32) < 0 ∨ cl363.slots.size ≤ ((1 : Int32)).toNatClampNeg) := inb_of S363 ⟨by decide, by decide⟩
        obtain ⟨T363, h363, X363, e363, W363, st363⟩ := stC X360 hx hZ eh360 Ar363 (j := (1 : Int32)) hin363 (g := (mkF m 71 #[iv k, iv (k &&& (3 : Int32))] [(.int (own_ch k (10 : Int32))), (.int (1 : Int32)), (.ref b350), (.ref b350), (.ref b347), (.ref b347)])) rfl rfl (hb hby d1_71)
        have V363 : Arv Z h363 b350 k350 .char (2 : Int32) [(.int (nar .char (own_ch k (2 : Int32)))), (.int (nar .char (own_ch k (10 : Int32))))] (.int (0 : Int32)) := Arv.set Ar363 q363 S363 M363 H363 G363 (fits_nar_char _) W363 1 rfl (Nat.le_of_ble_eq_true rfl)
        have N363 := Fr.snoc X363 N360 ge_b350
        have KC363 : Keep h0 h363 [] := KC357.wr W363 (Or.inr sz_b350)
        have CR363 := CR357.trans (CHr.wr W363 (Safe.arr hZ.alike Ar363 (by decide)) CR357.1)
        have hk363 := Nat.le_trans hk357 ((Keep.of_wr W363).1)
        have go364 : own_S p e below ST T363 (mkF m 72 #[iv k, iv (k &&& (3 : Int32))] [(.ref b350), (.ref b347), (.ref b347)]) := fun tt kt => go362 tt (st363 _ kt)
        have f366 := (((A347.ext E350).wr W357).wr W363)
        have f367 := (((F347_value.ext E350).other W357 (Or.inl neb347_b350)).other W363 (Or.inl neb347_b350))
        have Sf365 : Safe Z own_EL s.vm h363 b347 := own_safeN hZ f366 f367
        have f368 := (((F347_coder.ext E350).other W357 (Or.inl neb347_b350)).other W363 (Or.inl neb347_b350))
        have f369 := ((((OL.ext E347).ext E350).wr W357 ge_b350).wr W363 ge_b350)
        have zs371 := (Nat.le_trans zs361 (Keep.of_wr W363).1)
        obtain ⟨_, _, ⟨T370, L370, k370, n370⟩, -, X370, ⟨Lc370, hQ370, l370, y370, z370⟩, st370⟩ := X363.specialBack hx (y := (⟨"java/lang/String", "<init>", "([C)V"⟩ : MethodName)) rfl hown (mvT hZ (W 11 rfl)) (mvT hZ (W 12 rfl)) (mvT hZ (W 13 rfl)) (by decide) (backOf (W := 1) (rm2k2 l Z a0 hw [] b347 b350 k350 (nar .char (own_ch k (2 : Int32))) (nar .char (own_ch k (10 : Int32))) cs h363 n0 zs371 f368 f367 f366 ge_b347 V363 neb347_b350 (own_q k (2 : Int32)) (own_q k (10 : Int32)) SC hcs f369) hZ (W 13 rfl) (W 9 rfl) (by decide) (by decide)) (g := (mkF m 72 #[iv k, iv (k &&& (3 : Int32))] [(.ref b350), (.ref b347), (.ref b347)])) rfl (by rw [hml]; rfl) (Steps.refl _) (a := b347) (argsL := [(.ref b350)]) (rest := [(.ref b347)]) (lenOf pd108 rfl) rfl (by show 2 * 0 + _ ≤ _; exact Nat.le_of_eq rfl) (hb hby d1_72) (fun _ _ => ⟨rfl, e363, (by decide : 2 + 1 ≤ _), (by decide : 6 + 2 ≤ _)⟩)
        dsimp only [Pt.U, Pt.locs, Pt.cells, Pt.slots] at X370 l370 y370 z370 st370 hQ370
        subst l370 y370 z370
        obtain ⟨b370, kb370, rfl, Nq370, K370, Fa370, Fb370, Vb370⟩ := hQ370
        have N370 := Fr.app N363 Nq370
        have go372 : own_S p e below ST T370 (mkF m 75 #[iv k, iv (k &&& (3 : Int32))] [(.ref b347)]) := fun tt kt => go364 tt (st370.trans kt)
        have KC370 : Keep h0 T370.heap [] := KC363.trans K370 (allS (Or.inr sz_b347) all0)
        have CR370 := CR363.trans (CHr.keep K370 (allS Sf365 all0) CR363.1)
        have hk370 := Nat.le_trans hk363 (K370.1)
        have f373 := (f366.keep K370)
        obtain ⟨fs, hr, hrun, hended, hend⟩ := X370.leaveW (s := s) (vm₁ := s.vm) hS0 (by exact hk370) (v := some (.ref b347)) (fun h => by rw [Bd.returns] at h; cases h) (hlocks := by first | exact BodyLoose.notSynchronized Bd | exact Body.notSynchronized Bd)
        refine ⟨_, _, pre0 _ (go372 _ ?_), hrun, hended, _, _, rfl, ?_, ?_, hend.1, hend.2.1, hend.2.2.1, hend.2.2.2.mono (by decide) (by decide)⟩
        · exact retOut X370 hx Bd.returns rfl (Or.inr (Or.inr (Or.inr (Or.inr ⟨rfl, rfl, rfl⟩)))) (hb hby d1_75) hr
        · show Q1 Z k cs h0 n0 _ T370.heap _
          exact ⟨b370, b347, kb370, rfl, N370, KC370, f373, Fa370, Fb370, (by rw [own_vs2 c2, c2]; exact Vb370), ge_b347, sz_b347⟩
        · show CHr Z own_EL s.vm s.heap T370.vm T370.heap
          exact own_cr hh rfl (CR370.trans (CHv.at X370 hZ hEL CR370.1))
      · have go374 : own_S p e below ST s₁ (mkF m 76 #[iv k, iv (k &&& (3 : Int32))] []) := fun tt kt => go345 tt (by
            refine XS.icmpYes X0.here hx rfl (pc0 := 45) (pc' := 76) rfl (hb hby d1_45) rfl (feq c2).2 (by decide) (by decide) ?_
            exact kt)
        obtain ⟨b375, g375⟩ : ∃ z, z = h0.size := ⟨_, rfl⟩
        obtain ⟨T375, h375, X375, e375, E375, A375, D375, -, st375⟩ := newO X0 hx hZ hown (W 7 rfl) (W 8 rfl) (W 9 rfl) e0 (g := (mkF m 76 #[iv k, iv (k &&& (3 : Int32))] [])) rfl (hb hby d1_76) (by decide) (by decide)
        rw [← g375] at A375 D375 st375
        have ge_b375 : n0 ≤ b375 := Nat.le_trans Z0 (Nat.le_of_eq g375.symm)
        have sz_b375 : h0.size ≤ b375 := Nat.le_trans KC0.1 (Nat.le_of_eq g375.symm)
        have F375_value : Fld Z h375 b375 "java/lang/String" "value" "[B" .null := D375 (Or.inr (W 23 rfl)) (ty := (.array .byte)) (by decide)
        have F375_coder : Fld Z h375 b375 "java/lang/String" "coder" "B" (.int (0 : Int32)) := D375 (Or.inr (W 24 rfl)) (ty := .byte) (by decide)
        have KC375 : Keep h0 h375 [] := KC0.ext E375
        have CR375 := CR0.trans (CHr.ext E375 CR0.1)
        have hk375 := Nat.le_trans hk0 (E375.1)
        have go376 : own_S p e below ST T375 (mkF m 79 #[iv k, iv (k &&& (3 : Int32))] [(.ref b375)]) := fun tt kt => go374 tt (st375 _ kt)
        have go377 : own_S p e below ST T375 (mkF m 81 #[iv k, iv (k &&& (3 : Int32))] [(.int (3 : Int32)), (.ref b375), (.ref b375)]) := fun tt kt => go376 tt (by
            refine XS.dup X375.here hx rfl (hb hby d1_79) rfl rfl ?_
            refine XS.iconst X375.here hx rfl (hb hby d1_80) ?_
            exact kt)
        have zs379 := (Nat.le_trans Z0 E375.1)
        obtain ⟨b378, g378⟩ : ∃ z, z = h375.size := ⟨_, rfl⟩
        obtain ⟨T378, h378, k378, X378, e378, E378, A378, st378⟩ := newP X375 hx hZ (W 10 rfl) e375 (g := (mkF m 81 #[iv k, iv (k &&& (3 : Int32))] [(.int (3 : Int32)), (.ref b375), (.ref b375)])) rfl (hb hby d1_81) rfl (by decide) (cap := 3) (by decide) (by decide) (by decide) (by decide)
        rw [← g378] at A378 st378
        have neb375_b378 : b375 ≠ b378 := Nat.ne_of_lt (Nat.lt_of_lt_of_le A375.lt (Nat.le_of_eq g378.symm))
        have ge_b378 : n0 ≤ b378 := Nat.le_trans zs379 (Nat.le_of_eq g378.symm)
        have sz_b378 : h0.size ≤ b378 := Nat.le_trans KC375.1 (Nat.le_of_eq g378.symm)
        have V378 : Arv Z h378 b378 k378 .char (3 : Int32) [(.int (0 : Int32)), (.int (0 : Int32)), (.int (0 : Int32))] (.int (0 : Int32)) := (Arv.new A378 (by decide)).pad (pad_rep [] (.int (0 : Int32)) 3)
        have KC378 : Keep h0 h378 [] := KC375.ext E378
        have CR378 := CR375.trans (CHr.ext E378 CR375.1)
        have hk378 := Nat.le_trans hk375 (E378.1)
        have go380 : own_S p e below ST T378 (mkF m 83 #[iv k, iv (k &&& (3 : Int32))] [(.ref b378), (.ref b375), (.ref b375)]) := fun tt kt => go377 tt (st378 _ kt)
        have go381 : own_S p e below ST T378 (mkF m 87 #[iv k, iv (k &&& (3 : Int32))] [(.int (2 : Int32)), (.int k), (.int (0 : Int32)), (.ref b378), (.ref b378), (.ref b375), (.ref b375)]) := fun tt kt => go380 tt (by
            refine XS.dup X378.here hx rfl (hb hby d1_83) rfl rfl ?_
            refine XS.iconst X378.here hx rfl (hb hby d1_84) ?_
            refine XS.iloadN X378.here hx rfl (hb hby d1_85) rfl ?_
            refine XS.iconst X378.here hx rfl (hb hby d1_86) ?_
            exact kt)
        have zs383 := (Nat.le_trans zs379 E378.1)
        obtain ⟨_, _, ⟨T382, L382, k382, n382⟩, -, X382, ⟨Lc382, hQ382, l382, y382, z382⟩, st382⟩ := Jvm.LawKit.callS X378 hx (y := (⟨"com/example/inscribe/inscribe/model/EdgeEqualsPinLaw", "ch", "(II)C"⟩ : MethodName)) hown (mvT hZ (W 29 rfl)) (mvT hZ (W 30 rfl)) (mvT hZ (W 5 rfl)) (mvT hZ (W 31 rfl)) (by decide) (backOf (W := 5) (rm5 l Z a0 hw [] k (2 : Int32) h378 n0 zs383 ) hZ (W 31 rfl) (W 5 rfl) (by decide) (by decide)) (g := (mkF m 87 #[iv k, iv (k &&& (3 : Int32))] [(.int (2 : Int32)), (.int k), (.int (0 : Int32)), (.ref b378), (.ref b378), (.ref b375), (.ref b375)])) rfl (by rw [hml]; rfl) (argsL := [(.int k), (.int (2 : Int32))]) (rest := [(.int (0 : Int32)), (.ref b378), (.ref b378), (.ref b375), (.ref b375)]) (lenOf pd122 rfl) rfl (by show 2 * 0 + _ ≤ _; exact Nat.le_of_eq rfl) (hb hby d1_87) (fun _ _ => ⟨rfl, e378, (by decide : 2 + 0 ≤ _), (by decide : 7 + 0 ≤ _)⟩)
        dsimp only [Pt.U, Pt.locs, Pt.cells, Pt.slots] at X382 l382 y382 z382 st382 hQ382
        subst l382 y382 z382
        obtain ⟨rfl, Nq382, eh382⟩ := hQ382
        have N382 := Fr.app N0 Nq382
        have go384 : own_S p e below ST T382 (mkF m 90 #[iv k, iv (k &&& (3 : Int32))] [(.int (own_ch k (2 : Int32))), (.int (0 : Int32)), (.ref b378), (.ref b378), (.ref b375), (.ref b375)]) := fun tt kt => go381 tt (st382 _ kt)
        obtain ⟨cl385, Ar385, q385, S385, M385, H385, G385⟩ := id V378
        have hin385 : ¬ ((0 : Int32) < 0 ∨ cl385.slots.size ≤ ((0 : Int32)).toNatClampNeg) := inb_of S385 ⟨by decide, by decide⟩
        obtain ⟨T385, h385, X385, e385, W385, st385⟩ := stC X382 hx hZ eh382 Ar385 (j := (0 : Int32)) hin385 (g := (mkF m 90 #[iv k, iv (k &&& (3 : Int32))] [(.int (own_ch k (2 : Int32))), (.int (0 : Int32)), (.ref b378), (.ref b378), (.ref b375), (.ref b375)])) rfl rfl (hb hby d1_90)
        have V385 : Arv Z h385 b378 k378 .char (3 : Int32) [(.int (nar .char (own_ch k (2 : Int32)))), (.int (0 : Int32)), (.int (0 : Int32))] (.int (0 : Int32)) := Arv.set Ar385 q385 S385 M385 H385 G385 (fits_nar_char _) W385 0 rfl (Nat.le_of_ble_eq_true rfl)
        have N385 := Fr.snoc X385 N382 ge_b378
        have KC385 : Keep h0 h385 [] := KC378.wr W385 (Or.inr sz_b378)
        have CR385 := CR378.trans (CHr.wr W385 (Safe.arr hZ.alike Ar385 (by decide)) CR378.1)
        have hk385 := Nat.le_trans hk378 ((Keep.of_wr W385).1)
        have go386 : own_S p e below ST T385 (mkF m 91 #[iv k, iv (k &&& (3 : Int32))] [(.ref b378), (.ref b375), (.ref b375)]) := fun tt kt => go384 tt (st385 _ kt)
        have go387 : own_S p e below ST T385 (mkF m 96 #[iv k, iv (k &&& (3 : Int32))] [(.int (10 : Int32)), (.int k), (.int (1 : Int32)), (.ref b378), (.ref b378), (.ref b375), (.ref b375)]) := fun tt kt => go386 tt (by
            refine XS.dup X385.here hx rfl (hb hby d1_91) rfl rfl ?_
            refine XS.iconst X385.here hx rfl (hb hby d1_92) ?_
            refine XS.iloadN X385.here hx rfl (hb hby d1_93) rfl ?_
            refine XS.bipush X385.here hx rfl (hb hby d1_94) ?_
            exact kt)
        have zs389 := (Nat.le_trans zs383 (Keep.of_wr W385).1)
        obtain ⟨_, _, ⟨T388, L388, k388, n388⟩, -, X388, ⟨Lc388, hQ388, l388, y388, z388⟩, st388⟩ := Jvm.LawKit.callS X385 hx (y := (⟨"com/example/inscribe/inscribe/model/EdgeEqualsPinLaw", "ch", "(II)C"⟩ : MethodName)) hown (mvT hZ (W 29 rfl)) (mvT hZ (W 30 rfl)) (mvT hZ (W 5 rfl)) (mvT hZ (W 31 rfl)) (by decide) (backOf (W := 5) (rm5 l Z a0 hw [] k (10 : Int32) h385 n0 zs389 ) hZ (W 31 rfl) (W 5 rfl) (by decide) (by decide)) (g := (mkF m 96 #[iv k, iv (k &&& (3 : Int32))] [(.int (10 : Int32)), (.int k), (.int (1 : Int32)), (.ref b378), (.ref b378), (.ref b375), (.ref b375)])) rfl (by rw [hml]; rfl) (argsL := [(.int k), (.int (10 : Int32))]) (rest := [(.int (1 : Int32)), (.ref b378), (.ref b378), (.ref b375), (.ref b375)]) (lenOf pd122 rfl) rfl (by show 2 * 0 + _ ≤ _; exact Nat.le_of_eq rfl) (hb hby d1_96) (fun _ _ => ⟨rfl, e385, (by decide : 2 + 0 ≤ _), (by decide : 7 + 0 ≤ _)⟩)
        dsimp only [Pt.U, Pt.locs, Pt.cells, Pt.slots] at X388 l388 y388 z388 st388 hQ388
        subst l388 y388 z388
        obtain ⟨rfl, Nq388, eh388⟩ := hQ388
        have N388 := Fr.app N385 Nq388
        have go390 : own_S p e below ST T388 (mkF m 99 #[iv k, iv (k &&& (3 : Int32))] [(.int (own_ch k (10 : Int32))), (.int (1 : Int32)), (.ref b378), (.ref b378), (.ref b375), (.ref b375)]) := fun tt kt => go387 tt (st388 _ kt)
        obtain ⟨cl391, Ar391, q391, S391, M391, H391, G391⟩ := id V385
        have hin391 : ¬ ((1 : Int32) < 0 ∨ cl391.slots.size ≤ ((1 : Int32)).toNatClampNeg) := inb_of S391 ⟨by decide, by decide⟩
        obtain ⟨T391, h391, X391, e391, W391, st391⟩ := stC X388 hx hZ eh388 Ar391 (j := (1 : Int32)) hin391 (g := (mkF m 99 #[iv k, iv (k &&& (3 : Int32))] [(.int (own_ch k (10 : Int32))), (.int (1 : Int32)), (.ref b378), (.ref b378), (.ref b375), (.ref b375)])) rfl rfl (hb hby d1_99)
        have V391 : Arv Z h391 b378 k378 .char (3 : Int32) [(.int (nar .char (own_ch k (2 : Int32)))), (.int (nar .char (own_ch k (10 : Int32)))), (.int (0 : Int32))] (.int (0 : Int32)) := Arv.set Ar391 q391 S391 M391 H391 G391 (fits_nar_char _) W391 1 rfl (Nat.le_of_ble_eq_true rfl)
        have N391 := Fr.snoc X391 N388 ge_b378
        have KC391 : Keep h0 h391 [] := KC385.wr W391 (Or.inr sz_b378)
        have CR391 := CR385.trans (CHr.wr W391 (Safe.arr hZ.alike Ar391 (by decide)) CR385.1)
        have hk391 := Nat.le_trans hk385 ((Keep.of_wr W391).1)
        have go392 : own_S p e below ST T391 (mkF m 100 #[iv k, iv (k &&& (3 : Int32))] [(.ref b378), (.ref b375), (.ref b375)]) := fun tt kt => go390 tt (st391 _ kt)
        have go393 : own_S p e below ST T391 (mkF m 105 #[iv k, iv (k &&& (3 : Int32))] [(.int (18 : Int32)), (.int k), (.int (2 : Int32)), (.ref b378), (.ref b378), (.ref b375), (.ref b375)]) := fun tt kt => go392 tt (by
            refine XS.dup X391.here hx rfl (hb hby d1_100) rfl rfl ?_
            refine XS.iconst X391.here hx rfl (hb hby d1_101) ?_
            refine XS.iloadN X391.here hx rfl (hb hby d1_102) rfl ?_
            refine XS.bipush X391.here hx rfl (hb hby d1_103) ?_
            exact kt)
        have zs395 := (Nat.le_trans zs389 (Keep.of_wr W391).1)
        obtain ⟨_, _, ⟨T394, L394, k394, n394⟩, -, X394, ⟨Lc394, hQ394, l394, y394, z394⟩, st394⟩ := Jvm.LawKit.callS X391 hx (y := (⟨"com/example/inscribe/inscribe/model/EdgeEqualsPinLaw", "ch", "(II)C"⟩ : MethodName)) hown (mvT hZ (W 29 rfl)) (mvT hZ (W 30 rfl)) (mvT hZ (W 5 rfl)) (mvT hZ (W 31 rfl)) (by decide) (backOf (W := 5) (rm5 l Z a0 hw [] k (18 : Int32) h391 n0 zs395 ) hZ (W 31 rfl) (W 5 rfl) (by decide) (by decide)) (g := (mkF m 105 #[iv k, iv (k &&& (3 : Int32))] [(.int (18 : Int32)), (.int k), (.int (2 : Int32)), (.ref b378), (.ref b378), (.ref b375), (.ref b375)])) rfl (by rw [hml]; rfl) (argsL := [(.int k), (.int (18 : Int32))]) (rest := [(.int (2 : Int32)), (.ref b378), (.ref b378), (.ref b375), (.ref b375)]) (lenOf pd122 rfl) rfl (by show 2 * 0 + _ ≤ _; exact Nat.le_of_eq rfl) (hb hby d1_105) (fun _ _ => ⟨rfl, e391, (by decide : 2 + 0 ≤ _), (by decide : 7 + 0 ≤ _)⟩)
        dsimp only [Pt.U, Pt.locs, Pt.cells, Pt.slots] at X394 l394 y394 z394 st394 hQ394
        subst l394 y394 z394
        obtain ⟨rfl, Nq394, eh394⟩ := hQ394
        have N394 := Fr.app N391 Nq394
        have go396 : own_S p e below ST T394 (mkF m 108 #[iv k, iv (k &&& (3 : Int32))] [(.int (own_ch k (18 : Int32))), (.int (2 : Int32)), (.ref b378), (.ref b378), (.ref b375), (.ref b375)]) := fun tt kt => go393 tt (st394 _ kt)
        obtain ⟨cl397, Ar397, q397, S397, M397, H397, G397⟩ := id V391
        have hin397 : ¬ ((2 : Int32) < 0 ∨ cl397.slots.size ≤ ((2 : Int32)).toNatClampNeg) := inb_of S397 ⟨by decide, by decide⟩
        obtain ⟨T397, h397, X397, e397, W397, st397⟩ := stC X394 hx hZ eh394 Ar397 (j := (2 : Int32)) hin397 (g := (mkF m 108 #[iv k, iv (k &&& (3 : Int32))] [(.int (own_ch k (18 : Int32))), (.int (2 : Int32)), (.ref b378), (.ref b378), (.ref b375), (.ref b375)])) rfl rfl (hb hby d1_108)
        have V397 : Arv Z h397 b378 k378 .char (3 : Int32) [(.int (nar .char (own_ch k (2 : Int32)))), (.int (nar .char (own_ch k (10 : Int32)))), (.int (nar .char (own_ch k (18 : Int32))))] (.int (0 : Int32)) := Arv.set Ar397 q397 S397 M397 H397 G397 (fits_nar_char _) W397 2 rfl (Nat.le_of_ble_eq_true rfl)
        have N397 := Fr.snoc X397 N394 ge_b378
        have KC397 : Keep h0 h397 [] := KC391.wr W397 (Or.inr sz_b378)
        have CR397 := CR391.trans (CHr.wr W397 (Safe.arr hZ.alike Ar397 (by decide)) CR391.1)
        have hk397 := Nat.le_trans hk391 ((Keep.of_wr W397).1)
        have go398 : own_S p e below ST T397 (mkF m 109 #[iv k, iv (k &&& (3 : Int32))] [(.ref b378), (.ref b375), (.ref b375)]) := fun tt kt => go396 tt (st397 _ kt)
        have f400 := ((((A375.ext E378).wr W385).wr W391).wr W397)
        have f401 := ((((F375_value.ext E378).other W385 (Or.inl neb375_b378)).other W391 (Or.inl neb375_b378)).other W397 (Or.inl neb375_b378))
        have Sf399 : Safe Z own_EL s.vm h397 b375 := own_safeN hZ f400 f401
        have f402 := ((((F375_coder.ext E378).other W385 (Or.inl neb375_b378)).other W391 (Or.inl neb375_b378)).other W397 (Or.inl neb375_b378))
        have f403 := (((((OL.ext E375).ext E378).wr W385 ge_b378).wr W391 ge_b378).wr W397 ge_b378)
        have zs405 := (Nat.le_trans zs395 (Keep.of_wr W397).1)
        obtain ⟨_, _, ⟨T404, L404, k404, n404⟩, -, X404, ⟨Lc404, hQ404, l404, y404, z404⟩, st404⟩ := X397.specialBack hx (y := (⟨"java/lang/String", "<init>", "([C)V"⟩ : MethodName)) rfl hown (mvT hZ (W 11 rfl)) (mvT hZ (W 12 rfl)) (mvT hZ (W 13 rfl)) (by decide) (backOf (W := 1) (rm2k3 l Z a0 hw [] b375 b378 k378 (nar .char (own_ch k (2 : Int32))) (nar .char (own_ch k (10 : Int32))) (nar .char (own_ch k (18 : Int32))) cs h397 n0 zs405 f402 f401 f400 ge_b375 V397 neb375_b378 (own_q k (2 : Int32)) (own_q k (10 : Int32)) (own_q k (18 : Int32)) SC hcs f403) hZ (W 13 rfl) (W 9 rfl) (by decide) (by decide)) (g := (mkF m 109 #[iv k, iv (k &&& (3 : Int32))] [(.ref b378), (.ref b375), (.ref b375)])) rfl (by rw [hml]; rfl) (Steps.refl _) (a := b375) (argsL := [(.ref b378)]) (rest := [(.ref b375)]) (lenOf pd108 rfl) rfl (by show 2 * 0 + _ ≤ _; exact Nat.le_of_eq rfl) (hb hby d1_109) (fun _ _ => ⟨rfl, e397, (by decide : 2 + 1 ≤ _), (by decide : 7 + 3 ≤ _)⟩)
        dsimp only [Pt.U, Pt.locs, Pt.cells, Pt.slots] at X404 l404 y404 z404 st404 hQ404
        subst l404 y404 z404
        obtain ⟨b404, kb404, rfl, Nq404, K404, Fa404, Fb404, Vb404⟩ := hQ404
        have N404 := Fr.app N397 Nq404
        have go406 : own_S p e below ST T404 (mkF m 112 #[iv k, iv (k &&& (3 : Int32))] [(.ref b375)]) := fun tt kt => go398 tt (st404.trans kt)
        have KC404 : Keep h0 T404.heap [] := KC397.trans K404 (allS (Or.inr sz_b375) all0)
        have CR404 := CR397.trans (CHr.keep K404 (allS Sf399 all0) CR397.1)
        have hk404 := Nat.le_trans hk397 (K404.1)
        have hk : k &&& 3 = 3 := own_k3 k c0 c1 c2
        have f407 := (f400.keep K404)
        obtain ⟨fs, hr, hrun, hended, hend⟩ := X404.leaveW (s := s) (vm₁ := s.vm) hS0 (by exact hk404) (v := some (.ref b375)) (fun h => by rw [Bd.returns] at h; cases h) (hlocks := by first | exact BodyLoose.notSynchronized Bd | exact Body.notSynchronized Bd)
        refine ⟨_, _, pre0 _ (go406 _ ?_), hrun, hended, _, _, rfl, ?_, ?_, hend.1, hend.2.1, hend.2.2.1, hend.2.2.2.mono (by decide) (by decide)⟩
        · exact retOut X404 hx Bd.returns rfl (Or.inr (Or.inr (Or.inr (Or.inr ⟨rfl, rfl, rfl⟩)))) (hb hby d1_112) hr
        · show Q1 Z k cs h0 n0 _ T404.heap _
          exact ⟨b404, b375, kb404, rfl, N404, KC404, f407, Fa404, Fb404, (by rw [own_vs3 hk, hk]; exact Vb404), ge_b375, sz_b375⟩
        · show CHr Z own_EL s.vm s.heap T404.vm T404.heap
          exact own_cr hh rfl (CR404.trans (CHv.at X404 hZ hEL CR404.1))
theorem pn171 : plainName "java/util/Objects" = true := by first | (simp [plainName, overriddenIn]; done) | decide +kernel
theorem d10_0 : decode jdk_31_method_11_code 0 = .ok (.aload_n 0, 1) := by decide +kernel
theorem d10_1 : decode jdk_31_method_11_code 1 = .ok (.ifnonnull 12, 3) := by decide +kernel
theorem d10_13 : decode jdk_31_method_11_code 13 = .ok (.aload_n 0, 1) := by decide +kernel
theorem d10_14 : decode jdk_31_method_11_code 14 = .ok (.areturn, 1) := by decide +kernel
theorem ef10 (m : MethodId) (x0 : Addr) (x1 : Addr) : entryFrame m #[(.ref x0), (.ref x1)] 2 = mkF m 0 #[.val (.ref x0), .val (.ref x1)] [] := by first | (simp [entryFrame, mkF, argsToLocals, Value.category]; done) | rfl
def Q10 (Z : State) (o1 : Addr) (o2 : Addr) (h0 : Heap) (n0 : Nat) (v : Option Value) (h : Heap) (L : List Loc) : Prop := v = some (.ref o1) ∧ Fr n0 L ∧ h = h0
set_option maxRecDepth 65536 in
set_option maxHeartbeats 40000000 in
theorem rm10 (l : Launch) (Z : State) (a0 : Array Value) (hw : ∀ d ∈ tables_1, d.before a0 Z = true) (ws : List Jvm.Cond) (o1 : Addr) (o2 : Addr) (h0 : Heap) (n0 : Nat) (Z0 : n0 ≤ h0.size) :
    MetFree l (⟨"java/util/Objects", "requireNonNull", "(Ljava/lang/Object;Ljava/lang/String;)Ljava/lang/Object;"⟩ : MethodName) (head1 (Jvm.Cond.code (⟨"java/util/Objects", "requireNonNull", "(Ljava/lang/Object;Ljava/lang/String;)Ljava/lang/Object;"⟩ : MethodName) jdk_31_method_11_code 2 (some (.object "java/lang/Object")) :: ws) ({ frames := 0, cells := 0, slots := 0, locals := 0 } : Room)) (fun aa UU => aa = #[(.ref o1), (.ref o2)] ∧ Z.Warmed39 UU.vm ∧ UU.heap = h0) (fun _ _ _ _ _ => True) (fun _ UU oo UU' => ∃ vv LL, oo = .returned vv ∧ Q10 Z o1 o2 h0 n0 vv UU'.heap LL ∧ FrameEnd UU oo UU' LL ({ frames := 0, cells := 0, slots := 0, locals := 0 } : Room).cells ({ frames := 0, cells := 0, slots := 0, locals := 0 } : Room).slots) := by
  have W : ∀ {d : Jvm.Cond} (i : Nat), tables_1[i]? = some d → d.before a0 Z = true := fun i h => hw _ (List.mem_of_getElem? h)
  refine MetFree.of_bodySF (plainFor_of_name pn171) hisR ?_
  intro p e s m args below meth c s₁ Bd hml0 hP hK
  obtain ⟨rfl, hZ, hh⟩ := hP
  have hx := Bd.exec
  have hby := Bd.bytes
  have hml : c.maxLocals = 2 := hml0
  have hown : s.vm.findClass "java/util/Objects" = some m.cls := findClass_of_methodNamed Bd.named
  have hnm := (name_of_methodNamed Bd.named Bd.method).1
  have X0 : Stand p l e ({ frames := 0, cells := 0, slots := 0, locals := 0 } : Room) s m #[(.ref o1), (.ref o2)] below meth c s₁ [] 0 0 := Stand.of_body Bd
  have e0 : s₁.heap = h0 := by rw [← hh, Bd.state]; rfl
  have N0 := Fr.nil n0
  have pre0 : ∀ tt, Steps p.tables e below (s₁.setTop (mkF m 0 #[rv o1, rv o2] [])) tt → Steps p.tables e below (s₁.setTop (entryFrame m #[(.ref o1), (.ref o2)] 2)) tt := fun tt kt => castTop (ef10 m o1 o2) kt
  obtain ⟨ST, hST⟩ : ∃ z : State, z = s₁.setTop (mkF m 0 #[rv o1, rv o2] []) := ⟨_, rfl⟩
  rw [← hST] at pre0
  have go408 : own_S p e below ST s₁ (mkF m 14 #[rv o1, rv o2] [(.ref o1)]) := fun tt kt => (by
      rw [hST]
      show Steps p.tables e below (s₁.setTop (mkF m 0 #[rv o1, rv o2] [])) _
      refine XS.aloadN X0.here hx rfl (hb hby d10_0) rfl rfl ?_
      refine XS.ifnonnullYes X0.here hx rfl (pc0 := 1) (pc' := 13) rfl (hb hby d10_1) rfl (by decide) (by decide) ?_
      refine XS.aloadN X0.here hx rfl (hb hby d10_13) rfl rfl ?_
      exact kt)
  obtain ⟨fs, hr, hrun, hended, hW, hsame⟩ := X0.leave (v := some (.ref o1)) (fun h => by rw [Bd.returns] at h; cases h) (hlocks := by first | exact BodyLoose.notSynchronized Bd | exact Body.notSynchronized Bd)
  refine ⟨_, _, pre0 _ (go408 _ ?_), hrun, hended, _, _, rfl, ?_, ⟨_, rfl⟩, hW, hsame.mono (by decide) (by decide)⟩
  · exact retOut X0 hx Bd.returns rfl (Or.inr (Or.inr (Or.inr (Or.inr ⟨rfl, rfl, rfl⟩)))) (hb hby d10_14) hr
  · show Q10 Z o1 o2 h0 n0 _ s₁.heap _
    rw [e0]
    exact ⟨rfl, N0, rfl⟩
theorem pn176 : plainName "com/example/inscribe/inscribe/model/Edge" = true := by first | (simp [plainName, overriddenIn]; done) | decide +kernel
theorem d9_0 : decode prog_68_method_1_code 0 = .ok (.aload_n 0, 1) := by decide +kernel
theorem d9_1 : decode prog_68_method_1_code 1 = .ok (.invokespecial 1, 3) := by decide +kernel
theorem d9_4 : decode prog_68_method_1_code 4 = .ok (.aload_n 0, 1) := by decide +kernel
theorem d9_5 : decode prog_68_method_1_code 5 = .ok (.aload_n 1, 1) := by decide +kernel
theorem d9_6 : decode prog_68_method_1_code 6 = .ok (.ldc 7, 2) := by decide +kernel
theorem d9_8 : decode prog_68_method_1_code 8 = .ok (.invokestatic 9, 3) := by decide +kernel
theorem pd183 : parseMethodDescriptor "(Ljava/lang/Object;Ljava/lang/String;)Ljava/lang/Object;" = some ⟨[(.object "java/lang/Object"), (.object "java/lang/String")], some (.object "java/lang/Object")⟩ := by decide +kernel
theorem d9_11 : decode prog_68_method_1_code 11 = .ok (.checkcast 15, 3) := by decide +kernel
theorem d9_14 : decode prog_68_method_1_code 14 = .ok (.putfield 17, 3) := by decide +kernel
theorem d9_17 : decode prog_68_method_1_code 17 = .ok (.aload_n 0, 1) := by decide +kernel
theorem d9_18 : decode prog_68_method_1_code 18 = .ok (.aload_n 2, 1) := by decide +kernel
theorem d9_19 : decode prog_68_method_1_code 19 = .ok (.ldc 22, 2) := by decide +kernel
theorem d9_21 : decode prog_68_method_1_code 21 = .ok (.invokestatic 9, 3) := by decide +kernel
theorem d9_24 : decode prog_68_method_1_code 24 = .ok (.checkcast 15, 3) := by decide +kernel
theorem d9_27 : decode prog_68_method_1_code 27 = .ok (.putfield 24, 3) := by decide +kernel
theorem d9_30 : decode prog_68_method_1_code 30 = .ok (.return_, 1) := by decide +kernel
theorem ef9 (m : MethodId) (x0 : Addr) (x1 : Addr) (x2 : Addr) : entryFrame m #[(.ref x0), (.ref x1), (.ref x2)] 3 = mkF m 0 #[.val (.ref x0), .val (.ref x1), .val (.ref x2)] [] := by first | (simp [entryFrame, mkF, argsToLocals, Value.category]; done) | rfl
def Q9 (Z : State) (o1 : Addr) (o2 : Addr) (o3 : Addr) (h0 : Heap) (n0 : Nat) (v : Option Value) (h : Heap) (L : List Loc) : Prop := v = none ∧ Fr n0 L ∧ Keep h0 h [o1] ∧ Fld Z h o1 "com/example/inscribe/inscribe/model/Edge" "first" "Ljava/lang/String;" (.ref o2) ∧ Fld Z h o1 "com/example/inscribe/inscribe/model/Edge" "second" "Ljava/lang/String;" (.ref o3)
set_option maxRecDepth 65536 in
set_option maxHeartbeats 40000000 in
theorem rm9 (l : Launch) (Z : State) (a0 : Array Value) (hw : ∀ d ∈ tables_1, d.before a0 Z = true) (ws : List Jvm.Cond) (o1 : Addr) (o2 : Addr) (o3 : Addr) (h0 : Heap) (n0 : Nat) (Z0 : n0 ≤ h0.size) (F1 : Fld Z h0 o1 "com/example/inscribe/inscribe/model/Edge" "first" "Ljava/lang/String;" .null) (F2 : Fld Z h0 o1 "com/example/inscribe/inscribe/model/Edge" "second" "Ljava/lang/String;" .null) (E1 : Exa Z h0 o1 "com/example/inscribe/inscribe/model/Edge") (g1 : n0 ≤ o1) (E2 : Exa Z h0 o2 "java/lang/String") (E3 : Exa Z h0 o3 "java/lang/String") :
    MetFree l (⟨"com/example/inscribe/inscribe/model/Edge", "<init>", "(Ljava/lang/String;Ljava/lang/String;)V"⟩ : MethodName) (head1 (Jvm.Cond.code (⟨"com/example/inscribe/inscribe/model/Edge", "<init>", "(Ljava/lang/String;Ljava/lang/String;)V"⟩ : MethodName) prog_68_method_1_code 3 none :: ws) ({ frames := 1, cells := 4, slots := 52, locals := 14 } : Room)) (fun aa UU => aa = #[(.ref o1), (.ref o2), (.ref o3)] ∧ Z.Warmed39 UU.vm ∧ UU.heap = h0 ∧ CHv Z own_EL UU.vm h0) (fun _ _ _ _ _ => True) (fun _ UU oo UU' => ∃ vv LL, oo = .returned vv ∧ Q9 Z o1 o2 o3 h0 n0 vv UU'.heap LL ∧ CHr Z own_EL UU.vm UU.heap UU'.vm UU'.heap ∧ ReturnedEndW UU oo UU' LL ({ frames := 1, cells := 4, slots := 52, locals := 14 } : Room).cells ({ frames := 1, cells := 4, slots := 52, locals := 14 } : Room).slots) := by
  have W : ∀ {d : Jvm.Cond} (i : Nat), tables_1[i]? = some d → d.before a0 Z = true := fun i h => hw _ (List.mem_of_getElem? h)
  refine MetFree.of_bodySF (plainFor_of_name pn176) hisR ?_
  intro p e s m args below meth c s₁ Bd hml0 hP hK
  obtain ⟨rfl, hZ, hh, hC⟩ := hP
  have hx := Bd.exec
  have hby := Bd.bytes
  have hml : c.maxLocals = 3 := hml0
  have hown : s.vm.findClass "com/example/inscribe/inscribe/model/Edge" = some m.cls := findClass_of_methodNamed Bd.named
  have hnm := (name_of_methodNamed Bd.named Bd.method).1
  have X0 : Stand p l e ({ frames := 1, cells := 4, slots := 52, locals := 14 } : Room) (s.setVm s.vm) m #[(.ref o1), (.ref o2), (.ref o3)] below meth c s₁ [] 0 0 := Stand.of_body Bd
  have e0 : s₁.heap = h0 := by rw [← hh, Bd.state]; rfl
  have N0 := Fr.nil n0
  have pre0 : ∀ tt, Steps p.tables e below (s₁.setTop (mkF m 0 #[rv o1, rv o2, rv o3] [])) tt → Steps p.tables e below (s₁.setTop (entryFrame m #[(.ref o1), (.ref o2), (.ref o3)] 3)) tt := fun tt kt => castTop (ef9 m o1 o2 o3) kt
  obtain ⟨ST, hST⟩ : ∃ z : State, z = s₁.setTop (mkF m 0 #[rv o1, rv o2, rv o3] []) := ⟨_, rfl⟩
  rw [← hST] at pre0
  have hZ : Z.Warmed39 (s.setVm s.vm).vm := hZ
  have hown : (s.setVm s.vm).vm.findClass "com/example/inscribe/inscribe/model/Edge" = some m.cls := hown
  have hS0 : s.Since s.vm s.heap.size := (State.WarmedH.refl s).since _
  have hk0 : s.heap.size ≤ h0.size := Nat.le_of_eq (congrArg Array.size hh)
  have hEL := own_ew hw
  have hWS := own_WS hw
  have CR0 : CHr Z own_EL s.vm h0 s.vm h0 := CHr.refl hC
  have KC0 : Keep h0 h0 [o1] := Keep.refl h0 [o1]
  have go409 : own_S p e below ST s₁ (mkF m 1 #[rv o1, rv o2, rv o3] [(.ref o1)]) := fun tt kt => (by
      rw [hST]
      show Steps p.tables e below (s₁.setTop (mkF m 0 #[rv o1, rv o2, rv o3] [])) _
      refine XS.aloadN X0.here hx rfl (hb hby d9_0) rfl rfl ?_
      exact kt)
  obtain ⟨T410, X410, e410, st410⟩ := initO X0 hx hZ hown (W 46 rfl) (W 19 rfl) (W 20 rfl) e0 (g := (mkF m 1 #[rv o1, rv o2, rv o3] [(.ref o1)])) rfl (by rw [hml]; rfl) rfl (hb hby d9_1) (by decide) (W := 0) (by show 2 * 0 + _ ≤ _; exact Nat.le_of_eq rfl) (by decide)
  have go411 : own_S p e below ST T410 (mkF m 4 #[rv o1, rv o2, rv o3] []) := fun tt kt => go409 tt (st410 _ kt)
  have go412 : own_S p e below ST T410 (mkF m 6 #[rv o1, rv o2, rv o3] [(.ref o2), (.ref o1)]) := fun tt kt => go411 tt (by
      refine XS.aloadN X410.here hx rfl (hb hby d9_4) rfl rfl ?_
      refine XS.aloadN X410.here hx rfl (hb hby d9_5) rfl rfl ?_
      exact kt)
  obtain ⟨a413, T413, h413, k413, X413, e413, E413, hS413, hk413, hZ, hown, C413, Li413, st413⟩ := ldcOH (s := s) (vm0 := s.vm) X410 hx hZ hown (W 47 rfl) hWS e410 hS0 hk0 hEL CR0.1 (g := (mkF m 6 #[rv o1, rv o2, rv o3] [(.ref o2), (.ref o1)])) rfl (hb hby d9_6) (n := 20) (by decide) (by decide) (by decide) (by decide)
  have KC413 : Keep h0 h413 [o1] := KC0.ext E413
  have CR413 := CR0.trans (C413)
  have go414 : own_S p e below ST T413 (mkF m 8 #[rv o1, rv o2, rv o3] [(.ref a413), (.ref o2), (.ref o1)]) := fun tt kt => go412 tt (st413 _ kt)
  have zs416 := (Nat.le_trans Z0 E413.1)
  obtain ⟨_, _, ⟨T415, L415, k415, n415⟩, -, X415, ⟨Lc415, hQ415, l415, y415, z415⟩, st415⟩ := Jvm.LawKit.callS X413 hx (y := (⟨"java/util/Objects", "requireNonNull", "(Ljava/lang/Object;Ljava/lang/String;)Ljava/lang/Object;"⟩ : MethodName)) hown (mvT hZ (W 48 rfl)) (mvT hZ (W 49 rfl)) (mvT hZ (W 50 rfl)) (mvT hZ (W 51 rfl)) (by decide) (backOf (W := 1) (rm10 l Z a0 hw [] o2 a413 h413 n0 zs416 ) hZ (W 51 rfl) (W 50 rfl) (by decide) (by decide)) (g := (mkF m 8 #[rv o1, rv o2, rv o3] [(.ref a413), (.ref o2), (.ref o1)])) rfl (by rw [hml]; rfl) (argsL := [(.ref o2), (.ref a413)]) (rest := [(.ref o1)]) (lenOf pd183 rfl) rfl (by show 2 * 0 + _ ≤ _; exact Nat.le_of_eq rfl) (hb hby d9_8) (fun _ _ => ⟨rfl, e413, (by decide : 2 + 0 ≤ _), (by decide : 24 + 0 ≤ _)⟩)
  dsimp only [Pt.U, Pt.locs, Pt.cells, Pt.slots] at X415 l415 y415 z415 st415 hQ415
  subst l415 y415 z415
  obtain ⟨rfl, Nq415, eh415⟩ := hQ415
  have N415 := Fr.app N0 Nq415
  have go417 : own_S p e below ST T415 (mkF m 11 #[rv o1, rv o2, rv o3] [(.ref o2), (.ref o1)]) := fun tt kt => go414 tt (st415 _ kt)
  have f419 := (E2.ext E413)
  obtain ⟨T418, X418, e418, st418⟩ := castY X415 hx hZ hown (W 52 rfl) eh415 (Ins.self f419) (g := (mkF m 11 #[rv o1, rv o2, rv o3] [(.ref o2), (.ref o1)])) rfl rfl (hb hby d9_11)
  have go420 : own_S p e below ST T418 (mkF m 14 #[rv o1, rv o2, rv o3] [(.ref o2), (.ref o1)]) := fun tt kt => go417 tt (st418 _ kt)
  have f422 := (E1.ext E413)
  have Sf421 : Safe Z own_EL T413.vm h413 o1 := Safe.exa hZ.alike f422 (by decide) (by decide)
  have f424 := (F1.ext E413)
  obtain ⟨T423, h423, X423, e423, W423, st423⟩ := putF X418 hx hZ hown (host := "") (Or.inl (W 53 rfl)) Via.refl e418 f424 f422 (Or.inr ⟨(W 54 rfl), rfl, hnm⟩) (W 1 rfl) (ty := (.object "java/lang/String")) (by decide) rfl rfl (g := (mkF m 14 #[rv o1, rv o2, rv o3] [(.ref o2), (.ref o1)])) rfl rfl (hb hby d9_14)
  have Fw423 := f424.same W423
  have N423 := Fr.snoc X423 N415 g1
  have go425 : own_S p e below ST T423 (mkF m 17 #[rv o1, rv o2, rv o3] []) := fun tt kt => go420 tt (st423 _ kt)
  have KC423 : Keep h0 h423 [o1] := KC413.wr W423 (Or.inl (List.mem_of_getElem? (i := 0) rfl))
  have CR423 := CR413.trans (CHr.wr W423 Sf421 CR413.1)
  have hk423 := Nat.le_trans hk413 ((Keep.of_wr W423).1)
  have go426 : own_S p e below ST T423 (mkF m 19 #[rv o1, rv o2, rv o3] [(.ref o3), (.ref o1)]) := fun tt kt => go425 tt (by
      refine XS.aloadN X423.here hx rfl (hb hby d9_17) rfl rfl ?_
      refine XS.aloadN X423.here hx rfl (hb hby d9_18) rfl rfl ?_
      exact kt)
  obtain ⟨a427, T427, h427, k427, X427, e427, E427, hS427, hk427, hZ, hown, C427, Li427, st427⟩ := ldcOH (s := s) (vm0 := T413.vm) X423 hx hZ hown (W 55 rfl) hWS e423 hS413 hk423 hEL CR423.1 (g := (mkF m 19 #[rv o1, rv o2, rv o3] [(.ref o3), (.ref o1)])) rfl (hb hby d9_19) (n := 24) (by decide) (by decide) (by decide) (by decide)
  have KC427 : Keep h0 h427 [o1] := KC423.ext E427
  have CR427 := CR423.trans (C427)
  have go428 : own_S p e below ST T427 (mkF m 21 #[rv o1, rv o2, rv o3] [(.ref a427), (.ref o3), (.ref o1)]) := fun tt kt => go426 tt (st427 _ kt)
  have zs430 := (Nat.le_trans (Nat.le_trans zs416 (Keep.of_wr W423).1) E427.1)
  obtain ⟨_, _, ⟨T429, L429, k429, n429⟩, -, X429, ⟨Lc429, hQ429, l429, y429, z429⟩, st429⟩ := Jvm.LawKit.callS X427 hx (y := (⟨"java/util/Objects", "requireNonNull", "(Ljava/lang/Object;Ljava/lang/String;)Ljava/lang/Object;"⟩ : MethodName)) hown (mvT hZ (W 48 rfl)) (mvT hZ (W 49 rfl)) (mvT hZ (W 50 rfl)) (mvT hZ (W 51 rfl)) (by decide) (backOf (W := 1) (rm10 l Z a0 hw [] o3 a427 h427 n0 zs430 ) hZ (W 51 rfl) (W 50 rfl) (by decide) (by decide)) (g := (mkF m 21 #[rv o1, rv o2, rv o3] [(.ref a427), (.ref o3), (.ref o1)])) rfl (by rw [hml]; rfl) (argsL := [(.ref o3), (.ref a427)]) (rest := [(.ref o1)]) (lenOf pd183 rfl) rfl (by show 2 * 0 + _ ≤ _; exact Nat.le_of_eq rfl) (hb hby d9_21) (fun _ _ => ⟨rfl, e427, (by decide : 4 + 0 ≤ _), (by decide : 52 + 0 ≤ _)⟩)
  dsimp only [Pt.U, Pt.locs, Pt.cells, Pt.slots] at X429 l429 y429 z429 st429 hQ429
  subst l429 y429 z429
  obtain ⟨rfl, Nq429, eh429⟩ := hQ429
  have N429 := Fr.app N423 Nq429
  have go431 : own_S p e below ST T429 (mkF m 24 #[rv o1, rv o2, rv o3] [(.ref o3), (.ref o1)]) := fun tt kt => go428 tt (st429 _ kt)
  have f433 := (((E3.ext E413).wr W423).ext E427)
  obtain ⟨T432, X432, e432, st432⟩ := castY X429 hx hZ hown (W 52 rfl) eh429 (Ins.self f433) (g := (mkF m 24 #[rv o1, rv o2, rv o3] [(.ref o3), (.ref o1)])) rfl rfl (hb hby d9_24)
  have go434 : own_S p e below ST T432 (mkF m 27 #[rv o1, rv o2, rv o3] [(.ref o3), (.ref o1)]) := fun tt kt => go431 tt (st432 _ kt)
  have f436 := ((f422.wr W423).ext E427)
  have Sf435 : Safe Z own_EL T427.vm h427 o1 := Safe.exa hZ.alike f436 (by decide) (by decide)
  have f438 := (((F2.ext E413).other W423 (Or.inr (slot_ne (Or.inr (W 57 rfl)) (Or.inr (W 54 rfl)) (by decide) (t := (.object "java/lang/String")) (t' := (.object "java/lang/String")) (by decide) (by decide)))).ext E427)
  obtain ⟨T437, h437, X437, e437, W437, st437⟩ := putF X432 hx hZ hown (host := "") (Or.inl (W 56 rfl)) Via.refl e432 f438 f436 (Or.inr ⟨(W 57 rfl), rfl, hnm⟩) (W 1 rfl) (ty := (.object "java/lang/String")) (by decide) rfl rfl (g := (mkF m 27 #[rv o1, rv o2, rv o3] [(.ref o3), (.ref o1)])) rfl rfl (hb hby d9_27)
  have Fw437 := f438.same W437
  have N437 := Fr.snoc X437 N429 g1
  have go439 : own_S p e below ST T437 (mkF m 30 #[rv o1, rv o2, rv o3] []) := fun tt kt => go434 tt (st437 _ kt)
  have KC437 : Keep h0 h437 [o1] := KC427.wr W437 (Or.inl (List.mem_of_getElem? (i := 0) rfl))
  have CR437 := CR427.trans (CHr.wr W437 Sf435 CR427.1)
  have hk437 := Nat.le_trans hk427 ((Keep.of_wr W437).1)
  have f440 := ((Fw423.ext E427).other W437 (Or.inr (slot_ne (Or.inr (W 54 rfl)) (Or.inr (W 57 rfl)) (by decide) (t := (.object "java/lang/String")) (t' := (.object "java/lang/String")) (by decide) (by decide))))
  obtain ⟨fs, hr, hrun, hended, hend⟩ := X437.leaveW (s := s) (vm₁ := T427.vm) hS427 (by rw [e437]; exact hk437) (v := none) (fun _ => rfl) (hlocks := by first | exact BodyLoose.notSynchronized Bd | exact Body.notSynchronized Bd)
  refine ⟨_, _, pre0 _ (go439 _ ?_), hrun, hended, _, _, rfl, ?_, ?_, hend.1, hend.2.1, hend.2.2.1, hend.2.2.2.mono (by decide) (by decide)⟩
  · exact X437.returnOut hx Bd.returns (hb hby d9_30) hr
  · show Q9 Z o1 o2 o3 h0 n0 _ T437.heap _
    rw [e437]
    exact ⟨rfl, N437, KC437, f440, Fw437⟩
  · show CHr Z own_EL s.vm s.heap T437.vm T437.heap
    exact own_cr hh e437 (CR437.trans (CHv.at X437 hZ hEL CR437.1))
theorem d11_0 : decode method_4_code 0 = .ok (.iload_n 0, 1) := by decide +kernel
theorem d11_1 : decode method_4_code 1 = .ok (.iconst 3, 1) := by decide +kernel
theorem d11_2 : decode method_4_code 2 = .ok (.iand, 1) := by decide +kernel
theorem d11_3 : decode method_4_code 3 = .ok (.istore_n 2, 1) := by decide +kernel
theorem d11_4 : decode method_4_code 4 = .ok (.iload_n 1, 1) := by decide +kernel
theorem d11_5 : decode method_4_code 5 = .ok (.iconst 3, 1) := by decide +kernel
theorem d11_6 : decode method_4_code 6 = .ok (.iand, 1) := by decide +kernel
theorem d11_7 : decode method_4_code 7 = .ok (.istore_n 3, 1) := by decide +kernel
theorem d11_8 : decode method_4_code 8 = .ok (.iload_n 2, 1) := by decide +kernel
theorem d11_9 : decode method_4_code 9 = .ok (.iload_n 3, 1) := by decide +kernel
theorem d11_10 : decode method_4_code 10 = .ok (.if_icmp .eq 5, 3) := by decide +kernel
theorem d11_15 : decode method_4_code 15 = .ok (.iload_n 2, 1) := by decide +kernel
theorem d11_16 : decode method_4_code 16 = .ok (.iconst 1, 1) := by decide +kernel
theorem d11_17 : decode method_4_code 17 = .ok (.if_icmp .lt 18, 3) := by decide +kernel
theorem d11_20 : decode method_4_code 20 = .ok (.iload_n 0, 1) := by decide +kernel
theorem d11_21 : decode method_4_code 21 = .ok (.iconst 2, 1) := by decide +kernel
theorem d11_22 : decode method_4_code 22 = .ok (.invokestatic 12, 3) := by decide +kernel
theorem d11_25 : decode method_4_code 25 = .ok (.iload_n 1, 1) := by decide +kernel
theorem d11_26 : decode method_4_code 26 = .ok (.iconst 2, 1) := by decide +kernel
theorem d11_27 : decode method_4_code 27 = .ok (.invokestatic 12, 3) := by decide +kernel
theorem d11_30 : decode method_4_code 30 = .ok (.if_icmp .eq 5, 3) := by decide +kernel
theorem d11_35 : decode method_4_code 35 = .ok (.iload_n 2, 1) := by decide +kernel
theorem d11_36 : decode method_4_code 36 = .ok (.iconst 2, 1) := by decide +kernel
theorem d11_37 : decode method_4_code 37 = .ok (.if_icmp .lt 20, 3) := by decide +kernel
theorem d11_40 : decode method_4_code 40 = .ok (.iload_n 0, 1) := by decide +kernel
theorem d11_41 : decode method_4_code 41 = .ok (.bipush 10, 2) := by decide +kernel
theorem d11_43 : decode method_4_code 43 = .ok (.invokestatic 12, 3) := by decide +kernel
theorem d11_46 : decode method_4_code 46 = .ok (.iload_n 1, 1) := by decide +kernel
theorem d11_47 : decode method_4_code 47 = .ok (.bipush 10, 2) := by decide +kernel
theorem d11_49 : decode method_4_code 49 = .ok (.invokestatic 12, 3) := by decide +kernel
theorem d11_52 : decode method_4_code 52 = .ok (.if_icmp .eq 5, 3) := by decide +kernel
theorem d11_57 : decode method_4_code 57 = .ok (.iload_n 2, 1) := by decide +kernel
theorem d11_58 : decode method_4_code 58 = .ok (.iconst 3, 1) := by decide +kernel
theorem d11_59 : decode method_4_code 59 = .ok (.if_icmp .lt 20, 3) := by decide +kernel
theorem d11_62 : decode method_4_code 62 = .ok (.iload_n 0, 1) := by decide +kernel
theorem d11_63 : decode method_4_code 63 = .ok (.bipush 18, 2) := by decide +kernel
theorem d11_65 : decode method_4_code 65 = .ok (.invokestatic 12, 3) := by decide +kernel
theorem d11_68 : decode method_4_code 68 = .ok (.iload_n 1, 1) := by decide +kernel
theorem d11_69 : decode method_4_code 69 = .ok (.bipush 18, 2) := by decide +kernel
theorem d11_71 : decode method_4_code 71 = .ok (.invokestatic 12, 3) := by decide +kernel
theorem d11_74 : decode method_4_code 74 = .ok (.if_icmp .eq 5, 3) := by decide +kernel
theorem d11_79 : decode method_4_code 79 = .ok (.iconst 1, 1) := by decide +kernel
theorem d11_80 : decode method_4_code 80 = .ok (.ireturn, 1) := by decide +kernel
theorem d11_77 : decode method_4_code 77 = .ok (.iconst 0, 1) := by decide +kernel
theorem d11_78 : decode method_4_code 78 = .ok (.ireturn, 1) := by decide +kernel
theorem d11_55 : decode method_4_code 55 = .ok (.iconst 0, 1) := by decide +kernel
theorem d11_56 : decode method_4_code 56 = .ok (.ireturn, 1) := by decide +kernel
theorem d11_33 : decode method_4_code 33 = .ok (.iconst 0, 1) := by decide +kernel
theorem d11_34 : decode method_4_code 34 = .ok (.ireturn, 1) := by decide +kernel
theorem d11_13 : decode method_4_code 13 = .ok (.iconst 0, 1) := by decide +kernel
theorem d11_14 : decode method_4_code 14 = .ok (.ireturn, 1) := by decide +kernel
theorem ef11k3 (m : MethodId) (x0 : Int32) (x1 : Int32) : entryFrame m #[(.int x0), (.int x1)] 4 = mkF m 0 #[.val (.int x0), .val (.int x1), .unset, .unset] [] := by first | (simp [entryFrame, mkF, argsToLocals, Value.category]; done) | rfl
def Q11k3 (Z : State) (p0 : Int32) (p1 : Int32) (h0 : Heap) (n0 : Nat) (v : Option Value) (h : Heap) (L : List Loc) : Prop := v = some (.int (own_ke p0 p1)) ∧ Fr n0 L ∧ h = h0
set_option maxRecDepth 65536 in
set_option maxHeartbeats 40000000 in
theorem rm11k3 (l : Launch) (Z : State) (a0 : Array Value) (hw : ∀ d ∈ tables_1, d.before a0 Z = true) (ws : List Jvm.Cond) (p0 : Int32) (p1 : Int32) (h0 : Heap) (n0 : Nat) (Z0 : n0 ≤ h0.size) (hk : p0 &&& 3 = 3) :
    MetFree l (⟨"com/example/inscribe/inscribe/model/EdgeEqualsPinLaw", "sameKey", "(II)Z"⟩ : MethodName) (head1 (Jvm.Cond.code (⟨"com/example/inscribe/inscribe/model/EdgeEqualsPinLaw", "sameKey", "(II)Z"⟩ : MethodName) method_4_code 4 (some .boolean) :: ws) ({ frames := 1, cells := 0, slots := 0, locals := 14 } : Room)) (fun aa UU => aa = #[(.int p0), (.int p1)] ∧ Z.Warmed39 UU.vm ∧ UU.heap = h0) (fun _ _ _ _ _ => True) (fun _ UU oo UU' => ∃ vv LL, oo = .returned vv ∧ Q11k3 Z p0 p1 h0 n0 vv UU'.heap LL ∧ FrameEnd UU oo UU' LL ({ frames := 1, cells := 0, slots := 0, locals := 14 } : Room).cells ({ frames := 1, cells := 0, slots := 0, locals := 14 } : Room).slots) := by
  have W : ∀ {d : Jvm.Cond} (i : Nat), tables_1[i]? = some d → d.before a0 Z = true := fun i h => hw _ (List.mem_of_getElem? h)
  refine MetFree.of_bodySF (plainFor_of_name pn0) hisR ?_
  intro p e s m args below meth c s₁ Bd hml0 hP hK
  obtain ⟨rfl, hZ, hh⟩ := hP
  have hx := Bd.exec
  have hby := Bd.bytes
  have hml : c.maxLocals = 4 := hml0
  have hown : s.vm.findClass "com/example/inscribe/inscribe/model/EdgeEqualsPinLaw" = some m.cls := findClass_of_methodNamed Bd.named
  have hnm := (name_of_methodNamed Bd.named Bd.method).1
  have X0 : Stand p l e ({ frames := 1, cells := 0, slots := 0, locals := 14 } : Room) s m #[(.int p0), (.int p1)] below meth c s₁ [] 0 0 := Stand.of_body Bd
  have e0 : s₁.heap = h0 := by rw [← hh, Bd.state]; rfl
  have N0 := Fr.nil n0
  have pre0 : ∀ tt, Steps p.tables e below (s₁.setTop (mkF m 0 #[iv p0, iv p1, .unset, .unset] [])) tt → Steps p.tables e below (s₁.setTop (entryFrame m #[(.int p0), (.int p1)] 4)) tt := fun tt kt => castTop (ef11k3 m p0 p1) kt
  obtain ⟨ST, hST⟩ : ∃ z : State, z = s₁.setTop (mkF m 0 #[iv p0, iv p1, .unset, .unset] []) := ⟨_, rfl⟩
  rw [← hST] at pre0
  have a1 : ¬ (p0 &&& 3) < 1 := by rw [hk]; decide
  have a2 : ¬ (p0 &&& 3) < 2 := by rw [hk]; decide
  have a3 : ¬ (p0 &&& 3) < 3 := by rw [hk]; decide
  have go441 : own_S p e below ST s₁ (mkF m 10 #[iv p0, iv p1, iv (p0 &&& (3 : Int32)), iv (p1 &&& (3 : Int32))] [(.int (p1 &&& (3 : Int32))), (.int (p0 &&& (3 : Int32)))]) := fun tt kt => (by
      rw [hST]
      show Steps p.tables e below (s₁.setTop (mkF m 0 #[iv p0, iv p1, .unset, .unset] [])) _
      refine XS.iloadN X0.here hx rfl (hb hby d11_0) rfl ?_
      refine XS.iconst X0.here hx rfl (hb hby d11_1) ?_
      refine XS.iand X0.here hx rfl (hb hby d11_2) rfl ?_
      refine XS.istoreN X0.here hx rfl (hb hby d11_3) rfl (l' := #[iv p0, iv p1, iv (p0 &&& (3 : Int32)), .unset]) rfl ?_
      refine XS.iloadN X0.here hx rfl (hb hby d11_4) rfl ?_
      refine XS.iconst X0.here hx rfl (hb hby d11_5) ?_
      show Steps p.tables e below (s₁.setTop (mkF m 6 #[iv p0, iv p1, iv (p0 &&& (3 : Int32)), .unset] [(.int (3 : Int32)), (.int p1)])) _
      refine XS.iand X0.here hx rfl (hb hby d11_6) rfl ?_
      refine XS.istoreN X0.here hx rfl (hb hby d11_7) rfl (l' := #[iv p0, iv p1, iv (p0 &&& (3 : Int32)), iv (p1 &&& (3 : Int32))]) rfl ?_
      refine XS.iloadN X0.here hx rfl (hb hby d11_8) rfl ?_
      refine XS.iloadN X0.here hx rfl (hb hby d11_9) rfl ?_
      exact kt)
  by_cases c0 : (p0 &&& (3 : Int32)) = (p1 &&& (3 : Int32))
  · have go442 : own_S p e below ST s₁ (mkF m 15 #[iv p0, iv p1, iv (p0 &&& (3 : Int32)), iv (p1 &&& (3 : Int32))] []) := fun tt kt => go441 tt (by
        refine XS.icmpYes X0.here hx rfl (pc0 := 10) (pc' := 15) rfl (hb hby d11_10) rfl (teq c0).1 (by decide) (by decide) ?_
        exact kt)
    have go443 : own_S p e below ST s₁ (mkF m 22 #[iv p0, iv p1, iv (p0 &&& (3 : Int32)), iv (p1 &&& (3 : Int32))] [(.int (2 : Int32)), (.int p0)]) := fun tt kt => go442 tt (by
        refine XS.iloadN X0.here hx rfl (hb hby d11_15) rfl ?_
        refine XS.iconst X0.here hx rfl (hb hby d11_16) ?_
        refine XS.icmpNo X0.here hx rfl (hb hby d11_17) rfl (flt a1).1 ?_
        refine XS.iloadN X0.here hx rfl (hb hby d11_20) rfl ?_
        refine XS.iconst X0.here hx rfl (hb hby d11_21) ?_
        exact kt)
    obtain ⟨_, _, ⟨T444, L444, k444, n444⟩, -, X444, ⟨Lc444, hQ444, l444, y444, z444⟩, st444⟩ := Jvm.LawKit.callS X0 hx (y := (⟨"com/example/inscribe/inscribe/model/EdgeEqualsPinLaw", "ch", "(II)C"⟩ : MethodName)) hown (mvT hZ (W 29 rfl)) (mvT hZ (W 30 rfl)) (mvT hZ (W 5 rfl)) (mvT hZ (W 31 rfl)) (by decide) (backOf (W := 0) (rm5 l Z a0 hw [] p0 (2 : Int32) h0 n0 Z0 ) hZ (W 31 rfl) (W 5 rfl) (by decide) (by decide)) (g := (mkF m 22 #[iv p0, iv p1, iv (p0 &&& (3 : Int32)), iv (p1 &&& (3 : Int32))] [(.int (2 : Int32)), (.int p0)])) rfl (by rw [hml]; rfl) (argsL := [(.int p0), (.int (2 : Int32))]) (rest := []) (lenOf pd122 rfl) rfl (by show 2 * 0 + _ ≤ _; exact Nat.le_of_eq rfl) (hb hby d11_22) (fun _ _ => ⟨rfl, e0, (by decide : 0 + 0 ≤ _), (by decide : 0 + 0 ≤ _)⟩)
    dsimp only [Pt.U, Pt.locs, Pt.cells, Pt.slots] at X444 l444 y444 z444 st444 hQ444
    subst l444 y444 z444
    obtain ⟨rfl, Nq444, eh444⟩ := hQ444
    have N444 := Fr.app N0 Nq444
    have go445 : own_S p e below ST T444 (mkF m 25 #[iv p0, iv p1, iv (p0 &&& (3 : Int32)), iv (p1 &&& (3 : Int32))] [(.int (own_ch p0 (2 : Int32)))]) := fun tt kt => go443 tt (st444 _ kt)
    have go446 : own_S p e below ST T444 (mkF m 27 #[iv p0, iv p1, iv (p0 &&& (3 : Int32)), iv (p1 &&& (3 : Int32))] [(.int (2 : Int32)), (.int p1), (.int (own_ch p0 (2 : Int32)))]) := fun tt kt => go445 tt (by
        refine XS.iloadN X444.here hx rfl (hb hby d11_25) rfl ?_
        refine XS.iconst X444.here hx rfl (hb hby d11_26) ?_
        exact kt)
    obtain ⟨_, _, ⟨T447, L447, k447, n447⟩, -, X447, ⟨Lc447, hQ447, l447, y447, z447⟩, st447⟩ := Jvm.LawKit.callS X444 hx (y := (⟨"com/example/inscribe/inscribe/model/EdgeEqualsPinLaw", "ch", "(II)C"⟩ : MethodName)) hown (mvT hZ (W 29 rfl)) (mvT hZ (W 30 rfl)) (mvT hZ (W 5 rfl)) (mvT hZ (W 31 rfl)) (by decide) (backOf (W := 1) (rm5 l Z a0 hw [] p1 (2 : Int32) h0 n0 Z0 ) hZ (W 31 rfl) (W 5 rfl) (by decide) (by decide)) (g := (mkF m 27 #[iv p0, iv p1, iv (p0 &&& (3 : Int32)), iv (p1 &&& (3 : Int32))] [(.int (2 : Int32)), (.int p1), (.int (own_ch p0 (2 : Int32)))])) rfl (by rw [hml]; rfl) (argsL := [(.int p1), (.int (2 : Int32))]) (rest := [(.int (own_ch p0 (2 : Int32)))]) (lenOf pd122 rfl) rfl (by show 2 * 0 + _ ≤ _; exact Nat.le_of_eq rfl) (hb hby d11_27) (fun _ _ => ⟨rfl, eh444, (by decide : 0 + 0 ≤ _), (by decide : 0 + 0 ≤ _)⟩)
    dsimp only [Pt.U, Pt.locs, Pt.cells, Pt.slots] at X447 l447 y447 z447 st447 hQ447
    subst l447 y447 z447
    obtain ⟨rfl, Nq447, eh447⟩ := hQ447
    have N447 := Fr.app N444 Nq447
    have go448 : own_S p e below ST T447 (mkF m 30 #[iv p0, iv p1, iv (p0 &&& (3 : Int32)), iv (p1 &&& (3 : Int32))] [(.int (own_ch p1 (2 : Int32))), (.int (own_ch p0 (2 : Int32)))]) := fun tt kt => go446 tt (st447 _ kt)
    by_cases d0 : (own_ch p0 (2 : Int32)) = (own_ch p1 (2 : Int32))
    · have go449 : own_S p e below ST T447 (mkF m 35 #[iv p0, iv p1, iv (p0 &&& (3 : Int32)), iv (p1 &&& (3 : Int32))] []) := fun tt kt => go448 tt (by
          refine XS.icmpYes X447.here hx rfl (pc0 := 30) (pc' := 35) rfl (hb hby d11_30) rfl (teq d0).1 (by decide) (by decide) ?_
          exact kt)
      have go450 : own_S p e below ST T447 (mkF m 43 #[iv p0, iv p1, iv (p0 &&& (3 : Int32)), iv (p1 &&& (3 : Int32))] [(.int (10 : Int32)), (.int p0)]) := fun tt kt => go449 tt (by
          refine XS.iloadN X447.here hx rfl (hb hby d11_35) rfl ?_
          refine XS.iconst X447.here hx rfl (hb hby d11_36) ?_
          refine XS.icmpNo X447.here hx rfl (hb hby d11_37) rfl (flt a2).1 ?_
          refine XS.iloadN X447.here hx rfl (hb hby d11_40) rfl ?_
          refine XS.bipush X447.here hx rfl (hb hby d11_41) ?_
          exact kt)
      obtain ⟨_, _, ⟨T451, L451, k451, n451⟩, -, X451, ⟨Lc451, hQ451, l451, y451, z451⟩, st451⟩ := Jvm.LawKit.callS X447 hx (y := (⟨"com/example/inscribe/inscribe/model/EdgeEqualsPinLaw", "ch", "(II)C"⟩ : MethodName)) hown (mvT hZ (W 29 rfl)) (mvT hZ (W 30 rfl)) (mvT hZ (W 5 rfl)) (mvT hZ (W 31 rfl)) (by decide) (backOf (W := 0) (rm5 l Z a0 hw [] p0 (10 : Int32) h0 n0 Z0 ) hZ (W 31 rfl) (W 5 rfl) (by decide) (by decide)) (g := (mkF m 43 #[iv p0, iv p1, iv (p0 &&& (3 : Int32)), iv (p1 &&& (3 : Int32))] [(.int (10 : Int32)), (.int p0)])) rfl (by rw [hml]; rfl) (argsL := [(.int p0), (.int (10 : Int32))]) (rest := []) (lenOf pd122 rfl) rfl (by show 2 * 0 + _ ≤ _; exact Nat.le_of_eq rfl) (hb hby d11_43) (fun _ _ => ⟨rfl, eh447, (by decide : 0 + 0 ≤ _), (by decide : 0 + 0 ≤ _)⟩)
      dsimp only [Pt.U, Pt.locs, Pt.cells, Pt.slots] at X451 l451 y451 z451 st451 hQ451
      subst l451 y451 z451
      obtain ⟨rfl, Nq451, eh451⟩ := hQ451
      have N451 := Fr.app N447 Nq451
      have go452 : own_S p e below ST T451 (mkF m 46 #[iv p0, iv p1, iv (p0 &&& (3 : Int32)), iv (p1 &&& (3 : Int32))] [(.int (own_ch p0 (10 : Int32)))]) := fun tt kt => go450 tt (st451 _ kt)
      have go453 : own_S p e below ST T451 (mkF m 49 #[iv p0, iv p1, iv (p0 &&& (3 : Int32)), iv (p1 &&& (3 : Int32))] [(.int (10 : Int32)), (.int p1), (.int (own_ch p0 (10 : Int32)))]) := fun tt kt => go452 tt (by
          refine XS.iloadN X451.here hx rfl (hb hby d11_46) rfl ?_
          refine XS.bipush X451.here hx rfl (hb hby d11_47) ?_
          exact kt)
      obtain ⟨_, _, ⟨T454, L454, k454, n454⟩, -, X454, ⟨Lc454, hQ454, l454, y454, z454⟩, st454⟩ := Jvm.LawKit.callS X451 hx (y := (⟨"com/example/inscribe/inscribe/model/EdgeEqualsPinLaw", "ch", "(II)C"⟩ : MethodName)) hown (mvT hZ (W 29 rfl)) (mvT hZ (W 30 rfl)) (mvT hZ (W 5 rfl)) (mvT hZ (W 31 rfl)) (by decide) (backOf (W := 1) (rm5 l Z a0 hw [] p1 (10 : Int32) h0 n0 Z0 ) hZ (W 31 rfl) (W 5 rfl) (by decide) (by decide)) (g := (mkF m 49 #[iv p0, iv p1, iv (p0 &&& (3 : Int32)), iv (p1 &&& (3 : Int32))] [(.int (10 : Int32)), (.int p1), (.int (own_ch p0 (10 : Int32)))])) rfl (by rw [hml]; rfl) (argsL := [(.int p1), (.int (10 : Int32))]) (rest := [(.int (own_ch p0 (10 : Int32)))]) (lenOf pd122 rfl) rfl (by show 2 * 0 + _ ≤ _; exact Nat.le_of_eq rfl) (hb hby d11_49) (fun _ _ => ⟨rfl, eh451, (by decide : 0 + 0 ≤ _), (by decide : 0 + 0 ≤ _)⟩)
      dsimp only [Pt.U, Pt.locs, Pt.cells, Pt.slots] at X454 l454 y454 z454 st454 hQ454
      subst l454 y454 z454
      obtain ⟨rfl, Nq454, eh454⟩ := hQ454
      have N454 := Fr.app N451 Nq454
      have go455 : own_S p e below ST T454 (mkF m 52 #[iv p0, iv p1, iv (p0 &&& (3 : Int32)), iv (p1 &&& (3 : Int32))] [(.int (own_ch p1 (10 : Int32))), (.int (own_ch p0 (10 : Int32)))]) := fun tt kt => go453 tt (st454 _ kt)
      by_cases d1 : (own_ch p0 (10 : Int32)) = (own_ch p1 (10 : Int32))
      · have go456 : own_S p e below ST T454 (mkF m 57 #[iv p0, iv p1, iv (p0 &&& (3 : Int32)), iv (p1 &&& (3 : Int32))] []) := fun tt kt => go455 tt (by
            refine XS.icmpYes X454.here hx rfl (pc0 := 52) (pc' := 57) rfl (hb hby d11_52) rfl (teq d1).1 (by decide) (by decide) ?_
            exact kt)
        have go457 : own_S p e below ST T454 (mkF m 65 #[iv p0, iv p1, iv (p0 &&& (3 : Int32)), iv (p1 &&& (3 : Int32))] [(.int (18 : Int32)), (.int p0)]) := fun tt kt => go456 tt (by
            refine XS.iloadN X454.here hx rfl (hb hby d11_57) rfl ?_
            refine XS.iconst X454.here hx rfl (hb hby d11_58) ?_
            refine XS.icmpNo X454.here hx rfl (hb hby d11_59) rfl (flt a3).1 ?_
            refine XS.iloadN X454.here hx rfl (hb hby d11_62) rfl ?_
            refine XS.bipush X454.here hx rfl (hb hby d11_63) ?_
            exact kt)
        obtain ⟨_, _, ⟨T458, L458, k458, n458⟩, -, X458, ⟨Lc458, hQ458, l458, y458, z458⟩, st458⟩ := Jvm.LawKit.callS X454 hx (y := (⟨"com/example/inscribe/inscribe/model/EdgeEqualsPinLaw", "ch", "(II)C"⟩ : MethodName)) hown (mvT hZ (W 29 rfl)) (mvT hZ (W 30 rfl)) (mvT hZ (W 5 rfl)) (mvT hZ (W 31 rfl)) (by decide) (backOf (W := 0) (rm5 l Z a0 hw [] p0 (18 : Int32) h0 n0 Z0 ) hZ (W 31 rfl) (W 5 rfl) (by decide) (by decide)) (g := (mkF m 65 #[iv p0, iv p1, iv (p0 &&& (3 : Int32)), iv (p1 &&& (3 : Int32))] [(.int (18 : Int32)), (.int p0)])) rfl (by rw [hml]; rfl) (argsL := [(.int p0), (.int (18 : Int32))]) (rest := []) (lenOf pd122 rfl) rfl (by show 2 * 0 + _ ≤ _; exact Nat.le_of_eq rfl) (hb hby d11_65) (fun _ _ => ⟨rfl, eh454, (by decide : 0 + 0 ≤ _), (by decide : 0 + 0 ≤ _)⟩)
        dsimp only [Pt.U, Pt.locs, Pt.cells, Pt.slots] at X458 l458 y458 z458 st458 hQ458
        subst l458 y458 z458
        obtain ⟨rfl, Nq458, eh458⟩ := hQ458
        have N458 := Fr.app N454 Nq458
        have go459 : own_S p e below ST T458 (mkF m 68 #[iv p0, iv p1, iv (p0 &&& (3 : Int32)), iv (p1 &&& (3 : Int32))] [(.int (own_ch p0 (18 : Int32)))]) := fun tt kt => go457 tt (st458 _ kt)
        have go460 : own_S p e below ST T458 (mkF m 71 #[iv p0, iv p1, iv (p0 &&& (3 : Int32)), iv (p1 &&& (3 : Int32))] [(.int (18 : Int32)), (.int p1), (.int (own_ch p0 (18 : Int32)))]) := fun tt kt => go459 tt (by
            refine XS.iloadN X458.here hx rfl (hb hby d11_68) rfl ?_
            refine XS.bipush X458.here hx rfl (hb hby d11_69) ?_
            exact kt)
        obtain ⟨_, _, ⟨T461, L461, k461, n461⟩, -, X461, ⟨Lc461, hQ461, l461, y461, z461⟩, st461⟩ := Jvm.LawKit.callS X458 hx (y := (⟨"com/example/inscribe/inscribe/model/EdgeEqualsPinLaw", "ch", "(II)C"⟩ : MethodName)) hown (mvT hZ (W 29 rfl)) (mvT hZ (W 30 rfl)) (mvT hZ (W 5 rfl)) (mvT hZ (W 31 rfl)) (by decide) (backOf (W := 1) (rm5 l Z a0 hw [] p1 (18 : Int32) h0 n0 Z0 ) hZ (W 31 rfl) (W 5 rfl) (by decide) (by decide)) (g := (mkF m 71 #[iv p0, iv p1, iv (p0 &&& (3 : Int32)), iv (p1 &&& (3 : Int32))] [(.int (18 : Int32)), (.int p1), (.int (own_ch p0 (18 : Int32)))])) rfl (by rw [hml]; rfl) (argsL := [(.int p1), (.int (18 : Int32))]) (rest := [(.int (own_ch p0 (18 : Int32)))]) (lenOf pd122 rfl) rfl (by show 2 * 0 + _ ≤ _; exact Nat.le_of_eq rfl) (hb hby d11_71) (fun _ _ => ⟨rfl, eh458, (by decide : 0 + 0 ≤ _), (by decide : 0 + 0 ≤ _)⟩)
        dsimp only [Pt.U, Pt.locs, Pt.cells, Pt.slots] at X461 l461 y461 z461 st461 hQ461
        subst l461 y461 z461
        obtain ⟨rfl, Nq461, eh461⟩ := hQ461
        have N461 := Fr.app N458 Nq461
        have go462 : own_S p e below ST T461 (mkF m 74 #[iv p0, iv p1, iv (p0 &&& (3 : Int32)), iv (p1 &&& (3 : Int32))] [(.int (own_ch p1 (18 : Int32))), (.int (own_ch p0 (18 : Int32)))]) := fun tt kt => go460 tt (st461 _ kt)
        by_cases d2 : (own_ch p0 (18 : Int32)) = (own_ch p1 (18 : Int32))
        · have go463 : own_S p e below ST T461 (mkF m 79 #[iv p0, iv p1, iv (p0 &&& (3 : Int32)), iv (p1 &&& (3 : Int32))] []) := fun tt kt => go462 tt (by
              refine XS.icmpYes X461.here hx rfl (pc0 := 74) (pc' := 79) rfl (hb hby d11_74) rfl (teq d2).1 (by decide) (by decide) ?_
              exact kt)
          have go464 : own_S p e below ST T461 (mkF m 80 #[iv p0, iv p1, iv (p0 &&& (3 : Int32)), iv (p1 &&& (3 : Int32))] [(.int (1 : Int32))]) := fun tt kt => go463 tt (by
              refine XS.iconst X461.here hx rfl (hb hby d11_79) ?_
              exact kt)
          obtain ⟨fs, hr, hrun, hended, hW, hsame⟩ := X461.leave (v := some (.int (1 : Int32))) (fun h => by rw [Bd.returns] at h; cases h) (hlocks := by first | exact BodyLoose.notSynchronized Bd | exact Body.notSynchronized Bd)
          refine ⟨_, _, pre0 _ (go464 _ ?_), hrun, hended, _, _, rfl, ?_, ⟨_, rfl⟩, hW, hsame.mono (by decide) (by decide)⟩
          · exact retN X461 hx (t := .boolean) Bd.returns (by simp) (hb hby d11_80) hr
          · show Q11k3 Z p0 p1 h0 n0 _ T461.heap _
            rw [eh461]
            exact ⟨own_ans (own_kt ⟨c0, Or.inr d0, Or.inr d1, Or.inr d2⟩).symm, N461, rfl⟩
        · have go465 : own_S p e below ST T461 (mkF m 77 #[iv p0, iv p1, iv (p0 &&& (3 : Int32)), iv (p1 &&& (3 : Int32))] []) := fun tt kt => go462 tt (by
              refine XS.icmpNo X461.here hx rfl (hb hby d11_74) rfl (feq d2).1 ?_
              exact kt)
          have go466 : own_S p e below ST T461 (mkF m 78 #[iv p0, iv p1, iv (p0 &&& (3 : Int32)), iv (p1 &&& (3 : Int32))] [(.int (0 : Int32))]) := fun tt kt => go465 tt (by
              refine XS.iconst X461.here hx rfl (hb hby d11_77) ?_
              exact kt)
          obtain ⟨fs, hr, hrun, hended, hW, hsame⟩ := X461.leave (v := some (.int (0 : Int32))) (fun h => by rw [Bd.returns] at h; cases h) (hlocks := by first | exact BodyLoose.notSynchronized Bd | exact Body.notSynchronized Bd)
          refine ⟨_, _, pre0 _ (go466 _ ?_), hrun, hended, _, _, rfl, ?_, ⟨_, rfl⟩, hW, hsame.mono (by decide) (by decide)⟩
          · exact retN X461 hx (t := .boolean) Bd.returns (by simp) (hb hby d11_78) hr
          · show Q11k3 Z p0 p1 h0 n0 _ T461.heap _
            rw [eh461]
            exact ⟨own_ans (own_kf (fun q => q.2.2.2.elim a3 d2)).symm, N461, rfl⟩
      · have go467 : own_S p e below ST T454 (mkF m 55 #[iv p0, iv p1, iv (p0 &&& (3 : Int32)), iv (p1 &&& (3 : Int32))] []) := fun tt kt => go455 tt (by
            refine XS.icmpNo X454.here hx rfl (hb hby d11_52) rfl (feq d1).1 ?_
            exact kt)
        have go468 : own_S p e below ST T454 (mkF m 56 #[iv p0, iv p1, iv (p0 &&& (3 : Int32)), iv (p1 &&& (3 : Int32))] [(.int (0 : Int32))]) := fun tt kt => go467 tt (by
            refine XS.iconst X454.here hx rfl (hb hby d11_55) ?_
            exact kt)
        obtain ⟨fs, hr, hrun, hended, hW, hsame⟩ := X454.leave (v := some (.int (0 : Int32))) (fun h => by rw [Bd.returns] at h; cases h) (hlocks := by first | exact BodyLoose.notSynchronized Bd | exact Body.notSynchronized Bd)
        refine ⟨_, _, pre0 _ (go468 _ ?_), hrun, hended, _, _, rfl, ?_, ⟨_, rfl⟩, hW, hsame.mono (by decide) (by decide)⟩
        · exact retN X454 hx (t := .boolean) Bd.returns (by simp) (hb hby d11_56) hr
        · show Q11k3 Z p0 p1 h0 n0 _ T454.heap _
          rw [eh454]
          exact ⟨own_ans (own_kf (fun q => q.2.2.1.elim a2 d1)).symm, N454, rfl⟩
    · have go469 : own_S p e below ST T447 (mkF m 33 #[iv p0, iv p1, iv (p0 &&& (3 : Int32)), iv (p1 &&& (3 : Int32))] []) := fun tt kt => go448 tt (by
          refine XS.icmpNo X447.here hx rfl (hb hby d11_30) rfl (feq d0).1 ?_
          exact kt)
      have go470 : own_S p e below ST T447 (mkF m 34 #[iv p0, iv p1, iv (p0 &&& (3 : Int32)), iv (p1 &&& (3 : Int32))] [(.int (0 : Int32))]) := fun tt kt => go469 tt (by
          refine XS.iconst X447.here hx rfl (hb hby d11_33) ?_
          exact kt)
      obtain ⟨fs, hr, hrun, hended, hW, hsame⟩ := X447.leave (v := some (.int (0 : Int32))) (fun h => by rw [Bd.returns] at h; cases h) (hlocks := by first | exact BodyLoose.notSynchronized Bd | exact Body.notSynchronized Bd)
      refine ⟨_, _, pre0 _ (go470 _ ?_), hrun, hended, _, _, rfl, ?_, ⟨_, rfl⟩, hW, hsame.mono (by decide) (by decide)⟩
      · exact retN X447 hx (t := .boolean) Bd.returns (by simp) (hb hby d11_34) hr
      · show Q11k3 Z p0 p1 h0 n0 _ T447.heap _
        rw [eh447]
        exact ⟨own_ans (own_kf (fun q => q.2.1.elim a1 d0)).symm, N447, rfl⟩
  · have go471 : own_S p e below ST s₁ (mkF m 13 #[iv p0, iv p1, iv (p0 &&& (3 : Int32)), iv (p1 &&& (3 : Int32))] []) := fun tt kt => go441 tt (by
        refine XS.icmpNo X0.here hx rfl (hb hby d11_10) rfl (feq c0).1 ?_
        exact kt)
    have go472 : own_S p e below ST s₁ (mkF m 14 #[iv p0, iv p1, iv (p0 &&& (3 : Int32)), iv (p1 &&& (3 : Int32))] [(.int (0 : Int32))]) := fun tt kt => go471 tt (by
        refine XS.iconst X0.here hx rfl (hb hby d11_13) ?_
        exact kt)
    obtain ⟨fs, hr, hrun, hended, hW, hsame⟩ := X0.leave (v := some (.int (0 : Int32))) (fun h => by rw [Bd.returns] at h; cases h) (hlocks := by first | exact BodyLoose.notSynchronized Bd | exact Body.notSynchronized Bd)
    refine ⟨_, _, pre0 _ (go472 _ ?_), hrun, hended, _, _, rfl, ?_, ⟨_, rfl⟩, hW, hsame.mono (by decide) (by decide)⟩
    · exact retN X0 hx (t := .boolean) Bd.returns (by simp) (hb hby d11_14) hr
    · show Q11k3 Z p0 p1 h0 n0 _ s₁.heap _
      rw [e0]
      exact ⟨own_ans (own_kf (fun q => c0 q.1)).symm, N0, rfl⟩
theorem ef11k2 (m : MethodId) (x0 : Int32) (x1 : Int32) : entryFrame m #[(.int x0), (.int x1)] 4 = mkF m 0 #[.val (.int x0), .val (.int x1), .unset, .unset] [] := by first | (simp [entryFrame, mkF, argsToLocals, Value.category]; done) | rfl
def Q11k2 (Z : State) (p0 : Int32) (p1 : Int32) (h0 : Heap) (n0 : Nat) (v : Option Value) (h : Heap) (L : List Loc) : Prop := v = some (.int (own_ke p0 p1)) ∧ Fr n0 L ∧ h = h0
set_option maxRecDepth 65536 in
set_option maxHeartbeats 40000000 in
theorem rm11k2 (l : Launch) (Z : State) (a0 : Array Value) (hw : ∀ d ∈ tables_1, d.before a0 Z = true) (ws : List Jvm.Cond) (p0 : Int32) (p1 : Int32) (h0 : Heap) (n0 : Nat) (Z0 : n0 ≤ h0.size) (hk : p0 &&& 3 = 2) :
    MetFree l (⟨"com/example/inscribe/inscribe/model/EdgeEqualsPinLaw", "sameKey", "(II)Z"⟩ : MethodName) (head1 (Jvm.Cond.code (⟨"com/example/inscribe/inscribe/model/EdgeEqualsPinLaw", "sameKey", "(II)Z"⟩ : MethodName) method_4_code 4 (some .boolean) :: ws) ({ frames := 1, cells := 0, slots := 0, locals := 14 } : Room)) (fun aa UU => aa = #[(.int p0), (.int p1)] ∧ Z.Warmed39 UU.vm ∧ UU.heap = h0) (fun _ _ _ _ _ => True) (fun _ UU oo UU' => ∃ vv LL, oo = .returned vv ∧ Q11k2 Z p0 p1 h0 n0 vv UU'.heap LL ∧ FrameEnd UU oo UU' LL ({ frames := 1, cells := 0, slots := 0, locals := 14 } : Room).cells ({ frames := 1, cells := 0, slots := 0, locals := 14 } : Room).slots) := by
  have W : ∀ {d : Jvm.Cond} (i : Nat), tables_1[i]? = some d → d.before a0 Z = true := fun i h => hw _ (List.mem_of_getElem? h)
  refine MetFree.of_bodySF (plainFor_of_name pn0) hisR ?_
  intro p e s m args below meth c s₁ Bd hml0 hP hK
  obtain ⟨rfl, hZ, hh⟩ := hP
  have hx := Bd.exec
  have hby := Bd.bytes
  have hml : c.maxLocals = 4 := hml0
  have hown : s.vm.findClass "com/example/inscribe/inscribe/model/EdgeEqualsPinLaw" = some m.cls := findClass_of_methodNamed Bd.named
  have hnm := (name_of_methodNamed Bd.named Bd.method).1
  have X0 : Stand p l e ({ frames := 1, cells := 0, slots := 0, locals := 14 } : Room) s m #[(.int p0), (.int p1)] below meth c s₁ [] 0 0 := Stand.of_body Bd
  have e0 : s₁.heap = h0 := by rw [← hh, Bd.state]; rfl
  have N0 := Fr.nil n0
  have pre0 : ∀ tt, Steps p.tables e below (s₁.setTop (mkF m 0 #[iv p0, iv p1, .unset, .unset] [])) tt → Steps p.tables e below (s₁.setTop (entryFrame m #[(.int p0), (.int p1)] 4)) tt := fun tt kt => castTop (ef11k2 m p0 p1) kt
  obtain ⟨ST, hST⟩ : ∃ z : State, z = s₁.setTop (mkF m 0 #[iv p0, iv p1, .unset, .unset] []) := ⟨_, rfl⟩
  rw [← hST] at pre0
  have a1 : ¬ (p0 &&& 3) < 1 := by rw [hk]; decide
  have a2 : ¬ (p0 &&& 3) < 2 := by rw [hk]; decide
  have a3 : (p0 &&& 3) < 3 := by rw [hk]; decide
  have go473 : own_S p e below ST s₁ (mkF m 10 #[iv p0, iv p1, iv (p0 &&& (3 : Int32)), iv (p1 &&& (3 : Int32))] [(.int (p1 &&& (3 : Int32))), (.int (p0 &&& (3 : Int32)))]) := fun tt kt => (by
      rw [hST]
      show Steps p.tables e below (s₁.setTop (mkF m 0 #[iv p0, iv p1, .unset, .unset] [])) _
      refine XS.iloadN X0.here hx rfl (hb hby d11_0) rfl ?_
      refine XS.iconst X0.here hx rfl (hb hby d11_1) ?_
      refine XS.iand X0.here hx rfl (hb hby d11_2) rfl ?_
      refine XS.istoreN X0.here hx rfl (hb hby d11_3) rfl (l' := #[iv p0, iv p1, iv (p0 &&& (3 : Int32)), .unset]) rfl ?_
      refine XS.iloadN X0.here hx rfl (hb hby d11_4) rfl ?_
      refine XS.iconst X0.here hx rfl (hb hby d11_5) ?_
      show Steps p.tables e below (s₁.setTop (mkF m 6 #[iv p0, iv p1, iv (p0 &&& (3 : Int32)), .unset] [(.int (3 : Int32)), (.int p1)])) _
      refine XS.iand X0.here hx rfl (hb hby d11_6) rfl ?_
      refine XS.istoreN X0.here hx rfl (hb hby d11_7) rfl (l' := #[iv p0, iv p1, iv (p0 &&& (3 : Int32)), iv (p1 &&& (3 : Int32))]) rfl ?_
      refine XS.iloadN X0.here hx rfl (hb hby d11_8) rfl ?_
      refine XS.iloadN X0.here hx rfl (hb hby d11_9) rfl ?_
      exact kt)
  by_cases c0 : (p0 &&& (3 : Int32)) = (p1 &&& (3 : Int32))
  · have go474 : own_S p e below ST s₁ (mkF m 15 #[iv p0, iv p1, iv (p0 &&& (3 : Int32)), iv (p1 &&& (3 : Int32))] []) := fun tt kt => go473 tt (by
        refine XS.icmpYes X0.here hx rfl (pc0 := 10) (pc' := 15) rfl (hb hby d11_10) rfl (teq c0).1 (by decide) (by decide) ?_
        exact kt)
    have go475 : own_S p e below ST s₁ (mkF m 22 #[iv p0, iv p1, iv (p0 &&& (3 : Int32)), iv (p1 &&& (3 : Int32))] [(.int (2 : Int32)), (.int p0)]) := fun tt kt => go474 tt (by
        refine XS.iloadN X0.here hx rfl (hb hby d11_15) rfl ?_
        refine XS.iconst X0.here hx rfl (hb hby d11_16) ?_
        refine XS.icmpNo X0.here hx rfl (hb hby d11_17) rfl (flt a1).1 ?_
        refine XS.iloadN X0.here hx rfl (hb hby d11_20) rfl ?_
        refine XS.iconst X0.here hx rfl (hb hby d11_21) ?_
        exact kt)
    obtain ⟨_, _, ⟨T476, L476, k476, n476⟩, -, X476, ⟨Lc476, hQ476, l476, y476, z476⟩, st476⟩ := Jvm.LawKit.callS X0 hx (y := (⟨"com/example/inscribe/inscribe/model/EdgeEqualsPinLaw", "ch", "(II)C"⟩ : MethodName)) hown (mvT hZ (W 29 rfl)) (mvT hZ (W 30 rfl)) (mvT hZ (W 5 rfl)) (mvT hZ (W 31 rfl)) (by decide) (backOf (W := 0) (rm5 l Z a0 hw [] p0 (2 : Int32) h0 n0 Z0 ) hZ (W 31 rfl) (W 5 rfl) (by decide) (by decide)) (g := (mkF m 22 #[iv p0, iv p1, iv (p0 &&& (3 : Int32)), iv (p1 &&& (3 : Int32))] [(.int (2 : Int32)), (.int p0)])) rfl (by rw [hml]; rfl) (argsL := [(.int p0), (.int (2 : Int32))]) (rest := []) (lenOf pd122 rfl) rfl (by show 2 * 0 + _ ≤ _; exact Nat.le_of_eq rfl) (hb hby d11_22) (fun _ _ => ⟨rfl, e0, (by decide : 0 + 0 ≤ _), (by decide : 0 + 0 ≤ _)⟩)
    dsimp only [Pt.U, Pt.locs, Pt.cells, Pt.slots] at X476 l476 y476 z476 st476 hQ476
    subst l476 y476 z476
    obtain ⟨rfl, Nq476, eh476⟩ := hQ476
    have N476 := Fr.app N0 Nq476
    have go477 : own_S p e below ST T476 (mkF m 25 #[iv p0, iv p1, iv (p0 &&& (3 : Int32)), iv (p1 &&& (3 : Int32))] [(.int (own_ch p0 (2 : Int32)))]) := fun tt kt => go475 tt (st476 _ kt)
    have go478 : own_S p e below ST T476 (mkF m 27 #[iv p0, iv p1, iv (p0 &&& (3 : Int32)), iv (p1 &&& (3 : Int32))] [(.int (2 : Int32)), (.int p1), (.int (own_ch p0 (2 : Int32)))]) := fun tt kt => go477 tt (by
        refine XS.iloadN X476.here hx rfl (hb hby d11_25) rfl ?_
        refine XS.iconst X476.here hx rfl (hb hby d11_26) ?_
        exact kt)
    obtain ⟨_, _, ⟨T479, L479, k479, n479⟩, -, X479, ⟨Lc479, hQ479, l479, y479, z479⟩, st479⟩ := Jvm.LawKit.callS X476 hx (y := (⟨"com/example/inscribe/inscribe/model/EdgeEqualsPinLaw", "ch", "(II)C"⟩ : MethodName)) hown (mvT hZ (W 29 rfl)) (mvT hZ (W 30 rfl)) (mvT hZ (W 5 rfl)) (mvT hZ (W 31 rfl)) (by decide) (backOf (W := 1) (rm5 l Z a0 hw [] p1 (2 : Int32) h0 n0 Z0 ) hZ (W 31 rfl) (W 5 rfl) (by decide) (by decide)) (g := (mkF m 27 #[iv p0, iv p1, iv (p0 &&& (3 : Int32)), iv (p1 &&& (3 : Int32))] [(.int (2 : Int32)), (.int p1), (.int (own_ch p0 (2 : Int32)))])) rfl (by rw [hml]; rfl) (argsL := [(.int p1), (.int (2 : Int32))]) (rest := [(.int (own_ch p0 (2 : Int32)))]) (lenOf pd122 rfl) rfl (by show 2 * 0 + _ ≤ _; exact Nat.le_of_eq rfl) (hb hby d11_27) (fun _ _ => ⟨rfl, eh476, (by decide : 0 + 0 ≤ _), (by decide : 0 + 0 ≤ _)⟩)
    dsimp only [Pt.U, Pt.locs, Pt.cells, Pt.slots] at X479 l479 y479 z479 st479 hQ479
    subst l479 y479 z479
    obtain ⟨rfl, Nq479, eh479⟩ := hQ479
    have N479 := Fr.app N476 Nq479
    have go480 : own_S p e below ST T479 (mkF m 30 #[iv p0, iv p1, iv (p0 &&& (3 : Int32)), iv (p1 &&& (3 : Int32))] [(.int (own_ch p1 (2 : Int32))), (.int (own_ch p0 (2 : Int32)))]) := fun tt kt => go478 tt (st479 _ kt)
    by_cases d0 : (own_ch p0 (2 : Int32)) = (own_ch p1 (2 : Int32))
    · have go481 : own_S p e below ST T479 (mkF m 35 #[iv p0, iv p1, iv (p0 &&& (3 : Int32)), iv (p1 &&& (3 : Int32))] []) := fun tt kt => go480 tt (by
          refine XS.icmpYes X479.here hx rfl (pc0 := 30) (pc' := 35) rfl (hb hby d11_30) rfl (teq d0).1 (by decide) (by decide) ?_
          exact kt)
      have go482 : own_S p e below ST T479 (mkF m 43 #[iv p0, iv p1, iv (p0 &&& (3 : Int32)), iv (p1 &&& (3 : Int32))] [(.int (10 : Int32)), (.int p0)]) := fun tt kt => go481 tt (by
          refine XS.iloadN X479.here hx rfl (hb hby d11_35) rfl ?_
          refine XS.iconst X479.here hx rfl (hb hby d11_36) ?_
          refine XS.icmpNo X479.here hx rfl (hb hby d11_37) rfl (flt a2).1 ?_
          refine XS.iloadN X479.here hx rfl (hb hby d11_40) rfl ?_
          refine XS.bipush X479.here hx rfl (hb hby d11_41) ?_
          exact kt)
      obtain ⟨_, _, ⟨T483, L483, k483, n483⟩, -, X483, ⟨Lc483, hQ483, l483, y483, z483⟩, st483⟩ := Jvm.LawKit.callS X479 hx (y := (⟨"com/example/inscribe/inscribe/model/EdgeEqualsPinLaw", "ch", "(II)C"⟩ : MethodName)) hown (mvT hZ (W 29 rfl)) (mvT hZ (W 30 rfl)) (mvT hZ (W 5 rfl)) (mvT hZ (W 31 rfl)) (by decide) (backOf (W := 0) (rm5 l Z a0 hw [] p0 (10 : Int32) h0 n0 Z0 ) hZ (W 31 rfl) (W 5 rfl) (by decide) (by decide)) (g := (mkF m 43 #[iv p0, iv p1, iv (p0 &&& (3 : Int32)), iv (p1 &&& (3 : Int32))] [(.int (10 : Int32)), (.int p0)])) rfl (by rw [hml]; rfl) (argsL := [(.int p0), (.int (10 : Int32))]) (rest := []) (lenOf pd122 rfl) rfl (by show 2 * 0 + _ ≤ _; exact Nat.le_of_eq rfl) (hb hby d11_43) (fun _ _ => ⟨rfl, eh479, (by decide : 0 + 0 ≤ _), (by decide : 0 + 0 ≤ _)⟩)
      dsimp only [Pt.U, Pt.locs, Pt.cells, Pt.slots] at X483 l483 y483 z483 st483 hQ483
      subst l483 y483 z483
      obtain ⟨rfl, Nq483, eh483⟩ := hQ483
      have N483 := Fr.app N479 Nq483
      have go484 : own_S p e below ST T483 (mkF m 46 #[iv p0, iv p1, iv (p0 &&& (3 : Int32)), iv (p1 &&& (3 : Int32))] [(.int (own_ch p0 (10 : Int32)))]) := fun tt kt => go482 tt (st483 _ kt)
      have go485 : own_S p e below ST T483 (mkF m 49 #[iv p0, iv p1, iv (p0 &&& (3 : Int32)), iv (p1 &&& (3 : Int32))] [(.int (10 : Int32)), (.int p1), (.int (own_ch p0 (10 : Int32)))]) := fun tt kt => go484 tt (by
          refine XS.iloadN X483.here hx rfl (hb hby d11_46) rfl ?_
          refine XS.bipush X483.here hx rfl (hb hby d11_47) ?_
          exact kt)
      obtain ⟨_, _, ⟨T486, L486, k486, n486⟩, -, X486, ⟨Lc486, hQ486, l486, y486, z486⟩, st486⟩ := Jvm.LawKit.callS X483 hx (y := (⟨"com/example/inscribe/inscribe/model/EdgeEqualsPinLaw", "ch", "(II)C"⟩ : MethodName)) hown (mvT hZ (W 29 rfl)) (mvT hZ (W 30 rfl)) (mvT hZ (W 5 rfl)) (mvT hZ (W 31 rfl)) (by decide) (backOf (W := 1) (rm5 l Z a0 hw [] p1 (10 : Int32) h0 n0 Z0 ) hZ (W 31 rfl) (W 5 rfl) (by decide) (by decide)) (g := (mkF m 49 #[iv p0, iv p1, iv (p0 &&& (3 : Int32)), iv (p1 &&& (3 : Int32))] [(.int (10 : Int32)), (.int p1), (.int (own_ch p0 (10 : Int32)))])) rfl (by rw [hml]; rfl) (argsL := [(.int p1), (.int (10 : Int32))]) (rest := [(.int (own_ch p0 (10 : Int32)))]) (lenOf pd122 rfl) rfl (by show 2 * 0 + _ ≤ _; exact Nat.le_of_eq rfl) (hb hby d11_49) (fun _ _ => ⟨rfl, eh483, (by decide : 0 + 0 ≤ _), (by decide : 0 + 0 ≤ _)⟩)
      dsimp only [Pt.U, Pt.locs, Pt.cells, Pt.slots] at X486 l486 y486 z486 st486 hQ486
      subst l486 y486 z486
      obtain ⟨rfl, Nq486, eh486⟩ := hQ486
      have N486 := Fr.app N483 Nq486
      have go487 : own_S p e below ST T486 (mkF m 52 #[iv p0, iv p1, iv (p0 &&& (3 : Int32)), iv (p1 &&& (3 : Int32))] [(.int (own_ch p1 (10 : Int32))), (.int (own_ch p0 (10 : Int32)))]) := fun tt kt => go485 tt (st486 _ kt)
      by_cases d1 : (own_ch p0 (10 : Int32)) = (own_ch p1 (10 : Int32))
      · have go488 : own_S p e below ST T486 (mkF m 57 #[iv p0, iv p1, iv (p0 &&& (3 : Int32)), iv (p1 &&& (3 : Int32))] []) := fun tt kt => go487 tt (by
            refine XS.icmpYes X486.here hx rfl (pc0 := 52) (pc' := 57) rfl (hb hby d11_52) rfl (teq d1).1 (by decide) (by decide) ?_
            exact kt)
        have go489 : own_S p e below ST T486 (mkF m 80 #[iv p0, iv p1, iv (p0 &&& (3 : Int32)), iv (p1 &&& (3 : Int32))] [(.int (1 : Int32))]) := fun tt kt => go488 tt (by
            refine XS.iloadN X486.here hx rfl (hb hby d11_57) rfl ?_
            refine XS.iconst X486.here hx rfl (hb hby d11_58) ?_
            refine XS.icmpYes X486.here hx rfl (pc0 := 59) (pc' := 79) rfl (hb hby d11_59) rfl (tlt a3).1 (by decide) (by decide) ?_
            refine XS.iconst X486.here hx rfl (hb hby d11_79) ?_
            exact kt)
        obtain ⟨fs, hr, hrun, hended, hW, hsame⟩ := X486.leave (v := some (.int (1 : Int32))) (fun h => by rw [Bd.returns] at h; cases h) (hlocks := by first | exact BodyLoose.notSynchronized Bd | exact Body.notSynchronized Bd)
        refine ⟨_, _, pre0 _ (go489 _ ?_), hrun, hended, _, _, rfl, ?_, ⟨_, rfl⟩, hW, hsame.mono (by decide) (by decide)⟩
        · exact retN X486 hx (t := .boolean) Bd.returns (by simp) (hb hby d11_80) hr
        · show Q11k2 Z p0 p1 h0 n0 _ T486.heap _
          rw [eh486]
          exact ⟨own_ans (own_kt ⟨c0, Or.inr d0, Or.inr d1, Or.inl a3⟩).symm, N486, rfl⟩
      · have go490 : own_S p e below ST T486 (mkF m 55 #[iv p0, iv p1, iv (p0 &&& (3 : Int32)), iv (p1 &&& (3 : Int32))] []) := fun tt kt => go487 tt (by
            refine XS.icmpNo X486.here hx rfl (hb hby d11_52) rfl (feq d1).1 ?_
            exact kt)
        have go491 : own_S p e below ST T486 (mkF m 56 #[iv p0, iv p1, iv (p0 &&& (3 : Int32)), iv (p1 &&& (3 : Int32))] [(.int (0 : Int32))]) := fun tt kt => go490 tt (by
            refine XS.iconst X486.here hx rfl (hb hby d11_55) ?_
            exact kt)
        obtain ⟨fs, hr, hrun, hended, hW, hsame⟩ := X486.leave (v := some (.int (0 : Int32))) (fun h => by rw [Bd.returns] at h; cases h) (hlocks := by first | exact BodyLoose.notSynchronized Bd | exact Body.notSynchronized Bd)
        refine ⟨_, _, pre0 _ (go491 _ ?_), hrun, hended, _, _, rfl, ?_, ⟨_, rfl⟩, hW, hsame.mono (by decide) (by decide)⟩
        · exact retN X486 hx (t := .boolean) Bd.returns (by simp) (hb hby d11_56) hr
        · show Q11k2 Z p0 p1 h0 n0 _ T486.heap _
          rw [eh486]
          exact ⟨own_ans (own_kf (fun q => q.2.2.1.elim a2 d1)).symm, N486, rfl⟩
    · have go492 : own_S p e below ST T479 (mkF m 33 #[iv p0, iv p1, iv (p0 &&& (3 : Int32)), iv (p1 &&& (3 : Int32))] []) := fun tt kt => go480 tt (by
          refine XS.icmpNo X479.here hx rfl (hb hby d11_30) rfl (feq d0).1 ?_
          exact kt)
      have go493 : own_S p e below ST T479 (mkF m 34 #[iv p0, iv p1, iv (p0 &&& (3 : Int32)), iv (p1 &&& (3 : Int32))] [(.int (0 : Int32))]) := fun tt kt => go492 tt (by
          refine XS.iconst X479.here hx rfl (hb hby d11_33) ?_
          exact kt)
      obtain ⟨fs, hr, hrun, hended, hW, hsame⟩ := X479.leave (v := some (.int (0 : Int32))) (fun h => by rw [Bd.returns] at h; cases h) (hlocks := by first | exact BodyLoose.notSynchronized Bd | exact Body.notSynchronized Bd)
      refine ⟨_, _, pre0 _ (go493 _ ?_), hrun, hended, _, _, rfl, ?_, ⟨_, rfl⟩, hW, hsame.mono (by decide) (by decide)⟩
      · exact retN X479 hx (t := .boolean) Bd.returns (by simp) (hb hby d11_34) hr
      · show Q11k2 Z p0 p1 h0 n0 _ T479.heap _
        rw [eh479]
        exact ⟨own_ans (own_kf (fun q => q.2.1.elim a1 d0)).symm, N479, rfl⟩
  · have go494 : own_S p e below ST s₁ (mkF m 13 #[iv p0, iv p1, iv (p0 &&& (3 : Int32)), iv (p1 &&& (3 : Int32))] []) := fun tt kt => go473 tt (by
        refine XS.icmpNo X0.here hx rfl (hb hby d11_10) rfl (feq c0).1 ?_
        exact kt)
    have go495 : own_S p e below ST s₁ (mkF m 14 #[iv p0, iv p1, iv (p0 &&& (3 : Int32)), iv (p1 &&& (3 : Int32))] [(.int (0 : Int32))]) := fun tt kt => go494 tt (by
        refine XS.iconst X0.here hx rfl (hb hby d11_13) ?_
        exact kt)
    obtain ⟨fs, hr, hrun, hended, hW, hsame⟩ := X0.leave (v := some (.int (0 : Int32))) (fun h => by rw [Bd.returns] at h; cases h) (hlocks := by first | exact BodyLoose.notSynchronized Bd | exact Body.notSynchronized Bd)
    refine ⟨_, _, pre0 _ (go495 _ ?_), hrun, hended, _, _, rfl, ?_, ⟨_, rfl⟩, hW, hsame.mono (by decide) (by decide)⟩
    · exact retN X0 hx (t := .boolean) Bd.returns (by simp) (hb hby d11_14) hr
    · show Q11k2 Z p0 p1 h0 n0 _ s₁.heap _
      rw [e0]
      exact ⟨own_ans (own_kf (fun q => c0 q.1)).symm, N0, rfl⟩
theorem ef11k1 (m : MethodId) (x0 : Int32) (x1 : Int32) : entryFrame m #[(.int x0), (.int x1)] 4 = mkF m 0 #[.val (.int x0), .val (.int x1), .unset, .unset] [] := by first | (simp [entryFrame, mkF, argsToLocals, Value.category]; done) | rfl
def Q11k1 (Z : State) (p0 : Int32) (p1 : Int32) (h0 : Heap) (n0 : Nat) (v : Option Value) (h : Heap) (L : List Loc) : Prop := v = some (.int (own_ke p0 p1)) ∧ Fr n0 L ∧ h = h0
set_option maxRecDepth 65536 in
set_option maxHeartbeats 40000000 in
theorem rm11k1 (l : Launch) (Z : State) (a0 : Array Value) (hw : ∀ d ∈ tables_1, d.before a0 Z = true) (ws : List Jvm.Cond) (p0 : Int32) (p1 : Int32) (h0 : Heap) (n0 : Nat) (Z0 : n0 ≤ h0.size) (hk : p0 &&& 3 = 1) :
    MetFree l (⟨"com/example/inscribe/inscribe/model/EdgeEqualsPinLaw", "sameKey", "(II)Z"⟩ : MethodName) (head1 (Jvm.Cond.code (⟨"com/example/inscribe/inscribe/model/EdgeEqualsPinLaw", "sameKey", "(II)Z"⟩ : MethodName) method_4_code 4 (some .boolean) :: ws) ({ frames := 1, cells := 0, slots := 0, locals := 14 } : Room)) (fun aa UU => aa = #[(.int p0), (.int p1)] ∧ Z.Warmed39 UU.vm ∧ UU.heap = h0) (fun _ _ _ _ _ => True) (fun _ UU oo UU' => ∃ vv LL, oo = .returned vv ∧ Q11k1 Z p0 p1 h0 n0 vv UU'.heap LL ∧ FrameEnd UU oo UU' LL ({ frames := 1, cells := 0, slots := 0, locals := 14 } : Room).cells ({ frames := 1, cells := 0, slots := 0, locals := 14 } : Room).slots) := by
  have W : ∀ {d : Jvm.Cond} (i : Nat), tables_1[i]? = some d → d.before a0 Z = true := fun i h => hw _ (List.mem_of_getElem? h)
  refine MetFree.of_bodySF (plainFor_of_name pn0) hisR ?_
  intro p e s m args below meth c s₁ Bd hml0 hP hK
  obtain ⟨rfl, hZ, hh⟩ := hP
  have hx := Bd.exec
  have hby := Bd.bytes
  have hml : c.maxLocals = 4 := hml0
  have hown : s.vm.findClass "com/example/inscribe/inscribe/model/EdgeEqualsPinLaw" = some m.cls := findClass_of_methodNamed Bd.named
  have hnm := (name_of_methodNamed Bd.named Bd.method).1
  have X0 : Stand p l e ({ frames := 1, cells := 0, slots := 0, locals := 14 } : Room) s m #[(.int p0), (.int p1)] below meth c s₁ [] 0 0 := Stand.of_body Bd
  have e0 : s₁.heap = h0 := by rw [← hh, Bd.state]; rfl
  have N0 := Fr.nil n0
  have pre0 : ∀ tt, Steps p.tables e below (s₁.setTop (mkF m 0 #[iv p0, iv p1, .unset, .unset] [])) tt → Steps p.tables e below (s₁.setTop (entryFrame m #[(.int p0), (.int p1)] 4)) tt := fun tt kt => castTop (ef11k1 m p0 p1) kt
  obtain ⟨ST, hST⟩ : ∃ z : State, z = s₁.setTop (mkF m 0 #[iv p0, iv p1, .unset, .unset] []) := ⟨_, rfl⟩
  rw [← hST] at pre0
  have a1 : ¬ (p0 &&& 3) < 1 := by rw [hk]; decide
  have a2 : (p0 &&& 3) < 2 := by rw [hk]; decide
  have a3 : (p0 &&& 3) < 3 := by rw [hk]; decide
  have go496 : own_S p e below ST s₁ (mkF m 10 #[iv p0, iv p1, iv (p0 &&& (3 : Int32)), iv (p1 &&& (3 : Int32))] [(.int (p1 &&& (3 : Int32))), (.int (p0 &&& (3 : Int32)))]) := fun tt kt => (by
      rw [hST]
      show Steps p.tables e below (s₁.setTop (mkF m 0 #[iv p0, iv p1, .unset, .unset] [])) _
      refine XS.iloadN X0.here hx rfl (hb hby d11_0) rfl ?_
      refine XS.iconst X0.here hx rfl (hb hby d11_1) ?_
      refine XS.iand X0.here hx rfl (hb hby d11_2) rfl ?_
      refine XS.istoreN X0.here hx rfl (hb hby d11_3) rfl (l' := #[iv p0, iv p1, iv (p0 &&& (3 : Int32)), .unset]) rfl ?_
      refine XS.iloadN X0.here hx rfl (hb hby d11_4) rfl ?_
      refine XS.iconst X0.here hx rfl (hb hby d11_5) ?_
      show Steps p.tables e below (s₁.setTop (mkF m 6 #[iv p0, iv p1, iv (p0 &&& (3 : Int32)), .unset] [(.int (3 : Int32)), (.int p1)])) _
      refine XS.iand X0.here hx rfl (hb hby d11_6) rfl ?_
      refine XS.istoreN X0.here hx rfl (hb hby d11_7) rfl (l' := #[iv p0, iv p1, iv (p0 &&& (3 : Int32)), iv (p1 &&& (3 : Int32))]) rfl ?_
      refine XS.iloadN X0.here hx rfl (hb hby d11_8) rfl ?_
      refine XS.iloadN X0.here hx rfl (hb hby d11_9) rfl ?_
      exact kt)
  by_cases c0 : (p0 &&& (3 : Int32)) = (p1 &&& (3 : Int32))
  · have go497 : own_S p e below ST s₁ (mkF m 15 #[iv p0, iv p1, iv (p0 &&& (3 : Int32)), iv (p1 &&& (3 : Int32))] []) := fun tt kt => go496 tt (by
        refine XS.icmpYes X0.here hx rfl (pc0 := 10) (pc' := 15) rfl (hb hby d11_10) rfl (teq c0).1 (by decide) (by decide) ?_
        exact kt)
    have go498 : own_S p e below ST s₁ (mkF m 22 #[iv p0, iv p1, iv (p0 &&& (3 : Int32)), iv (p1 &&& (3 : Int32))] [(.int (2 : Int32)), (.int p0)]) := fun tt kt => go497 tt (by
        refine XS.iloadN X0.here hx rfl (hb hby d11_15) rfl ?_
        refine XS.iconst X0.here hx rfl (hb hby d11_16) ?_
        refine XS.icmpNo X0.here hx rfl (hb hby d11_17) rfl (flt a1).1 ?_
        refine XS.iloadN X0.here hx rfl (hb hby d11_20) rfl ?_
        refine XS.iconst X0.here hx rfl (hb hby d11_21) ?_
        exact kt)
    obtain ⟨_, _, ⟨T499, L499, k499, n499⟩, -, X499, ⟨Lc499, hQ499, l499, y499, z499⟩, st499⟩ := Jvm.LawKit.callS X0 hx (y := (⟨"com/example/inscribe/inscribe/model/EdgeEqualsPinLaw", "ch", "(II)C"⟩ : MethodName)) hown (mvT hZ (W 29 rfl)) (mvT hZ (W 30 rfl)) (mvT hZ (W 5 rfl)) (mvT hZ (W 31 rfl)) (by decide) (backOf (W := 0) (rm5 l Z a0 hw [] p0 (2 : Int32) h0 n0 Z0 ) hZ (W 31 rfl) (W 5 rfl) (by decide) (by decide)) (g := (mkF m 22 #[iv p0, iv p1, iv (p0 &&& (3 : Int32)), iv (p1 &&& (3 : Int32))] [(.int (2 : Int32)), (.int p0)])) rfl (by rw [hml]; rfl) (argsL := [(.int p0), (.int (2 : Int32))]) (rest := []) (lenOf pd122 rfl) rfl (by show 2 * 0 + _ ≤ _; exact Nat.le_of_eq rfl) (hb hby d11_22) (fun _ _ => ⟨rfl, e0, (by decide : 0 + 0 ≤ _), (by decide : 0 + 0 ≤ _)⟩)
    dsimp only [Pt.U, Pt.locs, Pt.cells, Pt.slots] at X499 l499 y499 z499 st499 hQ499
    subst l499 y499 z499
    obtain ⟨rfl, Nq499, eh499⟩ := hQ499
    have N499 := Fr.app N0 Nq499
    have go500 : own_S p e below ST T499 (mkF m 25 #[iv p0, iv p1, iv (p0 &&& (3 : Int32)), iv (p1 &&& (3 : Int32))] [(.int (own_ch p0 (2 : Int32)))]) := fun tt kt => go498 tt (st499 _ kt)
    have go501 : own_S p e below ST T499 (mkF m 27 #[iv p0, iv p1, iv (p0 &&& (3 : Int32)), iv (p1 &&& (3 : Int32))] [(.int (2 : Int32)), (.int p1), (.int (own_ch p0 (2 : Int32)))]) := fun tt kt => go500 tt (by
        refine XS.iloadN X499.here hx rfl (hb hby d11_25) rfl ?_
        refine XS.iconst X499.here hx rfl (hb hby d11_26) ?_
        exact kt)
    obtain ⟨_, _, ⟨T502, L502, k502, n502⟩, -, X502, ⟨Lc502, hQ502, l502, y502, z502⟩, st502⟩ := Jvm.LawKit.callS X499 hx (y := (⟨"com/example/inscribe/inscribe/model/EdgeEqualsPinLaw", "ch", "(II)C"⟩ : MethodName)) hown (mvT hZ (W 29 rfl)) (mvT hZ (W 30 rfl)) (mvT hZ (W 5 rfl)) (mvT hZ (W 31 rfl)) (by decide) (backOf (W := 1) (rm5 l Z a0 hw [] p1 (2 : Int32) h0 n0 Z0 ) hZ (W 31 rfl) (W 5 rfl) (by decide) (by decide)) (g := (mkF m 27 #[iv p0, iv p1, iv (p0 &&& (3 : Int32)), iv (p1 &&& (3 : Int32))] [(.int (2 : Int32)), (.int p1), (.int (own_ch p0 (2 : Int32)))])) rfl (by rw [hml]; rfl) (argsL := [(.int p1), (.int (2 : Int32))]) (rest := [(.int (own_ch p0 (2 : Int32)))]) (lenOf pd122 rfl) rfl (by show 2 * 0 + _ ≤ _; exact Nat.le_of_eq rfl) (hb hby d11_27) (fun _ _ => ⟨rfl, eh499, (by decide : 0 + 0 ≤ _), (by decide : 0 + 0 ≤ _)⟩)
    dsimp only [Pt.U, Pt.locs, Pt.cells, Pt.slots] at X502 l502 y502 z502 st502 hQ502
    subst l502 y502 z502
    obtain ⟨rfl, Nq502, eh502⟩ := hQ502
    have N502 := Fr.app N499 Nq502
    have go503 : own_S p e below ST T502 (mkF m 30 #[iv p0, iv p1, iv (p0 &&& (3 : Int32)), iv (p1 &&& (3 : Int32))] [(.int (own_ch p1 (2 : Int32))), (.int (own_ch p0 (2 : Int32)))]) := fun tt kt => go501 tt (st502 _ kt)
    by_cases d0 : (own_ch p0 (2 : Int32)) = (own_ch p1 (2 : Int32))
    · have go504 : own_S p e below ST T502 (mkF m 35 #[iv p0, iv p1, iv (p0 &&& (3 : Int32)), iv (p1 &&& (3 : Int32))] []) := fun tt kt => go503 tt (by
          refine XS.icmpYes X502.here hx rfl (pc0 := 30) (pc' := 35) rfl (hb hby d11_30) rfl (teq d0).1 (by decide) (by decide) ?_
          exact kt)
      have go505 : own_S p e below ST T502 (mkF m 80 #[iv p0, iv p1, iv (p0 &&& (3 : Int32)), iv (p1 &&& (3 : Int32))] [(.int (1 : Int32))]) := fun tt kt => go504 tt (by
          refine XS.iloadN X502.here hx rfl (hb hby d11_35) rfl ?_
          refine XS.iconst X502.here hx rfl (hb hby d11_36) ?_
          refine XS.icmpYes X502.here hx rfl (pc0 := 37) (pc' := 57) rfl (hb hby d11_37) rfl (tlt a2).1 (by decide) (by decide) ?_
          refine XS.iloadN X502.here hx rfl (hb hby d11_57) rfl ?_
          refine XS.iconst X502.here hx rfl (hb hby d11_58) ?_
          refine XS.icmpYes X502.here hx rfl (pc0 := 59) (pc' := 79) rfl (hb hby d11_59) rfl (tlt a3).1 (by decide) (by decide) ?_
          show Steps p.tables e below (T502.setTop (mkF m 79 #[iv p0, iv p1, iv (p0 &&& (3 : Int32)), iv (p1 &&& (3 : Int32))] [])) _
          refine XS.iconst X502.here hx rfl (hb hby d11_79) ?_
          exact kt)
      obtain ⟨fs, hr, hrun, hended, hW, hsame⟩ := X502.leave (v := some (.int (1 : Int32))) (fun h => by rw [Bd.returns] at h; cases h) (hlocks := by first | exact BodyLoose.notSynchronized Bd | exact Body.notSynchronized Bd)
      refine ⟨_, _, pre0 _ (go505 _ ?_), hrun, hended, _, _, rfl, ?_, ⟨_, rfl⟩, hW, hsame.mono (by decide) (by decide)⟩
      · exact retN X502 hx (t := .boolean) Bd.returns (by simp) (hb hby d11_80) hr
      · show Q11k1 Z p0 p1 h0 n0 _ T502.heap _
        rw [eh502]
        exact ⟨own_ans (own_kt ⟨c0, Or.inr d0, Or.inl a2, Or.inl a3⟩).symm, N502, rfl⟩
    · have go506 : own_S p e below ST T502 (mkF m 33 #[iv p0, iv p1, iv (p0 &&& (3 : Int32)), iv (p1 &&& (3 : Int32))] []) := fun tt kt => go503 tt (by
          refine XS.icmpNo X502.here hx rfl (hb hby d11_30) rfl (feq d0).1 ?_
          exact kt)
      have go507 : own_S p e below ST T502 (mkF m 34 #[iv p0, iv p1, iv (p0 &&& (3 : Int32)), iv (p1 &&& (3 : Int32))] [(.int (0 : Int32))]) := fun tt kt => go506 tt (by
          refine XS.iconst X502.here hx rfl (hb hby d11_33) ?_
          exact kt)
      obtain ⟨fs, hr, hrun, hended, hW, hsame⟩ := X502.leave (v := some (.int (0 : Int32))) (fun h => by rw [Bd.returns] at h; cases h) (hlocks := by first | exact BodyLoose.notSynchronized Bd | exact Body.notSynchronized Bd)
      refine ⟨_, _, pre0 _ (go507 _ ?_), hrun, hended, _, _, rfl, ?_, ⟨_, rfl⟩, hW, hsame.mono (by decide) (by decide)⟩
      · exact retN X502 hx (t := .boolean) Bd.returns (by simp) (hb hby d11_34) hr
      · show Q11k1 Z p0 p1 h0 n0 _ T502.heap _
        rw [eh502]
        exact ⟨own_ans (own_kf (fun q => q.2.1.elim a1 d0)).symm, N502, rfl⟩
  · have go508 : own_S p e below ST s₁ (mkF m 13 #[iv p0, iv p1, iv (p0 &&& (3 : Int32)), iv (p1 &&& (3 : Int32))] []) := fun tt kt => go496 tt (by
        refine XS.icmpNo X0.here hx rfl (hb hby d11_10) rfl (feq c0).1 ?_
        exact kt)
    have go509 : own_S p e below ST s₁ (mkF m 14 #[iv p0, iv p1, iv (p0 &&& (3 : Int32)), iv (p1 &&& (3 : Int32))] [(.int (0 : Int32))]) := fun tt kt => go508 tt (by
        refine XS.iconst X0.here hx rfl (hb hby d11_13) ?_
        exact kt)
    obtain ⟨fs, hr, hrun, hended, hW, hsame⟩ := X0.leave (v := some (.int (0 : Int32))) (fun h => by rw [Bd.returns] at h; cases h) (hlocks := by first | exact BodyLoose.notSynchronized Bd | exact Body.notSynchronized Bd)
    refine ⟨_, _, pre0 _ (go509 _ ?_), hrun, hended, _, _, rfl, ?_, ⟨_, rfl⟩, hW, hsame.mono (by decide) (by decide)⟩
    · exact retN X0 hx (t := .boolean) Bd.returns (by simp) (hb hby d11_14) hr
    · show Q11k1 Z p0 p1 h0 n0 _ s₁.heap _
      rw [e0]
      exact ⟨own_ans (own_kf (fun q => c0 q.1)).symm, N0, rfl⟩
theorem ef11k0 (m : MethodId) (x0 : Int32) (x1 : Int32) : entryFrame m #[(.int x0), (.int x1)] 4 = mkF m 0 #[.val (.int x0), .val (.int x1), .unset, .unset] [] := by first | (simp [entryFrame, mkF, argsToLocals, Value.category]; done) | rfl
def Q11k0 (Z : State) (p0 : Int32) (p1 : Int32) (h0 : Heap) (n0 : Nat) (v : Option Value) (h : Heap) (L : List Loc) : Prop := v = some (.int (own_ke p0 p1)) ∧ Fr n0 L ∧ h = h0
set_option maxRecDepth 65536 in
set_option maxHeartbeats 40000000 in
theorem rm11k0 (l : Launch) (Z : State) (a0 : Array Value) (hw : ∀ d ∈ tables_1, d.before a0 Z = true) (ws : List Jvm.Cond) (p0 : Int32) (p1 : Int32) (h0 : Heap) (n0 : Nat) (Z0 : n0 ≤ h0.size) (hk : p0 &&& 3 = 0) :
    MetFree l (⟨"com/example/inscribe/inscribe/model/EdgeEqualsPinLaw", "sameKey", "(II)Z"⟩ : MethodName) (head1 (Jvm.Cond.code (⟨"com/example/inscribe/inscribe/model/EdgeEqualsPinLaw", "sameKey", "(II)Z"⟩ : MethodName) method_4_code 4 (some .boolean) :: ws) ({ frames := 1, cells := 0, slots := 0, locals := 14 } : Room)) (fun aa UU => aa = #[(.int p0), (.int p1)] ∧ Z.Warmed39 UU.vm ∧ UU.heap = h0) (fun _ _ _ _ _ => True) (fun _ UU oo UU' => ∃ vv LL, oo = .returned vv ∧ Q11k0 Z p0 p1 h0 n0 vv UU'.heap LL ∧ FrameEnd UU oo UU' LL ({ frames := 1, cells := 0, slots := 0, locals := 14 } : Room).cells ({ frames := 1, cells := 0, slots := 0, locals := 14 } : Room).slots) := by
  have W : ∀ {d : Jvm.Cond} (i : Nat), tables_1[i]? = some d → d.before a0 Z = true := fun i h => hw _ (List.mem_of_getElem? h)
  refine MetFree.of_bodySF (plainFor_of_name pn0) hisR ?_
  intro p e s m args below meth c s₁ Bd hml0 hP hK
  obtain ⟨rfl, hZ, hh⟩ := hP
  have hx := Bd.exec
  have hby := Bd.bytes
  have hml : c.maxLocals = 4 := hml0
  have hown : s.vm.findClass "com/example/inscribe/inscribe/model/EdgeEqualsPinLaw" = some m.cls := findClass_of_methodNamed Bd.named
  have hnm := (name_of_methodNamed Bd.named Bd.method).1
  have X0 : Stand p l e ({ frames := 1, cells := 0, slots := 0, locals := 14 } : Room) s m #[(.int p0), (.int p1)] below meth c s₁ [] 0 0 := Stand.of_body Bd
  have e0 : s₁.heap = h0 := by rw [← hh, Bd.state]; rfl
  have N0 := Fr.nil n0
  have pre0 : ∀ tt, Steps p.tables e below (s₁.setTop (mkF m 0 #[iv p0, iv p1, .unset, .unset] [])) tt → Steps p.tables e below (s₁.setTop (entryFrame m #[(.int p0), (.int p1)] 4)) tt := fun tt kt => castTop (ef11k0 m p0 p1) kt
  obtain ⟨ST, hST⟩ : ∃ z : State, z = s₁.setTop (mkF m 0 #[iv p0, iv p1, .unset, .unset] []) := ⟨_, rfl⟩
  rw [← hST] at pre0
  have a1 : (p0 &&& 3) < 1 := by rw [hk]; decide
  have a2 : (p0 &&& 3) < 2 := by rw [hk]; decide
  have a3 : (p0 &&& 3) < 3 := by rw [hk]; decide
  have go510 : own_S p e below ST s₁ (mkF m 10 #[iv p0, iv p1, iv (p0 &&& (3 : Int32)), iv (p1 &&& (3 : Int32))] [(.int (p1 &&& (3 : Int32))), (.int (p0 &&& (3 : Int32)))]) := fun tt kt => (by
      rw [hST]
      show Steps p.tables e below (s₁.setTop (mkF m 0 #[iv p0, iv p1, .unset, .unset] [])) _
      refine XS.iloadN X0.here hx rfl (hb hby d11_0) rfl ?_
      refine XS.iconst X0.here hx rfl (hb hby d11_1) ?_
      refine XS.iand X0.here hx rfl (hb hby d11_2) rfl ?_
      refine XS.istoreN X0.here hx rfl (hb hby d11_3) rfl (l' := #[iv p0, iv p1, iv (p0 &&& (3 : Int32)), .unset]) rfl ?_
      refine XS.iloadN X0.here hx rfl (hb hby d11_4) rfl ?_
      refine XS.iconst X0.here hx rfl (hb hby d11_5) ?_
      show Steps p.tables e below (s₁.setTop (mkF m 6 #[iv p0, iv p1, iv (p0 &&& (3 : Int32)), .unset] [(.int (3 : Int32)), (.int p1)])) _
      refine XS.iand X0.here hx rfl (hb hby d11_6) rfl ?_
      refine XS.istoreN X0.here hx rfl (hb hby d11_7) rfl (l' := #[iv p0, iv p1, iv (p0 &&& (3 : Int32)), iv (p1 &&& (3 : Int32))]) rfl ?_
      refine XS.iloadN X0.here hx rfl (hb hby d11_8) rfl ?_
      refine XS.iloadN X0.here hx rfl (hb hby d11_9) rfl ?_
      exact kt)
  by_cases c0 : (p0 &&& (3 : Int32)) = (p1 &&& (3 : Int32))
  · have go511 : own_S p e below ST s₁ (mkF m 15 #[iv p0, iv p1, iv (p0 &&& (3 : Int32)), iv (p1 &&& (3 : Int32))] []) := fun tt kt => go510 tt (by
        refine XS.icmpYes X0.here hx rfl (pc0 := 10) (pc' := 15) rfl (hb hby d11_10) rfl (teq c0).1 (by decide) (by decide) ?_
        exact kt)
    have go512 : own_S p e below ST s₁ (mkF m 80 #[iv p0, iv p1, iv (p0 &&& (3 : Int32)), iv (p1 &&& (3 : Int32))] [(.int (1 : Int32))]) := fun tt kt => go511 tt (by
        refine XS.iloadN X0.here hx rfl (hb hby d11_15) rfl ?_
        refine XS.iconst X0.here hx rfl (hb hby d11_16) ?_
        refine XS.icmpYes X0.here hx rfl (pc0 := 17) (pc' := 35) rfl (hb hby d11_17) rfl (tlt a1).1 (by decide) (by decide) ?_
        refine XS.iloadN X0.here hx rfl (hb hby d11_35) rfl ?_
        refine XS.iconst X0.here hx rfl (hb hby d11_36) ?_
        refine XS.icmpYes X0.here hx rfl (pc0 := 37) (pc' := 57) rfl (hb hby d11_37) rfl (tlt a2).1 (by decide) (by decide) ?_
        show Steps p.tables e below (s₁.setTop (mkF m 57 #[iv p0, iv p1, iv (p0 &&& (3 : Int32)), iv (p1 &&& (3 : Int32))] [])) _
        refine XS.iloadN X0.here hx rfl (hb hby d11_57) rfl ?_
        refine XS.iconst X0.here hx rfl (hb hby d11_58) ?_
        refine XS.icmpYes X0.here hx rfl (pc0 := 59) (pc' := 79) rfl (hb hby d11_59) rfl (tlt a3).1 (by decide) (by decide) ?_
        refine XS.iconst X0.here hx rfl (hb hby d11_79) ?_
        exact kt)
    obtain ⟨fs, hr, hrun, hended, hW, hsame⟩ := X0.leave (v := some (.int (1 : Int32))) (fun h => by rw [Bd.returns] at h; cases h) (hlocks := by first | exact BodyLoose.notSynchronized Bd | exact Body.notSynchronized Bd)
    refine ⟨_, _, pre0 _ (go512 _ ?_), hrun, hended, _, _, rfl, ?_, ⟨_, rfl⟩, hW, hsame.mono (by decide) (by decide)⟩
    · exact retN X0 hx (t := .boolean) Bd.returns (by simp) (hb hby d11_80) hr
    · show Q11k0 Z p0 p1 h0 n0 _ s₁.heap _
      rw [e0]
      exact ⟨own_ans (own_kt ⟨c0, Or.inl a1, Or.inl a2, Or.inl a3⟩).symm, N0, rfl⟩
  · have go513 : own_S p e below ST s₁ (mkF m 13 #[iv p0, iv p1, iv (p0 &&& (3 : Int32)), iv (p1 &&& (3 : Int32))] []) := fun tt kt => go510 tt (by
        refine XS.icmpNo X0.here hx rfl (hb hby d11_10) rfl (feq c0).1 ?_
        exact kt)
    have go514 : own_S p e below ST s₁ (mkF m 14 #[iv p0, iv p1, iv (p0 &&& (3 : Int32)), iv (p1 &&& (3 : Int32))] [(.int (0 : Int32))]) := fun tt kt => go513 tt (by
        refine XS.iconst X0.here hx rfl (hb hby d11_13) ?_
        exact kt)
    obtain ⟨fs, hr, hrun, hended, hW, hsame⟩ := X0.leave (v := some (.int (0 : Int32))) (fun h => by rw [Bd.returns] at h; cases h) (hlocks := by first | exact BodyLoose.notSynchronized Bd | exact Body.notSynchronized Bd)
    refine ⟨_, _, pre0 _ (go514 _ ?_), hrun, hended, _, _, rfl, ?_, ⟨_, rfl⟩, hW, hsame.mono (by decide) (by decide)⟩
    · exact retN X0 hx (t := .boolean) Bd.returns (by simp) (hb hby d11_14) hr
    · show Q11k0 Z p0 p1 h0 n0 _ s₁.heap _
      rw [e0]
      exact ⟨own_ans (own_kf (fun q => c0 q.1)).symm, N0, rfl⟩
theorem rmSK (l : Launch) (Z : State) (a0 : Array Value) (hw : ∀ d ∈ tables_1, d.before a0 Z = true) (ws : List Jvm.Cond) (p0 : Int32) (p1 : Int32) (h0 : Heap) (n0 : Nat) (Z0 : n0 ≤ h0.size) :
    MetFree l (⟨"com/example/inscribe/inscribe/model/EdgeEqualsPinLaw", "sameKey", "(II)Z"⟩ : MethodName) (head1 (Jvm.Cond.code (⟨"com/example/inscribe/inscribe/model/EdgeEqualsPinLaw", "sameKey", "(II)Z"⟩ : MethodName) method_4_code 4 (some .boolean) :: ws) ({ frames := 1, cells := 0, slots := 0, locals := 14 } : Room)) (fun aa UU => aa = #[(.int p0), (.int p1)] ∧ Z.Warmed39 UU.vm ∧ UU.heap = h0) (fun _ _ _ _ _ => True) (fun _ UU oo UU' => ∃ vv LL, oo = .returned vv ∧ Q11k3 Z p0 p1 h0 n0 vv UU'.heap LL ∧ FrameEnd UU oo UU' LL ({ frames := 1, cells := 0, slots := 0, locals := 14 } : Room).cells ({ frames := 1, cells := 0, slots := 0, locals := 14 } : Room).slots) := by
  rcases own_k p0 _ rfl with hk | hk | hk | hk
  · exact rm11k0 l Z a0 hw ws p0 p1 h0 n0 Z0 hk
  · exact rm11k1 l Z a0 hw ws p0 p1 h0 n0 Z0 hk
  · exact rm11k2 l Z a0 hw ws p0 p1 h0 n0 Z0 hk
  · exact rm11k3 l Z a0 hw ws p0 p1 h0 n0 Z0 hk
theorem pn244 : plainName "java/lang/StringLatin1" = true := by first | (simp [plainName, overriddenIn]; done) | decide +kernel
theorem d14_0 : decode jdk_43_method_13_code 0 = .ok (.aload_n 0, 1) := by decide +kernel
theorem d14_1 : decode jdk_43_method_13_code 1 = .ok (.arraylength, 1) := by decide +kernel
theorem d14_2 : decode jdk_43_method_13_code 2 = .ok (.aload_n 1, 1) := by decide +kernel
theorem d14_3 : decode jdk_43_method_13_code 3 = .ok (.arraylength, 1) := by decide +kernel
theorem d14_4 : decode jdk_43_method_13_code 4 = .ok (.if_icmp .ne 30, 3) := by decide +kernel
theorem d14_34 : decode jdk_43_method_13_code 34 = .ok (.iconst 0, 1) := by decide +kernel
theorem d14_35 : decode jdk_43_method_13_code 35 = .ok (.ireturn, 1) := by decide +kernel
theorem ef14d (m : MethodId) (x0 : Addr) (x1 : Addr) : entryFrame m #[(.ref x0), (.ref x1)] 3 = mkF m 0 #[.val (.ref x0), .val (.ref x1), .unset] [] := by first | (simp [entryFrame, mkF, argsToLocals, Value.category]; done) | rfl
def Q14d (Z : State) (b1 : Addr) (kb1 : ClassId) (b2 : Addr) (kb2 : ClassId) (n1 : Int32) (n2 : Int32) (vs1 : List Value) (vs2 : List Value) (r : Int32) (h0 : Heap) (n0 : Nat) (v : Option Value) (h : Heap) (L : List Loc) : Prop := v = some (.int r) ∧ Fr n0 L ∧ h = h0
set_option maxRecDepth 65536 in
set_option maxHeartbeats 40000000 in
theorem rm14d (l : Launch) (Z : State) (a0 : Array Value) (hw : ∀ d ∈ tables_1, d.before a0 Z = true) (ws : List Jvm.Cond) (b1 : Addr) (kb1 : ClassId) (b2 : Addr) (kb2 : ClassId) (n1 : Int32) (n2 : Int32) (vs1 : List Value) (vs2 : List Value) (r : Int32) (h0 : Heap) (n0 : Nat) (Z0 : n0 ≤ h0.size) (V1 : Arv Z h0 b1 kb1 .byte n1 vs1 (.int (0 : Int32))) (V2 : Arv Z h0 b2 kb2 .byte n2 vs2 (.int (0 : Int32))) (hne : ¬ n1 = n2) (hrr : r = 0) :
    MetFree l (⟨"java/lang/StringLatin1", "equals", "([B[B)Z"⟩ : MethodName) (head1 (Jvm.Cond.code (⟨"java/lang/StringLatin1", "equals", "([B[B)Z"⟩ : MethodName) jdk_43_method_13_code 3 (some .boolean) :: ws) ({ frames := 0, cells := 0, slots := 0, locals := 0 } : Room)) (fun aa UU => aa = #[(.ref b1), (.ref b2)] ∧ Z.Warmed39 UU.vm ∧ UU.heap = h0) (fun _ _ _ _ _ => True) (fun _ UU oo UU' => ∃ vv LL, oo = .returned vv ∧ Q14d Z b1 kb1 b2 kb2 n1 n2 vs1 vs2 r h0 n0 vv UU'.heap LL ∧ FrameEnd UU oo UU' LL ({ frames := 0, cells := 0, slots := 0, locals := 0 } : Room).cells ({ frames := 0, cells := 0, slots := 0, locals := 0 } : Room).slots) := by
  have W : ∀ {d : Jvm.Cond} (i : Nat), tables_1[i]? = some d → d.before a0 Z = true := fun i h => hw _ (List.mem_of_getElem? h)
  refine MetFree.of_bodySF (plainFor_of_name pn244) hisR ?_
  intro p e s m args below meth c s₁ Bd hml0 hP hK
  obtain ⟨rfl, hZ, hh⟩ := hP
  have hx := Bd.exec
  have hby := Bd.bytes
  have hml : c.maxLocals = 3 := hml0
  have hown : s.vm.findClass "java/lang/StringLatin1" = some m.cls := findClass_of_methodNamed Bd.named
  have hnm := (name_of_methodNamed Bd.named Bd.method).1
  have X0 : Stand p l e ({ frames := 0, cells := 0, slots := 0, locals := 0 } : Room) s m #[(.ref b1), (.ref b2)] below meth c s₁ [] 0 0 := Stand.of_body Bd
  have e0 : s₁.heap = h0 := by rw [← hh, Bd.state]; rfl
  have N0 := Fr.nil n0
  have pre0 : ∀ tt, Steps p.tables e below (s₁.setTop (mkF m 0 #[rv b1, rv b2, .unset] [])) tt → Steps p.tables e below (s₁.setTop (entryFrame m #[(.ref b1), (.ref b2)] 3)) tt := fun tt kt => castTop (ef14d m b1 b2) kt
  obtain ⟨ST, hST⟩ : ∃ z : State, z = s₁.setTop (mkF m 0 #[rv b1, rv b2, .unset] []) := ⟨_, rfl⟩
  rw [← hST] at pre0
  have go515 : own_S p e below ST s₁ (mkF m 1 #[rv b1, rv b2, .unset] [(.ref b1)]) := fun tt kt => (by
      rw [hST]
      show Steps p.tables e below (s₁.setTop (mkF m 0 #[rv b1, rv b2, .unset] [])) _
      refine XS.aloadN X0.here hx rfl (hb hby d14_0) rfl rfl ?_
      exact kt)
  obtain ⟨cl516, Ar516, q516, S516, M516, H516, G516⟩ := id V1
  have go517 : own_S p e below ST s₁ (mkF m 2 #[rv b1, rv b2, .unset] [(.int n1)]) := fun tt kt => go515 tt (by
      refine X0.arraylength hx (by rw [e0]; exact Ar516.1) (State.isArrayOf_alike hZ.alike Ar516.2.1) (g := (mkF m 1 #[rv b1, rv b2, .unset] [(.ref b1)])) rfl rfl (hb hby d14_1) _ ?_
      rw [len_of S516 M516]
      exact kt)
  have go518 : own_S p e below ST s₁ (mkF m 3 #[rv b1, rv b2, .unset] [(.ref b2), (.int n1)]) := fun tt kt => go517 tt (by
      refine XS.aloadN X0.here hx rfl (hb hby d14_2) rfl rfl ?_
      exact kt)
  obtain ⟨cl519, Ar519, q519, S519, M519, H519, G519⟩ := id V2
  have go520 : own_S p e below ST s₁ (mkF m 4 #[rv b1, rv b2, .unset] [(.int n2), (.int n1)]) := fun tt kt => go518 tt (by
      refine X0.arraylength hx (by rw [e0]; exact Ar519.1) (State.isArrayOf_alike hZ.alike Ar519.2.1) (g := (mkF m 3 #[rv b1, rv b2, .unset] [(.ref b2), (.int n1)])) rfl rfl (hb hby d14_3) _ ?_
      rw [len_of S519 M519]
      exact kt)
  have go521 : own_S p e below ST s₁ (mkF m 35 #[rv b1, rv b2, .unset] [(.int (0 : Int32))]) := fun tt kt => go520 tt (by
      refine XS.icmpYes X0.here hx rfl (pc0 := 4) (pc' := 34) rfl (hb hby d14_4) rfl (feq hne).2 (by decide) (by decide) ?_
      refine XS.iconst X0.here hx rfl (hb hby d14_34) ?_
      exact kt)
  obtain ⟨fs, hr, hrun, hended, hW, hsame⟩ := X0.leave (v := some (.int (0 : Int32))) (fun h => by rw [Bd.returns] at h; cases h) (hlocks := by first | exact BodyLoose.notSynchronized Bd | exact Body.notSynchronized Bd)
  refine ⟨_, _, pre0 _ (go521 _ ?_), hrun, hended, _, _, rfl, ?_, ⟨_, rfl⟩, hW, hsame.mono (by decide) (by decide)⟩
  · exact retN X0 hx (t := .boolean) Bd.returns (by simp) (hb hby d14_35) hr
  · show Q14d Z b1 kb1 b2 kb2 n1 n2 vs1 vs2 r h0 n0 _ s₁.heap _
    rw [e0]
    exact ⟨own_ans hrr.symm, N0, rfl⟩
theorem d14_7 : decode jdk_43_method_13_code 7 = .ok (.iconst 0, 1) := by decide +kernel
theorem d14_8 : decode jdk_43_method_13_code 8 = .ok (.istore_n 2, 1) := by decide +kernel
theorem d14_9 : decode jdk_43_method_13_code 9 = .ok (.iload_n 2, 1) := by decide +kernel
theorem d14_10 : decode jdk_43_method_13_code 10 = .ok (.aload_n 0, 1) := by decide +kernel
theorem d14_11 : decode jdk_43_method_13_code 11 = .ok (.arraylength, 1) := by decide +kernel
theorem d14_12 : decode jdk_43_method_13_code 12 = .ok (.if_icmp .ge 20, 3) := by decide +kernel
theorem d14_32 : decode jdk_43_method_13_code 32 = .ok (.iconst 1, 1) := by decide +kernel
theorem d14_33 : decode jdk_43_method_13_code 33 = .ok (.ireturn, 1) := by decide +kernel
theorem ef14e0 (m : MethodId) (x0 : Addr) (x1 : Addr) : entryFrame m #[(.ref x0), (.ref x1)] 3 = mkF m 0 #[.val (.ref x0), .val (.ref x1), .unset] [] := by first | (simp [entryFrame, mkF, argsToLocals, Value.category]; done) | rfl
def Q14e0 (Z : State) (b1 : Addr) (kb1 : ClassId) (b2 : Addr) (kb2 : ClassId) (r : Int32) (h0 : Heap) (n0 : Nat) (v : Option Value) (h : Heap) (L : List Loc) : Prop := v = some (.int r) ∧ Fr n0 L ∧ h = h0
set_option maxRecDepth 65536 in
set_option maxHeartbeats 40000000 in
theorem rm14e0 (l : Launch) (Z : State) (a0 : Array Value) (hw : ∀ d ∈ tables_1, d.before a0 Z = true) (ws : List Jvm.Cond) (b1 : Addr) (kb1 : ClassId) (b2 : Addr) (kb2 : ClassId) (r : Int32) (h0 : Heap) (n0 : Nat) (Z0 : n0 ≤ h0.size) (V1 : Arv Z h0 b1 kb1 .byte (0 : Int32) [] (.int (0 : Int32))) (V2 : Arv Z h0 b2 kb2 .byte (0 : Int32) [] (.int (0 : Int32))) (hrr : r = 1) :
    MetFree l (⟨"java/lang/StringLatin1", "equals", "([B[B)Z"⟩ : MethodName) (head1 (Jvm.Cond.code (⟨"java/lang/StringLatin1", "equals", "([B[B)Z"⟩ : MethodName) jdk_43_method_13_code 3 (some .boolean) :: ws) ({ frames := 0, cells := 0, slots := 0, locals := 0 } : Room)) (fun aa UU => aa = #[(.ref b1), (.ref b2)] ∧ Z.Warmed39 UU.vm ∧ UU.heap = h0) (fun _ _ _ _ _ => True) (fun _ UU oo UU' => ∃ vv LL, oo = .returned vv ∧ Q14e0 Z b1 kb1 b2 kb2 r h0 n0 vv UU'.heap LL ∧ FrameEnd UU oo UU' LL ({ frames := 0, cells := 0, slots := 0, locals := 0 } : Room).cells ({ frames := 0, cells := 0, slots := 0, locals := 0 } : Room).slots) := by
  have W : ∀ {d : Jvm.Cond} (i : Nat), tables_1[i]? = some d → d.before a0 Z = true := fun i h => hw _ (List.mem_of_getElem? h)
  refine MetFree.of_bodySF (plainFor_of_name pn244) hisR ?_
  intro p e s m args below meth c s₁ Bd hml0 hP hK
  obtain ⟨rfl, hZ, hh⟩ := hP
  have hx := Bd.exec
  have hby := Bd.bytes
  have hml : c.maxLocals = 3 := hml0
  have hown : s.vm.findClass "java/lang/StringLatin1" = some m.cls := findClass_of_methodNamed Bd.named
  have hnm := (name_of_methodNamed Bd.named Bd.method).1
  have X0 : Stand p l e ({ frames := 0, cells := 0, slots := 0, locals := 0 } : Room) s m #[(.ref b1), (.ref b2)] below meth c s₁ [] 0 0 := Stand.of_body Bd
  have e0 : s₁.heap = h0 := by rw [← hh, Bd.state]; rfl
  have N0 := Fr.nil n0
  have pre0 : ∀ tt, Steps p.tables e below (s₁.setTop (mkF m 0 #[rv b1, rv b2, .unset] [])) tt → Steps p.tables e below (s₁.setTop (entryFrame m #[(.ref b1), (.ref b2)] 3)) tt := fun tt kt => castTop (ef14e0 m b1 b2) kt
  obtain ⟨ST, hST⟩ : ∃ z : State, z = s₁.setTop (mkF m 0 #[rv b1, rv b2, .unset] []) := ⟨_, rfl⟩
  rw [← hST] at pre0
  have go522 : own_S p e below ST s₁ (mkF m 1 #[rv b1, rv b2, .unset] [(.ref b1)]) := fun tt kt => (by
      rw [hST]
      show Steps p.tables e below (s₁.setTop (mkF m 0 #[rv b1, rv b2, .unset] [])) _
      refine XS.aloadN X0.here hx rfl (hb hby d14_0) rfl rfl ?_
      exact kt)
  obtain ⟨cl523, Ar523, q523, S523, M523, H523, G523⟩ := id V1
  have go524 : own_S p e below ST s₁ (mkF m 2 #[rv b1, rv b2, .unset] [(.int (0 : Int32))]) := fun tt kt => go522 tt (by
      refine X0.arraylength hx (by rw [e0]; exact Ar523.1) (State.isArrayOf_alike hZ.alike Ar523.2.1) (g := (mkF m 1 #[rv b1, rv b2, .unset] [(.ref b1)])) rfl rfl (hb hby d14_1) _ ?_
      rw [len_of S523 M523]
      exact kt)
  have go525 : own_S p e below ST s₁ (mkF m 3 #[rv b1, rv b2, .unset] [(.ref b2), (.int (0 : Int32))]) := fun tt kt => go524 tt (by
      refine XS.aloadN X0.here hx rfl (hb hby d14_2) rfl rfl ?_
      exact kt)
  obtain ⟨cl526, Ar526, q526, S526, M526, H526, G526⟩ := id V2
  have go527 : own_S p e below ST s₁ (mkF m 4 #[rv b1, rv b2, .unset] [(.int (0 : Int32)), (.int (0 : Int32))]) := fun tt kt => go525 tt (by
      refine X0.arraylength hx (by rw [e0]; exact Ar526.1) (State.isArrayOf_alike hZ.alike Ar526.2.1) (g := (mkF m 3 #[rv b1, rv b2, .unset] [(.ref b2), (.int (0 : Int32))])) rfl rfl (hb hby d14_3) _ ?_
      rw [len_of S526 M526]
      exact kt)
  have go528 : own_S p e below ST s₁ (mkF m 11 #[rv b1, rv b2, iv (0 : Int32)] [(.ref b1), (.int (0 : Int32))]) := fun tt kt => go527 tt (by
      refine XS.icmpNo X0.here hx rfl (hb hby d14_4) rfl (teq (by decide : (0 : Int32) = (0 : Int32))).2 ?_
      refine XS.iconst X0.here hx rfl (hb hby d14_7) ?_
      refine XS.istoreN X0.here hx rfl (hb hby d14_8) rfl (l' := #[rv b1, rv b2, iv (0 : Int32)]) rfl ?_
      refine XS.iloadN X0.here hx rfl (hb hby d14_9) rfl ?_
      refine XS.aloadN X0.here hx rfl (hb hby d14_10) rfl rfl ?_
      exact kt)
  obtain ⟨cl529, Ar529, q529, S529, M529, H529, G529⟩ := id V1
  have go530 : own_S p e below ST s₁ (mkF m 12 #[rv b1, rv b2, iv (0 : Int32)] [(.int (0 : Int32)), (.int (0 : Int32))]) := fun tt kt => go528 tt (by
      refine X0.arraylength hx (by rw [e0]; exact Ar529.1) (State.isArrayOf_alike hZ.alike Ar529.2.1) (g := (mkF m 11 #[rv b1, rv b2, iv (0 : Int32)] [(.ref b1), (.int (0 : Int32))])) rfl rfl (hb hby d14_11) _ ?_
      rw [len_of S529 M529]
      exact kt)
  have go531 : own_S p e below ST s₁ (mkF m 33 #[rv b1, rv b2, iv (0 : Int32)] [(.int (1 : Int32))]) := fun tt kt => go530 tt (by
      refine XS.icmpYes X0.here hx rfl (pc0 := 12) (pc' := 32) rfl (hb hby d14_12) rfl (flt (by decide : ¬ ((0 : Int32) < (0 : Int32)))).2.1 (by decide) (by decide) ?_
      refine XS.iconst X0.here hx rfl (hb hby d14_32) ?_
      exact kt)
  obtain ⟨fs, hr, hrun, hended, hW, hsame⟩ := X0.leave (v := some (.int (1 : Int32))) (fun h => by rw [Bd.returns] at h; cases h) (hlocks := by first | exact BodyLoose.notSynchronized Bd | exact Body.notSynchronized Bd)
  refine ⟨_, _, pre0 _ (go531 _ ?_), hrun, hended, _, _, rfl, ?_, ⟨_, rfl⟩, hW, hsame.mono (by decide) (by decide)⟩
  · exact retN X0 hx (t := .boolean) Bd.returns (by simp) (hb hby d14_33) hr
  · show Q14e0 Z b1 kb1 b2 kb2 r h0 n0 _ s₁.heap _
    rw [e0]
    exact ⟨own_ans (hrr).symm, N0, rfl⟩
theorem d14_15 : decode jdk_43_method_13_code 15 = .ok (.aload_n 0, 1) := by decide +kernel
theorem d14_16 : decode jdk_43_method_13_code 16 = .ok (.iload_n 2, 1) := by decide +kernel
theorem d14_17 : decode jdk_43_method_13_code 17 = .ok (.baload, 1) := by decide +kernel
theorem d14_18 : decode jdk_43_method_13_code 18 = .ok (.aload_n 1, 1) := by decide +kernel
theorem d14_19 : decode jdk_43_method_13_code 19 = .ok (.iload_n 2, 1) := by decide +kernel
theorem d14_20 : decode jdk_43_method_13_code 20 = .ok (.baload, 1) := by decide +kernel
theorem d14_21 : decode jdk_43_method_13_code 21 = .ok (.if_icmp .eq 5, 3) := by decide +kernel
theorem d14_26 : decode jdk_43_method_13_code 26 = .ok (.iinc 2 1, 3) := by decide +kernel
theorem d14_29 : decode jdk_43_method_13_code 29 = .ok (.goto (-20), 3) := by decide +kernel
theorem d14_24 : decode jdk_43_method_13_code 24 = .ok (.iconst 0, 1) := by decide +kernel
theorem d14_25 : decode jdk_43_method_13_code 25 = .ok (.ireturn, 1) := by decide +kernel
theorem ef14e1 (m : MethodId) (x0 : Addr) (x1 : Addr) : entryFrame m #[(.ref x0), (.ref x1)] 3 = mkF m 0 #[.val (.ref x0), .val (.ref x1), .unset] [] := by first | (simp [entryFrame, mkF, argsToLocals, Value.category]; done) | rfl
def Q14e1 (Z : State) (b1 : Addr) (kb1 : ClassId) (b2 : Addr) (kb2 : ClassId) (x0 : Int32) (y0 : Int32) (r : Int32) (h0 : Heap) (n0 : Nat) (v : Option Value) (h : Heap) (L : List Loc) : Prop := v = some (.int r) ∧ Fr n0 L ∧ h = h0
set_option maxRecDepth 65536 in
set_option maxHeartbeats 40000000 in
theorem rm14e1 (l : Launch) (Z : State) (a0 : Array Value) (hw : ∀ d ∈ tables_1, d.before a0 Z = true) (ws : List Jvm.Cond) (b1 : Addr) (kb1 : ClassId) (b2 : Addr) (kb2 : ClassId) (x0 : Int32) (y0 : Int32) (r : Int32) (h0 : Heap) (n0 : Nat) (Z0 : n0 ≤ h0.size) (V1 : Arv Z h0 b1 kb1 .byte (1 : Int32) [(.int x0)] (.int (0 : Int32))) (V2 : Arv Z h0 b2 kb2 .byte (1 : Int32) [(.int y0)] (.int (0 : Int32))) (hrr : r = if x0 = y0 then 1 else 0) :
    MetFree l (⟨"java/lang/StringLatin1", "equals", "([B[B)Z"⟩ : MethodName) (head1 (Jvm.Cond.code (⟨"java/lang/StringLatin1", "equals", "([B[B)Z"⟩ : MethodName) jdk_43_method_13_code 3 (some .boolean) :: ws) ({ frames := 0, cells := 0, slots := 0, locals := 0 } : Room)) (fun aa UU => aa = #[(.ref b1), (.ref b2)] ∧ Z.Warmed39 UU.vm ∧ UU.heap = h0) (fun _ _ _ _ _ => True) (fun _ UU oo UU' => ∃ vv LL, oo = .returned vv ∧ Q14e1 Z b1 kb1 b2 kb2 x0 y0 r h0 n0 vv UU'.heap LL ∧ FrameEnd UU oo UU' LL ({ frames := 0, cells := 0, slots := 0, locals := 0 } : Room).cells ({ frames := 0, cells := 0, slots := 0, locals := 0 } : Room).slots) := by
  have W : ∀ {d : Jvm.Cond} (i : Nat), tables_1[i]? = some d → d.before a0 Z = true := fun i h => hw _ (List.mem_of_getElem? h)
  refine MetFree.of_bodySF (plainFor_of_name pn244) hisR ?_
  intro p e s m args below meth c s₁ Bd hml0 hP hK
  obtain ⟨rfl, hZ, hh⟩ := hP
  have hx := Bd.exec
  have hby := Bd.bytes
  have hml : c.maxLocals = 3 := hml0
  have hown : s.vm.findClass "java/lang/StringLatin1" = some m.cls := findClass_of_methodNamed Bd.named
  have hnm := (name_of_methodNamed Bd.named Bd.method).1
  have X0 : Stand p l e ({ frames := 0, cells := 0, slots := 0, locals := 0 } : Room) s m #[(.ref b1), (.ref b2)] below meth c s₁ [] 0 0 := Stand.of_body Bd
  have e0 : s₁.heap = h0 := by rw [← hh, Bd.state]; rfl
  have N0 := Fr.nil n0
  have pre0 : ∀ tt, Steps p.tables e below (s₁.setTop (mkF m 0 #[rv b1, rv b2, .unset] [])) tt → Steps p.tables e below (s₁.setTop (entryFrame m #[(.ref b1), (.ref b2)] 3)) tt := fun tt kt => castTop (ef14e1 m b1 b2) kt
  obtain ⟨ST, hST⟩ : ∃ z : State, z = s₁.setTop (mkF m 0 #[rv b1, rv b2, .unset] []) := ⟨_, rfl⟩
  rw [← hST] at pre0
  have go532 : own_S p e below ST s₁ (mkF m 1 #[rv b1, rv b2, .unset] [(.ref b1)]) := fun tt kt => (by
      rw [hST]
      show Steps p.tables e below (s₁.setTop (mkF m 0 #[rv b1, rv b2, .unset] [])) _
      refine XS.aloadN X0.here hx rfl (hb hby d14_0) rfl rfl ?_
      exact kt)
  obtain ⟨cl533, Ar533, q533, S533, M533, H533, G533⟩ := id V1
  have go534 : own_S p e below ST s₁ (mkF m 2 #[rv b1, rv b2, .unset] [(.int (1 : Int32))]) := fun tt kt => go532 tt (by
      refine X0.arraylength hx (by rw [e0]; exact Ar533.1) (State.isArrayOf_alike hZ.alike Ar533.2.1) (g := (mkF m 1 #[rv b1, rv b2, .unset] [(.ref b1)])) rfl rfl (hb hby d14_1) _ ?_
      rw [len_of S533 M533]
      exact kt)
  have go535 : own_S p e below ST s₁ (mkF m 3 #[rv b1, rv b2, .unset] [(.ref b2), (.int (1 : Int32))]) := fun tt kt => go534 tt (by
      refine XS.aloadN X0.here hx rfl (hb hby d14_2) rfl rfl ?_
      exact kt)
  obtain ⟨cl536, Ar536, q536, S536, M536, H536, G536⟩ := id V2
  have go537 : own_S p e below ST s₁ (mkF m 4 #[rv b1, rv b2, .unset] [(.int (1 : Int32)), (.int (1 : Int32))]) := fun tt kt => go535 tt (by
      refine X0.arraylength hx (by rw [e0]; exact Ar536.1) (State.isArrayOf_alike hZ.alike Ar536.2.1) (g := (mkF m 3 #[rv b1, rv b2, .unset] [(.ref b2), (.int (1 : Int32))])) rfl rfl (hb hby d14_3) _ ?_
      rw [len_of S536 M536]
      exact kt)
  have go538 : own_S p e below ST s₁ (mkF m 11 #[rv b1, rv b2, iv (0 : Int32)] [(.ref b1), (.int (0 : Int32))]) := fun tt kt => go537 tt (by
      refine XS.icmpNo X0.here hx rfl (hb hby d14_4) rfl (teq (by decide : (1 : Int32) = (1 : Int32))).2 ?_
      refine XS.iconst X0.here hx rfl (hb hby d14_7) ?_
      refine XS.istoreN X0.here hx rfl (hb hby d14_8) rfl (l' := #[rv b1, rv b2, iv (0 : Int32)]) rfl ?_
      refine XS.iloadN X0.here hx rfl (hb hby d14_9) rfl ?_
      refine XS.aloadN X0.here hx rfl (hb hby d14_10) rfl rfl ?_
      exact kt)
  obtain ⟨cl539, Ar539, q539, S539, M539, H539, G539⟩ := id V1
  have go540 : own_S p e below ST s₁ (mkF m 12 #[rv b1, rv b2, iv (0 : Int32)] [(.int (1 : Int32)), (.int (0 : Int32))]) := fun tt kt => go538 tt (by
      refine X0.arraylength hx (by rw [e0]; exact Ar539.1) (State.isArrayOf_alike hZ.alike Ar539.2.1) (g := (mkF m 11 #[rv b1, rv b2, iv (0 : Int32)] [(.ref b1), (.int (0 : Int32))])) rfl rfl (hb hby d14_11) _ ?_
      rw [len_of S539 M539]
      exact kt)
  have go541 : own_S p e below ST s₁ (mkF m 17 #[rv b1, rv b2, iv (0 : Int32)] [(.int (0 : Int32)), (.ref b1)]) := fun tt kt => go540 tt (by
      refine XS.icmpNo X0.here hx rfl (hb hby d14_12) rfl (tlt (by decide : (0 : Int32) < (1 : Int32))).2.1 ?_
      refine XS.aloadN X0.here hx rfl (hb hby d14_15) rfl rfl ?_
      refine XS.iloadN X0.here hx rfl (hb hby d14_16) rfl ?_
      exact kt)
  obtain ⟨cl542, Ar542, q542, S542, M542, H542, G542⟩ := id V1
  have hin542 : ¬ ((0 : Int32) < 0 ∨ cl542.slots.size ≤ ((0 : Int32)).toNatClampNeg) := inb_of S542 ⟨by decide, by decide⟩
  have hat542 : cl542.slots[((0 : Int32)).toNatClampNeg]? = some (.int x0) := H542.at hin542 rfl
  have go543 : own_S p e below ST s₁ (mkF m 18 #[rv b1, rv b2, iv (0 : Int32)] [(.int x0)]) := fun tt kt => go541 tt (by
      refine X0.baloadBytes hx (j := (0 : Int32)) (v := (.int x0)) (by rw [e0]; exact Ar542.1) (State.isArrayOf_alike hZ.alike Ar542.2.1) Ar542.2.2 hin542 hat542 (g := (mkF m 17 #[rv b1, rv b2, iv (0 : Int32)] [(.int (0 : Int32)), (.ref b1)])) rfl rfl (hb hby d14_17) _ ?_
      exact kt)
  have go544 : own_S p e below ST s₁ (mkF m 20 #[rv b1, rv b2, iv (0 : Int32)] [(.int (0 : Int32)), (.ref b2), (.int x0)]) := fun tt kt => go543 tt (by
      refine XS.aloadN X0.here hx rfl (hb hby d14_18) rfl rfl ?_
      refine XS.iloadN X0.here hx rfl (hb hby d14_19) rfl ?_
      exact kt)
  obtain ⟨cl545, Ar545, q545, S545, M545, H545, G545⟩ := id V2
  have hin545 : ¬ ((0 : Int32) < 0 ∨ cl545.slots.size ≤ ((0 : Int32)).toNatClampNeg) := inb_of S545 ⟨by decide, by decide⟩
  have hat545 : cl545.slots[((0 : Int32)).toNatClampNeg]? = some (.int y0) := H545.at hin545 rfl
  have go546 : own_S p e below ST s₁ (mkF m 21 #[rv b1, rv b2, iv (0 : Int32)] [(.int y0), (.int x0)]) := fun tt kt => go544 tt (by
      refine X0.baloadBytes hx (j := (0 : Int32)) (v := (.int y0)) (by rw [e0]; exact Ar545.1) (State.isArrayOf_alike hZ.alike Ar545.2.1) Ar545.2.2 hin545 hat545 (g := (mkF m 20 #[rv b1, rv b2, iv (0 : Int32)] [(.int (0 : Int32)), (.ref b2), (.int x0)])) rfl rfl (hb hby d14_20) _ ?_
      exact kt)
  by_cases d0 : x0 = y0
  · have go547 : own_S p e below ST s₁ (mkF m 26 #[rv b1, rv b2, iv (0 : Int32)] []) := fun tt kt => go546 tt (by
        refine XS.icmpYes X0.here hx rfl (pc0 := 21) (pc' := 26) rfl (hb hby d14_21) rfl (teq d0).1 (by decide) (by decide) ?_
        exact kt)
    have go548 : own_S p e below ST s₁ (mkF m 11 #[rv b1, rv b2, iv (1 : Int32)] [(.ref b1), (.int (1 : Int32))]) := fun tt kt => go547 tt (by
        refine XS.iinc X0.here hx rfl (hb hby d14_26) rfl (l' := #[rv b1, rv b2, iv (1 : Int32)]) rfl ?_
        refine XS.goto X0.here hx rfl (pc0 := 29) (pc' := 9) rfl (hb hby d14_29) (by decide) (by decide) ?_
        refine XS.iloadN X0.here hx rfl (hb hby d14_9) rfl ?_
        refine XS.aloadN X0.here hx rfl (hb hby d14_10) rfl rfl ?_
        exact kt)
    obtain ⟨cl549, Ar549, q549, S549, M549, H549, G549⟩ := id V1
    have go550 : own_S p e below ST s₁ (mkF m 12 #[rv b1, rv b2, iv (1 : Int32)] [(.int (1 : Int32)), (.int (1 : Int32))]) := fun tt kt => go548 tt (by
        refine X0.arraylength hx (by rw [e0]; exact Ar549.1) (State.isArrayOf_alike hZ.alike Ar549.2.1) (g := (mkF m 11 #[rv b1, rv b2, iv (1 : Int32)] [(.ref b1), (.int (1 : Int32))])) rfl rfl (hb hby d14_11) _ ?_
        rw [len_of S549 M549]
        exact kt)
    have go551 : own_S p e below ST s₁ (mkF m 33 #[rv b1, rv b2, iv (1 : Int32)] [(.int (1 : Int32))]) := fun tt kt => go550 tt (by
        refine XS.icmpYes X0.here hx rfl (pc0 := 12) (pc' := 32) rfl (hb hby d14_12) rfl (flt (by decide : ¬ ((1 : Int32) < (1 : Int32)))).2.1 (by decide) (by decide) ?_
        refine XS.iconst X0.here hx rfl (hb hby d14_32) ?_
        exact kt)
    obtain ⟨fs, hr, hrun, hended, hW, hsame⟩ := X0.leave (v := some (.int (1 : Int32))) (fun h => by rw [Bd.returns] at h; cases h) (hlocks := by first | exact BodyLoose.notSynchronized Bd | exact Body.notSynchronized Bd)
    refine ⟨_, _, pre0 _ (go551 _ ?_), hrun, hended, _, _, rfl, ?_, ⟨_, rfl⟩, hW, hsame.mono (by decide) (by decide)⟩
    · exact retN X0 hx (t := .boolean) Bd.returns (by simp) (hb hby d14_33) hr
    · show Q14e1 Z b1 kb1 b2 kb2 x0 y0 r h0 n0 _ s₁.heap _
      rw [e0]
      exact ⟨own_ans (hrr.trans (if_pos d0)).symm, N0, rfl⟩
  · have go552 : own_S p e below ST s₁ (mkF m 24 #[rv b1, rv b2, iv (0 : Int32)] []) := fun tt kt => go546 tt (by
        refine XS.icmpNo X0.here hx rfl (hb hby d14_21) rfl (feq d0).1 ?_
        exact kt)
    have go553 : own_S p e below ST s₁ (mkF m 25 #[rv b1, rv b2, iv (0 : Int32)] [(.int (0 : Int32))]) := fun tt kt => go552 tt (by
        refine XS.iconst X0.here hx rfl (hb hby d14_24) ?_
        exact kt)
    obtain ⟨fs, hr, hrun, hended, hW, hsame⟩ := X0.leave (v := some (.int (0 : Int32))) (fun h => by rw [Bd.returns] at h; cases h) (hlocks := by first | exact BodyLoose.notSynchronized Bd | exact Body.notSynchronized Bd)
    refine ⟨_, _, pre0 _ (go553 _ ?_), hrun, hended, _, _, rfl, ?_, ⟨_, rfl⟩, hW, hsame.mono (by decide) (by decide)⟩
    · exact retN X0 hx (t := .boolean) Bd.returns (by simp) (hb hby d14_25) hr
    · show Q14e1 Z b1 kb1 b2 kb2 x0 y0 r h0 n0 _ s₁.heap _
      rw [e0]
      exact ⟨own_ans (hrr.trans (if_neg (fun q => d0 q))).symm, N0, rfl⟩
theorem ef14e2 (m : MethodId) (x0 : Addr) (x1 : Addr) : entryFrame m #[(.ref x0), (.ref x1)] 3 = mkF m 0 #[.val (.ref x0), .val (.ref x1), .unset] [] := by first | (simp [entryFrame, mkF, argsToLocals, Value.category]; done) | rfl
def Q14e2 (Z : State) (b1 : Addr) (kb1 : ClassId) (b2 : Addr) (kb2 : ClassId) (x0 : Int32) (x1 : Int32) (y0 : Int32) (y1 : Int32) (r : Int32) (h0 : Heap) (n0 : Nat) (v : Option Value) (h : Heap) (L : List Loc) : Prop := v = some (.int r) ∧ Fr n0 L ∧ h = h0
set_option maxRecDepth 65536 in
set_option maxHeartbeats 40000000 in
theorem rm14e2 (l : Launch) (Z : State) (a0 : Array Value) (hw : ∀ d ∈ tables_1, d.before a0 Z = true) (ws : List Jvm.Cond) (b1 : Addr) (kb1 : ClassId) (b2 : Addr) (kb2 : ClassId) (x0 : Int32) (x1 : Int32) (y0 : Int32) (y1 : Int32) (r : Int32) (h0 : Heap) (n0 : Nat) (Z0 : n0 ≤ h0.size) (V1 : Arv Z h0 b1 kb1 .byte (2 : Int32) [(.int x0), (.int x1)] (.int (0 : Int32))) (V2 : Arv Z h0 b2 kb2 .byte (2 : Int32) [(.int y0), (.int y1)] (.int (0 : Int32))) (hrr : r = if x0 = y0 ∧ x1 = y1 then 1 else 0) :
    MetFree l (⟨"java/lang/StringLatin1", "equals", "([B[B)Z"⟩ : MethodName) (head1 (Jvm.Cond.code (⟨"java/lang/StringLatin1", "equals", "([B[B)Z"⟩ : MethodName) jdk_43_method_13_code 3 (some .boolean) :: ws) ({ frames := 0, cells := 0, slots := 0, locals := 0 } : Room)) (fun aa UU => aa = #[(.ref b1), (.ref b2)] ∧ Z.Warmed39 UU.vm ∧ UU.heap = h0) (fun _ _ _ _ _ => True) (fun _ UU oo UU' => ∃ vv LL, oo = .returned vv ∧ Q14e2 Z b1 kb1 b2 kb2 x0 x1 y0 y1 r h0 n0 vv UU'.heap LL ∧ FrameEnd UU oo UU' LL ({ frames := 0, cells := 0, slots := 0, locals := 0 } : Room).cells ({ frames := 0, cells := 0, slots := 0, locals := 0 } : Room).slots) := by
  have W : ∀ {d : Jvm.Cond} (i : Nat), tables_1[i]? = some d → d.before a0 Z = true := fun i h => hw _ (List.mem_of_getElem? h)
  refine MetFree.of_bodySF (plainFor_of_name pn244) hisR ?_
  intro p e s m args below meth c s₁ Bd hml0 hP hK
  obtain ⟨rfl, hZ, hh⟩ := hP
  have hx := Bd.exec
  have hby := Bd.bytes
  have hml : c.maxLocals = 3 := hml0
  have hown : s.vm.findClass "java/lang/StringLatin1" = some m.cls := findClass_of_methodNamed Bd.named
  have hnm := (name_of_methodNamed Bd.named Bd.method).1
  have X0 : Stand p l e ({ frames := 0, cells := 0, slots := 0, locals := 0 } : Room) s m #[(.ref b1), (.ref b2)] below meth c s₁ [] 0 0 := Stand.of_body Bd
  have e0 : s₁.heap = h0 := by rw [← hh, Bd.state]; rfl
  have N0 := Fr.nil n0
  have pre0 : ∀ tt, Steps p.tables e below (s₁.setTop (mkF m 0 #[rv b1, rv b2, .unset] [])) tt → Steps p.tables e below (s₁.setTop (entryFrame m #[(.ref b1), (.ref b2)] 3)) tt := fun tt kt => castTop (ef14e2 m b1 b2) kt
  obtain ⟨ST, hST⟩ : ∃ z : State, z = s₁.setTop (mkF m 0 #[rv b1, rv b2, .unset] []) := ⟨_, rfl⟩
  rw [← hST] at pre0
  have go554 : own_S p e below ST s₁ (mkF m 1 #[rv b1, rv b2, .unset] [(.ref b1)]) := fun tt kt => (by
      rw [hST]
      show Steps p.tables e below (s₁.setTop (mkF m 0 #[rv b1, rv b2, .unset] [])) _
      refine XS.aloadN X0.here hx rfl (hb hby d14_0) rfl rfl ?_
      exact kt)
  obtain ⟨cl555, Ar555, q555, S555, M555, H555, G555⟩ := id V1
  have go556 : own_S p e below ST s₁ (mkF m 2 #[rv b1, rv b2, .unset] [(.int (2 : Int32))]) := fun tt kt => go554 tt (by
      refine X0.arraylength hx (by rw [e0]; exact Ar555.1) (State.isArrayOf_alike hZ.alike Ar555.2.1) (g := (mkF m 1 #[rv b1, rv b2, .unset] [(.ref b1)])) rfl rfl (hb hby d14_1) _ ?_
      rw [len_of S555 M555]
      exact kt)
  have go557 : own_S p e below ST s₁ (mkF m 3 #[rv b1, rv b2, .unset] [(.ref b2), (.int (2 : Int32))]) := fun tt kt => go556 tt (by
      refine XS.aloadN X0.here hx rfl (hb hby d14_2) rfl rfl ?_
      exact kt)
  obtain ⟨cl558, Ar558, q558, S558, M558, H558, G558⟩ := id V2
  have go559 : own_S p e below ST s₁ (mkF m 4 #[rv b1, rv b2, .unset] [(.int (2 : Int32)), (.int (2 : Int32))]) := fun tt kt => go557 tt (by
      refine X0.arraylength hx (by rw [e0]; exact Ar558.1) (State.isArrayOf_alike hZ.alike Ar558.2.1) (g := (mkF m 3 #[rv b1, rv b2, .unset] [(.ref b2), (.int (2 : Int32))])) rfl rfl (hb hby d14_3) _ ?_
      rw [len_of S558 M558]
      exact kt)
  have go560 : own_S p e below ST s₁ (mkF m 11 #[rv b1, rv b2, iv (0 : Int32)] [(.ref b1), (.int (0 : Int32))]) := fun tt kt => go559 tt (by
      refine XS.icmpNo X0.here hx rfl (hb hby d14_4) rfl (teq (by decide : (2 : Int32) = (2 : Int32))).2 ?_
      refine XS.iconst X0.here hx rfl (hb hby d14_7) ?_
      refine XS.istoreN X0.here hx rfl (hb hby d14_8) rfl (l' := #[rv b1, rv b2, iv (0 : Int32)]) rfl ?_
      refine XS.iloadN X0.here hx rfl (hb hby d14_9) rfl ?_
      refine XS.aloadN X0.here hx rfl (hb hby d14_10) rfl rfl ?_
      exact kt)
  obtain ⟨cl561, Ar561, q561, S561, M561, H561, G561⟩ := id V1
  have go562 : own_S p e below ST s₁ (mkF m 12 #[rv b1, rv b2, iv (0 : Int32)] [(.int (2 : Int32)), (.int (0 : Int32))]) := fun tt kt => go560 tt (by
      refine X0.arraylength hx (by rw [e0]; exact Ar561.1) (State.isArrayOf_alike hZ.alike Ar561.2.1) (g := (mkF m 11 #[rv b1, rv b2, iv (0 : Int32)] [(.ref b1), (.int (0 : Int32))])) rfl rfl (hb hby d14_11) _ ?_
      rw [len_of S561 M561]
      exact kt)
  have go563 : own_S p e below ST s₁ (mkF m 17 #[rv b1, rv b2, iv (0 : Int32)] [(.int (0 : Int32)), (.ref b1)]) := fun tt kt => go562 tt (by
      refine XS.icmpNo X0.here hx rfl (hb hby d14_12) rfl (tlt (by decide : (0 : Int32) < (2 : Int32))).2.1 ?_
      refine XS.aloadN X0.here hx rfl (hb hby d14_15) rfl rfl ?_
      refine XS.iloadN X0.here hx rfl (hb hby d14_16) rfl ?_
      exact kt)
  obtain ⟨cl564, Ar564, q564, S564, M564, H564, G564⟩ := id V1
  have hin564 : ¬ ((0 : Int32) < 0 ∨ cl564.slots.size ≤ ((0 : Int32)).toNatClampNeg) := inb_of S564 ⟨by decide, by decide⟩
  have hat564 : cl564.slots[((0 : Int32)).toNatClampNeg]? = some (.int x0) := H564.at hin564 rfl
  have go565 : own_S p e below ST s₁ (mkF m 18 #[rv b1, rv b2, iv (0 : Int32)] [(.int x0)]) := fun tt kt => go563 tt (by
      refine X0.baloadBytes hx (j := (0 : Int32)) (v := (.int x0)) (by rw [e0]; exact Ar564.1) (State.isArrayOf_alike hZ.alike Ar564.2.1) Ar564.2.2 hin564 hat564 (g := (mkF m 17 #[rv b1, rv b2, iv (0 : Int32)] [(.int (0 : Int32)), (.ref b1)])) rfl rfl (hb hby d14_17) _ ?_
      exact kt)
  have go566 : own_S p e below ST s₁ (mkF m 20 #[rv b1, rv b2, iv (0 : Int32)] [(.int (0 : Int32)), (.ref b2), (.int x0)]) := fun tt kt => go565 tt (by
      refine XS.aloadN X0.here hx rfl (hb hby d14_18) rfl rfl ?_
      refine XS.iloadN X0.here hx rfl (hb hby d14_19) rfl ?_
      exact kt)
  obtain ⟨cl567, Ar567, q567, S567, M567, H567, G567⟩ := id V2
  have hin567 : ¬ ((0 : Int32) < 0 ∨ cl567.slots.size ≤ ((0 : Int32)).toNatClampNeg) := inb_of S567 ⟨by decide, by decide⟩
  have hat567 : cl567.slots[((0 : Int32)).toNatClampNeg]? = some (.int y0) := H567.at hin567 rfl
  have go568 : own_S p e below ST s₁ (mkF m 21 #[rv b1, rv b2, iv (0 : Int32)] [(.int y0), (.int x0)]) := fun tt kt => go566 tt (by
      refine X0.baloadBytes hx (j := (0 : Int32)) (v := (.int y0)) (by rw [e0]; exact Ar567.1) (State.isArrayOf_alike hZ.alike Ar567.2.1) Ar567.2.2 hin567 hat567 (g := (mkF m 20 #[rv b1, rv b2, iv (0 : Int32)] [(.int (0 : Int32)), (.ref b2), (.int x0)])) rfl rfl (hb hby d14_20) _ ?_
      exact kt)
  by_cases d0 : x0 = y0
  · have go569 : own_S p e below ST s₁ (mkF m 26 #[rv b1, rv b2, iv (0 : Int32)] []) := fun tt kt => go568 tt (by
        refine XS.icmpYes X0.here hx rfl (pc0 := 21) (pc' := 26) rfl (hb hby d14_21) rfl (teq d0).1 (by decide) (by decide) ?_
        exact kt)
    have go570 : own_S p e below ST s₁ (mkF m 11 #[rv b1, rv b2, iv (1 : Int32)] [(.ref b1), (.int (1 : Int32))]) := fun tt kt => go569 tt (by
        refine XS.iinc X0.here hx rfl (hb hby d14_26) rfl (l' := #[rv b1, rv b2, iv (1 : Int32)]) rfl ?_
        refine XS.goto X0.here hx rfl (pc0 := 29) (pc' := 9) rfl (hb hby d14_29) (by decide) (by decide) ?_
        refine XS.iloadN X0.here hx rfl (hb hby d14_9) rfl ?_
        refine XS.aloadN X0.here hx rfl (hb hby d14_10) rfl rfl ?_
        exact kt)
    obtain ⟨cl571, Ar571, q571, S571, M571, H571, G571⟩ := id V1
    have go572 : own_S p e below ST s₁ (mkF m 12 #[rv b1, rv b2, iv (1 : Int32)] [(.int (2 : Int32)), (.int (1 : Int32))]) := fun tt kt => go570 tt (by
        refine X0.arraylength hx (by rw [e0]; exact Ar571.1) (State.isArrayOf_alike hZ.alike Ar571.2.1) (g := (mkF m 11 #[rv b1, rv b2, iv (1 : Int32)] [(.ref b1), (.int (1 : Int32))])) rfl rfl (hb hby d14_11) _ ?_
        rw [len_of S571 M571]
        exact kt)
    have go573 : own_S p e below ST s₁ (mkF m 17 #[rv b1, rv b2, iv (1 : Int32)] [(.int (1 : Int32)), (.ref b1)]) := fun tt kt => go572 tt (by
        refine XS.icmpNo X0.here hx rfl (hb hby d14_12) rfl (tlt (by decide : (1 : Int32) < (2 : Int32))).2.1 ?_
        refine XS.aloadN X0.here hx rfl (hb hby d14_15) rfl rfl ?_
        refine XS.iloadN X0.here hx rfl (hb hby d14_16) rfl ?_
        exact kt)
    obtain ⟨cl574, Ar574, q574, S574, M574, H574, G574⟩ := id V1
    have hin574 : ¬ ((1 : Int32) < 0 ∨ cl574.slots.size ≤ ((1 : Int32)).toNatClampNeg) := inb_of S574 ⟨by decide, by decide⟩
    have hat574 : cl574.slots[((1 : Int32)).toNatClampNeg]? = some (.int x1) := H574.at hin574 rfl
    have go575 : own_S p e below ST s₁ (mkF m 18 #[rv b1, rv b2, iv (1 : Int32)] [(.int x1)]) := fun tt kt => go573 tt (by
        refine X0.baloadBytes hx (j := (1 : Int32)) (v := (.int x1)) (by rw [e0]; exact Ar574.1) (State.isArrayOf_alike hZ.alike Ar574.2.1) Ar574.2.2 hin574 hat574 (g := (mkF m 17 #[rv b1, rv b2, iv (1 : Int32)] [(.int (1 : Int32)), (.ref b1)])) rfl rfl (hb hby d14_17) _ ?_
        exact kt)
    have go576 : own_S p e below ST s₁ (mkF m 20 #[rv b1, rv b2, iv (1 : Int32)] [(.int (1 : Int32)), (.ref b2), (.int x1)]) := fun tt kt => go575 tt (by
        refine XS.aloadN X0.here hx rfl (hb hby d14_18) rfl rfl ?_
        refine XS.iloadN X0.here hx rfl (hb hby d14_19) rfl ?_
        exact kt)
    obtain ⟨cl577, Ar577, q577, S577, M577, H577, G577⟩ := id V2
    have hin577 : ¬ ((1 : Int32) < 0 ∨ cl577.slots.size ≤ ((1 : Int32)).toNatClampNeg) := inb_of S577 ⟨by decide, by decide⟩
    have hat577 : cl577.slots[((1 : Int32)).toNatClampNeg]? = some (.int y1) := H577.at hin577 rfl
    have go578 : own_S p e below ST s₁ (mkF m 21 #[rv b1, rv b2, iv (1 : Int32)] [(.int y1), (.int x1)]) := fun tt kt => go576 tt (by
        refine X0.baloadBytes hx (j := (1 : Int32)) (v := (.int y1)) (by rw [e0]; exact Ar577.1) (State.isArrayOf_alike hZ.alike Ar577.2.1) Ar577.2.2 hin577 hat577 (g := (mkF m 20 #[rv b1, rv b2, iv (1 : Int32)] [(.int (1 : Int32)), (.ref b2), (.int x1)])) rfl rfl (hb hby d14_20) _ ?_
        exact kt)
    by_cases d1 : x1 = y1
    · have go579 : own_S p e below ST s₁ (mkF m 26 #[rv b1, rv b2, iv (1 : Int32)] []) := fun tt kt => go578 tt (by
          refine XS.icmpYes X0.here hx rfl (pc0 := 21) (pc' := 26) rfl (hb hby d14_21) rfl (teq d1).1 (by decide) (by decide) ?_
          exact kt)
      have go580 : own_S p e below ST s₁ (mkF m 11 #[rv b1, rv b2, iv (2 : Int32)] [(.ref b1), (.int (2 : Int32))]) := fun tt kt => go579 tt (by
          refine XS.iinc X0.here hx rfl (hb hby d14_26) rfl (l' := #[rv b1, rv b2, iv (2 : Int32)]) rfl ?_
          refine XS.goto X0.here hx rfl (pc0 := 29) (pc' := 9) rfl (hb hby d14_29) (by decide) (by decide) ?_
          refine XS.iloadN X0.here hx rfl (hb hby d14_9) rfl ?_
          refine XS.aloadN X0.here hx rfl (hb hby d14_10) rfl rfl ?_
          exact kt)
      obtain ⟨cl581, Ar581, q581, S581, M581, H581, G581⟩ := id V1
      have go582 : own_S p e below ST s₁ (mkF m 12 #[rv b1, rv b2, iv (2 : Int32)] [(.int (2 : Int32)), (.int (2 : Int32))]) := fun tt kt => go580 tt (by
          refine X0.arraylength hx (by rw [e0]; exact Ar581.1) (State.isArrayOf_alike hZ.alike Ar581.2.1) (g := (mkF m 11 #[rv b1, rv b2, iv (2 : Int32)] [(.ref b1), (.int (2 : Int32))])) rfl rfl (hb hby d14_11) _ ?_
          rw [len_of S581 M581]
          exact kt)
      have go583 : own_S p e below ST s₁ (mkF m 33 #[rv b1, rv b2, iv (2 : Int32)] [(.int (1 : Int32))]) := fun tt kt => go582 tt (by
          refine XS.icmpYes X0.here hx rfl (pc0 := 12) (pc' := 32) rfl (hb hby d14_12) rfl (flt (by decide : ¬ ((2 : Int32) < (2 : Int32)))).2.1 (by decide) (by decide) ?_
          refine XS.iconst X0.here hx rfl (hb hby d14_32) ?_
          exact kt)
      obtain ⟨fs, hr, hrun, hended, hW, hsame⟩ := X0.leave (v := some (.int (1 : Int32))) (fun h => by rw [Bd.returns] at h; cases h) (hlocks := by first | exact BodyLoose.notSynchronized Bd | exact Body.notSynchronized Bd)
      refine ⟨_, _, pre0 _ (go583 _ ?_), hrun, hended, _, _, rfl, ?_, ⟨_, rfl⟩, hW, hsame.mono (by decide) (by decide)⟩
      · exact retN X0 hx (t := .boolean) Bd.returns (by simp) (hb hby d14_33) hr
      · show Q14e2 Z b1 kb1 b2 kb2 x0 x1 y0 y1 r h0 n0 _ s₁.heap _
        rw [e0]
        exact ⟨own_ans (hrr.trans (if_pos ⟨d0, d1⟩)).symm, N0, rfl⟩
    · have go584 : own_S p e below ST s₁ (mkF m 24 #[rv b1, rv b2, iv (1 : Int32)] []) := fun tt kt => go578 tt (by
          refine XS.icmpNo X0.here hx rfl (hb hby d14_21) rfl (feq d1).1 ?_
          exact kt)
      have go585 : own_S p e below ST s₁ (mkF m 25 #[rv b1, rv b2, iv (1 : Int32)] [(.int (0 : Int32))]) := fun tt kt => go584 tt (by
          refine XS.iconst X0.here hx rfl (hb hby d14_24) ?_
          exact kt)
      obtain ⟨fs, hr, hrun, hended, hW, hsame⟩ := X0.leave (v := some (.int (0 : Int32))) (fun h => by rw [Bd.returns] at h; cases h) (hlocks := by first | exact BodyLoose.notSynchronized Bd | exact Body.notSynchronized Bd)
      refine ⟨_, _, pre0 _ (go585 _ ?_), hrun, hended, _, _, rfl, ?_, ⟨_, rfl⟩, hW, hsame.mono (by decide) (by decide)⟩
      · exact retN X0 hx (t := .boolean) Bd.returns (by simp) (hb hby d14_25) hr
      · show Q14e2 Z b1 kb1 b2 kb2 x0 x1 y0 y1 r h0 n0 _ s₁.heap _
        rw [e0]
        exact ⟨own_ans (hrr.trans (if_neg (fun q => d1 q.2))).symm, N0, rfl⟩
  · have go586 : own_S p e below ST s₁ (mkF m 24 #[rv b1, rv b2, iv (0 : Int32)] []) := fun tt kt => go568 tt (by
        refine XS.icmpNo X0.here hx rfl (hb hby d14_21) rfl (feq d0).1 ?_
        exact kt)
    have go587 : own_S p e below ST s₁ (mkF m 25 #[rv b1, rv b2, iv (0 : Int32)] [(.int (0 : Int32))]) := fun tt kt => go586 tt (by
        refine XS.iconst X0.here hx rfl (hb hby d14_24) ?_
        exact kt)
    obtain ⟨fs, hr, hrun, hended, hW, hsame⟩ := X0.leave (v := some (.int (0 : Int32))) (fun h => by rw [Bd.returns] at h; cases h) (hlocks := by first | exact BodyLoose.notSynchronized Bd | exact Body.notSynchronized Bd)
    refine ⟨_, _, pre0 _ (go587 _ ?_), hrun, hended, _, _, rfl, ?_, ⟨_, rfl⟩, hW, hsame.mono (by decide) (by decide)⟩
    · exact retN X0 hx (t := .boolean) Bd.returns (by simp) (hb hby d14_25) hr
    · show Q14e2 Z b1 kb1 b2 kb2 x0 x1 y0 y1 r h0 n0 _ s₁.heap _
      rw [e0]
      exact ⟨own_ans (hrr.trans (if_neg (fun q => d0 q.1))).symm, N0, rfl⟩
theorem ef14e3 (m : MethodId) (x0 : Addr) (x1 : Addr) : entryFrame m #[(.ref x0), (.ref x1)] 3 = mkF m 0 #[.val (.ref x0), .val (.ref x1), .unset] [] := by first | (simp [entryFrame, mkF, argsToLocals, Value.category]; done) | rfl
def Q14e3 (Z : State) (b1 : Addr) (kb1 : ClassId) (b2 : Addr) (kb2 : ClassId) (x0 : Int32) (x1 : Int32) (x2 : Int32) (y0 : Int32) (y1 : Int32) (y2 : Int32) (r : Int32) (h0 : Heap) (n0 : Nat) (v : Option Value) (h : Heap) (L : List Loc) : Prop := v = some (.int r) ∧ Fr n0 L ∧ h = h0
set_option maxRecDepth 65536 in
set_option maxHeartbeats 40000000 in
theorem rm14e3 (l : Launch) (Z : State) (a0 : Array Value) (hw : ∀ d ∈ tables_1, d.before a0 Z = true) (ws : List Jvm.Cond) (b1 : Addr) (kb1 : ClassId) (b2 : Addr) (kb2 : ClassId) (x0 : Int32) (x1 : Int32) (x2 : Int32) (y0 : Int32) (y1 : Int32) (y2 : Int32) (r : Int32) (h0 : Heap) (n0 : Nat) (Z0 : n0 ≤ h0.size) (V1 : Arv Z h0 b1 kb1 .byte (3 : Int32) [(.int x0), (.int x1), (.int x2)] (.int (0 : Int32))) (V2 : Arv Z h0 b2 kb2 .byte (3 : Int32) [(.int y0), (.int y1), (.int y2)] (.int (0 : Int32))) (hrr : r = if x0 = y0 ∧ x1 = y1 ∧ x2 = y2 then 1 else 0) :
    MetFree l (⟨"java/lang/StringLatin1", "equals", "([B[B)Z"⟩ : MethodName) (head1 (Jvm.Cond.code (⟨"java/lang/StringLatin1", "equals", "([B[B)Z"⟩ : MethodName) jdk_43_method_13_code 3 (some .boolean) :: ws) ({ frames := 0, cells := 0, slots := 0, locals := 0 } : Room)) (fun aa UU => aa = #[(.ref b1), (.ref b2)] ∧ Z.Warmed39 UU.vm ∧ UU.heap = h0) (fun _ _ _ _ _ => True) (fun _ UU oo UU' => ∃ vv LL, oo = .returned vv ∧ Q14e3 Z b1 kb1 b2 kb2 x0 x1 x2 y0 y1 y2 r h0 n0 vv UU'.heap LL ∧ FrameEnd UU oo UU' LL ({ frames := 0, cells := 0, slots := 0, locals := 0 } : Room).cells ({ frames := 0, cells := 0, slots := 0, locals := 0 } : Room).slots) := by
  have W : ∀ {d : Jvm.Cond} (i : Nat), tables_1[i]? = some d → d.before a0 Z = true := fun i h => hw _ (List.mem_of_getElem? h)
  refine MetFree.of_bodySF (plainFor_of_name pn244) hisR ?_
  intro p e s m args below meth c s₁ Bd hml0 hP hK
  obtain ⟨rfl, hZ, hh⟩ := hP
  have hx := Bd.exec
  have hby := Bd.bytes
  have hml : c.maxLocals = 3 := hml0
  have hown : s.vm.findClass "java/lang/StringLatin1" = some m.cls := findClass_of_methodNamed Bd.named
  have hnm := (name_of_methodNamed Bd.named Bd.method).1
  have X0 : Stand p l e ({ frames := 0, cells := 0, slots := 0, locals := 0 } : Room) s m #[(.ref b1), (.ref b2)] below meth c s₁ [] 0 0 := Stand.of_body Bd
  have e0 : s₁.heap = h0 := by rw [← hh, Bd.state]; rfl
  have N0 := Fr.nil n0
  have pre0 : ∀ tt, Steps p.tables e below (s₁.setTop (mkF m 0 #[rv b1, rv b2, .unset] [])) tt → Steps p.tables e below (s₁.setTop (entryFrame m #[(.ref b1), (.ref b2)] 3)) tt := fun tt kt => castTop (ef14e3 m b1 b2) kt
  obtain ⟨ST, hST⟩ : ∃ z : State, z = s₁.setTop (mkF m 0 #[rv b1, rv b2, .unset] []) := ⟨_, rfl⟩
  rw [← hST] at pre0
  have go588 : own_S p e below ST s₁ (mkF m 1 #[rv b1, rv b2, .unset] [(.ref b1)]) := fun tt kt => (by
      rw [hST]
      show Steps p.tables e below (s₁.setTop (mkF m 0 #[rv b1, rv b2, .unset] [])) _
      refine XS.aloadN X0.here hx rfl (hb hby d14_0) rfl rfl ?_
      exact kt)
  obtain ⟨cl589, Ar589, q589, S589, M589, H589, G589⟩ := id V1
  have go590 : own_S p e below ST s₁ (mkF m 2 #[rv b1, rv b2, .unset] [(.int (3 : Int32))]) := fun tt kt => go588 tt (by
      refine X0.arraylength hx (by rw [e0]; exact Ar589.1) (State.isArrayOf_alike hZ.alike Ar589.2.1) (g := (mkF m 1 #[rv b1, rv b2, .unset] [(.ref b1)])) rfl rfl (hb hby d14_1) _ ?_
      rw [len_of S589 M589]
      exact kt)
  have go591 : own_S p e below ST s₁ (mkF m 3 #[rv b1, rv b2, .unset] [(.ref b2), (.int (3 : Int32))]) := fun tt kt => go590 tt (by
      refine XS.aloadN X0.here hx rfl (hb hby d14_2) rfl rfl ?_
      exact kt)
  obtain ⟨cl592, Ar592, q592, S592, M592, H592, G592⟩ := id V2
  have go593 : own_S p e below ST s₁ (mkF m 4 #[rv b1, rv b2, .unset] [(.int (3 : Int32)), (.int (3 : Int32))]) := fun tt kt => go591 tt (by
      refine X0.arraylength hx (by rw [e0]; exact Ar592.1) (State.isArrayOf_alike hZ.alike Ar592.2.1) (g := (mkF m 3 #[rv b1, rv b2, .unset] [(.ref b2), (.int (3 : Int32))])) rfl rfl (hb hby d14_3) _ ?_
      rw [len_of S592 M592]
      exact kt)
  have go594 : own_S p e below ST s₁ (mkF m 11 #[rv b1, rv b2, iv (0 : Int32)] [(.ref b1), (.int (0 : Int32))]) := fun tt kt => go593 tt (by
      refine XS.icmpNo X0.here hx rfl (hb hby d14_4) rfl (teq (by decide : (3 : Int32) = (3 : Int32))).2 ?_
      refine XS.iconst X0.here hx rfl (hb hby d14_7) ?_
      refine XS.istoreN X0.here hx rfl (hb hby d14_8) rfl (l' := #[rv b1, rv b2, iv (0 : Int32)]) rfl ?_
      refine XS.iloadN X0.here hx rfl (hb hby d14_9) rfl ?_
      refine XS.aloadN X0.here hx rfl (hb hby d14_10) rfl rfl ?_
      exact kt)
  obtain ⟨cl595, Ar595, q595, S595, M595, H595, G595⟩ := id V1
  have go596 : own_S p e below ST s₁ (mkF m 12 #[rv b1, rv b2, iv (0 : Int32)] [(.int (3 : Int32)), (.int (0 : Int32))]) := fun tt kt => go594 tt (by
      refine X0.arraylength hx (by rw [e0]; exact Ar595.1) (State.isArrayOf_alike hZ.alike Ar595.2.1) (g := (mkF m 11 #[rv b1, rv b2, iv (0 : Int32)] [(.ref b1), (.int (0 : Int32))])) rfl rfl (hb hby d14_11) _ ?_
      rw [len_of S595 M595]
      exact kt)
  have go597 : own_S p e below ST s₁ (mkF m 17 #[rv b1, rv b2, iv (0 : Int32)] [(.int (0 : Int32)), (.ref b1)]) := fun tt kt => go596 tt (by
      refine XS.icmpNo X0.here hx rfl (hb hby d14_12) rfl (tlt (by decide : (0 : Int32) < (3 : Int32))).2.1 ?_
      refine XS.aloadN X0.here hx rfl (hb hby d14_15) rfl rfl ?_
      refine XS.iloadN X0.here hx rfl (hb hby d14_16) rfl ?_
      exact kt)
  obtain ⟨cl598, Ar598, q598, S598, M598, H598, G598⟩ := id V1
  have hin598 : ¬ ((0 : Int32) < 0 ∨ cl598.slots.size ≤ ((0 : Int32)).toNatClampNeg) := inb_of S598 ⟨by decide, by decide⟩
  have hat598 : cl598.slots[((0 : Int32)).toNatClampNeg]? = some (.int x0) := H598.at hin598 rfl
  have go599 : own_S p e below ST s₁ (mkF m 18 #[rv b1, rv b2, iv (0 : Int32)] [(.int x0)]) := fun tt kt => go597 tt (by
      refine X0.baloadBytes hx (j := (0 : Int32)) (v := (.int x0)) (by rw [e0]; exact Ar598.1) (State.isArrayOf_alike hZ.alike Ar598.2.1) Ar598.2.2 hin598 hat598 (g := (mkF m 17 #[rv b1, rv b2, iv (0 : Int32)] [(.int (0 : Int32)), (.ref b1)])) rfl rfl (hb hby d14_17) _ ?_
      exact kt)
  have go600 : own_S p e below ST s₁ (mkF m 20 #[rv b1, rv b2, iv (0 : Int32)] [(.int (0 : Int32)), (.ref b2), (.int x0)]) := fun tt kt => go599 tt (by
      refine XS.aloadN X0.here hx rfl (hb hby d14_18) rfl rfl ?_
      refine XS.iloadN X0.here hx rfl (hb hby d14_19) rfl ?_
      exact kt)
  obtain ⟨cl601, Ar601, q601, S601, M601, H601, G601⟩ := id V2
  have hin601 : ¬ ((0 : Int32) < 0 ∨ cl601.slots.size ≤ ((0 : Int32)).toNatClampNeg) := inb_of S601 ⟨by decide, by decide⟩
  have hat601 : cl601.slots[((0 : Int32)).toNatClampNeg]? = some (.int y0) := H601.at hin601 rfl
  have go602 : own_S p e below ST s₁ (mkF m 21 #[rv b1, rv b2, iv (0 : Int32)] [(.int y0), (.int x0)]) := fun tt kt => go600 tt (by
      refine X0.baloadBytes hx (j := (0 : Int32)) (v := (.int y0)) (by rw [e0]; exact Ar601.1) (State.isArrayOf_alike hZ.alike Ar601.2.1) Ar601.2.2 hin601 hat601 (g := (mkF m 20 #[rv b1, rv b2, iv (0 : Int32)] [(.int (0 : Int32)), (.ref b2), (.int x0)])) rfl rfl (hb hby d14_20) _ ?_
      exact kt)
  by_cases d0 : x0 = y0
  · have go603 : own_S p e below ST s₁ (mkF m 26 #[rv b1, rv b2, iv (0 : Int32)] []) := fun tt kt => go602 tt (by
        refine XS.icmpYes X0.here hx rfl (pc0 := 21) (pc' := 26) rfl (hb hby d14_21) rfl (teq d0).1 (by decide) (by decide) ?_
        exact kt)
    have go604 : own_S p e below ST s₁ (mkF m 11 #[rv b1, rv b2, iv (1 : Int32)] [(.ref b1), (.int (1 : Int32))]) := fun tt kt => go603 tt (by
        refine XS.iinc X0.here hx rfl (hb hby d14_26) rfl (l' := #[rv b1, rv b2, iv (1 : Int32)]) rfl ?_
        refine XS.goto X0.here hx rfl (pc0 := 29) (pc' := 9) rfl (hb hby d14_29) (by decide) (by decide) ?_
        refine XS.iloadN X0.here hx rfl (hb hby d14_9) rfl ?_
        refine XS.aloadN X0.here hx rfl (hb hby d14_10) rfl rfl ?_
        exact kt)
    obtain ⟨cl605, Ar605, q605, S605, M605, H605, G605⟩ := id V1
    have go606 : own_S p e below ST s₁ (mkF m 12 #[rv b1, rv b2, iv (1 : Int32)] [(.int (3 : Int32)), (.int (1 : Int32))]) := fun tt kt => go604 tt (by
        refine X0.arraylength hx (by rw [e0]; exact Ar605.1) (State.isArrayOf_alike hZ.alike Ar605.2.1) (g := (mkF m 11 #[rv b1, rv b2, iv (1 : Int32)] [(.ref b1), (.int (1 : Int32))])) rfl rfl (hb hby d14_11) _ ?_
        rw [len_of S605 M605]
        exact kt)
    have go607 : own_S p e below ST s₁ (mkF m 17 #[rv b1, rv b2, iv (1 : Int32)] [(.int (1 : Int32)), (.ref b1)]) := fun tt kt => go606 tt (by
        refine XS.icmpNo X0.here hx rfl (hb hby d14_12) rfl (tlt (by decide : (1 : Int32) < (3 : Int32))).2.1 ?_
        refine XS.aloadN X0.here hx rfl (hb hby d14_15) rfl rfl ?_
        refine XS.iloadN X0.here hx rfl (hb hby d14_16) rfl ?_
        exact kt)
    obtain ⟨cl608, Ar608, q608, S608, M608, H608, G608⟩ := id V1
    have hin608 : ¬ ((1 : Int32) < 0 ∨ cl608.slots.size ≤ ((1 : Int32)).toNatClampNeg) := inb_of S608 ⟨by decide, by decide⟩
    have hat608 : cl608.slots[((1 : Int32)).toNatClampNeg]? = some (.int x1) := H608.at hin608 rfl
    have go609 : own_S p e below ST s₁ (mkF m 18 #[rv b1, rv b2, iv (1 : Int32)] [(.int x1)]) := fun tt kt => go607 tt (by
        refine X0.baloadBytes hx (j := (1 : Int32)) (v := (.int x1)) (by rw [e0]; exact Ar608.1) (State.isArrayOf_alike hZ.alike Ar608.2.1) Ar608.2.2 hin608 hat608 (g := (mkF m 17 #[rv b1, rv b2, iv (1 : Int32)] [(.int (1 : Int32)), (.ref b1)])) rfl rfl (hb hby d14_17) _ ?_
        exact kt)
    have go610 : own_S p e below ST s₁ (mkF m 20 #[rv b1, rv b2, iv (1 : Int32)] [(.int (1 : Int32)), (.ref b2), (.int x1)]) := fun tt kt => go609 tt (by
        refine XS.aloadN X0.here hx rfl (hb hby d14_18) rfl rfl ?_
        refine XS.iloadN X0.here hx rfl (hb hby d14_19) rfl ?_
        exact kt)
    obtain ⟨cl611, Ar611, q611, S611, M611, H611, G611⟩ := id V2
    have hin611 : ¬ ((1 : Int32) < 0 ∨ cl611.slots.size ≤ ((1 : Int32)).toNatClampNeg) := inb_of S611 ⟨by decide, by decide⟩
    have hat611 : cl611.slots[((1 : Int32)).toNatClampNeg]? = some (.int y1) := H611.at hin611 rfl
    have go612 : own_S p e below ST s₁ (mkF m 21 #[rv b1, rv b2, iv (1 : Int32)] [(.int y1), (.int x1)]) := fun tt kt => go610 tt (by
        refine X0.baloadBytes hx (j := (1 : Int32)) (v := (.int y1)) (by rw [e0]; exact Ar611.1) (State.isArrayOf_alike hZ.alike Ar611.2.1) Ar611.2.2 hin611 hat611 (g := (mkF m 20 #[rv b1, rv b2, iv (1 : Int32)] [(.int (1 : Int32)), (.ref b2), (.int x1)])) rfl rfl (hb hby d14_20) _ ?_
        exact kt)
    by_cases d1 : x1 = y1
    · have go613 : own_S p e below ST s₁ (mkF m 26 #[rv b1, rv b2, iv (1 : Int32)] []) := fun tt kt => go612 tt (by
          refine XS.icmpYes X0.here hx rfl (pc0 := 21) (pc' := 26) rfl (hb hby d14_21) rfl (teq d1).1 (by decide) (by decide) ?_
          exact kt)
      have go614 : own_S p e below ST s₁ (mkF m 11 #[rv b1, rv b2, iv (2 : Int32)] [(.ref b1), (.int (2 : Int32))]) := fun tt kt => go613 tt (by
          refine XS.iinc X0.here hx rfl (hb hby d14_26) rfl (l' := #[rv b1, rv b2, iv (2 : Int32)]) rfl ?_
          refine XS.goto X0.here hx rfl (pc0 := 29) (pc' := 9) rfl (hb hby d14_29) (by decide) (by decide) ?_
          refine XS.iloadN X0.here hx rfl (hb hby d14_9) rfl ?_
          refine XS.aloadN X0.here hx rfl (hb hby d14_10) rfl rfl ?_
          exact kt)
      obtain ⟨cl615, Ar615, q615, S615, M615, H615, G615⟩ := id V1
      have go616 : own_S p e below ST s₁ (mkF m 12 #[rv b1, rv b2, iv (2 : Int32)] [(.int (3 : Int32)), (.int (2 : Int32))]) := fun tt kt => go614 tt (by
          refine X0.arraylength hx (by rw [e0]; exact Ar615.1) (State.isArrayOf_alike hZ.alike Ar615.2.1) (g := (mkF m 11 #[rv b1, rv b2, iv (2 : Int32)] [(.ref b1), (.int (2 : Int32))])) rfl rfl (hb hby d14_11) _ ?_
          rw [len_of S615 M615]
          exact kt)
      have go617 : own_S p e below ST s₁ (mkF m 17 #[rv b1, rv b2, iv (2 : Int32)] [(.int (2 : Int32)), (.ref b1)]) := fun tt kt => go616 tt (by
          refine XS.icmpNo X0.here hx rfl (hb hby d14_12) rfl (tlt (by decide : (2 : Int32) < (3 : Int32))).2.1 ?_
          refine XS.aloadN X0.here hx rfl (hb hby d14_15) rfl rfl ?_
          refine XS.iloadN X0.here hx rfl (hb hby d14_16) rfl ?_
          exact kt)
      obtain ⟨cl618, Ar618, q618, S618, M618, H618, G618⟩ := id V1
      have hin618 : ¬ ((2 : Int32) < 0 ∨ cl618.slots.size ≤ ((2 : Int32)).toNatClampNeg) := inb_of S618 ⟨by decide, by decide⟩
      have hat618 : cl618.slots[((2 : Int32)).toNatClampNeg]? = some (.int x2) := H618.at hin618 rfl
      have go619 : own_S p e below ST s₁ (mkF m 18 #[rv b1, rv b2, iv (2 : Int32)] [(.int x2)]) := fun tt kt => go617 tt (by
          refine X0.baloadBytes hx (j := (2 : Int32)) (v := (.int x2)) (by rw [e0]; exact Ar618.1) (State.isArrayOf_alike hZ.alike Ar618.2.1) Ar618.2.2 hin618 hat618 (g := (mkF m 17 #[rv b1, rv b2, iv (2 : Int32)] [(.int (2 : Int32)), (.ref b1)])) rfl rfl (hb hby d14_17) _ ?_
          exact kt)
      have go620 : own_S p e below ST s₁ (mkF m 20 #[rv b1, rv b2, iv (2 : Int32)] [(.int (2 : Int32)), (.ref b2), (.int x2)]) := fun tt kt => go619 tt (by
          refine XS.aloadN X0.here hx rfl (hb hby d14_18) rfl rfl ?_
          refine XS.iloadN X0.here hx rfl (hb hby d14_19) rfl ?_
          exact kt)
      obtain ⟨cl621, Ar621, q621, S621, M621, H621, G621⟩ := id V2
      have hin621 : ¬ ((2 : Int32) < 0 ∨ cl621.slots.size ≤ ((2 : Int32)).toNatClampNeg) := inb_of S621 ⟨by decide, by decide⟩
      have hat621 : cl621.slots[((2 : Int32)).toNatClampNeg]? = some (.int y2) := H621.at hin621 rfl
      have go622 : own_S p e below ST s₁ (mkF m 21 #[rv b1, rv b2, iv (2 : Int32)] [(.int y2), (.int x2)]) := fun tt kt => go620 tt (by
          refine X0.baloadBytes hx (j := (2 : Int32)) (v := (.int y2)) (by rw [e0]; exact Ar621.1) (State.isArrayOf_alike hZ.alike Ar621.2.1) Ar621.2.2 hin621 hat621 (g := (mkF m 20 #[rv b1, rv b2, iv (2 : Int32)] [(.int (2 : Int32)), (.ref b2), (.int x2)])) rfl rfl (hb hby d14_20) _ ?_
          exact kt)
      by_cases d2 : x2 = y2
      · have go623 : own_S p e below ST s₁ (mkF m 26 #[rv b1, rv b2, iv (2 : Int32)] []) := fun tt kt => go622 tt (by
            refine XS.icmpYes X0.here hx rfl (pc0 := 21) (pc' := 26) rfl (hb hby d14_21) rfl (teq d2).1 (by decide) (by decide) ?_
            exact kt)
        have go624 : own_S p e below ST s₁ (mkF m 11 #[rv b1, rv b2, iv (3 : Int32)] [(.ref b1), (.int (3 : Int32))]) := fun tt kt => go623 tt (by
            refine XS.iinc X0.here hx rfl (hb hby d14_26) rfl (l' := #[rv b1, rv b2, iv (3 : Int32)]) rfl ?_
            refine XS.goto X0.here hx rfl (pc0 := 29) (pc' := 9) rfl (hb hby d14_29) (by decide) (by decide) ?_
            refine XS.iloadN X0.here hx rfl (hb hby d14_9) rfl ?_
            refine XS.aloadN X0.here hx rfl (hb hby d14_10) rfl rfl ?_
            exact kt)
        obtain ⟨cl625, Ar625, q625, S625, M625, H625, G625⟩ := id V1
        have go626 : own_S p e below ST s₁ (mkF m 12 #[rv b1, rv b2, iv (3 : Int32)] [(.int (3 : Int32)), (.int (3 : Int32))]) := fun tt kt => go624 tt (by
            refine X0.arraylength hx (by rw [e0]; exact Ar625.1) (State.isArrayOf_alike hZ.alike Ar625.2.1) (g := (mkF m 11 #[rv b1, rv b2, iv (3 : Int32)] [(.ref b1), (.int (3 : Int32))])) rfl rfl (hb hby d14_11) _ ?_
            rw [len_of S625 M625]
            exact kt)
        have go627 : own_S p e below ST s₁ (mkF m 33 #[rv b1, rv b2, iv (3 : Int32)] [(.int (1 : Int32))]) := fun tt kt => go626 tt (by
            refine XS.icmpYes X0.here hx rfl (pc0 := 12) (pc' := 32) rfl (hb hby d14_12) rfl (flt (by decide : ¬ ((3 : Int32) < (3 : Int32)))).2.1 (by decide) (by decide) ?_
            refine XS.iconst X0.here hx rfl (hb hby d14_32) ?_
            exact kt)
        obtain ⟨fs, hr, hrun, hended, hW, hsame⟩ := X0.leave (v := some (.int (1 : Int32))) (fun h => by rw [Bd.returns] at h; cases h) (hlocks := by first | exact BodyLoose.notSynchronized Bd | exact Body.notSynchronized Bd)
        refine ⟨_, _, pre0 _ (go627 _ ?_), hrun, hended, _, _, rfl, ?_, ⟨_, rfl⟩, hW, hsame.mono (by decide) (by decide)⟩
        · exact retN X0 hx (t := .boolean) Bd.returns (by simp) (hb hby d14_33) hr
        · show Q14e3 Z b1 kb1 b2 kb2 x0 x1 x2 y0 y1 y2 r h0 n0 _ s₁.heap _
          rw [e0]
          exact ⟨own_ans (hrr.trans (if_pos ⟨d0, d1, d2⟩)).symm, N0, rfl⟩
      · have go628 : own_S p e below ST s₁ (mkF m 24 #[rv b1, rv b2, iv (2 : Int32)] []) := fun tt kt => go622 tt (by
            refine XS.icmpNo X0.here hx rfl (hb hby d14_21) rfl (feq d2).1 ?_
            exact kt)
        have go629 : own_S p e below ST s₁ (mkF m 25 #[rv b1, rv b2, iv (2 : Int32)] [(.int (0 : Int32))]) := fun tt kt => go628 tt (by
            refine XS.iconst X0.here hx rfl (hb hby d14_24) ?_
            exact kt)
        obtain ⟨fs, hr, hrun, hended, hW, hsame⟩ := X0.leave (v := some (.int (0 : Int32))) (fun h => by rw [Bd.returns] at h; cases h) (hlocks := by first | exact BodyLoose.notSynchronized Bd | exact Body.notSynchronized Bd)
        refine ⟨_, _, pre0 _ (go629 _ ?_), hrun, hended, _, _, rfl, ?_, ⟨_, rfl⟩, hW, hsame.mono (by decide) (by decide)⟩
        · exact retN X0 hx (t := .boolean) Bd.returns (by simp) (hb hby d14_25) hr
        · show Q14e3 Z b1 kb1 b2 kb2 x0 x1 x2 y0 y1 y2 r h0 n0 _ s₁.heap _
          rw [e0]
          exact ⟨own_ans (hrr.trans (if_neg (fun q => d2 q.2.2))).symm, N0, rfl⟩
    · have go630 : own_S p e below ST s₁ (mkF m 24 #[rv b1, rv b2, iv (1 : Int32)] []) := fun tt kt => go612 tt (by
          refine XS.icmpNo X0.here hx rfl (hb hby d14_21) rfl (feq d1).1 ?_
          exact kt)
      have go631 : own_S p e below ST s₁ (mkF m 25 #[rv b1, rv b2, iv (1 : Int32)] [(.int (0 : Int32))]) := fun tt kt => go630 tt (by
          refine XS.iconst X0.here hx rfl (hb hby d14_24) ?_
          exact kt)
      obtain ⟨fs, hr, hrun, hended, hW, hsame⟩ := X0.leave (v := some (.int (0 : Int32))) (fun h => by rw [Bd.returns] at h; cases h) (hlocks := by first | exact BodyLoose.notSynchronized Bd | exact Body.notSynchronized Bd)
      refine ⟨_, _, pre0 _ (go631 _ ?_), hrun, hended, _, _, rfl, ?_, ⟨_, rfl⟩, hW, hsame.mono (by decide) (by decide)⟩
      · exact retN X0 hx (t := .boolean) Bd.returns (by simp) (hb hby d14_25) hr
      · show Q14e3 Z b1 kb1 b2 kb2 x0 x1 x2 y0 y1 y2 r h0 n0 _ s₁.heap _
        rw [e0]
        exact ⟨own_ans (hrr.trans (if_neg (fun q => d1 q.2.1))).symm, N0, rfl⟩
  · have go632 : own_S p e below ST s₁ (mkF m 24 #[rv b1, rv b2, iv (0 : Int32)] []) := fun tt kt => go602 tt (by
        refine XS.icmpNo X0.here hx rfl (hb hby d14_21) rfl (feq d0).1 ?_
        exact kt)
    have go633 : own_S p e below ST s₁ (mkF m 25 #[rv b1, rv b2, iv (0 : Int32)] [(.int (0 : Int32))]) := fun tt kt => go632 tt (by
        refine XS.iconst X0.here hx rfl (hb hby d14_24) ?_
        exact kt)
    obtain ⟨fs, hr, hrun, hended, hW, hsame⟩ := X0.leave (v := some (.int (0 : Int32))) (fun h => by rw [Bd.returns] at h; cases h) (hlocks := by first | exact BodyLoose.notSynchronized Bd | exact Body.notSynchronized Bd)
    refine ⟨_, _, pre0 _ (go633 _ ?_), hrun, hended, _, _, rfl, ?_, ⟨_, rfl⟩, hW, hsame.mono (by decide) (by decide)⟩
    · exact retN X0 hx (t := .boolean) Bd.returns (by simp) (hb hby d14_25) hr
    · show Q14e3 Z b1 kb1 b2 kb2 x0 x1 x2 y0 y1 y2 r h0 n0 _ s₁.heap _
      rw [e0]
      exact ⟨own_ans (hrr.trans (if_neg (fun q => d0 q.1))).symm, N0, rfl⟩
theorem rmLE (l : Launch) (Z : State) (a0 : Array Value) (hw : ∀ d ∈ tables_1, d.before a0 Z = true) (ws : List Jvm.Cond) (b1 : Addr) (kb1 : ClassId) (b2 : Addr) (kb2 : ClassId) (k1 : Int32) (k2 : Int32) (h0 : Heap) (n0 : Nat) (Z0 : n0 ≤ h0.size) (V1 : Arv Z h0 b1 kb1 .byte (k1 &&& (3 : Int32)) (own_vs k1) (.int (0 : Int32))) (V2 : Arv Z h0 b2 kb2 .byte (k2 &&& (3 : Int32)) (own_vs k2) (.int (0 : Int32))) :
    MetFree l (⟨"java/lang/StringLatin1", "equals", "([B[B)Z"⟩ : MethodName) (head1 (Jvm.Cond.code (⟨"java/lang/StringLatin1", "equals", "([B[B)Z"⟩ : MethodName) jdk_43_method_13_code 3 (some .boolean) :: ws) ({ frames := 0, cells := 0, slots := 0, locals := 0 } : Room)) (fun aa UU => aa = #[(.ref b1), (.ref b2)] ∧ Z.Warmed39 UU.vm ∧ UU.heap = h0) (fun _ _ _ _ _ => True) (fun _ UU oo UU' => ∃ vv LL, oo = .returned vv ∧ Q14e0 Z b1 kb1 b2 kb2 (own_ke k1 k2) h0 n0 vv UU'.heap LL ∧ FrameEnd UU oo UU' LL ({ frames := 0, cells := 0, slots := 0, locals := 0 } : Room).cells ({ frames := 0, cells := 0, slots := 0, locals := 0 } : Room).slots) := by
  rcases own_k k1 _ rfl with h1 | h1 | h1 | h1 <;> rcases own_k k2 _ rfl with h2 | h2 | h2 | h2
  · rw [own_vs0 h1, h1] at V1; rw [own_vs0 h2, h2] at V2; exact rm14e0 l Z a0 hw ws b1 kb1 b2 kb2   (own_ke k1 k2) h0 n0 Z0 V1 V2 (own_ke0 h1 h2)
  · rw [own_vs0 h1, h1] at V1; rw [own_vs1 h2, h2] at V2; exact rm14d l Z a0 hw ws b1 kb1 b2 kb2 0 1 _ _ (own_ke k1 k2) h0 n0 Z0 V1 V2 (by decide) (own_kd h1 h2 (by decide))
  · rw [own_vs0 h1, h1] at V1; rw [own_vs2 h2, h2] at V2; exact rm14d l Z a0 hw ws b1 kb1 b2 kb2 0 2 _ _ (own_ke k1 k2) h0 n0 Z0 V1 V2 (by decide) (own_kd h1 h2 (by decide))
  · rw [own_vs0 h1, h1] at V1; rw [own_vs3 h2, h2] at V2; exact rm14d l Z a0 hw ws b1 kb1 b2 kb2 0 3 _ _ (own_ke k1 k2) h0 n0 Z0 V1 V2 (by decide) (own_kd h1 h2 (by decide))
  · rw [own_vs1 h1, h1] at V1; rw [own_vs0 h2, h2] at V2; exact rm14d l Z a0 hw ws b1 kb1 b2 kb2 1 0 _ _ (own_ke k1 k2) h0 n0 Z0 V1 V2 (by decide) (own_kd h1 h2 (by decide))
  · rw [own_vs1 h1, h1] at V1; rw [own_vs1 h2, h2] at V2; exact rm14e1 l Z a0 hw ws b1 kb1 b2 kb2 (own_by (own_ch k1 2)) (own_by (own_ch k2 2)) (own_ke k1 k2) h0 n0 Z0 V1 V2 (own_ke1 h1 h2)
  · rw [own_vs1 h1, h1] at V1; rw [own_vs2 h2, h2] at V2; exact rm14d l Z a0 hw ws b1 kb1 b2 kb2 1 2 _ _ (own_ke k1 k2) h0 n0 Z0 V1 V2 (by decide) (own_kd h1 h2 (by decide))
  · rw [own_vs1 h1, h1] at V1; rw [own_vs3 h2, h2] at V2; exact rm14d l Z a0 hw ws b1 kb1 b2 kb2 1 3 _ _ (own_ke k1 k2) h0 n0 Z0 V1 V2 (by decide) (own_kd h1 h2 (by decide))
  · rw [own_vs2 h1, h1] at V1; rw [own_vs0 h2, h2] at V2; exact rm14d l Z a0 hw ws b1 kb1 b2 kb2 2 0 _ _ (own_ke k1 k2) h0 n0 Z0 V1 V2 (by decide) (own_kd h1 h2 (by decide))
  · rw [own_vs2 h1, h1] at V1; rw [own_vs1 h2, h2] at V2; exact rm14d l Z a0 hw ws b1 kb1 b2 kb2 2 1 _ _ (own_ke k1 k2) h0 n0 Z0 V1 V2 (by decide) (own_kd h1 h2 (by decide))
  · rw [own_vs2 h1, h1] at V1; rw [own_vs2 h2, h2] at V2; exact rm14e2 l Z a0 hw ws b1 kb1 b2 kb2 (own_by (own_ch k1 2)) (own_by (own_ch k1 10)) (own_by (own_ch k2 2)) (own_by (own_ch k2 10)) (own_ke k1 k2) h0 n0 Z0 V1 V2 (own_ke2 h1 h2)
  · rw [own_vs2 h1, h1] at V1; rw [own_vs3 h2, h2] at V2; exact rm14d l Z a0 hw ws b1 kb1 b2 kb2 2 3 _ _ (own_ke k1 k2) h0 n0 Z0 V1 V2 (by decide) (own_kd h1 h2 (by decide))
  · rw [own_vs3 h1, h1] at V1; rw [own_vs0 h2, h2] at V2; exact rm14d l Z a0 hw ws b1 kb1 b2 kb2 3 0 _ _ (own_ke k1 k2) h0 n0 Z0 V1 V2 (by decide) (own_kd h1 h2 (by decide))
  · rw [own_vs3 h1, h1] at V1; rw [own_vs1 h2, h2] at V2; exact rm14d l Z a0 hw ws b1 kb1 b2 kb2 3 1 _ _ (own_ke k1 k2) h0 n0 Z0 V1 V2 (by decide) (own_kd h1 h2 (by decide))
  · rw [own_vs3 h1, h1] at V1; rw [own_vs2 h2, h2] at V2; exact rm14d l Z a0 hw ws b1 kb1 b2 kb2 3 2 _ _ (own_ke k1 k2) h0 n0 Z0 V1 V2 (by decide) (own_kd h1 h2 (by decide))
  · rw [own_vs3 h1, h1] at V1; rw [own_vs3 h2, h2] at V2; exact rm14e3 l Z a0 hw ws b1 kb1 b2 kb2 (own_by (own_ch k1 2)) (own_by (own_ch k1 10)) (own_by (own_ch k1 18)) (own_by (own_ch k2 2)) (own_by (own_ch k2 10)) (own_by (own_ch k2 18)) (own_ke k1 k2) h0 n0 Z0 V1 V2 (own_ke3 h1 h2)
theorem d13_0 : decode jdk_42_method_66_code 0 = .ok (.aload_n 0, 1) := by decide +kernel
theorem d13_1 : decode jdk_42_method_66_code 1 = .ok (.aload_n 1, 1) := by decide +kernel
theorem d13_2 : decode jdk_42_method_66_code 2 = .ok (.if_acmp .ne 5, 3) := by decide +kernel
theorem d13_7 : decode jdk_42_method_66_code 7 = .ok (.aload_n 1, 1) := by decide +kernel
theorem d13_8 : decode jdk_42_method_66_code 8 = .ok (.instanceof 10, 3) := by decide +kernel
theorem d13_11 : decode jdk_42_method_66_code 11 = .ok (.ifCond .eq 43, 3) := by decide +kernel
theorem d13_14 : decode jdk_42_method_66_code 14 = .ok (.aload_n 1, 1) := by decide +kernel
theorem d13_15 : decode jdk_42_method_66_code 15 = .ok (.checkcast 10, 3) := by decide +kernel
theorem d13_18 : decode jdk_42_method_66_code 18 = .ok (.astore_n 2, 1) := by decide +kernel
theorem d13_19 : decode jdk_42_method_66_code 19 = .ok (.getstatic 38, 3) := by decide +kernel
theorem d13_22 : decode jdk_42_method_66_code 22 = .ok (.ifCond .eq 14, 3) := by decide +kernel
theorem d13_25 : decode jdk_42_method_66_code 25 = .ok (.aload_n 0, 1) := by decide +kernel
theorem d13_26 : decode jdk_42_method_66_code 26 = .ok (.getfield 15, 3) := by decide +kernel
theorem d13_29 : decode jdk_42_method_66_code 29 = .ok (.aload_n 2, 1) := by decide +kernel
theorem d13_30 : decode jdk_42_method_66_code 30 = .ok (.getfield 15, 3) := by decide +kernel
theorem d13_33 : decode jdk_42_method_66_code 33 = .ok (.if_icmp .ne 21, 3) := by decide +kernel
theorem d13_36 : decode jdk_42_method_66_code 36 = .ok (.aload_n 0, 1) := by decide +kernel
theorem d13_37 : decode jdk_42_method_66_code 37 = .ok (.getfield 9, 3) := by decide +kernel
theorem d13_40 : decode jdk_42_method_66_code 40 = .ok (.aload_n 2, 1) := by decide +kernel
theorem d13_41 : decode jdk_42_method_66_code 41 = .ok (.getfield 9, 3) := by decide +kernel
theorem d13_44 : decode jdk_42_method_66_code 44 = .ok (.invokestatic 541, 3) := by decide +kernel
theorem pd292 : parseMethodDescriptor "([B[B)Z" = some ⟨[(.array .byte), (.array .byte)], some .boolean⟩ := by decide +kernel
theorem d13_47 : decode jdk_42_method_66_code 47 = .ok (.ifCond .eq 7, 3) := by decide +kernel
theorem d13_54 : decode jdk_42_method_66_code 54 = .ok (.iconst 0, 1) := by decide +kernel
theorem d13_55 : decode jdk_42_method_66_code 55 = .ok (.ireturn, 1) := by decide +kernel
theorem d13_50 : decode jdk_42_method_66_code 50 = .ok (.iconst 1, 1) := by decide +kernel
theorem d13_51 : decode jdk_42_method_66_code 51 = .ok (.goto 4, 3) := by decide +kernel
theorem ef13 (m : MethodId) (x0 : Addr) (x1 : Addr) : entryFrame m #[(.ref x0), (.ref x1)] 3 = mkF m 0 #[.val (.ref x0), .val (.ref x1), .unset] [] := by first | (simp [entryFrame, mkF, argsToLocals, Value.category]; done) | rfl
def Q13 (Z : State) (o1 : Addr) (b1 : Addr) (kb1 : ClassId) (k1 : Int32) (o2 : Addr) (b2 : Addr) (kb2 : ClassId) (k2 : Int32) (cs : Int32) (h0 : Heap) (n0 : Nat) (v : Option Value) (h : Heap) (L : List Loc) : Prop := v = some (.int (own_ke k1 k2)) ∧ Fr n0 L ∧ h = h0
set_option maxRecDepth 65536 in
set_option maxHeartbeats 40000000 in
theorem rm13 (l : Launch) (Z : State) (a0 : Array Value) (hw : ∀ d ∈ tables_1, d.before a0 Z = true) (ws : List Jvm.Cond) (o1 : Addr) (b1 : Addr) (kb1 : ClassId) (k1 : Int32) (o2 : Addr) (b2 : Addr) (kb2 : ClassId) (k2 : Int32) (cs : Int32) (h0 : Heap) (n0 : Nat) (Z0 : n0 ≤ h0.size) (E1 : Exa Z h0 o1 "java/lang/String") (C1 : Fld Z h0 o1 "java/lang/String" "coder" "B" (.int (0 : Int32))) (B1 : Fld Z h0 o1 "java/lang/String" "value" "[B" (.ref b1)) (V1 : Arv Z h0 b1 kb1 .byte (k1 &&& (3 : Int32)) (own_vs k1) (.int (0 : Int32))) (E2 : Exa Z h0 o2 "java/lang/String") (C2 : Fld Z h0 o2 "java/lang/String" "coder" "B" (.int (0 : Int32))) (B2 : Fld Z h0 o2 "java/lang/String" "value" "[B" (.ref b2)) (V2 : Arv Z h0 b2 kb2 .byte (k2 &&& (3 : Int32)) (own_vs k2) (.int (0 : Int32))) (n12 : o1 ≠ o2) (SC : Sta Z Z.heap "java/lang/String" "COMPACT_STRINGS" "Z" (.int cs)) (hcs : ¬ cs = 0) (OL : Old Z n0 h0) :
    MetFree l (⟨"java/lang/String", "equals", "(Ljava/lang/Object;)Z"⟩ : MethodName) (head1 (Jvm.Cond.code (⟨"java/lang/String", "equals", "(Ljava/lang/Object;)Z"⟩ : MethodName) jdk_42_method_66_code 3 (some .boolean) :: ws) ({ frames := 1, cells := 0, slots := 0, locals := 14 } : Room)) (fun aa UU => aa = #[(.ref o1), (.ref o2)] ∧ Z.Warmed39 UU.vm ∧ UU.heap = h0) (fun _ _ _ _ _ => True) (fun _ UU oo UU' => ∃ vv LL, oo = .returned vv ∧ Q13 Z o1 b1 kb1 k1 o2 b2 kb2 k2 cs h0 n0 vv UU'.heap LL ∧ FrameEnd UU oo UU' LL ({ frames := 1, cells := 0, slots := 0, locals := 14 } : Room).cells ({ frames := 1, cells := 0, slots := 0, locals := 14 } : Room).slots) := by
  have W : ∀ {d : Jvm.Cond} (i : Nat), tables_1[i]? = some d → d.before a0 Z = true := fun i h => hw _ (List.mem_of_getElem? h)
  refine MetFree.of_bodySF (plainFor_of_name pn56) hisR ?_
  intro p e s m args below meth c s₁ Bd hml0 hP hK
  obtain ⟨rfl, hZ, hh⟩ := hP
  have hx := Bd.exec
  have hby := Bd.bytes
  have hml : c.maxLocals = 3 := hml0
  have hown : s.vm.findClass "java/lang/String" = some m.cls := findClass_of_methodNamed Bd.named
  have hnm := (name_of_methodNamed Bd.named Bd.method).1
  have X0 : Stand p l e ({ frames := 1, cells := 0, slots := 0, locals := 14 } : Room) s m #[(.ref o1), (.ref o2)] below meth c s₁ [] 0 0 := Stand.of_body Bd
  have e0 : s₁.heap = h0 := by rw [← hh, Bd.state]; rfl
  have N0 := Fr.nil n0
  have pre0 : ∀ tt, Steps p.tables e below (s₁.setTop (mkF m 0 #[rv o1, rv o2, .unset] [])) tt → Steps p.tables e below (s₁.setTop (entryFrame m #[(.ref o1), (.ref o2)] 3)) tt := fun tt kt => castTop (ef13 m o1 o2) kt
  obtain ⟨ST, hST⟩ : ∃ z : State, z = s₁.setTop (mkF m 0 #[rv o1, rv o2, .unset] []) := ⟨_, rfl⟩
  rw [← hST] at pre0
  have go634 : own_S p e below ST s₁ (mkF m 8 #[rv o1, rv o2, .unset] [(.ref o2)]) := fun tt kt => (by
      rw [hST]
      show Steps p.tables e below (s₁.setTop (mkF m 0 #[rv o1, rv o2, .unset] [])) _
      refine XS.aloadN X0.here hx rfl (hb hby d13_0) rfl rfl ?_
      refine XS.aloadN X0.here hx rfl (hb hby d13_1) rfl rfl ?_
      refine Jvm.RoadKit.acmp (g := (mkF m 2 #[rv o1, rv o2, .unset] [(.ref o2), (.ref o1)])) X0 hx rfl rfl rfl (pc0 := 2) (pc' := 7) (same := false) rfl (hb hby d13_2) rfl (decide_eq_false fun q => n12 (Value.ref.inj q)) (by decide) (by decide) ?_
      refine XS.aloadN X0.here hx rfl (hb hby d13_7) rfl rfl ?_
      exact kt)
  obtain ⟨T635, X635, e635, st635⟩ := instY X0 hx hZ hown (W 73 rfl) e0 (Ins.self E2) (g := (mkF m 8 #[rv o1, rv o2, .unset] [(.ref o2)])) rfl rfl (hb hby d13_8)
  have go636 : own_S p e below ST T635 (mkF m 11 #[rv o1, rv o2, .unset] [(.int (1 : Int32))]) := fun tt kt => go634 tt (st635 _ kt)
  have go637 : own_S p e below ST T635 (mkF m 15 #[rv o1, rv o2, .unset] [(.ref o2)]) := fun tt kt => go636 tt (by
      refine XS.ifNo X635.here hx rfl (hb hby d13_11) rfl ((if0 _ _).trans (feq (by decide : ¬ ((1 : Int32) = (0 : Int32)))).1) ?_
      refine XS.aloadN X635.here hx rfl (hb hby d13_14) rfl rfl ?_
      exact kt)
  obtain ⟨T638, X638, e638, st638⟩ := castY X635 hx hZ hown (W 73 rfl) e635 (Ins.self E2) (g := (mkF m 15 #[rv o1, rv o2, .unset] [(.ref o2)])) rfl rfl (hb hby d13_15)
  have go639 : own_S p e below ST T638 (mkF m 18 #[rv o1, rv o2, .unset] [(.ref o2)]) := fun tt kt => go637 tt (st638 _ kt)
  have go640 : own_S p e below ST T638 (mkF m 19 #[rv o1, rv o2, rv o2] []) := fun tt kt => go639 tt (by
      refine XS.astoreN X638.here hx rfl (hb hby d13_18) rfl rfl (l' := #[rv o1, rv o2, rv o2]) rfl ?_
      exact kt)
  obtain ⟨T641, X641, e641, st641⟩ := getS2 X638 hx hZ hown (host := "") (Or.inl (W 32 rfl)) Via.refl e638 (SC.ext OL.2) (g := (mkF m 19 #[rv o1, rv o2, rv o2] [])) rfl (hb hby d13_19)
  have go642 : own_S p e below ST T641 (mkF m 22 #[rv o1, rv o2, rv o2] [(.int cs)]) := fun tt kt => go640 tt (st641 _ kt)
  have go643 : own_S p e below ST T641 (mkF m 26 #[rv o1, rv o2, rv o2] [(.ref o1)]) := fun tt kt => go642 tt (by
      refine XS.ifNo X641.here hx rfl (hb hby d13_22) rfl ((if0 _ _).trans (feq hcs).1) ?_
      refine XS.aloadN X641.here hx rfl (hb hby d13_25) rfl rfl ?_
      exact kt)
  obtain ⟨T644, X644, e644, st644⟩ := getF X641 hx hZ hown (host := "") (Or.inl (W 28 rfl)) Via.refl e641 C1 (g := (mkF m 26 #[rv o1, rv o2, rv o2] [(.ref o1)])) rfl rfl (hb hby d13_26)
  have go645 : own_S p e below ST T644 (mkF m 29 #[rv o1, rv o2, rv o2] [(.int (0 : Int32))]) := fun tt kt => go643 tt (st644 _ kt)
  have go646 : own_S p e below ST T644 (mkF m 30 #[rv o1, rv o2, rv o2] [(.ref o2), (.int (0 : Int32))]) := fun tt kt => go645 tt (by
      refine XS.aloadN X644.here hx rfl (hb hby d13_29) rfl rfl ?_
      exact kt)
  obtain ⟨T647, X647, e647, st647⟩ := getF X644 hx hZ hown (host := "") (Or.inl (W 28 rfl)) Via.refl e644 C2 (g := (mkF m 30 #[rv o1, rv o2, rv o2] [(.ref o2), (.int (0 : Int32))])) rfl rfl (hb hby d13_30)
  have go648 : own_S p e below ST T647 (mkF m 33 #[rv o1, rv o2, rv o2] [(.int (0 : Int32)), (.int (0 : Int32))]) := fun tt kt => go646 tt (st647 _ kt)
  have go649 : own_S p e below ST T647 (mkF m 37 #[rv o1, rv o2, rv o2] [(.ref o1)]) := fun tt kt => go648 tt (by
      refine XS.icmpNo X647.here hx rfl (hb hby d13_33) rfl (teq (by decide : (0 : Int32) = (0 : Int32))).2 ?_
      refine XS.aloadN X647.here hx rfl (hb hby d13_36) rfl rfl ?_
      exact kt)
  obtain ⟨T650, X650, e650, st650⟩ := getF X647 hx hZ hown (host := "") (Or.inl (W 27 rfl)) Via.refl e647 B1 (g := (mkF m 37 #[rv o1, rv o2, rv o2] [(.ref o1)])) rfl rfl (hb hby d13_37)
  have go651 : own_S p e below ST T650 (mkF m 40 #[rv o1, rv o2, rv o2] [(.ref b1)]) := fun tt kt => go649 tt (st650 _ kt)
  have go652 : own_S p e below ST T650 (mkF m 41 #[rv o1, rv o2, rv o2] [(.ref o2), (.ref b1)]) := fun tt kt => go651 tt (by
      refine XS.aloadN X650.here hx rfl (hb hby d13_40) rfl rfl ?_
      exact kt)
  obtain ⟨T653, X653, e653, st653⟩ := getF X650 hx hZ hown (host := "") (Or.inl (W 27 rfl)) Via.refl e650 B2 (g := (mkF m 41 #[rv o1, rv o2, rv o2] [(.ref o2), (.ref b1)])) rfl rfl (hb hby d13_41)
  have go654 : own_S p e below ST T653 (mkF m 44 #[rv o1, rv o2, rv o2] [(.ref b2), (.ref b1)]) := fun tt kt => go652 tt (st653 _ kt)
  obtain ⟨_, _, ⟨T655, L655, k655, n655⟩, -, X655, ⟨Lc655, hQ655, l655, y655, z655⟩, st655⟩ := Jvm.LawKit.callS X653 hx (y := (⟨"java/lang/StringLatin1", "equals", "([B[B)Z"⟩ : MethodName)) hown (mvT hZ (W 74 rfl)) (mvT hZ (W 75 rfl)) (mvT hZ (W 76 rfl)) (mvT hZ (W 77 rfl)) (by decide) (backOf (W := 0) (rmLE l Z a0 hw [] b1 kb1 b2 kb2 k1 k2 h0 n0 Z0 V1 V2) hZ (W 77 rfl) (W 76 rfl) (by decide) (by decide)) (g := (mkF m 44 #[rv o1, rv o2, rv o2] [(.ref b2), (.ref b1)])) rfl (by rw [hml]; rfl) (argsL := [(.ref b1), (.ref b2)]) (rest := []) (lenOf pd292 rfl) rfl (by show 2 * 0 + _ ≤ _; exact Nat.le_of_eq rfl) (hb hby d13_44) (fun _ _ => ⟨rfl, e653, (by decide : 0 + 0 ≤ _), (by decide : 0 + 0 ≤ _)⟩)
  dsimp only [Pt.U, Pt.locs, Pt.cells, Pt.slots] at X655 l655 y655 z655 st655 hQ655
  subst l655 y655 z655
  obtain ⟨rfl, Nq655, eh655⟩ := hQ655
  have N655 := Fr.app N0 Nq655
  have go656 : own_S p e below ST T655 (mkF m 47 #[rv o1, rv o2, rv o2] [(.int (own_ke k1 k2))]) := fun tt kt => go654 tt (st655 _ kt)
  by_cases c0 : (own_ke k1 k2) = (0 : Int32)
  · have go657 : own_S p e below ST T655 (mkF m 54 #[rv o1, rv o2, rv o2] []) := fun tt kt => go656 tt (by
        refine XS.ifYes X655.here hx rfl (pc0 := 47) (pc' := 54) rfl (hb hby d13_47) rfl ((if0 _ _).trans (teq c0).1) (by decide) (by decide) ?_
        exact kt)
    have go658 : own_S p e below ST T655 (mkF m 55 #[rv o1, rv o2, rv o2] [(.int (0 : Int32))]) := fun tt kt => go657 tt (by
        refine XS.iconst X655.here hx rfl (hb hby d13_54) ?_
        exact kt)
    obtain ⟨fs, hr, hrun, hended, hW, hsame⟩ := X655.leave (v := some (.int (0 : Int32))) (fun h => by rw [Bd.returns] at h; cases h) (hlocks := by first | exact BodyLoose.notSynchronized Bd | exact Body.notSynchronized Bd)
    refine ⟨_, _, pre0 _ (go658 _ ?_), hrun, hended, _, _, rfl, ?_, ⟨_, rfl⟩, hW, hsame.mono (by decide) (by decide)⟩
    · exact retN X655 hx (t := .boolean) Bd.returns (by simp) (hb hby d13_55) hr
    · show Q13 Z o1 b1 kb1 k1 o2 b2 kb2 k2 cs h0 n0 _ T655.heap _
      rw [eh655]
      exact ⟨own_ans c0.symm, N655, rfl⟩
  · have go659 : own_S p e below ST T655 (mkF m 50 #[rv o1, rv o2, rv o2] []) := fun tt kt => go656 tt (by
        refine XS.ifNo X655.here hx rfl (hb hby d13_47) rfl ((if0 _ _).trans (feq c0).1) ?_
        exact kt)
    have go660 : own_S p e below ST T655 (mkF m 55 #[rv o1, rv o2, rv o2] [(.int (1 : Int32))]) := fun tt kt => go659 tt (by
        refine XS.iconst X655.here hx rfl (hb hby d13_50) ?_
        refine XS.goto X655.here hx rfl (pc0 := 51) (pc' := 55) rfl (hb hby d13_51) (by decide) (by decide) ?_
        exact kt)
    obtain ⟨fs, hr, hrun, hended, hW, hsame⟩ := X655.leave (v := some (.int (1 : Int32))) (fun h => by rw [Bd.returns] at h; cases h) (hlocks := by first | exact BodyLoose.notSynchronized Bd | exact Body.notSynchronized Bd)
    refine ⟨_, _, pre0 _ (go660 _ ?_), hrun, hended, _, _, rfl, ?_, ⟨_, rfl⟩, hW, hsame.mono (by decide) (by decide)⟩
    · exact retN X655 hx (t := .boolean) Bd.returns (by simp) (hb hby d13_55) hr
    · show Q13 Z o1 b1 kb1 k1 o2 b2 kb2 k2 cs h0 n0 _ T655.heap _
      rw [eh655]
      exact ⟨own_ans (own_k1 c0).symm, N655, rfl⟩
theorem d12_0 : decode prog_68_method_5_code 0 = .ok (.aload_n 0, 1) := by decide +kernel
theorem d12_1 : decode prog_68_method_5_code 1 = .ok (.aload_n 1, 1) := by decide +kernel
theorem d12_2 : decode prog_68_method_5_code 2 = .ok (.if_acmp .ne 5, 3) := by decide +kernel
theorem d12_5 : decode prog_68_method_5_code 5 = .ok (.iconst 1, 1) := by decide +kernel
theorem d12_6 : decode prog_68_method_5_code 6 = .ok (.ireturn, 1) := by decide +kernel
theorem ef12s (m : MethodId) (x0 : Addr) (x1 : Addr) : entryFrame m #[(.ref x0), (.ref x1)] 3 = mkF m 0 #[.val (.ref x0), .val (.ref x1), .unset] [] := by first | (simp [entryFrame, mkF, argsToLocals, Value.category]; done) | rfl
def Q12s (Z : State) (o1 : Addr) (h0 : Heap) (n0 : Nat) (v : Option Value) (h : Heap) (L : List Loc) : Prop := v = some (.int (1 : Int32)) ∧ Fr n0 L ∧ h = h0
set_option maxRecDepth 65536 in
set_option maxHeartbeats 40000000 in
theorem rm12s (l : Launch) (Z : State) (a0 : Array Value) (hw : ∀ d ∈ tables_1, d.before a0 Z = true) (ws : List Jvm.Cond) (o1 : Addr) (h0 : Heap) (n0 : Nat) (Z0 : n0 ≤ h0.size) :
    MetFree l (⟨"com/example/inscribe/inscribe/model/Edge", "equals", "(Ljava/lang/Object;)Z"⟩ : MethodName) (head1 (Jvm.Cond.code (⟨"com/example/inscribe/inscribe/model/Edge", "equals", "(Ljava/lang/Object;)Z"⟩ : MethodName) prog_68_method_5_code 3 (some .boolean) :: ws) ({ frames := 0, cells := 0, slots := 0, locals := 0 } : Room)) (fun aa UU => aa = #[(.ref o1), (.ref o1)] ∧ Z.Warmed39 UU.vm ∧ UU.heap = h0) (fun _ _ _ _ _ => True) (fun _ UU oo UU' => ∃ vv LL, oo = .returned vv ∧ Q12s Z o1 h0 n0 vv UU'.heap LL ∧ FrameEnd UU oo UU' LL ({ frames := 0, cells := 0, slots := 0, locals := 0 } : Room).cells ({ frames := 0, cells := 0, slots := 0, locals := 0 } : Room).slots) := by
  have W : ∀ {d : Jvm.Cond} (i : Nat), tables_1[i]? = some d → d.before a0 Z = true := fun i h => hw _ (List.mem_of_getElem? h)
  refine MetFree.of_bodySF (plainFor_of_name pn176) hisR ?_
  intro p e s m args below meth c s₁ Bd hml0 hP hK
  obtain ⟨rfl, hZ, hh⟩ := hP
  have hx := Bd.exec
  have hby := Bd.bytes
  have hml : c.maxLocals = 3 := hml0
  have hown : s.vm.findClass "com/example/inscribe/inscribe/model/Edge" = some m.cls := findClass_of_methodNamed Bd.named
  have hnm := (name_of_methodNamed Bd.named Bd.method).1
  have X0 : Stand p l e ({ frames := 0, cells := 0, slots := 0, locals := 0 } : Room) s m #[(.ref o1), (.ref o1)] below meth c s₁ [] 0 0 := Stand.of_body Bd
  have e0 : s₁.heap = h0 := by rw [← hh, Bd.state]; rfl
  have N0 := Fr.nil n0
  have pre0 : ∀ tt, Steps p.tables e below (s₁.setTop (mkF m 0 #[rv o1, rv o1, .unset] [])) tt → Steps p.tables e below (s₁.setTop (entryFrame m #[(.ref o1), (.ref o1)] 3)) tt := fun tt kt => castTop (ef12s m o1 o1) kt
  obtain ⟨ST, hST⟩ : ∃ z : State, z = s₁.setTop (mkF m 0 #[rv o1, rv o1, .unset] []) := ⟨_, rfl⟩
  rw [← hST] at pre0
  have go661 : own_S p e below ST s₁ (mkF m 6 #[rv o1, rv o1, .unset] [(.int (1 : Int32))]) := fun tt kt => (by
      rw [hST]
      show Steps p.tables e below (s₁.setTop (mkF m 0 #[rv o1, rv o1, .unset] [])) _
      refine XS.aloadN X0.here hx rfl (hb hby d12_0) rfl rfl ?_
      refine XS.aloadN X0.here hx rfl (hb hby d12_1) rfl rfl ?_
      refine Jvm.RoadKit.acmp (g := (mkF m 2 #[rv o1, rv o1, .unset] [(.ref o1), (.ref o1)])) X0 hx rfl rfl rfl (pc0 := 2) (pc' := 5) (same := true) rfl (hb hby d12_2) rfl (decide_eq_true rfl) (by decide) (by decide) ?_
      refine XS.iconst X0.here hx rfl (hb hby d12_5) ?_
      exact kt)
  obtain ⟨fs, hr, hrun, hended, hW, hsame⟩ := X0.leave (v := some (.int (1 : Int32))) (fun h => by rw [Bd.returns] at h; cases h) (hlocks := by first | exact BodyLoose.notSynchronized Bd | exact Body.notSynchronized Bd)
  refine ⟨_, _, pre0 _ (go661 _ ?_), hrun, hended, _, _, rfl, ?_, ⟨_, rfl⟩, hW, hsame.mono (by decide) (by decide)⟩
  · exact retN X0 hx (t := .boolean) Bd.returns (by simp) (hb hby d12_6) hr
  · show Q12s Z o1 h0 n0 _ s₁.heap _
    rw [e0]
    exact ⟨rfl, N0, rfl⟩
theorem d12_7 : decode prog_68_method_5_code 7 = .ok (.aload_n 1, 1) := by decide +kernel
theorem d12_8 : decode prog_68_method_5_code 8 = .ok (.instanceof 18, 3) := by decide +kernel
theorem d12_11 : decode prog_68_method_5_code 11 = .ok (.ifCond .ne 5, 3) := by decide +kernel
theorem d12_14 : decode prog_68_method_5_code 14 = .ok (.iconst 0, 1) := by decide +kernel
theorem d12_15 : decode prog_68_method_5_code 15 = .ok (.ireturn, 1) := by decide +kernel
theorem ef12n (m : MethodId) (x0 : Addr) : entryFrame m #[(.ref x0), .null] 3 = mkF m 0 #[.val (.ref x0), .val .null, .unset] [] := by first | (simp [entryFrame, mkF, argsToLocals, Value.category]; done) | rfl
def Q12n (Z : State) (o1 : Addr) (h0 : Heap) (n0 : Nat) (v : Option Value) (h : Heap) (L : List Loc) : Prop := v = some (.int (0 : Int32)) ∧ Fr n0 L ∧ h = h0
set_option maxRecDepth 65536 in
set_option maxHeartbeats 40000000 in
theorem rm12n (l : Launch) (Z : State) (a0 : Array Value) (hw : ∀ d ∈ tables_1, d.before a0 Z = true) (ws : List Jvm.Cond) (o1 : Addr) (h0 : Heap) (n0 : Nat) (Z0 : n0 ≤ h0.size) :
    MetFree l (⟨"com/example/inscribe/inscribe/model/Edge", "equals", "(Ljava/lang/Object;)Z"⟩ : MethodName) (head1 (Jvm.Cond.code (⟨"com/example/inscribe/inscribe/model/Edge", "equals", "(Ljava/lang/Object;)Z"⟩ : MethodName) prog_68_method_5_code 3 (some .boolean) :: ws) ({ frames := 0, cells := 0, slots := 0, locals := 0 } : Room)) (fun aa UU => aa = #[(.ref o1), .null] ∧ Z.Warmed39 UU.vm ∧ UU.heap = h0) (fun _ _ _ _ _ => True) (fun _ UU oo UU' => ∃ vv LL, oo = .returned vv ∧ Q12n Z o1 h0 n0 vv UU'.heap LL ∧ FrameEnd UU oo UU' LL ({ frames := 0, cells := 0, slots := 0, locals := 0 } : Room).cells ({ frames := 0, cells := 0, slots := 0, locals := 0 } : Room).slots) := by
  have W : ∀ {d : Jvm.Cond} (i : Nat), tables_1[i]? = some d → d.before a0 Z = true := fun i h => hw _ (List.mem_of_getElem? h)
  refine MetFree.of_bodySF (plainFor_of_name pn176) hisR ?_
  intro p e s m args below meth c s₁ Bd hml0 hP hK
  obtain ⟨rfl, hZ, hh⟩ := hP
  have hx := Bd.exec
  have hby := Bd.bytes
  have hml : c.maxLocals = 3 := hml0
  have hown : s.vm.findClass "com/example/inscribe/inscribe/model/Edge" = some m.cls := findClass_of_methodNamed Bd.named
  have hnm := (name_of_methodNamed Bd.named Bd.method).1
  have X0 : Stand p l e ({ frames := 0, cells := 0, slots := 0, locals := 0 } : Room) s m #[(.ref o1), .null] below meth c s₁ [] 0 0 := Stand.of_body Bd
  have e0 : s₁.heap = h0 := by rw [← hh, Bd.state]; rfl
  have N0 := Fr.nil n0
  have pre0 : ∀ tt, Steps p.tables e below (s₁.setTop (mkF m 0 #[rv o1, .val .null, .unset] [])) tt → Steps p.tables e below (s₁.setTop (entryFrame m #[(.ref o1), .null] 3)) tt := fun tt kt => castTop (ef12n m o1) kt
  obtain ⟨ST, hST⟩ : ∃ z : State, z = s₁.setTop (mkF m 0 #[rv o1, .val .null, .unset] []) := ⟨_, rfl⟩
  rw [← hST] at pre0
  have go662 : own_S p e below ST s₁ (mkF m 8 #[rv o1, .val .null, .unset] [.null]) := fun tt kt => (by
      rw [hST]
      show Steps p.tables e below (s₁.setTop (mkF m 0 #[rv o1, .val .null, .unset] [])) _
      refine XS.aloadN X0.here hx rfl (hb hby d12_0) rfl rfl ?_
      refine XS.aloadN X0.here hx rfl (hb hby d12_1) rfl rfl ?_
      refine Jvm.RoadKit.acmp (g := (mkF m 2 #[rv o1, .val .null, .unset] [.null, (.ref o1)])) X0 hx rfl rfl rfl (pc0 := 2) (pc' := 7) (same := false) rfl (hb hby d12_2) rfl (decide_eq_false nofun) (by decide) (by decide) ?_
      refine XS.aloadN X0.here hx rfl (hb hby d12_7) rfl rfl ?_
      exact kt)
  have st663 := X0.instanceofNull hx (index := 18) (g := (mkF m 8 #[rv o1, .val .null, .unset] [.null])) rfl rfl (hb hby d12_8)
  have go664 : own_S p e below ST s₁ (mkF m 11 #[rv o1, .val .null, .unset] [(.int (0 : Int32))]) := fun tt kt => go662 tt (st663 _ kt)
  have go665 : own_S p e below ST s₁ (mkF m 15 #[rv o1, .val .null, .unset] [(.int (0 : Int32))]) := fun tt kt => go664 tt (by
      refine XS.ifNo X0.here hx rfl (hb hby d12_11) rfl ((if0 _ _).trans (teq (by decide : (0 : Int32) = (0 : Int32))).2) ?_
      refine XS.iconst X0.here hx rfl (hb hby d12_14) ?_
      exact kt)
  obtain ⟨fs, hr, hrun, hended, hW, hsame⟩ := X0.leave (v := some (.int (0 : Int32))) (fun h => by rw [Bd.returns] at h; cases h) (hlocks := by first | exact BodyLoose.notSynchronized Bd | exact Body.notSynchronized Bd)
  refine ⟨_, _, pre0 _ (go665 _ ?_), hrun, hended, _, _, rfl, ?_, ⟨_, rfl⟩, hW, hsame.mono (by decide) (by decide)⟩
  · exact retN X0 hx (t := .boolean) Bd.returns (by simp) (hb hby d12_15) hr
  · show Q12n Z o1 h0 n0 _ s₁.heap _
    rw [e0]
    exact ⟨rfl, N0, rfl⟩
theorem ef12t (m : MethodId) (x0 : Addr) (x1 : Addr) : entryFrame m #[(.ref x0), (.ref x1)] 3 = mkF m 0 #[.val (.ref x0), .val (.ref x1), .unset] [] := by first | (simp [entryFrame, mkF, argsToLocals, Value.category]; done) | rfl
def Q12t (Z : State) (o1 : Addr) (o2 : Addr) (h0 : Heap) (n0 : Nat) (v : Option Value) (h : Heap) (L : List Loc) : Prop := v = some (.int (0 : Int32)) ∧ Fr n0 L ∧ h = h0
set_option maxRecDepth 65536 in
set_option maxHeartbeats 40000000 in
theorem rm12t (l : Launch) (Z : State) (a0 : Array Value) (hw : ∀ d ∈ tables_1, d.before a0 Z = true) (ws : List Jvm.Cond) (o1 : Addr) (o2 : Addr) (h0 : Heap) (n0 : Nat) (Z0 : n0 ≤ h0.size) (E2 : Exa Z h0 o2 "java/lang/String") (n12 : o1 ≠ o2) :
    MetFree l (⟨"com/example/inscribe/inscribe/model/Edge", "equals", "(Ljava/lang/Object;)Z"⟩ : MethodName) (head1 (Jvm.Cond.code (⟨"com/example/inscribe/inscribe/model/Edge", "equals", "(Ljava/lang/Object;)Z"⟩ : MethodName) prog_68_method_5_code 3 (some .boolean) :: ws) ({ frames := 0, cells := 0, slots := 0, locals := 0 } : Room)) (fun aa UU => aa = #[(.ref o1), (.ref o2)] ∧ Z.Warmed39 UU.vm ∧ UU.heap = h0) (fun _ _ _ _ _ => True) (fun _ UU oo UU' => ∃ vv LL, oo = .returned vv ∧ Q12t Z o1 o2 h0 n0 vv UU'.heap LL ∧ FrameEnd UU oo UU' LL ({ frames := 0, cells := 0, slots := 0, locals := 0 } : Room).cells ({ frames := 0, cells := 0, slots := 0, locals := 0 } : Room).slots) := by
  have W : ∀ {d : Jvm.Cond} (i : Nat), tables_1[i]? = some d → d.before a0 Z = true := fun i h => hw _ (List.mem_of_getElem? h)
  refine MetFree.of_bodySF (plainFor_of_name pn176) hisR ?_
  intro p e s m args below meth c s₁ Bd hml0 hP hK
  obtain ⟨rfl, hZ, hh⟩ := hP
  have hx := Bd.exec
  have hby := Bd.bytes
  have hml : c.maxLocals = 3 := hml0
  have hown : s.vm.findClass "com/example/inscribe/inscribe/model/Edge" = some m.cls := findClass_of_methodNamed Bd.named
  have hnm := (name_of_methodNamed Bd.named Bd.method).1
  have X0 : Stand p l e ({ frames := 0, cells := 0, slots := 0, locals := 0 } : Room) s m #[(.ref o1), (.ref o2)] below meth c s₁ [] 0 0 := Stand.of_body Bd
  have e0 : s₁.heap = h0 := by rw [← hh, Bd.state]; rfl
  have N0 := Fr.nil n0
  have pre0 : ∀ tt, Steps p.tables e below (s₁.setTop (mkF m 0 #[rv o1, rv o2, .unset] [])) tt → Steps p.tables e below (s₁.setTop (entryFrame m #[(.ref o1), (.ref o2)] 3)) tt := fun tt kt => castTop (ef12t m o1 o2) kt
  obtain ⟨ST, hST⟩ : ∃ z : State, z = s₁.setTop (mkF m 0 #[rv o1, rv o2, .unset] []) := ⟨_, rfl⟩
  rw [← hST] at pre0
  have go666 : own_S p e below ST s₁ (mkF m 8 #[rv o1, rv o2, .unset] [(.ref o2)]) := fun tt kt => (by
      rw [hST]
      show Steps p.tables e below (s₁.setTop (mkF m 0 #[rv o1, rv o2, .unset] [])) _
      refine XS.aloadN X0.here hx rfl (hb hby d12_0) rfl rfl ?_
      refine XS.aloadN X0.here hx rfl (hb hby d12_1) rfl rfl ?_
      refine Jvm.RoadKit.acmp (g := (mkF m 2 #[rv o1, rv o2, .unset] [(.ref o2), (.ref o1)])) X0 hx rfl rfl rfl (pc0 := 2) (pc' := 7) (same := false) rfl (hb hby d12_2) rfl (decide_eq_false fun q => n12 (Value.ref.inj q)) (by decide) (by decide) ?_
      refine XS.aloadN X0.here hx rfl (hb hby d12_7) rfl rfl ?_
      exact kt)
  obtain ⟨T667, X667, e667, st667⟩ := instNo X0 hx hZ hown (W 66 rfl) e0 E2 (own_no (W 78 rfl) (W 79 rfl) (W 1 rfl) (by decide) (by decide)) (g := (mkF m 8 #[rv o1, rv o2, .unset] [(.ref o2)])) rfl rfl (hb hby d12_8)
  have go668 : own_S p e below ST T667 (mkF m 11 #[rv o1, rv o2, .unset] [(.int (0 : Int32))]) := fun tt kt => go666 tt (st667 _ kt)
  have go669 : own_S p e below ST T667 (mkF m 15 #[rv o1, rv o2, .unset] [(.int (0 : Int32))]) := fun tt kt => go668 tt (by
      refine XS.ifNo X667.here hx rfl (hb hby d12_11) rfl ((if0 _ _).trans (teq (by decide : (0 : Int32) = (0 : Int32))).2) ?_
      refine XS.iconst X667.here hx rfl (hb hby d12_14) ?_
      exact kt)
  obtain ⟨fs, hr, hrun, hended, hW, hsame⟩ := X667.leave (v := some (.int (0 : Int32))) (fun h => by rw [Bd.returns] at h; cases h) (hlocks := by first | exact BodyLoose.notSynchronized Bd | exact Body.notSynchronized Bd)
  refine ⟨_, _, pre0 _ (go669 _ ?_), hrun, hended, _, _, rfl, ?_, ⟨_, rfl⟩, hW, hsame.mono (by decide) (by decide)⟩
  · exact retN X667 hx (t := .boolean) Bd.returns (by simp) (hb hby d12_15) hr
  · show Q12t Z o1 o2 h0 n0 _ T667.heap _
    rw [e667]
    exact ⟨rfl, N0, rfl⟩
theorem d12_16 : decode prog_68_method_5_code 16 = .ok (.aload_n 1, 1) := by decide +kernel
theorem d12_17 : decode prog_68_method_5_code 17 = .ok (.checkcast 18, 3) := by decide +kernel
theorem d12_20 : decode prog_68_method_5_code 20 = .ok (.astore_n 2, 1) := by decide +kernel
theorem d12_21 : decode prog_68_method_5_code 21 = .ok (.aload_n 0, 1) := by decide +kernel
theorem d12_22 : decode prog_68_method_5_code 22 = .ok (.getfield 17, 3) := by decide +kernel
theorem d12_25 : decode prog_68_method_5_code 25 = .ok (.aload_n 2, 1) := by decide +kernel
theorem d12_26 : decode prog_68_method_5_code 26 = .ok (.getfield 17, 3) := by decide +kernel
theorem d12_29 : decode prog_68_method_5_code 29 = .ok (.invokevirtual 29, 3) := by decide +kernel
theorem pd316 : parseMethodDescriptor "(Ljava/lang/Object;)Z" = some ⟨[(.object "java/lang/Object")], some .boolean⟩ := by decide +kernel
theorem d12_32 : decode prog_68_method_5_code 32 = .ok (.ifCond .eq 21, 3) := by decide +kernel
theorem d12_53 : decode prog_68_method_5_code 53 = .ok (.iconst 0, 1) := by decide +kernel
theorem d12_54 : decode prog_68_method_5_code 54 = .ok (.ireturn, 1) := by decide +kernel
theorem d12_35 : decode prog_68_method_5_code 35 = .ok (.aload_n 0, 1) := by decide +kernel
theorem d12_36 : decode prog_68_method_5_code 36 = .ok (.getfield 24, 3) := by decide +kernel
theorem d12_39 : decode prog_68_method_5_code 39 = .ok (.aload_n 2, 1) := by decide +kernel
theorem d12_40 : decode prog_68_method_5_code 40 = .ok (.getfield 24, 3) := by decide +kernel
theorem d12_43 : decode prog_68_method_5_code 43 = .ok (.invokevirtual 29, 3) := by decide +kernel
theorem d12_46 : decode prog_68_method_5_code 46 = .ok (.ifCond .eq 7, 3) := by decide +kernel
theorem d12_49 : decode prog_68_method_5_code 49 = .ok (.iconst 1, 1) := by decide +kernel
theorem d12_50 : decode prog_68_method_5_code 50 = .ok (.goto 4, 3) := by decide +kernel
theorem ef12e (m : MethodId) (x0 : Addr) (x1 : Addr) : entryFrame m #[(.ref x0), (.ref x1)] 3 = mkF m 0 #[.val (.ref x0), .val (.ref x1), .unset] [] := by first | (simp [entryFrame, mkF, argsToLocals, Value.category]; done) | rfl
def Q12e (Z : State) (o1 : Addr) (o2 : Addr) (s0 : Addr) (d0 : Addr) (kd0 : ClassId) (k0 : Int32) (s1 : Addr) (d1 : Addr) (kd1 : ClassId) (k1 : Int32) (s2 : Addr) (d2 : Addr) (kd2 : ClassId) (k2 : Int32) (s3 : Addr) (d3 : Addr) (kd3 : ClassId) (k3 : Int32) (cs : Int32) (h0 : Heap) (n0 : Nat) (v : Option Value) (h : Heap) (L : List Loc) : Prop := v = some (.int (own_an k0 k1 k2 k3)) ∧ Fr n0 L ∧ h = h0
set_option maxRecDepth 65536 in
set_option maxHeartbeats 40000000 in
theorem rm12e (l : Launch) (Z : State) (a0 : Array Value) (hw : ∀ d ∈ tables_1, d.before a0 Z = true) (ws : List Jvm.Cond) (o1 : Addr) (o2 : Addr) (s0 : Addr) (d0 : Addr) (kd0 : ClassId) (k0 : Int32) (s1 : Addr) (d1 : Addr) (kd1 : ClassId) (k1 : Int32) (s2 : Addr) (d2 : Addr) (kd2 : ClassId) (k2 : Int32) (s3 : Addr) (d3 : Addr) (kd3 : ClassId) (k3 : Int32) (cs : Int32) (h0 : Heap) (n0 : Nat) (Z0 : n0 ≤ h0.size) (E8 : Exa Z h0 o1 "com/example/inscribe/inscribe/model/Edge") (E9 : Exa Z h0 o2 "com/example/inscribe/inscribe/model/Edge") (n12 : o1 ≠ o2) (G1 : Fld Z h0 o1 "com/example/inscribe/inscribe/model/Edge" "first" "Ljava/lang/String;" (.ref s0)) (G2 : Fld Z h0 o1 "com/example/inscribe/inscribe/model/Edge" "second" "Ljava/lang/String;" (.ref s2)) (G3 : Fld Z h0 o2 "com/example/inscribe/inscribe/model/Edge" "first" "Ljava/lang/String;" (.ref s1)) (G4 : Fld Z h0 o2 "com/example/inscribe/inscribe/model/Edge" "second" "Ljava/lang/String;" (.ref s3)) (E0 : Exa Z h0 s0 "java/lang/String") (C0 : Fld Z h0 s0 "java/lang/String" "coder" "B" (.int (0 : Int32))) (B0 : Fld Z h0 s0 "java/lang/String" "value" "[B" (.ref d0)) (V0 : Arv Z h0 d0 kd0 .byte (k0 &&& (3 : Int32)) (own_vs k0) (.int (0 : Int32))) (E1 : Exa Z h0 s1 "java/lang/String") (C1 : Fld Z h0 s1 "java/lang/String" "coder" "B" (.int (0 : Int32))) (B1 : Fld Z h0 s1 "java/lang/String" "value" "[B" (.ref d1)) (V1 : Arv Z h0 d1 kd1 .byte (k1 &&& (3 : Int32)) (own_vs k1) (.int (0 : Int32))) (E2 : Exa Z h0 s2 "java/lang/String") (C2 : Fld Z h0 s2 "java/lang/String" "coder" "B" (.int (0 : Int32))) (B2 : Fld Z h0 s2 "java/lang/String" "value" "[B" (.ref d2)) (V2 : Arv Z h0 d2 kd2 .byte (k2 &&& (3 : Int32)) (own_vs k2) (.int (0 : Int32))) (E3 : Exa Z h0 s3 "java/lang/String") (C3 : Fld Z h0 s3 "java/lang/String" "coder" "B" (.int (0 : Int32))) (B3 : Fld Z h0 s3 "java/lang/String" "value" "[B" (.ref d3)) (V3 : Arv Z h0 d3 kd3 .byte (k3 &&& (3 : Int32)) (own_vs k3) (.int (0 : Int32))) (m1 : s0 ≠ s1) (m2 : s2 ≠ s3) (SC : Sta Z Z.heap "java/lang/String" "COMPACT_STRINGS" "Z" (.int cs)) (hcs : ¬ cs = 0) (OL : Old Z n0 h0) :
    MetFree l (⟨"com/example/inscribe/inscribe/model/Edge", "equals", "(Ljava/lang/Object;)Z"⟩ : MethodName) (head1 (Jvm.Cond.code (⟨"com/example/inscribe/inscribe/model/Edge", "equals", "(Ljava/lang/Object;)Z"⟩ : MethodName) prog_68_method_5_code 3 (some .boolean) :: ws) ({ frames := 2, cells := 0, slots := 0, locals := 28 } : Room)) (fun aa UU => aa = #[(.ref o1), (.ref o2)] ∧ Z.Warmed39 UU.vm ∧ UU.heap = h0) (fun _ _ _ _ _ => True) (fun _ UU oo UU' => ∃ vv LL, oo = .returned vv ∧ Q12e Z o1 o2 s0 d0 kd0 k0 s1 d1 kd1 k1 s2 d2 kd2 k2 s3 d3 kd3 k3 cs h0 n0 vv UU'.heap LL ∧ FrameEnd UU oo UU' LL ({ frames := 2, cells := 0, slots := 0, locals := 28 } : Room).cells ({ frames := 2, cells := 0, slots := 0, locals := 28 } : Room).slots) := by
  have W : ∀ {d : Jvm.Cond} (i : Nat), tables_1[i]? = some d → d.before a0 Z = true := fun i h => hw _ (List.mem_of_getElem? h)
  refine MetFree.of_bodySF (plainFor_of_name pn176) hisR ?_
  intro p e s m args below meth c s₁ Bd hml0 hP hK
  obtain ⟨rfl, hZ, hh⟩ := hP
  have hx := Bd.exec
  have hby := Bd.bytes
  have hml : c.maxLocals = 3 := hml0
  have hown : s.vm.findClass "com/example/inscribe/inscribe/model/Edge" = some m.cls := findClass_of_methodNamed Bd.named
  have hnm := (name_of_methodNamed Bd.named Bd.method).1
  have X0 : Stand p l e ({ frames := 2, cells := 0, slots := 0, locals := 28 } : Room) s m #[(.ref o1), (.ref o2)] below meth c s₁ [] 0 0 := Stand.of_body Bd
  have e0 : s₁.heap = h0 := by rw [← hh, Bd.state]; rfl
  have N0 := Fr.nil n0
  have pre0 : ∀ tt, Steps p.tables e below (s₁.setTop (mkF m 0 #[rv o1, rv o2, .unset] [])) tt → Steps p.tables e below (s₁.setTop (entryFrame m #[(.ref o1), (.ref o2)] 3)) tt := fun tt kt => castTop (ef12e m o1 o2) kt
  obtain ⟨ST, hST⟩ : ∃ z : State, z = s₁.setTop (mkF m 0 #[rv o1, rv o2, .unset] []) := ⟨_, rfl⟩
  rw [← hST] at pre0
  have go670 : own_S p e below ST s₁ (mkF m 8 #[rv o1, rv o2, .unset] [(.ref o2)]) := fun tt kt => (by
      rw [hST]
      show Steps p.tables e below (s₁.setTop (mkF m 0 #[rv o1, rv o2, .unset] [])) _
      refine XS.aloadN X0.here hx rfl (hb hby d12_0) rfl rfl ?_
      refine XS.aloadN X0.here hx rfl (hb hby d12_1) rfl rfl ?_
      refine Jvm.RoadKit.acmp (g := (mkF m 2 #[rv o1, rv o2, .unset] [(.ref o2), (.ref o1)])) X0 hx rfl rfl rfl (pc0 := 2) (pc' := 7) (same := false) rfl (hb hby d12_2) rfl (decide_eq_false fun q => n12 (Value.ref.inj q)) (by decide) (by decide) ?_
      refine XS.aloadN X0.here hx rfl (hb hby d12_7) rfl rfl ?_
      exact kt)
  obtain ⟨T671, X671, e671, st671⟩ := instY X0 hx hZ hown (W 66 rfl) e0 (Ins.self E9) (g := (mkF m 8 #[rv o1, rv o2, .unset] [(.ref o2)])) rfl rfl (hb hby d12_8)
  have go672 : own_S p e below ST T671 (mkF m 11 #[rv o1, rv o2, .unset] [(.int (1 : Int32))]) := fun tt kt => go670 tt (st671 _ kt)
  have go673 : own_S p e below ST T671 (mkF m 17 #[rv o1, rv o2, .unset] [(.ref o2)]) := fun tt kt => go672 tt (by
      refine XS.ifYes X671.here hx rfl (pc0 := 11) (pc' := 16) rfl (hb hby d12_11) rfl ((if0 _ _).trans (feq (by decide : ¬ ((1 : Int32) = (0 : Int32)))).2) (by decide) (by decide) ?_
      refine XS.aloadN X671.here hx rfl (hb hby d12_16) rfl rfl ?_
      exact kt)
  obtain ⟨T674, X674, e674, st674⟩ := castY X671 hx hZ hown (W 66 rfl) e671 (Ins.self E9) (g := (mkF m 17 #[rv o1, rv o2, .unset] [(.ref o2)])) rfl rfl (hb hby d12_17)
  have go675 : own_S p e below ST T674 (mkF m 20 #[rv o1, rv o2, .unset] [(.ref o2)]) := fun tt kt => go673 tt (st674 _ kt)
  have go676 : own_S p e below ST T674 (mkF m 22 #[rv o1, rv o2, rv o2] [(.ref o1)]) := fun tt kt => go675 tt (by
      refine XS.astoreN X674.here hx rfl (hb hby d12_20) rfl rfl (l' := #[rv o1, rv o2, rv o2]) rfl ?_
      refine XS.aloadN X674.here hx rfl (hb hby d12_21) rfl rfl ?_
      exact kt)
  obtain ⟨T677, X677, e677, st677⟩ := getF X674 hx hZ hown (host := "") (Or.inl (W 53 rfl)) Via.refl e674 G1 (g := (mkF m 22 #[rv o1, rv o2, rv o2] [(.ref o1)])) rfl rfl (hb hby d12_22)
  have go678 : own_S p e below ST T677 (mkF m 25 #[rv o1, rv o2, rv o2] [(.ref s0)]) := fun tt kt => go676 tt (st677 _ kt)
  have go679 : own_S p e below ST T677 (mkF m 26 #[rv o1, rv o2, rv o2] [(.ref o2), (.ref s0)]) := fun tt kt => go678 tt (by
      refine XS.aloadN X677.here hx rfl (hb hby d12_25) rfl rfl ?_
      exact kt)
  obtain ⟨T680, X680, e680, st680⟩ := getF X677 hx hZ hown (host := "") (Or.inl (W 53 rfl)) Via.refl e677 G3 (g := (mkF m 26 #[rv o1, rv o2, rv o2] [(.ref o2), (.ref s0)])) rfl rfl (hb hby d12_26)
  have go681 : own_S p e below ST T680 (mkF m 29 #[rv o1, rv o2, rv o2] [(.ref s1), (.ref s0)]) := fun tt kt => go679 tt (st680 _ kt)
  obtain ⟨cq682, kq682, q682a, q682b, q682c⟩ := isOf hZ e680 E0
  obtain ⟨_, _, ⟨T682, L682, k682, n682⟩, -, X682, ⟨Lc682, hQ682, l682, y682, z682⟩, st682⟩ := X680.virtualBack hx (y := (⟨"java/lang/String", "equals", "(Ljava/lang/Object;)Z"⟩ : MethodName)) (z := (⟨"java/lang/String", "equals", "(Ljava/lang/Object;)Z"⟩ : MethodName)) hown (mvT hZ (W 68 rfl)) (mvT hZ (W 69 rfl)) (notFace_of_selects (args := #[]) (mvT hZ (W 71 rfl))) (mvT hZ (W 71 rfl)) (mvT hZ (W 70 rfl)) (by decide) (backOf (W := 0) (rm13 l Z a0 hw [] s0 d0 kd0 k0 s1 d1 kd1 k1 cs h0 n0 Z0 E0 C0 B0 V0 E1 C1 B1 V1 m1 SC hcs OL) hZ (W 72 rfl) (W 9 rfl) (by decide) (by decide)) q682a q682c (g := (mkF m 29 #[rv o1, rv o2, rv o2] [(.ref s1), (.ref s0)])) rfl (by rw [hml]; rfl) (Steps.refl _) (argsL := [(.ref s1)]) (rest := []) (lenOf pd316 rfl) rfl (by show 2 * 0 + _ ≤ _; exact Nat.le_of_eq rfl) (hb hby d12_29) (fun _ _ => ⟨rfl, e680, (by decide : 0 + 0 ≤ _), (by decide : 0 + 0 ≤ _)⟩)
  dsimp only [Pt.U, Pt.locs, Pt.cells, Pt.slots] at X682 l682 y682 z682 st682 hQ682
  subst l682 y682 z682
  obtain ⟨rfl, Nq682, eh682⟩ := hQ682
  have N682 := Fr.app N0 Nq682
  have go683 : own_S p e below ST T682 (mkF m 32 #[rv o1, rv o2, rv o2] [(.int (own_ke k0 k1))]) := fun tt kt => go681 tt (st682.trans kt)
  by_cases c0 : (own_ke k0 k1) = (0 : Int32)
  · have go684 : own_S p e below ST T682 (mkF m 53 #[rv o1, rv o2, rv o2] []) := fun tt kt => go683 tt (by
        refine XS.ifYes X682.here hx rfl (pc0 := 32) (pc' := 53) rfl (hb hby d12_32) rfl ((if0 _ _).trans (teq c0).1) (by decide) (by decide) ?_
        exact kt)
    have go685 : own_S p e below ST T682 (mkF m 54 #[rv o1, rv o2, rv o2] [(.int (0 : Int32))]) := fun tt kt => go684 tt (by
        refine XS.iconst X682.here hx rfl (hb hby d12_53) ?_
        exact kt)
    obtain ⟨fs, hr, hrun, hended, hW, hsame⟩ := X682.leave (v := some (.int (0 : Int32))) (fun h => by rw [Bd.returns] at h; cases h) (hlocks := by first | exact BodyLoose.notSynchronized Bd | exact Body.notSynchronized Bd)
    refine ⟨_, _, pre0 _ (go685 _ ?_), hrun, hended, _, _, rfl, ?_, ⟨_, rfl⟩, hW, hsame.mono (by decide) (by decide)⟩
    · exact retN X682 hx (t := .boolean) Bd.returns (by simp) (hb hby d12_54) hr
    · show Q12e Z o1 o2 s0 d0 kd0 k0 s1 d1 kd1 k1 s2 d2 kd2 k2 s3 d3 kd3 k3 cs h0 n0 _ T682.heap _
      rw [eh682]
      exact ⟨own_ans (by rw [own_an, if_pos c0]), N682, rfl⟩
  · have go686 : own_S p e below ST T682 (mkF m 35 #[rv o1, rv o2, rv o2] []) := fun tt kt => go683 tt (by
        refine XS.ifNo X682.here hx rfl (hb hby d12_32) rfl ((if0 _ _).trans (feq c0).1) ?_
        exact kt)
    have go687 : own_S p e below ST T682 (mkF m 36 #[rv o1, rv o2, rv o2] [(.ref o1)]) := fun tt kt => go686 tt (by
        refine XS.aloadN X682.here hx rfl (hb hby d12_35) rfl rfl ?_
        exact kt)
    obtain ⟨T688, X688, e688, st688⟩ := getF X682 hx hZ hown (host := "") (Or.inl (W 56 rfl)) Via.refl eh682 G2 (g := (mkF m 36 #[rv o1, rv o2, rv o2] [(.ref o1)])) rfl rfl (hb hby d12_36)
    have go689 : own_S p e below ST T688 (mkF m 39 #[rv o1, rv o2, rv o2] [(.ref s2)]) := fun tt kt => go687 tt (st688 _ kt)
    have go690 : own_S p e below ST T688 (mkF m 40 #[rv o1, rv o2, rv o2] [(.ref o2), (.ref s2)]) := fun tt kt => go689 tt (by
        refine XS.aloadN X688.here hx rfl (hb hby d12_39) rfl rfl ?_
        exact kt)
    obtain ⟨T691, X691, e691, st691⟩ := getF X688 hx hZ hown (host := "") (Or.inl (W 56 rfl)) Via.refl e688 G4 (g := (mkF m 40 #[rv o1, rv o2, rv o2] [(.ref o2), (.ref s2)])) rfl rfl (hb hby d12_40)
    have go692 : own_S p e below ST T691 (mkF m 43 #[rv o1, rv o2, rv o2] [(.ref s3), (.ref s2)]) := fun tt kt => go690 tt (st691 _ kt)
    obtain ⟨cq693, kq693, q693a, q693b, q693c⟩ := isOf hZ e691 E2
    obtain ⟨_, _, ⟨T693, L693, k693, n693⟩, -, X693, ⟨Lc693, hQ693, l693, y693, z693⟩, st693⟩ := X691.virtualBack hx (y := (⟨"java/lang/String", "equals", "(Ljava/lang/Object;)Z"⟩ : MethodName)) (z := (⟨"java/lang/String", "equals", "(Ljava/lang/Object;)Z"⟩ : MethodName)) hown (mvT hZ (W 68 rfl)) (mvT hZ (W 69 rfl)) (notFace_of_selects (args := #[]) (mvT hZ (W 71 rfl))) (mvT hZ (W 71 rfl)) (mvT hZ (W 70 rfl)) (by decide) (backOf (W := 0) (rm13 l Z a0 hw [] s2 d2 kd2 k2 s3 d3 kd3 k3 cs h0 n0 Z0 E2 C2 B2 V2 E3 C3 B3 V3 m2 SC hcs OL) hZ (W 72 rfl) (W 9 rfl) (by decide) (by decide)) q693a q693c (g := (mkF m 43 #[rv o1, rv o2, rv o2] [(.ref s3), (.ref s2)])) rfl (by rw [hml]; rfl) (Steps.refl _) (argsL := [(.ref s3)]) (rest := []) (lenOf pd316 rfl) rfl (by show 2 * 0 + _ ≤ _; exact Nat.le_of_eq rfl) (hb hby d12_43) (fun _ _ => ⟨rfl, e691, (by decide : 0 + 0 ≤ _), (by decide : 0 + 0 ≤ _)⟩)
    dsimp only [Pt.U, Pt.locs, Pt.cells, Pt.slots] at X693 l693 y693 z693 st693 hQ693
    subst l693 y693 z693
    obtain ⟨rfl, Nq693, eh693⟩ := hQ693
    have N693 := Fr.app N682 Nq693
    have go694 : own_S p e below ST T693 (mkF m 46 #[rv o1, rv o2, rv o2] [(.int (own_ke k2 k3))]) := fun tt kt => go692 tt (st693.trans kt)
    by_cases c1 : (own_ke k2 k3) = (0 : Int32)
    · have go695 : own_S p e below ST T693 (mkF m 53 #[rv o1, rv o2, rv o2] []) := fun tt kt => go694 tt (by
          refine XS.ifYes X693.here hx rfl (pc0 := 46) (pc' := 53) rfl (hb hby d12_46) rfl ((if0 _ _).trans (teq c1).1) (by decide) (by decide) ?_
          exact kt)
      have go696 : own_S p e below ST T693 (mkF m 54 #[rv o1, rv o2, rv o2] [(.int (0 : Int32))]) := fun tt kt => go695 tt (by
          refine XS.iconst X693.here hx rfl (hb hby d12_53) ?_
          exact kt)
      obtain ⟨fs, hr, hrun, hended, hW, hsame⟩ := X693.leave (v := some (.int (0 : Int32))) (fun h => by rw [Bd.returns] at h; cases h) (hlocks := by first | exact BodyLoose.notSynchronized Bd | exact Body.notSynchronized Bd)
      refine ⟨_, _, pre0 _ (go696 _ ?_), hrun, hended, _, _, rfl, ?_, ⟨_, rfl⟩, hW, hsame.mono (by decide) (by decide)⟩
      · exact retN X693 hx (t := .boolean) Bd.returns (by simp) (hb hby d12_54) hr
      · show Q12e Z o1 o2 s0 d0 kd0 k0 s1 d1 kd1 k1 s2 d2 kd2 k2 s3 d3 kd3 k3 cs h0 n0 _ T693.heap _
        rw [eh693]
        exact ⟨own_ans (by rw [own_an, if_neg c0, if_pos c1]), N693, rfl⟩
    · have go697 : own_S p e below ST T693 (mkF m 49 #[rv o1, rv o2, rv o2] []) := fun tt kt => go694 tt (by
          refine XS.ifNo X693.here hx rfl (hb hby d12_46) rfl ((if0 _ _).trans (feq c1).1) ?_
          exact kt)
      have go698 : own_S p e below ST T693 (mkF m 54 #[rv o1, rv o2, rv o2] [(.int (1 : Int32))]) := fun tt kt => go697 tt (by
          refine XS.iconst X693.here hx rfl (hb hby d12_49) ?_
          refine XS.goto X693.here hx rfl (pc0 := 50) (pc' := 54) rfl (hb hby d12_50) (by decide) (by decide) ?_
          exact kt)
      obtain ⟨fs, hr, hrun, hended, hW, hsame⟩ := X693.leave (v := some (.int (1 : Int32))) (fun h => by rw [Bd.returns] at h; cases h) (hlocks := by first | exact BodyLoose.notSynchronized Bd | exact Body.notSynchronized Bd)
      refine ⟨_, _, pre0 _ (go698 _ ?_), hrun, hended, _, _, rfl, ?_, ⟨_, rfl⟩, hW, hsame.mono (by decide) (by decide)⟩
      · exact retN X693 hx (t := .boolean) Bd.returns (by simp) (hb hby d12_54) hr
      · show Q12e Z o1 o2 s0 d0 kd0 k0 s1 d1 kd1 k1 s2 d2 kd2 k2 s3 d3 kd3 k3 cs h0 n0 _ T693.heap _
        rw [eh693]
        exact ⟨own_ans (by rw [own_an, if_neg c0, if_neg c1]), N693, rfl⟩
theorem pd328 : parseMethodDescriptor "(I)Ljava/lang/String;" = some ⟨[.int], some (.object "java/lang/String")⟩ := by decide +kernel
theorem pd329 : parseMethodDescriptor "(Ljava/lang/String;Ljava/lang/String;)V" = some ⟨[(.object "java/lang/String"), (.object "java/lang/String")], none⟩ := by decide +kernel
theorem pd330 : parseMethodDescriptor "(II)Z" = some ⟨[.int, .int], some .boolean⟩ := by decide +kernel
theorem ef0 (m : MethodId) (x0 : Int32) (x1 : Int32) (x2 : Int32) (x3 : Int32) (x4 : Int32) : entryFrame m #[(.int x0), (.int x1), (.int x2), (.int x3), (.int x4)] maxLocals = mkF m 0 #[.val (.int x0), .val (.int x1), .val (.int x2), .val (.int x3), .val (.int x4), .unset, .unset, .unset, .unset, .unset, .unset, .unset, .unset, .unset, .unset, .unset, .unset] [] := by first | (simp [entryFrame, mkF, argsToLocals, Value.category, maxLocals]; done) | rfl
def Q0 (Z : State) (p0 : Int32) (p1 : Int32) (p2 : Int32) (p3 : Int32) (p4 : Int32) (cs : Int32) (h0 : Heap) (n0 : Nat) (v : Option Value) (h : Heap) (L : List Loc) : Prop := v = some (.int 1) ∧ Fr n0 L
set_option maxRecDepth 65536 in
set_option maxHeartbeats 40000000 in
theorem rm0 (l : Launch) (Z : State) (a0 : Array Value) (hw : ∀ d ∈ tables_1, d.before a0 Z = true) (ws : List Jvm.Cond) (p0 : Int32) (p1 : Int32) (p2 : Int32) (p3 : Int32) (p4 : Int32) (cs : Int32) (h0 : Heap) (n0 : Nat) (Z0 : n0 ≤ h0.size) (SC : Sta Z Z.heap "java/lang/String" "COMPACT_STRINGS" "Z" (.int cs)) (hcs : ¬ cs = 0) (OL : Old Z n0 h0) :
    MetFree l x (head1 (Jvm.Cond.code x code maxLocals ret :: ws) room_1) (fun aa UU => aa = #[(.int p0), (.int p1), (.int p2), (.int p3), (.int p4)] ∧ Z.Warmed39 UU.vm ∧ UU.heap = h0 ∧ CHv Z own_EL UU.vm h0) (fun _ _ _ _ _ => True) (fun _ UU oo UU' => ∃ vv LL, oo = .returned vv ∧ Q0 Z p0 p1 p2 p3 p4 cs h0 n0 vv UU'.heap LL ∧ CHr Z own_EL UU.vm UU.heap UU'.vm UU'.heap ∧ ReturnedEndW UU oo UU' LL room_1.cells room_1.slots) := by
  have W : ∀ {d : Jvm.Cond} (i : Nat), tables_1[i]? = some d → d.before a0 Z = true := fun i h => hw _ (List.mem_of_getElem? h)
  refine MetFree.of_bodySF (plainFor_of_name pn0) hisR ?_
  intro p e s m args below meth c s₁ Bd hml0 hP hK
  obtain ⟨rfl, hZ, hh, hC⟩ := hP
  have hx := Bd.exec
  have hby := Bd.bytes
  have hml : c.maxLocals = 17 := hml0
  have hown : s.vm.findClass "com/example/inscribe/inscribe/model/EdgeEqualsPinLaw" = some m.cls := findClass_of_methodNamed Bd.named
  have hnm := (name_of_methodNamed Bd.named Bd.method).1
  have X0 : Stand p l e room_1 (s.setVm s.vm) m #[(.int p0), (.int p1), (.int p2), (.int p3), (.int p4)] below meth c s₁ [] 0 0 := Stand.of_body Bd
  have e0 : s₁.heap = h0 := by rw [← hh, Bd.state]; rfl
  have N0 := Fr.nil n0
  have pre0 : ∀ tt, Steps p.tables e below (s₁.setTop (mkF m 0 #[iv p0, iv p1, iv p2, iv p3, iv p4, .unset, .unset, .unset, .unset, .unset, .unset, .unset, .unset, .unset, .unset, .unset, .unset] [])) tt → Steps p.tables e below (s₁.setTop (entryFrame m #[(.int p0), (.int p1), (.int p2), (.int p3), (.int p4)] maxLocals)) tt := fun tt kt => castTop (ef0 m p0 p1 p2 p3 p4) kt
  obtain ⟨ST, hST⟩ : ∃ z : State, z = s₁.setTop (mkF m 0 #[iv p0, iv p1, iv p2, iv p3, iv p4, .unset, .unset, .unset, .unset, .unset, .unset, .unset, .unset, .unset, .unset, .unset, .unset] []) := ⟨_, rfl⟩
  rw [← hST] at pre0
  have hZ : Z.Warmed39 (s.setVm s.vm).vm := hZ
  have hown : (s.setVm s.vm).vm.findClass "com/example/inscribe/inscribe/model/EdgeEqualsPinLaw" = some m.cls := hown
  have hS0 : s.Since s.vm s.heap.size := (State.WarmedH.refl s).since _
  have hk0 : s.heap.size ≤ h0.size := Nat.le_of_eq (congrArg Array.size hh)
  have hEL := own_ew hw
  have hWS := own_WS hw
  have CR0 : CHr Z own_EL s.vm h0 s.vm h0 := CHr.refl hC
  have go699 : own_S p e below ST s₁ (mkF m 4 #[iv p0, iv p1, iv p2, iv p3, iv p4, .unset, .unset, .unset, .unset, .unset, .unset, .unset, .unset, .unset, .unset, .unset, .unset] [(.int (p4 &&& (1 : Int32)))]) := fun tt kt => (by
      rw [hST]
      show Steps p.tables e below (s₁.setTop (mkF m 0 #[iv p0, iv p1, iv p2, iv p3, iv p4, .unset, .unset, .unset, .unset, .unset, .unset, .unset, .unset, .unset, .unset, .unset, .unset] [])) _
      refine XS.iload X0.here hx rfl (hb hby at_0) rfl ?_
      refine XS.iconst X0.here hx rfl (hb hby at_2) ?_
      refine XS.iand X0.here hx rfl (hb hby at_3) rfl ?_
      exact kt)
  obtain ⟨sf, hsf, sg700⟩ : ∃ (sf : Int32), sf = (if (p4 &&& (1 : Int32)) = (0 : Int32) then (0 : Int32) else (1 : Int32)) ∧ ∀ tt, Steps p.tables e below (s₁.setTop (mkF m 12 #[iv p0, iv p1, iv p2, iv p3, iv p4, .unset, .unset, .unset, .unset, .unset, .unset, .unset, .unset, .unset, .unset, .unset, .unset] [(.int sf)])) tt → Steps p.tables e below (s₁.setTop (mkF m 4 #[iv p0, iv p1, iv p2, iv p3, iv p4, .unset, .unset, .unset, .unset, .unset, .unset, .unset, .unset, .unset, .unset, .unset, .unset] [(.int (p4 &&& (1 : Int32)))])) tt := by
    by_cases hd4_0 : (p4 &&& (1 : Int32)) = (0 : Int32)
    · refine ⟨_, (if_pos hd4_0).symm, fun tt kt => ?_⟩
      show Steps p.tables e below (s₁.setTop (mkF m 4 #[iv p0, iv p1, iv p2, iv p3, iv p4, .unset, .unset, .unset, .unset, .unset, .unset, .unset, .unset, .unset, .unset, .unset, .unset] [(.int (p4 &&& (1 : Int32)))])) _
      refine XS.ifYes X0.here hx rfl (pc0 := 4) (pc' := 11) rfl (hb hby at_4) rfl ((if0 _ _).trans (teq hd4_0).1) (by decide) (by decide) ?_
      refine XS.iconst X0.here hx rfl (hb hby at_11) ?_
      exact kt
    · refine ⟨_, (if_neg hd4_0).symm, fun tt kt => ?_⟩
      show Steps p.tables e below (s₁.setTop (mkF m 4 #[iv p0, iv p1, iv p2, iv p3, iv p4, .unset, .unset, .unset, .unset, .unset, .unset, .unset, .unset, .unset, .unset, .unset, .unset] [(.int (p4 &&& (1 : Int32)))])) _
      refine XS.ifNo X0.here hx rfl (hb hby at_4) rfl ((if0 _ _).trans (feq hd4_0).1) ?_
      refine XS.iconst X0.here hx rfl (hb hby at_7) ?_
      refine XS.goto X0.here hx rfl (pc0 := 8) (pc' := 12) rfl (hb hby at_8) (by decide) (by decide) ?_
      exact kt
  have go701 : own_S p e below ST s₁ (mkF m 12 #[iv p0, iv p1, iv p2, iv p3, iv p4, .unset, .unset, .unset, .unset, .unset, .unset, .unset, .unset, .unset, .unset, .unset, .unset] [(.int sf)]) := fun tt kt => go699 tt (sg700 _ kt)
  have go702 : own_S p e below ST s₁ (mkF m 18 #[iv p0, iv p1, iv p2, iv p3, iv p4, iv sf, .unset, .unset, .unset, .unset, .unset, .unset, .unset, .unset, .unset, .unset, .unset] [(.int (p4 &&& (2 : Int32)))]) := fun tt kt => go701 tt (by
      refine XS.istore X0.here hx rfl (hb hby at_12) rfl (l' := #[iv p0, iv p1, iv p2, iv p3, iv p4, iv sf, .unset, .unset, .unset, .unset, .unset, .unset, .unset, .unset, .unset, .unset, .unset]) rfl ?_
      refine XS.iload X0.here hx rfl (hb hby at_14) rfl ?_
      refine XS.iconst X0.here hx rfl (hb hby at_16) ?_
      refine XS.iand X0.here hx rfl (hb hby at_17) rfl ?_
      exact kt)
  obtain ⟨ss, hss, sg703⟩ : ∃ (ss : Int32), ss = (if (p4 &&& (2 : Int32)) = (0 : Int32) then (0 : Int32) else (1 : Int32)) ∧ ∀ tt, Steps p.tables e below (s₁.setTop (mkF m 26 #[iv p0, iv p1, iv p2, iv p3, iv p4, iv sf, .unset, .unset, .unset, .unset, .unset, .unset, .unset, .unset, .unset, .unset, .unset] [(.int ss)])) tt → Steps p.tables e below (s₁.setTop (mkF m 18 #[iv p0, iv p1, iv p2, iv p3, iv p4, iv sf, .unset, .unset, .unset, .unset, .unset, .unset, .unset, .unset, .unset, .unset, .unset] [(.int (p4 &&& (2 : Int32)))])) tt := by
    by_cases hd18_0 : (p4 &&& (2 : Int32)) = (0 : Int32)
    · refine ⟨_, (if_pos hd18_0).symm, fun tt kt => ?_⟩
      show Steps p.tables e below (s₁.setTop (mkF m 18 #[iv p0, iv p1, iv p2, iv p3, iv p4, iv sf, .unset, .unset, .unset, .unset, .unset, .unset, .unset, .unset, .unset, .unset, .unset] [(.int (p4 &&& (2 : Int32)))])) _
      refine XS.ifYes X0.here hx rfl (pc0 := 18) (pc' := 25) rfl (hb hby at_18) rfl ((if0 _ _).trans (teq hd18_0).1) (by decide) (by decide) ?_
      refine XS.iconst X0.here hx rfl (hb hby at_25) ?_
      exact kt
    · refine ⟨_, (if_neg hd18_0).symm, fun tt kt => ?_⟩
      show Steps p.tables e below (s₁.setTop (mkF m 18 #[iv p0, iv p1, iv p2, iv p3, iv p4, iv sf, .unset, .unset, .unset, .unset, .unset, .unset, .unset, .unset, .unset, .unset, .unset] [(.int (p4 &&& (2 : Int32)))])) _
      refine XS.ifNo X0.here hx rfl (hb hby at_18) rfl ((if0 _ _).trans (feq hd18_0).1) ?_
      refine XS.iconst X0.here hx rfl (hb hby at_21) ?_
      refine XS.goto X0.here hx rfl (pc0 := 22) (pc' := 26) rfl (hb hby at_22) (by decide) (by decide) ?_
      exact kt
  have go704 : own_S p e below ST s₁ (mkF m 26 #[iv p0, iv p1, iv p2, iv p3, iv p4, iv sf, .unset, .unset, .unset, .unset, .unset, .unset, .unset, .unset, .unset, .unset, .unset] [(.int ss)]) := fun tt kt => go702 tt (sg703 _ kt)
  have go705 : own_S p e below ST s₁ (mkF m 36 #[iv p0, iv p1, iv p2, iv p3, iv p4, iv sf, iv ss, iv (((p4.toUInt32 >>> ((2 : Int32) &&& 31).toUInt32).toInt32) &&& (3 : Int32)), .unset, .unset, .unset, .unset, .unset, .unset, .unset, .unset, .unset] []) := fun tt kt => go704 tt (by
      refine XS.istore X0.here hx rfl (hb hby at_26) rfl (l' := #[iv p0, iv p1, iv p2, iv p3, iv p4, iv sf, iv ss, .unset, .unset, .unset, .unset, .unset, .unset, .unset, .unset, .unset, .unset]) rfl ?_
      refine XS.iload X0.here hx rfl (hb hby at_28) rfl ?_
      refine XS.iconst X0.here hx rfl (hb hby at_30) ?_
      refine XS.iushr X0.here hx rfl (hb hby at_31) rfl ?_
      refine XS.iconst X0.here hx rfl (hb hby at_32) ?_
      refine XS.iand X0.here hx rfl (hb hby at_33) rfl ?_
      show Steps p.tables e below (s₁.setTop (mkF m 34 #[iv p0, iv p1, iv p2, iv p3, iv p4, iv sf, iv ss, .unset, .unset, .unset, .unset, .unset, .unset, .unset, .unset, .unset, .unset] [(.int (((p4.toUInt32 >>> ((2 : Int32) &&& 31).toUInt32).toInt32) &&& (3 : Int32)))])) _
      refine XS.istore X0.here hx rfl (hb hby at_34) rfl (l' := #[iv p0, iv p1, iv p2, iv p3, iv p4, iv sf, iv ss, iv (((p4.toUInt32 >>> ((2 : Int32) &&& 31).toUInt32).toInt32) &&& (3 : Int32)), .unset, .unset, .unset, .unset, .unset, .unset, .unset, .unset, .unset]) rfl ?_
      exact kt)
  obtain ⟨kd, hkd⟩ : ∃ z : Int32, z = (((p4.toUInt32 >>> ((2 : Int32) &&& 31).toUInt32).toInt32) &&& (3 : Int32)) := ⟨_, rfl⟩
  rw [← hkd] at go705
  have go706 : own_S p e below ST s₁ (mkF m 41 #[iv p0, iv p1, iv p2, iv p3, iv p4, iv sf, iv ss, iv kd, .unset, .unset, .unset, .unset, .unset, .unset, .unset, .unset, .unset] [(.int (p4 &&& (16 : Int32)))]) := fun tt kt => go705 tt (by
      refine XS.iload X0.here hx rfl (hb hby at_36) rfl ?_
      refine XS.bipush X0.here hx rfl (hb hby at_38) ?_
      refine XS.iand X0.here hx rfl (hb hby at_40) rfl ?_
      exact kt)
  obtain ⟨sw, hsw, sg707⟩ : ∃ (sw : Int32), sw = (if (p4 &&& (16 : Int32)) = (0 : Int32) then (0 : Int32) else (1 : Int32)) ∧ ∀ tt, Steps p.tables e below (s₁.setTop (mkF m 49 #[iv p0, iv p1, iv p2, iv p3, iv p4, iv sf, iv ss, iv kd, .unset, .unset, .unset, .unset, .unset, .unset, .unset, .unset, .unset] [(.int sw)])) tt → Steps p.tables e below (s₁.setTop (mkF m 41 #[iv p0, iv p1, iv p2, iv p3, iv p4, iv sf, iv ss, iv kd, .unset, .unset, .unset, .unset, .unset, .unset, .unset, .unset, .unset] [(.int (p4 &&& (16 : Int32)))])) tt := by
    by_cases hd41_0 : (p4 &&& (16 : Int32)) = (0 : Int32)
    · refine ⟨_, (if_pos hd41_0).symm, fun tt kt => ?_⟩
      show Steps p.tables e below (s₁.setTop (mkF m 41 #[iv p0, iv p1, iv p2, iv p3, iv p4, iv sf, iv ss, iv kd, .unset, .unset, .unset, .unset, .unset, .unset, .unset, .unset, .unset] [(.int (p4 &&& (16 : Int32)))])) _
      refine XS.ifYes X0.here hx rfl (pc0 := 41) (pc' := 48) rfl (hb hby at_41) rfl ((if0 _ _).trans (teq hd41_0).1) (by decide) (by decide) ?_
      refine XS.iconst X0.here hx rfl (hb hby at_48) ?_
      exact kt
    · refine ⟨_, (if_neg hd41_0).symm, fun tt kt => ?_⟩
      show Steps p.tables e below (s₁.setTop (mkF m 41 #[iv p0, iv p1, iv p2, iv p3, iv p4, iv sf, iv ss, iv kd, .unset, .unset, .unset, .unset, .unset, .unset, .unset, .unset, .unset] [(.int (p4 &&& (16 : Int32)))])) _
      refine XS.ifNo X0.here hx rfl (hb hby at_41) rfl ((if0 _ _).trans (feq hd41_0).1) ?_
      refine XS.iconst X0.here hx rfl (hb hby at_44) ?_
      refine XS.goto X0.here hx rfl (pc0 := 45) (pc' := 49) rfl (hb hby at_45) (by decide) (by decide) ?_
      exact kt
  have go708 : own_S p e below ST s₁ (mkF m 49 #[iv p0, iv p1, iv p2, iv p3, iv p4, iv sf, iv ss, iv kd, .unset, .unset, .unset, .unset, .unset, .unset, .unset, .unset, .unset] [(.int sw)]) := fun tt kt => go706 tt (sg707 _ kt)
  have go709 : own_S p e below ST s₁ (mkF m 53 #[iv p0, iv p1, iv p2, iv p3, iv p4, iv sf, iv ss, iv kd, iv sw, .unset, .unset, .unset, .unset, .unset, .unset, .unset, .unset] [(.int sf)]) := fun tt kt => go708 tt (by
      refine XS.istore X0.here hx rfl (hb hby at_49) rfl (l' := #[iv p0, iv p1, iv p2, iv p3, iv p4, iv sf, iv ss, iv kd, iv sw, .unset, .unset, .unset, .unset, .unset, .unset, .unset, .unset]) rfl ?_
      refine XS.iload X0.here hx rfl (hb hby at_51) rfl ?_
      exact kt)
  obtain ⟨fk, hfk, sg710⟩ : ∃ (fk : Int32), fk = (if sf = (0 : Int32) then p2 else p0) ∧ ∀ tt, Steps p.tables e below (s₁.setTop (mkF m 61 #[iv p0, iv p1, iv p2, iv p3, iv p4, iv sf, iv ss, iv kd, iv sw, .unset, .unset, .unset, .unset, .unset, .unset, .unset, .unset] [(.int fk)])) tt → Steps p.tables e below (s₁.setTop (mkF m 53 #[iv p0, iv p1, iv p2, iv p3, iv p4, iv sf, iv ss, iv kd, iv sw, .unset, .unset, .unset, .unset, .unset, .unset, .unset, .unset] [(.int sf)])) tt := by
    by_cases hd53_0 : sf = (0 : Int32)
    · refine ⟨_, (if_pos hd53_0).symm, fun tt kt => ?_⟩
      show Steps p.tables e below (s₁.setTop (mkF m 53 #[iv p0, iv p1, iv p2, iv p3, iv p4, iv sf, iv ss, iv kd, iv sw, .unset, .unset, .unset, .unset, .unset, .unset, .unset, .unset] [(.int sf)])) _
      refine XS.ifYes X0.here hx rfl (pc0 := 53) (pc' := 60) rfl (hb hby at_53) rfl ((if0 _ _).trans (teq hd53_0).1) (by decide) (by decide) ?_
      refine XS.iloadN X0.here hx rfl (hb hby at_60) rfl ?_
      exact kt
    · refine ⟨_, (if_neg hd53_0).symm, fun tt kt => ?_⟩
      show Steps p.tables e below (s₁.setTop (mkF m 53 #[iv p0, iv p1, iv p2, iv p3, iv p4, iv sf, iv ss, iv kd, iv sw, .unset, .unset, .unset, .unset, .unset, .unset, .unset, .unset] [(.int sf)])) _
      refine XS.ifNo X0.here hx rfl (hb hby at_53) rfl ((if0 _ _).trans (feq hd53_0).1) ?_
      refine XS.iloadN X0.here hx rfl (hb hby at_56) rfl ?_
      refine XS.goto X0.here hx rfl (pc0 := 57) (pc' := 61) rfl (hb hby at_57) (by decide) (by decide) ?_
      exact kt
  have go711 : own_S p e below ST s₁ (mkF m 61 #[iv p0, iv p1, iv p2, iv p3, iv p4, iv sf, iv ss, iv kd, iv sw, .unset, .unset, .unset, .unset, .unset, .unset, .unset, .unset] [(.int fk)]) := fun tt kt => go709 tt (sg710 _ kt)
  have go712 : own_S p e below ST s₁ (mkF m 65 #[iv p0, iv p1, iv p2, iv p3, iv p4, iv sf, iv ss, iv kd, iv sw, iv fk, .unset, .unset, .unset, .unset, .unset, .unset, .unset] [(.int ss)]) := fun tt kt => go711 tt (by
      refine XS.istore X0.here hx rfl (hb hby at_61) rfl (l' := #[iv p0, iv p1, iv p2, iv p3, iv p4, iv sf, iv ss, iv kd, iv sw, iv fk, .unset, .unset, .unset, .unset, .unset, .unset, .unset]) rfl ?_
      refine XS.iload X0.here hx rfl (hb hby at_63) rfl ?_
      exact kt)
  obtain ⟨sk, hsk, sg713⟩ : ∃ (sk : Int32), sk = (if ss = (0 : Int32) then p3 else p1) ∧ ∀ tt, Steps p.tables e below (s₁.setTop (mkF m 73 #[iv p0, iv p1, iv p2, iv p3, iv p4, iv sf, iv ss, iv kd, iv sw, iv fk, .unset, .unset, .unset, .unset, .unset, .unset, .unset] [(.int sk)])) tt → Steps p.tables e below (s₁.setTop (mkF m 65 #[iv p0, iv p1, iv p2, iv p3, iv p4, iv sf, iv ss, iv kd, iv sw, iv fk, .unset, .unset, .unset, .unset, .unset, .unset, .unset] [(.int ss)])) tt := by
    by_cases hd65_0 : ss = (0 : Int32)
    · refine ⟨_, (if_pos hd65_0).symm, fun tt kt => ?_⟩
      show Steps p.tables e below (s₁.setTop (mkF m 65 #[iv p0, iv p1, iv p2, iv p3, iv p4, iv sf, iv ss, iv kd, iv sw, iv fk, .unset, .unset, .unset, .unset, .unset, .unset, .unset] [(.int ss)])) _
      refine XS.ifYes X0.here hx rfl (pc0 := 65) (pc' := 72) rfl (hb hby at_65) rfl ((if0 _ _).trans (teq hd65_0).1) (by decide) (by decide) ?_
      refine XS.iloadN X0.here hx rfl (hb hby at_72) rfl ?_
      exact kt
    · refine ⟨_, (if_neg hd65_0).symm, fun tt kt => ?_⟩
      show Steps p.tables e below (s₁.setTop (mkF m 65 #[iv p0, iv p1, iv p2, iv p3, iv p4, iv sf, iv ss, iv kd, iv sw, iv fk, .unset, .unset, .unset, .unset, .unset, .unset, .unset] [(.int ss)])) _
      refine XS.ifNo X0.here hx rfl (hb hby at_65) rfl ((if0 _ _).trans (feq hd65_0).1) ?_
      refine XS.iloadN X0.here hx rfl (hb hby at_68) rfl ?_
      refine XS.goto X0.here hx rfl (pc0 := 69) (pc' := 73) rfl (hb hby at_69) (by decide) (by decide) ?_
      exact kt
  have go714 : own_S p e below ST s₁ (mkF m 73 #[iv p0, iv p1, iv p2, iv p3, iv p4, iv sf, iv ss, iv kd, iv sw, iv fk, .unset, .unset, .unset, .unset, .unset, .unset, .unset] [(.int sk)]) := fun tt kt => go712 tt (sg713 _ kt)
  have go715 : own_S p e below ST s₁ (mkF m 75 #[iv p0, iv p1, iv p2, iv p3, iv p4, iv sf, iv ss, iv kd, iv sw, iv fk, iv sk, .unset, .unset, .unset, .unset, .unset, .unset] []) := fun tt kt => go714 tt (by
      refine XS.istore X0.here hx rfl (hb hby at_73) rfl (l' := #[iv p0, iv p1, iv p2, iv p3, iv p4, iv sf, iv ss, iv kd, iv sw, iv fk, iv sk, .unset, .unset, .unset, .unset, .unset, .unset]) rfl ?_
      exact kt)
  obtain ⟨b716, g716⟩ : ∃ z, z = h0.size := ⟨_, rfl⟩
  obtain ⟨T716, h716, X716, e716, E716, A716, D716, -, st716⟩ := newO X0 hx hZ hown (W 0 rfl) (W 1 rfl) (W 2 rfl) e0 (g := (mkF m 75 #[iv p0, iv p1, iv p2, iv p3, iv p4, iv sf, iv ss, iv kd, iv sw, iv fk, iv sk, .unset, .unset, .unset, .unset, .unset, .unset] [])) rfl (hb hby at_75) (by decide) (by decide)
  rw [← g716] at A716 D716 st716
  have ge_b716 : n0 ≤ b716 := Nat.le_trans Z0 (Nat.le_of_eq g716.symm)
  have F716_first : Fld Z h716 b716 "com/example/inscribe/inscribe/model/Edge" "first" "Ljava/lang/String;" .null := D716 (Or.inr (W 54 rfl)) (ty := (.object "java/lang/String")) (by decide)
  have F716_second : Fld Z h716 b716 "com/example/inscribe/inscribe/model/Edge" "second" "Ljava/lang/String;" .null := D716 (Or.inr (W 57 rfl)) (ty := (.object "java/lang/String")) (by decide)
  have CR716 := CR0.trans (CHr.ext E716 CR0.1)
  have hk716 := Nat.le_trans hk0 (E716.1)
  have go717 : own_S p e below ST T716 (mkF m 78 #[iv p0, iv p1, iv p2, iv p3, iv p4, iv sf, iv ss, iv kd, iv sw, iv fk, iv sk, .unset, .unset, .unset, .unset, .unset, .unset] [(.ref b716)]) := fun tt kt => go715 tt (st716 _ kt)
  have go718 : own_S p e below ST T716 (mkF m 80 #[iv p0, iv p1, iv p2, iv p3, iv p4, iv sf, iv ss, iv kd, iv sw, iv fk, iv sk, .unset, .unset, .unset, .unset, .unset, .unset] [(.int p0), (.ref b716), (.ref b716)]) := fun tt kt => go717 tt (by
      refine XS.dup X716.here hx rfl (hb hby at_78) rfl rfl ?_
      refine XS.iloadN X716.here hx rfl (hb hby at_79) rfl ?_
      exact kt)
  have f719 := (OL.ext E716)
  have zs721 := (Nat.le_trans Z0 E716.1)
  obtain ⟨_, _, ⟨T720, L720, k720, n720⟩, -, X720, S720, g720, ⟨Lc720, hQ720, l720, y720, z720, C720⟩, st720⟩ := callSS X716 hx (y := (⟨"com/example/inscribe/inscribe/model/EdgeEqualsPinLaw", "mk", "(I)Ljava/lang/String;"⟩ : MethodName)) hown (mvT hZ (W 3 rfl)) (mvT hZ (W 4 rfl)) (mvT hZ (W 5 rfl)) (mvT hZ (W 6 rfl)) (by decide) (backOfSH (s := s) (vm0 := s.vm) (W := 2) (rm1 l Z a0 hw [] p0 cs h716 n0 zs721 SC hcs f719) hZ (W 6 rfl) (W 5 rfl) (by decide) (by decide) hEL CR716.1) (g := (mkF m 80 #[iv p0, iv p1, iv p2, iv p3, iv p4, iv sf, iv ss, iv kd, iv sw, iv fk, iv sk, .unset, .unset, .unset, .unset, .unset, .unset] [(.int p0), (.ref b716), (.ref b716)])) rfl (by rw [hml]; rfl) (argsL := [(.int p0)]) (rest := [(.ref b716), (.ref b716)]) (lenOf pd328 rfl) rfl (by show 2 * 0 + _ ≤ _; exact Nat.le_of_eq rfl) (hb hby at_80) (fun _ _ => ⟨rfl, e716, (by decide : 1 + 4 ≤ _), (by decide : 2 + 10 ≤ _)⟩)
  dsimp only [Pt.U, Pt.locs, Pt.cells, Pt.slots] at X720 S720 g720 l720 y720 z720 C720 st720 hQ720
  subst l720 y720 z720
  obtain ⟨b720, ob720, kb720, rfl, Nq720, K720, Ea720, Fa720, Fb720, Vb720, go720, zo720⟩ := hQ720
  obtain ⟨X720, hS720, hZ, hown⟩ := rebS hS0 (by rw [e716]; exact hk716) X720 S720 g720 hZ hown
  have hk720 : T720.heap.size ≤ T720.heap.size := Nat.le_refl _
  have N720 := Fr.app N0 Nq720
  have CR720 := CR716.trans (C720)
  have go722 : own_S p e below ST T720 (mkF m 83 #[iv p0, iv p1, iv p2, iv p3, iv p4, iv sf, iv ss, iv kd, iv sw, iv fk, iv sk, .unset, .unset, .unset, .unset, .unset, .unset] [(.ref ob720), (.ref b716), (.ref b716)]) := fun tt kt => go718 tt (st720.trans kt)
  have f723 := (A716.keep K720)
  have nvb716_720 : b716 ≠ b720 := Exa.neArv f723 Vb720 (W 1 rfl)
  have neb716_ob720 : b716 ≠ ob720 := Nat.ne_of_lt (Nat.lt_of_lt_of_le A716.lt zo720)
  have go724 : own_S p e below ST T720 (mkF m 84 #[iv p0, iv p1, iv p2, iv p3, iv p4, iv sf, iv ss, iv kd, iv sw, iv fk, iv sk, .unset, .unset, .unset, .unset, .unset, .unset] [(.int p1), (.ref ob720), (.ref b716), (.ref b716)]) := fun tt kt => go722 tt (by
      refine XS.iloadN X720.here hx rfl (hb hby at_83) rfl ?_
      exact kt)
  have f725 := (f719.keep K720 all0)
  have zs727 := (Nat.le_trans zs721 K720.1)
  obtain ⟨_, _, ⟨T726, L726, k726, n726⟩, -, X726, S726, g726, ⟨Lc726, hQ726, l726, y726, z726, C726⟩, st726⟩ := callSS X720 hx (y := (⟨"com/example/inscribe/inscribe/model/EdgeEqualsPinLaw", "mk", "(I)Ljava/lang/String;"⟩ : MethodName)) hown (mvT hZ (W 3 rfl)) (mvT hZ (W 4 rfl)) (mvT hZ (W 5 rfl)) (mvT hZ (W 6 rfl)) (by decide) (backOfSH (s := s) (vm0 := T720.vm) (W := 3) (rm1 l Z a0 hw [] p1 cs T720.heap n0 zs727 SC hcs f725) hZ (W 6 rfl) (W 5 rfl) (by decide) (by decide) hEL CR720.1) (g := (mkF m 84 #[iv p0, iv p1, iv p2, iv p3, iv p4, iv sf, iv ss, iv kd, iv sw, iv fk, iv sk, .unset, .unset, .unset, .unset, .unset, .unset] [(.int p1), (.ref ob720), (.ref b716), (.ref b716)])) rfl (by rw [hml]; rfl) (argsL := [(.int p1)]) (rest := [(.ref ob720), (.ref b716), (.ref b716)]) (lenOf pd328 rfl) rfl (by show 2 * 0 + _ ≤ _; exact Nat.le_of_eq rfl) (hb hby at_84) (fun _ _ => ⟨rfl, rfl, (by decide : 5 + 4 ≤ _), (by decide : 12 + 10 ≤ _)⟩)
  dsimp only [Pt.U, Pt.locs, Pt.cells, Pt.slots] at X726 S726 g726 l726 y726 z726 C726 st726 hQ726
  subst l726 y726 z726
  obtain ⟨b726, ob726, kb726, rfl, Nq726, K726, Ea726, Fa726, Fb726, Vb726, go726, zo726⟩ := hQ726
  obtain ⟨X726, hS726, hZ, hown⟩ := rebS hS720 (by exact hk720) X726 S726 g726 hZ hown
  have hk726 : T726.heap.size ≤ T726.heap.size := Nat.le_refl _
  have N726 := Fr.app N720 Nq726
  have CR726 := CR720.trans (C726)
  have go728 : own_S p e below ST T726 (mkF m 87 #[iv p0, iv p1, iv p2, iv p3, iv p4, iv sf, iv ss, iv kd, iv sw, iv fk, iv sk, .unset, .unset, .unset, .unset, .unset, .unset] [(.ref ob726), (.ref ob720), (.ref b716), (.ref b716)]) := fun tt kt => go724 tt (st726.trans kt)
  have f729 := (f723.keep K726)
  have nvb716_726 : b716 ≠ b726 := Exa.neArv f729 Vb726 (W 1 rfl)
  have neb716_ob726 : b716 ≠ ob726 := Nat.ne_of_lt (Nat.lt_of_lt_of_le f723.lt zo726)
  have neob720_ob726 : ob720 ≠ ob726 := Nat.ne_of_lt (Nat.lt_of_lt_of_le Ea720.lt zo726)
  have neb720_ob726 : b720 ≠ ob726 := Nat.ne_of_lt (Nat.lt_of_lt_of_le Vb720.lt zo726)
  have f730 := ((F716_first.keep K720 nin0).keep K726 nin0)
  have f731 := ((F716_second.keep K720 nin0).keep K726 nin0)
  have f732 := (Ea720.keep K726)
  have zs734 := (Nat.le_trans zs727 K726.1)
  obtain ⟨_, _, ⟨T733, L733, k733, n733⟩, -, X733, S733, g733, ⟨Lc733, hQ733, l733, y733, z733, C733⟩, st733⟩ := X726.specialBackS hx (y := (⟨"com/example/inscribe/inscribe/model/Edge", "<init>", "(Ljava/lang/String;Ljava/lang/String;)V"⟩ : MethodName)) rfl hown (mvT hZ (W 43 rfl)) (mvT hZ (W 44 rfl)) (mvT hZ (W 45 rfl)) (by decide) (backOfSH (s := s) (vm0 := T726.vm) (W := 1) (rm9 l Z a0 hw [] b716 ob720 ob726 T726.heap n0 zs734 f730 f731 f729 ge_b716 f732 Ea726) hZ (W 45 rfl) (W 2 rfl) (by decide) (by decide) hEL CR726.1) (g := (mkF m 87 #[iv p0, iv p1, iv p2, iv p3, iv p4, iv sf, iv ss, iv kd, iv sw, iv fk, iv sk, .unset, .unset, .unset, .unset, .unset, .unset] [(.ref ob726), (.ref ob720), (.ref b716), (.ref b716)])) rfl (by rw [hml]; rfl) (Steps.refl _) (a := b716) (argsL := [(.ref ob720), (.ref ob726)]) (rest := [(.ref b716)]) (lenOf pd329 rfl) rfl (by show 2 * 0 + _ ≤ _; exact Nat.le_of_eq rfl) (hb hby at_87) (fun _ _ => ⟨rfl, rfl, (by decide : 9 + 4 ≤ _), (by decide : 22 + 52 ≤ _)⟩)
  dsimp only [Pt.U, Pt.locs, Pt.cells, Pt.slots] at X733 S733 g733 l733 y733 z733 C733 st733 hQ733
  subst l733 y733 z733
  obtain ⟨rfl, Nq733, K733, Fa733, Fb733⟩ := hQ733
  obtain ⟨X733, hS733, hZ, hown⟩ := rebS hS726 (by exact hk726) X733 S733 g733 hZ hown
  have hk733 : T733.heap.size ≤ T733.heap.size := Nat.le_refl _
  have N733 := Fr.app N726 Nq733
  have CR733 := CR726.trans (C733)
  have go735 : own_S p e below ST T733 (mkF m 90 #[iv p0, iv p1, iv p2, iv p3, iv p4, iv sf, iv ss, iv kd, iv sw, iv fk, iv sk, .unset, .unset, .unset, .unset, .unset, .unset] [(.ref b716)]) := fun tt kt => go728 tt (st733.trans kt)
  have go736 : own_S p e below ST T733 (mkF m 92 #[iv p0, iv p1, iv p2, iv p3, iv p4, iv sf, iv ss, iv kd, iv sw, iv fk, iv sk, rv b716, .unset, .unset, .unset, .unset, .unset] []) := fun tt kt => go735 tt (by
      refine XS.astore X733.here hx rfl (hb hby at_90) rfl rfl (l' := #[iv p0, iv p1, iv p2, iv p3, iv p4, iv sf, iv ss, iv kd, iv sw, iv fk, iv sk, rv b716, .unset, .unset, .unset, .unset, .unset]) rfl ?_
      exact kt)
  have f738 := (f729.keep K733)
  have f739 := (f732.keep K733)
  have f740 := ((Vb720.keep K726 nin0).keep K733 (ninS (Ne.symm nvb716_720) nin0))
  have f741 := (Ea726.keep K733)
  have f742 := (Vb726.keep K733 (ninS (Ne.symm nvb716_726) nin0))
  have zs743 := (Nat.le_trans zs734 K733.1)
  obtain ⟨b737, g737⟩ : ∃ z, z = T733.heap.size := ⟨_, rfl⟩
  obtain ⟨T737, h737, X737, e737, E737, A737, D737, -, st737⟩ := newO X733 hx hZ hown (W 0 rfl) (W 1 rfl) (W 2 rfl) rfl (g := (mkF m 92 #[iv p0, iv p1, iv p2, iv p3, iv p4, iv sf, iv ss, iv kd, iv sw, iv fk, iv sk, rv b716, .unset, .unset, .unset, .unset, .unset] [])) rfl (hb hby at_92) (by decide) (by decide)
  rw [← g737] at A737 D737 st737
  have neb716_b737 : b716 ≠ b737 := Nat.ne_of_lt (Nat.lt_of_lt_of_le f738.lt (Nat.le_of_eq g737.symm))
  have neob720_b737 : ob720 ≠ b737 := Nat.ne_of_lt (Nat.lt_of_lt_of_le f739.lt (Nat.le_of_eq g737.symm))
  have neb720_b737 : b720 ≠ b737 := Nat.ne_of_lt (Nat.lt_of_lt_of_le f740.lt (Nat.le_of_eq g737.symm))
  have neob726_b737 : ob726 ≠ b737 := Nat.ne_of_lt (Nat.lt_of_lt_of_le f741.lt (Nat.le_of_eq g737.symm))
  have neb726_b737 : b726 ≠ b737 := Nat.ne_of_lt (Nat.lt_of_lt_of_le f742.lt (Nat.le_of_eq g737.symm))
  have ge_b737 : n0 ≤ b737 := Nat.le_trans zs743 (Nat.le_of_eq g737.symm)
  have F737_first : Fld Z h737 b737 "com/example/inscribe/inscribe/model/Edge" "first" "Ljava/lang/String;" .null := D737 (Or.inr (W 54 rfl)) (ty := (.object "java/lang/String")) (by decide)
  have F737_second : Fld Z h737 b737 "com/example/inscribe/inscribe/model/Edge" "second" "Ljava/lang/String;" .null := D737 (Or.inr (W 57 rfl)) (ty := (.object "java/lang/String")) (by decide)
  have CR737 := CR733.trans (CHr.ext E737 CR733.1)
  have hk737 := Nat.le_trans hk733 (E737.1)
  have go744 : own_S p e below ST T737 (mkF m 95 #[iv p0, iv p1, iv p2, iv p3, iv p4, iv sf, iv ss, iv kd, iv sw, iv fk, iv sk, rv b716, .unset, .unset, .unset, .unset, .unset] [(.ref b737)]) := fun tt kt => go736 tt (st737 _ kt)
  have go745 : own_S p e below ST T737 (mkF m 98 #[iv p0, iv p1, iv p2, iv p3, iv p4, iv sf, iv ss, iv kd, iv sw, iv fk, iv sk, rv b716, .unset, .unset, .unset, .unset, .unset] [(.int fk), (.ref b737), (.ref b737)]) := fun tt kt => go744 tt (by
      refine XS.dup X737.here hx rfl (hb hby at_95) rfl rfl ?_
      refine XS.iload X737.here hx rfl (hb hby at_96) rfl ?_
      exact kt)
  have f746 := (((f725.keep K726 all0).keep K733 (allS ge_b716 all0)).ext E737)
  have f747 := (f738.ext E737)
  have f748 := (f739.ext E737)
  have f749 := (f740.ext E737)
  have f750 := (f741.ext E737)
  have f751 := (f742.ext E737)
  have zs753 := (Nat.le_trans zs743 E737.1)
  obtain ⟨_, _, ⟨T752, L752, k752, n752⟩, -, X752, S752, g752, ⟨Lc752, hQ752, l752, y752, z752, C752⟩, st752⟩ := callSS X737 hx (y := (⟨"com/example/inscribe/inscribe/model/EdgeEqualsPinLaw", "mk", "(I)Ljava/lang/String;"⟩ : MethodName)) hown (mvT hZ (W 3 rfl)) (mvT hZ (W 4 rfl)) (mvT hZ (W 5 rfl)) (mvT hZ (W 6 rfl)) (by decide) (backOfSH (s := s) (vm0 := T733.vm) (W := 2) (rm1 l Z a0 hw [] fk cs h737 n0 zs753 SC hcs f746) hZ (W 6 rfl) (W 5 rfl) (by decide) (by decide) hEL CR737.1) (g := (mkF m 98 #[iv p0, iv p1, iv p2, iv p3, iv p4, iv sf, iv ss, iv kd, iv sw, iv fk, iv sk, rv b716, .unset, .unset, .unset, .unset, .unset] [(.int fk), (.ref b737), (.ref b737)])) rfl (by rw [hml]; rfl) (argsL := [(.int fk)]) (rest := [(.ref b737), (.ref b737)]) (lenOf pd328 rfl) rfl (by show 2 * 0 + _ ≤ _; exact Nat.le_of_eq rfl) (hb hby at_98) (fun _ _ => ⟨rfl, e737, (by decide : 14 + 4 ≤ _), (by decide : 76 + 10 ≤ _)⟩)
  dsimp only [Pt.U, Pt.locs, Pt.cells, Pt.slots] at X752 S752 g752 l752 y752 z752 C752 st752 hQ752
  subst l752 y752 z752
  obtain ⟨b752, ob752, kb752, rfl, Nq752, K752, Ea752, Fa752, Fb752, Vb752, go752, zo752⟩ := hQ752
  obtain ⟨X752, hS752, hZ, hown⟩ := rebS hS733 (by rw [e737]; exact hk737) X752 S752 g752 hZ hown
  have hk752 : T752.heap.size ≤ T752.heap.size := Nat.le_refl _
  have N752 := Fr.app N733 Nq752
  have CR752 := CR737.trans (C752)
  have go754 : own_S p e below ST T752 (mkF m 101 #[iv p0, iv p1, iv p2, iv p3, iv p4, iv sf, iv ss, iv kd, iv sw, iv fk, iv sk, rv b716, .unset, .unset, .unset, .unset, .unset] [(.ref ob752), (.ref b737), (.ref b737)]) := fun tt kt => go745 tt (st752.trans kt)
  have f755 := (f747.keep K752)
  have nvb716_752 : b716 ≠ b752 := Exa.neArv f755 Vb752 (W 1 rfl)
  have f756 := (A737.keep K752)
  have nvb737_752 : b737 ≠ b752 := Exa.neArv f756 Vb752 (W 1 rfl)
  have neb716_ob752 : b716 ≠ ob752 := Nat.ne_of_lt (Nat.lt_of_lt_of_le f747.lt zo752)
  have neob720_ob752 : ob720 ≠ ob752 := Nat.ne_of_lt (Nat.lt_of_lt_of_le f748.lt zo752)
  have neb720_ob752 : b720 ≠ ob752 := Nat.ne_of_lt (Nat.lt_of_lt_of_le f749.lt zo752)
  have neob726_ob752 : ob726 ≠ ob752 := Nat.ne_of_lt (Nat.lt_of_lt_of_le f750.lt zo752)
  have neb726_ob752 : b726 ≠ ob752 := Nat.ne_of_lt (Nat.lt_of_lt_of_le f751.lt zo752)
  have neb737_ob752 : b737 ≠ ob752 := Nat.ne_of_lt (Nat.lt_of_lt_of_le A737.lt zo752)
  have go757 : own_S p e below ST T752 (mkF m 103 #[iv p0, iv p1, iv p2, iv p3, iv p4, iv sf, iv ss, iv kd, iv sw, iv fk, iv sk, rv b716, .unset, .unset, .unset, .unset, .unset] [(.int sk), (.ref ob752), (.ref b737), (.ref b737)]) := fun tt kt => go754 tt (by
      refine XS.iload X752.here hx rfl (hb hby at_101) rfl ?_
      exact kt)
  have f758 := (f746.keep K752 all0)
  have f759 := (f748.keep K752)
  have f760 := (f749.keep K752 nin0)
  have f761 := (f750.keep K752)
  have f762 := (f751.keep K752 nin0)
  have zs764 := (Nat.le_trans zs753 K752.1)
  obtain ⟨_, _, ⟨T763, L763, k763, n763⟩, -, X763, S763, g763, ⟨Lc763, hQ763, l763, y763, z763, C763⟩, st763⟩ := callSS X752 hx (y := (⟨"com/example/inscribe/inscribe/model/EdgeEqualsPinLaw", "mk", "(I)Ljava/lang/String;"⟩ : MethodName)) hown (mvT hZ (W 3 rfl)) (mvT hZ (W 4 rfl)) (mvT hZ (W 5 rfl)) (mvT hZ (W 6 rfl)) (by decide) (backOfSH (s := s) (vm0 := T752.vm) (W := 3) (rm1 l Z a0 hw [] sk cs T752.heap n0 zs764 SC hcs f758) hZ (W 6 rfl) (W 5 rfl) (by decide) (by decide) hEL CR752.1) (g := (mkF m 103 #[iv p0, iv p1, iv p2, iv p3, iv p4, iv sf, iv ss, iv kd, iv sw, iv fk, iv sk, rv b716, .unset, .unset, .unset, .unset, .unset] [(.int sk), (.ref ob752), (.ref b737), (.ref b737)])) rfl (by rw [hml]; rfl) (argsL := [(.int sk)]) (rest := [(.ref ob752), (.ref b737), (.ref b737)]) (lenOf pd328 rfl) rfl (by show 2 * 0 + _ ≤ _; exact Nat.le_of_eq rfl) (hb hby at_103) (fun _ _ => ⟨rfl, rfl, (by decide : 18 + 4 ≤ _), (by decide : 86 + 10 ≤ _)⟩)
  dsimp only [Pt.U, Pt.locs, Pt.cells, Pt.slots] at X763 S763 g763 l763 y763 z763 C763 st763 hQ763
  subst l763 y763 z763
  obtain ⟨b763, ob763, kb763, rfl, Nq763, K763, Ea763, Fa763, Fb763, Vb763, go763, zo763⟩ := hQ763
  obtain ⟨X763, hS763, hZ, hown⟩ := rebS hS752 (by exact hk752) X763 S763 g763 hZ hown
  have hk763 : T763.heap.size ≤ T763.heap.size := Nat.le_refl _
  have N763 := Fr.app N752 Nq763
  have CR763 := CR752.trans (C763)
  have go765 : own_S p e below ST T763 (mkF m 106 #[iv p0, iv p1, iv p2, iv p3, iv p4, iv sf, iv ss, iv kd, iv sw, iv fk, iv sk, rv b716, .unset, .unset, .unset, .unset, .unset] [(.ref ob763), (.ref ob752), (.ref b737), (.ref b737)]) := fun tt kt => go757 tt (st763.trans kt)
  have f766 := (f755.keep K763)
  have nvb716_763 : b716 ≠ b763 := Exa.neArv f766 Vb763 (W 1 rfl)
  have f767 := (f756.keep K763)
  have nvb737_763 : b737 ≠ b763 := Exa.neArv f767 Vb763 (W 1 rfl)
  have neb716_ob763 : b716 ≠ ob763 := Nat.ne_of_lt (Nat.lt_of_lt_of_le f755.lt zo763)
  have neob720_ob763 : ob720 ≠ ob763 := Nat.ne_of_lt (Nat.lt_of_lt_of_le f759.lt zo763)
  have neb720_ob763 : b720 ≠ ob763 := Nat.ne_of_lt (Nat.lt_of_lt_of_le f760.lt zo763)
  have neob726_ob763 : ob726 ≠ ob763 := Nat.ne_of_lt (Nat.lt_of_lt_of_le f761.lt zo763)
  have neb726_ob763 : b726 ≠ ob763 := Nat.ne_of_lt (Nat.lt_of_lt_of_le f762.lt zo763)
  have neb737_ob763 : b737 ≠ ob763 := Nat.ne_of_lt (Nat.lt_of_lt_of_le f756.lt zo763)
  have neob752_ob763 : ob752 ≠ ob763 := Nat.ne_of_lt (Nat.lt_of_lt_of_le Ea752.lt zo763)
  have neb752_ob763 : b752 ≠ ob763 := Nat.ne_of_lt (Nat.lt_of_lt_of_le Vb752.lt zo763)
  have f768 := ((F737_first.keep K752 nin0).keep K763 nin0)
  have f769 := ((F737_second.keep K752 nin0).keep K763 nin0)
  have f770 := (Ea752.keep K763)
  have zs772 := (Nat.le_trans zs764 K763.1)
  obtain ⟨_, _, ⟨T771, L771, k771, n771⟩, -, X771, S771, g771, ⟨Lc771, hQ771, l771, y771, z771, C771⟩, st771⟩ := X763.specialBackS hx (y := (⟨"com/example/inscribe/inscribe/model/Edge", "<init>", "(Ljava/lang/String;Ljava/lang/String;)V"⟩ : MethodName)) rfl hown (mvT hZ (W 43 rfl)) (mvT hZ (W 44 rfl)) (mvT hZ (W 45 rfl)) (by decide) (backOfSH (s := s) (vm0 := T763.vm) (W := 1) (rm9 l Z a0 hw [] b737 ob752 ob763 T763.heap n0 zs772 f768 f769 f767 ge_b737 f770 Ea763) hZ (W 45 rfl) (W 2 rfl) (by decide) (by decide) hEL CR763.1) (g := (mkF m 106 #[iv p0, iv p1, iv p2, iv p3, iv p4, iv sf, iv ss, iv kd, iv sw, iv fk, iv sk, rv b716, .unset, .unset, .unset, .unset, .unset] [(.ref ob763), (.ref ob752), (.ref b737), (.ref b737)])) rfl (by rw [hml]; rfl) (Steps.refl _) (a := b737) (argsL := [(.ref ob752), (.ref ob763)]) (rest := [(.ref b737)]) (lenOf pd329 rfl) rfl (by show 2 * 0 + _ ≤ _; exact Nat.le_of_eq rfl) (hb hby at_106) (fun _ _ => ⟨rfl, rfl, (by decide : 22 + 4 ≤ _), (by decide : 96 + 52 ≤ _)⟩)
  dsimp only [Pt.U, Pt.locs, Pt.cells, Pt.slots] at X771 S771 g771 l771 y771 z771 C771 st771 hQ771
  subst l771 y771 z771
  obtain ⟨rfl, Nq771, K771, Fa771, Fb771⟩ := hQ771
  obtain ⟨X771, hS771, hZ, hown⟩ := rebS hS763 (by exact hk763) X771 S771 g771 hZ hown
  have hk771 : T771.heap.size ≤ T771.heap.size := Nat.le_refl _
  have N771 := Fr.app N763 Nq771
  have CR771 := CR763.trans (C771)
  have go773 : own_S p e below ST T771 (mkF m 109 #[iv p0, iv p1, iv p2, iv p3, iv p4, iv sf, iv ss, iv kd, iv sw, iv fk, iv sk, rv b716, .unset, .unset, .unset, .unset, .unset] [(.ref b737)]) := fun tt kt => go765 tt (st771.trans kt)
  have go774 : own_S p e below ST T771 (mkF m 113 #[iv p0, iv p1, iv p2, iv p3, iv p4, iv sf, iv ss, iv kd, iv sw, iv fk, iv sk, rv b716, rv b737, .unset, .unset, .unset, .unset] [(.int sw)]) := fun tt kt => go773 tt (by
      refine XS.astore X771.here hx rfl (hb hby at_109) rfl rfl (l' := #[iv p0, iv p1, iv p2, iv p3, iv p4, iv sf, iv ss, iv kd, iv sw, iv fk, iv sk, rv b716, rv b737, .unset, .unset, .unset, .unset]) rfl ?_
      refine XS.iload X771.here hx rfl (hb hby at_111) rfl ?_
      exact kt)
  by_cases hsw : sw = (0 : Int32)
  · have go775 : own_S p e below ST T771 (mkF m 121 #[iv p0, iv p1, iv p2, iv p3, iv p4, iv sf, iv ss, iv kd, iv sw, iv fk, iv sk, rv b716, rv b737, .unset, .unset, .unset, .unset] []) := fun tt kt => go774 tt (by
        refine XS.ifYes X771.here hx rfl (pc0 := 113) (pc' := 121) rfl (hb hby at_113) rfl ((if0 _ _).trans (teq hsw).1) (by decide) (by decide) ?_
        exact kt)
    have go776 : own_S p e below ST T771 (mkF m 141 #[iv p0, iv p1, iv p2, iv p3, iv p4, iv sf, iv ss, iv kd, iv sw, iv fk, iv sk, rv b716, rv b737, rv b716, rv b737, .unset, .unset] [(.int kd)]) := fun tt kt => go775 tt (by
        refine XS.aload X771.here hx rfl (hb hby at_121) rfl rfl ?_
        refine XS.astore X771.here hx rfl (hb hby at_123) rfl rfl (l' := #[iv p0, iv p1, iv p2, iv p3, iv p4, iv sf, iv ss, iv kd, iv sw, iv fk, iv sk, rv b716, rv b737, rv b716, .unset, .unset, .unset]) rfl ?_
        refine XS.iload X771.here hx rfl (hb hby at_125) rfl ?_
        refine XS.ifYes X771.here hx rfl (pc0 := 127) (pc' := 135) rfl (hb hby at_127) rfl ((if0 _ _).trans (teq hsw).1) (by decide) (by decide) ?_
        refine XS.aload X771.here hx rfl (hb hby at_135) rfl rfl ?_
        refine XS.astore X771.here hx rfl (hb hby at_137) rfl rfl (l' := #[iv p0, iv p1, iv p2, iv p3, iv p4, iv sf, iv ss, iv kd, iv sw, iv fk, iv sk, rv b716, rv b737, rv b716, rv b737, .unset, .unset]) rfl ?_
        show Steps p.tables e below (T771.setTop (mkF m 139 #[iv p0, iv p1, iv p2, iv p3, iv p4, iv sf, iv ss, iv kd, iv sw, iv fk, iv sk, rv b716, rv b737, rv b716, rv b737, .unset, .unset] [])) _
        refine XS.iload X771.here hx rfl (hb hby at_139) rfl ?_
        exact kt)
    by_cases e0 : kd = (0 : Int32)
    · have go777 : own_S p e below ST T771 (mkF m 144 #[iv p0, iv p1, iv p2, iv p3, iv p4, iv sf, iv ss, iv kd, iv sw, iv fk, iv sk, rv b716, rv b737, rv b716, rv b737, .unset, .unset] []) := fun tt kt => go776 tt (by
          refine XS.ifNo X771.here hx rfl (hb hby at_141) rfl ((if0 _ _).trans (teq e0).2) ?_
          exact kt)
      have go778 : own_S p e below ST T771 (mkF m 151 #[iv p0, iv p1, iv p2, iv p3, iv p4, iv sf, iv ss, iv kd, iv sw, iv fk, iv sk, rv b716, rv b737, rv b716, rv b737, rv b737, .unset] [(.int fk), (.int p0)]) := fun tt kt => go777 tt (by
          refine XS.aload X771.here hx rfl (hb hby at_144) rfl rfl ?_
          refine XS.astore X771.here hx rfl (hb hby at_146) rfl rfl (l' := #[iv p0, iv p1, iv p2, iv p3, iv p4, iv sf, iv ss, iv kd, iv sw, iv fk, iv sk, rv b716, rv b737, rv b716, rv b737, rv b737, .unset]) rfl ?_
          refine XS.iloadN X771.here hx rfl (hb hby at_148) rfl ?_
          refine XS.iload X771.here hx rfl (hb hby at_149) rfl ?_
          exact kt)
      have zs780 := (Nat.le_trans zs772 K771.1)
      obtain ⟨_, _, ⟨T779, L779, k779, n779⟩, -, X779, ⟨Lc779, hQ779, l779, y779, z779⟩, st779⟩ := Jvm.LawKit.callS X771 hx (y := (⟨"com/example/inscribe/inscribe/model/EdgeEqualsPinLaw", "sameKey", "(II)Z"⟩ : MethodName)) hown (mvT hZ (W 58 rfl)) (mvT hZ (W 59 rfl)) (mvT hZ (W 5 rfl)) (mvT hZ (W 60 rfl)) (by decide) (backOf (W := 0) (rmSK l Z a0 hw [] p0 fk T771.heap n0 zs780 ) hZ (W 60 rfl) (W 5 rfl) (by decide) (by decide)) (g := (mkF m 151 #[iv p0, iv p1, iv p2, iv p3, iv p4, iv sf, iv ss, iv kd, iv sw, iv fk, iv sk, rv b716, rv b737, rv b716, rv b737, rv b737, .unset] [(.int fk), (.int p0)])) rfl (by rw [hml]; rfl) (argsL := [(.int p0), (.int fk)]) (rest := []) (lenOf pd330 rfl) rfl (by show 2 * 0 + _ ≤ _; exact Nat.le_of_eq rfl) (hb hby at_151) (fun _ _ => ⟨rfl, rfl, (by decide : 26 + 0 ≤ _), (by decide : 148 + 0 ≤ _)⟩)
      dsimp only [Pt.U, Pt.locs, Pt.cells, Pt.slots] at X779 l779 y779 z779 st779 hQ779
      subst l779 y779 z779
      obtain ⟨rfl, Nq779, eh779⟩ := hQ779
      have N779 := Fr.app N771 Nq779
      have go781 : own_S p e below ST T779 (mkF m 154 #[iv p0, iv p1, iv p2, iv p3, iv p4, iv sf, iv ss, iv kd, iv sw, iv fk, iv sk, rv b716, rv b737, rv b716, rv b737, rv b737, .unset] [(.int (own_ke p0 fk))]) := fun tt kt => go778 tt (st779 _ kt)
      by_cases d0 : (own_ke p0 fk) = (0 : Int32)
      · have go782 : own_S p e below ST T779 (mkF m 170 #[iv p0, iv p1, iv p2, iv p3, iv p4, iv sf, iv ss, iv kd, iv sw, iv fk, iv sk, rv b716, rv b737, rv b716, rv b737, rv b737, .unset] []) := fun tt kt => go781 tt (by
            refine XS.ifYes X779.here hx rfl (pc0 := 154) (pc' := 170) rfl (hb hby at_154) rfl ((if0 _ _).trans (teq d0).1) (by decide) (by decide) ?_
            exact kt)
        have go783 : own_S p e below ST T779 (mkF m 220 #[iv p0, iv p1, iv p2, iv p3, iv p4, iv sf, iv ss, iv kd, iv sw, iv fk, iv sk, rv b716, rv b737, rv b716, rv b737, rv b737, iv (0 : Int32)] [(.ref b737), (.ref b716)]) := fun tt kt => go782 tt (by
            refine XS.iconst X779.here hx rfl (hb hby at_170) ?_
            refine XS.istore X779.here hx rfl (hb hby at_171) rfl (l' := #[iv p0, iv p1, iv p2, iv p3, iv p4, iv sf, iv ss, iv kd, iv sw, iv fk, iv sk, rv b716, rv b737, rv b716, rv b737, rv b737, iv (0 : Int32)]) rfl ?_
            refine XS.goto X779.here hx rfl (pc0 := 173) (pc' := 216) rfl (hb hby at_173) (by decide) (by decide) ?_
            refine XS.aload X779.here hx rfl (hb hby at_216) rfl rfl ?_
            refine XS.aload X779.here hx rfl (hb hby at_218) rfl rfl ?_
            exact kt)
        have f784 := (f766.keep K771)
        have f785 := (f767.keep K771)
        have f786 := ((((Fa733.ext E737).keep K752 nin0).keep K763 nin0).keep K771 (ninS neb716_b737 nin0))
        have f787 := ((((Fb733.ext E737).keep K752 nin0).keep K763 nin0).keep K771 (ninS neb716_b737 nin0))
        have f788 := ((f759.keep K763).keep K771)
        have f789 := ((((((Fa720.keep K726 nin0).keep K733 (ninS (Ne.symm neb716_ob720) nin0)).ext E737).keep K752 nin0).keep K763 nin0).keep K771 (ninS neob720_b737 nin0))
        have f790 := ((((((Fb720.keep K726 nin0).keep K733 (ninS (Ne.symm neb716_ob720) nin0)).ext E737).keep K752 nin0).keep K763 nin0).keep K771 (ninS neob720_b737 nin0))
        have f791 := ((f760.keep K763 nin0).keep K771 (ninS neb720_b737 nin0))
        have f792 := (f770.keep K771)
        have f793 := ((Fa752.keep K763 nin0).keep K771 (ninS (Ne.symm neb737_ob752) nin0))
        have f794 := ((Fb752.keep K763 nin0).keep K771 (ninS (Ne.symm neb737_ob752) nin0))
        have f795 := ((Vb752.keep K763 nin0).keep K771 (ninS (Ne.symm nvb737_752) nin0))
        have f796 := ((f761.keep K763).keep K771)
        have f797 := (((((Fa726.keep K733 (ninS (Ne.symm neb716_ob726) nin0)).ext E737).keep K752 nin0).keep K763 nin0).keep K771 (ninS neob726_b737 nin0))
        have f798 := (((((Fb726.keep K733 (ninS (Ne.symm neb716_ob726) nin0)).ext E737).keep K752 nin0).keep K763 nin0).keep K771 (ninS neob726_b737 nin0))
        have f799 := ((f762.keep K763 nin0).keep K771 (ninS neb726_b737 nin0))
        have f800 := (Ea763.keep K771)
        have f801 := (Fa763.keep K771 (ninS (Ne.symm neb737_ob763) nin0))
        have f802 := (Fb763.keep K771 (ninS (Ne.symm neb737_ob763) nin0))
        have f803 := (Vb763.keep K771 (ninS (Ne.symm nvb737_763) nin0))
        have f804 := ((f758.keep K763 all0).keep K771 (allS ge_b737 all0))
        obtain ⟨cq805, kq805, q805a, q805b, q805c⟩ := isOf hZ eh779 f784
        obtain ⟨_, _, ⟨T805, L805, k805, n805⟩, -, X805, ⟨Lc805, hQ805, l805, y805, z805⟩, st805⟩ := X779.virtualBack hx (y := (⟨"com/example/inscribe/inscribe/model/Edge", "equals", "(Ljava/lang/Object;)Z"⟩ : MethodName)) (z := (⟨"com/example/inscribe/inscribe/model/Edge", "equals", "(Ljava/lang/Object;)Z"⟩ : MethodName)) hown (mvT hZ (W 61 rfl)) (mvT hZ (W 62 rfl)) (notFace_of_selects (args := #[]) (mvT hZ (W 64 rfl))) (mvT hZ (W 64 rfl)) (mvT hZ (W 63 rfl)) (by decide) (backOf (W := 0) (rm12e l Z a0 hw [] b716 b737 ob720 b720 kb720 p0 ob752 b752 kb752 fk ob726 b726 kb726 p1 ob763 b763 kb763 sk cs T771.heap n0 zs780 f784 f785 neb716_b737 f786 f787 Fa771 Fb771 f788 f789 f790 f791 f792 f793 f794 f795 f796 f797 f798 f799 f800 f801 f802 f803 neob720_ob752 neob726_ob763 SC hcs f804) hZ (W 65 rfl) (W 2 rfl) (by decide) (by decide)) q805a q805c (g := (mkF m 220 #[iv p0, iv p1, iv p2, iv p3, iv p4, iv sf, iv ss, iv kd, iv sw, iv fk, iv sk, rv b716, rv b737, rv b716, rv b737, rv b737, iv (0 : Int32)] [(.ref b737), (.ref b716)])) rfl (by rw [hml]; rfl) (Steps.refl _) (argsL := [(.ref b737)]) (rest := []) (lenOf pd316 rfl) rfl (by show 2 * 0 + _ ≤ _; exact Nat.le_of_eq rfl) (hb hby at_220) (fun _ _ => ⟨rfl, eh779, (by decide : 26 + 0 ≤ _), (by decide : 148 + 0 ≤ _)⟩)
        dsimp only [Pt.U, Pt.locs, Pt.cells, Pt.slots] at X805 l805 y805 z805 st805 hQ805
        subst l805 y805 z805
        obtain ⟨rfl, Nq805, eh805⟩ := hQ805
        have N805 := Fr.app N779 Nq805
        have go806 : own_S p e below ST T805 (mkF m 223 #[iv p0, iv p1, iv p2, iv p3, iv p4, iv sf, iv ss, iv kd, iv sw, iv fk, iv sk, rv b716, rv b737, rv b716, rv b737, rv b737, iv (0 : Int32)] [(.int (own_an p0 fk p1 sk))]) := fun tt kt => go783 tt (st805.trans kt)
        have go807 : own_S p e below ST T805 (mkF m 233 #[iv p0, iv p1, iv p2, iv p3, iv p4, iv sf, iv ss, iv kd, iv sw, iv fk, iv sk, rv b716, rv b737, rv b716, rv b737, rv b737, iv (0 : Int32)] [(.int (1 : Int32))]) := fun tt kt => go806 tt (by
            refine XS.iload X805.here hx rfl (hb hby at_223) rfl ?_
            refine XS.icmpNo X805.here hx rfl (hb hby at_225) rfl (teq (show (own_an p0 fk p1 sk) = (0 : Int32) by rw [own_an, if_pos d0])).2 ?_
            refine XS.iconst X805.here hx rfl (hb hby at_228) ?_
            refine XS.goto X805.here hx rfl (pc0 := 229) (pc' := 233) rfl (hb hby at_229) (by decide) (by decide) ?_
            exact kt)
        obtain ⟨fs, hr, hrun, hended, hend⟩ := X805.leaveW (s := s) (vm₁ := T771.vm) hS771 (by rw [eh805]; exact hk771) (v := some (.int (1 : Int32))) (fun h => by rw [Bd.returns] at h; cases h) (hlocks := by first | exact BodyLoose.notSynchronized Bd | exact Body.notSynchronized Bd)
        refine ⟨_, _, pre0 _ (go807 _ ?_), hrun, hended, _, _, rfl, ?_, ?_, hend.1, hend.2.1, hend.2.2.1, hend.2.2.2.mono (by decide) (by decide)⟩
        · exact retN X805 hx (t := .boolean) Bd.returns (by simp) (hb hby at_233) hr
        · show Q0 Z p0 p1 p2 p3 p4 cs h0 n0 _ T805.heap _
          rw [eh805]
          exact ⟨rfl, N805⟩
        · show CHr Z own_EL s.vm s.heap T805.vm T805.heap
          exact own_cr hh eh805 (CR771.trans (CHv.at X805 hZ hEL CR771.1))
      · have go808 : own_S p e below ST T779 (mkF m 157 #[iv p0, iv p1, iv p2, iv p3, iv p4, iv sf, iv ss, iv kd, iv sw, iv fk, iv sk, rv b716, rv b737, rv b716, rv b737, rv b737, .unset] []) := fun tt kt => go781 tt (by
            refine XS.ifNo X779.here hx rfl (hb hby at_154) rfl ((if0 _ _).trans (feq d0).1) ?_
            exact kt)
        have go809 : own_S p e below ST T779 (mkF m 160 #[iv p0, iv p1, iv p2, iv p3, iv p4, iv sf, iv ss, iv kd, iv sw, iv fk, iv sk, rv b716, rv b737, rv b716, rv b737, rv b737, .unset] [(.int sk), (.int p1)]) := fun tt kt => go808 tt (by
            refine XS.iloadN X779.here hx rfl (hb hby at_157) rfl ?_
            refine XS.iload X779.here hx rfl (hb hby at_158) rfl ?_
            exact kt)
        obtain ⟨_, _, ⟨T810, L810, k810, n810⟩, -, X810, ⟨Lc810, hQ810, l810, y810, z810⟩, st810⟩ := Jvm.LawKit.callS X779 hx (y := (⟨"com/example/inscribe/inscribe/model/EdgeEqualsPinLaw", "sameKey", "(II)Z"⟩ : MethodName)) hown (mvT hZ (W 58 rfl)) (mvT hZ (W 59 rfl)) (mvT hZ (W 5 rfl)) (mvT hZ (W 60 rfl)) (by decide) (backOf (W := 0) (rmSK l Z a0 hw [] p1 sk T771.heap n0 zs780 ) hZ (W 60 rfl) (W 5 rfl) (by decide) (by decide)) (g := (mkF m 160 #[iv p0, iv p1, iv p2, iv p3, iv p4, iv sf, iv ss, iv kd, iv sw, iv fk, iv sk, rv b716, rv b737, rv b716, rv b737, rv b737, .unset] [(.int sk), (.int p1)])) rfl (by rw [hml]; rfl) (argsL := [(.int p1), (.int sk)]) (rest := []) (lenOf pd330 rfl) rfl (by show 2 * 0 + _ ≤ _; exact Nat.le_of_eq rfl) (hb hby at_160) (fun _ _ => ⟨rfl, eh779, (by decide : 26 + 0 ≤ _), (by decide : 148 + 0 ≤ _)⟩)
        dsimp only [Pt.U, Pt.locs, Pt.cells, Pt.slots] at X810 l810 y810 z810 st810 hQ810
        subst l810 y810 z810
        obtain ⟨rfl, Nq810, eh810⟩ := hQ810
        have N810 := Fr.app N779 Nq810
        have go811 : own_S p e below ST T810 (mkF m 163 #[iv p0, iv p1, iv p2, iv p3, iv p4, iv sf, iv ss, iv kd, iv sw, iv fk, iv sk, rv b716, rv b737, rv b716, rv b737, rv b737, .unset] [(.int (own_ke p1 sk))]) := fun tt kt => go809 tt (st810 _ kt)
        by_cases d1 : (own_ke p1 sk) = (0 : Int32)
        · have go812 : own_S p e below ST T810 (mkF m 170 #[iv p0, iv p1, iv p2, iv p3, iv p4, iv sf, iv ss, iv kd, iv sw, iv fk, iv sk, rv b716, rv b737, rv b716, rv b737, rv b737, .unset] []) := fun tt kt => go811 tt (by
              refine XS.ifYes X810.here hx rfl (pc0 := 163) (pc' := 170) rfl (hb hby at_163) rfl ((if0 _ _).trans (teq d1).1) (by decide) (by decide) ?_
              exact kt)
          have go813 : own_S p e below ST T810 (mkF m 220 #[iv p0, iv p1, iv p2, iv p3, iv p4, iv sf, iv ss, iv kd, iv sw, iv fk, iv sk, rv b716, rv b737, rv b716, rv b737, rv b737, iv (0 : Int32)] [(.ref b737), (.ref b716)]) := fun tt kt => go812 tt (by
              refine XS.iconst X810.here hx rfl (hb hby at_170) ?_
              refine XS.istore X810.here hx rfl (hb hby at_171) rfl (l' := #[iv p0, iv p1, iv p2, iv p3, iv p4, iv sf, iv ss, iv kd, iv sw, iv fk, iv sk, rv b716, rv b737, rv b716, rv b737, rv b737, iv (0 : Int32)]) rfl ?_
              refine XS.goto X810.here hx rfl (pc0 := 173) (pc' := 216) rfl (hb hby at_173) (by decide) (by decide) ?_
              refine XS.aload X810.here hx rfl (hb hby at_216) rfl rfl ?_
              refine XS.aload X810.here hx rfl (hb hby at_218) rfl rfl ?_
              exact kt)
          have f814 := (f766.keep K771)
          have f815 := (f767.keep K771)
          have f816 := ((((Fa733.ext E737).keep K752 nin0).keep K763 nin0).keep K771 (ninS neb716_b737 nin0))
          have f817 := ((((Fb733.ext E737).keep K752 nin0).keep K763 nin0).keep K771 (ninS neb716_b737 nin0))
          have f818 := ((f759.keep K763).keep K771)
          have f819 := ((((((Fa720.keep K726 nin0).keep K733 (ninS (Ne.symm neb716_ob720) nin0)).ext E737).keep K752 nin0).keep K763 nin0).keep K771 (ninS neob720_b737 nin0))
          have f820 := ((((((Fb720.keep K726 nin0).keep K733 (ninS (Ne.symm neb716_ob720) nin0)).ext E737).keep K752 nin0).keep K763 nin0).keep K771 (ninS neob720_b737 nin0))
          have f821 := ((f760.keep K763 nin0).keep K771 (ninS neb720_b737 nin0))
          have f822 := (f770.keep K771)
          have f823 := ((Fa752.keep K763 nin0).keep K771 (ninS (Ne.symm neb737_ob752) nin0))
          have f824 := ((Fb752.keep K763 nin0).keep K771 (ninS (Ne.symm neb737_ob752) nin0))
          have f825 := ((Vb752.keep K763 nin0).keep K771 (ninS (Ne.symm nvb737_752) nin0))
          have f826 := ((f761.keep K763).keep K771)
          have f827 := (((((Fa726.keep K733 (ninS (Ne.symm neb716_ob726) nin0)).ext E737).keep K752 nin0).keep K763 nin0).keep K771 (ninS neob726_b737 nin0))
          have f828 := (((((Fb726.keep K733 (ninS (Ne.symm neb716_ob726) nin0)).ext E737).keep K752 nin0).keep K763 nin0).keep K771 (ninS neob726_b737 nin0))
          have f829 := ((f762.keep K763 nin0).keep K771 (ninS neb726_b737 nin0))
          have f830 := (Ea763.keep K771)
          have f831 := (Fa763.keep K771 (ninS (Ne.symm neb737_ob763) nin0))
          have f832 := (Fb763.keep K771 (ninS (Ne.symm neb737_ob763) nin0))
          have f833 := (Vb763.keep K771 (ninS (Ne.symm nvb737_763) nin0))
          have f834 := ((f758.keep K763 all0).keep K771 (allS ge_b737 all0))
          obtain ⟨cq835, kq835, q835a, q835b, q835c⟩ := isOf hZ eh810 f814
          obtain ⟨_, _, ⟨T835, L835, k835, n835⟩, -, X835, ⟨Lc835, hQ835, l835, y835, z835⟩, st835⟩ := X810.virtualBack hx (y := (⟨"com/example/inscribe/inscribe/model/Edge", "equals", "(Ljava/lang/Object;)Z"⟩ : MethodName)) (z := (⟨"com/example/inscribe/inscribe/model/Edge", "equals", "(Ljava/lang/Object;)Z"⟩ : MethodName)) hown (mvT hZ (W 61 rfl)) (mvT hZ (W 62 rfl)) (notFace_of_selects (args := #[]) (mvT hZ (W 64 rfl))) (mvT hZ (W 64 rfl)) (mvT hZ (W 63 rfl)) (by decide) (backOf (W := 0) (rm12e l Z a0 hw [] b716 b737 ob720 b720 kb720 p0 ob752 b752 kb752 fk ob726 b726 kb726 p1 ob763 b763 kb763 sk cs T771.heap n0 zs780 f814 f815 neb716_b737 f816 f817 Fa771 Fb771 f818 f819 f820 f821 f822 f823 f824 f825 f826 f827 f828 f829 f830 f831 f832 f833 neob720_ob752 neob726_ob763 SC hcs f834) hZ (W 65 rfl) (W 2 rfl) (by decide) (by decide)) q835a q835c (g := (mkF m 220 #[iv p0, iv p1, iv p2, iv p3, iv p4, iv sf, iv ss, iv kd, iv sw, iv fk, iv sk, rv b716, rv b737, rv b716, rv b737, rv b737, iv (0 : Int32)] [(.ref b737), (.ref b716)])) rfl (by rw [hml]; rfl) (Steps.refl _) (argsL := [(.ref b737)]) (rest := []) (lenOf pd316 rfl) rfl (by show 2 * 0 + _ ≤ _; exact Nat.le_of_eq rfl) (hb hby at_220) (fun _ _ => ⟨rfl, eh810, (by decide : 26 + 0 ≤ _), (by decide : 148 + 0 ≤ _)⟩)
          dsimp only [Pt.U, Pt.locs, Pt.cells, Pt.slots] at X835 l835 y835 z835 st835 hQ835
          subst l835 y835 z835
          obtain ⟨rfl, Nq835, eh835⟩ := hQ835
          have N835 := Fr.app N810 Nq835
          have go836 : own_S p e below ST T835 (mkF m 223 #[iv p0, iv p1, iv p2, iv p3, iv p4, iv sf, iv ss, iv kd, iv sw, iv fk, iv sk, rv b716, rv b737, rv b716, rv b737, rv b737, iv (0 : Int32)] [(.int (own_an p0 fk p1 sk))]) := fun tt kt => go813 tt (st835.trans kt)
          have go837 : own_S p e below ST T835 (mkF m 233 #[iv p0, iv p1, iv p2, iv p3, iv p4, iv sf, iv ss, iv kd, iv sw, iv fk, iv sk, rv b716, rv b737, rv b716, rv b737, rv b737, iv (0 : Int32)] [(.int (1 : Int32))]) := fun tt kt => go836 tt (by
              refine XS.iload X835.here hx rfl (hb hby at_223) rfl ?_
              refine XS.icmpNo X835.here hx rfl (hb hby at_225) rfl (teq (show (own_an p0 fk p1 sk) = (0 : Int32) by rw [own_an, if_neg d0, if_pos d1])).2 ?_
              refine XS.iconst X835.here hx rfl (hb hby at_228) ?_
              refine XS.goto X835.here hx rfl (pc0 := 229) (pc' := 233) rfl (hb hby at_229) (by decide) (by decide) ?_
              exact kt)
          obtain ⟨fs, hr, hrun, hended, hend⟩ := X835.leaveW (s := s) (vm₁ := T771.vm) hS771 (by rw [eh835]; exact hk771) (v := some (.int (1 : Int32))) (fun h => by rw [Bd.returns] at h; cases h) (hlocks := by first | exact BodyLoose.notSynchronized Bd | exact Body.notSynchronized Bd)
          refine ⟨_, _, pre0 _ (go837 _ ?_), hrun, hended, _, _, rfl, ?_, ?_, hend.1, hend.2.1, hend.2.2.1, hend.2.2.2.mono (by decide) (by decide)⟩
          · exact retN X835 hx (t := .boolean) Bd.returns (by simp) (hb hby at_233) hr
          · show Q0 Z p0 p1 p2 p3 p4 cs h0 n0 _ T835.heap _
            rw [eh835]
            exact ⟨rfl, N835⟩
          · show CHr Z own_EL s.vm s.heap T835.vm T835.heap
            exact own_cr hh eh835 (CR771.trans (CHv.at X835 hZ hEL CR771.1))
        · have go838 : own_S p e below ST T810 (mkF m 166 #[iv p0, iv p1, iv p2, iv p3, iv p4, iv sf, iv ss, iv kd, iv sw, iv fk, iv sk, rv b716, rv b737, rv b716, rv b737, rv b737, .unset] []) := fun tt kt => go811 tt (by
              refine XS.ifNo X810.here hx rfl (hb hby at_163) rfl ((if0 _ _).trans (feq d1).1) ?_
              exact kt)
          have go839 : own_S p e below ST T810 (mkF m 220 #[iv p0, iv p1, iv p2, iv p3, iv p4, iv sf, iv ss, iv kd, iv sw, iv fk, iv sk, rv b716, rv b737, rv b716, rv b737, rv b737, iv (1 : Int32)] [(.ref b737), (.ref b716)]) := fun tt kt => go838 tt (by
              refine XS.iconst X810.here hx rfl (hb hby at_166) ?_
              refine XS.goto X810.here hx rfl (pc0 := 167) (pc' := 171) rfl (hb hby at_167) (by decide) (by decide) ?_
              refine XS.istore X810.here hx rfl (hb hby at_171) rfl (l' := #[iv p0, iv p1, iv p2, iv p3, iv p4, iv sf, iv ss, iv kd, iv sw, iv fk, iv sk, rv b716, rv b737, rv b716, rv b737, rv b737, iv (1 : Int32)]) rfl ?_
              refine XS.goto X810.here hx rfl (pc0 := 173) (pc' := 216) rfl (hb hby at_173) (by decide) (by decide) ?_
              refine XS.aload X810.here hx rfl (hb hby at_216) rfl rfl ?_
              refine XS.aload X810.here hx rfl (hb hby at_218) rfl rfl ?_
              exact kt)
          have f840 := (f766.keep K771)
          have f841 := (f767.keep K771)
          have f842 := ((((Fa733.ext E737).keep K752 nin0).keep K763 nin0).keep K771 (ninS neb716_b737 nin0))
          have f843 := ((((Fb733.ext E737).keep K752 nin0).keep K763 nin0).keep K771 (ninS neb716_b737 nin0))
          have f844 := ((f759.keep K763).keep K771)
          have f845 := ((((((Fa720.keep K726 nin0).keep K733 (ninS (Ne.symm neb716_ob720) nin0)).ext E737).keep K752 nin0).keep K763 nin0).keep K771 (ninS neob720_b737 nin0))
          have f846 := ((((((Fb720.keep K726 nin0).keep K733 (ninS (Ne.symm neb716_ob720) nin0)).ext E737).keep K752 nin0).keep K763 nin0).keep K771 (ninS neob720_b737 nin0))
          have f847 := ((f760.keep K763 nin0).keep K771 (ninS neb720_b737 nin0))
          have f848 := (f770.keep K771)
          have f849 := ((Fa752.keep K763 nin0).keep K771 (ninS (Ne.symm neb737_ob752) nin0))
          have f850 := ((Fb752.keep K763 nin0).keep K771 (ninS (Ne.symm neb737_ob752) nin0))
          have f851 := ((Vb752.keep K763 nin0).keep K771 (ninS (Ne.symm nvb737_752) nin0))
          have f852 := ((f761.keep K763).keep K771)
          have f853 := (((((Fa726.keep K733 (ninS (Ne.symm neb716_ob726) nin0)).ext E737).keep K752 nin0).keep K763 nin0).keep K771 (ninS neob726_b737 nin0))
          have f854 := (((((Fb726.keep K733 (ninS (Ne.symm neb716_ob726) nin0)).ext E737).keep K752 nin0).keep K763 nin0).keep K771 (ninS neob726_b737 nin0))
          have f855 := ((f762.keep K763 nin0).keep K771 (ninS neb726_b737 nin0))
          have f856 := (Ea763.keep K771)
          have f857 := (Fa763.keep K771 (ninS (Ne.symm neb737_ob763) nin0))
          have f858 := (Fb763.keep K771 (ninS (Ne.symm neb737_ob763) nin0))
          have f859 := (Vb763.keep K771 (ninS (Ne.symm nvb737_763) nin0))
          have f860 := ((f758.keep K763 all0).keep K771 (allS ge_b737 all0))
          obtain ⟨cq861, kq861, q861a, q861b, q861c⟩ := isOf hZ eh810 f840
          obtain ⟨_, _, ⟨T861, L861, k861, n861⟩, -, X861, ⟨Lc861, hQ861, l861, y861, z861⟩, st861⟩ := X810.virtualBack hx (y := (⟨"com/example/inscribe/inscribe/model/Edge", "equals", "(Ljava/lang/Object;)Z"⟩ : MethodName)) (z := (⟨"com/example/inscribe/inscribe/model/Edge", "equals", "(Ljava/lang/Object;)Z"⟩ : MethodName)) hown (mvT hZ (W 61 rfl)) (mvT hZ (W 62 rfl)) (notFace_of_selects (args := #[]) (mvT hZ (W 64 rfl))) (mvT hZ (W 64 rfl)) (mvT hZ (W 63 rfl)) (by decide) (backOf (W := 0) (rm12e l Z a0 hw [] b716 b737 ob720 b720 kb720 p0 ob752 b752 kb752 fk ob726 b726 kb726 p1 ob763 b763 kb763 sk cs T771.heap n0 zs780 f840 f841 neb716_b737 f842 f843 Fa771 Fb771 f844 f845 f846 f847 f848 f849 f850 f851 f852 f853 f854 f855 f856 f857 f858 f859 neob720_ob752 neob726_ob763 SC hcs f860) hZ (W 65 rfl) (W 2 rfl) (by decide) (by decide)) q861a q861c (g := (mkF m 220 #[iv p0, iv p1, iv p2, iv p3, iv p4, iv sf, iv ss, iv kd, iv sw, iv fk, iv sk, rv b716, rv b737, rv b716, rv b737, rv b737, iv (1 : Int32)] [(.ref b737), (.ref b716)])) rfl (by rw [hml]; rfl) (Steps.refl _) (argsL := [(.ref b737)]) (rest := []) (lenOf pd316 rfl) rfl (by show 2 * 0 + _ ≤ _; exact Nat.le_of_eq rfl) (hb hby at_220) (fun _ _ => ⟨rfl, eh810, (by decide : 26 + 0 ≤ _), (by decide : 148 + 0 ≤ _)⟩)
          dsimp only [Pt.U, Pt.locs, Pt.cells, Pt.slots] at X861 l861 y861 z861 st861 hQ861
          subst l861 y861 z861
          obtain ⟨rfl, Nq861, eh861⟩ := hQ861
          have N861 := Fr.app N810 Nq861
          have go862 : own_S p e below ST T861 (mkF m 223 #[iv p0, iv p1, iv p2, iv p3, iv p4, iv sf, iv ss, iv kd, iv sw, iv fk, iv sk, rv b716, rv b737, rv b716, rv b737, rv b737, iv (1 : Int32)] [(.int (own_an p0 fk p1 sk))]) := fun tt kt => go839 tt (st861.trans kt)
          have go863 : own_S p e below ST T861 (mkF m 233 #[iv p0, iv p1, iv p2, iv p3, iv p4, iv sf, iv ss, iv kd, iv sw, iv fk, iv sk, rv b716, rv b737, rv b716, rv b737, rv b737, iv (1 : Int32)] [(.int (1 : Int32))]) := fun tt kt => go862 tt (by
              refine XS.iload X861.here hx rfl (hb hby at_223) rfl ?_
              refine XS.icmpNo X861.here hx rfl (hb hby at_225) rfl (teq (show (own_an p0 fk p1 sk) = (1 : Int32) by rw [own_an, if_neg d0, if_neg d1])).2 ?_
              refine XS.iconst X861.here hx rfl (hb hby at_228) ?_
              refine XS.goto X861.here hx rfl (pc0 := 229) (pc' := 233) rfl (hb hby at_229) (by decide) (by decide) ?_
              exact kt)
          obtain ⟨fs, hr, hrun, hended, hend⟩ := X861.leaveW (s := s) (vm₁ := T771.vm) hS771 (by rw [eh861]; exact hk771) (v := some (.int (1 : Int32))) (fun h => by rw [Bd.returns] at h; cases h) (hlocks := by first | exact BodyLoose.notSynchronized Bd | exact Body.notSynchronized Bd)
          refine ⟨_, _, pre0 _ (go863 _ ?_), hrun, hended, _, _, rfl, ?_, ?_, hend.1, hend.2.1, hend.2.2.1, hend.2.2.2.mono (by decide) (by decide)⟩
          · exact retN X861 hx (t := .boolean) Bd.returns (by simp) (hb hby at_233) hr
          · show Q0 Z p0 p1 p2 p3 p4 cs h0 n0 _ T861.heap _
            rw [eh861]
            exact ⟨rfl, N861⟩
          · show CHr Z own_EL s.vm s.heap T861.vm T861.heap
            exact own_cr hh eh861 (CR771.trans (CHv.at X861 hZ hEL CR771.1))
    · have go864 : own_S p e below ST T771 (mkF m 176 #[iv p0, iv p1, iv p2, iv p3, iv p4, iv sf, iv ss, iv kd, iv sw, iv fk, iv sk, rv b716, rv b737, rv b716, rv b737, .unset, .unset] []) := fun tt kt => go776 tt (by
          refine XS.ifYes X771.here hx rfl (pc0 := 141) (pc' := 176) rfl (hb hby at_141) rfl ((if0 _ _).trans (feq e0).2) (by decide) (by decide) ?_
          exact kt)
      have go865 : own_S p e below ST T771 (mkF m 179 #[iv p0, iv p1, iv p2, iv p3, iv p4, iv sf, iv ss, iv kd, iv sw, iv fk, iv sk, rv b716, rv b737, rv b716, rv b737, .unset, .unset] [(.int (1 : Int32)), (.int kd)]) := fun tt kt => go864 tt (by
          refine XS.iload X771.here hx rfl (hb hby at_176) rfl ?_
          refine XS.iconst X771.here hx rfl (hb hby at_178) ?_
          exact kt)
      by_cases e1 : kd = (1 : Int32)
      · have go866 : own_S p e below ST T771 (mkF m 182 #[iv p0, iv p1, iv p2, iv p3, iv p4, iv sf, iv ss, iv kd, iv sw, iv fk, iv sk, rv b716, rv b737, rv b716, rv b737, .unset, .unset] []) := fun tt kt => go865 tt (by
            refine XS.icmpNo X771.here hx rfl (hb hby at_179) rfl (teq e1).2 ?_
            exact kt)
        have go867 : own_S p e below ST T771 (mkF m 220 #[iv p0, iv p1, iv p2, iv p3, iv p4, iv sf, iv ss, iv kd, iv sw, iv fk, iv sk, rv b716, rv b737, rv b716, rv b737, rv b716, iv (1 : Int32)] [(.ref b716), (.ref b716)]) := fun tt kt => go866 tt (by
            refine XS.aload X771.here hx rfl (hb hby at_182) rfl rfl ?_
            refine XS.astore X771.here hx rfl (hb hby at_184) rfl rfl (l' := #[iv p0, iv p1, iv p2, iv p3, iv p4, iv sf, iv ss, iv kd, iv sw, iv fk, iv sk, rv b716, rv b737, rv b716, rv b737, rv b716, .unset]) rfl ?_
            refine XS.iconst X771.here hx rfl (hb hby at_186) ?_
            refine XS.istore X771.here hx rfl (hb hby at_187) rfl (l' := #[iv p0, iv p1, iv p2, iv p3, iv p4, iv sf, iv ss, iv kd, iv sw, iv fk, iv sk, rv b716, rv b737, rv b716, rv b737, rv b716, iv (1 : Int32)]) rfl ?_
            refine XS.goto X771.here hx rfl (pc0 := 189) (pc' := 216) rfl (hb hby at_189) (by decide) (by decide) ?_
            refine XS.aload X771.here hx rfl (hb hby at_216) rfl rfl ?_
            show Steps p.tables e below (T771.setTop (mkF m 218 #[iv p0, iv p1, iv p2, iv p3, iv p4, iv sf, iv ss, iv kd, iv sw, iv fk, iv sk, rv b716, rv b737, rv b716, rv b737, rv b716, iv (1 : Int32)] [(.ref b716)])) _
            refine XS.aload X771.here hx rfl (hb hby at_218) rfl rfl ?_
            exact kt)
        have zs869 := (Nat.le_trans zs772 K771.1)
        have f870 := (f766.keep K771)
        obtain ⟨cq868, kq868, q868a, q868b, q868c⟩ := isOf hZ rfl f870
        obtain ⟨_, _, ⟨T868, L868, k868, n868⟩, -, X868, ⟨Lc868, hQ868, l868, y868, z868⟩, st868⟩ := X771.virtualBack hx (y := (⟨"com/example/inscribe/inscribe/model/Edge", "equals", "(Ljava/lang/Object;)Z"⟩ : MethodName)) (z := (⟨"com/example/inscribe/inscribe/model/Edge", "equals", "(Ljava/lang/Object;)Z"⟩ : MethodName)) hown (mvT hZ (W 61 rfl)) (mvT hZ (W 62 rfl)) (notFace_of_selects (args := #[]) (mvT hZ (W 64 rfl))) (mvT hZ (W 64 rfl)) (mvT hZ (W 63 rfl)) (by decide) (backOf (W := 0) (rm12s l Z a0 hw [] b716 T771.heap n0 zs869 ) hZ (W 65 rfl) (W 2 rfl) (by decide) (by decide)) q868a q868c (g := (mkF m 220 #[iv p0, iv p1, iv p2, iv p3, iv p4, iv sf, iv ss, iv kd, iv sw, iv fk, iv sk, rv b716, rv b737, rv b716, rv b737, rv b716, iv (1 : Int32)] [(.ref b716), (.ref b716)])) rfl (by rw [hml]; rfl) (Steps.refl _) (argsL := [(.ref b716)]) (rest := []) (lenOf pd316 rfl) rfl (by show 2 * 0 + _ ≤ _; exact Nat.le_of_eq rfl) (hb hby at_220) (fun _ _ => ⟨rfl, rfl, (by decide : 26 + 0 ≤ _), (by decide : 148 + 0 ≤ _)⟩)
        dsimp only [Pt.U, Pt.locs, Pt.cells, Pt.slots] at X868 l868 y868 z868 st868 hQ868
        subst l868 y868 z868
        obtain ⟨rfl, Nq868, eh868⟩ := hQ868
        have N868 := Fr.app N771 Nq868
        have go871 : own_S p e below ST T868 (mkF m 223 #[iv p0, iv p1, iv p2, iv p3, iv p4, iv sf, iv ss, iv kd, iv sw, iv fk, iv sk, rv b716, rv b737, rv b716, rv b737, rv b716, iv (1 : Int32)] [(.int (1 : Int32))]) := fun tt kt => go867 tt (st868.trans kt)
        have go872 : own_S p e below ST T868 (mkF m 233 #[iv p0, iv p1, iv p2, iv p3, iv p4, iv sf, iv ss, iv kd, iv sw, iv fk, iv sk, rv b716, rv b737, rv b716, rv b737, rv b716, iv (1 : Int32)] [(.int (1 : Int32))]) := fun tt kt => go871 tt (by
            refine XS.iload X868.here hx rfl (hb hby at_223) rfl ?_
            refine XS.icmpNo X868.here hx rfl (hb hby at_225) rfl (teq (by decide : (1 : Int32) = (1 : Int32))).2 ?_
            refine XS.iconst X868.here hx rfl (hb hby at_228) ?_
            refine XS.goto X868.here hx rfl (pc0 := 229) (pc' := 233) rfl (hb hby at_229) (by decide) (by decide) ?_
            exact kt)
        obtain ⟨fs, hr, hrun, hended, hend⟩ := X868.leaveW (s := s) (vm₁ := T771.vm) hS771 (by rw [eh868]; exact hk771) (v := some (.int (1 : Int32))) (fun h => by rw [Bd.returns] at h; cases h) (hlocks := by first | exact BodyLoose.notSynchronized Bd | exact Body.notSynchronized Bd)
        refine ⟨_, _, pre0 _ (go872 _ ?_), hrun, hended, _, _, rfl, ?_, ?_, hend.1, hend.2.1, hend.2.2.1, hend.2.2.2.mono (by decide) (by decide)⟩
        · exact retN X868 hx (t := .boolean) Bd.returns (by simp) (hb hby at_233) hr
        · show Q0 Z p0 p1 p2 p3 p4 cs h0 n0 _ T868.heap _
          rw [eh868]
          exact ⟨rfl, N868⟩
        · show CHr Z own_EL s.vm s.heap T868.vm T868.heap
          exact own_cr hh eh868 (CR771.trans (CHv.at X868 hZ hEL CR771.1))
      · have go873 : own_S p e below ST T771 (mkF m 192 #[iv p0, iv p1, iv p2, iv p3, iv p4, iv sf, iv ss, iv kd, iv sw, iv fk, iv sk, rv b716, rv b737, rv b716, rv b737, .unset, .unset] []) := fun tt kt => go865 tt (by
            refine XS.icmpYes X771.here hx rfl (pc0 := 179) (pc' := 192) rfl (hb hby at_179) rfl (feq e1).2 (by decide) (by decide) ?_
            exact kt)
        have go874 : own_S p e below ST T771 (mkF m 195 #[iv p0, iv p1, iv p2, iv p3, iv p4, iv sf, iv ss, iv kd, iv sw, iv fk, iv sk, rv b716, rv b737, rv b716, rv b737, .unset, .unset] [(.int (2 : Int32)), (.int kd)]) := fun tt kt => go873 tt (by
            refine XS.iload X771.here hx rfl (hb hby at_192) rfl ?_
            refine XS.iconst X771.here hx rfl (hb hby at_194) ?_
            exact kt)
        by_cases e2 : kd = (2 : Int32)
        · have go875 : own_S p e below ST T771 (mkF m 198 #[iv p0, iv p1, iv p2, iv p3, iv p4, iv sf, iv ss, iv kd, iv sw, iv fk, iv sk, rv b716, rv b737, rv b716, rv b737, .unset, .unset] []) := fun tt kt => go874 tt (by
              refine XS.icmpNo X771.here hx rfl (hb hby at_195) rfl (teq e2).2 ?_
              exact kt)
          have go876 : own_S p e below ST T771 (mkF m 220 #[iv p0, iv p1, iv p2, iv p3, iv p4, iv sf, iv ss, iv kd, iv sw, iv fk, iv sk, rv b716, rv b737, rv b716, rv b737, .val .null, iv (0 : Int32)] [.null, (.ref b716)]) := fun tt kt => go875 tt (by
              refine XS.aconstNull X771.here hx rfl (hb hby at_198) ?_
              refine XS.astore X771.here hx rfl (hb hby at_199) rfl rfl (l' := #[iv p0, iv p1, iv p2, iv p3, iv p4, iv sf, iv ss, iv kd, iv sw, iv fk, iv sk, rv b716, rv b737, rv b716, rv b737, .val .null, .unset]) rfl ?_
              refine XS.iconst X771.here hx rfl (hb hby at_201) ?_
              refine XS.istore X771.here hx rfl (hb hby at_202) rfl (l' := #[iv p0, iv p1, iv p2, iv p3, iv p4, iv sf, iv ss, iv kd, iv sw, iv fk, iv sk, rv b716, rv b737, rv b716, rv b737, .val .null, iv (0 : Int32)]) rfl ?_
              refine XS.goto X771.here hx rfl (pc0 := 204) (pc' := 216) rfl (hb hby at_204) (by decide) (by decide) ?_
              refine XS.aload X771.here hx rfl (hb hby at_216) rfl rfl ?_
              show Steps p.tables e below (T771.setTop (mkF m 218 #[iv p0, iv p1, iv p2, iv p3, iv p4, iv sf, iv ss, iv kd, iv sw, iv fk, iv sk, rv b716, rv b737, rv b716, rv b737, .val .null, iv (0 : Int32)] [(.ref b716)])) _
              refine XS.aload X771.here hx rfl (hb hby at_218) rfl rfl ?_
              exact kt)
          have zs878 := (Nat.le_trans zs772 K771.1)
          have f879 := (f766.keep K771)
          obtain ⟨cq877, kq877, q877a, q877b, q877c⟩ := isOf hZ rfl f879
          obtain ⟨_, _, ⟨T877, L877, k877, n877⟩, -, X877, ⟨Lc877, hQ877, l877, y877, z877⟩, st877⟩ := X771.virtualBack hx (y := (⟨"com/example/inscribe/inscribe/model/Edge", "equals", "(Ljava/lang/Object;)Z"⟩ : MethodName)) (z := (⟨"com/example/inscribe/inscribe/model/Edge", "equals", "(Ljava/lang/Object;)Z"⟩ : MethodName)) hown (mvT hZ (W 61 rfl)) (mvT hZ (W 62 rfl)) (notFace_of_selects (args := #[]) (mvT hZ (W 64 rfl))) (mvT hZ (W 64 rfl)) (mvT hZ (W 63 rfl)) (by decide) (backOf (W := 0) (rm12n l Z a0 hw [] b716 T771.heap n0 zs878 ) hZ (W 65 rfl) (W 2 rfl) (by decide) (by decide)) q877a q877c (g := (mkF m 220 #[iv p0, iv p1, iv p2, iv p3, iv p4, iv sf, iv ss, iv kd, iv sw, iv fk, iv sk, rv b716, rv b737, rv b716, rv b737, .val .null, iv (0 : Int32)] [.null, (.ref b716)])) rfl (by rw [hml]; rfl) (Steps.refl _) (argsL := [.null]) (rest := []) (lenOf pd316 rfl) rfl (by show 2 * 0 + _ ≤ _; exact Nat.le_of_eq rfl) (hb hby at_220) (fun _ _ => ⟨rfl, rfl, (by decide : 26 + 0 ≤ _), (by decide : 148 + 0 ≤ _)⟩)
          dsimp only [Pt.U, Pt.locs, Pt.cells, Pt.slots] at X877 l877 y877 z877 st877 hQ877
          subst l877 y877 z877
          obtain ⟨rfl, Nq877, eh877⟩ := hQ877
          have N877 := Fr.app N771 Nq877
          have go880 : own_S p e below ST T877 (mkF m 223 #[iv p0, iv p1, iv p2, iv p3, iv p4, iv sf, iv ss, iv kd, iv sw, iv fk, iv sk, rv b716, rv b737, rv b716, rv b737, .val .null, iv (0 : Int32)] [(.int (0 : Int32))]) := fun tt kt => go876 tt (st877.trans kt)
          have go881 : own_S p e below ST T877 (mkF m 233 #[iv p0, iv p1, iv p2, iv p3, iv p4, iv sf, iv ss, iv kd, iv sw, iv fk, iv sk, rv b716, rv b737, rv b716, rv b737, .val .null, iv (0 : Int32)] [(.int (1 : Int32))]) := fun tt kt => go880 tt (by
              refine XS.iload X877.here hx rfl (hb hby at_223) rfl ?_
              refine XS.icmpNo X877.here hx rfl (hb hby at_225) rfl (teq (by decide : (0 : Int32) = (0 : Int32))).2 ?_
              refine XS.iconst X877.here hx rfl (hb hby at_228) ?_
              refine XS.goto X877.here hx rfl (pc0 := 229) (pc' := 233) rfl (hb hby at_229) (by decide) (by decide) ?_
              exact kt)
          obtain ⟨fs, hr, hrun, hended, hend⟩ := X877.leaveW (s := s) (vm₁ := T771.vm) hS771 (by rw [eh877]; exact hk771) (v := some (.int (1 : Int32))) (fun h => by rw [Bd.returns] at h; cases h) (hlocks := by first | exact BodyLoose.notSynchronized Bd | exact Body.notSynchronized Bd)
          refine ⟨_, _, pre0 _ (go881 _ ?_), hrun, hended, _, _, rfl, ?_, ?_, hend.1, hend.2.1, hend.2.2.1, hend.2.2.2.mono (by decide) (by decide)⟩
          · exact retN X877 hx (t := .boolean) Bd.returns (by simp) (hb hby at_233) hr
          · show Q0 Z p0 p1 p2 p3 p4 cs h0 n0 _ T877.heap _
            rw [eh877]
            exact ⟨rfl, N877⟩
          · show CHr Z own_EL s.vm s.heap T877.vm T877.heap
            exact own_cr hh eh877 (CR771.trans (CHv.at X877 hZ hEL CR771.1))
        · have go882 : own_S p e below ST T771 (mkF m 207 #[iv p0, iv p1, iv p2, iv p3, iv p4, iv sf, iv ss, iv kd, iv sw, iv fk, iv sk, rv b716, rv b737, rv b716, rv b737, .unset, .unset] []) := fun tt kt => go874 tt (by
              refine XS.icmpYes X771.here hx rfl (pc0 := 195) (pc' := 207) rfl (hb hby at_195) rfl (feq e2).2 (by decide) (by decide) ?_
              exact kt)
          have go883 : own_S p e below ST T771 (mkF m 208 #[iv p0, iv p1, iv p2, iv p3, iv p4, iv sf, iv ss, iv kd, iv sw, iv fk, iv sk, rv b716, rv b737, rv b716, rv b737, .unset, .unset] [(.int p0)]) := fun tt kt => go882 tt (by
              refine XS.iloadN X771.here hx rfl (hb hby at_207) rfl ?_
              exact kt)
          have f884 := ((f758.keep K763 all0).keep K771 (allS ge_b737 all0))
          have f885 := (f766.keep K771)
          have f886 := ((f759.keep K763).keep K771)
          have f887 := ((f760.keep K763 nin0).keep K771 (ninS neb720_b737 nin0))
          have f888 := ((f761.keep K763).keep K771)
          have f889 := ((f762.keep K763 nin0).keep K771 (ninS neb726_b737 nin0))
          have f890 := (f767.keep K771)
          have f891 := (f770.keep K771)
          have f892 := ((Vb752.keep K763 nin0).keep K771 (ninS (Ne.symm nvb737_752) nin0))
          have f893 := (Ea763.keep K771)
          have f894 := (Vb763.keep K771 (ninS (Ne.symm nvb737_763) nin0))
          have zs896 := (Nat.le_trans zs772 K771.1)
          obtain ⟨_, _, ⟨T895, L895, k895, n895⟩, -, X895, S895, g895, ⟨Lc895, hQ895, l895, y895, z895, C895⟩, st895⟩ := callSS X771 hx (y := (⟨"com/example/inscribe/inscribe/model/EdgeEqualsPinLaw", "mk", "(I)Ljava/lang/String;"⟩ : MethodName)) hown (mvT hZ (W 3 rfl)) (mvT hZ (W 4 rfl)) (mvT hZ (W 5 rfl)) (mvT hZ (W 6 rfl)) (by decide) (backOfSH (s := s) (vm0 := T771.vm) (W := 0) (rm1 l Z a0 hw [] p0 cs T771.heap n0 zs896 SC hcs f884) hZ (W 6 rfl) (W 5 rfl) (by decide) (by decide) hEL CR771.1) (g := (mkF m 208 #[iv p0, iv p1, iv p2, iv p3, iv p4, iv sf, iv ss, iv kd, iv sw, iv fk, iv sk, rv b716, rv b737, rv b716, rv b737, .unset, .unset] [(.int p0)])) rfl (by rw [hml]; rfl) (argsL := [(.int p0)]) (rest := []) (lenOf pd328 rfl) rfl (by show 2 * 0 + _ ≤ _; exact Nat.le_of_eq rfl) (hb hby at_208) (fun _ _ => ⟨rfl, rfl, (by decide : 26 + 4 ≤ _), (by decide : 148 + 10 ≤ _)⟩)
          dsimp only [Pt.U, Pt.locs, Pt.cells, Pt.slots] at X895 S895 g895 l895 y895 z895 C895 st895 hQ895
          subst l895 y895 z895
          obtain ⟨b895, ob895, kb895, rfl, Nq895, K895, Ea895, Fa895, Fb895, Vb895, go895, zo895⟩ := hQ895
          obtain ⟨X895, hS895, hZ, hown⟩ := rebS hS771 (by exact hk771) X895 S895 g895 hZ hown
          have hk895 : T895.heap.size ≤ T895.heap.size := Nat.le_refl _
          have N895 := Fr.app N771 Nq895
          have CR895 := CR771.trans (C895)
          have go897 : own_S p e below ST T895 (mkF m 211 #[iv p0, iv p1, iv p2, iv p3, iv p4, iv sf, iv ss, iv kd, iv sw, iv fk, iv sk, rv b716, rv b737, rv b716, rv b737, .unset, .unset] [(.ref ob895)]) := fun tt kt => go883 tt (st895.trans kt)
          have f898 := (f885.keep K895)
          have nvb716_895 : b716 ≠ b895 := Exa.neArv f898 Vb895 (W 1 rfl)
          have f899 := (f890.keep K895)
          have nvb737_895 : b737 ≠ b895 := Exa.neArv f899 Vb895 (W 1 rfl)
          have neb716_ob895 : b716 ≠ ob895 := Nat.ne_of_lt (Nat.lt_of_lt_of_le f885.lt zo895)
          have neob720_ob895 : ob720 ≠ ob895 := Nat.ne_of_lt (Nat.lt_of_lt_of_le f886.lt zo895)
          have neb720_ob895 : b720 ≠ ob895 := Nat.ne_of_lt (Nat.lt_of_lt_of_le f887.lt zo895)
          have neob726_ob895 : ob726 ≠ ob895 := Nat.ne_of_lt (Nat.lt_of_lt_of_le f888.lt zo895)
          have neb726_ob895 : b726 ≠ ob895 := Nat.ne_of_lt (Nat.lt_of_lt_of_le f889.lt zo895)
          have neb737_ob895 : b737 ≠ ob895 := Nat.ne_of_lt (Nat.lt_of_lt_of_le f890.lt zo895)
          have neob752_ob895 : ob752 ≠ ob895 := Nat.ne_of_lt (Nat.lt_of_lt_of_le f891.lt zo895)
          have neb752_ob895 : b752 ≠ ob895 := Nat.ne_of_lt (Nat.lt_of_lt_of_le f892.lt zo895)
          have neob763_ob895 : ob763 ≠ ob895 := Nat.ne_of_lt (Nat.lt_of_lt_of_le f893.lt zo895)
          have neb763_ob895 : b763 ≠ ob895 := Nat.ne_of_lt (Nat.lt_of_lt_of_le f894.lt zo895)
          have go900 : own_S p e below ST T895 (mkF m 220 #[iv p0, iv p1, iv p2, iv p3, iv p4, iv sf, iv ss, iv kd, iv sw, iv fk, iv sk, rv b716, rv b737, rv b716, rv b737, rv ob895, iv (0 : Int32)] [(.ref ob895), (.ref b716)]) := fun tt kt => go897 tt (by
              refine XS.astore X895.here hx rfl (hb hby at_211) rfl rfl (l' := #[iv p0, iv p1, iv p2, iv p3, iv p4, iv sf, iv ss, iv kd, iv sw, iv fk, iv sk, rv b716, rv b737, rv b716, rv b737, rv ob895, .unset]) rfl ?_
              refine XS.iconst X895.here hx rfl (hb hby at_213) ?_
              refine XS.istore X895.here hx rfl (hb hby at_214) rfl (l' := #[iv p0, iv p1, iv p2, iv p3, iv p4, iv sf, iv ss, iv kd, iv sw, iv fk, iv sk, rv b716, rv b737, rv b716, rv b737, rv ob895, iv (0 : Int32)]) rfl ?_
              refine XS.aload X895.here hx rfl (hb hby at_216) rfl rfl ?_
              refine XS.aload X895.here hx rfl (hb hby at_218) rfl rfl ?_
              exact kt)
          have zs902 := (Nat.le_trans zs896 K895.1)
          obtain ⟨cq901, kq901, q901a, q901b, q901c⟩ := isOf hZ rfl f898
          obtain ⟨_, _, ⟨T901, L901, k901, n901⟩, -, X901, ⟨Lc901, hQ901, l901, y901, z901⟩, st901⟩ := X895.virtualBack hx (y := (⟨"com/example/inscribe/inscribe/model/Edge", "equals", "(Ljava/lang/Object;)Z"⟩ : MethodName)) (z := (⟨"com/example/inscribe/inscribe/model/Edge", "equals", "(Ljava/lang/Object;)Z"⟩ : MethodName)) hown (mvT hZ (W 61 rfl)) (mvT hZ (W 62 rfl)) (notFace_of_selects (args := #[]) (mvT hZ (W 64 rfl))) (mvT hZ (W 64 rfl)) (mvT hZ (W 63 rfl)) (by decide) (backOf (W := 0) (rm12t l Z a0 hw [] b716 ob895 T895.heap n0 zs902 Ea895 neb716_ob895) hZ (W 65 rfl) (W 2 rfl) (by decide) (by decide)) q901a q901c (g := (mkF m 220 #[iv p0, iv p1, iv p2, iv p3, iv p4, iv sf, iv ss, iv kd, iv sw, iv fk, iv sk, rv b716, rv b737, rv b716, rv b737, rv ob895, iv (0 : Int32)] [(.ref ob895), (.ref b716)])) rfl (by rw [hml]; rfl) (Steps.refl _) (argsL := [(.ref ob895)]) (rest := []) (lenOf pd316 rfl) rfl (by show 2 * 0 + _ ≤ _; exact Nat.le_of_eq rfl) (hb hby at_220) (fun _ _ => ⟨rfl, rfl, (by decide : 30 + 0 ≤ _), (by decide : 158 + 0 ≤ _)⟩)
          dsimp only [Pt.U, Pt.locs, Pt.cells, Pt.slots] at X901 l901 y901 z901 st901 hQ901
          subst l901 y901 z901
          obtain ⟨rfl, Nq901, eh901⟩ := hQ901
          have N901 := Fr.app N895 Nq901
          have go903 : own_S p e below ST T901 (mkF m 223 #[iv p0, iv p1, iv p2, iv p3, iv p4, iv sf, iv ss, iv kd, iv sw, iv fk, iv sk, rv b716, rv b737, rv b716, rv b737, rv ob895, iv (0 : Int32)] [(.int (0 : Int32))]) := fun tt kt => go900 tt (st901.trans kt)
          have go904 : own_S p e below ST T901 (mkF m 233 #[iv p0, iv p1, iv p2, iv p3, iv p4, iv sf, iv ss, iv kd, iv sw, iv fk, iv sk, rv b716, rv b737, rv b716, rv b737, rv ob895, iv (0 : Int32)] [(.int (1 : Int32))]) := fun tt kt => go903 tt (by
              refine XS.iload X901.here hx rfl (hb hby at_223) rfl ?_
              refine XS.icmpNo X901.here hx rfl (hb hby at_225) rfl (teq (by decide : (0 : Int32) = (0 : Int32))).2 ?_
              refine XS.iconst X901.here hx rfl (hb hby at_228) ?_
              refine XS.goto X901.here hx rfl (pc0 := 229) (pc' := 233) rfl (hb hby at_229) (by decide) (by decide) ?_
              exact kt)
          obtain ⟨fs, hr, hrun, hended, hend⟩ := X901.leaveW (s := s) (vm₁ := T895.vm) hS895 (by rw [eh901]; exact hk895) (v := some (.int (1 : Int32))) (fun h => by rw [Bd.returns] at h; cases h) (hlocks := by first | exact BodyLoose.notSynchronized Bd | exact Body.notSynchronized Bd)
          refine ⟨_, _, pre0 _ (go904 _ ?_), hrun, hended, _, _, rfl, ?_, ?_, hend.1, hend.2.1, hend.2.2.1, hend.2.2.2.mono (by decide) (by decide)⟩
          · exact retN X901 hx (t := .boolean) Bd.returns (by simp) (hb hby at_233) hr
          · show Q0 Z p0 p1 p2 p3 p4 cs h0 n0 _ T901.heap _
            rw [eh901]
            exact ⟨rfl, N901⟩
          · show CHr Z own_EL s.vm s.heap T901.vm T901.heap
            exact own_cr hh eh901 (CR895.trans (CHv.at X901 hZ hEL CR895.1))
  · have go905 : own_S p e below ST T771 (mkF m 116 #[iv p0, iv p1, iv p2, iv p3, iv p4, iv sf, iv ss, iv kd, iv sw, iv fk, iv sk, rv b716, rv b737, .unset, .unset, .unset, .unset] []) := fun tt kt => go774 tt (by
        refine XS.ifNo X771.here hx rfl (hb hby at_113) rfl ((if0 _ _).trans (feq hsw).1) ?_
        exact kt)
    have go906 : own_S p e below ST T771 (mkF m 141 #[iv p0, iv p1, iv p2, iv p3, iv p4, iv sf, iv ss, iv kd, iv sw, iv fk, iv sk, rv b716, rv b737, rv b737, rv b716, .unset, .unset] [(.int kd)]) := fun tt kt => go905 tt (by
        refine XS.aload X771.here hx rfl (hb hby at_116) rfl rfl ?_
        refine XS.goto X771.here hx rfl (pc0 := 118) (pc' := 123) rfl (hb hby at_118) (by decide) (by decide) ?_
        refine XS.astore X771.here hx rfl (hb hby at_123) rfl rfl (l' := #[iv p0, iv p1, iv p2, iv p3, iv p4, iv sf, iv ss, iv kd, iv sw, iv fk, iv sk, rv b716, rv b737, rv b737, .unset, .unset, .unset]) rfl ?_
        refine XS.iload X771.here hx rfl (hb hby at_125) rfl ?_
        refine XS.ifNo X771.here hx rfl (hb hby at_127) rfl ((if0 _ _).trans (feq hsw).1) ?_
        refine XS.aload X771.here hx rfl (hb hby at_130) rfl rfl ?_
        show Steps p.tables e below (T771.setTop (mkF m 132 #[iv p0, iv p1, iv p2, iv p3, iv p4, iv sf, iv ss, iv kd, iv sw, iv fk, iv sk, rv b716, rv b737, rv b737, .unset, .unset, .unset] [(.ref b716)])) _
        refine XS.goto X771.here hx rfl (pc0 := 132) (pc' := 137) rfl (hb hby at_132) (by decide) (by decide) ?_
        refine XS.astore X771.here hx rfl (hb hby at_137) rfl rfl (l' := #[iv p0, iv p1, iv p2, iv p3, iv p4, iv sf, iv ss, iv kd, iv sw, iv fk, iv sk, rv b716, rv b737, rv b737, rv b716, .unset, .unset]) rfl ?_
        refine XS.iload X771.here hx rfl (hb hby at_139) rfl ?_
        exact kt)
    by_cases e0 : kd = (0 : Int32)
    · have go907 : own_S p e below ST T771 (mkF m 144 #[iv p0, iv p1, iv p2, iv p3, iv p4, iv sf, iv ss, iv kd, iv sw, iv fk, iv sk, rv b716, rv b737, rv b737, rv b716, .unset, .unset] []) := fun tt kt => go906 tt (by
          refine XS.ifNo X771.here hx rfl (hb hby at_141) rfl ((if0 _ _).trans (teq e0).2) ?_
          exact kt)
      have go908 : own_S p e below ST T771 (mkF m 151 #[iv p0, iv p1, iv p2, iv p3, iv p4, iv sf, iv ss, iv kd, iv sw, iv fk, iv sk, rv b716, rv b737, rv b737, rv b716, rv b716, .unset] [(.int fk), (.int p0)]) := fun tt kt => go907 tt (by
          refine XS.aload X771.here hx rfl (hb hby at_144) rfl rfl ?_
          refine XS.astore X771.here hx rfl (hb hby at_146) rfl rfl (l' := #[iv p0, iv p1, iv p2, iv p3, iv p4, iv sf, iv ss, iv kd, iv sw, iv fk, iv sk, rv b716, rv b737, rv b737, rv b716, rv b716, .unset]) rfl ?_
          refine XS.iloadN X771.here hx rfl (hb hby at_148) rfl ?_
          refine XS.iload X771.here hx rfl (hb hby at_149) rfl ?_
          exact kt)
      have zs910 := (Nat.le_trans zs772 K771.1)
      obtain ⟨_, _, ⟨T909, L909, k909, n909⟩, -, X909, ⟨Lc909, hQ909, l909, y909, z909⟩, st909⟩ := Jvm.LawKit.callS X771 hx (y := (⟨"com/example/inscribe/inscribe/model/EdgeEqualsPinLaw", "sameKey", "(II)Z"⟩ : MethodName)) hown (mvT hZ (W 58 rfl)) (mvT hZ (W 59 rfl)) (mvT hZ (W 5 rfl)) (mvT hZ (W 60 rfl)) (by decide) (backOf (W := 0) (rmSK l Z a0 hw [] p0 fk T771.heap n0 zs910 ) hZ (W 60 rfl) (W 5 rfl) (by decide) (by decide)) (g := (mkF m 151 #[iv p0, iv p1, iv p2, iv p3, iv p4, iv sf, iv ss, iv kd, iv sw, iv fk, iv sk, rv b716, rv b737, rv b737, rv b716, rv b716, .unset] [(.int fk), (.int p0)])) rfl (by rw [hml]; rfl) (argsL := [(.int p0), (.int fk)]) (rest := []) (lenOf pd330 rfl) rfl (by show 2 * 0 + _ ≤ _; exact Nat.le_of_eq rfl) (hb hby at_151) (fun _ _ => ⟨rfl, rfl, (by decide : 26 + 0 ≤ _), (by decide : 148 + 0 ≤ _)⟩)
      dsimp only [Pt.U, Pt.locs, Pt.cells, Pt.slots] at X909 l909 y909 z909 st909 hQ909
      subst l909 y909 z909
      obtain ⟨rfl, Nq909, eh909⟩ := hQ909
      have N909 := Fr.app N771 Nq909
      have go911 : own_S p e below ST T909 (mkF m 154 #[iv p0, iv p1, iv p2, iv p3, iv p4, iv sf, iv ss, iv kd, iv sw, iv fk, iv sk, rv b716, rv b737, rv b737, rv b716, rv b716, .unset] [(.int (own_ke p0 fk))]) := fun tt kt => go908 tt (st909 _ kt)
      by_cases d0 : (own_ke p0 fk) = (0 : Int32)
      · have go912 : own_S p e below ST T909 (mkF m 170 #[iv p0, iv p1, iv p2, iv p3, iv p4, iv sf, iv ss, iv kd, iv sw, iv fk, iv sk, rv b716, rv b737, rv b737, rv b716, rv b716, .unset] []) := fun tt kt => go911 tt (by
            refine XS.ifYes X909.here hx rfl (pc0 := 154) (pc' := 170) rfl (hb hby at_154) rfl ((if0 _ _).trans (teq d0).1) (by decide) (by decide) ?_
            exact kt)
        have go913 : own_S p e below ST T909 (mkF m 220 #[iv p0, iv p1, iv p2, iv p3, iv p4, iv sf, iv ss, iv kd, iv sw, iv fk, iv sk, rv b716, rv b737, rv b737, rv b716, rv b716, iv (0 : Int32)] [(.ref b716), (.ref b737)]) := fun tt kt => go912 tt (by
            refine XS.iconst X909.here hx rfl (hb hby at_170) ?_
            refine XS.istore X909.here hx rfl (hb hby at_171) rfl (l' := #[iv p0, iv p1, iv p2, iv p3, iv p4, iv sf, iv ss, iv kd, iv sw, iv fk, iv sk, rv b716, rv b737, rv b737, rv b716, rv b716, iv (0 : Int32)]) rfl ?_
            refine XS.goto X909.here hx rfl (pc0 := 173) (pc' := 216) rfl (hb hby at_173) (by decide) (by decide) ?_
            refine XS.aload X909.here hx rfl (hb hby at_216) rfl rfl ?_
            refine XS.aload X909.here hx rfl (hb hby at_218) rfl rfl ?_
            exact kt)
        have f914 := (f767.keep K771)
        have f915 := (f766.keep K771)
        have f916 := ((((Fa733.ext E737).keep K752 nin0).keep K763 nin0).keep K771 (ninS neb716_b737 nin0))
        have f917 := ((((Fb733.ext E737).keep K752 nin0).keep K763 nin0).keep K771 (ninS neb716_b737 nin0))
        have f918 := (f770.keep K771)
        have f919 := ((Fa752.keep K763 nin0).keep K771 (ninS (Ne.symm neb737_ob752) nin0))
        have f920 := ((Fb752.keep K763 nin0).keep K771 (ninS (Ne.symm neb737_ob752) nin0))
        have f921 := ((Vb752.keep K763 nin0).keep K771 (ninS (Ne.symm nvb737_752) nin0))
        have f922 := ((f759.keep K763).keep K771)
        have f923 := ((((((Fa720.keep K726 nin0).keep K733 (ninS (Ne.symm neb716_ob720) nin0)).ext E737).keep K752 nin0).keep K763 nin0).keep K771 (ninS neob720_b737 nin0))
        have f924 := ((((((Fb720.keep K726 nin0).keep K733 (ninS (Ne.symm neb716_ob720) nin0)).ext E737).keep K752 nin0).keep K763 nin0).keep K771 (ninS neob720_b737 nin0))
        have f925 := ((f760.keep K763 nin0).keep K771 (ninS neb720_b737 nin0))
        have f926 := (Ea763.keep K771)
        have f927 := (Fa763.keep K771 (ninS (Ne.symm neb737_ob763) nin0))
        have f928 := (Fb763.keep K771 (ninS (Ne.symm neb737_ob763) nin0))
        have f929 := (Vb763.keep K771 (ninS (Ne.symm nvb737_763) nin0))
        have f930 := ((f761.keep K763).keep K771)
        have f931 := (((((Fa726.keep K733 (ninS (Ne.symm neb716_ob726) nin0)).ext E737).keep K752 nin0).keep K763 nin0).keep K771 (ninS neob726_b737 nin0))
        have f932 := (((((Fb726.keep K733 (ninS (Ne.symm neb716_ob726) nin0)).ext E737).keep K752 nin0).keep K763 nin0).keep K771 (ninS neob726_b737 nin0))
        have f933 := ((f762.keep K763 nin0).keep K771 (ninS neb726_b737 nin0))
        have f934 := ((f758.keep K763 all0).keep K771 (allS ge_b737 all0))
        obtain ⟨cq935, kq935, q935a, q935b, q935c⟩ := isOf hZ eh909 f914
        obtain ⟨_, _, ⟨T935, L935, k935, n935⟩, -, X935, ⟨Lc935, hQ935, l935, y935, z935⟩, st935⟩ := X909.virtualBack hx (y := (⟨"com/example/inscribe/inscribe/model/Edge", "equals", "(Ljava/lang/Object;)Z"⟩ : MethodName)) (z := (⟨"com/example/inscribe/inscribe/model/Edge", "equals", "(Ljava/lang/Object;)Z"⟩ : MethodName)) hown (mvT hZ (W 61 rfl)) (mvT hZ (W 62 rfl)) (notFace_of_selects (args := #[]) (mvT hZ (W 64 rfl))) (mvT hZ (W 64 rfl)) (mvT hZ (W 63 rfl)) (by decide) (backOf (W := 0) (rm12e l Z a0 hw [] b737 b716 ob752 b752 kb752 fk ob720 b720 kb720 p0 ob763 b763 kb763 sk ob726 b726 kb726 p1 cs T771.heap n0 zs910 f914 f915 (Ne.symm neb716_b737) Fa771 Fb771 f916 f917 f918 f919 f920 f921 f922 f923 f924 f925 f926 f927 f928 f929 f930 f931 f932 f933 (Ne.symm neob720_ob752) (Ne.symm neob726_ob763) SC hcs f934) hZ (W 65 rfl) (W 2 rfl) (by decide) (by decide)) q935a q935c (g := (mkF m 220 #[iv p0, iv p1, iv p2, iv p3, iv p4, iv sf, iv ss, iv kd, iv sw, iv fk, iv sk, rv b716, rv b737, rv b737, rv b716, rv b716, iv (0 : Int32)] [(.ref b716), (.ref b737)])) rfl (by rw [hml]; rfl) (Steps.refl _) (argsL := [(.ref b716)]) (rest := []) (lenOf pd316 rfl) rfl (by show 2 * 0 + _ ≤ _; exact Nat.le_of_eq rfl) (hb hby at_220) (fun _ _ => ⟨rfl, eh909, (by decide : 26 + 0 ≤ _), (by decide : 148 + 0 ≤ _)⟩)
        dsimp only [Pt.U, Pt.locs, Pt.cells, Pt.slots] at X935 l935 y935 z935 st935 hQ935
        subst l935 y935 z935
        obtain ⟨rfl, Nq935, eh935⟩ := hQ935
        have N935 := Fr.app N909 Nq935
        have go936 : own_S p e below ST T935 (mkF m 223 #[iv p0, iv p1, iv p2, iv p3, iv p4, iv sf, iv ss, iv kd, iv sw, iv fk, iv sk, rv b716, rv b737, rv b737, rv b716, rv b716, iv (0 : Int32)] [(.int (own_an fk p0 sk p1))]) := fun tt kt => go913 tt (st935.trans kt)
        have go937 : own_S p e below ST T935 (mkF m 233 #[iv p0, iv p1, iv p2, iv p3, iv p4, iv sf, iv ss, iv kd, iv sw, iv fk, iv sk, rv b716, rv b737, rv b737, rv b716, rv b716, iv (0 : Int32)] [(.int (1 : Int32))]) := fun tt kt => go936 tt (by
            refine XS.iload X935.here hx rfl (hb hby at_223) rfl ?_
            refine XS.icmpNo X935.here hx rfl (hb hby at_225) rfl (teq (show (own_an fk p0 sk p1) = (0 : Int32) by rw [own_an, own_kc fk p0, own_kc sk p1, if_pos d0])).2 ?_
            refine XS.iconst X935.here hx rfl (hb hby at_228) ?_
            refine XS.goto X935.here hx rfl (pc0 := 229) (pc' := 233) rfl (hb hby at_229) (by decide) (by decide) ?_
            exact kt)
        obtain ⟨fs, hr, hrun, hended, hend⟩ := X935.leaveW (s := s) (vm₁ := T771.vm) hS771 (by rw [eh935]; exact hk771) (v := some (.int (1 : Int32))) (fun h => by rw [Bd.returns] at h; cases h) (hlocks := by first | exact BodyLoose.notSynchronized Bd | exact Body.notSynchronized Bd)
        refine ⟨_, _, pre0 _ (go937 _ ?_), hrun, hended, _, _, rfl, ?_, ?_, hend.1, hend.2.1, hend.2.2.1, hend.2.2.2.mono (by decide) (by decide)⟩
        · exact retN X935 hx (t := .boolean) Bd.returns (by simp) (hb hby at_233) hr
        · show Q0 Z p0 p1 p2 p3 p4 cs h0 n0 _ T935.heap _
          rw [eh935]
          exact ⟨rfl, N935⟩
        · show CHr Z own_EL s.vm s.heap T935.vm T935.heap
          exact own_cr hh eh935 (CR771.trans (CHv.at X935 hZ hEL CR771.1))
      · have go938 : own_S p e below ST T909 (mkF m 157 #[iv p0, iv p1, iv p2, iv p3, iv p4, iv sf, iv ss, iv kd, iv sw, iv fk, iv sk, rv b716, rv b737, rv b737, rv b716, rv b716, .unset] []) := fun tt kt => go911 tt (by
            refine XS.ifNo X909.here hx rfl (hb hby at_154) rfl ((if0 _ _).trans (feq d0).1) ?_
            exact kt)
        have go939 : own_S p e below ST T909 (mkF m 160 #[iv p0, iv p1, iv p2, iv p3, iv p4, iv sf, iv ss, iv kd, iv sw, iv fk, iv sk, rv b716, rv b737, rv b737, rv b716, rv b716, .unset] [(.int sk), (.int p1)]) := fun tt kt => go938 tt (by
            refine XS.iloadN X909.here hx rfl (hb hby at_157) rfl ?_
            refine XS.iload X909.here hx rfl (hb hby at_158) rfl ?_
            exact kt)
        obtain ⟨_, _, ⟨T940, L940, k940, n940⟩, -, X940, ⟨Lc940, hQ940, l940, y940, z940⟩, st940⟩ := Jvm.LawKit.callS X909 hx (y := (⟨"com/example/inscribe/inscribe/model/EdgeEqualsPinLaw", "sameKey", "(II)Z"⟩ : MethodName)) hown (mvT hZ (W 58 rfl)) (mvT hZ (W 59 rfl)) (mvT hZ (W 5 rfl)) (mvT hZ (W 60 rfl)) (by decide) (backOf (W := 0) (rmSK l Z a0 hw [] p1 sk T771.heap n0 zs910 ) hZ (W 60 rfl) (W 5 rfl) (by decide) (by decide)) (g := (mkF m 160 #[iv p0, iv p1, iv p2, iv p3, iv p4, iv sf, iv ss, iv kd, iv sw, iv fk, iv sk, rv b716, rv b737, rv b737, rv b716, rv b716, .unset] [(.int sk), (.int p1)])) rfl (by rw [hml]; rfl) (argsL := [(.int p1), (.int sk)]) (rest := []) (lenOf pd330 rfl) rfl (by show 2 * 0 + _ ≤ _; exact Nat.le_of_eq rfl) (hb hby at_160) (fun _ _ => ⟨rfl, eh909, (by decide : 26 + 0 ≤ _), (by decide : 148 + 0 ≤ _)⟩)
        dsimp only [Pt.U, Pt.locs, Pt.cells, Pt.slots] at X940 l940 y940 z940 st940 hQ940
        subst l940 y940 z940
        obtain ⟨rfl, Nq940, eh940⟩ := hQ940
        have N940 := Fr.app N909 Nq940
        have go941 : own_S p e below ST T940 (mkF m 163 #[iv p0, iv p1, iv p2, iv p3, iv p4, iv sf, iv ss, iv kd, iv sw, iv fk, iv sk, rv b716, rv b737, rv b737, rv b716, rv b716, .unset] [(.int (own_ke p1 sk))]) := fun tt kt => go939 tt (st940 _ kt)
        by_cases d1 : (own_ke p1 sk) = (0 : Int32)
        · have go942 : own_S p e below ST T940 (mkF m 170 #[iv p0, iv p1, iv p2, iv p3, iv p4, iv sf, iv ss, iv kd, iv sw, iv fk, iv sk, rv b716, rv b737, rv b737, rv b716, rv b716, .unset] []) := fun tt kt => go941 tt (by
              refine XS.ifYes X940.here hx rfl (pc0 := 163) (pc' := 170) rfl (hb hby at_163) rfl ((if0 _ _).trans (teq d1).1) (by decide) (by decide) ?_
              exact kt)
          have go943 : own_S p e below ST T940 (mkF m 220 #[iv p0, iv p1, iv p2, iv p3, iv p4, iv sf, iv ss, iv kd, iv sw, iv fk, iv sk, rv b716, rv b737, rv b737, rv b716, rv b716, iv (0 : Int32)] [(.ref b716), (.ref b737)]) := fun tt kt => go942 tt (by
              refine XS.iconst X940.here hx rfl (hb hby at_170) ?_
              refine XS.istore X940.here hx rfl (hb hby at_171) rfl (l' := #[iv p0, iv p1, iv p2, iv p3, iv p4, iv sf, iv ss, iv kd, iv sw, iv fk, iv sk, rv b716, rv b737, rv b737, rv b716, rv b716, iv (0 : Int32)]) rfl ?_
              refine XS.goto X940.here hx rfl (pc0 := 173) (pc' := 216) rfl (hb hby at_173) (by decide) (by decide) ?_
              refine XS.aload X940.here hx rfl (hb hby at_216) rfl rfl ?_
              refine XS.aload X940.here hx rfl (hb hby at_218) rfl rfl ?_
              exact kt)
          have f944 := (f767.keep K771)
          have f945 := (f766.keep K771)
          have f946 := ((((Fa733.ext E737).keep K752 nin0).keep K763 nin0).keep K771 (ninS neb716_b737 nin0))
          have f947 := ((((Fb733.ext E737).keep K752 nin0).keep K763 nin0).keep K771 (ninS neb716_b737 nin0))
          have f948 := (f770.keep K771)
          have f949 := ((Fa752.keep K763 nin0).keep K771 (ninS (Ne.symm neb737_ob752) nin0))
          have f950 := ((Fb752.keep K763 nin0).keep K771 (ninS (Ne.symm neb737_ob752) nin0))
          have f951 := ((Vb752.keep K763 nin0).keep K771 (ninS (Ne.symm nvb737_752) nin0))
          have f952 := ((f759.keep K763).keep K771)
          have f953 := ((((((Fa720.keep K726 nin0).keep K733 (ninS (Ne.symm neb716_ob720) nin0)).ext E737).keep K752 nin0).keep K763 nin0).keep K771 (ninS neob720_b737 nin0))
          have f954 := ((((((Fb720.keep K726 nin0).keep K733 (ninS (Ne.symm neb716_ob720) nin0)).ext E737).keep K752 nin0).keep K763 nin0).keep K771 (ninS neob720_b737 nin0))
          have f955 := ((f760.keep K763 nin0).keep K771 (ninS neb720_b737 nin0))
          have f956 := (Ea763.keep K771)
          have f957 := (Fa763.keep K771 (ninS (Ne.symm neb737_ob763) nin0))
          have f958 := (Fb763.keep K771 (ninS (Ne.symm neb737_ob763) nin0))
          have f959 := (Vb763.keep K771 (ninS (Ne.symm nvb737_763) nin0))
          have f960 := ((f761.keep K763).keep K771)
          have f961 := (((((Fa726.keep K733 (ninS (Ne.symm neb716_ob726) nin0)).ext E737).keep K752 nin0).keep K763 nin0).keep K771 (ninS neob726_b737 nin0))
          have f962 := (((((Fb726.keep K733 (ninS (Ne.symm neb716_ob726) nin0)).ext E737).keep K752 nin0).keep K763 nin0).keep K771 (ninS neob726_b737 nin0))
          have f963 := ((f762.keep K763 nin0).keep K771 (ninS neb726_b737 nin0))
          have f964 := ((f758.keep K763 all0).keep K771 (allS ge_b737 all0))
          obtain ⟨cq965, kq965, q965a, q965b, q965c⟩ := isOf hZ eh940 f944
          obtain ⟨_, _, ⟨T965, L965, k965, n965⟩, -, X965, ⟨Lc965, hQ965, l965, y965, z965⟩, st965⟩ := X940.virtualBack hx (y := (⟨"com/example/inscribe/inscribe/model/Edge", "equals", "(Ljava/lang/Object;)Z"⟩ : MethodName)) (z := (⟨"com/example/inscribe/inscribe/model/Edge", "equals", "(Ljava/lang/Object;)Z"⟩ : MethodName)) hown (mvT hZ (W 61 rfl)) (mvT hZ (W 62 rfl)) (notFace_of_selects (args := #[]) (mvT hZ (W 64 rfl))) (mvT hZ (W 64 rfl)) (mvT hZ (W 63 rfl)) (by decide) (backOf (W := 0) (rm12e l Z a0 hw [] b737 b716 ob752 b752 kb752 fk ob720 b720 kb720 p0 ob763 b763 kb763 sk ob726 b726 kb726 p1 cs T771.heap n0 zs910 f944 f945 (Ne.symm neb716_b737) Fa771 Fb771 f946 f947 f948 f949 f950 f951 f952 f953 f954 f955 f956 f957 f958 f959 f960 f961 f962 f963 (Ne.symm neob720_ob752) (Ne.symm neob726_ob763) SC hcs f964) hZ (W 65 rfl) (W 2 rfl) (by decide) (by decide)) q965a q965c (g := (mkF m 220 #[iv p0, iv p1, iv p2, iv p3, iv p4, iv sf, iv ss, iv kd, iv sw, iv fk, iv sk, rv b716, rv b737, rv b737, rv b716, rv b716, iv (0 : Int32)] [(.ref b716), (.ref b737)])) rfl (by rw [hml]; rfl) (Steps.refl _) (argsL := [(.ref b716)]) (rest := []) (lenOf pd316 rfl) rfl (by show 2 * 0 + _ ≤ _; exact Nat.le_of_eq rfl) (hb hby at_220) (fun _ _ => ⟨rfl, eh940, (by decide : 26 + 0 ≤ _), (by decide : 148 + 0 ≤ _)⟩)
          dsimp only [Pt.U, Pt.locs, Pt.cells, Pt.slots] at X965 l965 y965 z965 st965 hQ965
          subst l965 y965 z965
          obtain ⟨rfl, Nq965, eh965⟩ := hQ965
          have N965 := Fr.app N940 Nq965
          have go966 : own_S p e below ST T965 (mkF m 223 #[iv p0, iv p1, iv p2, iv p3, iv p4, iv sf, iv ss, iv kd, iv sw, iv fk, iv sk, rv b716, rv b737, rv b737, rv b716, rv b716, iv (0 : Int32)] [(.int (own_an fk p0 sk p1))]) := fun tt kt => go943 tt (st965.trans kt)
          have go967 : own_S p e below ST T965 (mkF m 233 #[iv p0, iv p1, iv p2, iv p3, iv p4, iv sf, iv ss, iv kd, iv sw, iv fk, iv sk, rv b716, rv b737, rv b737, rv b716, rv b716, iv (0 : Int32)] [(.int (1 : Int32))]) := fun tt kt => go966 tt (by
              refine XS.iload X965.here hx rfl (hb hby at_223) rfl ?_
              refine XS.icmpNo X965.here hx rfl (hb hby at_225) rfl (teq (show (own_an fk p0 sk p1) = (0 : Int32) by rw [own_an, own_kc fk p0, own_kc sk p1, if_neg d0, if_pos d1])).2 ?_
              refine XS.iconst X965.here hx rfl (hb hby at_228) ?_
              refine XS.goto X965.here hx rfl (pc0 := 229) (pc' := 233) rfl (hb hby at_229) (by decide) (by decide) ?_
              exact kt)
          obtain ⟨fs, hr, hrun, hended, hend⟩ := X965.leaveW (s := s) (vm₁ := T771.vm) hS771 (by rw [eh965]; exact hk771) (v := some (.int (1 : Int32))) (fun h => by rw [Bd.returns] at h; cases h) (hlocks := by first | exact BodyLoose.notSynchronized Bd | exact Body.notSynchronized Bd)
          refine ⟨_, _, pre0 _ (go967 _ ?_), hrun, hended, _, _, rfl, ?_, ?_, hend.1, hend.2.1, hend.2.2.1, hend.2.2.2.mono (by decide) (by decide)⟩
          · exact retN X965 hx (t := .boolean) Bd.returns (by simp) (hb hby at_233) hr
          · show Q0 Z p0 p1 p2 p3 p4 cs h0 n0 _ T965.heap _
            rw [eh965]
            exact ⟨rfl, N965⟩
          · show CHr Z own_EL s.vm s.heap T965.vm T965.heap
            exact own_cr hh eh965 (CR771.trans (CHv.at X965 hZ hEL CR771.1))
        · have go968 : own_S p e below ST T940 (mkF m 166 #[iv p0, iv p1, iv p2, iv p3, iv p4, iv sf, iv ss, iv kd, iv sw, iv fk, iv sk, rv b716, rv b737, rv b737, rv b716, rv b716, .unset] []) := fun tt kt => go941 tt (by
              refine XS.ifNo X940.here hx rfl (hb hby at_163) rfl ((if0 _ _).trans (feq d1).1) ?_
              exact kt)
          have go969 : own_S p e below ST T940 (mkF m 220 #[iv p0, iv p1, iv p2, iv p3, iv p4, iv sf, iv ss, iv kd, iv sw, iv fk, iv sk, rv b716, rv b737, rv b737, rv b716, rv b716, iv (1 : Int32)] [(.ref b716), (.ref b737)]) := fun tt kt => go968 tt (by
              refine XS.iconst X940.here hx rfl (hb hby at_166) ?_
              refine XS.goto X940.here hx rfl (pc0 := 167) (pc' := 171) rfl (hb hby at_167) (by decide) (by decide) ?_
              refine XS.istore X940.here hx rfl (hb hby at_171) rfl (l' := #[iv p0, iv p1, iv p2, iv p3, iv p4, iv sf, iv ss, iv kd, iv sw, iv fk, iv sk, rv b716, rv b737, rv b737, rv b716, rv b716, iv (1 : Int32)]) rfl ?_
              refine XS.goto X940.here hx rfl (pc0 := 173) (pc' := 216) rfl (hb hby at_173) (by decide) (by decide) ?_
              refine XS.aload X940.here hx rfl (hb hby at_216) rfl rfl ?_
              refine XS.aload X940.here hx rfl (hb hby at_218) rfl rfl ?_
              exact kt)
          have f970 := (f767.keep K771)
          have f971 := (f766.keep K771)
          have f972 := ((((Fa733.ext E737).keep K752 nin0).keep K763 nin0).keep K771 (ninS neb716_b737 nin0))
          have f973 := ((((Fb733.ext E737).keep K752 nin0).keep K763 nin0).keep K771 (ninS neb716_b737 nin0))
          have f974 := (f770.keep K771)
          have f975 := ((Fa752.keep K763 nin0).keep K771 (ninS (Ne.symm neb737_ob752) nin0))
          have f976 := ((Fb752.keep K763 nin0).keep K771 (ninS (Ne.symm neb737_ob752) nin0))
          have f977 := ((Vb752.keep K763 nin0).keep K771 (ninS (Ne.symm nvb737_752) nin0))
          have f978 := ((f759.keep K763).keep K771)
          have f979 := ((((((Fa720.keep K726 nin0).keep K733 (ninS (Ne.symm neb716_ob720) nin0)).ext E737).keep K752 nin0).keep K763 nin0).keep K771 (ninS neob720_b737 nin0))
          have f980 := ((((((Fb720.keep K726 nin0).keep K733 (ninS (Ne.symm neb716_ob720) nin0)).ext E737).keep K752 nin0).keep K763 nin0).keep K771 (ninS neob720_b737 nin0))
          have f981 := ((f760.keep K763 nin0).keep K771 (ninS neb720_b737 nin0))
          have f982 := (Ea763.keep K771)
          have f983 := (Fa763.keep K771 (ninS (Ne.symm neb737_ob763) nin0))
          have f984 := (Fb763.keep K771 (ninS (Ne.symm neb737_ob763) nin0))
          have f985 := (Vb763.keep K771 (ninS (Ne.symm nvb737_763) nin0))
          have f986 := ((f761.keep K763).keep K771)
          have f987 := (((((Fa726.keep K733 (ninS (Ne.symm neb716_ob726) nin0)).ext E737).keep K752 nin0).keep K763 nin0).keep K771 (ninS neob726_b737 nin0))
          have f988 := (((((Fb726.keep K733 (ninS (Ne.symm neb716_ob726) nin0)).ext E737).keep K752 nin0).keep K763 nin0).keep K771 (ninS neob726_b737 nin0))
          have f989 := ((f762.keep K763 nin0).keep K771 (ninS neb726_b737 nin0))
          have f990 := ((f758.keep K763 all0).keep K771 (allS ge_b737 all0))
          obtain ⟨cq991, kq991, q991a, q991b, q991c⟩ := isOf hZ eh940 f970
          obtain ⟨_, _, ⟨T991, L991, k991, n991⟩, -, X991, ⟨Lc991, hQ991, l991, y991, z991⟩, st991⟩ := X940.virtualBack hx (y := (⟨"com/example/inscribe/inscribe/model/Edge", "equals", "(Ljava/lang/Object;)Z"⟩ : MethodName)) (z := (⟨"com/example/inscribe/inscribe/model/Edge", "equals", "(Ljava/lang/Object;)Z"⟩ : MethodName)) hown (mvT hZ (W 61 rfl)) (mvT hZ (W 62 rfl)) (notFace_of_selects (args := #[]) (mvT hZ (W 64 rfl))) (mvT hZ (W 64 rfl)) (mvT hZ (W 63 rfl)) (by decide) (backOf (W := 0) (rm12e l Z a0 hw [] b737 b716 ob752 b752 kb752 fk ob720 b720 kb720 p0 ob763 b763 kb763 sk ob726 b726 kb726 p1 cs T771.heap n0 zs910 f970 f971 (Ne.symm neb716_b737) Fa771 Fb771 f972 f973 f974 f975 f976 f977 f978 f979 f980 f981 f982 f983 f984 f985 f986 f987 f988 f989 (Ne.symm neob720_ob752) (Ne.symm neob726_ob763) SC hcs f990) hZ (W 65 rfl) (W 2 rfl) (by decide) (by decide)) q991a q991c (g := (mkF m 220 #[iv p0, iv p1, iv p2, iv p3, iv p4, iv sf, iv ss, iv kd, iv sw, iv fk, iv sk, rv b716, rv b737, rv b737, rv b716, rv b716, iv (1 : Int32)] [(.ref b716), (.ref b737)])) rfl (by rw [hml]; rfl) (Steps.refl _) (argsL := [(.ref b716)]) (rest := []) (lenOf pd316 rfl) rfl (by show 2 * 0 + _ ≤ _; exact Nat.le_of_eq rfl) (hb hby at_220) (fun _ _ => ⟨rfl, eh940, (by decide : 26 + 0 ≤ _), (by decide : 148 + 0 ≤ _)⟩)
          dsimp only [Pt.U, Pt.locs, Pt.cells, Pt.slots] at X991 l991 y991 z991 st991 hQ991
          subst l991 y991 z991
          obtain ⟨rfl, Nq991, eh991⟩ := hQ991
          have N991 := Fr.app N940 Nq991
          have go992 : own_S p e below ST T991 (mkF m 223 #[iv p0, iv p1, iv p2, iv p3, iv p4, iv sf, iv ss, iv kd, iv sw, iv fk, iv sk, rv b716, rv b737, rv b737, rv b716, rv b716, iv (1 : Int32)] [(.int (own_an fk p0 sk p1))]) := fun tt kt => go969 tt (st991.trans kt)
          have go993 : own_S p e below ST T991 (mkF m 233 #[iv p0, iv p1, iv p2, iv p3, iv p4, iv sf, iv ss, iv kd, iv sw, iv fk, iv sk, rv b716, rv b737, rv b737, rv b716, rv b716, iv (1 : Int32)] [(.int (1 : Int32))]) := fun tt kt => go992 tt (by
              refine XS.iload X991.here hx rfl (hb hby at_223) rfl ?_
              refine XS.icmpNo X991.here hx rfl (hb hby at_225) rfl (teq (show (own_an fk p0 sk p1) = (1 : Int32) by rw [own_an, own_kc fk p0, own_kc sk p1, if_neg d0, if_neg d1])).2 ?_
              refine XS.iconst X991.here hx rfl (hb hby at_228) ?_
              refine XS.goto X991.here hx rfl (pc0 := 229) (pc' := 233) rfl (hb hby at_229) (by decide) (by decide) ?_
              exact kt)
          obtain ⟨fs, hr, hrun, hended, hend⟩ := X991.leaveW (s := s) (vm₁ := T771.vm) hS771 (by rw [eh991]; exact hk771) (v := some (.int (1 : Int32))) (fun h => by rw [Bd.returns] at h; cases h) (hlocks := by first | exact BodyLoose.notSynchronized Bd | exact Body.notSynchronized Bd)
          refine ⟨_, _, pre0 _ (go993 _ ?_), hrun, hended, _, _, rfl, ?_, ?_, hend.1, hend.2.1, hend.2.2.1, hend.2.2.2.mono (by decide) (by decide)⟩
          · exact retN X991 hx (t := .boolean) Bd.returns (by simp) (hb hby at_233) hr
          · show Q0 Z p0 p1 p2 p3 p4 cs h0 n0 _ T991.heap _
            rw [eh991]
            exact ⟨rfl, N991⟩
          · show CHr Z own_EL s.vm s.heap T991.vm T991.heap
            exact own_cr hh eh991 (CR771.trans (CHv.at X991 hZ hEL CR771.1))
    · have go994 : own_S p e below ST T771 (mkF m 176 #[iv p0, iv p1, iv p2, iv p3, iv p4, iv sf, iv ss, iv kd, iv sw, iv fk, iv sk, rv b716, rv b737, rv b737, rv b716, .unset, .unset] []) := fun tt kt => go906 tt (by
          refine XS.ifYes X771.here hx rfl (pc0 := 141) (pc' := 176) rfl (hb hby at_141) rfl ((if0 _ _).trans (feq e0).2) (by decide) (by decide) ?_
          exact kt)
      have go995 : own_S p e below ST T771 (mkF m 179 #[iv p0, iv p1, iv p2, iv p3, iv p4, iv sf, iv ss, iv kd, iv sw, iv fk, iv sk, rv b716, rv b737, rv b737, rv b716, .unset, .unset] [(.int (1 : Int32)), (.int kd)]) := fun tt kt => go994 tt (by
          refine XS.iload X771.here hx rfl (hb hby at_176) rfl ?_
          refine XS.iconst X771.here hx rfl (hb hby at_178) ?_
          exact kt)
      by_cases e1 : kd = (1 : Int32)
      · have go996 : own_S p e below ST T771 (mkF m 182 #[iv p0, iv p1, iv p2, iv p3, iv p4, iv sf, iv ss, iv kd, iv sw, iv fk, iv sk, rv b716, rv b737, rv b737, rv b716, .unset, .unset] []) := fun tt kt => go995 tt (by
            refine XS.icmpNo X771.here hx rfl (hb hby at_179) rfl (teq e1).2 ?_
            exact kt)
        have go997 : own_S p e below ST T771 (mkF m 220 #[iv p0, iv p1, iv p2, iv p3, iv p4, iv sf, iv ss, iv kd, iv sw, iv fk, iv sk, rv b716, rv b737, rv b737, rv b716, rv b737, iv (1 : Int32)] [(.ref b737), (.ref b737)]) := fun tt kt => go996 tt (by
            refine XS.aload X771.here hx rfl (hb hby at_182) rfl rfl ?_
            refine XS.astore X771.here hx rfl (hb hby at_184) rfl rfl (l' := #[iv p0, iv p1, iv p2, iv p3, iv p4, iv sf, iv ss, iv kd, iv sw, iv fk, iv sk, rv b716, rv b737, rv b737, rv b716, rv b737, .unset]) rfl ?_
            refine XS.iconst X771.here hx rfl (hb hby at_186) ?_
            refine XS.istore X771.here hx rfl (hb hby at_187) rfl (l' := #[iv p0, iv p1, iv p2, iv p3, iv p4, iv sf, iv ss, iv kd, iv sw, iv fk, iv sk, rv b716, rv b737, rv b737, rv b716, rv b737, iv (1 : Int32)]) rfl ?_
            refine XS.goto X771.here hx rfl (pc0 := 189) (pc' := 216) rfl (hb hby at_189) (by decide) (by decide) ?_
            refine XS.aload X771.here hx rfl (hb hby at_216) rfl rfl ?_
            show Steps p.tables e below (T771.setTop (mkF m 218 #[iv p0, iv p1, iv p2, iv p3, iv p4, iv sf, iv ss, iv kd, iv sw, iv fk, iv sk, rv b716, rv b737, rv b737, rv b716, rv b737, iv (1 : Int32)] [(.ref b737)])) _
            refine XS.aload X771.here hx rfl (hb hby at_218) rfl rfl ?_
            exact kt)
        have zs999 := (Nat.le_trans zs772 K771.1)
        have f1000 := (f767.keep K771)
        obtain ⟨cq998, kq998, q998a, q998b, q998c⟩ := isOf hZ rfl f1000
        obtain ⟨_, _, ⟨T998, L998, k998, n998⟩, -, X998, ⟨Lc998, hQ998, l998, y998, z998⟩, st998⟩ := X771.virtualBack hx (y := (⟨"com/example/inscribe/inscribe/model/Edge", "equals", "(Ljava/lang/Object;)Z"⟩ : MethodName)) (z := (⟨"com/example/inscribe/inscribe/model/Edge", "equals", "(Ljava/lang/Object;)Z"⟩ : MethodName)) hown (mvT hZ (W 61 rfl)) (mvT hZ (W 62 rfl)) (notFace_of_selects (args := #[]) (mvT hZ (W 64 rfl))) (mvT hZ (W 64 rfl)) (mvT hZ (W 63 rfl)) (by decide) (backOf (W := 0) (rm12s l Z a0 hw [] b737 T771.heap n0 zs999 ) hZ (W 65 rfl) (W 2 rfl) (by decide) (by decide)) q998a q998c (g := (mkF m 220 #[iv p0, iv p1, iv p2, iv p3, iv p4, iv sf, iv ss, iv kd, iv sw, iv fk, iv sk, rv b716, rv b737, rv b737, rv b716, rv b737, iv (1 : Int32)] [(.ref b737), (.ref b737)])) rfl (by rw [hml]; rfl) (Steps.refl _) (argsL := [(.ref b737)]) (rest := []) (lenOf pd316 rfl) rfl (by show 2 * 0 + _ ≤ _; exact Nat.le_of_eq rfl) (hb hby at_220) (fun _ _ => ⟨rfl, rfl, (by decide : 26 + 0 ≤ _), (by decide : 148 + 0 ≤ _)⟩)
        dsimp only [Pt.U, Pt.locs, Pt.cells, Pt.slots] at X998 l998 y998 z998 st998 hQ998
        subst l998 y998 z998
        obtain ⟨rfl, Nq998, eh998⟩ := hQ998
        have N998 := Fr.app N771 Nq998
        have go1001 : own_S p e below ST T998 (mkF m 223 #[iv p0, iv p1, iv p2, iv p3, iv p4, iv sf, iv ss, iv kd, iv sw, iv fk, iv sk, rv b716, rv b737, rv b737, rv b716, rv b737, iv (1 : Int32)] [(.int (1 : Int32))]) := fun tt kt => go997 tt (st998.trans kt)
        have go1002 : own_S p e below ST T998 (mkF m 233 #[iv p0, iv p1, iv p2, iv p3, iv p4, iv sf, iv ss, iv kd, iv sw, iv fk, iv sk, rv b716, rv b737, rv b737, rv b716, rv b737, iv (1 : Int32)] [(.int (1 : Int32))]) := fun tt kt => go1001 tt (by
            refine XS.iload X998.here hx rfl (hb hby at_223) rfl ?_
            refine XS.icmpNo X998.here hx rfl (hb hby at_225) rfl (teq (by decide : (1 : Int32) = (1 : Int32))).2 ?_
            refine XS.iconst X998.here hx rfl (hb hby at_228) ?_
            refine XS.goto X998.here hx rfl (pc0 := 229) (pc' := 233) rfl (hb hby at_229) (by decide) (by decide) ?_
            exact kt)
        obtain ⟨fs, hr, hrun, hended, hend⟩ := X998.leaveW (s := s) (vm₁ := T771.vm) hS771 (by rw [eh998]; exact hk771) (v := some (.int (1 : Int32))) (fun h => by rw [Bd.returns] at h; cases h) (hlocks := by first | exact BodyLoose.notSynchronized Bd | exact Body.notSynchronized Bd)
        refine ⟨_, _, pre0 _ (go1002 _ ?_), hrun, hended, _, _, rfl, ?_, ?_, hend.1, hend.2.1, hend.2.2.1, hend.2.2.2.mono (by decide) (by decide)⟩
        · exact retN X998 hx (t := .boolean) Bd.returns (by simp) (hb hby at_233) hr
        · show Q0 Z p0 p1 p2 p3 p4 cs h0 n0 _ T998.heap _
          rw [eh998]
          exact ⟨rfl, N998⟩
        · show CHr Z own_EL s.vm s.heap T998.vm T998.heap
          exact own_cr hh eh998 (CR771.trans (CHv.at X998 hZ hEL CR771.1))
      · have go1003 : own_S p e below ST T771 (mkF m 192 #[iv p0, iv p1, iv p2, iv p3, iv p4, iv sf, iv ss, iv kd, iv sw, iv fk, iv sk, rv b716, rv b737, rv b737, rv b716, .unset, .unset] []) := fun tt kt => go995 tt (by
            refine XS.icmpYes X771.here hx rfl (pc0 := 179) (pc' := 192) rfl (hb hby at_179) rfl (feq e1).2 (by decide) (by decide) ?_
            exact kt)
        have go1004 : own_S p e below ST T771 (mkF m 195 #[iv p0, iv p1, iv p2, iv p3, iv p4, iv sf, iv ss, iv kd, iv sw, iv fk, iv sk, rv b716, rv b737, rv b737, rv b716, .unset, .unset] [(.int (2 : Int32)), (.int kd)]) := fun tt kt => go1003 tt (by
            refine XS.iload X771.here hx rfl (hb hby at_192) rfl ?_
            refine XS.iconst X771.here hx rfl (hb hby at_194) ?_
            exact kt)
        by_cases e2 : kd = (2 : Int32)
        · have go1005 : own_S p e below ST T771 (mkF m 198 #[iv p0, iv p1, iv p2, iv p3, iv p4, iv sf, iv ss, iv kd, iv sw, iv fk, iv sk, rv b716, rv b737, rv b737, rv b716, .unset, .unset] []) := fun tt kt => go1004 tt (by
              refine XS.icmpNo X771.here hx rfl (hb hby at_195) rfl (teq e2).2 ?_
              exact kt)
          have go1006 : own_S p e below ST T771 (mkF m 220 #[iv p0, iv p1, iv p2, iv p3, iv p4, iv sf, iv ss, iv kd, iv sw, iv fk, iv sk, rv b716, rv b737, rv b737, rv b716, .val .null, iv (0 : Int32)] [.null, (.ref b737)]) := fun tt kt => go1005 tt (by
              refine XS.aconstNull X771.here hx rfl (hb hby at_198) ?_
              refine XS.astore X771.here hx rfl (hb hby at_199) rfl rfl (l' := #[iv p0, iv p1, iv p2, iv p3, iv p4, iv sf, iv ss, iv kd, iv sw, iv fk, iv sk, rv b716, rv b737, rv b737, rv b716, .val .null, .unset]) rfl ?_
              refine XS.iconst X771.here hx rfl (hb hby at_201) ?_
              refine XS.istore X771.here hx rfl (hb hby at_202) rfl (l' := #[iv p0, iv p1, iv p2, iv p3, iv p4, iv sf, iv ss, iv kd, iv sw, iv fk, iv sk, rv b716, rv b737, rv b737, rv b716, .val .null, iv (0 : Int32)]) rfl ?_
              refine XS.goto X771.here hx rfl (pc0 := 204) (pc' := 216) rfl (hb hby at_204) (by decide) (by decide) ?_
              refine XS.aload X771.here hx rfl (hb hby at_216) rfl rfl ?_
              show Steps p.tables e below (T771.setTop (mkF m 218 #[iv p0, iv p1, iv p2, iv p3, iv p4, iv sf, iv ss, iv kd, iv sw, iv fk, iv sk, rv b716, rv b737, rv b737, rv b716, .val .null, iv (0 : Int32)] [(.ref b737)])) _
              refine XS.aload X771.here hx rfl (hb hby at_218) rfl rfl ?_
              exact kt)
          have zs1008 := (Nat.le_trans zs772 K771.1)
          have f1009 := (f767.keep K771)
          obtain ⟨cq1007, kq1007, q1007a, q1007b, q1007c⟩ := isOf hZ rfl f1009
          obtain ⟨_, _, ⟨T1007, L1007, k1007, n1007⟩, -, X1007, ⟨Lc1007, hQ1007, l1007, y1007, z1007⟩, st1007⟩ := X771.virtualBack hx (y := (⟨"com/example/inscribe/inscribe/model/Edge", "equals", "(Ljava/lang/Object;)Z"⟩ : MethodName)) (z := (⟨"com/example/inscribe/inscribe/model/Edge", "equals", "(Ljava/lang/Object;)Z"⟩ : MethodName)) hown (mvT hZ (W 61 rfl)) (mvT hZ (W 62 rfl)) (notFace_of_selects (args := #[]) (mvT hZ (W 64 rfl))) (mvT hZ (W 64 rfl)) (mvT hZ (W 63 rfl)) (by decide) (backOf (W := 0) (rm12n l Z a0 hw [] b737 T771.heap n0 zs1008 ) hZ (W 65 rfl) (W 2 rfl) (by decide) (by decide)) q1007a q1007c (g := (mkF m 220 #[iv p0, iv p1, iv p2, iv p3, iv p4, iv sf, iv ss, iv kd, iv sw, iv fk, iv sk, rv b716, rv b737, rv b737, rv b716, .val .null, iv (0 : Int32)] [.null, (.ref b737)])) rfl (by rw [hml]; rfl) (Steps.refl _) (argsL := [.null]) (rest := []) (lenOf pd316 rfl) rfl (by show 2 * 0 + _ ≤ _; exact Nat.le_of_eq rfl) (hb hby at_220) (fun _ _ => ⟨rfl, rfl, (by decide : 26 + 0 ≤ _), (by decide : 148 + 0 ≤ _)⟩)
          dsimp only [Pt.U, Pt.locs, Pt.cells, Pt.slots] at X1007 l1007 y1007 z1007 st1007 hQ1007
          subst l1007 y1007 z1007
          obtain ⟨rfl, Nq1007, eh1007⟩ := hQ1007
          have N1007 := Fr.app N771 Nq1007
          have go1010 : own_S p e below ST T1007 (mkF m 223 #[iv p0, iv p1, iv p2, iv p3, iv p4, iv sf, iv ss, iv kd, iv sw, iv fk, iv sk, rv b716, rv b737, rv b737, rv b716, .val .null, iv (0 : Int32)] [(.int (0 : Int32))]) := fun tt kt => go1006 tt (st1007.trans kt)
          have go1011 : own_S p e below ST T1007 (mkF m 233 #[iv p0, iv p1, iv p2, iv p3, iv p4, iv sf, iv ss, iv kd, iv sw, iv fk, iv sk, rv b716, rv b737, rv b737, rv b716, .val .null, iv (0 : Int32)] [(.int (1 : Int32))]) := fun tt kt => go1010 tt (by
              refine XS.iload X1007.here hx rfl (hb hby at_223) rfl ?_
              refine XS.icmpNo X1007.here hx rfl (hb hby at_225) rfl (teq (by decide : (0 : Int32) = (0 : Int32))).2 ?_
              refine XS.iconst X1007.here hx rfl (hb hby at_228) ?_
              refine XS.goto X1007.here hx rfl (pc0 := 229) (pc' := 233) rfl (hb hby at_229) (by decide) (by decide) ?_
              exact kt)
          obtain ⟨fs, hr, hrun, hended, hend⟩ := X1007.leaveW (s := s) (vm₁ := T771.vm) hS771 (by rw [eh1007]; exact hk771) (v := some (.int (1 : Int32))) (fun h => by rw [Bd.returns] at h; cases h) (hlocks := by first | exact BodyLoose.notSynchronized Bd | exact Body.notSynchronized Bd)
          refine ⟨_, _, pre0 _ (go1011 _ ?_), hrun, hended, _, _, rfl, ?_, ?_, hend.1, hend.2.1, hend.2.2.1, hend.2.2.2.mono (by decide) (by decide)⟩
          · exact retN X1007 hx (t := .boolean) Bd.returns (by simp) (hb hby at_233) hr
          · show Q0 Z p0 p1 p2 p3 p4 cs h0 n0 _ T1007.heap _
            rw [eh1007]
            exact ⟨rfl, N1007⟩
          · show CHr Z own_EL s.vm s.heap T1007.vm T1007.heap
            exact own_cr hh eh1007 (CR771.trans (CHv.at X1007 hZ hEL CR771.1))
        · have go1012 : own_S p e below ST T771 (mkF m 207 #[iv p0, iv p1, iv p2, iv p3, iv p4, iv sf, iv ss, iv kd, iv sw, iv fk, iv sk, rv b716, rv b737, rv b737, rv b716, .unset, .unset] []) := fun tt kt => go1004 tt (by
              refine XS.icmpYes X771.here hx rfl (pc0 := 195) (pc' := 207) rfl (hb hby at_195) rfl (feq e2).2 (by decide) (by decide) ?_
              exact kt)
          have go1013 : own_S p e below ST T771 (mkF m 208 #[iv p0, iv p1, iv p2, iv p3, iv p4, iv sf, iv ss, iv kd, iv sw, iv fk, iv sk, rv b716, rv b737, rv b737, rv b716, .unset, .unset] [(.int p0)]) := fun tt kt => go1012 tt (by
              refine XS.iloadN X771.here hx rfl (hb hby at_207) rfl ?_
              exact kt)
          have f1014 := ((f758.keep K763 all0).keep K771 (allS ge_b737 all0))
          have f1015 := (f766.keep K771)
          have f1016 := ((f759.keep K763).keep K771)
          have f1017 := ((f760.keep K763 nin0).keep K771 (ninS neb720_b737 nin0))
          have f1018 := ((f761.keep K763).keep K771)
          have f1019 := ((f762.keep K763 nin0).keep K771 (ninS neb726_b737 nin0))
          have f1020 := (f767.keep K771)
          have f1021 := (f770.keep K771)
          have f1022 := ((Vb752.keep K763 nin0).keep K771 (ninS (Ne.symm nvb737_752) nin0))
          have f1023 := (Ea763.keep K771)
          have f1024 := (Vb763.keep K771 (ninS (Ne.symm nvb737_763) nin0))
          have zs1026 := (Nat.le_trans zs772 K771.1)
          obtain ⟨_, _, ⟨T1025, L1025, k1025, n1025⟩, -, X1025, S1025, g1025, ⟨Lc1025, hQ1025, l1025, y1025, z1025, C1025⟩, st1025⟩ := callSS X771 hx (y := (⟨"com/example/inscribe/inscribe/model/EdgeEqualsPinLaw", "mk", "(I)Ljava/lang/String;"⟩ : MethodName)) hown (mvT hZ (W 3 rfl)) (mvT hZ (W 4 rfl)) (mvT hZ (W 5 rfl)) (mvT hZ (W 6 rfl)) (by decide) (backOfSH (s := s) (vm0 := T771.vm) (W := 0) (rm1 l Z a0 hw [] p0 cs T771.heap n0 zs1026 SC hcs f1014) hZ (W 6 rfl) (W 5 rfl) (by decide) (by decide) hEL CR771.1) (g := (mkF m 208 #[iv p0, iv p1, iv p2, iv p3, iv p4, iv sf, iv ss, iv kd, iv sw, iv fk, iv sk, rv b716, rv b737, rv b737, rv b716, .unset, .unset] [(.int p0)])) rfl (by rw [hml]; rfl) (argsL := [(.int p0)]) (rest := []) (lenOf pd328 rfl) rfl (by show 2 * 0 + _ ≤ _; exact Nat.le_of_eq rfl) (hb hby at_208) (fun _ _ => ⟨rfl, rfl, (by decide : 26 + 4 ≤ _), (by decide : 148 + 10 ≤ _)⟩)
          dsimp only [Pt.U, Pt.locs, Pt.cells, Pt.slots] at X1025 S1025 g1025 l1025 y1025 z1025 C1025 st1025 hQ1025
          subst l1025 y1025 z1025
          obtain ⟨b1025, ob1025, kb1025, rfl, Nq1025, K1025, Ea1025, Fa1025, Fb1025, Vb1025, go1025, zo1025⟩ := hQ1025
          obtain ⟨X1025, hS1025, hZ, hown⟩ := rebS hS771 (by exact hk771) X1025 S1025 g1025 hZ hown
          have hk1025 : T1025.heap.size ≤ T1025.heap.size := Nat.le_refl _
          have N1025 := Fr.app N771 Nq1025
          have CR1025 := CR771.trans (C1025)
          have go1027 : own_S p e below ST T1025 (mkF m 211 #[iv p0, iv p1, iv p2, iv p3, iv p4, iv sf, iv ss, iv kd, iv sw, iv fk, iv sk, rv b716, rv b737, rv b737, rv b716, .unset, .unset] [(.ref ob1025)]) := fun tt kt => go1013 tt (st1025.trans kt)
          have f1028 := (f1015.keep K1025)
          have nvb716_1025 : b716 ≠ b1025 := Exa.neArv f1028 Vb1025 (W 1 rfl)
          have f1029 := (f1020.keep K1025)
          have nvb737_1025 : b737 ≠ b1025 := Exa.neArv f1029 Vb1025 (W 1 rfl)
          have neb716_ob1025 : b716 ≠ ob1025 := Nat.ne_of_lt (Nat.lt_of_lt_of_le f1015.lt zo1025)
          have neob720_ob1025 : ob720 ≠ ob1025 := Nat.ne_of_lt (Nat.lt_of_lt_of_le f1016.lt zo1025)
          have neb720_ob1025 : b720 ≠ ob1025 := Nat.ne_of_lt (Nat.lt_of_lt_of_le f1017.lt zo1025)
          have neob726_ob1025 : ob726 ≠ ob1025 := Nat.ne_of_lt (Nat.lt_of_lt_of_le f1018.lt zo1025)
          have neb726_ob1025 : b726 ≠ ob1025 := Nat.ne_of_lt (Nat.lt_of_lt_of_le f1019.lt zo1025)
          have neb737_ob1025 : b737 ≠ ob1025 := Nat.ne_of_lt (Nat.lt_of_lt_of_le f1020.lt zo1025)
          have neob752_ob1025 : ob752 ≠ ob1025 := Nat.ne_of_lt (Nat.lt_of_lt_of_le f1021.lt zo1025)
          have neb752_ob1025 : b752 ≠ ob1025 := Nat.ne_of_lt (Nat.lt_of_lt_of_le f1022.lt zo1025)
          have neob763_ob1025 : ob763 ≠ ob1025 := Nat.ne_of_lt (Nat.lt_of_lt_of_le f1023.lt zo1025)
          have neb763_ob1025 : b763 ≠ ob1025 := Nat.ne_of_lt (Nat.lt_of_lt_of_le f1024.lt zo1025)
          have go1030 : own_S p e below ST T1025 (mkF m 220 #[iv p0, iv p1, iv p2, iv p3, iv p4, iv sf, iv ss, iv kd, iv sw, iv fk, iv sk, rv b716, rv b737, rv b737, rv b716, rv ob1025, iv (0 : Int32)] [(.ref ob1025), (.ref b737)]) := fun tt kt => go1027 tt (by
              refine XS.astore X1025.here hx rfl (hb hby at_211) rfl rfl (l' := #[iv p0, iv p1, iv p2, iv p3, iv p4, iv sf, iv ss, iv kd, iv sw, iv fk, iv sk, rv b716, rv b737, rv b737, rv b716, rv ob1025, .unset]) rfl ?_
              refine XS.iconst X1025.here hx rfl (hb hby at_213) ?_
              refine XS.istore X1025.here hx rfl (hb hby at_214) rfl (l' := #[iv p0, iv p1, iv p2, iv p3, iv p4, iv sf, iv ss, iv kd, iv sw, iv fk, iv sk, rv b716, rv b737, rv b737, rv b716, rv ob1025, iv (0 : Int32)]) rfl ?_
              refine XS.aload X1025.here hx rfl (hb hby at_216) rfl rfl ?_
              refine XS.aload X1025.here hx rfl (hb hby at_218) rfl rfl ?_
              exact kt)
          have zs1032 := (Nat.le_trans zs1026 K1025.1)
          obtain ⟨cq1031, kq1031, q1031a, q1031b, q1031c⟩ := isOf hZ rfl f1029
          obtain ⟨_, _, ⟨T1031, L1031, k1031, n1031⟩, -, X1031, ⟨Lc1031, hQ1031, l1031, y1031, z1031⟩, st1031⟩ := X1025.virtualBack hx (y := (⟨"com/example/inscribe/inscribe/model/Edge", "equals", "(Ljava/lang/Object;)Z"⟩ : MethodName)) (z := (⟨"com/example/inscribe/inscribe/model/Edge", "equals", "(Ljava/lang/Object;)Z"⟩ : MethodName)) hown (mvT hZ (W 61 rfl)) (mvT hZ (W 62 rfl)) (notFace_of_selects (args := #[]) (mvT hZ (W 64 rfl))) (mvT hZ (W 64 rfl)) (mvT hZ (W 63 rfl)) (by decide) (backOf (W := 0) (rm12t l Z a0 hw [] b737 ob1025 T1025.heap n0 zs1032 Ea1025 neb737_ob1025) hZ (W 65 rfl) (W 2 rfl) (by decide) (by decide)) q1031a q1031c (g := (mkF m 220 #[iv p0, iv p1, iv p2, iv p3, iv p4, iv sf, iv ss, iv kd, iv sw, iv fk, iv sk, rv b716, rv b737, rv b737, rv b716, rv ob1025, iv (0 : Int32)] [(.ref ob1025), (.ref b737)])) rfl (by rw [hml]; rfl) (Steps.refl _) (argsL := [(.ref ob1025)]) (rest := []) (lenOf pd316 rfl) rfl (by show 2 * 0 + _ ≤ _; exact Nat.le_of_eq rfl) (hb hby at_220) (fun _ _ => ⟨rfl, rfl, (by decide : 30 + 0 ≤ _), (by decide : 158 + 0 ≤ _)⟩)
          dsimp only [Pt.U, Pt.locs, Pt.cells, Pt.slots] at X1031 l1031 y1031 z1031 st1031 hQ1031
          subst l1031 y1031 z1031
          obtain ⟨rfl, Nq1031, eh1031⟩ := hQ1031
          have N1031 := Fr.app N1025 Nq1031
          have go1033 : own_S p e below ST T1031 (mkF m 223 #[iv p0, iv p1, iv p2, iv p3, iv p4, iv sf, iv ss, iv kd, iv sw, iv fk, iv sk, rv b716, rv b737, rv b737, rv b716, rv ob1025, iv (0 : Int32)] [(.int (0 : Int32))]) := fun tt kt => go1030 tt (st1031.trans kt)
          have go1034 : own_S p e below ST T1031 (mkF m 233 #[iv p0, iv p1, iv p2, iv p3, iv p4, iv sf, iv ss, iv kd, iv sw, iv fk, iv sk, rv b716, rv b737, rv b737, rv b716, rv ob1025, iv (0 : Int32)] [(.int (1 : Int32))]) := fun tt kt => go1033 tt (by
              refine XS.iload X1031.here hx rfl (hb hby at_223) rfl ?_
              refine XS.icmpNo X1031.here hx rfl (hb hby at_225) rfl (teq (by decide : (0 : Int32) = (0 : Int32))).2 ?_
              refine XS.iconst X1031.here hx rfl (hb hby at_228) ?_
              refine XS.goto X1031.here hx rfl (pc0 := 229) (pc' := 233) rfl (hb hby at_229) (by decide) (by decide) ?_
              exact kt)
          obtain ⟨fs, hr, hrun, hended, hend⟩ := X1031.leaveW (s := s) (vm₁ := T1025.vm) hS1025 (by rw [eh1031]; exact hk1025) (v := some (.int (1 : Int32))) (fun h => by rw [Bd.returns] at h; cases h) (hlocks := by first | exact BodyLoose.notSynchronized Bd | exact Body.notSynchronized Bd)
          refine ⟨_, _, pre0 _ (go1034 _ ?_), hrun, hended, _, _, rfl, ?_, ?_, hend.1, hend.2.1, hend.2.2.1, hend.2.2.2.mono (by decide) (by decide)⟩
          · exact retN X1031 hx (t := .boolean) Bd.returns (by simp) (hb hby at_233) hr
          · show Q0 Z p0 p1 p2 p3 p4 cs h0 n0 _ T1031.heap _
            rw [eh1031]
            exact ⟨rfl, N1031⟩
          · show CHr Z own_EL s.vm s.heap T1031.vm T1031.heap
            exact own_cr hh eh1031 (CR1025.trans (CHv.at X1031 hZ hEL CR1025.1))
set_option maxRecDepth 65536 in
set_option maxHeartbeats 40000000 in
theorem comes_1 {Post : Tables → Env → Array Value → State → Outcome → State → Prop} (hpost : ∀ tb e args s v u, (limb_1_1.after args s (.returned v) u = true ∧ limb_1_2.after args s (.returned v) u = true ∧ True) → ReturnedEndW s (.returned v) u (Jvm.fieldLocs frame_1_writes args s ++ Jvm.arrayLocs frame_1_arrays args s ++ Jvm.staticLocs frame_1_statics s) 48 3264 → Post tb e args s (.returned v) u) :
    ArmFor flags0 classFile x code maxLocals ret World_1 tables_1 room_1 Calls_1 rest_1 Pre_1 Post := by
  intro l hfl _ _ p e ha hc hk s m args below hf hA hF happ hP
  obtain ⟨hcalls, hrest, hpre⟩ := hP
  obtain ⟨-, -, -, hnamed, -, -, -, hat⟩ := (Spec.applies_iff hf).mp happ
  obtain ⟨hg, hn⟩ := and_e (Cond.before_iff.mp (show (Jvm.Cond.and given_1 narrow_1).before args s = true from hpre))
  obtain ⟨gg1, gg2⟩ := and_e hg
  obtain ⟨gg3, gg4⟩ := and_e gg2
  obtain ⟨gg5, gg6⟩ := and_e gg4
  obtain ⟨gg7, gg8⟩ := and_e gg6
  obtain ⟨gg9, gg10⟩ := and_e gg8
  obtain ⟨w0, w1, w2, w3, w4, rfl⟩ : ∃ w0 w1 w2 w3 w4 : Value, args = #[w0, w1, w2, w3, w4] := by
    have hs : args.size = 5 := by simpa [Cond.value, given_1] using gg1
    obtain ⟨L⟩ := args
    match L, hs with
    | [w0, w1, w2, w3, w4], _ => exact ⟨w0, w1, w2, w3, w4, rfl⟩
  have hw := fun d (hd : d ∈ tables_1) => atoms_spec (ws := Jvm.Cond.code x code maxLocals ret :: tables_1) hat d (List.mem_cons_of_mem _ hd)
  have W : ∀ {d : Jvm.Cond} (i : Nat), tables_1[i]? = some d → d.before _ s = true := fun i h => hw _ (List.mem_of_getElem? h)
  have hfit : Fit s := fun {y c} hc i hi => by
    obtain ⟨ha, rfl⟩ := Array.getElem?_eq_some_iff.mp hc
    have q := List.all_eq_true.mp ((Array.all_eq_true_iff_forall_mem.mp hF) _ (Array.getElem_mem ha)) i (List.mem_range.mpr hi)
    simpa [Array.getElem?_eq_getElem hi] using q
  obtain ⟨hsets, hown0⟩ := atoms_of _ (rest_1_c_eq ▸ (show rest_1_c.before _ s = true from hrest))
  obtain ⟨i0, ei0⟩ := is_v gg3
  obtain rfl : w0 = (.int i0) := Option.some.inj ei0
  obtain ⟨i1, ei1⟩ := is_v gg5
  obtain rfl : w1 = (.int i1) := Option.some.inj ei1
  obtain ⟨i2, ei2⟩ := is_v gg7
  obtain rfl : w2 = (.int i2) := Option.some.inj ei2
  obtain ⟨i3, ei3⟩ := is_v gg9
  obtain rfl : w3 = (.int i3) := Option.some.inj ei3
  obtain ⟨i4, ei4⟩ := is_v gg10
  obtain rfl : w4 = (.int i4) := Option.some.inj ei4
  obtain ⟨cs, ev_cs⟩ := is_v (Cond.before_iff.mp (hsets _ (List.mem_of_getElem? (i := 1) rfl)))
  have SC := Sta.start ev_cs (Or.inl (hsets _ (List.mem_of_getElem? (i := 0) rfl)))
  have hcs := own_neI (not_v (Cond.before_iff.mp (hsets _ (List.mem_of_getElem? (i := 2) rfl)))) ev_cs
  have hCH : CHv s own_EL s.vm s.heap := CHv.start (own_ew hw) (fun p hp => by rcases List.mem_singleton.mp hp with rfl; exact hcalls.1 ("java/lang/String", 7) (by simp [consts_1])) (hsets _ (List.mem_of_getElem? (i := 2) rfl)) (W 22 rfl) (W 8 rfl)
  obtain ⟨n, o, h1, h2, h3, _, L, rfl, ⟨rfl, N⟩, hCr, hq⟩ := rm0 l s _ hw tables_1 i0 i1 i2 i3 i4 cs s.heap s.heap.size (Nat.le_refl _) SC hcs (Old.start s) p e ha hc hk s m _ below hf ((Spec.applies_iff_loose hf).mp happ).1 ⟨rfl, State.Warmed39.refl s, rfl, hCH⟩ trivial
  refine ⟨n, _, h1, h2, h3, hpost _ _ _ _ _ _ ⟨Cond.after_iff.mpr rfl, Cond.after_iff.mpr (eq_i res_at (Term.int_eval (1)) rfl), trivial⟩ ⟨hq.1, hq.2.1, hq.2.2.1, (hq.2.2.2.sift fun y hy => Or.inr (N y hy)).mono (by decide) (by decide)⟩⟩
theorem main_1_1 : Claimed_1_1 := comes_1 fun _ _ _ _ _ _ h hF => ⟨h.1, hF⟩
theorem main_1_2 : Claimed_1_2 := comes_1 fun _ _ _ _ _ _ h hF => ⟨h.2.1, hF⟩
end Jvm.Pilot.@@N@@
namespace Jvm.Pilot.@@N@@
open Jvm Jvm.ClassFile Sem Op Lib Jvm.Free Jvm.Stand Jvm.Pilot.@@N@@.Jvm.D
/-! MADE BY PROGRAM (witnessworld.py) out of the Statement's table words and the real class files: 19 classes; the members and pool entries that the words name. The judged class is class 1, her method 4. -/
namespace start1
open Jvm.ClassFile
def u (s : String) : CpInfo := .utf8 (stringToUtf16 s)
/-- a pool by its gaps: so many unusable entries, then the entry; so many at the end -/
def gap : Nat → List CpInfo → List CpInfo
  | 0, r => r
  | n + 1, r => .unusable :: gap n r
def poolList (es : List (Nat × CpInfo)) (last : Nat) : List CpInfo := es.foldr (fun e r => gap e.1 (e.2 :: r)) (gap last [])
def pool (es : List (Nat × CpInfo)) (last : Nat) : Array CpInfo := ⟨poolList es last⟩
def fileOf (pool : Array CpInfo) (this : Nat) (attrs : Array Attribute := #[]) (ms : Array MethodInfo := #[]) (fl : Nat := 33) (sup : Nat := 0) (ifs : Array Nat := #[]) (fds : Array FieldInfo := #[]) : ClassFile where
  minorVersion := 0
  majorVersion := 65
  constantPool := pool
  accessFlags := fl
  thisClass := this
  superClass := sup
  interfaces := ifs
  fields := fds
  methods := ms
  attributes := attrs
def plain (name : String) (sup : Option ClassId) : Class where
  name := name
  kind := .ordinary
  loader := none
  accessFlags := 33
  super := sup
  interfaces := #[]
  cf := none
  fields := #[]
  methods := #[]
  instanceTypes := #[]
  staticTypes := #[]
  resolved := #[]
  callSites := []
  init := .initialized
  statics := none
  mirror := none

def pool0 : Array CpInfo := pool [(5, u "<init>"), (0, u "()V"), (1, .class_ 10), (1, u "java/lang/Object")] 113

def k0c0 : Code := { maxStack := 0, maxLocals := 1, code := object_method_1_code, exceptionTable := #[], attributes := #[] }
def k0m0 : Method := { name := "<init>", desc := "()V", sig := { parameters := [], returnType := none }, accessFlags := 1, code := some k0c0 }
/-- java/lang/Object -/
def k0 : Class := { plain "java/lang/Object" none with
  accessFlags := 33
  interfaces := #[]
  cf := some (fileOf pool0 8 #[] #[{ accessFlags := 1, nameIndex := 5, descriptorIndex := 6, attributes := #[] }] 33 0 #[] #[])
  fields := #[]
  methods := #[k0m0]
  instanceTypes := #[]
  staticTypes := #[]
  resolved := Array.replicate 124 none
  statics := none }

def pool1 : Array CpInfo := pool [(2, .class_ 4), (1, u "java/lang/Object"), (0, u "<init>"), (0, u "()V"), (0, .class_ 8), (0, u "java/lang/String"), (0, .methodref 7 10), (0, .nameAndType 5 11), (0, u "([C)V"), (0, .methodref 13 14), (0, .class_ 15), (0, .nameAndType 16 17), (0, u "com/example/inscribe/inscribe/model/EdgeEqualsPinLaw"), (0, u "ch"), (0, u "(II)C"), (0, .class_ 19), (0, u "com/example/inscribe/inscribe/model/Edge"), (0, .methodref 13 21), (0, .nameAndType 22 23), (0, u "mk"), (0, u "(I)Ljava/lang/String;"), (0, .methodref 18 25), (0, .nameAndType 5 26), (0, u "(Ljava/lang/String;Ljava/lang/String;)V"), (0, .methodref 13 28), (0, .nameAndType 29 30), (0, u "sameKey"), (0, u "(II)Z"), (0, .methodref 18 32), (0, .nameAndType 33 34), (0, u "equals"), (0, u "(Ljava/lang/Object;)Z"), (3, u "law"), (0, u "(IIIII)Z")] 2

def k1m0 : Method := { name := "<init>", desc := "()V", sig := { parameters := [], returnType := none }, accessFlags := 1, code := none }
def k1c1 : Code := { maxStack := 2, maxLocals := 2, code := method_2_code, exceptionTable := #[], attributes := #[] }
def k1m1 : Method := { name := "ch", desc := "(II)C", sig := { parameters := [.int, .int], returnType := some .char }, accessFlags := 10, code := some k1c1 }
def k1c2 : Code := { maxStack := 7, maxLocals := 2, code := method_3_code, exceptionTable := #[], attributes := #[] }
def k1m2 : Method := { name := "mk", desc := "(I)Ljava/lang/String;", sig := { parameters := [.int], returnType := some (.object "java/lang/String") }, accessFlags := 10, code := some k1c2 }
def k1c3 : Code := { maxStack := 3, maxLocals := 4, code := method_4_code, exceptionTable := #[], attributes := #[] }
def k1m3 : Method := { name := "sameKey", desc := "(II)Z", sig := { parameters := [.int, .int], returnType := some .boolean }, accessFlags := 10, code := some k1c3 }
def k1c4 : Code := { maxStack := 4, maxLocals := 17, code := code, exceptionTable := #[], attributes := #[] }
def k1m4 : Method := { name := "law", desc := "(IIIII)Z", sig := { parameters := [.int, .int, .int, .int, .int], returnType := some .boolean }, accessFlags := 9, code := some k1c4 }
/-- com/example/inscribe/inscribe/model/EdgeEqualsPinLaw -/
def k1 : Class := { plain "com/example/inscribe/inscribe/model/EdgeEqualsPinLaw" (some 0) with
  accessFlags := 49
  interfaces := #[]
  cf := some (fileOf pool1 13 #[] #[{ accessFlags := 1, nameIndex := 5, descriptorIndex := 6, attributes := #[] }, { accessFlags := 10, nameIndex := 16, descriptorIndex := 17, attributes := #[] }, { accessFlags := 10, nameIndex := 22, descriptorIndex := 23, attributes := #[] }, { accessFlags := 10, nameIndex := 29, descriptorIndex := 30, attributes := #[] }, { accessFlags := 9, nameIndex := 38, descriptorIndex := 39, attributes := #[] }] 49 2 #[] #[])
  fields := #[]
  methods := #[k1m0, k1m1, k1m2, k1m3, k1m4]
  instanceTypes := #[]
  staticTypes := #[]
  resolved := Array.replicate 42 none
  statics := none }

def pool2 : Array CpInfo := pool [(1, .methodref 2 3), (0, .class_ 4), (0, .nameAndType 5 6), (0, u "java/lang/Object"), (0, u "<init>"), (0, u "()V"), (0, .string 8), (0, u "first"), (0, .methodref 10 11), (0, .class_ 12), (0, .nameAndType 13 14), (0, u "java/util/Objects"), (0, u "requireNonNull"), (0, u "(Ljava/lang/Object;Ljava/lang/String;)Ljava/lang/Object;"), (0, .class_ 16), (0, u "java/lang/String"), (0, .fieldref 18 19), (0, .class_ 20), (0, .nameAndType 8 21), (0, u "com/example/inscribe/inscribe/model/Edge"), (0, u "Ljava/lang/String;"), (0, .string 23), (0, u "second"), (0, .fieldref 18 25), (0, .nameAndType 23 21), (2, u "(Ljava/lang/String;Ljava/lang/String;)V"), (0, .methodref 15 30), (0, .nameAndType 31 32), (0, u "equals"), (0, u "(Ljava/lang/Object;)Z"), (91, u "LINE_SEPARATOR"), (0, u "C"), (2, u "PARAGRAPH_SEPARATOR")] 43

def k2c0 : Code := { maxStack := 3, maxLocals := 3, code := prog_68_method_1_code, exceptionTable := #[], attributes := #[] }
def k2m0 : Method := { name := "<init>", desc := "(Ljava/lang/String;Ljava/lang/String;)V", sig := { parameters := [(.object "java/lang/String"), (.object "java/lang/String")], returnType := none }, accessFlags := 1, code := some k2c0 }
def k2c1 : Code := { maxStack := 2, maxLocals := 3, code := prog_68_method_5_code, exceptionTable := #[], attributes := #[] }
def k2m1 : Method := { name := "equals", desc := "(Ljava/lang/Object;)Z", sig := { parameters := [(.object "java/lang/Object")], returnType := some .boolean }, accessFlags := 1, code := some k2c1 }
/-- com/example/inscribe/inscribe/model/Edge -/
def k2 : Class := { plain "com/example/inscribe/inscribe/model/Edge" (some 0) with
  accessFlags := 33
  interfaces := #[]
  cf := some (fileOf pool2 18 #[] #[{ accessFlags := 1, nameIndex := 5, descriptorIndex := 28, attributes := #[] }, { accessFlags := 1, nameIndex := 31, descriptorIndex := 32, attributes := #[] }] 33 2 #[] #[{ accessFlags := 26, nameIndex := 124, descriptorIndex := 125, attributes := #[] }, { accessFlags := 26, nameIndex := 128, descriptorIndex := 125, attributes := #[] }, { accessFlags := 18, nameIndex := 8, descriptorIndex := 21, attributes := #[] }, { accessFlags := 18, nameIndex := 23, descriptorIndex := 21, attributes := #[] }])
  fields := #[{ name := "LINE_SEPARATOR", type := .char, accessFlags := 26, slot := 0, constantValue := 0 }, { name := "PARAGRAPH_SEPARATOR", type := .char, accessFlags := 26, slot := 1, constantValue := 0 }, { name := "first", type := (.object "java/lang/String"), accessFlags := 18, slot := 0, constantValue := 0 }, { name := "second", type := (.object "java/lang/String"), accessFlags := 18, slot := 1, constantValue := 0 }]
  methods := #[k2m0, k2m1]
  instanceTypes := #[(.object "java/lang/String"), (.object "java/lang/String")]
  staticTypes := #[.char, .char]
  resolved := Array.replicate 172 none
  statics := none }

def pool3 : Array CpInfo := pool [(1, .class_ 2), (0, u "java/io/Serializable"), (0, .class_ 4), (0, u "java/lang/Object")] 2

/-- java/io/Serializable -/
def k3 : Class := { plain "java/io/Serializable" (some 0) with
  accessFlags := 1537
  interfaces := #[]
  cf := some (fileOf pool3 1 #[] #[] 1537 3 #[] #[])
  fields := #[]
  methods := #[]
  instanceTypes := #[]
  staticTypes := #[]
  resolved := Array.replicate 7 none
  statics := none }

def pool4 : Array CpInfo := pool [(1, .class_ 2), (0, u "java/lang/Comparable"), (0, .class_ 4), (0, u "java/lang/Object")] 7

/-- java/lang/Comparable -/
def k4 : Class := { plain "java/lang/Comparable" (some 0) with
  accessFlags := 1537
  interfaces := #[]
  cf := some (fileOf pool4 1 #[] #[] 1537 3 #[] #[])
  fields := #[]
  methods := #[]
  instanceTypes := #[]
  staticTypes := #[]
  resolved := Array.replicate 12 none
  statics := none }

def pool5 : Array CpInfo := pool [(2, .class_ 4), (1, u "java/lang/CharSequence"), (42, .class_ 48), (0, u "java/lang/CharSequence$1CodePointIterator"), (10, .class_ 60), (0, u "java/lang/CharSequence$1CharIterator"), (5, .class_ 67), (0, u "java/lang/Object")] 63

/-- java/lang/CharSequence -/
def k5 : Class := { plain "java/lang/CharSequence" (some 0) with
  accessFlags := 1537
  interfaces := #[]
  cf := some (fileOf pool5 2 #[.nestMembers #[47, 59]] #[] 1537 66 #[] #[])
  fields := #[]
  methods := #[]
  instanceTypes := #[]
  staticTypes := #[]
  resolved := Array.replicate 131 none
  statics := none }

def pool6 : Array CpInfo := pool [(1, .class_ 2), (0, u "java/lang/constant/Constable"), (0, .class_ 4), (0, u "java/lang/Object")] 6

/-- java/lang/constant/Constable -/
def k6 : Class := { plain "java/lang/constant/Constable" (some 0) with
  accessFlags := 1537
  interfaces := #[]
  cf := some (fileOf pool6 1 #[] #[] 1537 3 #[] #[])
  fields := #[]
  methods := #[]
  instanceTypes := #[]
  staticTypes := #[]
  resolved := Array.replicate 11 none
  statics := none }

def pool7 : Array CpInfo := pool [(1, .class_ 2), (0, u "java/lang/constant/ConstantDesc"), (0, .class_ 4), (0, u "java/lang/Object")] 32

/-- java/lang/constant/ConstantDesc -/
def k7 : Class := { plain "java/lang/constant/ConstantDesc" (some 0) with
  accessFlags := 1537
  interfaces := #[]
  cf := some (fileOf pool7 1 #[] #[] 1537 3 #[] #[])
  fields := #[]
  methods := #[]
  instanceTypes := #[]
  staticTypes := #[]
  resolved := Array.replicate 37 none
  statics := none }

def pool8 : Array CpInfo := pool [(1, .methodref 2 3), (0, .class_ 4), (0, .nameAndType 5 6), (0, u "java/lang/Object"), (0, u "<init>"), (0, u "()V"), (0, .string 8), (0, u ""), (0, .fieldref 10 11), (0, .class_ 12), (0, .nameAndType 13 14), (0, u "java/lang/String"), (0, u "value"), (0, u "[B"), (0, .fieldref 10 16), (0, .nameAndType 17 18), (0, u "coder"), (0, u "B"), (2, u "hash"), (0, u "I"), (2, u "hashIsZero"), (0, u "Z"), (0, .methodref 10 28), (0, .nameAndType 5 29), (0, u "([CIILjava/lang/Void;)V"), (8, .fieldref 10 39), (0, .nameAndType 40 26), (0, u "COMPACT_STRINGS"), (1, .class_ 44), (1, u "java/lang/StringUTF16"), (0, u "compress"), (1, .methodref 42 48), (0, .nameAndType 49 50), (0, u "coderFromArrayLen"), (0, u "([BI)B"), (56, .class_ 109), (1, u "java/lang/StringLatin1"), (67, .methodref 42 178), (0, .nameAndType 45 179), (0, u "([CII)[B"), (361, .methodref 107 542), (0, .nameAndType 543 544), (0, u "equals"), (0, u "([B[B)Z"), (28, u "(Ljava/lang/Object;)Z"), (1, .class_ 576), (0, u "java/lang/CharSequence"), (22, u "CASE_INSENSITIVE_ORDER"), (0, u "Ljava/util/Comparator;"), (409, u "([C)V"), (90, u "serialPersistentFields"), (0, u "[Ljava/io/ObjectStreamField;"), (0, .class_ 1104), (0, u "java/lang/String$CaseInsensitiveComparator"), (1, .class_ 1107), (0, u "java/io/Serializable"), (0, .class_ 1109), (0, u "java/lang/Comparable"), (0, .class_ 1111), (0, u "java/lang/constant/Constable"), (0, .class_ 1113), (0, u "java/lang/constant/ConstantDesc"), (2, u "serialVersionUID"), (0, u "J"), (3, u "REPL"), (0, u "C"), (2, u "LATIN1"), (1, u "UTF16")] 323

def k8m0 : Method := { name := "<init>", desc := "()V", sig := { parameters := [], returnType := none }, accessFlags := 1, code := none }
def k8c1 : Code := { maxStack := 5, maxLocals := 2, code := jdk_42_method_3_code, exceptionTable := #[], attributes := #[] }
def k8m1 : Method := { name := "<init>", desc := "([C)V", sig := { parameters := [(.array .char)], returnType := none }, accessFlags := 1, code := some k8c1 }
def k8c2 : Code := { maxStack := 2, maxLocals := 3, code := jdk_42_method_66_code, exceptionTable := #[], attributes := #[] }
def k8m2 : Method := { name := "equals", desc := "(Ljava/lang/Object;)Z", sig := { parameters := [(.object "java/lang/Object")], returnType := some .boolean }, accessFlags := 1, code := some k8c2 }
def k8c3 : Code := { maxStack := 4, maxLocals := 6, code := jdk_42_method_149_code, exceptionTable := #[], attributes := #[] }
def k8m3 : Method := { name := "<init>", desc := "([CIILjava/lang/Void;)V", sig := { parameters := [(.array .char), .int, .int, (.object "java/lang/Void")], returnType := none }, accessFlags := 2, code := some k8c3 }
/-- java/lang/String -/
def k8 : Class := { plain "java/lang/String" (some 0) with
  accessFlags := 49
  interfaces := #[3, 4, 5, 6, 7]
  cf := some (fileOf pool8 10 #[.nestMembers #[1103]] #[{ accessFlags := 1, nameIndex := 5, descriptorIndex := 6, attributes := #[] }, { accessFlags := 1, nameIndex := 5, descriptorIndex := 1010, attributes := #[] }, { accessFlags := 1, nameIndex := 543, descriptorIndex := 573, attributes := #[] }, { accessFlags := 2, nameIndex := 5, descriptorIndex := 29, attributes := #[] }] 49 2 #[1106, 1108, 575, 1110, 1112] #[{ accessFlags := 18, nameIndex := 13, descriptorIndex := 14, attributes := #[] }, { accessFlags := 18, nameIndex := 17, descriptorIndex := 18, attributes := #[] }, { accessFlags := 2, nameIndex := 21, descriptorIndex := 22, attributes := #[] }, { accessFlags := 2, nameIndex := 25, descriptorIndex := 26, attributes := #[] }, { accessFlags := 26, nameIndex := 1116, descriptorIndex := 1117, attributes := #[] }, { accessFlags := 24, nameIndex := 40, descriptorIndex := 26, attributes := #[] }, { accessFlags := 26, nameIndex := 1101, descriptorIndex := 1102, attributes := #[] }, { accessFlags := 26, nameIndex := 1121, descriptorIndex := 1122, attributes := #[] }, { accessFlags := 25, nameIndex := 599, descriptorIndex := 600, attributes := #[] }, { accessFlags := 24, nameIndex := 1125, descriptorIndex := 18, attributes := #[] }, { accessFlags := 24, nameIndex := 1127, descriptorIndex := 18, attributes := #[] }])
  fields := #[{ name := "value", type := (.array .byte), accessFlags := 18, slot := 0, constantValue := 0 }, { name := "coder", type := .byte, accessFlags := 18, slot := 1, constantValue := 0 }, { name := "hash", type := .int, accessFlags := 2, slot := 2, constantValue := 0 }, { name := "hashIsZero", type := .boolean, accessFlags := 2, slot := 3, constantValue := 0 }, { name := "serialVersionUID", type := .long, accessFlags := 26, slot := 0, constantValue := 0 }, { name := "COMPACT_STRINGS", type := .boolean, accessFlags := 24, slot := 1, constantValue := 0 }, { name := "serialPersistentFields", type := (.array (.object "java/io/ObjectStreamField")), accessFlags := 26, slot := 2, constantValue := 0 }, { name := "REPL", type := .char, accessFlags := 26, slot := 3, constantValue := 0 }, { name := "CASE_INSENSITIVE_ORDER", type := (.object "java/util/Comparator"), accessFlags := 25, slot := 4, constantValue := 0 }, { name := "LATIN1", type := .byte, accessFlags := 24, slot := 5, constantValue := 0 }, { name := "UTF16", type := .byte, accessFlags := 24, slot := 6, constantValue := 0 }]
  methods := #[k8m0, k8m1, k8m2, k8m3]
  instanceTypes := #[(.array .byte), .byte, .int, .boolean]
  staticTypes := #[.long, .boolean, (.array (.object "java/io/ObjectStreamField")), .char, (.object "java/util/Comparator"), .byte, .byte]
  resolved := Array.replicate 1451 none
  statics := some 0 }

def pool9 : Array CpInfo := pool [(6, .class_ 8), (1, u "java/lang/Object"), (0, u "<init>"), (0, u "()V"), (1, .class_ 14), (1, u "java/lang/StringUTF16"), (31, u "$assertionsDisabled"), (0, u "Z"), (13, u "HI_BYTE_SHIFT"), (0, u "I"), (2, u "LO_BYTE_SHIFT"), (49, .methodref 12 116), (0, .nameAndType 117 118), (0, u "compress"), (0, u "([CI[BII)I"), (3, u "([CII)[B"), (138, u "coderFromArrayLen"), (0, u "([BI)B"), (106, .class_ 371), (1, u "java/lang/StringUTF16$LinesSpliterator"), (58, u "MAX_LENGTH"), (196, .class_ 628), (0, u "java/lang/StringUTF16$CodePointsSpliterator"), (0, .class_ 630), (0, u "java/lang/StringUTF16$CharsSpliterator")] 4

def k9m0 : Method := { name := "<init>", desc := "()V", sig := { parameters := [], returnType := none }, accessFlags := 0, code := none }
def k9c1 : Code := { maxStack := 2, maxLocals := 2, code := jdk_52_method_15_code, exceptionTable := #[], attributes := #[] }
def k9m1 : Method := { name := "coderFromArrayLen", desc := "([BI)B", sig := { parameters := [(.array .byte), .int], returnType := some .byte }, accessFlags := 8, code := some k9c1 }
def k9c2 : Code := { maxStack := 5, maxLocals := 6, code := jdk_52_method_16_code, exceptionTable := #[], attributes := #[] }
def k9m2 : Method := { name := "compress", desc := "([CII)[B", sig := { parameters := [(.array .char), .int, .int], returnType := some (.array .byte) }, accessFlags := 9, code := some k9c2 }
def k9c3 : Code := { maxStack := 3, maxLocals := 7, code := jdk_52_method_21_code, exceptionTable := #[], attributes := #[] }
def k9m3 : Method := { name := "compress", desc := "([CI[BII)I", sig := { parameters := [(.array .char), .int, (.array .byte), .int, .int], returnType := some .int }, accessFlags := 9, code := some k9c3 }
/-- java/lang/StringUTF16 -/
def k9 : Class := { plain "java/lang/StringUTF16" (some 0) with
  accessFlags := 48
  interfaces := #[]
  cf := some (fileOf pool9 12 #[.nestMembers #[627, 629, 369]] #[{ accessFlags := 0, nameIndex := 9, descriptorIndex := 10, attributes := #[] }, { accessFlags := 8, nameIndex := 261, descriptorIndex := 262, attributes := #[] }, { accessFlags := 9, nameIndex := 117, descriptorIndex := 122, attributes := #[] }, { accessFlags := 9, nameIndex := 117, descriptorIndex := 118, attributes := #[] }] 48 6 #[] #[{ accessFlags := 26, nameIndex := 61, descriptorIndex := 62, attributes := #[] }, { accessFlags := 26, nameIndex := 65, descriptorIndex := 62, attributes := #[] }, { accessFlags := 24, nameIndex := 430, descriptorIndex := 62, attributes := #[] }, { accessFlags := 4120, nameIndex := 46, descriptorIndex := 47, attributes := #[] }])
  fields := #[{ name := "HI_BYTE_SHIFT", type := .int, accessFlags := 26, slot := 0, constantValue := 0 }, { name := "LO_BYTE_SHIFT", type := .int, accessFlags := 26, slot := 1, constantValue := 0 }, { name := "MAX_LENGTH", type := .int, accessFlags := 24, slot := 2, constantValue := 0 }, { name := "$assertionsDisabled", type := .boolean, accessFlags := 4120, slot := 3, constantValue := 0 }]
  methods := #[k9m0, k9m1, k9m2, k9m3]
  instanceTypes := #[]
  staticTypes := #[.int, .int, .int, .boolean]
  resolved := Array.replicate 635 none
  statics := none }

def pool10 : Array CpInfo := pool [(2, .class_ 4), (1, u "java/lang/Object"), (0, u "<init>"), (0, u "()V"), (35, .class_ 44), (1, u "java/util/Objects"), (0, u "requireNonNull"), (48, u "(Ljava/lang/Object;Ljava/lang/String;)Ljava/lang/Object;")] 89

def k10m0 : Method := { name := "<init>", desc := "()V", sig := { parameters := [], returnType := none }, accessFlags := 2, code := none }
def k10c1 : Code := { maxStack := 3, maxLocals := 2, code := jdk_31_method_11_code, exceptionTable := #[], attributes := #[] }
def k10m1 : Method := { name := "requireNonNull", desc := "(Ljava/lang/Object;Ljava/lang/String;)Ljava/lang/Object;", sig := { parameters := [(.object "java/lang/Object"), (.object "java/lang/String")], returnType := some (.object "java/lang/Object") }, accessFlags := 9, code := some k10c1 }
/-- java/util/Objects -/
def k10 : Class := { plain "java/util/Objects" (some 0) with
  accessFlags := 49
  interfaces := #[]
  cf := some (fileOf pool10 42 #[] #[{ accessFlags := 2, nameIndex := 5, descriptorIndex := 6, attributes := #[] }, { accessFlags := 9, nameIndex := 45, descriptorIndex := 94, attributes := #[] }] 49 2 #[] #[])
  fields := #[]
  methods := #[k10m0, k10m1]
  instanceTypes := #[]
  staticTypes := #[]
  resolved := Array.replicate 184 none
  statics := none }

def pool11 : Array CpInfo := pool [(4, .class_ 6), (1, u "java/lang/Object"), (0, u "<init>"), (0, u "()V"), (5, .class_ 16), (1, u "java/lang/StringLatin1"), (104, u "$assertionsDisabled"), (0, u "Z"), (98, .class_ 223), (1, u "java/lang/StringLatin1$LinesSpliterator"), (57, u "equals"), (0, u "([B[B)Z"), (107, .class_ 391), (0, u "java/lang/StringLatin1$CharsSpliterator")] 3

def k11m0 : Method := { name := "<init>", desc := "()V", sig := { parameters := [], returnType := none }, accessFlags := 0, code := none }
def k11c1 : Code := { maxStack := 3, maxLocals := 3, code := jdk_43_method_13_code, exceptionTable := #[], attributes := #[] }
def k11m1 : Method := { name := "equals", desc := "([B[B)Z", sig := { parameters := [(.array .byte), (.array .byte)], returnType := some .boolean }, accessFlags := 9, code := some k11c1 }
/-- java/lang/StringLatin1 -/
def k11 : Class := { plain "java/lang/StringLatin1" (some 0) with
  accessFlags := 48
  interfaces := #[]
  cf := some (fileOf pool11 14 #[.nestMembers #[390, 221]] #[{ accessFlags := 0, nameIndex := 7, descriptorIndex := 8, attributes := #[] }, { accessFlags := 9, nameIndex := 281, descriptorIndex := 282, attributes := #[] }] 48 4 #[] #[{ accessFlags := 4120, nameIndex := 121, descriptorIndex := 122, attributes := #[] }])
  fields := #[{ name := "$assertionsDisabled", type := .boolean, accessFlags := 4120, slot := 0, constantValue := 0 }]
  methods := #[k11m0, k11m1]
  instanceTypes := #[]
  staticTypes := #[.boolean]
  resolved := Array.replicate 395 none
  statics := none }

def pool12 : Array CpInfo := pool [(2, .class_ 4), (1, u "java/lang/Object"), (0, u "<init>"), (0, u "()V"), (17, .class_ 26), (1, u "jdk/internal/util/Preconditions"), (28, .class_ 56), (0, u "jdk/internal/util/Preconditions$4"), (57, .class_ 115), (0, u "jdk/internal/util/Preconditions$1"), (7, u "SIOOBE_FORMATTER"), (0, u "Ljava/util/function/BiFunction;"), (0, .class_ 126), (0, u "jdk/internal/util/Preconditions$2"), (3, u "AIOOBE_FORMATTER"), (0, .class_ 132), (0, u "jdk/internal/util/Preconditions$3"), (3, u "IOOBE_FORMATTER")] 57

def k12m0 : Method := { name := "<init>", desc := "()V", sig := { parameters := [], returnType := none }, accessFlags := 1, code := none }
/-- jdk/internal/util/Preconditions -/
def k12 : Class := { plain "jdk/internal/util/Preconditions" (some 0) with
  accessFlags := 33
  interfaces := #[]
  cf := some (fileOf pool12 24 #[.nestMembers #[55, 131, 125, 114]] #[{ accessFlags := 1, nameIndex := 5, descriptorIndex := 6, attributes := #[] }] 33 2 #[] #[{ accessFlags := 25, nameIndex := 123, descriptorIndex := 124, attributes := #[] }, { accessFlags := 25, nameIndex := 130, descriptorIndex := 124, attributes := #[] }, { accessFlags := 25, nameIndex := 136, descriptorIndex := 124, attributes := #[] }])
  fields := #[{ name := "SIOOBE_FORMATTER", type := (.object "java/util/function/BiFunction"), accessFlags := 25, slot := 0, constantValue := 0 }, { name := "AIOOBE_FORMATTER", type := (.object "java/util/function/BiFunction"), accessFlags := 25, slot := 1, constantValue := 0 }, { name := "IOOBE_FORMATTER", type := (.object "java/util/function/BiFunction"), accessFlags := 25, slot := 2, constantValue := 0 }]
  methods := #[k12m0]
  instanceTypes := #[]
  staticTypes := #[(.object "java/util/function/BiFunction"), (.object "java/util/function/BiFunction"), (.object "java/util/function/BiFunction")]
  resolved := Array.replicate 194 none
  statics := some 1 }

def pool13 : Array CpInfo := pool [(9, u "<init>"), (6, .class_ 18), (1, u "java/lang/Object"), (0, u "()V"), (1, .class_ 23), (1, u "jdk/internal/util/ArraysSupport"), (0, u "LOG2_ARRAY_LONG_INDEX_SCALE"), (0, u "I"), (2, u "U"), (0, u "Ljdk/internal/misc/Unsafe;"), (8, u "BIG_ENDIAN"), (0, u "Z"), (8, u "LOG2_BYTE_BIT_SIZE"), (4, u "LOG2_ARRAY_INT_INDEX_SCALE"), (54, u "JLA"), (0, u "Ljdk/internal/access/JavaLangAccess;"), (11, u "LOG2_ARRAY_BOOLEAN_INDEX_SCALE"), (9, u "LOG2_ARRAY_BYTE_INDEX_SCALE"), (5, u "LOG2_ARRAY_CHAR_INDEX_SCALE"), (5, u "LOG2_ARRAY_SHORT_INDEX_SCALE"), (18, u "LOG2_ARRAY_FLOAT_INDEX_SCALE"), (24, u "LOG2_ARRAY_DOUBLE_INDEX_SCALE"), (89, u "T_BOOLEAN"), (2, u "T_CHAR"), (1, u "T_FLOAT"), (1, u "T_DOUBLE"), (1, u "T_BYTE"), (1, u "T_SHORT"), (1, u "T_INT"), (1, u "T_LONG"), (1, u "SOFT_MAX_ARRAY_LENGTH")] 83

def k13m0 : Method := { name := "<init>", desc := "()V", sig := { parameters := [], returnType := none }, accessFlags := 2, code := none }
/-- jdk/internal/util/ArraysSupport -/
def k13 : Class := { plain "jdk/internal/util/ArraysSupport" (some 0) with
  accessFlags := 33
  interfaces := #[]
  cf := some (fileOf pool13 21 #[] #[{ accessFlags := 2, nameIndex := 9, descriptorIndex := 19, attributes := #[] }] 33 16 #[] #[{ accessFlags := 24, nameIndex := 28, descriptorIndex := 29, attributes := #[] }, { accessFlags := 26, nameIndex := 38, descriptorIndex := 39, attributes := #[] }, { accessFlags := 25, nameIndex := 121, descriptorIndex := 25, attributes := #[] }, { accessFlags := 25, nameIndex := 131, descriptorIndex := 25, attributes := #[] }, { accessFlags := 25, nameIndex := 137, descriptorIndex := 25, attributes := #[] }, { accessFlags := 25, nameIndex := 143, descriptorIndex := 25, attributes := #[] }, { accessFlags := 25, nameIndex := 53, descriptorIndex := 25, attributes := #[] }, { accessFlags := 25, nameIndex := 24, descriptorIndex := 25, attributes := #[] }, { accessFlags := 25, nameIndex := 162, descriptorIndex := 25, attributes := #[] }, { accessFlags := 25, nameIndex := 187, descriptorIndex := 25, attributes := #[] }, { accessFlags := 26, nameIndex := 48, descriptorIndex := 25, attributes := #[] }, { accessFlags := 25, nameIndex := 277, descriptorIndex := 25, attributes := #[] }, { accessFlags := 25, nameIndex := 280, descriptorIndex := 25, attributes := #[] }, { accessFlags := 25, nameIndex := 282, descriptorIndex := 25, attributes := #[] }, { accessFlags := 25, nameIndex := 284, descriptorIndex := 25, attributes := #[] }, { accessFlags := 25, nameIndex := 286, descriptorIndex := 25, attributes := #[] }, { accessFlags := 25, nameIndex := 288, descriptorIndex := 25, attributes := #[] }, { accessFlags := 25, nameIndex := 290, descriptorIndex := 25, attributes := #[] }, { accessFlags := 25, nameIndex := 292, descriptorIndex := 25, attributes := #[] }, { accessFlags := 26, nameIndex := 108, descriptorIndex := 109, attributes := #[] }, { accessFlags := 25, nameIndex := 294, descriptorIndex := 25, attributes := #[] }])
  fields := #[{ name := "U", type := (.object "jdk/internal/misc/Unsafe"), accessFlags := 24, slot := 0, constantValue := 0 }, { name := "BIG_ENDIAN", type := .boolean, accessFlags := 26, slot := 1, constantValue := 0 }, { name := "LOG2_ARRAY_BOOLEAN_INDEX_SCALE", type := .int, accessFlags := 25, slot := 2, constantValue := 0 }, { name := "LOG2_ARRAY_BYTE_INDEX_SCALE", type := .int, accessFlags := 25, slot := 3, constantValue := 0 }, { name := "LOG2_ARRAY_CHAR_INDEX_SCALE", type := .int, accessFlags := 25, slot := 4, constantValue := 0 }, { name := "LOG2_ARRAY_SHORT_INDEX_SCALE", type := .int, accessFlags := 25, slot := 5, constantValue := 0 }, { name := "LOG2_ARRAY_INT_INDEX_SCALE", type := .int, accessFlags := 25, slot := 6, constantValue := 0 }, { name := "LOG2_ARRAY_LONG_INDEX_SCALE", type := .int, accessFlags := 25, slot := 7, constantValue := 0 }, { name := "LOG2_ARRAY_FLOAT_INDEX_SCALE", type := .int, accessFlags := 25, slot := 8, constantValue := 0 }, { name := "LOG2_ARRAY_DOUBLE_INDEX_SCALE", type := .int, accessFlags := 25, slot := 9, constantValue := 0 }, { name := "LOG2_BYTE_BIT_SIZE", type := .int, accessFlags := 26, slot := 10, constantValue := 0 }, { name := "T_BOOLEAN", type := .int, accessFlags := 25, slot := 11, constantValue := 0 }, { name := "T_CHAR", type := .int, accessFlags := 25, slot := 12, constantValue := 0 }, { name := "T_FLOAT", type := .int, accessFlags := 25, slot := 13, constantValue := 0 }, { name := "T_DOUBLE", type := .int, accessFlags := 25, slot := 14, constantValue := 0 }, { name := "T_BYTE", type := .int, accessFlags := 25, slot := 15, constantValue := 0 }, { name := "T_SHORT", type := .int, accessFlags := 25, slot := 16, constantValue := 0 }, { name := "T_INT", type := .int, accessFlags := 25, slot := 17, constantValue := 0 }, { name := "T_LONG", type := .int, accessFlags := 25, slot := 18, constantValue := 0 }, { name := "JLA", type := (.object "jdk/internal/access/JavaLangAccess"), accessFlags := 26, slot := 19, constantValue := 0 }, { name := "SOFT_MAX_ARRAY_LENGTH", type := .int, accessFlags := 25, slot := 20, constantValue := 0 }]
  methods := #[k13m0]
  instanceTypes := #[]
  staticTypes := #[(.object "jdk/internal/misc/Unsafe"), .boolean, .int, .int, .int, .int, .int, .int, .int, .int, .int, .int, .int, .int, .int, .int, .int, .int, .int, (.object "jdk/internal/access/JavaLangAccess"), .int]
  resolved := Array.replicate 378 none
  statics := none }

def pool14 : Array CpInfo := pool [(1, u "java/lang/Cloneable"), (0, .class_ 1), (0, u "java/lang/Object"), (0, .class_ 3)] 3

/-- java/lang/Cloneable -/
def k14 : Class := { plain "java/lang/Cloneable" (some 0) with
  accessFlags := 1537
  interfaces := #[]
  cf := some (fileOf pool14 2 #[] #[] 1537 4 #[] #[])
  fields := #[]
  methods := #[]
  instanceTypes := #[]
  staticTypes := #[]
  resolved := Array.replicate 8 none
  statics := none }

/-- the primitive byte -/
def k15 : Class := { plain "byte" none with kind := .primitive 'B', accessFlags := 0x411 }
/-- [B -/
def k16 : Class := { plain "[B" (some 0) with kind := .array 15 .byte, interfaces := #[14, 3], accessFlags := 1041 }

/-- the primitive char -/
def k17 : Class := { plain "char" none with kind := .primitive 'C', accessFlags := 0x411 }
/-- [C -/
def k18 : Class := { plain "[C" (some 0) with kind := .array 17 .char, interfaces := #[14, 3], accessFlags := 1041 }

def heap : Heap := #[{ cls := 8, slots := #[.long 0, .int 1, .null, .int 0, .null, .int 0, .int 0], vm := .statics 8 },
  { cls := 12, slots := #[.null, .null, .null], vm := .statics 12 }]
def classes : Array Class := #[k0, k1, k2, k3, k4, k5, k6, k7, k8, k9, k10, k11, k12, k13, k14, k15, k16, k17, k18]
def interned : List (Array UInt16 × Addr) := []
def slotsUsed : Nat := 10
def theMethod : MethodId := ⟨1, 4⟩
def args0 : Array Value := #[.int 1830, .int 77, .int 1830, .int 19, .int 3]
def aboutOver (below : List Frame) : State where
  vm := { classes := classes, interned := interned.toArray }
  heap := heap
  slotsUsed := slotsUsed
  threads := #[{ frames := .invoking theMethod args0 :: below }]
def below0 : List Frame := [.native { method := ⟨0, 0⟩, args := #[] }]
def about1 : State := aboutOver below0
def p0 : Program := .bare "" "" ""
def e0 : Env := launch0.env 0 0 0
theorem w_frames : about1.frames = Frame.invoking theMethod args0 :: below0 := rfl
set_option maxRecDepth 65536 in
theorem w_args : argsFit about1.vm theMethod args0 = true := by decide +kernel
set_option maxRecDepth 65536 in
theorem w_heap : heapFits about1 = true := by decide +kernel
set_option maxRecDepth 65536 in
theorem w_runnable : about1.curStatus? = some .runnable := by decide +kernel
set_option maxRecDepth 65536 in
theorem w_alone : about1.alone = true := by decide +kernel
set_option maxRecDepth 65536 in
theorem w_named : about1.methodNamed? x = some theMethod := by decide +kernel
set_option maxRecDepth 65536 in
theorem w_hears : about1.hears theMethod below0 = true := by decide +kernel
set_option maxRecDepth 65536 in
theorem w_ripe : about1.ripe theMethod args0 below0 = true := by decide +kernel
theorem w_running : about1.status = .running := rfl
set_option maxRecDepth 65536 in
theorem w_room : about1.hasRoom e0.platform room_1 = true :=
  launch0.hasRoom_least _ room_1 (by decide +kernel) (by decide +kernel) (by decide +kernel) (by decide +kernel) (by decide +kernel) (by decide +kernel)
theorem allAtoms_all (ts : List Jvm.Cond) (a : Array Jvm.Value) (st : Jvm.State) : (allAtoms ts).before a st = ts.all (fun c => c.before a st) := by
  induction ts with
  | nil => rfl
  | cons c t ih =>
    show (Jvm.Cond.and c (allAtoms t)).before a st = _
    rw [Jvm.Cond.before_and, ih, List.all_cons]
def words1 : List Jvm.Cond := Jvm.Cond.code x code maxLocals ret :: tables_1
/-- a 'code' word, met by the world's own term for the bytes: nothing is compared byte by byte -/
theorem code_word {y : MethodName} {bytes : ByteArray} {mx : Nat} {rt : Option FieldType} {a : Array Value} {s : State} {m : MethodId} {meth : Method} {c : Code} (h1 : s.methodNamed? y = some m) (h2 : s.vm.method? m = some meth) (h3 : meth.code = some c) (h4 : c.code = bytes)
    (h5 : (c.maxLocals == mx && c.exceptionTable.isEmpty && decide (c.maxStack ≤ mostOperands) && decide (meth.sig.returnType = rt) && !meth.locks && decide (parseMethodDescriptor y.desc = some meth.sig)) = true) : (Jvm.Cond.code y bytes mx rt).before a s = true := by
  simp only [Bool.and_eq_true, beq_iff_eq, Bool.not_eq_true', decide_eq_true_eq] at h5
  obtain ⟨⟨⟨⟨⟨g1, g2⟩, g3⟩, g4⟩, g5⟩, g6⟩ := h5
  simp [Cond.before, Cond.holds, Cond.value, h1, h2, h3, h4, g1, g2, g3, g4, g5, g6]
def isCode : Jvm.Cond → Bool
  | .code _ _ _ _ => true
  | _ => false
theorem all_split {L : List Jvm.Cond} {P : Jvm.Cond → Bool} (h1 : L.all (fun c => isCode c || P c) = true) (h2 : ∀ c ∈ L.filter isCode, P c = true) : L.all P = true := by
  refine List.all_eq_true.mpr fun c hc => ?_
  have h := List.all_eq_true.mp h1 c hc
  rcases Bool.eq_false_or_eq_true (isCode c) with hi | hi
  · exact h2 c (List.mem_filter.mpr ⟨hc, hi⟩)
  · simpa [hi] using h
set_option maxRecDepth 65536 in
theorem w_c0 : (Jvm.Cond.code x code maxLocals ret).before args0 about1 = true := code_word (m := ⟨1, 4⟩) (meth := k1m4) (c := k1c4) (by decide +kernel) rfl rfl rfl (by decide +kernel)
set_option maxRecDepth 65536 in
theorem w_c1 : (Jvm.Cond.code ({ cls := "com/example/inscribe/inscribe/model/EdgeEqualsPinLaw", name := "mk", desc := "(I)Ljava/lang/String;" } : Jvm.MethodName) method_3_code (2 : Nat) (Option.some (Jvm.ClassFile.FieldType.object "java/lang/String"))).before args0 about1 = true := code_word (m := ⟨1, 2⟩) (meth := k1m2) (c := k1c2) (by decide +kernel) rfl rfl rfl (by decide +kernel)
set_option maxRecDepth 65536 in
theorem w_c2 : (Jvm.Cond.code ({ cls := "java/lang/String", name := "<init>", desc := "([C)V" } : Jvm.MethodName) jdk_42_method_3_code (2 : Nat) (Option.none : Option Jvm.ClassFile.FieldType)).before args0 about1 = true := code_word (m := ⟨8, 1⟩) (meth := k8m1) (c := k8c1) (by decide +kernel) rfl rfl rfl (by decide +kernel)
set_option maxRecDepth 65536 in
theorem w_c3 : (Jvm.Cond.code ({ cls := "java/lang/String", name := "<init>", desc := "([CIILjava/lang/Void;)V" } : Jvm.MethodName) jdk_42_method_149_code (6 : Nat) (Option.none : Option Jvm.ClassFile.FieldType)).before args0 about1 = true := code_word (m := ⟨8, 3⟩) (meth := k8m3) (c := k8c3) (by decide +kernel) rfl rfl rfl (by decide +kernel)
set_option maxRecDepth 65536 in
theorem w_c4 : (Jvm.Cond.code ({ cls := "java/lang/Object", name := "<init>", desc := "()V" } : Jvm.MethodName) object_method_1_code (1 : Nat) (Option.none : Option Jvm.ClassFile.FieldType)).before args0 about1 = true := code_word (m := ⟨0, 0⟩) (meth := k0m0) (c := k0c0) (by decide +kernel) rfl rfl rfl (by decide +kernel)
set_option maxRecDepth 65536 in
theorem w_c5 : (Jvm.Cond.code ({ cls := "com/example/inscribe/inscribe/model/EdgeEqualsPinLaw", name := "ch", desc := "(II)C" } : Jvm.MethodName) method_2_code (2 : Nat) (Option.some Jvm.ClassFile.FieldType.char)).before args0 about1 = true := code_word (m := ⟨1, 1⟩) (meth := k1m1) (c := k1c1) (by decide +kernel) rfl rfl rfl (by decide +kernel)
set_option maxRecDepth 65536 in
theorem w_c6 : (Jvm.Cond.code ({ cls := "java/lang/StringUTF16", name := "compress", desc := "([CII)[B" } : Jvm.MethodName) jdk_52_method_16_code (6 : Nat) (Option.some (Jvm.ClassFile.FieldType.array Jvm.ClassFile.FieldType.byte))).before args0 about1 = true := code_word (m := ⟨9, 2⟩) (meth := k9m2) (c := k9c2) (by decide +kernel) rfl rfl rfl (by decide +kernel)
set_option maxRecDepth 65536 in
theorem w_c7 : (Jvm.Cond.code ({ cls := "java/lang/StringUTF16", name := "compress", desc := "([CI[BII)I" } : Jvm.MethodName) jdk_52_method_21_code (7 : Nat) (Option.some Jvm.ClassFile.FieldType.int)).before args0 about1 = true := code_word (m := ⟨9, 3⟩) (meth := k9m3) (c := k9c3) (by decide +kernel) rfl rfl rfl (by decide +kernel)
set_option maxRecDepth 65536 in
theorem w_c8 : (Jvm.Cond.code ({ cls := "java/lang/StringUTF16", name := "coderFromArrayLen", desc := "([BI)B" } : Jvm.MethodName) jdk_52_method_15_code (2 : Nat) (Option.some Jvm.ClassFile.FieldType.byte)).before args0 about1 = true := code_word (m := ⟨9, 1⟩) (meth := k9m1) (c := k9c1) (by decide +kernel) rfl rfl rfl (by decide +kernel)
set_option maxRecDepth 65536 in
theorem w_c9 : (Jvm.Cond.code ({ cls := "com/example/inscribe/inscribe/model/Edge", name := "<init>", desc := "(Ljava/lang/String;Ljava/lang/String;)V" } : Jvm.MethodName) prog_68_method_1_code (3 : Nat) (Option.none : Option Jvm.ClassFile.FieldType)).before args0 about1 = true := code_word (m := ⟨2, 0⟩) (meth := k2m0) (c := k2c0) (by decide +kernel) rfl rfl rfl (by decide +kernel)
set_option maxRecDepth 65536 in
theorem w_c10 : (Jvm.Cond.code ({ cls := "java/util/Objects", name := "requireNonNull", desc := "(Ljava/lang/Object;Ljava/lang/String;)Ljava/lang/Object;" } : Jvm.MethodName) jdk_31_method_11_code (2 : Nat) (Option.some (Jvm.ClassFile.FieldType.object "java/lang/Object"))).before args0 about1 = true := code_word (m := ⟨10, 1⟩) (meth := k10m1) (c := k10c1) (by decide +kernel) rfl rfl rfl (by decide +kernel)
set_option maxRecDepth 65536 in
theorem w_c11 : (Jvm.Cond.code ({ cls := "com/example/inscribe/inscribe/model/EdgeEqualsPinLaw", name := "sameKey", desc := "(II)Z" } : Jvm.MethodName) method_4_code (4 : Nat) (Option.some Jvm.ClassFile.FieldType.boolean)).before args0 about1 = true := code_word (m := ⟨1, 3⟩) (meth := k1m3) (c := k1c3) (by decide +kernel) rfl rfl rfl (by decide +kernel)
set_option maxRecDepth 65536 in
theorem w_c12 : (Jvm.Cond.code ({ cls := "com/example/inscribe/inscribe/model/Edge", name := "equals", desc := "(Ljava/lang/Object;)Z" } : Jvm.MethodName) prog_68_method_5_code (3 : Nat) (Option.some Jvm.ClassFile.FieldType.boolean)).before args0 about1 = true := code_word (m := ⟨2, 1⟩) (meth := k2m1) (c := k2c1) (by decide +kernel) rfl rfl rfl (by decide +kernel)
set_option maxRecDepth 65536 in
theorem w_c13 : (Jvm.Cond.code ({ cls := "java/lang/String", name := "equals", desc := "(Ljava/lang/Object;)Z" } : Jvm.MethodName) jdk_42_method_66_code (3 : Nat) (Option.some Jvm.ClassFile.FieldType.boolean)).before args0 about1 = true := code_word (m := ⟨8, 2⟩) (meth := k8m2) (c := k8c2) (by decide +kernel) rfl rfl rfl (by decide +kernel)
set_option maxRecDepth 65536 in
theorem w_c14 : (Jvm.Cond.code ({ cls := "java/lang/StringLatin1", name := "equals", desc := "([B[B)Z" } : Jvm.MethodName) jdk_43_method_13_code (3 : Nat) (Option.some Jvm.ClassFile.FieldType.boolean)).before args0 about1 = true := code_word (m := ⟨11, 1⟩) (meth := k11m1) (c := k11c1) (by decide +kernel) rfl rfl rfl (by decide +kernel)
def codes1 : List Jvm.Cond := [Jvm.Cond.code x code maxLocals ret, Jvm.Cond.code ({ cls := "com/example/inscribe/inscribe/model/EdgeEqualsPinLaw", name := "mk", desc := "(I)Ljava/lang/String;" } : Jvm.MethodName) method_3_code (2 : Nat) (Option.some (Jvm.ClassFile.FieldType.object "java/lang/String")), Jvm.Cond.code ({ cls := "java/lang/String", name := "<init>", desc := "([C)V" } : Jvm.MethodName) jdk_42_method_3_code (2 : Nat) (Option.none : Option Jvm.ClassFile.FieldType), Jvm.Cond.code ({ cls := "java/lang/String", name := "<init>", desc := "([CIILjava/lang/Void;)V" } : Jvm.MethodName) jdk_42_method_149_code (6 : Nat) (Option.none : Option Jvm.ClassFile.FieldType), Jvm.Cond.code ({ cls := "java/lang/Object", name := "<init>", desc := "()V" } : Jvm.MethodName) object_method_1_code (1 : Nat) (Option.none : Option Jvm.ClassFile.FieldType), Jvm.Cond.code ({ cls := "com/example/inscribe/inscribe/model/EdgeEqualsPinLaw", name := "ch", desc := "(II)C" } : Jvm.MethodName) method_2_code (2 : Nat) (Option.some Jvm.ClassFile.FieldType.char), Jvm.Cond.code ({ cls := "java/lang/StringUTF16", name := "compress", desc := "([CII)[B" } : Jvm.MethodName) jdk_52_method_16_code (6 : Nat) (Option.some (Jvm.ClassFile.FieldType.array Jvm.ClassFile.FieldType.byte)), Jvm.Cond.code ({ cls := "java/lang/StringUTF16", name := "compress", desc := "([CI[BII)I" } : Jvm.MethodName) jdk_52_method_21_code (7 : Nat) (Option.some Jvm.ClassFile.FieldType.int), Jvm.Cond.code ({ cls := "java/lang/StringUTF16", name := "coderFromArrayLen", desc := "([BI)B" } : Jvm.MethodName) jdk_52_method_15_code (2 : Nat) (Option.some Jvm.ClassFile.FieldType.byte), Jvm.Cond.code ({ cls := "com/example/inscribe/inscribe/model/Edge", name := "<init>", desc := "(Ljava/lang/String;Ljava/lang/String;)V" } : Jvm.MethodName) prog_68_method_1_code (3 : Nat) (Option.none : Option Jvm.ClassFile.FieldType), Jvm.Cond.code ({ cls := "java/util/Objects", name := "requireNonNull", desc := "(Ljava/lang/Object;Ljava/lang/String;)Ljava/lang/Object;" } : Jvm.MethodName) jdk_31_method_11_code (2 : Nat) (Option.some (Jvm.ClassFile.FieldType.object "java/lang/Object")), Jvm.Cond.code ({ cls := "com/example/inscribe/inscribe/model/EdgeEqualsPinLaw", name := "sameKey", desc := "(II)Z" } : Jvm.MethodName) method_4_code (4 : Nat) (Option.some Jvm.ClassFile.FieldType.boolean), Jvm.Cond.code ({ cls := "com/example/inscribe/inscribe/model/Edge", name := "equals", desc := "(Ljava/lang/Object;)Z" } : Jvm.MethodName) prog_68_method_5_code (3 : Nat) (Option.some Jvm.ClassFile.FieldType.boolean), Jvm.Cond.code ({ cls := "java/lang/String", name := "equals", desc := "(Ljava/lang/Object;)Z" } : Jvm.MethodName) jdk_42_method_66_code (3 : Nat) (Option.some Jvm.ClassFile.FieldType.boolean), Jvm.Cond.code ({ cls := "java/lang/StringLatin1", name := "equals", desc := "([B[B)Z" } : Jvm.MethodName) jdk_43_method_13_code (3 : Nat) (Option.some Jvm.ClassFile.FieldType.boolean)]
set_option maxRecDepth 65536 in
theorem codes_eq : words1.filter isCode = codes1 := rfl
theorem w_codes : ∀ c ∈ words1.filter isCode, c.before args0 about1 = true := by
  rw [codes_eq]
  intro c hc
  simp only [codes1, List.mem_cons, List.not_mem_nil, or_false] at hc
  rcases hc with rfl | rfl | rfl | rfl | rfl | rfl | rfl | rfl | rfl | rfl | rfl | rfl | rfl | rfl | rfl
  · exact w_c0
  · exact w_c1
  · exact w_c2
  · exact w_c3
  · exact w_c4
  · exact w_c5
  · exact w_c6
  · exact w_c7
  · exact w_c8
  · exact w_c9
  · exact w_c10
  · exact w_c11
  · exact w_c12
  · exact w_c13
  · exact w_c14
set_option maxRecDepth 65536 in
theorem w_t1 : (words1.take 24).all (fun c => isCode c || c.before args0 about1) = true := by decide +kernel
set_option maxRecDepth 65536 in
theorem w_t2 : ((words1.drop 24).take 24).all (fun c => isCode c || c.before args0 about1) = true := by decide +kernel
set_option maxRecDepth 65536 in
theorem w_t3 : (((words1.drop 24).drop 24).take 24).all (fun c => isCode c || c.before args0 about1) = true := by decide +kernel
set_option maxRecDepth 65536 in
theorem w_t4 : (((words1.drop 24).drop 24).drop 24).all (fun c => isCode c || c.before args0 about1) = true := by decide +kernel
theorem w_tables : (allAtoms (Jvm.Cond.code x code maxLocals ret :: tables_1)).before args0 about1 = true := by
  rw [allAtoms_all]
  show words1.all (fun c => c.before args0 about1) = true
  refine all_split ?_ w_codes
  rw [← List.take_append_drop 24 words1, List.all_append, w_t1, ← List.take_append_drop 24 (words1.drop 24), List.all_append, w_t2, ← List.take_append_drop 24 ((words1.drop 24).drop 24), List.all_append, w_t3, w_t4]
  rfl
set_option maxRecDepth 65536 in
theorem w_rest : rest_1_c.before args0 about1 = true := by decide +kernel
set_option maxRecDepth 65536 in
theorem w_case : (Jvm.Cond.and given_1 narrow_1).before args0 about1 = true := by decide +kernel
set_option maxRecDepth 65536 in
theorem w_consts : constsHeld consts_1 about1 := Jvm.Lit.constsHeldB_iff.mp (by decide +kernel)
theorem w_applies : (headSpec (Jvm.Cond.code x code maxLocals ret :: tables_1) room_1).applies x e0.platform about1 = true :=
  (Spec.applies_iff w_frames).mpr ⟨w_running, w_runnable, w_alone, w_named, w_hears, w_ripe, w_room, w_tables⟩
theorem atStart : AtStart classFile x code maxLocals ret World_1 tables_1 room_1 Calls_1 rest_1 Pre_1 launch0 p0 e0 about1 theMethod args0 below0 :=
  ⟨lists_1, trivial, launch0.admits_env _ _ _, launch0.least_env, fairChoices_fair.cas, fairChoices_fair.clock, w_frames, w_args, w_heap, w_applies, ⟨w_consts, trivial⟩, w_rest, w_case⟩
end start1
theorem witness_1 : WitnessClaimed_1 := ⟨start1.p0, start1.e0, start1.about1, start1.theMethod, start1.args0, start1.below0, start1.atStart⟩
end Jvm.Pilot.@@N@@
