import JvmDerived
import JvmDerived.Pilot.@@N@@Statement
import JvmDerived.Pilot.@@N@@Code
set_option linter.unusedVariables false
set_option linter.unusedSimpArgs false
namespace Jvm.RoadKit
open Sem ClassFile Op Lib Jvm.Stand Jvm.Free Jvm.LawKit
section New
variable {p : Program} {l : Launch} {e : Env} {R : Room} {s : State} {m : MethodId} {args : Array Value} {below : List Frame} {meth : Method} {c : Code} {T : State} {locs : List Loc} {cells slots : Nat}
theorem retI (X : Stand p l e R s m args below meth c T locs cells slots) (hx : p.tables.exec = Jvm.exec) {pc : Nat} {Ls : Array Slot} {z : Int32} {rest : List Value} (hret : meth.sig.returnType = some .int) (hd : decode c.code pc = .ok (.ireturn, 1)) {fs : List Frame}
    (hl : ∀ (f : JFrame) (acts : List Action), f.method = m → f.locked = none → f.entered = [] → (doReturn e (T.setTop f) acts (some (.int z))).1 = T.setFrames fs) : Steps p.tables e below (T.setTop (mkF m pc Ls (.int z :: rest))) (T.setFrames fs) := by
  have hm' : T.vm.method? m = some meth := X.method'
  have hn : narrow .int (.int z) = .int z := rfl
  show Steps p.tables e below (T.setTop { method := m, pc := pc, locals := Ls, stack := _ :: rest, locked := none }) _
  jvm_step X.here [X.here.top, hx, hd, hm', hret, hn]
  first | (intro acts; rw [hl _ acts rfl rfl rfl]) | rw [hl _ _ rfl rfl rfl]
  exact Steps.refl _
end New
end Jvm.RoadKit
namespace Jvm.Pilot.@@N@@
open Jvm Jvm.ClassFile Sem Op Lib Jvm.Free Jvm.Stand Jvm.LawKit Jvm.RoadKit Bundle Jvm.Pilot.@@N@@.Jvm.D
/-- what a callee leaves that writes nothing: it returns r, the heap is as it was -/
def own_QP (r : Option Value) (h0 : Heap) (n0 : Nat) (v : Option Value) (h : Heap) (L : List Loc) : Prop := v = r ∧ Fr n0 L ∧ h = h0
/-- what the law leaves -/
def own_QL (n0 : Nat) (v : Option Value) (h : Heap) (L : List Loc) : Prop := v = some (.int 1) ∧ Fr n0 L
theorem own_eqI {args : Array Value} {first s : State} {o : Option Outcome} {idx : List Nat} {t : Term} {k : Int32} (h : (Jvm.Cond.eq t (.int k)).value args first o s idx = some true) : t.eval args first o idx s = some (.int k) := by
  obtain ⟨x, y, h1, h2, h3, h4⟩ := cmp_v (Or.inl h)
  have e2 : y = .int k := (Option.some.inj (h2.symm.trans (Term.int_eval k)))
  subst e2
  obtain ⟨z, rfl⟩ : ∃ z, x = .int z := h4
  rw [h1]
  have q : (Jvm.Cond.eq t (.int k)).value args first o s idx = some (decide (z = k)) := Cond.eq_ints h1 h2
  rw [gotT q h]
theorem own_ne {Z : State} {h : Heap} {a b : Addr} {C n d : String} {v w : Value} (F : Fld Z h a C n d v) (G : Fld Z h b C n d w) (hv : v ≠ w) : ¬ a = b := fun e => by
  subst e
  obtain ⟨cell, cf, k, i, f, h1, h2, -, -, -, -, h7⟩ := F
  obtain ⟨cell', cf', k', i', f', g1, g2, -, -, -, -, g7⟩ := G
  cases h1.symm.trans g1
  cases h2.symm.trans g2
  cases h7.symm.trans g7
  exact hv rfl
theorem own_sm {a b : Addr} (h : a = b) : decide ((.ref a : Value) = .ref b) = true := decide_eq_true (congrArg Value.ref h)
theorem own_df {a b : Addr} (h : ¬ a = b) : decide ((.ref a : Value) = .ref b) = false := decide_eq_false fun q => h (Value.ref.inj q)
theorem own_nv {x y : Int32} (h : x ≠ y) : (Value.int x) ≠ .int y := fun q => h (Value.int.inj q)
theorem own_m3 (k : Int32) : (k &&& (3 : Int32)) = 0 ∨ (k &&& (3 : Int32)) = 1 ∨ (k &&& (3 : Int32)) = 2 ∨ (k &&& (3 : Int32)) = 3 := by
  have h := c_and k 3 (by decide)
  have e0 : (0 : Int32).toInt = 0 := by decide
  have e1 : (1 : Int32).toInt = 1 := by decide
  have e2 : (2 : Int32).toInt = 2 := by decide
  have e3 : (3 : Int32).toInt = 3 := by decide
  simp only [← Int32.toInt_inj, e0, e1, e2, e3] at *
  omega
theorem own_staKeep {Z : State} {h h' : Heap} {b : Addr} {C n d K : String} {v : Value} (F : Sta Z h C n d v) (Kp : Keep h h' [b]) (E : Exa Z h b K) : Sta Z h' C n d v := by
  obtain ⟨cf, i, k, f, st, cell, h1, h2, h3, h4, h5, h6, h7⟩ := F
  obtain ⟨cb, kb, e1, -, -, e4, -⟩ := E
  have ne : st ≠ b := fun q => by
    subst q
    cases h5.symm.trans e1
    rw [h6] at e4
    cases e4
  exact ⟨cf, i, k, f, st, cell, h1, h2, h3, h4, Kp.2.1 st cell h5 (ninS ne nin0), h6, h7⟩
theorem own_staKeep0 {Z : State} {h h' : Heap} {C n d : String} {v : Value} (F : Sta Z h C n d v) (Kp : Keep h h' []) : Sta Z h' C n d v := by
  obtain ⟨cf, i, k, f, st, cell, h1, h2, h3, h4, h5, h6, h7⟩ := F
  exact ⟨cf, i, k, f, st, cell, h1, h2, h3, h4, Kp.2.1 st cell h5 nin0, h6, h7⟩
theorem own_chr (x : Int32) : ¬ (255 : Int32) < ((x &&& (255 : Int32)).toUInt32.toUInt16.toUInt32.toInt32) := by
  rw [i2c_mask]
  have h := c_and x 255 (by decide)
  have e : (255 : Int32).toInt = 255 := by decide
  rw [Int32.lt_iff_toInt_lt]
  omega
theorem own_ns0 {Z : State} {a0 : Array Value} {O K : String} {n : Nat} (w : (Jvm.Cond.noSuperclass O).before a0 Z = true) (wk : (Jvm.Cond.instantiable K n).before a0 Z = true) (hn : O ≠ K) : NS Z O K := by
  obtain ⟨c, k, h1, h2, h3, -, -⟩ := Cond.noSuperclass_spec w
  obtain ⟨t, k', g1, -⟩ := Cond.instantiable_spec wk
  have ne := ids_ne h1 g1 hn
  refine ⟨c, t, h1, g1, fun fuel => ?_⟩
  cases fuel with
  | zero => rfl
  | succ f => simp [Vm.isSubclassAux, ne, h2, h3]
theorem own_nsno {Z : State} {a0 : Array Value} {C S K : String} {n : Nat} (w : (Jvm.Cond.superclass C S).before a0 Z = true) (wk : (Jvm.Cond.instantiable K n).before a0 Z = true) (q : NS Z C K) (hn : C ≠ K) : ∃ c t, Z.vm.findClass C = some c ∧ Z.vm.findClass K = some t ∧ Z.vm.assignable c t = false := by
  obtain ⟨c, t, h0, g0, n3⟩ := q
  obtain ⟨p, k, kp, h1, h2, h3, h4, h5, -, h7⟩ := Cond.superclass_spec h0 w
  obtain ⟨t', k', g1, g2, g5, g7, -⟩ := Cond.instantiable_spec wk
  cases g0.symm.trans g1
  have ne := ids_ne h0 g0 hn
  have g8 : k'.isInterface = false := (Bool.or_eq_false_iff.mp g7).1
  refine ⟨c, t, h0, g0, ?_⟩
  show Z.vm.assignableAux (255 + 1) c t = false
  simp [Vm.assignableAux, ne, h2, g2, h5, g5, g8, Vm.isSubclass, n3]
theorem own_wmono {s t : State} {o : Outcome} {L : List Loc} {k n k' n' : Nat} (h : ReturnedEndW s o t L k n) (hk : k ≤ k') (hn : n ≤ n') : ReturnedEndW s o t L k' n' := ⟨h.1, h.2.1, h.2.2.1, h.2.2.2.mono hk hn⟩
def own_QPp (Z : State) (a : Addr) (v0 v1 v2 : Value) (h0 : Heap) (n0 : Nat) (v : Option Value) (h : Heap) (L : List Loc) : Prop := v = none ∧ Fr n0 L ∧ Keep h0 h [a] ∧ Exa Z h a "com/example/invarient/invarient/model/AtomicPredicate" ∧ Fld Z h a "com/example/invarient/invarient/model/Formula" "height" "I" v0 ∧ Fld Z h a "com/example/invarient/invarient/model/Predicate" "priority" "I" v1 ∧ Fld Z h a "com/example/invarient/invarient/model/AtomicPredicate" "operator" "Lcom/example/invarient/invarient/model/AtomicPredicate$Operator;" v2
def own_QE (Z : State) (a : Addr) (v0 v1 : Value) (h0 : Heap) (n0 : Nat) (v : Option Value) (h : Heap) (L : List Loc) : Prop := v = none ∧ Fr n0 L ∧ Keep h0 h [a] ∧ Exa Z h a "com/example/invarient/invarient/model/AtomicExpression" ∧ Fld Z h a "com/example/invarient/invarient/model/Formula" "height" "I" v0 ∧ Fld Z h a "com/example/invarient/invarient/model/AtomicExpression" "operator" "Lcom/example/invarient/invarient/model/AtomicExpression$Operator;" v1
theorem own_nine (k b t3 t4 : Int32) (op pt pf : Addr) (hk : k = 0 ∨ k = 1 ∨ k = 2 ∨ k = 3) (h3 : (t3 = 1 ∧ op = pt) ∨ (t3 = 0 ∧ op = pf)) (h4 : t4 = 1 ∨ t4 = 0) : (k = 0 ∧ t4 = 1 ∧ t3 = 1 ∧ op = pt) ∨ (k = 0 ∧ t4 = 1 ∧ t3 = 0 ∧ op = pf) ∨ (k = 0 ∧ t4 = 0 ∧ t3 = 0 ∧ op = pf) ∨ (k = 0 ∧ t4 = 0 ∧ t3 = 1 ∧ op = pt) ∨ k = 1 ∨ k = 2 ∨ (k = 3 ∧ ¬ b = 0 ∧ t4 = 1) ∨ (k = 3 ∧ ¬ b = 0 ∧ t4 = 0) ∨ (k = 3 ∧ b = 0) := by
  rcases hk with h | h | h | h
  · rcases h3 with ⟨a, a'⟩ | ⟨a, a'⟩ <;> rcases h4 with q | q <;> simp [h, a, a', q]
  · simp [h]
  · simp [h]
  · by_cases hb : b = 0
    · simp [h, hb]
    · rcases h4 with q | q <;> simp [h, hb, q]
/-- what a maker of a String leaves: a new one; all that was there is as it was -/
def own_QS (Z : State) (h0 : Heap) (n0 : Nat) (v : Option Value) (h : Heap) (L : List Loc) : Prop := ∃ b : Addr, v = some (.ref b) ∧ Fr n0 L ∧ Keep h0 h [] ∧ h0.size ≤ b ∧ Exa Z h b "java/lang/String"
theorem d9_0 : decode jdk_43_method_46_code 0 = .ok (.iconst 1, 1) := by decide +kernel
theorem d9_1 : decode jdk_43_method_46_code 1 = .ok (.newarray .byte, 2) := by decide +kernel
theorem d9_3 : decode jdk_43_method_46_code 3 = .ok (.dup, 1) := by decide +kernel
theorem d9_4 : decode jdk_43_method_46_code 4 = .ok (.iconst 0, 1) := by decide +kernel
theorem d9_5 : decode jdk_43_method_46_code 5 = .ok (.iload_n 0, 1) := by decide +kernel
theorem d9_6 : decode jdk_43_method_46_code 6 = .ok (.i2b, 1) := by decide +kernel
theorem d9_7 : decode jdk_43_method_46_code 7 = .ok (.bastore, 1) := by decide +kernel
theorem d9_8 : decode jdk_43_method_46_code 8 = .ok (.areturn, 1) := by decide +kernel
theorem pn_9 : plainName "java/lang/StringLatin1" = true := by first | (simp [plainName, overriddenIn]; done) | decide +kernel
theorem ef_9 (m : MethodId) (x0 : Int32) : entryFrame m #[(.int x0)] 1 = mkF m 0 #[.val (.int x0)] [] := by first | (simp [entryFrame, mkF, argsToLocals, Value.category]; done) | rfl
def Q9 (Z : State) (p1 : Int32) (h0 : Heap) (n0 : Nat) (v : Option Value) (h : Heap) (L : List Loc) : Prop := ∃ b2 : Addr, v = some (.ref b2) ∧ Fr n0 L ∧ Keep h0 h [] ∧ h0.size ≤ b2
set_option maxRecDepth 65536 in
set_option maxHeartbeats 40000000 in
theorem rm9 (l : Launch) (Z : State) (a0 : Array Value) (hw : ∀ d ∈ tables_1, d.before a0 Z = true) (ws : List Jvm.Cond) (p1 : Int32) (h0 : Heap) (n0 : Nat) (Z0 : n0 ≤ h0.size) :
    MetFree l (⟨"java/lang/StringLatin1", "toBytes", "(C)[B"⟩ : MethodName) (head1 (Jvm.Cond.code (⟨"java/lang/StringLatin1", "toBytes", "(C)[B"⟩ : MethodName) jdk_43_method_46_code 1 (some (.array .byte)) :: ws) ({ frames := 0, cells := 1, slots := 1, locals := 0 } : Room)) (fun a U => a = #[(.int p1)] ∧ Z.Warmed39 U.vm ∧ U.heap = h0) (fun _ _ _ _ _ => True) (fun _ U o U' => ∃ v L, o = .returned v ∧ Q9 Z p1 h0 n0 v U'.heap L ∧ FrameEnd U o U' L ({ frames := 0, cells := 1, slots := 1, locals := 0 } : Room).cells ({ frames := 0, cells := 1, slots := 1, locals := 0 } : Room).slots) := by
  refine MetFree.of_bodySF (plainFor_of_name pn_9) hisR ?_
  intro p e s m args below meth c s₁ Bd hml0 hP hK
  obtain ⟨rfl, hZ, hh⟩ := hP
  have hx := Bd.exec
  have hby := Bd.bytes
  have hml : c.maxLocals = 1 := hml0
  have hown : s.vm.findClass "java/lang/StringLatin1" = some m.cls := findClass_of_methodNamed Bd.named
  have hnm := (name_of_methodNamed Bd.named Bd.method).1
  have X0 : Stand p l e ({ frames := 0, cells := 1, slots := 1, locals := 0 } : Room) s m #[(.int p1)] below meth c s₁ [] 0 0 := Stand.of_body Bd
  have e0 : s₁.heap = h0 := by rw [← hh, Bd.state]; rfl
  have N0 := Fr.nil n0
  have pre0 : ∀ t, Steps p.tables e below (s₁.setTop (mkF m 0 #[.val (.int p1)] [])) t → Steps p.tables e below (s₁.setTop (entryFrame m #[(.int p1)] 1)) t := fun t k => castTop (ef_9 m p1) k
  obtain ⟨T2, h2, k2, X2, e2, E2, A2, st2⟩ := newP X0 hx hZ (hw _ (List.mem_of_getElem? (i := 29) rfl)) e0 (g := (mkF m 1 #[.val (.int p1)] [(.int (1 : Int32))])) rfl (hb hby d9_1) rfl (by decide) (cap := 1) (by decide) (by decide) (by decide) (by decide)
  obtain ⟨b2, g2⟩ : ∃ z, z = h0.size := ⟨_, rfl⟩
  rw [← g2] at A2 st2
  have V_b2 : Arv Z h2 b2 k2 .byte (1 : Int32) [(.int (0 : Int32))] (.int (0 : Int32)) := (Arv.new A2 (by decide)).pad (pad_rep [] (.int (0 : Int32)) 1)
  have g_b2 : n0 ≤ b2 := Nat.le_trans Z0 (Nat.le_of_eq g2.symm)
  have sz_b2 : h0.size ≤ b2 := (Nat.le_trans (Keep.refl h0 []).1 (Nat.le_of_eq g2.symm))
  have K2 : Keep h0 h2 [] := (Keep.refl h0 []).ext E2
  obtain ⟨cl_b2_7, Ar_b2, q_b2, S_b2, N_b2, H_b2, G_b2⟩ := V_b2
  have hin7 : ¬ ((0 : Int32) < 0 ∨ cl_b2_7.slots.size ≤ ((0 : Int32)).toNatClampNeg) := inb_of S_b2 ⟨by decide, by decide⟩
  obtain ⟨T3, h3, X3, e3, W3, st3⟩ := stB X2 hx hZ e2 Ar_b2 (j := (0 : Int32)) hin7 (g := (mkF m 7 #[.val (.int p1)] [(.int (p1.toInt8.toInt32)), (.int (0 : Int32)), (.ref b2), (.ref b2)])) rfl rfl (hb hby d9_7)
  have V_b2_3 := Arv.set Ar_b2 q_b2 S_b2 N_b2 H_b2 G_b2 (fits_nar_byte _) W3 0 rfl (Nat.le_of_ble_eq_true rfl)
  have K3 : Keep h0 h3 [] := K2.wr W3 (Or.inr sz_b2)
  have N3 := Fr.snoc X3 N0 g_b2
  obtain ⟨fs, hr, hrun, hended, hW, hsame⟩ := X3.leave (v := some (.ref b2)) (fun h => by rw [Bd.returns] at h; cases h)
  refine ⟨_, _, pre0 _ ?_, hrun, hended, _, _, rfl, ?_, ⟨_, rfl⟩, hW, hsame.mono (by decide) (by decide)⟩
  · show Steps p.tables e below (s₁.setTop (mkF m 0 #[.val (.int p1)] [])) _
    refine XS.iconst X0.here hx rfl (hb hby d9_0) ?_
    show Steps p.tables e below (s₁.setTop (mkF m 1 #[.val (.int p1)] [(.int (1 : Int32))])) _
    refine st2 _ ?_
    show Steps p.tables e below (T2.setTop (mkF m 3 #[.val (.int p1)] [(.ref b2)])) _
    refine XS.dup X2.here hx rfl (hb hby d9_3) rfl rfl ?_
    show Steps p.tables e below (T2.setTop (mkF m 4 #[.val (.int p1)] [(.ref b2), (.ref b2)])) _
    refine XS.iconst X2.here hx rfl (hb hby d9_4) ?_
    show Steps p.tables e below (T2.setTop (mkF m 5 #[.val (.int p1)] [(.int (0 : Int32)), (.ref b2), (.ref b2)])) _
    refine XS.iloadN X2.here hx rfl (hb hby d9_5) rfl ?_
    show Steps p.tables e below (T2.setTop (mkF m 6 #[.val (.int p1)] [(.int p1), (.int (0 : Int32)), (.ref b2), (.ref b2)])) _
    refine XS.i2b X2.here hx rfl (hb hby d9_6) rfl ?_
    show Steps p.tables e below (T2.setTop (mkF m 7 #[.val (.int p1)] [(.int (p1.toInt8.toInt32)), (.int (0 : Int32)), (.ref b2), (.ref b2)])) _
    refine st3 _ ?_
    show Steps p.tables e below (T3.setTop (mkF m 8 #[.val (.int p1)] [(.ref b2)])) _
    jvm_step X3.here [X3.here.top, hx, (hb hby d9_8), X3.method', Bd.returns, Value.isRef, FieldType.isReference]
    first | (intro acts; rw [hr _ acts rfl rfl rfl]) | rw [hr _ _ rfl rfl rfl]
    exact Steps.refl _
  · show Q9 Z p1 h0 n0 _ T3.heap _
    rw [e3]
    exact ⟨b2, rfl, N3, K3, sz_b2⟩
theorem d10_0 : decode jdk_42_method_151_code 0 = .ok (.aload_n 0, 1) := by decide +kernel
theorem d10_1 : decode jdk_42_method_151_code 1 = .ok (.invokespecial 1, 3) := by decide +kernel
theorem d10_4 : decode jdk_42_method_151_code 4 = .ok (.aload_n 0, 1) := by decide +kernel
theorem d10_5 : decode jdk_42_method_151_code 5 = .ok (.aload_n 1, 1) := by decide +kernel
theorem d10_6 : decode jdk_42_method_151_code 6 = .ok (.putfield 9, 3) := by decide +kernel
theorem d10_9 : decode jdk_42_method_151_code 9 = .ok (.aload_n 0, 1) := by decide +kernel
theorem d10_10 : decode jdk_42_method_151_code 10 = .ok (.iload_n 2, 1) := by decide +kernel
theorem d10_11 : decode jdk_42_method_151_code 11 = .ok (.putfield 15, 3) := by decide +kernel
theorem d10_14 : decode jdk_42_method_151_code 14 = .ok (.return_, 1) := by decide +kernel
theorem pn_10 : plainName "java/lang/String" = true := by first | (simp [plainName, overriddenIn]; done) | decide +kernel
theorem ef_10 (m : MethodId) (x0 : Addr) (x1 : Addr) (x2 : Int32) : entryFrame m #[(.ref x0), (.ref x1), (.int x2)] 3 = mkF m 0 #[.val (.ref x0), .val (.ref x1), .val (.int x2)] [] := by first | (simp [entryFrame, mkF, argsToLocals, Value.category]; done) | rfl
def Q10 (Z : State) (a1 : Addr) (a2 : Addr) (p3 : Int32) (u_value_a1 : Value) (u_coder_a1 : Value) (h0 : Heap) (n0 : Nat) (v : Option Value) (h : Heap) (L : List Loc) : Prop := v = none ∧ Fr n0 L ∧ Keep h0 h [a1] ∧ Exa Z h a1 "java/lang/String" ∧ Fld Z h a1 "java/lang/String" "value" "[B" (.ref a2) ∧ Fld Z h a1 "java/lang/String" "coder" "B" (.int (p3.toInt8.toInt32))
set_option maxRecDepth 65536 in
set_option maxHeartbeats 40000000 in
theorem rm10 (l : Launch) (Z : State) (a0 : Array Value) (hw : ∀ d ∈ tables_1, d.before a0 Z = true) (ws : List Jvm.Cond) (a1 : Addr) (a2 : Addr) (p3 : Int32) (u_value_a1 : Value) (u_coder_a1 : Value) (h0 : Heap) (n0 : Nat) (Z0 : n0 ≤ h0.size) (E_a1 : Exa Z h0 a1 "java/lang/String") (F_value_a1 : Fld Z h0 a1 "java/lang/String" "value" "[B" u_value_a1) (g_a1 : n0 ≤ a1) (F_coder_a1 : Fld Z h0 a1 "java/lang/String" "coder" "B" u_coder_a1) :
    MetFree l (⟨"java/lang/String", "<init>", "([BB)V"⟩ : MethodName) (head1 (Jvm.Cond.code (⟨"java/lang/String", "<init>", "([BB)V"⟩ : MethodName) jdk_42_method_151_code 3 none :: ws) ({ frames := 1, cells := 0, slots := 0, locals := 12 } : Room)) (fun a U => a = #[(.ref a1), (.ref a2), (.int p3)] ∧ Z.Warmed39 U.vm ∧ U.heap = h0) (fun _ _ _ _ _ => True) (fun _ U o U' => ∃ v L, o = .returned v ∧ Q10 Z a1 a2 p3 u_value_a1 u_coder_a1 h0 n0 v U'.heap L ∧ FrameEnd U o U' L ({ frames := 1, cells := 0, slots := 0, locals := 12 } : Room).cells ({ frames := 1, cells := 0, slots := 0, locals := 12 } : Room).slots) := by
  refine MetFree.of_bodySF (plainFor_of_name pn_10) hisR ?_
  intro p e s m args below meth c s₁ Bd hml0 hP hK
  obtain ⟨rfl, hZ, hh⟩ := hP
  have hx := Bd.exec
  have hby := Bd.bytes
  have hml : c.maxLocals = 3 := hml0
  have hown : s.vm.findClass "java/lang/String" = some m.cls := findClass_of_methodNamed Bd.named
  have hnm := (name_of_methodNamed Bd.named Bd.method).1
  have X0 : Stand p l e ({ frames := 1, cells := 0, slots := 0, locals := 12 } : Room) s m #[(.ref a1), (.ref a2), (.int p3)] below meth c s₁ [] 0 0 := Stand.of_body Bd
  have e0 : s₁.heap = h0 := by rw [← hh, Bd.state]; rfl
  have N0 := Fr.nil n0
  have pre0 : ∀ t, Steps p.tables e below (s₁.setTop (mkF m 0 #[.val (.ref a1), .val (.ref a2), .val (.int p3)] [])) t → Steps p.tables e below (s₁.setTop (entryFrame m #[(.ref a1), (.ref a2), (.int p3)] 3)) t := fun t k => castTop (ef_10 m a1 a2 p3) k
  obtain ⟨T4, X4, e4, st4⟩ := initO X0 hx hZ hown (hw _ (List.mem_of_getElem? (i := 67) rfl)) (hw _ (List.mem_of_getElem? (i := 20) rfl)) (hw _ (List.mem_of_getElem? (i := 21) rfl)) e0 (g := (mkF m 1 #[.val (.ref a1), .val (.ref a2), .val (.int p3)] [(.ref a1)])) rfl (by rw [hml]; rfl) rfl (hb hby d10_1) (by decide) (W := 0) (by show 2 * 0 + _ ≤ _; exact Nat.le_of_eq rfl) (by decide)
  obtain ⟨T5, h5, X5, e5, W5, st5⟩ := putF X4 hx hZ hown (host := "") (Or.inl (hw _ (List.mem_of_getElem? (i := 68) rfl))) Via.refl e4 F_value_a1 E_a1 (Or.inr ⟨(hw _ (List.mem_of_getElem? (i := 30) rfl)), rfl, hnm⟩) (hw _ (List.mem_of_getElem? (i := 28) rfl)) (ty := (.array .byte)) (by decide) rfl rfl (g := (mkF m 6 #[.val (.ref a1), .val (.ref a2), .val (.int p3)] [(.ref a2), (.ref a1)])) rfl rfl (hb hby d10_6)
  have Fw5 := F_value_a1.same W5
  have K5 : Keep h0 h5 [a1] := (Keep.refl h0 [a1]).wr W5 (Or.inl (List.mem_of_getElem? (i := 0) rfl))
  have N5 := Fr.snoc X5 N0 g_a1
  obtain ⟨T6, h6, X6, e6, W6, st6⟩ := putFN X5 hx hZ hown (hw _ (List.mem_of_getElem? (i := 69) rfl)) Via.refl e5 (F_coder_a1.other W5 (Or.inr (slot_ne (Or.inr (hw _ (List.mem_of_getElem? (i := 31) rfl))) (Or.inr (hw _ (List.mem_of_getElem? (i := 30) rfl))) (by decide) (t := .byte) (t' := (.array .byte)) (by decide) (by decide)))) (E_a1.wr W5) (Or.inr ⟨(hw _ (List.mem_of_getElem? (i := 31) rfl)), rfl, hnm⟩) (hw _ (List.mem_of_getElem? (i := 28) rfl)) (ty := .byte) (v' := (.int (p3.toInt8.toInt32))) (by decide) rfl (fits_nar_byte _) (g := (mkF m 11 #[.val (.ref a1), .val (.ref a2), .val (.int p3)] [(.int p3), (.ref a1)])) rfl rfl (hb hby d10_11)
  have Fw6 := (F_coder_a1.other W5 (Or.inr (slot_ne (Or.inr (hw _ (List.mem_of_getElem? (i := 31) rfl))) (Or.inr (hw _ (List.mem_of_getElem? (i := 30) rfl))) (by decide) (t := .byte) (t' := (.array .byte)) (by decide) (by decide)))).same W6
  have K6 : Keep h0 h6 [a1] := K5.wr W6 (Or.inl (List.mem_of_getElem? (i := 0) rfl))
  have N6 := Fr.snoc X6 N5 g_a1
  obtain ⟨fs, hr, hrun, hended, hW, hsame⟩ := X6.leave (v := none) (fun _ => rfl)
  refine ⟨_, _, pre0 _ ?_, hrun, hended, _, _, rfl, ?_, ⟨_, rfl⟩, hW, hsame.mono (by decide) (by decide)⟩
  · show Steps p.tables e below (s₁.setTop (mkF m 0 #[.val (.ref a1), .val (.ref a2), .val (.int p3)] [])) _
    refine XS.aloadN X0.here hx rfl (hb hby d10_0) rfl rfl ?_
    show Steps p.tables e below (s₁.setTop (mkF m 1 #[.val (.ref a1), .val (.ref a2), .val (.int p3)] [(.ref a1)])) _
    refine st4 _ ?_
    show Steps p.tables e below (T4.setTop (mkF m 4 #[.val (.ref a1), .val (.ref a2), .val (.int p3)] [])) _
    refine XS.aloadN X4.here hx rfl (hb hby d10_4) rfl rfl ?_
    show Steps p.tables e below (T4.setTop (mkF m 5 #[.val (.ref a1), .val (.ref a2), .val (.int p3)] [(.ref a1)])) _
    refine XS.aloadN X4.here hx rfl (hb hby d10_5) rfl rfl ?_
    show Steps p.tables e below (T4.setTop (mkF m 6 #[.val (.ref a1), .val (.ref a2), .val (.int p3)] [(.ref a2), (.ref a1)])) _
    refine st5 _ ?_
    show Steps p.tables e below (T5.setTop (mkF m 9 #[.val (.ref a1), .val (.ref a2), .val (.int p3)] [])) _
    refine XS.aloadN X5.here hx rfl (hb hby d10_9) rfl rfl ?_
    show Steps p.tables e below (T5.setTop (mkF m 10 #[.val (.ref a1), .val (.ref a2), .val (.int p3)] [(.ref a1)])) _
    refine XS.iloadN X5.here hx rfl (hb hby d10_10) rfl ?_
    show Steps p.tables e below (T5.setTop (mkF m 11 #[.val (.ref a1), .val (.ref a2), .val (.int p3)] [(.int p3), (.ref a1)])) _
    refine st6 _ ?_
    show Steps p.tables e below (T6.setTop (mkF m 14 #[.val (.ref a1), .val (.ref a2), .val (.int p3)] [])) _
    exact X6.returnOut hx Bd.returns (hb hby d10_14) hr
  · show Q10 Z a1 a2 p3 u_value_a1 u_coder_a1 h0 n0 _ T6.heap _
    rw [e6]
    exact ⟨rfl, N6, K6, ((E_a1.wr W5).wr W6), (Fw5.other W6 (Or.inr (slot_ne (Or.inr (hw _ (List.mem_of_getElem? (i := 30) rfl))) (Or.inr (hw _ (List.mem_of_getElem? (i := 31) rfl))) (by decide) (t := (.array .byte)) (t' := .byte) (by decide) (by decide)))), Fw6⟩
theorem own_ef0 (m : MethodId) (x0 : Int32) : entryFrame m #[(.int x0)] 1 = mkF m 0 #[.val (.int x0)] [] := by first | (simp [entryFrame, mkF, argsToLocals, Value.category]; done) | rfl
theorem own_pn0 : plainName "java/lang/StringLatin1" = true := by first | (simp [plainName, overriddenIn]; done) | decide +kernel
theorem own_d_jdk_43_method_3_code_0 : decode jdk_43_method_3_code 0 = .ok (.iload_n 0, 1) := by decide +kernel
theorem own_d_jdk_43_method_3_code_1 : decode jdk_43_method_3_code 1 = .ok (.sipush 255, 3) := by decide +kernel
theorem own_d_jdk_43_method_3_code_4 : decode jdk_43_method_3_code 4 = .ok (.if_icmp .gt 7, 3) := by decide +kernel
theorem own_d_jdk_43_method_3_code_7 : decode jdk_43_method_3_code 7 = .ok (.iconst 1, 1) := by decide +kernel
theorem own_d_jdk_43_method_3_code_8 : decode jdk_43_method_3_code 8 = .ok (.goto 4, 3) := by decide +kernel
theorem own_d_jdk_43_method_3_code_12 : decode jdk_43_method_3_code 12 = .ok (.ireturn, 1) := by decide +kernel
theorem own_ef1 (m : MethodId) (x0 : Int32) : entryFrame m #[(.int x0)] 1 = mkF m 0 #[.val (.int x0)] [] := by first | (simp [entryFrame, mkF, argsToLocals, Value.category]; done) | rfl
theorem own_pn1 : plainName "java/lang/String" = true := by first | (simp [plainName, overriddenIn]; done) | decide +kernel
theorem own_pd0 : parseMethodDescriptor "(C)Z" = some ⟨[.char], some .boolean⟩ := by decide +kernel
theorem own_pd1 : parseMethodDescriptor "(C)[B" = some ⟨[.char], some (.array .byte)⟩ := by decide +kernel
theorem own_pd2 : parseMethodDescriptor "([BB)V" = some ⟨[(.array .byte), .byte], none⟩ := by decide +kernel
theorem own_d_jdk_42_method_139_code_0 : decode jdk_42_method_139_code 0 = .ok (.getstatic 38, 3) := by decide +kernel
theorem own_d_jdk_42_method_139_code_3 : decode jdk_42_method_139_code 3 = .ok (.ifCond .eq 23, 3) := by decide +kernel
theorem own_d_jdk_42_method_139_code_6 : decode jdk_42_method_139_code 6 = .ok (.iload_n 0, 1) := by decide +kernel
theorem own_d_jdk_42_method_139_code_7 : decode jdk_42_method_139_code 7 = .ok (.invokestatic 1015, 3) := by decide +kernel
theorem own_d_jdk_42_method_139_code_10 : decode jdk_42_method_139_code 10 = .ok (.ifCond .eq 16, 3) := by decide +kernel
theorem own_d_jdk_42_method_139_code_13 : decode jdk_42_method_139_code 13 = .ok (.new 10, 3) := by decide +kernel
theorem own_d_jdk_42_method_139_code_16 : decode jdk_42_method_139_code 16 = .ok (.dup, 1) := by decide +kernel
theorem own_d_jdk_42_method_139_code_17 : decode jdk_42_method_139_code 17 = .ok (.iload_n 0, 1) := by decide +kernel
theorem own_d_jdk_42_method_139_code_18 : decode jdk_42_method_139_code 18 = .ok (.invokestatic 1018, 3) := by decide +kernel
theorem own_d_jdk_42_method_139_code_21 : decode jdk_42_method_139_code 21 = .ok (.iconst 0, 1) := by decide +kernel
theorem own_d_jdk_42_method_139_code_22 : decode jdk_42_method_139_code 22 = .ok (.invokespecial 209, 3) := by decide +kernel
theorem own_d_jdk_42_method_139_code_25 : decode jdk_42_method_139_code 25 = .ok (.areturn, 1) := by decide +kernel
theorem own_ef2 (m : MethodId) (x0 : Addr) (x1 : Int32) : entryFrame m #[(.ref x0), (.int x1)] 2 = mkF m 0 #[.val (.ref x0), .val (.int x1)] [] := by first | (simp [entryFrame, mkF, argsToLocals, Value.category]; done) | rfl
theorem own_pn2 : plainName "com/example/invarient/invarient/model/Formula" = true := by first | (simp [plainName, overriddenIn]; done) | decide +kernel
theorem own_d_prog_61_method_1_code_0 : decode prog_61_method_1_code 0 = .ok (.aload_n 0, 1) := by decide +kernel
theorem own_d_prog_61_method_1_code_1 : decode prog_61_method_1_code 1 = .ok (.invokespecial 1, 3) := by decide +kernel
theorem own_d_prog_61_method_1_code_4 : decode prog_61_method_1_code 4 = .ok (.aload_n 0, 1) := by decide +kernel
theorem own_d_prog_61_method_1_code_5 : decode prog_61_method_1_code 5 = .ok (.iload_n 1, 1) := by decide +kernel
theorem own_d_prog_61_method_1_code_6 : decode prog_61_method_1_code 6 = .ok (.putfield 7, 3) := by decide +kernel
theorem own_d_prog_61_method_1_code_9 : decode prog_61_method_1_code 9 = .ok (.return_, 1) := by decide +kernel
theorem own_ef3 (m : MethodId) (x0 : Addr) (x1 : Int32) : entryFrame m #[(.ref x0), (.int x1)] 2 = mkF m 0 #[.val (.ref x0), .val (.int x1)] [] := by first | (simp [entryFrame, mkF, argsToLocals, Value.category]; done) | rfl
theorem own_ef4 (m : MethodId) (x0 : Addr) (x1 : Int32) (x2 : Int32) : entryFrame m #[(.ref x0), (.int x1), (.int x2)] 3 = mkF m 0 #[.val (.ref x0), .val (.int x1), .val (.int x2)] [] := by first | (simp [entryFrame, mkF, argsToLocals, Value.category]; done) | rfl
theorem own_pn3 : plainName "com/example/invarient/invarient/model/Predicate" = true := by first | (simp [plainName, overriddenIn]; done) | decide +kernel
theorem own_pd3 : parseMethodDescriptor "(I)V" = some ⟨[.int], none⟩ := by decide +kernel
theorem own_d_prog_68_method_1_code_0 : decode prog_68_method_1_code 0 = .ok (.aload_n 0, 1) := by decide +kernel
theorem own_d_prog_68_method_1_code_1 : decode prog_68_method_1_code 1 = .ok (.iload_n 1, 1) := by decide +kernel
theorem own_d_prog_68_method_1_code_2 : decode prog_68_method_1_code 2 = .ok (.invokespecial 1, 3) := by decide +kernel
theorem own_d_prog_68_method_1_code_5 : decode prog_68_method_1_code 5 = .ok (.aload_n 0, 1) := by decide +kernel
theorem own_d_prog_68_method_1_code_6 : decode prog_68_method_1_code 6 = .ok (.iload_n 2, 1) := by decide +kernel
theorem own_d_prog_68_method_1_code_7 : decode prog_68_method_1_code 7 = .ok (.putfield 7, 3) := by decide +kernel
theorem own_d_prog_68_method_1_code_10 : decode prog_68_method_1_code 10 = .ok (.return_, 1) := by decide +kernel
theorem own_ef5 (m : MethodId) (x0 : Addr) (x1 : Int32) : entryFrame m #[(.ref x0), (.int x1)] 2 = mkF m 0 #[.val (.ref x0), .val (.int x1)] [] := by first | (simp [entryFrame, mkF, argsToLocals, Value.category]; done) | rfl
theorem own_pn4 : plainName "com/example/invarient/invarient/model/Expression" = true := by first | (simp [plainName, overriddenIn]; done) | decide +kernel
theorem own_d_prog_58_method_1_code_0 : decode prog_58_method_1_code 0 = .ok (.aload_n 0, 1) := by decide +kernel
theorem own_d_prog_58_method_1_code_1 : decode prog_58_method_1_code 1 = .ok (.iload_n 1, 1) := by decide +kernel
theorem own_d_prog_58_method_1_code_2 : decode prog_58_method_1_code 2 = .ok (.invokespecial 1, 3) := by decide +kernel
theorem own_d_prog_58_method_1_code_5 : decode prog_58_method_1_code 5 = .ok (.return_, 1) := by decide +kernel
theorem own_ef6 (m : MethodId) (x0 : Addr) (x1 : Addr) : entryFrame m #[(.ref x0), (.ref x1)] 2 = mkF m 0 #[.val (.ref x0), .val (.ref x1)] [] := by first | (simp [entryFrame, mkF, argsToLocals, Value.category]; done) | rfl
theorem own_pn5 : plainName "java/util/Objects" = true := by first | (simp [plainName, overriddenIn]; done) | decide +kernel
theorem own_d_jdk_31_method_11_code_0 : decode jdk_31_method_11_code 0 = .ok (.aload_n 0, 1) := by decide +kernel
theorem own_d_jdk_31_method_11_code_1 : decode jdk_31_method_11_code 1 = .ok (.ifnonnull 12, 3) := by decide +kernel
theorem own_d_jdk_31_method_11_code_13 : decode jdk_31_method_11_code 13 = .ok (.aload_n 0, 1) := by decide +kernel
theorem own_d_jdk_31_method_11_code_14 : decode jdk_31_method_11_code 14 = .ok (.areturn, 1) := by decide +kernel
theorem own_ef7 (m : MethodId) (x0 : Addr) (x1 : Addr) : entryFrame m #[(.ref x0), (.ref x1)] 2 = mkF m 0 #[.val (.ref x0), .val (.ref x1)] [] := by first | (simp [entryFrame, mkF, argsToLocals, Value.category]; done) | rfl
theorem own_pn6 : plainName "com/example/invarient/invarient/model/AtomicPredicate" = true := by first | (simp [plainName, overriddenIn]; done) | decide +kernel
theorem own_pd4 : parseMethodDescriptor "(II)V" = some ⟨[.int, .int], none⟩ := by decide +kernel
theorem own_pd5 : parseMethodDescriptor "(Ljava/lang/Object;Ljava/lang/String;)Ljava/lang/Object;" = some ⟨[(.object "java/lang/Object"), (.object "java/lang/String")], some (.object "java/lang/Object")⟩ := by decide +kernel
theorem own_d_prog_39_method_1_code_0 : decode prog_39_method_1_code 0 = .ok (.aload_n 0, 1) := by decide +kernel
theorem own_d_prog_39_method_1_code_1 : decode prog_39_method_1_code 1 = .ok (.iconst 1, 1) := by decide +kernel
theorem own_d_prog_39_method_1_code_2 : decode prog_39_method_1_code 2 = .ok (.iconst 4, 1) := by decide +kernel
theorem own_d_prog_39_method_1_code_3 : decode prog_39_method_1_code 3 = .ok (.invokespecial 3, 3) := by decide +kernel
theorem own_d_prog_39_method_1_code_6 : decode prog_39_method_1_code 6 = .ok (.aload_n 0, 1) := by decide +kernel
theorem own_d_prog_39_method_1_code_7 : decode prog_39_method_1_code 7 = .ok (.aload_n 1, 1) := by decide +kernel
theorem own_d_prog_39_method_1_code_8 : decode prog_39_method_1_code 8 = .ok (.ldc 7, 2) := by decide +kernel
theorem own_d_prog_39_method_1_code_10 : decode prog_39_method_1_code 10 = .ok (.invokestatic 9, 3) := by decide +kernel
theorem own_d_prog_39_method_1_code_13 : decode prog_39_method_1_code 13 = .ok (.checkcast 15, 3) := by decide +kernel
theorem own_d_prog_39_method_1_code_16 : decode prog_39_method_1_code 16 = .ok (.putfield 17, 3) := by decide +kernel
theorem own_d_prog_39_method_1_code_19 : decode prog_39_method_1_code 19 = .ok (.return_, 1) := by decide +kernel
theorem own_ef8 (m : MethodId) (x0 : Addr) (x1 : Addr) : entryFrame m #[(.ref x0), (.ref x1)] 2 = mkF m 0 #[.val (.ref x0), .val (.ref x1)] [] := by first | (simp [entryFrame, mkF, argsToLocals, Value.category]; done) | rfl
theorem own_pn7 : plainName "com/example/invarient/invarient/model/AtomicExpression" = true := by first | (simp [plainName, overriddenIn]; done) | decide +kernel
theorem own_d_prog_37_method_1_code_0 : decode prog_37_method_1_code 0 = .ok (.aload_n 0, 1) := by decide +kernel
theorem own_d_prog_37_method_1_code_1 : decode prog_37_method_1_code 1 = .ok (.iconst 1, 1) := by decide +kernel
theorem own_d_prog_37_method_1_code_2 : decode prog_37_method_1_code 2 = .ok (.invokespecial 1, 3) := by decide +kernel
theorem own_d_prog_37_method_1_code_5 : decode prog_37_method_1_code 5 = .ok (.aload_n 0, 1) := by decide +kernel
theorem own_d_prog_37_method_1_code_6 : decode prog_37_method_1_code 6 = .ok (.aload_n 1, 1) := by decide +kernel
theorem own_d_prog_37_method_1_code_7 : decode prog_37_method_1_code 7 = .ok (.ldc 7, 2) := by decide +kernel
theorem own_d_prog_37_method_1_code_9 : decode prog_37_method_1_code 9 = .ok (.invokestatic 9, 3) := by decide +kernel
theorem own_d_prog_37_method_1_code_12 : decode prog_37_method_1_code 12 = .ok (.checkcast 15, 3) := by decide +kernel
theorem own_d_prog_37_method_1_code_15 : decode prog_37_method_1_code 15 = .ok (.putfield 17, 3) := by decide +kernel
theorem own_d_prog_37_method_1_code_18 : decode prog_37_method_1_code 18 = .ok (.return_, 1) := by decide +kernel
theorem own_ef9 (m : MethodId) (x0 : Addr) (x1 : Addr) : entryFrame m #[(.ref x0), (.ref x1)] 3 = mkF m 0 #[.val (.ref x0), .val (.ref x1), .unset] [] := by first | (simp [entryFrame, mkF, argsToLocals, Value.category]; done) | rfl
theorem own_d_prog_39_method_6_code_0 : decode prog_39_method_6_code 0 = .ok (.aload_n 1, 1) := by decide +kernel
theorem own_d_prog_39_method_6_code_1 : decode prog_39_method_6_code 1 = .ok (.instanceof 18, 3) := by decide +kernel
theorem own_d_prog_39_method_6_code_4 : decode prog_39_method_6_code 4 = .ok (.ifCond .eq 23, 3) := by decide +kernel
theorem own_d_prog_39_method_6_code_7 : decode prog_39_method_6_code 7 = .ok (.aload_n 1, 1) := by decide +kernel
theorem own_d_prog_39_method_6_code_8 : decode prog_39_method_6_code 8 = .ok (.checkcast 18, 3) := by decide +kernel
theorem own_d_prog_39_method_6_code_11 : decode prog_39_method_6_code 11 = .ok (.astore_n 2, 1) := by decide +kernel
theorem own_d_prog_39_method_6_code_12 : decode prog_39_method_6_code 12 = .ok (.aload_n 2, 1) := by decide +kernel
theorem own_d_prog_39_method_6_code_13 : decode prog_39_method_6_code 13 = .ok (.getfield 17, 3) := by decide +kernel
theorem own_d_prog_39_method_6_code_16 : decode prog_39_method_6_code 16 = .ok (.aload_n 0, 1) := by decide +kernel
theorem own_d_prog_39_method_6_code_17 : decode prog_39_method_6_code 17 = .ok (.getfield 17, 3) := by decide +kernel
theorem own_d_prog_39_method_6_code_20 : decode prog_39_method_6_code 20 = .ok (.if_acmp .ne 7, 3) := by decide +kernel
theorem own_d_prog_39_method_6_code_23 : decode prog_39_method_6_code 23 = .ok (.iconst 1, 1) := by decide +kernel
theorem own_d_prog_39_method_6_code_24 : decode prog_39_method_6_code 24 = .ok (.goto 4, 3) := by decide +kernel
theorem own_d_prog_39_method_6_code_27 : decode prog_39_method_6_code 27 = .ok (.iconst 0, 1) := by decide +kernel
theorem own_d_prog_39_method_6_code_28 : decode prog_39_method_6_code 28 = .ok (.ireturn, 1) := by decide +kernel
theorem own_ef10 (m : MethodId) (x0 : Addr) : entryFrame m #[(.ref x0), .null] 3 = mkF m 0 #[.val (.ref x0), .val .null, .unset] [] := by first | (simp [entryFrame, mkF, argsToLocals, Value.category]; done) | rfl
theorem own_ef11 (m : MethodId) (x0 : Addr) (x1 : Addr) : entryFrame m #[(.ref x0), (.ref x1)] 3 = mkF m 0 #[.val (.ref x0), .val (.ref x1), .unset] [] := by first | (simp [entryFrame, mkF, argsToLocals, Value.category]; done) | rfl
theorem own_ef12 (m : MethodId) (x0 : Addr) (x1 : Addr) : entryFrame m #[(.ref x0), (.ref x1)] 3 = mkF m 0 #[.val (.ref x0), .val (.ref x1), .unset] [] := by first | (simp [entryFrame, mkF, argsToLocals, Value.category]; done) | rfl
theorem own_ef13 (m : MethodId) (x0 : Int32) (x1 : Int32) (x2 : Int32) : entryFrame m #[(.int x0), (.int x1), (.int x2)] maxLocals = mkF m 0 #[.val (.int x0), .val (.int x1), .val (.int x2), .unset, .unset, .unset, .unset, .unset, .unset] [] := by first | (simp [entryFrame, mkF, argsToLocals, Value.category, maxLocals]; done) | rfl
theorem own_pn8 : plainName "com/example/invarient/invarient/model/AtomicPredicateEqualsPinLaw" = true := by first | (simp [plainName, overriddenIn]; done) | decide +kernel
theorem own_pd6 : parseMethodDescriptor "(Lcom/example/invarient/invarient/model/AtomicPredicate$Operator;)V" = some ⟨[(.object "com/example/invarient/invarient/model/AtomicPredicate$Operator")], none⟩ := by decide +kernel
theorem own_pd7 : parseMethodDescriptor "(Ljava/lang/Object;)Z" = some ⟨[(.object "java/lang/Object")], some .boolean⟩ := by decide +kernel
theorem own_pd8 : parseMethodDescriptor "(Lcom/example/invarient/invarient/model/AtomicExpression$Operator;)V" = some ⟨[(.object "com/example/invarient/invarient/model/AtomicExpression$Operator")], none⟩ := by decide +kernel
theorem own_pd9 : parseMethodDescriptor "(C)Ljava/lang/String;" = some ⟨[.char], some (.object "java/lang/String")⟩ := by decide +kernel
set_option maxRecDepth 65536 in
set_option maxHeartbeats 40000000 in
theorem own_rmce (l : Launch) (Z : State) (a0 : Array Value) (hw : ∀ d ∈ tables_1, d.before a0 Z = true) (ws : List Jvm.Cond) (p1 : Int32) (h0 : Heap) (n0 : Nat) (Z0 : n0 ≤ h0.size) (hc : ¬ (255 : Int32) < p1) :
    MetFree l (⟨"java/lang/StringLatin1", "canEncode", "(C)Z"⟩ : MethodName) (head1 (Jvm.Cond.code (⟨"java/lang/StringLatin1", "canEncode", "(C)Z"⟩ : MethodName) jdk_43_method_3_code 1 (some .boolean) :: ws) ({ frames := 0, cells := 0, slots := 0, locals := 0 } : Room)) (fun a_ U_ => a_ = #[(.int p1)] ∧ Z.Warmed39 U_.vm ∧ U_.heap = h0) (fun _ _ _ _ _ => True) (fun _ U_ o_ U_' => ∃ v_ L_, o_ = .returned v_ ∧ own_QP (some (.int 1)) h0 n0 v_ U_'.heap L_ ∧ FrameEnd U_ o_ U_' L_ ({ frames := 0, cells := 0, slots := 0, locals := 0 } : Room).cells ({ frames := 0, cells := 0, slots := 0, locals := 0 } : Room).slots) := by
  refine MetFree.of_bodySF (plainFor_of_name own_pn0) hisR ?_
  intro p e s m args below meth c s₁ Bd hml0 hP hK
  obtain ⟨rfl, hZ, hh⟩ := hP
  have hx := Bd.exec
  have hby := Bd.bytes
  have hml : c.maxLocals = 1 := hml0
  have hown : s.vm.findClass "java/lang/StringLatin1" = some m.cls := findClass_of_methodNamed Bd.named
  have hnm := (name_of_methodNamed Bd.named Bd.method).1
  have X0 : Stand p l e ({ frames := 0, cells := 0, slots := 0, locals := 0 } : Room) s m #[(.int p1)] below meth c s₁ [] 0 0 := Stand.of_body Bd
  have e0 : s₁.heap = h0 := by rw [← hh, Bd.state]; rfl
  have N0 := Fr.nil n0
  have pre0 : ∀ t, Steps p.tables e below (s₁.setTop (mkF m 0 #[.val (.int p1)] [])) t → Steps p.tables e below (s₁.setTop (entryFrame m #[(.int p1)] 1)) t := fun t_ k_ => castTop (own_ef0 m p1) k_
  obtain ⟨fs, hr, hrun, hended, hW, hsame⟩ := X0.leave (v := some (.int (1 : Int32))) (fun h => by rw [Bd.returns] at h; cases h)
  refine ⟨_, _, pre0 _ ?_, hrun, hended, _, _, rfl, ?_, ⟨_, rfl⟩, hW, hsame.mono (by decide) (by decide)⟩
  · show Steps p.tables e below (s₁.setTop (mkF m 0 #[.val (.int p1)] [])) _
    refine XS.iloadN X0.here hx rfl (hb hby own_d_jdk_43_method_3_code_0) rfl ?_
    show Steps p.tables e below (s₁.setTop (mkF m 1 #[.val (.int p1)] [(.int p1)])) _
    refine XS.sipush X0.here hx rfl (hb hby own_d_jdk_43_method_3_code_1) ?_
    show Steps p.tables e below (s₁.setTop (mkF m 4 #[.val (.int p1)] [(.int (255 : Int32)), (.int p1)])) _
    refine XS.icmpNo X0.here hx rfl (hb hby own_d_jdk_43_method_3_code_4) rfl (flt (hc : ¬ ((255 : Int32) < p1))).2.2.1 ?_
    show Steps p.tables e below (s₁.setTop (mkF m 7 #[.val (.int p1)] [])) _
    refine XS.iconst X0.here hx rfl (hb hby own_d_jdk_43_method_3_code_7) ?_
    show Steps p.tables e below (s₁.setTop (mkF m 8 #[.val (.int p1)] [(.int (1 : Int32))])) _
    refine XS.goto X0.here hx rfl (pc0 := 8) (pc' := 12) rfl (hb hby own_d_jdk_43_method_3_code_8) (by decide) (by decide) ?_
    show Steps p.tables e below (s₁.setTop (mkF m 12 #[.val (.int p1)] [(.int (1 : Int32))])) _
    exact retN X0 hx (t := .boolean) Bd.returns (by simp) (hb hby own_d_jdk_43_method_3_code_12) hr
  · show own_QP (some (.int 1)) h0 n0 _ s₁.heap _
    exact ⟨rfl, N0, e0⟩
set_option maxRecDepth 65536 in
set_option maxHeartbeats 40000000 in
theorem own_rmv (l : Launch) (Z : State) (a0 : Array Value) (hw : ∀ d ∈ tables_1, d.before a0 Z = true) (ws : List Jvm.Cond) (p1 w2 : Int32) (h0 : Heap) (n0 : Nat) (Z0 : n0 ≤ h0.size) (S_C : Sta Z h0 "java/lang/String" "COMPACT_STRINGS" "Z" (.int w2)) (hn : ¬ w2 = (0 : Int32)) (hc : ¬ (255 : Int32) < p1) :
    MetFree l (⟨"java/lang/String", "valueOf", "(C)Ljava/lang/String;"⟩ : MethodName) (head1 (Jvm.Cond.code (⟨"java/lang/String", "valueOf", "(C)Ljava/lang/String;"⟩ : MethodName) jdk_42_method_139_code 1 (some (.object "java/lang/String")) :: ws) ({ frames := 2, cells := 2, slots := 5, locals := 27 } : Room)) (fun a_ U_ => a_ = #[(.int p1)] ∧ Z.Warmed39 U_.vm ∧ U_.heap = h0) (fun _ _ _ _ _ => True) (fun _ U_ o_ U_' => ∃ v_ L_, o_ = .returned v_ ∧ own_QS Z h0 n0 v_ U_'.heap L_ ∧ FrameEnd U_ o_ U_' L_ ({ frames := 2, cells := 2, slots := 5, locals := 27 } : Room).cells ({ frames := 2, cells := 2, slots := 5, locals := 27 } : Room).slots) := by
  refine MetFree.of_bodySF (plainFor_of_name own_pn1) hisR ?_
  intro p e s m args below meth c s₁ Bd hml0 hP hK
  obtain ⟨rfl, hZ, hh⟩ := hP
  have hx := Bd.exec
  have hby := Bd.bytes
  have hml : c.maxLocals = 1 := hml0
  have hown : s.vm.findClass "java/lang/String" = some m.cls := findClass_of_methodNamed Bd.named
  have hnm := (name_of_methodNamed Bd.named Bd.method).1
  have X0 : Stand p l e ({ frames := 2, cells := 2, slots := 5, locals := 27 } : Room) s m #[(.int p1)] below meth c s₁ [] 0 0 := Stand.of_body Bd
  have e0 : s₁.heap = h0 := by rw [← hh, Bd.state]; rfl
  have N0 := Fr.nil n0
  have pre0 : ∀ t, Steps p.tables e below (s₁.setTop (mkF m 0 #[.val (.int p1)] [])) t → Steps p.tables e below (s₁.setTop (entryFrame m #[(.int p1)] 1)) t := fun t_ k_ => castTop (own_ef1 m p1) k_
  obtain ⟨T1, X1, e1, st1⟩ := getS2 X0 hx hZ hown (host := "") (Or.inl (hw _ (List.mem_of_getElem? (i := 54) rfl))) Via.refl e0 S_C (g := (mkF m 0 #[.val (.int p1)] [])) rfl (hb hby own_d_jdk_42_method_139_code_0)
  obtain ⟨_, _, ⟨T2, L2, kc2, nc2⟩, -, X2, ⟨Lc2, hQ2, ql2, qy2, qz2⟩, st2⟩ := Jvm.LawKit.callS X1 hx (y := (⟨"java/lang/StringLatin1", "canEncode", "(C)Z"⟩ : MethodName)) hown (mvT hZ (hw _ (List.mem_of_getElem? (i := 55) rfl))) (mvT hZ (hw _ (List.mem_of_getElem? (i := 56) rfl))) (mvT hZ (hw _ (List.mem_of_getElem? (i := 57) rfl))) (mvT hZ (hw _ (List.mem_of_getElem? (i := 58) rfl))) (by decide) (backOf (W := 0) (own_rmce l Z a0 hw [] p1 h0 n0 Z0 hc) hZ (hw _ (List.mem_of_getElem? (i := 58) rfl)) (hw _ (List.mem_of_getElem? (i := 57) rfl)) (by decide) (by decide)) (g := (mkF m 7 #[.val (.int p1)] [(.int p1)])) rfl (by rw [hml]; rfl) (argsL := [(.int p1)]) (rest := []) (lenOf own_pd0 rfl) rfl (by show 2 * 0 + _ ≤ _; exact Nat.le_of_eq rfl) (hb hby own_d_jdk_42_method_139_code_7) (fun _ _ => ⟨rfl, e1, (by decide : 0 + 0 ≤ _), (by decide : 0 + 0 ≤ _)⟩)
  dsimp only [Pt.U, Pt.locs, Pt.cells, Pt.slots] at X2 ql2 qy2 qz2 st2 hQ2
  subst ql2 qy2 qz2
  obtain ⟨rfl, Nq2, eq2⟩ := hQ2
  have N2 := Fr.app N0 Nq2
  obtain ⟨T3, hp3, X3, e3, E3, A3, D3, -, st3⟩ := newO X2 hx hZ hown (hw _ (List.mem_of_getElem? (i := 59) rfl)) (hw _ (List.mem_of_getElem? (i := 28) rfl)) (hw _ (List.mem_of_getElem? (i := 27) rfl)) eq2 (g := (mkF m 13 #[.val (.int p1)] [])) rfl (hb hby own_d_jdk_42_method_139_code_13) (by decide) (by decide)
  obtain ⟨b3, g3⟩ : ∃ z, z = h0.size := ⟨_, rfl⟩
  rw [← g3] at A3 D3 st3
  have gn_b3 : n0 ≤ b3 := Nat.le_trans Z0 (Nat.le_of_eq g3.symm)
  have Zn3 : n0 ≤ hp3.size := Nat.le_trans Z0 E3.1
  have F3_value : Fld Z hp3 b3 "java/lang/String" "value" "[B" .null := D3 (Or.inr (hw _ (List.mem_of_getElem? (i := 30) rfl))) (ty := (.array .byte)) (by decide)
  have F3_coder : Fld Z hp3 b3 "java/lang/String" "coder" "B" (.int (0 : Int32)) := D3 (Or.inr (hw _ (List.mem_of_getElem? (i := 31) rfl))) (ty := .byte) (by decide)
  have sz_b : h0.size ≤ b3 := Nat.le_of_eq g3.symm
  have Ka : Keep h0 hp3 [] := (Keep.refl h0 []).ext E3
  obtain ⟨_, _, ⟨T4, L4, kc4, nc4⟩, -, X4, ⟨Lc4, hQ4, ql4, qy4, qz4⟩, st4⟩ := Jvm.LawKit.callS X3 hx (y := (⟨"java/lang/StringLatin1", "toBytes", "(C)[B"⟩ : MethodName)) hown (mvT hZ (hw _ (List.mem_of_getElem? (i := 60) rfl))) (mvT hZ (hw _ (List.mem_of_getElem? (i := 61) rfl))) (mvT hZ (hw _ (List.mem_of_getElem? (i := 57) rfl))) (mvT hZ (hw _ (List.mem_of_getElem? (i := 62) rfl))) (by decide) (backOf (W := 2) (rm9 l Z a0 hw [] p1 hp3 n0 Zn3) hZ (hw _ (List.mem_of_getElem? (i := 62) rfl)) (hw _ (List.mem_of_getElem? (i := 57) rfl)) (by decide) (by decide)) (g := (mkF m 18 #[.val (.int p1)] [(.int p1), (.ref b3), (.ref b3)])) rfl (by rw [hml]; rfl) (argsL := [(.int p1)]) (rest := [(.ref b3), (.ref b3)]) (lenOf own_pd1 rfl) rfl (by show 2 * 0 + _ ≤ _; exact Nat.le_of_eq rfl) (hb hby own_d_jdk_42_method_139_code_18) (fun _ _ => ⟨rfl, e3, (by decide : 1 + 1 ≤ _), (by decide : 4 + 1 ≤ _)⟩)
  dsimp only [Pt.U, Pt.locs, Pt.cells, Pt.slots] at X4 ql4 qy4 qz4 st4 hQ4
  subst ql4 qy4 qz4
  obtain ⟨ba, rfl, Nq4, Kb, szb⟩ := hQ4
  have N4 := Fr.app N2 Nq4
  have F4_b3_value := F3_value.keep Kb nin0
  have F4_b3_coder := F3_coder.keep Kb nin0
  have E4_b3 := A3.keep Kb
  have Zn4 : n0 ≤ T4.heap.size := Nat.le_trans Zn3 Kb.1
  have Kc : Keep h0 T4.heap [] := Ka.trans Kb all0
  obtain ⟨_, _, ⟨T5, L5, kc5, nc5⟩, -, X5, ⟨Lc5, hQ5, ql5, qy5, qz5⟩, st5⟩ := X4.specialBack hx (y := (⟨"java/lang/String", "<init>", "([BB)V"⟩ : MethodName)) rfl hown (mvT hZ (hw _ (List.mem_of_getElem? (i := 63) rfl))) (mvT hZ (hw _ (List.mem_of_getElem? (i := 64) rfl))) (mvT hZ (hw _ (List.mem_of_getElem? (i := 66) rfl))) (by decide) (backOf (W := 1) (rm10 l Z a0 hw [] b3 ba (0 : Int32) .null (.int 0) T4.heap n0 Zn4 E4_b3 F4_b3_value gn_b3 F4_b3_coder) hZ (hw _ (List.mem_of_getElem? (i := 66) rfl)) (hw _ (List.mem_of_getElem? (i := 27) rfl)) (by decide) (by decide)) (g := (mkF m 22 #[.val (.int p1)] [(.int (0 : Int32)), (.ref ba), (.ref b3), (.ref b3)])) rfl (by rw [hml]; rfl) (Steps.refl _) (a := b3) (argsL := [(.ref ba), (.int (0 : Int32))]) (rest := [(.ref b3)]) (lenOf own_pd2 rfl) rfl (by show 2 * 0 + _ ≤ _; exact Nat.le_of_eq rfl) (hb hby own_d_jdk_42_method_139_code_22) (fun _ _ => ⟨rfl, (rfl : T4.heap = _), (by decide : 2 + 0 ≤ _), (by decide : 5 + 0 ≤ _)⟩)
  dsimp only [Pt.U, Pt.locs, Pt.cells, Pt.slots] at X5 ql5 qy5 qz5 st5 hQ5
  subst ql5 qy5 qz5
  obtain ⟨rfl, Nq5, K5, Ec5, Fc5_value, Fc5_coder⟩ := hQ5
  have N5 := Fr.app N4 Nq5
  have Zn5 : n0 ≤ T5.heap.size := Nat.le_trans Zn4 K5.1
  have Kd : Keep h0 T5.heap [] := Kc.trans K5 (allS (Or.inr sz_b) all0)
  obtain ⟨fs, hr, hrun, hended, hW, hsame⟩ := X5.leave (v := some (.ref b3)) (fun h => by rw [Bd.returns] at h; cases h)
  refine ⟨_, _, pre0 _ ?_, hrun, hended, _, _, rfl, ?_, ⟨_, rfl⟩, hW, hsame.mono (by decide) (by decide)⟩
  · show Steps p.tables e below (s₁.setTop (mkF m 0 #[.val (.int p1)] [])) _
    refine st1 _ ?_
    show Steps p.tables e below (T1.setTop (mkF m 3 #[.val (.int p1)] [(.int w2)])) _
    refine XS.ifNo X1.here hx rfl (hb hby own_d_jdk_42_method_139_code_3) rfl ((if0 _ _).trans (feq (hn : ¬ (w2 = (0 : Int32)))).1) ?_
    show Steps p.tables e below (T1.setTop (mkF m 6 #[.val (.int p1)] [])) _
    refine XS.iloadN X1.here hx rfl (hb hby own_d_jdk_42_method_139_code_6) rfl ?_
    show Steps p.tables e below (T1.setTop (mkF m 7 #[.val (.int p1)] [(.int p1)])) _
    refine st2 _ ?_
    show Steps p.tables e below (T2.setTop (mkF m 10 #[.val (.int p1)] [(.int (1 : Int32))])) _
    refine XS.ifNo X2.here hx rfl (hb hby own_d_jdk_42_method_139_code_10) rfl ((if0 _ _).trans (feq (by decide : ¬ ((1 : Int32) = (0 : Int32)))).1) ?_
    show Steps p.tables e below (T2.setTop (mkF m 13 #[.val (.int p1)] [])) _
    refine st3 _ ?_
    show Steps p.tables e below (T3.setTop (mkF m 16 #[.val (.int p1)] [(.ref b3)])) _
    refine XS.dup X3.here hx rfl (hb hby own_d_jdk_42_method_139_code_16) rfl rfl ?_
    show Steps p.tables e below (T3.setTop (mkF m 17 #[.val (.int p1)] [(.ref b3), (.ref b3)])) _
    refine XS.iloadN X3.here hx rfl (hb hby own_d_jdk_42_method_139_code_17) rfl ?_
    show Steps p.tables e below (T3.setTop (mkF m 18 #[.val (.int p1)] [(.int p1), (.ref b3), (.ref b3)])) _
    refine st4 _ ?_
    show Steps p.tables e below (T4.setTop (mkF m 21 #[.val (.int p1)] [(.ref ba), (.ref b3), (.ref b3)])) _
    refine XS.iconst X4.here hx rfl (hb hby own_d_jdk_42_method_139_code_21) ?_
    show Steps p.tables e below (T4.setTop (mkF m 22 #[.val (.int p1)] [(.int (0 : Int32)), (.ref ba), (.ref b3), (.ref b3)])) _
    refine st5.trans ?_
    show Steps p.tables e below (T5.setTop (mkF m 25 #[.val (.int p1)] [(.ref b3)])) _
    exact retOut X5 hx Bd.returns rfl (Or.inr (Or.inr (Or.inr (Or.inr ⟨rfl, rfl, rfl⟩)))) (hb hby own_d_jdk_42_method_139_code_25) hr
  · show own_QS Z h0 n0 _ T5.heap _
    exact ⟨b3, rfl, N5, Kd, sz_b, Ec5⟩
set_option maxRecDepth 65536 in
set_option maxHeartbeats 40000000 in
theorem own_rfP (l : Launch) (Z : State) (a0 : Array Value) (hw : ∀ d ∈ tables_1, d.before a0 Z = true) (ws : List Jvm.Cond) (a : Addr) (x : Int32) (v0 v1 v2 : Value) (h0 : Heap) (n0 : Nat) (Z0 : n0 ≤ h0.size) (E_a : Exa Z h0 a "com/example/invarient/invarient/model/AtomicPredicate") (g_a : n0 ≤ a) (F0 : Fld Z h0 a "com/example/invarient/invarient/model/Formula" "height" "I" v0) (F1 : Fld Z h0 a "com/example/invarient/invarient/model/Predicate" "priority" "I" v1) (F2 : Fld Z h0 a "com/example/invarient/invarient/model/AtomicPredicate" "operator" "Lcom/example/invarient/invarient/model/AtomicPredicate$Operator;" v2) :
    MetFree l (⟨"com/example/invarient/invarient/model/Formula", "<init>", "(I)V"⟩ : MethodName) (head1 (Jvm.Cond.code (⟨"com/example/invarient/invarient/model/Formula", "<init>", "(I)V"⟩ : MethodName) prog_61_method_1_code 2 none :: ws) ({ frames := 1, cells := 0, slots := 0, locals := 12 } : Room)) (fun a_ U_ => a_ = #[(.ref a), (.int x)] ∧ Z.Warmed39 U_.vm ∧ U_.heap = h0) (fun _ _ _ _ _ => True) (fun _ U_ o_ U_' => ∃ v_ L_, o_ = .returned v_ ∧ own_QPp Z a (.int x) v1 v2 h0 n0 v_ U_'.heap L_ ∧ FrameEnd U_ o_ U_' L_ ({ frames := 1, cells := 0, slots := 0, locals := 12 } : Room).cells ({ frames := 1, cells := 0, slots := 0, locals := 12 } : Room).slots) := by
  refine MetFree.of_bodySF (plainFor_of_name own_pn2) hisR ?_
  intro p e s m args below meth c s₁ Bd hml0 hP hK
  obtain ⟨rfl, hZ, hh⟩ := hP
  have hx := Bd.exec
  have hby := Bd.bytes
  have hml : c.maxLocals = 2 := hml0
  have hown : s.vm.findClass "com/example/invarient/invarient/model/Formula" = some m.cls := findClass_of_methodNamed Bd.named
  have hnm := (name_of_methodNamed Bd.named Bd.method).1
  have X0 : Stand p l e ({ frames := 1, cells := 0, slots := 0, locals := 12 } : Room) s m #[(.ref a), (.int x)] below meth c s₁ [] 0 0 := Stand.of_body Bd
  have e0 : s₁.heap = h0 := by rw [← hh, Bd.state]; rfl
  have N0 := Fr.nil n0
  have pre0 : ∀ t, Steps p.tables e below (s₁.setTop (mkF m 0 #[.val (.ref a), .val (.int x)] [])) t → Steps p.tables e below (s₁.setTop (entryFrame m #[(.ref a), (.int x)] 2)) t := fun t_ k_ => castTop (own_ef2 m a x) k_
  obtain ⟨T1, X1, e1, st1⟩ := initO X0 hx hZ hown (hw _ (List.mem_of_getElem? (i := 19) rfl)) (hw _ (List.mem_of_getElem? (i := 20) rfl)) (hw _ (List.mem_of_getElem? (i := 21) rfl)) e0 (g := (mkF m 1 #[.val (.ref a), .val (.int x)] [(.ref a)])) rfl (by rw [hml]; rfl) rfl (hb hby own_d_prog_61_method_1_code_1) (by decide) (W := 0) (by show 2 * 0 + _ ≤ _; exact Nat.le_of_eq rfl) (by decide)
  obtain ⟨T2, hp2, X2, e2, W2, st2⟩ := putF X1 hx hZ hown (host := "") (Or.inl (hw _ (List.mem_of_getElem? (i := 22) rfl))) Via.refl e1 F0 E_a (Or.inr ⟨(hw _ (List.mem_of_getElem? (i := 23) rfl)), rfl, hnm⟩) (hw _ (List.mem_of_getElem? (i := 1) rfl)) (ty := .int) (by decide) rfl rfl (g := (mkF m 6 #[.val (.ref a), .val (.int x)] [(.int x), (.ref a)])) rfl rfl (hb hby own_d_prog_61_method_1_code_6)
  have F2_a_height := F0.same W2
  have F2_a_priority := F1.other W2 (Or.inr (slot_ne (Or.inr (hw _ (List.mem_of_getElem? (i := 25) rfl))) (Or.inr (hw _ (List.mem_of_getElem? (i := 23) rfl))) (by decide) (t := .int) (t' := .int) (by decide) (by decide)))
  have F2_a_operator := F2.other W2 (Or.inr (slot_ne (Or.inr (hw _ (List.mem_of_getElem? (i := 41) rfl))) (Or.inr (hw _ (List.mem_of_getElem? (i := 23) rfl))) (by decide) (t := (.object "com/example/invarient/invarient/model/AtomicPredicate$Operator")) (t' := .int) (by decide) (by decide)))
  have E2_a := E_a.wr W2
  have K2 := (Keep.refl h0 [a]).wr W2 (Or.inl (List.mem_of_getElem? (i := 0) rfl))
  have N2 := Fr.snoc X2 N0 g_a
  obtain ⟨fs, hr, hrun, hended, hW, hsame⟩ := X2.leave (v := none) (fun _ => rfl)
  refine ⟨_, _, pre0 _ ?_, hrun, hended, _, _, rfl, ?_, ⟨_, rfl⟩, hW, hsame.mono (by decide) (by decide)⟩
  · show Steps p.tables e below (s₁.setTop (mkF m 0 #[.val (.ref a), .val (.int x)] [])) _
    refine XS.aloadN X0.here hx rfl (hb hby own_d_prog_61_method_1_code_0) rfl rfl ?_
    show Steps p.tables e below (s₁.setTop (mkF m 1 #[.val (.ref a), .val (.int x)] [(.ref a)])) _
    refine st1 _ ?_
    show Steps p.tables e below (T1.setTop (mkF m 4 #[.val (.ref a), .val (.int x)] [])) _
    refine XS.aloadN X1.here hx rfl (hb hby own_d_prog_61_method_1_code_4) rfl rfl ?_
    show Steps p.tables e below (T1.setTop (mkF m 5 #[.val (.ref a), .val (.int x)] [(.ref a)])) _
    refine XS.iloadN X1.here hx rfl (hb hby own_d_prog_61_method_1_code_5) rfl ?_
    show Steps p.tables e below (T1.setTop (mkF m 6 #[.val (.ref a), .val (.int x)] [(.int x), (.ref a)])) _
    refine st2 _ ?_
    show Steps p.tables e below (T2.setTop (mkF m 9 #[.val (.ref a), .val (.int x)] [])) _
    exact X2.returnOut hx Bd.returns (hb hby own_d_prog_61_method_1_code_9) hr
  · show own_QPp Z a (.int x) v1 v2 h0 n0 _ T2.heap _
    rw [e2]
    exact ⟨rfl, N2, K2, E2_a, F2_a_height, F2_a_priority, F2_a_operator⟩
set_option maxRecDepth 65536 in
set_option maxHeartbeats 40000000 in
theorem own_rfE (l : Launch) (Z : State) (a0 : Array Value) (hw : ∀ d ∈ tables_1, d.before a0 Z = true) (ws : List Jvm.Cond) (a : Addr) (x : Int32) (v0 v1 : Value) (h0 : Heap) (n0 : Nat) (Z0 : n0 ≤ h0.size) (E_a : Exa Z h0 a "com/example/invarient/invarient/model/AtomicExpression") (g_a : n0 ≤ a) (F0 : Fld Z h0 a "com/example/invarient/invarient/model/Formula" "height" "I" v0) (F1 : Fld Z h0 a "com/example/invarient/invarient/model/AtomicExpression" "operator" "Lcom/example/invarient/invarient/model/AtomicExpression$Operator;" v1) :
    MetFree l (⟨"com/example/invarient/invarient/model/Formula", "<init>", "(I)V"⟩ : MethodName) (head1 (Jvm.Cond.code (⟨"com/example/invarient/invarient/model/Formula", "<init>", "(I)V"⟩ : MethodName) prog_61_method_1_code 2 none :: ws) ({ frames := 1, cells := 0, slots := 0, locals := 12 } : Room)) (fun a_ U_ => a_ = #[(.ref a), (.int x)] ∧ Z.Warmed39 U_.vm ∧ U_.heap = h0) (fun _ _ _ _ _ => True) (fun _ U_ o_ U_' => ∃ v_ L_, o_ = .returned v_ ∧ own_QE Z a (.int x) v1 h0 n0 v_ U_'.heap L_ ∧ FrameEnd U_ o_ U_' L_ ({ frames := 1, cells := 0, slots := 0, locals := 12 } : Room).cells ({ frames := 1, cells := 0, slots := 0, locals := 12 } : Room).slots) := by
  refine MetFree.of_bodySF (plainFor_of_name own_pn2) hisR ?_
  intro p e s m args below meth c s₁ Bd hml0 hP hK
  obtain ⟨rfl, hZ, hh⟩ := hP
  have hx := Bd.exec
  have hby := Bd.bytes
  have hml : c.maxLocals = 2 := hml0
  have hown : s.vm.findClass "com/example/invarient/invarient/model/Formula" = some m.cls := findClass_of_methodNamed Bd.named
  have hnm := (name_of_methodNamed Bd.named Bd.method).1
  have X0 : Stand p l e ({ frames := 1, cells := 0, slots := 0, locals := 12 } : Room) s m #[(.ref a), (.int x)] below meth c s₁ [] 0 0 := Stand.of_body Bd
  have e0 : s₁.heap = h0 := by rw [← hh, Bd.state]; rfl
  have N0 := Fr.nil n0
  have pre0 : ∀ t, Steps p.tables e below (s₁.setTop (mkF m 0 #[.val (.ref a), .val (.int x)] [])) t → Steps p.tables e below (s₁.setTop (entryFrame m #[(.ref a), (.int x)] 2)) t := fun t_ k_ => castTop (own_ef3 m a x) k_
  obtain ⟨T1, X1, e1, st1⟩ := initO X0 hx hZ hown (hw _ (List.mem_of_getElem? (i := 19) rfl)) (hw _ (List.mem_of_getElem? (i := 20) rfl)) (hw _ (List.mem_of_getElem? (i := 21) rfl)) e0 (g := (mkF m 1 #[.val (.ref a), .val (.int x)] [(.ref a)])) rfl (by rw [hml]; rfl) rfl (hb hby own_d_prog_61_method_1_code_1) (by decide) (W := 0) (by show 2 * 0 + _ ≤ _; exact Nat.le_of_eq rfl) (by decide)
  obtain ⟨T2, hp2, X2, e2, W2, st2⟩ := putF X1 hx hZ hown (host := "") (Or.inl (hw _ (List.mem_of_getElem? (i := 22) rfl))) Via.refl e1 F0 E_a (Or.inr ⟨(hw _ (List.mem_of_getElem? (i := 87) rfl)), rfl, hnm⟩) (hw _ (List.mem_of_getElem? (i := 73) rfl)) (ty := .int) (by decide) rfl rfl (g := (mkF m 6 #[.val (.ref a), .val (.int x)] [(.int x), (.ref a)])) rfl rfl (hb hby own_d_prog_61_method_1_code_6)
  have F2_a_height := F0.same W2
  have F2_a_operator := F1.other W2 (Or.inr (slot_ne (Or.inr (hw _ (List.mem_of_getElem? (i := 93) rfl))) (Or.inr (hw _ (List.mem_of_getElem? (i := 87) rfl))) (by decide) (t := (.object "com/example/invarient/invarient/model/AtomicExpression$Operator")) (t' := .int) (by decide) (by decide)))
  have E2_a := E_a.wr W2
  have K2 := (Keep.refl h0 [a]).wr W2 (Or.inl (List.mem_of_getElem? (i := 0) rfl))
  have N2 := Fr.snoc X2 N0 g_a
  obtain ⟨fs, hr, hrun, hended, hW, hsame⟩ := X2.leave (v := none) (fun _ => rfl)
  refine ⟨_, _, pre0 _ ?_, hrun, hended, _, _, rfl, ?_, ⟨_, rfl⟩, hW, hsame.mono (by decide) (by decide)⟩
  · show Steps p.tables e below (s₁.setTop (mkF m 0 #[.val (.ref a), .val (.int x)] [])) _
    refine XS.aloadN X0.here hx rfl (hb hby own_d_prog_61_method_1_code_0) rfl rfl ?_
    show Steps p.tables e below (s₁.setTop (mkF m 1 #[.val (.ref a), .val (.int x)] [(.ref a)])) _
    refine st1 _ ?_
    show Steps p.tables e below (T1.setTop (mkF m 4 #[.val (.ref a), .val (.int x)] [])) _
    refine XS.aloadN X1.here hx rfl (hb hby own_d_prog_61_method_1_code_4) rfl rfl ?_
    show Steps p.tables e below (T1.setTop (mkF m 5 #[.val (.ref a), .val (.int x)] [(.ref a)])) _
    refine XS.iloadN X1.here hx rfl (hb hby own_d_prog_61_method_1_code_5) rfl ?_
    show Steps p.tables e below (T1.setTop (mkF m 6 #[.val (.ref a), .val (.int x)] [(.int x), (.ref a)])) _
    refine st2 _ ?_
    show Steps p.tables e below (T2.setTop (mkF m 9 #[.val (.ref a), .val (.int x)] [])) _
    exact X2.returnOut hx Bd.returns (hb hby own_d_prog_61_method_1_code_9) hr
  · show own_QE Z a (.int x) v1 h0 n0 _ T2.heap _
    rw [e2]
    exact ⟨rfl, N2, K2, E2_a, F2_a_height, F2_a_operator⟩
set_option maxRecDepth 65536 in
set_option maxHeartbeats 40000000 in
theorem own_rp (l : Launch) (Z : State) (a0 : Array Value) (hw : ∀ d ∈ tables_1, d.before a0 Z = true) (ws : List Jvm.Cond) (a : Addr) (x y : Int32) (v0 v1 v2 : Value) (h0 : Heap) (n0 : Nat) (Z0 : n0 ≤ h0.size) (E_a : Exa Z h0 a "com/example/invarient/invarient/model/AtomicPredicate") (g_a : n0 ≤ a) (F0 : Fld Z h0 a "com/example/invarient/invarient/model/Formula" "height" "I" v0) (F1 : Fld Z h0 a "com/example/invarient/invarient/model/Predicate" "priority" "I" v1) (F2 : Fld Z h0 a "com/example/invarient/invarient/model/AtomicPredicate" "operator" "Lcom/example/invarient/invarient/model/AtomicPredicate$Operator;" v2) :
    MetFree l (⟨"com/example/invarient/invarient/model/Predicate", "<init>", "(II)V"⟩ : MethodName) (head1 (Jvm.Cond.code (⟨"com/example/invarient/invarient/model/Predicate", "<init>", "(II)V"⟩ : MethodName) prog_68_method_1_code 3 none :: ws) ({ frames := 2, cells := 0, slots := 0, locals := 25 } : Room)) (fun a_ U_ => a_ = #[(.ref a), (.int x), (.int y)] ∧ Z.Warmed39 U_.vm ∧ U_.heap = h0) (fun _ _ _ _ _ => True) (fun _ U_ o_ U_' => ∃ v_ L_, o_ = .returned v_ ∧ own_QPp Z a (.int x) (.int y) v2 h0 n0 v_ U_'.heap L_ ∧ FrameEnd U_ o_ U_' L_ ({ frames := 2, cells := 0, slots := 0, locals := 25 } : Room).cells ({ frames := 2, cells := 0, slots := 0, locals := 25 } : Room).slots) := by
  refine MetFree.of_bodySF (plainFor_of_name own_pn3) hisR ?_
  intro p e s m args below meth c s₁ Bd hml0 hP hK
  obtain ⟨rfl, hZ, hh⟩ := hP
  have hx := Bd.exec
  have hby := Bd.bytes
  have hml : c.maxLocals = 3 := hml0
  have hown : s.vm.findClass "com/example/invarient/invarient/model/Predicate" = some m.cls := findClass_of_methodNamed Bd.named
  have hnm := (name_of_methodNamed Bd.named Bd.method).1
  have X0 : Stand p l e ({ frames := 2, cells := 0, slots := 0, locals := 25 } : Room) s m #[(.ref a), (.int x), (.int y)] below meth c s₁ [] 0 0 := Stand.of_body Bd
  have e0 : s₁.heap = h0 := by rw [← hh, Bd.state]; rfl
  have N0 := Fr.nil n0
  have pre0 : ∀ t, Steps p.tables e below (s₁.setTop (mkF m 0 #[.val (.ref a), .val (.int x), .val (.int y)] [])) t → Steps p.tables e below (s₁.setTop (entryFrame m #[(.ref a), (.int x), (.int y)] 3)) t := fun t_ k_ => castTop (own_ef4 m a x y) k_
  obtain ⟨_, _, ⟨T1, L1, kc1, nc1⟩, -, X1, ⟨Lc1, hQ1, ql1, qy1, qz1⟩, st1⟩ := X0.specialBack hx (y := (⟨"com/example/invarient/invarient/model/Formula", "<init>", "(I)V"⟩ : MethodName)) rfl hown (mvT hZ (hw _ (List.mem_of_getElem? (i := 14) rfl))) (mvT hZ (hw _ (List.mem_of_getElem? (i := 15) rfl))) (mvT hZ (hw _ (List.mem_of_getElem? (i := 18) rfl))) (by decide) (backOf (W := 0) (own_rfP l Z a0 hw [] a x v0 v1 v2 h0 n0 Z0 E_a g_a F0 F1 F2) hZ (hw _ (List.mem_of_getElem? (i := 18) rfl)) (hw _ (List.mem_of_getElem? (i := 17) rfl)) (by decide) (by decide)) (g := (mkF m 2 #[.val (.ref a), .val (.int x), .val (.int y)] [(.int x), (.ref a)])) rfl (by rw [hml]; rfl) (Steps.refl _) (a := a) (argsL := [(.int x)]) (rest := []) (lenOf own_pd3 rfl) rfl (by show 2 * 0 + _ ≤ _; exact Nat.le_of_eq rfl) (hb hby own_d_prog_68_method_1_code_2) (fun _ _ => ⟨rfl, e0, (by decide : 0 + 0 ≤ _), (by decide : 0 + 0 ≤ _)⟩)
  dsimp only [Pt.U, Pt.locs, Pt.cells, Pt.slots] at X1 ql1 qy1 qz1 st1 hQ1
  subst ql1 qy1 qz1
  obtain ⟨rfl, Nq1, K1, Ec1, Fc1_height, Fc1_priority, Fc1_operator⟩ := hQ1
  have N1 := Fr.app N0 Nq1
  have Zn1 : n0 ≤ T1.heap.size := Nat.le_trans Z0 K1.1
  have Kt1 := (Keep.refl h0 [a]).trans K1 (allS (Or.inl (List.mem_of_getElem? (i := 0) rfl)) all0)
  obtain ⟨T2, hp2, X2, e2, W2, st2⟩ := putF X1 hx hZ hown (host := "") (Or.inl (hw _ (List.mem_of_getElem? (i := 24) rfl))) Via.refl (rfl : T1.heap = _) Fc1_priority Ec1 (Or.inr ⟨(hw _ (List.mem_of_getElem? (i := 25) rfl)), rfl, hnm⟩) (hw _ (List.mem_of_getElem? (i := 1) rfl)) (ty := .int) (by decide) rfl rfl (g := (mkF m 7 #[.val (.ref a), .val (.int x), .val (.int y)] [(.int y), (.ref a)])) rfl rfl (hb hby own_d_prog_68_method_1_code_7)
  have F2_a_height := Fc1_height.other W2 (Or.inr (slot_ne (Or.inr (hw _ (List.mem_of_getElem? (i := 23) rfl))) (Or.inr (hw _ (List.mem_of_getElem? (i := 25) rfl))) (by decide) (t := .int) (t' := .int) (by decide) (by decide)))
  have F2_a_priority := Fc1_priority.same W2
  have F2_a_operator := Fc1_operator.other W2 (Or.inr (slot_ne (Or.inr (hw _ (List.mem_of_getElem? (i := 41) rfl))) (Or.inr (hw _ (List.mem_of_getElem? (i := 25) rfl))) (by decide) (t := (.object "com/example/invarient/invarient/model/AtomicPredicate$Operator")) (t' := .int) (by decide) (by decide)))
  have E2_a := Ec1.wr W2
  have K2 := Kt1.wr W2 (Or.inl (List.mem_of_getElem? (i := 0) rfl))
  have N2 := Fr.snoc X2 N1 g_a
  obtain ⟨fs, hr, hrun, hended, hW, hsame⟩ := X2.leave (v := none) (fun _ => rfl)
  refine ⟨_, _, pre0 _ ?_, hrun, hended, _, _, rfl, ?_, ⟨_, rfl⟩, hW, hsame.mono (by decide) (by decide)⟩
  · show Steps p.tables e below (s₁.setTop (mkF m 0 #[.val (.ref a), .val (.int x), .val (.int y)] [])) _
    refine XS.aloadN X0.here hx rfl (hb hby own_d_prog_68_method_1_code_0) rfl rfl ?_
    show Steps p.tables e below (s₁.setTop (mkF m 1 #[.val (.ref a), .val (.int x), .val (.int y)] [(.ref a)])) _
    refine XS.iloadN X0.here hx rfl (hb hby own_d_prog_68_method_1_code_1) rfl ?_
    show Steps p.tables e below (s₁.setTop (mkF m 2 #[.val (.ref a), .val (.int x), .val (.int y)] [(.int x), (.ref a)])) _
    refine st1.trans ?_
    show Steps p.tables e below (T1.setTop (mkF m 5 #[.val (.ref a), .val (.int x), .val (.int y)] [])) _
    refine XS.aloadN X1.here hx rfl (hb hby own_d_prog_68_method_1_code_5) rfl rfl ?_
    show Steps p.tables e below (T1.setTop (mkF m 6 #[.val (.ref a), .val (.int x), .val (.int y)] [(.ref a)])) _
    refine XS.iloadN X1.here hx rfl (hb hby own_d_prog_68_method_1_code_6) rfl ?_
    show Steps p.tables e below (T1.setTop (mkF m 7 #[.val (.ref a), .val (.int x), .val (.int y)] [(.int y), (.ref a)])) _
    refine st2 _ ?_
    show Steps p.tables e below (T2.setTop (mkF m 10 #[.val (.ref a), .val (.int x), .val (.int y)] [])) _
    exact X2.returnOut hx Bd.returns (hb hby own_d_prog_68_method_1_code_10) hr
  · show own_QPp Z a (.int x) (.int y) v2 h0 n0 _ T2.heap _
    rw [e2]
    exact ⟨rfl, N2, K2, E2_a, F2_a_height, F2_a_priority, F2_a_operator⟩
set_option maxRecDepth 65536 in
set_option maxHeartbeats 40000000 in
theorem own_re (l : Launch) (Z : State) (a0 : Array Value) (hw : ∀ d ∈ tables_1, d.before a0 Z = true) (ws : List Jvm.Cond) (a : Addr) (x : Int32) (v0 v1 : Value) (h0 : Heap) (n0 : Nat) (Z0 : n0 ≤ h0.size) (E_a : Exa Z h0 a "com/example/invarient/invarient/model/AtomicExpression") (g_a : n0 ≤ a) (F0 : Fld Z h0 a "com/example/invarient/invarient/model/Formula" "height" "I" v0) (F1 : Fld Z h0 a "com/example/invarient/invarient/model/AtomicExpression" "operator" "Lcom/example/invarient/invarient/model/AtomicExpression$Operator;" v1) :
    MetFree l (⟨"com/example/invarient/invarient/model/Expression", "<init>", "(I)V"⟩ : MethodName) (head1 (Jvm.Cond.code (⟨"com/example/invarient/invarient/model/Expression", "<init>", "(I)V"⟩ : MethodName) prog_58_method_1_code 2 none :: ws) ({ frames := 2, cells := 0, slots := 0, locals := 25 } : Room)) (fun a_ U_ => a_ = #[(.ref a), (.int x)] ∧ Z.Warmed39 U_.vm ∧ U_.heap = h0) (fun _ _ _ _ _ => True) (fun _ U_ o_ U_' => ∃ v_ L_, o_ = .returned v_ ∧ own_QE Z a (.int x) v1 h0 n0 v_ U_'.heap L_ ∧ FrameEnd U_ o_ U_' L_ ({ frames := 2, cells := 0, slots := 0, locals := 25 } : Room).cells ({ frames := 2, cells := 0, slots := 0, locals := 25 } : Room).slots) := by
  refine MetFree.of_bodySF (plainFor_of_name own_pn4) hisR ?_
  intro p e s m args below meth c s₁ Bd hml0 hP hK
  obtain ⟨rfl, hZ, hh⟩ := hP
  have hx := Bd.exec
  have hby := Bd.bytes
  have hml : c.maxLocals = 2 := hml0
  have hown : s.vm.findClass "com/example/invarient/invarient/model/Expression" = some m.cls := findClass_of_methodNamed Bd.named
  have hnm := (name_of_methodNamed Bd.named Bd.method).1
  have X0 : Stand p l e ({ frames := 2, cells := 0, slots := 0, locals := 25 } : Room) s m #[(.ref a), (.int x)] below meth c s₁ [] 0 0 := Stand.of_body Bd
  have e0 : s₁.heap = h0 := by rw [← hh, Bd.state]; rfl
  have N0 := Fr.nil n0
  have pre0 : ∀ t, Steps p.tables e below (s₁.setTop (mkF m 0 #[.val (.ref a), .val (.int x)] [])) t → Steps p.tables e below (s₁.setTop (entryFrame m #[(.ref a), (.int x)] 2)) t := fun t_ k_ => castTop (own_ef5 m a x) k_
  obtain ⟨_, _, ⟨T1, L1, kc1, nc1⟩, -, X1, ⟨Lc1, hQ1, ql1, qy1, qz1⟩, st1⟩ := X0.specialBack hx (y := (⟨"com/example/invarient/invarient/model/Formula", "<init>", "(I)V"⟩ : MethodName)) rfl hown (mvT hZ (hw _ (List.mem_of_getElem? (i := 86) rfl))) (mvT hZ (hw _ (List.mem_of_getElem? (i := 15) rfl))) (mvT hZ (hw _ (List.mem_of_getElem? (i := 18) rfl))) (by decide) (backOf (W := 0) (own_rfE l Z a0 hw [] a x v0 v1 h0 n0 Z0 E_a g_a F0 F1) hZ (hw _ (List.mem_of_getElem? (i := 18) rfl)) (hw _ (List.mem_of_getElem? (i := 17) rfl)) (by decide) (by decide)) (g := (mkF m 2 #[.val (.ref a), .val (.int x)] [(.int x), (.ref a)])) rfl (by rw [hml]; rfl) (Steps.refl _) (a := a) (argsL := [(.int x)]) (rest := []) (lenOf own_pd3 rfl) rfl (by show 2 * 0 + _ ≤ _; exact Nat.le_of_eq rfl) (hb hby own_d_prog_58_method_1_code_2) (fun _ _ => ⟨rfl, e0, (by decide : 0 + 0 ≤ _), (by decide : 0 + 0 ≤ _)⟩)
  dsimp only [Pt.U, Pt.locs, Pt.cells, Pt.slots] at X1 ql1 qy1 qz1 st1 hQ1
  subst ql1 qy1 qz1
  obtain ⟨rfl, Nq1, K1, Ec1, Fc1_height, Fc1_operator⟩ := hQ1
  have N1 := Fr.app N0 Nq1
  have Zn1 : n0 ≤ T1.heap.size := Nat.le_trans Z0 K1.1
  have Kt1 := (Keep.refl h0 [a]).trans K1 (allS (Or.inl (List.mem_of_getElem? (i := 0) rfl)) all0)
  obtain ⟨fs, hr, hrun, hended, hW, hsame⟩ := X1.leave (v := none) (fun _ => rfl)
  refine ⟨_, _, pre0 _ ?_, hrun, hended, _, _, rfl, ?_, ⟨_, rfl⟩, hW, hsame.mono (by decide) (by decide)⟩
  · show Steps p.tables e below (s₁.setTop (mkF m 0 #[.val (.ref a), .val (.int x)] [])) _
    refine XS.aloadN X0.here hx rfl (hb hby own_d_prog_58_method_1_code_0) rfl rfl ?_
    show Steps p.tables e below (s₁.setTop (mkF m 1 #[.val (.ref a), .val (.int x)] [(.ref a)])) _
    refine XS.iloadN X0.here hx rfl (hb hby own_d_prog_58_method_1_code_1) rfl ?_
    show Steps p.tables e below (s₁.setTop (mkF m 2 #[.val (.ref a), .val (.int x)] [(.int x), (.ref a)])) _
    refine st1.trans ?_
    show Steps p.tables e below (T1.setTop (mkF m 5 #[.val (.ref a), .val (.int x)] [])) _
    exact X1.returnOut hx Bd.returns (hb hby own_d_prog_58_method_1_code_5) hr
  · show own_QE Z a (.int x) v1 h0 n0 _ T1.heap _
    exact ⟨rfl, N1, Kt1, Ec1, Fc1_height, Fc1_operator⟩
set_option maxRecDepth 65536 in
set_option maxHeartbeats 40000000 in
theorem own_rn (l : Launch) (Z : State) (a0 : Array Value) (hw : ∀ d ∈ tables_1, d.before a0 Z = true) (ws : List Jvm.Cond) (a b : Addr) (h0 : Heap) (n0 : Nat) (Z0 : n0 ≤ h0.size)  :
    MetFree l (⟨"java/util/Objects", "requireNonNull", "(Ljava/lang/Object;Ljava/lang/String;)Ljava/lang/Object;"⟩ : MethodName) (head1 (Jvm.Cond.code (⟨"java/util/Objects", "requireNonNull", "(Ljava/lang/Object;Ljava/lang/String;)Ljava/lang/Object;"⟩ : MethodName) jdk_31_method_11_code 2 (some (.object "java/lang/Object")) :: ws) ({ frames := 0, cells := 0, slots := 0, locals := 0 } : Room)) (fun a_ U_ => a_ = #[(.ref a), (.ref b)] ∧ Z.Warmed39 U_.vm ∧ U_.heap = h0) (fun _ _ _ _ _ => True) (fun _ U_ o_ U_' => ∃ v_ L_, o_ = .returned v_ ∧ own_QP (some (.ref a)) h0 n0 v_ U_'.heap L_ ∧ FrameEnd U_ o_ U_' L_ ({ frames := 0, cells := 0, slots := 0, locals := 0 } : Room).cells ({ frames := 0, cells := 0, slots := 0, locals := 0 } : Room).slots) := by
  refine MetFree.of_bodySF (plainFor_of_name own_pn5) hisR ?_
  intro p e s m args below meth c s₁ Bd hml0 hP hK
  obtain ⟨rfl, hZ, hh⟩ := hP
  have hx := Bd.exec
  have hby := Bd.bytes
  have hml : c.maxLocals = 2 := hml0
  have hown : s.vm.findClass "java/util/Objects" = some m.cls := findClass_of_methodNamed Bd.named
  have hnm := (name_of_methodNamed Bd.named Bd.method).1
  have X0 : Stand p l e ({ frames := 0, cells := 0, slots := 0, locals := 0 } : Room) s m #[(.ref a), (.ref b)] below meth c s₁ [] 0 0 := Stand.of_body Bd
  have e0 : s₁.heap = h0 := by rw [← hh, Bd.state]; rfl
  have N0 := Fr.nil n0
  have pre0 : ∀ t, Steps p.tables e below (s₁.setTop (mkF m 0 #[.val (.ref a), .val (.ref b)] [])) t → Steps p.tables e below (s₁.setTop (entryFrame m #[(.ref a), (.ref b)] 2)) t := fun t_ k_ => castTop (own_ef6 m a b) k_
  obtain ⟨fs, hr, hrun, hended, hW, hsame⟩ := X0.leave (v := some (.ref a)) (fun h => by rw [Bd.returns] at h; cases h)
  refine ⟨_, _, pre0 _ ?_, hrun, hended, _, _, rfl, ?_, ⟨_, rfl⟩, hW, hsame.mono (by decide) (by decide)⟩
  · show Steps p.tables e below (s₁.setTop (mkF m 0 #[.val (.ref a), .val (.ref b)] [])) _
    refine XS.aloadN X0.here hx rfl (hb hby own_d_jdk_31_method_11_code_0) rfl rfl ?_
    show Steps p.tables e below (s₁.setTop (mkF m 1 #[.val (.ref a), .val (.ref b)] [(.ref a)])) _
    refine XS.ifnonnullYes X0.here hx rfl (pc0 := 1) (pc' := 13) rfl (hb hby own_d_jdk_31_method_11_code_1) rfl (by decide) (by decide) ?_
    show Steps p.tables e below (s₁.setTop (mkF m 13 #[.val (.ref a), .val (.ref b)] [])) _
    refine XS.aloadN X0.here hx rfl (hb hby own_d_jdk_31_method_11_code_13) rfl rfl ?_
    show Steps p.tables e below (s₁.setTop (mkF m 14 #[.val (.ref a), .val (.ref b)] [(.ref a)])) _
    exact retOut X0 hx Bd.returns rfl (Or.inr (Or.inr (Or.inr (Or.inr ⟨rfl, rfl, rfl⟩)))) (hb hby own_d_jdk_31_method_11_code_14) hr
  · show own_QP (some (.ref a)) h0 n0 _ s₁.heap _
    exact ⟨rfl, N0, e0⟩
set_option maxRecDepth 65536 in
set_option maxHeartbeats 40000000 in
theorem own_rcP (l : Launch) (Z : State) (a0 : Array Value) (hw : ∀ d ∈ tables_1, d.before a0 Z = true) (ws : List Jvm.Cond) (a op : Addr) (v0 v1 v2 : Value) (h0 : Heap) (n0 : Nat) (Z0 : n0 ≤ h0.size) (E_a : Exa Z h0 a "com/example/invarient/invarient/model/AtomicPredicate") (g_a : n0 ≤ a) (F0 : Fld Z h0 a "com/example/invarient/invarient/model/Formula" "height" "I" v0) (F1 : Fld Z h0 a "com/example/invarient/invarient/model/Predicate" "priority" "I" v1) (F2 : Fld Z h0 a "com/example/invarient/invarient/model/AtomicPredicate" "operator" "Lcom/example/invarient/invarient/model/AtomicPredicate$Operator;" v2) (E_op : Exa Z h0 op "com/example/invarient/invarient/model/AtomicPredicate$Operator") :
    MetFree l (⟨"com/example/invarient/invarient/model/AtomicPredicate", "<init>", "(Lcom/example/invarient/invarient/model/AtomicPredicate$Operator;)V"⟩ : MethodName) (head1 (Jvm.Cond.code (⟨"com/example/invarient/invarient/model/AtomicPredicate", "<init>", "(Lcom/example/invarient/invarient/model/AtomicPredicate$Operator;)V"⟩ : MethodName) prog_39_method_1_code 2 none :: ws) ({ frames := 3, cells := 2, slots := 36, locals := 39 } : Room)) (fun a_ U_ => a_ = #[(.ref a), (.ref op)] ∧ Z.Warmed39 U_.vm ∧ U_.heap = h0) (fun _ _ _ _ _ => True) (fun _ U_ o_ U_' => ∃ v_ L_, o_ = .returned v_ ∧ own_QPp Z a (.int (1 : Int32)) (.int (4 : Int32)) (.ref op) h0 n0 v_ U_'.heap L_ ∧ ReturnedEndW U_ o_ U_' L_ ({ frames := 3, cells := 2, slots := 36, locals := 39 } : Room).cells ({ frames := 3, cells := 2, slots := 36, locals := 39 } : Room).slots) := by
  refine MetFree.of_bodySF (plainFor_of_name own_pn6) hisR ?_
  intro p e s m args below meth c s₁ Bd hml0 hP hK
  obtain ⟨rfl, hZ, hh⟩ := hP
  have hx := Bd.exec
  have hby := Bd.bytes
  have hml : c.maxLocals = 2 := hml0
  have hown : s.vm.findClass "com/example/invarient/invarient/model/AtomicPredicate" = some m.cls := findClass_of_methodNamed Bd.named
  have hnm := (name_of_methodNamed Bd.named Bd.method).1
  have X0 : Stand p l e ({ frames := 3, cells := 2, slots := 36, locals := 39 } : Room) s m #[(.ref a), (.ref op)] below meth c s₁ [] 0 0 := Stand.of_body Bd
  have e0 : s₁.heap = h0 := by rw [← hh, Bd.state]; rfl
  have N0 := Fr.nil n0
  have pre0 : ∀ t, Steps p.tables e below (s₁.setTop (mkF m 0 #[.val (.ref a), .val (.ref op)] [])) t → Steps p.tables e below (s₁.setTop (entryFrame m #[(.ref a), (.ref op)] 2)) t := fun t_ k_ => castTop (own_ef7 m a op) k_
  have own_wS0 : ∀ d ∈ Bundle.stringAtoms, d.before a0 Z = true := by
    intro d hd
    simp only [Bundle.stringAtoms, List.mem_cons, List.not_mem_nil, or_false] at hd
    rcases hd with rfl | rfl | rfl | rfl | rfl | rfl | rfl
    · exact (hw _ (List.mem_of_getElem? (i := 27) rfl))
    · exact (hw _ (List.mem_of_getElem? (i := 28) rfl))
    · exact (hw _ (List.mem_of_getElem? (i := 29) rfl))
    · exact (hw _ (List.mem_of_getElem? (i := 30) rfl))
    · exact (hw _ (List.mem_of_getElem? (i := 31) rfl))
    · exact (hw _ (List.mem_of_getElem? (i := 32) rfl))
    · exact (hw _ (List.mem_of_getElem? (i := 33) rfl))
  obtain ⟨_, _, ⟨T1, L1, kc1, nc1⟩, -, X1, ⟨Lc1, hQ1, ql1, qy1, qz1⟩, st1⟩ := X0.specialBack hx (y := (⟨"com/example/invarient/invarient/model/Predicate", "<init>", "(II)V"⟩ : MethodName)) rfl hown (mvT hZ (hw _ (List.mem_of_getElem? (i := 9) rfl))) (mvT hZ (hw _ (List.mem_of_getElem? (i := 10) rfl))) (mvT hZ (hw _ (List.mem_of_getElem? (i := 13) rfl))) (by decide) (backOf (W := 0) (own_rp l Z a0 hw [] a (1 : Int32) (4 : Int32) v0 v1 v2 h0 n0 Z0 E_a g_a F0 F1 F2) hZ (hw _ (List.mem_of_getElem? (i := 13) rfl)) (hw _ (List.mem_of_getElem? (i := 12) rfl)) (by decide) (by decide)) (g := (mkF m 3 #[.val (.ref a), .val (.ref op)] [(.int (4 : Int32)), (.int (1 : Int32)), (.ref a)])) rfl (by rw [hml]; rfl) (Steps.refl _) (a := a) (argsL := [(.int (1 : Int32)), (.int (4 : Int32))]) (rest := []) (lenOf own_pd4 rfl) rfl (by show 2 * 0 + _ ≤ _; exact Nat.le_of_eq rfl) (hb hby own_d_prog_39_method_1_code_3) (fun _ _ => ⟨rfl, e0, (by decide : 0 + 0 ≤ _), (by decide : 0 + 0 ≤ _)⟩)
  dsimp only [Pt.U, Pt.locs, Pt.cells, Pt.slots] at X1 ql1 qy1 qz1 st1 hQ1
  subst ql1 qy1 qz1
  obtain ⟨rfl, Nq1, K1, Ec1, Fc1_height, Fc1_priority, Fc1_operator⟩ := hQ1
  have N1 := Fr.app N0 Nq1
  have E1_op := E_op.keep K1
  have Zn1 : n0 ≤ T1.heap.size := Nat.le_trans Z0 K1.1
  have Kt1 := (Keep.refl h0 [a]).trans K1 (allS (Or.inl (List.mem_of_getElem? (i := 0) rfl)) all0)
  obtain ⟨sa2, T2, hp2, kk2, X2, e2, E2, hSi2, hk2, hZ, hown, st2⟩ := ldcS (s := s) (vm0 := s.vm) X1 hx hZ hown (hw _ (List.mem_of_getElem? (i := 26) rfl)) own_wS0 (rfl : T1.heap = _) ((State.WarmedH.refl s).since 0) (Nat.zero_le _) (g := (mkF m 8 #[.val (.ref a), .val (.ref op)] [(.ref op), (.ref a)])) rfl (hb hby own_d_prog_39_method_1_code_8) (n := 32) (by decide) (by decide) (by decide) (by decide)
  have F2_a_height := Fc1_height.ext E2
  have F2_a_priority := Fc1_priority.ext E2
  have F2_a_operator := Fc1_operator.ext E2
  have E2_op := E1_op.ext E2
  have E2_a := Ec1.ext E2
  have Zn2 : n0 ≤ hp2.size := Nat.le_trans Zn1 E2.1
  have K2 := Kt1.ext E2
  obtain ⟨_, _, ⟨T3, L3, kc3, nc3⟩, -, X3, ⟨Lc3, hQ3, ql3, qy3, qz3⟩, st3⟩ := Jvm.LawKit.callS X2 hx (y := (⟨"java/util/Objects", "requireNonNull", "(Ljava/lang/Object;Ljava/lang/String;)Ljava/lang/Object;"⟩ : MethodName)) hown (mvT hZ (hw _ (List.mem_of_getElem? (i := 34) rfl))) (mvT hZ (hw _ (List.mem_of_getElem? (i := 35) rfl))) (mvT hZ (hw _ (List.mem_of_getElem? (i := 36) rfl))) (mvT hZ (hw _ (List.mem_of_getElem? (i := 37) rfl))) (by decide) (backOf (W := 1) (own_rn l Z a0 hw [] op sa2 hp2 n0 Zn2) hZ (hw _ (List.mem_of_getElem? (i := 37) rfl)) (hw _ (List.mem_of_getElem? (i := 36) rfl)) (by decide) (by decide)) (g := (mkF m 10 #[.val (.ref a), .val (.ref op)] [(.ref sa2), (.ref op), (.ref a)])) rfl (by rw [hml]; rfl) (argsL := [(.ref op), (.ref sa2)]) (rest := [(.ref a)]) (lenOf own_pd5 rfl) rfl (by show 2 * 0 + _ ≤ _; exact Nat.le_of_eq rfl) (hb hby own_d_prog_39_method_1_code_10) (fun _ _ => ⟨rfl, e2, (by decide : 2 + 0 ≤ _), (by decide : 36 + 0 ≤ _)⟩)
  dsimp only [Pt.U, Pt.locs, Pt.cells, Pt.slots] at X3 ql3 qy3 qz3 st3 hQ3
  subst ql3 qy3 qz3
  obtain ⟨rfl, Nq3, eq3⟩ := hQ3
  have N3 := Fr.app N1 Nq3
  obtain ⟨T4, X4, e4, st4⟩ := castY X3 hx hZ hown (hw _ (List.mem_of_getElem? (i := 38) rfl)) eq3 (Ins.self E2_op) (g := (mkF m 13 #[.val (.ref a), .val (.ref op)] [(.ref op), (.ref a)])) rfl rfl (hb hby own_d_prog_39_method_1_code_13)
  obtain ⟨T5, hp5, X5, e5, W5, st5⟩ := putF X4 hx hZ hown (host := "") (Or.inl (hw _ (List.mem_of_getElem? (i := 40) rfl))) Via.refl e4 F2_a_operator E2_a (Or.inr ⟨(hw _ (List.mem_of_getElem? (i := 41) rfl)), rfl, hnm⟩) (hw _ (List.mem_of_getElem? (i := 1) rfl)) (ty := (.object "com/example/invarient/invarient/model/AtomicPredicate$Operator")) (by decide) rfl rfl (g := (mkF m 16 #[.val (.ref a), .val (.ref op)] [(.ref op), (.ref a)])) rfl rfl (hb hby own_d_prog_39_method_1_code_16)
  have F5_a_height := F2_a_height.other W5 (Or.inr (slot_ne (Or.inr (hw _ (List.mem_of_getElem? (i := 23) rfl))) (Or.inr (hw _ (List.mem_of_getElem? (i := 41) rfl))) (by decide) (t := .int) (t' := (.object "com/example/invarient/invarient/model/AtomicPredicate$Operator")) (by decide) (by decide)))
  have F5_a_priority := F2_a_priority.other W5 (Or.inr (slot_ne (Or.inr (hw _ (List.mem_of_getElem? (i := 25) rfl))) (Or.inr (hw _ (List.mem_of_getElem? (i := 41) rfl))) (by decide) (t := .int) (t' := (.object "com/example/invarient/invarient/model/AtomicPredicate$Operator")) (by decide) (by decide)))
  have F5_a_operator := F2_a_operator.same W5
  have E5_op := E2_op.wr W5
  have E5_a := E2_a.wr W5
  have K5 := K2.wr W5 (Or.inl (List.mem_of_getElem? (i := 0) rfl))
  have N5 := Fr.snoc X5 N3 g_a
  obtain ⟨fs, hr, hrun, hended, hret⟩ := X5.leaveW hSi2 (by rw [e5]; exact (by rw [W5.size]; exact hk2)) (v := none) (fun _ => rfl)
  have hret := own_wmono hret (by decide : _ ≤ ({ frames := 3, cells := 2, slots := 36, locals := 39 } : Room).cells) (by decide : _ ≤ ({ frames := 3, cells := 2, slots := 36, locals := 39 } : Room).slots)
  refine ⟨_, _, pre0 _ ?_, hrun, hended, _, _, rfl, ?_, hret⟩
  · show Steps p.tables e below (s₁.setTop (mkF m 0 #[.val (.ref a), .val (.ref op)] [])) _
    refine XS.aloadN X0.here hx rfl (hb hby own_d_prog_39_method_1_code_0) rfl rfl ?_
    show Steps p.tables e below (s₁.setTop (mkF m 1 #[.val (.ref a), .val (.ref op)] [(.ref a)])) _
    refine XS.iconst X0.here hx rfl (hb hby own_d_prog_39_method_1_code_1) ?_
    show Steps p.tables e below (s₁.setTop (mkF m 2 #[.val (.ref a), .val (.ref op)] [(.int (1 : Int32)), (.ref a)])) _
    refine XS.iconst X0.here hx rfl (hb hby own_d_prog_39_method_1_code_2) ?_
    show Steps p.tables e below (s₁.setTop (mkF m 3 #[.val (.ref a), .val (.ref op)] [(.int (4 : Int32)), (.int (1 : Int32)), (.ref a)])) _
    refine st1.trans ?_
    show Steps p.tables e below (T1.setTop (mkF m 6 #[.val (.ref a), .val (.ref op)] [])) _
    refine XS.aloadN X1.here hx rfl (hb hby own_d_prog_39_method_1_code_6) rfl rfl ?_
    show Steps p.tables e below (T1.setTop (mkF m 7 #[.val (.ref a), .val (.ref op)] [(.ref a)])) _
    refine XS.aloadN X1.here hx rfl (hb hby own_d_prog_39_method_1_code_7) rfl rfl ?_
    show Steps p.tables e below (T1.setTop (mkF m 8 #[.val (.ref a), .val (.ref op)] [(.ref op), (.ref a)])) _
    refine st2 _ ?_
    show Steps p.tables e below (T2.setTop (mkF m 10 #[.val (.ref a), .val (.ref op)] [(.ref sa2), (.ref op), (.ref a)])) _
    refine st3 _ ?_
    show Steps p.tables e below (T3.setTop (mkF m 13 #[.val (.ref a), .val (.ref op)] [(.ref op), (.ref a)])) _
    refine st4 _ ?_
    show Steps p.tables e below (T4.setTop (mkF m 16 #[.val (.ref a), .val (.ref op)] [(.ref op), (.ref a)])) _
    refine st5 _ ?_
    show Steps p.tables e below (T5.setTop (mkF m 19 #[.val (.ref a), .val (.ref op)] [])) _
    exact X5.returnOut hx Bd.returns (hb hby own_d_prog_39_method_1_code_19) hr
  · show own_QPp Z a (.int (1 : Int32)) (.int (4 : Int32)) (.ref op) h0 n0 _ T5.heap _
    rw [e5]
    exact ⟨rfl, N5, K5, E5_a, F5_a_height, F5_a_priority, F5_a_operator⟩
set_option maxRecDepth 65536 in
set_option maxHeartbeats 40000000 in
theorem own_rcE (l : Launch) (Z : State) (a0 : Array Value) (hw : ∀ d ∈ tables_1, d.before a0 Z = true) (ws : List Jvm.Cond) (a op : Addr) (v0 v1 : Value) (h0 : Heap) (n0 : Nat) (Z0 : n0 ≤ h0.size) (E_a : Exa Z h0 a "com/example/invarient/invarient/model/AtomicExpression") (g_a : n0 ≤ a) (F0 : Fld Z h0 a "com/example/invarient/invarient/model/Formula" "height" "I" v0) (F1 : Fld Z h0 a "com/example/invarient/invarient/model/AtomicExpression" "operator" "Lcom/example/invarient/invarient/model/AtomicExpression$Operator;" v1) (E_op : Exa Z h0 op "com/example/invarient/invarient/model/AtomicExpression$Operator") :
    MetFree l (⟨"com/example/invarient/invarient/model/AtomicExpression", "<init>", "(Lcom/example/invarient/invarient/model/AtomicExpression$Operator;)V"⟩ : MethodName) (head1 (Jvm.Cond.code (⟨"com/example/invarient/invarient/model/AtomicExpression", "<init>", "(Lcom/example/invarient/invarient/model/AtomicExpression$Operator;)V"⟩ : MethodName) prog_37_method_1_code 2 none :: ws) ({ frames := 3, cells := 2, slots := 36, locals := 39 } : Room)) (fun a_ U_ => a_ = #[(.ref a), (.ref op)] ∧ Z.Warmed39 U_.vm ∧ U_.heap = h0) (fun _ _ _ _ _ => True) (fun _ U_ o_ U_' => ∃ v_ L_, o_ = .returned v_ ∧ own_QE Z a (.int (1 : Int32)) (.ref op) h0 n0 v_ U_'.heap L_ ∧ ReturnedEndW U_ o_ U_' L_ ({ frames := 3, cells := 2, slots := 36, locals := 39 } : Room).cells ({ frames := 3, cells := 2, slots := 36, locals := 39 } : Room).slots) := by
  refine MetFree.of_bodySF (plainFor_of_name own_pn7) hisR ?_
  intro p e s m args below meth c s₁ Bd hml0 hP hK
  obtain ⟨rfl, hZ, hh⟩ := hP
  have hx := Bd.exec
  have hby := Bd.bytes
  have hml : c.maxLocals = 2 := hml0
  have hown : s.vm.findClass "com/example/invarient/invarient/model/AtomicExpression" = some m.cls := findClass_of_methodNamed Bd.named
  have hnm := (name_of_methodNamed Bd.named Bd.method).1
  have X0 : Stand p l e ({ frames := 3, cells := 2, slots := 36, locals := 39 } : Room) s m #[(.ref a), (.ref op)] below meth c s₁ [] 0 0 := Stand.of_body Bd
  have e0 : s₁.heap = h0 := by rw [← hh, Bd.state]; rfl
  have N0 := Fr.nil n0
  have pre0 : ∀ t, Steps p.tables e below (s₁.setTop (mkF m 0 #[.val (.ref a), .val (.ref op)] [])) t → Steps p.tables e below (s₁.setTop (entryFrame m #[(.ref a), (.ref op)] 2)) t := fun t_ k_ => castTop (own_ef8 m a op) k_
  have own_wS0 : ∀ d ∈ Bundle.stringAtoms, d.before a0 Z = true := by
    intro d hd
    simp only [Bundle.stringAtoms, List.mem_cons, List.not_mem_nil, or_false] at hd
    rcases hd with rfl | rfl | rfl | rfl | rfl | rfl | rfl
    · exact (hw _ (List.mem_of_getElem? (i := 27) rfl))
    · exact (hw _ (List.mem_of_getElem? (i := 28) rfl))
    · exact (hw _ (List.mem_of_getElem? (i := 29) rfl))
    · exact (hw _ (List.mem_of_getElem? (i := 30) rfl))
    · exact (hw _ (List.mem_of_getElem? (i := 31) rfl))
    · exact (hw _ (List.mem_of_getElem? (i := 32) rfl))
    · exact (hw _ (List.mem_of_getElem? (i := 33) rfl))
  obtain ⟨_, _, ⟨T1, L1, kc1, nc1⟩, -, X1, ⟨Lc1, hQ1, ql1, qy1, qz1⟩, st1⟩ := X0.specialBack hx (y := (⟨"com/example/invarient/invarient/model/Expression", "<init>", "(I)V"⟩ : MethodName)) rfl hown (mvT hZ (hw _ (List.mem_of_getElem? (i := 81) rfl))) (mvT hZ (hw _ (List.mem_of_getElem? (i := 82) rfl))) (mvT hZ (hw _ (List.mem_of_getElem? (i := 85) rfl))) (by decide) (backOf (W := 0) (own_re l Z a0 hw [] a (1 : Int32) v0 v1 h0 n0 Z0 E_a g_a F0 F1) hZ (hw _ (List.mem_of_getElem? (i := 85) rfl)) (hw _ (List.mem_of_getElem? (i := 84) rfl)) (by decide) (by decide)) (g := (mkF m 2 #[.val (.ref a), .val (.ref op)] [(.int (1 : Int32)), (.ref a)])) rfl (by rw [hml]; rfl) (Steps.refl _) (a := a) (argsL := [(.int (1 : Int32))]) (rest := []) (lenOf own_pd3 rfl) rfl (by show 2 * 0 + _ ≤ _; exact Nat.le_of_eq rfl) (hb hby own_d_prog_37_method_1_code_2) (fun _ _ => ⟨rfl, e0, (by decide : 0 + 0 ≤ _), (by decide : 0 + 0 ≤ _)⟩)
  dsimp only [Pt.U, Pt.locs, Pt.cells, Pt.slots] at X1 ql1 qy1 qz1 st1 hQ1
  subst ql1 qy1 qz1
  obtain ⟨rfl, Nq1, K1, Ec1, Fc1_height, Fc1_operator⟩ := hQ1
  have N1 := Fr.app N0 Nq1
  have E1_op := E_op.keep K1
  have Zn1 : n0 ≤ T1.heap.size := Nat.le_trans Z0 K1.1
  have Kt1 := (Keep.refl h0 [a]).trans K1 (allS (Or.inl (List.mem_of_getElem? (i := 0) rfl)) all0)
  obtain ⟨sa2, T2, hp2, kk2, X2, e2, E2, hSi2, hk2, hZ, hown, st2⟩ := ldcS (s := s) (vm0 := s.vm) X1 hx hZ hown (hw _ (List.mem_of_getElem? (i := 88) rfl)) own_wS0 (rfl : T1.heap = _) ((State.WarmedH.refl s).since 0) (Nat.zero_le _) (g := (mkF m 7 #[.val (.ref a), .val (.ref op)] [(.ref op), (.ref a)])) rfl (hb hby own_d_prog_37_method_1_code_7) (n := 32) (by decide) (by decide) (by decide) (by decide)
  have F2_a_height := Fc1_height.ext E2
  have F2_a_operator := Fc1_operator.ext E2
  have E2_op := E1_op.ext E2
  have E2_a := Ec1.ext E2
  have Zn2 : n0 ≤ hp2.size := Nat.le_trans Zn1 E2.1
  have K2 := Kt1.ext E2
  obtain ⟨_, _, ⟨T3, L3, kc3, nc3⟩, -, X3, ⟨Lc3, hQ3, ql3, qy3, qz3⟩, st3⟩ := Jvm.LawKit.callS X2 hx (y := (⟨"java/util/Objects", "requireNonNull", "(Ljava/lang/Object;Ljava/lang/String;)Ljava/lang/Object;"⟩ : MethodName)) hown (mvT hZ (hw _ (List.mem_of_getElem? (i := 89) rfl))) (mvT hZ (hw _ (List.mem_of_getElem? (i := 35) rfl))) (mvT hZ (hw _ (List.mem_of_getElem? (i := 36) rfl))) (mvT hZ (hw _ (List.mem_of_getElem? (i := 37) rfl))) (by decide) (backOf (W := 1) (own_rn l Z a0 hw [] op sa2 hp2 n0 Zn2) hZ (hw _ (List.mem_of_getElem? (i := 37) rfl)) (hw _ (List.mem_of_getElem? (i := 36) rfl)) (by decide) (by decide)) (g := (mkF m 9 #[.val (.ref a), .val (.ref op)] [(.ref sa2), (.ref op), (.ref a)])) rfl (by rw [hml]; rfl) (argsL := [(.ref op), (.ref sa2)]) (rest := [(.ref a)]) (lenOf own_pd5 rfl) rfl (by show 2 * 0 + _ ≤ _; exact Nat.le_of_eq rfl) (hb hby own_d_prog_37_method_1_code_9) (fun _ _ => ⟨rfl, e2, (by decide : 2 + 0 ≤ _), (by decide : 36 + 0 ≤ _)⟩)
  dsimp only [Pt.U, Pt.locs, Pt.cells, Pt.slots] at X3 ql3 qy3 qz3 st3 hQ3
  subst ql3 qy3 qz3
  obtain ⟨rfl, Nq3, eq3⟩ := hQ3
  have N3 := Fr.app N1 Nq3
  obtain ⟨T4, X4, e4, st4⟩ := castY X3 hx hZ hown (hw _ (List.mem_of_getElem? (i := 90) rfl)) eq3 (Ins.self E2_op) (g := (mkF m 12 #[.val (.ref a), .val (.ref op)] [(.ref op), (.ref a)])) rfl rfl (hb hby own_d_prog_37_method_1_code_12)
  obtain ⟨T5, hp5, X5, e5, W5, st5⟩ := putF X4 hx hZ hown (host := "") (Or.inl (hw _ (List.mem_of_getElem? (i := 92) rfl))) Via.refl e4 F2_a_operator E2_a (Or.inr ⟨(hw _ (List.mem_of_getElem? (i := 93) rfl)), rfl, hnm⟩) (hw _ (List.mem_of_getElem? (i := 73) rfl)) (ty := (.object "com/example/invarient/invarient/model/AtomicExpression$Operator")) (by decide) rfl rfl (g := (mkF m 15 #[.val (.ref a), .val (.ref op)] [(.ref op), (.ref a)])) rfl rfl (hb hby own_d_prog_37_method_1_code_15)
  have F5_a_height := F2_a_height.other W5 (Or.inr (slot_ne (Or.inr (hw _ (List.mem_of_getElem? (i := 87) rfl))) (Or.inr (hw _ (List.mem_of_getElem? (i := 93) rfl))) (by decide) (t := .int) (t' := (.object "com/example/invarient/invarient/model/AtomicExpression$Operator")) (by decide) (by decide)))
  have F5_a_operator := F2_a_operator.same W5
  have E5_op := E2_op.wr W5
  have E5_a := E2_a.wr W5
  have K5 := K2.wr W5 (Or.inl (List.mem_of_getElem? (i := 0) rfl))
  have N5 := Fr.snoc X5 N3 g_a
  obtain ⟨fs, hr, hrun, hended, hret⟩ := X5.leaveW hSi2 (by rw [e5]; exact (by rw [W5.size]; exact hk2)) (v := none) (fun _ => rfl)
  have hret := own_wmono hret (by decide : _ ≤ ({ frames := 3, cells := 2, slots := 36, locals := 39 } : Room).cells) (by decide : _ ≤ ({ frames := 3, cells := 2, slots := 36, locals := 39 } : Room).slots)
  refine ⟨_, _, pre0 _ ?_, hrun, hended, _, _, rfl, ?_, hret⟩
  · show Steps p.tables e below (s₁.setTop (mkF m 0 #[.val (.ref a), .val (.ref op)] [])) _
    refine XS.aloadN X0.here hx rfl (hb hby own_d_prog_37_method_1_code_0) rfl rfl ?_
    show Steps p.tables e below (s₁.setTop (mkF m 1 #[.val (.ref a), .val (.ref op)] [(.ref a)])) _
    refine XS.iconst X0.here hx rfl (hb hby own_d_prog_37_method_1_code_1) ?_
    show Steps p.tables e below (s₁.setTop (mkF m 2 #[.val (.ref a), .val (.ref op)] [(.int (1 : Int32)), (.ref a)])) _
    refine st1.trans ?_
    show Steps p.tables e below (T1.setTop (mkF m 5 #[.val (.ref a), .val (.ref op)] [])) _
    refine XS.aloadN X1.here hx rfl (hb hby own_d_prog_37_method_1_code_5) rfl rfl ?_
    show Steps p.tables e below (T1.setTop (mkF m 6 #[.val (.ref a), .val (.ref op)] [(.ref a)])) _
    refine XS.aloadN X1.here hx rfl (hb hby own_d_prog_37_method_1_code_6) rfl rfl ?_
    show Steps p.tables e below (T1.setTop (mkF m 7 #[.val (.ref a), .val (.ref op)] [(.ref op), (.ref a)])) _
    refine st2 _ ?_
    show Steps p.tables e below (T2.setTop (mkF m 9 #[.val (.ref a), .val (.ref op)] [(.ref sa2), (.ref op), (.ref a)])) _
    refine st3 _ ?_
    show Steps p.tables e below (T3.setTop (mkF m 12 #[.val (.ref a), .val (.ref op)] [(.ref op), (.ref a)])) _
    refine st4 _ ?_
    show Steps p.tables e below (T4.setTop (mkF m 15 #[.val (.ref a), .val (.ref op)] [(.ref op), (.ref a)])) _
    refine st5 _ ?_
    show Steps p.tables e below (T5.setTop (mkF m 18 #[.val (.ref a), .val (.ref op)] [])) _
    exact X5.returnOut hx Bd.returns (hb hby own_d_prog_37_method_1_code_18) hr
  · show own_QE Z a (.int (1 : Int32)) (.ref op) h0 n0 _ T5.heap _
    rw [e5]
    exact ⟨rfl, N5, K5, E5_a, F5_a_height, F5_a_operator⟩
set_option maxRecDepth 65536 in
set_option maxHeartbeats 40000000 in
theorem own_rme (l : Launch) (Z : State) (a0 : Array Value) (hw : ∀ d ∈ tables_1, d.before a0 Z = true) (ws : List Jvm.Cond) (a b p1 q1 : Addr) (h0 : Heap) (n0 : Nat) (Z0 : n0 ≤ h0.size) (E_b : Exa Z h0 b "com/example/invarient/invarient/model/AtomicPredicate") (F1 : Fld Z h0 a "com/example/invarient/invarient/model/AtomicPredicate" "operator" "Lcom/example/invarient/invarient/model/AtomicPredicate$Operator;" (.ref p1)) (F2 : Fld Z h0 b "com/example/invarient/invarient/model/AtomicPredicate" "operator" "Lcom/example/invarient/invarient/model/AtomicPredicate$Operator;" (.ref q1)) :
    MetFree l (⟨"com/example/invarient/invarient/model/AtomicPredicate", "equals", "(Ljava/lang/Object;)Z"⟩ : MethodName) (head1 (Jvm.Cond.code (⟨"com/example/invarient/invarient/model/AtomicPredicate", "equals", "(Ljava/lang/Object;)Z"⟩ : MethodName) prog_39_method_6_code 3 (some .boolean) :: ws) ({ frames := 0, cells := 0, slots := 0, locals := 0 } : Room)) (fun a_ U_ => a_ = #[(.ref a), (.ref b)] ∧ Z.Warmed39 U_.vm ∧ U_.heap = h0) (fun _ _ _ _ _ => True) (fun _ U_ o_ U_' => ∃ v_ L_, o_ = .returned v_ ∧ own_QP (some (.int (if q1 = p1 then 1 else 0))) h0 n0 v_ U_'.heap L_ ∧ FrameEnd U_ o_ U_' L_ ({ frames := 0, cells := 0, slots := 0, locals := 0 } : Room).cells ({ frames := 0, cells := 0, slots := 0, locals := 0 } : Room).slots) := by
  refine MetFree.of_bodySF (plainFor_of_name own_pn6) hisR ?_
  intro p e s m args below meth c s₁ Bd hml0 hP hK
  obtain ⟨rfl, hZ, hh⟩ := hP
  have hx := Bd.exec
  have hby := Bd.bytes
  have hml : c.maxLocals = 3 := hml0
  have hown : s.vm.findClass "com/example/invarient/invarient/model/AtomicPredicate" = some m.cls := findClass_of_methodNamed Bd.named
  have hnm := (name_of_methodNamed Bd.named Bd.method).1
  have X0 : Stand p l e ({ frames := 0, cells := 0, slots := 0, locals := 0 } : Room) s m #[(.ref a), (.ref b)] below meth c s₁ [] 0 0 := Stand.of_body Bd
  have e0 : s₁.heap = h0 := by rw [← hh, Bd.state]; rfl
  have N0 := Fr.nil n0
  have pre0 : ∀ t, Steps p.tables e below (s₁.setTop (mkF m 0 #[.val (.ref a), .val (.ref b), .unset] [])) t → Steps p.tables e below (s₁.setTop (entryFrame m #[(.ref a), (.ref b)] 3)) t := fun t_ k_ => castTop (own_ef9 m a b) k_
  by_cases h : q1 = p1
  · obtain ⟨T1, X1, e1, st1⟩ := instY X0 hx hZ hown (hw _ (List.mem_of_getElem? (i := 47) rfl)) e0 (Ins.self E_b) (g := (mkF m 1 #[.val (.ref a), .val (.ref b), .unset] [(.ref b)])) rfl rfl (hb hby own_d_prog_39_method_6_code_1)
    obtain ⟨T2, X2, e2, st2⟩ := castY X1 hx hZ hown (hw _ (List.mem_of_getElem? (i := 47) rfl)) e1 (Ins.self E_b) (g := (mkF m 8 #[.val (.ref a), .val (.ref b), .unset] [(.ref b)])) rfl rfl (hb hby own_d_prog_39_method_6_code_8)
    obtain ⟨T3, X3, e3, st3⟩ := getF X2 hx hZ hown (host := "") (Or.inl (hw _ (List.mem_of_getElem? (i := 40) rfl))) Via.refl e2 F2 (g := (mkF m 13 #[.val (.ref a), .val (.ref b), .val (.ref b)] [(.ref b)])) rfl rfl (hb hby own_d_prog_39_method_6_code_13)
    obtain ⟨T4, X4, e4, st4⟩ := getF X3 hx hZ hown (host := "") (Or.inl (hw _ (List.mem_of_getElem? (i := 40) rfl))) Via.refl e3 F1 (g := (mkF m 17 #[.val (.ref a), .val (.ref b), .val (.ref b)] [(.ref a), (.ref q1)])) rfl rfl (hb hby own_d_prog_39_method_6_code_17)
    obtain ⟨fs, hr, hrun, hended, hW, hsame⟩ := X4.leave (v := some (.int (1 : Int32))) (fun h => by rw [Bd.returns] at h; cases h)
    refine ⟨_, _, pre0 _ ?_, hrun, hended, _, _, rfl, ?_, ⟨_, rfl⟩, hW, hsame.mono (by decide) (by decide)⟩
    · show Steps p.tables e below (s₁.setTop (mkF m 0 #[.val (.ref a), .val (.ref b), .unset] [])) _
      refine XS.aloadN X0.here hx rfl (hb hby own_d_prog_39_method_6_code_0) rfl rfl ?_
      show Steps p.tables e below (s₁.setTop (mkF m 1 #[.val (.ref a), .val (.ref b), .unset] [(.ref b)])) _
      refine st1 _ ?_
      show Steps p.tables e below (T1.setTop (mkF m 4 #[.val (.ref a), .val (.ref b), .unset] [(.int (1 : Int32))])) _
      refine XS.ifNo X1.here hx rfl (hb hby own_d_prog_39_method_6_code_4) rfl ((if0 _ _).trans (feq (by decide : ¬ ((1 : Int32) = (0 : Int32)))).1) ?_
      show Steps p.tables e below (T1.setTop (mkF m 7 #[.val (.ref a), .val (.ref b), .unset] [])) _
      refine XS.aloadN X1.here hx rfl (hb hby own_d_prog_39_method_6_code_7) rfl rfl ?_
      show Steps p.tables e below (T1.setTop (mkF m 8 #[.val (.ref a), .val (.ref b), .unset] [(.ref b)])) _
      refine st2 _ ?_
      show Steps p.tables e below (T2.setTop (mkF m 11 #[.val (.ref a), .val (.ref b), .unset] [(.ref b)])) _
      refine XS.astoreN X2.here hx rfl (hb hby own_d_prog_39_method_6_code_11) rfl rfl (l' := #[.val (.ref a), .val (.ref b), .val (.ref b)]) rfl ?_
      show Steps p.tables e below (T2.setTop (mkF m 12 #[.val (.ref a), .val (.ref b), .val (.ref b)] [])) _
      refine XS.aloadN X2.here hx rfl (hb hby own_d_prog_39_method_6_code_12) rfl rfl ?_
      show Steps p.tables e below (T2.setTop (mkF m 13 #[.val (.ref a), .val (.ref b), .val (.ref b)] [(.ref b)])) _
      refine st3 _ ?_
      show Steps p.tables e below (T3.setTop (mkF m 16 #[.val (.ref a), .val (.ref b), .val (.ref b)] [(.ref q1)])) _
      refine XS.aloadN X3.here hx rfl (hb hby own_d_prog_39_method_6_code_16) rfl rfl ?_
      show Steps p.tables e below (T3.setTop (mkF m 17 #[.val (.ref a), .val (.ref b), .val (.ref b)] [(.ref a), (.ref q1)])) _
      refine st4 _ ?_
      show Steps p.tables e below (T4.setTop (mkF m 20 #[.val (.ref a), .val (.ref b), .val (.ref b)] [(.ref p1), (.ref q1)])) _
      refine Jvm.RoadKit.acmp (g := (mkF m 20 #[.val (.ref a), .val (.ref b), .val (.ref b)] [(.ref p1), (.ref q1)])) X4 hx rfl (x := (.ref q1)) (y := (.ref p1)) rfl rfl (pc0 := 20) (pc' := 23) (same := true) rfl (hb hby own_d_prog_39_method_6_code_20) rfl (own_sm h) (by decide) (by decide) ?_
      show Steps p.tables e below (T4.setTop (mkF m 23 #[.val (.ref a), .val (.ref b), .val (.ref b)] [])) _
      refine XS.iconst X4.here hx rfl (hb hby own_d_prog_39_method_6_code_23) ?_
      show Steps p.tables e below (T4.setTop (mkF m 24 #[.val (.ref a), .val (.ref b), .val (.ref b)] [(.int (1 : Int32))])) _
      refine XS.goto X4.here hx rfl (pc0 := 24) (pc' := 28) rfl (hb hby own_d_prog_39_method_6_code_24) (by decide) (by decide) ?_
      show Steps p.tables e below (T4.setTop (mkF m 28 #[.val (.ref a), .val (.ref b), .val (.ref b)] [(.int (1 : Int32))])) _
      exact retN X4 hx (t := .boolean) Bd.returns (by simp) (hb hby own_d_prog_39_method_6_code_28) hr
    · show own_QP (some (.int (if q1 = p1 then 1 else 0))) h0 n0 _ T4.heap _
      exact ⟨by rw [if_pos h], N0, e4⟩
  · obtain ⟨T5, X5, e5, st5⟩ := instY X0 hx hZ hown (hw _ (List.mem_of_getElem? (i := 47) rfl)) e0 (Ins.self E_b) (g := (mkF m 1 #[.val (.ref a), .val (.ref b), .unset] [(.ref b)])) rfl rfl (hb hby own_d_prog_39_method_6_code_1)
    obtain ⟨T6, X6, e6, st6⟩ := castY X5 hx hZ hown (hw _ (List.mem_of_getElem? (i := 47) rfl)) e5 (Ins.self E_b) (g := (mkF m 8 #[.val (.ref a), .val (.ref b), .unset] [(.ref b)])) rfl rfl (hb hby own_d_prog_39_method_6_code_8)
    obtain ⟨T7, X7, e7, st7⟩ := getF X6 hx hZ hown (host := "") (Or.inl (hw _ (List.mem_of_getElem? (i := 40) rfl))) Via.refl e6 F2 (g := (mkF m 13 #[.val (.ref a), .val (.ref b), .val (.ref b)] [(.ref b)])) rfl rfl (hb hby own_d_prog_39_method_6_code_13)
    obtain ⟨T8, X8, e8, st8⟩ := getF X7 hx hZ hown (host := "") (Or.inl (hw _ (List.mem_of_getElem? (i := 40) rfl))) Via.refl e7 F1 (g := (mkF m 17 #[.val (.ref a), .val (.ref b), .val (.ref b)] [(.ref a), (.ref q1)])) rfl rfl (hb hby own_d_prog_39_method_6_code_17)
    obtain ⟨fs, hr, hrun, hended, hW, hsame⟩ := X8.leave (v := some (.int (0 : Int32))) (fun h => by rw [Bd.returns] at h; cases h)
    refine ⟨_, _, pre0 _ ?_, hrun, hended, _, _, rfl, ?_, ⟨_, rfl⟩, hW, hsame.mono (by decide) (by decide)⟩
    · show Steps p.tables e below (s₁.setTop (mkF m 0 #[.val (.ref a), .val (.ref b), .unset] [])) _
      refine XS.aloadN X0.here hx rfl (hb hby own_d_prog_39_method_6_code_0) rfl rfl ?_
      show Steps p.tables e below (s₁.setTop (mkF m 1 #[.val (.ref a), .val (.ref b), .unset] [(.ref b)])) _
      refine st5 _ ?_
      show Steps p.tables e below (T5.setTop (mkF m 4 #[.val (.ref a), .val (.ref b), .unset] [(.int (1 : Int32))])) _
      refine XS.ifNo X5.here hx rfl (hb hby own_d_prog_39_method_6_code_4) rfl ((if0 _ _).trans (feq (by decide : ¬ ((1 : Int32) = (0 : Int32)))).1) ?_
      show Steps p.tables e below (T5.setTop (mkF m 7 #[.val (.ref a), .val (.ref b), .unset] [])) _
      refine XS.aloadN X5.here hx rfl (hb hby own_d_prog_39_method_6_code_7) rfl rfl ?_
      show Steps p.tables e below (T5.setTop (mkF m 8 #[.val (.ref a), .val (.ref b), .unset] [(.ref b)])) _
      refine st6 _ ?_
      show Steps p.tables e below (T6.setTop (mkF m 11 #[.val (.ref a), .val (.ref b), .unset] [(.ref b)])) _
      refine XS.astoreN X6.here hx rfl (hb hby own_d_prog_39_method_6_code_11) rfl rfl (l' := #[.val (.ref a), .val (.ref b), .val (.ref b)]) rfl ?_
      show Steps p.tables e below (T6.setTop (mkF m 12 #[.val (.ref a), .val (.ref b), .val (.ref b)] [])) _
      refine XS.aloadN X6.here hx rfl (hb hby own_d_prog_39_method_6_code_12) rfl rfl ?_
      show Steps p.tables e below (T6.setTop (mkF m 13 #[.val (.ref a), .val (.ref b), .val (.ref b)] [(.ref b)])) _
      refine st7 _ ?_
      show Steps p.tables e below (T7.setTop (mkF m 16 #[.val (.ref a), .val (.ref b), .val (.ref b)] [(.ref q1)])) _
      refine XS.aloadN X7.here hx rfl (hb hby own_d_prog_39_method_6_code_16) rfl rfl ?_
      show Steps p.tables e below (T7.setTop (mkF m 17 #[.val (.ref a), .val (.ref b), .val (.ref b)] [(.ref a), (.ref q1)])) _
      refine st8 _ ?_
      show Steps p.tables e below (T8.setTop (mkF m 20 #[.val (.ref a), .val (.ref b), .val (.ref b)] [(.ref p1), (.ref q1)])) _
      refine Jvm.RoadKit.acmp (g := (mkF m 20 #[.val (.ref a), .val (.ref b), .val (.ref b)] [(.ref p1), (.ref q1)])) X8 hx rfl (x := (.ref q1)) (y := (.ref p1)) rfl rfl (pc0 := 20) (pc' := 27) (same := false) rfl (hb hby own_d_prog_39_method_6_code_20) rfl (own_df h) (by decide) (by decide) ?_
      show Steps p.tables e below (T8.setTop (mkF m 27 #[.val (.ref a), .val (.ref b), .val (.ref b)] [])) _
      refine XS.iconst X8.here hx rfl (hb hby own_d_prog_39_method_6_code_27) ?_
      show Steps p.tables e below (T8.setTop (mkF m 28 #[.val (.ref a), .val (.ref b), .val (.ref b)] [(.int (0 : Int32))])) _
      exact retN X8 hx (t := .boolean) Bd.returns (by simp) (hb hby own_d_prog_39_method_6_code_28) hr
    · show own_QP (some (.int (if q1 = p1 then 1 else 0))) h0 n0 _ T8.heap _
      exact ⟨by rw [if_neg h], N0, e8⟩
set_option maxRecDepth 65536 in
set_option maxHeartbeats 40000000 in
theorem own_rmn (l : Launch) (Z : State) (a0 : Array Value) (hw : ∀ d ∈ tables_1, d.before a0 Z = true) (ws : List Jvm.Cond) (a : Addr) (h0 : Heap) (n0 : Nat) (Z0 : n0 ≤ h0.size)  :
    MetFree l (⟨"com/example/invarient/invarient/model/AtomicPredicate", "equals", "(Ljava/lang/Object;)Z"⟩ : MethodName) (head1 (Jvm.Cond.code (⟨"com/example/invarient/invarient/model/AtomicPredicate", "equals", "(Ljava/lang/Object;)Z"⟩ : MethodName) prog_39_method_6_code 3 (some .boolean) :: ws) ({ frames := 0, cells := 0, slots := 0, locals := 0 } : Room)) (fun a_ U_ => a_ = #[(.ref a), .null] ∧ Z.Warmed39 U_.vm ∧ U_.heap = h0) (fun _ _ _ _ _ => True) (fun _ U_ o_ U_' => ∃ v_ L_, o_ = .returned v_ ∧ own_QP (some (.int 0)) h0 n0 v_ U_'.heap L_ ∧ FrameEnd U_ o_ U_' L_ ({ frames := 0, cells := 0, slots := 0, locals := 0 } : Room).cells ({ frames := 0, cells := 0, slots := 0, locals := 0 } : Room).slots) := by
  refine MetFree.of_bodySF (plainFor_of_name own_pn6) hisR ?_
  intro p e s m args below meth c s₁ Bd hml0 hP hK
  obtain ⟨rfl, hZ, hh⟩ := hP
  have hx := Bd.exec
  have hby := Bd.bytes
  have hml : c.maxLocals = 3 := hml0
  have hown : s.vm.findClass "com/example/invarient/invarient/model/AtomicPredicate" = some m.cls := findClass_of_methodNamed Bd.named
  have hnm := (name_of_methodNamed Bd.named Bd.method).1
  have X0 : Stand p l e ({ frames := 0, cells := 0, slots := 0, locals := 0 } : Room) s m #[(.ref a), .null] below meth c s₁ [] 0 0 := Stand.of_body Bd
  have e0 : s₁.heap = h0 := by rw [← hh, Bd.state]; rfl
  have N0 := Fr.nil n0
  have pre0 : ∀ t, Steps p.tables e below (s₁.setTop (mkF m 0 #[.val (.ref a), .val .null, .unset] [])) t → Steps p.tables e below (s₁.setTop (entryFrame m #[(.ref a), .null] 3)) t := fun t_ k_ => castTop (own_ef10 m a) k_
  obtain ⟨fs, hr, hrun, hended, hW, hsame⟩ := X0.leave (v := some (.int (0 : Int32))) (fun h => by rw [Bd.returns] at h; cases h)
  refine ⟨_, _, pre0 _ ?_, hrun, hended, _, _, rfl, ?_, ⟨_, rfl⟩, hW, hsame.mono (by decide) (by decide)⟩
  · show Steps p.tables e below (s₁.setTop (mkF m 0 #[.val (.ref a), .val .null, .unset] [])) _
    refine XS.aloadN X0.here hx rfl (hb hby own_d_prog_39_method_6_code_0) rfl rfl ?_
    show Steps p.tables e below (s₁.setTop (mkF m 1 #[.val (.ref a), .val .null, .unset] [.null])) _
    refine X0.instanceofNull hx (g := (mkF m 1 #[.val (.ref a), .val .null, .unset] [.null])) rfl rfl (hb hby own_d_prog_39_method_6_code_1) _ ?_
    show Steps p.tables e below (s₁.setTop (mkF m 4 #[.val (.ref a), .val .null, .unset] [(.int (0 : Int32))])) _
    refine XS.ifYes X0.here hx rfl (pc0 := 4) (pc' := 27) rfl (hb hby own_d_prog_39_method_6_code_4) rfl ((if0 _ _).trans (teq (rfl : (0 : Int32) = (0 : Int32))).1) (by decide) (by decide) ?_
    show Steps p.tables e below (s₁.setTop (mkF m 27 #[.val (.ref a), .val .null, .unset] [])) _
    refine XS.iconst X0.here hx rfl (hb hby own_d_prog_39_method_6_code_27) ?_
    show Steps p.tables e below (s₁.setTop (mkF m 28 #[.val (.ref a), .val .null, .unset] [(.int (0 : Int32))])) _
    exact retN X0 hx (t := .boolean) Bd.returns (by simp) (hb hby own_d_prog_39_method_6_code_28) hr
  · show own_QP (some (.int 0)) h0 n0 _ s₁.heap _
    exact ⟨rfl, N0, e0⟩
set_option maxRecDepth 65536 in
set_option maxHeartbeats 40000000 in
theorem own_rmx (l : Launch) (Z : State) (a0 : Array Value) (hw : ∀ d ∈ tables_1, d.before a0 Z = true) (ws : List Jvm.Cond) (a b : Addr) (h0 : Heap) (n0 : Nat) (Z0 : n0 ≤ h0.size) (E_b : Exa Z h0 b "com/example/invarient/invarient/model/AtomicExpression") :
    MetFree l (⟨"com/example/invarient/invarient/model/AtomicPredicate", "equals", "(Ljava/lang/Object;)Z"⟩ : MethodName) (head1 (Jvm.Cond.code (⟨"com/example/invarient/invarient/model/AtomicPredicate", "equals", "(Ljava/lang/Object;)Z"⟩ : MethodName) prog_39_method_6_code 3 (some .boolean) :: ws) ({ frames := 0, cells := 0, slots := 0, locals := 0 } : Room)) (fun a_ U_ => a_ = #[(.ref a), (.ref b)] ∧ Z.Warmed39 U_.vm ∧ U_.heap = h0) (fun _ _ _ _ _ => True) (fun _ U_ o_ U_' => ∃ v_ L_, o_ = .returned v_ ∧ own_QP (some (.int 0)) h0 n0 v_ U_'.heap L_ ∧ FrameEnd U_ o_ U_' L_ ({ frames := 0, cells := 0, slots := 0, locals := 0 } : Room).cells ({ frames := 0, cells := 0, slots := 0, locals := 0 } : Room).slots) := by
  refine MetFree.of_bodySF (plainFor_of_name own_pn6) hisR ?_
  intro p e s m args below meth c s₁ Bd hml0 hP hK
  obtain ⟨rfl, hZ, hh⟩ := hP
  have hx := Bd.exec
  have hby := Bd.bytes
  have hml : c.maxLocals = 3 := hml0
  have hown : s.vm.findClass "com/example/invarient/invarient/model/AtomicPredicate" = some m.cls := findClass_of_methodNamed Bd.named
  have hnm := (name_of_methodNamed Bd.named Bd.method).1
  have X0 : Stand p l e ({ frames := 0, cells := 0, slots := 0, locals := 0 } : Room) s m #[(.ref a), (.ref b)] below meth c s₁ [] 0 0 := Stand.of_body Bd
  have e0 : s₁.heap = h0 := by rw [← hh, Bd.state]; rfl
  have N0 := Fr.nil n0
  have pre0 : ∀ t, Steps p.tables e below (s₁.setTop (mkF m 0 #[.val (.ref a), .val (.ref b), .unset] [])) t → Steps p.tables e below (s₁.setTop (entryFrame m #[(.ref a), (.ref b)] 3)) t := fun t_ k_ => castTop (own_ef11 m a b) k_
  obtain ⟨T1, X1, e1, st1⟩ := instNo X0 hx hZ hown (hw _ (List.mem_of_getElem? (i := 47) rfl)) e0 E_b (own_nsno (hw _ (List.mem_of_getElem? (i := 94) rfl)) (hw _ (List.mem_of_getElem? (i := 1) rfl)) (NS.step (hw _ (List.mem_of_getElem? (i := 94) rfl)) (NS.step (hw _ (List.mem_of_getElem? (i := 95) rfl)) (NS.step (hw _ (List.mem_of_getElem? (i := 96) rfl)) (own_ns0 (hw _ (List.mem_of_getElem? (i := 71) rfl)) (hw _ (List.mem_of_getElem? (i := 1) rfl)) (by decide)) (by decide)) (by decide)) (by decide)) (by decide)) (g := (mkF m 1 #[.val (.ref a), .val (.ref b), .unset] [(.ref b)])) rfl rfl (hb hby own_d_prog_39_method_6_code_1)
  obtain ⟨fs, hr, hrun, hended, hW, hsame⟩ := X1.leave (v := some (.int (0 : Int32))) (fun h => by rw [Bd.returns] at h; cases h)
  refine ⟨_, _, pre0 _ ?_, hrun, hended, _, _, rfl, ?_, ⟨_, rfl⟩, hW, hsame.mono (by decide) (by decide)⟩
  · show Steps p.tables e below (s₁.setTop (mkF m 0 #[.val (.ref a), .val (.ref b), .unset] [])) _
    refine XS.aloadN X0.here hx rfl (hb hby own_d_prog_39_method_6_code_0) rfl rfl ?_
    show Steps p.tables e below (s₁.setTop (mkF m 1 #[.val (.ref a), .val (.ref b), .unset] [(.ref b)])) _
    refine st1 _ ?_
    show Steps p.tables e below (T1.setTop (mkF m 4 #[.val (.ref a), .val (.ref b), .unset] [(.int (0 : Int32))])) _
    refine XS.ifYes X1.here hx rfl (pc0 := 4) (pc' := 27) rfl (hb hby own_d_prog_39_method_6_code_4) rfl ((if0 _ _).trans (teq (rfl : (0 : Int32) = (0 : Int32))).1) (by decide) (by decide) ?_
    show Steps p.tables e below (T1.setTop (mkF m 27 #[.val (.ref a), .val (.ref b), .unset] [])) _
    refine XS.iconst X1.here hx rfl (hb hby own_d_prog_39_method_6_code_27) ?_
    show Steps p.tables e below (T1.setTop (mkF m 28 #[.val (.ref a), .val (.ref b), .unset] [(.int (0 : Int32))])) _
    exact retN X1 hx (t := .boolean) Bd.returns (by simp) (hb hby own_d_prog_39_method_6_code_28) hr
  · show own_QP (some (.int 0)) h0 n0 _ T1.heap _
    exact ⟨rfl, N0, e1⟩
set_option maxRecDepth 65536 in
set_option maxHeartbeats 40000000 in
theorem own_rms (l : Launch) (Z : State) (a0 : Array Value) (hw : ∀ d ∈ tables_1, d.before a0 Z = true) (ws : List Jvm.Cond) (a b : Addr) (h0 : Heap) (n0 : Nat) (Z0 : n0 ≤ h0.size) (E_b : Exa Z h0 b "java/lang/String") :
    MetFree l (⟨"com/example/invarient/invarient/model/AtomicPredicate", "equals", "(Ljava/lang/Object;)Z"⟩ : MethodName) (head1 (Jvm.Cond.code (⟨"com/example/invarient/invarient/model/AtomicPredicate", "equals", "(Ljava/lang/Object;)Z"⟩ : MethodName) prog_39_method_6_code 3 (some .boolean) :: ws) ({ frames := 0, cells := 0, slots := 0, locals := 0 } : Room)) (fun a_ U_ => a_ = #[(.ref a), (.ref b)] ∧ Z.Warmed39 U_.vm ∧ U_.heap = h0) (fun _ _ _ _ _ => True) (fun _ U_ o_ U_' => ∃ v_ L_, o_ = .returned v_ ∧ own_QP (some (.int 0)) h0 n0 v_ U_'.heap L_ ∧ FrameEnd U_ o_ U_' L_ ({ frames := 0, cells := 0, slots := 0, locals := 0 } : Room).cells ({ frames := 0, cells := 0, slots := 0, locals := 0 } : Room).slots) := by
  refine MetFree.of_bodySF (plainFor_of_name own_pn6) hisR ?_
  intro p e s m args below meth c s₁ Bd hml0 hP hK
  obtain ⟨rfl, hZ, hh⟩ := hP
  have hx := Bd.exec
  have hby := Bd.bytes
  have hml : c.maxLocals = 3 := hml0
  have hown : s.vm.findClass "com/example/invarient/invarient/model/AtomicPredicate" = some m.cls := findClass_of_methodNamed Bd.named
  have hnm := (name_of_methodNamed Bd.named Bd.method).1
  have X0 : Stand p l e ({ frames := 0, cells := 0, slots := 0, locals := 0 } : Room) s m #[(.ref a), (.ref b)] below meth c s₁ [] 0 0 := Stand.of_body Bd
  have e0 : s₁.heap = h0 := by rw [← hh, Bd.state]; rfl
  have N0 := Fr.nil n0
  have pre0 : ∀ t, Steps p.tables e below (s₁.setTop (mkF m 0 #[.val (.ref a), .val (.ref b), .unset] [])) t → Steps p.tables e below (s₁.setTop (entryFrame m #[(.ref a), (.ref b)] 3)) t := fun t_ k_ => castTop (own_ef12 m a b) k_
  obtain ⟨T1, X1, e1, st1⟩ := instNo X0 hx hZ hown (hw _ (List.mem_of_getElem? (i := 47) rfl)) e0 E_b (own_nsno (hw _ (List.mem_of_getElem? (i := 70) rfl)) (hw _ (List.mem_of_getElem? (i := 1) rfl)) (NS.step (hw _ (List.mem_of_getElem? (i := 70) rfl)) (own_ns0 (hw _ (List.mem_of_getElem? (i := 71) rfl)) (hw _ (List.mem_of_getElem? (i := 1) rfl)) (by decide)) (by decide)) (by decide)) (g := (mkF m 1 #[.val (.ref a), .val (.ref b), .unset] [(.ref b)])) rfl rfl (hb hby own_d_prog_39_method_6_code_1)
  obtain ⟨fs, hr, hrun, hended, hW, hsame⟩ := X1.leave (v := some (.int (0 : Int32))) (fun h => by rw [Bd.returns] at h; cases h)
  refine ⟨_, _, pre0 _ ?_, hrun, hended, _, _, rfl, ?_, ⟨_, rfl⟩, hW, hsame.mono (by decide) (by decide)⟩
  · show Steps p.tables e below (s₁.setTop (mkF m 0 #[.val (.ref a), .val (.ref b), .unset] [])) _
    refine XS.aloadN X0.here hx rfl (hb hby own_d_prog_39_method_6_code_0) rfl rfl ?_
    show Steps p.tables e below (s₁.setTop (mkF m 1 #[.val (.ref a), .val (.ref b), .unset] [(.ref b)])) _
    refine st1 _ ?_
    show Steps p.tables e below (T1.setTop (mkF m 4 #[.val (.ref a), .val (.ref b), .unset] [(.int (0 : Int32))])) _
    refine XS.ifYes X1.here hx rfl (pc0 := 4) (pc' := 27) rfl (hb hby own_d_prog_39_method_6_code_4) rfl ((if0 _ _).trans (teq (rfl : (0 : Int32) = (0 : Int32))).1) (by decide) (by decide) ?_
    show Steps p.tables e below (T1.setTop (mkF m 27 #[.val (.ref a), .val (.ref b), .unset] [])) _
    refine XS.iconst X1.here hx rfl (hb hby own_d_prog_39_method_6_code_27) ?_
    show Steps p.tables e below (T1.setTop (mkF m 28 #[.val (.ref a), .val (.ref b), .unset] [(.int (0 : Int32))])) _
    exact retN X1 hx (t := .boolean) Bd.returns (by simp) (hb hby own_d_prog_39_method_6_code_28) hr
  · show own_QP (some (.int 0)) h0 n0 _ T1.heap _
    exact ⟨rfl, N0, e1⟩
set_option maxRecDepth 65536 in
set_option maxHeartbeats 40000000 in
theorem own_rm0 (l : Launch) (Z : State) (a0 : Array Value) (hw : ∀ d ∈ tables_1, d.before a0 Z = true) (ws : List Jvm.Cond) (a1 b1 c1 : Int32) (pt pf xt xf : Addr) (w2 : Int32) (h0 : Heap) (n0 : Nat) (Z0 : n0 ≤ h0.size) (S_PT : Sta Z h0 "com/example/invarient/invarient/model/AtomicPredicate$Operator" "TRUE" "Lcom/example/invarient/invarient/model/AtomicPredicate$Operator;" (.ref pt)) (E_PT : Exa Z h0 pt "com/example/invarient/invarient/model/AtomicPredicate$Operator") (S_PF : Sta Z h0 "com/example/invarient/invarient/model/AtomicPredicate$Operator" "FALSE" "Lcom/example/invarient/invarient/model/AtomicPredicate$Operator;" (.ref pf)) (E_PF : Exa Z h0 pf "com/example/invarient/invarient/model/AtomicPredicate$Operator") (S_XT : Sta Z h0 "com/example/invarient/invarient/model/AtomicExpression$Operator" "TRUE" "Lcom/example/invarient/invarient/model/AtomicExpression$Operator;" (.ref xt)) (E_XT : Exa Z h0 xt "com/example/invarient/invarient/model/AtomicExpression$Operator") (S_XF : Sta Z h0 "com/example/invarient/invarient/model/AtomicExpression$Operator" "FALSE" "Lcom/example/invarient/invarient/model/AtomicExpression$Operator;" (.ref xf)) (E_XF : Exa Z h0 xf "com/example/invarient/invarient/model/AtomicExpression$Operator") (S_C : Sta Z h0 "java/lang/String" "COMPACT_STRINGS" "Z" (.int w2)) (hnC : ¬ w2 = (0 : Int32)) (n1 : ¬ pt = pf) :
    MetFree l x (head1 (Jvm.Cond.code x code maxLocals ret :: ws) room_1) (fun a_ U_ => a_ = #[(.int a1), (.int b1), (.int c1)] ∧ Z.Warmed39 U_.vm ∧ U_.heap = h0) (fun _ _ _ _ _ => True) (fun _ U_ o_ U_' => ∃ v_ L_, o_ = .returned v_ ∧ own_QL n0 v_ U_'.heap L_ ∧ ReturnedEndW U_ o_ U_' L_ room_1.cells room_1.slots) := by
  refine MetFree.of_bodySF (plainFor_of_name own_pn8) hisR ?_
  intro p e s m args below meth c s₁ Bd hml0 hP hK
  obtain ⟨rfl, hZ, hh⟩ := hP
  have hx := Bd.exec
  have hby := Bd.bytes
  have hml : c.maxLocals = 9 := hml0
  have hown : s.vm.findClass "com/example/invarient/invarient/model/AtomicPredicateEqualsPinLaw" = some m.cls := findClass_of_methodNamed Bd.named
  have hnm := (name_of_methodNamed Bd.named Bd.method).1
  have X0 : Stand p l e room_1 s m #[(.int a1), (.int b1), (.int c1)] below meth c s₁ [] 0 0 := Stand.of_body Bd
  have e0 : s₁.heap = h0 := by rw [← hh, Bd.state]; rfl
  have N0 := Fr.nil n0
  have pre0 : ∀ t, Steps p.tables e below (s₁.setTop (mkF m 0 #[.val (.int a1), .val (.int b1), .val (.int c1), .unset, .unset, .unset, .unset, .unset, .unset] [])) t → Steps p.tables e below (s₁.setTop (entryFrame m #[(.int a1), (.int b1), (.int c1)] maxLocals)) t := fun t_ k_ => castTop (own_ef13 m a1 b1 c1) k_
  obtain ⟨t3, T1, Lx1, X1, N1, e1, ht3, st1⟩ : ∃ (t3 : Int32) (T' : State) (Lx : List Loc), Stand p l e room_1 s m #[(.int a1), (.int b1), (.int c1)] below meth c T' Lx 0 0 ∧ Fr n0 Lx ∧ T'.heap = h0 ∧ (t3 = 1 ∨ t3 = 0) ∧ ∀ t, Steps p.tables e below (T'.setTop (mkF m 12 #[.val (.int a1), .val (.int b1), .val (.int c1), .val (.int t3), .unset, .unset, .unset, .unset, .unset] [])) t → Steps p.tables e below (s₁.setTop (mkF m 0 #[.val (.int a1), .val (.int b1), .val (.int c1), .unset, .unset, .unset, .unset, .unset, .unset] [])) t := by
    by_cases h : (a1 &&& (1 : Int32)) = 0
    · refine ⟨0, s₁, _, X0, N0, e0, Or.inr rfl, fun t kt => ?_⟩
      show Steps p.tables e below (s₁.setTop (mkF m 0 #[.val (.int a1), .val (.int b1), .val (.int c1), .unset, .unset, .unset, .unset, .unset, .unset] [])) t
      refine XS.iloadN X0.here hx rfl (hb hby at_0) rfl ?_
      show Steps p.tables e below (s₁.setTop (mkF m 1 #[.val (.int a1), .val (.int b1), .val (.int c1), .unset, .unset, .unset, .unset, .unset, .unset] [(.int a1)])) t
      refine XS.iconst X0.here hx rfl (hb hby at_1) ?_
      show Steps p.tables e below (s₁.setTop (mkF m 2 #[.val (.int a1), .val (.int b1), .val (.int c1), .unset, .unset, .unset, .unset, .unset, .unset] [(.int (1 : Int32)), (.int a1)])) t
      refine XS.iand X0.here hx rfl (hb hby at_2) rfl ?_
      show Steps p.tables e below (s₁.setTop (mkF m 3 #[.val (.int a1), .val (.int b1), .val (.int c1), .unset, .unset, .unset, .unset, .unset, .unset] [(.int (a1 &&& (1 : Int32)))])) t
      refine XS.ifYes X0.here hx rfl (pc0 := 3) (pc' := 10) rfl (hb hby at_3) rfl ((if0 _ _).trans (teq (h : (a1 &&& (1 : Int32)) = (0 : Int32))).1) (by decide) (by decide) ?_
      show Steps p.tables e below (s₁.setTop (mkF m 10 #[.val (.int a1), .val (.int b1), .val (.int c1), .unset, .unset, .unset, .unset, .unset, .unset] [])) t
      refine XS.iconst X0.here hx rfl (hb hby at_10) ?_
      show Steps p.tables e below (s₁.setTop (mkF m 11 #[.val (.int a1), .val (.int b1), .val (.int c1), .unset, .unset, .unset, .unset, .unset, .unset] [(.int (0 : Int32))])) t
      refine XS.istoreN X0.here hx rfl (hb hby at_11) rfl (l' := #[.val (.int a1), .val (.int b1), .val (.int c1), .val (.int (0 : Int32)), .unset, .unset, .unset, .unset, .unset]) rfl ?_
      exact kt
    · refine ⟨1, s₁, _, X0, N0, e0, Or.inl rfl, fun t kt => ?_⟩
      show Steps p.tables e below (s₁.setTop (mkF m 0 #[.val (.int a1), .val (.int b1), .val (.int c1), .unset, .unset, .unset, .unset, .unset, .unset] [])) t
      refine XS.iloadN X0.here hx rfl (hb hby at_0) rfl ?_
      show Steps p.tables e below (s₁.setTop (mkF m 1 #[.val (.int a1), .val (.int b1), .val (.int c1), .unset, .unset, .unset, .unset, .unset, .unset] [(.int a1)])) t
      refine XS.iconst X0.here hx rfl (hb hby at_1) ?_
      show Steps p.tables e below (s₁.setTop (mkF m 2 #[.val (.int a1), .val (.int b1), .val (.int c1), .unset, .unset, .unset, .unset, .unset, .unset] [(.int (1 : Int32)), (.int a1)])) t
      refine XS.iand X0.here hx rfl (hb hby at_2) rfl ?_
      show Steps p.tables e below (s₁.setTop (mkF m 3 #[.val (.int a1), .val (.int b1), .val (.int c1), .unset, .unset, .unset, .unset, .unset, .unset] [(.int (a1 &&& (1 : Int32)))])) t
      refine XS.ifNo X0.here hx rfl (hb hby at_3) rfl ((if0 _ _).trans (feq (h : ¬ ((a1 &&& (1 : Int32)) = (0 : Int32)))).1) ?_
      show Steps p.tables e below (s₁.setTop (mkF m 6 #[.val (.int a1), .val (.int b1), .val (.int c1), .unset, .unset, .unset, .unset, .unset, .unset] [])) t
      refine XS.iconst X0.here hx rfl (hb hby at_6) ?_
      show Steps p.tables e below (s₁.setTop (mkF m 7 #[.val (.int a1), .val (.int b1), .val (.int c1), .unset, .unset, .unset, .unset, .unset, .unset] [(.int (1 : Int32))])) t
      refine XS.goto X0.here hx rfl (pc0 := 7) (pc' := 11) rfl (hb hby at_7) (by decide) (by decide) ?_
      show Steps p.tables e below (s₁.setTop (mkF m 11 #[.val (.int a1), .val (.int b1), .val (.int c1), .unset, .unset, .unset, .unset, .unset, .unset] [(.int (1 : Int32))])) t
      refine XS.istoreN X0.here hx rfl (hb hby at_11) rfl (l' := #[.val (.int a1), .val (.int b1), .val (.int c1), .val (.int (1 : Int32)), .unset, .unset, .unset, .unset, .unset]) rfl ?_
      exact kt
  obtain ⟨t4, T2, Lx2, X2, N2, e2, ht4, st2⟩ : ∃ (t4 : Int32) (T' : State) (Lx : List Loc), Stand p l e room_1 s m #[(.int a1), (.int b1), (.int c1)] below meth c T' Lx 0 0 ∧ Fr n0 Lx ∧ T'.heap = h0 ∧ (t4 = 1 ∨ t4 = 0) ∧ ∀ t, Steps p.tables e below (T'.setTop (mkF m 25 #[.val (.int a1), .val (.int b1), .val (.int c1), .val (.int t3), .val (.int t4), .unset, .unset, .unset, .unset] [])) t → Steps p.tables e below (T1.setTop (mkF m 12 #[.val (.int a1), .val (.int b1), .val (.int c1), .val (.int t3), .unset, .unset, .unset, .unset, .unset] [])) t := by
    by_cases h : (b1 &&& (1 : Int32)) = 0
    · refine ⟨0, T1, _, X1, N1, e1, Or.inr rfl, fun t kt => ?_⟩
      show Steps p.tables e below (T1.setTop (mkF m 12 #[.val (.int a1), .val (.int b1), .val (.int c1), .val (.int t3), .unset, .unset, .unset, .unset, .unset] [])) t
      refine XS.iloadN X1.here hx rfl (hb hby at_12) rfl ?_
      show Steps p.tables e below (T1.setTop (mkF m 13 #[.val (.int a1), .val (.int b1), .val (.int c1), .val (.int t3), .unset, .unset, .unset, .unset, .unset] [(.int b1)])) t
      refine XS.iconst X1.here hx rfl (hb hby at_13) ?_
      show Steps p.tables e below (T1.setTop (mkF m 14 #[.val (.int a1), .val (.int b1), .val (.int c1), .val (.int t3), .unset, .unset, .unset, .unset, .unset] [(.int (1 : Int32)), (.int b1)])) t
      refine XS.iand X1.here hx rfl (hb hby at_14) rfl ?_
      show Steps p.tables e below (T1.setTop (mkF m 15 #[.val (.int a1), .val (.int b1), .val (.int c1), .val (.int t3), .unset, .unset, .unset, .unset, .unset] [(.int (b1 &&& (1 : Int32)))])) t
      refine XS.ifYes X1.here hx rfl (pc0 := 15) (pc' := 22) rfl (hb hby at_15) rfl ((if0 _ _).trans (teq (h : (b1 &&& (1 : Int32)) = (0 : Int32))).1) (by decide) (by decide) ?_
      show Steps p.tables e below (T1.setTop (mkF m 22 #[.val (.int a1), .val (.int b1), .val (.int c1), .val (.int t3), .unset, .unset, .unset, .unset, .unset] [])) t
      refine XS.iconst X1.here hx rfl (hb hby at_22) ?_
      show Steps p.tables e below (T1.setTop (mkF m 23 #[.val (.int a1), .val (.int b1), .val (.int c1), .val (.int t3), .unset, .unset, .unset, .unset, .unset] [(.int (0 : Int32))])) t
      refine XS.istore X1.here hx rfl (hb hby at_23) rfl (l' := #[.val (.int a1), .val (.int b1), .val (.int c1), .val (.int t3), .val (.int (0 : Int32)), .unset, .unset, .unset, .unset]) rfl ?_
      exact kt
    · refine ⟨1, T1, _, X1, N1, e1, Or.inl rfl, fun t kt => ?_⟩
      show Steps p.tables e below (T1.setTop (mkF m 12 #[.val (.int a1), .val (.int b1), .val (.int c1), .val (.int t3), .unset, .unset, .unset, .unset, .unset] [])) t
      refine XS.iloadN X1.here hx rfl (hb hby at_12) rfl ?_
      show Steps p.tables e below (T1.setTop (mkF m 13 #[.val (.int a1), .val (.int b1), .val (.int c1), .val (.int t3), .unset, .unset, .unset, .unset, .unset] [(.int b1)])) t
      refine XS.iconst X1.here hx rfl (hb hby at_13) ?_
      show Steps p.tables e below (T1.setTop (mkF m 14 #[.val (.int a1), .val (.int b1), .val (.int c1), .val (.int t3), .unset, .unset, .unset, .unset, .unset] [(.int (1 : Int32)), (.int b1)])) t
      refine XS.iand X1.here hx rfl (hb hby at_14) rfl ?_
      show Steps p.tables e below (T1.setTop (mkF m 15 #[.val (.int a1), .val (.int b1), .val (.int c1), .val (.int t3), .unset, .unset, .unset, .unset, .unset] [(.int (b1 &&& (1 : Int32)))])) t
      refine XS.ifNo X1.here hx rfl (hb hby at_15) rfl ((if0 _ _).trans (feq (h : ¬ ((b1 &&& (1 : Int32)) = (0 : Int32)))).1) ?_
      show Steps p.tables e below (T1.setTop (mkF m 18 #[.val (.int a1), .val (.int b1), .val (.int c1), .val (.int t3), .unset, .unset, .unset, .unset, .unset] [])) t
      refine XS.iconst X1.here hx rfl (hb hby at_18) ?_
      show Steps p.tables e below (T1.setTop (mkF m 19 #[.val (.int a1), .val (.int b1), .val (.int c1), .val (.int t3), .unset, .unset, .unset, .unset, .unset] [(.int (1 : Int32))])) t
      refine XS.goto X1.here hx rfl (pc0 := 19) (pc' := 23) rfl (hb hby at_19) (by decide) (by decide) ?_
      show Steps p.tables e below (T1.setTop (mkF m 23 #[.val (.int a1), .val (.int b1), .val (.int c1), .val (.int t3), .unset, .unset, .unset, .unset, .unset] [(.int (1 : Int32))])) t
      refine XS.istore X1.here hx rfl (hb hby at_23) rfl (l' := #[.val (.int a1), .val (.int b1), .val (.int c1), .val (.int t3), .val (.int (1 : Int32)), .unset, .unset, .unset, .unset]) rfl ?_
      exact kt
  obtain ⟨T3, hp3, X3, e3, E3, A3, D3, -, st3⟩ := newO X2 hx hZ hown (hw _ (List.mem_of_getElem? (i := 0) rfl)) (hw _ (List.mem_of_getElem? (i := 1) rfl)) (hw _ (List.mem_of_getElem? (i := 2) rfl)) e2 (g := (mkF m 25 #[.val (.int a1), .val (.int b1), .val (.int c1), .val (.int t3), .val (.int t4), .unset, .unset, .unset, .unset] [])) rfl (hb hby at_25) (by decide) (by decide)
  obtain ⟨b3, g3⟩ : ∃ z, z = h0.size := ⟨_, rfl⟩
  rw [← g3] at A3 D3 st3
  have ne_pt_b3 : pt ≠ b3 := Nat.ne_of_lt (by rw [g3]; exact E_PT.lt)
  have ne_pf_b3 : pf ≠ b3 := Nat.ne_of_lt (by rw [g3]; exact E_PF.lt)
  have ne_xt_b3 : xt ≠ b3 := Nat.ne_of_lt (by rw [g3]; exact E_XT.lt)
  have ne_xf_b3 : xf ≠ b3 := Nat.ne_of_lt (by rw [g3]; exact E_XF.lt)
  have gn_b3 : n0 ≤ b3 := Nat.le_trans Z0 (Nat.le_of_eq g3.symm)
  have E3_pt := E_PT.ext E3
  have E3_pf := E_PF.ext E3
  have E3_xt := E_XT.ext E3
  have E3_xf := E_XF.ext E3
  have S3_TRUE_ate := S_PT.ext E3
  have S3_FALSE_ate := S_PF.ext E3
  have S3_TRUE_ion := S_XT.ext E3
  have S3_FALSE_ion := S_XF.ext E3
  have S3_COMPACT_STRINGS_ := S_C.ext E3
  have Zn3 : n0 ≤ hp3.size := Nat.le_trans Z0 E3.1
  have F3_height : Fld Z hp3 b3 "com/example/invarient/invarient/model/Formula" "height" "I" (.int (0 : Int32)) := D3 (Or.inr (hw _ (List.mem_of_getElem? (i := 23) rfl))) (ty := .int) (by decide)
  have F3_priority : Fld Z hp3 b3 "com/example/invarient/invarient/model/Predicate" "priority" "I" (.int (0 : Int32)) := D3 (Or.inr (hw _ (List.mem_of_getElem? (i := 25) rfl))) (ty := .int) (by decide)
  have F3_operator : Fld Z hp3 b3 "com/example/invarient/invarient/model/AtomicPredicate" "operator" "Lcom/example/invarient/invarient/model/AtomicPredicate$Operator;" .null := D3 (Or.inr (hw _ (List.mem_of_getElem? (i := 41) rfl))) (ty := (.object "com/example/invarient/invarient/model/AtomicPredicate$Operator")) (by decide)
  obtain ⟨op, T4, Lx4, X4, N4, e4, hop, Eop, st4⟩ : ∃ (op : Addr) (T' : State) (Lx : List Loc), Stand p l e room_1 s m #[(.int a1), (.int b1), (.int c1)] below meth c T' Lx 1 4 ∧ Fr n0 Lx ∧ T'.heap = hp3 ∧ ((t3 = 1 ∧ op = pt) ∨ (t3 = 0 ∧ op = pf)) ∧ Exa Z hp3 op "com/example/invarient/invarient/model/AtomicPredicate$Operator" ∧ ∀ t, Steps p.tables e below (T'.setTop (mkF m 42 #[.val (.int a1), .val (.int b1), .val (.int c1), .val (.int t3), .val (.int t4), .unset, .unset, .unset, .unset] [(.ref op), (.ref b3), (.ref b3)])) t → Steps p.tables e below (T3.setTop (mkF m 29 #[.val (.int a1), .val (.int b1), .val (.int c1), .val (.int t3), .val (.int t4), .unset, .unset, .unset, .unset] [(.ref b3), (.ref b3)])) t := by
    rcases ht3 with h | h
    · obtain ⟨T5, X5, e5, st5⟩ := getS2 X3 hx hZ hown (host := "") (Or.inl (hw _ (List.mem_of_getElem? (i := 49) rfl))) Via.refl e3 S3_TRUE_ate (g := (mkF m 33 #[.val (.int a1), .val (.int b1), .val (.int c1), .val (.int t3), .val (.int t4), .unset, .unset, .unset, .unset] [(.ref b3), (.ref b3)])) rfl (hb hby at_33)
      refine ⟨pt, T5, _, X5, N2, e5, Or.inl ⟨h, rfl⟩, E3_pt, fun t kt => ?_⟩
      show Steps p.tables e below (T3.setTop (mkF m 29 #[.val (.int a1), .val (.int b1), .val (.int c1), .val (.int t3), .val (.int t4), .unset, .unset, .unset, .unset] [(.ref b3), (.ref b3)])) t
      refine XS.iloadN X3.here hx rfl (hb hby at_29) rfl ?_
      show Steps p.tables e below (T3.setTop (mkF m 30 #[.val (.int a1), .val (.int b1), .val (.int c1), .val (.int t3), .val (.int t4), .unset, .unset, .unset, .unset] [(.int t3), (.ref b3), (.ref b3)])) t
      refine XS.ifNo X3.here hx rfl (hb hby at_30) rfl ((if0 _ _).trans (feq (by rw [h]; decide : ¬ (t3 = (0 : Int32)))).1) ?_
      show Steps p.tables e below (T3.setTop (mkF m 33 #[.val (.int a1), .val (.int b1), .val (.int c1), .val (.int t3), .val (.int t4), .unset, .unset, .unset, .unset] [(.ref b3), (.ref b3)])) t
      refine st5 _ ?_
      show Steps p.tables e below (T5.setTop (mkF m 36 #[.val (.int a1), .val (.int b1), .val (.int c1), .val (.int t3), .val (.int t4), .unset, .unset, .unset, .unset] [(.ref pt), (.ref b3), (.ref b3)])) t
      refine XS.goto X5.here hx rfl (pc0 := 36) (pc' := 42) rfl (hb hby at_36) (by decide) (by decide) ?_
      exact kt
    · obtain ⟨T6, X6, e6, st6⟩ := getS2 X3 hx hZ hown (host := "") (Or.inl (hw _ (List.mem_of_getElem? (i := 3) rfl))) Via.refl e3 S3_FALSE_ate (g := (mkF m 39 #[.val (.int a1), .val (.int b1), .val (.int c1), .val (.int t3), .val (.int t4), .unset, .unset, .unset, .unset] [(.ref b3), (.ref b3)])) rfl (hb hby at_39)
      refine ⟨pf, T6, _, X6, N2, e6, Or.inr ⟨h, rfl⟩, E3_pf, fun t kt => ?_⟩
      show Steps p.tables e below (T3.setTop (mkF m 29 #[.val (.int a1), .val (.int b1), .val (.int c1), .val (.int t3), .val (.int t4), .unset, .unset, .unset, .unset] [(.ref b3), (.ref b3)])) t
      refine XS.iloadN X3.here hx rfl (hb hby at_29) rfl ?_
      show Steps p.tables e below (T3.setTop (mkF m 30 #[.val (.int a1), .val (.int b1), .val (.int c1), .val (.int t3), .val (.int t4), .unset, .unset, .unset, .unset] [(.int t3), (.ref b3), (.ref b3)])) t
      refine XS.ifYes X3.here hx rfl (pc0 := 30) (pc' := 39) rfl (hb hby at_30) rfl ((if0 _ _).trans (teq (h : t3 = (0 : Int32))).1) (by decide) (by decide) ?_
      show Steps p.tables e below (T3.setTop (mkF m 39 #[.val (.int a1), .val (.int b1), .val (.int c1), .val (.int t3), .val (.int t4), .unset, .unset, .unset, .unset] [(.ref b3), (.ref b3)])) t
      refine st6 _ ?_
      exact kt
  have ne_op_b3 : op ≠ b3 := by rcases hop with ⟨_, h⟩ | ⟨_, h⟩ <;> rw [h] <;> assumption
  obtain ⟨_, _, ⟨T7, L7, kc7, nc7⟩, -, X7, hS7, hgr7, ⟨Lc7, hQ7, ql7, qy7, qz7⟩, st7⟩ := X4.specialBackS hx (y := (⟨"com/example/invarient/invarient/model/AtomicPredicate", "<init>", "(Lcom/example/invarient/invarient/model/AtomicPredicate$Operator;)V"⟩ : MethodName)) rfl hown (mvT hZ (hw _ (List.mem_of_getElem? (i := 6) rfl))) (mvT hZ (hw _ (List.mem_of_getElem? (i := 7) rfl))) (mvT hZ (hw _ (List.mem_of_getElem? (i := 8) rfl))) (by decide) (backOfS (W := 1) (own_rcP l Z a0 hw [] b3 op (.int 0) (.int 0) .null hp3 n0 Zn3 A3 gn_b3 F3_height F3_priority F3_operator Eop) hZ (hw _ (List.mem_of_getElem? (i := 8) rfl)) (hw _ (List.mem_of_getElem? (i := 2) rfl)) (by decide) (by decide)) (g := (mkF m 42 #[.val (.int a1), .val (.int b1), .val (.int c1), .val (.int t3), .val (.int t4), .unset, .unset, .unset, .unset] [(.ref op), (.ref b3), (.ref b3)])) rfl (by rw [hml]; rfl) (Steps.refl _) (a := b3) (argsL := [(.ref op)]) (rest := [(.ref b3)]) (lenOf own_pd6 rfl) rfl (by show 2 * 0 + _ ≤ _; exact Nat.le_of_eq rfl) (hb hby at_42) (fun _ _ => ⟨rfl, e4, (by decide : 1 + 2 ≤ _), (by decide : 4 + 36 ≤ _)⟩)
  dsimp only [Pt.U, Pt.locs, Pt.cells, Pt.slots] at X7 ql7 qy7 qz7 st7 hQ7 hS7 hgr7
  subst ql7 qy7 qz7
  obtain ⟨rfl, Nq7, K7, Ec7, Fc7_height, Fc7_priority, Fc7_operator⟩ := hQ7
  have N7 := Fr.app N4 Nq7
  have hZ : Z.Warmed39 (s.setVm T7.vm).vm := State.Warmed39.trans (t := s) hZ hS7.1
  have hown : (s.setVm T7.vm).vm.findClass "com/example/invarient/invarient/model/AtomicPredicateEqualsPinLaw" = some m.cls := by rw [show (s.setVm T7.vm).vm = T7.vm from rfl, hS7.1.alike.findClass]; exact hown
  have hSi7 : s.Since T7.vm T7.heap.size := hS7
  have X7 : Stand p l e room_1 (s.setVm T7.vm) m #[(.int a1), (.int b1), (.int c1)] below meth c T7 _ _ _ := X7
  have E7_pt := E3_pt.keep K7
  have E7_pf := E3_pf.keep K7
  have E7_xt := E3_xt.keep K7
  have E7_xf := E3_xf.keep K7
  have E7_op := Eop.keep K7
  have S7_TRUE_ate := own_staKeep S3_TRUE_ate K7 A3
  have S7_FALSE_ate := own_staKeep S3_FALSE_ate K7 A3
  have S7_TRUE_ion := own_staKeep S3_TRUE_ion K7 A3
  have S7_FALSE_ion := own_staKeep S3_FALSE_ion K7 A3
  have S7_COMPACT_STRINGS_ := own_staKeep S3_COMPACT_STRINGS_ K7 A3
  have Zn7 : n0 ≤ T7.heap.size := Nat.le_trans Zn3 K7.1
  rcases own_nine (c1 &&& (3 : Int32)) (b1 &&& (2 : Int32)) t3 t4 op pt pf (own_m3 c1) hop ht4 with ⟨hk, h4, h3, hp⟩ | ⟨hk, h4, h3, hp⟩ | ⟨hk, h4, h3, hp⟩ | ⟨hk, h4, h3, hp⟩ | hk | hk | ⟨hk, hbt, h4⟩ | ⟨hk, hbt, h4⟩ | ⟨hk, hbt⟩
  · obtain ⟨T8, hp8, X8, e8, E8, A8, D8, -, st8⟩ := newO X7 hx hZ hown (hw _ (List.mem_of_getElem? (i := 0) rfl)) (hw _ (List.mem_of_getElem? (i := 1) rfl)) (hw _ (List.mem_of_getElem? (i := 2) rfl)) (rfl : T7.heap = _) (g := (mkF m 57 #[.val (.int a1), .val (.int b1), .val (.int c1), .val (.int t3), .val (.int t4), .val (.ref b3), .val (.int (c1 &&& (3 : Int32))), .unset, .unset] [])) rfl (hb hby at_57) (by decide) (by decide)
    obtain ⟨b8, g8⟩ : ∃ z, z = T7.heap.size := ⟨_, rfl⟩
    rw [← g8] at A8 D8 st8
    have ne_pt_b8 : pt ≠ b8 := Nat.ne_of_lt (by rw [g8]; exact E7_pt.lt)
    have ne_pf_b8 : pf ≠ b8 := Nat.ne_of_lt (by rw [g8]; exact E7_pf.lt)
    have ne_xt_b8 : xt ≠ b8 := Nat.ne_of_lt (by rw [g8]; exact E7_xt.lt)
    have ne_xf_b8 : xf ≠ b8 := Nat.ne_of_lt (by rw [g8]; exact E7_xf.lt)
    have ne_op_b8 : op ≠ b8 := Nat.ne_of_lt (by rw [g8]; exact E7_op.lt)
    have ne_b3_b8 : b3 ≠ b8 := Nat.ne_of_lt (by rw [g8]; exact Ec7.lt)
    have gn_b8 : n0 ≤ b8 := Nat.le_trans Zn7 (Nat.le_of_eq g8.symm)
    have F8_b3_height := Fc7_height.ext E8
    have F8_b3_priority := Fc7_priority.ext E8
    have F8_b3_operator := Fc7_operator.ext E8
    have E8_pt := E7_pt.ext E8
    have E8_pf := E7_pf.ext E8
    have E8_xt := E7_xt.ext E8
    have E8_xf := E7_xf.ext E8
    have E8_op := E7_op.ext E8
    have E8_b3 := Ec7.ext E8
    have S8_TRUE_ate := S7_TRUE_ate.ext E8
    have S8_FALSE_ate := S7_FALSE_ate.ext E8
    have S8_TRUE_ion := S7_TRUE_ion.ext E8
    have S8_FALSE_ion := S7_FALSE_ion.ext E8
    have S8_COMPACT_STRINGS_ := S7_COMPACT_STRINGS_.ext E8
    have Zn8 : n0 ≤ hp8.size := Nat.le_trans Zn7 E8.1
    have F8_height : Fld Z hp8 b8 "com/example/invarient/invarient/model/Formula" "height" "I" (.int (0 : Int32)) := D8 (Or.inr (hw _ (List.mem_of_getElem? (i := 23) rfl))) (ty := .int) (by decide)
    have F8_priority : Fld Z hp8 b8 "com/example/invarient/invarient/model/Predicate" "priority" "I" (.int (0 : Int32)) := D8 (Or.inr (hw _ (List.mem_of_getElem? (i := 25) rfl))) (ty := .int) (by decide)
    have F8_operator : Fld Z hp8 b8 "com/example/invarient/invarient/model/AtomicPredicate" "operator" "Lcom/example/invarient/invarient/model/AtomicPredicate$Operator;" .null := D8 (Or.inr (hw _ (List.mem_of_getElem? (i := 41) rfl))) (ty := (.object "com/example/invarient/invarient/model/AtomicPredicate$Operator")) (by decide)
    obtain ⟨T9, X9, e9, st9⟩ := getS2 X8 hx hZ hown (host := "") (Or.inl (hw _ (List.mem_of_getElem? (i := 49) rfl))) Via.refl e8 S8_TRUE_ate (g := (mkF m 66 #[.val (.int a1), .val (.int b1), .val (.int c1), .val (.int t3), .val (.int t4), .val (.ref b3), .val (.int (c1 &&& (3 : Int32))), .unset, .unset] [(.ref b8), (.ref b8)])) rfl (hb hby at_66)
    obtain ⟨_, _, ⟨T10, L10, kc10, nc10⟩, -, X10, hS10, hgr10, ⟨Lc10, hQ10, ql10, qy10, qz10⟩, st10⟩ := X9.specialBackS hx (y := (⟨"com/example/invarient/invarient/model/AtomicPredicate", "<init>", "(Lcom/example/invarient/invarient/model/AtomicPredicate$Operator;)V"⟩ : MethodName)) rfl hown (mvT hZ (hw _ (List.mem_of_getElem? (i := 6) rfl))) (mvT hZ (hw _ (List.mem_of_getElem? (i := 7) rfl))) (mvT hZ (hw _ (List.mem_of_getElem? (i := 8) rfl))) (by decide) (backOfS (W := 1) (own_rcP l Z a0 hw [] b8 pt (.int 0) (.int 0) .null hp8 n0 Zn8 A8 gn_b8 F8_height F8_priority F8_operator E8_pt) hZ (hw _ (List.mem_of_getElem? (i := 8) rfl)) (hw _ (List.mem_of_getElem? (i := 2) rfl)) (by decide) (by decide)) (g := (mkF m 75 #[.val (.int a1), .val (.int b1), .val (.int c1), .val (.int t3), .val (.int t4), .val (.ref b3), .val (.int (c1 &&& (3 : Int32))), .unset, .unset] [(.ref pt), (.ref b8), (.ref b8)])) rfl (by rw [hml]; rfl) (Steps.refl _) (a := b8) (argsL := [(.ref pt)]) (rest := [(.ref b8)]) (lenOf own_pd6 rfl) rfl (by show 2 * 0 + _ ≤ _; exact Nat.le_of_eq rfl) (hb hby at_75) (fun _ _ => ⟨rfl, e9, (by decide : 4 + 2 ≤ _), (by decide : 44 + 36 ≤ _)⟩)
    dsimp only [Pt.U, Pt.locs, Pt.cells, Pt.slots] at X10 ql10 qy10 qz10 st10 hQ10 hS10 hgr10
    subst ql10 qy10 qz10
    obtain ⟨rfl, Nq10, K10, Ec10, Fc10_height, Fc10_priority, Fc10_operator⟩ := hQ10
    have N10 := Fr.app N7 Nq10
    have hZ : Z.Warmed39 (s.setVm T10.vm).vm := State.Warmed39.trans (t := s.setVm T7.vm) hZ hS10.1
    have hown : (s.setVm T10.vm).vm.findClass "com/example/invarient/invarient/model/AtomicPredicateEqualsPinLaw" = some m.cls := by rw [show (s.setVm T10.vm).vm = T10.vm from rfl, hS10.1.alike.findClass]; exact hown
    have hSi10 : s.Since T10.vm T10.heap.size := hSi7.trans hS10 (Nat.le_trans (by rw [e9]; exact (Nat.le_trans (Nat.le_refl _) E8.1)) hgr10)
    have X10 : Stand p l e room_1 (s.setVm T10.vm) m #[(.int a1), (.int b1), (.int c1)] below meth c T10 _ _ _ := X10
    have F10_b3_height := F8_b3_height.keep K10 (ninS ne_b3_b8 nin0)
    have F10_b3_priority := F8_b3_priority.keep K10 (ninS ne_b3_b8 nin0)
    have F10_b3_operator := F8_b3_operator.keep K10 (ninS ne_b3_b8 nin0)
    have E10_pt := E8_pt.keep K10
    have E10_pf := E8_pf.keep K10
    have E10_xt := E8_xt.keep K10
    have E10_xf := E8_xf.keep K10
    have E10_op := E8_op.keep K10
    have E10_b3 := E8_b3.keep K10
    have S10_TRUE_ate := own_staKeep S8_TRUE_ate K10 A8
    have S10_FALSE_ate := own_staKeep S8_FALSE_ate K10 A8
    have S10_TRUE_ion := own_staKeep S8_TRUE_ion K10 A8
    have S10_FALSE_ion := own_staKeep S8_FALSE_ion K10 A8
    have S10_COMPACT_STRINGS_ := own_staKeep S8_COMPACT_STRINGS_ K10 A8
    have Zn10 : n0 ≤ T10.heap.size := Nat.le_trans Zn8 K10.1
    obtain ⟨cq11, kq11, q11a, q11b, q11c⟩ := isOf hZ (rfl : T10.heap = _) E10_b3
    obtain ⟨_, _, ⟨T11, L11, kc11, nc11⟩, -, X11, ⟨Lc11, hQ11, ql11, qy11, qz11⟩, st11⟩ := X10.virtualBack hx (y := (⟨"com/example/invarient/invarient/model/AtomicPredicate", "equals", "(Ljava/lang/Object;)Z"⟩ : MethodName)) (z := (⟨"com/example/invarient/invarient/model/AtomicPredicate", "equals", "(Ljava/lang/Object;)Z"⟩ : MethodName)) hown (mvT hZ (hw _ (List.mem_of_getElem? (i := 42) rfl))) (mvT hZ (hw _ (List.mem_of_getElem? (i := 43) rfl))) (notFace_of_selects (args := #[]) (mvT hZ (hw _ (List.mem_of_getElem? (i := 45) rfl)))) (mvT hZ (hw _ (List.mem_of_getElem? (i := 45) rfl))) (mvT hZ (hw _ (List.mem_of_getElem? (i := 44) rfl))) (by decide) (backOf (W := 0) (own_rme l Z a0 hw [] b3 b8 op pt T10.heap n0 Zn10 Ec10 F10_b3_operator Fc10_operator) hZ (hw _ (List.mem_of_getElem? (i := 46) rfl)) (hw _ (List.mem_of_getElem? (i := 2) rfl)) (by decide) (by decide)) q11a q11c (g := (mkF m 183 #[.val (.int a1), .val (.int b1), .val (.int c1), .val (.int t3), .val (.int t4), .val (.ref b3), .val (.int (c1 &&& (3 : Int32))), .val (.ref b8), .val (.int (1 : Int32))] [(.ref b8), (.ref b3)])) rfl (by rw [hml]; rfl) (Steps.refl _) (argsL := [(.ref b8)]) (rest := []) (lenOf own_pd7 rfl) rfl (by show 2 * 0 + _ ≤ _; exact Nat.le_of_eq rfl) (hb hby at_183) (fun _ _ => ⟨rfl, (rfl : T10.heap = _), (by decide : 6 + 0 ≤ _), (by decide : 80 + 0 ≤ _)⟩)
    dsimp only [Pt.U, Pt.locs, Pt.cells, Pt.slots] at X11 ql11 qy11 qz11 st11 hQ11
    subst ql11 qy11 qz11
    obtain ⟨rfl, Nq11, eq11⟩ := hQ11
    have N11 := Fr.app N10 Nq11
    obtain ⟨fs, hr, hrun, hended, hret⟩ := X11.leaveW hSi10 (by rw [eq11]; exact (Nat.le_refl _)) (v := some (.int (1 : Int32))) (fun h => by rw [Bd.returns] at h; cases h)
    have hret := own_wmono hret (by decide : _ ≤ room_1.cells) (by decide : _ ≤ room_1.slots)
    refine ⟨_, _, pre0 _ ?_, hrun, hended, _, _, rfl, ?_, hret⟩
    · show Steps p.tables e below (s₁.setTop (mkF m 0 #[.val (.int a1), .val (.int b1), .val (.int c1), .unset, .unset, .unset, .unset, .unset, .unset] [])) _
      refine st1 _ ?_
      show Steps p.tables e below (T1.setTop (mkF m 12 #[.val (.int a1), .val (.int b1), .val (.int c1), .val (.int t3), .unset, .unset, .unset, .unset, .unset] [])) _
      refine st2 _ ?_
      show Steps p.tables e below (T2.setTop (mkF m 25 #[.val (.int a1), .val (.int b1), .val (.int c1), .val (.int t3), .val (.int t4), .unset, .unset, .unset, .unset] [])) _
      refine st3 _ ?_
      show Steps p.tables e below (T3.setTop (mkF m 28 #[.val (.int a1), .val (.int b1), .val (.int c1), .val (.int t3), .val (.int t4), .unset, .unset, .unset, .unset] [(.ref b3)])) _
      refine XS.dup X3.here hx rfl (hb hby at_28) rfl rfl ?_
      show Steps p.tables e below (T3.setTop (mkF m 29 #[.val (.int a1), .val (.int b1), .val (.int c1), .val (.int t3), .val (.int t4), .unset, .unset, .unset, .unset] [(.ref b3), (.ref b3)])) _
      refine st4 _ ?_
      show Steps p.tables e below (T4.setTop (mkF m 42 #[.val (.int a1), .val (.int b1), .val (.int c1), .val (.int t3), .val (.int t4), .unset, .unset, .unset, .unset] [(.ref op), (.ref b3), (.ref b3)])) _
      refine st7.trans ?_
      show Steps p.tables e below (T7.setTop (mkF m 45 #[.val (.int a1), .val (.int b1), .val (.int c1), .val (.int t3), .val (.int t4), .unset, .unset, .unset, .unset] [(.ref b3)])) _
      refine XS.astore X7.here hx rfl (hb hby at_45) rfl rfl (l' := #[.val (.int a1), .val (.int b1), .val (.int c1), .val (.int t3), .val (.int t4), .val (.ref b3), .unset, .unset, .unset]) rfl ?_
      show Steps p.tables e below (T7.setTop (mkF m 47 #[.val (.int a1), .val (.int b1), .val (.int c1), .val (.int t3), .val (.int t4), .val (.ref b3), .unset, .unset, .unset] [])) _
      refine XS.iloadN X7.here hx rfl (hb hby at_47) rfl ?_
      show Steps p.tables e below (T7.setTop (mkF m 48 #[.val (.int a1), .val (.int b1), .val (.int c1), .val (.int t3), .val (.int t4), .val (.ref b3), .unset, .unset, .unset] [(.int c1)])) _
      refine XS.iconst X7.here hx rfl (hb hby at_48) ?_
      show Steps p.tables e below (T7.setTop (mkF m 49 #[.val (.int a1), .val (.int b1), .val (.int c1), .val (.int t3), .val (.int t4), .val (.ref b3), .unset, .unset, .unset] [(.int (3 : Int32)), (.int c1)])) _
      refine XS.iand X7.here hx rfl (hb hby at_49) rfl ?_
      show Steps p.tables e below (T7.setTop (mkF m 50 #[.val (.int a1), .val (.int b1), .val (.int c1), .val (.int t3), .val (.int t4), .val (.ref b3), .unset, .unset, .unset] [(.int (c1 &&& (3 : Int32)))])) _
      refine XS.istore X7.here hx rfl (hb hby at_50) rfl (l' := #[.val (.int a1), .val (.int b1), .val (.int c1), .val (.int t3), .val (.int t4), .val (.ref b3), .val (.int (c1 &&& (3 : Int32))), .unset, .unset]) rfl ?_
      show Steps p.tables e below (T7.setTop (mkF m 52 #[.val (.int a1), .val (.int b1), .val (.int c1), .val (.int t3), .val (.int t4), .val (.ref b3), .val (.int (c1 &&& (3 : Int32))), .unset, .unset] [])) _
      refine XS.iload X7.here hx rfl (hb hby at_52) rfl ?_
      show Steps p.tables e below (T7.setTop (mkF m 54 #[.val (.int a1), .val (.int b1), .val (.int c1), .val (.int t3), .val (.int t4), .val (.ref b3), .val (.int (c1 &&& (3 : Int32))), .unset, .unset] [(.int (c1 &&& (3 : Int32)))])) _
      refine XS.ifNo X7.here hx rfl (hb hby at_54) rfl ((if0 _ _).trans (teq (hk : (c1 &&& (3 : Int32)) = (0 : Int32))).2) ?_
      show Steps p.tables e below (T7.setTop (mkF m 57 #[.val (.int a1), .val (.int b1), .val (.int c1), .val (.int t3), .val (.int t4), .val (.ref b3), .val (.int (c1 &&& (3 : Int32))), .unset, .unset] [])) _
      refine st8 _ ?_
      show Steps p.tables e below (T8.setTop (mkF m 60 #[.val (.int a1), .val (.int b1), .val (.int c1), .val (.int t3), .val (.int t4), .val (.ref b3), .val (.int (c1 &&& (3 : Int32))), .unset, .unset] [(.ref b8)])) _
      refine XS.dup X8.here hx rfl (hb hby at_60) rfl rfl ?_
      show Steps p.tables e below (T8.setTop (mkF m 61 #[.val (.int a1), .val (.int b1), .val (.int c1), .val (.int t3), .val (.int t4), .val (.ref b3), .val (.int (c1 &&& (3 : Int32))), .unset, .unset] [(.ref b8), (.ref b8)])) _
      refine XS.iload X8.here hx rfl (hb hby at_61) rfl ?_
      show Steps p.tables e below (T8.setTop (mkF m 63 #[.val (.int a1), .val (.int b1), .val (.int c1), .val (.int t3), .val (.int t4), .val (.ref b3), .val (.int (c1 &&& (3 : Int32))), .unset, .unset] [(.int t4), (.ref b8), (.ref b8)])) _
      refine XS.ifNo X8.here hx rfl (hb hby at_63) rfl ((if0 _ _).trans (feq (by rw [h4]; decide : ¬ (t4 = (0 : Int32)))).1) ?_
      show Steps p.tables e below (T8.setTop (mkF m 66 #[.val (.int a1), .val (.int b1), .val (.int c1), .val (.int t3), .val (.int t4), .val (.ref b3), .val (.int (c1 &&& (3 : Int32))), .unset, .unset] [(.ref b8), (.ref b8)])) _
      refine st9 _ ?_
      show Steps p.tables e below (T9.setTop (mkF m 69 #[.val (.int a1), .val (.int b1), .val (.int c1), .val (.int t3), .val (.int t4), .val (.ref b3), .val (.int (c1 &&& (3 : Int32))), .unset, .unset] [(.ref pt), (.ref b8), (.ref b8)])) _
      refine XS.goto X9.here hx rfl (pc0 := 69) (pc' := 75) rfl (hb hby at_69) (by decide) (by decide) ?_
      show Steps p.tables e below (T9.setTop (mkF m 75 #[.val (.int a1), .val (.int b1), .val (.int c1), .val (.int t3), .val (.int t4), .val (.ref b3), .val (.int (c1 &&& (3 : Int32))), .unset, .unset] [(.ref pt), (.ref b8), (.ref b8)])) _
      refine st10.trans ?_
      show Steps p.tables e below (T10.setTop (mkF m 78 #[.val (.int a1), .val (.int b1), .val (.int c1), .val (.int t3), .val (.int t4), .val (.ref b3), .val (.int (c1 &&& (3 : Int32))), .unset, .unset] [(.ref b8)])) _
      refine XS.astore X10.here hx rfl (hb hby at_78) rfl rfl (l' := #[.val (.int a1), .val (.int b1), .val (.int c1), .val (.int t3), .val (.int t4), .val (.ref b3), .val (.int (c1 &&& (3 : Int32))), .val (.ref b8), .unset]) rfl ?_
      show Steps p.tables e below (T10.setTop (mkF m 80 #[.val (.int a1), .val (.int b1), .val (.int c1), .val (.int t3), .val (.int t4), .val (.ref b3), .val (.int (c1 &&& (3 : Int32))), .val (.ref b8), .unset] [])) _
      refine XS.iloadN X10.here hx rfl (hb hby at_80) rfl ?_
      show Steps p.tables e below (T10.setTop (mkF m 81 #[.val (.int a1), .val (.int b1), .val (.int c1), .val (.int t3), .val (.int t4), .val (.ref b3), .val (.int (c1 &&& (3 : Int32))), .val (.ref b8), .unset] [(.int t3)])) _
      refine XS.iload X10.here hx rfl (hb hby at_81) rfl ?_
      show Steps p.tables e below (T10.setTop (mkF m 83 #[.val (.int a1), .val (.int b1), .val (.int c1), .val (.int t3), .val (.int t4), .val (.ref b3), .val (.int (c1 &&& (3 : Int32))), .val (.ref b8), .unset] [(.int t4), (.int t3)])) _
      refine XS.icmpNo X10.here hx rfl (hb hby at_83) rfl (teq (by rw [h3, h4] : t3 = t4)).2 ?_
      show Steps p.tables e below (T10.setTop (mkF m 86 #[.val (.int a1), .val (.int b1), .val (.int c1), .val (.int t3), .val (.int t4), .val (.ref b3), .val (.int (c1 &&& (3 : Int32))), .val (.ref b8), .unset] [])) _
      refine XS.iconst X10.here hx rfl (hb hby at_86) ?_
      show Steps p.tables e below (T10.setTop (mkF m 87 #[.val (.int a1), .val (.int b1), .val (.int c1), .val (.int t3), .val (.int t4), .val (.ref b3), .val (.int (c1 &&& (3 : Int32))), .val (.ref b8), .unset] [(.int (1 : Int32))])) _
      refine XS.goto X10.here hx rfl (pc0 := 87) (pc' := 91) rfl (hb hby at_87) (by decide) (by decide) ?_
      show Steps p.tables e below (T10.setTop (mkF m 91 #[.val (.int a1), .val (.int b1), .val (.int c1), .val (.int t3), .val (.int t4), .val (.ref b3), .val (.int (c1 &&& (3 : Int32))), .val (.ref b8), .unset] [(.int (1 : Int32))])) _
      refine XS.istore X10.here hx rfl (hb hby at_91) rfl (l' := #[.val (.int a1), .val (.int b1), .val (.int c1), .val (.int t3), .val (.int t4), .val (.ref b3), .val (.int (c1 &&& (3 : Int32))), .val (.ref b8), .val (.int (1 : Int32))]) rfl ?_
      show Steps p.tables e below (T10.setTop (mkF m 93 #[.val (.int a1), .val (.int b1), .val (.int c1), .val (.int t3), .val (.int t4), .val (.ref b3), .val (.int (c1 &&& (3 : Int32))), .val (.ref b8), .val (.int (1 : Int32))] [])) _
      refine XS.goto X10.here hx rfl (pc0 := 93) (pc' := 179) rfl (hb hby at_93) (by decide) (by decide) ?_
      show Steps p.tables e below (T10.setTop (mkF m 179 #[.val (.int a1), .val (.int b1), .val (.int c1), .val (.int t3), .val (.int t4), .val (.ref b3), .val (.int (c1 &&& (3 : Int32))), .val (.ref b8), .val (.int (1 : Int32))] [])) _
      refine XS.aload X10.here hx rfl (hb hby at_179) rfl rfl ?_
      show Steps p.tables e below (T10.setTop (mkF m 181 #[.val (.int a1), .val (.int b1), .val (.int c1), .val (.int t3), .val (.int t4), .val (.ref b3), .val (.int (c1 &&& (3 : Int32))), .val (.ref b8), .val (.int (1 : Int32))] [(.ref b3)])) _
      refine XS.aload X10.here hx rfl (hb hby at_181) rfl rfl ?_
      show Steps p.tables e below (T10.setTop (mkF m 183 #[.val (.int a1), .val (.int b1), .val (.int c1), .val (.int t3), .val (.int t4), .val (.ref b3), .val (.int (c1 &&& (3 : Int32))), .val (.ref b8), .val (.int (1 : Int32))] [(.ref b8), (.ref b3)])) _
      refine st11.trans ?_
      show Steps p.tables e below (T11.setTop (mkF m 186 #[.val (.int a1), .val (.int b1), .val (.int c1), .val (.int t3), .val (.int t4), .val (.ref b3), .val (.int (c1 &&& (3 : Int32))), .val (.ref b8), .val (.int (1 : Int32))] [(.int (if pt = op then 1 else 0))])) _
      refine XS.iload X11.here hx rfl (hb hby at_186) rfl ?_
      show Steps p.tables e below (T11.setTop (mkF m 188 #[.val (.int a1), .val (.int b1), .val (.int c1), .val (.int t3), .val (.int t4), .val (.ref b3), .val (.int (c1 &&& (3 : Int32))), .val (.ref b8), .val (.int (1 : Int32))] [(.int (1 : Int32)), (.int (if pt = op then 1 else 0))])) _
      refine XS.icmpNo X11.here hx rfl (hb hby at_188) rfl (teq (if_pos hp.symm : (if pt = op then 1 else 0) = (1 : Int32))).2 ?_
      show Steps p.tables e below (T11.setTop (mkF m 191 #[.val (.int a1), .val (.int b1), .val (.int c1), .val (.int t3), .val (.int t4), .val (.ref b3), .val (.int (c1 &&& (3 : Int32))), .val (.ref b8), .val (.int (1 : Int32))] [])) _
      refine XS.iconst X11.here hx rfl (hb hby at_191) ?_
      show Steps p.tables e below (T11.setTop (mkF m 192 #[.val (.int a1), .val (.int b1), .val (.int c1), .val (.int t3), .val (.int t4), .val (.ref b3), .val (.int (c1 &&& (3 : Int32))), .val (.ref b8), .val (.int (1 : Int32))] [(.int (1 : Int32))])) _
      refine XS.goto X11.here hx rfl (pc0 := 192) (pc' := 196) rfl (hb hby at_192) (by decide) (by decide) ?_
      show Steps p.tables e below (T11.setTop (mkF m 196 #[.val (.int a1), .val (.int b1), .val (.int c1), .val (.int t3), .val (.int t4), .val (.ref b3), .val (.int (c1 &&& (3 : Int32))), .val (.ref b8), .val (.int (1 : Int32))] [(.int (1 : Int32))])) _
      exact retN X11 hx (t := .boolean) Bd.returns (by simp) (hb hby at_196) hr
    · show own_QL n0 _ T11.heap _
      exact ⟨rfl, N11⟩
  · obtain ⟨T12, hp12, X12, e12, E12, A12, D12, -, st12⟩ := newO X7 hx hZ hown (hw _ (List.mem_of_getElem? (i := 0) rfl)) (hw _ (List.mem_of_getElem? (i := 1) rfl)) (hw _ (List.mem_of_getElem? (i := 2) rfl)) (rfl : T7.heap = _) (g := (mkF m 57 #[.val (.int a1), .val (.int b1), .val (.int c1), .val (.int t3), .val (.int t4), .val (.ref b3), .val (.int (c1 &&& (3 : Int32))), .unset, .unset] [])) rfl (hb hby at_57) (by decide) (by decide)
    obtain ⟨b12, g12⟩ : ∃ z, z = T7.heap.size := ⟨_, rfl⟩
    rw [← g12] at A12 D12 st12
    have ne_pt_b12 : pt ≠ b12 := Nat.ne_of_lt (by rw [g12]; exact E7_pt.lt)
    have ne_pf_b12 : pf ≠ b12 := Nat.ne_of_lt (by rw [g12]; exact E7_pf.lt)
    have ne_xt_b12 : xt ≠ b12 := Nat.ne_of_lt (by rw [g12]; exact E7_xt.lt)
    have ne_xf_b12 : xf ≠ b12 := Nat.ne_of_lt (by rw [g12]; exact E7_xf.lt)
    have ne_op_b12 : op ≠ b12 := Nat.ne_of_lt (by rw [g12]; exact E7_op.lt)
    have ne_b3_b12 : b3 ≠ b12 := Nat.ne_of_lt (by rw [g12]; exact Ec7.lt)
    have gn_b12 : n0 ≤ b12 := Nat.le_trans Zn7 (Nat.le_of_eq g12.symm)
    have F12_b3_height := Fc7_height.ext E12
    have F12_b3_priority := Fc7_priority.ext E12
    have F12_b3_operator := Fc7_operator.ext E12
    have E12_pt := E7_pt.ext E12
    have E12_pf := E7_pf.ext E12
    have E12_xt := E7_xt.ext E12
    have E12_xf := E7_xf.ext E12
    have E12_op := E7_op.ext E12
    have E12_b3 := Ec7.ext E12
    have S12_TRUE_ate := S7_TRUE_ate.ext E12
    have S12_FALSE_ate := S7_FALSE_ate.ext E12
    have S12_TRUE_ion := S7_TRUE_ion.ext E12
    have S12_FALSE_ion := S7_FALSE_ion.ext E12
    have S12_COMPACT_STRINGS_ := S7_COMPACT_STRINGS_.ext E12
    have Zn12 : n0 ≤ hp12.size := Nat.le_trans Zn7 E12.1
    have F12_height : Fld Z hp12 b12 "com/example/invarient/invarient/model/Formula" "height" "I" (.int (0 : Int32)) := D12 (Or.inr (hw _ (List.mem_of_getElem? (i := 23) rfl))) (ty := .int) (by decide)
    have F12_priority : Fld Z hp12 b12 "com/example/invarient/invarient/model/Predicate" "priority" "I" (.int (0 : Int32)) := D12 (Or.inr (hw _ (List.mem_of_getElem? (i := 25) rfl))) (ty := .int) (by decide)
    have F12_operator : Fld Z hp12 b12 "com/example/invarient/invarient/model/AtomicPredicate" "operator" "Lcom/example/invarient/invarient/model/AtomicPredicate$Operator;" .null := D12 (Or.inr (hw _ (List.mem_of_getElem? (i := 41) rfl))) (ty := (.object "com/example/invarient/invarient/model/AtomicPredicate$Operator")) (by decide)
    obtain ⟨T13, X13, e13, st13⟩ := getS2 X12 hx hZ hown (host := "") (Or.inl (hw _ (List.mem_of_getElem? (i := 49) rfl))) Via.refl e12 S12_TRUE_ate (g := (mkF m 66 #[.val (.int a1), .val (.int b1), .val (.int c1), .val (.int t3), .val (.int t4), .val (.ref b3), .val (.int (c1 &&& (3 : Int32))), .unset, .unset] [(.ref b12), (.ref b12)])) rfl (hb hby at_66)
    obtain ⟨_, _, ⟨T14, L14, kc14, nc14⟩, -, X14, hS14, hgr14, ⟨Lc14, hQ14, ql14, qy14, qz14⟩, st14⟩ := X13.specialBackS hx (y := (⟨"com/example/invarient/invarient/model/AtomicPredicate", "<init>", "(Lcom/example/invarient/invarient/model/AtomicPredicate$Operator;)V"⟩ : MethodName)) rfl hown (mvT hZ (hw _ (List.mem_of_getElem? (i := 6) rfl))) (mvT hZ (hw _ (List.mem_of_getElem? (i := 7) rfl))) (mvT hZ (hw _ (List.mem_of_getElem? (i := 8) rfl))) (by decide) (backOfS (W := 1) (own_rcP l Z a0 hw [] b12 pt (.int 0) (.int 0) .null hp12 n0 Zn12 A12 gn_b12 F12_height F12_priority F12_operator E12_pt) hZ (hw _ (List.mem_of_getElem? (i := 8) rfl)) (hw _ (List.mem_of_getElem? (i := 2) rfl)) (by decide) (by decide)) (g := (mkF m 75 #[.val (.int a1), .val (.int b1), .val (.int c1), .val (.int t3), .val (.int t4), .val (.ref b3), .val (.int (c1 &&& (3 : Int32))), .unset, .unset] [(.ref pt), (.ref b12), (.ref b12)])) rfl (by rw [hml]; rfl) (Steps.refl _) (a := b12) (argsL := [(.ref pt)]) (rest := [(.ref b12)]) (lenOf own_pd6 rfl) rfl (by show 2 * 0 + _ ≤ _; exact Nat.le_of_eq rfl) (hb hby at_75) (fun _ _ => ⟨rfl, e13, (by decide : 4 + 2 ≤ _), (by decide : 44 + 36 ≤ _)⟩)
    dsimp only [Pt.U, Pt.locs, Pt.cells, Pt.slots] at X14 ql14 qy14 qz14 st14 hQ14 hS14 hgr14
    subst ql14 qy14 qz14
    obtain ⟨rfl, Nq14, K14, Ec14, Fc14_height, Fc14_priority, Fc14_operator⟩ := hQ14
    have N14 := Fr.app N7 Nq14
    have hZ : Z.Warmed39 (s.setVm T14.vm).vm := State.Warmed39.trans (t := s.setVm T7.vm) hZ hS14.1
    have hown : (s.setVm T14.vm).vm.findClass "com/example/invarient/invarient/model/AtomicPredicateEqualsPinLaw" = some m.cls := by rw [show (s.setVm T14.vm).vm = T14.vm from rfl, hS14.1.alike.findClass]; exact hown
    have hSi14 : s.Since T14.vm T14.heap.size := hSi7.trans hS14 (Nat.le_trans (by rw [e13]; exact (Nat.le_trans (Nat.le_refl _) E12.1)) hgr14)
    have X14 : Stand p l e room_1 (s.setVm T14.vm) m #[(.int a1), (.int b1), (.int c1)] below meth c T14 _ _ _ := X14
    have F14_b3_height := F12_b3_height.keep K14 (ninS ne_b3_b12 nin0)
    have F14_b3_priority := F12_b3_priority.keep K14 (ninS ne_b3_b12 nin0)
    have F14_b3_operator := F12_b3_operator.keep K14 (ninS ne_b3_b12 nin0)
    have E14_pt := E12_pt.keep K14
    have E14_pf := E12_pf.keep K14
    have E14_xt := E12_xt.keep K14
    have E14_xf := E12_xf.keep K14
    have E14_op := E12_op.keep K14
    have E14_b3 := E12_b3.keep K14
    have S14_TRUE_ate := own_staKeep S12_TRUE_ate K14 A12
    have S14_FALSE_ate := own_staKeep S12_FALSE_ate K14 A12
    have S14_TRUE_ion := own_staKeep S12_TRUE_ion K14 A12
    have S14_FALSE_ion := own_staKeep S12_FALSE_ion K14 A12
    have S14_COMPACT_STRINGS_ := own_staKeep S12_COMPACT_STRINGS_ K14 A12
    have Zn14 : n0 ≤ T14.heap.size := Nat.le_trans Zn12 K14.1
    obtain ⟨cq15, kq15, q15a, q15b, q15c⟩ := isOf hZ (rfl : T14.heap = _) E14_b3
    obtain ⟨_, _, ⟨T15, L15, kc15, nc15⟩, -, X15, ⟨Lc15, hQ15, ql15, qy15, qz15⟩, st15⟩ := X14.virtualBack hx (y := (⟨"com/example/invarient/invarient/model/AtomicPredicate", "equals", "(Ljava/lang/Object;)Z"⟩ : MethodName)) (z := (⟨"com/example/invarient/invarient/model/AtomicPredicate", "equals", "(Ljava/lang/Object;)Z"⟩ : MethodName)) hown (mvT hZ (hw _ (List.mem_of_getElem? (i := 42) rfl))) (mvT hZ (hw _ (List.mem_of_getElem? (i := 43) rfl))) (notFace_of_selects (args := #[]) (mvT hZ (hw _ (List.mem_of_getElem? (i := 45) rfl)))) (mvT hZ (hw _ (List.mem_of_getElem? (i := 45) rfl))) (mvT hZ (hw _ (List.mem_of_getElem? (i := 44) rfl))) (by decide) (backOf (W := 0) (own_rme l Z a0 hw [] b3 b12 op pt T14.heap n0 Zn14 Ec14 F14_b3_operator Fc14_operator) hZ (hw _ (List.mem_of_getElem? (i := 46) rfl)) (hw _ (List.mem_of_getElem? (i := 2) rfl)) (by decide) (by decide)) q15a q15c (g := (mkF m 183 #[.val (.int a1), .val (.int b1), .val (.int c1), .val (.int t3), .val (.int t4), .val (.ref b3), .val (.int (c1 &&& (3 : Int32))), .val (.ref b12), .val (.int (0 : Int32))] [(.ref b12), (.ref b3)])) rfl (by rw [hml]; rfl) (Steps.refl _) (argsL := [(.ref b12)]) (rest := []) (lenOf own_pd7 rfl) rfl (by show 2 * 0 + _ ≤ _; exact Nat.le_of_eq rfl) (hb hby at_183) (fun _ _ => ⟨rfl, (rfl : T14.heap = _), (by decide : 6 + 0 ≤ _), (by decide : 80 + 0 ≤ _)⟩)
    dsimp only [Pt.U, Pt.locs, Pt.cells, Pt.slots] at X15 ql15 qy15 qz15 st15 hQ15
    subst ql15 qy15 qz15
    obtain ⟨rfl, Nq15, eq15⟩ := hQ15
    have N15 := Fr.app N14 Nq15
    obtain ⟨fs, hr, hrun, hended, hret⟩ := X15.leaveW hSi14 (by rw [eq15]; exact (Nat.le_refl _)) (v := some (.int (1 : Int32))) (fun h => by rw [Bd.returns] at h; cases h)
    have hret := own_wmono hret (by decide : _ ≤ room_1.cells) (by decide : _ ≤ room_1.slots)
    refine ⟨_, _, pre0 _ ?_, hrun, hended, _, _, rfl, ?_, hret⟩
    · show Steps p.tables e below (s₁.setTop (mkF m 0 #[.val (.int a1), .val (.int b1), .val (.int c1), .unset, .unset, .unset, .unset, .unset, .unset] [])) _
      refine st1 _ ?_
      show Steps p.tables e below (T1.setTop (mkF m 12 #[.val (.int a1), .val (.int b1), .val (.int c1), .val (.int t3), .unset, .unset, .unset, .unset, .unset] [])) _
      refine st2 _ ?_
      show Steps p.tables e below (T2.setTop (mkF m 25 #[.val (.int a1), .val (.int b1), .val (.int c1), .val (.int t3), .val (.int t4), .unset, .unset, .unset, .unset] [])) _
      refine st3 _ ?_
      show Steps p.tables e below (T3.setTop (mkF m 28 #[.val (.int a1), .val (.int b1), .val (.int c1), .val (.int t3), .val (.int t4), .unset, .unset, .unset, .unset] [(.ref b3)])) _
      refine XS.dup X3.here hx rfl (hb hby at_28) rfl rfl ?_
      show Steps p.tables e below (T3.setTop (mkF m 29 #[.val (.int a1), .val (.int b1), .val (.int c1), .val (.int t3), .val (.int t4), .unset, .unset, .unset, .unset] [(.ref b3), (.ref b3)])) _
      refine st4 _ ?_
      show Steps p.tables e below (T4.setTop (mkF m 42 #[.val (.int a1), .val (.int b1), .val (.int c1), .val (.int t3), .val (.int t4), .unset, .unset, .unset, .unset] [(.ref op), (.ref b3), (.ref b3)])) _
      refine st7.trans ?_
      show Steps p.tables e below (T7.setTop (mkF m 45 #[.val (.int a1), .val (.int b1), .val (.int c1), .val (.int t3), .val (.int t4), .unset, .unset, .unset, .unset] [(.ref b3)])) _
      refine XS.astore X7.here hx rfl (hb hby at_45) rfl rfl (l' := #[.val (.int a1), .val (.int b1), .val (.int c1), .val (.int t3), .val (.int t4), .val (.ref b3), .unset, .unset, .unset]) rfl ?_
      show Steps p.tables e below (T7.setTop (mkF m 47 #[.val (.int a1), .val (.int b1), .val (.int c1), .val (.int t3), .val (.int t4), .val (.ref b3), .unset, .unset, .unset] [])) _
      refine XS.iloadN X7.here hx rfl (hb hby at_47) rfl ?_
      show Steps p.tables e below (T7.setTop (mkF m 48 #[.val (.int a1), .val (.int b1), .val (.int c1), .val (.int t3), .val (.int t4), .val (.ref b3), .unset, .unset, .unset] [(.int c1)])) _
      refine XS.iconst X7.here hx rfl (hb hby at_48) ?_
      show Steps p.tables e below (T7.setTop (mkF m 49 #[.val (.int a1), .val (.int b1), .val (.int c1), .val (.int t3), .val (.int t4), .val (.ref b3), .unset, .unset, .unset] [(.int (3 : Int32)), (.int c1)])) _
      refine XS.iand X7.here hx rfl (hb hby at_49) rfl ?_
      show Steps p.tables e below (T7.setTop (mkF m 50 #[.val (.int a1), .val (.int b1), .val (.int c1), .val (.int t3), .val (.int t4), .val (.ref b3), .unset, .unset, .unset] [(.int (c1 &&& (3 : Int32)))])) _
      refine XS.istore X7.here hx rfl (hb hby at_50) rfl (l' := #[.val (.int a1), .val (.int b1), .val (.int c1), .val (.int t3), .val (.int t4), .val (.ref b3), .val (.int (c1 &&& (3 : Int32))), .unset, .unset]) rfl ?_
      show Steps p.tables e below (T7.setTop (mkF m 52 #[.val (.int a1), .val (.int b1), .val (.int c1), .val (.int t3), .val (.int t4), .val (.ref b3), .val (.int (c1 &&& (3 : Int32))), .unset, .unset] [])) _
      refine XS.iload X7.here hx rfl (hb hby at_52) rfl ?_
      show Steps p.tables e below (T7.setTop (mkF m 54 #[.val (.int a1), .val (.int b1), .val (.int c1), .val (.int t3), .val (.int t4), .val (.ref b3), .val (.int (c1 &&& (3 : Int32))), .unset, .unset] [(.int (c1 &&& (3 : Int32)))])) _
      refine XS.ifNo X7.here hx rfl (hb hby at_54) rfl ((if0 _ _).trans (teq (hk : (c1 &&& (3 : Int32)) = (0 : Int32))).2) ?_
      show Steps p.tables e below (T7.setTop (mkF m 57 #[.val (.int a1), .val (.int b1), .val (.int c1), .val (.int t3), .val (.int t4), .val (.ref b3), .val (.int (c1 &&& (3 : Int32))), .unset, .unset] [])) _
      refine st12 _ ?_
      show Steps p.tables e below (T12.setTop (mkF m 60 #[.val (.int a1), .val (.int b1), .val (.int c1), .val (.int t3), .val (.int t4), .val (.ref b3), .val (.int (c1 &&& (3 : Int32))), .unset, .unset] [(.ref b12)])) _
      refine XS.dup X12.here hx rfl (hb hby at_60) rfl rfl ?_
      show Steps p.tables e below (T12.setTop (mkF m 61 #[.val (.int a1), .val (.int b1), .val (.int c1), .val (.int t3), .val (.int t4), .val (.ref b3), .val (.int (c1 &&& (3 : Int32))), .unset, .unset] [(.ref b12), (.ref b12)])) _
      refine XS.iload X12.here hx rfl (hb hby at_61) rfl ?_
      show Steps p.tables e below (T12.setTop (mkF m 63 #[.val (.int a1), .val (.int b1), .val (.int c1), .val (.int t3), .val (.int t4), .val (.ref b3), .val (.int (c1 &&& (3 : Int32))), .unset, .unset] [(.int t4), (.ref b12), (.ref b12)])) _
      refine XS.ifNo X12.here hx rfl (hb hby at_63) rfl ((if0 _ _).trans (feq (by rw [h4]; decide : ¬ (t4 = (0 : Int32)))).1) ?_
      show Steps p.tables e below (T12.setTop (mkF m 66 #[.val (.int a1), .val (.int b1), .val (.int c1), .val (.int t3), .val (.int t4), .val (.ref b3), .val (.int (c1 &&& (3 : Int32))), .unset, .unset] [(.ref b12), (.ref b12)])) _
      refine st13 _ ?_
      show Steps p.tables e below (T13.setTop (mkF m 69 #[.val (.int a1), .val (.int b1), .val (.int c1), .val (.int t3), .val (.int t4), .val (.ref b3), .val (.int (c1 &&& (3 : Int32))), .unset, .unset] [(.ref pt), (.ref b12), (.ref b12)])) _
      refine XS.goto X13.here hx rfl (pc0 := 69) (pc' := 75) rfl (hb hby at_69) (by decide) (by decide) ?_
      show Steps p.tables e below (T13.setTop (mkF m 75 #[.val (.int a1), .val (.int b1), .val (.int c1), .val (.int t3), .val (.int t4), .val (.ref b3), .val (.int (c1 &&& (3 : Int32))), .unset, .unset] [(.ref pt), (.ref b12), (.ref b12)])) _
      refine st14.trans ?_
      show Steps p.tables e below (T14.setTop (mkF m 78 #[.val (.int a1), .val (.int b1), .val (.int c1), .val (.int t3), .val (.int t4), .val (.ref b3), .val (.int (c1 &&& (3 : Int32))), .unset, .unset] [(.ref b12)])) _
      refine XS.astore X14.here hx rfl (hb hby at_78) rfl rfl (l' := #[.val (.int a1), .val (.int b1), .val (.int c1), .val (.int t3), .val (.int t4), .val (.ref b3), .val (.int (c1 &&& (3 : Int32))), .val (.ref b12), .unset]) rfl ?_
      show Steps p.tables e below (T14.setTop (mkF m 80 #[.val (.int a1), .val (.int b1), .val (.int c1), .val (.int t3), .val (.int t4), .val (.ref b3), .val (.int (c1 &&& (3 : Int32))), .val (.ref b12), .unset] [])) _
      refine XS.iloadN X14.here hx rfl (hb hby at_80) rfl ?_
      show Steps p.tables e below (T14.setTop (mkF m 81 #[.val (.int a1), .val (.int b1), .val (.int c1), .val (.int t3), .val (.int t4), .val (.ref b3), .val (.int (c1 &&& (3 : Int32))), .val (.ref b12), .unset] [(.int t3)])) _
      refine XS.iload X14.here hx rfl (hb hby at_81) rfl ?_
      show Steps p.tables e below (T14.setTop (mkF m 83 #[.val (.int a1), .val (.int b1), .val (.int c1), .val (.int t3), .val (.int t4), .val (.ref b3), .val (.int (c1 &&& (3 : Int32))), .val (.ref b12), .unset] [(.int t4), (.int t3)])) _
      refine XS.icmpYes X14.here hx rfl (pc0 := 83) (pc' := 90) rfl (hb hby at_83) rfl (feq (by rw [h3, h4]; decide : ¬ (t3 = t4))).2 (by decide) (by decide) ?_
      show Steps p.tables e below (T14.setTop (mkF m 90 #[.val (.int a1), .val (.int b1), .val (.int c1), .val (.int t3), .val (.int t4), .val (.ref b3), .val (.int (c1 &&& (3 : Int32))), .val (.ref b12), .unset] [])) _
      refine XS.iconst X14.here hx rfl (hb hby at_90) ?_
      show Steps p.tables e below (T14.setTop (mkF m 91 #[.val (.int a1), .val (.int b1), .val (.int c1), .val (.int t3), .val (.int t4), .val (.ref b3), .val (.int (c1 &&& (3 : Int32))), .val (.ref b12), .unset] [(.int (0 : Int32))])) _
      refine XS.istore X14.here hx rfl (hb hby at_91) rfl (l' := #[.val (.int a1), .val (.int b1), .val (.int c1), .val (.int t3), .val (.int t4), .val (.ref b3), .val (.int (c1 &&& (3 : Int32))), .val (.ref b12), .val (.int (0 : Int32))]) rfl ?_
      show Steps p.tables e below (T14.setTop (mkF m 93 #[.val (.int a1), .val (.int b1), .val (.int c1), .val (.int t3), .val (.int t4), .val (.ref b3), .val (.int (c1 &&& (3 : Int32))), .val (.ref b12), .val (.int (0 : Int32))] [])) _
      refine XS.goto X14.here hx rfl (pc0 := 93) (pc' := 179) rfl (hb hby at_93) (by decide) (by decide) ?_
      show Steps p.tables e below (T14.setTop (mkF m 179 #[.val (.int a1), .val (.int b1), .val (.int c1), .val (.int t3), .val (.int t4), .val (.ref b3), .val (.int (c1 &&& (3 : Int32))), .val (.ref b12), .val (.int (0 : Int32))] [])) _
      refine XS.aload X14.here hx rfl (hb hby at_179) rfl rfl ?_
      show Steps p.tables e below (T14.setTop (mkF m 181 #[.val (.int a1), .val (.int b1), .val (.int c1), .val (.int t3), .val (.int t4), .val (.ref b3), .val (.int (c1 &&& (3 : Int32))), .val (.ref b12), .val (.int (0 : Int32))] [(.ref b3)])) _
      refine XS.aload X14.here hx rfl (hb hby at_181) rfl rfl ?_
      show Steps p.tables e below (T14.setTop (mkF m 183 #[.val (.int a1), .val (.int b1), .val (.int c1), .val (.int t3), .val (.int t4), .val (.ref b3), .val (.int (c1 &&& (3 : Int32))), .val (.ref b12), .val (.int (0 : Int32))] [(.ref b12), (.ref b3)])) _
      refine st15.trans ?_
      show Steps p.tables e below (T15.setTop (mkF m 186 #[.val (.int a1), .val (.int b1), .val (.int c1), .val (.int t3), .val (.int t4), .val (.ref b3), .val (.int (c1 &&& (3 : Int32))), .val (.ref b12), .val (.int (0 : Int32))] [(.int (if pt = op then 1 else 0))])) _
      refine XS.iload X15.here hx rfl (hb hby at_186) rfl ?_
      show Steps p.tables e below (T15.setTop (mkF m 188 #[.val (.int a1), .val (.int b1), .val (.int c1), .val (.int t3), .val (.int t4), .val (.ref b3), .val (.int (c1 &&& (3 : Int32))), .val (.ref b12), .val (.int (0 : Int32))] [(.int (0 : Int32)), (.int (if pt = op then 1 else 0))])) _
      refine XS.icmpNo X15.here hx rfl (hb hby at_188) rfl (teq (if_neg (by rw [hp]; exact n1) : (if pt = op then 1 else 0) = (0 : Int32))).2 ?_
      show Steps p.tables e below (T15.setTop (mkF m 191 #[.val (.int a1), .val (.int b1), .val (.int c1), .val (.int t3), .val (.int t4), .val (.ref b3), .val (.int (c1 &&& (3 : Int32))), .val (.ref b12), .val (.int (0 : Int32))] [])) _
      refine XS.iconst X15.here hx rfl (hb hby at_191) ?_
      show Steps p.tables e below (T15.setTop (mkF m 192 #[.val (.int a1), .val (.int b1), .val (.int c1), .val (.int t3), .val (.int t4), .val (.ref b3), .val (.int (c1 &&& (3 : Int32))), .val (.ref b12), .val (.int (0 : Int32))] [(.int (1 : Int32))])) _
      refine XS.goto X15.here hx rfl (pc0 := 192) (pc' := 196) rfl (hb hby at_192) (by decide) (by decide) ?_
      show Steps p.tables e below (T15.setTop (mkF m 196 #[.val (.int a1), .val (.int b1), .val (.int c1), .val (.int t3), .val (.int t4), .val (.ref b3), .val (.int (c1 &&& (3 : Int32))), .val (.ref b12), .val (.int (0 : Int32))] [(.int (1 : Int32))])) _
      exact retN X15 hx (t := .boolean) Bd.returns (by simp) (hb hby at_196) hr
    · show own_QL n0 _ T15.heap _
      exact ⟨rfl, N15⟩
  · obtain ⟨T16, hp16, X16, e16, E16, A16, D16, -, st16⟩ := newO X7 hx hZ hown (hw _ (List.mem_of_getElem? (i := 0) rfl)) (hw _ (List.mem_of_getElem? (i := 1) rfl)) (hw _ (List.mem_of_getElem? (i := 2) rfl)) (rfl : T7.heap = _) (g := (mkF m 57 #[.val (.int a1), .val (.int b1), .val (.int c1), .val (.int t3), .val (.int t4), .val (.ref b3), .val (.int (c1 &&& (3 : Int32))), .unset, .unset] [])) rfl (hb hby at_57) (by decide) (by decide)
    obtain ⟨b16, g16⟩ : ∃ z, z = T7.heap.size := ⟨_, rfl⟩
    rw [← g16] at A16 D16 st16
    have ne_pt_b16 : pt ≠ b16 := Nat.ne_of_lt (by rw [g16]; exact E7_pt.lt)
    have ne_pf_b16 : pf ≠ b16 := Nat.ne_of_lt (by rw [g16]; exact E7_pf.lt)
    have ne_xt_b16 : xt ≠ b16 := Nat.ne_of_lt (by rw [g16]; exact E7_xt.lt)
    have ne_xf_b16 : xf ≠ b16 := Nat.ne_of_lt (by rw [g16]; exact E7_xf.lt)
    have ne_op_b16 : op ≠ b16 := Nat.ne_of_lt (by rw [g16]; exact E7_op.lt)
    have ne_b3_b16 : b3 ≠ b16 := Nat.ne_of_lt (by rw [g16]; exact Ec7.lt)
    have gn_b16 : n0 ≤ b16 := Nat.le_trans Zn7 (Nat.le_of_eq g16.symm)
    have F16_b3_height := Fc7_height.ext E16
    have F16_b3_priority := Fc7_priority.ext E16
    have F16_b3_operator := Fc7_operator.ext E16
    have E16_pt := E7_pt.ext E16
    have E16_pf := E7_pf.ext E16
    have E16_xt := E7_xt.ext E16
    have E16_xf := E7_xf.ext E16
    have E16_op := E7_op.ext E16
    have E16_b3 := Ec7.ext E16
    have S16_TRUE_ate := S7_TRUE_ate.ext E16
    have S16_FALSE_ate := S7_FALSE_ate.ext E16
    have S16_TRUE_ion := S7_TRUE_ion.ext E16
    have S16_FALSE_ion := S7_FALSE_ion.ext E16
    have S16_COMPACT_STRINGS_ := S7_COMPACT_STRINGS_.ext E16
    have Zn16 : n0 ≤ hp16.size := Nat.le_trans Zn7 E16.1
    have F16_height : Fld Z hp16 b16 "com/example/invarient/invarient/model/Formula" "height" "I" (.int (0 : Int32)) := D16 (Or.inr (hw _ (List.mem_of_getElem? (i := 23) rfl))) (ty := .int) (by decide)
    have F16_priority : Fld Z hp16 b16 "com/example/invarient/invarient/model/Predicate" "priority" "I" (.int (0 : Int32)) := D16 (Or.inr (hw _ (List.mem_of_getElem? (i := 25) rfl))) (ty := .int) (by decide)
    have F16_operator : Fld Z hp16 b16 "com/example/invarient/invarient/model/AtomicPredicate" "operator" "Lcom/example/invarient/invarient/model/AtomicPredicate$Operator;" .null := D16 (Or.inr (hw _ (List.mem_of_getElem? (i := 41) rfl))) (ty := (.object "com/example/invarient/invarient/model/AtomicPredicate$Operator")) (by decide)
    obtain ⟨T17, X17, e17, st17⟩ := getS2 X16 hx hZ hown (host := "") (Or.inl (hw _ (List.mem_of_getElem? (i := 3) rfl))) Via.refl e16 S16_FALSE_ate (g := (mkF m 72 #[.val (.int a1), .val (.int b1), .val (.int c1), .val (.int t3), .val (.int t4), .val (.ref b3), .val (.int (c1 &&& (3 : Int32))), .unset, .unset] [(.ref b16), (.ref b16)])) rfl (hb hby at_72)
    obtain ⟨_, _, ⟨T18, L18, kc18, nc18⟩, -, X18, hS18, hgr18, ⟨Lc18, hQ18, ql18, qy18, qz18⟩, st18⟩ := X17.specialBackS hx (y := (⟨"com/example/invarient/invarient/model/AtomicPredicate", "<init>", "(Lcom/example/invarient/invarient/model/AtomicPredicate$Operator;)V"⟩ : MethodName)) rfl hown (mvT hZ (hw _ (List.mem_of_getElem? (i := 6) rfl))) (mvT hZ (hw _ (List.mem_of_getElem? (i := 7) rfl))) (mvT hZ (hw _ (List.mem_of_getElem? (i := 8) rfl))) (by decide) (backOfS (W := 1) (own_rcP l Z a0 hw [] b16 pf (.int 0) (.int 0) .null hp16 n0 Zn16 A16 gn_b16 F16_height F16_priority F16_operator E16_pf) hZ (hw _ (List.mem_of_getElem? (i := 8) rfl)) (hw _ (List.mem_of_getElem? (i := 2) rfl)) (by decide) (by decide)) (g := (mkF m 75 #[.val (.int a1), .val (.int b1), .val (.int c1), .val (.int t3), .val (.int t4), .val (.ref b3), .val (.int (c1 &&& (3 : Int32))), .unset, .unset] [(.ref pf), (.ref b16), (.ref b16)])) rfl (by rw [hml]; rfl) (Steps.refl _) (a := b16) (argsL := [(.ref pf)]) (rest := [(.ref b16)]) (lenOf own_pd6 rfl) rfl (by show 2 * 0 + _ ≤ _; exact Nat.le_of_eq rfl) (hb hby at_75) (fun _ _ => ⟨rfl, e17, (by decide : 4 + 2 ≤ _), (by decide : 44 + 36 ≤ _)⟩)
    dsimp only [Pt.U, Pt.locs, Pt.cells, Pt.slots] at X18 ql18 qy18 qz18 st18 hQ18 hS18 hgr18
    subst ql18 qy18 qz18
    obtain ⟨rfl, Nq18, K18, Ec18, Fc18_height, Fc18_priority, Fc18_operator⟩ := hQ18
    have N18 := Fr.app N7 Nq18
    have hZ : Z.Warmed39 (s.setVm T18.vm).vm := State.Warmed39.trans (t := s.setVm T7.vm) hZ hS18.1
    have hown : (s.setVm T18.vm).vm.findClass "com/example/invarient/invarient/model/AtomicPredicateEqualsPinLaw" = some m.cls := by rw [show (s.setVm T18.vm).vm = T18.vm from rfl, hS18.1.alike.findClass]; exact hown
    have hSi18 : s.Since T18.vm T18.heap.size := hSi7.trans hS18 (Nat.le_trans (by rw [e17]; exact (Nat.le_trans (Nat.le_refl _) E16.1)) hgr18)
    have X18 : Stand p l e room_1 (s.setVm T18.vm) m #[(.int a1), (.int b1), (.int c1)] below meth c T18 _ _ _ := X18
    have F18_b3_height := F16_b3_height.keep K18 (ninS ne_b3_b16 nin0)
    have F18_b3_priority := F16_b3_priority.keep K18 (ninS ne_b3_b16 nin0)
    have F18_b3_operator := F16_b3_operator.keep K18 (ninS ne_b3_b16 nin0)
    have E18_pt := E16_pt.keep K18
    have E18_pf := E16_pf.keep K18
    have E18_xt := E16_xt.keep K18
    have E18_xf := E16_xf.keep K18
    have E18_op := E16_op.keep K18
    have E18_b3 := E16_b3.keep K18
    have S18_TRUE_ate := own_staKeep S16_TRUE_ate K18 A16
    have S18_FALSE_ate := own_staKeep S16_FALSE_ate K18 A16
    have S18_TRUE_ion := own_staKeep S16_TRUE_ion K18 A16
    have S18_FALSE_ion := own_staKeep S16_FALSE_ion K18 A16
    have S18_COMPACT_STRINGS_ := own_staKeep S16_COMPACT_STRINGS_ K18 A16
    have Zn18 : n0 ≤ T18.heap.size := Nat.le_trans Zn16 K18.1
    obtain ⟨cq19, kq19, q19a, q19b, q19c⟩ := isOf hZ (rfl : T18.heap = _) E18_b3
    obtain ⟨_, _, ⟨T19, L19, kc19, nc19⟩, -, X19, ⟨Lc19, hQ19, ql19, qy19, qz19⟩, st19⟩ := X18.virtualBack hx (y := (⟨"com/example/invarient/invarient/model/AtomicPredicate", "equals", "(Ljava/lang/Object;)Z"⟩ : MethodName)) (z := (⟨"com/example/invarient/invarient/model/AtomicPredicate", "equals", "(Ljava/lang/Object;)Z"⟩ : MethodName)) hown (mvT hZ (hw _ (List.mem_of_getElem? (i := 42) rfl))) (mvT hZ (hw _ (List.mem_of_getElem? (i := 43) rfl))) (notFace_of_selects (args := #[]) (mvT hZ (hw _ (List.mem_of_getElem? (i := 45) rfl)))) (mvT hZ (hw _ (List.mem_of_getElem? (i := 45) rfl))) (mvT hZ (hw _ (List.mem_of_getElem? (i := 44) rfl))) (by decide) (backOf (W := 0) (own_rme l Z a0 hw [] b3 b16 op pf T18.heap n0 Zn18 Ec18 F18_b3_operator Fc18_operator) hZ (hw _ (List.mem_of_getElem? (i := 46) rfl)) (hw _ (List.mem_of_getElem? (i := 2) rfl)) (by decide) (by decide)) q19a q19c (g := (mkF m 183 #[.val (.int a1), .val (.int b1), .val (.int c1), .val (.int t3), .val (.int t4), .val (.ref b3), .val (.int (c1 &&& (3 : Int32))), .val (.ref b16), .val (.int (1 : Int32))] [(.ref b16), (.ref b3)])) rfl (by rw [hml]; rfl) (Steps.refl _) (argsL := [(.ref b16)]) (rest := []) (lenOf own_pd7 rfl) rfl (by show 2 * 0 + _ ≤ _; exact Nat.le_of_eq rfl) (hb hby at_183) (fun _ _ => ⟨rfl, (rfl : T18.heap = _), (by decide : 6 + 0 ≤ _), (by decide : 80 + 0 ≤ _)⟩)
    dsimp only [Pt.U, Pt.locs, Pt.cells, Pt.slots] at X19 ql19 qy19 qz19 st19 hQ19
    subst ql19 qy19 qz19
    obtain ⟨rfl, Nq19, eq19⟩ := hQ19
    have N19 := Fr.app N18 Nq19
    obtain ⟨fs, hr, hrun, hended, hret⟩ := X19.leaveW hSi18 (by rw [eq19]; exact (Nat.le_refl _)) (v := some (.int (1 : Int32))) (fun h => by rw [Bd.returns] at h; cases h)
    have hret := own_wmono hret (by decide : _ ≤ room_1.cells) (by decide : _ ≤ room_1.slots)
    refine ⟨_, _, pre0 _ ?_, hrun, hended, _, _, rfl, ?_, hret⟩
    · show Steps p.tables e below (s₁.setTop (mkF m 0 #[.val (.int a1), .val (.int b1), .val (.int c1), .unset, .unset, .unset, .unset, .unset, .unset] [])) _
      refine st1 _ ?_
      show Steps p.tables e below (T1.setTop (mkF m 12 #[.val (.int a1), .val (.int b1), .val (.int c1), .val (.int t3), .unset, .unset, .unset, .unset, .unset] [])) _
      refine st2 _ ?_
      show Steps p.tables e below (T2.setTop (mkF m 25 #[.val (.int a1), .val (.int b1), .val (.int c1), .val (.int t3), .val (.int t4), .unset, .unset, .unset, .unset] [])) _
      refine st3 _ ?_
      show Steps p.tables e below (T3.setTop (mkF m 28 #[.val (.int a1), .val (.int b1), .val (.int c1), .val (.int t3), .val (.int t4), .unset, .unset, .unset, .unset] [(.ref b3)])) _
      refine XS.dup X3.here hx rfl (hb hby at_28) rfl rfl ?_
      show Steps p.tables e below (T3.setTop (mkF m 29 #[.val (.int a1), .val (.int b1), .val (.int c1), .val (.int t3), .val (.int t4), .unset, .unset, .unset, .unset] [(.ref b3), (.ref b3)])) _
      refine st4 _ ?_
      show Steps p.tables e below (T4.setTop (mkF m 42 #[.val (.int a1), .val (.int b1), .val (.int c1), .val (.int t3), .val (.int t4), .unset, .unset, .unset, .unset] [(.ref op), (.ref b3), (.ref b3)])) _
      refine st7.trans ?_
      show Steps p.tables e below (T7.setTop (mkF m 45 #[.val (.int a1), .val (.int b1), .val (.int c1), .val (.int t3), .val (.int t4), .unset, .unset, .unset, .unset] [(.ref b3)])) _
      refine XS.astore X7.here hx rfl (hb hby at_45) rfl rfl (l' := #[.val (.int a1), .val (.int b1), .val (.int c1), .val (.int t3), .val (.int t4), .val (.ref b3), .unset, .unset, .unset]) rfl ?_
      show Steps p.tables e below (T7.setTop (mkF m 47 #[.val (.int a1), .val (.int b1), .val (.int c1), .val (.int t3), .val (.int t4), .val (.ref b3), .unset, .unset, .unset] [])) _
      refine XS.iloadN X7.here hx rfl (hb hby at_47) rfl ?_
      show Steps p.tables e below (T7.setTop (mkF m 48 #[.val (.int a1), .val (.int b1), .val (.int c1), .val (.int t3), .val (.int t4), .val (.ref b3), .unset, .unset, .unset] [(.int c1)])) _
      refine XS.iconst X7.here hx rfl (hb hby at_48) ?_
      show Steps p.tables e below (T7.setTop (mkF m 49 #[.val (.int a1), .val (.int b1), .val (.int c1), .val (.int t3), .val (.int t4), .val (.ref b3), .unset, .unset, .unset] [(.int (3 : Int32)), (.int c1)])) _
      refine XS.iand X7.here hx rfl (hb hby at_49) rfl ?_
      show Steps p.tables e below (T7.setTop (mkF m 50 #[.val (.int a1), .val (.int b1), .val (.int c1), .val (.int t3), .val (.int t4), .val (.ref b3), .unset, .unset, .unset] [(.int (c1 &&& (3 : Int32)))])) _
      refine XS.istore X7.here hx rfl (hb hby at_50) rfl (l' := #[.val (.int a1), .val (.int b1), .val (.int c1), .val (.int t3), .val (.int t4), .val (.ref b3), .val (.int (c1 &&& (3 : Int32))), .unset, .unset]) rfl ?_
      show Steps p.tables e below (T7.setTop (mkF m 52 #[.val (.int a1), .val (.int b1), .val (.int c1), .val (.int t3), .val (.int t4), .val (.ref b3), .val (.int (c1 &&& (3 : Int32))), .unset, .unset] [])) _
      refine XS.iload X7.here hx rfl (hb hby at_52) rfl ?_
      show Steps p.tables e below (T7.setTop (mkF m 54 #[.val (.int a1), .val (.int b1), .val (.int c1), .val (.int t3), .val (.int t4), .val (.ref b3), .val (.int (c1 &&& (3 : Int32))), .unset, .unset] [(.int (c1 &&& (3 : Int32)))])) _
      refine XS.ifNo X7.here hx rfl (hb hby at_54) rfl ((if0 _ _).trans (teq (hk : (c1 &&& (3 : Int32)) = (0 : Int32))).2) ?_
      show Steps p.tables e below (T7.setTop (mkF m 57 #[.val (.int a1), .val (.int b1), .val (.int c1), .val (.int t3), .val (.int t4), .val (.ref b3), .val (.int (c1 &&& (3 : Int32))), .unset, .unset] [])) _
      refine st16 _ ?_
      show Steps p.tables e below (T16.setTop (mkF m 60 #[.val (.int a1), .val (.int b1), .val (.int c1), .val (.int t3), .val (.int t4), .val (.ref b3), .val (.int (c1 &&& (3 : Int32))), .unset, .unset] [(.ref b16)])) _
      refine XS.dup X16.here hx rfl (hb hby at_60) rfl rfl ?_
      show Steps p.tables e below (T16.setTop (mkF m 61 #[.val (.int a1), .val (.int b1), .val (.int c1), .val (.int t3), .val (.int t4), .val (.ref b3), .val (.int (c1 &&& (3 : Int32))), .unset, .unset] [(.ref b16), (.ref b16)])) _
      refine XS.iload X16.here hx rfl (hb hby at_61) rfl ?_
      show Steps p.tables e below (T16.setTop (mkF m 63 #[.val (.int a1), .val (.int b1), .val (.int c1), .val (.int t3), .val (.int t4), .val (.ref b3), .val (.int (c1 &&& (3 : Int32))), .unset, .unset] [(.int t4), (.ref b16), (.ref b16)])) _
      refine XS.ifYes X16.here hx rfl (pc0 := 63) (pc' := 72) rfl (hb hby at_63) rfl ((if0 _ _).trans (teq (h4 : t4 = (0 : Int32))).1) (by decide) (by decide) ?_
      show Steps p.tables e below (T16.setTop (mkF m 72 #[.val (.int a1), .val (.int b1), .val (.int c1), .val (.int t3), .val (.int t4), .val (.ref b3), .val (.int (c1 &&& (3 : Int32))), .unset, .unset] [(.ref b16), (.ref b16)])) _
      refine st17 _ ?_
      show Steps p.tables e below (T17.setTop (mkF m 75 #[.val (.int a1), .val (.int b1), .val (.int c1), .val (.int t3), .val (.int t4), .val (.ref b3), .val (.int (c1 &&& (3 : Int32))), .unset, .unset] [(.ref pf), (.ref b16), (.ref b16)])) _
      refine st18.trans ?_
      show Steps p.tables e below (T18.setTop (mkF m 78 #[.val (.int a1), .val (.int b1), .val (.int c1), .val (.int t3), .val (.int t4), .val (.ref b3), .val (.int (c1 &&& (3 : Int32))), .unset, .unset] [(.ref b16)])) _
      refine XS.astore X18.here hx rfl (hb hby at_78) rfl rfl (l' := #[.val (.int a1), .val (.int b1), .val (.int c1), .val (.int t3), .val (.int t4), .val (.ref b3), .val (.int (c1 &&& (3 : Int32))), .val (.ref b16), .unset]) rfl ?_
      show Steps p.tables e below (T18.setTop (mkF m 80 #[.val (.int a1), .val (.int b1), .val (.int c1), .val (.int t3), .val (.int t4), .val (.ref b3), .val (.int (c1 &&& (3 : Int32))), .val (.ref b16), .unset] [])) _
      refine XS.iloadN X18.here hx rfl (hb hby at_80) rfl ?_
      show Steps p.tables e below (T18.setTop (mkF m 81 #[.val (.int a1), .val (.int b1), .val (.int c1), .val (.int t3), .val (.int t4), .val (.ref b3), .val (.int (c1 &&& (3 : Int32))), .val (.ref b16), .unset] [(.int t3)])) _
      refine XS.iload X18.here hx rfl (hb hby at_81) rfl ?_
      show Steps p.tables e below (T18.setTop (mkF m 83 #[.val (.int a1), .val (.int b1), .val (.int c1), .val (.int t3), .val (.int t4), .val (.ref b3), .val (.int (c1 &&& (3 : Int32))), .val (.ref b16), .unset] [(.int t4), (.int t3)])) _
      refine XS.icmpNo X18.here hx rfl (hb hby at_83) rfl (teq (by rw [h3, h4] : t3 = t4)).2 ?_
      show Steps p.tables e below (T18.setTop (mkF m 86 #[.val (.int a1), .val (.int b1), .val (.int c1), .val (.int t3), .val (.int t4), .val (.ref b3), .val (.int (c1 &&& (3 : Int32))), .val (.ref b16), .unset] [])) _
      refine XS.iconst X18.here hx rfl (hb hby at_86) ?_
      show Steps p.tables e below (T18.setTop (mkF m 87 #[.val (.int a1), .val (.int b1), .val (.int c1), .val (.int t3), .val (.int t4), .val (.ref b3), .val (.int (c1 &&& (3 : Int32))), .val (.ref b16), .unset] [(.int (1 : Int32))])) _
      refine XS.goto X18.here hx rfl (pc0 := 87) (pc' := 91) rfl (hb hby at_87) (by decide) (by decide) ?_
      show Steps p.tables e below (T18.setTop (mkF m 91 #[.val (.int a1), .val (.int b1), .val (.int c1), .val (.int t3), .val (.int t4), .val (.ref b3), .val (.int (c1 &&& (3 : Int32))), .val (.ref b16), .unset] [(.int (1 : Int32))])) _
      refine XS.istore X18.here hx rfl (hb hby at_91) rfl (l' := #[.val (.int a1), .val (.int b1), .val (.int c1), .val (.int t3), .val (.int t4), .val (.ref b3), .val (.int (c1 &&& (3 : Int32))), .val (.ref b16), .val (.int (1 : Int32))]) rfl ?_
      show Steps p.tables e below (T18.setTop (mkF m 93 #[.val (.int a1), .val (.int b1), .val (.int c1), .val (.int t3), .val (.int t4), .val (.ref b3), .val (.int (c1 &&& (3 : Int32))), .val (.ref b16), .val (.int (1 : Int32))] [])) _
      refine XS.goto X18.here hx rfl (pc0 := 93) (pc' := 179) rfl (hb hby at_93) (by decide) (by decide) ?_
      show Steps p.tables e below (T18.setTop (mkF m 179 #[.val (.int a1), .val (.int b1), .val (.int c1), .val (.int t3), .val (.int t4), .val (.ref b3), .val (.int (c1 &&& (3 : Int32))), .val (.ref b16), .val (.int (1 : Int32))] [])) _
      refine XS.aload X18.here hx rfl (hb hby at_179) rfl rfl ?_
      show Steps p.tables e below (T18.setTop (mkF m 181 #[.val (.int a1), .val (.int b1), .val (.int c1), .val (.int t3), .val (.int t4), .val (.ref b3), .val (.int (c1 &&& (3 : Int32))), .val (.ref b16), .val (.int (1 : Int32))] [(.ref b3)])) _
      refine XS.aload X18.here hx rfl (hb hby at_181) rfl rfl ?_
      show Steps p.tables e below (T18.setTop (mkF m 183 #[.val (.int a1), .val (.int b1), .val (.int c1), .val (.int t3), .val (.int t4), .val (.ref b3), .val (.int (c1 &&& (3 : Int32))), .val (.ref b16), .val (.int (1 : Int32))] [(.ref b16), (.ref b3)])) _
      refine st19.trans ?_
      show Steps p.tables e below (T19.setTop (mkF m 186 #[.val (.int a1), .val (.int b1), .val (.int c1), .val (.int t3), .val (.int t4), .val (.ref b3), .val (.int (c1 &&& (3 : Int32))), .val (.ref b16), .val (.int (1 : Int32))] [(.int (if pf = op then 1 else 0))])) _
      refine XS.iload X19.here hx rfl (hb hby at_186) rfl ?_
      show Steps p.tables e below (T19.setTop (mkF m 188 #[.val (.int a1), .val (.int b1), .val (.int c1), .val (.int t3), .val (.int t4), .val (.ref b3), .val (.int (c1 &&& (3 : Int32))), .val (.ref b16), .val (.int (1 : Int32))] [(.int (1 : Int32)), (.int (if pf = op then 1 else 0))])) _
      refine XS.icmpNo X19.here hx rfl (hb hby at_188) rfl (teq (if_pos hp.symm : (if pf = op then 1 else 0) = (1 : Int32))).2 ?_
      show Steps p.tables e below (T19.setTop (mkF m 191 #[.val (.int a1), .val (.int b1), .val (.int c1), .val (.int t3), .val (.int t4), .val (.ref b3), .val (.int (c1 &&& (3 : Int32))), .val (.ref b16), .val (.int (1 : Int32))] [])) _
      refine XS.iconst X19.here hx rfl (hb hby at_191) ?_
      show Steps p.tables e below (T19.setTop (mkF m 192 #[.val (.int a1), .val (.int b1), .val (.int c1), .val (.int t3), .val (.int t4), .val (.ref b3), .val (.int (c1 &&& (3 : Int32))), .val (.ref b16), .val (.int (1 : Int32))] [(.int (1 : Int32))])) _
      refine XS.goto X19.here hx rfl (pc0 := 192) (pc' := 196) rfl (hb hby at_192) (by decide) (by decide) ?_
      show Steps p.tables e below (T19.setTop (mkF m 196 #[.val (.int a1), .val (.int b1), .val (.int c1), .val (.int t3), .val (.int t4), .val (.ref b3), .val (.int (c1 &&& (3 : Int32))), .val (.ref b16), .val (.int (1 : Int32))] [(.int (1 : Int32))])) _
      exact retN X19 hx (t := .boolean) Bd.returns (by simp) (hb hby at_196) hr
    · show own_QL n0 _ T19.heap _
      exact ⟨rfl, N19⟩
  · obtain ⟨T20, hp20, X20, e20, E20, A20, D20, -, st20⟩ := newO X7 hx hZ hown (hw _ (List.mem_of_getElem? (i := 0) rfl)) (hw _ (List.mem_of_getElem? (i := 1) rfl)) (hw _ (List.mem_of_getElem? (i := 2) rfl)) (rfl : T7.heap = _) (g := (mkF m 57 #[.val (.int a1), .val (.int b1), .val (.int c1), .val (.int t3), .val (.int t4), .val (.ref b3), .val (.int (c1 &&& (3 : Int32))), .unset, .unset] [])) rfl (hb hby at_57) (by decide) (by decide)
    obtain ⟨b20, g20⟩ : ∃ z, z = T7.heap.size := ⟨_, rfl⟩
    rw [← g20] at A20 D20 st20
    have ne_pt_b20 : pt ≠ b20 := Nat.ne_of_lt (by rw [g20]; exact E7_pt.lt)
    have ne_pf_b20 : pf ≠ b20 := Nat.ne_of_lt (by rw [g20]; exact E7_pf.lt)
    have ne_xt_b20 : xt ≠ b20 := Nat.ne_of_lt (by rw [g20]; exact E7_xt.lt)
    have ne_xf_b20 : xf ≠ b20 := Nat.ne_of_lt (by rw [g20]; exact E7_xf.lt)
    have ne_op_b20 : op ≠ b20 := Nat.ne_of_lt (by rw [g20]; exact E7_op.lt)
    have ne_b3_b20 : b3 ≠ b20 := Nat.ne_of_lt (by rw [g20]; exact Ec7.lt)
    have gn_b20 : n0 ≤ b20 := Nat.le_trans Zn7 (Nat.le_of_eq g20.symm)
    have F20_b3_height := Fc7_height.ext E20
    have F20_b3_priority := Fc7_priority.ext E20
    have F20_b3_operator := Fc7_operator.ext E20
    have E20_pt := E7_pt.ext E20
    have E20_pf := E7_pf.ext E20
    have E20_xt := E7_xt.ext E20
    have E20_xf := E7_xf.ext E20
    have E20_op := E7_op.ext E20
    have E20_b3 := Ec7.ext E20
    have S20_TRUE_ate := S7_TRUE_ate.ext E20
    have S20_FALSE_ate := S7_FALSE_ate.ext E20
    have S20_TRUE_ion := S7_TRUE_ion.ext E20
    have S20_FALSE_ion := S7_FALSE_ion.ext E20
    have S20_COMPACT_STRINGS_ := S7_COMPACT_STRINGS_.ext E20
    have Zn20 : n0 ≤ hp20.size := Nat.le_trans Zn7 E20.1
    have F20_height : Fld Z hp20 b20 "com/example/invarient/invarient/model/Formula" "height" "I" (.int (0 : Int32)) := D20 (Or.inr (hw _ (List.mem_of_getElem? (i := 23) rfl))) (ty := .int) (by decide)
    have F20_priority : Fld Z hp20 b20 "com/example/invarient/invarient/model/Predicate" "priority" "I" (.int (0 : Int32)) := D20 (Or.inr (hw _ (List.mem_of_getElem? (i := 25) rfl))) (ty := .int) (by decide)
    have F20_operator : Fld Z hp20 b20 "com/example/invarient/invarient/model/AtomicPredicate" "operator" "Lcom/example/invarient/invarient/model/AtomicPredicate$Operator;" .null := D20 (Or.inr (hw _ (List.mem_of_getElem? (i := 41) rfl))) (ty := (.object "com/example/invarient/invarient/model/AtomicPredicate$Operator")) (by decide)
    obtain ⟨T21, X21, e21, st21⟩ := getS2 X20 hx hZ hown (host := "") (Or.inl (hw _ (List.mem_of_getElem? (i := 3) rfl))) Via.refl e20 S20_FALSE_ate (g := (mkF m 72 #[.val (.int a1), .val (.int b1), .val (.int c1), .val (.int t3), .val (.int t4), .val (.ref b3), .val (.int (c1 &&& (3 : Int32))), .unset, .unset] [(.ref b20), (.ref b20)])) rfl (hb hby at_72)
    obtain ⟨_, _, ⟨T22, L22, kc22, nc22⟩, -, X22, hS22, hgr22, ⟨Lc22, hQ22, ql22, qy22, qz22⟩, st22⟩ := X21.specialBackS hx (y := (⟨"com/example/invarient/invarient/model/AtomicPredicate", "<init>", "(Lcom/example/invarient/invarient/model/AtomicPredicate$Operator;)V"⟩ : MethodName)) rfl hown (mvT hZ (hw _ (List.mem_of_getElem? (i := 6) rfl))) (mvT hZ (hw _ (List.mem_of_getElem? (i := 7) rfl))) (mvT hZ (hw _ (List.mem_of_getElem? (i := 8) rfl))) (by decide) (backOfS (W := 1) (own_rcP l Z a0 hw [] b20 pf (.int 0) (.int 0) .null hp20 n0 Zn20 A20 gn_b20 F20_height F20_priority F20_operator E20_pf) hZ (hw _ (List.mem_of_getElem? (i := 8) rfl)) (hw _ (List.mem_of_getElem? (i := 2) rfl)) (by decide) (by decide)) (g := (mkF m 75 #[.val (.int a1), .val (.int b1), .val (.int c1), .val (.int t3), .val (.int t4), .val (.ref b3), .val (.int (c1 &&& (3 : Int32))), .unset, .unset] [(.ref pf), (.ref b20), (.ref b20)])) rfl (by rw [hml]; rfl) (Steps.refl _) (a := b20) (argsL := [(.ref pf)]) (rest := [(.ref b20)]) (lenOf own_pd6 rfl) rfl (by show 2 * 0 + _ ≤ _; exact Nat.le_of_eq rfl) (hb hby at_75) (fun _ _ => ⟨rfl, e21, (by decide : 4 + 2 ≤ _), (by decide : 44 + 36 ≤ _)⟩)
    dsimp only [Pt.U, Pt.locs, Pt.cells, Pt.slots] at X22 ql22 qy22 qz22 st22 hQ22 hS22 hgr22
    subst ql22 qy22 qz22
    obtain ⟨rfl, Nq22, K22, Ec22, Fc22_height, Fc22_priority, Fc22_operator⟩ := hQ22
    have N22 := Fr.app N7 Nq22
    have hZ : Z.Warmed39 (s.setVm T22.vm).vm := State.Warmed39.trans (t := s.setVm T7.vm) hZ hS22.1
    have hown : (s.setVm T22.vm).vm.findClass "com/example/invarient/invarient/model/AtomicPredicateEqualsPinLaw" = some m.cls := by rw [show (s.setVm T22.vm).vm = T22.vm from rfl, hS22.1.alike.findClass]; exact hown
    have hSi22 : s.Since T22.vm T22.heap.size := hSi7.trans hS22 (Nat.le_trans (by rw [e21]; exact (Nat.le_trans (Nat.le_refl _) E20.1)) hgr22)
    have X22 : Stand p l e room_1 (s.setVm T22.vm) m #[(.int a1), (.int b1), (.int c1)] below meth c T22 _ _ _ := X22
    have F22_b3_height := F20_b3_height.keep K22 (ninS ne_b3_b20 nin0)
    have F22_b3_priority := F20_b3_priority.keep K22 (ninS ne_b3_b20 nin0)
    have F22_b3_operator := F20_b3_operator.keep K22 (ninS ne_b3_b20 nin0)
    have E22_pt := E20_pt.keep K22
    have E22_pf := E20_pf.keep K22
    have E22_xt := E20_xt.keep K22
    have E22_xf := E20_xf.keep K22
    have E22_op := E20_op.keep K22
    have E22_b3 := E20_b3.keep K22
    have S22_TRUE_ate := own_staKeep S20_TRUE_ate K22 A20
    have S22_FALSE_ate := own_staKeep S20_FALSE_ate K22 A20
    have S22_TRUE_ion := own_staKeep S20_TRUE_ion K22 A20
    have S22_FALSE_ion := own_staKeep S20_FALSE_ion K22 A20
    have S22_COMPACT_STRINGS_ := own_staKeep S20_COMPACT_STRINGS_ K22 A20
    have Zn22 : n0 ≤ T22.heap.size := Nat.le_trans Zn20 K22.1
    obtain ⟨cq23, kq23, q23a, q23b, q23c⟩ := isOf hZ (rfl : T22.heap = _) E22_b3
    obtain ⟨_, _, ⟨T23, L23, kc23, nc23⟩, -, X23, ⟨Lc23, hQ23, ql23, qy23, qz23⟩, st23⟩ := X22.virtualBack hx (y := (⟨"com/example/invarient/invarient/model/AtomicPredicate", "equals", "(Ljava/lang/Object;)Z"⟩ : MethodName)) (z := (⟨"com/example/invarient/invarient/model/AtomicPredicate", "equals", "(Ljava/lang/Object;)Z"⟩ : MethodName)) hown (mvT hZ (hw _ (List.mem_of_getElem? (i := 42) rfl))) (mvT hZ (hw _ (List.mem_of_getElem? (i := 43) rfl))) (notFace_of_selects (args := #[]) (mvT hZ (hw _ (List.mem_of_getElem? (i := 45) rfl)))) (mvT hZ (hw _ (List.mem_of_getElem? (i := 45) rfl))) (mvT hZ (hw _ (List.mem_of_getElem? (i := 44) rfl))) (by decide) (backOf (W := 0) (own_rme l Z a0 hw [] b3 b20 op pf T22.heap n0 Zn22 Ec22 F22_b3_operator Fc22_operator) hZ (hw _ (List.mem_of_getElem? (i := 46) rfl)) (hw _ (List.mem_of_getElem? (i := 2) rfl)) (by decide) (by decide)) q23a q23c (g := (mkF m 183 #[.val (.int a1), .val (.int b1), .val (.int c1), .val (.int t3), .val (.int t4), .val (.ref b3), .val (.int (c1 &&& (3 : Int32))), .val (.ref b20), .val (.int (0 : Int32))] [(.ref b20), (.ref b3)])) rfl (by rw [hml]; rfl) (Steps.refl _) (argsL := [(.ref b20)]) (rest := []) (lenOf own_pd7 rfl) rfl (by show 2 * 0 + _ ≤ _; exact Nat.le_of_eq rfl) (hb hby at_183) (fun _ _ => ⟨rfl, (rfl : T22.heap = _), (by decide : 6 + 0 ≤ _), (by decide : 80 + 0 ≤ _)⟩)
    dsimp only [Pt.U, Pt.locs, Pt.cells, Pt.slots] at X23 ql23 qy23 qz23 st23 hQ23
    subst ql23 qy23 qz23
    obtain ⟨rfl, Nq23, eq23⟩ := hQ23
    have N23 := Fr.app N22 Nq23
    obtain ⟨fs, hr, hrun, hended, hret⟩ := X23.leaveW hSi22 (by rw [eq23]; exact (Nat.le_refl _)) (v := some (.int (1 : Int32))) (fun h => by rw [Bd.returns] at h; cases h)
    have hret := own_wmono hret (by decide : _ ≤ room_1.cells) (by decide : _ ≤ room_1.slots)
    refine ⟨_, _, pre0 _ ?_, hrun, hended, _, _, rfl, ?_, hret⟩
    · show Steps p.tables e below (s₁.setTop (mkF m 0 #[.val (.int a1), .val (.int b1), .val (.int c1), .unset, .unset, .unset, .unset, .unset, .unset] [])) _
      refine st1 _ ?_
      show Steps p.tables e below (T1.setTop (mkF m 12 #[.val (.int a1), .val (.int b1), .val (.int c1), .val (.int t3), .unset, .unset, .unset, .unset, .unset] [])) _
      refine st2 _ ?_
      show Steps p.tables e below (T2.setTop (mkF m 25 #[.val (.int a1), .val (.int b1), .val (.int c1), .val (.int t3), .val (.int t4), .unset, .unset, .unset, .unset] [])) _
      refine st3 _ ?_
      show Steps p.tables e below (T3.setTop (mkF m 28 #[.val (.int a1), .val (.int b1), .val (.int c1), .val (.int t3), .val (.int t4), .unset, .unset, .unset, .unset] [(.ref b3)])) _
      refine XS.dup X3.here hx rfl (hb hby at_28) rfl rfl ?_
      show Steps p.tables e below (T3.setTop (mkF m 29 #[.val (.int a1), .val (.int b1), .val (.int c1), .val (.int t3), .val (.int t4), .unset, .unset, .unset, .unset] [(.ref b3), (.ref b3)])) _
      refine st4 _ ?_
      show Steps p.tables e below (T4.setTop (mkF m 42 #[.val (.int a1), .val (.int b1), .val (.int c1), .val (.int t3), .val (.int t4), .unset, .unset, .unset, .unset] [(.ref op), (.ref b3), (.ref b3)])) _
      refine st7.trans ?_
      show Steps p.tables e below (T7.setTop (mkF m 45 #[.val (.int a1), .val (.int b1), .val (.int c1), .val (.int t3), .val (.int t4), .unset, .unset, .unset, .unset] [(.ref b3)])) _
      refine XS.astore X7.here hx rfl (hb hby at_45) rfl rfl (l' := #[.val (.int a1), .val (.int b1), .val (.int c1), .val (.int t3), .val (.int t4), .val (.ref b3), .unset, .unset, .unset]) rfl ?_
      show Steps p.tables e below (T7.setTop (mkF m 47 #[.val (.int a1), .val (.int b1), .val (.int c1), .val (.int t3), .val (.int t4), .val (.ref b3), .unset, .unset, .unset] [])) _
      refine XS.iloadN X7.here hx rfl (hb hby at_47) rfl ?_
      show Steps p.tables e below (T7.setTop (mkF m 48 #[.val (.int a1), .val (.int b1), .val (.int c1), .val (.int t3), .val (.int t4), .val (.ref b3), .unset, .unset, .unset] [(.int c1)])) _
      refine XS.iconst X7.here hx rfl (hb hby at_48) ?_
      show Steps p.tables e below (T7.setTop (mkF m 49 #[.val (.int a1), .val (.int b1), .val (.int c1), .val (.int t3), .val (.int t4), .val (.ref b3), .unset, .unset, .unset] [(.int (3 : Int32)), (.int c1)])) _
      refine XS.iand X7.here hx rfl (hb hby at_49) rfl ?_
      show Steps p.tables e below (T7.setTop (mkF m 50 #[.val (.int a1), .val (.int b1), .val (.int c1), .val (.int t3), .val (.int t4), .val (.ref b3), .unset, .unset, .unset] [(.int (c1 &&& (3 : Int32)))])) _
      refine XS.istore X7.here hx rfl (hb hby at_50) rfl (l' := #[.val (.int a1), .val (.int b1), .val (.int c1), .val (.int t3), .val (.int t4), .val (.ref b3), .val (.int (c1 &&& (3 : Int32))), .unset, .unset]) rfl ?_
      show Steps p.tables e below (T7.setTop (mkF m 52 #[.val (.int a1), .val (.int b1), .val (.int c1), .val (.int t3), .val (.int t4), .val (.ref b3), .val (.int (c1 &&& (3 : Int32))), .unset, .unset] [])) _
      refine XS.iload X7.here hx rfl (hb hby at_52) rfl ?_
      show Steps p.tables e below (T7.setTop (mkF m 54 #[.val (.int a1), .val (.int b1), .val (.int c1), .val (.int t3), .val (.int t4), .val (.ref b3), .val (.int (c1 &&& (3 : Int32))), .unset, .unset] [(.int (c1 &&& (3 : Int32)))])) _
      refine XS.ifNo X7.here hx rfl (hb hby at_54) rfl ((if0 _ _).trans (teq (hk : (c1 &&& (3 : Int32)) = (0 : Int32))).2) ?_
      show Steps p.tables e below (T7.setTop (mkF m 57 #[.val (.int a1), .val (.int b1), .val (.int c1), .val (.int t3), .val (.int t4), .val (.ref b3), .val (.int (c1 &&& (3 : Int32))), .unset, .unset] [])) _
      refine st20 _ ?_
      show Steps p.tables e below (T20.setTop (mkF m 60 #[.val (.int a1), .val (.int b1), .val (.int c1), .val (.int t3), .val (.int t4), .val (.ref b3), .val (.int (c1 &&& (3 : Int32))), .unset, .unset] [(.ref b20)])) _
      refine XS.dup X20.here hx rfl (hb hby at_60) rfl rfl ?_
      show Steps p.tables e below (T20.setTop (mkF m 61 #[.val (.int a1), .val (.int b1), .val (.int c1), .val (.int t3), .val (.int t4), .val (.ref b3), .val (.int (c1 &&& (3 : Int32))), .unset, .unset] [(.ref b20), (.ref b20)])) _
      refine XS.iload X20.here hx rfl (hb hby at_61) rfl ?_
      show Steps p.tables e below (T20.setTop (mkF m 63 #[.val (.int a1), .val (.int b1), .val (.int c1), .val (.int t3), .val (.int t4), .val (.ref b3), .val (.int (c1 &&& (3 : Int32))), .unset, .unset] [(.int t4), (.ref b20), (.ref b20)])) _
      refine XS.ifYes X20.here hx rfl (pc0 := 63) (pc' := 72) rfl (hb hby at_63) rfl ((if0 _ _).trans (teq (h4 : t4 = (0 : Int32))).1) (by decide) (by decide) ?_
      show Steps p.tables e below (T20.setTop (mkF m 72 #[.val (.int a1), .val (.int b1), .val (.int c1), .val (.int t3), .val (.int t4), .val (.ref b3), .val (.int (c1 &&& (3 : Int32))), .unset, .unset] [(.ref b20), (.ref b20)])) _
      refine st21 _ ?_
      show Steps p.tables e below (T21.setTop (mkF m 75 #[.val (.int a1), .val (.int b1), .val (.int c1), .val (.int t3), .val (.int t4), .val (.ref b3), .val (.int (c1 &&& (3 : Int32))), .unset, .unset] [(.ref pf), (.ref b20), (.ref b20)])) _
      refine st22.trans ?_
      show Steps p.tables e below (T22.setTop (mkF m 78 #[.val (.int a1), .val (.int b1), .val (.int c1), .val (.int t3), .val (.int t4), .val (.ref b3), .val (.int (c1 &&& (3 : Int32))), .unset, .unset] [(.ref b20)])) _
      refine XS.astore X22.here hx rfl (hb hby at_78) rfl rfl (l' := #[.val (.int a1), .val (.int b1), .val (.int c1), .val (.int t3), .val (.int t4), .val (.ref b3), .val (.int (c1 &&& (3 : Int32))), .val (.ref b20), .unset]) rfl ?_
      show Steps p.tables e below (T22.setTop (mkF m 80 #[.val (.int a1), .val (.int b1), .val (.int c1), .val (.int t3), .val (.int t4), .val (.ref b3), .val (.int (c1 &&& (3 : Int32))), .val (.ref b20), .unset] [])) _
      refine XS.iloadN X22.here hx rfl (hb hby at_80) rfl ?_
      show Steps p.tables e below (T22.setTop (mkF m 81 #[.val (.int a1), .val (.int b1), .val (.int c1), .val (.int t3), .val (.int t4), .val (.ref b3), .val (.int (c1 &&& (3 : Int32))), .val (.ref b20), .unset] [(.int t3)])) _
      refine XS.iload X22.here hx rfl (hb hby at_81) rfl ?_
      show Steps p.tables e below (T22.setTop (mkF m 83 #[.val (.int a1), .val (.int b1), .val (.int c1), .val (.int t3), .val (.int t4), .val (.ref b3), .val (.int (c1 &&& (3 : Int32))), .val (.ref b20), .unset] [(.int t4), (.int t3)])) _
      refine XS.icmpYes X22.here hx rfl (pc0 := 83) (pc' := 90) rfl (hb hby at_83) rfl (feq (by rw [h3, h4]; decide : ¬ (t3 = t4))).2 (by decide) (by decide) ?_
      show Steps p.tables e below (T22.setTop (mkF m 90 #[.val (.int a1), .val (.int b1), .val (.int c1), .val (.int t3), .val (.int t4), .val (.ref b3), .val (.int (c1 &&& (3 : Int32))), .val (.ref b20), .unset] [])) _
      refine XS.iconst X22.here hx rfl (hb hby at_90) ?_
      show Steps p.tables e below (T22.setTop (mkF m 91 #[.val (.int a1), .val (.int b1), .val (.int c1), .val (.int t3), .val (.int t4), .val (.ref b3), .val (.int (c1 &&& (3 : Int32))), .val (.ref b20), .unset] [(.int (0 : Int32))])) _
      refine XS.istore X22.here hx rfl (hb hby at_91) rfl (l' := #[.val (.int a1), .val (.int b1), .val (.int c1), .val (.int t3), .val (.int t4), .val (.ref b3), .val (.int (c1 &&& (3 : Int32))), .val (.ref b20), .val (.int (0 : Int32))]) rfl ?_
      show Steps p.tables e below (T22.setTop (mkF m 93 #[.val (.int a1), .val (.int b1), .val (.int c1), .val (.int t3), .val (.int t4), .val (.ref b3), .val (.int (c1 &&& (3 : Int32))), .val (.ref b20), .val (.int (0 : Int32))] [])) _
      refine XS.goto X22.here hx rfl (pc0 := 93) (pc' := 179) rfl (hb hby at_93) (by decide) (by decide) ?_
      show Steps p.tables e below (T22.setTop (mkF m 179 #[.val (.int a1), .val (.int b1), .val (.int c1), .val (.int t3), .val (.int t4), .val (.ref b3), .val (.int (c1 &&& (3 : Int32))), .val (.ref b20), .val (.int (0 : Int32))] [])) _
      refine XS.aload X22.here hx rfl (hb hby at_179) rfl rfl ?_
      show Steps p.tables e below (T22.setTop (mkF m 181 #[.val (.int a1), .val (.int b1), .val (.int c1), .val (.int t3), .val (.int t4), .val (.ref b3), .val (.int (c1 &&& (3 : Int32))), .val (.ref b20), .val (.int (0 : Int32))] [(.ref b3)])) _
      refine XS.aload X22.here hx rfl (hb hby at_181) rfl rfl ?_
      show Steps p.tables e below (T22.setTop (mkF m 183 #[.val (.int a1), .val (.int b1), .val (.int c1), .val (.int t3), .val (.int t4), .val (.ref b3), .val (.int (c1 &&& (3 : Int32))), .val (.ref b20), .val (.int (0 : Int32))] [(.ref b20), (.ref b3)])) _
      refine st23.trans ?_
      show Steps p.tables e below (T23.setTop (mkF m 186 #[.val (.int a1), .val (.int b1), .val (.int c1), .val (.int t3), .val (.int t4), .val (.ref b3), .val (.int (c1 &&& (3 : Int32))), .val (.ref b20), .val (.int (0 : Int32))] [(.int (if pf = op then 1 else 0))])) _
      refine XS.iload X23.here hx rfl (hb hby at_186) rfl ?_
      show Steps p.tables e below (T23.setTop (mkF m 188 #[.val (.int a1), .val (.int b1), .val (.int c1), .val (.int t3), .val (.int t4), .val (.ref b3), .val (.int (c1 &&& (3 : Int32))), .val (.ref b20), .val (.int (0 : Int32))] [(.int (0 : Int32)), (.int (if pf = op then 1 else 0))])) _
      refine XS.icmpNo X23.here hx rfl (hb hby at_188) rfl (teq (if_neg (by rw [hp]; exact fun q => n1 q.symm) : (if pf = op then 1 else 0) = (0 : Int32))).2 ?_
      show Steps p.tables e below (T23.setTop (mkF m 191 #[.val (.int a1), .val (.int b1), .val (.int c1), .val (.int t3), .val (.int t4), .val (.ref b3), .val (.int (c1 &&& (3 : Int32))), .val (.ref b20), .val (.int (0 : Int32))] [])) _
      refine XS.iconst X23.here hx rfl (hb hby at_191) ?_
      show Steps p.tables e below (T23.setTop (mkF m 192 #[.val (.int a1), .val (.int b1), .val (.int c1), .val (.int t3), .val (.int t4), .val (.ref b3), .val (.int (c1 &&& (3 : Int32))), .val (.ref b20), .val (.int (0 : Int32))] [(.int (1 : Int32))])) _
      refine XS.goto X23.here hx rfl (pc0 := 192) (pc' := 196) rfl (hb hby at_192) (by decide) (by decide) ?_
      show Steps p.tables e below (T23.setTop (mkF m 196 #[.val (.int a1), .val (.int b1), .val (.int c1), .val (.int t3), .val (.int t4), .val (.ref b3), .val (.int (c1 &&& (3 : Int32))), .val (.ref b20), .val (.int (0 : Int32))] [(.int (1 : Int32))])) _
      exact retN X23 hx (t := .boolean) Bd.returns (by simp) (hb hby at_196) hr
    · show own_QL n0 _ T23.heap _
      exact ⟨rfl, N23⟩
  · obtain ⟨cq24, kq24, q24a, q24b, q24c⟩ := isOf hZ (rfl : T7.heap = _) Ec7
    obtain ⟨_, _, ⟨T24, L24, kc24, nc24⟩, -, X24, ⟨Lc24, hQ24, ql24, qy24, qz24⟩, st24⟩ := X7.virtualBack hx (y := (⟨"com/example/invarient/invarient/model/AtomicPredicate", "equals", "(Ljava/lang/Object;)Z"⟩ : MethodName)) (z := (⟨"com/example/invarient/invarient/model/AtomicPredicate", "equals", "(Ljava/lang/Object;)Z"⟩ : MethodName)) hown (mvT hZ (hw _ (List.mem_of_getElem? (i := 42) rfl))) (mvT hZ (hw _ (List.mem_of_getElem? (i := 43) rfl))) (notFace_of_selects (args := #[]) (mvT hZ (hw _ (List.mem_of_getElem? (i := 45) rfl)))) (mvT hZ (hw _ (List.mem_of_getElem? (i := 45) rfl))) (mvT hZ (hw _ (List.mem_of_getElem? (i := 44) rfl))) (by decide) (backOf (W := 0) (own_rmn l Z a0 hw [] b3 T7.heap n0 Zn7) hZ (hw _ (List.mem_of_getElem? (i := 46) rfl)) (hw _ (List.mem_of_getElem? (i := 2) rfl)) (by decide) (by decide)) q24a q24c (g := (mkF m 183 #[.val (.int a1), .val (.int b1), .val (.int c1), .val (.int t3), .val (.int t4), .val (.ref b3), .val (.int (c1 &&& (3 : Int32))), .val .null, .val (.int (0 : Int32))] [.null, (.ref b3)])) rfl (by rw [hml]; rfl) (Steps.refl _) (argsL := [.null]) (rest := []) (lenOf own_pd7 rfl) rfl (by show 2 * 0 + _ ≤ _; exact Nat.le_of_eq rfl) (hb hby at_183) (fun _ _ => ⟨rfl, (rfl : T7.heap = _), (by decide : 3 + 0 ≤ _), (by decide : 40 + 0 ≤ _)⟩)
    dsimp only [Pt.U, Pt.locs, Pt.cells, Pt.slots] at X24 ql24 qy24 qz24 st24 hQ24
    subst ql24 qy24 qz24
    obtain ⟨rfl, Nq24, eq24⟩ := hQ24
    have N24 := Fr.app N7 Nq24
    obtain ⟨fs, hr, hrun, hended, hret⟩ := X24.leaveW hSi7 (by rw [eq24]; exact (Nat.le_refl _)) (v := some (.int (1 : Int32))) (fun h => by rw [Bd.returns] at h; cases h)
    have hret := own_wmono hret (by decide : _ ≤ room_1.cells) (by decide : _ ≤ room_1.slots)
    refine ⟨_, _, pre0 _ ?_, hrun, hended, _, _, rfl, ?_, hret⟩
    · show Steps p.tables e below (s₁.setTop (mkF m 0 #[.val (.int a1), .val (.int b1), .val (.int c1), .unset, .unset, .unset, .unset, .unset, .unset] [])) _
      refine st1 _ ?_
      show Steps p.tables e below (T1.setTop (mkF m 12 #[.val (.int a1), .val (.int b1), .val (.int c1), .val (.int t3), .unset, .unset, .unset, .unset, .unset] [])) _
      refine st2 _ ?_
      show Steps p.tables e below (T2.setTop (mkF m 25 #[.val (.int a1), .val (.int b1), .val (.int c1), .val (.int t3), .val (.int t4), .unset, .unset, .unset, .unset] [])) _
      refine st3 _ ?_
      show Steps p.tables e below (T3.setTop (mkF m 28 #[.val (.int a1), .val (.int b1), .val (.int c1), .val (.int t3), .val (.int t4), .unset, .unset, .unset, .unset] [(.ref b3)])) _
      refine XS.dup X3.here hx rfl (hb hby at_28) rfl rfl ?_
      show Steps p.tables e below (T3.setTop (mkF m 29 #[.val (.int a1), .val (.int b1), .val (.int c1), .val (.int t3), .val (.int t4), .unset, .unset, .unset, .unset] [(.ref b3), (.ref b3)])) _
      refine st4 _ ?_
      show Steps p.tables e below (T4.setTop (mkF m 42 #[.val (.int a1), .val (.int b1), .val (.int c1), .val (.int t3), .val (.int t4), .unset, .unset, .unset, .unset] [(.ref op), (.ref b3), (.ref b3)])) _
      refine st7.trans ?_
      show Steps p.tables e below (T7.setTop (mkF m 45 #[.val (.int a1), .val (.int b1), .val (.int c1), .val (.int t3), .val (.int t4), .unset, .unset, .unset, .unset] [(.ref b3)])) _
      refine XS.astore X7.here hx rfl (hb hby at_45) rfl rfl (l' := #[.val (.int a1), .val (.int b1), .val (.int c1), .val (.int t3), .val (.int t4), .val (.ref b3), .unset, .unset, .unset]) rfl ?_
      show Steps p.tables e below (T7.setTop (mkF m 47 #[.val (.int a1), .val (.int b1), .val (.int c1), .val (.int t3), .val (.int t4), .val (.ref b3), .unset, .unset, .unset] [])) _
      refine XS.iloadN X7.here hx rfl (hb hby at_47) rfl ?_
      show Steps p.tables e below (T7.setTop (mkF m 48 #[.val (.int a1), .val (.int b1), .val (.int c1), .val (.int t3), .val (.int t4), .val (.ref b3), .unset, .unset, .unset] [(.int c1)])) _
      refine XS.iconst X7.here hx rfl (hb hby at_48) ?_
      show Steps p.tables e below (T7.setTop (mkF m 49 #[.val (.int a1), .val (.int b1), .val (.int c1), .val (.int t3), .val (.int t4), .val (.ref b3), .unset, .unset, .unset] [(.int (3 : Int32)), (.int c1)])) _
      refine XS.iand X7.here hx rfl (hb hby at_49) rfl ?_
      show Steps p.tables e below (T7.setTop (mkF m 50 #[.val (.int a1), .val (.int b1), .val (.int c1), .val (.int t3), .val (.int t4), .val (.ref b3), .unset, .unset, .unset] [(.int (c1 &&& (3 : Int32)))])) _
      refine XS.istore X7.here hx rfl (hb hby at_50) rfl (l' := #[.val (.int a1), .val (.int b1), .val (.int c1), .val (.int t3), .val (.int t4), .val (.ref b3), .val (.int (c1 &&& (3 : Int32))), .unset, .unset]) rfl ?_
      show Steps p.tables e below (T7.setTop (mkF m 52 #[.val (.int a1), .val (.int b1), .val (.int c1), .val (.int t3), .val (.int t4), .val (.ref b3), .val (.int (c1 &&& (3 : Int32))), .unset, .unset] [])) _
      refine XS.iload X7.here hx rfl (hb hby at_52) rfl ?_
      show Steps p.tables e below (T7.setTop (mkF m 54 #[.val (.int a1), .val (.int b1), .val (.int c1), .val (.int t3), .val (.int t4), .val (.ref b3), .val (.int (c1 &&& (3 : Int32))), .unset, .unset] [(.int (c1 &&& (3 : Int32)))])) _
      refine XS.ifYes X7.here hx rfl (pc0 := 54) (pc' := 96) rfl (hb hby at_54) rfl ((if0 _ _).trans (feq (by rw [hk]; decide : ¬ ((c1 &&& (3 : Int32)) = (0 : Int32)))).2) (by decide) (by decide) ?_
      show Steps p.tables e below (T7.setTop (mkF m 96 #[.val (.int a1), .val (.int b1), .val (.int c1), .val (.int t3), .val (.int t4), .val (.ref b3), .val (.int (c1 &&& (3 : Int32))), .unset, .unset] [])) _
      refine XS.iload X7.here hx rfl (hb hby at_96) rfl ?_
      show Steps p.tables e below (T7.setTop (mkF m 98 #[.val (.int a1), .val (.int b1), .val (.int c1), .val (.int t3), .val (.int t4), .val (.ref b3), .val (.int (c1 &&& (3 : Int32))), .unset, .unset] [(.int (c1 &&& (3 : Int32)))])) _
      refine XS.iconst X7.here hx rfl (hb hby at_98) ?_
      show Steps p.tables e below (T7.setTop (mkF m 99 #[.val (.int a1), .val (.int b1), .val (.int c1), .val (.int t3), .val (.int t4), .val (.ref b3), .val (.int (c1 &&& (3 : Int32))), .unset, .unset] [(.int (1 : Int32)), (.int (c1 &&& (3 : Int32)))])) _
      refine XS.icmpNo X7.here hx rfl (hb hby at_99) rfl (teq (hk : (c1 &&& (3 : Int32)) = (1 : Int32))).2 ?_
      show Steps p.tables e below (T7.setTop (mkF m 102 #[.val (.int a1), .val (.int b1), .val (.int c1), .val (.int t3), .val (.int t4), .val (.ref b3), .val (.int (c1 &&& (3 : Int32))), .unset, .unset] [])) _
      refine XS.aconstNull X7.here hx rfl (hb hby at_102) ?_
      show Steps p.tables e below (T7.setTop (mkF m 103 #[.val (.int a1), .val (.int b1), .val (.int c1), .val (.int t3), .val (.int t4), .val (.ref b3), .val (.int (c1 &&& (3 : Int32))), .unset, .unset] [.null])) _
      refine XS.astore X7.here hx rfl (hb hby at_103) rfl rfl (l' := #[.val (.int a1), .val (.int b1), .val (.int c1), .val (.int t3), .val (.int t4), .val (.ref b3), .val (.int (c1 &&& (3 : Int32))), .val .null, .unset]) rfl ?_
      show Steps p.tables e below (T7.setTop (mkF m 105 #[.val (.int a1), .val (.int b1), .val (.int c1), .val (.int t3), .val (.int t4), .val (.ref b3), .val (.int (c1 &&& (3 : Int32))), .val .null, .unset] [])) _
      refine XS.iconst X7.here hx rfl (hb hby at_105) ?_
      show Steps p.tables e below (T7.setTop (mkF m 106 #[.val (.int a1), .val (.int b1), .val (.int c1), .val (.int t3), .val (.int t4), .val (.ref b3), .val (.int (c1 &&& (3 : Int32))), .val .null, .unset] [(.int (0 : Int32))])) _
      refine XS.istore X7.here hx rfl (hb hby at_106) rfl (l' := #[.val (.int a1), .val (.int b1), .val (.int c1), .val (.int t3), .val (.int t4), .val (.ref b3), .val (.int (c1 &&& (3 : Int32))), .val .null, .val (.int (0 : Int32))]) rfl ?_
      show Steps p.tables e below (T7.setTop (mkF m 108 #[.val (.int a1), .val (.int b1), .val (.int c1), .val (.int t3), .val (.int t4), .val (.ref b3), .val (.int (c1 &&& (3 : Int32))), .val .null, .val (.int (0 : Int32))] [])) _
      refine XS.goto X7.here hx rfl (pc0 := 108) (pc' := 179) rfl (hb hby at_108) (by decide) (by decide) ?_
      show Steps p.tables e below (T7.setTop (mkF m 179 #[.val (.int a1), .val (.int b1), .val (.int c1), .val (.int t3), .val (.int t4), .val (.ref b3), .val (.int (c1 &&& (3 : Int32))), .val .null, .val (.int (0 : Int32))] [])) _
      refine XS.aload X7.here hx rfl (hb hby at_179) rfl rfl ?_
      show Steps p.tables e below (T7.setTop (mkF m 181 #[.val (.int a1), .val (.int b1), .val (.int c1), .val (.int t3), .val (.int t4), .val (.ref b3), .val (.int (c1 &&& (3 : Int32))), .val .null, .val (.int (0 : Int32))] [(.ref b3)])) _
      refine XS.aload X7.here hx rfl (hb hby at_181) rfl rfl ?_
      show Steps p.tables e below (T7.setTop (mkF m 183 #[.val (.int a1), .val (.int b1), .val (.int c1), .val (.int t3), .val (.int t4), .val (.ref b3), .val (.int (c1 &&& (3 : Int32))), .val .null, .val (.int (0 : Int32))] [.null, (.ref b3)])) _
      refine st24.trans ?_
      show Steps p.tables e below (T24.setTop (mkF m 186 #[.val (.int a1), .val (.int b1), .val (.int c1), .val (.int t3), .val (.int t4), .val (.ref b3), .val (.int (c1 &&& (3 : Int32))), .val .null, .val (.int (0 : Int32))] [(.int (0 : Int32))])) _
      refine XS.iload X24.here hx rfl (hb hby at_186) rfl ?_
      show Steps p.tables e below (T24.setTop (mkF m 188 #[.val (.int a1), .val (.int b1), .val (.int c1), .val (.int t3), .val (.int t4), .val (.ref b3), .val (.int (c1 &&& (3 : Int32))), .val .null, .val (.int (0 : Int32))] [(.int (0 : Int32)), (.int (0 : Int32))])) _
      refine XS.icmpNo X24.here hx rfl (hb hby at_188) rfl (teq (rfl : (0 : Int32) = (0 : Int32))).2 ?_
      show Steps p.tables e below (T24.setTop (mkF m 191 #[.val (.int a1), .val (.int b1), .val (.int c1), .val (.int t3), .val (.int t4), .val (.ref b3), .val (.int (c1 &&& (3 : Int32))), .val .null, .val (.int (0 : Int32))] [])) _
      refine XS.iconst X24.here hx rfl (hb hby at_191) ?_
      show Steps p.tables e below (T24.setTop (mkF m 192 #[.val (.int a1), .val (.int b1), .val (.int c1), .val (.int t3), .val (.int t4), .val (.ref b3), .val (.int (c1 &&& (3 : Int32))), .val .null, .val (.int (0 : Int32))] [(.int (1 : Int32))])) _
      refine XS.goto X24.here hx rfl (pc0 := 192) (pc' := 196) rfl (hb hby at_192) (by decide) (by decide) ?_
      show Steps p.tables e below (T24.setTop (mkF m 196 #[.val (.int a1), .val (.int b1), .val (.int c1), .val (.int t3), .val (.int t4), .val (.ref b3), .val (.int (c1 &&& (3 : Int32))), .val .null, .val (.int (0 : Int32))] [(.int (1 : Int32))])) _
      exact retN X24 hx (t := .boolean) Bd.returns (by simp) (hb hby at_196) hr
    · show own_QL n0 _ T24.heap _
      exact ⟨rfl, N24⟩
  · obtain ⟨cq25, kq25, q25a, q25b, q25c⟩ := isOf hZ (rfl : T7.heap = _) Ec7
    obtain ⟨_, _, ⟨T25, L25, kc25, nc25⟩, -, X25, ⟨Lc25, hQ25, ql25, qy25, qz25⟩, st25⟩ := X7.virtualBack hx (y := (⟨"com/example/invarient/invarient/model/AtomicPredicate", "equals", "(Ljava/lang/Object;)Z"⟩ : MethodName)) (z := (⟨"com/example/invarient/invarient/model/AtomicPredicate", "equals", "(Ljava/lang/Object;)Z"⟩ : MethodName)) hown (mvT hZ (hw _ (List.mem_of_getElem? (i := 42) rfl))) (mvT hZ (hw _ (List.mem_of_getElem? (i := 43) rfl))) (notFace_of_selects (args := #[]) (mvT hZ (hw _ (List.mem_of_getElem? (i := 45) rfl)))) (mvT hZ (hw _ (List.mem_of_getElem? (i := 45) rfl))) (mvT hZ (hw _ (List.mem_of_getElem? (i := 44) rfl))) (by decide) (backOf (W := 0) (own_rme l Z a0 hw [] b3 b3 op op T7.heap n0 Zn7 Ec7 Fc7_operator Fc7_operator) hZ (hw _ (List.mem_of_getElem? (i := 46) rfl)) (hw _ (List.mem_of_getElem? (i := 2) rfl)) (by decide) (by decide)) q25a q25c (g := (mkF m 183 #[.val (.int a1), .val (.int b1), .val (.int c1), .val (.int t3), .val (.int t4), .val (.ref b3), .val (.int (c1 &&& (3 : Int32))), .val (.ref b3), .val (.int (1 : Int32))] [(.ref b3), (.ref b3)])) rfl (by rw [hml]; rfl) (Steps.refl _) (argsL := [(.ref b3)]) (rest := []) (lenOf own_pd7 rfl) rfl (by show 2 * 0 + _ ≤ _; exact Nat.le_of_eq rfl) (hb hby at_183) (fun _ _ => ⟨rfl, (rfl : T7.heap = _), (by decide : 3 + 0 ≤ _), (by decide : 40 + 0 ≤ _)⟩)
    dsimp only [Pt.U, Pt.locs, Pt.cells, Pt.slots] at X25 ql25 qy25 qz25 st25 hQ25
    subst ql25 qy25 qz25
    obtain ⟨rfl, Nq25, eq25⟩ := hQ25
    have N25 := Fr.app N7 Nq25
    obtain ⟨fs, hr, hrun, hended, hret⟩ := X25.leaveW hSi7 (by rw [eq25]; exact (Nat.le_refl _)) (v := some (.int (1 : Int32))) (fun h => by rw [Bd.returns] at h; cases h)
    have hret := own_wmono hret (by decide : _ ≤ room_1.cells) (by decide : _ ≤ room_1.slots)
    refine ⟨_, _, pre0 _ ?_, hrun, hended, _, _, rfl, ?_, hret⟩
    · show Steps p.tables e below (s₁.setTop (mkF m 0 #[.val (.int a1), .val (.int b1), .val (.int c1), .unset, .unset, .unset, .unset, .unset, .unset] [])) _
      refine st1 _ ?_
      show Steps p.tables e below (T1.setTop (mkF m 12 #[.val (.int a1), .val (.int b1), .val (.int c1), .val (.int t3), .unset, .unset, .unset, .unset, .unset] [])) _
      refine st2 _ ?_
      show Steps p.tables e below (T2.setTop (mkF m 25 #[.val (.int a1), .val (.int b1), .val (.int c1), .val (.int t3), .val (.int t4), .unset, .unset, .unset, .unset] [])) _
      refine st3 _ ?_
      show Steps p.tables e below (T3.setTop (mkF m 28 #[.val (.int a1), .val (.int b1), .val (.int c1), .val (.int t3), .val (.int t4), .unset, .unset, .unset, .unset] [(.ref b3)])) _
      refine XS.dup X3.here hx rfl (hb hby at_28) rfl rfl ?_
      show Steps p.tables e below (T3.setTop (mkF m 29 #[.val (.int a1), .val (.int b1), .val (.int c1), .val (.int t3), .val (.int t4), .unset, .unset, .unset, .unset] [(.ref b3), (.ref b3)])) _
      refine st4 _ ?_
      show Steps p.tables e below (T4.setTop (mkF m 42 #[.val (.int a1), .val (.int b1), .val (.int c1), .val (.int t3), .val (.int t4), .unset, .unset, .unset, .unset] [(.ref op), (.ref b3), (.ref b3)])) _
      refine st7.trans ?_
      show Steps p.tables e below (T7.setTop (mkF m 45 #[.val (.int a1), .val (.int b1), .val (.int c1), .val (.int t3), .val (.int t4), .unset, .unset, .unset, .unset] [(.ref b3)])) _
      refine XS.astore X7.here hx rfl (hb hby at_45) rfl rfl (l' := #[.val (.int a1), .val (.int b1), .val (.int c1), .val (.int t3), .val (.int t4), .val (.ref b3), .unset, .unset, .unset]) rfl ?_
      show Steps p.tables e below (T7.setTop (mkF m 47 #[.val (.int a1), .val (.int b1), .val (.int c1), .val (.int t3), .val (.int t4), .val (.ref b3), .unset, .unset, .unset] [])) _
      refine XS.iloadN X7.here hx rfl (hb hby at_47) rfl ?_
      show Steps p.tables e below (T7.setTop (mkF m 48 #[.val (.int a1), .val (.int b1), .val (.int c1), .val (.int t3), .val (.int t4), .val (.ref b3), .unset, .unset, .unset] [(.int c1)])) _
      refine XS.iconst X7.here hx rfl (hb hby at_48) ?_
      show Steps p.tables e below (T7.setTop (mkF m 49 #[.val (.int a1), .val (.int b1), .val (.int c1), .val (.int t3), .val (.int t4), .val (.ref b3), .unset, .unset, .unset] [(.int (3 : Int32)), (.int c1)])) _
      refine XS.iand X7.here hx rfl (hb hby at_49) rfl ?_
      show Steps p.tables e below (T7.setTop (mkF m 50 #[.val (.int a1), .val (.int b1), .val (.int c1), .val (.int t3), .val (.int t4), .val (.ref b3), .unset, .unset, .unset] [(.int (c1 &&& (3 : Int32)))])) _
      refine XS.istore X7.here hx rfl (hb hby at_50) rfl (l' := #[.val (.int a1), .val (.int b1), .val (.int c1), .val (.int t3), .val (.int t4), .val (.ref b3), .val (.int (c1 &&& (3 : Int32))), .unset, .unset]) rfl ?_
      show Steps p.tables e below (T7.setTop (mkF m 52 #[.val (.int a1), .val (.int b1), .val (.int c1), .val (.int t3), .val (.int t4), .val (.ref b3), .val (.int (c1 &&& (3 : Int32))), .unset, .unset] [])) _
      refine XS.iload X7.here hx rfl (hb hby at_52) rfl ?_
      show Steps p.tables e below (T7.setTop (mkF m 54 #[.val (.int a1), .val (.int b1), .val (.int c1), .val (.int t3), .val (.int t4), .val (.ref b3), .val (.int (c1 &&& (3 : Int32))), .unset, .unset] [(.int (c1 &&& (3 : Int32)))])) _
      refine XS.ifYes X7.here hx rfl (pc0 := 54) (pc' := 96) rfl (hb hby at_54) rfl ((if0 _ _).trans (feq (by rw [hk]; decide : ¬ ((c1 &&& (3 : Int32)) = (0 : Int32)))).2) (by decide) (by decide) ?_
      show Steps p.tables e below (T7.setTop (mkF m 96 #[.val (.int a1), .val (.int b1), .val (.int c1), .val (.int t3), .val (.int t4), .val (.ref b3), .val (.int (c1 &&& (3 : Int32))), .unset, .unset] [])) _
      refine XS.iload X7.here hx rfl (hb hby at_96) rfl ?_
      show Steps p.tables e below (T7.setTop (mkF m 98 #[.val (.int a1), .val (.int b1), .val (.int c1), .val (.int t3), .val (.int t4), .val (.ref b3), .val (.int (c1 &&& (3 : Int32))), .unset, .unset] [(.int (c1 &&& (3 : Int32)))])) _
      refine XS.iconst X7.here hx rfl (hb hby at_98) ?_
      show Steps p.tables e below (T7.setTop (mkF m 99 #[.val (.int a1), .val (.int b1), .val (.int c1), .val (.int t3), .val (.int t4), .val (.ref b3), .val (.int (c1 &&& (3 : Int32))), .unset, .unset] [(.int (1 : Int32)), (.int (c1 &&& (3 : Int32)))])) _
      refine XS.icmpYes X7.here hx rfl (pc0 := 99) (pc' := 111) rfl (hb hby at_99) rfl (feq (by rw [hk]; decide : ¬ ((c1 &&& (3 : Int32)) = (1 : Int32)))).2 (by decide) (by decide) ?_
      show Steps p.tables e below (T7.setTop (mkF m 111 #[.val (.int a1), .val (.int b1), .val (.int c1), .val (.int t3), .val (.int t4), .val (.ref b3), .val (.int (c1 &&& (3 : Int32))), .unset, .unset] [])) _
      refine XS.iload X7.here hx rfl (hb hby at_111) rfl ?_
      show Steps p.tables e below (T7.setTop (mkF m 113 #[.val (.int a1), .val (.int b1), .val (.int c1), .val (.int t3), .val (.int t4), .val (.ref b3), .val (.int (c1 &&& (3 : Int32))), .unset, .unset] [(.int (c1 &&& (3 : Int32)))])) _
      refine XS.iconst X7.here hx rfl (hb hby at_113) ?_
      show Steps p.tables e below (T7.setTop (mkF m 114 #[.val (.int a1), .val (.int b1), .val (.int c1), .val (.int t3), .val (.int t4), .val (.ref b3), .val (.int (c1 &&& (3 : Int32))), .unset, .unset] [(.int (2 : Int32)), (.int (c1 &&& (3 : Int32)))])) _
      refine XS.icmpNo X7.here hx rfl (hb hby at_114) rfl (teq (hk : (c1 &&& (3 : Int32)) = (2 : Int32))).2 ?_
      show Steps p.tables e below (T7.setTop (mkF m 117 #[.val (.int a1), .val (.int b1), .val (.int c1), .val (.int t3), .val (.int t4), .val (.ref b3), .val (.int (c1 &&& (3 : Int32))), .unset, .unset] [])) _
      refine XS.aload X7.here hx rfl (hb hby at_117) rfl rfl ?_
      show Steps p.tables e below (T7.setTop (mkF m 119 #[.val (.int a1), .val (.int b1), .val (.int c1), .val (.int t3), .val (.int t4), .val (.ref b3), .val (.int (c1 &&& (3 : Int32))), .unset, .unset] [(.ref b3)])) _
      refine XS.astore X7.here hx rfl (hb hby at_119) rfl rfl (l' := #[.val (.int a1), .val (.int b1), .val (.int c1), .val (.int t3), .val (.int t4), .val (.ref b3), .val (.int (c1 &&& (3 : Int32))), .val (.ref b3), .unset]) rfl ?_
      show Steps p.tables e below (T7.setTop (mkF m 121 #[.val (.int a1), .val (.int b1), .val (.int c1), .val (.int t3), .val (.int t4), .val (.ref b3), .val (.int (c1 &&& (3 : Int32))), .val (.ref b3), .unset] [])) _
      refine XS.iconst X7.here hx rfl (hb hby at_121) ?_
      show Steps p.tables e below (T7.setTop (mkF m 122 #[.val (.int a1), .val (.int b1), .val (.int c1), .val (.int t3), .val (.int t4), .val (.ref b3), .val (.int (c1 &&& (3 : Int32))), .val (.ref b3), .unset] [(.int (1 : Int32))])) _
      refine XS.istore X7.here hx rfl (hb hby at_122) rfl (l' := #[.val (.int a1), .val (.int b1), .val (.int c1), .val (.int t3), .val (.int t4), .val (.ref b3), .val (.int (c1 &&& (3 : Int32))), .val (.ref b3), .val (.int (1 : Int32))]) rfl ?_
      show Steps p.tables e below (T7.setTop (mkF m 124 #[.val (.int a1), .val (.int b1), .val (.int c1), .val (.int t3), .val (.int t4), .val (.ref b3), .val (.int (c1 &&& (3 : Int32))), .val (.ref b3), .val (.int (1 : Int32))] [])) _
      refine XS.goto X7.here hx rfl (pc0 := 124) (pc' := 179) rfl (hb hby at_124) (by decide) (by decide) ?_
      show Steps p.tables e below (T7.setTop (mkF m 179 #[.val (.int a1), .val (.int b1), .val (.int c1), .val (.int t3), .val (.int t4), .val (.ref b3), .val (.int (c1 &&& (3 : Int32))), .val (.ref b3), .val (.int (1 : Int32))] [])) _
      refine XS.aload X7.here hx rfl (hb hby at_179) rfl rfl ?_
      show Steps p.tables e below (T7.setTop (mkF m 181 #[.val (.int a1), .val (.int b1), .val (.int c1), .val (.int t3), .val (.int t4), .val (.ref b3), .val (.int (c1 &&& (3 : Int32))), .val (.ref b3), .val (.int (1 : Int32))] [(.ref b3)])) _
      refine XS.aload X7.here hx rfl (hb hby at_181) rfl rfl ?_
      show Steps p.tables e below (T7.setTop (mkF m 183 #[.val (.int a1), .val (.int b1), .val (.int c1), .val (.int t3), .val (.int t4), .val (.ref b3), .val (.int (c1 &&& (3 : Int32))), .val (.ref b3), .val (.int (1 : Int32))] [(.ref b3), (.ref b3)])) _
      refine st25.trans ?_
      show Steps p.tables e below (T25.setTop (mkF m 186 #[.val (.int a1), .val (.int b1), .val (.int c1), .val (.int t3), .val (.int t4), .val (.ref b3), .val (.int (c1 &&& (3 : Int32))), .val (.ref b3), .val (.int (1 : Int32))] [(.int (if op = op then 1 else 0))])) _
      refine XS.iload X25.here hx rfl (hb hby at_186) rfl ?_
      show Steps p.tables e below (T25.setTop (mkF m 188 #[.val (.int a1), .val (.int b1), .val (.int c1), .val (.int t3), .val (.int t4), .val (.ref b3), .val (.int (c1 &&& (3 : Int32))), .val (.ref b3), .val (.int (1 : Int32))] [(.int (1 : Int32)), (.int (if op = op then 1 else 0))])) _
      refine XS.icmpNo X25.here hx rfl (hb hby at_188) rfl (teq (if_pos rfl : (if op = op then 1 else 0) = (1 : Int32))).2 ?_
      show Steps p.tables e below (T25.setTop (mkF m 191 #[.val (.int a1), .val (.int b1), .val (.int c1), .val (.int t3), .val (.int t4), .val (.ref b3), .val (.int (c1 &&& (3 : Int32))), .val (.ref b3), .val (.int (1 : Int32))] [])) _
      refine XS.iconst X25.here hx rfl (hb hby at_191) ?_
      show Steps p.tables e below (T25.setTop (mkF m 192 #[.val (.int a1), .val (.int b1), .val (.int c1), .val (.int t3), .val (.int t4), .val (.ref b3), .val (.int (c1 &&& (3 : Int32))), .val (.ref b3), .val (.int (1 : Int32))] [(.int (1 : Int32))])) _
      refine XS.goto X25.here hx rfl (pc0 := 192) (pc' := 196) rfl (hb hby at_192) (by decide) (by decide) ?_
      show Steps p.tables e below (T25.setTop (mkF m 196 #[.val (.int a1), .val (.int b1), .val (.int c1), .val (.int t3), .val (.int t4), .val (.ref b3), .val (.int (c1 &&& (3 : Int32))), .val (.ref b3), .val (.int (1 : Int32))] [(.int (1 : Int32))])) _
      exact retN X25 hx (t := .boolean) Bd.returns (by simp) (hb hby at_196) hr
    · show own_QL n0 _ T25.heap _
      exact ⟨rfl, N25⟩
  · obtain ⟨T26, hp26, X26, e26, E26, A26, D26, -, st26⟩ := newO X7 hx hZ hown (hw _ (List.mem_of_getElem? (i := 72) rfl)) (hw _ (List.mem_of_getElem? (i := 73) rfl)) (hw _ (List.mem_of_getElem? (i := 74) rfl)) (rfl : T7.heap = _) (g := (mkF m 133 #[.val (.int a1), .val (.int b1), .val (.int c1), .val (.int t3), .val (.int t4), .val (.ref b3), .val (.int (c1 &&& (3 : Int32))), .unset, .unset] [])) rfl (hb hby at_133) (by decide) (by decide)
    obtain ⟨b26, g26⟩ : ∃ z, z = T7.heap.size := ⟨_, rfl⟩
    rw [← g26] at A26 D26 st26
    have ne_pt_b26 : pt ≠ b26 := Nat.ne_of_lt (by rw [g26]; exact E7_pt.lt)
    have ne_pf_b26 : pf ≠ b26 := Nat.ne_of_lt (by rw [g26]; exact E7_pf.lt)
    have ne_xt_b26 : xt ≠ b26 := Nat.ne_of_lt (by rw [g26]; exact E7_xt.lt)
    have ne_xf_b26 : xf ≠ b26 := Nat.ne_of_lt (by rw [g26]; exact E7_xf.lt)
    have ne_op_b26 : op ≠ b26 := Nat.ne_of_lt (by rw [g26]; exact E7_op.lt)
    have ne_b3_b26 : b3 ≠ b26 := Nat.ne_of_lt (by rw [g26]; exact Ec7.lt)
    have gn_b26 : n0 ≤ b26 := Nat.le_trans Zn7 (Nat.le_of_eq g26.symm)
    have F26_b3_height := Fc7_height.ext E26
    have F26_b3_priority := Fc7_priority.ext E26
    have F26_b3_operator := Fc7_operator.ext E26
    have E26_pt := E7_pt.ext E26
    have E26_pf := E7_pf.ext E26
    have E26_xt := E7_xt.ext E26
    have E26_xf := E7_xf.ext E26
    have E26_op := E7_op.ext E26
    have E26_b3 := Ec7.ext E26
    have S26_TRUE_ate := S7_TRUE_ate.ext E26
    have S26_FALSE_ate := S7_FALSE_ate.ext E26
    have S26_TRUE_ion := S7_TRUE_ion.ext E26
    have S26_FALSE_ion := S7_FALSE_ion.ext E26
    have S26_COMPACT_STRINGS_ := S7_COMPACT_STRINGS_.ext E26
    have Zn26 : n0 ≤ hp26.size := Nat.le_trans Zn7 E26.1
    have F26_height : Fld Z hp26 b26 "com/example/invarient/invarient/model/Formula" "height" "I" (.int (0 : Int32)) := D26 (Or.inr (hw _ (List.mem_of_getElem? (i := 87) rfl))) (ty := .int) (by decide)
    have F26_operator : Fld Z hp26 b26 "com/example/invarient/invarient/model/AtomicExpression" "operator" "Lcom/example/invarient/invarient/model/AtomicExpression$Operator;" .null := D26 (Or.inr (hw _ (List.mem_of_getElem? (i := 93) rfl))) (ty := (.object "com/example/invarient/invarient/model/AtomicExpression$Operator")) (by decide)
    obtain ⟨T27, X27, e27, st27⟩ := getS2 X26 hx hZ hown (host := "") (Or.inl (hw _ (List.mem_of_getElem? (i := 97) rfl))) Via.refl e26 S26_TRUE_ion (g := (mkF m 142 #[.val (.int a1), .val (.int b1), .val (.int c1), .val (.int t3), .val (.int t4), .val (.ref b3), .val (.int (c1 &&& (3 : Int32))), .unset, .unset] [(.ref b26), (.ref b26)])) rfl (hb hby at_142)
    obtain ⟨_, _, ⟨T28, L28, kc28, nc28⟩, -, X28, hS28, hgr28, ⟨Lc28, hQ28, ql28, qy28, qz28⟩, st28⟩ := X27.specialBackS hx (y := (⟨"com/example/invarient/invarient/model/AtomicExpression", "<init>", "(Lcom/example/invarient/invarient/model/AtomicExpression$Operator;)V"⟩ : MethodName)) rfl hown (mvT hZ (hw _ (List.mem_of_getElem? (i := 78) rfl))) (mvT hZ (hw _ (List.mem_of_getElem? (i := 79) rfl))) (mvT hZ (hw _ (List.mem_of_getElem? (i := 80) rfl))) (by decide) (backOfS (W := 1) (own_rcE l Z a0 hw [] b26 xt (.int 0) .null hp26 n0 Zn26 A26 gn_b26 F26_height F26_operator E26_xt) hZ (hw _ (List.mem_of_getElem? (i := 80) rfl)) (hw _ (List.mem_of_getElem? (i := 74) rfl)) (by decide) (by decide)) (g := (mkF m 151 #[.val (.int a1), .val (.int b1), .val (.int c1), .val (.int t3), .val (.int t4), .val (.ref b3), .val (.int (c1 &&& (3 : Int32))), .unset, .unset] [(.ref xt), (.ref b26), (.ref b26)])) rfl (by rw [hml]; rfl) (Steps.refl _) (a := b26) (argsL := [(.ref xt)]) (rest := [(.ref b26)]) (lenOf own_pd8 rfl) rfl (by show 2 * 0 + _ ≤ _; exact Nat.le_of_eq rfl) (hb hby at_151) (fun _ _ => ⟨rfl, e27, (by decide : 4 + 2 ≤ _), (by decide : 43 + 36 ≤ _)⟩)
    dsimp only [Pt.U, Pt.locs, Pt.cells, Pt.slots] at X28 ql28 qy28 qz28 st28 hQ28 hS28 hgr28
    subst ql28 qy28 qz28
    obtain ⟨rfl, Nq28, K28, Ec28, Fc28_height, Fc28_operator⟩ := hQ28
    have N28 := Fr.app N7 Nq28
    have hZ : Z.Warmed39 (s.setVm T28.vm).vm := State.Warmed39.trans (t := s.setVm T7.vm) hZ hS28.1
    have hown : (s.setVm T28.vm).vm.findClass "com/example/invarient/invarient/model/AtomicPredicateEqualsPinLaw" = some m.cls := by rw [show (s.setVm T28.vm).vm = T28.vm from rfl, hS28.1.alike.findClass]; exact hown
    have hSi28 : s.Since T28.vm T28.heap.size := hSi7.trans hS28 (Nat.le_trans (by rw [e27]; exact (Nat.le_trans (Nat.le_refl _) E26.1)) hgr28)
    have X28 : Stand p l e room_1 (s.setVm T28.vm) m #[(.int a1), (.int b1), (.int c1)] below meth c T28 _ _ _ := X28
    have F28_b3_height := F26_b3_height.keep K28 (ninS ne_b3_b26 nin0)
    have F28_b3_priority := F26_b3_priority.keep K28 (ninS ne_b3_b26 nin0)
    have F28_b3_operator := F26_b3_operator.keep K28 (ninS ne_b3_b26 nin0)
    have E28_pt := E26_pt.keep K28
    have E28_pf := E26_pf.keep K28
    have E28_xt := E26_xt.keep K28
    have E28_xf := E26_xf.keep K28
    have E28_op := E26_op.keep K28
    have E28_b3 := E26_b3.keep K28
    have S28_TRUE_ate := own_staKeep S26_TRUE_ate K28 A26
    have S28_FALSE_ate := own_staKeep S26_FALSE_ate K28 A26
    have S28_TRUE_ion := own_staKeep S26_TRUE_ion K28 A26
    have S28_FALSE_ion := own_staKeep S26_FALSE_ion K28 A26
    have S28_COMPACT_STRINGS_ := own_staKeep S26_COMPACT_STRINGS_ K28 A26
    have Zn28 : n0 ≤ T28.heap.size := Nat.le_trans Zn26 K28.1
    obtain ⟨cq29, kq29, q29a, q29b, q29c⟩ := isOf hZ (rfl : T28.heap = _) E28_b3
    obtain ⟨_, _, ⟨T29, L29, kc29, nc29⟩, -, X29, ⟨Lc29, hQ29, ql29, qy29, qz29⟩, st29⟩ := X28.virtualBack hx (y := (⟨"com/example/invarient/invarient/model/AtomicPredicate", "equals", "(Ljava/lang/Object;)Z"⟩ : MethodName)) (z := (⟨"com/example/invarient/invarient/model/AtomicPredicate", "equals", "(Ljava/lang/Object;)Z"⟩ : MethodName)) hown (mvT hZ (hw _ (List.mem_of_getElem? (i := 42) rfl))) (mvT hZ (hw _ (List.mem_of_getElem? (i := 43) rfl))) (notFace_of_selects (args := #[]) (mvT hZ (hw _ (List.mem_of_getElem? (i := 45) rfl)))) (mvT hZ (hw _ (List.mem_of_getElem? (i := 45) rfl))) (mvT hZ (hw _ (List.mem_of_getElem? (i := 44) rfl))) (by decide) (backOf (W := 0) (own_rmx l Z a0 hw [] b3 b26 T28.heap n0 Zn28 Ec28) hZ (hw _ (List.mem_of_getElem? (i := 46) rfl)) (hw _ (List.mem_of_getElem? (i := 2) rfl)) (by decide) (by decide)) q29a q29c (g := (mkF m 183 #[.val (.int a1), .val (.int b1), .val (.int c1), .val (.int t3), .val (.int t4), .val (.ref b3), .val (.int (c1 &&& (3 : Int32))), .val (.ref b26), .val (.int (0 : Int32))] [(.ref b26), (.ref b3)])) rfl (by rw [hml]; rfl) (Steps.refl _) (argsL := [(.ref b26)]) (rest := []) (lenOf own_pd7 rfl) rfl (by show 2 * 0 + _ ≤ _; exact Nat.le_of_eq rfl) (hb hby at_183) (fun _ _ => ⟨rfl, (rfl : T28.heap = _), (by decide : 6 + 0 ≤ _), (by decide : 79 + 0 ≤ _)⟩)
    dsimp only [Pt.U, Pt.locs, Pt.cells, Pt.slots] at X29 ql29 qy29 qz29 st29 hQ29
    subst ql29 qy29 qz29
    obtain ⟨rfl, Nq29, eq29⟩ := hQ29
    have N29 := Fr.app N28 Nq29
    obtain ⟨fs, hr, hrun, hended, hret⟩ := X29.leaveW hSi28 (by rw [eq29]; exact (Nat.le_refl _)) (v := some (.int (1 : Int32))) (fun h => by rw [Bd.returns] at h; cases h)
    have hret := own_wmono hret (by decide : _ ≤ room_1.cells) (by decide : _ ≤ room_1.slots)
    refine ⟨_, _, pre0 _ ?_, hrun, hended, _, _, rfl, ?_, hret⟩
    · show Steps p.tables e below (s₁.setTop (mkF m 0 #[.val (.int a1), .val (.int b1), .val (.int c1), .unset, .unset, .unset, .unset, .unset, .unset] [])) _
      refine st1 _ ?_
      show Steps p.tables e below (T1.setTop (mkF m 12 #[.val (.int a1), .val (.int b1), .val (.int c1), .val (.int t3), .unset, .unset, .unset, .unset, .unset] [])) _
      refine st2 _ ?_
      show Steps p.tables e below (T2.setTop (mkF m 25 #[.val (.int a1), .val (.int b1), .val (.int c1), .val (.int t3), .val (.int t4), .unset, .unset, .unset, .unset] [])) _
      refine st3 _ ?_
      show Steps p.tables e below (T3.setTop (mkF m 28 #[.val (.int a1), .val (.int b1), .val (.int c1), .val (.int t3), .val (.int t4), .unset, .unset, .unset, .unset] [(.ref b3)])) _
      refine XS.dup X3.here hx rfl (hb hby at_28) rfl rfl ?_
      show Steps p.tables e below (T3.setTop (mkF m 29 #[.val (.int a1), .val (.int b1), .val (.int c1), .val (.int t3), .val (.int t4), .unset, .unset, .unset, .unset] [(.ref b3), (.ref b3)])) _
      refine st4 _ ?_
      show Steps p.tables e below (T4.setTop (mkF m 42 #[.val (.int a1), .val (.int b1), .val (.int c1), .val (.int t3), .val (.int t4), .unset, .unset, .unset, .unset] [(.ref op), (.ref b3), (.ref b3)])) _
      refine st7.trans ?_
      show Steps p.tables e below (T7.setTop (mkF m 45 #[.val (.int a1), .val (.int b1), .val (.int c1), .val (.int t3), .val (.int t4), .unset, .unset, .unset, .unset] [(.ref b3)])) _
      refine XS.astore X7.here hx rfl (hb hby at_45) rfl rfl (l' := #[.val (.int a1), .val (.int b1), .val (.int c1), .val (.int t3), .val (.int t4), .val (.ref b3), .unset, .unset, .unset]) rfl ?_
      show Steps p.tables e below (T7.setTop (mkF m 47 #[.val (.int a1), .val (.int b1), .val (.int c1), .val (.int t3), .val (.int t4), .val (.ref b3), .unset, .unset, .unset] [])) _
      refine XS.iloadN X7.here hx rfl (hb hby at_47) rfl ?_
      show Steps p.tables e below (T7.setTop (mkF m 48 #[.val (.int a1), .val (.int b1), .val (.int c1), .val (.int t3), .val (.int t4), .val (.ref b3), .unset, .unset, .unset] [(.int c1)])) _
      refine XS.iconst X7.here hx rfl (hb hby at_48) ?_
      show Steps p.tables e below (T7.setTop (mkF m 49 #[.val (.int a1), .val (.int b1), .val (.int c1), .val (.int t3), .val (.int t4), .val (.ref b3), .unset, .unset, .unset] [(.int (3 : Int32)), (.int c1)])) _
      refine XS.iand X7.here hx rfl (hb hby at_49) rfl ?_
      show Steps p.tables e below (T7.setTop (mkF m 50 #[.val (.int a1), .val (.int b1), .val (.int c1), .val (.int t3), .val (.int t4), .val (.ref b3), .unset, .unset, .unset] [(.int (c1 &&& (3 : Int32)))])) _
      refine XS.istore X7.here hx rfl (hb hby at_50) rfl (l' := #[.val (.int a1), .val (.int b1), .val (.int c1), .val (.int t3), .val (.int t4), .val (.ref b3), .val (.int (c1 &&& (3 : Int32))), .unset, .unset]) rfl ?_
      show Steps p.tables e below (T7.setTop (mkF m 52 #[.val (.int a1), .val (.int b1), .val (.int c1), .val (.int t3), .val (.int t4), .val (.ref b3), .val (.int (c1 &&& (3 : Int32))), .unset, .unset] [])) _
      refine XS.iload X7.here hx rfl (hb hby at_52) rfl ?_
      show Steps p.tables e below (T7.setTop (mkF m 54 #[.val (.int a1), .val (.int b1), .val (.int c1), .val (.int t3), .val (.int t4), .val (.ref b3), .val (.int (c1 &&& (3 : Int32))), .unset, .unset] [(.int (c1 &&& (3 : Int32)))])) _
      refine XS.ifYes X7.here hx rfl (pc0 := 54) (pc' := 96) rfl (hb hby at_54) rfl ((if0 _ _).trans (feq (by rw [hk]; decide : ¬ ((c1 &&& (3 : Int32)) = (0 : Int32)))).2) (by decide) (by decide) ?_
      show Steps p.tables e below (T7.setTop (mkF m 96 #[.val (.int a1), .val (.int b1), .val (.int c1), .val (.int t3), .val (.int t4), .val (.ref b3), .val (.int (c1 &&& (3 : Int32))), .unset, .unset] [])) _
      refine XS.iload X7.here hx rfl (hb hby at_96) rfl ?_
      show Steps p.tables e below (T7.setTop (mkF m 98 #[.val (.int a1), .val (.int b1), .val (.int c1), .val (.int t3), .val (.int t4), .val (.ref b3), .val (.int (c1 &&& (3 : Int32))), .unset, .unset] [(.int (c1 &&& (3 : Int32)))])) _
      refine XS.iconst X7.here hx rfl (hb hby at_98) ?_
      show Steps p.tables e below (T7.setTop (mkF m 99 #[.val (.int a1), .val (.int b1), .val (.int c1), .val (.int t3), .val (.int t4), .val (.ref b3), .val (.int (c1 &&& (3 : Int32))), .unset, .unset] [(.int (1 : Int32)), (.int (c1 &&& (3 : Int32)))])) _
      refine XS.icmpYes X7.here hx rfl (pc0 := 99) (pc' := 111) rfl (hb hby at_99) rfl (feq (by rw [hk]; decide : ¬ ((c1 &&& (3 : Int32)) = (1 : Int32)))).2 (by decide) (by decide) ?_
      show Steps p.tables e below (T7.setTop (mkF m 111 #[.val (.int a1), .val (.int b1), .val (.int c1), .val (.int t3), .val (.int t4), .val (.ref b3), .val (.int (c1 &&& (3 : Int32))), .unset, .unset] [])) _
      refine XS.iload X7.here hx rfl (hb hby at_111) rfl ?_
      show Steps p.tables e below (T7.setTop (mkF m 113 #[.val (.int a1), .val (.int b1), .val (.int c1), .val (.int t3), .val (.int t4), .val (.ref b3), .val (.int (c1 &&& (3 : Int32))), .unset, .unset] [(.int (c1 &&& (3 : Int32)))])) _
      refine XS.iconst X7.here hx rfl (hb hby at_113) ?_
      show Steps p.tables e below (T7.setTop (mkF m 114 #[.val (.int a1), .val (.int b1), .val (.int c1), .val (.int t3), .val (.int t4), .val (.ref b3), .val (.int (c1 &&& (3 : Int32))), .unset, .unset] [(.int (2 : Int32)), (.int (c1 &&& (3 : Int32)))])) _
      refine XS.icmpYes X7.here hx rfl (pc0 := 114) (pc' := 127) rfl (hb hby at_114) rfl (feq (by rw [hk]; decide : ¬ ((c1 &&& (3 : Int32)) = (2 : Int32)))).2 (by decide) (by decide) ?_
      show Steps p.tables e below (T7.setTop (mkF m 127 #[.val (.int a1), .val (.int b1), .val (.int c1), .val (.int t3), .val (.int t4), .val (.ref b3), .val (.int (c1 &&& (3 : Int32))), .unset, .unset] [])) _
      refine XS.iloadN X7.here hx rfl (hb hby at_127) rfl ?_
      show Steps p.tables e below (T7.setTop (mkF m 128 #[.val (.int a1), .val (.int b1), .val (.int c1), .val (.int t3), .val (.int t4), .val (.ref b3), .val (.int (c1 &&& (3 : Int32))), .unset, .unset] [(.int b1)])) _
      refine XS.iconst X7.here hx rfl (hb hby at_128) ?_
      show Steps p.tables e below (T7.setTop (mkF m 129 #[.val (.int a1), .val (.int b1), .val (.int c1), .val (.int t3), .val (.int t4), .val (.ref b3), .val (.int (c1 &&& (3 : Int32))), .unset, .unset] [(.int (2 : Int32)), (.int b1)])) _
      refine XS.iand X7.here hx rfl (hb hby at_129) rfl ?_
      show Steps p.tables e below (T7.setTop (mkF m 130 #[.val (.int a1), .val (.int b1), .val (.int c1), .val (.int t3), .val (.int t4), .val (.ref b3), .val (.int (c1 &&& (3 : Int32))), .unset, .unset] [(.int (b1 &&& (2 : Int32)))])) _
      refine XS.ifNo X7.here hx rfl (hb hby at_130) rfl ((if0 _ _).trans (feq (hbt : ¬ ((b1 &&& (2 : Int32)) = (0 : Int32)))).1) ?_
      show Steps p.tables e below (T7.setTop (mkF m 133 #[.val (.int a1), .val (.int b1), .val (.int c1), .val (.int t3), .val (.int t4), .val (.ref b3), .val (.int (c1 &&& (3 : Int32))), .unset, .unset] [])) _
      refine st26 _ ?_
      show Steps p.tables e below (T26.setTop (mkF m 136 #[.val (.int a1), .val (.int b1), .val (.int c1), .val (.int t3), .val (.int t4), .val (.ref b3), .val (.int (c1 &&& (3 : Int32))), .unset, .unset] [(.ref b26)])) _
      refine XS.dup X26.here hx rfl (hb hby at_136) rfl rfl ?_
      show Steps p.tables e below (T26.setTop (mkF m 137 #[.val (.int a1), .val (.int b1), .val (.int c1), .val (.int t3), .val (.int t4), .val (.ref b3), .val (.int (c1 &&& (3 : Int32))), .unset, .unset] [(.ref b26), (.ref b26)])) _
      refine XS.iload X26.here hx rfl (hb hby at_137) rfl ?_
      show Steps p.tables e below (T26.setTop (mkF m 139 #[.val (.int a1), .val (.int b1), .val (.int c1), .val (.int t3), .val (.int t4), .val (.ref b3), .val (.int (c1 &&& (3 : Int32))), .unset, .unset] [(.int t4), (.ref b26), (.ref b26)])) _
      refine XS.ifNo X26.here hx rfl (hb hby at_139) rfl ((if0 _ _).trans (feq (by rw [h4]; decide : ¬ (t4 = (0 : Int32)))).1) ?_
      show Steps p.tables e below (T26.setTop (mkF m 142 #[.val (.int a1), .val (.int b1), .val (.int c1), .val (.int t3), .val (.int t4), .val (.ref b3), .val (.int (c1 &&& (3 : Int32))), .unset, .unset] [(.ref b26), (.ref b26)])) _
      refine st27 _ ?_
      show Steps p.tables e below (T27.setTop (mkF m 145 #[.val (.int a1), .val (.int b1), .val (.int c1), .val (.int t3), .val (.int t4), .val (.ref b3), .val (.int (c1 &&& (3 : Int32))), .unset, .unset] [(.ref xt), (.ref b26), (.ref b26)])) _
      refine XS.goto X27.here hx rfl (pc0 := 145) (pc' := 151) rfl (hb hby at_145) (by decide) (by decide) ?_
      show Steps p.tables e below (T27.setTop (mkF m 151 #[.val (.int a1), .val (.int b1), .val (.int c1), .val (.int t3), .val (.int t4), .val (.ref b3), .val (.int (c1 &&& (3 : Int32))), .unset, .unset] [(.ref xt), (.ref b26), (.ref b26)])) _
      refine st28.trans ?_
      show Steps p.tables e below (T28.setTop (mkF m 154 #[.val (.int a1), .val (.int b1), .val (.int c1), .val (.int t3), .val (.int t4), .val (.ref b3), .val (.int (c1 &&& (3 : Int32))), .unset, .unset] [(.ref b26)])) _
      refine XS.astore X28.here hx rfl (hb hby at_154) rfl rfl (l' := #[.val (.int a1), .val (.int b1), .val (.int c1), .val (.int t3), .val (.int t4), .val (.ref b3), .val (.int (c1 &&& (3 : Int32))), .val (.ref b26), .unset]) rfl ?_
      show Steps p.tables e below (T28.setTop (mkF m 156 #[.val (.int a1), .val (.int b1), .val (.int c1), .val (.int t3), .val (.int t4), .val (.ref b3), .val (.int (c1 &&& (3 : Int32))), .val (.ref b26), .unset] [])) _
      refine XS.iconst X28.here hx rfl (hb hby at_156) ?_
      show Steps p.tables e below (T28.setTop (mkF m 157 #[.val (.int a1), .val (.int b1), .val (.int c1), .val (.int t3), .val (.int t4), .val (.ref b3), .val (.int (c1 &&& (3 : Int32))), .val (.ref b26), .unset] [(.int (0 : Int32))])) _
      refine XS.istore X28.here hx rfl (hb hby at_157) rfl (l' := #[.val (.int a1), .val (.int b1), .val (.int c1), .val (.int t3), .val (.int t4), .val (.ref b3), .val (.int (c1 &&& (3 : Int32))), .val (.ref b26), .val (.int (0 : Int32))]) rfl ?_
      show Steps p.tables e below (T28.setTop (mkF m 159 #[.val (.int a1), .val (.int b1), .val (.int c1), .val (.int t3), .val (.int t4), .val (.ref b3), .val (.int (c1 &&& (3 : Int32))), .val (.ref b26), .val (.int (0 : Int32))] [])) _
      refine XS.goto X28.here hx rfl (pc0 := 159) (pc' := 179) rfl (hb hby at_159) (by decide) (by decide) ?_
      show Steps p.tables e below (T28.setTop (mkF m 179 #[.val (.int a1), .val (.int b1), .val (.int c1), .val (.int t3), .val (.int t4), .val (.ref b3), .val (.int (c1 &&& (3 : Int32))), .val (.ref b26), .val (.int (0 : Int32))] [])) _
      refine XS.aload X28.here hx rfl (hb hby at_179) rfl rfl ?_
      show Steps p.tables e below (T28.setTop (mkF m 181 #[.val (.int a1), .val (.int b1), .val (.int c1), .val (.int t3), .val (.int t4), .val (.ref b3), .val (.int (c1 &&& (3 : Int32))), .val (.ref b26), .val (.int (0 : Int32))] [(.ref b3)])) _
      refine XS.aload X28.here hx rfl (hb hby at_181) rfl rfl ?_
      show Steps p.tables e below (T28.setTop (mkF m 183 #[.val (.int a1), .val (.int b1), .val (.int c1), .val (.int t3), .val (.int t4), .val (.ref b3), .val (.int (c1 &&& (3 : Int32))), .val (.ref b26), .val (.int (0 : Int32))] [(.ref b26), (.ref b3)])) _
      refine st29.trans ?_
      show Steps p.tables e below (T29.setTop (mkF m 186 #[.val (.int a1), .val (.int b1), .val (.int c1), .val (.int t3), .val (.int t4), .val (.ref b3), .val (.int (c1 &&& (3 : Int32))), .val (.ref b26), .val (.int (0 : Int32))] [(.int (0 : Int32))])) _
      refine XS.iload X29.here hx rfl (hb hby at_186) rfl ?_
      show Steps p.tables e below (T29.setTop (mkF m 188 #[.val (.int a1), .val (.int b1), .val (.int c1), .val (.int t3), .val (.int t4), .val (.ref b3), .val (.int (c1 &&& (3 : Int32))), .val (.ref b26), .val (.int (0 : Int32))] [(.int (0 : Int32)), (.int (0 : Int32))])) _
      refine XS.icmpNo X29.here hx rfl (hb hby at_188) rfl (teq (rfl : (0 : Int32) = (0 : Int32))).2 ?_
      show Steps p.tables e below (T29.setTop (mkF m 191 #[.val (.int a1), .val (.int b1), .val (.int c1), .val (.int t3), .val (.int t4), .val (.ref b3), .val (.int (c1 &&& (3 : Int32))), .val (.ref b26), .val (.int (0 : Int32))] [])) _
      refine XS.iconst X29.here hx rfl (hb hby at_191) ?_
      show Steps p.tables e below (T29.setTop (mkF m 192 #[.val (.int a1), .val (.int b1), .val (.int c1), .val (.int t3), .val (.int t4), .val (.ref b3), .val (.int (c1 &&& (3 : Int32))), .val (.ref b26), .val (.int (0 : Int32))] [(.int (1 : Int32))])) _
      refine XS.goto X29.here hx rfl (pc0 := 192) (pc' := 196) rfl (hb hby at_192) (by decide) (by decide) ?_
      show Steps p.tables e below (T29.setTop (mkF m 196 #[.val (.int a1), .val (.int b1), .val (.int c1), .val (.int t3), .val (.int t4), .val (.ref b3), .val (.int (c1 &&& (3 : Int32))), .val (.ref b26), .val (.int (0 : Int32))] [(.int (1 : Int32))])) _
      exact retN X29 hx (t := .boolean) Bd.returns (by simp) (hb hby at_196) hr
    · show own_QL n0 _ T29.heap _
      exact ⟨rfl, N29⟩
  · obtain ⟨T30, hp30, X30, e30, E30, A30, D30, -, st30⟩ := newO X7 hx hZ hown (hw _ (List.mem_of_getElem? (i := 72) rfl)) (hw _ (List.mem_of_getElem? (i := 73) rfl)) (hw _ (List.mem_of_getElem? (i := 74) rfl)) (rfl : T7.heap = _) (g := (mkF m 133 #[.val (.int a1), .val (.int b1), .val (.int c1), .val (.int t3), .val (.int t4), .val (.ref b3), .val (.int (c1 &&& (3 : Int32))), .unset, .unset] [])) rfl (hb hby at_133) (by decide) (by decide)
    obtain ⟨b30, g30⟩ : ∃ z, z = T7.heap.size := ⟨_, rfl⟩
    rw [← g30] at A30 D30 st30
    have ne_pt_b30 : pt ≠ b30 := Nat.ne_of_lt (by rw [g30]; exact E7_pt.lt)
    have ne_pf_b30 : pf ≠ b30 := Nat.ne_of_lt (by rw [g30]; exact E7_pf.lt)
    have ne_xt_b30 : xt ≠ b30 := Nat.ne_of_lt (by rw [g30]; exact E7_xt.lt)
    have ne_xf_b30 : xf ≠ b30 := Nat.ne_of_lt (by rw [g30]; exact E7_xf.lt)
    have ne_op_b30 : op ≠ b30 := Nat.ne_of_lt (by rw [g30]; exact E7_op.lt)
    have ne_b3_b30 : b3 ≠ b30 := Nat.ne_of_lt (by rw [g30]; exact Ec7.lt)
    have gn_b30 : n0 ≤ b30 := Nat.le_trans Zn7 (Nat.le_of_eq g30.symm)
    have F30_b3_height := Fc7_height.ext E30
    have F30_b3_priority := Fc7_priority.ext E30
    have F30_b3_operator := Fc7_operator.ext E30
    have E30_pt := E7_pt.ext E30
    have E30_pf := E7_pf.ext E30
    have E30_xt := E7_xt.ext E30
    have E30_xf := E7_xf.ext E30
    have E30_op := E7_op.ext E30
    have E30_b3 := Ec7.ext E30
    have S30_TRUE_ate := S7_TRUE_ate.ext E30
    have S30_FALSE_ate := S7_FALSE_ate.ext E30
    have S30_TRUE_ion := S7_TRUE_ion.ext E30
    have S30_FALSE_ion := S7_FALSE_ion.ext E30
    have S30_COMPACT_STRINGS_ := S7_COMPACT_STRINGS_.ext E30
    have Zn30 : n0 ≤ hp30.size := Nat.le_trans Zn7 E30.1
    have F30_height : Fld Z hp30 b30 "com/example/invarient/invarient/model/Formula" "height" "I" (.int (0 : Int32)) := D30 (Or.inr (hw _ (List.mem_of_getElem? (i := 87) rfl))) (ty := .int) (by decide)
    have F30_operator : Fld Z hp30 b30 "com/example/invarient/invarient/model/AtomicExpression" "operator" "Lcom/example/invarient/invarient/model/AtomicExpression$Operator;" .null := D30 (Or.inr (hw _ (List.mem_of_getElem? (i := 93) rfl))) (ty := (.object "com/example/invarient/invarient/model/AtomicExpression$Operator")) (by decide)
    obtain ⟨T31, X31, e31, st31⟩ := getS2 X30 hx hZ hown (host := "") (Or.inl (hw _ (List.mem_of_getElem? (i := 75) rfl))) Via.refl e30 S30_FALSE_ion (g := (mkF m 148 #[.val (.int a1), .val (.int b1), .val (.int c1), .val (.int t3), .val (.int t4), .val (.ref b3), .val (.int (c1 &&& (3 : Int32))), .unset, .unset] [(.ref b30), (.ref b30)])) rfl (hb hby at_148)
    obtain ⟨_, _, ⟨T32, L32, kc32, nc32⟩, -, X32, hS32, hgr32, ⟨Lc32, hQ32, ql32, qy32, qz32⟩, st32⟩ := X31.specialBackS hx (y := (⟨"com/example/invarient/invarient/model/AtomicExpression", "<init>", "(Lcom/example/invarient/invarient/model/AtomicExpression$Operator;)V"⟩ : MethodName)) rfl hown (mvT hZ (hw _ (List.mem_of_getElem? (i := 78) rfl))) (mvT hZ (hw _ (List.mem_of_getElem? (i := 79) rfl))) (mvT hZ (hw _ (List.mem_of_getElem? (i := 80) rfl))) (by decide) (backOfS (W := 1) (own_rcE l Z a0 hw [] b30 xf (.int 0) .null hp30 n0 Zn30 A30 gn_b30 F30_height F30_operator E30_xf) hZ (hw _ (List.mem_of_getElem? (i := 80) rfl)) (hw _ (List.mem_of_getElem? (i := 74) rfl)) (by decide) (by decide)) (g := (mkF m 151 #[.val (.int a1), .val (.int b1), .val (.int c1), .val (.int t3), .val (.int t4), .val (.ref b3), .val (.int (c1 &&& (3 : Int32))), .unset, .unset] [(.ref xf), (.ref b30), (.ref b30)])) rfl (by rw [hml]; rfl) (Steps.refl _) (a := b30) (argsL := [(.ref xf)]) (rest := [(.ref b30)]) (lenOf own_pd8 rfl) rfl (by show 2 * 0 + _ ≤ _; exact Nat.le_of_eq rfl) (hb hby at_151) (fun _ _ => ⟨rfl, e31, (by decide : 4 + 2 ≤ _), (by decide : 43 + 36 ≤ _)⟩)
    dsimp only [Pt.U, Pt.locs, Pt.cells, Pt.slots] at X32 ql32 qy32 qz32 st32 hQ32 hS32 hgr32
    subst ql32 qy32 qz32
    obtain ⟨rfl, Nq32, K32, Ec32, Fc32_height, Fc32_operator⟩ := hQ32
    have N32 := Fr.app N7 Nq32
    have hZ : Z.Warmed39 (s.setVm T32.vm).vm := State.Warmed39.trans (t := s.setVm T7.vm) hZ hS32.1
    have hown : (s.setVm T32.vm).vm.findClass "com/example/invarient/invarient/model/AtomicPredicateEqualsPinLaw" = some m.cls := by rw [show (s.setVm T32.vm).vm = T32.vm from rfl, hS32.1.alike.findClass]; exact hown
    have hSi32 : s.Since T32.vm T32.heap.size := hSi7.trans hS32 (Nat.le_trans (by rw [e31]; exact (Nat.le_trans (Nat.le_refl _) E30.1)) hgr32)
    have X32 : Stand p l e room_1 (s.setVm T32.vm) m #[(.int a1), (.int b1), (.int c1)] below meth c T32 _ _ _ := X32
    have F32_b3_height := F30_b3_height.keep K32 (ninS ne_b3_b30 nin0)
    have F32_b3_priority := F30_b3_priority.keep K32 (ninS ne_b3_b30 nin0)
    have F32_b3_operator := F30_b3_operator.keep K32 (ninS ne_b3_b30 nin0)
    have E32_pt := E30_pt.keep K32
    have E32_pf := E30_pf.keep K32
    have E32_xt := E30_xt.keep K32
    have E32_xf := E30_xf.keep K32
    have E32_op := E30_op.keep K32
    have E32_b3 := E30_b3.keep K32
    have S32_TRUE_ate := own_staKeep S30_TRUE_ate K32 A30
    have S32_FALSE_ate := own_staKeep S30_FALSE_ate K32 A30
    have S32_TRUE_ion := own_staKeep S30_TRUE_ion K32 A30
    have S32_FALSE_ion := own_staKeep S30_FALSE_ion K32 A30
    have S32_COMPACT_STRINGS_ := own_staKeep S30_COMPACT_STRINGS_ K32 A30
    have Zn32 : n0 ≤ T32.heap.size := Nat.le_trans Zn30 K32.1
    obtain ⟨cq33, kq33, q33a, q33b, q33c⟩ := isOf hZ (rfl : T32.heap = _) E32_b3
    obtain ⟨_, _, ⟨T33, L33, kc33, nc33⟩, -, X33, ⟨Lc33, hQ33, ql33, qy33, qz33⟩, st33⟩ := X32.virtualBack hx (y := (⟨"com/example/invarient/invarient/model/AtomicPredicate", "equals", "(Ljava/lang/Object;)Z"⟩ : MethodName)) (z := (⟨"com/example/invarient/invarient/model/AtomicPredicate", "equals", "(Ljava/lang/Object;)Z"⟩ : MethodName)) hown (mvT hZ (hw _ (List.mem_of_getElem? (i := 42) rfl))) (mvT hZ (hw _ (List.mem_of_getElem? (i := 43) rfl))) (notFace_of_selects (args := #[]) (mvT hZ (hw _ (List.mem_of_getElem? (i := 45) rfl)))) (mvT hZ (hw _ (List.mem_of_getElem? (i := 45) rfl))) (mvT hZ (hw _ (List.mem_of_getElem? (i := 44) rfl))) (by decide) (backOf (W := 0) (own_rmx l Z a0 hw [] b3 b30 T32.heap n0 Zn32 Ec32) hZ (hw _ (List.mem_of_getElem? (i := 46) rfl)) (hw _ (List.mem_of_getElem? (i := 2) rfl)) (by decide) (by decide)) q33a q33c (g := (mkF m 183 #[.val (.int a1), .val (.int b1), .val (.int c1), .val (.int t3), .val (.int t4), .val (.ref b3), .val (.int (c1 &&& (3 : Int32))), .val (.ref b30), .val (.int (0 : Int32))] [(.ref b30), (.ref b3)])) rfl (by rw [hml]; rfl) (Steps.refl _) (argsL := [(.ref b30)]) (rest := []) (lenOf own_pd7 rfl) rfl (by show 2 * 0 + _ ≤ _; exact Nat.le_of_eq rfl) (hb hby at_183) (fun _ _ => ⟨rfl, (rfl : T32.heap = _), (by decide : 6 + 0 ≤ _), (by decide : 79 + 0 ≤ _)⟩)
    dsimp only [Pt.U, Pt.locs, Pt.cells, Pt.slots] at X33 ql33 qy33 qz33 st33 hQ33
    subst ql33 qy33 qz33
    obtain ⟨rfl, Nq33, eq33⟩ := hQ33
    have N33 := Fr.app N32 Nq33
    obtain ⟨fs, hr, hrun, hended, hret⟩ := X33.leaveW hSi32 (by rw [eq33]; exact (Nat.le_refl _)) (v := some (.int (1 : Int32))) (fun h => by rw [Bd.returns] at h; cases h)
    have hret := own_wmono hret (by decide : _ ≤ room_1.cells) (by decide : _ ≤ room_1.slots)
    refine ⟨_, _, pre0 _ ?_, hrun, hended, _, _, rfl, ?_, hret⟩
    · show Steps p.tables e below (s₁.setTop (mkF m 0 #[.val (.int a1), .val (.int b1), .val (.int c1), .unset, .unset, .unset, .unset, .unset, .unset] [])) _
      refine st1 _ ?_
      show Steps p.tables e below (T1.setTop (mkF m 12 #[.val (.int a1), .val (.int b1), .val (.int c1), .val (.int t3), .unset, .unset, .unset, .unset, .unset] [])) _
      refine st2 _ ?_
      show Steps p.tables e below (T2.setTop (mkF m 25 #[.val (.int a1), .val (.int b1), .val (.int c1), .val (.int t3), .val (.int t4), .unset, .unset, .unset, .unset] [])) _
      refine st3 _ ?_
      show Steps p.tables e below (T3.setTop (mkF m 28 #[.val (.int a1), .val (.int b1), .val (.int c1), .val (.int t3), .val (.int t4), .unset, .unset, .unset, .unset] [(.ref b3)])) _
      refine XS.dup X3.here hx rfl (hb hby at_28) rfl rfl ?_
      show Steps p.tables e below (T3.setTop (mkF m 29 #[.val (.int a1), .val (.int b1), .val (.int c1), .val (.int t3), .val (.int t4), .unset, .unset, .unset, .unset] [(.ref b3), (.ref b3)])) _
      refine st4 _ ?_
      show Steps p.tables e below (T4.setTop (mkF m 42 #[.val (.int a1), .val (.int b1), .val (.int c1), .val (.int t3), .val (.int t4), .unset, .unset, .unset, .unset] [(.ref op), (.ref b3), (.ref b3)])) _
      refine st7.trans ?_
      show Steps p.tables e below (T7.setTop (mkF m 45 #[.val (.int a1), .val (.int b1), .val (.int c1), .val (.int t3), .val (.int t4), .unset, .unset, .unset, .unset] [(.ref b3)])) _
      refine XS.astore X7.here hx rfl (hb hby at_45) rfl rfl (l' := #[.val (.int a1), .val (.int b1), .val (.int c1), .val (.int t3), .val (.int t4), .val (.ref b3), .unset, .unset, .unset]) rfl ?_
      show Steps p.tables e below (T7.setTop (mkF m 47 #[.val (.int a1), .val (.int b1), .val (.int c1), .val (.int t3), .val (.int t4), .val (.ref b3), .unset, .unset, .unset] [])) _
      refine XS.iloadN X7.here hx rfl (hb hby at_47) rfl ?_
      show Steps p.tables e below (T7.setTop (mkF m 48 #[.val (.int a1), .val (.int b1), .val (.int c1), .val (.int t3), .val (.int t4), .val (.ref b3), .unset, .unset, .unset] [(.int c1)])) _
      refine XS.iconst X7.here hx rfl (hb hby at_48) ?_
      show Steps p.tables e below (T7.setTop (mkF m 49 #[.val (.int a1), .val (.int b1), .val (.int c1), .val (.int t3), .val (.int t4), .val (.ref b3), .unset, .unset, .unset] [(.int (3 : Int32)), (.int c1)])) _
      refine XS.iand X7.here hx rfl (hb hby at_49) rfl ?_
      show Steps p.tables e below (T7.setTop (mkF m 50 #[.val (.int a1), .val (.int b1), .val (.int c1), .val (.int t3), .val (.int t4), .val (.ref b3), .unset, .unset, .unset] [(.int (c1 &&& (3 : Int32)))])) _
      refine XS.istore X7.here hx rfl (hb hby at_50) rfl (l' := #[.val (.int a1), .val (.int b1), .val (.int c1), .val (.int t3), .val (.int t4), .val (.ref b3), .val (.int (c1 &&& (3 : Int32))), .unset, .unset]) rfl ?_
      show Steps p.tables e below (T7.setTop (mkF m 52 #[.val (.int a1), .val (.int b1), .val (.int c1), .val (.int t3), .val (.int t4), .val (.ref b3), .val (.int (c1 &&& (3 : Int32))), .unset, .unset] [])) _
      refine XS.iload X7.here hx rfl (hb hby at_52) rfl ?_
      show Steps p.tables e below (T7.setTop (mkF m 54 #[.val (.int a1), .val (.int b1), .val (.int c1), .val (.int t3), .val (.int t4), .val (.ref b3), .val (.int (c1 &&& (3 : Int32))), .unset, .unset] [(.int (c1 &&& (3 : Int32)))])) _
      refine XS.ifYes X7.here hx rfl (pc0 := 54) (pc' := 96) rfl (hb hby at_54) rfl ((if0 _ _).trans (feq (by rw [hk]; decide : ¬ ((c1 &&& (3 : Int32)) = (0 : Int32)))).2) (by decide) (by decide) ?_
      show Steps p.tables e below (T7.setTop (mkF m 96 #[.val (.int a1), .val (.int b1), .val (.int c1), .val (.int t3), .val (.int t4), .val (.ref b3), .val (.int (c1 &&& (3 : Int32))), .unset, .unset] [])) _
      refine XS.iload X7.here hx rfl (hb hby at_96) rfl ?_
      show Steps p.tables e below (T7.setTop (mkF m 98 #[.val (.int a1), .val (.int b1), .val (.int c1), .val (.int t3), .val (.int t4), .val (.ref b3), .val (.int (c1 &&& (3 : Int32))), .unset, .unset] [(.int (c1 &&& (3 : Int32)))])) _
      refine XS.iconst X7.here hx rfl (hb hby at_98) ?_
      show Steps p.tables e below (T7.setTop (mkF m 99 #[.val (.int a1), .val (.int b1), .val (.int c1), .val (.int t3), .val (.int t4), .val (.ref b3), .val (.int (c1 &&& (3 : Int32))), .unset, .unset] [(.int (1 : Int32)), (.int (c1 &&& (3 : Int32)))])) _
      refine XS.icmpYes X7.here hx rfl (pc0 := 99) (pc' := 111) rfl (hb hby at_99) rfl (feq (by rw [hk]; decide : ¬ ((c1 &&& (3 : Int32)) = (1 : Int32)))).2 (by decide) (by decide) ?_
      show Steps p.tables e below (T7.setTop (mkF m 111 #[.val (.int a1), .val (.int b1), .val (.int c1), .val (.int t3), .val (.int t4), .val (.ref b3), .val (.int (c1 &&& (3 : Int32))), .unset, .unset] [])) _
      refine XS.iload X7.here hx rfl (hb hby at_111) rfl ?_
      show Steps p.tables e below (T7.setTop (mkF m 113 #[.val (.int a1), .val (.int b1), .val (.int c1), .val (.int t3), .val (.int t4), .val (.ref b3), .val (.int (c1 &&& (3 : Int32))), .unset, .unset] [(.int (c1 &&& (3 : Int32)))])) _
      refine XS.iconst X7.here hx rfl (hb hby at_113) ?_
      show Steps p.tables e below (T7.setTop (mkF m 114 #[.val (.int a1), .val (.int b1), .val (.int c1), .val (.int t3), .val (.int t4), .val (.ref b3), .val (.int (c1 &&& (3 : Int32))), .unset, .unset] [(.int (2 : Int32)), (.int (c1 &&& (3 : Int32)))])) _
      refine XS.icmpYes X7.here hx rfl (pc0 := 114) (pc' := 127) rfl (hb hby at_114) rfl (feq (by rw [hk]; decide : ¬ ((c1 &&& (3 : Int32)) = (2 : Int32)))).2 (by decide) (by decide) ?_
      show Steps p.tables e below (T7.setTop (mkF m 127 #[.val (.int a1), .val (.int b1), .val (.int c1), .val (.int t3), .val (.int t4), .val (.ref b3), .val (.int (c1 &&& (3 : Int32))), .unset, .unset] [])) _
      refine XS.iloadN X7.here hx rfl (hb hby at_127) rfl ?_
      show Steps p.tables e below (T7.setTop (mkF m 128 #[.val (.int a1), .val (.int b1), .val (.int c1), .val (.int t3), .val (.int t4), .val (.ref b3), .val (.int (c1 &&& (3 : Int32))), .unset, .unset] [(.int b1)])) _
      refine XS.iconst X7.here hx rfl (hb hby at_128) ?_
      show Steps p.tables e below (T7.setTop (mkF m 129 #[.val (.int a1), .val (.int b1), .val (.int c1), .val (.int t3), .val (.int t4), .val (.ref b3), .val (.int (c1 &&& (3 : Int32))), .unset, .unset] [(.int (2 : Int32)), (.int b1)])) _
      refine XS.iand X7.here hx rfl (hb hby at_129) rfl ?_
      show Steps p.tables e below (T7.setTop (mkF m 130 #[.val (.int a1), .val (.int b1), .val (.int c1), .val (.int t3), .val (.int t4), .val (.ref b3), .val (.int (c1 &&& (3 : Int32))), .unset, .unset] [(.int (b1 &&& (2 : Int32)))])) _
      refine XS.ifNo X7.here hx rfl (hb hby at_130) rfl ((if0 _ _).trans (feq (hbt : ¬ ((b1 &&& (2 : Int32)) = (0 : Int32)))).1) ?_
      show Steps p.tables e below (T7.setTop (mkF m 133 #[.val (.int a1), .val (.int b1), .val (.int c1), .val (.int t3), .val (.int t4), .val (.ref b3), .val (.int (c1 &&& (3 : Int32))), .unset, .unset] [])) _
      refine st30 _ ?_
      show Steps p.tables e below (T30.setTop (mkF m 136 #[.val (.int a1), .val (.int b1), .val (.int c1), .val (.int t3), .val (.int t4), .val (.ref b3), .val (.int (c1 &&& (3 : Int32))), .unset, .unset] [(.ref b30)])) _
      refine XS.dup X30.here hx rfl (hb hby at_136) rfl rfl ?_
      show Steps p.tables e below (T30.setTop (mkF m 137 #[.val (.int a1), .val (.int b1), .val (.int c1), .val (.int t3), .val (.int t4), .val (.ref b3), .val (.int (c1 &&& (3 : Int32))), .unset, .unset] [(.ref b30), (.ref b30)])) _
      refine XS.iload X30.here hx rfl (hb hby at_137) rfl ?_
      show Steps p.tables e below (T30.setTop (mkF m 139 #[.val (.int a1), .val (.int b1), .val (.int c1), .val (.int t3), .val (.int t4), .val (.ref b3), .val (.int (c1 &&& (3 : Int32))), .unset, .unset] [(.int t4), (.ref b30), (.ref b30)])) _
      refine XS.ifYes X30.here hx rfl (pc0 := 139) (pc' := 148) rfl (hb hby at_139) rfl ((if0 _ _).trans (teq (h4 : t4 = (0 : Int32))).1) (by decide) (by decide) ?_
      show Steps p.tables e below (T30.setTop (mkF m 148 #[.val (.int a1), .val (.int b1), .val (.int c1), .val (.int t3), .val (.int t4), .val (.ref b3), .val (.int (c1 &&& (3 : Int32))), .unset, .unset] [(.ref b30), (.ref b30)])) _
      refine st31 _ ?_
      show Steps p.tables e below (T31.setTop (mkF m 151 #[.val (.int a1), .val (.int b1), .val (.int c1), .val (.int t3), .val (.int t4), .val (.ref b3), .val (.int (c1 &&& (3 : Int32))), .unset, .unset] [(.ref xf), (.ref b30), (.ref b30)])) _
      refine st32.trans ?_
      show Steps p.tables e below (T32.setTop (mkF m 154 #[.val (.int a1), .val (.int b1), .val (.int c1), .val (.int t3), .val (.int t4), .val (.ref b3), .val (.int (c1 &&& (3 : Int32))), .unset, .unset] [(.ref b30)])) _
      refine XS.astore X32.here hx rfl (hb hby at_154) rfl rfl (l' := #[.val (.int a1), .val (.int b1), .val (.int c1), .val (.int t3), .val (.int t4), .val (.ref b3), .val (.int (c1 &&& (3 : Int32))), .val (.ref b30), .unset]) rfl ?_
      show Steps p.tables e below (T32.setTop (mkF m 156 #[.val (.int a1), .val (.int b1), .val (.int c1), .val (.int t3), .val (.int t4), .val (.ref b3), .val (.int (c1 &&& (3 : Int32))), .val (.ref b30), .unset] [])) _
      refine XS.iconst X32.here hx rfl (hb hby at_156) ?_
      show Steps p.tables e below (T32.setTop (mkF m 157 #[.val (.int a1), .val (.int b1), .val (.int c1), .val (.int t3), .val (.int t4), .val (.ref b3), .val (.int (c1 &&& (3 : Int32))), .val (.ref b30), .unset] [(.int (0 : Int32))])) _
      refine XS.istore X32.here hx rfl (hb hby at_157) rfl (l' := #[.val (.int a1), .val (.int b1), .val (.int c1), .val (.int t3), .val (.int t4), .val (.ref b3), .val (.int (c1 &&& (3 : Int32))), .val (.ref b30), .val (.int (0 : Int32))]) rfl ?_
      show Steps p.tables e below (T32.setTop (mkF m 159 #[.val (.int a1), .val (.int b1), .val (.int c1), .val (.int t3), .val (.int t4), .val (.ref b3), .val (.int (c1 &&& (3 : Int32))), .val (.ref b30), .val (.int (0 : Int32))] [])) _
      refine XS.goto X32.here hx rfl (pc0 := 159) (pc' := 179) rfl (hb hby at_159) (by decide) (by decide) ?_
      show Steps p.tables e below (T32.setTop (mkF m 179 #[.val (.int a1), .val (.int b1), .val (.int c1), .val (.int t3), .val (.int t4), .val (.ref b3), .val (.int (c1 &&& (3 : Int32))), .val (.ref b30), .val (.int (0 : Int32))] [])) _
      refine XS.aload X32.here hx rfl (hb hby at_179) rfl rfl ?_
      show Steps p.tables e below (T32.setTop (mkF m 181 #[.val (.int a1), .val (.int b1), .val (.int c1), .val (.int t3), .val (.int t4), .val (.ref b3), .val (.int (c1 &&& (3 : Int32))), .val (.ref b30), .val (.int (0 : Int32))] [(.ref b3)])) _
      refine XS.aload X32.here hx rfl (hb hby at_181) rfl rfl ?_
      show Steps p.tables e below (T32.setTop (mkF m 183 #[.val (.int a1), .val (.int b1), .val (.int c1), .val (.int t3), .val (.int t4), .val (.ref b3), .val (.int (c1 &&& (3 : Int32))), .val (.ref b30), .val (.int (0 : Int32))] [(.ref b30), (.ref b3)])) _
      refine st33.trans ?_
      show Steps p.tables e below (T33.setTop (mkF m 186 #[.val (.int a1), .val (.int b1), .val (.int c1), .val (.int t3), .val (.int t4), .val (.ref b3), .val (.int (c1 &&& (3 : Int32))), .val (.ref b30), .val (.int (0 : Int32))] [(.int (0 : Int32))])) _
      refine XS.iload X33.here hx rfl (hb hby at_186) rfl ?_
      show Steps p.tables e below (T33.setTop (mkF m 188 #[.val (.int a1), .val (.int b1), .val (.int c1), .val (.int t3), .val (.int t4), .val (.ref b3), .val (.int (c1 &&& (3 : Int32))), .val (.ref b30), .val (.int (0 : Int32))] [(.int (0 : Int32)), (.int (0 : Int32))])) _
      refine XS.icmpNo X33.here hx rfl (hb hby at_188) rfl (teq (rfl : (0 : Int32) = (0 : Int32))).2 ?_
      show Steps p.tables e below (T33.setTop (mkF m 191 #[.val (.int a1), .val (.int b1), .val (.int c1), .val (.int t3), .val (.int t4), .val (.ref b3), .val (.int (c1 &&& (3 : Int32))), .val (.ref b30), .val (.int (0 : Int32))] [])) _
      refine XS.iconst X33.here hx rfl (hb hby at_191) ?_
      show Steps p.tables e below (T33.setTop (mkF m 192 #[.val (.int a1), .val (.int b1), .val (.int c1), .val (.int t3), .val (.int t4), .val (.ref b3), .val (.int (c1 &&& (3 : Int32))), .val (.ref b30), .val (.int (0 : Int32))] [(.int (1 : Int32))])) _
      refine XS.goto X33.here hx rfl (pc0 := 192) (pc' := 196) rfl (hb hby at_192) (by decide) (by decide) ?_
      show Steps p.tables e below (T33.setTop (mkF m 196 #[.val (.int a1), .val (.int b1), .val (.int c1), .val (.int t3), .val (.int t4), .val (.ref b3), .val (.int (c1 &&& (3 : Int32))), .val (.ref b30), .val (.int (0 : Int32))] [(.int (1 : Int32))])) _
      exact retN X33 hx (t := .boolean) Bd.returns (by simp) (hb hby at_196) hr
    · show own_QL n0 _ T33.heap _
      exact ⟨rfl, N33⟩
  · obtain ⟨_, _, ⟨T34, L34, kc34, nc34⟩, -, X34, ⟨Lc34, hQ34, ql34, qy34, qz34⟩, st34⟩ := Jvm.LawKit.callS X7 hx (y := (⟨"java/lang/String", "valueOf", "(C)Ljava/lang/String;"⟩ : MethodName)) hown (mvT hZ (hw _ (List.mem_of_getElem? (i := 51) rfl))) (mvT hZ (hw _ (List.mem_of_getElem? (i := 52) rfl))) (mvT hZ (hw _ (List.mem_of_getElem? (i := 27) rfl))) (mvT hZ (hw _ (List.mem_of_getElem? (i := 53) rfl))) (by decide) (backOf (W := 0) (own_rmv l Z a0 hw [] ((((a1.toUInt32 >>> ((8 : Int32) &&& 31).toUInt32).toInt32) &&& (255 : Int32)).toUInt32.toUInt16.toUInt32.toInt32) w2 T7.heap n0 Zn7 S7_COMPACT_STRINGS_ hnC (own_chr _)) hZ (hw _ (List.mem_of_getElem? (i := 53) rfl)) (hw _ (List.mem_of_getElem? (i := 27) rfl)) (by decide) (by decide)) (g := (mkF m 171 #[.val (.int a1), .val (.int b1), .val (.int c1), .val (.int t3), .val (.int t4), .val (.ref b3), .val (.int (c1 &&& (3 : Int32))), .unset, .unset] [(.int ((((a1.toUInt32 >>> ((8 : Int32) &&& 31).toUInt32).toInt32) &&& (255 : Int32)).toUInt32.toUInt16.toUInt32.toInt32))])) rfl (by rw [hml]; rfl) (argsL := [(.int ((((a1.toUInt32 >>> ((8 : Int32) &&& 31).toUInt32).toInt32) &&& (255 : Int32)).toUInt32.toUInt16.toUInt32.toInt32))]) (rest := []) (lenOf own_pd9 rfl) rfl (by show 2 * 0 + _ ≤ _; exact Nat.le_of_eq rfl) (hb hby at_171) (fun _ _ => ⟨rfl, (rfl : T7.heap = _), (by decide : 3 + 2 ≤ _), (by decide : 40 + 5 ≤ _)⟩)
    dsimp only [Pt.U, Pt.locs, Pt.cells, Pt.slots] at X34 ql34 qy34 qz34 st34 hQ34
    subst ql34 qy34 qz34
    obtain ⟨sn, rfl, Nq34, Kv, szv, Esn⟩ := hQ34
    have N34 := Fr.app N7 Nq34
    have F34_b3_height := Fc7_height.keep Kv nin0
    have F34_b3_priority := Fc7_priority.keep Kv nin0
    have F34_b3_operator := Fc7_operator.keep Kv nin0
    have E34_pt := E7_pt.keep Kv
    have E34_pf := E7_pf.keep Kv
    have E34_xt := E7_xt.keep Kv
    have E34_xf := E7_xf.keep Kv
    have E34_op := E7_op.keep Kv
    have E34_b3 := Ec7.keep Kv
    have Zn34 : n0 ≤ T34.heap.size := Nat.le_trans Zn7 Kv.1
    obtain ⟨cq35, kq35, q35a, q35b, q35c⟩ := isOf hZ (rfl : T34.heap = _) E34_b3
    obtain ⟨_, _, ⟨T35, L35, kc35, nc35⟩, -, X35, ⟨Lc35, hQ35, ql35, qy35, qz35⟩, st35⟩ := X34.virtualBack hx (y := (⟨"com/example/invarient/invarient/model/AtomicPredicate", "equals", "(Ljava/lang/Object;)Z"⟩ : MethodName)) (z := (⟨"com/example/invarient/invarient/model/AtomicPredicate", "equals", "(Ljava/lang/Object;)Z"⟩ : MethodName)) hown (mvT hZ (hw _ (List.mem_of_getElem? (i := 42) rfl))) (mvT hZ (hw _ (List.mem_of_getElem? (i := 43) rfl))) (notFace_of_selects (args := #[]) (mvT hZ (hw _ (List.mem_of_getElem? (i := 45) rfl)))) (mvT hZ (hw _ (List.mem_of_getElem? (i := 45) rfl))) (mvT hZ (hw _ (List.mem_of_getElem? (i := 44) rfl))) (by decide) (backOf (W := 0) (own_rms l Z a0 hw [] b3 sn T34.heap n0 Zn34 Esn) hZ (hw _ (List.mem_of_getElem? (i := 46) rfl)) (hw _ (List.mem_of_getElem? (i := 2) rfl)) (by decide) (by decide)) q35a q35c (g := (mkF m 183 #[.val (.int a1), .val (.int b1), .val (.int c1), .val (.int t3), .val (.int t4), .val (.ref b3), .val (.int (c1 &&& (3 : Int32))), .val (.ref sn), .val (.int (0 : Int32))] [(.ref sn), (.ref b3)])) rfl (by rw [hml]; rfl) (Steps.refl _) (argsL := [(.ref sn)]) (rest := []) (lenOf own_pd7 rfl) rfl (by show 2 * 0 + _ ≤ _; exact Nat.le_of_eq rfl) (hb hby at_183) (fun _ _ => ⟨rfl, (rfl : T34.heap = _), (by decide : 5 + 0 ≤ _), (by decide : 45 + 0 ≤ _)⟩)
    dsimp only [Pt.U, Pt.locs, Pt.cells, Pt.slots] at X35 ql35 qy35 qz35 st35 hQ35
    subst ql35 qy35 qz35
    obtain ⟨rfl, Nq35, eq35⟩ := hQ35
    have N35 := Fr.app N34 Nq35
    obtain ⟨fs, hr, hrun, hended, hret⟩ := X35.leaveW hSi7 (by rw [eq35]; exact (Nat.le_trans (Nat.le_refl _) Kv.1)) (v := some (.int (1 : Int32))) (fun h => by rw [Bd.returns] at h; cases h)
    have hret := own_wmono hret (by decide : _ ≤ room_1.cells) (by decide : _ ≤ room_1.slots)
    refine ⟨_, _, pre0 _ ?_, hrun, hended, _, _, rfl, ?_, hret⟩
    · show Steps p.tables e below (s₁.setTop (mkF m 0 #[.val (.int a1), .val (.int b1), .val (.int c1), .unset, .unset, .unset, .unset, .unset, .unset] [])) _
      refine st1 _ ?_
      show Steps p.tables e below (T1.setTop (mkF m 12 #[.val (.int a1), .val (.int b1), .val (.int c1), .val (.int t3), .unset, .unset, .unset, .unset, .unset] [])) _
      refine st2 _ ?_
      show Steps p.tables e below (T2.setTop (mkF m 25 #[.val (.int a1), .val (.int b1), .val (.int c1), .val (.int t3), .val (.int t4), .unset, .unset, .unset, .unset] [])) _
      refine st3 _ ?_
      show Steps p.tables e below (T3.setTop (mkF m 28 #[.val (.int a1), .val (.int b1), .val (.int c1), .val (.int t3), .val (.int t4), .unset, .unset, .unset, .unset] [(.ref b3)])) _
      refine XS.dup X3.here hx rfl (hb hby at_28) rfl rfl ?_
      show Steps p.tables e below (T3.setTop (mkF m 29 #[.val (.int a1), .val (.int b1), .val (.int c1), .val (.int t3), .val (.int t4), .unset, .unset, .unset, .unset] [(.ref b3), (.ref b3)])) _
      refine st4 _ ?_
      show Steps p.tables e below (T4.setTop (mkF m 42 #[.val (.int a1), .val (.int b1), .val (.int c1), .val (.int t3), .val (.int t4), .unset, .unset, .unset, .unset] [(.ref op), (.ref b3), (.ref b3)])) _
      refine st7.trans ?_
      show Steps p.tables e below (T7.setTop (mkF m 45 #[.val (.int a1), .val (.int b1), .val (.int c1), .val (.int t3), .val (.int t4), .unset, .unset, .unset, .unset] [(.ref b3)])) _
      refine XS.astore X7.here hx rfl (hb hby at_45) rfl rfl (l' := #[.val (.int a1), .val (.int b1), .val (.int c1), .val (.int t3), .val (.int t4), .val (.ref b3), .unset, .unset, .unset]) rfl ?_
      show Steps p.tables e below (T7.setTop (mkF m 47 #[.val (.int a1), .val (.int b1), .val (.int c1), .val (.int t3), .val (.int t4), .val (.ref b3), .unset, .unset, .unset] [])) _
      refine XS.iloadN X7.here hx rfl (hb hby at_47) rfl ?_
      show Steps p.tables e below (T7.setTop (mkF m 48 #[.val (.int a1), .val (.int b1), .val (.int c1), .val (.int t3), .val (.int t4), .val (.ref b3), .unset, .unset, .unset] [(.int c1)])) _
      refine XS.iconst X7.here hx rfl (hb hby at_48) ?_
      show Steps p.tables e below (T7.setTop (mkF m 49 #[.val (.int a1), .val (.int b1), .val (.int c1), .val (.int t3), .val (.int t4), .val (.ref b3), .unset, .unset, .unset] [(.int (3 : Int32)), (.int c1)])) _
      refine XS.iand X7.here hx rfl (hb hby at_49) rfl ?_
      show Steps p.tables e below (T7.setTop (mkF m 50 #[.val (.int a1), .val (.int b1), .val (.int c1), .val (.int t3), .val (.int t4), .val (.ref b3), .unset, .unset, .unset] [(.int (c1 &&& (3 : Int32)))])) _
      refine XS.istore X7.here hx rfl (hb hby at_50) rfl (l' := #[.val (.int a1), .val (.int b1), .val (.int c1), .val (.int t3), .val (.int t4), .val (.ref b3), .val (.int (c1 &&& (3 : Int32))), .unset, .unset]) rfl ?_
      show Steps p.tables e below (T7.setTop (mkF m 52 #[.val (.int a1), .val (.int b1), .val (.int c1), .val (.int t3), .val (.int t4), .val (.ref b3), .val (.int (c1 &&& (3 : Int32))), .unset, .unset] [])) _
      refine XS.iload X7.here hx rfl (hb hby at_52) rfl ?_
      show Steps p.tables e below (T7.setTop (mkF m 54 #[.val (.int a1), .val (.int b1), .val (.int c1), .val (.int t3), .val (.int t4), .val (.ref b3), .val (.int (c1 &&& (3 : Int32))), .unset, .unset] [(.int (c1 &&& (3 : Int32)))])) _
      refine XS.ifYes X7.here hx rfl (pc0 := 54) (pc' := 96) rfl (hb hby at_54) rfl ((if0 _ _).trans (feq (by rw [hk]; decide : ¬ ((c1 &&& (3 : Int32)) = (0 : Int32)))).2) (by decide) (by decide) ?_
      show Steps p.tables e below (T7.setTop (mkF m 96 #[.val (.int a1), .val (.int b1), .val (.int c1), .val (.int t3), .val (.int t4), .val (.ref b3), .val (.int (c1 &&& (3 : Int32))), .unset, .unset] [])) _
      refine XS.iload X7.here hx rfl (hb hby at_96) rfl ?_
      show Steps p.tables e below (T7.setTop (mkF m 98 #[.val (.int a1), .val (.int b1), .val (.int c1), .val (.int t3), .val (.int t4), .val (.ref b3), .val (.int (c1 &&& (3 : Int32))), .unset, .unset] [(.int (c1 &&& (3 : Int32)))])) _
      refine XS.iconst X7.here hx rfl (hb hby at_98) ?_
      show Steps p.tables e below (T7.setTop (mkF m 99 #[.val (.int a1), .val (.int b1), .val (.int c1), .val (.int t3), .val (.int t4), .val (.ref b3), .val (.int (c1 &&& (3 : Int32))), .unset, .unset] [(.int (1 : Int32)), (.int (c1 &&& (3 : Int32)))])) _
      refine XS.icmpYes X7.here hx rfl (pc0 := 99) (pc' := 111) rfl (hb hby at_99) rfl (feq (by rw [hk]; decide : ¬ ((c1 &&& (3 : Int32)) = (1 : Int32)))).2 (by decide) (by decide) ?_
      show Steps p.tables e below (T7.setTop (mkF m 111 #[.val (.int a1), .val (.int b1), .val (.int c1), .val (.int t3), .val (.int t4), .val (.ref b3), .val (.int (c1 &&& (3 : Int32))), .unset, .unset] [])) _
      refine XS.iload X7.here hx rfl (hb hby at_111) rfl ?_
      show Steps p.tables e below (T7.setTop (mkF m 113 #[.val (.int a1), .val (.int b1), .val (.int c1), .val (.int t3), .val (.int t4), .val (.ref b3), .val (.int (c1 &&& (3 : Int32))), .unset, .unset] [(.int (c1 &&& (3 : Int32)))])) _
      refine XS.iconst X7.here hx rfl (hb hby at_113) ?_
      show Steps p.tables e below (T7.setTop (mkF m 114 #[.val (.int a1), .val (.int b1), .val (.int c1), .val (.int t3), .val (.int t4), .val (.ref b3), .val (.int (c1 &&& (3 : Int32))), .unset, .unset] [(.int (2 : Int32)), (.int (c1 &&& (3 : Int32)))])) _
      refine XS.icmpYes X7.here hx rfl (pc0 := 114) (pc' := 127) rfl (hb hby at_114) rfl (feq (by rw [hk]; decide : ¬ ((c1 &&& (3 : Int32)) = (2 : Int32)))).2 (by decide) (by decide) ?_
      show Steps p.tables e below (T7.setTop (mkF m 127 #[.val (.int a1), .val (.int b1), .val (.int c1), .val (.int t3), .val (.int t4), .val (.ref b3), .val (.int (c1 &&& (3 : Int32))), .unset, .unset] [])) _
      refine XS.iloadN X7.here hx rfl (hb hby at_127) rfl ?_
      show Steps p.tables e below (T7.setTop (mkF m 128 #[.val (.int a1), .val (.int b1), .val (.int c1), .val (.int t3), .val (.int t4), .val (.ref b3), .val (.int (c1 &&& (3 : Int32))), .unset, .unset] [(.int b1)])) _
      refine XS.iconst X7.here hx rfl (hb hby at_128) ?_
      show Steps p.tables e below (T7.setTop (mkF m 129 #[.val (.int a1), .val (.int b1), .val (.int c1), .val (.int t3), .val (.int t4), .val (.ref b3), .val (.int (c1 &&& (3 : Int32))), .unset, .unset] [(.int (2 : Int32)), (.int b1)])) _
      refine XS.iand X7.here hx rfl (hb hby at_129) rfl ?_
      show Steps p.tables e below (T7.setTop (mkF m 130 #[.val (.int a1), .val (.int b1), .val (.int c1), .val (.int t3), .val (.int t4), .val (.ref b3), .val (.int (c1 &&& (3 : Int32))), .unset, .unset] [(.int (b1 &&& (2 : Int32)))])) _
      refine XS.ifYes X7.here hx rfl (pc0 := 130) (pc' := 162) rfl (hb hby at_130) rfl ((if0 _ _).trans (teq (hbt : (b1 &&& (2 : Int32)) = (0 : Int32))).1) (by decide) (by decide) ?_
      show Steps p.tables e below (T7.setTop (mkF m 162 #[.val (.int a1), .val (.int b1), .val (.int c1), .val (.int t3), .val (.int t4), .val (.ref b3), .val (.int (c1 &&& (3 : Int32))), .unset, .unset] [])) _
      refine XS.iloadN X7.here hx rfl (hb hby at_162) rfl ?_
      show Steps p.tables e below (T7.setTop (mkF m 163 #[.val (.int a1), .val (.int b1), .val (.int c1), .val (.int t3), .val (.int t4), .val (.ref b3), .val (.int (c1 &&& (3 : Int32))), .unset, .unset] [(.int a1)])) _
      refine XS.bipush X7.here hx rfl (hb hby at_163) ?_
      show Steps p.tables e below (T7.setTop (mkF m 165 #[.val (.int a1), .val (.int b1), .val (.int c1), .val (.int t3), .val (.int t4), .val (.ref b3), .val (.int (c1 &&& (3 : Int32))), .unset, .unset] [(.int (8 : Int32)), (.int a1)])) _
      refine XS.iushr X7.here hx rfl (hb hby at_165) rfl ?_
      show Steps p.tables e below (T7.setTop (mkF m 166 #[.val (.int a1), .val (.int b1), .val (.int c1), .val (.int t3), .val (.int t4), .val (.ref b3), .val (.int (c1 &&& (3 : Int32))), .unset, .unset] [(.int ((a1.toUInt32 >>> ((8 : Int32) &&& 31).toUInt32).toInt32))])) _
      refine XS.sipush X7.here hx rfl (hb hby at_166) ?_
      show Steps p.tables e below (T7.setTop (mkF m 169 #[.val (.int a1), .val (.int b1), .val (.int c1), .val (.int t3), .val (.int t4), .val (.ref b3), .val (.int (c1 &&& (3 : Int32))), .unset, .unset] [(.int (255 : Int32)), (.int ((a1.toUInt32 >>> ((8 : Int32) &&& 31).toUInt32).toInt32))])) _
      refine XS.iand X7.here hx rfl (hb hby at_169) rfl ?_
      show Steps p.tables e below (T7.setTop (mkF m 170 #[.val (.int a1), .val (.int b1), .val (.int c1), .val (.int t3), .val (.int t4), .val (.ref b3), .val (.int (c1 &&& (3 : Int32))), .unset, .unset] [(.int (((a1.toUInt32 >>> ((8 : Int32) &&& 31).toUInt32).toInt32) &&& (255 : Int32)))])) _
      refine XS.i2c X7.here hx rfl (hb hby at_170) rfl ?_
      show Steps p.tables e below (T7.setTop (mkF m 171 #[.val (.int a1), .val (.int b1), .val (.int c1), .val (.int t3), .val (.int t4), .val (.ref b3), .val (.int (c1 &&& (3 : Int32))), .unset, .unset] [(.int ((((a1.toUInt32 >>> ((8 : Int32) &&& 31).toUInt32).toInt32) &&& (255 : Int32)).toUInt32.toUInt16.toUInt32.toInt32))])) _
      refine st34 _ ?_
      show Steps p.tables e below (T34.setTop (mkF m 174 #[.val (.int a1), .val (.int b1), .val (.int c1), .val (.int t3), .val (.int t4), .val (.ref b3), .val (.int (c1 &&& (3 : Int32))), .unset, .unset] [(.ref sn)])) _
      refine XS.astore X34.here hx rfl (hb hby at_174) rfl rfl (l' := #[.val (.int a1), .val (.int b1), .val (.int c1), .val (.int t3), .val (.int t4), .val (.ref b3), .val (.int (c1 &&& (3 : Int32))), .val (.ref sn), .unset]) rfl ?_
      show Steps p.tables e below (T34.setTop (mkF m 176 #[.val (.int a1), .val (.int b1), .val (.int c1), .val (.int t3), .val (.int t4), .val (.ref b3), .val (.int (c1 &&& (3 : Int32))), .val (.ref sn), .unset] [])) _
      refine XS.iconst X34.here hx rfl (hb hby at_176) ?_
      show Steps p.tables e below (T34.setTop (mkF m 177 #[.val (.int a1), .val (.int b1), .val (.int c1), .val (.int t3), .val (.int t4), .val (.ref b3), .val (.int (c1 &&& (3 : Int32))), .val (.ref sn), .unset] [(.int (0 : Int32))])) _
      refine XS.istore X34.here hx rfl (hb hby at_177) rfl (l' := #[.val (.int a1), .val (.int b1), .val (.int c1), .val (.int t3), .val (.int t4), .val (.ref b3), .val (.int (c1 &&& (3 : Int32))), .val (.ref sn), .val (.int (0 : Int32))]) rfl ?_
      show Steps p.tables e below (T34.setTop (mkF m 179 #[.val (.int a1), .val (.int b1), .val (.int c1), .val (.int t3), .val (.int t4), .val (.ref b3), .val (.int (c1 &&& (3 : Int32))), .val (.ref sn), .val (.int (0 : Int32))] [])) _
      refine XS.aload X34.here hx rfl (hb hby at_179) rfl rfl ?_
      show Steps p.tables e below (T34.setTop (mkF m 181 #[.val (.int a1), .val (.int b1), .val (.int c1), .val (.int t3), .val (.int t4), .val (.ref b3), .val (.int (c1 &&& (3 : Int32))), .val (.ref sn), .val (.int (0 : Int32))] [(.ref b3)])) _
      refine XS.aload X34.here hx rfl (hb hby at_181) rfl rfl ?_
      show Steps p.tables e below (T34.setTop (mkF m 183 #[.val (.int a1), .val (.int b1), .val (.int c1), .val (.int t3), .val (.int t4), .val (.ref b3), .val (.int (c1 &&& (3 : Int32))), .val (.ref sn), .val (.int (0 : Int32))] [(.ref sn), (.ref b3)])) _
      refine st35.trans ?_
      show Steps p.tables e below (T35.setTop (mkF m 186 #[.val (.int a1), .val (.int b1), .val (.int c1), .val (.int t3), .val (.int t4), .val (.ref b3), .val (.int (c1 &&& (3 : Int32))), .val (.ref sn), .val (.int (0 : Int32))] [(.int (0 : Int32))])) _
      refine XS.iload X35.here hx rfl (hb hby at_186) rfl ?_
      show Steps p.tables e below (T35.setTop (mkF m 188 #[.val (.int a1), .val (.int b1), .val (.int c1), .val (.int t3), .val (.int t4), .val (.ref b3), .val (.int (c1 &&& (3 : Int32))), .val (.ref sn), .val (.int (0 : Int32))] [(.int (0 : Int32)), (.int (0 : Int32))])) _
      refine XS.icmpNo X35.here hx rfl (hb hby at_188) rfl (teq (rfl : (0 : Int32) = (0 : Int32))).2 ?_
      show Steps p.tables e below (T35.setTop (mkF m 191 #[.val (.int a1), .val (.int b1), .val (.int c1), .val (.int t3), .val (.int t4), .val (.ref b3), .val (.int (c1 &&& (3 : Int32))), .val (.ref sn), .val (.int (0 : Int32))] [])) _
      refine XS.iconst X35.here hx rfl (hb hby at_191) ?_
      show Steps p.tables e below (T35.setTop (mkF m 192 #[.val (.int a1), .val (.int b1), .val (.int c1), .val (.int t3), .val (.int t4), .val (.ref b3), .val (.int (c1 &&& (3 : Int32))), .val (.ref sn), .val (.int (0 : Int32))] [(.int (1 : Int32))])) _
      refine XS.goto X35.here hx rfl (pc0 := 192) (pc' := 196) rfl (hb hby at_192) (by decide) (by decide) ?_
      show Steps p.tables e below (T35.setTop (mkF m 196 #[.val (.int a1), .val (.int b1), .val (.int c1), .val (.int t3), .val (.int t4), .val (.ref b3), .val (.int (c1 &&& (3 : Int32))), .val (.ref sn), .val (.int (0 : Int32))] [(.int (1 : Int32))])) _
      exact retN X35 hx (t := .boolean) Bd.returns (by simp) (hb hby at_196) hr
    · show own_QL n0 _ T35.heap _
      exact ⟨rfl, N35⟩
set_option maxRecDepth 65536 in
set_option maxHeartbeats 40000000 in
theorem comes_1 {Post : Tables → Env → Array Value → State → Outcome → State → Prop} (hpost : ∀ tb e args s v u, (limb_1_1.after args s (.returned v) u = true ∧ limb_1_2.after args s (.returned v) u = true ∧ True) → ReturnedEndW s (.returned v) u (Jvm.fieldLocs frame_1_writes args s ++ Jvm.arrayLocs frame_1_arrays args s ++ Jvm.staticLocs frame_1_statics s) 24 2176 → Post tb e args s (.returned v) u) :
    ArmFor flags0 classFile x code maxLocals ret World_1 tables_1 room_1 Calls_1 rest_1 Pre_1 Post := by
  intro l hfl _ _ p e ha hc hk s m args below hf hA hF happ hP
  obtain ⟨hcalls, hrest, hpre⟩ := hP
  obtain ⟨-, -, -, hnamed, -, -, -, hat⟩ := (Spec.applies_iff hf).mp happ
  obtain ⟨hg, hn⟩ := and_e (Cond.before_iff.mp (show (Jvm.Cond.and given_1 narrow_1).before args s = true from hpre))
  obtain ⟨g_n, hg⟩ := and_e hg
  obtain ⟨g_0, hg⟩ := and_e hg
  obtain ⟨g_1, hg⟩ := and_e hg
  have g_2 := hg
  obtain ⟨w0, w1, w2, rfl⟩ : ∃ w0 w1 w2 : Value, args = #[w0, w1, w2] := by
    have hs : args.size = 3 := by simpa [Cond.value, given_1] using g_n
    obtain ⟨L⟩ := args
    match L, hs with
    | [w0, w1, w2], _ => exact ⟨w0, w1, w2, rfl⟩
  have hw := fun d (hd : d ∈ tables_1) => atoms_spec (ws := Jvm.Cond.code x code maxLocals ret :: tables_1) hat d (List.mem_cons_of_mem _ hd)
  have hfit : Fit s := fun {y c} hc i hi => by
    obtain ⟨ha, rfl⟩ := Array.getElem?_eq_some_iff.mp hc
    have q := List.all_eq_true.mp ((Array.all_eq_true_iff_forall_mem.mp hF) _ (Array.getElem_mem ha)) i (List.mem_range.mpr hi)
    simpa [Array.getElem?_eq_getElem hi] using q
  obtain ⟨i0, ei0⟩ := is_v g_0
  obtain rfl : w0 = (.int i0) := Option.some.inj ei0
  obtain ⟨i1, ei1⟩ := is_v g_1
  obtain rfl : w1 = (.int i1) := Option.some.inj ei1
  obtain ⟨i2, ei2⟩ := is_v g_2
  obtain rfl : w2 = (.int i2) := Option.some.inj ei2
  obtain ⟨c0, hn⟩ := and_e hn
  obtain ⟨c1, hn⟩ := and_e hn
  obtain ⟨c2, hn⟩ := and_e hn
  obtain ⟨c3, hn⟩ := and_e hn
  obtain ⟨c4, hn⟩ := and_e hn
  have c5 := hn
  obtain ⟨a_FALSE, ev_FALSE⟩ := exa_v c0
  have E_FALSE := Exa.start ev_FALSE c0
  have S_FALSE := Sta.start ev_FALSE (Or.inr ⟨(hw _ (List.mem_of_getElem? (i := 4) rfl)), (hw _ (List.mem_of_getElem? (i := 5) rfl))⟩)
  obtain ⟨a_TRUE, ev_TRUE⟩ := exa_v c1
  have E_TRUE := Exa.start ev_TRUE c1
  have S_TRUE := Sta.start ev_TRUE (Or.inr ⟨(hw _ (List.mem_of_getElem? (i := 4) rfl)), (hw _ (List.mem_of_getElem? (i := 50) rfl))⟩)
  obtain ⟨a_FALSE2, ev_FALSE2⟩ := exa_v c2
  have E_FALSE2 := Exa.start ev_FALSE2 c2
  have S_FALSE2 := Sta.start ev_FALSE2 (Or.inr ⟨(hw _ (List.mem_of_getElem? (i := 76) rfl)), (hw _ (List.mem_of_getElem? (i := 77) rfl))⟩)
  obtain ⟨a_TRUE2, ev_TRUE2⟩ := exa_v c3
  have E_TRUE2 := Exa.start ev_TRUE2 c3
  have S_TRUE2 := Sta.start ev_TRUE2 (Or.inr ⟨(hw _ (List.mem_of_getElem? (i := 76) rfl)), (hw _ (List.mem_of_getElem? (i := 98) rfl))⟩)
  have F_TRUE_ordinal := Fld.start ((fld_at ev_TRUE).symm.trans (own_eqI c4))
  have F_FALSE_ordinal := Fld.start ((fld_at ev_FALSE).symm.trans (own_eqI c5))
  obtain ⟨hsets, hown0⟩ := atoms_of _ (rest_1_c_eq ▸ (show rest_1_c.before _ s = true from hrest))
  obtain ⟨iC, eC⟩ := is_v (Cond.before_iff.mp (hsets _ (List.mem_of_getElem? (i := 1) rfl)))
  have S_C : Sta s s.heap "java/lang/String" "COMPACT_STRINGS" "Z" (.int iC) := Sta.start eC (Or.inl (hsets _ (List.mem_of_getElem? (i := 0) rfl)))
  have hnC : ¬ iC = (0 : Int32) := gotF (Cond.eq_ints eC (Term.int_eval 0)) (not_v (Cond.before_iff.mp (hsets _ (List.mem_of_getElem? (i := 2) rfl))))
  obtain ⟨n, o, h1, h2, h3, _, L, rfl, ⟨rfl, N⟩, hq⟩ := own_rm0 l s _ hw tables_1 i0 i1 i2 a_TRUE a_FALSE a_TRUE2 a_FALSE2 iC s.heap s.heap.size (Nat.le_refl _) S_TRUE E_TRUE S_FALSE E_FALSE S_TRUE2 E_TRUE2 S_FALSE2 E_FALSE2 S_C hnC (own_ne F_TRUE_ordinal F_FALSE_ordinal (own_nv (by decide))) p e ha hc hk s m _ below hf ((Spec.applies_iff_loose hf).mp happ).1 ⟨rfl, State.Warmed39.refl s, rfl⟩ trivial
  refine ⟨n, _, h1, h2, h3, hpost _ _ _ _ _ _ ⟨Cond.after_iff.mpr rfl, Cond.after_iff.mpr (eq_i res_at (Term.int_eval (1)) rfl), trivial⟩ ⟨hq.1, hq.2.1, hq.2.2.1, (hq.2.2.2.sift fun y hy => Or.inr (N y hy)).mono (by decide) (by decide)⟩⟩
theorem main_1_1 : Claimed_1_1 := comes_1 fun _ _ _ _ _ _ h hF => ⟨h.1, hF⟩
theorem main_1_2 : Claimed_1_2 := comes_1 fun _ _ _ _ _ _ h hF => ⟨h.2.1, hF⟩
end Jvm.Pilot.@@N@@
namespace Jvm.Pilot.@@N@@
open Jvm Jvm.ClassFile Sem Op Lib Jvm.Free Jvm.Stand Jvm.Pilot.@@N@@.Jvm.D
/-! MADE BY PROGRAM (witnessworld.py) out of the Statement's table words and the real class files: 25 classes; the members and pool entries that the words name. The judged class is class 1, her method 1. -/
namespace start1
open Jvm.ClassFile
def u (s : String) : CpInfo := .utf8 (stringToUtf16 s)
/-- a pool by its gaps: so many unusable entries, then the entry; so many at the end -/
def gap : Nat → List CpInfo → List CpInfo
  | 0, r => r
  | n + 1, r => .unusable :: gap n r
def poolList (es : List (Nat × CpInfo)) (last : Nat) : List CpInfo := es.foldr (fun e r => gap e.1 (e.2 :: r)) (gap last [])
def pool (es : List (Nat × CpInfo)) (last : Nat) : Array CpInfo := ⟨poolList es last⟩
def fileOf (pool : Array CpInfo) (this : Nat) (attrs : Array Attribute := #[]) (ms : Array MethodInfo := #[]) (fl : Nat := 33) (sup : Nat := 0) (ifs : Array Nat := #[]) (fds : Array FieldInfo := #[]) : ClassFile where
  minorVersion := 0
  majorVersion := 65
  constantPool := pool
  accessFlags := fl
  thisClass := this
  superClass := sup
  interfaces := ifs
  fields := fds
  methods := ms
  attributes := attrs
def plain (name : String) (sup : Option ClassId) : Class where
  name := name
  kind := .ordinary
  loader := none
  accessFlags := 33
  super := sup
  interfaces := #[]
  cf := none
  fields := #[]
  methods := #[]
  instanceTypes := #[]
  staticTypes := #[]
  resolved := #[]
  callSites := []
  init := .initialized
  statics := none
  mirror := none

def pool0 : Array CpInfo := pool [(5, u "<init>"), (0, u "()V"), (1, .class_ 10), (1, u "java/lang/Object")] 113

def k0c0 : Code := { maxStack := 0, maxLocals := 1, code := object_method_1_code, exceptionTable := #[], attributes := #[] }
def k0m0 : Method := { name := "<init>", desc := "()V", sig := { parameters := [], returnType := none }, accessFlags := 1, code := some k0c0 }
/-- java/lang/Object -/
def k0 : Class := { plain "java/lang/Object" none with
  accessFlags := 33
  interfaces := #[]
  cf := some (fileOf pool0 8 #[] #[{ accessFlags := 1, nameIndex := 5, descriptorIndex := 6, attributes := #[] }] 33 0 #[] #[])
  fields := #[]
  methods := #[k0m0]
  instanceTypes := #[]
  staticTypes := #[]
  resolved := Array.replicate 124 none
  statics := none }

def pool1 : Array CpInfo := pool [(2, .class_ 4), (1, u "java/lang/Object"), (0, u "<init>"), (0, u "()V"), (0, .class_ 8), (0, u "com/example/invarient/invarient/model/AtomicPredicate"), (0, .fieldref 10 11), (0, .class_ 12), (0, .nameAndType 13 14), (0, u "com/example/invarient/invarient/model/AtomicPredicate$Operator"), (0, u "TRUE"), (0, u "Lcom/example/invarient/invarient/model/AtomicPredicate$Operator;"), (0, .fieldref 10 16), (0, .nameAndType 17 14), (0, u "FALSE"), (0, .methodref 7 19), (0, .nameAndType 5 20), (0, u "(Lcom/example/invarient/invarient/model/AtomicPredicate$Operator;)V"), (0, .class_ 22), (0, u "com/example/invarient/invarient/model/AtomicExpression"), (0, .fieldref 24 25), (0, .class_ 26), (0, .nameAndType 13 27), (0, u "com/example/invarient/invarient/model/AtomicExpression$Operator"), (0, u "Lcom/example/invarient/invarient/model/AtomicExpression$Operator;"), (0, .fieldref 24 29), (0, .nameAndType 17 27), (0, .methodref 21 31), (0, .nameAndType 5 32), (0, u "(Lcom/example/invarient/invarient/model/AtomicExpression$Operator;)V"), (0, .methodref 34 35), (0, .class_ 36), (0, .nameAndType 37 38), (0, u "java/lang/String"), (0, u "valueOf"), (0, u "(C)Ljava/lang/String;"), (0, .methodref 7 40), (0, .nameAndType 41 42), (0, u "equals"), (0, u "(Ljava/lang/Object;)Z"), (0, .class_ 44), (0, u "com/example/invarient/invarient/model/AtomicPredicateEqualsPinLaw"), (2, u "law"), (0, u "(III)Z")] 5

def k1m0 : Method := { name := "<init>", desc := "()V", sig := { parameters := [], returnType := none }, accessFlags := 1, code := none }
def k1c1 : Code := { maxStack := 3, maxLocals := 9, code := code, exceptionTable := #[], attributes := #[] }
def k1m1 : Method := { name := "law", desc := "(III)Z", sig := { parameters := [.int, .int, .int], returnType := some .boolean }, accessFlags := 9, code := some k1c1 }
/-- com/example/invarient/invarient/model/AtomicPredicateEqualsPinLaw -/
def k1 : Class := { plain "com/example/invarient/invarient/model/AtomicPredicateEqualsPinLaw" (some 0) with
  accessFlags := 49
  interfaces := #[]
  cf := some (fileOf pool1 43 #[] #[{ accessFlags := 1, nameIndex := 5, descriptorIndex := 6, attributes := #[] }, { accessFlags := 9, nameIndex := 47, descriptorIndex := 48, attributes := #[] }] 49 2 #[] #[])
  fields := #[]
  methods := #[k1m0, k1m1]
  instanceTypes := #[]
  staticTypes := #[]
  resolved := Array.replicate 54 none
  statics := none }

def pool2 : Array CpInfo := pool [(1, .methodref 2 3), (0, .class_ 4), (0, .nameAndType 5 6), (0, u "java/lang/Object"), (0, u "<init>"), (0, u "()V"), (0, .fieldref 8 9), (0, .class_ 10), (0, .nameAndType 11 12), (0, u "com/example/invarient/invarient/model/Formula"), (0, u "height"), (0, u "I"), (15, u "hash"), (48, u "(I)V")] 29

def k2c0 : Code := { maxStack := 2, maxLocals := 2, code := prog_61_method_1_code, exceptionTable := #[], attributes := #[] }
def k2m0 : Method := { name := "<init>", desc := "(I)V", sig := { parameters := [.int], returnType := none }, accessFlags := 0, code := some k2c0 }
/-- com/example/invarient/invarient/model/Formula -/
def k2 : Class := { plain "com/example/invarient/invarient/model/Formula" (some 0) with
  accessFlags := 1057
  interfaces := #[]
  cf := some (fileOf pool2 8 #[] #[{ accessFlags := 0, nameIndex := 5, descriptorIndex := 77, attributes := #[] }] 1057 2 #[] #[{ accessFlags := 18, nameIndex := 11, descriptorIndex := 12, attributes := #[] }, { accessFlags := 2, nameIndex := 28, descriptorIndex := 12, attributes := #[] }])
  fields := #[{ name := "height", type := .int, accessFlags := 18, slot := 0, constantValue := 0 }, { name := "hash", type := .int, accessFlags := 2, slot := 1, constantValue := 0 }]
  methods := #[k2m0]
  instanceTypes := #[.int, .int]
  staticTypes := #[]
  resolved := Array.replicate 107 none
  statics := none }

def pool3 : Array CpInfo := pool [(1, .methodref 2 3), (0, .class_ 4), (0, .nameAndType 5 6), (0, u "com/example/invarient/invarient/model/Formula"), (0, u "<init>"), (0, u "(I)V"), (0, .fieldref 8 9), (0, .class_ 10), (0, .nameAndType 11 12), (0, u "com/example/invarient/invarient/model/Predicate"), (0, u "priority"), (0, u "I"), (12, u "BINARY_PRIORITY"), (2, u "ASSOCIATIVE_PRIORITY"), (1, u "NEGATION_PRIORITY"), (1, u "ATOMIC_PRIORITY"), (1, u "(II)V")] 26

def k3c0 : Code := { maxStack := 2, maxLocals := 3, code := prog_68_method_1_code, exceptionTable := #[], attributes := #[] }
def k3m0 : Method := { name := "<init>", desc := "(II)V", sig := { parameters := [.int, .int], returnType := none }, accessFlags := 0, code := some k3c0 }
/-- com/example/invarient/invarient/model/Predicate -/
def k3 : Class := { plain "com/example/invarient/invarient/model/Predicate" (some 2) with
  accessFlags := 1057
  interfaces := #[]
  cf := some (fileOf pool3 8 #[] #[{ accessFlags := 0, nameIndex := 5, descriptorIndex := 34, attributes := #[] }] 1057 2 #[] #[{ accessFlags := 24, nameIndex := 25, descriptorIndex := 12, attributes := #[] }, { accessFlags := 24, nameIndex := 28, descriptorIndex := 12, attributes := #[] }, { accessFlags := 24, nameIndex := 30, descriptorIndex := 12, attributes := #[] }, { accessFlags := 24, nameIndex := 32, descriptorIndex := 12, attributes := #[] }, { accessFlags := 18, nameIndex := 11, descriptorIndex := 12, attributes := #[] }])
  fields := #[{ name := "BINARY_PRIORITY", type := .int, accessFlags := 24, slot := 0, constantValue := 0 }, { name := "ASSOCIATIVE_PRIORITY", type := .int, accessFlags := 24, slot := 1, constantValue := 0 }, { name := "NEGATION_PRIORITY", type := .int, accessFlags := 24, slot := 2, constantValue := 0 }, { name := "ATOMIC_PRIORITY", type := .int, accessFlags := 24, slot := 3, constantValue := 0 }, { name := "priority", type := .int, accessFlags := 18, slot := 2, constantValue := 0 }]
  methods := #[k3m0]
  instanceTypes := #[.int, .int, .int]
  staticTypes := #[.int, .int, .int, .int]
  resolved := Array.replicate 61 none
  statics := none }

def pool4 : Array CpInfo := pool [(1, .class_ 2), (0, u "com/example/invarient/invarient/model/Predicate"), (0, .methodref 1 4), (0, .nameAndType 5 6), (0, u "<init>"), (0, u "(II)V"), (0, .string 8), (0, u "operator"), (0, .methodref 10 11), (0, .class_ 12), (0, .nameAndType 13 14), (0, u "java/util/Objects"), (0, u "requireNonNull"), (0, u "(Ljava/lang/Object;Ljava/lang/String;)Ljava/lang/Object;"), (0, .class_ 16), (0, u "com/example/invarient/invarient/model/AtomicPredicate$Operator"), (0, .fieldref 18 19), (0, .class_ 20), (0, .nameAndType 8 21), (0, u "com/example/invarient/invarient/model/AtomicPredicate"), (0, u "Lcom/example/invarient/invarient/model/AtomicPredicate$Operator;"), (17, u "(Lcom/example/invarient/invarient/model/AtomicPredicate$Operator;)V"), (12, u "equals"), (0, u "(Ljava/lang/Object;)Z")] 7

def k4c0 : Code := { maxStack := 3, maxLocals := 2, code := prog_39_method_1_code, exceptionTable := #[], attributes := #[] }
def k4m0 : Method := { name := "<init>", desc := "(Lcom/example/invarient/invarient/model/AtomicPredicate$Operator;)V", sig := { parameters := [(.object "com/example/invarient/invarient/model/AtomicPredicate$Operator")], returnType := none }, accessFlags := 1, code := some k4c0 }
def k4c1 : Code := { maxStack := 2, maxLocals := 3, code := prog_39_method_6_code, exceptionTable := #[], attributes := #[] }
def k4m1 : Method := { name := "equals", desc := "(Ljava/lang/Object;)Z", sig := { parameters := [(.object "java/lang/Object")], returnType := some .boolean }, accessFlags := 1, code := some k4c1 }
/-- com/example/invarient/invarient/model/AtomicPredicate -/
def k4 : Class := { plain "com/example/invarient/invarient/model/AtomicPredicate" (some 3) with
  accessFlags := 49
  interfaces := #[]
  cf := some (fileOf pool4 18 #[.nestMembers #[15]] #[{ accessFlags := 1, nameIndex := 5, descriptorIndex := 39, attributes := #[] }, { accessFlags := 1, nameIndex := 52, descriptorIndex := 53, attributes := #[] }] 49 1 #[] #[{ accessFlags := 18, nameIndex := 8, descriptorIndex := 21, attributes := #[] }])
  fields := #[{ name := "operator", type := (.object "com/example/invarient/invarient/model/AtomicPredicate$Operator"), accessFlags := 18, slot := 3, constantValue := 0 }]
  methods := #[k4m0, k4m1]
  instanceTypes := #[.int, .int, .int, (.object "com/example/invarient/invarient/model/AtomicPredicate$Operator")]
  staticTypes := #[]
  resolved := Array.replicate 61 none
  statics := none }

def pool5 : Array CpInfo := pool [(1, .class_ 2), (0, u "java/lang/constant/Constable"), (0, .class_ 4), (0, u "java/lang/Object")] 6

/-- java/lang/constant/Constable -/
def k5 : Class := { plain "java/lang/constant/Constable" (some 0) with
  accessFlags := 1537
  interfaces := #[]
  cf := some (fileOf pool5 1 #[] #[] 1537 3 #[] #[])
  fields := #[]
  methods := #[]
  instanceTypes := #[]
  staticTypes := #[]
  resolved := Array.replicate 11 none
  statics := none }

def pool6 : Array CpInfo := pool [(1, .class_ 2), (0, u "java/lang/Comparable"), (0, .class_ 4), (0, u "java/lang/Object")] 7

/-- java/lang/Comparable -/
def k6 : Class := { plain "java/lang/Comparable" (some 0) with
  accessFlags := 1537
  interfaces := #[]
  cf := some (fileOf pool6 1 #[] #[] 1537 3 #[] #[])
  fields := #[]
  methods := #[]
  instanceTypes := #[]
  staticTypes := #[]
  resolved := Array.replicate 12 none
  statics := none }

def pool7 : Array CpInfo := pool [(1, .class_ 2), (0, u "java/io/Serializable"), (0, .class_ 4), (0, u "java/lang/Object")] 2

/-- java/io/Serializable -/
def k7 : Class := { plain "java/io/Serializable" (some 0) with
  accessFlags := 1537
  interfaces := #[]
  cf := some (fileOf pool7 1 #[] #[] 1537 3 #[] #[])
  fields := #[]
  methods := #[]
  instanceTypes := #[]
  staticTypes := #[]
  resolved := Array.replicate 7 none
  statics := none }

def pool8 : Array CpInfo := pool [(2, .class_ 4), (1, u "java/lang/Enum"), (0, u "name"), (0, u "Ljava/lang/String;"), (2, u "ordinal"), (0, u "I"), (1, .class_ 14), (1, u "java/lang/Object"), (4, u "hash"), (86, .class_ 108), (1, u "java/lang/Enum$EnumDesc"), (2, .class_ 112), (0, u "java/lang/constant/Constable"), (0, .class_ 114), (0, u "java/lang/Comparable"), (0, .class_ 116), (0, u "java/io/Serializable")] 87

/-- java/lang/Enum -/
def k8 : Class := { plain "java/lang/Enum" (some 0) with
  accessFlags := 1057
  interfaces := #[5, 6, 7]
  cf := some (fileOf pool8 2 #[.nestMembers #[106]] #[] 1057 12 #[111, 113, 115] #[{ accessFlags := 18, nameIndex := 5, descriptorIndex := 6, attributes := #[] }, { accessFlags := 18, nameIndex := 9, descriptorIndex := 10, attributes := #[] }, { accessFlags := 2, nameIndex := 19, descriptorIndex := 10, attributes := #[] }])
  fields := #[{ name := "name", type := (.object "java/lang/String"), accessFlags := 18, slot := 0, constantValue := 0 }, { name := "ordinal", type := .int, accessFlags := 18, slot := 1, constantValue := 0 }, { name := "hash", type := .int, accessFlags := 2, slot := 2, constantValue := 0 }]
  methods := #[]
  instanceTypes := #[(.object "java/lang/String"), .int, .int]
  staticTypes := #[]
  resolved := Array.replicate 204 none
  statics := none }

def pool9 : Array CpInfo := pool [(1, .class_ 2), (0, u "com/example/invarient/invarient/model/AtomicPredicate$Operator"), (2, u "TRUE"), (0, u "Lcom/example/invarient/invarient/model/AtomicPredicate$Operator;"), (2, u "FALSE"), (2, u "$VALUES"), (0, u "[Lcom/example/invarient/invarient/model/AtomicPredicate$Operator;"), (6, .class_ 22), (1, u "java/lang/Enum"), (8, u "symbol"), (0, u "Ljava/lang/String;"), (27, .class_ 61), (0, u "com/example/invarient/invarient/model/AtomicPredicate")] 2

/-- com/example/invarient/invarient/model/AtomicPredicate$Operator -/
def k9 : Class := { plain "com/example/invarient/invarient/model/AtomicPredicate$Operator" (some 8) with
  accessFlags := 16433
  interfaces := #[]
  cf := some (fileOf pool9 1 #[.nestHost 60] #[] 16433 20 #[] #[{ accessFlags := 16409, nameIndex := 5, descriptorIndex := 6, attributes := #[] }, { accessFlags := 16409, nameIndex := 9, descriptorIndex := 6, attributes := #[] }, { accessFlags := 18, nameIndex := 31, descriptorIndex := 32, attributes := #[] }, { accessFlags := 4122, nameIndex := 12, descriptorIndex := 13, attributes := #[] }])
  fields := #[{ name := "TRUE", type := (.object "com/example/invarient/invarient/model/AtomicPredicate$Operator"), accessFlags := 16409, slot := 0, constantValue := 0 }, { name := "FALSE", type := (.object "com/example/invarient/invarient/model/AtomicPredicate$Operator"), accessFlags := 16409, slot := 1, constantValue := 0 }, { name := "symbol", type := (.object "java/lang/String"), accessFlags := 18, slot := 3, constantValue := 0 }, { name := "$VALUES", type := (.array (.object "com/example/invarient/invarient/model/AtomicPredicate$Operator")), accessFlags := 4122, slot := 2, constantValue := 0 }]
  methods := #[]
  instanceTypes := #[(.object "java/lang/String"), .int, .int, (.object "java/lang/String")]
  staticTypes := #[(.object "com/example/invarient/invarient/model/AtomicPredicate$Operator"), (.object "com/example/invarient/invarient/model/AtomicPredicate$Operator"), (.array (.object "com/example/invarient/invarient/model/AtomicPredicate$Operator"))]
  resolved := Array.replicate 64 none
  statics := some 0 }

def pool10 : Array CpInfo := pool [(2, .class_ 4), (1, u "java/lang/CharSequence"), (42, .class_ 48), (0, u "java/lang/CharSequence$1CodePointIterator"), (10, .class_ 60), (0, u "java/lang/CharSequence$1CharIterator"), (5, .class_ 67), (0, u "java/lang/Object")] 63

/-- java/lang/CharSequence -/
def k10 : Class := { plain "java/lang/CharSequence" (some 0) with
  accessFlags := 1537
  interfaces := #[]
  cf := some (fileOf pool10 2 #[.nestMembers #[47, 59]] #[] 1537 66 #[] #[])
  fields := #[]
  methods := #[]
  instanceTypes := #[]
  staticTypes := #[]
  resolved := Array.replicate 131 none
  statics := none }

def pool11 : Array CpInfo := pool [(1, .class_ 2), (0, u "java/lang/constant/ConstantDesc"), (0, .class_ 4), (0, u "java/lang/Object")] 32

/-- java/lang/constant/ConstantDesc -/
def k11 : Class := { plain "java/lang/constant/ConstantDesc" (some 0) with
  accessFlags := 1537
  interfaces := #[]
  cf := some (fileOf pool11 1 #[] #[] 1537 3 #[] #[])
  fields := #[]
  methods := #[]
  instanceTypes := #[]
  staticTypes := #[]
  resolved := Array.replicate 37 none
  statics := none }

def pool12 : Array CpInfo := pool [(1, .methodref 2 3), (0, .class_ 4), (0, .nameAndType 5 6), (0, u "java/lang/Object"), (0, u "<init>"), (0, u "()V"), (2, .fieldref 10 11), (0, .class_ 12), (0, .nameAndType 13 14), (0, u "java/lang/String"), (0, u "value"), (0, u "[B"), (0, .fieldref 10 16), (0, .nameAndType 17 18), (0, u "coder"), (0, u "B"), (2, u "hash"), (0, u "I"), (2, u "hashIsZero"), (0, u "Z"), (11, .fieldref 10 39), (0, .nameAndType 40 26), (0, u "COMPACT_STRINGS"), (12, u "toBytes"), (53, .class_ 109), (1, u "java/lang/StringLatin1"), (99, .methodref 10 210), (0, .nameAndType 5 211), (0, u "([BB)V"), (157, u "(C)Z"), (205, .class_ 576), (0, u "java/lang/CharSequence"), (22, u "CASE_INSENSITIVE_ORDER"), (0, u "Ljava/util/Comparator;"), (181, u "valueOf"), (0, u "(C)Ljava/lang/String;"), (231, .methodref 107 1016), (0, .nameAndType 1017 369), (0, u "canEncode"), (0, .methodref 107 1019), (0, .nameAndType 53 1020), (0, u "(C)[B"), (80, u "serialPersistentFields"), (0, u "[Ljava/io/ObjectStreamField;"), (0, .class_ 1104), (0, u "java/lang/String$CaseInsensitiveComparator"), (1, .class_ 1107), (0, u "java/io/Serializable"), (0, .class_ 1109), (0, u "java/lang/Comparable"), (0, .class_ 1111), (0, u "java/lang/constant/Constable"), (0, .class_ 1113), (0, u "java/lang/constant/ConstantDesc"), (2, u "serialVersionUID"), (0, u "J"), (3, u "REPL"), (0, u "C"), (2, u "LATIN1"), (1, u "UTF16")] 323

def k12m0 : Method := { name := "<init>", desc := "()V", sig := { parameters := [], returnType := none }, accessFlags := 1, code := none }
def k12c1 : Code := { maxStack := 4, maxLocals := 1, code := jdk_42_method_139_code, exceptionTable := #[], attributes := #[] }
def k12m1 : Method := { name := "valueOf", desc := "(C)Ljava/lang/String;", sig := { parameters := [.char], returnType := some (.object "java/lang/String") }, accessFlags := 9, code := some k12c1 }
def k12c2 : Code := { maxStack := 2, maxLocals := 3, code := jdk_42_method_151_code, exceptionTable := #[], attributes := #[] }
def k12m2 : Method := { name := "<init>", desc := "([BB)V", sig := { parameters := [(.array .byte), .byte], returnType := none }, accessFlags := 0, code := some k12c2 }
/-- java/lang/String -/
def k12 : Class := { plain "java/lang/String" (some 0) with
  accessFlags := 49
  interfaces := #[7, 6, 10, 5, 11]
  cf := some (fileOf pool12 10 #[.nestMembers #[1103]] #[{ accessFlags := 1, nameIndex := 5, descriptorIndex := 6, attributes := #[] }, { accessFlags := 9, nameIndex := 782, descriptorIndex := 783, attributes := #[] }, { accessFlags := 0, nameIndex := 5, descriptorIndex := 211, attributes := #[] }] 49 2 #[1106, 1108, 575, 1110, 1112] #[{ accessFlags := 18, nameIndex := 13, descriptorIndex := 14, attributes := #[] }, { accessFlags := 18, nameIndex := 17, descriptorIndex := 18, attributes := #[] }, { accessFlags := 2, nameIndex := 21, descriptorIndex := 22, attributes := #[] }, { accessFlags := 2, nameIndex := 25, descriptorIndex := 26, attributes := #[] }, { accessFlags := 26, nameIndex := 1116, descriptorIndex := 1117, attributes := #[] }, { accessFlags := 24, nameIndex := 40, descriptorIndex := 26, attributes := #[] }, { accessFlags := 26, nameIndex := 1101, descriptorIndex := 1102, attributes := #[] }, { accessFlags := 26, nameIndex := 1121, descriptorIndex := 1122, attributes := #[] }, { accessFlags := 25, nameIndex := 599, descriptorIndex := 600, attributes := #[] }, { accessFlags := 24, nameIndex := 1125, descriptorIndex := 18, attributes := #[] }, { accessFlags := 24, nameIndex := 1127, descriptorIndex := 18, attributes := #[] }])
  fields := #[{ name := "value", type := (.array .byte), accessFlags := 18, slot := 0, constantValue := 0 }, { name := "coder", type := .byte, accessFlags := 18, slot := 1, constantValue := 0 }, { name := "hash", type := .int, accessFlags := 2, slot := 2, constantValue := 0 }, { name := "hashIsZero", type := .boolean, accessFlags := 2, slot := 3, constantValue := 0 }, { name := "serialVersionUID", type := .long, accessFlags := 26, slot := 0, constantValue := 0 }, { name := "COMPACT_STRINGS", type := .boolean, accessFlags := 24, slot := 1, constantValue := 0 }, { name := "serialPersistentFields", type := (.array (.object "java/io/ObjectStreamField")), accessFlags := 26, slot := 2, constantValue := 0 }, { name := "REPL", type := .char, accessFlags := 26, slot := 3, constantValue := 0 }, { name := "CASE_INSENSITIVE_ORDER", type := (.object "java/util/Comparator"), accessFlags := 25, slot := 4, constantValue := 0 }, { name := "LATIN1", type := .byte, accessFlags := 24, slot := 5, constantValue := 0 }, { name := "UTF16", type := .byte, accessFlags := 24, slot := 6, constantValue := 0 }]
  methods := #[k12m0, k12m1, k12m2]
  instanceTypes := #[(.array .byte), .byte, .int, .boolean]
  staticTypes := #[.long, .boolean, (.array (.object "java/io/ObjectStreamField")), .char, (.object "java/util/Comparator"), .byte, .byte]
  resolved := Array.replicate 1451 none
  statics := some 1 }

def pool13 : Array CpInfo := pool [(2, .class_ 4), (1, u "java/lang/Object"), (0, u "<init>"), (0, u "()V"), (35, .class_ 44), (1, u "java/util/Objects"), (0, u "requireNonNull"), (48, u "(Ljava/lang/Object;Ljava/lang/String;)Ljava/lang/Object;")] 89

def k13m0 : Method := { name := "<init>", desc := "()V", sig := { parameters := [], returnType := none }, accessFlags := 2, code := none }
def k13c1 : Code := { maxStack := 3, maxLocals := 2, code := jdk_31_method_11_code, exceptionTable := #[], attributes := #[] }
def k13m1 : Method := { name := "requireNonNull", desc := "(Ljava/lang/Object;Ljava/lang/String;)Ljava/lang/Object;", sig := { parameters := [(.object "java/lang/Object"), (.object "java/lang/String")], returnType := some (.object "java/lang/Object") }, accessFlags := 9, code := some k13c1 }
/-- java/util/Objects -/
def k13 : Class := { plain "java/util/Objects" (some 0) with
  accessFlags := 49
  interfaces := #[]
  cf := some (fileOf pool13 42 #[] #[{ accessFlags := 2, nameIndex := 5, descriptorIndex := 6, attributes := #[] }, { accessFlags := 9, nameIndex := 45, descriptorIndex := 94, attributes := #[] }] 49 2 #[] #[])
  fields := #[]
  methods := #[k13m0, k13m1]
  instanceTypes := #[]
  staticTypes := #[]
  resolved := Array.replicate 184 none
  statics := none }

def pool14 : Array CpInfo := pool [(4, .class_ 6), (1, u "java/lang/Object"), (0, u "<init>"), (0, u "()V"), (5, .class_ 16), (1, u "java/lang/StringLatin1"), (73, u "canEncode"), (14, u "(C)Z"), (15, u "$assertionsDisabled"), (0, u "Z"), (98, .class_ 223), (1, u "java/lang/StringLatin1$LinesSpliterator"), (156, u "toBytes"), (1, u "(C)[B"), (7, .class_ 391), (0, u "java/lang/StringLatin1$CharsSpliterator")] 3

def k14m0 : Method := { name := "<init>", desc := "()V", sig := { parameters := [], returnType := none }, accessFlags := 0, code := none }
def k14c1 : Code := { maxStack := 2, maxLocals := 1, code := jdk_43_method_3_code, exceptionTable := #[], attributes := #[] }
def k14m1 : Method := { name := "canEncode", desc := "(C)Z", sig := { parameters := [.char], returnType := some .boolean }, accessFlags := 9, code := some k14c1 }
def k14c2 : Code := { maxStack := 4, maxLocals := 1, code := jdk_43_method_46_code, exceptionTable := #[], attributes := #[] }
def k14m2 : Method := { name := "toBytes", desc := "(C)[B", sig := { parameters := [.char], returnType := some (.array .byte) }, accessFlags := 9, code := some k14c2 }
/-- java/lang/StringLatin1 -/
def k14 : Class := { plain "java/lang/StringLatin1" (some 0) with
  accessFlags := 48
  interfaces := #[]
  cf := some (fileOf pool14 14 #[.nestMembers #[390, 221]] #[{ accessFlags := 0, nameIndex := 7, descriptorIndex := 8, attributes := #[] }, { accessFlags := 9, nameIndex := 90, descriptorIndex := 105, attributes := #[] }, { accessFlags := 9, nameIndex := 380, descriptorIndex := 382, attributes := #[] }] 48 4 #[] #[{ accessFlags := 4120, nameIndex := 121, descriptorIndex := 122, attributes := #[] }])
  fields := #[{ name := "$assertionsDisabled", type := .boolean, accessFlags := 4120, slot := 0, constantValue := 0 }]
  methods := #[k14m0, k14m1, k14m2]
  instanceTypes := #[]
  staticTypes := #[.boolean]
  resolved := Array.replicate 395 none
  statics := none }

def pool15 : Array CpInfo := pool [(1, .methodref 2 3), (0, .class_ 4), (0, .nameAndType 5 6), (0, u "com/example/invarient/invarient/model/Formula"), (0, u "<init>"), (0, u "(I)V"), (1, .class_ 10), (1, u "com/example/invarient/invarient/model/Expression$Priority"), (2, .class_ 14), (0, u "com/example/invarient/invarient/model/Expression"), (11, .class_ 27), (0, u "com/example/invarient/invarient/model/Expression$Grouping")] 20

def k15c0 : Code := { maxStack := 2, maxLocals := 2, code := prog_58_method_1_code, exceptionTable := #[], attributes := #[] }
def k15m0 : Method := { name := "<init>", desc := "(I)V", sig := { parameters := [.int], returnType := none }, accessFlags := 0, code := some k15c0 }
/-- com/example/invarient/invarient/model/Expression -/
def k15 : Class := { plain "com/example/invarient/invarient/model/Expression" (some 2) with
  accessFlags := 1057
  interfaces := #[]
  cf := some (fileOf pool15 13 #[.nestMembers #[26, 8]] #[{ accessFlags := 0, nameIndex := 5, descriptorIndex := 6, attributes := #[] }] 1057 2 #[] #[])
  fields := #[]
  methods := #[k15m0]
  instanceTypes := #[.int, .int]
  staticTypes := #[]
  resolved := Array.replicate 48 none
  statics := none }

def pool16 : Array CpInfo := pool [(1, .methodref 2 3), (0, .class_ 4), (0, .nameAndType 5 6), (0, u "com/example/invarient/invarient/model/Expression"), (0, u "<init>"), (0, u "(I)V"), (0, .string 8), (0, u "operator"), (0, .methodref 10 11), (0, .class_ 12), (0, .nameAndType 13 14), (0, u "java/util/Objects"), (0, u "requireNonNull"), (0, u "(Ljava/lang/Object;Ljava/lang/String;)Ljava/lang/Object;"), (0, .class_ 16), (0, u "com/example/invarient/invarient/model/AtomicExpression$Operator"), (0, .fieldref 18 19), (0, .class_ 20), (0, .nameAndType 8 21), (0, u "com/example/invarient/invarient/model/AtomicExpression"), (0, u "Lcom/example/invarient/invarient/model/AtomicExpression$Operator;"), (17, u "(Lcom/example/invarient/invarient/model/AtomicExpression$Operator;)V")] 21

def k16c0 : Code := { maxStack := 3, maxLocals := 2, code := prog_37_method_1_code, exceptionTable := #[], attributes := #[] }
def k16m0 : Method := { name := "<init>", desc := "(Lcom/example/invarient/invarient/model/AtomicExpression$Operator;)V", sig := { parameters := [(.object "com/example/invarient/invarient/model/AtomicExpression$Operator")], returnType := none }, accessFlags := 1, code := some k16c0 }
/-- com/example/invarient/invarient/model/AtomicExpression -/
def k16 : Class := { plain "com/example/invarient/invarient/model/AtomicExpression" (some 15) with
  accessFlags := 49
  interfaces := #[]
  cf := some (fileOf pool16 18 #[.nestMembers #[15]] #[{ accessFlags := 1, nameIndex := 5, descriptorIndex := 39, attributes := #[] }] 49 2 #[] #[{ accessFlags := 18, nameIndex := 8, descriptorIndex := 21, attributes := #[] }])
  fields := #[{ name := "operator", type := (.object "com/example/invarient/invarient/model/AtomicExpression$Operator"), accessFlags := 18, slot := 2, constantValue := 0 }]
  methods := #[k16m0]
  instanceTypes := #[.int, .int, (.object "com/example/invarient/invarient/model/AtomicExpression$Operator")]
  staticTypes := #[]
  resolved := Array.replicate 61 none
  statics := none }

def pool17 : Array CpInfo := pool [(1, .class_ 2), (0, u "com/example/invarient/invarient/model/AtomicExpression$Operator"), (2, u "EMPTY_SET"), (0, u "Lcom/example/invarient/invarient/model/AtomicExpression$Operator;"), (2, u "INTEGERS"), (2, u "NATURALS"), (2, u "NATURALS1"), (2, u "BOOL"), (2, u "TRUE"), (2, u "FALSE"), (2, u "IDENTITY"), (2, u "FIRST_PROJECTION"), (2, u "SECOND_PROJECTION"), (2, u "SUCCESSOR"), (2, u "PREDECESSOR"), (2, u "$VALUES"), (0, u "[Lcom/example/invarient/invarient/model/AtomicExpression$Operator;"), (6, .class_ 52), (1, u "java/lang/Enum"), (8, u "symbol"), (0, u "Ljava/lang/String;"), (51, .class_ 115), (0, u "com/example/invarient/invarient/model/AtomicExpression")] 2

/-- com/example/invarient/invarient/model/AtomicExpression$Operator -/
def k17 : Class := { plain "com/example/invarient/invarient/model/AtomicExpression$Operator" (some 8) with
  accessFlags := 16433
  interfaces := #[]
  cf := some (fileOf pool17 1 #[.nestHost 114] #[] 16433 50 #[] #[{ accessFlags := 16409, nameIndex := 5, descriptorIndex := 6, attributes := #[] }, { accessFlags := 16409, nameIndex := 9, descriptorIndex := 6, attributes := #[] }, { accessFlags := 16409, nameIndex := 12, descriptorIndex := 6, attributes := #[] }, { accessFlags := 16409, nameIndex := 15, descriptorIndex := 6, attributes := #[] }, { accessFlags := 16409, nameIndex := 18, descriptorIndex := 6, attributes := #[] }, { accessFlags := 16409, nameIndex := 21, descriptorIndex := 6, attributes := #[] }, { accessFlags := 16409, nameIndex := 24, descriptorIndex := 6, attributes := #[] }, { accessFlags := 16409, nameIndex := 27, descriptorIndex := 6, attributes := #[] }, { accessFlags := 16409, nameIndex := 30, descriptorIndex := 6, attributes := #[] }, { accessFlags := 16409, nameIndex := 33, descriptorIndex := 6, attributes := #[] }, { accessFlags := 16409, nameIndex := 36, descriptorIndex := 6, attributes := #[] }, { accessFlags := 16409, nameIndex := 39, descriptorIndex := 6, attributes := #[] }, { accessFlags := 18, nameIndex := 61, descriptorIndex := 62, attributes := #[] }, { accessFlags := 4122, nameIndex := 42, descriptorIndex := 43, attributes := #[] }])
  fields := #[{ name := "EMPTY_SET", type := (.object "com/example/invarient/invarient/model/AtomicExpression$Operator"), accessFlags := 16409, slot := 0, constantValue := 0 }, { name := "INTEGERS", type := (.object "com/example/invarient/invarient/model/AtomicExpression$Operator"), accessFlags := 16409, slot := 1, constantValue := 0 }, { name := "NATURALS", type := (.object "com/example/invarient/invarient/model/AtomicExpression$Operator"), accessFlags := 16409, slot := 2, constantValue := 0 }, { name := "NATURALS1", type := (.object "com/example/invarient/invarient/model/AtomicExpression$Operator"), accessFlags := 16409, slot := 3, constantValue := 0 }, { name := "BOOL", type := (.object "com/example/invarient/invarient/model/AtomicExpression$Operator"), accessFlags := 16409, slot := 4, constantValue := 0 }, { name := "TRUE", type := (.object "com/example/invarient/invarient/model/AtomicExpression$Operator"), accessFlags := 16409, slot := 5, constantValue := 0 }, { name := "FALSE", type := (.object "com/example/invarient/invarient/model/AtomicExpression$Operator"), accessFlags := 16409, slot := 6, constantValue := 0 }, { name := "IDENTITY", type := (.object "com/example/invarient/invarient/model/AtomicExpression$Operator"), accessFlags := 16409, slot := 7, constantValue := 0 }, { name := "FIRST_PROJECTION", type := (.object "com/example/invarient/invarient/model/AtomicExpression$Operator"), accessFlags := 16409, slot := 8, constantValue := 0 }, { name := "SECOND_PROJECTION", type := (.object "com/example/invarient/invarient/model/AtomicExpression$Operator"), accessFlags := 16409, slot := 9, constantValue := 0 }, { name := "SUCCESSOR", type := (.object "com/example/invarient/invarient/model/AtomicExpression$Operator"), accessFlags := 16409, slot := 10, constantValue := 0 }, { name := "PREDECESSOR", type := (.object "com/example/invarient/invarient/model/AtomicExpression$Operator"), accessFlags := 16409, slot := 11, constantValue := 0 }, { name := "symbol", type := (.object "java/lang/String"), accessFlags := 18, slot := 3, constantValue := 0 }, { name := "$VALUES", type := (.array (.object "com/example/invarient/invarient/model/AtomicExpression$Operator")), accessFlags := 4122, slot := 12, constantValue := 0 }]
  methods := #[]
  instanceTypes := #[(.object "java/lang/String"), .int, .int, (.object "java/lang/String")]
  staticTypes := #[(.object "com/example/invarient/invarient/model/AtomicExpression$Operator"), (.object "com/example/invarient/invarient/model/AtomicExpression$Operator"), (.object "com/example/invarient/invarient/model/AtomicExpression$Operator"), (.object "com/example/invarient/invarient/model/AtomicExpression$Operator"), (.object "com/example/invarient/invarient/model/AtomicExpression$Operator"), (.object "com/example/invarient/invarient/model/AtomicExpression$Operator"), (.object "com/example/invarient/invarient/model/AtomicExpression$Operator"), (.object "com/example/invarient/invarient/model/AtomicExpression$Operator"), (.object "com/example/invarient/invarient/model/AtomicExpression$Operator"), (.object "com/example/invarient/invarient/model/AtomicExpression$Operator"), (.object "com/example/invarient/invarient/model/AtomicExpression$Operator"), (.object "com/example/invarient/invarient/model/AtomicExpression$Operator"), (.array (.object "com/example/invarient/invarient/model/AtomicExpression$Operator"))]
  resolved := Array.replicate 118 none
  statics := some 2 }

def pool18 : Array CpInfo := pool [(2, .class_ 4), (1, u "java/lang/Object"), (0, u "<init>"), (0, u "()V"), (17, .class_ 26), (1, u "jdk/internal/util/Preconditions"), (28, .class_ 56), (0, u "jdk/internal/util/Preconditions$4"), (57, .class_ 115), (0, u "jdk/internal/util/Preconditions$1"), (7, u "SIOOBE_FORMATTER"), (0, u "Ljava/util/function/BiFunction;"), (0, .class_ 126), (0, u "jdk/internal/util/Preconditions$2"), (3, u "AIOOBE_FORMATTER"), (0, .class_ 132), (0, u "jdk/internal/util/Preconditions$3"), (3, u "IOOBE_FORMATTER")] 57

def k18m0 : Method := { name := "<init>", desc := "()V", sig := { parameters := [], returnType := none }, accessFlags := 1, code := none }
/-- jdk/internal/util/Preconditions -/
def k18 : Class := { plain "jdk/internal/util/Preconditions" (some 0) with
  accessFlags := 33
  interfaces := #[]
  cf := some (fileOf pool18 24 #[.nestMembers #[55, 131, 125, 114]] #[{ accessFlags := 1, nameIndex := 5, descriptorIndex := 6, attributes := #[] }] 33 2 #[] #[{ accessFlags := 25, nameIndex := 123, descriptorIndex := 124, attributes := #[] }, { accessFlags := 25, nameIndex := 130, descriptorIndex := 124, attributes := #[] }, { accessFlags := 25, nameIndex := 136, descriptorIndex := 124, attributes := #[] }])
  fields := #[{ name := "SIOOBE_FORMATTER", type := (.object "java/util/function/BiFunction"), accessFlags := 25, slot := 0, constantValue := 0 }, { name := "AIOOBE_FORMATTER", type := (.object "java/util/function/BiFunction"), accessFlags := 25, slot := 1, constantValue := 0 }, { name := "IOOBE_FORMATTER", type := (.object "java/util/function/BiFunction"), accessFlags := 25, slot := 2, constantValue := 0 }]
  methods := #[k18m0]
  instanceTypes := #[]
  staticTypes := #[(.object "java/util/function/BiFunction"), (.object "java/util/function/BiFunction"), (.object "java/util/function/BiFunction")]
  resolved := Array.replicate 194 none
  statics := some 3 }

def pool19 : Array CpInfo := pool [(9, u "<init>"), (6, .class_ 18), (1, u "java/lang/Object"), (0, u "()V"), (1, .class_ 23), (1, u "jdk/internal/util/ArraysSupport"), (0, u "LOG2_ARRAY_LONG_INDEX_SCALE"), (0, u "I"), (2, u "U"), (0, u "Ljdk/internal/misc/Unsafe;"), (8, u "BIG_ENDIAN"), (0, u "Z"), (8, u "LOG2_BYTE_BIT_SIZE"), (4, u "LOG2_ARRAY_INT_INDEX_SCALE"), (54, u "JLA"), (0, u "Ljdk/internal/access/JavaLangAccess;"), (11, u "LOG2_ARRAY_BOOLEAN_INDEX_SCALE"), (9, u "LOG2_ARRAY_BYTE_INDEX_SCALE"), (5, u "LOG2_ARRAY_CHAR_INDEX_SCALE"), (5, u "LOG2_ARRAY_SHORT_INDEX_SCALE"), (18, u "LOG2_ARRAY_FLOAT_INDEX_SCALE"), (24, u "LOG2_ARRAY_DOUBLE_INDEX_SCALE"), (89, u "T_BOOLEAN"), (2, u "T_CHAR"), (1, u "T_FLOAT"), (1, u "T_DOUBLE"), (1, u "T_BYTE"), (1, u "T_SHORT"), (1, u "T_INT"), (1, u "T_LONG"), (1, u "SOFT_MAX_ARRAY_LENGTH")] 83

def k19m0 : Method := { name := "<init>", desc := "()V", sig := { parameters := [], returnType := none }, accessFlags := 2, code := none }
/-- jdk/internal/util/ArraysSupport -/
def k19 : Class := { plain "jdk/internal/util/ArraysSupport" (some 0) with
  accessFlags := 33
  interfaces := #[]
  cf := some (fileOf pool19 21 #[] #[{ accessFlags := 2, nameIndex := 9, descriptorIndex := 19, attributes := #[] }] 33 16 #[] #[{ accessFlags := 24, nameIndex := 28, descriptorIndex := 29, attributes := #[] }, { accessFlags := 26, nameIndex := 38, descriptorIndex := 39, attributes := #[] }, { accessFlags := 25, nameIndex := 121, descriptorIndex := 25, attributes := #[] }, { accessFlags := 25, nameIndex := 131, descriptorIndex := 25, attributes := #[] }, { accessFlags := 25, nameIndex := 137, descriptorIndex := 25, attributes := #[] }, { accessFlags := 25, nameIndex := 143, descriptorIndex := 25, attributes := #[] }, { accessFlags := 25, nameIndex := 53, descriptorIndex := 25, attributes := #[] }, { accessFlags := 25, nameIndex := 24, descriptorIndex := 25, attributes := #[] }, { accessFlags := 25, nameIndex := 162, descriptorIndex := 25, attributes := #[] }, { accessFlags := 25, nameIndex := 187, descriptorIndex := 25, attributes := #[] }, { accessFlags := 26, nameIndex := 48, descriptorIndex := 25, attributes := #[] }, { accessFlags := 25, nameIndex := 277, descriptorIndex := 25, attributes := #[] }, { accessFlags := 25, nameIndex := 280, descriptorIndex := 25, attributes := #[] }, { accessFlags := 25, nameIndex := 282, descriptorIndex := 25, attributes := #[] }, { accessFlags := 25, nameIndex := 284, descriptorIndex := 25, attributes := #[] }, { accessFlags := 25, nameIndex := 286, descriptorIndex := 25, attributes := #[] }, { accessFlags := 25, nameIndex := 288, descriptorIndex := 25, attributes := #[] }, { accessFlags := 25, nameIndex := 290, descriptorIndex := 25, attributes := #[] }, { accessFlags := 25, nameIndex := 292, descriptorIndex := 25, attributes := #[] }, { accessFlags := 26, nameIndex := 108, descriptorIndex := 109, attributes := #[] }, { accessFlags := 25, nameIndex := 294, descriptorIndex := 25, attributes := #[] }])
  fields := #[{ name := "U", type := (.object "jdk/internal/misc/Unsafe"), accessFlags := 24, slot := 0, constantValue := 0 }, { name := "BIG_ENDIAN", type := .boolean, accessFlags := 26, slot := 1, constantValue := 0 }, { name := "LOG2_ARRAY_BOOLEAN_INDEX_SCALE", type := .int, accessFlags := 25, slot := 2, constantValue := 0 }, { name := "LOG2_ARRAY_BYTE_INDEX_SCALE", type := .int, accessFlags := 25, slot := 3, constantValue := 0 }, { name := "LOG2_ARRAY_CHAR_INDEX_SCALE", type := .int, accessFlags := 25, slot := 4, constantValue := 0 }, { name := "LOG2_ARRAY_SHORT_INDEX_SCALE", type := .int, accessFlags := 25, slot := 5, constantValue := 0 }, { name := "LOG2_ARRAY_INT_INDEX_SCALE", type := .int, accessFlags := 25, slot := 6, constantValue := 0 }, { name := "LOG2_ARRAY_LONG_INDEX_SCALE", type := .int, accessFlags := 25, slot := 7, constantValue := 0 }, { name := "LOG2_ARRAY_FLOAT_INDEX_SCALE", type := .int, accessFlags := 25, slot := 8, constantValue := 0 }, { name := "LOG2_ARRAY_DOUBLE_INDEX_SCALE", type := .int, accessFlags := 25, slot := 9, constantValue := 0 }, { name := "LOG2_BYTE_BIT_SIZE", type := .int, accessFlags := 26, slot := 10, constantValue := 0 }, { name := "T_BOOLEAN", type := .int, accessFlags := 25, slot := 11, constantValue := 0 }, { name := "T_CHAR", type := .int, accessFlags := 25, slot := 12, constantValue := 0 }, { name := "T_FLOAT", type := .int, accessFlags := 25, slot := 13, constantValue := 0 }, { name := "T_DOUBLE", type := .int, accessFlags := 25, slot := 14, constantValue := 0 }, { name := "T_BYTE", type := .int, accessFlags := 25, slot := 15, constantValue := 0 }, { name := "T_SHORT", type := .int, accessFlags := 25, slot := 16, constantValue := 0 }, { name := "T_INT", type := .int, accessFlags := 25, slot := 17, constantValue := 0 }, { name := "T_LONG", type := .int, accessFlags := 25, slot := 18, constantValue := 0 }, { name := "JLA", type := (.object "jdk/internal/access/JavaLangAccess"), accessFlags := 26, slot := 19, constantValue := 0 }, { name := "SOFT_MAX_ARRAY_LENGTH", type := .int, accessFlags := 25, slot := 20, constantValue := 0 }]
  methods := #[k19m0]
  instanceTypes := #[]
  staticTypes := #[(.object "jdk/internal/misc/Unsafe"), .boolean, .int, .int, .int, .int, .int, .int, .int, .int, .int, .int, .int, .int, .int, .int, .int, .int, .int, (.object "jdk/internal/access/JavaLangAccess"), .int]
  resolved := Array.replicate 378 none
  statics := none }

def pool20 : Array CpInfo := pool [(1, u "java/lang/Cloneable"), (0, .class_ 1), (0, u "java/lang/Object"), (0, .class_ 3)] 3

/-- java/lang/Cloneable -/
def k20 : Class := { plain "java/lang/Cloneable" (some 0) with
  accessFlags := 1537
  interfaces := #[]
  cf := some (fileOf pool20 2 #[] #[] 1537 4 #[] #[])
  fields := #[]
  methods := #[]
  instanceTypes := #[]
  staticTypes := #[]
  resolved := Array.replicate 8 none
  statics := none }

/-- the primitive byte -/
def k21 : Class := { plain "byte" none with kind := .primitive 'B', accessFlags := 0x411 }
/-- [B -/
def k22 : Class := { plain "[B" (some 0) with kind := .array 21 .byte, interfaces := #[20, 7], accessFlags := 1041 }

/-- the primitive int -/
def k23 : Class := { plain "int" none with kind := .primitive 'I', accessFlags := 0x411 }
/-- [I -/
def k24 : Class := { plain "[I" (some 0) with kind := .array 23 .int, interfaces := #[20, 7], accessFlags := 1041 }

def heap : Heap := #[{ cls := 9, slots := #[.ref 4, .ref 5, .null], vm := .statics 9 },
  { cls := 12, slots := #[.long 0, .int 1, .null, .int 0, .null, .int 0, .int 0], vm := .statics 12 },
  { cls := 17, slots := #[.null, .null, .null, .null, .null, .ref 6, .ref 7, .null, .null, .null, .null, .null, .null], vm := .statics 17 },
  { cls := 18, slots := #[.null, .null, .null], vm := .statics 18 },
  { cls := 9, slots := #[.null, .int 0, .int 0, .null], vm := .none },
  { cls := 9, slots := #[.null, .int 1, .int 0, .null], vm := .none },
  { cls := 17, slots := #[.null, .int 0, .int 0, .null], vm := .none },
  { cls := 17, slots := #[.null, .int 1, .int 0, .null], vm := .none }]
def classes : Array Class := #[k0, k1, k2, k3, k4, k5, k6, k7, k8, k9, k10, k11, k12, k13, k14, k15, k16, k17, k18, k19, k20, k21, k22, k23, k24]
def interned : List (Array UInt16 × Addr) := []
def slotsUsed : Nat := 42
def theMethod : MethodId := ⟨1, 1⟩
def args0 : Array Value := #[.int 5, .int 3, .int 2]
def aboutOver (below : List Frame) : State where
  vm := { classes := classes, interned := interned.toArray }
  heap := heap
  slotsUsed := slotsUsed
  threads := #[{ frames := .invoking theMethod args0 :: below }]
def below0 : List Frame := [.native { method := ⟨0, 0⟩, args := #[] }]
def about1 : State := aboutOver below0
def p0 : Program := .bare "" "" ""
def e0 : Env := launch0.env 0 0 0
theorem w_frames : about1.frames = Frame.invoking theMethod args0 :: below0 := rfl
set_option maxRecDepth 65536 in
theorem w_args : argsFit about1.vm theMethod args0 = true := by decide +kernel
set_option maxRecDepth 65536 in
theorem w_heap : heapFits about1 = true := by decide +kernel
set_option maxRecDepth 65536 in
theorem w_runnable : about1.curStatus? = some .runnable := by decide +kernel
set_option maxRecDepth 65536 in
theorem w_alone : about1.alone = true := by decide +kernel
set_option maxRecDepth 65536 in
theorem w_named : about1.methodNamed? x = some theMethod := by decide +kernel
set_option maxRecDepth 65536 in
theorem w_hears : about1.hears theMethod below0 = true := by decide +kernel
set_option maxRecDepth 65536 in
theorem w_ripe : about1.ripe theMethod args0 below0 = true := by decide +kernel
theorem w_running : about1.status = .running := rfl
set_option maxRecDepth 65536 in
theorem w_room : about1.hasRoom e0.platform room_1 = true :=
  launch0.hasRoom_least _ room_1 (by decide +kernel) (by decide +kernel) (by decide +kernel) (by decide +kernel) (by decide +kernel) (by decide +kernel)
theorem allAtoms_all (ts : List Jvm.Cond) (a : Array Jvm.Value) (st : Jvm.State) : (allAtoms ts).before a st = ts.all (fun c => c.before a st) := by
  induction ts with
  | nil => rfl
  | cons c t ih =>
    show (Jvm.Cond.and c (allAtoms t)).before a st = _
    rw [Jvm.Cond.before_and, ih, List.all_cons]
def words1 : List Jvm.Cond := Jvm.Cond.code x code maxLocals ret :: tables_1
/-- a 'code' word, met by the world's own term for the bytes: nothing is compared byte by byte -/
theorem code_word {y : MethodName} {bytes : ByteArray} {mx : Nat} {rt : Option FieldType} {a : Array Value} {s : State} {m : MethodId} {meth : Method} {c : Code} (h1 : s.methodNamed? y = some m) (h2 : s.vm.method? m = some meth) (h3 : meth.code = some c) (h4 : c.code = bytes)
    (h5 : (c.maxLocals == mx && c.exceptionTable.isEmpty && decide (c.maxStack ≤ mostOperands) && decide (meth.sig.returnType = rt) && !meth.locks && decide (parseMethodDescriptor y.desc = some meth.sig)) = true) : (Jvm.Cond.code y bytes mx rt).before a s = true := by
  simp only [Bool.and_eq_true, beq_iff_eq, Bool.not_eq_true', decide_eq_true_eq] at h5
  obtain ⟨⟨⟨⟨⟨g1, g2⟩, g3⟩, g4⟩, g5⟩, g6⟩ := h5
  simp [Cond.before, Cond.holds, Cond.value, h1, h2, h3, h4, g1, g2, g3, g4, g5, g6]
def isCode : Jvm.Cond → Bool
  | .code _ _ _ _ => true
  | _ => false
theorem all_split {L : List Jvm.Cond} {P : Jvm.Cond → Bool} (h1 : L.all (fun c => isCode c || P c) = true) (h2 : ∀ c ∈ L.filter isCode, P c = true) : L.all P = true := by
  refine List.all_eq_true.mpr fun c hc => ?_
  have h := List.all_eq_true.mp h1 c hc
  rcases Bool.eq_false_or_eq_true (isCode c) with hi | hi
  · exact h2 c (List.mem_filter.mpr ⟨hc, hi⟩)
  · simpa [hi] using h
set_option maxRecDepth 65536 in
theorem w_c0 : (Jvm.Cond.code x code maxLocals ret).before args0 about1 = true := code_word (m := ⟨1, 1⟩) (meth := k1m1) (c := k1c1) (by decide +kernel) rfl rfl rfl (by decide +kernel)
set_option maxRecDepth 65536 in
theorem w_c1 : (Jvm.Cond.code ({ cls := "com/example/invarient/invarient/model/AtomicPredicate", name := "<init>", desc := "(Lcom/example/invarient/invarient/model/AtomicPredicate$Operator;)V" } : Jvm.MethodName) prog_39_method_1_code (2 : Nat) (Option.none : Option Jvm.ClassFile.FieldType)).before args0 about1 = true := code_word (m := ⟨4, 0⟩) (meth := k4m0) (c := k4c0) (by decide +kernel) rfl rfl rfl (by decide +kernel)
set_option maxRecDepth 65536 in
theorem w_c2 : (Jvm.Cond.code ({ cls := "com/example/invarient/invarient/model/Predicate", name := "<init>", desc := "(II)V" } : Jvm.MethodName) prog_68_method_1_code (3 : Nat) (Option.none : Option Jvm.ClassFile.FieldType)).before args0 about1 = true := code_word (m := ⟨3, 0⟩) (meth := k3m0) (c := k3c0) (by decide +kernel) rfl rfl rfl (by decide +kernel)
set_option maxRecDepth 65536 in
theorem w_c3 : (Jvm.Cond.code ({ cls := "com/example/invarient/invarient/model/Formula", name := "<init>", desc := "(I)V" } : Jvm.MethodName) prog_61_method_1_code (2 : Nat) (Option.none : Option Jvm.ClassFile.FieldType)).before args0 about1 = true := code_word (m := ⟨2, 0⟩) (meth := k2m0) (c := k2c0) (by decide +kernel) rfl rfl rfl (by decide +kernel)
set_option maxRecDepth 65536 in
theorem w_c4 : (Jvm.Cond.code ({ cls := "java/lang/Object", name := "<init>", desc := "()V" } : Jvm.MethodName) object_method_1_code (1 : Nat) (Option.none : Option Jvm.ClassFile.FieldType)).before args0 about1 = true := code_word (m := ⟨0, 0⟩) (meth := k0m0) (c := k0c0) (by decide +kernel) rfl rfl rfl (by decide +kernel)
set_option maxRecDepth 65536 in
theorem w_c5 : (Jvm.Cond.code ({ cls := "java/util/Objects", name := "requireNonNull", desc := "(Ljava/lang/Object;Ljava/lang/String;)Ljava/lang/Object;" } : Jvm.MethodName) jdk_31_method_11_code (2 : Nat) (Option.some (Jvm.ClassFile.FieldType.object "java/lang/Object"))).before args0 about1 = true := code_word (m := ⟨13, 1⟩) (meth := k13m1) (c := k13c1) (by decide +kernel) rfl rfl rfl (by decide +kernel)
set_option maxRecDepth 65536 in
theorem w_c6 : (Jvm.Cond.code ({ cls := "com/example/invarient/invarient/model/AtomicPredicate", name := "equals", desc := "(Ljava/lang/Object;)Z" } : Jvm.MethodName) prog_39_method_6_code (3 : Nat) (Option.some Jvm.ClassFile.FieldType.boolean)).before args0 about1 = true := code_word (m := ⟨4, 1⟩) (meth := k4m1) (c := k4c1) (by decide +kernel) rfl rfl rfl (by decide +kernel)
set_option maxRecDepth 65536 in
theorem w_c7 : (Jvm.Cond.code ({ cls := "java/lang/String", name := "valueOf", desc := "(C)Ljava/lang/String;" } : Jvm.MethodName) jdk_42_method_139_code (1 : Nat) (Option.some (Jvm.ClassFile.FieldType.object "java/lang/String"))).before args0 about1 = true := code_word (m := ⟨12, 1⟩) (meth := k12m1) (c := k12c1) (by decide +kernel) rfl rfl rfl (by decide +kernel)
set_option maxRecDepth 65536 in
theorem w_c8 : (Jvm.Cond.code ({ cls := "java/lang/StringLatin1", name := "canEncode", desc := "(C)Z" } : Jvm.MethodName) jdk_43_method_3_code (1 : Nat) (Option.some Jvm.ClassFile.FieldType.boolean)).before args0 about1 = true := code_word (m := ⟨14, 1⟩) (meth := k14m1) (c := k14c1) (by decide +kernel) rfl rfl rfl (by decide +kernel)
set_option maxRecDepth 65536 in
theorem w_c9 : (Jvm.Cond.code ({ cls := "java/lang/StringLatin1", name := "toBytes", desc := "(C)[B" } : Jvm.MethodName) jdk_43_method_46_code (1 : Nat) (Option.some (Jvm.ClassFile.FieldType.array Jvm.ClassFile.FieldType.byte))).before args0 about1 = true := code_word (m := ⟨14, 2⟩) (meth := k14m2) (c := k14c2) (by decide +kernel) rfl rfl rfl (by decide +kernel)
set_option maxRecDepth 65536 in
theorem w_c10 : (Jvm.Cond.code ({ cls := "java/lang/String", name := "<init>", desc := "([BB)V" } : Jvm.MethodName) jdk_42_method_151_code (3 : Nat) (Option.none : Option Jvm.ClassFile.FieldType)).before args0 about1 = true := code_word (m := ⟨12, 2⟩) (meth := k12m2) (c := k12c2) (by decide +kernel) rfl rfl rfl (by decide +kernel)
set_option maxRecDepth 65536 in
theorem w_c11 : (Jvm.Cond.code ({ cls := "com/example/invarient/invarient/model/AtomicExpression", name := "<init>", desc := "(Lcom/example/invarient/invarient/model/AtomicExpression$Operator;)V" } : Jvm.MethodName) prog_37_method_1_code (2 : Nat) (Option.none : Option Jvm.ClassFile.FieldType)).before args0 about1 = true := code_word (m := ⟨16, 0⟩) (meth := k16m0) (c := k16c0) (by decide +kernel) rfl rfl rfl (by decide +kernel)
set_option maxRecDepth 65536 in
theorem w_c12 : (Jvm.Cond.code ({ cls := "com/example/invarient/invarient/model/Expression", name := "<init>", desc := "(I)V" } : Jvm.MethodName) prog_58_method_1_code (2 : Nat) (Option.none : Option Jvm.ClassFile.FieldType)).before args0 about1 = true := code_word (m := ⟨15, 0⟩) (meth := k15m0) (c := k15c0) (by decide +kernel) rfl rfl rfl (by decide +kernel)
def codes1 : List Jvm.Cond := [Jvm.Cond.code x code maxLocals ret, Jvm.Cond.code ({ cls := "com/example/invarient/invarient/model/AtomicPredicate", name := "<init>", desc := "(Lcom/example/invarient/invarient/model/AtomicPredicate$Operator;)V" } : Jvm.MethodName) prog_39_method_1_code (2 : Nat) (Option.none : Option Jvm.ClassFile.FieldType), Jvm.Cond.code ({ cls := "com/example/invarient/invarient/model/Predicate", name := "<init>", desc := "(II)V" } : Jvm.MethodName) prog_68_method_1_code (3 : Nat) (Option.none : Option Jvm.ClassFile.FieldType), Jvm.Cond.code ({ cls := "com/example/invarient/invarient/model/Formula", name := "<init>", desc := "(I)V" } : Jvm.MethodName) prog_61_method_1_code (2 : Nat) (Option.none : Option Jvm.ClassFile.FieldType), Jvm.Cond.code ({ cls := "java/lang/Object", name := "<init>", desc := "()V" } : Jvm.MethodName) object_method_1_code (1 : Nat) (Option.none : Option Jvm.ClassFile.FieldType), Jvm.Cond.code ({ cls := "java/util/Objects", name := "requireNonNull", desc := "(Ljava/lang/Object;Ljava/lang/String;)Ljava/lang/Object;" } : Jvm.MethodName) jdk_31_method_11_code (2 : Nat) (Option.some (Jvm.ClassFile.FieldType.object "java/lang/Object")), Jvm.Cond.code ({ cls := "com/example/invarient/invarient/model/AtomicPredicate", name := "equals", desc := "(Ljava/lang/Object;)Z" } : Jvm.MethodName) prog_39_method_6_code (3 : Nat) (Option.some Jvm.ClassFile.FieldType.boolean), Jvm.Cond.code ({ cls := "java/lang/String", name := "valueOf", desc := "(C)Ljava/lang/String;" } : Jvm.MethodName) jdk_42_method_139_code (1 : Nat) (Option.some (Jvm.ClassFile.FieldType.object "java/lang/String")), Jvm.Cond.code ({ cls := "java/lang/StringLatin1", name := "canEncode", desc := "(C)Z" } : Jvm.MethodName) jdk_43_method_3_code (1 : Nat) (Option.some Jvm.ClassFile.FieldType.boolean), Jvm.Cond.code ({ cls := "java/lang/StringLatin1", name := "toBytes", desc := "(C)[B" } : Jvm.MethodName) jdk_43_method_46_code (1 : Nat) (Option.some (Jvm.ClassFile.FieldType.array Jvm.ClassFile.FieldType.byte)), Jvm.Cond.code ({ cls := "java/lang/String", name := "<init>", desc := "([BB)V" } : Jvm.MethodName) jdk_42_method_151_code (3 : Nat) (Option.none : Option Jvm.ClassFile.FieldType), Jvm.Cond.code ({ cls := "com/example/invarient/invarient/model/AtomicExpression", name := "<init>", desc := "(Lcom/example/invarient/invarient/model/AtomicExpression$Operator;)V" } : Jvm.MethodName) prog_37_method_1_code (2 : Nat) (Option.none : Option Jvm.ClassFile.FieldType), Jvm.Cond.code ({ cls := "com/example/invarient/invarient/model/Expression", name := "<init>", desc := "(I)V" } : Jvm.MethodName) prog_58_method_1_code (2 : Nat) (Option.none : Option Jvm.ClassFile.FieldType)]
set_option maxRecDepth 65536 in
theorem codes_eq : words1.filter isCode = codes1 := rfl
theorem w_codes : ∀ c ∈ words1.filter isCode, c.before args0 about1 = true := by
  rw [codes_eq]
  intro c hc
  simp only [codes1, List.mem_cons, List.not_mem_nil, or_false] at hc
  rcases hc with rfl | rfl | rfl | rfl | rfl | rfl | rfl | rfl | rfl | rfl | rfl | rfl | rfl
  · exact w_c0
  · exact w_c1
  · exact w_c2
  · exact w_c3
  · exact w_c4
  · exact w_c5
  · exact w_c6
  · exact w_c7
  · exact w_c8
  · exact w_c9
  · exact w_c10
  · exact w_c11
  · exact w_c12
set_option maxRecDepth 65536 in
theorem w_t1 : (words1.take 24).all (fun c => isCode c || c.before args0 about1) = true := by decide +kernel
set_option maxRecDepth 65536 in
theorem w_t2 : ((words1.drop 24).take 24).all (fun c => isCode c || c.before args0 about1) = true := by decide +kernel
set_option maxRecDepth 65536 in
theorem w_t3 : (((words1.drop 24).drop 24).take 24).all (fun c => isCode c || c.before args0 about1) = true := by decide +kernel
set_option maxRecDepth 65536 in
theorem w_t4 : ((((words1.drop 24).drop 24).drop 24).take 24).all (fun c => isCode c || c.before args0 about1) = true := by decide +kernel
set_option maxRecDepth 65536 in
theorem w_t5 : ((((words1.drop 24).drop 24).drop 24).drop 24).all (fun c => isCode c || c.before args0 about1) = true := by decide +kernel
theorem w_tables : (allAtoms (Jvm.Cond.code x code maxLocals ret :: tables_1)).before args0 about1 = true := by
  rw [allAtoms_all]
  show words1.all (fun c => c.before args0 about1) = true
  refine all_split ?_ w_codes
  rw [← List.take_append_drop 24 words1, List.all_append, w_t1, ← List.take_append_drop 24 (words1.drop 24), List.all_append, w_t2, ← List.take_append_drop 24 ((words1.drop 24).drop 24), List.all_append, w_t3, ← List.take_append_drop 24 (((words1.drop 24).drop 24).drop 24), List.all_append, w_t4, w_t5]
  rfl
set_option maxRecDepth 65536 in
theorem w_rest : rest_1_c.before args0 about1 = true := by decide +kernel
set_option maxRecDepth 65536 in
theorem w_case : (Jvm.Cond.and given_1 narrow_1).before args0 about1 = true := by decide +kernel
theorem w_applies : (headSpec (Jvm.Cond.code x code maxLocals ret :: tables_1) room_1).applies x e0.platform about1 = true :=
  (Spec.applies_iff w_frames).mpr ⟨w_running, w_runnable, w_alone, w_named, w_hears, w_ripe, w_room, w_tables⟩
theorem atStart : AtStart classFile x code maxLocals ret World_1 tables_1 room_1 Calls_1 rest_1 Pre_1 launch0 p0 e0 about1 theMethod args0 below0 :=
  ⟨lists_1, trivial, launch0.admits_env _ _ _, launch0.least_env, fairChoices_fair.cas, fairChoices_fair.clock, w_frames, w_args, w_heap, w_applies, trivial, w_rest, w_case⟩
end start1
theorem witness_1 : WitnessClaimed_1 := ⟨start1.p0, start1.e0, start1.about1, start1.theMethod, start1.args0, start1.below0, start1.atStart⟩
end Jvm.Pilot.@@N@@
