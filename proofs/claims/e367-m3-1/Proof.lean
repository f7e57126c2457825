import JvmDerived
import JvmDerived.Pilot.@@N@@Statement
import JvmDerived.Pilot.@@N@@Code
set_option linter.unusedVariables false
set_option linter.unusedSimpArgs false
namespace Jvm.RoadKit
open Sem ClassFile Op Lib Jvm.Stand Jvm.Free Jvm.LawKit
section New
variable {p : Program} {l : Launch} {e : Env} {R : Room} {s : State} {m : MethodId} {args : Array Value} {below : List Frame} {meth : Method} {c : Code} {T : State} {locs : List Loc} {cells slots : Nat}
theorem retI (X : Stand p l e R s m args below meth c T locs cells slots) (hx : p.tables.exec = Jvm.exec) {pc : Nat} {Ls : Array Slot} {z : Int32} {rest : List Value} (hret : meth.sig.returnType = some .int) (hd : decode c.code pc = .ok (.ireturn, 1)) {fs : List Frame}
    (hl : ∀ (f : JFrame) (acts : List Action), f.method = m → f.locked = none → f.entered = [] → (doReturn e (T.setTop f) acts (some (.int z))).1 = T.setFrames fs) : Steps p.tables e below (T.setTop (mkF m pc Ls (.int z :: rest))) (T.setFrames fs) := by
  have hm' : T.vm.method? m = some meth := X.method'
  have hn : narrow .int (.int z) = .int z := rfl
  show Steps p.tables e below (T.setTop { method := m, pc := pc, locals := Ls, stack := _ :: rest, locked := none }) _
  jvm_step X.here [X.here.top, hx, hd, hm', hret, hn]
  first | (intro acts; rw [hl _ acts rfl rfl rfl]) | rw [hl _ _ rfl rfl rfl]
  exact Steps.refl _
end New
end Jvm.RoadKit
namespace Jvm.Pilot.@@N@@
open Jvm Jvm.ClassFile Sem Op Lib Jvm.Free Jvm.Stand Jvm.LawKit Jvm.RoadKit Bundle Jvm.Pilot.@@N@@.Jvm.D
/-- what a callee leaves that writes nothing: it returns r, the heap is as it was -/
def own_QP (r : Option Value) (h0 : Heap) (n0 : Nat) (v : Option Value) (h : Heap) (L : List Loc) : Prop := v = r ∧ Fr n0 L ∧ h = h0
/-- what the law leaves -/
def own_QL (n0 : Nat) (v : Option Value) (h : Heap) (L : List Loc) : Prop := v = some (.int 1) ∧ Fr n0 L
theorem own_eqI {args : Array Value} {first s : State} {o : Option Outcome} {idx : List Nat} {t : Term} {k : Int32} (h : (Jvm.Cond.eq t (.int k)).value args first o s idx = some true) : t.eval args first o idx s = some (.int k) := by
  obtain ⟨x, y, h1, h2, h3, h4⟩ := cmp_v (Or.inl h)
  have e2 : y = .int k := (Option.some.inj (h2.symm.trans (Term.int_eval k)))
  subst e2
  obtain ⟨z, rfl⟩ : ∃ z, x = .int z := h4
  rw [h1]
  have q : (Jvm.Cond.eq t (.int k)).value args first o s idx = some (decide (z = k)) := Cond.eq_ints h1 h2
  rw [gotT q h]
theorem own_ne {Z : State} {h : Heap} {a b : Addr} {C n d : String} {v w : Value} (F : Fld Z h a C n d v) (G : Fld Z h b C n d w) (hv : v ≠ w) : ¬ a = b := fun e => by
  subst e
  obtain ⟨cell, cf, k, i, f, h1, h2, -, -, -, -, h7⟩ := F
  obtain ⟨cell', cf', k', i', f', g1, g2, -, -, -, -, g7⟩ := G
  cases h1.symm.trans g1
  cases h2.symm.trans g2
  cases h7.symm.trans g7
  exact hv rfl
theorem own_sm {a b : Addr} (h : a = b) : decide ((.ref a : Value) = .ref b) = true := decide_eq_true (congrArg Value.ref h)
theorem own_df {a b : Addr} (h : ¬ a = b) : decide ((.ref a : Value) = .ref b) = false := decide_eq_false fun q => h (Value.ref.inj q)
theorem own_nv {x y : Int32} (h : x ≠ y) : (Value.int x) ≠ .int y := fun q => h (Value.int.inj q)
theorem own_c2 (P Q : Prop) [Decidable P] [Decidable Q] : P ∨ (¬ P ∧ Q) ∨ (¬ P ∧ ¬ Q) := by
  by_cases p : P
  · exact Or.inl p
  · by_cases q : Q
    · exact Or.inr (Or.inl ⟨p, q⟩)
    · exact Or.inr (Or.inr ⟨p, q⟩)
theorem own_t1 (n : Int32) (h : (0 : Int32) < n) : ¬ n < 1 ∧ ¬ (2147483647 : Int32) < n := by
  have e0 : (0 : Int32).toInt = 0 := by decide
  have e1 : (1 : Int32).toInt = 1 := by decide
  have em : (2147483647 : Int32).toInt = 2147483647 := by decide
  have r := rng32 n
  rw [Int32.lt_iff_toInt_lt] at *
  rw [Int32.lt_iff_toInt_lt]
  omega
theorem own_t2 (n : Int32) (h : ¬ (0 : Int32) < n) : n < 1 := by
  have e0 : (0 : Int32).toInt = 0 := by decide
  have e1 : (1 : Int32).toInt = 1 := by decide
  rw [Int32.lt_iff_toInt_lt] at *
  omega
theorem own_t3 (n : Int32) (h : ¬ n < 1 ∧ ¬ (1 : Int32) < n) : n = 1 := by
  have e1 : (1 : Int32).toInt = 1 := by decide
  rw [Int32.lt_iff_toInt_lt, Int32.lt_iff_toInt_lt] at h
  rw [← Int32.toInt_inj]
  omega
theorem own_four (t2 hi n : Int32) (q : (t2 = 1 ∧ hi = 2147483647) ∨ (t2 = 0 ∧ hi = 1)) : (t2 = 1 ∧ hi = 2147483647 ∧ (0 : Int32) < n) ∨ (t2 = 1 ∧ hi = 2147483647 ∧ ¬ (0 : Int32) < n) ∨ (t2 = 0 ∧ hi = 1 ∧ n = 1) ∨ (t2 = 0 ∧ hi = 1 ∧ ¬ n = 1) := by
  rcases q with ⟨h1, h2⟩ | ⟨h1, h2⟩
  · by_cases h : (0 : Int32) < n
    · exact Or.inl ⟨h1, h2, h⟩
    · exact Or.inr (Or.inl ⟨h1, h2, h⟩)
  · by_cases h : n = 1
    · exact Or.inr (Or.inr (Or.inl ⟨h1, h2, h⟩))
    · exact Or.inr (Or.inr (Or.inr ⟨h1, h2, h⟩))
theorem own_ef0 (m : MethodId) (x0 : Addr) (x1 : Int32) : entryFrame m #[(.ref x0), (.int x1)] 2 = mkF m 0 #[.val (.ref x0), .val (.int x1)] [] := by first | (simp [entryFrame, mkF, argsToLocals, Value.category]; done) | rfl
theorem own_pn0 : plainName "com/example/invarient/invarient/model/SetPredicate$Operator" = true := by first | (simp [plainName, overriddenIn]; done) | decide +kernel
theorem own_d_prog_80_method_5_code_0 : decode prog_80_method_5_code 0 = .ok (.iload_n 1, 1) := by decide +kernel
theorem own_d_prog_80_method_5_code_1 : decode prog_80_method_5_code 1 = .ok (.aload_n 0, 1) := by decide +kernel
theorem own_d_prog_80_method_5_code_2 : decode prog_80_method_5_code 2 = .ok (.getfield 33, 3) := by decide +kernel
theorem own_d_prog_80_method_5_code_5 : decode prog_80_method_5_code 5 = .ok (.if_icmp .lt 15, 3) := by decide +kernel
theorem own_d_prog_80_method_5_code_8 : decode prog_80_method_5_code 8 = .ok (.iload_n 1, 1) := by decide +kernel
theorem own_d_prog_80_method_5_code_9 : decode prog_80_method_5_code 9 = .ok (.aload_n 0, 1) := by decide +kernel
theorem own_d_prog_80_method_5_code_10 : decode prog_80_method_5_code 10 = .ok (.getfield 37, 3) := by decide +kernel
theorem own_d_prog_80_method_5_code_13 : decode prog_80_method_5_code 13 = .ok (.if_icmp .gt 7, 3) := by decide +kernel
theorem own_d_prog_80_method_5_code_16 : decode prog_80_method_5_code 16 = .ok (.iconst 1, 1) := by decide +kernel
theorem own_d_prog_80_method_5_code_17 : decode prog_80_method_5_code 17 = .ok (.goto 4, 3) := by decide +kernel
theorem own_d_prog_80_method_5_code_20 : decode prog_80_method_5_code 20 = .ok (.iconst 0, 1) := by decide +kernel
theorem own_d_prog_80_method_5_code_21 : decode prog_80_method_5_code 21 = .ok (.ireturn, 1) := by decide +kernel
theorem own_ef1 (m : MethodId) (x0 : Int32) (x1 : Int32) : entryFrame m #[(.int x0), (.int x1)] maxLocals = mkF m 0 #[.val (.int x0), .val (.int x1), .unset, .unset, .unset] [] := by first | (simp [entryFrame, mkF, argsToLocals, Value.category, maxLocals]; done) | rfl
theorem own_pn1 : plainName "com/example/invarient/invarient/model/OperatorTakesPinLaw" = true := by first | (simp [plainName, overriddenIn]; done) | decide +kernel
theorem own_pd0 : parseMethodDescriptor "(I)Z" = some ⟨[.int], some .boolean⟩ := by decide +kernel
set_option maxRecDepth 65536 in
set_option maxHeartbeats 40000000 in
theorem own_rm1 (l : Launch) (Z : State) (a0 : Array Value) (hw : ∀ d ∈ tables_1, d.before a0 Z = true) (ws : List Jvm.Cond) (a : Addr) (n lo hi : Int32) (h0 : Heap) (n0 : Nat) (Z0 : n0 ≤ h0.size) (F1 : Fld Z h0 a "com/example/invarient/invarient/model/SetPredicate$Operator" "fewestOperands" "I" (.int lo)) (F2 : Fld Z h0 a "com/example/invarient/invarient/model/SetPredicate$Operator" "mostOperands" "I" (.int hi)) :
    MetFree l (⟨"com/example/invarient/invarient/model/SetPredicate$Operator", "takes", "(I)Z"⟩ : MethodName) (head1 (Jvm.Cond.code (⟨"com/example/invarient/invarient/model/SetPredicate$Operator", "takes", "(I)Z"⟩ : MethodName) prog_80_method_5_code 2 (some .boolean) :: ws) ({ frames := 0, cells := 0, slots := 0, locals := 0 } : Room)) (fun a_ U_ => a_ = #[(.ref a), (.int n)] ∧ Z.Warmed39 U_.vm ∧ U_.heap = h0) (fun _ _ _ _ _ => True) (fun _ U_ o_ U_' => ∃ v_ L_, o_ = .returned v_ ∧ own_QP (some (.int (if ¬ n < lo ∧ ¬ hi < n then 1 else 0))) h0 n0 v_ U_'.heap L_ ∧ FrameEnd U_ o_ U_' L_ ({ frames := 0, cells := 0, slots := 0, locals := 0 } : Room).cells ({ frames := 0, cells := 0, slots := 0, locals := 0 } : Room).slots) := by
  refine MetFree.of_bodySF (plainFor_of_name own_pn0) hisR ?_
  intro p e s m args below meth c s₁ Bd hml0 hP hK
  obtain ⟨rfl, hZ, hh⟩ := hP
  have hx := Bd.exec
  have hby := Bd.bytes
  have hml : c.maxLocals = 2 := hml0
  have hown : s.vm.findClass "com/example/invarient/invarient/model/SetPredicate$Operator" = some m.cls := findClass_of_methodNamed Bd.named
  have hnm := (name_of_methodNamed Bd.named Bd.method).1
  have X0 : Stand p l e ({ frames := 0, cells := 0, slots := 0, locals := 0 } : Room) s m #[(.ref a), (.int n)] below meth c s₁ [] 0 0 := Stand.of_body Bd
  have e0 : s₁.heap = h0 := by rw [← hh, Bd.state]; rfl
  have N0 := Fr.nil n0
  have pre0 : ∀ t, Steps p.tables e below (s₁.setTop (mkF m 0 #[.val (.ref a), .val (.int n)] [])) t → Steps p.tables e below (s₁.setTop (entryFrame m #[(.ref a), (.int n)] 2)) t := fun t_ k_ => castTop (own_ef0 m a n) k_
  rcases own_c2 (n < lo) (hi < n) with ha | ⟨ha, hq⟩ | ⟨ha, hq⟩
  · obtain ⟨T1, X1, e1, st1⟩ := getF X0 hx hZ hown (host := "") (Or.inl (hw _ (List.mem_of_getElem? (i := 8) rfl))) Via.refl e0 F1 (g := (mkF m 2 #[.val (.ref a), .val (.int n)] [(.ref a), (.int n)])) rfl rfl (hb hby own_d_prog_80_method_5_code_2)
    obtain ⟨fs, hr, hrun, hended, hW, hsame⟩ := X1.leave (v := some (.int (0 : Int32))) (fun h => by rw [Bd.returns] at h; cases h)
    refine ⟨_, _, pre0 _ ?_, hrun, hended, _, _, rfl, ?_, ⟨_, rfl⟩, hW, hsame.mono (by decide) (by decide)⟩
    · show Steps p.tables e below (s₁.setTop (mkF m 0 #[.val (.ref a), .val (.int n)] [])) _
      refine XS.iloadN X0.here hx rfl (hb hby own_d_prog_80_method_5_code_0) rfl ?_
      show Steps p.tables e below (s₁.setTop (mkF m 1 #[.val (.ref a), .val (.int n)] [(.int n)])) _
      refine XS.aloadN X0.here hx rfl (hb hby own_d_prog_80_method_5_code_1) rfl rfl ?_
      show Steps p.tables e below (s₁.setTop (mkF m 2 #[.val (.ref a), .val (.int n)] [(.ref a), (.int n)])) _
      refine st1 _ ?_
      show Steps p.tables e below (T1.setTop (mkF m 5 #[.val (.ref a), .val (.int n)] [(.int lo), (.int n)])) _
      refine XS.icmpYes X1.here hx rfl (pc0 := 5) (pc' := 20) rfl (hb hby own_d_prog_80_method_5_code_5) rfl (tlt (ha : n < lo)).1 (by decide) (by decide) ?_
      show Steps p.tables e below (T1.setTop (mkF m 20 #[.val (.ref a), .val (.int n)] [])) _
      refine XS.iconst X1.here hx rfl (hb hby own_d_prog_80_method_5_code_20) ?_
      show Steps p.tables e below (T1.setTop (mkF m 21 #[.val (.ref a), .val (.int n)] [(.int (0 : Int32))])) _
      exact retN X1 hx (t := .boolean) Bd.returns (by simp) (hb hby own_d_prog_80_method_5_code_21) hr
    · show own_QP (some (.int (if ¬ n < lo ∧ ¬ hi < n then 1 else 0))) h0 n0 _ T1.heap _
      exact ⟨by rw [if_neg (fun q => q.1 ha)], N0, e1⟩
  · obtain ⟨T2, X2, e2, st2⟩ := getF X0 hx hZ hown (host := "") (Or.inl (hw _ (List.mem_of_getElem? (i := 8) rfl))) Via.refl e0 F1 (g := (mkF m 2 #[.val (.ref a), .val (.int n)] [(.ref a), (.int n)])) rfl rfl (hb hby own_d_prog_80_method_5_code_2)
    obtain ⟨T3, X3, e3, st3⟩ := getF X2 hx hZ hown (host := "") (Or.inl (hw _ (List.mem_of_getElem? (i := 10) rfl))) Via.refl e2 F2 (g := (mkF m 10 #[.val (.ref a), .val (.int n)] [(.ref a), (.int n)])) rfl rfl (hb hby own_d_prog_80_method_5_code_10)
    obtain ⟨fs, hr, hrun, hended, hW, hsame⟩ := X3.leave (v := some (.int (0 : Int32))) (fun h => by rw [Bd.returns] at h; cases h)
    refine ⟨_, _, pre0 _ ?_, hrun, hended, _, _, rfl, ?_, ⟨_, rfl⟩, hW, hsame.mono (by decide) (by decide)⟩
    · show Steps p.tables e below (s₁.setTop (mkF m 0 #[.val (.ref a), .val (.int n)] [])) _
      refine XS.iloadN X0.here hx rfl (hb hby own_d_prog_80_method_5_code_0) rfl ?_
      show Steps p.tables e below (s₁.setTop (mkF m 1 #[.val (.ref a), .val (.int n)] [(.int n)])) _
      refine XS.aloadN X0.here hx rfl (hb hby own_d_prog_80_method_5_code_1) rfl rfl ?_
      show Steps p.tables e below (s₁.setTop (mkF m 2 #[.val (.ref a), .val (.int n)] [(.ref a), (.int n)])) _
      refine st2 _ ?_
      show Steps p.tables e below (T2.setTop (mkF m 5 #[.val (.ref a), .val (.int n)] [(.int lo), (.int n)])) _
      refine XS.icmpNo X2.here hx rfl (hb hby own_d_prog_80_method_5_code_5) rfl (flt (ha : ¬ (n < lo))).1 ?_
      show Steps p.tables e below (T2.setTop (mkF m 8 #[.val (.ref a), .val (.int n)] [])) _
      refine XS.iloadN X2.here hx rfl (hb hby own_d_prog_80_method_5_code_8) rfl ?_
      show Steps p.tables e below (T2.setTop (mkF m 9 #[.val (.ref a), .val (.int n)] [(.int n)])) _
      refine XS.aloadN X2.here hx rfl (hb hby own_d_prog_80_method_5_code_9) rfl rfl ?_
      show Steps p.tables e below (T2.setTop (mkF m 10 #[.val (.ref a), .val (.int n)] [(.ref a), (.int n)])) _
      refine st3 _ ?_
      show Steps p.tables e below (T3.setTop (mkF m 13 #[.val (.ref a), .val (.int n)] [(.int hi), (.int n)])) _
      refine XS.icmpYes X3.here hx rfl (pc0 := 13) (pc' := 20) rfl (hb hby own_d_prog_80_method_5_code_13) rfl (tlt (hq : hi < n)).2.2.1 (by decide) (by decide) ?_
      show Steps p.tables e below (T3.setTop (mkF m 20 #[.val (.ref a), .val (.int n)] [])) _
      refine XS.iconst X3.here hx rfl (hb hby own_d_prog_80_method_5_code_20) ?_
      show Steps p.tables e below (T3.setTop (mkF m 21 #[.val (.ref a), .val (.int n)] [(.int (0 : Int32))])) _
      exact retN X3 hx (t := .boolean) Bd.returns (by simp) (hb hby own_d_prog_80_method_5_code_21) hr
    · show own_QP (some (.int (if ¬ n < lo ∧ ¬ hi < n then 1 else 0))) h0 n0 _ T3.heap _
      exact ⟨by rw [if_neg (fun q => q.2 hq)], N0, e3⟩
  · obtain ⟨T4, X4, e4, st4⟩ := getF X0 hx hZ hown (host := "") (Or.inl (hw _ (List.mem_of_getElem? (i := 8) rfl))) Via.refl e0 F1 (g := (mkF m 2 #[.val (.ref a), .val (.int n)] [(.ref a), (.int n)])) rfl rfl (hb hby own_d_prog_80_method_5_code_2)
    obtain ⟨T5, X5, e5, st5⟩ := getF X4 hx hZ hown (host := "") (Or.inl (hw _ (List.mem_of_getElem? (i := 10) rfl))) Via.refl e4 F2 (g := (mkF m 10 #[.val (.ref a), .val (.int n)] [(.ref a), (.int n)])) rfl rfl (hb hby own_d_prog_80_method_5_code_10)
    obtain ⟨fs, hr, hrun, hended, hW, hsame⟩ := X5.leave (v := some (.int (1 : Int32))) (fun h => by rw [Bd.returns] at h; cases h)
    refine ⟨_, _, pre0 _ ?_, hrun, hended, _, _, rfl, ?_, ⟨_, rfl⟩, hW, hsame.mono (by decide) (by decide)⟩
    · show Steps p.tables e below (s₁.setTop (mkF m 0 #[.val (.ref a), .val (.int n)] [])) _
      refine XS.iloadN X0.here hx rfl (hb hby own_d_prog_80_method_5_code_0) rfl ?_
      show Steps p.tables e below (s₁.setTop (mkF m 1 #[.val (.ref a), .val (.int n)] [(.int n)])) _
      refine XS.aloadN X0.here hx rfl (hb hby own_d_prog_80_method_5_code_1) rfl rfl ?_
      show Steps p.tables e below (s₁.setTop (mkF m 2 #[.val (.ref a), .val (.int n)] [(.ref a), (.int n)])) _
      refine st4 _ ?_
      show Steps p.tables e below (T4.setTop (mkF m 5 #[.val (.ref a), .val (.int n)] [(.int lo), (.int n)])) _
      refine XS.icmpNo X4.here hx rfl (hb hby own_d_prog_80_method_5_code_5) rfl (flt (ha : ¬ (n < lo))).1 ?_
      show Steps p.tables e below (T4.setTop (mkF m 8 #[.val (.ref a), .val (.int n)] [])) _
      refine XS.iloadN X4.here hx rfl (hb hby own_d_prog_80_method_5_code_8) rfl ?_
      show Steps p.tables e below (T4.setTop (mkF m 9 #[.val (.ref a), .val (.int n)] [(.int n)])) _
      refine XS.aloadN X4.here hx rfl (hb hby own_d_prog_80_method_5_code_9) rfl rfl ?_
      show Steps p.tables e below (T4.setTop (mkF m 10 #[.val (.ref a), .val (.int n)] [(.ref a), (.int n)])) _
      refine st5 _ ?_
      show Steps p.tables e below (T5.setTop (mkF m 13 #[.val (.ref a), .val (.int n)] [(.int hi), (.int n)])) _
      refine XS.icmpNo X5.here hx rfl (hb hby own_d_prog_80_method_5_code_13) rfl (flt (hq : ¬ (hi < n))).2.2.1 ?_
      show Steps p.tables e below (T5.setTop (mkF m 16 #[.val (.ref a), .val (.int n)] [])) _
      refine XS.iconst X5.here hx rfl (hb hby own_d_prog_80_method_5_code_16) ?_
      show Steps p.tables e below (T5.setTop (mkF m 17 #[.val (.ref a), .val (.int n)] [(.int (1 : Int32))])) _
      refine XS.goto X5.here hx rfl (pc0 := 17) (pc' := 21) rfl (hb hby own_d_prog_80_method_5_code_17) (by decide) (by decide) ?_
      show Steps p.tables e below (T5.setTop (mkF m 21 #[.val (.ref a), .val (.int n)] [(.int (1 : Int32))])) _
      exact retN X5 hx (t := .boolean) Bd.returns (by simp) (hb hby own_d_prog_80_method_5_code_21) hr
    · show own_QP (some (.int (if ¬ n < lo ∧ ¬ hi < n then 1 else 0))) h0 n0 _ T5.heap _
      exact ⟨by rw [if_pos ⟨ha, hq⟩], N0, e5⟩
set_option maxRecDepth 65536 in
set_option maxHeartbeats 40000000 in
theorem own_rm0 (l : Launch) (Z : State) (a0 : Array Value) (hw : ∀ d ∈ tables_1, d.before a0 Z = true) (ws : List Jvm.Cond) (a n : Int32) (af ap : Addr) (h0 : Heap) (n0 : Nat) (Z0 : n0 ≤ h0.size) (S_FINITE : Sta Z h0 "com/example/invarient/invarient/model/SetPredicate$Operator" "FINITE" "Lcom/example/invarient/invarient/model/SetPredicate$Operator;" (.ref af)) (E_FINITE : Exa Z h0 af "com/example/invarient/invarient/model/SetPredicate$Operator") (F1_FINITE : Fld Z h0 af "com/example/invarient/invarient/model/SetPredicate$Operator" "fewestOperands" "I" (.int 1)) (F2_FINITE : Fld Z h0 af "com/example/invarient/invarient/model/SetPredicate$Operator" "mostOperands" "I" (.int 1)) (S_PARTITION : Sta Z h0 "com/example/invarient/invarient/model/SetPredicate$Operator" "PARTITION" "Lcom/example/invarient/invarient/model/SetPredicate$Operator;" (.ref ap)) (E_PARTITION : Exa Z h0 ap "com/example/invarient/invarient/model/SetPredicate$Operator") (F1_PARTITION : Fld Z h0 ap "com/example/invarient/invarient/model/SetPredicate$Operator" "fewestOperands" "I" (.int 1)) (F2_PARTITION : Fld Z h0 ap "com/example/invarient/invarient/model/SetPredicate$Operator" "mostOperands" "I" (.int 2147483647)) :
    MetFree l x (head1 (Jvm.Cond.code x code maxLocals ret :: ws) room_1) (fun a_ U_ => a_ = #[(.int a), (.int n)] ∧ Z.Warmed39 U_.vm ∧ U_.heap = h0) (fun _ _ _ _ _ => True) (fun _ U_ o_ U_' => ∃ v_ L_, o_ = .returned v_ ∧ own_QL n0 v_ U_'.heap L_ ∧ FrameEnd U_ o_ U_' L_ room_1.cells room_1.slots) := by
  refine MetFree.of_bodySF (plainFor_of_name own_pn1) hisR ?_
  intro p e s m args below meth c s₁ Bd hml0 hP hK
  obtain ⟨rfl, hZ, hh⟩ := hP
  have hx := Bd.exec
  have hby := Bd.bytes
  have hml : c.maxLocals = 5 := hml0
  have hown : s.vm.findClass "com/example/invarient/invarient/model/OperatorTakesPinLaw" = some m.cls := findClass_of_methodNamed Bd.named
  have hnm := (name_of_methodNamed Bd.named Bd.method).1
  have X0 : Stand p l e room_1 s m #[(.int a), (.int n)] below meth c s₁ [] 0 0 := Stand.of_body Bd
  have e0 : s₁.heap = h0 := by rw [← hh, Bd.state]; rfl
  have N0 := Fr.nil n0
  have pre0 : ∀ t, Steps p.tables e below (s₁.setTop (mkF m 0 #[.val (.int a), .val (.int n), .unset, .unset, .unset] [])) t → Steps p.tables e below (s₁.setTop (entryFrame m #[(.int a), (.int n)] maxLocals)) t := fun t_ k_ => castTop (own_ef1 m a n) k_
  obtain ⟨t2, T1, Lx1, X1, N1, e1, ht2, st1⟩ : ∃ (t2 : Int32) (T' : State) (Lx : List Loc), Stand p l e room_1 s m #[(.int a), (.int n)] below meth c T' Lx 0 0 ∧ Fr n0 Lx ∧ T'.heap = h0 ∧ (t2 = 1 ∨ t2 = 0) ∧ ∀ t, Steps p.tables e below (T'.setTop (mkF m 12 #[.val (.int a), .val (.int n), .val (.int t2), .unset, .unset] [])) t → Steps p.tables e below (s₁.setTop (mkF m 0 #[.val (.int a), .val (.int n), .unset, .unset, .unset] [])) t := by
    by_cases h : (a &&& (1 : Int32)) = 0
    · refine ⟨0, s₁, _, X0, N0, e0, Or.inr rfl, fun t kt => ?_⟩
      show Steps p.tables e below (s₁.setTop (mkF m 0 #[.val (.int a), .val (.int n), .unset, .unset, .unset] [])) t
      refine XS.iloadN X0.here hx rfl (hb hby at_0) rfl ?_
      show Steps p.tables e below (s₁.setTop (mkF m 1 #[.val (.int a), .val (.int n), .unset, .unset, .unset] [(.int a)])) t
      refine XS.iconst X0.here hx rfl (hb hby at_1) ?_
      show Steps p.tables e below (s₁.setTop (mkF m 2 #[.val (.int a), .val (.int n), .unset, .unset, .unset] [(.int (1 : Int32)), (.int a)])) t
      refine XS.iand X0.here hx rfl (hb hby at_2) rfl ?_
      show Steps p.tables e below (s₁.setTop (mkF m 3 #[.val (.int a), .val (.int n), .unset, .unset, .unset] [(.int (a &&& (1 : Int32)))])) t
      refine XS.ifYes X0.here hx rfl (pc0 := 3) (pc' := 10) rfl (hb hby at_3) rfl ((if0 _ _).trans (teq (h : (a &&& (1 : Int32)) = (0 : Int32))).1) (by decide) (by decide) ?_
      show Steps p.tables e below (s₁.setTop (mkF m 10 #[.val (.int a), .val (.int n), .unset, .unset, .unset] [])) t
      refine XS.iconst X0.here hx rfl (hb hby at_10) ?_
      show Steps p.tables e below (s₁.setTop (mkF m 11 #[.val (.int a), .val (.int n), .unset, .unset, .unset] [(.int (0 : Int32))])) t
      refine XS.istoreN X0.here hx rfl (hb hby at_11) rfl (l' := #[.val (.int a), .val (.int n), .val (.int (0 : Int32)), .unset, .unset]) rfl ?_
      exact kt
    · refine ⟨1, s₁, _, X0, N0, e0, Or.inl rfl, fun t kt => ?_⟩
      show Steps p.tables e below (s₁.setTop (mkF m 0 #[.val (.int a), .val (.int n), .unset, .unset, .unset] [])) t
      refine XS.iloadN X0.here hx rfl (hb hby at_0) rfl ?_
      show Steps p.tables e below (s₁.setTop (mkF m 1 #[.val (.int a), .val (.int n), .unset, .unset, .unset] [(.int a)])) t
      refine XS.iconst X0.here hx rfl (hb hby at_1) ?_
      show Steps p.tables e below (s₁.setTop (mkF m 2 #[.val (.int a), .val (.int n), .unset, .unset, .unset] [(.int (1 : Int32)), (.int a)])) t
      refine XS.iand X0.here hx rfl (hb hby at_2) rfl ?_
      show Steps p.tables e below (s₁.setTop (mkF m 3 #[.val (.int a), .val (.int n), .unset, .unset, .unset] [(.int (a &&& (1 : Int32)))])) t
      refine XS.ifNo X0.here hx rfl (hb hby at_3) rfl ((if0 _ _).trans (feq (h : ¬ ((a &&& (1 : Int32)) = (0 : Int32)))).1) ?_
      show Steps p.tables e below (s₁.setTop (mkF m 6 #[.val (.int a), .val (.int n), .unset, .unset, .unset] [])) t
      refine XS.iconst X0.here hx rfl (hb hby at_6) ?_
      show Steps p.tables e below (s₁.setTop (mkF m 7 #[.val (.int a), .val (.int n), .unset, .unset, .unset] [(.int (1 : Int32))])) t
      refine XS.goto X0.here hx rfl (pc0 := 7) (pc' := 11) rfl (hb hby at_7) (by decide) (by decide) ?_
      show Steps p.tables e below (s₁.setTop (mkF m 11 #[.val (.int a), .val (.int n), .unset, .unset, .unset] [(.int (1 : Int32))])) t
      refine XS.istoreN X0.here hx rfl (hb hby at_11) rfl (l' := #[.val (.int a), .val (.int n), .val (.int (1 : Int32)), .unset, .unset]) rfl ?_
      exact kt
  obtain ⟨o, hi, T2, Lx2, X2, N2, e2, Eo, F1o, F2o, hhi, st2⟩ : ∃ (o : Addr) (hi : Int32) (T' : State) (Lx : List Loc), Stand p l e room_1 s m #[(.int a), (.int n)] below meth c T' Lx 0 0 ∧ Fr n0 Lx ∧ T'.heap = h0 ∧ Exa Z h0 o "com/example/invarient/invarient/model/SetPredicate$Operator" ∧ Fld Z h0 o "com/example/invarient/invarient/model/SetPredicate$Operator" "fewestOperands" "I" (.int 1) ∧ Fld Z h0 o "com/example/invarient/invarient/model/SetPredicate$Operator" "mostOperands" "I" (.int hi) ∧ ((t2 = 1 ∧ hi = 2147483647) ∨ (t2 = 0 ∧ hi = 1)) ∧ ∀ t, Steps p.tables e below (T'.setTop (mkF m 26 #[.val (.int a), .val (.int n), .val (.int t2), .val (.ref o), .unset] [])) t → Steps p.tables e below (T1.setTop (mkF m 12 #[.val (.int a), .val (.int n), .val (.int t2), .unset, .unset] [])) t := by
    rcases ht2 with ht2 | ht2
    · obtain ⟨T3, X3, e3, st3⟩ := getS2 X1 hx hZ hown (host := "") (Or.inl (hw _ (List.mem_of_getElem? (i := 12) rfl))) Via.refl e1 S_PARTITION (g := (mkF m 16 #[.val (.int a), .val (.int n), .val (.int t2), .unset, .unset] [])) rfl (hb hby at_16)
      refine ⟨ap, 2147483647, T3, _, X3, N1, e3, E_PARTITION, F1_PARTITION, F2_PARTITION, Or.inl ⟨ht2, rfl⟩, fun t kt => ?_⟩
      show Steps p.tables e below (T1.setTop (mkF m 12 #[.val (.int a), .val (.int n), .val (.int t2), .unset, .unset] [])) t
      refine XS.iloadN X1.here hx rfl (hb hby at_12) rfl ?_
      show Steps p.tables e below (T1.setTop (mkF m 13 #[.val (.int a), .val (.int n), .val (.int t2), .unset, .unset] [(.int t2)])) t
      refine XS.ifNo X1.here hx rfl (hb hby at_13) rfl ((if0 _ _).trans (feq (by rw [ht2]; decide : ¬ (t2 = (0 : Int32)))).1) ?_
      show Steps p.tables e below (T1.setTop (mkF m 16 #[.val (.int a), .val (.int n), .val (.int t2), .unset, .unset] [])) t
      refine st3 _ ?_
      show Steps p.tables e below (T3.setTop (mkF m 19 #[.val (.int a), .val (.int n), .val (.int t2), .unset, .unset] [(.ref ap)])) t
      refine XS.goto X3.here hx rfl (pc0 := 19) (pc' := 25) rfl (hb hby at_19) (by decide) (by decide) ?_
      show Steps p.tables e below (T3.setTop (mkF m 25 #[.val (.int a), .val (.int n), .val (.int t2), .unset, .unset] [(.ref ap)])) t
      refine XS.astoreN X3.here hx rfl (hb hby at_25) rfl rfl (l' := #[.val (.int a), .val (.int n), .val (.int t2), .val (.ref ap), .unset]) rfl ?_
      exact kt
    · obtain ⟨T4, X4, e4, st4⟩ := getS2 X1 hx hZ hown (host := "") (Or.inl (hw _ (List.mem_of_getElem? (i := 0) rfl))) Via.refl e1 S_FINITE (g := (mkF m 22 #[.val (.int a), .val (.int n), .val (.int t2), .unset, .unset] [])) rfl (hb hby at_22)
      refine ⟨af, 1, T4, _, X4, N1, e4, E_FINITE, F1_FINITE, F2_FINITE, Or.inr ⟨ht2, rfl⟩, fun t kt => ?_⟩
      show Steps p.tables e below (T1.setTop (mkF m 12 #[.val (.int a), .val (.int n), .val (.int t2), .unset, .unset] [])) t
      refine XS.iloadN X1.here hx rfl (hb hby at_12) rfl ?_
      show Steps p.tables e below (T1.setTop (mkF m 13 #[.val (.int a), .val (.int n), .val (.int t2), .unset, .unset] [(.int t2)])) t
      refine XS.ifYes X1.here hx rfl (pc0 := 13) (pc' := 22) rfl (hb hby at_13) rfl ((if0 _ _).trans (teq (ht2 : t2 = (0 : Int32))).1) (by decide) (by decide) ?_
      show Steps p.tables e below (T1.setTop (mkF m 22 #[.val (.int a), .val (.int n), .val (.int t2), .unset, .unset] [])) t
      refine st4 _ ?_
      show Steps p.tables e below (T4.setTop (mkF m 25 #[.val (.int a), .val (.int n), .val (.int t2), .unset, .unset] [(.ref af)])) t
      refine XS.astoreN X4.here hx rfl (hb hby at_25) rfl rfl (l' := #[.val (.int a), .val (.int n), .val (.int t2), .val (.ref af), .unset]) rfl ?_
      exact kt
  obtain ⟨x, T5, Lx5, X5, N5, e5, hv, st5⟩ : ∃ (x : Int32) (T' : State) (Lx : List Loc), Stand p l e room_1 s m #[(.int a), (.int n)] below meth c T' Lx 0 0 ∧ Fr n0 Lx ∧ T'.heap = h0 ∧ (if ¬ n < 1 ∧ ¬ hi < n then 1 else 0) = x ∧ ∀ t, Steps p.tables e below (T'.setTop (mkF m 56 #[.val (.int a), .val (.int n), .val (.int t2), .val (.ref o), .val (.int x)] [])) t → Steps p.tables e below (T2.setTop (mkF m 26 #[.val (.int a), .val (.int n), .val (.int t2), .val (.ref o), .unset] [])) t := by
    rcases own_four t2 hi n hhi with ⟨h2, h3, h⟩ | ⟨h2, h3, h⟩ | ⟨h2, h3, h⟩ | ⟨h2, h3, h⟩
    · refine ⟨1, T2, _, X2, N2, e2, by rw [h3]; exact if_pos (own_t1 n h), fun t kt => ?_⟩
      show Steps p.tables e below (T2.setTop (mkF m 26 #[.val (.int a), .val (.int n), .val (.int t2), .val (.ref o), .unset] [])) t
      refine XS.iloadN X2.here hx rfl (hb hby at_26) rfl ?_
      show Steps p.tables e below (T2.setTop (mkF m 27 #[.val (.int a), .val (.int n), .val (.int t2), .val (.ref o), .unset] [(.int t2)])) t
      refine XS.ifNo X2.here hx rfl (hb hby at_27) rfl ((if0 _ _).trans (feq (by rw [h2]; decide : ¬ (t2 = (0 : Int32)))).1) ?_
      show Steps p.tables e below (T2.setTop (mkF m 30 #[.val (.int a), .val (.int n), .val (.int t2), .val (.ref o), .unset] [])) t
      refine XS.iloadN X2.here hx rfl (hb hby at_30) rfl ?_
      show Steps p.tables e below (T2.setTop (mkF m 31 #[.val (.int a), .val (.int n), .val (.int t2), .val (.ref o), .unset] [(.int n)])) t
      refine XS.ifNo X2.here hx rfl (hb hby at_31) rfl ((if0 _ _).trans (tlt (h : (0 : Int32) < n)).2.2.2) ?_
      show Steps p.tables e below (T2.setTop (mkF m 34 #[.val (.int a), .val (.int n), .val (.int t2), .val (.ref o), .unset] [])) t
      refine XS.iconst X2.here hx rfl (hb hby at_34) ?_
      show Steps p.tables e below (T2.setTop (mkF m 35 #[.val (.int a), .val (.int n), .val (.int t2), .val (.ref o), .unset] [(.int (1 : Int32))])) t
      refine XS.goto X2.here hx rfl (pc0 := 35) (pc' := 39) rfl (hb hby at_35) (by decide) (by decide) ?_
      show Steps p.tables e below (T2.setTop (mkF m 39 #[.val (.int a), .val (.int n), .val (.int t2), .val (.ref o), .unset] [(.int (1 : Int32))])) t
      refine XS.istore X2.here hx rfl (hb hby at_39) rfl (l' := #[.val (.int a), .val (.int n), .val (.int t2), .val (.ref o), .val (.int (1 : Int32))]) rfl ?_
      show Steps p.tables e below (T2.setTop (mkF m 41 #[.val (.int a), .val (.int n), .val (.int t2), .val (.ref o), .val (.int (1 : Int32))] [])) t
      refine XS.goto X2.here hx rfl (pc0 := 41) (pc' := 56) rfl (hb hby at_41) (by decide) (by decide) ?_
      exact kt
    · refine ⟨0, T2, _, X2, N2, e2, if_neg (fun q => q.1 (own_t2 n h)), fun t kt => ?_⟩
      show Steps p.tables e below (T2.setTop (mkF m 26 #[.val (.int a), .val (.int n), .val (.int t2), .val (.ref o), .unset] [])) t
      refine XS.iloadN X2.here hx rfl (hb hby at_26) rfl ?_
      show Steps p.tables e below (T2.setTop (mkF m 27 #[.val (.int a), .val (.int n), .val (.int t2), .val (.ref o), .unset] [(.int t2)])) t
      refine XS.ifNo X2.here hx rfl (hb hby at_27) rfl ((if0 _ _).trans (feq (by rw [h2]; decide : ¬ (t2 = (0 : Int32)))).1) ?_
      show Steps p.tables e below (T2.setTop (mkF m 30 #[.val (.int a), .val (.int n), .val (.int t2), .val (.ref o), .unset] [])) t
      refine XS.iloadN X2.here hx rfl (hb hby at_30) rfl ?_
      show Steps p.tables e below (T2.setTop (mkF m 31 #[.val (.int a), .val (.int n), .val (.int t2), .val (.ref o), .unset] [(.int n)])) t
      refine XS.ifYes X2.here hx rfl (pc0 := 31) (pc' := 38) rfl (hb hby at_31) rfl ((if0 _ _).trans (flt (h : ¬ ((0 : Int32) < n))).2.2.2) (by decide) (by decide) ?_
      show Steps p.tables e below (T2.setTop (mkF m 38 #[.val (.int a), .val (.int n), .val (.int t2), .val (.ref o), .unset] [])) t
      refine XS.iconst X2.here hx rfl (hb hby at_38) ?_
      show Steps p.tables e below (T2.setTop (mkF m 39 #[.val (.int a), .val (.int n), .val (.int t2), .val (.ref o), .unset] [(.int (0 : Int32))])) t
      refine XS.istore X2.here hx rfl (hb hby at_39) rfl (l' := #[.val (.int a), .val (.int n), .val (.int t2), .val (.ref o), .val (.int (0 : Int32))]) rfl ?_
      show Steps p.tables e below (T2.setTop (mkF m 41 #[.val (.int a), .val (.int n), .val (.int t2), .val (.ref o), .val (.int (0 : Int32))] [])) t
      refine XS.goto X2.here hx rfl (pc0 := 41) (pc' := 56) rfl (hb hby at_41) (by decide) (by decide) ?_
      exact kt
    · refine ⟨1, T2, _, X2, N2, e2, by rw [h3, h]; decide, fun t kt => ?_⟩
      show Steps p.tables e below (T2.setTop (mkF m 26 #[.val (.int a), .val (.int n), .val (.int t2), .val (.ref o), .unset] [])) t
      refine XS.iloadN X2.here hx rfl (hb hby at_26) rfl ?_
      show Steps p.tables e below (T2.setTop (mkF m 27 #[.val (.int a), .val (.int n), .val (.int t2), .val (.ref o), .unset] [(.int t2)])) t
      refine XS.ifYes X2.here hx rfl (pc0 := 27) (pc' := 44) rfl (hb hby at_27) rfl ((if0 _ _).trans (teq (h2 : t2 = (0 : Int32))).1) (by decide) (by decide) ?_
      show Steps p.tables e below (T2.setTop (mkF m 44 #[.val (.int a), .val (.int n), .val (.int t2), .val (.ref o), .unset] [])) t
      refine XS.iloadN X2.here hx rfl (hb hby at_44) rfl ?_
      show Steps p.tables e below (T2.setTop (mkF m 45 #[.val (.int a), .val (.int n), .val (.int t2), .val (.ref o), .unset] [(.int n)])) t
      refine XS.iconst X2.here hx rfl (hb hby at_45) ?_
      show Steps p.tables e below (T2.setTop (mkF m 46 #[.val (.int a), .val (.int n), .val (.int t2), .val (.ref o), .unset] [(.int (1 : Int32)), (.int n)])) t
      refine XS.icmpNo X2.here hx rfl (hb hby at_46) rfl (teq (h : n = (1 : Int32))).2 ?_
      show Steps p.tables e below (T2.setTop (mkF m 49 #[.val (.int a), .val (.int n), .val (.int t2), .val (.ref o), .unset] [])) t
      refine XS.iconst X2.here hx rfl (hb hby at_49) ?_
      show Steps p.tables e below (T2.setTop (mkF m 50 #[.val (.int a), .val (.int n), .val (.int t2), .val (.ref o), .unset] [(.int (1 : Int32))])) t
      refine XS.goto X2.here hx rfl (pc0 := 50) (pc' := 54) rfl (hb hby at_50) (by decide) (by decide) ?_
      show Steps p.tables e below (T2.setTop (mkF m 54 #[.val (.int a), .val (.int n), .val (.int t2), .val (.ref o), .unset] [(.int (1 : Int32))])) t
      refine XS.istore X2.here hx rfl (hb hby at_54) rfl (l' := #[.val (.int a), .val (.int n), .val (.int t2), .val (.ref o), .val (.int (1 : Int32))]) rfl ?_
      exact kt
    · refine ⟨0, T2, _, X2, N2, e2, by rw [h3]; exact if_neg (fun q => h (own_t3 n q)), fun t kt => ?_⟩
      show Steps p.tables e below (T2.setTop (mkF m 26 #[.val (.int a), .val (.int n), .val (.int t2), .val (.ref o), .unset] [])) t
      refine XS.iloadN X2.here hx rfl (hb hby at_26) rfl ?_
      show Steps p.tables e below (T2.setTop (mkF m 27 #[.val (.int a), .val (.int n), .val (.int t2), .val (.ref o), .unset] [(.int t2)])) t
      refine XS.ifYes X2.here hx rfl (pc0 := 27) (pc' := 44) rfl (hb hby at_27) rfl ((if0 _ _).trans (teq (h2 : t2 = (0 : Int32))).1) (by decide) (by decide) ?_
      show Steps p.tables e below (T2.setTop (mkF m 44 #[.val (.int a), .val (.int n), .val (.int t2), .val (.ref o), .unset] [])) t
      refine XS.iloadN X2.here hx rfl (hb hby at_44) rfl ?_
      show Steps p.tables e below (T2.setTop (mkF m 45 #[.val (.int a), .val (.int n), .val (.int t2), .val (.ref o), .unset] [(.int n)])) t
      refine XS.iconst X2.here hx rfl (hb hby at_45) ?_
      show Steps p.tables e below (T2.setTop (mkF m 46 #[.val (.int a), .val (.int n), .val (.int t2), .val (.ref o), .unset] [(.int (1 : Int32)), (.int n)])) t
      refine XS.icmpYes X2.here hx rfl (pc0 := 46) (pc' := 53) rfl (hb hby at_46) rfl (feq (h : ¬ (n = (1 : Int32)))).2 (by decide) (by decide) ?_
      show Steps p.tables e below (T2.setTop (mkF m 53 #[.val (.int a), .val (.int n), .val (.int t2), .val (.ref o), .unset] [])) t
      refine XS.iconst X2.here hx rfl (hb hby at_53) ?_
      show Steps p.tables e below (T2.setTop (mkF m 54 #[.val (.int a), .val (.int n), .val (.int t2), .val (.ref o), .unset] [(.int (0 : Int32))])) t
      refine XS.istore X2.here hx rfl (hb hby at_54) rfl (l' := #[.val (.int a), .val (.int n), .val (.int t2), .val (.ref o), .val (.int (0 : Int32))]) rfl ?_
      exact kt
  obtain ⟨cq6, kq6, q6a, q6b, q6c⟩ := isOf hZ e5 Eo
  obtain ⟨_, _, ⟨T6, L6, kc6, nc6⟩, -, X6, ⟨Lc6, hQ6, ql6, qy6, qz6⟩, st6⟩ := X5.virtualBack hx (y := (⟨"com/example/invarient/invarient/model/SetPredicate$Operator", "takes", "(I)Z"⟩ : MethodName)) (z := (⟨"com/example/invarient/invarient/model/SetPredicate$Operator", "takes", "(I)Z"⟩ : MethodName)) hown (mvT hZ (hw _ (List.mem_of_getElem? (i := 3) rfl))) (mvT hZ (hw _ (List.mem_of_getElem? (i := 4) rfl))) (notFace_of_selects (args := #[]) (mvT hZ (hw _ (List.mem_of_getElem? (i := 6) rfl)))) (mvT hZ (hw _ (List.mem_of_getElem? (i := 6) rfl))) (mvT hZ (hw _ (List.mem_of_getElem? (i := 5) rfl))) (by decide) (backOf (W := 0) (own_rm1 l Z a0 hw [] o n 1 hi h0 n0 Z0 F1o F2o) hZ (hw _ (List.mem_of_getElem? (i := 7) rfl)) (hw _ (List.mem_of_getElem? (i := 1) rfl)) (by decide) (by decide)) q6a q6c (g := (mkF m 58 #[.val (.int a), .val (.int n), .val (.int t2), .val (.ref o), .val (.int x)] [(.int n), (.ref o)])) rfl (by rw [hml]; rfl) (Steps.refl _) (argsL := [(.int n)]) (rest := []) (lenOf own_pd0 rfl) rfl (by show 2 * 0 + _ ≤ _; exact Nat.le_of_eq rfl) (hb hby at_58) (fun _ _ => ⟨rfl, e5, (by decide : 0 + 0 ≤ _), (by decide : 0 + 0 ≤ _)⟩)
  dsimp only [Pt.U, Pt.locs, Pt.cells, Pt.slots] at X6 ql6 qy6 qz6 st6 hQ6
  subst ql6 qy6 qz6
  obtain ⟨rfl, Nq6, eq6⟩ := hQ6
  have N6 := Fr.app N5 Nq6
  obtain ⟨fs, hr, hrun, hended, hW, hsame⟩ := X6.leave (v := some (.int (1 : Int32))) (fun h => by rw [Bd.returns] at h; cases h)
  refine ⟨_, _, pre0 _ ?_, hrun, hended, _, _, rfl, ?_, ⟨_, rfl⟩, hW, hsame.mono (by decide) (by decide)⟩
  · show Steps p.tables e below (s₁.setTop (mkF m 0 #[.val (.int a), .val (.int n), .unset, .unset, .unset] [])) _
    refine st1 _ ?_
    show Steps p.tables e below (T1.setTop (mkF m 12 #[.val (.int a), .val (.int n), .val (.int t2), .unset, .unset] [])) _
    refine st2 _ ?_
    show Steps p.tables e below (T2.setTop (mkF m 26 #[.val (.int a), .val (.int n), .val (.int t2), .val (.ref o), .unset] [])) _
    refine st5 _ ?_
    show Steps p.tables e below (T5.setTop (mkF m 56 #[.val (.int a), .val (.int n), .val (.int t2), .val (.ref o), .val (.int x)] [])) _
    refine XS.aloadN X5.here hx rfl (hb hby at_56) rfl rfl ?_
    show Steps p.tables e below (T5.setTop (mkF m 57 #[.val (.int a), .val (.int n), .val (.int t2), .val (.ref o), .val (.int x)] [(.ref o)])) _
    refine XS.iloadN X5.here hx rfl (hb hby at_57) rfl ?_
    show Steps p.tables e below (T5.setTop (mkF m 58 #[.val (.int a), .val (.int n), .val (.int t2), .val (.ref o), .val (.int x)] [(.int n), (.ref o)])) _
    refine st6.trans ?_
    show Steps p.tables e below (T6.setTop (mkF m 61 #[.val (.int a), .val (.int n), .val (.int t2), .val (.ref o), .val (.int x)] [(.int (if ¬ n < 1 ∧ ¬ hi < n then 1 else 0))])) _
    refine XS.iload X6.here hx rfl (hb hby at_61) rfl ?_
    show Steps p.tables e below (T6.setTop (mkF m 63 #[.val (.int a), .val (.int n), .val (.int t2), .val (.ref o), .val (.int x)] [(.int x), (.int (if ¬ n < 1 ∧ ¬ hi < n then 1 else 0))])) _
    refine XS.icmpNo X6.here hx rfl (hb hby at_63) rfl (teq (hv : (if ¬ n < 1 ∧ ¬ hi < n then 1 else 0) = x)).2 ?_
    show Steps p.tables e below (T6.setTop (mkF m 66 #[.val (.int a), .val (.int n), .val (.int t2), .val (.ref o), .val (.int x)] [])) _
    refine XS.iconst X6.here hx rfl (hb hby at_66) ?_
    show Steps p.tables e below (T6.setTop (mkF m 67 #[.val (.int a), .val (.int n), .val (.int t2), .val (.ref o), .val (.int x)] [(.int (1 : Int32))])) _
    refine XS.goto X6.here hx rfl (pc0 := 67) (pc' := 71) rfl (hb hby at_67) (by decide) (by decide) ?_
    show Steps p.tables e below (T6.setTop (mkF m 71 #[.val (.int a), .val (.int n), .val (.int t2), .val (.ref o), .val (.int x)] [(.int (1 : Int32))])) _
    exact retN X6 hx (t := .boolean) Bd.returns (by simp) (hb hby at_71) hr
  · show own_QL n0 _ T6.heap _
    exact ⟨rfl, N6⟩
set_option maxRecDepth 65536 in
set_option maxHeartbeats 40000000 in
theorem comes_1 {Post : Tables → Env → Array Value → State → Outcome → State → Prop} (hpost : ∀ tb e args s v u, (limb_1_1.after args s (.returned v) u = true ∧ limb_1_2.after args s (.returned v) u = true ∧ True) → FrameEnd s (.returned v) u (Jvm.fieldLocs frame_1_writes args s ++ Jvm.arrayLocs frame_1_arrays args s ++ Jvm.staticLocs frame_1_statics s) 0 0 → Post tb e args s (.returned v) u) :
    ArmFor flags0 classFile x code maxLocals ret World_1 tables_1 room_1 Calls_1 rest_1 Pre_1 Post := by
  intro l hfl _ _ p e ha hc hk s m args below hf hA hF happ hP
  obtain ⟨hcalls, hrest, hpre⟩ := hP
  obtain ⟨-, -, -, hnamed, -, -, -, hat⟩ := (Spec.applies_iff hf).mp happ
  obtain ⟨hg, hn⟩ := and_e (Cond.before_iff.mp (show (Jvm.Cond.and given_1 narrow_1).before args s = true from hpre))
  obtain ⟨g_n, hg⟩ := and_e hg
  obtain ⟨g_0, hg⟩ := and_e hg
  have g_1 := hg
  obtain ⟨w0, w1, rfl⟩ : ∃ w0 w1 : Value, args = #[w0, w1] := by
    have hs : args.size = 2 := by simpa [Cond.value, given_1] using g_n
    obtain ⟨L⟩ := args
    match L, hs with
    | [w0, w1], _ => exact ⟨w0, w1, rfl⟩
  have hw := fun d (hd : d ∈ tables_1) => atoms_spec (ws := Jvm.Cond.code x code maxLocals ret :: tables_1) hat d (List.mem_cons_of_mem _ hd)
  have hfit : Fit s := fun {y c} hc i hi => by
    obtain ⟨ha, rfl⟩ := Array.getElem?_eq_some_iff.mp hc
    have q := List.all_eq_true.mp ((Array.all_eq_true_iff_forall_mem.mp hF) _ (Array.getElem_mem ha)) i (List.mem_range.mpr hi)
    simpa [Array.getElem?_eq_getElem hi] using q
  obtain ⟨i0, ei0⟩ := is_v g_0
  obtain rfl : w0 = (.int i0) := Option.some.inj ei0
  obtain ⟨i1, ei1⟩ := is_v g_1
  obtain rfl : w1 = (.int i1) := Option.some.inj ei1
  obtain ⟨c0, hn⟩ := and_e hn
  obtain ⟨c1, hn⟩ := and_e hn
  obtain ⟨c2, hn⟩ := and_e hn
  obtain ⟨c3, hn⟩ := and_e hn
  obtain ⟨c4, hn⟩ := and_e hn
  have c5 := hn
  obtain ⟨a_FINITE, ev_FINITE⟩ := exa_v c0
  have E_FINITE := Exa.start ev_FINITE c0
  have S_FINITE := Sta.start ev_FINITE (Or.inr ⟨(hw _ (List.mem_of_getElem? (i := 1) rfl)), (hw _ (List.mem_of_getElem? (i := 2) rfl))⟩)
  obtain ⟨a_PARTITION, ev_PARTITION⟩ := exa_v c3
  have E_PARTITION := Exa.start ev_PARTITION c3
  have S_PARTITION := Sta.start ev_PARTITION (Or.inr ⟨(hw _ (List.mem_of_getElem? (i := 1) rfl)), (hw _ (List.mem_of_getElem? (i := 13) rfl))⟩)
  have F_FINITE_fewestOperands := Fld.start ((fld_at ev_FINITE).symm.trans (own_eqI c1))
  have F_FINITE_mostOperands := Fld.start ((fld_at ev_FINITE).symm.trans (own_eqI c2))
  have F_PARTITION_fewestOperands := Fld.start ((fld_at ev_PARTITION).symm.trans (own_eqI c4))
  have F_PARTITION_mostOperands := Fld.start ((fld_at ev_PARTITION).symm.trans (own_eqI c5))
  obtain ⟨n, o, h1, h2, h3, _, L, rfl, ⟨rfl, N⟩, hq⟩ := own_rm0 l s _ hw tables_1 i0 i1 a_FINITE a_PARTITION s.heap s.heap.size (Nat.le_refl _) S_FINITE E_FINITE F_FINITE_fewestOperands F_FINITE_mostOperands S_PARTITION E_PARTITION F_PARTITION_fewestOperands F_PARTITION_mostOperands p e ha hc hk s m _ below hf ((Spec.applies_iff_loose hf).mp happ).1 ⟨rfl, State.Warmed39.refl s, rfl⟩ trivial
  refine ⟨n, _, h1, h2, h3, hpost _ _ _ _ _ _ ⟨Cond.after_iff.mpr rfl, Cond.after_iff.mpr (eq_i res_at (Term.int_eval (1)) rfl), trivial⟩ ⟨hq.1, hq.2.1, (hq.2.2.sift fun y hy => Or.inr (N y hy)).mono (by decide) (by decide)⟩⟩
theorem main_1_1 : Claimed_1_1 := comes_1 fun _ _ _ _ _ _ h hF => ⟨h.1, hF⟩
theorem main_1_2 : Claimed_1_2 := comes_1 fun _ _ _ _ _ _ h hF => ⟨h.2.1, hF⟩
end Jvm.Pilot.@@N@@
namespace Jvm.Pilot.@@N@@
open Jvm Jvm.ClassFile Sem Op Lib Jvm.Free Jvm.Stand Jvm.Pilot.@@N@@.Jvm.D
/-! MADE BY PROGRAM (witnessworld.py) out of the Statement's table words and the real class files: 12 classes; the members and pool entries that the words name. The judged class is class 1, her method 1. -/
namespace start1
open Jvm.ClassFile
def u (s : String) : CpInfo := .utf8 (stringToUtf16 s)
/-- a pool by its gaps: so many unusable entries, then the entry; so many at the end -/
def gap : Nat → List CpInfo → List CpInfo
  | 0, r => r
  | n + 1, r => .unusable :: gap n r
def poolList (es : List (Nat × CpInfo)) (last : Nat) : List CpInfo := es.foldr (fun e r => gap e.1 (e.2 :: r)) (gap last [])
def pool (es : List (Nat × CpInfo)) (last : Nat) : Array CpInfo := ⟨poolList es last⟩
def fileOf (pool : Array CpInfo) (this : Nat) (attrs : Array Attribute := #[]) (ms : Array MethodInfo := #[]) (fl : Nat := 33) (sup : Nat := 0) (ifs : Array Nat := #[]) (fds : Array FieldInfo := #[]) : ClassFile where
  minorVersion := 0
  majorVersion := 65
  constantPool := pool
  accessFlags := fl
  thisClass := this
  superClass := sup
  interfaces := ifs
  fields := fds
  methods := ms
  attributes := attrs
def plain (name : String) (sup : Option ClassId) : Class where
  name := name
  kind := .ordinary
  loader := none
  accessFlags := 33
  super := sup
  interfaces := #[]
  cf := none
  fields := #[]
  methods := #[]
  instanceTypes := #[]
  staticTypes := #[]
  resolved := #[]
  callSites := []
  init := .initialized
  statics := none
  mirror := none

def pool0 : Array CpInfo := pool [(5, u "<init>"), (0, u "()V"), (1, .class_ 10), (1, u "java/lang/Object")] 113

def k0m0 : Method := { name := "<init>", desc := "()V", sig := { parameters := [], returnType := none }, accessFlags := 1, code := none }
/-- java/lang/Object -/
def k0 : Class := { plain "java/lang/Object" none with
  accessFlags := 33
  interfaces := #[]
  cf := some (fileOf pool0 8 #[] #[{ accessFlags := 1, nameIndex := 5, descriptorIndex := 6, attributes := #[] }] 33 0 #[] #[])
  fields := #[]
  methods := #[k0m0]
  instanceTypes := #[]
  staticTypes := #[]
  resolved := Array.replicate 124 none
  statics := none }

def pool1 : Array CpInfo := pool [(2, .class_ 4), (1, u "java/lang/Object"), (0, u "<init>"), (0, u "()V"), (0, .fieldref 8 9), (0, .class_ 10), (0, .nameAndType 11 12), (0, u "com/example/invarient/invarient/model/SetPredicate$Operator"), (0, u "PARTITION"), (0, u "Lcom/example/invarient/invarient/model/SetPredicate$Operator;"), (0, .fieldref 8 14), (0, .nameAndType 15 12), (0, u "FINITE"), (0, .methodref 8 17), (0, .nameAndType 18 19), (0, u "takes"), (0, u "(I)Z"), (0, .class_ 21), (0, u "com/example/invarient/invarient/model/OperatorTakesPinLaw"), (2, u "law"), (0, u "(II)Z")] 7

def k1m0 : Method := { name := "<init>", desc := "()V", sig := { parameters := [], returnType := none }, accessFlags := 2, code := none }
def k1c1 : Code := { maxStack := 2, maxLocals := 5, code := code, exceptionTable := #[], attributes := #[] }
def k1m1 : Method := { name := "law", desc := "(II)Z", sig := { parameters := [.int, .int], returnType := some .boolean }, accessFlags := 9, code := some k1c1 }
/-- com/example/invarient/invarient/model/OperatorTakesPinLaw -/
def k1 : Class := { plain "com/example/invarient/invarient/model/OperatorTakesPinLaw" (some 0) with
  accessFlags := 49
  interfaces := #[]
  cf := some (fileOf pool1 20 #[] #[{ accessFlags := 2, nameIndex := 5, descriptorIndex := 6, attributes := #[] }, { accessFlags := 9, nameIndex := 24, descriptorIndex := 25, attributes := #[] }] 49 2 #[] #[])
  fields := #[]
  methods := #[k1m0, k1m1]
  instanceTypes := #[]
  staticTypes := #[]
  resolved := Array.replicate 33 none
  statics := none }

def pool2 : Array CpInfo := pool [(1, .class_ 2), (0, u "java/lang/constant/Constable"), (0, .class_ 4), (0, u "java/lang/Object")] 6

/-- java/lang/constant/Constable -/
def k2 : Class := { plain "java/lang/constant/Constable" (some 0) with
  accessFlags := 1537
  interfaces := #[]
  cf := some (fileOf pool2 1 #[] #[] 1537 3 #[] #[])
  fields := #[]
  methods := #[]
  instanceTypes := #[]
  staticTypes := #[]
  resolved := Array.replicate 11 none
  statics := none }

def pool3 : Array CpInfo := pool [(1, .class_ 2), (0, u "java/lang/Comparable"), (0, .class_ 4), (0, u "java/lang/Object")] 7

/-- java/lang/Comparable -/
def k3 : Class := { plain "java/lang/Comparable" (some 0) with
  accessFlags := 1537
  interfaces := #[]
  cf := some (fileOf pool3 1 #[] #[] 1537 3 #[] #[])
  fields := #[]
  methods := #[]
  instanceTypes := #[]
  staticTypes := #[]
  resolved := Array.replicate 12 none
  statics := none }

def pool4 : Array CpInfo := pool [(1, .class_ 2), (0, u "java/io/Serializable"), (0, .class_ 4), (0, u "java/lang/Object")] 2

/-- java/io/Serializable -/
def k4 : Class := { plain "java/io/Serializable" (some 0) with
  accessFlags := 1537
  interfaces := #[]
  cf := some (fileOf pool4 1 #[] #[] 1537 3 #[] #[])
  fields := #[]
  methods := #[]
  instanceTypes := #[]
  staticTypes := #[]
  resolved := Array.replicate 7 none
  statics := none }

def pool5 : Array CpInfo := pool [(2, .class_ 4), (1, u "java/lang/Enum"), (0, u "name"), (0, u "Ljava/lang/String;"), (2, u "ordinal"), (0, u "I"), (1, .class_ 14), (1, u "java/lang/Object"), (4, u "hash"), (86, .class_ 108), (1, u "java/lang/Enum$EnumDesc"), (2, .class_ 112), (0, u "java/lang/constant/Constable"), (0, .class_ 114), (0, u "java/lang/Comparable"), (0, .class_ 116), (0, u "java/io/Serializable")] 87

/-- java/lang/Enum -/
def k5 : Class := { plain "java/lang/Enum" (some 0) with
  accessFlags := 1057
  interfaces := #[2, 3, 4]
  cf := some (fileOf pool5 2 #[.nestMembers #[106]] #[] 1057 12 #[111, 113, 115] #[{ accessFlags := 18, nameIndex := 5, descriptorIndex := 6, attributes := #[] }, { accessFlags := 18, nameIndex := 9, descriptorIndex := 10, attributes := #[] }, { accessFlags := 2, nameIndex := 19, descriptorIndex := 10, attributes := #[] }])
  fields := #[{ name := "name", type := (.object "java/lang/String"), accessFlags := 18, slot := 0, constantValue := 0 }, { name := "ordinal", type := .int, accessFlags := 18, slot := 1, constantValue := 0 }, { name := "hash", type := .int, accessFlags := 2, slot := 2, constantValue := 0 }]
  methods := #[]
  instanceTypes := #[(.object "java/lang/String"), .int, .int]
  staticTypes := #[]
  resolved := Array.replicate 204 none
  statics := none }

def pool6 : Array CpInfo := pool [(1, .class_ 2), (0, u "com/example/invarient/invarient/model/SetPredicate$Operator"), (2, u "FINITE"), (0, u "Lcom/example/invarient/invarient/model/SetPredicate$Operator;"), (2, u "PARTITION"), (2, u "$VALUES"), (0, u "[Lcom/example/invarient/invarient/model/SetPredicate$Operator;"), (6, .class_ 22), (1, u "java/lang/Enum"), (8, u "symbol"), (0, u "Ljava/lang/String;"), (0, .fieldref 1 34), (0, .nameAndType 35 36), (0, u "fewestOperands"), (0, u "I"), (0, .fieldref 1 38), (0, .nameAndType 39 36), (0, u "mostOperands"), (24, u "takes"), (0, u "(I)Z"), (7, .class_ 74), (0, u "com/example/invarient/invarient/model/SetPredicate")] 2

def k6c0 : Code := { maxStack := 2, maxLocals := 2, code := prog_80_method_5_code, exceptionTable := #[], attributes := #[] }
def k6m0 : Method := { name := "takes", desc := "(I)Z", sig := { parameters := [.int], returnType := some .boolean }, accessFlags := 1, code := some k6c0 }
/-- com/example/invarient/invarient/model/SetPredicate$Operator -/
def k6 : Class := { plain "com/example/invarient/invarient/model/SetPredicate$Operator" (some 5) with
  accessFlags := 16433
  interfaces := #[]
  cf := some (fileOf pool6 1 #[.nestHost 73] #[{ accessFlags := 1, nameIndex := 64, descriptorIndex := 65, attributes := #[] }] 16433 20 #[] #[{ accessFlags := 16409, nameIndex := 5, descriptorIndex := 6, attributes := #[] }, { accessFlags := 16409, nameIndex := 9, descriptorIndex := 6, attributes := #[] }, { accessFlags := 18, nameIndex := 31, descriptorIndex := 32, attributes := #[] }, { accessFlags := 18, nameIndex := 35, descriptorIndex := 36, attributes := #[] }, { accessFlags := 18, nameIndex := 39, descriptorIndex := 36, attributes := #[] }, { accessFlags := 4122, nameIndex := 12, descriptorIndex := 13, attributes := #[] }])
  fields := #[{ name := "FINITE", type := (.object "com/example/invarient/invarient/model/SetPredicate$Operator"), accessFlags := 16409, slot := 0, constantValue := 0 }, { name := "PARTITION", type := (.object "com/example/invarient/invarient/model/SetPredicate$Operator"), accessFlags := 16409, slot := 1, constantValue := 0 }, { name := "symbol", type := (.object "java/lang/String"), accessFlags := 18, slot := 3, constantValue := 0 }, { name := "fewestOperands", type := .int, accessFlags := 18, slot := 4, constantValue := 0 }, { name := "mostOperands", type := .int, accessFlags := 18, slot := 5, constantValue := 0 }, { name := "$VALUES", type := (.array (.object "com/example/invarient/invarient/model/SetPredicate$Operator")), accessFlags := 4122, slot := 2, constantValue := 0 }]
  methods := #[k6m0]
  instanceTypes := #[(.object "java/lang/String"), .int, .int, (.object "java/lang/String"), .int, .int]
  staticTypes := #[(.object "com/example/invarient/invarient/model/SetPredicate$Operator"), (.object "com/example/invarient/invarient/model/SetPredicate$Operator"), (.array (.object "com/example/invarient/invarient/model/SetPredicate$Operator"))]
  resolved := Array.replicate 77 none
  statics := some 0 }

def pool7 : Array CpInfo := pool [(1, u "java/lang/Cloneable"), (0, .class_ 1), (0, u "java/lang/Object"), (0, .class_ 3)] 3

/-- java/lang/Cloneable -/
def k7 : Class := { plain "java/lang/Cloneable" (some 0) with
  accessFlags := 1537
  interfaces := #[]
  cf := some (fileOf pool7 2 #[] #[] 1537 4 #[] #[])
  fields := #[]
  methods := #[]
  instanceTypes := #[]
  staticTypes := #[]
  resolved := Array.replicate 8 none
  statics := none }

/-- the primitive byte -/
def k8 : Class := { plain "byte" none with kind := .primitive 'B', accessFlags := 0x411 }
/-- [B -/
def k9 : Class := { plain "[B" (some 0) with kind := .array 8 .byte, interfaces := #[7, 4], accessFlags := 1041 }

/-- the primitive int -/
def k10 : Class := { plain "int" none with kind := .primitive 'I', accessFlags := 0x411 }
/-- [I -/
def k11 : Class := { plain "[I" (some 0) with kind := .array 10 .int, interfaces := #[7, 4], accessFlags := 1041 }

def heap : Heap := #[{ cls := 6, slots := #[.ref 1, .ref 2, .null], vm := .statics 6 },
  { cls := 6, slots := #[.null, .int 0, .int 0, .null, .int 1, .int 1], vm := .none },
  { cls := 6, slots := #[.null, .int 1, .int 0, .null, .int 1, .int 2147483647], vm := .none }]
def classes : Array Class := #[k0, k1, k2, k3, k4, k5, k6, k7, k8, k9, k10, k11]
def interned : List (Array UInt16 × Addr) := []
def slotsUsed : Nat := 15
def theMethod : MethodId := ⟨1, 1⟩
def args0 : Array Value := #[.int 5, .int 4]
def aboutOver (below : List Frame) : State where
  vm := { classes := classes, interned := interned.toArray }
  heap := heap
  slotsUsed := slotsUsed
  threads := #[{ frames := .invoking theMethod args0 :: below }]
def below0 : List Frame := [.native { method := ⟨0, 0⟩, args := #[] }]
def about1 : State := aboutOver below0
def p0 : Program := .bare "" "" ""
def e0 : Env := launch0.env 0 0 0
theorem w_frames : about1.frames = Frame.invoking theMethod args0 :: below0 := rfl
set_option maxRecDepth 65536 in
theorem w_args : argsFit about1.vm theMethod args0 = true := by decide +kernel
set_option maxRecDepth 65536 in
theorem w_heap : heapFits about1 = true := by decide +kernel
set_option maxRecDepth 65536 in
theorem w_runnable : about1.curStatus? = some .runnable := by decide +kernel
set_option maxRecDepth 65536 in
theorem w_alone : about1.alone = true := by decide +kernel
set_option maxRecDepth 65536 in
theorem w_named : about1.methodNamed? x = some theMethod := by decide +kernel
set_option maxRecDepth 65536 in
theorem w_hears : about1.hears theMethod below0 = true := by decide +kernel
set_option maxRecDepth 65536 in
theorem w_ripe : about1.ripe theMethod args0 below0 = true := by decide +kernel
theorem w_running : about1.status = .running := rfl
set_option maxRecDepth 65536 in
theorem w_room : about1.hasRoom e0.platform room_1 = true :=
  launch0.hasRoom_least _ room_1 (by decide +kernel) (by decide +kernel) (by decide +kernel) (by decide +kernel) (by decide +kernel) (by decide +kernel)
theorem allAtoms_all (ts : List Jvm.Cond) (a : Array Jvm.Value) (st : Jvm.State) : (allAtoms ts).before a st = ts.all (fun c => c.before a st) := by
  induction ts with
  | nil => rfl
  | cons c t ih =>
    show (Jvm.Cond.and c (allAtoms t)).before a st = _
    rw [Jvm.Cond.before_and, ih, List.all_cons]
def words1 : List Jvm.Cond := Jvm.Cond.code x code maxLocals ret :: tables_1
/-- a 'code' word, met by the world's own term for the bytes: nothing is compared byte by byte -/
theorem code_word {y : MethodName} {bytes : ByteArray} {mx : Nat} {rt : Option FieldType} {a : Array Value} {s : State} {m : MethodId} {meth : Method} {c : Code} (h1 : s.methodNamed? y = some m) (h2 : s.vm.method? m = some meth) (h3 : meth.code = some c) (h4 : c.code = bytes)
    (h5 : (c.maxLocals == mx && c.exceptionTable.isEmpty && decide (c.maxStack ≤ mostOperands) && decide (meth.sig.returnType = rt) && !meth.locks && decide (parseMethodDescriptor y.desc = some meth.sig)) = true) : (Jvm.Cond.code y bytes mx rt).before a s = true := by
  simp only [Bool.and_eq_true, beq_iff_eq, Bool.not_eq_true', decide_eq_true_eq] at h5
  obtain ⟨⟨⟨⟨⟨g1, g2⟩, g3⟩, g4⟩, g5⟩, g6⟩ := h5
  simp [Cond.before, Cond.holds, Cond.value, h1, h2, h3, h4, g1, g2, g3, g4, g5, g6]
def isCode : Jvm.Cond → Bool
  | .code _ _ _ _ => true
  | _ => false
theorem all_split {L : List Jvm.Cond} {P : Jvm.Cond → Bool} (h1 : L.all (fun c => isCode c || P c) = true) (h2 : ∀ c ∈ L.filter isCode, P c = true) : L.all P = true := by
  refine List.all_eq_true.mpr fun c hc => ?_
  have h := List.all_eq_true.mp h1 c hc
  rcases Bool.eq_false_or_eq_true (isCode c) with hi | hi
  · exact h2 c (List.mem_filter.mpr ⟨hc, hi⟩)
  · simpa [hi] using h
set_option maxRecDepth 65536 in
theorem w_c0 : (Jvm.Cond.code x code maxLocals ret).before args0 about1 = true := code_word (m := ⟨1, 1⟩) (meth := k1m1) (c := k1c1) (by decide +kernel) rfl rfl rfl (by decide +kernel)
set_option maxRecDepth 65536 in
theorem w_c1 : (Jvm.Cond.code ({ cls := "com/example/invarient/invarient/model/SetPredicate$Operator", name := "takes", desc := "(I)Z" } : Jvm.MethodName) prog_80_method_5_code (2 : Nat) (Option.some Jvm.ClassFile.FieldType.boolean)).before args0 about1 = true := code_word (m := ⟨6, 0⟩) (meth := k6m0) (c := k6c0) (by decide +kernel) rfl rfl rfl (by decide +kernel)
def codes1 : List Jvm.Cond := [Jvm.Cond.code x code maxLocals ret, Jvm.Cond.code ({ cls := "com/example/invarient/invarient/model/SetPredicate$Operator", name := "takes", desc := "(I)Z" } : Jvm.MethodName) prog_80_method_5_code (2 : Nat) (Option.some Jvm.ClassFile.FieldType.boolean)]
set_option maxRecDepth 65536 in
theorem codes_eq : words1.filter isCode = codes1 := rfl
theorem w_codes : ∀ c ∈ words1.filter isCode, c.before args0 about1 = true := by
  rw [codes_eq]
  intro c hc
  simp only [codes1, List.mem_cons, List.not_mem_nil, or_false] at hc
  rcases hc with rfl | rfl
  · exact w_c0
  · exact w_c1
set_option maxRecDepth 65536 in
theorem w_t1 : words1.all (fun c => isCode c || c.before args0 about1) = true := by decide +kernel
theorem w_tables : (allAtoms (Jvm.Cond.code x code maxLocals ret :: tables_1)).before args0 about1 = true := by
  rw [allAtoms_all]
  show words1.all (fun c => c.before args0 about1) = true
  refine all_split ?_ w_codes
  rw [w_t1]
set_option maxRecDepth 65536 in
theorem w_case : (Jvm.Cond.and given_1 narrow_1).before args0 about1 = true := by decide +kernel
theorem w_applies : (headSpec (Jvm.Cond.code x code maxLocals ret :: tables_1) room_1).applies x e0.platform about1 = true :=
  (Spec.applies_iff w_frames).mpr ⟨w_running, w_runnable, w_alone, w_named, w_hears, w_ripe, w_room, w_tables⟩
theorem atStart : AtStart classFile x code maxLocals ret World_1 tables_1 room_1 Calls_1 rest_1 Pre_1 launch0 p0 e0 about1 theMethod args0 below0 :=
  ⟨lists_1, trivial, launch0.admits_env _ _ _, launch0.least_env, fairChoices_fair.cas, fairChoices_fair.clock, w_frames, w_args, w_heap, w_applies, trivial, trivial, w_case⟩
end start1
theorem witness_1 : WitnessClaimed_1 := ⟨start1.p0, start1.e0, start1.about1, start1.theMethod, start1.args0, start1.below0, start1.atStart⟩
end Jvm.Pilot.@@N@@
