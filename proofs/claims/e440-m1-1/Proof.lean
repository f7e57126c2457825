import JvmDerived
import JvmDerived.Pilot.@@N@@Statement
import JvmDerived.Pilot.@@N@@Code
set_option linter.unusedVariables false
set_option linter.unusedSimpArgs false
namespace Jvm.RoadKit
open Sem ClassFile Op Lib Jvm.Stand Jvm.Free Jvm.LawKit
section New
variable {p : Program} {l : Launch} {e : Env} {R : Room} {s : State} {m : MethodId} {args : Array Value} {below : List Frame} {meth : Method} {c : Code} {T : State} {locs : List Loc} {cells slots : Nat}
theorem retI (X : Stand p l e R s m args below meth c T locs cells slots) (hx : p.tables.exec = Jvm.exec) {pc : Nat} {Ls : Array Slot} {z : Int32} {rest : List Value} (hret : meth.sig.returnType = some .int) (hd : decode c.code pc = .ok (.ireturn, 1)) {fs : List Frame}
    (hl : ∀ (f : JFrame) (acts : List Action), f.method = m → f.locked = none → f.entered = [] → (doReturn e (T.setTop f) acts (some (.int z))).1 = T.setFrames fs) : Steps p.tables e below (T.setTop (mkF m pc Ls (.int z :: rest))) (T.setFrames fs) := by
  have hm' : T.vm.method? m = some meth := X.method'
  have hn : narrow .int (.int z) = .int z := rfl
  show Steps p.tables e below (T.setTop { method := m, pc := pc, locals := Ls, stack := _ :: rest, locked := none }) _
  jvm_step X.here [X.here.top, hx, hd, hm', hret, hn]
  first | (intro acts; rw [hl _ acts rfl rfl rfl]) | rw [hl _ _ rfl rfl rfl]
  exact Steps.refl _
end New
end Jvm.RoadKit
namespace Jvm.Pilot.@@N@@
open Jvm Jvm.ClassFile Sem Op Lib Jvm.Free Jvm.Stand Jvm.LawKit Jvm.RoadKit Bundle Jvm.Pilot.@@N@@.Jvm.D
/-- what a callee leaves that writes nothing: it returns r, the heap is as it was -/
def own_QP (r : Option Value) (h0 : Heap) (n0 : Nat) (v : Option Value) (h : Heap) (L : List Loc) : Prop := v = r ∧ Fr n0 L ∧ h = h0
/-- what the law leaves -/
def own_QL (n0 : Nat) (v : Option Value) (h : Heap) (L : List Loc) : Prop := v = some (.int 1) ∧ Fr n0 L
theorem own_eqI {args : Array Value} {first s : State} {o : Option Outcome} {idx : List Nat} {t : Term} {k : Int32} (h : (Jvm.Cond.eq t (.int k)).value args first o s idx = some true) : t.eval args first o idx s = some (.int k) := by
  obtain ⟨x, y, h1, h2, h3, h4⟩ := cmp_v (Or.inl h)
  have e2 : y = .int k := (Option.some.inj (h2.symm.trans (Term.int_eval k)))
  subst e2
  obtain ⟨z, rfl⟩ : ∃ z, x = .int z := h4
  rw [h1]
  have q : (Jvm.Cond.eq t (.int k)).value args first o s idx = some (decide (z = k)) := Cond.eq_ints h1 h2
  rw [gotT q h]
theorem own_ne {Z : State} {h : Heap} {a b : Addr} {C n d : String} {v w : Value} (F : Fld Z h a C n d v) (G : Fld Z h b C n d w) (hv : v ≠ w) : ¬ a = b := fun e => by
  subst e
  obtain ⟨cell, cf, k, i, f, h1, h2, -, -, -, -, h7⟩ := F
  obtain ⟨cell', cf', k', i', f', g1, g2, -, -, -, -, g7⟩ := G
  cases h1.symm.trans g1
  cases h2.symm.trans g2
  cases h7.symm.trans g7
  exact hv rfl
theorem own_sm {a b : Addr} (h : a = b) : decide ((.ref a : Value) = .ref b) = true := decide_eq_true (congrArg Value.ref h)
theorem own_df {a b : Addr} (h : ¬ a = b) : decide ((.ref a : Value) = .ref b) = false := decide_eq_false fun q => h (Value.ref.inj q)
theorem own_nv {x y : Int32} (h : x ≠ y) : (Value.int x) ≠ .int y := fun q => h (Value.int.inj q)
theorem own_m3 (k : Int32) : (k &&& (3 : Int32)) = 0 ∨ (k &&& (3 : Int32)) = 1 ∨ (k &&& (3 : Int32)) = 2 ∨ (k &&& (3 : Int32)) = 3 := by
  have h := c_and k 3 (by decide)
  have e0 : (0 : Int32).toInt = 0 := by decide
  have e1 : (1 : Int32).toInt = 1 := by decide
  have e2 : (2 : Int32).toInt = 2 := by decide
  have e3 : (3 : Int32).toInt = 3 := by decide
  simp only [← Int32.toInt_inj, e0, e1, e2, e3] at *
  omega
theorem own_c2 (P Q : Prop) [Decidable P] [Decidable Q] : P ∨ (¬ P ∧ Q) ∨ (¬ P ∧ ¬ Q) := by
  by_cases p : P
  · exact Or.inl p
  · by_cases q : Q
    · exact Or.inr (Or.inl ⟨p, q⟩)
    · exact Or.inr (Or.inr ⟨p, q⟩)
/-- which constant pick hands out -/
def own_pick (k : Int32) (r au ac ar az : Addr) : Prop := (k = 0 ∧ r = au) ∨ (k = 1 ∧ r = ac) ∨ (k = 2 ∧ r = ar) ∨ (k = 3 ∧ r = az)
theorem own_ef0 (m : MethodId) (x0 : Int32) : entryFrame m #[(.int x0)] 1 = mkF m 0 #[.val (.int x0)] [] := by first | (simp [entryFrame, mkF, argsToLocals, Value.category]; done) | rfl
theorem own_pn0 : plainName "com/example/chiron/chiron/sql/IsolationLevelReadsEachStatementAnewPinLaw" = true := by first | (simp [plainName, overriddenIn]; done) | decide +kernel
theorem own_d_method_2_code_0 : decode method_2_code 0 = .ok (.iload_n 0, 1) := by decide +kernel
theorem own_d_method_2_code_1 : decode method_2_code 1 = .ok (.ifCond .ne 7, 3) := by decide +kernel
theorem own_d_method_2_code_4 : decode method_2_code 4 = .ok (.getstatic 7, 3) := by decide +kernel
theorem own_d_method_2_code_7 : decode method_2_code 7 = .ok (.areturn, 1) := by decide +kernel
theorem own_d_method_2_code_8 : decode method_2_code 8 = .ok (.iload_n 0, 1) := by decide +kernel
theorem own_d_method_2_code_9 : decode method_2_code 9 = .ok (.iconst 1, 1) := by decide +kernel
theorem own_d_method_2_code_10 : decode method_2_code 10 = .ok (.if_icmp .ne 7, 3) := by decide +kernel
theorem own_d_method_2_code_13 : decode method_2_code 13 = .ok (.getstatic 13, 3) := by decide +kernel
theorem own_d_method_2_code_16 : decode method_2_code 16 = .ok (.areturn, 1) := by decide +kernel
theorem own_d_method_2_code_17 : decode method_2_code 17 = .ok (.iload_n 0, 1) := by decide +kernel
theorem own_d_method_2_code_18 : decode method_2_code 18 = .ok (.iconst 2, 1) := by decide +kernel
theorem own_d_method_2_code_19 : decode method_2_code 19 = .ok (.if_icmp .ne 7, 3) := by decide +kernel
theorem own_d_method_2_code_22 : decode method_2_code 22 = .ok (.getstatic 16, 3) := by decide +kernel
theorem own_d_method_2_code_25 : decode method_2_code 25 = .ok (.areturn, 1) := by decide +kernel
theorem own_d_method_2_code_26 : decode method_2_code 26 = .ok (.getstatic 19, 3) := by decide +kernel
theorem own_d_method_2_code_29 : decode method_2_code 29 = .ok (.areturn, 1) := by decide +kernel
theorem own_ef1 (m : MethodId) (x0 : Addr) : entryFrame m #[(.ref x0)] 1 = mkF m 0 #[.val (.ref x0)] [] := by first | (simp [entryFrame, mkF, argsToLocals, Value.category]; done) | rfl
theorem own_pn1 : plainName "com/example/chiron/chiron/sql/IsolationLevel" = true := by first | (simp [plainName, overriddenIn]; done) | decide +kernel
theorem own_d_prog_71_method_7_code_0 : decode prog_71_method_7_code 0 = .ok (.aload_n 0, 1) := by decide +kernel
theorem own_d_prog_71_method_7_code_1 : decode prog_71_method_7_code 1 = .ok (.getstatic 3, 3) := by decide +kernel
theorem own_d_prog_71_method_7_code_4 : decode prog_71_method_7_code 4 = .ok (.if_acmp .eq 10, 3) := by decide +kernel
theorem own_d_prog_71_method_7_code_7 : decode prog_71_method_7_code 7 = .ok (.aload_n 0, 1) := by decide +kernel
theorem own_d_prog_71_method_7_code_8 : decode prog_71_method_7_code 8 = .ok (.getstatic 7, 3) := by decide +kernel
theorem own_d_prog_71_method_7_code_11 : decode prog_71_method_7_code 11 = .ok (.if_acmp .ne 7, 3) := by decide +kernel
theorem own_d_prog_71_method_7_code_14 : decode prog_71_method_7_code 14 = .ok (.iconst 1, 1) := by decide +kernel
theorem own_d_prog_71_method_7_code_15 : decode prog_71_method_7_code 15 = .ok (.goto 4, 3) := by decide +kernel
theorem own_d_prog_71_method_7_code_18 : decode prog_71_method_7_code 18 = .ok (.iconst 0, 1) := by decide +kernel
theorem own_d_prog_71_method_7_code_19 : decode prog_71_method_7_code 19 = .ok (.ireturn, 1) := by decide +kernel
theorem own_ef2 (m : MethodId) (x0 : Addr) : entryFrame m #[(.ref x0)] 1 = mkF m 0 #[.val (.ref x0)] [] := by first | (simp [entryFrame, mkF, argsToLocals, Value.category]; done) | rfl
theorem own_d_prog_71_method_5_code_0 : decode prog_71_method_5_code 0 = .ok (.aload_n 0, 1) := by decide +kernel
theorem own_d_prog_71_method_5_code_1 : decode prog_71_method_5_code 1 = .ok (.getfield 35, 3) := by decide +kernel
theorem own_d_prog_71_method_5_code_4 : decode prog_71_method_5_code 4 = .ok (.ireturn, 1) := by decide +kernel
theorem own_ef3 (m : MethodId) (x0 : Int32) : entryFrame m #[(.int x0)] maxLocals = mkF m 0 #[.val (.int x0), .unset, .unset, .unset, .unset, .unset] [] := by first | (simp [entryFrame, mkF, argsToLocals, Value.category, maxLocals]; done) | rfl
theorem own_pd0 : parseMethodDescriptor "(I)Lcom/example/chiron/chiron/sql/IsolationLevel;" = some ⟨[.int], some (.object "com/example/chiron/chiron/sql/IsolationLevel")⟩ := by decide +kernel
theorem own_pd1 : parseMethodDescriptor "()Z" = some ⟨[], some .boolean⟩ := by decide +kernel
theorem own_pd2 : parseMethodDescriptor "()I" = some ⟨[], some .int⟩ := by decide +kernel
set_option maxRecDepth 65536 in
set_option maxHeartbeats 40000000 in
theorem own_rmp (l : Launch) (Z : State) (a0 : Array Value) (hw : ∀ d ∈ tables_1, d.before a0 Z = true) (ws : List Jvm.Cond) (k : Int32) (r au ac ar az : Addr) (h0 : Heap) (n0 : Nat) (Z0 : n0 ≤ h0.size) (S_READ_UNCOMMITTED : Sta Z h0 "com/example/chiron/chiron/sql/IsolationLevel" "READ_UNCOMMITTED" "Lcom/example/chiron/chiron/sql/IsolationLevel;" (.ref au)) (S_READ_COMMITTED : Sta Z h0 "com/example/chiron/chiron/sql/IsolationLevel" "READ_COMMITTED" "Lcom/example/chiron/chiron/sql/IsolationLevel;" (.ref ac)) (S_REPEATABLE_READ : Sta Z h0 "com/example/chiron/chiron/sql/IsolationLevel" "REPEATABLE_READ" "Lcom/example/chiron/chiron/sql/IsolationLevel;" (.ref ar)) (S_SERIALIZABLE : Sta Z h0 "com/example/chiron/chiron/sql/IsolationLevel" "SERIALIZABLE" "Lcom/example/chiron/chiron/sql/IsolationLevel;" (.ref az)) (hr : own_pick k r au ac ar az) :
    MetFree l (⟨"com/example/chiron/chiron/sql/IsolationLevelReadsEachStatementAnewPinLaw", "pick", "(I)Lcom/example/chiron/chiron/sql/IsolationLevel;"⟩ : MethodName) (head1 (Jvm.Cond.code (⟨"com/example/chiron/chiron/sql/IsolationLevelReadsEachStatementAnewPinLaw", "pick", "(I)Lcom/example/chiron/chiron/sql/IsolationLevel;"⟩ : MethodName) method_2_code 1 (some (.object "com/example/chiron/chiron/sql/IsolationLevel")) :: ws) ({ frames := 0, cells := 0, slots := 0, locals := 0 } : Room)) (fun a_ U_ => a_ = #[(.int k)] ∧ Z.Warmed39 U_.vm ∧ U_.heap = h0) (fun _ _ _ _ _ => True) (fun _ U_ o_ U_' => ∃ v_ L_, o_ = .returned v_ ∧ own_QP (some (.ref r)) h0 n0 v_ U_'.heap L_ ∧ FrameEnd U_ o_ U_' L_ ({ frames := 0, cells := 0, slots := 0, locals := 0 } : Room).cells ({ frames := 0, cells := 0, slots := 0, locals := 0 } : Room).slots) := by
  refine MetFree.of_bodySF (plainFor_of_name own_pn0) hisR ?_
  intro p e s m args below meth c s₁ Bd hml0 hP hK
  obtain ⟨rfl, hZ, hh⟩ := hP
  have hx := Bd.exec
  have hby := Bd.bytes
  have hml : c.maxLocals = 1 := hml0
  have hown : s.vm.findClass "com/example/chiron/chiron/sql/IsolationLevelReadsEachStatementAnewPinLaw" = some m.cls := findClass_of_methodNamed Bd.named
  have hnm := (name_of_methodNamed Bd.named Bd.method).1
  have X0 : Stand p l e ({ frames := 0, cells := 0, slots := 0, locals := 0 } : Room) s m #[(.int k)] below meth c s₁ [] 0 0 := Stand.of_body Bd
  have e0 : s₁.heap = h0 := by rw [← hh, Bd.state]; rfl
  have N0 := Fr.nil n0
  have pre0 : ∀ t, Steps p.tables e below (s₁.setTop (mkF m 0 #[.val (.int k)] [])) t → Steps p.tables e below (s₁.setTop (entryFrame m #[(.int k)] 1)) t := fun t_ k_ => castTop (own_ef0 m k) k_
  rcases hr with ⟨h, h'⟩ | ⟨h, h'⟩ | ⟨h, h'⟩ | ⟨h, h'⟩
  · obtain ⟨T1, X1, e1, st1⟩ := getS2 X0 hx hZ hown (host := "") (Or.inl (hw _ (List.mem_of_getElem? (i := 4) rfl))) Via.refl e0 S_READ_UNCOMMITTED (g := (mkF m 4 #[.val (.int k)] [])) rfl (hb hby own_d_method_2_code_4)
    obtain ⟨fs, hr, hrun, hended, hW, hsame⟩ := X1.leave (v := some (.ref au)) (fun h => by rw [Bd.returns] at h; cases h)
    refine ⟨_, _, pre0 _ ?_, hrun, hended, _, _, rfl, ?_, ⟨_, rfl⟩, hW, hsame.mono (by decide) (by decide)⟩
    · show Steps p.tables e below (s₁.setTop (mkF m 0 #[.val (.int k)] [])) _
      refine XS.iloadN X0.here hx rfl (hb hby own_d_method_2_code_0) rfl ?_
      show Steps p.tables e below (s₁.setTop (mkF m 1 #[.val (.int k)] [(.int k)])) _
      refine XS.ifNo X0.here hx rfl (hb hby own_d_method_2_code_1) rfl ((if0 _ _).trans (teq (h : k = (0 : Int32))).2) ?_
      show Steps p.tables e below (s₁.setTop (mkF m 4 #[.val (.int k)] [])) _
      refine st1 _ ?_
      show Steps p.tables e below (T1.setTop (mkF m 7 #[.val (.int k)] [(.ref au)])) _
      exact retOut X1 hx Bd.returns rfl (Or.inr (Or.inr (Or.inr (Or.inr ⟨rfl, rfl, rfl⟩)))) (hb hby own_d_method_2_code_7) hr
    · show own_QP (some (.ref r)) h0 n0 _ T1.heap _
      exact ⟨by rw [h'], N0, e1⟩
  · obtain ⟨T2, X2, e2, st2⟩ := getS2 X0 hx hZ hown (host := "") (Or.inl (hw _ (List.mem_of_getElem? (i := 26) rfl))) Via.refl e0 S_READ_COMMITTED (g := (mkF m 13 #[.val (.int k)] [])) rfl (hb hby own_d_method_2_code_13)
    obtain ⟨fs, hr, hrun, hended, hW, hsame⟩ := X2.leave (v := some (.ref ac)) (fun h => by rw [Bd.returns] at h; cases h)
    refine ⟨_, _, pre0 _ ?_, hrun, hended, _, _, rfl, ?_, ⟨_, rfl⟩, hW, hsame.mono (by decide) (by decide)⟩
    · show Steps p.tables e below (s₁.setTop (mkF m 0 #[.val (.int k)] [])) _
      refine XS.iloadN X0.here hx rfl (hb hby own_d_method_2_code_0) rfl ?_
      show Steps p.tables e below (s₁.setTop (mkF m 1 #[.val (.int k)] [(.int k)])) _
      refine XS.ifYes X0.here hx rfl (pc0 := 1) (pc' := 8) rfl (hb hby own_d_method_2_code_1) rfl ((if0 _ _).trans (feq (by rw [h]; decide : ¬ (k = (0 : Int32)))).2) (by decide) (by decide) ?_
      show Steps p.tables e below (s₁.setTop (mkF m 8 #[.val (.int k)] [])) _
      refine XS.iloadN X0.here hx rfl (hb hby own_d_method_2_code_8) rfl ?_
      show Steps p.tables e below (s₁.setTop (mkF m 9 #[.val (.int k)] [(.int k)])) _
      refine XS.iconst X0.here hx rfl (hb hby own_d_method_2_code_9) ?_
      show Steps p.tables e below (s₁.setTop (mkF m 10 #[.val (.int k)] [(.int (1 : Int32)), (.int k)])) _
      refine XS.icmpNo X0.here hx rfl (hb hby own_d_method_2_code_10) rfl (teq (h : k = (1 : Int32))).2 ?_
      show Steps p.tables e below (s₁.setTop (mkF m 13 #[.val (.int k)] [])) _
      refine st2 _ ?_
      show Steps p.tables e below (T2.setTop (mkF m 16 #[.val (.int k)] [(.ref ac)])) _
      exact retOut X2 hx Bd.returns rfl (Or.inr (Or.inr (Or.inr (Or.inr ⟨rfl, rfl, rfl⟩)))) (hb hby own_d_method_2_code_16) hr
    · show own_QP (some (.ref r)) h0 n0 _ T2.heap _
      exact ⟨by rw [h'], N0, e2⟩
  · obtain ⟨T3, X3, e3, st3⟩ := getS2 X0 hx hZ hown (host := "") (Or.inl (hw _ (List.mem_of_getElem? (i := 24) rfl))) Via.refl e0 S_REPEATABLE_READ (g := (mkF m 22 #[.val (.int k)] [])) rfl (hb hby own_d_method_2_code_22)
    obtain ⟨fs, hr, hrun, hended, hW, hsame⟩ := X3.leave (v := some (.ref ar)) (fun h => by rw [Bd.returns] at h; cases h)
    refine ⟨_, _, pre0 _ ?_, hrun, hended, _, _, rfl, ?_, ⟨_, rfl⟩, hW, hsame.mono (by decide) (by decide)⟩
    · show Steps p.tables e below (s₁.setTop (mkF m 0 #[.val (.int k)] [])) _
      refine XS.iloadN X0.here hx rfl (hb hby own_d_method_2_code_0) rfl ?_
      show Steps p.tables e below (s₁.setTop (mkF m 1 #[.val (.int k)] [(.int k)])) _
      refine XS.ifYes X0.here hx rfl (pc0 := 1) (pc' := 8) rfl (hb hby own_d_method_2_code_1) rfl ((if0 _ _).trans (feq (by rw [h]; decide : ¬ (k = (0 : Int32)))).2) (by decide) (by decide) ?_
      show Steps p.tables e below (s₁.setTop (mkF m 8 #[.val (.int k)] [])) _
      refine XS.iloadN X0.here hx rfl (hb hby own_d_method_2_code_8) rfl ?_
      show Steps p.tables e below (s₁.setTop (mkF m 9 #[.val (.int k)] [(.int k)])) _
      refine XS.iconst X0.here hx rfl (hb hby own_d_method_2_code_9) ?_
      show Steps p.tables e below (s₁.setTop (mkF m 10 #[.val (.int k)] [(.int (1 : Int32)), (.int k)])) _
      refine XS.icmpYes X0.here hx rfl (pc0 := 10) (pc' := 17) rfl (hb hby own_d_method_2_code_10) rfl (feq (by rw [h]; decide : ¬ (k = (1 : Int32)))).2 (by decide) (by decide) ?_
      show Steps p.tables e below (s₁.setTop (mkF m 17 #[.val (.int k)] [])) _
      refine XS.iloadN X0.here hx rfl (hb hby own_d_method_2_code_17) rfl ?_
      show Steps p.tables e below (s₁.setTop (mkF m 18 #[.val (.int k)] [(.int k)])) _
      refine XS.iconst X0.here hx rfl (hb hby own_d_method_2_code_18) ?_
      show Steps p.tables e below (s₁.setTop (mkF m 19 #[.val (.int k)] [(.int (2 : Int32)), (.int k)])) _
      refine XS.icmpNo X0.here hx rfl (hb hby own_d_method_2_code_19) rfl (teq (h : k = (2 : Int32))).2 ?_
      show Steps p.tables e below (s₁.setTop (mkF m 22 #[.val (.int k)] [])) _
      refine st3 _ ?_
      show Steps p.tables e below (T3.setTop (mkF m 25 #[.val (.int k)] [(.ref ar)])) _
      exact retOut X3 hx Bd.returns rfl (Or.inr (Or.inr (Or.inr (Or.inr ⟨rfl, rfl, rfl⟩)))) (hb hby own_d_method_2_code_25) hr
    · show own_QP (some (.ref r)) h0 n0 _ T3.heap _
      exact ⟨by rw [h'], N0, e3⟩
  · obtain ⟨T4, X4, e4, st4⟩ := getS2 X0 hx hZ hown (host := "") (Or.inl (hw _ (List.mem_of_getElem? (i := 20) rfl))) Via.refl e0 S_SERIALIZABLE (g := (mkF m 26 #[.val (.int k)] [])) rfl (hb hby own_d_method_2_code_26)
    obtain ⟨fs, hr, hrun, hended, hW, hsame⟩ := X4.leave (v := some (.ref az)) (fun h => by rw [Bd.returns] at h; cases h)
    refine ⟨_, _, pre0 _ ?_, hrun, hended, _, _, rfl, ?_, ⟨_, rfl⟩, hW, hsame.mono (by decide) (by decide)⟩
    · show Steps p.tables e below (s₁.setTop (mkF m 0 #[.val (.int k)] [])) _
      refine XS.iloadN X0.here hx rfl (hb hby own_d_method_2_code_0) rfl ?_
      show Steps p.tables e below (s₁.setTop (mkF m 1 #[.val (.int k)] [(.int k)])) _
      refine XS.ifYes X0.here hx rfl (pc0 := 1) (pc' := 8) rfl (hb hby own_d_method_2_code_1) rfl ((if0 _ _).trans (feq (by rw [h]; decide : ¬ (k = (0 : Int32)))).2) (by decide) (by decide) ?_
      show Steps p.tables e below (s₁.setTop (mkF m 8 #[.val (.int k)] [])) _
      refine XS.iloadN X0.here hx rfl (hb hby own_d_method_2_code_8) rfl ?_
      show Steps p.tables e below (s₁.setTop (mkF m 9 #[.val (.int k)] [(.int k)])) _
      refine XS.iconst X0.here hx rfl (hb hby own_d_method_2_code_9) ?_
      show Steps p.tables e below (s₁.setTop (mkF m 10 #[.val (.int k)] [(.int (1 : Int32)), (.int k)])) _
      refine XS.icmpYes X0.here hx rfl (pc0 := 10) (pc' := 17) rfl (hb hby own_d_method_2_code_10) rfl (feq (by rw [h]; decide : ¬ (k = (1 : Int32)))).2 (by decide) (by decide) ?_
      show Steps p.tables e below (s₁.setTop (mkF m 17 #[.val (.int k)] [])) _
      refine XS.iloadN X0.here hx rfl (hb hby own_d_method_2_code_17) rfl ?_
      show Steps p.tables e below (s₁.setTop (mkF m 18 #[.val (.int k)] [(.int k)])) _
      refine XS.iconst X0.here hx rfl (hb hby own_d_method_2_code_18) ?_
      show Steps p.tables e below (s₁.setTop (mkF m 19 #[.val (.int k)] [(.int (2 : Int32)), (.int k)])) _
      refine XS.icmpYes X0.here hx rfl (pc0 := 19) (pc' := 26) rfl (hb hby own_d_method_2_code_19) rfl (feq (by rw [h]; decide : ¬ (k = (2 : Int32)))).2 (by decide) (by decide) ?_
      show Steps p.tables e below (s₁.setTop (mkF m 26 #[.val (.int k)] [])) _
      refine st4 _ ?_
      show Steps p.tables e below (T4.setTop (mkF m 29 #[.val (.int k)] [(.ref az)])) _
      exact retOut X4 hx Bd.returns rfl (Or.inr (Or.inr (Or.inr (Or.inr ⟨rfl, rfl, rfl⟩)))) (hb hby own_d_method_2_code_29) hr
    · show own_QP (some (.ref r)) h0 n0 _ T4.heap _
      exact ⟨by rw [h'], N0, e4⟩
set_option maxRecDepth 65536 in
set_option maxHeartbeats 40000000 in
theorem own_rmn (l : Launch) (Z : State) (a0 : Array Value) (hw : ∀ d ∈ tables_1, d.before a0 Z = true) (ws : List Jvm.Cond) (a au ac : Addr) (h0 : Heap) (n0 : Nat) (Z0 : n0 ≤ h0.size) (S_READ_UNCOMMITTED : Sta Z h0 "com/example/chiron/chiron/sql/IsolationLevel" "READ_UNCOMMITTED" "Lcom/example/chiron/chiron/sql/IsolationLevel;" (.ref au)) (S_READ_COMMITTED : Sta Z h0 "com/example/chiron/chiron/sql/IsolationLevel" "READ_COMMITTED" "Lcom/example/chiron/chiron/sql/IsolationLevel;" (.ref ac)) :
    MetFree l (⟨"com/example/chiron/chiron/sql/IsolationLevel", "readsEachStatementAnew", "()Z"⟩ : MethodName) (head1 (Jvm.Cond.code (⟨"com/example/chiron/chiron/sql/IsolationLevel", "readsEachStatementAnew", "()Z"⟩ : MethodName) prog_71_method_7_code 1 (some .boolean) :: ws) ({ frames := 0, cells := 0, slots := 0, locals := 0 } : Room)) (fun a_ U_ => a_ = #[(.ref a)] ∧ Z.Warmed39 U_.vm ∧ U_.heap = h0) (fun _ _ _ _ _ => True) (fun _ U_ o_ U_' => ∃ v_ L_, o_ = .returned v_ ∧ own_QP (some (.int (if a = au ∨ a = ac then 1 else 0))) h0 n0 v_ U_'.heap L_ ∧ FrameEnd U_ o_ U_' L_ ({ frames := 0, cells := 0, slots := 0, locals := 0 } : Room).cells ({ frames := 0, cells := 0, slots := 0, locals := 0 } : Room).slots) := by
  refine MetFree.of_bodySF (plainFor_of_name own_pn1) hisR ?_
  intro p e s m args below meth c s₁ Bd hml0 hP hK
  obtain ⟨rfl, hZ, hh⟩ := hP
  have hx := Bd.exec
  have hby := Bd.bytes
  have hml : c.maxLocals = 1 := hml0
  have hown : s.vm.findClass "com/example/chiron/chiron/sql/IsolationLevel" = some m.cls := findClass_of_methodNamed Bd.named
  have hnm := (name_of_methodNamed Bd.named Bd.method).1
  have X0 : Stand p l e ({ frames := 0, cells := 0, slots := 0, locals := 0 } : Room) s m #[(.ref a)] below meth c s₁ [] 0 0 := Stand.of_body Bd
  have e0 : s₁.heap = h0 := by rw [← hh, Bd.state]; rfl
  have N0 := Fr.nil n0
  have pre0 : ∀ t, Steps p.tables e below (s₁.setTop (mkF m 0 #[.val (.ref a)] [])) t → Steps p.tables e below (s₁.setTop (entryFrame m #[(.ref a)] 1)) t := fun t_ k_ => castTop (own_ef1 m a) k_
  rcases own_c2 (a = au) (a = ac) with h | ⟨h, h2⟩ | ⟨h, h2⟩
  · obtain ⟨T1, X1, e1, st1⟩ := getS2 X0 hx hZ hown (host := "") (Or.inl (hw _ (List.mem_of_getElem? (i := 12) rfl))) Via.refl e0 S_READ_UNCOMMITTED (g := (mkF m 1 #[.val (.ref a)] [(.ref a)])) rfl (hb hby own_d_prog_71_method_7_code_1)
    obtain ⟨fs, hr, hrun, hended, hW, hsame⟩ := X1.leave (v := some (.int (1 : Int32))) (fun h => by rw [Bd.returns] at h; cases h)
    refine ⟨_, _, pre0 _ ?_, hrun, hended, _, _, rfl, ?_, ⟨_, rfl⟩, hW, hsame.mono (by decide) (by decide)⟩
    · show Steps p.tables e below (s₁.setTop (mkF m 0 #[.val (.ref a)] [])) _
      refine XS.aloadN X0.here hx rfl (hb hby own_d_prog_71_method_7_code_0) rfl rfl ?_
      show Steps p.tables e below (s₁.setTop (mkF m 1 #[.val (.ref a)] [(.ref a)])) _
      refine st1 _ ?_
      show Steps p.tables e below (T1.setTop (mkF m 4 #[.val (.ref a)] [(.ref au), (.ref a)])) _
      refine Jvm.RoadKit.acmp (g := (mkF m 4 #[.val (.ref a)] [(.ref au), (.ref a)])) X1 hx rfl (x := (.ref a)) (y := (.ref au)) rfl rfl (pc0 := 4) (pc' := 14) (same := true) rfl (hb hby own_d_prog_71_method_7_code_4) rfl (own_sm h) (by decide) (by decide) ?_
      show Steps p.tables e below (T1.setTop (mkF m 14 #[.val (.ref a)] [])) _
      refine XS.iconst X1.here hx rfl (hb hby own_d_prog_71_method_7_code_14) ?_
      show Steps p.tables e below (T1.setTop (mkF m 15 #[.val (.ref a)] [(.int (1 : Int32))])) _
      refine XS.goto X1.here hx rfl (pc0 := 15) (pc' := 19) rfl (hb hby own_d_prog_71_method_7_code_15) (by decide) (by decide) ?_
      show Steps p.tables e below (T1.setTop (mkF m 19 #[.val (.ref a)] [(.int (1 : Int32))])) _
      exact retN X1 hx (t := .boolean) Bd.returns (by simp) (hb hby own_d_prog_71_method_7_code_19) hr
    · show own_QP (some (.int (if a = au ∨ a = ac then 1 else 0))) h0 n0 _ T1.heap _
      exact ⟨by rw [if_pos (Or.inl h)], N0, e1⟩
  · obtain ⟨T2, X2, e2, st2⟩ := getS2 X0 hx hZ hown (host := "") (Or.inl (hw _ (List.mem_of_getElem? (i := 12) rfl))) Via.refl e0 S_READ_UNCOMMITTED (g := (mkF m 1 #[.val (.ref a)] [(.ref a)])) rfl (hb hby own_d_prog_71_method_7_code_1)
    obtain ⟨T3, X3, e3, st3⟩ := getS2 X2 hx hZ hown (host := "") (Or.inl (hw _ (List.mem_of_getElem? (i := 22) rfl))) Via.refl e2 S_READ_COMMITTED (g := (mkF m 8 #[.val (.ref a)] [(.ref a)])) rfl (hb hby own_d_prog_71_method_7_code_8)
    obtain ⟨fs, hr, hrun, hended, hW, hsame⟩ := X3.leave (v := some (.int (1 : Int32))) (fun h => by rw [Bd.returns] at h; cases h)
    refine ⟨_, _, pre0 _ ?_, hrun, hended, _, _, rfl, ?_, ⟨_, rfl⟩, hW, hsame.mono (by decide) (by decide)⟩
    · show Steps p.tables e below (s₁.setTop (mkF m 0 #[.val (.ref a)] [])) _
      refine XS.aloadN X0.here hx rfl (hb hby own_d_prog_71_method_7_code_0) rfl rfl ?_
      show Steps p.tables e below (s₁.setTop (mkF m 1 #[.val (.ref a)] [(.ref a)])) _
      refine st2 _ ?_
      show Steps p.tables e below (T2.setTop (mkF m 4 #[.val (.ref a)] [(.ref au), (.ref a)])) _
      refine Jvm.RoadKit.acmp (g := (mkF m 4 #[.val (.ref a)] [(.ref au), (.ref a)])) X2 hx rfl (x := (.ref a)) (y := (.ref au)) rfl rfl (pc0 := 4) (pc' := 7) (same := false) rfl (hb hby own_d_prog_71_method_7_code_4) rfl (own_df h) (by decide) (by decide) ?_
      show Steps p.tables e below (T2.setTop (mkF m 7 #[.val (.ref a)] [])) _
      refine XS.aloadN X2.here hx rfl (hb hby own_d_prog_71_method_7_code_7) rfl rfl ?_
      show Steps p.tables e below (T2.setTop (mkF m 8 #[.val (.ref a)] [(.ref a)])) _
      refine st3 _ ?_
      show Steps p.tables e below (T3.setTop (mkF m 11 #[.val (.ref a)] [(.ref ac), (.ref a)])) _
      refine Jvm.RoadKit.acmp (g := (mkF m 11 #[.val (.ref a)] [(.ref ac), (.ref a)])) X3 hx rfl (x := (.ref a)) (y := (.ref ac)) rfl rfl (pc0 := 11) (pc' := 14) (same := true) rfl (hb hby own_d_prog_71_method_7_code_11) rfl (own_sm h2) (by decide) (by decide) ?_
      show Steps p.tables e below (T3.setTop (mkF m 14 #[.val (.ref a)] [])) _
      refine XS.iconst X3.here hx rfl (hb hby own_d_prog_71_method_7_code_14) ?_
      show Steps p.tables e below (T3.setTop (mkF m 15 #[.val (.ref a)] [(.int (1 : Int32))])) _
      refine XS.goto X3.here hx rfl (pc0 := 15) (pc' := 19) rfl (hb hby own_d_prog_71_method_7_code_15) (by decide) (by decide) ?_
      show Steps p.tables e below (T3.setTop (mkF m 19 #[.val (.ref a)] [(.int (1 : Int32))])) _
      exact retN X3 hx (t := .boolean) Bd.returns (by simp) (hb hby own_d_prog_71_method_7_code_19) hr
    · show own_QP (some (.int (if a = au ∨ a = ac then 1 else 0))) h0 n0 _ T3.heap _
      exact ⟨by rw [if_pos (Or.inr h2)], N0, e3⟩
  · obtain ⟨T4, X4, e4, st4⟩ := getS2 X0 hx hZ hown (host := "") (Or.inl (hw _ (List.mem_of_getElem? (i := 12) rfl))) Via.refl e0 S_READ_UNCOMMITTED (g := (mkF m 1 #[.val (.ref a)] [(.ref a)])) rfl (hb hby own_d_prog_71_method_7_code_1)
    obtain ⟨T5, X5, e5, st5⟩ := getS2 X4 hx hZ hown (host := "") (Or.inl (hw _ (List.mem_of_getElem? (i := 22) rfl))) Via.refl e4 S_READ_COMMITTED (g := (mkF m 8 #[.val (.ref a)] [(.ref a)])) rfl (hb hby own_d_prog_71_method_7_code_8)
    obtain ⟨fs, hr, hrun, hended, hW, hsame⟩ := X5.leave (v := some (.int (0 : Int32))) (fun h => by rw [Bd.returns] at h; cases h)
    refine ⟨_, _, pre0 _ ?_, hrun, hended, _, _, rfl, ?_, ⟨_, rfl⟩, hW, hsame.mono (by decide) (by decide)⟩
    · show Steps p.tables e below (s₁.setTop (mkF m 0 #[.val (.ref a)] [])) _
      refine XS.aloadN X0.here hx rfl (hb hby own_d_prog_71_method_7_code_0) rfl rfl ?_
      show Steps p.tables e below (s₁.setTop (mkF m 1 #[.val (.ref a)] [(.ref a)])) _
      refine st4 _ ?_
      show Steps p.tables e below (T4.setTop (mkF m 4 #[.val (.ref a)] [(.ref au), (.ref a)])) _
      refine Jvm.RoadKit.acmp (g := (mkF m 4 #[.val (.ref a)] [(.ref au), (.ref a)])) X4 hx rfl (x := (.ref a)) (y := (.ref au)) rfl rfl (pc0 := 4) (pc' := 7) (same := false) rfl (hb hby own_d_prog_71_method_7_code_4) rfl (own_df h) (by decide) (by decide) ?_
      show Steps p.tables e below (T4.setTop (mkF m 7 #[.val (.ref a)] [])) _
      refine XS.aloadN X4.here hx rfl (hb hby own_d_prog_71_method_7_code_7) rfl rfl ?_
      show Steps p.tables e below (T4.setTop (mkF m 8 #[.val (.ref a)] [(.ref a)])) _
      refine st5 _ ?_
      show Steps p.tables e below (T5.setTop (mkF m 11 #[.val (.ref a)] [(.ref ac), (.ref a)])) _
      refine Jvm.RoadKit.acmp (g := (mkF m 11 #[.val (.ref a)] [(.ref ac), (.ref a)])) X5 hx rfl (x := (.ref a)) (y := (.ref ac)) rfl rfl (pc0 := 11) (pc' := 18) (same := false) rfl (hb hby own_d_prog_71_method_7_code_11) rfl (own_df h2) (by decide) (by decide) ?_
      show Steps p.tables e below (T5.setTop (mkF m 18 #[.val (.ref a)] [])) _
      refine XS.iconst X5.here hx rfl (hb hby own_d_prog_71_method_7_code_18) ?_
      show Steps p.tables e below (T5.setTop (mkF m 19 #[.val (.ref a)] [(.int (0 : Int32))])) _
      exact retN X5 hx (t := .boolean) Bd.returns (by simp) (hb hby own_d_prog_71_method_7_code_19) hr
    · show own_QP (some (.int (if a = au ∨ a = ac then 1 else 0))) h0 n0 _ T5.heap _
      exact ⟨by rw [if_neg (fun q => q.elim h h2)], N0, e5⟩
set_option maxRecDepth 65536 in
set_option maxHeartbeats 40000000 in
theorem own_rmg (l : Launch) (Z : State) (a0 : Array Value) (hw : ∀ d ∈ tables_1, d.before a0 Z = true) (ws : List Jvm.Cond) (a : Addr) (v : Int32) (h0 : Heap) (n0 : Nat) (Z0 : n0 ≤ h0.size) (F1 : Fld Z h0 a "com/example/chiron/chiron/sql/IsolationLevel" "jdbcLevel" "I" (.int v)) :
    MetFree l (⟨"com/example/chiron/chiron/sql/IsolationLevel", "getJdbcLevel", "()I"⟩ : MethodName) (head1 (Jvm.Cond.code (⟨"com/example/chiron/chiron/sql/IsolationLevel", "getJdbcLevel", "()I"⟩ : MethodName) prog_71_method_5_code 1 (some .int) :: ws) ({ frames := 0, cells := 0, slots := 0, locals := 0 } : Room)) (fun a_ U_ => a_ = #[(.ref a)] ∧ Z.Warmed39 U_.vm ∧ U_.heap = h0) (fun _ _ _ _ _ => True) (fun _ U_ o_ U_' => ∃ v_ L_, o_ = .returned v_ ∧ own_QP (some (.int v)) h0 n0 v_ U_'.heap L_ ∧ FrameEnd U_ o_ U_' L_ ({ frames := 0, cells := 0, slots := 0, locals := 0 } : Room).cells ({ frames := 0, cells := 0, slots := 0, locals := 0 } : Room).slots) := by
  refine MetFree.of_bodySF (plainFor_of_name own_pn1) hisR ?_
  intro p e s m args below meth c s₁ Bd hml0 hP hK
  obtain ⟨rfl, hZ, hh⟩ := hP
  have hx := Bd.exec
  have hby := Bd.bytes
  have hml : c.maxLocals = 1 := hml0
  have hown : s.vm.findClass "com/example/chiron/chiron/sql/IsolationLevel" = some m.cls := findClass_of_methodNamed Bd.named
  have hnm := (name_of_methodNamed Bd.named Bd.method).1
  have X0 : Stand p l e ({ frames := 0, cells := 0, slots := 0, locals := 0 } : Room) s m #[(.ref a)] below meth c s₁ [] 0 0 := Stand.of_body Bd
  have e0 : s₁.heap = h0 := by rw [← hh, Bd.state]; rfl
  have N0 := Fr.nil n0
  have pre0 : ∀ t, Steps p.tables e below (s₁.setTop (mkF m 0 #[.val (.ref a)] [])) t → Steps p.tables e below (s₁.setTop (entryFrame m #[(.ref a)] 1)) t := fun t_ k_ => castTop (own_ef2 m a) k_
  obtain ⟨T1, X1, e1, st1⟩ := getF X0 hx hZ hown (host := "") (Or.inl (hw _ (List.mem_of_getElem? (i := 18) rfl))) Via.refl e0 F1 (g := (mkF m 1 #[.val (.ref a)] [(.ref a)])) rfl rfl (hb hby own_d_prog_71_method_5_code_1)
  obtain ⟨fs, hr, hrun, hended, hW, hsame⟩ := X1.leave (v := some (.int v)) (fun h => by rw [Bd.returns] at h; cases h)
  refine ⟨_, _, pre0 _ ?_, hrun, hended, _, _, rfl, ?_, ⟨_, rfl⟩, hW, hsame.mono (by decide) (by decide)⟩
  · show Steps p.tables e below (s₁.setTop (mkF m 0 #[.val (.ref a)] [])) _
    refine XS.aloadN X0.here hx rfl (hb hby own_d_prog_71_method_5_code_0) rfl rfl ?_
    show Steps p.tables e below (s₁.setTop (mkF m 1 #[.val (.ref a)] [(.ref a)])) _
    refine st1 _ ?_
    show Steps p.tables e below (T1.setTop (mkF m 4 #[.val (.ref a)] [(.int v)])) _
    exact retI X1 hx Bd.returns (hb hby own_d_prog_71_method_5_code_4) hr
  · show own_QP (some (.int v)) h0 n0 _ T1.heap _
    exact ⟨rfl, N0, e1⟩
set_option maxRecDepth 65536 in
set_option maxHeartbeats 40000000 in
theorem own_rm0 (l : Launch) (Z : State) (a0 : Array Value) (hw : ∀ d ∈ tables_1, d.before a0 Z = true) (ws : List Jvm.Cond) (k : Int32) (au ac ar az : Addr) (h0 : Heap) (n0 : Nat) (Z0 : n0 ≤ h0.size) (S_READ_UNCOMMITTED : Sta Z h0 "com/example/chiron/chiron/sql/IsolationLevel" "READ_UNCOMMITTED" "Lcom/example/chiron/chiron/sql/IsolationLevel;" (.ref au)) (E_READ_UNCOMMITTED : Exa Z h0 au "com/example/chiron/chiron/sql/IsolationLevel") (F_READ_UNCOMMITTED : Fld Z h0 au "com/example/chiron/chiron/sql/IsolationLevel" "jdbcLevel" "I" (.int 1)) (S_READ_COMMITTED : Sta Z h0 "com/example/chiron/chiron/sql/IsolationLevel" "READ_COMMITTED" "Lcom/example/chiron/chiron/sql/IsolationLevel;" (.ref ac)) (E_READ_COMMITTED : Exa Z h0 ac "com/example/chiron/chiron/sql/IsolationLevel") (F_READ_COMMITTED : Fld Z h0 ac "com/example/chiron/chiron/sql/IsolationLevel" "jdbcLevel" "I" (.int 2)) (S_REPEATABLE_READ : Sta Z h0 "com/example/chiron/chiron/sql/IsolationLevel" "REPEATABLE_READ" "Lcom/example/chiron/chiron/sql/IsolationLevel;" (.ref ar)) (E_REPEATABLE_READ : Exa Z h0 ar "com/example/chiron/chiron/sql/IsolationLevel") (F_REPEATABLE_READ : Fld Z h0 ar "com/example/chiron/chiron/sql/IsolationLevel" "jdbcLevel" "I" (.int 4)) (S_SERIALIZABLE : Sta Z h0 "com/example/chiron/chiron/sql/IsolationLevel" "SERIALIZABLE" "Lcom/example/chiron/chiron/sql/IsolationLevel;" (.ref az)) (E_SERIALIZABLE : Exa Z h0 az "com/example/chiron/chiron/sql/IsolationLevel") (F_SERIALIZABLE : Fld Z h0 az "com/example/chiron/chiron/sql/IsolationLevel" "jdbcLevel" "I" (.int 8)) (n1 : ¬ ar = au) (n2 : ¬ ar = ac) (n3 : ¬ az = au) (n4 : ¬ az = ac) :
    MetFree l x (head1 (Jvm.Cond.code x code maxLocals ret :: ws) room_1) (fun a_ U_ => a_ = #[(.int k)] ∧ Z.Warmed39 U_.vm ∧ U_.heap = h0) (fun _ _ _ _ _ => True) (fun _ U_ o_ U_' => ∃ v_ L_, o_ = .returned v_ ∧ own_QL n0 v_ U_'.heap L_ ∧ FrameEnd U_ o_ U_' L_ room_1.cells room_1.slots) := by
  refine MetFree.of_bodySF (plainFor_of_name own_pn0) hisR ?_
  intro p e s m args below meth c s₁ Bd hml0 hP hK
  obtain ⟨rfl, hZ, hh⟩ := hP
  have hx := Bd.exec
  have hby := Bd.bytes
  have hml : c.maxLocals = 6 := hml0
  have hown : s.vm.findClass "com/example/chiron/chiron/sql/IsolationLevelReadsEachStatementAnewPinLaw" = some m.cls := findClass_of_methodNamed Bd.named
  have hnm := (name_of_methodNamed Bd.named Bd.method).1
  have X0 : Stand p l e room_1 s m #[(.int k)] below meth c s₁ [] 0 0 := Stand.of_body Bd
  have e0 : s₁.heap = h0 := by rw [← hh, Bd.state]; rfl
  have N0 := Fr.nil n0
  have pre0 : ∀ t, Steps p.tables e below (s₁.setTop (mkF m 0 #[.val (.int k), .unset, .unset, .unset, .unset, .unset] [])) t → Steps p.tables e below (s₁.setTop (entryFrame m #[(.int k)] maxLocals)) t := fun t_ k_ => castTop (own_ef3 m k) k_
  obtain ⟨i, T1, Lx1, X1, N1, e1, hi, st1⟩ : ∃ (i : Int32) (T' : State) (Lx : List Loc), Stand p l e room_1 s m #[(.int k)] below meth c T' Lx 0 0 ∧ Fr n0 Lx ∧ T'.heap = h0 ∧ (i = 0 ∨ i = 1 ∨ i = 2 ∨ i = 3) ∧ ∀ t, Steps p.tables e below (T'.setTop (mkF m 4 #[.val (.int k), .val (.int i), .unset, .unset, .unset, .unset] [])) t → Steps p.tables e below (s₁.setTop (mkF m 0 #[.val (.int k), .unset, .unset, .unset, .unset, .unset] [])) t := by
    refine ⟨(k &&& (3 : Int32)), s₁, _, X0, N0, e0, own_m3 k, fun t kt => ?_⟩
    show Steps p.tables e below (s₁.setTop (mkF m 0 #[.val (.int k), .unset, .unset, .unset, .unset, .unset] [])) t
    refine XS.iloadN X0.here hx rfl (hb hby at_0) rfl ?_
    show Steps p.tables e below (s₁.setTop (mkF m 1 #[.val (.int k), .unset, .unset, .unset, .unset, .unset] [(.int k)])) t
    refine XS.iconst X0.here hx rfl (hb hby at_1) ?_
    show Steps p.tables e below (s₁.setTop (mkF m 2 #[.val (.int k), .unset, .unset, .unset, .unset, .unset] [(.int (3 : Int32)), (.int k)])) t
    refine XS.iand X0.here hx rfl (hb hby at_2) rfl ?_
    show Steps p.tables e below (s₁.setTop (mkF m 3 #[.val (.int k), .unset, .unset, .unset, .unset, .unset] [(.int (k &&& (3 : Int32)))])) t
    refine XS.istoreN X0.here hx rfl (hb hby at_3) rfl (l' := #[.val (.int k), .val (.int (k &&& (3 : Int32))), .unset, .unset, .unset, .unset]) rfl ?_
    exact kt
  obtain ⟨a, v, ans, ha, Ea, Fa, hv, hbb⟩ : ∃ (a : Addr) (v ans : Int32), own_pick i a au ac ar az ∧ Exa Z h0 a "com/example/chiron/chiron/sql/IsolationLevel" ∧ Fld Z h0 a "com/example/chiron/chiron/sql/IsolationLevel" "jdbcLevel" "I" (.int v) ∧ (if a = au ∨ a = ac then 1 else 0) = ans ∧ ((ans = 1 ∧ ¬ (1 : Int32) < i ∧ ¬ (2 : Int32) < v) ∨ (ans = 0 ∧ (1 : Int32) < i ∧ (2 : Int32) < v)) := by
    rcases hi with h | h | h | h
    · exact ⟨au, 1, 1, Or.inl ⟨h, rfl⟩, E_READ_UNCOMMITTED, F_READ_UNCOMMITTED, if_pos (Or.inl rfl), by rw [h]; decide⟩
    · exact ⟨ac, 2, 1, Or.inr (Or.inl ⟨h, rfl⟩), E_READ_COMMITTED, F_READ_COMMITTED, if_pos (Or.inr rfl), by rw [h]; decide⟩
    · exact ⟨ar, 4, 0, Or.inr (Or.inr (Or.inl ⟨h, rfl⟩)), E_REPEATABLE_READ, F_REPEATABLE_READ, if_neg (fun q => q.elim n1 n2), by rw [h]; decide⟩
    · exact ⟨az, 8, 0, Or.inr (Or.inr (Or.inr ⟨h, rfl⟩)), E_SERIALIZABLE, F_SERIALIZABLE, if_neg (fun q => q.elim n3 n4), by rw [h]; decide⟩
  obtain ⟨_, _, ⟨T2, L2, kc2, nc2⟩, -, X2, ⟨Lc2, hQ2, ql2, qy2, qz2⟩, st2⟩ := Jvm.LawKit.callS X1 hx (y := (⟨"com/example/chiron/chiron/sql/IsolationLevelReadsEachStatementAnewPinLaw", "pick", "(I)Lcom/example/chiron/chiron/sql/IsolationLevel;"⟩ : MethodName)) hown (mvT hZ (hw _ (List.mem_of_getElem? (i := 0) rfl))) (mvT hZ (hw _ (List.mem_of_getElem? (i := 1) rfl))) (mvT hZ (hw _ (List.mem_of_getElem? (i := 2) rfl))) (mvT hZ (hw _ (List.mem_of_getElem? (i := 3) rfl))) (by decide) (backOf (W := 0) (own_rmp l Z a0 hw [] i a au ac ar az h0 n0 Z0 S_READ_UNCOMMITTED S_READ_COMMITTED S_REPEATABLE_READ S_SERIALIZABLE ha) hZ (hw _ (List.mem_of_getElem? (i := 3) rfl)) (hw _ (List.mem_of_getElem? (i := 2) rfl)) (by decide) (by decide)) (g := (mkF m 5 #[.val (.int k), .val (.int i), .unset, .unset, .unset, .unset] [(.int i)])) rfl (by rw [hml]; rfl) (argsL := [(.int i)]) (rest := []) (lenOf own_pd0 rfl) rfl (by show 2 * 0 + _ ≤ _; exact Nat.le_of_eq rfl) (hb hby at_5) (fun _ _ => ⟨rfl, e1, (by decide : 0 + 0 ≤ _), (by decide : 0 + 0 ≤ _)⟩)
  dsimp only [Pt.U, Pt.locs, Pt.cells, Pt.slots] at X2 ql2 qy2 qz2 st2 hQ2
  subst ql2 qy2 qz2
  obtain ⟨rfl, Nq2, eq2⟩ := hQ2
  have N2 := Fr.app N1 Nq2
  obtain ⟨cq3, kq3, q3a, q3b, q3c⟩ := isOf hZ eq2 Ea
  obtain ⟨_, _, ⟨T3, L3, kc3, nc3⟩, -, X3, ⟨Lc3, hQ3, ql3, qy3, qz3⟩, st3⟩ := X2.virtualBack hx (y := (⟨"com/example/chiron/chiron/sql/IsolationLevel", "readsEachStatementAnew", "()Z"⟩ : MethodName)) (z := (⟨"com/example/chiron/chiron/sql/IsolationLevel", "readsEachStatementAnew", "()Z"⟩ : MethodName)) hown (mvT hZ (hw _ (List.mem_of_getElem? (i := 7) rfl))) (mvT hZ (hw _ (List.mem_of_getElem? (i := 8) rfl))) (notFace_of_selects (args := #[]) (mvT hZ (hw _ (List.mem_of_getElem? (i := 10) rfl)))) (mvT hZ (hw _ (List.mem_of_getElem? (i := 10) rfl))) (mvT hZ (hw _ (List.mem_of_getElem? (i := 9) rfl))) (by decide) (backOf (W := 0) (own_rmn l Z a0 hw [] a au ac h0 n0 Z0 S_READ_UNCOMMITTED S_READ_COMMITTED) hZ (hw _ (List.mem_of_getElem? (i := 11) rfl)) (hw _ (List.mem_of_getElem? (i := 5) rfl)) (by decide) (by decide)) q3a q3c (g := (mkF m 10 #[.val (.int k), .val (.int i), .val (.ref a), .unset, .unset, .unset] [(.ref a)])) rfl (by rw [hml]; rfl) (Steps.refl _) (argsL := []) (rest := []) (lenOf own_pd1 rfl) rfl (by show 2 * 0 + _ ≤ _; exact Nat.le_of_eq rfl) (hb hby at_10) (fun _ _ => ⟨rfl, eq2, (by decide : 0 + 0 ≤ _), (by decide : 0 + 0 ≤ _)⟩)
  dsimp only [Pt.U, Pt.locs, Pt.cells, Pt.slots] at X3 ql3 qy3 qz3 st3 hQ3
  subst ql3 qy3 qz3
  obtain ⟨rfl, Nq3, eq3⟩ := hQ3
  have N3 := Fr.app N2 Nq3
  obtain ⟨w4, T4, Lx4, X4, N4, e4, hw4, st4⟩ : ∃ (w4 : Int32) (T' : State) (Lx : List Loc), Stand p l e room_1 s m #[(.int k)] below meth c T' Lx 0 0 ∧ Fr n0 Lx ∧ T'.heap = h0 ∧ (if a = au ∨ a = ac then 1 else 0) = w4 ∧ ∀ t, Steps p.tables e below (T'.setTop (mkF m 26 #[.val (.int k), .val (.int i), .val (.ref a), .val (.int (if a = au ∨ a = ac then 1 else 0)), .val (.int w4), .unset] [])) t → Steps p.tables e below (T3.setTop (mkF m 14 #[.val (.int k), .val (.int i), .val (.ref a), .val (.int (if a = au ∨ a = ac then 1 else 0)), .unset, .unset] [])) t := by
    rcases hbb with ⟨h1, h2, h3⟩ | ⟨h1, h2, h3⟩
    · refine ⟨1, T3, _, X3, N3, eq3, hv.trans h1, fun t kt => ?_⟩
      show Steps p.tables e below (T3.setTop (mkF m 14 #[.val (.int k), .val (.int i), .val (.ref a), .val (.int (if a = au ∨ a = ac then 1 else 0)), .unset, .unset] [])) t
      refine XS.iloadN X3.here hx rfl (hb hby at_14) rfl ?_
      show Steps p.tables e below (T3.setTop (mkF m 15 #[.val (.int k), .val (.int i), .val (.ref a), .val (.int (if a = au ∨ a = ac then 1 else 0)), .unset, .unset] [(.int i)])) t
      refine XS.iconst X3.here hx rfl (hb hby at_15) ?_
      show Steps p.tables e below (T3.setTop (mkF m 16 #[.val (.int k), .val (.int i), .val (.ref a), .val (.int (if a = au ∨ a = ac then 1 else 0)), .unset, .unset] [(.int (1 : Int32)), (.int i)])) t
      refine XS.icmpNo X3.here hx rfl (hb hby at_16) rfl (flt (h2 : ¬ ((1 : Int32) < i))).2.2.1 ?_
      show Steps p.tables e below (T3.setTop (mkF m 19 #[.val (.int k), .val (.int i), .val (.ref a), .val (.int (if a = au ∨ a = ac then 1 else 0)), .unset, .unset] [])) t
      refine XS.iconst X3.here hx rfl (hb hby at_19) ?_
      show Steps p.tables e below (T3.setTop (mkF m 20 #[.val (.int k), .val (.int i), .val (.ref a), .val (.int (if a = au ∨ a = ac then 1 else 0)), .unset, .unset] [(.int (1 : Int32))])) t
      refine XS.goto X3.here hx rfl (pc0 := 20) (pc' := 24) rfl (hb hby at_20) (by decide) (by decide) ?_
      show Steps p.tables e below (T3.setTop (mkF m 24 #[.val (.int k), .val (.int i), .val (.ref a), .val (.int (if a = au ∨ a = ac then 1 else 0)), .unset, .unset] [(.int (1 : Int32))])) t
      refine XS.istore X3.here hx rfl (hb hby at_24) rfl (l' := #[.val (.int k), .val (.int i), .val (.ref a), .val (.int (if a = au ∨ a = ac then 1 else 0)), .val (.int (1 : Int32)), .unset]) rfl ?_
      exact kt
    · refine ⟨0, T3, _, X3, N3, eq3, hv.trans h1, fun t kt => ?_⟩
      show Steps p.tables e below (T3.setTop (mkF m 14 #[.val (.int k), .val (.int i), .val (.ref a), .val (.int (if a = au ∨ a = ac then 1 else 0)), .unset, .unset] [])) t
      refine XS.iloadN X3.here hx rfl (hb hby at_14) rfl ?_
      show Steps p.tables e below (T3.setTop (mkF m 15 #[.val (.int k), .val (.int i), .val (.ref a), .val (.int (if a = au ∨ a = ac then 1 else 0)), .unset, .unset] [(.int i)])) t
      refine XS.iconst X3.here hx rfl (hb hby at_15) ?_
      show Steps p.tables e below (T3.setTop (mkF m 16 #[.val (.int k), .val (.int i), .val (.ref a), .val (.int (if a = au ∨ a = ac then 1 else 0)), .unset, .unset] [(.int (1 : Int32)), (.int i)])) t
      refine XS.icmpYes X3.here hx rfl (pc0 := 16) (pc' := 23) rfl (hb hby at_16) rfl (tlt (h2 : (1 : Int32) < i)).2.2.1 (by decide) (by decide) ?_
      show Steps p.tables e below (T3.setTop (mkF m 23 #[.val (.int k), .val (.int i), .val (.ref a), .val (.int (if a = au ∨ a = ac then 1 else 0)), .unset, .unset] [])) t
      refine XS.iconst X3.here hx rfl (hb hby at_23) ?_
      show Steps p.tables e below (T3.setTop (mkF m 24 #[.val (.int k), .val (.int i), .val (.ref a), .val (.int (if a = au ∨ a = ac then 1 else 0)), .unset, .unset] [(.int (0 : Int32))])) t
      refine XS.istore X3.here hx rfl (hb hby at_24) rfl (l' := #[.val (.int k), .val (.int i), .val (.ref a), .val (.int (if a = au ∨ a = ac then 1 else 0)), .val (.int (0 : Int32)), .unset]) rfl ?_
      exact kt
  obtain ⟨cq5, kq5, q5a, q5b, q5c⟩ := isOf hZ e4 Ea
  obtain ⟨_, _, ⟨T5, L5, kc5, nc5⟩, -, X5, ⟨Lc5, hQ5, ql5, qy5, qz5⟩, st5⟩ := X4.virtualBack hx (y := (⟨"com/example/chiron/chiron/sql/IsolationLevel", "getJdbcLevel", "()I"⟩ : MethodName)) (z := (⟨"com/example/chiron/chiron/sql/IsolationLevel", "getJdbcLevel", "()I"⟩ : MethodName)) hown (mvT hZ (hw _ (List.mem_of_getElem? (i := 13) rfl))) (mvT hZ (hw _ (List.mem_of_getElem? (i := 14) rfl))) (notFace_of_selects (args := #[]) (mvT hZ (hw _ (List.mem_of_getElem? (i := 16) rfl)))) (mvT hZ (hw _ (List.mem_of_getElem? (i := 16) rfl))) (mvT hZ (hw _ (List.mem_of_getElem? (i := 15) rfl))) (by decide) (backOf (W := 0) (own_rmg l Z a0 hw [] a v h0 n0 Z0 Fa) hZ (hw _ (List.mem_of_getElem? (i := 17) rfl)) (hw _ (List.mem_of_getElem? (i := 5) rfl)) (by decide) (by decide)) q5a q5c (g := (mkF m 27 #[.val (.int k), .val (.int i), .val (.ref a), .val (.int (if a = au ∨ a = ac then 1 else 0)), .val (.int w4), .unset] [(.ref a)])) rfl (by rw [hml]; rfl) (Steps.refl _) (argsL := []) (rest := []) (lenOf own_pd2 rfl) rfl (by show 2 * 0 + _ ≤ _; exact Nat.le_of_eq rfl) (hb hby at_27) (fun _ _ => ⟨rfl, e4, (by decide : 0 + 0 ≤ _), (by decide : 0 + 0 ≤ _)⟩)
  dsimp only [Pt.U, Pt.locs, Pt.cells, Pt.slots] at X5 ql5 qy5 qz5 st5 hQ5
  subst ql5 qy5 qz5
  obtain ⟨rfl, Nq5, eq5⟩ := hQ5
  have N5 := Fr.app N4 Nq5
  obtain ⟨w5, T6, Lx6, X6, N6, e6, hw5, st6⟩ : ∃ (w5 : Int32) (T' : State) (Lx : List Loc), Stand p l e room_1 s m #[(.int k)] below meth c T' Lx 0 0 ∧ Fr n0 Lx ∧ T'.heap = h0 ∧ (if a = au ∨ a = ac then 1 else 0) = w5 ∧ ∀ t, Steps p.tables e below (T'.setTop (mkF m 41 #[.val (.int k), .val (.int i), .val (.ref a), .val (.int (if a = au ∨ a = ac then 1 else 0)), .val (.int w4), .val (.int w5)] [])) t → Steps p.tables e below (T5.setTop (mkF m 30 #[.val (.int k), .val (.int i), .val (.ref a), .val (.int (if a = au ∨ a = ac then 1 else 0)), .val (.int w4), .unset] [(.int v)])) t := by
    rcases hbb with ⟨h1, h2, h3⟩ | ⟨h1, h2, h3⟩
    · refine ⟨1, T5, _, X5, N5, eq5, hv.trans h1, fun t kt => ?_⟩
      show Steps p.tables e below (T5.setTop (mkF m 30 #[.val (.int k), .val (.int i), .val (.ref a), .val (.int (if a = au ∨ a = ac then 1 else 0)), .val (.int w4), .unset] [(.int v)])) t
      refine XS.iconst X5.here hx rfl (hb hby at_30) ?_
      show Steps p.tables e below (T5.setTop (mkF m 31 #[.val (.int k), .val (.int i), .val (.ref a), .val (.int (if a = au ∨ a = ac then 1 else 0)), .val (.int w4), .unset] [(.int (2 : Int32)), (.int v)])) t
      refine XS.icmpNo X5.here hx rfl (hb hby at_31) rfl (flt (h3 : ¬ ((2 : Int32) < v))).2.2.1 ?_
      show Steps p.tables e below (T5.setTop (mkF m 34 #[.val (.int k), .val (.int i), .val (.ref a), .val (.int (if a = au ∨ a = ac then 1 else 0)), .val (.int w4), .unset] [])) t
      refine XS.iconst X5.here hx rfl (hb hby at_34) ?_
      show Steps p.tables e below (T5.setTop (mkF m 35 #[.val (.int k), .val (.int i), .val (.ref a), .val (.int (if a = au ∨ a = ac then 1 else 0)), .val (.int w4), .unset] [(.int (1 : Int32))])) t
      refine XS.goto X5.here hx rfl (pc0 := 35) (pc' := 39) rfl (hb hby at_35) (by decide) (by decide) ?_
      show Steps p.tables e below (T5.setTop (mkF m 39 #[.val (.int k), .val (.int i), .val (.ref a), .val (.int (if a = au ∨ a = ac then 1 else 0)), .val (.int w4), .unset] [(.int (1 : Int32))])) t
      refine XS.istore X5.here hx rfl (hb hby at_39) rfl (l' := #[.val (.int k), .val (.int i), .val (.ref a), .val (.int (if a = au ∨ a = ac then 1 else 0)), .val (.int w4), .val (.int (1 : Int32))]) rfl ?_
      exact kt
    · refine ⟨0, T5, _, X5, N5, eq5, hv.trans h1, fun t kt => ?_⟩
      show Steps p.tables e below (T5.setTop (mkF m 30 #[.val (.int k), .val (.int i), .val (.ref a), .val (.int (if a = au ∨ a = ac then 1 else 0)), .val (.int w4), .unset] [(.int v)])) t
      refine XS.iconst X5.here hx rfl (hb hby at_30) ?_
      show Steps p.tables e below (T5.setTop (mkF m 31 #[.val (.int k), .val (.int i), .val (.ref a), .val (.int (if a = au ∨ a = ac then 1 else 0)), .val (.int w4), .unset] [(.int (2 : Int32)), (.int v)])) t
      refine XS.icmpYes X5.here hx rfl (pc0 := 31) (pc' := 38) rfl (hb hby at_31) rfl (tlt (h3 : (2 : Int32) < v)).2.2.1 (by decide) (by decide) ?_
      show Steps p.tables e below (T5.setTop (mkF m 38 #[.val (.int k), .val (.int i), .val (.ref a), .val (.int (if a = au ∨ a = ac then 1 else 0)), .val (.int w4), .unset] [])) t
      refine XS.iconst X5.here hx rfl (hb hby at_38) ?_
      show Steps p.tables e below (T5.setTop (mkF m 39 #[.val (.int k), .val (.int i), .val (.ref a), .val (.int (if a = au ∨ a = ac then 1 else 0)), .val (.int w4), .unset] [(.int (0 : Int32))])) t
      refine XS.istore X5.here hx rfl (hb hby at_39) rfl (l' := #[.val (.int k), .val (.int i), .val (.ref a), .val (.int (if a = au ∨ a = ac then 1 else 0)), .val (.int w4), .val (.int (0 : Int32))]) rfl ?_
      exact kt
  obtain ⟨fs, hr, hrun, hended, hW, hsame⟩ := X6.leave (v := some (.int (1 : Int32))) (fun h => by rw [Bd.returns] at h; cases h)
  refine ⟨_, _, pre0 _ ?_, hrun, hended, _, _, rfl, ?_, ⟨_, rfl⟩, hW, hsame.mono (by decide) (by decide)⟩
  · show Steps p.tables e below (s₁.setTop (mkF m 0 #[.val (.int k), .unset, .unset, .unset, .unset, .unset] [])) _
    refine st1 _ ?_
    show Steps p.tables e below (T1.setTop (mkF m 4 #[.val (.int k), .val (.int i), .unset, .unset, .unset, .unset] [])) _
    refine XS.iloadN X1.here hx rfl (hb hby at_4) rfl ?_
    show Steps p.tables e below (T1.setTop (mkF m 5 #[.val (.int k), .val (.int i), .unset, .unset, .unset, .unset] [(.int i)])) _
    refine st2 _ ?_
    show Steps p.tables e below (T2.setTop (mkF m 8 #[.val (.int k), .val (.int i), .unset, .unset, .unset, .unset] [(.ref a)])) _
    refine XS.astoreN X2.here hx rfl (hb hby at_8) rfl rfl (l' := #[.val (.int k), .val (.int i), .val (.ref a), .unset, .unset, .unset]) rfl ?_
    show Steps p.tables e below (T2.setTop (mkF m 9 #[.val (.int k), .val (.int i), .val (.ref a), .unset, .unset, .unset] [])) _
    refine XS.aloadN X2.here hx rfl (hb hby at_9) rfl rfl ?_
    show Steps p.tables e below (T2.setTop (mkF m 10 #[.val (.int k), .val (.int i), .val (.ref a), .unset, .unset, .unset] [(.ref a)])) _
    refine st3.trans ?_
    show Steps p.tables e below (T3.setTop (mkF m 13 #[.val (.int k), .val (.int i), .val (.ref a), .unset, .unset, .unset] [(.int (if a = au ∨ a = ac then 1 else 0))])) _
    refine XS.istoreN X3.here hx rfl (hb hby at_13) rfl (l' := #[.val (.int k), .val (.int i), .val (.ref a), .val (.int (if a = au ∨ a = ac then 1 else 0)), .unset, .unset]) rfl ?_
    show Steps p.tables e below (T3.setTop (mkF m 14 #[.val (.int k), .val (.int i), .val (.ref a), .val (.int (if a = au ∨ a = ac then 1 else 0)), .unset, .unset] [])) _
    refine st4 _ ?_
    show Steps p.tables e below (T4.setTop (mkF m 26 #[.val (.int k), .val (.int i), .val (.ref a), .val (.int (if a = au ∨ a = ac then 1 else 0)), .val (.int w4), .unset] [])) _
    refine XS.aloadN X4.here hx rfl (hb hby at_26) rfl rfl ?_
    show Steps p.tables e below (T4.setTop (mkF m 27 #[.val (.int k), .val (.int i), .val (.ref a), .val (.int (if a = au ∨ a = ac then 1 else 0)), .val (.int w4), .unset] [(.ref a)])) _
    refine st5.trans ?_
    show Steps p.tables e below (T5.setTop (mkF m 30 #[.val (.int k), .val (.int i), .val (.ref a), .val (.int (if a = au ∨ a = ac then 1 else 0)), .val (.int w4), .unset] [(.int v)])) _
    refine st6 _ ?_
    show Steps p.tables e below (T6.setTop (mkF m 41 #[.val (.int k), .val (.int i), .val (.ref a), .val (.int (if a = au ∨ a = ac then 1 else 0)), .val (.int w4), .val (.int w5)] [])) _
    refine XS.iloadN X6.here hx rfl (hb hby at_41) rfl ?_
    show Steps p.tables e below (T6.setTop (mkF m 42 #[.val (.int k), .val (.int i), .val (.ref a), .val (.int (if a = au ∨ a = ac then 1 else 0)), .val (.int w4), .val (.int w5)] [(.int (if a = au ∨ a = ac then 1 else 0))])) _
    refine XS.iload X6.here hx rfl (hb hby at_42) rfl ?_
    show Steps p.tables e below (T6.setTop (mkF m 44 #[.val (.int k), .val (.int i), .val (.ref a), .val (.int (if a = au ∨ a = ac then 1 else 0)), .val (.int w4), .val (.int w5)] [(.int w4), (.int (if a = au ∨ a = ac then 1 else 0))])) _
    refine XS.icmpNo X6.here hx rfl (hb hby at_44) rfl (teq (hw4 : (if a = au ∨ a = ac then 1 else 0) = w4)).2 ?_
    show Steps p.tables e below (T6.setTop (mkF m 47 #[.val (.int k), .val (.int i), .val (.ref a), .val (.int (if a = au ∨ a = ac then 1 else 0)), .val (.int w4), .val (.int w5)] [])) _
    refine XS.iloadN X6.here hx rfl (hb hby at_47) rfl ?_
    show Steps p.tables e below (T6.setTop (mkF m 48 #[.val (.int k), .val (.int i), .val (.ref a), .val (.int (if a = au ∨ a = ac then 1 else 0)), .val (.int w4), .val (.int w5)] [(.int (if a = au ∨ a = ac then 1 else 0))])) _
    refine XS.iload X6.here hx rfl (hb hby at_48) rfl ?_
    show Steps p.tables e below (T6.setTop (mkF m 50 #[.val (.int k), .val (.int i), .val (.ref a), .val (.int (if a = au ∨ a = ac then 1 else 0)), .val (.int w4), .val (.int w5)] [(.int w5), (.int (if a = au ∨ a = ac then 1 else 0))])) _
    refine XS.icmpNo X6.here hx rfl (hb hby at_50) rfl (teq (hw5 : (if a = au ∨ a = ac then 1 else 0) = w5)).2 ?_
    show Steps p.tables e below (T6.setTop (mkF m 53 #[.val (.int k), .val (.int i), .val (.ref a), .val (.int (if a = au ∨ a = ac then 1 else 0)), .val (.int w4), .val (.int w5)] [])) _
    refine XS.iconst X6.here hx rfl (hb hby at_53) ?_
    show Steps p.tables e below (T6.setTop (mkF m 54 #[.val (.int k), .val (.int i), .val (.ref a), .val (.int (if a = au ∨ a = ac then 1 else 0)), .val (.int w4), .val (.int w5)] [(.int (1 : Int32))])) _
    refine XS.goto X6.here hx rfl (pc0 := 54) (pc' := 58) rfl (hb hby at_54) (by decide) (by decide) ?_
    show Steps p.tables e below (T6.setTop (mkF m 58 #[.val (.int k), .val (.int i), .val (.ref a), .val (.int (if a = au ∨ a = ac then 1 else 0)), .val (.int w4), .val (.int w5)] [(.int (1 : Int32))])) _
    exact retN X6 hx (t := .boolean) Bd.returns (by simp) (hb hby at_58) hr
  · show own_QL n0 _ T6.heap _
    exact ⟨rfl, N6⟩
set_option maxRecDepth 65536 in
set_option maxHeartbeats 40000000 in
theorem comes_1 {Post : Tables → Env → Array Value → State → Outcome → State → Prop} (hpost : ∀ tb e args s v u, (limb_1_1.after args s (.returned v) u = true ∧ limb_1_2.after args s (.returned v) u = true ∧ True) → FrameEnd s (.returned v) u (Jvm.fieldLocs frame_1_writes args s ++ Jvm.arrayLocs frame_1_arrays args s ++ Jvm.staticLocs frame_1_statics s) 0 0 → Post tb e args s (.returned v) u) :
    ArmFor flags0 classFile x code maxLocals ret World_1 tables_1 room_1 Calls_1 rest_1 Pre_1 Post := by
  intro l hfl _ _ p e ha hc hk s m args below hf hA hF happ hP
  obtain ⟨hcalls, hrest, hpre⟩ := hP
  obtain ⟨-, -, -, hnamed, -, -, -, hat⟩ := (Spec.applies_iff hf).mp happ
  obtain ⟨hg, hn⟩ := and_e (Cond.before_iff.mp (show (Jvm.Cond.and given_1 narrow_1).before args s = true from hpre))
  obtain ⟨g_n, hg⟩ := and_e hg
  have g_0 := hg
  obtain ⟨w0, rfl⟩ : ∃ w0 : Value, args = #[w0] := by
    have hs : args.size = 1 := by simpa [Cond.value, given_1] using g_n
    obtain ⟨L⟩ := args
    match L, hs with
    | [w0], _ => exact ⟨w0, rfl⟩
  have hw := fun d (hd : d ∈ tables_1) => atoms_spec (ws := Jvm.Cond.code x code maxLocals ret :: tables_1) hat d (List.mem_cons_of_mem _ hd)
  have hfit : Fit s := fun {y c} hc i hi => by
    obtain ⟨ha, rfl⟩ := Array.getElem?_eq_some_iff.mp hc
    have q := List.all_eq_true.mp ((Array.all_eq_true_iff_forall_mem.mp hF) _ (Array.getElem_mem ha)) i (List.mem_range.mpr hi)
    simpa [Array.getElem?_eq_getElem hi] using q
  obtain ⟨i0, ei0⟩ := is_v g_0
  obtain rfl : w0 = (.int i0) := Option.some.inj ei0
  obtain ⟨c0, hn⟩ := and_e hn
  obtain ⟨c1, hn⟩ := and_e hn
  obtain ⟨c2, hn⟩ := and_e hn
  obtain ⟨c3, hn⟩ := and_e hn
  obtain ⟨c4, hn⟩ := and_e hn
  obtain ⟨c5, hn⟩ := and_e hn
  obtain ⟨c6, hn⟩ := and_e hn
  obtain ⟨c7, hn⟩ := and_e hn
  obtain ⟨c8, hn⟩ := and_e hn
  obtain ⟨c9, hn⟩ := and_e hn
  obtain ⟨c10, hn⟩ := and_e hn
  have c11 := hn
  obtain ⟨a_READ_UNCOMMITTED, ev_READ_UNCOMMITTED⟩ := exa_v c0
  have E_READ_UNCOMMITTED := Exa.start ev_READ_UNCOMMITTED c0
  have S_READ_UNCOMMITTED := Sta.start ev_READ_UNCOMMITTED (Or.inr ⟨(hw _ (List.mem_of_getElem? (i := 5) rfl)), (hw _ (List.mem_of_getElem? (i := 6) rfl))⟩)
  obtain ⟨a_SERIALIZABLE, ev_SERIALIZABLE⟩ := exa_v c2
  have E_SERIALIZABLE := Exa.start ev_SERIALIZABLE c2
  have S_SERIALIZABLE := Sta.start ev_SERIALIZABLE (Or.inr ⟨(hw _ (List.mem_of_getElem? (i := 5) rfl)), (hw _ (List.mem_of_getElem? (i := 21) rfl))⟩)
  obtain ⟨a_READ_COMMITTED, ev_READ_COMMITTED⟩ := exa_v c5
  have E_READ_COMMITTED := Exa.start ev_READ_COMMITTED c5
  have S_READ_COMMITTED := Sta.start ev_READ_COMMITTED (Or.inr ⟨(hw _ (List.mem_of_getElem? (i := 5) rfl)), (hw _ (List.mem_of_getElem? (i := 23) rfl))⟩)
  obtain ⟨a_REPEATABLE_READ, ev_REPEATABLE_READ⟩ := exa_v c8
  have E_REPEATABLE_READ := Exa.start ev_REPEATABLE_READ c8
  have S_REPEATABLE_READ := Sta.start ev_REPEATABLE_READ (Or.inr ⟨(hw _ (List.mem_of_getElem? (i := 5) rfl)), (hw _ (List.mem_of_getElem? (i := 25) rfl))⟩)
  have F_READ_UNCOMMITTED_jdbcLevel := Fld.start ((fld_at ev_READ_UNCOMMITTED).symm.trans (own_eqI c1))
  have F_SERIALIZABLE_ordinal := Fld.start ((fld_at ev_SERIALIZABLE).symm.trans (own_eqI c3))
  have F_READ_UNCOMMITTED_ordinal := Fld.start ((fld_at ev_READ_UNCOMMITTED).symm.trans (own_eqI c4))
  have F_READ_COMMITTED_ordinal := Fld.start ((fld_at ev_READ_COMMITTED).symm.trans (own_eqI c6))
  have F_SERIALIZABLE_jdbcLevel := Fld.start ((fld_at ev_SERIALIZABLE).symm.trans (own_eqI c7))
  have F_REPEATABLE_READ_ordinal := Fld.start ((fld_at ev_REPEATABLE_READ).symm.trans (own_eqI c9))
  have F_REPEATABLE_READ_jdbcLevel := Fld.start ((fld_at ev_REPEATABLE_READ).symm.trans (own_eqI c10))
  have F_READ_COMMITTED_jdbcLevel := Fld.start ((fld_at ev_READ_COMMITTED).symm.trans (own_eqI c11))
  obtain ⟨n, o, h1, h2, h3, _, L, rfl, ⟨rfl, N⟩, hq⟩ := own_rm0 l s _ hw tables_1 i0 a_READ_UNCOMMITTED a_READ_COMMITTED a_REPEATABLE_READ a_SERIALIZABLE s.heap s.heap.size (Nat.le_refl _) S_READ_UNCOMMITTED E_READ_UNCOMMITTED F_READ_UNCOMMITTED_jdbcLevel S_READ_COMMITTED E_READ_COMMITTED F_READ_COMMITTED_jdbcLevel S_REPEATABLE_READ E_REPEATABLE_READ F_REPEATABLE_READ_jdbcLevel S_SERIALIZABLE E_SERIALIZABLE F_SERIALIZABLE_jdbcLevel (own_ne F_REPEATABLE_READ_ordinal F_READ_UNCOMMITTED_ordinal (own_nv (by decide))) (own_ne F_REPEATABLE_READ_ordinal F_READ_COMMITTED_ordinal (own_nv (by decide))) (own_ne F_SERIALIZABLE_ordinal F_READ_UNCOMMITTED_ordinal (own_nv (by decide))) (own_ne F_SERIALIZABLE_ordinal F_READ_COMMITTED_ordinal (own_nv (by decide))) p e ha hc hk s m _ below hf ((Spec.applies_iff_loose hf).mp happ).1 ⟨rfl, State.Warmed39.refl s, rfl⟩ trivial
  refine ⟨n, _, h1, h2, h3, hpost _ _ _ _ _ _ ⟨Cond.after_iff.mpr rfl, Cond.after_iff.mpr (eq_i res_at (Term.int_eval (1)) rfl), trivial⟩ ⟨hq.1, hq.2.1, (hq.2.2.sift fun y hy => Or.inr (N y hy)).mono (by decide) (by decide)⟩⟩
theorem main_1_1 : Claimed_1_1 := comes_1 fun _ _ _ _ _ _ h hF => ⟨h.1, hF⟩
theorem main_1_2 : Claimed_1_2 := comes_1 fun _ _ _ _ _ _ h hF => ⟨h.2.1, hF⟩
end Jvm.Pilot.@@N@@
namespace Jvm.Pilot.@@N@@
open Jvm Jvm.ClassFile Sem Op Lib Jvm.Free Jvm.Stand Jvm.Pilot.@@N@@.Jvm.D
/-! MADE BY PROGRAM (witnessworld.py) out of the Statement's table words and the real class files: 12 classes; the members and pool entries that the words name. The judged class is class 1, her method 2. -/
namespace start1
open Jvm.ClassFile
def u (s : String) : CpInfo := .utf8 (stringToUtf16 s)
/-- a pool by its gaps: so many unusable entries, then the entry; so many at the end -/
def gap : Nat → List CpInfo → List CpInfo
  | 0, r => r
  | n + 1, r => .unusable :: gap n r
def poolList (es : List (Nat × CpInfo)) (last : Nat) : List CpInfo := es.foldr (fun e r => gap e.1 (e.2 :: r)) (gap last [])
def pool (es : List (Nat × CpInfo)) (last : Nat) : Array CpInfo := ⟨poolList es last⟩
def fileOf (pool : Array CpInfo) (this : Nat) (attrs : Array Attribute := #[]) (ms : Array MethodInfo := #[]) (fl : Nat := 33) (sup : Nat := 0) (ifs : Array Nat := #[]) (fds : Array FieldInfo := #[]) : ClassFile where
  minorVersion := 0
  majorVersion := 65
  constantPool := pool
  accessFlags := fl
  thisClass := this
  superClass := sup
  interfaces := ifs
  fields := fds
  methods := ms
  attributes := attrs
def plain (name : String) (sup : Option ClassId) : Class where
  name := name
  kind := .ordinary
  loader := none
  accessFlags := 33
  super := sup
  interfaces := #[]
  cf := none
  fields := #[]
  methods := #[]
  instanceTypes := #[]
  staticTypes := #[]
  resolved := #[]
  callSites := []
  init := .initialized
  statics := none
  mirror := none

def pool0 : Array CpInfo := pool [(5, u "<init>"), (0, u "()V"), (1, .class_ 10), (1, u "java/lang/Object")] 113

def k0m0 : Method := { name := "<init>", desc := "()V", sig := { parameters := [], returnType := none }, accessFlags := 1, code := none }
/-- java/lang/Object -/
def k0 : Class := { plain "java/lang/Object" none with
  accessFlags := 33
  interfaces := #[]
  cf := some (fileOf pool0 8 #[] #[{ accessFlags := 1, nameIndex := 5, descriptorIndex := 6, attributes := #[] }] 33 0 #[] #[])
  fields := #[]
  methods := #[k0m0]
  instanceTypes := #[]
  staticTypes := #[]
  resolved := Array.replicate 124 none
  statics := none }

def pool1 : Array CpInfo := pool [(2, .class_ 4), (1, u "java/lang/Object"), (0, u "<init>"), (0, u "()V"), (0, .fieldref 8 9), (0, .class_ 10), (0, .nameAndType 11 12), (0, u "com/example/chiron/chiron/sql/IsolationLevel"), (0, u "READ_UNCOMMITTED"), (0, u "Lcom/example/chiron/chiron/sql/IsolationLevel;"), (0, .fieldref 8 14), (0, .nameAndType 15 12), (0, u "READ_COMMITTED"), (0, .fieldref 8 17), (0, .nameAndType 18 12), (0, u "REPEATABLE_READ"), (0, .fieldref 8 20), (0, .nameAndType 21 12), (0, u "SERIALIZABLE"), (0, .methodref 23 24), (0, .class_ 25), (0, .nameAndType 26 27), (0, u "com/example/chiron/chiron/sql/IsolationLevelReadsEachStatementAnewPinLaw"), (0, u "pick"), (0, u "(I)Lcom/example/chiron/chiron/sql/IsolationLevel;"), (0, .methodref 8 29), (0, .nameAndType 30 31), (0, u "readsEachStatementAnew"), (0, u "()Z"), (0, .methodref 8 33), (0, .nameAndType 34 35), (0, u "getJdbcLevel"), (0, u "()I"), (3, u "law"), (0, u "(I)Z")] 2

def k1m0 : Method := { name := "<init>", desc := "()V", sig := { parameters := [], returnType := none }, accessFlags := 1, code := none }
def k1c1 : Code := { maxStack := 2, maxLocals := 1, code := method_2_code, exceptionTable := #[], attributes := #[] }
def k1m1 : Method := { name := "pick", desc := "(I)Lcom/example/chiron/chiron/sql/IsolationLevel;", sig := { parameters := [.int], returnType := some (.object "com/example/chiron/chiron/sql/IsolationLevel") }, accessFlags := 10, code := some k1c1 }
def k1c2 : Code := { maxStack := 2, maxLocals := 6, code := code, exceptionTable := #[], attributes := #[] }
def k1m2 : Method := { name := "law", desc := "(I)Z", sig := { parameters := [.int], returnType := some .boolean }, accessFlags := 9, code := some k1c2 }
/-- com/example/chiron/chiron/sql/IsolationLevelReadsEachStatementAnewPinLaw -/
def k1 : Class := { plain "com/example/chiron/chiron/sql/IsolationLevelReadsEachStatementAnewPinLaw" (some 0) with
  accessFlags := 49
  interfaces := #[]
  cf := some (fileOf pool1 23 #[] #[{ accessFlags := 1, nameIndex := 5, descriptorIndex := 6, attributes := #[] }, { accessFlags := 10, nameIndex := 26, descriptorIndex := 27, attributes := #[] }, { accessFlags := 9, nameIndex := 39, descriptorIndex := 40, attributes := #[] }] 49 2 #[] #[])
  fields := #[]
  methods := #[k1m0, k1m1, k1m2]
  instanceTypes := #[]
  staticTypes := #[]
  resolved := Array.replicate 43 none
  statics := none }

def pool2 : Array CpInfo := pool [(1, .class_ 2), (0, u "java/lang/constant/Constable"), (0, .class_ 4), (0, u "java/lang/Object")] 6

/-- java/lang/constant/Constable -/
def k2 : Class := { plain "java/lang/constant/Constable" (some 0) with
  accessFlags := 1537
  interfaces := #[]
  cf := some (fileOf pool2 1 #[] #[] 1537 3 #[] #[])
  fields := #[]
  methods := #[]
  instanceTypes := #[]
  staticTypes := #[]
  resolved := Array.replicate 11 none
  statics := none }

def pool3 : Array CpInfo := pool [(1, .class_ 2), (0, u "java/lang/Comparable"), (0, .class_ 4), (0, u "java/lang/Object")] 7

/-- java/lang/Comparable -/
def k3 : Class := { plain "java/lang/Comparable" (some 0) with
  accessFlags := 1537
  interfaces := #[]
  cf := some (fileOf pool3 1 #[] #[] 1537 3 #[] #[])
  fields := #[]
  methods := #[]
  instanceTypes := #[]
  staticTypes := #[]
  resolved := Array.replicate 12 none
  statics := none }

def pool4 : Array CpInfo := pool [(1, .class_ 2), (0, u "java/io/Serializable"), (0, .class_ 4), (0, u "java/lang/Object")] 2

/-- java/io/Serializable -/
def k4 : Class := { plain "java/io/Serializable" (some 0) with
  accessFlags := 1537
  interfaces := #[]
  cf := some (fileOf pool4 1 #[] #[] 1537 3 #[] #[])
  fields := #[]
  methods := #[]
  instanceTypes := #[]
  staticTypes := #[]
  resolved := Array.replicate 7 none
  statics := none }

def pool5 : Array CpInfo := pool [(2, .class_ 4), (1, u "java/lang/Enum"), (0, u "name"), (0, u "Ljava/lang/String;"), (2, u "ordinal"), (0, u "I"), (1, .class_ 14), (1, u "java/lang/Object"), (4, u "hash"), (86, .class_ 108), (1, u "java/lang/Enum$EnumDesc"), (2, .class_ 112), (0, u "java/lang/constant/Constable"), (0, .class_ 114), (0, u "java/lang/Comparable"), (0, .class_ 116), (0, u "java/io/Serializable")] 87

/-- java/lang/Enum -/
def k5 : Class := { plain "java/lang/Enum" (some 0) with
  accessFlags := 1057
  interfaces := #[2, 3, 4]
  cf := some (fileOf pool5 2 #[.nestMembers #[106]] #[] 1057 12 #[111, 113, 115] #[{ accessFlags := 18, nameIndex := 5, descriptorIndex := 6, attributes := #[] }, { accessFlags := 18, nameIndex := 9, descriptorIndex := 10, attributes := #[] }, { accessFlags := 2, nameIndex := 19, descriptorIndex := 10, attributes := #[] }])
  fields := #[{ name := "name", type := (.object "java/lang/String"), accessFlags := 18, slot := 0, constantValue := 0 }, { name := "ordinal", type := .int, accessFlags := 18, slot := 1, constantValue := 0 }, { name := "hash", type := .int, accessFlags := 2, slot := 2, constantValue := 0 }]
  methods := #[]
  instanceTypes := #[(.object "java/lang/String"), .int, .int]
  staticTypes := #[]
  resolved := Array.replicate 204 none
  statics := none }

def pool6 : Array CpInfo := pool [(1, .class_ 2), (0, u "com/example/chiron/chiron/sql/IsolationLevel"), (0, .fieldref 1 4), (0, .nameAndType 5 6), (0, u "READ_UNCOMMITTED"), (0, u "Lcom/example/chiron/chiron/sql/IsolationLevel;"), (0, .fieldref 1 8), (0, .nameAndType 9 6), (0, u "READ_COMMITTED"), (2, u "REPEATABLE_READ"), (2, u "SERIALIZABLE"), (2, u "$VALUES"), (0, u "[Lcom/example/chiron/chiron/sql/IsolationLevel;"), (6, .class_ 28), (1, u "java/lang/Enum"), (6, .fieldref 1 36), (0, .nameAndType 37 38), (0, u "jdbcLevel"), (0, u "I"), (35, u "getJdbcLevel"), (0, u "()I"), (1, u "readsEachStatementAnew"), (0, u "()Z")] 5

def k6c0 : Code := { maxStack := 1, maxLocals := 1, code := prog_71_method_5_code, exceptionTable := #[], attributes := #[] }
def k6m0 : Method := { name := "getJdbcLevel", desc := "()I", sig := { parameters := [], returnType := some .int }, accessFlags := 1, code := some k6c0 }
def k6c1 : Code := { maxStack := 2, maxLocals := 1, code := prog_71_method_7_code, exceptionTable := #[], attributes := #[] }
def k6m1 : Method := { name := "readsEachStatementAnew", desc := "()Z", sig := { parameters := [], returnType := some .boolean }, accessFlags := 1, code := some k6c1 }
/-- com/example/chiron/chiron/sql/IsolationLevel -/
def k6 : Class := { plain "com/example/chiron/chiron/sql/IsolationLevel" (some 5) with
  accessFlags := 16433
  interfaces := #[]
  cf := some (fileOf pool6 1 #[] #[{ accessFlags := 1, nameIndex := 74, descriptorIndex := 75, attributes := #[] }, { accessFlags := 1, nameIndex := 77, descriptorIndex := 78, attributes := #[] }] 16433 26 #[] #[{ accessFlags := 16409, nameIndex := 5, descriptorIndex := 6, attributes := #[] }, { accessFlags := 16409, nameIndex := 9, descriptorIndex := 6, attributes := #[] }, { accessFlags := 16409, nameIndex := 12, descriptorIndex := 6, attributes := #[] }, { accessFlags := 16409, nameIndex := 15, descriptorIndex := 6, attributes := #[] }, { accessFlags := 18, nameIndex := 37, descriptorIndex := 38, attributes := #[] }, { accessFlags := 4122, nameIndex := 18, descriptorIndex := 19, attributes := #[] }])
  fields := #[{ name := "READ_UNCOMMITTED", type := (.object "com/example/chiron/chiron/sql/IsolationLevel"), accessFlags := 16409, slot := 0, constantValue := 0 }, { name := "READ_COMMITTED", type := (.object "com/example/chiron/chiron/sql/IsolationLevel"), accessFlags := 16409, slot := 1, constantValue := 0 }, { name := "REPEATABLE_READ", type := (.object "com/example/chiron/chiron/sql/IsolationLevel"), accessFlags := 16409, slot := 2, constantValue := 0 }, { name := "SERIALIZABLE", type := (.object "com/example/chiron/chiron/sql/IsolationLevel"), accessFlags := 16409, slot := 3, constantValue := 0 }, { name := "jdbcLevel", type := .int, accessFlags := 18, slot := 3, constantValue := 0 }, { name := "$VALUES", type := (.array (.object "com/example/chiron/chiron/sql/IsolationLevel")), accessFlags := 4122, slot := 4, constantValue := 0 }]
  methods := #[k6m0, k6m1]
  instanceTypes := #[(.object "java/lang/String"), .int, .int, .int]
  staticTypes := #[(.object "com/example/chiron/chiron/sql/IsolationLevel"), (.object "com/example/chiron/chiron/sql/IsolationLevel"), (.object "com/example/chiron/chiron/sql/IsolationLevel"), (.object "com/example/chiron/chiron/sql/IsolationLevel"), (.array (.object "com/example/chiron/chiron/sql/IsolationLevel"))]
  resolved := Array.replicate 84 none
  statics := some 0 }

def pool7 : Array CpInfo := pool [(1, u "java/lang/Cloneable"), (0, .class_ 1), (0, u "java/lang/Object"), (0, .class_ 3)] 3

/-- java/lang/Cloneable -/
def k7 : Class := { plain "java/lang/Cloneable" (some 0) with
  accessFlags := 1537
  interfaces := #[]
  cf := some (fileOf pool7 2 #[] #[] 1537 4 #[] #[])
  fields := #[]
  methods := #[]
  instanceTypes := #[]
  staticTypes := #[]
  resolved := Array.replicate 8 none
  statics := none }

/-- the primitive byte -/
def k8 : Class := { plain "byte" none with kind := .primitive 'B', accessFlags := 0x411 }
/-- [B -/
def k9 : Class := { plain "[B" (some 0) with kind := .array 8 .byte, interfaces := #[7, 4], accessFlags := 1041 }

/-- the primitive int -/
def k10 : Class := { plain "int" none with kind := .primitive 'I', accessFlags := 0x411 }
/-- [I -/
def k11 : Class := { plain "[I" (some 0) with kind := .array 10 .int, interfaces := #[7, 4], accessFlags := 1041 }

def heap : Heap := #[{ cls := 6, slots := #[.ref 1, .ref 2, .ref 3, .ref 4, .null], vm := .statics 6 },
  { cls := 6, slots := #[.null, .int 0, .int 0, .int 1], vm := .none },
  { cls := 6, slots := #[.null, .int 1, .int 0, .int 2], vm := .none },
  { cls := 6, slots := #[.null, .int 2, .int 0, .int 4], vm := .none },
  { cls := 6, slots := #[.null, .int 3, .int 0, .int 8], vm := .none }]
def classes : Array Class := #[k0, k1, k2, k3, k4, k5, k6, k7, k8, k9, k10, k11]
def interned : List (Array UInt16 × Addr) := []
def slotsUsed : Nat := 21
def theMethod : MethodId := ⟨1, 2⟩
def args0 : Array Value := #[.int 5]
def aboutOver (below : List Frame) : State where
  vm := { classes := classes, interned := interned.toArray }
  heap := heap
  slotsUsed := slotsUsed
  threads := #[{ frames := .invoking theMethod args0 :: below }]
def below0 : List Frame := [.native { method := ⟨0, 0⟩, args := #[] }]
def about1 : State := aboutOver below0
def p0 : Program := .bare "" "" ""
def e0 : Env := launch0.env 0 0 0
theorem w_frames : about1.frames = Frame.invoking theMethod args0 :: below0 := rfl
set_option maxRecDepth 65536 in
theorem w_args : argsFit about1.vm theMethod args0 = true := by decide +kernel
set_option maxRecDepth 65536 in
theorem w_heap : heapFits about1 = true := by decide +kernel
set_option maxRecDepth 65536 in
theorem w_runnable : about1.curStatus? = some .runnable := by decide +kernel
set_option maxRecDepth 65536 in
theorem w_alone : about1.alone = true := by decide +kernel
set_option maxRecDepth 65536 in
theorem w_named : about1.methodNamed? x = some theMethod := by decide +kernel
set_option maxRecDepth 65536 in
theorem w_hears : about1.hears theMethod below0 = true := by decide +kernel
set_option maxRecDepth 65536 in
theorem w_ripe : about1.ripe theMethod args0 below0 = true := by decide +kernel
theorem w_running : about1.status = .running := rfl
set_option maxRecDepth 65536 in
theorem w_room : about1.hasRoom e0.platform room_1 = true :=
  launch0.hasRoom_least _ room_1 (by decide +kernel) (by decide +kernel) (by decide +kernel) (by decide +kernel) (by decide +kernel) (by decide +kernel)
theorem allAtoms_all (ts : List Jvm.Cond) (a : Array Jvm.Value) (st : Jvm.State) : (allAtoms ts).before a st = ts.all (fun c => c.before a st) := by
  induction ts with
  | nil => rfl
  | cons c t ih =>
    show (Jvm.Cond.and c (allAtoms t)).before a st = _
    rw [Jvm.Cond.before_and, ih, List.all_cons]
def words1 : List Jvm.Cond := Jvm.Cond.code x code maxLocals ret :: tables_1
/-- a 'code' word, met by the world's own term for the bytes: nothing is compared byte by byte -/
theorem code_word {y : MethodName} {bytes : ByteArray} {mx : Nat} {rt : Option FieldType} {a : Array Value} {s : State} {m : MethodId} {meth : Method} {c : Code} (h1 : s.methodNamed? y = some m) (h2 : s.vm.method? m = some meth) (h3 : meth.code = some c) (h4 : c.code = bytes)
    (h5 : (c.maxLocals == mx && c.exceptionTable.isEmpty && decide (c.maxStack ≤ mostOperands) && decide (meth.sig.returnType = rt) && !meth.locks && decide (parseMethodDescriptor y.desc = some meth.sig)) = true) : (Jvm.Cond.code y bytes mx rt).before a s = true := by
  simp only [Bool.and_eq_true, beq_iff_eq, Bool.not_eq_true', decide_eq_true_eq] at h5
  obtain ⟨⟨⟨⟨⟨g1, g2⟩, g3⟩, g4⟩, g5⟩, g6⟩ := h5
  simp [Cond.before, Cond.holds, Cond.value, h1, h2, h3, h4, g1, g2, g3, g4, g5, g6]
def isCode : Jvm.Cond → Bool
  | .code _ _ _ _ => true
  | _ => false
theorem all_split {L : List Jvm.Cond} {P : Jvm.Cond → Bool} (h1 : L.all (fun c => isCode c || P c) = true) (h2 : ∀ c ∈ L.filter isCode, P c = true) : L.all P = true := by
  refine List.all_eq_true.mpr fun c hc => ?_
  have h := List.all_eq_true.mp h1 c hc
  rcases Bool.eq_false_or_eq_true (isCode c) with hi | hi
  · exact h2 c (List.mem_filter.mpr ⟨hc, hi⟩)
  · simpa [hi] using h
set_option maxRecDepth 65536 in
theorem w_c0 : (Jvm.Cond.code x code maxLocals ret).before args0 about1 = true := code_word (m := ⟨1, 2⟩) (meth := k1m2) (c := k1c2) (by decide +kernel) rfl rfl rfl (by decide +kernel)
set_option maxRecDepth 65536 in
theorem w_c1 : (Jvm.Cond.code ({ cls := "com/example/chiron/chiron/sql/IsolationLevelReadsEachStatementAnewPinLaw", name := "pick", desc := "(I)Lcom/example/chiron/chiron/sql/IsolationLevel;" } : Jvm.MethodName) method_2_code (1 : Nat) (Option.some (Jvm.ClassFile.FieldType.object "com/example/chiron/chiron/sql/IsolationLevel"))).before args0 about1 = true := code_word (m := ⟨1, 1⟩) (meth := k1m1) (c := k1c1) (by decide +kernel) rfl rfl rfl (by decide +kernel)
set_option maxRecDepth 65536 in
theorem w_c2 : (Jvm.Cond.code ({ cls := "com/example/chiron/chiron/sql/IsolationLevel", name := "readsEachStatementAnew", desc := "()Z" } : Jvm.MethodName) prog_71_method_7_code (1 : Nat) (Option.some Jvm.ClassFile.FieldType.boolean)).before args0 about1 = true := code_word (m := ⟨6, 1⟩) (meth := k6m1) (c := k6c1) (by decide +kernel) rfl rfl rfl (by decide +kernel)
set_option maxRecDepth 65536 in
theorem w_c3 : (Jvm.Cond.code ({ cls := "com/example/chiron/chiron/sql/IsolationLevel", name := "getJdbcLevel", desc := "()I" } : Jvm.MethodName) prog_71_method_5_code (1 : Nat) (Option.some Jvm.ClassFile.FieldType.int)).before args0 about1 = true := code_word (m := ⟨6, 0⟩) (meth := k6m0) (c := k6c0) (by decide +kernel) rfl rfl rfl (by decide +kernel)
def codes1 : List Jvm.Cond := [Jvm.Cond.code x code maxLocals ret, Jvm.Cond.code ({ cls := "com/example/chiron/chiron/sql/IsolationLevelReadsEachStatementAnewPinLaw", name := "pick", desc := "(I)Lcom/example/chiron/chiron/sql/IsolationLevel;" } : Jvm.MethodName) method_2_code (1 : Nat) (Option.some (Jvm.ClassFile.FieldType.object "com/example/chiron/chiron/sql/IsolationLevel")), Jvm.Cond.code ({ cls := "com/example/chiron/chiron/sql/IsolationLevel", name := "readsEachStatementAnew", desc := "()Z" } : Jvm.MethodName) prog_71_method_7_code (1 : Nat) (Option.some Jvm.ClassFile.FieldType.boolean), Jvm.Cond.code ({ cls := "com/example/chiron/chiron/sql/IsolationLevel", name := "getJdbcLevel", desc := "()I" } : Jvm.MethodName) prog_71_method_5_code (1 : Nat) (Option.some Jvm.ClassFile.FieldType.int)]
set_option maxRecDepth 65536 in
theorem codes_eq : words1.filter isCode = codes1 := rfl
theorem w_codes : ∀ c ∈ words1.filter isCode, c.before args0 about1 = true := by
  rw [codes_eq]
  intro c hc
  simp only [codes1, List.mem_cons, List.not_mem_nil, or_false] at hc
  rcases hc with rfl | rfl | rfl | rfl
  · exact w_c0
  · exact w_c1
  · exact w_c2
  · exact w_c3
set_option maxRecDepth 65536 in
theorem w_t1 : (words1.take 24).all (fun c => isCode c || c.before args0 about1) = true := by decide +kernel
set_option maxRecDepth 65536 in
theorem w_t2 : (words1.drop 24).all (fun c => isCode c || c.before args0 about1) = true := by decide +kernel
theorem w_tables : (allAtoms (Jvm.Cond.code x code maxLocals ret :: tables_1)).before args0 about1 = true := by
  rw [allAtoms_all]
  show words1.all (fun c => c.before args0 about1) = true
  refine all_split ?_ w_codes
  rw [← List.take_append_drop 24 words1, List.all_append, w_t1, w_t2]
  rfl
set_option maxRecDepth 65536 in
theorem w_case : (Jvm.Cond.and given_1 narrow_1).before args0 about1 = true := by decide +kernel
theorem w_applies : (headSpec (Jvm.Cond.code x code maxLocals ret :: tables_1) room_1).applies x e0.platform about1 = true :=
  (Spec.applies_iff w_frames).mpr ⟨w_running, w_runnable, w_alone, w_named, w_hears, w_ripe, w_room, w_tables⟩
theorem atStart : AtStart classFile x code maxLocals ret World_1 tables_1 room_1 Calls_1 rest_1 Pre_1 launch0 p0 e0 about1 theMethod args0 below0 :=
  ⟨lists_1, trivial, launch0.admits_env _ _ _, launch0.least_env, fairChoices_fair.cas, fairChoices_fair.clock, w_frames, w_args, w_heap, w_applies, trivial, trivial, w_case⟩
end start1
theorem witness_1 : WitnessClaimed_1 := ⟨start1.p0, start1.e0, start1.about1, start1.theMethod, start1.args0, start1.below0, start1.atStart⟩
end Jvm.Pilot.@@N@@
