import JvmDerived
import JvmDerived.Pilot.@@N@@Statement
import JvmDerived.Pilot.@@N@@Code
set_option linter.unusedVariables false
set_option linter.unusedSimpArgs false
namespace Jvm.RoadKit
open Sem ClassFile Op Lib Jvm.Stand Jvm.Free Jvm.LawKit
section New
variable {p : Program} {l : Launch} {e : Env} {R : Room} {s : State} {m : MethodId} {args : Array Value} {below : List Frame} {meth : Method} {c : Code} {T : State} {locs : List Loc} {cells slots : Nat}
theorem retI (X : Stand p l e R s m args below meth c T locs cells slots) (hx : p.tables.exec = Jvm.exec) {pc : Nat} {Ls : Array Slot} {z : Int32} {rest : List Value} (hret : meth.sig.returnType = some .int) (hd : decode c.code pc = .ok (.ireturn, 1)) {fs : List Frame}
    (hl : ∀ (f : JFrame) (acts : List Action), f.method = m → f.locked = none → f.entered = [] → (doReturn e (T.setTop f) acts (some (.int z))).1 = T.setFrames fs) : Steps p.tables e below (T.setTop (mkF m pc Ls (.int z :: rest))) (T.setFrames fs) := by
  have hm' : T.vm.method? m = some meth := X.method'
  have hn : narrow .int (.int z) = .int z := rfl
  show Steps p.tables e below (T.setTop { method := m, pc := pc, locals := Ls, stack := _ :: rest, locked := none }) _
  jvm_step X.here [X.here.top, hx, hd, hm', hret, hn]
  first | (intro acts; rw [hl _ acts rfl rfl rfl]) | rw [hl _ _ rfl rfl rfl]
  exact Steps.refl _
end New
end Jvm.RoadKit
namespace Jvm.Pilot.@@N@@
open Jvm Jvm.ClassFile Sem Op Lib Jvm.Free Jvm.Stand Jvm.LawKit Jvm.RoadKit Bundle Jvm.Pilot.@@N@@.Jvm.D
/-- what a callee leaves that writes nothing: it returns r, the heap is as it was -/
def own_QP (r : Option Value) (h0 : Heap) (n0 : Nat) (v : Option Value) (h : Heap) (L : List Loc) : Prop := v = r ∧ Fr n0 L ∧ h = h0
/-- what the law leaves -/
def own_QL (n0 : Nat) (v : Option Value) (h : Heap) (L : List Loc) : Prop := v = some (.int 1) ∧ Fr n0 L
theorem own_eqI {args : Array Value} {first s : State} {o : Option Outcome} {idx : List Nat} {t : Term} {k : Int32} (h : (Jvm.Cond.eq t (.int k)).value args first o s idx = some true) : t.eval args first o idx s = some (.int k) := by
  obtain ⟨x, y, h1, h2, h3, h4⟩ := cmp_v (Or.inl h)
  have e2 : y = .int k := (Option.some.inj (h2.symm.trans (Term.int_eval k)))
  subst e2
  obtain ⟨z, rfl⟩ : ∃ z, x = .int z := h4
  rw [h1]
  have q : (Jvm.Cond.eq t (.int k)).value args first o s idx = some (decide (z = k)) := Cond.eq_ints h1 h2
  rw [gotT q h]
theorem own_ne {Z : State} {h : Heap} {a b : Addr} {C n d : String} {v w : Value} (F : Fld Z h a C n d v) (G : Fld Z h b C n d w) (hv : v ≠ w) : ¬ a = b := fun e => by
  subst e
  obtain ⟨cell, cf, k, i, f, h1, h2, -, -, -, -, h7⟩ := F
  obtain ⟨cell', cf', k', i', f', g1, g2, -, -, -, -, g7⟩ := G
  cases h1.symm.trans g1
  cases h2.symm.trans g2
  cases h7.symm.trans g7
  exact hv rfl
theorem own_sm {a b : Addr} (h : a = b) : decide ((.ref a : Value) = .ref b) = true := decide_eq_true (congrArg Value.ref h)
theorem own_df {a b : Addr} (h : ¬ a = b) : decide ((.ref a : Value) = .ref b) = false := decide_eq_false fun q => h (Value.ref.inj q)
theorem own_nv {x y : Int32} (h : x ≠ y) : (Value.int x) ≠ .int y := fun q => h (Value.int.inj q)
theorem own_c2 (P Q : Prop) [Decidable P] [Decidable Q] : P ∨ (¬ P ∧ Q) ∨ (¬ P ∧ ¬ Q) := by
  by_cases p : P
  · exact Or.inl p
  · by_cases q : Q
    · exact Or.inr (Or.inl ⟨p, q⟩)
    · exact Or.inr (Or.inr ⟨p, q⟩)
theorem own_rem3 (x : Int32) : ((x &&& (2147483647 : Int32)) % (3 : Int32)) = 0 ∨ ((x &&& (2147483647 : Int32)) % (3 : Int32)) = 1 ∨ ((x &&& (2147483647 : Int32)) % (3 : Int32)) = 2 := by
  have h := c_and x 2147483647 (by decide)
  have q := (c_irem (x &&& 2147483647) 3 3 (by decide)).1 h.1
  have e0 : (0 : Int32).toInt = 0 := by decide
  have e1 : (1 : Int32).toInt = 1 := by decide
  have e2 : (2 : Int32).toInt = 2 := by decide
  rw [← Int32.toInt_inj, ← Int32.toInt_inj, ← Int32.toInt_inj, q, e0, e1, e2]
  omega
/-- which constant pick hands out -/
def own_pick (k : Int32) (r ai ad ab : Addr) : Prop := (k = 0 ∧ r = ai) ∨ (k = 1 ∧ r = ad) ∨ (k = 2 ∧ r = ab)
/-- what x.accepts(y) returns -/
def own_acc (ai ad x y : Addr) : Int32 := if y = x ∨ (x = ad ∧ y = ai) then 1 else 0
theorem own_acc1 {ai ad x y : Addr} (h : y = x) : own_acc ai ad x y = 1 := if_pos (Or.inl h)
theorem own_acc2 {ai ad x y : Addr} (h : x = ad) (h' : y = ai) : own_acc ai ad x y = 1 := if_pos (Or.inr ⟨h, h'⟩)
theorem own_acc3 {ai ad x y : Addr} (h : ¬ y = x) (h' : ¬ (x = ad ∧ y = ai)) : own_acc ai ad x y = 0 := if_neg (fun q => q.elim h h')
theorem own_c3 (P Q R : Prop) [Decidable P] [Decidable Q] [Decidable R] : P ∨ (¬ P ∧ Q ∧ R) ∨ (¬ P ∧ Q ∧ ¬ R) ∨ (¬ P ∧ ¬ Q) := by
  by_cases p : P
  · exact Or.inl p
  · by_cases q : Q
    · by_cases r : R
      · exact Or.inr (Or.inl ⟨p, q, r⟩)
      · exact Or.inr (Or.inr (Or.inl ⟨p, q, r⟩))
    · exact Or.inr (Or.inr (Or.inr ⟨p, q⟩))
theorem own_ef0 (m : MethodId) (x0 : Int32) : entryFrame m #[(.int x0)] 1 = mkF m 0 #[.val (.int x0)] [] := by first | (simp [entryFrame, mkF, argsToLocals, Value.category]; done) | rfl
theorem own_pn0 : plainName "com/example/nuthatch/nuthatch/expressions/TypeIsNumericPinLaw" = true := by first | (simp [plainName, overriddenIn]; done) | decide +kernel
theorem own_d_method_2_code_0 : decode method_2_code 0 = .ok (.iload_n 0, 1) := by decide +kernel
theorem own_d_method_2_code_1 : decode method_2_code 1 = .ok (.ifCond .ne 7, 3) := by decide +kernel
theorem own_d_method_2_code_4 : decode method_2_code 4 = .ok (.getstatic 7, 3) := by decide +kernel
theorem own_d_method_2_code_7 : decode method_2_code 7 = .ok (.areturn, 1) := by decide +kernel
theorem own_d_method_2_code_8 : decode method_2_code 8 = .ok (.iload_n 0, 1) := by decide +kernel
theorem own_d_method_2_code_9 : decode method_2_code 9 = .ok (.iconst 1, 1) := by decide +kernel
theorem own_d_method_2_code_10 : decode method_2_code 10 = .ok (.if_icmp .ne 7, 3) := by decide +kernel
theorem own_d_method_2_code_13 : decode method_2_code 13 = .ok (.getstatic 13, 3) := by decide +kernel
theorem own_d_method_2_code_16 : decode method_2_code 16 = .ok (.areturn, 1) := by decide +kernel
theorem own_d_method_2_code_17 : decode method_2_code 17 = .ok (.getstatic 16, 3) := by decide +kernel
theorem own_d_method_2_code_20 : decode method_2_code 20 = .ok (.areturn, 1) := by decide +kernel
theorem own_ef1 (m : MethodId) (x0 : Addr) (x1 : Addr) : entryFrame m #[(.ref x0), (.ref x1)] 2 = mkF m 0 #[.val (.ref x0), .val (.ref x1)] [] := by first | (simp [entryFrame, mkF, argsToLocals, Value.category]; done) | rfl
theorem own_pn1 : plainName "com/example/nuthatch/nuthatch/expressions/Type" = true := by first | (simp [plainName, overriddenIn]; done) | decide +kernel
theorem own_d_prog_59_method_6_code_0 : decode prog_59_method_6_code 0 = .ok (.aload_n 1, 1) := by decide +kernel
theorem own_d_prog_59_method_6_code_1 : decode prog_59_method_6_code 1 = .ok (.aload_n 0, 1) := by decide +kernel
theorem own_d_prog_59_method_6_code_2 : decode prog_59_method_6_code 2 = .ok (.if_acmp .eq 17, 3) := by decide +kernel
theorem own_d_prog_59_method_6_code_5 : decode prog_59_method_6_code 5 = .ok (.aload_n 0, 1) := by decide +kernel
theorem own_d_prog_59_method_6_code_6 : decode prog_59_method_6_code 6 = .ok (.getstatic 7, 3) := by decide +kernel
theorem own_d_prog_59_method_6_code_9 : decode prog_59_method_6_code 9 = .ok (.if_acmp .ne 14, 3) := by decide +kernel
theorem own_d_prog_59_method_6_code_12 : decode prog_59_method_6_code 12 = .ok (.aload_n 1, 1) := by decide +kernel
theorem own_d_prog_59_method_6_code_13 : decode prog_59_method_6_code 13 = .ok (.getstatic 3, 3) := by decide +kernel
theorem own_d_prog_59_method_6_code_16 : decode prog_59_method_6_code 16 = .ok (.if_acmp .ne 7, 3) := by decide +kernel
theorem own_d_prog_59_method_6_code_19 : decode prog_59_method_6_code 19 = .ok (.iconst 1, 1) := by decide +kernel
theorem own_d_prog_59_method_6_code_20 : decode prog_59_method_6_code 20 = .ok (.goto 4, 3) := by decide +kernel
theorem own_d_prog_59_method_6_code_23 : decode prog_59_method_6_code 23 = .ok (.iconst 0, 1) := by decide +kernel
theorem own_d_prog_59_method_6_code_24 : decode prog_59_method_6_code 24 = .ok (.ireturn, 1) := by decide +kernel
theorem own_ef2 (m : MethodId) (x0 : Addr) : entryFrame m #[(.ref x0)] 1 = mkF m 0 #[.val (.ref x0)] [] := by first | (simp [entryFrame, mkF, argsToLocals, Value.category]; done) | rfl
theorem own_d_prog_59_method_5_code_0 : decode prog_59_method_5_code 0 = .ok (.aload_n 0, 1) := by decide +kernel
theorem own_d_prog_59_method_5_code_1 : decode prog_59_method_5_code 1 = .ok (.getstatic 10, 3) := by decide +kernel
theorem own_d_prog_59_method_5_code_4 : decode prog_59_method_5_code 4 = .ok (.if_acmp .eq 7, 3) := by decide +kernel
theorem own_d_prog_59_method_5_code_7 : decode prog_59_method_5_code 7 = .ok (.iconst 1, 1) := by decide +kernel
theorem own_d_prog_59_method_5_code_8 : decode prog_59_method_5_code 8 = .ok (.goto 4, 3) := by decide +kernel
theorem own_d_prog_59_method_5_code_11 : decode prog_59_method_5_code 11 = .ok (.iconst 0, 1) := by decide +kernel
theorem own_d_prog_59_method_5_code_12 : decode prog_59_method_5_code 12 = .ok (.ireturn, 1) := by decide +kernel
theorem own_ef3 (m : MethodId) (x0 : Int32) : entryFrame m #[(.int x0)] maxLocals = mkF m 0 #[.val (.int x0), .unset, .unset, .unset, .unset] [] := by first | (simp [entryFrame, mkF, argsToLocals, Value.category, maxLocals]; done) | rfl
theorem own_pd0 : parseMethodDescriptor "(I)Lcom/example/nuthatch/nuthatch/expressions/Type;" = some ⟨[.int], some (.object "com/example/nuthatch/nuthatch/expressions/Type")⟩ := by decide +kernel
theorem own_pd1 : parseMethodDescriptor "()Z" = some ⟨[], some .boolean⟩ := by decide +kernel
theorem own_pd2 : parseMethodDescriptor "(Lcom/example/nuthatch/nuthatch/expressions/Type;)Z" = some ⟨[(.object "com/example/nuthatch/nuthatch/expressions/Type")], some .boolean⟩ := by decide +kernel
set_option maxRecDepth 65536 in
set_option maxHeartbeats 40000000 in
theorem own_rmp (l : Launch) (Z : State) (a0 : Array Value) (hw : ∀ d ∈ tables_1, d.before a0 Z = true) (ws : List Jvm.Cond) (k : Int32) (r ai ad ab : Addr) (h0 : Heap) (n0 : Nat) (Z0 : n0 ≤ h0.size) (S_INT : Sta Z h0 "com/example/nuthatch/nuthatch/expressions/Type" "INT" "Lcom/example/nuthatch/nuthatch/expressions/Type;" (.ref ai)) (S_DOUBLE : Sta Z h0 "com/example/nuthatch/nuthatch/expressions/Type" "DOUBLE" "Lcom/example/nuthatch/nuthatch/expressions/Type;" (.ref ad)) (S_BOOL : Sta Z h0 "com/example/nuthatch/nuthatch/expressions/Type" "BOOL" "Lcom/example/nuthatch/nuthatch/expressions/Type;" (.ref ab)) (hr : own_pick k r ai ad ab) :
    MetFree l (⟨"com/example/nuthatch/nuthatch/expressions/TypeIsNumericPinLaw", "pick", "(I)Lcom/example/nuthatch/nuthatch/expressions/Type;"⟩ : MethodName) (head1 (Jvm.Cond.code (⟨"com/example/nuthatch/nuthatch/expressions/TypeIsNumericPinLaw", "pick", "(I)Lcom/example/nuthatch/nuthatch/expressions/Type;"⟩ : MethodName) method_2_code 1 (some (.object "com/example/nuthatch/nuthatch/expressions/Type")) :: ws) ({ frames := 0, cells := 0, slots := 0, locals := 0 } : Room)) (fun a_ U_ => a_ = #[(.int k)] ∧ Z.Warmed39 U_.vm ∧ U_.heap = h0) (fun _ _ _ _ _ => True) (fun _ U_ o_ U_' => ∃ v_ L_, o_ = .returned v_ ∧ own_QP (some (.ref r)) h0 n0 v_ U_'.heap L_ ∧ FrameEnd U_ o_ U_' L_ ({ frames := 0, cells := 0, slots := 0, locals := 0 } : Room).cells ({ frames := 0, cells := 0, slots := 0, locals := 0 } : Room).slots) := by
  refine MetFree.of_bodySF (plainFor_of_name own_pn0) hisR ?_
  intro p e s m args below meth c s₁ Bd hml0 hP hK
  obtain ⟨rfl, hZ, hh⟩ := hP
  have hx := Bd.exec
  have hby := Bd.bytes
  have hml : c.maxLocals = 1 := hml0
  have hown : s.vm.findClass "com/example/nuthatch/nuthatch/expressions/TypeIsNumericPinLaw" = some m.cls := findClass_of_methodNamed Bd.named
  have hnm := (name_of_methodNamed Bd.named Bd.method).1
  have X0 : Stand p l e ({ frames := 0, cells := 0, slots := 0, locals := 0 } : Room) s m #[(.int k)] below meth c s₁ [] 0 0 := Stand.of_body Bd
  have e0 : s₁.heap = h0 := by rw [← hh, Bd.state]; rfl
  have N0 := Fr.nil n0
  have pre0 : ∀ t, Steps p.tables e below (s₁.setTop (mkF m 0 #[.val (.int k)] [])) t → Steps p.tables e below (s₁.setTop (entryFrame m #[(.int k)] 1)) t := fun t_ k_ => castTop (own_ef0 m k) k_
  rcases hr with ⟨h, h'⟩ | ⟨h, h'⟩ | ⟨h, h'⟩
  · obtain ⟨T1, X1, e1, st1⟩ := getS2 X0 hx hZ hown (host := "") (Or.inl (hw _ (List.mem_of_getElem? (i := 5) rfl))) Via.refl e0 S_INT (g := (mkF m 4 #[.val (.int k)] [])) rfl (hb hby own_d_method_2_code_4)
    obtain ⟨fs, hr, hrun, hended, hW, hsame⟩ := X1.leave (v := some (.ref ai)) (fun h => by rw [Bd.returns] at h; cases h)
    refine ⟨_, _, pre0 _ ?_, hrun, hended, _, _, rfl, ?_, ⟨_, rfl⟩, hW, hsame.mono (by decide) (by decide)⟩
    · show Steps p.tables e below (s₁.setTop (mkF m 0 #[.val (.int k)] [])) _
      refine XS.iloadN X0.here hx rfl (hb hby own_d_method_2_code_0) rfl ?_
      show Steps p.tables e below (s₁.setTop (mkF m 1 #[.val (.int k)] [(.int k)])) _
      refine XS.ifNo X0.here hx rfl (hb hby own_d_method_2_code_1) rfl ((if0 _ _).trans (teq (h : k = (0 : Int32))).2) ?_
      show Steps p.tables e below (s₁.setTop (mkF m 4 #[.val (.int k)] [])) _
      refine st1 _ ?_
      show Steps p.tables e below (T1.setTop (mkF m 7 #[.val (.int k)] [(.ref ai)])) _
      exact retOut X1 hx Bd.returns rfl (Or.inr (Or.inr (Or.inr (Or.inr ⟨rfl, rfl, rfl⟩)))) (hb hby own_d_method_2_code_7) hr
    · show own_QP (some (.ref r)) h0 n0 _ T1.heap _
      exact ⟨by rw [h'], N0, e1⟩
  · obtain ⟨T2, X2, e2, st2⟩ := getS2 X0 hx hZ hown (host := "") (Or.inl (hw _ (List.mem_of_getElem? (i := 23) rfl))) Via.refl e0 S_DOUBLE (g := (mkF m 13 #[.val (.int k)] [])) rfl (hb hby own_d_method_2_code_13)
    obtain ⟨fs, hr, hrun, hended, hW, hsame⟩ := X2.leave (v := some (.ref ad)) (fun h => by rw [Bd.returns] at h; cases h)
    refine ⟨_, _, pre0 _ ?_, hrun, hended, _, _, rfl, ?_, ⟨_, rfl⟩, hW, hsame.mono (by decide) (by decide)⟩
    · show Steps p.tables e below (s₁.setTop (mkF m 0 #[.val (.int k)] [])) _
      refine XS.iloadN X0.here hx rfl (hb hby own_d_method_2_code_0) rfl ?_
      show Steps p.tables e below (s₁.setTop (mkF m 1 #[.val (.int k)] [(.int k)])) _
      refine XS.ifYes X0.here hx rfl (pc0 := 1) (pc' := 8) rfl (hb hby own_d_method_2_code_1) rfl ((if0 _ _).trans (feq (by rw [h]; decide : ¬ (k = (0 : Int32)))).2) (by decide) (by decide) ?_
      show Steps p.tables e below (s₁.setTop (mkF m 8 #[.val (.int k)] [])) _
      refine XS.iloadN X0.here hx rfl (hb hby own_d_method_2_code_8) rfl ?_
      show Steps p.tables e below (s₁.setTop (mkF m 9 #[.val (.int k)] [(.int k)])) _
      refine XS.iconst X0.here hx rfl (hb hby own_d_method_2_code_9) ?_
      show Steps p.tables e below (s₁.setTop (mkF m 10 #[.val (.int k)] [(.int (1 : Int32)), (.int k)])) _
      refine XS.icmpNo X0.here hx rfl (hb hby own_d_method_2_code_10) rfl (teq (h : k = (1 : Int32))).2 ?_
      show Steps p.tables e below (s₁.setTop (mkF m 13 #[.val (.int k)] [])) _
      refine st2 _ ?_
      show Steps p.tables e below (T2.setTop (mkF m 16 #[.val (.int k)] [(.ref ad)])) _
      exact retOut X2 hx Bd.returns rfl (Or.inr (Or.inr (Or.inr (Or.inr ⟨rfl, rfl, rfl⟩)))) (hb hby own_d_method_2_code_16) hr
    · show own_QP (some (.ref r)) h0 n0 _ T2.heap _
      exact ⟨by rw [h'], N0, e2⟩
  · obtain ⟨T3, X3, e3, st3⟩ := getS2 X0 hx hZ hown (host := "") (Or.inl (hw _ (List.mem_of_getElem? (i := 20) rfl))) Via.refl e0 S_BOOL (g := (mkF m 17 #[.val (.int k)] [])) rfl (hb hby own_d_method_2_code_17)
    obtain ⟨fs, hr, hrun, hended, hW, hsame⟩ := X3.leave (v := some (.ref ab)) (fun h => by rw [Bd.returns] at h; cases h)
    refine ⟨_, _, pre0 _ ?_, hrun, hended, _, _, rfl, ?_, ⟨_, rfl⟩, hW, hsame.mono (by decide) (by decide)⟩
    · show Steps p.tables e below (s₁.setTop (mkF m 0 #[.val (.int k)] [])) _
      refine XS.iloadN X0.here hx rfl (hb hby own_d_method_2_code_0) rfl ?_
      show Steps p.tables e below (s₁.setTop (mkF m 1 #[.val (.int k)] [(.int k)])) _
      refine XS.ifYes X0.here hx rfl (pc0 := 1) (pc' := 8) rfl (hb hby own_d_method_2_code_1) rfl ((if0 _ _).trans (feq (by rw [h]; decide : ¬ (k = (0 : Int32)))).2) (by decide) (by decide) ?_
      show Steps p.tables e below (s₁.setTop (mkF m 8 #[.val (.int k)] [])) _
      refine XS.iloadN X0.here hx rfl (hb hby own_d_method_2_code_8) rfl ?_
      show Steps p.tables e below (s₁.setTop (mkF m 9 #[.val (.int k)] [(.int k)])) _
      refine XS.iconst X0.here hx rfl (hb hby own_d_method_2_code_9) ?_
      show Steps p.tables e below (s₁.setTop (mkF m 10 #[.val (.int k)] [(.int (1 : Int32)), (.int k)])) _
      refine XS.icmpYes X0.here hx rfl (pc0 := 10) (pc' := 17) rfl (hb hby own_d_method_2_code_10) rfl (feq (by rw [h]; decide : ¬ (k = (1 : Int32)))).2 (by decide) (by decide) ?_
      show Steps p.tables e below (s₁.setTop (mkF m 17 #[.val (.int k)] [])) _
      refine st3 _ ?_
      show Steps p.tables e below (T3.setTop (mkF m 20 #[.val (.int k)] [(.ref ab)])) _
      exact retOut X3 hx Bd.returns rfl (Or.inr (Or.inr (Or.inr (Or.inr ⟨rfl, rfl, rfl⟩)))) (hb hby own_d_method_2_code_20) hr
    · show own_QP (some (.ref r)) h0 n0 _ T3.heap _
      exact ⟨by rw [h'], N0, e3⟩
set_option maxRecDepth 65536 in
set_option maxHeartbeats 40000000 in
theorem own_rma (l : Launch) (Z : State) (a0 : Array Value) (hw : ∀ d ∈ tables_1, d.before a0 Z = true) (ws : List Jvm.Cond) (x y ai ad : Addr) (h0 : Heap) (n0 : Nat) (Z0 : n0 ≤ h0.size) (S_INT : Sta Z h0 "com/example/nuthatch/nuthatch/expressions/Type" "INT" "Lcom/example/nuthatch/nuthatch/expressions/Type;" (.ref ai)) (S_DOUBLE : Sta Z h0 "com/example/nuthatch/nuthatch/expressions/Type" "DOUBLE" "Lcom/example/nuthatch/nuthatch/expressions/Type;" (.ref ad)) :
    MetFree l (⟨"com/example/nuthatch/nuthatch/expressions/Type", "accepts", "(Lcom/example/nuthatch/nuthatch/expressions/Type;)Z"⟩ : MethodName) (head1 (Jvm.Cond.code (⟨"com/example/nuthatch/nuthatch/expressions/Type", "accepts", "(Lcom/example/nuthatch/nuthatch/expressions/Type;)Z"⟩ : MethodName) prog_59_method_6_code 2 (some .boolean) :: ws) ({ frames := 0, cells := 0, slots := 0, locals := 0 } : Room)) (fun a_ U_ => a_ = #[(.ref x), (.ref y)] ∧ Z.Warmed39 U_.vm ∧ U_.heap = h0) (fun _ _ _ _ _ => True) (fun _ U_ o_ U_' => ∃ v_ L_, o_ = .returned v_ ∧ own_QP (some (.int (own_acc ai ad x y))) h0 n0 v_ U_'.heap L_ ∧ FrameEnd U_ o_ U_' L_ ({ frames := 0, cells := 0, slots := 0, locals := 0 } : Room).cells ({ frames := 0, cells := 0, slots := 0, locals := 0 } : Room).slots) := by
  refine MetFree.of_bodySF (plainFor_of_name own_pn1) hisR ?_
  intro p e s m args below meth c s₁ Bd hml0 hP hK
  obtain ⟨rfl, hZ, hh⟩ := hP
  have hx := Bd.exec
  have hby := Bd.bytes
  have hml : c.maxLocals = 2 := hml0
  have hown : s.vm.findClass "com/example/nuthatch/nuthatch/expressions/Type" = some m.cls := findClass_of_methodNamed Bd.named
  have hnm := (name_of_methodNamed Bd.named Bd.method).1
  have X0 : Stand p l e ({ frames := 0, cells := 0, slots := 0, locals := 0 } : Room) s m #[(.ref x), (.ref y)] below meth c s₁ [] 0 0 := Stand.of_body Bd
  have e0 : s₁.heap = h0 := by rw [← hh, Bd.state]; rfl
  have N0 := Fr.nil n0
  have pre0 : ∀ t, Steps p.tables e below (s₁.setTop (mkF m 0 #[.val (.ref x), .val (.ref y)] [])) t → Steps p.tables e below (s₁.setTop (entryFrame m #[(.ref x), (.ref y)] 2)) t := fun t_ k_ => castTop (own_ef1 m x y) k_
  rcases own_c3 (y = x) (x = ad) (y = ai) with h | ⟨h, h2, h3⟩ | ⟨h, h2, h3⟩ | ⟨h, h2⟩
  · obtain ⟨fs, hr, hrun, hended, hW, hsame⟩ := X0.leave (v := some (.int (1 : Int32))) (fun h => by rw [Bd.returns] at h; cases h)
    refine ⟨_, _, pre0 _ ?_, hrun, hended, _, _, rfl, ?_, ⟨_, rfl⟩, hW, hsame.mono (by decide) (by decide)⟩
    · show Steps p.tables e below (s₁.setTop (mkF m 0 #[.val (.ref x), .val (.ref y)] [])) _
      refine XS.aloadN X0.here hx rfl (hb hby own_d_prog_59_method_6_code_0) rfl rfl ?_
      show Steps p.tables e below (s₁.setTop (mkF m 1 #[.val (.ref x), .val (.ref y)] [(.ref y)])) _
      refine XS.aloadN X0.here hx rfl (hb hby own_d_prog_59_method_6_code_1) rfl rfl ?_
      show Steps p.tables e below (s₁.setTop (mkF m 2 #[.val (.ref x), .val (.ref y)] [(.ref x), (.ref y)])) _
      refine Jvm.RoadKit.acmp (g := (mkF m 2 #[.val (.ref x), .val (.ref y)] [(.ref x), (.ref y)])) X0 hx rfl (x := (.ref y)) (y := (.ref x)) rfl rfl (pc0 := 2) (pc' := 19) (same := true) rfl (hb hby own_d_prog_59_method_6_code_2) rfl (own_sm h) (by decide) (by decide) ?_
      show Steps p.tables e below (s₁.setTop (mkF m 19 #[.val (.ref x), .val (.ref y)] [])) _
      refine XS.iconst X0.here hx rfl (hb hby own_d_prog_59_method_6_code_19) ?_
      show Steps p.tables e below (s₁.setTop (mkF m 20 #[.val (.ref x), .val (.ref y)] [(.int (1 : Int32))])) _
      refine XS.goto X0.here hx rfl (pc0 := 20) (pc' := 24) rfl (hb hby own_d_prog_59_method_6_code_20) (by decide) (by decide) ?_
      show Steps p.tables e below (s₁.setTop (mkF m 24 #[.val (.ref x), .val (.ref y)] [(.int (1 : Int32))])) _
      exact retN X0 hx (t := .boolean) Bd.returns (by simp) (hb hby own_d_prog_59_method_6_code_24) hr
    · show own_QP (some (.int (own_acc ai ad x y))) h0 n0 _ s₁.heap _
      exact ⟨by rw [own_acc1 h], N0, e0⟩
  · obtain ⟨T1, X1, e1, st1⟩ := getS2 X0 hx hZ hown (host := "") (Or.inl (hw _ (List.mem_of_getElem? (i := 21) rfl))) Via.refl e0 S_DOUBLE (g := (mkF m 6 #[.val (.ref x), .val (.ref y)] [(.ref x)])) rfl (hb hby own_d_prog_59_method_6_code_6)
    obtain ⟨T2, X2, e2, st2⟩ := getS2 X1 hx hZ hown (host := "") (Or.inl (hw _ (List.mem_of_getElem? (i := 24) rfl))) Via.refl e1 S_INT (g := (mkF m 13 #[.val (.ref x), .val (.ref y)] [(.ref y)])) rfl (hb hby own_d_prog_59_method_6_code_13)
    obtain ⟨fs, hr, hrun, hended, hW, hsame⟩ := X2.leave (v := some (.int (1 : Int32))) (fun h => by rw [Bd.returns] at h; cases h)
    refine ⟨_, _, pre0 _ ?_, hrun, hended, _, _, rfl, ?_, ⟨_, rfl⟩, hW, hsame.mono (by decide) (by decide)⟩
    · show Steps p.tables e below (s₁.setTop (mkF m 0 #[.val (.ref x), .val (.ref y)] [])) _
      refine XS.aloadN X0.here hx rfl (hb hby own_d_prog_59_method_6_code_0) rfl rfl ?_
      show Steps p.tables e below (s₁.setTop (mkF m 1 #[.val (.ref x), .val (.ref y)] [(.ref y)])) _
      refine XS.aloadN X0.here hx rfl (hb hby own_d_prog_59_method_6_code_1) rfl rfl ?_
      show Steps p.tables e below (s₁.setTop (mkF m 2 #[.val (.ref x), .val (.ref y)] [(.ref x), (.ref y)])) _
      refine Jvm.RoadKit.acmp (g := (mkF m 2 #[.val (.ref x), .val (.ref y)] [(.ref x), (.ref y)])) X0 hx rfl (x := (.ref y)) (y := (.ref x)) rfl rfl (pc0 := 2) (pc' := 5) (same := false) rfl (hb hby own_d_prog_59_method_6_code_2) rfl (own_df h) (by decide) (by decide) ?_
      show Steps p.tables e below (s₁.setTop (mkF m 5 #[.val (.ref x), .val (.ref y)] [])) _
      refine XS.aloadN X0.here hx rfl (hb hby own_d_prog_59_method_6_code_5) rfl rfl ?_
      show Steps p.tables e below (s₁.setTop (mkF m 6 #[.val (.ref x), .val (.ref y)] [(.ref x)])) _
      refine st1 _ ?_
      show Steps p.tables e below (T1.setTop (mkF m 9 #[.val (.ref x), .val (.ref y)] [(.ref ad), (.ref x)])) _
      refine Jvm.RoadKit.acmp (g := (mkF m 9 #[.val (.ref x), .val (.ref y)] [(.ref ad), (.ref x)])) X1 hx rfl (x := (.ref x)) (y := (.ref ad)) rfl rfl (pc0 := 9) (pc' := 12) (same := true) rfl (hb hby own_d_prog_59_method_6_code_9) rfl (own_sm h2) (by decide) (by decide) ?_
      show Steps p.tables e below (T1.setTop (mkF m 12 #[.val (.ref x), .val (.ref y)] [])) _
      refine XS.aloadN X1.here hx rfl (hb hby own_d_prog_59_method_6_code_12) rfl rfl ?_
      show Steps p.tables e below (T1.setTop (mkF m 13 #[.val (.ref x), .val (.ref y)] [(.ref y)])) _
      refine st2 _ ?_
      show Steps p.tables e below (T2.setTop (mkF m 16 #[.val (.ref x), .val (.ref y)] [(.ref ai), (.ref y)])) _
      refine Jvm.RoadKit.acmp (g := (mkF m 16 #[.val (.ref x), .val (.ref y)] [(.ref ai), (.ref y)])) X2 hx rfl (x := (.ref y)) (y := (.ref ai)) rfl rfl (pc0 := 16) (pc' := 19) (same := true) rfl (hb hby own_d_prog_59_method_6_code_16) rfl (own_sm h3) (by decide) (by decide) ?_
      show Steps p.tables e below (T2.setTop (mkF m 19 #[.val (.ref x), .val (.ref y)] [])) _
      refine XS.iconst X2.here hx rfl (hb hby own_d_prog_59_method_6_code_19) ?_
      show Steps p.tables e below (T2.setTop (mkF m 20 #[.val (.ref x), .val (.ref y)] [(.int (1 : Int32))])) _
      refine XS.goto X2.here hx rfl (pc0 := 20) (pc' := 24) rfl (hb hby own_d_prog_59_method_6_code_20) (by decide) (by decide) ?_
      show Steps p.tables e below (T2.setTop (mkF m 24 #[.val (.ref x), .val (.ref y)] [(.int (1 : Int32))])) _
      exact retN X2 hx (t := .boolean) Bd.returns (by simp) (hb hby own_d_prog_59_method_6_code_24) hr
    · show own_QP (some (.int (own_acc ai ad x y))) h0 n0 _ T2.heap _
      exact ⟨by rw [own_acc2 h2 h3], N0, e2⟩
  · obtain ⟨T3, X3, e3, st3⟩ := getS2 X0 hx hZ hown (host := "") (Or.inl (hw _ (List.mem_of_getElem? (i := 21) rfl))) Via.refl e0 S_DOUBLE (g := (mkF m 6 #[.val (.ref x), .val (.ref y)] [(.ref x)])) rfl (hb hby own_d_prog_59_method_6_code_6)
    obtain ⟨T4, X4, e4, st4⟩ := getS2 X3 hx hZ hown (host := "") (Or.inl (hw _ (List.mem_of_getElem? (i := 24) rfl))) Via.refl e3 S_INT (g := (mkF m 13 #[.val (.ref x), .val (.ref y)] [(.ref y)])) rfl (hb hby own_d_prog_59_method_6_code_13)
    obtain ⟨fs, hr, hrun, hended, hW, hsame⟩ := X4.leave (v := some (.int (0 : Int32))) (fun h => by rw [Bd.returns] at h; cases h)
    refine ⟨_, _, pre0 _ ?_, hrun, hended, _, _, rfl, ?_, ⟨_, rfl⟩, hW, hsame.mono (by decide) (by decide)⟩
    · show Steps p.tables e below (s₁.setTop (mkF m 0 #[.val (.ref x), .val (.ref y)] [])) _
      refine XS.aloadN X0.here hx rfl (hb hby own_d_prog_59_method_6_code_0) rfl rfl ?_
      show Steps p.tables e below (s₁.setTop (mkF m 1 #[.val (.ref x), .val (.ref y)] [(.ref y)])) _
      refine XS.aloadN X0.here hx rfl (hb hby own_d_prog_59_method_6_code_1) rfl rfl ?_
      show Steps p.tables e below (s₁.setTop (mkF m 2 #[.val (.ref x), .val (.ref y)] [(.ref x), (.ref y)])) _
      refine Jvm.RoadKit.acmp (g := (mkF m 2 #[.val (.ref x), .val (.ref y)] [(.ref x), (.ref y)])) X0 hx rfl (x := (.ref y)) (y := (.ref x)) rfl rfl (pc0 := 2) (pc' := 5) (same := false) rfl (hb hby own_d_prog_59_method_6_code_2) rfl (own_df h) (by decide) (by decide) ?_
      show Steps p.tables e below (s₁.setTop (mkF m 5 #[.val (.ref x), .val (.ref y)] [])) _
      refine XS.aloadN X0.here hx rfl (hb hby own_d_prog_59_method_6_code_5) rfl rfl ?_
      show Steps p.tables e below (s₁.setTop (mkF m 6 #[.val (.ref x), .val (.ref y)] [(.ref x)])) _
      refine st3 _ ?_
      show Steps p.tables e below (T3.setTop (mkF m 9 #[.val (.ref x), .val (.ref y)] [(.ref ad), (.ref x)])) _
      refine Jvm.RoadKit.acmp (g := (mkF m 9 #[.val (.ref x), .val (.ref y)] [(.ref ad), (.ref x)])) X3 hx rfl (x := (.ref x)) (y := (.ref ad)) rfl rfl (pc0 := 9) (pc' := 12) (same := true) rfl (hb hby own_d_prog_59_method_6_code_9) rfl (own_sm h2) (by decide) (by decide) ?_
      show Steps p.tables e below (T3.setTop (mkF m 12 #[.val (.ref x), .val (.ref y)] [])) _
      refine XS.aloadN X3.here hx rfl (hb hby own_d_prog_59_method_6_code_12) rfl rfl ?_
      show Steps p.tables e below (T3.setTop (mkF m 13 #[.val (.ref x), .val (.ref y)] [(.ref y)])) _
      refine st4 _ ?_
      show Steps p.tables e below (T4.setTop (mkF m 16 #[.val (.ref x), .val (.ref y)] [(.ref ai), (.ref y)])) _
      refine Jvm.RoadKit.acmp (g := (mkF m 16 #[.val (.ref x), .val (.ref y)] [(.ref ai), (.ref y)])) X4 hx rfl (x := (.ref y)) (y := (.ref ai)) rfl rfl (pc0 := 16) (pc' := 23) (same := false) rfl (hb hby own_d_prog_59_method_6_code_16) rfl (own_df h3) (by decide) (by decide) ?_
      show Steps p.tables e below (T4.setTop (mkF m 23 #[.val (.ref x), .val (.ref y)] [])) _
      refine XS.iconst X4.here hx rfl (hb hby own_d_prog_59_method_6_code_23) ?_
      show Steps p.tables e below (T4.setTop (mkF m 24 #[.val (.ref x), .val (.ref y)] [(.int (0 : Int32))])) _
      exact retN X4 hx (t := .boolean) Bd.returns (by simp) (hb hby own_d_prog_59_method_6_code_24) hr
    · show own_QP (some (.int (own_acc ai ad x y))) h0 n0 _ T4.heap _
      exact ⟨by rw [own_acc3 h (fun q => h3 q.2)], N0, e4⟩
  · obtain ⟨T5, X5, e5, st5⟩ := getS2 X0 hx hZ hown (host := "") (Or.inl (hw _ (List.mem_of_getElem? (i := 21) rfl))) Via.refl e0 S_DOUBLE (g := (mkF m 6 #[.val (.ref x), .val (.ref y)] [(.ref x)])) rfl (hb hby own_d_prog_59_method_6_code_6)
    obtain ⟨fs, hr, hrun, hended, hW, hsame⟩ := X5.leave (v := some (.int (0 : Int32))) (fun h => by rw [Bd.returns] at h; cases h)
    refine ⟨_, _, pre0 _ ?_, hrun, hended, _, _, rfl, ?_, ⟨_, rfl⟩, hW, hsame.mono (by decide) (by decide)⟩
    · show Steps p.tables e below (s₁.setTop (mkF m 0 #[.val (.ref x), .val (.ref y)] [])) _
      refine XS.aloadN X0.here hx rfl (hb hby own_d_prog_59_method_6_code_0) rfl rfl ?_
      show Steps p.tables e below (s₁.setTop (mkF m 1 #[.val (.ref x), .val (.ref y)] [(.ref y)])) _
      refine XS.aloadN X0.here hx rfl (hb hby own_d_prog_59_method_6_code_1) rfl rfl ?_
      show Steps p.tables e below (s₁.setTop (mkF m 2 #[.val (.ref x), .val (.ref y)] [(.ref x), (.ref y)])) _
      refine Jvm.RoadKit.acmp (g := (mkF m 2 #[.val (.ref x), .val (.ref y)] [(.ref x), (.ref y)])) X0 hx rfl (x := (.ref y)) (y := (.ref x)) rfl rfl (pc0 := 2) (pc' := 5) (same := false) rfl (hb hby own_d_prog_59_method_6_code_2) rfl (own_df h) (by decide) (by decide) ?_
      show Steps p.tables e below (s₁.setTop (mkF m 5 #[.val (.ref x), .val (.ref y)] [])) _
      refine XS.aloadN X0.here hx rfl (hb hby own_d_prog_59_method_6_code_5) rfl rfl ?_
      show Steps p.tables e below (s₁.setTop (mkF m 6 #[.val (.ref x), .val (.ref y)] [(.ref x)])) _
      refine st5 _ ?_
      show Steps p.tables e below (T5.setTop (mkF m 9 #[.val (.ref x), .val (.ref y)] [(.ref ad), (.ref x)])) _
      refine Jvm.RoadKit.acmp (g := (mkF m 9 #[.val (.ref x), .val (.ref y)] [(.ref ad), (.ref x)])) X5 hx rfl (x := (.ref x)) (y := (.ref ad)) rfl rfl (pc0 := 9) (pc' := 23) (same := false) rfl (hb hby own_d_prog_59_method_6_code_9) rfl (own_df h2) (by decide) (by decide) ?_
      show Steps p.tables e below (T5.setTop (mkF m 23 #[.val (.ref x), .val (.ref y)] [])) _
      refine XS.iconst X5.here hx rfl (hb hby own_d_prog_59_method_6_code_23) ?_
      show Steps p.tables e below (T5.setTop (mkF m 24 #[.val (.ref x), .val (.ref y)] [(.int (0 : Int32))])) _
      exact retN X5 hx (t := .boolean) Bd.returns (by simp) (hb hby own_d_prog_59_method_6_code_24) hr
    · show own_QP (some (.int (own_acc ai ad x y))) h0 n0 _ T5.heap _
      exact ⟨by rw [own_acc3 h (fun q => h2 q.1)], N0, e5⟩
set_option maxRecDepth 65536 in
set_option maxHeartbeats 40000000 in
theorem own_rmn (l : Launch) (Z : State) (a0 : Array Value) (hw : ∀ d ∈ tables_1, d.before a0 Z = true) (ws : List Jvm.Cond) (a ab : Addr) (h0 : Heap) (n0 : Nat) (Z0 : n0 ≤ h0.size) (S_BOOL : Sta Z h0 "com/example/nuthatch/nuthatch/expressions/Type" "BOOL" "Lcom/example/nuthatch/nuthatch/expressions/Type;" (.ref ab)) :
    MetFree l (⟨"com/example/nuthatch/nuthatch/expressions/Type", "isNumeric", "()Z"⟩ : MethodName) (head1 (Jvm.Cond.code (⟨"com/example/nuthatch/nuthatch/expressions/Type", "isNumeric", "()Z"⟩ : MethodName) prog_59_method_5_code 1 (some .boolean) :: ws) ({ frames := 0, cells := 0, slots := 0, locals := 0 } : Room)) (fun a_ U_ => a_ = #[(.ref a)] ∧ Z.Warmed39 U_.vm ∧ U_.heap = h0) (fun _ _ _ _ _ => True) (fun _ U_ o_ U_' => ∃ v_ L_, o_ = .returned v_ ∧ own_QP (some (.int (if a = ab then 0 else 1))) h0 n0 v_ U_'.heap L_ ∧ FrameEnd U_ o_ U_' L_ ({ frames := 0, cells := 0, slots := 0, locals := 0 } : Room).cells ({ frames := 0, cells := 0, slots := 0, locals := 0 } : Room).slots) := by
  refine MetFree.of_bodySF (plainFor_of_name own_pn1) hisR ?_
  intro p e s m args below meth c s₁ Bd hml0 hP hK
  obtain ⟨rfl, hZ, hh⟩ := hP
  have hx := Bd.exec
  have hby := Bd.bytes
  have hml : c.maxLocals = 1 := hml0
  have hown : s.vm.findClass "com/example/nuthatch/nuthatch/expressions/Type" = some m.cls := findClass_of_methodNamed Bd.named
  have hnm := (name_of_methodNamed Bd.named Bd.method).1
  have X0 : Stand p l e ({ frames := 0, cells := 0, slots := 0, locals := 0 } : Room) s m #[(.ref a)] below meth c s₁ [] 0 0 := Stand.of_body Bd
  have e0 : s₁.heap = h0 := by rw [← hh, Bd.state]; rfl
  have N0 := Fr.nil n0
  have pre0 : ∀ t, Steps p.tables e below (s₁.setTop (mkF m 0 #[.val (.ref a)] [])) t → Steps p.tables e below (s₁.setTop (entryFrame m #[(.ref a)] 1)) t := fun t_ k_ => castTop (own_ef2 m a) k_
  by_cases h : a = ab
  · obtain ⟨T1, X1, e1, st1⟩ := getS2 X0 hx hZ hown (host := "") (Or.inl (hw _ (List.mem_of_getElem? (i := 13) rfl))) Via.refl e0 S_BOOL (g := (mkF m 1 #[.val (.ref a)] [(.ref a)])) rfl (hb hby own_d_prog_59_method_5_code_1)
    obtain ⟨fs, hr, hrun, hended, hW, hsame⟩ := X1.leave (v := some (.int (0 : Int32))) (fun h => by rw [Bd.returns] at h; cases h)
    refine ⟨_, _, pre0 _ ?_, hrun, hended, _, _, rfl, ?_, ⟨_, rfl⟩, hW, hsame.mono (by decide) (by decide)⟩
    · show Steps p.tables e below (s₁.setTop (mkF m 0 #[.val (.ref a)] [])) _
      refine XS.aloadN X0.here hx rfl (hb hby own_d_prog_59_method_5_code_0) rfl rfl ?_
      show Steps p.tables e below (s₁.setTop (mkF m 1 #[.val (.ref a)] [(.ref a)])) _
      refine st1 _ ?_
      show Steps p.tables e below (T1.setTop (mkF m 4 #[.val (.ref a)] [(.ref ab), (.ref a)])) _
      refine Jvm.RoadKit.acmp (g := (mkF m 4 #[.val (.ref a)] [(.ref ab), (.ref a)])) X1 hx rfl (x := (.ref a)) (y := (.ref ab)) rfl rfl (pc0 := 4) (pc' := 11) (same := true) rfl (hb hby own_d_prog_59_method_5_code_4) rfl (own_sm h) (by decide) (by decide) ?_
      show Steps p.tables e below (T1.setTop (mkF m 11 #[.val (.ref a)] [])) _
      refine XS.iconst X1.here hx rfl (hb hby own_d_prog_59_method_5_code_11) ?_
      show Steps p.tables e below (T1.setTop (mkF m 12 #[.val (.ref a)] [(.int (0 : Int32))])) _
      exact retN X1 hx (t := .boolean) Bd.returns (by simp) (hb hby own_d_prog_59_method_5_code_12) hr
    · show own_QP (some (.int (if a = ab then 0 else 1))) h0 n0 _ T1.heap _
      exact ⟨by rw [if_pos h], N0, e1⟩
  · obtain ⟨T2, X2, e2, st2⟩ := getS2 X0 hx hZ hown (host := "") (Or.inl (hw _ (List.mem_of_getElem? (i := 13) rfl))) Via.refl e0 S_BOOL (g := (mkF m 1 #[.val (.ref a)] [(.ref a)])) rfl (hb hby own_d_prog_59_method_5_code_1)
    obtain ⟨fs, hr, hrun, hended, hW, hsame⟩ := X2.leave (v := some (.int (1 : Int32))) (fun h => by rw [Bd.returns] at h; cases h)
    refine ⟨_, _, pre0 _ ?_, hrun, hended, _, _, rfl, ?_, ⟨_, rfl⟩, hW, hsame.mono (by decide) (by decide)⟩
    · show Steps p.tables e below (s₁.setTop (mkF m 0 #[.val (.ref a)] [])) _
      refine XS.aloadN X0.here hx rfl (hb hby own_d_prog_59_method_5_code_0) rfl rfl ?_
      show Steps p.tables e below (s₁.setTop (mkF m 1 #[.val (.ref a)] [(.ref a)])) _
      refine st2 _ ?_
      show Steps p.tables e below (T2.setTop (mkF m 4 #[.val (.ref a)] [(.ref ab), (.ref a)])) _
      refine Jvm.RoadKit.acmp (g := (mkF m 4 #[.val (.ref a)] [(.ref ab), (.ref a)])) X2 hx rfl (x := (.ref a)) (y := (.ref ab)) rfl rfl (pc0 := 4) (pc' := 7) (same := false) rfl (hb hby own_d_prog_59_method_5_code_4) rfl (own_df h) (by decide) (by decide) ?_
      show Steps p.tables e below (T2.setTop (mkF m 7 #[.val (.ref a)] [])) _
      refine XS.iconst X2.here hx rfl (hb hby own_d_prog_59_method_5_code_7) ?_
      show Steps p.tables e below (T2.setTop (mkF m 8 #[.val (.ref a)] [(.int (1 : Int32))])) _
      refine XS.goto X2.here hx rfl (pc0 := 8) (pc' := 12) rfl (hb hby own_d_prog_59_method_5_code_8) (by decide) (by decide) ?_
      show Steps p.tables e below (T2.setTop (mkF m 12 #[.val (.ref a)] [(.int (1 : Int32))])) _
      exact retN X2 hx (t := .boolean) Bd.returns (by simp) (hb hby own_d_prog_59_method_5_code_12) hr
    · show own_QP (some (.int (if a = ab then 0 else 1))) h0 n0 _ T2.heap _
      exact ⟨by rw [if_neg h], N0, e2⟩
set_option maxRecDepth 65536 in
set_option maxHeartbeats 40000000 in
theorem own_rm0 (l : Launch) (Z : State) (a0 : Array Value) (hw : ∀ d ∈ tables_1, d.before a0 Z = true) (ws : List Jvm.Cond) (x0 : Int32) (ai ad ab : Addr) (h0 : Heap) (n0 : Nat) (Z0 : n0 ≤ h0.size) (S_INT : Sta Z h0 "com/example/nuthatch/nuthatch/expressions/Type" "INT" "Lcom/example/nuthatch/nuthatch/expressions/Type;" (.ref ai)) (E_INT : Exa Z h0 ai "com/example/nuthatch/nuthatch/expressions/Type") (S_DOUBLE : Sta Z h0 "com/example/nuthatch/nuthatch/expressions/Type" "DOUBLE" "Lcom/example/nuthatch/nuthatch/expressions/Type;" (.ref ad)) (E_DOUBLE : Exa Z h0 ad "com/example/nuthatch/nuthatch/expressions/Type") (S_BOOL : Sta Z h0 "com/example/nuthatch/nuthatch/expressions/Type" "BOOL" "Lcom/example/nuthatch/nuthatch/expressions/Type;" (.ref ab)) (E_BOOL : Exa Z h0 ab "com/example/nuthatch/nuthatch/expressions/Type") (n1 : ¬ ai = ad) (n2 : ¬ ai = ab) (n3 : ¬ ad = ab) :
    MetFree l x (head1 (Jvm.Cond.code x code maxLocals ret :: ws) room_1) (fun a_ U_ => a_ = #[(.int x0)] ∧ Z.Warmed39 U_.vm ∧ U_.heap = h0) (fun _ _ _ _ _ => True) (fun _ U_ o_ U_' => ∃ v_ L_, o_ = .returned v_ ∧ own_QL n0 v_ U_'.heap L_ ∧ FrameEnd U_ o_ U_' L_ room_1.cells room_1.slots) := by
  refine MetFree.of_bodySF (plainFor_of_name own_pn0) hisR ?_
  intro p e s m args below meth c s₁ Bd hml0 hP hK
  obtain ⟨rfl, hZ, hh⟩ := hP
  have hx := Bd.exec
  have hby := Bd.bytes
  have hml : c.maxLocals = 5 := hml0
  have hown : s.vm.findClass "com/example/nuthatch/nuthatch/expressions/TypeIsNumericPinLaw" = some m.cls := findClass_of_methodNamed Bd.named
  have hnm := (name_of_methodNamed Bd.named Bd.method).1
  have X0 : Stand p l e room_1 s m #[(.int x0)] below meth c s₁ [] 0 0 := Stand.of_body Bd
  have e0 : s₁.heap = h0 := by rw [← hh, Bd.state]; rfl
  have N0 := Fr.nil n0
  have pre0 : ∀ t, Steps p.tables e below (s₁.setTop (mkF m 0 #[.val (.int x0), .unset, .unset, .unset, .unset] [])) t → Steps p.tables e below (s₁.setTop (entryFrame m #[(.int x0)] maxLocals)) t := fun t_ k_ => castTop (own_ef3 m x0) k_
  obtain ⟨kk, T1, Lx1, X1, N1, e1, hk, st1⟩ : ∃ (kk : Int32) (T' : State) (Lx : List Loc), Stand p l e room_1 s m #[(.int x0)] below meth c T' Lx 0 0 ∧ Fr n0 Lx ∧ T'.heap = h0 ∧ (kk = 0 ∨ kk = 1 ∨ kk = 2) ∧ ∀ t, Steps p.tables e below (T'.setTop (mkF m 7 #[.val (.int x0), .val (.int kk), .unset, .unset, .unset] [])) t → Steps p.tables e below (s₁.setTop (mkF m 0 #[.val (.int x0), .unset, .unset, .unset, .unset] [])) t := by
    refine ⟨((x0 &&& (2147483647 : Int32)) % (3 : Int32)), s₁, _, X0, N0, e0, own_rem3 x0, fun t kt => ?_⟩
    show Steps p.tables e below (s₁.setTop (mkF m 0 #[.val (.int x0), .unset, .unset, .unset, .unset] [])) t
    refine XS.iloadN X0.here hx rfl (hb hby at_0) rfl ?_
    show Steps p.tables e below (s₁.setTop (mkF m 1 #[.val (.int x0), .unset, .unset, .unset, .unset] [(.int x0)])) t
    refine Jvm.Stand.ldcI X0 hx hown (mvT hZ (hw _ (List.mem_of_getElem? (i := 0) rfl))) rfl (hb hby at_1) ?_
    show Steps p.tables e below (s₁.setTop (mkF m 3 #[.val (.int x0), .unset, .unset, .unset, .unset] [(.int (2147483647 : Int32)), (.int x0)])) t
    refine XS.iand X0.here hx rfl (hb hby at_3) rfl ?_
    show Steps p.tables e below (s₁.setTop (mkF m 4 #[.val (.int x0), .unset, .unset, .unset, .unset] [(.int (x0 &&& (2147483647 : Int32)))])) t
    refine XS.iconst X0.here hx rfl (hb hby at_4) ?_
    show Steps p.tables e below (s₁.setTop (mkF m 5 #[.val (.int x0), .unset, .unset, .unset, .unset] [(.int (3 : Int32)), (.int (x0 &&& (2147483647 : Int32)))])) t
    refine iremM X0 hx rfl (hb hby at_5) rfl (by decide) ?_
    show Steps p.tables e below (s₁.setTop (mkF m 6 #[.val (.int x0), .unset, .unset, .unset, .unset] [(.int ((x0 &&& (2147483647 : Int32)) % (3 : Int32)))])) t
    refine XS.istoreN X0.here hx rfl (hb hby at_6) rfl (l' := #[.val (.int x0), .val (.int ((x0 &&& (2147483647 : Int32)) % (3 : Int32))), .unset, .unset, .unset]) rfl ?_
    exact kt
  obtain ⟨a, ha, Ea⟩ : ∃ r : Addr, own_pick kk r ai ad ab ∧ Exa Z h0 r "com/example/nuthatch/nuthatch/expressions/Type" := by
    rcases hk with h | h | h
    · exact ⟨ai, Or.inl ⟨h, rfl⟩, E_INT⟩
    · exact ⟨ad, Or.inr (Or.inl ⟨h, rfl⟩), E_DOUBLE⟩
    · exact ⟨ab, Or.inr (Or.inr ⟨h, rfl⟩), E_BOOL⟩
  obtain ⟨_, _, ⟨T2, L2, kc2, nc2⟩, -, X2, ⟨Lc2, hQ2, ql2, qy2, qz2⟩, st2⟩ := Jvm.LawKit.callS X1 hx (y := (⟨"com/example/nuthatch/nuthatch/expressions/TypeIsNumericPinLaw", "pick", "(I)Lcom/example/nuthatch/nuthatch/expressions/Type;"⟩ : MethodName)) hown (mvT hZ (hw _ (List.mem_of_getElem? (i := 1) rfl))) (mvT hZ (hw _ (List.mem_of_getElem? (i := 2) rfl))) (mvT hZ (hw _ (List.mem_of_getElem? (i := 3) rfl))) (mvT hZ (hw _ (List.mem_of_getElem? (i := 4) rfl))) (by decide) (backOf (W := 0) (own_rmp l Z a0 hw [] kk a ai ad ab h0 n0 Z0 S_INT S_DOUBLE S_BOOL ha) hZ (hw _ (List.mem_of_getElem? (i := 4) rfl)) (hw _ (List.mem_of_getElem? (i := 3) rfl)) (by decide) (by decide)) (g := (mkF m 8 #[.val (.int x0), .val (.int kk), .unset, .unset, .unset] [(.int kk)])) rfl (by rw [hml]; rfl) (argsL := [(.int kk)]) (rest := []) (lenOf own_pd0 rfl) rfl (by show 2 * 0 + _ ≤ _; exact Nat.le_of_eq rfl) (hb hby at_8) (fun _ _ => ⟨rfl, e1, (by decide : 0 + 0 ≤ _), (by decide : 0 + 0 ≤ _)⟩)
  dsimp only [Pt.U, Pt.locs, Pt.cells, Pt.slots] at X2 ql2 qy2 qz2 st2 hQ2
  subst ql2 qy2 qz2
  obtain ⟨rfl, Nq2, eq2⟩ := hQ2
  have N2 := Fr.app N1 Nq2
  obtain ⟨z, T3, Lx3, X3, N3, e3, hv, st3⟩ : ∃ (z : Int32) (T' : State) (Lx : List Loc), Stand p l e room_1 s m #[(.int x0)] below meth c T' Lx 0 0 ∧ Fr n0 Lx ∧ T'.heap = h0 ∧ (if a = ab then 0 else 1) = z ∧ ∀ t, Steps p.tables e below (T'.setTop (mkF m 23 #[.val (.int x0), .val (.int kk), .val (.ref a), .val (.int z), .unset] [])) t → Steps p.tables e below (T2.setTop (mkF m 12 #[.val (.int x0), .val (.int kk), .val (.ref a), .unset, .unset] [])) t := by
    rcases ha with ⟨h, h'⟩ | ⟨h, h'⟩ | ⟨h, h'⟩
    · refine ⟨1, T2, _, X2, N2, eq2, by rw [h']; exact if_neg n2, fun t kt => ?_⟩
      show Steps p.tables e below (T2.setTop (mkF m 12 #[.val (.int x0), .val (.int kk), .val (.ref a), .unset, .unset] [])) t
      refine XS.iloadN X2.here hx rfl (hb hby at_12) rfl ?_
      show Steps p.tables e below (T2.setTop (mkF m 13 #[.val (.int x0), .val (.int kk), .val (.ref a), .unset, .unset] [(.int kk)])) t
      refine XS.iconst X2.here hx rfl (hb hby at_13) ?_
      show Steps p.tables e below (T2.setTop (mkF m 14 #[.val (.int x0), .val (.int kk), .val (.ref a), .unset, .unset] [(.int (2 : Int32)), (.int kk)])) t
      refine XS.icmpNo X2.here hx rfl (hb hby at_14) rfl (feq (by rw [h]; decide : ¬ (kk = (2 : Int32)))).1 ?_
      show Steps p.tables e below (T2.setTop (mkF m 17 #[.val (.int x0), .val (.int kk), .val (.ref a), .unset, .unset] [])) t
      refine XS.iconst X2.here hx rfl (hb hby at_17) ?_
      show Steps p.tables e below (T2.setTop (mkF m 18 #[.val (.int x0), .val (.int kk), .val (.ref a), .unset, .unset] [(.int (1 : Int32))])) t
      refine XS.goto X2.here hx rfl (pc0 := 18) (pc' := 22) rfl (hb hby at_18) (by decide) (by decide) ?_
      show Steps p.tables e below (T2.setTop (mkF m 22 #[.val (.int x0), .val (.int kk), .val (.ref a), .unset, .unset] [(.int (1 : Int32))])) t
      refine XS.istoreN X2.here hx rfl (hb hby at_22) rfl (l' := #[.val (.int x0), .val (.int kk), .val (.ref a), .val (.int (1 : Int32)), .unset]) rfl ?_
      exact kt
    · refine ⟨1, T2, _, X2, N2, eq2, by rw [h']; exact if_neg n3, fun t kt => ?_⟩
      show Steps p.tables e below (T2.setTop (mkF m 12 #[.val (.int x0), .val (.int kk), .val (.ref a), .unset, .unset] [])) t
      refine XS.iloadN X2.here hx rfl (hb hby at_12) rfl ?_
      show Steps p.tables e below (T2.setTop (mkF m 13 #[.val (.int x0), .val (.int kk), .val (.ref a), .unset, .unset] [(.int kk)])) t
      refine XS.iconst X2.here hx rfl (hb hby at_13) ?_
      show Steps p.tables e below (T2.setTop (mkF m 14 #[.val (.int x0), .val (.int kk), .val (.ref a), .unset, .unset] [(.int (2 : Int32)), (.int kk)])) t
      refine XS.icmpNo X2.here hx rfl (hb hby at_14) rfl (feq (by rw [h]; decide : ¬ (kk = (2 : Int32)))).1 ?_
      show Steps p.tables e below (T2.setTop (mkF m 17 #[.val (.int x0), .val (.int kk), .val (.ref a), .unset, .unset] [])) t
      refine XS.iconst X2.here hx rfl (hb hby at_17) ?_
      show Steps p.tables e below (T2.setTop (mkF m 18 #[.val (.int x0), .val (.int kk), .val (.ref a), .unset, .unset] [(.int (1 : Int32))])) t
      refine XS.goto X2.here hx rfl (pc0 := 18) (pc' := 22) rfl (hb hby at_18) (by decide) (by decide) ?_
      show Steps p.tables e below (T2.setTop (mkF m 22 #[.val (.int x0), .val (.int kk), .val (.ref a), .unset, .unset] [(.int (1 : Int32))])) t
      refine XS.istoreN X2.here hx rfl (hb hby at_22) rfl (l' := #[.val (.int x0), .val (.int kk), .val (.ref a), .val (.int (1 : Int32)), .unset]) rfl ?_
      exact kt
    · refine ⟨0, T2, _, X2, N2, eq2, by rw [h']; exact if_pos rfl, fun t kt => ?_⟩
      show Steps p.tables e below (T2.setTop (mkF m 12 #[.val (.int x0), .val (.int kk), .val (.ref a), .unset, .unset] [])) t
      refine XS.iloadN X2.here hx rfl (hb hby at_12) rfl ?_
      show Steps p.tables e below (T2.setTop (mkF m 13 #[.val (.int x0), .val (.int kk), .val (.ref a), .unset, .unset] [(.int kk)])) t
      refine XS.iconst X2.here hx rfl (hb hby at_13) ?_
      show Steps p.tables e below (T2.setTop (mkF m 14 #[.val (.int x0), .val (.int kk), .val (.ref a), .unset, .unset] [(.int (2 : Int32)), (.int kk)])) t
      refine XS.icmpYes X2.here hx rfl (pc0 := 14) (pc' := 21) rfl (hb hby at_14) rfl (teq (h : kk = (2 : Int32))).1 (by decide) (by decide) ?_
      show Steps p.tables e below (T2.setTop (mkF m 21 #[.val (.int x0), .val (.int kk), .val (.ref a), .unset, .unset] [])) t
      refine XS.iconst X2.here hx rfl (hb hby at_21) ?_
      show Steps p.tables e below (T2.setTop (mkF m 22 #[.val (.int x0), .val (.int kk), .val (.ref a), .unset, .unset] [(.int (0 : Int32))])) t
      refine XS.istoreN X2.here hx rfl (hb hby at_22) rfl (l' := #[.val (.int x0), .val (.int kk), .val (.ref a), .val (.int (0 : Int32)), .unset]) rfl ?_
      exact kt
  have hv2 : (if a = ab then 0 else 1) = own_acc ai ad a ai := by
    rcases ha with ⟨h, h'⟩ | ⟨h, h'⟩ | ⟨h, h'⟩
    · rw [h', own_acc1 rfl]; exact if_neg n2
    · rw [h', own_acc2 rfl rfl]; exact if_neg n3
    · rw [h', own_acc3 n2 (fun q => n3 q.1.symm)]; exact if_pos rfl
  obtain ⟨cq4, kq4, q4a, q4b, q4c⟩ := isOf hZ e3 Ea
  obtain ⟨_, _, ⟨T4, L4, kc4, nc4⟩, -, X4, ⟨Lc4, hQ4, ql4, qy4, qz4⟩, st4⟩ := X3.virtualBack hx (y := (⟨"com/example/nuthatch/nuthatch/expressions/Type", "isNumeric", "()Z"⟩ : MethodName)) (z := (⟨"com/example/nuthatch/nuthatch/expressions/Type", "isNumeric", "()Z"⟩ : MethodName)) hown (mvT hZ (hw _ (List.mem_of_getElem? (i := 8) rfl))) (mvT hZ (hw _ (List.mem_of_getElem? (i := 9) rfl))) (notFace_of_selects (args := #[]) (mvT hZ (hw _ (List.mem_of_getElem? (i := 11) rfl)))) (mvT hZ (hw _ (List.mem_of_getElem? (i := 11) rfl))) (mvT hZ (hw _ (List.mem_of_getElem? (i := 10) rfl))) (by decide) (backOf (W := 0) (own_rmn l Z a0 hw [] a ab h0 n0 Z0 S_BOOL) hZ (hw _ (List.mem_of_getElem? (i := 12) rfl)) (hw _ (List.mem_of_getElem? (i := 6) rfl)) (by decide) (by decide)) q4a q4c (g := (mkF m 24 #[.val (.int x0), .val (.int kk), .val (.ref a), .val (.int z), .unset] [(.ref a)])) rfl (by rw [hml]; rfl) (Steps.refl _) (argsL := []) (rest := []) (lenOf own_pd1 rfl) rfl (by show 2 * 0 + _ ≤ _; exact Nat.le_of_eq rfl) (hb hby at_24) (fun _ _ => ⟨rfl, e3, (by decide : 0 + 0 ≤ _), (by decide : 0 + 0 ≤ _)⟩)
  dsimp only [Pt.U, Pt.locs, Pt.cells, Pt.slots] at X4 ql4 qy4 qz4 st4 hQ4
  subst ql4 qy4 qz4
  obtain ⟨rfl, Nq4, eq4⟩ := hQ4
  have N4 := Fr.app N3 Nq4
  obtain ⟨T5, X5, e5, st5⟩ := getS2 X4 hx hZ hown (host := "") (Or.inl (hw _ (List.mem_of_getElem? (i := 5) rfl))) Via.refl eq4 S_INT (g := (mkF m 38 #[.val (.int x0), .val (.int kk), .val (.ref a), .val (.int z), .val (.int (if a = ab then 0 else 1))] [(.ref a), (.int (if a = ab then 0 else 1))])) rfl (hb hby at_38)
  obtain ⟨cq6, kq6, q6a, q6b, q6c⟩ := isOf hZ e5 Ea
  obtain ⟨_, _, ⟨T6, L6, kc6, nc6⟩, -, X6, ⟨Lc6, hQ6, ql6, qy6, qz6⟩, st6⟩ := X5.virtualBack hx (y := (⟨"com/example/nuthatch/nuthatch/expressions/Type", "accepts", "(Lcom/example/nuthatch/nuthatch/expressions/Type;)Z"⟩ : MethodName)) (z := (⟨"com/example/nuthatch/nuthatch/expressions/Type", "accepts", "(Lcom/example/nuthatch/nuthatch/expressions/Type;)Z"⟩ : MethodName)) hown (mvT hZ (hw _ (List.mem_of_getElem? (i := 15) rfl))) (mvT hZ (hw _ (List.mem_of_getElem? (i := 16) rfl))) (notFace_of_selects (args := #[]) (mvT hZ (hw _ (List.mem_of_getElem? (i := 18) rfl)))) (mvT hZ (hw _ (List.mem_of_getElem? (i := 18) rfl))) (mvT hZ (hw _ (List.mem_of_getElem? (i := 17) rfl))) (by decide) (backOf (W := 1) (own_rma l Z a0 hw [] a ai ai ad h0 n0 Z0 S_INT S_DOUBLE) hZ (hw _ (List.mem_of_getElem? (i := 19) rfl)) (hw _ (List.mem_of_getElem? (i := 6) rfl)) (by decide) (by decide)) q6a q6c (g := (mkF m 41 #[.val (.int x0), .val (.int kk), .val (.ref a), .val (.int z), .val (.int (if a = ab then 0 else 1))] [(.ref ai), (.ref a), (.int (if a = ab then 0 else 1))])) rfl (by rw [hml]; rfl) (Steps.refl _) (argsL := [(.ref ai)]) (rest := [(.int (if a = ab then 0 else 1))]) (lenOf own_pd2 rfl) rfl (by show 2 * 0 + _ ≤ _; exact Nat.le_of_eq rfl) (hb hby at_41) (fun _ _ => ⟨rfl, e5, (by decide : 0 + 0 ≤ _), (by decide : 0 + 0 ≤ _)⟩)
  dsimp only [Pt.U, Pt.locs, Pt.cells, Pt.slots] at X6 ql6 qy6 qz6 st6 hQ6
  subst ql6 qy6 qz6
  obtain ⟨rfl, Nq6, eq6⟩ := hQ6
  have N6 := Fr.app N4 Nq6
  obtain ⟨fs, hr, hrun, hended, hW, hsame⟩ := X6.leave (v := some (.int (1 : Int32))) (fun h => by rw [Bd.returns] at h; cases h)
  refine ⟨_, _, pre0 _ ?_, hrun, hended, _, _, rfl, ?_, ⟨_, rfl⟩, hW, hsame.mono (by decide) (by decide)⟩
  · show Steps p.tables e below (s₁.setTop (mkF m 0 #[.val (.int x0), .unset, .unset, .unset, .unset] [])) _
    refine st1 _ ?_
    show Steps p.tables e below (T1.setTop (mkF m 7 #[.val (.int x0), .val (.int kk), .unset, .unset, .unset] [])) _
    refine XS.iloadN X1.here hx rfl (hb hby at_7) rfl ?_
    show Steps p.tables e below (T1.setTop (mkF m 8 #[.val (.int x0), .val (.int kk), .unset, .unset, .unset] [(.int kk)])) _
    refine st2 _ ?_
    show Steps p.tables e below (T2.setTop (mkF m 11 #[.val (.int x0), .val (.int kk), .unset, .unset, .unset] [(.ref a)])) _
    refine XS.astoreN X2.here hx rfl (hb hby at_11) rfl rfl (l' := #[.val (.int x0), .val (.int kk), .val (.ref a), .unset, .unset]) rfl ?_
    show Steps p.tables e below (T2.setTop (mkF m 12 #[.val (.int x0), .val (.int kk), .val (.ref a), .unset, .unset] [])) _
    refine st3 _ ?_
    show Steps p.tables e below (T3.setTop (mkF m 23 #[.val (.int x0), .val (.int kk), .val (.ref a), .val (.int z), .unset] [])) _
    refine XS.aloadN X3.here hx rfl (hb hby at_23) rfl rfl ?_
    show Steps p.tables e below (T3.setTop (mkF m 24 #[.val (.int x0), .val (.int kk), .val (.ref a), .val (.int z), .unset] [(.ref a)])) _
    refine st4.trans ?_
    show Steps p.tables e below (T4.setTop (mkF m 27 #[.val (.int x0), .val (.int kk), .val (.ref a), .val (.int z), .unset] [(.int (if a = ab then 0 else 1))])) _
    refine XS.istore X4.here hx rfl (hb hby at_27) rfl (l' := #[.val (.int x0), .val (.int kk), .val (.ref a), .val (.int z), .val (.int (if a = ab then 0 else 1))]) rfl ?_
    show Steps p.tables e below (T4.setTop (mkF m 29 #[.val (.int x0), .val (.int kk), .val (.ref a), .val (.int z), .val (.int (if a = ab then 0 else 1))] [])) _
    refine XS.iload X4.here hx rfl (hb hby at_29) rfl ?_
    show Steps p.tables e below (T4.setTop (mkF m 31 #[.val (.int x0), .val (.int kk), .val (.ref a), .val (.int z), .val (.int (if a = ab then 0 else 1))] [(.int (if a = ab then 0 else 1))])) _
    refine XS.iloadN X4.here hx rfl (hb hby at_31) rfl ?_
    show Steps p.tables e below (T4.setTop (mkF m 32 #[.val (.int x0), .val (.int kk), .val (.ref a), .val (.int z), .val (.int (if a = ab then 0 else 1))] [(.int z), (.int (if a = ab then 0 else 1))])) _
    refine XS.icmpNo X4.here hx rfl (hb hby at_32) rfl (teq (hv : (if a = ab then 0 else 1) = z)).2 ?_
    show Steps p.tables e below (T4.setTop (mkF m 35 #[.val (.int x0), .val (.int kk), .val (.ref a), .val (.int z), .val (.int (if a = ab then 0 else 1))] [])) _
    refine XS.iload X4.here hx rfl (hb hby at_35) rfl ?_
    show Steps p.tables e below (T4.setTop (mkF m 37 #[.val (.int x0), .val (.int kk), .val (.ref a), .val (.int z), .val (.int (if a = ab then 0 else 1))] [(.int (if a = ab then 0 else 1))])) _
    refine XS.aloadN X4.here hx rfl (hb hby at_37) rfl rfl ?_
    show Steps p.tables e below (T4.setTop (mkF m 38 #[.val (.int x0), .val (.int kk), .val (.ref a), .val (.int z), .val (.int (if a = ab then 0 else 1))] [(.ref a), (.int (if a = ab then 0 else 1))])) _
    refine st5 _ ?_
    show Steps p.tables e below (T5.setTop (mkF m 41 #[.val (.int x0), .val (.int kk), .val (.ref a), .val (.int z), .val (.int (if a = ab then 0 else 1))] [(.ref ai), (.ref a), (.int (if a = ab then 0 else 1))])) _
    refine st6.trans ?_
    show Steps p.tables e below (T6.setTop (mkF m 44 #[.val (.int x0), .val (.int kk), .val (.ref a), .val (.int z), .val (.int (if a = ab then 0 else 1))] [(.int (own_acc ai ad a ai)), (.int (if a = ab then 0 else 1))])) _
    refine XS.icmpNo X6.here hx rfl (hb hby at_44) rfl (teq (hv2 : (if a = ab then 0 else 1) = (own_acc ai ad a ai))).2 ?_
    show Steps p.tables e below (T6.setTop (mkF m 47 #[.val (.int x0), .val (.int kk), .val (.ref a), .val (.int z), .val (.int (if a = ab then 0 else 1))] [])) _
    refine XS.iconst X6.here hx rfl (hb hby at_47) ?_
    show Steps p.tables e below (T6.setTop (mkF m 48 #[.val (.int x0), .val (.int kk), .val (.ref a), .val (.int z), .val (.int (if a = ab then 0 else 1))] [(.int (1 : Int32))])) _
    refine XS.goto X6.here hx rfl (pc0 := 48) (pc' := 52) rfl (hb hby at_48) (by decide) (by decide) ?_
    show Steps p.tables e below (T6.setTop (mkF m 52 #[.val (.int x0), .val (.int kk), .val (.ref a), .val (.int z), .val (.int (if a = ab then 0 else 1))] [(.int (1 : Int32))])) _
    exact retN X6 hx (t := .boolean) Bd.returns (by simp) (hb hby at_52) hr
  · show own_QL n0 _ T6.heap _
    exact ⟨rfl, N6⟩
set_option maxRecDepth 65536 in
set_option maxHeartbeats 40000000 in
theorem comes_1 {Post : Tables → Env → Array Value → State → Outcome → State → Prop} (hpost : ∀ tb e args s v u, (limb_1_1.after args s (.returned v) u = true ∧ limb_1_2.after args s (.returned v) u = true ∧ True) → FrameEnd s (.returned v) u (Jvm.fieldLocs frame_1_writes args s ++ Jvm.arrayLocs frame_1_arrays args s ++ Jvm.staticLocs frame_1_statics s) 0 0 → Post tb e args s (.returned v) u) :
    ArmFor flags0 classFile x code maxLocals ret World_1 tables_1 room_1 Calls_1 rest_1 Pre_1 Post := by
  intro l hfl _ _ p e ha hc hk s m args below hf hA hF happ hP
  obtain ⟨hcalls, hrest, hpre⟩ := hP
  obtain ⟨-, -, -, hnamed, -, -, -, hat⟩ := (Spec.applies_iff hf).mp happ
  obtain ⟨hg, hn⟩ := and_e (Cond.before_iff.mp (show (Jvm.Cond.and given_1 narrow_1).before args s = true from hpre))
  obtain ⟨g_n, hg⟩ := and_e hg
  have g_0 := hg
  obtain ⟨w0, rfl⟩ : ∃ w0 : Value, args = #[w0] := by
    have hs : args.size = 1 := by simpa [Cond.value, given_1] using g_n
    obtain ⟨L⟩ := args
    match L, hs with
    | [w0], _ => exact ⟨w0, rfl⟩
  have hw := fun d (hd : d ∈ tables_1) => atoms_spec (ws := Jvm.Cond.code x code maxLocals ret :: tables_1) hat d (List.mem_cons_of_mem _ hd)
  have hfit : Fit s := fun {y c} hc i hi => by
    obtain ⟨ha, rfl⟩ := Array.getElem?_eq_some_iff.mp hc
    have q := List.all_eq_true.mp ((Array.all_eq_true_iff_forall_mem.mp hF) _ (Array.getElem_mem ha)) i (List.mem_range.mpr hi)
    simpa [Array.getElem?_eq_getElem hi] using q
  obtain ⟨i0, ei0⟩ := is_v g_0
  obtain rfl : w0 = (.int i0) := Option.some.inj ei0
  obtain ⟨c0, hn⟩ := and_e hn
  obtain ⟨c1, hn⟩ := and_e hn
  obtain ⟨c2, hn⟩ := and_e hn
  obtain ⟨c3, hn⟩ := and_e hn
  obtain ⟨c4, hn⟩ := and_e hn
  have c5 := hn
  obtain ⟨a_INT, ev_INT⟩ := exa_v c0
  have E_INT := Exa.start ev_INT c0
  have S_INT := Sta.start ev_INT (Or.inr ⟨(hw _ (List.mem_of_getElem? (i := 6) rfl)), (hw _ (List.mem_of_getElem? (i := 7) rfl))⟩)
  obtain ⟨a_BOOL, ev_BOOL⟩ := exa_v c1
  have E_BOOL := Exa.start ev_BOOL c1
  have S_BOOL := Sta.start ev_BOOL (Or.inr ⟨(hw _ (List.mem_of_getElem? (i := 6) rfl)), (hw _ (List.mem_of_getElem? (i := 14) rfl))⟩)
  obtain ⟨a_DOUBLE, ev_DOUBLE⟩ := exa_v c4
  have E_DOUBLE := Exa.start ev_DOUBLE c4
  have S_DOUBLE := Sta.start ev_DOUBLE (Or.inr ⟨(hw _ (List.mem_of_getElem? (i := 6) rfl)), (hw _ (List.mem_of_getElem? (i := 22) rfl))⟩)
  have F_INT_ordinal := Fld.start ((fld_at ev_INT).symm.trans (own_eqI c2))
  have F_BOOL_ordinal := Fld.start ((fld_at ev_BOOL).symm.trans (own_eqI c3))
  have F_DOUBLE_ordinal := Fld.start ((fld_at ev_DOUBLE).symm.trans (own_eqI c5))
  obtain ⟨n, o, h1, h2, h3, _, L, rfl, ⟨rfl, N⟩, hq⟩ := own_rm0 l s _ hw tables_1 i0 a_INT a_DOUBLE a_BOOL s.heap s.heap.size (Nat.le_refl _) S_INT E_INT S_DOUBLE E_DOUBLE S_BOOL E_BOOL (own_ne F_INT_ordinal F_DOUBLE_ordinal (own_nv (by decide))) (own_ne F_INT_ordinal F_BOOL_ordinal (own_nv (by decide))) (own_ne F_DOUBLE_ordinal F_BOOL_ordinal (own_nv (by decide))) p e ha hc hk s m _ below hf ((Spec.applies_iff_loose hf).mp happ).1 ⟨rfl, State.Warmed39.refl s, rfl⟩ trivial
  refine ⟨n, _, h1, h2, h3, hpost _ _ _ _ _ _ ⟨Cond.after_iff.mpr rfl, Cond.after_iff.mpr (eq_i res_at (Term.int_eval (1)) rfl), trivial⟩ ⟨hq.1, hq.2.1, (hq.2.2.sift fun y hy => Or.inr (N y hy)).mono (by decide) (by decide)⟩⟩
theorem main_1_1 : Claimed_1_1 := comes_1 fun _ _ _ _ _ _ h hF => ⟨h.1, hF⟩
theorem main_1_2 : Claimed_1_2 := comes_1 fun _ _ _ _ _ _ h hF => ⟨h.2.1, hF⟩
end Jvm.Pilot.@@N@@
namespace Jvm.Pilot.@@N@@
open Jvm Jvm.ClassFile Sem Op Lib Jvm.Free Jvm.Stand Jvm.Pilot.@@N@@.Jvm.D
/-! MADE BY PROGRAM (witnessworld.py) out of the Statement's table words and the real class files: 12 classes; the members and pool entries that the words name. The judged class is class 1, her method 2. -/
namespace start1
open Jvm.ClassFile
def u (s : String) : CpInfo := .utf8 (stringToUtf16 s)
/-- a pool by its gaps: so many unusable entries, then the entry; so many at the end -/
def gap : Nat → List CpInfo → List CpInfo
  | 0, r => r
  | n + 1, r => .unusable :: gap n r
def poolList (es : List (Nat × CpInfo)) (last : Nat) : List CpInfo := es.foldr (fun e r => gap e.1 (e.2 :: r)) (gap last [])
def pool (es : List (Nat × CpInfo)) (last : Nat) : Array CpInfo := ⟨poolList es last⟩
def fileOf (pool : Array CpInfo) (this : Nat) (attrs : Array Attribute := #[]) (ms : Array MethodInfo := #[]) (fl : Nat := 33) (sup : Nat := 0) (ifs : Array Nat := #[]) (fds : Array FieldInfo := #[]) : ClassFile where
  minorVersion := 0
  majorVersion := 65
  constantPool := pool
  accessFlags := fl
  thisClass := this
  superClass := sup
  interfaces := ifs
  fields := fds
  methods := ms
  attributes := attrs
def plain (name : String) (sup : Option ClassId) : Class where
  name := name
  kind := .ordinary
  loader := none
  accessFlags := 33
  super := sup
  interfaces := #[]
  cf := none
  fields := #[]
  methods := #[]
  instanceTypes := #[]
  staticTypes := #[]
  resolved := #[]
  callSites := []
  init := .initialized
  statics := none
  mirror := none

def pool0 : Array CpInfo := pool [(5, u "<init>"), (0, u "()V"), (1, .class_ 10), (1, u "java/lang/Object")] 113

def k0m0 : Method := { name := "<init>", desc := "()V", sig := { parameters := [], returnType := none }, accessFlags := 1, code := none }
/-- java/lang/Object -/
def k0 : Class := { plain "java/lang/Object" none with
  accessFlags := 33
  interfaces := #[]
  cf := some (fileOf pool0 8 #[] #[{ accessFlags := 1, nameIndex := 5, descriptorIndex := 6, attributes := #[] }] 33 0 #[] #[])
  fields := #[]
  methods := #[k0m0]
  instanceTypes := #[]
  staticTypes := #[]
  resolved := Array.replicate 124 none
  statics := none }

def pool1 : Array CpInfo := pool [(2, .class_ 4), (1, u "java/lang/Object"), (0, u "<init>"), (0, u "()V"), (0, .fieldref 8 9), (0, .class_ 10), (0, .nameAndType 11 12), (0, u "com/example/nuthatch/nuthatch/expressions/Type"), (0, u "INT"), (0, u "Lcom/example/nuthatch/nuthatch/expressions/Type;"), (0, .fieldref 8 14), (0, .nameAndType 15 12), (0, u "DOUBLE"), (0, .fieldref 8 17), (0, .nameAndType 18 12), (0, u "BOOL"), (0, .integer 2147483647), (0, .methodref 21 22), (0, .class_ 23), (0, .nameAndType 24 25), (0, u "com/example/nuthatch/nuthatch/expressions/TypeIsNumericPinLaw"), (0, u "pick"), (0, u "(I)Lcom/example/nuthatch/nuthatch/expressions/Type;"), (0, .methodref 8 27), (0, .nameAndType 28 29), (0, u "isNumeric"), (0, u "()Z"), (0, .methodref 8 31), (0, .nameAndType 32 33), (0, u "accepts"), (0, u "(Lcom/example/nuthatch/nuthatch/expressions/Type;)Z"), (3, u "law"), (0, u "(I)Z")] 2

def k1m0 : Method := { name := "<init>", desc := "()V", sig := { parameters := [], returnType := none }, accessFlags := 2, code := none }
def k1c1 : Code := { maxStack := 2, maxLocals := 1, code := method_2_code, exceptionTable := #[], attributes := #[] }
def k1m1 : Method := { name := "pick", desc := "(I)Lcom/example/nuthatch/nuthatch/expressions/Type;", sig := { parameters := [.int], returnType := some (.object "com/example/nuthatch/nuthatch/expressions/Type") }, accessFlags := 10, code := some k1c1 }
def k1c2 : Code := { maxStack := 3, maxLocals := 5, code := code, exceptionTable := #[], attributes := #[] }
def k1m2 : Method := { name := "law", desc := "(I)Z", sig := { parameters := [.int], returnType := some .boolean }, accessFlags := 9, code := some k1c2 }
/-- com/example/nuthatch/nuthatch/expressions/TypeIsNumericPinLaw -/
def k1 : Class := { plain "com/example/nuthatch/nuthatch/expressions/TypeIsNumericPinLaw" (some 0) with
  accessFlags := 49
  interfaces := #[]
  cf := some (fileOf pool1 21 #[] #[{ accessFlags := 2, nameIndex := 5, descriptorIndex := 6, attributes := #[] }, { accessFlags := 10, nameIndex := 24, descriptorIndex := 25, attributes := #[] }, { accessFlags := 9, nameIndex := 37, descriptorIndex := 38, attributes := #[] }] 49 2 #[] #[])
  fields := #[]
  methods := #[k1m0, k1m1, k1m2]
  instanceTypes := #[]
  staticTypes := #[]
  resolved := Array.replicate 41 none
  statics := none }

def pool2 : Array CpInfo := pool [(1, .class_ 2), (0, u "java/lang/constant/Constable"), (0, .class_ 4), (0, u "java/lang/Object")] 6

/-- java/lang/constant/Constable -/
def k2 : Class := { plain "java/lang/constant/Constable" (some 0) with
  accessFlags := 1537
  interfaces := #[]
  cf := some (fileOf pool2 1 #[] #[] 1537 3 #[] #[])
  fields := #[]
  methods := #[]
  instanceTypes := #[]
  staticTypes := #[]
  resolved := Array.replicate 11 none
  statics := none }

def pool3 : Array CpInfo := pool [(1, .class_ 2), (0, u "java/lang/Comparable"), (0, .class_ 4), (0, u "java/lang/Object")] 7

/-- java/lang/Comparable -/
def k3 : Class := { plain "java/lang/Comparable" (some 0) with
  accessFlags := 1537
  interfaces := #[]
  cf := some (fileOf pool3 1 #[] #[] 1537 3 #[] #[])
  fields := #[]
  methods := #[]
  instanceTypes := #[]
  staticTypes := #[]
  resolved := Array.replicate 12 none
  statics := none }

def pool4 : Array CpInfo := pool [(1, .class_ 2), (0, u "java/io/Serializable"), (0, .class_ 4), (0, u "java/lang/Object")] 2

/-- java/io/Serializable -/
def k4 : Class := { plain "java/io/Serializable" (some 0) with
  accessFlags := 1537
  interfaces := #[]
  cf := some (fileOf pool4 1 #[] #[] 1537 3 #[] #[])
  fields := #[]
  methods := #[]
  instanceTypes := #[]
  staticTypes := #[]
  resolved := Array.replicate 7 none
  statics := none }

def pool5 : Array CpInfo := pool [(2, .class_ 4), (1, u "java/lang/Enum"), (0, u "name"), (0, u "Ljava/lang/String;"), (2, u "ordinal"), (0, u "I"), (1, .class_ 14), (1, u "java/lang/Object"), (4, u "hash"), (86, .class_ 108), (1, u "java/lang/Enum$EnumDesc"), (2, .class_ 112), (0, u "java/lang/constant/Constable"), (0, .class_ 114), (0, u "java/lang/Comparable"), (0, .class_ 116), (0, u "java/io/Serializable")] 87

/-- java/lang/Enum -/
def k5 : Class := { plain "java/lang/Enum" (some 0) with
  accessFlags := 1057
  interfaces := #[2, 3, 4]
  cf := some (fileOf pool5 2 #[.nestMembers #[106]] #[] 1057 12 #[111, 113, 115] #[{ accessFlags := 18, nameIndex := 5, descriptorIndex := 6, attributes := #[] }, { accessFlags := 18, nameIndex := 9, descriptorIndex := 10, attributes := #[] }, { accessFlags := 2, nameIndex := 19, descriptorIndex := 10, attributes := #[] }])
  fields := #[{ name := "name", type := (.object "java/lang/String"), accessFlags := 18, slot := 0, constantValue := 0 }, { name := "ordinal", type := .int, accessFlags := 18, slot := 1, constantValue := 0 }, { name := "hash", type := .int, accessFlags := 2, slot := 2, constantValue := 0 }]
  methods := #[]
  instanceTypes := #[(.object "java/lang/String"), .int, .int]
  staticTypes := #[]
  resolved := Array.replicate 204 none
  statics := none }

def pool6 : Array CpInfo := pool [(1, .class_ 2), (0, u "com/example/nuthatch/nuthatch/expressions/Type"), (0, .fieldref 1 4), (0, .nameAndType 5 6), (0, u "INT"), (0, u "Lcom/example/nuthatch/nuthatch/expressions/Type;"), (0, .fieldref 1 8), (0, .nameAndType 9 6), (0, u "DOUBLE"), (0, .fieldref 1 11), (0, .nameAndType 12 6), (0, u "BOOL"), (2, u "$VALUES"), (0, u "[Lcom/example/nuthatch/nuthatch/expressions/Type;"), (6, .class_ 25), (1, u "java/lang/Enum"), (8, u "keyword"), (0, u "Ljava/lang/String;"), (25, u "isNumeric"), (0, u "()Z"), (1, u "accepts"), (0, u "(Lcom/example/nuthatch/nuthatch/expressions/Type;)Z")] 5

def k6c0 : Code := { maxStack := 2, maxLocals := 1, code := prog_59_method_5_code, exceptionTable := #[], attributes := #[] }
def k6m0 : Method := { name := "isNumeric", desc := "()Z", sig := { parameters := [], returnType := some .boolean }, accessFlags := 1, code := some k6c0 }
def k6c1 : Code := { maxStack := 2, maxLocals := 2, code := prog_59_method_6_code, exceptionTable := #[], attributes := #[] }
def k6m1 : Method := { name := "accepts", desc := "(Lcom/example/nuthatch/nuthatch/expressions/Type;)Z", sig := { parameters := [(.object "com/example/nuthatch/nuthatch/expressions/Type")], returnType := some .boolean }, accessFlags := 1, code := some k6c1 }
/-- com/example/nuthatch/nuthatch/expressions/Type -/
def k6 : Class := { plain "com/example/nuthatch/nuthatch/expressions/Type" (some 5) with
  accessFlags := 16433
  interfaces := #[]
  cf := some (fileOf pool6 1 #[] #[{ accessFlags := 1, nameIndex := 61, descriptorIndex := 62, attributes := #[] }, { accessFlags := 1, nameIndex := 64, descriptorIndex := 65, attributes := #[] }] 16433 23 #[] #[{ accessFlags := 16409, nameIndex := 5, descriptorIndex := 6, attributes := #[] }, { accessFlags := 16409, nameIndex := 9, descriptorIndex := 6, attributes := #[] }, { accessFlags := 16409, nameIndex := 12, descriptorIndex := 6, attributes := #[] }, { accessFlags := 18, nameIndex := 34, descriptorIndex := 35, attributes := #[] }, { accessFlags := 4122, nameIndex := 15, descriptorIndex := 16, attributes := #[] }])
  fields := #[{ name := "INT", type := (.object "com/example/nuthatch/nuthatch/expressions/Type"), accessFlags := 16409, slot := 0, constantValue := 0 }, { name := "DOUBLE", type := (.object "com/example/nuthatch/nuthatch/expressions/Type"), accessFlags := 16409, slot := 1, constantValue := 0 }, { name := "BOOL", type := (.object "com/example/nuthatch/nuthatch/expressions/Type"), accessFlags := 16409, slot := 2, constantValue := 0 }, { name := "keyword", type := (.object "java/lang/String"), accessFlags := 18, slot := 3, constantValue := 0 }, { name := "$VALUES", type := (.array (.object "com/example/nuthatch/nuthatch/expressions/Type")), accessFlags := 4122, slot := 3, constantValue := 0 }]
  methods := #[k6m0, k6m1]
  instanceTypes := #[(.object "java/lang/String"), .int, .int, (.object "java/lang/String")]
  staticTypes := #[(.object "com/example/nuthatch/nuthatch/expressions/Type"), (.object "com/example/nuthatch/nuthatch/expressions/Type"), (.object "com/example/nuthatch/nuthatch/expressions/Type"), (.array (.object "com/example/nuthatch/nuthatch/expressions/Type"))]
  resolved := Array.replicate 71 none
  statics := some 0 }

def pool7 : Array CpInfo := pool [(1, u "java/lang/Cloneable"), (0, .class_ 1), (0, u "java/lang/Object"), (0, .class_ 3)] 3

/-- java/lang/Cloneable -/
def k7 : Class := { plain "java/lang/Cloneable" (some 0) with
  accessFlags := 1537
  interfaces := #[]
  cf := some (fileOf pool7 2 #[] #[] 1537 4 #[] #[])
  fields := #[]
  methods := #[]
  instanceTypes := #[]
  staticTypes := #[]
  resolved := Array.replicate 8 none
  statics := none }

/-- the primitive byte -/
def k8 : Class := { plain "byte" none with kind := .primitive 'B', accessFlags := 0x411 }
/-- [B -/
def k9 : Class := { plain "[B" (some 0) with kind := .array 8 .byte, interfaces := #[7, 4], accessFlags := 1041 }

/-- the primitive int -/
def k10 : Class := { plain "int" none with kind := .primitive 'I', accessFlags := 0x411 }
/-- [I -/
def k11 : Class := { plain "[I" (some 0) with kind := .array 10 .int, interfaces := #[7, 4], accessFlags := 1041 }

def heap : Heap := #[{ cls := 6, slots := #[.ref 1, .ref 2, .ref 3, .null], vm := .statics 6 },
  { cls := 6, slots := #[.null, .int 0, .int 0, .null], vm := .none },
  { cls := 6, slots := #[.null, .int 1, .int 0, .null], vm := .none },
  { cls := 6, slots := #[.null, .int 2, .int 0, .null], vm := .none }]
def classes : Array Class := #[k0, k1, k2, k3, k4, k5, k6, k7, k8, k9, k10, k11]
def interned : List (Array UInt16 × Addr) := []
def slotsUsed : Nat := 16
def theMethod : MethodId := ⟨1, 2⟩
def args0 : Array Value := #[.int 5]
def aboutOver (below : List Frame) : State where
  vm := { classes := classes, interned := interned.toArray }
  heap := heap
  slotsUsed := slotsUsed
  threads := #[{ frames := .invoking theMethod args0 :: below }]
def below0 : List Frame := [.native { method := ⟨0, 0⟩, args := #[] }]
def about1 : State := aboutOver below0
def p0 : Program := .bare "" "" ""
def e0 : Env := launch0.env 0 0 0
theorem w_frames : about1.frames = Frame.invoking theMethod args0 :: below0 := rfl
set_option maxRecDepth 65536 in
theorem w_args : argsFit about1.vm theMethod args0 = true := by decide +kernel
set_option maxRecDepth 65536 in
theorem w_heap : heapFits about1 = true := by decide +kernel
set_option maxRecDepth 65536 in
theorem w_runnable : about1.curStatus? = some .runnable := by decide +kernel
set_option maxRecDepth 65536 in
theorem w_alone : about1.alone = true := by decide +kernel
set_option maxRecDepth 65536 in
theorem w_named : about1.methodNamed? x = some theMethod := by decide +kernel
set_option maxRecDepth 65536 in
theorem w_hears : about1.hears theMethod below0 = true := by decide +kernel
set_option maxRecDepth 65536 in
theorem w_ripe : about1.ripe theMethod args0 below0 = true := by decide +kernel
theorem w_running : about1.status = .running := rfl
set_option maxRecDepth 65536 in
theorem w_room : about1.hasRoom e0.platform room_1 = true :=
  launch0.hasRoom_least _ room_1 (by decide +kernel) (by decide +kernel) (by decide +kernel) (by decide +kernel) (by decide +kernel) (by decide +kernel)
theorem allAtoms_all (ts : List Jvm.Cond) (a : Array Jvm.Value) (st : Jvm.State) : (allAtoms ts).before a st = ts.all (fun c => c.before a st) := by
  induction ts with
  | nil => rfl
  | cons c t ih =>
    show (Jvm.Cond.and c (allAtoms t)).before a st = _
    rw [Jvm.Cond.before_and, ih, List.all_cons]
def words1 : List Jvm.Cond := Jvm.Cond.code x code maxLocals ret :: tables_1
/-- a 'code' word, met by the world's own term for the bytes: nothing is compared byte by byte -/
theorem code_word {y : MethodName} {bytes : ByteArray} {mx : Nat} {rt : Option FieldType} {a : Array Value} {s : State} {m : MethodId} {meth : Method} {c : Code} (h1 : s.methodNamed? y = some m) (h2 : s.vm.method? m = some meth) (h3 : meth.code = some c) (h4 : c.code = bytes)
    (h5 : (c.maxLocals == mx && c.exceptionTable.isEmpty && decide (c.maxStack ≤ mostOperands) && decide (meth.sig.returnType = rt) && !meth.locks && decide (parseMethodDescriptor y.desc = some meth.sig)) = true) : (Jvm.Cond.code y bytes mx rt).before a s = true := by
  simp only [Bool.and_eq_true, beq_iff_eq, Bool.not_eq_true', decide_eq_true_eq] at h5
  obtain ⟨⟨⟨⟨⟨g1, g2⟩, g3⟩, g4⟩, g5⟩, g6⟩ := h5
  simp [Cond.before, Cond.holds, Cond.value, h1, h2, h3, h4, g1, g2, g3, g4, g5, g6]
def isCode : Jvm.Cond → Bool
  | .code _ _ _ _ => true
  | _ => false
theorem all_split {L : List Jvm.Cond} {P : Jvm.Cond → Bool} (h1 : L.all (fun c => isCode c || P c) = true) (h2 : ∀ c ∈ L.filter isCode, P c = true) : L.all P = true := by
  refine List.all_eq_true.mpr fun c hc => ?_
  have h := List.all_eq_true.mp h1 c hc
  rcases Bool.eq_false_or_eq_true (isCode c) with hi | hi
  · exact h2 c (List.mem_filter.mpr ⟨hc, hi⟩)
  · simpa [hi] using h
set_option maxRecDepth 65536 in
theorem w_c0 : (Jvm.Cond.code x code maxLocals ret).before args0 about1 = true := code_word (m := ⟨1, 2⟩) (meth := k1m2) (c := k1c2) (by decide +kernel) rfl rfl rfl (by decide +kernel)
set_option maxRecDepth 65536 in
theorem w_c1 : (Jvm.Cond.code ({ cls := "com/example/nuthatch/nuthatch/expressions/TypeIsNumericPinLaw", name := "pick", desc := "(I)Lcom/example/nuthatch/nuthatch/expressions/Type;" } : Jvm.MethodName) method_2_code (1 : Nat) (Option.some (Jvm.ClassFile.FieldType.object "com/example/nuthatch/nuthatch/expressions/Type"))).before args0 about1 = true := code_word (m := ⟨1, 1⟩) (meth := k1m1) (c := k1c1) (by decide +kernel) rfl rfl rfl (by decide +kernel)
set_option maxRecDepth 65536 in
theorem w_c2 : (Jvm.Cond.code ({ cls := "com/example/nuthatch/nuthatch/expressions/Type", name := "isNumeric", desc := "()Z" } : Jvm.MethodName) prog_59_method_5_code (1 : Nat) (Option.some Jvm.ClassFile.FieldType.boolean)).before args0 about1 = true := code_word (m := ⟨6, 0⟩) (meth := k6m0) (c := k6c0) (by decide +kernel) rfl rfl rfl (by decide +kernel)
set_option maxRecDepth 65536 in
theorem w_c3 : (Jvm.Cond.code ({ cls := "com/example/nuthatch/nuthatch/expressions/Type", name := "accepts", desc := "(Lcom/example/nuthatch/nuthatch/expressions/Type;)Z" } : Jvm.MethodName) prog_59_method_6_code (2 : Nat) (Option.some Jvm.ClassFile.FieldType.boolean)).before args0 about1 = true := code_word (m := ⟨6, 1⟩) (meth := k6m1) (c := k6c1) (by decide +kernel) rfl rfl rfl (by decide +kernel)
def codes1 : List Jvm.Cond := [Jvm.Cond.code x code maxLocals ret, Jvm.Cond.code ({ cls := "com/example/nuthatch/nuthatch/expressions/TypeIsNumericPinLaw", name := "pick", desc := "(I)Lcom/example/nuthatch/nuthatch/expressions/Type;" } : Jvm.MethodName) method_2_code (1 : Nat) (Option.some (Jvm.ClassFile.FieldType.object "com/example/nuthatch/nuthatch/expressions/Type")), Jvm.Cond.code ({ cls := "com/example/nuthatch/nuthatch/expressions/Type", name := "isNumeric", desc := "()Z" } : Jvm.MethodName) prog_59_method_5_code (1 : Nat) (Option.some Jvm.ClassFile.FieldType.boolean), Jvm.Cond.code ({ cls := "com/example/nuthatch/nuthatch/expressions/Type", name := "accepts", desc := "(Lcom/example/nuthatch/nuthatch/expressions/Type;)Z" } : Jvm.MethodName) prog_59_method_6_code (2 : Nat) (Option.some Jvm.ClassFile.FieldType.boolean)]
set_option maxRecDepth 65536 in
theorem codes_eq : words1.filter isCode = codes1 := rfl
theorem w_codes : ∀ c ∈ words1.filter isCode, c.before args0 about1 = true := by
  rw [codes_eq]
  intro c hc
  simp only [codes1, List.mem_cons, List.not_mem_nil, or_false] at hc
  rcases hc with rfl | rfl | rfl | rfl
  · exact w_c0
  · exact w_c1
  · exact w_c2
  · exact w_c3
set_option maxRecDepth 65536 in
theorem w_t1 : (words1.take 24).all (fun c => isCode c || c.before args0 about1) = true := by decide +kernel
set_option maxRecDepth 65536 in
theorem w_t2 : (words1.drop 24).all (fun c => isCode c || c.before args0 about1) = true := by decide +kernel
theorem w_tables : (allAtoms (Jvm.Cond.code x code maxLocals ret :: tables_1)).before args0 about1 = true := by
  rw [allAtoms_all]
  show words1.all (fun c => c.before args0 about1) = true
  refine all_split ?_ w_codes
  rw [← List.take_append_drop 24 words1, List.all_append, w_t1, w_t2]
  rfl
set_option maxRecDepth 65536 in
theorem w_case : (Jvm.Cond.and given_1 narrow_1).before args0 about1 = true := by decide +kernel
theorem w_applies : (headSpec (Jvm.Cond.code x code maxLocals ret :: tables_1) room_1).applies x e0.platform about1 = true :=
  (Spec.applies_iff w_frames).mpr ⟨w_running, w_runnable, w_alone, w_named, w_hears, w_ripe, w_room, w_tables⟩
theorem atStart : AtStart classFile x code maxLocals ret World_1 tables_1 room_1 Calls_1 rest_1 Pre_1 launch0 p0 e0 about1 theMethod args0 below0 :=
  ⟨lists_1, trivial, launch0.admits_env _ _ _, launch0.least_env, fairChoices_fair.cas, fairChoices_fair.clock, w_frames, w_args, w_heap, w_applies, trivial, trivial, w_case⟩
end start1
theorem witness_1 : WitnessClaimed_1 := ⟨start1.p0, start1.e0, start1.about1, start1.theMethod, start1.args0, start1.below0, start1.atStart⟩
end Jvm.Pilot.@@N@@
