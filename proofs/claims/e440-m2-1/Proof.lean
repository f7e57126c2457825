import JvmDerived
import JvmDerived.Pilot.@@N@@Statement
import JvmDerived.Pilot.@@N@@Code
set_option linter.unusedVariables false
set_option linter.unusedSimpArgs false
namespace Jvm.RoadKit
open Sem ClassFile Op Lib Jvm.Stand Jvm.Free Jvm.LawKit
section New
variable {p : Program} {l : Launch} {e : Env} {R : Room} {s : State} {m : MethodId} {args : Array Value} {below : List Frame} {meth : Method} {c : Code} {T : State} {locs : List Loc} {cells slots : Nat}
theorem retI (X : Stand p l e R s m args below meth c T locs cells slots) (hx : p.tables.exec = Jvm.exec) {pc : Nat} {Ls : Array Slot} {z : Int32} {rest : List Value} (hret : meth.sig.returnType = some .int) (hd : decode c.code pc = .ok (.ireturn, 1)) {fs : List Frame}
    (hl : ∀ (f : JFrame) (acts : List Action), f.method = m → f.locked = none → f.entered = [] → (doReturn e (T.setTop f) acts (some (.int z))).1 = T.setFrames fs) : Steps p.tables e below (T.setTop (mkF m pc Ls (.int z :: rest))) (T.setFrames fs) := by
  have hm' : T.vm.method? m = some meth := X.method'
  have hn : narrow .int (.int z) = .int z := rfl
  show Steps p.tables e below (T.setTop { method := m, pc := pc, locals := Ls, stack := _ :: rest, locked := none }) _
  jvm_step X.here [X.here.top, hx, hd, hm', hret, hn]
  first | (intro acts; rw [hl _ acts rfl rfl rfl]) | rw [hl _ _ rfl rfl rfl]
  exact Steps.refl _
end New
end Jvm.RoadKit
namespace Jvm.Pilot.@@N@@
open Jvm Jvm.ClassFile Sem Op Lib Jvm.Free Jvm.Stand Jvm.LawKit Jvm.RoadKit Bundle Jvm.Pilot.@@N@@.Jvm.D
/-- what a callee leaves that writes nothing: it returns r, the heap is as it was -/
def own_QP (r : Option Value) (h0 : Heap) (n0 : Nat) (v : Option Value) (h : Heap) (L : List Loc) : Prop := v = r ∧ Fr n0 L ∧ h = h0
/-- what the law leaves -/
def own_QL (n0 : Nat) (v : Option Value) (h : Heap) (L : List Loc) : Prop := v = some (.int 1) ∧ Fr n0 L
theorem own_eqI {args : Array Value} {first s : State} {o : Option Outcome} {idx : List Nat} {t : Term} {k : Int32} (h : (Jvm.Cond.eq t (.int k)).value args first o s idx = some true) : t.eval args first o idx s = some (.int k) := by
  obtain ⟨x, y, h1, h2, h3, h4⟩ := cmp_v (Or.inl h)
  have e2 : y = .int k := (Option.some.inj (h2.symm.trans (Term.int_eval k)))
  subst e2
  obtain ⟨z, rfl⟩ : ∃ z, x = .int z := h4
  rw [h1]
  have q : (Jvm.Cond.eq t (.int k)).value args first o s idx = some (decide (z = k)) := Cond.eq_ints h1 h2
  rw [gotT q h]
theorem own_ne {Z : State} {h : Heap} {a b : Addr} {C n d : String} {v w : Value} (F : Fld Z h a C n d v) (G : Fld Z h b C n d w) (hv : v ≠ w) : ¬ a = b := fun e => by
  subst e
  obtain ⟨cell, cf, k, i, f, h1, h2, -, -, -, -, h7⟩ := F
  obtain ⟨cell', cf', k', i', f', g1, g2, -, -, -, -, g7⟩ := G
  cases h1.symm.trans g1
  cases h2.symm.trans g2
  cases h7.symm.trans g7
  exact hv rfl
theorem own_sm {a b : Addr} (h : a = b) : decide ((.ref a : Value) = .ref b) = true := decide_eq_true (congrArg Value.ref h)
theorem own_df {a b : Addr} (h : ¬ a = b) : decide ((.ref a : Value) = .ref b) = false := decide_eq_false fun q => h (Value.ref.inj q)
theorem own_nv {x y : Int32} (h : x ≠ y) : (Value.int x) ≠ .int y := fun q => h (Value.int.inj q)
theorem own_c2 (P Q : Prop) [Decidable P] [Decidable Q] : P ∨ (¬ P ∧ Q) ∨ (¬ P ∧ ¬ Q) := by
  by_cases p : P
  · exact Or.inl p
  · by_cases q : Q
    · exact Or.inr (Or.inl ⟨p, q⟩)
    · exact Or.inr (Or.inr ⟨p, q⟩)
theorem own_ef0 (m : MethodId) (x0 : Addr) (x1 : Addr) : entryFrame m #[(.ref x0), (.ref x1)] 2 = mkF m 0 #[.val (.ref x0), .val (.ref x1)] [] := by first | (simp [entryFrame, mkF, argsToLocals, Value.category]; done) | rfl
theorem own_pn0 : plainName "com/example/chiron/chiron/sql/LockingClause$Strength" = true := by first | (simp [plainName, overriddenIn]; done) | decide +kernel
theorem own_d_prog_82_method_5_code_0 : decode prog_82_method_5_code 0 = .ok (.aload_n 0, 1) := by decide +kernel
theorem own_d_prog_82_method_5_code_1 : decode prog_82_method_5_code 1 = .ok (.getstatic 7, 3) := by decide +kernel
theorem own_d_prog_82_method_5_code_4 : decode prog_82_method_5_code 4 = .ok (.if_acmp .eq 10, 3) := by decide +kernel
theorem own_d_prog_82_method_5_code_7 : decode prog_82_method_5_code 7 = .ok (.aload_n 1, 1) := by decide +kernel
theorem own_d_prog_82_method_5_code_8 : decode prog_82_method_5_code 8 = .ok (.getstatic 7, 3) := by decide +kernel
theorem own_d_prog_82_method_5_code_11 : decode prog_82_method_5_code 11 = .ok (.if_acmp .ne 7, 3) := by decide +kernel
theorem own_d_prog_82_method_5_code_14 : decode prog_82_method_5_code 14 = .ok (.iconst 1, 1) := by decide +kernel
theorem own_d_prog_82_method_5_code_15 : decode prog_82_method_5_code 15 = .ok (.goto 4, 3) := by decide +kernel
theorem own_d_prog_82_method_5_code_18 : decode prog_82_method_5_code 18 = .ok (.iconst 0, 1) := by decide +kernel
theorem own_d_prog_82_method_5_code_19 : decode prog_82_method_5_code 19 = .ok (.ireturn, 1) := by decide +kernel
theorem own_ef1 (m : MethodId) (x0 : Int32) (x1 : Int32) : entryFrame m #[(.int x0), (.int x1)] maxLocals = mkF m 0 #[.val (.int x0), .val (.int x1), .unset, .unset, .unset, .unset, .unset] [] := by first | (simp [entryFrame, mkF, argsToLocals, Value.category, maxLocals]; done) | rfl
theorem own_pn1 : plainName "com/example/chiron/chiron/sql/StrengthConflictsWithPinLaw" = true := by first | (simp [plainName, overriddenIn]; done) | decide +kernel
theorem own_pd0 : parseMethodDescriptor "(Lcom/example/chiron/chiron/sql/LockingClause$Strength;)Z" = some ⟨[(.object "com/example/chiron/chiron/sql/LockingClause$Strength")], some .boolean⟩ := by decide +kernel
set_option maxRecDepth 65536 in
set_option maxHeartbeats 40000000 in
theorem own_rm1 (l : Launch) (Z : State) (a0 : Array Value) (hw : ∀ d ∈ tables_1, d.before a0 Z = true) (ws : List Jvm.Cond) (a b w : Addr) (h0 : Heap) (n0 : Nat) (Z0 : n0 ≤ h0.size) (S_UPDATE : Sta Z h0 "com/example/chiron/chiron/sql/LockingClause$Strength" "UPDATE" "Lcom/example/chiron/chiron/sql/LockingClause$Strength;" (.ref w)) :
    MetFree l (⟨"com/example/chiron/chiron/sql/LockingClause$Strength", "conflictsWith", "(Lcom/example/chiron/chiron/sql/LockingClause$Strength;)Z"⟩ : MethodName) (head1 (Jvm.Cond.code (⟨"com/example/chiron/chiron/sql/LockingClause$Strength", "conflictsWith", "(Lcom/example/chiron/chiron/sql/LockingClause$Strength;)Z"⟩ : MethodName) prog_82_method_5_code 2 (some .boolean) :: ws) ({ frames := 0, cells := 0, slots := 0, locals := 0 } : Room)) (fun a_ U_ => a_ = #[(.ref a), (.ref b)] ∧ Z.Warmed39 U_.vm ∧ U_.heap = h0) (fun _ _ _ _ _ => True) (fun _ U_ o_ U_' => ∃ v_ L_, o_ = .returned v_ ∧ own_QP (some (.int (if a = w ∨ b = w then 1 else 0))) h0 n0 v_ U_'.heap L_ ∧ FrameEnd U_ o_ U_' L_ ({ frames := 0, cells := 0, slots := 0, locals := 0 } : Room).cells ({ frames := 0, cells := 0, slots := 0, locals := 0 } : Room).slots) := by
  refine MetFree.of_bodySF (plainFor_of_name own_pn0) hisR ?_
  intro p e s m args below meth c s₁ Bd hml0 hP hK
  obtain ⟨rfl, hZ, hh⟩ := hP
  have hx := Bd.exec
  have hby := Bd.bytes
  have hml : c.maxLocals = 2 := hml0
  have hown : s.vm.findClass "com/example/chiron/chiron/sql/LockingClause$Strength" = some m.cls := findClass_of_methodNamed Bd.named
  have hnm := (name_of_methodNamed Bd.named Bd.method).1
  have X0 : Stand p l e ({ frames := 0, cells := 0, slots := 0, locals := 0 } : Room) s m #[(.ref a), (.ref b)] below meth c s₁ [] 0 0 := Stand.of_body Bd
  have e0 : s₁.heap = h0 := by rw [← hh, Bd.state]; rfl
  have N0 := Fr.nil n0
  have pre0 : ∀ t, Steps p.tables e below (s₁.setTop (mkF m 0 #[.val (.ref a), .val (.ref b)] [])) t → Steps p.tables e below (s₁.setTop (entryFrame m #[(.ref a), (.ref b)] 2)) t := fun t_ k_ => castTop (own_ef0 m a b) k_
  rcases own_c2 (a = w) (b = w) with ha | ⟨ha, hq⟩ | ⟨ha, hq⟩
  · obtain ⟨T1, X1, e1, st1⟩ := getS2 X0 hx hZ hown (host := "") (Or.inl (hw _ (List.mem_of_getElem? (i := 10) rfl))) Via.refl e0 S_UPDATE (g := (mkF m 1 #[.val (.ref a), .val (.ref b)] [(.ref a)])) rfl (hb hby own_d_prog_82_method_5_code_1)
    obtain ⟨fs, hr, hrun, hended, hW, hsame⟩ := X1.leave (v := some (.int (1 : Int32))) (fun h => by rw [Bd.returns] at h; cases h)
    refine ⟨_, _, pre0 _ ?_, hrun, hended, _, _, rfl, ?_, ⟨_, rfl⟩, hW, hsame.mono (by decide) (by decide)⟩
    · show Steps p.tables e below (s₁.setTop (mkF m 0 #[.val (.ref a), .val (.ref b)] [])) _
      refine XS.aloadN X0.here hx rfl (hb hby own_d_prog_82_method_5_code_0) rfl rfl ?_
      show Steps p.tables e below (s₁.setTop (mkF m 1 #[.val (.ref a), .val (.ref b)] [(.ref a)])) _
      refine st1 _ ?_
      show Steps p.tables e below (T1.setTop (mkF m 4 #[.val (.ref a), .val (.ref b)] [(.ref w), (.ref a)])) _
      refine Jvm.RoadKit.acmp (g := (mkF m 4 #[.val (.ref a), .val (.ref b)] [(.ref w), (.ref a)])) X1 hx rfl (x := (.ref a)) (y := (.ref w)) rfl rfl (pc0 := 4) (pc' := 14) (same := true) rfl (hb hby own_d_prog_82_method_5_code_4) rfl (own_sm ha) (by decide) (by decide) ?_
      show Steps p.tables e below (T1.setTop (mkF m 14 #[.val (.ref a), .val (.ref b)] [])) _
      refine XS.iconst X1.here hx rfl (hb hby own_d_prog_82_method_5_code_14) ?_
      show Steps p.tables e below (T1.setTop (mkF m 15 #[.val (.ref a), .val (.ref b)] [(.int (1 : Int32))])) _
      refine XS.goto X1.here hx rfl (pc0 := 15) (pc' := 19) rfl (hb hby own_d_prog_82_method_5_code_15) (by decide) (by decide) ?_
      show Steps p.tables e below (T1.setTop (mkF m 19 #[.val (.ref a), .val (.ref b)] [(.int (1 : Int32))])) _
      exact retN X1 hx (t := .boolean) Bd.returns (by simp) (hb hby own_d_prog_82_method_5_code_19) hr
    · show own_QP (some (.int (if a = w ∨ b = w then 1 else 0))) h0 n0 _ T1.heap _
      exact ⟨by rw [if_pos (Or.inl ha)], N0, e1⟩
  · obtain ⟨T2, X2, e2, st2⟩ := getS2 X0 hx hZ hown (host := "") (Or.inl (hw _ (List.mem_of_getElem? (i := 10) rfl))) Via.refl e0 S_UPDATE (g := (mkF m 1 #[.val (.ref a), .val (.ref b)] [(.ref a)])) rfl (hb hby own_d_prog_82_method_5_code_1)
    obtain ⟨T3, X3, e3, st3⟩ := getS2 X2 hx hZ hown (host := "") (Or.inl (hw _ (List.mem_of_getElem? (i := 10) rfl))) Via.refl e2 S_UPDATE (g := (mkF m 8 #[.val (.ref a), .val (.ref b)] [(.ref b)])) rfl (hb hby own_d_prog_82_method_5_code_8)
    obtain ⟨fs, hr, hrun, hended, hW, hsame⟩ := X3.leave (v := some (.int (1 : Int32))) (fun h => by rw [Bd.returns] at h; cases h)
    refine ⟨_, _, pre0 _ ?_, hrun, hended, _, _, rfl, ?_, ⟨_, rfl⟩, hW, hsame.mono (by decide) (by decide)⟩
    · show Steps p.tables e below (s₁.setTop (mkF m 0 #[.val (.ref a), .val (.ref b)] [])) _
      refine XS.aloadN X0.here hx rfl (hb hby own_d_prog_82_method_5_code_0) rfl rfl ?_
      show Steps p.tables e below (s₁.setTop (mkF m 1 #[.val (.ref a), .val (.ref b)] [(.ref a)])) _
      refine st2 _ ?_
      show Steps p.tables e below (T2.setTop (mkF m 4 #[.val (.ref a), .val (.ref b)] [(.ref w), (.ref a)])) _
      refine Jvm.RoadKit.acmp (g := (mkF m 4 #[.val (.ref a), .val (.ref b)] [(.ref w), (.ref a)])) X2 hx rfl (x := (.ref a)) (y := (.ref w)) rfl rfl (pc0 := 4) (pc' := 7) (same := false) rfl (hb hby own_d_prog_82_method_5_code_4) rfl (own_df ha) (by decide) (by decide) ?_
      show Steps p.tables e below (T2.setTop (mkF m 7 #[.val (.ref a), .val (.ref b)] [])) _
      refine XS.aloadN X2.here hx rfl (hb hby own_d_prog_82_method_5_code_7) rfl rfl ?_
      show Steps p.tables e below (T2.setTop (mkF m 8 #[.val (.ref a), .val (.ref b)] [(.ref b)])) _
      refine st3 _ ?_
      show Steps p.tables e below (T3.setTop (mkF m 11 #[.val (.ref a), .val (.ref b)] [(.ref w), (.ref b)])) _
      refine Jvm.RoadKit.acmp (g := (mkF m 11 #[.val (.ref a), .val (.ref b)] [(.ref w), (.ref b)])) X3 hx rfl (x := (.ref b)) (y := (.ref w)) rfl rfl (pc0 := 11) (pc' := 14) (same := true) rfl (hb hby own_d_prog_82_method_5_code_11) rfl (own_sm hq) (by decide) (by decide) ?_
      show Steps p.tables e below (T3.setTop (mkF m 14 #[.val (.ref a), .val (.ref b)] [])) _
      refine XS.iconst X3.here hx rfl (hb hby own_d_prog_82_method_5_code_14) ?_
      show Steps p.tables e below (T3.setTop (mkF m 15 #[.val (.ref a), .val (.ref b)] [(.int (1 : Int32))])) _
      refine XS.goto X3.here hx rfl (pc0 := 15) (pc' := 19) rfl (hb hby own_d_prog_82_method_5_code_15) (by decide) (by decide) ?_
      show Steps p.tables e below (T3.setTop (mkF m 19 #[.val (.ref a), .val (.ref b)] [(.int (1 : Int32))])) _
      exact retN X3 hx (t := .boolean) Bd.returns (by simp) (hb hby own_d_prog_82_method_5_code_19) hr
    · show own_QP (some (.int (if a = w ∨ b = w then 1 else 0))) h0 n0 _ T3.heap _
      exact ⟨by rw [if_pos (Or.inr hq)], N0, e3⟩
  · obtain ⟨T4, X4, e4, st4⟩ := getS2 X0 hx hZ hown (host := "") (Or.inl (hw _ (List.mem_of_getElem? (i := 10) rfl))) Via.refl e0 S_UPDATE (g := (mkF m 1 #[.val (.ref a), .val (.ref b)] [(.ref a)])) rfl (hb hby own_d_prog_82_method_5_code_1)
    obtain ⟨T5, X5, e5, st5⟩ := getS2 X4 hx hZ hown (host := "") (Or.inl (hw _ (List.mem_of_getElem? (i := 10) rfl))) Via.refl e4 S_UPDATE (g := (mkF m 8 #[.val (.ref a), .val (.ref b)] [(.ref b)])) rfl (hb hby own_d_prog_82_method_5_code_8)
    obtain ⟨fs, hr, hrun, hended, hW, hsame⟩ := X5.leave (v := some (.int (0 : Int32))) (fun h => by rw [Bd.returns] at h; cases h)
    refine ⟨_, _, pre0 _ ?_, hrun, hended, _, _, rfl, ?_, ⟨_, rfl⟩, hW, hsame.mono (by decide) (by decide)⟩
    · show Steps p.tables e below (s₁.setTop (mkF m 0 #[.val (.ref a), .val (.ref b)] [])) _
      refine XS.aloadN X0.here hx rfl (hb hby own_d_prog_82_method_5_code_0) rfl rfl ?_
      show Steps p.tables e below (s₁.setTop (mkF m 1 #[.val (.ref a), .val (.ref b)] [(.ref a)])) _
      refine st4 _ ?_
      show Steps p.tables e below (T4.setTop (mkF m 4 #[.val (.ref a), .val (.ref b)] [(.ref w), (.ref a)])) _
      refine Jvm.RoadKit.acmp (g := (mkF m 4 #[.val (.ref a), .val (.ref b)] [(.ref w), (.ref a)])) X4 hx rfl (x := (.ref a)) (y := (.ref w)) rfl rfl (pc0 := 4) (pc' := 7) (same := false) rfl (hb hby own_d_prog_82_method_5_code_4) rfl (own_df ha) (by decide) (by decide) ?_
      show Steps p.tables e below (T4.setTop (mkF m 7 #[.val (.ref a), .val (.ref b)] [])) _
      refine XS.aloadN X4.here hx rfl (hb hby own_d_prog_82_method_5_code_7) rfl rfl ?_
      show Steps p.tables e below (T4.setTop (mkF m 8 #[.val (.ref a), .val (.ref b)] [(.ref b)])) _
      refine st5 _ ?_
      show Steps p.tables e below (T5.setTop (mkF m 11 #[.val (.ref a), .val (.ref b)] [(.ref w), (.ref b)])) _
      refine Jvm.RoadKit.acmp (g := (mkF m 11 #[.val (.ref a), .val (.ref b)] [(.ref w), (.ref b)])) X5 hx rfl (x := (.ref b)) (y := (.ref w)) rfl rfl (pc0 := 11) (pc' := 18) (same := false) rfl (hb hby own_d_prog_82_method_5_code_11) rfl (own_df hq) (by decide) (by decide) ?_
      show Steps p.tables e below (T5.setTop (mkF m 18 #[.val (.ref a), .val (.ref b)] [])) _
      refine XS.iconst X5.here hx rfl (hb hby own_d_prog_82_method_5_code_18) ?_
      show Steps p.tables e below (T5.setTop (mkF m 19 #[.val (.ref a), .val (.ref b)] [(.int (0 : Int32))])) _
      exact retN X5 hx (t := .boolean) Bd.returns (by simp) (hb hby own_d_prog_82_method_5_code_19) hr
    · show own_QP (some (.int (if a = w ∨ b = w then 1 else 0))) h0 n0 _ T5.heap _
      exact ⟨by rw [if_neg (fun q => q.elim ha hq)], N0, e5⟩
set_option maxRecDepth 65536 in
set_option maxHeartbeats 40000000 in
theorem own_rm0 (l : Launch) (Z : State) (a0 : Array Value) (hw : ∀ d ∈ tables_1, d.before a0 Z = true) (ws : List Jvm.Cond) (a b : Int32) (sh au : Addr) (h0 : Heap) (n0 : Nat) (Z0 : n0 ≤ h0.size) (S_SHARE : Sta Z h0 "com/example/chiron/chiron/sql/LockingClause$Strength" "SHARE" "Lcom/example/chiron/chiron/sql/LockingClause$Strength;" (.ref sh)) (E_SHARE : Exa Z h0 sh "com/example/chiron/chiron/sql/LockingClause$Strength") (S_UPDATE : Sta Z h0 "com/example/chiron/chiron/sql/LockingClause$Strength" "UPDATE" "Lcom/example/chiron/chiron/sql/LockingClause$Strength;" (.ref au)) (E_UPDATE : Exa Z h0 au "com/example/chiron/chiron/sql/LockingClause$Strength") (n1 : ¬ sh = au) :
    MetFree l x (head1 (Jvm.Cond.code x code maxLocals ret :: ws) room_1) (fun a_ U_ => a_ = #[(.int a), (.int b)] ∧ Z.Warmed39 U_.vm ∧ U_.heap = h0) (fun _ _ _ _ _ => True) (fun _ U_ o_ U_' => ∃ v_ L_, o_ = .returned v_ ∧ own_QL n0 v_ U_'.heap L_ ∧ FrameEnd U_ o_ U_' L_ room_1.cells room_1.slots) := by
  refine MetFree.of_bodySF (plainFor_of_name own_pn1) hisR ?_
  intro p e s m args below meth c s₁ Bd hml0 hP hK
  obtain ⟨rfl, hZ, hh⟩ := hP
  have hx := Bd.exec
  have hby := Bd.bytes
  have hml : c.maxLocals = 7 := hml0
  have hown : s.vm.findClass "com/example/chiron/chiron/sql/StrengthConflictsWithPinLaw" = some m.cls := findClass_of_methodNamed Bd.named
  have hnm := (name_of_methodNamed Bd.named Bd.method).1
  have X0 : Stand p l e room_1 s m #[(.int a), (.int b)] below meth c s₁ [] 0 0 := Stand.of_body Bd
  have e0 : s₁.heap = h0 := by rw [← hh, Bd.state]; rfl
  have N0 := Fr.nil n0
  have pre0 : ∀ t, Steps p.tables e below (s₁.setTop (mkF m 0 #[.val (.int a), .val (.int b), .unset, .unset, .unset, .unset, .unset] [])) t → Steps p.tables e below (s₁.setTop (entryFrame m #[(.int a), (.int b)] maxLocals)) t := fun t_ k_ => castTop (own_ef1 m a b) k_
  obtain ⟨t2, T1, Lx1, X1, N1, e1, ht2, st1⟩ : ∃ (t2 : Int32) (T' : State) (Lx : List Loc), Stand p l e room_1 s m #[(.int a), (.int b)] below meth c T' Lx 0 0 ∧ Fr n0 Lx ∧ T'.heap = h0 ∧ (t2 = 1 ∨ t2 = 0) ∧ ∀ t, Steps p.tables e below (T'.setTop (mkF m 12 #[.val (.int a), .val (.int b), .val (.int t2), .unset, .unset, .unset, .unset] [])) t → Steps p.tables e below (s₁.setTop (mkF m 0 #[.val (.int a), .val (.int b), .unset, .unset, .unset, .unset, .unset] [])) t := by
    by_cases h : (a &&& (1 : Int32)) = 0
    · refine ⟨1, s₁, _, X0, N0, e0, Or.inl rfl, fun t kt => ?_⟩
      show Steps p.tables e below (s₁.setTop (mkF m 0 #[.val (.int a), .val (.int b), .unset, .unset, .unset, .unset, .unset] [])) t
      refine XS.iloadN X0.here hx rfl (hb hby at_0) rfl ?_
      show Steps p.tables e below (s₁.setTop (mkF m 1 #[.val (.int a), .val (.int b), .unset, .unset, .unset, .unset, .unset] [(.int a)])) t
      refine XS.iconst X0.here hx rfl (hb hby at_1) ?_
      show Steps p.tables e below (s₁.setTop (mkF m 2 #[.val (.int a), .val (.int b), .unset, .unset, .unset, .unset, .unset] [(.int (1 : Int32)), (.int a)])) t
      refine XS.iand X0.here hx rfl (hb hby at_2) rfl ?_
      show Steps p.tables e below (s₁.setTop (mkF m 3 #[.val (.int a), .val (.int b), .unset, .unset, .unset, .unset, .unset] [(.int (a &&& (1 : Int32)))])) t
      refine XS.ifNo X0.here hx rfl (hb hby at_3) rfl ((if0 _ _).trans (teq (h : (a &&& (1 : Int32)) = (0 : Int32))).2) ?_
      show Steps p.tables e below (s₁.setTop (mkF m 6 #[.val (.int a), .val (.int b), .unset, .unset, .unset, .unset, .unset] [])) t
      refine XS.iconst X0.here hx rfl (hb hby at_6) ?_
      show Steps p.tables e below (s₁.setTop (mkF m 7 #[.val (.int a), .val (.int b), .unset, .unset, .unset, .unset, .unset] [(.int (1 : Int32))])) t
      refine XS.goto X0.here hx rfl (pc0 := 7) (pc' := 11) rfl (hb hby at_7) (by decide) (by decide) ?_
      show Steps p.tables e below (s₁.setTop (mkF m 11 #[.val (.int a), .val (.int b), .unset, .unset, .unset, .unset, .unset] [(.int (1 : Int32))])) t
      refine XS.istoreN X0.here hx rfl (hb hby at_11) rfl (l' := #[.val (.int a), .val (.int b), .val (.int (1 : Int32)), .unset, .unset, .unset, .unset]) rfl ?_
      exact kt
    · refine ⟨0, s₁, _, X0, N0, e0, Or.inr rfl, fun t kt => ?_⟩
      show Steps p.tables e below (s₁.setTop (mkF m 0 #[.val (.int a), .val (.int b), .unset, .unset, .unset, .unset, .unset] [])) t
      refine XS.iloadN X0.here hx rfl (hb hby at_0) rfl ?_
      show Steps p.tables e below (s₁.setTop (mkF m 1 #[.val (.int a), .val (.int b), .unset, .unset, .unset, .unset, .unset] [(.int a)])) t
      refine XS.iconst X0.here hx rfl (hb hby at_1) ?_
      show Steps p.tables e below (s₁.setTop (mkF m 2 #[.val (.int a), .val (.int b), .unset, .unset, .unset, .unset, .unset] [(.int (1 : Int32)), (.int a)])) t
      refine XS.iand X0.here hx rfl (hb hby at_2) rfl ?_
      show Steps p.tables e below (s₁.setTop (mkF m 3 #[.val (.int a), .val (.int b), .unset, .unset, .unset, .unset, .unset] [(.int (a &&& (1 : Int32)))])) t
      refine XS.ifYes X0.here hx rfl (pc0 := 3) (pc' := 10) rfl (hb hby at_3) rfl ((if0 _ _).trans (feq (h : ¬ ((a &&& (1 : Int32)) = (0 : Int32)))).2) (by decide) (by decide) ?_
      show Steps p.tables e below (s₁.setTop (mkF m 10 #[.val (.int a), .val (.int b), .unset, .unset, .unset, .unset, .unset] [])) t
      refine XS.iconst X0.here hx rfl (hb hby at_10) ?_
      show Steps p.tables e below (s₁.setTop (mkF m 11 #[.val (.int a), .val (.int b), .unset, .unset, .unset, .unset, .unset] [(.int (0 : Int32))])) t
      refine XS.istoreN X0.here hx rfl (hb hby at_11) rfl (l' := #[.val (.int a), .val (.int b), .val (.int (0 : Int32)), .unset, .unset, .unset, .unset]) rfl ?_
      exact kt
  obtain ⟨t3, T2, Lx2, X2, N2, e2, ht3, st2⟩ : ∃ (t3 : Int32) (T' : State) (Lx : List Loc), Stand p l e room_1 s m #[(.int a), (.int b)] below meth c T' Lx 0 0 ∧ Fr n0 Lx ∧ T'.heap = h0 ∧ (t3 = 1 ∨ t3 = 0) ∧ ∀ t, Steps p.tables e below (T'.setTop (mkF m 24 #[.val (.int a), .val (.int b), .val (.int t2), .val (.int t3), .unset, .unset, .unset] [])) t → Steps p.tables e below (T1.setTop (mkF m 12 #[.val (.int a), .val (.int b), .val (.int t2), .unset, .unset, .unset, .unset] [])) t := by
    by_cases h : (b &&& (1 : Int32)) = 0
    · refine ⟨1, T1, _, X1, N1, e1, Or.inl rfl, fun t kt => ?_⟩
      show Steps p.tables e below (T1.setTop (mkF m 12 #[.val (.int a), .val (.int b), .val (.int t2), .unset, .unset, .unset, .unset] [])) t
      refine XS.iloadN X1.here hx rfl (hb hby at_12) rfl ?_
      show Steps p.tables e below (T1.setTop (mkF m 13 #[.val (.int a), .val (.int b), .val (.int t2), .unset, .unset, .unset, .unset] [(.int b)])) t
      refine XS.iconst X1.here hx rfl (hb hby at_13) ?_
      show Steps p.tables e below (T1.setTop (mkF m 14 #[.val (.int a), .val (.int b), .val (.int t2), .unset, .unset, .unset, .unset] [(.int (1 : Int32)), (.int b)])) t
      refine XS.iand X1.here hx rfl (hb hby at_14) rfl ?_
      show Steps p.tables e below (T1.setTop (mkF m 15 #[.val (.int a), .val (.int b), .val (.int t2), .unset, .unset, .unset, .unset] [(.int (b &&& (1 : Int32)))])) t
      refine XS.ifNo X1.here hx rfl (hb hby at_15) rfl ((if0 _ _).trans (teq (h : (b &&& (1 : Int32)) = (0 : Int32))).2) ?_
      show Steps p.tables e below (T1.setTop (mkF m 18 #[.val (.int a), .val (.int b), .val (.int t2), .unset, .unset, .unset, .unset] [])) t
      refine XS.iconst X1.here hx rfl (hb hby at_18) ?_
      show Steps p.tables e below (T1.setTop (mkF m 19 #[.val (.int a), .val (.int b), .val (.int t2), .unset, .unset, .unset, .unset] [(.int (1 : Int32))])) t
      refine XS.goto X1.here hx rfl (pc0 := 19) (pc' := 23) rfl (hb hby at_19) (by decide) (by decide) ?_
      show Steps p.tables e below (T1.setTop (mkF m 23 #[.val (.int a), .val (.int b), .val (.int t2), .unset, .unset, .unset, .unset] [(.int (1 : Int32))])) t
      refine XS.istoreN X1.here hx rfl (hb hby at_23) rfl (l' := #[.val (.int a), .val (.int b), .val (.int t2), .val (.int (1 : Int32)), .unset, .unset, .unset]) rfl ?_
      exact kt
    · refine ⟨0, T1, _, X1, N1, e1, Or.inr rfl, fun t kt => ?_⟩
      show Steps p.tables e below (T1.setTop (mkF m 12 #[.val (.int a), .val (.int b), .val (.int t2), .unset, .unset, .unset, .unset] [])) t
      refine XS.iloadN X1.here hx rfl (hb hby at_12) rfl ?_
      show Steps p.tables e below (T1.setTop (mkF m 13 #[.val (.int a), .val (.int b), .val (.int t2), .unset, .unset, .unset, .unset] [(.int b)])) t
      refine XS.iconst X1.here hx rfl (hb hby at_13) ?_
      show Steps p.tables e below (T1.setTop (mkF m 14 #[.val (.int a), .val (.int b), .val (.int t2), .unset, .unset, .unset, .unset] [(.int (1 : Int32)), (.int b)])) t
      refine XS.iand X1.here hx rfl (hb hby at_14) rfl ?_
      show Steps p.tables e below (T1.setTop (mkF m 15 #[.val (.int a), .val (.int b), .val (.int t2), .unset, .unset, .unset, .unset] [(.int (b &&& (1 : Int32)))])) t
      refine XS.ifYes X1.here hx rfl (pc0 := 15) (pc' := 22) rfl (hb hby at_15) rfl ((if0 _ _).trans (feq (h : ¬ ((b &&& (1 : Int32)) = (0 : Int32)))).2) (by decide) (by decide) ?_
      show Steps p.tables e below (T1.setTop (mkF m 22 #[.val (.int a), .val (.int b), .val (.int t2), .unset, .unset, .unset, .unset] [])) t
      refine XS.iconst X1.here hx rfl (hb hby at_22) ?_
      show Steps p.tables e below (T1.setTop (mkF m 23 #[.val (.int a), .val (.int b), .val (.int t2), .unset, .unset, .unset, .unset] [(.int (0 : Int32))])) t
      refine XS.istoreN X1.here hx rfl (hb hby at_23) rfl (l' := #[.val (.int a), .val (.int b), .val (.int t2), .val (.int (0 : Int32)), .unset, .unset, .unset]) rfl ?_
      exact kt
  obtain ⟨av, bv, x, T3, Lx3, X3, N3, e3, Ea, hv, st3⟩ : ∃ (av : Addr) (bv : Addr) (x : Int32) (T' : State) (Lx : List Loc), Stand p l e room_1 s m #[(.int a), (.int b)] below meth c T' Lx 0 0 ∧ Fr n0 Lx ∧ T'.heap = h0 ∧ Exa Z h0 av "com/example/chiron/chiron/sql/LockingClause$Strength" ∧ (if av = au ∨ bv = au then 1 else 0) = x ∧ ∀ t, Steps p.tables e below (T'.setTop (mkF m 77 #[.val (.int a), .val (.int b), .val (.int t2), .val (.int t3), .val (.ref av), .val (.ref bv), .val (.int x)] [])) t → Steps p.tables e below (T2.setTop (mkF m 24 #[.val (.int a), .val (.int b), .val (.int t2), .val (.int t3), .unset, .unset, .unset] [])) t := by
    rcases ht2 with ht2 | ht2
    all_goals rcases ht3 with ht3 | ht3
    · obtain ⟨T4, X4, e4, st4⟩ := getS2 X2 hx hZ hown (host := "") (Or.inl (hw _ (List.mem_of_getElem? (i := 0) rfl))) Via.refl e2 S_SHARE (g := (mkF m 28 #[.val (.int a), .val (.int b), .val (.int t2), .val (.int t3), .unset, .unset, .unset] [])) rfl (hb hby at_28)
      obtain ⟨T5, X5, e5, st5⟩ := getS2 X4 hx hZ hown (host := "") (Or.inl (hw _ (List.mem_of_getElem? (i := 0) rfl))) Via.refl e4 S_SHARE (g := (mkF m 43 #[.val (.int a), .val (.int b), .val (.int t2), .val (.int t3), .val (.ref sh), .unset, .unset] [])) rfl (hb hby at_43)
      refine ⟨sh, sh, 0, T5, _, X5, N2, e5, E_SHARE, if_neg (fun q => q.elim n1 n1), fun t kt => ?_⟩
      show Steps p.tables e below (T2.setTop (mkF m 24 #[.val (.int a), .val (.int b), .val (.int t2), .val (.int t3), .unset, .unset, .unset] [])) t
      refine XS.iloadN X2.here hx rfl (hb hby at_24) rfl ?_
      show Steps p.tables e below (T2.setTop (mkF m 25 #[.val (.int a), .val (.int b), .val (.int t2), .val (.int t3), .unset, .unset, .unset] [(.int t2)])) t
      refine XS.ifNo X2.here hx rfl (hb hby at_25) rfl ((if0 _ _).trans (feq (by rw [ht2]; decide : ¬ (t2 = (0 : Int32)))).1) ?_
      show Steps p.tables e below (T2.setTop (mkF m 28 #[.val (.int a), .val (.int b), .val (.int t2), .val (.int t3), .unset, .unset, .unset] [])) t
      refine st4 _ ?_
      show Steps p.tables e below (T4.setTop (mkF m 31 #[.val (.int a), .val (.int b), .val (.int t2), .val (.int t3), .unset, .unset, .unset] [(.ref sh)])) t
      refine XS.goto X4.here hx rfl (pc0 := 31) (pc' := 37) rfl (hb hby at_31) (by decide) (by decide) ?_
      show Steps p.tables e below (T4.setTop (mkF m 37 #[.val (.int a), .val (.int b), .val (.int t2), .val (.int t3), .unset, .unset, .unset] [(.ref sh)])) t
      refine XS.astore X4.here hx rfl (hb hby at_37) rfl rfl (l' := #[.val (.int a), .val (.int b), .val (.int t2), .val (.int t3), .val (.ref sh), .unset, .unset]) rfl ?_
      show Steps p.tables e below (T4.setTop (mkF m 39 #[.val (.int a), .val (.int b), .val (.int t2), .val (.int t3), .val (.ref sh), .unset, .unset] [])) t
      refine XS.iloadN X4.here hx rfl (hb hby at_39) rfl ?_
      show Steps p.tables e below (T4.setTop (mkF m 40 #[.val (.int a), .val (.int b), .val (.int t2), .val (.int t3), .val (.ref sh), .unset, .unset] [(.int t3)])) t
      refine XS.ifNo X4.here hx rfl (hb hby at_40) rfl ((if0 _ _).trans (feq (by rw [ht3]; decide : ¬ (t3 = (0 : Int32)))).1) ?_
      show Steps p.tables e below (T4.setTop (mkF m 43 #[.val (.int a), .val (.int b), .val (.int t2), .val (.int t3), .val (.ref sh), .unset, .unset] [])) t
      refine st5 _ ?_
      show Steps p.tables e below (T5.setTop (mkF m 46 #[.val (.int a), .val (.int b), .val (.int t2), .val (.int t3), .val (.ref sh), .unset, .unset] [(.ref sh)])) t
      refine XS.goto X5.here hx rfl (pc0 := 46) (pc' := 52) rfl (hb hby at_46) (by decide) (by decide) ?_
      show Steps p.tables e below (T5.setTop (mkF m 52 #[.val (.int a), .val (.int b), .val (.int t2), .val (.int t3), .val (.ref sh), .unset, .unset] [(.ref sh)])) t
      refine XS.astore X5.here hx rfl (hb hby at_52) rfl rfl (l' := #[.val (.int a), .val (.int b), .val (.int t2), .val (.int t3), .val (.ref sh), .val (.ref sh), .unset]) rfl ?_
      show Steps p.tables e below (T5.setTop (mkF m 54 #[.val (.int a), .val (.int b), .val (.int t2), .val (.int t3), .val (.ref sh), .val (.ref sh), .unset] [])) t
      refine XS.iloadN X5.here hx rfl (hb hby at_54) rfl ?_
      show Steps p.tables e below (T5.setTop (mkF m 55 #[.val (.int a), .val (.int b), .val (.int t2), .val (.int t3), .val (.ref sh), .val (.ref sh), .unset] [(.int t2)])) t
      refine XS.ifNo X5.here hx rfl (hb hby at_55) rfl ((if0 _ _).trans (feq (by rw [ht2]; decide : ¬ (t2 = (0 : Int32)))).1) ?_
      show Steps p.tables e below (T5.setTop (mkF m 58 #[.val (.int a), .val (.int b), .val (.int t2), .val (.int t3), .val (.ref sh), .val (.ref sh), .unset] [])) t
      refine XS.iloadN X5.here hx rfl (hb hby at_58) rfl ?_
      show Steps p.tables e below (T5.setTop (mkF m 59 #[.val (.int a), .val (.int b), .val (.int t2), .val (.int t3), .val (.ref sh), .val (.ref sh), .unset] [(.int t3)])) t
      refine XS.ifNo X5.here hx rfl (hb hby at_59) rfl ((if0 _ _).trans (feq (by rw [ht3]; decide : ¬ (t3 = (0 : Int32)))).1) ?_
      show Steps p.tables e below (T5.setTop (mkF m 62 #[.val (.int a), .val (.int b), .val (.int t2), .val (.int t3), .val (.ref sh), .val (.ref sh), .unset] [])) t
      refine XS.iconst X5.here hx rfl (hb hby at_62) ?_
      show Steps p.tables e below (T5.setTop (mkF m 63 #[.val (.int a), .val (.int b), .val (.int t2), .val (.int t3), .val (.ref sh), .val (.ref sh), .unset] [(.int (0 : Int32))])) t
      refine XS.istore X5.here hx rfl (hb hby at_63) rfl (l' := #[.val (.int a), .val (.int b), .val (.int t2), .val (.int t3), .val (.ref sh), .val (.ref sh), .val (.int (0 : Int32))]) rfl ?_
      show Steps p.tables e below (T5.setTop (mkF m 65 #[.val (.int a), .val (.int b), .val (.int t2), .val (.int t3), .val (.ref sh), .val (.ref sh), .val (.int (0 : Int32))] [])) t
      refine XS.goto X5.here hx rfl (pc0 := 65) (pc' := 77) rfl (hb hby at_65) (by decide) (by decide) ?_
      exact kt
    · obtain ⟨T6, X6, e6, st6⟩ := getS2 X2 hx hZ hown (host := "") (Or.inl (hw _ (List.mem_of_getElem? (i := 0) rfl))) Via.refl e2 S_SHARE (g := (mkF m 28 #[.val (.int a), .val (.int b), .val (.int t2), .val (.int t3), .unset, .unset, .unset] [])) rfl (hb hby at_28)
      obtain ⟨T7, X7, e7, st7⟩ := getS2 X6 hx hZ hown (host := "") (Or.inl (hw _ (List.mem_of_getElem? (i := 3) rfl))) Via.refl e6 S_UPDATE (g := (mkF m 49 #[.val (.int a), .val (.int b), .val (.int t2), .val (.int t3), .val (.ref sh), .unset, .unset] [])) rfl (hb hby at_49)
      refine ⟨sh, au, 1, T7, _, X7, N2, e7, E_SHARE, if_pos (Or.inr rfl), fun t kt => ?_⟩
      show Steps p.tables e below (T2.setTop (mkF m 24 #[.val (.int a), .val (.int b), .val (.int t2), .val (.int t3), .unset, .unset, .unset] [])) t
      refine XS.iloadN X2.here hx rfl (hb hby at_24) rfl ?_
      show Steps p.tables e below (T2.setTop (mkF m 25 #[.val (.int a), .val (.int b), .val (.int t2), .val (.int t3), .unset, .unset, .unset] [(.int t2)])) t
      refine XS.ifNo X2.here hx rfl (hb hby at_25) rfl ((if0 _ _).trans (feq (by rw [ht2]; decide : ¬ (t2 = (0 : Int32)))).1) ?_
      show Steps p.tables e below (T2.setTop (mkF m 28 #[.val (.int a), .val (.int b), .val (.int t2), .val (.int t3), .unset, .unset, .unset] [])) t
      refine st6 _ ?_
      show Steps p.tables e below (T6.setTop (mkF m 31 #[.val (.int a), .val (.int b), .val (.int t2), .val (.int t3), .unset, .unset, .unset] [(.ref sh)])) t
      refine XS.goto X6.here hx rfl (pc0 := 31) (pc' := 37) rfl (hb hby at_31) (by decide) (by decide) ?_
      show Steps p.tables e below (T6.setTop (mkF m 37 #[.val (.int a), .val (.int b), .val (.int t2), .val (.int t3), .unset, .unset, .unset] [(.ref sh)])) t
      refine XS.astore X6.here hx rfl (hb hby at_37) rfl rfl (l' := #[.val (.int a), .val (.int b), .val (.int t2), .val (.int t3), .val (.ref sh), .unset, .unset]) rfl ?_
      show Steps p.tables e below (T6.setTop (mkF m 39 #[.val (.int a), .val (.int b), .val (.int t2), .val (.int t3), .val (.ref sh), .unset, .unset] [])) t
      refine XS.iloadN X6.here hx rfl (hb hby at_39) rfl ?_
      show Steps p.tables e below (T6.setTop (mkF m 40 #[.val (.int a), .val (.int b), .val (.int t2), .val (.int t3), .val (.ref sh), .unset, .unset] [(.int t3)])) t
      refine XS.ifYes X6.here hx rfl (pc0 := 40) (pc' := 49) rfl (hb hby at_40) rfl ((if0 _ _).trans (teq (ht3 : t3 = (0 : Int32))).1) (by decide) (by decide) ?_
      show Steps p.tables e below (T6.setTop (mkF m 49 #[.val (.int a), .val (.int b), .val (.int t2), .val (.int t3), .val (.ref sh), .unset, .unset] [])) t
      refine st7 _ ?_
      show Steps p.tables e below (T7.setTop (mkF m 52 #[.val (.int a), .val (.int b), .val (.int t2), .val (.int t3), .val (.ref sh), .unset, .unset] [(.ref au)])) t
      refine XS.astore X7.here hx rfl (hb hby at_52) rfl rfl (l' := #[.val (.int a), .val (.int b), .val (.int t2), .val (.int t3), .val (.ref sh), .val (.ref au), .unset]) rfl ?_
      show Steps p.tables e below (T7.setTop (mkF m 54 #[.val (.int a), .val (.int b), .val (.int t2), .val (.int t3), .val (.ref sh), .val (.ref au), .unset] [])) t
      refine XS.iloadN X7.here hx rfl (hb hby at_54) rfl ?_
      show Steps p.tables e below (T7.setTop (mkF m 55 #[.val (.int a), .val (.int b), .val (.int t2), .val (.int t3), .val (.ref sh), .val (.ref au), .unset] [(.int t2)])) t
      refine XS.ifNo X7.here hx rfl (hb hby at_55) rfl ((if0 _ _).trans (feq (by rw [ht2]; decide : ¬ (t2 = (0 : Int32)))).1) ?_
      show Steps p.tables e below (T7.setTop (mkF m 58 #[.val (.int a), .val (.int b), .val (.int t2), .val (.int t3), .val (.ref sh), .val (.ref au), .unset] [])) t
      refine XS.iloadN X7.here hx rfl (hb hby at_58) rfl ?_
      show Steps p.tables e below (T7.setTop (mkF m 59 #[.val (.int a), .val (.int b), .val (.int t2), .val (.int t3), .val (.ref sh), .val (.ref au), .unset] [(.int t3)])) t
      refine XS.ifYes X7.here hx rfl (pc0 := 59) (pc' := 68) rfl (hb hby at_59) rfl ((if0 _ _).trans (teq (ht3 : t3 = (0 : Int32))).1) (by decide) (by decide) ?_
      show Steps p.tables e below (T7.setTop (mkF m 68 #[.val (.int a), .val (.int b), .val (.int t2), .val (.int t3), .val (.ref sh), .val (.ref au), .unset] [])) t
      refine XS.iconst X7.here hx rfl (hb hby at_68) ?_
      show Steps p.tables e below (T7.setTop (mkF m 69 #[.val (.int a), .val (.int b), .val (.int t2), .val (.int t3), .val (.ref sh), .val (.ref au), .unset] [(.int (1 : Int32))])) t
      refine XS.istore X7.here hx rfl (hb hby at_69) rfl (l' := #[.val (.int a), .val (.int b), .val (.int t2), .val (.int t3), .val (.ref sh), .val (.ref au), .val (.int (1 : Int32))]) rfl ?_
      show Steps p.tables e below (T7.setTop (mkF m 71 #[.val (.int a), .val (.int b), .val (.int t2), .val (.int t3), .val (.ref sh), .val (.ref au), .val (.int (1 : Int32))] [])) t
      refine XS.goto X7.here hx rfl (pc0 := 71) (pc' := 77) rfl (hb hby at_71) (by decide) (by decide) ?_
      exact kt
    · obtain ⟨T8, X8, e8, st8⟩ := getS2 X2 hx hZ hown (host := "") (Or.inl (hw _ (List.mem_of_getElem? (i := 3) rfl))) Via.refl e2 S_UPDATE (g := (mkF m 34 #[.val (.int a), .val (.int b), .val (.int t2), .val (.int t3), .unset, .unset, .unset] [])) rfl (hb hby at_34)
      obtain ⟨T9, X9, e9, st9⟩ := getS2 X8 hx hZ hown (host := "") (Or.inl (hw _ (List.mem_of_getElem? (i := 0) rfl))) Via.refl e8 S_SHARE (g := (mkF m 43 #[.val (.int a), .val (.int b), .val (.int t2), .val (.int t3), .val (.ref au), .unset, .unset] [])) rfl (hb hby at_43)
      refine ⟨au, sh, 1, T9, _, X9, N2, e9, E_UPDATE, if_pos (Or.inl rfl), fun t kt => ?_⟩
      show Steps p.tables e below (T2.setTop (mkF m 24 #[.val (.int a), .val (.int b), .val (.int t2), .val (.int t3), .unset, .unset, .unset] [])) t
      refine XS.iloadN X2.here hx rfl (hb hby at_24) rfl ?_
      show Steps p.tables e below (T2.setTop (mkF m 25 #[.val (.int a), .val (.int b), .val (.int t2), .val (.int t3), .unset, .unset, .unset] [(.int t2)])) t
      refine XS.ifYes X2.here hx rfl (pc0 := 25) (pc' := 34) rfl (hb hby at_25) rfl ((if0 _ _).trans (teq (ht2 : t2 = (0 : Int32))).1) (by decide) (by decide) ?_
      show Steps p.tables e below (T2.setTop (mkF m 34 #[.val (.int a), .val (.int b), .val (.int t2), .val (.int t3), .unset, .unset, .unset] [])) t
      refine st8 _ ?_
      show Steps p.tables e below (T8.setTop (mkF m 37 #[.val (.int a), .val (.int b), .val (.int t2), .val (.int t3), .unset, .unset, .unset] [(.ref au)])) t
      refine XS.astore X8.here hx rfl (hb hby at_37) rfl rfl (l' := #[.val (.int a), .val (.int b), .val (.int t2), .val (.int t3), .val (.ref au), .unset, .unset]) rfl ?_
      show Steps p.tables e below (T8.setTop (mkF m 39 #[.val (.int a), .val (.int b), .val (.int t2), .val (.int t3), .val (.ref au), .unset, .unset] [])) t
      refine XS.iloadN X8.here hx rfl (hb hby at_39) rfl ?_
      show Steps p.tables e below (T8.setTop (mkF m 40 #[.val (.int a), .val (.int b), .val (.int t2), .val (.int t3), .val (.ref au), .unset, .unset] [(.int t3)])) t
      refine XS.ifNo X8.here hx rfl (hb hby at_40) rfl ((if0 _ _).trans (feq (by rw [ht3]; decide : ¬ (t3 = (0 : Int32)))).1) ?_
      show Steps p.tables e below (T8.setTop (mkF m 43 #[.val (.int a), .val (.int b), .val (.int t2), .val (.int t3), .val (.ref au), .unset, .unset] [])) t
      refine st9 _ ?_
      show Steps p.tables e below (T9.setTop (mkF m 46 #[.val (.int a), .val (.int b), .val (.int t2), .val (.int t3), .val (.ref au), .unset, .unset] [(.ref sh)])) t
      refine XS.goto X9.here hx rfl (pc0 := 46) (pc' := 52) rfl (hb hby at_46) (by decide) (by decide) ?_
      show Steps p.tables e below (T9.setTop (mkF m 52 #[.val (.int a), .val (.int b), .val (.int t2), .val (.int t3), .val (.ref au), .unset, .unset] [(.ref sh)])) t
      refine XS.astore X9.here hx rfl (hb hby at_52) rfl rfl (l' := #[.val (.int a), .val (.int b), .val (.int t2), .val (.int t3), .val (.ref au), .val (.ref sh), .unset]) rfl ?_
      show Steps p.tables e below (T9.setTop (mkF m 54 #[.val (.int a), .val (.int b), .val (.int t2), .val (.int t3), .val (.ref au), .val (.ref sh), .unset] [])) t
      refine XS.iloadN X9.here hx rfl (hb hby at_54) rfl ?_
      show Steps p.tables e below (T9.setTop (mkF m 55 #[.val (.int a), .val (.int b), .val (.int t2), .val (.int t3), .val (.ref au), .val (.ref sh), .unset] [(.int t2)])) t
      refine XS.ifYes X9.here hx rfl (pc0 := 55) (pc' := 74) rfl (hb hby at_55) rfl ((if0 _ _).trans (teq (ht2 : t2 = (0 : Int32))).1) (by decide) (by decide) ?_
      show Steps p.tables e below (T9.setTop (mkF m 74 #[.val (.int a), .val (.int b), .val (.int t2), .val (.int t3), .val (.ref au), .val (.ref sh), .unset] [])) t
      refine XS.iconst X9.here hx rfl (hb hby at_74) ?_
      show Steps p.tables e below (T9.setTop (mkF m 75 #[.val (.int a), .val (.int b), .val (.int t2), .val (.int t3), .val (.ref au), .val (.ref sh), .unset] [(.int (1 : Int32))])) t
      refine XS.istore X9.here hx rfl (hb hby at_75) rfl (l' := #[.val (.int a), .val (.int b), .val (.int t2), .val (.int t3), .val (.ref au), .val (.ref sh), .val (.int (1 : Int32))]) rfl ?_
      exact kt
    · obtain ⟨T10, X10, e10, st10⟩ := getS2 X2 hx hZ hown (host := "") (Or.inl (hw _ (List.mem_of_getElem? (i := 3) rfl))) Via.refl e2 S_UPDATE (g := (mkF m 34 #[.val (.int a), .val (.int b), .val (.int t2), .val (.int t3), .unset, .unset, .unset] [])) rfl (hb hby at_34)
      obtain ⟨T11, X11, e11, st11⟩ := getS2 X10 hx hZ hown (host := "") (Or.inl (hw _ (List.mem_of_getElem? (i := 3) rfl))) Via.refl e10 S_UPDATE (g := (mkF m 49 #[.val (.int a), .val (.int b), .val (.int t2), .val (.int t3), .val (.ref au), .unset, .unset] [])) rfl (hb hby at_49)
      refine ⟨au, au, 1, T11, _, X11, N2, e11, E_UPDATE, if_pos (Or.inl rfl), fun t kt => ?_⟩
      show Steps p.tables e below (T2.setTop (mkF m 24 #[.val (.int a), .val (.int b), .val (.int t2), .val (.int t3), .unset, .unset, .unset] [])) t
      refine XS.iloadN X2.here hx rfl (hb hby at_24) rfl ?_
      show Steps p.tables e below (T2.setTop (mkF m 25 #[.val (.int a), .val (.int b), .val (.int t2), .val (.int t3), .unset, .unset, .unset] [(.int t2)])) t
      refine XS.ifYes X2.here hx rfl (pc0 := 25) (pc' := 34) rfl (hb hby at_25) rfl ((if0 _ _).trans (teq (ht2 : t2 = (0 : Int32))).1) (by decide) (by decide) ?_
      show Steps p.tables e below (T2.setTop (mkF m 34 #[.val (.int a), .val (.int b), .val (.int t2), .val (.int t3), .unset, .unset, .unset] [])) t
      refine st10 _ ?_
      show Steps p.tables e below (T10.setTop (mkF m 37 #[.val (.int a), .val (.int b), .val (.int t2), .val (.int t3), .unset, .unset, .unset] [(.ref au)])) t
      refine XS.astore X10.here hx rfl (hb hby at_37) rfl rfl (l' := #[.val (.int a), .val (.int b), .val (.int t2), .val (.int t3), .val (.ref au), .unset, .unset]) rfl ?_
      show Steps p.tables e below (T10.setTop (mkF m 39 #[.val (.int a), .val (.int b), .val (.int t2), .val (.int t3), .val (.ref au), .unset, .unset] [])) t
      refine XS.iloadN X10.here hx rfl (hb hby at_39) rfl ?_
      show Steps p.tables e below (T10.setTop (mkF m 40 #[.val (.int a), .val (.int b), .val (.int t2), .val (.int t3), .val (.ref au), .unset, .unset] [(.int t3)])) t
      refine XS.ifYes X10.here hx rfl (pc0 := 40) (pc' := 49) rfl (hb hby at_40) rfl ((if0 _ _).trans (teq (ht3 : t3 = (0 : Int32))).1) (by decide) (by decide) ?_
      show Steps p.tables e below (T10.setTop (mkF m 49 #[.val (.int a), .val (.int b), .val (.int t2), .val (.int t3), .val (.ref au), .unset, .unset] [])) t
      refine st11 _ ?_
      show Steps p.tables e below (T11.setTop (mkF m 52 #[.val (.int a), .val (.int b), .val (.int t2), .val (.int t3), .val (.ref au), .unset, .unset] [(.ref au)])) t
      refine XS.astore X11.here hx rfl (hb hby at_52) rfl rfl (l' := #[.val (.int a), .val (.int b), .val (.int t2), .val (.int t3), .val (.ref au), .val (.ref au), .unset]) rfl ?_
      show Steps p.tables e below (T11.setTop (mkF m 54 #[.val (.int a), .val (.int b), .val (.int t2), .val (.int t3), .val (.ref au), .val (.ref au), .unset] [])) t
      refine XS.iloadN X11.here hx rfl (hb hby at_54) rfl ?_
      show Steps p.tables e below (T11.setTop (mkF m 55 #[.val (.int a), .val (.int b), .val (.int t2), .val (.int t3), .val (.ref au), .val (.ref au), .unset] [(.int t2)])) t
      refine XS.ifYes X11.here hx rfl (pc0 := 55) (pc' := 74) rfl (hb hby at_55) rfl ((if0 _ _).trans (teq (ht2 : t2 = (0 : Int32))).1) (by decide) (by decide) ?_
      show Steps p.tables e below (T11.setTop (mkF m 74 #[.val (.int a), .val (.int b), .val (.int t2), .val (.int t3), .val (.ref au), .val (.ref au), .unset] [])) t
      refine XS.iconst X11.here hx rfl (hb hby at_74) ?_
      show Steps p.tables e below (T11.setTop (mkF m 75 #[.val (.int a), .val (.int b), .val (.int t2), .val (.int t3), .val (.ref au), .val (.ref au), .unset] [(.int (1 : Int32))])) t
      refine XS.istore X11.here hx rfl (hb hby at_75) rfl (l' := #[.val (.int a), .val (.int b), .val (.int t2), .val (.int t3), .val (.ref au), .val (.ref au), .val (.int (1 : Int32))]) rfl ?_
      exact kt
  obtain ⟨cq12, kq12, q12a, q12b, q12c⟩ := isOf hZ e3 Ea
  obtain ⟨_, _, ⟨T12, L12, kc12, nc12⟩, -, X12, ⟨Lc12, hQ12, ql12, qy12, qz12⟩, st12⟩ := X3.virtualBack hx (y := (⟨"com/example/chiron/chiron/sql/LockingClause$Strength", "conflictsWith", "(Lcom/example/chiron/chiron/sql/LockingClause$Strength;)Z"⟩ : MethodName)) (z := (⟨"com/example/chiron/chiron/sql/LockingClause$Strength", "conflictsWith", "(Lcom/example/chiron/chiron/sql/LockingClause$Strength;)Z"⟩ : MethodName)) hown (mvT hZ (hw _ (List.mem_of_getElem? (i := 5) rfl))) (mvT hZ (hw _ (List.mem_of_getElem? (i := 6) rfl))) (notFace_of_selects (args := #[]) (mvT hZ (hw _ (List.mem_of_getElem? (i := 8) rfl)))) (mvT hZ (hw _ (List.mem_of_getElem? (i := 8) rfl))) (mvT hZ (hw _ (List.mem_of_getElem? (i := 7) rfl))) (by decide) (backOf (W := 0) (own_rm1 l Z a0 hw [] av bv au h0 n0 Z0 S_UPDATE) hZ (hw _ (List.mem_of_getElem? (i := 9) rfl)) (hw _ (List.mem_of_getElem? (i := 1) rfl)) (by decide) (by decide)) q12a q12c (g := (mkF m 81 #[.val (.int a), .val (.int b), .val (.int t2), .val (.int t3), .val (.ref av), .val (.ref bv), .val (.int x)] [(.ref bv), (.ref av)])) rfl (by rw [hml]; rfl) (Steps.refl _) (argsL := [(.ref bv)]) (rest := []) (lenOf own_pd0 rfl) rfl (by show 2 * 0 + _ ≤ _; exact Nat.le_of_eq rfl) (hb hby at_81) (fun _ _ => ⟨rfl, e3, (by decide : 0 + 0 ≤ _), (by decide : 0 + 0 ≤ _)⟩)
  dsimp only [Pt.U, Pt.locs, Pt.cells, Pt.slots] at X12 ql12 qy12 qz12 st12 hQ12
  subst ql12 qy12 qz12
  obtain ⟨rfl, Nq12, eq12⟩ := hQ12
  have N12 := Fr.app N3 Nq12
  obtain ⟨fs, hr, hrun, hended, hW, hsame⟩ := X12.leave (v := some (.int (1 : Int32))) (fun h => by rw [Bd.returns] at h; cases h)
  refine ⟨_, _, pre0 _ ?_, hrun, hended, _, _, rfl, ?_, ⟨_, rfl⟩, hW, hsame.mono (by decide) (by decide)⟩
  · show Steps p.tables e below (s₁.setTop (mkF m 0 #[.val (.int a), .val (.int b), .unset, .unset, .unset, .unset, .unset] [])) _
    refine st1 _ ?_
    show Steps p.tables e below (T1.setTop (mkF m 12 #[.val (.int a), .val (.int b), .val (.int t2), .unset, .unset, .unset, .unset] [])) _
    refine st2 _ ?_
    show Steps p.tables e below (T2.setTop (mkF m 24 #[.val (.int a), .val (.int b), .val (.int t2), .val (.int t3), .unset, .unset, .unset] [])) _
    refine st3 _ ?_
    show Steps p.tables e below (T3.setTop (mkF m 77 #[.val (.int a), .val (.int b), .val (.int t2), .val (.int t3), .val (.ref av), .val (.ref bv), .val (.int x)] [])) _
    refine XS.aload X3.here hx rfl (hb hby at_77) rfl rfl ?_
    show Steps p.tables e below (T3.setTop (mkF m 79 #[.val (.int a), .val (.int b), .val (.int t2), .val (.int t3), .val (.ref av), .val (.ref bv), .val (.int x)] [(.ref av)])) _
    refine XS.aload X3.here hx rfl (hb hby at_79) rfl rfl ?_
    show Steps p.tables e below (T3.setTop (mkF m 81 #[.val (.int a), .val (.int b), .val (.int t2), .val (.int t3), .val (.ref av), .val (.ref bv), .val (.int x)] [(.ref bv), (.ref av)])) _
    refine st12.trans ?_
    show Steps p.tables e below (T12.setTop (mkF m 84 #[.val (.int a), .val (.int b), .val (.int t2), .val (.int t3), .val (.ref av), .val (.ref bv), .val (.int x)] [(.int (if av = au ∨ bv = au then 1 else 0))])) _
    refine XS.iload X12.here hx rfl (hb hby at_84) rfl ?_
    show Steps p.tables e below (T12.setTop (mkF m 86 #[.val (.int a), .val (.int b), .val (.int t2), .val (.int t3), .val (.ref av), .val (.ref bv), .val (.int x)] [(.int x), (.int (if av = au ∨ bv = au then 1 else 0))])) _
    refine XS.icmpNo X12.here hx rfl (hb hby at_86) rfl (teq (hv : (if av = au ∨ bv = au then 1 else 0) = x)).2 ?_
    show Steps p.tables e below (T12.setTop (mkF m 89 #[.val (.int a), .val (.int b), .val (.int t2), .val (.int t3), .val (.ref av), .val (.ref bv), .val (.int x)] [])) _
    refine XS.iconst X12.here hx rfl (hb hby at_89) ?_
    show Steps p.tables e below (T12.setTop (mkF m 90 #[.val (.int a), .val (.int b), .val (.int t2), .val (.int t3), .val (.ref av), .val (.ref bv), .val (.int x)] [(.int (1 : Int32))])) _
    refine XS.goto X12.here hx rfl (pc0 := 90) (pc' := 94) rfl (hb hby at_90) (by decide) (by decide) ?_
    show Steps p.tables e below (T12.setTop (mkF m 94 #[.val (.int a), .val (.int b), .val (.int t2), .val (.int t3), .val (.ref av), .val (.ref bv), .val (.int x)] [(.int (1 : Int32))])) _
    exact retN X12 hx (t := .boolean) Bd.returns (by simp) (hb hby at_94) hr
  · show own_QL n0 _ T12.heap _
    exact ⟨rfl, N12⟩
set_option maxRecDepth 65536 in
set_option maxHeartbeats 40000000 in
theorem comes_1 {Post : Tables → Env → Array Value → State → Outcome → State → Prop} (hpost : ∀ tb e args s v u, (limb_1_1.after args s (.returned v) u = true ∧ limb_1_2.after args s (.returned v) u = true ∧ True) → FrameEnd s (.returned v) u (Jvm.fieldLocs frame_1_writes args s ++ Jvm.arrayLocs frame_1_arrays args s ++ Jvm.staticLocs frame_1_statics s) 0 0 → Post tb e args s (.returned v) u) :
    ArmFor flags0 classFile x code maxLocals ret World_1 tables_1 room_1 Calls_1 rest_1 Pre_1 Post := by
  intro l hfl _ _ p e ha hc hk s m args below hf hA hF happ hP
  obtain ⟨hcalls, hrest, hpre⟩ := hP
  obtain ⟨-, -, -, hnamed, -, -, -, hat⟩ := (Spec.applies_iff hf).mp happ
  obtain ⟨hg, hn⟩ := and_e (Cond.before_iff.mp (show (Jvm.Cond.and given_1 narrow_1).before args s = true from hpre))
  obtain ⟨g_n, hg⟩ := and_e hg
  obtain ⟨g_0, hg⟩ := and_e hg
  have g_1 := hg
  obtain ⟨w0, w1, rfl⟩ : ∃ w0 w1 : Value, args = #[w0, w1] := by
    have hs : args.size = 2 := by simpa [Cond.value, given_1] using g_n
    obtain ⟨L⟩ := args
    match L, hs with
    | [w0, w1], _ => exact ⟨w0, w1, rfl⟩
  have hw := fun d (hd : d ∈ tables_1) => atoms_spec (ws := Jvm.Cond.code x code maxLocals ret :: tables_1) hat d (List.mem_cons_of_mem _ hd)
  have hfit : Fit s := fun {y c} hc i hi => by
    obtain ⟨ha, rfl⟩ := Array.getElem?_eq_some_iff.mp hc
    have q := List.all_eq_true.mp ((Array.all_eq_true_iff_forall_mem.mp hF) _ (Array.getElem_mem ha)) i (List.mem_range.mpr hi)
    simpa [Array.getElem?_eq_getElem hi] using q
  obtain ⟨i0, ei0⟩ := is_v g_0
  obtain rfl : w0 = (.int i0) := Option.some.inj ei0
  obtain ⟨i1, ei1⟩ := is_v g_1
  obtain rfl : w1 = (.int i1) := Option.some.inj ei1
  obtain ⟨c0, hn⟩ := and_e hn
  obtain ⟨c1, hn⟩ := and_e hn
  obtain ⟨c2, hn⟩ := and_e hn
  have c3 := hn
  obtain ⟨a_SHARE, ev_SHARE⟩ := exa_v c0
  have E_SHARE := Exa.start ev_SHARE c0
  have S_SHARE := Sta.start ev_SHARE (Or.inr ⟨(hw _ (List.mem_of_getElem? (i := 1) rfl)), (hw _ (List.mem_of_getElem? (i := 2) rfl))⟩)
  obtain ⟨a_UPDATE, ev_UPDATE⟩ := exa_v c1
  have E_UPDATE := Exa.start ev_UPDATE c1
  have S_UPDATE := Sta.start ev_UPDATE (Or.inr ⟨(hw _ (List.mem_of_getElem? (i := 1) rfl)), (hw _ (List.mem_of_getElem? (i := 4) rfl))⟩)
  have F_SHARE_ordinal := Fld.start ((fld_at ev_SHARE).symm.trans (own_eqI c2))
  have F_UPDATE_ordinal := Fld.start ((fld_at ev_UPDATE).symm.trans (own_eqI c3))
  obtain ⟨n, o, h1, h2, h3, _, L, rfl, ⟨rfl, N⟩, hq⟩ := own_rm0 l s _ hw tables_1 i0 i1 a_SHARE a_UPDATE s.heap s.heap.size (Nat.le_refl _) S_SHARE E_SHARE S_UPDATE E_UPDATE (own_ne F_SHARE_ordinal F_UPDATE_ordinal (own_nv (by decide))) p e ha hc hk s m _ below hf ((Spec.applies_iff_loose hf).mp happ).1 ⟨rfl, State.Warmed39.refl s, rfl⟩ trivial
  refine ⟨n, _, h1, h2, h3, hpost _ _ _ _ _ _ ⟨Cond.after_iff.mpr rfl, Cond.after_iff.mpr (eq_i res_at (Term.int_eval (1)) rfl), trivial⟩ ⟨hq.1, hq.2.1, (hq.2.2.sift fun y hy => Or.inr (N y hy)).mono (by decide) (by decide)⟩⟩
theorem main_1_1 : Claimed_1_1 := comes_1 fun _ _ _ _ _ _ h hF => ⟨h.1, hF⟩
theorem main_1_2 : Claimed_1_2 := comes_1 fun _ _ _ _ _ _ h hF => ⟨h.2.1, hF⟩
end Jvm.Pilot.@@N@@
namespace Jvm.Pilot.@@N@@
open Jvm Jvm.ClassFile Sem Op Lib Jvm.Free Jvm.Stand Jvm.Pilot.@@N@@.Jvm.D
/-! MADE BY PROGRAM (witnessworld.py) out of the Statement's table words and the real class files: 12 classes; the members and pool entries that the words name. The judged class is class 1, her method 1. -/
namespace start1
open Jvm.ClassFile
def u (s : String) : CpInfo := .utf8 (stringToUtf16 s)
/-- a pool by its gaps: so many unusable entries, then the entry; so many at the end -/
def gap : Nat → List CpInfo → List CpInfo
  | 0, r => r
  | n + 1, r => .unusable :: gap n r
def poolList (es : List (Nat × CpInfo)) (last : Nat) : List CpInfo := es.foldr (fun e r => gap e.1 (e.2 :: r)) (gap last [])
def pool (es : List (Nat × CpInfo)) (last : Nat) : Array CpInfo := ⟨poolList es last⟩
def fileOf (pool : Array CpInfo) (this : Nat) (attrs : Array Attribute := #[]) (ms : Array MethodInfo := #[]) (fl : Nat := 33) (sup : Nat := 0) (ifs : Array Nat := #[]) (fds : Array FieldInfo := #[]) : ClassFile where
  minorVersion := 0
  majorVersion := 65
  constantPool := pool
  accessFlags := fl
  thisClass := this
  superClass := sup
  interfaces := ifs
  fields := fds
  methods := ms
  attributes := attrs
def plain (name : String) (sup : Option ClassId) : Class where
  name := name
  kind := .ordinary
  loader := none
  accessFlags := 33
  super := sup
  interfaces := #[]
  cf := none
  fields := #[]
  methods := #[]
  instanceTypes := #[]
  staticTypes := #[]
  resolved := #[]
  callSites := []
  init := .initialized
  statics := none
  mirror := none

def pool0 : Array CpInfo := pool [(5, u "<init>"), (0, u "()V"), (1, .class_ 10), (1, u "java/lang/Object")] 113

def k0m0 : Method := { name := "<init>", desc := "()V", sig := { parameters := [], returnType := none }, accessFlags := 1, code := none }
/-- java/lang/Object -/
def k0 : Class := { plain "java/lang/Object" none with
  accessFlags := 33
  interfaces := #[]
  cf := some (fileOf pool0 8 #[] #[{ accessFlags := 1, nameIndex := 5, descriptorIndex := 6, attributes := #[] }] 33 0 #[] #[])
  fields := #[]
  methods := #[k0m0]
  instanceTypes := #[]
  staticTypes := #[]
  resolved := Array.replicate 124 none
  statics := none }

def pool1 : Array CpInfo := pool [(2, .class_ 4), (1, u "java/lang/Object"), (0, u "<init>"), (0, u "()V"), (0, .fieldref 8 9), (0, .class_ 10), (0, .nameAndType 11 12), (0, u "com/example/chiron/chiron/sql/LockingClause$Strength"), (0, u "SHARE"), (0, u "Lcom/example/chiron/chiron/sql/LockingClause$Strength;"), (0, .fieldref 8 14), (0, .nameAndType 15 12), (0, u "UPDATE"), (0, .methodref 8 17), (0, .nameAndType 18 19), (0, u "conflictsWith"), (0, u "(Lcom/example/chiron/chiron/sql/LockingClause$Strength;)Z"), (0, .class_ 21), (0, u "com/example/chiron/chiron/sql/StrengthConflictsWithPinLaw"), (2, u "law"), (0, u "(II)Z")] 7

def k1m0 : Method := { name := "<init>", desc := "()V", sig := { parameters := [], returnType := none }, accessFlags := 2, code := none }
def k1c1 : Code := { maxStack := 2, maxLocals := 7, code := code, exceptionTable := #[], attributes := #[] }
def k1m1 : Method := { name := "law", desc := "(II)Z", sig := { parameters := [.int, .int], returnType := some .boolean }, accessFlags := 9, code := some k1c1 }
/-- com/example/chiron/chiron/sql/StrengthConflictsWithPinLaw -/
def k1 : Class := { plain "com/example/chiron/chiron/sql/StrengthConflictsWithPinLaw" (some 0) with
  accessFlags := 49
  interfaces := #[]
  cf := some (fileOf pool1 20 #[] #[{ accessFlags := 2, nameIndex := 5, descriptorIndex := 6, attributes := #[] }, { accessFlags := 9, nameIndex := 24, descriptorIndex := 25, attributes := #[] }] 49 2 #[] #[])
  fields := #[]
  methods := #[k1m0, k1m1]
  instanceTypes := #[]
  staticTypes := #[]
  resolved := Array.replicate 33 none
  statics := none }

def pool2 : Array CpInfo := pool [(1, .class_ 2), (0, u "java/lang/constant/Constable"), (0, .class_ 4), (0, u "java/lang/Object")] 6

/-- java/lang/constant/Constable -/
def k2 : Class := { plain "java/lang/constant/Constable" (some 0) with
  accessFlags := 1537
  interfaces := #[]
  cf := some (fileOf pool2 1 #[] #[] 1537 3 #[] #[])
  fields := #[]
  methods := #[]
  instanceTypes := #[]
  staticTypes := #[]
  resolved := Array.replicate 11 none
  statics := none }

def pool3 : Array CpInfo := pool [(1, .class_ 2), (0, u "java/lang/Comparable"), (0, .class_ 4), (0, u "java/lang/Object")] 7

/-- java/lang/Comparable -/
def k3 : Class := { plain "java/lang/Comparable" (some 0) with
  accessFlags := 1537
  interfaces := #[]
  cf := some (fileOf pool3 1 #[] #[] 1537 3 #[] #[])
  fields := #[]
  methods := #[]
  instanceTypes := #[]
  staticTypes := #[]
  resolved := Array.replicate 12 none
  statics := none }

def pool4 : Array CpInfo := pool [(1, .class_ 2), (0, u "java/io/Serializable"), (0, .class_ 4), (0, u "java/lang/Object")] 2

/-- java/io/Serializable -/
def k4 : Class := { plain "java/io/Serializable" (some 0) with
  accessFlags := 1537
  interfaces := #[]
  cf := some (fileOf pool4 1 #[] #[] 1537 3 #[] #[])
  fields := #[]
  methods := #[]
  instanceTypes := #[]
  staticTypes := #[]
  resolved := Array.replicate 7 none
  statics := none }

def pool5 : Array CpInfo := pool [(2, .class_ 4), (1, u "java/lang/Enum"), (0, u "name"), (0, u "Ljava/lang/String;"), (2, u "ordinal"), (0, u "I"), (1, .class_ 14), (1, u "java/lang/Object"), (4, u "hash"), (86, .class_ 108), (1, u "java/lang/Enum$EnumDesc"), (2, .class_ 112), (0, u "java/lang/constant/Constable"), (0, .class_ 114), (0, u "java/lang/Comparable"), (0, .class_ 116), (0, u "java/io/Serializable")] 87

/-- java/lang/Enum -/
def k5 : Class := { plain "java/lang/Enum" (some 0) with
  accessFlags := 1057
  interfaces := #[2, 3, 4]
  cf := some (fileOf pool5 2 #[.nestMembers #[106]] #[] 1057 12 #[111, 113, 115] #[{ accessFlags := 18, nameIndex := 5, descriptorIndex := 6, attributes := #[] }, { accessFlags := 18, nameIndex := 9, descriptorIndex := 10, attributes := #[] }, { accessFlags := 2, nameIndex := 19, descriptorIndex := 10, attributes := #[] }])
  fields := #[{ name := "name", type := (.object "java/lang/String"), accessFlags := 18, slot := 0, constantValue := 0 }, { name := "ordinal", type := .int, accessFlags := 18, slot := 1, constantValue := 0 }, { name := "hash", type := .int, accessFlags := 2, slot := 2, constantValue := 0 }]
  methods := #[]
  instanceTypes := #[(.object "java/lang/String"), .int, .int]
  staticTypes := #[]
  resolved := Array.replicate 204 none
  statics := none }

def pool6 : Array CpInfo := pool [(1, .class_ 2), (0, u "com/example/chiron/chiron/sql/LockingClause$Strength"), (2, u "SHARE"), (0, u "Lcom/example/chiron/chiron/sql/LockingClause$Strength;"), (0, .fieldref 1 8), (0, .nameAndType 9 6), (0, u "UPDATE"), (2, u "$VALUES"), (0, u "[Lcom/example/chiron/chiron/sql/LockingClause$Strength;"), (6, .class_ 22), (1, u "java/lang/Enum"), (8, u "sqlName"), (0, u "Ljava/lang/String;"), (22, u "conflictsWith"), (0, u "(Lcom/example/chiron/chiron/sql/LockingClause$Strength;)Z"), (7, .class_ 65), (0, u "com/example/chiron/chiron/sql/LockingClause")] 2

def k6c0 : Code := { maxStack := 2, maxLocals := 2, code := prog_82_method_5_code, exceptionTable := #[], attributes := #[] }
def k6m0 : Method := { name := "conflictsWith", desc := "(Lcom/example/chiron/chiron/sql/LockingClause$Strength;)Z", sig := { parameters := [(.object "com/example/chiron/chiron/sql/LockingClause$Strength")], returnType := some .boolean }, accessFlags := 1, code := some k6c0 }
/-- com/example/chiron/chiron/sql/LockingClause$Strength -/
def k6 : Class := { plain "com/example/chiron/chiron/sql/LockingClause$Strength" (some 5) with
  accessFlags := 16433
  interfaces := #[]
  cf := some (fileOf pool6 1 #[.nestHost 64] #[{ accessFlags := 1, nameIndex := 55, descriptorIndex := 56, attributes := #[] }] 16433 20 #[] #[{ accessFlags := 16409, nameIndex := 5, descriptorIndex := 6, attributes := #[] }, { accessFlags := 16409, nameIndex := 9, descriptorIndex := 6, attributes := #[] }, { accessFlags := 18, nameIndex := 31, descriptorIndex := 32, attributes := #[] }, { accessFlags := 4122, nameIndex := 12, descriptorIndex := 13, attributes := #[] }])
  fields := #[{ name := "SHARE", type := (.object "com/example/chiron/chiron/sql/LockingClause$Strength"), accessFlags := 16409, slot := 0, constantValue := 0 }, { name := "UPDATE", type := (.object "com/example/chiron/chiron/sql/LockingClause$Strength"), accessFlags := 16409, slot := 1, constantValue := 0 }, { name := "sqlName", type := (.object "java/lang/String"), accessFlags := 18, slot := 3, constantValue := 0 }, { name := "$VALUES", type := (.array (.object "com/example/chiron/chiron/sql/LockingClause$Strength")), accessFlags := 4122, slot := 2, constantValue := 0 }]
  methods := #[k6m0]
  instanceTypes := #[(.object "java/lang/String"), .int, .int, (.object "java/lang/String")]
  staticTypes := #[(.object "com/example/chiron/chiron/sql/LockingClause$Strength"), (.object "com/example/chiron/chiron/sql/LockingClause$Strength"), (.array (.object "com/example/chiron/chiron/sql/LockingClause$Strength"))]
  resolved := Array.replicate 68 none
  statics := some 0 }

def pool7 : Array CpInfo := pool [(1, u "java/lang/Cloneable"), (0, .class_ 1), (0, u "java/lang/Object"), (0, .class_ 3)] 3

/-- java/lang/Cloneable -/
def k7 : Class := { plain "java/lang/Cloneable" (some 0) with
  accessFlags := 1537
  interfaces := #[]
  cf := some (fileOf pool7 2 #[] #[] 1537 4 #[] #[])
  fields := #[]
  methods := #[]
  instanceTypes := #[]
  staticTypes := #[]
  resolved := Array.replicate 8 none
  statics := none }

/-- the primitive byte -/
def k8 : Class := { plain "byte" none with kind := .primitive 'B', accessFlags := 0x411 }
/-- [B -/
def k9 : Class := { plain "[B" (some 0) with kind := .array 8 .byte, interfaces := #[7, 4], accessFlags := 1041 }

/-- the primitive int -/
def k10 : Class := { plain "int" none with kind := .primitive 'I', accessFlags := 0x411 }
/-- [I -/
def k11 : Class := { plain "[I" (some 0) with kind := .array 10 .int, interfaces := #[7, 4], accessFlags := 1041 }

def heap : Heap := #[{ cls := 6, slots := #[.ref 1, .ref 2, .null], vm := .statics 6 },
  { cls := 6, slots := #[.null, .int 0, .int 0, .null], vm := .none },
  { cls := 6, slots := #[.null, .int 1, .int 0, .null], vm := .none }]
def classes : Array Class := #[k0, k1, k2, k3, k4, k5, k6, k7, k8, k9, k10, k11]
def interned : List (Array UInt16 × Addr) := []
def slotsUsed : Nat := 11
def theMethod : MethodId := ⟨1, 1⟩
def args0 : Array Value := #[.int 5, .int 4]
def aboutOver (below : List Frame) : State where
  vm := { classes := classes, interned := interned.toArray }
  heap := heap
  slotsUsed := slotsUsed
  threads := #[{ frames := .invoking theMethod args0 :: below }]
def below0 : List Frame := [.native { method := ⟨0, 0⟩, args := #[] }]
def about1 : State := aboutOver below0
def p0 : Program := .bare "" "" ""
def e0 : Env := launch0.env 0 0 0
theorem w_frames : about1.frames = Frame.invoking theMethod args0 :: below0 := rfl
set_option maxRecDepth 65536 in
theorem w_args : argsFit about1.vm theMethod args0 = true := by decide +kernel
set_option maxRecDepth 65536 in
theorem w_heap : heapFits about1 = true := by decide +kernel
set_option maxRecDepth 65536 in
theorem w_runnable : about1.curStatus? = some .runnable := by decide +kernel
set_option maxRecDepth 65536 in
theorem w_alone : about1.alone = true := by decide +kernel
set_option maxRecDepth 65536 in
theorem w_named : about1.methodNamed? x = some theMethod := by decide +kernel
set_option maxRecDepth 65536 in
theorem w_hears : about1.hears theMethod below0 = true := by decide +kernel
set_option maxRecDepth 65536 in
theorem w_ripe : about1.ripe theMethod args0 below0 = true := by decide +kernel
theorem w_running : about1.status = .running := rfl
set_option maxRecDepth 65536 in
theorem w_room : about1.hasRoom e0.platform room_1 = true :=
  launch0.hasRoom_least _ room_1 (by decide +kernel) (by decide +kernel) (by decide +kernel) (by decide +kernel) (by decide +kernel) (by decide +kernel)
theorem allAtoms_all (ts : List Jvm.Cond) (a : Array Jvm.Value) (st : Jvm.State) : (allAtoms ts).before a st = ts.all (fun c => c.before a st) := by
  induction ts with
  | nil => rfl
  | cons c t ih =>
    show (Jvm.Cond.and c (allAtoms t)).before a st = _
    rw [Jvm.Cond.before_and, ih, List.all_cons]
def words1 : List Jvm.Cond := Jvm.Cond.code x code maxLocals ret :: tables_1
/-- a 'code' word, met by the world's own term for the bytes: nothing is compared byte by byte -/
theorem code_word {y : MethodName} {bytes : ByteArray} {mx : Nat} {rt : Option FieldType} {a : Array Value} {s : State} {m : MethodId} {meth : Method} {c : Code} (h1 : s.methodNamed? y = some m) (h2 : s.vm.method? m = some meth) (h3 : meth.code = some c) (h4 : c.code = bytes)
    (h5 : (c.maxLocals == mx && c.exceptionTable.isEmpty && decide (c.maxStack ≤ mostOperands) && decide (meth.sig.returnType = rt) && !meth.locks && decide (parseMethodDescriptor y.desc = some meth.sig)) = true) : (Jvm.Cond.code y bytes mx rt).before a s = true := by
  simp only [Bool.and_eq_true, beq_iff_eq, Bool.not_eq_true', decide_eq_true_eq] at h5
  obtain ⟨⟨⟨⟨⟨g1, g2⟩, g3⟩, g4⟩, g5⟩, g6⟩ := h5
  simp [Cond.before, Cond.holds, Cond.value, h1, h2, h3, h4, g1, g2, g3, g4, g5, g6]
def isCode : Jvm.Cond → Bool
  | .code _ _ _ _ => true
  | _ => false
theorem all_split {L : List Jvm.Cond} {P : Jvm.Cond → Bool} (h1 : L.all (fun c => isCode c || P c) = true) (h2 : ∀ c ∈ L.filter isCode, P c = true) : L.all P = true := by
  refine List.all_eq_true.mpr fun c hc => ?_
  have h := List.all_eq_true.mp h1 c hc
  rcases Bool.eq_false_or_eq_true (isCode c) with hi | hi
  · exact h2 c (List.mem_filter.mpr ⟨hc, hi⟩)
  · simpa [hi] using h
set_option maxRecDepth 65536 in
theorem w_c0 : (Jvm.Cond.code x code maxLocals ret).before args0 about1 = true := code_word (m := ⟨1, 1⟩) (meth := k1m1) (c := k1c1) (by decide +kernel) rfl rfl rfl (by decide +kernel)
set_option maxRecDepth 65536 in
theorem w_c1 : (Jvm.Cond.code ({ cls := "com/example/chiron/chiron/sql/LockingClause$Strength", name := "conflictsWith", desc := "(Lcom/example/chiron/chiron/sql/LockingClause$Strength;)Z" } : Jvm.MethodName) prog_82_method_5_code (2 : Nat) (Option.some Jvm.ClassFile.FieldType.boolean)).before args0 about1 = true := code_word (m := ⟨6, 0⟩) (meth := k6m0) (c := k6c0) (by decide +kernel) rfl rfl rfl (by decide +kernel)
def codes1 : List Jvm.Cond := [Jvm.Cond.code x code maxLocals ret, Jvm.Cond.code ({ cls := "com/example/chiron/chiron/sql/LockingClause$Strength", name := "conflictsWith", desc := "(Lcom/example/chiron/chiron/sql/LockingClause$Strength;)Z" } : Jvm.MethodName) prog_82_method_5_code (2 : Nat) (Option.some Jvm.ClassFile.FieldType.boolean)]
set_option maxRecDepth 65536 in
theorem codes_eq : words1.filter isCode = codes1 := rfl
theorem w_codes : ∀ c ∈ words1.filter isCode, c.before args0 about1 = true := by
  rw [codes_eq]
  intro c hc
  simp only [codes1, List.mem_cons, List.not_mem_nil, or_false] at hc
  rcases hc with rfl | rfl
  · exact w_c0
  · exact w_c1
set_option maxRecDepth 65536 in
theorem w_t1 : words1.all (fun c => isCode c || c.before args0 about1) = true := by decide +kernel
theorem w_tables : (allAtoms (Jvm.Cond.code x code maxLocals ret :: tables_1)).before args0 about1 = true := by
  rw [allAtoms_all]
  show words1.all (fun c => c.before args0 about1) = true
  refine all_split ?_ w_codes
  rw [w_t1]
set_option maxRecDepth 65536 in
theorem w_case : (Jvm.Cond.and given_1 narrow_1).before args0 about1 = true := by decide +kernel
theorem w_applies : (headSpec (Jvm.Cond.code x code maxLocals ret :: tables_1) room_1).applies x e0.platform about1 = true :=
  (Spec.applies_iff w_frames).mpr ⟨w_running, w_runnable, w_alone, w_named, w_hears, w_ripe, w_room, w_tables⟩
theorem atStart : AtStart classFile x code maxLocals ret World_1 tables_1 room_1 Calls_1 rest_1 Pre_1 launch0 p0 e0 about1 theMethod args0 below0 :=
  ⟨lists_1, trivial, launch0.admits_env _ _ _, launch0.least_env, fairChoices_fair.cas, fairChoices_fair.clock, w_frames, w_args, w_heap, w_applies, trivial, trivial, w_case⟩
end start1
theorem witness_1 : WitnessClaimed_1 := ⟨start1.p0, start1.e0, start1.about1, start1.theMethod, start1.args0, start1.below0, start1.atStart⟩
end Jvm.Pilot.@@N@@
