import JvmDerived
import JvmDerived.Pilot.@@N@@Statement
import JvmDerived.Pilot.@@N@@Code
set_option linter.unusedVariables false
set_option linter.unusedSimpArgs false
namespace Jvm.RoadKit
open Sem ClassFile Op Lib Jvm.Stand Jvm.Free Jvm.LawKit
section New
variable {p : Program} {l : Launch} {e : Env} {R : Room} {s : State} {m : MethodId} {args : Array Value} {below : List Frame} {meth : Method} {c : Code} {T : State} {locs : List Loc} {cells slots : Nat}
theorem retI (X : Stand p l e R s m args below meth c T locs cells slots) (hx : p.tables.exec = Jvm.exec) {pc : Nat} {Ls : Array Slot} {z : Int32} {rest : List Value} (hret : meth.sig.returnType = some .int) (hd : decode c.code pc = .ok (.ireturn, 1)) {fs : List Frame}
    (hl : ∀ (f : JFrame) (acts : List Action), f.method = m → f.locked = none → f.entered = [] → (doReturn e (T.setTop f) acts (some (.int z))).1 = T.setFrames fs) : Steps p.tables e below (T.setTop (mkF m pc Ls (.int z :: rest))) (T.setFrames fs) := by
  have hm' : T.vm.method? m = some meth := X.method'
  have hn : narrow .int (.int z) = .int z := rfl
  show Steps p.tables e below (T.setTop { method := m, pc := pc, locals := Ls, stack := _ :: rest, locked := none }) _
  jvm_step X.here [X.here.top, hx, hd, hm', hret, hn]
  first | (intro acts; rw [hl _ acts rfl rfl rfl]) | rw [hl _ _ rfl rfl rfl]
  exact Steps.refl _
end New
end Jvm.RoadKit
namespace Jvm.Pilot.@@N@@
open Jvm Jvm.ClassFile Sem Op Lib Jvm.Free Jvm.Stand Jvm.LawKit Jvm.RoadKit Bundle Jvm.Pilot.@@N@@.Jvm.D
/-- what a callee leaves that writes nothing: it returns r, the heap is as it was -/
def own_QP (r : Option Value) (h0 : Heap) (n0 : Nat) (v : Option Value) (h : Heap) (L : List Loc) : Prop := v = r ∧ Fr n0 L ∧ h = h0
/-- what the law leaves -/
def own_QL (n0 : Nat) (v : Option Value) (h : Heap) (L : List Loc) : Prop := v = some (.int 1) ∧ Fr n0 L
theorem own_eqI {args : Array Value} {first s : State} {o : Option Outcome} {idx : List Nat} {t : Term} {k : Int32} (h : (Jvm.Cond.eq t (.int k)).value args first o s idx = some true) : t.eval args first o idx s = some (.int k) := by
  obtain ⟨x, y, h1, h2, h3, h4⟩ := cmp_v (Or.inl h)
  have e2 : y = .int k := (Option.some.inj (h2.symm.trans (Term.int_eval k)))
  subst e2
  obtain ⟨z, rfl⟩ : ∃ z, x = .int z := h4
  rw [h1]
  have q : (Jvm.Cond.eq t (.int k)).value args first o s idx = some (decide (z = k)) := Cond.eq_ints h1 h2
  rw [gotT q h]
theorem own_ne {Z : State} {h : Heap} {a b : Addr} {C n d : String} {v w : Value} (F : Fld Z h a C n d v) (G : Fld Z h b C n d w) (hv : v ≠ w) : ¬ a = b := fun e => by
  subst e
  obtain ⟨cell, cf, k, i, f, h1, h2, -, -, -, -, h7⟩ := F
  obtain ⟨cell', cf', k', i', f', g1, g2, -, -, -, -, g7⟩ := G
  cases h1.symm.trans g1
  cases h2.symm.trans g2
  cases h7.symm.trans g7
  exact hv rfl
theorem own_sm {a b : Addr} (h : a = b) : decide ((.ref a : Value) = .ref b) = true := decide_eq_true (congrArg Value.ref h)
theorem own_df {a b : Addr} (h : ¬ a = b) : decide ((.ref a : Value) = .ref b) = false := decide_eq_false fun q => h (Value.ref.inj q)
theorem own_nv {x y : Int32} (h : x ≠ y) : (Value.int x) ≠ .int y := fun q => h (Value.int.inj q)
theorem own_m3 (k : Int32) : (k &&& (3 : Int32)) = 0 ∨ (k &&& (3 : Int32)) = 1 ∨ (k &&& (3 : Int32)) = 2 ∨ (k &&& (3 : Int32)) = 3 := by
  have h := c_and k 3 (by decide)
  have e0 : (0 : Int32).toInt = 0 := by decide
  have e1 : (1 : Int32).toInt = 1 := by decide
  have e2 : (2 : Int32).toInt = 2 := by decide
  have e3 : (3 : Int32).toInt = 3 := by decide
  simp only [← Int32.toInt_inj, e0, e1, e2, e3] at *
  omega
theorem own_staKeep {Z : State} {h h' : Heap} {b : Addr} {C n d K : String} {v : Value} (F : Sta Z h C n d v) (Kp : Keep h h' [b]) (E : Exa Z h b K) : Sta Z h' C n d v := by
  obtain ⟨cf, i, k, f, st, cell, h1, h2, h3, h4, h5, h6, h7⟩ := F
  obtain ⟨cb, kb, e1, -, -, e4, -⟩ := E
  have ne : st ≠ b := fun q => by
    subst q
    cases h5.symm.trans e1
    rw [h6] at e4
    cases e4
  exact ⟨cf, i, k, f, st, cell, h1, h2, h3, h4, Kp.2.1 st cell h5 (ninS ne nin0), h6, h7⟩
theorem own_ns0 {Z : State} {a0 : Array Value} {O K : String} {n : Nat} (w : (Jvm.Cond.noSuperclass O).before a0 Z = true) (wk : (Jvm.Cond.instantiable K n).before a0 Z = true) (hn : O ≠ K) : NS Z O K := by
  obtain ⟨c, k, h1, h2, h3, -, -⟩ := Cond.noSuperclass_spec w
  obtain ⟨t, k', g1, -⟩ := Cond.instantiable_spec wk
  have ne := ids_ne h1 g1 hn
  refine ⟨c, t, h1, g1, fun fuel => ?_⟩
  cases fuel with
  | zero => rfl
  | succ f => simp [Vm.isSubclassAux, ne, h2, h3]
theorem own_nsno {Z : State} {a0 : Array Value} {C S K : String} {n : Nat} (w : (Jvm.Cond.superclass C S).before a0 Z = true) (wk : (Jvm.Cond.instantiable K n).before a0 Z = true) (q : NS Z C K) (hn : C ≠ K) : ∃ c t, Z.vm.findClass C = some c ∧ Z.vm.findClass K = some t ∧ Z.vm.assignable c t = false := by
  obtain ⟨c, t, h0, g0, n3⟩ := q
  obtain ⟨p, k, kp, h1, h2, h3, h4, h5, -, h7⟩ := Cond.superclass_spec h0 w
  obtain ⟨t', k', g1, g2, g5, g7, -⟩ := Cond.instantiable_spec wk
  cases g0.symm.trans g1
  have ne := ids_ne h0 g0 hn
  have g8 : k'.isInterface = false := (Bool.or_eq_false_iff.mp g7).1
  refine ⟨c, t, h0, g0, ?_⟩
  show Z.vm.assignableAux (255 + 1) c t = false
  simp [Vm.assignableAux, ne, h2, g2, h5, g5, g8, Vm.isSubclass, n3]
theorem own_c4 (P Q R : Prop) [Decidable P] [Decidable Q] [Decidable R] : (P ∧ Q ∧ R) ∨ (P ∧ Q ∧ ¬ R) ∨ (P ∧ ¬ Q) ∨ ¬ P := by
  by_cases p : P
  · by_cases q : Q
    · by_cases r : R
      · exact Or.inl ⟨p, q, r⟩
      · exact Or.inr (Or.inl ⟨p, q, r⟩)
    · exact Or.inr (Or.inr (Or.inl ⟨p, q⟩))
  · exact Or.inr (Or.inr (Or.inr p))
/-- what equals says of two nodes -/
def own_eq (p q : Addr) (o o' : Int64) (z z' : Int32) : Int32 := if q = p ∧ o' = o ∧ z' = z then 1 else 0
theorem own_eq1 {p q : Addr} {o o' : Int64} {z z' : Int32} (h1 : q = p) (h2 : o' = o) (h3 : z' = z) : own_eq p q o o' z z' = 1 := if_pos ⟨h1, h2, h3⟩
theorem own_eq0 {p q : Addr} {o o' : Int64} {z z' : Int32} (h : ¬ (q = p ∧ o' = o ∧ z' = z)) : own_eq p q o o' z z' = 0 := if_neg h
theorem own_one (s : Int32) : ¬ (if (1 : Int32) < s then s else 1) < 1 := by
  split
  · rename_i h
    rw [Int32.lt_iff_toInt_lt] at *
    omega
  · decide
theorem own_m3' (k : Int32) : (k &&& (3 : Int32)) = 0 ∨ (k &&& (3 : Int32)) = 1 ∨ (k &&& (3 : Int32)) = 2 ∨ (k &&& (3 : Int32)) = 3 := own_m3 k
theorem own_seven (k : Int32) (hk : k = 0 ∨ k = 1 ∨ k = 2 ∨ k = 3) (P Q R : Prop) [Decidable P] [Decidable Q] [Decidable R] : (k = 0 ∧ P ∧ Q ∧ R) ∨ (k = 0 ∧ P ∧ Q ∧ ¬ R) ∨ (k = 0 ∧ P ∧ ¬ Q) ∨ (k = 0 ∧ ¬ P) ∨ k = 1 ∨ k = 2 ∨ k = 3 := by
  rcases hk with h | h | h | h
  · rcases own_c4 P Q R with ⟨a, b, c⟩ | ⟨a, b, c⟩ | ⟨a, b⟩ | a
    · exact Or.inl ⟨h, a, b, c⟩
    · exact Or.inr (Or.inl ⟨h, a, b, c⟩)
    · exact Or.inr (Or.inr (Or.inl ⟨h, a, b⟩))
    · exact Or.inr (Or.inr (Or.inr (Or.inl ⟨h, a⟩)))
  · exact Or.inr (Or.inr (Or.inr (Or.inr (Or.inl h))))
  · exact Or.inr (Or.inr (Or.inr (Or.inr (Or.inr (Or.inl h)))))
  · exact Or.inr (Or.inr (Or.inr (Or.inr (Or.inr (Or.inr h)))))
theorem d2_0 : decode prog_113_method_1_code 0 = .ok (.aload_n 0, 1) := by decide +kernel
theorem d2_1 : decode prog_113_method_1_code 1 = .ok (.invokespecial 1, 3) := by decide +kernel
theorem d2_4 : decode prog_113_method_1_code 4 = .ok (.iload 4, 2) := by decide +kernel
theorem d2_6 : decode prog_113_method_1_code 6 = .ok (.iconst 1, 1) := by decide +kernel
theorem d2_7 : decode prog_113_method_1_code 7 = .ok (.if_icmp .ge 18, 3) := by decide +kernel
theorem d2_25 : decode prog_113_method_1_code 25 = .ok (.aload_n 0, 1) := by decide +kernel
theorem d2_26 : decode prog_113_method_1_code 26 = .ok (.aload_n 1, 1) := by decide +kernel
theorem d2_27 : decode prog_113_method_1_code 27 = .ok (.putfield 16, 3) := by decide +kernel
theorem d2_30 : decode prog_113_method_1_code 30 = .ok (.aload_n 0, 1) := by decide +kernel
theorem d2_31 : decode prog_113_method_1_code 31 = .ok (.lload_n 2, 1) := by decide +kernel
theorem d2_32 : decode prog_113_method_1_code 32 = .ok (.putfield 22, 3) := by decide +kernel
theorem d2_35 : decode prog_113_method_1_code 35 = .ok (.aload_n 0, 1) := by decide +kernel
theorem d2_36 : decode prog_113_method_1_code 36 = .ok (.iload 4, 2) := by decide +kernel
theorem d2_38 : decode prog_113_method_1_code 38 = .ok (.putfield 26, 3) := by decide +kernel
theorem d2_41 : decode prog_113_method_1_code 41 = .ok (.return_, 1) := by decide +kernel
theorem pn_2 : plainName "com/example/tablewright/tablewright/model/Varnode" = true := by first | (simp [plainName, overriddenIn]; done) | decide +kernel
theorem ef_2 (m : MethodId) (x0 : Addr) (x1 : Addr) (x2 : Int64) (x3 : Int32) : entryFrame m #[(.ref x0), (.ref x1), (.long x2), (.int x3)] 5 = mkF m 0 #[.val (.ref x0), .val (.ref x1), .val (.long x2), .second, .val (.int x3)] [] := by first | (simp [entryFrame, mkF, argsToLocals, Value.category]; done) | rfl
def Q2 (Z : State) (a1 : Addr) (a2 : Addr) (q3 : Int64) (p4 : Int32) (u_space_a1 : Value) (u_offset_a1 : Value) (u_size_a1 : Value) (h0 : Heap) (n0 : Nat) (v : Option Value) (h : Heap) (L : List Loc) : Prop := v = none ∧ Fr n0 L ∧ Keep h0 h [a1] ∧ Exa Z h a1 "com/example/tablewright/tablewright/model/Varnode" ∧ Fld Z h a1 "com/example/tablewright/tablewright/model/Varnode" "space" "Lcom/example/tablewright/tablewright/model/AddressSpace;" (.ref a2) ∧ Fld Z h a1 "com/example/tablewright/tablewright/model/Varnode" "offset" "J" (.long q3) ∧ Fld Z h a1 "com/example/tablewright/tablewright/model/Varnode" "size" "I" (.int p4)
set_option maxRecDepth 65536 in
set_option maxHeartbeats 40000000 in
theorem rm2 (l : Launch) (Z : State) (a0 : Array Value) (hw : ∀ d ∈ tables_1, d.before a0 Z = true) (ws : List Jvm.Cond) (a1 : Addr) (a2 : Addr) (q3 : Int64) (p4 : Int32) (u_space_a1 : Value) (u_offset_a1 : Value) (u_size_a1 : Value) (h0 : Heap) (n0 : Nat) (Z0 : n0 ≤ h0.size) (E_a1 : Exa Z h0 a1 "com/example/tablewright/tablewright/model/Varnode") (F_space_a1 : Fld Z h0 a1 "com/example/tablewright/tablewright/model/Varnode" "space" "Lcom/example/tablewright/tablewright/model/AddressSpace;" u_space_a1) (g_a1 : n0 ≤ a1) (F_offset_a1 : Fld Z h0 a1 "com/example/tablewright/tablewright/model/Varnode" "offset" "J" u_offset_a1) (F_size_a1 : Fld Z h0 a1 "com/example/tablewright/tablewright/model/Varnode" "size" "I" u_size_a1) (hc7 : ¬ (p4 < (1 : Int32))) :
    MetFree l (⟨"com/example/tablewright/tablewright/model/Varnode", "<init>", "(Lcom/example/tablewright/tablewright/model/AddressSpace;JI)V"⟩ : MethodName) (head1 (Jvm.Cond.code (⟨"com/example/tablewright/tablewright/model/Varnode", "<init>", "(Lcom/example/tablewright/tablewright/model/AddressSpace;JI)V"⟩ : MethodName) prog_113_method_1_code 5 none :: ws) ({ frames := 1, cells := 0, slots := 0, locals := 12 } : Room)) (fun a U => a = #[(.ref a1), (.ref a2), (.long q3), (.int p4)] ∧ Z.Warmed39 U.vm ∧ U.heap = h0) (fun _ _ _ _ _ => True) (fun _ U o U' => ∃ v L, o = .returned v ∧ Q2 Z a1 a2 q3 p4 u_space_a1 u_offset_a1 u_size_a1 h0 n0 v U'.heap L ∧ FrameEnd U o U' L ({ frames := 1, cells := 0, slots := 0, locals := 12 } : Room).cells ({ frames := 1, cells := 0, slots := 0, locals := 12 } : Room).slots) := by
  refine MetFree.of_bodySF (plainFor_of_name pn_2) hisR ?_
  intro p e s m args below meth c s₁ Bd hml0 hP hK
  obtain ⟨rfl, hZ, hh⟩ := hP
  have hx := Bd.exec
  have hby := Bd.bytes
  have hml : c.maxLocals = 5 := hml0
  have hown : s.vm.findClass "com/example/tablewright/tablewright/model/Varnode" = some m.cls := findClass_of_methodNamed Bd.named
  have hnm := (name_of_methodNamed Bd.named Bd.method).1
  have X0 : Stand p l e ({ frames := 1, cells := 0, slots := 0, locals := 12 } : Room) s m #[(.ref a1), (.ref a2), (.long q3), (.int p4)] below meth c s₁ [] 0 0 := Stand.of_body Bd
  have e0 : s₁.heap = h0 := by rw [← hh, Bd.state]; rfl
  have N0 := Fr.nil n0
  have pre0 : ∀ t, Steps p.tables e below (s₁.setTop (mkF m 0 #[.val (.ref a1), .val (.ref a2), .val (.long q3), .second, .val (.int p4)] [])) t → Steps p.tables e below (s₁.setTop (entryFrame m #[(.ref a1), (.ref a2), (.long q3), (.int p4)] 5)) t := fun t k => castTop (ef_2 m a1 a2 q3 p4) k
  obtain ⟨T5, X5, e5, st5⟩ := initO X0 hx hZ hown (hw _ (List.mem_of_getElem? (i := 14) rfl)) (hw _ (List.mem_of_getElem? (i := 15) rfl)) (hw _ (List.mem_of_getElem? (i := 16) rfl)) e0 (g := (mkF m 1 #[.val (.ref a1), .val (.ref a2), .val (.long q3), .second, .val (.int p4)] [(.ref a1)])) rfl (by rw [hml]; rfl) rfl (hb hby d2_1) (by decide) (W := 0) (by show 2 * 0 + _ ≤ _; exact Nat.le_of_eq rfl) (by decide)
  obtain ⟨T6, h6, X6, e6, W6, st6⟩ := putF X5 hx hZ hown (host := "") (Or.inl (hw _ (List.mem_of_getElem? (i := 17) rfl))) Via.refl e5 F_space_a1 E_a1 (Or.inr ⟨(hw _ (List.mem_of_getElem? (i := 18) rfl)), rfl, hnm⟩) (hw _ (List.mem_of_getElem? (i := 9) rfl)) (ty := (.object "com/example/tablewright/tablewright/model/AddressSpace")) (by decide) rfl rfl (g := (mkF m 27 #[.val (.ref a1), .val (.ref a2), .val (.long q3), .second, .val (.int p4)] [(.ref a2), (.ref a1)])) rfl rfl (hb hby d2_27)
  have Fw6 := F_space_a1.same W6
  have K6 : Keep h0 h6 [a1] := (Keep.refl h0 [a1]).wr W6 (Or.inl (List.mem_of_getElem? (i := 0) rfl))
  have N6 := Fr.snoc X6 N0 g_a1
  obtain ⟨T7, h7, X7, e7, W7, st7⟩ := putF X6 hx hZ hown (host := "") (Or.inl (hw _ (List.mem_of_getElem? (i := 19) rfl))) Via.refl e6 (F_offset_a1.other W6 (Or.inr (slot_ne (Or.inr (hw _ (List.mem_of_getElem? (i := 20) rfl))) (Or.inr (hw _ (List.mem_of_getElem? (i := 18) rfl))) (by decide) (t := .long) (t' := (.object "com/example/tablewright/tablewright/model/AddressSpace")) (by decide) (by decide)))) (E_a1.wr W6) (Or.inr ⟨(hw _ (List.mem_of_getElem? (i := 20) rfl)), rfl, hnm⟩) (hw _ (List.mem_of_getElem? (i := 9) rfl)) (ty := .long) (by decide) rfl rfl (g := (mkF m 32 #[.val (.ref a1), .val (.ref a2), .val (.long q3), .second, .val (.int p4)] [(.long q3), (.ref a1)])) rfl rfl (hb hby d2_32)
  have Fw7 := (F_offset_a1.other W6 (Or.inr (slot_ne (Or.inr (hw _ (List.mem_of_getElem? (i := 20) rfl))) (Or.inr (hw _ (List.mem_of_getElem? (i := 18) rfl))) (by decide) (t := .long) (t' := (.object "com/example/tablewright/tablewright/model/AddressSpace")) (by decide) (by decide)))).same W7
  have K7 : Keep h0 h7 [a1] := K6.wr W7 (Or.inl (List.mem_of_getElem? (i := 0) rfl))
  have N7 := Fr.snoc X7 N6 g_a1
  obtain ⟨T8, h8, X8, e8, W8, st8⟩ := putF X7 hx hZ hown (host := "") (Or.inl (hw _ (List.mem_of_getElem? (i := 21) rfl))) Via.refl e7 ((F_size_a1.other W6 (Or.inr (slot_ne (Or.inr (hw _ (List.mem_of_getElem? (i := 22) rfl))) (Or.inr (hw _ (List.mem_of_getElem? (i := 18) rfl))) (by decide) (t := .int) (t' := (.object "com/example/tablewright/tablewright/model/AddressSpace")) (by decide) (by decide)))).other W7 (Or.inr (slot_ne (Or.inr (hw _ (List.mem_of_getElem? (i := 22) rfl))) (Or.inr (hw _ (List.mem_of_getElem? (i := 20) rfl))) (by decide) (t := .int) (t' := .long) (by decide) (by decide)))) ((E_a1.wr W6).wr W7) (Or.inr ⟨(hw _ (List.mem_of_getElem? (i := 22) rfl)), rfl, hnm⟩) (hw _ (List.mem_of_getElem? (i := 9) rfl)) (ty := .int) (by decide) rfl rfl (g := (mkF m 38 #[.val (.ref a1), .val (.ref a2), .val (.long q3), .second, .val (.int p4)] [(.int p4), (.ref a1)])) rfl rfl (hb hby d2_38)
  have Fw8 := ((F_size_a1.other W6 (Or.inr (slot_ne (Or.inr (hw _ (List.mem_of_getElem? (i := 22) rfl))) (Or.inr (hw _ (List.mem_of_getElem? (i := 18) rfl))) (by decide) (t := .int) (t' := (.object "com/example/tablewright/tablewright/model/AddressSpace")) (by decide) (by decide)))).other W7 (Or.inr (slot_ne (Or.inr (hw _ (List.mem_of_getElem? (i := 22) rfl))) (Or.inr (hw _ (List.mem_of_getElem? (i := 20) rfl))) (by decide) (t := .int) (t' := .long) (by decide) (by decide)))).same W8
  have K8 : Keep h0 h8 [a1] := K7.wr W8 (Or.inl (List.mem_of_getElem? (i := 0) rfl))
  have N8 := Fr.snoc X8 N7 g_a1
  obtain ⟨fs, hr, hrun, hended, hW, hsame⟩ := X8.leave (v := none) (fun _ => rfl)
  refine ⟨_, _, pre0 _ ?_, hrun, hended, _, _, rfl, ?_, ⟨_, rfl⟩, hW, hsame.mono (by decide) (by decide)⟩
  · show Steps p.tables e below (s₁.setTop (mkF m 0 #[.val (.ref a1), .val (.ref a2), .val (.long q3), .second, .val (.int p4)] [])) _
    refine XS.aloadN X0.here hx rfl (hb hby d2_0) rfl rfl ?_
    show Steps p.tables e below (s₁.setTop (mkF m 1 #[.val (.ref a1), .val (.ref a2), .val (.long q3), .second, .val (.int p4)] [(.ref a1)])) _
    refine st5 _ ?_
    show Steps p.tables e below (T5.setTop (mkF m 4 #[.val (.ref a1), .val (.ref a2), .val (.long q3), .second, .val (.int p4)] [])) _
    refine XS.iload X5.here hx rfl (hb hby d2_4) rfl ?_
    show Steps p.tables e below (T5.setTop (mkF m 6 #[.val (.ref a1), .val (.ref a2), .val (.long q3), .second, .val (.int p4)] [(.int p4)])) _
    refine XS.iconst X5.here hx rfl (hb hby d2_6) ?_
    show Steps p.tables e below (T5.setTop (mkF m 7 #[.val (.ref a1), .val (.ref a2), .val (.long q3), .second, .val (.int p4)] [(.int (1 : Int32)), (.int p4)])) _
    refine XS.icmpYes X5.here hx rfl (pc0 := 7) (pc' := 25) rfl (hb hby d2_7) rfl (flt hc7).2.1 (by decide) (by decide) ?_
    show Steps p.tables e below (T5.setTop (mkF m 25 #[.val (.ref a1), .val (.ref a2), .val (.long q3), .second, .val (.int p4)] [])) _
    refine XS.aloadN X5.here hx rfl (hb hby d2_25) rfl rfl ?_
    show Steps p.tables e below (T5.setTop (mkF m 26 #[.val (.ref a1), .val (.ref a2), .val (.long q3), .second, .val (.int p4)] [(.ref a1)])) _
    refine XS.aloadN X5.here hx rfl (hb hby d2_26) rfl rfl ?_
    show Steps p.tables e below (T5.setTop (mkF m 27 #[.val (.ref a1), .val (.ref a2), .val (.long q3), .second, .val (.int p4)] [(.ref a2), (.ref a1)])) _
    refine st6 _ ?_
    show Steps p.tables e below (T6.setTop (mkF m 30 #[.val (.ref a1), .val (.ref a2), .val (.long q3), .second, .val (.int p4)] [])) _
    refine XS.aloadN X6.here hx rfl (hb hby d2_30) rfl rfl ?_
    show Steps p.tables e below (T6.setTop (mkF m 31 #[.val (.ref a1), .val (.ref a2), .val (.long q3), .second, .val (.int p4)] [(.ref a1)])) _
    refine XS.lloadN X6.here hx rfl (hb hby d2_31) rfl ?_
    show Steps p.tables e below (T6.setTop (mkF m 32 #[.val (.ref a1), .val (.ref a2), .val (.long q3), .second, .val (.int p4)] [(.long q3), (.ref a1)])) _
    refine st7 _ ?_
    show Steps p.tables e below (T7.setTop (mkF m 35 #[.val (.ref a1), .val (.ref a2), .val (.long q3), .second, .val (.int p4)] [])) _
    refine XS.aloadN X7.here hx rfl (hb hby d2_35) rfl rfl ?_
    show Steps p.tables e below (T7.setTop (mkF m 36 #[.val (.ref a1), .val (.ref a2), .val (.long q3), .second, .val (.int p4)] [(.ref a1)])) _
    refine XS.iload X7.here hx rfl (hb hby d2_36) rfl ?_
    show Steps p.tables e below (T7.setTop (mkF m 38 #[.val (.ref a1), .val (.ref a2), .val (.long q3), .second, .val (.int p4)] [(.int p4), (.ref a1)])) _
    refine st8 _ ?_
    show Steps p.tables e below (T8.setTop (mkF m 41 #[.val (.ref a1), .val (.ref a2), .val (.long q3), .second, .val (.int p4)] [])) _
    exact X8.returnOut hx Bd.returns (hb hby d2_41) hr
  · show Q2 Z a1 a2 q3 p4 u_space_a1 u_offset_a1 u_size_a1 h0 n0 _ T8.heap _
    rw [e8]
    exact ⟨rfl, N8, K8, (((E_a1.wr W6).wr W7).wr W8), ((Fw6.other W7 (Or.inr (slot_ne (Or.inr (hw _ (List.mem_of_getElem? (i := 18) rfl))) (Or.inr (hw _ (List.mem_of_getElem? (i := 20) rfl))) (by decide) (t := (.object "com/example/tablewright/tablewright/model/AddressSpace")) (t' := .long) (by decide) (by decide)))).other W8 (Or.inr (slot_ne (Or.inr (hw _ (List.mem_of_getElem? (i := 18) rfl))) (Or.inr (hw _ (List.mem_of_getElem? (i := 22) rfl))) (by decide) (t := (.object "com/example/tablewright/tablewright/model/AddressSpace")) (t' := .int) (by decide) (by decide)))), (Fw7.other W8 (Or.inr (slot_ne (Or.inr (hw _ (List.mem_of_getElem? (i := 20) rfl))) (Or.inr (hw _ (List.mem_of_getElem? (i := 22) rfl))) (by decide) (t := .long) (t' := .int) (by decide) (by decide)))), Fw8⟩
theorem own_ef0 (m : MethodId) (x0 : Int32) (x1 : Int32) : entryFrame m #[(.int x0), (.int x1)] 2 = mkF m 0 #[.val (.int x0), .val (.int x1)] [] := by first | (simp [entryFrame, mkF, argsToLocals, Value.category]; done) | rfl
theorem own_d_jdk_29_method_65_code_0 : decode jdk_29_method_65_code 0 = .ok (.iload_n 0, 1) := by decide +kernel
theorem own_d_jdk_29_method_65_code_1 : decode jdk_29_method_65_code 1 = .ok (.iload_n 1, 1) := by decide +kernel
theorem own_d_jdk_29_method_65_code_2 : decode jdk_29_method_65_code 2 = .ok (.if_icmp .lt 7, 3) := by decide +kernel
theorem own_d_jdk_29_method_65_code_5 : decode jdk_29_method_65_code 5 = .ok (.iload_n 0, 1) := by decide +kernel
theorem own_d_jdk_29_method_65_code_6 : decode jdk_29_method_65_code 6 = .ok (.goto 4, 3) := by decide +kernel
theorem own_d_jdk_29_method_65_code_9 : decode jdk_29_method_65_code 9 = .ok (.iload_n 1, 1) := by decide +kernel
theorem own_d_jdk_29_method_65_code_10 : decode jdk_29_method_65_code 10 = .ok (.ireturn, 1) := by decide +kernel
theorem own_ef1 (m : MethodId) (x0 : Addr) (x1 : Addr) : entryFrame m #[(.ref x0), (.ref x1)] 3 = mkF m 0 #[.val (.ref x0), .val (.ref x1), .unset] [] := by first | (simp [entryFrame, mkF, argsToLocals, Value.category]; done) | rfl
theorem own_pn1 : plainName "com/example/tablewright/tablewright/model/Varnode" = true := by first | (simp [plainName, overriddenIn]; done) | decide +kernel
theorem own_d_prog_113_method_7_code_0 : decode prog_113_method_7_code 0 = .ok (.aload_n 1, 1) := by decide +kernel
theorem own_d_prog_113_method_7_code_1 : decode prog_113_method_7_code 1 = .ok (.instanceof 17, 3) := by decide +kernel
theorem own_d_prog_113_method_7_code_4 : decode prog_113_method_7_code 4 = .ok (.ifCond .eq 46, 3) := by decide +kernel
theorem own_d_prog_113_method_7_code_7 : decode prog_113_method_7_code 7 = .ok (.aload_n 1, 1) := by decide +kernel
theorem own_d_prog_113_method_7_code_8 : decode prog_113_method_7_code 8 = .ok (.checkcast 17, 3) := by decide +kernel
theorem own_d_prog_113_method_7_code_11 : decode prog_113_method_7_code 11 = .ok (.astore_n 2, 1) := by decide +kernel
theorem own_d_prog_113_method_7_code_12 : decode prog_113_method_7_code 12 = .ok (.aload_n 2, 1) := by decide +kernel
theorem own_d_prog_113_method_7_code_13 : decode prog_113_method_7_code 13 = .ok (.getfield 16, 3) := by decide +kernel
theorem own_d_prog_113_method_7_code_16 : decode prog_113_method_7_code 16 = .ok (.aload_n 0, 1) := by decide +kernel
theorem own_d_prog_113_method_7_code_17 : decode prog_113_method_7_code 17 = .ok (.getfield 16, 3) := by decide +kernel
theorem own_d_prog_113_method_7_code_20 : decode prog_113_method_7_code 20 = .ok (.if_acmp .ne 30, 3) := by decide +kernel
theorem own_d_prog_113_method_7_code_23 : decode prog_113_method_7_code 23 = .ok (.aload_n 2, 1) := by decide +kernel
theorem own_d_prog_113_method_7_code_24 : decode prog_113_method_7_code 24 = .ok (.getfield 22, 3) := by decide +kernel
theorem own_d_prog_113_method_7_code_27 : decode prog_113_method_7_code 27 = .ok (.aload_n 0, 1) := by decide +kernel
theorem own_d_prog_113_method_7_code_28 : decode prog_113_method_7_code 28 = .ok (.getfield 22, 3) := by decide +kernel
theorem own_d_prog_113_method_7_code_31 : decode prog_113_method_7_code 31 = .ok (.lcmp, 1) := by decide +kernel
theorem own_d_prog_113_method_7_code_32 : decode prog_113_method_7_code 32 = .ok (.ifCond .ne 18, 3) := by decide +kernel
theorem own_d_prog_113_method_7_code_35 : decode prog_113_method_7_code 35 = .ok (.aload_n 2, 1) := by decide +kernel
theorem own_d_prog_113_method_7_code_36 : decode prog_113_method_7_code 36 = .ok (.getfield 26, 3) := by decide +kernel
theorem own_d_prog_113_method_7_code_39 : decode prog_113_method_7_code 39 = .ok (.aload_n 0, 1) := by decide +kernel
theorem own_d_prog_113_method_7_code_40 : decode prog_113_method_7_code 40 = .ok (.getfield 26, 3) := by decide +kernel
theorem own_d_prog_113_method_7_code_43 : decode prog_113_method_7_code 43 = .ok (.if_icmp .ne 7, 3) := by decide +kernel
theorem own_d_prog_113_method_7_code_46 : decode prog_113_method_7_code 46 = .ok (.iconst 1, 1) := by decide +kernel
theorem own_d_prog_113_method_7_code_47 : decode prog_113_method_7_code 47 = .ok (.goto 4, 3) := by decide +kernel
theorem own_d_prog_113_method_7_code_50 : decode prog_113_method_7_code 50 = .ok (.iconst 0, 1) := by decide +kernel
theorem own_d_prog_113_method_7_code_51 : decode prog_113_method_7_code 51 = .ok (.ireturn, 1) := by decide +kernel
theorem own_ef2 (m : MethodId) (x0 : Addr) : entryFrame m #[(.ref x0), .null] 3 = mkF m 0 #[.val (.ref x0), .val .null, .unset] [] := by first | (simp [entryFrame, mkF, argsToLocals, Value.category]; done) | rfl
theorem own_ef3 (m : MethodId) (x0 : Addr) (x1 : Addr) : entryFrame m #[(.ref x0), (.ref x1)] 3 = mkF m 0 #[.val (.ref x0), .val (.ref x1), .unset] [] := by first | (simp [entryFrame, mkF, argsToLocals, Value.category]; done) | rfl
theorem own_ef4 (m : MethodId) (x0 : Int32) (x1 : Int64) (x2 : Int64) (x3 : Int32) (x4 : Int32) : entryFrame m #[(.int x0), (.long x1), (.long x2), (.int x3), (.int x4)] maxLocals = mkF m 0 #[.val (.int x0), .val (.long x1), .second, .val (.long x2), .second, .val (.int x3), .val (.int x4), .unset, .unset, .unset, .unset, .unset, .unset, .unset, .unset, .unset, .unset, .unset, .unset, .unset] [] := by first | (simp [entryFrame, mkF, argsToLocals, Value.category, maxLocals]; done) | rfl
theorem own_pn2 : plainName "com/example/tablewright/tablewright/model/VarnodeEqualsPinLaw" = true := by first | (simp [plainName, overriddenIn]; done) | decide +kernel
theorem own_pd0 : parseMethodDescriptor "(II)I" = some ⟨[.int, .int], some .int⟩ := by decide +kernel
theorem own_pd1 : parseMethodDescriptor "(Lcom/example/tablewright/tablewright/model/AddressSpace;JI)V" = some ⟨[(.object "com/example/tablewright/tablewright/model/AddressSpace"), .long, .int], none⟩ := by decide +kernel
theorem own_pd2 : parseMethodDescriptor "(Ljava/lang/Object;)Z" = some ⟨[(.object "java/lang/Object")], some .boolean⟩ := by decide +kernel
set_option maxRecDepth 65536 in
set_option maxHeartbeats 40000000 in
theorem own_rmm (l : Launch) (Z : State) (a0 : Array Value) (hw : ∀ d ∈ tables_1, d.before a0 Z = true) (ws : List Jvm.Cond) (x y : Int32) (h0 : Heap) (n0 : Nat) (Z0 : n0 ≤ h0.size)  :
    MetFree l (⟨"java/lang/Math", "max", "(II)I"⟩ : MethodName) (head1 (Jvm.Cond.code (⟨"java/lang/Math", "max", "(II)I"⟩ : MethodName) jdk_29_method_65_code 2 (some .int) :: ws) ({ frames := 0, cells := 0, slots := 0, locals := 0 } : Room)) (fun a_ U_ => a_ = #[(.int x), (.int y)] ∧ Z.Warmed39 U_.vm ∧ U_.heap = h0) (fun _ _ _ _ _ => True) (fun _ U_ o_ U_' => ∃ v_ L_, o_ = .returned v_ ∧ own_QP (some (.int (if x < y then y else x))) h0 n0 v_ U_'.heap L_ ∧ FrameEnd U_ o_ U_' L_ ({ frames := 0, cells := 0, slots := 0, locals := 0 } : Room).cells ({ frames := 0, cells := 0, slots := 0, locals := 0 } : Room).slots) := by
  refine MetFree.of_bodySF (Jvm.Free.JP.mathPlain rfl (by decide +kernel)) hisR ?_
  intro p e s m args below meth c s₁ Bd hml0 hP hK
  obtain ⟨rfl, hZ, hh⟩ := hP
  have hx := Bd.exec
  have hby := Bd.bytes
  have hml : c.maxLocals = 2 := hml0
  have hown : s.vm.findClass "java/lang/Math" = some m.cls := findClass_of_methodNamed Bd.named
  have hnm := (name_of_methodNamed Bd.named Bd.method).1
  have X0 : Stand p l e ({ frames := 0, cells := 0, slots := 0, locals := 0 } : Room) s m #[(.int x), (.int y)] below meth c s₁ [] 0 0 := Stand.of_body Bd
  have e0 : s₁.heap = h0 := by rw [← hh, Bd.state]; rfl
  have N0 := Fr.nil n0
  have pre0 : ∀ t, Steps p.tables e below (s₁.setTop (mkF m 0 #[.val (.int x), .val (.int y)] [])) t → Steps p.tables e below (s₁.setTop (entryFrame m #[(.int x), (.int y)] 2)) t := fun t_ k_ => castTop (own_ef0 m x y) k_
  by_cases h : x < y
  · obtain ⟨fs, hr, hrun, hended, hW, hsame⟩ := X0.leave (v := some (.int y)) (fun h => by rw [Bd.returns] at h; cases h)
    refine ⟨_, _, pre0 _ ?_, hrun, hended, _, _, rfl, ?_, ⟨_, rfl⟩, hW, hsame.mono (by decide) (by decide)⟩
    · show Steps p.tables e below (s₁.setTop (mkF m 0 #[.val (.int x), .val (.int y)] [])) _
      refine XS.iloadN X0.here hx rfl (hb hby own_d_jdk_29_method_65_code_0) rfl ?_
      show Steps p.tables e below (s₁.setTop (mkF m 1 #[.val (.int x), .val (.int y)] [(.int x)])) _
      refine XS.iloadN X0.here hx rfl (hb hby own_d_jdk_29_method_65_code_1) rfl ?_
      show Steps p.tables e below (s₁.setTop (mkF m 2 #[.val (.int x), .val (.int y)] [(.int y), (.int x)])) _
      refine XS.icmpYes X0.here hx rfl (pc0 := 2) (pc' := 9) rfl (hb hby own_d_jdk_29_method_65_code_2) rfl (tlt (h : x < y)).1 (by decide) (by decide) ?_
      show Steps p.tables e below (s₁.setTop (mkF m 9 #[.val (.int x), .val (.int y)] [])) _
      refine XS.iloadN X0.here hx rfl (hb hby own_d_jdk_29_method_65_code_9) rfl ?_
      show Steps p.tables e below (s₁.setTop (mkF m 10 #[.val (.int x), .val (.int y)] [(.int y)])) _
      exact retI X0 hx Bd.returns (hb hby own_d_jdk_29_method_65_code_10) hr
    · show own_QP (some (.int (if x < y then y else x))) h0 n0 _ s₁.heap _
      exact ⟨by rw [if_pos h], N0, e0⟩
  · obtain ⟨fs, hr, hrun, hended, hW, hsame⟩ := X0.leave (v := some (.int x)) (fun h => by rw [Bd.returns] at h; cases h)
    refine ⟨_, _, pre0 _ ?_, hrun, hended, _, _, rfl, ?_, ⟨_, rfl⟩, hW, hsame.mono (by decide) (by decide)⟩
    · show Steps p.tables e below (s₁.setTop (mkF m 0 #[.val (.int x), .val (.int y)] [])) _
      refine XS.iloadN X0.here hx rfl (hb hby own_d_jdk_29_method_65_code_0) rfl ?_
      show Steps p.tables e below (s₁.setTop (mkF m 1 #[.val (.int x), .val (.int y)] [(.int x)])) _
      refine XS.iloadN X0.here hx rfl (hb hby own_d_jdk_29_method_65_code_1) rfl ?_
      show Steps p.tables e below (s₁.setTop (mkF m 2 #[.val (.int x), .val (.int y)] [(.int y), (.int x)])) _
      refine XS.icmpNo X0.here hx rfl (hb hby own_d_jdk_29_method_65_code_2) rfl (flt (h : ¬ (x < y))).1 ?_
      show Steps p.tables e below (s₁.setTop (mkF m 5 #[.val (.int x), .val (.int y)] [])) _
      refine XS.iloadN X0.here hx rfl (hb hby own_d_jdk_29_method_65_code_5) rfl ?_
      show Steps p.tables e below (s₁.setTop (mkF m 6 #[.val (.int x), .val (.int y)] [(.int x)])) _
      refine XS.goto X0.here hx rfl (pc0 := 6) (pc' := 10) rfl (hb hby own_d_jdk_29_method_65_code_6) (by decide) (by decide) ?_
      show Steps p.tables e below (s₁.setTop (mkF m 10 #[.val (.int x), .val (.int y)] [(.int x)])) _
      exact retI X0 hx Bd.returns (hb hby own_d_jdk_29_method_65_code_10) hr
    · show own_QP (some (.int (if x < y then y else x))) h0 n0 _ s₁.heap _
      exact ⟨by rw [if_neg h], N0, e0⟩
set_option maxRecDepth 65536 in
set_option maxHeartbeats 40000000 in
theorem own_rme (l : Launch) (Z : State) (a0 : Array Value) (hw : ∀ d ∈ tables_1, d.before a0 Z = true) (ws : List Jvm.Cond) (a b p1 p2 : Addr) (o1 o2 : Int64) (z1 z2 : Int32) (h0 : Heap) (n0 : Nat) (Z0 : n0 ≤ h0.size) (Eb : Exa Z h0 b "com/example/tablewright/tablewright/model/Varnode") (Faspace : Fld Z h0 a "com/example/tablewright/tablewright/model/Varnode" "space" "Lcom/example/tablewright/tablewright/model/AddressSpace;" (.ref p1)) (Faoffset : Fld Z h0 a "com/example/tablewright/tablewright/model/Varnode" "offset" "J" (.long o1)) (Fasize : Fld Z h0 a "com/example/tablewright/tablewright/model/Varnode" "size" "I" (.int z1)) (Fbspace : Fld Z h0 b "com/example/tablewright/tablewright/model/Varnode" "space" "Lcom/example/tablewright/tablewright/model/AddressSpace;" (.ref p2)) (Fboffset : Fld Z h0 b "com/example/tablewright/tablewright/model/Varnode" "offset" "J" (.long o2)) (Fbsize : Fld Z h0 b "com/example/tablewright/tablewright/model/Varnode" "size" "I" (.int z2)) :
    MetFree l (⟨"com/example/tablewright/tablewright/model/Varnode", "equals", "(Ljava/lang/Object;)Z"⟩ : MethodName) (head1 (Jvm.Cond.code (⟨"com/example/tablewright/tablewright/model/Varnode", "equals", "(Ljava/lang/Object;)Z"⟩ : MethodName) prog_113_method_7_code 3 (some .boolean) :: ws) ({ frames := 0, cells := 0, slots := 0, locals := 0 } : Room)) (fun a_ U_ => a_ = #[(.ref a), (.ref b)] ∧ Z.Warmed39 U_.vm ∧ U_.heap = h0) (fun _ _ _ _ _ => True) (fun _ U_ o_ U_' => ∃ v_ L_, o_ = .returned v_ ∧ own_QP (some (.int (own_eq p1 p2 o1 o2 z1 z2))) h0 n0 v_ U_'.heap L_ ∧ FrameEnd U_ o_ U_' L_ ({ frames := 0, cells := 0, slots := 0, locals := 0 } : Room).cells ({ frames := 0, cells := 0, slots := 0, locals := 0 } : Room).slots) := by
  refine MetFree.of_bodySF (plainFor_of_name own_pn1) hisR ?_
  intro p e s m args below meth c s₁ Bd hml0 hP hK
  obtain ⟨rfl, hZ, hh⟩ := hP
  have hx := Bd.exec
  have hby := Bd.bytes
  have hml : c.maxLocals = 3 := hml0
  have hown : s.vm.findClass "com/example/tablewright/tablewright/model/Varnode" = some m.cls := findClass_of_methodNamed Bd.named
  have hnm := (name_of_methodNamed Bd.named Bd.method).1
  have X0 : Stand p l e ({ frames := 0, cells := 0, slots := 0, locals := 0 } : Room) s m #[(.ref a), (.ref b)] below meth c s₁ [] 0 0 := Stand.of_body Bd
  have e0 : s₁.heap = h0 := by rw [← hh, Bd.state]; rfl
  have N0 := Fr.nil n0
  have pre0 : ∀ t, Steps p.tables e below (s₁.setTop (mkF m 0 #[.val (.ref a), .val (.ref b), .unset] [])) t → Steps p.tables e below (s₁.setTop (entryFrame m #[(.ref a), (.ref b)] 3)) t := fun t_ k_ => castTop (own_ef1 m a b) k_
  rcases own_c4 (p2 = p1) (o2 = o1) (z2 = z1) with ⟨h1, h2, h3⟩ | ⟨h1, h2, h3⟩ | ⟨h1, h2⟩ | h1
  · obtain ⟨T1, X1, e1, st1⟩ := instY X0 hx hZ hown (hw _ (List.mem_of_getElem? (i := 28) rfl)) e0 (Ins.self Eb) (g := (mkF m 1 #[.val (.ref a), .val (.ref b), .unset] [(.ref b)])) rfl rfl (hb hby own_d_prog_113_method_7_code_1)
    obtain ⟨T2, X2, e2, st2⟩ := castY X1 hx hZ hown (hw _ (List.mem_of_getElem? (i := 28) rfl)) e1 (Ins.self Eb) (g := (mkF m 8 #[.val (.ref a), .val (.ref b), .unset] [(.ref b)])) rfl rfl (hb hby own_d_prog_113_method_7_code_8)
    obtain ⟨T3, X3, e3, st3⟩ := getF X2 hx hZ hown (host := "") (Or.inl (hw _ (List.mem_of_getElem? (i := 17) rfl))) Via.refl e2 Fbspace (g := (mkF m 13 #[.val (.ref a), .val (.ref b), .val (.ref b)] [(.ref b)])) rfl rfl (hb hby own_d_prog_113_method_7_code_13)
    obtain ⟨T4, X4, e4, st4⟩ := getF X3 hx hZ hown (host := "") (Or.inl (hw _ (List.mem_of_getElem? (i := 17) rfl))) Via.refl e3 Faspace (g := (mkF m 17 #[.val (.ref a), .val (.ref b), .val (.ref b)] [(.ref a), (.ref p2)])) rfl rfl (hb hby own_d_prog_113_method_7_code_17)
    obtain ⟨T5, X5, e5, st5⟩ := getF X4 hx hZ hown (host := "") (Or.inl (hw _ (List.mem_of_getElem? (i := 19) rfl))) Via.refl e4 Fboffset (g := (mkF m 24 #[.val (.ref a), .val (.ref b), .val (.ref b)] [(.ref b)])) rfl rfl (hb hby own_d_prog_113_method_7_code_24)
    obtain ⟨T6, X6, e6, st6⟩ := getF X5 hx hZ hown (host := "") (Or.inl (hw _ (List.mem_of_getElem? (i := 19) rfl))) Via.refl e5 Faoffset (g := (mkF m 28 #[.val (.ref a), .val (.ref b), .val (.ref b)] [(.ref a), (.long o2)])) rfl rfl (hb hby own_d_prog_113_method_7_code_28)
    obtain ⟨T7, X7, e7, st7⟩ := getF X6 hx hZ hown (host := "") (Or.inl (hw _ (List.mem_of_getElem? (i := 21) rfl))) Via.refl e6 Fbsize (g := (mkF m 36 #[.val (.ref a), .val (.ref b), .val (.ref b)] [(.ref b)])) rfl rfl (hb hby own_d_prog_113_method_7_code_36)
    obtain ⟨T8, X8, e8, st8⟩ := getF X7 hx hZ hown (host := "") (Or.inl (hw _ (List.mem_of_getElem? (i := 21) rfl))) Via.refl e7 Fasize (g := (mkF m 40 #[.val (.ref a), .val (.ref b), .val (.ref b)] [(.ref a), (.int z2)])) rfl rfl (hb hby own_d_prog_113_method_7_code_40)
    obtain ⟨fs, hr, hrun, hended, hW, hsame⟩ := X8.leave (v := some (.int (1 : Int32))) (fun h => by rw [Bd.returns] at h; cases h)
    refine ⟨_, _, pre0 _ ?_, hrun, hended, _, _, rfl, ?_, ⟨_, rfl⟩, hW, hsame.mono (by decide) (by decide)⟩
    · show Steps p.tables e below (s₁.setTop (mkF m 0 #[.val (.ref a), .val (.ref b), .unset] [])) _
      refine XS.aloadN X0.here hx rfl (hb hby own_d_prog_113_method_7_code_0) rfl rfl ?_
      show Steps p.tables e below (s₁.setTop (mkF m 1 #[.val (.ref a), .val (.ref b), .unset] [(.ref b)])) _
      refine st1 _ ?_
      show Steps p.tables e below (T1.setTop (mkF m 4 #[.val (.ref a), .val (.ref b), .unset] [(.int (1 : Int32))])) _
      refine XS.ifNo X1.here hx rfl (hb hby own_d_prog_113_method_7_code_4) rfl ((if0 _ _).trans (feq (by decide : ¬ ((1 : Int32) = (0 : Int32)))).1) ?_
      show Steps p.tables e below (T1.setTop (mkF m 7 #[.val (.ref a), .val (.ref b), .unset] [])) _
      refine XS.aloadN X1.here hx rfl (hb hby own_d_prog_113_method_7_code_7) rfl rfl ?_
      show Steps p.tables e below (T1.setTop (mkF m 8 #[.val (.ref a), .val (.ref b), .unset] [(.ref b)])) _
      refine st2 _ ?_
      show Steps p.tables e below (T2.setTop (mkF m 11 #[.val (.ref a), .val (.ref b), .unset] [(.ref b)])) _
      refine XS.astoreN X2.here hx rfl (hb hby own_d_prog_113_method_7_code_11) rfl rfl (l' := #[.val (.ref a), .val (.ref b), .val (.ref b)]) rfl ?_
      show Steps p.tables e below (T2.setTop (mkF m 12 #[.val (.ref a), .val (.ref b), .val (.ref b)] [])) _
      refine XS.aloadN X2.here hx rfl (hb hby own_d_prog_113_method_7_code_12) rfl rfl ?_
      show Steps p.tables e below (T2.setTop (mkF m 13 #[.val (.ref a), .val (.ref b), .val (.ref b)] [(.ref b)])) _
      refine st3 _ ?_
      show Steps p.tables e below (T3.setTop (mkF m 16 #[.val (.ref a), .val (.ref b), .val (.ref b)] [(.ref p2)])) _
      refine XS.aloadN X3.here hx rfl (hb hby own_d_prog_113_method_7_code_16) rfl rfl ?_
      show Steps p.tables e below (T3.setTop (mkF m 17 #[.val (.ref a), .val (.ref b), .val (.ref b)] [(.ref a), (.ref p2)])) _
      refine st4 _ ?_
      show Steps p.tables e below (T4.setTop (mkF m 20 #[.val (.ref a), .val (.ref b), .val (.ref b)] [(.ref p1), (.ref p2)])) _
      refine Jvm.RoadKit.acmp (g := (mkF m 20 #[.val (.ref a), .val (.ref b), .val (.ref b)] [(.ref p1), (.ref p2)])) X4 hx rfl (x := (.ref p2)) (y := (.ref p1)) rfl rfl (pc0 := 20) (pc' := 23) (same := true) rfl (hb hby own_d_prog_113_method_7_code_20) rfl (own_sm h1) (by decide) (by decide) ?_
      show Steps p.tables e below (T4.setTop (mkF m 23 #[.val (.ref a), .val (.ref b), .val (.ref b)] [])) _
      refine XS.aloadN X4.here hx rfl (hb hby own_d_prog_113_method_7_code_23) rfl rfl ?_
      show Steps p.tables e below (T4.setTop (mkF m 24 #[.val (.ref a), .val (.ref b), .val (.ref b)] [(.ref b)])) _
      refine st5 _ ?_
      show Steps p.tables e below (T5.setTop (mkF m 27 #[.val (.ref a), .val (.ref b), .val (.ref b)] [(.long o2)])) _
      refine XS.aloadN X5.here hx rfl (hb hby own_d_prog_113_method_7_code_27) rfl rfl ?_
      show Steps p.tables e below (T5.setTop (mkF m 28 #[.val (.ref a), .val (.ref b), .val (.ref b)] [(.ref a), (.long o2)])) _
      refine st6 _ ?_
      show Steps p.tables e below (T6.setTop (mkF m 31 #[.val (.ref a), .val (.ref b), .val (.ref b)] [(.long o1), (.long o2)])) _
      refine XS.lcmp X6.here hx rfl (hb hby own_d_prog_113_method_7_code_31) rfl ?_
      show Steps p.tables e below (T6.setTop (mkF m 32 #[.val (.ref a), .val (.ref b), .val (.ref b)] [(.int (lcmpW o2 o1))])) _
      refine XS.ifNo X6.here hx rfl (hb hby own_d_prog_113_method_7_code_32) rfl ((if0 _ _).trans (teq ((lw_eq _ _).mpr h2 : (lcmpW o2 o1) = (0 : Int32))).2) ?_
      show Steps p.tables e below (T6.setTop (mkF m 35 #[.val (.ref a), .val (.ref b), .val (.ref b)] [])) _
      refine XS.aloadN X6.here hx rfl (hb hby own_d_prog_113_method_7_code_35) rfl rfl ?_
      show Steps p.tables e below (T6.setTop (mkF m 36 #[.val (.ref a), .val (.ref b), .val (.ref b)] [(.ref b)])) _
      refine st7 _ ?_
      show Steps p.tables e below (T7.setTop (mkF m 39 #[.val (.ref a), .val (.ref b), .val (.ref b)] [(.int z2)])) _
      refine XS.aloadN X7.here hx rfl (hb hby own_d_prog_113_method_7_code_39) rfl rfl ?_
      show Steps p.tables e below (T7.setTop (mkF m 40 #[.val (.ref a), .val (.ref b), .val (.ref b)] [(.ref a), (.int z2)])) _
      refine st8 _ ?_
      show Steps p.tables e below (T8.setTop (mkF m 43 #[.val (.ref a), .val (.ref b), .val (.ref b)] [(.int z1), (.int z2)])) _
      refine XS.icmpNo X8.here hx rfl (hb hby own_d_prog_113_method_7_code_43) rfl (teq (h3 : z2 = z1)).2 ?_
      show Steps p.tables e below (T8.setTop (mkF m 46 #[.val (.ref a), .val (.ref b), .val (.ref b)] [])) _
      refine XS.iconst X8.here hx rfl (hb hby own_d_prog_113_method_7_code_46) ?_
      show Steps p.tables e below (T8.setTop (mkF m 47 #[.val (.ref a), .val (.ref b), .val (.ref b)] [(.int (1 : Int32))])) _
      refine XS.goto X8.here hx rfl (pc0 := 47) (pc' := 51) rfl (hb hby own_d_prog_113_method_7_code_47) (by decide) (by decide) ?_
      show Steps p.tables e below (T8.setTop (mkF m 51 #[.val (.ref a), .val (.ref b), .val (.ref b)] [(.int (1 : Int32))])) _
      exact retN X8 hx (t := .boolean) Bd.returns (by simp) (hb hby own_d_prog_113_method_7_code_51) hr
    · show own_QP (some (.int (own_eq p1 p2 o1 o2 z1 z2))) h0 n0 _ T8.heap _
      exact ⟨by rw [own_eq1 h1 h2 h3], N0, e8⟩
  · obtain ⟨T9, X9, e9, st9⟩ := instY X0 hx hZ hown (hw _ (List.mem_of_getElem? (i := 28) rfl)) e0 (Ins.self Eb) (g := (mkF m 1 #[.val (.ref a), .val (.ref b), .unset] [(.ref b)])) rfl rfl (hb hby own_d_prog_113_method_7_code_1)
    obtain ⟨T10, X10, e10, st10⟩ := castY X9 hx hZ hown (hw _ (List.mem_of_getElem? (i := 28) rfl)) e9 (Ins.self Eb) (g := (mkF m 8 #[.val (.ref a), .val (.ref b), .unset] [(.ref b)])) rfl rfl (hb hby own_d_prog_113_method_7_code_8)
    obtain ⟨T11, X11, e11, st11⟩ := getF X10 hx hZ hown (host := "") (Or.inl (hw _ (List.mem_of_getElem? (i := 17) rfl))) Via.refl e10 Fbspace (g := (mkF m 13 #[.val (.ref a), .val (.ref b), .val (.ref b)] [(.ref b)])) rfl rfl (hb hby own_d_prog_113_method_7_code_13)
    obtain ⟨T12, X12, e12, st12⟩ := getF X11 hx hZ hown (host := "") (Or.inl (hw _ (List.mem_of_getElem? (i := 17) rfl))) Via.refl e11 Faspace (g := (mkF m 17 #[.val (.ref a), .val (.ref b), .val (.ref b)] [(.ref a), (.ref p2)])) rfl rfl (hb hby own_d_prog_113_method_7_code_17)
    obtain ⟨T13, X13, e13, st13⟩ := getF X12 hx hZ hown (host := "") (Or.inl (hw _ (List.mem_of_getElem? (i := 19) rfl))) Via.refl e12 Fboffset (g := (mkF m 24 #[.val (.ref a), .val (.ref b), .val (.ref b)] [(.ref b)])) rfl rfl (hb hby own_d_prog_113_method_7_code_24)
    obtain ⟨T14, X14, e14, st14⟩ := getF X13 hx hZ hown (host := "") (Or.inl (hw _ (List.mem_of_getElem? (i := 19) rfl))) Via.refl e13 Faoffset (g := (mkF m 28 #[.val (.ref a), .val (.ref b), .val (.ref b)] [(.ref a), (.long o2)])) rfl rfl (hb hby own_d_prog_113_method_7_code_28)
    obtain ⟨T15, X15, e15, st15⟩ := getF X14 hx hZ hown (host := "") (Or.inl (hw _ (List.mem_of_getElem? (i := 21) rfl))) Via.refl e14 Fbsize (g := (mkF m 36 #[.val (.ref a), .val (.ref b), .val (.ref b)] [(.ref b)])) rfl rfl (hb hby own_d_prog_113_method_7_code_36)
    obtain ⟨T16, X16, e16, st16⟩ := getF X15 hx hZ hown (host := "") (Or.inl (hw _ (List.mem_of_getElem? (i := 21) rfl))) Via.refl e15 Fasize (g := (mkF m 40 #[.val (.ref a), .val (.ref b), .val (.ref b)] [(.ref a), (.int z2)])) rfl rfl (hb hby own_d_prog_113_method_7_code_40)
    obtain ⟨fs, hr, hrun, hended, hW, hsame⟩ := X16.leave (v := some (.int (0 : Int32))) (fun h => by rw [Bd.returns] at h; cases h)
    refine ⟨_, _, pre0 _ ?_, hrun, hended, _, _, rfl, ?_, ⟨_, rfl⟩, hW, hsame.mono (by decide) (by decide)⟩
    · show Steps p.tables e below (s₁.setTop (mkF m 0 #[.val (.ref a), .val (.ref b), .unset] [])) _
      refine XS.aloadN X0.here hx rfl (hb hby own_d_prog_113_method_7_code_0) rfl rfl ?_
      show Steps p.tables e below (s₁.setTop (mkF m 1 #[.val (.ref a), .val (.ref b), .unset] [(.ref b)])) _
      refine st9 _ ?_
      show Steps p.tables e below (T9.setTop (mkF m 4 #[.val (.ref a), .val (.ref b), .unset] [(.int (1 : Int32))])) _
      refine XS.ifNo X9.here hx rfl (hb hby own_d_prog_113_method_7_code_4) rfl ((if0 _ _).trans (feq (by decide : ¬ ((1 : Int32) = (0 : Int32)))).1) ?_
      show Steps p.tables e below (T9.setTop (mkF m 7 #[.val (.ref a), .val (.ref b), .unset] [])) _
      refine XS.aloadN X9.here hx rfl (hb hby own_d_prog_113_method_7_code_7) rfl rfl ?_
      show Steps p.tables e below (T9.setTop (mkF m 8 #[.val (.ref a), .val (.ref b), .unset] [(.ref b)])) _
      refine st10 _ ?_
      show Steps p.tables e below (T10.setTop (mkF m 11 #[.val (.ref a), .val (.ref b), .unset] [(.ref b)])) _
      refine XS.astoreN X10.here hx rfl (hb hby own_d_prog_113_method_7_code_11) rfl rfl (l' := #[.val (.ref a), .val (.ref b), .val (.ref b)]) rfl ?_
      show Steps p.tables e below (T10.setTop (mkF m 12 #[.val (.ref a), .val (.ref b), .val (.ref b)] [])) _
      refine XS.aloadN X10.here hx rfl (hb hby own_d_prog_113_method_7_code_12) rfl rfl ?_
      show Steps p.tables e below (T10.setTop (mkF m 13 #[.val (.ref a), .val (.ref b), .val (.ref b)] [(.ref b)])) _
      refine st11 _ ?_
      show Steps p.tables e below (T11.setTop (mkF m 16 #[.val (.ref a), .val (.ref b), .val (.ref b)] [(.ref p2)])) _
      refine XS.aloadN X11.here hx rfl (hb hby own_d_prog_113_method_7_code_16) rfl rfl ?_
      show Steps p.tables e below (T11.setTop (mkF m 17 #[.val (.ref a), .val (.ref b), .val (.ref b)] [(.ref a), (.ref p2)])) _
      refine st12 _ ?_
      show Steps p.tables e below (T12.setTop (mkF m 20 #[.val (.ref a), .val (.ref b), .val (.ref b)] [(.ref p1), (.ref p2)])) _
      refine Jvm.RoadKit.acmp (g := (mkF m 20 #[.val (.ref a), .val (.ref b), .val (.ref b)] [(.ref p1), (.ref p2)])) X12 hx rfl (x := (.ref p2)) (y := (.ref p1)) rfl rfl (pc0 := 20) (pc' := 23) (same := true) rfl (hb hby own_d_prog_113_method_7_code_20) rfl (own_sm h1) (by decide) (by decide) ?_
      show Steps p.tables e below (T12.setTop (mkF m 23 #[.val (.ref a), .val (.ref b), .val (.ref b)] [])) _
      refine XS.aloadN X12.here hx rfl (hb hby own_d_prog_113_method_7_code_23) rfl rfl ?_
      show Steps p.tables e below (T12.setTop (mkF m 24 #[.val (.ref a), .val (.ref b), .val (.ref b)] [(.ref b)])) _
      refine st13 _ ?_
      show Steps p.tables e below (T13.setTop (mkF m 27 #[.val (.ref a), .val (.ref b), .val (.ref b)] [(.long o2)])) _
      refine XS.aloadN X13.here hx rfl (hb hby own_d_prog_113_method_7_code_27) rfl rfl ?_
      show Steps p.tables e below (T13.setTop (mkF m 28 #[.val (.ref a), .val (.ref b), .val (.ref b)] [(.ref a), (.long o2)])) _
      refine st14 _ ?_
      show Steps p.tables e below (T14.setTop (mkF m 31 #[.val (.ref a), .val (.ref b), .val (.ref b)] [(.long o1), (.long o2)])) _
      refine XS.lcmp X14.here hx rfl (hb hby own_d_prog_113_method_7_code_31) rfl ?_
      show Steps p.tables e below (T14.setTop (mkF m 32 #[.val (.ref a), .val (.ref b), .val (.ref b)] [(.int (lcmpW o2 o1))])) _
      refine XS.ifNo X14.here hx rfl (hb hby own_d_prog_113_method_7_code_32) rfl ((if0 _ _).trans (teq ((lw_eq _ _).mpr h2 : (lcmpW o2 o1) = (0 : Int32))).2) ?_
      show Steps p.tables e below (T14.setTop (mkF m 35 #[.val (.ref a), .val (.ref b), .val (.ref b)] [])) _
      refine XS.aloadN X14.here hx rfl (hb hby own_d_prog_113_method_7_code_35) rfl rfl ?_
      show Steps p.tables e below (T14.setTop (mkF m 36 #[.val (.ref a), .val (.ref b), .val (.ref b)] [(.ref b)])) _
      refine st15 _ ?_
      show Steps p.tables e below (T15.setTop (mkF m 39 #[.val (.ref a), .val (.ref b), .val (.ref b)] [(.int z2)])) _
      refine XS.aloadN X15.here hx rfl (hb hby own_d_prog_113_method_7_code_39) rfl rfl ?_
      show Steps p.tables e below (T15.setTop (mkF m 40 #[.val (.ref a), .val (.ref b), .val (.ref b)] [(.ref a), (.int z2)])) _
      refine st16 _ ?_
      show Steps p.tables e below (T16.setTop (mkF m 43 #[.val (.ref a), .val (.ref b), .val (.ref b)] [(.int z1), (.int z2)])) _
      refine XS.icmpYes X16.here hx rfl (pc0 := 43) (pc' := 50) rfl (hb hby own_d_prog_113_method_7_code_43) rfl (feq (h3 : ¬ (z2 = z1))).2 (by decide) (by decide) ?_
      show Steps p.tables e below (T16.setTop (mkF m 50 #[.val (.ref a), .val (.ref b), .val (.ref b)] [])) _
      refine XS.iconst X16.here hx rfl (hb hby own_d_prog_113_method_7_code_50) ?_
      show Steps p.tables e below (T16.setTop (mkF m 51 #[.val (.ref a), .val (.ref b), .val (.ref b)] [(.int (0 : Int32))])) _
      exact retN X16 hx (t := .boolean) Bd.returns (by simp) (hb hby own_d_prog_113_method_7_code_51) hr
    · show own_QP (some (.int (own_eq p1 p2 o1 o2 z1 z2))) h0 n0 _ T16.heap _
      exact ⟨by rw [own_eq0 (fun q => h3 q.2.2)], N0, e16⟩
  · obtain ⟨T17, X17, e17, st17⟩ := instY X0 hx hZ hown (hw _ (List.mem_of_getElem? (i := 28) rfl)) e0 (Ins.self Eb) (g := (mkF m 1 #[.val (.ref a), .val (.ref b), .unset] [(.ref b)])) rfl rfl (hb hby own_d_prog_113_method_7_code_1)
    obtain ⟨T18, X18, e18, st18⟩ := castY X17 hx hZ hown (hw _ (List.mem_of_getElem? (i := 28) rfl)) e17 (Ins.self Eb) (g := (mkF m 8 #[.val (.ref a), .val (.ref b), .unset] [(.ref b)])) rfl rfl (hb hby own_d_prog_113_method_7_code_8)
    obtain ⟨T19, X19, e19, st19⟩ := getF X18 hx hZ hown (host := "") (Or.inl (hw _ (List.mem_of_getElem? (i := 17) rfl))) Via.refl e18 Fbspace (g := (mkF m 13 #[.val (.ref a), .val (.ref b), .val (.ref b)] [(.ref b)])) rfl rfl (hb hby own_d_prog_113_method_7_code_13)
    obtain ⟨T20, X20, e20, st20⟩ := getF X19 hx hZ hown (host := "") (Or.inl (hw _ (List.mem_of_getElem? (i := 17) rfl))) Via.refl e19 Faspace (g := (mkF m 17 #[.val (.ref a), .val (.ref b), .val (.ref b)] [(.ref a), (.ref p2)])) rfl rfl (hb hby own_d_prog_113_method_7_code_17)
    obtain ⟨T21, X21, e21, st21⟩ := getF X20 hx hZ hown (host := "") (Or.inl (hw _ (List.mem_of_getElem? (i := 19) rfl))) Via.refl e20 Fboffset (g := (mkF m 24 #[.val (.ref a), .val (.ref b), .val (.ref b)] [(.ref b)])) rfl rfl (hb hby own_d_prog_113_method_7_code_24)
    obtain ⟨T22, X22, e22, st22⟩ := getF X21 hx hZ hown (host := "") (Or.inl (hw _ (List.mem_of_getElem? (i := 19) rfl))) Via.refl e21 Faoffset (g := (mkF m 28 #[.val (.ref a), .val (.ref b), .val (.ref b)] [(.ref a), (.long o2)])) rfl rfl (hb hby own_d_prog_113_method_7_code_28)
    obtain ⟨fs, hr, hrun, hended, hW, hsame⟩ := X22.leave (v := some (.int (0 : Int32))) (fun h => by rw [Bd.returns] at h; cases h)
    refine ⟨_, _, pre0 _ ?_, hrun, hended, _, _, rfl, ?_, ⟨_, rfl⟩, hW, hsame.mono (by decide) (by decide)⟩
    · show Steps p.tables e below (s₁.setTop (mkF m 0 #[.val (.ref a), .val (.ref b), .unset] [])) _
      refine XS.aloadN X0.here hx rfl (hb hby own_d_prog_113_method_7_code_0) rfl rfl ?_
      show Steps p.tables e below (s₁.setTop (mkF m 1 #[.val (.ref a), .val (.ref b), .unset] [(.ref b)])) _
      refine st17 _ ?_
      show Steps p.tables e below (T17.setTop (mkF m 4 #[.val (.ref a), .val (.ref b), .unset] [(.int (1 : Int32))])) _
      refine XS.ifNo X17.here hx rfl (hb hby own_d_prog_113_method_7_code_4) rfl ((if0 _ _).trans (feq (by decide : ¬ ((1 : Int32) = (0 : Int32)))).1) ?_
      show Steps p.tables e below (T17.setTop (mkF m 7 #[.val (.ref a), .val (.ref b), .unset] [])) _
      refine XS.aloadN X17.here hx rfl (hb hby own_d_prog_113_method_7_code_7) rfl rfl ?_
      show Steps p.tables e below (T17.setTop (mkF m 8 #[.val (.ref a), .val (.ref b), .unset] [(.ref b)])) _
      refine st18 _ ?_
      show Steps p.tables e below (T18.setTop (mkF m 11 #[.val (.ref a), .val (.ref b), .unset] [(.ref b)])) _
      refine XS.astoreN X18.here hx rfl (hb hby own_d_prog_113_method_7_code_11) rfl rfl (l' := #[.val (.ref a), .val (.ref b), .val (.ref b)]) rfl ?_
      show Steps p.tables e below (T18.setTop (mkF m 12 #[.val (.ref a), .val (.ref b), .val (.ref b)] [])) _
      refine XS.aloadN X18.here hx rfl (hb hby own_d_prog_113_method_7_code_12) rfl rfl ?_
      show Steps p.tables e below (T18.setTop (mkF m 13 #[.val (.ref a), .val (.ref b), .val (.ref b)] [(.ref b)])) _
      refine st19 _ ?_
      show Steps p.tables e below (T19.setTop (mkF m 16 #[.val (.ref a), .val (.ref b), .val (.ref b)] [(.ref p2)])) _
      refine XS.aloadN X19.here hx rfl (hb hby own_d_prog_113_method_7_code_16) rfl rfl ?_
      show Steps p.tables e below (T19.setTop (mkF m 17 #[.val (.ref a), .val (.ref b), .val (.ref b)] [(.ref a), (.ref p2)])) _
      refine st20 _ ?_
      show Steps p.tables e below (T20.setTop (mkF m 20 #[.val (.ref a), .val (.ref b), .val (.ref b)] [(.ref p1), (.ref p2)])) _
      refine Jvm.RoadKit.acmp (g := (mkF m 20 #[.val (.ref a), .val (.ref b), .val (.ref b)] [(.ref p1), (.ref p2)])) X20 hx rfl (x := (.ref p2)) (y := (.ref p1)) rfl rfl (pc0 := 20) (pc' := 23) (same := true) rfl (hb hby own_d_prog_113_method_7_code_20) rfl (own_sm h1) (by decide) (by decide) ?_
      show Steps p.tables e below (T20.setTop (mkF m 23 #[.val (.ref a), .val (.ref b), .val (.ref b)] [])) _
      refine XS.aloadN X20.here hx rfl (hb hby own_d_prog_113_method_7_code_23) rfl rfl ?_
      show Steps p.tables e below (T20.setTop (mkF m 24 #[.val (.ref a), .val (.ref b), .val (.ref b)] [(.ref b)])) _
      refine st21 _ ?_
      show Steps p.tables e below (T21.setTop (mkF m 27 #[.val (.ref a), .val (.ref b), .val (.ref b)] [(.long o2)])) _
      refine XS.aloadN X21.here hx rfl (hb hby own_d_prog_113_method_7_code_27) rfl rfl ?_
      show Steps p.tables e below (T21.setTop (mkF m 28 #[.val (.ref a), .val (.ref b), .val (.ref b)] [(.ref a), (.long o2)])) _
      refine st22 _ ?_
      show Steps p.tables e below (T22.setTop (mkF m 31 #[.val (.ref a), .val (.ref b), .val (.ref b)] [(.long o1), (.long o2)])) _
      refine XS.lcmp X22.here hx rfl (hb hby own_d_prog_113_method_7_code_31) rfl ?_
      show Steps p.tables e below (T22.setTop (mkF m 32 #[.val (.ref a), .val (.ref b), .val (.ref b)] [(.int (lcmpW o2 o1))])) _
      refine XS.ifYes X22.here hx rfl (pc0 := 32) (pc' := 50) rfl (hb hby own_d_prog_113_method_7_code_32) rfl ((if0 _ _).trans (feq (fun q => h2 ((lw_eq _ _).mp q) : ¬ ((lcmpW o2 o1) = (0 : Int32)))).2) (by decide) (by decide) ?_
      show Steps p.tables e below (T22.setTop (mkF m 50 #[.val (.ref a), .val (.ref b), .val (.ref b)] [])) _
      refine XS.iconst X22.here hx rfl (hb hby own_d_prog_113_method_7_code_50) ?_
      show Steps p.tables e below (T22.setTop (mkF m 51 #[.val (.ref a), .val (.ref b), .val (.ref b)] [(.int (0 : Int32))])) _
      exact retN X22 hx (t := .boolean) Bd.returns (by simp) (hb hby own_d_prog_113_method_7_code_51) hr
    · show own_QP (some (.int (own_eq p1 p2 o1 o2 z1 z2))) h0 n0 _ T22.heap _
      exact ⟨by rw [own_eq0 (fun q => h2 q.2.1)], N0, e22⟩
  · obtain ⟨T23, X23, e23, st23⟩ := instY X0 hx hZ hown (hw _ (List.mem_of_getElem? (i := 28) rfl)) e0 (Ins.self Eb) (g := (mkF m 1 #[.val (.ref a), .val (.ref b), .unset] [(.ref b)])) rfl rfl (hb hby own_d_prog_113_method_7_code_1)
    obtain ⟨T24, X24, e24, st24⟩ := castY X23 hx hZ hown (hw _ (List.mem_of_getElem? (i := 28) rfl)) e23 (Ins.self Eb) (g := (mkF m 8 #[.val (.ref a), .val (.ref b), .unset] [(.ref b)])) rfl rfl (hb hby own_d_prog_113_method_7_code_8)
    obtain ⟨T25, X25, e25, st25⟩ := getF X24 hx hZ hown (host := "") (Or.inl (hw _ (List.mem_of_getElem? (i := 17) rfl))) Via.refl e24 Fbspace (g := (mkF m 13 #[.val (.ref a), .val (.ref b), .val (.ref b)] [(.ref b)])) rfl rfl (hb hby own_d_prog_113_method_7_code_13)
    obtain ⟨T26, X26, e26, st26⟩ := getF X25 hx hZ hown (host := "") (Or.inl (hw _ (List.mem_of_getElem? (i := 17) rfl))) Via.refl e25 Faspace (g := (mkF m 17 #[.val (.ref a), .val (.ref b), .val (.ref b)] [(.ref a), (.ref p2)])) rfl rfl (hb hby own_d_prog_113_method_7_code_17)
    obtain ⟨fs, hr, hrun, hended, hW, hsame⟩ := X26.leave (v := some (.int (0 : Int32))) (fun h => by rw [Bd.returns] at h; cases h)
    refine ⟨_, _, pre0 _ ?_, hrun, hended, _, _, rfl, ?_, ⟨_, rfl⟩, hW, hsame.mono (by decide) (by decide)⟩
    · show Steps p.tables e below (s₁.setTop (mkF m 0 #[.val (.ref a), .val (.ref b), .unset] [])) _
      refine XS.aloadN X0.here hx rfl (hb hby own_d_prog_113_method_7_code_0) rfl rfl ?_
      show Steps p.tables e below (s₁.setTop (mkF m 1 #[.val (.ref a), .val (.ref b), .unset] [(.ref b)])) _
      refine st23 _ ?_
      show Steps p.tables e below (T23.setTop (mkF m 4 #[.val (.ref a), .val (.ref b), .unset] [(.int (1 : Int32))])) _
      refine XS.ifNo X23.here hx rfl (hb hby own_d_prog_113_method_7_code_4) rfl ((if0 _ _).trans (feq (by decide : ¬ ((1 : Int32) = (0 : Int32)))).1) ?_
      show Steps p.tables e below (T23.setTop (mkF m 7 #[.val (.ref a), .val (.ref b), .unset] [])) _
      refine XS.aloadN X23.here hx rfl (hb hby own_d_prog_113_method_7_code_7) rfl rfl ?_
      show Steps p.tables e below (T23.setTop (mkF m 8 #[.val (.ref a), .val (.ref b), .unset] [(.ref b)])) _
      refine st24 _ ?_
      show Steps p.tables e below (T24.setTop (mkF m 11 #[.val (.ref a), .val (.ref b), .unset] [(.ref b)])) _
      refine XS.astoreN X24.here hx rfl (hb hby own_d_prog_113_method_7_code_11) rfl rfl (l' := #[.val (.ref a), .val (.ref b), .val (.ref b)]) rfl ?_
      show Steps p.tables e below (T24.setTop (mkF m 12 #[.val (.ref a), .val (.ref b), .val (.ref b)] [])) _
      refine XS.aloadN X24.here hx rfl (hb hby own_d_prog_113_method_7_code_12) rfl rfl ?_
      show Steps p.tables e below (T24.setTop (mkF m 13 #[.val (.ref a), .val (.ref b), .val (.ref b)] [(.ref b)])) _
      refine st25 _ ?_
      show Steps p.tables e below (T25.setTop (mkF m 16 #[.val (.ref a), .val (.ref b), .val (.ref b)] [(.ref p2)])) _
      refine XS.aloadN X25.here hx rfl (hb hby own_d_prog_113_method_7_code_16) rfl rfl ?_
      show Steps p.tables e below (T25.setTop (mkF m 17 #[.val (.ref a), .val (.ref b), .val (.ref b)] [(.ref a), (.ref p2)])) _
      refine st26 _ ?_
      show Steps p.tables e below (T26.setTop (mkF m 20 #[.val (.ref a), .val (.ref b), .val (.ref b)] [(.ref p1), (.ref p2)])) _
      refine Jvm.RoadKit.acmp (g := (mkF m 20 #[.val (.ref a), .val (.ref b), .val (.ref b)] [(.ref p1), (.ref p2)])) X26 hx rfl (x := (.ref p2)) (y := (.ref p1)) rfl rfl (pc0 := 20) (pc' := 50) (same := false) rfl (hb hby own_d_prog_113_method_7_code_20) rfl (own_df h1) (by decide) (by decide) ?_
      show Steps p.tables e below (T26.setTop (mkF m 50 #[.val (.ref a), .val (.ref b), .val (.ref b)] [])) _
      refine XS.iconst X26.here hx rfl (hb hby own_d_prog_113_method_7_code_50) ?_
      show Steps p.tables e below (T26.setTop (mkF m 51 #[.val (.ref a), .val (.ref b), .val (.ref b)] [(.int (0 : Int32))])) _
      exact retN X26 hx (t := .boolean) Bd.returns (by simp) (hb hby own_d_prog_113_method_7_code_51) hr
    · show own_QP (some (.int (own_eq p1 p2 o1 o2 z1 z2))) h0 n0 _ T26.heap _
      exact ⟨by rw [own_eq0 (fun q => h1 q.1)], N0, e26⟩
set_option maxRecDepth 65536 in
set_option maxHeartbeats 40000000 in
theorem own_rmn (l : Launch) (Z : State) (a0 : Array Value) (hw : ∀ d ∈ tables_1, d.before a0 Z = true) (ws : List Jvm.Cond) (a : Addr) (h0 : Heap) (n0 : Nat) (Z0 : n0 ≤ h0.size)  :
    MetFree l (⟨"com/example/tablewright/tablewright/model/Varnode", "equals", "(Ljava/lang/Object;)Z"⟩ : MethodName) (head1 (Jvm.Cond.code (⟨"com/example/tablewright/tablewright/model/Varnode", "equals", "(Ljava/lang/Object;)Z"⟩ : MethodName) prog_113_method_7_code 3 (some .boolean) :: ws) ({ frames := 0, cells := 0, slots := 0, locals := 0 } : Room)) (fun a_ U_ => a_ = #[(.ref a), .null] ∧ Z.Warmed39 U_.vm ∧ U_.heap = h0) (fun _ _ _ _ _ => True) (fun _ U_ o_ U_' => ∃ v_ L_, o_ = .returned v_ ∧ own_QP (some (.int 0)) h0 n0 v_ U_'.heap L_ ∧ FrameEnd U_ o_ U_' L_ ({ frames := 0, cells := 0, slots := 0, locals := 0 } : Room).cells ({ frames := 0, cells := 0, slots := 0, locals := 0 } : Room).slots) := by
  refine MetFree.of_bodySF (plainFor_of_name own_pn1) hisR ?_
  intro p e s m args below meth c s₁ Bd hml0 hP hK
  obtain ⟨rfl, hZ, hh⟩ := hP
  have hx := Bd.exec
  have hby := Bd.bytes
  have hml : c.maxLocals = 3 := hml0
  have hown : s.vm.findClass "com/example/tablewright/tablewright/model/Varnode" = some m.cls := findClass_of_methodNamed Bd.named
  have hnm := (name_of_methodNamed Bd.named Bd.method).1
  have X0 : Stand p l e ({ frames := 0, cells := 0, slots := 0, locals := 0 } : Room) s m #[(.ref a), .null] below meth c s₁ [] 0 0 := Stand.of_body Bd
  have e0 : s₁.heap = h0 := by rw [← hh, Bd.state]; rfl
  have N0 := Fr.nil n0
  have pre0 : ∀ t, Steps p.tables e below (s₁.setTop (mkF m 0 #[.val (.ref a), .val .null, .unset] [])) t → Steps p.tables e below (s₁.setTop (entryFrame m #[(.ref a), .null] 3)) t := fun t_ k_ => castTop (own_ef2 m a) k_
  obtain ⟨fs, hr, hrun, hended, hW, hsame⟩ := X0.leave (v := some (.int (0 : Int32))) (fun h => by rw [Bd.returns] at h; cases h)
  refine ⟨_, _, pre0 _ ?_, hrun, hended, _, _, rfl, ?_, ⟨_, rfl⟩, hW, hsame.mono (by decide) (by decide)⟩
  · show Steps p.tables e below (s₁.setTop (mkF m 0 #[.val (.ref a), .val .null, .unset] [])) _
    refine XS.aloadN X0.here hx rfl (hb hby own_d_prog_113_method_7_code_0) rfl rfl ?_
    show Steps p.tables e below (s₁.setTop (mkF m 1 #[.val (.ref a), .val .null, .unset] [.null])) _
    refine X0.instanceofNull hx (g := (mkF m 1 #[.val (.ref a), .val .null, .unset] [.null])) rfl rfl (hb hby own_d_prog_113_method_7_code_1) _ ?_
    show Steps p.tables e below (s₁.setTop (mkF m 4 #[.val (.ref a), .val .null, .unset] [(.int (0 : Int32))])) _
    refine XS.ifYes X0.here hx rfl (pc0 := 4) (pc' := 50) rfl (hb hby own_d_prog_113_method_7_code_4) rfl ((if0 _ _).trans (teq (rfl : (0 : Int32) = (0 : Int32))).1) (by decide) (by decide) ?_
    show Steps p.tables e below (s₁.setTop (mkF m 50 #[.val (.ref a), .val .null, .unset] [])) _
    refine XS.iconst X0.here hx rfl (hb hby own_d_prog_113_method_7_code_50) ?_
    show Steps p.tables e below (s₁.setTop (mkF m 51 #[.val (.ref a), .val .null, .unset] [(.int (0 : Int32))])) _
    exact retN X0 hx (t := .boolean) Bd.returns (by simp) (hb hby own_d_prog_113_method_7_code_51) hr
  · show own_QP (some (.int 0)) h0 n0 _ s₁.heap _
    exact ⟨rfl, N0, e0⟩
set_option maxRecDepth 65536 in
set_option maxHeartbeats 40000000 in
theorem own_rmo (l : Launch) (Z : State) (a0 : Array Value) (hw : ∀ d ∈ tables_1, d.before a0 Z = true) (ws : List Jvm.Cond) (a b : Addr) (h0 : Heap) (n0 : Nat) (Z0 : n0 ≤ h0.size) (Eb : Exa Z h0 b "com/example/tablewright/tablewright/model/AddressSpace") :
    MetFree l (⟨"com/example/tablewright/tablewright/model/Varnode", "equals", "(Ljava/lang/Object;)Z"⟩ : MethodName) (head1 (Jvm.Cond.code (⟨"com/example/tablewright/tablewright/model/Varnode", "equals", "(Ljava/lang/Object;)Z"⟩ : MethodName) prog_113_method_7_code 3 (some .boolean) :: ws) ({ frames := 0, cells := 0, slots := 0, locals := 0 } : Room)) (fun a_ U_ => a_ = #[(.ref a), (.ref b)] ∧ Z.Warmed39 U_.vm ∧ U_.heap = h0) (fun _ _ _ _ _ => True) (fun _ U_ o_ U_' => ∃ v_ L_, o_ = .returned v_ ∧ own_QP (some (.int 0)) h0 n0 v_ U_'.heap L_ ∧ FrameEnd U_ o_ U_' L_ ({ frames := 0, cells := 0, slots := 0, locals := 0 } : Room).cells ({ frames := 0, cells := 0, slots := 0, locals := 0 } : Room).slots) := by
  refine MetFree.of_bodySF (plainFor_of_name own_pn1) hisR ?_
  intro p e s m args below meth c s₁ Bd hml0 hP hK
  obtain ⟨rfl, hZ, hh⟩ := hP
  have hx := Bd.exec
  have hby := Bd.bytes
  have hml : c.maxLocals = 3 := hml0
  have hown : s.vm.findClass "com/example/tablewright/tablewright/model/Varnode" = some m.cls := findClass_of_methodNamed Bd.named
  have hnm := (name_of_methodNamed Bd.named Bd.method).1
  have X0 : Stand p l e ({ frames := 0, cells := 0, slots := 0, locals := 0 } : Room) s m #[(.ref a), (.ref b)] below meth c s₁ [] 0 0 := Stand.of_body Bd
  have e0 : s₁.heap = h0 := by rw [← hh, Bd.state]; rfl
  have N0 := Fr.nil n0
  have pre0 : ∀ t, Steps p.tables e below (s₁.setTop (mkF m 0 #[.val (.ref a), .val (.ref b), .unset] [])) t → Steps p.tables e below (s₁.setTop (entryFrame m #[(.ref a), (.ref b)] 3)) t := fun t_ k_ => castTop (own_ef3 m a b) k_
  obtain ⟨T1, X1, e1, st1⟩ := instNo X0 hx hZ hown (hw _ (List.mem_of_getElem? (i := 28) rfl)) e0 Eb (own_nsno (hw _ (List.mem_of_getElem? (i := 32) rfl)) (hw _ (List.mem_of_getElem? (i := 9) rfl)) (NS.step (hw _ (List.mem_of_getElem? (i := 32) rfl)) (own_ns0 (hw _ (List.mem_of_getElem? (i := 33) rfl)) (hw _ (List.mem_of_getElem? (i := 9) rfl)) (by decide)) (by decide)) (by decide)) (g := (mkF m 1 #[.val (.ref a), .val (.ref b), .unset] [(.ref b)])) rfl rfl (hb hby own_d_prog_113_method_7_code_1)
  obtain ⟨fs, hr, hrun, hended, hW, hsame⟩ := X1.leave (v := some (.int (0 : Int32))) (fun h => by rw [Bd.returns] at h; cases h)
  refine ⟨_, _, pre0 _ ?_, hrun, hended, _, _, rfl, ?_, ⟨_, rfl⟩, hW, hsame.mono (by decide) (by decide)⟩
  · show Steps p.tables e below (s₁.setTop (mkF m 0 #[.val (.ref a), .val (.ref b), .unset] [])) _
    refine XS.aloadN X0.here hx rfl (hb hby own_d_prog_113_method_7_code_0) rfl rfl ?_
    show Steps p.tables e below (s₁.setTop (mkF m 1 #[.val (.ref a), .val (.ref b), .unset] [(.ref b)])) _
    refine st1 _ ?_
    show Steps p.tables e below (T1.setTop (mkF m 4 #[.val (.ref a), .val (.ref b), .unset] [(.int (0 : Int32))])) _
    refine XS.ifYes X1.here hx rfl (pc0 := 4) (pc' := 50) rfl (hb hby own_d_prog_113_method_7_code_4) rfl ((if0 _ _).trans (teq (rfl : (0 : Int32) = (0 : Int32))).1) (by decide) (by decide) ?_
    show Steps p.tables e below (T1.setTop (mkF m 50 #[.val (.ref a), .val (.ref b), .unset] [])) _
    refine XS.iconst X1.here hx rfl (hb hby own_d_prog_113_method_7_code_50) ?_
    show Steps p.tables e below (T1.setTop (mkF m 51 #[.val (.ref a), .val (.ref b), .unset] [(.int (0 : Int32))])) _
    exact retN X1 hx (t := .boolean) Bd.returns (by simp) (hb hby own_d_prog_113_method_7_code_51) hr
  · show own_QP (some (.int 0)) h0 n0 _ T1.heap _
    exact ⟨rfl, N0, e1⟩
set_option maxRecDepth 65536 in
set_option maxHeartbeats 40000000 in
theorem own_rm0 (l : Launch) (Z : State) (a0 : Array Value) (hw : ∀ d ∈ tables_1, d.before a0 Z = true) (ws : List Jvm.Cond) (sel : Int32) (o1 o2 : Int64) (s1 s2 : Int32) (ac au : Addr) (h0 : Heap) (n0 : Nat) (Z0 : n0 ≤ h0.size) (S_CONSTANT : Sta Z h0 "com/example/tablewright/tablewright/model/AddressSpace" "CONSTANT" "Lcom/example/tablewright/tablewright/model/AddressSpace;" (.ref ac)) (E_CONSTANT : Exa Z h0 ac "com/example/tablewright/tablewright/model/AddressSpace") (S_UNIQUE : Sta Z h0 "com/example/tablewright/tablewright/model/AddressSpace" "UNIQUE" "Lcom/example/tablewright/tablewright/model/AddressSpace;" (.ref au)) (E_UNIQUE : Exa Z h0 au "com/example/tablewright/tablewright/model/AddressSpace") (n1 : ¬ ac = au) :
    MetFree l x (head1 (Jvm.Cond.code x code maxLocals ret :: ws) room_1) (fun a_ U_ => a_ = #[(.int sel), (.long o1), (.long o2), (.int s1), (.int s2)] ∧ Z.Warmed39 U_.vm ∧ U_.heap = h0) (fun _ _ _ _ _ => True) (fun _ U_ o_ U_' => ∃ v_ L_, o_ = .returned v_ ∧ own_QL n0 v_ U_'.heap L_ ∧ FrameEnd U_ o_ U_' L_ room_1.cells room_1.slots) := by
  refine MetFree.of_bodySF (plainFor_of_name own_pn2) hisR ?_
  intro p e s m args below meth c s₁ Bd hml0 hP hK
  obtain ⟨rfl, hZ, hh⟩ := hP
  have hx := Bd.exec
  have hby := Bd.bytes
  have hml : c.maxLocals = 20 := hml0
  have hown : s.vm.findClass "com/example/tablewright/tablewright/model/VarnodeEqualsPinLaw" = some m.cls := findClass_of_methodNamed Bd.named
  have hnm := (name_of_methodNamed Bd.named Bd.method).1
  have X0 : Stand p l e room_1 s m #[(.int sel), (.long o1), (.long o2), (.int s1), (.int s2)] below meth c s₁ [] 0 0 := Stand.of_body Bd
  have e0 : s₁.heap = h0 := by rw [← hh, Bd.state]; rfl
  have N0 := Fr.nil n0
  have pre0 : ∀ t, Steps p.tables e below (s₁.setTop (mkF m 0 #[.val (.int sel), .val (.long o1), .second, .val (.long o2), .second, .val (.int s1), .val (.int s2), .unset, .unset, .unset, .unset, .unset, .unset, .unset, .unset, .unset, .unset, .unset, .unset, .unset] [])) t → Steps p.tables e below (s₁.setTop (entryFrame m #[(.int sel), (.long o1), (.long o2), (.int s1), (.int s2)] maxLocals)) t := fun t_ k_ => castTop (own_ef4 m sel o1 o2 s1 s2) k_
  obtain ⟨t7, T1, Lx1, X1, N1, e1, ht7, st1⟩ : ∃ (t7 : Int32) (T' : State) (Lx : List Loc), Stand p l e room_1 s m #[(.int sel), (.long o1), (.long o2), (.int s1), (.int s2)] below meth c T' Lx 0 0 ∧ Fr n0 Lx ∧ T'.heap = h0 ∧ (t7 = 1 ∨ t7 = 0) ∧ ∀ t, Steps p.tables e below (T'.setTop (mkF m 13 #[.val (.int sel), .val (.long o1), .second, .val (.long o2), .second, .val (.int s1), .val (.int s2), .val (.int t7), .unset, .unset, .unset, .unset, .unset, .unset, .unset, .unset, .unset, .unset, .unset, .unset] [])) t → Steps p.tables e below (s₁.setTop (mkF m 0 #[.val (.int sel), .val (.long o1), .second, .val (.long o2), .second, .val (.int s1), .val (.int s2), .unset, .unset, .unset, .unset, .unset, .unset, .unset, .unset, .unset, .unset, .unset, .unset, .unset] [])) t := by
    by_cases h : (sel &&& (1 : Int32)) = 0
    · refine ⟨0, s₁, _, X0, N0, e0, Or.inr rfl, fun t kt => ?_⟩
      show Steps p.tables e below (s₁.setTop (mkF m 0 #[.val (.int sel), .val (.long o1), .second, .val (.long o2), .second, .val (.int s1), .val (.int s2), .unset, .unset, .unset, .unset, .unset, .unset, .unset, .unset, .unset, .unset, .unset, .unset, .unset] [])) t
      refine XS.iloadN X0.here hx rfl (hb hby at_0) rfl ?_
      show Steps p.tables e below (s₁.setTop (mkF m 1 #[.val (.int sel), .val (.long o1), .second, .val (.long o2), .second, .val (.int s1), .val (.int s2), .unset, .unset, .unset, .unset, .unset, .unset, .unset, .unset, .unset, .unset, .unset, .unset, .unset] [(.int sel)])) t
      refine XS.iconst X0.here hx rfl (hb hby at_1) ?_
      show Steps p.tables e below (s₁.setTop (mkF m 2 #[.val (.int sel), .val (.long o1), .second, .val (.long o2), .second, .val (.int s1), .val (.int s2), .unset, .unset, .unset, .unset, .unset, .unset, .unset, .unset, .unset, .unset, .unset, .unset, .unset] [(.int (1 : Int32)), (.int sel)])) t
      refine XS.iand X0.here hx rfl (hb hby at_2) rfl ?_
      show Steps p.tables e below (s₁.setTop (mkF m 3 #[.val (.int sel), .val (.long o1), .second, .val (.long o2), .second, .val (.int s1), .val (.int s2), .unset, .unset, .unset, .unset, .unset, .unset, .unset, .unset, .unset, .unset, .unset, .unset, .unset] [(.int (sel &&& (1 : Int32)))])) t
      refine XS.ifYes X0.here hx rfl (pc0 := 3) (pc' := 10) rfl (hb hby at_3) rfl ((if0 _ _).trans (teq (h : (sel &&& (1 : Int32)) = (0 : Int32))).1) (by decide) (by decide) ?_
      show Steps p.tables e below (s₁.setTop (mkF m 10 #[.val (.int sel), .val (.long o1), .second, .val (.long o2), .second, .val (.int s1), .val (.int s2), .unset, .unset, .unset, .unset, .unset, .unset, .unset, .unset, .unset, .unset, .unset, .unset, .unset] [])) t
      refine XS.iconst X0.here hx rfl (hb hby at_10) ?_
      show Steps p.tables e below (s₁.setTop (mkF m 11 #[.val (.int sel), .val (.long o1), .second, .val (.long o2), .second, .val (.int s1), .val (.int s2), .unset, .unset, .unset, .unset, .unset, .unset, .unset, .unset, .unset, .unset, .unset, .unset, .unset] [(.int (0 : Int32))])) t
      refine XS.istore X0.here hx rfl (hb hby at_11) rfl (l' := #[.val (.int sel), .val (.long o1), .second, .val (.long o2), .second, .val (.int s1), .val (.int s2), .val (.int (0 : Int32)), .unset, .unset, .unset, .unset, .unset, .unset, .unset, .unset, .unset, .unset, .unset, .unset]) rfl ?_
      exact kt
    · refine ⟨1, s₁, _, X0, N0, e0, Or.inl rfl, fun t kt => ?_⟩
      show Steps p.tables e below (s₁.setTop (mkF m 0 #[.val (.int sel), .val (.long o1), .second, .val (.long o2), .second, .val (.int s1), .val (.int s2), .unset, .unset, .unset, .unset, .unset, .unset, .unset, .unset, .unset, .unset, .unset, .unset, .unset] [])) t
      refine XS.iloadN X0.here hx rfl (hb hby at_0) rfl ?_
      show Steps p.tables e below (s₁.setTop (mkF m 1 #[.val (.int sel), .val (.long o1), .second, .val (.long o2), .second, .val (.int s1), .val (.int s2), .unset, .unset, .unset, .unset, .unset, .unset, .unset, .unset, .unset, .unset, .unset, .unset, .unset] [(.int sel)])) t
      refine XS.iconst X0.here hx rfl (hb hby at_1) ?_
      show Steps p.tables e below (s₁.setTop (mkF m 2 #[.val (.int sel), .val (.long o1), .second, .val (.long o2), .second, .val (.int s1), .val (.int s2), .unset, .unset, .unset, .unset, .unset, .unset, .unset, .unset, .unset, .unset, .unset, .unset, .unset] [(.int (1 : Int32)), (.int sel)])) t
      refine XS.iand X0.here hx rfl (hb hby at_2) rfl ?_
      show Steps p.tables e below (s₁.setTop (mkF m 3 #[.val (.int sel), .val (.long o1), .second, .val (.long o2), .second, .val (.int s1), .val (.int s2), .unset, .unset, .unset, .unset, .unset, .unset, .unset, .unset, .unset, .unset, .unset, .unset, .unset] [(.int (sel &&& (1 : Int32)))])) t
      refine XS.ifNo X0.here hx rfl (hb hby at_3) rfl ((if0 _ _).trans (feq (h : ¬ ((sel &&& (1 : Int32)) = (0 : Int32)))).1) ?_
      show Steps p.tables e below (s₁.setTop (mkF m 6 #[.val (.int sel), .val (.long o1), .second, .val (.long o2), .second, .val (.int s1), .val (.int s2), .unset, .unset, .unset, .unset, .unset, .unset, .unset, .unset, .unset, .unset, .unset, .unset, .unset] [])) t
      refine XS.iconst X0.here hx rfl (hb hby at_6) ?_
      show Steps p.tables e below (s₁.setTop (mkF m 7 #[.val (.int sel), .val (.long o1), .second, .val (.long o2), .second, .val (.int s1), .val (.int s2), .unset, .unset, .unset, .unset, .unset, .unset, .unset, .unset, .unset, .unset, .unset, .unset, .unset] [(.int (1 : Int32))])) t
      refine XS.goto X0.here hx rfl (pc0 := 7) (pc' := 11) rfl (hb hby at_7) (by decide) (by decide) ?_
      show Steps p.tables e below (s₁.setTop (mkF m 11 #[.val (.int sel), .val (.long o1), .second, .val (.long o2), .second, .val (.int s1), .val (.int s2), .unset, .unset, .unset, .unset, .unset, .unset, .unset, .unset, .unset, .unset, .unset, .unset, .unset] [(.int (1 : Int32))])) t
      refine XS.istore X0.here hx rfl (hb hby at_11) rfl (l' := #[.val (.int sel), .val (.long o1), .second, .val (.long o2), .second, .val (.int s1), .val (.int s2), .val (.int (1 : Int32)), .unset, .unset, .unset, .unset, .unset, .unset, .unset, .unset, .unset, .unset, .unset, .unset]) rfl ?_
      exact kt
  obtain ⟨t8, T2, Lx2, X2, N2, e2, ht8, st2⟩ : ∃ (t8 : Int32) (T' : State) (Lx : List Loc), Stand p l e room_1 s m #[(.int sel), (.long o1), (.long o2), (.int s1), (.int s2)] below meth c T' Lx 0 0 ∧ Fr n0 Lx ∧ T'.heap = h0 ∧ (t8 = 1 ∨ t8 = 0) ∧ ∀ t, Steps p.tables e below (T'.setTop (mkF m 26 #[.val (.int sel), .val (.long o1), .second, .val (.long o2), .second, .val (.int s1), .val (.int s2), .val (.int t7), .val (.int t8), .unset, .unset, .unset, .unset, .unset, .unset, .unset, .unset, .unset, .unset, .unset] [])) t → Steps p.tables e below (T1.setTop (mkF m 13 #[.val (.int sel), .val (.long o1), .second, .val (.long o2), .second, .val (.int s1), .val (.int s2), .val (.int t7), .unset, .unset, .unset, .unset, .unset, .unset, .unset, .unset, .unset, .unset, .unset, .unset] [])) t := by
    by_cases h : (sel &&& (2 : Int32)) = 0
    · refine ⟨0, T1, _, X1, N1, e1, Or.inr rfl, fun t kt => ?_⟩
      show Steps p.tables e below (T1.setTop (mkF m 13 #[.val (.int sel), .val (.long o1), .second, .val (.long o2), .second, .val (.int s1), .val (.int s2), .val (.int t7), .unset, .unset, .unset, .unset, .unset, .unset, .unset, .unset, .unset, .unset, .unset, .unset] [])) t
      refine XS.iloadN X1.here hx rfl (hb hby at_13) rfl ?_
      show Steps p.tables e below (T1.setTop (mkF m 14 #[.val (.int sel), .val (.long o1), .second, .val (.long o2), .second, .val (.int s1), .val (.int s2), .val (.int t7), .unset, .unset, .unset, .unset, .unset, .unset, .unset, .unset, .unset, .unset, .unset, .unset] [(.int sel)])) t
      refine XS.iconst X1.here hx rfl (hb hby at_14) ?_
      show Steps p.tables e below (T1.setTop (mkF m 15 #[.val (.int sel), .val (.long o1), .second, .val (.long o2), .second, .val (.int s1), .val (.int s2), .val (.int t7), .unset, .unset, .unset, .unset, .unset, .unset, .unset, .unset, .unset, .unset, .unset, .unset] [(.int (2 : Int32)), (.int sel)])) t
      refine XS.iand X1.here hx rfl (hb hby at_15) rfl ?_
      show Steps p.tables e below (T1.setTop (mkF m 16 #[.val (.int sel), .val (.long o1), .second, .val (.long o2), .second, .val (.int s1), .val (.int s2), .val (.int t7), .unset, .unset, .unset, .unset, .unset, .unset, .unset, .unset, .unset, .unset, .unset, .unset] [(.int (sel &&& (2 : Int32)))])) t
      refine XS.ifYes X1.here hx rfl (pc0 := 16) (pc' := 23) rfl (hb hby at_16) rfl ((if0 _ _).trans (teq (h : (sel &&& (2 : Int32)) = (0 : Int32))).1) (by decide) (by decide) ?_
      show Steps p.tables e below (T1.setTop (mkF m 23 #[.val (.int sel), .val (.long o1), .second, .val (.long o2), .second, .val (.int s1), .val (.int s2), .val (.int t7), .unset, .unset, .unset, .unset, .unset, .unset, .unset, .unset, .unset, .unset, .unset, .unset] [])) t
      refine XS.iconst X1.here hx rfl (hb hby at_23) ?_
      show Steps p.tables e below (T1.setTop (mkF m 24 #[.val (.int sel), .val (.long o1), .second, .val (.long o2), .second, .val (.int s1), .val (.int s2), .val (.int t7), .unset, .unset, .unset, .unset, .unset, .unset, .unset, .unset, .unset, .unset, .unset, .unset] [(.int (0 : Int32))])) t
      refine XS.istore X1.here hx rfl (hb hby at_24) rfl (l' := #[.val (.int sel), .val (.long o1), .second, .val (.long o2), .second, .val (.int s1), .val (.int s2), .val (.int t7), .val (.int (0 : Int32)), .unset, .unset, .unset, .unset, .unset, .unset, .unset, .unset, .unset, .unset, .unset]) rfl ?_
      exact kt
    · refine ⟨1, T1, _, X1, N1, e1, Or.inl rfl, fun t kt => ?_⟩
      show Steps p.tables e below (T1.setTop (mkF m 13 #[.val (.int sel), .val (.long o1), .second, .val (.long o2), .second, .val (.int s1), .val (.int s2), .val (.int t7), .unset, .unset, .unset, .unset, .unset, .unset, .unset, .unset, .unset, .unset, .unset, .unset] [])) t
      refine XS.iloadN X1.here hx rfl (hb hby at_13) rfl ?_
      show Steps p.tables e below (T1.setTop (mkF m 14 #[.val (.int sel), .val (.long o1), .second, .val (.long o2), .second, .val (.int s1), .val (.int s2), .val (.int t7), .unset, .unset, .unset, .unset, .unset, .unset, .unset, .unset, .unset, .unset, .unset, .unset] [(.int sel)])) t
      refine XS.iconst X1.here hx rfl (hb hby at_14) ?_
      show Steps p.tables e below (T1.setTop (mkF m 15 #[.val (.int sel), .val (.long o1), .second, .val (.long o2), .second, .val (.int s1), .val (.int s2), .val (.int t7), .unset, .unset, .unset, .unset, .unset, .unset, .unset, .unset, .unset, .unset, .unset, .unset] [(.int (2 : Int32)), (.int sel)])) t
      refine XS.iand X1.here hx rfl (hb hby at_15) rfl ?_
      show Steps p.tables e below (T1.setTop (mkF m 16 #[.val (.int sel), .val (.long o1), .second, .val (.long o2), .second, .val (.int s1), .val (.int s2), .val (.int t7), .unset, .unset, .unset, .unset, .unset, .unset, .unset, .unset, .unset, .unset, .unset, .unset] [(.int (sel &&& (2 : Int32)))])) t
      refine XS.ifNo X1.here hx rfl (hb hby at_16) rfl ((if0 _ _).trans (feq (h : ¬ ((sel &&& (2 : Int32)) = (0 : Int32)))).1) ?_
      show Steps p.tables e below (T1.setTop (mkF m 19 #[.val (.int sel), .val (.long o1), .second, .val (.long o2), .second, .val (.int s1), .val (.int s2), .val (.int t7), .unset, .unset, .unset, .unset, .unset, .unset, .unset, .unset, .unset, .unset, .unset, .unset] [])) t
      refine XS.iconst X1.here hx rfl (hb hby at_19) ?_
      show Steps p.tables e below (T1.setTop (mkF m 20 #[.val (.int sel), .val (.long o1), .second, .val (.long o2), .second, .val (.int s1), .val (.int s2), .val (.int t7), .unset, .unset, .unset, .unset, .unset, .unset, .unset, .unset, .unset, .unset, .unset, .unset] [(.int (1 : Int32))])) t
      refine XS.goto X1.here hx rfl (pc0 := 20) (pc' := 24) rfl (hb hby at_20) (by decide) (by decide) ?_
      show Steps p.tables e below (T1.setTop (mkF m 24 #[.val (.int sel), .val (.long o1), .second, .val (.long o2), .second, .val (.int s1), .val (.int s2), .val (.int t7), .unset, .unset, .unset, .unset, .unset, .unset, .unset, .unset, .unset, .unset, .unset, .unset] [(.int (1 : Int32))])) t
      refine XS.istore X1.here hx rfl (hb hby at_24) rfl (l' := #[.val (.int sel), .val (.long o1), .second, .val (.long o2), .second, .val (.int s1), .val (.int s2), .val (.int t7), .val (.int (1 : Int32)), .unset, .unset, .unset, .unset, .unset, .unset, .unset, .unset, .unset, .unset, .unset]) rfl ?_
      exact kt
  obtain ⟨p9, T3, Lx3, X3, N3, e3, hp9, Ep9, st3⟩ : ∃ (p9 : Addr) (T' : State) (Lx : List Loc), Stand p l e room_1 s m #[(.int sel), (.long o1), (.long o2), (.int s1), (.int s2)] below meth c T' Lx 0 0 ∧ Fr n0 Lx ∧ T'.heap = h0 ∧ ((t7 = 1 ∧ p9 = au) ∨ (t7 = 0 ∧ p9 = ac)) ∧ Exa Z h0 p9 "com/example/tablewright/tablewright/model/AddressSpace" ∧ ∀ t, Steps p.tables e below (T'.setTop (mkF m 42 #[.val (.int sel), .val (.long o1), .second, .val (.long o2), .second, .val (.int s1), .val (.int s2), .val (.int t7), .val (.int t8), .val (.ref p9), .unset, .unset, .unset, .unset, .unset, .unset, .unset, .unset, .unset, .unset] [])) t → Steps p.tables e below (T2.setTop (mkF m 26 #[.val (.int sel), .val (.long o1), .second, .val (.long o2), .second, .val (.int s1), .val (.int s2), .val (.int t7), .val (.int t8), .unset, .unset, .unset, .unset, .unset, .unset, .unset, .unset, .unset, .unset, .unset] [])) t := by
    rcases ht7 with h | h
    · obtain ⟨T4, X4, e4, st4⟩ := getS2 X2 hx hZ hown (host := "") (Or.inl (hw _ (List.mem_of_getElem? (i := 30) rfl))) Via.refl e2 S_UNIQUE (g := (mkF m 31 #[.val (.int sel), .val (.long o1), .second, .val (.long o2), .second, .val (.int s1), .val (.int s2), .val (.int t7), .val (.int t8), .unset, .unset, .unset, .unset, .unset, .unset, .unset, .unset, .unset, .unset, .unset] [])) rfl (hb hby at_31)
      refine ⟨au, T4, _, X4, N2, e4, Or.inl ⟨h, rfl⟩, E_UNIQUE, fun t kt => ?_⟩
      show Steps p.tables e below (T2.setTop (mkF m 26 #[.val (.int sel), .val (.long o1), .second, .val (.long o2), .second, .val (.int s1), .val (.int s2), .val (.int t7), .val (.int t8), .unset, .unset, .unset, .unset, .unset, .unset, .unset, .unset, .unset, .unset, .unset] [])) t
      refine XS.iload X2.here hx rfl (hb hby at_26) rfl ?_
      show Steps p.tables e below (T2.setTop (mkF m 28 #[.val (.int sel), .val (.long o1), .second, .val (.long o2), .second, .val (.int s1), .val (.int s2), .val (.int t7), .val (.int t8), .unset, .unset, .unset, .unset, .unset, .unset, .unset, .unset, .unset, .unset, .unset] [(.int t7)])) t
      refine XS.ifNo X2.here hx rfl (hb hby at_28) rfl ((if0 _ _).trans (feq (by rw [h]; decide : ¬ (t7 = (0 : Int32)))).1) ?_
      show Steps p.tables e below (T2.setTop (mkF m 31 #[.val (.int sel), .val (.long o1), .second, .val (.long o2), .second, .val (.int s1), .val (.int s2), .val (.int t7), .val (.int t8), .unset, .unset, .unset, .unset, .unset, .unset, .unset, .unset, .unset, .unset, .unset] [])) t
      refine st4 _ ?_
      show Steps p.tables e below (T4.setTop (mkF m 34 #[.val (.int sel), .val (.long o1), .second, .val (.long o2), .second, .val (.int s1), .val (.int s2), .val (.int t7), .val (.int t8), .unset, .unset, .unset, .unset, .unset, .unset, .unset, .unset, .unset, .unset, .unset] [(.ref au)])) t
      refine XS.goto X4.here hx rfl (pc0 := 34) (pc' := 40) rfl (hb hby at_34) (by decide) (by decide) ?_
      show Steps p.tables e below (T4.setTop (mkF m 40 #[.val (.int sel), .val (.long o1), .second, .val (.long o2), .second, .val (.int s1), .val (.int s2), .val (.int t7), .val (.int t8), .unset, .unset, .unset, .unset, .unset, .unset, .unset, .unset, .unset, .unset, .unset] [(.ref au)])) t
      refine XS.astore X4.here hx rfl (hb hby at_40) rfl rfl (l' := #[.val (.int sel), .val (.long o1), .second, .val (.long o2), .second, .val (.int s1), .val (.int s2), .val (.int t7), .val (.int t8), .val (.ref au), .unset, .unset, .unset, .unset, .unset, .unset, .unset, .unset, .unset, .unset]) rfl ?_
      exact kt
    · obtain ⟨T5, X5, e5, st5⟩ := getS2 X2 hx hZ hown (host := "") (Or.inl (hw _ (List.mem_of_getElem? (i := 0) rfl))) Via.refl e2 S_CONSTANT (g := (mkF m 37 #[.val (.int sel), .val (.long o1), .second, .val (.long o2), .second, .val (.int s1), .val (.int s2), .val (.int t7), .val (.int t8), .unset, .unset, .unset, .unset, .unset, .unset, .unset, .unset, .unset, .unset, .unset] [])) rfl (hb hby at_37)
      refine ⟨ac, T5, _, X5, N2, e5, Or.inr ⟨h, rfl⟩, E_CONSTANT, fun t kt => ?_⟩
      show Steps p.tables e below (T2.setTop (mkF m 26 #[.val (.int sel), .val (.long o1), .second, .val (.long o2), .second, .val (.int s1), .val (.int s2), .val (.int t7), .val (.int t8), .unset, .unset, .unset, .unset, .unset, .unset, .unset, .unset, .unset, .unset, .unset] [])) t
      refine XS.iload X2.here hx rfl (hb hby at_26) rfl ?_
      show Steps p.tables e below (T2.setTop (mkF m 28 #[.val (.int sel), .val (.long o1), .second, .val (.long o2), .second, .val (.int s1), .val (.int s2), .val (.int t7), .val (.int t8), .unset, .unset, .unset, .unset, .unset, .unset, .unset, .unset, .unset, .unset, .unset] [(.int t7)])) t
      refine XS.ifYes X2.here hx rfl (pc0 := 28) (pc' := 37) rfl (hb hby at_28) rfl ((if0 _ _).trans (teq (h : t7 = (0 : Int32))).1) (by decide) (by decide) ?_
      show Steps p.tables e below (T2.setTop (mkF m 37 #[.val (.int sel), .val (.long o1), .second, .val (.long o2), .second, .val (.int s1), .val (.int s2), .val (.int t7), .val (.int t8), .unset, .unset, .unset, .unset, .unset, .unset, .unset, .unset, .unset, .unset, .unset] [])) t
      refine st5 _ ?_
      show Steps p.tables e below (T5.setTop (mkF m 40 #[.val (.int sel), .val (.long o1), .second, .val (.long o2), .second, .val (.int s1), .val (.int s2), .val (.int t7), .val (.int t8), .unset, .unset, .unset, .unset, .unset, .unset, .unset, .unset, .unset, .unset, .unset] [(.ref ac)])) t
      refine XS.astore X5.here hx rfl (hb hby at_40) rfl rfl (l' := #[.val (.int sel), .val (.long o1), .second, .val (.long o2), .second, .val (.int s1), .val (.int s2), .val (.int t7), .val (.int t8), .val (.ref ac), .unset, .unset, .unset, .unset, .unset, .unset, .unset, .unset, .unset, .unset]) rfl ?_
      exact kt
  obtain ⟨p10, T6, Lx6, X6, N6, e6, hp10, Ep10, st6⟩ : ∃ (p10 : Addr) (T' : State) (Lx : List Loc), Stand p l e room_1 s m #[(.int sel), (.long o1), (.long o2), (.int s1), (.int s2)] below meth c T' Lx 0 0 ∧ Fr n0 Lx ∧ T'.heap = h0 ∧ ((t8 = 1 ∧ p10 = au) ∨ (t8 = 0 ∧ p10 = ac)) ∧ Exa Z h0 p10 "com/example/tablewright/tablewright/model/AddressSpace" ∧ ∀ t, Steps p.tables e below (T'.setTop (mkF m 58 #[.val (.int sel), .val (.long o1), .second, .val (.long o2), .second, .val (.int s1), .val (.int s2), .val (.int t7), .val (.int t8), .val (.ref p9), .val (.ref p10), .unset, .unset, .unset, .unset, .unset, .unset, .unset, .unset, .unset] [])) t → Steps p.tables e below (T3.setTop (mkF m 42 #[.val (.int sel), .val (.long o1), .second, .val (.long o2), .second, .val (.int s1), .val (.int s2), .val (.int t7), .val (.int t8), .val (.ref p9), .unset, .unset, .unset, .unset, .unset, .unset, .unset, .unset, .unset, .unset] [])) t := by
    rcases ht8 with h | h
    · obtain ⟨T7, X7, e7, st7⟩ := getS2 X3 hx hZ hown (host := "") (Or.inl (hw _ (List.mem_of_getElem? (i := 30) rfl))) Via.refl e3 S_UNIQUE (g := (mkF m 47 #[.val (.int sel), .val (.long o1), .second, .val (.long o2), .second, .val (.int s1), .val (.int s2), .val (.int t7), .val (.int t8), .val (.ref p9), .unset, .unset, .unset, .unset, .unset, .unset, .unset, .unset, .unset, .unset] [])) rfl (hb hby at_47)
      refine ⟨au, T7, _, X7, N3, e7, Or.inl ⟨h, rfl⟩, E_UNIQUE, fun t kt => ?_⟩
      show Steps p.tables e below (T3.setTop (mkF m 42 #[.val (.int sel), .val (.long o1), .second, .val (.long o2), .second, .val (.int s1), .val (.int s2), .val (.int t7), .val (.int t8), .val (.ref p9), .unset, .unset, .unset, .unset, .unset, .unset, .unset, .unset, .unset, .unset] [])) t
      refine XS.iload X3.here hx rfl (hb hby at_42) rfl ?_
      show Steps p.tables e below (T3.setTop (mkF m 44 #[.val (.int sel), .val (.long o1), .second, .val (.long o2), .second, .val (.int s1), .val (.int s2), .val (.int t7), .val (.int t8), .val (.ref p9), .unset, .unset, .unset, .unset, .unset, .unset, .unset, .unset, .unset, .unset] [(.int t8)])) t
      refine XS.ifNo X3.here hx rfl (hb hby at_44) rfl ((if0 _ _).trans (feq (by rw [h]; decide : ¬ (t8 = (0 : Int32)))).1) ?_
      show Steps p.tables e below (T3.setTop (mkF m 47 #[.val (.int sel), .val (.long o1), .second, .val (.long o2), .second, .val (.int s1), .val (.int s2), .val (.int t7), .val (.int t8), .val (.ref p9), .unset, .unset, .unset, .unset, .unset, .unset, .unset, .unset, .unset, .unset] [])) t
      refine st7 _ ?_
      show Steps p.tables e below (T7.setTop (mkF m 50 #[.val (.int sel), .val (.long o1), .second, .val (.long o2), .second, .val (.int s1), .val (.int s2), .val (.int t7), .val (.int t8), .val (.ref p9), .unset, .unset, .unset, .unset, .unset, .unset, .unset, .unset, .unset, .unset] [(.ref au)])) t
      refine XS.goto X7.here hx rfl (pc0 := 50) (pc' := 56) rfl (hb hby at_50) (by decide) (by decide) ?_
      show Steps p.tables e below (T7.setTop (mkF m 56 #[.val (.int sel), .val (.long o1), .second, .val (.long o2), .second, .val (.int s1), .val (.int s2), .val (.int t7), .val (.int t8), .val (.ref p9), .unset, .unset, .unset, .unset, .unset, .unset, .unset, .unset, .unset, .unset] [(.ref au)])) t
      refine XS.astore X7.here hx rfl (hb hby at_56) rfl rfl (l' := #[.val (.int sel), .val (.long o1), .second, .val (.long o2), .second, .val (.int s1), .val (.int s2), .val (.int t7), .val (.int t8), .val (.ref p9), .val (.ref au), .unset, .unset, .unset, .unset, .unset, .unset, .unset, .unset, .unset]) rfl ?_
      exact kt
    · obtain ⟨T8, X8, e8, st8⟩ := getS2 X3 hx hZ hown (host := "") (Or.inl (hw _ (List.mem_of_getElem? (i := 0) rfl))) Via.refl e3 S_CONSTANT (g := (mkF m 53 #[.val (.int sel), .val (.long o1), .second, .val (.long o2), .second, .val (.int s1), .val (.int s2), .val (.int t7), .val (.int t8), .val (.ref p9), .unset, .unset, .unset, .unset, .unset, .unset, .unset, .unset, .unset, .unset] [])) rfl (hb hby at_53)
      refine ⟨ac, T8, _, X8, N3, e8, Or.inr ⟨h, rfl⟩, E_CONSTANT, fun t kt => ?_⟩
      show Steps p.tables e below (T3.setTop (mkF m 42 #[.val (.int sel), .val (.long o1), .second, .val (.long o2), .second, .val (.int s1), .val (.int s2), .val (.int t7), .val (.int t8), .val (.ref p9), .unset, .unset, .unset, .unset, .unset, .unset, .unset, .unset, .unset, .unset] [])) t
      refine XS.iload X3.here hx rfl (hb hby at_42) rfl ?_
      show Steps p.tables e below (T3.setTop (mkF m 44 #[.val (.int sel), .val (.long o1), .second, .val (.long o2), .second, .val (.int s1), .val (.int s2), .val (.int t7), .val (.int t8), .val (.ref p9), .unset, .unset, .unset, .unset, .unset, .unset, .unset, .unset, .unset, .unset] [(.int t8)])) t
      refine XS.ifYes X3.here hx rfl (pc0 := 44) (pc' := 53) rfl (hb hby at_44) rfl ((if0 _ _).trans (teq (h : t8 = (0 : Int32))).1) (by decide) (by decide) ?_
      show Steps p.tables e below (T3.setTop (mkF m 53 #[.val (.int sel), .val (.long o1), .second, .val (.long o2), .second, .val (.int s1), .val (.int s2), .val (.int t7), .val (.int t8), .val (.ref p9), .unset, .unset, .unset, .unset, .unset, .unset, .unset, .unset, .unset, .unset] [])) t
      refine st8 _ ?_
      show Steps p.tables e below (T8.setTop (mkF m 56 #[.val (.int sel), .val (.long o1), .second, .val (.long o2), .second, .val (.int s1), .val (.int s2), .val (.int t7), .val (.int t8), .val (.ref p9), .unset, .unset, .unset, .unset, .unset, .unset, .unset, .unset, .unset, .unset] [(.ref ac)])) t
      refine XS.astore X8.here hx rfl (hb hby at_56) rfl rfl (l' := #[.val (.int sel), .val (.long o1), .second, .val (.long o2), .second, .val (.int s1), .val (.int s2), .val (.int t7), .val (.int t8), .val (.ref p9), .val (.ref ac), .unset, .unset, .unset, .unset, .unset, .unset, .unset, .unset, .unset]) rfl ?_
      exact kt
  obtain ⟨z11, T9, Lx9, X9, N9, e9, hz11, st9⟩ : ∃ (z11 : Int32) (T' : State) (Lx : List Loc), Stand p l e room_1 s m #[(.int sel), (.long o1), (.long o2), (.int s1), (.int s2)] below meth c T' Lx 0 0 ∧ Fr n0 Lx ∧ T'.heap = h0 ∧ ¬ z11 < 1 ∧ ∀ t, Steps p.tables e below (T'.setTop (mkF m 69 #[.val (.int sel), .val (.long o1), .second, .val (.long o2), .second, .val (.int s1), .val (.int s2), .val (.int t7), .val (.int t8), .val (.ref p9), .val (.ref p10), .val (.int z11), .unset, .unset, .unset, .unset, .unset, .unset, .unset, .unset] [])) t → Steps p.tables e below (T6.setTop (mkF m 58 #[.val (.int sel), .val (.long o1), .second, .val (.long o2), .second, .val (.int s1), .val (.int s2), .val (.int t7), .val (.int t8), .val (.ref p9), .val (.ref p10), .unset, .unset, .unset, .unset, .unset, .unset, .unset, .unset, .unset] [])) t := by
    obtain ⟨_, _, ⟨T10, L10, kc10, nc10⟩, -, X10, ⟨Lc10, hQ10, ql10, qy10, qz10⟩, st10⟩ := Jvm.LawKit.callS X6 hx (y := (⟨"java/lang/Math", "max", "(II)I"⟩ : MethodName)) hown (mvT hZ (hw _ (List.mem_of_getElem? (i := 4) rfl))) (mvT hZ (hw _ (List.mem_of_getElem? (i := 5) rfl))) (mvT hZ (hw _ (List.mem_of_getElem? (i := 6) rfl))) (mvT hZ (hw _ (List.mem_of_getElem? (i := 7) rfl))) (by decide) (backOf (W := 0) (own_rmm l Z a0 hw [] (1 : Int32) (s1 &&& (2147483647 : Int32)) h0 n0 Z0) hZ (hw _ (List.mem_of_getElem? (i := 7) rfl)) (hw _ (List.mem_of_getElem? (i := 6) rfl)) (by decide) (by decide)) (g := (mkF m 64 #[.val (.int sel), .val (.long o1), .second, .val (.long o2), .second, .val (.int s1), .val (.int s2), .val (.int t7), .val (.int t8), .val (.ref p9), .val (.ref p10), .unset, .unset, .unset, .unset, .unset, .unset, .unset, .unset, .unset] [(.int (s1 &&& (2147483647 : Int32))), (.int (1 : Int32))])) rfl (by rw [hml]; rfl) (argsL := [(.int (1 : Int32)), (.int (s1 &&& (2147483647 : Int32)))]) (rest := []) (lenOf own_pd0 rfl) rfl (by show 2 * 0 + _ ≤ _; exact Nat.le_of_eq rfl) (hb hby at_64) (fun _ _ => ⟨rfl, e6, (by decide : 0 + 0 ≤ _), (by decide : 0 + 0 ≤ _)⟩)
    dsimp only [Pt.U, Pt.locs, Pt.cells, Pt.slots] at X10 ql10 qy10 qz10 st10 hQ10
    subst ql10 qy10 qz10
    obtain ⟨rfl, Nq10, eq10⟩ := hQ10
    have N10 := Fr.app N6 Nq10
    refine ⟨(if (1 : Int32) < (s1 &&& (2147483647 : Int32)) then (s1 &&& (2147483647 : Int32)) else (1 : Int32)), T10, _, X10, N10, eq10, own_one _, fun t kt => ?_⟩
    show Steps p.tables e below (T6.setTop (mkF m 58 #[.val (.int sel), .val (.long o1), .second, .val (.long o2), .second, .val (.int s1), .val (.int s2), .val (.int t7), .val (.int t8), .val (.ref p9), .val (.ref p10), .unset, .unset, .unset, .unset, .unset, .unset, .unset, .unset, .unset] [])) t
    refine XS.iconst X6.here hx rfl (hb hby at_58) ?_
    show Steps p.tables e below (T6.setTop (mkF m 59 #[.val (.int sel), .val (.long o1), .second, .val (.long o2), .second, .val (.int s1), .val (.int s2), .val (.int t7), .val (.int t8), .val (.ref p9), .val (.ref p10), .unset, .unset, .unset, .unset, .unset, .unset, .unset, .unset, .unset] [(.int (1 : Int32))])) t
    refine XS.iload X6.here hx rfl (hb hby at_59) rfl ?_
    show Steps p.tables e below (T6.setTop (mkF m 61 #[.val (.int sel), .val (.long o1), .second, .val (.long o2), .second, .val (.int s1), .val (.int s2), .val (.int t7), .val (.int t8), .val (.ref p9), .val (.ref p10), .unset, .unset, .unset, .unset, .unset, .unset, .unset, .unset, .unset] [(.int s1), (.int (1 : Int32))])) t
    refine Jvm.Stand.ldcI X6 hx hown (mvT hZ (hw _ (List.mem_of_getElem? (i := 3) rfl))) rfl (hb hby at_61) ?_
    show Steps p.tables e below (T6.setTop (mkF m 63 #[.val (.int sel), .val (.long o1), .second, .val (.long o2), .second, .val (.int s1), .val (.int s2), .val (.int t7), .val (.int t8), .val (.ref p9), .val (.ref p10), .unset, .unset, .unset, .unset, .unset, .unset, .unset, .unset, .unset] [(.int (2147483647 : Int32)), (.int s1), (.int (1 : Int32))])) t
    refine XS.iand X6.here hx rfl (hb hby at_63) rfl ?_
    show Steps p.tables e below (T6.setTop (mkF m 64 #[.val (.int sel), .val (.long o1), .second, .val (.long o2), .second, .val (.int s1), .val (.int s2), .val (.int t7), .val (.int t8), .val (.ref p9), .val (.ref p10), .unset, .unset, .unset, .unset, .unset, .unset, .unset, .unset, .unset] [(.int (s1 &&& (2147483647 : Int32))), (.int (1 : Int32))])) t
    refine st10 _ ?_
    show Steps p.tables e below (T10.setTop (mkF m 67 #[.val (.int sel), .val (.long o1), .second, .val (.long o2), .second, .val (.int s1), .val (.int s2), .val (.int t7), .val (.int t8), .val (.ref p9), .val (.ref p10), .unset, .unset, .unset, .unset, .unset, .unset, .unset, .unset, .unset] [(.int (if (1 : Int32) < (s1 &&& (2147483647 : Int32)) then (s1 &&& (2147483647 : Int32)) else (1 : Int32)))])) t
    refine XS.istore X10.here hx rfl (hb hby at_67) rfl (l' := #[.val (.int sel), .val (.long o1), .second, .val (.long o2), .second, .val (.int s1), .val (.int s2), .val (.int t7), .val (.int t8), .val (.ref p9), .val (.ref p10), .val (.int (if (1 : Int32) < (s1 &&& (2147483647 : Int32)) then (s1 &&& (2147483647 : Int32)) else (1 : Int32))), .unset, .unset, .unset, .unset, .unset, .unset, .unset, .unset]) rfl ?_
    exact kt
  obtain ⟨off, T11, Lx11, X11, N11, e11, st11⟩ : ∃ (off : Int64) (T' : State) (Lx : List Loc), Stand p l e room_1 s m #[(.int sel), (.long o1), (.long o2), (.int s1), (.int s2)] below meth c T' Lx 0 0 ∧ Fr n0 Lx ∧ T'.heap = h0 ∧ ∀ t, Steps p.tables e below (T'.setTop (mkF m 84 #[.val (.int sel), .val (.long o1), .second, .val (.long o2), .second, .val (.int s1), .val (.int s2), .val (.int t7), .val (.int t8), .val (.ref p9), .val (.ref p10), .val (.int z11), .val (.long off), .second, .unset, .unset, .unset, .unset, .unset, .unset] [])) t → Steps p.tables e below (T9.setTop (mkF m 69 #[.val (.int sel), .val (.long o1), .second, .val (.long o2), .second, .val (.int s1), .val (.int s2), .val (.int t7), .val (.int t8), .val (.ref p9), .val (.ref p10), .val (.int z11), .unset, .unset, .unset, .unset, .unset, .unset, .unset, .unset] [])) t := by
    by_cases h : (((sel.toUInt32 >>> ((4 : Int32) &&& 31).toUInt32).toInt32) &&& (1 : Int32)) = 0
    · refine ⟨o2, T9, _, X9, N9, e9, fun t kt => ?_⟩
      show Steps p.tables e below (T9.setTop (mkF m 69 #[.val (.int sel), .val (.long o1), .second, .val (.long o2), .second, .val (.int s1), .val (.int s2), .val (.int t7), .val (.int t8), .val (.ref p9), .val (.ref p10), .val (.int z11), .unset, .unset, .unset, .unset, .unset, .unset, .unset, .unset] [])) t
      refine XS.iloadN X9.here hx rfl (hb hby at_69) rfl ?_
      show Steps p.tables e below (T9.setTop (mkF m 70 #[.val (.int sel), .val (.long o1), .second, .val (.long o2), .second, .val (.int s1), .val (.int s2), .val (.int t7), .val (.int t8), .val (.ref p9), .val (.ref p10), .val (.int z11), .unset, .unset, .unset, .unset, .unset, .unset, .unset, .unset] [(.int sel)])) t
      refine XS.iconst X9.here hx rfl (hb hby at_70) ?_
      show Steps p.tables e below (T9.setTop (mkF m 71 #[.val (.int sel), .val (.long o1), .second, .val (.long o2), .second, .val (.int s1), .val (.int s2), .val (.int t7), .val (.int t8), .val (.ref p9), .val (.ref p10), .val (.int z11), .unset, .unset, .unset, .unset, .unset, .unset, .unset, .unset] [(.int (4 : Int32)), (.int sel)])) t
      refine XS.iushr X9.here hx rfl (hb hby at_71) rfl ?_
      show Steps p.tables e below (T9.setTop (mkF m 72 #[.val (.int sel), .val (.long o1), .second, .val (.long o2), .second, .val (.int s1), .val (.int s2), .val (.int t7), .val (.int t8), .val (.ref p9), .val (.ref p10), .val (.int z11), .unset, .unset, .unset, .unset, .unset, .unset, .unset, .unset] [(.int ((sel.toUInt32 >>> ((4 : Int32) &&& 31).toUInt32).toInt32))])) t
      refine XS.iconst X9.here hx rfl (hb hby at_72) ?_
      show Steps p.tables e below (T9.setTop (mkF m 73 #[.val (.int sel), .val (.long o1), .second, .val (.long o2), .second, .val (.int s1), .val (.int s2), .val (.int t7), .val (.int t8), .val (.ref p9), .val (.ref p10), .val (.int z11), .unset, .unset, .unset, .unset, .unset, .unset, .unset, .unset] [(.int (1 : Int32)), (.int ((sel.toUInt32 >>> ((4 : Int32) &&& 31).toUInt32).toInt32))])) t
      refine XS.iand X9.here hx rfl (hb hby at_73) rfl ?_
      show Steps p.tables e below (T9.setTop (mkF m 74 #[.val (.int sel), .val (.long o1), .second, .val (.long o2), .second, .val (.int s1), .val (.int s2), .val (.int t7), .val (.int t8), .val (.ref p9), .val (.ref p10), .val (.int z11), .unset, .unset, .unset, .unset, .unset, .unset, .unset, .unset] [(.int (((sel.toUInt32 >>> ((4 : Int32) &&& 31).toUInt32).toInt32) &&& (1 : Int32)))])) t
      refine XS.ifYes X9.here hx rfl (pc0 := 74) (pc' := 81) rfl (hb hby at_74) rfl ((if0 _ _).trans (teq (h : (((sel.toUInt32 >>> ((4 : Int32) &&& 31).toUInt32).toInt32) &&& (1 : Int32)) = (0 : Int32))).1) (by decide) (by decide) ?_
      show Steps p.tables e below (T9.setTop (mkF m 81 #[.val (.int sel), .val (.long o1), .second, .val (.long o2), .second, .val (.int s1), .val (.int s2), .val (.int t7), .val (.int t8), .val (.ref p9), .val (.ref p10), .val (.int z11), .unset, .unset, .unset, .unset, .unset, .unset, .unset, .unset] [])) t
      refine XS.lloadN X9.here hx rfl (hb hby at_81) rfl ?_
      show Steps p.tables e below (T9.setTop (mkF m 82 #[.val (.int sel), .val (.long o1), .second, .val (.long o2), .second, .val (.int s1), .val (.int s2), .val (.int t7), .val (.int t8), .val (.ref p9), .val (.ref p10), .val (.int z11), .unset, .unset, .unset, .unset, .unset, .unset, .unset, .unset] [(.long o2)])) t
      refine XS.lstore X9.here hx rfl (hb hby at_82) rfl (l' := #[.val (.int sel), .val (.long o1), .second, .val (.long o2), .second, .val (.int s1), .val (.int s2), .val (.int t7), .val (.int t8), .val (.ref p9), .val (.ref p10), .val (.int z11), .val (.long o2), .second, .unset, .unset, .unset, .unset, .unset, .unset]) rfl ?_
      exact kt
    · refine ⟨o1, T9, _, X9, N9, e9, fun t kt => ?_⟩
      show Steps p.tables e below (T9.setTop (mkF m 69 #[.val (.int sel), .val (.long o1), .second, .val (.long o2), .second, .val (.int s1), .val (.int s2), .val (.int t7), .val (.int t8), .val (.ref p9), .val (.ref p10), .val (.int z11), .unset, .unset, .unset, .unset, .unset, .unset, .unset, .unset] [])) t
      refine XS.iloadN X9.here hx rfl (hb hby at_69) rfl ?_
      show Steps p.tables e below (T9.setTop (mkF m 70 #[.val (.int sel), .val (.long o1), .second, .val (.long o2), .second, .val (.int s1), .val (.int s2), .val (.int t7), .val (.int t8), .val (.ref p9), .val (.ref p10), .val (.int z11), .unset, .unset, .unset, .unset, .unset, .unset, .unset, .unset] [(.int sel)])) t
      refine XS.iconst X9.here hx rfl (hb hby at_70) ?_
      show Steps p.tables e below (T9.setTop (mkF m 71 #[.val (.int sel), .val (.long o1), .second, .val (.long o2), .second, .val (.int s1), .val (.int s2), .val (.int t7), .val (.int t8), .val (.ref p9), .val (.ref p10), .val (.int z11), .unset, .unset, .unset, .unset, .unset, .unset, .unset, .unset] [(.int (4 : Int32)), (.int sel)])) t
      refine XS.iushr X9.here hx rfl (hb hby at_71) rfl ?_
      show Steps p.tables e below (T9.setTop (mkF m 72 #[.val (.int sel), .val (.long o1), .second, .val (.long o2), .second, .val (.int s1), .val (.int s2), .val (.int t7), .val (.int t8), .val (.ref p9), .val (.ref p10), .val (.int z11), .unset, .unset, .unset, .unset, .unset, .unset, .unset, .unset] [(.int ((sel.toUInt32 >>> ((4 : Int32) &&& 31).toUInt32).toInt32))])) t
      refine XS.iconst X9.here hx rfl (hb hby at_72) ?_
      show Steps p.tables e below (T9.setTop (mkF m 73 #[.val (.int sel), .val (.long o1), .second, .val (.long o2), .second, .val (.int s1), .val (.int s2), .val (.int t7), .val (.int t8), .val (.ref p9), .val (.ref p10), .val (.int z11), .unset, .unset, .unset, .unset, .unset, .unset, .unset, .unset] [(.int (1 : Int32)), (.int ((sel.toUInt32 >>> ((4 : Int32) &&& 31).toUInt32).toInt32))])) t
      refine XS.iand X9.here hx rfl (hb hby at_73) rfl ?_
      show Steps p.tables e below (T9.setTop (mkF m 74 #[.val (.int sel), .val (.long o1), .second, .val (.long o2), .second, .val (.int s1), .val (.int s2), .val (.int t7), .val (.int t8), .val (.ref p9), .val (.ref p10), .val (.int z11), .unset, .unset, .unset, .unset, .unset, .unset, .unset, .unset] [(.int (((sel.toUInt32 >>> ((4 : Int32) &&& 31).toUInt32).toInt32) &&& (1 : Int32)))])) t
      refine XS.ifNo X9.here hx rfl (hb hby at_74) rfl ((if0 _ _).trans (feq (h : ¬ ((((sel.toUInt32 >>> ((4 : Int32) &&& 31).toUInt32).toInt32) &&& (1 : Int32)) = (0 : Int32)))).1) ?_
      show Steps p.tables e below (T9.setTop (mkF m 77 #[.val (.int sel), .val (.long o1), .second, .val (.long o2), .second, .val (.int s1), .val (.int s2), .val (.int t7), .val (.int t8), .val (.ref p9), .val (.ref p10), .val (.int z11), .unset, .unset, .unset, .unset, .unset, .unset, .unset, .unset] [])) t
      refine XS.lloadN X9.here hx rfl (hb hby at_77) rfl ?_
      show Steps p.tables e below (T9.setTop (mkF m 78 #[.val (.int sel), .val (.long o1), .second, .val (.long o2), .second, .val (.int s1), .val (.int s2), .val (.int t7), .val (.int t8), .val (.ref p9), .val (.ref p10), .val (.int z11), .unset, .unset, .unset, .unset, .unset, .unset, .unset, .unset] [(.long o1)])) t
      refine XS.goto X9.here hx rfl (pc0 := 78) (pc' := 82) rfl (hb hby at_78) (by decide) (by decide) ?_
      show Steps p.tables e below (T9.setTop (mkF m 82 #[.val (.int sel), .val (.long o1), .second, .val (.long o2), .second, .val (.int s1), .val (.int s2), .val (.int t7), .val (.int t8), .val (.ref p9), .val (.ref p10), .val (.int z11), .unset, .unset, .unset, .unset, .unset, .unset, .unset, .unset] [(.long o1)])) t
      refine XS.lstore X9.here hx rfl (hb hby at_82) rfl (l' := #[.val (.int sel), .val (.long o1), .second, .val (.long o2), .second, .val (.int s1), .val (.int s2), .val (.int t7), .val (.int t8), .val (.ref p9), .val (.ref p10), .val (.int z11), .val (.long o1), .second, .unset, .unset, .unset, .unset, .unset, .unset]) rfl ?_
      exact kt
  obtain ⟨z14, T12, Lx12, X12, N12, e12, hz14, st12⟩ : ∃ (z14 : Int32) (T' : State) (Lx : List Loc), Stand p l e room_1 s m #[(.int sel), (.long o1), (.long o2), (.int s1), (.int s2)] below meth c T' Lx 0 0 ∧ Fr n0 Lx ∧ T'.heap = h0 ∧ ¬ z14 < 1 ∧ ∀ t, Steps p.tables e below (T'.setTop (mkF m 108 #[.val (.int sel), .val (.long o1), .second, .val (.long o2), .second, .val (.int s1), .val (.int s2), .val (.int t7), .val (.int t8), .val (.ref p9), .val (.ref p10), .val (.int z11), .val (.long off), .second, .val (.int z14), .unset, .unset, .unset, .unset, .unset] [])) t → Steps p.tables e below (T11.setTop (mkF m 84 #[.val (.int sel), .val (.long o1), .second, .val (.long o2), .second, .val (.int s1), .val (.int s2), .val (.int t7), .val (.int t8), .val (.ref p9), .val (.ref p10), .val (.int z11), .val (.long off), .second, .unset, .unset, .unset, .unset, .unset, .unset] [])) t := by
    by_cases h : (((sel.toUInt32 >>> ((5 : Int32) &&& 31).toUInt32).toInt32) &&& (1 : Int32)) = 0
    · obtain ⟨_, _, ⟨T13, L13, kc13, nc13⟩, -, X13, ⟨Lc13, hQ13, ql13, qy13, qz13⟩, st13⟩ := Jvm.LawKit.callS X11 hx (y := (⟨"java/lang/Math", "max", "(II)I"⟩ : MethodName)) hown (mvT hZ (hw _ (List.mem_of_getElem? (i := 4) rfl))) (mvT hZ (hw _ (List.mem_of_getElem? (i := 5) rfl))) (mvT hZ (hw _ (List.mem_of_getElem? (i := 6) rfl))) (mvT hZ (hw _ (List.mem_of_getElem? (i := 7) rfl))) (by decide) (backOf (W := 0) (own_rmm l Z a0 hw [] (1 : Int32) (s2 &&& (2147483647 : Int32)) h0 n0 Z0) hZ (hw _ (List.mem_of_getElem? (i := 7) rfl)) (hw _ (List.mem_of_getElem? (i := 6) rfl)) (by decide) (by decide)) (g := (mkF m 103 #[.val (.int sel), .val (.long o1), .second, .val (.long o2), .second, .val (.int s1), .val (.int s2), .val (.int t7), .val (.int t8), .val (.ref p9), .val (.ref p10), .val (.int z11), .val (.long off), .second, .unset, .unset, .unset, .unset, .unset, .unset] [(.int (s2 &&& (2147483647 : Int32))), (.int (1 : Int32))])) rfl (by rw [hml]; rfl) (argsL := [(.int (1 : Int32)), (.int (s2 &&& (2147483647 : Int32)))]) (rest := []) (lenOf own_pd0 rfl) rfl (by show 2 * 0 + _ ≤ _; exact Nat.le_of_eq rfl) (hb hby at_103) (fun _ _ => ⟨rfl, e11, (by decide : 0 + 0 ≤ _), (by decide : 0 + 0 ≤ _)⟩)
      dsimp only [Pt.U, Pt.locs, Pt.cells, Pt.slots] at X13 ql13 qy13 qz13 st13 hQ13
      subst ql13 qy13 qz13
      obtain ⟨rfl, Nq13, eq13⟩ := hQ13
      have N13 := Fr.app N11 Nq13
      refine ⟨(if (1 : Int32) < (s2 &&& (2147483647 : Int32)) then (s2 &&& (2147483647 : Int32)) else (1 : Int32)), T13, _, X13, N13, eq13, own_one _, fun t kt => ?_⟩
      show Steps p.tables e below (T11.setTop (mkF m 84 #[.val (.int sel), .val (.long o1), .second, .val (.long o2), .second, .val (.int s1), .val (.int s2), .val (.int t7), .val (.int t8), .val (.ref p9), .val (.ref p10), .val (.int z11), .val (.long off), .second, .unset, .unset, .unset, .unset, .unset, .unset] [])) t
      refine XS.iloadN X11.here hx rfl (hb hby at_84) rfl ?_
      show Steps p.tables e below (T11.setTop (mkF m 85 #[.val (.int sel), .val (.long o1), .second, .val (.long o2), .second, .val (.int s1), .val (.int s2), .val (.int t7), .val (.int t8), .val (.ref p9), .val (.ref p10), .val (.int z11), .val (.long off), .second, .unset, .unset, .unset, .unset, .unset, .unset] [(.int sel)])) t
      refine XS.iconst X11.here hx rfl (hb hby at_85) ?_
      show Steps p.tables e below (T11.setTop (mkF m 86 #[.val (.int sel), .val (.long o1), .second, .val (.long o2), .second, .val (.int s1), .val (.int s2), .val (.int t7), .val (.int t8), .val (.ref p9), .val (.ref p10), .val (.int z11), .val (.long off), .second, .unset, .unset, .unset, .unset, .unset, .unset] [(.int (5 : Int32)), (.int sel)])) t
      refine XS.iushr X11.here hx rfl (hb hby at_86) rfl ?_
      show Steps p.tables e below (T11.setTop (mkF m 87 #[.val (.int sel), .val (.long o1), .second, .val (.long o2), .second, .val (.int s1), .val (.int s2), .val (.int t7), .val (.int t8), .val (.ref p9), .val (.ref p10), .val (.int z11), .val (.long off), .second, .unset, .unset, .unset, .unset, .unset, .unset] [(.int ((sel.toUInt32 >>> ((5 : Int32) &&& 31).toUInt32).toInt32))])) t
      refine XS.iconst X11.here hx rfl (hb hby at_87) ?_
      show Steps p.tables e below (T11.setTop (mkF m 88 #[.val (.int sel), .val (.long o1), .second, .val (.long o2), .second, .val (.int s1), .val (.int s2), .val (.int t7), .val (.int t8), .val (.ref p9), .val (.ref p10), .val (.int z11), .val (.long off), .second, .unset, .unset, .unset, .unset, .unset, .unset] [(.int (1 : Int32)), (.int ((sel.toUInt32 >>> ((5 : Int32) &&& 31).toUInt32).toInt32))])) t
      refine XS.iand X11.here hx rfl (hb hby at_88) rfl ?_
      show Steps p.tables e below (T11.setTop (mkF m 89 #[.val (.int sel), .val (.long o1), .second, .val (.long o2), .second, .val (.int s1), .val (.int s2), .val (.int t7), .val (.int t8), .val (.ref p9), .val (.ref p10), .val (.int z11), .val (.long off), .second, .unset, .unset, .unset, .unset, .unset, .unset] [(.int (((sel.toUInt32 >>> ((5 : Int32) &&& 31).toUInt32).toInt32) &&& (1 : Int32)))])) t
      refine XS.ifYes X11.here hx rfl (pc0 := 89) (pc' := 97) rfl (hb hby at_89) rfl ((if0 _ _).trans (teq (h : (((sel.toUInt32 >>> ((5 : Int32) &&& 31).toUInt32).toInt32) &&& (1 : Int32)) = (0 : Int32))).1) (by decide) (by decide) ?_
      show Steps p.tables e below (T11.setTop (mkF m 97 #[.val (.int sel), .val (.long o1), .second, .val (.long o2), .second, .val (.int s1), .val (.int s2), .val (.int t7), .val (.int t8), .val (.ref p9), .val (.ref p10), .val (.int z11), .val (.long off), .second, .unset, .unset, .unset, .unset, .unset, .unset] [])) t
      refine XS.iconst X11.here hx rfl (hb hby at_97) ?_
      show Steps p.tables e below (T11.setTop (mkF m 98 #[.val (.int sel), .val (.long o1), .second, .val (.long o2), .second, .val (.int s1), .val (.int s2), .val (.int t7), .val (.int t8), .val (.ref p9), .val (.ref p10), .val (.int z11), .val (.long off), .second, .unset, .unset, .unset, .unset, .unset, .unset] [(.int (1 : Int32))])) t
      refine XS.iload X11.here hx rfl (hb hby at_98) rfl ?_
      show Steps p.tables e below (T11.setTop (mkF m 100 #[.val (.int sel), .val (.long o1), .second, .val (.long o2), .second, .val (.int s1), .val (.int s2), .val (.int t7), .val (.int t8), .val (.ref p9), .val (.ref p10), .val (.int z11), .val (.long off), .second, .unset, .unset, .unset, .unset, .unset, .unset] [(.int s2), (.int (1 : Int32))])) t
      refine Jvm.Stand.ldcI X11 hx hown (mvT hZ (hw _ (List.mem_of_getElem? (i := 3) rfl))) rfl (hb hby at_100) ?_
      show Steps p.tables e below (T11.setTop (mkF m 102 #[.val (.int sel), .val (.long o1), .second, .val (.long o2), .second, .val (.int s1), .val (.int s2), .val (.int t7), .val (.int t8), .val (.ref p9), .val (.ref p10), .val (.int z11), .val (.long off), .second, .unset, .unset, .unset, .unset, .unset, .unset] [(.int (2147483647 : Int32)), (.int s2), (.int (1 : Int32))])) t
      refine XS.iand X11.here hx rfl (hb hby at_102) rfl ?_
      show Steps p.tables e below (T11.setTop (mkF m 103 #[.val (.int sel), .val (.long o1), .second, .val (.long o2), .second, .val (.int s1), .val (.int s2), .val (.int t7), .val (.int t8), .val (.ref p9), .val (.ref p10), .val (.int z11), .val (.long off), .second, .unset, .unset, .unset, .unset, .unset, .unset] [(.int (s2 &&& (2147483647 : Int32))), (.int (1 : Int32))])) t
      refine st13 _ ?_
      show Steps p.tables e below (T13.setTop (mkF m 106 #[.val (.int sel), .val (.long o1), .second, .val (.long o2), .second, .val (.int s1), .val (.int s2), .val (.int t7), .val (.int t8), .val (.ref p9), .val (.ref p10), .val (.int z11), .val (.long off), .second, .unset, .unset, .unset, .unset, .unset, .unset] [(.int (if (1 : Int32) < (s2 &&& (2147483647 : Int32)) then (s2 &&& (2147483647 : Int32)) else (1 : Int32)))])) t
      refine XS.istore X13.here hx rfl (hb hby at_106) rfl (l' := #[.val (.int sel), .val (.long o1), .second, .val (.long o2), .second, .val (.int s1), .val (.int s2), .val (.int t7), .val (.int t8), .val (.ref p9), .val (.ref p10), .val (.int z11), .val (.long off), .second, .val (.int (if (1 : Int32) < (s2 &&& (2147483647 : Int32)) then (s2 &&& (2147483647 : Int32)) else (1 : Int32))), .unset, .unset, .unset, .unset, .unset]) rfl ?_
      exact kt
    · refine ⟨z11, T11, _, X11, N11, e11, hz11, fun t kt => ?_⟩
      show Steps p.tables e below (T11.setTop (mkF m 84 #[.val (.int sel), .val (.long o1), .second, .val (.long o2), .second, .val (.int s1), .val (.int s2), .val (.int t7), .val (.int t8), .val (.ref p9), .val (.ref p10), .val (.int z11), .val (.long off), .second, .unset, .unset, .unset, .unset, .unset, .unset] [])) t
      refine XS.iloadN X11.here hx rfl (hb hby at_84) rfl ?_
      show Steps p.tables e below (T11.setTop (mkF m 85 #[.val (.int sel), .val (.long o1), .second, .val (.long o2), .second, .val (.int s1), .val (.int s2), .val (.int t7), .val (.int t8), .val (.ref p9), .val (.ref p10), .val (.int z11), .val (.long off), .second, .unset, .unset, .unset, .unset, .unset, .unset] [(.int sel)])) t
      refine XS.iconst X11.here hx rfl (hb hby at_85) ?_
      show Steps p.tables e below (T11.setTop (mkF m 86 #[.val (.int sel), .val (.long o1), .second, .val (.long o2), .second, .val (.int s1), .val (.int s2), .val (.int t7), .val (.int t8), .val (.ref p9), .val (.ref p10), .val (.int z11), .val (.long off), .second, .unset, .unset, .unset, .unset, .unset, .unset] [(.int (5 : Int32)), (.int sel)])) t
      refine XS.iushr X11.here hx rfl (hb hby at_86) rfl ?_
      show Steps p.tables e below (T11.setTop (mkF m 87 #[.val (.int sel), .val (.long o1), .second, .val (.long o2), .second, .val (.int s1), .val (.int s2), .val (.int t7), .val (.int t8), .val (.ref p9), .val (.ref p10), .val (.int z11), .val (.long off), .second, .unset, .unset, .unset, .unset, .unset, .unset] [(.int ((sel.toUInt32 >>> ((5 : Int32) &&& 31).toUInt32).toInt32))])) t
      refine XS.iconst X11.here hx rfl (hb hby at_87) ?_
      show Steps p.tables e below (T11.setTop (mkF m 88 #[.val (.int sel), .val (.long o1), .second, .val (.long o2), .second, .val (.int s1), .val (.int s2), .val (.int t7), .val (.int t8), .val (.ref p9), .val (.ref p10), .val (.int z11), .val (.long off), .second, .unset, .unset, .unset, .unset, .unset, .unset] [(.int (1 : Int32)), (.int ((sel.toUInt32 >>> ((5 : Int32) &&& 31).toUInt32).toInt32))])) t
      refine XS.iand X11.here hx rfl (hb hby at_88) rfl ?_
      show Steps p.tables e below (T11.setTop (mkF m 89 #[.val (.int sel), .val (.long o1), .second, .val (.long o2), .second, .val (.int s1), .val (.int s2), .val (.int t7), .val (.int t8), .val (.ref p9), .val (.ref p10), .val (.int z11), .val (.long off), .second, .unset, .unset, .unset, .unset, .unset, .unset] [(.int (((sel.toUInt32 >>> ((5 : Int32) &&& 31).toUInt32).toInt32) &&& (1 : Int32)))])) t
      refine XS.ifNo X11.here hx rfl (hb hby at_89) rfl ((if0 _ _).trans (feq (h : ¬ ((((sel.toUInt32 >>> ((5 : Int32) &&& 31).toUInt32).toInt32) &&& (1 : Int32)) = (0 : Int32)))).1) ?_
      show Steps p.tables e below (T11.setTop (mkF m 92 #[.val (.int sel), .val (.long o1), .second, .val (.long o2), .second, .val (.int s1), .val (.int s2), .val (.int t7), .val (.int t8), .val (.ref p9), .val (.ref p10), .val (.int z11), .val (.long off), .second, .unset, .unset, .unset, .unset, .unset, .unset] [])) t
      refine XS.iload X11.here hx rfl (hb hby at_92) rfl ?_
      show Steps p.tables e below (T11.setTop (mkF m 94 #[.val (.int sel), .val (.long o1), .second, .val (.long o2), .second, .val (.int s1), .val (.int s2), .val (.int t7), .val (.int t8), .val (.ref p9), .val (.ref p10), .val (.int z11), .val (.long off), .second, .unset, .unset, .unset, .unset, .unset, .unset] [(.int z11)])) t
      refine XS.goto X11.here hx rfl (pc0 := 94) (pc' := 106) rfl (hb hby at_94) (by decide) (by decide) ?_
      show Steps p.tables e below (T11.setTop (mkF m 106 #[.val (.int sel), .val (.long o1), .second, .val (.long o2), .second, .val (.int s1), .val (.int s2), .val (.int t7), .val (.int t8), .val (.ref p9), .val (.ref p10), .val (.int z11), .val (.long off), .second, .unset, .unset, .unset, .unset, .unset, .unset] [(.int z11)])) t
      refine XS.istore X11.here hx rfl (hb hby at_106) rfl (l' := #[.val (.int sel), .val (.long o1), .second, .val (.long o2), .second, .val (.int s1), .val (.int s2), .val (.int t7), .val (.int t8), .val (.ref p9), .val (.ref p10), .val (.int z11), .val (.long off), .second, .val (.int z11), .unset, .unset, .unset, .unset, .unset]) rfl ?_
      exact kt
  obtain ⟨k15, T14, Lx14, X14, N14, e14, hk, st14⟩ : ∃ (k15 : Int32) (T' : State) (Lx : List Loc), Stand p l e room_1 s m #[(.int sel), (.long o1), (.long o2), (.int s1), (.int s2)] below meth c T' Lx 0 0 ∧ Fr n0 Lx ∧ T'.heap = h0 ∧ (k15 = 0 ∨ k15 = 1 ∨ k15 = 2 ∨ k15 = 3) ∧ ∀ t, Steps p.tables e below (T'.setTop (mkF m 115 #[.val (.int sel), .val (.long o1), .second, .val (.long o2), .second, .val (.int s1), .val (.int s2), .val (.int t7), .val (.int t8), .val (.ref p9), .val (.ref p10), .val (.int z11), .val (.long off), .second, .val (.int z14), .val (.int k15), .unset, .unset, .unset, .unset] [])) t → Steps p.tables e below (T12.setTop (mkF m 108 #[.val (.int sel), .val (.long o1), .second, .val (.long o2), .second, .val (.int s1), .val (.int s2), .val (.int t7), .val (.int t8), .val (.ref p9), .val (.ref p10), .val (.int z11), .val (.long off), .second, .val (.int z14), .unset, .unset, .unset, .unset, .unset] [])) t := by
    refine ⟨(((sel.toUInt32 >>> ((2 : Int32) &&& 31).toUInt32).toInt32) &&& (3 : Int32)), T12, _, X12, N12, e12, own_m3 _, fun t kt => ?_⟩
    show Steps p.tables e below (T12.setTop (mkF m 108 #[.val (.int sel), .val (.long o1), .second, .val (.long o2), .second, .val (.int s1), .val (.int s2), .val (.int t7), .val (.int t8), .val (.ref p9), .val (.ref p10), .val (.int z11), .val (.long off), .second, .val (.int z14), .unset, .unset, .unset, .unset, .unset] [])) t
    refine XS.iloadN X12.here hx rfl (hb hby at_108) rfl ?_
    show Steps p.tables e below (T12.setTop (mkF m 109 #[.val (.int sel), .val (.long o1), .second, .val (.long o2), .second, .val (.int s1), .val (.int s2), .val (.int t7), .val (.int t8), .val (.ref p9), .val (.ref p10), .val (.int z11), .val (.long off), .second, .val (.int z14), .unset, .unset, .unset, .unset, .unset] [(.int sel)])) t
    refine XS.iconst X12.here hx rfl (hb hby at_109) ?_
    show Steps p.tables e below (T12.setTop (mkF m 110 #[.val (.int sel), .val (.long o1), .second, .val (.long o2), .second, .val (.int s1), .val (.int s2), .val (.int t7), .val (.int t8), .val (.ref p9), .val (.ref p10), .val (.int z11), .val (.long off), .second, .val (.int z14), .unset, .unset, .unset, .unset, .unset] [(.int (2 : Int32)), (.int sel)])) t
    refine XS.iushr X12.here hx rfl (hb hby at_110) rfl ?_
    show Steps p.tables e below (T12.setTop (mkF m 111 #[.val (.int sel), .val (.long o1), .second, .val (.long o2), .second, .val (.int s1), .val (.int s2), .val (.int t7), .val (.int t8), .val (.ref p9), .val (.ref p10), .val (.int z11), .val (.long off), .second, .val (.int z14), .unset, .unset, .unset, .unset, .unset] [(.int ((sel.toUInt32 >>> ((2 : Int32) &&& 31).toUInt32).toInt32))])) t
    refine XS.iconst X12.here hx rfl (hb hby at_111) ?_
    show Steps p.tables e below (T12.setTop (mkF m 112 #[.val (.int sel), .val (.long o1), .second, .val (.long o2), .second, .val (.int s1), .val (.int s2), .val (.int t7), .val (.int t8), .val (.ref p9), .val (.ref p10), .val (.int z11), .val (.long off), .second, .val (.int z14), .unset, .unset, .unset, .unset, .unset] [(.int (3 : Int32)), (.int ((sel.toUInt32 >>> ((2 : Int32) &&& 31).toUInt32).toInt32))])) t
    refine XS.iand X12.here hx rfl (hb hby at_112) rfl ?_
    show Steps p.tables e below (T12.setTop (mkF m 113 #[.val (.int sel), .val (.long o1), .second, .val (.long o2), .second, .val (.int s1), .val (.int s2), .val (.int t7), .val (.int t8), .val (.ref p9), .val (.ref p10), .val (.int z11), .val (.long off), .second, .val (.int z14), .unset, .unset, .unset, .unset, .unset] [(.int (((sel.toUInt32 >>> ((2 : Int32) &&& 31).toUInt32).toInt32) &&& (3 : Int32)))])) t
    refine XS.istore X12.here hx rfl (hb hby at_113) rfl (l' := #[.val (.int sel), .val (.long o1), .second, .val (.long o2), .second, .val (.int s1), .val (.int s2), .val (.int t7), .val (.int t8), .val (.ref p9), .val (.ref p10), .val (.int z11), .val (.long off), .second, .val (.int z14), .val (.int (((sel.toUInt32 >>> ((2 : Int32) &&& 31).toUInt32).toInt32) &&& (3 : Int32))), .unset, .unset, .unset, .unset]) rfl ?_
    exact kt
  obtain ⟨T15, hp15, X15, e15, E15, A15, D15, -, st15⟩ := newO X14 hx hZ hown (hw _ (List.mem_of_getElem? (i := 8) rfl)) (hw _ (List.mem_of_getElem? (i := 9) rfl)) (hw _ (List.mem_of_getElem? (i := 10) rfl)) e14 (g := (mkF m 115 #[.val (.int sel), .val (.long o1), .second, .val (.long o2), .second, .val (.int s1), .val (.int s2), .val (.int t7), .val (.int t8), .val (.ref p9), .val (.ref p10), .val (.int z11), .val (.long off), .second, .val (.int z14), .val (.int k15), .unset, .unset, .unset, .unset] [])) rfl (hb hby at_115) (by decide) (by decide)
  obtain ⟨b15, g15⟩ : ∃ z, z = h0.size := ⟨_, rfl⟩
  rw [← g15] at A15 D15 st15
  have ne_p9_b15 : p9 ≠ b15 := Nat.ne_of_lt (by rw [g15]; exact Ep9.lt)
  have gn_b15 : n0 ≤ b15 := Nat.le_trans Z0 (Nat.le_of_eq g15.symm)
  have E15_p9 := Ep9.ext E15
  have Zn15 : n0 ≤ hp15.size := Nat.le_trans Z0 E15.1
  have F15_space : Fld Z hp15 b15 "com/example/tablewright/tablewright/model/Varnode" "space" "Lcom/example/tablewright/tablewright/model/AddressSpace;" .null := D15 (Or.inr (hw _ (List.mem_of_getElem? (i := 18) rfl))) (ty := (.object "com/example/tablewright/tablewright/model/AddressSpace")) (by decide)
  have F15_offset : Fld Z hp15 b15 "com/example/tablewright/tablewright/model/Varnode" "offset" "J" (.long (0 : Int64)) := D15 (Or.inr (hw _ (List.mem_of_getElem? (i := 20) rfl))) (ty := .long) (by decide)
  have F15_size : Fld Z hp15 b15 "com/example/tablewright/tablewright/model/Varnode" "size" "I" (.int (0 : Int32)) := D15 (Or.inr (hw _ (List.mem_of_getElem? (i := 22) rfl))) (ty := .int) (by decide)
  obtain ⟨_, _, ⟨T16, L16, kc16, nc16⟩, -, X16, ⟨Lc16, hQ16, ql16, qy16, qz16⟩, st16⟩ := X15.specialBack hx (y := (⟨"com/example/tablewright/tablewright/model/Varnode", "<init>", "(Lcom/example/tablewright/tablewright/model/AddressSpace;JI)V"⟩ : MethodName)) rfl hown (mvT hZ (hw _ (List.mem_of_getElem? (i := 11) rfl))) (mvT hZ (hw _ (List.mem_of_getElem? (i := 12) rfl))) (mvT hZ (hw _ (List.mem_of_getElem? (i := 13) rfl))) (by decide) (backOf (W := 1) (rm2 l Z a0 hw [] b15 p9 o1 z11 .null (.long 0) (.int 0) hp15 n0 Zn15 A15 F15_space gn_b15 F15_offset F15_size hz11) hZ (hw _ (List.mem_of_getElem? (i := 13) rfl)) (hw _ (List.mem_of_getElem? (i := 10) rfl)) (by decide) (by decide)) (g := (mkF m 124 #[.val (.int sel), .val (.long o1), .second, .val (.long o2), .second, .val (.int s1), .val (.int s2), .val (.int t7), .val (.int t8), .val (.ref p9), .val (.ref p10), .val (.int z11), .val (.long off), .second, .val (.int z14), .val (.int k15), .unset, .unset, .unset, .unset] [(.int z11), (.long o1), (.ref p9), (.ref b15), (.ref b15)])) rfl (by rw [hml]; rfl) (Steps.refl _) (a := b15) (argsL := [(.ref p9), (.long o1), (.int z11)]) (rest := [(.ref b15)]) (lenOf own_pd1 rfl) rfl (by show 2 * 0 + _ ≤ _; exact Nat.le_of_eq rfl) (hb hby at_124) (fun _ _ => ⟨rfl, e15, (by decide : 1 + 0 ≤ _), (by decide : 3 + 0 ≤ _)⟩)
  dsimp only [Pt.U, Pt.locs, Pt.cells, Pt.slots] at X16 ql16 qy16 qz16 st16 hQ16
  subst ql16 qy16 qz16
  obtain ⟨rfl, Nq16, K16, Ec16, Fc16_space, Fc16_offset, Fc16_size⟩ := hQ16
  have N16 := Fr.app N14 Nq16
  have E16_p9 := E15_p9.keep K16
  have Zn16 : n0 ≤ T16.heap.size := Nat.le_trans Zn15 K16.1
  obtain ⟨T17, hp17, X17, e17, E17, A17, D17, -, st17⟩ := newO X16 hx hZ hown (hw _ (List.mem_of_getElem? (i := 8) rfl)) (hw _ (List.mem_of_getElem? (i := 9) rfl)) (hw _ (List.mem_of_getElem? (i := 10) rfl)) (rfl : T16.heap = _) (g := (mkF m 129 #[.val (.int sel), .val (.long o1), .second, .val (.long o2), .second, .val (.int s1), .val (.int s2), .val (.int t7), .val (.int t8), .val (.ref p9), .val (.ref p10), .val (.int z11), .val (.long off), .second, .val (.int z14), .val (.int k15), .val (.ref b15), .unset, .unset, .unset] [])) rfl (hb hby at_129) (by decide) (by decide)
  obtain ⟨b17, g17⟩ : ∃ z, z = T16.heap.size := ⟨_, rfl⟩
  rw [← g17] at A17 D17 st17
  have ne_p9_b17 : p9 ≠ b17 := Nat.ne_of_lt (by rw [g17]; exact E16_p9.lt)
  have ne_b15_b17 : b15 ≠ b17 := Nat.ne_of_lt (by rw [g17]; exact Ec16.lt)
  have gn_b17 : n0 ≤ b17 := Nat.le_trans Zn16 (Nat.le_of_eq g17.symm)
  have F17_b15_space := Fc16_space.ext E17
  have F17_b15_offset := Fc16_offset.ext E17
  have F17_b15_size := Fc16_size.ext E17
  have E17_p9 := E16_p9.ext E17
  have E17_b15 := Ec16.ext E17
  have Zn17 : n0 ≤ hp17.size := Nat.le_trans Zn16 E17.1
  have F17_space : Fld Z hp17 b17 "com/example/tablewright/tablewright/model/Varnode" "space" "Lcom/example/tablewright/tablewright/model/AddressSpace;" .null := D17 (Or.inr (hw _ (List.mem_of_getElem? (i := 18) rfl))) (ty := (.object "com/example/tablewright/tablewright/model/AddressSpace")) (by decide)
  have F17_offset : Fld Z hp17 b17 "com/example/tablewright/tablewright/model/Varnode" "offset" "J" (.long (0 : Int64)) := D17 (Or.inr (hw _ (List.mem_of_getElem? (i := 20) rfl))) (ty := .long) (by decide)
  have F17_size : Fld Z hp17 b17 "com/example/tablewright/tablewright/model/Varnode" "size" "I" (.int (0 : Int32)) := D17 (Or.inr (hw _ (List.mem_of_getElem? (i := 22) rfl))) (ty := .int) (by decide)
  obtain ⟨_, _, ⟨T18, L18, kc18, nc18⟩, -, X18, ⟨Lc18, hQ18, ql18, qy18, qz18⟩, st18⟩ := X17.specialBack hx (y := (⟨"com/example/tablewright/tablewright/model/Varnode", "<init>", "(Lcom/example/tablewright/tablewright/model/AddressSpace;JI)V"⟩ : MethodName)) rfl hown (mvT hZ (hw _ (List.mem_of_getElem? (i := 11) rfl))) (mvT hZ (hw _ (List.mem_of_getElem? (i := 12) rfl))) (mvT hZ (hw _ (List.mem_of_getElem? (i := 13) rfl))) (by decide) (backOf (W := 1) (rm2 l Z a0 hw [] b17 p10 off z14 .null (.long 0) (.int 0) hp17 n0 Zn17 A17 F17_space gn_b17 F17_offset F17_size hz14) hZ (hw _ (List.mem_of_getElem? (i := 13) rfl)) (hw _ (List.mem_of_getElem? (i := 10) rfl)) (by decide) (by decide)) (g := (mkF m 139 #[.val (.int sel), .val (.long o1), .second, .val (.long o2), .second, .val (.int s1), .val (.int s2), .val (.int t7), .val (.int t8), .val (.ref p9), .val (.ref p10), .val (.int z11), .val (.long off), .second, .val (.int z14), .val (.int k15), .val (.ref b15), .unset, .unset, .unset] [(.int z14), (.long off), (.ref p10), (.ref b17), (.ref b17)])) rfl (by rw [hml]; rfl) (Steps.refl _) (a := b17) (argsL := [(.ref p10), (.long off), (.int z14)]) (rest := [(.ref b17)]) (lenOf own_pd1 rfl) rfl (by show 2 * 0 + _ ≤ _; exact Nat.le_of_eq rfl) (hb hby at_139) (fun _ _ => ⟨rfl, e17, (by decide : 2 + 0 ≤ _), (by decide : 6 + 0 ≤ _)⟩)
  dsimp only [Pt.U, Pt.locs, Pt.cells, Pt.slots] at X18 ql18 qy18 qz18 st18 hQ18
  subst ql18 qy18 qz18
  obtain ⟨rfl, Nq18, K18, Ec18, Fc18_space, Fc18_offset, Fc18_size⟩ := hQ18
  have N18 := Fr.app N16 Nq18
  have F18_b15_space := F17_b15_space.keep K18 (ninS ne_b15_b17 nin0)
  have F18_b15_offset := F17_b15_offset.keep K18 (ninS ne_b15_b17 nin0)
  have F18_b15_size := F17_b15_size.keep K18 (ninS ne_b15_b17 nin0)
  have E18_p9 := E17_p9.keep K18
  have E18_b15 := E17_b15.keep K18
  have Zn18 : n0 ≤ T18.heap.size := Nat.le_trans Zn17 K18.1
  have hpq : p10 = p9 ↔ t7 = t8 := by
    rcases hp9 with ⟨h, h'⟩ | ⟨h, h'⟩ <;> rcases hp10 with ⟨q, q'⟩ | ⟨q, q'⟩ <;> rw [h, h', q, q']
    · exact ⟨fun _ => rfl, fun _ => rfl⟩
    · exact ⟨fun z => absurd z n1, fun z => absurd z (by decide)⟩
    · exact ⟨fun z => absurd z.symm n1, fun z => absurd z (by decide)⟩
    · exact ⟨fun _ => rfl, fun _ => rfl⟩
  rcases own_seven k15 hk (t7 = t8) (o1 = off) (z11 = z14) with ⟨hk, h1, h2, h3⟩ | ⟨hk, h1, h2, h3⟩ | ⟨hk, h1, h2⟩ | ⟨hk, h1⟩ | hk | hk | hk
  · obtain ⟨cq19, kq19, q19a, q19b, q19c⟩ := isOf hZ (rfl : T18.heap = _) E18_b15
    obtain ⟨_, _, ⟨T19, L19, kc19, nc19⟩, -, X19, ⟨Lc19, hQ19, ql19, qy19, qz19⟩, st19⟩ := X18.virtualBack hx (y := (⟨"com/example/tablewright/tablewright/model/Varnode", "equals", "(Ljava/lang/Object;)Z"⟩ : MethodName)) (z := (⟨"com/example/tablewright/tablewright/model/Varnode", "equals", "(Ljava/lang/Object;)Z"⟩ : MethodName)) hown (mvT hZ (hw _ (List.mem_of_getElem? (i := 23) rfl))) (mvT hZ (hw _ (List.mem_of_getElem? (i := 24) rfl))) (notFace_of_selects (args := #[]) (mvT hZ (hw _ (List.mem_of_getElem? (i := 26) rfl)))) (mvT hZ (hw _ (List.mem_of_getElem? (i := 26) rfl))) (mvT hZ (hw _ (List.mem_of_getElem? (i := 25) rfl))) (by decide) (backOf (W := 0) (own_rme l Z a0 hw [] b15 b17 p9 p10 o1 off z11 z14 T18.heap n0 Zn18 Ec18 F18_b15_space F18_b15_offset F18_b15_size Fc18_space Fc18_offset Fc18_size) hZ (hw _ (List.mem_of_getElem? (i := 27) rfl)) (hw _ (List.mem_of_getElem? (i := 10) rfl)) (by decide) (by decide)) q19a q19c (g := (mkF m 226 #[.val (.int sel), .val (.long o1), .second, .val (.long o2), .second, .val (.int s1), .val (.int s2), .val (.int t7), .val (.int t8), .val (.ref p9), .val (.ref p10), .val (.int z11), .val (.long off), .second, .val (.int z14), .val (.int k15), .val (.ref b15), .val (.ref b17), .val (.ref b17), .val (.int (1 : Int32))] [(.ref b17), (.ref b15)])) rfl (by rw [hml]; rfl) (Steps.refl _) (argsL := [(.ref b17)]) (rest := []) (lenOf own_pd2 rfl) rfl (by show 2 * 0 + _ ≤ _; exact Nat.le_of_eq rfl) (hb hby at_226) (fun _ _ => ⟨rfl, (rfl : T18.heap = _), (by decide : 2 + 0 ≤ _), (by decide : 6 + 0 ≤ _)⟩)
    dsimp only [Pt.U, Pt.locs, Pt.cells, Pt.slots] at X19 ql19 qy19 qz19 st19 hQ19
    subst ql19 qy19 qz19
    obtain ⟨rfl, Nq19, eq19⟩ := hQ19
    have N19 := Fr.app N18 Nq19
    obtain ⟨fs, hr, hrun, hended, hW, hsame⟩ := X19.leave (v := some (.int (1 : Int32))) (fun h => by rw [Bd.returns] at h; cases h)
    refine ⟨_, _, pre0 _ ?_, hrun, hended, _, _, rfl, ?_, ⟨_, rfl⟩, hW, hsame.mono (by decide) (by decide)⟩
    · show Steps p.tables e below (s₁.setTop (mkF m 0 #[.val (.int sel), .val (.long o1), .second, .val (.long o2), .second, .val (.int s1), .val (.int s2), .unset, .unset, .unset, .unset, .unset, .unset, .unset, .unset, .unset, .unset, .unset, .unset, .unset] [])) _
      refine st1 _ ?_
      show Steps p.tables e below (T1.setTop (mkF m 13 #[.val (.int sel), .val (.long o1), .second, .val (.long o2), .second, .val (.int s1), .val (.int s2), .val (.int t7), .unset, .unset, .unset, .unset, .unset, .unset, .unset, .unset, .unset, .unset, .unset, .unset] [])) _
      refine st2 _ ?_
      show Steps p.tables e below (T2.setTop (mkF m 26 #[.val (.int sel), .val (.long o1), .second, .val (.long o2), .second, .val (.int s1), .val (.int s2), .val (.int t7), .val (.int t8), .unset, .unset, .unset, .unset, .unset, .unset, .unset, .unset, .unset, .unset, .unset] [])) _
      refine st3 _ ?_
      show Steps p.tables e below (T3.setTop (mkF m 42 #[.val (.int sel), .val (.long o1), .second, .val (.long o2), .second, .val (.int s1), .val (.int s2), .val (.int t7), .val (.int t8), .val (.ref p9), .unset, .unset, .unset, .unset, .unset, .unset, .unset, .unset, .unset, .unset] [])) _
      refine st6 _ ?_
      show Steps p.tables e below (T6.setTop (mkF m 58 #[.val (.int sel), .val (.long o1), .second, .val (.long o2), .second, .val (.int s1), .val (.int s2), .val (.int t7), .val (.int t8), .val (.ref p9), .val (.ref p10), .unset, .unset, .unset, .unset, .unset, .unset, .unset, .unset, .unset] [])) _
      refine st9 _ ?_
      show Steps p.tables e below (T9.setTop (mkF m 69 #[.val (.int sel), .val (.long o1), .second, .val (.long o2), .second, .val (.int s1), .val (.int s2), .val (.int t7), .val (.int t8), .val (.ref p9), .val (.ref p10), .val (.int z11), .unset, .unset, .unset, .unset, .unset, .unset, .unset, .unset] [])) _
      refine st11 _ ?_
      show Steps p.tables e below (T11.setTop (mkF m 84 #[.val (.int sel), .val (.long o1), .second, .val (.long o2), .second, .val (.int s1), .val (.int s2), .val (.int t7), .val (.int t8), .val (.ref p9), .val (.ref p10), .val (.int z11), .val (.long off), .second, .unset, .unset, .unset, .unset, .unset, .unset] [])) _
      refine st12 _ ?_
      show Steps p.tables e below (T12.setTop (mkF m 108 #[.val (.int sel), .val (.long o1), .second, .val (.long o2), .second, .val (.int s1), .val (.int s2), .val (.int t7), .val (.int t8), .val (.ref p9), .val (.ref p10), .val (.int z11), .val (.long off), .second, .val (.int z14), .unset, .unset, .unset, .unset, .unset] [])) _
      refine st14 _ ?_
      show Steps p.tables e below (T14.setTop (mkF m 115 #[.val (.int sel), .val (.long o1), .second, .val (.long o2), .second, .val (.int s1), .val (.int s2), .val (.int t7), .val (.int t8), .val (.ref p9), .val (.ref p10), .val (.int z11), .val (.long off), .second, .val (.int z14), .val (.int k15), .unset, .unset, .unset, .unset] [])) _
      refine st15 _ ?_
      show Steps p.tables e below (T15.setTop (mkF m 118 #[.val (.int sel), .val (.long o1), .second, .val (.long o2), .second, .val (.int s1), .val (.int s2), .val (.int t7), .val (.int t8), .val (.ref p9), .val (.ref p10), .val (.int z11), .val (.long off), .second, .val (.int z14), .val (.int k15), .unset, .unset, .unset, .unset] [(.ref b15)])) _
      refine XS.dup X15.here hx rfl (hb hby at_118) rfl rfl ?_
      show Steps p.tables e below (T15.setTop (mkF m 119 #[.val (.int sel), .val (.long o1), .second, .val (.long o2), .second, .val (.int s1), .val (.int s2), .val (.int t7), .val (.int t8), .val (.ref p9), .val (.ref p10), .val (.int z11), .val (.long off), .second, .val (.int z14), .val (.int k15), .unset, .unset, .unset, .unset] [(.ref b15), (.ref b15)])) _
      refine XS.aload X15.here hx rfl (hb hby at_119) rfl rfl ?_
      show Steps p.tables e below (T15.setTop (mkF m 121 #[.val (.int sel), .val (.long o1), .second, .val (.long o2), .second, .val (.int s1), .val (.int s2), .val (.int t7), .val (.int t8), .val (.ref p9), .val (.ref p10), .val (.int z11), .val (.long off), .second, .val (.int z14), .val (.int k15), .unset, .unset, .unset, .unset] [(.ref p9), (.ref b15), (.ref b15)])) _
      refine XS.lloadN X15.here hx rfl (hb hby at_121) rfl ?_
      show Steps p.tables e below (T15.setTop (mkF m 122 #[.val (.int sel), .val (.long o1), .second, .val (.long o2), .second, .val (.int s1), .val (.int s2), .val (.int t7), .val (.int t8), .val (.ref p9), .val (.ref p10), .val (.int z11), .val (.long off), .second, .val (.int z14), .val (.int k15), .unset, .unset, .unset, .unset] [(.long o1), (.ref p9), (.ref b15), (.ref b15)])) _
      refine XS.iload X15.here hx rfl (hb hby at_122) rfl ?_
      show Steps p.tables e below (T15.setTop (mkF m 124 #[.val (.int sel), .val (.long o1), .second, .val (.long o2), .second, .val (.int s1), .val (.int s2), .val (.int t7), .val (.int t8), .val (.ref p9), .val (.ref p10), .val (.int z11), .val (.long off), .second, .val (.int z14), .val (.int k15), .unset, .unset, .unset, .unset] [(.int z11), (.long o1), (.ref p9), (.ref b15), (.ref b15)])) _
      refine st16.trans ?_
      show Steps p.tables e below (T16.setTop (mkF m 127 #[.val (.int sel), .val (.long o1), .second, .val (.long o2), .second, .val (.int s1), .val (.int s2), .val (.int t7), .val (.int t8), .val (.ref p9), .val (.ref p10), .val (.int z11), .val (.long off), .second, .val (.int z14), .val (.int k15), .unset, .unset, .unset, .unset] [(.ref b15)])) _
      refine XS.astore X16.here hx rfl (hb hby at_127) rfl rfl (l' := #[.val (.int sel), .val (.long o1), .second, .val (.long o2), .second, .val (.int s1), .val (.int s2), .val (.int t7), .val (.int t8), .val (.ref p9), .val (.ref p10), .val (.int z11), .val (.long off), .second, .val (.int z14), .val (.int k15), .val (.ref b15), .unset, .unset, .unset]) rfl ?_
      show Steps p.tables e below (T16.setTop (mkF m 129 #[.val (.int sel), .val (.long o1), .second, .val (.long o2), .second, .val (.int s1), .val (.int s2), .val (.int t7), .val (.int t8), .val (.ref p9), .val (.ref p10), .val (.int z11), .val (.long off), .second, .val (.int z14), .val (.int k15), .val (.ref b15), .unset, .unset, .unset] [])) _
      refine st17 _ ?_
      show Steps p.tables e below (T17.setTop (mkF m 132 #[.val (.int sel), .val (.long o1), .second, .val (.long o2), .second, .val (.int s1), .val (.int s2), .val (.int t7), .val (.int t8), .val (.ref p9), .val (.ref p10), .val (.int z11), .val (.long off), .second, .val (.int z14), .val (.int k15), .val (.ref b15), .unset, .unset, .unset] [(.ref b17)])) _
      refine XS.dup X17.here hx rfl (hb hby at_132) rfl rfl ?_
      show Steps p.tables e below (T17.setTop (mkF m 133 #[.val (.int sel), .val (.long o1), .second, .val (.long o2), .second, .val (.int s1), .val (.int s2), .val (.int t7), .val (.int t8), .val (.ref p9), .val (.ref p10), .val (.int z11), .val (.long off), .second, .val (.int z14), .val (.int k15), .val (.ref b15), .unset, .unset, .unset] [(.ref b17), (.ref b17)])) _
      refine XS.aload X17.here hx rfl (hb hby at_133) rfl rfl ?_
      show Steps p.tables e below (T17.setTop (mkF m 135 #[.val (.int sel), .val (.long o1), .second, .val (.long o2), .second, .val (.int s1), .val (.int s2), .val (.int t7), .val (.int t8), .val (.ref p9), .val (.ref p10), .val (.int z11), .val (.long off), .second, .val (.int z14), .val (.int k15), .val (.ref b15), .unset, .unset, .unset] [(.ref p10), (.ref b17), (.ref b17)])) _
      refine XS.lload X17.here hx rfl (hb hby at_135) rfl ?_
      show Steps p.tables e below (T17.setTop (mkF m 137 #[.val (.int sel), .val (.long o1), .second, .val (.long o2), .second, .val (.int s1), .val (.int s2), .val (.int t7), .val (.int t8), .val (.ref p9), .val (.ref p10), .val (.int z11), .val (.long off), .second, .val (.int z14), .val (.int k15), .val (.ref b15), .unset, .unset, .unset] [(.long off), (.ref p10), (.ref b17), (.ref b17)])) _
      refine XS.iload X17.here hx rfl (hb hby at_137) rfl ?_
      show Steps p.tables e below (T17.setTop (mkF m 139 #[.val (.int sel), .val (.long o1), .second, .val (.long o2), .second, .val (.int s1), .val (.int s2), .val (.int t7), .val (.int t8), .val (.ref p9), .val (.ref p10), .val (.int z11), .val (.long off), .second, .val (.int z14), .val (.int k15), .val (.ref b15), .unset, .unset, .unset] [(.int z14), (.long off), (.ref p10), (.ref b17), (.ref b17)])) _
      refine st18.trans ?_
      show Steps p.tables e below (T18.setTop (mkF m 142 #[.val (.int sel), .val (.long o1), .second, .val (.long o2), .second, .val (.int s1), .val (.int s2), .val (.int t7), .val (.int t8), .val (.ref p9), .val (.ref p10), .val (.int z11), .val (.long off), .second, .val (.int z14), .val (.int k15), .val (.ref b15), .unset, .unset, .unset] [(.ref b17)])) _
      refine XS.astore X18.here hx rfl (hb hby at_142) rfl rfl (l' := #[.val (.int sel), .val (.long o1), .second, .val (.long o2), .second, .val (.int s1), .val (.int s2), .val (.int t7), .val (.int t8), .val (.ref p9), .val (.ref p10), .val (.int z11), .val (.long off), .second, .val (.int z14), .val (.int k15), .val (.ref b15), .val (.ref b17), .unset, .unset]) rfl ?_
      show Steps p.tables e below (T18.setTop (mkF m 144 #[.val (.int sel), .val (.long o1), .second, .val (.long o2), .second, .val (.int s1), .val (.int s2), .val (.int t7), .val (.int t8), .val (.ref p9), .val (.ref p10), .val (.int z11), .val (.long off), .second, .val (.int z14), .val (.int k15), .val (.ref b15), .val (.ref b17), .unset, .unset] [])) _
      refine XS.iload X18.here hx rfl (hb hby at_144) rfl ?_
      show Steps p.tables e below (T18.setTop (mkF m 146 #[.val (.int sel), .val (.long o1), .second, .val (.long o2), .second, .val (.int s1), .val (.int s2), .val (.int t7), .val (.int t8), .val (.ref p9), .val (.ref p10), .val (.int z11), .val (.long off), .second, .val (.int z14), .val (.int k15), .val (.ref b15), .val (.ref b17), .unset, .unset] [(.int k15)])) _
      refine XS.ifNo X18.here hx rfl (hb hby at_146) rfl ((if0 _ _).trans (teq (hk : k15 = (0 : Int32))).2) ?_
      show Steps p.tables e below (T18.setTop (mkF m 149 #[.val (.int sel), .val (.long o1), .second, .val (.long o2), .second, .val (.int s1), .val (.int s2), .val (.int t7), .val (.int t8), .val (.ref p9), .val (.ref p10), .val (.int z11), .val (.long off), .second, .val (.int z14), .val (.int k15), .val (.ref b15), .val (.ref b17), .unset, .unset] [])) _
      refine XS.aload X18.here hx rfl (hb hby at_149) rfl rfl ?_
      show Steps p.tables e below (T18.setTop (mkF m 151 #[.val (.int sel), .val (.long o1), .second, .val (.long o2), .second, .val (.int s1), .val (.int s2), .val (.int t7), .val (.int t8), .val (.ref p9), .val (.ref p10), .val (.int z11), .val (.long off), .second, .val (.int z14), .val (.int k15), .val (.ref b15), .val (.ref b17), .unset, .unset] [(.ref b17)])) _
      refine XS.astore X18.here hx rfl (hb hby at_151) rfl rfl (l' := #[.val (.int sel), .val (.long o1), .second, .val (.long o2), .second, .val (.int s1), .val (.int s2), .val (.int t7), .val (.int t8), .val (.ref p9), .val (.ref p10), .val (.int z11), .val (.long off), .second, .val (.int z14), .val (.int k15), .val (.ref b15), .val (.ref b17), .val (.ref b17), .unset]) rfl ?_
      show Steps p.tables e below (T18.setTop (mkF m 153 #[.val (.int sel), .val (.long o1), .second, .val (.long o2), .second, .val (.int s1), .val (.int s2), .val (.int t7), .val (.int t8), .val (.ref p9), .val (.ref p10), .val (.int z11), .val (.long off), .second, .val (.int z14), .val (.int k15), .val (.ref b15), .val (.ref b17), .val (.ref b17), .unset] [])) _
      refine XS.iload X18.here hx rfl (hb hby at_153) rfl ?_
      show Steps p.tables e below (T18.setTop (mkF m 155 #[.val (.int sel), .val (.long o1), .second, .val (.long o2), .second, .val (.int s1), .val (.int s2), .val (.int t7), .val (.int t8), .val (.ref p9), .val (.ref p10), .val (.int z11), .val (.long off), .second, .val (.int z14), .val (.int k15), .val (.ref b15), .val (.ref b17), .val (.ref b17), .unset] [(.int t7)])) _
      refine XS.iload X18.here hx rfl (hb hby at_155) rfl ?_
      show Steps p.tables e below (T18.setTop (mkF m 157 #[.val (.int sel), .val (.long o1), .second, .val (.long o2), .second, .val (.int s1), .val (.int s2), .val (.int t7), .val (.int t8), .val (.ref p9), .val (.ref p10), .val (.int z11), .val (.long off), .second, .val (.int z14), .val (.int k15), .val (.ref b15), .val (.ref b17), .val (.ref b17), .unset] [(.int t8), (.int t7)])) _
      refine XS.icmpNo X18.here hx rfl (hb hby at_157) rfl (teq (h1 : t7 = t8)).2 ?_
      show Steps p.tables e below (T18.setTop (mkF m 160 #[.val (.int sel), .val (.long o1), .second, .val (.long o2), .second, .val (.int s1), .val (.int s2), .val (.int t7), .val (.int t8), .val (.ref p9), .val (.ref p10), .val (.int z11), .val (.long off), .second, .val (.int z14), .val (.int k15), .val (.ref b15), .val (.ref b17), .val (.ref b17), .unset] [])) _
      refine XS.lloadN X18.here hx rfl (hb hby at_160) rfl ?_
      show Steps p.tables e below (T18.setTop (mkF m 161 #[.val (.int sel), .val (.long o1), .second, .val (.long o2), .second, .val (.int s1), .val (.int s2), .val (.int t7), .val (.int t8), .val (.ref p9), .val (.ref p10), .val (.int z11), .val (.long off), .second, .val (.int z14), .val (.int k15), .val (.ref b15), .val (.ref b17), .val (.ref b17), .unset] [(.long o1)])) _
      refine XS.lload X18.here hx rfl (hb hby at_161) rfl ?_
      show Steps p.tables e below (T18.setTop (mkF m 163 #[.val (.int sel), .val (.long o1), .second, .val (.long o2), .second, .val (.int s1), .val (.int s2), .val (.int t7), .val (.int t8), .val (.ref p9), .val (.ref p10), .val (.int z11), .val (.long off), .second, .val (.int z14), .val (.int k15), .val (.ref b15), .val (.ref b17), .val (.ref b17), .unset] [(.long off), (.long o1)])) _
      refine XS.lcmp X18.here hx rfl (hb hby at_163) rfl ?_
      show Steps p.tables e below (T18.setTop (mkF m 164 #[.val (.int sel), .val (.long o1), .second, .val (.long o2), .second, .val (.int s1), .val (.int s2), .val (.int t7), .val (.int t8), .val (.ref p9), .val (.ref p10), .val (.int z11), .val (.long off), .second, .val (.int z14), .val (.int k15), .val (.ref b15), .val (.ref b17), .val (.ref b17), .unset] [(.int (lcmpW o1 off))])) _
      refine XS.ifNo X18.here hx rfl (hb hby at_164) rfl ((if0 _ _).trans (teq ((lw_eq _ _).mpr h2 : (lcmpW o1 off) = (0 : Int32))).2) ?_
      show Steps p.tables e below (T18.setTop (mkF m 167 #[.val (.int sel), .val (.long o1), .second, .val (.long o2), .second, .val (.int s1), .val (.int s2), .val (.int t7), .val (.int t8), .val (.ref p9), .val (.ref p10), .val (.int z11), .val (.long off), .second, .val (.int z14), .val (.int k15), .val (.ref b15), .val (.ref b17), .val (.ref b17), .unset] [])) _
      refine XS.iload X18.here hx rfl (hb hby at_167) rfl ?_
      show Steps p.tables e below (T18.setTop (mkF m 169 #[.val (.int sel), .val (.long o1), .second, .val (.long o2), .second, .val (.int s1), .val (.int s2), .val (.int t7), .val (.int t8), .val (.ref p9), .val (.ref p10), .val (.int z11), .val (.long off), .second, .val (.int z14), .val (.int k15), .val (.ref b15), .val (.ref b17), .val (.ref b17), .unset] [(.int z11)])) _
      refine XS.iload X18.here hx rfl (hb hby at_169) rfl ?_
      show Steps p.tables e below (T18.setTop (mkF m 171 #[.val (.int sel), .val (.long o1), .second, .val (.long o2), .second, .val (.int s1), .val (.int s2), .val (.int t7), .val (.int t8), .val (.ref p9), .val (.ref p10), .val (.int z11), .val (.long off), .second, .val (.int z14), .val (.int k15), .val (.ref b15), .val (.ref b17), .val (.ref b17), .unset] [(.int z14), (.int z11)])) _
      refine XS.icmpNo X18.here hx rfl (hb hby at_171) rfl (teq (h3 : z11 = z14)).2 ?_
      show Steps p.tables e below (T18.setTop (mkF m 174 #[.val (.int sel), .val (.long o1), .second, .val (.long o2), .second, .val (.int s1), .val (.int s2), .val (.int t7), .val (.int t8), .val (.ref p9), .val (.ref p10), .val (.int z11), .val (.long off), .second, .val (.int z14), .val (.int k15), .val (.ref b15), .val (.ref b17), .val (.ref b17), .unset] [])) _
      refine XS.iconst X18.here hx rfl (hb hby at_174) ?_
      show Steps p.tables e below (T18.setTop (mkF m 175 #[.val (.int sel), .val (.long o1), .second, .val (.long o2), .second, .val (.int s1), .val (.int s2), .val (.int t7), .val (.int t8), .val (.ref p9), .val (.ref p10), .val (.int z11), .val (.long off), .second, .val (.int z14), .val (.int k15), .val (.ref b15), .val (.ref b17), .val (.ref b17), .unset] [(.int (1 : Int32))])) _
      refine XS.goto X18.here hx rfl (pc0 := 175) (pc' := 179) rfl (hb hby at_175) (by decide) (by decide) ?_
      show Steps p.tables e below (T18.setTop (mkF m 179 #[.val (.int sel), .val (.long o1), .second, .val (.long o2), .second, .val (.int s1), .val (.int s2), .val (.int t7), .val (.int t8), .val (.ref p9), .val (.ref p10), .val (.int z11), .val (.long off), .second, .val (.int z14), .val (.int k15), .val (.ref b15), .val (.ref b17), .val (.ref b17), .unset] [(.int (1 : Int32))])) _
      refine XS.istore X18.here hx rfl (hb hby at_179) rfl (l' := #[.val (.int sel), .val (.long o1), .second, .val (.long o2), .second, .val (.int s1), .val (.int s2), .val (.int t7), .val (.int t8), .val (.ref p9), .val (.ref p10), .val (.int z11), .val (.long off), .second, .val (.int z14), .val (.int k15), .val (.ref b15), .val (.ref b17), .val (.ref b17), .val (.int (1 : Int32))]) rfl ?_
      show Steps p.tables e below (T18.setTop (mkF m 181 #[.val (.int sel), .val (.long o1), .second, .val (.long o2), .second, .val (.int s1), .val (.int s2), .val (.int t7), .val (.int t8), .val (.ref p9), .val (.ref p10), .val (.int z11), .val (.long off), .second, .val (.int z14), .val (.int k15), .val (.ref b15), .val (.ref b17), .val (.ref b17), .val (.int (1 : Int32))] [])) _
      refine XS.goto X18.here hx rfl (pc0 := 181) (pc' := 222) rfl (hb hby at_181) (by decide) (by decide) ?_
      show Steps p.tables e below (T18.setTop (mkF m 222 #[.val (.int sel), .val (.long o1), .second, .val (.long o2), .second, .val (.int s1), .val (.int s2), .val (.int t7), .val (.int t8), .val (.ref p9), .val (.ref p10), .val (.int z11), .val (.long off), .second, .val (.int z14), .val (.int k15), .val (.ref b15), .val (.ref b17), .val (.ref b17), .val (.int (1 : Int32))] [])) _
      refine XS.aload X18.here hx rfl (hb hby at_222) rfl rfl ?_
      show Steps p.tables e below (T18.setTop (mkF m 224 #[.val (.int sel), .val (.long o1), .second, .val (.long o2), .second, .val (.int s1), .val (.int s2), .val (.int t7), .val (.int t8), .val (.ref p9), .val (.ref p10), .val (.int z11), .val (.long off), .second, .val (.int z14), .val (.int k15), .val (.ref b15), .val (.ref b17), .val (.ref b17), .val (.int (1 : Int32))] [(.ref b15)])) _
      refine XS.aload X18.here hx rfl (hb hby at_224) rfl rfl ?_
      show Steps p.tables e below (T18.setTop (mkF m 226 #[.val (.int sel), .val (.long o1), .second, .val (.long o2), .second, .val (.int s1), .val (.int s2), .val (.int t7), .val (.int t8), .val (.ref p9), .val (.ref p10), .val (.int z11), .val (.long off), .second, .val (.int z14), .val (.int k15), .val (.ref b15), .val (.ref b17), .val (.ref b17), .val (.int (1 : Int32))] [(.ref b17), (.ref b15)])) _
      refine st19.trans ?_
      show Steps p.tables e below (T19.setTop (mkF m 229 #[.val (.int sel), .val (.long o1), .second, .val (.long o2), .second, .val (.int s1), .val (.int s2), .val (.int t7), .val (.int t8), .val (.ref p9), .val (.ref p10), .val (.int z11), .val (.long off), .second, .val (.int z14), .val (.int k15), .val (.ref b15), .val (.ref b17), .val (.ref b17), .val (.int (1 : Int32))] [(.int (own_eq p9 p10 o1 off z11 z14))])) _
      refine XS.iload X19.here hx rfl (hb hby at_229) rfl ?_
      show Steps p.tables e below (T19.setTop (mkF m 231 #[.val (.int sel), .val (.long o1), .second, .val (.long o2), .second, .val (.int s1), .val (.int s2), .val (.int t7), .val (.int t8), .val (.ref p9), .val (.ref p10), .val (.int z11), .val (.long off), .second, .val (.int z14), .val (.int k15), .val (.ref b15), .val (.ref b17), .val (.ref b17), .val (.int (1 : Int32))] [(.int (1 : Int32)), (.int (own_eq p9 p10 o1 off z11 z14))])) _
      refine XS.icmpNo X19.here hx rfl (hb hby at_231) rfl (teq (own_eq1 (hpq.mpr h1) h2.symm h3.symm : (own_eq p9 p10 o1 off z11 z14) = (1 : Int32))).2 ?_
      show Steps p.tables e below (T19.setTop (mkF m 234 #[.val (.int sel), .val (.long o1), .second, .val (.long o2), .second, .val (.int s1), .val (.int s2), .val (.int t7), .val (.int t8), .val (.ref p9), .val (.ref p10), .val (.int z11), .val (.long off), .second, .val (.int z14), .val (.int k15), .val (.ref b15), .val (.ref b17), .val (.ref b17), .val (.int (1 : Int32))] [])) _
      refine XS.iconst X19.here hx rfl (hb hby at_234) ?_
      show Steps p.tables e below (T19.setTop (mkF m 235 #[.val (.int sel), .val (.long o1), .second, .val (.long o2), .second, .val (.int s1), .val (.int s2), .val (.int t7), .val (.int t8), .val (.ref p9), .val (.ref p10), .val (.int z11), .val (.long off), .second, .val (.int z14), .val (.int k15), .val (.ref b15), .val (.ref b17), .val (.ref b17), .val (.int (1 : Int32))] [(.int (1 : Int32))])) _
      refine XS.goto X19.here hx rfl (pc0 := 235) (pc' := 239) rfl (hb hby at_235) (by decide) (by decide) ?_
      show Steps p.tables e below (T19.setTop (mkF m 239 #[.val (.int sel), .val (.long o1), .second, .val (.long o2), .second, .val (.int s1), .val (.int s2), .val (.int t7), .val (.int t8), .val (.ref p9), .val (.ref p10), .val (.int z11), .val (.long off), .second, .val (.int z14), .val (.int k15), .val (.ref b15), .val (.ref b17), .val (.ref b17), .val (.int (1 : Int32))] [(.int (1 : Int32))])) _
      exact retN X19 hx (t := .boolean) Bd.returns (by simp) (hb hby at_239) hr
    · show own_QL n0 _ T19.heap _
      exact ⟨rfl, N19⟩
  · obtain ⟨cq20, kq20, q20a, q20b, q20c⟩ := isOf hZ (rfl : T18.heap = _) E18_b15
    obtain ⟨_, _, ⟨T20, L20, kc20, nc20⟩, -, X20, ⟨Lc20, hQ20, ql20, qy20, qz20⟩, st20⟩ := X18.virtualBack hx (y := (⟨"com/example/tablewright/tablewright/model/Varnode", "equals", "(Ljava/lang/Object;)Z"⟩ : MethodName)) (z := (⟨"com/example/tablewright/tablewright/model/Varnode", "equals", "(Ljava/lang/Object;)Z"⟩ : MethodName)) hown (mvT hZ (hw _ (List.mem_of_getElem? (i := 23) rfl))) (mvT hZ (hw _ (List.mem_of_getElem? (i := 24) rfl))) (notFace_of_selects (args := #[]) (mvT hZ (hw _ (List.mem_of_getElem? (i := 26) rfl)))) (mvT hZ (hw _ (List.mem_of_getElem? (i := 26) rfl))) (mvT hZ (hw _ (List.mem_of_getElem? (i := 25) rfl))) (by decide) (backOf (W := 0) (own_rme l Z a0 hw [] b15 b17 p9 p10 o1 off z11 z14 T18.heap n0 Zn18 Ec18 F18_b15_space F18_b15_offset F18_b15_size Fc18_space Fc18_offset Fc18_size) hZ (hw _ (List.mem_of_getElem? (i := 27) rfl)) (hw _ (List.mem_of_getElem? (i := 10) rfl)) (by decide) (by decide)) q20a q20c (g := (mkF m 226 #[.val (.int sel), .val (.long o1), .second, .val (.long o2), .second, .val (.int s1), .val (.int s2), .val (.int t7), .val (.int t8), .val (.ref p9), .val (.ref p10), .val (.int z11), .val (.long off), .second, .val (.int z14), .val (.int k15), .val (.ref b15), .val (.ref b17), .val (.ref b17), .val (.int (0 : Int32))] [(.ref b17), (.ref b15)])) rfl (by rw [hml]; rfl) (Steps.refl _) (argsL := [(.ref b17)]) (rest := []) (lenOf own_pd2 rfl) rfl (by show 2 * 0 + _ ≤ _; exact Nat.le_of_eq rfl) (hb hby at_226) (fun _ _ => ⟨rfl, (rfl : T18.heap = _), (by decide : 2 + 0 ≤ _), (by decide : 6 + 0 ≤ _)⟩)
    dsimp only [Pt.U, Pt.locs, Pt.cells, Pt.slots] at X20 ql20 qy20 qz20 st20 hQ20
    subst ql20 qy20 qz20
    obtain ⟨rfl, Nq20, eq20⟩ := hQ20
    have N20 := Fr.app N18 Nq20
    obtain ⟨fs, hr, hrun, hended, hW, hsame⟩ := X20.leave (v := some (.int (1 : Int32))) (fun h => by rw [Bd.returns] at h; cases h)
    refine ⟨_, _, pre0 _ ?_, hrun, hended, _, _, rfl, ?_, ⟨_, rfl⟩, hW, hsame.mono (by decide) (by decide)⟩
    · show Steps p.tables e below (s₁.setTop (mkF m 0 #[.val (.int sel), .val (.long o1), .second, .val (.long o2), .second, .val (.int s1), .val (.int s2), .unset, .unset, .unset, .unset, .unset, .unset, .unset, .unset, .unset, .unset, .unset, .unset, .unset] [])) _
      refine st1 _ ?_
      show Steps p.tables e below (T1.setTop (mkF m 13 #[.val (.int sel), .val (.long o1), .second, .val (.long o2), .second, .val (.int s1), .val (.int s2), .val (.int t7), .unset, .unset, .unset, .unset, .unset, .unset, .unset, .unset, .unset, .unset, .unset, .unset] [])) _
      refine st2 _ ?_
      show Steps p.tables e below (T2.setTop (mkF m 26 #[.val (.int sel), .val (.long o1), .second, .val (.long o2), .second, .val (.int s1), .val (.int s2), .val (.int t7), .val (.int t8), .unset, .unset, .unset, .unset, .unset, .unset, .unset, .unset, .unset, .unset, .unset] [])) _
      refine st3 _ ?_
      show Steps p.tables e below (T3.setTop (mkF m 42 #[.val (.int sel), .val (.long o1), .second, .val (.long o2), .second, .val (.int s1), .val (.int s2), .val (.int t7), .val (.int t8), .val (.ref p9), .unset, .unset, .unset, .unset, .unset, .unset, .unset, .unset, .unset, .unset] [])) _
      refine st6 _ ?_
      show Steps p.tables e below (T6.setTop (mkF m 58 #[.val (.int sel), .val (.long o1), .second, .val (.long o2), .second, .val (.int s1), .val (.int s2), .val (.int t7), .val (.int t8), .val (.ref p9), .val (.ref p10), .unset, .unset, .unset, .unset, .unset, .unset, .unset, .unset, .unset] [])) _
      refine st9 _ ?_
      show Steps p.tables e below (T9.setTop (mkF m 69 #[.val (.int sel), .val (.long o1), .second, .val (.long o2), .second, .val (.int s1), .val (.int s2), .val (.int t7), .val (.int t8), .val (.ref p9), .val (.ref p10), .val (.int z11), .unset, .unset, .unset, .unset, .unset, .unset, .unset, .unset] [])) _
      refine st11 _ ?_
      show Steps p.tables e below (T11.setTop (mkF m 84 #[.val (.int sel), .val (.long o1), .second, .val (.long o2), .second, .val (.int s1), .val (.int s2), .val (.int t7), .val (.int t8), .val (.ref p9), .val (.ref p10), .val (.int z11), .val (.long off), .second, .unset, .unset, .unset, .unset, .unset, .unset] [])) _
      refine st12 _ ?_
      show Steps p.tables e below (T12.setTop (mkF m 108 #[.val (.int sel), .val (.long o1), .second, .val (.long o2), .second, .val (.int s1), .val (.int s2), .val (.int t7), .val (.int t8), .val (.ref p9), .val (.ref p10), .val (.int z11), .val (.long off), .second, .val (.int z14), .unset, .unset, .unset, .unset, .unset] [])) _
      refine st14 _ ?_
      show Steps p.tables e below (T14.setTop (mkF m 115 #[.val (.int sel), .val (.long o1), .second, .val (.long o2), .second, .val (.int s1), .val (.int s2), .val (.int t7), .val (.int t8), .val (.ref p9), .val (.ref p10), .val (.int z11), .val (.long off), .second, .val (.int z14), .val (.int k15), .unset, .unset, .unset, .unset] [])) _
      refine st15 _ ?_
      show Steps p.tables e below (T15.setTop (mkF m 118 #[.val (.int sel), .val (.long o1), .second, .val (.long o2), .second, .val (.int s1), .val (.int s2), .val (.int t7), .val (.int t8), .val (.ref p9), .val (.ref p10), .val (.int z11), .val (.long off), .second, .val (.int z14), .val (.int k15), .unset, .unset, .unset, .unset] [(.ref b15)])) _
      refine XS.dup X15.here hx rfl (hb hby at_118) rfl rfl ?_
      show Steps p.tables e below (T15.setTop (mkF m 119 #[.val (.int sel), .val (.long o1), .second, .val (.long o2), .second, .val (.int s1), .val (.int s2), .val (.int t7), .val (.int t8), .val (.ref p9), .val (.ref p10), .val (.int z11), .val (.long off), .second, .val (.int z14), .val (.int k15), .unset, .unset, .unset, .unset] [(.ref b15), (.ref b15)])) _
      refine XS.aload X15.here hx rfl (hb hby at_119) rfl rfl ?_
      show Steps p.tables e below (T15.setTop (mkF m 121 #[.val (.int sel), .val (.long o1), .second, .val (.long o2), .second, .val (.int s1), .val (.int s2), .val (.int t7), .val (.int t8), .val (.ref p9), .val (.ref p10), .val (.int z11), .val (.long off), .second, .val (.int z14), .val (.int k15), .unset, .unset, .unset, .unset] [(.ref p9), (.ref b15), (.ref b15)])) _
      refine XS.lloadN X15.here hx rfl (hb hby at_121) rfl ?_
      show Steps p.tables e below (T15.setTop (mkF m 122 #[.val (.int sel), .val (.long o1), .second, .val (.long o2), .second, .val (.int s1), .val (.int s2), .val (.int t7), .val (.int t8), .val (.ref p9), .val (.ref p10), .val (.int z11), .val (.long off), .second, .val (.int z14), .val (.int k15), .unset, .unset, .unset, .unset] [(.long o1), (.ref p9), (.ref b15), (.ref b15)])) _
      refine XS.iload X15.here hx rfl (hb hby at_122) rfl ?_
      show Steps p.tables e below (T15.setTop (mkF m 124 #[.val (.int sel), .val (.long o1), .second, .val (.long o2), .second, .val (.int s1), .val (.int s2), .val (.int t7), .val (.int t8), .val (.ref p9), .val (.ref p10), .val (.int z11), .val (.long off), .second, .val (.int z14), .val (.int k15), .unset, .unset, .unset, .unset] [(.int z11), (.long o1), (.ref p9), (.ref b15), (.ref b15)])) _
      refine st16.trans ?_
      show Steps p.tables e below (T16.setTop (mkF m 127 #[.val (.int sel), .val (.long o1), .second, .val (.long o2), .second, .val (.int s1), .val (.int s2), .val (.int t7), .val (.int t8), .val (.ref p9), .val (.ref p10), .val (.int z11), .val (.long off), .second, .val (.int z14), .val (.int k15), .unset, .unset, .unset, .unset] [(.ref b15)])) _
      refine XS.astore X16.here hx rfl (hb hby at_127) rfl rfl (l' := #[.val (.int sel), .val (.long o1), .second, .val (.long o2), .second, .val (.int s1), .val (.int s2), .val (.int t7), .val (.int t8), .val (.ref p9), .val (.ref p10), .val (.int z11), .val (.long off), .second, .val (.int z14), .val (.int k15), .val (.ref b15), .unset, .unset, .unset]) rfl ?_
      show Steps p.tables e below (T16.setTop (mkF m 129 #[.val (.int sel), .val (.long o1), .second, .val (.long o2), .second, .val (.int s1), .val (.int s2), .val (.int t7), .val (.int t8), .val (.ref p9), .val (.ref p10), .val (.int z11), .val (.long off), .second, .val (.int z14), .val (.int k15), .val (.ref b15), .unset, .unset, .unset] [])) _
      refine st17 _ ?_
      show Steps p.tables e below (T17.setTop (mkF m 132 #[.val (.int sel), .val (.long o1), .second, .val (.long o2), .second, .val (.int s1), .val (.int s2), .val (.int t7), .val (.int t8), .val (.ref p9), .val (.ref p10), .val (.int z11), .val (.long off), .second, .val (.int z14), .val (.int k15), .val (.ref b15), .unset, .unset, .unset] [(.ref b17)])) _
      refine XS.dup X17.here hx rfl (hb hby at_132) rfl rfl ?_
      show Steps p.tables e below (T17.setTop (mkF m 133 #[.val (.int sel), .val (.long o1), .second, .val (.long o2), .second, .val (.int s1), .val (.int s2), .val (.int t7), .val (.int t8), .val (.ref p9), .val (.ref p10), .val (.int z11), .val (.long off), .second, .val (.int z14), .val (.int k15), .val (.ref b15), .unset, .unset, .unset] [(.ref b17), (.ref b17)])) _
      refine XS.aload X17.here hx rfl (hb hby at_133) rfl rfl ?_
      show Steps p.tables e below (T17.setTop (mkF m 135 #[.val (.int sel), .val (.long o1), .second, .val (.long o2), .second, .val (.int s1), .val (.int s2), .val (.int t7), .val (.int t8), .val (.ref p9), .val (.ref p10), .val (.int z11), .val (.long off), .second, .val (.int z14), .val (.int k15), .val (.ref b15), .unset, .unset, .unset] [(.ref p10), (.ref b17), (.ref b17)])) _
      refine XS.lload X17.here hx rfl (hb hby at_135) rfl ?_
      show Steps p.tables e below (T17.setTop (mkF m 137 #[.val (.int sel), .val (.long o1), .second, .val (.long o2), .second, .val (.int s1), .val (.int s2), .val (.int t7), .val (.int t8), .val (.ref p9), .val (.ref p10), .val (.int z11), .val (.long off), .second, .val (.int z14), .val (.int k15), .val (.ref b15), .unset, .unset, .unset] [(.long off), (.ref p10), (.ref b17), (.ref b17)])) _
      refine XS.iload X17.here hx rfl (hb hby at_137) rfl ?_
      show Steps p.tables e below (T17.setTop (mkF m 139 #[.val (.int sel), .val (.long o1), .second, .val (.long o2), .second, .val (.int s1), .val (.int s2), .val (.int t7), .val (.int t8), .val (.ref p9), .val (.ref p10), .val (.int z11), .val (.long off), .second, .val (.int z14), .val (.int k15), .val (.ref b15), .unset, .unset, .unset] [(.int z14), (.long off), (.ref p10), (.ref b17), (.ref b17)])) _
      refine st18.trans ?_
      show Steps p.tables e below (T18.setTop (mkF m 142 #[.val (.int sel), .val (.long o1), .second, .val (.long o2), .second, .val (.int s1), .val (.int s2), .val (.int t7), .val (.int t8), .val (.ref p9), .val (.ref p10), .val (.int z11), .val (.long off), .second, .val (.int z14), .val (.int k15), .val (.ref b15), .unset, .unset, .unset] [(.ref b17)])) _
      refine XS.astore X18.here hx rfl (hb hby at_142) rfl rfl (l' := #[.val (.int sel), .val (.long o1), .second, .val (.long o2), .second, .val (.int s1), .val (.int s2), .val (.int t7), .val (.int t8), .val (.ref p9), .val (.ref p10), .val (.int z11), .val (.long off), .second, .val (.int z14), .val (.int k15), .val (.ref b15), .val (.ref b17), .unset, .unset]) rfl ?_
      show Steps p.tables e below (T18.setTop (mkF m 144 #[.val (.int sel), .val (.long o1), .second, .val (.long o2), .second, .val (.int s1), .val (.int s2), .val (.int t7), .val (.int t8), .val (.ref p9), .val (.ref p10), .val (.int z11), .val (.long off), .second, .val (.int z14), .val (.int k15), .val (.ref b15), .val (.ref b17), .unset, .unset] [])) _
      refine XS.iload X18.here hx rfl (hb hby at_144) rfl ?_
      show Steps p.tables e below (T18.setTop (mkF m 146 #[.val (.int sel), .val (.long o1), .second, .val (.long o2), .second, .val (.int s1), .val (.int s2), .val (.int t7), .val (.int t8), .val (.ref p9), .val (.ref p10), .val (.int z11), .val (.long off), .second, .val (.int z14), .val (.int k15), .val (.ref b15), .val (.ref b17), .unset, .unset] [(.int k15)])) _
      refine XS.ifNo X18.here hx rfl (hb hby at_146) rfl ((if0 _ _).trans (teq (hk : k15 = (0 : Int32))).2) ?_
      show Steps p.tables e below (T18.setTop (mkF m 149 #[.val (.int sel), .val (.long o1), .second, .val (.long o2), .second, .val (.int s1), .val (.int s2), .val (.int t7), .val (.int t8), .val (.ref p9), .val (.ref p10), .val (.int z11), .val (.long off), .second, .val (.int z14), .val (.int k15), .val (.ref b15), .val (.ref b17), .unset, .unset] [])) _
      refine XS.aload X18.here hx rfl (hb hby at_149) rfl rfl ?_
      show Steps p.tables e below (T18.setTop (mkF m 151 #[.val (.int sel), .val (.long o1), .second, .val (.long o2), .second, .val (.int s1), .val (.int s2), .val (.int t7), .val (.int t8), .val (.ref p9), .val (.ref p10), .val (.int z11), .val (.long off), .second, .val (.int z14), .val (.int k15), .val (.ref b15), .val (.ref b17), .unset, .unset] [(.ref b17)])) _
      refine XS.astore X18.here hx rfl (hb hby at_151) rfl rfl (l' := #[.val (.int sel), .val (.long o1), .second, .val (.long o2), .second, .val (.int s1), .val (.int s2), .val (.int t7), .val (.int t8), .val (.ref p9), .val (.ref p10), .val (.int z11), .val (.long off), .second, .val (.int z14), .val (.int k15), .val (.ref b15), .val (.ref b17), .val (.ref b17), .unset]) rfl ?_
      show Steps p.tables e below (T18.setTop (mkF m 153 #[.val (.int sel), .val (.long o1), .second, .val (.long o2), .second, .val (.int s1), .val (.int s2), .val (.int t7), .val (.int t8), .val (.ref p9), .val (.ref p10), .val (.int z11), .val (.long off), .second, .val (.int z14), .val (.int k15), .val (.ref b15), .val (.ref b17), .val (.ref b17), .unset] [])) _
      refine XS.iload X18.here hx rfl (hb hby at_153) rfl ?_
      show Steps p.tables e below (T18.setTop (mkF m 155 #[.val (.int sel), .val (.long o1), .second, .val (.long o2), .second, .val (.int s1), .val (.int s2), .val (.int t7), .val (.int t8), .val (.ref p9), .val (.ref p10), .val (.int z11), .val (.long off), .second, .val (.int z14), .val (.int k15), .val (.ref b15), .val (.ref b17), .val (.ref b17), .unset] [(.int t7)])) _
      refine XS.iload X18.here hx rfl (hb hby at_155) rfl ?_
      show Steps p.tables e below (T18.setTop (mkF m 157 #[.val (.int sel), .val (.long o1), .second, .val (.long o2), .second, .val (.int s1), .val (.int s2), .val (.int t7), .val (.int t8), .val (.ref p9), .val (.ref p10), .val (.int z11), .val (.long off), .second, .val (.int z14), .val (.int k15), .val (.ref b15), .val (.ref b17), .val (.ref b17), .unset] [(.int t8), (.int t7)])) _
      refine XS.icmpNo X18.here hx rfl (hb hby at_157) rfl (teq (h1 : t7 = t8)).2 ?_
      show Steps p.tables e below (T18.setTop (mkF m 160 #[.val (.int sel), .val (.long o1), .second, .val (.long o2), .second, .val (.int s1), .val (.int s2), .val (.int t7), .val (.int t8), .val (.ref p9), .val (.ref p10), .val (.int z11), .val (.long off), .second, .val (.int z14), .val (.int k15), .val (.ref b15), .val (.ref b17), .val (.ref b17), .unset] [])) _
      refine XS.lloadN X18.here hx rfl (hb hby at_160) rfl ?_
      show Steps p.tables e below (T18.setTop (mkF m 161 #[.val (.int sel), .val (.long o1), .second, .val (.long o2), .second, .val (.int s1), .val (.int s2), .val (.int t7), .val (.int t8), .val (.ref p9), .val (.ref p10), .val (.int z11), .val (.long off), .second, .val (.int z14), .val (.int k15), .val (.ref b15), .val (.ref b17), .val (.ref b17), .unset] [(.long o1)])) _
      refine XS.lload X18.here hx rfl (hb hby at_161) rfl ?_
      show Steps p.tables e below (T18.setTop (mkF m 163 #[.val (.int sel), .val (.long o1), .second, .val (.long o2), .second, .val (.int s1), .val (.int s2), .val (.int t7), .val (.int t8), .val (.ref p9), .val (.ref p10), .val (.int z11), .val (.long off), .second, .val (.int z14), .val (.int k15), .val (.ref b15), .val (.ref b17), .val (.ref b17), .unset] [(.long off), (.long o1)])) _
      refine XS.lcmp X18.here hx rfl (hb hby at_163) rfl ?_
      show Steps p.tables e below (T18.setTop (mkF m 164 #[.val (.int sel), .val (.long o1), .second, .val (.long o2), .second, .val (.int s1), .val (.int s2), .val (.int t7), .val (.int t8), .val (.ref p9), .val (.ref p10), .val (.int z11), .val (.long off), .second, .val (.int z14), .val (.int k15), .val (.ref b15), .val (.ref b17), .val (.ref b17), .unset] [(.int (lcmpW o1 off))])) _
      refine XS.ifNo X18.here hx rfl (hb hby at_164) rfl ((if0 _ _).trans (teq ((lw_eq _ _).mpr h2 : (lcmpW o1 off) = (0 : Int32))).2) ?_
      show Steps p.tables e below (T18.setTop (mkF m 167 #[.val (.int sel), .val (.long o1), .second, .val (.long o2), .second, .val (.int s1), .val (.int s2), .val (.int t7), .val (.int t8), .val (.ref p9), .val (.ref p10), .val (.int z11), .val (.long off), .second, .val (.int z14), .val (.int k15), .val (.ref b15), .val (.ref b17), .val (.ref b17), .unset] [])) _
      refine XS.iload X18.here hx rfl (hb hby at_167) rfl ?_
      show Steps p.tables e below (T18.setTop (mkF m 169 #[.val (.int sel), .val (.long o1), .second, .val (.long o2), .second, .val (.int s1), .val (.int s2), .val (.int t7), .val (.int t8), .val (.ref p9), .val (.ref p10), .val (.int z11), .val (.long off), .second, .val (.int z14), .val (.int k15), .val (.ref b15), .val (.ref b17), .val (.ref b17), .unset] [(.int z11)])) _
      refine XS.iload X18.here hx rfl (hb hby at_169) rfl ?_
      show Steps p.tables e below (T18.setTop (mkF m 171 #[.val (.int sel), .val (.long o1), .second, .val (.long o2), .second, .val (.int s1), .val (.int s2), .val (.int t7), .val (.int t8), .val (.ref p9), .val (.ref p10), .val (.int z11), .val (.long off), .second, .val (.int z14), .val (.int k15), .val (.ref b15), .val (.ref b17), .val (.ref b17), .unset] [(.int z14), (.int z11)])) _
      refine XS.icmpYes X18.here hx rfl (pc0 := 171) (pc' := 178) rfl (hb hby at_171) rfl (feq (h3 : ¬ (z11 = z14))).2 (by decide) (by decide) ?_
      show Steps p.tables e below (T18.setTop (mkF m 178 #[.val (.int sel), .val (.long o1), .second, .val (.long o2), .second, .val (.int s1), .val (.int s2), .val (.int t7), .val (.int t8), .val (.ref p9), .val (.ref p10), .val (.int z11), .val (.long off), .second, .val (.int z14), .val (.int k15), .val (.ref b15), .val (.ref b17), .val (.ref b17), .unset] [])) _
      refine XS.iconst X18.here hx rfl (hb hby at_178) ?_
      show Steps p.tables e below (T18.setTop (mkF m 179 #[.val (.int sel), .val (.long o1), .second, .val (.long o2), .second, .val (.int s1), .val (.int s2), .val (.int t7), .val (.int t8), .val (.ref p9), .val (.ref p10), .val (.int z11), .val (.long off), .second, .val (.int z14), .val (.int k15), .val (.ref b15), .val (.ref b17), .val (.ref b17), .unset] [(.int (0 : Int32))])) _
      refine XS.istore X18.here hx rfl (hb hby at_179) rfl (l' := #[.val (.int sel), .val (.long o1), .second, .val (.long o2), .second, .val (.int s1), .val (.int s2), .val (.int t7), .val (.int t8), .val (.ref p9), .val (.ref p10), .val (.int z11), .val (.long off), .second, .val (.int z14), .val (.int k15), .val (.ref b15), .val (.ref b17), .val (.ref b17), .val (.int (0 : Int32))]) rfl ?_
      show Steps p.tables e below (T18.setTop (mkF m 181 #[.val (.int sel), .val (.long o1), .second, .val (.long o2), .second, .val (.int s1), .val (.int s2), .val (.int t7), .val (.int t8), .val (.ref p9), .val (.ref p10), .val (.int z11), .val (.long off), .second, .val (.int z14), .val (.int k15), .val (.ref b15), .val (.ref b17), .val (.ref b17), .val (.int (0 : Int32))] [])) _
      refine XS.goto X18.here hx rfl (pc0 := 181) (pc' := 222) rfl (hb hby at_181) (by decide) (by decide) ?_
      show Steps p.tables e below (T18.setTop (mkF m 222 #[.val (.int sel), .val (.long o1), .second, .val (.long o2), .second, .val (.int s1), .val (.int s2), .val (.int t7), .val (.int t8), .val (.ref p9), .val (.ref p10), .val (.int z11), .val (.long off), .second, .val (.int z14), .val (.int k15), .val (.ref b15), .val (.ref b17), .val (.ref b17), .val (.int (0 : Int32))] [])) _
      refine XS.aload X18.here hx rfl (hb hby at_222) rfl rfl ?_
      show Steps p.tables e below (T18.setTop (mkF m 224 #[.val (.int sel), .val (.long o1), .second, .val (.long o2), .second, .val (.int s1), .val (.int s2), .val (.int t7), .val (.int t8), .val (.ref p9), .val (.ref p10), .val (.int z11), .val (.long off), .second, .val (.int z14), .val (.int k15), .val (.ref b15), .val (.ref b17), .val (.ref b17), .val (.int (0 : Int32))] [(.ref b15)])) _
      refine XS.aload X18.here hx rfl (hb hby at_224) rfl rfl ?_
      show Steps p.tables e below (T18.setTop (mkF m 226 #[.val (.int sel), .val (.long o1), .second, .val (.long o2), .second, .val (.int s1), .val (.int s2), .val (.int t7), .val (.int t8), .val (.ref p9), .val (.ref p10), .val (.int z11), .val (.long off), .second, .val (.int z14), .val (.int k15), .val (.ref b15), .val (.ref b17), .val (.ref b17), .val (.int (0 : Int32))] [(.ref b17), (.ref b15)])) _
      refine st20.trans ?_
      show Steps p.tables e below (T20.setTop (mkF m 229 #[.val (.int sel), .val (.long o1), .second, .val (.long o2), .second, .val (.int s1), .val (.int s2), .val (.int t7), .val (.int t8), .val (.ref p9), .val (.ref p10), .val (.int z11), .val (.long off), .second, .val (.int z14), .val (.int k15), .val (.ref b15), .val (.ref b17), .val (.ref b17), .val (.int (0 : Int32))] [(.int (own_eq p9 p10 o1 off z11 z14))])) _
      refine XS.iload X20.here hx rfl (hb hby at_229) rfl ?_
      show Steps p.tables e below (T20.setTop (mkF m 231 #[.val (.int sel), .val (.long o1), .second, .val (.long o2), .second, .val (.int s1), .val (.int s2), .val (.int t7), .val (.int t8), .val (.ref p9), .val (.ref p10), .val (.int z11), .val (.long off), .second, .val (.int z14), .val (.int k15), .val (.ref b15), .val (.ref b17), .val (.ref b17), .val (.int (0 : Int32))] [(.int (0 : Int32)), (.int (own_eq p9 p10 o1 off z11 z14))])) _
      refine XS.icmpNo X20.here hx rfl (hb hby at_231) rfl (teq (own_eq0 (fun q => h3 q.2.2.symm) : (own_eq p9 p10 o1 off z11 z14) = (0 : Int32))).2 ?_
      show Steps p.tables e below (T20.setTop (mkF m 234 #[.val (.int sel), .val (.long o1), .second, .val (.long o2), .second, .val (.int s1), .val (.int s2), .val (.int t7), .val (.int t8), .val (.ref p9), .val (.ref p10), .val (.int z11), .val (.long off), .second, .val (.int z14), .val (.int k15), .val (.ref b15), .val (.ref b17), .val (.ref b17), .val (.int (0 : Int32))] [])) _
      refine XS.iconst X20.here hx rfl (hb hby at_234) ?_
      show Steps p.tables e below (T20.setTop (mkF m 235 #[.val (.int sel), .val (.long o1), .second, .val (.long o2), .second, .val (.int s1), .val (.int s2), .val (.int t7), .val (.int t8), .val (.ref p9), .val (.ref p10), .val (.int z11), .val (.long off), .second, .val (.int z14), .val (.int k15), .val (.ref b15), .val (.ref b17), .val (.ref b17), .val (.int (0 : Int32))] [(.int (1 : Int32))])) _
      refine XS.goto X20.here hx rfl (pc0 := 235) (pc' := 239) rfl (hb hby at_235) (by decide) (by decide) ?_
      show Steps p.tables e below (T20.setTop (mkF m 239 #[.val (.int sel), .val (.long o1), .second, .val (.long o2), .second, .val (.int s1), .val (.int s2), .val (.int t7), .val (.int t8), .val (.ref p9), .val (.ref p10), .val (.int z11), .val (.long off), .second, .val (.int z14), .val (.int k15), .val (.ref b15), .val (.ref b17), .val (.ref b17), .val (.int (0 : Int32))] [(.int (1 : Int32))])) _
      exact retN X20 hx (t := .boolean) Bd.returns (by simp) (hb hby at_239) hr
    · show own_QL n0 _ T20.heap _
      exact ⟨rfl, N20⟩
  · obtain ⟨cq21, kq21, q21a, q21b, q21c⟩ := isOf hZ (rfl : T18.heap = _) E18_b15
    obtain ⟨_, _, ⟨T21, L21, kc21, nc21⟩, -, X21, ⟨Lc21, hQ21, ql21, qy21, qz21⟩, st21⟩ := X18.virtualBack hx (y := (⟨"com/example/tablewright/tablewright/model/Varnode", "equals", "(Ljava/lang/Object;)Z"⟩ : MethodName)) (z := (⟨"com/example/tablewright/tablewright/model/Varnode", "equals", "(Ljava/lang/Object;)Z"⟩ : MethodName)) hown (mvT hZ (hw _ (List.mem_of_getElem? (i := 23) rfl))) (mvT hZ (hw _ (List.mem_of_getElem? (i := 24) rfl))) (notFace_of_selects (args := #[]) (mvT hZ (hw _ (List.mem_of_getElem? (i := 26) rfl)))) (mvT hZ (hw _ (List.mem_of_getElem? (i := 26) rfl))) (mvT hZ (hw _ (List.mem_of_getElem? (i := 25) rfl))) (by decide) (backOf (W := 0) (own_rme l Z a0 hw [] b15 b17 p9 p10 o1 off z11 z14 T18.heap n0 Zn18 Ec18 F18_b15_space F18_b15_offset F18_b15_size Fc18_space Fc18_offset Fc18_size) hZ (hw _ (List.mem_of_getElem? (i := 27) rfl)) (hw _ (List.mem_of_getElem? (i := 10) rfl)) (by decide) (by decide)) q21a q21c (g := (mkF m 226 #[.val (.int sel), .val (.long o1), .second, .val (.long o2), .second, .val (.int s1), .val (.int s2), .val (.int t7), .val (.int t8), .val (.ref p9), .val (.ref p10), .val (.int z11), .val (.long off), .second, .val (.int z14), .val (.int k15), .val (.ref b15), .val (.ref b17), .val (.ref b17), .val (.int (0 : Int32))] [(.ref b17), (.ref b15)])) rfl (by rw [hml]; rfl) (Steps.refl _) (argsL := [(.ref b17)]) (rest := []) (lenOf own_pd2 rfl) rfl (by show 2 * 0 + _ ≤ _; exact Nat.le_of_eq rfl) (hb hby at_226) (fun _ _ => ⟨rfl, (rfl : T18.heap = _), (by decide : 2 + 0 ≤ _), (by decide : 6 + 0 ≤ _)⟩)
    dsimp only [Pt.U, Pt.locs, Pt.cells, Pt.slots] at X21 ql21 qy21 qz21 st21 hQ21
    subst ql21 qy21 qz21
    obtain ⟨rfl, Nq21, eq21⟩ := hQ21
    have N21 := Fr.app N18 Nq21
    obtain ⟨fs, hr, hrun, hended, hW, hsame⟩ := X21.leave (v := some (.int (1 : Int32))) (fun h => by rw [Bd.returns] at h; cases h)
    refine ⟨_, _, pre0 _ ?_, hrun, hended, _, _, rfl, ?_, ⟨_, rfl⟩, hW, hsame.mono (by decide) (by decide)⟩
    · show Steps p.tables e below (s₁.setTop (mkF m 0 #[.val (.int sel), .val (.long o1), .second, .val (.long o2), .second, .val (.int s1), .val (.int s2), .unset, .unset, .unset, .unset, .unset, .unset, .unset, .unset, .unset, .unset, .unset, .unset, .unset] [])) _
      refine st1 _ ?_
      show Steps p.tables e below (T1.setTop (mkF m 13 #[.val (.int sel), .val (.long o1), .second, .val (.long o2), .second, .val (.int s1), .val (.int s2), .val (.int t7), .unset, .unset, .unset, .unset, .unset, .unset, .unset, .unset, .unset, .unset, .unset, .unset] [])) _
      refine st2 _ ?_
      show Steps p.tables e below (T2.setTop (mkF m 26 #[.val (.int sel), .val (.long o1), .second, .val (.long o2), .second, .val (.int s1), .val (.int s2), .val (.int t7), .val (.int t8), .unset, .unset, .unset, .unset, .unset, .unset, .unset, .unset, .unset, .unset, .unset] [])) _
      refine st3 _ ?_
      show Steps p.tables e below (T3.setTop (mkF m 42 #[.val (.int sel), .val (.long o1), .second, .val (.long o2), .second, .val (.int s1), .val (.int s2), .val (.int t7), .val (.int t8), .val (.ref p9), .unset, .unset, .unset, .unset, .unset, .unset, .unset, .unset, .unset, .unset] [])) _
      refine st6 _ ?_
      show Steps p.tables e below (T6.setTop (mkF m 58 #[.val (.int sel), .val (.long o1), .second, .val (.long o2), .second, .val (.int s1), .val (.int s2), .val (.int t7), .val (.int t8), .val (.ref p9), .val (.ref p10), .unset, .unset, .unset, .unset, .unset, .unset, .unset, .unset, .unset] [])) _
      refine st9 _ ?_
      show Steps p.tables e below (T9.setTop (mkF m 69 #[.val (.int sel), .val (.long o1), .second, .val (.long o2), .second, .val (.int s1), .val (.int s2), .val (.int t7), .val (.int t8), .val (.ref p9), .val (.ref p10), .val (.int z11), .unset, .unset, .unset, .unset, .unset, .unset, .unset, .unset] [])) _
      refine st11 _ ?_
      show Steps p.tables e below (T11.setTop (mkF m 84 #[.val (.int sel), .val (.long o1), .second, .val (.long o2), .second, .val (.int s1), .val (.int s2), .val (.int t7), .val (.int t8), .val (.ref p9), .val (.ref p10), .val (.int z11), .val (.long off), .second, .unset, .unset, .unset, .unset, .unset, .unset] [])) _
      refine st12 _ ?_
      show Steps p.tables e below (T12.setTop (mkF m 108 #[.val (.int sel), .val (.long o1), .second, .val (.long o2), .second, .val (.int s1), .val (.int s2), .val (.int t7), .val (.int t8), .val (.ref p9), .val (.ref p10), .val (.int z11), .val (.long off), .second, .val (.int z14), .unset, .unset, .unset, .unset, .unset] [])) _
      refine st14 _ ?_
      show Steps p.tables e below (T14.setTop (mkF m 115 #[.val (.int sel), .val (.long o1), .second, .val (.long o2), .second, .val (.int s1), .val (.int s2), .val (.int t7), .val (.int t8), .val (.ref p9), .val (.ref p10), .val (.int z11), .val (.long off), .second, .val (.int z14), .val (.int k15), .unset, .unset, .unset, .unset] [])) _
      refine st15 _ ?_
      show Steps p.tables e below (T15.setTop (mkF m 118 #[.val (.int sel), .val (.long o1), .second, .val (.long o2), .second, .val (.int s1), .val (.int s2), .val (.int t7), .val (.int t8), .val (.ref p9), .val (.ref p10), .val (.int z11), .val (.long off), .second, .val (.int z14), .val (.int k15), .unset, .unset, .unset, .unset] [(.ref b15)])) _
      refine XS.dup X15.here hx rfl (hb hby at_118) rfl rfl ?_
      show Steps p.tables e below (T15.setTop (mkF m 119 #[.val (.int sel), .val (.long o1), .second, .val (.long o2), .second, .val (.int s1), .val (.int s2), .val (.int t7), .val (.int t8), .val (.ref p9), .val (.ref p10), .val (.int z11), .val (.long off), .second, .val (.int z14), .val (.int k15), .unset, .unset, .unset, .unset] [(.ref b15), (.ref b15)])) _
      refine XS.aload X15.here hx rfl (hb hby at_119) rfl rfl ?_
      show Steps p.tables e below (T15.setTop (mkF m 121 #[.val (.int sel), .val (.long o1), .second, .val (.long o2), .second, .val (.int s1), .val (.int s2), .val (.int t7), .val (.int t8), .val (.ref p9), .val (.ref p10), .val (.int z11), .val (.long off), .second, .val (.int z14), .val (.int k15), .unset, .unset, .unset, .unset] [(.ref p9), (.ref b15), (.ref b15)])) _
      refine XS.lloadN X15.here hx rfl (hb hby at_121) rfl ?_
      show Steps p.tables e below (T15.setTop (mkF m 122 #[.val (.int sel), .val (.long o1), .second, .val (.long o2), .second, .val (.int s1), .val (.int s2), .val (.int t7), .val (.int t8), .val (.ref p9), .val (.ref p10), .val (.int z11), .val (.long off), .second, .val (.int z14), .val (.int k15), .unset, .unset, .unset, .unset] [(.long o1), (.ref p9), (.ref b15), (.ref b15)])) _
      refine XS.iload X15.here hx rfl (hb hby at_122) rfl ?_
      show Steps p.tables e below (T15.setTop (mkF m 124 #[.val (.int sel), .val (.long o1), .second, .val (.long o2), .second, .val (.int s1), .val (.int s2), .val (.int t7), .val (.int t8), .val (.ref p9), .val (.ref p10), .val (.int z11), .val (.long off), .second, .val (.int z14), .val (.int k15), .unset, .unset, .unset, .unset] [(.int z11), (.long o1), (.ref p9), (.ref b15), (.ref b15)])) _
      refine st16.trans ?_
      show Steps p.tables e below (T16.setTop (mkF m 127 #[.val (.int sel), .val (.long o1), .second, .val (.long o2), .second, .val (.int s1), .val (.int s2), .val (.int t7), .val (.int t8), .val (.ref p9), .val (.ref p10), .val (.int z11), .val (.long off), .second, .val (.int z14), .val (.int k15), .unset, .unset, .unset, .unset] [(.ref b15)])) _
      refine XS.astore X16.here hx rfl (hb hby at_127) rfl rfl (l' := #[.val (.int sel), .val (.long o1), .second, .val (.long o2), .second, .val (.int s1), .val (.int s2), .val (.int t7), .val (.int t8), .val (.ref p9), .val (.ref p10), .val (.int z11), .val (.long off), .second, .val (.int z14), .val (.int k15), .val (.ref b15), .unset, .unset, .unset]) rfl ?_
      show Steps p.tables e below (T16.setTop (mkF m 129 #[.val (.int sel), .val (.long o1), .second, .val (.long o2), .second, .val (.int s1), .val (.int s2), .val (.int t7), .val (.int t8), .val (.ref p9), .val (.ref p10), .val (.int z11), .val (.long off), .second, .val (.int z14), .val (.int k15), .val (.ref b15), .unset, .unset, .unset] [])) _
      refine st17 _ ?_
      show Steps p.tables e below (T17.setTop (mkF m 132 #[.val (.int sel), .val (.long o1), .second, .val (.long o2), .second, .val (.int s1), .val (.int s2), .val (.int t7), .val (.int t8), .val (.ref p9), .val (.ref p10), .val (.int z11), .val (.long off), .second, .val (.int z14), .val (.int k15), .val (.ref b15), .unset, .unset, .unset] [(.ref b17)])) _
      refine XS.dup X17.here hx rfl (hb hby at_132) rfl rfl ?_
      show Steps p.tables e below (T17.setTop (mkF m 133 #[.val (.int sel), .val (.long o1), .second, .val (.long o2), .second, .val (.int s1), .val (.int s2), .val (.int t7), .val (.int t8), .val (.ref p9), .val (.ref p10), .val (.int z11), .val (.long off), .second, .val (.int z14), .val (.int k15), .val (.ref b15), .unset, .unset, .unset] [(.ref b17), (.ref b17)])) _
      refine XS.aload X17.here hx rfl (hb hby at_133) rfl rfl ?_
      show Steps p.tables e below (T17.setTop (mkF m 135 #[.val (.int sel), .val (.long o1), .second, .val (.long o2), .second, .val (.int s1), .val (.int s2), .val (.int t7), .val (.int t8), .val (.ref p9), .val (.ref p10), .val (.int z11), .val (.long off), .second, .val (.int z14), .val (.int k15), .val (.ref b15), .unset, .unset, .unset] [(.ref p10), (.ref b17), (.ref b17)])) _
      refine XS.lload X17.here hx rfl (hb hby at_135) rfl ?_
      show Steps p.tables e below (T17.setTop (mkF m 137 #[.val (.int sel), .val (.long o1), .second, .val (.long o2), .second, .val (.int s1), .val (.int s2), .val (.int t7), .val (.int t8), .val (.ref p9), .val (.ref p10), .val (.int z11), .val (.long off), .second, .val (.int z14), .val (.int k15), .val (.ref b15), .unset, .unset, .unset] [(.long off), (.ref p10), (.ref b17), (.ref b17)])) _
      refine XS.iload X17.here hx rfl (hb hby at_137) rfl ?_
      show Steps p.tables e below (T17.setTop (mkF m 139 #[.val (.int sel), .val (.long o1), .second, .val (.long o2), .second, .val (.int s1), .val (.int s2), .val (.int t7), .val (.int t8), .val (.ref p9), .val (.ref p10), .val (.int z11), .val (.long off), .second, .val (.int z14), .val (.int k15), .val (.ref b15), .unset, .unset, .unset] [(.int z14), (.long off), (.ref p10), (.ref b17), (.ref b17)])) _
      refine st18.trans ?_
      show Steps p.tables e below (T18.setTop (mkF m 142 #[.val (.int sel), .val (.long o1), .second, .val (.long o2), .second, .val (.int s1), .val (.int s2), .val (.int t7), .val (.int t8), .val (.ref p9), .val (.ref p10), .val (.int z11), .val (.long off), .second, .val (.int z14), .val (.int k15), .val (.ref b15), .unset, .unset, .unset] [(.ref b17)])) _
      refine XS.astore X18.here hx rfl (hb hby at_142) rfl rfl (l' := #[.val (.int sel), .val (.long o1), .second, .val (.long o2), .second, .val (.int s1), .val (.int s2), .val (.int t7), .val (.int t8), .val (.ref p9), .val (.ref p10), .val (.int z11), .val (.long off), .second, .val (.int z14), .val (.int k15), .val (.ref b15), .val (.ref b17), .unset, .unset]) rfl ?_
      show Steps p.tables e below (T18.setTop (mkF m 144 #[.val (.int sel), .val (.long o1), .second, .val (.long o2), .second, .val (.int s1), .val (.int s2), .val (.int t7), .val (.int t8), .val (.ref p9), .val (.ref p10), .val (.int z11), .val (.long off), .second, .val (.int z14), .val (.int k15), .val (.ref b15), .val (.ref b17), .unset, .unset] [])) _
      refine XS.iload X18.here hx rfl (hb hby at_144) rfl ?_
      show Steps p.tables e below (T18.setTop (mkF m 146 #[.val (.int sel), .val (.long o1), .second, .val (.long o2), .second, .val (.int s1), .val (.int s2), .val (.int t7), .val (.int t8), .val (.ref p9), .val (.ref p10), .val (.int z11), .val (.long off), .second, .val (.int z14), .val (.int k15), .val (.ref b15), .val (.ref b17), .unset, .unset] [(.int k15)])) _
      refine XS.ifNo X18.here hx rfl (hb hby at_146) rfl ((if0 _ _).trans (teq (hk : k15 = (0 : Int32))).2) ?_
      show Steps p.tables e below (T18.setTop (mkF m 149 #[.val (.int sel), .val (.long o1), .second, .val (.long o2), .second, .val (.int s1), .val (.int s2), .val (.int t7), .val (.int t8), .val (.ref p9), .val (.ref p10), .val (.int z11), .val (.long off), .second, .val (.int z14), .val (.int k15), .val (.ref b15), .val (.ref b17), .unset, .unset] [])) _
      refine XS.aload X18.here hx rfl (hb hby at_149) rfl rfl ?_
      show Steps p.tables e below (T18.setTop (mkF m 151 #[.val (.int sel), .val (.long o1), .second, .val (.long o2), .second, .val (.int s1), .val (.int s2), .val (.int t7), .val (.int t8), .val (.ref p9), .val (.ref p10), .val (.int z11), .val (.long off), .second, .val (.int z14), .val (.int k15), .val (.ref b15), .val (.ref b17), .unset, .unset] [(.ref b17)])) _
      refine XS.astore X18.here hx rfl (hb hby at_151) rfl rfl (l' := #[.val (.int sel), .val (.long o1), .second, .val (.long o2), .second, .val (.int s1), .val (.int s2), .val (.int t7), .val (.int t8), .val (.ref p9), .val (.ref p10), .val (.int z11), .val (.long off), .second, .val (.int z14), .val (.int k15), .val (.ref b15), .val (.ref b17), .val (.ref b17), .unset]) rfl ?_
      show Steps p.tables e below (T18.setTop (mkF m 153 #[.val (.int sel), .val (.long o1), .second, .val (.long o2), .second, .val (.int s1), .val (.int s2), .val (.int t7), .val (.int t8), .val (.ref p9), .val (.ref p10), .val (.int z11), .val (.long off), .second, .val (.int z14), .val (.int k15), .val (.ref b15), .val (.ref b17), .val (.ref b17), .unset] [])) _
      refine XS.iload X18.here hx rfl (hb hby at_153) rfl ?_
      show Steps p.tables e below (T18.setTop (mkF m 155 #[.val (.int sel), .val (.long o1), .second, .val (.long o2), .second, .val (.int s1), .val (.int s2), .val (.int t7), .val (.int t8), .val (.ref p9), .val (.ref p10), .val (.int z11), .val (.long off), .second, .val (.int z14), .val (.int k15), .val (.ref b15), .val (.ref b17), .val (.ref b17), .unset] [(.int t7)])) _
      refine XS.iload X18.here hx rfl (hb hby at_155) rfl ?_
      show Steps p.tables e below (T18.setTop (mkF m 157 #[.val (.int sel), .val (.long o1), .second, .val (.long o2), .second, .val (.int s1), .val (.int s2), .val (.int t7), .val (.int t8), .val (.ref p9), .val (.ref p10), .val (.int z11), .val (.long off), .second, .val (.int z14), .val (.int k15), .val (.ref b15), .val (.ref b17), .val (.ref b17), .unset] [(.int t8), (.int t7)])) _
      refine XS.icmpNo X18.here hx rfl (hb hby at_157) rfl (teq (h1 : t7 = t8)).2 ?_
      show Steps p.tables e below (T18.setTop (mkF m 160 #[.val (.int sel), .val (.long o1), .second, .val (.long o2), .second, .val (.int s1), .val (.int s2), .val (.int t7), .val (.int t8), .val (.ref p9), .val (.ref p10), .val (.int z11), .val (.long off), .second, .val (.int z14), .val (.int k15), .val (.ref b15), .val (.ref b17), .val (.ref b17), .unset] [])) _
      refine XS.lloadN X18.here hx rfl (hb hby at_160) rfl ?_
      show Steps p.tables e below (T18.setTop (mkF m 161 #[.val (.int sel), .val (.long o1), .second, .val (.long o2), .second, .val (.int s1), .val (.int s2), .val (.int t7), .val (.int t8), .val (.ref p9), .val (.ref p10), .val (.int z11), .val (.long off), .second, .val (.int z14), .val (.int k15), .val (.ref b15), .val (.ref b17), .val (.ref b17), .unset] [(.long o1)])) _
      refine XS.lload X18.here hx rfl (hb hby at_161) rfl ?_
      show Steps p.tables e below (T18.setTop (mkF m 163 #[.val (.int sel), .val (.long o1), .second, .val (.long o2), .second, .val (.int s1), .val (.int s2), .val (.int t7), .val (.int t8), .val (.ref p9), .val (.ref p10), .val (.int z11), .val (.long off), .second, .val (.int z14), .val (.int k15), .val (.ref b15), .val (.ref b17), .val (.ref b17), .unset] [(.long off), (.long o1)])) _
      refine XS.lcmp X18.here hx rfl (hb hby at_163) rfl ?_
      show Steps p.tables e below (T18.setTop (mkF m 164 #[.val (.int sel), .val (.long o1), .second, .val (.long o2), .second, .val (.int s1), .val (.int s2), .val (.int t7), .val (.int t8), .val (.ref p9), .val (.ref p10), .val (.int z11), .val (.long off), .second, .val (.int z14), .val (.int k15), .val (.ref b15), .val (.ref b17), .val (.ref b17), .unset] [(.int (lcmpW o1 off))])) _
      refine XS.ifYes X18.here hx rfl (pc0 := 164) (pc' := 178) rfl (hb hby at_164) rfl ((if0 _ _).trans (feq (fun q => h2 ((lw_eq _ _).mp q) : ¬ ((lcmpW o1 off) = (0 : Int32)))).2) (by decide) (by decide) ?_
      show Steps p.tables e below (T18.setTop (mkF m 178 #[.val (.int sel), .val (.long o1), .second, .val (.long o2), .second, .val (.int s1), .val (.int s2), .val (.int t7), .val (.int t8), .val (.ref p9), .val (.ref p10), .val (.int z11), .val (.long off), .second, .val (.int z14), .val (.int k15), .val (.ref b15), .val (.ref b17), .val (.ref b17), .unset] [])) _
      refine XS.iconst X18.here hx rfl (hb hby at_178) ?_
      show Steps p.tables e below (T18.setTop (mkF m 179 #[.val (.int sel), .val (.long o1), .second, .val (.long o2), .second, .val (.int s1), .val (.int s2), .val (.int t7), .val (.int t8), .val (.ref p9), .val (.ref p10), .val (.int z11), .val (.long off), .second, .val (.int z14), .val (.int k15), .val (.ref b15), .val (.ref b17), .val (.ref b17), .unset] [(.int (0 : Int32))])) _
      refine XS.istore X18.here hx rfl (hb hby at_179) rfl (l' := #[.val (.int sel), .val (.long o1), .second, .val (.long o2), .second, .val (.int s1), .val (.int s2), .val (.int t7), .val (.int t8), .val (.ref p9), .val (.ref p10), .val (.int z11), .val (.long off), .second, .val (.int z14), .val (.int k15), .val (.ref b15), .val (.ref b17), .val (.ref b17), .val (.int (0 : Int32))]) rfl ?_
      show Steps p.tables e below (T18.setTop (mkF m 181 #[.val (.int sel), .val (.long o1), .second, .val (.long o2), .second, .val (.int s1), .val (.int s2), .val (.int t7), .val (.int t8), .val (.ref p9), .val (.ref p10), .val (.int z11), .val (.long off), .second, .val (.int z14), .val (.int k15), .val (.ref b15), .val (.ref b17), .val (.ref b17), .val (.int (0 : Int32))] [])) _
      refine XS.goto X18.here hx rfl (pc0 := 181) (pc' := 222) rfl (hb hby at_181) (by decide) (by decide) ?_
      show Steps p.tables e below (T18.setTop (mkF m 222 #[.val (.int sel), .val (.long o1), .second, .val (.long o2), .second, .val (.int s1), .val (.int s2), .val (.int t7), .val (.int t8), .val (.ref p9), .val (.ref p10), .val (.int z11), .val (.long off), .second, .val (.int z14), .val (.int k15), .val (.ref b15), .val (.ref b17), .val (.ref b17), .val (.int (0 : Int32))] [])) _
      refine XS.aload X18.here hx rfl (hb hby at_222) rfl rfl ?_
      show Steps p.tables e below (T18.setTop (mkF m 224 #[.val (.int sel), .val (.long o1), .second, .val (.long o2), .second, .val (.int s1), .val (.int s2), .val (.int t7), .val (.int t8), .val (.ref p9), .val (.ref p10), .val (.int z11), .val (.long off), .second, .val (.int z14), .val (.int k15), .val (.ref b15), .val (.ref b17), .val (.ref b17), .val (.int (0 : Int32))] [(.ref b15)])) _
      refine XS.aload X18.here hx rfl (hb hby at_224) rfl rfl ?_
      show Steps p.tables e below (T18.setTop (mkF m 226 #[.val (.int sel), .val (.long o1), .second, .val (.long o2), .second, .val (.int s1), .val (.int s2), .val (.int t7), .val (.int t8), .val (.ref p9), .val (.ref p10), .val (.int z11), .val (.long off), .second, .val (.int z14), .val (.int k15), .val (.ref b15), .val (.ref b17), .val (.ref b17), .val (.int (0 : Int32))] [(.ref b17), (.ref b15)])) _
      refine st21.trans ?_
      show Steps p.tables e below (T21.setTop (mkF m 229 #[.val (.int sel), .val (.long o1), .second, .val (.long o2), .second, .val (.int s1), .val (.int s2), .val (.int t7), .val (.int t8), .val (.ref p9), .val (.ref p10), .val (.int z11), .val (.long off), .second, .val (.int z14), .val (.int k15), .val (.ref b15), .val (.ref b17), .val (.ref b17), .val (.int (0 : Int32))] [(.int (own_eq p9 p10 o1 off z11 z14))])) _
      refine XS.iload X21.here hx rfl (hb hby at_229) rfl ?_
      show Steps p.tables e below (T21.setTop (mkF m 231 #[.val (.int sel), .val (.long o1), .second, .val (.long o2), .second, .val (.int s1), .val (.int s2), .val (.int t7), .val (.int t8), .val (.ref p9), .val (.ref p10), .val (.int z11), .val (.long off), .second, .val (.int z14), .val (.int k15), .val (.ref b15), .val (.ref b17), .val (.ref b17), .val (.int (0 : Int32))] [(.int (0 : Int32)), (.int (own_eq p9 p10 o1 off z11 z14))])) _
      refine XS.icmpNo X21.here hx rfl (hb hby at_231) rfl (teq (own_eq0 (fun q => h2 q.2.1.symm) : (own_eq p9 p10 o1 off z11 z14) = (0 : Int32))).2 ?_
      show Steps p.tables e below (T21.setTop (mkF m 234 #[.val (.int sel), .val (.long o1), .second, .val (.long o2), .second, .val (.int s1), .val (.int s2), .val (.int t7), .val (.int t8), .val (.ref p9), .val (.ref p10), .val (.int z11), .val (.long off), .second, .val (.int z14), .val (.int k15), .val (.ref b15), .val (.ref b17), .val (.ref b17), .val (.int (0 : Int32))] [])) _
      refine XS.iconst X21.here hx rfl (hb hby at_234) ?_
      show Steps p.tables e below (T21.setTop (mkF m 235 #[.val (.int sel), .val (.long o1), .second, .val (.long o2), .second, .val (.int s1), .val (.int s2), .val (.int t7), .val (.int t8), .val (.ref p9), .val (.ref p10), .val (.int z11), .val (.long off), .second, .val (.int z14), .val (.int k15), .val (.ref b15), .val (.ref b17), .val (.ref b17), .val (.int (0 : Int32))] [(.int (1 : Int32))])) _
      refine XS.goto X21.here hx rfl (pc0 := 235) (pc' := 239) rfl (hb hby at_235) (by decide) (by decide) ?_
      show Steps p.tables e below (T21.setTop (mkF m 239 #[.val (.int sel), .val (.long o1), .second, .val (.long o2), .second, .val (.int s1), .val (.int s2), .val (.int t7), .val (.int t8), .val (.ref p9), .val (.ref p10), .val (.int z11), .val (.long off), .second, .val (.int z14), .val (.int k15), .val (.ref b15), .val (.ref b17), .val (.ref b17), .val (.int (0 : Int32))] [(.int (1 : Int32))])) _
      exact retN X21 hx (t := .boolean) Bd.returns (by simp) (hb hby at_239) hr
    · show own_QL n0 _ T21.heap _
      exact ⟨rfl, N21⟩
  · obtain ⟨cq22, kq22, q22a, q22b, q22c⟩ := isOf hZ (rfl : T18.heap = _) E18_b15
    obtain ⟨_, _, ⟨T22, L22, kc22, nc22⟩, -, X22, ⟨Lc22, hQ22, ql22, qy22, qz22⟩, st22⟩ := X18.virtualBack hx (y := (⟨"com/example/tablewright/tablewright/model/Varnode", "equals", "(Ljava/lang/Object;)Z"⟩ : MethodName)) (z := (⟨"com/example/tablewright/tablewright/model/Varnode", "equals", "(Ljava/lang/Object;)Z"⟩ : MethodName)) hown (mvT hZ (hw _ (List.mem_of_getElem? (i := 23) rfl))) (mvT hZ (hw _ (List.mem_of_getElem? (i := 24) rfl))) (notFace_of_selects (args := #[]) (mvT hZ (hw _ (List.mem_of_getElem? (i := 26) rfl)))) (mvT hZ (hw _ (List.mem_of_getElem? (i := 26) rfl))) (mvT hZ (hw _ (List.mem_of_getElem? (i := 25) rfl))) (by decide) (backOf (W := 0) (own_rme l Z a0 hw [] b15 b17 p9 p10 o1 off z11 z14 T18.heap n0 Zn18 Ec18 F18_b15_space F18_b15_offset F18_b15_size Fc18_space Fc18_offset Fc18_size) hZ (hw _ (List.mem_of_getElem? (i := 27) rfl)) (hw _ (List.mem_of_getElem? (i := 10) rfl)) (by decide) (by decide)) q22a q22c (g := (mkF m 226 #[.val (.int sel), .val (.long o1), .second, .val (.long o2), .second, .val (.int s1), .val (.int s2), .val (.int t7), .val (.int t8), .val (.ref p9), .val (.ref p10), .val (.int z11), .val (.long off), .second, .val (.int z14), .val (.int k15), .val (.ref b15), .val (.ref b17), .val (.ref b17), .val (.int (0 : Int32))] [(.ref b17), (.ref b15)])) rfl (by rw [hml]; rfl) (Steps.refl _) (argsL := [(.ref b17)]) (rest := []) (lenOf own_pd2 rfl) rfl (by show 2 * 0 + _ ≤ _; exact Nat.le_of_eq rfl) (hb hby at_226) (fun _ _ => ⟨rfl, (rfl : T18.heap = _), (by decide : 2 + 0 ≤ _), (by decide : 6 + 0 ≤ _)⟩)
    dsimp only [Pt.U, Pt.locs, Pt.cells, Pt.slots] at X22 ql22 qy22 qz22 st22 hQ22
    subst ql22 qy22 qz22
    obtain ⟨rfl, Nq22, eq22⟩ := hQ22
    have N22 := Fr.app N18 Nq22
    obtain ⟨fs, hr, hrun, hended, hW, hsame⟩ := X22.leave (v := some (.int (1 : Int32))) (fun h => by rw [Bd.returns] at h; cases h)
    refine ⟨_, _, pre0 _ ?_, hrun, hended, _, _, rfl, ?_, ⟨_, rfl⟩, hW, hsame.mono (by decide) (by decide)⟩
    · show Steps p.tables e below (s₁.setTop (mkF m 0 #[.val (.int sel), .val (.long o1), .second, .val (.long o2), .second, .val (.int s1), .val (.int s2), .unset, .unset, .unset, .unset, .unset, .unset, .unset, .unset, .unset, .unset, .unset, .unset, .unset] [])) _
      refine st1 _ ?_
      show Steps p.tables e below (T1.setTop (mkF m 13 #[.val (.int sel), .val (.long o1), .second, .val (.long o2), .second, .val (.int s1), .val (.int s2), .val (.int t7), .unset, .unset, .unset, .unset, .unset, .unset, .unset, .unset, .unset, .unset, .unset, .unset] [])) _
      refine st2 _ ?_
      show Steps p.tables e below (T2.setTop (mkF m 26 #[.val (.int sel), .val (.long o1), .second, .val (.long o2), .second, .val (.int s1), .val (.int s2), .val (.int t7), .val (.int t8), .unset, .unset, .unset, .unset, .unset, .unset, .unset, .unset, .unset, .unset, .unset] [])) _
      refine st3 _ ?_
      show Steps p.tables e below (T3.setTop (mkF m 42 #[.val (.int sel), .val (.long o1), .second, .val (.long o2), .second, .val (.int s1), .val (.int s2), .val (.int t7), .val (.int t8), .val (.ref p9), .unset, .unset, .unset, .unset, .unset, .unset, .unset, .unset, .unset, .unset] [])) _
      refine st6 _ ?_
      show Steps p.tables e below (T6.setTop (mkF m 58 #[.val (.int sel), .val (.long o1), .second, .val (.long o2), .second, .val (.int s1), .val (.int s2), .val (.int t7), .val (.int t8), .val (.ref p9), .val (.ref p10), .unset, .unset, .unset, .unset, .unset, .unset, .unset, .unset, .unset] [])) _
      refine st9 _ ?_
      show Steps p.tables e below (T9.setTop (mkF m 69 #[.val (.int sel), .val (.long o1), .second, .val (.long o2), .second, .val (.int s1), .val (.int s2), .val (.int t7), .val (.int t8), .val (.ref p9), .val (.ref p10), .val (.int z11), .unset, .unset, .unset, .unset, .unset, .unset, .unset, .unset] [])) _
      refine st11 _ ?_
      show Steps p.tables e below (T11.setTop (mkF m 84 #[.val (.int sel), .val (.long o1), .second, .val (.long o2), .second, .val (.int s1), .val (.int s2), .val (.int t7), .val (.int t8), .val (.ref p9), .val (.ref p10), .val (.int z11), .val (.long off), .second, .unset, .unset, .unset, .unset, .unset, .unset] [])) _
      refine st12 _ ?_
      show Steps p.tables e below (T12.setTop (mkF m 108 #[.val (.int sel), .val (.long o1), .second, .val (.long o2), .second, .val (.int s1), .val (.int s2), .val (.int t7), .val (.int t8), .val (.ref p9), .val (.ref p10), .val (.int z11), .val (.long off), .second, .val (.int z14), .unset, .unset, .unset, .unset, .unset] [])) _
      refine st14 _ ?_
      show Steps p.tables e below (T14.setTop (mkF m 115 #[.val (.int sel), .val (.long o1), .second, .val (.long o2), .second, .val (.int s1), .val (.int s2), .val (.int t7), .val (.int t8), .val (.ref p9), .val (.ref p10), .val (.int z11), .val (.long off), .second, .val (.int z14), .val (.int k15), .unset, .unset, .unset, .unset] [])) _
      refine st15 _ ?_
      show Steps p.tables e below (T15.setTop (mkF m 118 #[.val (.int sel), .val (.long o1), .second, .val (.long o2), .second, .val (.int s1), .val (.int s2), .val (.int t7), .val (.int t8), .val (.ref p9), .val (.ref p10), .val (.int z11), .val (.long off), .second, .val (.int z14), .val (.int k15), .unset, .unset, .unset, .unset] [(.ref b15)])) _
      refine XS.dup X15.here hx rfl (hb hby at_118) rfl rfl ?_
      show Steps p.tables e below (T15.setTop (mkF m 119 #[.val (.int sel), .val (.long o1), .second, .val (.long o2), .second, .val (.int s1), .val (.int s2), .val (.int t7), .val (.int t8), .val (.ref p9), .val (.ref p10), .val (.int z11), .val (.long off), .second, .val (.int z14), .val (.int k15), .unset, .unset, .unset, .unset] [(.ref b15), (.ref b15)])) _
      refine XS.aload X15.here hx rfl (hb hby at_119) rfl rfl ?_
      show Steps p.tables e below (T15.setTop (mkF m 121 #[.val (.int sel), .val (.long o1), .second, .val (.long o2), .second, .val (.int s1), .val (.int s2), .val (.int t7), .val (.int t8), .val (.ref p9), .val (.ref p10), .val (.int z11), .val (.long off), .second, .val (.int z14), .val (.int k15), .unset, .unset, .unset, .unset] [(.ref p9), (.ref b15), (.ref b15)])) _
      refine XS.lloadN X15.here hx rfl (hb hby at_121) rfl ?_
      show Steps p.tables e below (T15.setTop (mkF m 122 #[.val (.int sel), .val (.long o1), .second, .val (.long o2), .second, .val (.int s1), .val (.int s2), .val (.int t7), .val (.int t8), .val (.ref p9), .val (.ref p10), .val (.int z11), .val (.long off), .second, .val (.int z14), .val (.int k15), .unset, .unset, .unset, .unset] [(.long o1), (.ref p9), (.ref b15), (.ref b15)])) _
      refine XS.iload X15.here hx rfl (hb hby at_122) rfl ?_
      show Steps p.tables e below (T15.setTop (mkF m 124 #[.val (.int sel), .val (.long o1), .second, .val (.long o2), .second, .val (.int s1), .val (.int s2), .val (.int t7), .val (.int t8), .val (.ref p9), .val (.ref p10), .val (.int z11), .val (.long off), .second, .val (.int z14), .val (.int k15), .unset, .unset, .unset, .unset] [(.int z11), (.long o1), (.ref p9), (.ref b15), (.ref b15)])) _
      refine st16.trans ?_
      show Steps p.tables e below (T16.setTop (mkF m 127 #[.val (.int sel), .val (.long o1), .second, .val (.long o2), .second, .val (.int s1), .val (.int s2), .val (.int t7), .val (.int t8), .val (.ref p9), .val (.ref p10), .val (.int z11), .val (.long off), .second, .val (.int z14), .val (.int k15), .unset, .unset, .unset, .unset] [(.ref b15)])) _
      refine XS.astore X16.here hx rfl (hb hby at_127) rfl rfl (l' := #[.val (.int sel), .val (.long o1), .second, .val (.long o2), .second, .val (.int s1), .val (.int s2), .val (.int t7), .val (.int t8), .val (.ref p9), .val (.ref p10), .val (.int z11), .val (.long off), .second, .val (.int z14), .val (.int k15), .val (.ref b15), .unset, .unset, .unset]) rfl ?_
      show Steps p.tables e below (T16.setTop (mkF m 129 #[.val (.int sel), .val (.long o1), .second, .val (.long o2), .second, .val (.int s1), .val (.int s2), .val (.int t7), .val (.int t8), .val (.ref p9), .val (.ref p10), .val (.int z11), .val (.long off), .second, .val (.int z14), .val (.int k15), .val (.ref b15), .unset, .unset, .unset] [])) _
      refine st17 _ ?_
      show Steps p.tables e below (T17.setTop (mkF m 132 #[.val (.int sel), .val (.long o1), .second, .val (.long o2), .second, .val (.int s1), .val (.int s2), .val (.int t7), .val (.int t8), .val (.ref p9), .val (.ref p10), .val (.int z11), .val (.long off), .second, .val (.int z14), .val (.int k15), .val (.ref b15), .unset, .unset, .unset] [(.ref b17)])) _
      refine XS.dup X17.here hx rfl (hb hby at_132) rfl rfl ?_
      show Steps p.tables e below (T17.setTop (mkF m 133 #[.val (.int sel), .val (.long o1), .second, .val (.long o2), .second, .val (.int s1), .val (.int s2), .val (.int t7), .val (.int t8), .val (.ref p9), .val (.ref p10), .val (.int z11), .val (.long off), .second, .val (.int z14), .val (.int k15), .val (.ref b15), .unset, .unset, .unset] [(.ref b17), (.ref b17)])) _
      refine XS.aload X17.here hx rfl (hb hby at_133) rfl rfl ?_
      show Steps p.tables e below (T17.setTop (mkF m 135 #[.val (.int sel), .val (.long o1), .second, .val (.long o2), .second, .val (.int s1), .val (.int s2), .val (.int t7), .val (.int t8), .val (.ref p9), .val (.ref p10), .val (.int z11), .val (.long off), .second, .val (.int z14), .val (.int k15), .val (.ref b15), .unset, .unset, .unset] [(.ref p10), (.ref b17), (.ref b17)])) _
      refine XS.lload X17.here hx rfl (hb hby at_135) rfl ?_
      show Steps p.tables e below (T17.setTop (mkF m 137 #[.val (.int sel), .val (.long o1), .second, .val (.long o2), .second, .val (.int s1), .val (.int s2), .val (.int t7), .val (.int t8), .val (.ref p9), .val (.ref p10), .val (.int z11), .val (.long off), .second, .val (.int z14), .val (.int k15), .val (.ref b15), .unset, .unset, .unset] [(.long off), (.ref p10), (.ref b17), (.ref b17)])) _
      refine XS.iload X17.here hx rfl (hb hby at_137) rfl ?_
      show Steps p.tables e below (T17.setTop (mkF m 139 #[.val (.int sel), .val (.long o1), .second, .val (.long o2), .second, .val (.int s1), .val (.int s2), .val (.int t7), .val (.int t8), .val (.ref p9), .val (.ref p10), .val (.int z11), .val (.long off), .second, .val (.int z14), .val (.int k15), .val (.ref b15), .unset, .unset, .unset] [(.int z14), (.long off), (.ref p10), (.ref b17), (.ref b17)])) _
      refine st18.trans ?_
      show Steps p.tables e below (T18.setTop (mkF m 142 #[.val (.int sel), .val (.long o1), .second, .val (.long o2), .second, .val (.int s1), .val (.int s2), .val (.int t7), .val (.int t8), .val (.ref p9), .val (.ref p10), .val (.int z11), .val (.long off), .second, .val (.int z14), .val (.int k15), .val (.ref b15), .unset, .unset, .unset] [(.ref b17)])) _
      refine XS.astore X18.here hx rfl (hb hby at_142) rfl rfl (l' := #[.val (.int sel), .val (.long o1), .second, .val (.long o2), .second, .val (.int s1), .val (.int s2), .val (.int t7), .val (.int t8), .val (.ref p9), .val (.ref p10), .val (.int z11), .val (.long off), .second, .val (.int z14), .val (.int k15), .val (.ref b15), .val (.ref b17), .unset, .unset]) rfl ?_
      show Steps p.tables e below (T18.setTop (mkF m 144 #[.val (.int sel), .val (.long o1), .second, .val (.long o2), .second, .val (.int s1), .val (.int s2), .val (.int t7), .val (.int t8), .val (.ref p9), .val (.ref p10), .val (.int z11), .val (.long off), .second, .val (.int z14), .val (.int k15), .val (.ref b15), .val (.ref b17), .unset, .unset] [])) _
      refine XS.iload X18.here hx rfl (hb hby at_144) rfl ?_
      show Steps p.tables e below (T18.setTop (mkF m 146 #[.val (.int sel), .val (.long o1), .second, .val (.long o2), .second, .val (.int s1), .val (.int s2), .val (.int t7), .val (.int t8), .val (.ref p9), .val (.ref p10), .val (.int z11), .val (.long off), .second, .val (.int z14), .val (.int k15), .val (.ref b15), .val (.ref b17), .unset, .unset] [(.int k15)])) _
      refine XS.ifNo X18.here hx rfl (hb hby at_146) rfl ((if0 _ _).trans (teq (hk : k15 = (0 : Int32))).2) ?_
      show Steps p.tables e below (T18.setTop (mkF m 149 #[.val (.int sel), .val (.long o1), .second, .val (.long o2), .second, .val (.int s1), .val (.int s2), .val (.int t7), .val (.int t8), .val (.ref p9), .val (.ref p10), .val (.int z11), .val (.long off), .second, .val (.int z14), .val (.int k15), .val (.ref b15), .val (.ref b17), .unset, .unset] [])) _
      refine XS.aload X18.here hx rfl (hb hby at_149) rfl rfl ?_
      show Steps p.tables e below (T18.setTop (mkF m 151 #[.val (.int sel), .val (.long o1), .second, .val (.long o2), .second, .val (.int s1), .val (.int s2), .val (.int t7), .val (.int t8), .val (.ref p9), .val (.ref p10), .val (.int z11), .val (.long off), .second, .val (.int z14), .val (.int k15), .val (.ref b15), .val (.ref b17), .unset, .unset] [(.ref b17)])) _
      refine XS.astore X18.here hx rfl (hb hby at_151) rfl rfl (l' := #[.val (.int sel), .val (.long o1), .second, .val (.long o2), .second, .val (.int s1), .val (.int s2), .val (.int t7), .val (.int t8), .val (.ref p9), .val (.ref p10), .val (.int z11), .val (.long off), .second, .val (.int z14), .val (.int k15), .val (.ref b15), .val (.ref b17), .val (.ref b17), .unset]) rfl ?_
      show Steps p.tables e below (T18.setTop (mkF m 153 #[.val (.int sel), .val (.long o1), .second, .val (.long o2), .second, .val (.int s1), .val (.int s2), .val (.int t7), .val (.int t8), .val (.ref p9), .val (.ref p10), .val (.int z11), .val (.long off), .second, .val (.int z14), .val (.int k15), .val (.ref b15), .val (.ref b17), .val (.ref b17), .unset] [])) _
      refine XS.iload X18.here hx rfl (hb hby at_153) rfl ?_
      show Steps p.tables e below (T18.setTop (mkF m 155 #[.val (.int sel), .val (.long o1), .second, .val (.long o2), .second, .val (.int s1), .val (.int s2), .val (.int t7), .val (.int t8), .val (.ref p9), .val (.ref p10), .val (.int z11), .val (.long off), .second, .val (.int z14), .val (.int k15), .val (.ref b15), .val (.ref b17), .val (.ref b17), .unset] [(.int t7)])) _
      refine XS.iload X18.here hx rfl (hb hby at_155) rfl ?_
      show Steps p.tables e below (T18.setTop (mkF m 157 #[.val (.int sel), .val (.long o1), .second, .val (.long o2), .second, .val (.int s1), .val (.int s2), .val (.int t7), .val (.int t8), .val (.ref p9), .val (.ref p10), .val (.int z11), .val (.long off), .second, .val (.int z14), .val (.int k15), .val (.ref b15), .val (.ref b17), .val (.ref b17), .unset] [(.int t8), (.int t7)])) _
      refine XS.icmpYes X18.here hx rfl (pc0 := 157) (pc' := 178) rfl (hb hby at_157) rfl (feq (h1 : ¬ (t7 = t8))).2 (by decide) (by decide) ?_
      show Steps p.tables e below (T18.setTop (mkF m 178 #[.val (.int sel), .val (.long o1), .second, .val (.long o2), .second, .val (.int s1), .val (.int s2), .val (.int t7), .val (.int t8), .val (.ref p9), .val (.ref p10), .val (.int z11), .val (.long off), .second, .val (.int z14), .val (.int k15), .val (.ref b15), .val (.ref b17), .val (.ref b17), .unset] [])) _
      refine XS.iconst X18.here hx rfl (hb hby at_178) ?_
      show Steps p.tables e below (T18.setTop (mkF m 179 #[.val (.int sel), .val (.long o1), .second, .val (.long o2), .second, .val (.int s1), .val (.int s2), .val (.int t7), .val (.int t8), .val (.ref p9), .val (.ref p10), .val (.int z11), .val (.long off), .second, .val (.int z14), .val (.int k15), .val (.ref b15), .val (.ref b17), .val (.ref b17), .unset] [(.int (0 : Int32))])) _
      refine XS.istore X18.here hx rfl (hb hby at_179) rfl (l' := #[.val (.int sel), .val (.long o1), .second, .val (.long o2), .second, .val (.int s1), .val (.int s2), .val (.int t7), .val (.int t8), .val (.ref p9), .val (.ref p10), .val (.int z11), .val (.long off), .second, .val (.int z14), .val (.int k15), .val (.ref b15), .val (.ref b17), .val (.ref b17), .val (.int (0 : Int32))]) rfl ?_
      show Steps p.tables e below (T18.setTop (mkF m 181 #[.val (.int sel), .val (.long o1), .second, .val (.long o2), .second, .val (.int s1), .val (.int s2), .val (.int t7), .val (.int t8), .val (.ref p9), .val (.ref p10), .val (.int z11), .val (.long off), .second, .val (.int z14), .val (.int k15), .val (.ref b15), .val (.ref b17), .val (.ref b17), .val (.int (0 : Int32))] [])) _
      refine XS.goto X18.here hx rfl (pc0 := 181) (pc' := 222) rfl (hb hby at_181) (by decide) (by decide) ?_
      show Steps p.tables e below (T18.setTop (mkF m 222 #[.val (.int sel), .val (.long o1), .second, .val (.long o2), .second, .val (.int s1), .val (.int s2), .val (.int t7), .val (.int t8), .val (.ref p9), .val (.ref p10), .val (.int z11), .val (.long off), .second, .val (.int z14), .val (.int k15), .val (.ref b15), .val (.ref b17), .val (.ref b17), .val (.int (0 : Int32))] [])) _
      refine XS.aload X18.here hx rfl (hb hby at_222) rfl rfl ?_
      show Steps p.tables e below (T18.setTop (mkF m 224 #[.val (.int sel), .val (.long o1), .second, .val (.long o2), .second, .val (.int s1), .val (.int s2), .val (.int t7), .val (.int t8), .val (.ref p9), .val (.ref p10), .val (.int z11), .val (.long off), .second, .val (.int z14), .val (.int k15), .val (.ref b15), .val (.ref b17), .val (.ref b17), .val (.int (0 : Int32))] [(.ref b15)])) _
      refine XS.aload X18.here hx rfl (hb hby at_224) rfl rfl ?_
      show Steps p.tables e below (T18.setTop (mkF m 226 #[.val (.int sel), .val (.long o1), .second, .val (.long o2), .second, .val (.int s1), .val (.int s2), .val (.int t7), .val (.int t8), .val (.ref p9), .val (.ref p10), .val (.int z11), .val (.long off), .second, .val (.int z14), .val (.int k15), .val (.ref b15), .val (.ref b17), .val (.ref b17), .val (.int (0 : Int32))] [(.ref b17), (.ref b15)])) _
      refine st22.trans ?_
      show Steps p.tables e below (T22.setTop (mkF m 229 #[.val (.int sel), .val (.long o1), .second, .val (.long o2), .second, .val (.int s1), .val (.int s2), .val (.int t7), .val (.int t8), .val (.ref p9), .val (.ref p10), .val (.int z11), .val (.long off), .second, .val (.int z14), .val (.int k15), .val (.ref b15), .val (.ref b17), .val (.ref b17), .val (.int (0 : Int32))] [(.int (own_eq p9 p10 o1 off z11 z14))])) _
      refine XS.iload X22.here hx rfl (hb hby at_229) rfl ?_
      show Steps p.tables e below (T22.setTop (mkF m 231 #[.val (.int sel), .val (.long o1), .second, .val (.long o2), .second, .val (.int s1), .val (.int s2), .val (.int t7), .val (.int t8), .val (.ref p9), .val (.ref p10), .val (.int z11), .val (.long off), .second, .val (.int z14), .val (.int k15), .val (.ref b15), .val (.ref b17), .val (.ref b17), .val (.int (0 : Int32))] [(.int (0 : Int32)), (.int (own_eq p9 p10 o1 off z11 z14))])) _
      refine XS.icmpNo X22.here hx rfl (hb hby at_231) rfl (teq (own_eq0 (fun q => h1 (hpq.mp q.1)) : (own_eq p9 p10 o1 off z11 z14) = (0 : Int32))).2 ?_
      show Steps p.tables e below (T22.setTop (mkF m 234 #[.val (.int sel), .val (.long o1), .second, .val (.long o2), .second, .val (.int s1), .val (.int s2), .val (.int t7), .val (.int t8), .val (.ref p9), .val (.ref p10), .val (.int z11), .val (.long off), .second, .val (.int z14), .val (.int k15), .val (.ref b15), .val (.ref b17), .val (.ref b17), .val (.int (0 : Int32))] [])) _
      refine XS.iconst X22.here hx rfl (hb hby at_234) ?_
      show Steps p.tables e below (T22.setTop (mkF m 235 #[.val (.int sel), .val (.long o1), .second, .val (.long o2), .second, .val (.int s1), .val (.int s2), .val (.int t7), .val (.int t8), .val (.ref p9), .val (.ref p10), .val (.int z11), .val (.long off), .second, .val (.int z14), .val (.int k15), .val (.ref b15), .val (.ref b17), .val (.ref b17), .val (.int (0 : Int32))] [(.int (1 : Int32))])) _
      refine XS.goto X22.here hx rfl (pc0 := 235) (pc' := 239) rfl (hb hby at_235) (by decide) (by decide) ?_
      show Steps p.tables e below (T22.setTop (mkF m 239 #[.val (.int sel), .val (.long o1), .second, .val (.long o2), .second, .val (.int s1), .val (.int s2), .val (.int t7), .val (.int t8), .val (.ref p9), .val (.ref p10), .val (.int z11), .val (.long off), .second, .val (.int z14), .val (.int k15), .val (.ref b15), .val (.ref b17), .val (.ref b17), .val (.int (0 : Int32))] [(.int (1 : Int32))])) _
      exact retN X22 hx (t := .boolean) Bd.returns (by simp) (hb hby at_239) hr
    · show own_QL n0 _ T22.heap _
      exact ⟨rfl, N22⟩
  · obtain ⟨cq23, kq23, q23a, q23b, q23c⟩ := isOf hZ (rfl : T18.heap = _) E18_b15
    obtain ⟨_, _, ⟨T23, L23, kc23, nc23⟩, -, X23, ⟨Lc23, hQ23, ql23, qy23, qz23⟩, st23⟩ := X18.virtualBack hx (y := (⟨"com/example/tablewright/tablewright/model/Varnode", "equals", "(Ljava/lang/Object;)Z"⟩ : MethodName)) (z := (⟨"com/example/tablewright/tablewright/model/Varnode", "equals", "(Ljava/lang/Object;)Z"⟩ : MethodName)) hown (mvT hZ (hw _ (List.mem_of_getElem? (i := 23) rfl))) (mvT hZ (hw _ (List.mem_of_getElem? (i := 24) rfl))) (notFace_of_selects (args := #[]) (mvT hZ (hw _ (List.mem_of_getElem? (i := 26) rfl)))) (mvT hZ (hw _ (List.mem_of_getElem? (i := 26) rfl))) (mvT hZ (hw _ (List.mem_of_getElem? (i := 25) rfl))) (by decide) (backOf (W := 0) (own_rmn l Z a0 hw [] b15 T18.heap n0 Zn18) hZ (hw _ (List.mem_of_getElem? (i := 27) rfl)) (hw _ (List.mem_of_getElem? (i := 10) rfl)) (by decide) (by decide)) q23a q23c (g := (mkF m 226 #[.val (.int sel), .val (.long o1), .second, .val (.long o2), .second, .val (.int s1), .val (.int s2), .val (.int t7), .val (.int t8), .val (.ref p9), .val (.ref p10), .val (.int z11), .val (.long off), .second, .val (.int z14), .val (.int k15), .val (.ref b15), .val (.ref b17), .val .null, .val (.int (0 : Int32))] [.null, (.ref b15)])) rfl (by rw [hml]; rfl) (Steps.refl _) (argsL := [.null]) (rest := []) (lenOf own_pd2 rfl) rfl (by show 2 * 0 + _ ≤ _; exact Nat.le_of_eq rfl) (hb hby at_226) (fun _ _ => ⟨rfl, (rfl : T18.heap = _), (by decide : 2 + 0 ≤ _), (by decide : 6 + 0 ≤ _)⟩)
    dsimp only [Pt.U, Pt.locs, Pt.cells, Pt.slots] at X23 ql23 qy23 qz23 st23 hQ23
    subst ql23 qy23 qz23
    obtain ⟨rfl, Nq23, eq23⟩ := hQ23
    have N23 := Fr.app N18 Nq23
    obtain ⟨fs, hr, hrun, hended, hW, hsame⟩ := X23.leave (v := some (.int (1 : Int32))) (fun h => by rw [Bd.returns] at h; cases h)
    refine ⟨_, _, pre0 _ ?_, hrun, hended, _, _, rfl, ?_, ⟨_, rfl⟩, hW, hsame.mono (by decide) (by decide)⟩
    · show Steps p.tables e below (s₁.setTop (mkF m 0 #[.val (.int sel), .val (.long o1), .second, .val (.long o2), .second, .val (.int s1), .val (.int s2), .unset, .unset, .unset, .unset, .unset, .unset, .unset, .unset, .unset, .unset, .unset, .unset, .unset] [])) _
      refine st1 _ ?_
      show Steps p.tables e below (T1.setTop (mkF m 13 #[.val (.int sel), .val (.long o1), .second, .val (.long o2), .second, .val (.int s1), .val (.int s2), .val (.int t7), .unset, .unset, .unset, .unset, .unset, .unset, .unset, .unset, .unset, .unset, .unset, .unset] [])) _
      refine st2 _ ?_
      show Steps p.tables e below (T2.setTop (mkF m 26 #[.val (.int sel), .val (.long o1), .second, .val (.long o2), .second, .val (.int s1), .val (.int s2), .val (.int t7), .val (.int t8), .unset, .unset, .unset, .unset, .unset, .unset, .unset, .unset, .unset, .unset, .unset] [])) _
      refine st3 _ ?_
      show Steps p.tables e below (T3.setTop (mkF m 42 #[.val (.int sel), .val (.long o1), .second, .val (.long o2), .second, .val (.int s1), .val (.int s2), .val (.int t7), .val (.int t8), .val (.ref p9), .unset, .unset, .unset, .unset, .unset, .unset, .unset, .unset, .unset, .unset] [])) _
      refine st6 _ ?_
      show Steps p.tables e below (T6.setTop (mkF m 58 #[.val (.int sel), .val (.long o1), .second, .val (.long o2), .second, .val (.int s1), .val (.int s2), .val (.int t7), .val (.int t8), .val (.ref p9), .val (.ref p10), .unset, .unset, .unset, .unset, .unset, .unset, .unset, .unset, .unset] [])) _
      refine st9 _ ?_
      show Steps p.tables e below (T9.setTop (mkF m 69 #[.val (.int sel), .val (.long o1), .second, .val (.long o2), .second, .val (.int s1), .val (.int s2), .val (.int t7), .val (.int t8), .val (.ref p9), .val (.ref p10), .val (.int z11), .unset, .unset, .unset, .unset, .unset, .unset, .unset, .unset] [])) _
      refine st11 _ ?_
      show Steps p.tables e below (T11.setTop (mkF m 84 #[.val (.int sel), .val (.long o1), .second, .val (.long o2), .second, .val (.int s1), .val (.int s2), .val (.int t7), .val (.int t8), .val (.ref p9), .val (.ref p10), .val (.int z11), .val (.long off), .second, .unset, .unset, .unset, .unset, .unset, .unset] [])) _
      refine st12 _ ?_
      show Steps p.tables e below (T12.setTop (mkF m 108 #[.val (.int sel), .val (.long o1), .second, .val (.long o2), .second, .val (.int s1), .val (.int s2), .val (.int t7), .val (.int t8), .val (.ref p9), .val (.ref p10), .val (.int z11), .val (.long off), .second, .val (.int z14), .unset, .unset, .unset, .unset, .unset] [])) _
      refine st14 _ ?_
      show Steps p.tables e below (T14.setTop (mkF m 115 #[.val (.int sel), .val (.long o1), .second, .val (.long o2), .second, .val (.int s1), .val (.int s2), .val (.int t7), .val (.int t8), .val (.ref p9), .val (.ref p10), .val (.int z11), .val (.long off), .second, .val (.int z14), .val (.int k15), .unset, .unset, .unset, .unset] [])) _
      refine st15 _ ?_
      show Steps p.tables e below (T15.setTop (mkF m 118 #[.val (.int sel), .val (.long o1), .second, .val (.long o2), .second, .val (.int s1), .val (.int s2), .val (.int t7), .val (.int t8), .val (.ref p9), .val (.ref p10), .val (.int z11), .val (.long off), .second, .val (.int z14), .val (.int k15), .unset, .unset, .unset, .unset] [(.ref b15)])) _
      refine XS.dup X15.here hx rfl (hb hby at_118) rfl rfl ?_
      show Steps p.tables e below (T15.setTop (mkF m 119 #[.val (.int sel), .val (.long o1), .second, .val (.long o2), .second, .val (.int s1), .val (.int s2), .val (.int t7), .val (.int t8), .val (.ref p9), .val (.ref p10), .val (.int z11), .val (.long off), .second, .val (.int z14), .val (.int k15), .unset, .unset, .unset, .unset] [(.ref b15), (.ref b15)])) _
      refine XS.aload X15.here hx rfl (hb hby at_119) rfl rfl ?_
      show Steps p.tables e below (T15.setTop (mkF m 121 #[.val (.int sel), .val (.long o1), .second, .val (.long o2), .second, .val (.int s1), .val (.int s2), .val (.int t7), .val (.int t8), .val (.ref p9), .val (.ref p10), .val (.int z11), .val (.long off), .second, .val (.int z14), .val (.int k15), .unset, .unset, .unset, .unset] [(.ref p9), (.ref b15), (.ref b15)])) _
      refine XS.lloadN X15.here hx rfl (hb hby at_121) rfl ?_
      show Steps p.tables e below (T15.setTop (mkF m 122 #[.val (.int sel), .val (.long o1), .second, .val (.long o2), .second, .val (.int s1), .val (.int s2), .val (.int t7), .val (.int t8), .val (.ref p9), .val (.ref p10), .val (.int z11), .val (.long off), .second, .val (.int z14), .val (.int k15), .unset, .unset, .unset, .unset] [(.long o1), (.ref p9), (.ref b15), (.ref b15)])) _
      refine XS.iload X15.here hx rfl (hb hby at_122) rfl ?_
      show Steps p.tables e below (T15.setTop (mkF m 124 #[.val (.int sel), .val (.long o1), .second, .val (.long o2), .second, .val (.int s1), .val (.int s2), .val (.int t7), .val (.int t8), .val (.ref p9), .val (.ref p10), .val (.int z11), .val (.long off), .second, .val (.int z14), .val (.int k15), .unset, .unset, .unset, .unset] [(.int z11), (.long o1), (.ref p9), (.ref b15), (.ref b15)])) _
      refine st16.trans ?_
      show Steps p.tables e below (T16.setTop (mkF m 127 #[.val (.int sel), .val (.long o1), .second, .val (.long o2), .second, .val (.int s1), .val (.int s2), .val (.int t7), .val (.int t8), .val (.ref p9), .val (.ref p10), .val (.int z11), .val (.long off), .second, .val (.int z14), .val (.int k15), .unset, .unset, .unset, .unset] [(.ref b15)])) _
      refine XS.astore X16.here hx rfl (hb hby at_127) rfl rfl (l' := #[.val (.int sel), .val (.long o1), .second, .val (.long o2), .second, .val (.int s1), .val (.int s2), .val (.int t7), .val (.int t8), .val (.ref p9), .val (.ref p10), .val (.int z11), .val (.long off), .second, .val (.int z14), .val (.int k15), .val (.ref b15), .unset, .unset, .unset]) rfl ?_
      show Steps p.tables e below (T16.setTop (mkF m 129 #[.val (.int sel), .val (.long o1), .second, .val (.long o2), .second, .val (.int s1), .val (.int s2), .val (.int t7), .val (.int t8), .val (.ref p9), .val (.ref p10), .val (.int z11), .val (.long off), .second, .val (.int z14), .val (.int k15), .val (.ref b15), .unset, .unset, .unset] [])) _
      refine st17 _ ?_
      show Steps p.tables e below (T17.setTop (mkF m 132 #[.val (.int sel), .val (.long o1), .second, .val (.long o2), .second, .val (.int s1), .val (.int s2), .val (.int t7), .val (.int t8), .val (.ref p9), .val (.ref p10), .val (.int z11), .val (.long off), .second, .val (.int z14), .val (.int k15), .val (.ref b15), .unset, .unset, .unset] [(.ref b17)])) _
      refine XS.dup X17.here hx rfl (hb hby at_132) rfl rfl ?_
      show Steps p.tables e below (T17.setTop (mkF m 133 #[.val (.int sel), .val (.long o1), .second, .val (.long o2), .second, .val (.int s1), .val (.int s2), .val (.int t7), .val (.int t8), .val (.ref p9), .val (.ref p10), .val (.int z11), .val (.long off), .second, .val (.int z14), .val (.int k15), .val (.ref b15), .unset, .unset, .unset] [(.ref b17), (.ref b17)])) _
      refine XS.aload X17.here hx rfl (hb hby at_133) rfl rfl ?_
      show Steps p.tables e below (T17.setTop (mkF m 135 #[.val (.int sel), .val (.long o1), .second, .val (.long o2), .second, .val (.int s1), .val (.int s2), .val (.int t7), .val (.int t8), .val (.ref p9), .val (.ref p10), .val (.int z11), .val (.long off), .second, .val (.int z14), .val (.int k15), .val (.ref b15), .unset, .unset, .unset] [(.ref p10), (.ref b17), (.ref b17)])) _
      refine XS.lload X17.here hx rfl (hb hby at_135) rfl ?_
      show Steps p.tables e below (T17.setTop (mkF m 137 #[.val (.int sel), .val (.long o1), .second, .val (.long o2), .second, .val (.int s1), .val (.int s2), .val (.int t7), .val (.int t8), .val (.ref p9), .val (.ref p10), .val (.int z11), .val (.long off), .second, .val (.int z14), .val (.int k15), .val (.ref b15), .unset, .unset, .unset] [(.long off), (.ref p10), (.ref b17), (.ref b17)])) _
      refine XS.iload X17.here hx rfl (hb hby at_137) rfl ?_
      show Steps p.tables e below (T17.setTop (mkF m 139 #[.val (.int sel), .val (.long o1), .second, .val (.long o2), .second, .val (.int s1), .val (.int s2), .val (.int t7), .val (.int t8), .val (.ref p9), .val (.ref p10), .val (.int z11), .val (.long off), .second, .val (.int z14), .val (.int k15), .val (.ref b15), .unset, .unset, .unset] [(.int z14), (.long off), (.ref p10), (.ref b17), (.ref b17)])) _
      refine st18.trans ?_
      show Steps p.tables e below (T18.setTop (mkF m 142 #[.val (.int sel), .val (.long o1), .second, .val (.long o2), .second, .val (.int s1), .val (.int s2), .val (.int t7), .val (.int t8), .val (.ref p9), .val (.ref p10), .val (.int z11), .val (.long off), .second, .val (.int z14), .val (.int k15), .val (.ref b15), .unset, .unset, .unset] [(.ref b17)])) _
      refine XS.astore X18.here hx rfl (hb hby at_142) rfl rfl (l' := #[.val (.int sel), .val (.long o1), .second, .val (.long o2), .second, .val (.int s1), .val (.int s2), .val (.int t7), .val (.int t8), .val (.ref p9), .val (.ref p10), .val (.int z11), .val (.long off), .second, .val (.int z14), .val (.int k15), .val (.ref b15), .val (.ref b17), .unset, .unset]) rfl ?_
      show Steps p.tables e below (T18.setTop (mkF m 144 #[.val (.int sel), .val (.long o1), .second, .val (.long o2), .second, .val (.int s1), .val (.int s2), .val (.int t7), .val (.int t8), .val (.ref p9), .val (.ref p10), .val (.int z11), .val (.long off), .second, .val (.int z14), .val (.int k15), .val (.ref b15), .val (.ref b17), .unset, .unset] [])) _
      refine XS.iload X18.here hx rfl (hb hby at_144) rfl ?_
      show Steps p.tables e below (T18.setTop (mkF m 146 #[.val (.int sel), .val (.long o1), .second, .val (.long o2), .second, .val (.int s1), .val (.int s2), .val (.int t7), .val (.int t8), .val (.ref p9), .val (.ref p10), .val (.int z11), .val (.long off), .second, .val (.int z14), .val (.int k15), .val (.ref b15), .val (.ref b17), .unset, .unset] [(.int k15)])) _
      refine XS.ifYes X18.here hx rfl (pc0 := 146) (pc' := 184) rfl (hb hby at_146) rfl ((if0 _ _).trans (feq (by rw [hk]; decide : ¬ (k15 = (0 : Int32)))).2) (by decide) (by decide) ?_
      show Steps p.tables e below (T18.setTop (mkF m 184 #[.val (.int sel), .val (.long o1), .second, .val (.long o2), .second, .val (.int s1), .val (.int s2), .val (.int t7), .val (.int t8), .val (.ref p9), .val (.ref p10), .val (.int z11), .val (.long off), .second, .val (.int z14), .val (.int k15), .val (.ref b15), .val (.ref b17), .unset, .unset] [])) _
      refine XS.iload X18.here hx rfl (hb hby at_184) rfl ?_
      show Steps p.tables e below (T18.setTop (mkF m 186 #[.val (.int sel), .val (.long o1), .second, .val (.long o2), .second, .val (.int s1), .val (.int s2), .val (.int t7), .val (.int t8), .val (.ref p9), .val (.ref p10), .val (.int z11), .val (.long off), .second, .val (.int z14), .val (.int k15), .val (.ref b15), .val (.ref b17), .unset, .unset] [(.int k15)])) _
      refine XS.iconst X18.here hx rfl (hb hby at_186) ?_
      show Steps p.tables e below (T18.setTop (mkF m 187 #[.val (.int sel), .val (.long o1), .second, .val (.long o2), .second, .val (.int s1), .val (.int s2), .val (.int t7), .val (.int t8), .val (.ref p9), .val (.ref p10), .val (.int z11), .val (.long off), .second, .val (.int z14), .val (.int k15), .val (.ref b15), .val (.ref b17), .unset, .unset] [(.int (1 : Int32)), (.int k15)])) _
      refine XS.icmpNo X18.here hx rfl (hb hby at_187) rfl (teq (hk : k15 = (1 : Int32))).2 ?_
      show Steps p.tables e below (T18.setTop (mkF m 190 #[.val (.int sel), .val (.long o1), .second, .val (.long o2), .second, .val (.int s1), .val (.int s2), .val (.int t7), .val (.int t8), .val (.ref p9), .val (.ref p10), .val (.int z11), .val (.long off), .second, .val (.int z14), .val (.int k15), .val (.ref b15), .val (.ref b17), .unset, .unset] [])) _
      refine XS.aconstNull X18.here hx rfl (hb hby at_190) ?_
      show Steps p.tables e below (T18.setTop (mkF m 191 #[.val (.int sel), .val (.long o1), .second, .val (.long o2), .second, .val (.int s1), .val (.int s2), .val (.int t7), .val (.int t8), .val (.ref p9), .val (.ref p10), .val (.int z11), .val (.long off), .second, .val (.int z14), .val (.int k15), .val (.ref b15), .val (.ref b17), .unset, .unset] [.null])) _
      refine XS.astore X18.here hx rfl (hb hby at_191) rfl rfl (l' := #[.val (.int sel), .val (.long o1), .second, .val (.long o2), .second, .val (.int s1), .val (.int s2), .val (.int t7), .val (.int t8), .val (.ref p9), .val (.ref p10), .val (.int z11), .val (.long off), .second, .val (.int z14), .val (.int k15), .val (.ref b15), .val (.ref b17), .val .null, .unset]) rfl ?_
      show Steps p.tables e below (T18.setTop (mkF m 193 #[.val (.int sel), .val (.long o1), .second, .val (.long o2), .second, .val (.int s1), .val (.int s2), .val (.int t7), .val (.int t8), .val (.ref p9), .val (.ref p10), .val (.int z11), .val (.long off), .second, .val (.int z14), .val (.int k15), .val (.ref b15), .val (.ref b17), .val .null, .unset] [])) _
      refine XS.iconst X18.here hx rfl (hb hby at_193) ?_
      show Steps p.tables e below (T18.setTop (mkF m 194 #[.val (.int sel), .val (.long o1), .second, .val (.long o2), .second, .val (.int s1), .val (.int s2), .val (.int t7), .val (.int t8), .val (.ref p9), .val (.ref p10), .val (.int z11), .val (.long off), .second, .val (.int z14), .val (.int k15), .val (.ref b15), .val (.ref b17), .val .null, .unset] [(.int (0 : Int32))])) _
      refine XS.istore X18.here hx rfl (hb hby at_194) rfl (l' := #[.val (.int sel), .val (.long o1), .second, .val (.long o2), .second, .val (.int s1), .val (.int s2), .val (.int t7), .val (.int t8), .val (.ref p9), .val (.ref p10), .val (.int z11), .val (.long off), .second, .val (.int z14), .val (.int k15), .val (.ref b15), .val (.ref b17), .val .null, .val (.int (0 : Int32))]) rfl ?_
      show Steps p.tables e below (T18.setTop (mkF m 196 #[.val (.int sel), .val (.long o1), .second, .val (.long o2), .second, .val (.int s1), .val (.int s2), .val (.int t7), .val (.int t8), .val (.ref p9), .val (.ref p10), .val (.int z11), .val (.long off), .second, .val (.int z14), .val (.int k15), .val (.ref b15), .val (.ref b17), .val .null, .val (.int (0 : Int32))] [])) _
      refine XS.goto X18.here hx rfl (pc0 := 196) (pc' := 222) rfl (hb hby at_196) (by decide) (by decide) ?_
      show Steps p.tables e below (T18.setTop (mkF m 222 #[.val (.int sel), .val (.long o1), .second, .val (.long o2), .second, .val (.int s1), .val (.int s2), .val (.int t7), .val (.int t8), .val (.ref p9), .val (.ref p10), .val (.int z11), .val (.long off), .second, .val (.int z14), .val (.int k15), .val (.ref b15), .val (.ref b17), .val .null, .val (.int (0 : Int32))] [])) _
      refine XS.aload X18.here hx rfl (hb hby at_222) rfl rfl ?_
      show Steps p.tables e below (T18.setTop (mkF m 224 #[.val (.int sel), .val (.long o1), .second, .val (.long o2), .second, .val (.int s1), .val (.int s2), .val (.int t7), .val (.int t8), .val (.ref p9), .val (.ref p10), .val (.int z11), .val (.long off), .second, .val (.int z14), .val (.int k15), .val (.ref b15), .val (.ref b17), .val .null, .val (.int (0 : Int32))] [(.ref b15)])) _
      refine XS.aload X18.here hx rfl (hb hby at_224) rfl rfl ?_
      show Steps p.tables e below (T18.setTop (mkF m 226 #[.val (.int sel), .val (.long o1), .second, .val (.long o2), .second, .val (.int s1), .val (.int s2), .val (.int t7), .val (.int t8), .val (.ref p9), .val (.ref p10), .val (.int z11), .val (.long off), .second, .val (.int z14), .val (.int k15), .val (.ref b15), .val (.ref b17), .val .null, .val (.int (0 : Int32))] [.null, (.ref b15)])) _
      refine st23.trans ?_
      show Steps p.tables e below (T23.setTop (mkF m 229 #[.val (.int sel), .val (.long o1), .second, .val (.long o2), .second, .val (.int s1), .val (.int s2), .val (.int t7), .val (.int t8), .val (.ref p9), .val (.ref p10), .val (.int z11), .val (.long off), .second, .val (.int z14), .val (.int k15), .val (.ref b15), .val (.ref b17), .val .null, .val (.int (0 : Int32))] [(.int (0 : Int32))])) _
      refine XS.iload X23.here hx rfl (hb hby at_229) rfl ?_
      show Steps p.tables e below (T23.setTop (mkF m 231 #[.val (.int sel), .val (.long o1), .second, .val (.long o2), .second, .val (.int s1), .val (.int s2), .val (.int t7), .val (.int t8), .val (.ref p9), .val (.ref p10), .val (.int z11), .val (.long off), .second, .val (.int z14), .val (.int k15), .val (.ref b15), .val (.ref b17), .val .null, .val (.int (0 : Int32))] [(.int (0 : Int32)), (.int (0 : Int32))])) _
      refine XS.icmpNo X23.here hx rfl (hb hby at_231) rfl (teq (rfl : (0 : Int32) = (0 : Int32))).2 ?_
      show Steps p.tables e below (T23.setTop (mkF m 234 #[.val (.int sel), .val (.long o1), .second, .val (.long o2), .second, .val (.int s1), .val (.int s2), .val (.int t7), .val (.int t8), .val (.ref p9), .val (.ref p10), .val (.int z11), .val (.long off), .second, .val (.int z14), .val (.int k15), .val (.ref b15), .val (.ref b17), .val .null, .val (.int (0 : Int32))] [])) _
      refine XS.iconst X23.here hx rfl (hb hby at_234) ?_
      show Steps p.tables e below (T23.setTop (mkF m 235 #[.val (.int sel), .val (.long o1), .second, .val (.long o2), .second, .val (.int s1), .val (.int s2), .val (.int t7), .val (.int t8), .val (.ref p9), .val (.ref p10), .val (.int z11), .val (.long off), .second, .val (.int z14), .val (.int k15), .val (.ref b15), .val (.ref b17), .val .null, .val (.int (0 : Int32))] [(.int (1 : Int32))])) _
      refine XS.goto X23.here hx rfl (pc0 := 235) (pc' := 239) rfl (hb hby at_235) (by decide) (by decide) ?_
      show Steps p.tables e below (T23.setTop (mkF m 239 #[.val (.int sel), .val (.long o1), .second, .val (.long o2), .second, .val (.int s1), .val (.int s2), .val (.int t7), .val (.int t8), .val (.ref p9), .val (.ref p10), .val (.int z11), .val (.long off), .second, .val (.int z14), .val (.int k15), .val (.ref b15), .val (.ref b17), .val .null, .val (.int (0 : Int32))] [(.int (1 : Int32))])) _
      exact retN X23 hx (t := .boolean) Bd.returns (by simp) (hb hby at_239) hr
    · show own_QL n0 _ T23.heap _
      exact ⟨rfl, N23⟩
  · obtain ⟨cq24, kq24, q24a, q24b, q24c⟩ := isOf hZ (rfl : T18.heap = _) E18_b15
    obtain ⟨_, _, ⟨T24, L24, kc24, nc24⟩, -, X24, ⟨Lc24, hQ24, ql24, qy24, qz24⟩, st24⟩ := X18.virtualBack hx (y := (⟨"com/example/tablewright/tablewright/model/Varnode", "equals", "(Ljava/lang/Object;)Z"⟩ : MethodName)) (z := (⟨"com/example/tablewright/tablewright/model/Varnode", "equals", "(Ljava/lang/Object;)Z"⟩ : MethodName)) hown (mvT hZ (hw _ (List.mem_of_getElem? (i := 23) rfl))) (mvT hZ (hw _ (List.mem_of_getElem? (i := 24) rfl))) (notFace_of_selects (args := #[]) (mvT hZ (hw _ (List.mem_of_getElem? (i := 26) rfl)))) (mvT hZ (hw _ (List.mem_of_getElem? (i := 26) rfl))) (mvT hZ (hw _ (List.mem_of_getElem? (i := 25) rfl))) (by decide) (backOf (W := 0) (own_rmo l Z a0 hw [] b15 p9 T18.heap n0 Zn18 E18_p9) hZ (hw _ (List.mem_of_getElem? (i := 27) rfl)) (hw _ (List.mem_of_getElem? (i := 10) rfl)) (by decide) (by decide)) q24a q24c (g := (mkF m 226 #[.val (.int sel), .val (.long o1), .second, .val (.long o2), .second, .val (.int s1), .val (.int s2), .val (.int t7), .val (.int t8), .val (.ref p9), .val (.ref p10), .val (.int z11), .val (.long off), .second, .val (.int z14), .val (.int k15), .val (.ref b15), .val (.ref b17), .val (.ref p9), .val (.int (0 : Int32))] [(.ref p9), (.ref b15)])) rfl (by rw [hml]; rfl) (Steps.refl _) (argsL := [(.ref p9)]) (rest := []) (lenOf own_pd2 rfl) rfl (by show 2 * 0 + _ ≤ _; exact Nat.le_of_eq rfl) (hb hby at_226) (fun _ _ => ⟨rfl, (rfl : T18.heap = _), (by decide : 2 + 0 ≤ _), (by decide : 6 + 0 ≤ _)⟩)
    dsimp only [Pt.U, Pt.locs, Pt.cells, Pt.slots] at X24 ql24 qy24 qz24 st24 hQ24
    subst ql24 qy24 qz24
    obtain ⟨rfl, Nq24, eq24⟩ := hQ24
    have N24 := Fr.app N18 Nq24
    obtain ⟨fs, hr, hrun, hended, hW, hsame⟩ := X24.leave (v := some (.int (1 : Int32))) (fun h => by rw [Bd.returns] at h; cases h)
    refine ⟨_, _, pre0 _ ?_, hrun, hended, _, _, rfl, ?_, ⟨_, rfl⟩, hW, hsame.mono (by decide) (by decide)⟩
    · show Steps p.tables e below (s₁.setTop (mkF m 0 #[.val (.int sel), .val (.long o1), .second, .val (.long o2), .second, .val (.int s1), .val (.int s2), .unset, .unset, .unset, .unset, .unset, .unset, .unset, .unset, .unset, .unset, .unset, .unset, .unset] [])) _
      refine st1 _ ?_
      show Steps p.tables e below (T1.setTop (mkF m 13 #[.val (.int sel), .val (.long o1), .second, .val (.long o2), .second, .val (.int s1), .val (.int s2), .val (.int t7), .unset, .unset, .unset, .unset, .unset, .unset, .unset, .unset, .unset, .unset, .unset, .unset] [])) _
      refine st2 _ ?_
      show Steps p.tables e below (T2.setTop (mkF m 26 #[.val (.int sel), .val (.long o1), .second, .val (.long o2), .second, .val (.int s1), .val (.int s2), .val (.int t7), .val (.int t8), .unset, .unset, .unset, .unset, .unset, .unset, .unset, .unset, .unset, .unset, .unset] [])) _
      refine st3 _ ?_
      show Steps p.tables e below (T3.setTop (mkF m 42 #[.val (.int sel), .val (.long o1), .second, .val (.long o2), .second, .val (.int s1), .val (.int s2), .val (.int t7), .val (.int t8), .val (.ref p9), .unset, .unset, .unset, .unset, .unset, .unset, .unset, .unset, .unset, .unset] [])) _
      refine st6 _ ?_
      show Steps p.tables e below (T6.setTop (mkF m 58 #[.val (.int sel), .val (.long o1), .second, .val (.long o2), .second, .val (.int s1), .val (.int s2), .val (.int t7), .val (.int t8), .val (.ref p9), .val (.ref p10), .unset, .unset, .unset, .unset, .unset, .unset, .unset, .unset, .unset] [])) _
      refine st9 _ ?_
      show Steps p.tables e below (T9.setTop (mkF m 69 #[.val (.int sel), .val (.long o1), .second, .val (.long o2), .second, .val (.int s1), .val (.int s2), .val (.int t7), .val (.int t8), .val (.ref p9), .val (.ref p10), .val (.int z11), .unset, .unset, .unset, .unset, .unset, .unset, .unset, .unset] [])) _
      refine st11 _ ?_
      show Steps p.tables e below (T11.setTop (mkF m 84 #[.val (.int sel), .val (.long o1), .second, .val (.long o2), .second, .val (.int s1), .val (.int s2), .val (.int t7), .val (.int t8), .val (.ref p9), .val (.ref p10), .val (.int z11), .val (.long off), .second, .unset, .unset, .unset, .unset, .unset, .unset] [])) _
      refine st12 _ ?_
      show Steps p.tables e below (T12.setTop (mkF m 108 #[.val (.int sel), .val (.long o1), .second, .val (.long o2), .second, .val (.int s1), .val (.int s2), .val (.int t7), .val (.int t8), .val (.ref p9), .val (.ref p10), .val (.int z11), .val (.long off), .second, .val (.int z14), .unset, .unset, .unset, .unset, .unset] [])) _
      refine st14 _ ?_
      show Steps p.tables e below (T14.setTop (mkF m 115 #[.val (.int sel), .val (.long o1), .second, .val (.long o2), .second, .val (.int s1), .val (.int s2), .val (.int t7), .val (.int t8), .val (.ref p9), .val (.ref p10), .val (.int z11), .val (.long off), .second, .val (.int z14), .val (.int k15), .unset, .unset, .unset, .unset] [])) _
      refine st15 _ ?_
      show Steps p.tables e below (T15.setTop (mkF m 118 #[.val (.int sel), .val (.long o1), .second, .val (.long o2), .second, .val (.int s1), .val (.int s2), .val (.int t7), .val (.int t8), .val (.ref p9), .val (.ref p10), .val (.int z11), .val (.long off), .second, .val (.int z14), .val (.int k15), .unset, .unset, .unset, .unset] [(.ref b15)])) _
      refine XS.dup X15.here hx rfl (hb hby at_118) rfl rfl ?_
      show Steps p.tables e below (T15.setTop (mkF m 119 #[.val (.int sel), .val (.long o1), .second, .val (.long o2), .second, .val (.int s1), .val (.int s2), .val (.int t7), .val (.int t8), .val (.ref p9), .val (.ref p10), .val (.int z11), .val (.long off), .second, .val (.int z14), .val (.int k15), .unset, .unset, .unset, .unset] [(.ref b15), (.ref b15)])) _
      refine XS.aload X15.here hx rfl (hb hby at_119) rfl rfl ?_
      show Steps p.tables e below (T15.setTop (mkF m 121 #[.val (.int sel), .val (.long o1), .second, .val (.long o2), .second, .val (.int s1), .val (.int s2), .val (.int t7), .val (.int t8), .val (.ref p9), .val (.ref p10), .val (.int z11), .val (.long off), .second, .val (.int z14), .val (.int k15), .unset, .unset, .unset, .unset] [(.ref p9), (.ref b15), (.ref b15)])) _
      refine XS.lloadN X15.here hx rfl (hb hby at_121) rfl ?_
      show Steps p.tables e below (T15.setTop (mkF m 122 #[.val (.int sel), .val (.long o1), .second, .val (.long o2), .second, .val (.int s1), .val (.int s2), .val (.int t7), .val (.int t8), .val (.ref p9), .val (.ref p10), .val (.int z11), .val (.long off), .second, .val (.int z14), .val (.int k15), .unset, .unset, .unset, .unset] [(.long o1), (.ref p9), (.ref b15), (.ref b15)])) _
      refine XS.iload X15.here hx rfl (hb hby at_122) rfl ?_
      show Steps p.tables e below (T15.setTop (mkF m 124 #[.val (.int sel), .val (.long o1), .second, .val (.long o2), .second, .val (.int s1), .val (.int s2), .val (.int t7), .val (.int t8), .val (.ref p9), .val (.ref p10), .val (.int z11), .val (.long off), .second, .val (.int z14), .val (.int k15), .unset, .unset, .unset, .unset] [(.int z11), (.long o1), (.ref p9), (.ref b15), (.ref b15)])) _
      refine st16.trans ?_
      show Steps p.tables e below (T16.setTop (mkF m 127 #[.val (.int sel), .val (.long o1), .second, .val (.long o2), .second, .val (.int s1), .val (.int s2), .val (.int t7), .val (.int t8), .val (.ref p9), .val (.ref p10), .val (.int z11), .val (.long off), .second, .val (.int z14), .val (.int k15), .unset, .unset, .unset, .unset] [(.ref b15)])) _
      refine XS.astore X16.here hx rfl (hb hby at_127) rfl rfl (l' := #[.val (.int sel), .val (.long o1), .second, .val (.long o2), .second, .val (.int s1), .val (.int s2), .val (.int t7), .val (.int t8), .val (.ref p9), .val (.ref p10), .val (.int z11), .val (.long off), .second, .val (.int z14), .val (.int k15), .val (.ref b15), .unset, .unset, .unset]) rfl ?_
      show Steps p.tables e below (T16.setTop (mkF m 129 #[.val (.int sel), .val (.long o1), .second, .val (.long o2), .second, .val (.int s1), .val (.int s2), .val (.int t7), .val (.int t8), .val (.ref p9), .val (.ref p10), .val (.int z11), .val (.long off), .second, .val (.int z14), .val (.int k15), .val (.ref b15), .unset, .unset, .unset] [])) _
      refine st17 _ ?_
      show Steps p.tables e below (T17.setTop (mkF m 132 #[.val (.int sel), .val (.long o1), .second, .val (.long o2), .second, .val (.int s1), .val (.int s2), .val (.int t7), .val (.int t8), .val (.ref p9), .val (.ref p10), .val (.int z11), .val (.long off), .second, .val (.int z14), .val (.int k15), .val (.ref b15), .unset, .unset, .unset] [(.ref b17)])) _
      refine XS.dup X17.here hx rfl (hb hby at_132) rfl rfl ?_
      show Steps p.tables e below (T17.setTop (mkF m 133 #[.val (.int sel), .val (.long o1), .second, .val (.long o2), .second, .val (.int s1), .val (.int s2), .val (.int t7), .val (.int t8), .val (.ref p9), .val (.ref p10), .val (.int z11), .val (.long off), .second, .val (.int z14), .val (.int k15), .val (.ref b15), .unset, .unset, .unset] [(.ref b17), (.ref b17)])) _
      refine XS.aload X17.here hx rfl (hb hby at_133) rfl rfl ?_
      show Steps p.tables e below (T17.setTop (mkF m 135 #[.val (.int sel), .val (.long o1), .second, .val (.long o2), .second, .val (.int s1), .val (.int s2), .val (.int t7), .val (.int t8), .val (.ref p9), .val (.ref p10), .val (.int z11), .val (.long off), .second, .val (.int z14), .val (.int k15), .val (.ref b15), .unset, .unset, .unset] [(.ref p10), (.ref b17), (.ref b17)])) _
      refine XS.lload X17.here hx rfl (hb hby at_135) rfl ?_
      show Steps p.tables e below (T17.setTop (mkF m 137 #[.val (.int sel), .val (.long o1), .second, .val (.long o2), .second, .val (.int s1), .val (.int s2), .val (.int t7), .val (.int t8), .val (.ref p9), .val (.ref p10), .val (.int z11), .val (.long off), .second, .val (.int z14), .val (.int k15), .val (.ref b15), .unset, .unset, .unset] [(.long off), (.ref p10), (.ref b17), (.ref b17)])) _
      refine XS.iload X17.here hx rfl (hb hby at_137) rfl ?_
      show Steps p.tables e below (T17.setTop (mkF m 139 #[.val (.int sel), .val (.long o1), .second, .val (.long o2), .second, .val (.int s1), .val (.int s2), .val (.int t7), .val (.int t8), .val (.ref p9), .val (.ref p10), .val (.int z11), .val (.long off), .second, .val (.int z14), .val (.int k15), .val (.ref b15), .unset, .unset, .unset] [(.int z14), (.long off), (.ref p10), (.ref b17), (.ref b17)])) _
      refine st18.trans ?_
      show Steps p.tables e below (T18.setTop (mkF m 142 #[.val (.int sel), .val (.long o1), .second, .val (.long o2), .second, .val (.int s1), .val (.int s2), .val (.int t7), .val (.int t8), .val (.ref p9), .val (.ref p10), .val (.int z11), .val (.long off), .second, .val (.int z14), .val (.int k15), .val (.ref b15), .unset, .unset, .unset] [(.ref b17)])) _
      refine XS.astore X18.here hx rfl (hb hby at_142) rfl rfl (l' := #[.val (.int sel), .val (.long o1), .second, .val (.long o2), .second, .val (.int s1), .val (.int s2), .val (.int t7), .val (.int t8), .val (.ref p9), .val (.ref p10), .val (.int z11), .val (.long off), .second, .val (.int z14), .val (.int k15), .val (.ref b15), .val (.ref b17), .unset, .unset]) rfl ?_
      show Steps p.tables e below (T18.setTop (mkF m 144 #[.val (.int sel), .val (.long o1), .second, .val (.long o2), .second, .val (.int s1), .val (.int s2), .val (.int t7), .val (.int t8), .val (.ref p9), .val (.ref p10), .val (.int z11), .val (.long off), .second, .val (.int z14), .val (.int k15), .val (.ref b15), .val (.ref b17), .unset, .unset] [])) _
      refine XS.iload X18.here hx rfl (hb hby at_144) rfl ?_
      show Steps p.tables e below (T18.setTop (mkF m 146 #[.val (.int sel), .val (.long o1), .second, .val (.long o2), .second, .val (.int s1), .val (.int s2), .val (.int t7), .val (.int t8), .val (.ref p9), .val (.ref p10), .val (.int z11), .val (.long off), .second, .val (.int z14), .val (.int k15), .val (.ref b15), .val (.ref b17), .unset, .unset] [(.int k15)])) _
      refine XS.ifYes X18.here hx rfl (pc0 := 146) (pc' := 184) rfl (hb hby at_146) rfl ((if0 _ _).trans (feq (by rw [hk]; decide : ¬ (k15 = (0 : Int32)))).2) (by decide) (by decide) ?_
      show Steps p.tables e below (T18.setTop (mkF m 184 #[.val (.int sel), .val (.long o1), .second, .val (.long o2), .second, .val (.int s1), .val (.int s2), .val (.int t7), .val (.int t8), .val (.ref p9), .val (.ref p10), .val (.int z11), .val (.long off), .second, .val (.int z14), .val (.int k15), .val (.ref b15), .val (.ref b17), .unset, .unset] [])) _
      refine XS.iload X18.here hx rfl (hb hby at_184) rfl ?_
      show Steps p.tables e below (T18.setTop (mkF m 186 #[.val (.int sel), .val (.long o1), .second, .val (.long o2), .second, .val (.int s1), .val (.int s2), .val (.int t7), .val (.int t8), .val (.ref p9), .val (.ref p10), .val (.int z11), .val (.long off), .second, .val (.int z14), .val (.int k15), .val (.ref b15), .val (.ref b17), .unset, .unset] [(.int k15)])) _
      refine XS.iconst X18.here hx rfl (hb hby at_186) ?_
      show Steps p.tables e below (T18.setTop (mkF m 187 #[.val (.int sel), .val (.long o1), .second, .val (.long o2), .second, .val (.int s1), .val (.int s2), .val (.int t7), .val (.int t8), .val (.ref p9), .val (.ref p10), .val (.int z11), .val (.long off), .second, .val (.int z14), .val (.int k15), .val (.ref b15), .val (.ref b17), .unset, .unset] [(.int (1 : Int32)), (.int k15)])) _
      refine XS.icmpYes X18.here hx rfl (pc0 := 187) (pc' := 199) rfl (hb hby at_187) rfl (feq (by rw [hk]; decide : ¬ (k15 = (1 : Int32)))).2 (by decide) (by decide) ?_
      show Steps p.tables e below (T18.setTop (mkF m 199 #[.val (.int sel), .val (.long o1), .second, .val (.long o2), .second, .val (.int s1), .val (.int s2), .val (.int t7), .val (.int t8), .val (.ref p9), .val (.ref p10), .val (.int z11), .val (.long off), .second, .val (.int z14), .val (.int k15), .val (.ref b15), .val (.ref b17), .unset, .unset] [])) _
      refine XS.iload X18.here hx rfl (hb hby at_199) rfl ?_
      show Steps p.tables e below (T18.setTop (mkF m 201 #[.val (.int sel), .val (.long o1), .second, .val (.long o2), .second, .val (.int s1), .val (.int s2), .val (.int t7), .val (.int t8), .val (.ref p9), .val (.ref p10), .val (.int z11), .val (.long off), .second, .val (.int z14), .val (.int k15), .val (.ref b15), .val (.ref b17), .unset, .unset] [(.int k15)])) _
      refine XS.iconst X18.here hx rfl (hb hby at_201) ?_
      show Steps p.tables e below (T18.setTop (mkF m 202 #[.val (.int sel), .val (.long o1), .second, .val (.long o2), .second, .val (.int s1), .val (.int s2), .val (.int t7), .val (.int t8), .val (.ref p9), .val (.ref p10), .val (.int z11), .val (.long off), .second, .val (.int z14), .val (.int k15), .val (.ref b15), .val (.ref b17), .unset, .unset] [(.int (2 : Int32)), (.int k15)])) _
      refine XS.icmpNo X18.here hx rfl (hb hby at_202) rfl (teq (hk : k15 = (2 : Int32))).2 ?_
      show Steps p.tables e below (T18.setTop (mkF m 205 #[.val (.int sel), .val (.long o1), .second, .val (.long o2), .second, .val (.int s1), .val (.int s2), .val (.int t7), .val (.int t8), .val (.ref p9), .val (.ref p10), .val (.int z11), .val (.long off), .second, .val (.int z14), .val (.int k15), .val (.ref b15), .val (.ref b17), .unset, .unset] [])) _
      refine XS.aload X18.here hx rfl (hb hby at_205) rfl rfl ?_
      show Steps p.tables e below (T18.setTop (mkF m 207 #[.val (.int sel), .val (.long o1), .second, .val (.long o2), .second, .val (.int s1), .val (.int s2), .val (.int t7), .val (.int t8), .val (.ref p9), .val (.ref p10), .val (.int z11), .val (.long off), .second, .val (.int z14), .val (.int k15), .val (.ref b15), .val (.ref b17), .unset, .unset] [(.ref p9)])) _
      refine XS.astore X18.here hx rfl (hb hby at_207) rfl rfl (l' := #[.val (.int sel), .val (.long o1), .second, .val (.long o2), .second, .val (.int s1), .val (.int s2), .val (.int t7), .val (.int t8), .val (.ref p9), .val (.ref p10), .val (.int z11), .val (.long off), .second, .val (.int z14), .val (.int k15), .val (.ref b15), .val (.ref b17), .val (.ref p9), .unset]) rfl ?_
      show Steps p.tables e below (T18.setTop (mkF m 209 #[.val (.int sel), .val (.long o1), .second, .val (.long o2), .second, .val (.int s1), .val (.int s2), .val (.int t7), .val (.int t8), .val (.ref p9), .val (.ref p10), .val (.int z11), .val (.long off), .second, .val (.int z14), .val (.int k15), .val (.ref b15), .val (.ref b17), .val (.ref p9), .unset] [])) _
      refine XS.iconst X18.here hx rfl (hb hby at_209) ?_
      show Steps p.tables e below (T18.setTop (mkF m 210 #[.val (.int sel), .val (.long o1), .second, .val (.long o2), .second, .val (.int s1), .val (.int s2), .val (.int t7), .val (.int t8), .val (.ref p9), .val (.ref p10), .val (.int z11), .val (.long off), .second, .val (.int z14), .val (.int k15), .val (.ref b15), .val (.ref b17), .val (.ref p9), .unset] [(.int (0 : Int32))])) _
      refine XS.istore X18.here hx rfl (hb hby at_210) rfl (l' := #[.val (.int sel), .val (.long o1), .second, .val (.long o2), .second, .val (.int s1), .val (.int s2), .val (.int t7), .val (.int t8), .val (.ref p9), .val (.ref p10), .val (.int z11), .val (.long off), .second, .val (.int z14), .val (.int k15), .val (.ref b15), .val (.ref b17), .val (.ref p9), .val (.int (0 : Int32))]) rfl ?_
      show Steps p.tables e below (T18.setTop (mkF m 212 #[.val (.int sel), .val (.long o1), .second, .val (.long o2), .second, .val (.int s1), .val (.int s2), .val (.int t7), .val (.int t8), .val (.ref p9), .val (.ref p10), .val (.int z11), .val (.long off), .second, .val (.int z14), .val (.int k15), .val (.ref b15), .val (.ref b17), .val (.ref p9), .val (.int (0 : Int32))] [])) _
      refine XS.goto X18.here hx rfl (pc0 := 212) (pc' := 222) rfl (hb hby at_212) (by decide) (by decide) ?_
      show Steps p.tables e below (T18.setTop (mkF m 222 #[.val (.int sel), .val (.long o1), .second, .val (.long o2), .second, .val (.int s1), .val (.int s2), .val (.int t7), .val (.int t8), .val (.ref p9), .val (.ref p10), .val (.int z11), .val (.long off), .second, .val (.int z14), .val (.int k15), .val (.ref b15), .val (.ref b17), .val (.ref p9), .val (.int (0 : Int32))] [])) _
      refine XS.aload X18.here hx rfl (hb hby at_222) rfl rfl ?_
      show Steps p.tables e below (T18.setTop (mkF m 224 #[.val (.int sel), .val (.long o1), .second, .val (.long o2), .second, .val (.int s1), .val (.int s2), .val (.int t7), .val (.int t8), .val (.ref p9), .val (.ref p10), .val (.int z11), .val (.long off), .second, .val (.int z14), .val (.int k15), .val (.ref b15), .val (.ref b17), .val (.ref p9), .val (.int (0 : Int32))] [(.ref b15)])) _
      refine XS.aload X18.here hx rfl (hb hby at_224) rfl rfl ?_
      show Steps p.tables e below (T18.setTop (mkF m 226 #[.val (.int sel), .val (.long o1), .second, .val (.long o2), .second, .val (.int s1), .val (.int s2), .val (.int t7), .val (.int t8), .val (.ref p9), .val (.ref p10), .val (.int z11), .val (.long off), .second, .val (.int z14), .val (.int k15), .val (.ref b15), .val (.ref b17), .val (.ref p9), .val (.int (0 : Int32))] [(.ref p9), (.ref b15)])) _
      refine st24.trans ?_
      show Steps p.tables e below (T24.setTop (mkF m 229 #[.val (.int sel), .val (.long o1), .second, .val (.long o2), .second, .val (.int s1), .val (.int s2), .val (.int t7), .val (.int t8), .val (.ref p9), .val (.ref p10), .val (.int z11), .val (.long off), .second, .val (.int z14), .val (.int k15), .val (.ref b15), .val (.ref b17), .val (.ref p9), .val (.int (0 : Int32))] [(.int (0 : Int32))])) _
      refine XS.iload X24.here hx rfl (hb hby at_229) rfl ?_
      show Steps p.tables e below (T24.setTop (mkF m 231 #[.val (.int sel), .val (.long o1), .second, .val (.long o2), .second, .val (.int s1), .val (.int s2), .val (.int t7), .val (.int t8), .val (.ref p9), .val (.ref p10), .val (.int z11), .val (.long off), .second, .val (.int z14), .val (.int k15), .val (.ref b15), .val (.ref b17), .val (.ref p9), .val (.int (0 : Int32))] [(.int (0 : Int32)), (.int (0 : Int32))])) _
      refine XS.icmpNo X24.here hx rfl (hb hby at_231) rfl (teq (rfl : (0 : Int32) = (0 : Int32))).2 ?_
      show Steps p.tables e below (T24.setTop (mkF m 234 #[.val (.int sel), .val (.long o1), .second, .val (.long o2), .second, .val (.int s1), .val (.int s2), .val (.int t7), .val (.int t8), .val (.ref p9), .val (.ref p10), .val (.int z11), .val (.long off), .second, .val (.int z14), .val (.int k15), .val (.ref b15), .val (.ref b17), .val (.ref p9), .val (.int (0 : Int32))] [])) _
      refine XS.iconst X24.here hx rfl (hb hby at_234) ?_
      show Steps p.tables e below (T24.setTop (mkF m 235 #[.val (.int sel), .val (.long o1), .second, .val (.long o2), .second, .val (.int s1), .val (.int s2), .val (.int t7), .val (.int t8), .val (.ref p9), .val (.ref p10), .val (.int z11), .val (.long off), .second, .val (.int z14), .val (.int k15), .val (.ref b15), .val (.ref b17), .val (.ref p9), .val (.int (0 : Int32))] [(.int (1 : Int32))])) _
      refine XS.goto X24.here hx rfl (pc0 := 235) (pc' := 239) rfl (hb hby at_235) (by decide) (by decide) ?_
      show Steps p.tables e below (T24.setTop (mkF m 239 #[.val (.int sel), .val (.long o1), .second, .val (.long o2), .second, .val (.int s1), .val (.int s2), .val (.int t7), .val (.int t8), .val (.ref p9), .val (.ref p10), .val (.int z11), .val (.long off), .second, .val (.int z14), .val (.int k15), .val (.ref b15), .val (.ref b17), .val (.ref p9), .val (.int (0 : Int32))] [(.int (1 : Int32))])) _
      exact retN X24 hx (t := .boolean) Bd.returns (by simp) (hb hby at_239) hr
    · show own_QL n0 _ T24.heap _
      exact ⟨rfl, N24⟩
  · obtain ⟨cq25, kq25, q25a, q25b, q25c⟩ := isOf hZ (rfl : T18.heap = _) E18_b15
    obtain ⟨_, _, ⟨T25, L25, kc25, nc25⟩, -, X25, ⟨Lc25, hQ25, ql25, qy25, qz25⟩, st25⟩ := X18.virtualBack hx (y := (⟨"com/example/tablewright/tablewright/model/Varnode", "equals", "(Ljava/lang/Object;)Z"⟩ : MethodName)) (z := (⟨"com/example/tablewright/tablewright/model/Varnode", "equals", "(Ljava/lang/Object;)Z"⟩ : MethodName)) hown (mvT hZ (hw _ (List.mem_of_getElem? (i := 23) rfl))) (mvT hZ (hw _ (List.mem_of_getElem? (i := 24) rfl))) (notFace_of_selects (args := #[]) (mvT hZ (hw _ (List.mem_of_getElem? (i := 26) rfl)))) (mvT hZ (hw _ (List.mem_of_getElem? (i := 26) rfl))) (mvT hZ (hw _ (List.mem_of_getElem? (i := 25) rfl))) (by decide) (backOf (W := 0) (own_rme l Z a0 hw [] b15 b15 p9 p9 o1 o1 z11 z11 T18.heap n0 Zn18 E18_b15 F18_b15_space F18_b15_offset F18_b15_size F18_b15_space F18_b15_offset F18_b15_size) hZ (hw _ (List.mem_of_getElem? (i := 27) rfl)) (hw _ (List.mem_of_getElem? (i := 10) rfl)) (by decide) (by decide)) q25a q25c (g := (mkF m 226 #[.val (.int sel), .val (.long o1), .second, .val (.long o2), .second, .val (.int s1), .val (.int s2), .val (.int t7), .val (.int t8), .val (.ref p9), .val (.ref p10), .val (.int z11), .val (.long off), .second, .val (.int z14), .val (.int k15), .val (.ref b15), .val (.ref b17), .val (.ref b15), .val (.int (1 : Int32))] [(.ref b15), (.ref b15)])) rfl (by rw [hml]; rfl) (Steps.refl _) (argsL := [(.ref b15)]) (rest := []) (lenOf own_pd2 rfl) rfl (by show 2 * 0 + _ ≤ _; exact Nat.le_of_eq rfl) (hb hby at_226) (fun _ _ => ⟨rfl, (rfl : T18.heap = _), (by decide : 2 + 0 ≤ _), (by decide : 6 + 0 ≤ _)⟩)
    dsimp only [Pt.U, Pt.locs, Pt.cells, Pt.slots] at X25 ql25 qy25 qz25 st25 hQ25
    subst ql25 qy25 qz25
    obtain ⟨rfl, Nq25, eq25⟩ := hQ25
    have N25 := Fr.app N18 Nq25
    obtain ⟨fs, hr, hrun, hended, hW, hsame⟩ := X25.leave (v := some (.int (1 : Int32))) (fun h => by rw [Bd.returns] at h; cases h)
    refine ⟨_, _, pre0 _ ?_, hrun, hended, _, _, rfl, ?_, ⟨_, rfl⟩, hW, hsame.mono (by decide) (by decide)⟩
    · show Steps p.tables e below (s₁.setTop (mkF m 0 #[.val (.int sel), .val (.long o1), .second, .val (.long o2), .second, .val (.int s1), .val (.int s2), .unset, .unset, .unset, .unset, .unset, .unset, .unset, .unset, .unset, .unset, .unset, .unset, .unset] [])) _
      refine st1 _ ?_
      show Steps p.tables e below (T1.setTop (mkF m 13 #[.val (.int sel), .val (.long o1), .second, .val (.long o2), .second, .val (.int s1), .val (.int s2), .val (.int t7), .unset, .unset, .unset, .unset, .unset, .unset, .unset, .unset, .unset, .unset, .unset, .unset] [])) _
      refine st2 _ ?_
      show Steps p.tables e below (T2.setTop (mkF m 26 #[.val (.int sel), .val (.long o1), .second, .val (.long o2), .second, .val (.int s1), .val (.int s2), .val (.int t7), .val (.int t8), .unset, .unset, .unset, .unset, .unset, .unset, .unset, .unset, .unset, .unset, .unset] [])) _
      refine st3 _ ?_
      show Steps p.tables e below (T3.setTop (mkF m 42 #[.val (.int sel), .val (.long o1), .second, .val (.long o2), .second, .val (.int s1), .val (.int s2), .val (.int t7), .val (.int t8), .val (.ref p9), .unset, .unset, .unset, .unset, .unset, .unset, .unset, .unset, .unset, .unset] [])) _
      refine st6 _ ?_
      show Steps p.tables e below (T6.setTop (mkF m 58 #[.val (.int sel), .val (.long o1), .second, .val (.long o2), .second, .val (.int s1), .val (.int s2), .val (.int t7), .val (.int t8), .val (.ref p9), .val (.ref p10), .unset, .unset, .unset, .unset, .unset, .unset, .unset, .unset, .unset] [])) _
      refine st9 _ ?_
      show Steps p.tables e below (T9.setTop (mkF m 69 #[.val (.int sel), .val (.long o1), .second, .val (.long o2), .second, .val (.int s1), .val (.int s2), .val (.int t7), .val (.int t8), .val (.ref p9), .val (.ref p10), .val (.int z11), .unset, .unset, .unset, .unset, .unset, .unset, .unset, .unset] [])) _
      refine st11 _ ?_
      show Steps p.tables e below (T11.setTop (mkF m 84 #[.val (.int sel), .val (.long o1), .second, .val (.long o2), .second, .val (.int s1), .val (.int s2), .val (.int t7), .val (.int t8), .val (.ref p9), .val (.ref p10), .val (.int z11), .val (.long off), .second, .unset, .unset, .unset, .unset, .unset, .unset] [])) _
      refine st12 _ ?_
      show Steps p.tables e below (T12.setTop (mkF m 108 #[.val (.int sel), .val (.long o1), .second, .val (.long o2), .second, .val (.int s1), .val (.int s2), .val (.int t7), .val (.int t8), .val (.ref p9), .val (.ref p10), .val (.int z11), .val (.long off), .second, .val (.int z14), .unset, .unset, .unset, .unset, .unset] [])) _
      refine st14 _ ?_
      show Steps p.tables e below (T14.setTop (mkF m 115 #[.val (.int sel), .val (.long o1), .second, .val (.long o2), .second, .val (.int s1), .val (.int s2), .val (.int t7), .val (.int t8), .val (.ref p9), .val (.ref p10), .val (.int z11), .val (.long off), .second, .val (.int z14), .val (.int k15), .unset, .unset, .unset, .unset] [])) _
      refine st15 _ ?_
      show Steps p.tables e below (T15.setTop (mkF m 118 #[.val (.int sel), .val (.long o1), .second, .val (.long o2), .second, .val (.int s1), .val (.int s2), .val (.int t7), .val (.int t8), .val (.ref p9), .val (.ref p10), .val (.int z11), .val (.long off), .second, .val (.int z14), .val (.int k15), .unset, .unset, .unset, .unset] [(.ref b15)])) _
      refine XS.dup X15.here hx rfl (hb hby at_118) rfl rfl ?_
      show Steps p.tables e below (T15.setTop (mkF m 119 #[.val (.int sel), .val (.long o1), .second, .val (.long o2), .second, .val (.int s1), .val (.int s2), .val (.int t7), .val (.int t8), .val (.ref p9), .val (.ref p10), .val (.int z11), .val (.long off), .second, .val (.int z14), .val (.int k15), .unset, .unset, .unset, .unset] [(.ref b15), (.ref b15)])) _
      refine XS.aload X15.here hx rfl (hb hby at_119) rfl rfl ?_
      show Steps p.tables e below (T15.setTop (mkF m 121 #[.val (.int sel), .val (.long o1), .second, .val (.long o2), .second, .val (.int s1), .val (.int s2), .val (.int t7), .val (.int t8), .val (.ref p9), .val (.ref p10), .val (.int z11), .val (.long off), .second, .val (.int z14), .val (.int k15), .unset, .unset, .unset, .unset] [(.ref p9), (.ref b15), (.ref b15)])) _
      refine XS.lloadN X15.here hx rfl (hb hby at_121) rfl ?_
      show Steps p.tables e below (T15.setTop (mkF m 122 #[.val (.int sel), .val (.long o1), .second, .val (.long o2), .second, .val (.int s1), .val (.int s2), .val (.int t7), .val (.int t8), .val (.ref p9), .val (.ref p10), .val (.int z11), .val (.long off), .second, .val (.int z14), .val (.int k15), .unset, .unset, .unset, .unset] [(.long o1), (.ref p9), (.ref b15), (.ref b15)])) _
      refine XS.iload X15.here hx rfl (hb hby at_122) rfl ?_
      show Steps p.tables e below (T15.setTop (mkF m 124 #[.val (.int sel), .val (.long o1), .second, .val (.long o2), .second, .val (.int s1), .val (.int s2), .val (.int t7), .val (.int t8), .val (.ref p9), .val (.ref p10), .val (.int z11), .val (.long off), .second, .val (.int z14), .val (.int k15), .unset, .unset, .unset, .unset] [(.int z11), (.long o1), (.ref p9), (.ref b15), (.ref b15)])) _
      refine st16.trans ?_
      show Steps p.tables e below (T16.setTop (mkF m 127 #[.val (.int sel), .val (.long o1), .second, .val (.long o2), .second, .val (.int s1), .val (.int s2), .val (.int t7), .val (.int t8), .val (.ref p9), .val (.ref p10), .val (.int z11), .val (.long off), .second, .val (.int z14), .val (.int k15), .unset, .unset, .unset, .unset] [(.ref b15)])) _
      refine XS.astore X16.here hx rfl (hb hby at_127) rfl rfl (l' := #[.val (.int sel), .val (.long o1), .second, .val (.long o2), .second, .val (.int s1), .val (.int s2), .val (.int t7), .val (.int t8), .val (.ref p9), .val (.ref p10), .val (.int z11), .val (.long off), .second, .val (.int z14), .val (.int k15), .val (.ref b15), .unset, .unset, .unset]) rfl ?_
      show Steps p.tables e below (T16.setTop (mkF m 129 #[.val (.int sel), .val (.long o1), .second, .val (.long o2), .second, .val (.int s1), .val (.int s2), .val (.int t7), .val (.int t8), .val (.ref p9), .val (.ref p10), .val (.int z11), .val (.long off), .second, .val (.int z14), .val (.int k15), .val (.ref b15), .unset, .unset, .unset] [])) _
      refine st17 _ ?_
      show Steps p.tables e below (T17.setTop (mkF m 132 #[.val (.int sel), .val (.long o1), .second, .val (.long o2), .second, .val (.int s1), .val (.int s2), .val (.int t7), .val (.int t8), .val (.ref p9), .val (.ref p10), .val (.int z11), .val (.long off), .second, .val (.int z14), .val (.int k15), .val (.ref b15), .unset, .unset, .unset] [(.ref b17)])) _
      refine XS.dup X17.here hx rfl (hb hby at_132) rfl rfl ?_
      show Steps p.tables e below (T17.setTop (mkF m 133 #[.val (.int sel), .val (.long o1), .second, .val (.long o2), .second, .val (.int s1), .val (.int s2), .val (.int t7), .val (.int t8), .val (.ref p9), .val (.ref p10), .val (.int z11), .val (.long off), .second, .val (.int z14), .val (.int k15), .val (.ref b15), .unset, .unset, .unset] [(.ref b17), (.ref b17)])) _
      refine XS.aload X17.here hx rfl (hb hby at_133) rfl rfl ?_
      show Steps p.tables e below (T17.setTop (mkF m 135 #[.val (.int sel), .val (.long o1), .second, .val (.long o2), .second, .val (.int s1), .val (.int s2), .val (.int t7), .val (.int t8), .val (.ref p9), .val (.ref p10), .val (.int z11), .val (.long off), .second, .val (.int z14), .val (.int k15), .val (.ref b15), .unset, .unset, .unset] [(.ref p10), (.ref b17), (.ref b17)])) _
      refine XS.lload X17.here hx rfl (hb hby at_135) rfl ?_
      show Steps p.tables e below (T17.setTop (mkF m 137 #[.val (.int sel), .val (.long o1), .second, .val (.long o2), .second, .val (.int s1), .val (.int s2), .val (.int t7), .val (.int t8), .val (.ref p9), .val (.ref p10), .val (.int z11), .val (.long off), .second, .val (.int z14), .val (.int k15), .val (.ref b15), .unset, .unset, .unset] [(.long off), (.ref p10), (.ref b17), (.ref b17)])) _
      refine XS.iload X17.here hx rfl (hb hby at_137) rfl ?_
      show Steps p.tables e below (T17.setTop (mkF m 139 #[.val (.int sel), .val (.long o1), .second, .val (.long o2), .second, .val (.int s1), .val (.int s2), .val (.int t7), .val (.int t8), .val (.ref p9), .val (.ref p10), .val (.int z11), .val (.long off), .second, .val (.int z14), .val (.int k15), .val (.ref b15), .unset, .unset, .unset] [(.int z14), (.long off), (.ref p10), (.ref b17), (.ref b17)])) _
      refine st18.trans ?_
      show Steps p.tables e below (T18.setTop (mkF m 142 #[.val (.int sel), .val (.long o1), .second, .val (.long o2), .second, .val (.int s1), .val (.int s2), .val (.int t7), .val (.int t8), .val (.ref p9), .val (.ref p10), .val (.int z11), .val (.long off), .second, .val (.int z14), .val (.int k15), .val (.ref b15), .unset, .unset, .unset] [(.ref b17)])) _
      refine XS.astore X18.here hx rfl (hb hby at_142) rfl rfl (l' := #[.val (.int sel), .val (.long o1), .second, .val (.long o2), .second, .val (.int s1), .val (.int s2), .val (.int t7), .val (.int t8), .val (.ref p9), .val (.ref p10), .val (.int z11), .val (.long off), .second, .val (.int z14), .val (.int k15), .val (.ref b15), .val (.ref b17), .unset, .unset]) rfl ?_
      show Steps p.tables e below (T18.setTop (mkF m 144 #[.val (.int sel), .val (.long o1), .second, .val (.long o2), .second, .val (.int s1), .val (.int s2), .val (.int t7), .val (.int t8), .val (.ref p9), .val (.ref p10), .val (.int z11), .val (.long off), .second, .val (.int z14), .val (.int k15), .val (.ref b15), .val (.ref b17), .unset, .unset] [])) _
      refine XS.iload X18.here hx rfl (hb hby at_144) rfl ?_
      show Steps p.tables e below (T18.setTop (mkF m 146 #[.val (.int sel), .val (.long o1), .second, .val (.long o2), .second, .val (.int s1), .val (.int s2), .val (.int t7), .val (.int t8), .val (.ref p9), .val (.ref p10), .val (.int z11), .val (.long off), .second, .val (.int z14), .val (.int k15), .val (.ref b15), .val (.ref b17), .unset, .unset] [(.int k15)])) _
      refine XS.ifYes X18.here hx rfl (pc0 := 146) (pc' := 184) rfl (hb hby at_146) rfl ((if0 _ _).trans (feq (by rw [hk]; decide : ¬ (k15 = (0 : Int32)))).2) (by decide) (by decide) ?_
      show Steps p.tables e below (T18.setTop (mkF m 184 #[.val (.int sel), .val (.long o1), .second, .val (.long o2), .second, .val (.int s1), .val (.int s2), .val (.int t7), .val (.int t8), .val (.ref p9), .val (.ref p10), .val (.int z11), .val (.long off), .second, .val (.int z14), .val (.int k15), .val (.ref b15), .val (.ref b17), .unset, .unset] [])) _
      refine XS.iload X18.here hx rfl (hb hby at_184) rfl ?_
      show Steps p.tables e below (T18.setTop (mkF m 186 #[.val (.int sel), .val (.long o1), .second, .val (.long o2), .second, .val (.int s1), .val (.int s2), .val (.int t7), .val (.int t8), .val (.ref p9), .val (.ref p10), .val (.int z11), .val (.long off), .second, .val (.int z14), .val (.int k15), .val (.ref b15), .val (.ref b17), .unset, .unset] [(.int k15)])) _
      refine XS.iconst X18.here hx rfl (hb hby at_186) ?_
      show Steps p.tables e below (T18.setTop (mkF m 187 #[.val (.int sel), .val (.long o1), .second, .val (.long o2), .second, .val (.int s1), .val (.int s2), .val (.int t7), .val (.int t8), .val (.ref p9), .val (.ref p10), .val (.int z11), .val (.long off), .second, .val (.int z14), .val (.int k15), .val (.ref b15), .val (.ref b17), .unset, .unset] [(.int (1 : Int32)), (.int k15)])) _
      refine XS.icmpYes X18.here hx rfl (pc0 := 187) (pc' := 199) rfl (hb hby at_187) rfl (feq (by rw [hk]; decide : ¬ (k15 = (1 : Int32)))).2 (by decide) (by decide) ?_
      show Steps p.tables e below (T18.setTop (mkF m 199 #[.val (.int sel), .val (.long o1), .second, .val (.long o2), .second, .val (.int s1), .val (.int s2), .val (.int t7), .val (.int t8), .val (.ref p9), .val (.ref p10), .val (.int z11), .val (.long off), .second, .val (.int z14), .val (.int k15), .val (.ref b15), .val (.ref b17), .unset, .unset] [])) _
      refine XS.iload X18.here hx rfl (hb hby at_199) rfl ?_
      show Steps p.tables e below (T18.setTop (mkF m 201 #[.val (.int sel), .val (.long o1), .second, .val (.long o2), .second, .val (.int s1), .val (.int s2), .val (.int t7), .val (.int t8), .val (.ref p9), .val (.ref p10), .val (.int z11), .val (.long off), .second, .val (.int z14), .val (.int k15), .val (.ref b15), .val (.ref b17), .unset, .unset] [(.int k15)])) _
      refine XS.iconst X18.here hx rfl (hb hby at_201) ?_
      show Steps p.tables e below (T18.setTop (mkF m 202 #[.val (.int sel), .val (.long o1), .second, .val (.long o2), .second, .val (.int s1), .val (.int s2), .val (.int t7), .val (.int t8), .val (.ref p9), .val (.ref p10), .val (.int z11), .val (.long off), .second, .val (.int z14), .val (.int k15), .val (.ref b15), .val (.ref b17), .unset, .unset] [(.int (2 : Int32)), (.int k15)])) _
      refine XS.icmpYes X18.here hx rfl (pc0 := 202) (pc' := 215) rfl (hb hby at_202) rfl (feq (by rw [hk]; decide : ¬ (k15 = (2 : Int32)))).2 (by decide) (by decide) ?_
      show Steps p.tables e below (T18.setTop (mkF m 215 #[.val (.int sel), .val (.long o1), .second, .val (.long o2), .second, .val (.int s1), .val (.int s2), .val (.int t7), .val (.int t8), .val (.ref p9), .val (.ref p10), .val (.int z11), .val (.long off), .second, .val (.int z14), .val (.int k15), .val (.ref b15), .val (.ref b17), .unset, .unset] [])) _
      refine XS.aload X18.here hx rfl (hb hby at_215) rfl rfl ?_
      show Steps p.tables e below (T18.setTop (mkF m 217 #[.val (.int sel), .val (.long o1), .second, .val (.long o2), .second, .val (.int s1), .val (.int s2), .val (.int t7), .val (.int t8), .val (.ref p9), .val (.ref p10), .val (.int z11), .val (.long off), .second, .val (.int z14), .val (.int k15), .val (.ref b15), .val (.ref b17), .unset, .unset] [(.ref b15)])) _
      refine XS.astore X18.here hx rfl (hb hby at_217) rfl rfl (l' := #[.val (.int sel), .val (.long o1), .second, .val (.long o2), .second, .val (.int s1), .val (.int s2), .val (.int t7), .val (.int t8), .val (.ref p9), .val (.ref p10), .val (.int z11), .val (.long off), .second, .val (.int z14), .val (.int k15), .val (.ref b15), .val (.ref b17), .val (.ref b15), .unset]) rfl ?_
      show Steps p.tables e below (T18.setTop (mkF m 219 #[.val (.int sel), .val (.long o1), .second, .val (.long o2), .second, .val (.int s1), .val (.int s2), .val (.int t7), .val (.int t8), .val (.ref p9), .val (.ref p10), .val (.int z11), .val (.long off), .second, .val (.int z14), .val (.int k15), .val (.ref b15), .val (.ref b17), .val (.ref b15), .unset] [])) _
      refine XS.iconst X18.here hx rfl (hb hby at_219) ?_
      show Steps p.tables e below (T18.setTop (mkF m 220 #[.val (.int sel), .val (.long o1), .second, .val (.long o2), .second, .val (.int s1), .val (.int s2), .val (.int t7), .val (.int t8), .val (.ref p9), .val (.ref p10), .val (.int z11), .val (.long off), .second, .val (.int z14), .val (.int k15), .val (.ref b15), .val (.ref b17), .val (.ref b15), .unset] [(.int (1 : Int32))])) _
      refine XS.istore X18.here hx rfl (hb hby at_220) rfl (l' := #[.val (.int sel), .val (.long o1), .second, .val (.long o2), .second, .val (.int s1), .val (.int s2), .val (.int t7), .val (.int t8), .val (.ref p9), .val (.ref p10), .val (.int z11), .val (.long off), .second, .val (.int z14), .val (.int k15), .val (.ref b15), .val (.ref b17), .val (.ref b15), .val (.int (1 : Int32))]) rfl ?_
      show Steps p.tables e below (T18.setTop (mkF m 222 #[.val (.int sel), .val (.long o1), .second, .val (.long o2), .second, .val (.int s1), .val (.int s2), .val (.int t7), .val (.int t8), .val (.ref p9), .val (.ref p10), .val (.int z11), .val (.long off), .second, .val (.int z14), .val (.int k15), .val (.ref b15), .val (.ref b17), .val (.ref b15), .val (.int (1 : Int32))] [])) _
      refine XS.aload X18.here hx rfl (hb hby at_222) rfl rfl ?_
      show Steps p.tables e below (T18.setTop (mkF m 224 #[.val (.int sel), .val (.long o1), .second, .val (.long o2), .second, .val (.int s1), .val (.int s2), .val (.int t7), .val (.int t8), .val (.ref p9), .val (.ref p10), .val (.int z11), .val (.long off), .second, .val (.int z14), .val (.int k15), .val (.ref b15), .val (.ref b17), .val (.ref b15), .val (.int (1 : Int32))] [(.ref b15)])) _
      refine XS.aload X18.here hx rfl (hb hby at_224) rfl rfl ?_
      show Steps p.tables e below (T18.setTop (mkF m 226 #[.val (.int sel), .val (.long o1), .second, .val (.long o2), .second, .val (.int s1), .val (.int s2), .val (.int t7), .val (.int t8), .val (.ref p9), .val (.ref p10), .val (.int z11), .val (.long off), .second, .val (.int z14), .val (.int k15), .val (.ref b15), .val (.ref b17), .val (.ref b15), .val (.int (1 : Int32))] [(.ref b15), (.ref b15)])) _
      refine st25.trans ?_
      show Steps p.tables e below (T25.setTop (mkF m 229 #[.val (.int sel), .val (.long o1), .second, .val (.long o2), .second, .val (.int s1), .val (.int s2), .val (.int t7), .val (.int t8), .val (.ref p9), .val (.ref p10), .val (.int z11), .val (.long off), .second, .val (.int z14), .val (.int k15), .val (.ref b15), .val (.ref b17), .val (.ref b15), .val (.int (1 : Int32))] [(.int (own_eq p9 p9 o1 o1 z11 z11))])) _
      refine XS.iload X25.here hx rfl (hb hby at_229) rfl ?_
      show Steps p.tables e below (T25.setTop (mkF m 231 #[.val (.int sel), .val (.long o1), .second, .val (.long o2), .second, .val (.int s1), .val (.int s2), .val (.int t7), .val (.int t8), .val (.ref p9), .val (.ref p10), .val (.int z11), .val (.long off), .second, .val (.int z14), .val (.int k15), .val (.ref b15), .val (.ref b17), .val (.ref b15), .val (.int (1 : Int32))] [(.int (1 : Int32)), (.int (own_eq p9 p9 o1 o1 z11 z11))])) _
      refine XS.icmpNo X25.here hx rfl (hb hby at_231) rfl (teq (own_eq1 rfl rfl rfl : (own_eq p9 p9 o1 o1 z11 z11) = (1 : Int32))).2 ?_
      show Steps p.tables e below (T25.setTop (mkF m 234 #[.val (.int sel), .val (.long o1), .second, .val (.long o2), .second, .val (.int s1), .val (.int s2), .val (.int t7), .val (.int t8), .val (.ref p9), .val (.ref p10), .val (.int z11), .val (.long off), .second, .val (.int z14), .val (.int k15), .val (.ref b15), .val (.ref b17), .val (.ref b15), .val (.int (1 : Int32))] [])) _
      refine XS.iconst X25.here hx rfl (hb hby at_234) ?_
      show Steps p.tables e below (T25.setTop (mkF m 235 #[.val (.int sel), .val (.long o1), .second, .val (.long o2), .second, .val (.int s1), .val (.int s2), .val (.int t7), .val (.int t8), .val (.ref p9), .val (.ref p10), .val (.int z11), .val (.long off), .second, .val (.int z14), .val (.int k15), .val (.ref b15), .val (.ref b17), .val (.ref b15), .val (.int (1 : Int32))] [(.int (1 : Int32))])) _
      refine XS.goto X25.here hx rfl (pc0 := 235) (pc' := 239) rfl (hb hby at_235) (by decide) (by decide) ?_
      show Steps p.tables e below (T25.setTop (mkF m 239 #[.val (.int sel), .val (.long o1), .second, .val (.long o2), .second, .val (.int s1), .val (.int s2), .val (.int t7), .val (.int t8), .val (.ref p9), .val (.ref p10), .val (.int z11), .val (.long off), .second, .val (.int z14), .val (.int k15), .val (.ref b15), .val (.ref b17), .val (.ref b15), .val (.int (1 : Int32))] [(.int (1 : Int32))])) _
      exact retN X25 hx (t := .boolean) Bd.returns (by simp) (hb hby at_239) hr
    · show own_QL n0 _ T25.heap _
      exact ⟨rfl, N25⟩
set_option maxRecDepth 65536 in
set_option maxHeartbeats 40000000 in
theorem comes_1 {Post : Tables → Env → Array Value → State → Outcome → State → Prop} (hpost : ∀ tb e args s v u, (limb_1_1.after args s (.returned v) u = true ∧ limb_1_2.after args s (.returned v) u = true ∧ True) → FrameEnd s (.returned v) u (Jvm.fieldLocs frame_1_writes args s ++ Jvm.arrayLocs frame_1_arrays args s ++ Jvm.staticLocs frame_1_statics s) 16 128 → Post tb e args s (.returned v) u) :
    ArmFor flags0 classFile x code maxLocals ret World_1 tables_1 room_1 Calls_1 rest_1 Pre_1 Post := by
  intro l hfl _ _ p e ha hc hk s m args below hf hA hF happ hP
  obtain ⟨hcalls, hrest, hpre⟩ := hP
  obtain ⟨-, -, -, hnamed, -, -, -, hat⟩ := (Spec.applies_iff hf).mp happ
  obtain ⟨hg, hn⟩ := and_e (Cond.before_iff.mp (show (Jvm.Cond.and given_1 narrow_1).before args s = true from hpre))
  obtain ⟨g_n, hg⟩ := and_e hg
  obtain ⟨g_0, hg⟩ := and_e hg
  obtain ⟨g_1, hg⟩ := and_e hg
  obtain ⟨g_2, hg⟩ := and_e hg
  obtain ⟨g_3, hg⟩ := and_e hg
  have g_4 := hg
  obtain ⟨w0, w1, w2, w3, w4, rfl⟩ : ∃ w0 w1 w2 w3 w4 : Value, args = #[w0, w1, w2, w3, w4] := by
    have hs : args.size = 5 := by simpa [Cond.value, given_1] using g_n
    obtain ⟨L⟩ := args
    match L, hs with
    | [w0, w1, w2, w3, w4], _ => exact ⟨w0, w1, w2, w3, w4, rfl⟩
  have hw := fun d (hd : d ∈ tables_1) => atoms_spec (ws := Jvm.Cond.code x code maxLocals ret :: tables_1) hat d (List.mem_cons_of_mem _ hd)
  have hfit : Fit s := fun {y c} hc i hi => by
    obtain ⟨ha, rfl⟩ := Array.getElem?_eq_some_iff.mp hc
    have q := List.all_eq_true.mp ((Array.all_eq_true_iff_forall_mem.mp hF) _ (Array.getElem_mem ha)) i (List.mem_range.mpr hi)
    simpa [Array.getElem?_eq_getElem hi] using q
  obtain ⟨i0, ei0⟩ := is_v g_0
  obtain rfl : w0 = (.int i0) := Option.some.inj ei0
  obtain ⟨i1, ei1⟩ := isL_v g_1
  obtain rfl : w1 = (.long i1) := Option.some.inj ei1
  obtain ⟨i2, ei2⟩ := isL_v g_2
  obtain rfl : w2 = (.long i2) := Option.some.inj ei2
  obtain ⟨i3, ei3⟩ := is_v g_3
  obtain rfl : w3 = (.int i3) := Option.some.inj ei3
  obtain ⟨i4, ei4⟩ := is_v g_4
  obtain rfl : w4 = (.int i4) := Option.some.inj ei4
  obtain ⟨c0, hn⟩ := and_e hn
  obtain ⟨c1, hn⟩ := and_e hn
  have c2 := hn
  obtain ⟨a_CONSTANT, ev_CONSTANT⟩ := exa_v c0
  have E_CONSTANT := Exa.start ev_CONSTANT c0
  have S_CONSTANT := Sta.start ev_CONSTANT (Or.inr ⟨(hw _ (List.mem_of_getElem? (i := 1) rfl)), (hw _ (List.mem_of_getElem? (i := 2) rfl))⟩)
  obtain ⟨a_UNIQUE, ev_UNIQUE⟩ := exa_v c1
  have E_UNIQUE := Exa.start ev_UNIQUE c1
  have S_UNIQUE := Sta.start ev_UNIQUE (Or.inr ⟨(hw _ (List.mem_of_getElem? (i := 1) rfl)), (hw _ (List.mem_of_getElem? (i := 31) rfl))⟩)
  have n1 : ¬ a_CONSTANT = a_UNIQUE := fun q => gotF (eq_R ev_CONSTANT ev_UNIQUE rfl rfl) (not_v c2) (congrArg Value.ref q)
  obtain ⟨n, o, h1, h2, h3, _, L, rfl, ⟨rfl, N⟩, hq⟩ := own_rm0 l s _ hw tables_1 i0 i1 i2 i3 i4 a_CONSTANT a_UNIQUE s.heap s.heap.size (Nat.le_refl _) S_CONSTANT E_CONSTANT S_UNIQUE E_UNIQUE n1 p e ha hc hk s m _ below hf ((Spec.applies_iff_loose hf).mp happ).1 ⟨rfl, State.Warmed39.refl s, rfl⟩ trivial
  refine ⟨n, _, h1, h2, h3, hpost _ _ _ _ _ _ ⟨Cond.after_iff.mpr rfl, Cond.after_iff.mpr (eq_i res_at (Term.int_eval (1)) rfl), trivial⟩ ⟨hq.1, hq.2.1, (hq.2.2.sift fun y hy => Or.inr (N y hy)).mono (by decide) (by decide)⟩⟩
theorem main_1_1 : Claimed_1_1 := comes_1 fun _ _ _ _ _ _ h hF => ⟨h.1, hF⟩
theorem main_1_2 : Claimed_1_2 := comes_1 fun _ _ _ _ _ _ h hF => ⟨h.2.1, hF⟩
end Jvm.Pilot.@@N@@
namespace Jvm.Pilot.@@N@@
open Jvm Jvm.ClassFile Sem Op Lib Jvm.Free Jvm.Stand Jvm.Pilot.@@N@@.Jvm.D
/-! MADE BY PROGRAM (witnessworld.py) out of the Statement's table words and the real class files: 12 classes; the members and pool entries that the words name. The judged class is class 1, her method 1. -/
namespace start1
open Jvm.ClassFile
def u (s : String) : CpInfo := .utf8 (stringToUtf16 s)
/-- a pool by its gaps: so many unusable entries, then the entry; so many at the end -/
def gap : Nat → List CpInfo → List CpInfo
  | 0, r => r
  | n + 1, r => .unusable :: gap n r
def poolList (es : List (Nat × CpInfo)) (last : Nat) : List CpInfo := es.foldr (fun e r => gap e.1 (e.2 :: r)) (gap last [])
def pool (es : List (Nat × CpInfo)) (last : Nat) : Array CpInfo := ⟨poolList es last⟩
def fileOf (pool : Array CpInfo) (this : Nat) (attrs : Array Attribute := #[]) (ms : Array MethodInfo := #[]) (fl : Nat := 33) (sup : Nat := 0) (ifs : Array Nat := #[]) (fds : Array FieldInfo := #[]) : ClassFile where
  minorVersion := 0
  majorVersion := 65
  constantPool := pool
  accessFlags := fl
  thisClass := this
  superClass := sup
  interfaces := ifs
  fields := fds
  methods := ms
  attributes := attrs
def plain (name : String) (sup : Option ClassId) : Class where
  name := name
  kind := .ordinary
  loader := none
  accessFlags := 33
  super := sup
  interfaces := #[]
  cf := none
  fields := #[]
  methods := #[]
  instanceTypes := #[]
  staticTypes := #[]
  resolved := #[]
  callSites := []
  init := .initialized
  statics := none
  mirror := none

def pool0 : Array CpInfo := pool [(5, u "<init>"), (0, u "()V"), (1, .class_ 10), (1, u "java/lang/Object")] 113

def k0c0 : Code := { maxStack := 0, maxLocals := 1, code := object_method_1_code, exceptionTable := #[], attributes := #[] }
def k0m0 : Method := { name := "<init>", desc := "()V", sig := { parameters := [], returnType := none }, accessFlags := 1, code := some k0c0 }
/-- java/lang/Object -/
def k0 : Class := { plain "java/lang/Object" none with
  accessFlags := 33
  interfaces := #[]
  cf := some (fileOf pool0 8 #[] #[{ accessFlags := 1, nameIndex := 5, descriptorIndex := 6, attributes := #[] }] 33 0 #[] #[])
  fields := #[]
  methods := #[k0m0]
  instanceTypes := #[]
  staticTypes := #[]
  resolved := Array.replicate 124 none
  statics := none }

def pool1 : Array CpInfo := pool [(2, .class_ 4), (1, u "java/lang/Object"), (0, u "<init>"), (0, u "()V"), (0, .fieldref 8 9), (0, .class_ 10), (0, .nameAndType 11 12), (0, u "com/example/tablewright/tablewright/model/AddressSpace"), (0, u "UNIQUE"), (0, u "Lcom/example/tablewright/tablewright/model/AddressSpace;"), (0, .fieldref 8 14), (0, .nameAndType 15 12), (0, u "CONSTANT"), (0, .integer 2147483647), (0, .methodref 18 19), (0, .class_ 20), (0, .nameAndType 21 22), (0, u "java/lang/Math"), (0, u "max"), (0, u "(II)I"), (0, .class_ 24), (0, u "com/example/tablewright/tablewright/model/Varnode"), (0, .methodref 23 26), (0, .nameAndType 5 27), (0, u "(Lcom/example/tablewright/tablewright/model/AddressSpace;JI)V"), (0, .methodref 23 29), (0, .nameAndType 30 31), (0, u "equals"), (0, u "(Ljava/lang/Object;)Z"), (0, .class_ 33), (0, u "com/example/tablewright/tablewright/model/VarnodeEqualsPinLaw"), (2, u "law"), (0, u "(IJJII)Z")] 3

def k1m0 : Method := { name := "<init>", desc := "()V", sig := { parameters := [], returnType := none }, accessFlags := 1, code := none }
def k1c1 : Code := { maxStack := 6, maxLocals := 20, code := code, exceptionTable := #[], attributes := #[] }
def k1m1 : Method := { name := "law", desc := "(IJJII)Z", sig := { parameters := [.int, .long, .long, .int, .int], returnType := some .boolean }, accessFlags := 9, code := some k1c1 }
/-- com/example/tablewright/tablewright/model/VarnodeEqualsPinLaw -/
def k1 : Class := { plain "com/example/tablewright/tablewright/model/VarnodeEqualsPinLaw" (some 0) with
  accessFlags := 49
  interfaces := #[]
  cf := some (fileOf pool1 32 #[] #[{ accessFlags := 1, nameIndex := 5, descriptorIndex := 6, attributes := #[] }, { accessFlags := 9, nameIndex := 36, descriptorIndex := 37, attributes := #[] }] 49 2 #[] #[])
  fields := #[]
  methods := #[k1m0, k1m1]
  instanceTypes := #[]
  staticTypes := #[]
  resolved := Array.replicate 41 none
  statics := none }

def pool2 : Array CpInfo := pool [(1, .class_ 2), (0, u "com/example/tablewright/tablewright/model/Symbol"), (0, .class_ 4), (0, u "java/lang/Object")] 21

/-- com/example/tablewright/tablewright/model/Symbol -/
def k2 : Class := { plain "com/example/tablewright/tablewright/model/Symbol" (some 0) with
  accessFlags := 1537
  interfaces := #[]
  cf := some (fileOf pool2 1 #[] #[] 1537 3 #[] #[])
  fields := #[]
  methods := #[]
  instanceTypes := #[]
  staticTypes := #[]
  resolved := Array.replicate 26 none
  statics := none }

def pool3 : Array CpInfo := pool [(2, .class_ 4), (1, u "java/lang/Object"), (14, .class_ 21), (1, u "com/example/tablewright/tablewright/model/AddressSpace"), (0, u "name"), (0, u "Ljava/lang/String;"), (2, u "kind"), (0, u "Lcom/example/tablewright/tablewright/model/AddressSpace$Kind;"), (2, u "size"), (0, u "I"), (6, u "addressMask"), (0, u "J"), (21, .class_ 63), (1, u "com/example/tablewright/tablewright/model/AddressSpace$Kind"), (0, u "CONSTANT"), (5, u "Lcom/example/tablewright/tablewright/model/AddressSpace;"), (4, u "UNIQUE"), (4, .class_ 81), (0, u "com/example/tablewright/tablewright/model/Symbol")] 32

/-- com/example/tablewright/tablewright/model/AddressSpace -/
def k3 : Class := { plain "com/example/tablewright/tablewright/model/AddressSpace" (some 0) with
  accessFlags := 49
  interfaces := #[2]
  cf := some (fileOf pool3 19 #[.nestMembers #[61]] #[] 49 2 #[80] #[{ accessFlags := 25, nameIndex := 64, descriptorIndex := 70, attributes := #[] }, { accessFlags := 25, nameIndex := 75, descriptorIndex := 70, attributes := #[] }, { accessFlags := 18, nameIndex := 22, descriptorIndex := 23, attributes := #[] }, { accessFlags := 18, nameIndex := 26, descriptorIndex := 27, attributes := #[] }, { accessFlags := 18, nameIndex := 30, descriptorIndex := 31, attributes := #[] }, { accessFlags := 18, nameIndex := 38, descriptorIndex := 39, attributes := #[] }])
  fields := #[{ name := "CONSTANT", type := (.object "com/example/tablewright/tablewright/model/AddressSpace"), accessFlags := 25, slot := 0, constantValue := 0 }, { name := "UNIQUE", type := (.object "com/example/tablewright/tablewright/model/AddressSpace"), accessFlags := 25, slot := 1, constantValue := 0 }, { name := "name", type := (.object "java/lang/String"), accessFlags := 18, slot := 0, constantValue := 0 }, { name := "kind", type := (.object "com/example/tablewright/tablewright/model/AddressSpace$Kind"), accessFlags := 18, slot := 1, constantValue := 0 }, { name := "size", type := .int, accessFlags := 18, slot := 2, constantValue := 0 }, { name := "addressMask", type := .long, accessFlags := 18, slot := 3, constantValue := 0 }]
  methods := #[]
  instanceTypes := #[(.object "java/lang/String"), (.object "com/example/tablewright/tablewright/model/AddressSpace$Kind"), .int, .long]
  staticTypes := #[(.object "com/example/tablewright/tablewright/model/AddressSpace"), (.object "com/example/tablewright/tablewright/model/AddressSpace")]
  resolved := Array.replicate 114 none
  statics := some 0 }

def pool4 : Array CpInfo := pool [(1, .class_ 2), (0, u "java/lang/Math"), (1, .class_ 6), (1, u "java/lang/Object"), (0, u "<init>"), (0, u "()V"), (89, .class_ 100), (1, u "java/lang/Math$RandomNumberGeneratorHolder"), (71, u "negativeZeroFloatBits"), (0, u "J"), (2, u "negativeZeroDoubleBits"), (21, u "max"), (46, u "$assertionsDisabled"), (0, u "Z"), (88, u "(II)I"), (2, u "twoToTheDoubleScaleDown"), (0, u "D"), (4, u "twoToTheDoubleScaleUp"), (9, u "E"), (3, u "PI"), (2, u "TAU"), (2, u "DEGREES_TO_RADIANS"), (0, u "RADIANS_TO_DEGREES")] 94

def k4m0 : Method := { name := "<init>", desc := "()V", sig := { parameters := [], returnType := none }, accessFlags := 2, code := none }
def k4c1 : Code := { maxStack := 2, maxLocals := 2, code := jdk_29_method_65_code, exceptionTable := #[], attributes := #[] }
def k4m1 : Method := { name := "max", desc := "(II)I", sig := { parameters := [.int, .int], returnType := some .int }, accessFlags := 9, code := some k4c1 }
/-- java/lang/Math -/
def k4 : Class := { plain "java/lang/Math" (some 0) with
  accessFlags := 49
  interfaces := #[]
  cf := some (fileOf pool4 1 #[.nestMembers #[98]] #[{ accessFlags := 2, nameIndex := 7, descriptorIndex := 8, attributes := #[] }, { accessFlags := 9, nameIndex := 198, descriptorIndex := 335, attributes := #[] }] 49 4 #[] #[{ accessFlags := 25, nameIndex := 354, descriptorIndex := 339, attributes := #[] }, { accessFlags := 25, nameIndex := 358, descriptorIndex := 339, attributes := #[] }, { accessFlags := 25, nameIndex := 361, descriptorIndex := 339, attributes := #[] }, { accessFlags := 26, nameIndex := 364, descriptorIndex := 339, attributes := #[] }, { accessFlags := 26, nameIndex := 365, descriptorIndex := 339, attributes := #[] }, { accessFlags := 26, nameIndex := 172, descriptorIndex := 173, attributes := #[] }, { accessFlags := 26, nameIndex := 176, descriptorIndex := 173, attributes := #[] }, { accessFlags := 8, nameIndex := 344, descriptorIndex := 339, attributes := #[] }, { accessFlags := 8, nameIndex := 338, descriptorIndex := 339, attributes := #[] }, { accessFlags := 4120, nameIndex := 245, descriptorIndex := 246, attributes := #[] }])
  fields := #[{ name := "E", type := .double, accessFlags := 25, slot := 0, constantValue := 0 }, { name := "PI", type := .double, accessFlags := 25, slot := 1, constantValue := 0 }, { name := "TAU", type := .double, accessFlags := 25, slot := 2, constantValue := 0 }, { name := "DEGREES_TO_RADIANS", type := .double, accessFlags := 26, slot := 3, constantValue := 0 }, { name := "RADIANS_TO_DEGREES", type := .double, accessFlags := 26, slot := 4, constantValue := 0 }, { name := "negativeZeroFloatBits", type := .long, accessFlags := 26, slot := 5, constantValue := 0 }, { name := "negativeZeroDoubleBits", type := .long, accessFlags := 26, slot := 6, constantValue := 0 }, { name := "twoToTheDoubleScaleUp", type := .double, accessFlags := 8, slot := 7, constantValue := 0 }, { name := "twoToTheDoubleScaleDown", type := .double, accessFlags := 8, slot := 8, constantValue := 0 }, { name := "$assertionsDisabled", type := .boolean, accessFlags := 4120, slot := 9, constantValue := 0 }]
  methods := #[k4m0, k4m1]
  instanceTypes := #[]
  staticTypes := #[.double, .double, .double, .double, .double, .long, .long, .double, .double, .boolean]
  resolved := Array.replicate 460 none
  statics := none }

def pool5 : Array CpInfo := pool [(1, .methodref 2 3), (0, .class_ 4), (0, .nameAndType 5 6), (0, u "java/lang/Object"), (0, u "<init>"), (0, u "()V"), (9, .fieldref 17 18), (0, .class_ 19), (0, .nameAndType 20 21), (0, u "com/example/tablewright/tablewright/model/Varnode"), (0, u "space"), (0, u "Lcom/example/tablewright/tablewright/model/AddressSpace;"), (0, .fieldref 17 23), (0, .nameAndType 24 25), (0, u "offset"), (0, u "J"), (0, .fieldref 17 27), (0, .nameAndType 28 29), (0, u "size"), (0, u "I"), (11, u "(Lcom/example/tablewright/tablewright/model/AddressSpace;JI)V"), (16, u "equals"), (0, u "(Ljava/lang/Object;)Z")] 17

def k5c0 : Code := { maxStack := 3, maxLocals := 5, code := prog_113_method_1_code, exceptionTable := #[], attributes := #[] }
def k5m0 : Method := { name := "<init>", desc := "(Lcom/example/tablewright/tablewright/model/AddressSpace;JI)V", sig := { parameters := [(.object "com/example/tablewright/tablewright/model/AddressSpace"), .long, .int], returnType := none }, accessFlags := 1, code := some k5c0 }
def k5c1 : Code := { maxStack := 4, maxLocals := 3, code := prog_113_method_7_code, exceptionTable := #[], attributes := #[] }
def k5m1 : Method := { name := "equals", desc := "(Ljava/lang/Object;)Z", sig := { parameters := [(.object "java/lang/Object")], returnType := some .boolean }, accessFlags := 1, code := some k5c1 }
/-- com/example/tablewright/tablewright/model/Varnode -/
def k5 : Class := { plain "com/example/tablewright/tablewright/model/Varnode" (some 0) with
  accessFlags := 49
  interfaces := #[]
  cf := some (fileOf pool5 17 #[] #[{ accessFlags := 1, nameIndex := 5, descriptorIndex := 41, attributes := #[] }, { accessFlags := 1, nameIndex := 58, descriptorIndex := 59, attributes := #[] }] 49 2 #[] #[{ accessFlags := 18, nameIndex := 20, descriptorIndex := 21, attributes := #[] }, { accessFlags := 18, nameIndex := 24, descriptorIndex := 25, attributes := #[] }, { accessFlags := 18, nameIndex := 28, descriptorIndex := 29, attributes := #[] }])
  fields := #[{ name := "space", type := (.object "com/example/tablewright/tablewright/model/AddressSpace"), accessFlags := 18, slot := 0, constantValue := 0 }, { name := "offset", type := .long, accessFlags := 18, slot := 1, constantValue := 0 }, { name := "size", type := .int, accessFlags := 18, slot := 2, constantValue := 0 }]
  methods := #[k5m0, k5m1]
  instanceTypes := #[(.object "com/example/tablewright/tablewright/model/AddressSpace"), .long, .int]
  staticTypes := #[]
  resolved := Array.replicate 77 none
  statics := none }

def pool6 : Array CpInfo := pool [(1, u "java/lang/Cloneable"), (0, .class_ 1), (0, u "java/lang/Object"), (0, .class_ 3)] 3

/-- java/lang/Cloneable -/
def k6 : Class := { plain "java/lang/Cloneable" (some 0) with
  accessFlags := 1537
  interfaces := #[]
  cf := some (fileOf pool6 2 #[] #[] 1537 4 #[] #[])
  fields := #[]
  methods := #[]
  instanceTypes := #[]
  staticTypes := #[]
  resolved := Array.replicate 8 none
  statics := none }

def pool7 : Array CpInfo := pool [(1, u "java/io/Serializable"), (0, .class_ 1), (0, u "java/lang/Object"), (0, .class_ 3)] 3

/-- java/io/Serializable -/
def k7 : Class := { plain "java/io/Serializable" (some 0) with
  accessFlags := 1537
  interfaces := #[]
  cf := some (fileOf pool7 2 #[] #[] 1537 4 #[] #[])
  fields := #[]
  methods := #[]
  instanceTypes := #[]
  staticTypes := #[]
  resolved := Array.replicate 8 none
  statics := none }

/-- the primitive byte -/
def k8 : Class := { plain "byte" none with kind := .primitive 'B', accessFlags := 0x411 }
/-- [B -/
def k9 : Class := { plain "[B" (some 0) with kind := .array 8 .byte, interfaces := #[6, 7], accessFlags := 1041 }

/-- the primitive int -/
def k10 : Class := { plain "int" none with kind := .primitive 'I', accessFlags := 0x411 }
/-- [I -/
def k11 : Class := { plain "[I" (some 0) with kind := .array 10 .int, interfaces := #[6, 7], accessFlags := 1041 }

def heap : Heap := #[{ cls := 3, slots := #[.ref 1, .ref 2], vm := .statics 3 },
  { cls := 3, slots := #[.null, .null, .int 8, .long (-1)], vm := .none },
  { cls := 3, slots := #[.null, .null, .int 8, .long (-1)], vm := .none }]
def classes : Array Class := #[k0, k1, k2, k3, k4, k5, k6, k7, k8, k9, k10, k11]
def interned : List (Array UInt16 × Addr) := []
def slotsUsed : Nat := 10
def theMethod : MethodId := ⟨1, 1⟩
def args0 : Array Value := #[.int 5, .long 7, .long 8, .int 3, .int 2]
def aboutOver (below : List Frame) : State where
  vm := { classes := classes, interned := interned.toArray }
  heap := heap
  slotsUsed := slotsUsed
  threads := #[{ frames := .invoking theMethod args0 :: below }]
def below0 : List Frame := [.native { method := ⟨0, 0⟩, args := #[] }]
def about1 : State := aboutOver below0
def p0 : Program := .bare "" "" ""
def e0 : Env := launch0.env 0 0 0
theorem w_frames : about1.frames = Frame.invoking theMethod args0 :: below0 := rfl
set_option maxRecDepth 65536 in
theorem w_args : argsFit about1.vm theMethod args0 = true := by decide +kernel
set_option maxRecDepth 65536 in
theorem w_heap : heapFits about1 = true := by decide +kernel
set_option maxRecDepth 65536 in
theorem w_runnable : about1.curStatus? = some .runnable := by decide +kernel
set_option maxRecDepth 65536 in
theorem w_alone : about1.alone = true := by decide +kernel
set_option maxRecDepth 65536 in
theorem w_named : about1.methodNamed? x = some theMethod := by decide +kernel
set_option maxRecDepth 65536 in
theorem w_hears : about1.hears theMethod below0 = true := by decide +kernel
set_option maxRecDepth 65536 in
theorem w_ripe : about1.ripe theMethod args0 below0 = true := by decide +kernel
theorem w_running : about1.status = .running := rfl
set_option maxRecDepth 65536 in
theorem w_room : about1.hasRoom e0.platform room_1 = true :=
  launch0.hasRoom_least _ room_1 (by decide +kernel) (by decide +kernel) (by decide +kernel) (by decide +kernel) (by decide +kernel) (by decide +kernel)
theorem allAtoms_all (ts : List Jvm.Cond) (a : Array Jvm.Value) (st : Jvm.State) : (allAtoms ts).before a st = ts.all (fun c => c.before a st) := by
  induction ts with
  | nil => rfl
  | cons c t ih =>
    show (Jvm.Cond.and c (allAtoms t)).before a st = _
    rw [Jvm.Cond.before_and, ih, List.all_cons]
def words1 : List Jvm.Cond := Jvm.Cond.code x code maxLocals ret :: tables_1
/-- a 'code' word, met by the world's own term for the bytes: nothing is compared byte by byte -/
theorem code_word {y : MethodName} {bytes : ByteArray} {mx : Nat} {rt : Option FieldType} {a : Array Value} {s : State} {m : MethodId} {meth : Method} {c : Code} (h1 : s.methodNamed? y = some m) (h2 : s.vm.method? m = some meth) (h3 : meth.code = some c) (h4 : c.code = bytes)
    (h5 : (c.maxLocals == mx && c.exceptionTable.isEmpty && decide (c.maxStack ≤ mostOperands) && decide (meth.sig.returnType = rt) && !meth.locks && decide (parseMethodDescriptor y.desc = some meth.sig)) = true) : (Jvm.Cond.code y bytes mx rt).before a s = true := by
  simp only [Bool.and_eq_true, beq_iff_eq, Bool.not_eq_true', decide_eq_true_eq] at h5
  obtain ⟨⟨⟨⟨⟨g1, g2⟩, g3⟩, g4⟩, g5⟩, g6⟩ := h5
  simp [Cond.before, Cond.holds, Cond.value, h1, h2, h3, h4, g1, g2, g3, g4, g5, g6]
def isCode : Jvm.Cond → Bool
  | .code _ _ _ _ => true
  | _ => false
theorem all_split {L : List Jvm.Cond} {P : Jvm.Cond → Bool} (h1 : L.all (fun c => isCode c || P c) = true) (h2 : ∀ c ∈ L.filter isCode, P c = true) : L.all P = true := by
  refine List.all_eq_true.mpr fun c hc => ?_
  have h := List.all_eq_true.mp h1 c hc
  rcases Bool.eq_false_or_eq_true (isCode c) with hi | hi
  · exact h2 c (List.mem_filter.mpr ⟨hc, hi⟩)
  · simpa [hi] using h
set_option maxRecDepth 65536 in
theorem w_c0 : (Jvm.Cond.code x code maxLocals ret).before args0 about1 = true := code_word (m := ⟨1, 1⟩) (meth := k1m1) (c := k1c1) (by decide +kernel) rfl rfl rfl (by decide +kernel)
set_option maxRecDepth 65536 in
theorem w_c1 : (Jvm.Cond.code ({ cls := "java/lang/Math", name := "max", desc := "(II)I" } : Jvm.MethodName) jdk_29_method_65_code (2 : Nat) (Option.some Jvm.ClassFile.FieldType.int)).before args0 about1 = true := code_word (m := ⟨4, 1⟩) (meth := k4m1) (c := k4c1) (by decide +kernel) rfl rfl rfl (by decide +kernel)
set_option maxRecDepth 65536 in
theorem w_c2 : (Jvm.Cond.code ({ cls := "com/example/tablewright/tablewright/model/Varnode", name := "<init>", desc := "(Lcom/example/tablewright/tablewright/model/AddressSpace;JI)V" } : Jvm.MethodName) prog_113_method_1_code (5 : Nat) (Option.none : Option Jvm.ClassFile.FieldType)).before args0 about1 = true := code_word (m := ⟨5, 0⟩) (meth := k5m0) (c := k5c0) (by decide +kernel) rfl rfl rfl (by decide +kernel)
set_option maxRecDepth 65536 in
theorem w_c3 : (Jvm.Cond.code ({ cls := "java/lang/Object", name := "<init>", desc := "()V" } : Jvm.MethodName) object_method_1_code (1 : Nat) (Option.none : Option Jvm.ClassFile.FieldType)).before args0 about1 = true := code_word (m := ⟨0, 0⟩) (meth := k0m0) (c := k0c0) (by decide +kernel) rfl rfl rfl (by decide +kernel)
set_option maxRecDepth 65536 in
theorem w_c4 : (Jvm.Cond.code ({ cls := "com/example/tablewright/tablewright/model/Varnode", name := "equals", desc := "(Ljava/lang/Object;)Z" } : Jvm.MethodName) prog_113_method_7_code (3 : Nat) (Option.some Jvm.ClassFile.FieldType.boolean)).before args0 about1 = true := code_word (m := ⟨5, 1⟩) (meth := k5m1) (c := k5c1) (by decide +kernel) rfl rfl rfl (by decide +kernel)
def codes1 : List Jvm.Cond := [Jvm.Cond.code x code maxLocals ret, Jvm.Cond.code ({ cls := "java/lang/Math", name := "max", desc := "(II)I" } : Jvm.MethodName) jdk_29_method_65_code (2 : Nat) (Option.some Jvm.ClassFile.FieldType.int), Jvm.Cond.code ({ cls := "com/example/tablewright/tablewright/model/Varnode", name := "<init>", desc := "(Lcom/example/tablewright/tablewright/model/AddressSpace;JI)V" } : Jvm.MethodName) prog_113_method_1_code (5 : Nat) (Option.none : Option Jvm.ClassFile.FieldType), Jvm.Cond.code ({ cls := "java/lang/Object", name := "<init>", desc := "()V" } : Jvm.MethodName) object_method_1_code (1 : Nat) (Option.none : Option Jvm.ClassFile.FieldType), Jvm.Cond.code ({ cls := "com/example/tablewright/tablewright/model/Varnode", name := "equals", desc := "(Ljava/lang/Object;)Z" } : Jvm.MethodName) prog_113_method_7_code (3 : Nat) (Option.some Jvm.ClassFile.FieldType.boolean)]
set_option maxRecDepth 65536 in
theorem codes_eq : words1.filter isCode = codes1 := rfl
theorem w_codes : ∀ c ∈ words1.filter isCode, c.before args0 about1 = true := by
  rw [codes_eq]
  intro c hc
  simp only [codes1, List.mem_cons, List.not_mem_nil, or_false] at hc
  rcases hc with rfl | rfl | rfl | rfl | rfl
  · exact w_c0
  · exact w_c1
  · exact w_c2
  · exact w_c3
  · exact w_c4
set_option maxRecDepth 65536 in
theorem w_t1 : (words1.take 24).all (fun c => isCode c || c.before args0 about1) = true := by decide +kernel
set_option maxRecDepth 65536 in
theorem w_t2 : (words1.drop 24).all (fun c => isCode c || c.before args0 about1) = true := by decide +kernel
theorem w_tables : (allAtoms (Jvm.Cond.code x code maxLocals ret :: tables_1)).before args0 about1 = true := by
  rw [allAtoms_all]
  show words1.all (fun c => c.before args0 about1) = true
  refine all_split ?_ w_codes
  rw [← List.take_append_drop 24 words1, List.all_append, w_t1, w_t2]
  rfl
set_option maxRecDepth 65536 in
theorem w_case : (Jvm.Cond.and given_1 narrow_1).before args0 about1 = true := by decide +kernel
theorem w_applies : (headSpec (Jvm.Cond.code x code maxLocals ret :: tables_1) room_1).applies x e0.platform about1 = true :=
  (Spec.applies_iff w_frames).mpr ⟨w_running, w_runnable, w_alone, w_named, w_hears, w_ripe, w_room, w_tables⟩
theorem atStart : AtStart classFile x code maxLocals ret World_1 tables_1 room_1 Calls_1 rest_1 Pre_1 launch0 p0 e0 about1 theMethod args0 below0 :=
  ⟨lists_1, trivial, launch0.admits_env _ _ _, launch0.least_env, fairChoices_fair.cas, fairChoices_fair.clock, w_frames, w_args, w_heap, w_applies, trivial, trivial, w_case⟩
end start1
theorem witness_1 : WitnessClaimed_1 := ⟨start1.p0, start1.e0, start1.about1, start1.theMethod, start1.args0, start1.below0, start1.atStart⟩
end Jvm.Pilot.@@N@@
