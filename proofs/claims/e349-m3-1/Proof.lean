import JvmDerived
import JvmDerived.Pilot.@@N@@Statement
import JvmDerived.Pilot.@@N@@Code
set_option linter.unusedVariables false
set_option linter.unusedSimpArgs false
namespace Jvm.RoadKit
open Sem ClassFile Op Lib Jvm.Stand Jvm.Free Jvm.LawKit
section New
variable {p : Program} {l : Launch} {e : Env} {R : Room} {s : State} {m : MethodId} {args : Array Value} {below : List Frame} {meth : Method} {c : Code} {T : State} {locs : List Loc} {cells slots : Nat}
theorem retI (X : Stand p l e R s m args below meth c T locs cells slots) (hx : p.tables.exec = Jvm.exec) {pc : Nat} {Ls : Array Slot} {z : Int32} {rest : List Value} (hret : meth.sig.returnType = some .int) (hd : decode c.code pc = .ok (.ireturn, 1)) {fs : List Frame}
    (hl : ∀ (f : JFrame) (acts : List Action), f.method = m → f.locked = none → f.entered = [] → (doReturn e (T.setTop f) acts (some (.int z))).1 = T.setFrames fs) : Steps p.tables e below (T.setTop (mkF m pc Ls (.int z :: rest))) (T.setFrames fs) := by
  have hm' : T.vm.method? m = some meth := X.method'
  have hn : narrow .int (.int z) = .int z := rfl
  show Steps p.tables e below (T.setTop { method := m, pc := pc, locals := Ls, stack := _ :: rest, locked := none }) _
  jvm_step X.here [X.here.top, hx, hd, hm', hret, hn]
  first | (intro acts; rw [hl _ acts rfl rfl rfl]) | rw [hl _ _ rfl rfl rfl]
  exact Steps.refl _
end New
end Jvm.RoadKit
namespace Jvm.Pilot.@@N@@
open Jvm Jvm.ClassFile Sem Op Lib Jvm.Free Jvm.Stand Jvm.LawKit Jvm.RoadKit Bundle Jvm.Pilot.@@N@@.Jvm.D
/-- what a callee leaves that writes nothing: it returns r, the heap is as it was -/
def own_QP (r : Option Value) (h0 : Heap) (n0 : Nat) (v : Option Value) (h : Heap) (L : List Loc) : Prop := v = r ∧ Fr n0 L ∧ h = h0
/-- what the law leaves -/
def own_QL (n0 : Nat) (v : Option Value) (h : Heap) (L : List Loc) : Prop := v = some (.int 1) ∧ Fr n0 L
theorem own_eqI {args : Array Value} {first s : State} {o : Option Outcome} {idx : List Nat} {t : Term} {k : Int32} (h : (Jvm.Cond.eq t (.int k)).value args first o s idx = some true) : t.eval args first o idx s = some (.int k) := by
  obtain ⟨x, y, h1, h2, h3, h4⟩ := cmp_v (Or.inl h)
  have e2 : y = .int k := (Option.some.inj (h2.symm.trans (Term.int_eval k)))
  subst e2
  obtain ⟨z, rfl⟩ : ∃ z, x = .int z := h4
  rw [h1]
  have q : (Jvm.Cond.eq t (.int k)).value args first o s idx = some (decide (z = k)) := Cond.eq_ints h1 h2
  rw [gotT q h]
theorem own_ne {Z : State} {h : Heap} {a b : Addr} {C n d : String} {v w : Value} (F : Fld Z h a C n d v) (G : Fld Z h b C n d w) (hv : v ≠ w) : ¬ a = b := fun e => by
  subst e
  obtain ⟨cell, cf, k, i, f, h1, h2, -, -, -, -, h7⟩ := F
  obtain ⟨cell', cf', k', i', f', g1, g2, -, -, -, -, g7⟩ := G
  cases h1.symm.trans g1
  cases h2.symm.trans g2
  cases h7.symm.trans g7
  exact hv rfl
theorem own_sm {a b : Addr} (h : a = b) : decide ((.ref a : Value) = .ref b) = true := decide_eq_true (congrArg Value.ref h)
theorem own_df {a b : Addr} (h : ¬ a = b) : decide ((.ref a : Value) = .ref b) = false := decide_eq_false fun q => h (Value.ref.inj q)
theorem own_nv {x y : Int32} (h : x ≠ y) : (Value.int x) ≠ .int y := fun q => h (Value.int.inj q)
theorem own_m3 (k : Int32) : (k &&& (3 : Int32)) = 0 ∨ (k &&& (3 : Int32)) = 1 ∨ (k &&& (3 : Int32)) = 2 ∨ (k &&& (3 : Int32)) = 3 := by
  have h := c_and k 3 (by decide)
  have e0 : (0 : Int32).toInt = 0 := by decide
  have e1 : (1 : Int32).toInt = 1 := by decide
  have e2 : (2 : Int32).toInt = 2 := by decide
  have e3 : (3 : Int32).toInt = 3 := by decide
  simp only [← Int32.toInt_inj, e0, e1, e2, e3] at *
  omega
theorem own_staKeep {Z : State} {h h' : Heap} {b : Addr} {C n d K : String} {v : Value} (F : Sta Z h C n d v) (Kp : Keep h h' [b]) (E : Exa Z h b K) : Sta Z h' C n d v := by
  obtain ⟨cf, i, k, f, st, cell, h1, h2, h3, h4, h5, h6, h7⟩ := F
  obtain ⟨cb, kb, e1, -, -, e4, -⟩ := E
  have ne : st ≠ b := fun q => by
    subst q
    cases h5.symm.trans e1
    rw [h6] at e4
    cases e4
  exact ⟨cf, i, k, f, st, cell, h1, h2, h3, h4, Kp.2.1 st cell h5 (ninS ne nin0), h6, h7⟩
theorem own_staKeep0 {Z : State} {h h' : Heap} {C n d : String} {v : Value} (F : Sta Z h C n d v) (Kp : Keep h h' []) : Sta Z h' C n d v := by
  obtain ⟨cf, i, k, f, st, cell, h1, h2, h3, h4, h5, h6, h7⟩ := F
  exact ⟨cf, i, k, f, st, cell, h1, h2, h3, h4, Kp.2.1 st cell h5 nin0, h6, h7⟩
theorem own_chr (x : Int32) : ¬ (255 : Int32) < ((x &&& (255 : Int32)).toUInt32.toUInt16.toUInt32.toInt32) := by
  rw [i2c_mask]
  have h := c_and x 255 (by decide)
  have e : (255 : Int32).toInt = 255 := by decide
  rw [Int32.lt_iff_toInt_lt]
  omega
/-- which constant pickKind hands out -/
def own_pick (k : Int32) (r kr kg kc ku : Addr) : Prop := (k = 0 ∧ r = kr) ∨ (k = 1 ∧ r = kg) ∨ (k = 2 ∧ r = kc) ∨ (k = 3 ∧ r = ku)
/-- the mask of a space of z bytes -/
def own_msk (z : Int32) (M : Int64) : Prop := (z = 8 ∧ M = (-1 : Int64)) ∨ (¬ z = 8 ∧ M = (((1 : Int64) <<< (((8 : Int32) * z) &&& 0x3f).toInt64) - (1 : Int64)))
theorem own_c3 (P Q : Prop) [Decidable P] [Decidable Q] : P ∨ (¬ P ∧ Q) ∨ (¬ P ∧ ¬ Q) := by
  by_cases p : P
  · exact Or.inl p
  · by_cases q : Q
    · exact Or.inr (Or.inl ⟨p, q⟩)
    · exact Or.inr (Or.inr ⟨p, q⟩)
/-- pickAddress -/
def own_adr (k : Int32) (a : Int64) (b c : Int32) : Int64 := if k = 1 then ((a.toUInt64 >>> ((b &&& (63 : Int32)) &&& 0x3f).toInt64.toUInt64).toInt64) else if k = 2 then (((1 : Int64) <<< ((b &&& (63 : Int32)) &&& 0x3f).toInt64) + (((c &&& (7 : Int32)) - (4 : Int32)).toInt64)) else a
/-- what contains answers -/
def own_con (x M : Int64) : Int32 := if (x &&& (M ^^^ (-1 : Int64))) = 0 then 1 else 0
theorem own_bits (x m : BitVec 64) : x &&& (m ^^^ BitVec.allOnes 64) = 0#64 ↔ x &&& m = x := by
  constructor
  · intro h
    apply BitVec.eq_of_getElem_eq
    intro i hi
    have q := congrArg (fun y => y[i]) h
    simp only [BitVec.getElem_and, BitVec.getElem_xor, BitVec.getElem_allOnes, BitVec.getElem_zero] at q ⊢
    revert q
    cases x[i] <;> cases m[i] <;> decide
  · intro h
    apply BitVec.eq_of_getElem_eq
    intro i hi
    have q := congrArg (fun y => y[i]) h
    simp only [BitVec.getElem_and, BitVec.getElem_xor, BitVec.getElem_allOnes, BitVec.getElem_zero] at q ⊢
    revert q
    cases x[i] <;> cases m[i] <;> decide
theorem own_and0 (x m : Int64) : x &&& (m ^^^ (-1 : Int64)) = 0 ↔ x &&& m = x := by
  rw [← Int64.toBitVec_inj, ← Int64.toBitVec_inj, Int64.toBitVec_and, Int64.toBitVec_and, Int64.toBitVec_xor]
  exact own_bits x.toBitVec m.toBitVec
theorem own_msk1 (x m U : Int64) (k : Nat) (hk : k ≤ 62) (hm : m.toBitVec.toNat = 2 ^ k - 1) (hU : U.toInt = (2 ^ k : Nat)) : x &&& (m ^^^ (-1 : Int64)) = 0 ↔ ¬ x < 0 ∧ x < U := by
  rw [own_and0, ← Int64.toInt_inj, c_maskL x m k (by omega) hm, Int64.lt_iff_toInt_lt, Int64.lt_iff_toInt_lt, hU]
  have e0 : (0 : Int64).toInt = 0 := by decide
  have hp : (0 : Int) < (2 ^ k : Nat) := by exact_mod_cast Nat.two_pow_pos k
  rw [e0]
  constructor
  · intro h
    have h1 := Int.emod_nonneg x.toInt (Int.ne_of_gt hp)
    have h2 := Int.emod_lt_of_pos x.toInt hp
    omega
  · intro h
    exact Int.emod_eq_of_lt (by omega) h.2
theorem own_z7 (z : Int32) (h1 : ¬ z < 1) (h2 : ¬ (8 : Int32) < z) (h3 : ¬ z = 8) : z = 1 ∨ z = 2 ∨ z = 3 ∨ z = 4 ∨ z = 5 ∨ z = 6 ∨ z = 7 := by
  have e1 : (1 : Int32).toInt = 1 := by decide
  have e2 : (2 : Int32).toInt = 2 := by decide
  have e3 : (3 : Int32).toInt = 3 := by decide
  have e4 : (4 : Int32).toInt = 4 := by decide
  have e5 : (5 : Int32).toInt = 5 := by decide
  have e6 : (6 : Int32).toInt = 6 := by decide
  have e7 : (7 : Int32).toInt = 7 := by decide
  have e8 : (8 : Int32).toInt = 8 := by decide
  rw [Int32.lt_iff_toInt_lt, e1] at h1
  rw [Int32.lt_iff_toInt_lt, e8] at h2
  rw [← Int32.toInt_inj, e8] at h3
  rw [← Int32.toInt_inj, ← Int32.toInt_inj, ← Int32.toInt_inj, ← Int32.toInt_inj, ← Int32.toInt_inj, ← Int32.toInt_inj, ← Int32.toInt_inj, e1, e2, e3, e4, e5, e6, e7]
  omega
theorem own_law (x M : Int64) (z : Int32) (h1 : ¬ z < 1) (h2 : ¬ (8 : Int32) < z) (h3 : ¬ z = 8) (hM : own_msk z M) : x &&& (M ^^^ (-1 : Int64)) = 0 ↔ ¬ x < 0 ∧ x < ((1 : Int64) <<< (((8 : Int32) * z) &&& 0x3f).toInt64) := by
  rcases hM with ⟨h, -⟩ | ⟨-, rfl⟩
  · exact absurd h h3
  · rcases own_z7 z h1 h2 h3 with rfl | rfl | rfl | rfl | rfl | rfl | rfl
    · exact own_msk1 x _ _ 8 (by decide) (by decide) (by decide)
    · exact own_msk1 x _ _ 16 (by decide) (by decide) (by decide)
    · exact own_msk1 x _ _ 24 (by decide) (by decide) (by decide)
    · exact own_msk1 x _ _ 32 (by decide) (by decide) (by decide)
    · exact own_msk1 x _ _ 40 (by decide) (by decide) (by decide)
    · exact own_msk1 x _ _ 48 (by decide) (by decide) (by decide)
    · exact own_msk1 x _ _ 56 (by decide) (by decide) (by decide)
theorem own_all (x M : Int64) (z : Int32) (h : z = 8) (hM : own_msk z M) : own_con x M = 1 := by
  rcases hM with ⟨-, rfl⟩ | ⟨h', -⟩
  · exact if_pos ((own_and0 x (-1)).mpr (by rw [← Int64.toBitVec_inj, Int64.toBitVec_and]; exact BitVec.and_allOnes))
  · exact absurd h h'
theorem own_size (x : Int32) : ¬ ((x &&& (7 : Int32)) + (1 : Int32)) < 1 ∧ ¬ (8 : Int32) < ((x &&& (7 : Int32)) + (1 : Int32)) := by
  have h := c_and x 7 (by decide)
  have a := c_iadd (x &&& 7) 1
  have r := rng32 ((x &&& 7) + 1)
  have e1 : (1 : Int32).toInt = 1 := by decide
  have e7 : (7 : Int32).toInt = 7 := by decide
  have e8 : (8 : Int32).toInt = 8 := by decide
  rw [Int32.lt_iff_toInt_lt, Int32.lt_iff_toInt_lt]
  omega
def own_QC (Z : State) (a : Addr) (M : Int64) (h0 : Heap) (n0 : Nat) (v : Option Value) (h : Heap) (L : List Loc) : Prop := v = none ∧ Fr n0 L ∧ Keep h0 h [a] ∧ Exa Z h a "com/example/tablewright/tablewright/model/AddressSpace" ∧ Fld Z h a "com/example/tablewright/tablewright/model/AddressSpace" "addressMask" "J" (.long M)
theorem own_four (z : Int32) (P Q : Prop) [Decidable P] [Decidable Q] : z = 8 ∨ (¬ z = 8 ∧ P) ∨ (¬ z = 8 ∧ ¬ P ∧ Q) ∨ (¬ z = 8 ∧ ¬ P ∧ ¬ Q) := by
  by_cases h : z = 8
  · exact Or.inl h
  · by_cases p : P
    · exact Or.inr (Or.inl ⟨h, p⟩)
    · by_cases q : Q
      · exact Or.inr (Or.inr (Or.inl ⟨h, p, q⟩))
      · exact Or.inr (Or.inr (Or.inr ⟨h, p, q⟩))
/-- what a maker of a String leaves: a new one; all that was there is as it was -/
def own_QS (Z : State) (h0 : Heap) (n0 : Nat) (v : Option Value) (h : Heap) (L : List Loc) : Prop := ∃ b : Addr, v = some (.ref b) ∧ Fr n0 L ∧ Keep h0 h [] ∧ h0.size ≤ b ∧ Exa Z h b "java/lang/String"
theorem d4_0 : decode jdk_43_method_46_code 0 = .ok (.iconst 1, 1) := by decide +kernel
theorem d4_1 : decode jdk_43_method_46_code 1 = .ok (.newarray .byte, 2) := by decide +kernel
theorem d4_3 : decode jdk_43_method_46_code 3 = .ok (.dup, 1) := by decide +kernel
theorem d4_4 : decode jdk_43_method_46_code 4 = .ok (.iconst 0, 1) := by decide +kernel
theorem d4_5 : decode jdk_43_method_46_code 5 = .ok (.iload_n 0, 1) := by decide +kernel
theorem d4_6 : decode jdk_43_method_46_code 6 = .ok (.i2b, 1) := by decide +kernel
theorem d4_7 : decode jdk_43_method_46_code 7 = .ok (.bastore, 1) := by decide +kernel
theorem d4_8 : decode jdk_43_method_46_code 8 = .ok (.areturn, 1) := by decide +kernel
theorem pn_4 : plainName "java/lang/StringLatin1" = true := by first | (simp [plainName, overriddenIn]; done) | decide +kernel
theorem ef_4 (m : MethodId) (x0 : Int32) : entryFrame m #[(.int x0)] 1 = mkF m 0 #[.val (.int x0)] [] := by first | (simp [entryFrame, mkF, argsToLocals, Value.category]; done) | rfl
def Q4 (Z : State) (p1 : Int32) (h0 : Heap) (n0 : Nat) (v : Option Value) (h : Heap) (L : List Loc) : Prop := ∃ b2 : Addr, v = some (.ref b2) ∧ Fr n0 L ∧ Keep h0 h [] ∧ h0.size ≤ b2
set_option maxRecDepth 65536 in
set_option maxHeartbeats 40000000 in
theorem rm4 (l : Launch) (Z : State) (a0 : Array Value) (hw : ∀ d ∈ tables_1, d.before a0 Z = true) (ws : List Jvm.Cond) (p1 : Int32) (h0 : Heap) (n0 : Nat) (Z0 : n0 ≤ h0.size) :
    MetFree l (⟨"java/lang/StringLatin1", "toBytes", "(C)[B"⟩ : MethodName) (head1 (Jvm.Cond.code (⟨"java/lang/StringLatin1", "toBytes", "(C)[B"⟩ : MethodName) jdk_43_method_46_code 1 (some (.array .byte)) :: ws) ({ frames := 0, cells := 1, slots := 1, locals := 0 } : Room)) (fun a U => a = #[(.int p1)] ∧ Z.Warmed39 U.vm ∧ U.heap = h0) (fun _ _ _ _ _ => True) (fun _ U o U' => ∃ v L, o = .returned v ∧ Q4 Z p1 h0 n0 v U'.heap L ∧ FrameEnd U o U' L ({ frames := 0, cells := 1, slots := 1, locals := 0 } : Room).cells ({ frames := 0, cells := 1, slots := 1, locals := 0 } : Room).slots) := by
  refine MetFree.of_bodySF (plainFor_of_name pn_4) hisR ?_
  intro p e s m args below meth c s₁ Bd hml0 hP hK
  obtain ⟨rfl, hZ, hh⟩ := hP
  have hx := Bd.exec
  have hby := Bd.bytes
  have hml : c.maxLocals = 1 := hml0
  have hown : s.vm.findClass "java/lang/StringLatin1" = some m.cls := findClass_of_methodNamed Bd.named
  have hnm := (name_of_methodNamed Bd.named Bd.method).1
  have X0 : Stand p l e ({ frames := 0, cells := 1, slots := 1, locals := 0 } : Room) s m #[(.int p1)] below meth c s₁ [] 0 0 := Stand.of_body Bd
  have e0 : s₁.heap = h0 := by rw [← hh, Bd.state]; rfl
  have N0 := Fr.nil n0
  have pre0 : ∀ t, Steps p.tables e below (s₁.setTop (mkF m 0 #[.val (.int p1)] [])) t → Steps p.tables e below (s₁.setTop (entryFrame m #[(.int p1)] 1)) t := fun t k => castTop (ef_4 m p1) k
  obtain ⟨T2, h2, k2, X2, e2, E2, A2, st2⟩ := newP X0 hx hZ (hw _ (List.mem_of_getElem? (i := 21) rfl)) e0 (g := (mkF m 1 #[.val (.int p1)] [(.int (1 : Int32))])) rfl (hb hby d4_1) rfl (by decide) (cap := 1) (by decide) (by decide) (by decide) (by decide)
  obtain ⟨b2, g2⟩ : ∃ z, z = h0.size := ⟨_, rfl⟩
  rw [← g2] at A2 st2
  have V_b2 : Arv Z h2 b2 k2 .byte (1 : Int32) [(.int (0 : Int32))] (.int (0 : Int32)) := (Arv.new A2 (by decide)).pad (pad_rep [] (.int (0 : Int32)) 1)
  have g_b2 : n0 ≤ b2 := Nat.le_trans Z0 (Nat.le_of_eq g2.symm)
  have sz_b2 : h0.size ≤ b2 := (Nat.le_trans (Keep.refl h0 []).1 (Nat.le_of_eq g2.symm))
  have K2 : Keep h0 h2 [] := (Keep.refl h0 []).ext E2
  obtain ⟨cl_b2_7, Ar_b2, q_b2, S_b2, N_b2, H_b2, G_b2⟩ := V_b2
  have hin7 : ¬ ((0 : Int32) < 0 ∨ cl_b2_7.slots.size ≤ ((0 : Int32)).toNatClampNeg) := inb_of S_b2 ⟨by decide, by decide⟩
  obtain ⟨T3, h3, X3, e3, W3, st3⟩ := stB X2 hx hZ e2 Ar_b2 (j := (0 : Int32)) hin7 (g := (mkF m 7 #[.val (.int p1)] [(.int (p1.toInt8.toInt32)), (.int (0 : Int32)), (.ref b2), (.ref b2)])) rfl rfl (hb hby d4_7)
  have V_b2_3 := Arv.set Ar_b2 q_b2 S_b2 N_b2 H_b2 G_b2 (fits_nar_byte _) W3 0 rfl (Nat.le_of_ble_eq_true rfl)
  have K3 : Keep h0 h3 [] := K2.wr W3 (Or.inr sz_b2)
  have N3 := Fr.snoc X3 N0 g_b2
  obtain ⟨fs, hr, hrun, hended, hW, hsame⟩ := X3.leave (v := some (.ref b2)) (fun h => by rw [Bd.returns] at h; cases h)
  refine ⟨_, _, pre0 _ ?_, hrun, hended, _, _, rfl, ?_, ⟨_, rfl⟩, hW, hsame.mono (by decide) (by decide)⟩
  · show Steps p.tables e below (s₁.setTop (mkF m 0 #[.val (.int p1)] [])) _
    refine XS.iconst X0.here hx rfl (hb hby d4_0) ?_
    show Steps p.tables e below (s₁.setTop (mkF m 1 #[.val (.int p1)] [(.int (1 : Int32))])) _
    refine st2 _ ?_
    show Steps p.tables e below (T2.setTop (mkF m 3 #[.val (.int p1)] [(.ref b2)])) _
    refine XS.dup X2.here hx rfl (hb hby d4_3) rfl rfl ?_
    show Steps p.tables e below (T2.setTop (mkF m 4 #[.val (.int p1)] [(.ref b2), (.ref b2)])) _
    refine XS.iconst X2.here hx rfl (hb hby d4_4) ?_
    show Steps p.tables e below (T2.setTop (mkF m 5 #[.val (.int p1)] [(.int (0 : Int32)), (.ref b2), (.ref b2)])) _
    refine XS.iloadN X2.here hx rfl (hb hby d4_5) rfl ?_
    show Steps p.tables e below (T2.setTop (mkF m 6 #[.val (.int p1)] [(.int p1), (.int (0 : Int32)), (.ref b2), (.ref b2)])) _
    refine XS.i2b X2.here hx rfl (hb hby d4_6) rfl ?_
    show Steps p.tables e below (T2.setTop (mkF m 7 #[.val (.int p1)] [(.int (p1.toInt8.toInt32)), (.int (0 : Int32)), (.ref b2), (.ref b2)])) _
    refine st3 _ ?_
    show Steps p.tables e below (T3.setTop (mkF m 8 #[.val (.int p1)] [(.ref b2)])) _
    jvm_step X3.here [X3.here.top, hx, (hb hby d4_8), X3.method', Bd.returns, Value.isRef, FieldType.isReference]
    first | (intro acts; rw [hr _ acts rfl rfl rfl]) | rw [hr _ _ rfl rfl rfl]
    exact Steps.refl _
  · show Q4 Z p1 h0 n0 _ T3.heap _
    rw [e3]
    exact ⟨b2, rfl, N3, K3, sz_b2⟩
theorem d5_0 : decode jdk_42_method_151_code 0 = .ok (.aload_n 0, 1) := by decide +kernel
theorem d5_1 : decode jdk_42_method_151_code 1 = .ok (.invokespecial 1, 3) := by decide +kernel
theorem d5_4 : decode jdk_42_method_151_code 4 = .ok (.aload_n 0, 1) := by decide +kernel
theorem d5_5 : decode jdk_42_method_151_code 5 = .ok (.aload_n 1, 1) := by decide +kernel
theorem d5_6 : decode jdk_42_method_151_code 6 = .ok (.putfield 9, 3) := by decide +kernel
theorem d5_9 : decode jdk_42_method_151_code 9 = .ok (.aload_n 0, 1) := by decide +kernel
theorem d5_10 : decode jdk_42_method_151_code 10 = .ok (.iload_n 2, 1) := by decide +kernel
theorem d5_11 : decode jdk_42_method_151_code 11 = .ok (.putfield 15, 3) := by decide +kernel
theorem d5_14 : decode jdk_42_method_151_code 14 = .ok (.return_, 1) := by decide +kernel
theorem pn_5 : plainName "java/lang/String" = true := by first | (simp [plainName, overriddenIn]; done) | decide +kernel
theorem ef_5 (m : MethodId) (x0 : Addr) (x1 : Addr) (x2 : Int32) : entryFrame m #[(.ref x0), (.ref x1), (.int x2)] 3 = mkF m 0 #[.val (.ref x0), .val (.ref x1), .val (.int x2)] [] := by first | (simp [entryFrame, mkF, argsToLocals, Value.category]; done) | rfl
def Q5 (Z : State) (a1 : Addr) (a2 : Addr) (p3 : Int32) (u_value_a1 : Value) (u_coder_a1 : Value) (h0 : Heap) (n0 : Nat) (v : Option Value) (h : Heap) (L : List Loc) : Prop := v = none ∧ Fr n0 L ∧ Keep h0 h [a1] ∧ Exa Z h a1 "java/lang/String" ∧ Fld Z h a1 "java/lang/String" "value" "[B" (.ref a2) ∧ Fld Z h a1 "java/lang/String" "coder" "B" (.int (p3.toInt8.toInt32))
set_option maxRecDepth 65536 in
set_option maxHeartbeats 40000000 in
theorem rm5 (l : Launch) (Z : State) (a0 : Array Value) (hw : ∀ d ∈ tables_1, d.before a0 Z = true) (ws : List Jvm.Cond) (a1 : Addr) (a2 : Addr) (p3 : Int32) (u_value_a1 : Value) (u_coder_a1 : Value) (h0 : Heap) (n0 : Nat) (Z0 : n0 ≤ h0.size) (E_a1 : Exa Z h0 a1 "java/lang/String") (F_value_a1 : Fld Z h0 a1 "java/lang/String" "value" "[B" u_value_a1) (g_a1 : n0 ≤ a1) (F_coder_a1 : Fld Z h0 a1 "java/lang/String" "coder" "B" u_coder_a1) :
    MetFree l (⟨"java/lang/String", "<init>", "([BB)V"⟩ : MethodName) (head1 (Jvm.Cond.code (⟨"java/lang/String", "<init>", "([BB)V"⟩ : MethodName) jdk_42_method_151_code 3 none :: ws) ({ frames := 1, cells := 0, slots := 0, locals := 12 } : Room)) (fun a U => a = #[(.ref a1), (.ref a2), (.int p3)] ∧ Z.Warmed39 U.vm ∧ U.heap = h0) (fun _ _ _ _ _ => True) (fun _ U o U' => ∃ v L, o = .returned v ∧ Q5 Z a1 a2 p3 u_value_a1 u_coder_a1 h0 n0 v U'.heap L ∧ FrameEnd U o U' L ({ frames := 1, cells := 0, slots := 0, locals := 12 } : Room).cells ({ frames := 1, cells := 0, slots := 0, locals := 12 } : Room).slots) := by
  refine MetFree.of_bodySF (plainFor_of_name pn_5) hisR ?_
  intro p e s m args below meth c s₁ Bd hml0 hP hK
  obtain ⟨rfl, hZ, hh⟩ := hP
  have hx := Bd.exec
  have hby := Bd.bytes
  have hml : c.maxLocals = 3 := hml0
  have hown : s.vm.findClass "java/lang/String" = some m.cls := findClass_of_methodNamed Bd.named
  have hnm := (name_of_methodNamed Bd.named Bd.method).1
  have X0 : Stand p l e ({ frames := 1, cells := 0, slots := 0, locals := 12 } : Room) s m #[(.ref a1), (.ref a2), (.int p3)] below meth c s₁ [] 0 0 := Stand.of_body Bd
  have e0 : s₁.heap = h0 := by rw [← hh, Bd.state]; rfl
  have N0 := Fr.nil n0
  have pre0 : ∀ t, Steps p.tables e below (s₁.setTop (mkF m 0 #[.val (.ref a1), .val (.ref a2), .val (.int p3)] [])) t → Steps p.tables e below (s₁.setTop (entryFrame m #[(.ref a1), (.ref a2), (.int p3)] 3)) t := fun t k => castTop (ef_5 m a1 a2 p3) k
  obtain ⟨T4, X4, e4, st4⟩ := initO X0 hx hZ hown (hw _ (List.mem_of_getElem? (i := 26) rfl)) (hw _ (List.mem_of_getElem? (i := 27) rfl)) (hw _ (List.mem_of_getElem? (i := 28) rfl)) e0 (g := (mkF m 1 #[.val (.ref a1), .val (.ref a2), .val (.int p3)] [(.ref a1)])) rfl (by rw [hml]; rfl) rfl (hb hby d5_1) (by decide) (W := 0) (by show 2 * 0 + _ ≤ _; exact Nat.le_of_eq rfl) (by decide)
  obtain ⟨T5, h5, X5, e5, W5, st5⟩ := putF X4 hx hZ hown (host := "") (Or.inl (hw _ (List.mem_of_getElem? (i := 29) rfl))) Via.refl e4 F_value_a1 E_a1 (Or.inr ⟨(hw _ (List.mem_of_getElem? (i := 30) rfl)), rfl, hnm⟩) (hw _ (List.mem_of_getElem? (i := 17) rfl)) (ty := (.array .byte)) (by decide) rfl rfl (g := (mkF m 6 #[.val (.ref a1), .val (.ref a2), .val (.int p3)] [(.ref a2), (.ref a1)])) rfl rfl (hb hby d5_6)
  have Fw5 := F_value_a1.same W5
  have K5 : Keep h0 h5 [a1] := (Keep.refl h0 [a1]).wr W5 (Or.inl (List.mem_of_getElem? (i := 0) rfl))
  have N5 := Fr.snoc X5 N0 g_a1
  obtain ⟨T6, h6, X6, e6, W6, st6⟩ := putFN X5 hx hZ hown (hw _ (List.mem_of_getElem? (i := 31) rfl)) Via.refl e5 (F_coder_a1.other W5 (Or.inr (slot_ne (Or.inr (hw _ (List.mem_of_getElem? (i := 32) rfl))) (Or.inr (hw _ (List.mem_of_getElem? (i := 30) rfl))) (by decide) (t := .byte) (t' := (.array .byte)) (by decide) (by decide)))) (E_a1.wr W5) (Or.inr ⟨(hw _ (List.mem_of_getElem? (i := 32) rfl)), rfl, hnm⟩) (hw _ (List.mem_of_getElem? (i := 17) rfl)) (ty := .byte) (v' := (.int (p3.toInt8.toInt32))) (by decide) rfl (fits_nar_byte _) (g := (mkF m 11 #[.val (.ref a1), .val (.ref a2), .val (.int p3)] [(.int p3), (.ref a1)])) rfl rfl (hb hby d5_11)
  have Fw6 := (F_coder_a1.other W5 (Or.inr (slot_ne (Or.inr (hw _ (List.mem_of_getElem? (i := 32) rfl))) (Or.inr (hw _ (List.mem_of_getElem? (i := 30) rfl))) (by decide) (t := .byte) (t' := (.array .byte)) (by decide) (by decide)))).same W6
  have K6 : Keep h0 h6 [a1] := K5.wr W6 (Or.inl (List.mem_of_getElem? (i := 0) rfl))
  have N6 := Fr.snoc X6 N5 g_a1
  obtain ⟨fs, hr, hrun, hended, hW, hsame⟩ := X6.leave (v := none) (fun _ => rfl)
  refine ⟨_, _, pre0 _ ?_, hrun, hended, _, _, rfl, ?_, ⟨_, rfl⟩, hW, hsame.mono (by decide) (by decide)⟩
  · show Steps p.tables e below (s₁.setTop (mkF m 0 #[.val (.ref a1), .val (.ref a2), .val (.int p3)] [])) _
    refine XS.aloadN X0.here hx rfl (hb hby d5_0) rfl rfl ?_
    show Steps p.tables e below (s₁.setTop (mkF m 1 #[.val (.ref a1), .val (.ref a2), .val (.int p3)] [(.ref a1)])) _
    refine st4 _ ?_
    show Steps p.tables e below (T4.setTop (mkF m 4 #[.val (.ref a1), .val (.ref a2), .val (.int p3)] [])) _
    refine XS.aloadN X4.here hx rfl (hb hby d5_4) rfl rfl ?_
    show Steps p.tables e below (T4.setTop (mkF m 5 #[.val (.ref a1), .val (.ref a2), .val (.int p3)] [(.ref a1)])) _
    refine XS.aloadN X4.here hx rfl (hb hby d5_5) rfl rfl ?_
    show Steps p.tables e below (T4.setTop (mkF m 6 #[.val (.ref a1), .val (.ref a2), .val (.int p3)] [(.ref a2), (.ref a1)])) _
    refine st5 _ ?_
    show Steps p.tables e below (T5.setTop (mkF m 9 #[.val (.ref a1), .val (.ref a2), .val (.int p3)] [])) _
    refine XS.aloadN X5.here hx rfl (hb hby d5_9) rfl rfl ?_
    show Steps p.tables e below (T5.setTop (mkF m 10 #[.val (.ref a1), .val (.ref a2), .val (.int p3)] [(.ref a1)])) _
    refine XS.iloadN X5.here hx rfl (hb hby d5_10) rfl ?_
    show Steps p.tables e below (T5.setTop (mkF m 11 #[.val (.ref a1), .val (.ref a2), .val (.int p3)] [(.int p3), (.ref a1)])) _
    refine st6 _ ?_
    show Steps p.tables e below (T6.setTop (mkF m 14 #[.val (.ref a1), .val (.ref a2), .val (.int p3)] [])) _
    exact X6.returnOut hx Bd.returns (hb hby d5_14) hr
  · show Q5 Z a1 a2 p3 u_value_a1 u_coder_a1 h0 n0 _ T6.heap _
    rw [e6]
    exact ⟨rfl, N6, K6, ((E_a1.wr W5).wr W6), (Fw5.other W6 (Or.inr (slot_ne (Or.inr (hw _ (List.mem_of_getElem? (i := 30) rfl))) (Or.inr (hw _ (List.mem_of_getElem? (i := 32) rfl))) (by decide) (t := (.array .byte)) (t' := .byte) (by decide) (by decide)))), Fw6⟩
theorem own_ef0 (m : MethodId) (x0 : Int32) : entryFrame m #[(.int x0)] 1 = mkF m 0 #[.val (.int x0)] [] := by first | (simp [entryFrame, mkF, argsToLocals, Value.category]; done) | rfl
theorem own_pn0 : plainName "java/lang/StringLatin1" = true := by first | (simp [plainName, overriddenIn]; done) | decide +kernel
theorem own_d_jdk_43_method_3_code_0 : decode jdk_43_method_3_code 0 = .ok (.iload_n 0, 1) := by decide +kernel
theorem own_d_jdk_43_method_3_code_1 : decode jdk_43_method_3_code 1 = .ok (.sipush 255, 3) := by decide +kernel
theorem own_d_jdk_43_method_3_code_4 : decode jdk_43_method_3_code 4 = .ok (.if_icmp .gt 7, 3) := by decide +kernel
theorem own_d_jdk_43_method_3_code_7 : decode jdk_43_method_3_code 7 = .ok (.iconst 1, 1) := by decide +kernel
theorem own_d_jdk_43_method_3_code_8 : decode jdk_43_method_3_code 8 = .ok (.goto 4, 3) := by decide +kernel
theorem own_d_jdk_43_method_3_code_12 : decode jdk_43_method_3_code 12 = .ok (.ireturn, 1) := by decide +kernel
theorem own_ef1 (m : MethodId) (x0 : Int32) : entryFrame m #[(.int x0)] 1 = mkF m 0 #[.val (.int x0)] [] := by first | (simp [entryFrame, mkF, argsToLocals, Value.category]; done) | rfl
theorem own_pn1 : plainName "java/lang/String" = true := by first | (simp [plainName, overriddenIn]; done) | decide +kernel
theorem own_pd0 : parseMethodDescriptor "(C)Z" = some ⟨[.char], some .boolean⟩ := by decide +kernel
theorem own_pd1 : parseMethodDescriptor "(C)[B" = some ⟨[.char], some (.array .byte)⟩ := by decide +kernel
theorem own_pd2 : parseMethodDescriptor "([BB)V" = some ⟨[(.array .byte), .byte], none⟩ := by decide +kernel
theorem own_d_jdk_42_method_139_code_0 : decode jdk_42_method_139_code 0 = .ok (.getstatic 38, 3) := by decide +kernel
theorem own_d_jdk_42_method_139_code_3 : decode jdk_42_method_139_code 3 = .ok (.ifCond .eq 23, 3) := by decide +kernel
theorem own_d_jdk_42_method_139_code_6 : decode jdk_42_method_139_code 6 = .ok (.iload_n 0, 1) := by decide +kernel
theorem own_d_jdk_42_method_139_code_7 : decode jdk_42_method_139_code 7 = .ok (.invokestatic 1015, 3) := by decide +kernel
theorem own_d_jdk_42_method_139_code_10 : decode jdk_42_method_139_code 10 = .ok (.ifCond .eq 16, 3) := by decide +kernel
theorem own_d_jdk_42_method_139_code_13 : decode jdk_42_method_139_code 13 = .ok (.new 10, 3) := by decide +kernel
theorem own_d_jdk_42_method_139_code_16 : decode jdk_42_method_139_code 16 = .ok (.dup, 1) := by decide +kernel
theorem own_d_jdk_42_method_139_code_17 : decode jdk_42_method_139_code 17 = .ok (.iload_n 0, 1) := by decide +kernel
theorem own_d_jdk_42_method_139_code_18 : decode jdk_42_method_139_code 18 = .ok (.invokestatic 1018, 3) := by decide +kernel
theorem own_d_jdk_42_method_139_code_21 : decode jdk_42_method_139_code 21 = .ok (.iconst 0, 1) := by decide +kernel
theorem own_d_jdk_42_method_139_code_22 : decode jdk_42_method_139_code 22 = .ok (.invokespecial 209, 3) := by decide +kernel
theorem own_d_jdk_42_method_139_code_25 : decode jdk_42_method_139_code 25 = .ok (.areturn, 1) := by decide +kernel
theorem own_ef2 (m : MethodId) (x0 : Int32) : entryFrame m #[(.int x0)] 1 = mkF m 0 #[.val (.int x0)] [] := by first | (simp [entryFrame, mkF, argsToLocals, Value.category]; done) | rfl
theorem own_pn2 : plainName "com/example/tablewright/tablewright/model/AddressSpaceContainsPinLaw" = true := by first | (simp [plainName, overriddenIn]; done) | decide +kernel
theorem own_d_method_3_code_0 : decode method_3_code 0 = .ok (.iload_n 0, 1) := by decide +kernel
theorem own_d_method_3_code_1 : decode method_3_code 1 = .ok (.ifCond .ne 7, 3) := by decide +kernel
theorem own_d_method_3_code_4 : decode method_3_code 4 = .ok (.getstatic 32, 3) := by decide +kernel
theorem own_d_method_3_code_7 : decode method_3_code 7 = .ok (.areturn, 1) := by decide +kernel
theorem own_d_method_3_code_8 : decode method_3_code 8 = .ok (.iload_n 0, 1) := by decide +kernel
theorem own_d_method_3_code_9 : decode method_3_code 9 = .ok (.iconst 1, 1) := by decide +kernel
theorem own_d_method_3_code_10 : decode method_3_code 10 = .ok (.if_icmp .ne 7, 3) := by decide +kernel
theorem own_d_method_3_code_13 : decode method_3_code 13 = .ok (.getstatic 38, 3) := by decide +kernel
theorem own_d_method_3_code_16 : decode method_3_code 16 = .ok (.areturn, 1) := by decide +kernel
theorem own_d_method_3_code_17 : decode method_3_code 17 = .ok (.iload_n 0, 1) := by decide +kernel
theorem own_d_method_3_code_18 : decode method_3_code 18 = .ok (.iconst 2, 1) := by decide +kernel
theorem own_d_method_3_code_19 : decode method_3_code 19 = .ok (.if_icmp .ne 7, 3) := by decide +kernel
theorem own_d_method_3_code_22 : decode method_3_code 22 = .ok (.getstatic 41, 3) := by decide +kernel
theorem own_d_method_3_code_25 : decode method_3_code 25 = .ok (.areturn, 1) := by decide +kernel
theorem own_d_method_3_code_26 : decode method_3_code 26 = .ok (.getstatic 44, 3) := by decide +kernel
theorem own_d_method_3_code_29 : decode method_3_code 29 = .ok (.areturn, 1) := by decide +kernel
theorem own_ef3 (m : MethodId) (x0 : Int32) (x1 : Int64) (x2 : Int32) (x3 : Int32) : entryFrame m #[(.int x0), (.long x1), (.int x2), (.int x3)] 5 = mkF m 0 #[.val (.int x0), .val (.long x1), .second, .val (.int x2), .val (.int x3)] [] := by first | (simp [entryFrame, mkF, argsToLocals, Value.category]; done) | rfl
theorem own_d_method_4_code_0 : decode method_4_code 0 = .ok (.iload_n 0, 1) := by decide +kernel
theorem own_d_method_4_code_1 : decode method_4_code 1 = .ok (.iconst 1, 1) := by decide +kernel
theorem own_d_method_4_code_2 : decode method_4_code 2 = .ok (.if_icmp .ne 10, 3) := by decide +kernel
theorem own_d_method_4_code_5 : decode method_4_code 5 = .ok (.lload_n 1, 1) := by decide +kernel
theorem own_d_method_4_code_6 : decode method_4_code 6 = .ok (.iload_n 3, 1) := by decide +kernel
theorem own_d_method_4_code_7 : decode method_4_code 7 = .ok (.bipush 63, 2) := by decide +kernel
theorem own_d_method_4_code_9 : decode method_4_code 9 = .ok (.iand, 1) := by decide +kernel
theorem own_d_method_4_code_10 : decode method_4_code 10 = .ok (.lushr, 1) := by decide +kernel
theorem own_d_method_4_code_11 : decode method_4_code 11 = .ok (.lreturn, 1) := by decide +kernel
theorem own_d_method_4_code_12 : decode method_4_code 12 = .ok (.iload_n 0, 1) := by decide +kernel
theorem own_d_method_4_code_13 : decode method_4_code 13 = .ok (.iconst 2, 1) := by decide +kernel
theorem own_d_method_4_code_14 : decode method_4_code 14 = .ok (.if_icmp .ne 19, 3) := by decide +kernel
theorem own_d_method_4_code_17 : decode method_4_code 17 = .ok (.lconst 1, 1) := by decide +kernel
theorem own_d_method_4_code_18 : decode method_4_code 18 = .ok (.iload_n 3, 1) := by decide +kernel
theorem own_d_method_4_code_19 : decode method_4_code 19 = .ok (.bipush 63, 2) := by decide +kernel
theorem own_d_method_4_code_21 : decode method_4_code 21 = .ok (.iand, 1) := by decide +kernel
theorem own_d_method_4_code_22 : decode method_4_code 22 = .ok (.lshl, 1) := by decide +kernel
theorem own_d_method_4_code_23 : decode method_4_code 23 = .ok (.iload 4, 2) := by decide +kernel
theorem own_d_method_4_code_25 : decode method_4_code 25 = .ok (.bipush 7, 2) := by decide +kernel
theorem own_d_method_4_code_27 : decode method_4_code 27 = .ok (.iand, 1) := by decide +kernel
theorem own_d_method_4_code_28 : decode method_4_code 28 = .ok (.iconst 4, 1) := by decide +kernel
theorem own_d_method_4_code_29 : decode method_4_code 29 = .ok (.isub, 1) := by decide +kernel
theorem own_d_method_4_code_30 : decode method_4_code 30 = .ok (.i2l, 1) := by decide +kernel
theorem own_d_method_4_code_31 : decode method_4_code 31 = .ok (.ladd, 1) := by decide +kernel
theorem own_d_method_4_code_32 : decode method_4_code 32 = .ok (.lreturn, 1) := by decide +kernel
theorem own_d_method_4_code_33 : decode method_4_code 33 = .ok (.lload_n 1, 1) := by decide +kernel
theorem own_d_method_4_code_34 : decode method_4_code 34 = .ok (.lreturn, 1) := by decide +kernel
theorem own_ef4 (m : MethodId) (x0 : Addr) (x1 : Addr) (x2 : Addr) (x3 : Int32) : entryFrame m #[(.ref x0), (.ref x1), (.ref x2), (.int x3)] 4 = mkF m 0 #[.val (.ref x0), .val (.ref x1), .val (.ref x2), .val (.int x3)] [] := by first | (simp [entryFrame, mkF, argsToLocals, Value.category]; done) | rfl
theorem own_pn3 : plainName "com/example/tablewright/tablewright/model/AddressSpace" = true := by first | (simp [plainName, overriddenIn]; done) | decide +kernel
theorem own_d_prog_83_method_1_code_0 : decode prog_83_method_1_code 0 = .ok (.aload_n 0, 1) := by decide +kernel
theorem own_d_prog_83_method_1_code_1 : decode prog_83_method_1_code 1 = .ok (.invokespecial 1, 3) := by decide +kernel
theorem own_d_prog_83_method_1_code_4 : decode prog_83_method_1_code 4 = .ok (.iload_n 3, 1) := by decide +kernel
theorem own_d_prog_83_method_1_code_5 : decode prog_83_method_1_code 5 = .ok (.iconst 1, 1) := by decide +kernel
theorem own_d_prog_83_method_1_code_6 : decode prog_83_method_1_code 6 = .ok (.if_icmp .lt 9, 3) := by decide +kernel
theorem own_d_prog_83_method_1_code_9 : decode prog_83_method_1_code 9 = .ok (.iload_n 3, 1) := by decide +kernel
theorem own_d_prog_83_method_1_code_10 : decode prog_83_method_1_code 10 = .ok (.bipush 8, 2) := by decide +kernel
theorem own_d_prog_83_method_1_code_12 : decode prog_83_method_1_code 12 = .ok (.if_icmp .le 17, 3) := by decide +kernel
theorem own_d_prog_83_method_1_code_29 : decode prog_83_method_1_code 29 = .ok (.aload_n 0, 1) := by decide +kernel
theorem own_d_prog_83_method_1_code_30 : decode prog_83_method_1_code 30 = .ok (.aload_n 1, 1) := by decide +kernel
theorem own_d_prog_83_method_1_code_31 : decode prog_83_method_1_code 31 = .ok (.putfield 18, 3) := by decide +kernel
theorem own_d_prog_83_method_1_code_34 : decode prog_83_method_1_code 34 = .ok (.aload_n 0, 1) := by decide +kernel
theorem own_d_prog_83_method_1_code_35 : decode prog_83_method_1_code 35 = .ok (.aload_n 2, 1) := by decide +kernel
theorem own_d_prog_83_method_1_code_36 : decode prog_83_method_1_code 36 = .ok (.putfield 24, 3) := by decide +kernel
theorem own_d_prog_83_method_1_code_39 : decode prog_83_method_1_code 39 = .ok (.aload_n 0, 1) := by decide +kernel
theorem own_d_prog_83_method_1_code_40 : decode prog_83_method_1_code 40 = .ok (.iload_n 3, 1) := by decide +kernel
theorem own_d_prog_83_method_1_code_41 : decode prog_83_method_1_code 41 = .ok (.putfield 28, 3) := by decide +kernel
theorem own_d_prog_83_method_1_code_44 : decode prog_83_method_1_code 44 = .ok (.aload_n 0, 1) := by decide +kernel
theorem own_d_prog_83_method_1_code_45 : decode prog_83_method_1_code 45 = .ok (.iload_n 3, 1) := by decide +kernel
theorem own_d_prog_83_method_1_code_46 : decode prog_83_method_1_code 46 = .ok (.bipush 8, 2) := by decide +kernel
theorem own_d_prog_83_method_1_code_48 : decode prog_83_method_1_code 48 = .ok (.if_icmp .ne 9, 3) := by decide +kernel
theorem own_d_prog_83_method_1_code_51 : decode prog_83_method_1_code 51 = .ok (.ldc2_w 32, 3) := by decide +kernel
theorem own_d_prog_83_method_1_code_54 : decode prog_83_method_1_code 54 = .ok (.goto 11, 3) := by decide +kernel
theorem own_d_prog_83_method_1_code_57 : decode prog_83_method_1_code 57 = .ok (.lconst 1, 1) := by decide +kernel
theorem own_d_prog_83_method_1_code_58 : decode prog_83_method_1_code 58 = .ok (.bipush 8, 2) := by decide +kernel
theorem own_d_prog_83_method_1_code_60 : decode prog_83_method_1_code 60 = .ok (.iload_n 3, 1) := by decide +kernel
theorem own_d_prog_83_method_1_code_61 : decode prog_83_method_1_code 61 = .ok (.imul, 1) := by decide +kernel
theorem own_d_prog_83_method_1_code_62 : decode prog_83_method_1_code 62 = .ok (.lshl, 1) := by decide +kernel
theorem own_d_prog_83_method_1_code_63 : decode prog_83_method_1_code 63 = .ok (.lconst 1, 1) := by decide +kernel
theorem own_d_prog_83_method_1_code_64 : decode prog_83_method_1_code 64 = .ok (.lsub, 1) := by decide +kernel
theorem own_d_prog_83_method_1_code_65 : decode prog_83_method_1_code 65 = .ok (.putfield 36, 3) := by decide +kernel
theorem own_d_prog_83_method_1_code_68 : decode prog_83_method_1_code 68 = .ok (.return_, 1) := by decide +kernel
theorem own_ef5 (m : MethodId) (x0 : Addr) (x1 : Int64) : entryFrame m #[(.ref x0), (.long x1)] 3 = mkF m 0 #[.val (.ref x0), .val (.long x1), .second] [] := by first | (simp [entryFrame, mkF, argsToLocals, Value.category]; done) | rfl
theorem own_d_prog_83_method_5_code_0 : decode prog_83_method_5_code 0 = .ok (.lload_n 1, 1) := by decide +kernel
theorem own_d_prog_83_method_5_code_1 : decode prog_83_method_5_code 1 = .ok (.aload_n 0, 1) := by decide +kernel
theorem own_d_prog_83_method_5_code_2 : decode prog_83_method_5_code 2 = .ok (.getfield 36, 3) := by decide +kernel
theorem own_d_prog_83_method_5_code_5 : decode prog_83_method_5_code 5 = .ok (.ldc2_w 32, 3) := by decide +kernel
theorem own_d_prog_83_method_5_code_8 : decode prog_83_method_5_code 8 = .ok (.lxor, 1) := by decide +kernel
theorem own_d_prog_83_method_5_code_9 : decode prog_83_method_5_code 9 = .ok (.land, 1) := by decide +kernel
theorem own_d_prog_83_method_5_code_10 : decode prog_83_method_5_code 10 = .ok (.lconst 0, 1) := by decide +kernel
theorem own_d_prog_83_method_5_code_11 : decode prog_83_method_5_code 11 = .ok (.lcmp, 1) := by decide +kernel
theorem own_d_prog_83_method_5_code_12 : decode prog_83_method_5_code 12 = .ok (.ifCond .ne 7, 3) := by decide +kernel
theorem own_d_prog_83_method_5_code_15 : decode prog_83_method_5_code 15 = .ok (.iconst 1, 1) := by decide +kernel
theorem own_d_prog_83_method_5_code_16 : decode prog_83_method_5_code 16 = .ok (.goto 4, 3) := by decide +kernel
theorem own_d_prog_83_method_5_code_19 : decode prog_83_method_5_code 19 = .ok (.iconst 0, 1) := by decide +kernel
theorem own_d_prog_83_method_5_code_20 : decode prog_83_method_5_code 20 = .ok (.ireturn, 1) := by decide +kernel
theorem own_ef6 (m : MethodId) (x0 : Int32) (x1 : Int32) (x2 : Int64) (x3 : Int32) (x4 : Int32) (x5 : Int32) : entryFrame m #[(.int x0), (.int x1), (.long x2), (.int x3), (.int x4), (.int x5)] maxLocals = mkF m 0 #[.val (.int x0), .val (.int x1), .val (.long x2), .second, .val (.int x3), .val (.int x4), .val (.int x5), .unset, .unset, .unset, .unset, .unset, .unset, .unset] [] := by first | (simp [entryFrame, mkF, argsToLocals, Value.category, maxLocals]; done) | rfl
theorem own_pd3 : parseMethodDescriptor "(I)Lcom/example/tablewright/tablewright/model/AddressSpace$Kind;" = some ⟨[.int], some (.object "com/example/tablewright/tablewright/model/AddressSpace$Kind")⟩ := by decide +kernel
theorem own_pd4 : parseMethodDescriptor "(C)Ljava/lang/String;" = some ⟨[.char], some (.object "java/lang/String")⟩ := by decide +kernel
theorem own_pd5 : parseMethodDescriptor "(IJII)J" = some ⟨[.int, .long, .int, .int], some .long⟩ := by decide +kernel
theorem own_pd6 : parseMethodDescriptor "(Ljava/lang/String;Lcom/example/tablewright/tablewright/model/AddressSpace$Kind;I)V" = some ⟨[(.object "java/lang/String"), (.object "com/example/tablewright/tablewright/model/AddressSpace$Kind"), .int], none⟩ := by decide +kernel
theorem own_pd7 : parseMethodDescriptor "(J)Z" = some ⟨[.long], some .boolean⟩ := by decide +kernel
set_option maxRecDepth 65536 in
set_option maxHeartbeats 40000000 in
theorem own_rmce (l : Launch) (Z : State) (a0 : Array Value) (hw : ∀ d ∈ tables_1, d.before a0 Z = true) (ws : List Jvm.Cond) (p1 : Int32) (h0 : Heap) (n0 : Nat) (Z0 : n0 ≤ h0.size) (hc : ¬ (255 : Int32) < p1) :
    MetFree l (⟨"java/lang/StringLatin1", "canEncode", "(C)Z"⟩ : MethodName) (head1 (Jvm.Cond.code (⟨"java/lang/StringLatin1", "canEncode", "(C)Z"⟩ : MethodName) jdk_43_method_3_code 1 (some .boolean) :: ws) ({ frames := 0, cells := 0, slots := 0, locals := 0 } : Room)) (fun a_ U_ => a_ = #[(.int p1)] ∧ Z.Warmed39 U_.vm ∧ U_.heap = h0) (fun _ _ _ _ _ => True) (fun _ U_ o_ U_' => ∃ v_ L_, o_ = .returned v_ ∧ own_QP (some (.int 1)) h0 n0 v_ U_'.heap L_ ∧ FrameEnd U_ o_ U_' L_ ({ frames := 0, cells := 0, slots := 0, locals := 0 } : Room).cells ({ frames := 0, cells := 0, slots := 0, locals := 0 } : Room).slots) := by
  refine MetFree.of_bodySF (plainFor_of_name own_pn0) hisR ?_
  intro p e s m args below meth c s₁ Bd hml0 hP hK
  obtain ⟨rfl, hZ, hh⟩ := hP
  have hx := Bd.exec
  have hby := Bd.bytes
  have hml : c.maxLocals = 1 := hml0
  have hown : s.vm.findClass "java/lang/StringLatin1" = some m.cls := findClass_of_methodNamed Bd.named
  have hnm := (name_of_methodNamed Bd.named Bd.method).1
  have X0 : Stand p l e ({ frames := 0, cells := 0, slots := 0, locals := 0 } : Room) s m #[(.int p1)] below meth c s₁ [] 0 0 := Stand.of_body Bd
  have e0 : s₁.heap = h0 := by rw [← hh, Bd.state]; rfl
  have N0 := Fr.nil n0
  have pre0 : ∀ t, Steps p.tables e below (s₁.setTop (mkF m 0 #[.val (.int p1)] [])) t → Steps p.tables e below (s₁.setTop (entryFrame m #[(.int p1)] 1)) t := fun t_ k_ => castTop (own_ef0 m p1) k_
  obtain ⟨fs, hr, hrun, hended, hW, hsame⟩ := X0.leave (v := some (.int (1 : Int32))) (fun h => by rw [Bd.returns] at h; cases h)
  refine ⟨_, _, pre0 _ ?_, hrun, hended, _, _, rfl, ?_, ⟨_, rfl⟩, hW, hsame.mono (by decide) (by decide)⟩
  · show Steps p.tables e below (s₁.setTop (mkF m 0 #[.val (.int p1)] [])) _
    refine XS.iloadN X0.here hx rfl (hb hby own_d_jdk_43_method_3_code_0) rfl ?_
    show Steps p.tables e below (s₁.setTop (mkF m 1 #[.val (.int p1)] [(.int p1)])) _
    refine XS.sipush X0.here hx rfl (hb hby own_d_jdk_43_method_3_code_1) ?_
    show Steps p.tables e below (s₁.setTop (mkF m 4 #[.val (.int p1)] [(.int (255 : Int32)), (.int p1)])) _
    refine XS.icmpNo X0.here hx rfl (hb hby own_d_jdk_43_method_3_code_4) rfl (flt (hc : ¬ ((255 : Int32) < p1))).2.2.1 ?_
    show Steps p.tables e below (s₁.setTop (mkF m 7 #[.val (.int p1)] [])) _
    refine XS.iconst X0.here hx rfl (hb hby own_d_jdk_43_method_3_code_7) ?_
    show Steps p.tables e below (s₁.setTop (mkF m 8 #[.val (.int p1)] [(.int (1 : Int32))])) _
    refine XS.goto X0.here hx rfl (pc0 := 8) (pc' := 12) rfl (hb hby own_d_jdk_43_method_3_code_8) (by decide) (by decide) ?_
    show Steps p.tables e below (s₁.setTop (mkF m 12 #[.val (.int p1)] [(.int (1 : Int32))])) _
    exact retN X0 hx (t := .boolean) Bd.returns (by simp) (hb hby own_d_jdk_43_method_3_code_12) hr
  · show own_QP (some (.int 1)) h0 n0 _ s₁.heap _
    exact ⟨rfl, N0, e0⟩
set_option maxRecDepth 65536 in
set_option maxHeartbeats 40000000 in
theorem own_rmv (l : Launch) (Z : State) (a0 : Array Value) (hw : ∀ d ∈ tables_1, d.before a0 Z = true) (ws : List Jvm.Cond) (p1 w2 : Int32) (h0 : Heap) (n0 : Nat) (Z0 : n0 ≤ h0.size) (S_C : Sta Z h0 "java/lang/String" "COMPACT_STRINGS" "Z" (.int w2)) (hn : ¬ w2 = (0 : Int32)) (hc : ¬ (255 : Int32) < p1) :
    MetFree l (⟨"java/lang/String", "valueOf", "(C)Ljava/lang/String;"⟩ : MethodName) (head1 (Jvm.Cond.code (⟨"java/lang/String", "valueOf", "(C)Ljava/lang/String;"⟩ : MethodName) jdk_42_method_139_code 1 (some (.object "java/lang/String")) :: ws) ({ frames := 2, cells := 2, slots := 5, locals := 27 } : Room)) (fun a_ U_ => a_ = #[(.int p1)] ∧ Z.Warmed39 U_.vm ∧ U_.heap = h0) (fun _ _ _ _ _ => True) (fun _ U_ o_ U_' => ∃ v_ L_, o_ = .returned v_ ∧ own_QS Z h0 n0 v_ U_'.heap L_ ∧ FrameEnd U_ o_ U_' L_ ({ frames := 2, cells := 2, slots := 5, locals := 27 } : Room).cells ({ frames := 2, cells := 2, slots := 5, locals := 27 } : Room).slots) := by
  refine MetFree.of_bodySF (plainFor_of_name own_pn1) hisR ?_
  intro p e s m args below meth c s₁ Bd hml0 hP hK
  obtain ⟨rfl, hZ, hh⟩ := hP
  have hx := Bd.exec
  have hby := Bd.bytes
  have hml : c.maxLocals = 1 := hml0
  have hown : s.vm.findClass "java/lang/String" = some m.cls := findClass_of_methodNamed Bd.named
  have hnm := (name_of_methodNamed Bd.named Bd.method).1
  have X0 : Stand p l e ({ frames := 2, cells := 2, slots := 5, locals := 27 } : Room) s m #[(.int p1)] below meth c s₁ [] 0 0 := Stand.of_body Bd
  have e0 : s₁.heap = h0 := by rw [← hh, Bd.state]; rfl
  have N0 := Fr.nil n0
  have pre0 : ∀ t, Steps p.tables e below (s₁.setTop (mkF m 0 #[.val (.int p1)] [])) t → Steps p.tables e below (s₁.setTop (entryFrame m #[(.int p1)] 1)) t := fun t_ k_ => castTop (own_ef1 m p1) k_
  obtain ⟨T1, X1, e1, st1⟩ := getS2 X0 hx hZ hown (host := "") (Or.inl (hw _ (List.mem_of_getElem? (i := 11) rfl))) Via.refl e0 S_C (g := (mkF m 0 #[.val (.int p1)] [])) rfl (hb hby own_d_jdk_42_method_139_code_0)
  obtain ⟨_, _, ⟨T2, L2, kc2, nc2⟩, -, X2, ⟨Lc2, hQ2, ql2, qy2, qz2⟩, st2⟩ := Jvm.LawKit.callS X1 hx (y := (⟨"java/lang/StringLatin1", "canEncode", "(C)Z"⟩ : MethodName)) hown (mvT hZ (hw _ (List.mem_of_getElem? (i := 12) rfl))) (mvT hZ (hw _ (List.mem_of_getElem? (i := 13) rfl))) (mvT hZ (hw _ (List.mem_of_getElem? (i := 14) rfl))) (mvT hZ (hw _ (List.mem_of_getElem? (i := 15) rfl))) (by decide) (backOf (W := 0) (own_rmce l Z a0 hw [] p1 h0 n0 Z0 hc) hZ (hw _ (List.mem_of_getElem? (i := 15) rfl)) (hw _ (List.mem_of_getElem? (i := 14) rfl)) (by decide) (by decide)) (g := (mkF m 7 #[.val (.int p1)] [(.int p1)])) rfl (by rw [hml]; rfl) (argsL := [(.int p1)]) (rest := []) (lenOf own_pd0 rfl) rfl (by show 2 * 0 + _ ≤ _; exact Nat.le_of_eq rfl) (hb hby own_d_jdk_42_method_139_code_7) (fun _ _ => ⟨rfl, e1, (by decide : 0 + 0 ≤ _), (by decide : 0 + 0 ≤ _)⟩)
  dsimp only [Pt.U, Pt.locs, Pt.cells, Pt.slots] at X2 ql2 qy2 qz2 st2 hQ2
  subst ql2 qy2 qz2
  obtain ⟨rfl, Nq2, eq2⟩ := hQ2
  have N2 := Fr.app N0 Nq2
  obtain ⟨T3, hp3, X3, e3, E3, A3, D3, -, st3⟩ := newO X2 hx hZ hown (hw _ (List.mem_of_getElem? (i := 16) rfl)) (hw _ (List.mem_of_getElem? (i := 17) rfl)) (hw _ (List.mem_of_getElem? (i := 9) rfl)) eq2 (g := (mkF m 13 #[.val (.int p1)] [])) rfl (hb hby own_d_jdk_42_method_139_code_13) (by decide) (by decide)
  obtain ⟨b3, g3⟩ : ∃ z, z = h0.size := ⟨_, rfl⟩
  rw [← g3] at A3 D3 st3
  have gn_b3 : n0 ≤ b3 := Nat.le_trans Z0 (Nat.le_of_eq g3.symm)
  have Zn3 : n0 ≤ hp3.size := Nat.le_trans Z0 E3.1
  have F3_value : Fld Z hp3 b3 "java/lang/String" "value" "[B" .null := D3 (Or.inr (hw _ (List.mem_of_getElem? (i := 30) rfl))) (ty := (.array .byte)) (by decide)
  have F3_coder : Fld Z hp3 b3 "java/lang/String" "coder" "B" (.int (0 : Int32)) := D3 (Or.inr (hw _ (List.mem_of_getElem? (i := 32) rfl))) (ty := .byte) (by decide)
  have sz_b : h0.size ≤ b3 := Nat.le_of_eq g3.symm
  have Ka : Keep h0 hp3 [] := (Keep.refl h0 []).ext E3
  obtain ⟨_, _, ⟨T4, L4, kc4, nc4⟩, -, X4, ⟨Lc4, hQ4, ql4, qy4, qz4⟩, st4⟩ := Jvm.LawKit.callS X3 hx (y := (⟨"java/lang/StringLatin1", "toBytes", "(C)[B"⟩ : MethodName)) hown (mvT hZ (hw _ (List.mem_of_getElem? (i := 18) rfl))) (mvT hZ (hw _ (List.mem_of_getElem? (i := 19) rfl))) (mvT hZ (hw _ (List.mem_of_getElem? (i := 14) rfl))) (mvT hZ (hw _ (List.mem_of_getElem? (i := 20) rfl))) (by decide) (backOf (W := 2) (rm4 l Z a0 hw [] p1 hp3 n0 Zn3) hZ (hw _ (List.mem_of_getElem? (i := 20) rfl)) (hw _ (List.mem_of_getElem? (i := 14) rfl)) (by decide) (by decide)) (g := (mkF m 18 #[.val (.int p1)] [(.int p1), (.ref b3), (.ref b3)])) rfl (by rw [hml]; rfl) (argsL := [(.int p1)]) (rest := [(.ref b3), (.ref b3)]) (lenOf own_pd1 rfl) rfl (by show 2 * 0 + _ ≤ _; exact Nat.le_of_eq rfl) (hb hby own_d_jdk_42_method_139_code_18) (fun _ _ => ⟨rfl, e3, (by decide : 1 + 1 ≤ _), (by decide : 4 + 1 ≤ _)⟩)
  dsimp only [Pt.U, Pt.locs, Pt.cells, Pt.slots] at X4 ql4 qy4 qz4 st4 hQ4
  subst ql4 qy4 qz4
  obtain ⟨ba, rfl, Nq4, Kb, szb⟩ := hQ4
  have N4 := Fr.app N2 Nq4
  have F4_b3_value := F3_value.keep Kb nin0
  have F4_b3_coder := F3_coder.keep Kb nin0
  have E4_b3 := A3.keep Kb
  have Zn4 : n0 ≤ T4.heap.size := Nat.le_trans Zn3 Kb.1
  have Kc : Keep h0 T4.heap [] := Ka.trans Kb all0
  obtain ⟨_, _, ⟨T5, L5, kc5, nc5⟩, -, X5, ⟨Lc5, hQ5, ql5, qy5, qz5⟩, st5⟩ := X4.specialBack hx (y := (⟨"java/lang/String", "<init>", "([BB)V"⟩ : MethodName)) rfl hown (mvT hZ (hw _ (List.mem_of_getElem? (i := 22) rfl))) (mvT hZ (hw _ (List.mem_of_getElem? (i := 23) rfl))) (mvT hZ (hw _ (List.mem_of_getElem? (i := 25) rfl))) (by decide) (backOf (W := 1) (rm5 l Z a0 hw [] b3 ba (0 : Int32) .null (.int 0) T4.heap n0 Zn4 E4_b3 F4_b3_value gn_b3 F4_b3_coder) hZ (hw _ (List.mem_of_getElem? (i := 25) rfl)) (hw _ (List.mem_of_getElem? (i := 9) rfl)) (by decide) (by decide)) (g := (mkF m 22 #[.val (.int p1)] [(.int (0 : Int32)), (.ref ba), (.ref b3), (.ref b3)])) rfl (by rw [hml]; rfl) (Steps.refl _) (a := b3) (argsL := [(.ref ba), (.int (0 : Int32))]) (rest := [(.ref b3)]) (lenOf own_pd2 rfl) rfl (by show 2 * 0 + _ ≤ _; exact Nat.le_of_eq rfl) (hb hby own_d_jdk_42_method_139_code_22) (fun _ _ => ⟨rfl, (rfl : T4.heap = _), (by decide : 2 + 0 ≤ _), (by decide : 5 + 0 ≤ _)⟩)
  dsimp only [Pt.U, Pt.locs, Pt.cells, Pt.slots] at X5 ql5 qy5 qz5 st5 hQ5
  subst ql5 qy5 qz5
  obtain ⟨rfl, Nq5, K5, Ec5, Fc5_value, Fc5_coder⟩ := hQ5
  have N5 := Fr.app N4 Nq5
  have Zn5 : n0 ≤ T5.heap.size := Nat.le_trans Zn4 K5.1
  have Kd : Keep h0 T5.heap [] := Kc.trans K5 (allS (Or.inr sz_b) all0)
  obtain ⟨fs, hr, hrun, hended, hW, hsame⟩ := X5.leave (v := some (.ref b3)) (fun h => by rw [Bd.returns] at h; cases h)
  refine ⟨_, _, pre0 _ ?_, hrun, hended, _, _, rfl, ?_, ⟨_, rfl⟩, hW, hsame.mono (by decide) (by decide)⟩
  · show Steps p.tables e below (s₁.setTop (mkF m 0 #[.val (.int p1)] [])) _
    refine st1 _ ?_
    show Steps p.tables e below (T1.setTop (mkF m 3 #[.val (.int p1)] [(.int w2)])) _
    refine XS.ifNo X1.here hx rfl (hb hby own_d_jdk_42_method_139_code_3) rfl ((if0 _ _).trans (feq (hn : ¬ (w2 = (0 : Int32)))).1) ?_
    show Steps p.tables e below (T1.setTop (mkF m 6 #[.val (.int p1)] [])) _
    refine XS.iloadN X1.here hx rfl (hb hby own_d_jdk_42_method_139_code_6) rfl ?_
    show Steps p.tables e below (T1.setTop (mkF m 7 #[.val (.int p1)] [(.int p1)])) _
    refine st2 _ ?_
    show Steps p.tables e below (T2.setTop (mkF m 10 #[.val (.int p1)] [(.int (1 : Int32))])) _
    refine XS.ifNo X2.here hx rfl (hb hby own_d_jdk_42_method_139_code_10) rfl ((if0 _ _).trans (feq (by decide : ¬ ((1 : Int32) = (0 : Int32)))).1) ?_
    show Steps p.tables e below (T2.setTop (mkF m 13 #[.val (.int p1)] [])) _
    refine st3 _ ?_
    show Steps p.tables e below (T3.setTop (mkF m 16 #[.val (.int p1)] [(.ref b3)])) _
    refine XS.dup X3.here hx rfl (hb hby own_d_jdk_42_method_139_code_16) rfl rfl ?_
    show Steps p.tables e below (T3.setTop (mkF m 17 #[.val (.int p1)] [(.ref b3), (.ref b3)])) _
    refine XS.iloadN X3.here hx rfl (hb hby own_d_jdk_42_method_139_code_17) rfl ?_
    show Steps p.tables e below (T3.setTop (mkF m 18 #[.val (.int p1)] [(.int p1), (.ref b3), (.ref b3)])) _
    refine st4 _ ?_
    show Steps p.tables e below (T4.setTop (mkF m 21 #[.val (.int p1)] [(.ref ba), (.ref b3), (.ref b3)])) _
    refine XS.iconst X4.here hx rfl (hb hby own_d_jdk_42_method_139_code_21) ?_
    show Steps p.tables e below (T4.setTop (mkF m 22 #[.val (.int p1)] [(.int (0 : Int32)), (.ref ba), (.ref b3), (.ref b3)])) _
    refine st5.trans ?_
    show Steps p.tables e below (T5.setTop (mkF m 25 #[.val (.int p1)] [(.ref b3)])) _
    exact retOut X5 hx Bd.returns rfl (Or.inr (Or.inr (Or.inr (Or.inr ⟨rfl, rfl, rfl⟩)))) (hb hby own_d_jdk_42_method_139_code_25) hr
  · show own_QS Z h0 n0 _ T5.heap _
    exact ⟨b3, rfl, N5, Kd, sz_b, Ec5⟩
set_option maxRecDepth 65536 in
set_option maxHeartbeats 40000000 in
theorem own_rmp (l : Launch) (Z : State) (a0 : Array Value) (hw : ∀ d ∈ tables_1, d.before a0 Z = true) (ws : List Jvm.Cond) (k : Int32) (r kr kg kc ku : Addr) (h0 : Heap) (n0 : Nat) (Z0 : n0 ≤ h0.size) (S_RAM : Sta Z h0 "com/example/tablewright/tablewright/model/AddressSpace$Kind" "RAM" "Lcom/example/tablewright/tablewright/model/AddressSpace$Kind;" (.ref kr)) (S_REGISTER : Sta Z h0 "com/example/tablewright/tablewright/model/AddressSpace$Kind" "REGISTER" "Lcom/example/tablewright/tablewright/model/AddressSpace$Kind;" (.ref kg)) (S_CONSTANT : Sta Z h0 "com/example/tablewright/tablewright/model/AddressSpace$Kind" "CONSTANT" "Lcom/example/tablewright/tablewright/model/AddressSpace$Kind;" (.ref kc)) (S_UNIQUE : Sta Z h0 "com/example/tablewright/tablewright/model/AddressSpace$Kind" "UNIQUE" "Lcom/example/tablewright/tablewright/model/AddressSpace$Kind;" (.ref ku)) (hr : own_pick k r kr kg kc ku) :
    MetFree l (⟨"com/example/tablewright/tablewright/model/AddressSpaceContainsPinLaw", "pickKind", "(I)Lcom/example/tablewright/tablewright/model/AddressSpace$Kind;"⟩ : MethodName) (head1 (Jvm.Cond.code (⟨"com/example/tablewright/tablewright/model/AddressSpaceContainsPinLaw", "pickKind", "(I)Lcom/example/tablewright/tablewright/model/AddressSpace$Kind;"⟩ : MethodName) method_3_code 1 (some (.object "com/example/tablewright/tablewright/model/AddressSpace$Kind")) :: ws) ({ frames := 0, cells := 0, slots := 0, locals := 0 } : Room)) (fun a_ U_ => a_ = #[(.int k)] ∧ Z.Warmed39 U_.vm ∧ U_.heap = h0) (fun _ _ _ _ _ => True) (fun _ U_ o_ U_' => ∃ v_ L_, o_ = .returned v_ ∧ own_QP (some (.ref r)) h0 n0 v_ U_'.heap L_ ∧ FrameEnd U_ o_ U_' L_ ({ frames := 0, cells := 0, slots := 0, locals := 0 } : Room).cells ({ frames := 0, cells := 0, slots := 0, locals := 0 } : Room).slots) := by
  refine MetFree.of_bodySF (plainFor_of_name own_pn2) hisR ?_
  intro p e s m args below meth c s₁ Bd hml0 hP hK
  obtain ⟨rfl, hZ, hh⟩ := hP
  have hx := Bd.exec
  have hby := Bd.bytes
  have hml : c.maxLocals = 1 := hml0
  have hown : s.vm.findClass "com/example/tablewright/tablewright/model/AddressSpaceContainsPinLaw" = some m.cls := findClass_of_methodNamed Bd.named
  have hnm := (name_of_methodNamed Bd.named Bd.method).1
  have X0 : Stand p l e ({ frames := 0, cells := 0, slots := 0, locals := 0 } : Room) s m #[(.int k)] below meth c s₁ [] 0 0 := Stand.of_body Bd
  have e0 : s₁.heap = h0 := by rw [← hh, Bd.state]; rfl
  have N0 := Fr.nil n0
  have pre0 : ∀ t, Steps p.tables e below (s₁.setTop (mkF m 0 #[.val (.int k)] [])) t → Steps p.tables e below (s₁.setTop (entryFrame m #[(.int k)] 1)) t := fun t_ k_ => castTop (own_ef2 m k) k_
  rcases hr with ⟨h, h'⟩ | ⟨h, h'⟩ | ⟨h, h'⟩ | ⟨h, h'⟩
  · obtain ⟨T1, X1, e1, st1⟩ := getS2 X0 hx hZ hown (host := "") (Or.inl (hw _ (List.mem_of_getElem? (i := 4) rfl))) Via.refl e0 S_RAM (g := (mkF m 4 #[.val (.int k)] [])) rfl (hb hby own_d_method_3_code_4)
    obtain ⟨fs, hr, hrun, hended, hW, hsame⟩ := X1.leave (v := some (.ref kr)) (fun h => by rw [Bd.returns] at h; cases h)
    refine ⟨_, _, pre0 _ ?_, hrun, hended, _, _, rfl, ?_, ⟨_, rfl⟩, hW, hsame.mono (by decide) (by decide)⟩
    · show Steps p.tables e below (s₁.setTop (mkF m 0 #[.val (.int k)] [])) _
      refine XS.iloadN X0.here hx rfl (hb hby own_d_method_3_code_0) rfl ?_
      show Steps p.tables e below (s₁.setTop (mkF m 1 #[.val (.int k)] [(.int k)])) _
      refine XS.ifNo X0.here hx rfl (hb hby own_d_method_3_code_1) rfl ((if0 _ _).trans (teq (h : k = (0 : Int32))).2) ?_
      show Steps p.tables e below (s₁.setTop (mkF m 4 #[.val (.int k)] [])) _
      refine st1 _ ?_
      show Steps p.tables e below (T1.setTop (mkF m 7 #[.val (.int k)] [(.ref kr)])) _
      exact retOut X1 hx Bd.returns rfl (Or.inr (Or.inr (Or.inr (Or.inr ⟨rfl, rfl, rfl⟩)))) (hb hby own_d_method_3_code_7) hr
    · show own_QP (some (.ref r)) h0 n0 _ T1.heap _
      exact ⟨by rw [h'], N0, e1⟩
  · obtain ⟨T2, X2, e2, st2⟩ := getS2 X0 hx hZ hown (host := "") (Or.inl (hw _ (List.mem_of_getElem? (i := 59) rfl))) Via.refl e0 S_REGISTER (g := (mkF m 13 #[.val (.int k)] [])) rfl (hb hby own_d_method_3_code_13)
    obtain ⟨fs, hr, hrun, hended, hW, hsame⟩ := X2.leave (v := some (.ref kg)) (fun h => by rw [Bd.returns] at h; cases h)
    refine ⟨_, _, pre0 _ ?_, hrun, hended, _, _, rfl, ?_, ⟨_, rfl⟩, hW, hsame.mono (by decide) (by decide)⟩
    · show Steps p.tables e below (s₁.setTop (mkF m 0 #[.val (.int k)] [])) _
      refine XS.iloadN X0.here hx rfl (hb hby own_d_method_3_code_0) rfl ?_
      show Steps p.tables e below (s₁.setTop (mkF m 1 #[.val (.int k)] [(.int k)])) _
      refine XS.ifYes X0.here hx rfl (pc0 := 1) (pc' := 8) rfl (hb hby own_d_method_3_code_1) rfl ((if0 _ _).trans (feq (by rw [h]; decide : ¬ (k = (0 : Int32)))).2) (by decide) (by decide) ?_
      show Steps p.tables e below (s₁.setTop (mkF m 8 #[.val (.int k)] [])) _
      refine XS.iloadN X0.here hx rfl (hb hby own_d_method_3_code_8) rfl ?_
      show Steps p.tables e below (s₁.setTop (mkF m 9 #[.val (.int k)] [(.int k)])) _
      refine XS.iconst X0.here hx rfl (hb hby own_d_method_3_code_9) ?_
      show Steps p.tables e below (s₁.setTop (mkF m 10 #[.val (.int k)] [(.int (1 : Int32)), (.int k)])) _
      refine XS.icmpNo X0.here hx rfl (hb hby own_d_method_3_code_10) rfl (teq (h : k = (1 : Int32))).2 ?_
      show Steps p.tables e below (s₁.setTop (mkF m 13 #[.val (.int k)] [])) _
      refine st2 _ ?_
      show Steps p.tables e below (T2.setTop (mkF m 16 #[.val (.int k)] [(.ref kg)])) _
      exact retOut X2 hx Bd.returns rfl (Or.inr (Or.inr (Or.inr (Or.inr ⟨rfl, rfl, rfl⟩)))) (hb hby own_d_method_3_code_16) hr
    · show own_QP (some (.ref r)) h0 n0 _ T2.heap _
      exact ⟨by rw [h'], N0, e2⟩
  · obtain ⟨T3, X3, e3, st3⟩ := getS2 X0 hx hZ hown (host := "") (Or.inl (hw _ (List.mem_of_getElem? (i := 57) rfl))) Via.refl e0 S_CONSTANT (g := (mkF m 22 #[.val (.int k)] [])) rfl (hb hby own_d_method_3_code_22)
    obtain ⟨fs, hr, hrun, hended, hW, hsame⟩ := X3.leave (v := some (.ref kc)) (fun h => by rw [Bd.returns] at h; cases h)
    refine ⟨_, _, pre0 _ ?_, hrun, hended, _, _, rfl, ?_, ⟨_, rfl⟩, hW, hsame.mono (by decide) (by decide)⟩
    · show Steps p.tables e below (s₁.setTop (mkF m 0 #[.val (.int k)] [])) _
      refine XS.iloadN X0.here hx rfl (hb hby own_d_method_3_code_0) rfl ?_
      show Steps p.tables e below (s₁.setTop (mkF m 1 #[.val (.int k)] [(.int k)])) _
      refine XS.ifYes X0.here hx rfl (pc0 := 1) (pc' := 8) rfl (hb hby own_d_method_3_code_1) rfl ((if0 _ _).trans (feq (by rw [h]; decide : ¬ (k = (0 : Int32)))).2) (by decide) (by decide) ?_
      show Steps p.tables e below (s₁.setTop (mkF m 8 #[.val (.int k)] [])) _
      refine XS.iloadN X0.here hx rfl (hb hby own_d_method_3_code_8) rfl ?_
      show Steps p.tables e below (s₁.setTop (mkF m 9 #[.val (.int k)] [(.int k)])) _
      refine XS.iconst X0.here hx rfl (hb hby own_d_method_3_code_9) ?_
      show Steps p.tables e below (s₁.setTop (mkF m 10 #[.val (.int k)] [(.int (1 : Int32)), (.int k)])) _
      refine XS.icmpYes X0.here hx rfl (pc0 := 10) (pc' := 17) rfl (hb hby own_d_method_3_code_10) rfl (feq (by rw [h]; decide : ¬ (k = (1 : Int32)))).2 (by decide) (by decide) ?_
      show Steps p.tables e below (s₁.setTop (mkF m 17 #[.val (.int k)] [])) _
      refine XS.iloadN X0.here hx rfl (hb hby own_d_method_3_code_17) rfl ?_
      show Steps p.tables e below (s₁.setTop (mkF m 18 #[.val (.int k)] [(.int k)])) _
      refine XS.iconst X0.here hx rfl (hb hby own_d_method_3_code_18) ?_
      show Steps p.tables e below (s₁.setTop (mkF m 19 #[.val (.int k)] [(.int (2 : Int32)), (.int k)])) _
      refine XS.icmpNo X0.here hx rfl (hb hby own_d_method_3_code_19) rfl (teq (h : k = (2 : Int32))).2 ?_
      show Steps p.tables e below (s₁.setTop (mkF m 22 #[.val (.int k)] [])) _
      refine st3 _ ?_
      show Steps p.tables e below (T3.setTop (mkF m 25 #[.val (.int k)] [(.ref kc)])) _
      exact retOut X3 hx Bd.returns rfl (Or.inr (Or.inr (Or.inr (Or.inr ⟨rfl, rfl, rfl⟩)))) (hb hby own_d_method_3_code_25) hr
    · show own_QP (some (.ref r)) h0 n0 _ T3.heap _
      exact ⟨by rw [h'], N0, e3⟩
  · obtain ⟨T4, X4, e4, st4⟩ := getS2 X0 hx hZ hown (host := "") (Or.inl (hw _ (List.mem_of_getElem? (i := 61) rfl))) Via.refl e0 S_UNIQUE (g := (mkF m 26 #[.val (.int k)] [])) rfl (hb hby own_d_method_3_code_26)
    obtain ⟨fs, hr, hrun, hended, hW, hsame⟩ := X4.leave (v := some (.ref ku)) (fun h => by rw [Bd.returns] at h; cases h)
    refine ⟨_, _, pre0 _ ?_, hrun, hended, _, _, rfl, ?_, ⟨_, rfl⟩, hW, hsame.mono (by decide) (by decide)⟩
    · show Steps p.tables e below (s₁.setTop (mkF m 0 #[.val (.int k)] [])) _
      refine XS.iloadN X0.here hx rfl (hb hby own_d_method_3_code_0) rfl ?_
      show Steps p.tables e below (s₁.setTop (mkF m 1 #[.val (.int k)] [(.int k)])) _
      refine XS.ifYes X0.here hx rfl (pc0 := 1) (pc' := 8) rfl (hb hby own_d_method_3_code_1) rfl ((if0 _ _).trans (feq (by rw [h]; decide : ¬ (k = (0 : Int32)))).2) (by decide) (by decide) ?_
      show Steps p.tables e below (s₁.setTop (mkF m 8 #[.val (.int k)] [])) _
      refine XS.iloadN X0.here hx rfl (hb hby own_d_method_3_code_8) rfl ?_
      show Steps p.tables e below (s₁.setTop (mkF m 9 #[.val (.int k)] [(.int k)])) _
      refine XS.iconst X0.here hx rfl (hb hby own_d_method_3_code_9) ?_
      show Steps p.tables e below (s₁.setTop (mkF m 10 #[.val (.int k)] [(.int (1 : Int32)), (.int k)])) _
      refine XS.icmpYes X0.here hx rfl (pc0 := 10) (pc' := 17) rfl (hb hby own_d_method_3_code_10) rfl (feq (by rw [h]; decide : ¬ (k = (1 : Int32)))).2 (by decide) (by decide) ?_
      show Steps p.tables e below (s₁.setTop (mkF m 17 #[.val (.int k)] [])) _
      refine XS.iloadN X0.here hx rfl (hb hby own_d_method_3_code_17) rfl ?_
      show Steps p.tables e below (s₁.setTop (mkF m 18 #[.val (.int k)] [(.int k)])) _
      refine XS.iconst X0.here hx rfl (hb hby own_d_method_3_code_18) ?_
      show Steps p.tables e below (s₁.setTop (mkF m 19 #[.val (.int k)] [(.int (2 : Int32)), (.int k)])) _
      refine XS.icmpYes X0.here hx rfl (pc0 := 19) (pc' := 26) rfl (hb hby own_d_method_3_code_19) rfl (feq (by rw [h]; decide : ¬ (k = (2 : Int32)))).2 (by decide) (by decide) ?_
      show Steps p.tables e below (s₁.setTop (mkF m 26 #[.val (.int k)] [])) _
      refine st4 _ ?_
      show Steps p.tables e below (T4.setTop (mkF m 29 #[.val (.int k)] [(.ref ku)])) _
      exact retOut X4 hx Bd.returns rfl (Or.inr (Or.inr (Or.inr (Or.inr ⟨rfl, rfl, rfl⟩)))) (hb hby own_d_method_3_code_29) hr
    · show own_QP (some (.ref r)) h0 n0 _ T4.heap _
      exact ⟨by rw [h'], N0, e4⟩
set_option maxRecDepth 65536 in
set_option maxHeartbeats 40000000 in
theorem own_rma (l : Launch) (Z : State) (a0 : Array Value) (hw : ∀ d ∈ tables_1, d.before a0 Z = true) (ws : List Jvm.Cond) (k : Int32) (q : Int64) (b1 c1 : Int32) (h0 : Heap) (n0 : Nat) (Z0 : n0 ≤ h0.size)  :
    MetFree l (⟨"com/example/tablewright/tablewright/model/AddressSpaceContainsPinLaw", "pickAddress", "(IJII)J"⟩ : MethodName) (head1 (Jvm.Cond.code (⟨"com/example/tablewright/tablewright/model/AddressSpaceContainsPinLaw", "pickAddress", "(IJII)J"⟩ : MethodName) method_4_code 5 (some .long) :: ws) ({ frames := 0, cells := 0, slots := 0, locals := 0 } : Room)) (fun a_ U_ => a_ = #[(.int k), (.long q), (.int b1), (.int c1)] ∧ Z.Warmed39 U_.vm ∧ U_.heap = h0) (fun _ _ _ _ _ => True) (fun _ U_ o_ U_' => ∃ v_ L_, o_ = .returned v_ ∧ own_QP (some (.long (own_adr k q b1 c1))) h0 n0 v_ U_'.heap L_ ∧ FrameEnd U_ o_ U_' L_ ({ frames := 0, cells := 0, slots := 0, locals := 0 } : Room).cells ({ frames := 0, cells := 0, slots := 0, locals := 0 } : Room).slots) := by
  refine MetFree.of_bodySF (plainFor_of_name own_pn2) hisR ?_
  intro p e s m args below meth c s₁ Bd hml0 hP hK
  obtain ⟨rfl, hZ, hh⟩ := hP
  have hx := Bd.exec
  have hby := Bd.bytes
  have hml : c.maxLocals = 5 := hml0
  have hown : s.vm.findClass "com/example/tablewright/tablewright/model/AddressSpaceContainsPinLaw" = some m.cls := findClass_of_methodNamed Bd.named
  have hnm := (name_of_methodNamed Bd.named Bd.method).1
  have X0 : Stand p l e ({ frames := 0, cells := 0, slots := 0, locals := 0 } : Room) s m #[(.int k), (.long q), (.int b1), (.int c1)] below meth c s₁ [] 0 0 := Stand.of_body Bd
  have e0 : s₁.heap = h0 := by rw [← hh, Bd.state]; rfl
  have N0 := Fr.nil n0
  have pre0 : ∀ t, Steps p.tables e below (s₁.setTop (mkF m 0 #[.val (.int k), .val (.long q), .second, .val (.int b1), .val (.int c1)] [])) t → Steps p.tables e below (s₁.setTop (entryFrame m #[(.int k), (.long q), (.int b1), (.int c1)] 5)) t := fun t_ k_ => castTop (own_ef3 m k q b1 c1) k_
  rcases own_c3 (k = 1) (k = 2) with h | ⟨h, h2⟩ | ⟨h, h2⟩
  · obtain ⟨fs, hr, hrun, hended, hW, hsame⟩ := X0.leave (v := some (.long ((q.toUInt64 >>> ((b1 &&& (63 : Int32)) &&& 0x3f).toInt64.toUInt64).toInt64))) (fun h => by rw [Bd.returns] at h; cases h)
    refine ⟨_, _, pre0 _ ?_, hrun, hended, _, _, rfl, ?_, ⟨_, rfl⟩, hW, hsame.mono (by decide) (by decide)⟩
    · show Steps p.tables e below (s₁.setTop (mkF m 0 #[.val (.int k), .val (.long q), .second, .val (.int b1), .val (.int c1)] [])) _
      refine XS.iloadN X0.here hx rfl (hb hby own_d_method_4_code_0) rfl ?_
      show Steps p.tables e below (s₁.setTop (mkF m 1 #[.val (.int k), .val (.long q), .second, .val (.int b1), .val (.int c1)] [(.int k)])) _
      refine XS.iconst X0.here hx rfl (hb hby own_d_method_4_code_1) ?_
      show Steps p.tables e below (s₁.setTop (mkF m 2 #[.val (.int k), .val (.long q), .second, .val (.int b1), .val (.int c1)] [(.int (1 : Int32)), (.int k)])) _
      refine XS.icmpNo X0.here hx rfl (hb hby own_d_method_4_code_2) rfl (teq (h : k = (1 : Int32))).2 ?_
      show Steps p.tables e below (s₁.setTop (mkF m 5 #[.val (.int k), .val (.long q), .second, .val (.int b1), .val (.int c1)] [])) _
      refine XS.lloadN X0.here hx rfl (hb hby own_d_method_4_code_5) rfl ?_
      show Steps p.tables e below (s₁.setTop (mkF m 6 #[.val (.int k), .val (.long q), .second, .val (.int b1), .val (.int c1)] [(.long q)])) _
      refine XS.iloadN X0.here hx rfl (hb hby own_d_method_4_code_6) rfl ?_
      show Steps p.tables e below (s₁.setTop (mkF m 7 #[.val (.int k), .val (.long q), .second, .val (.int b1), .val (.int c1)] [(.int b1), (.long q)])) _
      refine XS.bipush X0.here hx rfl (hb hby own_d_method_4_code_7) ?_
      show Steps p.tables e below (s₁.setTop (mkF m 9 #[.val (.int k), .val (.long q), .second, .val (.int b1), .val (.int c1)] [(.int (63 : Int32)), (.int b1), (.long q)])) _
      refine XS.iand X0.here hx rfl (hb hby own_d_method_4_code_9) rfl ?_
      show Steps p.tables e below (s₁.setTop (mkF m 10 #[.val (.int k), .val (.long q), .second, .val (.int b1), .val (.int c1)] [(.int (b1 &&& (63 : Int32))), (.long q)])) _
      refine XS.lushr X0.here hx rfl (hb hby own_d_method_4_code_10) rfl ?_
      show Steps p.tables e below (s₁.setTop (mkF m 11 #[.val (.int k), .val (.long q), .second, .val (.int b1), .val (.int c1)] [(.long ((q.toUInt64 >>> ((b1 &&& (63 : Int32)) &&& 0x3f).toInt64.toUInt64).toInt64))])) _
      exact retOut X0 hx Bd.returns rfl (Or.inr (Or.inl ⟨rfl, rfl, _, rfl⟩)) (hb hby own_d_method_4_code_11) hr
    · show own_QP (some (.long (own_adr k q b1 c1))) h0 n0 _ s₁.heap _
      exact ⟨by rw [own_adr, if_pos h], N0, e0⟩
  · obtain ⟨fs, hr, hrun, hended, hW, hsame⟩ := X0.leave (v := some (.long (((1 : Int64) <<< ((b1 &&& (63 : Int32)) &&& 0x3f).toInt64) + (((c1 &&& (7 : Int32)) - (4 : Int32)).toInt64)))) (fun h => by rw [Bd.returns] at h; cases h)
    refine ⟨_, _, pre0 _ ?_, hrun, hended, _, _, rfl, ?_, ⟨_, rfl⟩, hW, hsame.mono (by decide) (by decide)⟩
    · show Steps p.tables e below (s₁.setTop (mkF m 0 #[.val (.int k), .val (.long q), .second, .val (.int b1), .val (.int c1)] [])) _
      refine XS.iloadN X0.here hx rfl (hb hby own_d_method_4_code_0) rfl ?_
      show Steps p.tables e below (s₁.setTop (mkF m 1 #[.val (.int k), .val (.long q), .second, .val (.int b1), .val (.int c1)] [(.int k)])) _
      refine XS.iconst X0.here hx rfl (hb hby own_d_method_4_code_1) ?_
      show Steps p.tables e below (s₁.setTop (mkF m 2 #[.val (.int k), .val (.long q), .second, .val (.int b1), .val (.int c1)] [(.int (1 : Int32)), (.int k)])) _
      refine XS.icmpYes X0.here hx rfl (pc0 := 2) (pc' := 12) rfl (hb hby own_d_method_4_code_2) rfl (feq (h : ¬ (k = (1 : Int32)))).2 (by decide) (by decide) ?_
      show Steps p.tables e below (s₁.setTop (mkF m 12 #[.val (.int k), .val (.long q), .second, .val (.int b1), .val (.int c1)] [])) _
      refine XS.iloadN X0.here hx rfl (hb hby own_d_method_4_code_12) rfl ?_
      show Steps p.tables e below (s₁.setTop (mkF m 13 #[.val (.int k), .val (.long q), .second, .val (.int b1), .val (.int c1)] [(.int k)])) _
      refine XS.iconst X0.here hx rfl (hb hby own_d_method_4_code_13) ?_
      show Steps p.tables e below (s₁.setTop (mkF m 14 #[.val (.int k), .val (.long q), .second, .val (.int b1), .val (.int c1)] [(.int (2 : Int32)), (.int k)])) _
      refine XS.icmpNo X0.here hx rfl (hb hby own_d_method_4_code_14) rfl (teq (h2 : k = (2 : Int32))).2 ?_
      show Steps p.tables e below (s₁.setTop (mkF m 17 #[.val (.int k), .val (.long q), .second, .val (.int b1), .val (.int c1)] [])) _
      refine XS.lconst X0.here hx rfl (hb hby own_d_method_4_code_17) ?_
      show Steps p.tables e below (s₁.setTop (mkF m 18 #[.val (.int k), .val (.long q), .second, .val (.int b1), .val (.int c1)] [(.long (1 : Int64))])) _
      refine XS.iloadN X0.here hx rfl (hb hby own_d_method_4_code_18) rfl ?_
      show Steps p.tables e below (s₁.setTop (mkF m 19 #[.val (.int k), .val (.long q), .second, .val (.int b1), .val (.int c1)] [(.int b1), (.long (1 : Int64))])) _
      refine XS.bipush X0.here hx rfl (hb hby own_d_method_4_code_19) ?_
      show Steps p.tables e below (s₁.setTop (mkF m 21 #[.val (.int k), .val (.long q), .second, .val (.int b1), .val (.int c1)] [(.int (63 : Int32)), (.int b1), (.long (1 : Int64))])) _
      refine XS.iand X0.here hx rfl (hb hby own_d_method_4_code_21) rfl ?_
      show Steps p.tables e below (s₁.setTop (mkF m 22 #[.val (.int k), .val (.long q), .second, .val (.int b1), .val (.int c1)] [(.int (b1 &&& (63 : Int32))), (.long (1 : Int64))])) _
      refine XS.lshl X0.here hx rfl (hb hby own_d_method_4_code_22) rfl ?_
      show Steps p.tables e below (s₁.setTop (mkF m 23 #[.val (.int k), .val (.long q), .second, .val (.int b1), .val (.int c1)] [(.long ((1 : Int64) <<< ((b1 &&& (63 : Int32)) &&& 0x3f).toInt64))])) _
      refine XS.iload X0.here hx rfl (hb hby own_d_method_4_code_23) rfl ?_
      show Steps p.tables e below (s₁.setTop (mkF m 25 #[.val (.int k), .val (.long q), .second, .val (.int b1), .val (.int c1)] [(.int c1), (.long ((1 : Int64) <<< ((b1 &&& (63 : Int32)) &&& 0x3f).toInt64))])) _
      refine XS.bipush X0.here hx rfl (hb hby own_d_method_4_code_25) ?_
      show Steps p.tables e below (s₁.setTop (mkF m 27 #[.val (.int k), .val (.long q), .second, .val (.int b1), .val (.int c1)] [(.int (7 : Int32)), (.int c1), (.long ((1 : Int64) <<< ((b1 &&& (63 : Int32)) &&& 0x3f).toInt64))])) _
      refine XS.iand X0.here hx rfl (hb hby own_d_method_4_code_27) rfl ?_
      show Steps p.tables e below (s₁.setTop (mkF m 28 #[.val (.int k), .val (.long q), .second, .val (.int b1), .val (.int c1)] [(.int (c1 &&& (7 : Int32))), (.long ((1 : Int64) <<< ((b1 &&& (63 : Int32)) &&& 0x3f).toInt64))])) _
      refine XS.iconst X0.here hx rfl (hb hby own_d_method_4_code_28) ?_
      show Steps p.tables e below (s₁.setTop (mkF m 29 #[.val (.int k), .val (.long q), .second, .val (.int b1), .val (.int c1)] [(.int (4 : Int32)), (.int (c1 &&& (7 : Int32))), (.long ((1 : Int64) <<< ((b1 &&& (63 : Int32)) &&& 0x3f).toInt64))])) _
      refine XS.isub X0.here hx rfl (hb hby own_d_method_4_code_29) rfl ?_
      show Steps p.tables e below (s₁.setTop (mkF m 30 #[.val (.int k), .val (.long q), .second, .val (.int b1), .val (.int c1)] [(.int ((c1 &&& (7 : Int32)) - (4 : Int32))), (.long ((1 : Int64) <<< ((b1 &&& (63 : Int32)) &&& 0x3f).toInt64))])) _
      refine XS.i2l X0.here hx rfl (hb hby own_d_method_4_code_30) rfl ?_
      show Steps p.tables e below (s₁.setTop (mkF m 31 #[.val (.int k), .val (.long q), .second, .val (.int b1), .val (.int c1)] [(.long (((c1 &&& (7 : Int32)) - (4 : Int32)).toInt64)), (.long ((1 : Int64) <<< ((b1 &&& (63 : Int32)) &&& 0x3f).toInt64))])) _
      refine XS.ladd X0.here hx rfl (hb hby own_d_method_4_code_31) rfl ?_
      show Steps p.tables e below (s₁.setTop (mkF m 32 #[.val (.int k), .val (.long q), .second, .val (.int b1), .val (.int c1)] [(.long (((1 : Int64) <<< ((b1 &&& (63 : Int32)) &&& 0x3f).toInt64) + (((c1 &&& (7 : Int32)) - (4 : Int32)).toInt64)))])) _
      exact retOut X0 hx Bd.returns rfl (Or.inr (Or.inl ⟨rfl, rfl, _, rfl⟩)) (hb hby own_d_method_4_code_32) hr
    · show own_QP (some (.long (own_adr k q b1 c1))) h0 n0 _ s₁.heap _
      exact ⟨by rw [own_adr, if_neg h, if_pos h2], N0, e0⟩
  · obtain ⟨fs, hr, hrun, hended, hW, hsame⟩ := X0.leave (v := some (.long q)) (fun h => by rw [Bd.returns] at h; cases h)
    refine ⟨_, _, pre0 _ ?_, hrun, hended, _, _, rfl, ?_, ⟨_, rfl⟩, hW, hsame.mono (by decide) (by decide)⟩
    · show Steps p.tables e below (s₁.setTop (mkF m 0 #[.val (.int k), .val (.long q), .second, .val (.int b1), .val (.int c1)] [])) _
      refine XS.iloadN X0.here hx rfl (hb hby own_d_method_4_code_0) rfl ?_
      show Steps p.tables e below (s₁.setTop (mkF m 1 #[.val (.int k), .val (.long q), .second, .val (.int b1), .val (.int c1)] [(.int k)])) _
      refine XS.iconst X0.here hx rfl (hb hby own_d_method_4_code_1) ?_
      show Steps p.tables e below (s₁.setTop (mkF m 2 #[.val (.int k), .val (.long q), .second, .val (.int b1), .val (.int c1)] [(.int (1 : Int32)), (.int k)])) _
      refine XS.icmpYes X0.here hx rfl (pc0 := 2) (pc' := 12) rfl (hb hby own_d_method_4_code_2) rfl (feq (h : ¬ (k = (1 : Int32)))).2 (by decide) (by decide) ?_
      show Steps p.tables e below (s₁.setTop (mkF m 12 #[.val (.int k), .val (.long q), .second, .val (.int b1), .val (.int c1)] [])) _
      refine XS.iloadN X0.here hx rfl (hb hby own_d_method_4_code_12) rfl ?_
      show Steps p.tables e below (s₁.setTop (mkF m 13 #[.val (.int k), .val (.long q), .second, .val (.int b1), .val (.int c1)] [(.int k)])) _
      refine XS.iconst X0.here hx rfl (hb hby own_d_method_4_code_13) ?_
      show Steps p.tables e below (s₁.setTop (mkF m 14 #[.val (.int k), .val (.long q), .second, .val (.int b1), .val (.int c1)] [(.int (2 : Int32)), (.int k)])) _
      refine XS.icmpYes X0.here hx rfl (pc0 := 14) (pc' := 33) rfl (hb hby own_d_method_4_code_14) rfl (feq (h2 : ¬ (k = (2 : Int32)))).2 (by decide) (by decide) ?_
      show Steps p.tables e below (s₁.setTop (mkF m 33 #[.val (.int k), .val (.long q), .second, .val (.int b1), .val (.int c1)] [])) _
      refine XS.lloadN X0.here hx rfl (hb hby own_d_method_4_code_33) rfl ?_
      show Steps p.tables e below (s₁.setTop (mkF m 34 #[.val (.int k), .val (.long q), .second, .val (.int b1), .val (.int c1)] [(.long q)])) _
      exact retOut X0 hx Bd.returns rfl (Or.inr (Or.inl ⟨rfl, rfl, _, rfl⟩)) (hb hby own_d_method_4_code_34) hr
    · show own_QP (some (.long (own_adr k q b1 c1))) h0 n0 _ s₁.heap _
      exact ⟨by rw [own_adr, if_neg h, if_neg h2], N0, e0⟩
set_option maxRecDepth 65536 in
set_option maxHeartbeats 40000000 in
theorem own_rmc (l : Launch) (Z : State) (a0 : Array Value) (hw : ∀ d ∈ tables_1, d.before a0 Z = true) (ws : List Jvm.Cond) (a sn kn : Addr) (z : Int32) (M : Int64) (u1 u2 u3 u4 : Value) (h0 : Heap) (n0 : Nat) (Z0 : n0 ≤ h0.size) (E_a : Exa Z h0 a "com/example/tablewright/tablewright/model/AddressSpace") (g_a : n0 ≤ a) (F_name : Fld Z h0 a "com/example/tablewright/tablewright/model/AddressSpace" "name" "Ljava/lang/String;" u1) (F_kind : Fld Z h0 a "com/example/tablewright/tablewright/model/AddressSpace" "kind" "Lcom/example/tablewright/tablewright/model/AddressSpace$Kind;" u2) (F_size : Fld Z h0 a "com/example/tablewright/tablewright/model/AddressSpace" "size" "I" u3) (F_addressMask : Fld Z h0 a "com/example/tablewright/tablewright/model/AddressSpace" "addressMask" "J" u4) (hz1 : ¬ z < (1 : Int32)) (hz2 : ¬ (8 : Int32) < z) (hM : own_msk z M) :
    MetFree l (⟨"com/example/tablewright/tablewright/model/AddressSpace", "<init>", "(Ljava/lang/String;Lcom/example/tablewright/tablewright/model/AddressSpace$Kind;I)V"⟩ : MethodName) (head1 (Jvm.Cond.code (⟨"com/example/tablewright/tablewright/model/AddressSpace", "<init>", "(Ljava/lang/String;Lcom/example/tablewright/tablewright/model/AddressSpace$Kind;I)V"⟩ : MethodName) prog_83_method_1_code 4 none :: ws) ({ frames := 1, cells := 0, slots := 0, locals := 12 } : Room)) (fun a_ U_ => a_ = #[(.ref a), (.ref sn), (.ref kn), (.int z)] ∧ Z.Warmed39 U_.vm ∧ U_.heap = h0) (fun _ _ _ _ _ => True) (fun _ U_ o_ U_' => ∃ v_ L_, o_ = .returned v_ ∧ own_QC Z a M h0 n0 v_ U_'.heap L_ ∧ FrameEnd U_ o_ U_' L_ ({ frames := 1, cells := 0, slots := 0, locals := 12 } : Room).cells ({ frames := 1, cells := 0, slots := 0, locals := 12 } : Room).slots) := by
  refine MetFree.of_bodySF (plainFor_of_name own_pn3) hisR ?_
  intro p e s m args below meth c s₁ Bd hml0 hP hK
  obtain ⟨rfl, hZ, hh⟩ := hP
  have hx := Bd.exec
  have hby := Bd.bytes
  have hml : c.maxLocals = 4 := hml0
  have hown : s.vm.findClass "com/example/tablewright/tablewright/model/AddressSpace" = some m.cls := findClass_of_methodNamed Bd.named
  have hnm := (name_of_methodNamed Bd.named Bd.method).1
  have X0 : Stand p l e ({ frames := 1, cells := 0, slots := 0, locals := 12 } : Room) s m #[(.ref a), (.ref sn), (.ref kn), (.int z)] below meth c s₁ [] 0 0 := Stand.of_body Bd
  have e0 : s₁.heap = h0 := by rw [← hh, Bd.state]; rfl
  have N0 := Fr.nil n0
  have pre0 : ∀ t, Steps p.tables e below (s₁.setTop (mkF m 0 #[.val (.ref a), .val (.ref sn), .val (.ref kn), .val (.int z)] [])) t → Steps p.tables e below (s₁.setTop (entryFrame m #[(.ref a), (.ref sn), (.ref kn), (.int z)] 4)) t := fun t_ k_ => castTop (own_ef4 m a sn kn z) k_
  rcases hM with ⟨h, h'⟩ | ⟨h, h'⟩
  · obtain ⟨T1, X1, e1, st1⟩ := initO X0 hx hZ hown (hw _ (List.mem_of_getElem? (i := 42) rfl)) (hw _ (List.mem_of_getElem? (i := 27) rfl)) (hw _ (List.mem_of_getElem? (i := 28) rfl)) e0 (g := (mkF m 1 #[.val (.ref a), .val (.ref sn), .val (.ref kn), .val (.int z)] [(.ref a)])) rfl (by rw [hml]; rfl) rfl (hb hby own_d_prog_83_method_1_code_1) (by decide) (W := 0) (by show 2 * 0 + _ ≤ _; exact Nat.le_of_eq rfl) (by decide)
    obtain ⟨T2, hp2, X2, e2, W2, st2⟩ := putF X1 hx hZ hown (host := "") (Or.inl (hw _ (List.mem_of_getElem? (i := 43) rfl))) Via.refl e1 F_name E_a (Or.inr ⟨(hw _ (List.mem_of_getElem? (i := 44) rfl)), rfl, hnm⟩) (hw _ (List.mem_of_getElem? (i := 37) rfl)) (ty := (.object "java/lang/String")) (by decide) rfl rfl (g := (mkF m 31 #[.val (.ref a), .val (.ref sn), .val (.ref kn), .val (.int z)] [(.ref sn), (.ref a)])) rfl rfl (hb hby own_d_prog_83_method_1_code_31)
    have F2_a_name := F_name.same W2
    have F2_a_kind := F_kind.other W2 (Or.inr (slot_ne (Or.inr (hw _ (List.mem_of_getElem? (i := 46) rfl))) (Or.inr (hw _ (List.mem_of_getElem? (i := 44) rfl))) (by decide) (t := (.object "com/example/tablewright/tablewright/model/AddressSpace$Kind")) (t' := (.object "java/lang/String")) (by decide) (by decide)))
    have F2_a_size := F_size.other W2 (Or.inr (slot_ne (Or.inr (hw _ (List.mem_of_getElem? (i := 48) rfl))) (Or.inr (hw _ (List.mem_of_getElem? (i := 44) rfl))) (by decide) (t := .int) (t' := (.object "java/lang/String")) (by decide) (by decide)))
    have F2_a_addressMask := F_addressMask.other W2 (Or.inr (slot_ne (Or.inr (hw _ (List.mem_of_getElem? (i := 50) rfl))) (Or.inr (hw _ (List.mem_of_getElem? (i := 44) rfl))) (by decide) (t := .long) (t' := (.object "java/lang/String")) (by decide) (by decide)))
    have E2_a := E_a.wr W2
    have K2 := (Keep.refl h0 [a]).wr W2 (Or.inl (List.mem_of_getElem? (i := 0) rfl))
    have N2 := Fr.snoc X2 N0 g_a
    obtain ⟨T3, hp3, X3, e3, W3, st3⟩ := putF X2 hx hZ hown (host := "") (Or.inl (hw _ (List.mem_of_getElem? (i := 45) rfl))) Via.refl e2 F2_a_kind E2_a (Or.inr ⟨(hw _ (List.mem_of_getElem? (i := 46) rfl)), rfl, hnm⟩) (hw _ (List.mem_of_getElem? (i := 37) rfl)) (ty := (.object "com/example/tablewright/tablewright/model/AddressSpace$Kind")) (by decide) rfl rfl (g := (mkF m 36 #[.val (.ref a), .val (.ref sn), .val (.ref kn), .val (.int z)] [(.ref kn), (.ref a)])) rfl rfl (hb hby own_d_prog_83_method_1_code_36)
    have F3_a_name := F2_a_name.other W3 (Or.inr (slot_ne (Or.inr (hw _ (List.mem_of_getElem? (i := 44) rfl))) (Or.inr (hw _ (List.mem_of_getElem? (i := 46) rfl))) (by decide) (t := (.object "java/lang/String")) (t' := (.object "com/example/tablewright/tablewright/model/AddressSpace$Kind")) (by decide) (by decide)))
    have F3_a_kind := F2_a_kind.same W3
    have F3_a_size := F2_a_size.other W3 (Or.inr (slot_ne (Or.inr (hw _ (List.mem_of_getElem? (i := 48) rfl))) (Or.inr (hw _ (List.mem_of_getElem? (i := 46) rfl))) (by decide) (t := .int) (t' := (.object "com/example/tablewright/tablewright/model/AddressSpace$Kind")) (by decide) (by decide)))
    have F3_a_addressMask := F2_a_addressMask.other W3 (Or.inr (slot_ne (Or.inr (hw _ (List.mem_of_getElem? (i := 50) rfl))) (Or.inr (hw _ (List.mem_of_getElem? (i := 46) rfl))) (by decide) (t := .long) (t' := (.object "com/example/tablewright/tablewright/model/AddressSpace$Kind")) (by decide) (by decide)))
    have E3_a := E2_a.wr W3
    have K3 := K2.wr W3 (Or.inl (List.mem_of_getElem? (i := 0) rfl))
    have N3 := Fr.snoc X3 N2 g_a
    obtain ⟨T4, hp4, X4, e4, W4, st4⟩ := putF X3 hx hZ hown (host := "") (Or.inl (hw _ (List.mem_of_getElem? (i := 47) rfl))) Via.refl e3 F3_a_size E3_a (Or.inr ⟨(hw _ (List.mem_of_getElem? (i := 48) rfl)), rfl, hnm⟩) (hw _ (List.mem_of_getElem? (i := 37) rfl)) (ty := .int) (by decide) rfl rfl (g := (mkF m 41 #[.val (.ref a), .val (.ref sn), .val (.ref kn), .val (.int z)] [(.int z), (.ref a)])) rfl rfl (hb hby own_d_prog_83_method_1_code_41)
    have F4_a_name := F3_a_name.other W4 (Or.inr (slot_ne (Or.inr (hw _ (List.mem_of_getElem? (i := 44) rfl))) (Or.inr (hw _ (List.mem_of_getElem? (i := 48) rfl))) (by decide) (t := (.object "java/lang/String")) (t' := .int) (by decide) (by decide)))
    have F4_a_kind := F3_a_kind.other W4 (Or.inr (slot_ne (Or.inr (hw _ (List.mem_of_getElem? (i := 46) rfl))) (Or.inr (hw _ (List.mem_of_getElem? (i := 48) rfl))) (by decide) (t := (.object "com/example/tablewright/tablewright/model/AddressSpace$Kind")) (t' := .int) (by decide) (by decide)))
    have F4_a_size := F3_a_size.same W4
    have F4_a_addressMask := F3_a_addressMask.other W4 (Or.inr (slot_ne (Or.inr (hw _ (List.mem_of_getElem? (i := 50) rfl))) (Or.inr (hw _ (List.mem_of_getElem? (i := 48) rfl))) (by decide) (t := .long) (t' := .int) (by decide) (by decide)))
    have E4_a := E3_a.wr W4
    have K4 := K3.wr W4 (Or.inl (List.mem_of_getElem? (i := 0) rfl))
    have N4 := Fr.snoc X4 N3 g_a
    obtain ⟨T5, hp5, X5, e5, W5, st5⟩ := putF X4 hx hZ hown (host := "") (Or.inl (hw _ (List.mem_of_getElem? (i := 49) rfl))) Via.refl e4 F4_a_addressMask E4_a (Or.inr ⟨(hw _ (List.mem_of_getElem? (i := 50) rfl)), rfl, hnm⟩) (hw _ (List.mem_of_getElem? (i := 37) rfl)) (ty := .long) (by decide) rfl rfl (g := (mkF m 65 #[.val (.ref a), .val (.ref sn), .val (.ref kn), .val (.int z)] [(.long (-1 : Int64)), (.ref a)])) rfl rfl (hb hby own_d_prog_83_method_1_code_65)
    have F5_a_name := F4_a_name.other W5 (Or.inr (slot_ne (Or.inr (hw _ (List.mem_of_getElem? (i := 44) rfl))) (Or.inr (hw _ (List.mem_of_getElem? (i := 50) rfl))) (by decide) (t := (.object "java/lang/String")) (t' := .long) (by decide) (by decide)))
    have F5_a_kind := F4_a_kind.other W5 (Or.inr (slot_ne (Or.inr (hw _ (List.mem_of_getElem? (i := 46) rfl))) (Or.inr (hw _ (List.mem_of_getElem? (i := 50) rfl))) (by decide) (t := (.object "com/example/tablewright/tablewright/model/AddressSpace$Kind")) (t' := .long) (by decide) (by decide)))
    have F5_a_size := F4_a_size.other W5 (Or.inr (slot_ne (Or.inr (hw _ (List.mem_of_getElem? (i := 48) rfl))) (Or.inr (hw _ (List.mem_of_getElem? (i := 50) rfl))) (by decide) (t := .int) (t' := .long) (by decide) (by decide)))
    have F5_a_addressMask := F4_a_addressMask.same W5
    have E5_a := E4_a.wr W5
    have K5 := K4.wr W5 (Or.inl (List.mem_of_getElem? (i := 0) rfl))
    have N5 := Fr.snoc X5 N4 g_a
    obtain ⟨fs, hr, hrun, hended, hW, hsame⟩ := X5.leave (v := none) (fun _ => rfl)
    refine ⟨_, _, pre0 _ ?_, hrun, hended, _, _, rfl, ?_, ⟨_, rfl⟩, hW, hsame.mono (by decide) (by decide)⟩
    · show Steps p.tables e below (s₁.setTop (mkF m 0 #[.val (.ref a), .val (.ref sn), .val (.ref kn), .val (.int z)] [])) _
      refine XS.aloadN X0.here hx rfl (hb hby own_d_prog_83_method_1_code_0) rfl rfl ?_
      show Steps p.tables e below (s₁.setTop (mkF m 1 #[.val (.ref a), .val (.ref sn), .val (.ref kn), .val (.int z)] [(.ref a)])) _
      refine st1 _ ?_
      show Steps p.tables e below (T1.setTop (mkF m 4 #[.val (.ref a), .val (.ref sn), .val (.ref kn), .val (.int z)] [])) _
      refine XS.iloadN X1.here hx rfl (hb hby own_d_prog_83_method_1_code_4) rfl ?_
      show Steps p.tables e below (T1.setTop (mkF m 5 #[.val (.ref a), .val (.ref sn), .val (.ref kn), .val (.int z)] [(.int z)])) _
      refine XS.iconst X1.here hx rfl (hb hby own_d_prog_83_method_1_code_5) ?_
      show Steps p.tables e below (T1.setTop (mkF m 6 #[.val (.ref a), .val (.ref sn), .val (.ref kn), .val (.int z)] [(.int (1 : Int32)), (.int z)])) _
      refine XS.icmpNo X1.here hx rfl (hb hby own_d_prog_83_method_1_code_6) rfl (flt (hz1 : ¬ (z < (1 : Int32)))).1 ?_
      show Steps p.tables e below (T1.setTop (mkF m 9 #[.val (.ref a), .val (.ref sn), .val (.ref kn), .val (.int z)] [])) _
      refine XS.iloadN X1.here hx rfl (hb hby own_d_prog_83_method_1_code_9) rfl ?_
      show Steps p.tables e below (T1.setTop (mkF m 10 #[.val (.ref a), .val (.ref sn), .val (.ref kn), .val (.int z)] [(.int z)])) _
      refine XS.bipush X1.here hx rfl (hb hby own_d_prog_83_method_1_code_10) ?_
      show Steps p.tables e below (T1.setTop (mkF m 12 #[.val (.ref a), .val (.ref sn), .val (.ref kn), .val (.int z)] [(.int (8 : Int32)), (.int z)])) _
      refine XS.icmpYes X1.here hx rfl (pc0 := 12) (pc' := 29) rfl (hb hby own_d_prog_83_method_1_code_12) rfl (flt (hz2 : ¬ ((8 : Int32) < z))).2.2.2 (by decide) (by decide) ?_
      show Steps p.tables e below (T1.setTop (mkF m 29 #[.val (.ref a), .val (.ref sn), .val (.ref kn), .val (.int z)] [])) _
      refine XS.aloadN X1.here hx rfl (hb hby own_d_prog_83_method_1_code_29) rfl rfl ?_
      show Steps p.tables e below (T1.setTop (mkF m 30 #[.val (.ref a), .val (.ref sn), .val (.ref kn), .val (.int z)] [(.ref a)])) _
      refine XS.aloadN X1.here hx rfl (hb hby own_d_prog_83_method_1_code_30) rfl rfl ?_
      show Steps p.tables e below (T1.setTop (mkF m 31 #[.val (.ref a), .val (.ref sn), .val (.ref kn), .val (.int z)] [(.ref sn), (.ref a)])) _
      refine st2 _ ?_
      show Steps p.tables e below (T2.setTop (mkF m 34 #[.val (.ref a), .val (.ref sn), .val (.ref kn), .val (.int z)] [])) _
      refine XS.aloadN X2.here hx rfl (hb hby own_d_prog_83_method_1_code_34) rfl rfl ?_
      show Steps p.tables e below (T2.setTop (mkF m 35 #[.val (.ref a), .val (.ref sn), .val (.ref kn), .val (.int z)] [(.ref a)])) _
      refine XS.aloadN X2.here hx rfl (hb hby own_d_prog_83_method_1_code_35) rfl rfl ?_
      show Steps p.tables e below (T2.setTop (mkF m 36 #[.val (.ref a), .val (.ref sn), .val (.ref kn), .val (.int z)] [(.ref kn), (.ref a)])) _
      refine st3 _ ?_
      show Steps p.tables e below (T3.setTop (mkF m 39 #[.val (.ref a), .val (.ref sn), .val (.ref kn), .val (.int z)] [])) _
      refine XS.aloadN X3.here hx rfl (hb hby own_d_prog_83_method_1_code_39) rfl rfl ?_
      show Steps p.tables e below (T3.setTop (mkF m 40 #[.val (.ref a), .val (.ref sn), .val (.ref kn), .val (.int z)] [(.ref a)])) _
      refine XS.iloadN X3.here hx rfl (hb hby own_d_prog_83_method_1_code_40) rfl ?_
      show Steps p.tables e below (T3.setTop (mkF m 41 #[.val (.ref a), .val (.ref sn), .val (.ref kn), .val (.int z)] [(.int z), (.ref a)])) _
      refine st4 _ ?_
      show Steps p.tables e below (T4.setTop (mkF m 44 #[.val (.ref a), .val (.ref sn), .val (.ref kn), .val (.int z)] [])) _
      refine XS.aloadN X4.here hx rfl (hb hby own_d_prog_83_method_1_code_44) rfl rfl ?_
      show Steps p.tables e below (T4.setTop (mkF m 45 #[.val (.ref a), .val (.ref sn), .val (.ref kn), .val (.int z)] [(.ref a)])) _
      refine XS.iloadN X4.here hx rfl (hb hby own_d_prog_83_method_1_code_45) rfl ?_
      show Steps p.tables e below (T4.setTop (mkF m 46 #[.val (.ref a), .val (.ref sn), .val (.ref kn), .val (.int z)] [(.int z), (.ref a)])) _
      refine XS.bipush X4.here hx rfl (hb hby own_d_prog_83_method_1_code_46) ?_
      show Steps p.tables e below (T4.setTop (mkF m 48 #[.val (.ref a), .val (.ref sn), .val (.ref kn), .val (.int z)] [(.int (8 : Int32)), (.int z), (.ref a)])) _
      refine XS.icmpNo X4.here hx rfl (hb hby own_d_prog_83_method_1_code_48) rfl (teq (h : z = (8 : Int32))).2 ?_
      show Steps p.tables e below (T4.setTop (mkF m 51 #[.val (.ref a), .val (.ref sn), .val (.ref kn), .val (.int z)] [(.ref a)])) _
      refine Jvm.Stand.ldc2J X4 hx hown (mvT hZ (hw _ (List.mem_of_getElem? (i := 56) rfl))) rfl (hb hby own_d_prog_83_method_1_code_51) ?_
      show Steps p.tables e below (T4.setTop (mkF m 54 #[.val (.ref a), .val (.ref sn), .val (.ref kn), .val (.int z)] [(.long (-1 : Int64)), (.ref a)])) _
      refine XS.goto X4.here hx rfl (pc0 := 54) (pc' := 65) rfl (hb hby own_d_prog_83_method_1_code_54) (by decide) (by decide) ?_
      show Steps p.tables e below (T4.setTop (mkF m 65 #[.val (.ref a), .val (.ref sn), .val (.ref kn), .val (.int z)] [(.long (-1 : Int64)), (.ref a)])) _
      refine st5 _ ?_
      show Steps p.tables e below (T5.setTop (mkF m 68 #[.val (.ref a), .val (.ref sn), .val (.ref kn), .val (.int z)] [])) _
      exact X5.returnOut hx Bd.returns (hb hby own_d_prog_83_method_1_code_68) hr
    · show own_QC Z a M h0 n0 _ T5.heap _
      rw [e5]
      exact ⟨rfl, N5, K5, E5_a, by rw [h']; exact F5_a_addressMask⟩
  · obtain ⟨T6, X6, e6, st6⟩ := initO X0 hx hZ hown (hw _ (List.mem_of_getElem? (i := 42) rfl)) (hw _ (List.mem_of_getElem? (i := 27) rfl)) (hw _ (List.mem_of_getElem? (i := 28) rfl)) e0 (g := (mkF m 1 #[.val (.ref a), .val (.ref sn), .val (.ref kn), .val (.int z)] [(.ref a)])) rfl (by rw [hml]; rfl) rfl (hb hby own_d_prog_83_method_1_code_1) (by decide) (W := 0) (by show 2 * 0 + _ ≤ _; exact Nat.le_of_eq rfl) (by decide)
    obtain ⟨T7, hp7, X7, e7, W7, st7⟩ := putF X6 hx hZ hown (host := "") (Or.inl (hw _ (List.mem_of_getElem? (i := 43) rfl))) Via.refl e6 F_name E_a (Or.inr ⟨(hw _ (List.mem_of_getElem? (i := 44) rfl)), rfl, hnm⟩) (hw _ (List.mem_of_getElem? (i := 37) rfl)) (ty := (.object "java/lang/String")) (by decide) rfl rfl (g := (mkF m 31 #[.val (.ref a), .val (.ref sn), .val (.ref kn), .val (.int z)] [(.ref sn), (.ref a)])) rfl rfl (hb hby own_d_prog_83_method_1_code_31)
    have F7_a_name := F_name.same W7
    have F7_a_kind := F_kind.other W7 (Or.inr (slot_ne (Or.inr (hw _ (List.mem_of_getElem? (i := 46) rfl))) (Or.inr (hw _ (List.mem_of_getElem? (i := 44) rfl))) (by decide) (t := (.object "com/example/tablewright/tablewright/model/AddressSpace$Kind")) (t' := (.object "java/lang/String")) (by decide) (by decide)))
    have F7_a_size := F_size.other W7 (Or.inr (slot_ne (Or.inr (hw _ (List.mem_of_getElem? (i := 48) rfl))) (Or.inr (hw _ (List.mem_of_getElem? (i := 44) rfl))) (by decide) (t := .int) (t' := (.object "java/lang/String")) (by decide) (by decide)))
    have F7_a_addressMask := F_addressMask.other W7 (Or.inr (slot_ne (Or.inr (hw _ (List.mem_of_getElem? (i := 50) rfl))) (Or.inr (hw _ (List.mem_of_getElem? (i := 44) rfl))) (by decide) (t := .long) (t' := (.object "java/lang/String")) (by decide) (by decide)))
    have E7_a := E_a.wr W7
    have K7 := (Keep.refl h0 [a]).wr W7 (Or.inl (List.mem_of_getElem? (i := 0) rfl))
    have N7 := Fr.snoc X7 N0 g_a
    obtain ⟨T8, hp8, X8, e8, W8, st8⟩ := putF X7 hx hZ hown (host := "") (Or.inl (hw _ (List.mem_of_getElem? (i := 45) rfl))) Via.refl e7 F7_a_kind E7_a (Or.inr ⟨(hw _ (List.mem_of_getElem? (i := 46) rfl)), rfl, hnm⟩) (hw _ (List.mem_of_getElem? (i := 37) rfl)) (ty := (.object "com/example/tablewright/tablewright/model/AddressSpace$Kind")) (by decide) rfl rfl (g := (mkF m 36 #[.val (.ref a), .val (.ref sn), .val (.ref kn), .val (.int z)] [(.ref kn), (.ref a)])) rfl rfl (hb hby own_d_prog_83_method_1_code_36)
    have F8_a_name := F7_a_name.other W8 (Or.inr (slot_ne (Or.inr (hw _ (List.mem_of_getElem? (i := 44) rfl))) (Or.inr (hw _ (List.mem_of_getElem? (i := 46) rfl))) (by decide) (t := (.object "java/lang/String")) (t' := (.object "com/example/tablewright/tablewright/model/AddressSpace$Kind")) (by decide) (by decide)))
    have F8_a_kind := F7_a_kind.same W8
    have F8_a_size := F7_a_size.other W8 (Or.inr (slot_ne (Or.inr (hw _ (List.mem_of_getElem? (i := 48) rfl))) (Or.inr (hw _ (List.mem_of_getElem? (i := 46) rfl))) (by decide) (t := .int) (t' := (.object "com/example/tablewright/tablewright/model/AddressSpace$Kind")) (by decide) (by decide)))
    have F8_a_addressMask := F7_a_addressMask.other W8 (Or.inr (slot_ne (Or.inr (hw _ (List.mem_of_getElem? (i := 50) rfl))) (Or.inr (hw _ (List.mem_of_getElem? (i := 46) rfl))) (by decide) (t := .long) (t' := (.object "com/example/tablewright/tablewright/model/AddressSpace$Kind")) (by decide) (by decide)))
    have E8_a := E7_a.wr W8
    have K8 := K7.wr W8 (Or.inl (List.mem_of_getElem? (i := 0) rfl))
    have N8 := Fr.snoc X8 N7 g_a
    obtain ⟨T9, hp9, X9, e9, W9, st9⟩ := putF X8 hx hZ hown (host := "") (Or.inl (hw _ (List.mem_of_getElem? (i := 47) rfl))) Via.refl e8 F8_a_size E8_a (Or.inr ⟨(hw _ (List.mem_of_getElem? (i := 48) rfl)), rfl, hnm⟩) (hw _ (List.mem_of_getElem? (i := 37) rfl)) (ty := .int) (by decide) rfl rfl (g := (mkF m 41 #[.val (.ref a), .val (.ref sn), .val (.ref kn), .val (.int z)] [(.int z), (.ref a)])) rfl rfl (hb hby own_d_prog_83_method_1_code_41)
    have F9_a_name := F8_a_name.other W9 (Or.inr (slot_ne (Or.inr (hw _ (List.mem_of_getElem? (i := 44) rfl))) (Or.inr (hw _ (List.mem_of_getElem? (i := 48) rfl))) (by decide) (t := (.object "java/lang/String")) (t' := .int) (by decide) (by decide)))
    have F9_a_kind := F8_a_kind.other W9 (Or.inr (slot_ne (Or.inr (hw _ (List.mem_of_getElem? (i := 46) rfl))) (Or.inr (hw _ (List.mem_of_getElem? (i := 48) rfl))) (by decide) (t := (.object "com/example/tablewright/tablewright/model/AddressSpace$Kind")) (t' := .int) (by decide) (by decide)))
    have F9_a_size := F8_a_size.same W9
    have F9_a_addressMask := F8_a_addressMask.other W9 (Or.inr (slot_ne (Or.inr (hw _ (List.mem_of_getElem? (i := 50) rfl))) (Or.inr (hw _ (List.mem_of_getElem? (i := 48) rfl))) (by decide) (t := .long) (t' := .int) (by decide) (by decide)))
    have E9_a := E8_a.wr W9
    have K9 := K8.wr W9 (Or.inl (List.mem_of_getElem? (i := 0) rfl))
    have N9 := Fr.snoc X9 N8 g_a
    obtain ⟨T10, hp10, X10, e10, W10, st10⟩ := putF X9 hx hZ hown (host := "") (Or.inl (hw _ (List.mem_of_getElem? (i := 49) rfl))) Via.refl e9 F9_a_addressMask E9_a (Or.inr ⟨(hw _ (List.mem_of_getElem? (i := 50) rfl)), rfl, hnm⟩) (hw _ (List.mem_of_getElem? (i := 37) rfl)) (ty := .long) (by decide) rfl rfl (g := (mkF m 65 #[.val (.ref a), .val (.ref sn), .val (.ref kn), .val (.int z)] [(.long (((1 : Int64) <<< (((8 : Int32) * z) &&& 0x3f).toInt64) - (1 : Int64))), (.ref a)])) rfl rfl (hb hby own_d_prog_83_method_1_code_65)
    have F10_a_name := F9_a_name.other W10 (Or.inr (slot_ne (Or.inr (hw _ (List.mem_of_getElem? (i := 44) rfl))) (Or.inr (hw _ (List.mem_of_getElem? (i := 50) rfl))) (by decide) (t := (.object "java/lang/String")) (t' := .long) (by decide) (by decide)))
    have F10_a_kind := F9_a_kind.other W10 (Or.inr (slot_ne (Or.inr (hw _ (List.mem_of_getElem? (i := 46) rfl))) (Or.inr (hw _ (List.mem_of_getElem? (i := 50) rfl))) (by decide) (t := (.object "com/example/tablewright/tablewright/model/AddressSpace$Kind")) (t' := .long) (by decide) (by decide)))
    have F10_a_size := F9_a_size.other W10 (Or.inr (slot_ne (Or.inr (hw _ (List.mem_of_getElem? (i := 48) rfl))) (Or.inr (hw _ (List.mem_of_getElem? (i := 50) rfl))) (by decide) (t := .int) (t' := .long) (by decide) (by decide)))
    have F10_a_addressMask := F9_a_addressMask.same W10
    have E10_a := E9_a.wr W10
    have K10 := K9.wr W10 (Or.inl (List.mem_of_getElem? (i := 0) rfl))
    have N10 := Fr.snoc X10 N9 g_a
    obtain ⟨fs, hr, hrun, hended, hW, hsame⟩ := X10.leave (v := none) (fun _ => rfl)
    refine ⟨_, _, pre0 _ ?_, hrun, hended, _, _, rfl, ?_, ⟨_, rfl⟩, hW, hsame.mono (by decide) (by decide)⟩
    · show Steps p.tables e below (s₁.setTop (mkF m 0 #[.val (.ref a), .val (.ref sn), .val (.ref kn), .val (.int z)] [])) _
      refine XS.aloadN X0.here hx rfl (hb hby own_d_prog_83_method_1_code_0) rfl rfl ?_
      show Steps p.tables e below (s₁.setTop (mkF m 1 #[.val (.ref a), .val (.ref sn), .val (.ref kn), .val (.int z)] [(.ref a)])) _
      refine st6 _ ?_
      show Steps p.tables e below (T6.setTop (mkF m 4 #[.val (.ref a), .val (.ref sn), .val (.ref kn), .val (.int z)] [])) _
      refine XS.iloadN X6.here hx rfl (hb hby own_d_prog_83_method_1_code_4) rfl ?_
      show Steps p.tables e below (T6.setTop (mkF m 5 #[.val (.ref a), .val (.ref sn), .val (.ref kn), .val (.int z)] [(.int z)])) _
      refine XS.iconst X6.here hx rfl (hb hby own_d_prog_83_method_1_code_5) ?_
      show Steps p.tables e below (T6.setTop (mkF m 6 #[.val (.ref a), .val (.ref sn), .val (.ref kn), .val (.int z)] [(.int (1 : Int32)), (.int z)])) _
      refine XS.icmpNo X6.here hx rfl (hb hby own_d_prog_83_method_1_code_6) rfl (flt (hz1 : ¬ (z < (1 : Int32)))).1 ?_
      show Steps p.tables e below (T6.setTop (mkF m 9 #[.val (.ref a), .val (.ref sn), .val (.ref kn), .val (.int z)] [])) _
      refine XS.iloadN X6.here hx rfl (hb hby own_d_prog_83_method_1_code_9) rfl ?_
      show Steps p.tables e below (T6.setTop (mkF m 10 #[.val (.ref a), .val (.ref sn), .val (.ref kn), .val (.int z)] [(.int z)])) _
      refine XS.bipush X6.here hx rfl (hb hby own_d_prog_83_method_1_code_10) ?_
      show Steps p.tables e below (T6.setTop (mkF m 12 #[.val (.ref a), .val (.ref sn), .val (.ref kn), .val (.int z)] [(.int (8 : Int32)), (.int z)])) _
      refine XS.icmpYes X6.here hx rfl (pc0 := 12) (pc' := 29) rfl (hb hby own_d_prog_83_method_1_code_12) rfl (flt (hz2 : ¬ ((8 : Int32) < z))).2.2.2 (by decide) (by decide) ?_
      show Steps p.tables e below (T6.setTop (mkF m 29 #[.val (.ref a), .val (.ref sn), .val (.ref kn), .val (.int z)] [])) _
      refine XS.aloadN X6.here hx rfl (hb hby own_d_prog_83_method_1_code_29) rfl rfl ?_
      show Steps p.tables e below (T6.setTop (mkF m 30 #[.val (.ref a), .val (.ref sn), .val (.ref kn), .val (.int z)] [(.ref a)])) _
      refine XS.aloadN X6.here hx rfl (hb hby own_d_prog_83_method_1_code_30) rfl rfl ?_
      show Steps p.tables e below (T6.setTop (mkF m 31 #[.val (.ref a), .val (.ref sn), .val (.ref kn), .val (.int z)] [(.ref sn), (.ref a)])) _
      refine st7 _ ?_
      show Steps p.tables e below (T7.setTop (mkF m 34 #[.val (.ref a), .val (.ref sn), .val (.ref kn), .val (.int z)] [])) _
      refine XS.aloadN X7.here hx rfl (hb hby own_d_prog_83_method_1_code_34) rfl rfl ?_
      show Steps p.tables e below (T7.setTop (mkF m 35 #[.val (.ref a), .val (.ref sn), .val (.ref kn), .val (.int z)] [(.ref a)])) _
      refine XS.aloadN X7.here hx rfl (hb hby own_d_prog_83_method_1_code_35) rfl rfl ?_
      show Steps p.tables e below (T7.setTop (mkF m 36 #[.val (.ref a), .val (.ref sn), .val (.ref kn), .val (.int z)] [(.ref kn), (.ref a)])) _
      refine st8 _ ?_
      show Steps p.tables e below (T8.setTop (mkF m 39 #[.val (.ref a), .val (.ref sn), .val (.ref kn), .val (.int z)] [])) _
      refine XS.aloadN X8.here hx rfl (hb hby own_d_prog_83_method_1_code_39) rfl rfl ?_
      show Steps p.tables e below (T8.setTop (mkF m 40 #[.val (.ref a), .val (.ref sn), .val (.ref kn), .val (.int z)] [(.ref a)])) _
      refine XS.iloadN X8.here hx rfl (hb hby own_d_prog_83_method_1_code_40) rfl ?_
      show Steps p.tables e below (T8.setTop (mkF m 41 #[.val (.ref a), .val (.ref sn), .val (.ref kn), .val (.int z)] [(.int z), (.ref a)])) _
      refine st9 _ ?_
      show Steps p.tables e below (T9.setTop (mkF m 44 #[.val (.ref a), .val (.ref sn), .val (.ref kn), .val (.int z)] [])) _
      refine XS.aloadN X9.here hx rfl (hb hby own_d_prog_83_method_1_code_44) rfl rfl ?_
      show Steps p.tables e below (T9.setTop (mkF m 45 #[.val (.ref a), .val (.ref sn), .val (.ref kn), .val (.int z)] [(.ref a)])) _
      refine XS.iloadN X9.here hx rfl (hb hby own_d_prog_83_method_1_code_45) rfl ?_
      show Steps p.tables e below (T9.setTop (mkF m 46 #[.val (.ref a), .val (.ref sn), .val (.ref kn), .val (.int z)] [(.int z), (.ref a)])) _
      refine XS.bipush X9.here hx rfl (hb hby own_d_prog_83_method_1_code_46) ?_
      show Steps p.tables e below (T9.setTop (mkF m 48 #[.val (.ref a), .val (.ref sn), .val (.ref kn), .val (.int z)] [(.int (8 : Int32)), (.int z), (.ref a)])) _
      refine XS.icmpYes X9.here hx rfl (pc0 := 48) (pc' := 57) rfl (hb hby own_d_prog_83_method_1_code_48) rfl (feq (h : ¬ (z = (8 : Int32)))).2 (by decide) (by decide) ?_
      show Steps p.tables e below (T9.setTop (mkF m 57 #[.val (.ref a), .val (.ref sn), .val (.ref kn), .val (.int z)] [(.ref a)])) _
      refine XS.lconst X9.here hx rfl (hb hby own_d_prog_83_method_1_code_57) ?_
      show Steps p.tables e below (T9.setTop (mkF m 58 #[.val (.ref a), .val (.ref sn), .val (.ref kn), .val (.int z)] [(.long (1 : Int64)), (.ref a)])) _
      refine XS.bipush X9.here hx rfl (hb hby own_d_prog_83_method_1_code_58) ?_
      show Steps p.tables e below (T9.setTop (mkF m 60 #[.val (.ref a), .val (.ref sn), .val (.ref kn), .val (.int z)] [(.int (8 : Int32)), (.long (1 : Int64)), (.ref a)])) _
      refine XS.iloadN X9.here hx rfl (hb hby own_d_prog_83_method_1_code_60) rfl ?_
      show Steps p.tables e below (T9.setTop (mkF m 61 #[.val (.ref a), .val (.ref sn), .val (.ref kn), .val (.int z)] [(.int z), (.int (8 : Int32)), (.long (1 : Int64)), (.ref a)])) _
      refine XS.imul X9.here hx rfl (hb hby own_d_prog_83_method_1_code_61) rfl ?_
      show Steps p.tables e below (T9.setTop (mkF m 62 #[.val (.ref a), .val (.ref sn), .val (.ref kn), .val (.int z)] [(.int ((8 : Int32) * z)), (.long (1 : Int64)), (.ref a)])) _
      refine XS.lshl X9.here hx rfl (hb hby own_d_prog_83_method_1_code_62) rfl ?_
      show Steps p.tables e below (T9.setTop (mkF m 63 #[.val (.ref a), .val (.ref sn), .val (.ref kn), .val (.int z)] [(.long ((1 : Int64) <<< (((8 : Int32) * z) &&& 0x3f).toInt64)), (.ref a)])) _
      refine XS.lconst X9.here hx rfl (hb hby own_d_prog_83_method_1_code_63) ?_
      show Steps p.tables e below (T9.setTop (mkF m 64 #[.val (.ref a), .val (.ref sn), .val (.ref kn), .val (.int z)] [(.long (1 : Int64)), (.long ((1 : Int64) <<< (((8 : Int32) * z) &&& 0x3f).toInt64)), (.ref a)])) _
      refine XS.lsub X9.here hx rfl (hb hby own_d_prog_83_method_1_code_64) rfl ?_
      show Steps p.tables e below (T9.setTop (mkF m 65 #[.val (.ref a), .val (.ref sn), .val (.ref kn), .val (.int z)] [(.long (((1 : Int64) <<< (((8 : Int32) * z) &&& 0x3f).toInt64) - (1 : Int64))), (.ref a)])) _
      refine st10 _ ?_
      show Steps p.tables e below (T10.setTop (mkF m 68 #[.val (.ref a), .val (.ref sn), .val (.ref kn), .val (.int z)] [])) _
      exact X10.returnOut hx Bd.returns (hb hby own_d_prog_83_method_1_code_68) hr
    · show own_QC Z a M h0 n0 _ T10.heap _
      rw [e10]
      exact ⟨rfl, N10, K10, E10_a, by rw [h']; exact F10_a_addressMask⟩
set_option maxRecDepth 65536 in
set_option maxHeartbeats 40000000 in
theorem own_rmn (l : Launch) (Z : State) (a0 : Array Value) (hw : ∀ d ∈ tables_1, d.before a0 Z = true) (ws : List Jvm.Cond) (a : Addr) (q M : Int64) (h0 : Heap) (n0 : Nat) (Z0 : n0 ≤ h0.size) (F1 : Fld Z h0 a "com/example/tablewright/tablewright/model/AddressSpace" "addressMask" "J" (.long M)) :
    MetFree l (⟨"com/example/tablewright/tablewright/model/AddressSpace", "contains", "(J)Z"⟩ : MethodName) (head1 (Jvm.Cond.code (⟨"com/example/tablewright/tablewright/model/AddressSpace", "contains", "(J)Z"⟩ : MethodName) prog_83_method_5_code 3 (some .boolean) :: ws) ({ frames := 0, cells := 0, slots := 0, locals := 0 } : Room)) (fun a_ U_ => a_ = #[(.ref a), (.long q)] ∧ Z.Warmed39 U_.vm ∧ U_.heap = h0) (fun _ _ _ _ _ => True) (fun _ U_ o_ U_' => ∃ v_ L_, o_ = .returned v_ ∧ own_QP (some (.int (own_con q M))) h0 n0 v_ U_'.heap L_ ∧ FrameEnd U_ o_ U_' L_ ({ frames := 0, cells := 0, slots := 0, locals := 0 } : Room).cells ({ frames := 0, cells := 0, slots := 0, locals := 0 } : Room).slots) := by
  refine MetFree.of_bodySF (plainFor_of_name own_pn3) hisR ?_
  intro p e s m args below meth c s₁ Bd hml0 hP hK
  obtain ⟨rfl, hZ, hh⟩ := hP
  have hx := Bd.exec
  have hby := Bd.bytes
  have hml : c.maxLocals = 3 := hml0
  have hown : s.vm.findClass "com/example/tablewright/tablewright/model/AddressSpace" = some m.cls := findClass_of_methodNamed Bd.named
  have hnm := (name_of_methodNamed Bd.named Bd.method).1
  have X0 : Stand p l e ({ frames := 0, cells := 0, slots := 0, locals := 0 } : Room) s m #[(.ref a), (.long q)] below meth c s₁ [] 0 0 := Stand.of_body Bd
  have e0 : s₁.heap = h0 := by rw [← hh, Bd.state]; rfl
  have N0 := Fr.nil n0
  have pre0 : ∀ t, Steps p.tables e below (s₁.setTop (mkF m 0 #[.val (.ref a), .val (.long q), .second] [])) t → Steps p.tables e below (s₁.setTop (entryFrame m #[(.ref a), (.long q)] 3)) t := fun t_ k_ => castTop (own_ef5 m a q) k_
  by_cases h : (q &&& (M ^^^ (-1 : Int64))) = 0
  · obtain ⟨T1, X1, e1, st1⟩ := getF X0 hx hZ hown (host := "") (Or.inl (hw _ (List.mem_of_getElem? (i := 49) rfl))) Via.refl e0 F1 (g := (mkF m 2 #[.val (.ref a), .val (.long q), .second] [(.ref a), (.long q)])) rfl rfl (hb hby own_d_prog_83_method_5_code_2)
    obtain ⟨fs, hr, hrun, hended, hW, hsame⟩ := X1.leave (v := some (.int (1 : Int32))) (fun h => by rw [Bd.returns] at h; cases h)
    refine ⟨_, _, pre0 _ ?_, hrun, hended, _, _, rfl, ?_, ⟨_, rfl⟩, hW, hsame.mono (by decide) (by decide)⟩
    · show Steps p.tables e below (s₁.setTop (mkF m 0 #[.val (.ref a), .val (.long q), .second] [])) _
      refine XS.lloadN X0.here hx rfl (hb hby own_d_prog_83_method_5_code_0) rfl ?_
      show Steps p.tables e below (s₁.setTop (mkF m 1 #[.val (.ref a), .val (.long q), .second] [(.long q)])) _
      refine XS.aloadN X0.here hx rfl (hb hby own_d_prog_83_method_5_code_1) rfl rfl ?_
      show Steps p.tables e below (s₁.setTop (mkF m 2 #[.val (.ref a), .val (.long q), .second] [(.ref a), (.long q)])) _
      refine st1 _ ?_
      show Steps p.tables e below (T1.setTop (mkF m 5 #[.val (.ref a), .val (.long q), .second] [(.long M), (.long q)])) _
      refine Jvm.Stand.ldc2J X1 hx hown (mvT hZ (hw _ (List.mem_of_getElem? (i := 56) rfl))) rfl (hb hby own_d_prog_83_method_5_code_5) ?_
      show Steps p.tables e below (T1.setTop (mkF m 8 #[.val (.ref a), .val (.long q), .second] [(.long (-1 : Int64)), (.long M), (.long q)])) _
      refine XS.lxor X1.here hx rfl (hb hby own_d_prog_83_method_5_code_8) rfl ?_
      show Steps p.tables e below (T1.setTop (mkF m 9 #[.val (.ref a), .val (.long q), .second] [(.long (M ^^^ (-1 : Int64))), (.long q)])) _
      refine XS.land X1.here hx rfl (hb hby own_d_prog_83_method_5_code_9) rfl ?_
      show Steps p.tables e below (T1.setTop (mkF m 10 #[.val (.ref a), .val (.long q), .second] [(.long (q &&& (M ^^^ (-1 : Int64))))])) _
      refine XS.lconst X1.here hx rfl (hb hby own_d_prog_83_method_5_code_10) ?_
      show Steps p.tables e below (T1.setTop (mkF m 11 #[.val (.ref a), .val (.long q), .second] [(.long (0 : Int64)), (.long (q &&& (M ^^^ (-1 : Int64))))])) _
      refine XS.lcmp X1.here hx rfl (hb hby own_d_prog_83_method_5_code_11) rfl ?_
      show Steps p.tables e below (T1.setTop (mkF m 12 #[.val (.ref a), .val (.long q), .second] [(.int (lcmpW (q &&& (M ^^^ (-1 : Int64))) (0 : Int64)))])) _
      refine XS.ifNo X1.here hx rfl (hb hby own_d_prog_83_method_5_code_12) rfl ((if0 _ _).trans (teq ((lw_eq _ _).mpr h : (lcmpW (q &&& (M ^^^ (-1 : Int64))) (0 : Int64)) = (0 : Int32))).2) ?_
      show Steps p.tables e below (T1.setTop (mkF m 15 #[.val (.ref a), .val (.long q), .second] [])) _
      refine XS.iconst X1.here hx rfl (hb hby own_d_prog_83_method_5_code_15) ?_
      show Steps p.tables e below (T1.setTop (mkF m 16 #[.val (.ref a), .val (.long q), .second] [(.int (1 : Int32))])) _
      refine XS.goto X1.here hx rfl (pc0 := 16) (pc' := 20) rfl (hb hby own_d_prog_83_method_5_code_16) (by decide) (by decide) ?_
      show Steps p.tables e below (T1.setTop (mkF m 20 #[.val (.ref a), .val (.long q), .second] [(.int (1 : Int32))])) _
      exact retN X1 hx (t := .boolean) Bd.returns (by simp) (hb hby own_d_prog_83_method_5_code_20) hr
    · show own_QP (some (.int (own_con q M))) h0 n0 _ T1.heap _
      exact ⟨by rw [own_con, if_pos h], N0, e1⟩
  · obtain ⟨T2, X2, e2, st2⟩ := getF X0 hx hZ hown (host := "") (Or.inl (hw _ (List.mem_of_getElem? (i := 49) rfl))) Via.refl e0 F1 (g := (mkF m 2 #[.val (.ref a), .val (.long q), .second] [(.ref a), (.long q)])) rfl rfl (hb hby own_d_prog_83_method_5_code_2)
    obtain ⟨fs, hr, hrun, hended, hW, hsame⟩ := X2.leave (v := some (.int (0 : Int32))) (fun h => by rw [Bd.returns] at h; cases h)
    refine ⟨_, _, pre0 _ ?_, hrun, hended, _, _, rfl, ?_, ⟨_, rfl⟩, hW, hsame.mono (by decide) (by decide)⟩
    · show Steps p.tables e below (s₁.setTop (mkF m 0 #[.val (.ref a), .val (.long q), .second] [])) _
      refine XS.lloadN X0.here hx rfl (hb hby own_d_prog_83_method_5_code_0) rfl ?_
      show Steps p.tables e below (s₁.setTop (mkF m 1 #[.val (.ref a), .val (.long q), .second] [(.long q)])) _
      refine XS.aloadN X0.here hx rfl (hb hby own_d_prog_83_method_5_code_1) rfl rfl ?_
      show Steps p.tables e below (s₁.setTop (mkF m 2 #[.val (.ref a), .val (.long q), .second] [(.ref a), (.long q)])) _
      refine st2 _ ?_
      show Steps p.tables e below (T2.setTop (mkF m 5 #[.val (.ref a), .val (.long q), .second] [(.long M), (.long q)])) _
      refine Jvm.Stand.ldc2J X2 hx hown (mvT hZ (hw _ (List.mem_of_getElem? (i := 56) rfl))) rfl (hb hby own_d_prog_83_method_5_code_5) ?_
      show Steps p.tables e below (T2.setTop (mkF m 8 #[.val (.ref a), .val (.long q), .second] [(.long (-1 : Int64)), (.long M), (.long q)])) _
      refine XS.lxor X2.here hx rfl (hb hby own_d_prog_83_method_5_code_8) rfl ?_
      show Steps p.tables e below (T2.setTop (mkF m 9 #[.val (.ref a), .val (.long q), .second] [(.long (M ^^^ (-1 : Int64))), (.long q)])) _
      refine XS.land X2.here hx rfl (hb hby own_d_prog_83_method_5_code_9) rfl ?_
      show Steps p.tables e below (T2.setTop (mkF m 10 #[.val (.ref a), .val (.long q), .second] [(.long (q &&& (M ^^^ (-1 : Int64))))])) _
      refine XS.lconst X2.here hx rfl (hb hby own_d_prog_83_method_5_code_10) ?_
      show Steps p.tables e below (T2.setTop (mkF m 11 #[.val (.ref a), .val (.long q), .second] [(.long (0 : Int64)), (.long (q &&& (M ^^^ (-1 : Int64))))])) _
      refine XS.lcmp X2.here hx rfl (hb hby own_d_prog_83_method_5_code_11) rfl ?_
      show Steps p.tables e below (T2.setTop (mkF m 12 #[.val (.ref a), .val (.long q), .second] [(.int (lcmpW (q &&& (M ^^^ (-1 : Int64))) (0 : Int64)))])) _
      refine XS.ifYes X2.here hx rfl (pc0 := 12) (pc' := 19) rfl (hb hby own_d_prog_83_method_5_code_12) rfl ((if0 _ _).trans (feq (fun z => h ((lw_eq _ _).mp z) : ¬ ((lcmpW (q &&& (M ^^^ (-1 : Int64))) (0 : Int64)) = (0 : Int32)))).2) (by decide) (by decide) ?_
      show Steps p.tables e below (T2.setTop (mkF m 19 #[.val (.ref a), .val (.long q), .second] [])) _
      refine XS.iconst X2.here hx rfl (hb hby own_d_prog_83_method_5_code_19) ?_
      show Steps p.tables e below (T2.setTop (mkF m 20 #[.val (.ref a), .val (.long q), .second] [(.int (0 : Int32))])) _
      exact retN X2 hx (t := .boolean) Bd.returns (by simp) (hb hby own_d_prog_83_method_5_code_20) hr
    · show own_QP (some (.int (own_con q M))) h0 n0 _ T2.heap _
      exact ⟨by rw [own_con, if_neg h], N0, e2⟩
set_option maxRecDepth 65536 in
set_option maxHeartbeats 40000000 in
theorem own_rm0 (l : Launch) (Z : State) (a0 : Array Value) (hw : ∀ d ∈ tables_1, d.before a0 Z = true) (ws : List Jvm.Cond) (ks zs : Int32) (q : Int64) (md b1 c1 : Int32) (kr kg kc ku : Addr) (w2 : Int32) (h0 : Heap) (n0 : Nat) (Z0 : n0 ≤ h0.size) (S_RAM : Sta Z h0 "com/example/tablewright/tablewright/model/AddressSpace$Kind" "RAM" "Lcom/example/tablewright/tablewright/model/AddressSpace$Kind;" (.ref kr)) (E_RAM : Exa Z h0 kr "com/example/tablewright/tablewright/model/AddressSpace$Kind") (S_REGISTER : Sta Z h0 "com/example/tablewright/tablewright/model/AddressSpace$Kind" "REGISTER" "Lcom/example/tablewright/tablewright/model/AddressSpace$Kind;" (.ref kg)) (E_REGISTER : Exa Z h0 kg "com/example/tablewright/tablewright/model/AddressSpace$Kind") (S_CONSTANT : Sta Z h0 "com/example/tablewright/tablewright/model/AddressSpace$Kind" "CONSTANT" "Lcom/example/tablewright/tablewright/model/AddressSpace$Kind;" (.ref kc)) (E_CONSTANT : Exa Z h0 kc "com/example/tablewright/tablewright/model/AddressSpace$Kind") (S_UNIQUE : Sta Z h0 "com/example/tablewright/tablewright/model/AddressSpace$Kind" "UNIQUE" "Lcom/example/tablewright/tablewright/model/AddressSpace$Kind;" (.ref ku)) (E_UNIQUE : Exa Z h0 ku "com/example/tablewright/tablewright/model/AddressSpace$Kind") (S_C : Sta Z h0 "java/lang/String" "COMPACT_STRINGS" "Z" (.int w2)) (hnC : ¬ w2 = (0 : Int32)) :
    MetFree l x (head1 (Jvm.Cond.code x code maxLocals ret :: ws) room_1) (fun a_ U_ => a_ = #[(.int ks), (.int zs), (.long q), (.int md), (.int b1), (.int c1)] ∧ Z.Warmed39 U_.vm ∧ U_.heap = h0) (fun _ _ _ _ _ => True) (fun _ U_ o_ U_' => ∃ v_ L_, o_ = .returned v_ ∧ own_QL n0 v_ U_'.heap L_ ∧ FrameEnd U_ o_ U_' L_ room_1.cells room_1.slots) := by
  refine MetFree.of_bodySF (plainFor_of_name own_pn2) hisR ?_
  intro p e s m args below meth c s₁ Bd hml0 hP hK
  obtain ⟨rfl, hZ, hh⟩ := hP
  have hx := Bd.exec
  have hby := Bd.bytes
  have hml : c.maxLocals = 14 := hml0
  have hown : s.vm.findClass "com/example/tablewright/tablewright/model/AddressSpaceContainsPinLaw" = some m.cls := findClass_of_methodNamed Bd.named
  have hnm := (name_of_methodNamed Bd.named Bd.method).1
  have X0 : Stand p l e room_1 s m #[(.int ks), (.int zs), (.long q), (.int md), (.int b1), (.int c1)] below meth c s₁ [] 0 0 := Stand.of_body Bd
  have e0 : s₁.heap = h0 := by rw [← hh, Bd.state]; rfl
  have N0 := Fr.nil n0
  have pre0 : ∀ t, Steps p.tables e below (s₁.setTop (mkF m 0 #[.val (.int ks), .val (.int zs), .val (.long q), .second, .val (.int md), .val (.int b1), .val (.int c1), .unset, .unset, .unset, .unset, .unset, .unset, .unset] [])) t → Steps p.tables e below (s₁.setTop (entryFrame m #[(.int ks), (.int zs), (.long q), (.int md), (.int b1), (.int c1)] maxLocals)) t := fun t_ k_ => castTop (own_ef6 m ks zs q md b1 c1) k_
  obtain ⟨z, T1, Lx1, X1, N1, e1, hz1, hz2, st1⟩ : ∃ (z : Int32) (T' : State) (Lx : List Loc), Stand p l e room_1 s m #[(.int ks), (.int zs), (.long q), (.int md), (.int b1), (.int c1)] below meth c T' Lx 0 0 ∧ Fr n0 Lx ∧ T'.heap = h0 ∧ ¬ z < 1 ∧ ¬ (8 : Int32) < z ∧ ∀ t, Steps p.tables e below (T'.setTop (mkF m 8 #[.val (.int ks), .val (.int zs), .val (.long q), .second, .val (.int md), .val (.int b1), .val (.int c1), .val (.int z), .unset, .unset, .unset, .unset, .unset, .unset] [])) t → Steps p.tables e below (s₁.setTop (mkF m 0 #[.val (.int ks), .val (.int zs), .val (.long q), .second, .val (.int md), .val (.int b1), .val (.int c1), .unset, .unset, .unset, .unset, .unset, .unset, .unset] [])) t := by
    refine ⟨((zs &&& (7 : Int32)) + (1 : Int32)), s₁, _, X0, N0, e0, (own_size zs).1, (own_size zs).2, fun t kt => ?_⟩
    show Steps p.tables e below (s₁.setTop (mkF m 0 #[.val (.int ks), .val (.int zs), .val (.long q), .second, .val (.int md), .val (.int b1), .val (.int c1), .unset, .unset, .unset, .unset, .unset, .unset, .unset] [])) t
    refine XS.iloadN X0.here hx rfl (hb hby at_0) rfl ?_
    show Steps p.tables e below (s₁.setTop (mkF m 1 #[.val (.int ks), .val (.int zs), .val (.long q), .second, .val (.int md), .val (.int b1), .val (.int c1), .unset, .unset, .unset, .unset, .unset, .unset, .unset] [(.int zs)])) t
    refine XS.bipush X0.here hx rfl (hb hby at_1) ?_
    show Steps p.tables e below (s₁.setTop (mkF m 3 #[.val (.int ks), .val (.int zs), .val (.long q), .second, .val (.int md), .val (.int b1), .val (.int c1), .unset, .unset, .unset, .unset, .unset, .unset, .unset] [(.int (7 : Int32)), (.int zs)])) t
    refine XS.iand X0.here hx rfl (hb hby at_3) rfl ?_
    show Steps p.tables e below (s₁.setTop (mkF m 4 #[.val (.int ks), .val (.int zs), .val (.long q), .second, .val (.int md), .val (.int b1), .val (.int c1), .unset, .unset, .unset, .unset, .unset, .unset, .unset] [(.int (zs &&& (7 : Int32)))])) t
    refine XS.iconst X0.here hx rfl (hb hby at_4) ?_
    show Steps p.tables e below (s₁.setTop (mkF m 5 #[.val (.int ks), .val (.int zs), .val (.long q), .second, .val (.int md), .val (.int b1), .val (.int c1), .unset, .unset, .unset, .unset, .unset, .unset, .unset] [(.int (1 : Int32)), (.int (zs &&& (7 : Int32)))])) t
    refine XS.iadd X0.here hx rfl (hb hby at_5) rfl ?_
    show Steps p.tables e below (s₁.setTop (mkF m 6 #[.val (.int ks), .val (.int zs), .val (.long q), .second, .val (.int md), .val (.int b1), .val (.int c1), .unset, .unset, .unset, .unset, .unset, .unset, .unset] [(.int ((zs &&& (7 : Int32)) + (1 : Int32)))])) t
    refine XS.istore X0.here hx rfl (hb hby at_6) rfl (l' := #[.val (.int ks), .val (.int zs), .val (.long q), .second, .val (.int md), .val (.int b1), .val (.int c1), .val (.int ((zs &&& (7 : Int32)) + (1 : Int32))), .unset, .unset, .unset, .unset, .unset, .unset]) rfl ?_
    exact kt
  obtain ⟨kd, hkd, Ekd⟩ : ∃ r : Addr, own_pick (ks &&& (3 : Int32)) r kr kg kc ku ∧ Exa Z h0 r "com/example/tablewright/tablewright/model/AddressSpace$Kind" := by
    rcases own_m3 ks with h | h | h | h
    · exact ⟨kr, Or.inl ⟨h, rfl⟩, E_RAM⟩
    · exact ⟨kg, Or.inr (Or.inl ⟨h, rfl⟩), E_REGISTER⟩
    · exact ⟨kc, Or.inr (Or.inr (Or.inl ⟨h, rfl⟩)), E_CONSTANT⟩
    · exact ⟨ku, Or.inr (Or.inr (Or.inr ⟨h, rfl⟩)), E_UNIQUE⟩
  obtain ⟨_, _, ⟨T2, L2, kc2, nc2⟩, -, X2, ⟨Lc2, hQ2, ql2, qy2, qz2⟩, st2⟩ := Jvm.LawKit.callS X1 hx (y := (⟨"com/example/tablewright/tablewright/model/AddressSpaceContainsPinLaw", "pickKind", "(I)Lcom/example/tablewright/tablewright/model/AddressSpace$Kind;"⟩ : MethodName)) hown (mvT hZ (hw _ (List.mem_of_getElem? (i := 0) rfl))) (mvT hZ (hw _ (List.mem_of_getElem? (i := 1) rfl))) (mvT hZ (hw _ (List.mem_of_getElem? (i := 2) rfl))) (mvT hZ (hw _ (List.mem_of_getElem? (i := 3) rfl))) (by decide) (backOf (W := 0) (own_rmp l Z a0 hw [] (ks &&& (3 : Int32)) kd kr kg kc ku h0 n0 Z0 S_RAM S_REGISTER S_CONSTANT S_UNIQUE hkd) hZ (hw _ (List.mem_of_getElem? (i := 3) rfl)) (hw _ (List.mem_of_getElem? (i := 2) rfl)) (by decide) (by decide)) (g := (mkF m 11 #[.val (.int ks), .val (.int zs), .val (.long q), .second, .val (.int md), .val (.int b1), .val (.int c1), .val (.int z), .unset, .unset, .unset, .unset, .unset, .unset] [(.int (ks &&& (3 : Int32)))])) rfl (by rw [hml]; rfl) (argsL := [(.int (ks &&& (3 : Int32)))]) (rest := []) (lenOf own_pd3 rfl) rfl (by show 2 * 0 + _ ≤ _; exact Nat.le_of_eq rfl) (hb hby at_11) (fun _ _ => ⟨rfl, e1, (by decide : 0 + 0 ≤ _), (by decide : 0 + 0 ≤ _)⟩)
  dsimp only [Pt.U, Pt.locs, Pt.cells, Pt.slots] at X2 ql2 qy2 qz2 st2 hQ2
  subst ql2 qy2 qz2
  obtain ⟨rfl, Nq2, eq2⟩ := hQ2
  have N2 := Fr.app N1 Nq2
  obtain ⟨_, _, ⟨T3, L3, kc3, nc3⟩, -, X3, ⟨Lc3, hQ3, ql3, qy3, qz3⟩, st3⟩ := Jvm.LawKit.callS X2 hx (y := (⟨"java/lang/String", "valueOf", "(C)Ljava/lang/String;"⟩ : MethodName)) hown (mvT hZ (hw _ (List.mem_of_getElem? (i := 7) rfl))) (mvT hZ (hw _ (List.mem_of_getElem? (i := 8) rfl))) (mvT hZ (hw _ (List.mem_of_getElem? (i := 9) rfl))) (mvT hZ (hw _ (List.mem_of_getElem? (i := 10) rfl))) (by decide) (backOf (W := 0) (own_rmv l Z a0 hw [] ((((ks.toUInt32 >>> ((8 : Int32) &&& 31).toUInt32).toInt32) &&& (255 : Int32)).toUInt32.toUInt16.toUInt32.toInt32) w2 h0 n0 Z0 S_C hnC (own_chr _)) hZ (hw _ (List.mem_of_getElem? (i := 10) rfl)) (hw _ (List.mem_of_getElem? (i := 9) rfl)) (by decide) (by decide)) (g := (mkF m 25 #[.val (.int ks), .val (.int zs), .val (.long q), .second, .val (.int md), .val (.int b1), .val (.int c1), .val (.int z), .val (.ref kd), .unset, .unset, .unset, .unset, .unset] [(.int ((((ks.toUInt32 >>> ((8 : Int32) &&& 31).toUInt32).toInt32) &&& (255 : Int32)).toUInt32.toUInt16.toUInt32.toInt32))])) rfl (by rw [hml]; rfl) (argsL := [(.int ((((ks.toUInt32 >>> ((8 : Int32) &&& 31).toUInt32).toInt32) &&& (255 : Int32)).toUInt32.toUInt16.toUInt32.toInt32))]) (rest := []) (lenOf own_pd4 rfl) rfl (by show 2 * 0 + _ ≤ _; exact Nat.le_of_eq rfl) (hb hby at_25) (fun _ _ => ⟨rfl, eq2, (by decide : 0 + 2 ≤ _), (by decide : 0 + 5 ≤ _)⟩)
  dsimp only [Pt.U, Pt.locs, Pt.cells, Pt.slots] at X3 ql3 qy3 qz3 st3 hQ3
  subst ql3 qy3 qz3
  obtain ⟨sn, rfl, Nq3, Kv, szv, Esn⟩ := hQ3
  have N3 := Fr.app N2 Nq3
  have Zn3 : n0 ≤ T3.heap.size := Nat.le_trans Z0 Kv.1
  obtain ⟨_, _, ⟨T4, L4, kc4, nc4⟩, -, X4, ⟨Lc4, hQ4, ql4, qy4, qz4⟩, st4⟩ := Jvm.LawKit.callS X3 hx (y := (⟨"com/example/tablewright/tablewright/model/AddressSpaceContainsPinLaw", "pickAddress", "(IJII)J"⟩ : MethodName)) hown (mvT hZ (hw _ (List.mem_of_getElem? (i := 33) rfl))) (mvT hZ (hw _ (List.mem_of_getElem? (i := 34) rfl))) (mvT hZ (hw _ (List.mem_of_getElem? (i := 2) rfl))) (mvT hZ (hw _ (List.mem_of_getElem? (i := 35) rfl))) (by decide) (backOf (W := 0) (own_rma l Z a0 hw [] (md &&& (3 : Int32)) q b1 c1 T3.heap n0 Zn3) hZ (hw _ (List.mem_of_getElem? (i := 35) rfl)) (hw _ (List.mem_of_getElem? (i := 2) rfl)) (by decide) (by decide)) (g := (mkF m 39 #[.val (.int ks), .val (.int zs), .val (.long q), .second, .val (.int md), .val (.int b1), .val (.int c1), .val (.int z), .val (.ref kd), .val (.ref sn), .unset, .unset, .unset, .unset] [(.int c1), (.int b1), (.long q), (.int (md &&& (3 : Int32)))])) rfl (by rw [hml]; rfl) (argsL := [(.int (md &&& (3 : Int32))), (.long q), (.int b1), (.int c1)]) (rest := []) (lenOf own_pd5 rfl) rfl (by show 2 * 0 + _ ≤ _; exact Nat.le_of_eq rfl) (hb hby at_39) (fun _ _ => ⟨rfl, (rfl : T3.heap = _), (by decide : 2 + 0 ≤ _), (by decide : 5 + 0 ≤ _)⟩)
  dsimp only [Pt.U, Pt.locs, Pt.cells, Pt.slots] at X4 ql4 qy4 qz4 st4 hQ4
  subst ql4 qy4 qz4
  obtain ⟨rfl, Nq4, eq4⟩ := hQ4
  have N4 := Fr.app N3 Nq4
  obtain ⟨adr, T5, Lx5, X5, N5, e5, st5⟩ : ∃ (adr : Int64) (T' : State) (Lx : List Loc), Stand p l e room_1 s m #[(.int ks), (.int zs), (.long q), (.int md), (.int b1), (.int c1)] below meth c T' Lx 2 5 ∧ Fr n0 Lx ∧ T'.heap = T3.heap ∧ ∀ t, Steps p.tables e below (T'.setTop (mkF m 44 #[.val (.int ks), .val (.int zs), .val (.long q), .second, .val (.int md), .val (.int b1), .val (.int c1), .val (.int z), .val (.ref kd), .val (.ref sn), .val (.long adr), .second, .unset, .unset] [])) t → Steps p.tables e below (T4.setTop (mkF m 42 #[.val (.int ks), .val (.int zs), .val (.long q), .second, .val (.int md), .val (.int b1), .val (.int c1), .val (.int z), .val (.ref kd), .val (.ref sn), .unset, .unset, .unset, .unset] [(.long (own_adr (md &&& (3 : Int32)) q b1 c1))])) t := by
    refine ⟨(own_adr (md &&& (3 : Int32)) q b1 c1), T4, _, X4, N4, eq4, fun t kt => ?_⟩
    show Steps p.tables e below (T4.setTop (mkF m 42 #[.val (.int ks), .val (.int zs), .val (.long q), .second, .val (.int md), .val (.int b1), .val (.int c1), .val (.int z), .val (.ref kd), .val (.ref sn), .unset, .unset, .unset, .unset] [(.long (own_adr (md &&& (3 : Int32)) q b1 c1))])) t
    refine XS.lstore X4.here hx rfl (hb hby at_42) rfl (l' := #[.val (.int ks), .val (.int zs), .val (.long q), .second, .val (.int md), .val (.int b1), .val (.int c1), .val (.int z), .val (.ref kd), .val (.ref sn), .val (.long (own_adr (md &&& (3 : Int32)) q b1 c1)), .second, .unset, .unset]) rfl ?_
    exact kt
  obtain ⟨M, hM⟩ : ∃ M : Int64, own_msk z M := by
    by_cases h : z = 8
    · exact ⟨_, Or.inl ⟨h, rfl⟩⟩
    · exact ⟨_, Or.inr ⟨h, rfl⟩⟩
  obtain ⟨T6, hp6, X6, e6, E6, A6, D6, -, st6⟩ := newO X5 hx hZ hown (hw _ (List.mem_of_getElem? (i := 36) rfl)) (hw _ (List.mem_of_getElem? (i := 37) rfl)) (hw _ (List.mem_of_getElem? (i := 38) rfl)) e5 (g := (mkF m 44 #[.val (.int ks), .val (.int zs), .val (.long q), .second, .val (.int md), .val (.int b1), .val (.int c1), .val (.int z), .val (.ref kd), .val (.ref sn), .val (.long adr), .second, .unset, .unset] [])) rfl (hb hby at_44) (by decide) (by decide)
  obtain ⟨b6, g6⟩ : ∃ z, z = T3.heap.size := ⟨_, rfl⟩
  rw [← g6] at A6 D6 st6
  have gn_b6 : n0 ≤ b6 := Nat.le_trans Zn3 (Nat.le_of_eq g6.symm)
  have Zn6 : n0 ≤ hp6.size := Nat.le_trans Zn3 E6.1
  have F6_name : Fld Z hp6 b6 "com/example/tablewright/tablewright/model/AddressSpace" "name" "Ljava/lang/String;" .null := D6 (Or.inr (hw _ (List.mem_of_getElem? (i := 44) rfl))) (ty := (.object "java/lang/String")) (by decide)
  have F6_kind : Fld Z hp6 b6 "com/example/tablewright/tablewright/model/AddressSpace" "kind" "Lcom/example/tablewright/tablewright/model/AddressSpace$Kind;" .null := D6 (Or.inr (hw _ (List.mem_of_getElem? (i := 46) rfl))) (ty := (.object "com/example/tablewright/tablewright/model/AddressSpace$Kind")) (by decide)
  have F6_size : Fld Z hp6 b6 "com/example/tablewright/tablewright/model/AddressSpace" "size" "I" (.int (0 : Int32)) := D6 (Or.inr (hw _ (List.mem_of_getElem? (i := 48) rfl))) (ty := .int) (by decide)
  have F6_addressMask : Fld Z hp6 b6 "com/example/tablewright/tablewright/model/AddressSpace" "addressMask" "J" (.long (0 : Int64)) := D6 (Or.inr (hw _ (List.mem_of_getElem? (i := 50) rfl))) (ty := .long) (by decide)
  obtain ⟨_, _, ⟨T7, L7, kc7, nc7⟩, -, X7, ⟨Lc7, hQ7, ql7, qy7, qz7⟩, st7⟩ := X6.specialBack hx (y := (⟨"com/example/tablewright/tablewright/model/AddressSpace", "<init>", "(Ljava/lang/String;Lcom/example/tablewright/tablewright/model/AddressSpace$Kind;I)V"⟩ : MethodName)) rfl hown (mvT hZ (hw _ (List.mem_of_getElem? (i := 39) rfl))) (mvT hZ (hw _ (List.mem_of_getElem? (i := 40) rfl))) (mvT hZ (hw _ (List.mem_of_getElem? (i := 41) rfl))) (by decide) (backOf (W := 1) (own_rmc l Z a0 hw [] b6 sn kd z M .null .null (.int 0) (.long 0) hp6 n0 Zn6 A6 gn_b6 F6_name F6_kind F6_size F6_addressMask hz1 hz2 hM) hZ (hw _ (List.mem_of_getElem? (i := 41) rfl)) (hw _ (List.mem_of_getElem? (i := 38) rfl)) (by decide) (by decide)) (g := (mkF m 54 #[.val (.int ks), .val (.int zs), .val (.long q), .second, .val (.int md), .val (.int b1), .val (.int c1), .val (.int z), .val (.ref kd), .val (.ref sn), .val (.long adr), .second, .unset, .unset] [(.int z), (.ref kd), (.ref sn), (.ref b6), (.ref b6)])) rfl (by rw [hml]; rfl) (Steps.refl _) (a := b6) (argsL := [(.ref sn), (.ref kd), (.int z)]) (rest := [(.ref b6)]) (lenOf own_pd6 rfl) rfl (by show 2 * 0 + _ ≤ _; exact Nat.le_of_eq rfl) (hb hby at_54) (fun _ _ => ⟨rfl, e6, (by decide : 3 + 0 ≤ _), (by decide : 9 + 0 ≤ _)⟩)
  dsimp only [Pt.U, Pt.locs, Pt.cells, Pt.slots] at X7 ql7 qy7 qz7 st7 hQ7
  subst ql7 qy7 qz7
  obtain ⟨rfl, Nq7, K7, Ec7, Fc7_addressMask⟩ := hQ7
  have N7 := Fr.app N5 Nq7
  have Zn7 : n0 ≤ T7.heap.size := Nat.le_trans Zn6 K7.1
  obtain ⟨x13, T8, Lx8, X8, N8, e8, hv, st8⟩ : ∃ (x13 : Int32) (T' : State) (Lx : List Loc), Stand p l e room_1 s m #[(.int ks), (.int zs), (.long q), (.int md), (.int b1), (.int c1)] below meth c T' Lx 3 9 ∧ Fr n0 Lx ∧ T'.heap = T7.heap ∧ (own_con adr M) = x13 ∧ ∀ t, Steps p.tables e below (T'.setTop (mkF m 97 #[.val (.int ks), .val (.int zs), .val (.long q), .second, .val (.int md), .val (.int b1), .val (.int c1), .val (.int z), .val (.ref kd), .val (.ref sn), .val (.long adr), .second, .val (.ref b6), .val (.int x13)] [])) t → Steps p.tables e below (T7.setTop (mkF m 59 #[.val (.int ks), .val (.int zs), .val (.long q), .second, .val (.int md), .val (.int b1), .val (.int c1), .val (.int z), .val (.ref kd), .val (.ref sn), .val (.long adr), .second, .val (.ref b6), .unset] [])) t := by
    rcases own_four z (adr < 0) (adr < ((1 : Int64) <<< (((8 : Int32) * z) &&& 0x3f).toInt64)) with h | ⟨h, h1⟩ | ⟨h, h1, h2⟩ | ⟨h, h1, h2⟩
    · refine ⟨1, T7, _, X7, N7, (rfl : T7.heap = _), own_all adr M z h hM, fun t kt => ?_⟩
      show Steps p.tables e below (T7.setTop (mkF m 59 #[.val (.int ks), .val (.int zs), .val (.long q), .second, .val (.int md), .val (.int b1), .val (.int c1), .val (.int z), .val (.ref kd), .val (.ref sn), .val (.long adr), .second, .val (.ref b6), .unset] [])) t
      refine XS.iload X7.here hx rfl (hb hby at_59) rfl ?_
      show Steps p.tables e below (T7.setTop (mkF m 61 #[.val (.int ks), .val (.int zs), .val (.long q), .second, .val (.int md), .val (.int b1), .val (.int c1), .val (.int z), .val (.ref kd), .val (.ref sn), .val (.long adr), .second, .val (.ref b6), .unset] [(.int z)])) t
      refine XS.bipush X7.here hx rfl (hb hby at_61) ?_
      show Steps p.tables e below (T7.setTop (mkF m 63 #[.val (.int ks), .val (.int zs), .val (.long q), .second, .val (.int md), .val (.int b1), .val (.int c1), .val (.int z), .val (.ref kd), .val (.ref sn), .val (.long adr), .second, .val (.ref b6), .unset] [(.int (8 : Int32)), (.int z)])) t
      refine XS.icmpNo X7.here hx rfl (hb hby at_63) rfl (teq (h : z = (8 : Int32))).2 ?_
      show Steps p.tables e below (T7.setTop (mkF m 66 #[.val (.int ks), .val (.int zs), .val (.long q), .second, .val (.int md), .val (.int b1), .val (.int c1), .val (.int z), .val (.ref kd), .val (.ref sn), .val (.long adr), .second, .val (.ref b6), .unset] [])) t
      refine XS.iconst X7.here hx rfl (hb hby at_66) ?_
      show Steps p.tables e below (T7.setTop (mkF m 67 #[.val (.int ks), .val (.int zs), .val (.long q), .second, .val (.int md), .val (.int b1), .val (.int c1), .val (.int z), .val (.ref kd), .val (.ref sn), .val (.long adr), .second, .val (.ref b6), .unset] [(.int (1 : Int32))])) t
      refine XS.goto X7.here hx rfl (pc0 := 67) (pc' := 95) rfl (hb hby at_67) (by decide) (by decide) ?_
      show Steps p.tables e below (T7.setTop (mkF m 95 #[.val (.int ks), .val (.int zs), .val (.long q), .second, .val (.int md), .val (.int b1), .val (.int c1), .val (.int z), .val (.ref kd), .val (.ref sn), .val (.long adr), .second, .val (.ref b6), .unset] [(.int (1 : Int32))])) t
      refine XS.istore X7.here hx rfl (hb hby at_95) rfl (l' := #[.val (.int ks), .val (.int zs), .val (.long q), .second, .val (.int md), .val (.int b1), .val (.int c1), .val (.int z), .val (.ref kd), .val (.ref sn), .val (.long adr), .second, .val (.ref b6), .val (.int (1 : Int32))]) rfl ?_
      exact kt
    · refine ⟨0, T7, _, X7, N7, (rfl : T7.heap = _), if_neg (fun v => ((own_law adr M z hz1 hz2 h hM).mp v).1 h1), fun t kt => ?_⟩
      show Steps p.tables e below (T7.setTop (mkF m 59 #[.val (.int ks), .val (.int zs), .val (.long q), .second, .val (.int md), .val (.int b1), .val (.int c1), .val (.int z), .val (.ref kd), .val (.ref sn), .val (.long adr), .second, .val (.ref b6), .unset] [])) t
      refine XS.iload X7.here hx rfl (hb hby at_59) rfl ?_
      show Steps p.tables e below (T7.setTop (mkF m 61 #[.val (.int ks), .val (.int zs), .val (.long q), .second, .val (.int md), .val (.int b1), .val (.int c1), .val (.int z), .val (.ref kd), .val (.ref sn), .val (.long adr), .second, .val (.ref b6), .unset] [(.int z)])) t
      refine XS.bipush X7.here hx rfl (hb hby at_61) ?_
      show Steps p.tables e below (T7.setTop (mkF m 63 #[.val (.int ks), .val (.int zs), .val (.long q), .second, .val (.int md), .val (.int b1), .val (.int c1), .val (.int z), .val (.ref kd), .val (.ref sn), .val (.long adr), .second, .val (.ref b6), .unset] [(.int (8 : Int32)), (.int z)])) t
      refine XS.icmpYes X7.here hx rfl (pc0 := 63) (pc' := 70) rfl (hb hby at_63) rfl (feq (h : ¬ (z = (8 : Int32)))).2 (by decide) (by decide) ?_
      show Steps p.tables e below (T7.setTop (mkF m 70 #[.val (.int ks), .val (.int zs), .val (.long q), .second, .val (.int md), .val (.int b1), .val (.int c1), .val (.int z), .val (.ref kd), .val (.ref sn), .val (.long adr), .second, .val (.ref b6), .unset] [])) t
      refine XS.lload X7.here hx rfl (hb hby at_70) rfl ?_
      show Steps p.tables e below (T7.setTop (mkF m 72 #[.val (.int ks), .val (.int zs), .val (.long q), .second, .val (.int md), .val (.int b1), .val (.int c1), .val (.int z), .val (.ref kd), .val (.ref sn), .val (.long adr), .second, .val (.ref b6), .unset] [(.long adr)])) t
      refine XS.lconst X7.here hx rfl (hb hby at_72) ?_
      show Steps p.tables e below (T7.setTop (mkF m 73 #[.val (.int ks), .val (.int zs), .val (.long q), .second, .val (.int md), .val (.int b1), .val (.int c1), .val (.int z), .val (.ref kd), .val (.ref sn), .val (.long adr), .second, .val (.ref b6), .unset] [(.long (0 : Int64)), (.long adr)])) t
      refine XS.lcmp X7.here hx rfl (hb hby at_73) rfl ?_
      show Steps p.tables e below (T7.setTop (mkF m 74 #[.val (.int ks), .val (.int zs), .val (.long q), .second, .val (.int md), .val (.int b1), .val (.int c1), .val (.int z), .val (.ref kd), .val (.ref sn), .val (.long adr), .second, .val (.ref b6), .unset] [(.int (lcmpW adr (0 : Int64)))])) t
      refine XS.ifYes X7.here hx rfl (pc0 := 74) (pc' := 94) rfl (hb hby at_74) rfl ((if0 _ _).trans (tlt ((lw_lt _ _).mpr h1 : (lcmpW adr (0 : Int64)) < (0 : Int32))).1) (by decide) (by decide) ?_
      show Steps p.tables e below (T7.setTop (mkF m 94 #[.val (.int ks), .val (.int zs), .val (.long q), .second, .val (.int md), .val (.int b1), .val (.int c1), .val (.int z), .val (.ref kd), .val (.ref sn), .val (.long adr), .second, .val (.ref b6), .unset] [])) t
      refine XS.iconst X7.here hx rfl (hb hby at_94) ?_
      show Steps p.tables e below (T7.setTop (mkF m 95 #[.val (.int ks), .val (.int zs), .val (.long q), .second, .val (.int md), .val (.int b1), .val (.int c1), .val (.int z), .val (.ref kd), .val (.ref sn), .val (.long adr), .second, .val (.ref b6), .unset] [(.int (0 : Int32))])) t
      refine XS.istore X7.here hx rfl (hb hby at_95) rfl (l' := #[.val (.int ks), .val (.int zs), .val (.long q), .second, .val (.int md), .val (.int b1), .val (.int c1), .val (.int z), .val (.ref kd), .val (.ref sn), .val (.long adr), .second, .val (.ref b6), .val (.int (0 : Int32))]) rfl ?_
      exact kt
    · refine ⟨1, T7, _, X7, N7, (rfl : T7.heap = _), if_pos ((own_law adr M z hz1 hz2 h hM).mpr ⟨h1, h2⟩), fun t kt => ?_⟩
      show Steps p.tables e below (T7.setTop (mkF m 59 #[.val (.int ks), .val (.int zs), .val (.long q), .second, .val (.int md), .val (.int b1), .val (.int c1), .val (.int z), .val (.ref kd), .val (.ref sn), .val (.long adr), .second, .val (.ref b6), .unset] [])) t
      refine XS.iload X7.here hx rfl (hb hby at_59) rfl ?_
      show Steps p.tables e below (T7.setTop (mkF m 61 #[.val (.int ks), .val (.int zs), .val (.long q), .second, .val (.int md), .val (.int b1), .val (.int c1), .val (.int z), .val (.ref kd), .val (.ref sn), .val (.long adr), .second, .val (.ref b6), .unset] [(.int z)])) t
      refine XS.bipush X7.here hx rfl (hb hby at_61) ?_
      show Steps p.tables e below (T7.setTop (mkF m 63 #[.val (.int ks), .val (.int zs), .val (.long q), .second, .val (.int md), .val (.int b1), .val (.int c1), .val (.int z), .val (.ref kd), .val (.ref sn), .val (.long adr), .second, .val (.ref b6), .unset] [(.int (8 : Int32)), (.int z)])) t
      refine XS.icmpYes X7.here hx rfl (pc0 := 63) (pc' := 70) rfl (hb hby at_63) rfl (feq (h : ¬ (z = (8 : Int32)))).2 (by decide) (by decide) ?_
      show Steps p.tables e below (T7.setTop (mkF m 70 #[.val (.int ks), .val (.int zs), .val (.long q), .second, .val (.int md), .val (.int b1), .val (.int c1), .val (.int z), .val (.ref kd), .val (.ref sn), .val (.long adr), .second, .val (.ref b6), .unset] [])) t
      refine XS.lload X7.here hx rfl (hb hby at_70) rfl ?_
      show Steps p.tables e below (T7.setTop (mkF m 72 #[.val (.int ks), .val (.int zs), .val (.long q), .second, .val (.int md), .val (.int b1), .val (.int c1), .val (.int z), .val (.ref kd), .val (.ref sn), .val (.long adr), .second, .val (.ref b6), .unset] [(.long adr)])) t
      refine XS.lconst X7.here hx rfl (hb hby at_72) ?_
      show Steps p.tables e below (T7.setTop (mkF m 73 #[.val (.int ks), .val (.int zs), .val (.long q), .second, .val (.int md), .val (.int b1), .val (.int c1), .val (.int z), .val (.ref kd), .val (.ref sn), .val (.long adr), .second, .val (.ref b6), .unset] [(.long (0 : Int64)), (.long adr)])) t
      refine XS.lcmp X7.here hx rfl (hb hby at_73) rfl ?_
      show Steps p.tables e below (T7.setTop (mkF m 74 #[.val (.int ks), .val (.int zs), .val (.long q), .second, .val (.int md), .val (.int b1), .val (.int c1), .val (.int z), .val (.ref kd), .val (.ref sn), .val (.long adr), .second, .val (.ref b6), .unset] [(.int (lcmpW adr (0 : Int64)))])) t
      refine XS.ifNo X7.here hx rfl (hb hby at_74) rfl ((if0 _ _).trans (flt (fun v => h1 ((lw_lt _ _).mp v) : ¬ ((lcmpW adr (0 : Int64)) < (0 : Int32)))).1) ?_
      show Steps p.tables e below (T7.setTop (mkF m 77 #[.val (.int ks), .val (.int zs), .val (.long q), .second, .val (.int md), .val (.int b1), .val (.int c1), .val (.int z), .val (.ref kd), .val (.ref sn), .val (.long adr), .second, .val (.ref b6), .unset] [])) t
      refine XS.lload X7.here hx rfl (hb hby at_77) rfl ?_
      show Steps p.tables e below (T7.setTop (mkF m 79 #[.val (.int ks), .val (.int zs), .val (.long q), .second, .val (.int md), .val (.int b1), .val (.int c1), .val (.int z), .val (.ref kd), .val (.ref sn), .val (.long adr), .second, .val (.ref b6), .unset] [(.long adr)])) t
      refine XS.lconst X7.here hx rfl (hb hby at_79) ?_
      show Steps p.tables e below (T7.setTop (mkF m 80 #[.val (.int ks), .val (.int zs), .val (.long q), .second, .val (.int md), .val (.int b1), .val (.int c1), .val (.int z), .val (.ref kd), .val (.ref sn), .val (.long adr), .second, .val (.ref b6), .unset] [(.long (1 : Int64)), (.long adr)])) t
      refine XS.bipush X7.here hx rfl (hb hby at_80) ?_
      show Steps p.tables e below (T7.setTop (mkF m 82 #[.val (.int ks), .val (.int zs), .val (.long q), .second, .val (.int md), .val (.int b1), .val (.int c1), .val (.int z), .val (.ref kd), .val (.ref sn), .val (.long adr), .second, .val (.ref b6), .unset] [(.int (8 : Int32)), (.long (1 : Int64)), (.long adr)])) t
      refine XS.iload X7.here hx rfl (hb hby at_82) rfl ?_
      show Steps p.tables e below (T7.setTop (mkF m 84 #[.val (.int ks), .val (.int zs), .val (.long q), .second, .val (.int md), .val (.int b1), .val (.int c1), .val (.int z), .val (.ref kd), .val (.ref sn), .val (.long adr), .second, .val (.ref b6), .unset] [(.int z), (.int (8 : Int32)), (.long (1 : Int64)), (.long adr)])) t
      refine XS.imul X7.here hx rfl (hb hby at_84) rfl ?_
      show Steps p.tables e below (T7.setTop (mkF m 85 #[.val (.int ks), .val (.int zs), .val (.long q), .second, .val (.int md), .val (.int b1), .val (.int c1), .val (.int z), .val (.ref kd), .val (.ref sn), .val (.long adr), .second, .val (.ref b6), .unset] [(.int ((8 : Int32) * z)), (.long (1 : Int64)), (.long adr)])) t
      refine XS.lshl X7.here hx rfl (hb hby at_85) rfl ?_
      show Steps p.tables e below (T7.setTop (mkF m 86 #[.val (.int ks), .val (.int zs), .val (.long q), .second, .val (.int md), .val (.int b1), .val (.int c1), .val (.int z), .val (.ref kd), .val (.ref sn), .val (.long adr), .second, .val (.ref b6), .unset] [(.long ((1 : Int64) <<< (((8 : Int32) * z) &&& 0x3f).toInt64)), (.long adr)])) t
      refine XS.lcmp X7.here hx rfl (hb hby at_86) rfl ?_
      show Steps p.tables e below (T7.setTop (mkF m 87 #[.val (.int ks), .val (.int zs), .val (.long q), .second, .val (.int md), .val (.int b1), .val (.int c1), .val (.int z), .val (.ref kd), .val (.ref sn), .val (.long adr), .second, .val (.ref b6), .unset] [(.int (lcmpW adr ((1 : Int64) <<< (((8 : Int32) * z) &&& 0x3f).toInt64)))])) t
      refine XS.ifNo X7.here hx rfl (hb hby at_87) rfl ((if0 _ _).trans (tlt ((lw_lt _ _).mpr h2 : (lcmpW adr ((1 : Int64) <<< (((8 : Int32) * z) &&& 0x3f).toInt64)) < (0 : Int32))).2.1) ?_
      show Steps p.tables e below (T7.setTop (mkF m 90 #[.val (.int ks), .val (.int zs), .val (.long q), .second, .val (.int md), .val (.int b1), .val (.int c1), .val (.int z), .val (.ref kd), .val (.ref sn), .val (.long adr), .second, .val (.ref b6), .unset] [])) t
      refine XS.iconst X7.here hx rfl (hb hby at_90) ?_
      show Steps p.tables e below (T7.setTop (mkF m 91 #[.val (.int ks), .val (.int zs), .val (.long q), .second, .val (.int md), .val (.int b1), .val (.int c1), .val (.int z), .val (.ref kd), .val (.ref sn), .val (.long adr), .second, .val (.ref b6), .unset] [(.int (1 : Int32))])) t
      refine XS.goto X7.here hx rfl (pc0 := 91) (pc' := 95) rfl (hb hby at_91) (by decide) (by decide) ?_
      show Steps p.tables e below (T7.setTop (mkF m 95 #[.val (.int ks), .val (.int zs), .val (.long q), .second, .val (.int md), .val (.int b1), .val (.int c1), .val (.int z), .val (.ref kd), .val (.ref sn), .val (.long adr), .second, .val (.ref b6), .unset] [(.int (1 : Int32))])) t
      refine XS.istore X7.here hx rfl (hb hby at_95) rfl (l' := #[.val (.int ks), .val (.int zs), .val (.long q), .second, .val (.int md), .val (.int b1), .val (.int c1), .val (.int z), .val (.ref kd), .val (.ref sn), .val (.long adr), .second, .val (.ref b6), .val (.int (1 : Int32))]) rfl ?_
      exact kt
    · refine ⟨0, T7, _, X7, N7, (rfl : T7.heap = _), if_neg (fun v => h2 ((own_law adr M z hz1 hz2 h hM).mp v).2), fun t kt => ?_⟩
      show Steps p.tables e below (T7.setTop (mkF m 59 #[.val (.int ks), .val (.int zs), .val (.long q), .second, .val (.int md), .val (.int b1), .val (.int c1), .val (.int z), .val (.ref kd), .val (.ref sn), .val (.long adr), .second, .val (.ref b6), .unset] [])) t
      refine XS.iload X7.here hx rfl (hb hby at_59) rfl ?_
      show Steps p.tables e below (T7.setTop (mkF m 61 #[.val (.int ks), .val (.int zs), .val (.long q), .second, .val (.int md), .val (.int b1), .val (.int c1), .val (.int z), .val (.ref kd), .val (.ref sn), .val (.long adr), .second, .val (.ref b6), .unset] [(.int z)])) t
      refine XS.bipush X7.here hx rfl (hb hby at_61) ?_
      show Steps p.tables e below (T7.setTop (mkF m 63 #[.val (.int ks), .val (.int zs), .val (.long q), .second, .val (.int md), .val (.int b1), .val (.int c1), .val (.int z), .val (.ref kd), .val (.ref sn), .val (.long adr), .second, .val (.ref b6), .unset] [(.int (8 : Int32)), (.int z)])) t
      refine XS.icmpYes X7.here hx rfl (pc0 := 63) (pc' := 70) rfl (hb hby at_63) rfl (feq (h : ¬ (z = (8 : Int32)))).2 (by decide) (by decide) ?_
      show Steps p.tables e below (T7.setTop (mkF m 70 #[.val (.int ks), .val (.int zs), .val (.long q), .second, .val (.int md), .val (.int b1), .val (.int c1), .val (.int z), .val (.ref kd), .val (.ref sn), .val (.long adr), .second, .val (.ref b6), .unset] [])) t
      refine XS.lload X7.here hx rfl (hb hby at_70) rfl ?_
      show Steps p.tables e below (T7.setTop (mkF m 72 #[.val (.int ks), .val (.int zs), .val (.long q), .second, .val (.int md), .val (.int b1), .val (.int c1), .val (.int z), .val (.ref kd), .val (.ref sn), .val (.long adr), .second, .val (.ref b6), .unset] [(.long adr)])) t
      refine XS.lconst X7.here hx rfl (hb hby at_72) ?_
      show Steps p.tables e below (T7.setTop (mkF m 73 #[.val (.int ks), .val (.int zs), .val (.long q), .second, .val (.int md), .val (.int b1), .val (.int c1), .val (.int z), .val (.ref kd), .val (.ref sn), .val (.long adr), .second, .val (.ref b6), .unset] [(.long (0 : Int64)), (.long adr)])) t
      refine XS.lcmp X7.here hx rfl (hb hby at_73) rfl ?_
      show Steps p.tables e below (T7.setTop (mkF m 74 #[.val (.int ks), .val (.int zs), .val (.long q), .second, .val (.int md), .val (.int b1), .val (.int c1), .val (.int z), .val (.ref kd), .val (.ref sn), .val (.long adr), .second, .val (.ref b6), .unset] [(.int (lcmpW adr (0 : Int64)))])) t
      refine XS.ifNo X7.here hx rfl (hb hby at_74) rfl ((if0 _ _).trans (flt (fun v => h1 ((lw_lt _ _).mp v) : ¬ ((lcmpW adr (0 : Int64)) < (0 : Int32)))).1) ?_
      show Steps p.tables e below (T7.setTop (mkF m 77 #[.val (.int ks), .val (.int zs), .val (.long q), .second, .val (.int md), .val (.int b1), .val (.int c1), .val (.int z), .val (.ref kd), .val (.ref sn), .val (.long adr), .second, .val (.ref b6), .unset] [])) t
      refine XS.lload X7.here hx rfl (hb hby at_77) rfl ?_
      show Steps p.tables e below (T7.setTop (mkF m 79 #[.val (.int ks), .val (.int zs), .val (.long q), .second, .val (.int md), .val (.int b1), .val (.int c1), .val (.int z), .val (.ref kd), .val (.ref sn), .val (.long adr), .second, .val (.ref b6), .unset] [(.long adr)])) t
      refine XS.lconst X7.here hx rfl (hb hby at_79) ?_
      show Steps p.tables e below (T7.setTop (mkF m 80 #[.val (.int ks), .val (.int zs), .val (.long q), .second, .val (.int md), .val (.int b1), .val (.int c1), .val (.int z), .val (.ref kd), .val (.ref sn), .val (.long adr), .second, .val (.ref b6), .unset] [(.long (1 : Int64)), (.long adr)])) t
      refine XS.bipush X7.here hx rfl (hb hby at_80) ?_
      show Steps p.tables e below (T7.setTop (mkF m 82 #[.val (.int ks), .val (.int zs), .val (.long q), .second, .val (.int md), .val (.int b1), .val (.int c1), .val (.int z), .val (.ref kd), .val (.ref sn), .val (.long adr), .second, .val (.ref b6), .unset] [(.int (8 : Int32)), (.long (1 : Int64)), (.long adr)])) t
      refine XS.iload X7.here hx rfl (hb hby at_82) rfl ?_
      show Steps p.tables e below (T7.setTop (mkF m 84 #[.val (.int ks), .val (.int zs), .val (.long q), .second, .val (.int md), .val (.int b1), .val (.int c1), .val (.int z), .val (.ref kd), .val (.ref sn), .val (.long adr), .second, .val (.ref b6), .unset] [(.int z), (.int (8 : Int32)), (.long (1 : Int64)), (.long adr)])) t
      refine XS.imul X7.here hx rfl (hb hby at_84) rfl ?_
      show Steps p.tables e below (T7.setTop (mkF m 85 #[.val (.int ks), .val (.int zs), .val (.long q), .second, .val (.int md), .val (.int b1), .val (.int c1), .val (.int z), .val (.ref kd), .val (.ref sn), .val (.long adr), .second, .val (.ref b6), .unset] [(.int ((8 : Int32) * z)), (.long (1 : Int64)), (.long adr)])) t
      refine XS.lshl X7.here hx rfl (hb hby at_85) rfl ?_
      show Steps p.tables e below (T7.setTop (mkF m 86 #[.val (.int ks), .val (.int zs), .val (.long q), .second, .val (.int md), .val (.int b1), .val (.int c1), .val (.int z), .val (.ref kd), .val (.ref sn), .val (.long adr), .second, .val (.ref b6), .unset] [(.long ((1 : Int64) <<< (((8 : Int32) * z) &&& 0x3f).toInt64)), (.long adr)])) t
      refine XS.lcmp X7.here hx rfl (hb hby at_86) rfl ?_
      show Steps p.tables e below (T7.setTop (mkF m 87 #[.val (.int ks), .val (.int zs), .val (.long q), .second, .val (.int md), .val (.int b1), .val (.int c1), .val (.int z), .val (.ref kd), .val (.ref sn), .val (.long adr), .second, .val (.ref b6), .unset] [(.int (lcmpW adr ((1 : Int64) <<< (((8 : Int32) * z) &&& 0x3f).toInt64)))])) t
      refine XS.ifYes X7.here hx rfl (pc0 := 87) (pc' := 94) rfl (hb hby at_87) rfl ((if0 _ _).trans (flt (fun v => h2 ((lw_lt _ _).mp v) : ¬ ((lcmpW adr ((1 : Int64) <<< (((8 : Int32) * z) &&& 0x3f).toInt64)) < (0 : Int32)))).2.1) (by decide) (by decide) ?_
      show Steps p.tables e below (T7.setTop (mkF m 94 #[.val (.int ks), .val (.int zs), .val (.long q), .second, .val (.int md), .val (.int b1), .val (.int c1), .val (.int z), .val (.ref kd), .val (.ref sn), .val (.long adr), .second, .val (.ref b6), .unset] [])) t
      refine XS.iconst X7.here hx rfl (hb hby at_94) ?_
      show Steps p.tables e below (T7.setTop (mkF m 95 #[.val (.int ks), .val (.int zs), .val (.long q), .second, .val (.int md), .val (.int b1), .val (.int c1), .val (.int z), .val (.ref kd), .val (.ref sn), .val (.long adr), .second, .val (.ref b6), .unset] [(.int (0 : Int32))])) t
      refine XS.istore X7.here hx rfl (hb hby at_95) rfl (l' := #[.val (.int ks), .val (.int zs), .val (.long q), .second, .val (.int md), .val (.int b1), .val (.int c1), .val (.int z), .val (.ref kd), .val (.ref sn), .val (.long adr), .second, .val (.ref b6), .val (.int (0 : Int32))]) rfl ?_
      exact kt
  obtain ⟨cq9, kq9, q9a, q9b, q9c⟩ := isOf hZ e8 Ec7
  obtain ⟨_, _, ⟨T9, L9, kc9, nc9⟩, -, X9, ⟨Lc9, hQ9, ql9, qy9, qz9⟩, st9⟩ := X8.virtualBack hx (y := (⟨"com/example/tablewright/tablewright/model/AddressSpace", "contains", "(J)Z"⟩ : MethodName)) (z := (⟨"com/example/tablewright/tablewright/model/AddressSpace", "contains", "(J)Z"⟩ : MethodName)) hown (mvT hZ (hw _ (List.mem_of_getElem? (i := 51) rfl))) (mvT hZ (hw _ (List.mem_of_getElem? (i := 52) rfl))) (notFace_of_selects (args := #[]) (mvT hZ (hw _ (List.mem_of_getElem? (i := 54) rfl)))) (mvT hZ (hw _ (List.mem_of_getElem? (i := 54) rfl))) (mvT hZ (hw _ (List.mem_of_getElem? (i := 53) rfl))) (by decide) (backOf (W := 0) (own_rmn l Z a0 hw [] b6 adr M T7.heap n0 Zn7 Fc7_addressMask) hZ (hw _ (List.mem_of_getElem? (i := 55) rfl)) (hw _ (List.mem_of_getElem? (i := 38) rfl)) (by decide) (by decide)) q9a q9c (g := (mkF m 101 #[.val (.int ks), .val (.int zs), .val (.long q), .second, .val (.int md), .val (.int b1), .val (.int c1), .val (.int z), .val (.ref kd), .val (.ref sn), .val (.long adr), .second, .val (.ref b6), .val (.int x13)] [(.long adr), (.ref b6)])) rfl (by rw [hml]; rfl) (Steps.refl _) (argsL := [(.long adr)]) (rest := []) (lenOf own_pd7 rfl) rfl (by show 2 * 0 + _ ≤ _; exact Nat.le_of_eq rfl) (hb hby at_101) (fun _ _ => ⟨rfl, e8, (by decide : 3 + 0 ≤ _), (by decide : 9 + 0 ≤ _)⟩)
  dsimp only [Pt.U, Pt.locs, Pt.cells, Pt.slots] at X9 ql9 qy9 qz9 st9 hQ9
  subst ql9 qy9 qz9
  obtain ⟨rfl, Nq9, eq9⟩ := hQ9
  have N9 := Fr.app N8 Nq9
  obtain ⟨fs, hr, hrun, hended, hW, hsame⟩ := X9.leave (v := some (.int (1 : Int32))) (fun h => by rw [Bd.returns] at h; cases h)
  refine ⟨_, _, pre0 _ ?_, hrun, hended, _, _, rfl, ?_, ⟨_, rfl⟩, hW, hsame.mono (by decide) (by decide)⟩
  · show Steps p.tables e below (s₁.setTop (mkF m 0 #[.val (.int ks), .val (.int zs), .val (.long q), .second, .val (.int md), .val (.int b1), .val (.int c1), .unset, .unset, .unset, .unset, .unset, .unset, .unset] [])) _
    refine st1 _ ?_
    show Steps p.tables e below (T1.setTop (mkF m 8 #[.val (.int ks), .val (.int zs), .val (.long q), .second, .val (.int md), .val (.int b1), .val (.int c1), .val (.int z), .unset, .unset, .unset, .unset, .unset, .unset] [])) _
    refine XS.iloadN X1.here hx rfl (hb hby at_8) rfl ?_
    show Steps p.tables e below (T1.setTop (mkF m 9 #[.val (.int ks), .val (.int zs), .val (.long q), .second, .val (.int md), .val (.int b1), .val (.int c1), .val (.int z), .unset, .unset, .unset, .unset, .unset, .unset] [(.int ks)])) _
    refine XS.iconst X1.here hx rfl (hb hby at_9) ?_
    show Steps p.tables e below (T1.setTop (mkF m 10 #[.val (.int ks), .val (.int zs), .val (.long q), .second, .val (.int md), .val (.int b1), .val (.int c1), .val (.int z), .unset, .unset, .unset, .unset, .unset, .unset] [(.int (3 : Int32)), (.int ks)])) _
    refine XS.iand X1.here hx rfl (hb hby at_10) rfl ?_
    show Steps p.tables e below (T1.setTop (mkF m 11 #[.val (.int ks), .val (.int zs), .val (.long q), .second, .val (.int md), .val (.int b1), .val (.int c1), .val (.int z), .unset, .unset, .unset, .unset, .unset, .unset] [(.int (ks &&& (3 : Int32)))])) _
    refine st2 _ ?_
    show Steps p.tables e below (T2.setTop (mkF m 14 #[.val (.int ks), .val (.int zs), .val (.long q), .second, .val (.int md), .val (.int b1), .val (.int c1), .val (.int z), .unset, .unset, .unset, .unset, .unset, .unset] [(.ref kd)])) _
    refine XS.astore X2.here hx rfl (hb hby at_14) rfl rfl (l' := #[.val (.int ks), .val (.int zs), .val (.long q), .second, .val (.int md), .val (.int b1), .val (.int c1), .val (.int z), .val (.ref kd), .unset, .unset, .unset, .unset, .unset]) rfl ?_
    show Steps p.tables e below (T2.setTop (mkF m 16 #[.val (.int ks), .val (.int zs), .val (.long q), .second, .val (.int md), .val (.int b1), .val (.int c1), .val (.int z), .val (.ref kd), .unset, .unset, .unset, .unset, .unset] [])) _
    refine XS.iloadN X2.here hx rfl (hb hby at_16) rfl ?_
    show Steps p.tables e below (T2.setTop (mkF m 17 #[.val (.int ks), .val (.int zs), .val (.long q), .second, .val (.int md), .val (.int b1), .val (.int c1), .val (.int z), .val (.ref kd), .unset, .unset, .unset, .unset, .unset] [(.int ks)])) _
    refine XS.bipush X2.here hx rfl (hb hby at_17) ?_
    show Steps p.tables e below (T2.setTop (mkF m 19 #[.val (.int ks), .val (.int zs), .val (.long q), .second, .val (.int md), .val (.int b1), .val (.int c1), .val (.int z), .val (.ref kd), .unset, .unset, .unset, .unset, .unset] [(.int (8 : Int32)), (.int ks)])) _
    refine XS.iushr X2.here hx rfl (hb hby at_19) rfl ?_
    show Steps p.tables e below (T2.setTop (mkF m 20 #[.val (.int ks), .val (.int zs), .val (.long q), .second, .val (.int md), .val (.int b1), .val (.int c1), .val (.int z), .val (.ref kd), .unset, .unset, .unset, .unset, .unset] [(.int ((ks.toUInt32 >>> ((8 : Int32) &&& 31).toUInt32).toInt32))])) _
    refine XS.sipush X2.here hx rfl (hb hby at_20) ?_
    show Steps p.tables e below (T2.setTop (mkF m 23 #[.val (.int ks), .val (.int zs), .val (.long q), .second, .val (.int md), .val (.int b1), .val (.int c1), .val (.int z), .val (.ref kd), .unset, .unset, .unset, .unset, .unset] [(.int (255 : Int32)), (.int ((ks.toUInt32 >>> ((8 : Int32) &&& 31).toUInt32).toInt32))])) _
    refine XS.iand X2.here hx rfl (hb hby at_23) rfl ?_
    show Steps p.tables e below (T2.setTop (mkF m 24 #[.val (.int ks), .val (.int zs), .val (.long q), .second, .val (.int md), .val (.int b1), .val (.int c1), .val (.int z), .val (.ref kd), .unset, .unset, .unset, .unset, .unset] [(.int (((ks.toUInt32 >>> ((8 : Int32) &&& 31).toUInt32).toInt32) &&& (255 : Int32)))])) _
    refine XS.i2c X2.here hx rfl (hb hby at_24) rfl ?_
    show Steps p.tables e below (T2.setTop (mkF m 25 #[.val (.int ks), .val (.int zs), .val (.long q), .second, .val (.int md), .val (.int b1), .val (.int c1), .val (.int z), .val (.ref kd), .unset, .unset, .unset, .unset, .unset] [(.int ((((ks.toUInt32 >>> ((8 : Int32) &&& 31).toUInt32).toInt32) &&& (255 : Int32)).toUInt32.toUInt16.toUInt32.toInt32))])) _
    refine st3 _ ?_
    show Steps p.tables e below (T3.setTop (mkF m 28 #[.val (.int ks), .val (.int zs), .val (.long q), .second, .val (.int md), .val (.int b1), .val (.int c1), .val (.int z), .val (.ref kd), .unset, .unset, .unset, .unset, .unset] [(.ref sn)])) _
    refine XS.astore X3.here hx rfl (hb hby at_28) rfl rfl (l' := #[.val (.int ks), .val (.int zs), .val (.long q), .second, .val (.int md), .val (.int b1), .val (.int c1), .val (.int z), .val (.ref kd), .val (.ref sn), .unset, .unset, .unset, .unset]) rfl ?_
    show Steps p.tables e below (T3.setTop (mkF m 30 #[.val (.int ks), .val (.int zs), .val (.long q), .second, .val (.int md), .val (.int b1), .val (.int c1), .val (.int z), .val (.ref kd), .val (.ref sn), .unset, .unset, .unset, .unset] [])) _
    refine XS.iload X3.here hx rfl (hb hby at_30) rfl ?_
    show Steps p.tables e below (T3.setTop (mkF m 32 #[.val (.int ks), .val (.int zs), .val (.long q), .second, .val (.int md), .val (.int b1), .val (.int c1), .val (.int z), .val (.ref kd), .val (.ref sn), .unset, .unset, .unset, .unset] [(.int md)])) _
    refine XS.iconst X3.here hx rfl (hb hby at_32) ?_
    show Steps p.tables e below (T3.setTop (mkF m 33 #[.val (.int ks), .val (.int zs), .val (.long q), .second, .val (.int md), .val (.int b1), .val (.int c1), .val (.int z), .val (.ref kd), .val (.ref sn), .unset, .unset, .unset, .unset] [(.int (3 : Int32)), (.int md)])) _
    refine XS.iand X3.here hx rfl (hb hby at_33) rfl ?_
    show Steps p.tables e below (T3.setTop (mkF m 34 #[.val (.int ks), .val (.int zs), .val (.long q), .second, .val (.int md), .val (.int b1), .val (.int c1), .val (.int z), .val (.ref kd), .val (.ref sn), .unset, .unset, .unset, .unset] [(.int (md &&& (3 : Int32)))])) _
    refine XS.lloadN X3.here hx rfl (hb hby at_34) rfl ?_
    show Steps p.tables e below (T3.setTop (mkF m 35 #[.val (.int ks), .val (.int zs), .val (.long q), .second, .val (.int md), .val (.int b1), .val (.int c1), .val (.int z), .val (.ref kd), .val (.ref sn), .unset, .unset, .unset, .unset] [(.long q), (.int (md &&& (3 : Int32)))])) _
    refine XS.iload X3.here hx rfl (hb hby at_35) rfl ?_
    show Steps p.tables e below (T3.setTop (mkF m 37 #[.val (.int ks), .val (.int zs), .val (.long q), .second, .val (.int md), .val (.int b1), .val (.int c1), .val (.int z), .val (.ref kd), .val (.ref sn), .unset, .unset, .unset, .unset] [(.int b1), (.long q), (.int (md &&& (3 : Int32)))])) _
    refine XS.iload X3.here hx rfl (hb hby at_37) rfl ?_
    show Steps p.tables e below (T3.setTop (mkF m 39 #[.val (.int ks), .val (.int zs), .val (.long q), .second, .val (.int md), .val (.int b1), .val (.int c1), .val (.int z), .val (.ref kd), .val (.ref sn), .unset, .unset, .unset, .unset] [(.int c1), (.int b1), (.long q), (.int (md &&& (3 : Int32)))])) _
    refine st4 _ ?_
    show Steps p.tables e below (T4.setTop (mkF m 42 #[.val (.int ks), .val (.int zs), .val (.long q), .second, .val (.int md), .val (.int b1), .val (.int c1), .val (.int z), .val (.ref kd), .val (.ref sn), .unset, .unset, .unset, .unset] [(.long (own_adr (md &&& (3 : Int32)) q b1 c1))])) _
    refine st5 _ ?_
    show Steps p.tables e below (T5.setTop (mkF m 44 #[.val (.int ks), .val (.int zs), .val (.long q), .second, .val (.int md), .val (.int b1), .val (.int c1), .val (.int z), .val (.ref kd), .val (.ref sn), .val (.long adr), .second, .unset, .unset] [])) _
    refine st6 _ ?_
    show Steps p.tables e below (T6.setTop (mkF m 47 #[.val (.int ks), .val (.int zs), .val (.long q), .second, .val (.int md), .val (.int b1), .val (.int c1), .val (.int z), .val (.ref kd), .val (.ref sn), .val (.long adr), .second, .unset, .unset] [(.ref b6)])) _
    refine XS.dup X6.here hx rfl (hb hby at_47) rfl rfl ?_
    show Steps p.tables e below (T6.setTop (mkF m 48 #[.val (.int ks), .val (.int zs), .val (.long q), .second, .val (.int md), .val (.int b1), .val (.int c1), .val (.int z), .val (.ref kd), .val (.ref sn), .val (.long adr), .second, .unset, .unset] [(.ref b6), (.ref b6)])) _
    refine XS.aload X6.here hx rfl (hb hby at_48) rfl rfl ?_
    show Steps p.tables e below (T6.setTop (mkF m 50 #[.val (.int ks), .val (.int zs), .val (.long q), .second, .val (.int md), .val (.int b1), .val (.int c1), .val (.int z), .val (.ref kd), .val (.ref sn), .val (.long adr), .second, .unset, .unset] [(.ref sn), (.ref b6), (.ref b6)])) _
    refine XS.aload X6.here hx rfl (hb hby at_50) rfl rfl ?_
    show Steps p.tables e below (T6.setTop (mkF m 52 #[.val (.int ks), .val (.int zs), .val (.long q), .second, .val (.int md), .val (.int b1), .val (.int c1), .val (.int z), .val (.ref kd), .val (.ref sn), .val (.long adr), .second, .unset, .unset] [(.ref kd), (.ref sn), (.ref b6), (.ref b6)])) _
    refine XS.iload X6.here hx rfl (hb hby at_52) rfl ?_
    show Steps p.tables e below (T6.setTop (mkF m 54 #[.val (.int ks), .val (.int zs), .val (.long q), .second, .val (.int md), .val (.int b1), .val (.int c1), .val (.int z), .val (.ref kd), .val (.ref sn), .val (.long adr), .second, .unset, .unset] [(.int z), (.ref kd), (.ref sn), (.ref b6), (.ref b6)])) _
    refine st7.trans ?_
    show Steps p.tables e below (T7.setTop (mkF m 57 #[.val (.int ks), .val (.int zs), .val (.long q), .second, .val (.int md), .val (.int b1), .val (.int c1), .val (.int z), .val (.ref kd), .val (.ref sn), .val (.long adr), .second, .unset, .unset] [(.ref b6)])) _
    refine XS.astore X7.here hx rfl (hb hby at_57) rfl rfl (l' := #[.val (.int ks), .val (.int zs), .val (.long q), .second, .val (.int md), .val (.int b1), .val (.int c1), .val (.int z), .val (.ref kd), .val (.ref sn), .val (.long adr), .second, .val (.ref b6), .unset]) rfl ?_
    show Steps p.tables e below (T7.setTop (mkF m 59 #[.val (.int ks), .val (.int zs), .val (.long q), .second, .val (.int md), .val (.int b1), .val (.int c1), .val (.int z), .val (.ref kd), .val (.ref sn), .val (.long adr), .second, .val (.ref b6), .unset] [])) _
    refine st8 _ ?_
    show Steps p.tables e below (T8.setTop (mkF m 97 #[.val (.int ks), .val (.int zs), .val (.long q), .second, .val (.int md), .val (.int b1), .val (.int c1), .val (.int z), .val (.ref kd), .val (.ref sn), .val (.long adr), .second, .val (.ref b6), .val (.int x13)] [])) _
    refine XS.aload X8.here hx rfl (hb hby at_97) rfl rfl ?_
    show Steps p.tables e below (T8.setTop (mkF m 99 #[.val (.int ks), .val (.int zs), .val (.long q), .second, .val (.int md), .val (.int b1), .val (.int c1), .val (.int z), .val (.ref kd), .val (.ref sn), .val (.long adr), .second, .val (.ref b6), .val (.int x13)] [(.ref b6)])) _
    refine XS.lload X8.here hx rfl (hb hby at_99) rfl ?_
    show Steps p.tables e below (T8.setTop (mkF m 101 #[.val (.int ks), .val (.int zs), .val (.long q), .second, .val (.int md), .val (.int b1), .val (.int c1), .val (.int z), .val (.ref kd), .val (.ref sn), .val (.long adr), .second, .val (.ref b6), .val (.int x13)] [(.long adr), (.ref b6)])) _
    refine st9.trans ?_
    show Steps p.tables e below (T9.setTop (mkF m 104 #[.val (.int ks), .val (.int zs), .val (.long q), .second, .val (.int md), .val (.int b1), .val (.int c1), .val (.int z), .val (.ref kd), .val (.ref sn), .val (.long adr), .second, .val (.ref b6), .val (.int x13)] [(.int (own_con adr M))])) _
    refine XS.iload X9.here hx rfl (hb hby at_104) rfl ?_
    show Steps p.tables e below (T9.setTop (mkF m 106 #[.val (.int ks), .val (.int zs), .val (.long q), .second, .val (.int md), .val (.int b1), .val (.int c1), .val (.int z), .val (.ref kd), .val (.ref sn), .val (.long adr), .second, .val (.ref b6), .val (.int x13)] [(.int x13), (.int (own_con adr M))])) _
    refine XS.icmpNo X9.here hx rfl (hb hby at_106) rfl (teq (hv : (own_con adr M) = x13)).2 ?_
    show Steps p.tables e below (T9.setTop (mkF m 109 #[.val (.int ks), .val (.int zs), .val (.long q), .second, .val (.int md), .val (.int b1), .val (.int c1), .val (.int z), .val (.ref kd), .val (.ref sn), .val (.long adr), .second, .val (.ref b6), .val (.int x13)] [])) _
    refine XS.iconst X9.here hx rfl (hb hby at_109) ?_
    show Steps p.tables e below (T9.setTop (mkF m 110 #[.val (.int ks), .val (.int zs), .val (.long q), .second, .val (.int md), .val (.int b1), .val (.int c1), .val (.int z), .val (.ref kd), .val (.ref sn), .val (.long adr), .second, .val (.ref b6), .val (.int x13)] [(.int (1 : Int32))])) _
    refine XS.goto X9.here hx rfl (pc0 := 110) (pc' := 114) rfl (hb hby at_110) (by decide) (by decide) ?_
    show Steps p.tables e below (T9.setTop (mkF m 114 #[.val (.int ks), .val (.int zs), .val (.long q), .second, .val (.int md), .val (.int b1), .val (.int c1), .val (.int z), .val (.ref kd), .val (.ref sn), .val (.long adr), .second, .val (.ref b6), .val (.int x13)] [(.int (1 : Int32))])) _
    exact retN X9 hx (t := .boolean) Bd.returns (by simp) (hb hby at_114) hr
  · show own_QL n0 _ T9.heap _
    exact ⟨rfl, N9⟩
set_option maxRecDepth 65536 in
set_option maxHeartbeats 40000000 in
theorem comes_1 {Post : Tables → Env → Array Value → State → Outcome → State → Prop} (hpost : ∀ tb e args s v u, (limb_1_1.after args s (.returned v) u = true ∧ limb_1_2.after args s (.returned v) u = true ∧ True) → FrameEnd s (.returned v) u (Jvm.fieldLocs frame_1_writes args s ++ Jvm.arrayLocs frame_1_arrays args s ++ Jvm.staticLocs frame_1_statics s) 16 128 → Post tb e args s (.returned v) u) :
    ArmFor flags0 classFile x code maxLocals ret World_1 tables_1 room_1 Calls_1 rest_1 Pre_1 Post := by
  intro l hfl _ _ p e ha hc hk s m args below hf hA hF happ hP
  obtain ⟨hcalls, hrest, hpre⟩ := hP
  obtain ⟨-, -, -, hnamed, -, -, -, hat⟩ := (Spec.applies_iff hf).mp happ
  obtain ⟨hg, hn⟩ := and_e (Cond.before_iff.mp (show (Jvm.Cond.and given_1 narrow_1).before args s = true from hpre))
  obtain ⟨g_n, hg⟩ := and_e hg
  obtain ⟨g_0, hg⟩ := and_e hg
  obtain ⟨g_1, hg⟩ := and_e hg
  obtain ⟨g_2, hg⟩ := and_e hg
  obtain ⟨g_3, hg⟩ := and_e hg
  obtain ⟨g_4, hg⟩ := and_e hg
  have g_5 := hg
  obtain ⟨w0, w1, w2, w3, w4, w5, rfl⟩ : ∃ w0 w1 w2 w3 w4 w5 : Value, args = #[w0, w1, w2, w3, w4, w5] := by
    have hs : args.size = 6 := by simpa [Cond.value, given_1] using g_n
    obtain ⟨L⟩ := args
    match L, hs with
    | [w0, w1, w2, w3, w4, w5], _ => exact ⟨w0, w1, w2, w3, w4, w5, rfl⟩
  have hw := fun d (hd : d ∈ tables_1) => atoms_spec (ws := Jvm.Cond.code x code maxLocals ret :: tables_1) hat d (List.mem_cons_of_mem _ hd)
  have hfit : Fit s := fun {y c} hc i hi => by
    obtain ⟨ha, rfl⟩ := Array.getElem?_eq_some_iff.mp hc
    have q := List.all_eq_true.mp ((Array.all_eq_true_iff_forall_mem.mp hF) _ (Array.getElem_mem ha)) i (List.mem_range.mpr hi)
    simpa [Array.getElem?_eq_getElem hi] using q
  obtain ⟨i0, ei0⟩ := is_v g_0
  obtain rfl : w0 = (.int i0) := Option.some.inj ei0
  obtain ⟨i1, ei1⟩ := is_v g_1
  obtain rfl : w1 = (.int i1) := Option.some.inj ei1
  obtain ⟨i2, ei2⟩ := isL_v g_2
  obtain rfl : w2 = (.long i2) := Option.some.inj ei2
  obtain ⟨i3, ei3⟩ := is_v g_3
  obtain rfl : w3 = (.int i3) := Option.some.inj ei3
  obtain ⟨i4, ei4⟩ := is_v g_4
  obtain rfl : w4 = (.int i4) := Option.some.inj ei4
  obtain ⟨i5, ei5⟩ := is_v g_5
  obtain rfl : w5 = (.int i5) := Option.some.inj ei5
  obtain ⟨c0, hn⟩ := and_e hn
  obtain ⟨c1, hn⟩ := and_e hn
  obtain ⟨c2, hn⟩ := and_e hn
  have c3 := hn
  obtain ⟨a_RAM, ev_RAM⟩ := exa_v c0
  have E_RAM := Exa.start ev_RAM c0
  have S_RAM := Sta.start ev_RAM (Or.inr ⟨(hw _ (List.mem_of_getElem? (i := 5) rfl)), (hw _ (List.mem_of_getElem? (i := 6) rfl))⟩)
  obtain ⟨a_CONSTANT, ev_CONSTANT⟩ := exa_v c1
  have E_CONSTANT := Exa.start ev_CONSTANT c1
  have S_CONSTANT := Sta.start ev_CONSTANT (Or.inr ⟨(hw _ (List.mem_of_getElem? (i := 5) rfl)), (hw _ (List.mem_of_getElem? (i := 58) rfl))⟩)
  obtain ⟨a_REGISTER, ev_REGISTER⟩ := exa_v c2
  have E_REGISTER := Exa.start ev_REGISTER c2
  have S_REGISTER := Sta.start ev_REGISTER (Or.inr ⟨(hw _ (List.mem_of_getElem? (i := 5) rfl)), (hw _ (List.mem_of_getElem? (i := 60) rfl))⟩)
  obtain ⟨a_UNIQUE, ev_UNIQUE⟩ := exa_v c3
  have E_UNIQUE := Exa.start ev_UNIQUE c3
  have S_UNIQUE := Sta.start ev_UNIQUE (Or.inr ⟨(hw _ (List.mem_of_getElem? (i := 5) rfl)), (hw _ (List.mem_of_getElem? (i := 62) rfl))⟩)
  obtain ⟨hsets, hown0⟩ := atoms_of _ (rest_1_c_eq ▸ (show rest_1_c.before _ s = true from hrest))
  obtain ⟨iC, eC⟩ := is_v (Cond.before_iff.mp (hsets _ (List.mem_of_getElem? (i := 1) rfl)))
  have S_C : Sta s s.heap "java/lang/String" "COMPACT_STRINGS" "Z" (.int iC) := Sta.start eC (Or.inl (hsets _ (List.mem_of_getElem? (i := 0) rfl)))
  have hnC : ¬ iC = (0 : Int32) := gotF (Cond.eq_ints eC (Term.int_eval 0)) (not_v (Cond.before_iff.mp (hsets _ (List.mem_of_getElem? (i := 2) rfl))))
  obtain ⟨n, o, h1, h2, h3, _, L, rfl, ⟨rfl, N⟩, hq⟩ := own_rm0 l s _ hw tables_1 i0 i1 i2 i3 i4 i5 a_RAM a_REGISTER a_CONSTANT a_UNIQUE iC s.heap s.heap.size (Nat.le_refl _) S_RAM E_RAM S_REGISTER E_REGISTER S_CONSTANT E_CONSTANT S_UNIQUE E_UNIQUE S_C hnC p e ha hc hk s m _ below hf ((Spec.applies_iff_loose hf).mp happ).1 ⟨rfl, State.Warmed39.refl s, rfl⟩ trivial
  refine ⟨n, _, h1, h2, h3, hpost _ _ _ _ _ _ ⟨Cond.after_iff.mpr rfl, Cond.after_iff.mpr (eq_i res_at (Term.int_eval (1)) rfl), trivial⟩ ⟨hq.1, hq.2.1, (hq.2.2.sift fun y hy => Or.inr (N y hy)).mono (by decide) (by decide)⟩⟩
theorem main_1_1 : Claimed_1_1 := comes_1 fun _ _ _ _ _ _ h hF => ⟨h.1, hF⟩
theorem main_1_2 : Claimed_1_2 := comes_1 fun _ _ _ _ _ _ h hF => ⟨h.2.1, hF⟩
end Jvm.Pilot.@@N@@
namespace Jvm.Pilot.@@N@@
open Jvm Jvm.ClassFile Sem Op Lib Jvm.Free Jvm.Stand Jvm.Pilot.@@N@@.Jvm.D
/-! MADE BY PROGRAM (witnessworld.py) out of the Statement's table words and the real class files: 20 classes; the members and pool entries that the words name. The judged class is class 1, her method 1. -/
namespace start1
open Jvm.ClassFile
def u (s : String) : CpInfo := .utf8 (stringToUtf16 s)
/-- a pool by its gaps: so many unusable entries, then the entry; so many at the end -/
def gap : Nat → List CpInfo → List CpInfo
  | 0, r => r
  | n + 1, r => .unusable :: gap n r
def poolList (es : List (Nat × CpInfo)) (last : Nat) : List CpInfo := es.foldr (fun e r => gap e.1 (e.2 :: r)) (gap last [])
def pool (es : List (Nat × CpInfo)) (last : Nat) : Array CpInfo := ⟨poolList es last⟩
def fileOf (pool : Array CpInfo) (this : Nat) (attrs : Array Attribute := #[]) (ms : Array MethodInfo := #[]) (fl : Nat := 33) (sup : Nat := 0) (ifs : Array Nat := #[]) (fds : Array FieldInfo := #[]) : ClassFile where
  minorVersion := 0
  majorVersion := 65
  constantPool := pool
  accessFlags := fl
  thisClass := this
  superClass := sup
  interfaces := ifs
  fields := fds
  methods := ms
  attributes := attrs
def plain (name : String) (sup : Option ClassId) : Class where
  name := name
  kind := .ordinary
  loader := none
  accessFlags := 33
  super := sup
  interfaces := #[]
  cf := none
  fields := #[]
  methods := #[]
  instanceTypes := #[]
  staticTypes := #[]
  resolved := #[]
  callSites := []
  init := .initialized
  statics := none
  mirror := none

def pool0 : Array CpInfo := pool [(5, u "<init>"), (0, u "()V"), (1, .class_ 10), (1, u "java/lang/Object")] 113

def k0c0 : Code := { maxStack := 0, maxLocals := 1, code := object_method_1_code, exceptionTable := #[], attributes := #[] }
def k0m0 : Method := { name := "<init>", desc := "()V", sig := { parameters := [], returnType := none }, accessFlags := 1, code := some k0c0 }
/-- java/lang/Object -/
def k0 : Class := { plain "java/lang/Object" none with
  accessFlags := 33
  interfaces := #[]
  cf := some (fileOf pool0 8 #[] #[{ accessFlags := 1, nameIndex := 5, descriptorIndex := 6, attributes := #[] }] 33 0 #[] #[])
  fields := #[]
  methods := #[k0m0]
  instanceTypes := #[]
  staticTypes := #[]
  resolved := Array.replicate 124 none
  statics := none }

def pool1 : Array CpInfo := pool [(2, .class_ 4), (1, u "java/lang/Object"), (0, u "<init>"), (0, u "()V"), (0, .methodref 8 9), (0, .class_ 10), (0, .nameAndType 11 12), (0, u "com/example/tablewright/tablewright/model/AddressSpaceContainsPinLaw"), (0, u "pickKind"), (0, u "(I)Lcom/example/tablewright/tablewright/model/AddressSpace$Kind;"), (0, .methodref 14 15), (0, .class_ 16), (0, .nameAndType 17 18), (0, u "java/lang/String"), (0, u "valueOf"), (0, u "(C)Ljava/lang/String;"), (0, .methodref 8 20), (0, .nameAndType 21 22), (0, u "pickAddress"), (0, u "(IJII)J"), (0, .class_ 24), (0, u "com/example/tablewright/tablewright/model/AddressSpace"), (0, .methodref 23 26), (0, .nameAndType 5 27), (0, u "(Ljava/lang/String;Lcom/example/tablewright/tablewright/model/AddressSpace$Kind;I)V"), (0, .methodref 23 29), (0, .nameAndType 30 31), (0, u "contains"), (0, u "(J)Z"), (0, .fieldref 33 34), (0, .class_ 35), (0, .nameAndType 36 37), (0, u "com/example/tablewright/tablewright/model/AddressSpace$Kind"), (0, u "RAM"), (0, u "Lcom/example/tablewright/tablewright/model/AddressSpace$Kind;"), (0, .fieldref 33 39), (0, .nameAndType 40 37), (0, u "REGISTER"), (0, .fieldref 33 42), (0, .nameAndType 43 37), (0, u "CONSTANT"), (0, .fieldref 33 45), (0, .nameAndType 46 37), (0, u "UNIQUE"), (2, u "law"), (0, u "(IIJIII)Z")] 5

def k1m0 : Method := { name := "<init>", desc := "()V", sig := { parameters := [], returnType := none }, accessFlags := 1, code := none }
def k1c1 : Code := { maxStack := 6, maxLocals := 14, code := code, exceptionTable := #[], attributes := #[] }
def k1m1 : Method := { name := "law", desc := "(IIJIII)Z", sig := { parameters := [.int, .int, .long, .int, .int, .int], returnType := some .boolean }, accessFlags := 9, code := some k1c1 }
def k1c2 : Code := { maxStack := 2, maxLocals := 1, code := method_3_code, exceptionTable := #[], attributes := #[] }
def k1m2 : Method := { name := "pickKind", desc := "(I)Lcom/example/tablewright/tablewright/model/AddressSpace$Kind;", sig := { parameters := [.int], returnType := some (.object "com/example/tablewright/tablewright/model/AddressSpace$Kind") }, accessFlags := 10, code := some k1c2 }
def k1c3 : Code := { maxStack := 4, maxLocals := 5, code := method_4_code, exceptionTable := #[], attributes := #[] }
def k1m3 : Method := { name := "pickAddress", desc := "(IJII)J", sig := { parameters := [.int, .long, .int, .int], returnType := some .long }, accessFlags := 10, code := some k1c3 }
/-- com/example/tablewright/tablewright/model/AddressSpaceContainsPinLaw -/
def k1 : Class := { plain "com/example/tablewright/tablewright/model/AddressSpaceContainsPinLaw" (some 0) with
  accessFlags := 49
  interfaces := #[]
  cf := some (fileOf pool1 8 #[] #[{ accessFlags := 1, nameIndex := 5, descriptorIndex := 6, attributes := #[] }, { accessFlags := 9, nameIndex := 49, descriptorIndex := 50, attributes := #[] }, { accessFlags := 10, nameIndex := 11, descriptorIndex := 12, attributes := #[] }, { accessFlags := 10, nameIndex := 21, descriptorIndex := 22, attributes := #[] }] 49 2 #[] #[])
  fields := #[]
  methods := #[k1m0, k1m1, k1m2, k1m3]
  instanceTypes := #[]
  staticTypes := #[]
  resolved := Array.replicate 56 none
  statics := none }

def pool2 : Array CpInfo := pool [(1, .class_ 2), (0, u "java/lang/constant/Constable"), (0, .class_ 4), (0, u "java/lang/Object")] 6

/-- java/lang/constant/Constable -/
def k2 : Class := { plain "java/lang/constant/Constable" (some 0) with
  accessFlags := 1537
  interfaces := #[]
  cf := some (fileOf pool2 1 #[] #[] 1537 3 #[] #[])
  fields := #[]
  methods := #[]
  instanceTypes := #[]
  staticTypes := #[]
  resolved := Array.replicate 11 none
  statics := none }

def pool3 : Array CpInfo := pool [(1, .class_ 2), (0, u "java/lang/Comparable"), (0, .class_ 4), (0, u "java/lang/Object")] 7

/-- java/lang/Comparable -/
def k3 : Class := { plain "java/lang/Comparable" (some 0) with
  accessFlags := 1537
  interfaces := #[]
  cf := some (fileOf pool3 1 #[] #[] 1537 3 #[] #[])
  fields := #[]
  methods := #[]
  instanceTypes := #[]
  staticTypes := #[]
  resolved := Array.replicate 12 none
  statics := none }

def pool4 : Array CpInfo := pool [(1, .class_ 2), (0, u "java/io/Serializable"), (0, .class_ 4), (0, u "java/lang/Object")] 2

/-- java/io/Serializable -/
def k4 : Class := { plain "java/io/Serializable" (some 0) with
  accessFlags := 1537
  interfaces := #[]
  cf := some (fileOf pool4 1 #[] #[] 1537 3 #[] #[])
  fields := #[]
  methods := #[]
  instanceTypes := #[]
  staticTypes := #[]
  resolved := Array.replicate 7 none
  statics := none }

def pool5 : Array CpInfo := pool [(2, .class_ 4), (1, u "java/lang/Enum"), (0, u "name"), (0, u "Ljava/lang/String;"), (2, u "ordinal"), (0, u "I"), (1, .class_ 14), (1, u "java/lang/Object"), (4, u "hash"), (86, .class_ 108), (1, u "java/lang/Enum$EnumDesc"), (2, .class_ 112), (0, u "java/lang/constant/Constable"), (0, .class_ 114), (0, u "java/lang/Comparable"), (0, .class_ 116), (0, u "java/io/Serializable")] 87

/-- java/lang/Enum -/
def k5 : Class := { plain "java/lang/Enum" (some 0) with
  accessFlags := 1057
  interfaces := #[2, 3, 4]
  cf := some (fileOf pool5 2 #[.nestMembers #[106]] #[] 1057 12 #[111, 113, 115] #[{ accessFlags := 18, nameIndex := 5, descriptorIndex := 6, attributes := #[] }, { accessFlags := 18, nameIndex := 9, descriptorIndex := 10, attributes := #[] }, { accessFlags := 2, nameIndex := 19, descriptorIndex := 10, attributes := #[] }])
  fields := #[{ name := "name", type := (.object "java/lang/String"), accessFlags := 18, slot := 0, constantValue := 0 }, { name := "ordinal", type := .int, accessFlags := 18, slot := 1, constantValue := 0 }, { name := "hash", type := .int, accessFlags := 2, slot := 2, constantValue := 0 }]
  methods := #[]
  instanceTypes := #[(.object "java/lang/String"), .int, .int]
  staticTypes := #[]
  resolved := Array.replicate 204 none
  statics := none }

def pool6 : Array CpInfo := pool [(1, .class_ 2), (0, u "com/example/tablewright/tablewright/model/AddressSpace$Kind"), (2, u "RAM"), (0, u "Lcom/example/tablewright/tablewright/model/AddressSpace$Kind;"), (2, u "REGISTER"), (2, u "CONSTANT"), (2, u "UNIQUE"), (2, u "$VALUES"), (0, u "[Lcom/example/tablewright/tablewright/model/AddressSpace$Kind;"), (6, .class_ 28), (1, u "java/lang/Enum"), (27, .class_ 57), (0, u "com/example/tablewright/tablewright/model/AddressSpace")] 2

/-- com/example/tablewright/tablewright/model/AddressSpace$Kind -/
def k6 : Class := { plain "com/example/tablewright/tablewright/model/AddressSpace$Kind" (some 5) with
  accessFlags := 16433
  interfaces := #[]
  cf := some (fileOf pool6 1 #[.nestHost 56] #[] 16433 26 #[] #[{ accessFlags := 16409, nameIndex := 5, descriptorIndex := 6, attributes := #[] }, { accessFlags := 16409, nameIndex := 9, descriptorIndex := 6, attributes := #[] }, { accessFlags := 16409, nameIndex := 12, descriptorIndex := 6, attributes := #[] }, { accessFlags := 16409, nameIndex := 15, descriptorIndex := 6, attributes := #[] }, { accessFlags := 4122, nameIndex := 18, descriptorIndex := 19, attributes := #[] }])
  fields := #[{ name := "RAM", type := (.object "com/example/tablewright/tablewright/model/AddressSpace$Kind"), accessFlags := 16409, slot := 0, constantValue := 0 }, { name := "REGISTER", type := (.object "com/example/tablewright/tablewright/model/AddressSpace$Kind"), accessFlags := 16409, slot := 1, constantValue := 0 }, { name := "CONSTANT", type := (.object "com/example/tablewright/tablewright/model/AddressSpace$Kind"), accessFlags := 16409, slot := 2, constantValue := 0 }, { name := "UNIQUE", type := (.object "com/example/tablewright/tablewright/model/AddressSpace$Kind"), accessFlags := 16409, slot := 3, constantValue := 0 }, { name := "$VALUES", type := (.array (.object "com/example/tablewright/tablewright/model/AddressSpace$Kind")), accessFlags := 4122, slot := 4, constantValue := 0 }]
  methods := #[]
  instanceTypes := #[(.object "java/lang/String"), .int, .int]
  staticTypes := #[(.object "com/example/tablewright/tablewright/model/AddressSpace$Kind"), (.object "com/example/tablewright/tablewright/model/AddressSpace$Kind"), (.object "com/example/tablewright/tablewright/model/AddressSpace$Kind"), (.object "com/example/tablewright/tablewright/model/AddressSpace$Kind"), (.array (.object "com/example/tablewright/tablewright/model/AddressSpace$Kind"))]
  resolved := Array.replicate 60 none
  statics := some 0 }

def pool7 : Array CpInfo := pool [(2, .class_ 4), (1, u "java/lang/CharSequence"), (42, .class_ 48), (0, u "java/lang/CharSequence$1CodePointIterator"), (10, .class_ 60), (0, u "java/lang/CharSequence$1CharIterator"), (5, .class_ 67), (0, u "java/lang/Object")] 63

/-- java/lang/CharSequence -/
def k7 : Class := { plain "java/lang/CharSequence" (some 0) with
  accessFlags := 1537
  interfaces := #[]
  cf := some (fileOf pool7 2 #[.nestMembers #[47, 59]] #[] 1537 66 #[] #[])
  fields := #[]
  methods := #[]
  instanceTypes := #[]
  staticTypes := #[]
  resolved := Array.replicate 131 none
  statics := none }

def pool8 : Array CpInfo := pool [(1, .class_ 2), (0, u "java/lang/constant/ConstantDesc"), (0, .class_ 4), (0, u "java/lang/Object")] 32

/-- java/lang/constant/ConstantDesc -/
def k8 : Class := { plain "java/lang/constant/ConstantDesc" (some 0) with
  accessFlags := 1537
  interfaces := #[]
  cf := some (fileOf pool8 1 #[] #[] 1537 3 #[] #[])
  fields := #[]
  methods := #[]
  instanceTypes := #[]
  staticTypes := #[]
  resolved := Array.replicate 37 none
  statics := none }

def pool9 : Array CpInfo := pool [(1, .methodref 2 3), (0, .class_ 4), (0, .nameAndType 5 6), (0, u "java/lang/Object"), (0, u "<init>"), (0, u "()V"), (2, .fieldref 10 11), (0, .class_ 12), (0, .nameAndType 13 14), (0, u "java/lang/String"), (0, u "value"), (0, u "[B"), (0, .fieldref 10 16), (0, .nameAndType 17 18), (0, u "coder"), (0, u "B"), (2, u "hash"), (0, u "I"), (2, u "hashIsZero"), (0, u "Z"), (11, .fieldref 10 39), (0, .nameAndType 40 26), (0, u "COMPACT_STRINGS"), (12, u "toBytes"), (53, .class_ 109), (1, u "java/lang/StringLatin1"), (99, .methodref 10 210), (0, .nameAndType 5 211), (0, u "([BB)V"), (157, u "(C)Z"), (205, .class_ 576), (0, u "java/lang/CharSequence"), (22, u "CASE_INSENSITIVE_ORDER"), (0, u "Ljava/util/Comparator;"), (181, u "valueOf"), (0, u "(C)Ljava/lang/String;"), (231, .methodref 107 1016), (0, .nameAndType 1017 369), (0, u "canEncode"), (0, .methodref 107 1019), (0, .nameAndType 53 1020), (0, u "(C)[B"), (80, u "serialPersistentFields"), (0, u "[Ljava/io/ObjectStreamField;"), (0, .class_ 1104), (0, u "java/lang/String$CaseInsensitiveComparator"), (1, .class_ 1107), (0, u "java/io/Serializable"), (0, .class_ 1109), (0, u "java/lang/Comparable"), (0, .class_ 1111), (0, u "java/lang/constant/Constable"), (0, .class_ 1113), (0, u "java/lang/constant/ConstantDesc"), (2, u "serialVersionUID"), (0, u "J"), (3, u "REPL"), (0, u "C"), (2, u "LATIN1"), (1, u "UTF16")] 323

def k9m0 : Method := { name := "<init>", desc := "()V", sig := { parameters := [], returnType := none }, accessFlags := 1, code := none }
def k9c1 : Code := { maxStack := 4, maxLocals := 1, code := jdk_42_method_139_code, exceptionTable := #[], attributes := #[] }
def k9m1 : Method := { name := "valueOf", desc := "(C)Ljava/lang/String;", sig := { parameters := [.char], returnType := some (.object "java/lang/String") }, accessFlags := 9, code := some k9c1 }
def k9c2 : Code := { maxStack := 2, maxLocals := 3, code := jdk_42_method_151_code, exceptionTable := #[], attributes := #[] }
def k9m2 : Method := { name := "<init>", desc := "([BB)V", sig := { parameters := [(.array .byte), .byte], returnType := none }, accessFlags := 0, code := some k9c2 }
/-- java/lang/String -/
def k9 : Class := { plain "java/lang/String" (some 0) with
  accessFlags := 49
  interfaces := #[4, 3, 7, 2, 8]
  cf := some (fileOf pool9 10 #[.nestMembers #[1103]] #[{ accessFlags := 1, nameIndex := 5, descriptorIndex := 6, attributes := #[] }, { accessFlags := 9, nameIndex := 782, descriptorIndex := 783, attributes := #[] }, { accessFlags := 0, nameIndex := 5, descriptorIndex := 211, attributes := #[] }] 49 2 #[1106, 1108, 575, 1110, 1112] #[{ accessFlags := 18, nameIndex := 13, descriptorIndex := 14, attributes := #[] }, { accessFlags := 18, nameIndex := 17, descriptorIndex := 18, attributes := #[] }, { accessFlags := 2, nameIndex := 21, descriptorIndex := 22, attributes := #[] }, { accessFlags := 2, nameIndex := 25, descriptorIndex := 26, attributes := #[] }, { accessFlags := 26, nameIndex := 1116, descriptorIndex := 1117, attributes := #[] }, { accessFlags := 24, nameIndex := 40, descriptorIndex := 26, attributes := #[] }, { accessFlags := 26, nameIndex := 1101, descriptorIndex := 1102, attributes := #[] }, { accessFlags := 26, nameIndex := 1121, descriptorIndex := 1122, attributes := #[] }, { accessFlags := 25, nameIndex := 599, descriptorIndex := 600, attributes := #[] }, { accessFlags := 24, nameIndex := 1125, descriptorIndex := 18, attributes := #[] }, { accessFlags := 24, nameIndex := 1127, descriptorIndex := 18, attributes := #[] }])
  fields := #[{ name := "value", type := (.array .byte), accessFlags := 18, slot := 0, constantValue := 0 }, { name := "coder", type := .byte, accessFlags := 18, slot := 1, constantValue := 0 }, { name := "hash", type := .int, accessFlags := 2, slot := 2, constantValue := 0 }, { name := "hashIsZero", type := .boolean, accessFlags := 2, slot := 3, constantValue := 0 }, { name := "serialVersionUID", type := .long, accessFlags := 26, slot := 0, constantValue := 0 }, { name := "COMPACT_STRINGS", type := .boolean, accessFlags := 24, slot := 1, constantValue := 0 }, { name := "serialPersistentFields", type := (.array (.object "java/io/ObjectStreamField")), accessFlags := 26, slot := 2, constantValue := 0 }, { name := "REPL", type := .char, accessFlags := 26, slot := 3, constantValue := 0 }, { name := "CASE_INSENSITIVE_ORDER", type := (.object "java/util/Comparator"), accessFlags := 25, slot := 4, constantValue := 0 }, { name := "LATIN1", type := .byte, accessFlags := 24, slot := 5, constantValue := 0 }, { name := "UTF16", type := .byte, accessFlags := 24, slot := 6, constantValue := 0 }]
  methods := #[k9m0, k9m1, k9m2]
  instanceTypes := #[(.array .byte), .byte, .int, .boolean]
  staticTypes := #[.long, .boolean, (.array (.object "java/io/ObjectStreamField")), .char, (.object "java/util/Comparator"), .byte, .byte]
  resolved := Array.replicate 1451 none
  statics := some 1 }

def pool10 : Array CpInfo := pool [(4, .class_ 6), (1, u "java/lang/Object"), (0, u "<init>"), (0, u "()V"), (5, .class_ 16), (1, u "java/lang/StringLatin1"), (73, u "canEncode"), (14, u "(C)Z"), (15, u "$assertionsDisabled"), (0, u "Z"), (98, .class_ 223), (1, u "java/lang/StringLatin1$LinesSpliterator"), (156, u "toBytes"), (1, u "(C)[B"), (7, .class_ 391), (0, u "java/lang/StringLatin1$CharsSpliterator")] 3

def k10m0 : Method := { name := "<init>", desc := "()V", sig := { parameters := [], returnType := none }, accessFlags := 0, code := none }
def k10c1 : Code := { maxStack := 2, maxLocals := 1, code := jdk_43_method_3_code, exceptionTable := #[], attributes := #[] }
def k10m1 : Method := { name := "canEncode", desc := "(C)Z", sig := { parameters := [.char], returnType := some .boolean }, accessFlags := 9, code := some k10c1 }
def k10c2 : Code := { maxStack := 4, maxLocals := 1, code := jdk_43_method_46_code, exceptionTable := #[], attributes := #[] }
def k10m2 : Method := { name := "toBytes", desc := "(C)[B", sig := { parameters := [.char], returnType := some (.array .byte) }, accessFlags := 9, code := some k10c2 }
/-- java/lang/StringLatin1 -/
def k10 : Class := { plain "java/lang/StringLatin1" (some 0) with
  accessFlags := 48
  interfaces := #[]
  cf := some (fileOf pool10 14 #[.nestMembers #[390, 221]] #[{ accessFlags := 0, nameIndex := 7, descriptorIndex := 8, attributes := #[] }, { accessFlags := 9, nameIndex := 90, descriptorIndex := 105, attributes := #[] }, { accessFlags := 9, nameIndex := 380, descriptorIndex := 382, attributes := #[] }] 48 4 #[] #[{ accessFlags := 4120, nameIndex := 121, descriptorIndex := 122, attributes := #[] }])
  fields := #[{ name := "$assertionsDisabled", type := .boolean, accessFlags := 4120, slot := 0, constantValue := 0 }]
  methods := #[k10m0, k10m1, k10m2]
  instanceTypes := #[]
  staticTypes := #[.boolean]
  resolved := Array.replicate 395 none
  statics := none }

def pool11 : Array CpInfo := pool [(1, .class_ 2), (0, u "com/example/tablewright/tablewright/model/Symbol"), (0, .class_ 4), (0, u "java/lang/Object")] 21

/-- com/example/tablewright/tablewright/model/Symbol -/
def k11 : Class := { plain "com/example/tablewright/tablewright/model/Symbol" (some 0) with
  accessFlags := 1537
  interfaces := #[]
  cf := some (fileOf pool11 1 #[] #[] 1537 3 #[] #[])
  fields := #[]
  methods := #[]
  instanceTypes := #[]
  staticTypes := #[]
  resolved := Array.replicate 26 none
  statics := none }

def pool12 : Array CpInfo := pool [(1, .methodref 2 3), (0, .class_ 4), (0, .nameAndType 5 6), (0, u "java/lang/Object"), (0, u "<init>"), (0, u "()V"), (11, .fieldref 19 20), (0, .class_ 21), (0, .nameAndType 22 23), (0, u "com/example/tablewright/tablewright/model/AddressSpace"), (0, u "name"), (0, u "Ljava/lang/String;"), (0, .fieldref 19 25), (0, .nameAndType 26 27), (0, u "kind"), (0, u "Lcom/example/tablewright/tablewright/model/AddressSpace$Kind;"), (0, .fieldref 19 29), (0, .nameAndType 30 31), (0, u "size"), (0, u "I"), (0, .long 18446744073709551615), (3, .fieldref 19 37), (0, .nameAndType 38 39), (0, u "addressMask"), (0, u "J"), (21, .class_ 63), (1, u "com/example/tablewright/tablewright/model/AddressSpace$Kind"), (0, u "CONSTANT"), (2, u "(Ljava/lang/String;Lcom/example/tablewright/tablewright/model/AddressSpace$Kind;I)V"), (2, u "Lcom/example/tablewright/tablewright/model/AddressSpace;"), (4, u "UNIQUE"), (4, .class_ 81), (0, u "com/example/tablewright/tablewright/model/Symbol"), (5, u "contains"), (0, u "(J)Z")] 25

def k12c0 : Code := { maxStack := 5, maxLocals := 4, code := prog_83_method_1_code, exceptionTable := #[], attributes := #[] }
def k12m0 : Method := { name := "<init>", desc := "(Ljava/lang/String;Lcom/example/tablewright/tablewright/model/AddressSpace$Kind;I)V", sig := { parameters := [(.object "java/lang/String"), (.object "com/example/tablewright/tablewright/model/AddressSpace$Kind"), .int], returnType := none }, accessFlags := 1, code := some k12c0 }
def k12c1 : Code := { maxStack := 6, maxLocals := 3, code := prog_83_method_5_code, exceptionTable := #[], attributes := #[] }
def k12m1 : Method := { name := "contains", desc := "(J)Z", sig := { parameters := [.long], returnType := some .boolean }, accessFlags := 1, code := some k12c1 }
/-- com/example/tablewright/tablewright/model/AddressSpace -/
def k12 : Class := { plain "com/example/tablewright/tablewright/model/AddressSpace" (some 0) with
  accessFlags := 49
  interfaces := #[11]
  cf := some (fileOf pool12 19 #[.nestMembers #[61]] #[{ accessFlags := 1, nameIndex := 5, descriptorIndex := 67, attributes := #[] }, { accessFlags := 1, nameIndex := 87, descriptorIndex := 88, attributes := #[] }] 49 2 #[80] #[{ accessFlags := 25, nameIndex := 64, descriptorIndex := 70, attributes := #[] }, { accessFlags := 25, nameIndex := 75, descriptorIndex := 70, attributes := #[] }, { accessFlags := 18, nameIndex := 22, descriptorIndex := 23, attributes := #[] }, { accessFlags := 18, nameIndex := 26, descriptorIndex := 27, attributes := #[] }, { accessFlags := 18, nameIndex := 30, descriptorIndex := 31, attributes := #[] }, { accessFlags := 18, nameIndex := 38, descriptorIndex := 39, attributes := #[] }])
  fields := #[{ name := "CONSTANT", type := (.object "com/example/tablewright/tablewright/model/AddressSpace"), accessFlags := 25, slot := 0, constantValue := 0 }, { name := "UNIQUE", type := (.object "com/example/tablewright/tablewright/model/AddressSpace"), accessFlags := 25, slot := 1, constantValue := 0 }, { name := "name", type := (.object "java/lang/String"), accessFlags := 18, slot := 0, constantValue := 0 }, { name := "kind", type := (.object "com/example/tablewright/tablewright/model/AddressSpace$Kind"), accessFlags := 18, slot := 1, constantValue := 0 }, { name := "size", type := .int, accessFlags := 18, slot := 2, constantValue := 0 }, { name := "addressMask", type := .long, accessFlags := 18, slot := 3, constantValue := 0 }]
  methods := #[k12m0, k12m1]
  instanceTypes := #[(.object "java/lang/String"), (.object "com/example/tablewright/tablewright/model/AddressSpace$Kind"), .int, .long]
  staticTypes := #[(.object "com/example/tablewright/tablewright/model/AddressSpace"), (.object "com/example/tablewright/tablewright/model/AddressSpace")]
  resolved := Array.replicate 114 none
  statics := none }

def pool13 : Array CpInfo := pool [(2, .class_ 4), (1, u "java/lang/Object"), (0, u "<init>"), (0, u "()V"), (17, .class_ 26), (1, u "jdk/internal/util/Preconditions"), (28, .class_ 56), (0, u "jdk/internal/util/Preconditions$4"), (57, .class_ 115), (0, u "jdk/internal/util/Preconditions$1"), (7, u "SIOOBE_FORMATTER"), (0, u "Ljava/util/function/BiFunction;"), (0, .class_ 126), (0, u "jdk/internal/util/Preconditions$2"), (3, u "AIOOBE_FORMATTER"), (0, .class_ 132), (0, u "jdk/internal/util/Preconditions$3"), (3, u "IOOBE_FORMATTER")] 57

def k13m0 : Method := { name := "<init>", desc := "()V", sig := { parameters := [], returnType := none }, accessFlags := 1, code := none }
/-- jdk/internal/util/Preconditions -/
def k13 : Class := { plain "jdk/internal/util/Preconditions" (some 0) with
  accessFlags := 33
  interfaces := #[]
  cf := some (fileOf pool13 24 #[.nestMembers #[55, 131, 125, 114]] #[{ accessFlags := 1, nameIndex := 5, descriptorIndex := 6, attributes := #[] }] 33 2 #[] #[{ accessFlags := 25, nameIndex := 123, descriptorIndex := 124, attributes := #[] }, { accessFlags := 25, nameIndex := 130, descriptorIndex := 124, attributes := #[] }, { accessFlags := 25, nameIndex := 136, descriptorIndex := 124, attributes := #[] }])
  fields := #[{ name := "SIOOBE_FORMATTER", type := (.object "java/util/function/BiFunction"), accessFlags := 25, slot := 0, constantValue := 0 }, { name := "AIOOBE_FORMATTER", type := (.object "java/util/function/BiFunction"), accessFlags := 25, slot := 1, constantValue := 0 }, { name := "IOOBE_FORMATTER", type := (.object "java/util/function/BiFunction"), accessFlags := 25, slot := 2, constantValue := 0 }]
  methods := #[k13m0]
  instanceTypes := #[]
  staticTypes := #[(.object "java/util/function/BiFunction"), (.object "java/util/function/BiFunction"), (.object "java/util/function/BiFunction")]
  resolved := Array.replicate 194 none
  statics := some 2 }

def pool14 : Array CpInfo := pool [(9, u "<init>"), (6, .class_ 18), (1, u "java/lang/Object"), (0, u "()V"), (1, .class_ 23), (1, u "jdk/internal/util/ArraysSupport"), (0, u "LOG2_ARRAY_LONG_INDEX_SCALE"), (0, u "I"), (2, u "U"), (0, u "Ljdk/internal/misc/Unsafe;"), (8, u "BIG_ENDIAN"), (0, u "Z"), (8, u "LOG2_BYTE_BIT_SIZE"), (4, u "LOG2_ARRAY_INT_INDEX_SCALE"), (54, u "JLA"), (0, u "Ljdk/internal/access/JavaLangAccess;"), (11, u "LOG2_ARRAY_BOOLEAN_INDEX_SCALE"), (9, u "LOG2_ARRAY_BYTE_INDEX_SCALE"), (5, u "LOG2_ARRAY_CHAR_INDEX_SCALE"), (5, u "LOG2_ARRAY_SHORT_INDEX_SCALE"), (18, u "LOG2_ARRAY_FLOAT_INDEX_SCALE"), (24, u "LOG2_ARRAY_DOUBLE_INDEX_SCALE"), (89, u "T_BOOLEAN"), (2, u "T_CHAR"), (1, u "T_FLOAT"), (1, u "T_DOUBLE"), (1, u "T_BYTE"), (1, u "T_SHORT"), (1, u "T_INT"), (1, u "T_LONG"), (1, u "SOFT_MAX_ARRAY_LENGTH")] 83

def k14m0 : Method := { name := "<init>", desc := "()V", sig := { parameters := [], returnType := none }, accessFlags := 2, code := none }
/-- jdk/internal/util/ArraysSupport -/
def k14 : Class := { plain "jdk/internal/util/ArraysSupport" (some 0) with
  accessFlags := 33
  interfaces := #[]
  cf := some (fileOf pool14 21 #[] #[{ accessFlags := 2, nameIndex := 9, descriptorIndex := 19, attributes := #[] }] 33 16 #[] #[{ accessFlags := 24, nameIndex := 28, descriptorIndex := 29, attributes := #[] }, { accessFlags := 26, nameIndex := 38, descriptorIndex := 39, attributes := #[] }, { accessFlags := 25, nameIndex := 121, descriptorIndex := 25, attributes := #[] }, { accessFlags := 25, nameIndex := 131, descriptorIndex := 25, attributes := #[] }, { accessFlags := 25, nameIndex := 137, descriptorIndex := 25, attributes := #[] }, { accessFlags := 25, nameIndex := 143, descriptorIndex := 25, attributes := #[] }, { accessFlags := 25, nameIndex := 53, descriptorIndex := 25, attributes := #[] }, { accessFlags := 25, nameIndex := 24, descriptorIndex := 25, attributes := #[] }, { accessFlags := 25, nameIndex := 162, descriptorIndex := 25, attributes := #[] }, { accessFlags := 25, nameIndex := 187, descriptorIndex := 25, attributes := #[] }, { accessFlags := 26, nameIndex := 48, descriptorIndex := 25, attributes := #[] }, { accessFlags := 25, nameIndex := 277, descriptorIndex := 25, attributes := #[] }, { accessFlags := 25, nameIndex := 280, descriptorIndex := 25, attributes := #[] }, { accessFlags := 25, nameIndex := 282, descriptorIndex := 25, attributes := #[] }, { accessFlags := 25, nameIndex := 284, descriptorIndex := 25, attributes := #[] }, { accessFlags := 25, nameIndex := 286, descriptorIndex := 25, attributes := #[] }, { accessFlags := 25, nameIndex := 288, descriptorIndex := 25, attributes := #[] }, { accessFlags := 25, nameIndex := 290, descriptorIndex := 25, attributes := #[] }, { accessFlags := 25, nameIndex := 292, descriptorIndex := 25, attributes := #[] }, { accessFlags := 26, nameIndex := 108, descriptorIndex := 109, attributes := #[] }, { accessFlags := 25, nameIndex := 294, descriptorIndex := 25, attributes := #[] }])
  fields := #[{ name := "U", type := (.object "jdk/internal/misc/Unsafe"), accessFlags := 24, slot := 0, constantValue := 0 }, { name := "BIG_ENDIAN", type := .boolean, accessFlags := 26, slot := 1, constantValue := 0 }, { name := "LOG2_ARRAY_BOOLEAN_INDEX_SCALE", type := .int, accessFlags := 25, slot := 2, constantValue := 0 }, { name := "LOG2_ARRAY_BYTE_INDEX_SCALE", type := .int, accessFlags := 25, slot := 3, constantValue := 0 }, { name := "LOG2_ARRAY_CHAR_INDEX_SCALE", type := .int, accessFlags := 25, slot := 4, constantValue := 0 }, { name := "LOG2_ARRAY_SHORT_INDEX_SCALE", type := .int, accessFlags := 25, slot := 5, constantValue := 0 }, { name := "LOG2_ARRAY_INT_INDEX_SCALE", type := .int, accessFlags := 25, slot := 6, constantValue := 0 }, { name := "LOG2_ARRAY_LONG_INDEX_SCALE", type := .int, accessFlags := 25, slot := 7, constantValue := 0 }, { name := "LOG2_ARRAY_FLOAT_INDEX_SCALE", type := .int, accessFlags := 25, slot := 8, constantValue := 0 }, { name := "LOG2_ARRAY_DOUBLE_INDEX_SCALE", type := .int, accessFlags := 25, slot := 9, constantValue := 0 }, { name := "LOG2_BYTE_BIT_SIZE", type := .int, accessFlags := 26, slot := 10, constantValue := 0 }, { name := "T_BOOLEAN", type := .int, accessFlags := 25, slot := 11, constantValue := 0 }, { name := "T_CHAR", type := .int, accessFlags := 25, slot := 12, constantValue := 0 }, { name := "T_FLOAT", type := .int, accessFlags := 25, slot := 13, constantValue := 0 }, { name := "T_DOUBLE", type := .int, accessFlags := 25, slot := 14, constantValue := 0 }, { name := "T_BYTE", type := .int, accessFlags := 25, slot := 15, constantValue := 0 }, { name := "T_SHORT", type := .int, accessFlags := 25, slot := 16, constantValue := 0 }, { name := "T_INT", type := .int, accessFlags := 25, slot := 17, constantValue := 0 }, { name := "T_LONG", type := .int, accessFlags := 25, slot := 18, constantValue := 0 }, { name := "JLA", type := (.object "jdk/internal/access/JavaLangAccess"), accessFlags := 26, slot := 19, constantValue := 0 }, { name := "SOFT_MAX_ARRAY_LENGTH", type := .int, accessFlags := 25, slot := 20, constantValue := 0 }]
  methods := #[k14m0]
  instanceTypes := #[]
  staticTypes := #[(.object "jdk/internal/misc/Unsafe"), .boolean, .int, .int, .int, .int, .int, .int, .int, .int, .int, .int, .int, .int, .int, .int, .int, .int, .int, (.object "jdk/internal/access/JavaLangAccess"), .int]
  resolved := Array.replicate 378 none
  statics := none }

def pool15 : Array CpInfo := pool [(1, u "java/lang/Cloneable"), (0, .class_ 1), (0, u "java/lang/Object"), (0, .class_ 3)] 3

/-- java/lang/Cloneable -/
def k15 : Class := { plain "java/lang/Cloneable" (some 0) with
  accessFlags := 1537
  interfaces := #[]
  cf := some (fileOf pool15 2 #[] #[] 1537 4 #[] #[])
  fields := #[]
  methods := #[]
  instanceTypes := #[]
  staticTypes := #[]
  resolved := Array.replicate 8 none
  statics := none }

/-- the primitive byte -/
def k16 : Class := { plain "byte" none with kind := .primitive 'B', accessFlags := 0x411 }
/-- [B -/
def k17 : Class := { plain "[B" (some 0) with kind := .array 16 .byte, interfaces := #[15, 4], accessFlags := 1041 }

/-- the primitive int -/
def k18 : Class := { plain "int" none with kind := .primitive 'I', accessFlags := 0x411 }
/-- [I -/
def k19 : Class := { plain "[I" (some 0) with kind := .array 18 .int, interfaces := #[15, 4], accessFlags := 1041 }

def heap : Heap := #[{ cls := 6, slots := #[.ref 3, .ref 4, .ref 5, .ref 6, .null], vm := .statics 6 },
  { cls := 9, slots := #[.long 0, .int 1, .null, .int 0, .null, .int 0, .int 0], vm := .statics 9 },
  { cls := 13, slots := #[.null, .null, .null], vm := .statics 13 },
  { cls := 6, slots := #[.null, .int 0, .int 0], vm := .none },
  { cls := 6, slots := #[.null, .int 1, .int 0], vm := .none },
  { cls := 6, slots := #[.null, .int 2, .int 0], vm := .none },
  { cls := 6, slots := #[.null, .int 3, .int 0], vm := .none }]
def classes : Array Class := #[k0, k1, k2, k3, k4, k5, k6, k7, k8, k9, k10, k11, k12, k13, k14, k15, k16, k17, k18, k19]
def interned : List (Array UInt16 × Addr) := []
def slotsUsed : Nat := 27
def theMethod : MethodId := ⟨1, 1⟩
def args0 : Array Value := #[.int 5, .int 3, .long 7, .int 3, .int 2, .int 1]
def aboutOver (below : List Frame) : State where
  vm := { classes := classes, interned := interned.toArray }
  heap := heap
  slotsUsed := slotsUsed
  threads := #[{ frames := .invoking theMethod args0 :: below }]
def below0 : List Frame := [.native { method := ⟨0, 0⟩, args := #[] }]
def about1 : State := aboutOver below0
def p0 : Program := .bare "" "" ""
def e0 : Env := launch0.env 0 0 0
theorem w_frames : about1.frames = Frame.invoking theMethod args0 :: below0 := rfl
set_option maxRecDepth 65536 in
theorem w_args : argsFit about1.vm theMethod args0 = true := by decide +kernel
set_option maxRecDepth 65536 in
theorem w_heap : heapFits about1 = true := by decide +kernel
set_option maxRecDepth 65536 in
theorem w_runnable : about1.curStatus? = some .runnable := by decide +kernel
set_option maxRecDepth 65536 in
theorem w_alone : about1.alone = true := by decide +kernel
set_option maxRecDepth 65536 in
theorem w_named : about1.methodNamed? x = some theMethod := by decide +kernel
set_option maxRecDepth 65536 in
theorem w_hears : about1.hears theMethod below0 = true := by decide +kernel
set_option maxRecDepth 65536 in
theorem w_ripe : about1.ripe theMethod args0 below0 = true := by decide +kernel
theorem w_running : about1.status = .running := rfl
set_option maxRecDepth 65536 in
theorem w_room : about1.hasRoom e0.platform room_1 = true :=
  launch0.hasRoom_least _ room_1 (by decide +kernel) (by decide +kernel) (by decide +kernel) (by decide +kernel) (by decide +kernel) (by decide +kernel)
theorem allAtoms_all (ts : List Jvm.Cond) (a : Array Jvm.Value) (st : Jvm.State) : (allAtoms ts).before a st = ts.all (fun c => c.before a st) := by
  induction ts with
  | nil => rfl
  | cons c t ih =>
    show (Jvm.Cond.and c (allAtoms t)).before a st = _
    rw [Jvm.Cond.before_and, ih, List.all_cons]
def words1 : List Jvm.Cond := Jvm.Cond.code x code maxLocals ret :: tables_1
/-- a 'code' word, met by the world's own term for the bytes: nothing is compared byte by byte -/
theorem code_word {y : MethodName} {bytes : ByteArray} {mx : Nat} {rt : Option FieldType} {a : Array Value} {s : State} {m : MethodId} {meth : Method} {c : Code} (h1 : s.methodNamed? y = some m) (h2 : s.vm.method? m = some meth) (h3 : meth.code = some c) (h4 : c.code = bytes)
    (h5 : (c.maxLocals == mx && c.exceptionTable.isEmpty && decide (c.maxStack ≤ mostOperands) && decide (meth.sig.returnType = rt) && !meth.locks && decide (parseMethodDescriptor y.desc = some meth.sig)) = true) : (Jvm.Cond.code y bytes mx rt).before a s = true := by
  simp only [Bool.and_eq_true, beq_iff_eq, Bool.not_eq_true', decide_eq_true_eq] at h5
  obtain ⟨⟨⟨⟨⟨g1, g2⟩, g3⟩, g4⟩, g5⟩, g6⟩ := h5
  simp [Cond.before, Cond.holds, Cond.value, h1, h2, h3, h4, g1, g2, g3, g4, g5, g6]
def isCode : Jvm.Cond → Bool
  | .code _ _ _ _ => true
  | _ => false
theorem all_split {L : List Jvm.Cond} {P : Jvm.Cond → Bool} (h1 : L.all (fun c => isCode c || P c) = true) (h2 : ∀ c ∈ L.filter isCode, P c = true) : L.all P = true := by
  refine List.all_eq_true.mpr fun c hc => ?_
  have h := List.all_eq_true.mp h1 c hc
  rcases Bool.eq_false_or_eq_true (isCode c) with hi | hi
  · exact h2 c (List.mem_filter.mpr ⟨hc, hi⟩)
  · simpa [hi] using h
set_option maxRecDepth 65536 in
theorem w_c0 : (Jvm.Cond.code x code maxLocals ret).before args0 about1 = true := code_word (m := ⟨1, 1⟩) (meth := k1m1) (c := k1c1) (by decide +kernel) rfl rfl rfl (by decide +kernel)
set_option maxRecDepth 65536 in
theorem w_c1 : (Jvm.Cond.code ({ cls := "com/example/tablewright/tablewright/model/AddressSpaceContainsPinLaw", name := "pickKind", desc := "(I)Lcom/example/tablewright/tablewright/model/AddressSpace$Kind;" } : Jvm.MethodName) method_3_code (1 : Nat) (Option.some (Jvm.ClassFile.FieldType.object "com/example/tablewright/tablewright/model/AddressSpace$Kind"))).before args0 about1 = true := code_word (m := ⟨1, 2⟩) (meth := k1m2) (c := k1c2) (by decide +kernel) rfl rfl rfl (by decide +kernel)
set_option maxRecDepth 65536 in
theorem w_c2 : (Jvm.Cond.code ({ cls := "java/lang/String", name := "valueOf", desc := "(C)Ljava/lang/String;" } : Jvm.MethodName) jdk_42_method_139_code (1 : Nat) (Option.some (Jvm.ClassFile.FieldType.object "java/lang/String"))).before args0 about1 = true := code_word (m := ⟨9, 1⟩) (meth := k9m1) (c := k9c1) (by decide +kernel) rfl rfl rfl (by decide +kernel)
set_option maxRecDepth 65536 in
theorem w_c3 : (Jvm.Cond.code ({ cls := "java/lang/StringLatin1", name := "canEncode", desc := "(C)Z" } : Jvm.MethodName) jdk_43_method_3_code (1 : Nat) (Option.some Jvm.ClassFile.FieldType.boolean)).before args0 about1 = true := code_word (m := ⟨10, 1⟩) (meth := k10m1) (c := k10c1) (by decide +kernel) rfl rfl rfl (by decide +kernel)
set_option maxRecDepth 65536 in
theorem w_c4 : (Jvm.Cond.code ({ cls := "java/lang/StringLatin1", name := "toBytes", desc := "(C)[B" } : Jvm.MethodName) jdk_43_method_46_code (1 : Nat) (Option.some (Jvm.ClassFile.FieldType.array Jvm.ClassFile.FieldType.byte))).before args0 about1 = true := code_word (m := ⟨10, 2⟩) (meth := k10m2) (c := k10c2) (by decide +kernel) rfl rfl rfl (by decide +kernel)
set_option maxRecDepth 65536 in
theorem w_c5 : (Jvm.Cond.code ({ cls := "java/lang/String", name := "<init>", desc := "([BB)V" } : Jvm.MethodName) jdk_42_method_151_code (3 : Nat) (Option.none : Option Jvm.ClassFile.FieldType)).before args0 about1 = true := code_word (m := ⟨9, 2⟩) (meth := k9m2) (c := k9c2) (by decide +kernel) rfl rfl rfl (by decide +kernel)
set_option maxRecDepth 65536 in
theorem w_c6 : (Jvm.Cond.code ({ cls := "java/lang/Object", name := "<init>", desc := "()V" } : Jvm.MethodName) object_method_1_code (1 : Nat) (Option.none : Option Jvm.ClassFile.FieldType)).before args0 about1 = true := code_word (m := ⟨0, 0⟩) (meth := k0m0) (c := k0c0) (by decide +kernel) rfl rfl rfl (by decide +kernel)
set_option maxRecDepth 65536 in
theorem w_c7 : (Jvm.Cond.code ({ cls := "com/example/tablewright/tablewright/model/AddressSpaceContainsPinLaw", name := "pickAddress", desc := "(IJII)J" } : Jvm.MethodName) method_4_code (5 : Nat) (Option.some Jvm.ClassFile.FieldType.long)).before args0 about1 = true := code_word (m := ⟨1, 3⟩) (meth := k1m3) (c := k1c3) (by decide +kernel) rfl rfl rfl (by decide +kernel)
set_option maxRecDepth 65536 in
theorem w_c8 : (Jvm.Cond.code ({ cls := "com/example/tablewright/tablewright/model/AddressSpace", name := "<init>", desc := "(Ljava/lang/String;Lcom/example/tablewright/tablewright/model/AddressSpace$Kind;I)V" } : Jvm.MethodName) prog_83_method_1_code (4 : Nat) (Option.none : Option Jvm.ClassFile.FieldType)).before args0 about1 = true := code_word (m := ⟨12, 0⟩) (meth := k12m0) (c := k12c0) (by decide +kernel) rfl rfl rfl (by decide +kernel)
set_option maxRecDepth 65536 in
theorem w_c9 : (Jvm.Cond.code ({ cls := "com/example/tablewright/tablewright/model/AddressSpace", name := "contains", desc := "(J)Z" } : Jvm.MethodName) prog_83_method_5_code (3 : Nat) (Option.some Jvm.ClassFile.FieldType.boolean)).before args0 about1 = true := code_word (m := ⟨12, 1⟩) (meth := k12m1) (c := k12c1) (by decide +kernel) rfl rfl rfl (by decide +kernel)
def codes1 : List Jvm.Cond := [Jvm.Cond.code x code maxLocals ret, Jvm.Cond.code ({ cls := "com/example/tablewright/tablewright/model/AddressSpaceContainsPinLaw", name := "pickKind", desc := "(I)Lcom/example/tablewright/tablewright/model/AddressSpace$Kind;" } : Jvm.MethodName) method_3_code (1 : Nat) (Option.some (Jvm.ClassFile.FieldType.object "com/example/tablewright/tablewright/model/AddressSpace$Kind")), Jvm.Cond.code ({ cls := "java/lang/String", name := "valueOf", desc := "(C)Ljava/lang/String;" } : Jvm.MethodName) jdk_42_method_139_code (1 : Nat) (Option.some (Jvm.ClassFile.FieldType.object "java/lang/String")), Jvm.Cond.code ({ cls := "java/lang/StringLatin1", name := "canEncode", desc := "(C)Z" } : Jvm.MethodName) jdk_43_method_3_code (1 : Nat) (Option.some Jvm.ClassFile.FieldType.boolean), Jvm.Cond.code ({ cls := "java/lang/StringLatin1", name := "toBytes", desc := "(C)[B" } : Jvm.MethodName) jdk_43_method_46_code (1 : Nat) (Option.some (Jvm.ClassFile.FieldType.array Jvm.ClassFile.FieldType.byte)), Jvm.Cond.code ({ cls := "java/lang/String", name := "<init>", desc := "([BB)V" } : Jvm.MethodName) jdk_42_method_151_code (3 : Nat) (Option.none : Option Jvm.ClassFile.FieldType), Jvm.Cond.code ({ cls := "java/lang/Object", name := "<init>", desc := "()V" } : Jvm.MethodName) object_method_1_code (1 : Nat) (Option.none : Option Jvm.ClassFile.FieldType), Jvm.Cond.code ({ cls := "com/example/tablewright/tablewright/model/AddressSpaceContainsPinLaw", name := "pickAddress", desc := "(IJII)J" } : Jvm.MethodName) method_4_code (5 : Nat) (Option.some Jvm.ClassFile.FieldType.long), Jvm.Cond.code ({ cls := "com/example/tablewright/tablewright/model/AddressSpace", name := "<init>", desc := "(Ljava/lang/String;Lcom/example/tablewright/tablewright/model/AddressSpace$Kind;I)V" } : Jvm.MethodName) prog_83_method_1_code (4 : Nat) (Option.none : Option Jvm.ClassFile.FieldType), Jvm.Cond.code ({ cls := "com/example/tablewright/tablewright/model/AddressSpace", name := "contains", desc := "(J)Z" } : Jvm.MethodName) prog_83_method_5_code (3 : Nat) (Option.some Jvm.ClassFile.FieldType.boolean)]
set_option maxRecDepth 65536 in
theorem codes_eq : words1.filter isCode = codes1 := rfl
theorem w_codes : ∀ c ∈ words1.filter isCode, c.before args0 about1 = true := by
  rw [codes_eq]
  intro c hc
  simp only [codes1, List.mem_cons, List.not_mem_nil, or_false] at hc
  rcases hc with rfl | rfl | rfl | rfl | rfl | rfl | rfl | rfl | rfl | rfl
  · exact w_c0
  · exact w_c1
  · exact w_c2
  · exact w_c3
  · exact w_c4
  · exact w_c5
  · exact w_c6
  · exact w_c7
  · exact w_c8
  · exact w_c9
set_option maxRecDepth 65536 in
theorem w_t1 : (words1.take 24).all (fun c => isCode c || c.before args0 about1) = true := by decide +kernel
set_option maxRecDepth 65536 in
theorem w_t2 : ((words1.drop 24).take 24).all (fun c => isCode c || c.before args0 about1) = true := by decide +kernel
set_option maxRecDepth 65536 in
theorem w_t3 : ((words1.drop 24).drop 24).all (fun c => isCode c || c.before args0 about1) = true := by decide +kernel
theorem w_tables : (allAtoms (Jvm.Cond.code x code maxLocals ret :: tables_1)).before args0 about1 = true := by
  rw [allAtoms_all]
  show words1.all (fun c => c.before args0 about1) = true
  refine all_split ?_ w_codes
  rw [← List.take_append_drop 24 words1, List.all_append, w_t1, ← List.take_append_drop 24 (words1.drop 24), List.all_append, w_t2, w_t3]
  rfl
set_option maxRecDepth 65536 in
theorem w_rest : rest_1_c.before args0 about1 = true := by decide +kernel
set_option maxRecDepth 65536 in
theorem w_case : (Jvm.Cond.and given_1 narrow_1).before args0 about1 = true := by decide +kernel
theorem w_applies : (headSpec (Jvm.Cond.code x code maxLocals ret :: tables_1) room_1).applies x e0.platform about1 = true :=
  (Spec.applies_iff w_frames).mpr ⟨w_running, w_runnable, w_alone, w_named, w_hears, w_ripe, w_room, w_tables⟩
theorem atStart : AtStart classFile x code maxLocals ret World_1 tables_1 room_1 Calls_1 rest_1 Pre_1 launch0 p0 e0 about1 theMethod args0 below0 :=
  ⟨lists_1, trivial, launch0.admits_env _ _ _, launch0.least_env, fairChoices_fair.cas, fairChoices_fair.clock, w_frames, w_args, w_heap, w_applies, trivial, w_rest, w_case⟩
end start1
theorem witness_1 : WitnessClaimed_1 := ⟨start1.p0, start1.e0, start1.about1, start1.theMethod, start1.args0, start1.below0, start1.atStart⟩
end Jvm.Pilot.@@N@@
