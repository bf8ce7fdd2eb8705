import JvmDerived
import JvmDerived.Pilot.@@N@@Statement
import JvmDerived.Pilot.@@N@@Code
set_option linter.unusedVariables false
set_option linter.unusedSimpArgs false
@@BLOCK:NumsL.lean.txt@@
namespace Jvm.RoadKit
open Sem ClassFile Op Lib Jvm.Stand Jvm.Free Jvm.LawKit
section New
variable {p : Program} {l : Launch} {e : Env} {R : Room} {s : State} {m : MethodId} {args : Array Value} {below : List Frame} {meth : Method} {c : Code} {T : State} {locs : List Loc} {cells slots : Nat}
theorem retI (X : Stand p l e R s m args below meth c T locs cells slots) (hx : p.tables.exec = Jvm.exec) {pc : Nat} {Ls : Array Slot} {z : Int32} {rest : List Value} (hret : meth.sig.returnType = some .int) (hd : decode c.code pc = .ok (.ireturn, 1)) {fs : List Frame}
    (hl : ∀ (f : JFrame) (acts : List Action), f.method = m → f.locked = none → f.entered = [] → (doReturn e (T.setTop f) acts (some (.int z))).1 = T.setFrames fs) : Steps p.tables e below (T.setTop (mkF m pc Ls (.int z :: rest))) (T.setFrames fs) := by
  have hm' : T.vm.method? m = some meth := X.method'
  have hn : narrow .int (.int z) = .int z := rfl
  show Steps p.tables e below (T.setTop { method := m, pc := pc, locals := Ls, stack := _ :: rest, locked := none }) _
  jvm_step X.here [X.here.top, hx, hd, hm', hret, hn]
  first | (intro acts; rw [hl _ acts rfl rfl rfl]) | rw [hl _ _ rfl rfl rfl]
  exact Steps.refl _
end New
end Jvm.RoadKit
namespace Jvm.Pilot.@@N@@
open Jvm Jvm.ClassFile Sem Op Lib Jvm.Free Jvm.Stand Jvm.LawKit Jvm.RoadKit Bundle Jvm.Pilot.@@N@@.Jvm.D
theorem own_sta {s : State} {args : Array Value} {C n d K : String} (h : (Cond.exactly (Term.static C n d) K).value args s none s [] = some true) (hi : (Cond.initialized C).before args s = true) (hl : (Cond.laysStatic C n d).before args s = true) :
    ∃ a, (Term.static C n d).eval args s none [] s = some (.ref a) ∧ Sta s s.heap C n d (.ref a) ∧ Exa s s.heap a K := by
  obtain ⟨a, ev⟩ := exa_v h
  exact ⟨a, ev, Sta.start ev (Or.inr ⟨hi, hl⟩), Exa.start ev h⟩
theorem own_fld {s : State} {args : Array Value} {t : Term} {a : Addr} {C n d : String} {k : Int32} (ev : t.eval args s none [] s = some (.ref a)) (h : (Cond.eq (Term.field t C n d) (Term.int k)).value args s none s [] = some true) : Fld s s.heap a C n d (.int k) := by
  cases hf : s.fieldOf? a C n d with
  | none => simp [Cond.value, Term.eval, ev, hf] at h
  | some x =>
    cases x with
    | int z => simp [Cond.value, Term.eval, ev, hf] at h; subst h; exact Fld.start hf
    | _ => simp [Cond.value, Term.eval, ev, hf] at h
theorem own_staK {Z : State} {h h' : Heap} {C n d : String} {v : Value} (F : Sta Z h C n d v) (K : Keep h h' []) : Sta Z h' C n d v := by
  obtain ⟨cf, i, k, f, st, cell, h1, h2, h3, h4, h5, h6, h7⟩ := F
  exact ⟨cf, i, k, f, st, cell, h1, h2, h3, h4, K.2.1 st cell h5 nin0, h6, h7⟩
theorem own_keepEq {h h' : Heap} (e : h' = h) (ws : List Addr) : Keep h h' ws := e ▸ Keep.refl h ws
theorem d2_0 : decode jdk_43_method_3_code 0 = .ok (.iload_n 0, 1) := by decide +kernel
theorem d2_1 : decode jdk_43_method_3_code 1 = .ok (.sipush 255, 3) := by decide +kernel
theorem d2_4 : decode jdk_43_method_3_code 4 = .ok (.if_icmp .gt 7, 3) := by decide +kernel
theorem d2_7 : decode jdk_43_method_3_code 7 = .ok (.iconst 1, 1) := by decide +kernel
theorem d2_8 : decode jdk_43_method_3_code 8 = .ok (.goto 4, 3) := by decide +kernel
theorem d2_12 : decode jdk_43_method_3_code 12 = .ok (.ireturn, 1) := by decide +kernel
theorem pn_2 : plainName "java/lang/StringLatin1" = true := by first | (simp [plainName, overriddenIn]; done) | decide +kernel
theorem ef_2 (m : MethodId) (x0 : Int32) : entryFrame m #[(.int x0)] 1 = mkF m 0 #[.val (.int x0)] [] := by first | (simp [entryFrame, mkF, argsToLocals, Value.category]; done) | rfl
def Q2 (Z : State) (p1 : Int32) (h0 : Heap) (n0 : Nat) (v : Option Value) (h : Heap) (L : List Loc) : Prop := v = some (.int (1 : Int32)) ∧ Fr n0 L ∧ h = h0
set_option maxRecDepth 65536 in
set_option maxHeartbeats 40000000 in
theorem rm2 (l : Launch) (Z : State) (a0 : Array Value) (hw : ∀ d ∈ tables_1, d.before a0 Z = true) (ws : List Jvm.Cond) (p1 : Int32) (h0 : Heap) (n0 : Nat) (Z0 : n0 ≤ h0.size) (hc4 : ¬ ((255 : Int32) < p1)) :
    MetFree l (⟨"java/lang/StringLatin1", "canEncode", "(C)Z"⟩ : MethodName) (head1 (Jvm.Cond.code (⟨"java/lang/StringLatin1", "canEncode", "(C)Z"⟩ : MethodName) jdk_43_method_3_code 1 (some .boolean) :: ws) ({ frames := 0, cells := 0, slots := 0, locals := 0 } : Room)) (fun a U => a = #[(.int p1)] ∧ Z.Warmed39 U.vm ∧ U.heap = h0) (fun _ _ _ _ _ => True) (fun _ U o U' => ∃ v L, o = .returned v ∧ Q2 Z p1 h0 n0 v U'.heap L ∧ FrameEnd U o U' L ({ frames := 0, cells := 0, slots := 0, locals := 0 } : Room).cells ({ frames := 0, cells := 0, slots := 0, locals := 0 } : Room).slots) := by
  refine MetFree.of_bodySF (plainFor_of_name pn_2) hisR ?_
  intro p e s m args below meth c s₁ Bd hml0 hP hK
  obtain ⟨rfl, hZ, hh⟩ := hP
  have hx := Bd.exec
  have hby := Bd.bytes
  have hml : c.maxLocals = 1 := hml0
  have hown : s.vm.findClass "java/lang/StringLatin1" = some m.cls := findClass_of_methodNamed Bd.named
  have hnm := (name_of_methodNamed Bd.named Bd.method).1
  have X0 : Stand p l e ({ frames := 0, cells := 0, slots := 0, locals := 0 } : Room) s m #[(.int p1)] below meth c s₁ [] 0 0 := Stand.of_body Bd
  have e0 : s₁.heap = h0 := by rw [← hh, Bd.state]; rfl
  have N0 := Fr.nil n0
  have pre0 : ∀ t, Steps p.tables e below (s₁.setTop (mkF m 0 #[.val (.int p1)] [])) t → Steps p.tables e below (s₁.setTop (entryFrame m #[(.int p1)] 1)) t := fun t k => castTop (ef_2 m p1) k

  obtain ⟨fs, hr, hrun, hended, hW, hsame⟩ := X0.leave (v := some (.int (1 : Int32))) (fun h => by rw [Bd.returns] at h; cases h)
  refine ⟨_, _, pre0 _ ?_, hrun, hended, _, _, rfl, ?_, ⟨_, rfl⟩, hW, hsame.mono (by decide) (by decide)⟩
  · show Steps p.tables e below (s₁.setTop (mkF m 0 #[.val (.int p1)] [])) _
    refine XS.iloadN X0.here hx rfl (hb hby d2_0) rfl ?_
    show Steps p.tables e below (s₁.setTop (mkF m 1 #[.val (.int p1)] [(.int p1)])) _
    refine XS.sipush X0.here hx rfl (hb hby d2_1) ?_
    show Steps p.tables e below (s₁.setTop (mkF m 4 #[.val (.int p1)] [(.int (255 : Int32)), (.int p1)])) _
    refine XS.icmpNo X0.here hx rfl (hb hby d2_4) rfl (flt hc4).2.2.1 ?_
    show Steps p.tables e below (s₁.setTop (mkF m 7 #[.val (.int p1)] [])) _
    refine XS.iconst X0.here hx rfl (hb hby d2_7) ?_
    show Steps p.tables e below (s₁.setTop (mkF m 8 #[.val (.int p1)] [(.int (1 : Int32))])) _
    refine XS.goto X0.here hx rfl (pc0 := 8) (pc' := 12) rfl (hb hby d2_8) (by decide) (by decide) ?_
    show Steps p.tables e below (s₁.setTop (mkF m 12 #[.val (.int p1)] [(.int (1 : Int32))])) _
    exact retN X0 hx (t := .boolean) Bd.returns (by simp) (hb hby d2_12) hr
  · show Q2 Z p1 h0 n0 _ s₁.heap _
    rw [e0]
    exact ⟨rfl, N0, rfl⟩
theorem d3_0 : decode jdk_43_method_46_code 0 = .ok (.iconst 1, 1) := by decide +kernel
theorem d3_1 : decode jdk_43_method_46_code 1 = .ok (.newarray .byte, 2) := by decide +kernel
theorem d3_3 : decode jdk_43_method_46_code 3 = .ok (.dup, 1) := by decide +kernel
theorem d3_4 : decode jdk_43_method_46_code 4 = .ok (.iconst 0, 1) := by decide +kernel
theorem d3_5 : decode jdk_43_method_46_code 5 = .ok (.iload_n 0, 1) := by decide +kernel
theorem d3_6 : decode jdk_43_method_46_code 6 = .ok (.i2b, 1) := by decide +kernel
theorem d3_7 : decode jdk_43_method_46_code 7 = .ok (.bastore, 1) := by decide +kernel
theorem d3_8 : decode jdk_43_method_46_code 8 = .ok (.areturn, 1) := by decide +kernel
theorem pn_3 : plainName "java/lang/StringLatin1" = true := by first | (simp [plainName, overriddenIn]; done) | decide +kernel
theorem ef_3 (m : MethodId) (x0 : Int32) : entryFrame m #[(.int x0)] 1 = mkF m 0 #[.val (.int x0)] [] := by first | (simp [entryFrame, mkF, argsToLocals, Value.category]; done) | rfl
def Q3 (Z : State) (p1 : Int32) (h0 : Heap) (n0 : Nat) (v : Option Value) (h : Heap) (L : List Loc) : Prop := ∃ b, v = some (.ref b) ∧ Fr n0 L ∧ Keep h0 h []
set_option maxRecDepth 65536 in
set_option maxHeartbeats 40000000 in
theorem rm3 (l : Launch) (Z : State) (a0 : Array Value) (hw : ∀ d ∈ tables_1, d.before a0 Z = true) (ws : List Jvm.Cond) (p1 : Int32) (h0 : Heap) (n0 : Nat) (Z0 : n0 ≤ h0.size) :
    MetFree l (⟨"java/lang/StringLatin1", "toBytes", "(C)[B"⟩ : MethodName) (head1 (Jvm.Cond.code (⟨"java/lang/StringLatin1", "toBytes", "(C)[B"⟩ : MethodName) jdk_43_method_46_code 1 (some (.array .byte)) :: ws) ({ frames := 0, cells := 1, slots := 1, locals := 0 } : Room)) (fun a U => a = #[(.int p1)] ∧ Z.Warmed39 U.vm ∧ U.heap = h0) (fun _ _ _ _ _ => True) (fun _ U o U' => ∃ v L, o = .returned v ∧ Q3 Z p1 h0 n0 v U'.heap L ∧ FrameEnd U o U' L ({ frames := 0, cells := 1, slots := 1, locals := 0 } : Room).cells ({ frames := 0, cells := 1, slots := 1, locals := 0 } : Room).slots) := by
  refine MetFree.of_bodySF (plainFor_of_name pn_3) hisR ?_
  intro p e s m args below meth c s₁ Bd hml0 hP hK
  obtain ⟨rfl, hZ, hh⟩ := hP
  have hx := Bd.exec
  have hby := Bd.bytes
  have hml : c.maxLocals = 1 := hml0
  have hown : s.vm.findClass "java/lang/StringLatin1" = some m.cls := findClass_of_methodNamed Bd.named
  have hnm := (name_of_methodNamed Bd.named Bd.method).1
  have X0 : Stand p l e ({ frames := 0, cells := 1, slots := 1, locals := 0 } : Room) s m #[(.int p1)] below meth c s₁ [] 0 0 := Stand.of_body Bd
  have e0 : s₁.heap = h0 := by rw [← hh, Bd.state]; rfl
  have N0 := Fr.nil n0
  have pre0 : ∀ t, Steps p.tables e below (s₁.setTop (mkF m 0 #[.val (.int p1)] [])) t → Steps p.tables e below (s₁.setTop (entryFrame m #[(.int p1)] 1)) t := fun t k => castTop (ef_3 m p1) k
  obtain ⟨T2, h2, k2, X2, e2, E2, A2, st2⟩ := newP X0 hx hZ (hw _ (List.mem_of_getElem? (i := 23) rfl)) e0 (g := (mkF m 1 #[.val (.int p1)] [(.int (1 : Int32))])) rfl (hb hby d3_1) rfl (by decide) (cap := 1) (by decide) (by decide) (by decide) (by decide)
  obtain ⟨b2, g2⟩ : ∃ z, z = h0.size := ⟨_, rfl⟩      -- the fresh array's address
  rw [← g2] at A2 st2
  have V_b2 : Arv Z h2 b2 k2 .byte (1 : Int32) [(.int (0 : Int32))] (.int (0 : Int32)) := (Arv.new A2 (by decide)).pad (pad_rep [] (.int (0 : Int32)) 1)
  have g_b2 : n0 ≤ b2 := Nat.le_trans Z0 (Nat.le_of_eq g2.symm)
  have sz_b2 : h0.size ≤ b2 := (Nat.le_trans (Keep.refl h0 []).1 (Nat.le_of_eq g2.symm))
  have K2 : Keep h0 h2 [] := (Keep.refl h0 []).ext E2
  obtain ⟨cl_b2_7, Ar_b2, q_b2, S_b2, N_b2, H_b2, G_b2⟩ := V_b2      -- open the array's fact as it stands now (its cell, kind, length, elements)
  have hin7 : ¬ ((0 : Int32) < 0 ∨ cl_b2_7.slots.size ≤ ((0 : Int32)).toNatClampNeg) := inb_of S_b2 ⟨by decide, by decide⟩
  obtain ⟨T3, h3, X3, e3, W3, st3⟩ := stB X2 hx hZ e2 Ar_b2 (j := (0 : Int32)) hin7 (g := (mkF m 7 #[.val (.int p1)] [(.int (p1.toInt8.toInt32)), (.int (0 : Int32)), (.ref b2), (.ref b2)])) rfl rfl (hb hby d3_7)
  have V_b2_3 := Arv.set Ar_b2 q_b2 S_b2 N_b2 H_b2 G_b2 (fits_nar_byte _) W3 0 rfl (Nat.le_of_ble_eq_true rfl)      -- the array as it stands now (the place must lie among its first values: Arv.pad with pad_rep lengthens them)
  have K3 : Keep h0 h3 [] := K2.wr W3 (Or.inr sz_b2)
  have N3 := Fr.snoc X3 N0 g_b2
  obtain ⟨fs, hr, hrun, hended, hW, hsame⟩ := X3.leave (v := some (.ref b2)) (fun h => by rw [Bd.returns] at h; cases h)
  refine ⟨_, _, pre0 _ ?_, hrun, hended, _, _, rfl, ?_, ⟨_, rfl⟩, hW, hsame.mono (by decide) (by decide)⟩
  · show Steps p.tables e below (s₁.setTop (mkF m 0 #[.val (.int p1)] [])) _
    refine XS.iconst X0.here hx rfl (hb hby d3_0) ?_
    show Steps p.tables e below (s₁.setTop (mkF m 1 #[.val (.int p1)] [(.int (1 : Int32))])) _
    refine st2 _ ?_
    show Steps p.tables e below (T2.setTop (mkF m 3 #[.val (.int p1)] [(.ref b2)])) _
    refine XS.dup X2.here hx rfl (hb hby d3_3) rfl rfl ?_
    show Steps p.tables e below (T2.setTop (mkF m 4 #[.val (.int p1)] [(.ref b2), (.ref b2)])) _
    refine XS.iconst X2.here hx rfl (hb hby d3_4) ?_
    show Steps p.tables e below (T2.setTop (mkF m 5 #[.val (.int p1)] [(.int (0 : Int32)), (.ref b2), (.ref b2)])) _
    refine XS.iloadN X2.here hx rfl (hb hby d3_5) rfl ?_
    show Steps p.tables e below (T2.setTop (mkF m 6 #[.val (.int p1)] [(.int p1), (.int (0 : Int32)), (.ref b2), (.ref b2)])) _
    refine XS.i2b X2.here hx rfl (hb hby d3_6) rfl ?_
    show Steps p.tables e below (T2.setTop (mkF m 7 #[.val (.int p1)] [(.int (p1.toInt8.toInt32)), (.int (0 : Int32)), (.ref b2), (.ref b2)])) _
    refine st3 _ ?_
    show Steps p.tables e below (T3.setTop (mkF m 8 #[.val (.int p1)] [(.ref b2)])) _
    jvm_step X3.here [X3.here.top, hx, (hb hby d3_8), X3.method', Bd.returns, Value.isRef, FieldType.isReference]
    first | (intro acts; rw [hr _ acts rfl rfl rfl]) | rw [hr _ _ rfl rfl rfl]
    exact Steps.refl _
  · show Q3 Z p1 h0 n0 _ T3.heap _
    rw [e3]
    exact ⟨b2, rfl, N3, K3⟩
theorem d4_0 : decode jdk_42_method_151_code 0 = .ok (.aload_n 0, 1) := by decide +kernel
theorem d4_1 : decode jdk_42_method_151_code 1 = .ok (.invokespecial 1, 3) := by decide +kernel
theorem d4_4 : decode jdk_42_method_151_code 4 = .ok (.aload_n 0, 1) := by decide +kernel
theorem d4_5 : decode jdk_42_method_151_code 5 = .ok (.aload_n 1, 1) := by decide +kernel
theorem d4_6 : decode jdk_42_method_151_code 6 = .ok (.putfield 9, 3) := by decide +kernel
theorem d4_9 : decode jdk_42_method_151_code 9 = .ok (.aload_n 0, 1) := by decide +kernel
theorem d4_10 : decode jdk_42_method_151_code 10 = .ok (.iload_n 2, 1) := by decide +kernel
theorem d4_11 : decode jdk_42_method_151_code 11 = .ok (.putfield 15, 3) := by decide +kernel
theorem d4_14 : decode jdk_42_method_151_code 14 = .ok (.return_, 1) := by decide +kernel
theorem pn_4 : plainName "java/lang/String" = true := by first | (simp [plainName, overriddenIn]; done) | decide +kernel
theorem ef_4 (m : MethodId) (x0 : Addr) (x1 : Addr) (x2 : Int32) : entryFrame m #[(.ref x0), (.ref x1), (.int x2)] 3 = mkF m 0 #[.val (.ref x0), .val (.ref x1), .val (.int x2)] [] := by first | (simp [entryFrame, mkF, argsToLocals, Value.category]; done) | rfl
def Q4 (Z : State) (a1 : Addr) (a2 : Addr) (p3 : Int32) (u_value_a1 : Value) (u_coder_a1 : Value) (h0 : Heap) (n0 : Nat) (v : Option Value) (h : Heap) (L : List Loc) : Prop := v = none ∧ Fr n0 L ∧ Keep h0 h [a1] ∧ Exa Z h a1 "java/lang/String" ∧ Fld Z h a1 "java/lang/String" "value" "[B" (.ref a2)
set_option maxRecDepth 65536 in
set_option maxHeartbeats 40000000 in
theorem rm4 (l : Launch) (Z : State) (a0 : Array Value) (hw : ∀ d ∈ tables_1, d.before a0 Z = true) (ws : List Jvm.Cond) (a1 : Addr) (a2 : Addr) (p3 : Int32) (u_value_a1 : Value) (u_coder_a1 : Value) (h0 : Heap) (n0 : Nat) (Z0 : n0 ≤ h0.size) (E_a1 : Exa Z h0 a1 "java/lang/String") (F_value_a1 : Fld Z h0 a1 "java/lang/String" "value" "[B" u_value_a1) (g_a1 : n0 ≤ a1) (F_coder_a1 : Fld Z h0 a1 "java/lang/String" "coder" "B" u_coder_a1) :
    MetFree l (⟨"java/lang/String", "<init>", "([BB)V"⟩ : MethodName) (head1 (Jvm.Cond.code (⟨"java/lang/String", "<init>", "([BB)V"⟩ : MethodName) jdk_42_method_151_code 3 none :: ws) ({ frames := 1, cells := 0, slots := 0, locals := 12 } : Room)) (fun a U => a = #[(.ref a1), (.ref a2), (.int p3)] ∧ Z.Warmed39 U.vm ∧ U.heap = h0) (fun _ _ _ _ _ => True) (fun _ U o U' => ∃ v L, o = .returned v ∧ Q4 Z a1 a2 p3 u_value_a1 u_coder_a1 h0 n0 v U'.heap L ∧ FrameEnd U o U' L ({ frames := 1, cells := 0, slots := 0, locals := 12 } : Room).cells ({ frames := 1, cells := 0, slots := 0, locals := 12 } : Room).slots) := by
  refine MetFree.of_bodySF (plainFor_of_name pn_4) hisR ?_
  intro p e s m args below meth c s₁ Bd hml0 hP hK
  obtain ⟨rfl, hZ, hh⟩ := hP
  have hx := Bd.exec
  have hby := Bd.bytes
  have hml : c.maxLocals = 3 := hml0
  have hown : s.vm.findClass "java/lang/String" = some m.cls := findClass_of_methodNamed Bd.named
  have hnm := (name_of_methodNamed Bd.named Bd.method).1
  have X0 : Stand p l e ({ frames := 1, cells := 0, slots := 0, locals := 12 } : Room) s m #[(.ref a1), (.ref a2), (.int p3)] below meth c s₁ [] 0 0 := Stand.of_body Bd
  have e0 : s₁.heap = h0 := by rw [← hh, Bd.state]; rfl
  have N0 := Fr.nil n0
  have pre0 : ∀ t, Steps p.tables e below (s₁.setTop (mkF m 0 #[.val (.ref a1), .val (.ref a2), .val (.int p3)] [])) t → Steps p.tables e below (s₁.setTop (entryFrame m #[(.ref a1), (.ref a2), (.int p3)] 3)) t := fun t k => castTop (ef_4 m a1 a2 p3) k
  obtain ⟨T4, X4, e4, st4⟩ := initO X0 hx hZ hown (hw _ (List.mem_of_getElem? (i := 28) rfl)) (hw _ (List.mem_of_getElem? (i := 29) rfl)) (hw _ (List.mem_of_getElem? (i := 30) rfl)) e0 (g := (mkF m 1 #[.val (.ref a1), .val (.ref a2), .val (.int p3)] [(.ref a1)])) rfl (by rw [hml]; rfl) rfl (hb hby d4_1) (by decide) (W := 0) (by show 2 * 0 + _ ≤ _; exact Nat.le_of_eq rfl) (by decide)
  obtain ⟨T5, h5, X5, e5, W5, st5⟩ := putF X4 hx hZ hown (host := "") (Or.inl (hw _ (List.mem_of_getElem? (i := 31) rfl))) Via.refl e4 F_value_a1 E_a1 (Or.inr ⟨(hw _ (List.mem_of_getElem? (i := 32) rfl)), rfl, hnm⟩) (hw _ (List.mem_of_getElem? (i := 19) rfl)) (ty := (.array .byte)) (by decide) rfl rfl (g := (mkF m 6 #[.val (.ref a1), .val (.ref a2), .val (.int p3)] [(.ref a2), (.ref a1)])) rfl rfl (hb hby d4_6)
  have Fw5 := F_value_a1.same W5      -- the field now holds (.ref a2)
  have K5 : Keep h0 h5 [a1] := (Keep.refl h0 [a1]).wr W5 (Or.inl (List.mem_of_getElem? (i := 0) rfl))
  have N5 := Fr.snoc X5 N0 g_a1
  obtain ⟨T6, h6, X6, e6, W6, st6⟩ := putFN X5 hx hZ hown (hw _ (List.mem_of_getElem? (i := 33) rfl)) Via.refl e5 (F_coder_a1.other W5 (Or.inr (slot_ne (Or.inr (hw _ (List.mem_of_getElem? (i := 34) rfl))) (Or.inr (hw _ (List.mem_of_getElem? (i := 32) rfl))) (by decide) (t := .byte) (t' := (.array .byte)) (by decide) (by decide)))) (E_a1.wr W5) (Or.inr ⟨(hw _ (List.mem_of_getElem? (i := 34) rfl)), rfl, hnm⟩) (hw _ (List.mem_of_getElem? (i := 19) rfl)) (ty := .byte) (v' := .int p3.toInt8.toInt32) (by decide) rfl (fits_nar_byte _) (g := (mkF m 11 #[.val (.ref a1), .val (.ref a2), .val (.int p3)] [(.int p3), (.ref a1)])) rfl rfl (hb hby d4_11)
  have Fw6 := (F_coder_a1.other W5 (Or.inr (slot_ne (Or.inr (hw _ (List.mem_of_getElem? (i := 34) rfl))) (Or.inr (hw _ (List.mem_of_getElem? (i := 32) rfl))) (by decide) (t := .byte) (t' := (.array .byte)) (by decide) (by decide)))).same W6      -- the field now holds (.int p3)
  have K6 : Keep h0 h6 [a1] := K5.wr W6 (Or.inl (List.mem_of_getElem? (i := 0) rfl))
  have N6 := Fr.snoc X6 N5 g_a1
  obtain ⟨fs, hr, hrun, hended, hW, hsame⟩ := X6.leave (v := none) (fun _ => rfl)
  refine ⟨_, _, pre0 _ ?_, hrun, hended, _, _, rfl, ?_, ⟨_, rfl⟩, hW, hsame.mono (by decide) (by decide)⟩
  · show Steps p.tables e below (s₁.setTop (mkF m 0 #[.val (.ref a1), .val (.ref a2), .val (.int p3)] [])) _
    refine XS.aloadN X0.here hx rfl (hb hby d4_0) rfl rfl ?_
    show Steps p.tables e below (s₁.setTop (mkF m 1 #[.val (.ref a1), .val (.ref a2), .val (.int p3)] [(.ref a1)])) _
    refine st4 _ ?_
    show Steps p.tables e below (T4.setTop (mkF m 4 #[.val (.ref a1), .val (.ref a2), .val (.int p3)] [])) _
    refine XS.aloadN X4.here hx rfl (hb hby d4_4) rfl rfl ?_
    show Steps p.tables e below (T4.setTop (mkF m 5 #[.val (.ref a1), .val (.ref a2), .val (.int p3)] [(.ref a1)])) _
    refine XS.aloadN X4.here hx rfl (hb hby d4_5) rfl rfl ?_
    show Steps p.tables e below (T4.setTop (mkF m 6 #[.val (.ref a1), .val (.ref a2), .val (.int p3)] [(.ref a2), (.ref a1)])) _
    refine st5 _ ?_
    show Steps p.tables e below (T5.setTop (mkF m 9 #[.val (.ref a1), .val (.ref a2), .val (.int p3)] [])) _
    refine XS.aloadN X5.here hx rfl (hb hby d4_9) rfl rfl ?_
    show Steps p.tables e below (T5.setTop (mkF m 10 #[.val (.ref a1), .val (.ref a2), .val (.int p3)] [(.ref a1)])) _
    refine XS.iloadN X5.here hx rfl (hb hby d4_10) rfl ?_
    show Steps p.tables e below (T5.setTop (mkF m 11 #[.val (.ref a1), .val (.ref a2), .val (.int p3)] [(.int p3), (.ref a1)])) _
    refine st6 _ ?_
    show Steps p.tables e below (T6.setTop (mkF m 14 #[.val (.ref a1), .val (.ref a2), .val (.int p3)] [])) _
    exact X6.returnOut hx Bd.returns (hb hby d4_14) hr
  · show Q4 Z a1 a2 p3 u_value_a1 u_coder_a1 h0 n0 _ T6.heap _
    rw [e6]
    exact ⟨rfl, N6, K6, ((E_a1.wr W5).wr W6), (Fw5.other W6 (Or.inr (slot_ne (Or.inr (hw _ (List.mem_of_getElem? (i := 32) rfl))) (Or.inr (hw _ (List.mem_of_getElem? (i := 34) rfl))) (by decide) (t := (.array .byte)) (t' := .byte) (by decide) (by decide))))⟩
theorem d1_0 : decode jdk_42_method_139_code 0 = .ok (.getstatic 38, 3) := by decide +kernel
theorem d1_3 : decode jdk_42_method_139_code 3 = .ok (.ifCond .eq 23, 3) := by decide +kernel
theorem d1_6 : decode jdk_42_method_139_code 6 = .ok (.iload_n 0, 1) := by decide +kernel
theorem d1_7 : decode jdk_42_method_139_code 7 = .ok (.invokestatic 1015, 3) := by decide +kernel
theorem d1_10 : decode jdk_42_method_139_code 10 = .ok (.ifCond .eq 16, 3) := by decide +kernel
theorem d1_13 : decode jdk_42_method_139_code 13 = .ok (.new 10, 3) := by decide +kernel
theorem d1_16 : decode jdk_42_method_139_code 16 = .ok (.dup, 1) := by decide +kernel
theorem d1_17 : decode jdk_42_method_139_code 17 = .ok (.iload_n 0, 1) := by decide +kernel
theorem d1_18 : decode jdk_42_method_139_code 18 = .ok (.invokestatic 1018, 3) := by decide +kernel
theorem d1_21 : decode jdk_42_method_139_code 21 = .ok (.iconst 0, 1) := by decide +kernel
theorem d1_22 : decode jdk_42_method_139_code 22 = .ok (.invokespecial 209, 3) := by decide +kernel
theorem d1_25 : decode jdk_42_method_139_code 25 = .ok (.areturn, 1) := by decide +kernel
theorem pn_1 : plainName "java/lang/String" = true := by first | (simp [plainName, overriddenIn]; done) | decide +kernel
theorem pd_1_1 : parseMethodDescriptor "(C)Z" = some ⟨[.char], some .boolean⟩ := by decide +kernel
theorem pd_1_2 : parseMethodDescriptor "(C)[B" = some ⟨[.char], some (.array .byte)⟩ := by decide +kernel
theorem pd_1_3 : parseMethodDescriptor "([BB)V" = some ⟨[(.array .byte), .byte], none⟩ := by decide +kernel
theorem ef_1 (m : MethodId) (x0 : Int32) : entryFrame m #[(.int x0)] 1 = mkF m 0 #[.val (.int x0)] [] := by first | (simp [entryFrame, mkF, argsToLocals, Value.category]; done) | rfl
def Q1 (Z : State) (p1 : Int32) (w2 : Int32) (h0 : Heap) (n0 : Nat) (v : Option Value) (h : Heap) (L : List Loc) : Prop := ∃ b, v = some (.ref b) ∧ Fr n0 L ∧ Keep h0 h []
set_option maxRecDepth 65536 in
set_option maxHeartbeats 40000000 in
theorem rm1 (l : Launch) (Z : State) (a0 : Array Value) (hw : ∀ d ∈ tables_1, d.before a0 Z = true) (ws : List Jvm.Cond) (p1 : Int32) (w2 : Int32) (h0 : Heap) (n0 : Nat) (Z0 : n0 ≤ h0.size) (S_COMPACT_STRINGS : Sta Z h0 "java/lang/String" "COMPACT_STRINGS" "Z" (.int w2)) (hc3 : ¬ (w2 = (0 : Int32))) (hch : ¬ ((255 : Int32) < p1)) :
    MetFree l (⟨"java/lang/String", "valueOf", "(C)Ljava/lang/String;"⟩ : MethodName) (head1 (Jvm.Cond.code (⟨"java/lang/String", "valueOf", "(C)Ljava/lang/String;"⟩ : MethodName) jdk_42_method_139_code 1 (some (.object "java/lang/String")) :: ws) ({ frames := 2, cells := 2, slots := 5, locals := 27 } : Room)) (fun a U => a = #[(.int p1)] ∧ Z.Warmed39 U.vm ∧ U.heap = h0) (fun _ _ _ _ _ => True) (fun _ U o U' => ∃ v L, o = .returned v ∧ Q1 Z p1 w2 h0 n0 v U'.heap L ∧ FrameEnd U o U' L ({ frames := 2, cells := 2, slots := 5, locals := 27 } : Room).cells ({ frames := 2, cells := 2, slots := 5, locals := 27 } : Room).slots) := by
  refine MetFree.of_bodySF (plainFor_of_name pn_1) hisR ?_
  intro p e s m args below meth c s₁ Bd hml0 hP hK
  obtain ⟨rfl, hZ, hh⟩ := hP
  have hx := Bd.exec
  have hby := Bd.bytes
  have hml : c.maxLocals = 1 := hml0
  have hown : s.vm.findClass "java/lang/String" = some m.cls := findClass_of_methodNamed Bd.named
  have hnm := (name_of_methodNamed Bd.named Bd.method).1
  have X0 : Stand p l e ({ frames := 2, cells := 2, slots := 5, locals := 27 } : Room) s m #[(.int p1)] below meth c s₁ [] 0 0 := Stand.of_body Bd
  have e0 : s₁.heap = h0 := by rw [← hh, Bd.state]; rfl
  have N0 := Fr.nil n0
  have pre0 : ∀ t, Steps p.tables e below (s₁.setTop (mkF m 0 #[.val (.int p1)] [])) t → Steps p.tables e below (s₁.setTop (entryFrame m #[(.int p1)] 1)) t := fun t k => castTop (ef_1 m p1) k
  obtain ⟨T3, X3, e3, st3⟩ := getS2 X0 hx hZ hown (host := "") (Or.inl (hw _ (List.mem_of_getElem? (i := 13) rfl))) Via.refl e0 S_COMPACT_STRINGS (g := (mkF m 0 #[.val (.int p1)] [])) rfl (hb hby d1_0)
  obtain ⟨_, _, ⟨T4, L4, k4, n4⟩, -, X4, ⟨Lc4, hQ4, l4, y4, z4⟩, st4⟩ := Jvm.LawKit.callS X3 hx (y := (⟨"java/lang/StringLatin1", "canEncode", "(C)Z"⟩ : MethodName)) hown (mvT hZ (hw _ (List.mem_of_getElem? (i := 14) rfl))) (mvT hZ (hw _ (List.mem_of_getElem? (i := 15) rfl))) (mvT hZ (hw _ (List.mem_of_getElem? (i := 16) rfl))) (mvT hZ (hw _ (List.mem_of_getElem? (i := 17) rfl))) (by decide) (backOf (W := 0) (rm2 l Z a0 hw [] p1 h0 n0 Z0 hch) hZ (hw _ (List.mem_of_getElem? (i := 17) rfl)) (hw _ (List.mem_of_getElem? (i := 16) rfl)) (by decide) (by decide)) (g := (mkF m 7 #[.val (.int p1)] [(.int p1)])) rfl (by rw [hml]; rfl) (argsL := [(.int p1)]) (rest := []) (lenOf pd_1_1 rfl) rfl (by show 2 * 0 + _ ≤ _; exact Nat.le_of_eq rfl) (hb hby d1_7) (fun _ _ => ⟨rfl, e3, (Nat.le_of_ble_eq_true rfl), (Nat.le_of_ble_eq_true rfl)⟩)
  dsimp only [Pt.U, Pt.locs, Pt.cells, Pt.slots] at X4 l4 y4 z4 st4 hQ4
  subst l4 y4 z4
  obtain ⟨rfl, N4q, e4⟩ := hQ4
  have K4 : ∀ ws, Keep h0 T4.heap ws := own_keepEq e4
  have N4 := Fr.app N0 N4q
  obtain ⟨T5, h5, X5, e5, E5, A5, D5, -, st5⟩ := newO X4 hx hZ hown (hw _ (List.mem_of_getElem? (i := 18) rfl)) (hw _ (List.mem_of_getElem? (i := 19) rfl)) (hw _ (List.mem_of_getElem? (i := 11) rfl)) rfl (g := (mkF m 13 #[.val (.int p1)] [])) rfl (hb hby d1_13) (by decide) (by decide)
  obtain ⟨b5, g5⟩ : ∃ z, z = T4.heap.size := ⟨_, rfl⟩      -- the fresh object's address
  rw [← g5] at A5 D5 st5      -- A5 : Exa Z h5 b5 "java/lang/String"; E5 : Ext T4.heap h5 (carries every older fact: .ext E5)
  have F_value_b5 : Fld Z h5 b5 "java/lang/String" "value" "[B" .null := D5 (Or.inr (hw _ (List.mem_of_getElem? (i := 32) rfl))) (ty := (.array .byte)) (by decide)
  have F_coder_b5 : Fld Z h5 b5 "java/lang/String" "coder" "B" (.int (0 : Int32)) := D5 (Or.inr (hw _ (List.mem_of_getElem? (i := 34) rfl))) (ty := .byte) (by decide)
  have E_b5 := A5
  have g_b5 : n0 ≤ b5 := Nat.le_trans (Nat.le_trans Z0 (K4 []).1) (Nat.le_of_eq g5.symm)
  have sz_b5 : h0.size ≤ b5 := (Nat.le_trans (K4 []).1 (Nat.le_of_eq g5.symm))
  have K5 : Keep h0 h5 [] := (K4 []).ext E5
  obtain ⟨_, _, ⟨T6, L6, k6, n6⟩, -, X6, ⟨Lc6, hQ6, l6, y6, z6⟩, st6⟩ := Jvm.LawKit.callS X5 hx (y := (⟨"java/lang/StringLatin1", "toBytes", "(C)[B"⟩ : MethodName)) hown (mvT hZ (hw _ (List.mem_of_getElem? (i := 20) rfl))) (mvT hZ (hw _ (List.mem_of_getElem? (i := 21) rfl))) (mvT hZ (hw _ (List.mem_of_getElem? (i := 16) rfl))) (mvT hZ (hw _ (List.mem_of_getElem? (i := 22) rfl))) (by decide) (backOf (W := 2) (rm3 l Z a0 hw [] p1 h5 n0 (Nat.le_trans Z0 K5.1)) hZ (hw _ (List.mem_of_getElem? (i := 22) rfl)) (hw _ (List.mem_of_getElem? (i := 16) rfl)) (by decide) (by decide)) (g := (mkF m 18 #[.val (.int p1)] [(.int p1), (.ref b5), (.ref b5)])) rfl (by rw [hml]; rfl) (argsL := [(.int p1)]) (rest := [(.ref b5), (.ref b5)]) (lenOf pd_1_2 rfl) rfl (by show 2 * 0 + _ ≤ _; exact Nat.le_of_eq rfl) (hb hby d1_18) (fun _ _ => ⟨rfl, e5, (Nat.le_of_ble_eq_true rfl), (Nat.le_of_ble_eq_true rfl)⟩)
  dsimp only [Pt.U, Pt.locs, Pt.cells, Pt.slots] at X6 l6 y6 z6 st6 hQ6
  subst l6 y6 z6
  obtain ⟨c6, rfl, N6q, K6⟩ := hQ6
  have N6 := Fr.app N4 N6q
  obtain ⟨_, _, ⟨T7, L7, k7, n7⟩, -, X7, ⟨Lc7, hQ7, l7, y7, z7⟩, st7⟩ := X6.specialBack hx (y := (⟨"java/lang/String", "<init>", "([BB)V"⟩ : MethodName)) rfl hown (mvT hZ (hw _ (List.mem_of_getElem? (i := 24) rfl))) (mvT hZ (hw _ (List.mem_of_getElem? (i := 25) rfl))) (mvT hZ (hw _ (List.mem_of_getElem? (i := 27) rfl))) (by decide) (backOf (W := 1) (rm4 l Z a0 hw [] b5 c6 (0 : Int32) _ _ T6.heap n0 (Nat.le_trans (Nat.le_trans Z0 K5.1) K6.1) (E_b5.keep K6) (F_value_b5.keep K6 nin0) g_b5 (F_coder_b5.keep K6 nin0)) hZ (hw _ (List.mem_of_getElem? (i := 27) rfl)) (hw _ (List.mem_of_getElem? (i := 11) rfl)) (by decide) (by decide)) (g := (mkF m 22 #[.val (.int p1)] [(.int (0 : Int32)), (.ref c6), (.ref b5), (.ref b5)])) rfl (by rw [hml]; rfl) (Steps.refl _) (a := b5) (argsL := [(.ref c6), (.int (0 : Int32))]) (rest := [(.ref b5)]) (lenOf pd_1_3 rfl) rfl (by show 2 * 0 + _ ≤ _; exact Nat.le_of_eq rfl) (hb hby d1_22) (fun _ _ => ⟨rfl, rfl, (Nat.le_of_ble_eq_true rfl), (Nat.le_of_ble_eq_true rfl)⟩)
  dsimp only [Pt.U, Pt.locs, Pt.cells, Pt.slots] at X7 l7 y7 z7 st7 hQ7
  subst l7 y7 z7
  obtain ⟨rfl, N7q, K7, -⟩ := hQ7
  have N7 := Fr.app N6 N7q
  obtain ⟨fs, hr, hrun, hended, hW, hsame⟩ := X7.leave (v := some (.ref b5)) (fun h => by rw [Bd.returns] at h; cases h)
  refine ⟨_, _, pre0 _ ?_, hrun, hended, _, _, rfl, ?_, ⟨_, rfl⟩, hW, hsame.mono (by decide) (by decide)⟩
  · show Steps p.tables e below (s₁.setTop (mkF m 0 #[.val (.int p1)] [])) _
    refine st3 _ ?_
    show Steps p.tables e below (T3.setTop (mkF m 3 #[.val (.int p1)] [(.int w2)])) _
    refine XS.ifNo X3.here hx rfl (hb hby d1_3) rfl ((if0 _ _).trans (feq hc3).1) ?_
    show Steps p.tables e below (T3.setTop (mkF m 6 #[.val (.int p1)] [])) _
    refine XS.iloadN X3.here hx rfl (hb hby d1_6) rfl ?_
    show Steps p.tables e below (T3.setTop (mkF m 7 #[.val (.int p1)] [(.int p1)])) _
    refine st4 _ ?_
    show Steps p.tables e below (T4.setTop (mkF m 10 #[.val (.int p1)] [(.int (1 : Int32))])) _
    refine XS.ifNo X4.here hx rfl (hb hby d1_10) rfl ((if0 _ _).trans (feq (by decide : ¬ ((1 : Int32) = (0 : Int32)))).1) ?_
    show Steps p.tables e below (T4.setTop (mkF m 13 #[.val (.int p1)] [])) _
    refine st5 _ ?_
    show Steps p.tables e below (T5.setTop (mkF m 16 #[.val (.int p1)] [(.ref b5)])) _
    refine XS.dup X5.here hx rfl (hb hby d1_16) rfl rfl ?_
    show Steps p.tables e below (T5.setTop (mkF m 17 #[.val (.int p1)] [(.ref b5), (.ref b5)])) _
    refine XS.iloadN X5.here hx rfl (hb hby d1_17) rfl ?_
    show Steps p.tables e below (T5.setTop (mkF m 18 #[.val (.int p1)] [(.int p1), (.ref b5), (.ref b5)])) _
    refine st6 _ ?_
    show Steps p.tables e below (T6.setTop (mkF m 21 #[.val (.int p1)] [(.ref c6), (.ref b5), (.ref b5)])) _
    refine XS.iconst X6.here hx rfl (hb hby d1_21) ?_
    show Steps p.tables e below (T6.setTop (mkF m 22 #[.val (.int p1)] [(.int (0 : Int32)), (.ref c6), (.ref b5), (.ref b5)])) _
    refine st7.trans ?_
    show Steps p.tables e below (T7.setTop (mkF m 25 #[.val (.int p1)] [(.ref b5)])) _
    jvm_step X7.here [X7.here.top, hx, (hb hby d1_25), X7.method', Bd.returns, Value.isRef, FieldType.isReference]
    first | (intro acts; rw [hr _ acts rfl rfl rfl]) | rw [hr _ _ rfl rfl rfl]
    exact Steps.refl _
  · show Q1 Z p1 w2 h0 n0 _ T7.heap _
    exact ⟨b5, rfl, N7, (K5.trans K6 all0).trans K7 (allS (Or.inr sz_b5) all0)⟩
theorem d7_0 : decode jdk_30_method_1_code 0 = .ok (.aload_n 0, 1) := by decide +kernel
theorem d7_1 : decode jdk_30_method_1_code 1 = .ok (.invokespecial 1, 3) := by decide +kernel
theorem d7_4 : decode jdk_30_method_1_code 4 = .ok (.return_, 1) := by decide +kernel
theorem pn_7 : plainName "java/lang/Record" = true := by first | (simp [plainName, overriddenIn]; done) | decide +kernel
theorem ef_7 (m : MethodId) (x0 : Addr) : entryFrame m #[(.ref x0)] 1 = mkF m 0 #[.val (.ref x0)] [] := by first | (simp [entryFrame, mkF, argsToLocals, Value.category]; done) | rfl
def Q7 (Z : State) (a1 : Addr) (h0 : Heap) (n0 : Nat) (v : Option Value) (h : Heap) (L : List Loc) : Prop := v = none ∧ Fr n0 L ∧ h = h0
set_option maxRecDepth 65536 in
set_option maxHeartbeats 40000000 in
theorem rm7 (l : Launch) (Z : State) (a0 : Array Value) (hw : ∀ d ∈ tables_1, d.before a0 Z = true) (ws : List Jvm.Cond) (a1 : Addr) (h0 : Heap) (n0 : Nat) (Z0 : n0 ≤ h0.size) :
    MetFree l (⟨"java/lang/Record", "<init>", "()V"⟩ : MethodName) (head1 (Jvm.Cond.code (⟨"java/lang/Record", "<init>", "()V"⟩ : MethodName) jdk_30_method_1_code 1 none :: ws) ({ frames := 1, cells := 0, slots := 0, locals := 12 } : Room)) (fun a U => a = #[(.ref a1)] ∧ Z.Warmed39 U.vm ∧ U.heap = h0) (fun _ _ _ _ _ => True) (fun _ U o U' => ∃ v L, o = .returned v ∧ Q7 Z a1 h0 n0 v U'.heap L ∧ FrameEnd U o U' L ({ frames := 1, cells := 0, slots := 0, locals := 12 } : Room).cells ({ frames := 1, cells := 0, slots := 0, locals := 12 } : Room).slots) := by
  refine MetFree.of_bodySF (plainFor_of_name pn_7) hisR ?_
  intro p e s m args below meth c s₁ Bd hml0 hP hK
  obtain ⟨rfl, hZ, hh⟩ := hP
  have hx := Bd.exec
  have hby := Bd.bytes
  have hml : c.maxLocals = 1 := hml0
  have hown : s.vm.findClass "java/lang/Record" = some m.cls := findClass_of_methodNamed Bd.named
  have hnm := (name_of_methodNamed Bd.named Bd.method).1
  have X0 : Stand p l e ({ frames := 1, cells := 0, slots := 0, locals := 12 } : Room) s m #[(.ref a1)] below meth c s₁ [] 0 0 := Stand.of_body Bd
  have e0 : s₁.heap = h0 := by rw [← hh, Bd.state]; rfl
  have N0 := Fr.nil n0
  have pre0 : ∀ t, Steps p.tables e below (s₁.setTop (mkF m 0 #[.val (.ref a1)] [])) t → Steps p.tables e below (s₁.setTop (entryFrame m #[(.ref a1)] 1)) t := fun t k => castTop (ef_7 m a1) k
  obtain ⟨T2, X2, e2, st2⟩ := initO X0 hx hZ hown (hw _ (List.mem_of_getElem? (i := 43) rfl)) (hw _ (List.mem_of_getElem? (i := 29) rfl)) (hw _ (List.mem_of_getElem? (i := 30) rfl)) e0 (g := (mkF m 1 #[.val (.ref a1)] [(.ref a1)])) rfl (by rw [hml]; rfl) rfl (hb hby d7_1) (by decide) (W := 0) (by show 2 * 0 + _ ≤ _; exact Nat.le_of_eq rfl) (by decide)
  obtain ⟨fs, hr, hrun, hended, hW, hsame⟩ := X2.leave (v := none) (fun _ => rfl)
  refine ⟨_, _, pre0 _ ?_, hrun, hended, _, _, rfl, ?_, ⟨_, rfl⟩, hW, hsame.mono (by decide) (by decide)⟩
  · show Steps p.tables e below (s₁.setTop (mkF m 0 #[.val (.ref a1)] [])) _
    refine XS.aloadN X0.here hx rfl (hb hby d7_0) rfl rfl ?_
    show Steps p.tables e below (s₁.setTop (mkF m 1 #[.val (.ref a1)] [(.ref a1)])) _
    refine st2 _ ?_
    show Steps p.tables e below (T2.setTop (mkF m 4 #[.val (.ref a1)] [])) _
    exact X2.returnOut hx Bd.returns (hb hby d7_4) hr
  · show Q7 Z a1 h0 n0 _ T2.heap _
    rw [e2]
    exact ⟨rfl, N0, rfl⟩
theorem d6_0 : decode prog_36_method_1_code 0 = .ok (.aload_n 0, 1) := by decide +kernel
theorem d6_1 : decode prog_36_method_1_code 1 = .ok (.invokespecial 1, 3) := by decide +kernel
theorem d6_4 : decode prog_36_method_1_code 4 = .ok (.aload_n 0, 1) := by decide +kernel
theorem d6_5 : decode prog_36_method_1_code 5 = .ok (.aload_n 1, 1) := by decide +kernel
theorem d6_6 : decode prog_36_method_1_code 6 = .ok (.putfield 7, 3) := by decide +kernel
theorem d6_9 : decode prog_36_method_1_code 9 = .ok (.aload_n 0, 1) := by decide +kernel
theorem d6_10 : decode prog_36_method_1_code 10 = .ok (.iload_n 2, 1) := by decide +kernel
theorem d6_11 : decode prog_36_method_1_code 11 = .ok (.putfield 13, 3) := by decide +kernel
theorem d6_14 : decode prog_36_method_1_code 14 = .ok (.return_, 1) := by decide +kernel
theorem pn_6 : plainName "com/example/seula/seula/HeadLine" = true := by first | (simp [plainName, overriddenIn]; done) | decide +kernel
theorem pd_6_4 : parseMethodDescriptor "()V" = some ⟨[], none⟩ := by decide +kernel
theorem ef_6 (m : MethodId) (x0 : Addr) (x1 : Addr) (x2 : Int32) : entryFrame m #[(.ref x0), (.ref x1), (.int x2)] 3 = mkF m 0 #[.val (.ref x0), .val (.ref x1), .val (.int x2)] [] := by first | (simp [entryFrame, mkF, argsToLocals, Value.category]; done) | rfl
def Q6 (Z : State) (a1 : Addr) (a2 : Addr) (p3 : Int32) (u_text_a1 : Value) (u_end_a1 : Value) (h0 : Heap) (n0 : Nat) (v : Option Value) (h : Heap) (L : List Loc) : Prop := v = none ∧ Fr n0 L ∧ Keep h0 h [a1] ∧ Exa Z h a1 "com/example/seula/seula/HeadLine" ∧ Fld Z h a1 "com/example/seula/seula/HeadLine" "end" "I" (.int p3)
set_option maxRecDepth 65536 in
set_option maxHeartbeats 40000000 in
theorem rm6 (l : Launch) (Z : State) (a0 : Array Value) (hw : ∀ d ∈ tables_1, d.before a0 Z = true) (ws : List Jvm.Cond) (a1 : Addr) (a2 : Addr) (p3 : Int32) (u_text_a1 : Value) (u_end_a1 : Value) (h0 : Heap) (n0 : Nat) (Z0 : n0 ≤ h0.size) (E_a1 : Exa Z h0 a1 "com/example/seula/seula/HeadLine") (F_text_a1 : Fld Z h0 a1 "com/example/seula/seula/HeadLine" "text" "Ljava/lang/String;" u_text_a1) (g_a1 : n0 ≤ a1) (F_end_a1 : Fld Z h0 a1 "com/example/seula/seula/HeadLine" "end" "I" u_end_a1) :
    MetFree l (⟨"com/example/seula/seula/HeadLine", "<init>", "(Ljava/lang/String;I)V"⟩ : MethodName) (head1 (Jvm.Cond.code (⟨"com/example/seula/seula/HeadLine", "<init>", "(Ljava/lang/String;I)V"⟩ : MethodName) prog_36_method_1_code 3 none :: ws) ({ frames := 2, cells := 0, slots := 0, locals := 24 } : Room)) (fun a U => a = #[(.ref a1), (.ref a2), (.int p3)] ∧ Z.Warmed39 U.vm ∧ U.heap = h0) (fun _ _ _ _ _ => True) (fun _ U o U' => ∃ v L, o = .returned v ∧ Q6 Z a1 a2 p3 u_text_a1 u_end_a1 h0 n0 v U'.heap L ∧ FrameEnd U o U' L ({ frames := 2, cells := 0, slots := 0, locals := 24 } : Room).cells ({ frames := 2, cells := 0, slots := 0, locals := 24 } : Room).slots) := by
  refine MetFree.of_bodySF (plainFor_of_name pn_6) hisR ?_
  intro p e s m args below meth c s₁ Bd hml0 hP hK
  obtain ⟨rfl, hZ, hh⟩ := hP
  have hx := Bd.exec
  have hby := Bd.bytes
  have hml : c.maxLocals = 3 := hml0
  have hown : s.vm.findClass "com/example/seula/seula/HeadLine" = some m.cls := findClass_of_methodNamed Bd.named
  have hnm := (name_of_methodNamed Bd.named Bd.method).1
  have X0 : Stand p l e ({ frames := 2, cells := 0, slots := 0, locals := 24 } : Room) s m #[(.ref a1), (.ref a2), (.int p3)] below meth c s₁ [] 0 0 := Stand.of_body Bd
  have e0 : s₁.heap = h0 := by rw [← hh, Bd.state]; rfl
  have N0 := Fr.nil n0
  have pre0 : ∀ t, Steps p.tables e below (s₁.setTop (mkF m 0 #[.val (.ref a1), .val (.ref a2), .val (.int p3)] [])) t → Steps p.tables e below (s₁.setTop (entryFrame m #[(.ref a1), (.ref a2), (.int p3)] 3)) t := fun t k => castTop (ef_6 m a1 a2 p3) k
  obtain ⟨_, _, ⟨T4, L4, k4, n4⟩, -, X4, ⟨Lc4, hQ4, l4, y4, z4⟩, st4⟩ := X0.specialBack hx (y := (⟨"java/lang/Record", "<init>", "()V"⟩ : MethodName)) rfl hown (mvT hZ (hw _ (List.mem_of_getElem? (i := 38) rfl))) (mvT hZ (hw _ (List.mem_of_getElem? (i := 39) rfl))) (mvT hZ (hw _ (List.mem_of_getElem? (i := 42) rfl))) (by decide) (backOf (W := 0) (rm7 l Z a0 hw [] a1 h0 n0 Z0) hZ (hw _ (List.mem_of_getElem? (i := 42) rfl)) (hw _ (List.mem_of_getElem? (i := 41) rfl)) (by decide) (by decide)) (g := (mkF m 1 #[.val (.ref a1), .val (.ref a2), .val (.int p3)] [(.ref a1)])) rfl (by rw [hml]; rfl) (Steps.refl _) (a := a1) (argsL := []) (rest := []) (lenOf pd_6_4 rfl) rfl (by show 2 * 0 + _ ≤ _; exact Nat.le_of_eq rfl) (hb hby d6_1) (fun _ _ => ⟨rfl, e0, (Nat.le_of_ble_eq_true rfl), (Nat.le_of_ble_eq_true rfl)⟩)
  dsimp only [Pt.U, Pt.locs, Pt.cells, Pt.slots] at X4 l4 y4 z4 st4 hQ4
  subst l4 y4 z4
  obtain ⟨rfl, N4q, e4⟩ := hQ4
  have K4 : ∀ ws, Keep h0 T4.heap ws := own_keepEq e4
  have N4 := Fr.app N0 N4q
  obtain ⟨T5, h5, X5, e5, W5, st5⟩ := putF X4 hx hZ hown (host := "") (Or.inl (hw _ (List.mem_of_getElem? (i := 44) rfl))) Via.refl rfl (F_text_a1.keep (K4 []) nin0) (E_a1.keep (K4 [])) (Or.inr ⟨(hw _ (List.mem_of_getElem? (i := 45) rfl)), rfl, hnm⟩) (hw _ (List.mem_of_getElem? (i := 7) rfl)) (ty := (.object "java/lang/String")) (by decide) rfl rfl (g := (mkF m 6 #[.val (.ref a1), .val (.ref a2), .val (.int p3)] [(.ref a2), (.ref a1)])) rfl rfl (hb hby d6_6)
  have Fw5 := (F_text_a1.keep (K4 []) nin0).same W5      -- the field now holds (.ref a2)
  have K5 : Keep h0 h5 [a1] := (K4 [a1]).wr W5 (Or.inl (List.mem_of_getElem? (i := 0) rfl))
  have N5 := Fr.snoc X5 N4 g_a1
  obtain ⟨T6, h6, X6, e6, W6, st6⟩ := putF X5 hx hZ hown (host := "") (Or.inl (hw _ (List.mem_of_getElem? (i := 46) rfl))) Via.refl e5 ((F_end_a1.keep (K4 []) nin0).other W5 (Or.inr (slot_ne (Or.inr (hw _ (List.mem_of_getElem? (i := 47) rfl))) (Or.inr (hw _ (List.mem_of_getElem? (i := 45) rfl))) (by decide) (t := .int) (t' := (.object "java/lang/String")) (by decide) (by decide)))) ((E_a1.keep (K4 [])).wr W5) (Or.inr ⟨(hw _ (List.mem_of_getElem? (i := 47) rfl)), rfl, hnm⟩) (hw _ (List.mem_of_getElem? (i := 7) rfl)) (ty := .int) (by decide) rfl rfl (g := (mkF m 11 #[.val (.ref a1), .val (.ref a2), .val (.int p3)] [(.int p3), (.ref a1)])) rfl rfl (hb hby d6_11)
  have Fw6 := ((F_end_a1.keep (K4 []) nin0).other W5 (Or.inr (slot_ne (Or.inr (hw _ (List.mem_of_getElem? (i := 47) rfl))) (Or.inr (hw _ (List.mem_of_getElem? (i := 45) rfl))) (by decide) (t := .int) (t' := (.object "java/lang/String")) (by decide) (by decide)))).same W6      -- the field now holds (.int p3)
  have K6 : Keep h0 h6 [a1] := K5.wr W6 (Or.inl (List.mem_of_getElem? (i := 0) rfl))
  have N6 := Fr.snoc X6 N5 g_a1
  obtain ⟨fs, hr, hrun, hended, hW, hsame⟩ := X6.leave (v := none) (fun _ => rfl)
  refine ⟨_, _, pre0 _ ?_, hrun, hended, _, _, rfl, ?_, ⟨_, rfl⟩, hW, hsame.mono (by decide) (by decide)⟩
  · show Steps p.tables e below (s₁.setTop (mkF m 0 #[.val (.ref a1), .val (.ref a2), .val (.int p3)] [])) _
    refine XS.aloadN X0.here hx rfl (hb hby d6_0) rfl rfl ?_
    show Steps p.tables e below (s₁.setTop (mkF m 1 #[.val (.ref a1), .val (.ref a2), .val (.int p3)] [(.ref a1)])) _
    refine st4.trans ?_
    show Steps p.tables e below (T4.setTop (mkF m 4 #[.val (.ref a1), .val (.ref a2), .val (.int p3)] [])) _
    refine XS.aloadN X4.here hx rfl (hb hby d6_4) rfl rfl ?_
    show Steps p.tables e below (T4.setTop (mkF m 5 #[.val (.ref a1), .val (.ref a2), .val (.int p3)] [(.ref a1)])) _
    refine XS.aloadN X4.here hx rfl (hb hby d6_5) rfl rfl ?_
    show Steps p.tables e below (T4.setTop (mkF m 6 #[.val (.ref a1), .val (.ref a2), .val (.int p3)] [(.ref a2), (.ref a1)])) _
    refine st5 _ ?_
    show Steps p.tables e below (T5.setTop (mkF m 9 #[.val (.ref a1), .val (.ref a2), .val (.int p3)] [])) _
    refine XS.aloadN X5.here hx rfl (hb hby d6_9) rfl rfl ?_
    show Steps p.tables e below (T5.setTop (mkF m 10 #[.val (.ref a1), .val (.ref a2), .val (.int p3)] [(.ref a1)])) _
    refine XS.iloadN X5.here hx rfl (hb hby d6_10) rfl ?_
    show Steps p.tables e below (T5.setTop (mkF m 11 #[.val (.ref a1), .val (.ref a2), .val (.int p3)] [(.int p3), (.ref a1)])) _
    refine st6 _ ?_
    show Steps p.tables e below (T6.setTop (mkF m 14 #[.val (.ref a1), .val (.ref a2), .val (.int p3)] [])) _
    exact X6.returnOut hx Bd.returns (hb hby d6_14) hr
  · show Q6 Z a1 a2 p3 u_text_a1 u_end_a1 h0 n0 _ T6.heap _
    rw [e6]
    exact ⟨rfl, N6, K6, ((E_a1.keep (K4 [])).wr W5).wr W6, Fw6⟩
theorem d8_0 : decode prog_16_method_1_code 0 = .ok (.aload_n 0, 1) := by decide +kernel
theorem d8_1 : decode prog_16_method_1_code 1 = .ok (.invokespecial 1, 3) := by decide +kernel
theorem d8_4 : decode prog_16_method_1_code 4 = .ok (.aload_n 0, 1) := by decide +kernel
theorem d8_5 : decode prog_16_method_1_code 5 = .ok (.aload_n 1, 1) := by decide +kernel
theorem d8_6 : decode prog_16_method_1_code 6 = .ok (.putfield 7, 3) := by decide +kernel
theorem d8_9 : decode prog_16_method_1_code 9 = .ok (.aload_n 0, 1) := by decide +kernel
theorem d8_10 : decode prog_16_method_1_code 10 = .ok (.aload_n 2, 1) := by decide +kernel
theorem d8_11 : decode prog_16_method_1_code 11 = .ok (.putfield 13, 3) := by decide +kernel
theorem d8_14 : decode prog_16_method_1_code 14 = .ok (.aload_n 0, 1) := by decide +kernel
theorem d8_15 : decode prog_16_method_1_code 15 = .ok (.iload_n 3, 1) := by decide +kernel
theorem d8_16 : decode prog_16_method_1_code 16 = .ok (.putfield 17, 3) := by decide +kernel
theorem d8_19 : decode prog_16_method_1_code 19 = .ok (.aload_n 0, 1) := by decide +kernel
theorem d8_20 : decode prog_16_method_1_code 20 = .ok (.iload 4, 2) := by decide +kernel
theorem d8_22 : decode prog_16_method_1_code 22 = .ok (.putfield 21, 3) := by decide +kernel
theorem d8_25 : decode prog_16_method_1_code 25 = .ok (.aload_n 0, 1) := by decide +kernel
theorem d8_26 : decode prog_16_method_1_code 26 = .ok (.lload 5, 2) := by decide +kernel
theorem d8_28 : decode prog_16_method_1_code 28 = .ok (.putfield 24, 3) := by decide +kernel
theorem d8_31 : decode prog_16_method_1_code 31 = .ok (.return_, 1) := by decide +kernel
theorem pn_8 : plainName "com/example/seula/seula/ChunkHead" = true := by first | (simp [plainName, overriddenIn]; done) | decide +kernel
theorem pd_8_4 : parseMethodDescriptor "()V" = some ⟨[], none⟩ := by decide +kernel
theorem ef_8 (m : MethodId) (x0 : Addr) (x1 : Addr) (x2 : Addr) (x3 : Int32) (x4 : Int32) (x5 : Int64) : entryFrame m #[(.ref x0), (.ref x1), (.ref x2), (.int x3), (.int x4), (.long x5)] 7 = mkF m 0 #[.val (.ref x0), .val (.ref x1), .val (.ref x2), .val (.int x3), .val (.int x4), .val (.long x5), .second] [] := by first | (simp [entryFrame, mkF, argsToLocals, Value.category]; done) | rfl
def Q8 (Z : State) (a1 : Addr) (a2 : Addr) (a3 : Addr) (p4 : Int32) (p5 : Int32) (q6 : Int64) (u_kind_a1 : Value) (u_line_a1 : Value) (u_number_a1 : Value) (u_prefixBytes_a1 : Value) (u_length_a1 : Value) (h0 : Heap) (n0 : Nat) (v : Option Value) (h : Heap) (L : List Loc) : Prop := v = none ∧ Fr n0 L ∧ Keep h0 h [a1] ∧ Exa Z h a1 "com/example/seula/seula/ChunkHead" ∧ Fld Z h a1 "com/example/seula/seula/ChunkHead" "line" "Lcom/example/seula/seula/HeadLine;" (.ref a3) ∧ Fld Z h a1 "com/example/seula/seula/ChunkHead" "length" "J" (.long q6)
set_option maxRecDepth 65536 in
set_option maxHeartbeats 40000000 in
theorem rm8 (l : Launch) (Z : State) (a0 : Array Value) (hw : ∀ d ∈ tables_1, d.before a0 Z = true) (ws : List Jvm.Cond) (a1 : Addr) (a2 : Addr) (a3 : Addr) (p4 : Int32) (p5 : Int32) (q6 : Int64) (u_kind_a1 : Value) (u_line_a1 : Value) (u_number_a1 : Value) (u_prefixBytes_a1 : Value) (u_length_a1 : Value) (h0 : Heap) (n0 : Nat) (Z0 : n0 ≤ h0.size) (E_a1 : Exa Z h0 a1 "com/example/seula/seula/ChunkHead") (F_kind_a1 : Fld Z h0 a1 "com/example/seula/seula/ChunkHead" "kind" "Lcom/example/seula/seula/ChunkKind;" u_kind_a1) (g_a1 : n0 ≤ a1) (F_line_a1 : Fld Z h0 a1 "com/example/seula/seula/ChunkHead" "line" "Lcom/example/seula/seula/HeadLine;" u_line_a1) (F_number_a1 : Fld Z h0 a1 "com/example/seula/seula/ChunkHead" "number" "I" u_number_a1) (F_prefixBytes_a1 : Fld Z h0 a1 "com/example/seula/seula/ChunkHead" "prefixBytes" "I" u_prefixBytes_a1) (F_length_a1 : Fld Z h0 a1 "com/example/seula/seula/ChunkHead" "length" "J" u_length_a1) :
    MetFree l (⟨"com/example/seula/seula/ChunkHead", "<init>", "(Lcom/example/seula/seula/ChunkKind;Lcom/example/seula/seula/HeadLine;IIJ)V"⟩ : MethodName) (head1 (Jvm.Cond.code (⟨"com/example/seula/seula/ChunkHead", "<init>", "(Lcom/example/seula/seula/ChunkKind;Lcom/example/seula/seula/HeadLine;IIJ)V"⟩ : MethodName) prog_16_method_1_code 7 none :: ws) ({ frames := 2, cells := 0, slots := 0, locals := 24 } : Room)) (fun a U => a = #[(.ref a1), (.ref a2), (.ref a3), (.int p4), (.int p5), (.long q6)] ∧ Z.Warmed39 U.vm ∧ U.heap = h0) (fun _ _ _ _ _ => True) (fun _ U o U' => ∃ v L, o = .returned v ∧ Q8 Z a1 a2 a3 p4 p5 q6 u_kind_a1 u_line_a1 u_number_a1 u_prefixBytes_a1 u_length_a1 h0 n0 v U'.heap L ∧ FrameEnd U o U' L ({ frames := 2, cells := 0, slots := 0, locals := 24 } : Room).cells ({ frames := 2, cells := 0, slots := 0, locals := 24 } : Room).slots) := by
  refine MetFree.of_bodySF (plainFor_of_name pn_8) hisR ?_
  intro p e s m args below meth c s₁ Bd hml0 hP hK
  obtain ⟨rfl, hZ, hh⟩ := hP
  have hx := Bd.exec
  have hby := Bd.bytes
  have hml : c.maxLocals = 7 := hml0
  have hown : s.vm.findClass "com/example/seula/seula/ChunkHead" = some m.cls := findClass_of_methodNamed Bd.named
  have hnm := (name_of_methodNamed Bd.named Bd.method).1
  have X0 : Stand p l e ({ frames := 2, cells := 0, slots := 0, locals := 24 } : Room) s m #[(.ref a1), (.ref a2), (.ref a3), (.int p4), (.int p5), (.long q6)] below meth c s₁ [] 0 0 := Stand.of_body Bd
  have e0 : s₁.heap = h0 := by rw [← hh, Bd.state]; rfl
  have N0 := Fr.nil n0
  have pre0 : ∀ t, Steps p.tables e below (s₁.setTop (mkF m 0 #[.val (.ref a1), .val (.ref a2), .val (.ref a3), .val (.int p4), .val (.int p5), .val (.long q6), .second] [])) t → Steps p.tables e below (s₁.setTop (entryFrame m #[(.ref a1), (.ref a2), (.ref a3), (.int p4), (.int p5), (.long q6)] 7)) t := fun t k => castTop (ef_8 m a1 a2 a3 p4 p5 q6) k
  obtain ⟨_, _, ⟨T7, L7, k7, n7⟩, -, X7, ⟨Lc7, hQ7, l7, y7, z7⟩, st7⟩ := X0.specialBack hx (y := (⟨"java/lang/Record", "<init>", "()V"⟩ : MethodName)) rfl hown (mvT hZ (hw _ (List.mem_of_getElem? (i := 54) rfl))) (mvT hZ (hw _ (List.mem_of_getElem? (i := 39) rfl))) (mvT hZ (hw _ (List.mem_of_getElem? (i := 42) rfl))) (by decide) (backOf (W := 0) (rm7 l Z a0 hw [] a1 h0 n0 Z0) hZ (hw _ (List.mem_of_getElem? (i := 42) rfl)) (hw _ (List.mem_of_getElem? (i := 41) rfl)) (by decide) (by decide)) (g := (mkF m 1 #[.val (.ref a1), .val (.ref a2), .val (.ref a3), .val (.int p4), .val (.int p5), .val (.long q6), .second] [(.ref a1)])) rfl (by rw [hml]; rfl) (Steps.refl _) (a := a1) (argsL := []) (rest := []) (lenOf pd_8_4 rfl) rfl (by show 2 * 0 + _ ≤ _; exact Nat.le_of_eq rfl) (hb hby d8_1) (fun _ _ => ⟨rfl, e0, (Nat.le_of_ble_eq_true rfl), (Nat.le_of_ble_eq_true rfl)⟩)
  dsimp only [Pt.U, Pt.locs, Pt.cells, Pt.slots] at X7 l7 y7 z7 st7 hQ7
  subst l7 y7 z7
  obtain ⟨rfl, N7q, e7⟩ := hQ7
  have K7 : ∀ ws, Keep h0 T7.heap ws := own_keepEq e7
  have N7 := Fr.app N0 N7q
  obtain ⟨T8, h8, X8, e8, W8, st8⟩ := putF X7 hx hZ hown (host := "") (Or.inl (hw _ (List.mem_of_getElem? (i := 55) rfl))) Via.refl rfl (F_kind_a1.keep (K7 []) nin0) (E_a1.keep (K7 [])) (Or.inr ⟨(hw _ (List.mem_of_getElem? (i := 56) rfl)), rfl, hnm⟩) (hw _ (List.mem_of_getElem? (i := 49) rfl)) (ty := (.object "com/example/seula/seula/ChunkKind")) (by decide) rfl rfl (g := (mkF m 6 #[.val (.ref a1), .val (.ref a2), .val (.ref a3), .val (.int p4), .val (.int p5), .val (.long q6), .second] [(.ref a2), (.ref a1)])) rfl rfl (hb hby d8_6)
  have Fw8 := (F_kind_a1.keep (K7 []) nin0).same W8      -- the field now holds (.ref a2)
  have K8 : Keep h0 h8 [a1] := (K7 [a1]).wr W8 (Or.inl (List.mem_of_getElem? (i := 0) rfl))
  have N8 := Fr.snoc X8 N7 g_a1
  obtain ⟨T9, h9, X9, e9, W9, st9⟩ := putF X8 hx hZ hown (host := "") (Or.inl (hw _ (List.mem_of_getElem? (i := 57) rfl))) Via.refl e8 ((F_line_a1.keep (K7 []) nin0).other W8 (Or.inr (slot_ne (Or.inr (hw _ (List.mem_of_getElem? (i := 58) rfl))) (Or.inr (hw _ (List.mem_of_getElem? (i := 56) rfl))) (by decide) (t := (.object "com/example/seula/seula/HeadLine")) (t' := (.object "com/example/seula/seula/ChunkKind")) (by decide) (by decide)))) ((E_a1.keep (K7 [])).wr W8) (Or.inr ⟨(hw _ (List.mem_of_getElem? (i := 58) rfl)), rfl, hnm⟩) (hw _ (List.mem_of_getElem? (i := 49) rfl)) (ty := (.object "com/example/seula/seula/HeadLine")) (by decide) rfl rfl (g := (mkF m 11 #[.val (.ref a1), .val (.ref a2), .val (.ref a3), .val (.int p4), .val (.int p5), .val (.long q6), .second] [(.ref a3), (.ref a1)])) rfl rfl (hb hby d8_11)
  have Fw9 := ((F_line_a1.keep (K7 []) nin0).other W8 (Or.inr (slot_ne (Or.inr (hw _ (List.mem_of_getElem? (i := 58) rfl))) (Or.inr (hw _ (List.mem_of_getElem? (i := 56) rfl))) (by decide) (t := (.object "com/example/seula/seula/HeadLine")) (t' := (.object "com/example/seula/seula/ChunkKind")) (by decide) (by decide)))).same W9      -- the field now holds (.ref a3)
  have K9 : Keep h0 h9 [a1] := K8.wr W9 (Or.inl (List.mem_of_getElem? (i := 0) rfl))
  have N9 := Fr.snoc X9 N8 g_a1
  obtain ⟨T10, h10, X10, e10, W10, st10⟩ := putF X9 hx hZ hown (host := "") (Or.inl (hw _ (List.mem_of_getElem? (i := 59) rfl))) Via.refl e9 (((F_number_a1.keep (K7 []) nin0).other W8 (Or.inr (slot_ne (Or.inr (hw _ (List.mem_of_getElem? (i := 60) rfl))) (Or.inr (hw _ (List.mem_of_getElem? (i := 56) rfl))) (by decide) (t := .int) (t' := (.object "com/example/seula/seula/ChunkKind")) (by decide) (by decide)))).other W9 (Or.inr (slot_ne (Or.inr (hw _ (List.mem_of_getElem? (i := 60) rfl))) (Or.inr (hw _ (List.mem_of_getElem? (i := 58) rfl))) (by decide) (t := .int) (t' := (.object "com/example/seula/seula/HeadLine")) (by decide) (by decide)))) (((E_a1.keep (K7 [])).wr W8).wr W9) (Or.inr ⟨(hw _ (List.mem_of_getElem? (i := 60) rfl)), rfl, hnm⟩) (hw _ (List.mem_of_getElem? (i := 49) rfl)) (ty := .int) (by decide) rfl rfl (g := (mkF m 16 #[.val (.ref a1), .val (.ref a2), .val (.ref a3), .val (.int p4), .val (.int p5), .val (.long q6), .second] [(.int p4), (.ref a1)])) rfl rfl (hb hby d8_16)
  have Fw10 := (((F_number_a1.keep (K7 []) nin0).other W8 (Or.inr (slot_ne (Or.inr (hw _ (List.mem_of_getElem? (i := 60) rfl))) (Or.inr (hw _ (List.mem_of_getElem? (i := 56) rfl))) (by decide) (t := .int) (t' := (.object "com/example/seula/seula/ChunkKind")) (by decide) (by decide)))).other W9 (Or.inr (slot_ne (Or.inr (hw _ (List.mem_of_getElem? (i := 60) rfl))) (Or.inr (hw _ (List.mem_of_getElem? (i := 58) rfl))) (by decide) (t := .int) (t' := (.object "com/example/seula/seula/HeadLine")) (by decide) (by decide)))).same W10      -- the field now holds (.int p4)
  have K10 : Keep h0 h10 [a1] := K9.wr W10 (Or.inl (List.mem_of_getElem? (i := 0) rfl))
  have N10 := Fr.snoc X10 N9 g_a1
  obtain ⟨T11, h11, X11, e11, W11, st11⟩ := putF X10 hx hZ hown (host := "") (Or.inl (hw _ (List.mem_of_getElem? (i := 61) rfl))) Via.refl e10 ((((F_prefixBytes_a1.keep (K7 []) nin0).other W8 (Or.inr (slot_ne (Or.inr (hw _ (List.mem_of_getElem? (i := 62) rfl))) (Or.inr (hw _ (List.mem_of_getElem? (i := 56) rfl))) (by decide) (t := .int) (t' := (.object "com/example/seula/seula/ChunkKind")) (by decide) (by decide)))).other W9 (Or.inr (slot_ne (Or.inr (hw _ (List.mem_of_getElem? (i := 62) rfl))) (Or.inr (hw _ (List.mem_of_getElem? (i := 58) rfl))) (by decide) (t := .int) (t' := (.object "com/example/seula/seula/HeadLine")) (by decide) (by decide)))).other W10 (Or.inr (slot_ne (Or.inr (hw _ (List.mem_of_getElem? (i := 62) rfl))) (Or.inr (hw _ (List.mem_of_getElem? (i := 60) rfl))) (by decide) (t := .int) (t' := .int) (by decide) (by decide)))) ((((E_a1.keep (K7 [])).wr W8).wr W9).wr W10) (Or.inr ⟨(hw _ (List.mem_of_getElem? (i := 62) rfl)), rfl, hnm⟩) (hw _ (List.mem_of_getElem? (i := 49) rfl)) (ty := .int) (by decide) rfl rfl (g := (mkF m 22 #[.val (.ref a1), .val (.ref a2), .val (.ref a3), .val (.int p4), .val (.int p5), .val (.long q6), .second] [(.int p5), (.ref a1)])) rfl rfl (hb hby d8_22)
  have Fw11 := ((((F_prefixBytes_a1.keep (K7 []) nin0).other W8 (Or.inr (slot_ne (Or.inr (hw _ (List.mem_of_getElem? (i := 62) rfl))) (Or.inr (hw _ (List.mem_of_getElem? (i := 56) rfl))) (by decide) (t := .int) (t' := (.object "com/example/seula/seula/ChunkKind")) (by decide) (by decide)))).other W9 (Or.inr (slot_ne (Or.inr (hw _ (List.mem_of_getElem? (i := 62) rfl))) (Or.inr (hw _ (List.mem_of_getElem? (i := 58) rfl))) (by decide) (t := .int) (t' := (.object "com/example/seula/seula/HeadLine")) (by decide) (by decide)))).other W10 (Or.inr (slot_ne (Or.inr (hw _ (List.mem_of_getElem? (i := 62) rfl))) (Or.inr (hw _ (List.mem_of_getElem? (i := 60) rfl))) (by decide) (t := .int) (t' := .int) (by decide) (by decide)))).same W11      -- the field now holds (.int p5)
  have K11 : Keep h0 h11 [a1] := K10.wr W11 (Or.inl (List.mem_of_getElem? (i := 0) rfl))
  have N11 := Fr.snoc X11 N10 g_a1
  obtain ⟨T12, h12, X12, e12, W12, st12⟩ := putF X11 hx hZ hown (host := "") (Or.inl (hw _ (List.mem_of_getElem? (i := 63) rfl))) Via.refl e11 (((((F_length_a1.keep (K7 []) nin0).other W8 (Or.inr (slot_ne (Or.inr (hw _ (List.mem_of_getElem? (i := 64) rfl))) (Or.inr (hw _ (List.mem_of_getElem? (i := 56) rfl))) (by decide) (t := .long) (t' := (.object "com/example/seula/seula/ChunkKind")) (by decide) (by decide)))).other W9 (Or.inr (slot_ne (Or.inr (hw _ (List.mem_of_getElem? (i := 64) rfl))) (Or.inr (hw _ (List.mem_of_getElem? (i := 58) rfl))) (by decide) (t := .long) (t' := (.object "com/example/seula/seula/HeadLine")) (by decide) (by decide)))).other W10 (Or.inr (slot_ne (Or.inr (hw _ (List.mem_of_getElem? (i := 64) rfl))) (Or.inr (hw _ (List.mem_of_getElem? (i := 60) rfl))) (by decide) (t := .long) (t' := .int) (by decide) (by decide)))).other W11 (Or.inr (slot_ne (Or.inr (hw _ (List.mem_of_getElem? (i := 64) rfl))) (Or.inr (hw _ (List.mem_of_getElem? (i := 62) rfl))) (by decide) (t := .long) (t' := .int) (by decide) (by decide)))) (((((E_a1.keep (K7 [])).wr W8).wr W9).wr W10).wr W11) (Or.inr ⟨(hw _ (List.mem_of_getElem? (i := 64) rfl)), rfl, hnm⟩) (hw _ (List.mem_of_getElem? (i := 49) rfl)) (ty := .long) (by decide) rfl rfl (g := (mkF m 28 #[.val (.ref a1), .val (.ref a2), .val (.ref a3), .val (.int p4), .val (.int p5), .val (.long q6), .second] [(.long q6), (.ref a1)])) rfl rfl (hb hby d8_28)
  have Fw12 := (((((F_length_a1.keep (K7 []) nin0).other W8 (Or.inr (slot_ne (Or.inr (hw _ (List.mem_of_getElem? (i := 64) rfl))) (Or.inr (hw _ (List.mem_of_getElem? (i := 56) rfl))) (by decide) (t := .long) (t' := (.object "com/example/seula/seula/ChunkKind")) (by decide) (by decide)))).other W9 (Or.inr (slot_ne (Or.inr (hw _ (List.mem_of_getElem? (i := 64) rfl))) (Or.inr (hw _ (List.mem_of_getElem? (i := 58) rfl))) (by decide) (t := .long) (t' := (.object "com/example/seula/seula/HeadLine")) (by decide) (by decide)))).other W10 (Or.inr (slot_ne (Or.inr (hw _ (List.mem_of_getElem? (i := 64) rfl))) (Or.inr (hw _ (List.mem_of_getElem? (i := 60) rfl))) (by decide) (t := .long) (t' := .int) (by decide) (by decide)))).other W11 (Or.inr (slot_ne (Or.inr (hw _ (List.mem_of_getElem? (i := 64) rfl))) (Or.inr (hw _ (List.mem_of_getElem? (i := 62) rfl))) (by decide) (t := .long) (t' := .int) (by decide) (by decide)))).same W12      -- the field now holds (.long q6)
  have K12 : Keep h0 h12 [a1] := K11.wr W12 (Or.inl (List.mem_of_getElem? (i := 0) rfl))
  have N12 := Fr.snoc X12 N11 g_a1
  obtain ⟨fs, hr, hrun, hended, hW, hsame⟩ := X12.leave (v := none) (fun _ => rfl)
  refine ⟨_, _, pre0 _ ?_, hrun, hended, _, _, rfl, ?_, ⟨_, rfl⟩, hW, hsame.mono (by decide) (by decide)⟩
  · show Steps p.tables e below (s₁.setTop (mkF m 0 #[.val (.ref a1), .val (.ref a2), .val (.ref a3), .val (.int p4), .val (.int p5), .val (.long q6), .second] [])) _
    refine XS.aloadN X0.here hx rfl (hb hby d8_0) rfl rfl ?_
    show Steps p.tables e below (s₁.setTop (mkF m 1 #[.val (.ref a1), .val (.ref a2), .val (.ref a3), .val (.int p4), .val (.int p5), .val (.long q6), .second] [(.ref a1)])) _
    refine st7.trans ?_
    show Steps p.tables e below (T7.setTop (mkF m 4 #[.val (.ref a1), .val (.ref a2), .val (.ref a3), .val (.int p4), .val (.int p5), .val (.long q6), .second] [])) _
    refine XS.aloadN X7.here hx rfl (hb hby d8_4) rfl rfl ?_
    show Steps p.tables e below (T7.setTop (mkF m 5 #[.val (.ref a1), .val (.ref a2), .val (.ref a3), .val (.int p4), .val (.int p5), .val (.long q6), .second] [(.ref a1)])) _
    refine XS.aloadN X7.here hx rfl (hb hby d8_5) rfl rfl ?_
    show Steps p.tables e below (T7.setTop (mkF m 6 #[.val (.ref a1), .val (.ref a2), .val (.ref a3), .val (.int p4), .val (.int p5), .val (.long q6), .second] [(.ref a2), (.ref a1)])) _
    refine st8 _ ?_
    show Steps p.tables e below (T8.setTop (mkF m 9 #[.val (.ref a1), .val (.ref a2), .val (.ref a3), .val (.int p4), .val (.int p5), .val (.long q6), .second] [])) _
    refine XS.aloadN X8.here hx rfl (hb hby d8_9) rfl rfl ?_
    show Steps p.tables e below (T8.setTop (mkF m 10 #[.val (.ref a1), .val (.ref a2), .val (.ref a3), .val (.int p4), .val (.int p5), .val (.long q6), .second] [(.ref a1)])) _
    refine XS.aloadN X8.here hx rfl (hb hby d8_10) rfl rfl ?_
    show Steps p.tables e below (T8.setTop (mkF m 11 #[.val (.ref a1), .val (.ref a2), .val (.ref a3), .val (.int p4), .val (.int p5), .val (.long q6), .second] [(.ref a3), (.ref a1)])) _
    refine st9 _ ?_
    show Steps p.tables e below (T9.setTop (mkF m 14 #[.val (.ref a1), .val (.ref a2), .val (.ref a3), .val (.int p4), .val (.int p5), .val (.long q6), .second] [])) _
    refine XS.aloadN X9.here hx rfl (hb hby d8_14) rfl rfl ?_
    show Steps p.tables e below (T9.setTop (mkF m 15 #[.val (.ref a1), .val (.ref a2), .val (.ref a3), .val (.int p4), .val (.int p5), .val (.long q6), .second] [(.ref a1)])) _
    refine XS.iloadN X9.here hx rfl (hb hby d8_15) rfl ?_
    show Steps p.tables e below (T9.setTop (mkF m 16 #[.val (.ref a1), .val (.ref a2), .val (.ref a3), .val (.int p4), .val (.int p5), .val (.long q6), .second] [(.int p4), (.ref a1)])) _
    refine st10 _ ?_
    show Steps p.tables e below (T10.setTop (mkF m 19 #[.val (.ref a1), .val (.ref a2), .val (.ref a3), .val (.int p4), .val (.int p5), .val (.long q6), .second] [])) _
    refine XS.aloadN X10.here hx rfl (hb hby d8_19) rfl rfl ?_
    show Steps p.tables e below (T10.setTop (mkF m 20 #[.val (.ref a1), .val (.ref a2), .val (.ref a3), .val (.int p4), .val (.int p5), .val (.long q6), .second] [(.ref a1)])) _
    refine XS.iload X10.here hx rfl (hb hby d8_20) rfl ?_
    show Steps p.tables e below (T10.setTop (mkF m 22 #[.val (.ref a1), .val (.ref a2), .val (.ref a3), .val (.int p4), .val (.int p5), .val (.long q6), .second] [(.int p5), (.ref a1)])) _
    refine st11 _ ?_
    show Steps p.tables e below (T11.setTop (mkF m 25 #[.val (.ref a1), .val (.ref a2), .val (.ref a3), .val (.int p4), .val (.int p5), .val (.long q6), .second] [])) _
    refine XS.aloadN X11.here hx rfl (hb hby d8_25) rfl rfl ?_
    show Steps p.tables e below (T11.setTop (mkF m 26 #[.val (.ref a1), .val (.ref a2), .val (.ref a3), .val (.int p4), .val (.int p5), .val (.long q6), .second] [(.ref a1)])) _
    refine XS.lload X11.here hx rfl (hb hby d8_26) rfl ?_
    show Steps p.tables e below (T11.setTop (mkF m 28 #[.val (.ref a1), .val (.ref a2), .val (.ref a3), .val (.int p4), .val (.int p5), .val (.long q6), .second] [(.long q6), (.ref a1)])) _
    refine st12 _ ?_
    show Steps p.tables e below (T12.setTop (mkF m 31 #[.val (.ref a1), .val (.ref a2), .val (.ref a3), .val (.int p4), .val (.int p5), .val (.long q6), .second] [])) _
    exact X12.returnOut hx Bd.returns (hb hby d8_31) hr
  · show Q8 Z a1 a2 a3 p4 p5 q6 u_kind_a1 u_line_a1 u_number_a1 u_prefixBytes_a1 u_length_a1 h0 n0 _ T12.heap _
    rw [e12]
    exact ⟨rfl, N12, K12, (((((E_a1.keep (K7 [])).wr W8).wr W9).wr W10).wr W11).wr W12, ((Fw9.other W10 (Or.inr (slot_ne (Or.inr (hw _ (List.mem_of_getElem? (i := 58) rfl))) (Or.inr (hw _ (List.mem_of_getElem? (i := 60) rfl))) (by decide) (t := (.object "com/example/seula/seula/HeadLine")) (t' := .int) (by decide) (by decide)))).other W11 (Or.inr (slot_ne (Or.inr (hw _ (List.mem_of_getElem? (i := 58) rfl))) (Or.inr (hw _ (List.mem_of_getElem? (i := 62) rfl))) (by decide) (t := (.object "com/example/seula/seula/HeadLine")) (t' := .int) (by decide) (by decide)))).other W12 (Or.inr (slot_ne (Or.inr (hw _ (List.mem_of_getElem? (i := 58) rfl))) (Or.inr (hw _ (List.mem_of_getElem? (i := 64) rfl))) (by decide) (t := (.object "com/example/seula/seula/HeadLine")) (t' := .long) (by decide) (by decide))), Fw12⟩
theorem d10_0 : decode prog_36_method_10_code 0 = .ok (.aload_n 0, 1) := by decide +kernel
theorem d10_1 : decode prog_36_method_10_code 1 = .ok (.getfield 13, 3) := by decide +kernel
theorem d10_4 : decode prog_36_method_10_code 4 = .ok (.ireturn, 1) := by decide +kernel
theorem pn_10 : plainName "com/example/seula/seula/HeadLine" = true := by first | (simp [plainName, overriddenIn]; done) | decide +kernel
theorem ef_10 (m : MethodId) (x0 : Addr) : entryFrame m #[(.ref x0)] 1 = mkF m 0 #[.val (.ref x0)] [] := by first | (simp [entryFrame, mkF, argsToLocals, Value.category]; done) | rfl
def Q10 (Z : State) (a1 : Addr) (w2 : Int32) (h0 : Heap) (n0 : Nat) (v : Option Value) (h : Heap) (L : List Loc) : Prop := v = some (.int w2) ∧ Fr n0 L ∧ h = h0
set_option maxRecDepth 65536 in
set_option maxHeartbeats 40000000 in
theorem rm10 (l : Launch) (Z : State) (a0 : Array Value) (hw : ∀ d ∈ tables_1, d.before a0 Z = true) (ws : List Jvm.Cond) (a1 : Addr) (w2 : Int32) (h0 : Heap) (n0 : Nat) (Z0 : n0 ≤ h0.size) (F_end_a1 : Fld Z h0 a1 "com/example/seula/seula/HeadLine" "end" "I" (.int w2)) :
    MetFree l (⟨"com/example/seula/seula/HeadLine", "end", "()I"⟩ : MethodName) (head1 (Jvm.Cond.code (⟨"com/example/seula/seula/HeadLine", "end", "()I"⟩ : MethodName) prog_36_method_10_code 1 (some .int) :: ws) ({ frames := 0, cells := 0, slots := 0, locals := 0 } : Room)) (fun a U => a = #[(.ref a1)] ∧ Z.Warmed39 U.vm ∧ U.heap = h0) (fun _ _ _ _ _ => True) (fun _ U o U' => ∃ v L, o = .returned v ∧ Q10 Z a1 w2 h0 n0 v U'.heap L ∧ FrameEnd U o U' L ({ frames := 0, cells := 0, slots := 0, locals := 0 } : Room).cells ({ frames := 0, cells := 0, slots := 0, locals := 0 } : Room).slots) := by
  refine MetFree.of_bodySF (plainFor_of_name pn_10) hisR ?_
  intro p e s m args below meth c s₁ Bd hml0 hP hK
  obtain ⟨rfl, hZ, hh⟩ := hP
  have hx := Bd.exec
  have hby := Bd.bytes
  have hml : c.maxLocals = 1 := hml0
  have hown : s.vm.findClass "com/example/seula/seula/HeadLine" = some m.cls := findClass_of_methodNamed Bd.named
  have hnm := (name_of_methodNamed Bd.named Bd.method).1
  have X0 : Stand p l e ({ frames := 0, cells := 0, slots := 0, locals := 0 } : Room) s m #[(.ref a1)] below meth c s₁ [] 0 0 := Stand.of_body Bd
  have e0 : s₁.heap = h0 := by rw [← hh, Bd.state]; rfl
  have N0 := Fr.nil n0
  have pre0 : ∀ t, Steps p.tables e below (s₁.setTop (mkF m 0 #[.val (.ref a1)] [])) t → Steps p.tables e below (s₁.setTop (entryFrame m #[(.ref a1)] 1)) t := fun t k => castTop (ef_10 m a1) k
  obtain ⟨T3, X3, e3, st3⟩ := getF X0 hx hZ hown (host := "") (Or.inl (hw _ (List.mem_of_getElem? (i := 46) rfl))) Via.refl e0 F_end_a1 (g := (mkF m 1 #[.val (.ref a1)] [(.ref a1)])) rfl rfl (hb hby d10_1)
  obtain ⟨fs, hr, hrun, hended, hW, hsame⟩ := X3.leave (v := some (.int w2)) (fun h => by rw [Bd.returns] at h; cases h)
  refine ⟨_, _, pre0 _ ?_, hrun, hended, _, _, rfl, ?_, ⟨_, rfl⟩, hW, hsame.mono (by decide) (by decide)⟩
  · show Steps p.tables e below (s₁.setTop (mkF m 0 #[.val (.ref a1)] [])) _
    refine XS.aloadN X0.here hx rfl (hb hby d10_0) rfl rfl ?_
    show Steps p.tables e below (s₁.setTop (mkF m 1 #[.val (.ref a1)] [(.ref a1)])) _
    refine st3 _ ?_
    show Steps p.tables e below (T3.setTop (mkF m 4 #[.val (.ref a1)] [(.int w2)])) _
    exact retI X3 hx Bd.returns (hb hby d10_4) hr      -- retI stands in the head ('lawwalk <made dir>' prints it)
  · show Q10 Z a1 w2 h0 n0 _ T3.heap _
    rw [e3]
    exact ⟨rfl, N0, rfl⟩
theorem d9_0 : decode prog_16_method_5_code 0 = .ok (.aload_n 0, 1) := by decide +kernel
theorem d9_1 : decode prog_16_method_5_code 1 = .ok (.getfield 13, 3) := by decide +kernel
theorem d9_4 : decode prog_16_method_5_code 4 = .ok (.invokevirtual 133, 3) := by decide +kernel
theorem d9_7 : decode prog_16_method_5_code 7 = .ok (.aload_n 0, 1) := by decide +kernel
theorem d9_8 : decode prog_16_method_5_code 8 = .ok (.getfield 24, 3) := by decide +kernel
theorem d9_11 : decode prog_16_method_5_code 11 = .ok (.l2i, 1) := by decide +kernel
theorem d9_12 : decode prog_16_method_5_code 12 = .ok (.iadd, 1) := by decide +kernel
theorem d9_13 : decode prog_16_method_5_code 13 = .ok (.ireturn, 1) := by decide +kernel
theorem pn_9 : plainName "com/example/seula/seula/ChunkHead" = true := by first | (simp [plainName, overriddenIn]; done) | decide +kernel
theorem pd_9_7 : parseMethodDescriptor "()I" = some ⟨[], some .int⟩ := by decide +kernel
theorem ef_9 (m : MethodId) (x0 : Addr) : entryFrame m #[(.ref x0)] 1 = mkF m 0 #[.val (.ref x0)] [] := by first | (simp [entryFrame, mkF, argsToLocals, Value.category]; done) | rfl
def Q9 (Z : State) (a1 : Addr) (w2 : Addr) (w5 : Int64) (we : Int32) (h0 : Heap) (n0 : Nat) (v : Option Value) (h : Heap) (L : List Loc) : Prop := v = some (.int (we + (w5.toInt32))) ∧ Fr n0 L ∧ h = h0
set_option maxRecDepth 65536 in
set_option maxHeartbeats 40000000 in
theorem rm9 (l : Launch) (Z : State) (a0 : Array Value) (hw : ∀ d ∈ tables_1, d.before a0 Z = true) (ws : List Jvm.Cond) (a1 : Addr) (w2 : Addr) (w5 : Int64) (we : Int32) (h0 : Heap) (n0 : Nat) (Z0 : n0 ≤ h0.size) (F_line_a1 : Fld Z h0 a1 "com/example/seula/seula/ChunkHead" "line" "Lcom/example/seula/seula/HeadLine;" (.ref w2)) (E_w2 : Exa Z h0 w2 "com/example/seula/seula/HeadLine") (F_length_a1 : Fld Z h0 a1 "com/example/seula/seula/ChunkHead" "length" "J" (.long w5)) (F_end : Fld Z h0 w2 "com/example/seula/seula/HeadLine" "end" "I" (.int we)) :
    MetFree l (⟨"com/example/seula/seula/ChunkHead", "end", "()I"⟩ : MethodName) (head1 (Jvm.Cond.code (⟨"com/example/seula/seula/ChunkHead", "end", "()I"⟩ : MethodName) prog_16_method_5_code 1 (some .int) :: ws) ({ frames := 1, cells := 0, slots := 0, locals := 12 } : Room)) (fun a U => a = #[(.ref a1)] ∧ Z.Warmed39 U.vm ∧ U.heap = h0) (fun _ _ _ _ _ => True) (fun _ U o U' => ∃ v L, o = .returned v ∧ Q9 Z a1 w2 w5 we h0 n0 v U'.heap L ∧ FrameEnd U o U' L ({ frames := 1, cells := 0, slots := 0, locals := 12 } : Room).cells ({ frames := 1, cells := 0, slots := 0, locals := 12 } : Room).slots) := by
  refine MetFree.of_bodySF (plainFor_of_name pn_9) hisR ?_
  intro p e s m args below meth c s₁ Bd hml0 hP hK
  obtain ⟨rfl, hZ, hh⟩ := hP
  have hx := Bd.exec
  have hby := Bd.bytes
  have hml : c.maxLocals = 1 := hml0
  have hown : s.vm.findClass "com/example/seula/seula/ChunkHead" = some m.cls := findClass_of_methodNamed Bd.named
  have hnm := (name_of_methodNamed Bd.named Bd.method).1
  have X0 : Stand p l e ({ frames := 1, cells := 0, slots := 0, locals := 12 } : Room) s m #[(.ref a1)] below meth c s₁ [] 0 0 := Stand.of_body Bd
  have e0 : s₁.heap = h0 := by rw [← hh, Bd.state]; rfl
  have N0 := Fr.nil n0
  have pre0 : ∀ t, Steps p.tables e below (s₁.setTop (mkF m 0 #[.val (.ref a1)] [])) t → Steps p.tables e below (s₁.setTop (entryFrame m #[(.ref a1)] 1)) t := fun t k => castTop (ef_9 m a1) k
  obtain ⟨T3, X3, e3, st3⟩ := getF X0 hx hZ hown (host := "") (Or.inl (hw _ (List.mem_of_getElem? (i := 57) rfl))) Via.refl e0 F_line_a1 (g := (mkF m 1 #[.val (.ref a1)] [(.ref a1)])) rfl rfl (hb hby d9_1)
  obtain ⟨cq4, kq4, q4a, q4b, q4c⟩ := isOf hZ e3 E_w2
  obtain ⟨_, _, ⟨T4, L4, k4, n4⟩, -, X4, ⟨Lc4, hQ4, l4, y4, z4⟩, st4⟩ := X3.virtualBack hx (y := (⟨"com/example/seula/seula/HeadLine", "end", "()I"⟩ : MethodName)) (z := (⟨"com/example/seula/seula/HeadLine", "end", "()I"⟩ : MethodName)) hown (mvT hZ (hw _ (List.mem_of_getElem? (i := 70) rfl))) (mvT hZ (hw _ (List.mem_of_getElem? (i := 71) rfl))) (notFace_of_selects (args := #[]) (mvT hZ (hw _ (List.mem_of_getElem? (i := 73) rfl)))) (mvT hZ (hw _ (List.mem_of_getElem? (i := 73) rfl))) (mvT hZ (hw _ (List.mem_of_getElem? (i := 72) rfl))) (by decide) (backOf (W := 0) (rm10 l Z a0 hw [] w2 we h0 n0 Z0 F_end) hZ (hw _ (List.mem_of_getElem? (i := 74) rfl)) (hw _ (List.mem_of_getElem? (i := 8) rfl)) (by decide) (by decide)) q4a q4c (g := (mkF m 4 #[.val (.ref a1)] [(.ref w2)])) rfl (by rw [hml]; rfl) (Steps.refl _) (argsL := []) (rest := []) (lenOf pd_9_7 rfl) rfl (by show 2 * 0 + _ ≤ _; exact Nat.le_of_eq rfl) (hb hby d9_4) (fun _ _ => ⟨rfl, e3, (Nat.le_of_ble_eq_true rfl), (Nat.le_of_ble_eq_true rfl)⟩)
  dsimp only [Pt.U, Pt.locs, Pt.cells, Pt.slots] at X4 l4 y4 z4 st4 hQ4
  subst l4 y4 z4
  obtain ⟨rfl, N4q, e4⟩ := hQ4
  have K4 : ∀ ws, Keep h0 T4.heap ws := own_keepEq e4
  have N4 := Fr.app N0 N4q
  obtain ⟨T6, X6, e6, st6⟩ := getF X4 hx hZ hown (host := "") (Or.inl (hw _ (List.mem_of_getElem? (i := 63) rfl))) Via.refl rfl (F_length_a1.keep (K4 []) nin0) (g := (mkF m 8 #[.val (.ref a1)] [(.ref a1), (.int we)])) rfl rfl (hb hby d9_8)
  obtain ⟨fs, hr, hrun, hended, hW, hsame⟩ := X6.leave (v := some (.int (we + (w5.toInt32)))) (fun h => by rw [Bd.returns] at h; cases h)
  refine ⟨_, _, pre0 _ ?_, hrun, hended, _, _, rfl, ?_, ⟨_, rfl⟩, hW, hsame.mono (by decide) (by decide)⟩
  · show Steps p.tables e below (s₁.setTop (mkF m 0 #[.val (.ref a1)] [])) _
    refine XS.aloadN X0.here hx rfl (hb hby d9_0) rfl rfl ?_
    show Steps p.tables e below (s₁.setTop (mkF m 1 #[.val (.ref a1)] [(.ref a1)])) _
    refine st3 _ ?_
    show Steps p.tables e below (T3.setTop (mkF m 4 #[.val (.ref a1)] [(.ref w2)])) _
    refine st4.trans ?_
    show Steps p.tables e below (T4.setTop (mkF m 7 #[.val (.ref a1)] [(.int we)])) _
    refine XS.aloadN X4.here hx rfl (hb hby d9_7) rfl rfl ?_
    show Steps p.tables e below (T4.setTop (mkF m 8 #[.val (.ref a1)] [(.ref a1), (.int we)])) _
    refine st6 _ ?_
    show Steps p.tables e below (T6.setTop (mkF m 11 #[.val (.ref a1)] [(.long w5), (.int we)])) _
    refine XS.l2i X6.here hx rfl (hb hby d9_11) rfl ?_
    show Steps p.tables e below (T6.setTop (mkF m 12 #[.val (.ref a1)] [(.int (w5.toInt32)), (.int we)])) _
    refine XS.iadd X6.here hx rfl (hb hby d9_12) rfl ?_
    show Steps p.tables e below (T6.setTop (mkF m 13 #[.val (.ref a1)] [(.int (we + (w5.toInt32)))])) _
    exact retI X6 hx Bd.returns (hb hby d9_13) hr      -- retI stands in the head ('lawwalk <made dir>' prints it)
  · show Q9 Z a1 w2 w5 we h0 n0 _ T6.heap _
    rw [e6]
    exact ⟨rfl, N4, e4⟩
theorem own_ch (x : Int32) : ¬ ((255 : Int32) < ((x &&& (255 : Int32)).toUInt32.toUInt16.toUInt32.toInt32)) := by
  rw [i2c_mask]
  have e : (x &&& (255 : Int32)).toInt = x.toInt % 2 ^ 8 := Jvm.Kit.i32_mask x 255 (k := 8) (by decide) (by decide)
  have e2 : (255 : Int32).toInt = 255 := rfl
  rw [Int32.lt_iff_toInt_lt]
  omega
theorem own_arith (p1 : Int32) (q2 : Int64) : ¬ ((((2147483647 : Int64) - ((p1 &&& (2147483647 : Int32)).toInt64)) + (1 : Int64)) = (0 : Int64)) ∧
    (lcmpW (((p1 &&& (2147483647 : Int32)) + (((q2 &&& (9223372036854775807 : Int64)) - (q2 &&& (9223372036854775807 : Int64)) / (((2147483647 : Int64) - ((p1 &&& (2147483647 : Int32)).toInt64)) + (1 : Int64)) * (((2147483647 : Int64) - ((p1 &&& (2147483647 : Int32)).toInt64)) + (1 : Int64))).toInt32)).toInt64) (((p1 &&& (2147483647 : Int32)).toInt64) + ((q2 &&& (9223372036854775807 : Int64)) - (q2 &&& (9223372036854775807 : Int64)) / (((2147483647 : Int64) - ((p1 &&& (2147483647 : Int32)).toInt64)) + (1 : Int64)) * (((2147483647 : Int64) - ((p1 &&& (2147483647 : Int32)).toInt64)) + (1 : Int64))))) = (0 : Int32) := by
  have e1 : (p1 &&& (2147483647 : Int32)).toInt = p1.toInt % 2 ^ 31 := Jvm.Kit.i32_mask p1 2147483647 (k := 31) (by decide) (by decide)
  have e2 : (q2 &&& (9223372036854775807 : Int64)).toInt = q2.toInt % 2 ^ 63 := Jvm.Kit.i64_mask q2 9223372036854775807 (k := 63) (by decide) (by decide)
  generalize (p1 &&& (2147483647 : Int32)) = a at *
  generalize (q2 &&& (9223372036854775807 : Int64)) = b at *
  have a0 : 0 ≤ a.toInt := by omega
  have a1 : a.toInt < 2 ^ 31 := by omega
  have b0 : 0 ≤ b.toInt := by omega
  clear e1 e2
  have ea : a.toInt64.toInt = a.toInt := Jvm.Kit.i64_of_i32 a
  have c1 : (2147483647 : Int64).toInt = 2147483647 := rfl
  have c2 : (1 : Int64).toInt = 1 := rfl
  have es : ((2147483647 : Int64) - a.toInt64).toInt = 2147483647 - a.toInt := by rw [Jvm.Kit.i64_sub (by omega) (by omega)]; omega
  have ed : (((2147483647 : Int64) - a.toInt64) + (1 : Int64)).toInt = 2147483648 - a.toInt := by rw [Jvm.Kit.i64_add (by omega) (by omega)]; omega
  generalize (((2147483647 : Int64) - a.toInt64) + (1 : Int64)) = d at *
  refine ⟨fun q => ?_, ?_⟩
  · rw [← Int64.toInt_inj, ed] at q
    have c3 : (0 : Int64).toInt = 0 := rfl
    omega
  · have er : (b - b / d * d).toInt = b.toInt % d.toInt := Jvm.Kit.i64_rem_nonneg b0
    have r0 : 0 ≤ b.toInt % d.toInt := Int.emod_nonneg _ (by omega)
    have r1 : b.toInt % d.toInt < d.toInt := Int.emod_lt_of_pos _ (by omega)
    rw [← er] at r0 r1
    generalize (b - b / d * d) = k at *
    have ek : k.toInt32.toInt = k.toInt := Jvm.Kit.i32_of_i64 (by omega) (by omega)
    have e3 : (a + k.toInt32).toInt = a.toInt + k.toInt := by rw [Jvm.Kit.i32_add (by omega) (by omega)]; omega
    have e4 : (a.toInt64 + k).toInt = a.toInt + k.toInt := by rw [Jvm.Kit.i64_add (by omega) (by omega)]; omega
    rw [lcW, lc_eq, ← Int64.toInt_inj, Jvm.Kit.i64_of_i32, e3, e4]
theorem pn_0 : plainName "com/example/seula/seula/ChunkHeadEndPinLaw" = true := by first | (simp [plainName, overriddenIn]; done) | decide +kernel
theorem pd_0_0 : parseMethodDescriptor "(C)Ljava/lang/String;" = some ⟨[.char], some (.object "java/lang/String")⟩ := by decide +kernel
theorem pd_0_5 : parseMethodDescriptor "(Ljava/lang/String;I)V" = some ⟨[(.object "java/lang/String"), .int], none⟩ := by decide +kernel
theorem pd_0_6 : parseMethodDescriptor "(Lcom/example/seula/seula/ChunkKind;Lcom/example/seula/seula/HeadLine;IIJ)V" = some ⟨[(.object "com/example/seula/seula/ChunkKind"), (.object "com/example/seula/seula/HeadLine"), .int, .int, .long], none⟩ := by decide +kernel
theorem pd_0_7 : parseMethodDescriptor "()I" = some ⟨[], some .int⟩ := by decide +kernel
theorem ef_0 (m : MethodId) (x0 : Int32) (x1 : Int64) (x2 : Int32) (x3 : Int32) (x4 : Int32) (x5 : Int32) : entryFrame m #[(.int x0), (.long x1), (.int x2), (.int x3), (.int x4), (.int x5)] maxLocals = mkF m 0 #[.val (.int x0), .val (.long x1), .second, .val (.int x2), .val (.int x3), .val (.int x4), .val (.int x5), .unset, .unset, .unset, .unset, .unset, .unset, .unset, .unset, .unset, .unset, .unset] [] := by first | (simp [entryFrame, mkF, argsToLocals, Value.category, maxLocals]; done) | rfl
def Q0ff (Z : State) (p1 : Int32) (q2 : Int64) (p3 : Int32) (p4 : Int32) (p5 : Int32) (p6 : Int32) (w7 : Addr) (h0 : Heap) (n0 : Nat) (v : Option Value) (h : Heap) (L : List Loc) : Prop := v = some (.int (1 : Int32)) ∧ Fr n0 L
set_option maxRecDepth 65536 in
set_option maxHeartbeats 40000000 in
theorem rm0ff (l : Launch) (Z : State) (a0 : Array Value) (hw : ∀ d ∈ tables_1, d.before a0 Z = true) (ws : List Jvm.Cond) (p1 : Int32) (q2 : Int64) (p3 : Int32) (p4 : Int32) (p5 : Int32) (p6 : Int32) (w7 : Addr) (h0 : Heap) (n0 : Nat) (Z0 : n0 ≤ h0.size) (S_ADD : Sta Z h0 "com/example/seula/seula/ChunkKind" "ADD" "Lcom/example/seula/seula/ChunkKind;" (.ref w7)) (hc3 : (p3 &&& (1 : Int32)) = (0 : Int32)) (hnz41 : ¬ ((((2147483647 : Int64) - ((p1 &&& (2147483647 : Int32)).toInt64)) + (1 : Int64)) = (0 : Int64))) (wc : Int32) (S_C : Sta Z h0 "java/lang/String" "COMPACT_STRINGS" "Z" (.int wc)) (hC : ¬ (wc = (0 : Int32))) :
    MetFree l x (head1 (Jvm.Cond.code x code maxLocals ret :: ws) room_1) (fun a U => a = #[(.int p1), (.long q2), (.int p3), (.int p4), (.int p5), (.int p6)] ∧ Z.Warmed39 U.vm ∧ U.heap = h0) (fun _ _ _ _ _ => True) (fun _ U o U' => ∃ v L, o = .returned v ∧ Q0ff Z p1 q2 p3 p4 p5 p6 w7 h0 n0 v U'.heap L ∧ FrameEnd U o U' L room_1.cells room_1.slots) := by
  refine MetFree.of_bodySF (plainFor_of_name pn_0) hisR ?_
  intro p e s m args below meth c s₁ Bd hml0 hP hK
  obtain ⟨rfl, hZ, hh⟩ := hP
  have hx := Bd.exec
  have hby := Bd.bytes
  have hml : c.maxLocals = 18 := hml0
  have hown : s.vm.findClass "com/example/seula/seula/ChunkHeadEndPinLaw" = some m.cls := findClass_of_methodNamed Bd.named
  have hnm := (name_of_methodNamed Bd.named Bd.method).1
  have X0 : Stand p l e room_1 s m #[(.int p1), (.long q2), (.int p3), (.int p4), (.int p5), (.int p6)] below meth c s₁ [] 0 0 := Stand.of_body Bd
  have e0 : s₁.heap = h0 := by rw [← hh, Bd.state]; rfl
  have N0 := Fr.nil n0
  have pre0 : ∀ t, Steps p.tables e below (s₁.setTop (mkF m 0 #[.val (.int p1), .val (.long q2), .second, .val (.int p3), .val (.int p4), .val (.int p5), .val (.int p6), .unset, .unset, .unset, .unset, .unset, .unset, .unset, .unset, .unset, .unset, .unset] [])) t → Steps p.tables e below (s₁.setTop (entryFrame m #[(.int p1), (.long q2), (.int p3), (.int p4), (.int p5), (.int p6)] maxLocals)) t := fun t k => castTop (ef_0 m p1 q2 p3 p4 p5 p6) k
  obtain ⟨T8, X8, e8, st8⟩ := getS2 X0 hx hZ hown (host := "") (Or.inl (hw _ (List.mem_of_getElem? (i := 75) rfl))) Via.refl e0 S_ADD (g := (mkF m 6 #[.val (.int p1), .val (.long q2), .second, .val (.int p3), .val (.int p4), .val (.int p5), .val (.int p6), .unset, .unset, .unset, .unset, .unset, .unset, .unset, .unset, .unset, .unset, .unset] [])) rfl (hb hby at_6)
  obtain ⟨T9, h9, X9, e9, E9, A9, D9, -, st9⟩ := newO X8 hx hZ hown (hw _ (List.mem_of_getElem? (i := 6) rfl)) (hw _ (List.mem_of_getElem? (i := 7) rfl)) (hw _ (List.mem_of_getElem? (i := 8) rfl)) e8 (g := (mkF m 44 #[.val (.int p1), .val (.long q2), .second, .val (.int p3), .val (.int p4), .val (.int p5), .val (.int p6), .val (.ref w7), .val (.int (p1 &&& (2147483647 : Int32))), .val (.long ((2147483647 : Int64) - ((p1 &&& (2147483647 : Int32)).toInt64))), .second, .val (.long ((q2 &&& (9223372036854775807 : Int64)) - (q2 &&& (9223372036854775807 : Int64)) / (((2147483647 : Int64) - ((p1 &&& (2147483647 : Int32)).toInt64)) + (1 : Int64)) * (((2147483647 : Int64) - ((p1 &&& (2147483647 : Int32)).toInt64)) + (1 : Int64)))), .second, .unset, .unset, .unset, .unset, .unset] [])) rfl (hb hby at_44) (by decide) (by decide)
  obtain ⟨b9, g9⟩ : ∃ z, z = h0.size := ⟨_, rfl⟩      -- the fresh object's address
  rw [← g9] at A9 D9 st9      -- A9 : Exa Z h9 b9 "com/example/seula/seula/HeadLine"; E9 : Ext h0 h9 (carries every older fact: .ext E9)
  have F_text_b9 : Fld Z h9 b9 "com/example/seula/seula/HeadLine" "text" "Ljava/lang/String;" .null := D9 (Or.inr (hw _ (List.mem_of_getElem? (i := 45) rfl))) (ty := (.object "java/lang/String")) (by decide)
  have F_end_b9 : Fld Z h9 b9 "com/example/seula/seula/HeadLine" "end" "I" (.int (0 : Int32)) := D9 (Or.inr (hw _ (List.mem_of_getElem? (i := 47) rfl))) (ty := .int) (by decide)
  have E_b9 := A9
  have g_b9 : n0 ≤ b9 := Nat.le_trans Z0 (Nat.le_of_eq g9.symm)
  have sz_b9 : h0.size ≤ b9 := (Nat.le_trans (Keep.refl h0 []).1 (Nat.le_of_eq g9.symm))
  have K9 : Keep h0 h9 [] := (Keep.refl h0 []).ext E9
  obtain ⟨_, _, ⟨T10, L10, k10, n10⟩, -, X10, ⟨Lc10, hQ10, l10, y10, z10⟩, st10⟩ := Jvm.LawKit.callS X9 hx (y := (⟨"java/lang/String", "valueOf", "(C)Ljava/lang/String;"⟩ : MethodName)) hown (mvT hZ (hw _ (List.mem_of_getElem? (i := 9) rfl))) (mvT hZ (hw _ (List.mem_of_getElem? (i := 10) rfl))) (mvT hZ (hw _ (List.mem_of_getElem? (i := 11) rfl))) (mvT hZ (hw _ (List.mem_of_getElem? (i := 12) rfl))) (by decide) (backOf (W := 2) (rm1 l Z a0 hw [] ((p6 &&& (255 : Int32)).toUInt32.toUInt16.toUInt32.toInt32) wc h9 n0 (Nat.le_trans Z0 K9.1) (own_staK S_C K9) hC (own_ch p6)) hZ (hw _ (List.mem_of_getElem? (i := 12) rfl)) (hw _ (List.mem_of_getElem? (i := 11) rfl)) (by decide) (by decide)) (g := (mkF m 55 #[.val (.int p1), .val (.long q2), .second, .val (.int p3), .val (.int p4), .val (.int p5), .val (.int p6), .val (.ref w7), .val (.int (p1 &&& (2147483647 : Int32))), .val (.long ((2147483647 : Int64) - ((p1 &&& (2147483647 : Int32)).toInt64))), .second, .val (.long ((q2 &&& (9223372036854775807 : Int64)) - (q2 &&& (9223372036854775807 : Int64)) / (((2147483647 : Int64) - ((p1 &&& (2147483647 : Int32)).toInt64)) + (1 : Int64)) * (((2147483647 : Int64) - ((p1 &&& (2147483647 : Int32)).toInt64)) + (1 : Int64)))), .second, .unset, .unset, .unset, .unset, .unset] [(.int ((p6 &&& (255 : Int32)).toUInt32.toUInt16.toUInt32.toInt32)), (.ref b9), (.ref b9)])) rfl (by rw [hml]; rfl) (argsL := [(.int ((p6 &&& (255 : Int32)).toUInt32.toUInt16.toUInt32.toInt32))]) (rest := [(.ref b9), (.ref b9)]) (lenOf pd_0_0 rfl) rfl (by show 2 * 0 + _ ≤ _; exact Nat.le_of_eq rfl) (hb hby at_55) (fun _ _ => ⟨rfl, e9, (Nat.le_of_ble_eq_true rfl), (Nat.le_of_ble_eq_true rfl)⟩)
  dsimp only [Pt.U, Pt.locs, Pt.cells, Pt.slots] at X10 l10 y10 z10 st10 hQ10
  subst l10 y10 z10
  obtain ⟨c10, rfl, N10q, K10⟩ := hQ10
  have N10 := Fr.app N0 N10q
  obtain ⟨_, _, ⟨T11, L11, k11, n11⟩, -, X11, ⟨Lc11, hQ11, l11, y11, z11⟩, st11⟩ := X10.specialBack hx (y := (⟨"com/example/seula/seula/HeadLine", "<init>", "(Ljava/lang/String;I)V"⟩ : MethodName)) rfl hown (mvT hZ (hw _ (List.mem_of_getElem? (i := 35) rfl))) (mvT hZ (hw _ (List.mem_of_getElem? (i := 36) rfl))) (mvT hZ (hw _ (List.mem_of_getElem? (i := 37) rfl))) (by decide) (backOf (W := 1) (rm6 l Z a0 hw [] b9 c10 (p1 &&& (2147483647 : Int32)) _ _ T10.heap n0 (Nat.le_trans (Nat.le_trans Z0 K9.1) K10.1) (E_b9.keep K10) (F_text_b9.keep K10 nin0) g_b9 (F_end_b9.keep K10 nin0)) hZ (hw _ (List.mem_of_getElem? (i := 37) rfl)) (hw _ (List.mem_of_getElem? (i := 8) rfl)) (by decide) (by decide)) (g := (mkF m 60 #[.val (.int p1), .val (.long q2), .second, .val (.int p3), .val (.int p4), .val (.int p5), .val (.int p6), .val (.ref w7), .val (.int (p1 &&& (2147483647 : Int32))), .val (.long ((2147483647 : Int64) - ((p1 &&& (2147483647 : Int32)).toInt64))), .second, .val (.long ((q2 &&& (9223372036854775807 : Int64)) - (q2 &&& (9223372036854775807 : Int64)) / (((2147483647 : Int64) - ((p1 &&& (2147483647 : Int32)).toInt64)) + (1 : Int64)) * (((2147483647 : Int64) - ((p1 &&& (2147483647 : Int32)).toInt64)) + (1 : Int64)))), .second, .unset, .unset, .unset, .unset, .unset] [(.int (p1 &&& (2147483647 : Int32))), (.ref c10), (.ref b9), (.ref b9)])) rfl (by rw [hml]; rfl) (Steps.refl _) (a := b9) (argsL := [(.ref c10), (.int (p1 &&& (2147483647 : Int32)))]) (rest := [(.ref b9)]) (lenOf pd_0_5 rfl) rfl (by show 2 * 0 + _ ≤ _; exact Nat.le_of_eq rfl) (hb hby at_60) (fun _ _ => ⟨rfl, rfl, (Nat.le_of_ble_eq_true rfl), (Nat.le_of_ble_eq_true rfl)⟩)
  dsimp only [Pt.U, Pt.locs, Pt.cells, Pt.slots] at X11 l11 y11 z11 st11 hQ11
  subst l11 y11 z11
  obtain ⟨rfl, N11q, K11, E11, F11⟩ := hQ11
  have KT11 : Keep h0 T11.heap [] := (K9.trans K10 all0).trans K11 (allS (Or.inr sz_b9) all0)
  have N11 := Fr.app N10 N11q
  obtain ⟨T12, h12, X12, e12, E12, A12, D12, -, st12⟩ := newO X11 hx hZ hown (hw _ (List.mem_of_getElem? (i := 48) rfl)) (hw _ (List.mem_of_getElem? (i := 49) rfl)) (hw _ (List.mem_of_getElem? (i := 50) rfl)) rfl (g := (mkF m 65 #[.val (.int p1), .val (.long q2), .second, .val (.int p3), .val (.int p4), .val (.int p5), .val (.int p6), .val (.ref w7), .val (.int (p1 &&& (2147483647 : Int32))), .val (.long ((2147483647 : Int64) - ((p1 &&& (2147483647 : Int32)).toInt64))), .second, .val (.long ((q2 &&& (9223372036854775807 : Int64)) - (q2 &&& (9223372036854775807 : Int64)) / (((2147483647 : Int64) - ((p1 &&& (2147483647 : Int32)).toInt64)) + (1 : Int64)) * (((2147483647 : Int64) - ((p1 &&& (2147483647 : Int32)).toInt64)) + (1 : Int64)))), .second, .val (.ref b9), .unset, .unset, .unset, .unset] [])) rfl (hb hby at_65) (by decide) (by decide)
  obtain ⟨b12, g12⟩ : ∃ z, z = T11.heap.size := ⟨_, rfl⟩      -- the fresh object's address
  rw [← g12] at A12 D12 st12      -- A12 : Exa Z h12 b12 "com/example/seula/seula/ChunkHead"; E12 : Ext T11.heap h12 (carries every older fact: .ext E12)
  have F_kind_b12 : Fld Z h12 b12 "com/example/seula/seula/ChunkHead" "kind" "Lcom/example/seula/seula/ChunkKind;" .null := D12 (Or.inr (hw _ (List.mem_of_getElem? (i := 56) rfl))) (ty := (.object "com/example/seula/seula/ChunkKind")) (by decide)
  have F_line_b12 : Fld Z h12 b12 "com/example/seula/seula/ChunkHead" "line" "Lcom/example/seula/seula/HeadLine;" .null := D12 (Or.inr (hw _ (List.mem_of_getElem? (i := 58) rfl))) (ty := (.object "com/example/seula/seula/HeadLine")) (by decide)
  have F_number_b12 : Fld Z h12 b12 "com/example/seula/seula/ChunkHead" "number" "I" (.int (0 : Int32)) := D12 (Or.inr (hw _ (List.mem_of_getElem? (i := 60) rfl))) (ty := .int) (by decide)
  have F_prefixBytes_b12 : Fld Z h12 b12 "com/example/seula/seula/ChunkHead" "prefixBytes" "I" (.int (0 : Int32)) := D12 (Or.inr (hw _ (List.mem_of_getElem? (i := 62) rfl))) (ty := .int) (by decide)
  have F_length_b12 : Fld Z h12 b12 "com/example/seula/seula/ChunkHead" "length" "J" (.long (0 : Int64)) := D12 (Or.inr (hw _ (List.mem_of_getElem? (i := 64) rfl))) (ty := .long) (by decide)
  have E_b12 := A12
  have g_b12 : n0 ≤ b12 := Nat.le_trans (Nat.le_trans (Nat.le_trans (Nat.le_trans Z0 E9.1) K10.1) K11.1) (Nat.le_of_eq g12.symm)
  have sz_b12 : h0.size ≤ b12 := (Nat.le_trans KT11.1 (Nat.le_of_eq g12.symm))
  have K12 : Keep h0 h12 [] := KT11.ext E12
  obtain ⟨_, _, ⟨T13, L13, k13, n13⟩, -, X13, ⟨Lc13, hQ13, l13, y13, z13⟩, st13⟩ := X12.specialBack hx (y := (⟨"com/example/seula/seula/ChunkHead", "<init>", "(Lcom/example/seula/seula/ChunkKind;Lcom/example/seula/seula/HeadLine;IIJ)V"⟩ : MethodName)) rfl hown (mvT hZ (hw _ (List.mem_of_getElem? (i := 51) rfl))) (mvT hZ (hw _ (List.mem_of_getElem? (i := 52) rfl))) (mvT hZ (hw _ (List.mem_of_getElem? (i := 53) rfl))) (by decide) (backOf (W := 1) (rm8 l Z a0 hw [] b12 w7 b9 p5 p4 ((q2 &&& (9223372036854775807 : Int64)) - (q2 &&& (9223372036854775807 : Int64)) / (((2147483647 : Int64) - ((p1 &&& (2147483647 : Int32)).toInt64)) + (1 : Int64)) * (((2147483647 : Int64) - ((p1 &&& (2147483647 : Int32)).toInt64)) + (1 : Int64))) _ _ _ _ _ h12 n0 (Nat.le_trans Z0 K12.1) E_b12 F_kind_b12 g_b12 F_line_b12 F_number_b12 F_prefixBytes_b12 F_length_b12) hZ (hw _ (List.mem_of_getElem? (i := 53) rfl)) (hw _ (List.mem_of_getElem? (i := 50) rfl)) (by decide) (by decide)) (g := (mkF m 79 #[.val (.int p1), .val (.long q2), .second, .val (.int p3), .val (.int p4), .val (.int p5), .val (.int p6), .val (.ref w7), .val (.int (p1 &&& (2147483647 : Int32))), .val (.long ((2147483647 : Int64) - ((p1 &&& (2147483647 : Int32)).toInt64))), .second, .val (.long ((q2 &&& (9223372036854775807 : Int64)) - (q2 &&& (9223372036854775807 : Int64)) / (((2147483647 : Int64) - ((p1 &&& (2147483647 : Int32)).toInt64)) + (1 : Int64)) * (((2147483647 : Int64) - ((p1 &&& (2147483647 : Int32)).toInt64)) + (1 : Int64)))), .second, .val (.ref b9), .unset, .unset, .unset, .unset] [(.long ((q2 &&& (9223372036854775807 : Int64)) - (q2 &&& (9223372036854775807 : Int64)) / (((2147483647 : Int64) - ((p1 &&& (2147483647 : Int32)).toInt64)) + (1 : Int64)) * (((2147483647 : Int64) - ((p1 &&& (2147483647 : Int32)).toInt64)) + (1 : Int64)))), (.int p4), (.int p5), (.ref b9), (.ref w7), (.ref b12), (.ref b12)])) rfl (by rw [hml]; rfl) (Steps.refl _) (a := b12) (argsL := [(.ref w7), (.ref b9), (.int p5), (.int p4), (.long ((q2 &&& (9223372036854775807 : Int64)) - (q2 &&& (9223372036854775807 : Int64)) / (((2147483647 : Int64) - ((p1 &&& (2147483647 : Int32)).toInt64)) + (1 : Int64)) * (((2147483647 : Int64) - ((p1 &&& (2147483647 : Int32)).toInt64)) + (1 : Int64))))]) (rest := [(.ref b12)]) (lenOf pd_0_6 rfl) rfl (by show 2 * 0 + _ ≤ _; exact Nat.le_of_eq rfl) (hb hby at_79) (fun _ _ => ⟨rfl, e12, (Nat.le_of_ble_eq_true rfl), (Nat.le_of_ble_eq_true rfl)⟩)
  dsimp only [Pt.U, Pt.locs, Pt.cells, Pt.slots] at X13 l13 y13 z13 st13 hQ13
  subst l13 y13 z13
  obtain ⟨rfl, N13q, K13, E13, F13l, F13n⟩ := hQ13
  have hne : b9 ≠ b12 := Nat.ne_of_lt (Nat.lt_of_lt_of_le E11.lt (Nat.le_of_eq g12.symm))
  have N13 := Fr.app N11 N13q
  obtain ⟨cq14, kq14, q14a, q14b, q14c⟩ := isOf hZ rfl E13
  obtain ⟨_, _, ⟨T14, L14, k14, n14⟩, -, X14, ⟨Lc14, hQ14, l14, y14, z14⟩, st14⟩ := X13.virtualBack hx (y := (⟨"com/example/seula/seula/ChunkHead", "end", "()I"⟩ : MethodName)) (z := (⟨"com/example/seula/seula/ChunkHead", "end", "()I"⟩ : MethodName)) hown (mvT hZ (hw _ (List.mem_of_getElem? (i := 65) rfl))) (mvT hZ (hw _ (List.mem_of_getElem? (i := 66) rfl))) (notFace_of_selects (args := #[]) (mvT hZ (hw _ (List.mem_of_getElem? (i := 68) rfl)))) (mvT hZ (hw _ (List.mem_of_getElem? (i := 68) rfl))) (mvT hZ (hw _ (List.mem_of_getElem? (i := 67) rfl))) (by decide) (backOf (W := 0) (rm9 l Z a0 hw [] b12 b9 ((q2 &&& (9223372036854775807 : Int64)) - (q2 &&& (9223372036854775807 : Int64)) / (((2147483647 : Int64) - ((p1 &&& (2147483647 : Int32)).toInt64)) + (1 : Int64)) * (((2147483647 : Int64) - ((p1 &&& (2147483647 : Int32)).toInt64)) + (1 : Int64))) (p1 &&& (2147483647 : Int32)) T13.heap n0 (Nat.le_trans (Nat.le_trans Z0 K12.1) K13.1) F13l ((E11.ext E12).keep K13) F13n ((F11.ext E12).keep K13 (ninS hne nin0))) hZ (hw _ (List.mem_of_getElem? (i := 69) rfl)) (hw _ (List.mem_of_getElem? (i := 50) rfl)) (by decide) (by decide)) q14a q14c (g := (mkF m 94 #[.val (.int p1), .val (.long q2), .second, .val (.int p3), .val (.int p4), .val (.int p5), .val (.int p6), .val (.ref w7), .val (.int (p1 &&& (2147483647 : Int32))), .val (.long ((2147483647 : Int64) - ((p1 &&& (2147483647 : Int32)).toInt64))), .second, .val (.long ((q2 &&& (9223372036854775807 : Int64)) - (q2 &&& (9223372036854775807 : Int64)) / (((2147483647 : Int64) - ((p1 &&& (2147483647 : Int32)).toInt64)) + (1 : Int64)) * (((2147483647 : Int64) - ((p1 &&& (2147483647 : Int32)).toInt64)) + (1 : Int64)))), .second, .val (.ref b9), .val (.ref b12), .val (.long (((p1 &&& (2147483647 : Int32)).toInt64) + ((q2 &&& (9223372036854775807 : Int64)) - (q2 &&& (9223372036854775807 : Int64)) / (((2147483647 : Int64) - ((p1 &&& (2147483647 : Int32)).toInt64)) + (1 : Int64)) * (((2147483647 : Int64) - ((p1 &&& (2147483647 : Int32)).toInt64)) + (1 : Int64))))), .second, .unset] [(.ref b12)])) rfl (by rw [hml]; rfl) (Steps.refl _) (argsL := []) (rest := []) (lenOf pd_0_7 rfl) rfl (by show 2 * 0 + _ ≤ _; exact Nat.le_of_eq rfl) (hb hby at_94) (fun _ _ => ⟨rfl, rfl, (Nat.le_of_ble_eq_true rfl), (Nat.le_of_ble_eq_true rfl)⟩)
  dsimp only [Pt.U, Pt.locs, Pt.cells, Pt.slots] at X14 l14 y14 z14 st14 hQ14
  subst l14 y14 z14
  obtain ⟨rfl, N14q, e14⟩ := hQ14
  have N14 := Fr.app N13 N14q
  obtain ⟨fs, hr, hrun, hended, hW, hsame⟩ := X14.leave (v := some (.int (1 : Int32))) (fun h => by rw [Bd.returns] at h; cases h)
  refine ⟨_, _, pre0 _ ?_, hrun, hended, _, _, rfl, ?_, ⟨_, rfl⟩, hW, hsame.mono (by decide) (by decide)⟩
  · show Steps p.tables e below (s₁.setTop (mkF m 0 #[.val (.int p1), .val (.long q2), .second, .val (.int p3), .val (.int p4), .val (.int p5), .val (.int p6), .unset, .unset, .unset, .unset, .unset, .unset, .unset, .unset, .unset, .unset, .unset] [])) _
    refine XS.iloadN X0.here hx rfl (hb hby at_0) rfl ?_
    show Steps p.tables e below (s₁.setTop (mkF m 1 #[.val (.int p1), .val (.long q2), .second, .val (.int p3), .val (.int p4), .val (.int p5), .val (.int p6), .unset, .unset, .unset, .unset, .unset, .unset, .unset, .unset, .unset, .unset, .unset] [(.int p3)])) _
    refine XS.iconst X0.here hx rfl (hb hby at_1) ?_
    show Steps p.tables e below (s₁.setTop (mkF m 2 #[.val (.int p1), .val (.long q2), .second, .val (.int p3), .val (.int p4), .val (.int p5), .val (.int p6), .unset, .unset, .unset, .unset, .unset, .unset, .unset, .unset, .unset, .unset, .unset] [(.int (1 : Int32)), (.int p3)])) _
    refine XS.iand X0.here hx rfl (hb hby at_2) rfl ?_
    show Steps p.tables e below (s₁.setTop (mkF m 3 #[.val (.int p1), .val (.long q2), .second, .val (.int p3), .val (.int p4), .val (.int p5), .val (.int p6), .unset, .unset, .unset, .unset, .unset, .unset, .unset, .unset, .unset, .unset, .unset] [(.int (p3 &&& (1 : Int32)))])) _
    refine XS.ifNo X0.here hx rfl (hb hby at_3) rfl ((if0 _ _).trans (teq hc3).2) ?_
    show Steps p.tables e below (s₁.setTop (mkF m 6 #[.val (.int p1), .val (.long q2), .second, .val (.int p3), .val (.int p4), .val (.int p5), .val (.int p6), .unset, .unset, .unset, .unset, .unset, .unset, .unset, .unset, .unset, .unset, .unset] [])) _
    refine st8 _ ?_
    show Steps p.tables e below (T8.setTop (mkF m 9 #[.val (.int p1), .val (.long q2), .second, .val (.int p3), .val (.int p4), .val (.int p5), .val (.int p6), .unset, .unset, .unset, .unset, .unset, .unset, .unset, .unset, .unset, .unset, .unset] [(.ref w7)])) _
    refine XS.goto X8.here hx rfl (pc0 := 9) (pc' := 15) rfl (hb hby at_9) (by decide) (by decide) ?_
    show Steps p.tables e below (T8.setTop (mkF m 15 #[.val (.int p1), .val (.long q2), .second, .val (.int p3), .val (.int p4), .val (.int p5), .val (.int p6), .unset, .unset, .unset, .unset, .unset, .unset, .unset, .unset, .unset, .unset, .unset] [(.ref w7)])) _
    refine XS.astore X8.here hx rfl (hb hby at_15) rfl rfl (l' := #[.val (.int p1), .val (.long q2), .second, .val (.int p3), .val (.int p4), .val (.int p5), .val (.int p6), .val (.ref w7), .unset, .unset, .unset, .unset, .unset, .unset, .unset, .unset, .unset, .unset]) rfl ?_
    show Steps p.tables e below (T8.setTop (mkF m 17 #[.val (.int p1), .val (.long q2), .second, .val (.int p3), .val (.int p4), .val (.int p5), .val (.int p6), .val (.ref w7), .unset, .unset, .unset, .unset, .unset, .unset, .unset, .unset, .unset, .unset] [])) _
    refine XS.iloadN X8.here hx rfl (hb hby at_17) rfl ?_
    show Steps p.tables e below (T8.setTop (mkF m 18 #[.val (.int p1), .val (.long q2), .second, .val (.int p3), .val (.int p4), .val (.int p5), .val (.int p6), .val (.ref w7), .unset, .unset, .unset, .unset, .unset, .unset, .unset, .unset, .unset, .unset] [(.int p1)])) _
    refine X8.ldcInt hx hown (mvT hZ (hw _ (List.mem_of_getElem? (i := 3) rfl))) (g := (mkF m 18 #[.val (.int p1), .val (.long q2), .second, .val (.int p3), .val (.int p4), .val (.int p5), .val (.int p6), .val (.ref w7), .unset, .unset, .unset, .unset, .unset, .unset, .unset, .unset, .unset, .unset] [(.int p1)])) rfl (hb hby at_18) _ ?_
    show Steps p.tables e below (T8.setTop (mkF m 20 #[.val (.int p1), .val (.long q2), .second, .val (.int p3), .val (.int p4), .val (.int p5), .val (.int p6), .val (.ref w7), .unset, .unset, .unset, .unset, .unset, .unset, .unset, .unset, .unset, .unset] [(.int (2147483647 : Int32)), (.int p1)])) _
    refine XS.iand X8.here hx rfl (hb hby at_20) rfl ?_
    show Steps p.tables e below (T8.setTop (mkF m 21 #[.val (.int p1), .val (.long q2), .second, .val (.int p3), .val (.int p4), .val (.int p5), .val (.int p6), .val (.ref w7), .unset, .unset, .unset, .unset, .unset, .unset, .unset, .unset, .unset, .unset] [(.int (p1 &&& (2147483647 : Int32)))])) _
    refine XS.istore X8.here hx rfl (hb hby at_21) rfl (l' := #[.val (.int p1), .val (.long q2), .second, .val (.int p3), .val (.int p4), .val (.int p5), .val (.int p6), .val (.ref w7), .val (.int (p1 &&& (2147483647 : Int32))), .unset, .unset, .unset, .unset, .unset, .unset, .unset, .unset, .unset]) rfl ?_
    show Steps p.tables e below (T8.setTop (mkF m 23 #[.val (.int p1), .val (.long q2), .second, .val (.int p3), .val (.int p4), .val (.int p5), .val (.int p6), .val (.ref w7), .val (.int (p1 &&& (2147483647 : Int32))), .unset, .unset, .unset, .unset, .unset, .unset, .unset, .unset, .unset] [])) _
    refine X8.ldc2Long hx hown (mvT hZ (hw _ (List.mem_of_getElem? (i := 4) rfl))) (g := (mkF m 23 #[.val (.int p1), .val (.long q2), .second, .val (.int p3), .val (.int p4), .val (.int p5), .val (.int p6), .val (.ref w7), .val (.int (p1 &&& (2147483647 : Int32))), .unset, .unset, .unset, .unset, .unset, .unset, .unset, .unset, .unset] [])) rfl (hb hby at_23) _ ?_
    show Steps p.tables e below (T8.setTop (mkF m 26 #[.val (.int p1), .val (.long q2), .second, .val (.int p3), .val (.int p4), .val (.int p5), .val (.int p6), .val (.ref w7), .val (.int (p1 &&& (2147483647 : Int32))), .unset, .unset, .unset, .unset, .unset, .unset, .unset, .unset, .unset] [(.long (2147483647 : Int64))])) _
    refine XS.iload X8.here hx rfl (hb hby at_26) rfl ?_
    show Steps p.tables e below (T8.setTop (mkF m 28 #[.val (.int p1), .val (.long q2), .second, .val (.int p3), .val (.int p4), .val (.int p5), .val (.int p6), .val (.ref w7), .val (.int (p1 &&& (2147483647 : Int32))), .unset, .unset, .unset, .unset, .unset, .unset, .unset, .unset, .unset] [(.int (p1 &&& (2147483647 : Int32))), (.long (2147483647 : Int64))])) _
    refine XS.i2l X8.here hx rfl (hb hby at_28) rfl ?_
    show Steps p.tables e below (T8.setTop (mkF m 29 #[.val (.int p1), .val (.long q2), .second, .val (.int p3), .val (.int p4), .val (.int p5), .val (.int p6), .val (.ref w7), .val (.int (p1 &&& (2147483647 : Int32))), .unset, .unset, .unset, .unset, .unset, .unset, .unset, .unset, .unset] [(.long ((p1 &&& (2147483647 : Int32)).toInt64)), (.long (2147483647 : Int64))])) _
    refine XS.lsub X8.here hx rfl (hb hby at_29) rfl ?_
    show Steps p.tables e below (T8.setTop (mkF m 30 #[.val (.int p1), .val (.long q2), .second, .val (.int p3), .val (.int p4), .val (.int p5), .val (.int p6), .val (.ref w7), .val (.int (p1 &&& (2147483647 : Int32))), .unset, .unset, .unset, .unset, .unset, .unset, .unset, .unset, .unset] [(.long ((2147483647 : Int64) - ((p1 &&& (2147483647 : Int32)).toInt64)))])) _
    refine XS.lstore X8.here hx rfl (hb hby at_30) rfl (l' := #[.val (.int p1), .val (.long q2), .second, .val (.int p3), .val (.int p4), .val (.int p5), .val (.int p6), .val (.ref w7), .val (.int (p1 &&& (2147483647 : Int32))), .val (.long ((2147483647 : Int64) - ((p1 &&& (2147483647 : Int32)).toInt64))), .second, .unset, .unset, .unset, .unset, .unset, .unset, .unset]) rfl ?_
    show Steps p.tables e below (T8.setTop (mkF m 32 #[.val (.int p1), .val (.long q2), .second, .val (.int p3), .val (.int p4), .val (.int p5), .val (.int p6), .val (.ref w7), .val (.int (p1 &&& (2147483647 : Int32))), .val (.long ((2147483647 : Int64) - ((p1 &&& (2147483647 : Int32)).toInt64))), .second, .unset, .unset, .unset, .unset, .unset, .unset, .unset] [])) _
    refine XS.lloadN X8.here hx rfl (hb hby at_32) rfl ?_
    show Steps p.tables e below (T8.setTop (mkF m 33 #[.val (.int p1), .val (.long q2), .second, .val (.int p3), .val (.int p4), .val (.int p5), .val (.int p6), .val (.ref w7), .val (.int (p1 &&& (2147483647 : Int32))), .val (.long ((2147483647 : Int64) - ((p1 &&& (2147483647 : Int32)).toInt64))), .second, .unset, .unset, .unset, .unset, .unset, .unset, .unset] [(.long q2)])) _
    refine X8.ldc2Long hx hown (mvT hZ (hw _ (List.mem_of_getElem? (i := 5) rfl))) (g := (mkF m 33 #[.val (.int p1), .val (.long q2), .second, .val (.int p3), .val (.int p4), .val (.int p5), .val (.int p6), .val (.ref w7), .val (.int (p1 &&& (2147483647 : Int32))), .val (.long ((2147483647 : Int64) - ((p1 &&& (2147483647 : Int32)).toInt64))), .second, .unset, .unset, .unset, .unset, .unset, .unset, .unset] [(.long q2)])) rfl (hb hby at_33) _ ?_
    show Steps p.tables e below (T8.setTop (mkF m 36 #[.val (.int p1), .val (.long q2), .second, .val (.int p3), .val (.int p4), .val (.int p5), .val (.int p6), .val (.ref w7), .val (.int (p1 &&& (2147483647 : Int32))), .val (.long ((2147483647 : Int64) - ((p1 &&& (2147483647 : Int32)).toInt64))), .second, .unset, .unset, .unset, .unset, .unset, .unset, .unset] [(.long (9223372036854775807 : Int64)), (.long q2)])) _
    refine XS.land X8.here hx rfl (hb hby at_36) rfl ?_
    show Steps p.tables e below (T8.setTop (mkF m 37 #[.val (.int p1), .val (.long q2), .second, .val (.int p3), .val (.int p4), .val (.int p5), .val (.int p6), .val (.ref w7), .val (.int (p1 &&& (2147483647 : Int32))), .val (.long ((2147483647 : Int64) - ((p1 &&& (2147483647 : Int32)).toInt64))), .second, .unset, .unset, .unset, .unset, .unset, .unset, .unset] [(.long (q2 &&& (9223372036854775807 : Int64)))])) _
    refine XS.lload X8.here hx rfl (hb hby at_37) rfl ?_
    show Steps p.tables e below (T8.setTop (mkF m 39 #[.val (.int p1), .val (.long q2), .second, .val (.int p3), .val (.int p4), .val (.int p5), .val (.int p6), .val (.ref w7), .val (.int (p1 &&& (2147483647 : Int32))), .val (.long ((2147483647 : Int64) - ((p1 &&& (2147483647 : Int32)).toInt64))), .second, .unset, .unset, .unset, .unset, .unset, .unset, .unset] [(.long ((2147483647 : Int64) - ((p1 &&& (2147483647 : Int32)).toInt64))), (.long (q2 &&& (9223372036854775807 : Int64)))])) _
    refine XS.lconst X8.here hx rfl (hb hby at_39) ?_
    show Steps p.tables e below (T8.setTop (mkF m 40 #[.val (.int p1), .val (.long q2), .second, .val (.int p3), .val (.int p4), .val (.int p5), .val (.int p6), .val (.ref w7), .val (.int (p1 &&& (2147483647 : Int32))), .val (.long ((2147483647 : Int64) - ((p1 &&& (2147483647 : Int32)).toInt64))), .second, .unset, .unset, .unset, .unset, .unset, .unset, .unset] [(.long (1 : Int64)), (.long ((2147483647 : Int64) - ((p1 &&& (2147483647 : Int32)).toInt64))), (.long (q2 &&& (9223372036854775807 : Int64)))])) _
    refine XS.ladd X8.here hx rfl (hb hby at_40) rfl ?_
    show Steps p.tables e below (T8.setTop (mkF m 41 #[.val (.int p1), .val (.long q2), .second, .val (.int p3), .val (.int p4), .val (.int p5), .val (.int p6), .val (.ref w7), .val (.int (p1 &&& (2147483647 : Int32))), .val (.long ((2147483647 : Int64) - ((p1 &&& (2147483647 : Int32)).toInt64))), .second, .unset, .unset, .unset, .unset, .unset, .unset, .unset] [(.long (((2147483647 : Int64) - ((p1 &&& (2147483647 : Int32)).toInt64)) + (1 : Int64))), (.long (q2 &&& (9223372036854775807 : Int64)))])) _
    refine XS.lrem X8.here hx rfl (hb hby at_41) rfl hnz41 ?_
    show Steps p.tables e below (T8.setTop (mkF m 42 #[.val (.int p1), .val (.long q2), .second, .val (.int p3), .val (.int p4), .val (.int p5), .val (.int p6), .val (.ref w7), .val (.int (p1 &&& (2147483647 : Int32))), .val (.long ((2147483647 : Int64) - ((p1 &&& (2147483647 : Int32)).toInt64))), .second, .unset, .unset, .unset, .unset, .unset, .unset, .unset] [(.long ((q2 &&& (9223372036854775807 : Int64)) - (q2 &&& (9223372036854775807 : Int64)) / (((2147483647 : Int64) - ((p1 &&& (2147483647 : Int32)).toInt64)) + (1 : Int64)) * (((2147483647 : Int64) - ((p1 &&& (2147483647 : Int32)).toInt64)) + (1 : Int64))))])) _
    refine XS.lstore X8.here hx rfl (hb hby at_42) rfl (l' := #[.val (.int p1), .val (.long q2), .second, .val (.int p3), .val (.int p4), .val (.int p5), .val (.int p6), .val (.ref w7), .val (.int (p1 &&& (2147483647 : Int32))), .val (.long ((2147483647 : Int64) - ((p1 &&& (2147483647 : Int32)).toInt64))), .second, .val (.long ((q2 &&& (9223372036854775807 : Int64)) - (q2 &&& (9223372036854775807 : Int64)) / (((2147483647 : Int64) - ((p1 &&& (2147483647 : Int32)).toInt64)) + (1 : Int64)) * (((2147483647 : Int64) - ((p1 &&& (2147483647 : Int32)).toInt64)) + (1 : Int64)))), .second, .unset, .unset, .unset, .unset, .unset]) rfl ?_
    show Steps p.tables e below (T8.setTop (mkF m 44 #[.val (.int p1), .val (.long q2), .second, .val (.int p3), .val (.int p4), .val (.int p5), .val (.int p6), .val (.ref w7), .val (.int (p1 &&& (2147483647 : Int32))), .val (.long ((2147483647 : Int64) - ((p1 &&& (2147483647 : Int32)).toInt64))), .second, .val (.long ((q2 &&& (9223372036854775807 : Int64)) - (q2 &&& (9223372036854775807 : Int64)) / (((2147483647 : Int64) - ((p1 &&& (2147483647 : Int32)).toInt64)) + (1 : Int64)) * (((2147483647 : Int64) - ((p1 &&& (2147483647 : Int32)).toInt64)) + (1 : Int64)))), .second, .unset, .unset, .unset, .unset, .unset] [])) _
    refine st9 _ ?_
    show Steps p.tables e below (T9.setTop (mkF m 47 #[.val (.int p1), .val (.long q2), .second, .val (.int p3), .val (.int p4), .val (.int p5), .val (.int p6), .val (.ref w7), .val (.int (p1 &&& (2147483647 : Int32))), .val (.long ((2147483647 : Int64) - ((p1 &&& (2147483647 : Int32)).toInt64))), .second, .val (.long ((q2 &&& (9223372036854775807 : Int64)) - (q2 &&& (9223372036854775807 : Int64)) / (((2147483647 : Int64) - ((p1 &&& (2147483647 : Int32)).toInt64)) + (1 : Int64)) * (((2147483647 : Int64) - ((p1 &&& (2147483647 : Int32)).toInt64)) + (1 : Int64)))), .second, .unset, .unset, .unset, .unset, .unset] [(.ref b9)])) _
    refine XS.dup X9.here hx rfl (hb hby at_47) rfl rfl ?_
    show Steps p.tables e below (T9.setTop (mkF m 48 #[.val (.int p1), .val (.long q2), .second, .val (.int p3), .val (.int p4), .val (.int p5), .val (.int p6), .val (.ref w7), .val (.int (p1 &&& (2147483647 : Int32))), .val (.long ((2147483647 : Int64) - ((p1 &&& (2147483647 : Int32)).toInt64))), .second, .val (.long ((q2 &&& (9223372036854775807 : Int64)) - (q2 &&& (9223372036854775807 : Int64)) / (((2147483647 : Int64) - ((p1 &&& (2147483647 : Int32)).toInt64)) + (1 : Int64)) * (((2147483647 : Int64) - ((p1 &&& (2147483647 : Int32)).toInt64)) + (1 : Int64)))), .second, .unset, .unset, .unset, .unset, .unset] [(.ref b9), (.ref b9)])) _
    refine XS.iload X9.here hx rfl (hb hby at_48) rfl ?_
    show Steps p.tables e below (T9.setTop (mkF m 50 #[.val (.int p1), .val (.long q2), .second, .val (.int p3), .val (.int p4), .val (.int p5), .val (.int p6), .val (.ref w7), .val (.int (p1 &&& (2147483647 : Int32))), .val (.long ((2147483647 : Int64) - ((p1 &&& (2147483647 : Int32)).toInt64))), .second, .val (.long ((q2 &&& (9223372036854775807 : Int64)) - (q2 &&& (9223372036854775807 : Int64)) / (((2147483647 : Int64) - ((p1 &&& (2147483647 : Int32)).toInt64)) + (1 : Int64)) * (((2147483647 : Int64) - ((p1 &&& (2147483647 : Int32)).toInt64)) + (1 : Int64)))), .second, .unset, .unset, .unset, .unset, .unset] [(.int p6), (.ref b9), (.ref b9)])) _
    refine XS.sipush X9.here hx rfl (hb hby at_50) ?_
    show Steps p.tables e below (T9.setTop (mkF m 53 #[.val (.int p1), .val (.long q2), .second, .val (.int p3), .val (.int p4), .val (.int p5), .val (.int p6), .val (.ref w7), .val (.int (p1 &&& (2147483647 : Int32))), .val (.long ((2147483647 : Int64) - ((p1 &&& (2147483647 : Int32)).toInt64))), .second, .val (.long ((q2 &&& (9223372036854775807 : Int64)) - (q2 &&& (9223372036854775807 : Int64)) / (((2147483647 : Int64) - ((p1 &&& (2147483647 : Int32)).toInt64)) + (1 : Int64)) * (((2147483647 : Int64) - ((p1 &&& (2147483647 : Int32)).toInt64)) + (1 : Int64)))), .second, .unset, .unset, .unset, .unset, .unset] [(.int (255 : Int32)), (.int p6), (.ref b9), (.ref b9)])) _
    refine XS.iand X9.here hx rfl (hb hby at_53) rfl ?_
    show Steps p.tables e below (T9.setTop (mkF m 54 #[.val (.int p1), .val (.long q2), .second, .val (.int p3), .val (.int p4), .val (.int p5), .val (.int p6), .val (.ref w7), .val (.int (p1 &&& (2147483647 : Int32))), .val (.long ((2147483647 : Int64) - ((p1 &&& (2147483647 : Int32)).toInt64))), .second, .val (.long ((q2 &&& (9223372036854775807 : Int64)) - (q2 &&& (9223372036854775807 : Int64)) / (((2147483647 : Int64) - ((p1 &&& (2147483647 : Int32)).toInt64)) + (1 : Int64)) * (((2147483647 : Int64) - ((p1 &&& (2147483647 : Int32)).toInt64)) + (1 : Int64)))), .second, .unset, .unset, .unset, .unset, .unset] [(.int (p6 &&& (255 : Int32))), (.ref b9), (.ref b9)])) _
    refine XS.i2c X9.here hx rfl (hb hby at_54) rfl ?_
    show Steps p.tables e below (T9.setTop (mkF m 55 #[.val (.int p1), .val (.long q2), .second, .val (.int p3), .val (.int p4), .val (.int p5), .val (.int p6), .val (.ref w7), .val (.int (p1 &&& (2147483647 : Int32))), .val (.long ((2147483647 : Int64) - ((p1 &&& (2147483647 : Int32)).toInt64))), .second, .val (.long ((q2 &&& (9223372036854775807 : Int64)) - (q2 &&& (9223372036854775807 : Int64)) / (((2147483647 : Int64) - ((p1 &&& (2147483647 : Int32)).toInt64)) + (1 : Int64)) * (((2147483647 : Int64) - ((p1 &&& (2147483647 : Int32)).toInt64)) + (1 : Int64)))), .second, .unset, .unset, .unset, .unset, .unset] [(.int ((p6 &&& (255 : Int32)).toUInt32.toUInt16.toUInt32.toInt32)), (.ref b9), (.ref b9)])) _
    refine st10 _ ?_
    show Steps p.tables e below (T10.setTop (mkF m 58 #[.val (.int p1), .val (.long q2), .second, .val (.int p3), .val (.int p4), .val (.int p5), .val (.int p6), .val (.ref w7), .val (.int (p1 &&& (2147483647 : Int32))), .val (.long ((2147483647 : Int64) - ((p1 &&& (2147483647 : Int32)).toInt64))), .second, .val (.long ((q2 &&& (9223372036854775807 : Int64)) - (q2 &&& (9223372036854775807 : Int64)) / (((2147483647 : Int64) - ((p1 &&& (2147483647 : Int32)).toInt64)) + (1 : Int64)) * (((2147483647 : Int64) - ((p1 &&& (2147483647 : Int32)).toInt64)) + (1 : Int64)))), .second, .unset, .unset, .unset, .unset, .unset] [(.ref c10), (.ref b9), (.ref b9)])) _
    refine XS.iload X10.here hx rfl (hb hby at_58) rfl ?_
    show Steps p.tables e below (T10.setTop (mkF m 60 #[.val (.int p1), .val (.long q2), .second, .val (.int p3), .val (.int p4), .val (.int p5), .val (.int p6), .val (.ref w7), .val (.int (p1 &&& (2147483647 : Int32))), .val (.long ((2147483647 : Int64) - ((p1 &&& (2147483647 : Int32)).toInt64))), .second, .val (.long ((q2 &&& (9223372036854775807 : Int64)) - (q2 &&& (9223372036854775807 : Int64)) / (((2147483647 : Int64) - ((p1 &&& (2147483647 : Int32)).toInt64)) + (1 : Int64)) * (((2147483647 : Int64) - ((p1 &&& (2147483647 : Int32)).toInt64)) + (1 : Int64)))), .second, .unset, .unset, .unset, .unset, .unset] [(.int (p1 &&& (2147483647 : Int32))), (.ref c10), (.ref b9), (.ref b9)])) _
    refine st11.trans ?_
    show Steps p.tables e below (T11.setTop (mkF m 63 #[.val (.int p1), .val (.long q2), .second, .val (.int p3), .val (.int p4), .val (.int p5), .val (.int p6), .val (.ref w7), .val (.int (p1 &&& (2147483647 : Int32))), .val (.long ((2147483647 : Int64) - ((p1 &&& (2147483647 : Int32)).toInt64))), .second, .val (.long ((q2 &&& (9223372036854775807 : Int64)) - (q2 &&& (9223372036854775807 : Int64)) / (((2147483647 : Int64) - ((p1 &&& (2147483647 : Int32)).toInt64)) + (1 : Int64)) * (((2147483647 : Int64) - ((p1 &&& (2147483647 : Int32)).toInt64)) + (1 : Int64)))), .second, .unset, .unset, .unset, .unset, .unset] [(.ref b9)])) _
    refine XS.astore X11.here hx rfl (hb hby at_63) rfl rfl (l' := #[.val (.int p1), .val (.long q2), .second, .val (.int p3), .val (.int p4), .val (.int p5), .val (.int p6), .val (.ref w7), .val (.int (p1 &&& (2147483647 : Int32))), .val (.long ((2147483647 : Int64) - ((p1 &&& (2147483647 : Int32)).toInt64))), .second, .val (.long ((q2 &&& (9223372036854775807 : Int64)) - (q2 &&& (9223372036854775807 : Int64)) / (((2147483647 : Int64) - ((p1 &&& (2147483647 : Int32)).toInt64)) + (1 : Int64)) * (((2147483647 : Int64) - ((p1 &&& (2147483647 : Int32)).toInt64)) + (1 : Int64)))), .second, .val (.ref b9), .unset, .unset, .unset, .unset]) rfl ?_
    show Steps p.tables e below (T11.setTop (mkF m 65 #[.val (.int p1), .val (.long q2), .second, .val (.int p3), .val (.int p4), .val (.int p5), .val (.int p6), .val (.ref w7), .val (.int (p1 &&& (2147483647 : Int32))), .val (.long ((2147483647 : Int64) - ((p1 &&& (2147483647 : Int32)).toInt64))), .second, .val (.long ((q2 &&& (9223372036854775807 : Int64)) - (q2 &&& (9223372036854775807 : Int64)) / (((2147483647 : Int64) - ((p1 &&& (2147483647 : Int32)).toInt64)) + (1 : Int64)) * (((2147483647 : Int64) - ((p1 &&& (2147483647 : Int32)).toInt64)) + (1 : Int64)))), .second, .val (.ref b9), .unset, .unset, .unset, .unset] [])) _
    refine st12 _ ?_
    show Steps p.tables e below (T12.setTop (mkF m 68 #[.val (.int p1), .val (.long q2), .second, .val (.int p3), .val (.int p4), .val (.int p5), .val (.int p6), .val (.ref w7), .val (.int (p1 &&& (2147483647 : Int32))), .val (.long ((2147483647 : Int64) - ((p1 &&& (2147483647 : Int32)).toInt64))), .second, .val (.long ((q2 &&& (9223372036854775807 : Int64)) - (q2 &&& (9223372036854775807 : Int64)) / (((2147483647 : Int64) - ((p1 &&& (2147483647 : Int32)).toInt64)) + (1 : Int64)) * (((2147483647 : Int64) - ((p1 &&& (2147483647 : Int32)).toInt64)) + (1 : Int64)))), .second, .val (.ref b9), .unset, .unset, .unset, .unset] [(.ref b12)])) _
    refine XS.dup X12.here hx rfl (hb hby at_68) rfl rfl ?_
    show Steps p.tables e below (T12.setTop (mkF m 69 #[.val (.int p1), .val (.long q2), .second, .val (.int p3), .val (.int p4), .val (.int p5), .val (.int p6), .val (.ref w7), .val (.int (p1 &&& (2147483647 : Int32))), .val (.long ((2147483647 : Int64) - ((p1 &&& (2147483647 : Int32)).toInt64))), .second, .val (.long ((q2 &&& (9223372036854775807 : Int64)) - (q2 &&& (9223372036854775807 : Int64)) / (((2147483647 : Int64) - ((p1 &&& (2147483647 : Int32)).toInt64)) + (1 : Int64)) * (((2147483647 : Int64) - ((p1 &&& (2147483647 : Int32)).toInt64)) + (1 : Int64)))), .second, .val (.ref b9), .unset, .unset, .unset, .unset] [(.ref b12), (.ref b12)])) _
    refine XS.aload X12.here hx rfl (hb hby at_69) rfl rfl ?_
    show Steps p.tables e below (T12.setTop (mkF m 71 #[.val (.int p1), .val (.long q2), .second, .val (.int p3), .val (.int p4), .val (.int p5), .val (.int p6), .val (.ref w7), .val (.int (p1 &&& (2147483647 : Int32))), .val (.long ((2147483647 : Int64) - ((p1 &&& (2147483647 : Int32)).toInt64))), .second, .val (.long ((q2 &&& (9223372036854775807 : Int64)) - (q2 &&& (9223372036854775807 : Int64)) / (((2147483647 : Int64) - ((p1 &&& (2147483647 : Int32)).toInt64)) + (1 : Int64)) * (((2147483647 : Int64) - ((p1 &&& (2147483647 : Int32)).toInt64)) + (1 : Int64)))), .second, .val (.ref b9), .unset, .unset, .unset, .unset] [(.ref w7), (.ref b12), (.ref b12)])) _
    refine XS.aload X12.here hx rfl (hb hby at_71) rfl rfl ?_
    show Steps p.tables e below (T12.setTop (mkF m 73 #[.val (.int p1), .val (.long q2), .second, .val (.int p3), .val (.int p4), .val (.int p5), .val (.int p6), .val (.ref w7), .val (.int (p1 &&& (2147483647 : Int32))), .val (.long ((2147483647 : Int64) - ((p1 &&& (2147483647 : Int32)).toInt64))), .second, .val (.long ((q2 &&& (9223372036854775807 : Int64)) - (q2 &&& (9223372036854775807 : Int64)) / (((2147483647 : Int64) - ((p1 &&& (2147483647 : Int32)).toInt64)) + (1 : Int64)) * (((2147483647 : Int64) - ((p1 &&& (2147483647 : Int32)).toInt64)) + (1 : Int64)))), .second, .val (.ref b9), .unset, .unset, .unset, .unset] [(.ref b9), (.ref w7), (.ref b12), (.ref b12)])) _
    refine XS.iload X12.here hx rfl (hb hby at_73) rfl ?_
    show Steps p.tables e below (T12.setTop (mkF m 75 #[.val (.int p1), .val (.long q2), .second, .val (.int p3), .val (.int p4), .val (.int p5), .val (.int p6), .val (.ref w7), .val (.int (p1 &&& (2147483647 : Int32))), .val (.long ((2147483647 : Int64) - ((p1 &&& (2147483647 : Int32)).toInt64))), .second, .val (.long ((q2 &&& (9223372036854775807 : Int64)) - (q2 &&& (9223372036854775807 : Int64)) / (((2147483647 : Int64) - ((p1 &&& (2147483647 : Int32)).toInt64)) + (1 : Int64)) * (((2147483647 : Int64) - ((p1 &&& (2147483647 : Int32)).toInt64)) + (1 : Int64)))), .second, .val (.ref b9), .unset, .unset, .unset, .unset] [(.int p5), (.ref b9), (.ref w7), (.ref b12), (.ref b12)])) _
    refine XS.iload X12.here hx rfl (hb hby at_75) rfl ?_
    show Steps p.tables e below (T12.setTop (mkF m 77 #[.val (.int p1), .val (.long q2), .second, .val (.int p3), .val (.int p4), .val (.int p5), .val (.int p6), .val (.ref w7), .val (.int (p1 &&& (2147483647 : Int32))), .val (.long ((2147483647 : Int64) - ((p1 &&& (2147483647 : Int32)).toInt64))), .second, .val (.long ((q2 &&& (9223372036854775807 : Int64)) - (q2 &&& (9223372036854775807 : Int64)) / (((2147483647 : Int64) - ((p1 &&& (2147483647 : Int32)).toInt64)) + (1 : Int64)) * (((2147483647 : Int64) - ((p1 &&& (2147483647 : Int32)).toInt64)) + (1 : Int64)))), .second, .val (.ref b9), .unset, .unset, .unset, .unset] [(.int p4), (.int p5), (.ref b9), (.ref w7), (.ref b12), (.ref b12)])) _
    refine XS.lload X12.here hx rfl (hb hby at_77) rfl ?_
    show Steps p.tables e below (T12.setTop (mkF m 79 #[.val (.int p1), .val (.long q2), .second, .val (.int p3), .val (.int p4), .val (.int p5), .val (.int p6), .val (.ref w7), .val (.int (p1 &&& (2147483647 : Int32))), .val (.long ((2147483647 : Int64) - ((p1 &&& (2147483647 : Int32)).toInt64))), .second, .val (.long ((q2 &&& (9223372036854775807 : Int64)) - (q2 &&& (9223372036854775807 : Int64)) / (((2147483647 : Int64) - ((p1 &&& (2147483647 : Int32)).toInt64)) + (1 : Int64)) * (((2147483647 : Int64) - ((p1 &&& (2147483647 : Int32)).toInt64)) + (1 : Int64)))), .second, .val (.ref b9), .unset, .unset, .unset, .unset] [(.long ((q2 &&& (9223372036854775807 : Int64)) - (q2 &&& (9223372036854775807 : Int64)) / (((2147483647 : Int64) - ((p1 &&& (2147483647 : Int32)).toInt64)) + (1 : Int64)) * (((2147483647 : Int64) - ((p1 &&& (2147483647 : Int32)).toInt64)) + (1 : Int64)))), (.int p4), (.int p5), (.ref b9), (.ref w7), (.ref b12), (.ref b12)])) _
    refine st13.trans ?_
    show Steps p.tables e below (T13.setTop (mkF m 82 #[.val (.int p1), .val (.long q2), .second, .val (.int p3), .val (.int p4), .val (.int p5), .val (.int p6), .val (.ref w7), .val (.int (p1 &&& (2147483647 : Int32))), .val (.long ((2147483647 : Int64) - ((p1 &&& (2147483647 : Int32)).toInt64))), .second, .val (.long ((q2 &&& (9223372036854775807 : Int64)) - (q2 &&& (9223372036854775807 : Int64)) / (((2147483647 : Int64) - ((p1 &&& (2147483647 : Int32)).toInt64)) + (1 : Int64)) * (((2147483647 : Int64) - ((p1 &&& (2147483647 : Int32)).toInt64)) + (1 : Int64)))), .second, .val (.ref b9), .unset, .unset, .unset, .unset] [(.ref b12)])) _
    refine XS.astore X13.here hx rfl (hb hby at_82) rfl rfl (l' := #[.val (.int p1), .val (.long q2), .second, .val (.int p3), .val (.int p4), .val (.int p5), .val (.int p6), .val (.ref w7), .val (.int (p1 &&& (2147483647 : Int32))), .val (.long ((2147483647 : Int64) - ((p1 &&& (2147483647 : Int32)).toInt64))), .second, .val (.long ((q2 &&& (9223372036854775807 : Int64)) - (q2 &&& (9223372036854775807 : Int64)) / (((2147483647 : Int64) - ((p1 &&& (2147483647 : Int32)).toInt64)) + (1 : Int64)) * (((2147483647 : Int64) - ((p1 &&& (2147483647 : Int32)).toInt64)) + (1 : Int64)))), .second, .val (.ref b9), .val (.ref b12), .unset, .unset, .unset]) rfl ?_
    show Steps p.tables e below (T13.setTop (mkF m 84 #[.val (.int p1), .val (.long q2), .second, .val (.int p3), .val (.int p4), .val (.int p5), .val (.int p6), .val (.ref w7), .val (.int (p1 &&& (2147483647 : Int32))), .val (.long ((2147483647 : Int64) - ((p1 &&& (2147483647 : Int32)).toInt64))), .second, .val (.long ((q2 &&& (9223372036854775807 : Int64)) - (q2 &&& (9223372036854775807 : Int64)) / (((2147483647 : Int64) - ((p1 &&& (2147483647 : Int32)).toInt64)) + (1 : Int64)) * (((2147483647 : Int64) - ((p1 &&& (2147483647 : Int32)).toInt64)) + (1 : Int64)))), .second, .val (.ref b9), .val (.ref b12), .unset, .unset, .unset] [])) _
    refine XS.iload X13.here hx rfl (hb hby at_84) rfl ?_
    show Steps p.tables e below (T13.setTop (mkF m 86 #[.val (.int p1), .val (.long q2), .second, .val (.int p3), .val (.int p4), .val (.int p5), .val (.int p6), .val (.ref w7), .val (.int (p1 &&& (2147483647 : Int32))), .val (.long ((2147483647 : Int64) - ((p1 &&& (2147483647 : Int32)).toInt64))), .second, .val (.long ((q2 &&& (9223372036854775807 : Int64)) - (q2 &&& (9223372036854775807 : Int64)) / (((2147483647 : Int64) - ((p1 &&& (2147483647 : Int32)).toInt64)) + (1 : Int64)) * (((2147483647 : Int64) - ((p1 &&& (2147483647 : Int32)).toInt64)) + (1 : Int64)))), .second, .val (.ref b9), .val (.ref b12), .unset, .unset, .unset] [(.int (p1 &&& (2147483647 : Int32)))])) _
    refine XS.i2l X13.here hx rfl (hb hby at_86) rfl ?_
    show Steps p.tables e below (T13.setTop (mkF m 87 #[.val (.int p1), .val (.long q2), .second, .val (.int p3), .val (.int p4), .val (.int p5), .val (.int p6), .val (.ref w7), .val (.int (p1 &&& (2147483647 : Int32))), .val (.long ((2147483647 : Int64) - ((p1 &&& (2147483647 : Int32)).toInt64))), .second, .val (.long ((q2 &&& (9223372036854775807 : Int64)) - (q2 &&& (9223372036854775807 : Int64)) / (((2147483647 : Int64) - ((p1 &&& (2147483647 : Int32)).toInt64)) + (1 : Int64)) * (((2147483647 : Int64) - ((p1 &&& (2147483647 : Int32)).toInt64)) + (1 : Int64)))), .second, .val (.ref b9), .val (.ref b12), .unset, .unset, .unset] [(.long ((p1 &&& (2147483647 : Int32)).toInt64))])) _
    refine XS.lload X13.here hx rfl (hb hby at_87) rfl ?_
    show Steps p.tables e below (T13.setTop (mkF m 89 #[.val (.int p1), .val (.long q2), .second, .val (.int p3), .val (.int p4), .val (.int p5), .val (.int p6), .val (.ref w7), .val (.int (p1 &&& (2147483647 : Int32))), .val (.long ((2147483647 : Int64) - ((p1 &&& (2147483647 : Int32)).toInt64))), .second, .val (.long ((q2 &&& (9223372036854775807 : Int64)) - (q2 &&& (9223372036854775807 : Int64)) / (((2147483647 : Int64) - ((p1 &&& (2147483647 : Int32)).toInt64)) + (1 : Int64)) * (((2147483647 : Int64) - ((p1 &&& (2147483647 : Int32)).toInt64)) + (1 : Int64)))), .second, .val (.ref b9), .val (.ref b12), .unset, .unset, .unset] [(.long ((q2 &&& (9223372036854775807 : Int64)) - (q2 &&& (9223372036854775807 : Int64)) / (((2147483647 : Int64) - ((p1 &&& (2147483647 : Int32)).toInt64)) + (1 : Int64)) * (((2147483647 : Int64) - ((p1 &&& (2147483647 : Int32)).toInt64)) + (1 : Int64)))), (.long ((p1 &&& (2147483647 : Int32)).toInt64))])) _
    refine XS.ladd X13.here hx rfl (hb hby at_89) rfl ?_
    show Steps p.tables e below (T13.setTop (mkF m 90 #[.val (.int p1), .val (.long q2), .second, .val (.int p3), .val (.int p4), .val (.int p5), .val (.int p6), .val (.ref w7), .val (.int (p1 &&& (2147483647 : Int32))), .val (.long ((2147483647 : Int64) - ((p1 &&& (2147483647 : Int32)).toInt64))), .second, .val (.long ((q2 &&& (9223372036854775807 : Int64)) - (q2 &&& (9223372036854775807 : Int64)) / (((2147483647 : Int64) - ((p1 &&& (2147483647 : Int32)).toInt64)) + (1 : Int64)) * (((2147483647 : Int64) - ((p1 &&& (2147483647 : Int32)).toInt64)) + (1 : Int64)))), .second, .val (.ref b9), .val (.ref b12), .unset, .unset, .unset] [(.long (((p1 &&& (2147483647 : Int32)).toInt64) + ((q2 &&& (9223372036854775807 : Int64)) - (q2 &&& (9223372036854775807 : Int64)) / (((2147483647 : Int64) - ((p1 &&& (2147483647 : Int32)).toInt64)) + (1 : Int64)) * (((2147483647 : Int64) - ((p1 &&& (2147483647 : Int32)).toInt64)) + (1 : Int64)))))])) _
    refine XS.lstore X13.here hx rfl (hb hby at_90) rfl (l' := #[.val (.int p1), .val (.long q2), .second, .val (.int p3), .val (.int p4), .val (.int p5), .val (.int p6), .val (.ref w7), .val (.int (p1 &&& (2147483647 : Int32))), .val (.long ((2147483647 : Int64) - ((p1 &&& (2147483647 : Int32)).toInt64))), .second, .val (.long ((q2 &&& (9223372036854775807 : Int64)) - (q2 &&& (9223372036854775807 : Int64)) / (((2147483647 : Int64) - ((p1 &&& (2147483647 : Int32)).toInt64)) + (1 : Int64)) * (((2147483647 : Int64) - ((p1 &&& (2147483647 : Int32)).toInt64)) + (1 : Int64)))), .second, .val (.ref b9), .val (.ref b12), .val (.long (((p1 &&& (2147483647 : Int32)).toInt64) + ((q2 &&& (9223372036854775807 : Int64)) - (q2 &&& (9223372036854775807 : Int64)) / (((2147483647 : Int64) - ((p1 &&& (2147483647 : Int32)).toInt64)) + (1 : Int64)) * (((2147483647 : Int64) - ((p1 &&& (2147483647 : Int32)).toInt64)) + (1 : Int64))))), .second, .unset]) rfl ?_
    show Steps p.tables e below (T13.setTop (mkF m 92 #[.val (.int p1), .val (.long q2), .second, .val (.int p3), .val (.int p4), .val (.int p5), .val (.int p6), .val (.ref w7), .val (.int (p1 &&& (2147483647 : Int32))), .val (.long ((2147483647 : Int64) - ((p1 &&& (2147483647 : Int32)).toInt64))), .second, .val (.long ((q2 &&& (9223372036854775807 : Int64)) - (q2 &&& (9223372036854775807 : Int64)) / (((2147483647 : Int64) - ((p1 &&& (2147483647 : Int32)).toInt64)) + (1 : Int64)) * (((2147483647 : Int64) - ((p1 &&& (2147483647 : Int32)).toInt64)) + (1 : Int64)))), .second, .val (.ref b9), .val (.ref b12), .val (.long (((p1 &&& (2147483647 : Int32)).toInt64) + ((q2 &&& (9223372036854775807 : Int64)) - (q2 &&& (9223372036854775807 : Int64)) / (((2147483647 : Int64) - ((p1 &&& (2147483647 : Int32)).toInt64)) + (1 : Int64)) * (((2147483647 : Int64) - ((p1 &&& (2147483647 : Int32)).toInt64)) + (1 : Int64))))), .second, .unset] [])) _
    refine XS.aload X13.here hx rfl (hb hby at_92) rfl rfl ?_
    show Steps p.tables e below (T13.setTop (mkF m 94 #[.val (.int p1), .val (.long q2), .second, .val (.int p3), .val (.int p4), .val (.int p5), .val (.int p6), .val (.ref w7), .val (.int (p1 &&& (2147483647 : Int32))), .val (.long ((2147483647 : Int64) - ((p1 &&& (2147483647 : Int32)).toInt64))), .second, .val (.long ((q2 &&& (9223372036854775807 : Int64)) - (q2 &&& (9223372036854775807 : Int64)) / (((2147483647 : Int64) - ((p1 &&& (2147483647 : Int32)).toInt64)) + (1 : Int64)) * (((2147483647 : Int64) - ((p1 &&& (2147483647 : Int32)).toInt64)) + (1 : Int64)))), .second, .val (.ref b9), .val (.ref b12), .val (.long (((p1 &&& (2147483647 : Int32)).toInt64) + ((q2 &&& (9223372036854775807 : Int64)) - (q2 &&& (9223372036854775807 : Int64)) / (((2147483647 : Int64) - ((p1 &&& (2147483647 : Int32)).toInt64)) + (1 : Int64)) * (((2147483647 : Int64) - ((p1 &&& (2147483647 : Int32)).toInt64)) + (1 : Int64))))), .second, .unset] [(.ref b12)])) _
    refine st14.trans ?_
    show Steps p.tables e below (T14.setTop (mkF m 97 #[.val (.int p1), .val (.long q2), .second, .val (.int p3), .val (.int p4), .val (.int p5), .val (.int p6), .val (.ref w7), .val (.int (p1 &&& (2147483647 : Int32))), .val (.long ((2147483647 : Int64) - ((p1 &&& (2147483647 : Int32)).toInt64))), .second, .val (.long ((q2 &&& (9223372036854775807 : Int64)) - (q2 &&& (9223372036854775807 : Int64)) / (((2147483647 : Int64) - ((p1 &&& (2147483647 : Int32)).toInt64)) + (1 : Int64)) * (((2147483647 : Int64) - ((p1 &&& (2147483647 : Int32)).toInt64)) + (1 : Int64)))), .second, .val (.ref b9), .val (.ref b12), .val (.long (((p1 &&& (2147483647 : Int32)).toInt64) + ((q2 &&& (9223372036854775807 : Int64)) - (q2 &&& (9223372036854775807 : Int64)) / (((2147483647 : Int64) - ((p1 &&& (2147483647 : Int32)).toInt64)) + (1 : Int64)) * (((2147483647 : Int64) - ((p1 &&& (2147483647 : Int32)).toInt64)) + (1 : Int64))))), .second, .unset] [(.int ((p1 &&& (2147483647 : Int32)) + (((q2 &&& (9223372036854775807 : Int64)) - (q2 &&& (9223372036854775807 : Int64)) / (((2147483647 : Int64) - ((p1 &&& (2147483647 : Int32)).toInt64)) + (1 : Int64)) * (((2147483647 : Int64) - ((p1 &&& (2147483647 : Int32)).toInt64)) + (1 : Int64))).toInt32)))])) _
    refine XS.istore X14.here hx rfl (hb hby at_97) rfl (l' := #[.val (.int p1), .val (.long q2), .second, .val (.int p3), .val (.int p4), .val (.int p5), .val (.int p6), .val (.ref w7), .val (.int (p1 &&& (2147483647 : Int32))), .val (.long ((2147483647 : Int64) - ((p1 &&& (2147483647 : Int32)).toInt64))), .second, .val (.long ((q2 &&& (9223372036854775807 : Int64)) - (q2 &&& (9223372036854775807 : Int64)) / (((2147483647 : Int64) - ((p1 &&& (2147483647 : Int32)).toInt64)) + (1 : Int64)) * (((2147483647 : Int64) - ((p1 &&& (2147483647 : Int32)).toInt64)) + (1 : Int64)))), .second, .val (.ref b9), .val (.ref b12), .val (.long (((p1 &&& (2147483647 : Int32)).toInt64) + ((q2 &&& (9223372036854775807 : Int64)) - (q2 &&& (9223372036854775807 : Int64)) / (((2147483647 : Int64) - ((p1 &&& (2147483647 : Int32)).toInt64)) + (1 : Int64)) * (((2147483647 : Int64) - ((p1 &&& (2147483647 : Int32)).toInt64)) + (1 : Int64))))), .second, .val (.int ((p1 &&& (2147483647 : Int32)) + (((q2 &&& (9223372036854775807 : Int64)) - (q2 &&& (9223372036854775807 : Int64)) / (((2147483647 : Int64) - ((p1 &&& (2147483647 : Int32)).toInt64)) + (1 : Int64)) * (((2147483647 : Int64) - ((p1 &&& (2147483647 : Int32)).toInt64)) + (1 : Int64))).toInt32)))]) rfl ?_
    show Steps p.tables e below (T14.setTop (mkF m 99 #[.val (.int p1), .val (.long q2), .second, .val (.int p3), .val (.int p4), .val (.int p5), .val (.int p6), .val (.ref w7), .val (.int (p1 &&& (2147483647 : Int32))), .val (.long ((2147483647 : Int64) - ((p1 &&& (2147483647 : Int32)).toInt64))), .second, .val (.long ((q2 &&& (9223372036854775807 : Int64)) - (q2 &&& (9223372036854775807 : Int64)) / (((2147483647 : Int64) - ((p1 &&& (2147483647 : Int32)).toInt64)) + (1 : Int64)) * (((2147483647 : Int64) - ((p1 &&& (2147483647 : Int32)).toInt64)) + (1 : Int64)))), .second, .val (.ref b9), .val (.ref b12), .val (.long (((p1 &&& (2147483647 : Int32)).toInt64) + ((q2 &&& (9223372036854775807 : Int64)) - (q2 &&& (9223372036854775807 : Int64)) / (((2147483647 : Int64) - ((p1 &&& (2147483647 : Int32)).toInt64)) + (1 : Int64)) * (((2147483647 : Int64) - ((p1 &&& (2147483647 : Int32)).toInt64)) + (1 : Int64))))), .second, .val (.int ((p1 &&& (2147483647 : Int32)) + (((q2 &&& (9223372036854775807 : Int64)) - (q2 &&& (9223372036854775807 : Int64)) / (((2147483647 : Int64) - ((p1 &&& (2147483647 : Int32)).toInt64)) + (1 : Int64)) * (((2147483647 : Int64) - ((p1 &&& (2147483647 : Int32)).toInt64)) + (1 : Int64))).toInt32)))] [])) _
    refine XS.iload X14.here hx rfl (hb hby at_99) rfl ?_
    show Steps p.tables e below (T14.setTop (mkF m 101 #[.val (.int p1), .val (.long q2), .second, .val (.int p3), .val (.int p4), .val (.int p5), .val (.int p6), .val (.ref w7), .val (.int (p1 &&& (2147483647 : Int32))), .val (.long ((2147483647 : Int64) - ((p1 &&& (2147483647 : Int32)).toInt64))), .second, .val (.long ((q2 &&& (9223372036854775807 : Int64)) - (q2 &&& (9223372036854775807 : Int64)) / (((2147483647 : Int64) - ((p1 &&& (2147483647 : Int32)).toInt64)) + (1 : Int64)) * (((2147483647 : Int64) - ((p1 &&& (2147483647 : Int32)).toInt64)) + (1 : Int64)))), .second, .val (.ref b9), .val (.ref b12), .val (.long (((p1 &&& (2147483647 : Int32)).toInt64) + ((q2 &&& (9223372036854775807 : Int64)) - (q2 &&& (9223372036854775807 : Int64)) / (((2147483647 : Int64) - ((p1 &&& (2147483647 : Int32)).toInt64)) + (1 : Int64)) * (((2147483647 : Int64) - ((p1 &&& (2147483647 : Int32)).toInt64)) + (1 : Int64))))), .second, .val (.int ((p1 &&& (2147483647 : Int32)) + (((q2 &&& (9223372036854775807 : Int64)) - (q2 &&& (9223372036854775807 : Int64)) / (((2147483647 : Int64) - ((p1 &&& (2147483647 : Int32)).toInt64)) + (1 : Int64)) * (((2147483647 : Int64) - ((p1 &&& (2147483647 : Int32)).toInt64)) + (1 : Int64))).toInt32)))] [(.int ((p1 &&& (2147483647 : Int32)) + (((q2 &&& (9223372036854775807 : Int64)) - (q2 &&& (9223372036854775807 : Int64)) / (((2147483647 : Int64) - ((p1 &&& (2147483647 : Int32)).toInt64)) + (1 : Int64)) * (((2147483647 : Int64) - ((p1 &&& (2147483647 : Int32)).toInt64)) + (1 : Int64))).toInt32)))])) _
    refine XS.i2l X14.here hx rfl (hb hby at_101) rfl ?_
    show Steps p.tables e below (T14.setTop (mkF m 102 #[.val (.int p1), .val (.long q2), .second, .val (.int p3), .val (.int p4), .val (.int p5), .val (.int p6), .val (.ref w7), .val (.int (p1 &&& (2147483647 : Int32))), .val (.long ((2147483647 : Int64) - ((p1 &&& (2147483647 : Int32)).toInt64))), .second, .val (.long ((q2 &&& (9223372036854775807 : Int64)) - (q2 &&& (9223372036854775807 : Int64)) / (((2147483647 : Int64) - ((p1 &&& (2147483647 : Int32)).toInt64)) + (1 : Int64)) * (((2147483647 : Int64) - ((p1 &&& (2147483647 : Int32)).toInt64)) + (1 : Int64)))), .second, .val (.ref b9), .val (.ref b12), .val (.long (((p1 &&& (2147483647 : Int32)).toInt64) + ((q2 &&& (9223372036854775807 : Int64)) - (q2 &&& (9223372036854775807 : Int64)) / (((2147483647 : Int64) - ((p1 &&& (2147483647 : Int32)).toInt64)) + (1 : Int64)) * (((2147483647 : Int64) - ((p1 &&& (2147483647 : Int32)).toInt64)) + (1 : Int64))))), .second, .val (.int ((p1 &&& (2147483647 : Int32)) + (((q2 &&& (9223372036854775807 : Int64)) - (q2 &&& (9223372036854775807 : Int64)) / (((2147483647 : Int64) - ((p1 &&& (2147483647 : Int32)).toInt64)) + (1 : Int64)) * (((2147483647 : Int64) - ((p1 &&& (2147483647 : Int32)).toInt64)) + (1 : Int64))).toInt32)))] [(.long (((p1 &&& (2147483647 : Int32)) + (((q2 &&& (9223372036854775807 : Int64)) - (q2 &&& (9223372036854775807 : Int64)) / (((2147483647 : Int64) - ((p1 &&& (2147483647 : Int32)).toInt64)) + (1 : Int64)) * (((2147483647 : Int64) - ((p1 &&& (2147483647 : Int32)).toInt64)) + (1 : Int64))).toInt32)).toInt64))])) _
    refine XS.lload X14.here hx rfl (hb hby at_102) rfl ?_
    show Steps p.tables e below (T14.setTop (mkF m 104 #[.val (.int p1), .val (.long q2), .second, .val (.int p3), .val (.int p4), .val (.int p5), .val (.int p6), .val (.ref w7), .val (.int (p1 &&& (2147483647 : Int32))), .val (.long ((2147483647 : Int64) - ((p1 &&& (2147483647 : Int32)).toInt64))), .second, .val (.long ((q2 &&& (9223372036854775807 : Int64)) - (q2 &&& (9223372036854775807 : Int64)) / (((2147483647 : Int64) - ((p1 &&& (2147483647 : Int32)).toInt64)) + (1 : Int64)) * (((2147483647 : Int64) - ((p1 &&& (2147483647 : Int32)).toInt64)) + (1 : Int64)))), .second, .val (.ref b9), .val (.ref b12), .val (.long (((p1 &&& (2147483647 : Int32)).toInt64) + ((q2 &&& (9223372036854775807 : Int64)) - (q2 &&& (9223372036854775807 : Int64)) / (((2147483647 : Int64) - ((p1 &&& (2147483647 : Int32)).toInt64)) + (1 : Int64)) * (((2147483647 : Int64) - ((p1 &&& (2147483647 : Int32)).toInt64)) + (1 : Int64))))), .second, .val (.int ((p1 &&& (2147483647 : Int32)) + (((q2 &&& (9223372036854775807 : Int64)) - (q2 &&& (9223372036854775807 : Int64)) / (((2147483647 : Int64) - ((p1 &&& (2147483647 : Int32)).toInt64)) + (1 : Int64)) * (((2147483647 : Int64) - ((p1 &&& (2147483647 : Int32)).toInt64)) + (1 : Int64))).toInt32)))] [(.long (((p1 &&& (2147483647 : Int32)).toInt64) + ((q2 &&& (9223372036854775807 : Int64)) - (q2 &&& (9223372036854775807 : Int64)) / (((2147483647 : Int64) - ((p1 &&& (2147483647 : Int32)).toInt64)) + (1 : Int64)) * (((2147483647 : Int64) - ((p1 &&& (2147483647 : Int32)).toInt64)) + (1 : Int64))))), (.long (((p1 &&& (2147483647 : Int32)) + (((q2 &&& (9223372036854775807 : Int64)) - (q2 &&& (9223372036854775807 : Int64)) / (((2147483647 : Int64) - ((p1 &&& (2147483647 : Int32)).toInt64)) + (1 : Int64)) * (((2147483647 : Int64) - ((p1 &&& (2147483647 : Int32)).toInt64)) + (1 : Int64))).toInt32)).toInt64))])) _
    refine XS.lcmp X14.here hx rfl (hb hby at_104) rfl ?_
    show Steps p.tables e below (T14.setTop (mkF m 105 #[.val (.int p1), .val (.long q2), .second, .val (.int p3), .val (.int p4), .val (.int p5), .val (.int p6), .val (.ref w7), .val (.int (p1 &&& (2147483647 : Int32))), .val (.long ((2147483647 : Int64) - ((p1 &&& (2147483647 : Int32)).toInt64))), .second, .val (.long ((q2 &&& (9223372036854775807 : Int64)) - (q2 &&& (9223372036854775807 : Int64)) / (((2147483647 : Int64) - ((p1 &&& (2147483647 : Int32)).toInt64)) + (1 : Int64)) * (((2147483647 : Int64) - ((p1 &&& (2147483647 : Int32)).toInt64)) + (1 : Int64)))), .second, .val (.ref b9), .val (.ref b12), .val (.long (((p1 &&& (2147483647 : Int32)).toInt64) + ((q2 &&& (9223372036854775807 : Int64)) - (q2 &&& (9223372036854775807 : Int64)) / (((2147483647 : Int64) - ((p1 &&& (2147483647 : Int32)).toInt64)) + (1 : Int64)) * (((2147483647 : Int64) - ((p1 &&& (2147483647 : Int32)).toInt64)) + (1 : Int64))))), .second, .val (.int ((p1 &&& (2147483647 : Int32)) + (((q2 &&& (9223372036854775807 : Int64)) - (q2 &&& (9223372036854775807 : Int64)) / (((2147483647 : Int64) - ((p1 &&& (2147483647 : Int32)).toInt64)) + (1 : Int64)) * (((2147483647 : Int64) - ((p1 &&& (2147483647 : Int32)).toInt64)) + (1 : Int64))).toInt32)))] [(.int (lcmpW (((p1 &&& (2147483647 : Int32)) + (((q2 &&& (9223372036854775807 : Int64)) - (q2 &&& (9223372036854775807 : Int64)) / (((2147483647 : Int64) - ((p1 &&& (2147483647 : Int32)).toInt64)) + (1 : Int64)) * (((2147483647 : Int64) - ((p1 &&& (2147483647 : Int32)).toInt64)) + (1 : Int64))).toInt32)).toInt64) (((p1 &&& (2147483647 : Int32)).toInt64) + ((q2 &&& (9223372036854775807 : Int64)) - (q2 &&& (9223372036854775807 : Int64)) / (((2147483647 : Int64) - ((p1 &&& (2147483647 : Int32)).toInt64)) + (1 : Int64)) * (((2147483647 : Int64) - ((p1 &&& (2147483647 : Int32)).toInt64)) + (1 : Int64))))))])) _
    refine XS.ifNo X14.here hx rfl (hb hby at_105) rfl ((if0 _ _).trans (teq (own_arith p1 q2).2).2) ?_
    show Steps p.tables e below (T14.setTop (mkF m 108 #[.val (.int p1), .val (.long q2), .second, .val (.int p3), .val (.int p4), .val (.int p5), .val (.int p6), .val (.ref w7), .val (.int (p1 &&& (2147483647 : Int32))), .val (.long ((2147483647 : Int64) - ((p1 &&& (2147483647 : Int32)).toInt64))), .second, .val (.long ((q2 &&& (9223372036854775807 : Int64)) - (q2 &&& (9223372036854775807 : Int64)) / (((2147483647 : Int64) - ((p1 &&& (2147483647 : Int32)).toInt64)) + (1 : Int64)) * (((2147483647 : Int64) - ((p1 &&& (2147483647 : Int32)).toInt64)) + (1 : Int64)))), .second, .val (.ref b9), .val (.ref b12), .val (.long (((p1 &&& (2147483647 : Int32)).toInt64) + ((q2 &&& (9223372036854775807 : Int64)) - (q2 &&& (9223372036854775807 : Int64)) / (((2147483647 : Int64) - ((p1 &&& (2147483647 : Int32)).toInt64)) + (1 : Int64)) * (((2147483647 : Int64) - ((p1 &&& (2147483647 : Int32)).toInt64)) + (1 : Int64))))), .second, .val (.int ((p1 &&& (2147483647 : Int32)) + (((q2 &&& (9223372036854775807 : Int64)) - (q2 &&& (9223372036854775807 : Int64)) / (((2147483647 : Int64) - ((p1 &&& (2147483647 : Int32)).toInt64)) + (1 : Int64)) * (((2147483647 : Int64) - ((p1 &&& (2147483647 : Int32)).toInt64)) + (1 : Int64))).toInt32)))] [])) _
    refine XS.iconst X14.here hx rfl (hb hby at_108) ?_
    show Steps p.tables e below (T14.setTop (mkF m 109 #[.val (.int p1), .val (.long q2), .second, .val (.int p3), .val (.int p4), .val (.int p5), .val (.int p6), .val (.ref w7), .val (.int (p1 &&& (2147483647 : Int32))), .val (.long ((2147483647 : Int64) - ((p1 &&& (2147483647 : Int32)).toInt64))), .second, .val (.long ((q2 &&& (9223372036854775807 : Int64)) - (q2 &&& (9223372036854775807 : Int64)) / (((2147483647 : Int64) - ((p1 &&& (2147483647 : Int32)).toInt64)) + (1 : Int64)) * (((2147483647 : Int64) - ((p1 &&& (2147483647 : Int32)).toInt64)) + (1 : Int64)))), .second, .val (.ref b9), .val (.ref b12), .val (.long (((p1 &&& (2147483647 : Int32)).toInt64) + ((q2 &&& (9223372036854775807 : Int64)) - (q2 &&& (9223372036854775807 : Int64)) / (((2147483647 : Int64) - ((p1 &&& (2147483647 : Int32)).toInt64)) + (1 : Int64)) * (((2147483647 : Int64) - ((p1 &&& (2147483647 : Int32)).toInt64)) + (1 : Int64))))), .second, .val (.int ((p1 &&& (2147483647 : Int32)) + (((q2 &&& (9223372036854775807 : Int64)) - (q2 &&& (9223372036854775807 : Int64)) / (((2147483647 : Int64) - ((p1 &&& (2147483647 : Int32)).toInt64)) + (1 : Int64)) * (((2147483647 : Int64) - ((p1 &&& (2147483647 : Int32)).toInt64)) + (1 : Int64))).toInt32)))] [(.int (1 : Int32))])) _
    refine XS.goto X14.here hx rfl (pc0 := 109) (pc' := 113) rfl (hb hby at_109) (by decide) (by decide) ?_
    show Steps p.tables e below (T14.setTop (mkF m 113 #[.val (.int p1), .val (.long q2), .second, .val (.int p3), .val (.int p4), .val (.int p5), .val (.int p6), .val (.ref w7), .val (.int (p1 &&& (2147483647 : Int32))), .val (.long ((2147483647 : Int64) - ((p1 &&& (2147483647 : Int32)).toInt64))), .second, .val (.long ((q2 &&& (9223372036854775807 : Int64)) - (q2 &&& (9223372036854775807 : Int64)) / (((2147483647 : Int64) - ((p1 &&& (2147483647 : Int32)).toInt64)) + (1 : Int64)) * (((2147483647 : Int64) - ((p1 &&& (2147483647 : Int32)).toInt64)) + (1 : Int64)))), .second, .val (.ref b9), .val (.ref b12), .val (.long (((p1 &&& (2147483647 : Int32)).toInt64) + ((q2 &&& (9223372036854775807 : Int64)) - (q2 &&& (9223372036854775807 : Int64)) / (((2147483647 : Int64) - ((p1 &&& (2147483647 : Int32)).toInt64)) + (1 : Int64)) * (((2147483647 : Int64) - ((p1 &&& (2147483647 : Int32)).toInt64)) + (1 : Int64))))), .second, .val (.int ((p1 &&& (2147483647 : Int32)) + (((q2 &&& (9223372036854775807 : Int64)) - (q2 &&& (9223372036854775807 : Int64)) / (((2147483647 : Int64) - ((p1 &&& (2147483647 : Int32)).toInt64)) + (1 : Int64)) * (((2147483647 : Int64) - ((p1 &&& (2147483647 : Int32)).toInt64)) + (1 : Int64))).toInt32)))] [(.int (1 : Int32))])) _
    exact retN X14 hx (t := .boolean) Bd.returns (by simp) (hb hby at_113) hr
  · show Q0ff Z p1 q2 p3 p4 p5 p6 w7 h0 n0 _ T14.heap _
    exact ⟨rfl, N14⟩
def Q0tf (Z : State) (p1 : Int32) (q2 : Int64) (p3 : Int32) (p4 : Int32) (p5 : Int32) (p6 : Int32) (w7 : Addr) (h0 : Heap) (n0 : Nat) (v : Option Value) (h : Heap) (L : List Loc) : Prop := v = some (.int (1 : Int32)) ∧ Fr n0 L
set_option maxRecDepth 65536 in
set_option maxHeartbeats 40000000 in
theorem rm0tf (l : Launch) (Z : State) (a0 : Array Value) (hw : ∀ d ∈ tables_1, d.before a0 Z = true) (ws : List Jvm.Cond) (p1 : Int32) (q2 : Int64) (p3 : Int32) (p4 : Int32) (p5 : Int32) (p6 : Int32) (w7 : Addr) (h0 : Heap) (n0 : Nat) (Z0 : n0 ≤ h0.size) (S_SUB : Sta Z h0 "com/example/seula/seula/ChunkKind" "SUB" "Lcom/example/seula/seula/ChunkKind;" (.ref w7)) (hc3 : ¬ ((p3 &&& (1 : Int32)) = (0 : Int32))) (hnz41 : ¬ ((((2147483647 : Int64) - ((p1 &&& (2147483647 : Int32)).toInt64)) + (1 : Int64)) = (0 : Int64))) (wc : Int32) (S_C : Sta Z h0 "java/lang/String" "COMPACT_STRINGS" "Z" (.int wc)) (hC : ¬ (wc = (0 : Int32))) :
    MetFree l x (head1 (Jvm.Cond.code x code maxLocals ret :: ws) room_1) (fun a U => a = #[(.int p1), (.long q2), (.int p3), (.int p4), (.int p5), (.int p6)] ∧ Z.Warmed39 U.vm ∧ U.heap = h0) (fun _ _ _ _ _ => True) (fun _ U o U' => ∃ v L, o = .returned v ∧ Q0tf Z p1 q2 p3 p4 p5 p6 w7 h0 n0 v U'.heap L ∧ FrameEnd U o U' L room_1.cells room_1.slots) := by
  refine MetFree.of_bodySF (plainFor_of_name pn_0) hisR ?_
  intro p e s m args below meth c s₁ Bd hml0 hP hK
  obtain ⟨rfl, hZ, hh⟩ := hP
  have hx := Bd.exec
  have hby := Bd.bytes
  have hml : c.maxLocals = 18 := hml0
  have hown : s.vm.findClass "com/example/seula/seula/ChunkHeadEndPinLaw" = some m.cls := findClass_of_methodNamed Bd.named
  have hnm := (name_of_methodNamed Bd.named Bd.method).1
  have X0 : Stand p l e room_1 s m #[(.int p1), (.long q2), (.int p3), (.int p4), (.int p5), (.int p6)] below meth c s₁ [] 0 0 := Stand.of_body Bd
  have e0 : s₁.heap = h0 := by rw [← hh, Bd.state]; rfl
  have N0 := Fr.nil n0
  have pre0 : ∀ t, Steps p.tables e below (s₁.setTop (mkF m 0 #[.val (.int p1), .val (.long q2), .second, .val (.int p3), .val (.int p4), .val (.int p5), .val (.int p6), .unset, .unset, .unset, .unset, .unset, .unset, .unset, .unset, .unset, .unset, .unset] [])) t → Steps p.tables e below (s₁.setTop (entryFrame m #[(.int p1), (.long q2), (.int p3), (.int p4), (.int p5), (.int p6)] maxLocals)) t := fun t k => castTop (ef_0 m p1 q2 p3 p4 p5 p6) k
  obtain ⟨T8, X8, e8, st8⟩ := getS2 X0 hx hZ hown (host := "") (Or.inl (hw _ (List.mem_of_getElem? (i := 0) rfl))) Via.refl e0 S_SUB (g := (mkF m 12 #[.val (.int p1), .val (.long q2), .second, .val (.int p3), .val (.int p4), .val (.int p5), .val (.int p6), .unset, .unset, .unset, .unset, .unset, .unset, .unset, .unset, .unset, .unset, .unset] [])) rfl (hb hby at_12)
  obtain ⟨T9, h9, X9, e9, E9, A9, D9, -, st9⟩ := newO X8 hx hZ hown (hw _ (List.mem_of_getElem? (i := 6) rfl)) (hw _ (List.mem_of_getElem? (i := 7) rfl)) (hw _ (List.mem_of_getElem? (i := 8) rfl)) e8 (g := (mkF m 44 #[.val (.int p1), .val (.long q2), .second, .val (.int p3), .val (.int p4), .val (.int p5), .val (.int p6), .val (.ref w7), .val (.int (p1 &&& (2147483647 : Int32))), .val (.long ((2147483647 : Int64) - ((p1 &&& (2147483647 : Int32)).toInt64))), .second, .val (.long ((q2 &&& (9223372036854775807 : Int64)) - (q2 &&& (9223372036854775807 : Int64)) / (((2147483647 : Int64) - ((p1 &&& (2147483647 : Int32)).toInt64)) + (1 : Int64)) * (((2147483647 : Int64) - ((p1 &&& (2147483647 : Int32)).toInt64)) + (1 : Int64)))), .second, .unset, .unset, .unset, .unset, .unset] [])) rfl (hb hby at_44) (by decide) (by decide)
  obtain ⟨b9, g9⟩ : ∃ z, z = h0.size := ⟨_, rfl⟩      -- the fresh object's address
  rw [← g9] at A9 D9 st9      -- A9 : Exa Z h9 b9 "com/example/seula/seula/HeadLine"; E9 : Ext h0 h9 (carries every older fact: .ext E9)
  have F_text_b9 : Fld Z h9 b9 "com/example/seula/seula/HeadLine" "text" "Ljava/lang/String;" .null := D9 (Or.inr (hw _ (List.mem_of_getElem? (i := 45) rfl))) (ty := (.object "java/lang/String")) (by decide)
  have F_end_b9 : Fld Z h9 b9 "com/example/seula/seula/HeadLine" "end" "I" (.int (0 : Int32)) := D9 (Or.inr (hw _ (List.mem_of_getElem? (i := 47) rfl))) (ty := .int) (by decide)
  have E_b9 := A9
  have g_b9 : n0 ≤ b9 := Nat.le_trans Z0 (Nat.le_of_eq g9.symm)
  have sz_b9 : h0.size ≤ b9 := (Nat.le_trans (Keep.refl h0 []).1 (Nat.le_of_eq g9.symm))
  have K9 : Keep h0 h9 [] := (Keep.refl h0 []).ext E9
  obtain ⟨_, _, ⟨T10, L10, k10, n10⟩, -, X10, ⟨Lc10, hQ10, l10, y10, z10⟩, st10⟩ := Jvm.LawKit.callS X9 hx (y := (⟨"java/lang/String", "valueOf", "(C)Ljava/lang/String;"⟩ : MethodName)) hown (mvT hZ (hw _ (List.mem_of_getElem? (i := 9) rfl))) (mvT hZ (hw _ (List.mem_of_getElem? (i := 10) rfl))) (mvT hZ (hw _ (List.mem_of_getElem? (i := 11) rfl))) (mvT hZ (hw _ (List.mem_of_getElem? (i := 12) rfl))) (by decide) (backOf (W := 2) (rm1 l Z a0 hw [] ((p6 &&& (255 : Int32)).toUInt32.toUInt16.toUInt32.toInt32) wc h9 n0 (Nat.le_trans Z0 K9.1) (own_staK S_C K9) hC (own_ch p6)) hZ (hw _ (List.mem_of_getElem? (i := 12) rfl)) (hw _ (List.mem_of_getElem? (i := 11) rfl)) (by decide) (by decide)) (g := (mkF m 55 #[.val (.int p1), .val (.long q2), .second, .val (.int p3), .val (.int p4), .val (.int p5), .val (.int p6), .val (.ref w7), .val (.int (p1 &&& (2147483647 : Int32))), .val (.long ((2147483647 : Int64) - ((p1 &&& (2147483647 : Int32)).toInt64))), .second, .val (.long ((q2 &&& (9223372036854775807 : Int64)) - (q2 &&& (9223372036854775807 : Int64)) / (((2147483647 : Int64) - ((p1 &&& (2147483647 : Int32)).toInt64)) + (1 : Int64)) * (((2147483647 : Int64) - ((p1 &&& (2147483647 : Int32)).toInt64)) + (1 : Int64)))), .second, .unset, .unset, .unset, .unset, .unset] [(.int ((p6 &&& (255 : Int32)).toUInt32.toUInt16.toUInt32.toInt32)), (.ref b9), (.ref b9)])) rfl (by rw [hml]; rfl) (argsL := [(.int ((p6 &&& (255 : Int32)).toUInt32.toUInt16.toUInt32.toInt32))]) (rest := [(.ref b9), (.ref b9)]) (lenOf pd_0_0 rfl) rfl (by show 2 * 0 + _ ≤ _; exact Nat.le_of_eq rfl) (hb hby at_55) (fun _ _ => ⟨rfl, e9, (Nat.le_of_ble_eq_true rfl), (Nat.le_of_ble_eq_true rfl)⟩)
  dsimp only [Pt.U, Pt.locs, Pt.cells, Pt.slots] at X10 l10 y10 z10 st10 hQ10
  subst l10 y10 z10
  obtain ⟨c10, rfl, N10q, K10⟩ := hQ10
  have N10 := Fr.app N0 N10q
  obtain ⟨_, _, ⟨T11, L11, k11, n11⟩, -, X11, ⟨Lc11, hQ11, l11, y11, z11⟩, st11⟩ := X10.specialBack hx (y := (⟨"com/example/seula/seula/HeadLine", "<init>", "(Ljava/lang/String;I)V"⟩ : MethodName)) rfl hown (mvT hZ (hw _ (List.mem_of_getElem? (i := 35) rfl))) (mvT hZ (hw _ (List.mem_of_getElem? (i := 36) rfl))) (mvT hZ (hw _ (List.mem_of_getElem? (i := 37) rfl))) (by decide) (backOf (W := 1) (rm6 l Z a0 hw [] b9 c10 (p1 &&& (2147483647 : Int32)) _ _ T10.heap n0 (Nat.le_trans (Nat.le_trans Z0 K9.1) K10.1) (E_b9.keep K10) (F_text_b9.keep K10 nin0) g_b9 (F_end_b9.keep K10 nin0)) hZ (hw _ (List.mem_of_getElem? (i := 37) rfl)) (hw _ (List.mem_of_getElem? (i := 8) rfl)) (by decide) (by decide)) (g := (mkF m 60 #[.val (.int p1), .val (.long q2), .second, .val (.int p3), .val (.int p4), .val (.int p5), .val (.int p6), .val (.ref w7), .val (.int (p1 &&& (2147483647 : Int32))), .val (.long ((2147483647 : Int64) - ((p1 &&& (2147483647 : Int32)).toInt64))), .second, .val (.long ((q2 &&& (9223372036854775807 : Int64)) - (q2 &&& (9223372036854775807 : Int64)) / (((2147483647 : Int64) - ((p1 &&& (2147483647 : Int32)).toInt64)) + (1 : Int64)) * (((2147483647 : Int64) - ((p1 &&& (2147483647 : Int32)).toInt64)) + (1 : Int64)))), .second, .unset, .unset, .unset, .unset, .unset] [(.int (p1 &&& (2147483647 : Int32))), (.ref c10), (.ref b9), (.ref b9)])) rfl (by rw [hml]; rfl) (Steps.refl _) (a := b9) (argsL := [(.ref c10), (.int (p1 &&& (2147483647 : Int32)))]) (rest := [(.ref b9)]) (lenOf pd_0_5 rfl) rfl (by show 2 * 0 + _ ≤ _; exact Nat.le_of_eq rfl) (hb hby at_60) (fun _ _ => ⟨rfl, rfl, (Nat.le_of_ble_eq_true rfl), (Nat.le_of_ble_eq_true rfl)⟩)
  dsimp only [Pt.U, Pt.locs, Pt.cells, Pt.slots] at X11 l11 y11 z11 st11 hQ11
  subst l11 y11 z11
  obtain ⟨rfl, N11q, K11, E11, F11⟩ := hQ11
  have KT11 : Keep h0 T11.heap [] := (K9.trans K10 all0).trans K11 (allS (Or.inr sz_b9) all0)
  have N11 := Fr.app N10 N11q
  obtain ⟨T12, h12, X12, e12, E12, A12, D12, -, st12⟩ := newO X11 hx hZ hown (hw _ (List.mem_of_getElem? (i := 48) rfl)) (hw _ (List.mem_of_getElem? (i := 49) rfl)) (hw _ (List.mem_of_getElem? (i := 50) rfl)) rfl (g := (mkF m 65 #[.val (.int p1), .val (.long q2), .second, .val (.int p3), .val (.int p4), .val (.int p5), .val (.int p6), .val (.ref w7), .val (.int (p1 &&& (2147483647 : Int32))), .val (.long ((2147483647 : Int64) - ((p1 &&& (2147483647 : Int32)).toInt64))), .second, .val (.long ((q2 &&& (9223372036854775807 : Int64)) - (q2 &&& (9223372036854775807 : Int64)) / (((2147483647 : Int64) - ((p1 &&& (2147483647 : Int32)).toInt64)) + (1 : Int64)) * (((2147483647 : Int64) - ((p1 &&& (2147483647 : Int32)).toInt64)) + (1 : Int64)))), .second, .val (.ref b9), .unset, .unset, .unset, .unset] [])) rfl (hb hby at_65) (by decide) (by decide)
  obtain ⟨b12, g12⟩ : ∃ z, z = T11.heap.size := ⟨_, rfl⟩      -- the fresh object's address
  rw [← g12] at A12 D12 st12      -- A12 : Exa Z h12 b12 "com/example/seula/seula/ChunkHead"; E12 : Ext T11.heap h12 (carries every older fact: .ext E12)
  have F_kind_b12 : Fld Z h12 b12 "com/example/seula/seula/ChunkHead" "kind" "Lcom/example/seula/seula/ChunkKind;" .null := D12 (Or.inr (hw _ (List.mem_of_getElem? (i := 56) rfl))) (ty := (.object "com/example/seula/seula/ChunkKind")) (by decide)
  have F_line_b12 : Fld Z h12 b12 "com/example/seula/seula/ChunkHead" "line" "Lcom/example/seula/seula/HeadLine;" .null := D12 (Or.inr (hw _ (List.mem_of_getElem? (i := 58) rfl))) (ty := (.object "com/example/seula/seula/HeadLine")) (by decide)
  have F_number_b12 : Fld Z h12 b12 "com/example/seula/seula/ChunkHead" "number" "I" (.int (0 : Int32)) := D12 (Or.inr (hw _ (List.mem_of_getElem? (i := 60) rfl))) (ty := .int) (by decide)
  have F_prefixBytes_b12 : Fld Z h12 b12 "com/example/seula/seula/ChunkHead" "prefixBytes" "I" (.int (0 : Int32)) := D12 (Or.inr (hw _ (List.mem_of_getElem? (i := 62) rfl))) (ty := .int) (by decide)
  have F_length_b12 : Fld Z h12 b12 "com/example/seula/seula/ChunkHead" "length" "J" (.long (0 : Int64)) := D12 (Or.inr (hw _ (List.mem_of_getElem? (i := 64) rfl))) (ty := .long) (by decide)
  have E_b12 := A12
  have g_b12 : n0 ≤ b12 := Nat.le_trans (Nat.le_trans (Nat.le_trans (Nat.le_trans Z0 E9.1) K10.1) K11.1) (Nat.le_of_eq g12.symm)
  have sz_b12 : h0.size ≤ b12 := (Nat.le_trans KT11.1 (Nat.le_of_eq g12.symm))
  have K12 : Keep h0 h12 [] := KT11.ext E12
  obtain ⟨_, _, ⟨T13, L13, k13, n13⟩, -, X13, ⟨Lc13, hQ13, l13, y13, z13⟩, st13⟩ := X12.specialBack hx (y := (⟨"com/example/seula/seula/ChunkHead", "<init>", "(Lcom/example/seula/seula/ChunkKind;Lcom/example/seula/seula/HeadLine;IIJ)V"⟩ : MethodName)) rfl hown (mvT hZ (hw _ (List.mem_of_getElem? (i := 51) rfl))) (mvT hZ (hw _ (List.mem_of_getElem? (i := 52) rfl))) (mvT hZ (hw _ (List.mem_of_getElem? (i := 53) rfl))) (by decide) (backOf (W := 1) (rm8 l Z a0 hw [] b12 w7 b9 p5 p4 ((q2 &&& (9223372036854775807 : Int64)) - (q2 &&& (9223372036854775807 : Int64)) / (((2147483647 : Int64) - ((p1 &&& (2147483647 : Int32)).toInt64)) + (1 : Int64)) * (((2147483647 : Int64) - ((p1 &&& (2147483647 : Int32)).toInt64)) + (1 : Int64))) _ _ _ _ _ h12 n0 (Nat.le_trans Z0 K12.1) E_b12 F_kind_b12 g_b12 F_line_b12 F_number_b12 F_prefixBytes_b12 F_length_b12) hZ (hw _ (List.mem_of_getElem? (i := 53) rfl)) (hw _ (List.mem_of_getElem? (i := 50) rfl)) (by decide) (by decide)) (g := (mkF m 79 #[.val (.int p1), .val (.long q2), .second, .val (.int p3), .val (.int p4), .val (.int p5), .val (.int p6), .val (.ref w7), .val (.int (p1 &&& (2147483647 : Int32))), .val (.long ((2147483647 : Int64) - ((p1 &&& (2147483647 : Int32)).toInt64))), .second, .val (.long ((q2 &&& (9223372036854775807 : Int64)) - (q2 &&& (9223372036854775807 : Int64)) / (((2147483647 : Int64) - ((p1 &&& (2147483647 : Int32)).toInt64)) + (1 : Int64)) * (((2147483647 : Int64) - ((p1 &&& (2147483647 : Int32)).toInt64)) + (1 : Int64)))), .second, .val (.ref b9), .unset, .unset, .unset, .unset] [(.long ((q2 &&& (9223372036854775807 : Int64)) - (q2 &&& (9223372036854775807 : Int64)) / (((2147483647 : Int64) - ((p1 &&& (2147483647 : Int32)).toInt64)) + (1 : Int64)) * (((2147483647 : Int64) - ((p1 &&& (2147483647 : Int32)).toInt64)) + (1 : Int64)))), (.int p4), (.int p5), (.ref b9), (.ref w7), (.ref b12), (.ref b12)])) rfl (by rw [hml]; rfl) (Steps.refl _) (a := b12) (argsL := [(.ref w7), (.ref b9), (.int p5), (.int p4), (.long ((q2 &&& (9223372036854775807 : Int64)) - (q2 &&& (9223372036854775807 : Int64)) / (((2147483647 : Int64) - ((p1 &&& (2147483647 : Int32)).toInt64)) + (1 : Int64)) * (((2147483647 : Int64) - ((p1 &&& (2147483647 : Int32)).toInt64)) + (1 : Int64))))]) (rest := [(.ref b12)]) (lenOf pd_0_6 rfl) rfl (by show 2 * 0 + _ ≤ _; exact Nat.le_of_eq rfl) (hb hby at_79) (fun _ _ => ⟨rfl, e12, (Nat.le_of_ble_eq_true rfl), (Nat.le_of_ble_eq_true rfl)⟩)
  dsimp only [Pt.U, Pt.locs, Pt.cells, Pt.slots] at X13 l13 y13 z13 st13 hQ13
  subst l13 y13 z13
  obtain ⟨rfl, N13q, K13, E13, F13l, F13n⟩ := hQ13
  have hne : b9 ≠ b12 := Nat.ne_of_lt (Nat.lt_of_lt_of_le E11.lt (Nat.le_of_eq g12.symm))
  have N13 := Fr.app N11 N13q
  obtain ⟨cq14, kq14, q14a, q14b, q14c⟩ := isOf hZ rfl E13
  obtain ⟨_, _, ⟨T14, L14, k14, n14⟩, -, X14, ⟨Lc14, hQ14, l14, y14, z14⟩, st14⟩ := X13.virtualBack hx (y := (⟨"com/example/seula/seula/ChunkHead", "end", "()I"⟩ : MethodName)) (z := (⟨"com/example/seula/seula/ChunkHead", "end", "()I"⟩ : MethodName)) hown (mvT hZ (hw _ (List.mem_of_getElem? (i := 65) rfl))) (mvT hZ (hw _ (List.mem_of_getElem? (i := 66) rfl))) (notFace_of_selects (args := #[]) (mvT hZ (hw _ (List.mem_of_getElem? (i := 68) rfl)))) (mvT hZ (hw _ (List.mem_of_getElem? (i := 68) rfl))) (mvT hZ (hw _ (List.mem_of_getElem? (i := 67) rfl))) (by decide) (backOf (W := 0) (rm9 l Z a0 hw [] b12 b9 ((q2 &&& (9223372036854775807 : Int64)) - (q2 &&& (9223372036854775807 : Int64)) / (((2147483647 : Int64) - ((p1 &&& (2147483647 : Int32)).toInt64)) + (1 : Int64)) * (((2147483647 : Int64) - ((p1 &&& (2147483647 : Int32)).toInt64)) + (1 : Int64))) (p1 &&& (2147483647 : Int32)) T13.heap n0 (Nat.le_trans (Nat.le_trans Z0 K12.1) K13.1) F13l ((E11.ext E12).keep K13) F13n ((F11.ext E12).keep K13 (ninS hne nin0))) hZ (hw _ (List.mem_of_getElem? (i := 69) rfl)) (hw _ (List.mem_of_getElem? (i := 50) rfl)) (by decide) (by decide)) q14a q14c (g := (mkF m 94 #[.val (.int p1), .val (.long q2), .second, .val (.int p3), .val (.int p4), .val (.int p5), .val (.int p6), .val (.ref w7), .val (.int (p1 &&& (2147483647 : Int32))), .val (.long ((2147483647 : Int64) - ((p1 &&& (2147483647 : Int32)).toInt64))), .second, .val (.long ((q2 &&& (9223372036854775807 : Int64)) - (q2 &&& (9223372036854775807 : Int64)) / (((2147483647 : Int64) - ((p1 &&& (2147483647 : Int32)).toInt64)) + (1 : Int64)) * (((2147483647 : Int64) - ((p1 &&& (2147483647 : Int32)).toInt64)) + (1 : Int64)))), .second, .val (.ref b9), .val (.ref b12), .val (.long (((p1 &&& (2147483647 : Int32)).toInt64) + ((q2 &&& (9223372036854775807 : Int64)) - (q2 &&& (9223372036854775807 : Int64)) / (((2147483647 : Int64) - ((p1 &&& (2147483647 : Int32)).toInt64)) + (1 : Int64)) * (((2147483647 : Int64) - ((p1 &&& (2147483647 : Int32)).toInt64)) + (1 : Int64))))), .second, .unset] [(.ref b12)])) rfl (by rw [hml]; rfl) (Steps.refl _) (argsL := []) (rest := []) (lenOf pd_0_7 rfl) rfl (by show 2 * 0 + _ ≤ _; exact Nat.le_of_eq rfl) (hb hby at_94) (fun _ _ => ⟨rfl, rfl, (Nat.le_of_ble_eq_true rfl), (Nat.le_of_ble_eq_true rfl)⟩)
  dsimp only [Pt.U, Pt.locs, Pt.cells, Pt.slots] at X14 l14 y14 z14 st14 hQ14
  subst l14 y14 z14
  obtain ⟨rfl, N14q, e14⟩ := hQ14
  have N14 := Fr.app N13 N14q
  obtain ⟨fs, hr, hrun, hended, hW, hsame⟩ := X14.leave (v := some (.int (1 : Int32))) (fun h => by rw [Bd.returns] at h; cases h)
  refine ⟨_, _, pre0 _ ?_, hrun, hended, _, _, rfl, ?_, ⟨_, rfl⟩, hW, hsame.mono (by decide) (by decide)⟩
  · show Steps p.tables e below (s₁.setTop (mkF m 0 #[.val (.int p1), .val (.long q2), .second, .val (.int p3), .val (.int p4), .val (.int p5), .val (.int p6), .unset, .unset, .unset, .unset, .unset, .unset, .unset, .unset, .unset, .unset, .unset] [])) _
    refine XS.iloadN X0.here hx rfl (hb hby at_0) rfl ?_
    show Steps p.tables e below (s₁.setTop (mkF m 1 #[.val (.int p1), .val (.long q2), .second, .val (.int p3), .val (.int p4), .val (.int p5), .val (.int p6), .unset, .unset, .unset, .unset, .unset, .unset, .unset, .unset, .unset, .unset, .unset] [(.int p3)])) _
    refine XS.iconst X0.here hx rfl (hb hby at_1) ?_
    show Steps p.tables e below (s₁.setTop (mkF m 2 #[.val (.int p1), .val (.long q2), .second, .val (.int p3), .val (.int p4), .val (.int p5), .val (.int p6), .unset, .unset, .unset, .unset, .unset, .unset, .unset, .unset, .unset, .unset, .unset] [(.int (1 : Int32)), (.int p3)])) _
    refine XS.iand X0.here hx rfl (hb hby at_2) rfl ?_
    show Steps p.tables e below (s₁.setTop (mkF m 3 #[.val (.int p1), .val (.long q2), .second, .val (.int p3), .val (.int p4), .val (.int p5), .val (.int p6), .unset, .unset, .unset, .unset, .unset, .unset, .unset, .unset, .unset, .unset, .unset] [(.int (p3 &&& (1 : Int32)))])) _
    refine XS.ifYes X0.here hx rfl (pc0 := 3) (pc' := 12) rfl (hb hby at_3) rfl ((if0 _ _).trans (feq hc3).2) (by decide) (by decide) ?_
    show Steps p.tables e below (s₁.setTop (mkF m 12 #[.val (.int p1), .val (.long q2), .second, .val (.int p3), .val (.int p4), .val (.int p5), .val (.int p6), .unset, .unset, .unset, .unset, .unset, .unset, .unset, .unset, .unset, .unset, .unset] [])) _
    refine st8 _ ?_
    show Steps p.tables e below (T8.setTop (mkF m 15 #[.val (.int p1), .val (.long q2), .second, .val (.int p3), .val (.int p4), .val (.int p5), .val (.int p6), .unset, .unset, .unset, .unset, .unset, .unset, .unset, .unset, .unset, .unset, .unset] [(.ref w7)])) _
    refine XS.astore X8.here hx rfl (hb hby at_15) rfl rfl (l' := #[.val (.int p1), .val (.long q2), .second, .val (.int p3), .val (.int p4), .val (.int p5), .val (.int p6), .val (.ref w7), .unset, .unset, .unset, .unset, .unset, .unset, .unset, .unset, .unset, .unset]) rfl ?_
    show Steps p.tables e below (T8.setTop (mkF m 17 #[.val (.int p1), .val (.long q2), .second, .val (.int p3), .val (.int p4), .val (.int p5), .val (.int p6), .val (.ref w7), .unset, .unset, .unset, .unset, .unset, .unset, .unset, .unset, .unset, .unset] [])) _
    refine XS.iloadN X8.here hx rfl (hb hby at_17) rfl ?_
    show Steps p.tables e below (T8.setTop (mkF m 18 #[.val (.int p1), .val (.long q2), .second, .val (.int p3), .val (.int p4), .val (.int p5), .val (.int p6), .val (.ref w7), .unset, .unset, .unset, .unset, .unset, .unset, .unset, .unset, .unset, .unset] [(.int p1)])) _
    refine X8.ldcInt hx hown (mvT hZ (hw _ (List.mem_of_getElem? (i := 3) rfl))) (g := (mkF m 18 #[.val (.int p1), .val (.long q2), .second, .val (.int p3), .val (.int p4), .val (.int p5), .val (.int p6), .val (.ref w7), .unset, .unset, .unset, .unset, .unset, .unset, .unset, .unset, .unset, .unset] [(.int p1)])) rfl (hb hby at_18) _ ?_
    show Steps p.tables e below (T8.setTop (mkF m 20 #[.val (.int p1), .val (.long q2), .second, .val (.int p3), .val (.int p4), .val (.int p5), .val (.int p6), .val (.ref w7), .unset, .unset, .unset, .unset, .unset, .unset, .unset, .unset, .unset, .unset] [(.int (2147483647 : Int32)), (.int p1)])) _
    refine XS.iand X8.here hx rfl (hb hby at_20) rfl ?_
    show Steps p.tables e below (T8.setTop (mkF m 21 #[.val (.int p1), .val (.long q2), .second, .val (.int p3), .val (.int p4), .val (.int p5), .val (.int p6), .val (.ref w7), .unset, .unset, .unset, .unset, .unset, .unset, .unset, .unset, .unset, .unset] [(.int (p1 &&& (2147483647 : Int32)))])) _
    refine XS.istore X8.here hx rfl (hb hby at_21) rfl (l' := #[.val (.int p1), .val (.long q2), .second, .val (.int p3), .val (.int p4), .val (.int p5), .val (.int p6), .val (.ref w7), .val (.int (p1 &&& (2147483647 : Int32))), .unset, .unset, .unset, .unset, .unset, .unset, .unset, .unset, .unset]) rfl ?_
    show Steps p.tables e below (T8.setTop (mkF m 23 #[.val (.int p1), .val (.long q2), .second, .val (.int p3), .val (.int p4), .val (.int p5), .val (.int p6), .val (.ref w7), .val (.int (p1 &&& (2147483647 : Int32))), .unset, .unset, .unset, .unset, .unset, .unset, .unset, .unset, .unset] [])) _
    refine X8.ldc2Long hx hown (mvT hZ (hw _ (List.mem_of_getElem? (i := 4) rfl))) (g := (mkF m 23 #[.val (.int p1), .val (.long q2), .second, .val (.int p3), .val (.int p4), .val (.int p5), .val (.int p6), .val (.ref w7), .val (.int (p1 &&& (2147483647 : Int32))), .unset, .unset, .unset, .unset, .unset, .unset, .unset, .unset, .unset] [])) rfl (hb hby at_23) _ ?_
    show Steps p.tables e below (T8.setTop (mkF m 26 #[.val (.int p1), .val (.long q2), .second, .val (.int p3), .val (.int p4), .val (.int p5), .val (.int p6), .val (.ref w7), .val (.int (p1 &&& (2147483647 : Int32))), .unset, .unset, .unset, .unset, .unset, .unset, .unset, .unset, .unset] [(.long (2147483647 : Int64))])) _
    refine XS.iload X8.here hx rfl (hb hby at_26) rfl ?_
    show Steps p.tables e below (T8.setTop (mkF m 28 #[.val (.int p1), .val (.long q2), .second, .val (.int p3), .val (.int p4), .val (.int p5), .val (.int p6), .val (.ref w7), .val (.int (p1 &&& (2147483647 : Int32))), .unset, .unset, .unset, .unset, .unset, .unset, .unset, .unset, .unset] [(.int (p1 &&& (2147483647 : Int32))), (.long (2147483647 : Int64))])) _
    refine XS.i2l X8.here hx rfl (hb hby at_28) rfl ?_
    show Steps p.tables e below (T8.setTop (mkF m 29 #[.val (.int p1), .val (.long q2), .second, .val (.int p3), .val (.int p4), .val (.int p5), .val (.int p6), .val (.ref w7), .val (.int (p1 &&& (2147483647 : Int32))), .unset, .unset, .unset, .unset, .unset, .unset, .unset, .unset, .unset] [(.long ((p1 &&& (2147483647 : Int32)).toInt64)), (.long (2147483647 : Int64))])) _
    refine XS.lsub X8.here hx rfl (hb hby at_29) rfl ?_
    show Steps p.tables e below (T8.setTop (mkF m 30 #[.val (.int p1), .val (.long q2), .second, .val (.int p3), .val (.int p4), .val (.int p5), .val (.int p6), .val (.ref w7), .val (.int (p1 &&& (2147483647 : Int32))), .unset, .unset, .unset, .unset, .unset, .unset, .unset, .unset, .unset] [(.long ((2147483647 : Int64) - ((p1 &&& (2147483647 : Int32)).toInt64)))])) _
    refine XS.lstore X8.here hx rfl (hb hby at_30) rfl (l' := #[.val (.int p1), .val (.long q2), .second, .val (.int p3), .val (.int p4), .val (.int p5), .val (.int p6), .val (.ref w7), .val (.int (p1 &&& (2147483647 : Int32))), .val (.long ((2147483647 : Int64) - ((p1 &&& (2147483647 : Int32)).toInt64))), .second, .unset, .unset, .unset, .unset, .unset, .unset, .unset]) rfl ?_
    show Steps p.tables e below (T8.setTop (mkF m 32 #[.val (.int p1), .val (.long q2), .second, .val (.int p3), .val (.int p4), .val (.int p5), .val (.int p6), .val (.ref w7), .val (.int (p1 &&& (2147483647 : Int32))), .val (.long ((2147483647 : Int64) - ((p1 &&& (2147483647 : Int32)).toInt64))), .second, .unset, .unset, .unset, .unset, .unset, .unset, .unset] [])) _
    refine XS.lloadN X8.here hx rfl (hb hby at_32) rfl ?_
    show Steps p.tables e below (T8.setTop (mkF m 33 #[.val (.int p1), .val (.long q2), .second, .val (.int p3), .val (.int p4), .val (.int p5), .val (.int p6), .val (.ref w7), .val (.int (p1 &&& (2147483647 : Int32))), .val (.long ((2147483647 : Int64) - ((p1 &&& (2147483647 : Int32)).toInt64))), .second, .unset, .unset, .unset, .unset, .unset, .unset, .unset] [(.long q2)])) _
    refine X8.ldc2Long hx hown (mvT hZ (hw _ (List.mem_of_getElem? (i := 5) rfl))) (g := (mkF m 33 #[.val (.int p1), .val (.long q2), .second, .val (.int p3), .val (.int p4), .val (.int p5), .val (.int p6), .val (.ref w7), .val (.int (p1 &&& (2147483647 : Int32))), .val (.long ((2147483647 : Int64) - ((p1 &&& (2147483647 : Int32)).toInt64))), .second, .unset, .unset, .unset, .unset, .unset, .unset, .unset] [(.long q2)])) rfl (hb hby at_33) _ ?_
    show Steps p.tables e below (T8.setTop (mkF m 36 #[.val (.int p1), .val (.long q2), .second, .val (.int p3), .val (.int p4), .val (.int p5), .val (.int p6), .val (.ref w7), .val (.int (p1 &&& (2147483647 : Int32))), .val (.long ((2147483647 : Int64) - ((p1 &&& (2147483647 : Int32)).toInt64))), .second, .unset, .unset, .unset, .unset, .unset, .unset, .unset] [(.long (9223372036854775807 : Int64)), (.long q2)])) _
    refine XS.land X8.here hx rfl (hb hby at_36) rfl ?_
    show Steps p.tables e below (T8.setTop (mkF m 37 #[.val (.int p1), .val (.long q2), .second, .val (.int p3), .val (.int p4), .val (.int p5), .val (.int p6), .val (.ref w7), .val (.int (p1 &&& (2147483647 : Int32))), .val (.long ((2147483647 : Int64) - ((p1 &&& (2147483647 : Int32)).toInt64))), .second, .unset, .unset, .unset, .unset, .unset, .unset, .unset] [(.long (q2 &&& (9223372036854775807 : Int64)))])) _
    refine XS.lload X8.here hx rfl (hb hby at_37) rfl ?_
    show Steps p.tables e below (T8.setTop (mkF m 39 #[.val (.int p1), .val (.long q2), .second, .val (.int p3), .val (.int p4), .val (.int p5), .val (.int p6), .val (.ref w7), .val (.int (p1 &&& (2147483647 : Int32))), .val (.long ((2147483647 : Int64) - ((p1 &&& (2147483647 : Int32)).toInt64))), .second, .unset, .unset, .unset, .unset, .unset, .unset, .unset] [(.long ((2147483647 : Int64) - ((p1 &&& (2147483647 : Int32)).toInt64))), (.long (q2 &&& (9223372036854775807 : Int64)))])) _
    refine XS.lconst X8.here hx rfl (hb hby at_39) ?_
    show Steps p.tables e below (T8.setTop (mkF m 40 #[.val (.int p1), .val (.long q2), .second, .val (.int p3), .val (.int p4), .val (.int p5), .val (.int p6), .val (.ref w7), .val (.int (p1 &&& (2147483647 : Int32))), .val (.long ((2147483647 : Int64) - ((p1 &&& (2147483647 : Int32)).toInt64))), .second, .unset, .unset, .unset, .unset, .unset, .unset, .unset] [(.long (1 : Int64)), (.long ((2147483647 : Int64) - ((p1 &&& (2147483647 : Int32)).toInt64))), (.long (q2 &&& (9223372036854775807 : Int64)))])) _
    refine XS.ladd X8.here hx rfl (hb hby at_40) rfl ?_
    show Steps p.tables e below (T8.setTop (mkF m 41 #[.val (.int p1), .val (.long q2), .second, .val (.int p3), .val (.int p4), .val (.int p5), .val (.int p6), .val (.ref w7), .val (.int (p1 &&& (2147483647 : Int32))), .val (.long ((2147483647 : Int64) - ((p1 &&& (2147483647 : Int32)).toInt64))), .second, .unset, .unset, .unset, .unset, .unset, .unset, .unset] [(.long (((2147483647 : Int64) - ((p1 &&& (2147483647 : Int32)).toInt64)) + (1 : Int64))), (.long (q2 &&& (9223372036854775807 : Int64)))])) _
    refine XS.lrem X8.here hx rfl (hb hby at_41) rfl hnz41 ?_
    show Steps p.tables e below (T8.setTop (mkF m 42 #[.val (.int p1), .val (.long q2), .second, .val (.int p3), .val (.int p4), .val (.int p5), .val (.int p6), .val (.ref w7), .val (.int (p1 &&& (2147483647 : Int32))), .val (.long ((2147483647 : Int64) - ((p1 &&& (2147483647 : Int32)).toInt64))), .second, .unset, .unset, .unset, .unset, .unset, .unset, .unset] [(.long ((q2 &&& (9223372036854775807 : Int64)) - (q2 &&& (9223372036854775807 : Int64)) / (((2147483647 : Int64) - ((p1 &&& (2147483647 : Int32)).toInt64)) + (1 : Int64)) * (((2147483647 : Int64) - ((p1 &&& (2147483647 : Int32)).toInt64)) + (1 : Int64))))])) _
    refine XS.lstore X8.here hx rfl (hb hby at_42) rfl (l' := #[.val (.int p1), .val (.long q2), .second, .val (.int p3), .val (.int p4), .val (.int p5), .val (.int p6), .val (.ref w7), .val (.int (p1 &&& (2147483647 : Int32))), .val (.long ((2147483647 : Int64) - ((p1 &&& (2147483647 : Int32)).toInt64))), .second, .val (.long ((q2 &&& (9223372036854775807 : Int64)) - (q2 &&& (9223372036854775807 : Int64)) / (((2147483647 : Int64) - ((p1 &&& (2147483647 : Int32)).toInt64)) + (1 : Int64)) * (((2147483647 : Int64) - ((p1 &&& (2147483647 : Int32)).toInt64)) + (1 : Int64)))), .second, .unset, .unset, .unset, .unset, .unset]) rfl ?_
    show Steps p.tables e below (T8.setTop (mkF m 44 #[.val (.int p1), .val (.long q2), .second, .val (.int p3), .val (.int p4), .val (.int p5), .val (.int p6), .val (.ref w7), .val (.int (p1 &&& (2147483647 : Int32))), .val (.long ((2147483647 : Int64) - ((p1 &&& (2147483647 : Int32)).toInt64))), .second, .val (.long ((q2 &&& (9223372036854775807 : Int64)) - (q2 &&& (9223372036854775807 : Int64)) / (((2147483647 : Int64) - ((p1 &&& (2147483647 : Int32)).toInt64)) + (1 : Int64)) * (((2147483647 : Int64) - ((p1 &&& (2147483647 : Int32)).toInt64)) + (1 : Int64)))), .second, .unset, .unset, .unset, .unset, .unset] [])) _
    refine st9 _ ?_
    show Steps p.tables e below (T9.setTop (mkF m 47 #[.val (.int p1), .val (.long q2), .second, .val (.int p3), .val (.int p4), .val (.int p5), .val (.int p6), .val (.ref w7), .val (.int (p1 &&& (2147483647 : Int32))), .val (.long ((2147483647 : Int64) - ((p1 &&& (2147483647 : Int32)).toInt64))), .second, .val (.long ((q2 &&& (9223372036854775807 : Int64)) - (q2 &&& (9223372036854775807 : Int64)) / (((2147483647 : Int64) - ((p1 &&& (2147483647 : Int32)).toInt64)) + (1 : Int64)) * (((2147483647 : Int64) - ((p1 &&& (2147483647 : Int32)).toInt64)) + (1 : Int64)))), .second, .unset, .unset, .unset, .unset, .unset] [(.ref b9)])) _
    refine XS.dup X9.here hx rfl (hb hby at_47) rfl rfl ?_
    show Steps p.tables e below (T9.setTop (mkF m 48 #[.val (.int p1), .val (.long q2), .second, .val (.int p3), .val (.int p4), .val (.int p5), .val (.int p6), .val (.ref w7), .val (.int (p1 &&& (2147483647 : Int32))), .val (.long ((2147483647 : Int64) - ((p1 &&& (2147483647 : Int32)).toInt64))), .second, .val (.long ((q2 &&& (9223372036854775807 : Int64)) - (q2 &&& (9223372036854775807 : Int64)) / (((2147483647 : Int64) - ((p1 &&& (2147483647 : Int32)).toInt64)) + (1 : Int64)) * (((2147483647 : Int64) - ((p1 &&& (2147483647 : Int32)).toInt64)) + (1 : Int64)))), .second, .unset, .unset, .unset, .unset, .unset] [(.ref b9), (.ref b9)])) _
    refine XS.iload X9.here hx rfl (hb hby at_48) rfl ?_
    show Steps p.tables e below (T9.setTop (mkF m 50 #[.val (.int p1), .val (.long q2), .second, .val (.int p3), .val (.int p4), .val (.int p5), .val (.int p6), .val (.ref w7), .val (.int (p1 &&& (2147483647 : Int32))), .val (.long ((2147483647 : Int64) - ((p1 &&& (2147483647 : Int32)).toInt64))), .second, .val (.long ((q2 &&& (9223372036854775807 : Int64)) - (q2 &&& (9223372036854775807 : Int64)) / (((2147483647 : Int64) - ((p1 &&& (2147483647 : Int32)).toInt64)) + (1 : Int64)) * (((2147483647 : Int64) - ((p1 &&& (2147483647 : Int32)).toInt64)) + (1 : Int64)))), .second, .unset, .unset, .unset, .unset, .unset] [(.int p6), (.ref b9), (.ref b9)])) _
    refine XS.sipush X9.here hx rfl (hb hby at_50) ?_
    show Steps p.tables e below (T9.setTop (mkF m 53 #[.val (.int p1), .val (.long q2), .second, .val (.int p3), .val (.int p4), .val (.int p5), .val (.int p6), .val (.ref w7), .val (.int (p1 &&& (2147483647 : Int32))), .val (.long ((2147483647 : Int64) - ((p1 &&& (2147483647 : Int32)).toInt64))), .second, .val (.long ((q2 &&& (9223372036854775807 : Int64)) - (q2 &&& (9223372036854775807 : Int64)) / (((2147483647 : Int64) - ((p1 &&& (2147483647 : Int32)).toInt64)) + (1 : Int64)) * (((2147483647 : Int64) - ((p1 &&& (2147483647 : Int32)).toInt64)) + (1 : Int64)))), .second, .unset, .unset, .unset, .unset, .unset] [(.int (255 : Int32)), (.int p6), (.ref b9), (.ref b9)])) _
    refine XS.iand X9.here hx rfl (hb hby at_53) rfl ?_
    show Steps p.tables e below (T9.setTop (mkF m 54 #[.val (.int p1), .val (.long q2), .second, .val (.int p3), .val (.int p4), .val (.int p5), .val (.int p6), .val (.ref w7), .val (.int (p1 &&& (2147483647 : Int32))), .val (.long ((2147483647 : Int64) - ((p1 &&& (2147483647 : Int32)).toInt64))), .second, .val (.long ((q2 &&& (9223372036854775807 : Int64)) - (q2 &&& (9223372036854775807 : Int64)) / (((2147483647 : Int64) - ((p1 &&& (2147483647 : Int32)).toInt64)) + (1 : Int64)) * (((2147483647 : Int64) - ((p1 &&& (2147483647 : Int32)).toInt64)) + (1 : Int64)))), .second, .unset, .unset, .unset, .unset, .unset] [(.int (p6 &&& (255 : Int32))), (.ref b9), (.ref b9)])) _
    refine XS.i2c X9.here hx rfl (hb hby at_54) rfl ?_
    show Steps p.tables e below (T9.setTop (mkF m 55 #[.val (.int p1), .val (.long q2), .second, .val (.int p3), .val (.int p4), .val (.int p5), .val (.int p6), .val (.ref w7), .val (.int (p1 &&& (2147483647 : Int32))), .val (.long ((2147483647 : Int64) - ((p1 &&& (2147483647 : Int32)).toInt64))), .second, .val (.long ((q2 &&& (9223372036854775807 : Int64)) - (q2 &&& (9223372036854775807 : Int64)) / (((2147483647 : Int64) - ((p1 &&& (2147483647 : Int32)).toInt64)) + (1 : Int64)) * (((2147483647 : Int64) - ((p1 &&& (2147483647 : Int32)).toInt64)) + (1 : Int64)))), .second, .unset, .unset, .unset, .unset, .unset] [(.int ((p6 &&& (255 : Int32)).toUInt32.toUInt16.toUInt32.toInt32)), (.ref b9), (.ref b9)])) _
    refine st10 _ ?_
    show Steps p.tables e below (T10.setTop (mkF m 58 #[.val (.int p1), .val (.long q2), .second, .val (.int p3), .val (.int p4), .val (.int p5), .val (.int p6), .val (.ref w7), .val (.int (p1 &&& (2147483647 : Int32))), .val (.long ((2147483647 : Int64) - ((p1 &&& (2147483647 : Int32)).toInt64))), .second, .val (.long ((q2 &&& (9223372036854775807 : Int64)) - (q2 &&& (9223372036854775807 : Int64)) / (((2147483647 : Int64) - ((p1 &&& (2147483647 : Int32)).toInt64)) + (1 : Int64)) * (((2147483647 : Int64) - ((p1 &&& (2147483647 : Int32)).toInt64)) + (1 : Int64)))), .second, .unset, .unset, .unset, .unset, .unset] [(.ref c10), (.ref b9), (.ref b9)])) _
    refine XS.iload X10.here hx rfl (hb hby at_58) rfl ?_
    show Steps p.tables e below (T10.setTop (mkF m 60 #[.val (.int p1), .val (.long q2), .second, .val (.int p3), .val (.int p4), .val (.int p5), .val (.int p6), .val (.ref w7), .val (.int (p1 &&& (2147483647 : Int32))), .val (.long ((2147483647 : Int64) - ((p1 &&& (2147483647 : Int32)).toInt64))), .second, .val (.long ((q2 &&& (9223372036854775807 : Int64)) - (q2 &&& (9223372036854775807 : Int64)) / (((2147483647 : Int64) - ((p1 &&& (2147483647 : Int32)).toInt64)) + (1 : Int64)) * (((2147483647 : Int64) - ((p1 &&& (2147483647 : Int32)).toInt64)) + (1 : Int64)))), .second, .unset, .unset, .unset, .unset, .unset] [(.int (p1 &&& (2147483647 : Int32))), (.ref c10), (.ref b9), (.ref b9)])) _
    refine st11.trans ?_
    show Steps p.tables e below (T11.setTop (mkF m 63 #[.val (.int p1), .val (.long q2), .second, .val (.int p3), .val (.int p4), .val (.int p5), .val (.int p6), .val (.ref w7), .val (.int (p1 &&& (2147483647 : Int32))), .val (.long ((2147483647 : Int64) - ((p1 &&& (2147483647 : Int32)).toInt64))), .second, .val (.long ((q2 &&& (9223372036854775807 : Int64)) - (q2 &&& (9223372036854775807 : Int64)) / (((2147483647 : Int64) - ((p1 &&& (2147483647 : Int32)).toInt64)) + (1 : Int64)) * (((2147483647 : Int64) - ((p1 &&& (2147483647 : Int32)).toInt64)) + (1 : Int64)))), .second, .unset, .unset, .unset, .unset, .unset] [(.ref b9)])) _
    refine XS.astore X11.here hx rfl (hb hby at_63) rfl rfl (l' := #[.val (.int p1), .val (.long q2), .second, .val (.int p3), .val (.int p4), .val (.int p5), .val (.int p6), .val (.ref w7), .val (.int (p1 &&& (2147483647 : Int32))), .val (.long ((2147483647 : Int64) - ((p1 &&& (2147483647 : Int32)).toInt64))), .second, .val (.long ((q2 &&& (9223372036854775807 : Int64)) - (q2 &&& (9223372036854775807 : Int64)) / (((2147483647 : Int64) - ((p1 &&& (2147483647 : Int32)).toInt64)) + (1 : Int64)) * (((2147483647 : Int64) - ((p1 &&& (2147483647 : Int32)).toInt64)) + (1 : Int64)))), .second, .val (.ref b9), .unset, .unset, .unset, .unset]) rfl ?_
    show Steps p.tables e below (T11.setTop (mkF m 65 #[.val (.int p1), .val (.long q2), .second, .val (.int p3), .val (.int p4), .val (.int p5), .val (.int p6), .val (.ref w7), .val (.int (p1 &&& (2147483647 : Int32))), .val (.long ((2147483647 : Int64) - ((p1 &&& (2147483647 : Int32)).toInt64))), .second, .val (.long ((q2 &&& (9223372036854775807 : Int64)) - (q2 &&& (9223372036854775807 : Int64)) / (((2147483647 : Int64) - ((p1 &&& (2147483647 : Int32)).toInt64)) + (1 : Int64)) * (((2147483647 : Int64) - ((p1 &&& (2147483647 : Int32)).toInt64)) + (1 : Int64)))), .second, .val (.ref b9), .unset, .unset, .unset, .unset] [])) _
    refine st12 _ ?_
    show Steps p.tables e below (T12.setTop (mkF m 68 #[.val (.int p1), .val (.long q2), .second, .val (.int p3), .val (.int p4), .val (.int p5), .val (.int p6), .val (.ref w7), .val (.int (p1 &&& (2147483647 : Int32))), .val (.long ((2147483647 : Int64) - ((p1 &&& (2147483647 : Int32)).toInt64))), .second, .val (.long ((q2 &&& (9223372036854775807 : Int64)) - (q2 &&& (9223372036854775807 : Int64)) / (((2147483647 : Int64) - ((p1 &&& (2147483647 : Int32)).toInt64)) + (1 : Int64)) * (((2147483647 : Int64) - ((p1 &&& (2147483647 : Int32)).toInt64)) + (1 : Int64)))), .second, .val (.ref b9), .unset, .unset, .unset, .unset] [(.ref b12)])) _
    refine XS.dup X12.here hx rfl (hb hby at_68) rfl rfl ?_
    show Steps p.tables e below (T12.setTop (mkF m 69 #[.val (.int p1), .val (.long q2), .second, .val (.int p3), .val (.int p4), .val (.int p5), .val (.int p6), .val (.ref w7), .val (.int (p1 &&& (2147483647 : Int32))), .val (.long ((2147483647 : Int64) - ((p1 &&& (2147483647 : Int32)).toInt64))), .second, .val (.long ((q2 &&& (9223372036854775807 : Int64)) - (q2 &&& (9223372036854775807 : Int64)) / (((2147483647 : Int64) - ((p1 &&& (2147483647 : Int32)).toInt64)) + (1 : Int64)) * (((2147483647 : Int64) - ((p1 &&& (2147483647 : Int32)).toInt64)) + (1 : Int64)))), .second, .val (.ref b9), .unset, .unset, .unset, .unset] [(.ref b12), (.ref b12)])) _
    refine XS.aload X12.here hx rfl (hb hby at_69) rfl rfl ?_
    show Steps p.tables e below (T12.setTop (mkF m 71 #[.val (.int p1), .val (.long q2), .second, .val (.int p3), .val (.int p4), .val (.int p5), .val (.int p6), .val (.ref w7), .val (.int (p1 &&& (2147483647 : Int32))), .val (.long ((2147483647 : Int64) - ((p1 &&& (2147483647 : Int32)).toInt64))), .second, .val (.long ((q2 &&& (9223372036854775807 : Int64)) - (q2 &&& (9223372036854775807 : Int64)) / (((2147483647 : Int64) - ((p1 &&& (2147483647 : Int32)).toInt64)) + (1 : Int64)) * (((2147483647 : Int64) - ((p1 &&& (2147483647 : Int32)).toInt64)) + (1 : Int64)))), .second, .val (.ref b9), .unset, .unset, .unset, .unset] [(.ref w7), (.ref b12), (.ref b12)])) _
    refine XS.aload X12.here hx rfl (hb hby at_71) rfl rfl ?_
    show Steps p.tables e below (T12.setTop (mkF m 73 #[.val (.int p1), .val (.long q2), .second, .val (.int p3), .val (.int p4), .val (.int p5), .val (.int p6), .val (.ref w7), .val (.int (p1 &&& (2147483647 : Int32))), .val (.long ((2147483647 : Int64) - ((p1 &&& (2147483647 : Int32)).toInt64))), .second, .val (.long ((q2 &&& (9223372036854775807 : Int64)) - (q2 &&& (9223372036854775807 : Int64)) / (((2147483647 : Int64) - ((p1 &&& (2147483647 : Int32)).toInt64)) + (1 : Int64)) * (((2147483647 : Int64) - ((p1 &&& (2147483647 : Int32)).toInt64)) + (1 : Int64)))), .second, .val (.ref b9), .unset, .unset, .unset, .unset] [(.ref b9), (.ref w7), (.ref b12), (.ref b12)])) _
    refine XS.iload X12.here hx rfl (hb hby at_73) rfl ?_
    show Steps p.tables e below (T12.setTop (mkF m 75 #[.val (.int p1), .val (.long q2), .second, .val (.int p3), .val (.int p4), .val (.int p5), .val (.int p6), .val (.ref w7), .val (.int (p1 &&& (2147483647 : Int32))), .val (.long ((2147483647 : Int64) - ((p1 &&& (2147483647 : Int32)).toInt64))), .second, .val (.long ((q2 &&& (9223372036854775807 : Int64)) - (q2 &&& (9223372036854775807 : Int64)) / (((2147483647 : Int64) - ((p1 &&& (2147483647 : Int32)).toInt64)) + (1 : Int64)) * (((2147483647 : Int64) - ((p1 &&& (2147483647 : Int32)).toInt64)) + (1 : Int64)))), .second, .val (.ref b9), .unset, .unset, .unset, .unset] [(.int p5), (.ref b9), (.ref w7), (.ref b12), (.ref b12)])) _
    refine XS.iload X12.here hx rfl (hb hby at_75) rfl ?_
    show Steps p.tables e below (T12.setTop (mkF m 77 #[.val (.int p1), .val (.long q2), .second, .val (.int p3), .val (.int p4), .val (.int p5), .val (.int p6), .val (.ref w7), .val (.int (p1 &&& (2147483647 : Int32))), .val (.long ((2147483647 : Int64) - ((p1 &&& (2147483647 : Int32)).toInt64))), .second, .val (.long ((q2 &&& (9223372036854775807 : Int64)) - (q2 &&& (9223372036854775807 : Int64)) / (((2147483647 : Int64) - ((p1 &&& (2147483647 : Int32)).toInt64)) + (1 : Int64)) * (((2147483647 : Int64) - ((p1 &&& (2147483647 : Int32)).toInt64)) + (1 : Int64)))), .second, .val (.ref b9), .unset, .unset, .unset, .unset] [(.int p4), (.int p5), (.ref b9), (.ref w7), (.ref b12), (.ref b12)])) _
    refine XS.lload X12.here hx rfl (hb hby at_77) rfl ?_
    show Steps p.tables e below (T12.setTop (mkF m 79 #[.val (.int p1), .val (.long q2), .second, .val (.int p3), .val (.int p4), .val (.int p5), .val (.int p6), .val (.ref w7), .val (.int (p1 &&& (2147483647 : Int32))), .val (.long ((2147483647 : Int64) - ((p1 &&& (2147483647 : Int32)).toInt64))), .second, .val (.long ((q2 &&& (9223372036854775807 : Int64)) - (q2 &&& (9223372036854775807 : Int64)) / (((2147483647 : Int64) - ((p1 &&& (2147483647 : Int32)).toInt64)) + (1 : Int64)) * (((2147483647 : Int64) - ((p1 &&& (2147483647 : Int32)).toInt64)) + (1 : Int64)))), .second, .val (.ref b9), .unset, .unset, .unset, .unset] [(.long ((q2 &&& (9223372036854775807 : Int64)) - (q2 &&& (9223372036854775807 : Int64)) / (((2147483647 : Int64) - ((p1 &&& (2147483647 : Int32)).toInt64)) + (1 : Int64)) * (((2147483647 : Int64) - ((p1 &&& (2147483647 : Int32)).toInt64)) + (1 : Int64)))), (.int p4), (.int p5), (.ref b9), (.ref w7), (.ref b12), (.ref b12)])) _
    refine st13.trans ?_
    show Steps p.tables e below (T13.setTop (mkF m 82 #[.val (.int p1), .val (.long q2), .second, .val (.int p3), .val (.int p4), .val (.int p5), .val (.int p6), .val (.ref w7), .val (.int (p1 &&& (2147483647 : Int32))), .val (.long ((2147483647 : Int64) - ((p1 &&& (2147483647 : Int32)).toInt64))), .second, .val (.long ((q2 &&& (9223372036854775807 : Int64)) - (q2 &&& (9223372036854775807 : Int64)) / (((2147483647 : Int64) - ((p1 &&& (2147483647 : Int32)).toInt64)) + (1 : Int64)) * (((2147483647 : Int64) - ((p1 &&& (2147483647 : Int32)).toInt64)) + (1 : Int64)))), .second, .val (.ref b9), .unset, .unset, .unset, .unset] [(.ref b12)])) _
    refine XS.astore X13.here hx rfl (hb hby at_82) rfl rfl (l' := #[.val (.int p1), .val (.long q2), .second, .val (.int p3), .val (.int p4), .val (.int p5), .val (.int p6), .val (.ref w7), .val (.int (p1 &&& (2147483647 : Int32))), .val (.long ((2147483647 : Int64) - ((p1 &&& (2147483647 : Int32)).toInt64))), .second, .val (.long ((q2 &&& (9223372036854775807 : Int64)) - (q2 &&& (9223372036854775807 : Int64)) / (((2147483647 : Int64) - ((p1 &&& (2147483647 : Int32)).toInt64)) + (1 : Int64)) * (((2147483647 : Int64) - ((p1 &&& (2147483647 : Int32)).toInt64)) + (1 : Int64)))), .second, .val (.ref b9), .val (.ref b12), .unset, .unset, .unset]) rfl ?_
    show Steps p.tables e below (T13.setTop (mkF m 84 #[.val (.int p1), .val (.long q2), .second, .val (.int p3), .val (.int p4), .val (.int p5), .val (.int p6), .val (.ref w7), .val (.int (p1 &&& (2147483647 : Int32))), .val (.long ((2147483647 : Int64) - ((p1 &&& (2147483647 : Int32)).toInt64))), .second, .val (.long ((q2 &&& (9223372036854775807 : Int64)) - (q2 &&& (9223372036854775807 : Int64)) / (((2147483647 : Int64) - ((p1 &&& (2147483647 : Int32)).toInt64)) + (1 : Int64)) * (((2147483647 : Int64) - ((p1 &&& (2147483647 : Int32)).toInt64)) + (1 : Int64)))), .second, .val (.ref b9), .val (.ref b12), .unset, .unset, .unset] [])) _
    refine XS.iload X13.here hx rfl (hb hby at_84) rfl ?_
    show Steps p.tables e below (T13.setTop (mkF m 86 #[.val (.int p1), .val (.long q2), .second, .val (.int p3), .val (.int p4), .val (.int p5), .val (.int p6), .val (.ref w7), .val (.int (p1 &&& (2147483647 : Int32))), .val (.long ((2147483647 : Int64) - ((p1 &&& (2147483647 : Int32)).toInt64))), .second, .val (.long ((q2 &&& (9223372036854775807 : Int64)) - (q2 &&& (9223372036854775807 : Int64)) / (((2147483647 : Int64) - ((p1 &&& (2147483647 : Int32)).toInt64)) + (1 : Int64)) * (((2147483647 : Int64) - ((p1 &&& (2147483647 : Int32)).toInt64)) + (1 : Int64)))), .second, .val (.ref b9), .val (.ref b12), .unset, .unset, .unset] [(.int (p1 &&& (2147483647 : Int32)))])) _
    refine XS.i2l X13.here hx rfl (hb hby at_86) rfl ?_
    show Steps p.tables e below (T13.setTop (mkF m 87 #[.val (.int p1), .val (.long q2), .second, .val (.int p3), .val (.int p4), .val (.int p5), .val (.int p6), .val (.ref w7), .val (.int (p1 &&& (2147483647 : Int32))), .val (.long ((2147483647 : Int64) - ((p1 &&& (2147483647 : Int32)).toInt64))), .second, .val (.long ((q2 &&& (9223372036854775807 : Int64)) - (q2 &&& (9223372036854775807 : Int64)) / (((2147483647 : Int64) - ((p1 &&& (2147483647 : Int32)).toInt64)) + (1 : Int64)) * (((2147483647 : Int64) - ((p1 &&& (2147483647 : Int32)).toInt64)) + (1 : Int64)))), .second, .val (.ref b9), .val (.ref b12), .unset, .unset, .unset] [(.long ((p1 &&& (2147483647 : Int32)).toInt64))])) _
    refine XS.lload X13.here hx rfl (hb hby at_87) rfl ?_
    show Steps p.tables e below (T13.setTop (mkF m 89 #[.val (.int p1), .val (.long q2), .second, .val (.int p3), .val (.int p4), .val (.int p5), .val (.int p6), .val (.ref w7), .val (.int (p1 &&& (2147483647 : Int32))), .val (.long ((2147483647 : Int64) - ((p1 &&& (2147483647 : Int32)).toInt64))), .second, .val (.long ((q2 &&& (9223372036854775807 : Int64)) - (q2 &&& (9223372036854775807 : Int64)) / (((2147483647 : Int64) - ((p1 &&& (2147483647 : Int32)).toInt64)) + (1 : Int64)) * (((2147483647 : Int64) - ((p1 &&& (2147483647 : Int32)).toInt64)) + (1 : Int64)))), .second, .val (.ref b9), .val (.ref b12), .unset, .unset, .unset] [(.long ((q2 &&& (9223372036854775807 : Int64)) - (q2 &&& (9223372036854775807 : Int64)) / (((2147483647 : Int64) - ((p1 &&& (2147483647 : Int32)).toInt64)) + (1 : Int64)) * (((2147483647 : Int64) - ((p1 &&& (2147483647 : Int32)).toInt64)) + (1 : Int64)))), (.long ((p1 &&& (2147483647 : Int32)).toInt64))])) _
    refine XS.ladd X13.here hx rfl (hb hby at_89) rfl ?_
    show Steps p.tables e below (T13.setTop (mkF m 90 #[.val (.int p1), .val (.long q2), .second, .val (.int p3), .val (.int p4), .val (.int p5), .val (.int p6), .val (.ref w7), .val (.int (p1 &&& (2147483647 : Int32))), .val (.long ((2147483647 : Int64) - ((p1 &&& (2147483647 : Int32)).toInt64))), .second, .val (.long ((q2 &&& (9223372036854775807 : Int64)) - (q2 &&& (9223372036854775807 : Int64)) / (((2147483647 : Int64) - ((p1 &&& (2147483647 : Int32)).toInt64)) + (1 : Int64)) * (((2147483647 : Int64) - ((p1 &&& (2147483647 : Int32)).toInt64)) + (1 : Int64)))), .second, .val (.ref b9), .val (.ref b12), .unset, .unset, .unset] [(.long (((p1 &&& (2147483647 : Int32)).toInt64) + ((q2 &&& (9223372036854775807 : Int64)) - (q2 &&& (9223372036854775807 : Int64)) / (((2147483647 : Int64) - ((p1 &&& (2147483647 : Int32)).toInt64)) + (1 : Int64)) * (((2147483647 : Int64) - ((p1 &&& (2147483647 : Int32)).toInt64)) + (1 : Int64)))))])) _
    refine XS.lstore X13.here hx rfl (hb hby at_90) rfl (l' := #[.val (.int p1), .val (.long q2), .second, .val (.int p3), .val (.int p4), .val (.int p5), .val (.int p6), .val (.ref w7), .val (.int (p1 &&& (2147483647 : Int32))), .val (.long ((2147483647 : Int64) - ((p1 &&& (2147483647 : Int32)).toInt64))), .second, .val (.long ((q2 &&& (9223372036854775807 : Int64)) - (q2 &&& (9223372036854775807 : Int64)) / (((2147483647 : Int64) - ((p1 &&& (2147483647 : Int32)).toInt64)) + (1 : Int64)) * (((2147483647 : Int64) - ((p1 &&& (2147483647 : Int32)).toInt64)) + (1 : Int64)))), .second, .val (.ref b9), .val (.ref b12), .val (.long (((p1 &&& (2147483647 : Int32)).toInt64) + ((q2 &&& (9223372036854775807 : Int64)) - (q2 &&& (9223372036854775807 : Int64)) / (((2147483647 : Int64) - ((p1 &&& (2147483647 : Int32)).toInt64)) + (1 : Int64)) * (((2147483647 : Int64) - ((p1 &&& (2147483647 : Int32)).toInt64)) + (1 : Int64))))), .second, .unset]) rfl ?_
    show Steps p.tables e below (T13.setTop (mkF m 92 #[.val (.int p1), .val (.long q2), .second, .val (.int p3), .val (.int p4), .val (.int p5), .val (.int p6), .val (.ref w7), .val (.int (p1 &&& (2147483647 : Int32))), .val (.long ((2147483647 : Int64) - ((p1 &&& (2147483647 : Int32)).toInt64))), .second, .val (.long ((q2 &&& (9223372036854775807 : Int64)) - (q2 &&& (9223372036854775807 : Int64)) / (((2147483647 : Int64) - ((p1 &&& (2147483647 : Int32)).toInt64)) + (1 : Int64)) * (((2147483647 : Int64) - ((p1 &&& (2147483647 : Int32)).toInt64)) + (1 : Int64)))), .second, .val (.ref b9), .val (.ref b12), .val (.long (((p1 &&& (2147483647 : Int32)).toInt64) + ((q2 &&& (9223372036854775807 : Int64)) - (q2 &&& (9223372036854775807 : Int64)) / (((2147483647 : Int64) - ((p1 &&& (2147483647 : Int32)).toInt64)) + (1 : Int64)) * (((2147483647 : Int64) - ((p1 &&& (2147483647 : Int32)).toInt64)) + (1 : Int64))))), .second, .unset] [])) _
    refine XS.aload X13.here hx rfl (hb hby at_92) rfl rfl ?_
    show Steps p.tables e below (T13.setTop (mkF m 94 #[.val (.int p1), .val (.long q2), .second, .val (.int p3), .val (.int p4), .val (.int p5), .val (.int p6), .val (.ref w7), .val (.int (p1 &&& (2147483647 : Int32))), .val (.long ((2147483647 : Int64) - ((p1 &&& (2147483647 : Int32)).toInt64))), .second, .val (.long ((q2 &&& (9223372036854775807 : Int64)) - (q2 &&& (9223372036854775807 : Int64)) / (((2147483647 : Int64) - ((p1 &&& (2147483647 : Int32)).toInt64)) + (1 : Int64)) * (((2147483647 : Int64) - ((p1 &&& (2147483647 : Int32)).toInt64)) + (1 : Int64)))), .second, .val (.ref b9), .val (.ref b12), .val (.long (((p1 &&& (2147483647 : Int32)).toInt64) + ((q2 &&& (9223372036854775807 : Int64)) - (q2 &&& (9223372036854775807 : Int64)) / (((2147483647 : Int64) - ((p1 &&& (2147483647 : Int32)).toInt64)) + (1 : Int64)) * (((2147483647 : Int64) - ((p1 &&& (2147483647 : Int32)).toInt64)) + (1 : Int64))))), .second, .unset] [(.ref b12)])) _
    refine st14.trans ?_
    show Steps p.tables e below (T14.setTop (mkF m 97 #[.val (.int p1), .val (.long q2), .second, .val (.int p3), .val (.int p4), .val (.int p5), .val (.int p6), .val (.ref w7), .val (.int (p1 &&& (2147483647 : Int32))), .val (.long ((2147483647 : Int64) - ((p1 &&& (2147483647 : Int32)).toInt64))), .second, .val (.long ((q2 &&& (9223372036854775807 : Int64)) - (q2 &&& (9223372036854775807 : Int64)) / (((2147483647 : Int64) - ((p1 &&& (2147483647 : Int32)).toInt64)) + (1 : Int64)) * (((2147483647 : Int64) - ((p1 &&& (2147483647 : Int32)).toInt64)) + (1 : Int64)))), .second, .val (.ref b9), .val (.ref b12), .val (.long (((p1 &&& (2147483647 : Int32)).toInt64) + ((q2 &&& (9223372036854775807 : Int64)) - (q2 &&& (9223372036854775807 : Int64)) / (((2147483647 : Int64) - ((p1 &&& (2147483647 : Int32)).toInt64)) + (1 : Int64)) * (((2147483647 : Int64) - ((p1 &&& (2147483647 : Int32)).toInt64)) + (1 : Int64))))), .second, .unset] [(.int ((p1 &&& (2147483647 : Int32)) + (((q2 &&& (9223372036854775807 : Int64)) - (q2 &&& (9223372036854775807 : Int64)) / (((2147483647 : Int64) - ((p1 &&& (2147483647 : Int32)).toInt64)) + (1 : Int64)) * (((2147483647 : Int64) - ((p1 &&& (2147483647 : Int32)).toInt64)) + (1 : Int64))).toInt32)))])) _
    refine XS.istore X14.here hx rfl (hb hby at_97) rfl (l' := #[.val (.int p1), .val (.long q2), .second, .val (.int p3), .val (.int p4), .val (.int p5), .val (.int p6), .val (.ref w7), .val (.int (p1 &&& (2147483647 : Int32))), .val (.long ((2147483647 : Int64) - ((p1 &&& (2147483647 : Int32)).toInt64))), .second, .val (.long ((q2 &&& (9223372036854775807 : Int64)) - (q2 &&& (9223372036854775807 : Int64)) / (((2147483647 : Int64) - ((p1 &&& (2147483647 : Int32)).toInt64)) + (1 : Int64)) * (((2147483647 : Int64) - ((p1 &&& (2147483647 : Int32)).toInt64)) + (1 : Int64)))), .second, .val (.ref b9), .val (.ref b12), .val (.long (((p1 &&& (2147483647 : Int32)).toInt64) + ((q2 &&& (9223372036854775807 : Int64)) - (q2 &&& (9223372036854775807 : Int64)) / (((2147483647 : Int64) - ((p1 &&& (2147483647 : Int32)).toInt64)) + (1 : Int64)) * (((2147483647 : Int64) - ((p1 &&& (2147483647 : Int32)).toInt64)) + (1 : Int64))))), .second, .val (.int ((p1 &&& (2147483647 : Int32)) + (((q2 &&& (9223372036854775807 : Int64)) - (q2 &&& (9223372036854775807 : Int64)) / (((2147483647 : Int64) - ((p1 &&& (2147483647 : Int32)).toInt64)) + (1 : Int64)) * (((2147483647 : Int64) - ((p1 &&& (2147483647 : Int32)).toInt64)) + (1 : Int64))).toInt32)))]) rfl ?_
    show Steps p.tables e below (T14.setTop (mkF m 99 #[.val (.int p1), .val (.long q2), .second, .val (.int p3), .val (.int p4), .val (.int p5), .val (.int p6), .val (.ref w7), .val (.int (p1 &&& (2147483647 : Int32))), .val (.long ((2147483647 : Int64) - ((p1 &&& (2147483647 : Int32)).toInt64))), .second, .val (.long ((q2 &&& (9223372036854775807 : Int64)) - (q2 &&& (9223372036854775807 : Int64)) / (((2147483647 : Int64) - ((p1 &&& (2147483647 : Int32)).toInt64)) + (1 : Int64)) * (((2147483647 : Int64) - ((p1 &&& (2147483647 : Int32)).toInt64)) + (1 : Int64)))), .second, .val (.ref b9), .val (.ref b12), .val (.long (((p1 &&& (2147483647 : Int32)).toInt64) + ((q2 &&& (9223372036854775807 : Int64)) - (q2 &&& (9223372036854775807 : Int64)) / (((2147483647 : Int64) - ((p1 &&& (2147483647 : Int32)).toInt64)) + (1 : Int64)) * (((2147483647 : Int64) - ((p1 &&& (2147483647 : Int32)).toInt64)) + (1 : Int64))))), .second, .val (.int ((p1 &&& (2147483647 : Int32)) + (((q2 &&& (9223372036854775807 : Int64)) - (q2 &&& (9223372036854775807 : Int64)) / (((2147483647 : Int64) - ((p1 &&& (2147483647 : Int32)).toInt64)) + (1 : Int64)) * (((2147483647 : Int64) - ((p1 &&& (2147483647 : Int32)).toInt64)) + (1 : Int64))).toInt32)))] [])) _
    refine XS.iload X14.here hx rfl (hb hby at_99) rfl ?_
    show Steps p.tables e below (T14.setTop (mkF m 101 #[.val (.int p1), .val (.long q2), .second, .val (.int p3), .val (.int p4), .val (.int p5), .val (.int p6), .val (.ref w7), .val (.int (p1 &&& (2147483647 : Int32))), .val (.long ((2147483647 : Int64) - ((p1 &&& (2147483647 : Int32)).toInt64))), .second, .val (.long ((q2 &&& (9223372036854775807 : Int64)) - (q2 &&& (9223372036854775807 : Int64)) / (((2147483647 : Int64) - ((p1 &&& (2147483647 : Int32)).toInt64)) + (1 : Int64)) * (((2147483647 : Int64) - ((p1 &&& (2147483647 : Int32)).toInt64)) + (1 : Int64)))), .second, .val (.ref b9), .val (.ref b12), .val (.long (((p1 &&& (2147483647 : Int32)).toInt64) + ((q2 &&& (9223372036854775807 : Int64)) - (q2 &&& (9223372036854775807 : Int64)) / (((2147483647 : Int64) - ((p1 &&& (2147483647 : Int32)).toInt64)) + (1 : Int64)) * (((2147483647 : Int64) - ((p1 &&& (2147483647 : Int32)).toInt64)) + (1 : Int64))))), .second, .val (.int ((p1 &&& (2147483647 : Int32)) + (((q2 &&& (9223372036854775807 : Int64)) - (q2 &&& (9223372036854775807 : Int64)) / (((2147483647 : Int64) - ((p1 &&& (2147483647 : Int32)).toInt64)) + (1 : Int64)) * (((2147483647 : Int64) - ((p1 &&& (2147483647 : Int32)).toInt64)) + (1 : Int64))).toInt32)))] [(.int ((p1 &&& (2147483647 : Int32)) + (((q2 &&& (9223372036854775807 : Int64)) - (q2 &&& (9223372036854775807 : Int64)) / (((2147483647 : Int64) - ((p1 &&& (2147483647 : Int32)).toInt64)) + (1 : Int64)) * (((2147483647 : Int64) - ((p1 &&& (2147483647 : Int32)).toInt64)) + (1 : Int64))).toInt32)))])) _
    refine XS.i2l X14.here hx rfl (hb hby at_101) rfl ?_
    show Steps p.tables e below (T14.setTop (mkF m 102 #[.val (.int p1), .val (.long q2), .second, .val (.int p3), .val (.int p4), .val (.int p5), .val (.int p6), .val (.ref w7), .val (.int (p1 &&& (2147483647 : Int32))), .val (.long ((2147483647 : Int64) - ((p1 &&& (2147483647 : Int32)).toInt64))), .second, .val (.long ((q2 &&& (9223372036854775807 : Int64)) - (q2 &&& (9223372036854775807 : Int64)) / (((2147483647 : Int64) - ((p1 &&& (2147483647 : Int32)).toInt64)) + (1 : Int64)) * (((2147483647 : Int64) - ((p1 &&& (2147483647 : Int32)).toInt64)) + (1 : Int64)))), .second, .val (.ref b9), .val (.ref b12), .val (.long (((p1 &&& (2147483647 : Int32)).toInt64) + ((q2 &&& (9223372036854775807 : Int64)) - (q2 &&& (9223372036854775807 : Int64)) / (((2147483647 : Int64) - ((p1 &&& (2147483647 : Int32)).toInt64)) + (1 : Int64)) * (((2147483647 : Int64) - ((p1 &&& (2147483647 : Int32)).toInt64)) + (1 : Int64))))), .second, .val (.int ((p1 &&& (2147483647 : Int32)) + (((q2 &&& (9223372036854775807 : Int64)) - (q2 &&& (9223372036854775807 : Int64)) / (((2147483647 : Int64) - ((p1 &&& (2147483647 : Int32)).toInt64)) + (1 : Int64)) * (((2147483647 : Int64) - ((p1 &&& (2147483647 : Int32)).toInt64)) + (1 : Int64))).toInt32)))] [(.long (((p1 &&& (2147483647 : Int32)) + (((q2 &&& (9223372036854775807 : Int64)) - (q2 &&& (9223372036854775807 : Int64)) / (((2147483647 : Int64) - ((p1 &&& (2147483647 : Int32)).toInt64)) + (1 : Int64)) * (((2147483647 : Int64) - ((p1 &&& (2147483647 : Int32)).toInt64)) + (1 : Int64))).toInt32)).toInt64))])) _
    refine XS.lload X14.here hx rfl (hb hby at_102) rfl ?_
    show Steps p.tables e below (T14.setTop (mkF m 104 #[.val (.int p1), .val (.long q2), .second, .val (.int p3), .val (.int p4), .val (.int p5), .val (.int p6), .val (.ref w7), .val (.int (p1 &&& (2147483647 : Int32))), .val (.long ((2147483647 : Int64) - ((p1 &&& (2147483647 : Int32)).toInt64))), .second, .val (.long ((q2 &&& (9223372036854775807 : Int64)) - (q2 &&& (9223372036854775807 : Int64)) / (((2147483647 : Int64) - ((p1 &&& (2147483647 : Int32)).toInt64)) + (1 : Int64)) * (((2147483647 : Int64) - ((p1 &&& (2147483647 : Int32)).toInt64)) + (1 : Int64)))), .second, .val (.ref b9), .val (.ref b12), .val (.long (((p1 &&& (2147483647 : Int32)).toInt64) + ((q2 &&& (9223372036854775807 : Int64)) - (q2 &&& (9223372036854775807 : Int64)) / (((2147483647 : Int64) - ((p1 &&& (2147483647 : Int32)).toInt64)) + (1 : Int64)) * (((2147483647 : Int64) - ((p1 &&& (2147483647 : Int32)).toInt64)) + (1 : Int64))))), .second, .val (.int ((p1 &&& (2147483647 : Int32)) + (((q2 &&& (9223372036854775807 : Int64)) - (q2 &&& (9223372036854775807 : Int64)) / (((2147483647 : Int64) - ((p1 &&& (2147483647 : Int32)).toInt64)) + (1 : Int64)) * (((2147483647 : Int64) - ((p1 &&& (2147483647 : Int32)).toInt64)) + (1 : Int64))).toInt32)))] [(.long (((p1 &&& (2147483647 : Int32)).toInt64) + ((q2 &&& (9223372036854775807 : Int64)) - (q2 &&& (9223372036854775807 : Int64)) / (((2147483647 : Int64) - ((p1 &&& (2147483647 : Int32)).toInt64)) + (1 : Int64)) * (((2147483647 : Int64) - ((p1 &&& (2147483647 : Int32)).toInt64)) + (1 : Int64))))), (.long (((p1 &&& (2147483647 : Int32)) + (((q2 &&& (9223372036854775807 : Int64)) - (q2 &&& (9223372036854775807 : Int64)) / (((2147483647 : Int64) - ((p1 &&& (2147483647 : Int32)).toInt64)) + (1 : Int64)) * (((2147483647 : Int64) - ((p1 &&& (2147483647 : Int32)).toInt64)) + (1 : Int64))).toInt32)).toInt64))])) _
    refine XS.lcmp X14.here hx rfl (hb hby at_104) rfl ?_
    show Steps p.tables e below (T14.setTop (mkF m 105 #[.val (.int p1), .val (.long q2), .second, .val (.int p3), .val (.int p4), .val (.int p5), .val (.int p6), .val (.ref w7), .val (.int (p1 &&& (2147483647 : Int32))), .val (.long ((2147483647 : Int64) - ((p1 &&& (2147483647 : Int32)).toInt64))), .second, .val (.long ((q2 &&& (9223372036854775807 : Int64)) - (q2 &&& (9223372036854775807 : Int64)) / (((2147483647 : Int64) - ((p1 &&& (2147483647 : Int32)).toInt64)) + (1 : Int64)) * (((2147483647 : Int64) - ((p1 &&& (2147483647 : Int32)).toInt64)) + (1 : Int64)))), .second, .val (.ref b9), .val (.ref b12), .val (.long (((p1 &&& (2147483647 : Int32)).toInt64) + ((q2 &&& (9223372036854775807 : Int64)) - (q2 &&& (9223372036854775807 : Int64)) / (((2147483647 : Int64) - ((p1 &&& (2147483647 : Int32)).toInt64)) + (1 : Int64)) * (((2147483647 : Int64) - ((p1 &&& (2147483647 : Int32)).toInt64)) + (1 : Int64))))), .second, .val (.int ((p1 &&& (2147483647 : Int32)) + (((q2 &&& (9223372036854775807 : Int64)) - (q2 &&& (9223372036854775807 : Int64)) / (((2147483647 : Int64) - ((p1 &&& (2147483647 : Int32)).toInt64)) + (1 : Int64)) * (((2147483647 : Int64) - ((p1 &&& (2147483647 : Int32)).toInt64)) + (1 : Int64))).toInt32)))] [(.int (lcmpW (((p1 &&& (2147483647 : Int32)) + (((q2 &&& (9223372036854775807 : Int64)) - (q2 &&& (9223372036854775807 : Int64)) / (((2147483647 : Int64) - ((p1 &&& (2147483647 : Int32)).toInt64)) + (1 : Int64)) * (((2147483647 : Int64) - ((p1 &&& (2147483647 : Int32)).toInt64)) + (1 : Int64))).toInt32)).toInt64) (((p1 &&& (2147483647 : Int32)).toInt64) + ((q2 &&& (9223372036854775807 : Int64)) - (q2 &&& (9223372036854775807 : Int64)) / (((2147483647 : Int64) - ((p1 &&& (2147483647 : Int32)).toInt64)) + (1 : Int64)) * (((2147483647 : Int64) - ((p1 &&& (2147483647 : Int32)).toInt64)) + (1 : Int64))))))])) _
    refine XS.ifNo X14.here hx rfl (hb hby at_105) rfl ((if0 _ _).trans (teq (own_arith p1 q2).2).2) ?_
    show Steps p.tables e below (T14.setTop (mkF m 108 #[.val (.int p1), .val (.long q2), .second, .val (.int p3), .val (.int p4), .val (.int p5), .val (.int p6), .val (.ref w7), .val (.int (p1 &&& (2147483647 : Int32))), .val (.long ((2147483647 : Int64) - ((p1 &&& (2147483647 : Int32)).toInt64))), .second, .val (.long ((q2 &&& (9223372036854775807 : Int64)) - (q2 &&& (9223372036854775807 : Int64)) / (((2147483647 : Int64) - ((p1 &&& (2147483647 : Int32)).toInt64)) + (1 : Int64)) * (((2147483647 : Int64) - ((p1 &&& (2147483647 : Int32)).toInt64)) + (1 : Int64)))), .second, .val (.ref b9), .val (.ref b12), .val (.long (((p1 &&& (2147483647 : Int32)).toInt64) + ((q2 &&& (9223372036854775807 : Int64)) - (q2 &&& (9223372036854775807 : Int64)) / (((2147483647 : Int64) - ((p1 &&& (2147483647 : Int32)).toInt64)) + (1 : Int64)) * (((2147483647 : Int64) - ((p1 &&& (2147483647 : Int32)).toInt64)) + (1 : Int64))))), .second, .val (.int ((p1 &&& (2147483647 : Int32)) + (((q2 &&& (9223372036854775807 : Int64)) - (q2 &&& (9223372036854775807 : Int64)) / (((2147483647 : Int64) - ((p1 &&& (2147483647 : Int32)).toInt64)) + (1 : Int64)) * (((2147483647 : Int64) - ((p1 &&& (2147483647 : Int32)).toInt64)) + (1 : Int64))).toInt32)))] [])) _
    refine XS.iconst X14.here hx rfl (hb hby at_108) ?_
    show Steps p.tables e below (T14.setTop (mkF m 109 #[.val (.int p1), .val (.long q2), .second, .val (.int p3), .val (.int p4), .val (.int p5), .val (.int p6), .val (.ref w7), .val (.int (p1 &&& (2147483647 : Int32))), .val (.long ((2147483647 : Int64) - ((p1 &&& (2147483647 : Int32)).toInt64))), .second, .val (.long ((q2 &&& (9223372036854775807 : Int64)) - (q2 &&& (9223372036854775807 : Int64)) / (((2147483647 : Int64) - ((p1 &&& (2147483647 : Int32)).toInt64)) + (1 : Int64)) * (((2147483647 : Int64) - ((p1 &&& (2147483647 : Int32)).toInt64)) + (1 : Int64)))), .second, .val (.ref b9), .val (.ref b12), .val (.long (((p1 &&& (2147483647 : Int32)).toInt64) + ((q2 &&& (9223372036854775807 : Int64)) - (q2 &&& (9223372036854775807 : Int64)) / (((2147483647 : Int64) - ((p1 &&& (2147483647 : Int32)).toInt64)) + (1 : Int64)) * (((2147483647 : Int64) - ((p1 &&& (2147483647 : Int32)).toInt64)) + (1 : Int64))))), .second, .val (.int ((p1 &&& (2147483647 : Int32)) + (((q2 &&& (9223372036854775807 : Int64)) - (q2 &&& (9223372036854775807 : Int64)) / (((2147483647 : Int64) - ((p1 &&& (2147483647 : Int32)).toInt64)) + (1 : Int64)) * (((2147483647 : Int64) - ((p1 &&& (2147483647 : Int32)).toInt64)) + (1 : Int64))).toInt32)))] [(.int (1 : Int32))])) _
    refine XS.goto X14.here hx rfl (pc0 := 109) (pc' := 113) rfl (hb hby at_109) (by decide) (by decide) ?_
    show Steps p.tables e below (T14.setTop (mkF m 113 #[.val (.int p1), .val (.long q2), .second, .val (.int p3), .val (.int p4), .val (.int p5), .val (.int p6), .val (.ref w7), .val (.int (p1 &&& (2147483647 : Int32))), .val (.long ((2147483647 : Int64) - ((p1 &&& (2147483647 : Int32)).toInt64))), .second, .val (.long ((q2 &&& (9223372036854775807 : Int64)) - (q2 &&& (9223372036854775807 : Int64)) / (((2147483647 : Int64) - ((p1 &&& (2147483647 : Int32)).toInt64)) + (1 : Int64)) * (((2147483647 : Int64) - ((p1 &&& (2147483647 : Int32)).toInt64)) + (1 : Int64)))), .second, .val (.ref b9), .val (.ref b12), .val (.long (((p1 &&& (2147483647 : Int32)).toInt64) + ((q2 &&& (9223372036854775807 : Int64)) - (q2 &&& (9223372036854775807 : Int64)) / (((2147483647 : Int64) - ((p1 &&& (2147483647 : Int32)).toInt64)) + (1 : Int64)) * (((2147483647 : Int64) - ((p1 &&& (2147483647 : Int32)).toInt64)) + (1 : Int64))))), .second, .val (.int ((p1 &&& (2147483647 : Int32)) + (((q2 &&& (9223372036854775807 : Int64)) - (q2 &&& (9223372036854775807 : Int64)) / (((2147483647 : Int64) - ((p1 &&& (2147483647 : Int32)).toInt64)) + (1 : Int64)) * (((2147483647 : Int64) - ((p1 &&& (2147483647 : Int32)).toInt64)) + (1 : Int64))).toInt32)))] [(.int (1 : Int32))])) _
    exact retN X14 hx (t := .boolean) Bd.returns (by simp) (hb hby at_113) hr
  · show Q0tf Z p1 q2 p3 p4 p5 p6 w7 h0 n0 _ T14.heap _
    exact ⟨rfl, N14⟩
theorem own_law (l : Launch) (Z : State) (a0 : Array Value) (hw : ∀ d ∈ tables_1, d.before a0 Z = true) (ws : List Jvm.Cond) (p1 : Int32) (q2 : Int64) (p3 p4 p5 p6 : Int32) (w v : Addr) (wc : Int32) (h0 : Heap) (n0 : Nat) (Z0 : n0 ≤ h0.size) (S_ADD : Sta Z h0 "com/example/seula/seula/ChunkKind" "ADD" "Lcom/example/seula/seula/ChunkKind;" (.ref w)) (S_SUB : Sta Z h0 "com/example/seula/seula/ChunkKind" "SUB" "Lcom/example/seula/seula/ChunkKind;" (.ref v)) (S_C : Sta Z h0 "java/lang/String" "COMPACT_STRINGS" "Z" (.int wc)) (hC : ¬ (wc = (0 : Int32))) :
    MetFree l x (head1 (Jvm.Cond.code x code maxLocals ret :: ws) room_1) (fun a U => a = #[(.int p1), (.long q2), (.int p3), (.int p4), (.int p5), (.int p6)] ∧ Z.Warmed39 U.vm ∧ U.heap = h0) (fun _ _ _ _ _ => True) (fun _ U o U' => ∃ v L, o = .returned v ∧ (v = some (.int (1 : Int32)) ∧ Fr n0 L) ∧ FrameEnd U o U' L room_1.cells room_1.slots) := by
  by_cases c : (p3 &&& (1 : Int32)) = (0 : Int32)
  · exact rm0ff l Z a0 hw ws p1 q2 p3 p4 p5 p6 w h0 n0 Z0 S_ADD c (own_arith p1 q2).1 wc S_C hC
  · exact rm0tf l Z a0 hw ws p1 q2 p3 p4 p5 p6 v h0 n0 Z0 S_SUB c (own_arith p1 q2).1 wc S_C hC
set_option maxRecDepth 65536 in
set_option maxHeartbeats 40000000 in
theorem comes_1 {Post : Tables → Env → Array Value → State → Outcome → State → Prop} (hpost : ∀ tb e args s v u, (limb_1_1.after args s (.returned v) u = true ∧ limb_1_2.after args s (.returned v) u = true ∧ True) → FrameEnd s (.returned v) u (Jvm.fieldLocs frame_1_writes args s ++ Jvm.arrayLocs frame_1_arrays args s ++ Jvm.staticLocs frame_1_statics s) 16 128 → Post tb e args s (.returned v) u) :
    ArmFor flags0 classFile x code maxLocals ret World_1 tables_1 room_1 Calls_1 rest_1 Pre_1 Post := by
  intro l hfl _ _ p e ha hc hk s m args below hf hA hF happ hP
  obtain ⟨hcalls, hrest, hpre⟩ := hP
  obtain ⟨-, -, -, hnamed, -, -, -, hat⟩ := (Spec.applies_iff hf).mp happ
  obtain ⟨hg, hn⟩ := and_e (Cond.before_iff.mp (show (Jvm.Cond.and given_1 narrow_1).before args s = true from hpre))
  obtain ⟨g15, g16⟩ := and_e hg
  obtain ⟨g17, g18⟩ := and_e g16
  obtain ⟨g19, g20⟩ := and_e g18
  obtain ⟨g21, g22⟩ := and_e g20
  obtain ⟨g23, g24⟩ := and_e g22
  obtain ⟨g25, g26⟩ := and_e g24
  obtain ⟨w0, w1, w2, w3, w4, w5, rfl⟩ : ∃ w0 w1 w2 w3 w4 w5 : Value, args = #[w0, w1, w2, w3, w4, w5] := by
    have hs : args.size = 6 := by simpa [Cond.value, given_1] using g15
    obtain ⟨L⟩ := args
    match L, hs with
    | [w0, w1, w2, w3, w4, w5], _ => exact ⟨w0, w1, w2, w3, w4, w5, rfl⟩
  have hw := fun d (hd : d ∈ tables_1) => atoms_spec (ws := Jvm.Cond.code x code maxLocals ret :: tables_1) hat d (List.mem_cons_of_mem _ hd)
  have hfit : Fit s := fun {y c} hc i hi => by
    obtain ⟨ha, rfl⟩ := Array.getElem?_eq_some_iff.mp hc
    have q := List.all_eq_true.mp ((Array.all_eq_true_iff_forall_mem.mp hF) _ (Array.getElem_mem ha)) i (List.mem_range.mpr hi)
    simpa [Array.getElem?_eq_getElem hi] using q
  obtain ⟨hsets, hown0⟩ := atoms_of _ (rest_1_c_eq ▸ (show rest_1_c.before _ s = true from hrest))
  have hr0 := Cond.before_iff.mp hown0
  obtain ⟨i0, ei0⟩ := is_v g17
  obtain rfl : w0 = (.int i0) := Option.some.inj ei0
  obtain ⟨i1, ei1⟩ := isL_v g19
  obtain rfl : w1 = (.long i1) := Option.some.inj ei1
  obtain ⟨i2, ei2⟩ := is_v g21
  obtain rfl : w2 = (.int i2) := Option.some.inj ei2
  obtain ⟨i3, ei3⟩ := is_v g23
  obtain rfl : w3 = (.int i3) := Option.some.inj ei3
  obtain ⟨i4, ei4⟩ := is_v g25
  obtain rfl : w4 = (.int i4) := Option.some.inj ei4
  obtain ⟨i5, ei5⟩ := is_v g26
  obtain rfl : w5 = (.int i5) := Option.some.inj ei5
  obtain ⟨n1, n2⟩ := and_e hn
  obtain ⟨v, ev, Sv, Ev⟩ := own_sta n1 (hw _ (List.mem_of_getElem? (i := 1) rfl)) (hw _ (List.mem_of_getElem? (i := 2) rfl))
  obtain ⟨w, ew, Sw, Ew⟩ := own_sta n2 (hw _ (List.mem_of_getElem? (i := 1) rfl)) (hw _ (List.mem_of_getElem? (i := 76) rfl))
  obtain ⟨wc, ewc⟩ := is_v (Cond.before_iff.mp (hsets _ (List.mem_of_getElem? (i := 1) rfl)))
  have Sc := Sta.start ewc (Or.inl (hsets _ (List.mem_of_getElem? (i := 0) rfl)))
  have hC : ¬ (wc = (0 : Int32)) := by
    intro q
    have c2 := Cond.before_iff.mp (hsets _ (List.mem_of_getElem? (i := 2) rfl))
    simp [Cond.value, ewc, Term.int_eval, q] at c2
  obtain ⟨n, o, h1, h2, h3, _, L, rfl, ⟨rfl, N⟩, hq⟩ := own_law l s _ hw tables_1 i0 i1 i2 i3 i4 i5 w v wc s.heap s.heap.size (Nat.le_refl _) Sw Sv Sc hC p e ha hc hk s m _ below hf ((Spec.applies_iff_loose hf).mp happ).1 ⟨rfl, State.Warmed39.refl s, rfl⟩ trivial
  refine ⟨n, _, h1, h2, h3, hpost _ _ _ _ _ _ ⟨Cond.after_iff.mpr rfl, Cond.after_iff.mpr (eq_i res_at (Term.int_eval (1)) rfl), trivial⟩ ⟨hq.1, hq.2.1, (hq.2.2.sift fun y hy => Or.inr (N y hy)).mono (by decide) (by decide)⟩⟩
theorem main_1_1 : Claimed_1_1 := comes_1 fun _ _ _ _ _ _ h hF => ⟨h.1, hF⟩
theorem main_1_2 : Claimed_1_2 := comes_1 fun _ _ _ _ _ _ h hF => ⟨h.2.1, hF⟩
end Jvm.Pilot.@@N@@
namespace Jvm.Pilot.@@N@@
open Jvm Jvm.ClassFile Sem Op Lib Jvm.Free Jvm.Stand Jvm.Pilot.@@N@@.Jvm.D
/-! MADE BY PROGRAM (witnessworld.py) out of the Statement's table words and the real class files: 21 classes; the members and pool entries that the words name. The judged class is class 1, her method 1. -/
namespace start1
open Jvm.ClassFile
def u (s : String) : CpInfo := .utf8 (stringToUtf16 s)
/-- a pool by its gaps: so many unusable entries, then the entry; so many at the end -/
def gap : Nat → List CpInfo → List CpInfo
  | 0, r => r
  | n + 1, r => .unusable :: gap n r
def poolList (es : List (Nat × CpInfo)) (last : Nat) : List CpInfo := es.foldr (fun e r => gap e.1 (e.2 :: r)) (gap last [])
def pool (es : List (Nat × CpInfo)) (last : Nat) : Array CpInfo := ⟨poolList es last⟩
def fileOf (pool : Array CpInfo) (this : Nat) (attrs : Array Attribute := #[]) (ms : Array MethodInfo := #[]) (fl : Nat := 33) (sup : Nat := 0) (ifs : Array Nat := #[]) (fds : Array FieldInfo := #[]) : ClassFile where
  minorVersion := 0
  majorVersion := 65
  constantPool := pool
  accessFlags := fl
  thisClass := this
  superClass := sup
  interfaces := ifs
  fields := fds
  methods := ms
  attributes := attrs
def plain (name : String) (sup : Option ClassId) : Class where
  name := name
  kind := .ordinary
  loader := none
  accessFlags := 33
  super := sup
  interfaces := #[]
  cf := none
  fields := #[]
  methods := #[]
  instanceTypes := #[]
  staticTypes := #[]
  resolved := #[]
  callSites := []
  init := .initialized
  statics := none
  mirror := none

def pool0 : Array CpInfo := pool [(5, u "<init>"), (0, u "()V"), (1, .class_ 10), (1, u "java/lang/Object")] 113

def k0c0 : Code := { maxStack := 0, maxLocals := 1, code := object_method_1_code, exceptionTable := #[], attributes := #[] }
def k0m0 : Method := { name := "<init>", desc := "()V", sig := { parameters := [], returnType := none }, accessFlags := 1, code := some k0c0 }
/-- java/lang/Object -/
def k0 : Class := { plain "java/lang/Object" none with
  accessFlags := 33
  interfaces := #[]
  cf := some (fileOf pool0 8 #[] #[{ accessFlags := 1, nameIndex := 5, descriptorIndex := 6, attributes := #[] }] 33 0 #[] #[])
  fields := #[]
  methods := #[k0m0]
  instanceTypes := #[]
  staticTypes := #[]
  resolved := Array.replicate 124 none
  statics := none }

def pool1 : Array CpInfo := pool [(2, .class_ 4), (1, u "java/lang/Object"), (0, u "<init>"), (0, u "()V"), (0, .fieldref 8 9), (0, .class_ 10), (0, .nameAndType 11 12), (0, u "com/example/seula/seula/ChunkKind"), (0, u "ADD"), (0, u "Lcom/example/seula/seula/ChunkKind;"), (0, .fieldref 8 14), (0, .nameAndType 15 12), (0, u "SUB"), (0, .integer 2147483647), (2, .long 2147483647), (3, .long 9223372036854775807), (1, .class_ 26), (0, u "com/example/seula/seula/HeadLine"), (0, .methodref 28 29), (0, .class_ 30), (0, .nameAndType 31 32), (0, u "java/lang/String"), (0, u "valueOf"), (0, u "(C)Ljava/lang/String;"), (0, .methodref 25 34), (0, .nameAndType 5 35), (0, u "(Ljava/lang/String;I)V"), (0, .class_ 37), (0, u "com/example/seula/seula/ChunkHead"), (0, .methodref 36 39), (0, .nameAndType 5 40), (0, u "(Lcom/example/seula/seula/ChunkKind;Lcom/example/seula/seula/HeadLine;IIJ)V"), (0, .methodref 36 42), (0, .nameAndType 43 44), (0, u "end"), (0, u "()I"), (0, .class_ 46), (0, u "com/example/seula/seula/ChunkHeadEndPinLaw"), (2, u "law"), (0, u "(IJIIII)Z")] 3

def k1m0 : Method := { name := "<init>", desc := "()V", sig := { parameters := [], returnType := none }, accessFlags := 2, code := none }
def k1c1 : Code := { maxStack := 8, maxLocals := 18, code := code, exceptionTable := #[], attributes := #[] }
def k1m1 : Method := { name := "law", desc := "(IJIIII)Z", sig := { parameters := [.int, .long, .int, .int, .int, .int], returnType := some .boolean }, accessFlags := 9, code := some k1c1 }
/-- com/example/seula/seula/ChunkHeadEndPinLaw -/
def k1 : Class := { plain "com/example/seula/seula/ChunkHeadEndPinLaw" (some 0) with
  accessFlags := 49
  interfaces := #[]
  cf := some (fileOf pool1 45 #[] #[{ accessFlags := 2, nameIndex := 5, descriptorIndex := 6, attributes := #[] }, { accessFlags := 9, nameIndex := 49, descriptorIndex := 50, attributes := #[] }] 49 2 #[] #[])
  fields := #[]
  methods := #[k1m0, k1m1]
  instanceTypes := #[]
  staticTypes := #[]
  resolved := Array.replicate 54 none
  statics := none }

def pool2 : Array CpInfo := pool [(1, .class_ 2), (0, u "java/lang/constant/Constable"), (0, .class_ 4), (0, u "java/lang/Object")] 6

/-- java/lang/constant/Constable -/
def k2 : Class := { plain "java/lang/constant/Constable" (some 0) with
  accessFlags := 1537
  interfaces := #[]
  cf := some (fileOf pool2 1 #[] #[] 1537 3 #[] #[])
  fields := #[]
  methods := #[]
  instanceTypes := #[]
  staticTypes := #[]
  resolved := Array.replicate 11 none
  statics := none }

def pool3 : Array CpInfo := pool [(1, .class_ 2), (0, u "java/lang/Comparable"), (0, .class_ 4), (0, u "java/lang/Object")] 7

/-- java/lang/Comparable -/
def k3 : Class := { plain "java/lang/Comparable" (some 0) with
  accessFlags := 1537
  interfaces := #[]
  cf := some (fileOf pool3 1 #[] #[] 1537 3 #[] #[])
  fields := #[]
  methods := #[]
  instanceTypes := #[]
  staticTypes := #[]
  resolved := Array.replicate 12 none
  statics := none }

def pool4 : Array CpInfo := pool [(1, .class_ 2), (0, u "java/io/Serializable"), (0, .class_ 4), (0, u "java/lang/Object")] 2

/-- java/io/Serializable -/
def k4 : Class := { plain "java/io/Serializable" (some 0) with
  accessFlags := 1537
  interfaces := #[]
  cf := some (fileOf pool4 1 #[] #[] 1537 3 #[] #[])
  fields := #[]
  methods := #[]
  instanceTypes := #[]
  staticTypes := #[]
  resolved := Array.replicate 7 none
  statics := none }

def pool5 : Array CpInfo := pool [(2, .class_ 4), (1, u "java/lang/Enum"), (0, u "name"), (0, u "Ljava/lang/String;"), (2, u "ordinal"), (0, u "I"), (1, .class_ 14), (1, u "java/lang/Object"), (4, u "hash"), (86, .class_ 108), (1, u "java/lang/Enum$EnumDesc"), (2, .class_ 112), (0, u "java/lang/constant/Constable"), (0, .class_ 114), (0, u "java/lang/Comparable"), (0, .class_ 116), (0, u "java/io/Serializable")] 87

/-- java/lang/Enum -/
def k5 : Class := { plain "java/lang/Enum" (some 0) with
  accessFlags := 1057
  interfaces := #[2, 3, 4]
  cf := some (fileOf pool5 2 #[.nestMembers #[106]] #[] 1057 12 #[111, 113, 115] #[{ accessFlags := 18, nameIndex := 5, descriptorIndex := 6, attributes := #[] }, { accessFlags := 18, nameIndex := 9, descriptorIndex := 10, attributes := #[] }, { accessFlags := 2, nameIndex := 19, descriptorIndex := 10, attributes := #[] }])
  fields := #[{ name := "name", type := (.object "java/lang/String"), accessFlags := 18, slot := 0, constantValue := 0 }, { name := "ordinal", type := .int, accessFlags := 18, slot := 1, constantValue := 0 }, { name := "hash", type := .int, accessFlags := 2, slot := 2, constantValue := 0 }]
  methods := #[]
  instanceTypes := #[(.object "java/lang/String"), .int, .int]
  staticTypes := #[]
  resolved := Array.replicate 204 none
  statics := none }

def pool6 : Array CpInfo := pool [(1, .class_ 2), (0, u "com/example/seula/seula/ChunkKind"), (2, u "ADD"), (0, u "Lcom/example/seula/seula/ChunkKind;"), (2, u "SUB"), (2, u "$VALUES"), (0, u "[Lcom/example/seula/seula/ChunkKind;"), (6, .class_ 22), (1, u "java/lang/Enum"), (8, u "letter"), (0, u "Ljava/lang/String;"), (2, u "word"), (2, u "article"), (2, u "numberBytes"), (0, u "I"), (2, u "items")] 73

/-- com/example/seula/seula/ChunkKind -/
def k6 : Class := { plain "com/example/seula/seula/ChunkKind" (some 5) with
  accessFlags := 16433
  interfaces := #[]
  cf := some (fileOf pool6 1 #[] #[] 16433 20 #[] #[{ accessFlags := 16409, nameIndex := 5, descriptorIndex := 6, attributes := #[] }, { accessFlags := 16409, nameIndex := 9, descriptorIndex := 6, attributes := #[] }, { accessFlags := 18, nameIndex := 31, descriptorIndex := 32, attributes := #[] }, { accessFlags := 18, nameIndex := 35, descriptorIndex := 32, attributes := #[] }, { accessFlags := 18, nameIndex := 38, descriptorIndex := 32, attributes := #[] }, { accessFlags := 18, nameIndex := 41, descriptorIndex := 42, attributes := #[] }, { accessFlags := 18, nameIndex := 45, descriptorIndex := 32, attributes := #[] }, { accessFlags := 4122, nameIndex := 12, descriptorIndex := 13, attributes := #[] }])
  fields := #[{ name := "ADD", type := (.object "com/example/seula/seula/ChunkKind"), accessFlags := 16409, slot := 0, constantValue := 0 }, { name := "SUB", type := (.object "com/example/seula/seula/ChunkKind"), accessFlags := 16409, slot := 1, constantValue := 0 }, { name := "letter", type := (.object "java/lang/String"), accessFlags := 18, slot := 3, constantValue := 0 }, { name := "word", type := (.object "java/lang/String"), accessFlags := 18, slot := 4, constantValue := 0 }, { name := "article", type := (.object "java/lang/String"), accessFlags := 18, slot := 5, constantValue := 0 }, { name := "numberBytes", type := .int, accessFlags := 18, slot := 6, constantValue := 0 }, { name := "items", type := (.object "java/lang/String"), accessFlags := 18, slot := 7, constantValue := 0 }, { name := "$VALUES", type := (.array (.object "com/example/seula/seula/ChunkKind")), accessFlags := 4122, slot := 2, constantValue := 0 }]
  methods := #[]
  instanceTypes := #[(.object "java/lang/String"), .int, .int, (.object "java/lang/String"), (.object "java/lang/String"), (.object "java/lang/String"), .int, (.object "java/lang/String")]
  staticTypes := #[(.object "com/example/seula/seula/ChunkKind"), (.object "com/example/seula/seula/ChunkKind"), (.array (.object "com/example/seula/seula/ChunkKind"))]
  resolved := Array.replicate 119 none
  statics := some 0 }

def pool7 : Array CpInfo := pool [(1, .methodref 2 3), (0, .class_ 4), (0, .nameAndType 5 6), (0, u "java/lang/Object"), (0, u "<init>"), (0, u "()V"), (0, .class_ 8), (0, u "java/lang/Record")] 13

def k7c0 : Code := { maxStack := 1, maxLocals := 1, code := jdk_30_method_1_code, exceptionTable := #[], attributes := #[] }
def k7m0 : Method := { name := "<init>", desc := "()V", sig := { parameters := [], returnType := none }, accessFlags := 4, code := some k7c0 }
/-- java/lang/Record -/
def k7 : Class := { plain "java/lang/Record" (some 0) with
  accessFlags := 1057
  interfaces := #[]
  cf := some (fileOf pool7 7 #[] #[{ accessFlags := 4, nameIndex := 5, descriptorIndex := 6, attributes := #[] }] 1057 2 #[] #[])
  fields := #[]
  methods := #[k7m0]
  instanceTypes := #[]
  staticTypes := #[]
  resolved := Array.replicate 22 none
  statics := none }

def pool8 : Array CpInfo := pool [(1, .methodref 2 3), (0, .class_ 4), (0, .nameAndType 5 6), (0, u "java/lang/Record"), (0, u "<init>"), (0, u "()V"), (0, .fieldref 8 9), (0, .class_ 10), (0, .nameAndType 11 12), (0, u "com/example/seula/seula/HeadLine"), (0, u "text"), (0, u "Ljava/lang/String;"), (0, .fieldref 8 14), (0, .nameAndType 15 16), (0, u "end"), (0, u "I"), (13, u "(Ljava/lang/String;I)V"), (36, u "()I")] 30

def k8c0 : Code := { maxStack := 2, maxLocals := 3, code := prog_36_method_1_code, exceptionTable := #[], attributes := #[] }
def k8m0 : Method := { name := "<init>", desc := "(Ljava/lang/String;I)V", sig := { parameters := [(.object "java/lang/String"), .int], returnType := none }, accessFlags := 0, code := some k8c0 }
def k8c1 : Code := { maxStack := 1, maxLocals := 1, code := prog_36_method_10_code, exceptionTable := #[], attributes := #[] }
def k8m1 : Method := { name := "end", desc := "()I", sig := { parameters := [], returnType := some .int }, accessFlags := 1, code := some k8c1 }
/-- com/example/seula/seula/HeadLine -/
def k8 : Class := { plain "com/example/seula/seula/HeadLine" (some 7) with
  accessFlags := 48
  interfaces := #[]
  cf := some (fileOf pool8 8 #[] #[{ accessFlags := 0, nameIndex := 5, descriptorIndex := 30, attributes := #[] }, { accessFlags := 1, nameIndex := 15, descriptorIndex := 67, attributes := #[] }] 48 2 #[] #[{ accessFlags := 18, nameIndex := 11, descriptorIndex := 12, attributes := #[] }, { accessFlags := 18, nameIndex := 15, descriptorIndex := 16, attributes := #[] }])
  fields := #[{ name := "text", type := (.object "java/lang/String"), accessFlags := 18, slot := 0, constantValue := 0 }, { name := "end", type := .int, accessFlags := 18, slot := 1, constantValue := 0 }]
  methods := #[k8m0, k8m1]
  instanceTypes := #[(.object "java/lang/String"), .int]
  staticTypes := #[]
  resolved := Array.replicate 98 none
  statics := none }

def pool9 : Array CpInfo := pool [(2, .class_ 4), (1, u "java/lang/CharSequence"), (42, .class_ 48), (0, u "java/lang/CharSequence$1CodePointIterator"), (10, .class_ 60), (0, u "java/lang/CharSequence$1CharIterator"), (5, .class_ 67), (0, u "java/lang/Object")] 63

/-- java/lang/CharSequence -/
def k9 : Class := { plain "java/lang/CharSequence" (some 0) with
  accessFlags := 1537
  interfaces := #[]
  cf := some (fileOf pool9 2 #[.nestMembers #[47, 59]] #[] 1537 66 #[] #[])
  fields := #[]
  methods := #[]
  instanceTypes := #[]
  staticTypes := #[]
  resolved := Array.replicate 131 none
  statics := none }

def pool10 : Array CpInfo := pool [(1, .class_ 2), (0, u "java/lang/constant/ConstantDesc"), (0, .class_ 4), (0, u "java/lang/Object")] 32

/-- java/lang/constant/ConstantDesc -/
def k10 : Class := { plain "java/lang/constant/ConstantDesc" (some 0) with
  accessFlags := 1537
  interfaces := #[]
  cf := some (fileOf pool10 1 #[] #[] 1537 3 #[] #[])
  fields := #[]
  methods := #[]
  instanceTypes := #[]
  staticTypes := #[]
  resolved := Array.replicate 37 none
  statics := none }

def pool11 : Array CpInfo := pool [(1, .methodref 2 3), (0, .class_ 4), (0, .nameAndType 5 6), (0, u "java/lang/Object"), (0, u "<init>"), (0, u "()V"), (2, .fieldref 10 11), (0, .class_ 12), (0, .nameAndType 13 14), (0, u "java/lang/String"), (0, u "value"), (0, u "[B"), (0, .fieldref 10 16), (0, .nameAndType 17 18), (0, u "coder"), (0, u "B"), (2, u "hash"), (0, u "I"), (2, u "hashIsZero"), (0, u "Z"), (11, .fieldref 10 39), (0, .nameAndType 40 26), (0, u "COMPACT_STRINGS"), (12, u "toBytes"), (53, .class_ 109), (1, u "java/lang/StringLatin1"), (99, .methodref 10 210), (0, .nameAndType 5 211), (0, u "([BB)V"), (157, u "(C)Z"), (205, .class_ 576), (0, u "java/lang/CharSequence"), (22, u "CASE_INSENSITIVE_ORDER"), (0, u "Ljava/util/Comparator;"), (181, u "valueOf"), (0, u "(C)Ljava/lang/String;"), (231, .methodref 107 1016), (0, .nameAndType 1017 369), (0, u "canEncode"), (0, .methodref 107 1019), (0, .nameAndType 53 1020), (0, u "(C)[B"), (80, u "serialPersistentFields"), (0, u "[Ljava/io/ObjectStreamField;"), (0, .class_ 1104), (0, u "java/lang/String$CaseInsensitiveComparator"), (1, .class_ 1107), (0, u "java/io/Serializable"), (0, .class_ 1109), (0, u "java/lang/Comparable"), (0, .class_ 1111), (0, u "java/lang/constant/Constable"), (0, .class_ 1113), (0, u "java/lang/constant/ConstantDesc"), (2, u "serialVersionUID"), (0, u "J"), (3, u "REPL"), (0, u "C"), (2, u "LATIN1"), (1, u "UTF16")] 323

def k11m0 : Method := { name := "<init>", desc := "()V", sig := { parameters := [], returnType := none }, accessFlags := 1, code := none }
def k11c1 : Code := { maxStack := 4, maxLocals := 1, code := jdk_42_method_139_code, exceptionTable := #[], attributes := #[] }
def k11m1 : Method := { name := "valueOf", desc := "(C)Ljava/lang/String;", sig := { parameters := [.char], returnType := some (.object "java/lang/String") }, accessFlags := 9, code := some k11c1 }
def k11c2 : Code := { maxStack := 2, maxLocals := 3, code := jdk_42_method_151_code, exceptionTable := #[], attributes := #[] }
def k11m2 : Method := { name := "<init>", desc := "([BB)V", sig := { parameters := [(.array .byte), .byte], returnType := none }, accessFlags := 0, code := some k11c2 }
/-- java/lang/String -/
def k11 : Class := { plain "java/lang/String" (some 0) with
  accessFlags := 49
  interfaces := #[4, 3, 9, 2, 10]
  cf := some (fileOf pool11 10 #[.nestMembers #[1103]] #[{ accessFlags := 1, nameIndex := 5, descriptorIndex := 6, attributes := #[] }, { accessFlags := 9, nameIndex := 782, descriptorIndex := 783, attributes := #[] }, { accessFlags := 0, nameIndex := 5, descriptorIndex := 211, attributes := #[] }] 49 2 #[1106, 1108, 575, 1110, 1112] #[{ accessFlags := 18, nameIndex := 13, descriptorIndex := 14, attributes := #[] }, { accessFlags := 18, nameIndex := 17, descriptorIndex := 18, attributes := #[] }, { accessFlags := 2, nameIndex := 21, descriptorIndex := 22, attributes := #[] }, { accessFlags := 2, nameIndex := 25, descriptorIndex := 26, attributes := #[] }, { accessFlags := 26, nameIndex := 1116, descriptorIndex := 1117, attributes := #[] }, { accessFlags := 24, nameIndex := 40, descriptorIndex := 26, attributes := #[] }, { accessFlags := 26, nameIndex := 1101, descriptorIndex := 1102, attributes := #[] }, { accessFlags := 26, nameIndex := 1121, descriptorIndex := 1122, attributes := #[] }, { accessFlags := 25, nameIndex := 599, descriptorIndex := 600, attributes := #[] }, { accessFlags := 24, nameIndex := 1125, descriptorIndex := 18, attributes := #[] }, { accessFlags := 24, nameIndex := 1127, descriptorIndex := 18, attributes := #[] }])
  fields := #[{ name := "value", type := (.array .byte), accessFlags := 18, slot := 0, constantValue := 0 }, { name := "coder", type := .byte, accessFlags := 18, slot := 1, constantValue := 0 }, { name := "hash", type := .int, accessFlags := 2, slot := 2, constantValue := 0 }, { name := "hashIsZero", type := .boolean, accessFlags := 2, slot := 3, constantValue := 0 }, { name := "serialVersionUID", type := .long, accessFlags := 26, slot := 0, constantValue := 0 }, { name := "COMPACT_STRINGS", type := .boolean, accessFlags := 24, slot := 1, constantValue := 0 }, { name := "serialPersistentFields", type := (.array (.object "java/io/ObjectStreamField")), accessFlags := 26, slot := 2, constantValue := 0 }, { name := "REPL", type := .char, accessFlags := 26, slot := 3, constantValue := 0 }, { name := "CASE_INSENSITIVE_ORDER", type := (.object "java/util/Comparator"), accessFlags := 25, slot := 4, constantValue := 0 }, { name := "LATIN1", type := .byte, accessFlags := 24, slot := 5, constantValue := 0 }, { name := "UTF16", type := .byte, accessFlags := 24, slot := 6, constantValue := 0 }]
  methods := #[k11m0, k11m1, k11m2]
  instanceTypes := #[(.array .byte), .byte, .int, .boolean]
  staticTypes := #[.long, .boolean, (.array (.object "java/io/ObjectStreamField")), .char, (.object "java/util/Comparator"), .byte, .byte]
  resolved := Array.replicate 1451 none
  statics := some 1 }

def pool12 : Array CpInfo := pool [(4, .class_ 6), (1, u "java/lang/Object"), (0, u "<init>"), (0, u "()V"), (5, .class_ 16), (1, u "java/lang/StringLatin1"), (73, u "canEncode"), (14, u "(C)Z"), (15, u "$assertionsDisabled"), (0, u "Z"), (98, .class_ 223), (1, u "java/lang/StringLatin1$LinesSpliterator"), (156, u "toBytes"), (1, u "(C)[B"), (7, .class_ 391), (0, u "java/lang/StringLatin1$CharsSpliterator")] 3

def k12m0 : Method := { name := "<init>", desc := "()V", sig := { parameters := [], returnType := none }, accessFlags := 0, code := none }
def k12c1 : Code := { maxStack := 2, maxLocals := 1, code := jdk_43_method_3_code, exceptionTable := #[], attributes := #[] }
def k12m1 : Method := { name := "canEncode", desc := "(C)Z", sig := { parameters := [.char], returnType := some .boolean }, accessFlags := 9, code := some k12c1 }
def k12c2 : Code := { maxStack := 4, maxLocals := 1, code := jdk_43_method_46_code, exceptionTable := #[], attributes := #[] }
def k12m2 : Method := { name := "toBytes", desc := "(C)[B", sig := { parameters := [.char], returnType := some (.array .byte) }, accessFlags := 9, code := some k12c2 }
/-- java/lang/StringLatin1 -/
def k12 : Class := { plain "java/lang/StringLatin1" (some 0) with
  accessFlags := 48
  interfaces := #[]
  cf := some (fileOf pool12 14 #[.nestMembers #[390, 221]] #[{ accessFlags := 0, nameIndex := 7, descriptorIndex := 8, attributes := #[] }, { accessFlags := 9, nameIndex := 90, descriptorIndex := 105, attributes := #[] }, { accessFlags := 9, nameIndex := 380, descriptorIndex := 382, attributes := #[] }] 48 4 #[] #[{ accessFlags := 4120, nameIndex := 121, descriptorIndex := 122, attributes := #[] }])
  fields := #[{ name := "$assertionsDisabled", type := .boolean, accessFlags := 4120, slot := 0, constantValue := 0 }]
  methods := #[k12m0, k12m1, k12m2]
  instanceTypes := #[]
  staticTypes := #[.boolean]
  resolved := Array.replicate 395 none
  statics := none }

def pool13 : Array CpInfo := pool [(1, .methodref 2 3), (0, .class_ 4), (0, .nameAndType 5 6), (0, u "java/lang/Record"), (0, u "<init>"), (0, u "()V"), (0, .fieldref 8 9), (0, .class_ 10), (0, .nameAndType 11 12), (0, u "com/example/seula/seula/ChunkHead"), (0, u "kind"), (0, u "Lcom/example/seula/seula/ChunkKind;"), (0, .fieldref 8 14), (0, .nameAndType 15 16), (0, u "line"), (0, u "Lcom/example/seula/seula/HeadLine;"), (0, .fieldref 8 18), (0, .nameAndType 19 20), (0, u "number"), (0, u "I"), (0, .fieldref 8 22), (0, .nameAndType 23 20), (0, u "prefixBytes"), (0, .fieldref 8 25), (0, .nameAndType 26 27), (0, u "length"), (0, u "J"), (1, .class_ 31), (1, u "com/example/seula/seula/HeadLine"), (4, u "HEAD_LINE"), (0, u "Ljava/util/regex/Pattern;"), (88, u "(Lcom/example/seula/seula/ChunkKind;Lcom/example/seula/seula/HeadLine;IIJ)V"), (6, .methodref 29 134), (0, .nameAndType 135 136), (0, u "end"), (0, u "()I"), (27, u "DATA_LENGTH"), (0, u "Ljava/lang/String;")] 55

def k13c0 : Code := { maxStack := 3, maxLocals := 7, code := prog_16_method_1_code, exceptionTable := #[], attributes := #[] }
def k13m0 : Method := { name := "<init>", desc := "(Lcom/example/seula/seula/ChunkKind;Lcom/example/seula/seula/HeadLine;IIJ)V", sig := { parameters := [(.object "com/example/seula/seula/ChunkKind"), (.object "com/example/seula/seula/HeadLine"), .int, .int, .long], returnType := none }, accessFlags := 0, code := some k13c0 }
def k13c1 : Code := { maxStack := 3, maxLocals := 1, code := prog_16_method_5_code, exceptionTable := #[], attributes := #[] }
def k13m1 : Method := { name := "end", desc := "()I", sig := { parameters := [], returnType := some .int }, accessFlags := 0, code := some k13c1 }
/-- com/example/seula/seula/ChunkHead -/
def k13 : Class := { plain "com/example/seula/seula/ChunkHead" (some 7) with
  accessFlags := 48
  interfaces := #[]
  cf := some (fileOf pool13 8 #[] #[{ accessFlags := 0, nameIndex := 5, descriptorIndex := 126, attributes := #[] }, { accessFlags := 0, nameIndex := 135, descriptorIndex := 136, attributes := #[] }] 48 2 #[] #[{ accessFlags := 18, nameIndex := 11, descriptorIndex := 12, attributes := #[] }, { accessFlags := 18, nameIndex := 15, descriptorIndex := 16, attributes := #[] }, { accessFlags := 18, nameIndex := 19, descriptorIndex := 20, attributes := #[] }, { accessFlags := 18, nameIndex := 23, descriptorIndex := 20, attributes := #[] }, { accessFlags := 18, nameIndex := 26, descriptorIndex := 27, attributes := #[] }, { accessFlags := 26, nameIndex := 36, descriptorIndex := 37, attributes := #[] }, { accessFlags := 26, nameIndex := 164, descriptorIndex := 165, attributes := #[] }])
  fields := #[{ name := "kind", type := (.object "com/example/seula/seula/ChunkKind"), accessFlags := 18, slot := 0, constantValue := 0 }, { name := "line", type := (.object "com/example/seula/seula/HeadLine"), accessFlags := 18, slot := 1, constantValue := 0 }, { name := "number", type := .int, accessFlags := 18, slot := 2, constantValue := 0 }, { name := "prefixBytes", type := .int, accessFlags := 18, slot := 3, constantValue := 0 }, { name := "length", type := .long, accessFlags := 18, slot := 4, constantValue := 0 }, { name := "HEAD_LINE", type := (.object "java/util/regex/Pattern"), accessFlags := 26, slot := 0, constantValue := 0 }, { name := "DATA_LENGTH", type := (.object "java/lang/String"), accessFlags := 26, slot := 1, constantValue := 0 }]
  methods := #[k13m0, k13m1]
  instanceTypes := #[(.object "com/example/seula/seula/ChunkKind"), (.object "com/example/seula/seula/HeadLine"), .int, .int, .long]
  staticTypes := #[(.object "java/util/regex/Pattern"), (.object "java/lang/String")]
  resolved := Array.replicate 221 none
  statics := none }

def pool14 : Array CpInfo := pool [(2, .class_ 4), (1, u "java/lang/Object"), (0, u "<init>"), (0, u "()V"), (17, .class_ 26), (1, u "jdk/internal/util/Preconditions"), (28, .class_ 56), (0, u "jdk/internal/util/Preconditions$4"), (57, .class_ 115), (0, u "jdk/internal/util/Preconditions$1"), (7, u "SIOOBE_FORMATTER"), (0, u "Ljava/util/function/BiFunction;"), (0, .class_ 126), (0, u "jdk/internal/util/Preconditions$2"), (3, u "AIOOBE_FORMATTER"), (0, .class_ 132), (0, u "jdk/internal/util/Preconditions$3"), (3, u "IOOBE_FORMATTER")] 57

def k14m0 : Method := { name := "<init>", desc := "()V", sig := { parameters := [], returnType := none }, accessFlags := 1, code := none }
/-- jdk/internal/util/Preconditions -/
def k14 : Class := { plain "jdk/internal/util/Preconditions" (some 0) with
  accessFlags := 33
  interfaces := #[]
  cf := some (fileOf pool14 24 #[.nestMembers #[55, 131, 125, 114]] #[{ accessFlags := 1, nameIndex := 5, descriptorIndex := 6, attributes := #[] }] 33 2 #[] #[{ accessFlags := 25, nameIndex := 123, descriptorIndex := 124, attributes := #[] }, { accessFlags := 25, nameIndex := 130, descriptorIndex := 124, attributes := #[] }, { accessFlags := 25, nameIndex := 136, descriptorIndex := 124, attributes := #[] }])
  fields := #[{ name := "SIOOBE_FORMATTER", type := (.object "java/util/function/BiFunction"), accessFlags := 25, slot := 0, constantValue := 0 }, { name := "AIOOBE_FORMATTER", type := (.object "java/util/function/BiFunction"), accessFlags := 25, slot := 1, constantValue := 0 }, { name := "IOOBE_FORMATTER", type := (.object "java/util/function/BiFunction"), accessFlags := 25, slot := 2, constantValue := 0 }]
  methods := #[k14m0]
  instanceTypes := #[]
  staticTypes := #[(.object "java/util/function/BiFunction"), (.object "java/util/function/BiFunction"), (.object "java/util/function/BiFunction")]
  resolved := Array.replicate 194 none
  statics := some 2 }

def pool15 : Array CpInfo := pool [(9, u "<init>"), (6, .class_ 18), (1, u "java/lang/Object"), (0, u "()V"), (1, .class_ 23), (1, u "jdk/internal/util/ArraysSupport"), (0, u "LOG2_ARRAY_LONG_INDEX_SCALE"), (0, u "I"), (2, u "U"), (0, u "Ljdk/internal/misc/Unsafe;"), (8, u "BIG_ENDIAN"), (0, u "Z"), (8, u "LOG2_BYTE_BIT_SIZE"), (4, u "LOG2_ARRAY_INT_INDEX_SCALE"), (54, u "JLA"), (0, u "Ljdk/internal/access/JavaLangAccess;"), (11, u "LOG2_ARRAY_BOOLEAN_INDEX_SCALE"), (9, u "LOG2_ARRAY_BYTE_INDEX_SCALE"), (5, u "LOG2_ARRAY_CHAR_INDEX_SCALE"), (5, u "LOG2_ARRAY_SHORT_INDEX_SCALE"), (18, u "LOG2_ARRAY_FLOAT_INDEX_SCALE"), (24, u "LOG2_ARRAY_DOUBLE_INDEX_SCALE"), (89, u "T_BOOLEAN"), (2, u "T_CHAR"), (1, u "T_FLOAT"), (1, u "T_DOUBLE"), (1, u "T_BYTE"), (1, u "T_SHORT"), (1, u "T_INT"), (1, u "T_LONG"), (1, u "SOFT_MAX_ARRAY_LENGTH")] 83

def k15m0 : Method := { name := "<init>", desc := "()V", sig := { parameters := [], returnType := none }, accessFlags := 2, code := none }
/-- jdk/internal/util/ArraysSupport -/
def k15 : Class := { plain "jdk/internal/util/ArraysSupport" (some 0) with
  accessFlags := 33
  interfaces := #[]
  cf := some (fileOf pool15 21 #[] #[{ accessFlags := 2, nameIndex := 9, descriptorIndex := 19, attributes := #[] }] 33 16 #[] #[{ accessFlags := 24, nameIndex := 28, descriptorIndex := 29, attributes := #[] }, { accessFlags := 26, nameIndex := 38, descriptorIndex := 39, attributes := #[] }, { accessFlags := 25, nameIndex := 121, descriptorIndex := 25, attributes := #[] }, { accessFlags := 25, nameIndex := 131, descriptorIndex := 25, attributes := #[] }, { accessFlags := 25, nameIndex := 137, descriptorIndex := 25, attributes := #[] }, { accessFlags := 25, nameIndex := 143, descriptorIndex := 25, attributes := #[] }, { accessFlags := 25, nameIndex := 53, descriptorIndex := 25, attributes := #[] }, { accessFlags := 25, nameIndex := 24, descriptorIndex := 25, attributes := #[] }, { accessFlags := 25, nameIndex := 162, descriptorIndex := 25, attributes := #[] }, { accessFlags := 25, nameIndex := 187, descriptorIndex := 25, attributes := #[] }, { accessFlags := 26, nameIndex := 48, descriptorIndex := 25, attributes := #[] }, { accessFlags := 25, nameIndex := 277, descriptorIndex := 25, attributes := #[] }, { accessFlags := 25, nameIndex := 280, descriptorIndex := 25, attributes := #[] }, { accessFlags := 25, nameIndex := 282, descriptorIndex := 25, attributes := #[] }, { accessFlags := 25, nameIndex := 284, descriptorIndex := 25, attributes := #[] }, { accessFlags := 25, nameIndex := 286, descriptorIndex := 25, attributes := #[] }, { accessFlags := 25, nameIndex := 288, descriptorIndex := 25, attributes := #[] }, { accessFlags := 25, nameIndex := 290, descriptorIndex := 25, attributes := #[] }, { accessFlags := 25, nameIndex := 292, descriptorIndex := 25, attributes := #[] }, { accessFlags := 26, nameIndex := 108, descriptorIndex := 109, attributes := #[] }, { accessFlags := 25, nameIndex := 294, descriptorIndex := 25, attributes := #[] }])
  fields := #[{ name := "U", type := (.object "jdk/internal/misc/Unsafe"), accessFlags := 24, slot := 0, constantValue := 0 }, { name := "BIG_ENDIAN", type := .boolean, accessFlags := 26, slot := 1, constantValue := 0 }, { name := "LOG2_ARRAY_BOOLEAN_INDEX_SCALE", type := .int, accessFlags := 25, slot := 2, constantValue := 0 }, { name := "LOG2_ARRAY_BYTE_INDEX_SCALE", type := .int, accessFlags := 25, slot := 3, constantValue := 0 }, { name := "LOG2_ARRAY_CHAR_INDEX_SCALE", type := .int, accessFlags := 25, slot := 4, constantValue := 0 }, { name := "LOG2_ARRAY_SHORT_INDEX_SCALE", type := .int, accessFlags := 25, slot := 5, constantValue := 0 }, { name := "LOG2_ARRAY_INT_INDEX_SCALE", type := .int, accessFlags := 25, slot := 6, constantValue := 0 }, { name := "LOG2_ARRAY_LONG_INDEX_SCALE", type := .int, accessFlags := 25, slot := 7, constantValue := 0 }, { name := "LOG2_ARRAY_FLOAT_INDEX_SCALE", type := .int, accessFlags := 25, slot := 8, constantValue := 0 }, { name := "LOG2_ARRAY_DOUBLE_INDEX_SCALE", type := .int, accessFlags := 25, slot := 9, constantValue := 0 }, { name := "LOG2_BYTE_BIT_SIZE", type := .int, accessFlags := 26, slot := 10, constantValue := 0 }, { name := "T_BOOLEAN", type := .int, accessFlags := 25, slot := 11, constantValue := 0 }, { name := "T_CHAR", type := .int, accessFlags := 25, slot := 12, constantValue := 0 }, { name := "T_FLOAT", type := .int, accessFlags := 25, slot := 13, constantValue := 0 }, { name := "T_DOUBLE", type := .int, accessFlags := 25, slot := 14, constantValue := 0 }, { name := "T_BYTE", type := .int, accessFlags := 25, slot := 15, constantValue := 0 }, { name := "T_SHORT", type := .int, accessFlags := 25, slot := 16, constantValue := 0 }, { name := "T_INT", type := .int, accessFlags := 25, slot := 17, constantValue := 0 }, { name := "T_LONG", type := .int, accessFlags := 25, slot := 18, constantValue := 0 }, { name := "JLA", type := (.object "jdk/internal/access/JavaLangAccess"), accessFlags := 26, slot := 19, constantValue := 0 }, { name := "SOFT_MAX_ARRAY_LENGTH", type := .int, accessFlags := 25, slot := 20, constantValue := 0 }]
  methods := #[k15m0]
  instanceTypes := #[]
  staticTypes := #[(.object "jdk/internal/misc/Unsafe"), .boolean, .int, .int, .int, .int, .int, .int, .int, .int, .int, .int, .int, .int, .int, .int, .int, .int, .int, (.object "jdk/internal/access/JavaLangAccess"), .int]
  resolved := Array.replicate 378 none
  statics := none }

def pool16 : Array CpInfo := pool [(1, u "java/lang/Cloneable"), (0, .class_ 1), (0, u "java/lang/Object"), (0, .class_ 3)] 3

/-- java/lang/Cloneable -/
def k16 : Class := { plain "java/lang/Cloneable" (some 0) with
  accessFlags := 1537
  interfaces := #[]
  cf := some (fileOf pool16 2 #[] #[] 1537 4 #[] #[])
  fields := #[]
  methods := #[]
  instanceTypes := #[]
  staticTypes := #[]
  resolved := Array.replicate 8 none
  statics := none }

/-- the primitive byte -/
def k17 : Class := { plain "byte" none with kind := .primitive 'B', accessFlags := 0x411 }
/-- [B -/
def k18 : Class := { plain "[B" (some 0) with kind := .array 17 .byte, interfaces := #[16, 4], accessFlags := 1041 }

/-- the primitive int -/
def k19 : Class := { plain "int" none with kind := .primitive 'I', accessFlags := 0x411 }
/-- [I -/
def k20 : Class := { plain "[I" (some 0) with kind := .array 19 .int, interfaces := #[16, 4], accessFlags := 1041 }

def heap : Heap := #[{ cls := 6, slots := #[.ref 3, .ref 4, .null], vm := .statics 6 },
  { cls := 11, slots := #[.long 0, .int 1, .null, .int 0, .null, .int 0, .int 0], vm := .statics 11 },
  { cls := 14, slots := #[.null, .null, .null], vm := .statics 14 },
  { cls := 6, slots := #[.null, .int 0, .int 0, .null, .null, .null, .int 0, .null], vm := .none },
  { cls := 6, slots := #[.null, .int 1, .int 0, .null, .null, .null, .int 0, .null], vm := .none }]
def classes : Array Class := #[k0, k1, k2, k3, k4, k5, k6, k7, k8, k9, k10, k11, k12, k13, k14, k15, k16, k17, k18, k19, k20]
def interned : List (Array UInt16 × Addr) := []
def slotsUsed : Nat := 29
def theMethod : MethodId := ⟨1, 1⟩
def args0 : Array Value := #[.int 5, .long 7, .int 3, .int 2, .int 1, .int 65]
def aboutOver (below : List Frame) : State where
  vm := { classes := classes, interned := interned.toArray }
  heap := heap
  slotsUsed := slotsUsed
  threads := #[{ frames := .invoking theMethod args0 :: below }]
def below0 : List Frame := [.native { method := ⟨0, 0⟩, args := #[] }]
def about1 : State := aboutOver below0
def p0 : Program := .bare "" "" ""
def e0 : Env := launch0.env 0 0 0
theorem w_frames : about1.frames = Frame.invoking theMethod args0 :: below0 := rfl
set_option maxRecDepth 65536 in
theorem w_args : argsFit about1.vm theMethod args0 = true := by decide +kernel
set_option maxRecDepth 65536 in
theorem w_heap : heapFits about1 = true := by decide +kernel
set_option maxRecDepth 65536 in
theorem w_runnable : about1.curStatus? = some .runnable := by decide +kernel
set_option maxRecDepth 65536 in
theorem w_alone : about1.alone = true := by decide +kernel
set_option maxRecDepth 65536 in
theorem w_named : about1.methodNamed? x = some theMethod := by decide +kernel
set_option maxRecDepth 65536 in
theorem w_hears : about1.hears theMethod below0 = true := by decide +kernel
set_option maxRecDepth 65536 in
theorem w_ripe : about1.ripe theMethod args0 below0 = true := by decide +kernel
theorem w_running : about1.status = .running := rfl
set_option maxRecDepth 65536 in
theorem w_room : about1.hasRoom e0.platform room_1 = true :=
  launch0.hasRoom_least _ room_1 (by decide +kernel) (by decide +kernel) (by decide +kernel) (by decide +kernel) (by decide +kernel) (by decide +kernel)
theorem allAtoms_all (ts : List Jvm.Cond) (a : Array Jvm.Value) (st : Jvm.State) : (allAtoms ts).before a st = ts.all (fun c => c.before a st) := by
  induction ts with
  | nil => rfl
  | cons c t ih =>
    show (Jvm.Cond.and c (allAtoms t)).before a st = _
    rw [Jvm.Cond.before_and, ih, List.all_cons]
def words1 : List Jvm.Cond := Jvm.Cond.code x code maxLocals ret :: tables_1
/-- a 'code' word, met by the world's own term for the bytes: nothing is compared byte by byte -/
theorem code_word {y : MethodName} {bytes : ByteArray} {mx : Nat} {rt : Option FieldType} {a : Array Value} {s : State} {m : MethodId} {meth : Method} {c : Code} (h1 : s.methodNamed? y = some m) (h2 : s.vm.method? m = some meth) (h3 : meth.code = some c) (h4 : c.code = bytes)
    (h5 : (c.maxLocals == mx && c.exceptionTable.isEmpty && decide (c.maxStack ≤ mostOperands) && decide (meth.sig.returnType = rt) && !meth.locks && decide (parseMethodDescriptor y.desc = some meth.sig)) = true) : (Jvm.Cond.code y bytes mx rt).before a s = true := by
  simp only [Bool.and_eq_true, beq_iff_eq, Bool.not_eq_true', decide_eq_true_eq] at h5
  obtain ⟨⟨⟨⟨⟨g1, g2⟩, g3⟩, g4⟩, g5⟩, g6⟩ := h5
  simp [Cond.before, Cond.holds, Cond.value, h1, h2, h3, h4, g1, g2, g3, g4, g5, g6]
def isCode : Jvm.Cond → Bool
  | .code _ _ _ _ => true
  | _ => false
theorem all_split {L : List Jvm.Cond} {P : Jvm.Cond → Bool} (h1 : L.all (fun c => isCode c || P c) = true) (h2 : ∀ c ∈ L.filter isCode, P c = true) : L.all P = true := by
  refine List.all_eq_true.mpr fun c hc => ?_
  have h := List.all_eq_true.mp h1 c hc
  rcases Bool.eq_false_or_eq_true (isCode c) with hi | hi
  · exact h2 c (List.mem_filter.mpr ⟨hc, hi⟩)
  · simpa [hi] using h
set_option maxRecDepth 65536 in
theorem w_c0 : (Jvm.Cond.code x code maxLocals ret).before args0 about1 = true := code_word (m := ⟨1, 1⟩) (meth := k1m1) (c := k1c1) (by decide +kernel) rfl rfl rfl (by decide +kernel)
set_option maxRecDepth 65536 in
theorem w_c1 : (Jvm.Cond.code ({ cls := "java/lang/String", name := "valueOf", desc := "(C)Ljava/lang/String;" } : Jvm.MethodName) jdk_42_method_139_code (1 : Nat) (Option.some (Jvm.ClassFile.FieldType.object "java/lang/String"))).before args0 about1 = true := code_word (m := ⟨11, 1⟩) (meth := k11m1) (c := k11c1) (by decide +kernel) rfl rfl rfl (by decide +kernel)
set_option maxRecDepth 65536 in
theorem w_c2 : (Jvm.Cond.code ({ cls := "java/lang/StringLatin1", name := "canEncode", desc := "(C)Z" } : Jvm.MethodName) jdk_43_method_3_code (1 : Nat) (Option.some Jvm.ClassFile.FieldType.boolean)).before args0 about1 = true := code_word (m := ⟨12, 1⟩) (meth := k12m1) (c := k12c1) (by decide +kernel) rfl rfl rfl (by decide +kernel)
set_option maxRecDepth 65536 in
theorem w_c3 : (Jvm.Cond.code ({ cls := "java/lang/StringLatin1", name := "toBytes", desc := "(C)[B" } : Jvm.MethodName) jdk_43_method_46_code (1 : Nat) (Option.some (Jvm.ClassFile.FieldType.array Jvm.ClassFile.FieldType.byte))).before args0 about1 = true := code_word (m := ⟨12, 2⟩) (meth := k12m2) (c := k12c2) (by decide +kernel) rfl rfl rfl (by decide +kernel)
set_option maxRecDepth 65536 in
theorem w_c4 : (Jvm.Cond.code ({ cls := "java/lang/String", name := "<init>", desc := "([BB)V" } : Jvm.MethodName) jdk_42_method_151_code (3 : Nat) (Option.none : Option Jvm.ClassFile.FieldType)).before args0 about1 = true := code_word (m := ⟨11, 2⟩) (meth := k11m2) (c := k11c2) (by decide +kernel) rfl rfl rfl (by decide +kernel)
set_option maxRecDepth 65536 in
theorem w_c5 : (Jvm.Cond.code ({ cls := "java/lang/Object", name := "<init>", desc := "()V" } : Jvm.MethodName) object_method_1_code (1 : Nat) (Option.none : Option Jvm.ClassFile.FieldType)).before args0 about1 = true := code_word (m := ⟨0, 0⟩) (meth := k0m0) (c := k0c0) (by decide +kernel) rfl rfl rfl (by decide +kernel)
set_option maxRecDepth 65536 in
theorem w_c6 : (Jvm.Cond.code ({ cls := "com/example/seula/seula/HeadLine", name := "<init>", desc := "(Ljava/lang/String;I)V" } : Jvm.MethodName) prog_36_method_1_code (3 : Nat) (Option.none : Option Jvm.ClassFile.FieldType)).before args0 about1 = true := code_word (m := ⟨8, 0⟩) (meth := k8m0) (c := k8c0) (by decide +kernel) rfl rfl rfl (by decide +kernel)
set_option maxRecDepth 65536 in
theorem w_c7 : (Jvm.Cond.code ({ cls := "java/lang/Record", name := "<init>", desc := "()V" } : Jvm.MethodName) jdk_30_method_1_code (1 : Nat) (Option.none : Option Jvm.ClassFile.FieldType)).before args0 about1 = true := code_word (m := ⟨7, 0⟩) (meth := k7m0) (c := k7c0) (by decide +kernel) rfl rfl rfl (by decide +kernel)
set_option maxRecDepth 65536 in
theorem w_c8 : (Jvm.Cond.code ({ cls := "com/example/seula/seula/ChunkHead", name := "<init>", desc := "(Lcom/example/seula/seula/ChunkKind;Lcom/example/seula/seula/HeadLine;IIJ)V" } : Jvm.MethodName) prog_16_method_1_code (7 : Nat) (Option.none : Option Jvm.ClassFile.FieldType)).before args0 about1 = true := code_word (m := ⟨13, 0⟩) (meth := k13m0) (c := k13c0) (by decide +kernel) rfl rfl rfl (by decide +kernel)
set_option maxRecDepth 65536 in
theorem w_c9 : (Jvm.Cond.code ({ cls := "com/example/seula/seula/ChunkHead", name := "end", desc := "()I" } : Jvm.MethodName) prog_16_method_5_code (1 : Nat) (Option.some Jvm.ClassFile.FieldType.int)).before args0 about1 = true := code_word (m := ⟨13, 1⟩) (meth := k13m1) (c := k13c1) (by decide +kernel) rfl rfl rfl (by decide +kernel)
set_option maxRecDepth 65536 in
theorem w_c10 : (Jvm.Cond.code ({ cls := "com/example/seula/seula/HeadLine", name := "end", desc := "()I" } : Jvm.MethodName) prog_36_method_10_code (1 : Nat) (Option.some Jvm.ClassFile.FieldType.int)).before args0 about1 = true := code_word (m := ⟨8, 1⟩) (meth := k8m1) (c := k8c1) (by decide +kernel) rfl rfl rfl (by decide +kernel)
def codes1 : List Jvm.Cond := [Jvm.Cond.code x code maxLocals ret, Jvm.Cond.code ({ cls := "java/lang/String", name := "valueOf", desc := "(C)Ljava/lang/String;" } : Jvm.MethodName) jdk_42_method_139_code (1 : Nat) (Option.some (Jvm.ClassFile.FieldType.object "java/lang/String")), Jvm.Cond.code ({ cls := "java/lang/StringLatin1", name := "canEncode", desc := "(C)Z" } : Jvm.MethodName) jdk_43_method_3_code (1 : Nat) (Option.some Jvm.ClassFile.FieldType.boolean), Jvm.Cond.code ({ cls := "java/lang/StringLatin1", name := "toBytes", desc := "(C)[B" } : Jvm.MethodName) jdk_43_method_46_code (1 : Nat) (Option.some (Jvm.ClassFile.FieldType.array Jvm.ClassFile.FieldType.byte)), Jvm.Cond.code ({ cls := "java/lang/String", name := "<init>", desc := "([BB)V" } : Jvm.MethodName) jdk_42_method_151_code (3 : Nat) (Option.none : Option Jvm.ClassFile.FieldType), Jvm.Cond.code ({ cls := "java/lang/Object", name := "<init>", desc := "()V" } : Jvm.MethodName) object_method_1_code (1 : Nat) (Option.none : Option Jvm.ClassFile.FieldType), Jvm.Cond.code ({ cls := "com/example/seula/seula/HeadLine", name := "<init>", desc := "(Ljava/lang/String;I)V" } : Jvm.MethodName) prog_36_method_1_code (3 : Nat) (Option.none : Option Jvm.ClassFile.FieldType), Jvm.Cond.code ({ cls := "java/lang/Record", name := "<init>", desc := "()V" } : Jvm.MethodName) jdk_30_method_1_code (1 : Nat) (Option.none : Option Jvm.ClassFile.FieldType), Jvm.Cond.code ({ cls := "com/example/seula/seula/ChunkHead", name := "<init>", desc := "(Lcom/example/seula/seula/ChunkKind;Lcom/example/seula/seula/HeadLine;IIJ)V" } : Jvm.MethodName) prog_16_method_1_code (7 : Nat) (Option.none : Option Jvm.ClassFile.FieldType), Jvm.Cond.code ({ cls := "com/example/seula/seula/ChunkHead", name := "end", desc := "()I" } : Jvm.MethodName) prog_16_method_5_code (1 : Nat) (Option.some Jvm.ClassFile.FieldType.int), Jvm.Cond.code ({ cls := "com/example/seula/seula/HeadLine", name := "end", desc := "()I" } : Jvm.MethodName) prog_36_method_10_code (1 : Nat) (Option.some Jvm.ClassFile.FieldType.int)]
set_option maxRecDepth 65536 in
theorem codes_eq : words1.filter isCode = codes1 := rfl
theorem w_codes : ∀ c ∈ words1.filter isCode, c.before args0 about1 = true := by
  rw [codes_eq]
  intro c hc
  simp only [codes1, List.mem_cons, List.not_mem_nil, or_false] at hc
  rcases hc with rfl | rfl | rfl | rfl | rfl | rfl | rfl | rfl | rfl | rfl | rfl
  · exact w_c0
  · exact w_c1
  · exact w_c2
  · exact w_c3
  · exact w_c4
  · exact w_c5
  · exact w_c6
  · exact w_c7
  · exact w_c8
  · exact w_c9
  · exact w_c10
set_option maxRecDepth 65536 in
theorem w_t1 : (words1.take 24).all (fun c => isCode c || c.before args0 about1) = true := by decide +kernel
set_option maxRecDepth 65536 in
theorem w_t2 : ((words1.drop 24).take 24).all (fun c => isCode c || c.before args0 about1) = true := by decide +kernel
set_option maxRecDepth 65536 in
theorem w_t3 : (((words1.drop 24).drop 24).take 24).all (fun c => isCode c || c.before args0 about1) = true := by decide +kernel
set_option maxRecDepth 65536 in
theorem w_t4 : (((words1.drop 24).drop 24).drop 24).all (fun c => isCode c || c.before args0 about1) = true := by decide +kernel
theorem w_tables : (allAtoms (Jvm.Cond.code x code maxLocals ret :: tables_1)).before args0 about1 = true := by
  rw [allAtoms_all]
  show words1.all (fun c => c.before args0 about1) = true
  refine all_split ?_ w_codes
  rw [← List.take_append_drop 24 words1, List.all_append, w_t1, ← List.take_append_drop 24 (words1.drop 24), List.all_append, w_t2, ← List.take_append_drop 24 ((words1.drop 24).drop 24), List.all_append, w_t3, w_t4]
  rfl
set_option maxRecDepth 65536 in
theorem w_rest : rest_1_c.before args0 about1 = true := by decide +kernel
set_option maxRecDepth 65536 in
theorem w_case : (Jvm.Cond.and given_1 narrow_1).before args0 about1 = true := by decide +kernel
theorem w_applies : (headSpec (Jvm.Cond.code x code maxLocals ret :: tables_1) room_1).applies x e0.platform about1 = true :=
  (Spec.applies_iff w_frames).mpr ⟨w_running, w_runnable, w_alone, w_named, w_hears, w_ripe, w_room, w_tables⟩
theorem atStart : AtStart classFile x code maxLocals ret World_1 tables_1 room_1 Calls_1 rest_1 Pre_1 launch0 p0 e0 about1 theMethod args0 below0 :=
  ⟨lists_1, trivial, launch0.admits_env _ _ _, launch0.least_env, fairChoices_fair.cas, fairChoices_fair.clock, w_frames, w_args, w_heap, w_applies, trivial, w_rest, w_case⟩
end start1
theorem witness_1 : WitnessClaimed_1 := ⟨start1.p0, start1.e0, start1.about1, start1.theMethod, start1.args0, start1.below0, start1.atStart⟩
end Jvm.Pilot.@@N@@
