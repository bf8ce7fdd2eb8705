import JvmDerived
import JvmDerived.Pilot.@@N@@Statement
import JvmDerived.Pilot.@@N@@Code
set_option linter.unusedVariables false
set_option linter.unusedSimpArgs false
@@BLOCK:NumsL.lean.txt@@
namespace Jvm.RoadKit
open Sem ClassFile Op Lib Jvm.Stand Jvm.Free Jvm.LawKit
section New
variable {p : Program} {l : Launch} {e : Env} {R : Room} {s : State} {m : MethodId} {args : Array Value} {below : List Frame} {meth : Method} {c : Code} {T : State} {locs : List Loc} {cells slots : Nat}
theorem retI (X : Stand p l e R s m args below meth c T locs cells slots) (hx : p.tables.exec = Jvm.exec) {pc : Nat} {Ls : Array Slot} {z : Int32} {rest : List Value} (hret : meth.sig.returnType = some .int) (hd : decode c.code pc = .ok (.ireturn, 1)) {fs : List Frame}
    (hl : ∀ (f : JFrame) (acts : List Action), f.method = m → f.locked = none → f.entered = [] → (doReturn e (T.setTop f) acts (some (.int z))).1 = T.setFrames fs) : Steps p.tables e below (T.setTop (mkF m pc Ls (.int z :: rest))) (T.setFrames fs) := by
  have hm' : T.vm.method? m = some meth := X.method'
  have hn : narrow .int (.int z) = .int z := rfl
  show Steps p.tables e below (T.setTop { method := m, pc := pc, locals := Ls, stack := _ :: rest, locked := none }) _
  jvm_step X.here [X.here.top, hx, hd, hm', hret, hn]
  first | (intro acts; rw [hl _ acts rfl rfl rfl]) | rw [hl _ _ rfl rfl rfl]
  exact Steps.refl _
end New
end Jvm.RoadKit
namespace Jvm.Pilot.@@N@@
open Jvm Jvm.ClassFile Sem Op Lib Jvm.Free Jvm.Stand Jvm.LawKit Jvm.RoadKit Bundle Jvm.Pilot.@@N@@.Jvm.D
theorem own_staK {Z : State} {h h' : Heap} {C n d : String} {v : Value} (F : Sta Z h C n d v) (K : Keep h h' []) : Sta Z h' C n d v := by
  obtain ⟨cf, i, k, f, st, cell, h1, h2, h3, h4, h5, h6, h7⟩ := F
  exact ⟨cf, i, k, f, st, cell, h1, h2, h3, h4, K.2.1 st cell h5 nin0, h6, h7⟩
theorem own_keepEq {h h' : Heap} (e : h' = h) (ws : List Addr) : Keep h h' ws := e ▸ Keep.refl h ws
theorem d1_0 : decode method_3_code 0 = .ok (.iload_n 2, 1) := by decide +kernel
theorem d1_1 : decode method_3_code 1 = .ok (.iload_n 1, 1) := by decide +kernel
theorem d1_2 : decode method_3_code 2 = .ok (.if_icmp .gt 16, 3) := by decide +kernel
theorem d1_18 : decode method_3_code 18 = .ok (.iconst 0, 1) := by decide +kernel
theorem d1_19 : decode method_3_code 19 = .ok (.ireturn, 1) := by decide +kernel
theorem pn_1 : plainName "com/example/cuvette/cuvette/astm/E1381ChecksumPinLaw" = true := by first | (simp [plainName, overriddenIn]; done) | decide +kernel
theorem ef_1 (m : MethodId) (x0 : Int32) (x1 : Int32) (x2 : Int32) (x3 : Int32) : entryFrame m #[(.int x0), (.int x1), (.int x2), (.int x3)] 4 = mkF m 0 #[.val (.int x0), .val (.int x1), .val (.int x2), .val (.int x3)] [] := by first | (simp [entryFrame, mkF, argsToLocals, Value.category]; done) | rfl
def Q1t (Z : State) (p1 : Int32) (p2 : Int32) (p3 : Int32) (p4 : Int32) (h0 : Heap) (n0 : Nat) (v : Option Value) (h : Heap) (L : List Loc) : Prop := v = some (.int (0 : Int32)) ∧ Fr n0 L ∧ h = h0
set_option maxRecDepth 65536 in
set_option maxHeartbeats 40000000 in
theorem rm1t (l : Launch) (Z : State) (a0 : Array Value) (hw : ∀ d ∈ tables_1, d.before a0 Z = true) (ws : List Jvm.Cond) (p1 : Int32) (p2 : Int32) (p3 : Int32) (p4 : Int32) (h0 : Heap) (n0 : Nat) (Z0 : n0 ≤ h0.size) (hc2 : p2 < p3) :
    MetFree l (⟨"com/example/cuvette/cuvette/astm/E1381ChecksumPinLaw", "term", "(IIII)I"⟩ : MethodName) (head1 (Jvm.Cond.code (⟨"com/example/cuvette/cuvette/astm/E1381ChecksumPinLaw", "term", "(IIII)I"⟩ : MethodName) method_3_code 4 (some .int) :: ws) ({ frames := 0, cells := 0, slots := 0, locals := 0 } : Room)) (fun a U => a = #[(.int p1), (.int p2), (.int p3), (.int p4)] ∧ Z.Warmed39 U.vm ∧ U.heap = h0) (fun _ _ _ _ _ => True) (fun _ U o U' => ∃ v L, o = .returned v ∧ Q1t Z p1 p2 p3 p4 h0 n0 v U'.heap L ∧ FrameEnd U o U' L ({ frames := 0, cells := 0, slots := 0, locals := 0 } : Room).cells ({ frames := 0, cells := 0, slots := 0, locals := 0 } : Room).slots) := by
  refine MetFree.of_bodySF (plainFor_of_name pn_1) hisR ?_
  intro p e s m args below meth c s₁ Bd hml0 hP hK
  obtain ⟨rfl, hZ, hh⟩ := hP
  have hx := Bd.exec
  have hby := Bd.bytes
  have hml : c.maxLocals = 4 := hml0
  have hown : s.vm.findClass "com/example/cuvette/cuvette/astm/E1381ChecksumPinLaw" = some m.cls := findClass_of_methodNamed Bd.named
  have hnm := (name_of_methodNamed Bd.named Bd.method).1
  have X0 : Stand p l e ({ frames := 0, cells := 0, slots := 0, locals := 0 } : Room) s m #[(.int p1), (.int p2), (.int p3), (.int p4)] below meth c s₁ [] 0 0 := Stand.of_body Bd
  have e0 : s₁.heap = h0 := by rw [← hh, Bd.state]; rfl
  have N0 := Fr.nil n0
  have pre0 : ∀ t, Steps p.tables e below (s₁.setTop (mkF m 0 #[.val (.int p1), .val (.int p2), .val (.int p3), .val (.int p4)] [])) t → Steps p.tables e below (s₁.setTop (entryFrame m #[(.int p1), (.int p2), (.int p3), (.int p4)] 4)) t := fun t k => castTop (ef_1 m p1 p2 p3 p4) k

  obtain ⟨fs, hr, hrun, hended, hW, hsame⟩ := X0.leave (v := some (.int (0 : Int32))) (fun h => by rw [Bd.returns] at h; cases h)
  refine ⟨_, _, pre0 _ ?_, hrun, hended, _, _, rfl, ?_, ⟨_, rfl⟩, hW, hsame.mono (by decide) (by decide)⟩
  · show Steps p.tables e below (s₁.setTop (mkF m 0 #[.val (.int p1), .val (.int p2), .val (.int p3), .val (.int p4)] [])) _
    refine XS.iloadN X0.here hx rfl (hb hby d1_0) rfl ?_
    show Steps p.tables e below (s₁.setTop (mkF m 1 #[.val (.int p1), .val (.int p2), .val (.int p3), .val (.int p4)] [(.int p3)])) _
    refine XS.iloadN X0.here hx rfl (hb hby d1_1) rfl ?_
    show Steps p.tables e below (s₁.setTop (mkF m 2 #[.val (.int p1), .val (.int p2), .val (.int p3), .val (.int p4)] [(.int p2), (.int p3)])) _
    refine XS.icmpYes X0.here hx rfl (pc0 := 2) (pc' := 18) rfl (hb hby d1_2) rfl (tlt hc2).2.2.1 (by decide) (by decide) ?_
    show Steps p.tables e below (s₁.setTop (mkF m 18 #[.val (.int p1), .val (.int p2), .val (.int p3), .val (.int p4)] [])) _
    refine XS.iconst X0.here hx rfl (hb hby d1_18) ?_
    show Steps p.tables e below (s₁.setTop (mkF m 19 #[.val (.int p1), .val (.int p2), .val (.int p3), .val (.int p4)] [(.int (0 : Int32))])) _
    exact retI X0 hx Bd.returns (hb hby d1_19) hr      -- retI stands in the head ('lawwalk <made dir>' prints it)
  · show Q1t Z p1 p2 p3 p4 h0 n0 _ s₁.heap _
    rw [e0]
    exact ⟨rfl, N0, rfl⟩
theorem d1_5 : decode method_3_code 5 = .ok (.iload_n 1, 1) := by decide +kernel
theorem d1_6 : decode method_3_code 6 = .ok (.iload_n 3, 1) := by decide +kernel
theorem d1_7 : decode method_3_code 7 = .ok (.if_icmp .ge 11, 3) := by decide +kernel
def Q1ft (Z : State) (p1 : Int32) (p2 : Int32) (p3 : Int32) (p4 : Int32) (h0 : Heap) (n0 : Nat) (v : Option Value) (h : Heap) (L : List Loc) : Prop := v = some (.int (0 : Int32)) ∧ Fr n0 L ∧ h = h0
set_option maxRecDepth 65536 in
set_option maxHeartbeats 40000000 in
theorem rm1ft (l : Launch) (Z : State) (a0 : Array Value) (hw : ∀ d ∈ tables_1, d.before a0 Z = true) (ws : List Jvm.Cond) (p1 : Int32) (p2 : Int32) (p3 : Int32) (p4 : Int32) (h0 : Heap) (n0 : Nat) (Z0 : n0 ≤ h0.size) (hc2 : ¬ (p2 < p3)) (hc7 : ¬ (p2 < p4)) :
    MetFree l (⟨"com/example/cuvette/cuvette/astm/E1381ChecksumPinLaw", "term", "(IIII)I"⟩ : MethodName) (head1 (Jvm.Cond.code (⟨"com/example/cuvette/cuvette/astm/E1381ChecksumPinLaw", "term", "(IIII)I"⟩ : MethodName) method_3_code 4 (some .int) :: ws) ({ frames := 0, cells := 0, slots := 0, locals := 0 } : Room)) (fun a U => a = #[(.int p1), (.int p2), (.int p3), (.int p4)] ∧ Z.Warmed39 U.vm ∧ U.heap = h0) (fun _ _ _ _ _ => True) (fun _ U o U' => ∃ v L, o = .returned v ∧ Q1ft Z p1 p2 p3 p4 h0 n0 v U'.heap L ∧ FrameEnd U o U' L ({ frames := 0, cells := 0, slots := 0, locals := 0 } : Room).cells ({ frames := 0, cells := 0, slots := 0, locals := 0 } : Room).slots) := by
  refine MetFree.of_bodySF (plainFor_of_name pn_1) hisR ?_
  intro p e s m args below meth c s₁ Bd hml0 hP hK
  obtain ⟨rfl, hZ, hh⟩ := hP
  have hx := Bd.exec
  have hby := Bd.bytes
  have hml : c.maxLocals = 4 := hml0
  have hown : s.vm.findClass "com/example/cuvette/cuvette/astm/E1381ChecksumPinLaw" = some m.cls := findClass_of_methodNamed Bd.named
  have hnm := (name_of_methodNamed Bd.named Bd.method).1
  have X0 : Stand p l e ({ frames := 0, cells := 0, slots := 0, locals := 0 } : Room) s m #[(.int p1), (.int p2), (.int p3), (.int p4)] below meth c s₁ [] 0 0 := Stand.of_body Bd
  have e0 : s₁.heap = h0 := by rw [← hh, Bd.state]; rfl
  have N0 := Fr.nil n0
  have pre0 : ∀ t, Steps p.tables e below (s₁.setTop (mkF m 0 #[.val (.int p1), .val (.int p2), .val (.int p3), .val (.int p4)] [])) t → Steps p.tables e below (s₁.setTop (entryFrame m #[(.int p1), (.int p2), (.int p3), (.int p4)] 4)) t := fun t k => castTop (ef_1 m p1 p2 p3 p4) k

  obtain ⟨fs, hr, hrun, hended, hW, hsame⟩ := X0.leave (v := some (.int (0 : Int32))) (fun h => by rw [Bd.returns] at h; cases h)
  refine ⟨_, _, pre0 _ ?_, hrun, hended, _, _, rfl, ?_, ⟨_, rfl⟩, hW, hsame.mono (by decide) (by decide)⟩
  · show Steps p.tables e below (s₁.setTop (mkF m 0 #[.val (.int p1), .val (.int p2), .val (.int p3), .val (.int p4)] [])) _
    refine XS.iloadN X0.here hx rfl (hb hby d1_0) rfl ?_
    show Steps p.tables e below (s₁.setTop (mkF m 1 #[.val (.int p1), .val (.int p2), .val (.int p3), .val (.int p4)] [(.int p3)])) _
    refine XS.iloadN X0.here hx rfl (hb hby d1_1) rfl ?_
    show Steps p.tables e below (s₁.setTop (mkF m 2 #[.val (.int p1), .val (.int p2), .val (.int p3), .val (.int p4)] [(.int p2), (.int p3)])) _
    refine XS.icmpNo X0.here hx rfl (hb hby d1_2) rfl (flt hc2).2.2.1 ?_
    show Steps p.tables e below (s₁.setTop (mkF m 5 #[.val (.int p1), .val (.int p2), .val (.int p3), .val (.int p4)] [])) _
    refine XS.iloadN X0.here hx rfl (hb hby d1_5) rfl ?_
    show Steps p.tables e below (s₁.setTop (mkF m 6 #[.val (.int p1), .val (.int p2), .val (.int p3), .val (.int p4)] [(.int p2)])) _
    refine XS.iloadN X0.here hx rfl (hb hby d1_6) rfl ?_
    show Steps p.tables e below (s₁.setTop (mkF m 7 #[.val (.int p1), .val (.int p2), .val (.int p3), .val (.int p4)] [(.int p4), (.int p2)])) _
    refine XS.icmpYes X0.here hx rfl (pc0 := 7) (pc' := 18) rfl (hb hby d1_7) rfl (flt hc7).2.1 (by decide) (by decide) ?_
    show Steps p.tables e below (s₁.setTop (mkF m 18 #[.val (.int p1), .val (.int p2), .val (.int p3), .val (.int p4)] [])) _
    refine XS.iconst X0.here hx rfl (hb hby d1_18) ?_
    show Steps p.tables e below (s₁.setTop (mkF m 19 #[.val (.int p1), .val (.int p2), .val (.int p3), .val (.int p4)] [(.int (0 : Int32))])) _
    exact retI X0 hx Bd.returns (hb hby d1_19) hr      -- retI stands in the head ('lawwalk <made dir>' prints it)
  · show Q1ft Z p1 p2 p3 p4 h0 n0 _ s₁.heap _
    rw [e0]
    exact ⟨rfl, N0, rfl⟩
theorem d1_10 : decode method_3_code 10 = .ok (.iload_n 0, 1) := by decide +kernel
theorem d1_11 : decode method_3_code 11 = .ok (.sipush 255, 3) := by decide +kernel
theorem d1_14 : decode method_3_code 14 = .ok (.iand, 1) := by decide +kernel
theorem d1_15 : decode method_3_code 15 = .ok (.goto 4, 3) := by decide +kernel
def Q1ff (Z : State) (p1 : Int32) (p2 : Int32) (p3 : Int32) (p4 : Int32) (h0 : Heap) (n0 : Nat) (v : Option Value) (h : Heap) (L : List Loc) : Prop := v = some (.int (p1 &&& (255 : Int32))) ∧ Fr n0 L ∧ h = h0
set_option maxRecDepth 65536 in
set_option maxHeartbeats 40000000 in
theorem rm1ff (l : Launch) (Z : State) (a0 : Array Value) (hw : ∀ d ∈ tables_1, d.before a0 Z = true) (ws : List Jvm.Cond) (p1 : Int32) (p2 : Int32) (p3 : Int32) (p4 : Int32) (h0 : Heap) (n0 : Nat) (Z0 : n0 ≤ h0.size) (hc2 : ¬ (p2 < p3)) (hc7 : p2 < p4) :
    MetFree l (⟨"com/example/cuvette/cuvette/astm/E1381ChecksumPinLaw", "term", "(IIII)I"⟩ : MethodName) (head1 (Jvm.Cond.code (⟨"com/example/cuvette/cuvette/astm/E1381ChecksumPinLaw", "term", "(IIII)I"⟩ : MethodName) method_3_code 4 (some .int) :: ws) ({ frames := 0, cells := 0, slots := 0, locals := 0 } : Room)) (fun a U => a = #[(.int p1), (.int p2), (.int p3), (.int p4)] ∧ Z.Warmed39 U.vm ∧ U.heap = h0) (fun _ _ _ _ _ => True) (fun _ U o U' => ∃ v L, o = .returned v ∧ Q1ff Z p1 p2 p3 p4 h0 n0 v U'.heap L ∧ FrameEnd U o U' L ({ frames := 0, cells := 0, slots := 0, locals := 0 } : Room).cells ({ frames := 0, cells := 0, slots := 0, locals := 0 } : Room).slots) := by
  refine MetFree.of_bodySF (plainFor_of_name pn_1) hisR ?_
  intro p e s m args below meth c s₁ Bd hml0 hP hK
  obtain ⟨rfl, hZ, hh⟩ := hP
  have hx := Bd.exec
  have hby := Bd.bytes
  have hml : c.maxLocals = 4 := hml0
  have hown : s.vm.findClass "com/example/cuvette/cuvette/astm/E1381ChecksumPinLaw" = some m.cls := findClass_of_methodNamed Bd.named
  have hnm := (name_of_methodNamed Bd.named Bd.method).1
  have X0 : Stand p l e ({ frames := 0, cells := 0, slots := 0, locals := 0 } : Room) s m #[(.int p1), (.int p2), (.int p3), (.int p4)] below meth c s₁ [] 0 0 := Stand.of_body Bd
  have e0 : s₁.heap = h0 := by rw [← hh, Bd.state]; rfl
  have N0 := Fr.nil n0
  have pre0 : ∀ t, Steps p.tables e below (s₁.setTop (mkF m 0 #[.val (.int p1), .val (.int p2), .val (.int p3), .val (.int p4)] [])) t → Steps p.tables e below (s₁.setTop (entryFrame m #[(.int p1), (.int p2), (.int p3), (.int p4)] 4)) t := fun t k => castTop (ef_1 m p1 p2 p3 p4) k

  obtain ⟨fs, hr, hrun, hended, hW, hsame⟩ := X0.leave (v := some (.int (p1 &&& (255 : Int32)))) (fun h => by rw [Bd.returns] at h; cases h)
  refine ⟨_, _, pre0 _ ?_, hrun, hended, _, _, rfl, ?_, ⟨_, rfl⟩, hW, hsame.mono (by decide) (by decide)⟩
  · show Steps p.tables e below (s₁.setTop (mkF m 0 #[.val (.int p1), .val (.int p2), .val (.int p3), .val (.int p4)] [])) _
    refine XS.iloadN X0.here hx rfl (hb hby d1_0) rfl ?_
    show Steps p.tables e below (s₁.setTop (mkF m 1 #[.val (.int p1), .val (.int p2), .val (.int p3), .val (.int p4)] [(.int p3)])) _
    refine XS.iloadN X0.here hx rfl (hb hby d1_1) rfl ?_
    show Steps p.tables e below (s₁.setTop (mkF m 2 #[.val (.int p1), .val (.int p2), .val (.int p3), .val (.int p4)] [(.int p2), (.int p3)])) _
    refine XS.icmpNo X0.here hx rfl (hb hby d1_2) rfl (flt hc2).2.2.1 ?_
    show Steps p.tables e below (s₁.setTop (mkF m 5 #[.val (.int p1), .val (.int p2), .val (.int p3), .val (.int p4)] [])) _
    refine XS.iloadN X0.here hx rfl (hb hby d1_5) rfl ?_
    show Steps p.tables e below (s₁.setTop (mkF m 6 #[.val (.int p1), .val (.int p2), .val (.int p3), .val (.int p4)] [(.int p2)])) _
    refine XS.iloadN X0.here hx rfl (hb hby d1_6) rfl ?_
    show Steps p.tables e below (s₁.setTop (mkF m 7 #[.val (.int p1), .val (.int p2), .val (.int p3), .val (.int p4)] [(.int p4), (.int p2)])) _
    refine XS.icmpNo X0.here hx rfl (hb hby d1_7) rfl (tlt hc7).2.1 ?_
    show Steps p.tables e below (s₁.setTop (mkF m 10 #[.val (.int p1), .val (.int p2), .val (.int p3), .val (.int p4)] [])) _
    refine XS.iloadN X0.here hx rfl (hb hby d1_10) rfl ?_
    show Steps p.tables e below (s₁.setTop (mkF m 11 #[.val (.int p1), .val (.int p2), .val (.int p3), .val (.int p4)] [(.int p1)])) _
    refine XS.sipush X0.here hx rfl (hb hby d1_11) ?_
    show Steps p.tables e below (s₁.setTop (mkF m 14 #[.val (.int p1), .val (.int p2), .val (.int p3), .val (.int p4)] [(.int (255 : Int32)), (.int p1)])) _
    refine XS.iand X0.here hx rfl (hb hby d1_14) rfl ?_
    show Steps p.tables e below (s₁.setTop (mkF m 15 #[.val (.int p1), .val (.int p2), .val (.int p3), .val (.int p4)] [(.int (p1 &&& (255 : Int32)))])) _
    refine XS.goto X0.here hx rfl (pc0 := 15) (pc' := 19) rfl (hb hby d1_15) (by decide) (by decide) ?_
    show Steps p.tables e below (s₁.setTop (mkF m 19 #[.val (.int p1), .val (.int p2), .val (.int p3), .val (.int p4)] [(.int (p1 &&& (255 : Int32)))])) _
    exact retI X0 hx Bd.returns (hb hby d1_19) hr      -- retI stands in the head ('lawwalk <made dir>' prints it)
  · show Q1ff Z p1 p2 p3 p4 h0 n0 _ s₁.heap _
    rw [e0]
    exact ⟨rfl, N0, rfl⟩
def Q1 (w : Int32) (h0 : Heap) (n0 : Nat) (v : Option Value) (h : Heap) (L : List Loc) : Prop := v = some (.int w) ∧ Fr n0 L ∧ h = h0
def own_T (x i f t v : Int32) : Prop := (i < f ∧ v = 0) ∨ (¬ i < f ∧ ¬ i < t ∧ v = 0) ∨ (¬ i < f ∧ i < t ∧ v = (x &&& (255 : Int32)))
theorem own_term (l : Launch) (Z : State) (a0 : Array Value) (hw : ∀ d ∈ tables_1, d.before a0 Z = true) (ws : List Jvm.Cond) (p1 p2 p3 p4 w : Int32) (h0 : Heap) (n0 : Nat) (Z0 : n0 ≤ h0.size) (ht : own_T p1 p2 p3 p4 w) :
    MetFree l (⟨"com/example/cuvette/cuvette/astm/E1381ChecksumPinLaw", "term", "(IIII)I"⟩ : MethodName) (head1 (Jvm.Cond.code (⟨"com/example/cuvette/cuvette/astm/E1381ChecksumPinLaw", "term", "(IIII)I"⟩ : MethodName) method_3_code 4 (some .int) :: ws) ({ frames := 0, cells := 0, slots := 0, locals := 0 } : Room)) (fun a U => a = #[(.int p1), (.int p2), (.int p3), (.int p4)] ∧ Z.Warmed39 U.vm ∧ U.heap = h0) (fun _ _ _ _ _ => True) (fun _ U o U' => ∃ v L, o = .returned v ∧ Q1 w h0 n0 v U'.heap L ∧ FrameEnd U o U' L ({ frames := 0, cells := 0, slots := 0, locals := 0 } : Room).cells ({ frames := 0, cells := 0, slots := 0, locals := 0 } : Room).slots) := by
  rcases ht with ⟨c1, rfl⟩ | ⟨c1, c2, rfl⟩ | ⟨c1, c2, rfl⟩
  · exact rm1t l Z a0 hw ws p1 p2 p3 p4 h0 n0 Z0 c1
  · exact rm1ft l Z a0 hw ws p1 p2 p3 p4 h0 n0 Z0 c1 c2
  · exact rm1ff l Z a0 hw ws p1 p2 p3 p4 h0 n0 Z0 c1 c2
theorem d3_0 : decode method_4_code 0 = .ok (.iload_n 0, 1) := by decide +kernel
theorem d3_1 : decode method_4_code 1 = .ok (.bipush 10, 2) := by decide +kernel
theorem d3_3 : decode method_4_code 3 = .ok (.if_icmp .ge 9, 3) := by decide +kernel
theorem d3_6 : decode method_4_code 6 = .ok (.bipush 48, 2) := by decide +kernel
theorem d3_8 : decode method_4_code 8 = .ok (.iload_n 0, 1) := by decide +kernel
theorem d3_9 : decode method_4_code 9 = .ok (.iadd, 1) := by decide +kernel
theorem d3_10 : decode method_4_code 10 = .ok (.i2b, 1) := by decide +kernel
theorem d3_11 : decode method_4_code 11 = .ok (.ireturn, 1) := by decide +kernel
theorem pn_3 : plainName "com/example/cuvette/cuvette/astm/E1381ChecksumPinLaw" = true := by first | (simp [plainName, overriddenIn]; done) | decide +kernel
theorem ef_3 (m : MethodId) (x0 : Int32) : entryFrame m #[(.int x0)] 1 = mkF m 0 #[.val (.int x0)] [] := by first | (simp [entryFrame, mkF, argsToLocals, Value.category]; done) | rfl
def Q3f (Z : State) (p1 : Int32) (h0 : Heap) (n0 : Nat) (v : Option Value) (h : Heap) (L : List Loc) : Prop := v = some (.int ((((48 : Int32) + p1).toInt8.toInt32).toInt8.toInt32)) ∧ Fr n0 L ∧ h = h0
set_option maxRecDepth 65536 in
set_option maxHeartbeats 40000000 in
theorem rm3f (l : Launch) (Z : State) (a0 : Array Value) (hw : ∀ d ∈ tables_1, d.before a0 Z = true) (ws : List Jvm.Cond) (p1 : Int32) (h0 : Heap) (n0 : Nat) (Z0 : n0 ≤ h0.size) (hc3 : p1 < (10 : Int32)) :
    MetFree l (⟨"com/example/cuvette/cuvette/astm/E1381ChecksumPinLaw", "hex", "(I)B"⟩ : MethodName) (head1 (Jvm.Cond.code (⟨"com/example/cuvette/cuvette/astm/E1381ChecksumPinLaw", "hex", "(I)B"⟩ : MethodName) method_4_code 1 (some .byte) :: ws) ({ frames := 0, cells := 0, slots := 0, locals := 0 } : Room)) (fun a U => a = #[(.int p1)] ∧ Z.Warmed39 U.vm ∧ U.heap = h0) (fun _ _ _ _ _ => True) (fun _ U o U' => ∃ v L, o = .returned v ∧ Q3f Z p1 h0 n0 v U'.heap L ∧ FrameEnd U o U' L ({ frames := 0, cells := 0, slots := 0, locals := 0 } : Room).cells ({ frames := 0, cells := 0, slots := 0, locals := 0 } : Room).slots) := by
  refine MetFree.of_bodySF (plainFor_of_name pn_3) hisR ?_
  intro p e s m args below meth c s₁ Bd hml0 hP hK
  obtain ⟨rfl, hZ, hh⟩ := hP
  have hx := Bd.exec
  have hby := Bd.bytes
  have hml : c.maxLocals = 1 := hml0
  have hown : s.vm.findClass "com/example/cuvette/cuvette/astm/E1381ChecksumPinLaw" = some m.cls := findClass_of_methodNamed Bd.named
  have hnm := (name_of_methodNamed Bd.named Bd.method).1
  have X0 : Stand p l e ({ frames := 0, cells := 0, slots := 0, locals := 0 } : Room) s m #[(.int p1)] below meth c s₁ [] 0 0 := Stand.of_body Bd
  have e0 : s₁.heap = h0 := by rw [← hh, Bd.state]; rfl
  have N0 := Fr.nil n0
  have pre0 : ∀ t, Steps p.tables e below (s₁.setTop (mkF m 0 #[.val (.int p1)] [])) t → Steps p.tables e below (s₁.setTop (entryFrame m #[(.int p1)] 1)) t := fun t k => castTop (ef_3 m p1) k

  obtain ⟨fs, hr, hrun, hended, hW, hsame⟩ := X0.leave (v := some (.int ((((48 : Int32) + p1).toInt8.toInt32).toInt8.toInt32))) (fun h => by rw [Bd.returns] at h; cases h)
  refine ⟨_, _, pre0 _ ?_, hrun, hended, _, _, rfl, ?_, ⟨_, rfl⟩, hW, hsame.mono (by decide) (by decide)⟩
  · show Steps p.tables e below (s₁.setTop (mkF m 0 #[.val (.int p1)] [])) _
    refine XS.iloadN X0.here hx rfl (hb hby d3_0) rfl ?_
    show Steps p.tables e below (s₁.setTop (mkF m 1 #[.val (.int p1)] [(.int p1)])) _
    refine XS.bipush X0.here hx rfl (hb hby d3_1) ?_
    show Steps p.tables e below (s₁.setTop (mkF m 3 #[.val (.int p1)] [(.int (10 : Int32)), (.int p1)])) _
    refine XS.icmpNo X0.here hx rfl (hb hby d3_3) rfl (tlt hc3).2.1 ?_
    show Steps p.tables e below (s₁.setTop (mkF m 6 #[.val (.int p1)] [])) _
    refine XS.bipush X0.here hx rfl (hb hby d3_6) ?_
    show Steps p.tables e below (s₁.setTop (mkF m 8 #[.val (.int p1)] [(.int (48 : Int32))])) _
    refine XS.iloadN X0.here hx rfl (hb hby d3_8) rfl ?_
    show Steps p.tables e below (s₁.setTop (mkF m 9 #[.val (.int p1)] [(.int p1), (.int (48 : Int32))])) _
    refine XS.iadd X0.here hx rfl (hb hby d3_9) rfl ?_
    show Steps p.tables e below (s₁.setTop (mkF m 10 #[.val (.int p1)] [(.int ((48 : Int32) + p1))])) _
    refine XS.i2b X0.here hx rfl (hb hby d3_10) rfl ?_
    show Steps p.tables e below (s₁.setTop (mkF m 11 #[.val (.int p1)] [(.int (((48 : Int32) + p1).toInt8.toInt32))])) _
    exact retN X0 hx (t := .byte) Bd.returns (by simp) (hb hby d3_11) hr
  · show Q3f Z p1 h0 n0 _ s₁.heap _
    rw [e0]
    exact ⟨rfl, N0, rfl⟩
theorem d3_12 : decode method_4_code 12 = .ok (.bipush 65, 2) := by decide +kernel
theorem d3_14 : decode method_4_code 14 = .ok (.iload_n 0, 1) := by decide +kernel
theorem d3_15 : decode method_4_code 15 = .ok (.bipush 10, 2) := by decide +kernel
theorem d3_17 : decode method_4_code 17 = .ok (.isub, 1) := by decide +kernel
theorem d3_18 : decode method_4_code 18 = .ok (.iadd, 1) := by decide +kernel
theorem d3_19 : decode method_4_code 19 = .ok (.i2b, 1) := by decide +kernel
theorem d3_20 : decode method_4_code 20 = .ok (.ireturn, 1) := by decide +kernel
def Q3t (Z : State) (p1 : Int32) (h0 : Heap) (n0 : Nat) (v : Option Value) (h : Heap) (L : List Loc) : Prop := v = some (.int ((((65 : Int32) + (p1 - (10 : Int32))).toInt8.toInt32).toInt8.toInt32)) ∧ Fr n0 L ∧ h = h0
set_option maxRecDepth 65536 in
set_option maxHeartbeats 40000000 in
theorem rm3t (l : Launch) (Z : State) (a0 : Array Value) (hw : ∀ d ∈ tables_1, d.before a0 Z = true) (ws : List Jvm.Cond) (p1 : Int32) (h0 : Heap) (n0 : Nat) (Z0 : n0 ≤ h0.size) (hc3 : ¬ (p1 < (10 : Int32))) :
    MetFree l (⟨"com/example/cuvette/cuvette/astm/E1381ChecksumPinLaw", "hex", "(I)B"⟩ : MethodName) (head1 (Jvm.Cond.code (⟨"com/example/cuvette/cuvette/astm/E1381ChecksumPinLaw", "hex", "(I)B"⟩ : MethodName) method_4_code 1 (some .byte) :: ws) ({ frames := 0, cells := 0, slots := 0, locals := 0 } : Room)) (fun a U => a = #[(.int p1)] ∧ Z.Warmed39 U.vm ∧ U.heap = h0) (fun _ _ _ _ _ => True) (fun _ U o U' => ∃ v L, o = .returned v ∧ Q3t Z p1 h0 n0 v U'.heap L ∧ FrameEnd U o U' L ({ frames := 0, cells := 0, slots := 0, locals := 0 } : Room).cells ({ frames := 0, cells := 0, slots := 0, locals := 0 } : Room).slots) := by
  refine MetFree.of_bodySF (plainFor_of_name pn_3) hisR ?_
  intro p e s m args below meth c s₁ Bd hml0 hP hK
  obtain ⟨rfl, hZ, hh⟩ := hP
  have hx := Bd.exec
  have hby := Bd.bytes
  have hml : c.maxLocals = 1 := hml0
  have hown : s.vm.findClass "com/example/cuvette/cuvette/astm/E1381ChecksumPinLaw" = some m.cls := findClass_of_methodNamed Bd.named
  have hnm := (name_of_methodNamed Bd.named Bd.method).1
  have X0 : Stand p l e ({ frames := 0, cells := 0, slots := 0, locals := 0 } : Room) s m #[(.int p1)] below meth c s₁ [] 0 0 := Stand.of_body Bd
  have e0 : s₁.heap = h0 := by rw [← hh, Bd.state]; rfl
  have N0 := Fr.nil n0
  have pre0 : ∀ t, Steps p.tables e below (s₁.setTop (mkF m 0 #[.val (.int p1)] [])) t → Steps p.tables e below (s₁.setTop (entryFrame m #[(.int p1)] 1)) t := fun t k => castTop (ef_3 m p1) k

  obtain ⟨fs, hr, hrun, hended, hW, hsame⟩ := X0.leave (v := some (.int ((((65 : Int32) + (p1 - (10 : Int32))).toInt8.toInt32).toInt8.toInt32))) (fun h => by rw [Bd.returns] at h; cases h)
  refine ⟨_, _, pre0 _ ?_, hrun, hended, _, _, rfl, ?_, ⟨_, rfl⟩, hW, hsame.mono (by decide) (by decide)⟩
  · show Steps p.tables e below (s₁.setTop (mkF m 0 #[.val (.int p1)] [])) _
    refine XS.iloadN X0.here hx rfl (hb hby d3_0) rfl ?_
    show Steps p.tables e below (s₁.setTop (mkF m 1 #[.val (.int p1)] [(.int p1)])) _
    refine XS.bipush X0.here hx rfl (hb hby d3_1) ?_
    show Steps p.tables e below (s₁.setTop (mkF m 3 #[.val (.int p1)] [(.int (10 : Int32)), (.int p1)])) _
    refine XS.icmpYes X0.here hx rfl (pc0 := 3) (pc' := 12) rfl (hb hby d3_3) rfl (flt hc3).2.1 (by decide) (by decide) ?_
    show Steps p.tables e below (s₁.setTop (mkF m 12 #[.val (.int p1)] [])) _
    refine XS.bipush X0.here hx rfl (hb hby d3_12) ?_
    show Steps p.tables e below (s₁.setTop (mkF m 14 #[.val (.int p1)] [(.int (65 : Int32))])) _
    refine XS.iloadN X0.here hx rfl (hb hby d3_14) rfl ?_
    show Steps p.tables e below (s₁.setTop (mkF m 15 #[.val (.int p1)] [(.int p1), (.int (65 : Int32))])) _
    refine XS.bipush X0.here hx rfl (hb hby d3_15) ?_
    show Steps p.tables e below (s₁.setTop (mkF m 17 #[.val (.int p1)] [(.int (10 : Int32)), (.int p1), (.int (65 : Int32))])) _
    refine XS.isub X0.here hx rfl (hb hby d3_17) rfl ?_
    show Steps p.tables e below (s₁.setTop (mkF m 18 #[.val (.int p1)] [(.int (p1 - (10 : Int32))), (.int (65 : Int32))])) _
    refine XS.iadd X0.here hx rfl (hb hby d3_18) rfl ?_
    show Steps p.tables e below (s₁.setTop (mkF m 19 #[.val (.int p1)] [(.int ((65 : Int32) + (p1 - (10 : Int32))))])) _
    refine XS.i2b X0.here hx rfl (hb hby d3_19) rfl ?_
    show Steps p.tables e below (s₁.setTop (mkF m 20 #[.val (.int p1)] [(.int (((65 : Int32) + (p1 - (10 : Int32))).toInt8.toInt32))])) _
    exact retN X0 hx (t := .byte) Bd.returns (by simp) (hb hby d3_20) hr
  · show Q3t Z p1 h0 n0 _ s₁.heap _
    rw [e0]
    exact ⟨rfl, N0, rfl⟩
def Q3 (w : Int32) (h0 : Heap) (n0 : Nat) (v : Option Value) (h : Heap) (L : List Loc) : Prop := v = some (.int w) ∧ Fr n0 L ∧ h = h0
def own_hv (p1 : Int32) : Int32 := if p1 < 10 then ((((48 : Int32) + p1).toInt8.toInt32).toInt8.toInt32) else ((((65 : Int32) + (p1 - (10 : Int32))).toInt8.toInt32).toInt8.toInt32)
theorem own_hex (l : Launch) (Z : State) (a0 : Array Value) (hw : ∀ d ∈ tables_1, d.before a0 Z = true) (ws : List Jvm.Cond) (p1 w : Int32) (h0 : Heap) (n0 : Nat) (Z0 : n0 ≤ h0.size) (hv : w = own_hv p1) :
    MetFree l (⟨"com/example/cuvette/cuvette/astm/E1381ChecksumPinLaw", "hex", "(I)B"⟩ : MethodName) (head1 (Jvm.Cond.code (⟨"com/example/cuvette/cuvette/astm/E1381ChecksumPinLaw", "hex", "(I)B"⟩ : MethodName) method_4_code 1 (some .byte) :: ws) ({ frames := 0, cells := 0, slots := 0, locals := 0 } : Room)) (fun a U => a = #[(.int p1)] ∧ Z.Warmed39 U.vm ∧ U.heap = h0) (fun _ _ _ _ _ => True) (fun _ U o U' => ∃ v L, o = .returned v ∧ Q3 w h0 n0 v U'.heap L ∧ FrameEnd U o U' L ({ frames := 0, cells := 0, slots := 0, locals := 0 } : Room).cells ({ frames := 0, cells := 0, slots := 0, locals := 0 } : Room).slots) := by
  subst hv
  unfold own_hv
  by_cases c : p1 < (10 : Int32)
  · rw [if_pos c]; exact rm3f l Z a0 hw ws p1 h0 n0 Z0 c
  · rw [if_neg c]; exact rm3t l Z a0 hw ws p1 h0 n0 Z0 c
theorem d2_5 : decode prog_13_method_4_code 5 = .ok (.iload 4, 2) := by decide +kernel
theorem d2_7 : decode prog_13_method_4_code 7 = .ok (.iload_n 2, 1) := by decide +kernel
theorem d2_8 : decode prog_13_method_4_code 8 = .ok (.if_icmp .ge 20, 3) := by decide +kernel
theorem d2_11 : decode prog_13_method_4_code 11 = .ok (.iload_n 3, 1) := by decide +kernel
theorem d2_12 : decode prog_13_method_4_code 12 = .ok (.aload_n 0, 1) := by decide +kernel
theorem d2_13 : decode prog_13_method_4_code 13 = .ok (.iload 4, 2) := by decide +kernel
theorem d2_15 : decode prog_13_method_4_code 15 = .ok (.baload, 1) := by decide +kernel
theorem d2_16 : decode prog_13_method_4_code 16 = .ok (.sipush 255, 3) := by decide +kernel
theorem d2_19 : decode prog_13_method_4_code 19 = .ok (.iand, 1) := by decide +kernel
theorem d2_20 : decode prog_13_method_4_code 20 = .ok (.iadd, 1) := by decide +kernel
theorem d2_21 : decode prog_13_method_4_code 21 = .ok (.istore_n 3, 1) := by decide +kernel
theorem d2_22 : decode prog_13_method_4_code 22 = .ok (.iinc 4 1, 3) := by decide +kernel
theorem d2_25 : decode prog_13_method_4_code 25 = .ok (.goto (-20), 3) := by decide +kernel
set_option maxRecDepth 65536 in
set_option maxHeartbeats 40000000 in
theorem tn2_5_5 {p : Program} {l : Launch} {e : Env} {R : Room} {s : State} {m : MethodId} {args : Array Value} {below : List Frame} {meth : Method} {c : Code} {T0 : State} {locs : List Loc} {cells slots : Nat} {Z : State} {a0 : Array Value} {h0 : Heap} (o0 : Addr) (s1 : Slot) (i2 : Int32) (i3 : Int32) (i4 : Int32) (w4 : Int32) (cl_o0 : Cell)
    (X0 : Stand p l e R s m args below meth c T0 locs cells slots) (hx : p.tables.exec = Jvm.exec) (hZ : Z.Warmed39 s.vm) (hw : ∀ d ∈ tables_1, d.before a0 Z = true) (hby : c.code = prog_13_method_4_code) (hml : c.maxLocals = 5) (hown : s.vm.findClass "com/example/cuvette/cuvette/astm/E1381" = some m.cls) (e0 : T0.heap = h0) (Ar_o0 : Arr Z h0 o0 cl_o0 .byte) (hin15 : ¬ (i4 < 0 ∨ cl_o0.slots.size ≤ (i4).toNatClampNeg)) (hat15 : cl_o0.slots[(i4).toNatClampNeg]? = some (.int w4)) (hc8 : i4 < i2) :
    ∃ (T' : State), Stand p l e R s m args below meth c T' locs cells slots ∧ T'.heap = h0 ∧
      ∀ target, Steps p.tables e below (T'.setTop (mkF m 5 #[.val (.ref o0), s1, .val (.int i2), .val (.int (i3 + (w4 &&& (255 : Int32)))), .val (.int (i4 + (1 : Int32)))] [])) target → Steps p.tables e below (T0.setTop (mkF m 5 #[.val (.ref o0), s1, .val (.int i2), .val (.int i3), .val (.int i4)] [])) target := by

  refine ⟨T0, X0, e0, fun target kt => ?_⟩
  show Steps p.tables e below (T0.setTop (mkF m 5 #[.val (.ref o0), s1, .val (.int i2), .val (.int i3), .val (.int i4)] [])) _
  refine XS.iload X0.here hx rfl (hb hby d2_5) rfl ?_
  show Steps p.tables e below (T0.setTop (mkF m 7 #[.val (.ref o0), s1, .val (.int i2), .val (.int i3), .val (.int i4)] [(.int i4)])) _
  refine XS.iloadN X0.here hx rfl (hb hby d2_7) rfl ?_
  show Steps p.tables e below (T0.setTop (mkF m 8 #[.val (.ref o0), s1, .val (.int i2), .val (.int i3), .val (.int i4)] [(.int i2), (.int i4)])) _
  refine XS.icmpNo X0.here hx rfl (hb hby d2_8) rfl (tlt hc8).2.1 ?_
  show Steps p.tables e below (T0.setTop (mkF m 11 #[.val (.ref o0), s1, .val (.int i2), .val (.int i3), .val (.int i4)] [])) _
  refine XS.iloadN X0.here hx rfl (hb hby d2_11) rfl ?_
  show Steps p.tables e below (T0.setTop (mkF m 12 #[.val (.ref o0), s1, .val (.int i2), .val (.int i3), .val (.int i4)] [(.int i3)])) _
  refine XS.aloadN X0.here hx rfl (hb hby d2_12) rfl rfl ?_
  show Steps p.tables e below (T0.setTop (mkF m 13 #[.val (.ref o0), s1, .val (.int i2), .val (.int i3), .val (.int i4)] [(.ref o0), (.int i3)])) _
  refine XS.iload X0.here hx rfl (hb hby d2_13) rfl ?_
  show Steps p.tables e below (T0.setTop (mkF m 15 #[.val (.ref o0), s1, .val (.int i2), .val (.int i3), .val (.int i4)] [(.int i4), (.ref o0), (.int i3)])) _
  refine X0.baloadBytes hx (j := i4) (v := (.int w4)) (by rw [e0]; exact Ar_o0.1) (State.isArrayOf_alike hZ.alike Ar_o0.2.1) Ar_o0.2.2 hin15 hat15 (g := (mkF m 15 #[.val (.ref o0), s1, .val (.int i2), .val (.int i3), .val (.int i4)] [(.int i4), (.ref o0), (.int i3)])) rfl rfl (hb hby d2_15) _ ?_
  show Steps p.tables e below (T0.setTop (mkF m 16 #[.val (.ref o0), s1, .val (.int i2), .val (.int i3), .val (.int i4)] [(.int w4), (.int i3)])) _
  refine XS.sipush X0.here hx rfl (hb hby d2_16) ?_
  show Steps p.tables e below (T0.setTop (mkF m 19 #[.val (.ref o0), s1, .val (.int i2), .val (.int i3), .val (.int i4)] [(.int (255 : Int32)), (.int w4), (.int i3)])) _
  refine XS.iand X0.here hx rfl (hb hby d2_19) rfl ?_
  show Steps p.tables e below (T0.setTop (mkF m 20 #[.val (.ref o0), s1, .val (.int i2), .val (.int i3), .val (.int i4)] [(.int (w4 &&& (255 : Int32))), (.int i3)])) _
  refine XS.iadd X0.here hx rfl (hb hby d2_20) rfl ?_
  show Steps p.tables e below (T0.setTop (mkF m 21 #[.val (.ref o0), s1, .val (.int i2), .val (.int i3), .val (.int i4)] [(.int (i3 + (w4 &&& (255 : Int32))))])) _
  refine XS.istoreN X0.here hx rfl (hb hby d2_21) rfl (l' := #[.val (.ref o0), s1, .val (.int i2), .val (.int (i3 + (w4 &&& (255 : Int32)))), .val (.int i4)]) rfl ?_
  show Steps p.tables e below (T0.setTop (mkF m 22 #[.val (.ref o0), s1, .val (.int i2), .val (.int (i3 + (w4 &&& (255 : Int32)))), .val (.int i4)] [])) _
  refine XS.iinc X0.here hx rfl (hb hby d2_22) rfl (l' := #[.val (.ref o0), s1, .val (.int i2), .val (.int (i3 + (w4 &&& (255 : Int32)))), .val (.int (i4 + (1 : Int32)))]) rfl ?_
  show Steps p.tables e below (T0.setTop (mkF m 25 #[.val (.ref o0), s1, .val (.int i2), .val (.int (i3 + (w4 &&& (255 : Int32)))), .val (.int (i4 + (1 : Int32)))] [])) _
  refine XS.goto X0.here hx rfl (pc0 := 25) (pc' := 5) rfl (hb hby d2_25) (by decide) (by decide) ?_
  exact kt
set_option maxRecDepth 65536 in
set_option maxHeartbeats 40000000 in
theorem tn2_5_28 {p : Program} {l : Launch} {e : Env} {R : Room} {s : State} {m : MethodId} {args : Array Value} {below : List Frame} {meth : Method} {c : Code} {T0 : State} {locs : List Loc} {cells slots : Nat} {Z : State} {a0 : Array Value} {h0 : Heap} (s0 : Slot) (s1 : Slot) (i2 : Int32) (s3 : Slot) (i4 : Int32)
    (X0 : Stand p l e R s m args below meth c T0 locs cells slots) (hx : p.tables.exec = Jvm.exec) (hZ : Z.Warmed39 s.vm) (hw : ∀ d ∈ tables_1, d.before a0 Z = true) (hby : c.code = prog_13_method_4_code) (hml : c.maxLocals = 5) (hown : s.vm.findClass "com/example/cuvette/cuvette/astm/E1381" = some m.cls) (e0 : T0.heap = h0) (hc8 : ¬ (i4 < i2)) :
    ∃ (T' : State), Stand p l e R s m args below meth c T' locs cells slots ∧ T'.heap = h0 ∧
      ∀ target, Steps p.tables e below (T'.setTop (mkF m 28 #[s0, s1, .val (.int i2), s3, .val (.int i4)] [])) target → Steps p.tables e below (T0.setTop (mkF m 5 #[s0, s1, .val (.int i2), s3, .val (.int i4)] [])) target := by

  refine ⟨T0, X0, e0, fun target kt => ?_⟩
  show Steps p.tables e below (T0.setTop (mkF m 5 #[s0, s1, .val (.int i2), s3, .val (.int i4)] [])) _
  refine XS.iload X0.here hx rfl (hb hby d2_5) rfl ?_
  show Steps p.tables e below (T0.setTop (mkF m 7 #[s0, s1, .val (.int i2), s3, .val (.int i4)] [(.int i4)])) _
  refine XS.iloadN X0.here hx rfl (hb hby d2_7) rfl ?_
  show Steps p.tables e below (T0.setTop (mkF m 8 #[s0, s1, .val (.int i2), s3, .val (.int i4)] [(.int i2), (.int i4)])) _
  refine XS.icmpYes X0.here hx rfl (pc0 := 8) (pc' := 28) rfl (hb hby d2_8) rfl (flt hc8).2.1 (by decide) (by decide) ?_
  exact kt
theorem own_ofNat_lt {a b : Nat} (ha : a < 2 ^ 31) (hb : b < 2 ^ 31) : Int32.ofNat a < Int32.ofNat b ↔ a < b := by
  rw [Int32.lt_iff_toInt_lt, Int32.toInt_ofNat_small ha, Int32.toInt_ofNat_small hb]; omega
theorem own_ofNat_clamp {a : Nat} (ha : a < 2 ^ 31) : (Int32.ofNat a).toNatClampNeg = a := by
  simp only [Int32.toNatClampNeg, Int32.toInt_ofNat_small ha]; omega
def own_acc (g : Nat → Int32) : Nat → Nat → Int32 → Int32
  | 0, _, x => x
  | n + 1, i, x => own_acc g n (i + 1) (x + (g i &&& (255 : Int32)))
theorem own_loop {p : Program} {l : Launch} {e : Env} {R : Room} {s : State} {m : MethodId} {args : Array Value} {below : List Frame} {meth : Method} {c : Code} {locs : List Loc} {cells slots : Nat} {Z : State} {a0 : Array Value} {h0 : Heap} (o0 : Addr) (s1 : Slot) (i2 : Int32) (cl : Cell) (g : Nat → Int32)
    (hx : p.tables.exec = Jvm.exec) (hZ : Z.Warmed39 s.vm) (hw : ∀ d ∈ tables_1, d.before a0 Z = true) (hby : c.code = prog_13_method_4_code) (hml : c.maxLocals = 5) (hown : s.vm.findClass "com/example/cuvette/cuvette/astm/E1381" = some m.cls)
    (Ar : Arr Z h0 o0 cl .byte) (hsz : cl.slots.size = 4) (hg : ∀ j, j < 4 → cl.slots[j]? = some (.int (g j))) :
    ∀ (n : Nat) (T0 : State) (i3 i4 sm : Int32) (i : Nat), Stand p l e R s m args below meth c T0 locs cells slots → T0.heap = h0 → i + n ≤ 4 → i4 = Int32.ofNat i → (i2 = Int32.ofNat (i + n) ∨ (n = 0 ∧ ¬ (Int32.ofNat i < i2))) → own_acc g n i i3 = sm →
      ∃ (T' : State) (wj : Int32), Stand p l e R s m args below meth c T' locs cells slots ∧ T'.heap = h0 ∧
        ∀ target, Steps p.tables e below (T'.setTop (mkF m 28 #[.val (.ref o0), s1, .val (.int i2), .val (.int sm), .val (.int wj)] [])) target → Steps p.tables e below (T0.setTop (mkF m 5 #[.val (.ref o0), s1, .val (.int i2), .val (.int i3), .val (.int i4)] [])) target := by
  intro n
  induction n with
  | zero =>
    intro T0 i3 i4 sm i X0 e0 hin hi hc hsm
    have hsm' : i3 = sm := hsm
    subst hsm'
    subst hi
    have hno : ¬ (Int32.ofNat i < i2) := by
      rcases hc with hc | hc
      · rw [hc, Nat.add_zero, Int32.lt_iff_toInt_lt]; omega
      · exact hc.2
    obtain ⟨T', X', e', st⟩ := tn2_5_28 (.val (.ref o0)) s1 i2 (.val (.int i3)) (Int32.ofNat i) X0 hx hZ hw hby hml hown e0 hno
    exact ⟨T', _, X', e', st⟩
  | succ n ih =>
    intro T0 i3 i4 sm i X0 e0 hin hi hc hsm
    subst hi
    have hc' : i2 = Int32.ofNat (i + (n + 1)) := by
      rcases hc with hc | hc
      · exact hc
      · exact absurd hc.1 (Nat.succ_ne_zero n)
    have hlt : Int32.ofNat i < i2 := by rw [hc']; exact (own_ofNat_lt (by omega) (by omega)).mpr (by omega)
    have hcl := own_ofNat_clamp (a := i) (by omega)
    have hb0 : ¬ (Int32.ofNat i < 0 ∨ cl.slots.size ≤ (Int32.ofNat i).toNatClampNeg) := by
      rw [hcl, hsz]
      intro q
      rcases q with q | q
      · rw [Int32.lt_iff_toInt_lt, Int32.toInt_ofNat_small (by omega)] at q
        have e0 : (0 : Int32).toInt = 0 := rfl
        omega
      · omega
    have hat : cl.slots[(Int32.ofNat i).toNatClampNeg]? = some (.int (g i)) := by rw [hcl]; exact hg i (by omega)
    obtain ⟨T', X', e', st⟩ := tn2_5_5 o0 s1 i2 i3 (Int32.ofNat i) (g i) cl X0 hx hZ hw hby hml hown e0 Ar hb0 hat hlt
    obtain ⟨T'', wj, X'', e'', st'⟩ := ih T' (i3 + (g i &&& (255 : Int32))) (Int32.ofNat i + (1 : Int32)) sm (i + 1) X' e' (by omega) (Int32.ofNat_succ i) (Or.inl (by rw [hc']; congr 1; omega)) hsm
    exact ⟨T'', wj, X'', e'', fun target k => st target (st' target k)⟩
theorem d2_0 : decode prog_13_method_4_code 0 = .ok (.iconst 0, 1) := by decide +kernel
theorem d2_1 : decode prog_13_method_4_code 1 = .ok (.istore_n 3, 1) := by decide +kernel
theorem d2_2 : decode prog_13_method_4_code 2 = .ok (.iload_n 1, 1) := by decide +kernel
theorem d2_3 : decode prog_13_method_4_code 3 = .ok (.istore 4, 2) := by decide +kernel
theorem d2_28 : decode prog_13_method_4_code 28 = .ok (.iconst 2, 1) := by decide +kernel
theorem d2_29 : decode prog_13_method_4_code 29 = .ok (.newarray .byte, 2) := by decide +kernel
theorem d2_31 : decode prog_13_method_4_code 31 = .ok (.dup, 1) := by decide +kernel
theorem d2_32 : decode prog_13_method_4_code 32 = .ok (.iconst 0, 1) := by decide +kernel
theorem d2_33 : decode prog_13_method_4_code 33 = .ok (.getstatic 13, 3) := by decide +kernel
theorem d2_36 : decode prog_13_method_4_code 36 = .ok (.iload_n 3, 1) := by decide +kernel
theorem d2_37 : decode prog_13_method_4_code 37 = .ok (.iconst 4, 1) := by decide +kernel
theorem d2_38 : decode prog_13_method_4_code 38 = .ok (.ishr, 1) := by decide +kernel
theorem d2_39 : decode prog_13_method_4_code 39 = .ok (.bipush 15, 2) := by decide +kernel
theorem d2_41 : decode prog_13_method_4_code 41 = .ok (.iand, 1) := by decide +kernel
theorem d2_42 : decode prog_13_method_4_code 42 = .ok (.baload, 1) := by decide +kernel
theorem d2_43 : decode prog_13_method_4_code 43 = .ok (.bastore, 1) := by decide +kernel
theorem d2_44 : decode prog_13_method_4_code 44 = .ok (.dup, 1) := by decide +kernel
theorem d2_45 : decode prog_13_method_4_code 45 = .ok (.iconst 1, 1) := by decide +kernel
theorem d2_46 : decode prog_13_method_4_code 46 = .ok (.getstatic 13, 3) := by decide +kernel
theorem d2_49 : decode prog_13_method_4_code 49 = .ok (.iload_n 3, 1) := by decide +kernel
theorem d2_50 : decode prog_13_method_4_code 50 = .ok (.bipush 15, 2) := by decide +kernel
theorem d2_52 : decode prog_13_method_4_code 52 = .ok (.iand, 1) := by decide +kernel
theorem d2_53 : decode prog_13_method_4_code 53 = .ok (.baload, 1) := by decide +kernel
theorem d2_54 : decode prog_13_method_4_code 54 = .ok (.bastore, 1) := by decide +kernel
theorem d2_55 : decode prog_13_method_4_code 55 = .ok (.areturn, 1) := by decide +kernel
theorem pn_2 : plainName "com/example/cuvette/cuvette/astm/E1381" = true := by first | (simp [plainName, overriddenIn]; done) | decide +kernel
theorem ef_2 (m : MethodId) (x0 : Addr) (x1 : Int32) (x2 : Int32) : entryFrame m #[(.ref x0), (.int x1), (.int x2)] 5 = mkF m 0 #[.val (.ref x0), .val (.int x1), .val (.int x2), .unset, .unset] [] := by first | (simp [entryFrame, mkF, argsToLocals, Value.category]; done) | rfl
def Q2 (Z : State) (a1 : Addr) (p2 : Int32) (p3 : Int32) (w5 : Addr) (w7 : Int32) (cl_w5 : Cell) (w10 : Int32) (h0 : Heap) (n0 : Nat) (v : Option Value) (h : Heap) (L : List Loc) : Prop := ∃ (b : Addr) (k : ClassId), v = some (.ref b) ∧ Fr n0 L ∧ Keep h0 h [] ∧ Arv Z h b k .byte (2 : Int32) [(.int w7.toInt8.toInt32), (.int w10.toInt8.toInt32)] (.int (0 : Int32))
set_option maxRecDepth 65536 in
set_option maxHeartbeats 40000000 in
theorem rm2 (l : Launch) (Z : State) (a0 : Array Value) (hw : ∀ d ∈ tables_1, d.before a0 Z = true) (ws : List Jvm.Cond) (a1 : Addr) (p2 : Int32) (p3 : Int32) (w5 : Addr) (w7 : Int32) (cl_w5 : Cell) (w10 : Int32) (sm : Int32) (h0 : Heap) (n0 : Nat) (Z0 : n0 ≤ h0.size) (S_HEX_DIGITS : Sta Z h0 "com/example/cuvette/cuvette/astm/E1381" "HEX_DIGITS" "[B" (.ref w5)) (Ar_w5 : Arr Z h0 w5 cl_w5 .byte) (hin42 : ¬ (((sm >>> ((4 : Int32) &&& 31)) &&& (15 : Int32)) < 0 ∨ cl_w5.slots.size ≤ (((sm >>> ((4 : Int32) &&& 31)) &&& (15 : Int32))).toNatClampNeg)) (hat42 : cl_w5.slots[(((sm >>> ((4 : Int32) &&& 31)) &&& (15 : Int32))).toNatClampNeg]? = some (.int w7)) (hin53 : ¬ ((sm &&& (15 : Int32)) < 0 ∨ cl_w5.slots.size ≤ ((sm &&& (15 : Int32))).toNatClampNeg)) (hat53 : cl_w5.slots[((sm &&& (15 : Int32))).toNatClampNeg]? = some (.int w10)) (i n : Nat) (cl : Cell) (g : Nat → Int32) (Ar : Arr Z h0 a1 cl .byte) (hsz : cl.slots.size = 4) (hg : ∀ j, j < 4 → cl.slots[j]? = some (.int (g j))) (hin : i + n ≤ 4) (hp2 : p2 = Int32.ofNat i) (hcc : p3 = Int32.ofNat (i + n) ∨ (n = 0 ∧ ¬ (Int32.ofNat i < p3))) (hsm : own_acc g n i (0 : Int32) = sm) :
    MetFree l (⟨"com/example/cuvette/cuvette/astm/E1381", "checksum", "([BII)[B"⟩ : MethodName) (head1 (Jvm.Cond.code (⟨"com/example/cuvette/cuvette/astm/E1381", "checksum", "([BII)[B"⟩ : MethodName) prog_13_method_4_code 5 (some (.array .byte)) :: ws) ({ frames := 0, cells := 1, slots := 2, locals := 0 } : Room)) (fun a U => a = #[(.ref a1), (.int p2), (.int p3)] ∧ Z.Warmed39 U.vm ∧ U.heap = h0) (fun _ _ _ _ _ => True) (fun _ U o U' => ∃ v L, o = .returned v ∧ Q2 Z a1 p2 p3 w5 w7 cl_w5 w10 h0 n0 v U'.heap L ∧ FrameEnd U o U' L ({ frames := 0, cells := 1, slots := 2, locals := 0 } : Room).cells ({ frames := 0, cells := 1, slots := 2, locals := 0 } : Room).slots) := by
  refine MetFree.of_bodySF (plainFor_of_name pn_2) hisR ?_
  intro p e s m args below meth c s₁ Bd hml0 hP hK
  obtain ⟨rfl, hZ, hh⟩ := hP
  have hx := Bd.exec
  have hby := Bd.bytes
  have hml : c.maxLocals = 5 := hml0
  have hown : s.vm.findClass "com/example/cuvette/cuvette/astm/E1381" = some m.cls := findClass_of_methodNamed Bd.named
  have hnm := (name_of_methodNamed Bd.named Bd.method).1
  have X0 : Stand p l e ({ frames := 0, cells := 1, slots := 2, locals := 0 } : Room) s m #[(.ref a1), (.int p2), (.int p3)] below meth c s₁ [] 0 0 := Stand.of_body Bd
  have e0 : s₁.heap = h0 := by rw [← hh, Bd.state]; rfl
  have N0 := Fr.nil n0
  have pre0 : ∀ t, Steps p.tables e below (s₁.setTop (mkF m 0 #[.val (.ref a1), .val (.int p2), .val (.int p3), .unset, .unset] [])) t → Steps p.tables e below (s₁.setTop (entryFrame m #[(.ref a1), (.int p2), (.int p3)] 5)) t := fun t k => castTop (ef_2 m a1 p2 p3) k
  obtain ⟨TL, wj, XL, eL, stL⟩ := own_loop a1 (.val (.int p2)) p3 cl g hx hZ hw hby hml hown Ar hsz hg n s₁ (0 : Int32) p2 sm i X0 e0 hin hp2 hcc hsm
  obtain ⟨T4, h4, k4, X4, e4, E4, A4, st4⟩ := newP XL hx hZ (hw _ (List.mem_of_getElem? (i := 0) rfl)) eL (g := (mkF m 29 #[.val (.ref a1), .val (.int p2), .val (.int p3), .val (.int sm), .val (.int wj)] [(.int (2 : Int32))])) rfl (hb hby d2_29) rfl (by decide) (cap := 2) (by decide) (by decide) (by decide) (by decide)
  obtain ⟨b4, g4⟩ : ∃ z, z = h0.size := ⟨_, rfl⟩      -- the fresh array's address
  rw [← g4] at A4 st4
  have V_b4 : Arv Z h4 b4 k4 .byte (2 : Int32) [(.int (0 : Int32)), (.int (0 : Int32))] (.int (0 : Int32)) := (Arv.new A4 (by decide)).pad (pad_rep [] (.int (0 : Int32)) 2)
  have g_b4 : n0 ≤ b4 := Nat.le_trans Z0 (Nat.le_of_eq g4.symm)
  have sz_b4 : h0.size ≤ b4 := (Nat.le_trans (Keep.refl h0 []).1 (Nat.le_of_eq g4.symm))
  have K4 : Keep h0 h4 [] := (Keep.refl h0 []).ext E4
  have S4 := S_HEX_DIGITS.ext E4
  have Ar4 := Ar_w5.ext E4
  have hne5 : w5 ≠ b4 := Nat.ne_of_lt (Nat.lt_of_lt_of_le Ar_w5.lt (Nat.le_of_eq g4.symm))
  obtain ⟨T6, X6, e6, st6⟩ := getS2 X4 hx hZ hown (host := "") (Or.inl (hw _ (List.mem_of_getElem? (i := 10) rfl))) Via.refl e4 S4 (g := (mkF m 33 #[.val (.ref a1), .val (.int p2), .val (.int p3), .val (.int sm), .val (.int wj)] [(.int (0 : Int32)), (.ref b4), (.ref b4)])) rfl (hb hby d2_33)
  obtain ⟨cl_b4_43, Ar_b4, q_b4, S_b4, N_b4, H_b4, G_b4⟩ := V_b4      -- open the array's fact as it stands now (its cell, kind, length, elements)
  have hin43 : ¬ ((0 : Int32) < 0 ∨ cl_b4_43.slots.size ≤ ((0 : Int32)).toNatClampNeg) := inb_of S_b4 ⟨by decide, by decide⟩
  obtain ⟨T8, h8, X8, e8, W8, st8⟩ := stB X6 hx hZ e6 Ar_b4 (j := (0 : Int32)) hin43 (g := (mkF m 43 #[.val (.ref a1), .val (.int p2), .val (.int p3), .val (.int sm), .val (.int wj)] [(.int w7), (.int (0 : Int32)), (.ref b4), (.ref b4)])) rfl rfl (hb hby d2_43)
  have V_b4_8 := Arv.set Ar_b4 q_b4 S_b4 N_b4 H_b4 G_b4 (fits_nar_byte _) W8 0 rfl (Nat.le_of_ble_eq_true rfl)      -- the array as it stands now (the place must lie among its first values: Arv.pad with pad_rep lengthens them)
  have K8 : Keep h0 h8 [] := K4.wr W8 (Or.inr sz_b4)
  have N8 := Fr.snoc X8 N0 g_b4
  obtain ⟨T9, X9, e9, st9⟩ := getS2 X8 hx hZ hown (host := "") (Or.inl (hw _ (List.mem_of_getElem? (i := 10) rfl))) Via.refl e8 (S4.wr W8) (g := (mkF m 46 #[.val (.ref a1), .val (.int p2), .val (.int p3), .val (.int sm), .val (.int wj)] [(.int (1 : Int32)), (.ref b4), (.ref b4)])) rfl (hb hby d2_46)
  obtain ⟨cl_b4_54, Ar_b4, q_b4, S_b4, N_b4, H_b4, G_b4⟩ := V_b4_8      -- open the array's fact as it stands now (its cell, kind, length, elements)
  have hin54 : ¬ ((1 : Int32) < 0 ∨ cl_b4_54.slots.size ≤ ((1 : Int32)).toNatClampNeg) := inb_of S_b4 ⟨by decide, by decide⟩
  obtain ⟨T11, h11, X11, e11, W11, st11⟩ := stB X9 hx hZ e9 Ar_b4 (j := (1 : Int32)) hin54 (g := (mkF m 54 #[.val (.ref a1), .val (.int p2), .val (.int p3), .val (.int sm), .val (.int wj)] [(.int w10), (.int (1 : Int32)), (.ref b4), (.ref b4)])) rfl rfl (hb hby d2_54)
  have V_b4_11 := Arv.set Ar_b4 q_b4 S_b4 N_b4 H_b4 G_b4 (fits_nar_byte _) W11 1 rfl (Nat.le_of_ble_eq_true rfl)      -- the array as it stands now (the place must lie among its first values: Arv.pad with pad_rep lengthens them)
  have K11 : Keep h0 h11 [] := K8.wr W11 (Or.inr sz_b4)
  have N11 := Fr.snoc X11 N8 g_b4
  obtain ⟨fs, hr, hrun, hended, hW, hsame⟩ := X11.leave (v := some (.ref b4)) (fun h => by rw [Bd.returns] at h; cases h)
  refine ⟨_, _, pre0 _ ?_, hrun, hended, _, _, rfl, ?_, ⟨_, rfl⟩, hW, hsame.mono (by decide) (by decide)⟩
  · show Steps p.tables e below (s₁.setTop (mkF m 0 #[.val (.ref a1), .val (.int p2), .val (.int p3), .unset, .unset] [])) _
    refine XS.iconst X0.here hx rfl (hb hby d2_0) ?_
    show Steps p.tables e below (s₁.setTop (mkF m 1 #[.val (.ref a1), .val (.int p2), .val (.int p3), .unset, .unset] [(.int (0 : Int32))])) _
    refine XS.istoreN X0.here hx rfl (hb hby d2_1) rfl (l' := #[.val (.ref a1), .val (.int p2), .val (.int p3), .val (.int (0 : Int32)), .unset]) rfl ?_
    show Steps p.tables e below (s₁.setTop (mkF m 2 #[.val (.ref a1), .val (.int p2), .val (.int p3), .val (.int (0 : Int32)), .unset] [])) _
    refine XS.iloadN X0.here hx rfl (hb hby d2_2) rfl ?_
    show Steps p.tables e below (s₁.setTop (mkF m 3 #[.val (.ref a1), .val (.int p2), .val (.int p3), .val (.int (0 : Int32)), .unset] [(.int p2)])) _
    refine XS.istore X0.here hx rfl (hb hby d2_3) rfl (l' := #[.val (.ref a1), .val (.int p2), .val (.int p3), .val (.int (0 : Int32)), .val (.int p2)]) rfl ?_
    show Steps p.tables e below (s₁.setTop (mkF m 5 #[.val (.ref a1), .val (.int p2), .val (.int p3), .val (.int (0 : Int32)), .val (.int p2)] [])) _
    refine stL _ ?_
    show Steps p.tables e below (TL.setTop (mkF m 28 #[.val (.ref a1), .val (.int p2), .val (.int p3), .val (.int sm), .val (.int wj)] [])) _
    refine XS.iconst XL.here hx rfl (hb hby d2_28) ?_
    show Steps p.tables e below (TL.setTop (mkF m 29 #[.val (.ref a1), .val (.int p2), .val (.int p3), .val (.int sm), .val (.int wj)] [(.int (2 : Int32))])) _
    refine st4 _ ?_
    show Steps p.tables e below (T4.setTop (mkF m 31 #[.val (.ref a1), .val (.int p2), .val (.int p3), .val (.int sm), .val (.int wj)] [(.ref b4)])) _
    refine XS.dup X4.here hx rfl (hb hby d2_31) rfl rfl ?_
    show Steps p.tables e below (T4.setTop (mkF m 32 #[.val (.ref a1), .val (.int p2), .val (.int p3), .val (.int sm), .val (.int wj)] [(.ref b4), (.ref b4)])) _
    refine XS.iconst X4.here hx rfl (hb hby d2_32) ?_
    show Steps p.tables e below (T4.setTop (mkF m 33 #[.val (.ref a1), .val (.int p2), .val (.int p3), .val (.int sm), .val (.int wj)] [(.int (0 : Int32)), (.ref b4), (.ref b4)])) _
    refine st6 _ ?_
    show Steps p.tables e below (T6.setTop (mkF m 36 #[.val (.ref a1), .val (.int p2), .val (.int p3), .val (.int sm), .val (.int wj)] [(.ref w5), (.int (0 : Int32)), (.ref b4), (.ref b4)])) _
    refine XS.iloadN X6.here hx rfl (hb hby d2_36) rfl ?_
    show Steps p.tables e below (T6.setTop (mkF m 37 #[.val (.ref a1), .val (.int p2), .val (.int p3), .val (.int sm), .val (.int wj)] [(.int sm), (.ref w5), (.int (0 : Int32)), (.ref b4), (.ref b4)])) _
    refine XS.iconst X6.here hx rfl (hb hby d2_37) ?_
    show Steps p.tables e below (T6.setTop (mkF m 38 #[.val (.ref a1), .val (.int p2), .val (.int p3), .val (.int sm), .val (.int wj)] [(.int (4 : Int32)), (.int sm), (.ref w5), (.int (0 : Int32)), (.ref b4), (.ref b4)])) _
    refine XS.ishr X6.here hx rfl (hb hby d2_38) rfl ?_
    show Steps p.tables e below (T6.setTop (mkF m 39 #[.val (.ref a1), .val (.int p2), .val (.int p3), .val (.int sm), .val (.int wj)] [(.int (sm >>> ((4 : Int32) &&& 31))), (.ref w5), (.int (0 : Int32)), (.ref b4), (.ref b4)])) _
    refine XS.bipush X6.here hx rfl (hb hby d2_39) ?_
    show Steps p.tables e below (T6.setTop (mkF m 41 #[.val (.ref a1), .val (.int p2), .val (.int p3), .val (.int sm), .val (.int wj)] [(.int (15 : Int32)), (.int (sm >>> ((4 : Int32) &&& 31))), (.ref w5), (.int (0 : Int32)), (.ref b4), (.ref b4)])) _
    refine XS.iand X6.here hx rfl (hb hby d2_41) rfl ?_
    show Steps p.tables e below (T6.setTop (mkF m 42 #[.val (.ref a1), .val (.int p2), .val (.int p3), .val (.int sm), .val (.int wj)] [(.int ((sm >>> ((4 : Int32) &&& 31)) &&& (15 : Int32))), (.ref w5), (.int (0 : Int32)), (.ref b4), (.ref b4)])) _
    refine X6.baloadBytes hx (j := ((sm >>> ((4 : Int32) &&& 31)) &&& (15 : Int32))) (v := (.int w7)) (by rw [e6]; exact Ar4.1) (State.isArrayOf_alike hZ.alike Ar_w5.2.1) Ar_w5.2.2 hin42 hat42 (g := (mkF m 42 #[.val (.ref a1), .val (.int p2), .val (.int p3), .val (.int sm), .val (.int wj)] [(.int ((sm >>> ((4 : Int32) &&& 31)) &&& (15 : Int32))), (.ref w5), (.int (0 : Int32)), (.ref b4), (.ref b4)])) rfl rfl (hb hby d2_42) _ ?_
    show Steps p.tables e below (T6.setTop (mkF m 43 #[.val (.ref a1), .val (.int p2), .val (.int p3), .val (.int sm), .val (.int wj)] [(.int w7), (.int (0 : Int32)), (.ref b4), (.ref b4)])) _
    refine st8 _ ?_
    show Steps p.tables e below (T8.setTop (mkF m 44 #[.val (.ref a1), .val (.int p2), .val (.int p3), .val (.int sm), .val (.int wj)] [(.ref b4)])) _
    refine XS.dup X8.here hx rfl (hb hby d2_44) rfl rfl ?_
    show Steps p.tables e below (T8.setTop (mkF m 45 #[.val (.ref a1), .val (.int p2), .val (.int p3), .val (.int sm), .val (.int wj)] [(.ref b4), (.ref b4)])) _
    refine XS.iconst X8.here hx rfl (hb hby d2_45) ?_
    show Steps p.tables e below (T8.setTop (mkF m 46 #[.val (.ref a1), .val (.int p2), .val (.int p3), .val (.int sm), .val (.int wj)] [(.int (1 : Int32)), (.ref b4), (.ref b4)])) _
    refine st9 _ ?_
    show Steps p.tables e below (T9.setTop (mkF m 49 #[.val (.ref a1), .val (.int p2), .val (.int p3), .val (.int sm), .val (.int wj)] [(.ref w5), (.int (1 : Int32)), (.ref b4), (.ref b4)])) _
    refine XS.iloadN X9.here hx rfl (hb hby d2_49) rfl ?_
    show Steps p.tables e below (T9.setTop (mkF m 50 #[.val (.ref a1), .val (.int p2), .val (.int p3), .val (.int sm), .val (.int wj)] [(.int sm), (.ref w5), (.int (1 : Int32)), (.ref b4), (.ref b4)])) _
    refine XS.bipush X9.here hx rfl (hb hby d2_50) ?_
    show Steps p.tables e below (T9.setTop (mkF m 52 #[.val (.ref a1), .val (.int p2), .val (.int p3), .val (.int sm), .val (.int wj)] [(.int (15 : Int32)), (.int sm), (.ref w5), (.int (1 : Int32)), (.ref b4), (.ref b4)])) _
    refine XS.iand X9.here hx rfl (hb hby d2_52) rfl ?_
    show Steps p.tables e below (T9.setTop (mkF m 53 #[.val (.ref a1), .val (.int p2), .val (.int p3), .val (.int sm), .val (.int wj)] [(.int (sm &&& (15 : Int32))), (.ref w5), (.int (1 : Int32)), (.ref b4), (.ref b4)])) _
    refine X9.baloadBytes hx (j := (sm &&& (15 : Int32))) (v := (.int w10)) (by rw [e9]; exact (Ar4.other W8 hne5).1) (State.isArrayOf_alike hZ.alike Ar_w5.2.1) Ar_w5.2.2 hin53 hat53 (g := (mkF m 53 #[.val (.ref a1), .val (.int p2), .val (.int p3), .val (.int sm), .val (.int wj)] [(.int (sm &&& (15 : Int32))), (.ref w5), (.int (1 : Int32)), (.ref b4), (.ref b4)])) rfl rfl (hb hby d2_53) _ ?_
    show Steps p.tables e below (T9.setTop (mkF m 54 #[.val (.ref a1), .val (.int p2), .val (.int p3), .val (.int sm), .val (.int wj)] [(.int w10), (.int (1 : Int32)), (.ref b4), (.ref b4)])) _
    refine st11 _ ?_
    show Steps p.tables e below (T11.setTop (mkF m 55 #[.val (.ref a1), .val (.int p2), .val (.int p3), .val (.int sm), .val (.int wj)] [(.ref b4)])) _
    jvm_step X11.here [X11.here.top, hx, (hb hby d2_55), X11.method', Bd.returns, Value.isRef, FieldType.isReference]
    first | (intro acts; rw [hr _ acts rfl rfl rfl]) | rw [hr _ _ rfl rfl rfl]
    exact Steps.refl _
  · show Q2 Z a1 p2 p3 w5 w7 cl_w5 w10 h0 n0 _ T11.heap _
    rw [e11]
    exact ⟨b4, k4, rfl, N11, K11, V_b4_11⟩
def own_g (p1 p2 p3 p4 : Int32) (j : Nat) : Int32 := (match j with | 0 => p1 | 1 => p2 | 2 => p3 | _ => p4).toInt8.toInt32.toInt8.toInt32
theorem own_arrK {Z : State} {h h' : Heap} {a : Addr} {c : Cell} {ty : FieldType} (A : Arr Z h a c ty) (K : Keep h h' []) : Arr Z h' a c ty := ⟨K.2.1 _ _ A.1 nin0, A.2⟩
theorem own_g4 {p1 p2 p3 p4 : Int32} (j : Nat) (hj : j < 4) (o : Option Value) (h : o = some ([(.int p1.toInt8.toInt32.toInt8.toInt32), (.int p2.toInt8.toInt32.toInt8.toInt32), (.int p3.toInt8.toInt32.toInt8.toInt32), (.int p4.toInt8.toInt32.toInt8.toInt32)].getD j (.int (0 : Int32)))) : o = some (.int (own_g p1 p2 p3 p4 j)) := by
  subst h
  match j, hj with
  | 0, _ => rfl
  | 1, _ => rfl
  | 2, _ => rfl
  | 3, _ => rfl
theorem pn_0 : plainName "com/example/cuvette/cuvette/astm/E1381ChecksumPinLaw" = true := by first | (simp [plainName, overriddenIn]; done) | decide +kernel
theorem pd_0_0 : parseMethodDescriptor "(IIII)I" = some ⟨[.int, .int, .int, .int], some .int⟩ := by decide +kernel
theorem pd_0_1 : parseMethodDescriptor "([BII)[B" = some ⟨[(.array .byte), .int, .int], some (.array .byte)⟩ := by decide +kernel
theorem pd_0_2 : parseMethodDescriptor "(I)B" = some ⟨[.int], some .byte⟩ := by decide +kernel
theorem ef_0 (m : MethodId) (x0 : Int32) (x1 : Int32) (x2 : Int32) (x3 : Int32) (x4 : Int32) (x5 : Int32) : entryFrame m #[(.int x0), (.int x1), (.int x2), (.int x3), (.int x4), (.int x5)] maxLocals = mkF m 0 #[.val (.int x0), .val (.int x1), .val (.int x2), .val (.int x3), .val (.int x4), .val (.int x5), .unset, .unset, .unset, .unset, .unset, .unset] [] := by first | (simp [entryFrame, mkF, argsToLocals, Value.category, maxLocals]; done) | rfl
def Q0 (Z : State) (p1 : Int32) (p2 : Int32) (p3 : Int32) (p4 : Int32) (p5 : Int32) (p6 : Int32) (h0 : Heap) (n0 : Nat) (v : Option Value) (h : Heap) (L : List Loc) : Prop := v = some (.int (1 : Int32)) ∧ Fr n0 L
set_option maxRecDepth 65536 in
set_option maxHeartbeats 40000000 in
theorem rm0 (l : Launch) (Z : State) (a0 : Array Value) (hw : ∀ d ∈ tables_1, d.before a0 Z = true) (ws : List Jvm.Cond) (p1 : Int32) (p2 : Int32) (p3 : Int32) (p4 : Int32) (p5 : Int32) (p6 : Int32) (h0 : Heap) (n0 : Nat) (Z0 : n0 ≤ h0.size) (t0 t1 t2 t3 : Int32) (ht0 : own_T p1 0 ((p5 &&& (2147483647 : Int32)) % (5 : Int32)) ((p6 &&& (2147483647 : Int32)) % (5 : Int32)) t0) (ht1 : own_T p2 1 ((p5 &&& (2147483647 : Int32)) % (5 : Int32)) ((p6 &&& (2147483647 : Int32)) % (5 : Int32)) t1) (ht2 : own_T p3 2 ((p5 &&& (2147483647 : Int32)) % (5 : Int32)) ((p6 &&& (2147483647 : Int32)) % (5 : Int32)) t2) (ht3 : own_T p4 3 ((p5 &&& (2147483647 : Int32)) % (5 : Int32)) ((p6 &&& (2147483647 : Int32)) % (5 : Int32)) t3) (hd : Addr) (clh : Cell) (S_HEX : Sta Z h0 "com/example/cuvette/cuvette/astm/E1381" "HEX_DIGITS" "[B" (.ref hd)) (Ar_h : Arr Z h0 hd clh .byte) (w7 w10 : Int32) (hin42 : ¬ ((((((t0 + t1) + t2) + t3) >>> ((4 : Int32) &&& 31)) &&& (15 : Int32)) < 0 ∨ clh.slots.size ≤ ((((((t0 + t1) + t2) + t3) >>> ((4 : Int32) &&& 31)) &&& (15 : Int32))).toNatClampNeg)) (hat42 : clh.slots[((((((t0 + t1) + t2) + t3) >>> ((4 : Int32) &&& 31)) &&& (15 : Int32))).toNatClampNeg]? = some (.int w7)) (hin53 : ¬ (((((t0 + t1) + t2) + t3) &&& (15 : Int32)) < 0 ∨ clh.slots.size ≤ (((((t0 + t1) + t2) + t3) &&& (15 : Int32))).toNatClampNeg)) (hat53 : clh.slots[(((((t0 + t1) + t2) + t3) &&& (15 : Int32))).toNatClampNeg]? = some (.int w10)) (i n : Nat) (hin : i + n ≤ 4) (hp2 : ((p5 &&& (2147483647 : Int32)) % (5 : Int32)) = Int32.ofNat i) (hcc : ((p6 &&& (2147483647 : Int32)) % (5 : Int32)) = Int32.ofNat (i + n) ∨ (n = 0 ∧ ¬ (Int32.ofNat i < ((p6 &&& (2147483647 : Int32)) % (5 : Int32))))) (hsm : own_acc (own_g p1 p2 p3 p4) n i (0 : Int32) = (((t0 + t1) + t2) + t3)) (hq1 : w7.toInt8.toInt32 = own_hv (((((t0 + t1) + t2) + t3) &&& (255 : Int32)) >>> ((4 : Int32) &&& 31))) (hq2 : w10.toInt8.toInt32 = own_hv (((((t0 + t1) + t2) + t3) &&& (255 : Int32)) &&& (15 : Int32))) :
    MetFree l x (head1 (Jvm.Cond.code x code maxLocals ret :: ws) room_1) (fun a U => a = #[(.int p1), (.int p2), (.int p3), (.int p4), (.int p5), (.int p6)] ∧ Z.Warmed39 U.vm ∧ U.heap = h0) (fun _ _ _ _ _ => True) (fun _ U o U' => ∃ v L, o = .returned v ∧ Q0 Z p1 p2 p3 p4 p5 p6 h0 n0 v U'.heap L ∧ FrameEnd U o U' L room_1.cells room_1.slots) := by
  refine MetFree.of_bodySF (plainFor_of_name pn_0) hisR ?_
  intro p e s m args below meth c s₁ Bd hml0 hP hK
  obtain ⟨rfl, hZ, hh⟩ := hP
  have hx := Bd.exec
  have hby := Bd.bytes
  have hml : c.maxLocals = 12 := hml0
  have hown : s.vm.findClass "com/example/cuvette/cuvette/astm/E1381ChecksumPinLaw" = some m.cls := findClass_of_methodNamed Bd.named
  have hnm := (name_of_methodNamed Bd.named Bd.method).1
  have X0 : Stand p l e room_1 s m #[(.int p1), (.int p2), (.int p3), (.int p4), (.int p5), (.int p6)] below meth c s₁ [] 0 0 := Stand.of_body Bd
  have e0 : s₁.heap = h0 := by rw [← hh, Bd.state]; rfl
  have N0 := Fr.nil n0
  have pre0 : ∀ t, Steps p.tables e below (s₁.setTop (mkF m 0 #[.val (.int p1), .val (.int p2), .val (.int p3), .val (.int p4), .val (.int p5), .val (.int p6), .unset, .unset, .unset, .unset, .unset, .unset] [])) t → Steps p.tables e below (s₁.setTop (entryFrame m #[(.int p1), (.int p2), (.int p3), (.int p4), (.int p5), (.int p6)] maxLocals)) t := fun t k => castTop (ef_0 m p1 p2 p3 p4 p5 p6) k
  obtain ⟨T7, h7, k7, X7, e7, E7, A7, st7⟩ := newP X0 hx hZ (hw _ (List.mem_of_getElem? (i := 0) rfl)) e0 (g := (mkF m 1 #[.val (.int p1), .val (.int p2), .val (.int p3), .val (.int p4), .val (.int p5), .val (.int p6), .unset, .unset, .unset, .unset, .unset, .unset] [(.int (4 : Int32))])) rfl (hb hby at_1) rfl (by decide) (cap := 4) (by decide) (by decide) (by decide) (by decide)
  obtain ⟨b7, g7⟩ : ∃ z, z = h0.size := ⟨_, rfl⟩      -- the fresh array's address
  rw [← g7] at A7 st7
  have V_b7 : Arv Z h7 b7 k7 .byte (4 : Int32) [(.int (0 : Int32)), (.int (0 : Int32)), (.int (0 : Int32)), (.int (0 : Int32))] (.int (0 : Int32)) := (Arv.new A7 (by decide)).pad (pad_rep [] (.int (0 : Int32)) 4)
  have g_b7 : n0 ≤ b7 := Nat.le_trans Z0 (Nat.le_of_eq g7.symm)
  have sz_b7 : h0.size ≤ b7 := (Nat.le_trans (Keep.refl h0 []).1 (Nat.le_of_eq g7.symm))
  have K7 : Keep h0 h7 [] := (Keep.refl h0 []).ext E7
  obtain ⟨cl_b7_7, Ar_b7, q_b7, S_b7, N_b7, H_b7, G_b7⟩ := V_b7      -- open the array's fact as it stands now (its cell, kind, length, elements)
  have hin7 : ¬ ((0 : Int32) < 0 ∨ cl_b7_7.slots.size ≤ ((0 : Int32)).toNatClampNeg) := inb_of S_b7 ⟨by decide, by decide⟩
  obtain ⟨T8, h8, X8, e8, W8, st8⟩ := stB X7 hx hZ e7 Ar_b7 (j := (0 : Int32)) hin7 (g := (mkF m 7 #[.val (.int p1), .val (.int p2), .val (.int p3), .val (.int p4), .val (.int p5), .val (.int p6), .unset, .unset, .unset, .unset, .unset, .unset] [(.int (p1.toInt8.toInt32)), (.int (0 : Int32)), (.ref b7), (.ref b7)])) rfl rfl (hb hby at_7)
  have V_b7_8 := Arv.set Ar_b7 q_b7 S_b7 N_b7 H_b7 G_b7 (fits_nar_byte _) W8 0 rfl (Nat.le_of_ble_eq_true rfl)      -- the array as it stands now (the place must lie among its first values: Arv.pad with pad_rep lengthens them)
  have K8 : Keep h0 h8 [] := K7.wr W8 (Or.inr sz_b7)
  have N8 := Fr.snoc X8 N0 g_b7
  obtain ⟨cl_b7_12, Ar_b7, q_b7, S_b7, N_b7, H_b7, G_b7⟩ := V_b7_8      -- open the array's fact as it stands now (its cell, kind, length, elements)
  have hin12 : ¬ ((1 : Int32) < 0 ∨ cl_b7_12.slots.size ≤ ((1 : Int32)).toNatClampNeg) := inb_of S_b7 ⟨by decide, by decide⟩
  obtain ⟨T9, h9, X9, e9, W9, st9⟩ := stB X8 hx hZ e8 Ar_b7 (j := (1 : Int32)) hin12 (g := (mkF m 12 #[.val (.int p1), .val (.int p2), .val (.int p3), .val (.int p4), .val (.int p5), .val (.int p6), .unset, .unset, .unset, .unset, .unset, .unset] [(.int (p2.toInt8.toInt32)), (.int (1 : Int32)), (.ref b7), (.ref b7)])) rfl rfl (hb hby at_12)
  have V_b7_9 := Arv.set Ar_b7 q_b7 S_b7 N_b7 H_b7 G_b7 (fits_nar_byte _) W9 1 rfl (Nat.le_of_ble_eq_true rfl)      -- the array as it stands now (the place must lie among its first values: Arv.pad with pad_rep lengthens them)
  have K9 : Keep h0 h9 [] := K8.wr W9 (Or.inr sz_b7)
  have N9 := Fr.snoc X9 N8 g_b7
  obtain ⟨cl_b7_17, Ar_b7, q_b7, S_b7, N_b7, H_b7, G_b7⟩ := V_b7_9      -- open the array's fact as it stands now (its cell, kind, length, elements)
  have hin17 : ¬ ((2 : Int32) < 0 ∨ cl_b7_17.slots.size ≤ ((2 : Int32)).toNatClampNeg) := inb_of S_b7 ⟨by decide, by decide⟩
  obtain ⟨T10, h10, X10, e10, W10, st10⟩ := stB X9 hx hZ e9 Ar_b7 (j := (2 : Int32)) hin17 (g := (mkF m 17 #[.val (.int p1), .val (.int p2), .val (.int p3), .val (.int p4), .val (.int p5), .val (.int p6), .unset, .unset, .unset, .unset, .unset, .unset] [(.int (p3.toInt8.toInt32)), (.int (2 : Int32)), (.ref b7), (.ref b7)])) rfl rfl (hb hby at_17)
  have V_b7_10 := Arv.set Ar_b7 q_b7 S_b7 N_b7 H_b7 G_b7 (fits_nar_byte _) W10 2 rfl (Nat.le_of_ble_eq_true rfl)      -- the array as it stands now (the place must lie among its first values: Arv.pad with pad_rep lengthens them)
  have K10 : Keep h0 h10 [] := K9.wr W10 (Or.inr sz_b7)
  have N10 := Fr.snoc X10 N9 g_b7
  obtain ⟨cl_b7_22, Ar_b7, q_b7, S_b7, N_b7, H_b7, G_b7⟩ := V_b7_10      -- open the array's fact as it stands now (its cell, kind, length, elements)
  have hin22 : ¬ ((3 : Int32) < 0 ∨ cl_b7_22.slots.size ≤ ((3 : Int32)).toNatClampNeg) := inb_of S_b7 ⟨by decide, by decide⟩
  obtain ⟨T11, h11, X11, e11, W11, st11⟩ := stB X10 hx hZ e10 Ar_b7 (j := (3 : Int32)) hin22 (g := (mkF m 22 #[.val (.int p1), .val (.int p2), .val (.int p3), .val (.int p4), .val (.int p5), .val (.int p6), .unset, .unset, .unset, .unset, .unset, .unset] [(.int (p4.toInt8.toInt32)), (.int (3 : Int32)), (.ref b7), (.ref b7)])) rfl rfl (hb hby at_22)
  have V_b7_11 := Arv.set Ar_b7 q_b7 S_b7 N_b7 H_b7 G_b7 (fits_nar_byte _) W11 3 rfl (Nat.le_of_ble_eq_true rfl)      -- the array as it stands now (the place must lie among its first values: Arv.pad with pad_rep lengthens them)
  have K11 : Keep h0 h11 [] := K10.wr W11 (Or.inr sz_b7)
  obtain ⟨clx, Arx, -, Sx0, -, Hx, -⟩ := V_b7_11
  have Sx : clx.slots.size = 4 := Sx0
  have hgx : ∀ j, j < 4 → clx.slots[j]? = some (.int (own_g p1 p2 p3 p4 j)) := fun j hj => own_g4 j hj _ (Hx j (by rw [Sx]; exact hj))
  have N11 := Fr.snoc X11 N10 g_b7
  obtain ⟨_, _, ⟨T12, L12, k12, n12⟩, -, X12, ⟨Lc12, hQ12, l12, y12, z12⟩, st12⟩ := Jvm.LawKit.callS X11 hx (y := (⟨"com/example/cuvette/cuvette/astm/E1381ChecksumPinLaw", "term", "(IIII)I"⟩ : MethodName)) hown (mvT hZ (hw _ (List.mem_of_getElem? (i := 2) rfl))) (mvT hZ (hw _ (List.mem_of_getElem? (i := 3) rfl))) (mvT hZ (hw _ (List.mem_of_getElem? (i := 4) rfl))) (mvT hZ (hw _ (List.mem_of_getElem? (i := 5) rfl))) (by decide) (backOf (W := 0) (own_term l Z a0 hw [] p1 (0 : Int32) ((p5 &&& (2147483647 : Int32)) % (5 : Int32)) ((p6 &&& (2147483647 : Int32)) % (5 : Int32)) t0 h11 n0 (Nat.le_trans Z0 K11.1) ht0) hZ (hw _ (List.mem_of_getElem? (i := 5) rfl)) (hw _ (List.mem_of_getElem? (i := 4) rfl)) (by decide) (by decide)) (g := (mkF m 49 #[.val (.int p1), .val (.int p2), .val (.int p3), .val (.int p4), .val (.int p5), .val (.int p6), .val (.ref b7), .val (.int ((p5 &&& (2147483647 : Int32)) % (5 : Int32))), .val (.int ((p6 &&& (2147483647 : Int32)) % (5 : Int32))), .unset, .unset, .unset] [(.int ((p6 &&& (2147483647 : Int32)) % (5 : Int32))), (.int ((p5 &&& (2147483647 : Int32)) % (5 : Int32))), (.int (0 : Int32)), (.int p1)])) rfl (by rw [hml]; rfl) (argsL := [(.int p1), (.int (0 : Int32)), (.int ((p5 &&& (2147483647 : Int32)) % (5 : Int32))), (.int ((p6 &&& (2147483647 : Int32)) % (5 : Int32)))]) (rest := []) (lenOf pd_0_0 rfl) rfl (by show 2 * 0 + _ ≤ _; exact Nat.le_of_eq rfl) (hb hby at_49) (fun _ _ => ⟨rfl, e11, (Nat.le_of_ble_eq_true rfl), (Nat.le_of_ble_eq_true rfl)⟩)
  dsimp only [Pt.U, Pt.locs, Pt.cells, Pt.slots] at X12 l12 y12 z12 st12 hQ12
  subst l12 y12 z12
  obtain ⟨rfl, N12q, e12⟩ := hQ12
  have N12 := Fr.app N11 N12q
  obtain ⟨_, _, ⟨T13, L13, k13, n13⟩, -, X13, ⟨Lc13, hQ13, l13, y13, z13⟩, st13⟩ := Jvm.LawKit.callS X12 hx (y := (⟨"com/example/cuvette/cuvette/astm/E1381ChecksumPinLaw", "term", "(IIII)I"⟩ : MethodName)) hown (mvT hZ (hw _ (List.mem_of_getElem? (i := 2) rfl))) (mvT hZ (hw _ (List.mem_of_getElem? (i := 3) rfl))) (mvT hZ (hw _ (List.mem_of_getElem? (i := 4) rfl))) (mvT hZ (hw _ (List.mem_of_getElem? (i := 5) rfl))) (by decide) (backOf (W := 1) (own_term l Z a0 hw [] p2 (1 : Int32) ((p5 &&& (2147483647 : Int32)) % (5 : Int32)) ((p6 &&& (2147483647 : Int32)) % (5 : Int32)) t1 T12.heap n0 (e12 ▸ Nat.le_trans Z0 K11.1) ht1) hZ (hw _ (List.mem_of_getElem? (i := 5) rfl)) (hw _ (List.mem_of_getElem? (i := 4) rfl)) (by decide) (by decide)) (g := (mkF m 58 #[.val (.int p1), .val (.int p2), .val (.int p3), .val (.int p4), .val (.int p5), .val (.int p6), .val (.ref b7), .val (.int ((p5 &&& (2147483647 : Int32)) % (5 : Int32))), .val (.int ((p6 &&& (2147483647 : Int32)) % (5 : Int32))), .unset, .unset, .unset] [(.int ((p6 &&& (2147483647 : Int32)) % (5 : Int32))), (.int ((p5 &&& (2147483647 : Int32)) % (5 : Int32))), (.int (1 : Int32)), (.int p2), (.int t0)])) rfl (by rw [hml]; rfl) (argsL := [(.int p2), (.int (1 : Int32)), (.int ((p5 &&& (2147483647 : Int32)) % (5 : Int32))), (.int ((p6 &&& (2147483647 : Int32)) % (5 : Int32)))]) (rest := [(.int t0)]) (lenOf pd_0_0 rfl) rfl (by show 2 * 0 + _ ≤ _; exact Nat.le_of_eq rfl) (hb hby at_58) (fun _ _ => ⟨rfl, rfl, (Nat.le_of_ble_eq_true rfl), (Nat.le_of_ble_eq_true rfl)⟩)
  dsimp only [Pt.U, Pt.locs, Pt.cells, Pt.slots] at X13 l13 y13 z13 st13 hQ13
  subst l13 y13 z13
  obtain ⟨rfl, N13q, e13a⟩ := hQ13
  have e13 := e13a.trans e12
  have N13 := Fr.app N12 N13q
  obtain ⟨_, _, ⟨T14, L14, k14, n14⟩, -, X14, ⟨Lc14, hQ14, l14, y14, z14⟩, st14⟩ := Jvm.LawKit.callS X13 hx (y := (⟨"com/example/cuvette/cuvette/astm/E1381ChecksumPinLaw", "term", "(IIII)I"⟩ : MethodName)) hown (mvT hZ (hw _ (List.mem_of_getElem? (i := 2) rfl))) (mvT hZ (hw _ (List.mem_of_getElem? (i := 3) rfl))) (mvT hZ (hw _ (List.mem_of_getElem? (i := 4) rfl))) (mvT hZ (hw _ (List.mem_of_getElem? (i := 5) rfl))) (by decide) (backOf (W := 1) (own_term l Z a0 hw [] p3 (2 : Int32) ((p5 &&& (2147483647 : Int32)) % (5 : Int32)) ((p6 &&& (2147483647 : Int32)) % (5 : Int32)) t2 T13.heap n0 (e13 ▸ Nat.le_trans Z0 K11.1) ht2) hZ (hw _ (List.mem_of_getElem? (i := 5) rfl)) (hw _ (List.mem_of_getElem? (i := 4) rfl)) (by decide) (by decide)) (g := (mkF m 68 #[.val (.int p1), .val (.int p2), .val (.int p3), .val (.int p4), .val (.int p5), .val (.int p6), .val (.ref b7), .val (.int ((p5 &&& (2147483647 : Int32)) % (5 : Int32))), .val (.int ((p6 &&& (2147483647 : Int32)) % (5 : Int32))), .unset, .unset, .unset] [(.int ((p6 &&& (2147483647 : Int32)) % (5 : Int32))), (.int ((p5 &&& (2147483647 : Int32)) % (5 : Int32))), (.int (2 : Int32)), (.int p3), (.int (t0 + t1))])) rfl (by rw [hml]; rfl) (argsL := [(.int p3), (.int (2 : Int32)), (.int ((p5 &&& (2147483647 : Int32)) % (5 : Int32))), (.int ((p6 &&& (2147483647 : Int32)) % (5 : Int32)))]) (rest := [(.int (t0 + t1))]) (lenOf pd_0_0 rfl) rfl (by show 2 * 0 + _ ≤ _; exact Nat.le_of_eq rfl) (hb hby at_68) (fun _ _ => ⟨rfl, rfl, (Nat.le_of_ble_eq_true rfl), (Nat.le_of_ble_eq_true rfl)⟩)
  dsimp only [Pt.U, Pt.locs, Pt.cells, Pt.slots] at X14 l14 y14 z14 st14 hQ14
  subst l14 y14 z14
  obtain ⟨rfl, N14q, e14a⟩ := hQ14
  have e14 := e14a.trans e13
  have N14 := Fr.app N13 N14q
  obtain ⟨_, _, ⟨T15, L15, k15, n15⟩, -, X15, ⟨Lc15, hQ15, l15, y15, z15⟩, st15⟩ := Jvm.LawKit.callS X14 hx (y := (⟨"com/example/cuvette/cuvette/astm/E1381ChecksumPinLaw", "term", "(IIII)I"⟩ : MethodName)) hown (mvT hZ (hw _ (List.mem_of_getElem? (i := 2) rfl))) (mvT hZ (hw _ (List.mem_of_getElem? (i := 3) rfl))) (mvT hZ (hw _ (List.mem_of_getElem? (i := 4) rfl))) (mvT hZ (hw _ (List.mem_of_getElem? (i := 5) rfl))) (by decide) (backOf (W := 1) (own_term l Z a0 hw [] p4 (3 : Int32) ((p5 &&& (2147483647 : Int32)) % (5 : Int32)) ((p6 &&& (2147483647 : Int32)) % (5 : Int32)) t3 T14.heap n0 (e14 ▸ Nat.le_trans Z0 K11.1) ht3) hZ (hw _ (List.mem_of_getElem? (i := 5) rfl)) (hw _ (List.mem_of_getElem? (i := 4) rfl)) (by decide) (by decide)) (g := (mkF m 78 #[.val (.int p1), .val (.int p2), .val (.int p3), .val (.int p4), .val (.int p5), .val (.int p6), .val (.ref b7), .val (.int ((p5 &&& (2147483647 : Int32)) % (5 : Int32))), .val (.int ((p6 &&& (2147483647 : Int32)) % (5 : Int32))), .unset, .unset, .unset] [(.int ((p6 &&& (2147483647 : Int32)) % (5 : Int32))), (.int ((p5 &&& (2147483647 : Int32)) % (5 : Int32))), (.int (3 : Int32)), (.int p4), (.int ((t0 + t1) + t2))])) rfl (by rw [hml]; rfl) (argsL := [(.int p4), (.int (3 : Int32)), (.int ((p5 &&& (2147483647 : Int32)) % (5 : Int32))), (.int ((p6 &&& (2147483647 : Int32)) % (5 : Int32)))]) (rest := [(.int ((t0 + t1) + t2))]) (lenOf pd_0_0 rfl) rfl (by show 2 * 0 + _ ≤ _; exact Nat.le_of_eq rfl) (hb hby at_78) (fun _ _ => ⟨rfl, rfl, (Nat.le_of_ble_eq_true rfl), (Nat.le_of_ble_eq_true rfl)⟩)
  dsimp only [Pt.U, Pt.locs, Pt.cells, Pt.slots] at X15 l15 y15 z15 st15 hQ15
  subst l15 y15 z15
  obtain ⟨rfl, N15q, e15a⟩ := hQ15
  have e15 := e15a.trans e14
  have N15 := Fr.app N14 N15q
  obtain ⟨_, _, ⟨T16, L16, k16, n16⟩, -, X16, ⟨Lc16, hQ16, l16, y16, z16⟩, st16⟩ := Jvm.LawKit.callS X15 hx (y := (⟨"com/example/cuvette/cuvette/astm/E1381", "checksum", "([BII)[B"⟩ : MethodName)) hown (mvT hZ (hw _ (List.mem_of_getElem? (i := 6) rfl))) (mvT hZ (hw _ (List.mem_of_getElem? (i := 7) rfl))) (mvT hZ (hw _ (List.mem_of_getElem? (i := 8) rfl))) (mvT hZ (hw _ (List.mem_of_getElem? (i := 9) rfl))) (by decide) (backOf (W := 0) (rm2 l Z a0 hw [] b7 ((p5 &&& (2147483647 : Int32)) % (5 : Int32)) ((p6 &&& (2147483647 : Int32)) % (5 : Int32)) hd w7 clh w10 (((t0 + t1) + t2) + t3) T15.heap n0 (e15 ▸ Nat.le_trans Z0 K11.1) (e15 ▸ own_staK S_HEX K11) (e15 ▸ own_arrK Ar_h K11) hin42 hat42 hin53 hat53 i n clx (own_g p1 p2 p3 p4) (e15 ▸ Arx) Sx hgx hin hp2 hcc hsm) hZ (hw _ (List.mem_of_getElem? (i := 9) rfl)) (hw _ (List.mem_of_getElem? (i := 8) rfl)) (by decide) (by decide)) (g := (mkF m 98 #[.val (.int p1), .val (.int p2), .val (.int p3), .val (.int p4), .val (.int p5), .val (.int p6), .val (.ref b7), .val (.int ((p5 &&& (2147483647 : Int32)) % (5 : Int32))), .val (.int ((p6 &&& (2147483647 : Int32)) % (5 : Int32))), .val (.int (((t0 + t1) + t2) + t3)), .val (.int ((((t0 + t1) + t2) + t3) &&& (255 : Int32))), .unset] [(.int ((p6 &&& (2147483647 : Int32)) % (5 : Int32))), (.int ((p5 &&& (2147483647 : Int32)) % (5 : Int32))), (.ref b7)])) rfl (by rw [hml]; rfl) (argsL := [(.ref b7), (.int ((p5 &&& (2147483647 : Int32)) % (5 : Int32))), (.int ((p6 &&& (2147483647 : Int32)) % (5 : Int32)))]) (rest := []) (lenOf pd_0_1 rfl) rfl (by show 2 * 0 + _ ≤ _; exact Nat.le_of_eq rfl) (hb hby at_98) (fun _ _ => ⟨rfl, rfl, (Nat.le_of_ble_eq_true rfl), (Nat.le_of_ble_eq_true rfl)⟩)
  dsimp only [Pt.U, Pt.locs, Pt.cells, Pt.slots] at X16 l16 y16 z16 st16 hQ16
  subst l16 y16 z16
  obtain ⟨c16, kc16, rfl, N16q, K16, V16⟩ := hQ16
  obtain ⟨cl_c16, Ar_c16, -, S_c16, N_c16, H_c16, -⟩ := V16
  have hin118 : ¬ ((0 : Int32) < 0 ∨ cl_c16.slots.size ≤ ((0 : Int32)).toNatClampNeg) := inb_of S_c16 ⟨by decide, by decide⟩
  have hat118 : cl_c16.slots[((0 : Int32)).toNatClampNeg]? = some (.int w7.toInt8.toInt32) := Has.at H_c16 hin118 rfl
  have hin132 : ¬ ((1 : Int32) < 0 ∨ cl_c16.slots.size ≤ ((1 : Int32)).toNatClampNeg) := inb_of S_c16 ⟨by decide, by decide⟩
  have hat132 : cl_c16.slots[((1 : Int32)).toNatClampNeg]? = some (.int w10.toInt8.toInt32) := Has.at H_c16 hin132 rfl
  have Z16 : n0 ≤ T16.heap.size := Nat.le_trans (e15 ▸ Nat.le_trans Z0 K11.1) K16.1
  have N16 := Fr.app N15 N16q
  obtain ⟨_, _, ⟨T18, L18, k18, n18⟩, -, X18, ⟨Lc18, hQ18, l18, y18, z18⟩, st18⟩ := Jvm.LawKit.callS X16 hx (y := (⟨"com/example/cuvette/cuvette/astm/E1381ChecksumPinLaw", "hex", "(I)B"⟩ : MethodName)) hown (mvT hZ (hw _ (List.mem_of_getElem? (i := 12) rfl))) (mvT hZ (hw _ (List.mem_of_getElem? (i := 13) rfl))) (mvT hZ (hw _ (List.mem_of_getElem? (i := 4) rfl))) (mvT hZ (hw _ (List.mem_of_getElem? (i := 14) rfl))) (by decide) (backOf (W := 1) (own_hex l Z a0 hw [] (((((t0 + t1) + t2) + t3) &&& (255 : Int32)) >>> ((4 : Int32) &&& 31)) (w7.toInt8.toInt32) T16.heap n0 Z16 hq1) hZ (hw _ (List.mem_of_getElem? (i := 14) rfl)) (hw _ (List.mem_of_getElem? (i := 4) rfl)) (by decide) (by decide)) (g := (mkF m 123 #[.val (.int p1), .val (.int p2), .val (.int p3), .val (.int p4), .val (.int p5), .val (.int p6), .val (.ref b7), .val (.int ((p5 &&& (2147483647 : Int32)) % (5 : Int32))), .val (.int ((p6 &&& (2147483647 : Int32)) % (5 : Int32))), .val (.int (((t0 + t1) + t2) + t3)), .val (.int ((((t0 + t1) + t2) + t3) &&& (255 : Int32))), .val (.ref c16)] [(.int (((((t0 + t1) + t2) + t3) &&& (255 : Int32)) >>> ((4 : Int32) &&& 31))), (.int (w7.toInt8.toInt32))])) rfl (by rw [hml]; rfl) (argsL := [(.int (((((t0 + t1) + t2) + t3) &&& (255 : Int32)) >>> ((4 : Int32) &&& 31)))]) (rest := [(.int (w7.toInt8.toInt32))]) (lenOf pd_0_2 rfl) rfl (by show 2 * 0 + _ ≤ _; exact Nat.le_of_eq rfl) (hb hby at_123) (fun _ _ => ⟨rfl, rfl, (Nat.le_of_ble_eq_true rfl), (Nat.le_of_ble_eq_true rfl)⟩)
  dsimp only [Pt.U, Pt.locs, Pt.cells, Pt.slots] at X18 l18 y18 z18 st18 hQ18
  subst l18 y18 z18
  obtain ⟨rfl, N18q, e18⟩ := hQ18
  have N18 := Fr.app N16 N18q
  obtain ⟨_, _, ⟨T20, L20, k20, n20⟩, -, X20, ⟨Lc20, hQ20, l20, y20, z20⟩, st20⟩ := Jvm.LawKit.callS X18 hx (y := (⟨"com/example/cuvette/cuvette/astm/E1381ChecksumPinLaw", "hex", "(I)B"⟩ : MethodName)) hown (mvT hZ (hw _ (List.mem_of_getElem? (i := 12) rfl))) (mvT hZ (hw _ (List.mem_of_getElem? (i := 13) rfl))) (mvT hZ (hw _ (List.mem_of_getElem? (i := 4) rfl))) (mvT hZ (hw _ (List.mem_of_getElem? (i := 14) rfl))) (by decide) (backOf (W := 1) (own_hex l Z a0 hw [] (((((t0 + t1) + t2) + t3) &&& (255 : Int32)) &&& (15 : Int32)) (w10.toInt8.toInt32) T18.heap n0 (e18 ▸ Z16) hq2) hZ (hw _ (List.mem_of_getElem? (i := 14) rfl)) (hw _ (List.mem_of_getElem? (i := 4) rfl)) (by decide) (by decide)) (g := (mkF m 138 #[.val (.int p1), .val (.int p2), .val (.int p3), .val (.int p4), .val (.int p5), .val (.int p6), .val (.ref b7), .val (.int ((p5 &&& (2147483647 : Int32)) % (5 : Int32))), .val (.int ((p6 &&& (2147483647 : Int32)) % (5 : Int32))), .val (.int (((t0 + t1) + t2) + t3)), .val (.int ((((t0 + t1) + t2) + t3) &&& (255 : Int32))), .val (.ref c16)] [(.int (((((t0 + t1) + t2) + t3) &&& (255 : Int32)) &&& (15 : Int32))), (.int (w10.toInt8.toInt32))])) rfl (by rw [hml]; rfl) (argsL := [(.int (((((t0 + t1) + t2) + t3) &&& (255 : Int32)) &&& (15 : Int32)))]) (rest := [(.int (w10.toInt8.toInt32))]) (lenOf pd_0_2 rfl) rfl (by show 2 * 0 + _ ≤ _; exact Nat.le_of_eq rfl) (hb hby at_138) (fun _ _ => ⟨rfl, rfl, (Nat.le_of_ble_eq_true rfl), (Nat.le_of_ble_eq_true rfl)⟩)
  dsimp only [Pt.U, Pt.locs, Pt.cells, Pt.slots] at X20 l20 y20 z20 st20 hQ20
  subst l20 y20 z20
  obtain ⟨rfl, N20q, e20⟩ := hQ20
  have N20 := Fr.app N18 N20q
  obtain ⟨fs, hr, hrun, hended, hW, hsame⟩ := X20.leave (v := some (.int (1 : Int32))) (fun h => by rw [Bd.returns] at h; cases h)
  refine ⟨_, _, pre0 _ ?_, hrun, hended, _, _, rfl, ?_, ⟨_, rfl⟩, hW, hsame.mono (by decide) (by decide)⟩
  · show Steps p.tables e below (s₁.setTop (mkF m 0 #[.val (.int p1), .val (.int p2), .val (.int p3), .val (.int p4), .val (.int p5), .val (.int p6), .unset, .unset, .unset, .unset, .unset, .unset] [])) _
    refine XS.iconst X0.here hx rfl (hb hby at_0) ?_
    show Steps p.tables e below (s₁.setTop (mkF m 1 #[.val (.int p1), .val (.int p2), .val (.int p3), .val (.int p4), .val (.int p5), .val (.int p6), .unset, .unset, .unset, .unset, .unset, .unset] [(.int (4 : Int32))])) _
    refine st7 _ ?_
    show Steps p.tables e below (T7.setTop (mkF m 3 #[.val (.int p1), .val (.int p2), .val (.int p3), .val (.int p4), .val (.int p5), .val (.int p6), .unset, .unset, .unset, .unset, .unset, .unset] [(.ref b7)])) _
    refine XS.dup X7.here hx rfl (hb hby at_3) rfl rfl ?_
    show Steps p.tables e below (T7.setTop (mkF m 4 #[.val (.int p1), .val (.int p2), .val (.int p3), .val (.int p4), .val (.int p5), .val (.int p6), .unset, .unset, .unset, .unset, .unset, .unset] [(.ref b7), (.ref b7)])) _
    refine XS.iconst X7.here hx rfl (hb hby at_4) ?_
    show Steps p.tables e below (T7.setTop (mkF m 5 #[.val (.int p1), .val (.int p2), .val (.int p3), .val (.int p4), .val (.int p5), .val (.int p6), .unset, .unset, .unset, .unset, .unset, .unset] [(.int (0 : Int32)), (.ref b7), (.ref b7)])) _
    refine XS.iloadN X7.here hx rfl (hb hby at_5) rfl ?_
    show Steps p.tables e below (T7.setTop (mkF m 6 #[.val (.int p1), .val (.int p2), .val (.int p3), .val (.int p4), .val (.int p5), .val (.int p6), .unset, .unset, .unset, .unset, .unset, .unset] [(.int p1), (.int (0 : Int32)), (.ref b7), (.ref b7)])) _
    refine XS.i2b X7.here hx rfl (hb hby at_6) rfl ?_
    show Steps p.tables e below (T7.setTop (mkF m 7 #[.val (.int p1), .val (.int p2), .val (.int p3), .val (.int p4), .val (.int p5), .val (.int p6), .unset, .unset, .unset, .unset, .unset, .unset] [(.int (p1.toInt8.toInt32)), (.int (0 : Int32)), (.ref b7), (.ref b7)])) _
    refine st8 _ ?_
    show Steps p.tables e below (T8.setTop (mkF m 8 #[.val (.int p1), .val (.int p2), .val (.int p3), .val (.int p4), .val (.int p5), .val (.int p6), .unset, .unset, .unset, .unset, .unset, .unset] [(.ref b7)])) _
    refine XS.dup X8.here hx rfl (hb hby at_8) rfl rfl ?_
    show Steps p.tables e below (T8.setTop (mkF m 9 #[.val (.int p1), .val (.int p2), .val (.int p3), .val (.int p4), .val (.int p5), .val (.int p6), .unset, .unset, .unset, .unset, .unset, .unset] [(.ref b7), (.ref b7)])) _
    refine XS.iconst X8.here hx rfl (hb hby at_9) ?_
    show Steps p.tables e below (T8.setTop (mkF m 10 #[.val (.int p1), .val (.int p2), .val (.int p3), .val (.int p4), .val (.int p5), .val (.int p6), .unset, .unset, .unset, .unset, .unset, .unset] [(.int (1 : Int32)), (.ref b7), (.ref b7)])) _
    refine XS.iloadN X8.here hx rfl (hb hby at_10) rfl ?_
    show Steps p.tables e below (T8.setTop (mkF m 11 #[.val (.int p1), .val (.int p2), .val (.int p3), .val (.int p4), .val (.int p5), .val (.int p6), .unset, .unset, .unset, .unset, .unset, .unset] [(.int p2), (.int (1 : Int32)), (.ref b7), (.ref b7)])) _
    refine XS.i2b X8.here hx rfl (hb hby at_11) rfl ?_
    show Steps p.tables e below (T8.setTop (mkF m 12 #[.val (.int p1), .val (.int p2), .val (.int p3), .val (.int p4), .val (.int p5), .val (.int p6), .unset, .unset, .unset, .unset, .unset, .unset] [(.int (p2.toInt8.toInt32)), (.int (1 : Int32)), (.ref b7), (.ref b7)])) _
    refine st9 _ ?_
    show Steps p.tables e below (T9.setTop (mkF m 13 #[.val (.int p1), .val (.int p2), .val (.int p3), .val (.int p4), .val (.int p5), .val (.int p6), .unset, .unset, .unset, .unset, .unset, .unset] [(.ref b7)])) _
    refine XS.dup X9.here hx rfl (hb hby at_13) rfl rfl ?_
    show Steps p.tables e below (T9.setTop (mkF m 14 #[.val (.int p1), .val (.int p2), .val (.int p3), .val (.int p4), .val (.int p5), .val (.int p6), .unset, .unset, .unset, .unset, .unset, .unset] [(.ref b7), (.ref b7)])) _
    refine XS.iconst X9.here hx rfl (hb hby at_14) ?_
    show Steps p.tables e below (T9.setTop (mkF m 15 #[.val (.int p1), .val (.int p2), .val (.int p3), .val (.int p4), .val (.int p5), .val (.int p6), .unset, .unset, .unset, .unset, .unset, .unset] [(.int (2 : Int32)), (.ref b7), (.ref b7)])) _
    refine XS.iloadN X9.here hx rfl (hb hby at_15) rfl ?_
    show Steps p.tables e below (T9.setTop (mkF m 16 #[.val (.int p1), .val (.int p2), .val (.int p3), .val (.int p4), .val (.int p5), .val (.int p6), .unset, .unset, .unset, .unset, .unset, .unset] [(.int p3), (.int (2 : Int32)), (.ref b7), (.ref b7)])) _
    refine XS.i2b X9.here hx rfl (hb hby at_16) rfl ?_
    show Steps p.tables e below (T9.setTop (mkF m 17 #[.val (.int p1), .val (.int p2), .val (.int p3), .val (.int p4), .val (.int p5), .val (.int p6), .unset, .unset, .unset, .unset, .unset, .unset] [(.int (p3.toInt8.toInt32)), (.int (2 : Int32)), (.ref b7), (.ref b7)])) _
    refine st10 _ ?_
    show Steps p.tables e below (T10.setTop (mkF m 18 #[.val (.int p1), .val (.int p2), .val (.int p3), .val (.int p4), .val (.int p5), .val (.int p6), .unset, .unset, .unset, .unset, .unset, .unset] [(.ref b7)])) _
    refine XS.dup X10.here hx rfl (hb hby at_18) rfl rfl ?_
    show Steps p.tables e below (T10.setTop (mkF m 19 #[.val (.int p1), .val (.int p2), .val (.int p3), .val (.int p4), .val (.int p5), .val (.int p6), .unset, .unset, .unset, .unset, .unset, .unset] [(.ref b7), (.ref b7)])) _
    refine XS.iconst X10.here hx rfl (hb hby at_19) ?_
    show Steps p.tables e below (T10.setTop (mkF m 20 #[.val (.int p1), .val (.int p2), .val (.int p3), .val (.int p4), .val (.int p5), .val (.int p6), .unset, .unset, .unset, .unset, .unset, .unset] [(.int (3 : Int32)), (.ref b7), (.ref b7)])) _
    refine XS.iloadN X10.here hx rfl (hb hby at_20) rfl ?_
    show Steps p.tables e below (T10.setTop (mkF m 21 #[.val (.int p1), .val (.int p2), .val (.int p3), .val (.int p4), .val (.int p5), .val (.int p6), .unset, .unset, .unset, .unset, .unset, .unset] [(.int p4), (.int (3 : Int32)), (.ref b7), (.ref b7)])) _
    refine XS.i2b X10.here hx rfl (hb hby at_21) rfl ?_
    show Steps p.tables e below (T10.setTop (mkF m 22 #[.val (.int p1), .val (.int p2), .val (.int p3), .val (.int p4), .val (.int p5), .val (.int p6), .unset, .unset, .unset, .unset, .unset, .unset] [(.int (p4.toInt8.toInt32)), (.int (3 : Int32)), (.ref b7), (.ref b7)])) _
    refine st11 _ ?_
    show Steps p.tables e below (T11.setTop (mkF m 23 #[.val (.int p1), .val (.int p2), .val (.int p3), .val (.int p4), .val (.int p5), .val (.int p6), .unset, .unset, .unset, .unset, .unset, .unset] [(.ref b7)])) _
    refine XS.astore X11.here hx rfl (hb hby at_23) rfl rfl (l' := #[.val (.int p1), .val (.int p2), .val (.int p3), .val (.int p4), .val (.int p5), .val (.int p6), .val (.ref b7), .unset, .unset, .unset, .unset, .unset]) rfl ?_
    show Steps p.tables e below (T11.setTop (mkF m 25 #[.val (.int p1), .val (.int p2), .val (.int p3), .val (.int p4), .val (.int p5), .val (.int p6), .val (.ref b7), .unset, .unset, .unset, .unset, .unset] [])) _
    refine XS.iload X11.here hx rfl (hb hby at_25) rfl ?_
    show Steps p.tables e below (T11.setTop (mkF m 27 #[.val (.int p1), .val (.int p2), .val (.int p3), .val (.int p4), .val (.int p5), .val (.int p6), .val (.ref b7), .unset, .unset, .unset, .unset, .unset] [(.int p5)])) _
    refine X11.ldcInt hx hown (mvT hZ (hw _ (List.mem_of_getElem? (i := 1) rfl))) (g := (mkF m 27 #[.val (.int p1), .val (.int p2), .val (.int p3), .val (.int p4), .val (.int p5), .val (.int p6), .val (.ref b7), .unset, .unset, .unset, .unset, .unset] [(.int p5)])) rfl (hb hby at_27) _ ?_
    show Steps p.tables e below (T11.setTop (mkF m 29 #[.val (.int p1), .val (.int p2), .val (.int p3), .val (.int p4), .val (.int p5), .val (.int p6), .val (.ref b7), .unset, .unset, .unset, .unset, .unset] [(.int (2147483647 : Int32)), (.int p5)])) _
    refine XS.iand X11.here hx rfl (hb hby at_29) rfl ?_
    show Steps p.tables e below (T11.setTop (mkF m 30 #[.val (.int p1), .val (.int p2), .val (.int p3), .val (.int p4), .val (.int p5), .val (.int p6), .val (.ref b7), .unset, .unset, .unset, .unset, .unset] [(.int (p5 &&& (2147483647 : Int32)))])) _
    refine XS.iconst X11.here hx rfl (hb hby at_30) ?_
    show Steps p.tables e below (T11.setTop (mkF m 31 #[.val (.int p1), .val (.int p2), .val (.int p3), .val (.int p4), .val (.int p5), .val (.int p6), .val (.ref b7), .unset, .unset, .unset, .unset, .unset] [(.int (5 : Int32)), (.int (p5 &&& (2147483647 : Int32)))])) _
    refine iremM X11 hx rfl (hb hby at_31) rfl (by decide) ?_
    show Steps p.tables e below (T11.setTop (mkF m 32 #[.val (.int p1), .val (.int p2), .val (.int p3), .val (.int p4), .val (.int p5), .val (.int p6), .val (.ref b7), .unset, .unset, .unset, .unset, .unset] [(.int ((p5 &&& (2147483647 : Int32)) % (5 : Int32)))])) _
    refine XS.istore X11.here hx rfl (hb hby at_32) rfl (l' := #[.val (.int p1), .val (.int p2), .val (.int p3), .val (.int p4), .val (.int p5), .val (.int p6), .val (.ref b7), .val (.int ((p5 &&& (2147483647 : Int32)) % (5 : Int32))), .unset, .unset, .unset, .unset]) rfl ?_
    show Steps p.tables e below (T11.setTop (mkF m 34 #[.val (.int p1), .val (.int p2), .val (.int p3), .val (.int p4), .val (.int p5), .val (.int p6), .val (.ref b7), .val (.int ((p5 &&& (2147483647 : Int32)) % (5 : Int32))), .unset, .unset, .unset, .unset] [])) _
    refine XS.iload X11.here hx rfl (hb hby at_34) rfl ?_
    show Steps p.tables e below (T11.setTop (mkF m 36 #[.val (.int p1), .val (.int p2), .val (.int p3), .val (.int p4), .val (.int p5), .val (.int p6), .val (.ref b7), .val (.int ((p5 &&& (2147483647 : Int32)) % (5 : Int32))), .unset, .unset, .unset, .unset] [(.int p6)])) _
    refine X11.ldcInt hx hown (mvT hZ (hw _ (List.mem_of_getElem? (i := 1) rfl))) (g := (mkF m 36 #[.val (.int p1), .val (.int p2), .val (.int p3), .val (.int p4), .val (.int p5), .val (.int p6), .val (.ref b7), .val (.int ((p5 &&& (2147483647 : Int32)) % (5 : Int32))), .unset, .unset, .unset, .unset] [(.int p6)])) rfl (hb hby at_36) _ ?_
    show Steps p.tables e below (T11.setTop (mkF m 38 #[.val (.int p1), .val (.int p2), .val (.int p3), .val (.int p4), .val (.int p5), .val (.int p6), .val (.ref b7), .val (.int ((p5 &&& (2147483647 : Int32)) % (5 : Int32))), .unset, .unset, .unset, .unset] [(.int (2147483647 : Int32)), (.int p6)])) _
    refine XS.iand X11.here hx rfl (hb hby at_38) rfl ?_
    show Steps p.tables e below (T11.setTop (mkF m 39 #[.val (.int p1), .val (.int p2), .val (.int p3), .val (.int p4), .val (.int p5), .val (.int p6), .val (.ref b7), .val (.int ((p5 &&& (2147483647 : Int32)) % (5 : Int32))), .unset, .unset, .unset, .unset] [(.int (p6 &&& (2147483647 : Int32)))])) _
    refine XS.iconst X11.here hx rfl (hb hby at_39) ?_
    show Steps p.tables e below (T11.setTop (mkF m 40 #[.val (.int p1), .val (.int p2), .val (.int p3), .val (.int p4), .val (.int p5), .val (.int p6), .val (.ref b7), .val (.int ((p5 &&& (2147483647 : Int32)) % (5 : Int32))), .unset, .unset, .unset, .unset] [(.int (5 : Int32)), (.int (p6 &&& (2147483647 : Int32)))])) _
    refine iremM X11 hx rfl (hb hby at_40) rfl (by decide) ?_
    show Steps p.tables e below (T11.setTop (mkF m 41 #[.val (.int p1), .val (.int p2), .val (.int p3), .val (.int p4), .val (.int p5), .val (.int p6), .val (.ref b7), .val (.int ((p5 &&& (2147483647 : Int32)) % (5 : Int32))), .unset, .unset, .unset, .unset] [(.int ((p6 &&& (2147483647 : Int32)) % (5 : Int32)))])) _
    refine XS.istore X11.here hx rfl (hb hby at_41) rfl (l' := #[.val (.int p1), .val (.int p2), .val (.int p3), .val (.int p4), .val (.int p5), .val (.int p6), .val (.ref b7), .val (.int ((p5 &&& (2147483647 : Int32)) % (5 : Int32))), .val (.int ((p6 &&& (2147483647 : Int32)) % (5 : Int32))), .unset, .unset, .unset]) rfl ?_
    show Steps p.tables e below (T11.setTop (mkF m 43 #[.val (.int p1), .val (.int p2), .val (.int p3), .val (.int p4), .val (.int p5), .val (.int p6), .val (.ref b7), .val (.int ((p5 &&& (2147483647 : Int32)) % (5 : Int32))), .val (.int ((p6 &&& (2147483647 : Int32)) % (5 : Int32))), .unset, .unset, .unset] [])) _
    refine XS.iloadN X11.here hx rfl (hb hby at_43) rfl ?_
    show Steps p.tables e below (T11.setTop (mkF m 44 #[.val (.int p1), .val (.int p2), .val (.int p3), .val (.int p4), .val (.int p5), .val (.int p6), .val (.ref b7), .val (.int ((p5 &&& (2147483647 : Int32)) % (5 : Int32))), .val (.int ((p6 &&& (2147483647 : Int32)) % (5 : Int32))), .unset, .unset, .unset] [(.int p1)])) _
    refine XS.iconst X11.here hx rfl (hb hby at_44) ?_
    show Steps p.tables e below (T11.setTop (mkF m 45 #[.val (.int p1), .val (.int p2), .val (.int p3), .val (.int p4), .val (.int p5), .val (.int p6), .val (.ref b7), .val (.int ((p5 &&& (2147483647 : Int32)) % (5 : Int32))), .val (.int ((p6 &&& (2147483647 : Int32)) % (5 : Int32))), .unset, .unset, .unset] [(.int (0 : Int32)), (.int p1)])) _
    refine XS.iload X11.here hx rfl (hb hby at_45) rfl ?_
    show Steps p.tables e below (T11.setTop (mkF m 47 #[.val (.int p1), .val (.int p2), .val (.int p3), .val (.int p4), .val (.int p5), .val (.int p6), .val (.ref b7), .val (.int ((p5 &&& (2147483647 : Int32)) % (5 : Int32))), .val (.int ((p6 &&& (2147483647 : Int32)) % (5 : Int32))), .unset, .unset, .unset] [(.int ((p5 &&& (2147483647 : Int32)) % (5 : Int32))), (.int (0 : Int32)), (.int p1)])) _
    refine XS.iload X11.here hx rfl (hb hby at_47) rfl ?_
    show Steps p.tables e below (T11.setTop (mkF m 49 #[.val (.int p1), .val (.int p2), .val (.int p3), .val (.int p4), .val (.int p5), .val (.int p6), .val (.ref b7), .val (.int ((p5 &&& (2147483647 : Int32)) % (5 : Int32))), .val (.int ((p6 &&& (2147483647 : Int32)) % (5 : Int32))), .unset, .unset, .unset] [(.int ((p6 &&& (2147483647 : Int32)) % (5 : Int32))), (.int ((p5 &&& (2147483647 : Int32)) % (5 : Int32))), (.int (0 : Int32)), (.int p1)])) _
    refine st12 _ ?_
    show Steps p.tables e below (T12.setTop (mkF m 52 #[.val (.int p1), .val (.int p2), .val (.int p3), .val (.int p4), .val (.int p5), .val (.int p6), .val (.ref b7), .val (.int ((p5 &&& (2147483647 : Int32)) % (5 : Int32))), .val (.int ((p6 &&& (2147483647 : Int32)) % (5 : Int32))), .unset, .unset, .unset] [(.int t0)])) _
    refine XS.iloadN X12.here hx rfl (hb hby at_52) rfl ?_
    show Steps p.tables e below (T12.setTop (mkF m 53 #[.val (.int p1), .val (.int p2), .val (.int p3), .val (.int p4), .val (.int p5), .val (.int p6), .val (.ref b7), .val (.int ((p5 &&& (2147483647 : Int32)) % (5 : Int32))), .val (.int ((p6 &&& (2147483647 : Int32)) % (5 : Int32))), .unset, .unset, .unset] [(.int p2), (.int t0)])) _
    refine XS.iconst X12.here hx rfl (hb hby at_53) ?_
    show Steps p.tables e below (T12.setTop (mkF m 54 #[.val (.int p1), .val (.int p2), .val (.int p3), .val (.int p4), .val (.int p5), .val (.int p6), .val (.ref b7), .val (.int ((p5 &&& (2147483647 : Int32)) % (5 : Int32))), .val (.int ((p6 &&& (2147483647 : Int32)) % (5 : Int32))), .unset, .unset, .unset] [(.int (1 : Int32)), (.int p2), (.int t0)])) _
    refine XS.iload X12.here hx rfl (hb hby at_54) rfl ?_
    show Steps p.tables e below (T12.setTop (mkF m 56 #[.val (.int p1), .val (.int p2), .val (.int p3), .val (.int p4), .val (.int p5), .val (.int p6), .val (.ref b7), .val (.int ((p5 &&& (2147483647 : Int32)) % (5 : Int32))), .val (.int ((p6 &&& (2147483647 : Int32)) % (5 : Int32))), .unset, .unset, .unset] [(.int ((p5 &&& (2147483647 : Int32)) % (5 : Int32))), (.int (1 : Int32)), (.int p2), (.int t0)])) _
    refine XS.iload X12.here hx rfl (hb hby at_56) rfl ?_
    show Steps p.tables e below (T12.setTop (mkF m 58 #[.val (.int p1), .val (.int p2), .val (.int p3), .val (.int p4), .val (.int p5), .val (.int p6), .val (.ref b7), .val (.int ((p5 &&& (2147483647 : Int32)) % (5 : Int32))), .val (.int ((p6 &&& (2147483647 : Int32)) % (5 : Int32))), .unset, .unset, .unset] [(.int ((p6 &&& (2147483647 : Int32)) % (5 : Int32))), (.int ((p5 &&& (2147483647 : Int32)) % (5 : Int32))), (.int (1 : Int32)), (.int p2), (.int t0)])) _
    refine st13 _ ?_
    show Steps p.tables e below (T13.setTop (mkF m 61 #[.val (.int p1), .val (.int p2), .val (.int p3), .val (.int p4), .val (.int p5), .val (.int p6), .val (.ref b7), .val (.int ((p5 &&& (2147483647 : Int32)) % (5 : Int32))), .val (.int ((p6 &&& (2147483647 : Int32)) % (5 : Int32))), .unset, .unset, .unset] [(.int t1), (.int t0)])) _
    refine XS.iadd X13.here hx rfl (hb hby at_61) rfl ?_
    show Steps p.tables e below (T13.setTop (mkF m 62 #[.val (.int p1), .val (.int p2), .val (.int p3), .val (.int p4), .val (.int p5), .val (.int p6), .val (.ref b7), .val (.int ((p5 &&& (2147483647 : Int32)) % (5 : Int32))), .val (.int ((p6 &&& (2147483647 : Int32)) % (5 : Int32))), .unset, .unset, .unset] [(.int (t0 + t1))])) _
    refine XS.iloadN X13.here hx rfl (hb hby at_62) rfl ?_
    show Steps p.tables e below (T13.setTop (mkF m 63 #[.val (.int p1), .val (.int p2), .val (.int p3), .val (.int p4), .val (.int p5), .val (.int p6), .val (.ref b7), .val (.int ((p5 &&& (2147483647 : Int32)) % (5 : Int32))), .val (.int ((p6 &&& (2147483647 : Int32)) % (5 : Int32))), .unset, .unset, .unset] [(.int p3), (.int (t0 + t1))])) _
    refine XS.iconst X13.here hx rfl (hb hby at_63) ?_
    show Steps p.tables e below (T13.setTop (mkF m 64 #[.val (.int p1), .val (.int p2), .val (.int p3), .val (.int p4), .val (.int p5), .val (.int p6), .val (.ref b7), .val (.int ((p5 &&& (2147483647 : Int32)) % (5 : Int32))), .val (.int ((p6 &&& (2147483647 : Int32)) % (5 : Int32))), .unset, .unset, .unset] [(.int (2 : Int32)), (.int p3), (.int (t0 + t1))])) _
    refine XS.iload X13.here hx rfl (hb hby at_64) rfl ?_
    show Steps p.tables e below (T13.setTop (mkF m 66 #[.val (.int p1), .val (.int p2), .val (.int p3), .val (.int p4), .val (.int p5), .val (.int p6), .val (.ref b7), .val (.int ((p5 &&& (2147483647 : Int32)) % (5 : Int32))), .val (.int ((p6 &&& (2147483647 : Int32)) % (5 : Int32))), .unset, .unset, .unset] [(.int ((p5 &&& (2147483647 : Int32)) % (5 : Int32))), (.int (2 : Int32)), (.int p3), (.int (t0 + t1))])) _
    refine XS.iload X13.here hx rfl (hb hby at_66) rfl ?_
    show Steps p.tables e below (T13.setTop (mkF m 68 #[.val (.int p1), .val (.int p2), .val (.int p3), .val (.int p4), .val (.int p5), .val (.int p6), .val (.ref b7), .val (.int ((p5 &&& (2147483647 : Int32)) % (5 : Int32))), .val (.int ((p6 &&& (2147483647 : Int32)) % (5 : Int32))), .unset, .unset, .unset] [(.int ((p6 &&& (2147483647 : Int32)) % (5 : Int32))), (.int ((p5 &&& (2147483647 : Int32)) % (5 : Int32))), (.int (2 : Int32)), (.int p3), (.int (t0 + t1))])) _
    refine st14 _ ?_
    show Steps p.tables e below (T14.setTop (mkF m 71 #[.val (.int p1), .val (.int p2), .val (.int p3), .val (.int p4), .val (.int p5), .val (.int p6), .val (.ref b7), .val (.int ((p5 &&& (2147483647 : Int32)) % (5 : Int32))), .val (.int ((p6 &&& (2147483647 : Int32)) % (5 : Int32))), .unset, .unset, .unset] [(.int t2), (.int (t0 + t1))])) _
    refine XS.iadd X14.here hx rfl (hb hby at_71) rfl ?_
    show Steps p.tables e below (T14.setTop (mkF m 72 #[.val (.int p1), .val (.int p2), .val (.int p3), .val (.int p4), .val (.int p5), .val (.int p6), .val (.ref b7), .val (.int ((p5 &&& (2147483647 : Int32)) % (5 : Int32))), .val (.int ((p6 &&& (2147483647 : Int32)) % (5 : Int32))), .unset, .unset, .unset] [(.int ((t0 + t1) + t2))])) _
    refine XS.iloadN X14.here hx rfl (hb hby at_72) rfl ?_
    show Steps p.tables e below (T14.setTop (mkF m 73 #[.val (.int p1), .val (.int p2), .val (.int p3), .val (.int p4), .val (.int p5), .val (.int p6), .val (.ref b7), .val (.int ((p5 &&& (2147483647 : Int32)) % (5 : Int32))), .val (.int ((p6 &&& (2147483647 : Int32)) % (5 : Int32))), .unset, .unset, .unset] [(.int p4), (.int ((t0 + t1) + t2))])) _
    refine XS.iconst X14.here hx rfl (hb hby at_73) ?_
    show Steps p.tables e below (T14.setTop (mkF m 74 #[.val (.int p1), .val (.int p2), .val (.int p3), .val (.int p4), .val (.int p5), .val (.int p6), .val (.ref b7), .val (.int ((p5 &&& (2147483647 : Int32)) % (5 : Int32))), .val (.int ((p6 &&& (2147483647 : Int32)) % (5 : Int32))), .unset, .unset, .unset] [(.int (3 : Int32)), (.int p4), (.int ((t0 + t1) + t2))])) _
    refine XS.iload X14.here hx rfl (hb hby at_74) rfl ?_
    show Steps p.tables e below (T14.setTop (mkF m 76 #[.val (.int p1), .val (.int p2), .val (.int p3), .val (.int p4), .val (.int p5), .val (.int p6), .val (.ref b7), .val (.int ((p5 &&& (2147483647 : Int32)) % (5 : Int32))), .val (.int ((p6 &&& (2147483647 : Int32)) % (5 : Int32))), .unset, .unset, .unset] [(.int ((p5 &&& (2147483647 : Int32)) % (5 : Int32))), (.int (3 : Int32)), (.int p4), (.int ((t0 + t1) + t2))])) _
    refine XS.iload X14.here hx rfl (hb hby at_76) rfl ?_
    show Steps p.tables e below (T14.setTop (mkF m 78 #[.val (.int p1), .val (.int p2), .val (.int p3), .val (.int p4), .val (.int p5), .val (.int p6), .val (.ref b7), .val (.int ((p5 &&& (2147483647 : Int32)) % (5 : Int32))), .val (.int ((p6 &&& (2147483647 : Int32)) % (5 : Int32))), .unset, .unset, .unset] [(.int ((p6 &&& (2147483647 : Int32)) % (5 : Int32))), (.int ((p5 &&& (2147483647 : Int32)) % (5 : Int32))), (.int (3 : Int32)), (.int p4), (.int ((t0 + t1) + t2))])) _
    refine st15 _ ?_
    show Steps p.tables e below (T15.setTop (mkF m 81 #[.val (.int p1), .val (.int p2), .val (.int p3), .val (.int p4), .val (.int p5), .val (.int p6), .val (.ref b7), .val (.int ((p5 &&& (2147483647 : Int32)) % (5 : Int32))), .val (.int ((p6 &&& (2147483647 : Int32)) % (5 : Int32))), .unset, .unset, .unset] [(.int t3), (.int ((t0 + t1) + t2))])) _
    refine XS.iadd X15.here hx rfl (hb hby at_81) rfl ?_
    show Steps p.tables e below (T15.setTop (mkF m 82 #[.val (.int p1), .val (.int p2), .val (.int p3), .val (.int p4), .val (.int p5), .val (.int p6), .val (.ref b7), .val (.int ((p5 &&& (2147483647 : Int32)) % (5 : Int32))), .val (.int ((p6 &&& (2147483647 : Int32)) % (5 : Int32))), .unset, .unset, .unset] [(.int (((t0 + t1) + t2) + t3))])) _
    refine XS.istore X15.here hx rfl (hb hby at_82) rfl (l' := #[.val (.int p1), .val (.int p2), .val (.int p3), .val (.int p4), .val (.int p5), .val (.int p6), .val (.ref b7), .val (.int ((p5 &&& (2147483647 : Int32)) % (5 : Int32))), .val (.int ((p6 &&& (2147483647 : Int32)) % (5 : Int32))), .val (.int (((t0 + t1) + t2) + t3)), .unset, .unset]) rfl ?_
    show Steps p.tables e below (T15.setTop (mkF m 84 #[.val (.int p1), .val (.int p2), .val (.int p3), .val (.int p4), .val (.int p5), .val (.int p6), .val (.ref b7), .val (.int ((p5 &&& (2147483647 : Int32)) % (5 : Int32))), .val (.int ((p6 &&& (2147483647 : Int32)) % (5 : Int32))), .val (.int (((t0 + t1) + t2) + t3)), .unset, .unset] [])) _
    refine XS.iload X15.here hx rfl (hb hby at_84) rfl ?_
    show Steps p.tables e below (T15.setTop (mkF m 86 #[.val (.int p1), .val (.int p2), .val (.int p3), .val (.int p4), .val (.int p5), .val (.int p6), .val (.ref b7), .val (.int ((p5 &&& (2147483647 : Int32)) % (5 : Int32))), .val (.int ((p6 &&& (2147483647 : Int32)) % (5 : Int32))), .val (.int (((t0 + t1) + t2) + t3)), .unset, .unset] [(.int (((t0 + t1) + t2) + t3))])) _
    refine XS.sipush X15.here hx rfl (hb hby at_86) ?_
    show Steps p.tables e below (T15.setTop (mkF m 89 #[.val (.int p1), .val (.int p2), .val (.int p3), .val (.int p4), .val (.int p5), .val (.int p6), .val (.ref b7), .val (.int ((p5 &&& (2147483647 : Int32)) % (5 : Int32))), .val (.int ((p6 &&& (2147483647 : Int32)) % (5 : Int32))), .val (.int (((t0 + t1) + t2) + t3)), .unset, .unset] [(.int (255 : Int32)), (.int (((t0 + t1) + t2) + t3))])) _
    refine XS.iand X15.here hx rfl (hb hby at_89) rfl ?_
    show Steps p.tables e below (T15.setTop (mkF m 90 #[.val (.int p1), .val (.int p2), .val (.int p3), .val (.int p4), .val (.int p5), .val (.int p6), .val (.ref b7), .val (.int ((p5 &&& (2147483647 : Int32)) % (5 : Int32))), .val (.int ((p6 &&& (2147483647 : Int32)) % (5 : Int32))), .val (.int (((t0 + t1) + t2) + t3)), .unset, .unset] [(.int ((((t0 + t1) + t2) + t3) &&& (255 : Int32)))])) _
    refine XS.istore X15.here hx rfl (hb hby at_90) rfl (l' := #[.val (.int p1), .val (.int p2), .val (.int p3), .val (.int p4), .val (.int p5), .val (.int p6), .val (.ref b7), .val (.int ((p5 &&& (2147483647 : Int32)) % (5 : Int32))), .val (.int ((p6 &&& (2147483647 : Int32)) % (5 : Int32))), .val (.int (((t0 + t1) + t2) + t3)), .val (.int ((((t0 + t1) + t2) + t3) &&& (255 : Int32))), .unset]) rfl ?_
    show Steps p.tables e below (T15.setTop (mkF m 92 #[.val (.int p1), .val (.int p2), .val (.int p3), .val (.int p4), .val (.int p5), .val (.int p6), .val (.ref b7), .val (.int ((p5 &&& (2147483647 : Int32)) % (5 : Int32))), .val (.int ((p6 &&& (2147483647 : Int32)) % (5 : Int32))), .val (.int (((t0 + t1) + t2) + t3)), .val (.int ((((t0 + t1) + t2) + t3) &&& (255 : Int32))), .unset] [])) _
    refine XS.aload X15.here hx rfl (hb hby at_92) rfl rfl ?_
    show Steps p.tables e below (T15.setTop (mkF m 94 #[.val (.int p1), .val (.int p2), .val (.int p3), .val (.int p4), .val (.int p5), .val (.int p6), .val (.ref b7), .val (.int ((p5 &&& (2147483647 : Int32)) % (5 : Int32))), .val (.int ((p6 &&& (2147483647 : Int32)) % (5 : Int32))), .val (.int (((t0 + t1) + t2) + t3)), .val (.int ((((t0 + t1) + t2) + t3) &&& (255 : Int32))), .unset] [(.ref b7)])) _
    refine XS.iload X15.here hx rfl (hb hby at_94) rfl ?_
    show Steps p.tables e below (T15.setTop (mkF m 96 #[.val (.int p1), .val (.int p2), .val (.int p3), .val (.int p4), .val (.int p5), .val (.int p6), .val (.ref b7), .val (.int ((p5 &&& (2147483647 : Int32)) % (5 : Int32))), .val (.int ((p6 &&& (2147483647 : Int32)) % (5 : Int32))), .val (.int (((t0 + t1) + t2) + t3)), .val (.int ((((t0 + t1) + t2) + t3) &&& (255 : Int32))), .unset] [(.int ((p5 &&& (2147483647 : Int32)) % (5 : Int32))), (.ref b7)])) _
    refine XS.iload X15.here hx rfl (hb hby at_96) rfl ?_
    show Steps p.tables e below (T15.setTop (mkF m 98 #[.val (.int p1), .val (.int p2), .val (.int p3), .val (.int p4), .val (.int p5), .val (.int p6), .val (.ref b7), .val (.int ((p5 &&& (2147483647 : Int32)) % (5 : Int32))), .val (.int ((p6 &&& (2147483647 : Int32)) % (5 : Int32))), .val (.int (((t0 + t1) + t2) + t3)), .val (.int ((((t0 + t1) + t2) + t3) &&& (255 : Int32))), .unset] [(.int ((p6 &&& (2147483647 : Int32)) % (5 : Int32))), (.int ((p5 &&& (2147483647 : Int32)) % (5 : Int32))), (.ref b7)])) _
    refine st16 _ ?_
    show Steps p.tables e below (T16.setTop (mkF m 101 #[.val (.int p1), .val (.int p2), .val (.int p3), .val (.int p4), .val (.int p5), .val (.int p6), .val (.ref b7), .val (.int ((p5 &&& (2147483647 : Int32)) % (5 : Int32))), .val (.int ((p6 &&& (2147483647 : Int32)) % (5 : Int32))), .val (.int (((t0 + t1) + t2) + t3)), .val (.int ((((t0 + t1) + t2) + t3) &&& (255 : Int32))), .unset] [(.ref c16)])) _
    refine XS.astore X16.here hx rfl (hb hby at_101) rfl rfl (l' := #[.val (.int p1), .val (.int p2), .val (.int p3), .val (.int p4), .val (.int p5), .val (.int p6), .val (.ref b7), .val (.int ((p5 &&& (2147483647 : Int32)) % (5 : Int32))), .val (.int ((p6 &&& (2147483647 : Int32)) % (5 : Int32))), .val (.int (((t0 + t1) + t2) + t3)), .val (.int ((((t0 + t1) + t2) + t3) &&& (255 : Int32))), .val (.ref c16)]) rfl ?_
    show Steps p.tables e below (T16.setTop (mkF m 103 #[.val (.int p1), .val (.int p2), .val (.int p3), .val (.int p4), .val (.int p5), .val (.int p6), .val (.ref b7), .val (.int ((p5 &&& (2147483647 : Int32)) % (5 : Int32))), .val (.int ((p6 &&& (2147483647 : Int32)) % (5 : Int32))), .val (.int (((t0 + t1) + t2) + t3)), .val (.int ((((t0 + t1) + t2) + t3) &&& (255 : Int32))), .val (.ref c16)] [])) _
    refine XS.aload X16.here hx rfl (hb hby at_103) rfl rfl ?_
    show Steps p.tables e below (T16.setTop (mkF m 105 #[.val (.int p1), .val (.int p2), .val (.int p3), .val (.int p4), .val (.int p5), .val (.int p6), .val (.ref b7), .val (.int ((p5 &&& (2147483647 : Int32)) % (5 : Int32))), .val (.int ((p6 &&& (2147483647 : Int32)) % (5 : Int32))), .val (.int (((t0 + t1) + t2) + t3)), .val (.int ((((t0 + t1) + t2) + t3) &&& (255 : Int32))), .val (.ref c16)] [(.ref c16)])) _
    refine XS.ifnullNo X16.here hx rfl (hb hby at_105) rfl ?_
    show Steps p.tables e below (T16.setTop (mkF m 108 #[.val (.int p1), .val (.int p2), .val (.int p3), .val (.int p4), .val (.int p5), .val (.int p6), .val (.ref b7), .val (.int ((p5 &&& (2147483647 : Int32)) % (5 : Int32))), .val (.int ((p6 &&& (2147483647 : Int32)) % (5 : Int32))), .val (.int (((t0 + t1) + t2) + t3)), .val (.int ((((t0 + t1) + t2) + t3) &&& (255 : Int32))), .val (.ref c16)] [])) _
    refine XS.aload X16.here hx rfl (hb hby at_108) rfl rfl ?_
    show Steps p.tables e below (T16.setTop (mkF m 110 #[.val (.int p1), .val (.int p2), .val (.int p3), .val (.int p4), .val (.int p5), .val (.int p6), .val (.ref b7), .val (.int ((p5 &&& (2147483647 : Int32)) % (5 : Int32))), .val (.int ((p6 &&& (2147483647 : Int32)) % (5 : Int32))), .val (.int (((t0 + t1) + t2) + t3)), .val (.int ((((t0 + t1) + t2) + t3) &&& (255 : Int32))), .val (.ref c16)] [(.ref c16)])) _
    refine X16.arraylength hx Ar_c16.1 (State.isArrayOf_alike hZ.alike Ar_c16.2.1) (g := (mkF m 110 #[.val (.int p1), .val (.int p2), .val (.int p3), .val (.int p4), .val (.int p5), .val (.int p6), .val (.ref b7), .val (.int ((p5 &&& (2147483647 : Int32)) % (5 : Int32))), .val (.int ((p6 &&& (2147483647 : Int32)) % (5 : Int32))), .val (.int (((t0 + t1) + t2) + t3)), .val (.int ((((t0 + t1) + t2) + t3) &&& (255 : Int32))), .val (.ref c16)] [(.ref c16)])) rfl rfl (hb hby at_110) _ ?_
    rw [len_of S_c16 N_c16]
    show Steps p.tables e below (T16.setTop (mkF m 111 #[.val (.int p1), .val (.int p2), .val (.int p3), .val (.int p4), .val (.int p5), .val (.int p6), .val (.ref b7), .val (.int ((p5 &&& (2147483647 : Int32)) % (5 : Int32))), .val (.int ((p6 &&& (2147483647 : Int32)) % (5 : Int32))), .val (.int (((t0 + t1) + t2) + t3)), .val (.int ((((t0 + t1) + t2) + t3) &&& (255 : Int32))), .val (.ref c16)] [(.int (2 : Int32))])) _
    refine XS.iconst X16.here hx rfl (hb hby at_111) ?_
    show Steps p.tables e below (T16.setTop (mkF m 112 #[.val (.int p1), .val (.int p2), .val (.int p3), .val (.int p4), .val (.int p5), .val (.int p6), .val (.ref b7), .val (.int ((p5 &&& (2147483647 : Int32)) % (5 : Int32))), .val (.int ((p6 &&& (2147483647 : Int32)) % (5 : Int32))), .val (.int (((t0 + t1) + t2) + t3)), .val (.int ((((t0 + t1) + t2) + t3) &&& (255 : Int32))), .val (.ref c16)] [(.int (2 : Int32)), (.int (2 : Int32))])) _
    refine XS.icmpNo X16.here hx rfl (hb hby at_112) rfl (teq (rfl : (2 : Int32) = (2 : Int32))).2 ?_
    show Steps p.tables e below (T16.setTop (mkF m 115 #[.val (.int p1), .val (.int p2), .val (.int p3), .val (.int p4), .val (.int p5), .val (.int p6), .val (.ref b7), .val (.int ((p5 &&& (2147483647 : Int32)) % (5 : Int32))), .val (.int ((p6 &&& (2147483647 : Int32)) % (5 : Int32))), .val (.int (((t0 + t1) + t2) + t3)), .val (.int ((((t0 + t1) + t2) + t3) &&& (255 : Int32))), .val (.ref c16)] [])) _
    refine XS.aload X16.here hx rfl (hb hby at_115) rfl rfl ?_
    show Steps p.tables e below (T16.setTop (mkF m 117 #[.val (.int p1), .val (.int p2), .val (.int p3), .val (.int p4), .val (.int p5), .val (.int p6), .val (.ref b7), .val (.int ((p5 &&& (2147483647 : Int32)) % (5 : Int32))), .val (.int ((p6 &&& (2147483647 : Int32)) % (5 : Int32))), .val (.int (((t0 + t1) + t2) + t3)), .val (.int ((((t0 + t1) + t2) + t3) &&& (255 : Int32))), .val (.ref c16)] [(.ref c16)])) _
    refine XS.iconst X16.here hx rfl (hb hby at_117) ?_
    show Steps p.tables e below (T16.setTop (mkF m 118 #[.val (.int p1), .val (.int p2), .val (.int p3), .val (.int p4), .val (.int p5), .val (.int p6), .val (.ref b7), .val (.int ((p5 &&& (2147483647 : Int32)) % (5 : Int32))), .val (.int ((p6 &&& (2147483647 : Int32)) % (5 : Int32))), .val (.int (((t0 + t1) + t2) + t3)), .val (.int ((((t0 + t1) + t2) + t3) &&& (255 : Int32))), .val (.ref c16)] [(.int (0 : Int32)), (.ref c16)])) _
    refine X16.baloadBytes hx (j := (0 : Int32)) (v := (.int (w7.toInt8.toInt32))) Ar_c16.1 (State.isArrayOf_alike hZ.alike Ar_c16.2.1) Ar_c16.2.2 hin118 hat118 (g := (mkF m 118 #[.val (.int p1), .val (.int p2), .val (.int p3), .val (.int p4), .val (.int p5), .val (.int p6), .val (.ref b7), .val (.int ((p5 &&& (2147483647 : Int32)) % (5 : Int32))), .val (.int ((p6 &&& (2147483647 : Int32)) % (5 : Int32))), .val (.int (((t0 + t1) + t2) + t3)), .val (.int ((((t0 + t1) + t2) + t3) &&& (255 : Int32))), .val (.ref c16)] [(.int (0 : Int32)), (.ref c16)])) rfl rfl (hb hby at_118) _ ?_
    show Steps p.tables e below (T16.setTop (mkF m 119 #[.val (.int p1), .val (.int p2), .val (.int p3), .val (.int p4), .val (.int p5), .val (.int p6), .val (.ref b7), .val (.int ((p5 &&& (2147483647 : Int32)) % (5 : Int32))), .val (.int ((p6 &&& (2147483647 : Int32)) % (5 : Int32))), .val (.int (((t0 + t1) + t2) + t3)), .val (.int ((((t0 + t1) + t2) + t3) &&& (255 : Int32))), .val (.ref c16)] [(.int (w7.toInt8.toInt32))])) _
    refine XS.iload X16.here hx rfl (hb hby at_119) rfl ?_
    show Steps p.tables e below (T16.setTop (mkF m 121 #[.val (.int p1), .val (.int p2), .val (.int p3), .val (.int p4), .val (.int p5), .val (.int p6), .val (.ref b7), .val (.int ((p5 &&& (2147483647 : Int32)) % (5 : Int32))), .val (.int ((p6 &&& (2147483647 : Int32)) % (5 : Int32))), .val (.int (((t0 + t1) + t2) + t3)), .val (.int ((((t0 + t1) + t2) + t3) &&& (255 : Int32))), .val (.ref c16)] [(.int ((((t0 + t1) + t2) + t3) &&& (255 : Int32))), (.int (w7.toInt8.toInt32))])) _
    refine XS.iconst X16.here hx rfl (hb hby at_121) ?_
    show Steps p.tables e below (T16.setTop (mkF m 122 #[.val (.int p1), .val (.int p2), .val (.int p3), .val (.int p4), .val (.int p5), .val (.int p6), .val (.ref b7), .val (.int ((p5 &&& (2147483647 : Int32)) % (5 : Int32))), .val (.int ((p6 &&& (2147483647 : Int32)) % (5 : Int32))), .val (.int (((t0 + t1) + t2) + t3)), .val (.int ((((t0 + t1) + t2) + t3) &&& (255 : Int32))), .val (.ref c16)] [(.int (4 : Int32)), (.int ((((t0 + t1) + t2) + t3) &&& (255 : Int32))), (.int (w7.toInt8.toInt32))])) _
    refine XS.ishr X16.here hx rfl (hb hby at_122) rfl ?_
    show Steps p.tables e below (T16.setTop (mkF m 123 #[.val (.int p1), .val (.int p2), .val (.int p3), .val (.int p4), .val (.int p5), .val (.int p6), .val (.ref b7), .val (.int ((p5 &&& (2147483647 : Int32)) % (5 : Int32))), .val (.int ((p6 &&& (2147483647 : Int32)) % (5 : Int32))), .val (.int (((t0 + t1) + t2) + t3)), .val (.int ((((t0 + t1) + t2) + t3) &&& (255 : Int32))), .val (.ref c16)] [(.int (((((t0 + t1) + t2) + t3) &&& (255 : Int32)) >>> ((4 : Int32) &&& 31))), (.int (w7.toInt8.toInt32))])) _
    refine st18 _ ?_
    show Steps p.tables e below (T18.setTop (mkF m 126 #[.val (.int p1), .val (.int p2), .val (.int p3), .val (.int p4), .val (.int p5), .val (.int p6), .val (.ref b7), .val (.int ((p5 &&& (2147483647 : Int32)) % (5 : Int32))), .val (.int ((p6 &&& (2147483647 : Int32)) % (5 : Int32))), .val (.int (((t0 + t1) + t2) + t3)), .val (.int ((((t0 + t1) + t2) + t3) &&& (255 : Int32))), .val (.ref c16)] [(.int (w7.toInt8.toInt32)), (.int (w7.toInt8.toInt32))])) _
    refine XS.icmpNo X18.here hx rfl (hb hby at_126) rfl (teq (rfl : (w7.toInt8.toInt32) = (w7.toInt8.toInt32))).2 ?_
    show Steps p.tables e below (T18.setTop (mkF m 129 #[.val (.int p1), .val (.int p2), .val (.int p3), .val (.int p4), .val (.int p5), .val (.int p6), .val (.ref b7), .val (.int ((p5 &&& (2147483647 : Int32)) % (5 : Int32))), .val (.int ((p6 &&& (2147483647 : Int32)) % (5 : Int32))), .val (.int (((t0 + t1) + t2) + t3)), .val (.int ((((t0 + t1) + t2) + t3) &&& (255 : Int32))), .val (.ref c16)] [])) _
    refine XS.aload X18.here hx rfl (hb hby at_129) rfl rfl ?_
    show Steps p.tables e below (T18.setTop (mkF m 131 #[.val (.int p1), .val (.int p2), .val (.int p3), .val (.int p4), .val (.int p5), .val (.int p6), .val (.ref b7), .val (.int ((p5 &&& (2147483647 : Int32)) % (5 : Int32))), .val (.int ((p6 &&& (2147483647 : Int32)) % (5 : Int32))), .val (.int (((t0 + t1) + t2) + t3)), .val (.int ((((t0 + t1) + t2) + t3) &&& (255 : Int32))), .val (.ref c16)] [(.ref c16)])) _
    refine XS.iconst X18.here hx rfl (hb hby at_131) ?_
    show Steps p.tables e below (T18.setTop (mkF m 132 #[.val (.int p1), .val (.int p2), .val (.int p3), .val (.int p4), .val (.int p5), .val (.int p6), .val (.ref b7), .val (.int ((p5 &&& (2147483647 : Int32)) % (5 : Int32))), .val (.int ((p6 &&& (2147483647 : Int32)) % (5 : Int32))), .val (.int (((t0 + t1) + t2) + t3)), .val (.int ((((t0 + t1) + t2) + t3) &&& (255 : Int32))), .val (.ref c16)] [(.int (1 : Int32)), (.ref c16)])) _
    refine X18.baloadBytes hx (j := (1 : Int32)) (v := (.int (w10.toInt8.toInt32))) (by rw [e18]; exact Ar_c16.1) (State.isArrayOf_alike hZ.alike Ar_c16.2.1) Ar_c16.2.2 hin132 hat132 (g := (mkF m 132 #[.val (.int p1), .val (.int p2), .val (.int p3), .val (.int p4), .val (.int p5), .val (.int p6), .val (.ref b7), .val (.int ((p5 &&& (2147483647 : Int32)) % (5 : Int32))), .val (.int ((p6 &&& (2147483647 : Int32)) % (5 : Int32))), .val (.int (((t0 + t1) + t2) + t3)), .val (.int ((((t0 + t1) + t2) + t3) &&& (255 : Int32))), .val (.ref c16)] [(.int (1 : Int32)), (.ref c16)])) rfl rfl (hb hby at_132) _ ?_
    show Steps p.tables e below (T18.setTop (mkF m 133 #[.val (.int p1), .val (.int p2), .val (.int p3), .val (.int p4), .val (.int p5), .val (.int p6), .val (.ref b7), .val (.int ((p5 &&& (2147483647 : Int32)) % (5 : Int32))), .val (.int ((p6 &&& (2147483647 : Int32)) % (5 : Int32))), .val (.int (((t0 + t1) + t2) + t3)), .val (.int ((((t0 + t1) + t2) + t3) &&& (255 : Int32))), .val (.ref c16)] [(.int (w10.toInt8.toInt32))])) _
    refine XS.iload X18.here hx rfl (hb hby at_133) rfl ?_
    show Steps p.tables e below (T18.setTop (mkF m 135 #[.val (.int p1), .val (.int p2), .val (.int p3), .val (.int p4), .val (.int p5), .val (.int p6), .val (.ref b7), .val (.int ((p5 &&& (2147483647 : Int32)) % (5 : Int32))), .val (.int ((p6 &&& (2147483647 : Int32)) % (5 : Int32))), .val (.int (((t0 + t1) + t2) + t3)), .val (.int ((((t0 + t1) + t2) + t3) &&& (255 : Int32))), .val (.ref c16)] [(.int ((((t0 + t1) + t2) + t3) &&& (255 : Int32))), (.int (w10.toInt8.toInt32))])) _
    refine XS.bipush X18.here hx rfl (hb hby at_135) ?_
    show Steps p.tables e below (T18.setTop (mkF m 137 #[.val (.int p1), .val (.int p2), .val (.int p3), .val (.int p4), .val (.int p5), .val (.int p6), .val (.ref b7), .val (.int ((p5 &&& (2147483647 : Int32)) % (5 : Int32))), .val (.int ((p6 &&& (2147483647 : Int32)) % (5 : Int32))), .val (.int (((t0 + t1) + t2) + t3)), .val (.int ((((t0 + t1) + t2) + t3) &&& (255 : Int32))), .val (.ref c16)] [(.int (15 : Int32)), (.int ((((t0 + t1) + t2) + t3) &&& (255 : Int32))), (.int (w10.toInt8.toInt32))])) _
    refine XS.iand X18.here hx rfl (hb hby at_137) rfl ?_
    show Steps p.tables e below (T18.setTop (mkF m 138 #[.val (.int p1), .val (.int p2), .val (.int p3), .val (.int p4), .val (.int p5), .val (.int p6), .val (.ref b7), .val (.int ((p5 &&& (2147483647 : Int32)) % (5 : Int32))), .val (.int ((p6 &&& (2147483647 : Int32)) % (5 : Int32))), .val (.int (((t0 + t1) + t2) + t3)), .val (.int ((((t0 + t1) + t2) + t3) &&& (255 : Int32))), .val (.ref c16)] [(.int (((((t0 + t1) + t2) + t3) &&& (255 : Int32)) &&& (15 : Int32))), (.int (w10.toInt8.toInt32))])) _
    refine st20 _ ?_
    show Steps p.tables e below (T20.setTop (mkF m 141 #[.val (.int p1), .val (.int p2), .val (.int p3), .val (.int p4), .val (.int p5), .val (.int p6), .val (.ref b7), .val (.int ((p5 &&& (2147483647 : Int32)) % (5 : Int32))), .val (.int ((p6 &&& (2147483647 : Int32)) % (5 : Int32))), .val (.int (((t0 + t1) + t2) + t3)), .val (.int ((((t0 + t1) + t2) + t3) &&& (255 : Int32))), .val (.ref c16)] [(.int (w10.toInt8.toInt32)), (.int (w10.toInt8.toInt32))])) _
    refine XS.icmpNo X20.here hx rfl (hb hby at_141) rfl (teq (rfl : (w10.toInt8.toInt32) = (w10.toInt8.toInt32))).2 ?_
    show Steps p.tables e below (T20.setTop (mkF m 144 #[.val (.int p1), .val (.int p2), .val (.int p3), .val (.int p4), .val (.int p5), .val (.int p6), .val (.ref b7), .val (.int ((p5 &&& (2147483647 : Int32)) % (5 : Int32))), .val (.int ((p6 &&& (2147483647 : Int32)) % (5 : Int32))), .val (.int (((t0 + t1) + t2) + t3)), .val (.int ((((t0 + t1) + t2) + t3) &&& (255 : Int32))), .val (.ref c16)] [])) _
    refine XS.iconst X20.here hx rfl (hb hby at_144) ?_
    show Steps p.tables e below (T20.setTop (mkF m 145 #[.val (.int p1), .val (.int p2), .val (.int p3), .val (.int p4), .val (.int p5), .val (.int p6), .val (.ref b7), .val (.int ((p5 &&& (2147483647 : Int32)) % (5 : Int32))), .val (.int ((p6 &&& (2147483647 : Int32)) % (5 : Int32))), .val (.int (((t0 + t1) + t2) + t3)), .val (.int ((((t0 + t1) + t2) + t3) &&& (255 : Int32))), .val (.ref c16)] [(.int (1 : Int32))])) _
    refine XS.goto X20.here hx rfl (pc0 := 145) (pc' := 149) rfl (hb hby at_145) (by decide) (by decide) ?_
    show Steps p.tables e below (T20.setTop (mkF m 149 #[.val (.int p1), .val (.int p2), .val (.int p3), .val (.int p4), .val (.int p5), .val (.int p6), .val (.ref b7), .val (.int ((p5 &&& (2147483647 : Int32)) % (5 : Int32))), .val (.int ((p6 &&& (2147483647 : Int32)) % (5 : Int32))), .val (.int (((t0 + t1) + t2) + t3)), .val (.int ((((t0 + t1) + t2) + t3) &&& (255 : Int32))), .val (.ref c16)] [(.int (1 : Int32))])) _
    exact retN X20 hx (t := .boolean) Bd.returns (by simp) (hb hby at_149) hr
  · show Q0 Z p1 p2 p3 p4 p5 p6 h0 n0 _ T20.heap _
    exact ⟨rfl, N20⟩
theorem own_n8 (x : Int32) : (x.toInt8.toInt32 &&& (255 : Int32)) = (x &&& (255 : Int32)) := by
  have e1 : (x &&& (255 : Int32)).toInt = x.toInt % 2 ^ 8 := Jvm.Kit.i32_mask x 255 (k := 8) (by decide) (by decide)
  have e2 : (x.toInt8.toInt32 &&& (255 : Int32)).toInt = x.toInt8.toInt32.toInt % 2 ^ 8 := Jvm.Kit.i32_mask _ 255 (k := 8) (by decide) (by decide)
  rw [← Int32.toInt_inj, e1, e2, Int8.toInt_toInt32, Int32.toInt_toInt8]
  exact Int.bmod_emod
theorem own_n88 (x : Int32) : (x.toInt8.toInt32.toInt8.toInt32 &&& (255 : Int32)) = (x &&& (255 : Int32)) := by rw [own_n8, own_n8]
def own_tv (x : Int32) (k a b : Nat) : Int32 := if a ≤ k ∧ k < b then (x &&& (255 : Int32)) else 0
theorem own_tT (x : Int32) (k a b : Nat) (hk : k < 4) (ha : a ≤ 4) (hb : b ≤ 4) : own_T x (Int32.ofNat k) (Int32.ofNat a) (Int32.ofNat b) (own_tv x k a b) := by
  have q1 := own_ofNat_lt (a := k) (b := a) (by omega) (by omega)
  have q2 := own_ofNat_lt (a := k) (b := b) (by omega) (by omega)
  unfold own_T own_tv
  by_cases c1 : k < a
  · exact Or.inl ⟨q1.mpr c1, if_neg (by omega)⟩
  · by_cases c2 : k < b
    · exact Or.inr (Or.inr ⟨fun q => c1 (q1.mp q), q2.mpr c2, if_pos (by omega)⟩)
    · exact Or.inr (Or.inl ⟨fun q => c1 (q1.mp q), fun q => c2 (q2.mp q), if_neg (by omega)⟩)
theorem own_sum (p1 p2 p3 p4 : Int32) (a b : Nat) (ha : a ≤ 4) (hb : b ≤ 4) : own_acc (own_g p1 p2 p3 p4) (b - a) a (0 : Int32) = (((own_tv p1 0 a b + own_tv p2 1 a b) + own_tv p3 2 a b) + own_tv p4 3 a b) := by
  have a' : a = 0 ∨ a = 1 ∨ a = 2 ∨ a = 3 ∨ a = 4 := by omega
  have b' : b = 0 ∨ b = 1 ∨ b = 2 ∨ b = 3 ∨ b = 4 := by omega
  have e0 := own_n88 p1
  have e1 := own_n88 p2
  have e2 := own_n88 p3
  have e3 := own_n88 p4
  have g0 : own_g p1 p2 p3 p4 0 = p1.toInt8.toInt32.toInt8.toInt32 := rfl
  have g1 : own_g p1 p2 p3 p4 1 = p2.toInt8.toInt32.toInt8.toInt32 := rfl
  have g2 : own_g p1 p2 p3 p4 2 = p3.toInt8.toInt32.toInt8.toInt32 := rfl
  have g3 : own_g p1 p2 p3 p4 3 = p4.toInt8.toInt32.toInt8.toInt32 := rfl
  rw [← g0] at e0
  rw [← g1] at e1
  rw [← g2] at e2
  rw [← g3] at e3
  generalize own_g p1 p2 p3 p4 = g at *
  unfold own_tv
  rw [← e0, ← e1, ← e2, ← e3]
  generalize hG : (fun j => (g j &&& (255 : Int32))) = G
  have q0 : (g 0 &&& (255 : Int32)) = G 0 := by rw [← hG]
  have q1 : (g 1 &&& (255 : Int32)) = G 1 := by rw [← hG]
  have q2 : (g 2 &&& (255 : Int32)) = G 2 := by rw [← hG]
  have q3 : (g 3 &&& (255 : Int32)) = G 3 := by rw [← hG]
  rw [q0, q1, q2, q3]
  rcases a' with rfl | rfl | rfl | rfl | rfl <;> rcases b' with rfl | rfl | rfl | rfl | rfl <;> simp [own_acc, q0, q1, q2, q3]
theorem own_mod5 (x : Int32) : ∃ a : Nat, a ≤ 4 ∧ ((x &&& (2147483647 : Int32)) % (5 : Int32)) = Int32.ofNat a := by
  have e : (x &&& (2147483647 : Int32)).toInt = x.toInt % 2 ^ 31 := Jvm.Kit.i32_mask x 2147483647 (k := 31) (by decide) (by decide)
  have e2 := Jvm.Kit.i32_rem_nonneg (x := x &&& (2147483647 : Int32)) (y := 5) (by omega)
  have e9 : (5 : Int32).toInt = 5 := rfl
  rw [e9] at e2
  refine ⟨((x &&& (2147483647 : Int32)) % (5 : Int32)).toInt.toNat, by omega, ?_⟩
  rw [← Int32.toInt_inj, Int32.toInt_ofNat_small (by omega)]
  omega
def own_hx (j : Int32) : Int32 := if j < 10 then j + 48 else j + 55
theorem own_cases16 (v : Int32) (h : 0 ≤ v.toInt ∧ v.toInt < 16) : ∃ k : Nat, k < 16 ∧ v = Int32.ofNat k := by
  refine ⟨v.toInt.toNat, by omega, ?_⟩
  rw [← Int32.toInt_inj, Int32.toInt_ofNat_small (by omega)]
  omega
theorem own_hxv (j : Int32) (h : 0 ≤ j.toInt ∧ j.toInt < 16) : (own_hx j).toInt8.toInt32 = own_hv j := by
  obtain ⟨k, hk, rfl⟩ := own_cases16 j h
  have : ∀ k : Fin 16, (own_hx (Int32.ofNat k.val)).toInt8.toInt32 = own_hv (Int32.ofNat k.val) := by decide +kernel
  exact this ⟨k, hk⟩
theorem own_bits (x : Int32) : (0 ≤ ((x >>> ((4 : Int32) &&& 31)) &&& (15 : Int32)).toInt ∧ ((x >>> ((4 : Int32) &&& 31)) &&& (15 : Int32)).toInt < 16) ∧ (0 ≤ (x &&& (15 : Int32)).toInt ∧ (x &&& (15 : Int32)).toInt < 16) ∧
    ((x &&& (255 : Int32)) >>> ((4 : Int32) &&& 31)) = ((x >>> ((4 : Int32) &&& 31)) &&& (15 : Int32)) ∧ ((x &&& (255 : Int32)) &&& (15 : Int32)) = (x &&& (15 : Int32)) := by
  have s1 : (x >>> ((4 : Int32) &&& 31)).toInt = x.toInt / 2 ^ 4 := Jvm.Kit.i32_shr x _ (by decide)
  have m1 : ((x >>> ((4 : Int32) &&& 31)) &&& (15 : Int32)).toInt = (x >>> ((4 : Int32) &&& 31)).toInt % 2 ^ 4 := Jvm.Kit.i32_mask _ 15 (k := 4) (by decide) (by decide)
  have m2 : (x &&& (15 : Int32)).toInt = x.toInt % 2 ^ 4 := Jvm.Kit.i32_mask _ 15 (k := 4) (by decide) (by decide)
  have m3 : (x &&& (255 : Int32)).toInt = x.toInt % 2 ^ 8 := Jvm.Kit.i32_mask _ 255 (k := 8) (by decide) (by decide)
  have s2 : ((x &&& (255 : Int32)) >>> ((4 : Int32) &&& 31)).toInt = (x &&& (255 : Int32)).toInt / 2 ^ 4 := Jvm.Kit.i32_shr _ _ (by decide)
  have m4 : ((x &&& (255 : Int32)) &&& (15 : Int32)).toInt = (x &&& (255 : Int32)).toInt % 2 ^ 4 := Jvm.Kit.i32_mask _ 15 (k := 4) (by decide) (by decide)
  refine ⟨by omega, by omega, ?_, ?_⟩
  · rw [← Int32.toInt_inj, s2, m1, m3, s1]; omega
  · rw [← Int32.toInt_inj, m4, m2, m3]; omega
theorem own_inb {c : Cell} {j : Int32} (hs : c.slots.size = 16) (h : 0 ≤ j.toInt ∧ j.toInt < 16) : ¬ (j < 0 ∨ c.slots.size ≤ j.toNatClampNeg) := by
  rw [hs, Int32.lt_iff_toInt_lt]
  have e0 : (0 : Int32).toInt = 0 := rfl
  simp only [Int32.toNatClampNeg]
  omega
theorem own_hat {c : Cell} (hs : c.slots.size = 16) (ht : ∀ k : Nat, k < 16 → c.slots[k]? = some (.int (own_hx (Int32.ofNat k)))) (j : Int32) (h : 0 ≤ j.toInt ∧ j.toInt < 16) : c.slots[j.toNatClampNeg]? = some (.int (own_hx j)) := by
  obtain ⟨k, hk, rfl⟩ := own_cases16 j h
  rw [own_ofNat_clamp (by omega)]
  exact ht k hk
theorem own_law (l : Launch) (Z : State) (a0 : Array Value) (hw : ∀ d ∈ tables_1, d.before a0 Z = true) (ws : List Jvm.Cond) (p1 p2 p3 p4 p5 p6 : Int32) (hd : Addr) (clh : Cell) (h0 : Heap) (n0 : Nat) (Z0 : n0 ≤ h0.size) (S_HEX : Sta Z h0 "com/example/cuvette/cuvette/astm/E1381" "HEX_DIGITS" "[B" (.ref hd)) (Ar_h : Arr Z h0 hd clh .byte) (hs : clh.slots.size = 16) (ht : ∀ k : Nat, k < 16 → clh.slots[k]? = some (.int (own_hx (Int32.ofNat k)))) :
    MetFree l x (head1 (Jvm.Cond.code x code maxLocals ret :: ws) room_1) (fun a U => a = #[(.int p1), (.int p2), (.int p3), (.int p4), (.int p5), (.int p6)] ∧ Z.Warmed39 U.vm ∧ U.heap = h0) (fun _ _ _ _ _ => True) (fun _ U o U' => ∃ v L, o = .returned v ∧ (v = some (.int (1 : Int32)) ∧ Fr n0 L) ∧ FrameEnd U o U' L room_1.cells room_1.slots) := by
  obtain ⟨a, ha, ea⟩ := own_mod5 p5
  obtain ⟨b, hb, eb⟩ := own_mod5 p6
  have hsum := own_sum p1 p2 p3 p4 a b ha hb
  have t0 := own_tT p1 0 a b (by omega) ha hb
  have t1 := own_tT p2 1 a b (by omega) ha hb
  have t2 := own_tT p3 2 a b (by omega) ha hb
  have t3 := own_tT p4 3 a b (by omega) ha hb
  rw [← ea, ← eb] at t0 t1 t2 t3
  generalize own_tv p1 0 a b = u0 at *
  generalize own_tv p2 1 a b = u1 at *
  generalize own_tv p3 2 a b = u2 at *
  generalize own_tv p4 3 a b = u3 at *
  obtain ⟨b1, b2, b3, b4⟩ := own_bits (((u0 + u1) + u2) + u3)
  refine rm0 l Z a0 hw ws p1 p2 p3 p4 p5 p6 h0 n0 Z0 u0 u1 u2 u3 t0 t1 t2 t3 hd clh S_HEX Ar_h _ _ (own_inb hs b1) (own_hat hs ht _ b1) (own_inb hs b2) (own_hat hs ht _ b2) a (b - a) ?_ ea ?_ hsum ?_ ?_
  · omega
  · by_cases c : a ≤ b
    · left; rw [eb]; congr 1; omega
    · right
      refine ⟨by omega, ?_⟩
      rw [eb, own_ofNat_lt (by omega) (by omega)]; omega
  · rw [b3]; exact own_hxv _ b1
  · rw [b4]; exact own_hxv _ b2
theorem own_x48 : ∀ k : Fin 16, k.val < 10 → (k.val.toInt32.toInt64 + 48).toInt32 = own_hx (Int32.ofNat k.val) := by decide +kernel
theorem own_x55 : ∀ k : Fin 16, ¬ k.val < 10 → (k.val.toInt32.toInt64 + 55).toInt32 = own_hx (Int32.ofNat k.val) := by decide +kernel
theorem own_le10 : ∀ k : Fin 16, k.val < 10 → decide ((10 : Int32) ≤ k.val.toInt32) = false := by decide +kernel
theorem own_lt10 : ∀ k : Fin 16, ¬ k.val < 10 → decide (k.val.toInt32 < (10 : Int32)) = false := by decide +kernel
theorem own_or {args : Array Value} {first s : State} {o : Option Outcome} {idx : List Nat} {a b : Cond} (h : (Cond.or a b).value args first o s idx = some true) (ha : a.value args first o s idx = some false) : b.value args first o s idx = some true := by
  simp only [Cond.value, ha] at h; exact h
theorem own_elem {args : Array Value} {s : State} {t : Term} {hd : Addr} {c : Cell} {j : Nat} {k : Int64} (ev : t.eval args s none [j] s = some (.ref hd)) (harr : s.arrayAt? hd = some c) (hj : j < 2 ^ 31)
    (h : (Cond.eq (Term.op1 Unary.i2l (Term.elem t (Term.index 0))) (Term.op2 Binary.ladd (Term.op1 Unary.i2l (Term.index 0)) (Term.long k))).value args s none s [j] = some true) : ∃ x : Int32, c.slots[j]? = some (.int x) ∧ x.toInt64 = j.toInt32.toInt64 + k := by
  have e1 : j.toInt32.toInt = j := len_toInt hj
  have hn : ¬ (j.toInt32 < 0) := by
    rw [Int32.lt_iff_toInt_lt, e1]
    have e0 : (0 : Int32).toInt = 0 := rfl
    omega
  have hc : j.toInt32.toNatClampNeg = j := by simp only [Int32.toNatClampNeg, e1]; omega
  have ei : (Term.index 0).eval args s none [j] s = some (.int j.toInt32) := rfl
  have ee := elem_f ev ei harr hn
  rw [hc] at ee
  cases hs : c.slots[j]? with
  | none =>
    rw [hs] at ee
    obtain ⟨u, y, e4, -⟩ := cmp_v (Or.inl h)
    obtain ⟨u', e5, -⟩ := op1_v e4
    rw [ee] at e5
    cases e5
  | some v =>
    rw [hs] at ee
    have e2 : (Term.op1 Unary.i2l (Term.elem t (Term.index 0))).eval args s none [j] s = Unary.i2l.apply v := op1_f ee
    have e3 : (Term.op2 Binary.ladd (Term.op1 Unary.i2l (Term.index 0)) (Term.long k)).eval args s none [j] s = some (.long (j.toInt32.toInt64 + k)) := rfl
    cases v with
    | int x =>
      have e4 : Unary.i2l.apply (.int x) = some (.long x.toInt64) := rfl
      rw [e4] at e2
      have := gotT (eq_L e2 e3) h
      exact ⟨x, rfl, this⟩
    | _ =>
      exfalso
      first
        | (have e4 : (Term.op1 Unary.i2l (Term.elem t (Term.index 0))).eval args s none [j] s = none := e2.trans rfl
           simp only [Cond.value, e4] at h; cases h)
        | (simp [Cond.value, e2, e3, Unary.apply] at h)
theorem own_tab {args : Array Value} {s : State} {hd : Addr} {c : Cell} (t : Term) (ev : t.eval args s none [] s = some (.ref hd)) (evj : ∀ j : Nat, t.eval args s none [j] s = some (.ref hd)) (A : Arr s s.heap hd c .byte)
    (hl : (Cond.eq (Term.length t) (Term.int 16)).value args s none s [] = some true)
    (h1 : (Cond.all t (Cond.or (Cond.le (Term.int 10) (Term.index 0)) (Cond.eq (Term.op1 Unary.i2l (Term.elem t (Term.index 0))) (Term.op2 Binary.ladd (Term.op1 Unary.i2l (Term.index 0)) (Term.long 48))))).value args s none s [] = some true)
    (h2 : (Cond.all t (Cond.or (Cond.lt (Term.index 0) (Term.int 10)) (Cond.eq (Term.op1 Unary.i2l (Term.elem t (Term.index 0))) (Term.op2 Binary.ladd (Term.op1 Unary.i2l (Term.index 0)) (Term.long 55))))).value args s none s [] = some true) :
    c.slots.size = 16 ∧ ∀ k : Nat, k < 16 → c.slots[k]? = some (.int (own_hx (Int32.ofNat k))) := by
  have harr : s.arrayAt? hd = some c := Arr.fin (Vm.Alike.refl _) A
  have hsz : c.slots.size = 16 := by
    by_cases q : c.slots.size < 2 ^ 31
    · have e := len_f ev harr q
      have e2 : c.slots.size.toInt32 = 16 := by
        simp only [Cond.value, e, Term.int_eval] at hl
        simpa using hl
      have e3 := len_toInt q
      rw [e2] at e3
      have e4 : (16 : Int32).toInt = 16 := rfl
      omega
    · exfalso
      simp [Cond.value, Term.eval, ev, harr, q] at hl
  refine ⟨hsz, fun k hk => ?_⟩
  have g1 := Cond.all_elim ev harr h1 k (by rw [hsz]; exact hk)
  have g2 := Cond.all_elim ev harr h2 k (by rw [hsz]; exact hk)
  have ei : (Term.index 0).eval args s none [k] s = some (.int k.toInt32) := rfl
  have et : (Term.int 10).eval args s none [k] s = some (.int 10) := rfl
  by_cases c10 : k < 10
  · have l1 : (Cond.le (Term.int 10) (Term.index 0)).value args s none s [k] = some false := (Cond.le_ints et ei).trans (congrArg some (own_le10 ⟨k, hk⟩ c10))
    obtain ⟨x, hx, hv⟩ := own_elem (evj k) harr (by omega) (own_or g1 l1)
    rw [hx, ← own_x48 ⟨k, hk⟩ c10, ← hv, Int32.toInt32_toInt64]
  · have l1 : (Cond.lt (Term.index 0) (Term.int 10)).value args s none s [k] = some false := (Cond.lt_ints ei et).trans (congrArg some (own_lt10 ⟨k, hk⟩ c10))
    obtain ⟨x, hx, hv⟩ := own_elem (evj k) harr (by omega) (own_or g2 l1)
    rw [hx, ← own_x55 ⟨k, hk⟩ c10, ← hv, Int32.toInt32_toInt64]
set_option maxRecDepth 65536 in
set_option maxHeartbeats 40000000 in
theorem comes_1 {Post : Tables → Env → Array Value → State → Outcome → State → Prop} (hpost : ∀ tb e args s v u, (limb_1_1.after args s (.returned v) u = true ∧ limb_1_2.after args s (.returned v) u = true ∧ True) → FrameEnd s (.returned v) u (Jvm.fieldLocs frame_1_writes args s ++ Jvm.arrayLocs frame_1_arrays args s ++ Jvm.staticLocs frame_1_statics s) 16 128 → Post tb e args s (.returned v) u) :
    ArmFor flags0 classFile x code maxLocals ret World_1 tables_1 room_1 Calls_1 rest_1 Pre_1 Post := by
  intro l hfl _ _ p e ha hc hk s m args below hf hA hF happ hP
  obtain ⟨hcalls, hrest, hpre⟩ := hP
  obtain ⟨-, -, -, hnamed, -, -, -, hat⟩ := (Spec.applies_iff hf).mp happ
  obtain ⟨hg, hn⟩ := and_e (Cond.before_iff.mp (show (Jvm.Cond.and given_1 narrow_1).before args s = true from hpre))
  obtain ⟨g21, g22⟩ := and_e hg
  obtain ⟨g23, g24⟩ := and_e g22
  obtain ⟨g25, g26⟩ := and_e g24
  obtain ⟨g27, g28⟩ := and_e g26
  obtain ⟨g29, g30⟩ := and_e g28
  obtain ⟨g31, g32⟩ := and_e g30
  obtain ⟨w0, w1, w2, w3, w4, w5, rfl⟩ : ∃ w0 w1 w2 w3 w4 w5 : Value, args = #[w0, w1, w2, w3, w4, w5] := by
    have hs : args.size = 6 := by simpa [Cond.value, given_1] using g21
    obtain ⟨L⟩ := args
    match L, hs with
    | [w0, w1, w2, w3, w4, w5], _ => exact ⟨w0, w1, w2, w3, w4, w5, rfl⟩
  have hw := fun d (hd : d ∈ tables_1) => atoms_spec (ws := Jvm.Cond.code x code maxLocals ret :: tables_1) hat d (List.mem_cons_of_mem _ hd)
  have hfit : Fit s := fun {y c} hc i hi => by
    obtain ⟨ha, rfl⟩ := Array.getElem?_eq_some_iff.mp hc
    have q := List.all_eq_true.mp ((Array.all_eq_true_iff_forall_mem.mp hF) _ (Array.getElem_mem ha)) i (List.mem_range.mpr hi)
    simpa [Array.getElem?_eq_getElem hi] using q
  obtain ⟨i0, ei0⟩ := is_v g23
  obtain rfl : w0 = (.int i0) := Option.some.inj ei0
  obtain ⟨i1, ei1⟩ := is_v g25
  obtain rfl : w1 = (.int i1) := Option.some.inj ei1
  obtain ⟨i2, ei2⟩ := is_v g27
  obtain rfl : w2 = (.int i2) := Option.some.inj ei2
  obtain ⟨i3, ei3⟩ := is_v g29
  obtain rfl : w3 = (.int i3) := Option.some.inj ei3
  obtain ⟨i4, ei4⟩ := is_v g31
  obtain rfl : w4 = (.int i4) := Option.some.inj ei4
  obtain ⟨i5, ei5⟩ := is_v g32
  obtain rfl : w5 = (.int i5) := Option.some.inj ei5
  obtain ⟨n1, hn⟩ := and_e hn
  obtain ⟨n2, hn⟩ := and_e hn
  obtain ⟨n3, n4⟩ := and_e hn
  obtain ⟨hd, ev⟩ := arr_v n1
  obtain ⟨clh, A⟩ := Arr.start ev n1
  have S := Sta.start ev (Or.inr ⟨(hw _ (List.mem_of_getElem? (i := 8) rfl)), (hw _ (List.mem_of_getElem? (i := 11) rfl))⟩)
  obtain ⟨hs, ht⟩ := own_tab _ ev (fun _ => ev) A n2 n3 n4
  obtain ⟨n, o, h1, h2, h3, _, L, rfl, ⟨rfl, N⟩, hq⟩ := own_law l s _ hw tables_1 i0 i1 i2 i3 i4 i5 hd clh s.heap s.heap.size (Nat.le_refl _) S A hs ht p e ha hc hk s m _ below hf ((Spec.applies_iff_loose hf).mp happ).1 ⟨rfl, State.Warmed39.refl s, rfl⟩ trivial
  refine ⟨n, _, h1, h2, h3, hpost _ _ _ _ _ _ ⟨Cond.after_iff.mpr rfl, Cond.after_iff.mpr (eq_i res_at (Term.int_eval (1)) rfl), trivial⟩ ⟨hq.1, hq.2.1, (hq.2.2.sift fun y hy => Or.inr (N y hy)).mono (by decide) (by decide)⟩⟩
theorem main_1_1 : Claimed_1_1 := comes_1 fun _ _ _ _ _ _ h hF => ⟨h.1, hF⟩
theorem main_1_2 : Claimed_1_2 := comes_1 fun _ _ _ _ _ _ h hF => ⟨h.2.1, hF⟩
end Jvm.Pilot.@@N@@
namespace Jvm.Pilot.@@N@@
open Jvm Jvm.ClassFile Sem Op Lib Jvm.Free Jvm.Stand Jvm.Pilot.@@N@@.Jvm.D
/-! MADE BY PROGRAM (witnessworld.py) out of the Statement's table words and the real class files: 9 classes; the members and pool entries that the words name. The judged class is class 1, her method 1. -/
namespace start1
open Jvm.ClassFile
def u (s : String) : CpInfo := .utf8 (stringToUtf16 s)
/-- a pool by its gaps: so many unusable entries, then the entry; so many at the end -/
def gap : Nat → List CpInfo → List CpInfo
  | 0, r => r
  | n + 1, r => .unusable :: gap n r
def poolList (es : List (Nat × CpInfo)) (last : Nat) : List CpInfo := es.foldr (fun e r => gap e.1 (e.2 :: r)) (gap last [])
def pool (es : List (Nat × CpInfo)) (last : Nat) : Array CpInfo := ⟨poolList es last⟩
def fileOf (pool : Array CpInfo) (this : Nat) (attrs : Array Attribute := #[]) (ms : Array MethodInfo := #[]) (fl : Nat := 33) (sup : Nat := 0) (ifs : Array Nat := #[]) (fds : Array FieldInfo := #[]) : ClassFile where
  minorVersion := 0
  majorVersion := 65
  constantPool := pool
  accessFlags := fl
  thisClass := this
  superClass := sup
  interfaces := ifs
  fields := fds
  methods := ms
  attributes := attrs
def plain (name : String) (sup : Option ClassId) : Class where
  name := name
  kind := .ordinary
  loader := none
  accessFlags := 33
  super := sup
  interfaces := #[]
  cf := none
  fields := #[]
  methods := #[]
  instanceTypes := #[]
  staticTypes := #[]
  resolved := #[]
  callSites := []
  init := .initialized
  statics := none
  mirror := none

def pool0 : Array CpInfo := pool [(5, u "<init>"), (0, u "()V"), (1, .class_ 10), (1, u "java/lang/Object")] 113

def k0m0 : Method := { name := "<init>", desc := "()V", sig := { parameters := [], returnType := none }, accessFlags := 1, code := none }
/-- java/lang/Object -/
def k0 : Class := { plain "java/lang/Object" none with
  accessFlags := 33
  interfaces := #[]
  cf := some (fileOf pool0 8 #[] #[{ accessFlags := 1, nameIndex := 5, descriptorIndex := 6, attributes := #[] }] 33 0 #[] #[])
  fields := #[]
  methods := #[k0m0]
  instanceTypes := #[]
  staticTypes := #[]
  resolved := Array.replicate 124 none
  statics := none }

def pool1 : Array CpInfo := pool [(2, .class_ 4), (1, u "java/lang/Object"), (0, u "<init>"), (0, u "()V"), (0, .integer 2147483647), (0, .methodref 9 10), (0, .class_ 11), (0, .nameAndType 12 13), (0, u "com/example/cuvette/cuvette/astm/E1381ChecksumPinLaw"), (0, u "term"), (0, u "(IIII)I"), (0, .methodref 15 16), (0, .class_ 17), (0, .nameAndType 18 19), (0, u "com/example/cuvette/cuvette/astm/E1381"), (0, u "checksum"), (0, u "([BII)[B"), (0, .methodref 9 21), (0, .nameAndType 22 23), (0, u "hex"), (0, u "(I)B"), (2, u "law"), (0, u "(IIIIII)Z")] 5

def k1m0 : Method := { name := "<init>", desc := "()V", sig := { parameters := [], returnType := none }, accessFlags := 2, code := none }
def k1c1 : Code := { maxStack := 5, maxLocals := 12, code := code, exceptionTable := #[], attributes := #[] }
def k1m1 : Method := { name := "law", desc := "(IIIIII)Z", sig := { parameters := [.int, .int, .int, .int, .int, .int], returnType := some .boolean }, accessFlags := 9, code := some k1c1 }
def k1c2 : Code := { maxStack := 2, maxLocals := 4, code := method_3_code, exceptionTable := #[], attributes := #[] }
def k1m2 : Method := { name := "term", desc := "(IIII)I", sig := { parameters := [.int, .int, .int, .int], returnType := some .int }, accessFlags := 10, code := some k1c2 }
def k1c3 : Code := { maxStack := 3, maxLocals := 1, code := method_4_code, exceptionTable := #[], attributes := #[] }
def k1m3 : Method := { name := "hex", desc := "(I)B", sig := { parameters := [.int], returnType := some .byte }, accessFlags := 10, code := some k1c3 }
/-- com/example/cuvette/cuvette/astm/E1381ChecksumPinLaw -/
def k1 : Class := { plain "com/example/cuvette/cuvette/astm/E1381ChecksumPinLaw" (some 0) with
  accessFlags := 49
  interfaces := #[]
  cf := some (fileOf pool1 9 #[] #[{ accessFlags := 2, nameIndex := 5, descriptorIndex := 6, attributes := #[] }, { accessFlags := 9, nameIndex := 26, descriptorIndex := 27, attributes := #[] }, { accessFlags := 10, nameIndex := 12, descriptorIndex := 13, attributes := #[] }, { accessFlags := 10, nameIndex := 22, descriptorIndex := 23, attributes := #[] }] 49 2 #[] #[])
  fields := #[]
  methods := #[k1m0, k1m1, k1m2, k1m3]
  instanceTypes := #[]
  staticTypes := #[]
  resolved := Array.replicate 33 none
  statics := none }

def pool2 : Array CpInfo := pool [(2, .class_ 4), (1, u "java/lang/Object"), (0, u "<init>"), (0, u "()V"), (1, .class_ 10), (1, u "com/example/cuvette/cuvette/astm/E1381"), (0, u "ALLOWED_IN_TEXT"), (0, u "[Z"), (0, .fieldref 8 14), (0, .nameAndType 15 16), (0, u "HEX_DIGITS"), (0, u "[B"), (8, u "DISALLOWED"), (0, u "[[I"), (9, u "STX"), (0, u "B"), (2, u "ETX"), (1, u "EOT"), (1, u "ENQ"), (1, u "ACK"), (1, u "LF"), (1, u "CR"), (1, u "NAK"), (1, u "ETB"), (1, u "FIRST_FRAME_NUMBER"), (0, u "I"), (8, u "checksum"), (0, u "([BII)[B")] 5

def k2m0 : Method := { name := "<init>", desc := "()V", sig := { parameters := [], returnType := none }, accessFlags := 2, code := none }
def k2c1 : Code := { maxStack := 6, maxLocals := 5, code := prog_13_method_4_code, exceptionTable := #[], attributes := #[] }
def k2m1 : Method := { name := "checksum", desc := "([BII)[B", sig := { parameters := [(.array .byte), .int, .int], returnType := some (.array .byte) }, accessFlags := 8, code := some k2c1 }
/-- com/example/cuvette/cuvette/astm/E1381 -/
def k2 : Class := { plain "com/example/cuvette/cuvette/astm/E1381" (some 0) with
  accessFlags := 48
  interfaces := #[]
  cf := some (fileOf pool2 8 #[] #[{ accessFlags := 2, nameIndex := 5, descriptorIndex := 6, attributes := #[] }, { accessFlags := 8, nameIndex := 66, descriptorIndex := 67, attributes := #[] }] 48 2 #[] #[{ accessFlags := 24, nameIndex := 36, descriptorIndex := 37, attributes := #[] }, { accessFlags := 24, nameIndex := 40, descriptorIndex := 37, attributes := #[] }, { accessFlags := 24, nameIndex := 42, descriptorIndex := 37, attributes := #[] }, { accessFlags := 24, nameIndex := 44, descriptorIndex := 37, attributes := #[] }, { accessFlags := 24, nameIndex := 46, descriptorIndex := 37, attributes := #[] }, { accessFlags := 24, nameIndex := 48, descriptorIndex := 37, attributes := #[] }, { accessFlags := 24, nameIndex := 50, descriptorIndex := 37, attributes := #[] }, { accessFlags := 24, nameIndex := 52, descriptorIndex := 37, attributes := #[] }, { accessFlags := 24, nameIndex := 54, descriptorIndex := 37, attributes := #[] }, { accessFlags := 24, nameIndex := 56, descriptorIndex := 57, attributes := #[] }, { accessFlags := 26, nameIndex := 25, descriptorIndex := 26, attributes := #[] }, { accessFlags := 26, nameIndex := 11, descriptorIndex := 12, attributes := #[] }, { accessFlags := 26, nameIndex := 15, descriptorIndex := 16, attributes := #[] }])
  fields := #[{ name := "STX", type := .byte, accessFlags := 24, slot := 0, constantValue := 0 }, { name := "ETX", type := .byte, accessFlags := 24, slot := 1, constantValue := 0 }, { name := "EOT", type := .byte, accessFlags := 24, slot := 2, constantValue := 0 }, { name := "ENQ", type := .byte, accessFlags := 24, slot := 3, constantValue := 0 }, { name := "ACK", type := .byte, accessFlags := 24, slot := 4, constantValue := 0 }, { name := "LF", type := .byte, accessFlags := 24, slot := 5, constantValue := 0 }, { name := "CR", type := .byte, accessFlags := 24, slot := 6, constantValue := 0 }, { name := "NAK", type := .byte, accessFlags := 24, slot := 7, constantValue := 0 }, { name := "ETB", type := .byte, accessFlags := 24, slot := 8, constantValue := 0 }, { name := "FIRST_FRAME_NUMBER", type := .int, accessFlags := 24, slot := 9, constantValue := 0 }, { name := "DISALLOWED", type := (.array (.array .int)), accessFlags := 26, slot := 10, constantValue := 0 }, { name := "ALLOWED_IN_TEXT", type := (.array .boolean), accessFlags := 26, slot := 11, constantValue := 0 }, { name := "HEX_DIGITS", type := (.array .byte), accessFlags := 26, slot := 12, constantValue := 0 }]
  methods := #[k2m0, k2m1]
  instanceTypes := #[]
  staticTypes := #[.byte, .byte, .byte, .byte, .byte, .byte, .byte, .byte, .byte, .int, (.array (.array .int)), (.array .boolean), (.array .byte)]
  resolved := Array.replicate 73 none
  statics := some 0 }

def pool3 : Array CpInfo := pool [(1, u "java/lang/Cloneable"), (0, .class_ 1), (0, u "java/lang/Object"), (0, .class_ 3)] 3

/-- java/lang/Cloneable -/
def k3 : Class := { plain "java/lang/Cloneable" (some 0) with
  accessFlags := 1537
  interfaces := #[]
  cf := some (fileOf pool3 2 #[] #[] 1537 4 #[] #[])
  fields := #[]
  methods := #[]
  instanceTypes := #[]
  staticTypes := #[]
  resolved := Array.replicate 8 none
  statics := none }

def pool4 : Array CpInfo := pool [(1, u "java/io/Serializable"), (0, .class_ 1), (0, u "java/lang/Object"), (0, .class_ 3)] 3

/-- java/io/Serializable -/
def k4 : Class := { plain "java/io/Serializable" (some 0) with
  accessFlags := 1537
  interfaces := #[]
  cf := some (fileOf pool4 2 #[] #[] 1537 4 #[] #[])
  fields := #[]
  methods := #[]
  instanceTypes := #[]
  staticTypes := #[]
  resolved := Array.replicate 8 none
  statics := none }

/-- the primitive byte -/
def k5 : Class := { plain "byte" none with kind := .primitive 'B', accessFlags := 0x411 }
/-- [B -/
def k6 : Class := { plain "[B" (some 0) with kind := .array 5 .byte, interfaces := #[3, 4], accessFlags := 1041 }

/-- the primitive int -/
def k7 : Class := { plain "int" none with kind := .primitive 'I', accessFlags := 0x411 }
/-- [I -/
def k8 : Class := { plain "[I" (some 0) with kind := .array 7 .int, interfaces := #[3, 4], accessFlags := 1041 }

def heap : Heap := #[{ cls := 2, slots := #[.int 0, .int 0, .int 0, .int 0, .int 0, .int 0, .int 0, .int 0, .int 0, .int 0, .null, .null, .ref 1], vm := .statics 2 },
  { cls := 6, slots := #[.int 48, .int 49, .int 50, .int 51, .int 52, .int 53, .int 54, .int 55, .int 56, .int 57, .int 65, .int 66, .int 67, .int 68, .int 69, .int 70], vm := .none }]
def classes : Array Class := #[k0, k1, k2, k3, k4, k5, k6, k7, k8]
def interned : List (Array UInt16 × Addr) := []
def slotsUsed : Nat := 29
def theMethod : MethodId := ⟨1, 1⟩
def args0 : Array Value := #[.int 1, .int 2, .int 3, .int 4, .int 0, .int 4]
def aboutOver (below : List Frame) : State where
  vm := { classes := classes, interned := interned.toArray }
  heap := heap
  slotsUsed := slotsUsed
  threads := #[{ frames := .invoking theMethod args0 :: below }]
def below0 : List Frame := [.native { method := ⟨0, 0⟩, args := #[] }]
def about1 : State := aboutOver below0
def p0 : Program := .bare "" "" ""
def e0 : Env := launch0.env 0 0 0
theorem w_frames : about1.frames = Frame.invoking theMethod args0 :: below0 := rfl
set_option maxRecDepth 65536 in
theorem w_args : argsFit about1.vm theMethod args0 = true := by decide +kernel
set_option maxRecDepth 65536 in
theorem w_heap : heapFits about1 = true := by decide +kernel
set_option maxRecDepth 65536 in
theorem w_runnable : about1.curStatus? = some .runnable := by decide +kernel
set_option maxRecDepth 65536 in
theorem w_alone : about1.alone = true := by decide +kernel
set_option maxRecDepth 65536 in
theorem w_named : about1.methodNamed? x = some theMethod := by decide +kernel
set_option maxRecDepth 65536 in
theorem w_hears : about1.hears theMethod below0 = true := by decide +kernel
set_option maxRecDepth 65536 in
theorem w_ripe : about1.ripe theMethod args0 below0 = true := by decide +kernel
theorem w_running : about1.status = .running := rfl
set_option maxRecDepth 65536 in
theorem w_room : about1.hasRoom e0.platform room_1 = true :=
  launch0.hasRoom_least _ room_1 (by decide +kernel) (by decide +kernel) (by decide +kernel) (by decide +kernel) (by decide +kernel) (by decide +kernel)
theorem allAtoms_all (ts : List Jvm.Cond) (a : Array Jvm.Value) (st : Jvm.State) : (allAtoms ts).before a st = ts.all (fun c => c.before a st) := by
  induction ts with
  | nil => rfl
  | cons c t ih =>
    show (Jvm.Cond.and c (allAtoms t)).before a st = _
    rw [Jvm.Cond.before_and, ih, List.all_cons]
def words1 : List Jvm.Cond := Jvm.Cond.code x code maxLocals ret :: tables_1
/-- a 'code' word, met by the world's own term for the bytes: nothing is compared byte by byte -/
theorem code_word {y : MethodName} {bytes : ByteArray} {mx : Nat} {rt : Option FieldType} {a : Array Value} {s : State} {m : MethodId} {meth : Method} {c : Code} (h1 : s.methodNamed? y = some m) (h2 : s.vm.method? m = some meth) (h3 : meth.code = some c) (h4 : c.code = bytes)
    (h5 : (c.maxLocals == mx && c.exceptionTable.isEmpty && decide (c.maxStack ≤ mostOperands) && decide (meth.sig.returnType = rt) && !meth.locks && decide (parseMethodDescriptor y.desc = some meth.sig)) = true) : (Jvm.Cond.code y bytes mx rt).before a s = true := by
  simp only [Bool.and_eq_true, beq_iff_eq, Bool.not_eq_true', decide_eq_true_eq] at h5
  obtain ⟨⟨⟨⟨⟨g1, g2⟩, g3⟩, g4⟩, g5⟩, g6⟩ := h5
  simp [Cond.before, Cond.holds, Cond.value, h1, h2, h3, h4, g1, g2, g3, g4, g5, g6]
def isCode : Jvm.Cond → Bool
  | .code _ _ _ _ => true
  | _ => false
theorem all_split {L : List Jvm.Cond} {P : Jvm.Cond → Bool} (h1 : L.all (fun c => isCode c || P c) = true) (h2 : ∀ c ∈ L.filter isCode, P c = true) : L.all P = true := by
  refine List.all_eq_true.mpr fun c hc => ?_
  have h := List.all_eq_true.mp h1 c hc
  rcases Bool.eq_false_or_eq_true (isCode c) with hi | hi
  · exact h2 c (List.mem_filter.mpr ⟨hc, hi⟩)
  · simpa [hi] using h
set_option maxRecDepth 65536 in
theorem w_c0 : (Jvm.Cond.code x code maxLocals ret).before args0 about1 = true := code_word (m := ⟨1, 1⟩) (meth := k1m1) (c := k1c1) (by decide +kernel) rfl rfl rfl (by decide +kernel)
set_option maxRecDepth 65536 in
theorem w_c1 : (Jvm.Cond.code ({ cls := "com/example/cuvette/cuvette/astm/E1381ChecksumPinLaw", name := "term", desc := "(IIII)I" } : Jvm.MethodName) method_3_code (4 : Nat) (Option.some Jvm.ClassFile.FieldType.int)).before args0 about1 = true := code_word (m := ⟨1, 2⟩) (meth := k1m2) (c := k1c2) (by decide +kernel) rfl rfl rfl (by decide +kernel)
set_option maxRecDepth 65536 in
theorem w_c2 : (Jvm.Cond.code ({ cls := "com/example/cuvette/cuvette/astm/E1381", name := "checksum", desc := "([BII)[B" } : Jvm.MethodName) prog_13_method_4_code (5 : Nat) (Option.some (Jvm.ClassFile.FieldType.array Jvm.ClassFile.FieldType.byte))).before args0 about1 = true := code_word (m := ⟨2, 1⟩) (meth := k2m1) (c := k2c1) (by decide +kernel) rfl rfl rfl (by decide +kernel)
set_option maxRecDepth 65536 in
theorem w_c3 : (Jvm.Cond.code ({ cls := "com/example/cuvette/cuvette/astm/E1381ChecksumPinLaw", name := "hex", desc := "(I)B" } : Jvm.MethodName) method_4_code (1 : Nat) (Option.some Jvm.ClassFile.FieldType.byte)).before args0 about1 = true := code_word (m := ⟨1, 3⟩) (meth := k1m3) (c := k1c3) (by decide +kernel) rfl rfl rfl (by decide +kernel)
def codes1 : List Jvm.Cond := [Jvm.Cond.code x code maxLocals ret, Jvm.Cond.code ({ cls := "com/example/cuvette/cuvette/astm/E1381ChecksumPinLaw", name := "term", desc := "(IIII)I" } : Jvm.MethodName) method_3_code (4 : Nat) (Option.some Jvm.ClassFile.FieldType.int), Jvm.Cond.code ({ cls := "com/example/cuvette/cuvette/astm/E1381", name := "checksum", desc := "([BII)[B" } : Jvm.MethodName) prog_13_method_4_code (5 : Nat) (Option.some (Jvm.ClassFile.FieldType.array Jvm.ClassFile.FieldType.byte)), Jvm.Cond.code ({ cls := "com/example/cuvette/cuvette/astm/E1381ChecksumPinLaw", name := "hex", desc := "(I)B" } : Jvm.MethodName) method_4_code (1 : Nat) (Option.some Jvm.ClassFile.FieldType.byte)]
set_option maxRecDepth 65536 in
theorem codes_eq : words1.filter isCode = codes1 := rfl
theorem w_codes : ∀ c ∈ words1.filter isCode, c.before args0 about1 = true := by
  rw [codes_eq]
  intro c hc
  simp only [codes1, List.mem_cons, List.not_mem_nil, or_false] at hc
  rcases hc with rfl | rfl | rfl | rfl
  · exact w_c0
  · exact w_c1
  · exact w_c2
  · exact w_c3
set_option maxRecDepth 65536 in
theorem w_t1 : words1.all (fun c => isCode c || c.before args0 about1) = true := by decide +kernel
theorem w_tables : (allAtoms (Jvm.Cond.code x code maxLocals ret :: tables_1)).before args0 about1 = true := by
  rw [allAtoms_all]
  show words1.all (fun c => c.before args0 about1) = true
  refine all_split ?_ w_codes
  rw [w_t1]
set_option maxRecDepth 65536 in
theorem w_case : (Jvm.Cond.and given_1 narrow_1).before args0 about1 = true := by decide +kernel
theorem w_applies : (headSpec (Jvm.Cond.code x code maxLocals ret :: tables_1) room_1).applies x e0.platform about1 = true :=
  (Spec.applies_iff w_frames).mpr ⟨w_running, w_runnable, w_alone, w_named, w_hears, w_ripe, w_room, w_tables⟩
theorem atStart : AtStart classFile x code maxLocals ret World_1 tables_1 room_1 Calls_1 rest_1 Pre_1 launch0 p0 e0 about1 theMethod args0 below0 :=
  ⟨lists_1, trivial, launch0.admits_env _ _ _, launch0.least_env, fairChoices_fair.cas, fairChoices_fair.clock, w_frames, w_args, w_heap, w_applies, trivial, trivial, w_case⟩
end start1
theorem witness_1 : WitnessClaimed_1 := ⟨start1.p0, start1.e0, start1.about1, start1.theMethod, start1.args0, start1.below0, start1.atStart⟩
end Jvm.Pilot.@@N@@
