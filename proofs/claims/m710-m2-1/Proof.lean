import JvmDerived
import JvmDerived.Pilot.@@N@@Statement
import JvmDerived.Pilot.@@N@@Code
set_option linter.unusedVariables false
set_option linter.unusedSimpArgs false
namespace Jvm.RoadKit
open Sem ClassFile Op Lib Jvm.Stand Jvm.Free Jvm.LawKit
section New
variable {p : Program} {l : Launch} {e : Env} {R : Room} {s : State} {m : MethodId} {args : Array Value} {below : List Frame} {meth : Method} {c : Code} {T : State} {locs : List Loc} {cells slots : Nat}
theorem retI (X : Stand p l e R s m args below meth c T locs cells slots) (hx : p.tables.exec = Jvm.exec) {pc : Nat} {Ls : Array Slot} {z : Int32} {rest : List Value} (hret : meth.sig.returnType = some .int) (hd : decode c.code pc = .ok (.ireturn, 1)) {fs : List Frame}
    (hl : ∀ (f : JFrame) (acts : List Action), f.method = m → f.locked = none → f.entered = [] → (doReturn e (T.setTop f) acts (some (.int z))).1 = T.setFrames fs) : Steps p.tables e below (T.setTop (mkF m pc Ls (.int z :: rest))) (T.setFrames fs) := by
  have hm' : T.vm.method? m = some meth := X.method'
  have hn : narrow .int (.int z) = .int z := rfl
  show Steps p.tables e below (T.setTop { method := m, pc := pc, locals := Ls, stack := _ :: rest, locked := none }) _
  jvm_step X.here [X.here.top, hx, hd, hm', hret, hn]
  first | (intro acts; rw [hl _ acts rfl rfl rfl]) | rw [hl _ _ rfl rfl rfl]
  exact Steps.refl _
end New
end Jvm.RoadKit
namespace Jvm.Pilot.@@N@@
open Jvm Jvm.ClassFile Sem Op Lib Jvm.Free Jvm.Stand Jvm.LawKit Jvm.RoadKit Bundle Jvm.Pilot.@@N@@.Jvm.D
def Wp (p : Program) (e : Env) (below : List Frame) (G : Outcome → State → Prop) (U : State) : Prop := ∃ s₂ o, Steps p.tables e below U s₂ ∧ s₂.status = .running ∧ Ended s₂ below o ∧ G o s₂
theorem Wp.back {p : Program} {e : Env} {below : List Frame} {G : Outcome → State → Prop} {U U' : State} (k : ∀ t, Steps p.tables e below U' t → Steps p.tables e below U t) (h : Wp p e below G U') : Wp p e below G U := by
  obtain ⟨s₂, o, h1, h2⟩ := h
  exact ⟨s₂, o, k _ h1, h2⟩
theorem Wp.done {p : Program} {e : Env} {below : List Frame} {G : Outcome → State → Prop} {U t : State} {o : Outcome} (h1 : Steps p.tables e below U t) (h2 : t.status = .running) (h3 : Ended t below o) (h4 : G o t) : Wp p e below G U := ⟨t, o, h1, h2, h3, h4⟩
/-- what a body leaves that writes nothing -/
def QL (n0 : Nat) (v : Option Value) (h : Heap) (L : List Loc) : Prop := v = some (.int 1) ∧ Fr n0 L
def QP (r : Option Value) (h0 : Heap) (n0 : Nat) (v : Option Value) (h : Heap) (L : List Loc) : Prop := v = r ∧ Fr n0 L ∧ h = h0
theorem own_irrefl (x : Int32) : ¬ x < x := by rw [Int32.lt_iff_toInt_lt]; omega
theorem Sta_keep0 {Z : State} {h h' : Heap} {C n d : String} {v : Value} (F : Sta Z h C n d v) (K : Keep h h' []) : Sta Z h' C n d v := by
  obtain ⟨cf, i, k, f, st, cell, h1, h2, h3, h4, h5, r⟩ := F
  exact ⟨cf, i, k, f, st, cell, h1, h2, h3, h4, K.2.1 _ _ h5 nin0, r⟩
theorem own_of (c : Int32) (h0 : 0 ≤ c.toInt) : c = Int32.ofNat c.toInt.toNat := by
  apply Int32.toInt_inj.mp
  have := rng32 c
  rw [show (Int32.ofNat c.toInt.toNat) = c.toInt.toNat.toInt32 from rfl, len_toInt (by omega)]
  omega
theorem d2_0 : decode prog_27_method_15_code 0 = .ok (.iload_n 0, 1) := by decide +kernel
theorem d2_1 : decode prog_27_method_15_code 1 = .ok (.iconst 1, 1) := by decide +kernel
theorem d2_2 : decode prog_27_method_15_code 2 = .ok (.if_icmp .lt 10, 3) := by decide +kernel
theorem d2_5 : decode prog_27_method_15_code 5 = .ok (.iload_n 0, 1) := by decide +kernel
theorem d2_6 : decode prog_27_method_15_code 6 = .ok (.sipush 1024, 3) := by decide +kernel
theorem d2_9 : decode prog_27_method_15_code 9 = .ok (.if_icmp .le 17, 3) := by decide +kernel
theorem d2_26 : decode prog_27_method_15_code 26 = .ok (.return_, 1) := by decide +kernel
theorem pn2 : plainName "com/example/surebit/surebit/generator/QuadSystem" = true := by first | (simp [plainName, overriddenIn]; done) | decide +kernel
theorem ef2 (m : MethodId) (x0 : Int32) : entryFrame m #[(.int x0)] 1 = mkF m 0 #[.val (.int x0)] [] := by first | (simp [entryFrame, mkF, argsToLocals, Value.category]; done) | rfl
set_option maxRecDepth 65536 in
set_option maxHeartbeats 40000000 in
theorem rm_f_cv (l : Launch) (Z : State) (a0 : Array Value) (hw : ∀ d ∈ tables_1, d.before a0 Z = true) (ws : List Jvm.Cond) (p0 : Int32) (h0 : Heap) (n0 : Nat) (Z0 : n0 ≤ h0.size) (q1 : ¬ p0 < (1 : Int32)) (q2 : ¬ (1024 : Int32) < p0) :
    MetFree l (⟨"com/example/surebit/surebit/generator/QuadSystem", "checkVariables", "(I)V"⟩ : MethodName) (head1 (Jvm.Cond.code (⟨"com/example/surebit/surebit/generator/QuadSystem", "checkVariables", "(I)V"⟩ : MethodName) prog_27_method_15_code 1 none :: ws) ({ frames := 0, cells := 0, slots := 0, locals := 0 } : Room)) (fun a U => a = #[(.int p0)] ∧ Z.Warmed39 U.vm ∧ U.heap = h0) (fun _ _ _ _ _ => True) (fun _ U o U' => ∃ v L, o = .returned v ∧ QP none h0 n0 v U'.heap L ∧ FrameEnd U o U' L ({ frames := 0, cells := 0, slots := 0, locals := 0 } : Room).cells ({ frames := 0, cells := 0, slots := 0, locals := 0 } : Room).slots) := by
  refine MetFree.of_bodySF (plainFor_of_name pn2) hisR ?_
  intro p e s m args below meth c s₁ Bd hml0 hP hK
  obtain ⟨rfl, hZ, hh⟩ := hP
  have hx := Bd.exec
  have hby := Bd.bytes
  have hret := Bd.returns
  have hlk := Bd.notSynchronized
  have hml : c.maxLocals = 1 := hml0
  have hown : s.vm.findClass "com/example/surebit/surebit/generator/QuadSystem" = some m.cls := findClass_of_methodNamed Bd.named
  have hnm := (name_of_methodNamed Bd.named Bd.method).1
  have X0 : Stand p l e ({ frames := 0, cells := 0, slots := 0, locals := 0 } : Room) s m #[(.int p0)] below meth c s₁ [] 0 0 := Stand.of_body Bd
  have e0 : s₁.heap = h0 := by rw [← hh, Bd.state]; rfl
  have N0 := Fr.nil n0
  show Wp p e below (fun o s₂ => ∃ v L, o = .returned v ∧ QP none h0 n0 v s₂.heap L ∧ FrameEnd s o s₂ L ({ frames := 0, cells := 0, slots := 0, locals := 0 } : Room).cells ({ frames := 0, cells := 0, slots := 0, locals := 0 } : Room).slots) _
  refine Wp.back (U' := (s₁.setTop (mkF m 0 #[.val (.int p0)] []))) (fun t k => castTop (ef2 m p0) k) ?_
  refine Wp.back (U' := (s₁.setTop (mkF m 26 #[.val (.int p0)] []))) (fun t k => XS.iloadN X0.here hx rfl (hb hby d2_0) rfl (XT.iconstV X0.here hx rfl (1 : Int32) (hb hby d2_1) (by decide) (XS.icmpNo X0.here hx rfl (hb hby d2_2) rfl (flt q1).1 (XS.iloadN X0.here hx rfl (hb hby d2_5) rfl (XT.sipushV X0.here hx rfl (1024 : Int32) (hb hby d2_6) (by decide) (XS.icmpYes X0.here hx rfl (pc0 := 9) (pc' := 26) rfl (hb hby d2_9) rfl (flt q2).2.2.2 (by decide) (by decide) k)))))) ?_
  obtain ⟨fs, hr, hrun, hended, hW, hsame⟩ := X0.leave (v := none) (fun _ => rfl)
  refine Wp.done (X0.returnOut hx hret (hb hby d2_26) hr) hrun hended ⟨_, _, rfl, ?_, ⟨_, rfl⟩, hW, hsame.mono (by decide) (by decide)⟩
  show QP _ h0 n0 _ s₁.heap _
  exact ⟨rfl, N0, e0⟩
def f_tm (p0 : Int32) : Int32 := ((((p0 * (p0 - (1 : Int32))) / (2 : Int32)) + p0) + (1 : Int32))
theorem d3_0 : decode prog_27_method_12_code 0 = .ok (.iload_n 0, 1) := by decide +kernel
theorem d3_1 : decode prog_27_method_12_code 1 = .ok (.iload_n 0, 1) := by decide +kernel
theorem d3_2 : decode prog_27_method_12_code 2 = .ok (.iconst 1, 1) := by decide +kernel
theorem d3_3 : decode prog_27_method_12_code 3 = .ok (.isub, 1) := by decide +kernel
theorem d3_4 : decode prog_27_method_12_code 4 = .ok (.imul, 1) := by decide +kernel
theorem d3_5 : decode prog_27_method_12_code 5 = .ok (.iconst 2, 1) := by decide +kernel
theorem d3_6 : decode prog_27_method_12_code 6 = .ok (.idiv, 1) := by decide +kernel
theorem d3_7 : decode prog_27_method_12_code 7 = .ok (.iload_n 0, 1) := by decide +kernel
theorem d3_8 : decode prog_27_method_12_code 8 = .ok (.iadd, 1) := by decide +kernel
theorem d3_9 : decode prog_27_method_12_code 9 = .ok (.iconst 1, 1) := by decide +kernel
theorem d3_10 : decode prog_27_method_12_code 10 = .ok (.iadd, 1) := by decide +kernel
theorem d3_11 : decode prog_27_method_12_code 11 = .ok (.ireturn, 1) := by decide +kernel
theorem pn3 : plainName "com/example/surebit/surebit/generator/QuadSystem" = true := by first | (simp [plainName, overriddenIn]; done) | decide +kernel
theorem ef3 (m : MethodId) (x0 : Int32) : entryFrame m #[(.int x0)] 1 = mkF m 0 #[.val (.int x0)] [] := by first | (simp [entryFrame, mkF, argsToLocals, Value.category]; done) | rfl
set_option maxRecDepth 65536 in
set_option maxHeartbeats 40000000 in
theorem rm_f_tm (l : Launch) (Z : State) (a0 : Array Value) (hw : ∀ d ∈ tables_1, d.before a0 Z = true) (ws : List Jvm.Cond) (p0 : Int32) (h0 : Heap) (n0 : Nat) (Z0 : n0 ≤ h0.size)  :
    MetFree l (⟨"com/example/surebit/surebit/generator/QuadSystem", "terms", "(I)I"⟩ : MethodName) (head1 (Jvm.Cond.code (⟨"com/example/surebit/surebit/generator/QuadSystem", "terms", "(I)I"⟩ : MethodName) prog_27_method_12_code 1 (some .int) :: ws) ({ frames := 0, cells := 0, slots := 0, locals := 0 } : Room)) (fun a U => a = #[(.int p0)] ∧ Z.Warmed39 U.vm ∧ U.heap = h0) (fun _ _ _ _ _ => True) (fun _ U o U' => ∃ v L, o = .returned v ∧ QP (some (.int (f_tm p0))) h0 n0 v U'.heap L ∧ FrameEnd U o U' L ({ frames := 0, cells := 0, slots := 0, locals := 0 } : Room).cells ({ frames := 0, cells := 0, slots := 0, locals := 0 } : Room).slots) := by
  refine MetFree.of_bodySF (plainFor_of_name pn3) hisR ?_
  intro p e s m args below meth c s₁ Bd hml0 hP hK
  obtain ⟨rfl, hZ, hh⟩ := hP
  have hx := Bd.exec
  have hby := Bd.bytes
  have hret := Bd.returns
  have hlk := Bd.notSynchronized
  have hml : c.maxLocals = 1 := hml0
  have hown : s.vm.findClass "com/example/surebit/surebit/generator/QuadSystem" = some m.cls := findClass_of_methodNamed Bd.named
  have hnm := (name_of_methodNamed Bd.named Bd.method).1
  have X0 : Stand p l e ({ frames := 0, cells := 0, slots := 0, locals := 0 } : Room) s m #[(.int p0)] below meth c s₁ [] 0 0 := Stand.of_body Bd
  have e0 : s₁.heap = h0 := by rw [← hh, Bd.state]; rfl
  have N0 := Fr.nil n0
  show Wp p e below (fun o s₂ => ∃ v L, o = .returned v ∧ QP (some (.int (f_tm p0))) h0 n0 v s₂.heap L ∧ FrameEnd s o s₂ L ({ frames := 0, cells := 0, slots := 0, locals := 0 } : Room).cells ({ frames := 0, cells := 0, slots := 0, locals := 0 } : Room).slots) _
  refine Wp.back (U' := (s₁.setTop (mkF m 0 #[.val (.int p0)] []))) (fun t k => castTop (ef3 m p0) k) ?_
  refine Wp.back (U' := (s₁.setTop (mkF m 11 #[.val (.int p0)] [(.int ((((p0 * (p0 - (1 : Int32))) / (2 : Int32)) + p0) + (1 : Int32)))]))) (fun t k => XS.iloadN X0.here hx rfl (hb hby d3_0) rfl (XS.iloadN X0.here hx rfl (hb hby d3_1) rfl (XT.iconstV X0.here hx rfl (1 : Int32) (hb hby d3_2) (by decide) (XS.isub X0.here hx rfl (hb hby d3_3) rfl (XS.imul X0.here hx rfl (hb hby d3_4) rfl (XT.iconstV X0.here hx rfl (2 : Int32) (hb hby d3_5) (by decide) (XS.idiv X0.here hx rfl (hb hby d3_6) rfl (by decide) (XS.iloadN X0.here hx rfl (hb hby d3_7) rfl (XS.iadd X0.here hx rfl (hb hby d3_8) rfl (XT.iconstV X0.here hx rfl (1 : Int32) (hb hby d3_9) (by decide) (XS.iadd X0.here hx rfl (hb hby d3_10) rfl k))))))))))) ?_
  obtain ⟨fs, hr, hrun, hended, hW, hsame⟩ := X0.leave (v := (some (.int ((((p0 * (p0 - (1 : Int32))) / (2 : Int32)) + p0) + (1 : Int32))))) (fun h => by rw [hret] at h; cases h)
  refine Wp.done (retI X0 hx hret (hb hby d3_11) hr) hrun hended ⟨_, _, rfl, ?_, ⟨_, rfl⟩, hW, hsame.mono (by decide) (by decide)⟩
  show QP _ h0 n0 _ s₁.heap _
  exact ⟨(by rw [f_tm]), N0, e0⟩
def f_bl (p0 : Int32) : Int64 := (((((2 : Int64) * (p0).toInt64) * ((f_tm p0)).toInt64) + (7 : Int64)) / (8 : Int64))
theorem d1_0 : decode prog_27_method_2_code 0 = .ok (.iload_n 0, 1) := by decide +kernel
theorem d1_1 : decode prog_27_method_2_code 1 = .ok (.invokestatic 33, 3) := by decide +kernel
theorem d1_4 : decode prog_27_method_2_code 4 = .ok (.ldc2_w 37, 3) := by decide +kernel
theorem d1_7 : decode prog_27_method_2_code 7 = .ok (.iload_n 0, 1) := by decide +kernel
theorem d1_8 : decode prog_27_method_2_code 8 = .ok (.i2l, 1) := by decide +kernel
theorem d1_9 : decode prog_27_method_2_code 9 = .ok (.lmul, 1) := by decide +kernel
theorem d1_10 : decode prog_27_method_2_code 10 = .ok (.iload_n 0, 1) := by decide +kernel
theorem d1_11 : decode prog_27_method_2_code 11 = .ok (.invokestatic 13, 3) := by decide +kernel
theorem d1_14 : decode prog_27_method_2_code 14 = .ok (.i2l, 1) := by decide +kernel
theorem d1_15 : decode prog_27_method_2_code 15 = .ok (.lmul, 1) := by decide +kernel
theorem d1_16 : decode prog_27_method_2_code 16 = .ok (.ldc2_w 39, 3) := by decide +kernel
theorem d1_19 : decode prog_27_method_2_code 19 = .ok (.ladd, 1) := by decide +kernel
theorem d1_20 : decode prog_27_method_2_code 20 = .ok (.ldc2_w 41, 3) := by decide +kernel
theorem d1_23 : decode prog_27_method_2_code 23 = .ok (.ldiv, 1) := by decide +kernel
theorem d1_24 : decode prog_27_method_2_code 24 = .ok (.lreturn, 1) := by decide +kernel
theorem pd1_0 : parseMethodDescriptor "(I)V" = some ⟨[.int], none⟩ := by decide +kernel
theorem pd1_1 : parseMethodDescriptor "(I)I" = some ⟨[.int], some .int⟩ := by decide +kernel
theorem pn1 : plainName "com/example/surebit/surebit/generator/QuadSystem" = true := by first | (simp [plainName, overriddenIn]; done) | decide +kernel
theorem ef1 (m : MethodId) (x0 : Int32) : entryFrame m #[(.int x0)] 1 = mkF m 0 #[.val (.int x0)] [] := by first | (simp [entryFrame, mkF, argsToLocals, Value.category]; done) | rfl
set_option maxRecDepth 65536 in
set_option maxHeartbeats 40000000 in
theorem rm_f_bl (l : Launch) (Z : State) (a0 : Array Value) (hw : ∀ d ∈ tables_1, d.before a0 Z = true) (ws : List Jvm.Cond) (p0 : Int32) (h0 : Heap) (n0 : Nat) (Z0 : n0 ≤ h0.size) (q1 : ¬ p0 < (1 : Int32)) (q2 : ¬ (1024 : Int32) < p0) :
    MetFree l (⟨"com/example/surebit/surebit/generator/QuadSystem", "byteLength", "(I)J"⟩ : MethodName) (head1 (Jvm.Cond.code (⟨"com/example/surebit/surebit/generator/QuadSystem", "byteLength", "(I)J"⟩ : MethodName) prog_27_method_2_code 1 (some .long) :: ws) ({ frames := 1, cells := 0, slots := 0, locals := 14 } : Room)) (fun a U => a = #[(.int p0)] ∧ Z.Warmed39 U.vm ∧ U.heap = h0) (fun _ _ _ _ _ => True) (fun _ U o U' => ∃ v L, o = .returned v ∧ QP (some (.long (f_bl p0))) h0 n0 v U'.heap L ∧ FrameEnd U o U' L ({ frames := 1, cells := 0, slots := 0, locals := 14 } : Room).cells ({ frames := 1, cells := 0, slots := 0, locals := 14 } : Room).slots) := by
  refine MetFree.of_bodySF (plainFor_of_name pn1) hisR ?_
  intro p e s m args below meth c s₁ Bd hml0 hP hK
  obtain ⟨rfl, hZ, hh⟩ := hP
  have hx := Bd.exec
  have hby := Bd.bytes
  have hret := Bd.returns
  have hlk := Bd.notSynchronized
  have hml : c.maxLocals = 1 := hml0
  have hown : s.vm.findClass "com/example/surebit/surebit/generator/QuadSystem" = some m.cls := findClass_of_methodNamed Bd.named
  have hnm := (name_of_methodNamed Bd.named Bd.method).1
  have X0 : Stand p l e ({ frames := 1, cells := 0, slots := 0, locals := 14 } : Room) s m #[(.int p0)] below meth c s₁ [] 0 0 := Stand.of_body Bd
  have e0 : s₁.heap = h0 := by rw [← hh, Bd.state]; rfl
  have N0 := Fr.nil n0
  show Wp p e below (fun o s₂ => ∃ v L, o = .returned v ∧ QP (some (.long (f_bl p0))) h0 n0 v s₂.heap L ∧ FrameEnd s o s₂ L ({ frames := 1, cells := 0, slots := 0, locals := 14 } : Room).cells ({ frames := 1, cells := 0, slots := 0, locals := 14 } : Room).slots) _
  refine Wp.back (U' := (s₁.setTop (mkF m 0 #[.val (.int p0)] []))) (fun t k => castTop (ef1 m p0) k) ?_
  refine Wp.back (U' := (s₁.setTop (mkF m 1 #[.val (.int p0)] [(.int p0)]))) (fun t k => XS.iloadN X0.here hx rfl (hb hby d1_0) rfl k) ?_
  obtain ⟨_, _, ⟨T1, L1, k1, n1⟩, -, X1, ⟨Lc1, hQ1, l1, y1, z1⟩, st1⟩ := Jvm.LawKit.callS X0 hx (y := (⟨"com/example/surebit/surebit/generator/QuadSystem", "checkVariables", "(I)V"⟩ : MethodName)) hown (mvT hZ (hw _ (List.mem_of_getElem? (i := 5) rfl))) (mvT hZ (hw _ (List.mem_of_getElem? (i := 6) rfl))) (mvT hZ (hw _ (List.mem_of_getElem? (i := 3) rfl))) (mvT hZ (hw _ (List.mem_of_getElem? (i := 7) rfl))) (by decide) (backOf (W := 0) (rm_f_cv l Z a0 hw [] p0 h0 n0 Z0 q1 q2) hZ (hw _ (List.mem_of_getElem? (i := 7) rfl)) (hw _ (List.mem_of_getElem? (i := 3) rfl)) (by decide) (by decide)) (g := (mkF m 1 #[.val (.int p0)] [(.int p0)])) rfl (by rw [hml]; rfl) (argsL := [(.int p0)]) (rest := []) (lenOf pd1_0 rfl) rfl (by show 2 * 0 + _ ≤ _; exact Nat.le_of_eq rfl) (hb hby d1_1) (fun _ _ => ⟨rfl, e0, (by decide : 0 + 0 ≤ _), (by decide : 0 + 0 ≤ _)⟩)
  dsimp only [Pt.U, Pt.locs, Pt.cells, Pt.slots] at X1 l1 y1 z1 st1 hQ1
  subst l1 y1 z1
  obtain ⟨rfl, N1q, e1⟩ := hQ1
  have N1 := Fr.app N0 N1q
  refine Wp.back (U' := (T1.setTop (mkF m 4 #[.val (.int p0)] []))) st1 ?_
  refine Wp.back (U' := (T1.setTop (mkF m 11 #[.val (.int p0)] [(.int p0), (.long ((2 : Int64) * (p0).toInt64))]))) (fun t k => Jvm.Stand.ldc2J X1 hx hown (mvT hZ (hw _ (List.mem_of_getElem? (i := 8) rfl))) rfl (hb hby d1_4) (XS.iloadN X1.here hx rfl (hb hby d1_7) rfl (XS.i2l X1.here hx rfl (hb hby d1_8) rfl (XS.lmul X1.here hx rfl (hb hby d1_9) rfl (XS.iloadN X1.here hx rfl (hb hby d1_10) rfl k))))) ?_
  obtain ⟨_, _, ⟨T2, L2, k2, n2⟩, -, X2, ⟨Lc2, hQ2, l2, y2, z2⟩, st2⟩ := Jvm.LawKit.callS X1 hx (y := (⟨"com/example/surebit/surebit/generator/QuadSystem", "terms", "(I)I"⟩ : MethodName)) hown (mvT hZ (hw _ (List.mem_of_getElem? (i := 9) rfl))) (mvT hZ (hw _ (List.mem_of_getElem? (i := 10) rfl))) (mvT hZ (hw _ (List.mem_of_getElem? (i := 3) rfl))) (mvT hZ (hw _ (List.mem_of_getElem? (i := 11) rfl))) (by decide) (backOf (W := 2) (rm_f_tm l Z a0 hw [] p0 h0 n0 Z0 ) hZ (hw _ (List.mem_of_getElem? (i := 11) rfl)) (hw _ (List.mem_of_getElem? (i := 3) rfl)) (by decide) (by decide)) (g := (mkF m 11 #[.val (.int p0)] [(.int p0), (.long ((2 : Int64) * (p0).toInt64))])) rfl (by rw [hml]; rfl) (argsL := [(.int p0)]) (rest := [(.long ((2 : Int64) * (p0).toInt64))]) (lenOf pd1_1 rfl) rfl (by show 2 * 0 + _ ≤ _; exact Nat.le_of_eq rfl) (hb hby d1_11) (fun _ _ => ⟨rfl, e1, (by decide : 0 + 0 ≤ _), (by decide : 0 + 0 ≤ _)⟩)
  dsimp only [Pt.U, Pt.locs, Pt.cells, Pt.slots] at X2 l2 y2 z2 st2 hQ2
  subst l2 y2 z2
  obtain ⟨rfl, N2q, e2⟩ := hQ2
  have N2 := Fr.app N1 N2q
  refine Wp.back (U' := (T2.setTop (mkF m 14 #[.val (.int p0)] [(.int (f_tm p0)), (.long ((2 : Int64) * (p0).toInt64))]))) st2 ?_
  refine Wp.back (U' := (T2.setTop (mkF m 24 #[.val (.int p0)] [(.long (((((2 : Int64) * (p0).toInt64) * ((f_tm p0)).toInt64) + (7 : Int64)) / (8 : Int64)))]))) (fun t k => XS.i2l X2.here hx rfl (hb hby d1_14) rfl (XS.lmul X2.here hx rfl (hb hby d1_15) rfl (Jvm.Stand.ldc2J X2 hx hown (mvT hZ (hw _ (List.mem_of_getElem? (i := 12) rfl))) rfl (hb hby d1_16) (XS.ladd X2.here hx rfl (hb hby d1_19) rfl (Jvm.Stand.ldc2J X2 hx hown (mvT hZ (hw _ (List.mem_of_getElem? (i := 13) rfl))) rfl (hb hby d1_20) (XS.ldiv X2.here hx rfl (hb hby d1_23) rfl (by decide) k)))))) ?_
  obtain ⟨fs, hr, hrun, hended, hW, hsame⟩ := X2.leave (v := (some (.long (((((2 : Int64) * (p0).toInt64) * ((f_tm p0)).toInt64) + (7 : Int64)) / (8 : Int64))))) (fun h => by rw [hret] at h; cases h)
  refine Wp.done (retOut X2 hx hret rfl (Or.inr (Or.inl ⟨rfl, rfl, _, rfl⟩)) (hb hby d1_24) hr) hrun hended ⟨_, _, rfl, ?_, ⟨_, rfl⟩, hW, hsame.mono (by decide) (by decide)⟩
  show QP _ h0 n0 _ T2.heap _
  exact ⟨(by rw [f_bl]), N2, e2⟩
theorem own_bd (p0 : Int32) : 0 ≤ (p0 &&& (1023 : Int32)).toInt ∧ (p0 &&& (1023 : Int32)).toInt < 1024 := by
  have h1 := c_mask p0 1023 10 (by decide) (by decide)
  omega
theorem own_r1_f : ∀ k : Fin 1024, (fun y : Int32 => ¬ (y + (1 : Int32)) < (1 : Int32)) (Int32.ofNat k.val) := by decide +kernel
theorem own_r1 (p0 : Int32) : ¬ ((p0 &&& (1023 : Int32)) + (1 : Int32)) < (1 : Int32) := by
  have hb : 0 ≤ ((p0 &&& (1023 : Int32))).toInt ∧ ((p0 &&& (1023 : Int32))).toInt < 1024 := own_bd p0
  have h := own_r1_f ⟨((p0 &&& (1023 : Int32))).toInt.toNat, by omega⟩
  rw [show Int32.ofNat (⟨((p0 &&& (1023 : Int32))).toInt.toNat, by omega⟩ : Fin 1024).val = ((p0 &&& (1023 : Int32))) from (own_of _ hb.1).symm] at h
  exact h
theorem own_r2_f : ∀ k : Fin 1024, (fun y : Int32 => ¬ (1024 : Int32) < (y + (1 : Int32))) (Int32.ofNat k.val) := by decide +kernel
theorem own_r2 (p0 : Int32) : ¬ (1024 : Int32) < ((p0 &&& (1023 : Int32)) + (1 : Int32)) := by
  have hb : 0 ≤ ((p0 &&& (1023 : Int32))).toInt ∧ ((p0 &&& (1023 : Int32))).toInt < 1024 := own_bd p0
  have h := own_r2_f ⟨((p0 &&& (1023 : Int32))).toInt.toNat, by omega⟩
  rw [show Int32.ofNat (⟨((p0 &&& (1023 : Int32))).toInt.toNat, by omega⟩ : Fin 1024).val = ((p0 &&& (1023 : Int32))) from (own_of _ hb.1).symm] at h
  exact h
theorem own_b62_f : ∀ k : Fin 1024, (fun y : Int32 => (((2 : Int64) * ((y + (1 : Int32))).toInt64) * ((((((y + (1 : Int32))).toInt64 * (((y + (1 : Int32))).toInt64 - (1 : Int64))) / (2 : Int64)) + ((y + (1 : Int32))).toInt64) + (1 : Int64))) = ((((((y + (1 : Int32))).toInt64 * ((y + (1 : Int32))).toInt64) * ((y + (1 : Int32))).toInt64) + (((y + (1 : Int32))).toInt64 * ((y + (1 : Int32))).toInt64)) + ((2 : Int64) * ((y + (1 : Int32))).toInt64))) (Int32.ofNat k.val) := by decide +kernel
theorem own_b62 (p0 : Int32) : (((2 : Int64) * (((p0 &&& (1023 : Int32)) + (1 : Int32))).toInt64) * (((((((p0 &&& (1023 : Int32)) + (1 : Int32))).toInt64 * ((((p0 &&& (1023 : Int32)) + (1 : Int32))).toInt64 - (1 : Int64))) / (2 : Int64)) + (((p0 &&& (1023 : Int32)) + (1 : Int32))).toInt64) + (1 : Int64))) = (((((((p0 &&& (1023 : Int32)) + (1 : Int32))).toInt64 * (((p0 &&& (1023 : Int32)) + (1 : Int32))).toInt64) * (((p0 &&& (1023 : Int32)) + (1 : Int32))).toInt64) + ((((p0 &&& (1023 : Int32)) + (1 : Int32))).toInt64 * (((p0 &&& (1023 : Int32)) + (1 : Int32))).toInt64)) + ((2 : Int64) * (((p0 &&& (1023 : Int32)) + (1 : Int32))).toInt64)) := by
  have hb : 0 ≤ ((p0 &&& (1023 : Int32))).toInt ∧ ((p0 &&& (1023 : Int32))).toInt < 1024 := own_bd p0
  have h := own_b62_f ⟨((p0 &&& (1023 : Int32))).toInt.toNat, by omega⟩
  rw [show Int32.ofNat (⟨((p0 &&& (1023 : Int32))).toInt.toNat, by omega⟩ : Fin 1024).val = ((p0 &&& (1023 : Int32))) from (own_of _ hb.1).symm] at h
  exact h
theorem own_b82_f : ∀ k : Fin 1024, (fun y : Int32 => ¬ (((8 : Int64) * (f_bl (y + (1 : Int32)))) < (((2 : Int64) * ((y + (1 : Int32))).toInt64) * ((((((y + (1 : Int32))).toInt64 * (((y + (1 : Int32))).toInt64 - (1 : Int64))) / (2 : Int64)) + ((y + (1 : Int32))).toInt64) + (1 : Int64))))) (Int32.ofNat k.val) := by decide +kernel
theorem own_b82 (p0 : Int32) : ¬ (((8 : Int64) * (f_bl ((p0 &&& (1023 : Int32)) + (1 : Int32)))) < (((2 : Int64) * (((p0 &&& (1023 : Int32)) + (1 : Int32))).toInt64) * (((((((p0 &&& (1023 : Int32)) + (1 : Int32))).toInt64 * ((((p0 &&& (1023 : Int32)) + (1 : Int32))).toInt64 - (1 : Int64))) / (2 : Int64)) + (((p0 &&& (1023 : Int32)) + (1 : Int32))).toInt64) + (1 : Int64)))) := by
  have hb : 0 ≤ ((p0 &&& (1023 : Int32))).toInt ∧ ((p0 &&& (1023 : Int32))).toInt < 1024 := own_bd p0
  have h := own_b82_f ⟨((p0 &&& (1023 : Int32))).toInt.toNat, by omega⟩
  rw [show Int32.ofNat (⟨((p0 &&& (1023 : Int32))).toInt.toNat, by omega⟩ : Fin 1024).val = ((p0 &&& (1023 : Int32))) from (own_of _ hb.1).symm] at h
  exact h
theorem own_b98_f : ∀ k : Fin 1024, (fun y : Int32 => ¬ ((((2 : Int64) * ((y + (1 : Int32))).toInt64) * ((((((y + (1 : Int32))).toInt64 * (((y + (1 : Int32))).toInt64 - (1 : Int64))) / (2 : Int64)) + ((y + (1 : Int32))).toInt64) + (1 : Int64))) < (((8 : Int64) * (f_bl (y + (1 : Int32)))) - (7 : Int64)))) (Int32.ofNat k.val) := by decide +kernel
theorem own_b98 (p0 : Int32) : ¬ ((((2 : Int64) * (((p0 &&& (1023 : Int32)) + (1 : Int32))).toInt64) * (((((((p0 &&& (1023 : Int32)) + (1 : Int32))).toInt64 * ((((p0 &&& (1023 : Int32)) + (1 : Int32))).toInt64 - (1 : Int64))) / (2 : Int64)) + (((p0 &&& (1023 : Int32)) + (1 : Int32))).toInt64) + (1 : Int64))) < (((8 : Int64) * (f_bl ((p0 &&& (1023 : Int32)) + (1 : Int32)))) - (7 : Int64))) := by
  have hb : 0 ≤ ((p0 &&& (1023 : Int32))).toInt ∧ ((p0 &&& (1023 : Int32))).toInt < 1024 := own_bd p0
  have h := own_b98_f ⟨((p0 &&& (1023 : Int32))).toInt.toNat, by omega⟩
  rw [show Int32.ofNat (⟨((p0 &&& (1023 : Int32))).toInt.toNat, by omega⟩ : Fin 1024).val = ((p0 &&& (1023 : Int32))) from (own_of _ hb.1).symm] at h
  exact h
theorem pd0_0 : parseMethodDescriptor "(I)J" = some ⟨[.int], some .long⟩ := by decide +kernel
theorem pn0 : plainName "com/example/surebit/surebit/generator/QuadSystemByteLengthPinLaw" = true := by first | (simp [plainName, overriddenIn]; done) | decide +kernel
theorem ef0 (m : MethodId) (x0 : Int32) : entryFrame m #[(.int x0)] maxLocals = mkF m 0 #[.val (.int x0), .unset, .unset, .unset, .unset, .unset, .unset, .unset, .unset, .unset, .unset, .unset, .unset, .unset] [] := by first | (simp [entryFrame, mkF, argsToLocals, Value.category, maxLocals]; done) | rfl
set_option maxRecDepth 65536 in
set_option maxHeartbeats 40000000 in
theorem rm_law (l : Launch) (Z : State) (a0 : Array Value) (hw : ∀ d ∈ tables_1, d.before a0 Z = true) (ws : List Jvm.Cond) (p0 : Int32)  (h0 : Heap) (n0 : Nat) (Z0 : n0 ≤ h0.size)  :
    MetFree l x (head1 (Jvm.Cond.code x code maxLocals ret :: ws) room_1) (fun a U => a = #[(.int p0)] ∧ Z.Warmed39 U.vm ∧ U.heap = h0) (fun _ _ _ _ _ => True) (fun _ U o U' => ∃ v L, o = .returned v ∧ QL n0 v U'.heap L ∧ FrameEnd U o U' L 0 0) := by
  refine MetFree.of_bodySF (plainFor_of_name pn0) hisR ?_
  intro p e s m args below meth c s₁ Bd hml0 hP hK
  obtain ⟨rfl, hZ, hh⟩ := hP
  have hx := Bd.exec
  have hby := Bd.bytes
  have hret := Bd.returns
  have hlk := Bd.notSynchronized
  have hml : c.maxLocals = 14 := hml0
  have hown : s.vm.findClass "com/example/surebit/surebit/generator/QuadSystemByteLengthPinLaw" = some m.cls := findClass_of_methodNamed Bd.named
  have hnm := (name_of_methodNamed Bd.named Bd.method).1
  have X0 : Stand p l e room_1 s m #[(.int p0)] below meth c s₁ [] 0 0 := Stand.of_body Bd
  have e0 : s₁.heap = h0 := by rw [← hh, Bd.state]; rfl
  have N0 := Fr.nil n0
  show Wp p e below (fun o s₂ => ∃ v L, o = .returned v ∧ QL n0 v s₂.heap L ∧ FrameEnd s o s₂ L 0 0) _
  refine Wp.back (U' := (s₁.setTop (mkF m 0 #[.val (.int p0), .unset, .unset, .unset, .unset, .unset, .unset, .unset, .unset, .unset, .unset, .unset, .unset, .unset] []))) (fun t k => castTop (ef0 m p0) k) ?_
  refine Wp.back (U' := (s₁.setTop (mkF m 14 #[.val (.int p0), .val (.int ((p0 &&& (1023 : Int32)) + (1 : Int32))), .val (.long (((p0 &&& (1023 : Int32)) + (1 : Int32))).toInt64), .second, .unset, .unset, .unset, .unset, .unset, .unset, .unset, .unset, .unset, .unset] [(.long (1 : Int64)), (.long (((p0 &&& (1023 : Int32)) + (1 : Int32))).toInt64), (.long (((p0 &&& (1023 : Int32)) + (1 : Int32))).toInt64)]))) (fun t k => XS.iloadN X0.here hx rfl (hb hby at_0) rfl (XT.sipushV X0.here hx rfl (1023 : Int32) (hb hby at_1) (by decide) (XS.iand X0.here hx rfl (hb hby at_4) rfl (XT.iconstV X0.here hx rfl (1 : Int32) (hb hby at_5) (by decide) (XS.iadd X0.here hx rfl (hb hby at_6) rfl (XS.istoreN X0.here hx rfl (hb hby at_7) rfl (l' := #[.val (.int p0), .val (.int ((p0 &&& (1023 : Int32)) + (1 : Int32))), .unset, .unset, .unset, .unset, .unset, .unset, .unset, .unset, .unset, .unset, .unset, .unset]) rfl (XS.iloadN X0.here hx rfl (hb hby at_8) rfl (XS.i2l X0.here hx rfl (hb hby at_9) rfl (XS.lstoreN X0.here hx rfl (hb hby at_10) rfl (l' := #[.val (.int p0), .val (.int ((p0 &&& (1023 : Int32)) + (1 : Int32))), .val (.long (((p0 &&& (1023 : Int32)) + (1 : Int32))).toInt64), .second, .unset, .unset, .unset, .unset, .unset, .unset, .unset, .unset, .unset, .unset]) rfl (XS.lloadN X0.here hx rfl (hb hby at_11) rfl (XS.lloadN X0.here hx rfl (hb hby at_12) rfl (XT.lconstV X0.here hx rfl (1 : Int64) (hb hby at_13) (by decide) k)))))))))))) ?_
  refine Wp.back (U' := (s₁.setTop (mkF m 33 #[.val (.int p0), .val (.int ((p0 &&& (1023 : Int32)) + (1 : Int32))), .val (.long (((p0 &&& (1023 : Int32)) + (1 : Int32))).toInt64), .second, .val (.long (((((p0 &&& (1023 : Int32)) + (1 : Int32))).toInt64 * ((((p0 &&& (1023 : Int32)) + (1 : Int32))).toInt64 - (1 : Int64))) / (2 : Int64))), .second, .val (.long (((((((p0 &&& (1023 : Int32)) + (1 : Int32))).toInt64 * ((((p0 &&& (1023 : Int32)) + (1 : Int32))).toInt64 - (1 : Int64))) / (2 : Int64)) + (((p0 &&& (1023 : Int32)) + (1 : Int32))).toInt64) + (1 : Int64))), .second, .unset, .unset, .unset, .unset, .unset, .unset] [(.long (2 : Int64))]))) (fun t k => XS.lsub X0.here hx rfl (hb hby at_14) rfl (XS.lmul X0.here hx rfl (hb hby at_15) rfl (Jvm.Stand.ldc2J X0 hx hown (mvT hZ (hw _ (List.mem_of_getElem? (i := 0) rfl))) rfl (hb hby at_16) (XS.ldiv X0.here hx rfl (hb hby at_19) rfl (by decide) (XS.lstore X0.here hx rfl (hb hby at_20) rfl (l' := #[.val (.int p0), .val (.int ((p0 &&& (1023 : Int32)) + (1 : Int32))), .val (.long (((p0 &&& (1023 : Int32)) + (1 : Int32))).toInt64), .second, .val (.long (((((p0 &&& (1023 : Int32)) + (1 : Int32))).toInt64 * ((((p0 &&& (1023 : Int32)) + (1 : Int32))).toInt64 - (1 : Int64))) / (2 : Int64))), .second, .unset, .unset, .unset, .unset, .unset, .unset, .unset, .unset]) rfl (XS.lload X0.here hx rfl (hb hby at_22) rfl (XS.lloadN X0.here hx rfl (hb hby at_24) rfl (XS.ladd X0.here hx rfl (hb hby at_25) rfl (XT.lconstV X0.here hx rfl (1 : Int64) (hb hby at_26) (by decide) (XS.ladd X0.here hx rfl (hb hby at_27) rfl (XS.lstore X0.here hx rfl (hb hby at_28) rfl (l' := #[.val (.int p0), .val (.int ((p0 &&& (1023 : Int32)) + (1 : Int32))), .val (.long (((p0 &&& (1023 : Int32)) + (1 : Int32))).toInt64), .second, .val (.long (((((p0 &&& (1023 : Int32)) + (1 : Int32))).toInt64 * ((((p0 &&& (1023 : Int32)) + (1 : Int32))).toInt64 - (1 : Int64))) / (2 : Int64))), .second, .val (.long (((((((p0 &&& (1023 : Int32)) + (1 : Int32))).toInt64 * ((((p0 &&& (1023 : Int32)) + (1 : Int32))).toInt64 - (1 : Int64))) / (2 : Int64)) + (((p0 &&& (1023 : Int32)) + (1 : Int32))).toInt64) + (1 : Int64))), .second, .unset, .unset, .unset, .unset, .unset, .unset]) rfl (Jvm.Stand.ldc2J X0 hx hown (mvT hZ (hw _ (List.mem_of_getElem? (i := 0) rfl))) rfl (hb hby at_30) k)))))))))))) ?_
  refine Wp.back (U' := (s₁.setTop (mkF m 47 #[.val (.int p0), .val (.int ((p0 &&& (1023 : Int32)) + (1 : Int32))), .val (.long (((p0 &&& (1023 : Int32)) + (1 : Int32))).toInt64), .second, .val (.long (((((p0 &&& (1023 : Int32)) + (1 : Int32))).toInt64 * ((((p0 &&& (1023 : Int32)) + (1 : Int32))).toInt64 - (1 : Int64))) / (2 : Int64))), .second, .val (.long (((((((p0 &&& (1023 : Int32)) + (1 : Int32))).toInt64 * ((((p0 &&& (1023 : Int32)) + (1 : Int32))).toInt64 - (1 : Int64))) / (2 : Int64)) + (((p0 &&& (1023 : Int32)) + (1 : Int32))).toInt64) + (1 : Int64))), .second, .val (.long (((2 : Int64) * (((p0 &&& (1023 : Int32)) + (1 : Int32))).toInt64) * (((((((p0 &&& (1023 : Int32)) + (1 : Int32))).toInt64 * ((((p0 &&& (1023 : Int32)) + (1 : Int32))).toInt64 - (1 : Int64))) / (2 : Int64)) + (((p0 &&& (1023 : Int32)) + (1 : Int32))).toInt64) + (1 : Int64)))), .second, .unset, .unset, .unset, .unset] [(.long (((p0 &&& (1023 : Int32)) + (1 : Int32))).toInt64), (.long (((p0 &&& (1023 : Int32)) + (1 : Int32))).toInt64), (.long (((((p0 &&& (1023 : Int32)) + (1 : Int32))).toInt64 * (((p0 &&& (1023 : Int32)) + (1 : Int32))).toInt64) * (((p0 &&& (1023 : Int32)) + (1 : Int32))).toInt64))]))) (fun t k => XS.lloadN X0.here hx rfl (hb hby at_33) rfl (XS.lmul X0.here hx rfl (hb hby at_34) rfl (XS.lload X0.here hx rfl (hb hby at_35) rfl (XS.lmul X0.here hx rfl (hb hby at_37) rfl (XS.lstore X0.here hx rfl (hb hby at_38) rfl (l' := #[.val (.int p0), .val (.int ((p0 &&& (1023 : Int32)) + (1 : Int32))), .val (.long (((p0 &&& (1023 : Int32)) + (1 : Int32))).toInt64), .second, .val (.long (((((p0 &&& (1023 : Int32)) + (1 : Int32))).toInt64 * ((((p0 &&& (1023 : Int32)) + (1 : Int32))).toInt64 - (1 : Int64))) / (2 : Int64))), .second, .val (.long (((((((p0 &&& (1023 : Int32)) + (1 : Int32))).toInt64 * ((((p0 &&& (1023 : Int32)) + (1 : Int32))).toInt64 - (1 : Int64))) / (2 : Int64)) + (((p0 &&& (1023 : Int32)) + (1 : Int32))).toInt64) + (1 : Int64))), .second, .val (.long (((2 : Int64) * (((p0 &&& (1023 : Int32)) + (1 : Int32))).toInt64) * (((((((p0 &&& (1023 : Int32)) + (1 : Int32))).toInt64 * ((((p0 &&& (1023 : Int32)) + (1 : Int32))).toInt64 - (1 : Int64))) / (2 : Int64)) + (((p0 &&& (1023 : Int32)) + (1 : Int32))).toInt64) + (1 : Int64)))), .second, .unset, .unset, .unset, .unset]) rfl (XS.lloadN X0.here hx rfl (hb hby at_40) rfl (XS.lloadN X0.here hx rfl (hb hby at_41) rfl (XS.lmul X0.here hx rfl (hb hby at_42) rfl (XS.lloadN X0.here hx rfl (hb hby at_43) rfl (XS.lmul X0.here hx rfl (hb hby at_44) rfl (XS.lloadN X0.here hx rfl (hb hby at_45) rfl (XS.lloadN X0.here hx rfl (hb hby at_46) rfl k)))))))))))) ?_
  refine Wp.back (U' := (s₁.setTop (mkF m 68 #[.val (.int p0), .val (.int ((p0 &&& (1023 : Int32)) + (1 : Int32))), .val (.long (((p0 &&& (1023 : Int32)) + (1 : Int32))).toInt64), .second, .val (.long (((((p0 &&& (1023 : Int32)) + (1 : Int32))).toInt64 * ((((p0 &&& (1023 : Int32)) + (1 : Int32))).toInt64 - (1 : Int64))) / (2 : Int64))), .second, .val (.long (((((((p0 &&& (1023 : Int32)) + (1 : Int32))).toInt64 * ((((p0 &&& (1023 : Int32)) + (1 : Int32))).toInt64 - (1 : Int64))) / (2 : Int64)) + (((p0 &&& (1023 : Int32)) + (1 : Int32))).toInt64) + (1 : Int64))), .second, .val (.long (((2 : Int64) * (((p0 &&& (1023 : Int32)) + (1 : Int32))).toInt64) * (((((((p0 &&& (1023 : Int32)) + (1 : Int32))).toInt64 * ((((p0 &&& (1023 : Int32)) + (1 : Int32))).toInt64 - (1 : Int64))) / (2 : Int64)) + (((p0 &&& (1023 : Int32)) + (1 : Int32))).toInt64) + (1 : Int64)))), .second, .val (.long (((((((p0 &&& (1023 : Int32)) + (1 : Int32))).toInt64 * (((p0 &&& (1023 : Int32)) + (1 : Int32))).toInt64) * (((p0 &&& (1023 : Int32)) + (1 : Int32))).toInt64) + ((((p0 &&& (1023 : Int32)) + (1 : Int32))).toInt64 * (((p0 &&& (1023 : Int32)) + (1 : Int32))).toInt64)) + ((2 : Int64) * (((p0 &&& (1023 : Int32)) + (1 : Int32))).toInt64))), .second, .unset, .unset] [(.int ((p0 &&& (1023 : Int32)) + (1 : Int32)))]))) (fun t k => XS.lmul X0.here hx rfl (hb hby at_47) rfl (XS.ladd X0.here hx rfl (hb hby at_48) rfl (Jvm.Stand.ldc2J X0 hx hown (mvT hZ (hw _ (List.mem_of_getElem? (i := 0) rfl))) rfl (hb hby at_49) (XS.lloadN X0.here hx rfl (hb hby at_52) rfl (XS.lmul X0.here hx rfl (hb hby at_53) rfl (XS.ladd X0.here hx rfl (hb hby at_54) rfl (XS.lstore X0.here hx rfl (hb hby at_55) rfl (l' := #[.val (.int p0), .val (.int ((p0 &&& (1023 : Int32)) + (1 : Int32))), .val (.long (((p0 &&& (1023 : Int32)) + (1 : Int32))).toInt64), .second, .val (.long (((((p0 &&& (1023 : Int32)) + (1 : Int32))).toInt64 * ((((p0 &&& (1023 : Int32)) + (1 : Int32))).toInt64 - (1 : Int64))) / (2 : Int64))), .second, .val (.long (((((((p0 &&& (1023 : Int32)) + (1 : Int32))).toInt64 * ((((p0 &&& (1023 : Int32)) + (1 : Int32))).toInt64 - (1 : Int64))) / (2 : Int64)) + (((p0 &&& (1023 : Int32)) + (1 : Int32))).toInt64) + (1 : Int64))), .second, .val (.long (((2 : Int64) * (((p0 &&& (1023 : Int32)) + (1 : Int32))).toInt64) * (((((((p0 &&& (1023 : Int32)) + (1 : Int32))).toInt64 * ((((p0 &&& (1023 : Int32)) + (1 : Int32))).toInt64 - (1 : Int64))) / (2 : Int64)) + (((p0 &&& (1023 : Int32)) + (1 : Int32))).toInt64) + (1 : Int64)))), .second, .val (.long (((((((p0 &&& (1023 : Int32)) + (1 : Int32))).toInt64 * (((p0 &&& (1023 : Int32)) + (1 : Int32))).toInt64) * (((p0 &&& (1023 : Int32)) + (1 : Int32))).toInt64) + ((((p0 &&& (1023 : Int32)) + (1 : Int32))).toInt64 * (((p0 &&& (1023 : Int32)) + (1 : Int32))).toInt64)) + ((2 : Int64) * (((p0 &&& (1023 : Int32)) + (1 : Int32))).toInt64))), .second, .unset, .unset]) rfl (XS.lload X0.here hx rfl (hb hby at_57) rfl (XS.lload X0.here hx rfl (hb hby at_59) rfl (XS.lcmp X0.here hx rfl (hb hby at_61) rfl (XS.ifYes X0.here hx rfl (pc0 := 62) (pc' := 67) rfl (hb hby at_62) rfl ((if0 _ _).trans (teq ((lw_eq (((2 : Int64) * (((p0 &&& (1023 : Int32)) + (1 : Int32))).toInt64) * (((((((p0 &&& (1023 : Int32)) + (1 : Int32))).toInt64 * ((((p0 &&& (1023 : Int32)) + (1 : Int32))).toInt64 - (1 : Int64))) / (2 : Int64)) + (((p0 &&& (1023 : Int32)) + (1 : Int32))).toInt64) + (1 : Int64))) (((((((p0 &&& (1023 : Int32)) + (1 : Int32))).toInt64 * (((p0 &&& (1023 : Int32)) + (1 : Int32))).toInt64) * (((p0 &&& (1023 : Int32)) + (1 : Int32))).toInt64) + ((((p0 &&& (1023 : Int32)) + (1 : Int32))).toInt64 * (((p0 &&& (1023 : Int32)) + (1 : Int32))).toInt64)) + ((2 : Int64) * (((p0 &&& (1023 : Int32)) + (1 : Int32))).toInt64))).mpr (own_b62 p0))).1) (by decide) (by decide) (XS.iloadN X0.here hx rfl (hb hby at_67) rfl k)))))))))))) ?_
  obtain ⟨_, _, ⟨T1, L1, k1, n1⟩, -, X1, ⟨Lc1, hQ1, l1, y1, z1⟩, st1⟩ := Jvm.LawKit.callS X0 hx (y := (⟨"com/example/surebit/surebit/generator/QuadSystem", "byteLength", "(I)J"⟩ : MethodName)) hown (mvT hZ (hw _ (List.mem_of_getElem? (i := 1) rfl))) (mvT hZ (hw _ (List.mem_of_getElem? (i := 2) rfl))) (mvT hZ (hw _ (List.mem_of_getElem? (i := 3) rfl))) (mvT hZ (hw _ (List.mem_of_getElem? (i := 4) rfl))) (by decide) (backOf (W := 0) (rm_f_bl l Z a0 hw [] ((p0 &&& (1023 : Int32)) + (1 : Int32)) h0 n0 Z0 (own_r1 p0) (own_r2 p0)) hZ (hw _ (List.mem_of_getElem? (i := 4) rfl)) (hw _ (List.mem_of_getElem? (i := 3) rfl)) (by decide) (by decide)) (g := (mkF m 68 #[.val (.int p0), .val (.int ((p0 &&& (1023 : Int32)) + (1 : Int32))), .val (.long (((p0 &&& (1023 : Int32)) + (1 : Int32))).toInt64), .second, .val (.long (((((p0 &&& (1023 : Int32)) + (1 : Int32))).toInt64 * ((((p0 &&& (1023 : Int32)) + (1 : Int32))).toInt64 - (1 : Int64))) / (2 : Int64))), .second, .val (.long (((((((p0 &&& (1023 : Int32)) + (1 : Int32))).toInt64 * ((((p0 &&& (1023 : Int32)) + (1 : Int32))).toInt64 - (1 : Int64))) / (2 : Int64)) + (((p0 &&& (1023 : Int32)) + (1 : Int32))).toInt64) + (1 : Int64))), .second, .val (.long (((2 : Int64) * (((p0 &&& (1023 : Int32)) + (1 : Int32))).toInt64) * (((((((p0 &&& (1023 : Int32)) + (1 : Int32))).toInt64 * ((((p0 &&& (1023 : Int32)) + (1 : Int32))).toInt64 - (1 : Int64))) / (2 : Int64)) + (((p0 &&& (1023 : Int32)) + (1 : Int32))).toInt64) + (1 : Int64)))), .second, .val (.long (((((((p0 &&& (1023 : Int32)) + (1 : Int32))).toInt64 * (((p0 &&& (1023 : Int32)) + (1 : Int32))).toInt64) * (((p0 &&& (1023 : Int32)) + (1 : Int32))).toInt64) + ((((p0 &&& (1023 : Int32)) + (1 : Int32))).toInt64 * (((p0 &&& (1023 : Int32)) + (1 : Int32))).toInt64)) + ((2 : Int64) * (((p0 &&& (1023 : Int32)) + (1 : Int32))).toInt64))), .second, .unset, .unset] [(.int ((p0 &&& (1023 : Int32)) + (1 : Int32)))])) rfl (by rw [hml]; rfl) (argsL := [(.int ((p0 &&& (1023 : Int32)) + (1 : Int32)))]) (rest := []) (lenOf pd0_0 rfl) rfl (by show 2 * 0 + _ ≤ _; exact Nat.le_of_eq rfl) (hb hby at_68) (fun _ _ => ⟨rfl, e0, (by decide : 0 + 0 ≤ _), (by decide : 0 + 0 ≤ _)⟩)
  dsimp only [Pt.U, Pt.locs, Pt.cells, Pt.slots] at X1 l1 y1 z1 st1 hQ1
  subst l1 y1 z1
  obtain ⟨rfl, N1q, e1⟩ := hQ1
  have N1 := Fr.app N0 N1q
  refine Wp.back (U' := (T1.setTop (mkF m 71 #[.val (.int p0), .val (.int ((p0 &&& (1023 : Int32)) + (1 : Int32))), .val (.long (((p0 &&& (1023 : Int32)) + (1 : Int32))).toInt64), .second, .val (.long (((((p0 &&& (1023 : Int32)) + (1 : Int32))).toInt64 * ((((p0 &&& (1023 : Int32)) + (1 : Int32))).toInt64 - (1 : Int64))) / (2 : Int64))), .second, .val (.long (((((((p0 &&& (1023 : Int32)) + (1 : Int32))).toInt64 * ((((p0 &&& (1023 : Int32)) + (1 : Int32))).toInt64 - (1 : Int64))) / (2 : Int64)) + (((p0 &&& (1023 : Int32)) + (1 : Int32))).toInt64) + (1 : Int64))), .second, .val (.long (((2 : Int64) * (((p0 &&& (1023 : Int32)) + (1 : Int32))).toInt64) * (((((((p0 &&& (1023 : Int32)) + (1 : Int32))).toInt64 * ((((p0 &&& (1023 : Int32)) + (1 : Int32))).toInt64 - (1 : Int64))) / (2 : Int64)) + (((p0 &&& (1023 : Int32)) + (1 : Int32))).toInt64) + (1 : Int64)))), .second, .val (.long (((((((p0 &&& (1023 : Int32)) + (1 : Int32))).toInt64 * (((p0 &&& (1023 : Int32)) + (1 : Int32))).toInt64) * (((p0 &&& (1023 : Int32)) + (1 : Int32))).toInt64) + ((((p0 &&& (1023 : Int32)) + (1 : Int32))).toInt64 * (((p0 &&& (1023 : Int32)) + (1 : Int32))).toInt64)) + ((2 : Int64) * (((p0 &&& (1023 : Int32)) + (1 : Int32))).toInt64))), .second, .unset, .unset] [(.long (f_bl ((p0 &&& (1023 : Int32)) + (1 : Int32))))]))) st1 ?_
  refine Wp.back (U' := (T1.setTop (mkF m 95 #[.val (.int p0), .val (.int ((p0 &&& (1023 : Int32)) + (1 : Int32))), .val (.long (((p0 &&& (1023 : Int32)) + (1 : Int32))).toInt64), .second, .val (.long (((((p0 &&& (1023 : Int32)) + (1 : Int32))).toInt64 * ((((p0 &&& (1023 : Int32)) + (1 : Int32))).toInt64 - (1 : Int64))) / (2 : Int64))), .second, .val (.long (((((((p0 &&& (1023 : Int32)) + (1 : Int32))).toInt64 * ((((p0 &&& (1023 : Int32)) + (1 : Int32))).toInt64 - (1 : Int64))) / (2 : Int64)) + (((p0 &&& (1023 : Int32)) + (1 : Int32))).toInt64) + (1 : Int64))), .second, .val (.long (((2 : Int64) * (((p0 &&& (1023 : Int32)) + (1 : Int32))).toInt64) * (((((((p0 &&& (1023 : Int32)) + (1 : Int32))).toInt64 * ((((p0 &&& (1023 : Int32)) + (1 : Int32))).toInt64 - (1 : Int64))) / (2 : Int64)) + (((p0 &&& (1023 : Int32)) + (1 : Int32))).toInt64) + (1 : Int64)))), .second, .val (.long (((((((p0 &&& (1023 : Int32)) + (1 : Int32))).toInt64 * (((p0 &&& (1023 : Int32)) + (1 : Int32))).toInt64) * (((p0 &&& (1023 : Int32)) + (1 : Int32))).toInt64) + ((((p0 &&& (1023 : Int32)) + (1 : Int32))).toInt64 * (((p0 &&& (1023 : Int32)) + (1 : Int32))).toInt64)) + ((2 : Int64) * (((p0 &&& (1023 : Int32)) + (1 : Int32))).toInt64))), .second, .val (.long (f_bl ((p0 &&& (1023 : Int32)) + (1 : Int32)))), .second] [(.long (((8 : Int64) * (f_bl ((p0 &&& (1023 : Int32)) + (1 : Int32)))) - (7 : Int64)))]))) (fun t k => XS.lstore X1.here hx rfl (hb hby at_71) rfl (l' := #[.val (.int p0), .val (.int ((p0 &&& (1023 : Int32)) + (1 : Int32))), .val (.long (((p0 &&& (1023 : Int32)) + (1 : Int32))).toInt64), .second, .val (.long (((((p0 &&& (1023 : Int32)) + (1 : Int32))).toInt64 * ((((p0 &&& (1023 : Int32)) + (1 : Int32))).toInt64 - (1 : Int64))) / (2 : Int64))), .second, .val (.long (((((((p0 &&& (1023 : Int32)) + (1 : Int32))).toInt64 * ((((p0 &&& (1023 : Int32)) + (1 : Int32))).toInt64 - (1 : Int64))) / (2 : Int64)) + (((p0 &&& (1023 : Int32)) + (1 : Int32))).toInt64) + (1 : Int64))), .second, .val (.long (((2 : Int64) * (((p0 &&& (1023 : Int32)) + (1 : Int32))).toInt64) * (((((((p0 &&& (1023 : Int32)) + (1 : Int32))).toInt64 * ((((p0 &&& (1023 : Int32)) + (1 : Int32))).toInt64 - (1 : Int64))) / (2 : Int64)) + (((p0 &&& (1023 : Int32)) + (1 : Int32))).toInt64) + (1 : Int64)))), .second, .val (.long (((((((p0 &&& (1023 : Int32)) + (1 : Int32))).toInt64 * (((p0 &&& (1023 : Int32)) + (1 : Int32))).toInt64) * (((p0 &&& (1023 : Int32)) + (1 : Int32))).toInt64) + ((((p0 &&& (1023 : Int32)) + (1 : Int32))).toInt64 * (((p0 &&& (1023 : Int32)) + (1 : Int32))).toInt64)) + ((2 : Int64) * (((p0 &&& (1023 : Int32)) + (1 : Int32))).toInt64))), .second, .val (.long (f_bl ((p0 &&& (1023 : Int32)) + (1 : Int32)))), .second]) rfl (Jvm.Stand.ldc2J X1 hx hown (mvT hZ (hw _ (List.mem_of_getElem? (i := 14) rfl))) rfl (hb hby at_73) (XS.lload X1.here hx rfl (hb hby at_76) rfl (XS.lmul X1.here hx rfl (hb hby at_78) rfl (XS.lload X1.here hx rfl (hb hby at_79) rfl (XS.lcmp X1.here hx rfl (hb hby at_81) rfl (XS.ifNo X1.here hx rfl (hb hby at_82) rfl ((if0 _ _).trans (flt (fun q => (own_b82 p0) ((lw_lt ((8 : Int64) * (f_bl ((p0 &&& (1023 : Int32)) + (1 : Int32)))) (((2 : Int64) * (((p0 &&& (1023 : Int32)) + (1 : Int32))).toInt64) * (((((((p0 &&& (1023 : Int32)) + (1 : Int32))).toInt64 * ((((p0 &&& (1023 : Int32)) + (1 : Int32))).toInt64 - (1 : Int64))) / (2 : Int64)) + (((p0 &&& (1023 : Int32)) + (1 : Int32))).toInt64) + (1 : Int64)))).mp q))).1) (Jvm.Stand.ldc2J X1 hx hown (mvT hZ (hw _ (List.mem_of_getElem? (i := 14) rfl))) rfl (hb hby at_85) (XS.lload X1.here hx rfl (hb hby at_88) rfl (XS.lmul X1.here hx rfl (hb hby at_90) rfl (Jvm.Stand.ldc2J X1 hx hown (mvT hZ (hw _ (List.mem_of_getElem? (i := 15) rfl))) rfl (hb hby at_91) (XS.lsub X1.here hx rfl (hb hby at_94) rfl k)))))))))))) ?_
  refine Wp.back (U' := (T1.setTop (mkF m 106 #[.val (.int p0), .val (.int ((p0 &&& (1023 : Int32)) + (1 : Int32))), .val (.long (((p0 &&& (1023 : Int32)) + (1 : Int32))).toInt64), .second, .val (.long (((((p0 &&& (1023 : Int32)) + (1 : Int32))).toInt64 * ((((p0 &&& (1023 : Int32)) + (1 : Int32))).toInt64 - (1 : Int64))) / (2 : Int64))), .second, .val (.long (((((((p0 &&& (1023 : Int32)) + (1 : Int32))).toInt64 * ((((p0 &&& (1023 : Int32)) + (1 : Int32))).toInt64 - (1 : Int64))) / (2 : Int64)) + (((p0 &&& (1023 : Int32)) + (1 : Int32))).toInt64) + (1 : Int64))), .second, .val (.long (((2 : Int64) * (((p0 &&& (1023 : Int32)) + (1 : Int32))).toInt64) * (((((((p0 &&& (1023 : Int32)) + (1 : Int32))).toInt64 * ((((p0 &&& (1023 : Int32)) + (1 : Int32))).toInt64 - (1 : Int64))) / (2 : Int64)) + (((p0 &&& (1023 : Int32)) + (1 : Int32))).toInt64) + (1 : Int64)))), .second, .val (.long (((((((p0 &&& (1023 : Int32)) + (1 : Int32))).toInt64 * (((p0 &&& (1023 : Int32)) + (1 : Int32))).toInt64) * (((p0 &&& (1023 : Int32)) + (1 : Int32))).toInt64) + ((((p0 &&& (1023 : Int32)) + (1 : Int32))).toInt64 * (((p0 &&& (1023 : Int32)) + (1 : Int32))).toInt64)) + ((2 : Int64) * (((p0 &&& (1023 : Int32)) + (1 : Int32))).toInt64))), .second, .val (.long (f_bl ((p0 &&& (1023 : Int32)) + (1 : Int32)))), .second] [(.int (1 : Int32))]))) (fun t k => XS.lload X1.here hx rfl (hb hby at_95) rfl (XS.lcmp X1.here hx rfl (hb hby at_97) rfl (XS.ifNo X1.here hx rfl (hb hby at_98) rfl ((if0 _ _).trans (flt (fun q => (own_b98 p0) ((lw_gt (((8 : Int64) * (f_bl ((p0 &&& (1023 : Int32)) + (1 : Int32)))) - (7 : Int64)) (((2 : Int64) * (((p0 &&& (1023 : Int32)) + (1 : Int32))).toInt64) * (((((((p0 &&& (1023 : Int32)) + (1 : Int32))).toInt64 * ((((p0 &&& (1023 : Int32)) + (1 : Int32))).toInt64 - (1 : Int64))) / (2 : Int64)) + (((p0 &&& (1023 : Int32)) + (1 : Int32))).toInt64) + (1 : Int64)))).mp q))).2.2.1) (XT.iconstV X1.here hx rfl (1 : Int32) (hb hby at_101) (by decide) (XS.goto X1.here hx rfl (pc0 := 102) (pc' := 106) rfl (hb hby at_102) (by decide) (by decide) k))))) ?_
  obtain ⟨fs, hr, hrun, hended, hW, hsame⟩ := X1.leave (v := (some (.int (1 : Int32)))) (fun h => by rw [hret] at h; cases h)
  refine Wp.done (retN X1 hx (t := .boolean) hret (by simp) (hb hby at_106) hr) hrun hended ⟨_, _, rfl, ?_, ⟨_, rfl⟩, hW, hsame.mono (by decide) (by decide)⟩
  show QL n0 _ T1.heap _
  exact ⟨rfl, N1⟩
set_option maxRecDepth 65536 in
set_option maxHeartbeats 40000000 in
theorem comes_1 {Post : Tables → Env → Array Value → State → Outcome → State → Prop} (hpost : ∀ tb e args s v u, (limb_1_1.after args s (.returned v) u = true ∧ limb_1_2.after args s (.returned v) u = true ∧ True) → FrameEnd s (.returned v) u (Jvm.fieldLocs frame_1_writes args s ++ Jvm.arrayLocs frame_1_arrays args s ++ Jvm.staticLocs frame_1_statics s) 0 0 → Post tb e args s (.returned v) u) :
    ArmFor flags0 classFile x code maxLocals ret World_1 tables_1 room_1 Calls_1 rest_1 Pre_1 Post := by
  intro l hfl _ _ p e ha hc hk s m args below hf hA hF happ hP
  obtain ⟨hcalls, hrest, hpre⟩ := hP
  obtain ⟨-, -, -, hnamed, -, -, -, hat⟩ := (Spec.applies_iff hf).mp happ
  obtain ⟨hg, hn⟩ := and_e (Cond.before_iff.mp (show (Jvm.Cond.and given_1 narrow_1).before args s = true from hpre))
  obtain ⟨hg1, hg2⟩ := and_e hg
  obtain ⟨w0, rfl⟩ : ∃ w0 : Value, args = #[w0] := by
    have hs : args.size = 1 := by simpa [Cond.value, given_1] using hg1
    obtain ⟨L⟩ := args
    match L, hs with
    | [w0], _ => exact ⟨w0, rfl⟩
  have hw := fun d (hd : d ∈ tables_1) => atoms_spec (ws := Jvm.Cond.code x code maxLocals ret :: tables_1) hat d (List.mem_cons_of_mem _ hd)
  have hfit : Fit s := fun {y c} hc i hi => by
    obtain ⟨ha, rfl⟩ := Array.getElem?_eq_some_iff.mp hc
    have q := List.all_eq_true.mp ((Array.all_eq_true_iff_forall_mem.mp hF) _ (Array.getElem_mem ha)) i (List.mem_range.mpr hi)
    simpa [Array.getElem?_eq_getElem hi] using q
  obtain ⟨i0, ei0⟩ := is_v hg2
  obtain rfl : w0 = (.int i0) := Option.some.inj ei0
  obtain ⟨n, o, h1, h2, h3, _, L, rfl, ⟨rfl, N⟩, hq⟩ := rm_law l s _ hw tables_1 i0 s.heap s.heap.size (Nat.le_refl _)  p e ha hc hk s m _ below hf ((Spec.applies_iff_loose hf).mp happ).1 ⟨rfl, State.Warmed39.refl s, rfl⟩ trivial
  refine ⟨n, _, h1, h2, h3, hpost _ _ _ _ _ _ ⟨Cond.after_iff.mpr rfl, Cond.after_iff.mpr (eq_i res_at (Term.int_eval (1)) rfl), trivial⟩ ⟨hq.1, hq.2.1, (hq.2.2.sift fun y hy => Or.inr (N y hy)).mono (by decide) (by decide)⟩⟩
theorem main_1_1 : Claimed_1_1 := comes_1 fun _ _ _ _ _ _ h hF => ⟨h.1, hF⟩
theorem main_1_2 : Claimed_1_2 := comes_1 fun _ _ _ _ _ _ h hF => ⟨h.2.1, hF⟩
end Jvm.Pilot.@@N@@
namespace Jvm.Pilot.@@N@@
open Jvm Jvm.ClassFile Sem Op Lib Jvm.Free Jvm.Stand Jvm.Pilot.@@N@@.Jvm.D
/-! MADE BY PROGRAM (witnessworld.py) out of the Statement's table words and the real class files: 9 classes; the members and pool entries that the words name. The judged class is class 1, her method 1. -/
namespace start1
open Jvm.ClassFile
def u (s : String) : CpInfo := .utf8 (stringToUtf16 s)
/-- a pool by its gaps: so many unusable entries, then the entry; so many at the end -/
def gap : Nat → List CpInfo → List CpInfo
  | 0, r => r
  | n + 1, r => .unusable :: gap n r
def poolList (es : List (Nat × CpInfo)) (last : Nat) : List CpInfo := es.foldr (fun e r => gap e.1 (e.2 :: r)) (gap last [])
def pool (es : List (Nat × CpInfo)) (last : Nat) : Array CpInfo := ⟨poolList es last⟩
def fileOf (pool : Array CpInfo) (this : Nat) (attrs : Array Attribute := #[]) (ms : Array MethodInfo := #[]) (fl : Nat := 33) (sup : Nat := 0) (ifs : Array Nat := #[]) (fds : Array FieldInfo := #[]) : ClassFile where
  minorVersion := 0
  majorVersion := 65
  constantPool := pool
  accessFlags := fl
  thisClass := this
  superClass := sup
  interfaces := ifs
  fields := fds
  methods := ms
  attributes := attrs
def plain (name : String) (sup : Option ClassId) : Class where
  name := name
  kind := .ordinary
  loader := none
  accessFlags := 33
  super := sup
  interfaces := #[]
  cf := none
  fields := #[]
  methods := #[]
  instanceTypes := #[]
  staticTypes := #[]
  resolved := #[]
  callSites := []
  init := .initialized
  statics := none
  mirror := none

def pool0 : Array CpInfo := pool [(5, u "<init>"), (0, u "()V"), (1, .class_ 10), (1, u "java/lang/Object")] 113

def k0m0 : Method := { name := "<init>", desc := "()V", sig := { parameters := [], returnType := none }, accessFlags := 1, code := none }
/-- java/lang/Object -/
def k0 : Class := { plain "java/lang/Object" none with
  accessFlags := 33
  interfaces := #[]
  cf := some (fileOf pool0 8 #[] #[{ accessFlags := 1, nameIndex := 5, descriptorIndex := 6, attributes := #[] }] 33 0 #[] #[])
  fields := #[]
  methods := #[k0m0]
  instanceTypes := #[]
  staticTypes := #[]
  resolved := Array.replicate 124 none
  statics := none }

def pool1 : Array CpInfo := pool [(2, .class_ 4), (1, u "java/lang/Object"), (0, u "<init>"), (0, u "()V"), (0, .long 2), (1, .methodref 10 11), (0, .class_ 12), (0, .nameAndType 13 14), (0, u "com/example/surebit/surebit/generator/QuadSystem"), (0, u "byteLength"), (0, u "(I)J"), (0, .long 8), (1, .long 7), (1, .class_ 20), (0, u "com/example/surebit/surebit/generator/QuadSystemByteLengthPinLaw"), (2, u "law"), (0, u "(I)Z")] 3

def k1m0 : Method := { name := "<init>", desc := "()V", sig := { parameters := [], returnType := none }, accessFlags := 2, code := none }
def k1c1 : Code := { maxStack := 6, maxLocals := 14, code := code, exceptionTable := #[], attributes := #[] }
def k1m1 : Method := { name := "law", desc := "(I)Z", sig := { parameters := [.int], returnType := some .boolean }, accessFlags := 9, code := some k1c1 }
/-- com/example/surebit/surebit/generator/QuadSystemByteLengthPinLaw -/
def k1 : Class := { plain "com/example/surebit/surebit/generator/QuadSystemByteLengthPinLaw" (some 0) with
  accessFlags := 49
  interfaces := #[]
  cf := some (fileOf pool1 19 #[] #[{ accessFlags := 2, nameIndex := 5, descriptorIndex := 6, attributes := #[] }, { accessFlags := 9, nameIndex := 23, descriptorIndex := 24, attributes := #[] }] 49 2 #[] #[])
  fields := #[]
  methods := #[k1m0, k1m1]
  instanceTypes := #[]
  staticTypes := #[]
  resolved := Array.replicate 28 none
  statics := none }

def pool2 : Array CpInfo := pool [(2, .class_ 4), (1, u "java/lang/Object"), (3, .class_ 10), (1, u "com/example/surebit/surebit/generator/QuadSystem"), (0, u "variables"), (0, u "I"), (0, .methodref 8 14), (0, .nameAndType 15 16), (0, u "terms"), (0, u "(I)I"), (7, u "words"), (2, u "columns"), (0, u "[J"), (2, u "pairBase"), (0, u "[I"), (0, .methodref 8 34), (0, .nameAndType 35 36), (0, u "checkVariables"), (0, u "(I)V"), (0, .long 2), (1, .long 7), (1, .long 8), (16, .class_ 59), (0, u "com/example/surebit/surebit/generator/QuadSystem$BitInput"), (2, u "byteLength"), (0, u "(I)J"), (58, u "MIN_VARIABLES"), (2, u "MAX_VARIABLES"), (1, u "CHUNK")] 51

def k2c0 : Code := { maxStack := 4, maxLocals := 1, code := prog_27_method_2_code, exceptionTable := #[], attributes := #[] }
def k2m0 : Method := { name := "byteLength", desc := "(I)J", sig := { parameters := [.int], returnType := some .long }, accessFlags := 9, code := some k2c0 }
def k2c1 : Code := { maxStack := 3, maxLocals := 1, code := prog_27_method_12_code, exceptionTable := #[], attributes := #[] }
def k2m1 : Method := { name := "terms", desc := "(I)I", sig := { parameters := [.int], returnType := some .int }, accessFlags := 10, code := some k2c1 }
def k2c2 : Code := { maxStack := 3, maxLocals := 1, code := prog_27_method_15_code, exceptionTable := #[], attributes := #[] }
def k2m2 : Method := { name := "checkVariables", desc := "(I)V", sig := { parameters := [.int], returnType := none }, accessFlags := 8, code := some k2c2 }
/-- com/example/surebit/surebit/generator/QuadSystem -/
def k2 : Class := { plain "com/example/surebit/surebit/generator/QuadSystem" (some 0) with
  accessFlags := 49
  interfaces := #[]
  cf := some (fileOf pool2 8 #[.nestMembers #[58]] #[{ accessFlags := 9, nameIndex := 62, descriptorIndex := 63, attributes := #[] }, { accessFlags := 10, nameIndex := 15, descriptorIndex := 16, attributes := #[] }, { accessFlags := 8, nameIndex := 35, descriptorIndex := 36, attributes := #[] }] 49 2 #[] #[{ accessFlags := 25, nameIndex := 122, descriptorIndex := 12, attributes := #[] }, { accessFlags := 25, nameIndex := 125, descriptorIndex := 12, attributes := #[] }, { accessFlags := 26, nameIndex := 127, descriptorIndex := 12, attributes := #[] }, { accessFlags := 18, nameIndex := 11, descriptorIndex := 12, attributes := #[] }, { accessFlags := 18, nameIndex := 15, descriptorIndex := 12, attributes := #[] }, { accessFlags := 18, nameIndex := 24, descriptorIndex := 12, attributes := #[] }, { accessFlags := 18, nameIndex := 27, descriptorIndex := 28, attributes := #[] }, { accessFlags := 18, nameIndex := 31, descriptorIndex := 32, attributes := #[] }])
  fields := #[{ name := "MIN_VARIABLES", type := .int, accessFlags := 25, slot := 0, constantValue := 0 }, { name := "MAX_VARIABLES", type := .int, accessFlags := 25, slot := 1, constantValue := 0 }, { name := "CHUNK", type := .int, accessFlags := 26, slot := 2, constantValue := 0 }, { name := "variables", type := .int, accessFlags := 18, slot := 0, constantValue := 0 }, { name := "terms", type := .int, accessFlags := 18, slot := 1, constantValue := 0 }, { name := "words", type := .int, accessFlags := 18, slot := 2, constantValue := 0 }, { name := "columns", type := (.array .long), accessFlags := 18, slot := 3, constantValue := 0 }, { name := "pairBase", type := (.array .int), accessFlags := 18, slot := 4, constantValue := 0 }]
  methods := #[k2m0, k2m1, k2m2]
  instanceTypes := #[.int, .int, .int, (.array .long), (.array .int)]
  staticTypes := #[.int, .int, .int]
  resolved := Array.replicate 179 none
  statics := none }

def pool3 : Array CpInfo := pool [(1, u "java/lang/Cloneable"), (0, .class_ 1), (0, u "java/lang/Object"), (0, .class_ 3)] 3

/-- java/lang/Cloneable -/
def k3 : Class := { plain "java/lang/Cloneable" (some 0) with
  accessFlags := 1537
  interfaces := #[]
  cf := some (fileOf pool3 2 #[] #[] 1537 4 #[] #[])
  fields := #[]
  methods := #[]
  instanceTypes := #[]
  staticTypes := #[]
  resolved := Array.replicate 8 none
  statics := none }

def pool4 : Array CpInfo := pool [(1, u "java/io/Serializable"), (0, .class_ 1), (0, u "java/lang/Object"), (0, .class_ 3)] 3

/-- java/io/Serializable -/
def k4 : Class := { plain "java/io/Serializable" (some 0) with
  accessFlags := 1537
  interfaces := #[]
  cf := some (fileOf pool4 2 #[] #[] 1537 4 #[] #[])
  fields := #[]
  methods := #[]
  instanceTypes := #[]
  staticTypes := #[]
  resolved := Array.replicate 8 none
  statics := none }

/-- the primitive byte -/
def k5 : Class := { plain "byte" none with kind := .primitive 'B', accessFlags := 0x411 }
/-- [B -/
def k6 : Class := { plain "[B" (some 0) with kind := .array 5 .byte, interfaces := #[3, 4], accessFlags := 1041 }

/-- the primitive int -/
def k7 : Class := { plain "int" none with kind := .primitive 'I', accessFlags := 0x411 }
/-- [I -/
def k8 : Class := { plain "[I" (some 0) with kind := .array 7 .int, interfaces := #[3, 4], accessFlags := 1041 }

def heap : Heap := #[]
def classes : Array Class := #[k0, k1, k2, k3, k4, k5, k6, k7, k8]
def interned : List (Array UInt16 × Addr) := []
def slotsUsed : Nat := 0
def theMethod : MethodId := ⟨1, 1⟩
def args0 : Array Value := #[.int 5]
def aboutOver (below : List Frame) : State where
  vm := { classes := classes, interned := interned.toArray }
  heap := heap
  slotsUsed := slotsUsed
  threads := #[{ frames := .invoking theMethod args0 :: below }]
def below0 : List Frame := [.native { method := ⟨0, 0⟩, args := #[] }]
def about1 : State := aboutOver below0
def p0 : Program := .bare "" "" ""
def e0 : Env := launch0.env 0 0 0
theorem w_frames : about1.frames = Frame.invoking theMethod args0 :: below0 := rfl
set_option maxRecDepth 65536 in
theorem w_args : argsFit about1.vm theMethod args0 = true := by decide +kernel
set_option maxRecDepth 65536 in
theorem w_heap : heapFits about1 = true := by decide +kernel
set_option maxRecDepth 65536 in
theorem w_runnable : about1.curStatus? = some .runnable := by decide +kernel
set_option maxRecDepth 65536 in
theorem w_alone : about1.alone = true := by decide +kernel
set_option maxRecDepth 65536 in
theorem w_named : about1.methodNamed? x = some theMethod := by decide +kernel
set_option maxRecDepth 65536 in
theorem w_hears : about1.hears theMethod below0 = true := by decide +kernel
set_option maxRecDepth 65536 in
theorem w_ripe : about1.ripe theMethod args0 below0 = true := by decide +kernel
theorem w_running : about1.status = .running := rfl
set_option maxRecDepth 65536 in
theorem w_room : about1.hasRoom e0.platform room_1 = true :=
  launch0.hasRoom_least _ room_1 (by decide +kernel) (by decide +kernel) (by decide +kernel) (by decide +kernel) (by decide +kernel) (by decide +kernel)
theorem allAtoms_all (ts : List Jvm.Cond) (a : Array Jvm.Value) (st : Jvm.State) : (allAtoms ts).before a st = ts.all (fun c => c.before a st) := by
  induction ts with
  | nil => rfl
  | cons c t ih =>
    show (Jvm.Cond.and c (allAtoms t)).before a st = _
    rw [Jvm.Cond.before_and, ih, List.all_cons]
def words1 : List Jvm.Cond := Jvm.Cond.code x code maxLocals ret :: tables_1
/-- a 'code' word, met by the world's own term for the bytes: nothing is compared byte by byte -/
theorem code_word {y : MethodName} {bytes : ByteArray} {mx : Nat} {rt : Option FieldType} {a : Array Value} {s : State} {m : MethodId} {meth : Method} {c : Code} (h1 : s.methodNamed? y = some m) (h2 : s.vm.method? m = some meth) (h3 : meth.code = some c) (h4 : c.code = bytes)
    (h5 : (c.maxLocals == mx && c.exceptionTable.isEmpty && decide (c.maxStack ≤ mostOperands) && decide (meth.sig.returnType = rt) && !meth.locks && decide (parseMethodDescriptor y.desc = some meth.sig)) = true) : (Jvm.Cond.code y bytes mx rt).before a s = true := by
  simp only [Bool.and_eq_true, beq_iff_eq, Bool.not_eq_true', decide_eq_true_eq] at h5
  obtain ⟨⟨⟨⟨⟨g1, g2⟩, g3⟩, g4⟩, g5⟩, g6⟩ := h5
  simp [Cond.before, Cond.holds, Cond.value, h1, h2, h3, h4, g1, g2, g3, g4, g5, g6]
def isCode : Jvm.Cond → Bool
  | .code _ _ _ _ => true
  | _ => false
theorem all_split {L : List Jvm.Cond} {P : Jvm.Cond → Bool} (h1 : L.all (fun c => isCode c || P c) = true) (h2 : ∀ c ∈ L.filter isCode, P c = true) : L.all P = true := by
  refine List.all_eq_true.mpr fun c hc => ?_
  have h := List.all_eq_true.mp h1 c hc
  rcases Bool.eq_false_or_eq_true (isCode c) with hi | hi
  · exact h2 c (List.mem_filter.mpr ⟨hc, hi⟩)
  · simpa [hi] using h
set_option maxRecDepth 65536 in
theorem w_c0 : (Jvm.Cond.code x code maxLocals ret).before args0 about1 = true := code_word (m := ⟨1, 1⟩) (meth := k1m1) (c := k1c1) (by decide +kernel) rfl rfl rfl (by decide +kernel)
set_option maxRecDepth 65536 in
theorem w_c1 : (Jvm.Cond.code ({ cls := "com/example/surebit/surebit/generator/QuadSystem", name := "byteLength", desc := "(I)J" } : Jvm.MethodName) prog_27_method_2_code (1 : Nat) (Option.some Jvm.ClassFile.FieldType.long)).before args0 about1 = true := code_word (m := ⟨2, 0⟩) (meth := k2m0) (c := k2c0) (by decide +kernel) rfl rfl rfl (by decide +kernel)
set_option maxRecDepth 65536 in
theorem w_c2 : (Jvm.Cond.code ({ cls := "com/example/surebit/surebit/generator/QuadSystem", name := "checkVariables", desc := "(I)V" } : Jvm.MethodName) prog_27_method_15_code (1 : Nat) (Option.none : Option Jvm.ClassFile.FieldType)).before args0 about1 = true := code_word (m := ⟨2, 2⟩) (meth := k2m2) (c := k2c2) (by decide +kernel) rfl rfl rfl (by decide +kernel)
set_option maxRecDepth 65536 in
theorem w_c3 : (Jvm.Cond.code ({ cls := "com/example/surebit/surebit/generator/QuadSystem", name := "terms", desc := "(I)I" } : Jvm.MethodName) prog_27_method_12_code (1 : Nat) (Option.some Jvm.ClassFile.FieldType.int)).before args0 about1 = true := code_word (m := ⟨2, 1⟩) (meth := k2m1) (c := k2c1) (by decide +kernel) rfl rfl rfl (by decide +kernel)
def codes1 : List Jvm.Cond := [Jvm.Cond.code x code maxLocals ret, Jvm.Cond.code ({ cls := "com/example/surebit/surebit/generator/QuadSystem", name := "byteLength", desc := "(I)J" } : Jvm.MethodName) prog_27_method_2_code (1 : Nat) (Option.some Jvm.ClassFile.FieldType.long), Jvm.Cond.code ({ cls := "com/example/surebit/surebit/generator/QuadSystem", name := "checkVariables", desc := "(I)V" } : Jvm.MethodName) prog_27_method_15_code (1 : Nat) (Option.none : Option Jvm.ClassFile.FieldType), Jvm.Cond.code ({ cls := "com/example/surebit/surebit/generator/QuadSystem", name := "terms", desc := "(I)I" } : Jvm.MethodName) prog_27_method_12_code (1 : Nat) (Option.some Jvm.ClassFile.FieldType.int)]
set_option maxRecDepth 65536 in
theorem codes_eq : words1.filter isCode = codes1 := rfl
theorem w_codes : ∀ c ∈ words1.filter isCode, c.before args0 about1 = true := by
  rw [codes_eq]
  intro c hc
  simp only [codes1, List.mem_cons, List.not_mem_nil, or_false] at hc
  rcases hc with rfl | rfl | rfl | rfl
  · exact w_c0
  · exact w_c1
  · exact w_c2
  · exact w_c3
set_option maxRecDepth 65536 in
theorem w_t1 : words1.all (fun c => isCode c || c.before args0 about1) = true := by decide +kernel
theorem w_tables : (allAtoms (Jvm.Cond.code x code maxLocals ret :: tables_1)).before args0 about1 = true := by
  rw [allAtoms_all]
  show words1.all (fun c => c.before args0 about1) = true
  refine all_split ?_ w_codes
  rw [w_t1]
set_option maxRecDepth 65536 in
theorem w_case : (Jvm.Cond.and given_1 narrow_1).before args0 about1 = true := by decide +kernel
theorem w_applies : (headSpec (Jvm.Cond.code x code maxLocals ret :: tables_1) room_1).applies x e0.platform about1 = true :=
  (Spec.applies_iff w_frames).mpr ⟨w_running, w_runnable, w_alone, w_named, w_hears, w_ripe, w_room, w_tables⟩
theorem atStart : AtStart classFile x code maxLocals ret World_1 tables_1 room_1 Calls_1 rest_1 Pre_1 launch0 p0 e0 about1 theMethod args0 below0 :=
  ⟨lists_1, trivial, launch0.admits_env _ _ _, launch0.least_env, fairChoices_fair.cas, fairChoices_fair.clock, w_frames, w_args, w_heap, w_applies, trivial, trivial, w_case⟩
end start1
theorem witness_1 : WitnessClaimed_1 := ⟨start1.p0, start1.e0, start1.about1, start1.theMethod, start1.args0, start1.below0, start1.atStart⟩
end Jvm.Pilot.@@N@@
