import JvmDerived
import JvmDerived.Pilot.@@N@@Statement
import JvmDerived.Pilot.@@N@@Code
set_option linter.unusedVariables false
set_option linter.unusedSimpArgs false
namespace Jvm.RoadKit
open Sem ClassFile Op Lib Jvm.Stand Jvm.Free Jvm.LawKit
section New
variable {p : Program} {l : Launch} {e : Env} {R : Room} {s : State} {m : MethodId} {args : Array Value} {below : List Frame} {meth : Method} {c : Code} {T : State} {locs : List Loc} {cells slots : Nat}
theorem retI (X : Stand p l e R s m args below meth c T locs cells slots) (hx : p.tables.exec = Jvm.exec) {pc : Nat} {Ls : Array Slot} {z : Int32} {rest : List Value} (hret : meth.sig.returnType = some .int) (hd : decode c.code pc = .ok (.ireturn, 1)) {fs : List Frame}
    (hl : ∀ (f : JFrame) (acts : List Action), f.method = m → f.locked = none → f.entered = [] → (doReturn e (T.setTop f) acts (some (.int z))).1 = T.setFrames fs) : Steps p.tables e below (T.setTop (mkF m pc Ls (.int z :: rest))) (T.setFrames fs) := by
  have hm' : T.vm.method? m = some meth := X.method'
  have hn : narrow .int (.int z) = .int z := rfl
  show Steps p.tables e below (T.setTop { method := m, pc := pc, locals := Ls, stack := _ :: rest, locked := none }) _
  jvm_step X.here [X.here.top, hx, hd, hm', hret, hn]
  first | (intro acts; rw [hl _ acts rfl rfl rfl]) | rw [hl _ _ rfl rfl rfl]
  exact Steps.refl _
end New
end Jvm.RoadKit
namespace Jvm.Pilot.@@N@@
open Jvm Jvm.ClassFile Sem Op Lib Jvm.Free Jvm.Stand Jvm.LawKit Jvm.RoadKit Bundle Jvm.Pilot.@@N@@.Jvm.D
def Wp (p : Program) (e : Env) (below : List Frame) (G : Outcome → State → Prop) (U : State) : Prop := ∃ s₂ o, Steps p.tables e below U s₂ ∧ s₂.status = .running ∧ Ended s₂ below o ∧ G o s₂
theorem Wp.back {p : Program} {e : Env} {below : List Frame} {G : Outcome → State → Prop} {U U' : State} (k : ∀ t, Steps p.tables e below U' t → Steps p.tables e below U t) (h : Wp p e below G U') : Wp p e below G U := by
  obtain ⟨s₂, o, h1, h2⟩ := h
  exact ⟨s₂, o, k _ h1, h2⟩
theorem Wp.done {p : Program} {e : Env} {below : List Frame} {G : Outcome → State → Prop} {U t : State} {o : Outcome} (h1 : Steps p.tables e below U t) (h2 : t.status = .running) (h3 : Ended t below o) (h4 : G o t) : Wp p e below G U := ⟨t, o, h1, h2, h3, h4⟩
/-- what a body leaves that writes nothing -/
def QL (n0 : Nat) (v : Option Value) (h : Heap) (L : List Loc) : Prop := v = some (.int 1) ∧ Fr n0 L
def QP (r : Option Value) (h0 : Heap) (n0 : Nat) (v : Option Value) (h : Heap) (L : List Loc) : Prop := v = r ∧ Fr n0 L ∧ h = h0
theorem own_irrefl (x : Int32) : ¬ x < x := by rw [Int32.lt_iff_toInt_lt]; omega
theorem Sta_keep0 {Z : State} {h h' : Heap} {C n d : String} {v : Value} (F : Sta Z h C n d v) (K : Keep h h' []) : Sta Z h' C n d v := by
  obtain ⟨cf, i, k, f, st, cell, h1, h2, h3, h4, h5, r⟩ := F
  exact ⟨cf, i, k, f, st, cell, h1, h2, h3, h4, K.2.1 _ _ h5 nin0, r⟩
def Q_ini (Z : State) (ar : Addr) (x1 : Addr) (x2 : Addr) (x3 : Addr)  (h0 : Heap) (n0 : Nat) (v : Option Value) (h : Heap) (L : List Loc) : Prop := v = none ∧ Fr n0 L ∧ Keep h0 h [ar] ∧ Exa Z h ar "com/example/mill_river/millriver/index/Postings" ∧ Fld Z h ar "com/example/mill_river/millriver/index/Postings" "starts" "[I" (.ref x2)
theorem d1_0 : decode prog_51_method_1_code 0 = .ok (.aload_n 0, 1) := by decide +kernel
theorem d1_1 : decode prog_51_method_1_code 1 = .ok (.invokespecial 1, 3) := by decide +kernel
theorem d1_4 : decode prog_51_method_1_code 4 = .ok (.aload_n 0, 1) := by decide +kernel
theorem d1_5 : decode prog_51_method_1_code 5 = .ok (.aload_n 1, 1) := by decide +kernel
theorem d1_6 : decode prog_51_method_1_code 6 = .ok (.putfield 7, 3) := by decide +kernel
theorem d1_9 : decode prog_51_method_1_code 9 = .ok (.aload_n 0, 1) := by decide +kernel
theorem d1_10 : decode prog_51_method_1_code 10 = .ok (.aload_n 2, 1) := by decide +kernel
theorem d1_11 : decode prog_51_method_1_code 11 = .ok (.putfield 13, 3) := by decide +kernel
theorem d1_14 : decode prog_51_method_1_code 14 = .ok (.aload_n 0, 1) := by decide +kernel
theorem d1_15 : decode prog_51_method_1_code 15 = .ok (.aload_n 3, 1) := by decide +kernel
theorem d1_16 : decode prog_51_method_1_code 16 = .ok (.putfield 16, 3) := by decide +kernel
theorem d1_19 : decode prog_51_method_1_code 19 = .ok (.return_, 1) := by decide +kernel
theorem pn1 : plainName "com/example/mill_river/millriver/index/Postings" = true := by first | (simp [plainName, overriddenIn]; done) | decide +kernel
theorem ef1 (m : MethodId) (x0 : Addr) (x1 : Addr) (x2 : Addr) (x3 : Addr) : entryFrame m #[(.ref x0), (.ref x1), (.ref x2), (.ref x3)] 4 = mkF m 0 #[.val (.ref x0), .val (.ref x1), .val (.ref x2), .val (.ref x3)] [] := by first | (simp [entryFrame, mkF, argsToLocals, Value.category]; done) | rfl
set_option maxRecDepth 65536 in
set_option maxHeartbeats 40000000 in
theorem rm_ini (l : Launch) (Z : State) (a0 : Array Value) (hw : ∀ d ∈ tables_1, d.before a0 Z = true) (ws : List Jvm.Cond) (ar : Addr) (x1 : Addr) (x2 : Addr) (x3 : Addr)  (h0 : Heap) (n0 : Nat) (Z0 : n0 ≤ h0.size) (H0 : Exa Z h0 ar "com/example/mill_river/millriver/index/Postings") (H1 : Fld Z h0 ar "com/example/mill_river/millriver/index/Postings" "documents" "[I" .null) (H2 : Fld Z h0 ar "com/example/mill_river/millriver/index/Postings" "starts" "[I" .null) (H3 : Fld Z h0 ar "com/example/mill_river/millriver/index/Postings" "offsets" "[I" .null) (g_ar : n0 ≤ ar) :
    MetFree l (⟨"com/example/mill_river/millriver/index/Postings", "<init>", "([I[I[I)V"⟩ : MethodName) (head1 (Jvm.Cond.code (⟨"com/example/mill_river/millriver/index/Postings", "<init>", "([I[I[I)V"⟩ : MethodName) prog_51_method_1_code 4 none :: ws) ({ frames := 1, cells := 0, slots := 0, locals := 12 } : Room)) (fun a U => a = #[(.ref ar), (.ref x1), (.ref x2), (.ref x3)] ∧ Z.Warmed39 U.vm ∧ U.heap = h0) (fun _ _ _ _ _ => True) (fun _ U o U' => ∃ v L, o = .returned v ∧ Q_ini Z ar x1 x2 x3 h0 n0 v U'.heap L ∧ FrameEnd U o U' L ({ frames := 1, cells := 0, slots := 0, locals := 12 } : Room).cells ({ frames := 1, cells := 0, slots := 0, locals := 12 } : Room).slots) := by
  refine MetFree.of_bodySF (plainFor_of_name pn1) hisR ?_
  intro p e s m args below meth c s₁ Bd hml0 hP hK
  obtain ⟨rfl, hZ, hh⟩ := hP
  have hx := Bd.exec
  have hby := Bd.bytes
  have hret := Bd.returns
  have hlk := Bd.notSynchronized
  have hml : c.maxLocals = 4 := hml0
  have hown : s.vm.findClass "com/example/mill_river/millriver/index/Postings" = some m.cls := findClass_of_methodNamed Bd.named
  have hnm := (name_of_methodNamed Bd.named Bd.method).1
  have X0 : Stand p l e ({ frames := 1, cells := 0, slots := 0, locals := 12 } : Room) s m #[(.ref ar), (.ref x1), (.ref x2), (.ref x3)] below meth c s₁ [] 0 0 := Stand.of_body Bd
  have e0 : s₁.heap = h0 := by rw [← hh, Bd.state]; rfl
  have N0 := Fr.nil n0
  show Wp p e below (fun o s₂ => ∃ v L, o = .returned v ∧ Q_ini Z ar x1 x2 x3 h0 n0 v s₂.heap L ∧ FrameEnd s o s₂ L ({ frames := 1, cells := 0, slots := 0, locals := 12 } : Room).cells ({ frames := 1, cells := 0, slots := 0, locals := 12 } : Room).slots) _
  refine Wp.back (U' := (s₁.setTop (mkF m 0 #[.val (.ref ar), .val (.ref x1), .val (.ref x2), .val (.ref x3)] []))) (fun t k => castTop (ef1 m ar x1 x2 x3) k) ?_
  refine Wp.back (U' := (s₁.setTop (mkF m 1 #[.val (.ref ar), .val (.ref x1), .val (.ref x2), .val (.ref x3)] [(.ref ar)]))) (fun t k => XS.aloadN X0.here hx rfl (hb hby d1_0) rfl rfl k) ?_
  obtain ⟨T1, X1, e1, st1⟩ := initO X0 hx hZ hown (hw _ (List.mem_of_getElem? (i := 7) rfl)) (hw _ (List.mem_of_getElem? (i := 8) rfl)) (hw _ (List.mem_of_getElem? (i := 9) rfl)) e0 (g := (mkF m 1 #[.val (.ref ar), .val (.ref x1), .val (.ref x2), .val (.ref x3)] [(.ref ar)])) rfl (by rw [hml]; rfl) rfl (hb hby d1_1) (by decide) (W := 0) (by show 2 * 0 + _ ≤ _; exact Nat.le_of_eq rfl) (by decide)
  refine Wp.back (U' := (T1.setTop (mkF m 4 #[.val (.ref ar), .val (.ref x1), .val (.ref x2), .val (.ref x3)] []))) st1 ?_
  refine Wp.back (U' := (T1.setTop (mkF m 6 #[.val (.ref ar), .val (.ref x1), .val (.ref x2), .val (.ref x3)] [(.ref x1), (.ref ar)]))) (fun t k => XS.aloadN X1.here hx rfl (hb hby d1_4) rfl rfl (XS.aloadN X1.here hx rfl (hb hby d1_5) rfl rfl k)) ?_
  obtain ⟨T2, h2, X2, e2, W2, st2⟩ := putF X1 hx hZ hown (host := "") (Or.inl (hw _ (List.mem_of_getElem? (i := 10) rfl))) Via.refl e1 H1 H0 (Or.inr ⟨(hw _ (List.mem_of_getElem? (i := 11) rfl)), rfl, hnm⟩) (hw _ (List.mem_of_getElem? (i := 2) rfl)) (ty := (.array .int)) (by decide) rfl rfl (g := (mkF m 6 #[.val (.ref ar), .val (.ref x1), .val (.ref x2), .val (.ref x3)] [(.ref x1), (.ref ar)])) rfl rfl (hb hby d1_6)
  have Fw2 := H1.same W2
  have f3_0 := Nat.le_trans Z0 (Keep.of_wr W2).1
  have f3_1 := H0.wr W2
  have f3_2 := H2.other W2 (Or.inr (slot_ne (Or.inr (hw _ (List.mem_of_getElem? (i := 13) rfl))) (Or.inr (hw _ (List.mem_of_getElem? (i := 11) rfl))) (by decide) (t := (.array .int)) (t' := (.array .int)) (by decide) (by decide)))
  have f3_3 := H3.other W2 (Or.inr (slot_ne (Or.inr (hw _ (List.mem_of_getElem? (i := 15) rfl))) (Or.inr (hw _ (List.mem_of_getElem? (i := 11) rfl))) (by decide) (t := (.array .int)) (t' := (.array .int)) (by decide) (by decide)))
  have f3_4 := (Keep.refl h0 [ar]).wr W2 (Or.inl (List.mem_of_getElem? (i := 0) rfl))
  have N2 := Fr.snoc X2 N0 g_ar
  refine Wp.back (U' := (T2.setTop (mkF m 9 #[.val (.ref ar), .val (.ref x1), .val (.ref x2), .val (.ref x3)] []))) st2 ?_
  refine Wp.back (U' := (T2.setTop (mkF m 11 #[.val (.ref ar), .val (.ref x1), .val (.ref x2), .val (.ref x3)] [(.ref x2), (.ref ar)]))) (fun t k => XS.aloadN X2.here hx rfl (hb hby d1_9) rfl rfl (XS.aloadN X2.here hx rfl (hb hby d1_10) rfl rfl k)) ?_
  obtain ⟨T4, h4, X4, e4, W4, st4⟩ := putF X2 hx hZ hown (host := "") (Or.inl (hw _ (List.mem_of_getElem? (i := 12) rfl))) Via.refl e2 f3_2 f3_1 (Or.inr ⟨(hw _ (List.mem_of_getElem? (i := 13) rfl)), rfl, hnm⟩) (hw _ (List.mem_of_getElem? (i := 2) rfl)) (ty := (.array .int)) (by decide) rfl rfl (g := (mkF m 11 #[.val (.ref ar), .val (.ref x1), .val (.ref x2), .val (.ref x3)] [(.ref x2), (.ref ar)])) rfl rfl (hb hby d1_11)
  have Fw4 := f3_2.same W4
  have f5_0 := Nat.le_trans f3_0 (Keep.of_wr W4).1
  have f5_1 := f3_1.wr W4
  have f5_2 := f3_3.other W4 (Or.inr (slot_ne (Or.inr (hw _ (List.mem_of_getElem? (i := 15) rfl))) (Or.inr (hw _ (List.mem_of_getElem? (i := 13) rfl))) (by decide) (t := (.array .int)) (t' := (.array .int)) (by decide) (by decide)))
  have f5_3 := f3_4.wr W4 (Or.inl (List.mem_of_getElem? (i := 0) rfl))
  have f5_4 := Fw2.other W4 (Or.inr (slot_ne (Or.inr (hw _ (List.mem_of_getElem? (i := 11) rfl))) (Or.inr (hw _ (List.mem_of_getElem? (i := 13) rfl))) (by decide) (t := (.array .int)) (t' := (.array .int)) (by decide) (by decide)))
  have N4 := Fr.snoc X4 N2 g_ar
  refine Wp.back (U' := (T4.setTop (mkF m 14 #[.val (.ref ar), .val (.ref x1), .val (.ref x2), .val (.ref x3)] []))) st4 ?_
  refine Wp.back (U' := (T4.setTop (mkF m 16 #[.val (.ref ar), .val (.ref x1), .val (.ref x2), .val (.ref x3)] [(.ref x3), (.ref ar)]))) (fun t k => XS.aloadN X4.here hx rfl (hb hby d1_14) rfl rfl (XS.aloadN X4.here hx rfl (hb hby d1_15) rfl rfl k)) ?_
  obtain ⟨T6, h6, X6, e6, W6, st6⟩ := putF X4 hx hZ hown (host := "") (Or.inl (hw _ (List.mem_of_getElem? (i := 14) rfl))) Via.refl e4 f5_2 f5_1 (Or.inr ⟨(hw _ (List.mem_of_getElem? (i := 15) rfl)), rfl, hnm⟩) (hw _ (List.mem_of_getElem? (i := 2) rfl)) (ty := (.array .int)) (by decide) rfl rfl (g := (mkF m 16 #[.val (.ref ar), .val (.ref x1), .val (.ref x2), .val (.ref x3)] [(.ref x3), (.ref ar)])) rfl rfl (hb hby d1_16)
  have Fw6 := f5_2.same W6
  have f7_0 := Nat.le_trans f5_0 (Keep.of_wr W6).1
  have f7_1 := f5_1.wr W6
  have f7_2 := f5_3.wr W6 (Or.inl (List.mem_of_getElem? (i := 0) rfl))
  have f7_3 := f5_4.other W6 (Or.inr (slot_ne (Or.inr (hw _ (List.mem_of_getElem? (i := 11) rfl))) (Or.inr (hw _ (List.mem_of_getElem? (i := 15) rfl))) (by decide) (t := (.array .int)) (t' := (.array .int)) (by decide) (by decide)))
  have f7_4 := Fw4.other W6 (Or.inr (slot_ne (Or.inr (hw _ (List.mem_of_getElem? (i := 13) rfl))) (Or.inr (hw _ (List.mem_of_getElem? (i := 15) rfl))) (by decide) (t := (.array .int)) (t' := (.array .int)) (by decide) (by decide)))
  have N6 := Fr.snoc X6 N4 g_ar
  refine Wp.back (U' := (T6.setTop (mkF m 19 #[.val (.ref ar), .val (.ref x1), .val (.ref x2), .val (.ref x3)] []))) st6 ?_
  obtain ⟨fs, hr, hrun, hended, hW, hsame⟩ := X6.leave (v := none) (fun _ => rfl)
  refine Wp.done (X6.returnOut hx hret (hb hby d1_19) hr) hrun hended ⟨_, _, rfl, ?_, ⟨_, rfl⟩, hW, hsame.mono (by decide) (by decide)⟩
  show Q_ini Z ar x1 x2 x3 h0 n0 _ T6.heap _
  rw [e6]
  exact ⟨rfl, N6, f7_2, f7_1, f7_4⟩
def Q_fq0 (Z : State) (ar : Addr) (sa : Addr) (ks : ClassId) (s0 : Int32) (s1 : Int32) (s2 : Int32) (s3 : Int32) (h0 : Heap) (n0 : Nat) (v : Option Value) (h : Heap) (L : List Loc) : Prop := v = some (.int (s1 - s0)) ∧ Fr n0 L ∧ Keep h0 h []
theorem i0d3_0 : decode prog_51_method_5_code 0 = .ok (.aload_n 0, 1) := by decide +kernel
theorem i0d3_1 : decode prog_51_method_5_code 1 = .ok (.getfield 13, 3) := by decide +kernel
theorem i0d3_4 : decode prog_51_method_5_code 4 = .ok (.iload_n 1, 1) := by decide +kernel
theorem i0d3_5 : decode prog_51_method_5_code 5 = .ok (.iconst 1, 1) := by decide +kernel
theorem i0d3_6 : decode prog_51_method_5_code 6 = .ok (.iadd, 1) := by decide +kernel
theorem i0d3_7 : decode prog_51_method_5_code 7 = .ok (.iaload, 1) := by decide +kernel
theorem i0d3_8 : decode prog_51_method_5_code 8 = .ok (.aload_n 0, 1) := by decide +kernel
theorem i0d3_9 : decode prog_51_method_5_code 9 = .ok (.getfield 13, 3) := by decide +kernel
theorem i0d3_12 : decode prog_51_method_5_code 12 = .ok (.iload_n 1, 1) := by decide +kernel
theorem i0d3_13 : decode prog_51_method_5_code 13 = .ok (.iaload, 1) := by decide +kernel
theorem i0d3_14 : decode prog_51_method_5_code 14 = .ok (.isub, 1) := by decide +kernel
theorem i0d3_15 : decode prog_51_method_5_code 15 = .ok (.ireturn, 1) := by decide +kernel
theorem i0pn3 : plainName "com/example/mill_river/millriver/index/Postings" = true := by first | (simp [plainName, overriddenIn]; done) | decide +kernel
theorem i0ef3 (m : MethodId) (x0 : Addr) (x1 : Int32) : entryFrame m #[(.ref x0), (.int x1)] 2 = mkF m 0 #[.val (.ref x0), .val (.int x1)] [] := by first | (simp [entryFrame, mkF, argsToLocals, Value.category]; done) | rfl
set_option maxRecDepth 65536 in
set_option maxHeartbeats 40000000 in
theorem rm_fq0 (l : Launch) (Z : State) (a0 : Array Value) (hw : ∀ d ∈ tables_1, d.before a0 Z = true) (ws : List Jvm.Cond) (ar : Addr) (sa : Addr) (ks : ClassId) (s0 : Int32) (s1 : Int32) (s2 : Int32) (s3 : Int32) (h0 : Heap) (n0 : Nat) (Z0 : n0 ≤ h0.size) (H0 : Fld Z h0 ar "com/example/mill_river/millriver/index/Postings" "starts" "[I" (.ref sa)) (H1 : Arv Z h0 sa ks .int (4 : Int32) [(.int s0), (.int s1), (.int s2), (.int s3)] (.int (0 : Int32))) :
    MetFree l (⟨"com/example/mill_river/millriver/index/Postings", "frequency", "(I)I"⟩ : MethodName) (head1 (Jvm.Cond.code (⟨"com/example/mill_river/millriver/index/Postings", "frequency", "(I)I"⟩ : MethodName) prog_51_method_5_code 2 (some .int) :: ws) ({ frames := 0, cells := 0, slots := 0, locals := 0 } : Room)) (fun a U => a = #[(.ref ar), (.int (0 : Int32))] ∧ Z.Warmed39 U.vm ∧ U.heap = h0) (fun _ _ _ _ _ => True) (fun _ U o U' => ∃ v L, o = .returned v ∧ Q_fq0 Z ar sa ks s0 s1 s2 s3 h0 n0 v U'.heap L ∧ FrameEnd U o U' L ({ frames := 0, cells := 0, slots := 0, locals := 0 } : Room).cells ({ frames := 0, cells := 0, slots := 0, locals := 0 } : Room).slots) := by
  refine MetFree.of_bodySF (plainFor_of_name i0pn3) hisR ?_
  intro p e s m args below meth c s₁ Bd hml0 hP hK
  obtain ⟨rfl, hZ, hh⟩ := hP
  have hx := Bd.exec
  have hby := Bd.bytes
  have hret := Bd.returns
  have hlk := Bd.notSynchronized
  have hml : c.maxLocals = 2 := hml0
  have hown : s.vm.findClass "com/example/mill_river/millriver/index/Postings" = some m.cls := findClass_of_methodNamed Bd.named
  have hnm := (name_of_methodNamed Bd.named Bd.method).1
  have X0 : Stand p l e ({ frames := 0, cells := 0, slots := 0, locals := 0 } : Room) s m #[(.ref ar), (.int (0 : Int32))] below meth c s₁ [] 0 0 := Stand.of_body Bd
  have e0 : s₁.heap = h0 := by rw [← hh, Bd.state]; rfl
  have N0 := Fr.nil n0
  show Wp p e below (fun o s₂ => ∃ v L, o = .returned v ∧ Q_fq0 Z ar sa ks s0 s1 s2 s3 h0 n0 v s₂.heap L ∧ FrameEnd s o s₂ L ({ frames := 0, cells := 0, slots := 0, locals := 0 } : Room).cells ({ frames := 0, cells := 0, slots := 0, locals := 0 } : Room).slots) _
  refine Wp.back (U' := (s₁.setTop (mkF m 0 #[.val (.ref ar), .val (.int (0 : Int32))] []))) (fun t k => castTop (i0ef3 m ar (0 : Int32)) k) ?_
  refine Wp.back (U' := (s₁.setTop (mkF m 1 #[.val (.ref ar), .val (.int (0 : Int32))] [(.ref ar)]))) (fun t k => XS.aloadN X0.here hx rfl (hb hby i0d3_0) rfl rfl k) ?_
  obtain ⟨T1, X1, e1, st1⟩ := getF X0 hx hZ hown (host := "") (Or.inl (hw _ (List.mem_of_getElem? (i := 12) rfl))) Via.refl e0 H0 (g := (mkF m 1 #[.val (.ref ar), .val (.int (0 : Int32))] [(.ref ar)])) rfl rfl (hb hby i0d3_1)
  refine Wp.back (U' := (T1.setTop (mkF m 4 #[.val (.ref ar), .val (.int (0 : Int32))] [(.ref sa)]))) st1 ?_
  refine Wp.back (U' := (T1.setTop (mkF m 7 #[.val (.ref ar), .val (.int (0 : Int32))] [(.int (1 : Int32)), (.ref sa)]))) (fun t k => XS.iloadN X1.here hx rfl (hb hby i0d3_4) rfl (XT.iconstV X1.here hx rfl (1 : Int32) (hb hby i0d3_5) (by decide) (XS.iadd X1.here hx rfl (hb hby i0d3_6) rfl k))) ?_
  have vq2 := H1
  obtain ⟨cl2, Ar2, qa2, qs2, qn2, qh2, qg2⟩ := vq2
  have hin2 : ¬ ((1 : Int32) < 0 ∨ cl2.slots.size ≤ ((1 : Int32)).toNatClampNeg) := inb_of qs2 ⟨by decide, by decide⟩
  have hat2 : cl2.slots[((1 : Int32)).toNatClampNeg]? = some (.int s1) := Has.at qh2 hin2 rfl
  refine Wp.back (U' := (T1.setTop (mkF m 8 #[.val (.ref ar), .val (.int (0 : Int32))] [(.int s1)]))) (fun t k => X1.iaload hx (j := (1 : Int32)) (v := (.int s1)) (by rw [e1]; exact Ar2.1) (State.isArrayOf_alike hZ.alike Ar2.2.1) Ar2.2.2 hin2 hat2 (g := (mkF m 7 #[.val (.ref ar), .val (.int (0 : Int32))] [(.int (1 : Int32)), (.ref sa)])) rfl rfl (hb hby i0d3_7) t k) ?_
  refine Wp.back (U' := (T1.setTop (mkF m 9 #[.val (.ref ar), .val (.int (0 : Int32))] [(.ref ar), (.int s1)]))) (fun t k => XS.aloadN X1.here hx rfl (hb hby i0d3_8) rfl rfl k) ?_
  obtain ⟨T3, X3, e3, st3⟩ := getF X1 hx hZ hown (host := "") (Or.inl (hw _ (List.mem_of_getElem? (i := 12) rfl))) Via.refl e1 H0 (g := (mkF m 9 #[.val (.ref ar), .val (.int (0 : Int32))] [(.ref ar), (.int s1)])) rfl rfl (hb hby i0d3_9)
  refine Wp.back (U' := (T3.setTop (mkF m 12 #[.val (.ref ar), .val (.int (0 : Int32))] [(.ref sa), (.int s1)]))) st3 ?_
  refine Wp.back (U' := (T3.setTop (mkF m 13 #[.val (.ref ar), .val (.int (0 : Int32))] [(.int (0 : Int32)), (.ref sa), (.int s1)]))) (fun t k => XS.iloadN X3.here hx rfl (hb hby i0d3_12) rfl k) ?_
  have vq4 := H1
  obtain ⟨cl4, Ar4, qa4, qs4, qn4, qh4, qg4⟩ := vq4
  have hin4 : ¬ ((0 : Int32) < 0 ∨ cl4.slots.size ≤ ((0 : Int32)).toNatClampNeg) := inb_of qs4 ⟨by decide, by decide⟩
  have hat4 : cl4.slots[((0 : Int32)).toNatClampNeg]? = some (.int s0) := Has.at qh4 hin4 rfl
  refine Wp.back (U' := (T3.setTop (mkF m 14 #[.val (.ref ar), .val (.int (0 : Int32))] [(.int s0), (.int s1)]))) (fun t k => X3.iaload hx (j := (0 : Int32)) (v := (.int s0)) (by rw [e3]; exact Ar4.1) (State.isArrayOf_alike hZ.alike Ar4.2.1) Ar4.2.2 hin4 hat4 (g := (mkF m 13 #[.val (.ref ar), .val (.int (0 : Int32))] [(.int (0 : Int32)), (.ref sa), (.int s1)])) rfl rfl (hb hby i0d3_13) t k) ?_
  refine Wp.back (U' := (T3.setTop (mkF m 15 #[.val (.ref ar), .val (.int (0 : Int32))] [(.int (s1 - s0))]))) (fun t k => XS.isub X3.here hx rfl (hb hby i0d3_14) rfl k) ?_
  obtain ⟨fs, hr, hrun, hended, hW, hsame⟩ := X3.leave (v := (some (.int (s1 - s0)))) (fun h => by rw [hret] at h; cases h)
  refine Wp.done (retI X3 hx hret (hb hby i0d3_15) hr) hrun hended ⟨_, _, rfl, ?_, ⟨_, rfl⟩, hW, hsame.mono (by decide) (by decide)⟩
  show Q_fq0 Z ar sa ks s0 s1 s2 s3 h0 n0 _ T3.heap _
  rw [e3]
  exact ⟨rfl, N0, (Keep.refl h0 [])⟩
def Q_fq1 (Z : State) (ar : Addr) (sa : Addr) (ks : ClassId) (s0 : Int32) (s1 : Int32) (s2 : Int32) (s3 : Int32) (h0 : Heap) (n0 : Nat) (v : Option Value) (h : Heap) (L : List Loc) : Prop := v = some (.int (s2 - s1)) ∧ Fr n0 L ∧ Keep h0 h []
theorem i1d3_0 : decode prog_51_method_5_code 0 = .ok (.aload_n 0, 1) := by decide +kernel
theorem i1d3_1 : decode prog_51_method_5_code 1 = .ok (.getfield 13, 3) := by decide +kernel
theorem i1d3_4 : decode prog_51_method_5_code 4 = .ok (.iload_n 1, 1) := by decide +kernel
theorem i1d3_5 : decode prog_51_method_5_code 5 = .ok (.iconst 1, 1) := by decide +kernel
theorem i1d3_6 : decode prog_51_method_5_code 6 = .ok (.iadd, 1) := by decide +kernel
theorem i1d3_7 : decode prog_51_method_5_code 7 = .ok (.iaload, 1) := by decide +kernel
theorem i1d3_8 : decode prog_51_method_5_code 8 = .ok (.aload_n 0, 1) := by decide +kernel
theorem i1d3_9 : decode prog_51_method_5_code 9 = .ok (.getfield 13, 3) := by decide +kernel
theorem i1d3_12 : decode prog_51_method_5_code 12 = .ok (.iload_n 1, 1) := by decide +kernel
theorem i1d3_13 : decode prog_51_method_5_code 13 = .ok (.iaload, 1) := by decide +kernel
theorem i1d3_14 : decode prog_51_method_5_code 14 = .ok (.isub, 1) := by decide +kernel
theorem i1d3_15 : decode prog_51_method_5_code 15 = .ok (.ireturn, 1) := by decide +kernel
theorem i1pn3 : plainName "com/example/mill_river/millriver/index/Postings" = true := by first | (simp [plainName, overriddenIn]; done) | decide +kernel
theorem i1ef3 (m : MethodId) (x0 : Addr) (x1 : Int32) : entryFrame m #[(.ref x0), (.int x1)] 2 = mkF m 0 #[.val (.ref x0), .val (.int x1)] [] := by first | (simp [entryFrame, mkF, argsToLocals, Value.category]; done) | rfl
set_option maxRecDepth 65536 in
set_option maxHeartbeats 40000000 in
theorem rm_fq1 (l : Launch) (Z : State) (a0 : Array Value) (hw : ∀ d ∈ tables_1, d.before a0 Z = true) (ws : List Jvm.Cond) (ar : Addr) (sa : Addr) (ks : ClassId) (s0 : Int32) (s1 : Int32) (s2 : Int32) (s3 : Int32) (h0 : Heap) (n0 : Nat) (Z0 : n0 ≤ h0.size) (H0 : Fld Z h0 ar "com/example/mill_river/millriver/index/Postings" "starts" "[I" (.ref sa)) (H1 : Arv Z h0 sa ks .int (4 : Int32) [(.int s0), (.int s1), (.int s2), (.int s3)] (.int (0 : Int32))) :
    MetFree l (⟨"com/example/mill_river/millriver/index/Postings", "frequency", "(I)I"⟩ : MethodName) (head1 (Jvm.Cond.code (⟨"com/example/mill_river/millriver/index/Postings", "frequency", "(I)I"⟩ : MethodName) prog_51_method_5_code 2 (some .int) :: ws) ({ frames := 0, cells := 0, slots := 0, locals := 0 } : Room)) (fun a U => a = #[(.ref ar), (.int (1 : Int32))] ∧ Z.Warmed39 U.vm ∧ U.heap = h0) (fun _ _ _ _ _ => True) (fun _ U o U' => ∃ v L, o = .returned v ∧ Q_fq1 Z ar sa ks s0 s1 s2 s3 h0 n0 v U'.heap L ∧ FrameEnd U o U' L ({ frames := 0, cells := 0, slots := 0, locals := 0 } : Room).cells ({ frames := 0, cells := 0, slots := 0, locals := 0 } : Room).slots) := by
  refine MetFree.of_bodySF (plainFor_of_name i1pn3) hisR ?_
  intro p e s m args below meth c s₁ Bd hml0 hP hK
  obtain ⟨rfl, hZ, hh⟩ := hP
  have hx := Bd.exec
  have hby := Bd.bytes
  have hret := Bd.returns
  have hlk := Bd.notSynchronized
  have hml : c.maxLocals = 2 := hml0
  have hown : s.vm.findClass "com/example/mill_river/millriver/index/Postings" = some m.cls := findClass_of_methodNamed Bd.named
  have hnm := (name_of_methodNamed Bd.named Bd.method).1
  have X0 : Stand p l e ({ frames := 0, cells := 0, slots := 0, locals := 0 } : Room) s m #[(.ref ar), (.int (1 : Int32))] below meth c s₁ [] 0 0 := Stand.of_body Bd
  have e0 : s₁.heap = h0 := by rw [← hh, Bd.state]; rfl
  have N0 := Fr.nil n0
  show Wp p e below (fun o s₂ => ∃ v L, o = .returned v ∧ Q_fq1 Z ar sa ks s0 s1 s2 s3 h0 n0 v s₂.heap L ∧ FrameEnd s o s₂ L ({ frames := 0, cells := 0, slots := 0, locals := 0 } : Room).cells ({ frames := 0, cells := 0, slots := 0, locals := 0 } : Room).slots) _
  refine Wp.back (U' := (s₁.setTop (mkF m 0 #[.val (.ref ar), .val (.int (1 : Int32))] []))) (fun t k => castTop (i1ef3 m ar (1 : Int32)) k) ?_
  refine Wp.back (U' := (s₁.setTop (mkF m 1 #[.val (.ref ar), .val (.int (1 : Int32))] [(.ref ar)]))) (fun t k => XS.aloadN X0.here hx rfl (hb hby i1d3_0) rfl rfl k) ?_
  obtain ⟨T1, X1, e1, st1⟩ := getF X0 hx hZ hown (host := "") (Or.inl (hw _ (List.mem_of_getElem? (i := 12) rfl))) Via.refl e0 H0 (g := (mkF m 1 #[.val (.ref ar), .val (.int (1 : Int32))] [(.ref ar)])) rfl rfl (hb hby i1d3_1)
  refine Wp.back (U' := (T1.setTop (mkF m 4 #[.val (.ref ar), .val (.int (1 : Int32))] [(.ref sa)]))) st1 ?_
  refine Wp.back (U' := (T1.setTop (mkF m 7 #[.val (.ref ar), .val (.int (1 : Int32))] [(.int (2 : Int32)), (.ref sa)]))) (fun t k => XS.iloadN X1.here hx rfl (hb hby i1d3_4) rfl (XT.iconstV X1.here hx rfl (1 : Int32) (hb hby i1d3_5) (by decide) (XS.iadd X1.here hx rfl (hb hby i1d3_6) rfl k))) ?_
  have vq2 := H1
  obtain ⟨cl2, Ar2, qa2, qs2, qn2, qh2, qg2⟩ := vq2
  have hin2 : ¬ ((2 : Int32) < 0 ∨ cl2.slots.size ≤ ((2 : Int32)).toNatClampNeg) := inb_of qs2 ⟨by decide, by decide⟩
  have hat2 : cl2.slots[((2 : Int32)).toNatClampNeg]? = some (.int s2) := Has.at qh2 hin2 rfl
  refine Wp.back (U' := (T1.setTop (mkF m 8 #[.val (.ref ar), .val (.int (1 : Int32))] [(.int s2)]))) (fun t k => X1.iaload hx (j := (2 : Int32)) (v := (.int s2)) (by rw [e1]; exact Ar2.1) (State.isArrayOf_alike hZ.alike Ar2.2.1) Ar2.2.2 hin2 hat2 (g := (mkF m 7 #[.val (.ref ar), .val (.int (1 : Int32))] [(.int (2 : Int32)), (.ref sa)])) rfl rfl (hb hby i1d3_7) t k) ?_
  refine Wp.back (U' := (T1.setTop (mkF m 9 #[.val (.ref ar), .val (.int (1 : Int32))] [(.ref ar), (.int s2)]))) (fun t k => XS.aloadN X1.here hx rfl (hb hby i1d3_8) rfl rfl k) ?_
  obtain ⟨T3, X3, e3, st3⟩ := getF X1 hx hZ hown (host := "") (Or.inl (hw _ (List.mem_of_getElem? (i := 12) rfl))) Via.refl e1 H0 (g := (mkF m 9 #[.val (.ref ar), .val (.int (1 : Int32))] [(.ref ar), (.int s2)])) rfl rfl (hb hby i1d3_9)
  refine Wp.back (U' := (T3.setTop (mkF m 12 #[.val (.ref ar), .val (.int (1 : Int32))] [(.ref sa), (.int s2)]))) st3 ?_
  refine Wp.back (U' := (T3.setTop (mkF m 13 #[.val (.ref ar), .val (.int (1 : Int32))] [(.int (1 : Int32)), (.ref sa), (.int s2)]))) (fun t k => XS.iloadN X3.here hx rfl (hb hby i1d3_12) rfl k) ?_
  have vq4 := H1
  obtain ⟨cl4, Ar4, qa4, qs4, qn4, qh4, qg4⟩ := vq4
  have hin4 : ¬ ((1 : Int32) < 0 ∨ cl4.slots.size ≤ ((1 : Int32)).toNatClampNeg) := inb_of qs4 ⟨by decide, by decide⟩
  have hat4 : cl4.slots[((1 : Int32)).toNatClampNeg]? = some (.int s1) := Has.at qh4 hin4 rfl
  refine Wp.back (U' := (T3.setTop (mkF m 14 #[.val (.ref ar), .val (.int (1 : Int32))] [(.int s1), (.int s2)]))) (fun t k => X3.iaload hx (j := (1 : Int32)) (v := (.int s1)) (by rw [e3]; exact Ar4.1) (State.isArrayOf_alike hZ.alike Ar4.2.1) Ar4.2.2 hin4 hat4 (g := (mkF m 13 #[.val (.ref ar), .val (.int (1 : Int32))] [(.int (1 : Int32)), (.ref sa), (.int s2)])) rfl rfl (hb hby i1d3_13) t k) ?_
  refine Wp.back (U' := (T3.setTop (mkF m 15 #[.val (.ref ar), .val (.int (1 : Int32))] [(.int (s2 - s1))]))) (fun t k => XS.isub X3.here hx rfl (hb hby i1d3_14) rfl k) ?_
  obtain ⟨fs, hr, hrun, hended, hW, hsame⟩ := X3.leave (v := (some (.int (s2 - s1)))) (fun h => by rw [hret] at h; cases h)
  refine Wp.done (retI X3 hx hret (hb hby i1d3_15) hr) hrun hended ⟨_, _, rfl, ?_, ⟨_, rfl⟩, hW, hsame.mono (by decide) (by decide)⟩
  show Q_fq1 Z ar sa ks s0 s1 s2 s3 h0 n0 _ T3.heap _
  rw [e3]
  exact ⟨rfl, N0, (Keep.refl h0 [])⟩
def Q_fq2 (Z : State) (ar : Addr) (sa : Addr) (ks : ClassId) (s0 : Int32) (s1 : Int32) (s2 : Int32) (s3 : Int32) (h0 : Heap) (n0 : Nat) (v : Option Value) (h : Heap) (L : List Loc) : Prop := v = some (.int (s3 - s2)) ∧ Fr n0 L ∧ Keep h0 h []
theorem i2d3_0 : decode prog_51_method_5_code 0 = .ok (.aload_n 0, 1) := by decide +kernel
theorem i2d3_1 : decode prog_51_method_5_code 1 = .ok (.getfield 13, 3) := by decide +kernel
theorem i2d3_4 : decode prog_51_method_5_code 4 = .ok (.iload_n 1, 1) := by decide +kernel
theorem i2d3_5 : decode prog_51_method_5_code 5 = .ok (.iconst 1, 1) := by decide +kernel
theorem i2d3_6 : decode prog_51_method_5_code 6 = .ok (.iadd, 1) := by decide +kernel
theorem i2d3_7 : decode prog_51_method_5_code 7 = .ok (.iaload, 1) := by decide +kernel
theorem i2d3_8 : decode prog_51_method_5_code 8 = .ok (.aload_n 0, 1) := by decide +kernel
theorem i2d3_9 : decode prog_51_method_5_code 9 = .ok (.getfield 13, 3) := by decide +kernel
theorem i2d3_12 : decode prog_51_method_5_code 12 = .ok (.iload_n 1, 1) := by decide +kernel
theorem i2d3_13 : decode prog_51_method_5_code 13 = .ok (.iaload, 1) := by decide +kernel
theorem i2d3_14 : decode prog_51_method_5_code 14 = .ok (.isub, 1) := by decide +kernel
theorem i2d3_15 : decode prog_51_method_5_code 15 = .ok (.ireturn, 1) := by decide +kernel
theorem i2pn3 : plainName "com/example/mill_river/millriver/index/Postings" = true := by first | (simp [plainName, overriddenIn]; done) | decide +kernel
theorem i2ef3 (m : MethodId) (x0 : Addr) (x1 : Int32) : entryFrame m #[(.ref x0), (.int x1)] 2 = mkF m 0 #[.val (.ref x0), .val (.int x1)] [] := by first | (simp [entryFrame, mkF, argsToLocals, Value.category]; done) | rfl
set_option maxRecDepth 65536 in
set_option maxHeartbeats 40000000 in
theorem rm_fq2 (l : Launch) (Z : State) (a0 : Array Value) (hw : ∀ d ∈ tables_1, d.before a0 Z = true) (ws : List Jvm.Cond) (ar : Addr) (sa : Addr) (ks : ClassId) (s0 : Int32) (s1 : Int32) (s2 : Int32) (s3 : Int32) (h0 : Heap) (n0 : Nat) (Z0 : n0 ≤ h0.size) (H0 : Fld Z h0 ar "com/example/mill_river/millriver/index/Postings" "starts" "[I" (.ref sa)) (H1 : Arv Z h0 sa ks .int (4 : Int32) [(.int s0), (.int s1), (.int s2), (.int s3)] (.int (0 : Int32))) :
    MetFree l (⟨"com/example/mill_river/millriver/index/Postings", "frequency", "(I)I"⟩ : MethodName) (head1 (Jvm.Cond.code (⟨"com/example/mill_river/millriver/index/Postings", "frequency", "(I)I"⟩ : MethodName) prog_51_method_5_code 2 (some .int) :: ws) ({ frames := 0, cells := 0, slots := 0, locals := 0 } : Room)) (fun a U => a = #[(.ref ar), (.int (2 : Int32))] ∧ Z.Warmed39 U.vm ∧ U.heap = h0) (fun _ _ _ _ _ => True) (fun _ U o U' => ∃ v L, o = .returned v ∧ Q_fq2 Z ar sa ks s0 s1 s2 s3 h0 n0 v U'.heap L ∧ FrameEnd U o U' L ({ frames := 0, cells := 0, slots := 0, locals := 0 } : Room).cells ({ frames := 0, cells := 0, slots := 0, locals := 0 } : Room).slots) := by
  refine MetFree.of_bodySF (plainFor_of_name i2pn3) hisR ?_
  intro p e s m args below meth c s₁ Bd hml0 hP hK
  obtain ⟨rfl, hZ, hh⟩ := hP
  have hx := Bd.exec
  have hby := Bd.bytes
  have hret := Bd.returns
  have hlk := Bd.notSynchronized
  have hml : c.maxLocals = 2 := hml0
  have hown : s.vm.findClass "com/example/mill_river/millriver/index/Postings" = some m.cls := findClass_of_methodNamed Bd.named
  have hnm := (name_of_methodNamed Bd.named Bd.method).1
  have X0 : Stand p l e ({ frames := 0, cells := 0, slots := 0, locals := 0 } : Room) s m #[(.ref ar), (.int (2 : Int32))] below meth c s₁ [] 0 0 := Stand.of_body Bd
  have e0 : s₁.heap = h0 := by rw [← hh, Bd.state]; rfl
  have N0 := Fr.nil n0
  show Wp p e below (fun o s₂ => ∃ v L, o = .returned v ∧ Q_fq2 Z ar sa ks s0 s1 s2 s3 h0 n0 v s₂.heap L ∧ FrameEnd s o s₂ L ({ frames := 0, cells := 0, slots := 0, locals := 0 } : Room).cells ({ frames := 0, cells := 0, slots := 0, locals := 0 } : Room).slots) _
  refine Wp.back (U' := (s₁.setTop (mkF m 0 #[.val (.ref ar), .val (.int (2 : Int32))] []))) (fun t k => castTop (i2ef3 m ar (2 : Int32)) k) ?_
  refine Wp.back (U' := (s₁.setTop (mkF m 1 #[.val (.ref ar), .val (.int (2 : Int32))] [(.ref ar)]))) (fun t k => XS.aloadN X0.here hx rfl (hb hby i2d3_0) rfl rfl k) ?_
  obtain ⟨T1, X1, e1, st1⟩ := getF X0 hx hZ hown (host := "") (Or.inl (hw _ (List.mem_of_getElem? (i := 12) rfl))) Via.refl e0 H0 (g := (mkF m 1 #[.val (.ref ar), .val (.int (2 : Int32))] [(.ref ar)])) rfl rfl (hb hby i2d3_1)
  refine Wp.back (U' := (T1.setTop (mkF m 4 #[.val (.ref ar), .val (.int (2 : Int32))] [(.ref sa)]))) st1 ?_
  refine Wp.back (U' := (T1.setTop (mkF m 7 #[.val (.ref ar), .val (.int (2 : Int32))] [(.int (3 : Int32)), (.ref sa)]))) (fun t k => XS.iloadN X1.here hx rfl (hb hby i2d3_4) rfl (XT.iconstV X1.here hx rfl (1 : Int32) (hb hby i2d3_5) (by decide) (XS.iadd X1.here hx rfl (hb hby i2d3_6) rfl k))) ?_
  have vq2 := H1
  obtain ⟨cl2, Ar2, qa2, qs2, qn2, qh2, qg2⟩ := vq2
  have hin2 : ¬ ((3 : Int32) < 0 ∨ cl2.slots.size ≤ ((3 : Int32)).toNatClampNeg) := inb_of qs2 ⟨by decide, by decide⟩
  have hat2 : cl2.slots[((3 : Int32)).toNatClampNeg]? = some (.int s3) := Has.at qh2 hin2 rfl
  refine Wp.back (U' := (T1.setTop (mkF m 8 #[.val (.ref ar), .val (.int (2 : Int32))] [(.int s3)]))) (fun t k => X1.iaload hx (j := (3 : Int32)) (v := (.int s3)) (by rw [e1]; exact Ar2.1) (State.isArrayOf_alike hZ.alike Ar2.2.1) Ar2.2.2 hin2 hat2 (g := (mkF m 7 #[.val (.ref ar), .val (.int (2 : Int32))] [(.int (3 : Int32)), (.ref sa)])) rfl rfl (hb hby i2d3_7) t k) ?_
  refine Wp.back (U' := (T1.setTop (mkF m 9 #[.val (.ref ar), .val (.int (2 : Int32))] [(.ref ar), (.int s3)]))) (fun t k => XS.aloadN X1.here hx rfl (hb hby i2d3_8) rfl rfl k) ?_
  obtain ⟨T3, X3, e3, st3⟩ := getF X1 hx hZ hown (host := "") (Or.inl (hw _ (List.mem_of_getElem? (i := 12) rfl))) Via.refl e1 H0 (g := (mkF m 9 #[.val (.ref ar), .val (.int (2 : Int32))] [(.ref ar), (.int s3)])) rfl rfl (hb hby i2d3_9)
  refine Wp.back (U' := (T3.setTop (mkF m 12 #[.val (.ref ar), .val (.int (2 : Int32))] [(.ref sa), (.int s3)]))) st3 ?_
  refine Wp.back (U' := (T3.setTop (mkF m 13 #[.val (.ref ar), .val (.int (2 : Int32))] [(.int (2 : Int32)), (.ref sa), (.int s3)]))) (fun t k => XS.iloadN X3.here hx rfl (hb hby i2d3_12) rfl k) ?_
  have vq4 := H1
  obtain ⟨cl4, Ar4, qa4, qs4, qn4, qh4, qg4⟩ := vq4
  have hin4 : ¬ ((2 : Int32) < 0 ∨ cl4.slots.size ≤ ((2 : Int32)).toNatClampNeg) := inb_of qs4 ⟨by decide, by decide⟩
  have hat4 : cl4.slots[((2 : Int32)).toNatClampNeg]? = some (.int s2) := Has.at qh4 hin4 rfl
  refine Wp.back (U' := (T3.setTop (mkF m 14 #[.val (.ref ar), .val (.int (2 : Int32))] [(.int s2), (.int s3)]))) (fun t k => X3.iaload hx (j := (2 : Int32)) (v := (.int s2)) (by rw [e3]; exact Ar4.1) (State.isArrayOf_alike hZ.alike Ar4.2.1) Ar4.2.2 hin4 hat4 (g := (mkF m 13 #[.val (.ref ar), .val (.int (2 : Int32))] [(.int (2 : Int32)), (.ref sa), (.int s3)])) rfl rfl (hb hby i2d3_13) t k) ?_
  refine Wp.back (U' := (T3.setTop (mkF m 15 #[.val (.ref ar), .val (.int (2 : Int32))] [(.int (s3 - s2))]))) (fun t k => XS.isub X3.here hx rfl (hb hby i2d3_14) rfl k) ?_
  obtain ⟨fs, hr, hrun, hended, hW, hsame⟩ := X3.leave (v := (some (.int (s3 - s2)))) (fun h => by rw [hret] at h; cases h)
  refine Wp.done (retI X3 hx hret (hb hby i2d3_15) hr) hrun hended ⟨_, _, rfl, ?_, ⟨_, rfl⟩, hW, hsame.mono (by decide) (by decide)⟩
  show Q_fq2 Z ar sa ks s0 s1 s2 s3 h0 n0 _ T3.heap _
  rw [e3]
  exact ⟨rfl, N0, (Keep.refl h0 [])⟩
theorem own_f (a b : Int32) : ((a + b) - a) = b := by rw [Int32.add_comm, Int32.add_sub_cancel]
theorem own_m (x y z : Int32) : ¬ (((x &&& (255 : Int32)) + (y &&& (255 : Int32))) + (z &&& (255 : Int32))) < 0 ∧ ((((x &&& (255 : Int32)) + (y &&& (255 : Int32))) + (z &&& (255 : Int32)))).toNatClampNeg ≤ 765 := by
  have h1 := c_mask x 255 8 (by decide) (by decide)
  have h2 := c_mask y 255 8 (by decide) (by decide)
  have h3 := c_mask z 255 8 (by decide) (by decide)
  have h4 := c_iadd (x &&& 255) (y &&& 255)
  have h5 := c_iadd ((x &&& 255) + (y &&& 255)) (z &&& 255)
  have r4 := rng32 ((x &&& 255) + (y &&& 255))
  have r5 := rng32 (((x &&& 255) + (y &&& 255)) + (z &&& 255))
  have e0 : (0 : Int32).toInt = 0 := by decide
  have q : ¬ (((x &&& (255 : Int32)) + (y &&& (255 : Int32))) + (z &&& (255 : Int32))) < 0 := by
    rw [Int32.lt_iff_toInt_lt]
    omega
  refine ⟨q, ?_⟩
  have := nat_of q
  omega
theorem pd0_0 : parseMethodDescriptor "([I[I[I)V" = some ⟨[(.array .int), (.array .int), (.array .int)], none⟩ := by decide +kernel
theorem pd0_1 : parseMethodDescriptor "(I)I" = some ⟨[.int], some .int⟩ := by decide +kernel
theorem pn0 : plainName "com/example/mill_river/millriver/index/PostingsFrequencyPinLaw" = true := by first | (simp [plainName, overriddenIn]; done) | decide +kernel
theorem ef0 (m : MethodId) (x0 : Int32) (x1 : Int32) (x2 : Int32) : entryFrame m #[(.int x0), (.int x1), (.int x2)] maxLocals = mkF m 0 #[.val (.int x0), .val (.int x1), .val (.int x2), .unset, .unset, .unset, .unset, .unset, .unset, .unset, .unset, .unset, .unset] [] := by first | (simp [entryFrame, mkF, argsToLocals, Value.category, maxLocals]; done) | rfl
set_option maxRecDepth 65536 in
set_option maxHeartbeats 40000000 in
theorem rm_law (l : Launch) (Z : State) (a0 : Array Value) (hw : ∀ d ∈ tables_1, d.before a0 Z = true) (ws : List Jvm.Cond) (p0 : Int32) (p1 : Int32) (p2 : Int32)  (h0 : Heap) (n0 : Nat) (Z0 : n0 ≤ h0.size)  :
    MetFree l x (head1 (Jvm.Cond.code x code maxLocals ret :: ws) room_1) (fun a U => a = #[(.int p0), (.int p1), (.int p2)] ∧ Z.Warmed39 U.vm ∧ U.heap = h0) (fun _ _ _ _ _ => True) (fun _ U o U' => ∃ v L, o = .returned v ∧ QL n0 v U'.heap L ∧ FrameEnd U o U' L 16 1664) := by
  refine MetFree.of_bodySF (plainFor_of_name pn0) hisR ?_
  intro p e s m args below meth c s₁ Bd hml0 hP hK
  obtain ⟨rfl, hZ, hh⟩ := hP
  have hx := Bd.exec
  have hby := Bd.bytes
  have hret := Bd.returns
  have hlk := Bd.notSynchronized
  have hml : c.maxLocals = 13 := hml0
  have hown : s.vm.findClass "com/example/mill_river/millriver/index/PostingsFrequencyPinLaw" = some m.cls := findClass_of_methodNamed Bd.named
  have hnm := (name_of_methodNamed Bd.named Bd.method).1
  have X0 : Stand p l e room_1 s m #[(.int p0), (.int p1), (.int p2)] below meth c s₁ [] 0 0 := Stand.of_body Bd
  have e0 : s₁.heap = h0 := by rw [← hh, Bd.state]; rfl
  have N0 := Fr.nil n0
  show Wp p e below (fun o s₂ => ∃ v L, o = .returned v ∧ QL n0 v s₂.heap L ∧ FrameEnd s o s₂ L 16 1664) _
  refine Wp.back (U' := (s₁.setTop (mkF m 0 #[.val (.int p0), .val (.int p1), .val (.int p2), .unset, .unset, .unset, .unset, .unset, .unset, .unset, .unset, .unset, .unset] []))) (fun t k => castTop (ef0 m p0 p1 p2) k) ?_
  refine Wp.back (U' := (s₁.setTop (mkF m 20 #[.val (.int p0), .val (.int p1), .val (.int p2), .val (.int (p0 &&& (255 : Int32))), .val (.int (p1 &&& (255 : Int32))), .val (.int (p2 &&& (255 : Int32))), .unset, .unset, .unset, .unset, .unset, .unset, .unset] []))) (fun t k => XS.iloadN X0.here hx rfl (hb hby at_0) rfl (XT.sipushV X0.here hx rfl (255 : Int32) (hb hby at_1) (by decide) (XS.iand X0.here hx rfl (hb hby at_4) rfl (XS.istoreN X0.here hx rfl (hb hby at_5) rfl (l' := #[.val (.int p0), .val (.int p1), .val (.int p2), .val (.int (p0 &&& (255 : Int32))), .unset, .unset, .unset, .unset, .unset, .unset, .unset, .unset, .unset]) rfl (XS.iloadN X0.here hx rfl (hb hby at_6) rfl (XT.sipushV X0.here hx rfl (255 : Int32) (hb hby at_7) (by decide) (XS.iand X0.here hx rfl (hb hby at_10) rfl (XS.istore X0.here hx rfl (hb hby at_11) rfl (l' := #[.val (.int p0), .val (.int p1), .val (.int p2), .val (.int (p0 &&& (255 : Int32))), .val (.int (p1 &&& (255 : Int32))), .unset, .unset, .unset, .unset, .unset, .unset, .unset, .unset]) rfl (XS.iloadN X0.here hx rfl (hb hby at_13) rfl (XT.sipushV X0.here hx rfl (255 : Int32) (hb hby at_14) (by decide) (XS.iand X0.here hx rfl (hb hby at_17) rfl (XS.istore X0.here hx rfl (hb hby at_18) rfl (l' := #[.val (.int p0), .val (.int p1), .val (.int p2), .val (.int (p0 &&& (255 : Int32))), .val (.int (p1 &&& (255 : Int32))), .val (.int (p2 &&& (255 : Int32))), .unset, .unset, .unset, .unset, .unset, .unset, .unset]) rfl k)))))))))))) ?_
  refine Wp.back (U' := (s₁.setTop (mkF m 21 #[.val (.int p0), .val (.int p1), .val (.int p2), .val (.int (p0 &&& (255 : Int32))), .val (.int (p1 &&& (255 : Int32))), .val (.int (p2 &&& (255 : Int32))), .unset, .unset, .unset, .unset, .unset, .unset, .unset] [(.int (3 : Int32))]))) (fun t k => XT.iconstV X0.here hx rfl (3 : Int32) (hb hby at_20) (by decide) k) ?_
  obtain ⟨T1, h1, k1, X1, e1, E1, A1, st1⟩ := newP X0 hx hZ (hw _ (List.mem_of_getElem? (i := 0) rfl)) e0 (g := (mkF m 21 #[.val (.int p0), .val (.int p1), .val (.int p2), .val (.int (p0 &&& (255 : Int32))), .val (.int (p1 &&& (255 : Int32))), .val (.int (p2 &&& (255 : Int32))), .unset, .unset, .unset, .unset, .unset, .unset, .unset] [(.int (3 : Int32))])) rfl (hb hby at_21) rfl (by decide) (cap := 3) (by decide) (by decide) (by decide) (by decide)
  obtain ⟨b1, g1⟩ : ∃ z, z = h0.size := ⟨_, rfl⟩
  rw [← g1] at A1 st1
  have g_b1 : n0 ≤ b1 := Nat.le_trans Z0 (Nat.le_of_eq g1.symm)
  have f2_0 := Nat.le_trans Z0 E1.1
  have V1 : Arv Z h1 b1 k1 .int (3 : Int32) [(.int (0 : Int32)), (.int (0 : Int32)), (.int (0 : Int32))] (.int (0 : Int32)) := (Arv.new A1 (by decide)).pad (pad_rep [] (.int (0 : Int32)) 3)
  refine Wp.back (U' := (T1.setTop (mkF m 23 #[.val (.int p0), .val (.int p1), .val (.int p2), .val (.int (p0 &&& (255 : Int32))), .val (.int (p1 &&& (255 : Int32))), .val (.int (p2 &&& (255 : Int32))), .unset, .unset, .unset, .unset, .unset, .unset, .unset] [(.ref b1)]))) st1 ?_
  refine Wp.back (U' := (T1.setTop (mkF m 26 #[.val (.int p0), .val (.int p1), .val (.int p2), .val (.int (p0 &&& (255 : Int32))), .val (.int (p1 &&& (255 : Int32))), .val (.int (p2 &&& (255 : Int32))), .unset, .unset, .unset, .unset, .unset, .unset, .unset] [(.int (0 : Int32)), (.int (0 : Int32)), (.ref b1), (.ref b1)]))) (fun t k => XS.dup X1.here hx rfl (hb hby at_23) rfl rfl (XT.iconstV X1.here hx rfl (0 : Int32) (hb hby at_24) (by decide) (XT.iconstV X1.here hx rfl (0 : Int32) (hb hby at_25) (by decide) k))) ?_
  have vq3 := V1
  obtain ⟨cl3, Ar3, qa3, qs3, qn3, qh3, qg3⟩ := vq3
  have hin3 : ¬ ((0 : Int32) < 0 ∨ cl3.slots.size ≤ ((0 : Int32)).toNatClampNeg) := inb_of qs3 ⟨by decide, by decide⟩
  obtain ⟨T3, h3, X3, e3, W3, st3⟩ := stI X1 hx hZ e1 Ar3 (j := (0 : Int32)) hin3 (g := (mkF m 26 #[.val (.int p0), .val (.int p1), .val (.int p2), .val (.int (p0 &&& (255 : Int32))), .val (.int (p1 &&& (255 : Int32))), .val (.int (p2 &&& (255 : Int32))), .unset, .unset, .unset, .unset, .unset, .unset, .unset] [(.int (0 : Int32)), (.int (0 : Int32)), (.ref b1), (.ref b1)])) rfl rfl (hb hby at_26)
  have V3 : Arv Z h3 b1 k1 .int (3 : Int32) [(.int (0 : Int32)), (.int (0 : Int32)), (.int (0 : Int32))] (.int (0 : Int32)) := Arv.set Ar3 qa3 qs3 qn3 qh3 qg3 rfl W3 0 rfl (Nat.le_of_ble_eq_true rfl)
  have f4_0 := Nat.le_trans f2_0 (Keep.of_wr W3).1
  have N3 := Fr.snoc X3 N0 g_b1
  refine Wp.back (U' := (T3.setTop (mkF m 27 #[.val (.int p0), .val (.int p1), .val (.int p2), .val (.int (p0 &&& (255 : Int32))), .val (.int (p1 &&& (255 : Int32))), .val (.int (p2 &&& (255 : Int32))), .unset, .unset, .unset, .unset, .unset, .unset, .unset] [(.ref b1)]))) st3 ?_
  refine Wp.back (U' := (T3.setTop (mkF m 30 #[.val (.int p0), .val (.int p1), .val (.int p2), .val (.int (p0 &&& (255 : Int32))), .val (.int (p1 &&& (255 : Int32))), .val (.int (p2 &&& (255 : Int32))), .unset, .unset, .unset, .unset, .unset, .unset, .unset] [(.int (1 : Int32)), (.int (1 : Int32)), (.ref b1), (.ref b1)]))) (fun t k => XS.dup X3.here hx rfl (hb hby at_27) rfl rfl (XT.iconstV X3.here hx rfl (1 : Int32) (hb hby at_28) (by decide) (XT.iconstV X3.here hx rfl (1 : Int32) (hb hby at_29) (by decide) k))) ?_
  have vq5 := V3
  obtain ⟨cl5, Ar5, qa5, qs5, qn5, qh5, qg5⟩ := vq5
  have hin5 : ¬ ((1 : Int32) < 0 ∨ cl5.slots.size ≤ ((1 : Int32)).toNatClampNeg) := inb_of qs5 ⟨by decide, by decide⟩
  obtain ⟨T5, h5, X5, e5, W5, st5⟩ := stI X3 hx hZ e3 Ar5 (j := (1 : Int32)) hin5 (g := (mkF m 30 #[.val (.int p0), .val (.int p1), .val (.int p2), .val (.int (p0 &&& (255 : Int32))), .val (.int (p1 &&& (255 : Int32))), .val (.int (p2 &&& (255 : Int32))), .unset, .unset, .unset, .unset, .unset, .unset, .unset] [(.int (1 : Int32)), (.int (1 : Int32)), (.ref b1), (.ref b1)])) rfl rfl (hb hby at_30)
  have V5 : Arv Z h5 b1 k1 .int (3 : Int32) [(.int (0 : Int32)), (.int (1 : Int32)), (.int (0 : Int32))] (.int (0 : Int32)) := Arv.set Ar5 qa5 qs5 qn5 qh5 qg5 rfl W5 1 rfl (Nat.le_of_ble_eq_true rfl)
  have f6_0 := Nat.le_trans f4_0 (Keep.of_wr W5).1
  have N5 := Fr.snoc X5 N3 g_b1
  refine Wp.back (U' := (T5.setTop (mkF m 31 #[.val (.int p0), .val (.int p1), .val (.int p2), .val (.int (p0 &&& (255 : Int32))), .val (.int (p1 &&& (255 : Int32))), .val (.int (p2 &&& (255 : Int32))), .unset, .unset, .unset, .unset, .unset, .unset, .unset] [(.ref b1)]))) st5 ?_
  refine Wp.back (U' := (T5.setTop (mkF m 34 #[.val (.int p0), .val (.int p1), .val (.int p2), .val (.int (p0 &&& (255 : Int32))), .val (.int (p1 &&& (255 : Int32))), .val (.int (p2 &&& (255 : Int32))), .unset, .unset, .unset, .unset, .unset, .unset, .unset] [(.int (2 : Int32)), (.int (2 : Int32)), (.ref b1), (.ref b1)]))) (fun t k => XS.dup X5.here hx rfl (hb hby at_31) rfl rfl (XT.iconstV X5.here hx rfl (2 : Int32) (hb hby at_32) (by decide) (XT.iconstV X5.here hx rfl (2 : Int32) (hb hby at_33) (by decide) k))) ?_
  have vq7 := V5
  obtain ⟨cl7, Ar7, qa7, qs7, qn7, qh7, qg7⟩ := vq7
  have hin7 : ¬ ((2 : Int32) < 0 ∨ cl7.slots.size ≤ ((2 : Int32)).toNatClampNeg) := inb_of qs7 ⟨by decide, by decide⟩
  obtain ⟨T7, h7, X7, e7, W7, st7⟩ := stI X5 hx hZ e5 Ar7 (j := (2 : Int32)) hin7 (g := (mkF m 34 #[.val (.int p0), .val (.int p1), .val (.int p2), .val (.int (p0 &&& (255 : Int32))), .val (.int (p1 &&& (255 : Int32))), .val (.int (p2 &&& (255 : Int32))), .unset, .unset, .unset, .unset, .unset, .unset, .unset] [(.int (2 : Int32)), (.int (2 : Int32)), (.ref b1), (.ref b1)])) rfl rfl (hb hby at_34)
  have V7 : Arv Z h7 b1 k1 .int (3 : Int32) [(.int (0 : Int32)), (.int (1 : Int32)), (.int (2 : Int32))] (.int (0 : Int32)) := Arv.set Ar7 qa7 qs7 qn7 qh7 qg7 rfl W7 2 rfl (Nat.le_of_ble_eq_true rfl)
  have f8_0 := Nat.le_trans f6_0 (Keep.of_wr W7).1
  have N7 := Fr.snoc X7 N5 g_b1
  refine Wp.back (U' := (T7.setTop (mkF m 35 #[.val (.int p0), .val (.int p1), .val (.int p2), .val (.int (p0 &&& (255 : Int32))), .val (.int (p1 &&& (255 : Int32))), .val (.int (p2 &&& (255 : Int32))), .unset, .unset, .unset, .unset, .unset, .unset, .unset] [(.ref b1)]))) st7 ?_
  refine Wp.back (U' := (T7.setTop (mkF m 38 #[.val (.int p0), .val (.int p1), .val (.int p2), .val (.int (p0 &&& (255 : Int32))), .val (.int (p1 &&& (255 : Int32))), .val (.int (p2 &&& (255 : Int32))), .val (.ref b1), .unset, .unset, .unset, .unset, .unset, .unset] [(.int (4 : Int32))]))) (fun t k => XS.astore X7.here hx rfl (hb hby at_35) rfl rfl (l' := #[.val (.int p0), .val (.int p1), .val (.int p2), .val (.int (p0 &&& (255 : Int32))), .val (.int (p1 &&& (255 : Int32))), .val (.int (p2 &&& (255 : Int32))), .val (.ref b1), .unset, .unset, .unset, .unset, .unset, .unset]) rfl (XT.iconstV X7.here hx rfl (4 : Int32) (hb hby at_37) (by decide) k)) ?_
  obtain ⟨T9, h9, k9, X9, e9, E9, A9, st9⟩ := newP X7 hx hZ (hw _ (List.mem_of_getElem? (i := 0) rfl)) e7 (g := (mkF m 38 #[.val (.int p0), .val (.int p1), .val (.int p2), .val (.int (p0 &&& (255 : Int32))), .val (.int (p1 &&& (255 : Int32))), .val (.int (p2 &&& (255 : Int32))), .val (.ref b1), .unset, .unset, .unset, .unset, .unset, .unset] [(.int (4 : Int32))])) rfl (hb hby at_38) rfl (by decide) (cap := 4) (by decide) (by decide) (by decide) (by decide)
  obtain ⟨b9, g9⟩ : ∃ z, z = h7.size := ⟨_, rfl⟩
  rw [← g9] at A9 st9
  have ne_b1_b9 : b1 ≠ b9 := Nat.ne_of_lt (Nat.lt_of_lt_of_le V7.lt (Nat.le_of_eq g9.symm))
  have g_b9 : n0 ≤ b9 := Nat.le_trans f8_0 (Nat.le_of_eq g9.symm)
  have f10_0 := Nat.le_trans f8_0 E9.1
  have f10_1 := V7.ext E9
  have V9 : Arv Z h9 b9 k9 .int (4 : Int32) [(.int (0 : Int32)), (.int (0 : Int32)), (.int (0 : Int32)), (.int (0 : Int32))] (.int (0 : Int32)) := (Arv.new A9 (by decide)).pad (pad_rep [] (.int (0 : Int32)) 4)
  refine Wp.back (U' := (T9.setTop (mkF m 40 #[.val (.int p0), .val (.int p1), .val (.int p2), .val (.int (p0 &&& (255 : Int32))), .val (.int (p1 &&& (255 : Int32))), .val (.int (p2 &&& (255 : Int32))), .val (.ref b1), .unset, .unset, .unset, .unset, .unset, .unset] [(.ref b9)]))) st9 ?_
  refine Wp.back (U' := (T9.setTop (mkF m 43 #[.val (.int p0), .val (.int p1), .val (.int p2), .val (.int (p0 &&& (255 : Int32))), .val (.int (p1 &&& (255 : Int32))), .val (.int (p2 &&& (255 : Int32))), .val (.ref b1), .unset, .unset, .unset, .unset, .unset, .unset] [(.int (0 : Int32)), (.int (0 : Int32)), (.ref b9), (.ref b9)]))) (fun t k => XS.dup X9.here hx rfl (hb hby at_40) rfl rfl (XT.iconstV X9.here hx rfl (0 : Int32) (hb hby at_41) (by decide) (XT.iconstV X9.here hx rfl (0 : Int32) (hb hby at_42) (by decide) k))) ?_
  have vq11 := V9
  obtain ⟨cl11, Ar11, qa11, qs11, qn11, qh11, qg11⟩ := vq11
  have hin11 : ¬ ((0 : Int32) < 0 ∨ cl11.slots.size ≤ ((0 : Int32)).toNatClampNeg) := inb_of qs11 ⟨by decide, by decide⟩
  obtain ⟨T11, h11, X11, e11, W11, st11⟩ := stI X9 hx hZ e9 Ar11 (j := (0 : Int32)) hin11 (g := (mkF m 43 #[.val (.int p0), .val (.int p1), .val (.int p2), .val (.int (p0 &&& (255 : Int32))), .val (.int (p1 &&& (255 : Int32))), .val (.int (p2 &&& (255 : Int32))), .val (.ref b1), .unset, .unset, .unset, .unset, .unset, .unset] [(.int (0 : Int32)), (.int (0 : Int32)), (.ref b9), (.ref b9)])) rfl rfl (hb hby at_43)
  have V11 : Arv Z h11 b9 k9 .int (4 : Int32) [(.int (0 : Int32)), (.int (0 : Int32)), (.int (0 : Int32)), (.int (0 : Int32))] (.int (0 : Int32)) := Arv.set Ar11 qa11 qs11 qn11 qh11 qg11 rfl W11 0 rfl (Nat.le_of_ble_eq_true rfl)
  have f12_0 := Nat.le_trans f10_0 (Keep.of_wr W11).1
  have f12_1 := f10_1.other W11 ne_b1_b9
  have N11 := Fr.snoc X11 N7 g_b9
  refine Wp.back (U' := (T11.setTop (mkF m 44 #[.val (.int p0), .val (.int p1), .val (.int p2), .val (.int (p0 &&& (255 : Int32))), .val (.int (p1 &&& (255 : Int32))), .val (.int (p2 &&& (255 : Int32))), .val (.ref b1), .unset, .unset, .unset, .unset, .unset, .unset] [(.ref b9)]))) st11 ?_
  refine Wp.back (U' := (T11.setTop (mkF m 47 #[.val (.int p0), .val (.int p1), .val (.int p2), .val (.int (p0 &&& (255 : Int32))), .val (.int (p1 &&& (255 : Int32))), .val (.int (p2 &&& (255 : Int32))), .val (.ref b1), .unset, .unset, .unset, .unset, .unset, .unset] [(.int (p0 &&& (255 : Int32))), (.int (1 : Int32)), (.ref b9), (.ref b9)]))) (fun t k => XS.dup X11.here hx rfl (hb hby at_44) rfl rfl (XT.iconstV X11.here hx rfl (1 : Int32) (hb hby at_45) (by decide) (XS.iloadN X11.here hx rfl (hb hby at_46) rfl k))) ?_
  have vq13 := V11
  obtain ⟨cl13, Ar13, qa13, qs13, qn13, qh13, qg13⟩ := vq13
  have hin13 : ¬ ((1 : Int32) < 0 ∨ cl13.slots.size ≤ ((1 : Int32)).toNatClampNeg) := inb_of qs13 ⟨by decide, by decide⟩
  obtain ⟨T13, h13, X13, e13, W13, st13⟩ := stI X11 hx hZ e11 Ar13 (j := (1 : Int32)) hin13 (g := (mkF m 47 #[.val (.int p0), .val (.int p1), .val (.int p2), .val (.int (p0 &&& (255 : Int32))), .val (.int (p1 &&& (255 : Int32))), .val (.int (p2 &&& (255 : Int32))), .val (.ref b1), .unset, .unset, .unset, .unset, .unset, .unset] [(.int (p0 &&& (255 : Int32))), (.int (1 : Int32)), (.ref b9), (.ref b9)])) rfl rfl (hb hby at_47)
  have V13 : Arv Z h13 b9 k9 .int (4 : Int32) [(.int (0 : Int32)), (.int (p0 &&& (255 : Int32))), (.int (0 : Int32)), (.int (0 : Int32))] (.int (0 : Int32)) := Arv.set Ar13 qa13 qs13 qn13 qh13 qg13 rfl W13 1 rfl (Nat.le_of_ble_eq_true rfl)
  have f14_0 := Nat.le_trans f12_0 (Keep.of_wr W13).1
  have f14_1 := f12_1.other W13 ne_b1_b9
  have N13 := Fr.snoc X13 N11 g_b9
  refine Wp.back (U' := (T13.setTop (mkF m 48 #[.val (.int p0), .val (.int p1), .val (.int p2), .val (.int (p0 &&& (255 : Int32))), .val (.int (p1 &&& (255 : Int32))), .val (.int (p2 &&& (255 : Int32))), .val (.ref b1), .unset, .unset, .unset, .unset, .unset, .unset] [(.ref b9)]))) st13 ?_
  refine Wp.back (U' := (T13.setTop (mkF m 54 #[.val (.int p0), .val (.int p1), .val (.int p2), .val (.int (p0 &&& (255 : Int32))), .val (.int (p1 &&& (255 : Int32))), .val (.int (p2 &&& (255 : Int32))), .val (.ref b1), .unset, .unset, .unset, .unset, .unset, .unset] [(.int ((p0 &&& (255 : Int32)) + (p1 &&& (255 : Int32)))), (.int (2 : Int32)), (.ref b9), (.ref b9)]))) (fun t k => XS.dup X13.here hx rfl (hb hby at_48) rfl rfl (XT.iconstV X13.here hx rfl (2 : Int32) (hb hby at_49) (by decide) (XS.iloadN X13.here hx rfl (hb hby at_50) rfl (XS.iload X13.here hx rfl (hb hby at_51) rfl (XS.iadd X13.here hx rfl (hb hby at_53) rfl k))))) ?_
  have vq15 := V13
  obtain ⟨cl15, Ar15, qa15, qs15, qn15, qh15, qg15⟩ := vq15
  have hin15 : ¬ ((2 : Int32) < 0 ∨ cl15.slots.size ≤ ((2 : Int32)).toNatClampNeg) := inb_of qs15 ⟨by decide, by decide⟩
  obtain ⟨T15, h15, X15, e15, W15, st15⟩ := stI X13 hx hZ e13 Ar15 (j := (2 : Int32)) hin15 (g := (mkF m 54 #[.val (.int p0), .val (.int p1), .val (.int p2), .val (.int (p0 &&& (255 : Int32))), .val (.int (p1 &&& (255 : Int32))), .val (.int (p2 &&& (255 : Int32))), .val (.ref b1), .unset, .unset, .unset, .unset, .unset, .unset] [(.int ((p0 &&& (255 : Int32)) + (p1 &&& (255 : Int32)))), (.int (2 : Int32)), (.ref b9), (.ref b9)])) rfl rfl (hb hby at_54)
  have V15 : Arv Z h15 b9 k9 .int (4 : Int32) [(.int (0 : Int32)), (.int (p0 &&& (255 : Int32))), (.int ((p0 &&& (255 : Int32)) + (p1 &&& (255 : Int32)))), (.int (0 : Int32))] (.int (0 : Int32)) := Arv.set Ar15 qa15 qs15 qn15 qh15 qg15 rfl W15 2 rfl (Nat.le_of_ble_eq_true rfl)
  have f16_0 := Nat.le_trans f14_0 (Keep.of_wr W15).1
  have f16_1 := f14_1.other W15 ne_b1_b9
  have N15 := Fr.snoc X15 N13 g_b9
  refine Wp.back (U' := (T15.setTop (mkF m 55 #[.val (.int p0), .val (.int p1), .val (.int p2), .val (.int (p0 &&& (255 : Int32))), .val (.int (p1 &&& (255 : Int32))), .val (.int (p2 &&& (255 : Int32))), .val (.ref b1), .unset, .unset, .unset, .unset, .unset, .unset] [(.ref b9)]))) st15 ?_
  refine Wp.back (U' := (T15.setTop (mkF m 64 #[.val (.int p0), .val (.int p1), .val (.int p2), .val (.int (p0 &&& (255 : Int32))), .val (.int (p1 &&& (255 : Int32))), .val (.int (p2 &&& (255 : Int32))), .val (.ref b1), .unset, .unset, .unset, .unset, .unset, .unset] [(.int (((p0 &&& (255 : Int32)) + (p1 &&& (255 : Int32))) + (p2 &&& (255 : Int32)))), (.int (3 : Int32)), (.ref b9), (.ref b9)]))) (fun t k => XS.dup X15.here hx rfl (hb hby at_55) rfl rfl (XT.iconstV X15.here hx rfl (3 : Int32) (hb hby at_56) (by decide) (XS.iloadN X15.here hx rfl (hb hby at_57) rfl (XS.iload X15.here hx rfl (hb hby at_58) rfl (XS.iadd X15.here hx rfl (hb hby at_60) rfl (XS.iload X15.here hx rfl (hb hby at_61) rfl (XS.iadd X15.here hx rfl (hb hby at_63) rfl k))))))) ?_
  have vq17 := V15
  obtain ⟨cl17, Ar17, qa17, qs17, qn17, qh17, qg17⟩ := vq17
  have hin17 : ¬ ((3 : Int32) < 0 ∨ cl17.slots.size ≤ ((3 : Int32)).toNatClampNeg) := inb_of qs17 ⟨by decide, by decide⟩
  obtain ⟨T17, h17, X17, e17, W17, st17⟩ := stI X15 hx hZ e15 Ar17 (j := (3 : Int32)) hin17 (g := (mkF m 64 #[.val (.int p0), .val (.int p1), .val (.int p2), .val (.int (p0 &&& (255 : Int32))), .val (.int (p1 &&& (255 : Int32))), .val (.int (p2 &&& (255 : Int32))), .val (.ref b1), .unset, .unset, .unset, .unset, .unset, .unset] [(.int (((p0 &&& (255 : Int32)) + (p1 &&& (255 : Int32))) + (p2 &&& (255 : Int32)))), (.int (3 : Int32)), (.ref b9), (.ref b9)])) rfl rfl (hb hby at_64)
  have V17 : Arv Z h17 b9 k9 .int (4 : Int32) [(.int (0 : Int32)), (.int (p0 &&& (255 : Int32))), (.int ((p0 &&& (255 : Int32)) + (p1 &&& (255 : Int32)))), (.int (((p0 &&& (255 : Int32)) + (p1 &&& (255 : Int32))) + (p2 &&& (255 : Int32))))] (.int (0 : Int32)) := Arv.set Ar17 qa17 qs17 qn17 qh17 qg17 rfl W17 3 rfl (Nat.le_of_ble_eq_true rfl)
  have f18_0 := Nat.le_trans f16_0 (Keep.of_wr W17).1
  have f18_1 := f16_1.other W17 ne_b1_b9
  have N17 := Fr.snoc X17 N15 g_b9
  refine Wp.back (U' := (T17.setTop (mkF m 65 #[.val (.int p0), .val (.int p1), .val (.int p2), .val (.int (p0 &&& (255 : Int32))), .val (.int (p1 &&& (255 : Int32))), .val (.int (p2 &&& (255 : Int32))), .val (.ref b1), .unset, .unset, .unset, .unset, .unset, .unset] [(.ref b9)]))) st17 ?_
  refine Wp.back (U' := (T17.setTop (mkF m 74 #[.val (.int p0), .val (.int p1), .val (.int p2), .val (.int (p0 &&& (255 : Int32))), .val (.int (p1 &&& (255 : Int32))), .val (.int (p2 &&& (255 : Int32))), .val (.ref b1), .val (.ref b9), .unset, .unset, .unset, .unset, .unset] [(.int (((p0 &&& (255 : Int32)) + (p1 &&& (255 : Int32))) + (p2 &&& (255 : Int32))))]))) (fun t k => XS.astore X17.here hx rfl (hb hby at_65) rfl rfl (l' := #[.val (.int p0), .val (.int p1), .val (.int p2), .val (.int (p0 &&& (255 : Int32))), .val (.int (p1 &&& (255 : Int32))), .val (.int (p2 &&& (255 : Int32))), .val (.ref b1), .val (.ref b9), .unset, .unset, .unset, .unset, .unset]) rfl (XS.iloadN X17.here hx rfl (hb hby at_67) rfl (XS.iload X17.here hx rfl (hb hby at_68) rfl (XS.iadd X17.here hx rfl (hb hby at_70) rfl (XS.iload X17.here hx rfl (hb hby at_71) rfl (XS.iadd X17.here hx rfl (hb hby at_73) rfl k)))))) ?_
  obtain ⟨T19, h19, k19, X19, e19, E19, A19, st19⟩ := newP X17 hx hZ (hw _ (List.mem_of_getElem? (i := 0) rfl)) e17 (g := (mkF m 74 #[.val (.int p0), .val (.int p1), .val (.int p2), .val (.int (p0 &&& (255 : Int32))), .val (.int (p1 &&& (255 : Int32))), .val (.int (p2 &&& (255 : Int32))), .val (.ref b1), .val (.ref b9), .unset, .unset, .unset, .unset, .unset] [(.int (((p0 &&& (255 : Int32)) + (p1 &&& (255 : Int32))) + (p2 &&& (255 : Int32))))])) rfl (hb hby at_74) rfl (own_m p0 p1 p2).1 (cap := 765) (own_m p0 p1 p2).2 (by decide) (by decide) (by decide)
  obtain ⟨b19, g19⟩ : ∃ z, z = h17.size := ⟨_, rfl⟩
  rw [← g19] at A19 st19
  have ne_b1_b19 : b1 ≠ b19 := Nat.ne_of_lt (Nat.lt_of_lt_of_le f18_1.lt (Nat.le_of_eq g19.symm))
  have ne_b9_b19 : b9 ≠ b19 := Nat.ne_of_lt (Nat.lt_of_lt_of_le V17.lt (Nat.le_of_eq g19.symm))
  have g_b19 : n0 ≤ b19 := Nat.le_trans f18_0 (Nat.le_of_eq g19.symm)
  have f20_0 := Nat.le_trans f18_0 E19.1
  have f20_1 := f18_1.ext E19
  have f20_2 := V17.ext E19
  have V19 : Arv Z h19 b19 k19 .int (((p0 &&& (255 : Int32)) + (p1 &&& (255 : Int32))) + (p2 &&& (255 : Int32))) [] (.int (0 : Int32)) := Arv.new A19 (own_m p0 p1 p2).1
  refine Wp.back (U' := (T19.setTop (mkF m 76 #[.val (.int p0), .val (.int p1), .val (.int p2), .val (.int (p0 &&& (255 : Int32))), .val (.int (p1 &&& (255 : Int32))), .val (.int (p2 &&& (255 : Int32))), .val (.ref b1), .val (.ref b9), .unset, .unset, .unset, .unset, .unset] [(.ref b19)]))) st19 ?_
  refine Wp.back (U' := (T19.setTop (mkF m 78 #[.val (.int p0), .val (.int p1), .val (.int p2), .val (.int (p0 &&& (255 : Int32))), .val (.int (p1 &&& (255 : Int32))), .val (.int (p2 &&& (255 : Int32))), .val (.ref b1), .val (.ref b9), .val (.ref b19), .unset, .unset, .unset, .unset] []))) (fun t k => XS.astore X19.here hx rfl (hb hby at_76) rfl rfl (l' := #[.val (.int p0), .val (.int p1), .val (.int p2), .val (.int (p0 &&& (255 : Int32))), .val (.int (p1 &&& (255 : Int32))), .val (.int (p2 &&& (255 : Int32))), .val (.ref b1), .val (.ref b9), .val (.ref b19), .unset, .unset, .unset, .unset]) rfl k) ?_
  obtain ⟨T21, h21, X21, e21, E21, A21, D21, -, st21⟩ := newO X19 hx hZ hown (hw _ (List.mem_of_getElem? (i := 1) rfl)) (hw _ (List.mem_of_getElem? (i := 2) rfl)) (hw _ (List.mem_of_getElem? (i := 3) rfl)) e19 (g := (mkF m 78 #[.val (.int p0), .val (.int p1), .val (.int p2), .val (.int (p0 &&& (255 : Int32))), .val (.int (p1 &&& (255 : Int32))), .val (.int (p2 &&& (255 : Int32))), .val (.ref b1), .val (.ref b9), .val (.ref b19), .unset, .unset, .unset, .unset] [])) rfl (hb hby at_78) (by decide) (by decide)
  obtain ⟨b21, g21⟩ : ∃ z, z = h19.size := ⟨_, rfl⟩
  rw [← g21] at A21 D21 st21
  have ne_b1_b21 : b1 ≠ b21 := Nat.ne_of_lt (Nat.lt_of_lt_of_le f20_1.lt (Nat.le_of_eq g21.symm))
  have ne_b9_b21 : b9 ≠ b21 := Nat.ne_of_lt (Nat.lt_of_lt_of_le f20_2.lt (Nat.le_of_eq g21.symm))
  have ne_b19_b21 : b19 ≠ b21 := Nat.ne_of_lt (Nat.lt_of_lt_of_le V19.lt (Nat.le_of_eq g21.symm))
  have g_b21 : n0 ≤ b21 := Nat.le_trans f20_0 (Nat.le_of_eq g21.symm)
  have f22_0 := Nat.le_trans f20_0 E21.1
  have f22_1 := f20_1.ext E21
  have f22_2 := f20_2.ext E21
  have f22_3 := V19.ext E21
  have F21_11 : Fld Z h21 b21 "com/example/mill_river/millriver/index/Postings" "documents" "[I" .null := D21 (Or.inr (hw _ (List.mem_of_getElem? (i := 11) rfl))) (ty := (.array .int)) (by decide)
  have F21_13 : Fld Z h21 b21 "com/example/mill_river/millriver/index/Postings" "starts" "[I" .null := D21 (Or.inr (hw _ (List.mem_of_getElem? (i := 13) rfl))) (ty := (.array .int)) (by decide)
  have F21_15 : Fld Z h21 b21 "com/example/mill_river/millriver/index/Postings" "offsets" "[I" .null := D21 (Or.inr (hw _ (List.mem_of_getElem? (i := 15) rfl))) (ty := (.array .int)) (by decide)
  refine Wp.back (U' := (T21.setTop (mkF m 81 #[.val (.int p0), .val (.int p1), .val (.int p2), .val (.int (p0 &&& (255 : Int32))), .val (.int (p1 &&& (255 : Int32))), .val (.int (p2 &&& (255 : Int32))), .val (.ref b1), .val (.ref b9), .val (.ref b19), .unset, .unset, .unset, .unset] [(.ref b21)]))) st21 ?_
  refine Wp.back (U' := (T21.setTop (mkF m 88 #[.val (.int p0), .val (.int p1), .val (.int p2), .val (.int (p0 &&& (255 : Int32))), .val (.int (p1 &&& (255 : Int32))), .val (.int (p2 &&& (255 : Int32))), .val (.ref b1), .val (.ref b9), .val (.ref b19), .unset, .unset, .unset, .unset] [(.ref b19), (.ref b9), (.ref b1), (.ref b21), (.ref b21)]))) (fun t k => XS.dup X21.here hx rfl (hb hby at_81) rfl rfl (XS.aload X21.here hx rfl (hb hby at_82) rfl rfl (XS.aload X21.here hx rfl (hb hby at_84) rfl rfl (XS.aload X21.here hx rfl (hb hby at_86) rfl rfl k)))) ?_
  obtain ⟨_, _, ⟨T23, L23, k23, n23⟩, -, X23, ⟨Lc23, hQ23, l23, y23, z23⟩, st23⟩ := X21.specialBack hx (y := (⟨"com/example/mill_river/millriver/index/Postings", "<init>", "([I[I[I)V"⟩ : MethodName)) rfl hown (mvT hZ (hw _ (List.mem_of_getElem? (i := 4) rfl))) (mvT hZ (hw _ (List.mem_of_getElem? (i := 5) rfl))) (mvT hZ (hw _ (List.mem_of_getElem? (i := 6) rfl))) (by decide) (backOf (W := 1) (rm_ini l Z a0 hw [] b21 b1 b9 b19  h21 n0 f22_0 A21 F21_11 F21_13 F21_15 g_b21) hZ (hw _ (List.mem_of_getElem? (i := 6) rfl)) (hw _ (List.mem_of_getElem? (i := 3) rfl)) (by decide) (by decide)) (g := (mkF m 88 #[.val (.int p0), .val (.int p1), .val (.int p2), .val (.int (p0 &&& (255 : Int32))), .val (.int (p1 &&& (255 : Int32))), .val (.int (p2 &&& (255 : Int32))), .val (.ref b1), .val (.ref b9), .val (.ref b19), .unset, .unset, .unset, .unset] [(.ref b19), (.ref b9), (.ref b1), (.ref b21), (.ref b21)])) rfl (by rw [hml]; rfl) (Steps.refl _) (a := b21) (argsL := [(.ref b1), (.ref b9), (.ref b19)]) (rest := [(.ref b21)]) (lenOf pd0_0 rfl) rfl (by show 2 * 0 + _ ≤ _; exact Nat.le_of_eq rfl) (hb hby at_88) (fun _ _ => ⟨rfl, e21, (by decide : 4 + 0 ≤ _), (by decide : 775 + 0 ≤ _)⟩)
  dsimp only [Pt.U, Pt.locs, Pt.cells, Pt.slots] at X23 l23 y23 z23 st23 hQ23
  subst l23 y23 z23
  obtain ⟨rfl, N23q, K23, o23_0, o23_1⟩ := hQ23
  have f24_0 := Nat.le_trans f22_0 K23.1
  have f24_1 := f22_1.keep K23 (ninS ne_b1_b21 nin0)
  have f24_2 := f22_2.keep K23 (ninS ne_b9_b21 nin0)
  have f24_3 := f22_3.keep K23 (ninS ne_b19_b21 nin0)
  have f24_4 := A21.keep K23
  have N23 := Fr.app N17 N23q
  refine Wp.back (U' := (T23.setTop (mkF m 91 #[.val (.int p0), .val (.int p1), .val (.int p2), .val (.int (p0 &&& (255 : Int32))), .val (.int (p1 &&& (255 : Int32))), .val (.int (p2 &&& (255 : Int32))), .val (.ref b1), .val (.ref b9), .val (.ref b19), .unset, .unset, .unset, .unset] [(.ref b21)]))) (fun t k => st23.trans k) ?_
  refine Wp.back (U' := (T23.setTop (mkF m 96 #[.val (.int p0), .val (.int p1), .val (.int p2), .val (.int (p0 &&& (255 : Int32))), .val (.int (p1 &&& (255 : Int32))), .val (.int (p2 &&& (255 : Int32))), .val (.ref b1), .val (.ref b9), .val (.ref b19), .val (.ref b21), .unset, .unset, .unset] [(.int (0 : Int32)), (.ref b21)]))) (fun t k => XS.astore X23.here hx rfl (hb hby at_91) rfl rfl (l' := #[.val (.int p0), .val (.int p1), .val (.int p2), .val (.int (p0 &&& (255 : Int32))), .val (.int (p1 &&& (255 : Int32))), .val (.int (p2 &&& (255 : Int32))), .val (.ref b1), .val (.ref b9), .val (.ref b19), .val (.ref b21), .unset, .unset, .unset]) rfl (XS.aload X23.here hx rfl (hb hby at_93) rfl rfl (XT.iconstV X23.here hx rfl (0 : Int32) (hb hby at_95) (by decide) k))) ?_
  obtain ⟨cq25, kq25, q25a, q25b, q25c⟩ := isOf hZ rfl o23_0
  obtain ⟨_, _, ⟨T25, L25, k25, n25⟩, -, X25, ⟨Lc25, hQ25, l25, y25, z25⟩, st25⟩ := X23.virtualBack hx (y := (⟨"com/example/mill_river/millriver/index/Postings", "frequency", "(I)I"⟩ : MethodName)) (z := (⟨"com/example/mill_river/millriver/index/Postings", "frequency", "(I)I"⟩ : MethodName)) hown (mvT hZ (hw _ (List.mem_of_getElem? (i := 16) rfl))) (mvT hZ (hw _ (List.mem_of_getElem? (i := 17) rfl))) (notFace_of_selects (args := #[]) (mvT hZ (hw _ (List.mem_of_getElem? (i := 19) rfl)))) (mvT hZ (hw _ (List.mem_of_getElem? (i := 19) rfl))) (mvT hZ (hw _ (List.mem_of_getElem? (i := 18) rfl))) (by decide) (backOf (W := 0) (rm_fq0 l Z a0 hw [] b21 b9 k9 (0 : Int32) (p0 &&& (255 : Int32)) ((p0 &&& (255 : Int32)) + (p1 &&& (255 : Int32))) (((p0 &&& (255 : Int32)) + (p1 &&& (255 : Int32))) + (p2 &&& (255 : Int32))) T23.heap n0 f24_0 o23_1 f24_2) hZ (hw _ (List.mem_of_getElem? (i := 20) rfl)) (hw _ (List.mem_of_getElem? (i := 3) rfl)) (by decide) (by decide)) q25a q25c (g := (mkF m 96 #[.val (.int p0), .val (.int p1), .val (.int p2), .val (.int (p0 &&& (255 : Int32))), .val (.int (p1 &&& (255 : Int32))), .val (.int (p2 &&& (255 : Int32))), .val (.ref b1), .val (.ref b9), .val (.ref b19), .val (.ref b21), .unset, .unset, .unset] [(.int (0 : Int32)), (.ref b21)])) rfl (by rw [hml]; rfl) (Steps.refl _) (argsL := [(.int (0 : Int32))]) (rest := []) (lenOf pd0_1 rfl) rfl (by show 2 * 0 + _ ≤ _; exact Nat.le_of_eq rfl) (hb hby at_96) (fun _ _ => ⟨rfl, rfl, (by decide : 4 + 0 ≤ _), (by decide : 775 + 0 ≤ _)⟩)
  dsimp only [Pt.U, Pt.locs, Pt.cells, Pt.slots] at X25 l25 y25 z25 st25 hQ25
  subst l25 y25 z25
  obtain ⟨rfl, N25q, K25⟩ := hQ25
  have f26_0 := Nat.le_trans f24_0 K25.1
  have f26_1 := f24_1.keep K25 nin0
  have f26_2 := f24_2.keep K25 nin0
  have f26_3 := f24_3.keep K25 nin0
  have f26_4 := o23_0.keep K25
  have f26_5 := o23_1.keep K25 nin0
  have N25 := Fr.app N23 N25q
  refine Wp.back (U' := (T25.setTop (mkF m 99 #[.val (.int p0), .val (.int p1), .val (.int p2), .val (.int (p0 &&& (255 : Int32))), .val (.int (p1 &&& (255 : Int32))), .val (.int (p2 &&& (255 : Int32))), .val (.ref b1), .val (.ref b9), .val (.ref b19), .val (.ref b21), .unset, .unset, .unset] [(.int ((p0 &&& (255 : Int32)) - (0 : Int32)))]))) (fun t k => st25.trans k) ?_
  refine Wp.back (U' := (T25.setTop (mkF m 104 #[.val (.int p0), .val (.int p1), .val (.int p2), .val (.int (p0 &&& (255 : Int32))), .val (.int (p1 &&& (255 : Int32))), .val (.int (p2 &&& (255 : Int32))), .val (.ref b1), .val (.ref b9), .val (.ref b19), .val (.ref b21), .val (.int ((p0 &&& (255 : Int32)) - (0 : Int32))), .unset, .unset] [(.int (1 : Int32)), (.ref b21)]))) (fun t k => XS.istore X25.here hx rfl (hb hby at_99) rfl (l' := #[.val (.int p0), .val (.int p1), .val (.int p2), .val (.int (p0 &&& (255 : Int32))), .val (.int (p1 &&& (255 : Int32))), .val (.int (p2 &&& (255 : Int32))), .val (.ref b1), .val (.ref b9), .val (.ref b19), .val (.ref b21), .val (.int ((p0 &&& (255 : Int32)) - (0 : Int32))), .unset, .unset]) rfl (XS.aload X25.here hx rfl (hb hby at_101) rfl rfl (XT.iconstV X25.here hx rfl (1 : Int32) (hb hby at_103) (by decide) k))) ?_
  obtain ⟨cq27, kq27, q27a, q27b, q27c⟩ := isOf hZ rfl f26_4
  obtain ⟨_, _, ⟨T27, L27, k27, n27⟩, -, X27, ⟨Lc27, hQ27, l27, y27, z27⟩, st27⟩ := X25.virtualBack hx (y := (⟨"com/example/mill_river/millriver/index/Postings", "frequency", "(I)I"⟩ : MethodName)) (z := (⟨"com/example/mill_river/millriver/index/Postings", "frequency", "(I)I"⟩ : MethodName)) hown (mvT hZ (hw _ (List.mem_of_getElem? (i := 16) rfl))) (mvT hZ (hw _ (List.mem_of_getElem? (i := 17) rfl))) (notFace_of_selects (args := #[]) (mvT hZ (hw _ (List.mem_of_getElem? (i := 19) rfl)))) (mvT hZ (hw _ (List.mem_of_getElem? (i := 19) rfl))) (mvT hZ (hw _ (List.mem_of_getElem? (i := 18) rfl))) (by decide) (backOf (W := 0) (rm_fq1 l Z a0 hw [] b21 b9 k9 (0 : Int32) (p0 &&& (255 : Int32)) ((p0 &&& (255 : Int32)) + (p1 &&& (255 : Int32))) (((p0 &&& (255 : Int32)) + (p1 &&& (255 : Int32))) + (p2 &&& (255 : Int32))) T25.heap n0 f26_0 f26_5 f26_2) hZ (hw _ (List.mem_of_getElem? (i := 20) rfl)) (hw _ (List.mem_of_getElem? (i := 3) rfl)) (by decide) (by decide)) q27a q27c (g := (mkF m 104 #[.val (.int p0), .val (.int p1), .val (.int p2), .val (.int (p0 &&& (255 : Int32))), .val (.int (p1 &&& (255 : Int32))), .val (.int (p2 &&& (255 : Int32))), .val (.ref b1), .val (.ref b9), .val (.ref b19), .val (.ref b21), .val (.int ((p0 &&& (255 : Int32)) - (0 : Int32))), .unset, .unset] [(.int (1 : Int32)), (.ref b21)])) rfl (by rw [hml]; rfl) (Steps.refl _) (argsL := [(.int (1 : Int32))]) (rest := []) (lenOf pd0_1 rfl) rfl (by show 2 * 0 + _ ≤ _; exact Nat.le_of_eq rfl) (hb hby at_104) (fun _ _ => ⟨rfl, rfl, (by decide : 4 + 0 ≤ _), (by decide : 775 + 0 ≤ _)⟩)
  dsimp only [Pt.U, Pt.locs, Pt.cells, Pt.slots] at X27 l27 y27 z27 st27 hQ27
  subst l27 y27 z27
  obtain ⟨rfl, N27q, K27⟩ := hQ27
  have f28_0 := Nat.le_trans f26_0 K27.1
  have f28_1 := f26_1.keep K27 nin0
  have f28_2 := f26_2.keep K27 nin0
  have f28_3 := f26_3.keep K27 nin0
  have f28_4 := f26_4.keep K27
  have f28_5 := f26_5.keep K27 nin0
  have N27 := Fr.app N25 N27q
  refine Wp.back (U' := (T27.setTop (mkF m 107 #[.val (.int p0), .val (.int p1), .val (.int p2), .val (.int (p0 &&& (255 : Int32))), .val (.int (p1 &&& (255 : Int32))), .val (.int (p2 &&& (255 : Int32))), .val (.ref b1), .val (.ref b9), .val (.ref b19), .val (.ref b21), .val (.int ((p0 &&& (255 : Int32)) - (0 : Int32))), .unset, .unset] [(.int (((p0 &&& (255 : Int32)) + (p1 &&& (255 : Int32))) - (p0 &&& (255 : Int32))))]))) (fun t k => st27.trans k) ?_
  refine Wp.back (U' := (T27.setTop (mkF m 112 #[.val (.int p0), .val (.int p1), .val (.int p2), .val (.int (p0 &&& (255 : Int32))), .val (.int (p1 &&& (255 : Int32))), .val (.int (p2 &&& (255 : Int32))), .val (.ref b1), .val (.ref b9), .val (.ref b19), .val (.ref b21), .val (.int ((p0 &&& (255 : Int32)) - (0 : Int32))), .val (.int (((p0 &&& (255 : Int32)) + (p1 &&& (255 : Int32))) - (p0 &&& (255 : Int32)))), .unset] [(.int (2 : Int32)), (.ref b21)]))) (fun t k => XS.istore X27.here hx rfl (hb hby at_107) rfl (l' := #[.val (.int p0), .val (.int p1), .val (.int p2), .val (.int (p0 &&& (255 : Int32))), .val (.int (p1 &&& (255 : Int32))), .val (.int (p2 &&& (255 : Int32))), .val (.ref b1), .val (.ref b9), .val (.ref b19), .val (.ref b21), .val (.int ((p0 &&& (255 : Int32)) - (0 : Int32))), .val (.int (((p0 &&& (255 : Int32)) + (p1 &&& (255 : Int32))) - (p0 &&& (255 : Int32)))), .unset]) rfl (XS.aload X27.here hx rfl (hb hby at_109) rfl rfl (XT.iconstV X27.here hx rfl (2 : Int32) (hb hby at_111) (by decide) k))) ?_
  obtain ⟨cq29, kq29, q29a, q29b, q29c⟩ := isOf hZ rfl f28_4
  obtain ⟨_, _, ⟨T29, L29, k29, n29⟩, -, X29, ⟨Lc29, hQ29, l29, y29, z29⟩, st29⟩ := X27.virtualBack hx (y := (⟨"com/example/mill_river/millriver/index/Postings", "frequency", "(I)I"⟩ : MethodName)) (z := (⟨"com/example/mill_river/millriver/index/Postings", "frequency", "(I)I"⟩ : MethodName)) hown (mvT hZ (hw _ (List.mem_of_getElem? (i := 16) rfl))) (mvT hZ (hw _ (List.mem_of_getElem? (i := 17) rfl))) (notFace_of_selects (args := #[]) (mvT hZ (hw _ (List.mem_of_getElem? (i := 19) rfl)))) (mvT hZ (hw _ (List.mem_of_getElem? (i := 19) rfl))) (mvT hZ (hw _ (List.mem_of_getElem? (i := 18) rfl))) (by decide) (backOf (W := 0) (rm_fq2 l Z a0 hw [] b21 b9 k9 (0 : Int32) (p0 &&& (255 : Int32)) ((p0 &&& (255 : Int32)) + (p1 &&& (255 : Int32))) (((p0 &&& (255 : Int32)) + (p1 &&& (255 : Int32))) + (p2 &&& (255 : Int32))) T27.heap n0 f28_0 f28_5 f28_2) hZ (hw _ (List.mem_of_getElem? (i := 20) rfl)) (hw _ (List.mem_of_getElem? (i := 3) rfl)) (by decide) (by decide)) q29a q29c (g := (mkF m 112 #[.val (.int p0), .val (.int p1), .val (.int p2), .val (.int (p0 &&& (255 : Int32))), .val (.int (p1 &&& (255 : Int32))), .val (.int (p2 &&& (255 : Int32))), .val (.ref b1), .val (.ref b9), .val (.ref b19), .val (.ref b21), .val (.int ((p0 &&& (255 : Int32)) - (0 : Int32))), .val (.int (((p0 &&& (255 : Int32)) + (p1 &&& (255 : Int32))) - (p0 &&& (255 : Int32)))), .unset] [(.int (2 : Int32)), (.ref b21)])) rfl (by rw [hml]; rfl) (Steps.refl _) (argsL := [(.int (2 : Int32))]) (rest := []) (lenOf pd0_1 rfl) rfl (by show 2 * 0 + _ ≤ _; exact Nat.le_of_eq rfl) (hb hby at_112) (fun _ _ => ⟨rfl, rfl, (by decide : 4 + 0 ≤ _), (by decide : 775 + 0 ≤ _)⟩)
  dsimp only [Pt.U, Pt.locs, Pt.cells, Pt.slots] at X29 l29 y29 z29 st29 hQ29
  subst l29 y29 z29
  obtain ⟨rfl, N29q, K29⟩ := hQ29
  have f30_0 := Nat.le_trans f28_0 K29.1
  have f30_1 := f28_1.keep K29 nin0
  have f30_2 := f28_2.keep K29 nin0
  have f30_3 := f28_3.keep K29 nin0
  have f30_4 := f28_4.keep K29
  have f30_5 := f28_5.keep K29 nin0
  have N29 := Fr.app N27 N29q
  refine Wp.back (U' := (T29.setTop (mkF m 115 #[.val (.int p0), .val (.int p1), .val (.int p2), .val (.int (p0 &&& (255 : Int32))), .val (.int (p1 &&& (255 : Int32))), .val (.int (p2 &&& (255 : Int32))), .val (.ref b1), .val (.ref b9), .val (.ref b19), .val (.ref b21), .val (.int ((p0 &&& (255 : Int32)) - (0 : Int32))), .val (.int (((p0 &&& (255 : Int32)) + (p1 &&& (255 : Int32))) - (p0 &&& (255 : Int32)))), .unset] [(.int ((((p0 &&& (255 : Int32)) + (p1 &&& (255 : Int32))) + (p2 &&& (255 : Int32))) - ((p0 &&& (255 : Int32)) + (p1 &&& (255 : Int32)))))]))) (fun t k => st29.trans k) ?_
  refine Wp.back (U' := (T29.setTop (mkF m 142 #[.val (.int p0), .val (.int p1), .val (.int p2), .val (.int (p0 &&& (255 : Int32))), .val (.int (p1 &&& (255 : Int32))), .val (.int (p2 &&& (255 : Int32))), .val (.ref b1), .val (.ref b9), .val (.ref b19), .val (.ref b21), .val (.int ((p0 &&& (255 : Int32)) - (0 : Int32))), .val (.int (((p0 &&& (255 : Int32)) + (p1 &&& (255 : Int32))) - (p0 &&& (255 : Int32)))), .val (.int ((((p0 &&& (255 : Int32)) + (p1 &&& (255 : Int32))) + (p2 &&& (255 : Int32))) - ((p0 &&& (255 : Int32)) + (p1 &&& (255 : Int32)))))] [(.int (1 : Int32))]))) (fun t k => XS.istore X29.here hx rfl (hb hby at_115) rfl (l' := #[.val (.int p0), .val (.int p1), .val (.int p2), .val (.int (p0 &&& (255 : Int32))), .val (.int (p1 &&& (255 : Int32))), .val (.int (p2 &&& (255 : Int32))), .val (.ref b1), .val (.ref b9), .val (.ref b19), .val (.ref b21), .val (.int ((p0 &&& (255 : Int32)) - (0 : Int32))), .val (.int (((p0 &&& (255 : Int32)) + (p1 &&& (255 : Int32))) - (p0 &&& (255 : Int32)))), .val (.int ((((p0 &&& (255 : Int32)) + (p1 &&& (255 : Int32))) + (p2 &&& (255 : Int32))) - ((p0 &&& (255 : Int32)) + (p1 &&& (255 : Int32)))))]) rfl (XS.iload X29.here hx rfl (hb hby at_117) rfl (XS.iloadN X29.here hx rfl (hb hby at_119) rfl (XS.icmpNo X29.here hx rfl (hb hby at_120) rfl (teq (Int32.sub_zero _)).2 (XS.iload X29.here hx rfl (hb hby at_123) rfl (XS.iload X29.here hx rfl (hb hby at_125) rfl (XS.icmpNo X29.here hx rfl (hb hby at_127) rfl (teq (own_f _ _)).2 (XS.iload X29.here hx rfl (hb hby at_130) rfl (XS.iload X29.here hx rfl (hb hby at_132) rfl (XS.icmpNo X29.here hx rfl (hb hby at_134) rfl (teq (own_f _ _)).2 (XT.iconstV X29.here hx rfl (1 : Int32) (hb hby at_137) (by decide) (XS.goto X29.here hx rfl (pc0 := 138) (pc' := 142) rfl (hb hby at_138) (by decide) (by decide) k)))))))))))) ?_
  obtain ⟨fs, hr, hrun, hended, hW, hsame⟩ := X29.leave (v := (some (.int (1 : Int32)))) (fun h => by rw [hret] at h; cases h)
  refine Wp.done (retN X29 hx (t := .boolean) hret (by simp) (hb hby at_142) hr) hrun hended ⟨_, _, rfl, ?_, ⟨_, rfl⟩, hW, hsame.mono (by decide) (by decide)⟩
  show QL n0 _ T29.heap _
  exact ⟨rfl, N29⟩
set_option maxRecDepth 65536 in
set_option maxHeartbeats 40000000 in
theorem comes_1 {Post : Tables → Env → Array Value → State → Outcome → State → Prop} (hpost : ∀ tb e args s v u, (limb_1_1.after args s (.returned v) u = true ∧ limb_1_2.after args s (.returned v) u = true ∧ True) → FrameEnd s (.returned v) u (Jvm.fieldLocs frame_1_writes args s ++ Jvm.arrayLocs frame_1_arrays args s ++ Jvm.staticLocs frame_1_statics s) 16 1664 → Post tb e args s (.returned v) u) :
    ArmFor flags0 classFile x code maxLocals ret World_1 tables_1 room_1 Calls_1 rest_1 Pre_1 Post := by
  intro l hfl _ _ p e ha hc hk s m args below hf hA hF happ hP
  obtain ⟨hcalls, hrest, hpre⟩ := hP
  obtain ⟨-, -, -, hnamed, -, -, -, hat⟩ := (Spec.applies_iff hf).mp happ
  obtain ⟨hg, hn⟩ := and_e (Cond.before_iff.mp (show (Jvm.Cond.and given_1 narrow_1).before args s = true from hpre))
  obtain ⟨hg1, hg2⟩ := and_e hg
  obtain ⟨hg21, hg22⟩ := and_e hg2
  obtain ⟨hg221, hg222⟩ := and_e hg22
  obtain ⟨w0, w1, w2, rfl⟩ : ∃ w0 w1 w2 : Value, args = #[w0, w1, w2] := by
    have hs : args.size = 3 := by simpa [Cond.value, given_1] using hg1
    obtain ⟨L⟩ := args
    match L, hs with
    | [w0, w1, w2], _ => exact ⟨w0, w1, w2, rfl⟩
  have hw := fun d (hd : d ∈ tables_1) => atoms_spec (ws := Jvm.Cond.code x code maxLocals ret :: tables_1) hat d (List.mem_cons_of_mem _ hd)
  have hfit : Fit s := fun {y c} hc i hi => by
    obtain ⟨ha, rfl⟩ := Array.getElem?_eq_some_iff.mp hc
    have q := List.all_eq_true.mp ((Array.all_eq_true_iff_forall_mem.mp hF) _ (Array.getElem_mem ha)) i (List.mem_range.mpr hi)
    simpa [Array.getElem?_eq_getElem hi] using q
  obtain ⟨i0, ei0⟩ := is_v hg21
  obtain rfl : w0 = (.int i0) := Option.some.inj ei0
  obtain ⟨i1, ei1⟩ := is_v hg221
  obtain rfl : w1 = (.int i1) := Option.some.inj ei1
  obtain ⟨i2, ei2⟩ := is_v hg222
  obtain rfl : w2 = (.int i2) := Option.some.inj ei2
  obtain ⟨n, o, h1, h2, h3, _, L, rfl, ⟨rfl, N⟩, hq⟩ := rm_law l s _ hw tables_1 i0 i1 i2 s.heap s.heap.size (Nat.le_refl _)  p e ha hc hk s m _ below hf ((Spec.applies_iff_loose hf).mp happ).1 ⟨rfl, State.Warmed39.refl s, rfl⟩ trivial
  refine ⟨n, _, h1, h2, h3, hpost _ _ _ _ _ _ ⟨Cond.after_iff.mpr rfl, Cond.after_iff.mpr (eq_i res_at (Term.int_eval (1)) rfl), trivial⟩ ⟨hq.1, hq.2.1, (hq.2.2.sift fun y hy => Or.inr (N y hy)).mono (by decide) (by decide)⟩⟩
theorem main_1_1 : Claimed_1_1 := comes_1 fun _ _ _ _ _ _ h hF => ⟨h.1, hF⟩
theorem main_1_2 : Claimed_1_2 := comes_1 fun _ _ _ _ _ _ h hF => ⟨h.2.1, hF⟩
end Jvm.Pilot.@@N@@
namespace Jvm.Pilot.@@N@@
open Jvm Jvm.ClassFile Sem Op Lib Jvm.Free Jvm.Stand Jvm.Pilot.@@N@@.Jvm.D
/-! MADE BY PROGRAM (witnessworld.py) out of the Statement's table words and the real class files: 9 classes; the members and pool entries that the words name. The judged class is class 1, her method 1. -/
namespace start1
open Jvm.ClassFile
def u (s : String) : CpInfo := .utf8 (stringToUtf16 s)
/-- a pool by its gaps: so many unusable entries, then the entry; so many at the end -/
def gap : Nat → List CpInfo → List CpInfo
  | 0, r => r
  | n + 1, r => .unusable :: gap n r
def poolList (es : List (Nat × CpInfo)) (last : Nat) : List CpInfo := es.foldr (fun e r => gap e.1 (e.2 :: r)) (gap last [])
def pool (es : List (Nat × CpInfo)) (last : Nat) : Array CpInfo := ⟨poolList es last⟩
def fileOf (pool : Array CpInfo) (this : Nat) (attrs : Array Attribute := #[]) (ms : Array MethodInfo := #[]) (fl : Nat := 33) (sup : Nat := 0) (ifs : Array Nat := #[]) (fds : Array FieldInfo := #[]) : ClassFile where
  minorVersion := 0
  majorVersion := 65
  constantPool := pool
  accessFlags := fl
  thisClass := this
  superClass := sup
  interfaces := ifs
  fields := fds
  methods := ms
  attributes := attrs
def plain (name : String) (sup : Option ClassId) : Class where
  name := name
  kind := .ordinary
  loader := none
  accessFlags := 33
  super := sup
  interfaces := #[]
  cf := none
  fields := #[]
  methods := #[]
  instanceTypes := #[]
  staticTypes := #[]
  resolved := #[]
  callSites := []
  init := .initialized
  statics := none
  mirror := none

def pool0 : Array CpInfo := pool [(5, u "<init>"), (0, u "()V"), (1, .class_ 10), (1, u "java/lang/Object")] 113

def k0c0 : Code := { maxStack := 0, maxLocals := 1, code := object_method_1_code, exceptionTable := #[], attributes := #[] }
def k0m0 : Method := { name := "<init>", desc := "()V", sig := { parameters := [], returnType := none }, accessFlags := 1, code := some k0c0 }
/-- java/lang/Object -/
def k0 : Class := { plain "java/lang/Object" none with
  accessFlags := 33
  interfaces := #[]
  cf := some (fileOf pool0 8 #[] #[{ accessFlags := 1, nameIndex := 5, descriptorIndex := 6, attributes := #[] }] 33 0 #[] #[])
  fields := #[]
  methods := #[k0m0]
  instanceTypes := #[]
  staticTypes := #[]
  resolved := Array.replicate 124 none
  statics := none }

def pool1 : Array CpInfo := pool [(2, .class_ 4), (1, u "java/lang/Object"), (0, u "<init>"), (0, u "()V"), (0, .class_ 8), (0, u "com/example/mill_river/millriver/index/Postings"), (0, .methodref 7 10), (0, .nameAndType 5 11), (0, u "([I[I[I)V"), (0, .methodref 7 13), (0, .nameAndType 14 15), (0, u "frequency"), (0, u "(I)I"), (0, .class_ 17), (0, u "com/example/mill_river/millriver/index/PostingsFrequencyPinLaw"), (2, u "law"), (0, u "(III)Z")] 5

def k1m0 : Method := { name := "<init>", desc := "()V", sig := { parameters := [], returnType := none }, accessFlags := 1, code := none }
def k1c1 : Code := { maxStack := 5, maxLocals := 13, code := code, exceptionTable := #[], attributes := #[] }
def k1m1 : Method := { name := "law", desc := "(III)Z", sig := { parameters := [.int, .int, .int], returnType := some .boolean }, accessFlags := 9, code := some k1c1 }
/-- com/example/mill_river/millriver/index/PostingsFrequencyPinLaw -/
def k1 : Class := { plain "com/example/mill_river/millriver/index/PostingsFrequencyPinLaw" (some 0) with
  accessFlags := 49
  interfaces := #[]
  cf := some (fileOf pool1 16 #[] #[{ accessFlags := 1, nameIndex := 5, descriptorIndex := 6, attributes := #[] }, { accessFlags := 9, nameIndex := 20, descriptorIndex := 21, attributes := #[] }] 49 2 #[] #[])
  fields := #[]
  methods := #[k1m0, k1m1]
  instanceTypes := #[]
  staticTypes := #[]
  resolved := Array.replicate 27 none
  statics := none }

def pool2 : Array CpInfo := pool [(1, .methodref 2 3), (0, .class_ 4), (0, .nameAndType 5 6), (0, u "java/lang/Object"), (0, u "<init>"), (0, u "()V"), (0, .fieldref 8 9), (0, .class_ 10), (0, .nameAndType 11 12), (0, u "com/example/mill_river/millriver/index/Postings"), (0, u "documents"), (0, u "[I"), (0, .fieldref 8 14), (0, .nameAndType 15 12), (0, u "starts"), (0, .fieldref 8 17), (0, .nameAndType 18 12), (0, u "offsets"), (2, u "frequency"), (0, u "(I)I"), (8, u "([I[I[I)V"), (2, u "EMPTY"), (0, u "Lcom/example/mill_river/millriver/index/Postings;")] 11

def k2c0 : Code := { maxStack := 2, maxLocals := 4, code := prog_51_method_1_code, exceptionTable := #[], attributes := #[] }
def k2m0 : Method := { name := "<init>", desc := "([I[I[I)V", sig := { parameters := [(.array .int), (.array .int), (.array .int)], returnType := none }, accessFlags := 0, code := some k2c0 }
def k2c1 : Code := { maxStack := 3, maxLocals := 2, code := prog_51_method_5_code, exceptionTable := #[], attributes := #[] }
def k2m1 : Method := { name := "frequency", desc := "(I)I", sig := { parameters := [.int], returnType := some .int }, accessFlags := 1, code := some k2c1 }
/-- com/example/mill_river/millriver/index/Postings -/
def k2 : Class := { plain "com/example/mill_river/millriver/index/Postings" (some 0) with
  accessFlags := 33
  interfaces := #[]
  cf := some (fileOf pool2 8 #[] #[{ accessFlags := 0, nameIndex := 5, descriptorIndex := 31, attributes := #[] }, { accessFlags := 1, nameIndex := 21, descriptorIndex := 22, attributes := #[] }] 33 2 #[] #[{ accessFlags := 24, nameIndex := 34, descriptorIndex := 35, attributes := #[] }, { accessFlags := 18, nameIndex := 11, descriptorIndex := 12, attributes := #[] }, { accessFlags := 18, nameIndex := 15, descriptorIndex := 12, attributes := #[] }, { accessFlags := 18, nameIndex := 18, descriptorIndex := 12, attributes := #[] }])
  fields := #[{ name := "EMPTY", type := (.object "com/example/mill_river/millriver/index/Postings"), accessFlags := 24, slot := 0, constantValue := 0 }, { name := "documents", type := (.array .int), accessFlags := 18, slot := 0, constantValue := 0 }, { name := "starts", type := (.array .int), accessFlags := 18, slot := 1, constantValue := 0 }, { name := "offsets", type := (.array .int), accessFlags := 18, slot := 2, constantValue := 0 }]
  methods := #[k2m0, k2m1]
  instanceTypes := #[(.array .int), (.array .int), (.array .int)]
  staticTypes := #[(.object "com/example/mill_river/millriver/index/Postings")]
  resolved := Array.replicate 47 none
  statics := none }

def pool3 : Array CpInfo := pool [(1, u "java/lang/Cloneable"), (0, .class_ 1), (0, u "java/lang/Object"), (0, .class_ 3)] 3

/-- java/lang/Cloneable -/
def k3 : Class := { plain "java/lang/Cloneable" (some 0) with
  accessFlags := 1537
  interfaces := #[]
  cf := some (fileOf pool3 2 #[] #[] 1537 4 #[] #[])
  fields := #[]
  methods := #[]
  instanceTypes := #[]
  staticTypes := #[]
  resolved := Array.replicate 8 none
  statics := none }

def pool4 : Array CpInfo := pool [(1, u "java/io/Serializable"), (0, .class_ 1), (0, u "java/lang/Object"), (0, .class_ 3)] 3

/-- java/io/Serializable -/
def k4 : Class := { plain "java/io/Serializable" (some 0) with
  accessFlags := 1537
  interfaces := #[]
  cf := some (fileOf pool4 2 #[] #[] 1537 4 #[] #[])
  fields := #[]
  methods := #[]
  instanceTypes := #[]
  staticTypes := #[]
  resolved := Array.replicate 8 none
  statics := none }

/-- the primitive byte -/
def k5 : Class := { plain "byte" none with kind := .primitive 'B', accessFlags := 0x411 }
/-- [B -/
def k6 : Class := { plain "[B" (some 0) with kind := .array 5 .byte, interfaces := #[3, 4], accessFlags := 1041 }

/-- the primitive int -/
def k7 : Class := { plain "int" none with kind := .primitive 'I', accessFlags := 0x411 }
/-- [I -/
def k8 : Class := { plain "[I" (some 0) with kind := .array 7 .int, interfaces := #[3, 4], accessFlags := 1041 }

def heap : Heap := #[]
def classes : Array Class := #[k0, k1, k2, k3, k4, k5, k6, k7, k8]
def interned : List (Array UInt16 × Addr) := []
def slotsUsed : Nat := 0
def theMethod : MethodId := ⟨1, 1⟩
def args0 : Array Value := #[.int 5, .int 1, .int 2]
def aboutOver (below : List Frame) : State where
  vm := { classes := classes, interned := interned.toArray }
  heap := heap
  slotsUsed := slotsUsed
  threads := #[{ frames := .invoking theMethod args0 :: below }]
def below0 : List Frame := [.native { method := ⟨0, 0⟩, args := #[] }]
def about1 : State := aboutOver below0
def p0 : Program := .bare "" "" ""
def e0 : Env := launch0.env 0 0 0
theorem w_frames : about1.frames = Frame.invoking theMethod args0 :: below0 := rfl
set_option maxRecDepth 65536 in
theorem w_args : argsFit about1.vm theMethod args0 = true := by decide +kernel
set_option maxRecDepth 65536 in
theorem w_heap : heapFits about1 = true := by decide +kernel
set_option maxRecDepth 65536 in
theorem w_runnable : about1.curStatus? = some .runnable := by decide +kernel
set_option maxRecDepth 65536 in
theorem w_alone : about1.alone = true := by decide +kernel
set_option maxRecDepth 65536 in
theorem w_named : about1.methodNamed? x = some theMethod := by decide +kernel
set_option maxRecDepth 65536 in
theorem w_hears : about1.hears theMethod below0 = true := by decide +kernel
set_option maxRecDepth 65536 in
theorem w_ripe : about1.ripe theMethod args0 below0 = true := by decide +kernel
theorem w_running : about1.status = .running := rfl
set_option maxRecDepth 65536 in
theorem w_room : about1.hasRoom e0.platform room_1 = true :=
  launch0.hasRoom_least _ room_1 (by decide +kernel) (by decide +kernel) (by decide +kernel) (by decide +kernel) (by decide +kernel) (by decide +kernel)
theorem allAtoms_all (ts : List Jvm.Cond) (a : Array Jvm.Value) (st : Jvm.State) : (allAtoms ts).before a st = ts.all (fun c => c.before a st) := by
  induction ts with
  | nil => rfl
  | cons c t ih =>
    show (Jvm.Cond.and c (allAtoms t)).before a st = _
    rw [Jvm.Cond.before_and, ih, List.all_cons]
def words1 : List Jvm.Cond := Jvm.Cond.code x code maxLocals ret :: tables_1
/-- a 'code' word, met by the world's own term for the bytes: nothing is compared byte by byte -/
theorem code_word {y : MethodName} {bytes : ByteArray} {mx : Nat} {rt : Option FieldType} {a : Array Value} {s : State} {m : MethodId} {meth : Method} {c : Code} (h1 : s.methodNamed? y = some m) (h2 : s.vm.method? m = some meth) (h3 : meth.code = some c) (h4 : c.code = bytes)
    (h5 : (c.maxLocals == mx && c.exceptionTable.isEmpty && decide (c.maxStack ≤ mostOperands) && decide (meth.sig.returnType = rt) && !meth.locks && decide (parseMethodDescriptor y.desc = some meth.sig)) = true) : (Jvm.Cond.code y bytes mx rt).before a s = true := by
  simp only [Bool.and_eq_true, beq_iff_eq, Bool.not_eq_true', decide_eq_true_eq] at h5
  obtain ⟨⟨⟨⟨⟨g1, g2⟩, g3⟩, g4⟩, g5⟩, g6⟩ := h5
  simp [Cond.before, Cond.holds, Cond.value, h1, h2, h3, h4, g1, g2, g3, g4, g5, g6]
def isCode : Jvm.Cond → Bool
  | .code _ _ _ _ => true
  | _ => false
theorem all_split {L : List Jvm.Cond} {P : Jvm.Cond → Bool} (h1 : L.all (fun c => isCode c || P c) = true) (h2 : ∀ c ∈ L.filter isCode, P c = true) : L.all P = true := by
  refine List.all_eq_true.mpr fun c hc => ?_
  have h := List.all_eq_true.mp h1 c hc
  rcases Bool.eq_false_or_eq_true (isCode c) with hi | hi
  · exact h2 c (List.mem_filter.mpr ⟨hc, hi⟩)
  · simpa [hi] using h
set_option maxRecDepth 65536 in
theorem w_c0 : (Jvm.Cond.code x code maxLocals ret).before args0 about1 = true := code_word (m := ⟨1, 1⟩) (meth := k1m1) (c := k1c1) (by decide +kernel) rfl rfl rfl (by decide +kernel)
set_option maxRecDepth 65536 in
theorem w_c1 : (Jvm.Cond.code ({ cls := "com/example/mill_river/millriver/index/Postings", name := "<init>", desc := "([I[I[I)V" } : Jvm.MethodName) prog_51_method_1_code (4 : Nat) (Option.none : Option Jvm.ClassFile.FieldType)).before args0 about1 = true := code_word (m := ⟨2, 0⟩) (meth := k2m0) (c := k2c0) (by decide +kernel) rfl rfl rfl (by decide +kernel)
set_option maxRecDepth 65536 in
theorem w_c2 : (Jvm.Cond.code ({ cls := "java/lang/Object", name := "<init>", desc := "()V" } : Jvm.MethodName) object_method_1_code (1 : Nat) (Option.none : Option Jvm.ClassFile.FieldType)).before args0 about1 = true := code_word (m := ⟨0, 0⟩) (meth := k0m0) (c := k0c0) (by decide +kernel) rfl rfl rfl (by decide +kernel)
set_option maxRecDepth 65536 in
theorem w_c3 : (Jvm.Cond.code ({ cls := "com/example/mill_river/millriver/index/Postings", name := "frequency", desc := "(I)I" } : Jvm.MethodName) prog_51_method_5_code (2 : Nat) (Option.some Jvm.ClassFile.FieldType.int)).before args0 about1 = true := code_word (m := ⟨2, 1⟩) (meth := k2m1) (c := k2c1) (by decide +kernel) rfl rfl rfl (by decide +kernel)
def codes1 : List Jvm.Cond := [Jvm.Cond.code x code maxLocals ret, Jvm.Cond.code ({ cls := "com/example/mill_river/millriver/index/Postings", name := "<init>", desc := "([I[I[I)V" } : Jvm.MethodName) prog_51_method_1_code (4 : Nat) (Option.none : Option Jvm.ClassFile.FieldType), Jvm.Cond.code ({ cls := "java/lang/Object", name := "<init>", desc := "()V" } : Jvm.MethodName) object_method_1_code (1 : Nat) (Option.none : Option Jvm.ClassFile.FieldType), Jvm.Cond.code ({ cls := "com/example/mill_river/millriver/index/Postings", name := "frequency", desc := "(I)I" } : Jvm.MethodName) prog_51_method_5_code (2 : Nat) (Option.some Jvm.ClassFile.FieldType.int)]
set_option maxRecDepth 65536 in
theorem codes_eq : words1.filter isCode = codes1 := rfl
theorem w_codes : ∀ c ∈ words1.filter isCode, c.before args0 about1 = true := by
  rw [codes_eq]
  intro c hc
  simp only [codes1, List.mem_cons, List.not_mem_nil, or_false] at hc
  rcases hc with rfl | rfl | rfl | rfl
  · exact w_c0
  · exact w_c1
  · exact w_c2
  · exact w_c3
set_option maxRecDepth 65536 in
theorem w_t1 : words1.all (fun c => isCode c || c.before args0 about1) = true := by decide +kernel
theorem w_tables : (allAtoms (Jvm.Cond.code x code maxLocals ret :: tables_1)).before args0 about1 = true := by
  rw [allAtoms_all]
  show words1.all (fun c => c.before args0 about1) = true
  refine all_split ?_ w_codes
  rw [w_t1]
set_option maxRecDepth 65536 in
theorem w_case : (Jvm.Cond.and given_1 narrow_1).before args0 about1 = true := by decide +kernel
theorem w_applies : (headSpec (Jvm.Cond.code x code maxLocals ret :: tables_1) room_1).applies x e0.platform about1 = true :=
  (Spec.applies_iff w_frames).mpr ⟨w_running, w_runnable, w_alone, w_named, w_hears, w_ripe, w_room, w_tables⟩
theorem atStart : AtStart classFile x code maxLocals ret World_1 tables_1 room_1 Calls_1 rest_1 Pre_1 launch0 p0 e0 about1 theMethod args0 below0 :=
  ⟨lists_1, trivial, launch0.admits_env _ _ _, launch0.least_env, fairChoices_fair.cas, fairChoices_fair.clock, w_frames, w_args, w_heap, w_applies, trivial, trivial, w_case⟩
end start1
theorem witness_1 : WitnessClaimed_1 := ⟨start1.p0, start1.e0, start1.about1, start1.theMethod, start1.args0, start1.below0, start1.atStart⟩
end Jvm.Pilot.@@N@@
