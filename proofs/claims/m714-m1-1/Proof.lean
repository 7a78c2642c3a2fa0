import JvmDerived
import JvmDerived.Pilot.@@N@@Statement
import JvmDerived.Pilot.@@N@@Code
set_option linter.unusedVariables false
set_option linter.unusedSimpArgs false
namespace Jvm.RoadKit
open Sem ClassFile Op Lib Jvm.Stand Jvm.Free Jvm.LawKit
section New
variable {p : Program} {l : Launch} {e : Env} {R : Room} {s : State} {m : MethodId} {args : Array Value} {below : List Frame} {meth : Method} {c : Code} {T : State} {locs : List Loc} {cells slots : Nat}
theorem retI (X : Stand p l e R s m args below meth c T locs cells slots) (hx : p.tables.exec = Jvm.exec) {pc : Nat} {Ls : Array Slot} {z : Int32} {rest : List Value} (hret : meth.sig.returnType = some .int) (hd : decode c.code pc = .ok (.ireturn, 1)) {fs : List Frame}
    (hl : ∀ (f : JFrame) (acts : List Action), f.method = m → f.locked = none → f.entered = [] → (doReturn e (T.setTop f) acts (some (.int z))).1 = T.setFrames fs) : Steps p.tables e below (T.setTop (mkF m pc Ls (.int z :: rest))) (T.setFrames fs) := by
  have hm' : T.vm.method? m = some meth := X.method'
  have hn : narrow .int (.int z) = .int z := rfl
  show Steps p.tables e below (T.setTop { method := m, pc := pc, locals := Ls, stack := _ :: rest, locked := none }) _
  jvm_step X.here [X.here.top, hx, hd, hm', hret, hn]
  first | (intro acts; rw [hl _ acts rfl rfl rfl]) | rw [hl _ _ rfl rfl rfl]
  exact Steps.refl _
end New
end Jvm.RoadKit
namespace Jvm.Pilot.@@N@@
open Jvm Jvm.ClassFile Sem Op Lib Jvm.Free Jvm.Stand Jvm.LawKit Jvm.RoadKit Bundle Jvm.Pilot.@@N@@.Jvm.D
def Wp (p : Program) (e : Env) (below : List Frame) (G : Outcome → State → Prop) (U : State) : Prop := ∃ s₂ o, Steps p.tables e below U s₂ ∧ s₂.status = .running ∧ Ended s₂ below o ∧ G o s₂
theorem Wp.back {p : Program} {e : Env} {below : List Frame} {G : Outcome → State → Prop} {U U' : State} (k : ∀ t, Steps p.tables e below U' t → Steps p.tables e below U t) (h : Wp p e below G U') : Wp p e below G U := by
  obtain ⟨s₂, o, h1, h2⟩ := h
  exact ⟨s₂, o, k _ h1, h2⟩
theorem Wp.done {p : Program} {e : Env} {below : List Frame} {G : Outcome → State → Prop} {U t : State} {o : Outcome} (h1 : Steps p.tables e below U t) (h2 : t.status = .running) (h3 : Ended t below o) (h4 : G o t) : Wp p e below G U := ⟨t, o, h1, h2, h3, h4⟩
/-- what a body leaves that writes nothing -/
def QL (n0 : Nat) (v : Option Value) (h : Heap) (L : List Loc) : Prop := v = some (.int 1) ∧ Fr n0 L
def QP (r : Option Value) (h0 : Heap) (n0 : Nat) (v : Option Value) (h : Heap) (L : List Loc) : Prop := v = r ∧ Fr n0 L ∧ h = h0
theorem own_irrefl (x : Int32) : ¬ x < x := by rw [Int32.lt_iff_toInt_lt]; omega
theorem Sta_keep0 {Z : State} {h h' : Heap} {C n d : String} {v : Value} (F : Sta Z h C n d v) (K : Keep h h' []) : Sta Z h' C n d v := by
  obtain ⟨cf, i, k, f, st, cell, h1, h2, h3, h4, h5, r⟩ := F
  exact ⟨cf, i, k, f, st, cell, h1, h2, h3, h4, K.2.1 _ _ h5 nin0, r⟩
def Q_pk0 (Z : State)  (wo : Addr) (h0 : Heap) (n0 : Nat) (v : Option Value) (h : Heap) (L : List Loc) : Prop := v = some (.ref wo) ∧ Fr n0 L ∧ Keep h0 h []
theorem i0d1_0 : decode method_2_code 0 = .ok (.iload_n 0, 1) := by decide +kernel
theorem i0d1_1 : decode method_2_code 1 = .ok (.ifCond .ne 7, 3) := by decide +kernel
theorem i0d1_4 : decode method_2_code 4 = .ok (.getstatic 7, 3) := by decide +kernel
theorem i0d1_7 : decode method_2_code 7 = .ok (.areturn, 1) := by decide +kernel
theorem i0pn1 : plainName "com/example/query_to_table/querytotable/sql/ComparisonIsLowerBoundPinLaw" = true := by first | (simp [plainName, overriddenIn]; done) | decide +kernel
theorem i0ef1 (m : MethodId) (x0 : Int32) : entryFrame m #[(.int x0)] 1 = mkF m 0 #[.val (.int x0)] [] := by first | (simp [entryFrame, mkF, argsToLocals, Value.category]; done) | rfl
set_option maxRecDepth 65536 in
set_option maxHeartbeats 40000000 in
theorem rm_pk0 (l : Launch) (Z : State) (a0 : Array Value) (hw : ∀ d ∈ tables_1, d.before a0 Z = true) (ws : List Jvm.Cond)  (wo : Addr) (h0 : Heap) (n0 : Nat) (Z0 : n0 ≤ h0.size) (H0 : Sta Z h0 "com/example/query_to_table/querytotable/sql/Comparison" "EQUAL" "Lcom/example/query_to_table/querytotable/sql/Comparison;" (.ref wo)) :
    MetFree l (⟨"com/example/query_to_table/querytotable/sql/ComparisonIsLowerBoundPinLaw", "pick", "(I)Lcom/example/query_to_table/querytotable/sql/Comparison;"⟩ : MethodName) (head1 (Jvm.Cond.code (⟨"com/example/query_to_table/querytotable/sql/ComparisonIsLowerBoundPinLaw", "pick", "(I)Lcom/example/query_to_table/querytotable/sql/Comparison;"⟩ : MethodName) method_2_code 1 (some (.object "com/example/query_to_table/querytotable/sql/Comparison")) :: ws) ({ frames := 0, cells := 0, slots := 0, locals := 0 } : Room)) (fun a U => a = #[(.int (0 : Int32))] ∧ Z.Warmed39 U.vm ∧ U.heap = h0) (fun _ _ _ _ _ => True) (fun _ U o U' => ∃ v L, o = .returned v ∧ Q_pk0 Z wo h0 n0 v U'.heap L ∧ FrameEnd U o U' L ({ frames := 0, cells := 0, slots := 0, locals := 0 } : Room).cells ({ frames := 0, cells := 0, slots := 0, locals := 0 } : Room).slots) := by
  refine MetFree.of_bodySF (plainFor_of_name i0pn1) hisR ?_
  intro p e s m args below meth c s₁ Bd hml0 hP hK
  obtain ⟨rfl, hZ, hh⟩ := hP
  have hx := Bd.exec
  have hby := Bd.bytes
  have hret := Bd.returns
  have hlk := Bd.notSynchronized
  have hml : c.maxLocals = 1 := hml0
  have hown : s.vm.findClass "com/example/query_to_table/querytotable/sql/ComparisonIsLowerBoundPinLaw" = some m.cls := findClass_of_methodNamed Bd.named
  have hnm := (name_of_methodNamed Bd.named Bd.method).1
  have X0 : Stand p l e ({ frames := 0, cells := 0, slots := 0, locals := 0 } : Room) s m #[(.int (0 : Int32))] below meth c s₁ [] 0 0 := Stand.of_body Bd
  have e0 : s₁.heap = h0 := by rw [← hh, Bd.state]; rfl
  have N0 := Fr.nil n0
  show Wp p e below (fun o s₂ => ∃ v L, o = .returned v ∧ Q_pk0 Z wo h0 n0 v s₂.heap L ∧ FrameEnd s o s₂ L ({ frames := 0, cells := 0, slots := 0, locals := 0 } : Room).cells ({ frames := 0, cells := 0, slots := 0, locals := 0 } : Room).slots) _
  refine Wp.back (U' := (s₁.setTop (mkF m 0 #[.val (.int (0 : Int32))] []))) (fun t k => castTop (i0ef1 m (0 : Int32)) k) ?_
  refine Wp.back (U' := (s₁.setTop (mkF m 4 #[.val (.int (0 : Int32))] []))) (fun t k => XS.iloadN X0.here hx rfl (hb hby i0d1_0) rfl (XS.ifNo X0.here hx rfl (hb hby i0d1_1) rfl ((if0 _ _).trans (teq (by decide)).2) k)) ?_
  obtain ⟨T1, X1, e1, st1⟩ := getS2 X0 hx hZ hown (host := "") (Or.inl (hw _ (List.mem_of_getElem? (i := 5) rfl))) Via.refl e0 H0 (g := (mkF m 4 #[.val (.int (0 : Int32))] [])) rfl (hb hby i0d1_4)
  refine Wp.back (U' := (T1.setTop (mkF m 7 #[.val (.int (0 : Int32))] [(.ref wo)]))) st1 ?_
  obtain ⟨fs, hr, hrun, hended, hW, hsame⟩ := X1.leave (v := (some (.ref wo))) (fun h => by rw [hret] at h; cases h)
  refine Wp.done (retOut X1 hx hret rfl (Or.inr (Or.inr (Or.inr (Or.inr ⟨rfl, rfl, rfl⟩)))) (hb hby i0d1_7) hr) hrun hended ⟨_, _, rfl, ?_, ⟨_, rfl⟩, hW, hsame.mono (by decide) (by decide)⟩
  show Q_pk0 Z wo h0 n0 _ T1.heap _
  rw [e1]
  exact ⟨rfl, N0, (Keep.refl h0 [])⟩
def Q_pk1 (Z : State)  (wo : Addr) (h0 : Heap) (n0 : Nat) (v : Option Value) (h : Heap) (L : List Loc) : Prop := v = some (.ref wo) ∧ Fr n0 L ∧ Keep h0 h []
theorem i1d1_0 : decode method_2_code 0 = .ok (.iload_n 0, 1) := by decide +kernel
theorem i1d1_1 : decode method_2_code 1 = .ok (.ifCond .ne 7, 3) := by decide +kernel
theorem i1d1_8 : decode method_2_code 8 = .ok (.iload_n 0, 1) := by decide +kernel
theorem i1d1_9 : decode method_2_code 9 = .ok (.iconst 1, 1) := by decide +kernel
theorem i1d1_10 : decode method_2_code 10 = .ok (.if_icmp .ne 7, 3) := by decide +kernel
theorem i1d1_13 : decode method_2_code 13 = .ok (.getstatic 13, 3) := by decide +kernel
theorem i1d1_16 : decode method_2_code 16 = .ok (.areturn, 1) := by decide +kernel
theorem i1pn1 : plainName "com/example/query_to_table/querytotable/sql/ComparisonIsLowerBoundPinLaw" = true := by first | (simp [plainName, overriddenIn]; done) | decide +kernel
theorem i1ef1 (m : MethodId) (x0 : Int32) : entryFrame m #[(.int x0)] 1 = mkF m 0 #[.val (.int x0)] [] := by first | (simp [entryFrame, mkF, argsToLocals, Value.category]; done) | rfl
set_option maxRecDepth 65536 in
set_option maxHeartbeats 40000000 in
theorem rm_pk1 (l : Launch) (Z : State) (a0 : Array Value) (hw : ∀ d ∈ tables_1, d.before a0 Z = true) (ws : List Jvm.Cond)  (wo : Addr) (h0 : Heap) (n0 : Nat) (Z0 : n0 ≤ h0.size) (H0 : Sta Z h0 "com/example/query_to_table/querytotable/sql/Comparison" "LESS_THAN" "Lcom/example/query_to_table/querytotable/sql/Comparison;" (.ref wo)) :
    MetFree l (⟨"com/example/query_to_table/querytotable/sql/ComparisonIsLowerBoundPinLaw", "pick", "(I)Lcom/example/query_to_table/querytotable/sql/Comparison;"⟩ : MethodName) (head1 (Jvm.Cond.code (⟨"com/example/query_to_table/querytotable/sql/ComparisonIsLowerBoundPinLaw", "pick", "(I)Lcom/example/query_to_table/querytotable/sql/Comparison;"⟩ : MethodName) method_2_code 1 (some (.object "com/example/query_to_table/querytotable/sql/Comparison")) :: ws) ({ frames := 0, cells := 0, slots := 0, locals := 0 } : Room)) (fun a U => a = #[(.int (1 : Int32))] ∧ Z.Warmed39 U.vm ∧ U.heap = h0) (fun _ _ _ _ _ => True) (fun _ U o U' => ∃ v L, o = .returned v ∧ Q_pk1 Z wo h0 n0 v U'.heap L ∧ FrameEnd U o U' L ({ frames := 0, cells := 0, slots := 0, locals := 0 } : Room).cells ({ frames := 0, cells := 0, slots := 0, locals := 0 } : Room).slots) := by
  refine MetFree.of_bodySF (plainFor_of_name i1pn1) hisR ?_
  intro p e s m args below meth c s₁ Bd hml0 hP hK
  obtain ⟨rfl, hZ, hh⟩ := hP
  have hx := Bd.exec
  have hby := Bd.bytes
  have hret := Bd.returns
  have hlk := Bd.notSynchronized
  have hml : c.maxLocals = 1 := hml0
  have hown : s.vm.findClass "com/example/query_to_table/querytotable/sql/ComparisonIsLowerBoundPinLaw" = some m.cls := findClass_of_methodNamed Bd.named
  have hnm := (name_of_methodNamed Bd.named Bd.method).1
  have X0 : Stand p l e ({ frames := 0, cells := 0, slots := 0, locals := 0 } : Room) s m #[(.int (1 : Int32))] below meth c s₁ [] 0 0 := Stand.of_body Bd
  have e0 : s₁.heap = h0 := by rw [← hh, Bd.state]; rfl
  have N0 := Fr.nil n0
  show Wp p e below (fun o s₂ => ∃ v L, o = .returned v ∧ Q_pk1 Z wo h0 n0 v s₂.heap L ∧ FrameEnd s o s₂ L ({ frames := 0, cells := 0, slots := 0, locals := 0 } : Room).cells ({ frames := 0, cells := 0, slots := 0, locals := 0 } : Room).slots) _
  refine Wp.back (U' := (s₁.setTop (mkF m 0 #[.val (.int (1 : Int32))] []))) (fun t k => castTop (i1ef1 m (1 : Int32)) k) ?_
  refine Wp.back (U' := (s₁.setTop (mkF m 13 #[.val (.int (1 : Int32))] []))) (fun t k => XS.iloadN X0.here hx rfl (hb hby i1d1_0) rfl (XS.ifYes X0.here hx rfl (pc0 := 1) (pc' := 8) rfl (hb hby i1d1_1) rfl ((if0 _ _).trans (feq (by decide)).2) (by decide) (by decide) (XS.iloadN X0.here hx rfl (hb hby i1d1_8) rfl (XT.iconstV X0.here hx rfl (1 : Int32) (hb hby i1d1_9) (by decide) (XS.icmpNo X0.here hx rfl (hb hby i1d1_10) rfl (teq (by decide)).2 k))))) ?_
  obtain ⟨T1, X1, e1, st1⟩ := getS2 X0 hx hZ hown (host := "") (Or.inl (hw _ (List.mem_of_getElem? (i := 63) rfl))) Via.refl e0 H0 (g := (mkF m 13 #[.val (.int (1 : Int32))] [])) rfl (hb hby i1d1_13)
  refine Wp.back (U' := (T1.setTop (mkF m 16 #[.val (.int (1 : Int32))] [(.ref wo)]))) st1 ?_
  obtain ⟨fs, hr, hrun, hended, hW, hsame⟩ := X1.leave (v := (some (.ref wo))) (fun h => by rw [hret] at h; cases h)
  refine Wp.done (retOut X1 hx hret rfl (Or.inr (Or.inr (Or.inr (Or.inr ⟨rfl, rfl, rfl⟩)))) (hb hby i1d1_16) hr) hrun hended ⟨_, _, rfl, ?_, ⟨_, rfl⟩, hW, hsame.mono (by decide) (by decide)⟩
  show Q_pk1 Z wo h0 n0 _ T1.heap _
  rw [e1]
  exact ⟨rfl, N0, (Keep.refl h0 [])⟩
def Q_pk2 (Z : State)  (wo : Addr) (h0 : Heap) (n0 : Nat) (v : Option Value) (h : Heap) (L : List Loc) : Prop := v = some (.ref wo) ∧ Fr n0 L ∧ Keep h0 h []
theorem i2d1_0 : decode method_2_code 0 = .ok (.iload_n 0, 1) := by decide +kernel
theorem i2d1_1 : decode method_2_code 1 = .ok (.ifCond .ne 7, 3) := by decide +kernel
theorem i2d1_8 : decode method_2_code 8 = .ok (.iload_n 0, 1) := by decide +kernel
theorem i2d1_9 : decode method_2_code 9 = .ok (.iconst 1, 1) := by decide +kernel
theorem i2d1_10 : decode method_2_code 10 = .ok (.if_icmp .ne 7, 3) := by decide +kernel
theorem i2d1_17 : decode method_2_code 17 = .ok (.iload_n 0, 1) := by decide +kernel
theorem i2d1_18 : decode method_2_code 18 = .ok (.iconst 2, 1) := by decide +kernel
theorem i2d1_19 : decode method_2_code 19 = .ok (.if_icmp .ne 7, 3) := by decide +kernel
theorem i2d1_22 : decode method_2_code 22 = .ok (.getstatic 16, 3) := by decide +kernel
theorem i2d1_25 : decode method_2_code 25 = .ok (.areturn, 1) := by decide +kernel
theorem i2pn1 : plainName "com/example/query_to_table/querytotable/sql/ComparisonIsLowerBoundPinLaw" = true := by first | (simp [plainName, overriddenIn]; done) | decide +kernel
theorem i2ef1 (m : MethodId) (x0 : Int32) : entryFrame m #[(.int x0)] 1 = mkF m 0 #[.val (.int x0)] [] := by first | (simp [entryFrame, mkF, argsToLocals, Value.category]; done) | rfl
set_option maxRecDepth 65536 in
set_option maxHeartbeats 40000000 in
theorem rm_pk2 (l : Launch) (Z : State) (a0 : Array Value) (hw : ∀ d ∈ tables_1, d.before a0 Z = true) (ws : List Jvm.Cond)  (wo : Addr) (h0 : Heap) (n0 : Nat) (Z0 : n0 ≤ h0.size) (H0 : Sta Z h0 "com/example/query_to_table/querytotable/sql/Comparison" "LESS_THAN_OR_EQUAL" "Lcom/example/query_to_table/querytotable/sql/Comparison;" (.ref wo)) :
    MetFree l (⟨"com/example/query_to_table/querytotable/sql/ComparisonIsLowerBoundPinLaw", "pick", "(I)Lcom/example/query_to_table/querytotable/sql/Comparison;"⟩ : MethodName) (head1 (Jvm.Cond.code (⟨"com/example/query_to_table/querytotable/sql/ComparisonIsLowerBoundPinLaw", "pick", "(I)Lcom/example/query_to_table/querytotable/sql/Comparison;"⟩ : MethodName) method_2_code 1 (some (.object "com/example/query_to_table/querytotable/sql/Comparison")) :: ws) ({ frames := 0, cells := 0, slots := 0, locals := 0 } : Room)) (fun a U => a = #[(.int (2 : Int32))] ∧ Z.Warmed39 U.vm ∧ U.heap = h0) (fun _ _ _ _ _ => True) (fun _ U o U' => ∃ v L, o = .returned v ∧ Q_pk2 Z wo h0 n0 v U'.heap L ∧ FrameEnd U o U' L ({ frames := 0, cells := 0, slots := 0, locals := 0 } : Room).cells ({ frames := 0, cells := 0, slots := 0, locals := 0 } : Room).slots) := by
  refine MetFree.of_bodySF (plainFor_of_name i2pn1) hisR ?_
  intro p e s m args below meth c s₁ Bd hml0 hP hK
  obtain ⟨rfl, hZ, hh⟩ := hP
  have hx := Bd.exec
  have hby := Bd.bytes
  have hret := Bd.returns
  have hlk := Bd.notSynchronized
  have hml : c.maxLocals = 1 := hml0
  have hown : s.vm.findClass "com/example/query_to_table/querytotable/sql/ComparisonIsLowerBoundPinLaw" = some m.cls := findClass_of_methodNamed Bd.named
  have hnm := (name_of_methodNamed Bd.named Bd.method).1
  have X0 : Stand p l e ({ frames := 0, cells := 0, slots := 0, locals := 0 } : Room) s m #[(.int (2 : Int32))] below meth c s₁ [] 0 0 := Stand.of_body Bd
  have e0 : s₁.heap = h0 := by rw [← hh, Bd.state]; rfl
  have N0 := Fr.nil n0
  show Wp p e below (fun o s₂ => ∃ v L, o = .returned v ∧ Q_pk2 Z wo h0 n0 v s₂.heap L ∧ FrameEnd s o s₂ L ({ frames := 0, cells := 0, slots := 0, locals := 0 } : Room).cells ({ frames := 0, cells := 0, slots := 0, locals := 0 } : Room).slots) _
  refine Wp.back (U' := (s₁.setTop (mkF m 0 #[.val (.int (2 : Int32))] []))) (fun t k => castTop (i2ef1 m (2 : Int32)) k) ?_
  refine Wp.back (U' := (s₁.setTop (mkF m 22 #[.val (.int (2 : Int32))] []))) (fun t k => XS.iloadN X0.here hx rfl (hb hby i2d1_0) rfl (XS.ifYes X0.here hx rfl (pc0 := 1) (pc' := 8) rfl (hb hby i2d1_1) rfl ((if0 _ _).trans (feq (by decide)).2) (by decide) (by decide) (XS.iloadN X0.here hx rfl (hb hby i2d1_8) rfl (XT.iconstV X0.here hx rfl (1 : Int32) (hb hby i2d1_9) (by decide) (XS.icmpYes X0.here hx rfl (pc0 := 10) (pc' := 17) rfl (hb hby i2d1_10) rfl (feq (by decide)).2 (by decide) (by decide) (XS.iloadN X0.here hx rfl (hb hby i2d1_17) rfl (XT.iconstV X0.here hx rfl (2 : Int32) (hb hby i2d1_18) (by decide) (XS.icmpNo X0.here hx rfl (hb hby i2d1_19) rfl (teq (by decide)).2 k)))))))) ?_
  obtain ⟨T1, X1, e1, st1⟩ := getS2 X0 hx hZ hown (host := "") (Or.inl (hw _ (List.mem_of_getElem? (i := 66) rfl))) Via.refl e0 H0 (g := (mkF m 22 #[.val (.int (2 : Int32))] [])) rfl (hb hby i2d1_22)
  refine Wp.back (U' := (T1.setTop (mkF m 25 #[.val (.int (2 : Int32))] [(.ref wo)]))) st1 ?_
  obtain ⟨fs, hr, hrun, hended, hW, hsame⟩ := X1.leave (v := (some (.ref wo))) (fun h => by rw [hret] at h; cases h)
  refine Wp.done (retOut X1 hx hret rfl (Or.inr (Or.inr (Or.inr (Or.inr ⟨rfl, rfl, rfl⟩)))) (hb hby i2d1_25) hr) hrun hended ⟨_, _, rfl, ?_, ⟨_, rfl⟩, hW, hsame.mono (by decide) (by decide)⟩
  show Q_pk2 Z wo h0 n0 _ T1.heap _
  rw [e1]
  exact ⟨rfl, N0, (Keep.refl h0 [])⟩
def Q_pk3 (Z : State)  (wo : Addr) (h0 : Heap) (n0 : Nat) (v : Option Value) (h : Heap) (L : List Loc) : Prop := v = some (.ref wo) ∧ Fr n0 L ∧ Keep h0 h []
theorem i3d1_0 : decode method_2_code 0 = .ok (.iload_n 0, 1) := by decide +kernel
theorem i3d1_1 : decode method_2_code 1 = .ok (.ifCond .ne 7, 3) := by decide +kernel
theorem i3d1_8 : decode method_2_code 8 = .ok (.iload_n 0, 1) := by decide +kernel
theorem i3d1_9 : decode method_2_code 9 = .ok (.iconst 1, 1) := by decide +kernel
theorem i3d1_10 : decode method_2_code 10 = .ok (.if_icmp .ne 7, 3) := by decide +kernel
theorem i3d1_17 : decode method_2_code 17 = .ok (.iload_n 0, 1) := by decide +kernel
theorem i3d1_18 : decode method_2_code 18 = .ok (.iconst 2, 1) := by decide +kernel
theorem i3d1_19 : decode method_2_code 19 = .ok (.if_icmp .ne 7, 3) := by decide +kernel
theorem i3d1_26 : decode method_2_code 26 = .ok (.iload_n 0, 1) := by decide +kernel
theorem i3d1_27 : decode method_2_code 27 = .ok (.iconst 3, 1) := by decide +kernel
theorem i3d1_28 : decode method_2_code 28 = .ok (.if_icmp .ne 7, 3) := by decide +kernel
theorem i3d1_31 : decode method_2_code 31 = .ok (.getstatic 19, 3) := by decide +kernel
theorem i3d1_34 : decode method_2_code 34 = .ok (.areturn, 1) := by decide +kernel
theorem i3pn1 : plainName "com/example/query_to_table/querytotable/sql/ComparisonIsLowerBoundPinLaw" = true := by first | (simp [plainName, overriddenIn]; done) | decide +kernel
theorem i3ef1 (m : MethodId) (x0 : Int32) : entryFrame m #[(.int x0)] 1 = mkF m 0 #[.val (.int x0)] [] := by first | (simp [entryFrame, mkF, argsToLocals, Value.category]; done) | rfl
set_option maxRecDepth 65536 in
set_option maxHeartbeats 40000000 in
theorem rm_pk3 (l : Launch) (Z : State) (a0 : Array Value) (hw : ∀ d ∈ tables_1, d.before a0 Z = true) (ws : List Jvm.Cond)  (wo : Addr) (h0 : Heap) (n0 : Nat) (Z0 : n0 ≤ h0.size) (H0 : Sta Z h0 "com/example/query_to_table/querytotable/sql/Comparison" "GREATER_THAN" "Lcom/example/query_to_table/querytotable/sql/Comparison;" (.ref wo)) :
    MetFree l (⟨"com/example/query_to_table/querytotable/sql/ComparisonIsLowerBoundPinLaw", "pick", "(I)Lcom/example/query_to_table/querytotable/sql/Comparison;"⟩ : MethodName) (head1 (Jvm.Cond.code (⟨"com/example/query_to_table/querytotable/sql/ComparisonIsLowerBoundPinLaw", "pick", "(I)Lcom/example/query_to_table/querytotable/sql/Comparison;"⟩ : MethodName) method_2_code 1 (some (.object "com/example/query_to_table/querytotable/sql/Comparison")) :: ws) ({ frames := 0, cells := 0, slots := 0, locals := 0 } : Room)) (fun a U => a = #[(.int (3 : Int32))] ∧ Z.Warmed39 U.vm ∧ U.heap = h0) (fun _ _ _ _ _ => True) (fun _ U o U' => ∃ v L, o = .returned v ∧ Q_pk3 Z wo h0 n0 v U'.heap L ∧ FrameEnd U o U' L ({ frames := 0, cells := 0, slots := 0, locals := 0 } : Room).cells ({ frames := 0, cells := 0, slots := 0, locals := 0 } : Room).slots) := by
  refine MetFree.of_bodySF (plainFor_of_name i3pn1) hisR ?_
  intro p e s m args below meth c s₁ Bd hml0 hP hK
  obtain ⟨rfl, hZ, hh⟩ := hP
  have hx := Bd.exec
  have hby := Bd.bytes
  have hret := Bd.returns
  have hlk := Bd.notSynchronized
  have hml : c.maxLocals = 1 := hml0
  have hown : s.vm.findClass "com/example/query_to_table/querytotable/sql/ComparisonIsLowerBoundPinLaw" = some m.cls := findClass_of_methodNamed Bd.named
  have hnm := (name_of_methodNamed Bd.named Bd.method).1
  have X0 : Stand p l e ({ frames := 0, cells := 0, slots := 0, locals := 0 } : Room) s m #[(.int (3 : Int32))] below meth c s₁ [] 0 0 := Stand.of_body Bd
  have e0 : s₁.heap = h0 := by rw [← hh, Bd.state]; rfl
  have N0 := Fr.nil n0
  show Wp p e below (fun o s₂ => ∃ v L, o = .returned v ∧ Q_pk3 Z wo h0 n0 v s₂.heap L ∧ FrameEnd s o s₂ L ({ frames := 0, cells := 0, slots := 0, locals := 0 } : Room).cells ({ frames := 0, cells := 0, slots := 0, locals := 0 } : Room).slots) _
  refine Wp.back (U' := (s₁.setTop (mkF m 0 #[.val (.int (3 : Int32))] []))) (fun t k => castTop (i3ef1 m (3 : Int32)) k) ?_
  refine Wp.back (U' := (s₁.setTop (mkF m 31 #[.val (.int (3 : Int32))] []))) (fun t k => XS.iloadN X0.here hx rfl (hb hby i3d1_0) rfl (XS.ifYes X0.here hx rfl (pc0 := 1) (pc' := 8) rfl (hb hby i3d1_1) rfl ((if0 _ _).trans (feq (by decide)).2) (by decide) (by decide) (XS.iloadN X0.here hx rfl (hb hby i3d1_8) rfl (XT.iconstV X0.here hx rfl (1 : Int32) (hb hby i3d1_9) (by decide) (XS.icmpYes X0.here hx rfl (pc0 := 10) (pc' := 17) rfl (hb hby i3d1_10) rfl (feq (by decide)).2 (by decide) (by decide) (XS.iloadN X0.here hx rfl (hb hby i3d1_17) rfl (XT.iconstV X0.here hx rfl (2 : Int32) (hb hby i3d1_18) (by decide) (XS.icmpYes X0.here hx rfl (pc0 := 19) (pc' := 26) rfl (hb hby i3d1_19) rfl (feq (by decide)).2 (by decide) (by decide) (XS.iloadN X0.here hx rfl (hb hby i3d1_26) rfl (XT.iconstV X0.here hx rfl (3 : Int32) (hb hby i3d1_27) (by decide) (XS.icmpNo X0.here hx rfl (hb hby i3d1_28) rfl (teq (by decide)).2 k))))))))))) ?_
  obtain ⟨T1, X1, e1, st1⟩ := getS2 X0 hx hZ hown (host := "") (Or.inl (hw _ (List.mem_of_getElem? (i := 62) rfl))) Via.refl e0 H0 (g := (mkF m 31 #[.val (.int (3 : Int32))] [])) rfl (hb hby i3d1_31)
  refine Wp.back (U' := (T1.setTop (mkF m 34 #[.val (.int (3 : Int32))] [(.ref wo)]))) st1 ?_
  obtain ⟨fs, hr, hrun, hended, hW, hsame⟩ := X1.leave (v := (some (.ref wo))) (fun h => by rw [hret] at h; cases h)
  refine Wp.done (retOut X1 hx hret rfl (Or.inr (Or.inr (Or.inr (Or.inr ⟨rfl, rfl, rfl⟩)))) (hb hby i3d1_34) hr) hrun hended ⟨_, _, rfl, ?_, ⟨_, rfl⟩, hW, hsame.mono (by decide) (by decide)⟩
  show Q_pk3 Z wo h0 n0 _ T1.heap _
  rw [e1]
  exact ⟨rfl, N0, (Keep.refl h0 [])⟩
def Q_pk4 (Z : State)  (wo : Addr) (h0 : Heap) (n0 : Nat) (v : Option Value) (h : Heap) (L : List Loc) : Prop := v = some (.ref wo) ∧ Fr n0 L ∧ Keep h0 h []
theorem i4d1_0 : decode method_2_code 0 = .ok (.iload_n 0, 1) := by decide +kernel
theorem i4d1_1 : decode method_2_code 1 = .ok (.ifCond .ne 7, 3) := by decide +kernel
theorem i4d1_8 : decode method_2_code 8 = .ok (.iload_n 0, 1) := by decide +kernel
theorem i4d1_9 : decode method_2_code 9 = .ok (.iconst 1, 1) := by decide +kernel
theorem i4d1_10 : decode method_2_code 10 = .ok (.if_icmp .ne 7, 3) := by decide +kernel
theorem i4d1_17 : decode method_2_code 17 = .ok (.iload_n 0, 1) := by decide +kernel
theorem i4d1_18 : decode method_2_code 18 = .ok (.iconst 2, 1) := by decide +kernel
theorem i4d1_19 : decode method_2_code 19 = .ok (.if_icmp .ne 7, 3) := by decide +kernel
theorem i4d1_26 : decode method_2_code 26 = .ok (.iload_n 0, 1) := by decide +kernel
theorem i4d1_27 : decode method_2_code 27 = .ok (.iconst 3, 1) := by decide +kernel
theorem i4d1_28 : decode method_2_code 28 = .ok (.if_icmp .ne 7, 3) := by decide +kernel
theorem i4d1_35 : decode method_2_code 35 = .ok (.getstatic 22, 3) := by decide +kernel
theorem i4d1_38 : decode method_2_code 38 = .ok (.areturn, 1) := by decide +kernel
theorem i4pn1 : plainName "com/example/query_to_table/querytotable/sql/ComparisonIsLowerBoundPinLaw" = true := by first | (simp [plainName, overriddenIn]; done) | decide +kernel
theorem i4ef1 (m : MethodId) (x0 : Int32) : entryFrame m #[(.int x0)] 1 = mkF m 0 #[.val (.int x0)] [] := by first | (simp [entryFrame, mkF, argsToLocals, Value.category]; done) | rfl
set_option maxRecDepth 65536 in
set_option maxHeartbeats 40000000 in
theorem rm_pk4 (l : Launch) (Z : State) (a0 : Array Value) (hw : ∀ d ∈ tables_1, d.before a0 Z = true) (ws : List Jvm.Cond)  (wo : Addr) (h0 : Heap) (n0 : Nat) (Z0 : n0 ≤ h0.size) (H0 : Sta Z h0 "com/example/query_to_table/querytotable/sql/Comparison" "GREATER_THAN_OR_EQUAL" "Lcom/example/query_to_table/querytotable/sql/Comparison;" (.ref wo)) :
    MetFree l (⟨"com/example/query_to_table/querytotable/sql/ComparisonIsLowerBoundPinLaw", "pick", "(I)Lcom/example/query_to_table/querytotable/sql/Comparison;"⟩ : MethodName) (head1 (Jvm.Cond.code (⟨"com/example/query_to_table/querytotable/sql/ComparisonIsLowerBoundPinLaw", "pick", "(I)Lcom/example/query_to_table/querytotable/sql/Comparison;"⟩ : MethodName) method_2_code 1 (some (.object "com/example/query_to_table/querytotable/sql/Comparison")) :: ws) ({ frames := 0, cells := 0, slots := 0, locals := 0 } : Room)) (fun a U => a = #[(.int (4 : Int32))] ∧ Z.Warmed39 U.vm ∧ U.heap = h0) (fun _ _ _ _ _ => True) (fun _ U o U' => ∃ v L, o = .returned v ∧ Q_pk4 Z wo h0 n0 v U'.heap L ∧ FrameEnd U o U' L ({ frames := 0, cells := 0, slots := 0, locals := 0 } : Room).cells ({ frames := 0, cells := 0, slots := 0, locals := 0 } : Room).slots) := by
  refine MetFree.of_bodySF (plainFor_of_name i4pn1) hisR ?_
  intro p e s m args below meth c s₁ Bd hml0 hP hK
  obtain ⟨rfl, hZ, hh⟩ := hP
  have hx := Bd.exec
  have hby := Bd.bytes
  have hret := Bd.returns
  have hlk := Bd.notSynchronized
  have hml : c.maxLocals = 1 := hml0
  have hown : s.vm.findClass "com/example/query_to_table/querytotable/sql/ComparisonIsLowerBoundPinLaw" = some m.cls := findClass_of_methodNamed Bd.named
  have hnm := (name_of_methodNamed Bd.named Bd.method).1
  have X0 : Stand p l e ({ frames := 0, cells := 0, slots := 0, locals := 0 } : Room) s m #[(.int (4 : Int32))] below meth c s₁ [] 0 0 := Stand.of_body Bd
  have e0 : s₁.heap = h0 := by rw [← hh, Bd.state]; rfl
  have N0 := Fr.nil n0
  show Wp p e below (fun o s₂ => ∃ v L, o = .returned v ∧ Q_pk4 Z wo h0 n0 v s₂.heap L ∧ FrameEnd s o s₂ L ({ frames := 0, cells := 0, slots := 0, locals := 0 } : Room).cells ({ frames := 0, cells := 0, slots := 0, locals := 0 } : Room).slots) _
  refine Wp.back (U' := (s₁.setTop (mkF m 0 #[.val (.int (4 : Int32))] []))) (fun t k => castTop (i4ef1 m (4 : Int32)) k) ?_
  refine Wp.back (U' := (s₁.setTop (mkF m 35 #[.val (.int (4 : Int32))] []))) (fun t k => XS.iloadN X0.here hx rfl (hb hby i4d1_0) rfl (XS.ifYes X0.here hx rfl (pc0 := 1) (pc' := 8) rfl (hb hby i4d1_1) rfl ((if0 _ _).trans (feq (by decide)).2) (by decide) (by decide) (XS.iloadN X0.here hx rfl (hb hby i4d1_8) rfl (XT.iconstV X0.here hx rfl (1 : Int32) (hb hby i4d1_9) (by decide) (XS.icmpYes X0.here hx rfl (pc0 := 10) (pc' := 17) rfl (hb hby i4d1_10) rfl (feq (by decide)).2 (by decide) (by decide) (XS.iloadN X0.here hx rfl (hb hby i4d1_17) rfl (XT.iconstV X0.here hx rfl (2 : Int32) (hb hby i4d1_18) (by decide) (XS.icmpYes X0.here hx rfl (pc0 := 19) (pc' := 26) rfl (hb hby i4d1_19) rfl (feq (by decide)).2 (by decide) (by decide) (XS.iloadN X0.here hx rfl (hb hby i4d1_26) rfl (XT.iconstV X0.here hx rfl (3 : Int32) (hb hby i4d1_27) (by decide) (XS.icmpYes X0.here hx rfl (pc0 := 28) (pc' := 35) rfl (hb hby i4d1_28) rfl (feq (by decide)).2 (by decide) (by decide) k))))))))))) ?_
  obtain ⟨T1, X1, e1, st1⟩ := getS2 X0 hx hZ hown (host := "") (Or.inl (hw _ (List.mem_of_getElem? (i := 65) rfl))) Via.refl e0 H0 (g := (mkF m 35 #[.val (.int (4 : Int32))] [])) rfl (hb hby i4d1_35)
  refine Wp.back (U' := (T1.setTop (mkF m 38 #[.val (.int (4 : Int32))] [(.ref wo)]))) st1 ?_
  obtain ⟨fs, hr, hrun, hended, hW, hsame⟩ := X1.leave (v := (some (.ref wo))) (fun h => by rw [hret] at h; cases h)
  refine Wp.done (retOut X1 hx hret rfl (Or.inr (Or.inr (Or.inr (Or.inr ⟨rfl, rfl, rfl⟩)))) (hb hby i4d1_38) hr) hrun hended ⟨_, _, rfl, ?_, ⟨_, rfl⟩, hW, hsame.mono (by decide) (by decide)⟩
  show Q_pk4 Z wo h0 n0 _ T1.heap _
  rw [e1]
  exact ⟨rfl, N0, (Keep.refl h0 [])⟩
def Q_ub0 (Z : State) (ar : Addr) (w1 : Addr) (w2 : Addr) (h0 : Heap) (n0 : Nat) (v : Option Value) (h : Heap) (L : List Loc) : Prop := v = some (.int (0 : Int32)) ∧ Fr n0 L ∧ Keep h0 h []
theorem k0d2_0 : decode prog_10_method_5_code 0 = .ok (.aload_n 0, 1) := by decide +kernel
theorem k0d2_1 : decode prog_10_method_5_code 1 = .ok (.getstatic 13, 3) := by decide +kernel
theorem k0d2_4 : decode prog_10_method_5_code 4 = .ok (.if_acmp .eq 10, 3) := by decide +kernel
theorem k0d2_7 : decode prog_10_method_5_code 7 = .ok (.aload_n 0, 1) := by decide +kernel
theorem k0d2_8 : decode prog_10_method_5_code 8 = .ok (.getstatic 16, 3) := by decide +kernel
theorem k0d2_11 : decode prog_10_method_5_code 11 = .ok (.if_acmp .ne 7, 3) := by decide +kernel
theorem k0d2_18 : decode prog_10_method_5_code 18 = .ok (.iconst 0, 1) := by decide +kernel
theorem k0d2_19 : decode prog_10_method_5_code 19 = .ok (.ireturn, 1) := by decide +kernel
theorem k0pn2 : plainName "com/example/query_to_table/querytotable/sql/Comparison" = true := by first | (simp [plainName, overriddenIn]; done) | decide +kernel
theorem k0ef2 (m : MethodId) (x0 : Addr) : entryFrame m #[(.ref x0)] 1 = mkF m 0 #[.val (.ref x0)] [] := by first | (simp [entryFrame, mkF, argsToLocals, Value.category]; done) | rfl
set_option maxRecDepth 65536 in
set_option maxHeartbeats 40000000 in
theorem rm_ub0 (l : Launch) (Z : State) (a0 : Array Value) (hw : ∀ d ∈ tables_1, d.before a0 Z = true) (ws : List Jvm.Cond) (ar : Addr) (w1 : Addr) (w2 : Addr) (h0 : Heap) (n0 : Nat) (Z0 : n0 ≤ h0.size) (H0 : Sta Z h0 "com/example/query_to_table/querytotable/sql/Comparison" "GREATER_THAN" "Lcom/example/query_to_table/querytotable/sql/Comparison;" (.ref w1)) (H1 : Sta Z h0 "com/example/query_to_table/querytotable/sql/Comparison" "GREATER_THAN_OR_EQUAL" "Lcom/example/query_to_table/querytotable/sql/Comparison;" (.ref w2)) (ne_ar_w1 : ar ≠ w1) (ne_ar_w2 : ar ≠ w2) :
    MetFree l (⟨"com/example/query_to_table/querytotable/sql/Comparison", "isLowerBound", "()Z"⟩ : MethodName) (head1 (Jvm.Cond.code (⟨"com/example/query_to_table/querytotable/sql/Comparison", "isLowerBound", "()Z"⟩ : MethodName) prog_10_method_5_code 1 (some .boolean) :: ws) ({ frames := 0, cells := 0, slots := 0, locals := 0 } : Room)) (fun a U => a = #[(.ref ar)] ∧ Z.Warmed39 U.vm ∧ U.heap = h0) (fun _ _ _ _ _ => True) (fun _ U o U' => ∃ v L, o = .returned v ∧ Q_ub0 Z ar w1 w2 h0 n0 v U'.heap L ∧ FrameEnd U o U' L ({ frames := 0, cells := 0, slots := 0, locals := 0 } : Room).cells ({ frames := 0, cells := 0, slots := 0, locals := 0 } : Room).slots) := by
  refine MetFree.of_bodySF (plainFor_of_name k0pn2) hisR ?_
  intro p e s m args below meth c s₁ Bd hml0 hP hK
  obtain ⟨rfl, hZ, hh⟩ := hP
  have hx := Bd.exec
  have hby := Bd.bytes
  have hret := Bd.returns
  have hlk := Bd.notSynchronized
  have hml : c.maxLocals = 1 := hml0
  have hown : s.vm.findClass "com/example/query_to_table/querytotable/sql/Comparison" = some m.cls := findClass_of_methodNamed Bd.named
  have hnm := (name_of_methodNamed Bd.named Bd.method).1
  have X0 : Stand p l e ({ frames := 0, cells := 0, slots := 0, locals := 0 } : Room) s m #[(.ref ar)] below meth c s₁ [] 0 0 := Stand.of_body Bd
  have e0 : s₁.heap = h0 := by rw [← hh, Bd.state]; rfl
  have N0 := Fr.nil n0
  show Wp p e below (fun o s₂ => ∃ v L, o = .returned v ∧ Q_ub0 Z ar w1 w2 h0 n0 v s₂.heap L ∧ FrameEnd s o s₂ L ({ frames := 0, cells := 0, slots := 0, locals := 0 } : Room).cells ({ frames := 0, cells := 0, slots := 0, locals := 0 } : Room).slots) _
  refine Wp.back (U' := (s₁.setTop (mkF m 0 #[.val (.ref ar)] []))) (fun t k => castTop (k0ef2 m ar) k) ?_
  refine Wp.back (U' := (s₁.setTop (mkF m 1 #[.val (.ref ar)] [(.ref ar)]))) (fun t k => XS.aloadN X0.here hx rfl (hb hby k0d2_0) rfl rfl k) ?_
  obtain ⟨T1, X1, e1, st1⟩ := getS2 X0 hx hZ hown (host := "") (Or.inl (hw _ (List.mem_of_getElem? (i := 13) rfl))) Via.refl e0 H0 (g := (mkF m 1 #[.val (.ref ar)] [(.ref ar)])) rfl (hb hby k0d2_1)
  refine Wp.back (U' := (T1.setTop (mkF m 4 #[.val (.ref ar)] [(.ref w1), (.ref ar)]))) st1 ?_
  refine Wp.back (U' := (T1.setTop (mkF m 7 #[.val (.ref ar)] []))) (fun t k => Jvm.RoadKit.acmp (g := (mkF m 4 #[.val (.ref ar)] [(.ref w1), (.ref ar)])) X1 hx rfl rfl rfl (pc0 := 4) (pc' := 7) (same := false) rfl (hb hby k0d2_4) rfl (decide_eq_false fun q => ne_ar_w1 (Value.ref.inj q)) (by decide) (by decide) k) ?_
  refine Wp.back (U' := (T1.setTop (mkF m 8 #[.val (.ref ar)] [(.ref ar)]))) (fun t k => XS.aloadN X1.here hx rfl (hb hby k0d2_7) rfl rfl k) ?_
  obtain ⟨T2, X2, e2, st2⟩ := getS2 X1 hx hZ hown (host := "") (Or.inl (hw _ (List.mem_of_getElem? (i := 15) rfl))) Via.refl e1 H1 (g := (mkF m 8 #[.val (.ref ar)] [(.ref ar)])) rfl (hb hby k0d2_8)
  refine Wp.back (U' := (T2.setTop (mkF m 11 #[.val (.ref ar)] [(.ref w2), (.ref ar)]))) st2 ?_
  refine Wp.back (U' := (T2.setTop (mkF m 18 #[.val (.ref ar)] []))) (fun t k => Jvm.RoadKit.acmp (g := (mkF m 11 #[.val (.ref ar)] [(.ref w2), (.ref ar)])) X2 hx rfl rfl rfl (pc0 := 11) (pc' := 18) (same := false) rfl (hb hby k0d2_11) rfl (decide_eq_false fun q => ne_ar_w2 (Value.ref.inj q)) (by decide) (by decide) k) ?_
  refine Wp.back (U' := (T2.setTop (mkF m 19 #[.val (.ref ar)] [(.int (0 : Int32))]))) (fun t k => XT.iconstV X2.here hx rfl (0 : Int32) (hb hby k0d2_18) (by decide) k) ?_
  obtain ⟨fs, hr, hrun, hended, hW, hsame⟩ := X2.leave (v := (some (.int (0 : Int32)))) (fun h => by rw [hret] at h; cases h)
  refine Wp.done (retN X2 hx (t := .boolean) hret (by simp) (hb hby k0d2_19) hr) hrun hended ⟨_, _, rfl, ?_, ⟨_, rfl⟩, hW, hsame.mono (by decide) (by decide)⟩
  show Q_ub0 Z ar w1 w2 h0 n0 _ T2.heap _
  rw [e2]
  exact ⟨rfl, N0, (Keep.refl h0 [])⟩
def Q_ub1 (Z : State) (ar : Addr)  (h0 : Heap) (n0 : Nat) (v : Option Value) (h : Heap) (L : List Loc) : Prop := v = some (.int (1 : Int32)) ∧ Fr n0 L ∧ Keep h0 h []
theorem k1d2_0 : decode prog_10_method_5_code 0 = .ok (.aload_n 0, 1) := by decide +kernel
theorem k1d2_1 : decode prog_10_method_5_code 1 = .ok (.getstatic 13, 3) := by decide +kernel
theorem k1d2_4 : decode prog_10_method_5_code 4 = .ok (.if_acmp .eq 10, 3) := by decide +kernel
theorem k1d2_14 : decode prog_10_method_5_code 14 = .ok (.iconst 1, 1) := by decide +kernel
theorem k1d2_15 : decode prog_10_method_5_code 15 = .ok (.goto 4, 3) := by decide +kernel
theorem k1d2_19 : decode prog_10_method_5_code 19 = .ok (.ireturn, 1) := by decide +kernel
theorem k1pn2 : plainName "com/example/query_to_table/querytotable/sql/Comparison" = true := by first | (simp [plainName, overriddenIn]; done) | decide +kernel
theorem k1ef2 (m : MethodId) (x0 : Addr) : entryFrame m #[(.ref x0)] 1 = mkF m 0 #[.val (.ref x0)] [] := by first | (simp [entryFrame, mkF, argsToLocals, Value.category]; done) | rfl
set_option maxRecDepth 65536 in
set_option maxHeartbeats 40000000 in
theorem rm_ub1 (l : Launch) (Z : State) (a0 : Array Value) (hw : ∀ d ∈ tables_1, d.before a0 Z = true) (ws : List Jvm.Cond) (ar : Addr)  (h0 : Heap) (n0 : Nat) (Z0 : n0 ≤ h0.size) (H0 : Sta Z h0 "com/example/query_to_table/querytotable/sql/Comparison" "GREATER_THAN" "Lcom/example/query_to_table/querytotable/sql/Comparison;" (.ref ar)) :
    MetFree l (⟨"com/example/query_to_table/querytotable/sql/Comparison", "isLowerBound", "()Z"⟩ : MethodName) (head1 (Jvm.Cond.code (⟨"com/example/query_to_table/querytotable/sql/Comparison", "isLowerBound", "()Z"⟩ : MethodName) prog_10_method_5_code 1 (some .boolean) :: ws) ({ frames := 0, cells := 0, slots := 0, locals := 0 } : Room)) (fun a U => a = #[(.ref ar)] ∧ Z.Warmed39 U.vm ∧ U.heap = h0) (fun _ _ _ _ _ => True) (fun _ U o U' => ∃ v L, o = .returned v ∧ Q_ub1 Z ar h0 n0 v U'.heap L ∧ FrameEnd U o U' L ({ frames := 0, cells := 0, slots := 0, locals := 0 } : Room).cells ({ frames := 0, cells := 0, slots := 0, locals := 0 } : Room).slots) := by
  refine MetFree.of_bodySF (plainFor_of_name k1pn2) hisR ?_
  intro p e s m args below meth c s₁ Bd hml0 hP hK
  obtain ⟨rfl, hZ, hh⟩ := hP
  have hx := Bd.exec
  have hby := Bd.bytes
  have hret := Bd.returns
  have hlk := Bd.notSynchronized
  have hml : c.maxLocals = 1 := hml0
  have hown : s.vm.findClass "com/example/query_to_table/querytotable/sql/Comparison" = some m.cls := findClass_of_methodNamed Bd.named
  have hnm := (name_of_methodNamed Bd.named Bd.method).1
  have X0 : Stand p l e ({ frames := 0, cells := 0, slots := 0, locals := 0 } : Room) s m #[(.ref ar)] below meth c s₁ [] 0 0 := Stand.of_body Bd
  have e0 : s₁.heap = h0 := by rw [← hh, Bd.state]; rfl
  have N0 := Fr.nil n0
  show Wp p e below (fun o s₂ => ∃ v L, o = .returned v ∧ Q_ub1 Z ar h0 n0 v s₂.heap L ∧ FrameEnd s o s₂ L ({ frames := 0, cells := 0, slots := 0, locals := 0 } : Room).cells ({ frames := 0, cells := 0, slots := 0, locals := 0 } : Room).slots) _
  refine Wp.back (U' := (s₁.setTop (mkF m 0 #[.val (.ref ar)] []))) (fun t k => castTop (k1ef2 m ar) k) ?_
  refine Wp.back (U' := (s₁.setTop (mkF m 1 #[.val (.ref ar)] [(.ref ar)]))) (fun t k => XS.aloadN X0.here hx rfl (hb hby k1d2_0) rfl rfl k) ?_
  obtain ⟨T1, X1, e1, st1⟩ := getS2 X0 hx hZ hown (host := "") (Or.inl (hw _ (List.mem_of_getElem? (i := 13) rfl))) Via.refl e0 H0 (g := (mkF m 1 #[.val (.ref ar)] [(.ref ar)])) rfl (hb hby k1d2_1)
  refine Wp.back (U' := (T1.setTop (mkF m 4 #[.val (.ref ar)] [(.ref ar), (.ref ar)]))) st1 ?_
  refine Wp.back (U' := (T1.setTop (mkF m 14 #[.val (.ref ar)] []))) (fun t k => Jvm.RoadKit.acmp (g := (mkF m 4 #[.val (.ref ar)] [(.ref ar), (.ref ar)])) X1 hx rfl rfl rfl (pc0 := 4) (pc' := 14) (same := true) rfl (hb hby k1d2_4) rfl (decide_eq_true rfl) (by decide) (by decide) k) ?_
  refine Wp.back (U' := (T1.setTop (mkF m 19 #[.val (.ref ar)] [(.int (1 : Int32))]))) (fun t k => XT.iconstV X1.here hx rfl (1 : Int32) (hb hby k1d2_14) (by decide) (XS.goto X1.here hx rfl (pc0 := 15) (pc' := 19) rfl (hb hby k1d2_15) (by decide) (by decide) k)) ?_
  obtain ⟨fs, hr, hrun, hended, hW, hsame⟩ := X1.leave (v := (some (.int (1 : Int32)))) (fun h => by rw [hret] at h; cases h)
  refine Wp.done (retN X1 hx (t := .boolean) hret (by simp) (hb hby k1d2_19) hr) hrun hended ⟨_, _, rfl, ?_, ⟨_, rfl⟩, hW, hsame.mono (by decide) (by decide)⟩
  show Q_ub1 Z ar h0 n0 _ T1.heap _
  rw [e1]
  exact ⟨rfl, N0, (Keep.refl h0 [])⟩
def Q_ub2 (Z : State) (ar : Addr) (w1 : Addr) (h0 : Heap) (n0 : Nat) (v : Option Value) (h : Heap) (L : List Loc) : Prop := v = some (.int (1 : Int32)) ∧ Fr n0 L ∧ Keep h0 h []
theorem k2d2_0 : decode prog_10_method_5_code 0 = .ok (.aload_n 0, 1) := by decide +kernel
theorem k2d2_1 : decode prog_10_method_5_code 1 = .ok (.getstatic 13, 3) := by decide +kernel
theorem k2d2_4 : decode prog_10_method_5_code 4 = .ok (.if_acmp .eq 10, 3) := by decide +kernel
theorem k2d2_7 : decode prog_10_method_5_code 7 = .ok (.aload_n 0, 1) := by decide +kernel
theorem k2d2_8 : decode prog_10_method_5_code 8 = .ok (.getstatic 16, 3) := by decide +kernel
theorem k2d2_11 : decode prog_10_method_5_code 11 = .ok (.if_acmp .ne 7, 3) := by decide +kernel
theorem k2d2_14 : decode prog_10_method_5_code 14 = .ok (.iconst 1, 1) := by decide +kernel
theorem k2d2_15 : decode prog_10_method_5_code 15 = .ok (.goto 4, 3) := by decide +kernel
theorem k2d2_19 : decode prog_10_method_5_code 19 = .ok (.ireturn, 1) := by decide +kernel
theorem k2pn2 : plainName "com/example/query_to_table/querytotable/sql/Comparison" = true := by first | (simp [plainName, overriddenIn]; done) | decide +kernel
theorem k2ef2 (m : MethodId) (x0 : Addr) : entryFrame m #[(.ref x0)] 1 = mkF m 0 #[.val (.ref x0)] [] := by first | (simp [entryFrame, mkF, argsToLocals, Value.category]; done) | rfl
set_option maxRecDepth 65536 in
set_option maxHeartbeats 40000000 in
theorem rm_ub2 (l : Launch) (Z : State) (a0 : Array Value) (hw : ∀ d ∈ tables_1, d.before a0 Z = true) (ws : List Jvm.Cond) (ar : Addr) (w1 : Addr) (h0 : Heap) (n0 : Nat) (Z0 : n0 ≤ h0.size) (H0 : Sta Z h0 "com/example/query_to_table/querytotable/sql/Comparison" "GREATER_THAN" "Lcom/example/query_to_table/querytotable/sql/Comparison;" (.ref w1)) (H1 : Sta Z h0 "com/example/query_to_table/querytotable/sql/Comparison" "GREATER_THAN_OR_EQUAL" "Lcom/example/query_to_table/querytotable/sql/Comparison;" (.ref ar)) (ne_ar_w1 : ar ≠ w1) :
    MetFree l (⟨"com/example/query_to_table/querytotable/sql/Comparison", "isLowerBound", "()Z"⟩ : MethodName) (head1 (Jvm.Cond.code (⟨"com/example/query_to_table/querytotable/sql/Comparison", "isLowerBound", "()Z"⟩ : MethodName) prog_10_method_5_code 1 (some .boolean) :: ws) ({ frames := 0, cells := 0, slots := 0, locals := 0 } : Room)) (fun a U => a = #[(.ref ar)] ∧ Z.Warmed39 U.vm ∧ U.heap = h0) (fun _ _ _ _ _ => True) (fun _ U o U' => ∃ v L, o = .returned v ∧ Q_ub2 Z ar w1 h0 n0 v U'.heap L ∧ FrameEnd U o U' L ({ frames := 0, cells := 0, slots := 0, locals := 0 } : Room).cells ({ frames := 0, cells := 0, slots := 0, locals := 0 } : Room).slots) := by
  refine MetFree.of_bodySF (plainFor_of_name k2pn2) hisR ?_
  intro p e s m args below meth c s₁ Bd hml0 hP hK
  obtain ⟨rfl, hZ, hh⟩ := hP
  have hx := Bd.exec
  have hby := Bd.bytes
  have hret := Bd.returns
  have hlk := Bd.notSynchronized
  have hml : c.maxLocals = 1 := hml0
  have hown : s.vm.findClass "com/example/query_to_table/querytotable/sql/Comparison" = some m.cls := findClass_of_methodNamed Bd.named
  have hnm := (name_of_methodNamed Bd.named Bd.method).1
  have X0 : Stand p l e ({ frames := 0, cells := 0, slots := 0, locals := 0 } : Room) s m #[(.ref ar)] below meth c s₁ [] 0 0 := Stand.of_body Bd
  have e0 : s₁.heap = h0 := by rw [← hh, Bd.state]; rfl
  have N0 := Fr.nil n0
  show Wp p e below (fun o s₂ => ∃ v L, o = .returned v ∧ Q_ub2 Z ar w1 h0 n0 v s₂.heap L ∧ FrameEnd s o s₂ L ({ frames := 0, cells := 0, slots := 0, locals := 0 } : Room).cells ({ frames := 0, cells := 0, slots := 0, locals := 0 } : Room).slots) _
  refine Wp.back (U' := (s₁.setTop (mkF m 0 #[.val (.ref ar)] []))) (fun t k => castTop (k2ef2 m ar) k) ?_
  refine Wp.back (U' := (s₁.setTop (mkF m 1 #[.val (.ref ar)] [(.ref ar)]))) (fun t k => XS.aloadN X0.here hx rfl (hb hby k2d2_0) rfl rfl k) ?_
  obtain ⟨T1, X1, e1, st1⟩ := getS2 X0 hx hZ hown (host := "") (Or.inl (hw _ (List.mem_of_getElem? (i := 13) rfl))) Via.refl e0 H0 (g := (mkF m 1 #[.val (.ref ar)] [(.ref ar)])) rfl (hb hby k2d2_1)
  refine Wp.back (U' := (T1.setTop (mkF m 4 #[.val (.ref ar)] [(.ref w1), (.ref ar)]))) st1 ?_
  refine Wp.back (U' := (T1.setTop (mkF m 7 #[.val (.ref ar)] []))) (fun t k => Jvm.RoadKit.acmp (g := (mkF m 4 #[.val (.ref ar)] [(.ref w1), (.ref ar)])) X1 hx rfl rfl rfl (pc0 := 4) (pc' := 7) (same := false) rfl (hb hby k2d2_4) rfl (decide_eq_false fun q => ne_ar_w1 (Value.ref.inj q)) (by decide) (by decide) k) ?_
  refine Wp.back (U' := (T1.setTop (mkF m 8 #[.val (.ref ar)] [(.ref ar)]))) (fun t k => XS.aloadN X1.here hx rfl (hb hby k2d2_7) rfl rfl k) ?_
  obtain ⟨T2, X2, e2, st2⟩ := getS2 X1 hx hZ hown (host := "") (Or.inl (hw _ (List.mem_of_getElem? (i := 15) rfl))) Via.refl e1 H1 (g := (mkF m 8 #[.val (.ref ar)] [(.ref ar)])) rfl (hb hby k2d2_8)
  refine Wp.back (U' := (T2.setTop (mkF m 11 #[.val (.ref ar)] [(.ref ar), (.ref ar)]))) st2 ?_
  refine Wp.back (U' := (T2.setTop (mkF m 14 #[.val (.ref ar)] []))) (fun t k => Jvm.RoadKit.acmp (g := (mkF m 11 #[.val (.ref ar)] [(.ref ar), (.ref ar)])) X2 hx rfl rfl rfl (pc0 := 11) (pc' := 14) (same := true) rfl (hb hby k2d2_11) rfl (decide_eq_true rfl) (by decide) (by decide) k) ?_
  refine Wp.back (U' := (T2.setTop (mkF m 19 #[.val (.ref ar)] [(.int (1 : Int32))]))) (fun t k => XT.iconstV X2.here hx rfl (1 : Int32) (hb hby k2d2_14) (by decide) (XS.goto X2.here hx rfl (pc0 := 15) (pc' := 19) rfl (hb hby k2d2_15) (by decide) (by decide) k)) ?_
  obtain ⟨fs, hr, hrun, hended, hW, hsame⟩ := X2.leave (v := (some (.int (1 : Int32)))) (fun h => by rw [hret] at h; cases h)
  refine Wp.done (retN X2 hx (t := .boolean) hret (by simp) (hb hby k2d2_19) hr) hrun hended ⟨_, _, rfl, ?_, ⟨_, rfl⟩, hW, hsame.mono (by decide) (by decide)⟩
  show Q_ub2 Z ar w1 h0 n0 _ T2.heap _
  rw [e2]
  exact ⟨rfl, N0, (Keep.refl h0 [])⟩
def Q_sym (Z : State) (ar : Addr) (sa : Addr) (h0 : Heap) (n0 : Nat) (v : Option Value) (h : Heap) (L : List Loc) : Prop := v = some (.ref sa) ∧ Fr n0 L ∧ Keep h0 h []
theorem d3_0 : decode prog_10_method_4_code 0 = .ok (.aload_n 0, 1) := by decide +kernel
theorem d3_1 : decode prog_10_method_4_code 1 = .ok (.getfield 38, 3) := by decide +kernel
theorem d3_4 : decode prog_10_method_4_code 4 = .ok (.areturn, 1) := by decide +kernel
theorem pn3 : plainName "com/example/query_to_table/querytotable/sql/Comparison" = true := by first | (simp [plainName, overriddenIn]; done) | decide +kernel
theorem ef3 (m : MethodId) (x0 : Addr) : entryFrame m #[(.ref x0)] 1 = mkF m 0 #[.val (.ref x0)] [] := by first | (simp [entryFrame, mkF, argsToLocals, Value.category]; done) | rfl
set_option maxRecDepth 65536 in
set_option maxHeartbeats 40000000 in
theorem rm_sym (l : Launch) (Z : State) (a0 : Array Value) (hw : ∀ d ∈ tables_1, d.before a0 Z = true) (ws : List Jvm.Cond) (ar : Addr) (sa : Addr) (h0 : Heap) (n0 : Nat) (Z0 : n0 ≤ h0.size) (H0 : Fld Z h0 ar "com/example/query_to_table/querytotable/sql/Comparison" "symbol" "Ljava/lang/String;" (.ref sa)) :
    MetFree l (⟨"com/example/query_to_table/querytotable/sql/Comparison", "symbol", "()Ljava/lang/String;"⟩ : MethodName) (head1 (Jvm.Cond.code (⟨"com/example/query_to_table/querytotable/sql/Comparison", "symbol", "()Ljava/lang/String;"⟩ : MethodName) prog_10_method_4_code 1 (some (.object "java/lang/String")) :: ws) ({ frames := 0, cells := 0, slots := 0, locals := 0 } : Room)) (fun a U => a = #[(.ref ar)] ∧ Z.Warmed39 U.vm ∧ U.heap = h0) (fun _ _ _ _ _ => True) (fun _ U o U' => ∃ v L, o = .returned v ∧ Q_sym Z ar sa h0 n0 v U'.heap L ∧ FrameEnd U o U' L ({ frames := 0, cells := 0, slots := 0, locals := 0 } : Room).cells ({ frames := 0, cells := 0, slots := 0, locals := 0 } : Room).slots) := by
  refine MetFree.of_bodySF (plainFor_of_name pn3) hisR ?_
  intro p e s m args below meth c s₁ Bd hml0 hP hK
  obtain ⟨rfl, hZ, hh⟩ := hP
  have hx := Bd.exec
  have hby := Bd.bytes
  have hret := Bd.returns
  have hlk := Bd.notSynchronized
  have hml : c.maxLocals = 1 := hml0
  have hown : s.vm.findClass "com/example/query_to_table/querytotable/sql/Comparison" = some m.cls := findClass_of_methodNamed Bd.named
  have hnm := (name_of_methodNamed Bd.named Bd.method).1
  have X0 : Stand p l e ({ frames := 0, cells := 0, slots := 0, locals := 0 } : Room) s m #[(.ref ar)] below meth c s₁ [] 0 0 := Stand.of_body Bd
  have e0 : s₁.heap = h0 := by rw [← hh, Bd.state]; rfl
  have N0 := Fr.nil n0
  show Wp p e below (fun o s₂ => ∃ v L, o = .returned v ∧ Q_sym Z ar sa h0 n0 v s₂.heap L ∧ FrameEnd s o s₂ L ({ frames := 0, cells := 0, slots := 0, locals := 0 } : Room).cells ({ frames := 0, cells := 0, slots := 0, locals := 0 } : Room).slots) _
  refine Wp.back (U' := (s₁.setTop (mkF m 0 #[.val (.ref ar)] []))) (fun t k => castTop (ef3 m ar) k) ?_
  refine Wp.back (U' := (s₁.setTop (mkF m 1 #[.val (.ref ar)] [(.ref ar)]))) (fun t k => XS.aloadN X0.here hx rfl (hb hby d3_0) rfl rfl k) ?_
  obtain ⟨T1, X1, e1, st1⟩ := getF X0 hx hZ hown (host := "") (Or.inl (hw _ (List.mem_of_getElem? (i := 22) rfl))) Via.refl e0 H0 (g := (mkF m 1 #[.val (.ref ar)] [(.ref ar)])) rfl rfl (hb hby d3_1)
  refine Wp.back (U' := (T1.setTop (mkF m 4 #[.val (.ref ar)] [(.ref sa)]))) st1 ?_
  obtain ⟨fs, hr, hrun, hended, hW, hsame⟩ := X1.leave (v := (some (.ref sa))) (fun h => by rw [hret] at h; cases h)
  refine Wp.done (retOut X1 hx hret rfl (Or.inr (Or.inr (Or.inr (Or.inr ⟨rfl, rfl, rfl⟩)))) (hb hby d3_4) hr) hrun hended ⟨_, _, rfl, ?_, ⟨_, rfl⟩, hW, hsame.mono (by decide) (by decide)⟩
  show Q_sym Z ar sa h0 n0 _ T1.heap _
  rw [e1]
  exact ⟨rfl, N0, (Keep.refl h0 [])⟩
def Q_coder (Z : State) (ar : Addr) (cs : Int32) (h0 : Heap) (n0 : Nat) (v : Option Value) (h : Heap) (L : List Loc) : Prop := v = some (.int (0 : Int32)) ∧ Fr n0 L ∧ Keep h0 h []
theorem d5_0 : decode jdk_42_method_152_code 0 = .ok (.getstatic 38, 3) := by decide +kernel
theorem d5_3 : decode jdk_42_method_152_code 3 = .ok (.ifCond .eq 10, 3) := by decide +kernel
theorem d5_6 : decode jdk_42_method_152_code 6 = .ok (.aload_n 0, 1) := by decide +kernel
theorem d5_7 : decode jdk_42_method_152_code 7 = .ok (.getfield 15, 3) := by decide +kernel
theorem d5_10 : decode jdk_42_method_152_code 10 = .ok (.goto 4, 3) := by decide +kernel
theorem d5_14 : decode jdk_42_method_152_code 14 = .ok (.ireturn, 1) := by decide +kernel
theorem pn5 : plainName "java/lang/String" = true := by first | (simp [plainName, overriddenIn]; done) | decide +kernel
theorem ef5 (m : MethodId) (x0 : Addr) : entryFrame m #[(.ref x0)] 1 = mkF m 0 #[.val (.ref x0)] [] := by first | (simp [entryFrame, mkF, argsToLocals, Value.category]; done) | rfl
set_option maxRecDepth 65536 in
set_option maxHeartbeats 40000000 in
theorem rm_coder (l : Launch) (Z : State) (a0 : Array Value) (hw : ∀ d ∈ tables_1, d.before a0 Z = true) (ws : List Jvm.Cond) (ar : Addr) (cs : Int32) (h0 : Heap) (n0 : Nat) (Z0 : n0 ≤ h0.size) (H0 : Sta Z h0 "java/lang/String" "COMPACT_STRINGS" "Z" (.int cs)) (H1 : Fld Z h0 ar "java/lang/String" "coder" "B" (.int (0 : Int32))) (hcs : ¬ cs = (0 : Int32)) :
    MetFree l (⟨"java/lang/String", "coder", "()B"⟩ : MethodName) (head1 (Jvm.Cond.code (⟨"java/lang/String", "coder", "()B"⟩ : MethodName) jdk_42_method_152_code 1 (some .byte) :: ws) ({ frames := 0, cells := 0, slots := 0, locals := 0 } : Room)) (fun a U => a = #[(.ref ar)] ∧ Z.Warmed39 U.vm ∧ U.heap = h0) (fun _ _ _ _ _ => True) (fun _ U o U' => ∃ v L, o = .returned v ∧ Q_coder Z ar cs h0 n0 v U'.heap L ∧ FrameEnd U o U' L ({ frames := 0, cells := 0, slots := 0, locals := 0 } : Room).cells ({ frames := 0, cells := 0, slots := 0, locals := 0 } : Room).slots) := by
  refine MetFree.of_bodySF (plainFor_of_name pn5) hisR ?_
  intro p e s m args below meth c s₁ Bd hml0 hP hK
  obtain ⟨rfl, hZ, hh⟩ := hP
  have hx := Bd.exec
  have hby := Bd.bytes
  have hret := Bd.returns
  have hlk := Bd.notSynchronized
  have hml : c.maxLocals = 1 := hml0
  have hown : s.vm.findClass "java/lang/String" = some m.cls := findClass_of_methodNamed Bd.named
  have hnm := (name_of_methodNamed Bd.named Bd.method).1
  have X0 : Stand p l e ({ frames := 0, cells := 0, slots := 0, locals := 0 } : Room) s m #[(.ref ar)] below meth c s₁ [] 0 0 := Stand.of_body Bd
  have e0 : s₁.heap = h0 := by rw [← hh, Bd.state]; rfl
  have N0 := Fr.nil n0
  show Wp p e below (fun o s₂ => ∃ v L, o = .returned v ∧ Q_coder Z ar cs h0 n0 v s₂.heap L ∧ FrameEnd s o s₂ L ({ frames := 0, cells := 0, slots := 0, locals := 0 } : Room).cells ({ frames := 0, cells := 0, slots := 0, locals := 0 } : Room).slots) _
  refine Wp.back (U' := (s₁.setTop (mkF m 0 #[.val (.ref ar)] []))) (fun t k => castTop (ef5 m ar) k) ?_
  obtain ⟨T1, X1, e1, st1⟩ := getS2 X0 hx hZ hown (host := "") (Or.inl (hw _ (List.mem_of_getElem? (i := 37) rfl))) Via.refl e0 H0 (g := (mkF m 0 #[.val (.ref ar)] [])) rfl (hb hby d5_0)
  refine Wp.back (U' := (T1.setTop (mkF m 3 #[.val (.ref ar)] [(.int cs)]))) st1 ?_
  refine Wp.back (U' := (T1.setTop (mkF m 7 #[.val (.ref ar)] [(.ref ar)]))) (fun t k => XS.ifNo X1.here hx rfl (hb hby d5_3) rfl ((if0 _ _).trans (feq hcs).1) (XS.aloadN X1.here hx rfl (hb hby d5_6) rfl rfl k)) ?_
  obtain ⟨T2, X2, e2, st2⟩ := getF X1 hx hZ hown (host := "") (Or.inl (hw _ (List.mem_of_getElem? (i := 38) rfl))) Via.refl e1 H1 (g := (mkF m 7 #[.val (.ref ar)] [(.ref ar)])) rfl rfl (hb hby d5_7)
  refine Wp.back (U' := (T2.setTop (mkF m 10 #[.val (.ref ar)] [(.int (0 : Int32))]))) st2 ?_
  refine Wp.back (U' := (T2.setTop (mkF m 14 #[.val (.ref ar)] [(.int (0 : Int32))]))) (fun t k => XS.goto X2.here hx rfl (pc0 := 10) (pc' := 14) rfl (hb hby d5_10) (by decide) (by decide) k) ?_
  obtain ⟨fs, hr, hrun, hended, hW, hsame⟩ := X2.leave (v := (some (.int (0 : Int32)))) (fun h => by rw [hret] at h; cases h)
  refine Wp.done (retN X2 hx (t := .byte) hret (by simp) (hb hby d5_14) hr) hrun hended ⟨_, _, rfl, ?_, ⟨_, rfl⟩, hW, hsame.mono (by decide) (by decide)⟩
  show Q_coder Z ar cs h0 n0 _ T2.heap _
  rw [e2]
  exact ⟨rfl, N0, (Keep.refl h0 [])⟩
def Q_isLatin1 (Z : State) (ar : Addr) (cs : Int32) (h0 : Heap) (n0 : Nat) (v : Option Value) (h : Heap) (L : List Loc) : Prop := v = some (.int (1 : Int32)) ∧ Fr n0 L ∧ Keep h0 h []
theorem d7_0 : decode jdk_42_method_154_code 0 = .ok (.getstatic 38, 3) := by decide +kernel
theorem d7_3 : decode jdk_42_method_154_code 3 = .ok (.ifCond .eq 14, 3) := by decide +kernel
theorem d7_6 : decode jdk_42_method_154_code 6 = .ok (.aload_n 0, 1) := by decide +kernel
theorem d7_7 : decode jdk_42_method_154_code 7 = .ok (.getfield 15, 3) := by decide +kernel
theorem d7_10 : decode jdk_42_method_154_code 10 = .ok (.ifCond .ne 7, 3) := by decide +kernel
theorem d7_13 : decode jdk_42_method_154_code 13 = .ok (.iconst 1, 1) := by decide +kernel
theorem d7_14 : decode jdk_42_method_154_code 14 = .ok (.goto 4, 3) := by decide +kernel
theorem d7_18 : decode jdk_42_method_154_code 18 = .ok (.ireturn, 1) := by decide +kernel
theorem pn7 : plainName "java/lang/String" = true := by first | (simp [plainName, overriddenIn]; done) | decide +kernel
theorem ef7 (m : MethodId) (x0 : Addr) : entryFrame m #[(.ref x0)] 1 = mkF m 0 #[.val (.ref x0)] [] := by first | (simp [entryFrame, mkF, argsToLocals, Value.category]; done) | rfl
set_option maxRecDepth 65536 in
set_option maxHeartbeats 40000000 in
theorem rm_isLatin1 (l : Launch) (Z : State) (a0 : Array Value) (hw : ∀ d ∈ tables_1, d.before a0 Z = true) (ws : List Jvm.Cond) (ar : Addr) (cs : Int32) (h0 : Heap) (n0 : Nat) (Z0 : n0 ≤ h0.size) (H0 : Sta Z h0 "java/lang/String" "COMPACT_STRINGS" "Z" (.int cs)) (H1 : Fld Z h0 ar "java/lang/String" "coder" "B" (.int (0 : Int32))) (hcs : ¬ cs = (0 : Int32)) :
    MetFree l (⟨"java/lang/String", "isLatin1", "()Z"⟩ : MethodName) (head1 (Jvm.Cond.code (⟨"java/lang/String", "isLatin1", "()Z"⟩ : MethodName) jdk_42_method_154_code 1 (some .boolean) :: ws) ({ frames := 0, cells := 0, slots := 0, locals := 0 } : Room)) (fun a U => a = #[(.ref ar)] ∧ Z.Warmed39 U.vm ∧ U.heap = h0) (fun _ _ _ _ _ => True) (fun _ U o U' => ∃ v L, o = .returned v ∧ Q_isLatin1 Z ar cs h0 n0 v U'.heap L ∧ FrameEnd U o U' L ({ frames := 0, cells := 0, slots := 0, locals := 0 } : Room).cells ({ frames := 0, cells := 0, slots := 0, locals := 0 } : Room).slots) := by
  refine MetFree.of_bodySF (plainFor_of_name pn7) hisR ?_
  intro p e s m args below meth c s₁ Bd hml0 hP hK
  obtain ⟨rfl, hZ, hh⟩ := hP
  have hx := Bd.exec
  have hby := Bd.bytes
  have hret := Bd.returns
  have hlk := Bd.notSynchronized
  have hml : c.maxLocals = 1 := hml0
  have hown : s.vm.findClass "java/lang/String" = some m.cls := findClass_of_methodNamed Bd.named
  have hnm := (name_of_methodNamed Bd.named Bd.method).1
  have X0 : Stand p l e ({ frames := 0, cells := 0, slots := 0, locals := 0 } : Room) s m #[(.ref ar)] below meth c s₁ [] 0 0 := Stand.of_body Bd
  have e0 : s₁.heap = h0 := by rw [← hh, Bd.state]; rfl
  have N0 := Fr.nil n0
  show Wp p e below (fun o s₂ => ∃ v L, o = .returned v ∧ Q_isLatin1 Z ar cs h0 n0 v s₂.heap L ∧ FrameEnd s o s₂ L ({ frames := 0, cells := 0, slots := 0, locals := 0 } : Room).cells ({ frames := 0, cells := 0, slots := 0, locals := 0 } : Room).slots) _
  refine Wp.back (U' := (s₁.setTop (mkF m 0 #[.val (.ref ar)] []))) (fun t k => castTop (ef7 m ar) k) ?_
  obtain ⟨T1, X1, e1, st1⟩ := getS2 X0 hx hZ hown (host := "") (Or.inl (hw _ (List.mem_of_getElem? (i := 37) rfl))) Via.refl e0 H0 (g := (mkF m 0 #[.val (.ref ar)] [])) rfl (hb hby d7_0)
  refine Wp.back (U' := (T1.setTop (mkF m 3 #[.val (.ref ar)] [(.int cs)]))) st1 ?_
  refine Wp.back (U' := (T1.setTop (mkF m 7 #[.val (.ref ar)] [(.ref ar)]))) (fun t k => XS.ifNo X1.here hx rfl (hb hby d7_3) rfl ((if0 _ _).trans (feq hcs).1) (XS.aloadN X1.here hx rfl (hb hby d7_6) rfl rfl k)) ?_
  obtain ⟨T2, X2, e2, st2⟩ := getF X1 hx hZ hown (host := "") (Or.inl (hw _ (List.mem_of_getElem? (i := 38) rfl))) Via.refl e1 H1 (g := (mkF m 7 #[.val (.ref ar)] [(.ref ar)])) rfl rfl (hb hby d7_7)
  refine Wp.back (U' := (T2.setTop (mkF m 10 #[.val (.ref ar)] [(.int (0 : Int32))]))) st2 ?_
  refine Wp.back (U' := (T2.setTop (mkF m 18 #[.val (.ref ar)] [(.int (1 : Int32))]))) (fun t k => XS.ifNo X2.here hx rfl (hb hby d7_10) rfl ((if0 _ _).trans (teq (by decide)).2) (XT.iconstV X2.here hx rfl (1 : Int32) (hb hby d7_13) (by decide) (XS.goto X2.here hx rfl (pc0 := 14) (pc' := 18) rfl (hb hby d7_14) (by decide) (by decide) k))) ?_
  obtain ⟨fs, hr, hrun, hended, hW, hsame⟩ := X2.leave (v := (some (.int (1 : Int32)))) (fun h => by rw [hret] at h; cases h)
  refine Wp.done (retN X2 hx (t := .boolean) hret (by simp) (hb hby d7_18) hr) hrun hended ⟨_, _, rfl, ?_, ⟨_, rfl⟩, hW, hsame.mono (by decide) (by decide)⟩
  show Q_isLatin1 Z ar cs h0 n0 _ T2.heap _
  rw [e2]
  exact ⟨rfl, N0, (Keep.refl h0 [])⟩
def Q_len1 (Z : State) (ar : Addr) (cs : Int32) (vb : Addr) (kb : ClassId) (v0 : Int32) (h0 : Heap) (n0 : Nat) (v : Option Value) (h : Heap) (L : List Loc) : Prop := v = some (.int (1 : Int32)) ∧ Fr n0 L ∧ Keep h0 h []
theorem n1d4_0 : decode jdk_42_method_54_code 0 = .ok (.aload_n 0, 1) := by decide +kernel
theorem n1d4_1 : decode jdk_42_method_54_code 1 = .ok (.getfield 9, 3) := by decide +kernel
theorem n1d4_4 : decode jdk_42_method_54_code 4 = .ok (.arraylength, 1) := by decide +kernel
theorem n1d4_5 : decode jdk_42_method_54_code 5 = .ok (.aload_n 0, 1) := by decide +kernel
theorem n1d4_6 : decode jdk_42_method_54_code 6 = .ok (.invokevirtual 335, 3) := by decide +kernel
theorem n1d4_9 : decode jdk_42_method_54_code 9 = .ok (.ishr, 1) := by decide +kernel
theorem n1d4_10 : decode jdk_42_method_54_code 10 = .ok (.ireturn, 1) := by decide +kernel
theorem n1pd4_0 : parseMethodDescriptor "()B" = some ⟨[], some .byte⟩ := by decide +kernel
theorem n1pn4 : plainName "java/lang/String" = true := by first | (simp [plainName, overriddenIn]; done) | decide +kernel
theorem n1ef4 (m : MethodId) (x0 : Addr) : entryFrame m #[(.ref x0)] 1 = mkF m 0 #[.val (.ref x0)] [] := by first | (simp [entryFrame, mkF, argsToLocals, Value.category]; done) | rfl
set_option maxRecDepth 65536 in
set_option maxHeartbeats 40000000 in
theorem rm_len1 (l : Launch) (Z : State) (a0 : Array Value) (hw : ∀ d ∈ tables_1, d.before a0 Z = true) (ws : List Jvm.Cond) (ar : Addr) (cs : Int32) (vb : Addr) (kb : ClassId) (v0 : Int32) (h0 : Heap) (n0 : Nat) (Z0 : n0 ≤ h0.size) (H0 : Exa Z h0 ar "java/lang/String") (H1 : Fld Z h0 ar "java/lang/String" "value" "[B" (.ref vb)) (H2 : Fld Z h0 ar "java/lang/String" "coder" "B" (.int (0 : Int32))) (H3 : Arv Z h0 vb kb .byte (1 : Int32) [(.int v0)] (.int (0 : Int32))) (H4 : Sta Z h0 "java/lang/String" "COMPACT_STRINGS" "Z" (.int cs)) (hcs : ¬ cs = (0 : Int32)) :
    MetFree l (⟨"java/lang/String", "length", "()I"⟩ : MethodName) (head1 (Jvm.Cond.code (⟨"java/lang/String", "length", "()I"⟩ : MethodName) jdk_42_method_54_code 1 (some .int) :: ws) ({ frames := 1, cells := 0, slots := 0, locals := 13 } : Room)) (fun a U => a = #[(.ref ar)] ∧ Z.Warmed39 U.vm ∧ U.heap = h0) (fun _ _ _ _ _ => True) (fun _ U o U' => ∃ v L, o = .returned v ∧ Q_len1 Z ar cs vb kb v0 h0 n0 v U'.heap L ∧ FrameEnd U o U' L ({ frames := 1, cells := 0, slots := 0, locals := 13 } : Room).cells ({ frames := 1, cells := 0, slots := 0, locals := 13 } : Room).slots) := by
  refine MetFree.of_bodySF (plainFor_of_name n1pn4) hisR ?_
  intro p e s m args below meth c s₁ Bd hml0 hP hK
  obtain ⟨rfl, hZ, hh⟩ := hP
  have hx := Bd.exec
  have hby := Bd.bytes
  have hret := Bd.returns
  have hlk := Bd.notSynchronized
  have hml : c.maxLocals = 1 := hml0
  have hown : s.vm.findClass "java/lang/String" = some m.cls := findClass_of_methodNamed Bd.named
  have hnm := (name_of_methodNamed Bd.named Bd.method).1
  have X0 : Stand p l e ({ frames := 1, cells := 0, slots := 0, locals := 13 } : Room) s m #[(.ref ar)] below meth c s₁ [] 0 0 := Stand.of_body Bd
  have e0 : s₁.heap = h0 := by rw [← hh, Bd.state]; rfl
  have N0 := Fr.nil n0
  show Wp p e below (fun o s₂ => ∃ v L, o = .returned v ∧ Q_len1 Z ar cs vb kb v0 h0 n0 v s₂.heap L ∧ FrameEnd s o s₂ L ({ frames := 1, cells := 0, slots := 0, locals := 13 } : Room).cells ({ frames := 1, cells := 0, slots := 0, locals := 13 } : Room).slots) _
  refine Wp.back (U' := (s₁.setTop (mkF m 0 #[.val (.ref ar)] []))) (fun t k => castTop (n1ef4 m ar) k) ?_
  refine Wp.back (U' := (s₁.setTop (mkF m 1 #[.val (.ref ar)] [(.ref ar)]))) (fun t k => XS.aloadN X0.here hx rfl (hb hby n1d4_0) rfl rfl k) ?_
  obtain ⟨T1, X1, e1, st1⟩ := getF X0 hx hZ hown (host := "") (Or.inl (hw _ (List.mem_of_getElem? (i := 30) rfl))) Via.refl e0 H1 (g := (mkF m 1 #[.val (.ref ar)] [(.ref ar)])) rfl rfl (hb hby n1d4_1)
  refine Wp.back (U' := (T1.setTop (mkF m 4 #[.val (.ref ar)] [(.ref vb)]))) st1 ?_
  have vq2 := H3
  obtain ⟨cl2, Ar2, -, qs2, qn2, -, -⟩ := vq2
  refine Wp.back (U' := (T1.setTop (mkF m 5 #[.val (.ref ar)] [(.int (1 : Int32))]))) (fun t k => X1.arraylength hx (by rw [e1]; exact Ar2.1) (State.isArrayOf_alike hZ.alike Ar2.2.1) (g := (mkF m 4 #[.val (.ref ar)] [(.ref vb)])) rfl rfl (hb hby n1d4_4) t (by rw [len_of qs2 qn2]; exact k)) ?_
  refine Wp.back (U' := (T1.setTop (mkF m 6 #[.val (.ref ar)] [(.ref ar), (.int (1 : Int32))]))) (fun t k => XS.aloadN X1.here hx rfl (hb hby n1d4_5) rfl rfl k) ?_
  obtain ⟨cq3, kq3, q3a, q3b, q3c⟩ := isOf hZ e1 H0
  obtain ⟨_, _, ⟨T3, L3, k3, n3⟩, -, X3, ⟨Lc3, hQ3, l3, y3, z3⟩, st3⟩ := X1.virtualBack hx (y := (⟨"java/lang/String", "coder", "()B"⟩ : MethodName)) (z := (⟨"java/lang/String", "coder", "()B"⟩ : MethodName)) hown (mvT hZ (hw _ (List.mem_of_getElem? (i := 32) rfl))) (mvT hZ (hw _ (List.mem_of_getElem? (i := 33) rfl))) (notFace_of_selects (args := #[]) (mvT hZ (hw _ (List.mem_of_getElem? (i := 35) rfl)))) (mvT hZ (hw _ (List.mem_of_getElem? (i := 35) rfl))) (mvT hZ (hw _ (List.mem_of_getElem? (i := 34) rfl))) (by decide) (backOf (W := 1) (rm_coder l Z a0 hw [] ar cs h0 n0 Z0 H4 H2 hcs) hZ (hw _ (List.mem_of_getElem? (i := 36) rfl)) (hw _ (List.mem_of_getElem? (i := 28) rfl)) (by decide) (by decide)) q3a q3c (g := (mkF m 6 #[.val (.ref ar)] [(.ref ar), (.int (1 : Int32))])) rfl (by rw [hml]; rfl) (Steps.refl _) (argsL := []) (rest := [(.int (1 : Int32))]) (lenOf n1pd4_0 rfl) rfl (by show 2 * 0 + _ ≤ _; exact Nat.le_of_eq rfl) (hb hby n1d4_6) (fun _ _ => ⟨rfl, e1, (by decide : 0 + 0 ≤ _), (by decide : 0 + 0 ≤ _)⟩)
  dsimp only [Pt.U, Pt.locs, Pt.cells, Pt.slots] at X3 l3 y3 z3 st3 hQ3
  subst l3 y3 z3
  obtain ⟨rfl, N3q, K3⟩ := hQ3
  have f4_0 := Nat.le_trans Z0 K3.1
  have f4_1 := H0.keep K3
  have f4_2 := H1.keep K3 nin0
  have f4_3 := H2.keep K3 nin0
  have f4_4 := H3.keep K3 nin0
  have f4_5 := Sta_keep0 H4 K3
  have f4_6 := (Keep.refl h0 []).trans K3 all0
  have N3 := Fr.app N0 N3q
  refine Wp.back (U' := (T3.setTop (mkF m 9 #[.val (.ref ar)] [(.int (0 : Int32)), (.int (1 : Int32))]))) (fun t k => st3.trans k) ?_
  refine Wp.back (U' := (T3.setTop (mkF m 10 #[.val (.ref ar)] [(.int (1 : Int32))]))) (fun t k => XS.ishr X3.here hx rfl (hb hby n1d4_9) rfl k) ?_
  obtain ⟨fs, hr, hrun, hended, hW, hsame⟩ := X3.leave (v := (some (.int (1 : Int32)))) (fun h => by rw [hret] at h; cases h)
  refine Wp.done (retI X3 hx hret (hb hby n1d4_10) hr) hrun hended ⟨_, _, rfl, ?_, ⟨_, rfl⟩, hW, hsame.mono (by decide) (by decide)⟩
  show Q_len1 Z ar cs vb kb v0 h0 n0 _ T3.heap _
  exact ⟨rfl, N3, f4_6⟩
def Q_pci1 (Z : State) (rf : Value)  (h0 : Heap) (n0 : Nat) (v : Option Value) (h : Heap) (L : List Loc) : Prop := v = some (.int (0 : Int32)) ∧ Fr n0 L ∧ Keep h0 h []
theorem n1d10_0 : decode jdk_41_method_11_code 0 = .ok (.iload_n 0, 1) := by decide +kernel
theorem n1d10_1 : decode jdk_41_method_11_code 1 = .ok (.ifCond .lt 8, 3) := by decide +kernel
theorem n1d10_4 : decode jdk_41_method_11_code 4 = .ok (.iload_n 0, 1) := by decide +kernel
theorem n1d10_5 : decode jdk_41_method_11_code 5 = .ok (.iload_n 1, 1) := by decide +kernel
theorem n1d10_6 : decode jdk_41_method_11_code 6 = .ok (.if_icmp .lt 10, 3) := by decide +kernel
theorem n1d10_16 : decode jdk_41_method_11_code 16 = .ok (.iload_n 0, 1) := by decide +kernel
theorem n1d10_17 : decode jdk_41_method_11_code 17 = .ok (.ireturn, 1) := by decide +kernel
theorem n1pn10 : plainName "jdk/internal/util/Preconditions" = true := by first | (simp [plainName, overriddenIn]; done) | decide +kernel
theorem n1ef10 (m : MethodId) (x0 : Int32) (x1 : Int32) (x2 : Value) (hx2 : x2.isRef = true) : entryFrame m #[(.int x0), (.int x1), x2] 3 = mkF m 0 #[.val (.int x0), .val (.int x1), .val x2] [] := by rcases ref_cases hx2 with rfl | ⟨y2, rfl⟩ <;> first | (simp [entryFrame, mkF, argsToLocals, Value.category]; done) | rfl
set_option maxRecDepth 65536 in
set_option maxHeartbeats 40000000 in
theorem rm_pci1 (l : Launch) (Z : State) (a0 : Array Value) (hw : ∀ d ∈ tables_1, d.before a0 Z = true) (ws : List Jvm.Cond) (rf : Value)  (h0 : Heap) (n0 : Nat) (Z0 : n0 ≤ h0.size) (isr_rf : rf.isRef = true) :
    MetFree l (⟨"jdk/internal/util/Preconditions", "checkIndex", "(IILjava/util/function/BiFunction;)I"⟩ : MethodName) (head1 (Jvm.Cond.code (⟨"jdk/internal/util/Preconditions", "checkIndex", "(IILjava/util/function/BiFunction;)I"⟩ : MethodName) jdk_41_method_11_code 3 (some .int) :: ws) ({ frames := 0, cells := 0, slots := 0, locals := 0 } : Room)) (fun a U => a = #[(.int (0 : Int32)), (.int (1 : Int32)), rf] ∧ Z.Warmed39 U.vm ∧ U.heap = h0) (fun _ _ _ _ _ => True) (fun _ U o U' => ∃ v L, o = .returned v ∧ Q_pci1 Z rf h0 n0 v U'.heap L ∧ FrameEnd U o U' L ({ frames := 0, cells := 0, slots := 0, locals := 0 } : Room).cells ({ frames := 0, cells := 0, slots := 0, locals := 0 } : Room).slots) := by
  refine MetFree.of_bodySF (plainFor_of_name n1pn10) hisR ?_
  intro p e s m args below meth c s₁ Bd hml0 hP hK
  obtain ⟨rfl, hZ, hh⟩ := hP
  have hx := Bd.exec
  have hby := Bd.bytes
  have hret := Bd.returns
  have hlk := Bd.notSynchronized
  have hml : c.maxLocals = 3 := hml0
  have hown : s.vm.findClass "jdk/internal/util/Preconditions" = some m.cls := findClass_of_methodNamed Bd.named
  have hnm := (name_of_methodNamed Bd.named Bd.method).1
  have X0 : Stand p l e ({ frames := 0, cells := 0, slots := 0, locals := 0 } : Room) s m #[(.int (0 : Int32)), (.int (1 : Int32)), rf] below meth c s₁ [] 0 0 := Stand.of_body Bd
  have e0 : s₁.heap = h0 := by rw [← hh, Bd.state]; rfl
  have N0 := Fr.nil n0
  show Wp p e below (fun o s₂ => ∃ v L, o = .returned v ∧ Q_pci1 Z rf h0 n0 v s₂.heap L ∧ FrameEnd s o s₂ L ({ frames := 0, cells := 0, slots := 0, locals := 0 } : Room).cells ({ frames := 0, cells := 0, slots := 0, locals := 0 } : Room).slots) _
  refine Wp.back (U' := (s₁.setTop (mkF m 0 #[.val (.int (0 : Int32)), .val (.int (1 : Int32)), .val rf] []))) (fun t k => castTop (n1ef10 m (0 : Int32) (1 : Int32) rf isr_rf) k) ?_
  refine Wp.back (U' := (s₁.setTop (mkF m 17 #[.val (.int (0 : Int32)), .val (.int (1 : Int32)), .val rf] [(.int (0 : Int32))]))) (fun t k => XS.iloadN X0.here hx rfl (hb hby n1d10_0) rfl (XS.ifNo X0.here hx rfl (hb hby n1d10_1) rfl ((if0 _ _).trans (flt (by decide)).1) (XS.iloadN X0.here hx rfl (hb hby n1d10_4) rfl (XS.iloadN X0.here hx rfl (hb hby n1d10_5) rfl (XS.icmpYes X0.here hx rfl (pc0 := 6) (pc' := 16) rfl (hb hby n1d10_6) rfl (tlt (by decide)).1 (by decide) (by decide) (XS.iloadN X0.here hx rfl (hb hby n1d10_16) rfl k)))))) ?_
  obtain ⟨fs, hr, hrun, hended, hW, hsame⟩ := X0.leave (v := (some (.int (0 : Int32)))) (fun h => by rw [hret] at h; cases h)
  refine Wp.done (retI X0 hx hret (hb hby n1d10_17) hr) hrun hended ⟨_, _, rfl, ?_, ⟨_, rfl⟩, hW, hsame.mono (by decide) (by decide)⟩
  show Q_pci1 Z rf h0 n0 _ s₁.heap _
  rw [e0]
  exact ⟨rfl, N0, (Keep.refl h0 [])⟩
def Q_sci1 (Z : State)  (rf : Value) (h0 : Heap) (n0 : Nat) (v : Option Value) (h : Heap) (L : List Loc) : Prop := v = none ∧ Fr n0 L ∧ Keep h0 h []
theorem n1d9_0 : decode jdk_42_method_155_code 0 = .ok (.iload_n 0, 1) := by decide +kernel
theorem n1d9_1 : decode jdk_42_method_155_code 1 = .ok (.iload_n 1, 1) := by decide +kernel
theorem n1d9_2 : decode jdk_42_method_155_code 2 = .ok (.getstatic 1053, 3) := by decide +kernel
theorem n1d9_5 : decode jdk_42_method_155_code 5 = .ok (.invokestatic 1059, 3) := by decide +kernel
theorem n1d9_8 : decode jdk_42_method_155_code 8 = .ok (.pop, 1) := by decide +kernel
theorem n1d9_9 : decode jdk_42_method_155_code 9 = .ok (.return_, 1) := by decide +kernel
theorem n1pd9_0 : parseMethodDescriptor "(IILjava/util/function/BiFunction;)I" = some ⟨[.int, .int, (.object "java/util/function/BiFunction")], some .int⟩ := by decide +kernel
theorem n1pn9 : plainName "java/lang/String" = true := by first | (simp [plainName, overriddenIn]; done) | decide +kernel
theorem n1ef9 (m : MethodId) (x0 : Int32) (x1 : Int32) : entryFrame m #[(.int x0), (.int x1)] 2 = mkF m 0 #[.val (.int x0), .val (.int x1)] [] := by first | (simp [entryFrame, mkF, argsToLocals, Value.category]; done) | rfl
set_option maxRecDepth 65536 in
set_option maxHeartbeats 40000000 in
theorem rm_sci1 (l : Launch) (Z : State) (a0 : Array Value) (hw : ∀ d ∈ tables_1, d.before a0 Z = true) (ws : List Jvm.Cond)  (rf : Value) (h0 : Heap) (n0 : Nat) (Z0 : n0 ≤ h0.size) (H0 : Sta Z h0 "jdk/internal/util/Preconditions" "SIOOBE_FORMATTER" "Ljava/util/function/BiFunction;" rf) (isr_rf : rf.isRef = true) :
    MetFree l (⟨"java/lang/String", "checkIndex", "(II)V"⟩ : MethodName) (head1 (Jvm.Cond.code (⟨"java/lang/String", "checkIndex", "(II)V"⟩ : MethodName) jdk_42_method_155_code 2 none :: ws) ({ frames := 1, cells := 0, slots := 0, locals := 14 } : Room)) (fun a U => a = #[(.int (0 : Int32)), (.int (1 : Int32))] ∧ Z.Warmed39 U.vm ∧ U.heap = h0) (fun _ _ _ _ _ => True) (fun _ U o U' => ∃ v L, o = .returned v ∧ Q_sci1 Z rf h0 n0 v U'.heap L ∧ FrameEnd U o U' L ({ frames := 1, cells := 0, slots := 0, locals := 14 } : Room).cells ({ frames := 1, cells := 0, slots := 0, locals := 14 } : Room).slots) := by
  refine MetFree.of_bodySF (plainFor_of_name n1pn9) hisR ?_
  intro p e s m args below meth c s₁ Bd hml0 hP hK
  obtain ⟨rfl, hZ, hh⟩ := hP
  have hx := Bd.exec
  have hby := Bd.bytes
  have hret := Bd.returns
  have hlk := Bd.notSynchronized
  have hml : c.maxLocals = 2 := hml0
  have hown : s.vm.findClass "java/lang/String" = some m.cls := findClass_of_methodNamed Bd.named
  have hnm := (name_of_methodNamed Bd.named Bd.method).1
  have X0 : Stand p l e ({ frames := 1, cells := 0, slots := 0, locals := 14 } : Room) s m #[(.int (0 : Int32)), (.int (1 : Int32))] below meth c s₁ [] 0 0 := Stand.of_body Bd
  have e0 : s₁.heap = h0 := by rw [← hh, Bd.state]; rfl
  have N0 := Fr.nil n0
  show Wp p e below (fun o s₂ => ∃ v L, o = .returned v ∧ Q_sci1 Z rf h0 n0 v s₂.heap L ∧ FrameEnd s o s₂ L ({ frames := 1, cells := 0, slots := 0, locals := 14 } : Room).cells ({ frames := 1, cells := 0, slots := 0, locals := 14 } : Room).slots) _
  refine Wp.back (U' := (s₁.setTop (mkF m 0 #[.val (.int (0 : Int32)), .val (.int (1 : Int32))] []))) (fun t k => castTop (n1ef9 m (0 : Int32) (1 : Int32)) k) ?_
  refine Wp.back (U' := (s₁.setTop (mkF m 2 #[.val (.int (0 : Int32)), .val (.int (1 : Int32))] [(.int (1 : Int32)), (.int (0 : Int32))]))) (fun t k => XS.iloadN X0.here hx rfl (hb hby n1d9_0) rfl (XS.iloadN X0.here hx rfl (hb hby n1d9_1) rfl k)) ?_
  obtain ⟨T1, X1, e1, st1⟩ := getS2 X0 hx hZ hown (host := "") (Or.inl (hw _ (List.mem_of_getElem? (i := 57) rfl))) Via.refl e0 H0 (g := (mkF m 2 #[.val (.int (0 : Int32)), .val (.int (1 : Int32))] [(.int (1 : Int32)), (.int (0 : Int32))])) rfl (hb hby n1d9_2)
  refine Wp.back (U' := (T1.setTop (mkF m 5 #[.val (.int (0 : Int32)), .val (.int (1 : Int32))] [rf, (.int (1 : Int32)), (.int (0 : Int32))]))) st1 ?_
  obtain ⟨_, _, ⟨T2, L2, k2, n2⟩, -, X2, ⟨Lc2, hQ2, l2, y2, z2⟩, st2⟩ := Jvm.LawKit.callS X1 hx (y := (⟨"jdk/internal/util/Preconditions", "checkIndex", "(IILjava/util/function/BiFunction;)I"⟩ : MethodName)) hown (mvT hZ (hw _ (List.mem_of_getElem? (i := 59) rfl))) (mvT hZ (hw _ (List.mem_of_getElem? (i := 60) rfl))) (mvT hZ (hw _ (List.mem_of_getElem? (i := 58) rfl))) (mvT hZ (hw _ (List.mem_of_getElem? (i := 61) rfl))) (by decide) (backOf (W := 0) (rm_pci1 l Z a0 hw [] rf  h0 n0 Z0 isr_rf) hZ (hw _ (List.mem_of_getElem? (i := 61) rfl)) (hw _ (List.mem_of_getElem? (i := 58) rfl)) (by decide) (by decide)) (g := (mkF m 5 #[.val (.int (0 : Int32)), .val (.int (1 : Int32))] [rf, (.int (1 : Int32)), (.int (0 : Int32))])) rfl (by rw [hml]; rfl) (argsL := [(.int (0 : Int32)), (.int (1 : Int32)), rf]) (rest := []) (lenOf n1pd9_0 rfl) rfl (by show 2 * 0 + _ ≤ _; exact Nat.le_of_eq rfl) (hb hby n1d9_5) (fun _ _ => ⟨rfl, e1, (by decide : 0 + 0 ≤ _), (by decide : 0 + 0 ≤ _)⟩)
  dsimp only [Pt.U, Pt.locs, Pt.cells, Pt.slots] at X2 l2 y2 z2 st2 hQ2
  subst l2 y2 z2
  obtain ⟨rfl, N2q, K2⟩ := hQ2
  have f3_0 := Nat.le_trans Z0 K2.1
  have f3_1 := Sta_keep0 H0 K2
  have f3_2 := (Keep.refl h0 []).trans K2 all0
  have N2 := Fr.app N0 N2q
  refine Wp.back (U' := (T2.setTop (mkF m 8 #[.val (.int (0 : Int32)), .val (.int (1 : Int32))] [(.int (0 : Int32))]))) st2 ?_
  refine Wp.back (U' := (T2.setTop (mkF m 9 #[.val (.int (0 : Int32)), .val (.int (1 : Int32))] []))) (fun t k => XS.pop X2.here hx rfl (hb hby n1d9_8) rfl rfl k) ?_
  obtain ⟨fs, hr, hrun, hended, hW, hsame⟩ := X2.leave (v := none) (fun _ => rfl)
  refine Wp.done (X2.returnOut hx hret (hb hby n1d9_9) hr) hrun hended ⟨_, _, rfl, ?_, ⟨_, rfl⟩, hW, hsame.mono (by decide) (by decide)⟩
  show Q_sci1 Z rf h0 n0 _ T2.heap _
  exact ⟨rfl, N2, f3_2⟩
def Q_lca1_60 (Z : State) (vb : Addr) (rf : Value) (kb : ClassId) (h0 : Heap) (n0 : Nat) (v : Option Value) (h : Heap) (L : List Loc) : Prop := v = some (.int (60 : Int32)) ∧ Fr n0 L ∧ Keep h0 h []
theorem n1_60d8_0 : decode jdk_43_method_2_code 0 = .ok (.iload_n 1, 1) := by decide +kernel
theorem n1_60d8_1 : decode jdk_43_method_2_code 1 = .ok (.aload_n 0, 1) := by decide +kernel
theorem n1_60d8_2 : decode jdk_43_method_2_code 2 = .ok (.arraylength, 1) := by decide +kernel
theorem n1_60d8_3 : decode jdk_43_method_2_code 3 = .ok (.invokestatic 9, 3) := by decide +kernel
theorem n1_60d8_6 : decode jdk_43_method_2_code 6 = .ok (.aload_n 0, 1) := by decide +kernel
theorem n1_60d8_7 : decode jdk_43_method_2_code 7 = .ok (.iload_n 1, 1) := by decide +kernel
theorem n1_60d8_8 : decode jdk_43_method_2_code 8 = .ok (.baload, 1) := by decide +kernel
theorem n1_60d8_9 : decode jdk_43_method_2_code 9 = .ok (.sipush 255, 3) := by decide +kernel
theorem n1_60d8_12 : decode jdk_43_method_2_code 12 = .ok (.iand, 1) := by decide +kernel
theorem n1_60d8_13 : decode jdk_43_method_2_code 13 = .ok (.i2c, 1) := by decide +kernel
theorem n1_60d8_14 : decode jdk_43_method_2_code 14 = .ok (.ireturn, 1) := by decide +kernel
theorem n1_60pd8_0 : parseMethodDescriptor "(II)V" = some ⟨[.int, .int], none⟩ := by decide +kernel
theorem n1_60pn8 : plainName "java/lang/StringLatin1" = true := by first | (simp [plainName, overriddenIn]; done) | decide +kernel
theorem n1_60ef8 (m : MethodId) (x0 : Addr) (x1 : Int32) : entryFrame m #[(.ref x0), (.int x1)] 2 = mkF m 0 #[.val (.ref x0), .val (.int x1)] [] := by first | (simp [entryFrame, mkF, argsToLocals, Value.category]; done) | rfl
set_option maxRecDepth 65536 in
set_option maxHeartbeats 40000000 in
theorem rm_lca1_60 (l : Launch) (Z : State) (a0 : Array Value) (hw : ∀ d ∈ tables_1, d.before a0 Z = true) (ws : List Jvm.Cond) (vb : Addr) (rf : Value) (kb : ClassId) (h0 : Heap) (n0 : Nat) (Z0 : n0 ≤ h0.size) (H0 : Arv Z h0 vb kb .byte (1 : Int32) [(.int (60 : Int32))] (.int (0 : Int32))) (H1 : Sta Z h0 "jdk/internal/util/Preconditions" "SIOOBE_FORMATTER" "Ljava/util/function/BiFunction;" rf) (isr_rf : rf.isRef = true) :
    MetFree l (⟨"java/lang/StringLatin1", "charAt", "([BI)C"⟩ : MethodName) (head1 (Jvm.Cond.code (⟨"java/lang/StringLatin1", "charAt", "([BI)C"⟩ : MethodName) jdk_43_method_2_code 2 (some .char) :: ws) ({ frames := 2, cells := 0, slots := 0, locals := 27 } : Room)) (fun a U => a = #[(.ref vb), (.int (0 : Int32))] ∧ Z.Warmed39 U.vm ∧ U.heap = h0) (fun _ _ _ _ _ => True) (fun _ U o U' => ∃ v L, o = .returned v ∧ Q_lca1_60 Z vb rf kb h0 n0 v U'.heap L ∧ FrameEnd U o U' L ({ frames := 2, cells := 0, slots := 0, locals := 27 } : Room).cells ({ frames := 2, cells := 0, slots := 0, locals := 27 } : Room).slots) := by
  refine MetFree.of_bodySF (plainFor_of_name n1_60pn8) hisR ?_
  intro p e s m args below meth c s₁ Bd hml0 hP hK
  obtain ⟨rfl, hZ, hh⟩ := hP
  have hx := Bd.exec
  have hby := Bd.bytes
  have hret := Bd.returns
  have hlk := Bd.notSynchronized
  have hml : c.maxLocals = 2 := hml0
  have hown : s.vm.findClass "java/lang/StringLatin1" = some m.cls := findClass_of_methodNamed Bd.named
  have hnm := (name_of_methodNamed Bd.named Bd.method).1
  have X0 : Stand p l e ({ frames := 2, cells := 0, slots := 0, locals := 27 } : Room) s m #[(.ref vb), (.int (0 : Int32))] below meth c s₁ [] 0 0 := Stand.of_body Bd
  have e0 : s₁.heap = h0 := by rw [← hh, Bd.state]; rfl
  have N0 := Fr.nil n0
  show Wp p e below (fun o s₂ => ∃ v L, o = .returned v ∧ Q_lca1_60 Z vb rf kb h0 n0 v s₂.heap L ∧ FrameEnd s o s₂ L ({ frames := 2, cells := 0, slots := 0, locals := 27 } : Room).cells ({ frames := 2, cells := 0, slots := 0, locals := 27 } : Room).slots) _
  refine Wp.back (U' := (s₁.setTop (mkF m 0 #[.val (.ref vb), .val (.int (0 : Int32))] []))) (fun t k => castTop (n1_60ef8 m vb (0 : Int32)) k) ?_
  refine Wp.back (U' := (s₁.setTop (mkF m 2 #[.val (.ref vb), .val (.int (0 : Int32))] [(.ref vb), (.int (0 : Int32))]))) (fun t k => XS.iloadN X0.here hx rfl (hb hby n1_60d8_0) rfl (XS.aloadN X0.here hx rfl (hb hby n1_60d8_1) rfl rfl k)) ?_
  have vq1 := H0
  obtain ⟨cl1, Ar1, -, qs1, qn1, -, -⟩ := vq1
  refine Wp.back (U' := (s₁.setTop (mkF m 3 #[.val (.ref vb), .val (.int (0 : Int32))] [(.int (1 : Int32)), (.int (0 : Int32))]))) (fun t k => X0.arraylength hx (by rw [e0]; exact Ar1.1) (State.isArrayOf_alike hZ.alike Ar1.2.1) (g := (mkF m 2 #[.val (.ref vb), .val (.int (0 : Int32))] [(.ref vb), (.int (0 : Int32))])) rfl rfl (hb hby n1_60d8_2) t (by rw [len_of qs1 qn1]; exact k)) ?_
  obtain ⟨_, _, ⟨T2, L2, k2, n2⟩, -, X2, ⟨Lc2, hQ2, l2, y2, z2⟩, st2⟩ := Jvm.LawKit.callS X0 hx (y := (⟨"java/lang/String", "checkIndex", "(II)V"⟩ : MethodName)) hown (mvT hZ (hw _ (List.mem_of_getElem? (i := 54) rfl))) (mvT hZ (hw _ (List.mem_of_getElem? (i := 55) rfl))) (mvT hZ (hw _ (List.mem_of_getElem? (i := 28) rfl))) (mvT hZ (hw _ (List.mem_of_getElem? (i := 56) rfl))) (by decide) (backOf (W := 0) (rm_sci1 l Z a0 hw []  rf h0 n0 Z0 H1 isr_rf) hZ (hw _ (List.mem_of_getElem? (i := 56) rfl)) (hw _ (List.mem_of_getElem? (i := 28) rfl)) (by decide) (by decide)) (g := (mkF m 3 #[.val (.ref vb), .val (.int (0 : Int32))] [(.int (1 : Int32)), (.int (0 : Int32))])) rfl (by rw [hml]; rfl) (argsL := [(.int (0 : Int32)), (.int (1 : Int32))]) (rest := []) (lenOf n1_60pd8_0 rfl) rfl (by show 2 * 0 + _ ≤ _; exact Nat.le_of_eq rfl) (hb hby n1_60d8_3) (fun _ _ => ⟨rfl, e0, (by decide : 0 + 0 ≤ _), (by decide : 0 + 0 ≤ _)⟩)
  dsimp only [Pt.U, Pt.locs, Pt.cells, Pt.slots] at X2 l2 y2 z2 st2 hQ2
  subst l2 y2 z2
  obtain ⟨rfl, N2q, K2⟩ := hQ2
  have f3_0 := Nat.le_trans Z0 K2.1
  have f3_1 := H0.keep K2 nin0
  have f3_2 := Sta_keep0 H1 K2
  have f3_3 := (Keep.refl h0 []).trans K2 all0
  have N2 := Fr.app N0 N2q
  refine Wp.back (U' := (T2.setTop (mkF m 6 #[.val (.ref vb), .val (.int (0 : Int32))] []))) st2 ?_
  refine Wp.back (U' := (T2.setTop (mkF m 8 #[.val (.ref vb), .val (.int (0 : Int32))] [(.int (0 : Int32)), (.ref vb)]))) (fun t k => XS.aloadN X2.here hx rfl (hb hby n1_60d8_6) rfl rfl (XS.iloadN X2.here hx rfl (hb hby n1_60d8_7) rfl k)) ?_
  have vq4 := f3_1
  obtain ⟨cl4, Ar4, qa4, qs4, qn4, qh4, qg4⟩ := vq4
  have hin4 : ¬ ((0 : Int32) < 0 ∨ cl4.slots.size ≤ ((0 : Int32)).toNatClampNeg) := inb_of qs4 ⟨by decide, by decide⟩
  have hat4 : cl4.slots[((0 : Int32)).toNatClampNeg]? = some (.int (60 : Int32)) := Has.at qh4 hin4 rfl
  refine Wp.back (U' := (T2.setTop (mkF m 9 #[.val (.ref vb), .val (.int (0 : Int32))] [(.int (60 : Int32))]))) (fun t k => X2.baloadBytes hx (j := (0 : Int32)) (v := (.int (60 : Int32))) Ar4.1 (State.isArrayOf_alike hZ.alike Ar4.2.1) Ar4.2.2 hin4 hat4 (g := (mkF m 8 #[.val (.ref vb), .val (.int (0 : Int32))] [(.int (0 : Int32)), (.ref vb)])) rfl rfl (hb hby n1_60d8_8) t k) ?_
  refine Wp.back (U' := (T2.setTop (mkF m 14 #[.val (.ref vb), .val (.int (0 : Int32))] [(.int (60 : Int32))]))) (fun t k => XT.sipushV X2.here hx rfl (255 : Int32) (hb hby n1_60d8_9) (by decide) (XS.iand X2.here hx rfl (hb hby n1_60d8_12) rfl (XS.i2c X2.here hx rfl (hb hby n1_60d8_13) rfl k))) ?_
  obtain ⟨fs, hr, hrun, hended, hW, hsame⟩ := X2.leave (v := (some (.int (60 : Int32)))) (fun h => by rw [hret] at h; cases h)
  refine Wp.done (retN X2 hx (t := .char) hret (by simp) (hb hby n1_60d8_14) hr) hrun hended ⟨_, _, rfl, ?_, ⟨_, rfl⟩, hW, hsame.mono (by decide) (by decide)⟩
  show Q_lca1_60 Z vb rf kb h0 n0 _ T2.heap _
  exact ⟨rfl, N2, f3_3⟩
def Q_ch1_60 (Z : State) (ar : Addr) (rf : Value) (cs : Int32) (vb : Addr) (kb : ClassId) (h0 : Heap) (n0 : Nat) (v : Option Value) (h : Heap) (L : List Loc) : Prop := v = some (.int (60 : Int32)) ∧ Fr n0 L ∧ Keep h0 h []
theorem n1_60d6_0 : decode jdk_42_method_56_code 0 = .ok (.aload_n 0, 1) := by decide +kernel
theorem n1_60d6_1 : decode jdk_42_method_56_code 1 = .ok (.invokevirtual 492, 3) := by decide +kernel
theorem n1_60d6_4 : decode jdk_42_method_56_code 4 = .ok (.ifCond .eq 12, 3) := by decide +kernel
theorem n1_60d6_7 : decode jdk_42_method_56_code 7 = .ok (.aload_n 0, 1) := by decide +kernel
theorem n1_60d6_8 : decode jdk_42_method_56_code 8 = .ok (.getfield 9, 3) := by decide +kernel
theorem n1_60d6_11 : decode jdk_42_method_56_code 11 = .ok (.iload_n 1, 1) := by decide +kernel
theorem n1_60d6_12 : decode jdk_42_method_56_code 12 = .ok (.invokestatic 495, 3) := by decide +kernel
theorem n1_60d6_15 : decode jdk_42_method_56_code 15 = .ok (.ireturn, 1) := by decide +kernel
theorem n1_60pd6_0 : parseMethodDescriptor "()Z" = some ⟨[], some .boolean⟩ := by decide +kernel
theorem n1_60pd6_1 : parseMethodDescriptor "([BI)C" = some ⟨[(.array .byte), .int], some .char⟩ := by decide +kernel
theorem n1_60pn6 : plainName "java/lang/String" = true := by first | (simp [plainName, overriddenIn]; done) | decide +kernel
theorem n1_60ef6 (m : MethodId) (x0 : Addr) (x1 : Int32) : entryFrame m #[(.ref x0), (.int x1)] 2 = mkF m 0 #[.val (.ref x0), .val (.int x1)] [] := by first | (simp [entryFrame, mkF, argsToLocals, Value.category]; done) | rfl
set_option maxRecDepth 65536 in
set_option maxHeartbeats 40000000 in
theorem rm_ch1_60 (l : Launch) (Z : State) (a0 : Array Value) (hw : ∀ d ∈ tables_1, d.before a0 Z = true) (ws : List Jvm.Cond) (ar : Addr) (rf : Value) (cs : Int32) (vb : Addr) (kb : ClassId) (h0 : Heap) (n0 : Nat) (Z0 : n0 ≤ h0.size) (H0 : Exa Z h0 ar "java/lang/String") (H1 : Fld Z h0 ar "java/lang/String" "value" "[B" (.ref vb)) (H2 : Fld Z h0 ar "java/lang/String" "coder" "B" (.int (0 : Int32))) (H3 : Arv Z h0 vb kb .byte (1 : Int32) [(.int (60 : Int32))] (.int (0 : Int32))) (H4 : Sta Z h0 "java/lang/String" "COMPACT_STRINGS" "Z" (.int cs)) (H5 : Sta Z h0 "jdk/internal/util/Preconditions" "SIOOBE_FORMATTER" "Ljava/util/function/BiFunction;" rf) (isr_rf : rf.isRef = true) (hcs : ¬ cs = (0 : Int32)) :
    MetFree l (⟨"java/lang/String", "charAt", "(I)C"⟩ : MethodName) (head1 (Jvm.Cond.code (⟨"java/lang/String", "charAt", "(I)C"⟩ : MethodName) jdk_42_method_56_code 2 (some .char) :: ws) ({ frames := 3, cells := 0, slots := 0, locals := 40 } : Room)) (fun a U => a = #[(.ref ar), (.int (0 : Int32))] ∧ Z.Warmed39 U.vm ∧ U.heap = h0) (fun _ _ _ _ _ => True) (fun _ U o U' => ∃ v L, o = .returned v ∧ Q_ch1_60 Z ar rf cs vb kb h0 n0 v U'.heap L ∧ FrameEnd U o U' L ({ frames := 3, cells := 0, slots := 0, locals := 40 } : Room).cells ({ frames := 3, cells := 0, slots := 0, locals := 40 } : Room).slots) := by
  refine MetFree.of_bodySF (plainFor_of_name n1_60pn6) hisR ?_
  intro p e s m args below meth c s₁ Bd hml0 hP hK
  obtain ⟨rfl, hZ, hh⟩ := hP
  have hx := Bd.exec
  have hby := Bd.bytes
  have hret := Bd.returns
  have hlk := Bd.notSynchronized
  have hml : c.maxLocals = 2 := hml0
  have hown : s.vm.findClass "java/lang/String" = some m.cls := findClass_of_methodNamed Bd.named
  have hnm := (name_of_methodNamed Bd.named Bd.method).1
  have X0 : Stand p l e ({ frames := 3, cells := 0, slots := 0, locals := 40 } : Room) s m #[(.ref ar), (.int (0 : Int32))] below meth c s₁ [] 0 0 := Stand.of_body Bd
  have e0 : s₁.heap = h0 := by rw [← hh, Bd.state]; rfl
  have N0 := Fr.nil n0
  show Wp p e below (fun o s₂ => ∃ v L, o = .returned v ∧ Q_ch1_60 Z ar rf cs vb kb h0 n0 v s₂.heap L ∧ FrameEnd s o s₂ L ({ frames := 3, cells := 0, slots := 0, locals := 40 } : Room).cells ({ frames := 3, cells := 0, slots := 0, locals := 40 } : Room).slots) _
  refine Wp.back (U' := (s₁.setTop (mkF m 0 #[.val (.ref ar), .val (.int (0 : Int32))] []))) (fun t k => castTop (n1_60ef6 m ar (0 : Int32)) k) ?_
  refine Wp.back (U' := (s₁.setTop (mkF m 1 #[.val (.ref ar), .val (.int (0 : Int32))] [(.ref ar)]))) (fun t k => XS.aloadN X0.here hx rfl (hb hby n1_60d6_0) rfl rfl k) ?_
  obtain ⟨cq1, kq1, q1a, q1b, q1c⟩ := isOf hZ e0 H0
  obtain ⟨_, _, ⟨T1, L1, k1, n1⟩, -, X1, ⟨Lc1, hQ1, l1, y1, z1⟩, st1⟩ := X0.virtualBack hx (y := (⟨"java/lang/String", "isLatin1", "()Z"⟩ : MethodName)) (z := (⟨"java/lang/String", "isLatin1", "()Z"⟩ : MethodName)) hown (mvT hZ (hw _ (List.mem_of_getElem? (i := 45) rfl))) (mvT hZ (hw _ (List.mem_of_getElem? (i := 46) rfl))) (notFace_of_selects (args := #[]) (mvT hZ (hw _ (List.mem_of_getElem? (i := 48) rfl)))) (mvT hZ (hw _ (List.mem_of_getElem? (i := 48) rfl))) (mvT hZ (hw _ (List.mem_of_getElem? (i := 47) rfl))) (by decide) (backOf (W := 0) (rm_isLatin1 l Z a0 hw [] ar cs h0 n0 Z0 H4 H2 hcs) hZ (hw _ (List.mem_of_getElem? (i := 49) rfl)) (hw _ (List.mem_of_getElem? (i := 28) rfl)) (by decide) (by decide)) q1a q1c (g := (mkF m 1 #[.val (.ref ar), .val (.int (0 : Int32))] [(.ref ar)])) rfl (by rw [hml]; rfl) (Steps.refl _) (argsL := []) (rest := []) (lenOf n1_60pd6_0 rfl) rfl (by show 2 * 0 + _ ≤ _; exact Nat.le_of_eq rfl) (hb hby n1_60d6_1) (fun _ _ => ⟨rfl, e0, (by decide : 0 + 0 ≤ _), (by decide : 0 + 0 ≤ _)⟩)
  dsimp only [Pt.U, Pt.locs, Pt.cells, Pt.slots] at X1 l1 y1 z1 st1 hQ1
  subst l1 y1 z1
  obtain ⟨rfl, N1q, K1⟩ := hQ1
  have f2_0 := Nat.le_trans Z0 K1.1
  have f2_1 := H0.keep K1
  have f2_2 := H1.keep K1 nin0
  have f2_3 := H2.keep K1 nin0
  have f2_4 := H3.keep K1 nin0
  have f2_5 := Sta_keep0 H4 K1
  have f2_6 := Sta_keep0 H5 K1
  have f2_7 := (Keep.refl h0 []).trans K1 all0
  have N1 := Fr.app N0 N1q
  refine Wp.back (U' := (T1.setTop (mkF m 4 #[.val (.ref ar), .val (.int (0 : Int32))] [(.int (1 : Int32))]))) (fun t k => st1.trans k) ?_
  refine Wp.back (U' := (T1.setTop (mkF m 8 #[.val (.ref ar), .val (.int (0 : Int32))] [(.ref ar)]))) (fun t k => XS.ifNo X1.here hx rfl (hb hby n1_60d6_4) rfl ((if0 _ _).trans (feq (by decide)).1) (XS.aloadN X1.here hx rfl (hb hby n1_60d6_7) rfl rfl k)) ?_
  obtain ⟨T3, X3, e3, st3⟩ := getF X1 hx hZ hown (host := "") (Or.inl (hw _ (List.mem_of_getElem? (i := 30) rfl))) Via.refl rfl f2_2 (g := (mkF m 8 #[.val (.ref ar), .val (.int (0 : Int32))] [(.ref ar)])) rfl rfl (hb hby n1_60d6_8)
  refine Wp.back (U' := (T3.setTop (mkF m 11 #[.val (.ref ar), .val (.int (0 : Int32))] [(.ref vb)]))) st3 ?_
  refine Wp.back (U' := (T3.setTop (mkF m 12 #[.val (.ref ar), .val (.int (0 : Int32))] [(.int (0 : Int32)), (.ref vb)]))) (fun t k => XS.iloadN X3.here hx rfl (hb hby n1_60d6_11) rfl k) ?_
  obtain ⟨_, _, ⟨T4, L4, k4, n4⟩, -, X4, ⟨Lc4, hQ4, l4, y4, z4⟩, st4⟩ := Jvm.LawKit.callS X3 hx (y := (⟨"java/lang/StringLatin1", "charAt", "([BI)C"⟩ : MethodName)) hown (mvT hZ (hw _ (List.mem_of_getElem? (i := 50) rfl))) (mvT hZ (hw _ (List.mem_of_getElem? (i := 51) rfl))) (mvT hZ (hw _ (List.mem_of_getElem? (i := 52) rfl))) (mvT hZ (hw _ (List.mem_of_getElem? (i := 53) rfl))) (by decide) (backOf (W := 0) (rm_lca1_60 l Z a0 hw [] vb rf kb T1.heap n0 f2_0 f2_4 f2_6 isr_rf) hZ (hw _ (List.mem_of_getElem? (i := 53) rfl)) (hw _ (List.mem_of_getElem? (i := 52) rfl)) (by decide) (by decide)) (g := (mkF m 12 #[.val (.ref ar), .val (.int (0 : Int32))] [(.int (0 : Int32)), (.ref vb)])) rfl (by rw [hml]; rfl) (argsL := [(.ref vb), (.int (0 : Int32))]) (rest := []) (lenOf n1_60pd6_1 rfl) rfl (by show 2 * 0 + _ ≤ _; exact Nat.le_of_eq rfl) (hb hby n1_60d6_12) (fun _ _ => ⟨rfl, e3, (by decide : 0 + 0 ≤ _), (by decide : 0 + 0 ≤ _)⟩)
  dsimp only [Pt.U, Pt.locs, Pt.cells, Pt.slots] at X4 l4 y4 z4 st4 hQ4
  subst l4 y4 z4
  obtain ⟨rfl, N4q, K4⟩ := hQ4
  have f5_0 := Nat.le_trans f2_0 K4.1
  have f5_1 := f2_1.keep K4
  have f5_2 := f2_2.keep K4 nin0
  have f5_3 := f2_3.keep K4 nin0
  have f5_4 := f2_4.keep K4 nin0
  have f5_5 := Sta_keep0 f2_5 K4
  have f5_6 := Sta_keep0 f2_6 K4
  have f5_7 := f2_7.trans K4 all0
  have N4 := Fr.app N1 N4q
  refine Wp.back (U' := (T4.setTop (mkF m 15 #[.val (.ref ar), .val (.int (0 : Int32))] [(.int (60 : Int32))]))) st4 ?_
  obtain ⟨fs, hr, hrun, hended, hW, hsame⟩ := X4.leave (v := (some (.int (60 : Int32)))) (fun h => by rw [hret] at h; cases h)
  refine Wp.done (retN X4 hx (t := .char) hret (by simp) (hb hby n1_60d6_15) hr) hrun hended ⟨_, _, rfl, ?_, ⟨_, rfl⟩, hW, hsame.mono (by decide) (by decide)⟩
  show Q_ch1_60 Z ar rf cs vb kb h0 n0 _ T4.heap _
  exact ⟨rfl, N4, f5_7⟩
def Q_lca1_61 (Z : State) (vb : Addr) (rf : Value) (kb : ClassId) (h0 : Heap) (n0 : Nat) (v : Option Value) (h : Heap) (L : List Loc) : Prop := v = some (.int (61 : Int32)) ∧ Fr n0 L ∧ Keep h0 h []
theorem n1_61d8_0 : decode jdk_43_method_2_code 0 = .ok (.iload_n 1, 1) := by decide +kernel
theorem n1_61d8_1 : decode jdk_43_method_2_code 1 = .ok (.aload_n 0, 1) := by decide +kernel
theorem n1_61d8_2 : decode jdk_43_method_2_code 2 = .ok (.arraylength, 1) := by decide +kernel
theorem n1_61d8_3 : decode jdk_43_method_2_code 3 = .ok (.invokestatic 9, 3) := by decide +kernel
theorem n1_61d8_6 : decode jdk_43_method_2_code 6 = .ok (.aload_n 0, 1) := by decide +kernel
theorem n1_61d8_7 : decode jdk_43_method_2_code 7 = .ok (.iload_n 1, 1) := by decide +kernel
theorem n1_61d8_8 : decode jdk_43_method_2_code 8 = .ok (.baload, 1) := by decide +kernel
theorem n1_61d8_9 : decode jdk_43_method_2_code 9 = .ok (.sipush 255, 3) := by decide +kernel
theorem n1_61d8_12 : decode jdk_43_method_2_code 12 = .ok (.iand, 1) := by decide +kernel
theorem n1_61d8_13 : decode jdk_43_method_2_code 13 = .ok (.i2c, 1) := by decide +kernel
theorem n1_61d8_14 : decode jdk_43_method_2_code 14 = .ok (.ireturn, 1) := by decide +kernel
theorem n1_61pd8_0 : parseMethodDescriptor "(II)V" = some ⟨[.int, .int], none⟩ := by decide +kernel
theorem n1_61pn8 : plainName "java/lang/StringLatin1" = true := by first | (simp [plainName, overriddenIn]; done) | decide +kernel
theorem n1_61ef8 (m : MethodId) (x0 : Addr) (x1 : Int32) : entryFrame m #[(.ref x0), (.int x1)] 2 = mkF m 0 #[.val (.ref x0), .val (.int x1)] [] := by first | (simp [entryFrame, mkF, argsToLocals, Value.category]; done) | rfl
set_option maxRecDepth 65536 in
set_option maxHeartbeats 40000000 in
theorem rm_lca1_61 (l : Launch) (Z : State) (a0 : Array Value) (hw : ∀ d ∈ tables_1, d.before a0 Z = true) (ws : List Jvm.Cond) (vb : Addr) (rf : Value) (kb : ClassId) (h0 : Heap) (n0 : Nat) (Z0 : n0 ≤ h0.size) (H0 : Arv Z h0 vb kb .byte (1 : Int32) [(.int (61 : Int32))] (.int (0 : Int32))) (H1 : Sta Z h0 "jdk/internal/util/Preconditions" "SIOOBE_FORMATTER" "Ljava/util/function/BiFunction;" rf) (isr_rf : rf.isRef = true) :
    MetFree l (⟨"java/lang/StringLatin1", "charAt", "([BI)C"⟩ : MethodName) (head1 (Jvm.Cond.code (⟨"java/lang/StringLatin1", "charAt", "([BI)C"⟩ : MethodName) jdk_43_method_2_code 2 (some .char) :: ws) ({ frames := 2, cells := 0, slots := 0, locals := 27 } : Room)) (fun a U => a = #[(.ref vb), (.int (0 : Int32))] ∧ Z.Warmed39 U.vm ∧ U.heap = h0) (fun _ _ _ _ _ => True) (fun _ U o U' => ∃ v L, o = .returned v ∧ Q_lca1_61 Z vb rf kb h0 n0 v U'.heap L ∧ FrameEnd U o U' L ({ frames := 2, cells := 0, slots := 0, locals := 27 } : Room).cells ({ frames := 2, cells := 0, slots := 0, locals := 27 } : Room).slots) := by
  refine MetFree.of_bodySF (plainFor_of_name n1_61pn8) hisR ?_
  intro p e s m args below meth c s₁ Bd hml0 hP hK
  obtain ⟨rfl, hZ, hh⟩ := hP
  have hx := Bd.exec
  have hby := Bd.bytes
  have hret := Bd.returns
  have hlk := Bd.notSynchronized
  have hml : c.maxLocals = 2 := hml0
  have hown : s.vm.findClass "java/lang/StringLatin1" = some m.cls := findClass_of_methodNamed Bd.named
  have hnm := (name_of_methodNamed Bd.named Bd.method).1
  have X0 : Stand p l e ({ frames := 2, cells := 0, slots := 0, locals := 27 } : Room) s m #[(.ref vb), (.int (0 : Int32))] below meth c s₁ [] 0 0 := Stand.of_body Bd
  have e0 : s₁.heap = h0 := by rw [← hh, Bd.state]; rfl
  have N0 := Fr.nil n0
  show Wp p e below (fun o s₂ => ∃ v L, o = .returned v ∧ Q_lca1_61 Z vb rf kb h0 n0 v s₂.heap L ∧ FrameEnd s o s₂ L ({ frames := 2, cells := 0, slots := 0, locals := 27 } : Room).cells ({ frames := 2, cells := 0, slots := 0, locals := 27 } : Room).slots) _
  refine Wp.back (U' := (s₁.setTop (mkF m 0 #[.val (.ref vb), .val (.int (0 : Int32))] []))) (fun t k => castTop (n1_61ef8 m vb (0 : Int32)) k) ?_
  refine Wp.back (U' := (s₁.setTop (mkF m 2 #[.val (.ref vb), .val (.int (0 : Int32))] [(.ref vb), (.int (0 : Int32))]))) (fun t k => XS.iloadN X0.here hx rfl (hb hby n1_61d8_0) rfl (XS.aloadN X0.here hx rfl (hb hby n1_61d8_1) rfl rfl k)) ?_
  have vq1 := H0
  obtain ⟨cl1, Ar1, -, qs1, qn1, -, -⟩ := vq1
  refine Wp.back (U' := (s₁.setTop (mkF m 3 #[.val (.ref vb), .val (.int (0 : Int32))] [(.int (1 : Int32)), (.int (0 : Int32))]))) (fun t k => X0.arraylength hx (by rw [e0]; exact Ar1.1) (State.isArrayOf_alike hZ.alike Ar1.2.1) (g := (mkF m 2 #[.val (.ref vb), .val (.int (0 : Int32))] [(.ref vb), (.int (0 : Int32))])) rfl rfl (hb hby n1_61d8_2) t (by rw [len_of qs1 qn1]; exact k)) ?_
  obtain ⟨_, _, ⟨T2, L2, k2, n2⟩, -, X2, ⟨Lc2, hQ2, l2, y2, z2⟩, st2⟩ := Jvm.LawKit.callS X0 hx (y := (⟨"java/lang/String", "checkIndex", "(II)V"⟩ : MethodName)) hown (mvT hZ (hw _ (List.mem_of_getElem? (i := 54) rfl))) (mvT hZ (hw _ (List.mem_of_getElem? (i := 55) rfl))) (mvT hZ (hw _ (List.mem_of_getElem? (i := 28) rfl))) (mvT hZ (hw _ (List.mem_of_getElem? (i := 56) rfl))) (by decide) (backOf (W := 0) (rm_sci1 l Z a0 hw []  rf h0 n0 Z0 H1 isr_rf) hZ (hw _ (List.mem_of_getElem? (i := 56) rfl)) (hw _ (List.mem_of_getElem? (i := 28) rfl)) (by decide) (by decide)) (g := (mkF m 3 #[.val (.ref vb), .val (.int (0 : Int32))] [(.int (1 : Int32)), (.int (0 : Int32))])) rfl (by rw [hml]; rfl) (argsL := [(.int (0 : Int32)), (.int (1 : Int32))]) (rest := []) (lenOf n1_61pd8_0 rfl) rfl (by show 2 * 0 + _ ≤ _; exact Nat.le_of_eq rfl) (hb hby n1_61d8_3) (fun _ _ => ⟨rfl, e0, (by decide : 0 + 0 ≤ _), (by decide : 0 + 0 ≤ _)⟩)
  dsimp only [Pt.U, Pt.locs, Pt.cells, Pt.slots] at X2 l2 y2 z2 st2 hQ2
  subst l2 y2 z2
  obtain ⟨rfl, N2q, K2⟩ := hQ2
  have f3_0 := Nat.le_trans Z0 K2.1
  have f3_1 := H0.keep K2 nin0
  have f3_2 := Sta_keep0 H1 K2
  have f3_3 := (Keep.refl h0 []).trans K2 all0
  have N2 := Fr.app N0 N2q
  refine Wp.back (U' := (T2.setTop (mkF m 6 #[.val (.ref vb), .val (.int (0 : Int32))] []))) st2 ?_
  refine Wp.back (U' := (T2.setTop (mkF m 8 #[.val (.ref vb), .val (.int (0 : Int32))] [(.int (0 : Int32)), (.ref vb)]))) (fun t k => XS.aloadN X2.here hx rfl (hb hby n1_61d8_6) rfl rfl (XS.iloadN X2.here hx rfl (hb hby n1_61d8_7) rfl k)) ?_
  have vq4 := f3_1
  obtain ⟨cl4, Ar4, qa4, qs4, qn4, qh4, qg4⟩ := vq4
  have hin4 : ¬ ((0 : Int32) < 0 ∨ cl4.slots.size ≤ ((0 : Int32)).toNatClampNeg) := inb_of qs4 ⟨by decide, by decide⟩
  have hat4 : cl4.slots[((0 : Int32)).toNatClampNeg]? = some (.int (61 : Int32)) := Has.at qh4 hin4 rfl
  refine Wp.back (U' := (T2.setTop (mkF m 9 #[.val (.ref vb), .val (.int (0 : Int32))] [(.int (61 : Int32))]))) (fun t k => X2.baloadBytes hx (j := (0 : Int32)) (v := (.int (61 : Int32))) Ar4.1 (State.isArrayOf_alike hZ.alike Ar4.2.1) Ar4.2.2 hin4 hat4 (g := (mkF m 8 #[.val (.ref vb), .val (.int (0 : Int32))] [(.int (0 : Int32)), (.ref vb)])) rfl rfl (hb hby n1_61d8_8) t k) ?_
  refine Wp.back (U' := (T2.setTop (mkF m 14 #[.val (.ref vb), .val (.int (0 : Int32))] [(.int (61 : Int32))]))) (fun t k => XT.sipushV X2.here hx rfl (255 : Int32) (hb hby n1_61d8_9) (by decide) (XS.iand X2.here hx rfl (hb hby n1_61d8_12) rfl (XS.i2c X2.here hx rfl (hb hby n1_61d8_13) rfl k))) ?_
  obtain ⟨fs, hr, hrun, hended, hW, hsame⟩ := X2.leave (v := (some (.int (61 : Int32)))) (fun h => by rw [hret] at h; cases h)
  refine Wp.done (retN X2 hx (t := .char) hret (by simp) (hb hby n1_61d8_14) hr) hrun hended ⟨_, _, rfl, ?_, ⟨_, rfl⟩, hW, hsame.mono (by decide) (by decide)⟩
  show Q_lca1_61 Z vb rf kb h0 n0 _ T2.heap _
  exact ⟨rfl, N2, f3_3⟩
def Q_ch1_61 (Z : State) (ar : Addr) (rf : Value) (cs : Int32) (vb : Addr) (kb : ClassId) (h0 : Heap) (n0 : Nat) (v : Option Value) (h : Heap) (L : List Loc) : Prop := v = some (.int (61 : Int32)) ∧ Fr n0 L ∧ Keep h0 h []
theorem n1_61d6_0 : decode jdk_42_method_56_code 0 = .ok (.aload_n 0, 1) := by decide +kernel
theorem n1_61d6_1 : decode jdk_42_method_56_code 1 = .ok (.invokevirtual 492, 3) := by decide +kernel
theorem n1_61d6_4 : decode jdk_42_method_56_code 4 = .ok (.ifCond .eq 12, 3) := by decide +kernel
theorem n1_61d6_7 : decode jdk_42_method_56_code 7 = .ok (.aload_n 0, 1) := by decide +kernel
theorem n1_61d6_8 : decode jdk_42_method_56_code 8 = .ok (.getfield 9, 3) := by decide +kernel
theorem n1_61d6_11 : decode jdk_42_method_56_code 11 = .ok (.iload_n 1, 1) := by decide +kernel
theorem n1_61d6_12 : decode jdk_42_method_56_code 12 = .ok (.invokestatic 495, 3) := by decide +kernel
theorem n1_61d6_15 : decode jdk_42_method_56_code 15 = .ok (.ireturn, 1) := by decide +kernel
theorem n1_61pd6_0 : parseMethodDescriptor "()Z" = some ⟨[], some .boolean⟩ := by decide +kernel
theorem n1_61pd6_1 : parseMethodDescriptor "([BI)C" = some ⟨[(.array .byte), .int], some .char⟩ := by decide +kernel
theorem n1_61pn6 : plainName "java/lang/String" = true := by first | (simp [plainName, overriddenIn]; done) | decide +kernel
theorem n1_61ef6 (m : MethodId) (x0 : Addr) (x1 : Int32) : entryFrame m #[(.ref x0), (.int x1)] 2 = mkF m 0 #[.val (.ref x0), .val (.int x1)] [] := by first | (simp [entryFrame, mkF, argsToLocals, Value.category]; done) | rfl
set_option maxRecDepth 65536 in
set_option maxHeartbeats 40000000 in
theorem rm_ch1_61 (l : Launch) (Z : State) (a0 : Array Value) (hw : ∀ d ∈ tables_1, d.before a0 Z = true) (ws : List Jvm.Cond) (ar : Addr) (rf : Value) (cs : Int32) (vb : Addr) (kb : ClassId) (h0 : Heap) (n0 : Nat) (Z0 : n0 ≤ h0.size) (H0 : Exa Z h0 ar "java/lang/String") (H1 : Fld Z h0 ar "java/lang/String" "value" "[B" (.ref vb)) (H2 : Fld Z h0 ar "java/lang/String" "coder" "B" (.int (0 : Int32))) (H3 : Arv Z h0 vb kb .byte (1 : Int32) [(.int (61 : Int32))] (.int (0 : Int32))) (H4 : Sta Z h0 "java/lang/String" "COMPACT_STRINGS" "Z" (.int cs)) (H5 : Sta Z h0 "jdk/internal/util/Preconditions" "SIOOBE_FORMATTER" "Ljava/util/function/BiFunction;" rf) (isr_rf : rf.isRef = true) (hcs : ¬ cs = (0 : Int32)) :
    MetFree l (⟨"java/lang/String", "charAt", "(I)C"⟩ : MethodName) (head1 (Jvm.Cond.code (⟨"java/lang/String", "charAt", "(I)C"⟩ : MethodName) jdk_42_method_56_code 2 (some .char) :: ws) ({ frames := 3, cells := 0, slots := 0, locals := 40 } : Room)) (fun a U => a = #[(.ref ar), (.int (0 : Int32))] ∧ Z.Warmed39 U.vm ∧ U.heap = h0) (fun _ _ _ _ _ => True) (fun _ U o U' => ∃ v L, o = .returned v ∧ Q_ch1_61 Z ar rf cs vb kb h0 n0 v U'.heap L ∧ FrameEnd U o U' L ({ frames := 3, cells := 0, slots := 0, locals := 40 } : Room).cells ({ frames := 3, cells := 0, slots := 0, locals := 40 } : Room).slots) := by
  refine MetFree.of_bodySF (plainFor_of_name n1_61pn6) hisR ?_
  intro p e s m args below meth c s₁ Bd hml0 hP hK
  obtain ⟨rfl, hZ, hh⟩ := hP
  have hx := Bd.exec
  have hby := Bd.bytes
  have hret := Bd.returns
  have hlk := Bd.notSynchronized
  have hml : c.maxLocals = 2 := hml0
  have hown : s.vm.findClass "java/lang/String" = some m.cls := findClass_of_methodNamed Bd.named
  have hnm := (name_of_methodNamed Bd.named Bd.method).1
  have X0 : Stand p l e ({ frames := 3, cells := 0, slots := 0, locals := 40 } : Room) s m #[(.ref ar), (.int (0 : Int32))] below meth c s₁ [] 0 0 := Stand.of_body Bd
  have e0 : s₁.heap = h0 := by rw [← hh, Bd.state]; rfl
  have N0 := Fr.nil n0
  show Wp p e below (fun o s₂ => ∃ v L, o = .returned v ∧ Q_ch1_61 Z ar rf cs vb kb h0 n0 v s₂.heap L ∧ FrameEnd s o s₂ L ({ frames := 3, cells := 0, slots := 0, locals := 40 } : Room).cells ({ frames := 3, cells := 0, slots := 0, locals := 40 } : Room).slots) _
  refine Wp.back (U' := (s₁.setTop (mkF m 0 #[.val (.ref ar), .val (.int (0 : Int32))] []))) (fun t k => castTop (n1_61ef6 m ar (0 : Int32)) k) ?_
  refine Wp.back (U' := (s₁.setTop (mkF m 1 #[.val (.ref ar), .val (.int (0 : Int32))] [(.ref ar)]))) (fun t k => XS.aloadN X0.here hx rfl (hb hby n1_61d6_0) rfl rfl k) ?_
  obtain ⟨cq1, kq1, q1a, q1b, q1c⟩ := isOf hZ e0 H0
  obtain ⟨_, _, ⟨T1, L1, k1, n1⟩, -, X1, ⟨Lc1, hQ1, l1, y1, z1⟩, st1⟩ := X0.virtualBack hx (y := (⟨"java/lang/String", "isLatin1", "()Z"⟩ : MethodName)) (z := (⟨"java/lang/String", "isLatin1", "()Z"⟩ : MethodName)) hown (mvT hZ (hw _ (List.mem_of_getElem? (i := 45) rfl))) (mvT hZ (hw _ (List.mem_of_getElem? (i := 46) rfl))) (notFace_of_selects (args := #[]) (mvT hZ (hw _ (List.mem_of_getElem? (i := 48) rfl)))) (mvT hZ (hw _ (List.mem_of_getElem? (i := 48) rfl))) (mvT hZ (hw _ (List.mem_of_getElem? (i := 47) rfl))) (by decide) (backOf (W := 0) (rm_isLatin1 l Z a0 hw [] ar cs h0 n0 Z0 H4 H2 hcs) hZ (hw _ (List.mem_of_getElem? (i := 49) rfl)) (hw _ (List.mem_of_getElem? (i := 28) rfl)) (by decide) (by decide)) q1a q1c (g := (mkF m 1 #[.val (.ref ar), .val (.int (0 : Int32))] [(.ref ar)])) rfl (by rw [hml]; rfl) (Steps.refl _) (argsL := []) (rest := []) (lenOf n1_61pd6_0 rfl) rfl (by show 2 * 0 + _ ≤ _; exact Nat.le_of_eq rfl) (hb hby n1_61d6_1) (fun _ _ => ⟨rfl, e0, (by decide : 0 + 0 ≤ _), (by decide : 0 + 0 ≤ _)⟩)
  dsimp only [Pt.U, Pt.locs, Pt.cells, Pt.slots] at X1 l1 y1 z1 st1 hQ1
  subst l1 y1 z1
  obtain ⟨rfl, N1q, K1⟩ := hQ1
  have f2_0 := Nat.le_trans Z0 K1.1
  have f2_1 := H0.keep K1
  have f2_2 := H1.keep K1 nin0
  have f2_3 := H2.keep K1 nin0
  have f2_4 := H3.keep K1 nin0
  have f2_5 := Sta_keep0 H4 K1
  have f2_6 := Sta_keep0 H5 K1
  have f2_7 := (Keep.refl h0 []).trans K1 all0
  have N1 := Fr.app N0 N1q
  refine Wp.back (U' := (T1.setTop (mkF m 4 #[.val (.ref ar), .val (.int (0 : Int32))] [(.int (1 : Int32))]))) (fun t k => st1.trans k) ?_
  refine Wp.back (U' := (T1.setTop (mkF m 8 #[.val (.ref ar), .val (.int (0 : Int32))] [(.ref ar)]))) (fun t k => XS.ifNo X1.here hx rfl (hb hby n1_61d6_4) rfl ((if0 _ _).trans (feq (by decide)).1) (XS.aloadN X1.here hx rfl (hb hby n1_61d6_7) rfl rfl k)) ?_
  obtain ⟨T3, X3, e3, st3⟩ := getF X1 hx hZ hown (host := "") (Or.inl (hw _ (List.mem_of_getElem? (i := 30) rfl))) Via.refl rfl f2_2 (g := (mkF m 8 #[.val (.ref ar), .val (.int (0 : Int32))] [(.ref ar)])) rfl rfl (hb hby n1_61d6_8)
  refine Wp.back (U' := (T3.setTop (mkF m 11 #[.val (.ref ar), .val (.int (0 : Int32))] [(.ref vb)]))) st3 ?_
  refine Wp.back (U' := (T3.setTop (mkF m 12 #[.val (.ref ar), .val (.int (0 : Int32))] [(.int (0 : Int32)), (.ref vb)]))) (fun t k => XS.iloadN X3.here hx rfl (hb hby n1_61d6_11) rfl k) ?_
  obtain ⟨_, _, ⟨T4, L4, k4, n4⟩, -, X4, ⟨Lc4, hQ4, l4, y4, z4⟩, st4⟩ := Jvm.LawKit.callS X3 hx (y := (⟨"java/lang/StringLatin1", "charAt", "([BI)C"⟩ : MethodName)) hown (mvT hZ (hw _ (List.mem_of_getElem? (i := 50) rfl))) (mvT hZ (hw _ (List.mem_of_getElem? (i := 51) rfl))) (mvT hZ (hw _ (List.mem_of_getElem? (i := 52) rfl))) (mvT hZ (hw _ (List.mem_of_getElem? (i := 53) rfl))) (by decide) (backOf (W := 0) (rm_lca1_61 l Z a0 hw [] vb rf kb T1.heap n0 f2_0 f2_4 f2_6 isr_rf) hZ (hw _ (List.mem_of_getElem? (i := 53) rfl)) (hw _ (List.mem_of_getElem? (i := 52) rfl)) (by decide) (by decide)) (g := (mkF m 12 #[.val (.ref ar), .val (.int (0 : Int32))] [(.int (0 : Int32)), (.ref vb)])) rfl (by rw [hml]; rfl) (argsL := [(.ref vb), (.int (0 : Int32))]) (rest := []) (lenOf n1_61pd6_1 rfl) rfl (by show 2 * 0 + _ ≤ _; exact Nat.le_of_eq rfl) (hb hby n1_61d6_12) (fun _ _ => ⟨rfl, e3, (by decide : 0 + 0 ≤ _), (by decide : 0 + 0 ≤ _)⟩)
  dsimp only [Pt.U, Pt.locs, Pt.cells, Pt.slots] at X4 l4 y4 z4 st4 hQ4
  subst l4 y4 z4
  obtain ⟨rfl, N4q, K4⟩ := hQ4
  have f5_0 := Nat.le_trans f2_0 K4.1
  have f5_1 := f2_1.keep K4
  have f5_2 := f2_2.keep K4 nin0
  have f5_3 := f2_3.keep K4 nin0
  have f5_4 := f2_4.keep K4 nin0
  have f5_5 := Sta_keep0 f2_5 K4
  have f5_6 := Sta_keep0 f2_6 K4
  have f5_7 := f2_7.trans K4 all0
  have N4 := Fr.app N1 N4q
  refine Wp.back (U' := (T4.setTop (mkF m 15 #[.val (.ref ar), .val (.int (0 : Int32))] [(.int (61 : Int32))]))) st4 ?_
  obtain ⟨fs, hr, hrun, hended, hW, hsame⟩ := X4.leave (v := (some (.int (61 : Int32)))) (fun h => by rw [hret] at h; cases h)
  refine Wp.done (retN X4 hx (t := .char) hret (by simp) (hb hby n1_61d6_15) hr) hrun hended ⟨_, _, rfl, ?_, ⟨_, rfl⟩, hW, hsame.mono (by decide) (by decide)⟩
  show Q_ch1_61 Z ar rf cs vb kb h0 n0 _ T4.heap _
  exact ⟨rfl, N4, f5_7⟩
def Q_lca1_62 (Z : State) (vb : Addr) (rf : Value) (kb : ClassId) (h0 : Heap) (n0 : Nat) (v : Option Value) (h : Heap) (L : List Loc) : Prop := v = some (.int (62 : Int32)) ∧ Fr n0 L ∧ Keep h0 h []
theorem n1_62d8_0 : decode jdk_43_method_2_code 0 = .ok (.iload_n 1, 1) := by decide +kernel
theorem n1_62d8_1 : decode jdk_43_method_2_code 1 = .ok (.aload_n 0, 1) := by decide +kernel
theorem n1_62d8_2 : decode jdk_43_method_2_code 2 = .ok (.arraylength, 1) := by decide +kernel
theorem n1_62d8_3 : decode jdk_43_method_2_code 3 = .ok (.invokestatic 9, 3) := by decide +kernel
theorem n1_62d8_6 : decode jdk_43_method_2_code 6 = .ok (.aload_n 0, 1) := by decide +kernel
theorem n1_62d8_7 : decode jdk_43_method_2_code 7 = .ok (.iload_n 1, 1) := by decide +kernel
theorem n1_62d8_8 : decode jdk_43_method_2_code 8 = .ok (.baload, 1) := by decide +kernel
theorem n1_62d8_9 : decode jdk_43_method_2_code 9 = .ok (.sipush 255, 3) := by decide +kernel
theorem n1_62d8_12 : decode jdk_43_method_2_code 12 = .ok (.iand, 1) := by decide +kernel
theorem n1_62d8_13 : decode jdk_43_method_2_code 13 = .ok (.i2c, 1) := by decide +kernel
theorem n1_62d8_14 : decode jdk_43_method_2_code 14 = .ok (.ireturn, 1) := by decide +kernel
theorem n1_62pd8_0 : parseMethodDescriptor "(II)V" = some ⟨[.int, .int], none⟩ := by decide +kernel
theorem n1_62pn8 : plainName "java/lang/StringLatin1" = true := by first | (simp [plainName, overriddenIn]; done) | decide +kernel
theorem n1_62ef8 (m : MethodId) (x0 : Addr) (x1 : Int32) : entryFrame m #[(.ref x0), (.int x1)] 2 = mkF m 0 #[.val (.ref x0), .val (.int x1)] [] := by first | (simp [entryFrame, mkF, argsToLocals, Value.category]; done) | rfl
set_option maxRecDepth 65536 in
set_option maxHeartbeats 40000000 in
theorem rm_lca1_62 (l : Launch) (Z : State) (a0 : Array Value) (hw : ∀ d ∈ tables_1, d.before a0 Z = true) (ws : List Jvm.Cond) (vb : Addr) (rf : Value) (kb : ClassId) (h0 : Heap) (n0 : Nat) (Z0 : n0 ≤ h0.size) (H0 : Arv Z h0 vb kb .byte (1 : Int32) [(.int (62 : Int32))] (.int (0 : Int32))) (H1 : Sta Z h0 "jdk/internal/util/Preconditions" "SIOOBE_FORMATTER" "Ljava/util/function/BiFunction;" rf) (isr_rf : rf.isRef = true) :
    MetFree l (⟨"java/lang/StringLatin1", "charAt", "([BI)C"⟩ : MethodName) (head1 (Jvm.Cond.code (⟨"java/lang/StringLatin1", "charAt", "([BI)C"⟩ : MethodName) jdk_43_method_2_code 2 (some .char) :: ws) ({ frames := 2, cells := 0, slots := 0, locals := 27 } : Room)) (fun a U => a = #[(.ref vb), (.int (0 : Int32))] ∧ Z.Warmed39 U.vm ∧ U.heap = h0) (fun _ _ _ _ _ => True) (fun _ U o U' => ∃ v L, o = .returned v ∧ Q_lca1_62 Z vb rf kb h0 n0 v U'.heap L ∧ FrameEnd U o U' L ({ frames := 2, cells := 0, slots := 0, locals := 27 } : Room).cells ({ frames := 2, cells := 0, slots := 0, locals := 27 } : Room).slots) := by
  refine MetFree.of_bodySF (plainFor_of_name n1_62pn8) hisR ?_
  intro p e s m args below meth c s₁ Bd hml0 hP hK
  obtain ⟨rfl, hZ, hh⟩ := hP
  have hx := Bd.exec
  have hby := Bd.bytes
  have hret := Bd.returns
  have hlk := Bd.notSynchronized
  have hml : c.maxLocals = 2 := hml0
  have hown : s.vm.findClass "java/lang/StringLatin1" = some m.cls := findClass_of_methodNamed Bd.named
  have hnm := (name_of_methodNamed Bd.named Bd.method).1
  have X0 : Stand p l e ({ frames := 2, cells := 0, slots := 0, locals := 27 } : Room) s m #[(.ref vb), (.int (0 : Int32))] below meth c s₁ [] 0 0 := Stand.of_body Bd
  have e0 : s₁.heap = h0 := by rw [← hh, Bd.state]; rfl
  have N0 := Fr.nil n0
  show Wp p e below (fun o s₂ => ∃ v L, o = .returned v ∧ Q_lca1_62 Z vb rf kb h0 n0 v s₂.heap L ∧ FrameEnd s o s₂ L ({ frames := 2, cells := 0, slots := 0, locals := 27 } : Room).cells ({ frames := 2, cells := 0, slots := 0, locals := 27 } : Room).slots) _
  refine Wp.back (U' := (s₁.setTop (mkF m 0 #[.val (.ref vb), .val (.int (0 : Int32))] []))) (fun t k => castTop (n1_62ef8 m vb (0 : Int32)) k) ?_
  refine Wp.back (U' := (s₁.setTop (mkF m 2 #[.val (.ref vb), .val (.int (0 : Int32))] [(.ref vb), (.int (0 : Int32))]))) (fun t k => XS.iloadN X0.here hx rfl (hb hby n1_62d8_0) rfl (XS.aloadN X0.here hx rfl (hb hby n1_62d8_1) rfl rfl k)) ?_
  have vq1 := H0
  obtain ⟨cl1, Ar1, -, qs1, qn1, -, -⟩ := vq1
  refine Wp.back (U' := (s₁.setTop (mkF m 3 #[.val (.ref vb), .val (.int (0 : Int32))] [(.int (1 : Int32)), (.int (0 : Int32))]))) (fun t k => X0.arraylength hx (by rw [e0]; exact Ar1.1) (State.isArrayOf_alike hZ.alike Ar1.2.1) (g := (mkF m 2 #[.val (.ref vb), .val (.int (0 : Int32))] [(.ref vb), (.int (0 : Int32))])) rfl rfl (hb hby n1_62d8_2) t (by rw [len_of qs1 qn1]; exact k)) ?_
  obtain ⟨_, _, ⟨T2, L2, k2, n2⟩, -, X2, ⟨Lc2, hQ2, l2, y2, z2⟩, st2⟩ := Jvm.LawKit.callS X0 hx (y := (⟨"java/lang/String", "checkIndex", "(II)V"⟩ : MethodName)) hown (mvT hZ (hw _ (List.mem_of_getElem? (i := 54) rfl))) (mvT hZ (hw _ (List.mem_of_getElem? (i := 55) rfl))) (mvT hZ (hw _ (List.mem_of_getElem? (i := 28) rfl))) (mvT hZ (hw _ (List.mem_of_getElem? (i := 56) rfl))) (by decide) (backOf (W := 0) (rm_sci1 l Z a0 hw []  rf h0 n0 Z0 H1 isr_rf) hZ (hw _ (List.mem_of_getElem? (i := 56) rfl)) (hw _ (List.mem_of_getElem? (i := 28) rfl)) (by decide) (by decide)) (g := (mkF m 3 #[.val (.ref vb), .val (.int (0 : Int32))] [(.int (1 : Int32)), (.int (0 : Int32))])) rfl (by rw [hml]; rfl) (argsL := [(.int (0 : Int32)), (.int (1 : Int32))]) (rest := []) (lenOf n1_62pd8_0 rfl) rfl (by show 2 * 0 + _ ≤ _; exact Nat.le_of_eq rfl) (hb hby n1_62d8_3) (fun _ _ => ⟨rfl, e0, (by decide : 0 + 0 ≤ _), (by decide : 0 + 0 ≤ _)⟩)
  dsimp only [Pt.U, Pt.locs, Pt.cells, Pt.slots] at X2 l2 y2 z2 st2 hQ2
  subst l2 y2 z2
  obtain ⟨rfl, N2q, K2⟩ := hQ2
  have f3_0 := Nat.le_trans Z0 K2.1
  have f3_1 := H0.keep K2 nin0
  have f3_2 := Sta_keep0 H1 K2
  have f3_3 := (Keep.refl h0 []).trans K2 all0
  have N2 := Fr.app N0 N2q
  refine Wp.back (U' := (T2.setTop (mkF m 6 #[.val (.ref vb), .val (.int (0 : Int32))] []))) st2 ?_
  refine Wp.back (U' := (T2.setTop (mkF m 8 #[.val (.ref vb), .val (.int (0 : Int32))] [(.int (0 : Int32)), (.ref vb)]))) (fun t k => XS.aloadN X2.here hx rfl (hb hby n1_62d8_6) rfl rfl (XS.iloadN X2.here hx rfl (hb hby n1_62d8_7) rfl k)) ?_
  have vq4 := f3_1
  obtain ⟨cl4, Ar4, qa4, qs4, qn4, qh4, qg4⟩ := vq4
  have hin4 : ¬ ((0 : Int32) < 0 ∨ cl4.slots.size ≤ ((0 : Int32)).toNatClampNeg) := inb_of qs4 ⟨by decide, by decide⟩
  have hat4 : cl4.slots[((0 : Int32)).toNatClampNeg]? = some (.int (62 : Int32)) := Has.at qh4 hin4 rfl
  refine Wp.back (U' := (T2.setTop (mkF m 9 #[.val (.ref vb), .val (.int (0 : Int32))] [(.int (62 : Int32))]))) (fun t k => X2.baloadBytes hx (j := (0 : Int32)) (v := (.int (62 : Int32))) Ar4.1 (State.isArrayOf_alike hZ.alike Ar4.2.1) Ar4.2.2 hin4 hat4 (g := (mkF m 8 #[.val (.ref vb), .val (.int (0 : Int32))] [(.int (0 : Int32)), (.ref vb)])) rfl rfl (hb hby n1_62d8_8) t k) ?_
  refine Wp.back (U' := (T2.setTop (mkF m 14 #[.val (.ref vb), .val (.int (0 : Int32))] [(.int (62 : Int32))]))) (fun t k => XT.sipushV X2.here hx rfl (255 : Int32) (hb hby n1_62d8_9) (by decide) (XS.iand X2.here hx rfl (hb hby n1_62d8_12) rfl (XS.i2c X2.here hx rfl (hb hby n1_62d8_13) rfl k))) ?_
  obtain ⟨fs, hr, hrun, hended, hW, hsame⟩ := X2.leave (v := (some (.int (62 : Int32)))) (fun h => by rw [hret] at h; cases h)
  refine Wp.done (retN X2 hx (t := .char) hret (by simp) (hb hby n1_62d8_14) hr) hrun hended ⟨_, _, rfl, ?_, ⟨_, rfl⟩, hW, hsame.mono (by decide) (by decide)⟩
  show Q_lca1_62 Z vb rf kb h0 n0 _ T2.heap _
  exact ⟨rfl, N2, f3_3⟩
def Q_ch1_62 (Z : State) (ar : Addr) (rf : Value) (cs : Int32) (vb : Addr) (kb : ClassId) (h0 : Heap) (n0 : Nat) (v : Option Value) (h : Heap) (L : List Loc) : Prop := v = some (.int (62 : Int32)) ∧ Fr n0 L ∧ Keep h0 h []
theorem n1_62d6_0 : decode jdk_42_method_56_code 0 = .ok (.aload_n 0, 1) := by decide +kernel
theorem n1_62d6_1 : decode jdk_42_method_56_code 1 = .ok (.invokevirtual 492, 3) := by decide +kernel
theorem n1_62d6_4 : decode jdk_42_method_56_code 4 = .ok (.ifCond .eq 12, 3) := by decide +kernel
theorem n1_62d6_7 : decode jdk_42_method_56_code 7 = .ok (.aload_n 0, 1) := by decide +kernel
theorem n1_62d6_8 : decode jdk_42_method_56_code 8 = .ok (.getfield 9, 3) := by decide +kernel
theorem n1_62d6_11 : decode jdk_42_method_56_code 11 = .ok (.iload_n 1, 1) := by decide +kernel
theorem n1_62d6_12 : decode jdk_42_method_56_code 12 = .ok (.invokestatic 495, 3) := by decide +kernel
theorem n1_62d6_15 : decode jdk_42_method_56_code 15 = .ok (.ireturn, 1) := by decide +kernel
theorem n1_62pd6_0 : parseMethodDescriptor "()Z" = some ⟨[], some .boolean⟩ := by decide +kernel
theorem n1_62pd6_1 : parseMethodDescriptor "([BI)C" = some ⟨[(.array .byte), .int], some .char⟩ := by decide +kernel
theorem n1_62pn6 : plainName "java/lang/String" = true := by first | (simp [plainName, overriddenIn]; done) | decide +kernel
theorem n1_62ef6 (m : MethodId) (x0 : Addr) (x1 : Int32) : entryFrame m #[(.ref x0), (.int x1)] 2 = mkF m 0 #[.val (.ref x0), .val (.int x1)] [] := by first | (simp [entryFrame, mkF, argsToLocals, Value.category]; done) | rfl
set_option maxRecDepth 65536 in
set_option maxHeartbeats 40000000 in
theorem rm_ch1_62 (l : Launch) (Z : State) (a0 : Array Value) (hw : ∀ d ∈ tables_1, d.before a0 Z = true) (ws : List Jvm.Cond) (ar : Addr) (rf : Value) (cs : Int32) (vb : Addr) (kb : ClassId) (h0 : Heap) (n0 : Nat) (Z0 : n0 ≤ h0.size) (H0 : Exa Z h0 ar "java/lang/String") (H1 : Fld Z h0 ar "java/lang/String" "value" "[B" (.ref vb)) (H2 : Fld Z h0 ar "java/lang/String" "coder" "B" (.int (0 : Int32))) (H3 : Arv Z h0 vb kb .byte (1 : Int32) [(.int (62 : Int32))] (.int (0 : Int32))) (H4 : Sta Z h0 "java/lang/String" "COMPACT_STRINGS" "Z" (.int cs)) (H5 : Sta Z h0 "jdk/internal/util/Preconditions" "SIOOBE_FORMATTER" "Ljava/util/function/BiFunction;" rf) (isr_rf : rf.isRef = true) (hcs : ¬ cs = (0 : Int32)) :
    MetFree l (⟨"java/lang/String", "charAt", "(I)C"⟩ : MethodName) (head1 (Jvm.Cond.code (⟨"java/lang/String", "charAt", "(I)C"⟩ : MethodName) jdk_42_method_56_code 2 (some .char) :: ws) ({ frames := 3, cells := 0, slots := 0, locals := 40 } : Room)) (fun a U => a = #[(.ref ar), (.int (0 : Int32))] ∧ Z.Warmed39 U.vm ∧ U.heap = h0) (fun _ _ _ _ _ => True) (fun _ U o U' => ∃ v L, o = .returned v ∧ Q_ch1_62 Z ar rf cs vb kb h0 n0 v U'.heap L ∧ FrameEnd U o U' L ({ frames := 3, cells := 0, slots := 0, locals := 40 } : Room).cells ({ frames := 3, cells := 0, slots := 0, locals := 40 } : Room).slots) := by
  refine MetFree.of_bodySF (plainFor_of_name n1_62pn6) hisR ?_
  intro p e s m args below meth c s₁ Bd hml0 hP hK
  obtain ⟨rfl, hZ, hh⟩ := hP
  have hx := Bd.exec
  have hby := Bd.bytes
  have hret := Bd.returns
  have hlk := Bd.notSynchronized
  have hml : c.maxLocals = 2 := hml0
  have hown : s.vm.findClass "java/lang/String" = some m.cls := findClass_of_methodNamed Bd.named
  have hnm := (name_of_methodNamed Bd.named Bd.method).1
  have X0 : Stand p l e ({ frames := 3, cells := 0, slots := 0, locals := 40 } : Room) s m #[(.ref ar), (.int (0 : Int32))] below meth c s₁ [] 0 0 := Stand.of_body Bd
  have e0 : s₁.heap = h0 := by rw [← hh, Bd.state]; rfl
  have N0 := Fr.nil n0
  show Wp p e below (fun o s₂ => ∃ v L, o = .returned v ∧ Q_ch1_62 Z ar rf cs vb kb h0 n0 v s₂.heap L ∧ FrameEnd s o s₂ L ({ frames := 3, cells := 0, slots := 0, locals := 40 } : Room).cells ({ frames := 3, cells := 0, slots := 0, locals := 40 } : Room).slots) _
  refine Wp.back (U' := (s₁.setTop (mkF m 0 #[.val (.ref ar), .val (.int (0 : Int32))] []))) (fun t k => castTop (n1_62ef6 m ar (0 : Int32)) k) ?_
  refine Wp.back (U' := (s₁.setTop (mkF m 1 #[.val (.ref ar), .val (.int (0 : Int32))] [(.ref ar)]))) (fun t k => XS.aloadN X0.here hx rfl (hb hby n1_62d6_0) rfl rfl k) ?_
  obtain ⟨cq1, kq1, q1a, q1b, q1c⟩ := isOf hZ e0 H0
  obtain ⟨_, _, ⟨T1, L1, k1, n1⟩, -, X1, ⟨Lc1, hQ1, l1, y1, z1⟩, st1⟩ := X0.virtualBack hx (y := (⟨"java/lang/String", "isLatin1", "()Z"⟩ : MethodName)) (z := (⟨"java/lang/String", "isLatin1", "()Z"⟩ : MethodName)) hown (mvT hZ (hw _ (List.mem_of_getElem? (i := 45) rfl))) (mvT hZ (hw _ (List.mem_of_getElem? (i := 46) rfl))) (notFace_of_selects (args := #[]) (mvT hZ (hw _ (List.mem_of_getElem? (i := 48) rfl)))) (mvT hZ (hw _ (List.mem_of_getElem? (i := 48) rfl))) (mvT hZ (hw _ (List.mem_of_getElem? (i := 47) rfl))) (by decide) (backOf (W := 0) (rm_isLatin1 l Z a0 hw [] ar cs h0 n0 Z0 H4 H2 hcs) hZ (hw _ (List.mem_of_getElem? (i := 49) rfl)) (hw _ (List.mem_of_getElem? (i := 28) rfl)) (by decide) (by decide)) q1a q1c (g := (mkF m 1 #[.val (.ref ar), .val (.int (0 : Int32))] [(.ref ar)])) rfl (by rw [hml]; rfl) (Steps.refl _) (argsL := []) (rest := []) (lenOf n1_62pd6_0 rfl) rfl (by show 2 * 0 + _ ≤ _; exact Nat.le_of_eq rfl) (hb hby n1_62d6_1) (fun _ _ => ⟨rfl, e0, (by decide : 0 + 0 ≤ _), (by decide : 0 + 0 ≤ _)⟩)
  dsimp only [Pt.U, Pt.locs, Pt.cells, Pt.slots] at X1 l1 y1 z1 st1 hQ1
  subst l1 y1 z1
  obtain ⟨rfl, N1q, K1⟩ := hQ1
  have f2_0 := Nat.le_trans Z0 K1.1
  have f2_1 := H0.keep K1
  have f2_2 := H1.keep K1 nin0
  have f2_3 := H2.keep K1 nin0
  have f2_4 := H3.keep K1 nin0
  have f2_5 := Sta_keep0 H4 K1
  have f2_6 := Sta_keep0 H5 K1
  have f2_7 := (Keep.refl h0 []).trans K1 all0
  have N1 := Fr.app N0 N1q
  refine Wp.back (U' := (T1.setTop (mkF m 4 #[.val (.ref ar), .val (.int (0 : Int32))] [(.int (1 : Int32))]))) (fun t k => st1.trans k) ?_
  refine Wp.back (U' := (T1.setTop (mkF m 8 #[.val (.ref ar), .val (.int (0 : Int32))] [(.ref ar)]))) (fun t k => XS.ifNo X1.here hx rfl (hb hby n1_62d6_4) rfl ((if0 _ _).trans (feq (by decide)).1) (XS.aloadN X1.here hx rfl (hb hby n1_62d6_7) rfl rfl k)) ?_
  obtain ⟨T3, X3, e3, st3⟩ := getF X1 hx hZ hown (host := "") (Or.inl (hw _ (List.mem_of_getElem? (i := 30) rfl))) Via.refl rfl f2_2 (g := (mkF m 8 #[.val (.ref ar), .val (.int (0 : Int32))] [(.ref ar)])) rfl rfl (hb hby n1_62d6_8)
  refine Wp.back (U' := (T3.setTop (mkF m 11 #[.val (.ref ar), .val (.int (0 : Int32))] [(.ref vb)]))) st3 ?_
  refine Wp.back (U' := (T3.setTop (mkF m 12 #[.val (.ref ar), .val (.int (0 : Int32))] [(.int (0 : Int32)), (.ref vb)]))) (fun t k => XS.iloadN X3.here hx rfl (hb hby n1_62d6_11) rfl k) ?_
  obtain ⟨_, _, ⟨T4, L4, k4, n4⟩, -, X4, ⟨Lc4, hQ4, l4, y4, z4⟩, st4⟩ := Jvm.LawKit.callS X3 hx (y := (⟨"java/lang/StringLatin1", "charAt", "([BI)C"⟩ : MethodName)) hown (mvT hZ (hw _ (List.mem_of_getElem? (i := 50) rfl))) (mvT hZ (hw _ (List.mem_of_getElem? (i := 51) rfl))) (mvT hZ (hw _ (List.mem_of_getElem? (i := 52) rfl))) (mvT hZ (hw _ (List.mem_of_getElem? (i := 53) rfl))) (by decide) (backOf (W := 0) (rm_lca1_62 l Z a0 hw [] vb rf kb T1.heap n0 f2_0 f2_4 f2_6 isr_rf) hZ (hw _ (List.mem_of_getElem? (i := 53) rfl)) (hw _ (List.mem_of_getElem? (i := 52) rfl)) (by decide) (by decide)) (g := (mkF m 12 #[.val (.ref ar), .val (.int (0 : Int32))] [(.int (0 : Int32)), (.ref vb)])) rfl (by rw [hml]; rfl) (argsL := [(.ref vb), (.int (0 : Int32))]) (rest := []) (lenOf n1_62pd6_1 rfl) rfl (by show 2 * 0 + _ ≤ _; exact Nat.le_of_eq rfl) (hb hby n1_62d6_12) (fun _ _ => ⟨rfl, e3, (by decide : 0 + 0 ≤ _), (by decide : 0 + 0 ≤ _)⟩)
  dsimp only [Pt.U, Pt.locs, Pt.cells, Pt.slots] at X4 l4 y4 z4 st4 hQ4
  subst l4 y4 z4
  obtain ⟨rfl, N4q, K4⟩ := hQ4
  have f5_0 := Nat.le_trans f2_0 K4.1
  have f5_1 := f2_1.keep K4
  have f5_2 := f2_2.keep K4 nin0
  have f5_3 := f2_3.keep K4 nin0
  have f5_4 := f2_4.keep K4 nin0
  have f5_5 := Sta_keep0 f2_5 K4
  have f5_6 := Sta_keep0 f2_6 K4
  have f5_7 := f2_7.trans K4 all0
  have N4 := Fr.app N1 N4q
  refine Wp.back (U' := (T4.setTop (mkF m 15 #[.val (.ref ar), .val (.int (0 : Int32))] [(.int (62 : Int32))]))) st4 ?_
  obtain ⟨fs, hr, hrun, hended, hW, hsame⟩ := X4.leave (v := (some (.int (62 : Int32)))) (fun h => by rw [hret] at h; cases h)
  refine Wp.done (retN X4 hx (t := .char) hret (by simp) (hb hby n1_62d6_15) hr) hrun hended ⟨_, _, rfl, ?_, ⟨_, rfl⟩, hW, hsame.mono (by decide) (by decide)⟩
  show Q_ch1_62 Z ar rf cs vb kb h0 n0 _ T4.heap _
  exact ⟨rfl, N4, f5_7⟩
def Q_len2 (Z : State) (ar : Addr) (cs : Int32) (vb : Addr) (kb : ClassId) (v0 : Int32) (v1 : Int32) (h0 : Heap) (n0 : Nat) (v : Option Value) (h : Heap) (L : List Loc) : Prop := v = some (.int (2 : Int32)) ∧ Fr n0 L ∧ Keep h0 h []
theorem n2d4_0 : decode jdk_42_method_54_code 0 = .ok (.aload_n 0, 1) := by decide +kernel
theorem n2d4_1 : decode jdk_42_method_54_code 1 = .ok (.getfield 9, 3) := by decide +kernel
theorem n2d4_4 : decode jdk_42_method_54_code 4 = .ok (.arraylength, 1) := by decide +kernel
theorem n2d4_5 : decode jdk_42_method_54_code 5 = .ok (.aload_n 0, 1) := by decide +kernel
theorem n2d4_6 : decode jdk_42_method_54_code 6 = .ok (.invokevirtual 335, 3) := by decide +kernel
theorem n2d4_9 : decode jdk_42_method_54_code 9 = .ok (.ishr, 1) := by decide +kernel
theorem n2d4_10 : decode jdk_42_method_54_code 10 = .ok (.ireturn, 1) := by decide +kernel
theorem n2pd4_0 : parseMethodDescriptor "()B" = some ⟨[], some .byte⟩ := by decide +kernel
theorem n2pn4 : plainName "java/lang/String" = true := by first | (simp [plainName, overriddenIn]; done) | decide +kernel
theorem n2ef4 (m : MethodId) (x0 : Addr) : entryFrame m #[(.ref x0)] 1 = mkF m 0 #[.val (.ref x0)] [] := by first | (simp [entryFrame, mkF, argsToLocals, Value.category]; done) | rfl
set_option maxRecDepth 65536 in
set_option maxHeartbeats 40000000 in
theorem rm_len2 (l : Launch) (Z : State) (a0 : Array Value) (hw : ∀ d ∈ tables_1, d.before a0 Z = true) (ws : List Jvm.Cond) (ar : Addr) (cs : Int32) (vb : Addr) (kb : ClassId) (v0 : Int32) (v1 : Int32) (h0 : Heap) (n0 : Nat) (Z0 : n0 ≤ h0.size) (H0 : Exa Z h0 ar "java/lang/String") (H1 : Fld Z h0 ar "java/lang/String" "value" "[B" (.ref vb)) (H2 : Fld Z h0 ar "java/lang/String" "coder" "B" (.int (0 : Int32))) (H3 : Arv Z h0 vb kb .byte (2 : Int32) [(.int v0), (.int v1)] (.int (0 : Int32))) (H4 : Sta Z h0 "java/lang/String" "COMPACT_STRINGS" "Z" (.int cs)) (hcs : ¬ cs = (0 : Int32)) :
    MetFree l (⟨"java/lang/String", "length", "()I"⟩ : MethodName) (head1 (Jvm.Cond.code (⟨"java/lang/String", "length", "()I"⟩ : MethodName) jdk_42_method_54_code 1 (some .int) :: ws) ({ frames := 1, cells := 0, slots := 0, locals := 13 } : Room)) (fun a U => a = #[(.ref ar)] ∧ Z.Warmed39 U.vm ∧ U.heap = h0) (fun _ _ _ _ _ => True) (fun _ U o U' => ∃ v L, o = .returned v ∧ Q_len2 Z ar cs vb kb v0 v1 h0 n0 v U'.heap L ∧ FrameEnd U o U' L ({ frames := 1, cells := 0, slots := 0, locals := 13 } : Room).cells ({ frames := 1, cells := 0, slots := 0, locals := 13 } : Room).slots) := by
  refine MetFree.of_bodySF (plainFor_of_name n2pn4) hisR ?_
  intro p e s m args below meth c s₁ Bd hml0 hP hK
  obtain ⟨rfl, hZ, hh⟩ := hP
  have hx := Bd.exec
  have hby := Bd.bytes
  have hret := Bd.returns
  have hlk := Bd.notSynchronized
  have hml : c.maxLocals = 1 := hml0
  have hown : s.vm.findClass "java/lang/String" = some m.cls := findClass_of_methodNamed Bd.named
  have hnm := (name_of_methodNamed Bd.named Bd.method).1
  have X0 : Stand p l e ({ frames := 1, cells := 0, slots := 0, locals := 13 } : Room) s m #[(.ref ar)] below meth c s₁ [] 0 0 := Stand.of_body Bd
  have e0 : s₁.heap = h0 := by rw [← hh, Bd.state]; rfl
  have N0 := Fr.nil n0
  show Wp p e below (fun o s₂ => ∃ v L, o = .returned v ∧ Q_len2 Z ar cs vb kb v0 v1 h0 n0 v s₂.heap L ∧ FrameEnd s o s₂ L ({ frames := 1, cells := 0, slots := 0, locals := 13 } : Room).cells ({ frames := 1, cells := 0, slots := 0, locals := 13 } : Room).slots) _
  refine Wp.back (U' := (s₁.setTop (mkF m 0 #[.val (.ref ar)] []))) (fun t k => castTop (n2ef4 m ar) k) ?_
  refine Wp.back (U' := (s₁.setTop (mkF m 1 #[.val (.ref ar)] [(.ref ar)]))) (fun t k => XS.aloadN X0.here hx rfl (hb hby n2d4_0) rfl rfl k) ?_
  obtain ⟨T1, X1, e1, st1⟩ := getF X0 hx hZ hown (host := "") (Or.inl (hw _ (List.mem_of_getElem? (i := 30) rfl))) Via.refl e0 H1 (g := (mkF m 1 #[.val (.ref ar)] [(.ref ar)])) rfl rfl (hb hby n2d4_1)
  refine Wp.back (U' := (T1.setTop (mkF m 4 #[.val (.ref ar)] [(.ref vb)]))) st1 ?_
  have vq2 := H3
  obtain ⟨cl2, Ar2, -, qs2, qn2, -, -⟩ := vq2
  refine Wp.back (U' := (T1.setTop (mkF m 5 #[.val (.ref ar)] [(.int (2 : Int32))]))) (fun t k => X1.arraylength hx (by rw [e1]; exact Ar2.1) (State.isArrayOf_alike hZ.alike Ar2.2.1) (g := (mkF m 4 #[.val (.ref ar)] [(.ref vb)])) rfl rfl (hb hby n2d4_4) t (by rw [len_of qs2 qn2]; exact k)) ?_
  refine Wp.back (U' := (T1.setTop (mkF m 6 #[.val (.ref ar)] [(.ref ar), (.int (2 : Int32))]))) (fun t k => XS.aloadN X1.here hx rfl (hb hby n2d4_5) rfl rfl k) ?_
  obtain ⟨cq3, kq3, q3a, q3b, q3c⟩ := isOf hZ e1 H0
  obtain ⟨_, _, ⟨T3, L3, k3, n3⟩, -, X3, ⟨Lc3, hQ3, l3, y3, z3⟩, st3⟩ := X1.virtualBack hx (y := (⟨"java/lang/String", "coder", "()B"⟩ : MethodName)) (z := (⟨"java/lang/String", "coder", "()B"⟩ : MethodName)) hown (mvT hZ (hw _ (List.mem_of_getElem? (i := 32) rfl))) (mvT hZ (hw _ (List.mem_of_getElem? (i := 33) rfl))) (notFace_of_selects (args := #[]) (mvT hZ (hw _ (List.mem_of_getElem? (i := 35) rfl)))) (mvT hZ (hw _ (List.mem_of_getElem? (i := 35) rfl))) (mvT hZ (hw _ (List.mem_of_getElem? (i := 34) rfl))) (by decide) (backOf (W := 1) (rm_coder l Z a0 hw [] ar cs h0 n0 Z0 H4 H2 hcs) hZ (hw _ (List.mem_of_getElem? (i := 36) rfl)) (hw _ (List.mem_of_getElem? (i := 28) rfl)) (by decide) (by decide)) q3a q3c (g := (mkF m 6 #[.val (.ref ar)] [(.ref ar), (.int (2 : Int32))])) rfl (by rw [hml]; rfl) (Steps.refl _) (argsL := []) (rest := [(.int (2 : Int32))]) (lenOf n2pd4_0 rfl) rfl (by show 2 * 0 + _ ≤ _; exact Nat.le_of_eq rfl) (hb hby n2d4_6) (fun _ _ => ⟨rfl, e1, (by decide : 0 + 0 ≤ _), (by decide : 0 + 0 ≤ _)⟩)
  dsimp only [Pt.U, Pt.locs, Pt.cells, Pt.slots] at X3 l3 y3 z3 st3 hQ3
  subst l3 y3 z3
  obtain ⟨rfl, N3q, K3⟩ := hQ3
  have f4_0 := Nat.le_trans Z0 K3.1
  have f4_1 := H0.keep K3
  have f4_2 := H1.keep K3 nin0
  have f4_3 := H2.keep K3 nin0
  have f4_4 := H3.keep K3 nin0
  have f4_5 := Sta_keep0 H4 K3
  have f4_6 := (Keep.refl h0 []).trans K3 all0
  have N3 := Fr.app N0 N3q
  refine Wp.back (U' := (T3.setTop (mkF m 9 #[.val (.ref ar)] [(.int (0 : Int32)), (.int (2 : Int32))]))) (fun t k => st3.trans k) ?_
  refine Wp.back (U' := (T3.setTop (mkF m 10 #[.val (.ref ar)] [(.int (2 : Int32))]))) (fun t k => XS.ishr X3.here hx rfl (hb hby n2d4_9) rfl k) ?_
  obtain ⟨fs, hr, hrun, hended, hW, hsame⟩ := X3.leave (v := (some (.int (2 : Int32)))) (fun h => by rw [hret] at h; cases h)
  refine Wp.done (retI X3 hx hret (hb hby n2d4_10) hr) hrun hended ⟨_, _, rfl, ?_, ⟨_, rfl⟩, hW, hsame.mono (by decide) (by decide)⟩
  show Q_len2 Z ar cs vb kb v0 v1 h0 n0 _ T3.heap _
  exact ⟨rfl, N3, f4_6⟩
def Q_pci2 (Z : State) (rf : Value)  (h0 : Heap) (n0 : Nat) (v : Option Value) (h : Heap) (L : List Loc) : Prop := v = some (.int (0 : Int32)) ∧ Fr n0 L ∧ Keep h0 h []
theorem n2d10_0 : decode jdk_41_method_11_code 0 = .ok (.iload_n 0, 1) := by decide +kernel
theorem n2d10_1 : decode jdk_41_method_11_code 1 = .ok (.ifCond .lt 8, 3) := by decide +kernel
theorem n2d10_4 : decode jdk_41_method_11_code 4 = .ok (.iload_n 0, 1) := by decide +kernel
theorem n2d10_5 : decode jdk_41_method_11_code 5 = .ok (.iload_n 1, 1) := by decide +kernel
theorem n2d10_6 : decode jdk_41_method_11_code 6 = .ok (.if_icmp .lt 10, 3) := by decide +kernel
theorem n2d10_16 : decode jdk_41_method_11_code 16 = .ok (.iload_n 0, 1) := by decide +kernel
theorem n2d10_17 : decode jdk_41_method_11_code 17 = .ok (.ireturn, 1) := by decide +kernel
theorem n2pn10 : plainName "jdk/internal/util/Preconditions" = true := by first | (simp [plainName, overriddenIn]; done) | decide +kernel
theorem n2ef10 (m : MethodId) (x0 : Int32) (x1 : Int32) (x2 : Value) (hx2 : x2.isRef = true) : entryFrame m #[(.int x0), (.int x1), x2] 3 = mkF m 0 #[.val (.int x0), .val (.int x1), .val x2] [] := by rcases ref_cases hx2 with rfl | ⟨y2, rfl⟩ <;> first | (simp [entryFrame, mkF, argsToLocals, Value.category]; done) | rfl
set_option maxRecDepth 65536 in
set_option maxHeartbeats 40000000 in
theorem rm_pci2 (l : Launch) (Z : State) (a0 : Array Value) (hw : ∀ d ∈ tables_1, d.before a0 Z = true) (ws : List Jvm.Cond) (rf : Value)  (h0 : Heap) (n0 : Nat) (Z0 : n0 ≤ h0.size) (isr_rf : rf.isRef = true) :
    MetFree l (⟨"jdk/internal/util/Preconditions", "checkIndex", "(IILjava/util/function/BiFunction;)I"⟩ : MethodName) (head1 (Jvm.Cond.code (⟨"jdk/internal/util/Preconditions", "checkIndex", "(IILjava/util/function/BiFunction;)I"⟩ : MethodName) jdk_41_method_11_code 3 (some .int) :: ws) ({ frames := 0, cells := 0, slots := 0, locals := 0 } : Room)) (fun a U => a = #[(.int (0 : Int32)), (.int (2 : Int32)), rf] ∧ Z.Warmed39 U.vm ∧ U.heap = h0) (fun _ _ _ _ _ => True) (fun _ U o U' => ∃ v L, o = .returned v ∧ Q_pci2 Z rf h0 n0 v U'.heap L ∧ FrameEnd U o U' L ({ frames := 0, cells := 0, slots := 0, locals := 0 } : Room).cells ({ frames := 0, cells := 0, slots := 0, locals := 0 } : Room).slots) := by
  refine MetFree.of_bodySF (plainFor_of_name n2pn10) hisR ?_
  intro p e s m args below meth c s₁ Bd hml0 hP hK
  obtain ⟨rfl, hZ, hh⟩ := hP
  have hx := Bd.exec
  have hby := Bd.bytes
  have hret := Bd.returns
  have hlk := Bd.notSynchronized
  have hml : c.maxLocals = 3 := hml0
  have hown : s.vm.findClass "jdk/internal/util/Preconditions" = some m.cls := findClass_of_methodNamed Bd.named
  have hnm := (name_of_methodNamed Bd.named Bd.method).1
  have X0 : Stand p l e ({ frames := 0, cells := 0, slots := 0, locals := 0 } : Room) s m #[(.int (0 : Int32)), (.int (2 : Int32)), rf] below meth c s₁ [] 0 0 := Stand.of_body Bd
  have e0 : s₁.heap = h0 := by rw [← hh, Bd.state]; rfl
  have N0 := Fr.nil n0
  show Wp p e below (fun o s₂ => ∃ v L, o = .returned v ∧ Q_pci2 Z rf h0 n0 v s₂.heap L ∧ FrameEnd s o s₂ L ({ frames := 0, cells := 0, slots := 0, locals := 0 } : Room).cells ({ frames := 0, cells := 0, slots := 0, locals := 0 } : Room).slots) _
  refine Wp.back (U' := (s₁.setTop (mkF m 0 #[.val (.int (0 : Int32)), .val (.int (2 : Int32)), .val rf] []))) (fun t k => castTop (n2ef10 m (0 : Int32) (2 : Int32) rf isr_rf) k) ?_
  refine Wp.back (U' := (s₁.setTop (mkF m 17 #[.val (.int (0 : Int32)), .val (.int (2 : Int32)), .val rf] [(.int (0 : Int32))]))) (fun t k => XS.iloadN X0.here hx rfl (hb hby n2d10_0) rfl (XS.ifNo X0.here hx rfl (hb hby n2d10_1) rfl ((if0 _ _).trans (flt (by decide)).1) (XS.iloadN X0.here hx rfl (hb hby n2d10_4) rfl (XS.iloadN X0.here hx rfl (hb hby n2d10_5) rfl (XS.icmpYes X0.here hx rfl (pc0 := 6) (pc' := 16) rfl (hb hby n2d10_6) rfl (tlt (by decide)).1 (by decide) (by decide) (XS.iloadN X0.here hx rfl (hb hby n2d10_16) rfl k)))))) ?_
  obtain ⟨fs, hr, hrun, hended, hW, hsame⟩ := X0.leave (v := (some (.int (0 : Int32)))) (fun h => by rw [hret] at h; cases h)
  refine Wp.done (retI X0 hx hret (hb hby n2d10_17) hr) hrun hended ⟨_, _, rfl, ?_, ⟨_, rfl⟩, hW, hsame.mono (by decide) (by decide)⟩
  show Q_pci2 Z rf h0 n0 _ s₁.heap _
  rw [e0]
  exact ⟨rfl, N0, (Keep.refl h0 [])⟩
def Q_sci2 (Z : State)  (rf : Value) (h0 : Heap) (n0 : Nat) (v : Option Value) (h : Heap) (L : List Loc) : Prop := v = none ∧ Fr n0 L ∧ Keep h0 h []
theorem n2d9_0 : decode jdk_42_method_155_code 0 = .ok (.iload_n 0, 1) := by decide +kernel
theorem n2d9_1 : decode jdk_42_method_155_code 1 = .ok (.iload_n 1, 1) := by decide +kernel
theorem n2d9_2 : decode jdk_42_method_155_code 2 = .ok (.getstatic 1053, 3) := by decide +kernel
theorem n2d9_5 : decode jdk_42_method_155_code 5 = .ok (.invokestatic 1059, 3) := by decide +kernel
theorem n2d9_8 : decode jdk_42_method_155_code 8 = .ok (.pop, 1) := by decide +kernel
theorem n2d9_9 : decode jdk_42_method_155_code 9 = .ok (.return_, 1) := by decide +kernel
theorem n2pd9_0 : parseMethodDescriptor "(IILjava/util/function/BiFunction;)I" = some ⟨[.int, .int, (.object "java/util/function/BiFunction")], some .int⟩ := by decide +kernel
theorem n2pn9 : plainName "java/lang/String" = true := by first | (simp [plainName, overriddenIn]; done) | decide +kernel
theorem n2ef9 (m : MethodId) (x0 : Int32) (x1 : Int32) : entryFrame m #[(.int x0), (.int x1)] 2 = mkF m 0 #[.val (.int x0), .val (.int x1)] [] := by first | (simp [entryFrame, mkF, argsToLocals, Value.category]; done) | rfl
set_option maxRecDepth 65536 in
set_option maxHeartbeats 40000000 in
theorem rm_sci2 (l : Launch) (Z : State) (a0 : Array Value) (hw : ∀ d ∈ tables_1, d.before a0 Z = true) (ws : List Jvm.Cond)  (rf : Value) (h0 : Heap) (n0 : Nat) (Z0 : n0 ≤ h0.size) (H0 : Sta Z h0 "jdk/internal/util/Preconditions" "SIOOBE_FORMATTER" "Ljava/util/function/BiFunction;" rf) (isr_rf : rf.isRef = true) :
    MetFree l (⟨"java/lang/String", "checkIndex", "(II)V"⟩ : MethodName) (head1 (Jvm.Cond.code (⟨"java/lang/String", "checkIndex", "(II)V"⟩ : MethodName) jdk_42_method_155_code 2 none :: ws) ({ frames := 1, cells := 0, slots := 0, locals := 14 } : Room)) (fun a U => a = #[(.int (0 : Int32)), (.int (2 : Int32))] ∧ Z.Warmed39 U.vm ∧ U.heap = h0) (fun _ _ _ _ _ => True) (fun _ U o U' => ∃ v L, o = .returned v ∧ Q_sci2 Z rf h0 n0 v U'.heap L ∧ FrameEnd U o U' L ({ frames := 1, cells := 0, slots := 0, locals := 14 } : Room).cells ({ frames := 1, cells := 0, slots := 0, locals := 14 } : Room).slots) := by
  refine MetFree.of_bodySF (plainFor_of_name n2pn9) hisR ?_
  intro p e s m args below meth c s₁ Bd hml0 hP hK
  obtain ⟨rfl, hZ, hh⟩ := hP
  have hx := Bd.exec
  have hby := Bd.bytes
  have hret := Bd.returns
  have hlk := Bd.notSynchronized
  have hml : c.maxLocals = 2 := hml0
  have hown : s.vm.findClass "java/lang/String" = some m.cls := findClass_of_methodNamed Bd.named
  have hnm := (name_of_methodNamed Bd.named Bd.method).1
  have X0 : Stand p l e ({ frames := 1, cells := 0, slots := 0, locals := 14 } : Room) s m #[(.int (0 : Int32)), (.int (2 : Int32))] below meth c s₁ [] 0 0 := Stand.of_body Bd
  have e0 : s₁.heap = h0 := by rw [← hh, Bd.state]; rfl
  have N0 := Fr.nil n0
  show Wp p e below (fun o s₂ => ∃ v L, o = .returned v ∧ Q_sci2 Z rf h0 n0 v s₂.heap L ∧ FrameEnd s o s₂ L ({ frames := 1, cells := 0, slots := 0, locals := 14 } : Room).cells ({ frames := 1, cells := 0, slots := 0, locals := 14 } : Room).slots) _
  refine Wp.back (U' := (s₁.setTop (mkF m 0 #[.val (.int (0 : Int32)), .val (.int (2 : Int32))] []))) (fun t k => castTop (n2ef9 m (0 : Int32) (2 : Int32)) k) ?_
  refine Wp.back (U' := (s₁.setTop (mkF m 2 #[.val (.int (0 : Int32)), .val (.int (2 : Int32))] [(.int (2 : Int32)), (.int (0 : Int32))]))) (fun t k => XS.iloadN X0.here hx rfl (hb hby n2d9_0) rfl (XS.iloadN X0.here hx rfl (hb hby n2d9_1) rfl k)) ?_
  obtain ⟨T1, X1, e1, st1⟩ := getS2 X0 hx hZ hown (host := "") (Or.inl (hw _ (List.mem_of_getElem? (i := 57) rfl))) Via.refl e0 H0 (g := (mkF m 2 #[.val (.int (0 : Int32)), .val (.int (2 : Int32))] [(.int (2 : Int32)), (.int (0 : Int32))])) rfl (hb hby n2d9_2)
  refine Wp.back (U' := (T1.setTop (mkF m 5 #[.val (.int (0 : Int32)), .val (.int (2 : Int32))] [rf, (.int (2 : Int32)), (.int (0 : Int32))]))) st1 ?_
  obtain ⟨_, _, ⟨T2, L2, k2, n2⟩, -, X2, ⟨Lc2, hQ2, l2, y2, z2⟩, st2⟩ := Jvm.LawKit.callS X1 hx (y := (⟨"jdk/internal/util/Preconditions", "checkIndex", "(IILjava/util/function/BiFunction;)I"⟩ : MethodName)) hown (mvT hZ (hw _ (List.mem_of_getElem? (i := 59) rfl))) (mvT hZ (hw _ (List.mem_of_getElem? (i := 60) rfl))) (mvT hZ (hw _ (List.mem_of_getElem? (i := 58) rfl))) (mvT hZ (hw _ (List.mem_of_getElem? (i := 61) rfl))) (by decide) (backOf (W := 0) (rm_pci2 l Z a0 hw [] rf  h0 n0 Z0 isr_rf) hZ (hw _ (List.mem_of_getElem? (i := 61) rfl)) (hw _ (List.mem_of_getElem? (i := 58) rfl)) (by decide) (by decide)) (g := (mkF m 5 #[.val (.int (0 : Int32)), .val (.int (2 : Int32))] [rf, (.int (2 : Int32)), (.int (0 : Int32))])) rfl (by rw [hml]; rfl) (argsL := [(.int (0 : Int32)), (.int (2 : Int32)), rf]) (rest := []) (lenOf n2pd9_0 rfl) rfl (by show 2 * 0 + _ ≤ _; exact Nat.le_of_eq rfl) (hb hby n2d9_5) (fun _ _ => ⟨rfl, e1, (by decide : 0 + 0 ≤ _), (by decide : 0 + 0 ≤ _)⟩)
  dsimp only [Pt.U, Pt.locs, Pt.cells, Pt.slots] at X2 l2 y2 z2 st2 hQ2
  subst l2 y2 z2
  obtain ⟨rfl, N2q, K2⟩ := hQ2
  have f3_0 := Nat.le_trans Z0 K2.1
  have f3_1 := Sta_keep0 H0 K2
  have f3_2 := (Keep.refl h0 []).trans K2 all0
  have N2 := Fr.app N0 N2q
  refine Wp.back (U' := (T2.setTop (mkF m 8 #[.val (.int (0 : Int32)), .val (.int (2 : Int32))] [(.int (0 : Int32))]))) st2 ?_
  refine Wp.back (U' := (T2.setTop (mkF m 9 #[.val (.int (0 : Int32)), .val (.int (2 : Int32))] []))) (fun t k => XS.pop X2.here hx rfl (hb hby n2d9_8) rfl rfl k) ?_
  obtain ⟨fs, hr, hrun, hended, hW, hsame⟩ := X2.leave (v := none) (fun _ => rfl)
  refine Wp.done (X2.returnOut hx hret (hb hby n2d9_9) hr) hrun hended ⟨_, _, rfl, ?_, ⟨_, rfl⟩, hW, hsame.mono (by decide) (by decide)⟩
  show Q_sci2 Z rf h0 n0 _ T2.heap _
  exact ⟨rfl, N2, f3_2⟩
def Q_lca2_60 (Z : State) (vb : Addr) (rf : Value) (kb : ClassId) (v1 : Int32) (h0 : Heap) (n0 : Nat) (v : Option Value) (h : Heap) (L : List Loc) : Prop := v = some (.int (60 : Int32)) ∧ Fr n0 L ∧ Keep h0 h []
theorem n2_60d8_0 : decode jdk_43_method_2_code 0 = .ok (.iload_n 1, 1) := by decide +kernel
theorem n2_60d8_1 : decode jdk_43_method_2_code 1 = .ok (.aload_n 0, 1) := by decide +kernel
theorem n2_60d8_2 : decode jdk_43_method_2_code 2 = .ok (.arraylength, 1) := by decide +kernel
theorem n2_60d8_3 : decode jdk_43_method_2_code 3 = .ok (.invokestatic 9, 3) := by decide +kernel
theorem n2_60d8_6 : decode jdk_43_method_2_code 6 = .ok (.aload_n 0, 1) := by decide +kernel
theorem n2_60d8_7 : decode jdk_43_method_2_code 7 = .ok (.iload_n 1, 1) := by decide +kernel
theorem n2_60d8_8 : decode jdk_43_method_2_code 8 = .ok (.baload, 1) := by decide +kernel
theorem n2_60d8_9 : decode jdk_43_method_2_code 9 = .ok (.sipush 255, 3) := by decide +kernel
theorem n2_60d8_12 : decode jdk_43_method_2_code 12 = .ok (.iand, 1) := by decide +kernel
theorem n2_60d8_13 : decode jdk_43_method_2_code 13 = .ok (.i2c, 1) := by decide +kernel
theorem n2_60d8_14 : decode jdk_43_method_2_code 14 = .ok (.ireturn, 1) := by decide +kernel
theorem n2_60pd8_0 : parseMethodDescriptor "(II)V" = some ⟨[.int, .int], none⟩ := by decide +kernel
theorem n2_60pn8 : plainName "java/lang/StringLatin1" = true := by first | (simp [plainName, overriddenIn]; done) | decide +kernel
theorem n2_60ef8 (m : MethodId) (x0 : Addr) (x1 : Int32) : entryFrame m #[(.ref x0), (.int x1)] 2 = mkF m 0 #[.val (.ref x0), .val (.int x1)] [] := by first | (simp [entryFrame, mkF, argsToLocals, Value.category]; done) | rfl
set_option maxRecDepth 65536 in
set_option maxHeartbeats 40000000 in
theorem rm_lca2_60 (l : Launch) (Z : State) (a0 : Array Value) (hw : ∀ d ∈ tables_1, d.before a0 Z = true) (ws : List Jvm.Cond) (vb : Addr) (rf : Value) (kb : ClassId) (v1 : Int32) (h0 : Heap) (n0 : Nat) (Z0 : n0 ≤ h0.size) (H0 : Arv Z h0 vb kb .byte (2 : Int32) [(.int (60 : Int32)), (.int v1)] (.int (0 : Int32))) (H1 : Sta Z h0 "jdk/internal/util/Preconditions" "SIOOBE_FORMATTER" "Ljava/util/function/BiFunction;" rf) (isr_rf : rf.isRef = true) :
    MetFree l (⟨"java/lang/StringLatin1", "charAt", "([BI)C"⟩ : MethodName) (head1 (Jvm.Cond.code (⟨"java/lang/StringLatin1", "charAt", "([BI)C"⟩ : MethodName) jdk_43_method_2_code 2 (some .char) :: ws) ({ frames := 2, cells := 0, slots := 0, locals := 27 } : Room)) (fun a U => a = #[(.ref vb), (.int (0 : Int32))] ∧ Z.Warmed39 U.vm ∧ U.heap = h0) (fun _ _ _ _ _ => True) (fun _ U o U' => ∃ v L, o = .returned v ∧ Q_lca2_60 Z vb rf kb v1 h0 n0 v U'.heap L ∧ FrameEnd U o U' L ({ frames := 2, cells := 0, slots := 0, locals := 27 } : Room).cells ({ frames := 2, cells := 0, slots := 0, locals := 27 } : Room).slots) := by
  refine MetFree.of_bodySF (plainFor_of_name n2_60pn8) hisR ?_
  intro p e s m args below meth c s₁ Bd hml0 hP hK
  obtain ⟨rfl, hZ, hh⟩ := hP
  have hx := Bd.exec
  have hby := Bd.bytes
  have hret := Bd.returns
  have hlk := Bd.notSynchronized
  have hml : c.maxLocals = 2 := hml0
  have hown : s.vm.findClass "java/lang/StringLatin1" = some m.cls := findClass_of_methodNamed Bd.named
  have hnm := (name_of_methodNamed Bd.named Bd.method).1
  have X0 : Stand p l e ({ frames := 2, cells := 0, slots := 0, locals := 27 } : Room) s m #[(.ref vb), (.int (0 : Int32))] below meth c s₁ [] 0 0 := Stand.of_body Bd
  have e0 : s₁.heap = h0 := by rw [← hh, Bd.state]; rfl
  have N0 := Fr.nil n0
  show Wp p e below (fun o s₂ => ∃ v L, o = .returned v ∧ Q_lca2_60 Z vb rf kb v1 h0 n0 v s₂.heap L ∧ FrameEnd s o s₂ L ({ frames := 2, cells := 0, slots := 0, locals := 27 } : Room).cells ({ frames := 2, cells := 0, slots := 0, locals := 27 } : Room).slots) _
  refine Wp.back (U' := (s₁.setTop (mkF m 0 #[.val (.ref vb), .val (.int (0 : Int32))] []))) (fun t k => castTop (n2_60ef8 m vb (0 : Int32)) k) ?_
  refine Wp.back (U' := (s₁.setTop (mkF m 2 #[.val (.ref vb), .val (.int (0 : Int32))] [(.ref vb), (.int (0 : Int32))]))) (fun t k => XS.iloadN X0.here hx rfl (hb hby n2_60d8_0) rfl (XS.aloadN X0.here hx rfl (hb hby n2_60d8_1) rfl rfl k)) ?_
  have vq1 := H0
  obtain ⟨cl1, Ar1, -, qs1, qn1, -, -⟩ := vq1
  refine Wp.back (U' := (s₁.setTop (mkF m 3 #[.val (.ref vb), .val (.int (0 : Int32))] [(.int (2 : Int32)), (.int (0 : Int32))]))) (fun t k => X0.arraylength hx (by rw [e0]; exact Ar1.1) (State.isArrayOf_alike hZ.alike Ar1.2.1) (g := (mkF m 2 #[.val (.ref vb), .val (.int (0 : Int32))] [(.ref vb), (.int (0 : Int32))])) rfl rfl (hb hby n2_60d8_2) t (by rw [len_of qs1 qn1]; exact k)) ?_
  obtain ⟨_, _, ⟨T2, L2, k2, n2⟩, -, X2, ⟨Lc2, hQ2, l2, y2, z2⟩, st2⟩ := Jvm.LawKit.callS X0 hx (y := (⟨"java/lang/String", "checkIndex", "(II)V"⟩ : MethodName)) hown (mvT hZ (hw _ (List.mem_of_getElem? (i := 54) rfl))) (mvT hZ (hw _ (List.mem_of_getElem? (i := 55) rfl))) (mvT hZ (hw _ (List.mem_of_getElem? (i := 28) rfl))) (mvT hZ (hw _ (List.mem_of_getElem? (i := 56) rfl))) (by decide) (backOf (W := 0) (rm_sci2 l Z a0 hw []  rf h0 n0 Z0 H1 isr_rf) hZ (hw _ (List.mem_of_getElem? (i := 56) rfl)) (hw _ (List.mem_of_getElem? (i := 28) rfl)) (by decide) (by decide)) (g := (mkF m 3 #[.val (.ref vb), .val (.int (0 : Int32))] [(.int (2 : Int32)), (.int (0 : Int32))])) rfl (by rw [hml]; rfl) (argsL := [(.int (0 : Int32)), (.int (2 : Int32))]) (rest := []) (lenOf n2_60pd8_0 rfl) rfl (by show 2 * 0 + _ ≤ _; exact Nat.le_of_eq rfl) (hb hby n2_60d8_3) (fun _ _ => ⟨rfl, e0, (by decide : 0 + 0 ≤ _), (by decide : 0 + 0 ≤ _)⟩)
  dsimp only [Pt.U, Pt.locs, Pt.cells, Pt.slots] at X2 l2 y2 z2 st2 hQ2
  subst l2 y2 z2
  obtain ⟨rfl, N2q, K2⟩ := hQ2
  have f3_0 := Nat.le_trans Z0 K2.1
  have f3_1 := H0.keep K2 nin0
  have f3_2 := Sta_keep0 H1 K2
  have f3_3 := (Keep.refl h0 []).trans K2 all0
  have N2 := Fr.app N0 N2q
  refine Wp.back (U' := (T2.setTop (mkF m 6 #[.val (.ref vb), .val (.int (0 : Int32))] []))) st2 ?_
  refine Wp.back (U' := (T2.setTop (mkF m 8 #[.val (.ref vb), .val (.int (0 : Int32))] [(.int (0 : Int32)), (.ref vb)]))) (fun t k => XS.aloadN X2.here hx rfl (hb hby n2_60d8_6) rfl rfl (XS.iloadN X2.here hx rfl (hb hby n2_60d8_7) rfl k)) ?_
  have vq4 := f3_1
  obtain ⟨cl4, Ar4, qa4, qs4, qn4, qh4, qg4⟩ := vq4
  have hin4 : ¬ ((0 : Int32) < 0 ∨ cl4.slots.size ≤ ((0 : Int32)).toNatClampNeg) := inb_of qs4 ⟨by decide, by decide⟩
  have hat4 : cl4.slots[((0 : Int32)).toNatClampNeg]? = some (.int (60 : Int32)) := Has.at qh4 hin4 rfl
  refine Wp.back (U' := (T2.setTop (mkF m 9 #[.val (.ref vb), .val (.int (0 : Int32))] [(.int (60 : Int32))]))) (fun t k => X2.baloadBytes hx (j := (0 : Int32)) (v := (.int (60 : Int32))) Ar4.1 (State.isArrayOf_alike hZ.alike Ar4.2.1) Ar4.2.2 hin4 hat4 (g := (mkF m 8 #[.val (.ref vb), .val (.int (0 : Int32))] [(.int (0 : Int32)), (.ref vb)])) rfl rfl (hb hby n2_60d8_8) t k) ?_
  refine Wp.back (U' := (T2.setTop (mkF m 14 #[.val (.ref vb), .val (.int (0 : Int32))] [(.int (60 : Int32))]))) (fun t k => XT.sipushV X2.here hx rfl (255 : Int32) (hb hby n2_60d8_9) (by decide) (XS.iand X2.here hx rfl (hb hby n2_60d8_12) rfl (XS.i2c X2.here hx rfl (hb hby n2_60d8_13) rfl k))) ?_
  obtain ⟨fs, hr, hrun, hended, hW, hsame⟩ := X2.leave (v := (some (.int (60 : Int32)))) (fun h => by rw [hret] at h; cases h)
  refine Wp.done (retN X2 hx (t := .char) hret (by simp) (hb hby n2_60d8_14) hr) hrun hended ⟨_, _, rfl, ?_, ⟨_, rfl⟩, hW, hsame.mono (by decide) (by decide)⟩
  show Q_lca2_60 Z vb rf kb v1 h0 n0 _ T2.heap _
  exact ⟨rfl, N2, f3_3⟩
def Q_ch2_60 (Z : State) (ar : Addr) (rf : Value) (cs : Int32) (vb : Addr) (kb : ClassId) (v1 : Int32) (h0 : Heap) (n0 : Nat) (v : Option Value) (h : Heap) (L : List Loc) : Prop := v = some (.int (60 : Int32)) ∧ Fr n0 L ∧ Keep h0 h []
theorem n2_60d6_0 : decode jdk_42_method_56_code 0 = .ok (.aload_n 0, 1) := by decide +kernel
theorem n2_60d6_1 : decode jdk_42_method_56_code 1 = .ok (.invokevirtual 492, 3) := by decide +kernel
theorem n2_60d6_4 : decode jdk_42_method_56_code 4 = .ok (.ifCond .eq 12, 3) := by decide +kernel
theorem n2_60d6_7 : decode jdk_42_method_56_code 7 = .ok (.aload_n 0, 1) := by decide +kernel
theorem n2_60d6_8 : decode jdk_42_method_56_code 8 = .ok (.getfield 9, 3) := by decide +kernel
theorem n2_60d6_11 : decode jdk_42_method_56_code 11 = .ok (.iload_n 1, 1) := by decide +kernel
theorem n2_60d6_12 : decode jdk_42_method_56_code 12 = .ok (.invokestatic 495, 3) := by decide +kernel
theorem n2_60d6_15 : decode jdk_42_method_56_code 15 = .ok (.ireturn, 1) := by decide +kernel
theorem n2_60pd6_0 : parseMethodDescriptor "()Z" = some ⟨[], some .boolean⟩ := by decide +kernel
theorem n2_60pd6_1 : parseMethodDescriptor "([BI)C" = some ⟨[(.array .byte), .int], some .char⟩ := by decide +kernel
theorem n2_60pn6 : plainName "java/lang/String" = true := by first | (simp [plainName, overriddenIn]; done) | decide +kernel
theorem n2_60ef6 (m : MethodId) (x0 : Addr) (x1 : Int32) : entryFrame m #[(.ref x0), (.int x1)] 2 = mkF m 0 #[.val (.ref x0), .val (.int x1)] [] := by first | (simp [entryFrame, mkF, argsToLocals, Value.category]; done) | rfl
set_option maxRecDepth 65536 in
set_option maxHeartbeats 40000000 in
theorem rm_ch2_60 (l : Launch) (Z : State) (a0 : Array Value) (hw : ∀ d ∈ tables_1, d.before a0 Z = true) (ws : List Jvm.Cond) (ar : Addr) (rf : Value) (cs : Int32) (vb : Addr) (kb : ClassId) (v1 : Int32) (h0 : Heap) (n0 : Nat) (Z0 : n0 ≤ h0.size) (H0 : Exa Z h0 ar "java/lang/String") (H1 : Fld Z h0 ar "java/lang/String" "value" "[B" (.ref vb)) (H2 : Fld Z h0 ar "java/lang/String" "coder" "B" (.int (0 : Int32))) (H3 : Arv Z h0 vb kb .byte (2 : Int32) [(.int (60 : Int32)), (.int v1)] (.int (0 : Int32))) (H4 : Sta Z h0 "java/lang/String" "COMPACT_STRINGS" "Z" (.int cs)) (H5 : Sta Z h0 "jdk/internal/util/Preconditions" "SIOOBE_FORMATTER" "Ljava/util/function/BiFunction;" rf) (isr_rf : rf.isRef = true) (hcs : ¬ cs = (0 : Int32)) :
    MetFree l (⟨"java/lang/String", "charAt", "(I)C"⟩ : MethodName) (head1 (Jvm.Cond.code (⟨"java/lang/String", "charAt", "(I)C"⟩ : MethodName) jdk_42_method_56_code 2 (some .char) :: ws) ({ frames := 3, cells := 0, slots := 0, locals := 40 } : Room)) (fun a U => a = #[(.ref ar), (.int (0 : Int32))] ∧ Z.Warmed39 U.vm ∧ U.heap = h0) (fun _ _ _ _ _ => True) (fun _ U o U' => ∃ v L, o = .returned v ∧ Q_ch2_60 Z ar rf cs vb kb v1 h0 n0 v U'.heap L ∧ FrameEnd U o U' L ({ frames := 3, cells := 0, slots := 0, locals := 40 } : Room).cells ({ frames := 3, cells := 0, slots := 0, locals := 40 } : Room).slots) := by
  refine MetFree.of_bodySF (plainFor_of_name n2_60pn6) hisR ?_
  intro p e s m args below meth c s₁ Bd hml0 hP hK
  obtain ⟨rfl, hZ, hh⟩ := hP
  have hx := Bd.exec
  have hby := Bd.bytes
  have hret := Bd.returns
  have hlk := Bd.notSynchronized
  have hml : c.maxLocals = 2 := hml0
  have hown : s.vm.findClass "java/lang/String" = some m.cls := findClass_of_methodNamed Bd.named
  have hnm := (name_of_methodNamed Bd.named Bd.method).1
  have X0 : Stand p l e ({ frames := 3, cells := 0, slots := 0, locals := 40 } : Room) s m #[(.ref ar), (.int (0 : Int32))] below meth c s₁ [] 0 0 := Stand.of_body Bd
  have e0 : s₁.heap = h0 := by rw [← hh, Bd.state]; rfl
  have N0 := Fr.nil n0
  show Wp p e below (fun o s₂ => ∃ v L, o = .returned v ∧ Q_ch2_60 Z ar rf cs vb kb v1 h0 n0 v s₂.heap L ∧ FrameEnd s o s₂ L ({ frames := 3, cells := 0, slots := 0, locals := 40 } : Room).cells ({ frames := 3, cells := 0, slots := 0, locals := 40 } : Room).slots) _
  refine Wp.back (U' := (s₁.setTop (mkF m 0 #[.val (.ref ar), .val (.int (0 : Int32))] []))) (fun t k => castTop (n2_60ef6 m ar (0 : Int32)) k) ?_
  refine Wp.back (U' := (s₁.setTop (mkF m 1 #[.val (.ref ar), .val (.int (0 : Int32))] [(.ref ar)]))) (fun t k => XS.aloadN X0.here hx rfl (hb hby n2_60d6_0) rfl rfl k) ?_
  obtain ⟨cq1, kq1, q1a, q1b, q1c⟩ := isOf hZ e0 H0
  obtain ⟨_, _, ⟨T1, L1, k1, n1⟩, -, X1, ⟨Lc1, hQ1, l1, y1, z1⟩, st1⟩ := X0.virtualBack hx (y := (⟨"java/lang/String", "isLatin1", "()Z"⟩ : MethodName)) (z := (⟨"java/lang/String", "isLatin1", "()Z"⟩ : MethodName)) hown (mvT hZ (hw _ (List.mem_of_getElem? (i := 45) rfl))) (mvT hZ (hw _ (List.mem_of_getElem? (i := 46) rfl))) (notFace_of_selects (args := #[]) (mvT hZ (hw _ (List.mem_of_getElem? (i := 48) rfl)))) (mvT hZ (hw _ (List.mem_of_getElem? (i := 48) rfl))) (mvT hZ (hw _ (List.mem_of_getElem? (i := 47) rfl))) (by decide) (backOf (W := 0) (rm_isLatin1 l Z a0 hw [] ar cs h0 n0 Z0 H4 H2 hcs) hZ (hw _ (List.mem_of_getElem? (i := 49) rfl)) (hw _ (List.mem_of_getElem? (i := 28) rfl)) (by decide) (by decide)) q1a q1c (g := (mkF m 1 #[.val (.ref ar), .val (.int (0 : Int32))] [(.ref ar)])) rfl (by rw [hml]; rfl) (Steps.refl _) (argsL := []) (rest := []) (lenOf n2_60pd6_0 rfl) rfl (by show 2 * 0 + _ ≤ _; exact Nat.le_of_eq rfl) (hb hby n2_60d6_1) (fun _ _ => ⟨rfl, e0, (by decide : 0 + 0 ≤ _), (by decide : 0 + 0 ≤ _)⟩)
  dsimp only [Pt.U, Pt.locs, Pt.cells, Pt.slots] at X1 l1 y1 z1 st1 hQ1
  subst l1 y1 z1
  obtain ⟨rfl, N1q, K1⟩ := hQ1
  have f2_0 := Nat.le_trans Z0 K1.1
  have f2_1 := H0.keep K1
  have f2_2 := H1.keep K1 nin0
  have f2_3 := H2.keep K1 nin0
  have f2_4 := H3.keep K1 nin0
  have f2_5 := Sta_keep0 H4 K1
  have f2_6 := Sta_keep0 H5 K1
  have f2_7 := (Keep.refl h0 []).trans K1 all0
  have N1 := Fr.app N0 N1q
  refine Wp.back (U' := (T1.setTop (mkF m 4 #[.val (.ref ar), .val (.int (0 : Int32))] [(.int (1 : Int32))]))) (fun t k => st1.trans k) ?_
  refine Wp.back (U' := (T1.setTop (mkF m 8 #[.val (.ref ar), .val (.int (0 : Int32))] [(.ref ar)]))) (fun t k => XS.ifNo X1.here hx rfl (hb hby n2_60d6_4) rfl ((if0 _ _).trans (feq (by decide)).1) (XS.aloadN X1.here hx rfl (hb hby n2_60d6_7) rfl rfl k)) ?_
  obtain ⟨T3, X3, e3, st3⟩ := getF X1 hx hZ hown (host := "") (Or.inl (hw _ (List.mem_of_getElem? (i := 30) rfl))) Via.refl rfl f2_2 (g := (mkF m 8 #[.val (.ref ar), .val (.int (0 : Int32))] [(.ref ar)])) rfl rfl (hb hby n2_60d6_8)
  refine Wp.back (U' := (T3.setTop (mkF m 11 #[.val (.ref ar), .val (.int (0 : Int32))] [(.ref vb)]))) st3 ?_
  refine Wp.back (U' := (T3.setTop (mkF m 12 #[.val (.ref ar), .val (.int (0 : Int32))] [(.int (0 : Int32)), (.ref vb)]))) (fun t k => XS.iloadN X3.here hx rfl (hb hby n2_60d6_11) rfl k) ?_
  obtain ⟨_, _, ⟨T4, L4, k4, n4⟩, -, X4, ⟨Lc4, hQ4, l4, y4, z4⟩, st4⟩ := Jvm.LawKit.callS X3 hx (y := (⟨"java/lang/StringLatin1", "charAt", "([BI)C"⟩ : MethodName)) hown (mvT hZ (hw _ (List.mem_of_getElem? (i := 50) rfl))) (mvT hZ (hw _ (List.mem_of_getElem? (i := 51) rfl))) (mvT hZ (hw _ (List.mem_of_getElem? (i := 52) rfl))) (mvT hZ (hw _ (List.mem_of_getElem? (i := 53) rfl))) (by decide) (backOf (W := 0) (rm_lca2_60 l Z a0 hw [] vb rf kb v1 T1.heap n0 f2_0 f2_4 f2_6 isr_rf) hZ (hw _ (List.mem_of_getElem? (i := 53) rfl)) (hw _ (List.mem_of_getElem? (i := 52) rfl)) (by decide) (by decide)) (g := (mkF m 12 #[.val (.ref ar), .val (.int (0 : Int32))] [(.int (0 : Int32)), (.ref vb)])) rfl (by rw [hml]; rfl) (argsL := [(.ref vb), (.int (0 : Int32))]) (rest := []) (lenOf n2_60pd6_1 rfl) rfl (by show 2 * 0 + _ ≤ _; exact Nat.le_of_eq rfl) (hb hby n2_60d6_12) (fun _ _ => ⟨rfl, e3, (by decide : 0 + 0 ≤ _), (by decide : 0 + 0 ≤ _)⟩)
  dsimp only [Pt.U, Pt.locs, Pt.cells, Pt.slots] at X4 l4 y4 z4 st4 hQ4
  subst l4 y4 z4
  obtain ⟨rfl, N4q, K4⟩ := hQ4
  have f5_0 := Nat.le_trans f2_0 K4.1
  have f5_1 := f2_1.keep K4
  have f5_2 := f2_2.keep K4 nin0
  have f5_3 := f2_3.keep K4 nin0
  have f5_4 := f2_4.keep K4 nin0
  have f5_5 := Sta_keep0 f2_5 K4
  have f5_6 := Sta_keep0 f2_6 K4
  have f5_7 := f2_7.trans K4 all0
  have N4 := Fr.app N1 N4q
  refine Wp.back (U' := (T4.setTop (mkF m 15 #[.val (.ref ar), .val (.int (0 : Int32))] [(.int (60 : Int32))]))) st4 ?_
  obtain ⟨fs, hr, hrun, hended, hW, hsame⟩ := X4.leave (v := (some (.int (60 : Int32)))) (fun h => by rw [hret] at h; cases h)
  refine Wp.done (retN X4 hx (t := .char) hret (by simp) (hb hby n2_60d6_15) hr) hrun hended ⟨_, _, rfl, ?_, ⟨_, rfl⟩, hW, hsame.mono (by decide) (by decide)⟩
  show Q_ch2_60 Z ar rf cs vb kb v1 h0 n0 _ T4.heap _
  exact ⟨rfl, N4, f5_7⟩
def Q_lca2_62 (Z : State) (vb : Addr) (rf : Value) (kb : ClassId) (v1 : Int32) (h0 : Heap) (n0 : Nat) (v : Option Value) (h : Heap) (L : List Loc) : Prop := v = some (.int (62 : Int32)) ∧ Fr n0 L ∧ Keep h0 h []
theorem n2_62d8_0 : decode jdk_43_method_2_code 0 = .ok (.iload_n 1, 1) := by decide +kernel
theorem n2_62d8_1 : decode jdk_43_method_2_code 1 = .ok (.aload_n 0, 1) := by decide +kernel
theorem n2_62d8_2 : decode jdk_43_method_2_code 2 = .ok (.arraylength, 1) := by decide +kernel
theorem n2_62d8_3 : decode jdk_43_method_2_code 3 = .ok (.invokestatic 9, 3) := by decide +kernel
theorem n2_62d8_6 : decode jdk_43_method_2_code 6 = .ok (.aload_n 0, 1) := by decide +kernel
theorem n2_62d8_7 : decode jdk_43_method_2_code 7 = .ok (.iload_n 1, 1) := by decide +kernel
theorem n2_62d8_8 : decode jdk_43_method_2_code 8 = .ok (.baload, 1) := by decide +kernel
theorem n2_62d8_9 : decode jdk_43_method_2_code 9 = .ok (.sipush 255, 3) := by decide +kernel
theorem n2_62d8_12 : decode jdk_43_method_2_code 12 = .ok (.iand, 1) := by decide +kernel
theorem n2_62d8_13 : decode jdk_43_method_2_code 13 = .ok (.i2c, 1) := by decide +kernel
theorem n2_62d8_14 : decode jdk_43_method_2_code 14 = .ok (.ireturn, 1) := by decide +kernel
theorem n2_62pd8_0 : parseMethodDescriptor "(II)V" = some ⟨[.int, .int], none⟩ := by decide +kernel
theorem n2_62pn8 : plainName "java/lang/StringLatin1" = true := by first | (simp [plainName, overriddenIn]; done) | decide +kernel
theorem n2_62ef8 (m : MethodId) (x0 : Addr) (x1 : Int32) : entryFrame m #[(.ref x0), (.int x1)] 2 = mkF m 0 #[.val (.ref x0), .val (.int x1)] [] := by first | (simp [entryFrame, mkF, argsToLocals, Value.category]; done) | rfl
set_option maxRecDepth 65536 in
set_option maxHeartbeats 40000000 in
theorem rm_lca2_62 (l : Launch) (Z : State) (a0 : Array Value) (hw : ∀ d ∈ tables_1, d.before a0 Z = true) (ws : List Jvm.Cond) (vb : Addr) (rf : Value) (kb : ClassId) (v1 : Int32) (h0 : Heap) (n0 : Nat) (Z0 : n0 ≤ h0.size) (H0 : Arv Z h0 vb kb .byte (2 : Int32) [(.int (62 : Int32)), (.int v1)] (.int (0 : Int32))) (H1 : Sta Z h0 "jdk/internal/util/Preconditions" "SIOOBE_FORMATTER" "Ljava/util/function/BiFunction;" rf) (isr_rf : rf.isRef = true) :
    MetFree l (⟨"java/lang/StringLatin1", "charAt", "([BI)C"⟩ : MethodName) (head1 (Jvm.Cond.code (⟨"java/lang/StringLatin1", "charAt", "([BI)C"⟩ : MethodName) jdk_43_method_2_code 2 (some .char) :: ws) ({ frames := 2, cells := 0, slots := 0, locals := 27 } : Room)) (fun a U => a = #[(.ref vb), (.int (0 : Int32))] ∧ Z.Warmed39 U.vm ∧ U.heap = h0) (fun _ _ _ _ _ => True) (fun _ U o U' => ∃ v L, o = .returned v ∧ Q_lca2_62 Z vb rf kb v1 h0 n0 v U'.heap L ∧ FrameEnd U o U' L ({ frames := 2, cells := 0, slots := 0, locals := 27 } : Room).cells ({ frames := 2, cells := 0, slots := 0, locals := 27 } : Room).slots) := by
  refine MetFree.of_bodySF (plainFor_of_name n2_62pn8) hisR ?_
  intro p e s m args below meth c s₁ Bd hml0 hP hK
  obtain ⟨rfl, hZ, hh⟩ := hP
  have hx := Bd.exec
  have hby := Bd.bytes
  have hret := Bd.returns
  have hlk := Bd.notSynchronized
  have hml : c.maxLocals = 2 := hml0
  have hown : s.vm.findClass "java/lang/StringLatin1" = some m.cls := findClass_of_methodNamed Bd.named
  have hnm := (name_of_methodNamed Bd.named Bd.method).1
  have X0 : Stand p l e ({ frames := 2, cells := 0, slots := 0, locals := 27 } : Room) s m #[(.ref vb), (.int (0 : Int32))] below meth c s₁ [] 0 0 := Stand.of_body Bd
  have e0 : s₁.heap = h0 := by rw [← hh, Bd.state]; rfl
  have N0 := Fr.nil n0
  show Wp p e below (fun o s₂ => ∃ v L, o = .returned v ∧ Q_lca2_62 Z vb rf kb v1 h0 n0 v s₂.heap L ∧ FrameEnd s o s₂ L ({ frames := 2, cells := 0, slots := 0, locals := 27 } : Room).cells ({ frames := 2, cells := 0, slots := 0, locals := 27 } : Room).slots) _
  refine Wp.back (U' := (s₁.setTop (mkF m 0 #[.val (.ref vb), .val (.int (0 : Int32))] []))) (fun t k => castTop (n2_62ef8 m vb (0 : Int32)) k) ?_
  refine Wp.back (U' := (s₁.setTop (mkF m 2 #[.val (.ref vb), .val (.int (0 : Int32))] [(.ref vb), (.int (0 : Int32))]))) (fun t k => XS.iloadN X0.here hx rfl (hb hby n2_62d8_0) rfl (XS.aloadN X0.here hx rfl (hb hby n2_62d8_1) rfl rfl k)) ?_
  have vq1 := H0
  obtain ⟨cl1, Ar1, -, qs1, qn1, -, -⟩ := vq1
  refine Wp.back (U' := (s₁.setTop (mkF m 3 #[.val (.ref vb), .val (.int (0 : Int32))] [(.int (2 : Int32)), (.int (0 : Int32))]))) (fun t k => X0.arraylength hx (by rw [e0]; exact Ar1.1) (State.isArrayOf_alike hZ.alike Ar1.2.1) (g := (mkF m 2 #[.val (.ref vb), .val (.int (0 : Int32))] [(.ref vb), (.int (0 : Int32))])) rfl rfl (hb hby n2_62d8_2) t (by rw [len_of qs1 qn1]; exact k)) ?_
  obtain ⟨_, _, ⟨T2, L2, k2, n2⟩, -, X2, ⟨Lc2, hQ2, l2, y2, z2⟩, st2⟩ := Jvm.LawKit.callS X0 hx (y := (⟨"java/lang/String", "checkIndex", "(II)V"⟩ : MethodName)) hown (mvT hZ (hw _ (List.mem_of_getElem? (i := 54) rfl))) (mvT hZ (hw _ (List.mem_of_getElem? (i := 55) rfl))) (mvT hZ (hw _ (List.mem_of_getElem? (i := 28) rfl))) (mvT hZ (hw _ (List.mem_of_getElem? (i := 56) rfl))) (by decide) (backOf (W := 0) (rm_sci2 l Z a0 hw []  rf h0 n0 Z0 H1 isr_rf) hZ (hw _ (List.mem_of_getElem? (i := 56) rfl)) (hw _ (List.mem_of_getElem? (i := 28) rfl)) (by decide) (by decide)) (g := (mkF m 3 #[.val (.ref vb), .val (.int (0 : Int32))] [(.int (2 : Int32)), (.int (0 : Int32))])) rfl (by rw [hml]; rfl) (argsL := [(.int (0 : Int32)), (.int (2 : Int32))]) (rest := []) (lenOf n2_62pd8_0 rfl) rfl (by show 2 * 0 + _ ≤ _; exact Nat.le_of_eq rfl) (hb hby n2_62d8_3) (fun _ _ => ⟨rfl, e0, (by decide : 0 + 0 ≤ _), (by decide : 0 + 0 ≤ _)⟩)
  dsimp only [Pt.U, Pt.locs, Pt.cells, Pt.slots] at X2 l2 y2 z2 st2 hQ2
  subst l2 y2 z2
  obtain ⟨rfl, N2q, K2⟩ := hQ2
  have f3_0 := Nat.le_trans Z0 K2.1
  have f3_1 := H0.keep K2 nin0
  have f3_2 := Sta_keep0 H1 K2
  have f3_3 := (Keep.refl h0 []).trans K2 all0
  have N2 := Fr.app N0 N2q
  refine Wp.back (U' := (T2.setTop (mkF m 6 #[.val (.ref vb), .val (.int (0 : Int32))] []))) st2 ?_
  refine Wp.back (U' := (T2.setTop (mkF m 8 #[.val (.ref vb), .val (.int (0 : Int32))] [(.int (0 : Int32)), (.ref vb)]))) (fun t k => XS.aloadN X2.here hx rfl (hb hby n2_62d8_6) rfl rfl (XS.iloadN X2.here hx rfl (hb hby n2_62d8_7) rfl k)) ?_
  have vq4 := f3_1
  obtain ⟨cl4, Ar4, qa4, qs4, qn4, qh4, qg4⟩ := vq4
  have hin4 : ¬ ((0 : Int32) < 0 ∨ cl4.slots.size ≤ ((0 : Int32)).toNatClampNeg) := inb_of qs4 ⟨by decide, by decide⟩
  have hat4 : cl4.slots[((0 : Int32)).toNatClampNeg]? = some (.int (62 : Int32)) := Has.at qh4 hin4 rfl
  refine Wp.back (U' := (T2.setTop (mkF m 9 #[.val (.ref vb), .val (.int (0 : Int32))] [(.int (62 : Int32))]))) (fun t k => X2.baloadBytes hx (j := (0 : Int32)) (v := (.int (62 : Int32))) Ar4.1 (State.isArrayOf_alike hZ.alike Ar4.2.1) Ar4.2.2 hin4 hat4 (g := (mkF m 8 #[.val (.ref vb), .val (.int (0 : Int32))] [(.int (0 : Int32)), (.ref vb)])) rfl rfl (hb hby n2_62d8_8) t k) ?_
  refine Wp.back (U' := (T2.setTop (mkF m 14 #[.val (.ref vb), .val (.int (0 : Int32))] [(.int (62 : Int32))]))) (fun t k => XT.sipushV X2.here hx rfl (255 : Int32) (hb hby n2_62d8_9) (by decide) (XS.iand X2.here hx rfl (hb hby n2_62d8_12) rfl (XS.i2c X2.here hx rfl (hb hby n2_62d8_13) rfl k))) ?_
  obtain ⟨fs, hr, hrun, hended, hW, hsame⟩ := X2.leave (v := (some (.int (62 : Int32)))) (fun h => by rw [hret] at h; cases h)
  refine Wp.done (retN X2 hx (t := .char) hret (by simp) (hb hby n2_62d8_14) hr) hrun hended ⟨_, _, rfl, ?_, ⟨_, rfl⟩, hW, hsame.mono (by decide) (by decide)⟩
  show Q_lca2_62 Z vb rf kb v1 h0 n0 _ T2.heap _
  exact ⟨rfl, N2, f3_3⟩
def Q_ch2_62 (Z : State) (ar : Addr) (rf : Value) (cs : Int32) (vb : Addr) (kb : ClassId) (v1 : Int32) (h0 : Heap) (n0 : Nat) (v : Option Value) (h : Heap) (L : List Loc) : Prop := v = some (.int (62 : Int32)) ∧ Fr n0 L ∧ Keep h0 h []
theorem n2_62d6_0 : decode jdk_42_method_56_code 0 = .ok (.aload_n 0, 1) := by decide +kernel
theorem n2_62d6_1 : decode jdk_42_method_56_code 1 = .ok (.invokevirtual 492, 3) := by decide +kernel
theorem n2_62d6_4 : decode jdk_42_method_56_code 4 = .ok (.ifCond .eq 12, 3) := by decide +kernel
theorem n2_62d6_7 : decode jdk_42_method_56_code 7 = .ok (.aload_n 0, 1) := by decide +kernel
theorem n2_62d6_8 : decode jdk_42_method_56_code 8 = .ok (.getfield 9, 3) := by decide +kernel
theorem n2_62d6_11 : decode jdk_42_method_56_code 11 = .ok (.iload_n 1, 1) := by decide +kernel
theorem n2_62d6_12 : decode jdk_42_method_56_code 12 = .ok (.invokestatic 495, 3) := by decide +kernel
theorem n2_62d6_15 : decode jdk_42_method_56_code 15 = .ok (.ireturn, 1) := by decide +kernel
theorem n2_62pd6_0 : parseMethodDescriptor "()Z" = some ⟨[], some .boolean⟩ := by decide +kernel
theorem n2_62pd6_1 : parseMethodDescriptor "([BI)C" = some ⟨[(.array .byte), .int], some .char⟩ := by decide +kernel
theorem n2_62pn6 : plainName "java/lang/String" = true := by first | (simp [plainName, overriddenIn]; done) | decide +kernel
theorem n2_62ef6 (m : MethodId) (x0 : Addr) (x1 : Int32) : entryFrame m #[(.ref x0), (.int x1)] 2 = mkF m 0 #[.val (.ref x0), .val (.int x1)] [] := by first | (simp [entryFrame, mkF, argsToLocals, Value.category]; done) | rfl
set_option maxRecDepth 65536 in
set_option maxHeartbeats 40000000 in
theorem rm_ch2_62 (l : Launch) (Z : State) (a0 : Array Value) (hw : ∀ d ∈ tables_1, d.before a0 Z = true) (ws : List Jvm.Cond) (ar : Addr) (rf : Value) (cs : Int32) (vb : Addr) (kb : ClassId) (v1 : Int32) (h0 : Heap) (n0 : Nat) (Z0 : n0 ≤ h0.size) (H0 : Exa Z h0 ar "java/lang/String") (H1 : Fld Z h0 ar "java/lang/String" "value" "[B" (.ref vb)) (H2 : Fld Z h0 ar "java/lang/String" "coder" "B" (.int (0 : Int32))) (H3 : Arv Z h0 vb kb .byte (2 : Int32) [(.int (62 : Int32)), (.int v1)] (.int (0 : Int32))) (H4 : Sta Z h0 "java/lang/String" "COMPACT_STRINGS" "Z" (.int cs)) (H5 : Sta Z h0 "jdk/internal/util/Preconditions" "SIOOBE_FORMATTER" "Ljava/util/function/BiFunction;" rf) (isr_rf : rf.isRef = true) (hcs : ¬ cs = (0 : Int32)) :
    MetFree l (⟨"java/lang/String", "charAt", "(I)C"⟩ : MethodName) (head1 (Jvm.Cond.code (⟨"java/lang/String", "charAt", "(I)C"⟩ : MethodName) jdk_42_method_56_code 2 (some .char) :: ws) ({ frames := 3, cells := 0, slots := 0, locals := 40 } : Room)) (fun a U => a = #[(.ref ar), (.int (0 : Int32))] ∧ Z.Warmed39 U.vm ∧ U.heap = h0) (fun _ _ _ _ _ => True) (fun _ U o U' => ∃ v L, o = .returned v ∧ Q_ch2_62 Z ar rf cs vb kb v1 h0 n0 v U'.heap L ∧ FrameEnd U o U' L ({ frames := 3, cells := 0, slots := 0, locals := 40 } : Room).cells ({ frames := 3, cells := 0, slots := 0, locals := 40 } : Room).slots) := by
  refine MetFree.of_bodySF (plainFor_of_name n2_62pn6) hisR ?_
  intro p e s m args below meth c s₁ Bd hml0 hP hK
  obtain ⟨rfl, hZ, hh⟩ := hP
  have hx := Bd.exec
  have hby := Bd.bytes
  have hret := Bd.returns
  have hlk := Bd.notSynchronized
  have hml : c.maxLocals = 2 := hml0
  have hown : s.vm.findClass "java/lang/String" = some m.cls := findClass_of_methodNamed Bd.named
  have hnm := (name_of_methodNamed Bd.named Bd.method).1
  have X0 : Stand p l e ({ frames := 3, cells := 0, slots := 0, locals := 40 } : Room) s m #[(.ref ar), (.int (0 : Int32))] below meth c s₁ [] 0 0 := Stand.of_body Bd
  have e0 : s₁.heap = h0 := by rw [← hh, Bd.state]; rfl
  have N0 := Fr.nil n0
  show Wp p e below (fun o s₂ => ∃ v L, o = .returned v ∧ Q_ch2_62 Z ar rf cs vb kb v1 h0 n0 v s₂.heap L ∧ FrameEnd s o s₂ L ({ frames := 3, cells := 0, slots := 0, locals := 40 } : Room).cells ({ frames := 3, cells := 0, slots := 0, locals := 40 } : Room).slots) _
  refine Wp.back (U' := (s₁.setTop (mkF m 0 #[.val (.ref ar), .val (.int (0 : Int32))] []))) (fun t k => castTop (n2_62ef6 m ar (0 : Int32)) k) ?_
  refine Wp.back (U' := (s₁.setTop (mkF m 1 #[.val (.ref ar), .val (.int (0 : Int32))] [(.ref ar)]))) (fun t k => XS.aloadN X0.here hx rfl (hb hby n2_62d6_0) rfl rfl k) ?_
  obtain ⟨cq1, kq1, q1a, q1b, q1c⟩ := isOf hZ e0 H0
  obtain ⟨_, _, ⟨T1, L1, k1, n1⟩, -, X1, ⟨Lc1, hQ1, l1, y1, z1⟩, st1⟩ := X0.virtualBack hx (y := (⟨"java/lang/String", "isLatin1", "()Z"⟩ : MethodName)) (z := (⟨"java/lang/String", "isLatin1", "()Z"⟩ : MethodName)) hown (mvT hZ (hw _ (List.mem_of_getElem? (i := 45) rfl))) (mvT hZ (hw _ (List.mem_of_getElem? (i := 46) rfl))) (notFace_of_selects (args := #[]) (mvT hZ (hw _ (List.mem_of_getElem? (i := 48) rfl)))) (mvT hZ (hw _ (List.mem_of_getElem? (i := 48) rfl))) (mvT hZ (hw _ (List.mem_of_getElem? (i := 47) rfl))) (by decide) (backOf (W := 0) (rm_isLatin1 l Z a0 hw [] ar cs h0 n0 Z0 H4 H2 hcs) hZ (hw _ (List.mem_of_getElem? (i := 49) rfl)) (hw _ (List.mem_of_getElem? (i := 28) rfl)) (by decide) (by decide)) q1a q1c (g := (mkF m 1 #[.val (.ref ar), .val (.int (0 : Int32))] [(.ref ar)])) rfl (by rw [hml]; rfl) (Steps.refl _) (argsL := []) (rest := []) (lenOf n2_62pd6_0 rfl) rfl (by show 2 * 0 + _ ≤ _; exact Nat.le_of_eq rfl) (hb hby n2_62d6_1) (fun _ _ => ⟨rfl, e0, (by decide : 0 + 0 ≤ _), (by decide : 0 + 0 ≤ _)⟩)
  dsimp only [Pt.U, Pt.locs, Pt.cells, Pt.slots] at X1 l1 y1 z1 st1 hQ1
  subst l1 y1 z1
  obtain ⟨rfl, N1q, K1⟩ := hQ1
  have f2_0 := Nat.le_trans Z0 K1.1
  have f2_1 := H0.keep K1
  have f2_2 := H1.keep K1 nin0
  have f2_3 := H2.keep K1 nin0
  have f2_4 := H3.keep K1 nin0
  have f2_5 := Sta_keep0 H4 K1
  have f2_6 := Sta_keep0 H5 K1
  have f2_7 := (Keep.refl h0 []).trans K1 all0
  have N1 := Fr.app N0 N1q
  refine Wp.back (U' := (T1.setTop (mkF m 4 #[.val (.ref ar), .val (.int (0 : Int32))] [(.int (1 : Int32))]))) (fun t k => st1.trans k) ?_
  refine Wp.back (U' := (T1.setTop (mkF m 8 #[.val (.ref ar), .val (.int (0 : Int32))] [(.ref ar)]))) (fun t k => XS.ifNo X1.here hx rfl (hb hby n2_62d6_4) rfl ((if0 _ _).trans (feq (by decide)).1) (XS.aloadN X1.here hx rfl (hb hby n2_62d6_7) rfl rfl k)) ?_
  obtain ⟨T3, X3, e3, st3⟩ := getF X1 hx hZ hown (host := "") (Or.inl (hw _ (List.mem_of_getElem? (i := 30) rfl))) Via.refl rfl f2_2 (g := (mkF m 8 #[.val (.ref ar), .val (.int (0 : Int32))] [(.ref ar)])) rfl rfl (hb hby n2_62d6_8)
  refine Wp.back (U' := (T3.setTop (mkF m 11 #[.val (.ref ar), .val (.int (0 : Int32))] [(.ref vb)]))) st3 ?_
  refine Wp.back (U' := (T3.setTop (mkF m 12 #[.val (.ref ar), .val (.int (0 : Int32))] [(.int (0 : Int32)), (.ref vb)]))) (fun t k => XS.iloadN X3.here hx rfl (hb hby n2_62d6_11) rfl k) ?_
  obtain ⟨_, _, ⟨T4, L4, k4, n4⟩, -, X4, ⟨Lc4, hQ4, l4, y4, z4⟩, st4⟩ := Jvm.LawKit.callS X3 hx (y := (⟨"java/lang/StringLatin1", "charAt", "([BI)C"⟩ : MethodName)) hown (mvT hZ (hw _ (List.mem_of_getElem? (i := 50) rfl))) (mvT hZ (hw _ (List.mem_of_getElem? (i := 51) rfl))) (mvT hZ (hw _ (List.mem_of_getElem? (i := 52) rfl))) (mvT hZ (hw _ (List.mem_of_getElem? (i := 53) rfl))) (by decide) (backOf (W := 0) (rm_lca2_62 l Z a0 hw [] vb rf kb v1 T1.heap n0 f2_0 f2_4 f2_6 isr_rf) hZ (hw _ (List.mem_of_getElem? (i := 53) rfl)) (hw _ (List.mem_of_getElem? (i := 52) rfl)) (by decide) (by decide)) (g := (mkF m 12 #[.val (.ref ar), .val (.int (0 : Int32))] [(.int (0 : Int32)), (.ref vb)])) rfl (by rw [hml]; rfl) (argsL := [(.ref vb), (.int (0 : Int32))]) (rest := []) (lenOf n2_62pd6_1 rfl) rfl (by show 2 * 0 + _ ≤ _; exact Nat.le_of_eq rfl) (hb hby n2_62d6_12) (fun _ _ => ⟨rfl, e3, (by decide : 0 + 0 ≤ _), (by decide : 0 + 0 ≤ _)⟩)
  dsimp only [Pt.U, Pt.locs, Pt.cells, Pt.slots] at X4 l4 y4 z4 st4 hQ4
  subst l4 y4 z4
  obtain ⟨rfl, N4q, K4⟩ := hQ4
  have f5_0 := Nat.le_trans f2_0 K4.1
  have f5_1 := f2_1.keep K4
  have f5_2 := f2_2.keep K4 nin0
  have f5_3 := f2_3.keep K4 nin0
  have f5_4 := f2_4.keep K4 nin0
  have f5_5 := Sta_keep0 f2_5 K4
  have f5_6 := Sta_keep0 f2_6 K4
  have f5_7 := f2_7.trans K4 all0
  have N4 := Fr.app N1 N4q
  refine Wp.back (U' := (T4.setTop (mkF m 15 #[.val (.ref ar), .val (.int (0 : Int32))] [(.int (62 : Int32))]))) st4 ?_
  obtain ⟨fs, hr, hrun, hended, hW, hsame⟩ := X4.leave (v := (some (.int (62 : Int32)))) (fun h => by rw [hret] at h; cases h)
  refine Wp.done (retN X4 hx (t := .char) hret (by simp) (hb hby n2_62d6_15) hr) hrun hended ⟨_, _, rfl, ?_, ⟨_, rfl⟩, hW, hsame.mono (by decide) (by decide)⟩
  show Q_ch2_62 Z ar rf cs vb kb v1 h0 n0 _ T4.heap _
  exact ⟨rfl, N4, f5_7⟩
theorem own_n (p0 : Int32) : ((p0 &&& (2147483647 : Int32)) % (5 : Int32)) = (0 : Int32) ∨ ((p0 &&& (2147483647 : Int32)) % (5 : Int32)) = (1 : Int32) ∨ ((p0 &&& (2147483647 : Int32)) % (5 : Int32)) = (2 : Int32) ∨ ((p0 &&& (2147483647 : Int32)) % (5 : Int32)) = (3 : Int32) ∨ ((p0 &&& (2147483647 : Int32)) % (5 : Int32)) = (4 : Int32) := by
  have h1 := c_mask p0 2147483647 31 (by decide) (by decide)
  have h2 := (c_irem (p0 &&& 2147483647) 5 5 (by decide)).1 (by omega)
  have e0 : (0 : Int32).toInt = 0 := by decide
  have e1 : (1 : Int32).toInt = 1 := by decide
  have e2 : (2 : Int32).toInt = 2 := by decide
  have e3 : (3 : Int32).toInt = 3 := by decide
  have e4 : (4 : Int32).toInt = 4 := by decide
  simp only [← Int32.toInt_inj, e0, e1, e2, e3, e4]
  omega
theorem own_fld {s : State} {args : Array Value} {t : Term} {C n d : String} {a : Addr} {v : Int32} (ev : t.eval args s none [] s = some (.ref a)) (h : (Cond.eq (.field t C n d) (.int v)).value args s none s [] = some true) : Fld s s.heap a C n d (.int v) := by
  refine Fld.start ?_
  have e := fld_at (C := C) (n := n) (dd := d) (first := s) (o := none) (idx := []) (args := args) ev
  have e2 : (Term.int v).eval args s none [] s = some (.int v) := rfl
  cases hf : s.fieldOf? a C n d with
  | none => simp [Cond.value, e, hf] at h
  | some u =>
    rw [hf] at e
    cases u <;> simp [Cond.value, e, e2] at h
    rw [h]
theorem own_fldR {s : State} {args : Array Value} {t : Term} {C n d : String} {a b : Addr} (ev : t.eval args s none [] s = some (.ref a)) (h : (Term.field t C n d).eval args s none [] s = some (.ref b)) : Fld s s.heap a C n d (.ref b) := by
  refine Fld.start ?_
  have e := fld_at (C := C) (n := n) (dd := d) (first := s) (o := none) (idx := []) (args := args) ev
  rw [← e]
  exact h
theorem own_len {s : State} {args : Array Value} {t : Term} {a : Addr} {cl : Cell} {n : Int32} {ty : FieldType} (A : Arr s s.heap a cl ty) (ev : t.eval args s none [] s = some (.ref a)) (hl : (Cond.eq (.length t) (.int n)).value args s none s [] = some true) : cl.slots.size < 2 ^ 31 ∧ cl.slots.size.toInt32 = n := by
  have ha : s.arrayAt? a = some cl := Arr.fin (Vm.Alike.refl _) A
  by_cases h : cl.slots.size < 2 ^ 31
  · have e1 := len_f (o := none) (first := s) (idx := []) (args := args) ev ha h
    have e2 : (Term.int n).eval args s none [] s = some (.int n) := rfl
    exact ⟨h, gotT (Cond.eq_ints e1 e2) hl⟩
  · exfalso
    simp [Cond.value, Term.eval, ev, ha, h] at hl
theorem own_el {s : State} {args : Array Value} {t : Term} {a : Addr} {cl : Cell} {j n : Int32} {ty : FieldType} (A : Arr s s.heap a cl ty) (ev : t.eval args s none [] s = some (.ref a)) (hj : ¬ j < 0) (h : (Cond.eq (.elem t (.int j)) (.int n)).value args s none s [] = some true) : cl.slots[j.toNatClampNeg]? = some (.int n) := by
  have ha : s.arrayAt? a = some cl := Arr.fin (Vm.Alike.refl _) A
  have e2 : (Term.int n).eval args s none [] s = some (.int n) := rfl
  have e1 := elem_f (o := none) (first := s) (idx := []) (args := args) (a := .int j) (j := j) ev rfl ha hj
  cases hf : cl.slots[j.toNatClampNeg]? with
  | none =>
    rw [hf] at e1
    simp [Cond.value, e1] at h
  | some u =>
    rw [hf] at e1
    cases u <;> simp [Cond.value, e1, e2] at h
    rw [h]
theorem pd0_0 : parseMethodDescriptor "(I)Lcom/example/query_to_table/querytotable/sql/Comparison;" = some ⟨[.int], some (.object "com/example/query_to_table/querytotable/sql/Comparison")⟩ := by decide +kernel
theorem pd0_1 : parseMethodDescriptor "()Z" = some ⟨[], some .boolean⟩ := by decide +kernel
theorem pd0_2 : parseMethodDescriptor "()Ljava/lang/String;" = some ⟨[], some (.object "java/lang/String")⟩ := by decide +kernel
theorem pd0_3 : parseMethodDescriptor "()I" = some ⟨[], some .int⟩ := by decide +kernel
theorem pd0_4 : parseMethodDescriptor "(I)C" = some ⟨[.int], some .char⟩ := by decide +kernel
theorem pn0 : plainName "com/example/query_to_table/querytotable/sql/ComparisonIsLowerBoundPinLaw" = true := by first | (simp [plainName, overriddenIn]; done) | decide +kernel
theorem ef0 (m : MethodId) (x0 : Int32) : entryFrame m #[(.int x0)] maxLocals = mkF m 0 #[.val (.int x0), .unset, .unset, .unset, .unset, .unset, .unset] [] := by first | (simp [entryFrame, mkF, argsToLocals, Value.category, maxLocals]; done) | rfl
set_option maxRecDepth 65536 in
set_option maxHeartbeats 40000000 in
theorem rm_law (l : Launch) (Z : State) (a0 : Array Value) (hw : ∀ d ∈ tables_1, d.before a0 Z = true) (ws : List Jvm.Cond) (p0 : Int32) (u0 s0 v0 : Addr) (k0 : ClassId) (u1 s1 v1 : Addr) (k1 : ClassId) (u2 s2 v2 : Addr) (k2 : ClassId) (u3 s3 v3 : Addr) (k3 : ClassId) (u4 s4 v4 : Addr) (k4 : ClassId) (cs : Int32) (rf : Value) (h0 : Heap) (n0 : Nat) (Z0 : n0 ≤ h0.size) (P0_0 : Sta Z h0 "com/example/query_to_table/querytotable/sql/Comparison" "EQUAL" "Lcom/example/query_to_table/querytotable/sql/Comparison;" (.ref u0)) (P0_1 : Exa Z h0 u0 "com/example/query_to_table/querytotable/sql/Comparison") (P0_2 : Fld Z h0 u0 "java/lang/Enum" "ordinal" "I" (.int (0 : Int32))) (P0_3 : Fld Z h0 u0 "com/example/query_to_table/querytotable/sql/Comparison" "symbol" "Ljava/lang/String;" (.ref s0)) (P0_4 : Exa Z h0 s0 "java/lang/String") (P0_5 : Fld Z h0 s0 "java/lang/String" "value" "[B" (.ref v0)) (P0_6 : Fld Z h0 s0 "java/lang/String" "coder" "B" (.int (0 : Int32))) (P0_7 : Arv Z h0 v0 k0 .byte (1 : Int32) [(.int (61 : Int32))] (.int (0 : Int32))) (P1_0 : Sta Z h0 "com/example/query_to_table/querytotable/sql/Comparison" "LESS_THAN" "Lcom/example/query_to_table/querytotable/sql/Comparison;" (.ref u1)) (P1_1 : Exa Z h0 u1 "com/example/query_to_table/querytotable/sql/Comparison") (P1_2 : Fld Z h0 u1 "java/lang/Enum" "ordinal" "I" (.int (1 : Int32))) (P1_3 : Fld Z h0 u1 "com/example/query_to_table/querytotable/sql/Comparison" "symbol" "Ljava/lang/String;" (.ref s1)) (P1_4 : Exa Z h0 s1 "java/lang/String") (P1_5 : Fld Z h0 s1 "java/lang/String" "value" "[B" (.ref v1)) (P1_6 : Fld Z h0 s1 "java/lang/String" "coder" "B" (.int (0 : Int32))) (P1_7 : Arv Z h0 v1 k1 .byte (1 : Int32) [(.int (60 : Int32))] (.int (0 : Int32))) (P2_0 : Sta Z h0 "com/example/query_to_table/querytotable/sql/Comparison" "LESS_THAN_OR_EQUAL" "Lcom/example/query_to_table/querytotable/sql/Comparison;" (.ref u2)) (P2_1 : Exa Z h0 u2 "com/example/query_to_table/querytotable/sql/Comparison") (P2_2 : Fld Z h0 u2 "java/lang/Enum" "ordinal" "I" (.int (2 : Int32))) (P2_3 : Fld Z h0 u2 "com/example/query_to_table/querytotable/sql/Comparison" "symbol" "Ljava/lang/String;" (.ref s2)) (P2_4 : Exa Z h0 s2 "java/lang/String") (P2_5 : Fld Z h0 s2 "java/lang/String" "value" "[B" (.ref v2)) (P2_6 : Fld Z h0 s2 "java/lang/String" "coder" "B" (.int (0 : Int32))) (P2_7 : Arv Z h0 v2 k2 .byte (2 : Int32) [(.int (60 : Int32)), (.int (61 : Int32))] (.int (0 : Int32))) (P3_0 : Sta Z h0 "com/example/query_to_table/querytotable/sql/Comparison" "GREATER_THAN" "Lcom/example/query_to_table/querytotable/sql/Comparison;" (.ref u3)) (P3_1 : Exa Z h0 u3 "com/example/query_to_table/querytotable/sql/Comparison") (P3_2 : Fld Z h0 u3 "java/lang/Enum" "ordinal" "I" (.int (3 : Int32))) (P3_3 : Fld Z h0 u3 "com/example/query_to_table/querytotable/sql/Comparison" "symbol" "Ljava/lang/String;" (.ref s3)) (P3_4 : Exa Z h0 s3 "java/lang/String") (P3_5 : Fld Z h0 s3 "java/lang/String" "value" "[B" (.ref v3)) (P3_6 : Fld Z h0 s3 "java/lang/String" "coder" "B" (.int (0 : Int32))) (P3_7 : Arv Z h0 v3 k3 .byte (1 : Int32) [(.int (62 : Int32))] (.int (0 : Int32))) (P4_0 : Sta Z h0 "com/example/query_to_table/querytotable/sql/Comparison" "GREATER_THAN_OR_EQUAL" "Lcom/example/query_to_table/querytotable/sql/Comparison;" (.ref u4)) (P4_1 : Exa Z h0 u4 "com/example/query_to_table/querytotable/sql/Comparison") (P4_2 : Fld Z h0 u4 "java/lang/Enum" "ordinal" "I" (.int (4 : Int32))) (P4_3 : Fld Z h0 u4 "com/example/query_to_table/querytotable/sql/Comparison" "symbol" "Ljava/lang/String;" (.ref s4)) (P4_4 : Exa Z h0 s4 "java/lang/String") (P4_5 : Fld Z h0 s4 "java/lang/String" "value" "[B" (.ref v4)) (P4_6 : Fld Z h0 s4 "java/lang/String" "coder" "B" (.int (0 : Int32))) (P4_7 : Arv Z h0 v4 k4 .byte (2 : Int32) [(.int (62 : Int32)), (.int (61 : Int32))] (.int (0 : Int32))) (PC : Sta Z h0 "java/lang/String" "COMPACT_STRINGS" "Z" (.int cs)) (hcs : ¬ cs = (0 : Int32)) (PF : Sta Z h0 "jdk/internal/util/Preconditions" "SIOOBE_FORMATTER" "Ljava/util/function/BiFunction;" rf) (isr_rf : rf.isRef = true) :
    MetFree l x (head1 (Jvm.Cond.code x code maxLocals ret :: ws) room_1) (fun a U => a = #[(.int p0)] ∧ Z.Warmed39 U.vm ∧ U.heap = h0) (fun _ _ _ _ _ => True) (fun _ U o U' => ∃ v L, o = .returned v ∧ QL n0 v U'.heap L ∧ FrameEnd U o U' L 0 0) := by
  refine MetFree.of_bodySF (plainFor_of_name pn0) hisR ?_
  intro p e s m args below meth c s₁ Bd hml0 hP hK
  obtain ⟨rfl, hZ, hh⟩ := hP
  have hx := Bd.exec
  have hby := Bd.bytes
  have hret := Bd.returns
  have hlk := Bd.notSynchronized
  have hml : c.maxLocals = 7 := hml0
  have hown : s.vm.findClass "com/example/query_to_table/querytotable/sql/ComparisonIsLowerBoundPinLaw" = some m.cls := findClass_of_methodNamed Bd.named
  have hnm := (name_of_methodNamed Bd.named Bd.method).1
  have X0 : Stand p l e room_1 s m #[(.int p0)] below meth c s₁ [] 0 0 := Stand.of_body Bd
  have e0 : s₁.heap = h0 := by rw [← hh, Bd.state]; rfl
  have N0 := Fr.nil n0
  show Wp p e below (fun o s₂ => ∃ v L, o = .returned v ∧ QL n0 v s₂.heap L ∧ FrameEnd s o s₂ L 0 0) _
  refine Wp.back (U' := (s₁.setTop (mkF m 0 #[.val (.int p0), .unset, .unset, .unset, .unset, .unset, .unset] []))) (fun t k => castTop (ef0 m p0) k) ?_
  refine Wp.back (U' := (s₁.setTop (mkF m 7 #[.val (.int p0), .val (.int ((p0 &&& (2147483647 : Int32)) % (5 : Int32))), .unset, .unset, .unset, .unset, .unset] []))) (fun t k => XS.iloadN X0.here hx rfl (hb hby at_0) rfl (Jvm.Stand.ldcI X0 hx hown (mvT hZ (hw _ (List.mem_of_getElem? (i := 0) rfl))) rfl (hb hby at_1) (XS.iand X0.here hx rfl (hb hby at_3) rfl (XT.iconstV X0.here hx rfl (5 : Int32) (hb hby at_4) (by decide) (iremM X0 hx rfl (hb hby at_5) rfl (by decide) (XS.istoreN X0.here hx rfl (hb hby at_6) rfl (l' := #[.val (.int p0), .val (.int ((p0 &&& (2147483647 : Int32)) % (5 : Int32))), .unset, .unset, .unset, .unset, .unset]) rfl k)))))) ?_
  rcases own_n p0 with hk1 | hk2 | hk3 | hk4 | hk5
  · rw [hk1]
    refine Wp.back (U' := (s₁.setTop (mkF m 8 #[.val (.int p0), .val (.int (0 : Int32)), .unset, .unset, .unset, .unset, .unset] [(.int (0 : Int32))]))) (fun t k => XS.iloadN X0.here hx rfl (hb hby at_7) rfl k) ?_
    obtain ⟨_, _, ⟨T6, L6, k6, n6⟩, -, X6, ⟨Lc6, hQ6, l6, y6, z6⟩, st6⟩ := Jvm.LawKit.callS X0 hx (y := (⟨"com/example/query_to_table/querytotable/sql/ComparisonIsLowerBoundPinLaw", "pick", "(I)Lcom/example/query_to_table/querytotable/sql/Comparison;"⟩ : MethodName)) hown (mvT hZ (hw _ (List.mem_of_getElem? (i := 1) rfl))) (mvT hZ (hw _ (List.mem_of_getElem? (i := 2) rfl))) (mvT hZ (hw _ (List.mem_of_getElem? (i := 3) rfl))) (mvT hZ (hw _ (List.mem_of_getElem? (i := 4) rfl))) (by decide) (backOf (W := 0) (rm_pk0 l Z a0 hw []  u0 h0 n0 Z0 P0_0) hZ (hw _ (List.mem_of_getElem? (i := 4) rfl)) (hw _ (List.mem_of_getElem? (i := 3) rfl)) (by decide) (by decide)) (g := (mkF m 8 #[.val (.int p0), .val (.int (0 : Int32)), .unset, .unset, .unset, .unset, .unset] [(.int (0 : Int32))])) rfl (by rw [hml]; rfl) (argsL := [(.int (0 : Int32))]) (rest := []) (lenOf pd0_0 rfl) rfl (by show 2 * 0 + _ ≤ _; exact Nat.le_of_eq rfl) (hb hby at_8) (fun _ _ => ⟨rfl, e0, (by decide : 0 + 0 ≤ _), (by decide : 0 + 0 ≤ _)⟩)
    dsimp only [Pt.U, Pt.locs, Pt.cells, Pt.slots] at X6 l6 y6 z6 st6 hQ6
    subst l6 y6 z6
    obtain ⟨rfl, N6q, K6⟩ := hQ6
    have f7_0 := Nat.le_trans Z0 K6.1
    have f7_1 := Sta_keep0 P0_0 K6
    have f7_2 := P0_1.keep K6
    have f7_3 := P0_2.keep K6 nin0
    have f7_4 := P0_3.keep K6 nin0
    have f7_5 := P0_4.keep K6
    have f7_6 := P0_5.keep K6 nin0
    have f7_7 := P0_6.keep K6 nin0
    have f7_8 := P0_7.keep K6 nin0
    have f7_9 := Sta_keep0 P1_0 K6
    have f7_10 := P1_1.keep K6
    have f7_11 := P1_2.keep K6 nin0
    have f7_12 := P1_3.keep K6 nin0
    have f7_13 := P1_4.keep K6
    have f7_14 := P1_5.keep K6 nin0
    have f7_15 := P1_6.keep K6 nin0
    have f7_16 := P1_7.keep K6 nin0
    have f7_17 := Sta_keep0 P2_0 K6
    have f7_18 := P2_1.keep K6
    have f7_19 := P2_2.keep K6 nin0
    have f7_20 := P2_3.keep K6 nin0
    have f7_21 := P2_4.keep K6
    have f7_22 := P2_5.keep K6 nin0
    have f7_23 := P2_6.keep K6 nin0
    have f7_24 := P2_7.keep K6 nin0
    have f7_25 := Sta_keep0 P3_0 K6
    have f7_26 := P3_1.keep K6
    have f7_27 := P3_2.keep K6 nin0
    have f7_28 := P3_3.keep K6 nin0
    have f7_29 := P3_4.keep K6
    have f7_30 := P3_5.keep K6 nin0
    have f7_31 := P3_6.keep K6 nin0
    have f7_32 := P3_7.keep K6 nin0
    have f7_33 := Sta_keep0 P4_0 K6
    have f7_34 := P4_1.keep K6
    have f7_35 := P4_2.keep K6 nin0
    have f7_36 := P4_3.keep K6 nin0
    have f7_37 := P4_4.keep K6
    have f7_38 := P4_5.keep K6 nin0
    have f7_39 := P4_6.keep K6 nin0
    have f7_40 := P4_7.keep K6 nin0
    have f7_41 := Sta_keep0 PC K6
    have f7_42 := Sta_keep0 PF K6
    have N6 := Fr.app N0 N6q
    refine Wp.back (U' := (T6.setTop (mkF m 11 #[.val (.int p0), .val (.int (0 : Int32)), .unset, .unset, .unset, .unset, .unset] [(.ref u0)]))) st6 ?_
    refine Wp.back (U' := (T6.setTop (mkF m 29 #[.val (.int p0), .val (.int (0 : Int32)), .val (.ref u0), .val (.int (0 : Int32)), .unset, .unset, .unset] [(.ref u0)]))) (fun t k => XS.astoreN X6.here hx rfl (hb hby at_11) rfl rfl (l' := #[.val (.int p0), .val (.int (0 : Int32)), .val (.ref u0), .unset, .unset, .unset, .unset]) rfl (XS.iloadN X6.here hx rfl (hb hby at_12) rfl (XT.iconstV X6.here hx rfl (3 : Int32) (hb hby at_13) (by decide) (XS.icmpNo X6.here hx rfl (hb hby at_14) rfl (feq (by decide)).1 (XS.iloadN X6.here hx rfl (hb hby at_17) rfl (XT.iconstV X6.here hx rfl (4 : Int32) (hb hby at_18) (by decide) (XS.icmpYes X6.here hx rfl (pc0 := 19) (pc' := 26) rfl (hb hby at_19) rfl (feq (by decide)).2 (by decide) (by decide) (XT.iconstV X6.here hx rfl (0 : Int32) (hb hby at_26) (by decide) (XS.istoreN X6.here hx rfl (hb hby at_27) rfl (l' := #[.val (.int p0), .val (.int (0 : Int32)), .val (.ref u0), .val (.int (0 : Int32)), .unset, .unset, .unset]) rfl (XS.aloadN X6.here hx rfl (hb hby at_28) rfl rfl k)))))))))) ?_
    obtain ⟨cq8, kq8, q8a, q8b, q8c⟩ := isOf hZ rfl f7_2
    obtain ⟨_, _, ⟨T8, L8, k8, n8⟩, -, X8, ⟨Lc8, hQ8, l8, y8, z8⟩, st8⟩ := X6.virtualBack hx (y := (⟨"com/example/query_to_table/querytotable/sql/Comparison", "isLowerBound", "()Z"⟩ : MethodName)) (z := (⟨"com/example/query_to_table/querytotable/sql/Comparison", "isLowerBound", "()Z"⟩ : MethodName)) hown (mvT hZ (hw _ (List.mem_of_getElem? (i := 8) rfl))) (mvT hZ (hw _ (List.mem_of_getElem? (i := 9) rfl))) (notFace_of_selects (args := #[]) (mvT hZ (hw _ (List.mem_of_getElem? (i := 11) rfl)))) (mvT hZ (hw _ (List.mem_of_getElem? (i := 11) rfl))) (mvT hZ (hw _ (List.mem_of_getElem? (i := 10) rfl))) (by decide) (backOf (W := 0) (rm_ub0 l Z a0 hw [] u0 u3 u4 T6.heap n0 f7_0 f7_25 f7_33 (Fld.ne P0_2 P3_2 (by decide)) (Fld.ne P0_2 P4_2 (by decide))) hZ (hw _ (List.mem_of_getElem? (i := 12) rfl)) (hw _ (List.mem_of_getElem? (i := 6) rfl)) (by decide) (by decide)) q8a q8c (g := (mkF m 29 #[.val (.int p0), .val (.int (0 : Int32)), .val (.ref u0), .val (.int (0 : Int32)), .unset, .unset, .unset] [(.ref u0)])) rfl (by rw [hml]; rfl) (Steps.refl _) (argsL := []) (rest := []) (lenOf pd0_1 rfl) rfl (by show 2 * 0 + _ ≤ _; exact Nat.le_of_eq rfl) (hb hby at_29) (fun _ _ => ⟨rfl, rfl, (by decide : 0 + 0 ≤ _), (by decide : 0 + 0 ≤ _)⟩)
    dsimp only [Pt.U, Pt.locs, Pt.cells, Pt.slots] at X8 l8 y8 z8 st8 hQ8
    subst l8 y8 z8
    obtain ⟨rfl, N8q, K8⟩ := hQ8
    have f9_0 := Nat.le_trans f7_0 K8.1
    have f9_1 := Sta_keep0 f7_1 K8
    have f9_2 := f7_2.keep K8
    have f9_3 := f7_3.keep K8 nin0
    have f9_4 := f7_4.keep K8 nin0
    have f9_5 := f7_5.keep K8
    have f9_6 := f7_6.keep K8 nin0
    have f9_7 := f7_7.keep K8 nin0
    have f9_8 := f7_8.keep K8 nin0
    have f9_9 := Sta_keep0 f7_9 K8
    have f9_10 := f7_10.keep K8
    have f9_11 := f7_11.keep K8 nin0
    have f9_12 := f7_12.keep K8 nin0
    have f9_13 := f7_13.keep K8
    have f9_14 := f7_14.keep K8 nin0
    have f9_15 := f7_15.keep K8 nin0
    have f9_16 := f7_16.keep K8 nin0
    have f9_17 := Sta_keep0 f7_17 K8
    have f9_18 := f7_18.keep K8
    have f9_19 := f7_19.keep K8 nin0
    have f9_20 := f7_20.keep K8 nin0
    have f9_21 := f7_21.keep K8
    have f9_22 := f7_22.keep K8 nin0
    have f9_23 := f7_23.keep K8 nin0
    have f9_24 := f7_24.keep K8 nin0
    have f9_25 := Sta_keep0 f7_25 K8
    have f9_26 := f7_26.keep K8
    have f9_27 := f7_27.keep K8 nin0
    have f9_28 := f7_28.keep K8 nin0
    have f9_29 := f7_29.keep K8
    have f9_30 := f7_30.keep K8 nin0
    have f9_31 := f7_31.keep K8 nin0
    have f9_32 := f7_32.keep K8 nin0
    have f9_33 := Sta_keep0 f7_33 K8
    have f9_34 := f7_34.keep K8
    have f9_35 := f7_35.keep K8 nin0
    have f9_36 := f7_36.keep K8 nin0
    have f9_37 := f7_37.keep K8
    have f9_38 := f7_38.keep K8 nin0
    have f9_39 := f7_39.keep K8 nin0
    have f9_40 := f7_40.keep K8 nin0
    have f9_41 := Sta_keep0 f7_41 K8
    have f9_42 := Sta_keep0 f7_42 K8
    have N8 := Fr.app N6 N8q
    refine Wp.back (U' := (T8.setTop (mkF m 32 #[.val (.int p0), .val (.int (0 : Int32)), .val (.ref u0), .val (.int (0 : Int32)), .unset, .unset, .unset] [(.int (0 : Int32))]))) (fun t k => st8.trans k) ?_
    refine Wp.back (U' := (T8.setTop (mkF m 35 #[.val (.int p0), .val (.int (0 : Int32)), .val (.ref u0), .val (.int (0 : Int32)), .val (.int (0 : Int32)), .unset, .unset] [(.ref u0)]))) (fun t k => XS.istore X8.here hx rfl (hb hby at_32) rfl (l' := #[.val (.int p0), .val (.int (0 : Int32)), .val (.ref u0), .val (.int (0 : Int32)), .val (.int (0 : Int32)), .unset, .unset]) rfl (XS.aloadN X8.here hx rfl (hb hby at_34) rfl rfl k)) ?_
    obtain ⟨cq10, kq10, q10a, q10b, q10c⟩ := isOf hZ rfl f9_2
    obtain ⟨_, _, ⟨T10, L10, k10, n10⟩, -, X10, ⟨Lc10, hQ10, l10, y10, z10⟩, st10⟩ := X8.virtualBack hx (y := (⟨"com/example/query_to_table/querytotable/sql/Comparison", "symbol", "()Ljava/lang/String;"⟩ : MethodName)) (z := (⟨"com/example/query_to_table/querytotable/sql/Comparison", "symbol", "()Ljava/lang/String;"⟩ : MethodName)) hown (mvT hZ (hw _ (List.mem_of_getElem? (i := 17) rfl))) (mvT hZ (hw _ (List.mem_of_getElem? (i := 18) rfl))) (notFace_of_selects (args := #[]) (mvT hZ (hw _ (List.mem_of_getElem? (i := 20) rfl)))) (mvT hZ (hw _ (List.mem_of_getElem? (i := 20) rfl))) (mvT hZ (hw _ (List.mem_of_getElem? (i := 19) rfl))) (by decide) (backOf (W := 0) (rm_sym l Z a0 hw [] u0 s0 T8.heap n0 f9_0 f9_4) hZ (hw _ (List.mem_of_getElem? (i := 21) rfl)) (hw _ (List.mem_of_getElem? (i := 6) rfl)) (by decide) (by decide)) q10a q10c (g := (mkF m 35 #[.val (.int p0), .val (.int (0 : Int32)), .val (.ref u0), .val (.int (0 : Int32)), .val (.int (0 : Int32)), .unset, .unset] [(.ref u0)])) rfl (by rw [hml]; rfl) (Steps.refl _) (argsL := []) (rest := []) (lenOf pd0_2 rfl) rfl (by show 2 * 0 + _ ≤ _; exact Nat.le_of_eq rfl) (hb hby at_35) (fun _ _ => ⟨rfl, rfl, (by decide : 0 + 0 ≤ _), (by decide : 0 + 0 ≤ _)⟩)
    dsimp only [Pt.U, Pt.locs, Pt.cells, Pt.slots] at X10 l10 y10 z10 st10 hQ10
    subst l10 y10 z10
    obtain ⟨rfl, N10q, K10⟩ := hQ10
    have f11_0 := Nat.le_trans f9_0 K10.1
    have f11_1 := Sta_keep0 f9_1 K10
    have f11_2 := f9_2.keep K10
    have f11_3 := f9_3.keep K10 nin0
    have f11_4 := f9_4.keep K10 nin0
    have f11_5 := f9_5.keep K10
    have f11_6 := f9_6.keep K10 nin0
    have f11_7 := f9_7.keep K10 nin0
    have f11_8 := f9_8.keep K10 nin0
    have f11_9 := Sta_keep0 f9_9 K10
    have f11_10 := f9_10.keep K10
    have f11_11 := f9_11.keep K10 nin0
    have f11_12 := f9_12.keep K10 nin0
    have f11_13 := f9_13.keep K10
    have f11_14 := f9_14.keep K10 nin0
    have f11_15 := f9_15.keep K10 nin0
    have f11_16 := f9_16.keep K10 nin0
    have f11_17 := Sta_keep0 f9_17 K10
    have f11_18 := f9_18.keep K10
    have f11_19 := f9_19.keep K10 nin0
    have f11_20 := f9_20.keep K10 nin0
    have f11_21 := f9_21.keep K10
    have f11_22 := f9_22.keep K10 nin0
    have f11_23 := f9_23.keep K10 nin0
    have f11_24 := f9_24.keep K10 nin0
    have f11_25 := Sta_keep0 f9_25 K10
    have f11_26 := f9_26.keep K10
    have f11_27 := f9_27.keep K10 nin0
    have f11_28 := f9_28.keep K10 nin0
    have f11_29 := f9_29.keep K10
    have f11_30 := f9_30.keep K10 nin0
    have f11_31 := f9_31.keep K10 nin0
    have f11_32 := f9_32.keep K10 nin0
    have f11_33 := Sta_keep0 f9_33 K10
    have f11_34 := f9_34.keep K10
    have f11_35 := f9_35.keep K10 nin0
    have f11_36 := f9_36.keep K10 nin0
    have f11_37 := f9_37.keep K10
    have f11_38 := f9_38.keep K10 nin0
    have f11_39 := f9_39.keep K10 nin0
    have f11_40 := f9_40.keep K10 nin0
    have f11_41 := Sta_keep0 f9_41 K10
    have f11_42 := Sta_keep0 f9_42 K10
    have N10 := Fr.app N8 N10q
    refine Wp.back (U' := (T10.setTop (mkF m 38 #[.val (.int p0), .val (.int (0 : Int32)), .val (.ref u0), .val (.int (0 : Int32)), .val (.int (0 : Int32)), .unset, .unset] [(.ref s0)]))) (fun t k => st10.trans k) ?_
    refine Wp.back (U' := (T10.setTop (mkF m 42 #[.val (.int p0), .val (.int (0 : Int32)), .val (.ref u0), .val (.int (0 : Int32)), .val (.int (0 : Int32)), .val (.ref s0), .unset] [(.ref s0)]))) (fun t k => XS.astore X10.here hx rfl (hb hby at_38) rfl rfl (l' := #[.val (.int p0), .val (.int (0 : Int32)), .val (.ref u0), .val (.int (0 : Int32)), .val (.int (0 : Int32)), .val (.ref s0), .unset]) rfl (XS.aload X10.here hx rfl (hb hby at_40) rfl rfl k)) ?_
    obtain ⟨cq12, kq12, q12a, q12b, q12c⟩ := isOf hZ rfl f11_5
    obtain ⟨_, _, ⟨T12, L12, k12, n12⟩, -, X12, ⟨Lc12, hQ12, l12, y12, z12⟩, st12⟩ := X10.virtualBack hx (y := (⟨"java/lang/String", "length", "()I"⟩ : MethodName)) (z := (⟨"java/lang/String", "length", "()I"⟩ : MethodName)) hown (mvT hZ (hw _ (List.mem_of_getElem? (i := 24) rfl))) (mvT hZ (hw _ (List.mem_of_getElem? (i := 25) rfl))) (notFace_of_selects (args := #[]) (mvT hZ (hw _ (List.mem_of_getElem? (i := 27) rfl)))) (mvT hZ (hw _ (List.mem_of_getElem? (i := 27) rfl))) (mvT hZ (hw _ (List.mem_of_getElem? (i := 26) rfl))) (by decide) (backOf (W := 0) (rm_len1 l Z a0 hw [] s0 cs v0 k0 (61 : Int32) T10.heap n0 f11_0 f11_5 f11_6 f11_7 f11_8 f11_41 hcs) hZ (hw _ (List.mem_of_getElem? (i := 29) rfl)) (hw _ (List.mem_of_getElem? (i := 28) rfl)) (by decide) (by decide)) q12a q12c (g := (mkF m 42 #[.val (.int p0), .val (.int (0 : Int32)), .val (.ref u0), .val (.int (0 : Int32)), .val (.int (0 : Int32)), .val (.ref s0), .unset] [(.ref s0)])) rfl (by rw [hml]; rfl) (Steps.refl _) (argsL := []) (rest := []) (lenOf pd0_3 rfl) rfl (by show 2 * 0 + _ ≤ _; exact Nat.le_of_eq rfl) (hb hby at_42) (fun _ _ => ⟨rfl, rfl, (by decide : 0 + 0 ≤ _), (by decide : 0 + 0 ≤ _)⟩)
    dsimp only [Pt.U, Pt.locs, Pt.cells, Pt.slots] at X12 l12 y12 z12 st12 hQ12
    subst l12 y12 z12
    obtain ⟨rfl, N12q, K12⟩ := hQ12
    have f13_0 := Nat.le_trans f11_0 K12.1
    have f13_1 := Sta_keep0 f11_1 K12
    have f13_2 := f11_2.keep K12
    have f13_3 := f11_3.keep K12 nin0
    have f13_4 := f11_4.keep K12 nin0
    have f13_5 := f11_5.keep K12
    have f13_6 := f11_6.keep K12 nin0
    have f13_7 := f11_7.keep K12 nin0
    have f13_8 := f11_8.keep K12 nin0
    have f13_9 := Sta_keep0 f11_9 K12
    have f13_10 := f11_10.keep K12
    have f13_11 := f11_11.keep K12 nin0
    have f13_12 := f11_12.keep K12 nin0
    have f13_13 := f11_13.keep K12
    have f13_14 := f11_14.keep K12 nin0
    have f13_15 := f11_15.keep K12 nin0
    have f13_16 := f11_16.keep K12 nin0
    have f13_17 := Sta_keep0 f11_17 K12
    have f13_18 := f11_18.keep K12
    have f13_19 := f11_19.keep K12 nin0
    have f13_20 := f11_20.keep K12 nin0
    have f13_21 := f11_21.keep K12
    have f13_22 := f11_22.keep K12 nin0
    have f13_23 := f11_23.keep K12 nin0
    have f13_24 := f11_24.keep K12 nin0
    have f13_25 := Sta_keep0 f11_25 K12
    have f13_26 := f11_26.keep K12
    have f13_27 := f11_27.keep K12 nin0
    have f13_28 := f11_28.keep K12 nin0
    have f13_29 := f11_29.keep K12
    have f13_30 := f11_30.keep K12 nin0
    have f13_31 := f11_31.keep K12 nin0
    have f13_32 := f11_32.keep K12 nin0
    have f13_33 := Sta_keep0 f11_33 K12
    have f13_34 := f11_34.keep K12
    have f13_35 := f11_35.keep K12 nin0
    have f13_36 := f11_36.keep K12 nin0
    have f13_37 := f11_37.keep K12
    have f13_38 := f11_38.keep K12 nin0
    have f13_39 := f11_39.keep K12 nin0
    have f13_40 := f11_40.keep K12 nin0
    have f13_41 := Sta_keep0 f11_41 K12
    have f13_42 := Sta_keep0 f11_42 K12
    have N12 := Fr.app N10 N12q
    refine Wp.back (U' := (T12.setTop (mkF m 45 #[.val (.int p0), .val (.int (0 : Int32)), .val (.ref u0), .val (.int (0 : Int32)), .val (.int (0 : Int32)), .val (.ref s0), .unset] [(.int (1 : Int32))]))) (fun t k => st12.trans k) ?_
    refine Wp.back (U' := (T12.setTop (mkF m 51 #[.val (.int p0), .val (.int (0 : Int32)), .val (.ref u0), .val (.int (0 : Int32)), .val (.int (0 : Int32)), .val (.ref s0), .unset] [(.int (0 : Int32)), (.ref s0)]))) (fun t k => XS.ifNo X12.here hx rfl (hb hby at_45) rfl ((if0 _ _).trans (tlt (by decide)).2.2.2) (XS.aload X12.here hx rfl (hb hby at_48) rfl rfl (XT.iconstV X12.here hx rfl (0 : Int32) (hb hby at_50) (by decide) k))) ?_
    obtain ⟨cq14, kq14, q14a, q14b, q14c⟩ := isOf hZ rfl f13_5
    obtain ⟨_, _, ⟨T14, L14, k14, n14⟩, -, X14, ⟨Lc14, hQ14, l14, y14, z14⟩, st14⟩ := X12.virtualBack hx (y := (⟨"java/lang/String", "charAt", "(I)C"⟩ : MethodName)) (z := (⟨"java/lang/String", "charAt", "(I)C"⟩ : MethodName)) hown (mvT hZ (hw _ (List.mem_of_getElem? (i := 40) rfl))) (mvT hZ (hw _ (List.mem_of_getElem? (i := 41) rfl))) (notFace_of_selects (args := #[]) (mvT hZ (hw _ (List.mem_of_getElem? (i := 43) rfl)))) (mvT hZ (hw _ (List.mem_of_getElem? (i := 43) rfl))) (mvT hZ (hw _ (List.mem_of_getElem? (i := 42) rfl))) (by decide) (backOf (W := 0) (rm_ch1_61 l Z a0 hw [] s0 rf cs v0 k0 T12.heap n0 f13_0 f13_5 f13_6 f13_7 f13_8 f13_41 f13_42 isr_rf hcs) hZ (hw _ (List.mem_of_getElem? (i := 44) rfl)) (hw _ (List.mem_of_getElem? (i := 28) rfl)) (by decide) (by decide)) q14a q14c (g := (mkF m 51 #[.val (.int p0), .val (.int (0 : Int32)), .val (.ref u0), .val (.int (0 : Int32)), .val (.int (0 : Int32)), .val (.ref s0), .unset] [(.int (0 : Int32)), (.ref s0)])) rfl (by rw [hml]; rfl) (Steps.refl _) (argsL := [(.int (0 : Int32))]) (rest := []) (lenOf pd0_4 rfl) rfl (by show 2 * 0 + _ ≤ _; exact Nat.le_of_eq rfl) (hb hby at_51) (fun _ _ => ⟨rfl, rfl, (by decide : 0 + 0 ≤ _), (by decide : 0 + 0 ≤ _)⟩)
    dsimp only [Pt.U, Pt.locs, Pt.cells, Pt.slots] at X14 l14 y14 z14 st14 hQ14
    subst l14 y14 z14
    obtain ⟨rfl, N14q, K14⟩ := hQ14
    have f15_0 := Nat.le_trans f13_0 K14.1
    have f15_1 := Sta_keep0 f13_1 K14
    have f15_2 := f13_2.keep K14
    have f15_3 := f13_3.keep K14 nin0
    have f15_4 := f13_4.keep K14 nin0
    have f15_5 := f13_5.keep K14
    have f15_6 := f13_6.keep K14 nin0
    have f15_7 := f13_7.keep K14 nin0
    have f15_8 := f13_8.keep K14 nin0
    have f15_9 := Sta_keep0 f13_9 K14
    have f15_10 := f13_10.keep K14
    have f15_11 := f13_11.keep K14 nin0
    have f15_12 := f13_12.keep K14 nin0
    have f15_13 := f13_13.keep K14
    have f15_14 := f13_14.keep K14 nin0
    have f15_15 := f13_15.keep K14 nin0
    have f15_16 := f13_16.keep K14 nin0
    have f15_17 := Sta_keep0 f13_17 K14
    have f15_18 := f13_18.keep K14
    have f15_19 := f13_19.keep K14 nin0
    have f15_20 := f13_20.keep K14 nin0
    have f15_21 := f13_21.keep K14
    have f15_22 := f13_22.keep K14 nin0
    have f15_23 := f13_23.keep K14 nin0
    have f15_24 := f13_24.keep K14 nin0
    have f15_25 := Sta_keep0 f13_25 K14
    have f15_26 := f13_26.keep K14
    have f15_27 := f13_27.keep K14 nin0
    have f15_28 := f13_28.keep K14 nin0
    have f15_29 := f13_29.keep K14
    have f15_30 := f13_30.keep K14 nin0
    have f15_31 := f13_31.keep K14 nin0
    have f15_32 := f13_32.keep K14 nin0
    have f15_33 := Sta_keep0 f13_33 K14
    have f15_34 := f13_34.keep K14
    have f15_35 := f13_35.keep K14 nin0
    have f15_36 := f13_36.keep K14 nin0
    have f15_37 := f13_37.keep K14
    have f15_38 := f13_38.keep K14 nin0
    have f15_39 := f13_39.keep K14 nin0
    have f15_40 := f13_40.keep K14 nin0
    have f15_41 := Sta_keep0 f13_41 K14
    have f15_42 := Sta_keep0 f13_42 K14
    have N14 := Fr.app N12 N14q
    refine Wp.back (U' := (T14.setTop (mkF m 54 #[.val (.int p0), .val (.int (0 : Int32)), .val (.ref u0), .val (.int (0 : Int32)), .val (.int (0 : Int32)), .val (.ref s0), .unset] [(.int (61 : Int32))]))) (fun t k => st14.trans k) ?_
    refine Wp.back (U' := (T14.setTop (mkF m 84 #[.val (.int p0), .val (.int (0 : Int32)), .val (.ref u0), .val (.int (0 : Int32)), .val (.int (0 : Int32)), .val (.ref s0), .val (.int (0 : Int32))] [(.int (1 : Int32))]))) (fun t k => XT.bipushV X14.here hx rfl (62 : Int32) (hb hby at_54) (by decide) (XS.icmpYes X14.here hx rfl (pc0 := 56) (pc' := 63) rfl (hb hby at_56) rfl (feq (by decide)).2 (by decide) (by decide) (XT.iconstV X14.here hx rfl (0 : Int32) (hb hby at_63) (by decide) (XS.istore X14.here hx rfl (hb hby at_64) rfl (l' := #[.val (.int p0), .val (.int (0 : Int32)), .val (.ref u0), .val (.int (0 : Int32)), .val (.int (0 : Int32)), .val (.ref s0), .val (.int (0 : Int32))]) rfl (XS.iload X14.here hx rfl (hb hby at_66) rfl (XS.iloadN X14.here hx rfl (hb hby at_68) rfl (XS.icmpNo X14.here hx rfl (hb hby at_69) rfl (teq (by decide)).2 (XS.iload X14.here hx rfl (hb hby at_72) rfl (XS.iload X14.here hx rfl (hb hby at_74) rfl (XS.icmpNo X14.here hx rfl (hb hby at_76) rfl (teq (by decide)).2 (XT.iconstV X14.here hx rfl (1 : Int32) (hb hby at_79) (by decide) (XS.goto X14.here hx rfl (pc0 := 80) (pc' := 84) rfl (hb hby at_80) (by decide) (by decide) k)))))))))))) ?_
    obtain ⟨fs, hr, hrun, hended, hW, hsame⟩ := X14.leave (v := (some (.int (1 : Int32)))) (fun h => by rw [hret] at h; cases h)
    refine Wp.done (retN X14 hx (t := .boolean) hret (by simp) (hb hby at_84) hr) hrun hended ⟨_, _, rfl, ?_, ⟨_, rfl⟩, hW, hsame.mono (by decide) (by decide)⟩
    show QL n0 _ T14.heap _
    exact ⟨rfl, N14⟩
  · rw [hk2]
    refine Wp.back (U' := (s₁.setTop (mkF m 8 #[.val (.int p0), .val (.int (1 : Int32)), .unset, .unset, .unset, .unset, .unset] [(.int (1 : Int32))]))) (fun t k => XS.iloadN X0.here hx rfl (hb hby at_7) rfl k) ?_
    obtain ⟨_, _, ⟨T16, L16, k16, n16⟩, -, X16, ⟨Lc16, hQ16, l16, y16, z16⟩, st16⟩ := Jvm.LawKit.callS X0 hx (y := (⟨"com/example/query_to_table/querytotable/sql/ComparisonIsLowerBoundPinLaw", "pick", "(I)Lcom/example/query_to_table/querytotable/sql/Comparison;"⟩ : MethodName)) hown (mvT hZ (hw _ (List.mem_of_getElem? (i := 1) rfl))) (mvT hZ (hw _ (List.mem_of_getElem? (i := 2) rfl))) (mvT hZ (hw _ (List.mem_of_getElem? (i := 3) rfl))) (mvT hZ (hw _ (List.mem_of_getElem? (i := 4) rfl))) (by decide) (backOf (W := 0) (rm_pk1 l Z a0 hw []  u1 h0 n0 Z0 P1_0) hZ (hw _ (List.mem_of_getElem? (i := 4) rfl)) (hw _ (List.mem_of_getElem? (i := 3) rfl)) (by decide) (by decide)) (g := (mkF m 8 #[.val (.int p0), .val (.int (1 : Int32)), .unset, .unset, .unset, .unset, .unset] [(.int (1 : Int32))])) rfl (by rw [hml]; rfl) (argsL := [(.int (1 : Int32))]) (rest := []) (lenOf pd0_0 rfl) rfl (by show 2 * 0 + _ ≤ _; exact Nat.le_of_eq rfl) (hb hby at_8) (fun _ _ => ⟨rfl, e0, (by decide : 0 + 0 ≤ _), (by decide : 0 + 0 ≤ _)⟩)
    dsimp only [Pt.U, Pt.locs, Pt.cells, Pt.slots] at X16 l16 y16 z16 st16 hQ16
    subst l16 y16 z16
    obtain ⟨rfl, N16q, K16⟩ := hQ16
    have f17_0 := Nat.le_trans Z0 K16.1
    have f17_1 := Sta_keep0 P0_0 K16
    have f17_2 := P0_1.keep K16
    have f17_3 := P0_2.keep K16 nin0
    have f17_4 := P0_3.keep K16 nin0
    have f17_5 := P0_4.keep K16
    have f17_6 := P0_5.keep K16 nin0
    have f17_7 := P0_6.keep K16 nin0
    have f17_8 := P0_7.keep K16 nin0
    have f17_9 := Sta_keep0 P1_0 K16
    have f17_10 := P1_1.keep K16
    have f17_11 := P1_2.keep K16 nin0
    have f17_12 := P1_3.keep K16 nin0
    have f17_13 := P1_4.keep K16
    have f17_14 := P1_5.keep K16 nin0
    have f17_15 := P1_6.keep K16 nin0
    have f17_16 := P1_7.keep K16 nin0
    have f17_17 := Sta_keep0 P2_0 K16
    have f17_18 := P2_1.keep K16
    have f17_19 := P2_2.keep K16 nin0
    have f17_20 := P2_3.keep K16 nin0
    have f17_21 := P2_4.keep K16
    have f17_22 := P2_5.keep K16 nin0
    have f17_23 := P2_6.keep K16 nin0
    have f17_24 := P2_7.keep K16 nin0
    have f17_25 := Sta_keep0 P3_0 K16
    have f17_26 := P3_1.keep K16
    have f17_27 := P3_2.keep K16 nin0
    have f17_28 := P3_3.keep K16 nin0
    have f17_29 := P3_4.keep K16
    have f17_30 := P3_5.keep K16 nin0
    have f17_31 := P3_6.keep K16 nin0
    have f17_32 := P3_7.keep K16 nin0
    have f17_33 := Sta_keep0 P4_0 K16
    have f17_34 := P4_1.keep K16
    have f17_35 := P4_2.keep K16 nin0
    have f17_36 := P4_3.keep K16 nin0
    have f17_37 := P4_4.keep K16
    have f17_38 := P4_5.keep K16 nin0
    have f17_39 := P4_6.keep K16 nin0
    have f17_40 := P4_7.keep K16 nin0
    have f17_41 := Sta_keep0 PC K16
    have f17_42 := Sta_keep0 PF K16
    have N16 := Fr.app N0 N16q
    refine Wp.back (U' := (T16.setTop (mkF m 11 #[.val (.int p0), .val (.int (1 : Int32)), .unset, .unset, .unset, .unset, .unset] [(.ref u1)]))) st16 ?_
    refine Wp.back (U' := (T16.setTop (mkF m 29 #[.val (.int p0), .val (.int (1 : Int32)), .val (.ref u1), .val (.int (0 : Int32)), .unset, .unset, .unset] [(.ref u1)]))) (fun t k => XS.astoreN X16.here hx rfl (hb hby at_11) rfl rfl (l' := #[.val (.int p0), .val (.int (1 : Int32)), .val (.ref u1), .unset, .unset, .unset, .unset]) rfl (XS.iloadN X16.here hx rfl (hb hby at_12) rfl (XT.iconstV X16.here hx rfl (3 : Int32) (hb hby at_13) (by decide) (XS.icmpNo X16.here hx rfl (hb hby at_14) rfl (feq (by decide)).1 (XS.iloadN X16.here hx rfl (hb hby at_17) rfl (XT.iconstV X16.here hx rfl (4 : Int32) (hb hby at_18) (by decide) (XS.icmpYes X16.here hx rfl (pc0 := 19) (pc' := 26) rfl (hb hby at_19) rfl (feq (by decide)).2 (by decide) (by decide) (XT.iconstV X16.here hx rfl (0 : Int32) (hb hby at_26) (by decide) (XS.istoreN X16.here hx rfl (hb hby at_27) rfl (l' := #[.val (.int p0), .val (.int (1 : Int32)), .val (.ref u1), .val (.int (0 : Int32)), .unset, .unset, .unset]) rfl (XS.aloadN X16.here hx rfl (hb hby at_28) rfl rfl k)))))))))) ?_
    obtain ⟨cq18, kq18, q18a, q18b, q18c⟩ := isOf hZ rfl f17_10
    obtain ⟨_, _, ⟨T18, L18, k18, n18⟩, -, X18, ⟨Lc18, hQ18, l18, y18, z18⟩, st18⟩ := X16.virtualBack hx (y := (⟨"com/example/query_to_table/querytotable/sql/Comparison", "isLowerBound", "()Z"⟩ : MethodName)) (z := (⟨"com/example/query_to_table/querytotable/sql/Comparison", "isLowerBound", "()Z"⟩ : MethodName)) hown (mvT hZ (hw _ (List.mem_of_getElem? (i := 8) rfl))) (mvT hZ (hw _ (List.mem_of_getElem? (i := 9) rfl))) (notFace_of_selects (args := #[]) (mvT hZ (hw _ (List.mem_of_getElem? (i := 11) rfl)))) (mvT hZ (hw _ (List.mem_of_getElem? (i := 11) rfl))) (mvT hZ (hw _ (List.mem_of_getElem? (i := 10) rfl))) (by decide) (backOf (W := 0) (rm_ub0 l Z a0 hw [] u1 u3 u4 T16.heap n0 f17_0 f17_25 f17_33 (Fld.ne P1_2 P3_2 (by decide)) (Fld.ne P1_2 P4_2 (by decide))) hZ (hw _ (List.mem_of_getElem? (i := 12) rfl)) (hw _ (List.mem_of_getElem? (i := 6) rfl)) (by decide) (by decide)) q18a q18c (g := (mkF m 29 #[.val (.int p0), .val (.int (1 : Int32)), .val (.ref u1), .val (.int (0 : Int32)), .unset, .unset, .unset] [(.ref u1)])) rfl (by rw [hml]; rfl) (Steps.refl _) (argsL := []) (rest := []) (lenOf pd0_1 rfl) rfl (by show 2 * 0 + _ ≤ _; exact Nat.le_of_eq rfl) (hb hby at_29) (fun _ _ => ⟨rfl, rfl, (by decide : 0 + 0 ≤ _), (by decide : 0 + 0 ≤ _)⟩)
    dsimp only [Pt.U, Pt.locs, Pt.cells, Pt.slots] at X18 l18 y18 z18 st18 hQ18
    subst l18 y18 z18
    obtain ⟨rfl, N18q, K18⟩ := hQ18
    have f19_0 := Nat.le_trans f17_0 K18.1
    have f19_1 := Sta_keep0 f17_1 K18
    have f19_2 := f17_2.keep K18
    have f19_3 := f17_3.keep K18 nin0
    have f19_4 := f17_4.keep K18 nin0
    have f19_5 := f17_5.keep K18
    have f19_6 := f17_6.keep K18 nin0
    have f19_7 := f17_7.keep K18 nin0
    have f19_8 := f17_8.keep K18 nin0
    have f19_9 := Sta_keep0 f17_9 K18
    have f19_10 := f17_10.keep K18
    have f19_11 := f17_11.keep K18 nin0
    have f19_12 := f17_12.keep K18 nin0
    have f19_13 := f17_13.keep K18
    have f19_14 := f17_14.keep K18 nin0
    have f19_15 := f17_15.keep K18 nin0
    have f19_16 := f17_16.keep K18 nin0
    have f19_17 := Sta_keep0 f17_17 K18
    have f19_18 := f17_18.keep K18
    have f19_19 := f17_19.keep K18 nin0
    have f19_20 := f17_20.keep K18 nin0
    have f19_21 := f17_21.keep K18
    have f19_22 := f17_22.keep K18 nin0
    have f19_23 := f17_23.keep K18 nin0
    have f19_24 := f17_24.keep K18 nin0
    have f19_25 := Sta_keep0 f17_25 K18
    have f19_26 := f17_26.keep K18
    have f19_27 := f17_27.keep K18 nin0
    have f19_28 := f17_28.keep K18 nin0
    have f19_29 := f17_29.keep K18
    have f19_30 := f17_30.keep K18 nin0
    have f19_31 := f17_31.keep K18 nin0
    have f19_32 := f17_32.keep K18 nin0
    have f19_33 := Sta_keep0 f17_33 K18
    have f19_34 := f17_34.keep K18
    have f19_35 := f17_35.keep K18 nin0
    have f19_36 := f17_36.keep K18 nin0
    have f19_37 := f17_37.keep K18
    have f19_38 := f17_38.keep K18 nin0
    have f19_39 := f17_39.keep K18 nin0
    have f19_40 := f17_40.keep K18 nin0
    have f19_41 := Sta_keep0 f17_41 K18
    have f19_42 := Sta_keep0 f17_42 K18
    have N18 := Fr.app N16 N18q
    refine Wp.back (U' := (T18.setTop (mkF m 32 #[.val (.int p0), .val (.int (1 : Int32)), .val (.ref u1), .val (.int (0 : Int32)), .unset, .unset, .unset] [(.int (0 : Int32))]))) (fun t k => st18.trans k) ?_
    refine Wp.back (U' := (T18.setTop (mkF m 35 #[.val (.int p0), .val (.int (1 : Int32)), .val (.ref u1), .val (.int (0 : Int32)), .val (.int (0 : Int32)), .unset, .unset] [(.ref u1)]))) (fun t k => XS.istore X18.here hx rfl (hb hby at_32) rfl (l' := #[.val (.int p0), .val (.int (1 : Int32)), .val (.ref u1), .val (.int (0 : Int32)), .val (.int (0 : Int32)), .unset, .unset]) rfl (XS.aloadN X18.here hx rfl (hb hby at_34) rfl rfl k)) ?_
    obtain ⟨cq20, kq20, q20a, q20b, q20c⟩ := isOf hZ rfl f19_10
    obtain ⟨_, _, ⟨T20, L20, k20, n20⟩, -, X20, ⟨Lc20, hQ20, l20, y20, z20⟩, st20⟩ := X18.virtualBack hx (y := (⟨"com/example/query_to_table/querytotable/sql/Comparison", "symbol", "()Ljava/lang/String;"⟩ : MethodName)) (z := (⟨"com/example/query_to_table/querytotable/sql/Comparison", "symbol", "()Ljava/lang/String;"⟩ : MethodName)) hown (mvT hZ (hw _ (List.mem_of_getElem? (i := 17) rfl))) (mvT hZ (hw _ (List.mem_of_getElem? (i := 18) rfl))) (notFace_of_selects (args := #[]) (mvT hZ (hw _ (List.mem_of_getElem? (i := 20) rfl)))) (mvT hZ (hw _ (List.mem_of_getElem? (i := 20) rfl))) (mvT hZ (hw _ (List.mem_of_getElem? (i := 19) rfl))) (by decide) (backOf (W := 0) (rm_sym l Z a0 hw [] u1 s1 T18.heap n0 f19_0 f19_12) hZ (hw _ (List.mem_of_getElem? (i := 21) rfl)) (hw _ (List.mem_of_getElem? (i := 6) rfl)) (by decide) (by decide)) q20a q20c (g := (mkF m 35 #[.val (.int p0), .val (.int (1 : Int32)), .val (.ref u1), .val (.int (0 : Int32)), .val (.int (0 : Int32)), .unset, .unset] [(.ref u1)])) rfl (by rw [hml]; rfl) (Steps.refl _) (argsL := []) (rest := []) (lenOf pd0_2 rfl) rfl (by show 2 * 0 + _ ≤ _; exact Nat.le_of_eq rfl) (hb hby at_35) (fun _ _ => ⟨rfl, rfl, (by decide : 0 + 0 ≤ _), (by decide : 0 + 0 ≤ _)⟩)
    dsimp only [Pt.U, Pt.locs, Pt.cells, Pt.slots] at X20 l20 y20 z20 st20 hQ20
    subst l20 y20 z20
    obtain ⟨rfl, N20q, K20⟩ := hQ20
    have f21_0 := Nat.le_trans f19_0 K20.1
    have f21_1 := Sta_keep0 f19_1 K20
    have f21_2 := f19_2.keep K20
    have f21_3 := f19_3.keep K20 nin0
    have f21_4 := f19_4.keep K20 nin0
    have f21_5 := f19_5.keep K20
    have f21_6 := f19_6.keep K20 nin0
    have f21_7 := f19_7.keep K20 nin0
    have f21_8 := f19_8.keep K20 nin0
    have f21_9 := Sta_keep0 f19_9 K20
    have f21_10 := f19_10.keep K20
    have f21_11 := f19_11.keep K20 nin0
    have f21_12 := f19_12.keep K20 nin0
    have f21_13 := f19_13.keep K20
    have f21_14 := f19_14.keep K20 nin0
    have f21_15 := f19_15.keep K20 nin0
    have f21_16 := f19_16.keep K20 nin0
    have f21_17 := Sta_keep0 f19_17 K20
    have f21_18 := f19_18.keep K20
    have f21_19 := f19_19.keep K20 nin0
    have f21_20 := f19_20.keep K20 nin0
    have f21_21 := f19_21.keep K20
    have f21_22 := f19_22.keep K20 nin0
    have f21_23 := f19_23.keep K20 nin0
    have f21_24 := f19_24.keep K20 nin0
    have f21_25 := Sta_keep0 f19_25 K20
    have f21_26 := f19_26.keep K20
    have f21_27 := f19_27.keep K20 nin0
    have f21_28 := f19_28.keep K20 nin0
    have f21_29 := f19_29.keep K20
    have f21_30 := f19_30.keep K20 nin0
    have f21_31 := f19_31.keep K20 nin0
    have f21_32 := f19_32.keep K20 nin0
    have f21_33 := Sta_keep0 f19_33 K20
    have f21_34 := f19_34.keep K20
    have f21_35 := f19_35.keep K20 nin0
    have f21_36 := f19_36.keep K20 nin0
    have f21_37 := f19_37.keep K20
    have f21_38 := f19_38.keep K20 nin0
    have f21_39 := f19_39.keep K20 nin0
    have f21_40 := f19_40.keep K20 nin0
    have f21_41 := Sta_keep0 f19_41 K20
    have f21_42 := Sta_keep0 f19_42 K20
    have N20 := Fr.app N18 N20q
    refine Wp.back (U' := (T20.setTop (mkF m 38 #[.val (.int p0), .val (.int (1 : Int32)), .val (.ref u1), .val (.int (0 : Int32)), .val (.int (0 : Int32)), .unset, .unset] [(.ref s1)]))) (fun t k => st20.trans k) ?_
    refine Wp.back (U' := (T20.setTop (mkF m 42 #[.val (.int p0), .val (.int (1 : Int32)), .val (.ref u1), .val (.int (0 : Int32)), .val (.int (0 : Int32)), .val (.ref s1), .unset] [(.ref s1)]))) (fun t k => XS.astore X20.here hx rfl (hb hby at_38) rfl rfl (l' := #[.val (.int p0), .val (.int (1 : Int32)), .val (.ref u1), .val (.int (0 : Int32)), .val (.int (0 : Int32)), .val (.ref s1), .unset]) rfl (XS.aload X20.here hx rfl (hb hby at_40) rfl rfl k)) ?_
    obtain ⟨cq22, kq22, q22a, q22b, q22c⟩ := isOf hZ rfl f21_13
    obtain ⟨_, _, ⟨T22, L22, k22, n22⟩, -, X22, ⟨Lc22, hQ22, l22, y22, z22⟩, st22⟩ := X20.virtualBack hx (y := (⟨"java/lang/String", "length", "()I"⟩ : MethodName)) (z := (⟨"java/lang/String", "length", "()I"⟩ : MethodName)) hown (mvT hZ (hw _ (List.mem_of_getElem? (i := 24) rfl))) (mvT hZ (hw _ (List.mem_of_getElem? (i := 25) rfl))) (notFace_of_selects (args := #[]) (mvT hZ (hw _ (List.mem_of_getElem? (i := 27) rfl)))) (mvT hZ (hw _ (List.mem_of_getElem? (i := 27) rfl))) (mvT hZ (hw _ (List.mem_of_getElem? (i := 26) rfl))) (by decide) (backOf (W := 0) (rm_len1 l Z a0 hw [] s1 cs v1 k1 (60 : Int32) T20.heap n0 f21_0 f21_13 f21_14 f21_15 f21_16 f21_41 hcs) hZ (hw _ (List.mem_of_getElem? (i := 29) rfl)) (hw _ (List.mem_of_getElem? (i := 28) rfl)) (by decide) (by decide)) q22a q22c (g := (mkF m 42 #[.val (.int p0), .val (.int (1 : Int32)), .val (.ref u1), .val (.int (0 : Int32)), .val (.int (0 : Int32)), .val (.ref s1), .unset] [(.ref s1)])) rfl (by rw [hml]; rfl) (Steps.refl _) (argsL := []) (rest := []) (lenOf pd0_3 rfl) rfl (by show 2 * 0 + _ ≤ _; exact Nat.le_of_eq rfl) (hb hby at_42) (fun _ _ => ⟨rfl, rfl, (by decide : 0 + 0 ≤ _), (by decide : 0 + 0 ≤ _)⟩)
    dsimp only [Pt.U, Pt.locs, Pt.cells, Pt.slots] at X22 l22 y22 z22 st22 hQ22
    subst l22 y22 z22
    obtain ⟨rfl, N22q, K22⟩ := hQ22
    have f23_0 := Nat.le_trans f21_0 K22.1
    have f23_1 := Sta_keep0 f21_1 K22
    have f23_2 := f21_2.keep K22
    have f23_3 := f21_3.keep K22 nin0
    have f23_4 := f21_4.keep K22 nin0
    have f23_5 := f21_5.keep K22
    have f23_6 := f21_6.keep K22 nin0
    have f23_7 := f21_7.keep K22 nin0
    have f23_8 := f21_8.keep K22 nin0
    have f23_9 := Sta_keep0 f21_9 K22
    have f23_10 := f21_10.keep K22
    have f23_11 := f21_11.keep K22 nin0
    have f23_12 := f21_12.keep K22 nin0
    have f23_13 := f21_13.keep K22
    have f23_14 := f21_14.keep K22 nin0
    have f23_15 := f21_15.keep K22 nin0
    have f23_16 := f21_16.keep K22 nin0
    have f23_17 := Sta_keep0 f21_17 K22
    have f23_18 := f21_18.keep K22
    have f23_19 := f21_19.keep K22 nin0
    have f23_20 := f21_20.keep K22 nin0
    have f23_21 := f21_21.keep K22
    have f23_22 := f21_22.keep K22 nin0
    have f23_23 := f21_23.keep K22 nin0
    have f23_24 := f21_24.keep K22 nin0
    have f23_25 := Sta_keep0 f21_25 K22
    have f23_26 := f21_26.keep K22
    have f23_27 := f21_27.keep K22 nin0
    have f23_28 := f21_28.keep K22 nin0
    have f23_29 := f21_29.keep K22
    have f23_30 := f21_30.keep K22 nin0
    have f23_31 := f21_31.keep K22 nin0
    have f23_32 := f21_32.keep K22 nin0
    have f23_33 := Sta_keep0 f21_33 K22
    have f23_34 := f21_34.keep K22
    have f23_35 := f21_35.keep K22 nin0
    have f23_36 := f21_36.keep K22 nin0
    have f23_37 := f21_37.keep K22
    have f23_38 := f21_38.keep K22 nin0
    have f23_39 := f21_39.keep K22 nin0
    have f23_40 := f21_40.keep K22 nin0
    have f23_41 := Sta_keep0 f21_41 K22
    have f23_42 := Sta_keep0 f21_42 K22
    have N22 := Fr.app N20 N22q
    refine Wp.back (U' := (T22.setTop (mkF m 45 #[.val (.int p0), .val (.int (1 : Int32)), .val (.ref u1), .val (.int (0 : Int32)), .val (.int (0 : Int32)), .val (.ref s1), .unset] [(.int (1 : Int32))]))) (fun t k => st22.trans k) ?_
    refine Wp.back (U' := (T22.setTop (mkF m 51 #[.val (.int p0), .val (.int (1 : Int32)), .val (.ref u1), .val (.int (0 : Int32)), .val (.int (0 : Int32)), .val (.ref s1), .unset] [(.int (0 : Int32)), (.ref s1)]))) (fun t k => XS.ifNo X22.here hx rfl (hb hby at_45) rfl ((if0 _ _).trans (tlt (by decide)).2.2.2) (XS.aload X22.here hx rfl (hb hby at_48) rfl rfl (XT.iconstV X22.here hx rfl (0 : Int32) (hb hby at_50) (by decide) k))) ?_
    obtain ⟨cq24, kq24, q24a, q24b, q24c⟩ := isOf hZ rfl f23_13
    obtain ⟨_, _, ⟨T24, L24, k24, n24⟩, -, X24, ⟨Lc24, hQ24, l24, y24, z24⟩, st24⟩ := X22.virtualBack hx (y := (⟨"java/lang/String", "charAt", "(I)C"⟩ : MethodName)) (z := (⟨"java/lang/String", "charAt", "(I)C"⟩ : MethodName)) hown (mvT hZ (hw _ (List.mem_of_getElem? (i := 40) rfl))) (mvT hZ (hw _ (List.mem_of_getElem? (i := 41) rfl))) (notFace_of_selects (args := #[]) (mvT hZ (hw _ (List.mem_of_getElem? (i := 43) rfl)))) (mvT hZ (hw _ (List.mem_of_getElem? (i := 43) rfl))) (mvT hZ (hw _ (List.mem_of_getElem? (i := 42) rfl))) (by decide) (backOf (W := 0) (rm_ch1_60 l Z a0 hw [] s1 rf cs v1 k1 T22.heap n0 f23_0 f23_13 f23_14 f23_15 f23_16 f23_41 f23_42 isr_rf hcs) hZ (hw _ (List.mem_of_getElem? (i := 44) rfl)) (hw _ (List.mem_of_getElem? (i := 28) rfl)) (by decide) (by decide)) q24a q24c (g := (mkF m 51 #[.val (.int p0), .val (.int (1 : Int32)), .val (.ref u1), .val (.int (0 : Int32)), .val (.int (0 : Int32)), .val (.ref s1), .unset] [(.int (0 : Int32)), (.ref s1)])) rfl (by rw [hml]; rfl) (Steps.refl _) (argsL := [(.int (0 : Int32))]) (rest := []) (lenOf pd0_4 rfl) rfl (by show 2 * 0 + _ ≤ _; exact Nat.le_of_eq rfl) (hb hby at_51) (fun _ _ => ⟨rfl, rfl, (by decide : 0 + 0 ≤ _), (by decide : 0 + 0 ≤ _)⟩)
    dsimp only [Pt.U, Pt.locs, Pt.cells, Pt.slots] at X24 l24 y24 z24 st24 hQ24
    subst l24 y24 z24
    obtain ⟨rfl, N24q, K24⟩ := hQ24
    have f25_0 := Nat.le_trans f23_0 K24.1
    have f25_1 := Sta_keep0 f23_1 K24
    have f25_2 := f23_2.keep K24
    have f25_3 := f23_3.keep K24 nin0
    have f25_4 := f23_4.keep K24 nin0
    have f25_5 := f23_5.keep K24
    have f25_6 := f23_6.keep K24 nin0
    have f25_7 := f23_7.keep K24 nin0
    have f25_8 := f23_8.keep K24 nin0
    have f25_9 := Sta_keep0 f23_9 K24
    have f25_10 := f23_10.keep K24
    have f25_11 := f23_11.keep K24 nin0
    have f25_12 := f23_12.keep K24 nin0
    have f25_13 := f23_13.keep K24
    have f25_14 := f23_14.keep K24 nin0
    have f25_15 := f23_15.keep K24 nin0
    have f25_16 := f23_16.keep K24 nin0
    have f25_17 := Sta_keep0 f23_17 K24
    have f25_18 := f23_18.keep K24
    have f25_19 := f23_19.keep K24 nin0
    have f25_20 := f23_20.keep K24 nin0
    have f25_21 := f23_21.keep K24
    have f25_22 := f23_22.keep K24 nin0
    have f25_23 := f23_23.keep K24 nin0
    have f25_24 := f23_24.keep K24 nin0
    have f25_25 := Sta_keep0 f23_25 K24
    have f25_26 := f23_26.keep K24
    have f25_27 := f23_27.keep K24 nin0
    have f25_28 := f23_28.keep K24 nin0
    have f25_29 := f23_29.keep K24
    have f25_30 := f23_30.keep K24 nin0
    have f25_31 := f23_31.keep K24 nin0
    have f25_32 := f23_32.keep K24 nin0
    have f25_33 := Sta_keep0 f23_33 K24
    have f25_34 := f23_34.keep K24
    have f25_35 := f23_35.keep K24 nin0
    have f25_36 := f23_36.keep K24 nin0
    have f25_37 := f23_37.keep K24
    have f25_38 := f23_38.keep K24 nin0
    have f25_39 := f23_39.keep K24 nin0
    have f25_40 := f23_40.keep K24 nin0
    have f25_41 := Sta_keep0 f23_41 K24
    have f25_42 := Sta_keep0 f23_42 K24
    have N24 := Fr.app N22 N24q
    refine Wp.back (U' := (T24.setTop (mkF m 54 #[.val (.int p0), .val (.int (1 : Int32)), .val (.ref u1), .val (.int (0 : Int32)), .val (.int (0 : Int32)), .val (.ref s1), .unset] [(.int (60 : Int32))]))) (fun t k => st24.trans k) ?_
    refine Wp.back (U' := (T24.setTop (mkF m 84 #[.val (.int p0), .val (.int (1 : Int32)), .val (.ref u1), .val (.int (0 : Int32)), .val (.int (0 : Int32)), .val (.ref s1), .val (.int (0 : Int32))] [(.int (1 : Int32))]))) (fun t k => XT.bipushV X24.here hx rfl (62 : Int32) (hb hby at_54) (by decide) (XS.icmpYes X24.here hx rfl (pc0 := 56) (pc' := 63) rfl (hb hby at_56) rfl (feq (by decide)).2 (by decide) (by decide) (XT.iconstV X24.here hx rfl (0 : Int32) (hb hby at_63) (by decide) (XS.istore X24.here hx rfl (hb hby at_64) rfl (l' := #[.val (.int p0), .val (.int (1 : Int32)), .val (.ref u1), .val (.int (0 : Int32)), .val (.int (0 : Int32)), .val (.ref s1), .val (.int (0 : Int32))]) rfl (XS.iload X24.here hx rfl (hb hby at_66) rfl (XS.iloadN X24.here hx rfl (hb hby at_68) rfl (XS.icmpNo X24.here hx rfl (hb hby at_69) rfl (teq (by decide)).2 (XS.iload X24.here hx rfl (hb hby at_72) rfl (XS.iload X24.here hx rfl (hb hby at_74) rfl (XS.icmpNo X24.here hx rfl (hb hby at_76) rfl (teq (by decide)).2 (XT.iconstV X24.here hx rfl (1 : Int32) (hb hby at_79) (by decide) (XS.goto X24.here hx rfl (pc0 := 80) (pc' := 84) rfl (hb hby at_80) (by decide) (by decide) k)))))))))))) ?_
    obtain ⟨fs, hr, hrun, hended, hW, hsame⟩ := X24.leave (v := (some (.int (1 : Int32)))) (fun h => by rw [hret] at h; cases h)
    refine Wp.done (retN X24 hx (t := .boolean) hret (by simp) (hb hby at_84) hr) hrun hended ⟨_, _, rfl, ?_, ⟨_, rfl⟩, hW, hsame.mono (by decide) (by decide)⟩
    show QL n0 _ T24.heap _
    exact ⟨rfl, N24⟩
  · rw [hk3]
    refine Wp.back (U' := (s₁.setTop (mkF m 8 #[.val (.int p0), .val (.int (2 : Int32)), .unset, .unset, .unset, .unset, .unset] [(.int (2 : Int32))]))) (fun t k => XS.iloadN X0.here hx rfl (hb hby at_7) rfl k) ?_
    obtain ⟨_, _, ⟨T26, L26, k26, n26⟩, -, X26, ⟨Lc26, hQ26, l26, y26, z26⟩, st26⟩ := Jvm.LawKit.callS X0 hx (y := (⟨"com/example/query_to_table/querytotable/sql/ComparisonIsLowerBoundPinLaw", "pick", "(I)Lcom/example/query_to_table/querytotable/sql/Comparison;"⟩ : MethodName)) hown (mvT hZ (hw _ (List.mem_of_getElem? (i := 1) rfl))) (mvT hZ (hw _ (List.mem_of_getElem? (i := 2) rfl))) (mvT hZ (hw _ (List.mem_of_getElem? (i := 3) rfl))) (mvT hZ (hw _ (List.mem_of_getElem? (i := 4) rfl))) (by decide) (backOf (W := 0) (rm_pk2 l Z a0 hw []  u2 h0 n0 Z0 P2_0) hZ (hw _ (List.mem_of_getElem? (i := 4) rfl)) (hw _ (List.mem_of_getElem? (i := 3) rfl)) (by decide) (by decide)) (g := (mkF m 8 #[.val (.int p0), .val (.int (2 : Int32)), .unset, .unset, .unset, .unset, .unset] [(.int (2 : Int32))])) rfl (by rw [hml]; rfl) (argsL := [(.int (2 : Int32))]) (rest := []) (lenOf pd0_0 rfl) rfl (by show 2 * 0 + _ ≤ _; exact Nat.le_of_eq rfl) (hb hby at_8) (fun _ _ => ⟨rfl, e0, (by decide : 0 + 0 ≤ _), (by decide : 0 + 0 ≤ _)⟩)
    dsimp only [Pt.U, Pt.locs, Pt.cells, Pt.slots] at X26 l26 y26 z26 st26 hQ26
    subst l26 y26 z26
    obtain ⟨rfl, N26q, K26⟩ := hQ26
    have f27_0 := Nat.le_trans Z0 K26.1
    have f27_1 := Sta_keep0 P0_0 K26
    have f27_2 := P0_1.keep K26
    have f27_3 := P0_2.keep K26 nin0
    have f27_4 := P0_3.keep K26 nin0
    have f27_5 := P0_4.keep K26
    have f27_6 := P0_5.keep K26 nin0
    have f27_7 := P0_6.keep K26 nin0
    have f27_8 := P0_7.keep K26 nin0
    have f27_9 := Sta_keep0 P1_0 K26
    have f27_10 := P1_1.keep K26
    have f27_11 := P1_2.keep K26 nin0
    have f27_12 := P1_3.keep K26 nin0
    have f27_13 := P1_4.keep K26
    have f27_14 := P1_5.keep K26 nin0
    have f27_15 := P1_6.keep K26 nin0
    have f27_16 := P1_7.keep K26 nin0
    have f27_17 := Sta_keep0 P2_0 K26
    have f27_18 := P2_1.keep K26
    have f27_19 := P2_2.keep K26 nin0
    have f27_20 := P2_3.keep K26 nin0
    have f27_21 := P2_4.keep K26
    have f27_22 := P2_5.keep K26 nin0
    have f27_23 := P2_6.keep K26 nin0
    have f27_24 := P2_7.keep K26 nin0
    have f27_25 := Sta_keep0 P3_0 K26
    have f27_26 := P3_1.keep K26
    have f27_27 := P3_2.keep K26 nin0
    have f27_28 := P3_3.keep K26 nin0
    have f27_29 := P3_4.keep K26
    have f27_30 := P3_5.keep K26 nin0
    have f27_31 := P3_6.keep K26 nin0
    have f27_32 := P3_7.keep K26 nin0
    have f27_33 := Sta_keep0 P4_0 K26
    have f27_34 := P4_1.keep K26
    have f27_35 := P4_2.keep K26 nin0
    have f27_36 := P4_3.keep K26 nin0
    have f27_37 := P4_4.keep K26
    have f27_38 := P4_5.keep K26 nin0
    have f27_39 := P4_6.keep K26 nin0
    have f27_40 := P4_7.keep K26 nin0
    have f27_41 := Sta_keep0 PC K26
    have f27_42 := Sta_keep0 PF K26
    have N26 := Fr.app N0 N26q
    refine Wp.back (U' := (T26.setTop (mkF m 11 #[.val (.int p0), .val (.int (2 : Int32)), .unset, .unset, .unset, .unset, .unset] [(.ref u2)]))) st26 ?_
    refine Wp.back (U' := (T26.setTop (mkF m 29 #[.val (.int p0), .val (.int (2 : Int32)), .val (.ref u2), .val (.int (0 : Int32)), .unset, .unset, .unset] [(.ref u2)]))) (fun t k => XS.astoreN X26.here hx rfl (hb hby at_11) rfl rfl (l' := #[.val (.int p0), .val (.int (2 : Int32)), .val (.ref u2), .unset, .unset, .unset, .unset]) rfl (XS.iloadN X26.here hx rfl (hb hby at_12) rfl (XT.iconstV X26.here hx rfl (3 : Int32) (hb hby at_13) (by decide) (XS.icmpNo X26.here hx rfl (hb hby at_14) rfl (feq (by decide)).1 (XS.iloadN X26.here hx rfl (hb hby at_17) rfl (XT.iconstV X26.here hx rfl (4 : Int32) (hb hby at_18) (by decide) (XS.icmpYes X26.here hx rfl (pc0 := 19) (pc' := 26) rfl (hb hby at_19) rfl (feq (by decide)).2 (by decide) (by decide) (XT.iconstV X26.here hx rfl (0 : Int32) (hb hby at_26) (by decide) (XS.istoreN X26.here hx rfl (hb hby at_27) rfl (l' := #[.val (.int p0), .val (.int (2 : Int32)), .val (.ref u2), .val (.int (0 : Int32)), .unset, .unset, .unset]) rfl (XS.aloadN X26.here hx rfl (hb hby at_28) rfl rfl k)))))))))) ?_
    obtain ⟨cq28, kq28, q28a, q28b, q28c⟩ := isOf hZ rfl f27_18
    obtain ⟨_, _, ⟨T28, L28, k28, n28⟩, -, X28, ⟨Lc28, hQ28, l28, y28, z28⟩, st28⟩ := X26.virtualBack hx (y := (⟨"com/example/query_to_table/querytotable/sql/Comparison", "isLowerBound", "()Z"⟩ : MethodName)) (z := (⟨"com/example/query_to_table/querytotable/sql/Comparison", "isLowerBound", "()Z"⟩ : MethodName)) hown (mvT hZ (hw _ (List.mem_of_getElem? (i := 8) rfl))) (mvT hZ (hw _ (List.mem_of_getElem? (i := 9) rfl))) (notFace_of_selects (args := #[]) (mvT hZ (hw _ (List.mem_of_getElem? (i := 11) rfl)))) (mvT hZ (hw _ (List.mem_of_getElem? (i := 11) rfl))) (mvT hZ (hw _ (List.mem_of_getElem? (i := 10) rfl))) (by decide) (backOf (W := 0) (rm_ub0 l Z a0 hw [] u2 u3 u4 T26.heap n0 f27_0 f27_25 f27_33 (Fld.ne P2_2 P3_2 (by decide)) (Fld.ne P2_2 P4_2 (by decide))) hZ (hw _ (List.mem_of_getElem? (i := 12) rfl)) (hw _ (List.mem_of_getElem? (i := 6) rfl)) (by decide) (by decide)) q28a q28c (g := (mkF m 29 #[.val (.int p0), .val (.int (2 : Int32)), .val (.ref u2), .val (.int (0 : Int32)), .unset, .unset, .unset] [(.ref u2)])) rfl (by rw [hml]; rfl) (Steps.refl _) (argsL := []) (rest := []) (lenOf pd0_1 rfl) rfl (by show 2 * 0 + _ ≤ _; exact Nat.le_of_eq rfl) (hb hby at_29) (fun _ _ => ⟨rfl, rfl, (by decide : 0 + 0 ≤ _), (by decide : 0 + 0 ≤ _)⟩)
    dsimp only [Pt.U, Pt.locs, Pt.cells, Pt.slots] at X28 l28 y28 z28 st28 hQ28
    subst l28 y28 z28
    obtain ⟨rfl, N28q, K28⟩ := hQ28
    have f29_0 := Nat.le_trans f27_0 K28.1
    have f29_1 := Sta_keep0 f27_1 K28
    have f29_2 := f27_2.keep K28
    have f29_3 := f27_3.keep K28 nin0
    have f29_4 := f27_4.keep K28 nin0
    have f29_5 := f27_5.keep K28
    have f29_6 := f27_6.keep K28 nin0
    have f29_7 := f27_7.keep K28 nin0
    have f29_8 := f27_8.keep K28 nin0
    have f29_9 := Sta_keep0 f27_9 K28
    have f29_10 := f27_10.keep K28
    have f29_11 := f27_11.keep K28 nin0
    have f29_12 := f27_12.keep K28 nin0
    have f29_13 := f27_13.keep K28
    have f29_14 := f27_14.keep K28 nin0
    have f29_15 := f27_15.keep K28 nin0
    have f29_16 := f27_16.keep K28 nin0
    have f29_17 := Sta_keep0 f27_17 K28
    have f29_18 := f27_18.keep K28
    have f29_19 := f27_19.keep K28 nin0
    have f29_20 := f27_20.keep K28 nin0
    have f29_21 := f27_21.keep K28
    have f29_22 := f27_22.keep K28 nin0
    have f29_23 := f27_23.keep K28 nin0
    have f29_24 := f27_24.keep K28 nin0
    have f29_25 := Sta_keep0 f27_25 K28
    have f29_26 := f27_26.keep K28
    have f29_27 := f27_27.keep K28 nin0
    have f29_28 := f27_28.keep K28 nin0
    have f29_29 := f27_29.keep K28
    have f29_30 := f27_30.keep K28 nin0
    have f29_31 := f27_31.keep K28 nin0
    have f29_32 := f27_32.keep K28 nin0
    have f29_33 := Sta_keep0 f27_33 K28
    have f29_34 := f27_34.keep K28
    have f29_35 := f27_35.keep K28 nin0
    have f29_36 := f27_36.keep K28 nin0
    have f29_37 := f27_37.keep K28
    have f29_38 := f27_38.keep K28 nin0
    have f29_39 := f27_39.keep K28 nin0
    have f29_40 := f27_40.keep K28 nin0
    have f29_41 := Sta_keep0 f27_41 K28
    have f29_42 := Sta_keep0 f27_42 K28
    have N28 := Fr.app N26 N28q
    refine Wp.back (U' := (T28.setTop (mkF m 32 #[.val (.int p0), .val (.int (2 : Int32)), .val (.ref u2), .val (.int (0 : Int32)), .unset, .unset, .unset] [(.int (0 : Int32))]))) (fun t k => st28.trans k) ?_
    refine Wp.back (U' := (T28.setTop (mkF m 35 #[.val (.int p0), .val (.int (2 : Int32)), .val (.ref u2), .val (.int (0 : Int32)), .val (.int (0 : Int32)), .unset, .unset] [(.ref u2)]))) (fun t k => XS.istore X28.here hx rfl (hb hby at_32) rfl (l' := #[.val (.int p0), .val (.int (2 : Int32)), .val (.ref u2), .val (.int (0 : Int32)), .val (.int (0 : Int32)), .unset, .unset]) rfl (XS.aloadN X28.here hx rfl (hb hby at_34) rfl rfl k)) ?_
    obtain ⟨cq30, kq30, q30a, q30b, q30c⟩ := isOf hZ rfl f29_18
    obtain ⟨_, _, ⟨T30, L30, k30, n30⟩, -, X30, ⟨Lc30, hQ30, l30, y30, z30⟩, st30⟩ := X28.virtualBack hx (y := (⟨"com/example/query_to_table/querytotable/sql/Comparison", "symbol", "()Ljava/lang/String;"⟩ : MethodName)) (z := (⟨"com/example/query_to_table/querytotable/sql/Comparison", "symbol", "()Ljava/lang/String;"⟩ : MethodName)) hown (mvT hZ (hw _ (List.mem_of_getElem? (i := 17) rfl))) (mvT hZ (hw _ (List.mem_of_getElem? (i := 18) rfl))) (notFace_of_selects (args := #[]) (mvT hZ (hw _ (List.mem_of_getElem? (i := 20) rfl)))) (mvT hZ (hw _ (List.mem_of_getElem? (i := 20) rfl))) (mvT hZ (hw _ (List.mem_of_getElem? (i := 19) rfl))) (by decide) (backOf (W := 0) (rm_sym l Z a0 hw [] u2 s2 T28.heap n0 f29_0 f29_20) hZ (hw _ (List.mem_of_getElem? (i := 21) rfl)) (hw _ (List.mem_of_getElem? (i := 6) rfl)) (by decide) (by decide)) q30a q30c (g := (mkF m 35 #[.val (.int p0), .val (.int (2 : Int32)), .val (.ref u2), .val (.int (0 : Int32)), .val (.int (0 : Int32)), .unset, .unset] [(.ref u2)])) rfl (by rw [hml]; rfl) (Steps.refl _) (argsL := []) (rest := []) (lenOf pd0_2 rfl) rfl (by show 2 * 0 + _ ≤ _; exact Nat.le_of_eq rfl) (hb hby at_35) (fun _ _ => ⟨rfl, rfl, (by decide : 0 + 0 ≤ _), (by decide : 0 + 0 ≤ _)⟩)
    dsimp only [Pt.U, Pt.locs, Pt.cells, Pt.slots] at X30 l30 y30 z30 st30 hQ30
    subst l30 y30 z30
    obtain ⟨rfl, N30q, K30⟩ := hQ30
    have f31_0 := Nat.le_trans f29_0 K30.1
    have f31_1 := Sta_keep0 f29_1 K30
    have f31_2 := f29_2.keep K30
    have f31_3 := f29_3.keep K30 nin0
    have f31_4 := f29_4.keep K30 nin0
    have f31_5 := f29_5.keep K30
    have f31_6 := f29_6.keep K30 nin0
    have f31_7 := f29_7.keep K30 nin0
    have f31_8 := f29_8.keep K30 nin0
    have f31_9 := Sta_keep0 f29_9 K30
    have f31_10 := f29_10.keep K30
    have f31_11 := f29_11.keep K30 nin0
    have f31_12 := f29_12.keep K30 nin0
    have f31_13 := f29_13.keep K30
    have f31_14 := f29_14.keep K30 nin0
    have f31_15 := f29_15.keep K30 nin0
    have f31_16 := f29_16.keep K30 nin0
    have f31_17 := Sta_keep0 f29_17 K30
    have f31_18 := f29_18.keep K30
    have f31_19 := f29_19.keep K30 nin0
    have f31_20 := f29_20.keep K30 nin0
    have f31_21 := f29_21.keep K30
    have f31_22 := f29_22.keep K30 nin0
    have f31_23 := f29_23.keep K30 nin0
    have f31_24 := f29_24.keep K30 nin0
    have f31_25 := Sta_keep0 f29_25 K30
    have f31_26 := f29_26.keep K30
    have f31_27 := f29_27.keep K30 nin0
    have f31_28 := f29_28.keep K30 nin0
    have f31_29 := f29_29.keep K30
    have f31_30 := f29_30.keep K30 nin0
    have f31_31 := f29_31.keep K30 nin0
    have f31_32 := f29_32.keep K30 nin0
    have f31_33 := Sta_keep0 f29_33 K30
    have f31_34 := f29_34.keep K30
    have f31_35 := f29_35.keep K30 nin0
    have f31_36 := f29_36.keep K30 nin0
    have f31_37 := f29_37.keep K30
    have f31_38 := f29_38.keep K30 nin0
    have f31_39 := f29_39.keep K30 nin0
    have f31_40 := f29_40.keep K30 nin0
    have f31_41 := Sta_keep0 f29_41 K30
    have f31_42 := Sta_keep0 f29_42 K30
    have N30 := Fr.app N28 N30q
    refine Wp.back (U' := (T30.setTop (mkF m 38 #[.val (.int p0), .val (.int (2 : Int32)), .val (.ref u2), .val (.int (0 : Int32)), .val (.int (0 : Int32)), .unset, .unset] [(.ref s2)]))) (fun t k => st30.trans k) ?_
    refine Wp.back (U' := (T30.setTop (mkF m 42 #[.val (.int p0), .val (.int (2 : Int32)), .val (.ref u2), .val (.int (0 : Int32)), .val (.int (0 : Int32)), .val (.ref s2), .unset] [(.ref s2)]))) (fun t k => XS.astore X30.here hx rfl (hb hby at_38) rfl rfl (l' := #[.val (.int p0), .val (.int (2 : Int32)), .val (.ref u2), .val (.int (0 : Int32)), .val (.int (0 : Int32)), .val (.ref s2), .unset]) rfl (XS.aload X30.here hx rfl (hb hby at_40) rfl rfl k)) ?_
    obtain ⟨cq32, kq32, q32a, q32b, q32c⟩ := isOf hZ rfl f31_21
    obtain ⟨_, _, ⟨T32, L32, k32, n32⟩, -, X32, ⟨Lc32, hQ32, l32, y32, z32⟩, st32⟩ := X30.virtualBack hx (y := (⟨"java/lang/String", "length", "()I"⟩ : MethodName)) (z := (⟨"java/lang/String", "length", "()I"⟩ : MethodName)) hown (mvT hZ (hw _ (List.mem_of_getElem? (i := 24) rfl))) (mvT hZ (hw _ (List.mem_of_getElem? (i := 25) rfl))) (notFace_of_selects (args := #[]) (mvT hZ (hw _ (List.mem_of_getElem? (i := 27) rfl)))) (mvT hZ (hw _ (List.mem_of_getElem? (i := 27) rfl))) (mvT hZ (hw _ (List.mem_of_getElem? (i := 26) rfl))) (by decide) (backOf (W := 0) (rm_len2 l Z a0 hw [] s2 cs v2 k2 (60 : Int32) (61 : Int32) T30.heap n0 f31_0 f31_21 f31_22 f31_23 f31_24 f31_41 hcs) hZ (hw _ (List.mem_of_getElem? (i := 29) rfl)) (hw _ (List.mem_of_getElem? (i := 28) rfl)) (by decide) (by decide)) q32a q32c (g := (mkF m 42 #[.val (.int p0), .val (.int (2 : Int32)), .val (.ref u2), .val (.int (0 : Int32)), .val (.int (0 : Int32)), .val (.ref s2), .unset] [(.ref s2)])) rfl (by rw [hml]; rfl) (Steps.refl _) (argsL := []) (rest := []) (lenOf pd0_3 rfl) rfl (by show 2 * 0 + _ ≤ _; exact Nat.le_of_eq rfl) (hb hby at_42) (fun _ _ => ⟨rfl, rfl, (by decide : 0 + 0 ≤ _), (by decide : 0 + 0 ≤ _)⟩)
    dsimp only [Pt.U, Pt.locs, Pt.cells, Pt.slots] at X32 l32 y32 z32 st32 hQ32
    subst l32 y32 z32
    obtain ⟨rfl, N32q, K32⟩ := hQ32
    have f33_0 := Nat.le_trans f31_0 K32.1
    have f33_1 := Sta_keep0 f31_1 K32
    have f33_2 := f31_2.keep K32
    have f33_3 := f31_3.keep K32 nin0
    have f33_4 := f31_4.keep K32 nin0
    have f33_5 := f31_5.keep K32
    have f33_6 := f31_6.keep K32 nin0
    have f33_7 := f31_7.keep K32 nin0
    have f33_8 := f31_8.keep K32 nin0
    have f33_9 := Sta_keep0 f31_9 K32
    have f33_10 := f31_10.keep K32
    have f33_11 := f31_11.keep K32 nin0
    have f33_12 := f31_12.keep K32 nin0
    have f33_13 := f31_13.keep K32
    have f33_14 := f31_14.keep K32 nin0
    have f33_15 := f31_15.keep K32 nin0
    have f33_16 := f31_16.keep K32 nin0
    have f33_17 := Sta_keep0 f31_17 K32
    have f33_18 := f31_18.keep K32
    have f33_19 := f31_19.keep K32 nin0
    have f33_20 := f31_20.keep K32 nin0
    have f33_21 := f31_21.keep K32
    have f33_22 := f31_22.keep K32 nin0
    have f33_23 := f31_23.keep K32 nin0
    have f33_24 := f31_24.keep K32 nin0
    have f33_25 := Sta_keep0 f31_25 K32
    have f33_26 := f31_26.keep K32
    have f33_27 := f31_27.keep K32 nin0
    have f33_28 := f31_28.keep K32 nin0
    have f33_29 := f31_29.keep K32
    have f33_30 := f31_30.keep K32 nin0
    have f33_31 := f31_31.keep K32 nin0
    have f33_32 := f31_32.keep K32 nin0
    have f33_33 := Sta_keep0 f31_33 K32
    have f33_34 := f31_34.keep K32
    have f33_35 := f31_35.keep K32 nin0
    have f33_36 := f31_36.keep K32 nin0
    have f33_37 := f31_37.keep K32
    have f33_38 := f31_38.keep K32 nin0
    have f33_39 := f31_39.keep K32 nin0
    have f33_40 := f31_40.keep K32 nin0
    have f33_41 := Sta_keep0 f31_41 K32
    have f33_42 := Sta_keep0 f31_42 K32
    have N32 := Fr.app N30 N32q
    refine Wp.back (U' := (T32.setTop (mkF m 45 #[.val (.int p0), .val (.int (2 : Int32)), .val (.ref u2), .val (.int (0 : Int32)), .val (.int (0 : Int32)), .val (.ref s2), .unset] [(.int (2 : Int32))]))) (fun t k => st32.trans k) ?_
    refine Wp.back (U' := (T32.setTop (mkF m 51 #[.val (.int p0), .val (.int (2 : Int32)), .val (.ref u2), .val (.int (0 : Int32)), .val (.int (0 : Int32)), .val (.ref s2), .unset] [(.int (0 : Int32)), (.ref s2)]))) (fun t k => XS.ifNo X32.here hx rfl (hb hby at_45) rfl ((if0 _ _).trans (tlt (by decide)).2.2.2) (XS.aload X32.here hx rfl (hb hby at_48) rfl rfl (XT.iconstV X32.here hx rfl (0 : Int32) (hb hby at_50) (by decide) k))) ?_
    obtain ⟨cq34, kq34, q34a, q34b, q34c⟩ := isOf hZ rfl f33_21
    obtain ⟨_, _, ⟨T34, L34, k34, n34⟩, -, X34, ⟨Lc34, hQ34, l34, y34, z34⟩, st34⟩ := X32.virtualBack hx (y := (⟨"java/lang/String", "charAt", "(I)C"⟩ : MethodName)) (z := (⟨"java/lang/String", "charAt", "(I)C"⟩ : MethodName)) hown (mvT hZ (hw _ (List.mem_of_getElem? (i := 40) rfl))) (mvT hZ (hw _ (List.mem_of_getElem? (i := 41) rfl))) (notFace_of_selects (args := #[]) (mvT hZ (hw _ (List.mem_of_getElem? (i := 43) rfl)))) (mvT hZ (hw _ (List.mem_of_getElem? (i := 43) rfl))) (mvT hZ (hw _ (List.mem_of_getElem? (i := 42) rfl))) (by decide) (backOf (W := 0) (rm_ch2_60 l Z a0 hw [] s2 rf cs v2 k2 (61 : Int32) T32.heap n0 f33_0 f33_21 f33_22 f33_23 f33_24 f33_41 f33_42 isr_rf hcs) hZ (hw _ (List.mem_of_getElem? (i := 44) rfl)) (hw _ (List.mem_of_getElem? (i := 28) rfl)) (by decide) (by decide)) q34a q34c (g := (mkF m 51 #[.val (.int p0), .val (.int (2 : Int32)), .val (.ref u2), .val (.int (0 : Int32)), .val (.int (0 : Int32)), .val (.ref s2), .unset] [(.int (0 : Int32)), (.ref s2)])) rfl (by rw [hml]; rfl) (Steps.refl _) (argsL := [(.int (0 : Int32))]) (rest := []) (lenOf pd0_4 rfl) rfl (by show 2 * 0 + _ ≤ _; exact Nat.le_of_eq rfl) (hb hby at_51) (fun _ _ => ⟨rfl, rfl, (by decide : 0 + 0 ≤ _), (by decide : 0 + 0 ≤ _)⟩)
    dsimp only [Pt.U, Pt.locs, Pt.cells, Pt.slots] at X34 l34 y34 z34 st34 hQ34
    subst l34 y34 z34
    obtain ⟨rfl, N34q, K34⟩ := hQ34
    have f35_0 := Nat.le_trans f33_0 K34.1
    have f35_1 := Sta_keep0 f33_1 K34
    have f35_2 := f33_2.keep K34
    have f35_3 := f33_3.keep K34 nin0
    have f35_4 := f33_4.keep K34 nin0
    have f35_5 := f33_5.keep K34
    have f35_6 := f33_6.keep K34 nin0
    have f35_7 := f33_7.keep K34 nin0
    have f35_8 := f33_8.keep K34 nin0
    have f35_9 := Sta_keep0 f33_9 K34
    have f35_10 := f33_10.keep K34
    have f35_11 := f33_11.keep K34 nin0
    have f35_12 := f33_12.keep K34 nin0
    have f35_13 := f33_13.keep K34
    have f35_14 := f33_14.keep K34 nin0
    have f35_15 := f33_15.keep K34 nin0
    have f35_16 := f33_16.keep K34 nin0
    have f35_17 := Sta_keep0 f33_17 K34
    have f35_18 := f33_18.keep K34
    have f35_19 := f33_19.keep K34 nin0
    have f35_20 := f33_20.keep K34 nin0
    have f35_21 := f33_21.keep K34
    have f35_22 := f33_22.keep K34 nin0
    have f35_23 := f33_23.keep K34 nin0
    have f35_24 := f33_24.keep K34 nin0
    have f35_25 := Sta_keep0 f33_25 K34
    have f35_26 := f33_26.keep K34
    have f35_27 := f33_27.keep K34 nin0
    have f35_28 := f33_28.keep K34 nin0
    have f35_29 := f33_29.keep K34
    have f35_30 := f33_30.keep K34 nin0
    have f35_31 := f33_31.keep K34 nin0
    have f35_32 := f33_32.keep K34 nin0
    have f35_33 := Sta_keep0 f33_33 K34
    have f35_34 := f33_34.keep K34
    have f35_35 := f33_35.keep K34 nin0
    have f35_36 := f33_36.keep K34 nin0
    have f35_37 := f33_37.keep K34
    have f35_38 := f33_38.keep K34 nin0
    have f35_39 := f33_39.keep K34 nin0
    have f35_40 := f33_40.keep K34 nin0
    have f35_41 := Sta_keep0 f33_41 K34
    have f35_42 := Sta_keep0 f33_42 K34
    have N34 := Fr.app N32 N34q
    refine Wp.back (U' := (T34.setTop (mkF m 54 #[.val (.int p0), .val (.int (2 : Int32)), .val (.ref u2), .val (.int (0 : Int32)), .val (.int (0 : Int32)), .val (.ref s2), .unset] [(.int (60 : Int32))]))) (fun t k => st34.trans k) ?_
    refine Wp.back (U' := (T34.setTop (mkF m 84 #[.val (.int p0), .val (.int (2 : Int32)), .val (.ref u2), .val (.int (0 : Int32)), .val (.int (0 : Int32)), .val (.ref s2), .val (.int (0 : Int32))] [(.int (1 : Int32))]))) (fun t k => XT.bipushV X34.here hx rfl (62 : Int32) (hb hby at_54) (by decide) (XS.icmpYes X34.here hx rfl (pc0 := 56) (pc' := 63) rfl (hb hby at_56) rfl (feq (by decide)).2 (by decide) (by decide) (XT.iconstV X34.here hx rfl (0 : Int32) (hb hby at_63) (by decide) (XS.istore X34.here hx rfl (hb hby at_64) rfl (l' := #[.val (.int p0), .val (.int (2 : Int32)), .val (.ref u2), .val (.int (0 : Int32)), .val (.int (0 : Int32)), .val (.ref s2), .val (.int (0 : Int32))]) rfl (XS.iload X34.here hx rfl (hb hby at_66) rfl (XS.iloadN X34.here hx rfl (hb hby at_68) rfl (XS.icmpNo X34.here hx rfl (hb hby at_69) rfl (teq (by decide)).2 (XS.iload X34.here hx rfl (hb hby at_72) rfl (XS.iload X34.here hx rfl (hb hby at_74) rfl (XS.icmpNo X34.here hx rfl (hb hby at_76) rfl (teq (by decide)).2 (XT.iconstV X34.here hx rfl (1 : Int32) (hb hby at_79) (by decide) (XS.goto X34.here hx rfl (pc0 := 80) (pc' := 84) rfl (hb hby at_80) (by decide) (by decide) k)))))))))))) ?_
    obtain ⟨fs, hr, hrun, hended, hW, hsame⟩ := X34.leave (v := (some (.int (1 : Int32)))) (fun h => by rw [hret] at h; cases h)
    refine Wp.done (retN X34 hx (t := .boolean) hret (by simp) (hb hby at_84) hr) hrun hended ⟨_, _, rfl, ?_, ⟨_, rfl⟩, hW, hsame.mono (by decide) (by decide)⟩
    show QL n0 _ T34.heap _
    exact ⟨rfl, N34⟩
  · rw [hk4]
    refine Wp.back (U' := (s₁.setTop (mkF m 8 #[.val (.int p0), .val (.int (3 : Int32)), .unset, .unset, .unset, .unset, .unset] [(.int (3 : Int32))]))) (fun t k => XS.iloadN X0.here hx rfl (hb hby at_7) rfl k) ?_
    obtain ⟨_, _, ⟨T36, L36, k36, n36⟩, -, X36, ⟨Lc36, hQ36, l36, y36, z36⟩, st36⟩ := Jvm.LawKit.callS X0 hx (y := (⟨"com/example/query_to_table/querytotable/sql/ComparisonIsLowerBoundPinLaw", "pick", "(I)Lcom/example/query_to_table/querytotable/sql/Comparison;"⟩ : MethodName)) hown (mvT hZ (hw _ (List.mem_of_getElem? (i := 1) rfl))) (mvT hZ (hw _ (List.mem_of_getElem? (i := 2) rfl))) (mvT hZ (hw _ (List.mem_of_getElem? (i := 3) rfl))) (mvT hZ (hw _ (List.mem_of_getElem? (i := 4) rfl))) (by decide) (backOf (W := 0) (rm_pk3 l Z a0 hw []  u3 h0 n0 Z0 P3_0) hZ (hw _ (List.mem_of_getElem? (i := 4) rfl)) (hw _ (List.mem_of_getElem? (i := 3) rfl)) (by decide) (by decide)) (g := (mkF m 8 #[.val (.int p0), .val (.int (3 : Int32)), .unset, .unset, .unset, .unset, .unset] [(.int (3 : Int32))])) rfl (by rw [hml]; rfl) (argsL := [(.int (3 : Int32))]) (rest := []) (lenOf pd0_0 rfl) rfl (by show 2 * 0 + _ ≤ _; exact Nat.le_of_eq rfl) (hb hby at_8) (fun _ _ => ⟨rfl, e0, (by decide : 0 + 0 ≤ _), (by decide : 0 + 0 ≤ _)⟩)
    dsimp only [Pt.U, Pt.locs, Pt.cells, Pt.slots] at X36 l36 y36 z36 st36 hQ36
    subst l36 y36 z36
    obtain ⟨rfl, N36q, K36⟩ := hQ36
    have f37_0 := Nat.le_trans Z0 K36.1
    have f37_1 := Sta_keep0 P0_0 K36
    have f37_2 := P0_1.keep K36
    have f37_3 := P0_2.keep K36 nin0
    have f37_4 := P0_3.keep K36 nin0
    have f37_5 := P0_4.keep K36
    have f37_6 := P0_5.keep K36 nin0
    have f37_7 := P0_6.keep K36 nin0
    have f37_8 := P0_7.keep K36 nin0
    have f37_9 := Sta_keep0 P1_0 K36
    have f37_10 := P1_1.keep K36
    have f37_11 := P1_2.keep K36 nin0
    have f37_12 := P1_3.keep K36 nin0
    have f37_13 := P1_4.keep K36
    have f37_14 := P1_5.keep K36 nin0
    have f37_15 := P1_6.keep K36 nin0
    have f37_16 := P1_7.keep K36 nin0
    have f37_17 := Sta_keep0 P2_0 K36
    have f37_18 := P2_1.keep K36
    have f37_19 := P2_2.keep K36 nin0
    have f37_20 := P2_3.keep K36 nin0
    have f37_21 := P2_4.keep K36
    have f37_22 := P2_5.keep K36 nin0
    have f37_23 := P2_6.keep K36 nin0
    have f37_24 := P2_7.keep K36 nin0
    have f37_25 := Sta_keep0 P3_0 K36
    have f37_26 := P3_1.keep K36
    have f37_27 := P3_2.keep K36 nin0
    have f37_28 := P3_3.keep K36 nin0
    have f37_29 := P3_4.keep K36
    have f37_30 := P3_5.keep K36 nin0
    have f37_31 := P3_6.keep K36 nin0
    have f37_32 := P3_7.keep K36 nin0
    have f37_33 := Sta_keep0 P4_0 K36
    have f37_34 := P4_1.keep K36
    have f37_35 := P4_2.keep K36 nin0
    have f37_36 := P4_3.keep K36 nin0
    have f37_37 := P4_4.keep K36
    have f37_38 := P4_5.keep K36 nin0
    have f37_39 := P4_6.keep K36 nin0
    have f37_40 := P4_7.keep K36 nin0
    have f37_41 := Sta_keep0 PC K36
    have f37_42 := Sta_keep0 PF K36
    have N36 := Fr.app N0 N36q
    refine Wp.back (U' := (T36.setTop (mkF m 11 #[.val (.int p0), .val (.int (3 : Int32)), .unset, .unset, .unset, .unset, .unset] [(.ref u3)]))) st36 ?_
    refine Wp.back (U' := (T36.setTop (mkF m 29 #[.val (.int p0), .val (.int (3 : Int32)), .val (.ref u3), .val (.int (1 : Int32)), .unset, .unset, .unset] [(.ref u3)]))) (fun t k => XS.astoreN X36.here hx rfl (hb hby at_11) rfl rfl (l' := #[.val (.int p0), .val (.int (3 : Int32)), .val (.ref u3), .unset, .unset, .unset, .unset]) rfl (XS.iloadN X36.here hx rfl (hb hby at_12) rfl (XT.iconstV X36.here hx rfl (3 : Int32) (hb hby at_13) (by decide) (XS.icmpYes X36.here hx rfl (pc0 := 14) (pc' := 22) rfl (hb hby at_14) rfl (teq (by decide)).1 (by decide) (by decide) (XT.iconstV X36.here hx rfl (1 : Int32) (hb hby at_22) (by decide) (XS.goto X36.here hx rfl (pc0 := 23) (pc' := 27) rfl (hb hby at_23) (by decide) (by decide) (XS.istoreN X36.here hx rfl (hb hby at_27) rfl (l' := #[.val (.int p0), .val (.int (3 : Int32)), .val (.ref u3), .val (.int (1 : Int32)), .unset, .unset, .unset]) rfl (XS.aloadN X36.here hx rfl (hb hby at_28) rfl rfl k)))))))) ?_
    obtain ⟨cq38, kq38, q38a, q38b, q38c⟩ := isOf hZ rfl f37_26
    obtain ⟨_, _, ⟨T38, L38, k38, n38⟩, -, X38, ⟨Lc38, hQ38, l38, y38, z38⟩, st38⟩ := X36.virtualBack hx (y := (⟨"com/example/query_to_table/querytotable/sql/Comparison", "isLowerBound", "()Z"⟩ : MethodName)) (z := (⟨"com/example/query_to_table/querytotable/sql/Comparison", "isLowerBound", "()Z"⟩ : MethodName)) hown (mvT hZ (hw _ (List.mem_of_getElem? (i := 8) rfl))) (mvT hZ (hw _ (List.mem_of_getElem? (i := 9) rfl))) (notFace_of_selects (args := #[]) (mvT hZ (hw _ (List.mem_of_getElem? (i := 11) rfl)))) (mvT hZ (hw _ (List.mem_of_getElem? (i := 11) rfl))) (mvT hZ (hw _ (List.mem_of_getElem? (i := 10) rfl))) (by decide) (backOf (W := 0) (rm_ub1 l Z a0 hw [] u3  T36.heap n0 f37_0 f37_25) hZ (hw _ (List.mem_of_getElem? (i := 12) rfl)) (hw _ (List.mem_of_getElem? (i := 6) rfl)) (by decide) (by decide)) q38a q38c (g := (mkF m 29 #[.val (.int p0), .val (.int (3 : Int32)), .val (.ref u3), .val (.int (1 : Int32)), .unset, .unset, .unset] [(.ref u3)])) rfl (by rw [hml]; rfl) (Steps.refl _) (argsL := []) (rest := []) (lenOf pd0_1 rfl) rfl (by show 2 * 0 + _ ≤ _; exact Nat.le_of_eq rfl) (hb hby at_29) (fun _ _ => ⟨rfl, rfl, (by decide : 0 + 0 ≤ _), (by decide : 0 + 0 ≤ _)⟩)
    dsimp only [Pt.U, Pt.locs, Pt.cells, Pt.slots] at X38 l38 y38 z38 st38 hQ38
    subst l38 y38 z38
    obtain ⟨rfl, N38q, K38⟩ := hQ38
    have f39_0 := Nat.le_trans f37_0 K38.1
    have f39_1 := Sta_keep0 f37_1 K38
    have f39_2 := f37_2.keep K38
    have f39_3 := f37_3.keep K38 nin0
    have f39_4 := f37_4.keep K38 nin0
    have f39_5 := f37_5.keep K38
    have f39_6 := f37_6.keep K38 nin0
    have f39_7 := f37_7.keep K38 nin0
    have f39_8 := f37_8.keep K38 nin0
    have f39_9 := Sta_keep0 f37_9 K38
    have f39_10 := f37_10.keep K38
    have f39_11 := f37_11.keep K38 nin0
    have f39_12 := f37_12.keep K38 nin0
    have f39_13 := f37_13.keep K38
    have f39_14 := f37_14.keep K38 nin0
    have f39_15 := f37_15.keep K38 nin0
    have f39_16 := f37_16.keep K38 nin0
    have f39_17 := Sta_keep0 f37_17 K38
    have f39_18 := f37_18.keep K38
    have f39_19 := f37_19.keep K38 nin0
    have f39_20 := f37_20.keep K38 nin0
    have f39_21 := f37_21.keep K38
    have f39_22 := f37_22.keep K38 nin0
    have f39_23 := f37_23.keep K38 nin0
    have f39_24 := f37_24.keep K38 nin0
    have f39_25 := Sta_keep0 f37_25 K38
    have f39_26 := f37_26.keep K38
    have f39_27 := f37_27.keep K38 nin0
    have f39_28 := f37_28.keep K38 nin0
    have f39_29 := f37_29.keep K38
    have f39_30 := f37_30.keep K38 nin0
    have f39_31 := f37_31.keep K38 nin0
    have f39_32 := f37_32.keep K38 nin0
    have f39_33 := Sta_keep0 f37_33 K38
    have f39_34 := f37_34.keep K38
    have f39_35 := f37_35.keep K38 nin0
    have f39_36 := f37_36.keep K38 nin0
    have f39_37 := f37_37.keep K38
    have f39_38 := f37_38.keep K38 nin0
    have f39_39 := f37_39.keep K38 nin0
    have f39_40 := f37_40.keep K38 nin0
    have f39_41 := Sta_keep0 f37_41 K38
    have f39_42 := Sta_keep0 f37_42 K38
    have N38 := Fr.app N36 N38q
    refine Wp.back (U' := (T38.setTop (mkF m 32 #[.val (.int p0), .val (.int (3 : Int32)), .val (.ref u3), .val (.int (1 : Int32)), .unset, .unset, .unset] [(.int (1 : Int32))]))) (fun t k => st38.trans k) ?_
    refine Wp.back (U' := (T38.setTop (mkF m 35 #[.val (.int p0), .val (.int (3 : Int32)), .val (.ref u3), .val (.int (1 : Int32)), .val (.int (1 : Int32)), .unset, .unset] [(.ref u3)]))) (fun t k => XS.istore X38.here hx rfl (hb hby at_32) rfl (l' := #[.val (.int p0), .val (.int (3 : Int32)), .val (.ref u3), .val (.int (1 : Int32)), .val (.int (1 : Int32)), .unset, .unset]) rfl (XS.aloadN X38.here hx rfl (hb hby at_34) rfl rfl k)) ?_
    obtain ⟨cq40, kq40, q40a, q40b, q40c⟩ := isOf hZ rfl f39_26
    obtain ⟨_, _, ⟨T40, L40, k40, n40⟩, -, X40, ⟨Lc40, hQ40, l40, y40, z40⟩, st40⟩ := X38.virtualBack hx (y := (⟨"com/example/query_to_table/querytotable/sql/Comparison", "symbol", "()Ljava/lang/String;"⟩ : MethodName)) (z := (⟨"com/example/query_to_table/querytotable/sql/Comparison", "symbol", "()Ljava/lang/String;"⟩ : MethodName)) hown (mvT hZ (hw _ (List.mem_of_getElem? (i := 17) rfl))) (mvT hZ (hw _ (List.mem_of_getElem? (i := 18) rfl))) (notFace_of_selects (args := #[]) (mvT hZ (hw _ (List.mem_of_getElem? (i := 20) rfl)))) (mvT hZ (hw _ (List.mem_of_getElem? (i := 20) rfl))) (mvT hZ (hw _ (List.mem_of_getElem? (i := 19) rfl))) (by decide) (backOf (W := 0) (rm_sym l Z a0 hw [] u3 s3 T38.heap n0 f39_0 f39_28) hZ (hw _ (List.mem_of_getElem? (i := 21) rfl)) (hw _ (List.mem_of_getElem? (i := 6) rfl)) (by decide) (by decide)) q40a q40c (g := (mkF m 35 #[.val (.int p0), .val (.int (3 : Int32)), .val (.ref u3), .val (.int (1 : Int32)), .val (.int (1 : Int32)), .unset, .unset] [(.ref u3)])) rfl (by rw [hml]; rfl) (Steps.refl _) (argsL := []) (rest := []) (lenOf pd0_2 rfl) rfl (by show 2 * 0 + _ ≤ _; exact Nat.le_of_eq rfl) (hb hby at_35) (fun _ _ => ⟨rfl, rfl, (by decide : 0 + 0 ≤ _), (by decide : 0 + 0 ≤ _)⟩)
    dsimp only [Pt.U, Pt.locs, Pt.cells, Pt.slots] at X40 l40 y40 z40 st40 hQ40
    subst l40 y40 z40
    obtain ⟨rfl, N40q, K40⟩ := hQ40
    have f41_0 := Nat.le_trans f39_0 K40.1
    have f41_1 := Sta_keep0 f39_1 K40
    have f41_2 := f39_2.keep K40
    have f41_3 := f39_3.keep K40 nin0
    have f41_4 := f39_4.keep K40 nin0
    have f41_5 := f39_5.keep K40
    have f41_6 := f39_6.keep K40 nin0
    have f41_7 := f39_7.keep K40 nin0
    have f41_8 := f39_8.keep K40 nin0
    have f41_9 := Sta_keep0 f39_9 K40
    have f41_10 := f39_10.keep K40
    have f41_11 := f39_11.keep K40 nin0
    have f41_12 := f39_12.keep K40 nin0
    have f41_13 := f39_13.keep K40
    have f41_14 := f39_14.keep K40 nin0
    have f41_15 := f39_15.keep K40 nin0
    have f41_16 := f39_16.keep K40 nin0
    have f41_17 := Sta_keep0 f39_17 K40
    have f41_18 := f39_18.keep K40
    have f41_19 := f39_19.keep K40 nin0
    have f41_20 := f39_20.keep K40 nin0
    have f41_21 := f39_21.keep K40
    have f41_22 := f39_22.keep K40 nin0
    have f41_23 := f39_23.keep K40 nin0
    have f41_24 := f39_24.keep K40 nin0
    have f41_25 := Sta_keep0 f39_25 K40
    have f41_26 := f39_26.keep K40
    have f41_27 := f39_27.keep K40 nin0
    have f41_28 := f39_28.keep K40 nin0
    have f41_29 := f39_29.keep K40
    have f41_30 := f39_30.keep K40 nin0
    have f41_31 := f39_31.keep K40 nin0
    have f41_32 := f39_32.keep K40 nin0
    have f41_33 := Sta_keep0 f39_33 K40
    have f41_34 := f39_34.keep K40
    have f41_35 := f39_35.keep K40 nin0
    have f41_36 := f39_36.keep K40 nin0
    have f41_37 := f39_37.keep K40
    have f41_38 := f39_38.keep K40 nin0
    have f41_39 := f39_39.keep K40 nin0
    have f41_40 := f39_40.keep K40 nin0
    have f41_41 := Sta_keep0 f39_41 K40
    have f41_42 := Sta_keep0 f39_42 K40
    have N40 := Fr.app N38 N40q
    refine Wp.back (U' := (T40.setTop (mkF m 38 #[.val (.int p0), .val (.int (3 : Int32)), .val (.ref u3), .val (.int (1 : Int32)), .val (.int (1 : Int32)), .unset, .unset] [(.ref s3)]))) (fun t k => st40.trans k) ?_
    refine Wp.back (U' := (T40.setTop (mkF m 42 #[.val (.int p0), .val (.int (3 : Int32)), .val (.ref u3), .val (.int (1 : Int32)), .val (.int (1 : Int32)), .val (.ref s3), .unset] [(.ref s3)]))) (fun t k => XS.astore X40.here hx rfl (hb hby at_38) rfl rfl (l' := #[.val (.int p0), .val (.int (3 : Int32)), .val (.ref u3), .val (.int (1 : Int32)), .val (.int (1 : Int32)), .val (.ref s3), .unset]) rfl (XS.aload X40.here hx rfl (hb hby at_40) rfl rfl k)) ?_
    obtain ⟨cq42, kq42, q42a, q42b, q42c⟩ := isOf hZ rfl f41_29
    obtain ⟨_, _, ⟨T42, L42, k42, n42⟩, -, X42, ⟨Lc42, hQ42, l42, y42, z42⟩, st42⟩ := X40.virtualBack hx (y := (⟨"java/lang/String", "length", "()I"⟩ : MethodName)) (z := (⟨"java/lang/String", "length", "()I"⟩ : MethodName)) hown (mvT hZ (hw _ (List.mem_of_getElem? (i := 24) rfl))) (mvT hZ (hw _ (List.mem_of_getElem? (i := 25) rfl))) (notFace_of_selects (args := #[]) (mvT hZ (hw _ (List.mem_of_getElem? (i := 27) rfl)))) (mvT hZ (hw _ (List.mem_of_getElem? (i := 27) rfl))) (mvT hZ (hw _ (List.mem_of_getElem? (i := 26) rfl))) (by decide) (backOf (W := 0) (rm_len1 l Z a0 hw [] s3 cs v3 k3 (62 : Int32) T40.heap n0 f41_0 f41_29 f41_30 f41_31 f41_32 f41_41 hcs) hZ (hw _ (List.mem_of_getElem? (i := 29) rfl)) (hw _ (List.mem_of_getElem? (i := 28) rfl)) (by decide) (by decide)) q42a q42c (g := (mkF m 42 #[.val (.int p0), .val (.int (3 : Int32)), .val (.ref u3), .val (.int (1 : Int32)), .val (.int (1 : Int32)), .val (.ref s3), .unset] [(.ref s3)])) rfl (by rw [hml]; rfl) (Steps.refl _) (argsL := []) (rest := []) (lenOf pd0_3 rfl) rfl (by show 2 * 0 + _ ≤ _; exact Nat.le_of_eq rfl) (hb hby at_42) (fun _ _ => ⟨rfl, rfl, (by decide : 0 + 0 ≤ _), (by decide : 0 + 0 ≤ _)⟩)
    dsimp only [Pt.U, Pt.locs, Pt.cells, Pt.slots] at X42 l42 y42 z42 st42 hQ42
    subst l42 y42 z42
    obtain ⟨rfl, N42q, K42⟩ := hQ42
    have f43_0 := Nat.le_trans f41_0 K42.1
    have f43_1 := Sta_keep0 f41_1 K42
    have f43_2 := f41_2.keep K42
    have f43_3 := f41_3.keep K42 nin0
    have f43_4 := f41_4.keep K42 nin0
    have f43_5 := f41_5.keep K42
    have f43_6 := f41_6.keep K42 nin0
    have f43_7 := f41_7.keep K42 nin0
    have f43_8 := f41_8.keep K42 nin0
    have f43_9 := Sta_keep0 f41_9 K42
    have f43_10 := f41_10.keep K42
    have f43_11 := f41_11.keep K42 nin0
    have f43_12 := f41_12.keep K42 nin0
    have f43_13 := f41_13.keep K42
    have f43_14 := f41_14.keep K42 nin0
    have f43_15 := f41_15.keep K42 nin0
    have f43_16 := f41_16.keep K42 nin0
    have f43_17 := Sta_keep0 f41_17 K42
    have f43_18 := f41_18.keep K42
    have f43_19 := f41_19.keep K42 nin0
    have f43_20 := f41_20.keep K42 nin0
    have f43_21 := f41_21.keep K42
    have f43_22 := f41_22.keep K42 nin0
    have f43_23 := f41_23.keep K42 nin0
    have f43_24 := f41_24.keep K42 nin0
    have f43_25 := Sta_keep0 f41_25 K42
    have f43_26 := f41_26.keep K42
    have f43_27 := f41_27.keep K42 nin0
    have f43_28 := f41_28.keep K42 nin0
    have f43_29 := f41_29.keep K42
    have f43_30 := f41_30.keep K42 nin0
    have f43_31 := f41_31.keep K42 nin0
    have f43_32 := f41_32.keep K42 nin0
    have f43_33 := Sta_keep0 f41_33 K42
    have f43_34 := f41_34.keep K42
    have f43_35 := f41_35.keep K42 nin0
    have f43_36 := f41_36.keep K42 nin0
    have f43_37 := f41_37.keep K42
    have f43_38 := f41_38.keep K42 nin0
    have f43_39 := f41_39.keep K42 nin0
    have f43_40 := f41_40.keep K42 nin0
    have f43_41 := Sta_keep0 f41_41 K42
    have f43_42 := Sta_keep0 f41_42 K42
    have N42 := Fr.app N40 N42q
    refine Wp.back (U' := (T42.setTop (mkF m 45 #[.val (.int p0), .val (.int (3 : Int32)), .val (.ref u3), .val (.int (1 : Int32)), .val (.int (1 : Int32)), .val (.ref s3), .unset] [(.int (1 : Int32))]))) (fun t k => st42.trans k) ?_
    refine Wp.back (U' := (T42.setTop (mkF m 51 #[.val (.int p0), .val (.int (3 : Int32)), .val (.ref u3), .val (.int (1 : Int32)), .val (.int (1 : Int32)), .val (.ref s3), .unset] [(.int (0 : Int32)), (.ref s3)]))) (fun t k => XS.ifNo X42.here hx rfl (hb hby at_45) rfl ((if0 _ _).trans (tlt (by decide)).2.2.2) (XS.aload X42.here hx rfl (hb hby at_48) rfl rfl (XT.iconstV X42.here hx rfl (0 : Int32) (hb hby at_50) (by decide) k))) ?_
    obtain ⟨cq44, kq44, q44a, q44b, q44c⟩ := isOf hZ rfl f43_29
    obtain ⟨_, _, ⟨T44, L44, k44, n44⟩, -, X44, ⟨Lc44, hQ44, l44, y44, z44⟩, st44⟩ := X42.virtualBack hx (y := (⟨"java/lang/String", "charAt", "(I)C"⟩ : MethodName)) (z := (⟨"java/lang/String", "charAt", "(I)C"⟩ : MethodName)) hown (mvT hZ (hw _ (List.mem_of_getElem? (i := 40) rfl))) (mvT hZ (hw _ (List.mem_of_getElem? (i := 41) rfl))) (notFace_of_selects (args := #[]) (mvT hZ (hw _ (List.mem_of_getElem? (i := 43) rfl)))) (mvT hZ (hw _ (List.mem_of_getElem? (i := 43) rfl))) (mvT hZ (hw _ (List.mem_of_getElem? (i := 42) rfl))) (by decide) (backOf (W := 0) (rm_ch1_62 l Z a0 hw [] s3 rf cs v3 k3 T42.heap n0 f43_0 f43_29 f43_30 f43_31 f43_32 f43_41 f43_42 isr_rf hcs) hZ (hw _ (List.mem_of_getElem? (i := 44) rfl)) (hw _ (List.mem_of_getElem? (i := 28) rfl)) (by decide) (by decide)) q44a q44c (g := (mkF m 51 #[.val (.int p0), .val (.int (3 : Int32)), .val (.ref u3), .val (.int (1 : Int32)), .val (.int (1 : Int32)), .val (.ref s3), .unset] [(.int (0 : Int32)), (.ref s3)])) rfl (by rw [hml]; rfl) (Steps.refl _) (argsL := [(.int (0 : Int32))]) (rest := []) (lenOf pd0_4 rfl) rfl (by show 2 * 0 + _ ≤ _; exact Nat.le_of_eq rfl) (hb hby at_51) (fun _ _ => ⟨rfl, rfl, (by decide : 0 + 0 ≤ _), (by decide : 0 + 0 ≤ _)⟩)
    dsimp only [Pt.U, Pt.locs, Pt.cells, Pt.slots] at X44 l44 y44 z44 st44 hQ44
    subst l44 y44 z44
    obtain ⟨rfl, N44q, K44⟩ := hQ44
    have f45_0 := Nat.le_trans f43_0 K44.1
    have f45_1 := Sta_keep0 f43_1 K44
    have f45_2 := f43_2.keep K44
    have f45_3 := f43_3.keep K44 nin0
    have f45_4 := f43_4.keep K44 nin0
    have f45_5 := f43_5.keep K44
    have f45_6 := f43_6.keep K44 nin0
    have f45_7 := f43_7.keep K44 nin0
    have f45_8 := f43_8.keep K44 nin0
    have f45_9 := Sta_keep0 f43_9 K44
    have f45_10 := f43_10.keep K44
    have f45_11 := f43_11.keep K44 nin0
    have f45_12 := f43_12.keep K44 nin0
    have f45_13 := f43_13.keep K44
    have f45_14 := f43_14.keep K44 nin0
    have f45_15 := f43_15.keep K44 nin0
    have f45_16 := f43_16.keep K44 nin0
    have f45_17 := Sta_keep0 f43_17 K44
    have f45_18 := f43_18.keep K44
    have f45_19 := f43_19.keep K44 nin0
    have f45_20 := f43_20.keep K44 nin0
    have f45_21 := f43_21.keep K44
    have f45_22 := f43_22.keep K44 nin0
    have f45_23 := f43_23.keep K44 nin0
    have f45_24 := f43_24.keep K44 nin0
    have f45_25 := Sta_keep0 f43_25 K44
    have f45_26 := f43_26.keep K44
    have f45_27 := f43_27.keep K44 nin0
    have f45_28 := f43_28.keep K44 nin0
    have f45_29 := f43_29.keep K44
    have f45_30 := f43_30.keep K44 nin0
    have f45_31 := f43_31.keep K44 nin0
    have f45_32 := f43_32.keep K44 nin0
    have f45_33 := Sta_keep0 f43_33 K44
    have f45_34 := f43_34.keep K44
    have f45_35 := f43_35.keep K44 nin0
    have f45_36 := f43_36.keep K44 nin0
    have f45_37 := f43_37.keep K44
    have f45_38 := f43_38.keep K44 nin0
    have f45_39 := f43_39.keep K44 nin0
    have f45_40 := f43_40.keep K44 nin0
    have f45_41 := Sta_keep0 f43_41 K44
    have f45_42 := Sta_keep0 f43_42 K44
    have N44 := Fr.app N42 N44q
    refine Wp.back (U' := (T44.setTop (mkF m 54 #[.val (.int p0), .val (.int (3 : Int32)), .val (.ref u3), .val (.int (1 : Int32)), .val (.int (1 : Int32)), .val (.ref s3), .unset] [(.int (62 : Int32))]))) (fun t k => st44.trans k) ?_
    refine Wp.back (U' := (T44.setTop (mkF m 80 #[.val (.int p0), .val (.int (3 : Int32)), .val (.ref u3), .val (.int (1 : Int32)), .val (.int (1 : Int32)), .val (.ref s3), .val (.int (1 : Int32))] [(.int (1 : Int32))]))) (fun t k => XT.bipushV X44.here hx rfl (62 : Int32) (hb hby at_54) (by decide) (XS.icmpNo X44.here hx rfl (hb hby at_56) rfl (teq (by decide)).2 (XT.iconstV X44.here hx rfl (1 : Int32) (hb hby at_59) (by decide) (XS.goto X44.here hx rfl (pc0 := 60) (pc' := 64) rfl (hb hby at_60) (by decide) (by decide) (XS.istore X44.here hx rfl (hb hby at_64) rfl (l' := #[.val (.int p0), .val (.int (3 : Int32)), .val (.ref u3), .val (.int (1 : Int32)), .val (.int (1 : Int32)), .val (.ref s3), .val (.int (1 : Int32))]) rfl (XS.iload X44.here hx rfl (hb hby at_66) rfl (XS.iloadN X44.here hx rfl (hb hby at_68) rfl (XS.icmpNo X44.here hx rfl (hb hby at_69) rfl (teq (by decide)).2 (XS.iload X44.here hx rfl (hb hby at_72) rfl (XS.iload X44.here hx rfl (hb hby at_74) rfl (XS.icmpNo X44.here hx rfl (hb hby at_76) rfl (teq (by decide)).2 (XT.iconstV X44.here hx rfl (1 : Int32) (hb hby at_79) (by decide) k)))))))))))) ?_
    refine Wp.back (U' := (T44.setTop (mkF m 84 #[.val (.int p0), .val (.int (3 : Int32)), .val (.ref u3), .val (.int (1 : Int32)), .val (.int (1 : Int32)), .val (.ref s3), .val (.int (1 : Int32))] [(.int (1 : Int32))]))) (fun t k => XS.goto X44.here hx rfl (pc0 := 80) (pc' := 84) rfl (hb hby at_80) (by decide) (by decide) k) ?_
    obtain ⟨fs, hr, hrun, hended, hW, hsame⟩ := X44.leave (v := (some (.int (1 : Int32)))) (fun h => by rw [hret] at h; cases h)
    refine Wp.done (retN X44 hx (t := .boolean) hret (by simp) (hb hby at_84) hr) hrun hended ⟨_, _, rfl, ?_, ⟨_, rfl⟩, hW, hsame.mono (by decide) (by decide)⟩
    show QL n0 _ T44.heap _
    exact ⟨rfl, N44⟩
  · rw [hk5]
    refine Wp.back (U' := (s₁.setTop (mkF m 8 #[.val (.int p0), .val (.int (4 : Int32)), .unset, .unset, .unset, .unset, .unset] [(.int (4 : Int32))]))) (fun t k => XS.iloadN X0.here hx rfl (hb hby at_7) rfl k) ?_
    obtain ⟨_, _, ⟨T46, L46, k46, n46⟩, -, X46, ⟨Lc46, hQ46, l46, y46, z46⟩, st46⟩ := Jvm.LawKit.callS X0 hx (y := (⟨"com/example/query_to_table/querytotable/sql/ComparisonIsLowerBoundPinLaw", "pick", "(I)Lcom/example/query_to_table/querytotable/sql/Comparison;"⟩ : MethodName)) hown (mvT hZ (hw _ (List.mem_of_getElem? (i := 1) rfl))) (mvT hZ (hw _ (List.mem_of_getElem? (i := 2) rfl))) (mvT hZ (hw _ (List.mem_of_getElem? (i := 3) rfl))) (mvT hZ (hw _ (List.mem_of_getElem? (i := 4) rfl))) (by decide) (backOf (W := 0) (rm_pk4 l Z a0 hw []  u4 h0 n0 Z0 P4_0) hZ (hw _ (List.mem_of_getElem? (i := 4) rfl)) (hw _ (List.mem_of_getElem? (i := 3) rfl)) (by decide) (by decide)) (g := (mkF m 8 #[.val (.int p0), .val (.int (4 : Int32)), .unset, .unset, .unset, .unset, .unset] [(.int (4 : Int32))])) rfl (by rw [hml]; rfl) (argsL := [(.int (4 : Int32))]) (rest := []) (lenOf pd0_0 rfl) rfl (by show 2 * 0 + _ ≤ _; exact Nat.le_of_eq rfl) (hb hby at_8) (fun _ _ => ⟨rfl, e0, (by decide : 0 + 0 ≤ _), (by decide : 0 + 0 ≤ _)⟩)
    dsimp only [Pt.U, Pt.locs, Pt.cells, Pt.slots] at X46 l46 y46 z46 st46 hQ46
    subst l46 y46 z46
    obtain ⟨rfl, N46q, K46⟩ := hQ46
    have f47_0 := Nat.le_trans Z0 K46.1
    have f47_1 := Sta_keep0 P0_0 K46
    have f47_2 := P0_1.keep K46
    have f47_3 := P0_2.keep K46 nin0
    have f47_4 := P0_3.keep K46 nin0
    have f47_5 := P0_4.keep K46
    have f47_6 := P0_5.keep K46 nin0
    have f47_7 := P0_6.keep K46 nin0
    have f47_8 := P0_7.keep K46 nin0
    have f47_9 := Sta_keep0 P1_0 K46
    have f47_10 := P1_1.keep K46
    have f47_11 := P1_2.keep K46 nin0
    have f47_12 := P1_3.keep K46 nin0
    have f47_13 := P1_4.keep K46
    have f47_14 := P1_5.keep K46 nin0
    have f47_15 := P1_6.keep K46 nin0
    have f47_16 := P1_7.keep K46 nin0
    have f47_17 := Sta_keep0 P2_0 K46
    have f47_18 := P2_1.keep K46
    have f47_19 := P2_2.keep K46 nin0
    have f47_20 := P2_3.keep K46 nin0
    have f47_21 := P2_4.keep K46
    have f47_22 := P2_5.keep K46 nin0
    have f47_23 := P2_6.keep K46 nin0
    have f47_24 := P2_7.keep K46 nin0
    have f47_25 := Sta_keep0 P3_0 K46
    have f47_26 := P3_1.keep K46
    have f47_27 := P3_2.keep K46 nin0
    have f47_28 := P3_3.keep K46 nin0
    have f47_29 := P3_4.keep K46
    have f47_30 := P3_5.keep K46 nin0
    have f47_31 := P3_6.keep K46 nin0
    have f47_32 := P3_7.keep K46 nin0
    have f47_33 := Sta_keep0 P4_0 K46
    have f47_34 := P4_1.keep K46
    have f47_35 := P4_2.keep K46 nin0
    have f47_36 := P4_3.keep K46 nin0
    have f47_37 := P4_4.keep K46
    have f47_38 := P4_5.keep K46 nin0
    have f47_39 := P4_6.keep K46 nin0
    have f47_40 := P4_7.keep K46 nin0
    have f47_41 := Sta_keep0 PC K46
    have f47_42 := Sta_keep0 PF K46
    have N46 := Fr.app N0 N46q
    refine Wp.back (U' := (T46.setTop (mkF m 11 #[.val (.int p0), .val (.int (4 : Int32)), .unset, .unset, .unset, .unset, .unset] [(.ref u4)]))) st46 ?_
    refine Wp.back (U' := (T46.setTop (mkF m 29 #[.val (.int p0), .val (.int (4 : Int32)), .val (.ref u4), .val (.int (1 : Int32)), .unset, .unset, .unset] [(.ref u4)]))) (fun t k => XS.astoreN X46.here hx rfl (hb hby at_11) rfl rfl (l' := #[.val (.int p0), .val (.int (4 : Int32)), .val (.ref u4), .unset, .unset, .unset, .unset]) rfl (XS.iloadN X46.here hx rfl (hb hby at_12) rfl (XT.iconstV X46.here hx rfl (3 : Int32) (hb hby at_13) (by decide) (XS.icmpNo X46.here hx rfl (hb hby at_14) rfl (feq (by decide)).1 (XS.iloadN X46.here hx rfl (hb hby at_17) rfl (XT.iconstV X46.here hx rfl (4 : Int32) (hb hby at_18) (by decide) (XS.icmpNo X46.here hx rfl (hb hby at_19) rfl (teq (by decide)).2 (XT.iconstV X46.here hx rfl (1 : Int32) (hb hby at_22) (by decide) (XS.goto X46.here hx rfl (pc0 := 23) (pc' := 27) rfl (hb hby at_23) (by decide) (by decide) (XS.istoreN X46.here hx rfl (hb hby at_27) rfl (l' := #[.val (.int p0), .val (.int (4 : Int32)), .val (.ref u4), .val (.int (1 : Int32)), .unset, .unset, .unset]) rfl (XS.aloadN X46.here hx rfl (hb hby at_28) rfl rfl k))))))))))) ?_
    obtain ⟨cq48, kq48, q48a, q48b, q48c⟩ := isOf hZ rfl f47_34
    obtain ⟨_, _, ⟨T48, L48, k48, n48⟩, -, X48, ⟨Lc48, hQ48, l48, y48, z48⟩, st48⟩ := X46.virtualBack hx (y := (⟨"com/example/query_to_table/querytotable/sql/Comparison", "isLowerBound", "()Z"⟩ : MethodName)) (z := (⟨"com/example/query_to_table/querytotable/sql/Comparison", "isLowerBound", "()Z"⟩ : MethodName)) hown (mvT hZ (hw _ (List.mem_of_getElem? (i := 8) rfl))) (mvT hZ (hw _ (List.mem_of_getElem? (i := 9) rfl))) (notFace_of_selects (args := #[]) (mvT hZ (hw _ (List.mem_of_getElem? (i := 11) rfl)))) (mvT hZ (hw _ (List.mem_of_getElem? (i := 11) rfl))) (mvT hZ (hw _ (List.mem_of_getElem? (i := 10) rfl))) (by decide) (backOf (W := 0) (rm_ub2 l Z a0 hw [] u4 u3 T46.heap n0 f47_0 f47_25 f47_33 (Ne.symm (Fld.ne P3_2 P4_2 (by decide)))) hZ (hw _ (List.mem_of_getElem? (i := 12) rfl)) (hw _ (List.mem_of_getElem? (i := 6) rfl)) (by decide) (by decide)) q48a q48c (g := (mkF m 29 #[.val (.int p0), .val (.int (4 : Int32)), .val (.ref u4), .val (.int (1 : Int32)), .unset, .unset, .unset] [(.ref u4)])) rfl (by rw [hml]; rfl) (Steps.refl _) (argsL := []) (rest := []) (lenOf pd0_1 rfl) rfl (by show 2 * 0 + _ ≤ _; exact Nat.le_of_eq rfl) (hb hby at_29) (fun _ _ => ⟨rfl, rfl, (by decide : 0 + 0 ≤ _), (by decide : 0 + 0 ≤ _)⟩)
    dsimp only [Pt.U, Pt.locs, Pt.cells, Pt.slots] at X48 l48 y48 z48 st48 hQ48
    subst l48 y48 z48
    obtain ⟨rfl, N48q, K48⟩ := hQ48
    have f49_0 := Nat.le_trans f47_0 K48.1
    have f49_1 := Sta_keep0 f47_1 K48
    have f49_2 := f47_2.keep K48
    have f49_3 := f47_3.keep K48 nin0
    have f49_4 := f47_4.keep K48 nin0
    have f49_5 := f47_5.keep K48
    have f49_6 := f47_6.keep K48 nin0
    have f49_7 := f47_7.keep K48 nin0
    have f49_8 := f47_8.keep K48 nin0
    have f49_9 := Sta_keep0 f47_9 K48
    have f49_10 := f47_10.keep K48
    have f49_11 := f47_11.keep K48 nin0
    have f49_12 := f47_12.keep K48 nin0
    have f49_13 := f47_13.keep K48
    have f49_14 := f47_14.keep K48 nin0
    have f49_15 := f47_15.keep K48 nin0
    have f49_16 := f47_16.keep K48 nin0
    have f49_17 := Sta_keep0 f47_17 K48
    have f49_18 := f47_18.keep K48
    have f49_19 := f47_19.keep K48 nin0
    have f49_20 := f47_20.keep K48 nin0
    have f49_21 := f47_21.keep K48
    have f49_22 := f47_22.keep K48 nin0
    have f49_23 := f47_23.keep K48 nin0
    have f49_24 := f47_24.keep K48 nin0
    have f49_25 := Sta_keep0 f47_25 K48
    have f49_26 := f47_26.keep K48
    have f49_27 := f47_27.keep K48 nin0
    have f49_28 := f47_28.keep K48 nin0
    have f49_29 := f47_29.keep K48
    have f49_30 := f47_30.keep K48 nin0
    have f49_31 := f47_31.keep K48 nin0
    have f49_32 := f47_32.keep K48 nin0
    have f49_33 := Sta_keep0 f47_33 K48
    have f49_34 := f47_34.keep K48
    have f49_35 := f47_35.keep K48 nin0
    have f49_36 := f47_36.keep K48 nin0
    have f49_37 := f47_37.keep K48
    have f49_38 := f47_38.keep K48 nin0
    have f49_39 := f47_39.keep K48 nin0
    have f49_40 := f47_40.keep K48 nin0
    have f49_41 := Sta_keep0 f47_41 K48
    have f49_42 := Sta_keep0 f47_42 K48
    have N48 := Fr.app N46 N48q
    refine Wp.back (U' := (T48.setTop (mkF m 32 #[.val (.int p0), .val (.int (4 : Int32)), .val (.ref u4), .val (.int (1 : Int32)), .unset, .unset, .unset] [(.int (1 : Int32))]))) (fun t k => st48.trans k) ?_
    refine Wp.back (U' := (T48.setTop (mkF m 35 #[.val (.int p0), .val (.int (4 : Int32)), .val (.ref u4), .val (.int (1 : Int32)), .val (.int (1 : Int32)), .unset, .unset] [(.ref u4)]))) (fun t k => XS.istore X48.here hx rfl (hb hby at_32) rfl (l' := #[.val (.int p0), .val (.int (4 : Int32)), .val (.ref u4), .val (.int (1 : Int32)), .val (.int (1 : Int32)), .unset, .unset]) rfl (XS.aloadN X48.here hx rfl (hb hby at_34) rfl rfl k)) ?_
    obtain ⟨cq50, kq50, q50a, q50b, q50c⟩ := isOf hZ rfl f49_34
    obtain ⟨_, _, ⟨T50, L50, k50, n50⟩, -, X50, ⟨Lc50, hQ50, l50, y50, z50⟩, st50⟩ := X48.virtualBack hx (y := (⟨"com/example/query_to_table/querytotable/sql/Comparison", "symbol", "()Ljava/lang/String;"⟩ : MethodName)) (z := (⟨"com/example/query_to_table/querytotable/sql/Comparison", "symbol", "()Ljava/lang/String;"⟩ : MethodName)) hown (mvT hZ (hw _ (List.mem_of_getElem? (i := 17) rfl))) (mvT hZ (hw _ (List.mem_of_getElem? (i := 18) rfl))) (notFace_of_selects (args := #[]) (mvT hZ (hw _ (List.mem_of_getElem? (i := 20) rfl)))) (mvT hZ (hw _ (List.mem_of_getElem? (i := 20) rfl))) (mvT hZ (hw _ (List.mem_of_getElem? (i := 19) rfl))) (by decide) (backOf (W := 0) (rm_sym l Z a0 hw [] u4 s4 T48.heap n0 f49_0 f49_36) hZ (hw _ (List.mem_of_getElem? (i := 21) rfl)) (hw _ (List.mem_of_getElem? (i := 6) rfl)) (by decide) (by decide)) q50a q50c (g := (mkF m 35 #[.val (.int p0), .val (.int (4 : Int32)), .val (.ref u4), .val (.int (1 : Int32)), .val (.int (1 : Int32)), .unset, .unset] [(.ref u4)])) rfl (by rw [hml]; rfl) (Steps.refl _) (argsL := []) (rest := []) (lenOf pd0_2 rfl) rfl (by show 2 * 0 + _ ≤ _; exact Nat.le_of_eq rfl) (hb hby at_35) (fun _ _ => ⟨rfl, rfl, (by decide : 0 + 0 ≤ _), (by decide : 0 + 0 ≤ _)⟩)
    dsimp only [Pt.U, Pt.locs, Pt.cells, Pt.slots] at X50 l50 y50 z50 st50 hQ50
    subst l50 y50 z50
    obtain ⟨rfl, N50q, K50⟩ := hQ50
    have f51_0 := Nat.le_trans f49_0 K50.1
    have f51_1 := Sta_keep0 f49_1 K50
    have f51_2 := f49_2.keep K50
    have f51_3 := f49_3.keep K50 nin0
    have f51_4 := f49_4.keep K50 nin0
    have f51_5 := f49_5.keep K50
    have f51_6 := f49_6.keep K50 nin0
    have f51_7 := f49_7.keep K50 nin0
    have f51_8 := f49_8.keep K50 nin0
    have f51_9 := Sta_keep0 f49_9 K50
    have f51_10 := f49_10.keep K50
    have f51_11 := f49_11.keep K50 nin0
    have f51_12 := f49_12.keep K50 nin0
    have f51_13 := f49_13.keep K50
    have f51_14 := f49_14.keep K50 nin0
    have f51_15 := f49_15.keep K50 nin0
    have f51_16 := f49_16.keep K50 nin0
    have f51_17 := Sta_keep0 f49_17 K50
    have f51_18 := f49_18.keep K50
    have f51_19 := f49_19.keep K50 nin0
    have f51_20 := f49_20.keep K50 nin0
    have f51_21 := f49_21.keep K50
    have f51_22 := f49_22.keep K50 nin0
    have f51_23 := f49_23.keep K50 nin0
    have f51_24 := f49_24.keep K50 nin0
    have f51_25 := Sta_keep0 f49_25 K50
    have f51_26 := f49_26.keep K50
    have f51_27 := f49_27.keep K50 nin0
    have f51_28 := f49_28.keep K50 nin0
    have f51_29 := f49_29.keep K50
    have f51_30 := f49_30.keep K50 nin0
    have f51_31 := f49_31.keep K50 nin0
    have f51_32 := f49_32.keep K50 nin0
    have f51_33 := Sta_keep0 f49_33 K50
    have f51_34 := f49_34.keep K50
    have f51_35 := f49_35.keep K50 nin0
    have f51_36 := f49_36.keep K50 nin0
    have f51_37 := f49_37.keep K50
    have f51_38 := f49_38.keep K50 nin0
    have f51_39 := f49_39.keep K50 nin0
    have f51_40 := f49_40.keep K50 nin0
    have f51_41 := Sta_keep0 f49_41 K50
    have f51_42 := Sta_keep0 f49_42 K50
    have N50 := Fr.app N48 N50q
    refine Wp.back (U' := (T50.setTop (mkF m 38 #[.val (.int p0), .val (.int (4 : Int32)), .val (.ref u4), .val (.int (1 : Int32)), .val (.int (1 : Int32)), .unset, .unset] [(.ref s4)]))) (fun t k => st50.trans k) ?_
    refine Wp.back (U' := (T50.setTop (mkF m 42 #[.val (.int p0), .val (.int (4 : Int32)), .val (.ref u4), .val (.int (1 : Int32)), .val (.int (1 : Int32)), .val (.ref s4), .unset] [(.ref s4)]))) (fun t k => XS.astore X50.here hx rfl (hb hby at_38) rfl rfl (l' := #[.val (.int p0), .val (.int (4 : Int32)), .val (.ref u4), .val (.int (1 : Int32)), .val (.int (1 : Int32)), .val (.ref s4), .unset]) rfl (XS.aload X50.here hx rfl (hb hby at_40) rfl rfl k)) ?_
    obtain ⟨cq52, kq52, q52a, q52b, q52c⟩ := isOf hZ rfl f51_37
    obtain ⟨_, _, ⟨T52, L52, k52, n52⟩, -, X52, ⟨Lc52, hQ52, l52, y52, z52⟩, st52⟩ := X50.virtualBack hx (y := (⟨"java/lang/String", "length", "()I"⟩ : MethodName)) (z := (⟨"java/lang/String", "length", "()I"⟩ : MethodName)) hown (mvT hZ (hw _ (List.mem_of_getElem? (i := 24) rfl))) (mvT hZ (hw _ (List.mem_of_getElem? (i := 25) rfl))) (notFace_of_selects (args := #[]) (mvT hZ (hw _ (List.mem_of_getElem? (i := 27) rfl)))) (mvT hZ (hw _ (List.mem_of_getElem? (i := 27) rfl))) (mvT hZ (hw _ (List.mem_of_getElem? (i := 26) rfl))) (by decide) (backOf (W := 0) (rm_len2 l Z a0 hw [] s4 cs v4 k4 (62 : Int32) (61 : Int32) T50.heap n0 f51_0 f51_37 f51_38 f51_39 f51_40 f51_41 hcs) hZ (hw _ (List.mem_of_getElem? (i := 29) rfl)) (hw _ (List.mem_of_getElem? (i := 28) rfl)) (by decide) (by decide)) q52a q52c (g := (mkF m 42 #[.val (.int p0), .val (.int (4 : Int32)), .val (.ref u4), .val (.int (1 : Int32)), .val (.int (1 : Int32)), .val (.ref s4), .unset] [(.ref s4)])) rfl (by rw [hml]; rfl) (Steps.refl _) (argsL := []) (rest := []) (lenOf pd0_3 rfl) rfl (by show 2 * 0 + _ ≤ _; exact Nat.le_of_eq rfl) (hb hby at_42) (fun _ _ => ⟨rfl, rfl, (by decide : 0 + 0 ≤ _), (by decide : 0 + 0 ≤ _)⟩)
    dsimp only [Pt.U, Pt.locs, Pt.cells, Pt.slots] at X52 l52 y52 z52 st52 hQ52
    subst l52 y52 z52
    obtain ⟨rfl, N52q, K52⟩ := hQ52
    have f53_0 := Nat.le_trans f51_0 K52.1
    have f53_1 := Sta_keep0 f51_1 K52
    have f53_2 := f51_2.keep K52
    have f53_3 := f51_3.keep K52 nin0
    have f53_4 := f51_4.keep K52 nin0
    have f53_5 := f51_5.keep K52
    have f53_6 := f51_6.keep K52 nin0
    have f53_7 := f51_7.keep K52 nin0
    have f53_8 := f51_8.keep K52 nin0
    have f53_9 := Sta_keep0 f51_9 K52
    have f53_10 := f51_10.keep K52
    have f53_11 := f51_11.keep K52 nin0
    have f53_12 := f51_12.keep K52 nin0
    have f53_13 := f51_13.keep K52
    have f53_14 := f51_14.keep K52 nin0
    have f53_15 := f51_15.keep K52 nin0
    have f53_16 := f51_16.keep K52 nin0
    have f53_17 := Sta_keep0 f51_17 K52
    have f53_18 := f51_18.keep K52
    have f53_19 := f51_19.keep K52 nin0
    have f53_20 := f51_20.keep K52 nin0
    have f53_21 := f51_21.keep K52
    have f53_22 := f51_22.keep K52 nin0
    have f53_23 := f51_23.keep K52 nin0
    have f53_24 := f51_24.keep K52 nin0
    have f53_25 := Sta_keep0 f51_25 K52
    have f53_26 := f51_26.keep K52
    have f53_27 := f51_27.keep K52 nin0
    have f53_28 := f51_28.keep K52 nin0
    have f53_29 := f51_29.keep K52
    have f53_30 := f51_30.keep K52 nin0
    have f53_31 := f51_31.keep K52 nin0
    have f53_32 := f51_32.keep K52 nin0
    have f53_33 := Sta_keep0 f51_33 K52
    have f53_34 := f51_34.keep K52
    have f53_35 := f51_35.keep K52 nin0
    have f53_36 := f51_36.keep K52 nin0
    have f53_37 := f51_37.keep K52
    have f53_38 := f51_38.keep K52 nin0
    have f53_39 := f51_39.keep K52 nin0
    have f53_40 := f51_40.keep K52 nin0
    have f53_41 := Sta_keep0 f51_41 K52
    have f53_42 := Sta_keep0 f51_42 K52
    have N52 := Fr.app N50 N52q
    refine Wp.back (U' := (T52.setTop (mkF m 45 #[.val (.int p0), .val (.int (4 : Int32)), .val (.ref u4), .val (.int (1 : Int32)), .val (.int (1 : Int32)), .val (.ref s4), .unset] [(.int (2 : Int32))]))) (fun t k => st52.trans k) ?_
    refine Wp.back (U' := (T52.setTop (mkF m 51 #[.val (.int p0), .val (.int (4 : Int32)), .val (.ref u4), .val (.int (1 : Int32)), .val (.int (1 : Int32)), .val (.ref s4), .unset] [(.int (0 : Int32)), (.ref s4)]))) (fun t k => XS.ifNo X52.here hx rfl (hb hby at_45) rfl ((if0 _ _).trans (tlt (by decide)).2.2.2) (XS.aload X52.here hx rfl (hb hby at_48) rfl rfl (XT.iconstV X52.here hx rfl (0 : Int32) (hb hby at_50) (by decide) k))) ?_
    obtain ⟨cq54, kq54, q54a, q54b, q54c⟩ := isOf hZ rfl f53_37
    obtain ⟨_, _, ⟨T54, L54, k54, n54⟩, -, X54, ⟨Lc54, hQ54, l54, y54, z54⟩, st54⟩ := X52.virtualBack hx (y := (⟨"java/lang/String", "charAt", "(I)C"⟩ : MethodName)) (z := (⟨"java/lang/String", "charAt", "(I)C"⟩ : MethodName)) hown (mvT hZ (hw _ (List.mem_of_getElem? (i := 40) rfl))) (mvT hZ (hw _ (List.mem_of_getElem? (i := 41) rfl))) (notFace_of_selects (args := #[]) (mvT hZ (hw _ (List.mem_of_getElem? (i := 43) rfl)))) (mvT hZ (hw _ (List.mem_of_getElem? (i := 43) rfl))) (mvT hZ (hw _ (List.mem_of_getElem? (i := 42) rfl))) (by decide) (backOf (W := 0) (rm_ch2_62 l Z a0 hw [] s4 rf cs v4 k4 (61 : Int32) T52.heap n0 f53_0 f53_37 f53_38 f53_39 f53_40 f53_41 f53_42 isr_rf hcs) hZ (hw _ (List.mem_of_getElem? (i := 44) rfl)) (hw _ (List.mem_of_getElem? (i := 28) rfl)) (by decide) (by decide)) q54a q54c (g := (mkF m 51 #[.val (.int p0), .val (.int (4 : Int32)), .val (.ref u4), .val (.int (1 : Int32)), .val (.int (1 : Int32)), .val (.ref s4), .unset] [(.int (0 : Int32)), (.ref s4)])) rfl (by rw [hml]; rfl) (Steps.refl _) (argsL := [(.int (0 : Int32))]) (rest := []) (lenOf pd0_4 rfl) rfl (by show 2 * 0 + _ ≤ _; exact Nat.le_of_eq rfl) (hb hby at_51) (fun _ _ => ⟨rfl, rfl, (by decide : 0 + 0 ≤ _), (by decide : 0 + 0 ≤ _)⟩)
    dsimp only [Pt.U, Pt.locs, Pt.cells, Pt.slots] at X54 l54 y54 z54 st54 hQ54
    subst l54 y54 z54
    obtain ⟨rfl, N54q, K54⟩ := hQ54
    have f55_0 := Nat.le_trans f53_0 K54.1
    have f55_1 := Sta_keep0 f53_1 K54
    have f55_2 := f53_2.keep K54
    have f55_3 := f53_3.keep K54 nin0
    have f55_4 := f53_4.keep K54 nin0
    have f55_5 := f53_5.keep K54
    have f55_6 := f53_6.keep K54 nin0
    have f55_7 := f53_7.keep K54 nin0
    have f55_8 := f53_8.keep K54 nin0
    have f55_9 := Sta_keep0 f53_9 K54
    have f55_10 := f53_10.keep K54
    have f55_11 := f53_11.keep K54 nin0
    have f55_12 := f53_12.keep K54 nin0
    have f55_13 := f53_13.keep K54
    have f55_14 := f53_14.keep K54 nin0
    have f55_15 := f53_15.keep K54 nin0
    have f55_16 := f53_16.keep K54 nin0
    have f55_17 := Sta_keep0 f53_17 K54
    have f55_18 := f53_18.keep K54
    have f55_19 := f53_19.keep K54 nin0
    have f55_20 := f53_20.keep K54 nin0
    have f55_21 := f53_21.keep K54
    have f55_22 := f53_22.keep K54 nin0
    have f55_23 := f53_23.keep K54 nin0
    have f55_24 := f53_24.keep K54 nin0
    have f55_25 := Sta_keep0 f53_25 K54
    have f55_26 := f53_26.keep K54
    have f55_27 := f53_27.keep K54 nin0
    have f55_28 := f53_28.keep K54 nin0
    have f55_29 := f53_29.keep K54
    have f55_30 := f53_30.keep K54 nin0
    have f55_31 := f53_31.keep K54 nin0
    have f55_32 := f53_32.keep K54 nin0
    have f55_33 := Sta_keep0 f53_33 K54
    have f55_34 := f53_34.keep K54
    have f55_35 := f53_35.keep K54 nin0
    have f55_36 := f53_36.keep K54 nin0
    have f55_37 := f53_37.keep K54
    have f55_38 := f53_38.keep K54 nin0
    have f55_39 := f53_39.keep K54 nin0
    have f55_40 := f53_40.keep K54 nin0
    have f55_41 := Sta_keep0 f53_41 K54
    have f55_42 := Sta_keep0 f53_42 K54
    have N54 := Fr.app N52 N54q
    refine Wp.back (U' := (T54.setTop (mkF m 54 #[.val (.int p0), .val (.int (4 : Int32)), .val (.ref u4), .val (.int (1 : Int32)), .val (.int (1 : Int32)), .val (.ref s4), .unset] [(.int (62 : Int32))]))) (fun t k => st54.trans k) ?_
    refine Wp.back (U' := (T54.setTop (mkF m 80 #[.val (.int p0), .val (.int (4 : Int32)), .val (.ref u4), .val (.int (1 : Int32)), .val (.int (1 : Int32)), .val (.ref s4), .val (.int (1 : Int32))] [(.int (1 : Int32))]))) (fun t k => XT.bipushV X54.here hx rfl (62 : Int32) (hb hby at_54) (by decide) (XS.icmpNo X54.here hx rfl (hb hby at_56) rfl (teq (by decide)).2 (XT.iconstV X54.here hx rfl (1 : Int32) (hb hby at_59) (by decide) (XS.goto X54.here hx rfl (pc0 := 60) (pc' := 64) rfl (hb hby at_60) (by decide) (by decide) (XS.istore X54.here hx rfl (hb hby at_64) rfl (l' := #[.val (.int p0), .val (.int (4 : Int32)), .val (.ref u4), .val (.int (1 : Int32)), .val (.int (1 : Int32)), .val (.ref s4), .val (.int (1 : Int32))]) rfl (XS.iload X54.here hx rfl (hb hby at_66) rfl (XS.iloadN X54.here hx rfl (hb hby at_68) rfl (XS.icmpNo X54.here hx rfl (hb hby at_69) rfl (teq (by decide)).2 (XS.iload X54.here hx rfl (hb hby at_72) rfl (XS.iload X54.here hx rfl (hb hby at_74) rfl (XS.icmpNo X54.here hx rfl (hb hby at_76) rfl (teq (by decide)).2 (XT.iconstV X54.here hx rfl (1 : Int32) (hb hby at_79) (by decide) k)))))))))))) ?_
    refine Wp.back (U' := (T54.setTop (mkF m 84 #[.val (.int p0), .val (.int (4 : Int32)), .val (.ref u4), .val (.int (1 : Int32)), .val (.int (1 : Int32)), .val (.ref s4), .val (.int (1 : Int32))] [(.int (1 : Int32))]))) (fun t k => XS.goto X54.here hx rfl (pc0 := 80) (pc' := 84) rfl (hb hby at_80) (by decide) (by decide) k) ?_
    obtain ⟨fs, hr, hrun, hended, hW, hsame⟩ := X54.leave (v := (some (.int (1 : Int32)))) (fun h => by rw [hret] at h; cases h)
    refine Wp.done (retN X54 hx (t := .boolean) hret (by simp) (hb hby at_84) hr) hrun hended ⟨_, _, rfl, ?_, ⟨_, rfl⟩, hW, hsame.mono (by decide) (by decide)⟩
    show QL n0 _ T54.heap _
    exact ⟨rfl, N54⟩
set_option maxRecDepth 65536 in
set_option maxHeartbeats 40000000 in
theorem comes_1 {Post : Tables → Env → Array Value → State → Outcome → State → Prop} (hpost : ∀ tb e args s v u, (limb_1_1.after args s (.returned v) u = true ∧ limb_1_2.after args s (.returned v) u = true ∧ True) → FrameEnd s (.returned v) u (Jvm.fieldLocs frame_1_writes args s ++ Jvm.arrayLocs frame_1_arrays args s ++ Jvm.staticLocs frame_1_statics s) 0 0 → Post tb e args s (.returned v) u) :
    ArmFor flags0 classFile x code maxLocals ret World_1 tables_1 room_1 Calls_1 rest_1 Pre_1 Post := by
  intro l hfl _ _ p e ha hc hk s m args below hf hA hF happ hP
  obtain ⟨hcalls, hrest, hpre⟩ := hP
  obtain ⟨-, -, -, hnamed, -, -, -, hat⟩ := (Spec.applies_iff hf).mp happ
  obtain ⟨hg, hn⟩ := and_e (Cond.before_iff.mp (show (Jvm.Cond.and given_1 narrow_1).before args s = true from hpre))
  obtain ⟨hg1, hg2⟩ := and_e hg
  obtain ⟨hn1, hn2⟩ := and_e hn
  obtain ⟨hn21, hn22⟩ := and_e hn2
  obtain ⟨hn221, hn222⟩ := and_e hn22
  obtain ⟨hn2221, hn2222⟩ := and_e hn222
  obtain ⟨hn22221, hn22222⟩ := and_e hn2222
  obtain ⟨hn222221, hn222222⟩ := and_e hn22222
  obtain ⟨hn2222221, hn2222222⟩ := and_e hn222222
  obtain ⟨hn22222221, hn22222222⟩ := and_e hn2222222
  obtain ⟨hn222222221, hn222222222⟩ := and_e hn22222222
  obtain ⟨hn2222222221, hn2222222222⟩ := and_e hn222222222
  obtain ⟨hn22222222221, hn22222222222⟩ := and_e hn2222222222
  obtain ⟨hn222222222221, hn222222222222⟩ := and_e hn22222222222
  obtain ⟨hn2222222222221, hn2222222222222⟩ := and_e hn222222222222
  obtain ⟨hn22222222222221, hn22222222222222⟩ := and_e hn2222222222222
  obtain ⟨hn222222222222221, hn222222222222222⟩ := and_e hn22222222222222
  obtain ⟨hn2222222222222221, hn2222222222222222⟩ := and_e hn222222222222222
  obtain ⟨hn22222222222222221, hn22222222222222222⟩ := and_e hn2222222222222222
  obtain ⟨hn222222222222222221, hn222222222222222222⟩ := and_e hn22222222222222222
  obtain ⟨hn2222222222222222221, hn2222222222222222222⟩ := and_e hn222222222222222222
  obtain ⟨hn22222222222222222221, hn22222222222222222222⟩ := and_e hn2222222222222222222
  obtain ⟨hn222222222222222222221, hn222222222222222222222⟩ := and_e hn22222222222222222222
  obtain ⟨hn2222222222222222222221, hn2222222222222222222222⟩ := and_e hn222222222222222222222
  obtain ⟨hn22222222222222222222221, hn22222222222222222222222⟩ := and_e hn2222222222222222222222
  obtain ⟨hn222222222222222222222221, hn222222222222222222222222⟩ := and_e hn22222222222222222222222
  obtain ⟨hn2222222222222222222222221, hn2222222222222222222222222⟩ := and_e hn222222222222222222222222
  obtain ⟨hn22222222222222222222222221, hn22222222222222222222222222⟩ := and_e hn2222222222222222222222222
  obtain ⟨hn222222222222222222222222221, hn222222222222222222222222222⟩ := and_e hn22222222222222222222222222
  obtain ⟨hn2222222222222222222222222221, hn2222222222222222222222222222⟩ := and_e hn222222222222222222222222222
  obtain ⟨hn22222222222222222222222222221, hn22222222222222222222222222222⟩ := and_e hn2222222222222222222222222222
  obtain ⟨hn222222222222222222222222222221, hn222222222222222222222222222222⟩ := and_e hn22222222222222222222222222222
  obtain ⟨hn2222222222222222222222222222221, hn2222222222222222222222222222222⟩ := and_e hn222222222222222222222222222222
  obtain ⟨hn22222222222222222222222222222221, hn22222222222222222222222222222222⟩ := and_e hn2222222222222222222222222222222
  obtain ⟨hn222222222222222222222222222222221, hn222222222222222222222222222222222⟩ := and_e hn22222222222222222222222222222222
  obtain ⟨hn2222222222222222222222222222222221, hn2222222222222222222222222222222222⟩ := and_e hn222222222222222222222222222222222
  obtain ⟨hn22222222222222222222222222222222221, hn22222222222222222222222222222222222⟩ := and_e hn2222222222222222222222222222222222
  obtain ⟨hn222222222222222222222222222222222221, hn222222222222222222222222222222222222⟩ := and_e hn22222222222222222222222222222222222
  obtain ⟨w0, rfl⟩ : ∃ w0 : Value, args = #[w0] := by
    have hs : args.size = 1 := by simpa [Cond.value, given_1] using hg1
    obtain ⟨L⟩ := args
    match L, hs with
    | [w0], _ => exact ⟨w0, rfl⟩
  have hw := fun d (hd : d ∈ tables_1) => atoms_spec (ws := Jvm.Cond.code x code maxLocals ret :: tables_1) hat d (List.mem_cons_of_mem _ hd)
  have hfit : Fit s := fun {y c} hc i hi => by
    obtain ⟨ha, rfl⟩ := Array.getElem?_eq_some_iff.mp hc
    have q := List.all_eq_true.mp ((Array.all_eq_true_iff_forall_mem.mp hF) _ (Array.getElem_mem ha)) i (List.mem_range.mpr hi)
    simpa [Array.getElem?_eq_getElem hi] using q
  obtain ⟨hsets, hown0⟩ := atoms_of _ (rest_1_c_eq ▸ (show rest_1_c.before _ s = true from hrest))
  have hr0 := Cond.before_iff.mp hown0
  obtain ⟨i0, ei0⟩ := is_v hg2
  obtain rfl : w0 = (.int i0) := Option.some.inj ei0
  obtain ⟨u0, eu0⟩ := exa_v hn1
  have P0_0 := Sta.start eu0 (Or.inr ⟨(hw _ (List.mem_of_getElem? (i := 6) rfl)), (hw _ (List.mem_of_getElem? (i := 7) rfl))⟩)
  have P0_1 := Exa.start eu0 hn1
  have P0_2 := own_fld eu0 hn221
  obtain ⟨s0, es0⟩ := exa_v hn2222221
  have P0_3 := own_fldR eu0 es0
  have P0_4 := Exa.start es0 hn2222221
  obtain ⟨v0, ev0⟩ := arr_v hn22222221
  have P0_5 := own_fldR es0 ev0
  have P0_6 := own_fld es0 hn2222222221
  obtain ⟨c0, A0⟩ := Arr.start ev0 hn22222221
  have q0 := own_len A0 ev0 hn222222221
  have l0_0 := own_el A0 ev0 (by decide) hn22222222221
  have P0_7 : Arv s s.heap v0 c0.cls .byte (1 : Int32) [(.int (61 : Int32))] (.int (0 : Int32)) := Arv.start hfit A0 q0.1 q0.2 (by decide) rfl ⟨l0_0, trivial⟩
  obtain ⟨u1, eu1⟩ := exa_v hn22222222222222221
  have P1_0 := Sta.start eu1 (Or.inr ⟨(hw _ (List.mem_of_getElem? (i := 6) rfl)), (hw _ (List.mem_of_getElem? (i := 64) rfl))⟩)
  have P1_1 := Exa.start eu1 hn22222222222222221
  have P1_2 := own_fld eu1 hn222222222222222221
  obtain ⟨s1, es1⟩ := exa_v hn2222222222222222221
  have P1_3 := own_fldR eu1 es1
  have P1_4 := Exa.start es1 hn2222222222222222221
  obtain ⟨v1, ev1⟩ := arr_v hn22222222222222222221
  have P1_5 := own_fldR es1 ev1
  have P1_6 := own_fld es1 hn2222222222222222222221
  obtain ⟨c1, A1⟩ := Arr.start ev1 hn22222222222222222221
  have q1 := own_len A1 ev1 hn222222222222222222221
  have l1_0 := own_el A1 ev1 (by decide) hn22222222222222222222221
  have P1_7 : Arv s s.heap v1 c1.cls .byte (1 : Int32) [(.int (60 : Int32))] (.int (0 : Int32)) := Arv.start hfit A1 q1.1 q1.2 (by decide) rfl ⟨l1_0, trivial⟩
  obtain ⟨u2, eu2⟩ := exa_v hn22222222222222222222222222221
  have P2_0 := Sta.start eu2 (Or.inr ⟨(hw _ (List.mem_of_getElem? (i := 6) rfl)), (hw _ (List.mem_of_getElem? (i := 67) rfl))⟩)
  have P2_1 := Exa.start eu2 hn22222222222222222222222222221
  have P2_2 := own_fld eu2 hn222222222222222222222222222221
  obtain ⟨s2, es2⟩ := exa_v hn2222222222222222222222222222221
  have P2_3 := own_fldR eu2 es2
  have P2_4 := Exa.start es2 hn2222222222222222222222222222221
  obtain ⟨v2, ev2⟩ := arr_v hn22222222222222222222222222222221
  have P2_5 := own_fldR es2 ev2
  have P2_6 := own_fld es2 hn2222222222222222222222222222222221
  obtain ⟨c2, A2⟩ := Arr.start ev2 hn22222222222222222222222222222221
  have q2 := own_len A2 ev2 hn222222222222222222222222222222221
  have l2_0 := own_el A2 ev2 (by decide) hn22222222222222222222222222222222221
  have l2_1 := own_el A2 ev2 (by decide) hn222222222222222222222222222222222222
  have P2_7 : Arv s s.heap v2 c2.cls .byte (2 : Int32) [(.int (60 : Int32)), (.int (61 : Int32))] (.int (0 : Int32)) := Arv.start hfit A2 q2.1 q2.2 (by decide) rfl ⟨l2_0, l2_1, trivial⟩
  obtain ⟨u3, eu3⟩ := exa_v hn21
  have P3_0 := Sta.start eu3 (Or.inr ⟨(hw _ (List.mem_of_getElem? (i := 6) rfl)), (hw _ (List.mem_of_getElem? (i := 14) rfl))⟩)
  have P3_1 := Exa.start eu3 hn21
  have P3_2 := own_fld eu3 hn2221
  obtain ⟨s3, es3⟩ := exa_v hn222222222221
  have P3_3 := own_fldR eu3 es3
  have P3_4 := Exa.start es3 hn222222222221
  obtain ⟨v3, ev3⟩ := arr_v hn2222222222221
  have P3_5 := own_fldR es3 ev3
  have P3_6 := own_fld es3 hn222222222222221
  obtain ⟨c3, A3⟩ := Arr.start ev3 hn2222222222221
  have q3 := own_len A3 ev3 hn22222222222221
  have l3_0 := own_el A3 ev3 (by decide) hn2222222222222221
  have P3_7 : Arv s s.heap v3 c3.cls .byte (1 : Int32) [(.int (62 : Int32))] (.int (0 : Int32)) := Arv.start hfit A3 q3.1 q3.2 (by decide) rfl ⟨l3_0, trivial⟩
  obtain ⟨u4, eu4⟩ := exa_v hn22221
  have P4_0 := Sta.start eu4 (Or.inr ⟨(hw _ (List.mem_of_getElem? (i := 6) rfl)), (hw _ (List.mem_of_getElem? (i := 16) rfl))⟩)
  have P4_1 := Exa.start eu4 hn22221
  have P4_2 := own_fld eu4 hn222221
  obtain ⟨s4, es4⟩ := exa_v hn222222222222222222222221
  have P4_3 := own_fldR eu4 es4
  have P4_4 := Exa.start es4 hn222222222222222222222221
  obtain ⟨v4, ev4⟩ := arr_v hn2222222222222222222222221
  have P4_5 := own_fldR es4 ev4
  have P4_6 := own_fld es4 hn222222222222222222222222221
  obtain ⟨c4, A4⟩ := Arr.start ev4 hn2222222222222222222222221
  have q4 := own_len A4 ev4 hn22222222222222222222222221
  have l4_0 := own_el A4 ev4 (by decide) hn2222222222222222222222222221
  have l4_1 := own_el A4 ev4 (by decide) hn222222222222222222222222222222222221
  have P4_7 : Arv s s.heap v4 c4.cls .byte (2 : Int32) [(.int (62 : Int32)), (.int (61 : Int32))] (.int (0 : Int32)) := Arv.start hfit A4 q4.1 q4.2 (by decide) rfl ⟨l4_0, l4_1, trivial⟩
  obtain ⟨cs, ecs⟩ := is_v (Cond.before_iff.mp (hsets _ (List.mem_of_getElem? (i := 1) rfl)))
  have PC := Sta.start ecs (Or.inl (hsets _ (List.mem_of_getElem? (i := 0) rfl)))
  have hcs : ¬ cs = (0 : Int32) := gotF (Cond.eq_ints ecs rfl) (not_v (Cond.before_iff.mp (hsets _ (List.mem_of_getElem? (i := 2) rfl))))
  obtain ⟨rf, erf, isr_rf⟩ := isR_v (Cond.before_iff.mp (hsets _ (List.mem_of_getElem? (i := 8) rfl)))
  have PF := Sta.start erf (Or.inl (hsets _ (List.mem_of_getElem? (i := 7) rfl)))
  obtain ⟨n, o, h1, h2, h3, _, L, rfl, ⟨rfl, N⟩, hq⟩ := rm_law l s _ hw tables_1 i0 u0 s0 v0 c0.cls u1 s1 v1 c1.cls u2 s2 v2 c2.cls u3 s3 v3 c3.cls u4 s4 v4 c4.cls cs rf s.heap s.heap.size (Nat.le_refl _) P0_0 P0_1 P0_2 P0_3 P0_4 P0_5 P0_6 P0_7 P1_0 P1_1 P1_2 P1_3 P1_4 P1_5 P1_6 P1_7 P2_0 P2_1 P2_2 P2_3 P2_4 P2_5 P2_6 P2_7 P3_0 P3_1 P3_2 P3_3 P3_4 P3_5 P3_6 P3_7 P4_0 P4_1 P4_2 P4_3 P4_4 P4_5 P4_6 P4_7 PC hcs PF isr_rf p e ha hc hk s m _ below hf ((Spec.applies_iff_loose hf).mp happ).1 ⟨rfl, State.Warmed39.refl s, rfl⟩ trivial
  refine ⟨n, _, h1, h2, h3, hpost _ _ _ _ _ _ ⟨Cond.after_iff.mpr rfl, Cond.after_iff.mpr (eq_i res_at (Term.int_eval (1)) rfl), trivial⟩ ⟨hq.1, hq.2.1, (hq.2.2.sift fun y hy => Or.inr (N y hy)).mono (by decide) (by decide)⟩⟩
theorem main_1_1 : Claimed_1_1 := comes_1 fun _ _ _ _ _ _ h hF => ⟨h.1, hF⟩
theorem main_1_2 : Claimed_1_2 := comes_1 fun _ _ _ _ _ _ h hF => ⟨h.2.1, hF⟩
end Jvm.Pilot.@@N@@
namespace Jvm.Pilot.@@N@@
open Jvm Jvm.ClassFile Sem Op Lib Jvm.Free Jvm.Stand Jvm.Pilot.@@N@@.Jvm.D
/-! MADE BY PROGRAM (witnessworld.py) out of the Statement's table words and the real class files: 18 classes; the members and pool entries that the words name. The judged class is class 1, her method 2. -/
namespace start1
open Jvm.ClassFile
def u (s : String) : CpInfo := .utf8 (stringToUtf16 s)
/-- a pool by its gaps: so many unusable entries, then the entry; so many at the end -/
def gap : Nat → List CpInfo → List CpInfo
  | 0, r => r
  | n + 1, r => .unusable :: gap n r
def poolList (es : List (Nat × CpInfo)) (last : Nat) : List CpInfo := es.foldr (fun e r => gap e.1 (e.2 :: r)) (gap last [])
def pool (es : List (Nat × CpInfo)) (last : Nat) : Array CpInfo := ⟨poolList es last⟩
def fileOf (pool : Array CpInfo) (this : Nat) (attrs : Array Attribute := #[]) (ms : Array MethodInfo := #[]) (fl : Nat := 33) (sup : Nat := 0) (ifs : Array Nat := #[]) (fds : Array FieldInfo := #[]) : ClassFile where
  minorVersion := 0
  majorVersion := 65
  constantPool := pool
  accessFlags := fl
  thisClass := this
  superClass := sup
  interfaces := ifs
  fields := fds
  methods := ms
  attributes := attrs
def plain (name : String) (sup : Option ClassId) : Class where
  name := name
  kind := .ordinary
  loader := none
  accessFlags := 33
  super := sup
  interfaces := #[]
  cf := none
  fields := #[]
  methods := #[]
  instanceTypes := #[]
  staticTypes := #[]
  resolved := #[]
  callSites := []
  init := .initialized
  statics := none
  mirror := none

def pool0 : Array CpInfo := pool [(5, u "<init>"), (0, u "()V"), (1, .class_ 10), (1, u "java/lang/Object")] 113

def k0m0 : Method := { name := "<init>", desc := "()V", sig := { parameters := [], returnType := none }, accessFlags := 1, code := none }
/-- java/lang/Object -/
def k0 : Class := { plain "java/lang/Object" none with
  accessFlags := 33
  interfaces := #[]
  cf := some (fileOf pool0 8 #[] #[{ accessFlags := 1, nameIndex := 5, descriptorIndex := 6, attributes := #[] }] 33 0 #[] #[])
  fields := #[]
  methods := #[k0m0]
  instanceTypes := #[]
  staticTypes := #[]
  resolved := Array.replicate 124 none
  statics := none }

def pool1 : Array CpInfo := pool [(2, .class_ 4), (1, u "java/lang/Object"), (0, u "<init>"), (0, u "()V"), (0, .fieldref 8 9), (0, .class_ 10), (0, .nameAndType 11 12), (0, u "com/example/query_to_table/querytotable/sql/Comparison"), (0, u "EQUAL"), (0, u "Lcom/example/query_to_table/querytotable/sql/Comparison;"), (0, .fieldref 8 14), (0, .nameAndType 15 12), (0, u "LESS_THAN"), (0, .fieldref 8 17), (0, .nameAndType 18 12), (0, u "LESS_THAN_OR_EQUAL"), (0, .fieldref 8 20), (0, .nameAndType 21 12), (0, u "GREATER_THAN"), (0, .fieldref 8 23), (0, .nameAndType 24 12), (0, u "GREATER_THAN_OR_EQUAL"), (0, .integer 2147483647), (0, .methodref 27 28), (0, .class_ 29), (0, .nameAndType 30 31), (0, u "com/example/query_to_table/querytotable/sql/ComparisonIsLowerBoundPinLaw"), (0, u "pick"), (0, u "(I)Lcom/example/query_to_table/querytotable/sql/Comparison;"), (0, .methodref 8 33), (0, .nameAndType 34 35), (0, u "isLowerBound"), (0, u "()Z"), (0, .methodref 8 37), (0, .nameAndType 38 39), (0, u "symbol"), (0, u "()Ljava/lang/String;"), (0, .methodref 41 42), (0, .class_ 43), (0, .nameAndType 44 45), (0, u "java/lang/String"), (0, u "length"), (0, u "()I"), (0, .methodref 41 47), (0, .nameAndType 48 49), (0, u "charAt"), (0, u "(I)C"), (3, u "law"), (0, u "(I)Z")] 2

def k1m0 : Method := { name := "<init>", desc := "()V", sig := { parameters := [], returnType := none }, accessFlags := 2, code := none }
def k1c1 : Code := { maxStack := 2, maxLocals := 1, code := method_2_code, exceptionTable := #[], attributes := #[] }
def k1m1 : Method := { name := "pick", desc := "(I)Lcom/example/query_to_table/querytotable/sql/Comparison;", sig := { parameters := [.int], returnType := some (.object "com/example/query_to_table/querytotable/sql/Comparison") }, accessFlags := 10, code := some k1c1 }
def k1c2 : Code := { maxStack := 2, maxLocals := 7, code := code, exceptionTable := #[], attributes := #[] }
def k1m2 : Method := { name := "law", desc := "(I)Z", sig := { parameters := [.int], returnType := some .boolean }, accessFlags := 9, code := some k1c2 }
/-- com/example/query_to_table/querytotable/sql/ComparisonIsLowerBoundPinLaw -/
def k1 : Class := { plain "com/example/query_to_table/querytotable/sql/ComparisonIsLowerBoundPinLaw" (some 0) with
  accessFlags := 49
  interfaces := #[]
  cf := some (fileOf pool1 27 #[] #[{ accessFlags := 2, nameIndex := 5, descriptorIndex := 6, attributes := #[] }, { accessFlags := 10, nameIndex := 30, descriptorIndex := 31, attributes := #[] }, { accessFlags := 9, nameIndex := 53, descriptorIndex := 54, attributes := #[] }] 49 2 #[] #[])
  fields := #[]
  methods := #[k1m0, k1m1, k1m2]
  instanceTypes := #[]
  staticTypes := #[]
  resolved := Array.replicate 57 none
  statics := none }

def pool2 : Array CpInfo := pool [(1, .class_ 2), (0, u "java/lang/constant/Constable"), (0, .class_ 4), (0, u "java/lang/Object")] 6

/-- java/lang/constant/Constable -/
def k2 : Class := { plain "java/lang/constant/Constable" (some 0) with
  accessFlags := 1537
  interfaces := #[]
  cf := some (fileOf pool2 1 #[] #[] 1537 3 #[] #[])
  fields := #[]
  methods := #[]
  instanceTypes := #[]
  staticTypes := #[]
  resolved := Array.replicate 11 none
  statics := none }

def pool3 : Array CpInfo := pool [(1, .class_ 2), (0, u "java/lang/Comparable"), (0, .class_ 4), (0, u "java/lang/Object")] 7

/-- java/lang/Comparable -/
def k3 : Class := { plain "java/lang/Comparable" (some 0) with
  accessFlags := 1537
  interfaces := #[]
  cf := some (fileOf pool3 1 #[] #[] 1537 3 #[] #[])
  fields := #[]
  methods := #[]
  instanceTypes := #[]
  staticTypes := #[]
  resolved := Array.replicate 12 none
  statics := none }

def pool4 : Array CpInfo := pool [(1, .class_ 2), (0, u "java/io/Serializable"), (0, .class_ 4), (0, u "java/lang/Object")] 2

/-- java/io/Serializable -/
def k4 : Class := { plain "java/io/Serializable" (some 0) with
  accessFlags := 1537
  interfaces := #[]
  cf := some (fileOf pool4 1 #[] #[] 1537 3 #[] #[])
  fields := #[]
  methods := #[]
  instanceTypes := #[]
  staticTypes := #[]
  resolved := Array.replicate 7 none
  statics := none }

def pool5 : Array CpInfo := pool [(2, .class_ 4), (1, u "java/lang/Enum"), (0, u "name"), (0, u "Ljava/lang/String;"), (2, u "ordinal"), (0, u "I"), (1, .class_ 14), (1, u "java/lang/Object"), (4, u "hash"), (86, .class_ 108), (1, u "java/lang/Enum$EnumDesc"), (2, .class_ 112), (0, u "java/lang/constant/Constable"), (0, .class_ 114), (0, u "java/lang/Comparable"), (0, .class_ 116), (0, u "java/io/Serializable")] 87

/-- java/lang/Enum -/
def k5 : Class := { plain "java/lang/Enum" (some 0) with
  accessFlags := 1057
  interfaces := #[2, 3, 4]
  cf := some (fileOf pool5 2 #[.nestMembers #[106]] #[] 1057 12 #[111, 113, 115] #[{ accessFlags := 18, nameIndex := 5, descriptorIndex := 6, attributes := #[] }, { accessFlags := 18, nameIndex := 9, descriptorIndex := 10, attributes := #[] }, { accessFlags := 2, nameIndex := 19, descriptorIndex := 10, attributes := #[] }])
  fields := #[{ name := "name", type := (.object "java/lang/String"), accessFlags := 18, slot := 0, constantValue := 0 }, { name := "ordinal", type := .int, accessFlags := 18, slot := 1, constantValue := 0 }, { name := "hash", type := .int, accessFlags := 2, slot := 2, constantValue := 0 }]
  methods := #[]
  instanceTypes := #[(.object "java/lang/String"), .int, .int]
  staticTypes := #[]
  resolved := Array.replicate 204 none
  statics := none }

def pool6 : Array CpInfo := pool [(1, .class_ 2), (0, u "com/example/query_to_table/querytotable/sql/Comparison"), (2, u "EQUAL"), (0, u "Lcom/example/query_to_table/querytotable/sql/Comparison;"), (2, u "LESS_THAN"), (2, u "LESS_THAN_OR_EQUAL"), (0, .fieldref 1 14), (0, .nameAndType 15 6), (0, u "GREATER_THAN"), (0, .fieldref 1 17), (0, .nameAndType 18 6), (0, u "GREATER_THAN_OR_EQUAL"), (2, u "$VALUES"), (0, u "[Lcom/example/query_to_table/querytotable/sql/Comparison;"), (6, .class_ 31), (1, u "java/lang/Enum"), (6, .fieldref 1 39), (0, .nameAndType 40 41), (0, u "symbol"), (0, u "Ljava/lang/String;"), (29, u "()Ljava/lang/String;"), (0, u "isLowerBound"), (0, u "()Z")] 7

def k6c0 : Code := { maxStack := 1, maxLocals := 1, code := prog_10_method_4_code, exceptionTable := #[], attributes := #[] }
def k6m0 : Method := { name := "symbol", desc := "()Ljava/lang/String;", sig := { parameters := [], returnType := some (.object "java/lang/String") }, accessFlags := 1, code := some k6c0 }
def k6c1 : Code := { maxStack := 2, maxLocals := 1, code := prog_10_method_5_code, exceptionTable := #[], attributes := #[] }
def k6m1 : Method := { name := "isLowerBound", desc := "()Z", sig := { parameters := [], returnType := some .boolean }, accessFlags := 1, code := some k6c1 }
/-- com/example/query_to_table/querytotable/sql/Comparison -/
def k6 : Class := { plain "com/example/query_to_table/querytotable/sql/Comparison" (some 5) with
  accessFlags := 16433
  interfaces := #[]
  cf := some (fileOf pool6 1 #[] #[{ accessFlags := 1, nameIndex := 40, descriptorIndex := 71, attributes := #[] }, { accessFlags := 1, nameIndex := 72, descriptorIndex := 73, attributes := #[] }] 16433 29 #[] #[{ accessFlags := 16409, nameIndex := 5, descriptorIndex := 6, attributes := #[] }, { accessFlags := 16409, nameIndex := 9, descriptorIndex := 6, attributes := #[] }, { accessFlags := 16409, nameIndex := 12, descriptorIndex := 6, attributes := #[] }, { accessFlags := 16409, nameIndex := 15, descriptorIndex := 6, attributes := #[] }, { accessFlags := 16409, nameIndex := 18, descriptorIndex := 6, attributes := #[] }, { accessFlags := 18, nameIndex := 40, descriptorIndex := 41, attributes := #[] }, { accessFlags := 4122, nameIndex := 21, descriptorIndex := 22, attributes := #[] }])
  fields := #[{ name := "EQUAL", type := (.object "com/example/query_to_table/querytotable/sql/Comparison"), accessFlags := 16409, slot := 0, constantValue := 0 }, { name := "LESS_THAN", type := (.object "com/example/query_to_table/querytotable/sql/Comparison"), accessFlags := 16409, slot := 1, constantValue := 0 }, { name := "LESS_THAN_OR_EQUAL", type := (.object "com/example/query_to_table/querytotable/sql/Comparison"), accessFlags := 16409, slot := 2, constantValue := 0 }, { name := "GREATER_THAN", type := (.object "com/example/query_to_table/querytotable/sql/Comparison"), accessFlags := 16409, slot := 3, constantValue := 0 }, { name := "GREATER_THAN_OR_EQUAL", type := (.object "com/example/query_to_table/querytotable/sql/Comparison"), accessFlags := 16409, slot := 4, constantValue := 0 }, { name := "symbol", type := (.object "java/lang/String"), accessFlags := 18, slot := 3, constantValue := 0 }, { name := "$VALUES", type := (.array (.object "com/example/query_to_table/querytotable/sql/Comparison")), accessFlags := 4122, slot := 5, constantValue := 0 }]
  methods := #[k6m0, k6m1]
  instanceTypes := #[(.object "java/lang/String"), .int, .int, (.object "java/lang/String")]
  staticTypes := #[(.object "com/example/query_to_table/querytotable/sql/Comparison"), (.object "com/example/query_to_table/querytotable/sql/Comparison"), (.object "com/example/query_to_table/querytotable/sql/Comparison"), (.object "com/example/query_to_table/querytotable/sql/Comparison"), (.object "com/example/query_to_table/querytotable/sql/Comparison"), (.array (.object "com/example/query_to_table/querytotable/sql/Comparison"))]
  resolved := Array.replicate 81 none
  statics := some 0 }

def pool7 : Array CpInfo := pool [(2, .class_ 4), (1, u "java/lang/CharSequence"), (42, .class_ 48), (0, u "java/lang/CharSequence$1CodePointIterator"), (10, .class_ 60), (0, u "java/lang/CharSequence$1CharIterator"), (5, .class_ 67), (0, u "java/lang/Object")] 63

/-- java/lang/CharSequence -/
def k7 : Class := { plain "java/lang/CharSequence" (some 0) with
  accessFlags := 1537
  interfaces := #[]
  cf := some (fileOf pool7 2 #[.nestMembers #[47, 59]] #[] 1537 66 #[] #[])
  fields := #[]
  methods := #[]
  instanceTypes := #[]
  staticTypes := #[]
  resolved := Array.replicate 131 none
  statics := none }

def pool8 : Array CpInfo := pool [(1, .class_ 2), (0, u "java/lang/constant/ConstantDesc"), (0, .class_ 4), (0, u "java/lang/Object")] 32

/-- java/lang/constant/ConstantDesc -/
def k8 : Class := { plain "java/lang/constant/ConstantDesc" (some 0) with
  accessFlags := 1537
  interfaces := #[]
  cf := some (fileOf pool8 1 #[] #[] 1537 3 #[] #[])
  fields := #[]
  methods := #[]
  instanceTypes := #[]
  staticTypes := #[]
  resolved := Array.replicate 37 none
  statics := none }

def pool9 : Array CpInfo := pool [(2, .class_ 4), (1, u "java/lang/Object"), (0, u "<init>"), (0, u "()V"), (2, .fieldref 10 11), (0, .class_ 12), (0, .nameAndType 13 14), (0, u "java/lang/String"), (0, u "value"), (0, u "[B"), (0, .fieldref 10 16), (0, .nameAndType 17 18), (0, u "coder"), (0, u "B"), (2, u "hash"), (0, u "I"), (2, u "hashIsZero"), (0, u "Z"), (11, .fieldref 10 39), (0, .nameAndType 40 26), (0, u "COMPACT_STRINGS"), (66, .class_ 109), (1, u "java/lang/StringLatin1"), (32, u "()Z"), (191, u "()I"), (0, .methodref 10 336), (0, .nameAndType 17 337), (0, u "()B"), (25, u "([BI)C"), (27, u "(II)V"), (35, u "(I)C"), (64, .methodref 10 493), (0, .nameAndType 494 142), (0, u "isLatin1"), (0, .methodref 107 496), (0, .nameAndType 497 363), (0, u "charAt"), (3, u "checkIndex"), (5, u "length"), (67, .class_ 576), (0, u "java/lang/CharSequence"), (22, u "CASE_INSENSITIVE_ORDER"), (0, u "Ljava/util/Comparator;"), (452, .fieldref 1054 1055), (0, .class_ 1056), (0, .nameAndType 1057 1058), (0, u "jdk/internal/util/Preconditions"), (0, u "SIOOBE_FORMATTER"), (0, u "Ljava/util/function/BiFunction;"), (0, .methodref 1054 1060), (0, .nameAndType 501 1061), (0, u "(IILjava/util/function/BiFunction;)I"), (39, u "serialPersistentFields"), (0, u "[Ljava/io/ObjectStreamField;"), (0, .class_ 1104), (0, u "java/lang/String$CaseInsensitiveComparator"), (1, .class_ 1107), (0, u "java/io/Serializable"), (0, .class_ 1109), (0, u "java/lang/Comparable"), (0, .class_ 1111), (0, u "java/lang/constant/Constable"), (0, .class_ 1113), (0, u "java/lang/constant/ConstantDesc"), (2, u "serialVersionUID"), (0, u "J"), (3, u "REPL"), (0, u "C"), (2, u "LATIN1"), (1, u "UTF16")] 323

def k9m0 : Method := { name := "<init>", desc := "()V", sig := { parameters := [], returnType := none }, accessFlags := 1, code := none }
def k9c1 : Code := { maxStack := 2, maxLocals := 1, code := jdk_42_method_54_code, exceptionTable := #[], attributes := #[] }
def k9m1 : Method := { name := "length", desc := "()I", sig := { parameters := [], returnType := some .int }, accessFlags := 1, code := some k9c1 }
def k9c2 : Code := { maxStack := 2, maxLocals := 2, code := jdk_42_method_56_code, exceptionTable := #[], attributes := #[] }
def k9m2 : Method := { name := "charAt", desc := "(I)C", sig := { parameters := [.int], returnType := some .char }, accessFlags := 1, code := some k9c2 }
def k9c3 : Code := { maxStack := 1, maxLocals := 1, code := jdk_42_method_152_code, exceptionTable := #[], attributes := #[] }
def k9m3 : Method := { name := "coder", desc := "()B", sig := { parameters := [], returnType := some .byte }, accessFlags := 0, code := some k9c3 }
def k9c4 : Code := { maxStack := 1, maxLocals := 1, code := jdk_42_method_154_code, exceptionTable := #[], attributes := #[] }
def k9m4 : Method := { name := "isLatin1", desc := "()Z", sig := { parameters := [], returnType := some .boolean }, accessFlags := 0, code := some k9c4 }
def k9c5 : Code := { maxStack := 3, maxLocals := 2, code := jdk_42_method_155_code, exceptionTable := #[], attributes := #[] }
def k9m5 : Method := { name := "checkIndex", desc := "(II)V", sig := { parameters := [.int, .int], returnType := none }, accessFlags := 8, code := some k9c5 }
/-- java/lang/String -/
def k9 : Class := { plain "java/lang/String" (some 0) with
  accessFlags := 49
  interfaces := #[4, 3, 7, 2, 8]
  cf := some (fileOf pool9 10 #[.nestMembers #[1103]] #[{ accessFlags := 1, nameIndex := 5, descriptorIndex := 6, attributes := #[] }, { accessFlags := 1, nameIndex := 507, descriptorIndex := 334, attributes := #[] }, { accessFlags := 1, nameIndex := 497, descriptorIndex := 427, attributes := #[] }, { accessFlags := 0, nameIndex := 17, descriptorIndex := 337, attributes := #[] }, { accessFlags := 0, nameIndex := 494, descriptorIndex := 142, attributes := #[] }, { accessFlags := 8, nameIndex := 501, descriptorIndex := 391, attributes := #[] }] 49 2 #[1106, 1108, 575, 1110, 1112] #[{ accessFlags := 18, nameIndex := 13, descriptorIndex := 14, attributes := #[] }, { accessFlags := 18, nameIndex := 17, descriptorIndex := 18, attributes := #[] }, { accessFlags := 2, nameIndex := 21, descriptorIndex := 22, attributes := #[] }, { accessFlags := 2, nameIndex := 25, descriptorIndex := 26, attributes := #[] }, { accessFlags := 26, nameIndex := 1116, descriptorIndex := 1117, attributes := #[] }, { accessFlags := 24, nameIndex := 40, descriptorIndex := 26, attributes := #[] }, { accessFlags := 26, nameIndex := 1101, descriptorIndex := 1102, attributes := #[] }, { accessFlags := 26, nameIndex := 1121, descriptorIndex := 1122, attributes := #[] }, { accessFlags := 25, nameIndex := 599, descriptorIndex := 600, attributes := #[] }, { accessFlags := 24, nameIndex := 1125, descriptorIndex := 18, attributes := #[] }, { accessFlags := 24, nameIndex := 1127, descriptorIndex := 18, attributes := #[] }])
  fields := #[{ name := "value", type := (.array .byte), accessFlags := 18, slot := 0, constantValue := 0 }, { name := "coder", type := .byte, accessFlags := 18, slot := 1, constantValue := 0 }, { name := "hash", type := .int, accessFlags := 2, slot := 2, constantValue := 0 }, { name := "hashIsZero", type := .boolean, accessFlags := 2, slot := 3, constantValue := 0 }, { name := "serialVersionUID", type := .long, accessFlags := 26, slot := 0, constantValue := 0 }, { name := "COMPACT_STRINGS", type := .boolean, accessFlags := 24, slot := 1, constantValue := 0 }, { name := "serialPersistentFields", type := (.array (.object "java/io/ObjectStreamField")), accessFlags := 26, slot := 2, constantValue := 0 }, { name := "REPL", type := .char, accessFlags := 26, slot := 3, constantValue := 0 }, { name := "CASE_INSENSITIVE_ORDER", type := (.object "java/util/Comparator"), accessFlags := 25, slot := 4, constantValue := 0 }, { name := "LATIN1", type := .byte, accessFlags := 24, slot := 5, constantValue := 0 }, { name := "UTF16", type := .byte, accessFlags := 24, slot := 6, constantValue := 0 }]
  methods := #[k9m0, k9m1, k9m2, k9m3, k9m4, k9m5]
  instanceTypes := #[(.array .byte), .byte, .int, .boolean]
  staticTypes := #[.long, .boolean, (.array (.object "java/io/ObjectStreamField")), .char, (.object "java/util/Comparator"), .byte, .byte]
  resolved := Array.replicate 1451 none
  statics := some 1 }

def pool10 : Array CpInfo := pool [(1, .class_ 2), (0, u "java/lang/String"), (1, .class_ 6), (1, u "java/lang/Object"), (0, u "<init>"), (0, u "()V"), (0, .methodref 1 10), (0, .nameAndType 11 12), (0, u "checkIndex"), (0, u "(II)V"), (1, .class_ 16), (1, u "java/lang/StringLatin1"), (36, u "([BI)C"), (67, u "$assertionsDisabled"), (0, u "Z"), (98, .class_ 223), (1, u "java/lang/StringLatin1$LinesSpliterator"), (28, u "charAt"), (137, .class_ 391), (0, u "java/lang/StringLatin1$CharsSpliterator")] 3

def k10m0 : Method := { name := "<init>", desc := "()V", sig := { parameters := [], returnType := none }, accessFlags := 0, code := none }
def k10c1 : Code := { maxStack := 2, maxLocals := 2, code := jdk_43_method_2_code, exceptionTable := #[], attributes := #[] }
def k10m1 : Method := { name := "charAt", desc := "([BI)C", sig := { parameters := [(.array .byte), .int], returnType := some .char }, accessFlags := 9, code := some k10c1 }
/-- java/lang/StringLatin1 -/
def k10 : Class := { plain "java/lang/StringLatin1" (some 0) with
  accessFlags := 48
  interfaces := #[]
  cf := some (fileOf pool10 14 #[.nestMembers #[390, 221]] #[{ accessFlags := 0, nameIndex := 7, descriptorIndex := 8, attributes := #[] }, { accessFlags := 9, nameIndex := 252, descriptorIndex := 53, attributes := #[] }] 48 4 #[] #[{ accessFlags := 4120, nameIndex := 121, descriptorIndex := 122, attributes := #[] }])
  fields := #[{ name := "$assertionsDisabled", type := .boolean, accessFlags := 4120, slot := 0, constantValue := 0 }]
  methods := #[k10m0, k10m1]
  instanceTypes := #[]
  staticTypes := #[.boolean]
  resolved := Array.replicate 395 none
  statics := none }

def pool11 : Array CpInfo := pool [(2, .class_ 4), (1, u "java/lang/Object"), (0, u "<init>"), (0, u "()V"), (17, .class_ 26), (1, u "jdk/internal/util/Preconditions"), (6, u "checkIndex"), (21, .class_ 56), (0, u "jdk/internal/util/Preconditions$4"), (57, .class_ 115), (0, u "jdk/internal/util/Preconditions$1"), (7, u "SIOOBE_FORMATTER"), (0, u "Ljava/util/function/BiFunction;"), (0, .class_ 126), (0, u "jdk/internal/util/Preconditions$2"), (3, u "AIOOBE_FORMATTER"), (0, .class_ 132), (0, u "jdk/internal/util/Preconditions$3"), (3, u "IOOBE_FORMATTER"), (41, u "(IILjava/util/function/BiFunction;)I")] 15

def k11m0 : Method := { name := "<init>", desc := "()V", sig := { parameters := [], returnType := none }, accessFlags := 1, code := none }
def k11c1 : Code := { maxStack := 3, maxLocals := 3, code := jdk_41_method_11_code, exceptionTable := #[], attributes := #[] }
def k11m1 : Method := { name := "checkIndex", desc := "(IILjava/util/function/BiFunction;)I", sig := { parameters := [.int, .int, (.object "java/util/function/BiFunction")], returnType := some .int }, accessFlags := 9, code := some k11c1 }
/-- jdk/internal/util/Preconditions -/
def k11 : Class := { plain "jdk/internal/util/Preconditions" (some 0) with
  accessFlags := 33
  interfaces := #[]
  cf := some (fileOf pool11 24 #[.nestMembers #[55, 131, 125, 114]] #[{ accessFlags := 1, nameIndex := 5, descriptorIndex := 6, attributes := #[] }, { accessFlags := 9, nameIndex := 33, descriptorIndex := 178, attributes := #[] }] 33 2 #[] #[{ accessFlags := 25, nameIndex := 123, descriptorIndex := 124, attributes := #[] }, { accessFlags := 25, nameIndex := 130, descriptorIndex := 124, attributes := #[] }, { accessFlags := 25, nameIndex := 136, descriptorIndex := 124, attributes := #[] }])
  fields := #[{ name := "SIOOBE_FORMATTER", type := (.object "java/util/function/BiFunction"), accessFlags := 25, slot := 0, constantValue := 0 }, { name := "AIOOBE_FORMATTER", type := (.object "java/util/function/BiFunction"), accessFlags := 25, slot := 1, constantValue := 0 }, { name := "IOOBE_FORMATTER", type := (.object "java/util/function/BiFunction"), accessFlags := 25, slot := 2, constantValue := 0 }]
  methods := #[k11m0, k11m1]
  instanceTypes := #[]
  staticTypes := #[(.object "java/util/function/BiFunction"), (.object "java/util/function/BiFunction"), (.object "java/util/function/BiFunction")]
  resolved := Array.replicate 194 none
  statics := some 2 }

def pool12 : Array CpInfo := pool [(9, u "<init>"), (6, .class_ 18), (1, u "java/lang/Object"), (0, u "()V"), (1, .class_ 23), (1, u "jdk/internal/util/ArraysSupport"), (0, u "LOG2_ARRAY_LONG_INDEX_SCALE"), (0, u "I"), (2, u "U"), (0, u "Ljdk/internal/misc/Unsafe;"), (8, u "BIG_ENDIAN"), (0, u "Z"), (8, u "LOG2_BYTE_BIT_SIZE"), (4, u "LOG2_ARRAY_INT_INDEX_SCALE"), (54, u "JLA"), (0, u "Ljdk/internal/access/JavaLangAccess;"), (11, u "LOG2_ARRAY_BOOLEAN_INDEX_SCALE"), (9, u "LOG2_ARRAY_BYTE_INDEX_SCALE"), (5, u "LOG2_ARRAY_CHAR_INDEX_SCALE"), (5, u "LOG2_ARRAY_SHORT_INDEX_SCALE"), (18, u "LOG2_ARRAY_FLOAT_INDEX_SCALE"), (24, u "LOG2_ARRAY_DOUBLE_INDEX_SCALE"), (89, u "T_BOOLEAN"), (2, u "T_CHAR"), (1, u "T_FLOAT"), (1, u "T_DOUBLE"), (1, u "T_BYTE"), (1, u "T_SHORT"), (1, u "T_INT"), (1, u "T_LONG"), (1, u "SOFT_MAX_ARRAY_LENGTH")] 83

def k12m0 : Method := { name := "<init>", desc := "()V", sig := { parameters := [], returnType := none }, accessFlags := 2, code := none }
/-- jdk/internal/util/ArraysSupport -/
def k12 : Class := { plain "jdk/internal/util/ArraysSupport" (some 0) with
  accessFlags := 33
  interfaces := #[]
  cf := some (fileOf pool12 21 #[] #[{ accessFlags := 2, nameIndex := 9, descriptorIndex := 19, attributes := #[] }] 33 16 #[] #[{ accessFlags := 24, nameIndex := 28, descriptorIndex := 29, attributes := #[] }, { accessFlags := 26, nameIndex := 38, descriptorIndex := 39, attributes := #[] }, { accessFlags := 25, nameIndex := 121, descriptorIndex := 25, attributes := #[] }, { accessFlags := 25, nameIndex := 131, descriptorIndex := 25, attributes := #[] }, { accessFlags := 25, nameIndex := 137, descriptorIndex := 25, attributes := #[] }, { accessFlags := 25, nameIndex := 143, descriptorIndex := 25, attributes := #[] }, { accessFlags := 25, nameIndex := 53, descriptorIndex := 25, attributes := #[] }, { accessFlags := 25, nameIndex := 24, descriptorIndex := 25, attributes := #[] }, { accessFlags := 25, nameIndex := 162, descriptorIndex := 25, attributes := #[] }, { accessFlags := 25, nameIndex := 187, descriptorIndex := 25, attributes := #[] }, { accessFlags := 26, nameIndex := 48, descriptorIndex := 25, attributes := #[] }, { accessFlags := 25, nameIndex := 277, descriptorIndex := 25, attributes := #[] }, { accessFlags := 25, nameIndex := 280, descriptorIndex := 25, attributes := #[] }, { accessFlags := 25, nameIndex := 282, descriptorIndex := 25, attributes := #[] }, { accessFlags := 25, nameIndex := 284, descriptorIndex := 25, attributes := #[] }, { accessFlags := 25, nameIndex := 286, descriptorIndex := 25, attributes := #[] }, { accessFlags := 25, nameIndex := 288, descriptorIndex := 25, attributes := #[] }, { accessFlags := 25, nameIndex := 290, descriptorIndex := 25, attributes := #[] }, { accessFlags := 25, nameIndex := 292, descriptorIndex := 25, attributes := #[] }, { accessFlags := 26, nameIndex := 108, descriptorIndex := 109, attributes := #[] }, { accessFlags := 25, nameIndex := 294, descriptorIndex := 25, attributes := #[] }])
  fields := #[{ name := "U", type := (.object "jdk/internal/misc/Unsafe"), accessFlags := 24, slot := 0, constantValue := 0 }, { name := "BIG_ENDIAN", type := .boolean, accessFlags := 26, slot := 1, constantValue := 0 }, { name := "LOG2_ARRAY_BOOLEAN_INDEX_SCALE", type := .int, accessFlags := 25, slot := 2, constantValue := 0 }, { name := "LOG2_ARRAY_BYTE_INDEX_SCALE", type := .int, accessFlags := 25, slot := 3, constantValue := 0 }, { name := "LOG2_ARRAY_CHAR_INDEX_SCALE", type := .int, accessFlags := 25, slot := 4, constantValue := 0 }, { name := "LOG2_ARRAY_SHORT_INDEX_SCALE", type := .int, accessFlags := 25, slot := 5, constantValue := 0 }, { name := "LOG2_ARRAY_INT_INDEX_SCALE", type := .int, accessFlags := 25, slot := 6, constantValue := 0 }, { name := "LOG2_ARRAY_LONG_INDEX_SCALE", type := .int, accessFlags := 25, slot := 7, constantValue := 0 }, { name := "LOG2_ARRAY_FLOAT_INDEX_SCALE", type := .int, accessFlags := 25, slot := 8, constantValue := 0 }, { name := "LOG2_ARRAY_DOUBLE_INDEX_SCALE", type := .int, accessFlags := 25, slot := 9, constantValue := 0 }, { name := "LOG2_BYTE_BIT_SIZE", type := .int, accessFlags := 26, slot := 10, constantValue := 0 }, { name := "T_BOOLEAN", type := .int, accessFlags := 25, slot := 11, constantValue := 0 }, { name := "T_CHAR", type := .int, accessFlags := 25, slot := 12, constantValue := 0 }, { name := "T_FLOAT", type := .int, accessFlags := 25, slot := 13, constantValue := 0 }, { name := "T_DOUBLE", type := .int, accessFlags := 25, slot := 14, constantValue := 0 }, { name := "T_BYTE", type := .int, accessFlags := 25, slot := 15, constantValue := 0 }, { name := "T_SHORT", type := .int, accessFlags := 25, slot := 16, constantValue := 0 }, { name := "T_INT", type := .int, accessFlags := 25, slot := 17, constantValue := 0 }, { name := "T_LONG", type := .int, accessFlags := 25, slot := 18, constantValue := 0 }, { name := "JLA", type := (.object "jdk/internal/access/JavaLangAccess"), accessFlags := 26, slot := 19, constantValue := 0 }, { name := "SOFT_MAX_ARRAY_LENGTH", type := .int, accessFlags := 25, slot := 20, constantValue := 0 }]
  methods := #[k12m0]
  instanceTypes := #[]
  staticTypes := #[(.object "jdk/internal/misc/Unsafe"), .boolean, .int, .int, .int, .int, .int, .int, .int, .int, .int, .int, .int, .int, .int, .int, .int, .int, .int, (.object "jdk/internal/access/JavaLangAccess"), .int]
  resolved := Array.replicate 378 none
  statics := none }

def pool13 : Array CpInfo := pool [(1, u "java/lang/Cloneable"), (0, .class_ 1), (0, u "java/lang/Object"), (0, .class_ 3)] 3

/-- java/lang/Cloneable -/
def k13 : Class := { plain "java/lang/Cloneable" (some 0) with
  accessFlags := 1537
  interfaces := #[]
  cf := some (fileOf pool13 2 #[] #[] 1537 4 #[] #[])
  fields := #[]
  methods := #[]
  instanceTypes := #[]
  staticTypes := #[]
  resolved := Array.replicate 8 none
  statics := none }

/-- the primitive byte -/
def k14 : Class := { plain "byte" none with kind := .primitive 'B', accessFlags := 0x411 }
/-- [B -/
def k15 : Class := { plain "[B" (some 0) with kind := .array 14 .byte, interfaces := #[13, 4], accessFlags := 1041 }

/-- the primitive int -/
def k16 : Class := { plain "int" none with kind := .primitive 'I', accessFlags := 0x411 }
/-- [I -/
def k17 : Class := { plain "[I" (some 0) with kind := .array 16 .int, interfaces := #[13, 4], accessFlags := 1041 }

def heap : Heap := #[{ cls := 6, slots := #[.ref 13, .ref 14, .ref 15, .ref 16, .ref 17, .null], vm := .statics 6 },
  { cls := 9, slots := #[.long 0, .int 1, .null, .int 0, .null, .int 0, .int 0], vm := .statics 9 },
  { cls := 11, slots := #[.null, .null, .null], vm := .statics 11 },
  { cls := 15, slots := #[.int 61], vm := .none },
  { cls := 15, slots := #[.int 60], vm := .none },
  { cls := 15, slots := #[.int 60, .int 61], vm := .none },
  { cls := 15, slots := #[.int 62], vm := .none },
  { cls := 15, slots := #[.int 62, .int 61], vm := .none },
  { cls := 9, slots := #[.ref 3, .int 0, .int 0, .int 0], vm := .none },
  { cls := 9, slots := #[.ref 4, .int 0, .int 0, .int 0], vm := .none },
  { cls := 9, slots := #[.ref 5, .int 0, .int 0, .int 0], vm := .none },
  { cls := 9, slots := #[.ref 6, .int 0, .int 0, .int 0], vm := .none },
  { cls := 9, slots := #[.ref 7, .int 0, .int 0, .int 0], vm := .none },
  { cls := 6, slots := #[.null, .int 0, .int 0, .ref 8], vm := .none },
  { cls := 6, slots := #[.null, .int 1, .int 0, .ref 9], vm := .none },
  { cls := 6, slots := #[.null, .int 2, .int 0, .ref 10], vm := .none },
  { cls := 6, slots := #[.null, .int 3, .int 0, .ref 11], vm := .none },
  { cls := 6, slots := #[.null, .int 4, .int 0, .ref 12], vm := .none }]
def classes : Array Class := #[k0, k1, k2, k3, k4, k5, k6, k7, k8, k9, k10, k11, k12, k13, k14, k15, k16, k17]
def interned : List (Array UInt16 × Addr) := []
def slotsUsed : Nat := 63
def theMethod : MethodId := ⟨1, 2⟩
def args0 : Array Value := #[.int 5]
def aboutOver (below : List Frame) : State where
  vm := { classes := classes, interned := interned.toArray }
  heap := heap
  slotsUsed := slotsUsed
  threads := #[{ frames := .invoking theMethod args0 :: below }]
def below0 : List Frame := [.native { method := ⟨0, 0⟩, args := #[] }]
def about1 : State := aboutOver below0
def p0 : Program := .bare "" "" ""
def e0 : Env := launch0.env 0 0 0
theorem w_frames : about1.frames = Frame.invoking theMethod args0 :: below0 := rfl
set_option maxRecDepth 65536 in
theorem w_args : argsFit about1.vm theMethod args0 = true := by decide +kernel
set_option maxRecDepth 65536 in
theorem w_heap : heapFits about1 = true := by decide +kernel
set_option maxRecDepth 65536 in
theorem w_runnable : about1.curStatus? = some .runnable := by decide +kernel
set_option maxRecDepth 65536 in
theorem w_alone : about1.alone = true := by decide +kernel
set_option maxRecDepth 65536 in
theorem w_named : about1.methodNamed? x = some theMethod := by decide +kernel
set_option maxRecDepth 65536 in
theorem w_hears : about1.hears theMethod below0 = true := by decide +kernel
set_option maxRecDepth 65536 in
theorem w_ripe : about1.ripe theMethod args0 below0 = true := by decide +kernel
theorem w_running : about1.status = .running := rfl
set_option maxRecDepth 65536 in
theorem w_room : about1.hasRoom e0.platform room_1 = true :=
  launch0.hasRoom_least _ room_1 (by decide +kernel) (by decide +kernel) (by decide +kernel) (by decide +kernel) (by decide +kernel) (by decide +kernel)
theorem allAtoms_all (ts : List Jvm.Cond) (a : Array Jvm.Value) (st : Jvm.State) : (allAtoms ts).before a st = ts.all (fun c => c.before a st) := by
  induction ts with
  | nil => rfl
  | cons c t ih =>
    show (Jvm.Cond.and c (allAtoms t)).before a st = _
    rw [Jvm.Cond.before_and, ih, List.all_cons]
def words1 : List Jvm.Cond := Jvm.Cond.code x code maxLocals ret :: tables_1
/-- a 'code' word, met by the world's own term for the bytes: nothing is compared byte by byte -/
theorem code_word {y : MethodName} {bytes : ByteArray} {mx : Nat} {rt : Option FieldType} {a : Array Value} {s : State} {m : MethodId} {meth : Method} {c : Code} (h1 : s.methodNamed? y = some m) (h2 : s.vm.method? m = some meth) (h3 : meth.code = some c) (h4 : c.code = bytes)
    (h5 : (c.maxLocals == mx && c.exceptionTable.isEmpty && decide (c.maxStack ≤ mostOperands) && decide (meth.sig.returnType = rt) && !meth.locks && decide (parseMethodDescriptor y.desc = some meth.sig)) = true) : (Jvm.Cond.code y bytes mx rt).before a s = true := by
  simp only [Bool.and_eq_true, beq_iff_eq, Bool.not_eq_true', decide_eq_true_eq] at h5
  obtain ⟨⟨⟨⟨⟨g1, g2⟩, g3⟩, g4⟩, g5⟩, g6⟩ := h5
  simp [Cond.before, Cond.holds, Cond.value, h1, h2, h3, h4, g1, g2, g3, g4, g5, g6]
def isCode : Jvm.Cond → Bool
  | .code _ _ _ _ => true
  | _ => false
theorem all_split {L : List Jvm.Cond} {P : Jvm.Cond → Bool} (h1 : L.all (fun c => isCode c || P c) = true) (h2 : ∀ c ∈ L.filter isCode, P c = true) : L.all P = true := by
  refine List.all_eq_true.mpr fun c hc => ?_
  have h := List.all_eq_true.mp h1 c hc
  rcases Bool.eq_false_or_eq_true (isCode c) with hi | hi
  · exact h2 c (List.mem_filter.mpr ⟨hc, hi⟩)
  · simpa [hi] using h
set_option maxRecDepth 65536 in
theorem w_c0 : (Jvm.Cond.code x code maxLocals ret).before args0 about1 = true := code_word (m := ⟨1, 2⟩) (meth := k1m2) (c := k1c2) (by decide +kernel) rfl rfl rfl (by decide +kernel)
set_option maxRecDepth 65536 in
theorem w_c1 : (Jvm.Cond.code ({ cls := "com/example/query_to_table/querytotable/sql/ComparisonIsLowerBoundPinLaw", name := "pick", desc := "(I)Lcom/example/query_to_table/querytotable/sql/Comparison;" } : Jvm.MethodName) method_2_code (1 : Nat) (Option.some (Jvm.ClassFile.FieldType.object "com/example/query_to_table/querytotable/sql/Comparison"))).before args0 about1 = true := code_word (m := ⟨1, 1⟩) (meth := k1m1) (c := k1c1) (by decide +kernel) rfl rfl rfl (by decide +kernel)
set_option maxRecDepth 65536 in
theorem w_c2 : (Jvm.Cond.code ({ cls := "com/example/query_to_table/querytotable/sql/Comparison", name := "isLowerBound", desc := "()Z" } : Jvm.MethodName) prog_10_method_5_code (1 : Nat) (Option.some Jvm.ClassFile.FieldType.boolean)).before args0 about1 = true := code_word (m := ⟨6, 1⟩) (meth := k6m1) (c := k6c1) (by decide +kernel) rfl rfl rfl (by decide +kernel)
set_option maxRecDepth 65536 in
theorem w_c3 : (Jvm.Cond.code ({ cls := "com/example/query_to_table/querytotable/sql/Comparison", name := "symbol", desc := "()Ljava/lang/String;" } : Jvm.MethodName) prog_10_method_4_code (1 : Nat) (Option.some (Jvm.ClassFile.FieldType.object "java/lang/String"))).before args0 about1 = true := code_word (m := ⟨6, 0⟩) (meth := k6m0) (c := k6c0) (by decide +kernel) rfl rfl rfl (by decide +kernel)
set_option maxRecDepth 65536 in
theorem w_c4 : (Jvm.Cond.code ({ cls := "java/lang/String", name := "length", desc := "()I" } : Jvm.MethodName) jdk_42_method_54_code (1 : Nat) (Option.some Jvm.ClassFile.FieldType.int)).before args0 about1 = true := code_word (m := ⟨9, 1⟩) (meth := k9m1) (c := k9c1) (by decide +kernel) rfl rfl rfl (by decide +kernel)
set_option maxRecDepth 65536 in
theorem w_c5 : (Jvm.Cond.code ({ cls := "java/lang/String", name := "coder", desc := "()B" } : Jvm.MethodName) jdk_42_method_152_code (1 : Nat) (Option.some Jvm.ClassFile.FieldType.byte)).before args0 about1 = true := code_word (m := ⟨9, 3⟩) (meth := k9m3) (c := k9c3) (by decide +kernel) rfl rfl rfl (by decide +kernel)
set_option maxRecDepth 65536 in
theorem w_c6 : (Jvm.Cond.code ({ cls := "java/lang/String", name := "charAt", desc := "(I)C" } : Jvm.MethodName) jdk_42_method_56_code (2 : Nat) (Option.some Jvm.ClassFile.FieldType.char)).before args0 about1 = true := code_word (m := ⟨9, 2⟩) (meth := k9m2) (c := k9c2) (by decide +kernel) rfl rfl rfl (by decide +kernel)
set_option maxRecDepth 65536 in
theorem w_c7 : (Jvm.Cond.code ({ cls := "java/lang/String", name := "isLatin1", desc := "()Z" } : Jvm.MethodName) jdk_42_method_154_code (1 : Nat) (Option.some Jvm.ClassFile.FieldType.boolean)).before args0 about1 = true := code_word (m := ⟨9, 4⟩) (meth := k9m4) (c := k9c4) (by decide +kernel) rfl rfl rfl (by decide +kernel)
set_option maxRecDepth 65536 in
theorem w_c8 : (Jvm.Cond.code ({ cls := "java/lang/StringLatin1", name := "charAt", desc := "([BI)C" } : Jvm.MethodName) jdk_43_method_2_code (2 : Nat) (Option.some Jvm.ClassFile.FieldType.char)).before args0 about1 = true := code_word (m := ⟨10, 1⟩) (meth := k10m1) (c := k10c1) (by decide +kernel) rfl rfl rfl (by decide +kernel)
set_option maxRecDepth 65536 in
theorem w_c9 : (Jvm.Cond.code ({ cls := "java/lang/String", name := "checkIndex", desc := "(II)V" } : Jvm.MethodName) jdk_42_method_155_code (2 : Nat) (Option.none : Option Jvm.ClassFile.FieldType)).before args0 about1 = true := code_word (m := ⟨9, 5⟩) (meth := k9m5) (c := k9c5) (by decide +kernel) rfl rfl rfl (by decide +kernel)
set_option maxRecDepth 65536 in
theorem w_c10 : (Jvm.Cond.code ({ cls := "jdk/internal/util/Preconditions", name := "checkIndex", desc := "(IILjava/util/function/BiFunction;)I" } : Jvm.MethodName) jdk_41_method_11_code (3 : Nat) (Option.some Jvm.ClassFile.FieldType.int)).before args0 about1 = true := code_word (m := ⟨11, 1⟩) (meth := k11m1) (c := k11c1) (by decide +kernel) rfl rfl rfl (by decide +kernel)
def codes1 : List Jvm.Cond := [Jvm.Cond.code x code maxLocals ret, Jvm.Cond.code ({ cls := "com/example/query_to_table/querytotable/sql/ComparisonIsLowerBoundPinLaw", name := "pick", desc := "(I)Lcom/example/query_to_table/querytotable/sql/Comparison;" } : Jvm.MethodName) method_2_code (1 : Nat) (Option.some (Jvm.ClassFile.FieldType.object "com/example/query_to_table/querytotable/sql/Comparison")), Jvm.Cond.code ({ cls := "com/example/query_to_table/querytotable/sql/Comparison", name := "isLowerBound", desc := "()Z" } : Jvm.MethodName) prog_10_method_5_code (1 : Nat) (Option.some Jvm.ClassFile.FieldType.boolean), Jvm.Cond.code ({ cls := "com/example/query_to_table/querytotable/sql/Comparison", name := "symbol", desc := "()Ljava/lang/String;" } : Jvm.MethodName) prog_10_method_4_code (1 : Nat) (Option.some (Jvm.ClassFile.FieldType.object "java/lang/String")), Jvm.Cond.code ({ cls := "java/lang/String", name := "length", desc := "()I" } : Jvm.MethodName) jdk_42_method_54_code (1 : Nat) (Option.some Jvm.ClassFile.FieldType.int), Jvm.Cond.code ({ cls := "java/lang/String", name := "coder", desc := "()B" } : Jvm.MethodName) jdk_42_method_152_code (1 : Nat) (Option.some Jvm.ClassFile.FieldType.byte), Jvm.Cond.code ({ cls := "java/lang/String", name := "charAt", desc := "(I)C" } : Jvm.MethodName) jdk_42_method_56_code (2 : Nat) (Option.some Jvm.ClassFile.FieldType.char), Jvm.Cond.code ({ cls := "java/lang/String", name := "isLatin1", desc := "()Z" } : Jvm.MethodName) jdk_42_method_154_code (1 : Nat) (Option.some Jvm.ClassFile.FieldType.boolean), Jvm.Cond.code ({ cls := "java/lang/StringLatin1", name := "charAt", desc := "([BI)C" } : Jvm.MethodName) jdk_43_method_2_code (2 : Nat) (Option.some Jvm.ClassFile.FieldType.char), Jvm.Cond.code ({ cls := "java/lang/String", name := "checkIndex", desc := "(II)V" } : Jvm.MethodName) jdk_42_method_155_code (2 : Nat) (Option.none : Option Jvm.ClassFile.FieldType), Jvm.Cond.code ({ cls := "jdk/internal/util/Preconditions", name := "checkIndex", desc := "(IILjava/util/function/BiFunction;)I" } : Jvm.MethodName) jdk_41_method_11_code (3 : Nat) (Option.some Jvm.ClassFile.FieldType.int)]
set_option maxRecDepth 65536 in
theorem codes_eq : words1.filter isCode = codes1 := rfl
theorem w_codes : ∀ c ∈ words1.filter isCode, c.before args0 about1 = true := by
  rw [codes_eq]
  intro c hc
  simp only [codes1, List.mem_cons, List.not_mem_nil, or_false] at hc
  rcases hc with rfl | rfl | rfl | rfl | rfl | rfl | rfl | rfl | rfl | rfl | rfl
  · exact w_c0
  · exact w_c1
  · exact w_c2
  · exact w_c3
  · exact w_c4
  · exact w_c5
  · exact w_c6
  · exact w_c7
  · exact w_c8
  · exact w_c9
  · exact w_c10
set_option maxRecDepth 65536 in
theorem w_t1 : (words1.take 24).all (fun c => isCode c || c.before args0 about1) = true := by decide +kernel
set_option maxRecDepth 65536 in
theorem w_t2 : ((words1.drop 24).take 24).all (fun c => isCode c || c.before args0 about1) = true := by decide +kernel
set_option maxRecDepth 65536 in
theorem w_t3 : ((words1.drop 24).drop 24).all (fun c => isCode c || c.before args0 about1) = true := by decide +kernel
theorem w_tables : (allAtoms (Jvm.Cond.code x code maxLocals ret :: tables_1)).before args0 about1 = true := by
  rw [allAtoms_all]
  show words1.all (fun c => c.before args0 about1) = true
  refine all_split ?_ w_codes
  rw [← List.take_append_drop 24 words1, List.all_append, w_t1, ← List.take_append_drop 24 (words1.drop 24), List.all_append, w_t2, w_t3]
  rfl
set_option maxRecDepth 65536 in
theorem w_rest : rest_1_c.before args0 about1 = true := by decide +kernel
set_option maxRecDepth 65536 in
theorem w_case : (Jvm.Cond.and given_1 narrow_1).before args0 about1 = true := by decide +kernel
theorem w_applies : (headSpec (Jvm.Cond.code x code maxLocals ret :: tables_1) room_1).applies x e0.platform about1 = true :=
  (Spec.applies_iff w_frames).mpr ⟨w_running, w_runnable, w_alone, w_named, w_hears, w_ripe, w_room, w_tables⟩
theorem atStart : AtStart classFile x code maxLocals ret World_1 tables_1 room_1 Calls_1 rest_1 Pre_1 launch0 p0 e0 about1 theMethod args0 below0 :=
  ⟨lists_1, trivial, launch0.admits_env _ _ _, launch0.least_env, fairChoices_fair.cas, fairChoices_fair.clock, w_frames, w_args, w_heap, w_applies, trivial, w_rest, w_case⟩
end start1
theorem witness_1 : WitnessClaimed_1 := ⟨start1.p0, start1.e0, start1.about1, start1.theMethod, start1.args0, start1.below0, start1.atStart⟩
end Jvm.Pilot.@@N@@
