import JvmDerived
import JvmDerived.Pilot.@@N@@Statement
import JvmDerived.Pilot.@@N@@Code
set_option linter.unusedVariables false
set_option linter.unusedSimpArgs false
namespace Jvm.RoadKit
open Sem ClassFile Op Lib Jvm.Stand Jvm.Free Jvm.LawKit
section New
variable {p : Program} {l : Launch} {e : Env} {R : Room} {s : State} {m : MethodId} {args : Array Value} {below : List Frame} {meth : Method} {c : Code} {T : State} {locs : List Loc} {cells slots : Nat}
theorem retI (X : Stand p l e R s m args below meth c T locs cells slots) (hx : p.tables.exec = Jvm.exec) {pc : Nat} {Ls : Array Slot} {z : Int32} {rest : List Value} (hret : meth.sig.returnType = some .int) (hd : decode c.code pc = .ok (.ireturn, 1)) {fs : List Frame}
    (hl : ∀ (f : JFrame) (acts : List Action), f.method = m → f.locked = none → f.entered = [] → (doReturn e (T.setTop f) acts (some (.int z))).1 = T.setFrames fs) : Steps p.tables e below (T.setTop (mkF m pc Ls (.int z :: rest))) (T.setFrames fs) := by
  have hm' : T.vm.method? m = some meth := X.method'
  have hn : narrow .int (.int z) = .int z := rfl
  show Steps p.tables e below (T.setTop { method := m, pc := pc, locals := Ls, stack := _ :: rest, locked := none }) _
  jvm_step X.here [X.here.top, hx, hd, hm', hret, hn]
  first | (intro acts; rw [hl _ acts rfl rfl rfl]) | rw [hl _ _ rfl rfl rfl]
  exact Steps.refl _
end New
end Jvm.RoadKit
namespace Jvm.Pilot.@@N@@
open Jvm Jvm.ClassFile Sem Op Lib Jvm.Free Jvm.Stand Jvm.LawKit Jvm.RoadKit Bundle Jvm.Pilot.@@N@@.Jvm.D
def Wp (p : Program) (e : Env) (below : List Frame) (G : Outcome → State → Prop) (U : State) : Prop := ∃ s₂ o, Steps p.tables e below U s₂ ∧ s₂.status = .running ∧ Ended s₂ below o ∧ G o s₂
theorem Wp.back {p : Program} {e : Env} {below : List Frame} {G : Outcome → State → Prop} {U U' : State} (k : ∀ t, Steps p.tables e below U' t → Steps p.tables e below U t) (h : Wp p e below G U') : Wp p e below G U := by
  obtain ⟨s₂, o, h1, h2⟩ := h
  exact ⟨s₂, o, k _ h1, h2⟩
theorem Wp.done {p : Program} {e : Env} {below : List Frame} {G : Outcome → State → Prop} {U t : State} {o : Outcome} (h1 : Steps p.tables e below U t) (h2 : t.status = .running) (h3 : Ended t below o) (h4 : G o t) : Wp p e below G U := ⟨t, o, h1, h2, h3, h4⟩
/-- what a body leaves that writes nothing -/
def QL (n0 : Nat) (v : Option Value) (h : Heap) (L : List Loc) : Prop := v = some (.int 1) ∧ Fr n0 L
def QP (r : Option Value) (h0 : Heap) (n0 : Nat) (v : Option Value) (h : Heap) (L : List Loc) : Prop := v = r ∧ Fr n0 L ∧ h = h0
theorem own_irrefl (x : Int32) : ¬ x < x := by rw [Int32.lt_iff_toInt_lt]; omega
theorem Sta_keep0 {Z : State} {h h' : Heap} {C n d : String} {v : Value} (F : Sta Z h C n d v) (K : Keep h h' []) : Sta Z h' C n d v := by
  obtain ⟨cf, i, k, f, st, cell, h1, h2, h3, h4, h5, r⟩ := F
  exact ⟨cf, i, k, f, st, cell, h1, h2, h3, h4, K.2.1 _ _ h5 nin0, r⟩
def Q_pk0 (Z : State)  (wo : Addr) (h0 : Heap) (n0 : Nat) (v : Option Value) (h : Heap) (L : List Loc) : Prop := v = some (.ref wo) ∧ Fr n0 L ∧ Keep h0 h []
theorem i0d1_0 : decode method_2_code 0 = .ok (.iload_n 0, 1) := by decide +kernel
theorem i0d1_1 : decode method_2_code 1 = .ok (.ifCond .ne 7, 3) := by decide +kernel
theorem i0d1_4 : decode method_2_code 4 = .ok (.getstatic 7, 3) := by decide +kernel
theorem i0d1_7 : decode method_2_code 7 = .ok (.areturn, 1) := by decide +kernel
theorem i0pn1 : plainName "com/example/opaq/opaq/EncryptionAlgorithmCheckKeyPinLaw" = true := by first | (simp [plainName, overriddenIn]; done) | decide +kernel
theorem i0ef1 (m : MethodId) (x0 : Int32) : entryFrame m #[(.int x0)] 1 = mkF m 0 #[.val (.int x0)] [] := by first | (simp [entryFrame, mkF, argsToLocals, Value.category]; done) | rfl
set_option maxRecDepth 65536 in
set_option maxHeartbeats 40000000 in
theorem rm_pk0 (l : Launch) (Z : State) (a0 : Array Value) (hw : ∀ d ∈ tables_1, d.before a0 Z = true) (ws : List Jvm.Cond)  (wo : Addr) (h0 : Heap) (n0 : Nat) (Z0 : n0 ≤ h0.size) (H0 : Sta Z h0 "com/example/opaq/opaq/EncryptionAlgorithm" "TRIPLEDES_CBC" "Lcom/example/opaq/opaq/EncryptionAlgorithm;" (.ref wo)) :
    MetFree l (⟨"com/example/opaq/opaq/EncryptionAlgorithmCheckKeyPinLaw", "pick", "(I)Lcom/example/opaq/opaq/EncryptionAlgorithm;"⟩ : MethodName) (head1 (Jvm.Cond.code (⟨"com/example/opaq/opaq/EncryptionAlgorithmCheckKeyPinLaw", "pick", "(I)Lcom/example/opaq/opaq/EncryptionAlgorithm;"⟩ : MethodName) method_2_code 1 (some (.object "com/example/opaq/opaq/EncryptionAlgorithm")) :: ws) ({ frames := 0, cells := 0, slots := 0, locals := 0 } : Room)) (fun a U => a = #[(.int (0 : Int32))] ∧ Z.Warmed39 U.vm ∧ U.heap = h0) (fun _ _ _ _ _ => True) (fun _ U o U' => ∃ v L, o = .returned v ∧ Q_pk0 Z wo h0 n0 v U'.heap L ∧ FrameEnd U o U' L ({ frames := 0, cells := 0, slots := 0, locals := 0 } : Room).cells ({ frames := 0, cells := 0, slots := 0, locals := 0 } : Room).slots) := by
  refine MetFree.of_bodySF (plainFor_of_name i0pn1) hisR ?_
  intro p e s m args below meth c s₁ Bd hml0 hP hK
  obtain ⟨rfl, hZ, hh⟩ := hP
  have hx := Bd.exec
  have hby := Bd.bytes
  have hret := Bd.returns
  have hlk := Bd.notSynchronized
  have hml : c.maxLocals = 1 := hml0
  have hown : s.vm.findClass "com/example/opaq/opaq/EncryptionAlgorithmCheckKeyPinLaw" = some m.cls := findClass_of_methodNamed Bd.named
  have hnm := (name_of_methodNamed Bd.named Bd.method).1
  have X0 : Stand p l e ({ frames := 0, cells := 0, slots := 0, locals := 0 } : Room) s m #[(.int (0 : Int32))] below meth c s₁ [] 0 0 := Stand.of_body Bd
  have e0 : s₁.heap = h0 := by rw [← hh, Bd.state]; rfl
  have N0 := Fr.nil n0
  show Wp p e below (fun o s₂ => ∃ v L, o = .returned v ∧ Q_pk0 Z wo h0 n0 v s₂.heap L ∧ FrameEnd s o s₂ L ({ frames := 0, cells := 0, slots := 0, locals := 0 } : Room).cells ({ frames := 0, cells := 0, slots := 0, locals := 0 } : Room).slots) _
  refine Wp.back (U' := (s₁.setTop (mkF m 0 #[.val (.int (0 : Int32))] []))) (fun t k => castTop (i0ef1 m (0 : Int32)) k) ?_
  refine Wp.back (U' := (s₁.setTop (mkF m 4 #[.val (.int (0 : Int32))] []))) (fun t k => XS.iloadN X0.here hx rfl (hb hby i0d1_0) rfl (XS.ifNo X0.here hx rfl (hb hby i0d1_1) rfl ((if0 _ _).trans (teq (by decide)).2) k)) ?_
  obtain ⟨T1, X1, e1, st1⟩ := getS2 X0 hx hZ hown (host := "") (Or.inl (hw _ (List.mem_of_getElem? (i := 5) rfl))) Via.refl e0 H0 (g := (mkF m 4 #[.val (.int (0 : Int32))] [])) rfl (hb hby i0d1_4)
  refine Wp.back (U' := (T1.setTop (mkF m 7 #[.val (.int (0 : Int32))] [(.ref wo)]))) st1 ?_
  obtain ⟨fs, hr, hrun, hended, hW, hsame⟩ := X1.leave (v := (some (.ref wo))) (fun h => by rw [hret] at h; cases h)
  refine Wp.done (retOut X1 hx hret rfl (Or.inr (Or.inr (Or.inr (Or.inr ⟨rfl, rfl, rfl⟩)))) (hb hby i0d1_7) hr) hrun hended ⟨_, _, rfl, ?_, ⟨_, rfl⟩, hW, hsame.mono (by decide) (by decide)⟩
  show Q_pk0 Z wo h0 n0 _ T1.heap _
  rw [e1]
  exact ⟨rfl, N0, (Keep.refl h0 [])⟩
def Q_el0 (Z : State)   (h0 : Heap) (n0 : Nat) (v : Option Value) (h : Heap) (L : List Loc) : Prop := v = some (.int (24 : Int32)) ∧ Fr n0 L ∧ Keep h0 h []
theorem i0d2_0 : decode method_3_code 0 = .ok (.iload_n 0, 1) := by decide +kernel
theorem i0d2_1 : decode method_3_code 1 = .ok (.ifCond .eq 9, 3) := by decide +kernel
theorem i0d2_10 : decode method_3_code 10 = .ok (.bipush 24, 2) := by decide +kernel
theorem i0d2_12 : decode method_3_code 12 = .ok (.ireturn, 1) := by decide +kernel
theorem i0pn2 : plainName "com/example/opaq/opaq/EncryptionAlgorithmCheckKeyPinLaw" = true := by first | (simp [plainName, overriddenIn]; done) | decide +kernel
theorem i0ef2 (m : MethodId) (x0 : Int32) : entryFrame m #[(.int x0)] 1 = mkF m 0 #[.val (.int x0)] [] := by first | (simp [entryFrame, mkF, argsToLocals, Value.category]; done) | rfl
set_option maxRecDepth 65536 in
set_option maxHeartbeats 40000000 in
theorem rm_el0 (l : Launch) (Z : State) (a0 : Array Value) (hw : ∀ d ∈ tables_1, d.before a0 Z = true) (ws : List Jvm.Cond)   (h0 : Heap) (n0 : Nat) (Z0 : n0 ≤ h0.size)  :
    MetFree l (⟨"com/example/opaq/opaq/EncryptionAlgorithmCheckKeyPinLaw", "expectedLength", "(I)I"⟩ : MethodName) (head1 (Jvm.Cond.code (⟨"com/example/opaq/opaq/EncryptionAlgorithmCheckKeyPinLaw", "expectedLength", "(I)I"⟩ : MethodName) method_3_code 1 (some .int) :: ws) ({ frames := 0, cells := 0, slots := 0, locals := 0 } : Room)) (fun a U => a = #[(.int (0 : Int32))] ∧ Z.Warmed39 U.vm ∧ U.heap = h0) (fun _ _ _ _ _ => True) (fun _ U o U' => ∃ v L, o = .returned v ∧ Q_el0 Z  h0 n0 v U'.heap L ∧ FrameEnd U o U' L ({ frames := 0, cells := 0, slots := 0, locals := 0 } : Room).cells ({ frames := 0, cells := 0, slots := 0, locals := 0 } : Room).slots) := by
  refine MetFree.of_bodySF (plainFor_of_name i0pn2) hisR ?_
  intro p e s m args below meth c s₁ Bd hml0 hP hK
  obtain ⟨rfl, hZ, hh⟩ := hP
  have hx := Bd.exec
  have hby := Bd.bytes
  have hret := Bd.returns
  have hlk := Bd.notSynchronized
  have hml : c.maxLocals = 1 := hml0
  have hown : s.vm.findClass "com/example/opaq/opaq/EncryptionAlgorithmCheckKeyPinLaw" = some m.cls := findClass_of_methodNamed Bd.named
  have hnm := (name_of_methodNamed Bd.named Bd.method).1
  have X0 : Stand p l e ({ frames := 0, cells := 0, slots := 0, locals := 0 } : Room) s m #[(.int (0 : Int32))] below meth c s₁ [] 0 0 := Stand.of_body Bd
  have e0 : s₁.heap = h0 := by rw [← hh, Bd.state]; rfl
  have N0 := Fr.nil n0
  show Wp p e below (fun o s₂ => ∃ v L, o = .returned v ∧ Q_el0 Z  h0 n0 v s₂.heap L ∧ FrameEnd s o s₂ L ({ frames := 0, cells := 0, slots := 0, locals := 0 } : Room).cells ({ frames := 0, cells := 0, slots := 0, locals := 0 } : Room).slots) _
  refine Wp.back (U' := (s₁.setTop (mkF m 0 #[.val (.int (0 : Int32))] []))) (fun t k => castTop (i0ef2 m (0 : Int32)) k) ?_
  refine Wp.back (U' := (s₁.setTop (mkF m 12 #[.val (.int (0 : Int32))] [(.int (24 : Int32))]))) (fun t k => XS.iloadN X0.here hx rfl (hb hby i0d2_0) rfl (XS.ifYes X0.here hx rfl (pc0 := 1) (pc' := 10) rfl (hb hby i0d2_1) rfl ((if0 _ _).trans (teq (by decide)).1) (by decide) (by decide) (XT.bipushV X0.here hx rfl (24 : Int32) (hb hby i0d2_10) (by decide) k))) ?_
  obtain ⟨fs, hr, hrun, hended, hW, hsame⟩ := X0.leave (v := (some (.int (24 : Int32)))) (fun h => by rw [hret] at h; cases h)
  refine Wp.done (retI X0 hx hret (hb hby i0d2_12) hr) hrun hended ⟨_, _, rfl, ?_, ⟨_, rfl⟩, hW, hsame.mono (by decide) (by decide)⟩
  show Q_el0 Z  h0 n0 _ s₁.heap _
  rw [e0]
  exact ⟨rfl, N0, (Keep.refl h0 [])⟩
def Q_pk1 (Z : State)  (wo : Addr) (h0 : Heap) (n0 : Nat) (v : Option Value) (h : Heap) (L : List Loc) : Prop := v = some (.ref wo) ∧ Fr n0 L ∧ Keep h0 h []
theorem i1d1_0 : decode method_2_code 0 = .ok (.iload_n 0, 1) := by decide +kernel
theorem i1d1_1 : decode method_2_code 1 = .ok (.ifCond .ne 7, 3) := by decide +kernel
theorem i1d1_8 : decode method_2_code 8 = .ok (.iload_n 0, 1) := by decide +kernel
theorem i1d1_9 : decode method_2_code 9 = .ok (.iconst 1, 1) := by decide +kernel
theorem i1d1_10 : decode method_2_code 10 = .ok (.if_icmp .ne 7, 3) := by decide +kernel
theorem i1d1_13 : decode method_2_code 13 = .ok (.getstatic 13, 3) := by decide +kernel
theorem i1d1_16 : decode method_2_code 16 = .ok (.areturn, 1) := by decide +kernel
theorem i1pn1 : plainName "com/example/opaq/opaq/EncryptionAlgorithmCheckKeyPinLaw" = true := by first | (simp [plainName, overriddenIn]; done) | decide +kernel
theorem i1ef1 (m : MethodId) (x0 : Int32) : entryFrame m #[(.int x0)] 1 = mkF m 0 #[.val (.int x0)] [] := by first | (simp [entryFrame, mkF, argsToLocals, Value.category]; done) | rfl
set_option maxRecDepth 65536 in
set_option maxHeartbeats 40000000 in
theorem rm_pk1 (l : Launch) (Z : State) (a0 : Array Value) (hw : ∀ d ∈ tables_1, d.before a0 Z = true) (ws : List Jvm.Cond)  (wo : Addr) (h0 : Heap) (n0 : Nat) (Z0 : n0 ≤ h0.size) (H0 : Sta Z h0 "com/example/opaq/opaq/EncryptionAlgorithm" "AES128_CBC" "Lcom/example/opaq/opaq/EncryptionAlgorithm;" (.ref wo)) :
    MetFree l (⟨"com/example/opaq/opaq/EncryptionAlgorithmCheckKeyPinLaw", "pick", "(I)Lcom/example/opaq/opaq/EncryptionAlgorithm;"⟩ : MethodName) (head1 (Jvm.Cond.code (⟨"com/example/opaq/opaq/EncryptionAlgorithmCheckKeyPinLaw", "pick", "(I)Lcom/example/opaq/opaq/EncryptionAlgorithm;"⟩ : MethodName) method_2_code 1 (some (.object "com/example/opaq/opaq/EncryptionAlgorithm")) :: ws) ({ frames := 0, cells := 0, slots := 0, locals := 0 } : Room)) (fun a U => a = #[(.int (1 : Int32))] ∧ Z.Warmed39 U.vm ∧ U.heap = h0) (fun _ _ _ _ _ => True) (fun _ U o U' => ∃ v L, o = .returned v ∧ Q_pk1 Z wo h0 n0 v U'.heap L ∧ FrameEnd U o U' L ({ frames := 0, cells := 0, slots := 0, locals := 0 } : Room).cells ({ frames := 0, cells := 0, slots := 0, locals := 0 } : Room).slots) := by
  refine MetFree.of_bodySF (plainFor_of_name i1pn1) hisR ?_
  intro p e s m args below meth c s₁ Bd hml0 hP hK
  obtain ⟨rfl, hZ, hh⟩ := hP
  have hx := Bd.exec
  have hby := Bd.bytes
  have hret := Bd.returns
  have hlk := Bd.notSynchronized
  have hml : c.maxLocals = 1 := hml0
  have hown : s.vm.findClass "com/example/opaq/opaq/EncryptionAlgorithmCheckKeyPinLaw" = some m.cls := findClass_of_methodNamed Bd.named
  have hnm := (name_of_methodNamed Bd.named Bd.method).1
  have X0 : Stand p l e ({ frames := 0, cells := 0, slots := 0, locals := 0 } : Room) s m #[(.int (1 : Int32))] below meth c s₁ [] 0 0 := Stand.of_body Bd
  have e0 : s₁.heap = h0 := by rw [← hh, Bd.state]; rfl
  have N0 := Fr.nil n0
  show Wp p e below (fun o s₂ => ∃ v L, o = .returned v ∧ Q_pk1 Z wo h0 n0 v s₂.heap L ∧ FrameEnd s o s₂ L ({ frames := 0, cells := 0, slots := 0, locals := 0 } : Room).cells ({ frames := 0, cells := 0, slots := 0, locals := 0 } : Room).slots) _
  refine Wp.back (U' := (s₁.setTop (mkF m 0 #[.val (.int (1 : Int32))] []))) (fun t k => castTop (i1ef1 m (1 : Int32)) k) ?_
  refine Wp.back (U' := (s₁.setTop (mkF m 13 #[.val (.int (1 : Int32))] []))) (fun t k => XS.iloadN X0.here hx rfl (hb hby i1d1_0) rfl (XS.ifYes X0.here hx rfl (pc0 := 1) (pc' := 8) rfl (hb hby i1d1_1) rfl ((if0 _ _).trans (feq (by decide)).2) (by decide) (by decide) (XS.iloadN X0.here hx rfl (hb hby i1d1_8) rfl (XT.iconstV X0.here hx rfl (1 : Int32) (hb hby i1d1_9) (by decide) (XS.icmpNo X0.here hx rfl (hb hby i1d1_10) rfl (teq (by decide)).2 k))))) ?_
  obtain ⟨T1, X1, e1, st1⟩ := getS2 X0 hx hZ hown (host := "") (Or.inl (hw _ (List.mem_of_getElem? (i := 29) rfl))) Via.refl e0 H0 (g := (mkF m 13 #[.val (.int (1 : Int32))] [])) rfl (hb hby i1d1_13)
  refine Wp.back (U' := (T1.setTop (mkF m 16 #[.val (.int (1 : Int32))] [(.ref wo)]))) st1 ?_
  obtain ⟨fs, hr, hrun, hended, hW, hsame⟩ := X1.leave (v := (some (.ref wo))) (fun h => by rw [hret] at h; cases h)
  refine Wp.done (retOut X1 hx hret rfl (Or.inr (Or.inr (Or.inr (Or.inr ⟨rfl, rfl, rfl⟩)))) (hb hby i1d1_16) hr) hrun hended ⟨_, _, rfl, ?_, ⟨_, rfl⟩, hW, hsame.mono (by decide) (by decide)⟩
  show Q_pk1 Z wo h0 n0 _ T1.heap _
  rw [e1]
  exact ⟨rfl, N0, (Keep.refl h0 [])⟩
def Q_el1 (Z : State)   (h0 : Heap) (n0 : Nat) (v : Option Value) (h : Heap) (L : List Loc) : Prop := v = some (.int (16 : Int32)) ∧ Fr n0 L ∧ Keep h0 h []
theorem i1d2_0 : decode method_3_code 0 = .ok (.iload_n 0, 1) := by decide +kernel
theorem i1d2_1 : decode method_3_code 1 = .ok (.ifCond .eq 9, 3) := by decide +kernel
theorem i1d2_4 : decode method_3_code 4 = .ok (.iload_n 0, 1) := by decide +kernel
theorem i1d2_5 : decode method_3_code 5 = .ok (.bipush 10, 2) := by decide +kernel
theorem i1d2_7 : decode method_3_code 7 = .ok (.if_icmp .ne 6, 3) := by decide +kernel
theorem i1d2_13 : decode method_3_code 13 = .ok (.iload_n 0, 1) := by decide +kernel
theorem i1d2_14 : decode method_3_code 14 = .ok (.iconst 1, 1) := by decide +kernel
theorem i1d2_15 : decode method_3_code 15 = .ok (.if_icmp .eq 14, 3) := by decide +kernel
theorem i1d2_29 : decode method_3_code 29 = .ok (.bipush 16, 2) := by decide +kernel
theorem i1d2_31 : decode method_3_code 31 = .ok (.ireturn, 1) := by decide +kernel
theorem i1pn2 : plainName "com/example/opaq/opaq/EncryptionAlgorithmCheckKeyPinLaw" = true := by first | (simp [plainName, overriddenIn]; done) | decide +kernel
theorem i1ef2 (m : MethodId) (x0 : Int32) : entryFrame m #[(.int x0)] 1 = mkF m 0 #[.val (.int x0)] [] := by first | (simp [entryFrame, mkF, argsToLocals, Value.category]; done) | rfl
set_option maxRecDepth 65536 in
set_option maxHeartbeats 40000000 in
theorem rm_el1 (l : Launch) (Z : State) (a0 : Array Value) (hw : ∀ d ∈ tables_1, d.before a0 Z = true) (ws : List Jvm.Cond)   (h0 : Heap) (n0 : Nat) (Z0 : n0 ≤ h0.size)  :
    MetFree l (⟨"com/example/opaq/opaq/EncryptionAlgorithmCheckKeyPinLaw", "expectedLength", "(I)I"⟩ : MethodName) (head1 (Jvm.Cond.code (⟨"com/example/opaq/opaq/EncryptionAlgorithmCheckKeyPinLaw", "expectedLength", "(I)I"⟩ : MethodName) method_3_code 1 (some .int) :: ws) ({ frames := 0, cells := 0, slots := 0, locals := 0 } : Room)) (fun a U => a = #[(.int (1 : Int32))] ∧ Z.Warmed39 U.vm ∧ U.heap = h0) (fun _ _ _ _ _ => True) (fun _ U o U' => ∃ v L, o = .returned v ∧ Q_el1 Z  h0 n0 v U'.heap L ∧ FrameEnd U o U' L ({ frames := 0, cells := 0, slots := 0, locals := 0 } : Room).cells ({ frames := 0, cells := 0, slots := 0, locals := 0 } : Room).slots) := by
  refine MetFree.of_bodySF (plainFor_of_name i1pn2) hisR ?_
  intro p e s m args below meth c s₁ Bd hml0 hP hK
  obtain ⟨rfl, hZ, hh⟩ := hP
  have hx := Bd.exec
  have hby := Bd.bytes
  have hret := Bd.returns
  have hlk := Bd.notSynchronized
  have hml : c.maxLocals = 1 := hml0
  have hown : s.vm.findClass "com/example/opaq/opaq/EncryptionAlgorithmCheckKeyPinLaw" = some m.cls := findClass_of_methodNamed Bd.named
  have hnm := (name_of_methodNamed Bd.named Bd.method).1
  have X0 : Stand p l e ({ frames := 0, cells := 0, slots := 0, locals := 0 } : Room) s m #[(.int (1 : Int32))] below meth c s₁ [] 0 0 := Stand.of_body Bd
  have e0 : s₁.heap = h0 := by rw [← hh, Bd.state]; rfl
  have N0 := Fr.nil n0
  show Wp p e below (fun o s₂ => ∃ v L, o = .returned v ∧ Q_el1 Z  h0 n0 v s₂.heap L ∧ FrameEnd s o s₂ L ({ frames := 0, cells := 0, slots := 0, locals := 0 } : Room).cells ({ frames := 0, cells := 0, slots := 0, locals := 0 } : Room).slots) _
  refine Wp.back (U' := (s₁.setTop (mkF m 0 #[.val (.int (1 : Int32))] []))) (fun t k => castTop (i1ef2 m (1 : Int32)) k) ?_
  refine Wp.back (U' := (s₁.setTop (mkF m 31 #[.val (.int (1 : Int32))] [(.int (16 : Int32))]))) (fun t k => XS.iloadN X0.here hx rfl (hb hby i1d2_0) rfl (XS.ifNo X0.here hx rfl (hb hby i1d2_1) rfl ((if0 _ _).trans (feq (by decide)).1) (XS.iloadN X0.here hx rfl (hb hby i1d2_4) rfl (XT.bipushV X0.here hx rfl (10 : Int32) (hb hby i1d2_5) (by decide) (XS.icmpYes X0.here hx rfl (pc0 := 7) (pc' := 13) rfl (hb hby i1d2_7) rfl (feq (by decide)).2 (by decide) (by decide) (XS.iloadN X0.here hx rfl (hb hby i1d2_13) rfl (XT.iconstV X0.here hx rfl (1 : Int32) (hb hby i1d2_14) (by decide) (XS.icmpYes X0.here hx rfl (pc0 := 15) (pc' := 29) rfl (hb hby i1d2_15) rfl (teq (by decide)).1 (by decide) (by decide) (XT.bipushV X0.here hx rfl (16 : Int32) (hb hby i1d2_29) (by decide) k))))))))) ?_
  obtain ⟨fs, hr, hrun, hended, hW, hsame⟩ := X0.leave (v := (some (.int (16 : Int32)))) (fun h => by rw [hret] at h; cases h)
  refine Wp.done (retI X0 hx hret (hb hby i1d2_31) hr) hrun hended ⟨_, _, rfl, ?_, ⟨_, rfl⟩, hW, hsame.mono (by decide) (by decide)⟩
  show Q_el1 Z  h0 n0 _ s₁.heap _
  rw [e0]
  exact ⟨rfl, N0, (Keep.refl h0 [])⟩
def Q_pk2 (Z : State)  (wo : Addr) (h0 : Heap) (n0 : Nat) (v : Option Value) (h : Heap) (L : List Loc) : Prop := v = some (.ref wo) ∧ Fr n0 L ∧ Keep h0 h []
theorem i2d1_0 : decode method_2_code 0 = .ok (.iload_n 0, 1) := by decide +kernel
theorem i2d1_1 : decode method_2_code 1 = .ok (.ifCond .ne 7, 3) := by decide +kernel
theorem i2d1_8 : decode method_2_code 8 = .ok (.iload_n 0, 1) := by decide +kernel
theorem i2d1_9 : decode method_2_code 9 = .ok (.iconst 1, 1) := by decide +kernel
theorem i2d1_10 : decode method_2_code 10 = .ok (.if_icmp .ne 7, 3) := by decide +kernel
theorem i2d1_17 : decode method_2_code 17 = .ok (.iload_n 0, 1) := by decide +kernel
theorem i2d1_18 : decode method_2_code 18 = .ok (.iconst 2, 1) := by decide +kernel
theorem i2d1_19 : decode method_2_code 19 = .ok (.if_icmp .ne 7, 3) := by decide +kernel
theorem i2d1_22 : decode method_2_code 22 = .ok (.getstatic 16, 3) := by decide +kernel
theorem i2d1_25 : decode method_2_code 25 = .ok (.areturn, 1) := by decide +kernel
theorem i2pn1 : plainName "com/example/opaq/opaq/EncryptionAlgorithmCheckKeyPinLaw" = true := by first | (simp [plainName, overriddenIn]; done) | decide +kernel
theorem i2ef1 (m : MethodId) (x0 : Int32) : entryFrame m #[(.int x0)] 1 = mkF m 0 #[.val (.int x0)] [] := by first | (simp [entryFrame, mkF, argsToLocals, Value.category]; done) | rfl
set_option maxRecDepth 65536 in
set_option maxHeartbeats 40000000 in
theorem rm_pk2 (l : Launch) (Z : State) (a0 : Array Value) (hw : ∀ d ∈ tables_1, d.before a0 Z = true) (ws : List Jvm.Cond)  (wo : Addr) (h0 : Heap) (n0 : Nat) (Z0 : n0 ≤ h0.size) (H0 : Sta Z h0 "com/example/opaq/opaq/EncryptionAlgorithm" "AES192_CBC" "Lcom/example/opaq/opaq/EncryptionAlgorithm;" (.ref wo)) :
    MetFree l (⟨"com/example/opaq/opaq/EncryptionAlgorithmCheckKeyPinLaw", "pick", "(I)Lcom/example/opaq/opaq/EncryptionAlgorithm;"⟩ : MethodName) (head1 (Jvm.Cond.code (⟨"com/example/opaq/opaq/EncryptionAlgorithmCheckKeyPinLaw", "pick", "(I)Lcom/example/opaq/opaq/EncryptionAlgorithm;"⟩ : MethodName) method_2_code 1 (some (.object "com/example/opaq/opaq/EncryptionAlgorithm")) :: ws) ({ frames := 0, cells := 0, slots := 0, locals := 0 } : Room)) (fun a U => a = #[(.int (2 : Int32))] ∧ Z.Warmed39 U.vm ∧ U.heap = h0) (fun _ _ _ _ _ => True) (fun _ U o U' => ∃ v L, o = .returned v ∧ Q_pk2 Z wo h0 n0 v U'.heap L ∧ FrameEnd U o U' L ({ frames := 0, cells := 0, slots := 0, locals := 0 } : Room).cells ({ frames := 0, cells := 0, slots := 0, locals := 0 } : Room).slots) := by
  refine MetFree.of_bodySF (plainFor_of_name i2pn1) hisR ?_
  intro p e s m args below meth c s₁ Bd hml0 hP hK
  obtain ⟨rfl, hZ, hh⟩ := hP
  have hx := Bd.exec
  have hby := Bd.bytes
  have hret := Bd.returns
  have hlk := Bd.notSynchronized
  have hml : c.maxLocals = 1 := hml0
  have hown : s.vm.findClass "com/example/opaq/opaq/EncryptionAlgorithmCheckKeyPinLaw" = some m.cls := findClass_of_methodNamed Bd.named
  have hnm := (name_of_methodNamed Bd.named Bd.method).1
  have X0 : Stand p l e ({ frames := 0, cells := 0, slots := 0, locals := 0 } : Room) s m #[(.int (2 : Int32))] below meth c s₁ [] 0 0 := Stand.of_body Bd
  have e0 : s₁.heap = h0 := by rw [← hh, Bd.state]; rfl
  have N0 := Fr.nil n0
  show Wp p e below (fun o s₂ => ∃ v L, o = .returned v ∧ Q_pk2 Z wo h0 n0 v s₂.heap L ∧ FrameEnd s o s₂ L ({ frames := 0, cells := 0, slots := 0, locals := 0 } : Room).cells ({ frames := 0, cells := 0, slots := 0, locals := 0 } : Room).slots) _
  refine Wp.back (U' := (s₁.setTop (mkF m 0 #[.val (.int (2 : Int32))] []))) (fun t k => castTop (i2ef1 m (2 : Int32)) k) ?_
  refine Wp.back (U' := (s₁.setTop (mkF m 22 #[.val (.int (2 : Int32))] []))) (fun t k => XS.iloadN X0.here hx rfl (hb hby i2d1_0) rfl (XS.ifYes X0.here hx rfl (pc0 := 1) (pc' := 8) rfl (hb hby i2d1_1) rfl ((if0 _ _).trans (feq (by decide)).2) (by decide) (by decide) (XS.iloadN X0.here hx rfl (hb hby i2d1_8) rfl (XT.iconstV X0.here hx rfl (1 : Int32) (hb hby i2d1_9) (by decide) (XS.icmpYes X0.here hx rfl (pc0 := 10) (pc' := 17) rfl (hb hby i2d1_10) rfl (feq (by decide)).2 (by decide) (by decide) (XS.iloadN X0.here hx rfl (hb hby i2d1_17) rfl (XT.iconstV X0.here hx rfl (2 : Int32) (hb hby i2d1_18) (by decide) (XS.icmpNo X0.here hx rfl (hb hby i2d1_19) rfl (teq (by decide)).2 k)))))))) ?_
  obtain ⟨T1, X1, e1, st1⟩ := getS2 X0 hx hZ hown (host := "") (Or.inl (hw _ (List.mem_of_getElem? (i := 31) rfl))) Via.refl e0 H0 (g := (mkF m 22 #[.val (.int (2 : Int32))] [])) rfl (hb hby i2d1_22)
  refine Wp.back (U' := (T1.setTop (mkF m 25 #[.val (.int (2 : Int32))] [(.ref wo)]))) st1 ?_
  obtain ⟨fs, hr, hrun, hended, hW, hsame⟩ := X1.leave (v := (some (.ref wo))) (fun h => by rw [hret] at h; cases h)
  refine Wp.done (retOut X1 hx hret rfl (Or.inr (Or.inr (Or.inr (Or.inr ⟨rfl, rfl, rfl⟩)))) (hb hby i2d1_25) hr) hrun hended ⟨_, _, rfl, ?_, ⟨_, rfl⟩, hW, hsame.mono (by decide) (by decide)⟩
  show Q_pk2 Z wo h0 n0 _ T1.heap _
  rw [e1]
  exact ⟨rfl, N0, (Keep.refl h0 [])⟩
def Q_el2 (Z : State)   (h0 : Heap) (n0 : Nat) (v : Option Value) (h : Heap) (L : List Loc) : Prop := v = some (.int (24 : Int32)) ∧ Fr n0 L ∧ Keep h0 h []
theorem i2d2_0 : decode method_3_code 0 = .ok (.iload_n 0, 1) := by decide +kernel
theorem i2d2_1 : decode method_3_code 1 = .ok (.ifCond .eq 9, 3) := by decide +kernel
theorem i2d2_4 : decode method_3_code 4 = .ok (.iload_n 0, 1) := by decide +kernel
theorem i2d2_5 : decode method_3_code 5 = .ok (.bipush 10, 2) := by decide +kernel
theorem i2d2_7 : decode method_3_code 7 = .ok (.if_icmp .ne 6, 3) := by decide +kernel
theorem i2d2_13 : decode method_3_code 13 = .ok (.iload_n 0, 1) := by decide +kernel
theorem i2d2_14 : decode method_3_code 14 = .ok (.iconst 1, 1) := by decide +kernel
theorem i2d2_15 : decode method_3_code 15 = .ok (.if_icmp .eq 14, 3) := by decide +kernel
theorem i2d2_18 : decode method_3_code 18 = .ok (.iload_n 0, 1) := by decide +kernel
theorem i2d2_19 : decode method_3_code 19 = .ok (.iconst 4, 1) := by decide +kernel
theorem i2d2_20 : decode method_3_code 20 = .ok (.if_icmp .eq 9, 3) := by decide +kernel
theorem i2d2_23 : decode method_3_code 23 = .ok (.iload_n 0, 1) := by decide +kernel
theorem i2d2_24 : decode method_3_code 24 = .ok (.bipush 7, 2) := by decide +kernel
theorem i2d2_26 : decode method_3_code 26 = .ok (.if_icmp .ne 6, 3) := by decide +kernel
theorem i2d2_32 : decode method_3_code 32 = .ok (.iload_n 0, 1) := by decide +kernel
theorem i2d2_33 : decode method_3_code 33 = .ok (.iconst 2, 1) := by decide +kernel
theorem i2d2_34 : decode method_3_code 34 = .ok (.if_icmp .eq 14, 3) := by decide +kernel
theorem i2d2_48 : decode method_3_code 48 = .ok (.bipush 24, 2) := by decide +kernel
theorem i2d2_50 : decode method_3_code 50 = .ok (.ireturn, 1) := by decide +kernel
theorem i2pn2 : plainName "com/example/opaq/opaq/EncryptionAlgorithmCheckKeyPinLaw" = true := by first | (simp [plainName, overriddenIn]; done) | decide +kernel
theorem i2ef2 (m : MethodId) (x0 : Int32) : entryFrame m #[(.int x0)] 1 = mkF m 0 #[.val (.int x0)] [] := by first | (simp [entryFrame, mkF, argsToLocals, Value.category]; done) | rfl
set_option maxRecDepth 65536 in
set_option maxHeartbeats 40000000 in
theorem rm_el2 (l : Launch) (Z : State) (a0 : Array Value) (hw : ∀ d ∈ tables_1, d.before a0 Z = true) (ws : List Jvm.Cond)   (h0 : Heap) (n0 : Nat) (Z0 : n0 ≤ h0.size)  :
    MetFree l (⟨"com/example/opaq/opaq/EncryptionAlgorithmCheckKeyPinLaw", "expectedLength", "(I)I"⟩ : MethodName) (head1 (Jvm.Cond.code (⟨"com/example/opaq/opaq/EncryptionAlgorithmCheckKeyPinLaw", "expectedLength", "(I)I"⟩ : MethodName) method_3_code 1 (some .int) :: ws) ({ frames := 0, cells := 0, slots := 0, locals := 0 } : Room)) (fun a U => a = #[(.int (2 : Int32))] ∧ Z.Warmed39 U.vm ∧ U.heap = h0) (fun _ _ _ _ _ => True) (fun _ U o U' => ∃ v L, o = .returned v ∧ Q_el2 Z  h0 n0 v U'.heap L ∧ FrameEnd U o U' L ({ frames := 0, cells := 0, slots := 0, locals := 0 } : Room).cells ({ frames := 0, cells := 0, slots := 0, locals := 0 } : Room).slots) := by
  refine MetFree.of_bodySF (plainFor_of_name i2pn2) hisR ?_
  intro p e s m args below meth c s₁ Bd hml0 hP hK
  obtain ⟨rfl, hZ, hh⟩ := hP
  have hx := Bd.exec
  have hby := Bd.bytes
  have hret := Bd.returns
  have hlk := Bd.notSynchronized
  have hml : c.maxLocals = 1 := hml0
  have hown : s.vm.findClass "com/example/opaq/opaq/EncryptionAlgorithmCheckKeyPinLaw" = some m.cls := findClass_of_methodNamed Bd.named
  have hnm := (name_of_methodNamed Bd.named Bd.method).1
  have X0 : Stand p l e ({ frames := 0, cells := 0, slots := 0, locals := 0 } : Room) s m #[(.int (2 : Int32))] below meth c s₁ [] 0 0 := Stand.of_body Bd
  have e0 : s₁.heap = h0 := by rw [← hh, Bd.state]; rfl
  have N0 := Fr.nil n0
  show Wp p e below (fun o s₂ => ∃ v L, o = .returned v ∧ Q_el2 Z  h0 n0 v s₂.heap L ∧ FrameEnd s o s₂ L ({ frames := 0, cells := 0, slots := 0, locals := 0 } : Room).cells ({ frames := 0, cells := 0, slots := 0, locals := 0 } : Room).slots) _
  refine Wp.back (U' := (s₁.setTop (mkF m 0 #[.val (.int (2 : Int32))] []))) (fun t k => castTop (i2ef2 m (2 : Int32)) k) ?_
  refine Wp.back (U' := (s₁.setTop (mkF m 24 #[.val (.int (2 : Int32))] [(.int (2 : Int32))]))) (fun t k => XS.iloadN X0.here hx rfl (hb hby i2d2_0) rfl (XS.ifNo X0.here hx rfl (hb hby i2d2_1) rfl ((if0 _ _).trans (feq (by decide)).1) (XS.iloadN X0.here hx rfl (hb hby i2d2_4) rfl (XT.bipushV X0.here hx rfl (10 : Int32) (hb hby i2d2_5) (by decide) (XS.icmpYes X0.here hx rfl (pc0 := 7) (pc' := 13) rfl (hb hby i2d2_7) rfl (feq (by decide)).2 (by decide) (by decide) (XS.iloadN X0.here hx rfl (hb hby i2d2_13) rfl (XT.iconstV X0.here hx rfl (1 : Int32) (hb hby i2d2_14) (by decide) (XS.icmpNo X0.here hx rfl (hb hby i2d2_15) rfl (feq (by decide)).1 (XS.iloadN X0.here hx rfl (hb hby i2d2_18) rfl (XT.iconstV X0.here hx rfl (4 : Int32) (hb hby i2d2_19) (by decide) (XS.icmpNo X0.here hx rfl (hb hby i2d2_20) rfl (feq (by decide)).1 (XS.iloadN X0.here hx rfl (hb hby i2d2_23) rfl k)))))))))))) ?_
  refine Wp.back (U' := (s₁.setTop (mkF m 50 #[.val (.int (2 : Int32))] [(.int (24 : Int32))]))) (fun t k => XT.bipushV X0.here hx rfl (7 : Int32) (hb hby i2d2_24) (by decide) (XS.icmpYes X0.here hx rfl (pc0 := 26) (pc' := 32) rfl (hb hby i2d2_26) rfl (feq (by decide)).2 (by decide) (by decide) (XS.iloadN X0.here hx rfl (hb hby i2d2_32) rfl (XT.iconstV X0.here hx rfl (2 : Int32) (hb hby i2d2_33) (by decide) (XS.icmpYes X0.here hx rfl (pc0 := 34) (pc' := 48) rfl (hb hby i2d2_34) rfl (teq (by decide)).1 (by decide) (by decide) (XT.bipushV X0.here hx rfl (24 : Int32) (hb hby i2d2_48) (by decide) k)))))) ?_
  obtain ⟨fs, hr, hrun, hended, hW, hsame⟩ := X0.leave (v := (some (.int (24 : Int32)))) (fun h => by rw [hret] at h; cases h)
  refine Wp.done (retI X0 hx hret (hb hby i2d2_50) hr) hrun hended ⟨_, _, rfl, ?_, ⟨_, rfl⟩, hW, hsame.mono (by decide) (by decide)⟩
  show Q_el2 Z  h0 n0 _ s₁.heap _
  rw [e0]
  exact ⟨rfl, N0, (Keep.refl h0 [])⟩
def Q_pk3 (Z : State)  (wo : Addr) (h0 : Heap) (n0 : Nat) (v : Option Value) (h : Heap) (L : List Loc) : Prop := v = some (.ref wo) ∧ Fr n0 L ∧ Keep h0 h []
theorem i3d1_0 : decode method_2_code 0 = .ok (.iload_n 0, 1) := by decide +kernel
theorem i3d1_1 : decode method_2_code 1 = .ok (.ifCond .ne 7, 3) := by decide +kernel
theorem i3d1_8 : decode method_2_code 8 = .ok (.iload_n 0, 1) := by decide +kernel
theorem i3d1_9 : decode method_2_code 9 = .ok (.iconst 1, 1) := by decide +kernel
theorem i3d1_10 : decode method_2_code 10 = .ok (.if_icmp .ne 7, 3) := by decide +kernel
theorem i3d1_17 : decode method_2_code 17 = .ok (.iload_n 0, 1) := by decide +kernel
theorem i3d1_18 : decode method_2_code 18 = .ok (.iconst 2, 1) := by decide +kernel
theorem i3d1_19 : decode method_2_code 19 = .ok (.if_icmp .ne 7, 3) := by decide +kernel
theorem i3d1_26 : decode method_2_code 26 = .ok (.iload_n 0, 1) := by decide +kernel
theorem i3d1_27 : decode method_2_code 27 = .ok (.iconst 3, 1) := by decide +kernel
theorem i3d1_28 : decode method_2_code 28 = .ok (.if_icmp .ne 7, 3) := by decide +kernel
theorem i3d1_31 : decode method_2_code 31 = .ok (.getstatic 19, 3) := by decide +kernel
theorem i3d1_34 : decode method_2_code 34 = .ok (.areturn, 1) := by decide +kernel
theorem i3pn1 : plainName "com/example/opaq/opaq/EncryptionAlgorithmCheckKeyPinLaw" = true := by first | (simp [plainName, overriddenIn]; done) | decide +kernel
theorem i3ef1 (m : MethodId) (x0 : Int32) : entryFrame m #[(.int x0)] 1 = mkF m 0 #[.val (.int x0)] [] := by first | (simp [entryFrame, mkF, argsToLocals, Value.category]; done) | rfl
set_option maxRecDepth 65536 in
set_option maxHeartbeats 40000000 in
theorem rm_pk3 (l : Launch) (Z : State) (a0 : Array Value) (hw : ∀ d ∈ tables_1, d.before a0 Z = true) (ws : List Jvm.Cond)  (wo : Addr) (h0 : Heap) (n0 : Nat) (Z0 : n0 ≤ h0.size) (H0 : Sta Z h0 "com/example/opaq/opaq/EncryptionAlgorithm" "AES256_CBC" "Lcom/example/opaq/opaq/EncryptionAlgorithm;" (.ref wo)) :
    MetFree l (⟨"com/example/opaq/opaq/EncryptionAlgorithmCheckKeyPinLaw", "pick", "(I)Lcom/example/opaq/opaq/EncryptionAlgorithm;"⟩ : MethodName) (head1 (Jvm.Cond.code (⟨"com/example/opaq/opaq/EncryptionAlgorithmCheckKeyPinLaw", "pick", "(I)Lcom/example/opaq/opaq/EncryptionAlgorithm;"⟩ : MethodName) method_2_code 1 (some (.object "com/example/opaq/opaq/EncryptionAlgorithm")) :: ws) ({ frames := 0, cells := 0, slots := 0, locals := 0 } : Room)) (fun a U => a = #[(.int (3 : Int32))] ∧ Z.Warmed39 U.vm ∧ U.heap = h0) (fun _ _ _ _ _ => True) (fun _ U o U' => ∃ v L, o = .returned v ∧ Q_pk3 Z wo h0 n0 v U'.heap L ∧ FrameEnd U o U' L ({ frames := 0, cells := 0, slots := 0, locals := 0 } : Room).cells ({ frames := 0, cells := 0, slots := 0, locals := 0 } : Room).slots) := by
  refine MetFree.of_bodySF (plainFor_of_name i3pn1) hisR ?_
  intro p e s m args below meth c s₁ Bd hml0 hP hK
  obtain ⟨rfl, hZ, hh⟩ := hP
  have hx := Bd.exec
  have hby := Bd.bytes
  have hret := Bd.returns
  have hlk := Bd.notSynchronized
  have hml : c.maxLocals = 1 := hml0
  have hown : s.vm.findClass "com/example/opaq/opaq/EncryptionAlgorithmCheckKeyPinLaw" = some m.cls := findClass_of_methodNamed Bd.named
  have hnm := (name_of_methodNamed Bd.named Bd.method).1
  have X0 : Stand p l e ({ frames := 0, cells := 0, slots := 0, locals := 0 } : Room) s m #[(.int (3 : Int32))] below meth c s₁ [] 0 0 := Stand.of_body Bd
  have e0 : s₁.heap = h0 := by rw [← hh, Bd.state]; rfl
  have N0 := Fr.nil n0
  show Wp p e below (fun o s₂ => ∃ v L, o = .returned v ∧ Q_pk3 Z wo h0 n0 v s₂.heap L ∧ FrameEnd s o s₂ L ({ frames := 0, cells := 0, slots := 0, locals := 0 } : Room).cells ({ frames := 0, cells := 0, slots := 0, locals := 0 } : Room).slots) _
  refine Wp.back (U' := (s₁.setTop (mkF m 0 #[.val (.int (3 : Int32))] []))) (fun t k => castTop (i3ef1 m (3 : Int32)) k) ?_
  refine Wp.back (U' := (s₁.setTop (mkF m 31 #[.val (.int (3 : Int32))] []))) (fun t k => XS.iloadN X0.here hx rfl (hb hby i3d1_0) rfl (XS.ifYes X0.here hx rfl (pc0 := 1) (pc' := 8) rfl (hb hby i3d1_1) rfl ((if0 _ _).trans (feq (by decide)).2) (by decide) (by decide) (XS.iloadN X0.here hx rfl (hb hby i3d1_8) rfl (XT.iconstV X0.here hx rfl (1 : Int32) (hb hby i3d1_9) (by decide) (XS.icmpYes X0.here hx rfl (pc0 := 10) (pc' := 17) rfl (hb hby i3d1_10) rfl (feq (by decide)).2 (by decide) (by decide) (XS.iloadN X0.here hx rfl (hb hby i3d1_17) rfl (XT.iconstV X0.here hx rfl (2 : Int32) (hb hby i3d1_18) (by decide) (XS.icmpYes X0.here hx rfl (pc0 := 19) (pc' := 26) rfl (hb hby i3d1_19) rfl (feq (by decide)).2 (by decide) (by decide) (XS.iloadN X0.here hx rfl (hb hby i3d1_26) rfl (XT.iconstV X0.here hx rfl (3 : Int32) (hb hby i3d1_27) (by decide) (XS.icmpNo X0.here hx rfl (hb hby i3d1_28) rfl (teq (by decide)).2 k))))))))))) ?_
  obtain ⟨T1, X1, e1, st1⟩ := getS2 X0 hx hZ hown (host := "") (Or.inl (hw _ (List.mem_of_getElem? (i := 19) rfl))) Via.refl e0 H0 (g := (mkF m 31 #[.val (.int (3 : Int32))] [])) rfl (hb hby i3d1_31)
  refine Wp.back (U' := (T1.setTop (mkF m 34 #[.val (.int (3 : Int32))] [(.ref wo)]))) st1 ?_
  obtain ⟨fs, hr, hrun, hended, hW, hsame⟩ := X1.leave (v := (some (.ref wo))) (fun h => by rw [hret] at h; cases h)
  refine Wp.done (retOut X1 hx hret rfl (Or.inr (Or.inr (Or.inr (Or.inr ⟨rfl, rfl, rfl⟩)))) (hb hby i3d1_34) hr) hrun hended ⟨_, _, rfl, ?_, ⟨_, rfl⟩, hW, hsame.mono (by decide) (by decide)⟩
  show Q_pk3 Z wo h0 n0 _ T1.heap _
  rw [e1]
  exact ⟨rfl, N0, (Keep.refl h0 [])⟩
def Q_el3 (Z : State)   (h0 : Heap) (n0 : Nat) (v : Option Value) (h : Heap) (L : List Loc) : Prop := v = some (.int (32 : Int32)) ∧ Fr n0 L ∧ Keep h0 h []
theorem i3d2_0 : decode method_3_code 0 = .ok (.iload_n 0, 1) := by decide +kernel
theorem i3d2_1 : decode method_3_code 1 = .ok (.ifCond .eq 9, 3) := by decide +kernel
theorem i3d2_4 : decode method_3_code 4 = .ok (.iload_n 0, 1) := by decide +kernel
theorem i3d2_5 : decode method_3_code 5 = .ok (.bipush 10, 2) := by decide +kernel
theorem i3d2_7 : decode method_3_code 7 = .ok (.if_icmp .ne 6, 3) := by decide +kernel
theorem i3d2_13 : decode method_3_code 13 = .ok (.iload_n 0, 1) := by decide +kernel
theorem i3d2_14 : decode method_3_code 14 = .ok (.iconst 1, 1) := by decide +kernel
theorem i3d2_15 : decode method_3_code 15 = .ok (.if_icmp .eq 14, 3) := by decide +kernel
theorem i3d2_18 : decode method_3_code 18 = .ok (.iload_n 0, 1) := by decide +kernel
theorem i3d2_19 : decode method_3_code 19 = .ok (.iconst 4, 1) := by decide +kernel
theorem i3d2_20 : decode method_3_code 20 = .ok (.if_icmp .eq 9, 3) := by decide +kernel
theorem i3d2_23 : decode method_3_code 23 = .ok (.iload_n 0, 1) := by decide +kernel
theorem i3d2_24 : decode method_3_code 24 = .ok (.bipush 7, 2) := by decide +kernel
theorem i3d2_26 : decode method_3_code 26 = .ok (.if_icmp .ne 6, 3) := by decide +kernel
theorem i3d2_32 : decode method_3_code 32 = .ok (.iload_n 0, 1) := by decide +kernel
theorem i3d2_33 : decode method_3_code 33 = .ok (.iconst 2, 1) := by decide +kernel
theorem i3d2_34 : decode method_3_code 34 = .ok (.if_icmp .eq 14, 3) := by decide +kernel
theorem i3d2_37 : decode method_3_code 37 = .ok (.iload_n 0, 1) := by decide +kernel
theorem i3d2_38 : decode method_3_code 38 = .ok (.iconst 5, 1) := by decide +kernel
theorem i3d2_39 : decode method_3_code 39 = .ok (.if_icmp .eq 9, 3) := by decide +kernel
theorem i3d2_42 : decode method_3_code 42 = .ok (.iload_n 0, 1) := by decide +kernel
theorem i3d2_43 : decode method_3_code 43 = .ok (.bipush 8, 2) := by decide +kernel
theorem i3d2_45 : decode method_3_code 45 = .ok (.if_icmp .ne 6, 3) := by decide +kernel
theorem i3d2_51 : decode method_3_code 51 = .ok (.bipush 32, 2) := by decide +kernel
theorem i3d2_53 : decode method_3_code 53 = .ok (.ireturn, 1) := by decide +kernel
theorem i3pn2 : plainName "com/example/opaq/opaq/EncryptionAlgorithmCheckKeyPinLaw" = true := by first | (simp [plainName, overriddenIn]; done) | decide +kernel
theorem i3ef2 (m : MethodId) (x0 : Int32) : entryFrame m #[(.int x0)] 1 = mkF m 0 #[.val (.int x0)] [] := by first | (simp [entryFrame, mkF, argsToLocals, Value.category]; done) | rfl
set_option maxRecDepth 65536 in
set_option maxHeartbeats 40000000 in
theorem rm_el3 (l : Launch) (Z : State) (a0 : Array Value) (hw : ∀ d ∈ tables_1, d.before a0 Z = true) (ws : List Jvm.Cond)   (h0 : Heap) (n0 : Nat) (Z0 : n0 ≤ h0.size)  :
    MetFree l (⟨"com/example/opaq/opaq/EncryptionAlgorithmCheckKeyPinLaw", "expectedLength", "(I)I"⟩ : MethodName) (head1 (Jvm.Cond.code (⟨"com/example/opaq/opaq/EncryptionAlgorithmCheckKeyPinLaw", "expectedLength", "(I)I"⟩ : MethodName) method_3_code 1 (some .int) :: ws) ({ frames := 0, cells := 0, slots := 0, locals := 0 } : Room)) (fun a U => a = #[(.int (3 : Int32))] ∧ Z.Warmed39 U.vm ∧ U.heap = h0) (fun _ _ _ _ _ => True) (fun _ U o U' => ∃ v L, o = .returned v ∧ Q_el3 Z  h0 n0 v U'.heap L ∧ FrameEnd U o U' L ({ frames := 0, cells := 0, slots := 0, locals := 0 } : Room).cells ({ frames := 0, cells := 0, slots := 0, locals := 0 } : Room).slots) := by
  refine MetFree.of_bodySF (plainFor_of_name i3pn2) hisR ?_
  intro p e s m args below meth c s₁ Bd hml0 hP hK
  obtain ⟨rfl, hZ, hh⟩ := hP
  have hx := Bd.exec
  have hby := Bd.bytes
  have hret := Bd.returns
  have hlk := Bd.notSynchronized
  have hml : c.maxLocals = 1 := hml0
  have hown : s.vm.findClass "com/example/opaq/opaq/EncryptionAlgorithmCheckKeyPinLaw" = some m.cls := findClass_of_methodNamed Bd.named
  have hnm := (name_of_methodNamed Bd.named Bd.method).1
  have X0 : Stand p l e ({ frames := 0, cells := 0, slots := 0, locals := 0 } : Room) s m #[(.int (3 : Int32))] below meth c s₁ [] 0 0 := Stand.of_body Bd
  have e0 : s₁.heap = h0 := by rw [← hh, Bd.state]; rfl
  have N0 := Fr.nil n0
  show Wp p e below (fun o s₂ => ∃ v L, o = .returned v ∧ Q_el3 Z  h0 n0 v s₂.heap L ∧ FrameEnd s o s₂ L ({ frames := 0, cells := 0, slots := 0, locals := 0 } : Room).cells ({ frames := 0, cells := 0, slots := 0, locals := 0 } : Room).slots) _
  refine Wp.back (U' := (s₁.setTop (mkF m 0 #[.val (.int (3 : Int32))] []))) (fun t k => castTop (i3ef2 m (3 : Int32)) k) ?_
  refine Wp.back (U' := (s₁.setTop (mkF m 24 #[.val (.int (3 : Int32))] [(.int (3 : Int32))]))) (fun t k => XS.iloadN X0.here hx rfl (hb hby i3d2_0) rfl (XS.ifNo X0.here hx rfl (hb hby i3d2_1) rfl ((if0 _ _).trans (feq (by decide)).1) (XS.iloadN X0.here hx rfl (hb hby i3d2_4) rfl (XT.bipushV X0.here hx rfl (10 : Int32) (hb hby i3d2_5) (by decide) (XS.icmpYes X0.here hx rfl (pc0 := 7) (pc' := 13) rfl (hb hby i3d2_7) rfl (feq (by decide)).2 (by decide) (by decide) (XS.iloadN X0.here hx rfl (hb hby i3d2_13) rfl (XT.iconstV X0.here hx rfl (1 : Int32) (hb hby i3d2_14) (by decide) (XS.icmpNo X0.here hx rfl (hb hby i3d2_15) rfl (feq (by decide)).1 (XS.iloadN X0.here hx rfl (hb hby i3d2_18) rfl (XT.iconstV X0.here hx rfl (4 : Int32) (hb hby i3d2_19) (by decide) (XS.icmpNo X0.here hx rfl (hb hby i3d2_20) rfl (feq (by decide)).1 (XS.iloadN X0.here hx rfl (hb hby i3d2_23) rfl k)))))))))))) ?_
  refine Wp.back (U' := (s₁.setTop (mkF m 53 #[.val (.int (3 : Int32))] [(.int (32 : Int32))]))) (fun t k => XT.bipushV X0.here hx rfl (7 : Int32) (hb hby i3d2_24) (by decide) (XS.icmpYes X0.here hx rfl (pc0 := 26) (pc' := 32) rfl (hb hby i3d2_26) rfl (feq (by decide)).2 (by decide) (by decide) (XS.iloadN X0.here hx rfl (hb hby i3d2_32) rfl (XT.iconstV X0.here hx rfl (2 : Int32) (hb hby i3d2_33) (by decide) (XS.icmpNo X0.here hx rfl (hb hby i3d2_34) rfl (feq (by decide)).1 (XS.iloadN X0.here hx rfl (hb hby i3d2_37) rfl (XT.iconstV X0.here hx rfl (5 : Int32) (hb hby i3d2_38) (by decide) (XS.icmpNo X0.here hx rfl (hb hby i3d2_39) rfl (feq (by decide)).1 (XS.iloadN X0.here hx rfl (hb hby i3d2_42) rfl (XT.bipushV X0.here hx rfl (8 : Int32) (hb hby i3d2_43) (by decide) (XS.icmpYes X0.here hx rfl (pc0 := 45) (pc' := 51) rfl (hb hby i3d2_45) rfl (feq (by decide)).2 (by decide) (by decide) (XT.bipushV X0.here hx rfl (32 : Int32) (hb hby i3d2_51) (by decide) k)))))))))))) ?_
  obtain ⟨fs, hr, hrun, hended, hW, hsame⟩ := X0.leave (v := (some (.int (32 : Int32)))) (fun h => by rw [hret] at h; cases h)
  refine Wp.done (retI X0 hx hret (hb hby i3d2_53) hr) hrun hended ⟨_, _, rfl, ?_, ⟨_, rfl⟩, hW, hsame.mono (by decide) (by decide)⟩
  show Q_el3 Z  h0 n0 _ s₁.heap _
  rw [e0]
  exact ⟨rfl, N0, (Keep.refl h0 [])⟩
def Q_pk4 (Z : State)  (wo : Addr) (h0 : Heap) (n0 : Nat) (v : Option Value) (h : Heap) (L : List Loc) : Prop := v = some (.ref wo) ∧ Fr n0 L ∧ Keep h0 h []
theorem i4d1_0 : decode method_2_code 0 = .ok (.iload_n 0, 1) := by decide +kernel
theorem i4d1_1 : decode method_2_code 1 = .ok (.ifCond .ne 7, 3) := by decide +kernel
theorem i4d1_8 : decode method_2_code 8 = .ok (.iload_n 0, 1) := by decide +kernel
theorem i4d1_9 : decode method_2_code 9 = .ok (.iconst 1, 1) := by decide +kernel
theorem i4d1_10 : decode method_2_code 10 = .ok (.if_icmp .ne 7, 3) := by decide +kernel
theorem i4d1_17 : decode method_2_code 17 = .ok (.iload_n 0, 1) := by decide +kernel
theorem i4d1_18 : decode method_2_code 18 = .ok (.iconst 2, 1) := by decide +kernel
theorem i4d1_19 : decode method_2_code 19 = .ok (.if_icmp .ne 7, 3) := by decide +kernel
theorem i4d1_26 : decode method_2_code 26 = .ok (.iload_n 0, 1) := by decide +kernel
theorem i4d1_27 : decode method_2_code 27 = .ok (.iconst 3, 1) := by decide +kernel
theorem i4d1_28 : decode method_2_code 28 = .ok (.if_icmp .ne 7, 3) := by decide +kernel
theorem i4d1_35 : decode method_2_code 35 = .ok (.iload_n 0, 1) := by decide +kernel
theorem i4d1_36 : decode method_2_code 36 = .ok (.iconst 4, 1) := by decide +kernel
theorem i4d1_37 : decode method_2_code 37 = .ok (.if_icmp .ne 7, 3) := by decide +kernel
theorem i4d1_40 : decode method_2_code 40 = .ok (.getstatic 22, 3) := by decide +kernel
theorem i4d1_43 : decode method_2_code 43 = .ok (.areturn, 1) := by decide +kernel
theorem i4pn1 : plainName "com/example/opaq/opaq/EncryptionAlgorithmCheckKeyPinLaw" = true := by first | (simp [plainName, overriddenIn]; done) | decide +kernel
theorem i4ef1 (m : MethodId) (x0 : Int32) : entryFrame m #[(.int x0)] 1 = mkF m 0 #[.val (.int x0)] [] := by first | (simp [entryFrame, mkF, argsToLocals, Value.category]; done) | rfl
set_option maxRecDepth 65536 in
set_option maxHeartbeats 40000000 in
theorem rm_pk4 (l : Launch) (Z : State) (a0 : Array Value) (hw : ∀ d ∈ tables_1, d.before a0 Z = true) (ws : List Jvm.Cond)  (wo : Addr) (h0 : Heap) (n0 : Nat) (Z0 : n0 ≤ h0.size) (H0 : Sta Z h0 "com/example/opaq/opaq/EncryptionAlgorithm" "AES128_GCM" "Lcom/example/opaq/opaq/EncryptionAlgorithm;" (.ref wo)) :
    MetFree l (⟨"com/example/opaq/opaq/EncryptionAlgorithmCheckKeyPinLaw", "pick", "(I)Lcom/example/opaq/opaq/EncryptionAlgorithm;"⟩ : MethodName) (head1 (Jvm.Cond.code (⟨"com/example/opaq/opaq/EncryptionAlgorithmCheckKeyPinLaw", "pick", "(I)Lcom/example/opaq/opaq/EncryptionAlgorithm;"⟩ : MethodName) method_2_code 1 (some (.object "com/example/opaq/opaq/EncryptionAlgorithm")) :: ws) ({ frames := 0, cells := 0, slots := 0, locals := 0 } : Room)) (fun a U => a = #[(.int (4 : Int32))] ∧ Z.Warmed39 U.vm ∧ U.heap = h0) (fun _ _ _ _ _ => True) (fun _ U o U' => ∃ v L, o = .returned v ∧ Q_pk4 Z wo h0 n0 v U'.heap L ∧ FrameEnd U o U' L ({ frames := 0, cells := 0, slots := 0, locals := 0 } : Room).cells ({ frames := 0, cells := 0, slots := 0, locals := 0 } : Room).slots) := by
  refine MetFree.of_bodySF (plainFor_of_name i4pn1) hisR ?_
  intro p e s m args below meth c s₁ Bd hml0 hP hK
  obtain ⟨rfl, hZ, hh⟩ := hP
  have hx := Bd.exec
  have hby := Bd.bytes
  have hret := Bd.returns
  have hlk := Bd.notSynchronized
  have hml : c.maxLocals = 1 := hml0
  have hown : s.vm.findClass "com/example/opaq/opaq/EncryptionAlgorithmCheckKeyPinLaw" = some m.cls := findClass_of_methodNamed Bd.named
  have hnm := (name_of_methodNamed Bd.named Bd.method).1
  have X0 : Stand p l e ({ frames := 0, cells := 0, slots := 0, locals := 0 } : Room) s m #[(.int (4 : Int32))] below meth c s₁ [] 0 0 := Stand.of_body Bd
  have e0 : s₁.heap = h0 := by rw [← hh, Bd.state]; rfl
  have N0 := Fr.nil n0
  show Wp p e below (fun o s₂ => ∃ v L, o = .returned v ∧ Q_pk4 Z wo h0 n0 v s₂.heap L ∧ FrameEnd s o s₂ L ({ frames := 0, cells := 0, slots := 0, locals := 0 } : Room).cells ({ frames := 0, cells := 0, slots := 0, locals := 0 } : Room).slots) _
  refine Wp.back (U' := (s₁.setTop (mkF m 0 #[.val (.int (4 : Int32))] []))) (fun t k => castTop (i4ef1 m (4 : Int32)) k) ?_
  refine Wp.back (U' := (s₁.setTop (mkF m 36 #[.val (.int (4 : Int32))] [(.int (4 : Int32))]))) (fun t k => XS.iloadN X0.here hx rfl (hb hby i4d1_0) rfl (XS.ifYes X0.here hx rfl (pc0 := 1) (pc' := 8) rfl (hb hby i4d1_1) rfl ((if0 _ _).trans (feq (by decide)).2) (by decide) (by decide) (XS.iloadN X0.here hx rfl (hb hby i4d1_8) rfl (XT.iconstV X0.here hx rfl (1 : Int32) (hb hby i4d1_9) (by decide) (XS.icmpYes X0.here hx rfl (pc0 := 10) (pc' := 17) rfl (hb hby i4d1_10) rfl (feq (by decide)).2 (by decide) (by decide) (XS.iloadN X0.here hx rfl (hb hby i4d1_17) rfl (XT.iconstV X0.here hx rfl (2 : Int32) (hb hby i4d1_18) (by decide) (XS.icmpYes X0.here hx rfl (pc0 := 19) (pc' := 26) rfl (hb hby i4d1_19) rfl (feq (by decide)).2 (by decide) (by decide) (XS.iloadN X0.here hx rfl (hb hby i4d1_26) rfl (XT.iconstV X0.here hx rfl (3 : Int32) (hb hby i4d1_27) (by decide) (XS.icmpYes X0.here hx rfl (pc0 := 28) (pc' := 35) rfl (hb hby i4d1_28) rfl (feq (by decide)).2 (by decide) (by decide) (XS.iloadN X0.here hx rfl (hb hby i4d1_35) rfl k)))))))))))) ?_
  refine Wp.back (U' := (s₁.setTop (mkF m 40 #[.val (.int (4 : Int32))] []))) (fun t k => XT.iconstV X0.here hx rfl (4 : Int32) (hb hby i4d1_36) (by decide) (XS.icmpNo X0.here hx rfl (hb hby i4d1_37) rfl (teq (by decide)).2 k)) ?_
  obtain ⟨T1, X1, e1, st1⟩ := getS2 X0 hx hZ hown (host := "") (Or.inl (hw _ (List.mem_of_getElem? (i := 37) rfl))) Via.refl e0 H0 (g := (mkF m 40 #[.val (.int (4 : Int32))] [])) rfl (hb hby i4d1_40)
  refine Wp.back (U' := (T1.setTop (mkF m 43 #[.val (.int (4 : Int32))] [(.ref wo)]))) st1 ?_
  obtain ⟨fs, hr, hrun, hended, hW, hsame⟩ := X1.leave (v := (some (.ref wo))) (fun h => by rw [hret] at h; cases h)
  refine Wp.done (retOut X1 hx hret rfl (Or.inr (Or.inr (Or.inr (Or.inr ⟨rfl, rfl, rfl⟩)))) (hb hby i4d1_43) hr) hrun hended ⟨_, _, rfl, ?_, ⟨_, rfl⟩, hW, hsame.mono (by decide) (by decide)⟩
  show Q_pk4 Z wo h0 n0 _ T1.heap _
  rw [e1]
  exact ⟨rfl, N0, (Keep.refl h0 [])⟩
def Q_el4 (Z : State)   (h0 : Heap) (n0 : Nat) (v : Option Value) (h : Heap) (L : List Loc) : Prop := v = some (.int (16 : Int32)) ∧ Fr n0 L ∧ Keep h0 h []
theorem i4d2_0 : decode method_3_code 0 = .ok (.iload_n 0, 1) := by decide +kernel
theorem i4d2_1 : decode method_3_code 1 = .ok (.ifCond .eq 9, 3) := by decide +kernel
theorem i4d2_4 : decode method_3_code 4 = .ok (.iload_n 0, 1) := by decide +kernel
theorem i4d2_5 : decode method_3_code 5 = .ok (.bipush 10, 2) := by decide +kernel
theorem i4d2_7 : decode method_3_code 7 = .ok (.if_icmp .ne 6, 3) := by decide +kernel
theorem i4d2_13 : decode method_3_code 13 = .ok (.iload_n 0, 1) := by decide +kernel
theorem i4d2_14 : decode method_3_code 14 = .ok (.iconst 1, 1) := by decide +kernel
theorem i4d2_15 : decode method_3_code 15 = .ok (.if_icmp .eq 14, 3) := by decide +kernel
theorem i4d2_18 : decode method_3_code 18 = .ok (.iload_n 0, 1) := by decide +kernel
theorem i4d2_19 : decode method_3_code 19 = .ok (.iconst 4, 1) := by decide +kernel
theorem i4d2_20 : decode method_3_code 20 = .ok (.if_icmp .eq 9, 3) := by decide +kernel
theorem i4d2_29 : decode method_3_code 29 = .ok (.bipush 16, 2) := by decide +kernel
theorem i4d2_31 : decode method_3_code 31 = .ok (.ireturn, 1) := by decide +kernel
theorem i4pn2 : plainName "com/example/opaq/opaq/EncryptionAlgorithmCheckKeyPinLaw" = true := by first | (simp [plainName, overriddenIn]; done) | decide +kernel
theorem i4ef2 (m : MethodId) (x0 : Int32) : entryFrame m #[(.int x0)] 1 = mkF m 0 #[.val (.int x0)] [] := by first | (simp [entryFrame, mkF, argsToLocals, Value.category]; done) | rfl
set_option maxRecDepth 65536 in
set_option maxHeartbeats 40000000 in
theorem rm_el4 (l : Launch) (Z : State) (a0 : Array Value) (hw : ∀ d ∈ tables_1, d.before a0 Z = true) (ws : List Jvm.Cond)   (h0 : Heap) (n0 : Nat) (Z0 : n0 ≤ h0.size)  :
    MetFree l (⟨"com/example/opaq/opaq/EncryptionAlgorithmCheckKeyPinLaw", "expectedLength", "(I)I"⟩ : MethodName) (head1 (Jvm.Cond.code (⟨"com/example/opaq/opaq/EncryptionAlgorithmCheckKeyPinLaw", "expectedLength", "(I)I"⟩ : MethodName) method_3_code 1 (some .int) :: ws) ({ frames := 0, cells := 0, slots := 0, locals := 0 } : Room)) (fun a U => a = #[(.int (4 : Int32))] ∧ Z.Warmed39 U.vm ∧ U.heap = h0) (fun _ _ _ _ _ => True) (fun _ U o U' => ∃ v L, o = .returned v ∧ Q_el4 Z  h0 n0 v U'.heap L ∧ FrameEnd U o U' L ({ frames := 0, cells := 0, slots := 0, locals := 0 } : Room).cells ({ frames := 0, cells := 0, slots := 0, locals := 0 } : Room).slots) := by
  refine MetFree.of_bodySF (plainFor_of_name i4pn2) hisR ?_
  intro p e s m args below meth c s₁ Bd hml0 hP hK
  obtain ⟨rfl, hZ, hh⟩ := hP
  have hx := Bd.exec
  have hby := Bd.bytes
  have hret := Bd.returns
  have hlk := Bd.notSynchronized
  have hml : c.maxLocals = 1 := hml0
  have hown : s.vm.findClass "com/example/opaq/opaq/EncryptionAlgorithmCheckKeyPinLaw" = some m.cls := findClass_of_methodNamed Bd.named
  have hnm := (name_of_methodNamed Bd.named Bd.method).1
  have X0 : Stand p l e ({ frames := 0, cells := 0, slots := 0, locals := 0 } : Room) s m #[(.int (4 : Int32))] below meth c s₁ [] 0 0 := Stand.of_body Bd
  have e0 : s₁.heap = h0 := by rw [← hh, Bd.state]; rfl
  have N0 := Fr.nil n0
  show Wp p e below (fun o s₂ => ∃ v L, o = .returned v ∧ Q_el4 Z  h0 n0 v s₂.heap L ∧ FrameEnd s o s₂ L ({ frames := 0, cells := 0, slots := 0, locals := 0 } : Room).cells ({ frames := 0, cells := 0, slots := 0, locals := 0 } : Room).slots) _
  refine Wp.back (U' := (s₁.setTop (mkF m 0 #[.val (.int (4 : Int32))] []))) (fun t k => castTop (i4ef2 m (4 : Int32)) k) ?_
  refine Wp.back (U' := (s₁.setTop (mkF m 31 #[.val (.int (4 : Int32))] [(.int (16 : Int32))]))) (fun t k => XS.iloadN X0.here hx rfl (hb hby i4d2_0) rfl (XS.ifNo X0.here hx rfl (hb hby i4d2_1) rfl ((if0 _ _).trans (feq (by decide)).1) (XS.iloadN X0.here hx rfl (hb hby i4d2_4) rfl (XT.bipushV X0.here hx rfl (10 : Int32) (hb hby i4d2_5) (by decide) (XS.icmpYes X0.here hx rfl (pc0 := 7) (pc' := 13) rfl (hb hby i4d2_7) rfl (feq (by decide)).2 (by decide) (by decide) (XS.iloadN X0.here hx rfl (hb hby i4d2_13) rfl (XT.iconstV X0.here hx rfl (1 : Int32) (hb hby i4d2_14) (by decide) (XS.icmpNo X0.here hx rfl (hb hby i4d2_15) rfl (feq (by decide)).1 (XS.iloadN X0.here hx rfl (hb hby i4d2_18) rfl (XT.iconstV X0.here hx rfl (4 : Int32) (hb hby i4d2_19) (by decide) (XS.icmpYes X0.here hx rfl (pc0 := 20) (pc' := 29) rfl (hb hby i4d2_20) rfl (teq (by decide)).1 (by decide) (by decide) (XT.bipushV X0.here hx rfl (16 : Int32) (hb hby i4d2_29) (by decide) k)))))))))))) ?_
  obtain ⟨fs, hr, hrun, hended, hW, hsame⟩ := X0.leave (v := (some (.int (16 : Int32)))) (fun h => by rw [hret] at h; cases h)
  refine Wp.done (retI X0 hx hret (hb hby i4d2_31) hr) hrun hended ⟨_, _, rfl, ?_, ⟨_, rfl⟩, hW, hsame.mono (by decide) (by decide)⟩
  show Q_el4 Z  h0 n0 _ s₁.heap _
  rw [e0]
  exact ⟨rfl, N0, (Keep.refl h0 [])⟩
def Q_pk5 (Z : State)  (wo : Addr) (h0 : Heap) (n0 : Nat) (v : Option Value) (h : Heap) (L : List Loc) : Prop := v = some (.ref wo) ∧ Fr n0 L ∧ Keep h0 h []
theorem i5d1_0 : decode method_2_code 0 = .ok (.iload_n 0, 1) := by decide +kernel
theorem i5d1_1 : decode method_2_code 1 = .ok (.ifCond .ne 7, 3) := by decide +kernel
theorem i5d1_8 : decode method_2_code 8 = .ok (.iload_n 0, 1) := by decide +kernel
theorem i5d1_9 : decode method_2_code 9 = .ok (.iconst 1, 1) := by decide +kernel
theorem i5d1_10 : decode method_2_code 10 = .ok (.if_icmp .ne 7, 3) := by decide +kernel
theorem i5d1_17 : decode method_2_code 17 = .ok (.iload_n 0, 1) := by decide +kernel
theorem i5d1_18 : decode method_2_code 18 = .ok (.iconst 2, 1) := by decide +kernel
theorem i5d1_19 : decode method_2_code 19 = .ok (.if_icmp .ne 7, 3) := by decide +kernel
theorem i5d1_26 : decode method_2_code 26 = .ok (.iload_n 0, 1) := by decide +kernel
theorem i5d1_27 : decode method_2_code 27 = .ok (.iconst 3, 1) := by decide +kernel
theorem i5d1_28 : decode method_2_code 28 = .ok (.if_icmp .ne 7, 3) := by decide +kernel
theorem i5d1_35 : decode method_2_code 35 = .ok (.iload_n 0, 1) := by decide +kernel
theorem i5d1_36 : decode method_2_code 36 = .ok (.iconst 4, 1) := by decide +kernel
theorem i5d1_37 : decode method_2_code 37 = .ok (.if_icmp .ne 7, 3) := by decide +kernel
theorem i5d1_44 : decode method_2_code 44 = .ok (.iload_n 0, 1) := by decide +kernel
theorem i5d1_45 : decode method_2_code 45 = .ok (.iconst 5, 1) := by decide +kernel
theorem i5d1_46 : decode method_2_code 46 = .ok (.if_icmp .ne 7, 3) := by decide +kernel
theorem i5d1_49 : decode method_2_code 49 = .ok (.getstatic 25, 3) := by decide +kernel
theorem i5d1_52 : decode method_2_code 52 = .ok (.areturn, 1) := by decide +kernel
theorem i5pn1 : plainName "com/example/opaq/opaq/EncryptionAlgorithmCheckKeyPinLaw" = true := by first | (simp [plainName, overriddenIn]; done) | decide +kernel
theorem i5ef1 (m : MethodId) (x0 : Int32) : entryFrame m #[(.int x0)] 1 = mkF m 0 #[.val (.int x0)] [] := by first | (simp [entryFrame, mkF, argsToLocals, Value.category]; done) | rfl
set_option maxRecDepth 65536 in
set_option maxHeartbeats 40000000 in
theorem rm_pk5 (l : Launch) (Z : State) (a0 : Array Value) (hw : ∀ d ∈ tables_1, d.before a0 Z = true) (ws : List Jvm.Cond)  (wo : Addr) (h0 : Heap) (n0 : Nat) (Z0 : n0 ≤ h0.size) (H0 : Sta Z h0 "com/example/opaq/opaq/EncryptionAlgorithm" "AES192_GCM" "Lcom/example/opaq/opaq/EncryptionAlgorithm;" (.ref wo)) :
    MetFree l (⟨"com/example/opaq/opaq/EncryptionAlgorithmCheckKeyPinLaw", "pick", "(I)Lcom/example/opaq/opaq/EncryptionAlgorithm;"⟩ : MethodName) (head1 (Jvm.Cond.code (⟨"com/example/opaq/opaq/EncryptionAlgorithmCheckKeyPinLaw", "pick", "(I)Lcom/example/opaq/opaq/EncryptionAlgorithm;"⟩ : MethodName) method_2_code 1 (some (.object "com/example/opaq/opaq/EncryptionAlgorithm")) :: ws) ({ frames := 0, cells := 0, slots := 0, locals := 0 } : Room)) (fun a U => a = #[(.int (5 : Int32))] ∧ Z.Warmed39 U.vm ∧ U.heap = h0) (fun _ _ _ _ _ => True) (fun _ U o U' => ∃ v L, o = .returned v ∧ Q_pk5 Z wo h0 n0 v U'.heap L ∧ FrameEnd U o U' L ({ frames := 0, cells := 0, slots := 0, locals := 0 } : Room).cells ({ frames := 0, cells := 0, slots := 0, locals := 0 } : Room).slots) := by
  refine MetFree.of_bodySF (plainFor_of_name i5pn1) hisR ?_
  intro p e s m args below meth c s₁ Bd hml0 hP hK
  obtain ⟨rfl, hZ, hh⟩ := hP
  have hx := Bd.exec
  have hby := Bd.bytes
  have hret := Bd.returns
  have hlk := Bd.notSynchronized
  have hml : c.maxLocals = 1 := hml0
  have hown : s.vm.findClass "com/example/opaq/opaq/EncryptionAlgorithmCheckKeyPinLaw" = some m.cls := findClass_of_methodNamed Bd.named
  have hnm := (name_of_methodNamed Bd.named Bd.method).1
  have X0 : Stand p l e ({ frames := 0, cells := 0, slots := 0, locals := 0 } : Room) s m #[(.int (5 : Int32))] below meth c s₁ [] 0 0 := Stand.of_body Bd
  have e0 : s₁.heap = h0 := by rw [← hh, Bd.state]; rfl
  have N0 := Fr.nil n0
  show Wp p e below (fun o s₂ => ∃ v L, o = .returned v ∧ Q_pk5 Z wo h0 n0 v s₂.heap L ∧ FrameEnd s o s₂ L ({ frames := 0, cells := 0, slots := 0, locals := 0 } : Room).cells ({ frames := 0, cells := 0, slots := 0, locals := 0 } : Room).slots) _
  refine Wp.back (U' := (s₁.setTop (mkF m 0 #[.val (.int (5 : Int32))] []))) (fun t k => castTop (i5ef1 m (5 : Int32)) k) ?_
  refine Wp.back (U' := (s₁.setTop (mkF m 36 #[.val (.int (5 : Int32))] [(.int (5 : Int32))]))) (fun t k => XS.iloadN X0.here hx rfl (hb hby i5d1_0) rfl (XS.ifYes X0.here hx rfl (pc0 := 1) (pc' := 8) rfl (hb hby i5d1_1) rfl ((if0 _ _).trans (feq (by decide)).2) (by decide) (by decide) (XS.iloadN X0.here hx rfl (hb hby i5d1_8) rfl (XT.iconstV X0.here hx rfl (1 : Int32) (hb hby i5d1_9) (by decide) (XS.icmpYes X0.here hx rfl (pc0 := 10) (pc' := 17) rfl (hb hby i5d1_10) rfl (feq (by decide)).2 (by decide) (by decide) (XS.iloadN X0.here hx rfl (hb hby i5d1_17) rfl (XT.iconstV X0.here hx rfl (2 : Int32) (hb hby i5d1_18) (by decide) (XS.icmpYes X0.here hx rfl (pc0 := 19) (pc' := 26) rfl (hb hby i5d1_19) rfl (feq (by decide)).2 (by decide) (by decide) (XS.iloadN X0.here hx rfl (hb hby i5d1_26) rfl (XT.iconstV X0.here hx rfl (3 : Int32) (hb hby i5d1_27) (by decide) (XS.icmpYes X0.here hx rfl (pc0 := 28) (pc' := 35) rfl (hb hby i5d1_28) rfl (feq (by decide)).2 (by decide) (by decide) (XS.iloadN X0.here hx rfl (hb hby i5d1_35) rfl k)))))))))))) ?_
  refine Wp.back (U' := (s₁.setTop (mkF m 49 #[.val (.int (5 : Int32))] []))) (fun t k => XT.iconstV X0.here hx rfl (4 : Int32) (hb hby i5d1_36) (by decide) (XS.icmpYes X0.here hx rfl (pc0 := 37) (pc' := 44) rfl (hb hby i5d1_37) rfl (feq (by decide)).2 (by decide) (by decide) (XS.iloadN X0.here hx rfl (hb hby i5d1_44) rfl (XT.iconstV X0.here hx rfl (5 : Int32) (hb hby i5d1_45) (by decide) (XS.icmpNo X0.here hx rfl (hb hby i5d1_46) rfl (teq (by decide)).2 k))))) ?_
  obtain ⟨T1, X1, e1, st1⟩ := getS2 X0 hx hZ hown (host := "") (Or.inl (hw _ (List.mem_of_getElem? (i := 23) rfl))) Via.refl e0 H0 (g := (mkF m 49 #[.val (.int (5 : Int32))] [])) rfl (hb hby i5d1_49)
  refine Wp.back (U' := (T1.setTop (mkF m 52 #[.val (.int (5 : Int32))] [(.ref wo)]))) st1 ?_
  obtain ⟨fs, hr, hrun, hended, hW, hsame⟩ := X1.leave (v := (some (.ref wo))) (fun h => by rw [hret] at h; cases h)
  refine Wp.done (retOut X1 hx hret rfl (Or.inr (Or.inr (Or.inr (Or.inr ⟨rfl, rfl, rfl⟩)))) (hb hby i5d1_52) hr) hrun hended ⟨_, _, rfl, ?_, ⟨_, rfl⟩, hW, hsame.mono (by decide) (by decide)⟩
  show Q_pk5 Z wo h0 n0 _ T1.heap _
  rw [e1]
  exact ⟨rfl, N0, (Keep.refl h0 [])⟩
def Q_el5 (Z : State)   (h0 : Heap) (n0 : Nat) (v : Option Value) (h : Heap) (L : List Loc) : Prop := v = some (.int (24 : Int32)) ∧ Fr n0 L ∧ Keep h0 h []
theorem i5d2_0 : decode method_3_code 0 = .ok (.iload_n 0, 1) := by decide +kernel
theorem i5d2_1 : decode method_3_code 1 = .ok (.ifCond .eq 9, 3) := by decide +kernel
theorem i5d2_4 : decode method_3_code 4 = .ok (.iload_n 0, 1) := by decide +kernel
theorem i5d2_5 : decode method_3_code 5 = .ok (.bipush 10, 2) := by decide +kernel
theorem i5d2_7 : decode method_3_code 7 = .ok (.if_icmp .ne 6, 3) := by decide +kernel
theorem i5d2_13 : decode method_3_code 13 = .ok (.iload_n 0, 1) := by decide +kernel
theorem i5d2_14 : decode method_3_code 14 = .ok (.iconst 1, 1) := by decide +kernel
theorem i5d2_15 : decode method_3_code 15 = .ok (.if_icmp .eq 14, 3) := by decide +kernel
theorem i5d2_18 : decode method_3_code 18 = .ok (.iload_n 0, 1) := by decide +kernel
theorem i5d2_19 : decode method_3_code 19 = .ok (.iconst 4, 1) := by decide +kernel
theorem i5d2_20 : decode method_3_code 20 = .ok (.if_icmp .eq 9, 3) := by decide +kernel
theorem i5d2_23 : decode method_3_code 23 = .ok (.iload_n 0, 1) := by decide +kernel
theorem i5d2_24 : decode method_3_code 24 = .ok (.bipush 7, 2) := by decide +kernel
theorem i5d2_26 : decode method_3_code 26 = .ok (.if_icmp .ne 6, 3) := by decide +kernel
theorem i5d2_32 : decode method_3_code 32 = .ok (.iload_n 0, 1) := by decide +kernel
theorem i5d2_33 : decode method_3_code 33 = .ok (.iconst 2, 1) := by decide +kernel
theorem i5d2_34 : decode method_3_code 34 = .ok (.if_icmp .eq 14, 3) := by decide +kernel
theorem i5d2_37 : decode method_3_code 37 = .ok (.iload_n 0, 1) := by decide +kernel
theorem i5d2_38 : decode method_3_code 38 = .ok (.iconst 5, 1) := by decide +kernel
theorem i5d2_39 : decode method_3_code 39 = .ok (.if_icmp .eq 9, 3) := by decide +kernel
theorem i5d2_48 : decode method_3_code 48 = .ok (.bipush 24, 2) := by decide +kernel
theorem i5d2_50 : decode method_3_code 50 = .ok (.ireturn, 1) := by decide +kernel
theorem i5pn2 : plainName "com/example/opaq/opaq/EncryptionAlgorithmCheckKeyPinLaw" = true := by first | (simp [plainName, overriddenIn]; done) | decide +kernel
theorem i5ef2 (m : MethodId) (x0 : Int32) : entryFrame m #[(.int x0)] 1 = mkF m 0 #[.val (.int x0)] [] := by first | (simp [entryFrame, mkF, argsToLocals, Value.category]; done) | rfl
set_option maxRecDepth 65536 in
set_option maxHeartbeats 40000000 in
theorem rm_el5 (l : Launch) (Z : State) (a0 : Array Value) (hw : ∀ d ∈ tables_1, d.before a0 Z = true) (ws : List Jvm.Cond)   (h0 : Heap) (n0 : Nat) (Z0 : n0 ≤ h0.size)  :
    MetFree l (⟨"com/example/opaq/opaq/EncryptionAlgorithmCheckKeyPinLaw", "expectedLength", "(I)I"⟩ : MethodName) (head1 (Jvm.Cond.code (⟨"com/example/opaq/opaq/EncryptionAlgorithmCheckKeyPinLaw", "expectedLength", "(I)I"⟩ : MethodName) method_3_code 1 (some .int) :: ws) ({ frames := 0, cells := 0, slots := 0, locals := 0 } : Room)) (fun a U => a = #[(.int (5 : Int32))] ∧ Z.Warmed39 U.vm ∧ U.heap = h0) (fun _ _ _ _ _ => True) (fun _ U o U' => ∃ v L, o = .returned v ∧ Q_el5 Z  h0 n0 v U'.heap L ∧ FrameEnd U o U' L ({ frames := 0, cells := 0, slots := 0, locals := 0 } : Room).cells ({ frames := 0, cells := 0, slots := 0, locals := 0 } : Room).slots) := by
  refine MetFree.of_bodySF (plainFor_of_name i5pn2) hisR ?_
  intro p e s m args below meth c s₁ Bd hml0 hP hK
  obtain ⟨rfl, hZ, hh⟩ := hP
  have hx := Bd.exec
  have hby := Bd.bytes
  have hret := Bd.returns
  have hlk := Bd.notSynchronized
  have hml : c.maxLocals = 1 := hml0
  have hown : s.vm.findClass "com/example/opaq/opaq/EncryptionAlgorithmCheckKeyPinLaw" = some m.cls := findClass_of_methodNamed Bd.named
  have hnm := (name_of_methodNamed Bd.named Bd.method).1
  have X0 : Stand p l e ({ frames := 0, cells := 0, slots := 0, locals := 0 } : Room) s m #[(.int (5 : Int32))] below meth c s₁ [] 0 0 := Stand.of_body Bd
  have e0 : s₁.heap = h0 := by rw [← hh, Bd.state]; rfl
  have N0 := Fr.nil n0
  show Wp p e below (fun o s₂ => ∃ v L, o = .returned v ∧ Q_el5 Z  h0 n0 v s₂.heap L ∧ FrameEnd s o s₂ L ({ frames := 0, cells := 0, slots := 0, locals := 0 } : Room).cells ({ frames := 0, cells := 0, slots := 0, locals := 0 } : Room).slots) _
  refine Wp.back (U' := (s₁.setTop (mkF m 0 #[.val (.int (5 : Int32))] []))) (fun t k => castTop (i5ef2 m (5 : Int32)) k) ?_
  refine Wp.back (U' := (s₁.setTop (mkF m 24 #[.val (.int (5 : Int32))] [(.int (5 : Int32))]))) (fun t k => XS.iloadN X0.here hx rfl (hb hby i5d2_0) rfl (XS.ifNo X0.here hx rfl (hb hby i5d2_1) rfl ((if0 _ _).trans (feq (by decide)).1) (XS.iloadN X0.here hx rfl (hb hby i5d2_4) rfl (XT.bipushV X0.here hx rfl (10 : Int32) (hb hby i5d2_5) (by decide) (XS.icmpYes X0.here hx rfl (pc0 := 7) (pc' := 13) rfl (hb hby i5d2_7) rfl (feq (by decide)).2 (by decide) (by decide) (XS.iloadN X0.here hx rfl (hb hby i5d2_13) rfl (XT.iconstV X0.here hx rfl (1 : Int32) (hb hby i5d2_14) (by decide) (XS.icmpNo X0.here hx rfl (hb hby i5d2_15) rfl (feq (by decide)).1 (XS.iloadN X0.here hx rfl (hb hby i5d2_18) rfl (XT.iconstV X0.here hx rfl (4 : Int32) (hb hby i5d2_19) (by decide) (XS.icmpNo X0.here hx rfl (hb hby i5d2_20) rfl (feq (by decide)).1 (XS.iloadN X0.here hx rfl (hb hby i5d2_23) rfl k)))))))))))) ?_
  refine Wp.back (U' := (s₁.setTop (mkF m 50 #[.val (.int (5 : Int32))] [(.int (24 : Int32))]))) (fun t k => XT.bipushV X0.here hx rfl (7 : Int32) (hb hby i5d2_24) (by decide) (XS.icmpYes X0.here hx rfl (pc0 := 26) (pc' := 32) rfl (hb hby i5d2_26) rfl (feq (by decide)).2 (by decide) (by decide) (XS.iloadN X0.here hx rfl (hb hby i5d2_32) rfl (XT.iconstV X0.here hx rfl (2 : Int32) (hb hby i5d2_33) (by decide) (XS.icmpNo X0.here hx rfl (hb hby i5d2_34) rfl (feq (by decide)).1 (XS.iloadN X0.here hx rfl (hb hby i5d2_37) rfl (XT.iconstV X0.here hx rfl (5 : Int32) (hb hby i5d2_38) (by decide) (XS.icmpYes X0.here hx rfl (pc0 := 39) (pc' := 48) rfl (hb hby i5d2_39) rfl (teq (by decide)).1 (by decide) (by decide) (XT.bipushV X0.here hx rfl (24 : Int32) (hb hby i5d2_48) (by decide) k))))))))) ?_
  obtain ⟨fs, hr, hrun, hended, hW, hsame⟩ := X0.leave (v := (some (.int (24 : Int32)))) (fun h => by rw [hret] at h; cases h)
  refine Wp.done (retI X0 hx hret (hb hby i5d2_50) hr) hrun hended ⟨_, _, rfl, ?_, ⟨_, rfl⟩, hW, hsame.mono (by decide) (by decide)⟩
  show Q_el5 Z  h0 n0 _ s₁.heap _
  rw [e0]
  exact ⟨rfl, N0, (Keep.refl h0 [])⟩
def Q_pk6 (Z : State)  (wo : Addr) (h0 : Heap) (n0 : Nat) (v : Option Value) (h : Heap) (L : List Loc) : Prop := v = some (.ref wo) ∧ Fr n0 L ∧ Keep h0 h []
theorem i6d1_0 : decode method_2_code 0 = .ok (.iload_n 0, 1) := by decide +kernel
theorem i6d1_1 : decode method_2_code 1 = .ok (.ifCond .ne 7, 3) := by decide +kernel
theorem i6d1_8 : decode method_2_code 8 = .ok (.iload_n 0, 1) := by decide +kernel
theorem i6d1_9 : decode method_2_code 9 = .ok (.iconst 1, 1) := by decide +kernel
theorem i6d1_10 : decode method_2_code 10 = .ok (.if_icmp .ne 7, 3) := by decide +kernel
theorem i6d1_17 : decode method_2_code 17 = .ok (.iload_n 0, 1) := by decide +kernel
theorem i6d1_18 : decode method_2_code 18 = .ok (.iconst 2, 1) := by decide +kernel
theorem i6d1_19 : decode method_2_code 19 = .ok (.if_icmp .ne 7, 3) := by decide +kernel
theorem i6d1_26 : decode method_2_code 26 = .ok (.iload_n 0, 1) := by decide +kernel
theorem i6d1_27 : decode method_2_code 27 = .ok (.iconst 3, 1) := by decide +kernel
theorem i6d1_28 : decode method_2_code 28 = .ok (.if_icmp .ne 7, 3) := by decide +kernel
theorem i6d1_35 : decode method_2_code 35 = .ok (.iload_n 0, 1) := by decide +kernel
theorem i6d1_36 : decode method_2_code 36 = .ok (.iconst 4, 1) := by decide +kernel
theorem i6d1_37 : decode method_2_code 37 = .ok (.if_icmp .ne 7, 3) := by decide +kernel
theorem i6d1_44 : decode method_2_code 44 = .ok (.iload_n 0, 1) := by decide +kernel
theorem i6d1_45 : decode method_2_code 45 = .ok (.iconst 5, 1) := by decide +kernel
theorem i6d1_46 : decode method_2_code 46 = .ok (.if_icmp .ne 7, 3) := by decide +kernel
theorem i6d1_53 : decode method_2_code 53 = .ok (.iload_n 0, 1) := by decide +kernel
theorem i6d1_54 : decode method_2_code 54 = .ok (.bipush 6, 2) := by decide +kernel
theorem i6d1_56 : decode method_2_code 56 = .ok (.if_icmp .ne 7, 3) := by decide +kernel
theorem i6d1_59 : decode method_2_code 59 = .ok (.getstatic 28, 3) := by decide +kernel
theorem i6d1_62 : decode method_2_code 62 = .ok (.areturn, 1) := by decide +kernel
theorem i6pn1 : plainName "com/example/opaq/opaq/EncryptionAlgorithmCheckKeyPinLaw" = true := by first | (simp [plainName, overriddenIn]; done) | decide +kernel
theorem i6ef1 (m : MethodId) (x0 : Int32) : entryFrame m #[(.int x0)] 1 = mkF m 0 #[.val (.int x0)] [] := by first | (simp [entryFrame, mkF, argsToLocals, Value.category]; done) | rfl
set_option maxRecDepth 65536 in
set_option maxHeartbeats 40000000 in
theorem rm_pk6 (l : Launch) (Z : State) (a0 : Array Value) (hw : ∀ d ∈ tables_1, d.before a0 Z = true) (ws : List Jvm.Cond)  (wo : Addr) (h0 : Heap) (n0 : Nat) (Z0 : n0 ≤ h0.size) (H0 : Sta Z h0 "com/example/opaq/opaq/EncryptionAlgorithm" "AES256_GCM" "Lcom/example/opaq/opaq/EncryptionAlgorithm;" (.ref wo)) :
    MetFree l (⟨"com/example/opaq/opaq/EncryptionAlgorithmCheckKeyPinLaw", "pick", "(I)Lcom/example/opaq/opaq/EncryptionAlgorithm;"⟩ : MethodName) (head1 (Jvm.Cond.code (⟨"com/example/opaq/opaq/EncryptionAlgorithmCheckKeyPinLaw", "pick", "(I)Lcom/example/opaq/opaq/EncryptionAlgorithm;"⟩ : MethodName) method_2_code 1 (some (.object "com/example/opaq/opaq/EncryptionAlgorithm")) :: ws) ({ frames := 0, cells := 0, slots := 0, locals := 0 } : Room)) (fun a U => a = #[(.int (6 : Int32))] ∧ Z.Warmed39 U.vm ∧ U.heap = h0) (fun _ _ _ _ _ => True) (fun _ U o U' => ∃ v L, o = .returned v ∧ Q_pk6 Z wo h0 n0 v U'.heap L ∧ FrameEnd U o U' L ({ frames := 0, cells := 0, slots := 0, locals := 0 } : Room).cells ({ frames := 0, cells := 0, slots := 0, locals := 0 } : Room).slots) := by
  refine MetFree.of_bodySF (plainFor_of_name i6pn1) hisR ?_
  intro p e s m args below meth c s₁ Bd hml0 hP hK
  obtain ⟨rfl, hZ, hh⟩ := hP
  have hx := Bd.exec
  have hby := Bd.bytes
  have hret := Bd.returns
  have hlk := Bd.notSynchronized
  have hml : c.maxLocals = 1 := hml0
  have hown : s.vm.findClass "com/example/opaq/opaq/EncryptionAlgorithmCheckKeyPinLaw" = some m.cls := findClass_of_methodNamed Bd.named
  have hnm := (name_of_methodNamed Bd.named Bd.method).1
  have X0 : Stand p l e ({ frames := 0, cells := 0, slots := 0, locals := 0 } : Room) s m #[(.int (6 : Int32))] below meth c s₁ [] 0 0 := Stand.of_body Bd
  have e0 : s₁.heap = h0 := by rw [← hh, Bd.state]; rfl
  have N0 := Fr.nil n0
  show Wp p e below (fun o s₂ => ∃ v L, o = .returned v ∧ Q_pk6 Z wo h0 n0 v s₂.heap L ∧ FrameEnd s o s₂ L ({ frames := 0, cells := 0, slots := 0, locals := 0 } : Room).cells ({ frames := 0, cells := 0, slots := 0, locals := 0 } : Room).slots) _
  refine Wp.back (U' := (s₁.setTop (mkF m 0 #[.val (.int (6 : Int32))] []))) (fun t k => castTop (i6ef1 m (6 : Int32)) k) ?_
  refine Wp.back (U' := (s₁.setTop (mkF m 36 #[.val (.int (6 : Int32))] [(.int (6 : Int32))]))) (fun t k => XS.iloadN X0.here hx rfl (hb hby i6d1_0) rfl (XS.ifYes X0.here hx rfl (pc0 := 1) (pc' := 8) rfl (hb hby i6d1_1) rfl ((if0 _ _).trans (feq (by decide)).2) (by decide) (by decide) (XS.iloadN X0.here hx rfl (hb hby i6d1_8) rfl (XT.iconstV X0.here hx rfl (1 : Int32) (hb hby i6d1_9) (by decide) (XS.icmpYes X0.here hx rfl (pc0 := 10) (pc' := 17) rfl (hb hby i6d1_10) rfl (feq (by decide)).2 (by decide) (by decide) (XS.iloadN X0.here hx rfl (hb hby i6d1_17) rfl (XT.iconstV X0.here hx rfl (2 : Int32) (hb hby i6d1_18) (by decide) (XS.icmpYes X0.here hx rfl (pc0 := 19) (pc' := 26) rfl (hb hby i6d1_19) rfl (feq (by decide)).2 (by decide) (by decide) (XS.iloadN X0.here hx rfl (hb hby i6d1_26) rfl (XT.iconstV X0.here hx rfl (3 : Int32) (hb hby i6d1_27) (by decide) (XS.icmpYes X0.here hx rfl (pc0 := 28) (pc' := 35) rfl (hb hby i6d1_28) rfl (feq (by decide)).2 (by decide) (by decide) (XS.iloadN X0.here hx rfl (hb hby i6d1_35) rfl k)))))))))))) ?_
  refine Wp.back (U' := (s₁.setTop (mkF m 59 #[.val (.int (6 : Int32))] []))) (fun t k => XT.iconstV X0.here hx rfl (4 : Int32) (hb hby i6d1_36) (by decide) (XS.icmpYes X0.here hx rfl (pc0 := 37) (pc' := 44) rfl (hb hby i6d1_37) rfl (feq (by decide)).2 (by decide) (by decide) (XS.iloadN X0.here hx rfl (hb hby i6d1_44) rfl (XT.iconstV X0.here hx rfl (5 : Int32) (hb hby i6d1_45) (by decide) (XS.icmpYes X0.here hx rfl (pc0 := 46) (pc' := 53) rfl (hb hby i6d1_46) rfl (feq (by decide)).2 (by decide) (by decide) (XS.iloadN X0.here hx rfl (hb hby i6d1_53) rfl (XT.bipushV X0.here hx rfl (6 : Int32) (hb hby i6d1_54) (by decide) (XS.icmpNo X0.here hx rfl (hb hby i6d1_56) rfl (teq (by decide)).2 k)))))))) ?_
  obtain ⟨T1, X1, e1, st1⟩ := getS2 X0 hx hZ hown (host := "") (Or.inl (hw _ (List.mem_of_getElem? (i := 25) rfl))) Via.refl e0 H0 (g := (mkF m 59 #[.val (.int (6 : Int32))] [])) rfl (hb hby i6d1_59)
  refine Wp.back (U' := (T1.setTop (mkF m 62 #[.val (.int (6 : Int32))] [(.ref wo)]))) st1 ?_
  obtain ⟨fs, hr, hrun, hended, hW, hsame⟩ := X1.leave (v := (some (.ref wo))) (fun h => by rw [hret] at h; cases h)
  refine Wp.done (retOut X1 hx hret rfl (Or.inr (Or.inr (Or.inr (Or.inr ⟨rfl, rfl, rfl⟩)))) (hb hby i6d1_62) hr) hrun hended ⟨_, _, rfl, ?_, ⟨_, rfl⟩, hW, hsame.mono (by decide) (by decide)⟩
  show Q_pk6 Z wo h0 n0 _ T1.heap _
  rw [e1]
  exact ⟨rfl, N0, (Keep.refl h0 [])⟩
def Q_el6 (Z : State)   (h0 : Heap) (n0 : Nat) (v : Option Value) (h : Heap) (L : List Loc) : Prop := v = some (.int (32 : Int32)) ∧ Fr n0 L ∧ Keep h0 h []
theorem i6d2_0 : decode method_3_code 0 = .ok (.iload_n 0, 1) := by decide +kernel
theorem i6d2_1 : decode method_3_code 1 = .ok (.ifCond .eq 9, 3) := by decide +kernel
theorem i6d2_4 : decode method_3_code 4 = .ok (.iload_n 0, 1) := by decide +kernel
theorem i6d2_5 : decode method_3_code 5 = .ok (.bipush 10, 2) := by decide +kernel
theorem i6d2_7 : decode method_3_code 7 = .ok (.if_icmp .ne 6, 3) := by decide +kernel
theorem i6d2_13 : decode method_3_code 13 = .ok (.iload_n 0, 1) := by decide +kernel
theorem i6d2_14 : decode method_3_code 14 = .ok (.iconst 1, 1) := by decide +kernel
theorem i6d2_15 : decode method_3_code 15 = .ok (.if_icmp .eq 14, 3) := by decide +kernel
theorem i6d2_18 : decode method_3_code 18 = .ok (.iload_n 0, 1) := by decide +kernel
theorem i6d2_19 : decode method_3_code 19 = .ok (.iconst 4, 1) := by decide +kernel
theorem i6d2_20 : decode method_3_code 20 = .ok (.if_icmp .eq 9, 3) := by decide +kernel
theorem i6d2_23 : decode method_3_code 23 = .ok (.iload_n 0, 1) := by decide +kernel
theorem i6d2_24 : decode method_3_code 24 = .ok (.bipush 7, 2) := by decide +kernel
theorem i6d2_26 : decode method_3_code 26 = .ok (.if_icmp .ne 6, 3) := by decide +kernel
theorem i6d2_32 : decode method_3_code 32 = .ok (.iload_n 0, 1) := by decide +kernel
theorem i6d2_33 : decode method_3_code 33 = .ok (.iconst 2, 1) := by decide +kernel
theorem i6d2_34 : decode method_3_code 34 = .ok (.if_icmp .eq 14, 3) := by decide +kernel
theorem i6d2_37 : decode method_3_code 37 = .ok (.iload_n 0, 1) := by decide +kernel
theorem i6d2_38 : decode method_3_code 38 = .ok (.iconst 5, 1) := by decide +kernel
theorem i6d2_39 : decode method_3_code 39 = .ok (.if_icmp .eq 9, 3) := by decide +kernel
theorem i6d2_42 : decode method_3_code 42 = .ok (.iload_n 0, 1) := by decide +kernel
theorem i6d2_43 : decode method_3_code 43 = .ok (.bipush 8, 2) := by decide +kernel
theorem i6d2_45 : decode method_3_code 45 = .ok (.if_icmp .ne 6, 3) := by decide +kernel
theorem i6d2_51 : decode method_3_code 51 = .ok (.bipush 32, 2) := by decide +kernel
theorem i6d2_53 : decode method_3_code 53 = .ok (.ireturn, 1) := by decide +kernel
theorem i6pn2 : plainName "com/example/opaq/opaq/EncryptionAlgorithmCheckKeyPinLaw" = true := by first | (simp [plainName, overriddenIn]; done) | decide +kernel
theorem i6ef2 (m : MethodId) (x0 : Int32) : entryFrame m #[(.int x0)] 1 = mkF m 0 #[.val (.int x0)] [] := by first | (simp [entryFrame, mkF, argsToLocals, Value.category]; done) | rfl
set_option maxRecDepth 65536 in
set_option maxHeartbeats 40000000 in
theorem rm_el6 (l : Launch) (Z : State) (a0 : Array Value) (hw : ∀ d ∈ tables_1, d.before a0 Z = true) (ws : List Jvm.Cond)   (h0 : Heap) (n0 : Nat) (Z0 : n0 ≤ h0.size)  :
    MetFree l (⟨"com/example/opaq/opaq/EncryptionAlgorithmCheckKeyPinLaw", "expectedLength", "(I)I"⟩ : MethodName) (head1 (Jvm.Cond.code (⟨"com/example/opaq/opaq/EncryptionAlgorithmCheckKeyPinLaw", "expectedLength", "(I)I"⟩ : MethodName) method_3_code 1 (some .int) :: ws) ({ frames := 0, cells := 0, slots := 0, locals := 0 } : Room)) (fun a U => a = #[(.int (6 : Int32))] ∧ Z.Warmed39 U.vm ∧ U.heap = h0) (fun _ _ _ _ _ => True) (fun _ U o U' => ∃ v L, o = .returned v ∧ Q_el6 Z  h0 n0 v U'.heap L ∧ FrameEnd U o U' L ({ frames := 0, cells := 0, slots := 0, locals := 0 } : Room).cells ({ frames := 0, cells := 0, slots := 0, locals := 0 } : Room).slots) := by
  refine MetFree.of_bodySF (plainFor_of_name i6pn2) hisR ?_
  intro p e s m args below meth c s₁ Bd hml0 hP hK
  obtain ⟨rfl, hZ, hh⟩ := hP
  have hx := Bd.exec
  have hby := Bd.bytes
  have hret := Bd.returns
  have hlk := Bd.notSynchronized
  have hml : c.maxLocals = 1 := hml0
  have hown : s.vm.findClass "com/example/opaq/opaq/EncryptionAlgorithmCheckKeyPinLaw" = some m.cls := findClass_of_methodNamed Bd.named
  have hnm := (name_of_methodNamed Bd.named Bd.method).1
  have X0 : Stand p l e ({ frames := 0, cells := 0, slots := 0, locals := 0 } : Room) s m #[(.int (6 : Int32))] below meth c s₁ [] 0 0 := Stand.of_body Bd
  have e0 : s₁.heap = h0 := by rw [← hh, Bd.state]; rfl
  have N0 := Fr.nil n0
  show Wp p e below (fun o s₂ => ∃ v L, o = .returned v ∧ Q_el6 Z  h0 n0 v s₂.heap L ∧ FrameEnd s o s₂ L ({ frames := 0, cells := 0, slots := 0, locals := 0 } : Room).cells ({ frames := 0, cells := 0, slots := 0, locals := 0 } : Room).slots) _
  refine Wp.back (U' := (s₁.setTop (mkF m 0 #[.val (.int (6 : Int32))] []))) (fun t k => castTop (i6ef2 m (6 : Int32)) k) ?_
  refine Wp.back (U' := (s₁.setTop (mkF m 24 #[.val (.int (6 : Int32))] [(.int (6 : Int32))]))) (fun t k => XS.iloadN X0.here hx rfl (hb hby i6d2_0) rfl (XS.ifNo X0.here hx rfl (hb hby i6d2_1) rfl ((if0 _ _).trans (feq (by decide)).1) (XS.iloadN X0.here hx rfl (hb hby i6d2_4) rfl (XT.bipushV X0.here hx rfl (10 : Int32) (hb hby i6d2_5) (by decide) (XS.icmpYes X0.here hx rfl (pc0 := 7) (pc' := 13) rfl (hb hby i6d2_7) rfl (feq (by decide)).2 (by decide) (by decide) (XS.iloadN X0.here hx rfl (hb hby i6d2_13) rfl (XT.iconstV X0.here hx rfl (1 : Int32) (hb hby i6d2_14) (by decide) (XS.icmpNo X0.here hx rfl (hb hby i6d2_15) rfl (feq (by decide)).1 (XS.iloadN X0.here hx rfl (hb hby i6d2_18) rfl (XT.iconstV X0.here hx rfl (4 : Int32) (hb hby i6d2_19) (by decide) (XS.icmpNo X0.here hx rfl (hb hby i6d2_20) rfl (feq (by decide)).1 (XS.iloadN X0.here hx rfl (hb hby i6d2_23) rfl k)))))))))))) ?_
  refine Wp.back (U' := (s₁.setTop (mkF m 53 #[.val (.int (6 : Int32))] [(.int (32 : Int32))]))) (fun t k => XT.bipushV X0.here hx rfl (7 : Int32) (hb hby i6d2_24) (by decide) (XS.icmpYes X0.here hx rfl (pc0 := 26) (pc' := 32) rfl (hb hby i6d2_26) rfl (feq (by decide)).2 (by decide) (by decide) (XS.iloadN X0.here hx rfl (hb hby i6d2_32) rfl (XT.iconstV X0.here hx rfl (2 : Int32) (hb hby i6d2_33) (by decide) (XS.icmpNo X0.here hx rfl (hb hby i6d2_34) rfl (feq (by decide)).1 (XS.iloadN X0.here hx rfl (hb hby i6d2_37) rfl (XT.iconstV X0.here hx rfl (5 : Int32) (hb hby i6d2_38) (by decide) (XS.icmpNo X0.here hx rfl (hb hby i6d2_39) rfl (feq (by decide)).1 (XS.iloadN X0.here hx rfl (hb hby i6d2_42) rfl (XT.bipushV X0.here hx rfl (8 : Int32) (hb hby i6d2_43) (by decide) (XS.icmpYes X0.here hx rfl (pc0 := 45) (pc' := 51) rfl (hb hby i6d2_45) rfl (feq (by decide)).2 (by decide) (by decide) (XT.bipushV X0.here hx rfl (32 : Int32) (hb hby i6d2_51) (by decide) k)))))))))))) ?_
  obtain ⟨fs, hr, hrun, hended, hW, hsame⟩ := X0.leave (v := (some (.int (32 : Int32)))) (fun h => by rw [hret] at h; cases h)
  refine Wp.done (retI X0 hx hret (hb hby i6d2_53) hr) hrun hended ⟨_, _, rfl, ?_, ⟨_, rfl⟩, hW, hsame.mono (by decide) (by decide)⟩
  show Q_el6 Z  h0 n0 _ s₁.heap _
  rw [e0]
  exact ⟨rfl, N0, (Keep.refl h0 [])⟩
def Q_pk7 (Z : State)  (wo : Addr) (h0 : Heap) (n0 : Nat) (v : Option Value) (h : Heap) (L : List Loc) : Prop := v = some (.ref wo) ∧ Fr n0 L ∧ Keep h0 h []
theorem i7d1_0 : decode method_2_code 0 = .ok (.iload_n 0, 1) := by decide +kernel
theorem i7d1_1 : decode method_2_code 1 = .ok (.ifCond .ne 7, 3) := by decide +kernel
theorem i7d1_8 : decode method_2_code 8 = .ok (.iload_n 0, 1) := by decide +kernel
theorem i7d1_9 : decode method_2_code 9 = .ok (.iconst 1, 1) := by decide +kernel
theorem i7d1_10 : decode method_2_code 10 = .ok (.if_icmp .ne 7, 3) := by decide +kernel
theorem i7d1_17 : decode method_2_code 17 = .ok (.iload_n 0, 1) := by decide +kernel
theorem i7d1_18 : decode method_2_code 18 = .ok (.iconst 2, 1) := by decide +kernel
theorem i7d1_19 : decode method_2_code 19 = .ok (.if_icmp .ne 7, 3) := by decide +kernel
theorem i7d1_26 : decode method_2_code 26 = .ok (.iload_n 0, 1) := by decide +kernel
theorem i7d1_27 : decode method_2_code 27 = .ok (.iconst 3, 1) := by decide +kernel
theorem i7d1_28 : decode method_2_code 28 = .ok (.if_icmp .ne 7, 3) := by decide +kernel
theorem i7d1_35 : decode method_2_code 35 = .ok (.iload_n 0, 1) := by decide +kernel
theorem i7d1_36 : decode method_2_code 36 = .ok (.iconst 4, 1) := by decide +kernel
theorem i7d1_37 : decode method_2_code 37 = .ok (.if_icmp .ne 7, 3) := by decide +kernel
theorem i7d1_44 : decode method_2_code 44 = .ok (.iload_n 0, 1) := by decide +kernel
theorem i7d1_45 : decode method_2_code 45 = .ok (.iconst 5, 1) := by decide +kernel
theorem i7d1_46 : decode method_2_code 46 = .ok (.if_icmp .ne 7, 3) := by decide +kernel
theorem i7d1_53 : decode method_2_code 53 = .ok (.iload_n 0, 1) := by decide +kernel
theorem i7d1_54 : decode method_2_code 54 = .ok (.bipush 6, 2) := by decide +kernel
theorem i7d1_56 : decode method_2_code 56 = .ok (.if_icmp .ne 7, 3) := by decide +kernel
theorem i7d1_63 : decode method_2_code 63 = .ok (.iload_n 0, 1) := by decide +kernel
theorem i7d1_64 : decode method_2_code 64 = .ok (.bipush 7, 2) := by decide +kernel
theorem i7d1_66 : decode method_2_code 66 = .ok (.if_icmp .ne 7, 3) := by decide +kernel
theorem i7d1_69 : decode method_2_code 69 = .ok (.getstatic 31, 3) := by decide +kernel
theorem i7d1_72 : decode method_2_code 72 = .ok (.areturn, 1) := by decide +kernel
theorem i7pn1 : plainName "com/example/opaq/opaq/EncryptionAlgorithmCheckKeyPinLaw" = true := by first | (simp [plainName, overriddenIn]; done) | decide +kernel
theorem i7ef1 (m : MethodId) (x0 : Int32) : entryFrame m #[(.int x0)] 1 = mkF m 0 #[.val (.int x0)] [] := by first | (simp [entryFrame, mkF, argsToLocals, Value.category]; done) | rfl
set_option maxRecDepth 65536 in
set_option maxHeartbeats 40000000 in
theorem rm_pk7 (l : Launch) (Z : State) (a0 : Array Value) (hw : ∀ d ∈ tables_1, d.before a0 Z = true) (ws : List Jvm.Cond)  (wo : Addr) (h0 : Heap) (n0 : Nat) (Z0 : n0 ≤ h0.size) (H0 : Sta Z h0 "com/example/opaq/opaq/EncryptionAlgorithm" "KW_AES128" "Lcom/example/opaq/opaq/EncryptionAlgorithm;" (.ref wo)) :
    MetFree l (⟨"com/example/opaq/opaq/EncryptionAlgorithmCheckKeyPinLaw", "pick", "(I)Lcom/example/opaq/opaq/EncryptionAlgorithm;"⟩ : MethodName) (head1 (Jvm.Cond.code (⟨"com/example/opaq/opaq/EncryptionAlgorithmCheckKeyPinLaw", "pick", "(I)Lcom/example/opaq/opaq/EncryptionAlgorithm;"⟩ : MethodName) method_2_code 1 (some (.object "com/example/opaq/opaq/EncryptionAlgorithm")) :: ws) ({ frames := 0, cells := 0, slots := 0, locals := 0 } : Room)) (fun a U => a = #[(.int (7 : Int32))] ∧ Z.Warmed39 U.vm ∧ U.heap = h0) (fun _ _ _ _ _ => True) (fun _ U o U' => ∃ v L, o = .returned v ∧ Q_pk7 Z wo h0 n0 v U'.heap L ∧ FrameEnd U o U' L ({ frames := 0, cells := 0, slots := 0, locals := 0 } : Room).cells ({ frames := 0, cells := 0, slots := 0, locals := 0 } : Room).slots) := by
  refine MetFree.of_bodySF (plainFor_of_name i7pn1) hisR ?_
  intro p e s m args below meth c s₁ Bd hml0 hP hK
  obtain ⟨rfl, hZ, hh⟩ := hP
  have hx := Bd.exec
  have hby := Bd.bytes
  have hret := Bd.returns
  have hlk := Bd.notSynchronized
  have hml : c.maxLocals = 1 := hml0
  have hown : s.vm.findClass "com/example/opaq/opaq/EncryptionAlgorithmCheckKeyPinLaw" = some m.cls := findClass_of_methodNamed Bd.named
  have hnm := (name_of_methodNamed Bd.named Bd.method).1
  have X0 : Stand p l e ({ frames := 0, cells := 0, slots := 0, locals := 0 } : Room) s m #[(.int (7 : Int32))] below meth c s₁ [] 0 0 := Stand.of_body Bd
  have e0 : s₁.heap = h0 := by rw [← hh, Bd.state]; rfl
  have N0 := Fr.nil n0
  show Wp p e below (fun o s₂ => ∃ v L, o = .returned v ∧ Q_pk7 Z wo h0 n0 v s₂.heap L ∧ FrameEnd s o s₂ L ({ frames := 0, cells := 0, slots := 0, locals := 0 } : Room).cells ({ frames := 0, cells := 0, slots := 0, locals := 0 } : Room).slots) _
  refine Wp.back (U' := (s₁.setTop (mkF m 0 #[.val (.int (7 : Int32))] []))) (fun t k => castTop (i7ef1 m (7 : Int32)) k) ?_
  refine Wp.back (U' := (s₁.setTop (mkF m 36 #[.val (.int (7 : Int32))] [(.int (7 : Int32))]))) (fun t k => XS.iloadN X0.here hx rfl (hb hby i7d1_0) rfl (XS.ifYes X0.here hx rfl (pc0 := 1) (pc' := 8) rfl (hb hby i7d1_1) rfl ((if0 _ _).trans (feq (by decide)).2) (by decide) (by decide) (XS.iloadN X0.here hx rfl (hb hby i7d1_8) rfl (XT.iconstV X0.here hx rfl (1 : Int32) (hb hby i7d1_9) (by decide) (XS.icmpYes X0.here hx rfl (pc0 := 10) (pc' := 17) rfl (hb hby i7d1_10) rfl (feq (by decide)).2 (by decide) (by decide) (XS.iloadN X0.here hx rfl (hb hby i7d1_17) rfl (XT.iconstV X0.here hx rfl (2 : Int32) (hb hby i7d1_18) (by decide) (XS.icmpYes X0.here hx rfl (pc0 := 19) (pc' := 26) rfl (hb hby i7d1_19) rfl (feq (by decide)).2 (by decide) (by decide) (XS.iloadN X0.here hx rfl (hb hby i7d1_26) rfl (XT.iconstV X0.here hx rfl (3 : Int32) (hb hby i7d1_27) (by decide) (XS.icmpYes X0.here hx rfl (pc0 := 28) (pc' := 35) rfl (hb hby i7d1_28) rfl (feq (by decide)).2 (by decide) (by decide) (XS.iloadN X0.here hx rfl (hb hby i7d1_35) rfl k)))))))))))) ?_
  refine Wp.back (U' := (s₁.setTop (mkF m 69 #[.val (.int (7 : Int32))] []))) (fun t k => XT.iconstV X0.here hx rfl (4 : Int32) (hb hby i7d1_36) (by decide) (XS.icmpYes X0.here hx rfl (pc0 := 37) (pc' := 44) rfl (hb hby i7d1_37) rfl (feq (by decide)).2 (by decide) (by decide) (XS.iloadN X0.here hx rfl (hb hby i7d1_44) rfl (XT.iconstV X0.here hx rfl (5 : Int32) (hb hby i7d1_45) (by decide) (XS.icmpYes X0.here hx rfl (pc0 := 46) (pc' := 53) rfl (hb hby i7d1_46) rfl (feq (by decide)).2 (by decide) (by decide) (XS.iloadN X0.here hx rfl (hb hby i7d1_53) rfl (XT.bipushV X0.here hx rfl (6 : Int32) (hb hby i7d1_54) (by decide) (XS.icmpYes X0.here hx rfl (pc0 := 56) (pc' := 63) rfl (hb hby i7d1_56) rfl (feq (by decide)).2 (by decide) (by decide) (XS.iloadN X0.here hx rfl (hb hby i7d1_63) rfl (XT.bipushV X0.here hx rfl (7 : Int32) (hb hby i7d1_64) (by decide) (XS.icmpNo X0.here hx rfl (hb hby i7d1_66) rfl (teq (by decide)).2 k))))))))))) ?_
  obtain ⟨T1, X1, e1, st1⟩ := getS2 X0 hx hZ hown (host := "") (Or.inl (hw _ (List.mem_of_getElem? (i := 35) rfl))) Via.refl e0 H0 (g := (mkF m 69 #[.val (.int (7 : Int32))] [])) rfl (hb hby i7d1_69)
  refine Wp.back (U' := (T1.setTop (mkF m 72 #[.val (.int (7 : Int32))] [(.ref wo)]))) st1 ?_
  obtain ⟨fs, hr, hrun, hended, hW, hsame⟩ := X1.leave (v := (some (.ref wo))) (fun h => by rw [hret] at h; cases h)
  refine Wp.done (retOut X1 hx hret rfl (Or.inr (Or.inr (Or.inr (Or.inr ⟨rfl, rfl, rfl⟩)))) (hb hby i7d1_72) hr) hrun hended ⟨_, _, rfl, ?_, ⟨_, rfl⟩, hW, hsame.mono (by decide) (by decide)⟩
  show Q_pk7 Z wo h0 n0 _ T1.heap _
  rw [e1]
  exact ⟨rfl, N0, (Keep.refl h0 [])⟩
def Q_el7 (Z : State)   (h0 : Heap) (n0 : Nat) (v : Option Value) (h : Heap) (L : List Loc) : Prop := v = some (.int (16 : Int32)) ∧ Fr n0 L ∧ Keep h0 h []
theorem i7d2_0 : decode method_3_code 0 = .ok (.iload_n 0, 1) := by decide +kernel
theorem i7d2_1 : decode method_3_code 1 = .ok (.ifCond .eq 9, 3) := by decide +kernel
theorem i7d2_4 : decode method_3_code 4 = .ok (.iload_n 0, 1) := by decide +kernel
theorem i7d2_5 : decode method_3_code 5 = .ok (.bipush 10, 2) := by decide +kernel
theorem i7d2_7 : decode method_3_code 7 = .ok (.if_icmp .ne 6, 3) := by decide +kernel
theorem i7d2_13 : decode method_3_code 13 = .ok (.iload_n 0, 1) := by decide +kernel
theorem i7d2_14 : decode method_3_code 14 = .ok (.iconst 1, 1) := by decide +kernel
theorem i7d2_15 : decode method_3_code 15 = .ok (.if_icmp .eq 14, 3) := by decide +kernel
theorem i7d2_18 : decode method_3_code 18 = .ok (.iload_n 0, 1) := by decide +kernel
theorem i7d2_19 : decode method_3_code 19 = .ok (.iconst 4, 1) := by decide +kernel
theorem i7d2_20 : decode method_3_code 20 = .ok (.if_icmp .eq 9, 3) := by decide +kernel
theorem i7d2_23 : decode method_3_code 23 = .ok (.iload_n 0, 1) := by decide +kernel
theorem i7d2_24 : decode method_3_code 24 = .ok (.bipush 7, 2) := by decide +kernel
theorem i7d2_26 : decode method_3_code 26 = .ok (.if_icmp .ne 6, 3) := by decide +kernel
theorem i7d2_29 : decode method_3_code 29 = .ok (.bipush 16, 2) := by decide +kernel
theorem i7d2_31 : decode method_3_code 31 = .ok (.ireturn, 1) := by decide +kernel
theorem i7pn2 : plainName "com/example/opaq/opaq/EncryptionAlgorithmCheckKeyPinLaw" = true := by first | (simp [plainName, overriddenIn]; done) | decide +kernel
theorem i7ef2 (m : MethodId) (x0 : Int32) : entryFrame m #[(.int x0)] 1 = mkF m 0 #[.val (.int x0)] [] := by first | (simp [entryFrame, mkF, argsToLocals, Value.category]; done) | rfl
set_option maxRecDepth 65536 in
set_option maxHeartbeats 40000000 in
theorem rm_el7 (l : Launch) (Z : State) (a0 : Array Value) (hw : ∀ d ∈ tables_1, d.before a0 Z = true) (ws : List Jvm.Cond)   (h0 : Heap) (n0 : Nat) (Z0 : n0 ≤ h0.size)  :
    MetFree l (⟨"com/example/opaq/opaq/EncryptionAlgorithmCheckKeyPinLaw", "expectedLength", "(I)I"⟩ : MethodName) (head1 (Jvm.Cond.code (⟨"com/example/opaq/opaq/EncryptionAlgorithmCheckKeyPinLaw", "expectedLength", "(I)I"⟩ : MethodName) method_3_code 1 (some .int) :: ws) ({ frames := 0, cells := 0, slots := 0, locals := 0 } : Room)) (fun a U => a = #[(.int (7 : Int32))] ∧ Z.Warmed39 U.vm ∧ U.heap = h0) (fun _ _ _ _ _ => True) (fun _ U o U' => ∃ v L, o = .returned v ∧ Q_el7 Z  h0 n0 v U'.heap L ∧ FrameEnd U o U' L ({ frames := 0, cells := 0, slots := 0, locals := 0 } : Room).cells ({ frames := 0, cells := 0, slots := 0, locals := 0 } : Room).slots) := by
  refine MetFree.of_bodySF (plainFor_of_name i7pn2) hisR ?_
  intro p e s m args below meth c s₁ Bd hml0 hP hK
  obtain ⟨rfl, hZ, hh⟩ := hP
  have hx := Bd.exec
  have hby := Bd.bytes
  have hret := Bd.returns
  have hlk := Bd.notSynchronized
  have hml : c.maxLocals = 1 := hml0
  have hown : s.vm.findClass "com/example/opaq/opaq/EncryptionAlgorithmCheckKeyPinLaw" = some m.cls := findClass_of_methodNamed Bd.named
  have hnm := (name_of_methodNamed Bd.named Bd.method).1
  have X0 : Stand p l e ({ frames := 0, cells := 0, slots := 0, locals := 0 } : Room) s m #[(.int (7 : Int32))] below meth c s₁ [] 0 0 := Stand.of_body Bd
  have e0 : s₁.heap = h0 := by rw [← hh, Bd.state]; rfl
  have N0 := Fr.nil n0
  show Wp p e below (fun o s₂ => ∃ v L, o = .returned v ∧ Q_el7 Z  h0 n0 v s₂.heap L ∧ FrameEnd s o s₂ L ({ frames := 0, cells := 0, slots := 0, locals := 0 } : Room).cells ({ frames := 0, cells := 0, slots := 0, locals := 0 } : Room).slots) _
  refine Wp.back (U' := (s₁.setTop (mkF m 0 #[.val (.int (7 : Int32))] []))) (fun t k => castTop (i7ef2 m (7 : Int32)) k) ?_
  refine Wp.back (U' := (s₁.setTop (mkF m 24 #[.val (.int (7 : Int32))] [(.int (7 : Int32))]))) (fun t k => XS.iloadN X0.here hx rfl (hb hby i7d2_0) rfl (XS.ifNo X0.here hx rfl (hb hby i7d2_1) rfl ((if0 _ _).trans (feq (by decide)).1) (XS.iloadN X0.here hx rfl (hb hby i7d2_4) rfl (XT.bipushV X0.here hx rfl (10 : Int32) (hb hby i7d2_5) (by decide) (XS.icmpYes X0.here hx rfl (pc0 := 7) (pc' := 13) rfl (hb hby i7d2_7) rfl (feq (by decide)).2 (by decide) (by decide) (XS.iloadN X0.here hx rfl (hb hby i7d2_13) rfl (XT.iconstV X0.here hx rfl (1 : Int32) (hb hby i7d2_14) (by decide) (XS.icmpNo X0.here hx rfl (hb hby i7d2_15) rfl (feq (by decide)).1 (XS.iloadN X0.here hx rfl (hb hby i7d2_18) rfl (XT.iconstV X0.here hx rfl (4 : Int32) (hb hby i7d2_19) (by decide) (XS.icmpNo X0.here hx rfl (hb hby i7d2_20) rfl (feq (by decide)).1 (XS.iloadN X0.here hx rfl (hb hby i7d2_23) rfl k)))))))))))) ?_
  refine Wp.back (U' := (s₁.setTop (mkF m 31 #[.val (.int (7 : Int32))] [(.int (16 : Int32))]))) (fun t k => XT.bipushV X0.here hx rfl (7 : Int32) (hb hby i7d2_24) (by decide) (XS.icmpNo X0.here hx rfl (hb hby i7d2_26) rfl (teq (by decide)).2 (XT.bipushV X0.here hx rfl (16 : Int32) (hb hby i7d2_29) (by decide) k))) ?_
  obtain ⟨fs, hr, hrun, hended, hW, hsame⟩ := X0.leave (v := (some (.int (16 : Int32)))) (fun h => by rw [hret] at h; cases h)
  refine Wp.done (retI X0 hx hret (hb hby i7d2_31) hr) hrun hended ⟨_, _, rfl, ?_, ⟨_, rfl⟩, hW, hsame.mono (by decide) (by decide)⟩
  show Q_el7 Z  h0 n0 _ s₁.heap _
  rw [e0]
  exact ⟨rfl, N0, (Keep.refl h0 [])⟩
def Q_pk8 (Z : State)  (wo : Addr) (h0 : Heap) (n0 : Nat) (v : Option Value) (h : Heap) (L : List Loc) : Prop := v = some (.ref wo) ∧ Fr n0 L ∧ Keep h0 h []
theorem i8d1_0 : decode method_2_code 0 = .ok (.iload_n 0, 1) := by decide +kernel
theorem i8d1_1 : decode method_2_code 1 = .ok (.ifCond .ne 7, 3) := by decide +kernel
theorem i8d1_8 : decode method_2_code 8 = .ok (.iload_n 0, 1) := by decide +kernel
theorem i8d1_9 : decode method_2_code 9 = .ok (.iconst 1, 1) := by decide +kernel
theorem i8d1_10 : decode method_2_code 10 = .ok (.if_icmp .ne 7, 3) := by decide +kernel
theorem i8d1_17 : decode method_2_code 17 = .ok (.iload_n 0, 1) := by decide +kernel
theorem i8d1_18 : decode method_2_code 18 = .ok (.iconst 2, 1) := by decide +kernel
theorem i8d1_19 : decode method_2_code 19 = .ok (.if_icmp .ne 7, 3) := by decide +kernel
theorem i8d1_26 : decode method_2_code 26 = .ok (.iload_n 0, 1) := by decide +kernel
theorem i8d1_27 : decode method_2_code 27 = .ok (.iconst 3, 1) := by decide +kernel
theorem i8d1_28 : decode method_2_code 28 = .ok (.if_icmp .ne 7, 3) := by decide +kernel
theorem i8d1_35 : decode method_2_code 35 = .ok (.iload_n 0, 1) := by decide +kernel
theorem i8d1_36 : decode method_2_code 36 = .ok (.iconst 4, 1) := by decide +kernel
theorem i8d1_37 : decode method_2_code 37 = .ok (.if_icmp .ne 7, 3) := by decide +kernel
theorem i8d1_44 : decode method_2_code 44 = .ok (.iload_n 0, 1) := by decide +kernel
theorem i8d1_45 : decode method_2_code 45 = .ok (.iconst 5, 1) := by decide +kernel
theorem i8d1_46 : decode method_2_code 46 = .ok (.if_icmp .ne 7, 3) := by decide +kernel
theorem i8d1_53 : decode method_2_code 53 = .ok (.iload_n 0, 1) := by decide +kernel
theorem i8d1_54 : decode method_2_code 54 = .ok (.bipush 6, 2) := by decide +kernel
theorem i8d1_56 : decode method_2_code 56 = .ok (.if_icmp .ne 7, 3) := by decide +kernel
theorem i8d1_63 : decode method_2_code 63 = .ok (.iload_n 0, 1) := by decide +kernel
theorem i8d1_64 : decode method_2_code 64 = .ok (.bipush 7, 2) := by decide +kernel
theorem i8d1_66 : decode method_2_code 66 = .ok (.if_icmp .ne 7, 3) := by decide +kernel
theorem i8d1_73 : decode method_2_code 73 = .ok (.iload_n 0, 1) := by decide +kernel
theorem i8d1_74 : decode method_2_code 74 = .ok (.bipush 8, 2) := by decide +kernel
theorem i8d1_76 : decode method_2_code 76 = .ok (.if_icmp .ne 7, 3) := by decide +kernel
theorem i8d1_79 : decode method_2_code 79 = .ok (.getstatic 34, 3) := by decide +kernel
theorem i8d1_82 : decode method_2_code 82 = .ok (.areturn, 1) := by decide +kernel
theorem i8pn1 : plainName "com/example/opaq/opaq/EncryptionAlgorithmCheckKeyPinLaw" = true := by first | (simp [plainName, overriddenIn]; done) | decide +kernel
theorem i8ef1 (m : MethodId) (x0 : Int32) : entryFrame m #[(.int x0)] 1 = mkF m 0 #[.val (.int x0)] [] := by first | (simp [entryFrame, mkF, argsToLocals, Value.category]; done) | rfl
set_option maxRecDepth 65536 in
set_option maxHeartbeats 40000000 in
theorem rm_pk8 (l : Launch) (Z : State) (a0 : Array Value) (hw : ∀ d ∈ tables_1, d.before a0 Z = true) (ws : List Jvm.Cond)  (wo : Addr) (h0 : Heap) (n0 : Nat) (Z0 : n0 ≤ h0.size) (H0 : Sta Z h0 "com/example/opaq/opaq/EncryptionAlgorithm" "KW_AES192" "Lcom/example/opaq/opaq/EncryptionAlgorithm;" (.ref wo)) :
    MetFree l (⟨"com/example/opaq/opaq/EncryptionAlgorithmCheckKeyPinLaw", "pick", "(I)Lcom/example/opaq/opaq/EncryptionAlgorithm;"⟩ : MethodName) (head1 (Jvm.Cond.code (⟨"com/example/opaq/opaq/EncryptionAlgorithmCheckKeyPinLaw", "pick", "(I)Lcom/example/opaq/opaq/EncryptionAlgorithm;"⟩ : MethodName) method_2_code 1 (some (.object "com/example/opaq/opaq/EncryptionAlgorithm")) :: ws) ({ frames := 0, cells := 0, slots := 0, locals := 0 } : Room)) (fun a U => a = #[(.int (8 : Int32))] ∧ Z.Warmed39 U.vm ∧ U.heap = h0) (fun _ _ _ _ _ => True) (fun _ U o U' => ∃ v L, o = .returned v ∧ Q_pk8 Z wo h0 n0 v U'.heap L ∧ FrameEnd U o U' L ({ frames := 0, cells := 0, slots := 0, locals := 0 } : Room).cells ({ frames := 0, cells := 0, slots := 0, locals := 0 } : Room).slots) := by
  refine MetFree.of_bodySF (plainFor_of_name i8pn1) hisR ?_
  intro p e s m args below meth c s₁ Bd hml0 hP hK
  obtain ⟨rfl, hZ, hh⟩ := hP
  have hx := Bd.exec
  have hby := Bd.bytes
  have hret := Bd.returns
  have hlk := Bd.notSynchronized
  have hml : c.maxLocals = 1 := hml0
  have hown : s.vm.findClass "com/example/opaq/opaq/EncryptionAlgorithmCheckKeyPinLaw" = some m.cls := findClass_of_methodNamed Bd.named
  have hnm := (name_of_methodNamed Bd.named Bd.method).1
  have X0 : Stand p l e ({ frames := 0, cells := 0, slots := 0, locals := 0 } : Room) s m #[(.int (8 : Int32))] below meth c s₁ [] 0 0 := Stand.of_body Bd
  have e0 : s₁.heap = h0 := by rw [← hh, Bd.state]; rfl
  have N0 := Fr.nil n0
  show Wp p e below (fun o s₂ => ∃ v L, o = .returned v ∧ Q_pk8 Z wo h0 n0 v s₂.heap L ∧ FrameEnd s o s₂ L ({ frames := 0, cells := 0, slots := 0, locals := 0 } : Room).cells ({ frames := 0, cells := 0, slots := 0, locals := 0 } : Room).slots) _
  refine Wp.back (U' := (s₁.setTop (mkF m 0 #[.val (.int (8 : Int32))] []))) (fun t k => castTop (i8ef1 m (8 : Int32)) k) ?_
  refine Wp.back (U' := (s₁.setTop (mkF m 36 #[.val (.int (8 : Int32))] [(.int (8 : Int32))]))) (fun t k => XS.iloadN X0.here hx rfl (hb hby i8d1_0) rfl (XS.ifYes X0.here hx rfl (pc0 := 1) (pc' := 8) rfl (hb hby i8d1_1) rfl ((if0 _ _).trans (feq (by decide)).2) (by decide) (by decide) (XS.iloadN X0.here hx rfl (hb hby i8d1_8) rfl (XT.iconstV X0.here hx rfl (1 : Int32) (hb hby i8d1_9) (by decide) (XS.icmpYes X0.here hx rfl (pc0 := 10) (pc' := 17) rfl (hb hby i8d1_10) rfl (feq (by decide)).2 (by decide) (by decide) (XS.iloadN X0.here hx rfl (hb hby i8d1_17) rfl (XT.iconstV X0.here hx rfl (2 : Int32) (hb hby i8d1_18) (by decide) (XS.icmpYes X0.here hx rfl (pc0 := 19) (pc' := 26) rfl (hb hby i8d1_19) rfl (feq (by decide)).2 (by decide) (by decide) (XS.iloadN X0.here hx rfl (hb hby i8d1_26) rfl (XT.iconstV X0.here hx rfl (3 : Int32) (hb hby i8d1_27) (by decide) (XS.icmpYes X0.here hx rfl (pc0 := 28) (pc' := 35) rfl (hb hby i8d1_28) rfl (feq (by decide)).2 (by decide) (by decide) (XS.iloadN X0.here hx rfl (hb hby i8d1_35) rfl k)))))))))))) ?_
  refine Wp.back (U' := (s₁.setTop (mkF m 74 #[.val (.int (8 : Int32))] [(.int (8 : Int32))]))) (fun t k => XT.iconstV X0.here hx rfl (4 : Int32) (hb hby i8d1_36) (by decide) (XS.icmpYes X0.here hx rfl (pc0 := 37) (pc' := 44) rfl (hb hby i8d1_37) rfl (feq (by decide)).2 (by decide) (by decide) (XS.iloadN X0.here hx rfl (hb hby i8d1_44) rfl (XT.iconstV X0.here hx rfl (5 : Int32) (hb hby i8d1_45) (by decide) (XS.icmpYes X0.here hx rfl (pc0 := 46) (pc' := 53) rfl (hb hby i8d1_46) rfl (feq (by decide)).2 (by decide) (by decide) (XS.iloadN X0.here hx rfl (hb hby i8d1_53) rfl (XT.bipushV X0.here hx rfl (6 : Int32) (hb hby i8d1_54) (by decide) (XS.icmpYes X0.here hx rfl (pc0 := 56) (pc' := 63) rfl (hb hby i8d1_56) rfl (feq (by decide)).2 (by decide) (by decide) (XS.iloadN X0.here hx rfl (hb hby i8d1_63) rfl (XT.bipushV X0.here hx rfl (7 : Int32) (hb hby i8d1_64) (by decide) (XS.icmpYes X0.here hx rfl (pc0 := 66) (pc' := 73) rfl (hb hby i8d1_66) rfl (feq (by decide)).2 (by decide) (by decide) (XS.iloadN X0.here hx rfl (hb hby i8d1_73) rfl k)))))))))))) ?_
  refine Wp.back (U' := (s₁.setTop (mkF m 79 #[.val (.int (8 : Int32))] []))) (fun t k => XT.bipushV X0.here hx rfl (8 : Int32) (hb hby i8d1_74) (by decide) (XS.icmpNo X0.here hx rfl (hb hby i8d1_76) rfl (teq (by decide)).2 k)) ?_
  obtain ⟨T1, X1, e1, st1⟩ := getS2 X0 hx hZ hown (host := "") (Or.inl (hw _ (List.mem_of_getElem? (i := 27) rfl))) Via.refl e0 H0 (g := (mkF m 79 #[.val (.int (8 : Int32))] [])) rfl (hb hby i8d1_79)
  refine Wp.back (U' := (T1.setTop (mkF m 82 #[.val (.int (8 : Int32))] [(.ref wo)]))) st1 ?_
  obtain ⟨fs, hr, hrun, hended, hW, hsame⟩ := X1.leave (v := (some (.ref wo))) (fun h => by rw [hret] at h; cases h)
  refine Wp.done (retOut X1 hx hret rfl (Or.inr (Or.inr (Or.inr (Or.inr ⟨rfl, rfl, rfl⟩)))) (hb hby i8d1_82) hr) hrun hended ⟨_, _, rfl, ?_, ⟨_, rfl⟩, hW, hsame.mono (by decide) (by decide)⟩
  show Q_pk8 Z wo h0 n0 _ T1.heap _
  rw [e1]
  exact ⟨rfl, N0, (Keep.refl h0 [])⟩
def Q_el8 (Z : State)   (h0 : Heap) (n0 : Nat) (v : Option Value) (h : Heap) (L : List Loc) : Prop := v = some (.int (24 : Int32)) ∧ Fr n0 L ∧ Keep h0 h []
theorem i8d2_0 : decode method_3_code 0 = .ok (.iload_n 0, 1) := by decide +kernel
theorem i8d2_1 : decode method_3_code 1 = .ok (.ifCond .eq 9, 3) := by decide +kernel
theorem i8d2_4 : decode method_3_code 4 = .ok (.iload_n 0, 1) := by decide +kernel
theorem i8d2_5 : decode method_3_code 5 = .ok (.bipush 10, 2) := by decide +kernel
theorem i8d2_7 : decode method_3_code 7 = .ok (.if_icmp .ne 6, 3) := by decide +kernel
theorem i8d2_13 : decode method_3_code 13 = .ok (.iload_n 0, 1) := by decide +kernel
theorem i8d2_14 : decode method_3_code 14 = .ok (.iconst 1, 1) := by decide +kernel
theorem i8d2_15 : decode method_3_code 15 = .ok (.if_icmp .eq 14, 3) := by decide +kernel
theorem i8d2_18 : decode method_3_code 18 = .ok (.iload_n 0, 1) := by decide +kernel
theorem i8d2_19 : decode method_3_code 19 = .ok (.iconst 4, 1) := by decide +kernel
theorem i8d2_20 : decode method_3_code 20 = .ok (.if_icmp .eq 9, 3) := by decide +kernel
theorem i8d2_23 : decode method_3_code 23 = .ok (.iload_n 0, 1) := by decide +kernel
theorem i8d2_24 : decode method_3_code 24 = .ok (.bipush 7, 2) := by decide +kernel
theorem i8d2_26 : decode method_3_code 26 = .ok (.if_icmp .ne 6, 3) := by decide +kernel
theorem i8d2_32 : decode method_3_code 32 = .ok (.iload_n 0, 1) := by decide +kernel
theorem i8d2_33 : decode method_3_code 33 = .ok (.iconst 2, 1) := by decide +kernel
theorem i8d2_34 : decode method_3_code 34 = .ok (.if_icmp .eq 14, 3) := by decide +kernel
theorem i8d2_37 : decode method_3_code 37 = .ok (.iload_n 0, 1) := by decide +kernel
theorem i8d2_38 : decode method_3_code 38 = .ok (.iconst 5, 1) := by decide +kernel
theorem i8d2_39 : decode method_3_code 39 = .ok (.if_icmp .eq 9, 3) := by decide +kernel
theorem i8d2_42 : decode method_3_code 42 = .ok (.iload_n 0, 1) := by decide +kernel
theorem i8d2_43 : decode method_3_code 43 = .ok (.bipush 8, 2) := by decide +kernel
theorem i8d2_45 : decode method_3_code 45 = .ok (.if_icmp .ne 6, 3) := by decide +kernel
theorem i8d2_48 : decode method_3_code 48 = .ok (.bipush 24, 2) := by decide +kernel
theorem i8d2_50 : decode method_3_code 50 = .ok (.ireturn, 1) := by decide +kernel
theorem i8pn2 : plainName "com/example/opaq/opaq/EncryptionAlgorithmCheckKeyPinLaw" = true := by first | (simp [plainName, overriddenIn]; done) | decide +kernel
theorem i8ef2 (m : MethodId) (x0 : Int32) : entryFrame m #[(.int x0)] 1 = mkF m 0 #[.val (.int x0)] [] := by first | (simp [entryFrame, mkF, argsToLocals, Value.category]; done) | rfl
set_option maxRecDepth 65536 in
set_option maxHeartbeats 40000000 in
theorem rm_el8 (l : Launch) (Z : State) (a0 : Array Value) (hw : ∀ d ∈ tables_1, d.before a0 Z = true) (ws : List Jvm.Cond)   (h0 : Heap) (n0 : Nat) (Z0 : n0 ≤ h0.size)  :
    MetFree l (⟨"com/example/opaq/opaq/EncryptionAlgorithmCheckKeyPinLaw", "expectedLength", "(I)I"⟩ : MethodName) (head1 (Jvm.Cond.code (⟨"com/example/opaq/opaq/EncryptionAlgorithmCheckKeyPinLaw", "expectedLength", "(I)I"⟩ : MethodName) method_3_code 1 (some .int) :: ws) ({ frames := 0, cells := 0, slots := 0, locals := 0 } : Room)) (fun a U => a = #[(.int (8 : Int32))] ∧ Z.Warmed39 U.vm ∧ U.heap = h0) (fun _ _ _ _ _ => True) (fun _ U o U' => ∃ v L, o = .returned v ∧ Q_el8 Z  h0 n0 v U'.heap L ∧ FrameEnd U o U' L ({ frames := 0, cells := 0, slots := 0, locals := 0 } : Room).cells ({ frames := 0, cells := 0, slots := 0, locals := 0 } : Room).slots) := by
  refine MetFree.of_bodySF (plainFor_of_name i8pn2) hisR ?_
  intro p e s m args below meth c s₁ Bd hml0 hP hK
  obtain ⟨rfl, hZ, hh⟩ := hP
  have hx := Bd.exec
  have hby := Bd.bytes
  have hret := Bd.returns
  have hlk := Bd.notSynchronized
  have hml : c.maxLocals = 1 := hml0
  have hown : s.vm.findClass "com/example/opaq/opaq/EncryptionAlgorithmCheckKeyPinLaw" = some m.cls := findClass_of_methodNamed Bd.named
  have hnm := (name_of_methodNamed Bd.named Bd.method).1
  have X0 : Stand p l e ({ frames := 0, cells := 0, slots := 0, locals := 0 } : Room) s m #[(.int (8 : Int32))] below meth c s₁ [] 0 0 := Stand.of_body Bd
  have e0 : s₁.heap = h0 := by rw [← hh, Bd.state]; rfl
  have N0 := Fr.nil n0
  show Wp p e below (fun o s₂ => ∃ v L, o = .returned v ∧ Q_el8 Z  h0 n0 v s₂.heap L ∧ FrameEnd s o s₂ L ({ frames := 0, cells := 0, slots := 0, locals := 0 } : Room).cells ({ frames := 0, cells := 0, slots := 0, locals := 0 } : Room).slots) _
  refine Wp.back (U' := (s₁.setTop (mkF m 0 #[.val (.int (8 : Int32))] []))) (fun t k => castTop (i8ef2 m (8 : Int32)) k) ?_
  refine Wp.back (U' := (s₁.setTop (mkF m 24 #[.val (.int (8 : Int32))] [(.int (8 : Int32))]))) (fun t k => XS.iloadN X0.here hx rfl (hb hby i8d2_0) rfl (XS.ifNo X0.here hx rfl (hb hby i8d2_1) rfl ((if0 _ _).trans (feq (by decide)).1) (XS.iloadN X0.here hx rfl (hb hby i8d2_4) rfl (XT.bipushV X0.here hx rfl (10 : Int32) (hb hby i8d2_5) (by decide) (XS.icmpYes X0.here hx rfl (pc0 := 7) (pc' := 13) rfl (hb hby i8d2_7) rfl (feq (by decide)).2 (by decide) (by decide) (XS.iloadN X0.here hx rfl (hb hby i8d2_13) rfl (XT.iconstV X0.here hx rfl (1 : Int32) (hb hby i8d2_14) (by decide) (XS.icmpNo X0.here hx rfl (hb hby i8d2_15) rfl (feq (by decide)).1 (XS.iloadN X0.here hx rfl (hb hby i8d2_18) rfl (XT.iconstV X0.here hx rfl (4 : Int32) (hb hby i8d2_19) (by decide) (XS.icmpNo X0.here hx rfl (hb hby i8d2_20) rfl (feq (by decide)).1 (XS.iloadN X0.here hx rfl (hb hby i8d2_23) rfl k)))))))))))) ?_
  refine Wp.back (U' := (s₁.setTop (mkF m 50 #[.val (.int (8 : Int32))] [(.int (24 : Int32))]))) (fun t k => XT.bipushV X0.here hx rfl (7 : Int32) (hb hby i8d2_24) (by decide) (XS.icmpYes X0.here hx rfl (pc0 := 26) (pc' := 32) rfl (hb hby i8d2_26) rfl (feq (by decide)).2 (by decide) (by decide) (XS.iloadN X0.here hx rfl (hb hby i8d2_32) rfl (XT.iconstV X0.here hx rfl (2 : Int32) (hb hby i8d2_33) (by decide) (XS.icmpNo X0.here hx rfl (hb hby i8d2_34) rfl (feq (by decide)).1 (XS.iloadN X0.here hx rfl (hb hby i8d2_37) rfl (XT.iconstV X0.here hx rfl (5 : Int32) (hb hby i8d2_38) (by decide) (XS.icmpNo X0.here hx rfl (hb hby i8d2_39) rfl (feq (by decide)).1 (XS.iloadN X0.here hx rfl (hb hby i8d2_42) rfl (XT.bipushV X0.here hx rfl (8 : Int32) (hb hby i8d2_43) (by decide) (XS.icmpNo X0.here hx rfl (hb hby i8d2_45) rfl (teq (by decide)).2 (XT.bipushV X0.here hx rfl (24 : Int32) (hb hby i8d2_48) (by decide) k)))))))))))) ?_
  obtain ⟨fs, hr, hrun, hended, hW, hsame⟩ := X0.leave (v := (some (.int (24 : Int32)))) (fun h => by rw [hret] at h; cases h)
  refine Wp.done (retI X0 hx hret (hb hby i8d2_50) hr) hrun hended ⟨_, _, rfl, ?_, ⟨_, rfl⟩, hW, hsame.mono (by decide) (by decide)⟩
  show Q_el8 Z  h0 n0 _ s₁.heap _
  rw [e0]
  exact ⟨rfl, N0, (Keep.refl h0 [])⟩
def Q_pk9 (Z : State)  (wo : Addr) (h0 : Heap) (n0 : Nat) (v : Option Value) (h : Heap) (L : List Loc) : Prop := v = some (.ref wo) ∧ Fr n0 L ∧ Keep h0 h []
theorem i9d1_0 : decode method_2_code 0 = .ok (.iload_n 0, 1) := by decide +kernel
theorem i9d1_1 : decode method_2_code 1 = .ok (.ifCond .ne 7, 3) := by decide +kernel
theorem i9d1_8 : decode method_2_code 8 = .ok (.iload_n 0, 1) := by decide +kernel
theorem i9d1_9 : decode method_2_code 9 = .ok (.iconst 1, 1) := by decide +kernel
theorem i9d1_10 : decode method_2_code 10 = .ok (.if_icmp .ne 7, 3) := by decide +kernel
theorem i9d1_17 : decode method_2_code 17 = .ok (.iload_n 0, 1) := by decide +kernel
theorem i9d1_18 : decode method_2_code 18 = .ok (.iconst 2, 1) := by decide +kernel
theorem i9d1_19 : decode method_2_code 19 = .ok (.if_icmp .ne 7, 3) := by decide +kernel
theorem i9d1_26 : decode method_2_code 26 = .ok (.iload_n 0, 1) := by decide +kernel
theorem i9d1_27 : decode method_2_code 27 = .ok (.iconst 3, 1) := by decide +kernel
theorem i9d1_28 : decode method_2_code 28 = .ok (.if_icmp .ne 7, 3) := by decide +kernel
theorem i9d1_35 : decode method_2_code 35 = .ok (.iload_n 0, 1) := by decide +kernel
theorem i9d1_36 : decode method_2_code 36 = .ok (.iconst 4, 1) := by decide +kernel
theorem i9d1_37 : decode method_2_code 37 = .ok (.if_icmp .ne 7, 3) := by decide +kernel
theorem i9d1_44 : decode method_2_code 44 = .ok (.iload_n 0, 1) := by decide +kernel
theorem i9d1_45 : decode method_2_code 45 = .ok (.iconst 5, 1) := by decide +kernel
theorem i9d1_46 : decode method_2_code 46 = .ok (.if_icmp .ne 7, 3) := by decide +kernel
theorem i9d1_53 : decode method_2_code 53 = .ok (.iload_n 0, 1) := by decide +kernel
theorem i9d1_54 : decode method_2_code 54 = .ok (.bipush 6, 2) := by decide +kernel
theorem i9d1_56 : decode method_2_code 56 = .ok (.if_icmp .ne 7, 3) := by decide +kernel
theorem i9d1_63 : decode method_2_code 63 = .ok (.iload_n 0, 1) := by decide +kernel
theorem i9d1_64 : decode method_2_code 64 = .ok (.bipush 7, 2) := by decide +kernel
theorem i9d1_66 : decode method_2_code 66 = .ok (.if_icmp .ne 7, 3) := by decide +kernel
theorem i9d1_73 : decode method_2_code 73 = .ok (.iload_n 0, 1) := by decide +kernel
theorem i9d1_74 : decode method_2_code 74 = .ok (.bipush 8, 2) := by decide +kernel
theorem i9d1_76 : decode method_2_code 76 = .ok (.if_icmp .ne 7, 3) := by decide +kernel
theorem i9d1_83 : decode method_2_code 83 = .ok (.iload_n 0, 1) := by decide +kernel
theorem i9d1_84 : decode method_2_code 84 = .ok (.bipush 9, 2) := by decide +kernel
theorem i9d1_86 : decode method_2_code 86 = .ok (.if_icmp .ne 7, 3) := by decide +kernel
theorem i9d1_89 : decode method_2_code 89 = .ok (.getstatic 37, 3) := by decide +kernel
theorem i9d1_92 : decode method_2_code 92 = .ok (.areturn, 1) := by decide +kernel
theorem i9pn1 : plainName "com/example/opaq/opaq/EncryptionAlgorithmCheckKeyPinLaw" = true := by first | (simp [plainName, overriddenIn]; done) | decide +kernel
theorem i9ef1 (m : MethodId) (x0 : Int32) : entryFrame m #[(.int x0)] 1 = mkF m 0 #[.val (.int x0)] [] := by first | (simp [entryFrame, mkF, argsToLocals, Value.category]; done) | rfl
set_option maxRecDepth 65536 in
set_option maxHeartbeats 40000000 in
theorem rm_pk9 (l : Launch) (Z : State) (a0 : Array Value) (hw : ∀ d ∈ tables_1, d.before a0 Z = true) (ws : List Jvm.Cond)  (wo : Addr) (h0 : Heap) (n0 : Nat) (Z0 : n0 ≤ h0.size) (H0 : Sta Z h0 "com/example/opaq/opaq/EncryptionAlgorithm" "KW_AES256" "Lcom/example/opaq/opaq/EncryptionAlgorithm;" (.ref wo)) :
    MetFree l (⟨"com/example/opaq/opaq/EncryptionAlgorithmCheckKeyPinLaw", "pick", "(I)Lcom/example/opaq/opaq/EncryptionAlgorithm;"⟩ : MethodName) (head1 (Jvm.Cond.code (⟨"com/example/opaq/opaq/EncryptionAlgorithmCheckKeyPinLaw", "pick", "(I)Lcom/example/opaq/opaq/EncryptionAlgorithm;"⟩ : MethodName) method_2_code 1 (some (.object "com/example/opaq/opaq/EncryptionAlgorithm")) :: ws) ({ frames := 0, cells := 0, slots := 0, locals := 0 } : Room)) (fun a U => a = #[(.int (9 : Int32))] ∧ Z.Warmed39 U.vm ∧ U.heap = h0) (fun _ _ _ _ _ => True) (fun _ U o U' => ∃ v L, o = .returned v ∧ Q_pk9 Z wo h0 n0 v U'.heap L ∧ FrameEnd U o U' L ({ frames := 0, cells := 0, slots := 0, locals := 0 } : Room).cells ({ frames := 0, cells := 0, slots := 0, locals := 0 } : Room).slots) := by
  refine MetFree.of_bodySF (plainFor_of_name i9pn1) hisR ?_
  intro p e s m args below meth c s₁ Bd hml0 hP hK
  obtain ⟨rfl, hZ, hh⟩ := hP
  have hx := Bd.exec
  have hby := Bd.bytes
  have hret := Bd.returns
  have hlk := Bd.notSynchronized
  have hml : c.maxLocals = 1 := hml0
  have hown : s.vm.findClass "com/example/opaq/opaq/EncryptionAlgorithmCheckKeyPinLaw" = some m.cls := findClass_of_methodNamed Bd.named
  have hnm := (name_of_methodNamed Bd.named Bd.method).1
  have X0 : Stand p l e ({ frames := 0, cells := 0, slots := 0, locals := 0 } : Room) s m #[(.int (9 : Int32))] below meth c s₁ [] 0 0 := Stand.of_body Bd
  have e0 : s₁.heap = h0 := by rw [← hh, Bd.state]; rfl
  have N0 := Fr.nil n0
  show Wp p e below (fun o s₂ => ∃ v L, o = .returned v ∧ Q_pk9 Z wo h0 n0 v s₂.heap L ∧ FrameEnd s o s₂ L ({ frames := 0, cells := 0, slots := 0, locals := 0 } : Room).cells ({ frames := 0, cells := 0, slots := 0, locals := 0 } : Room).slots) _
  refine Wp.back (U' := (s₁.setTop (mkF m 0 #[.val (.int (9 : Int32))] []))) (fun t k => castTop (i9ef1 m (9 : Int32)) k) ?_
  refine Wp.back (U' := (s₁.setTop (mkF m 36 #[.val (.int (9 : Int32))] [(.int (9 : Int32))]))) (fun t k => XS.iloadN X0.here hx rfl (hb hby i9d1_0) rfl (XS.ifYes X0.here hx rfl (pc0 := 1) (pc' := 8) rfl (hb hby i9d1_1) rfl ((if0 _ _).trans (feq (by decide)).2) (by decide) (by decide) (XS.iloadN X0.here hx rfl (hb hby i9d1_8) rfl (XT.iconstV X0.here hx rfl (1 : Int32) (hb hby i9d1_9) (by decide) (XS.icmpYes X0.here hx rfl (pc0 := 10) (pc' := 17) rfl (hb hby i9d1_10) rfl (feq (by decide)).2 (by decide) (by decide) (XS.iloadN X0.here hx rfl (hb hby i9d1_17) rfl (XT.iconstV X0.here hx rfl (2 : Int32) (hb hby i9d1_18) (by decide) (XS.icmpYes X0.here hx rfl (pc0 := 19) (pc' := 26) rfl (hb hby i9d1_19) rfl (feq (by decide)).2 (by decide) (by decide) (XS.iloadN X0.here hx rfl (hb hby i9d1_26) rfl (XT.iconstV X0.here hx rfl (3 : Int32) (hb hby i9d1_27) (by decide) (XS.icmpYes X0.here hx rfl (pc0 := 28) (pc' := 35) rfl (hb hby i9d1_28) rfl (feq (by decide)).2 (by decide) (by decide) (XS.iloadN X0.here hx rfl (hb hby i9d1_35) rfl k)))))))))))) ?_
  refine Wp.back (U' := (s₁.setTop (mkF m 74 #[.val (.int (9 : Int32))] [(.int (9 : Int32))]))) (fun t k => XT.iconstV X0.here hx rfl (4 : Int32) (hb hby i9d1_36) (by decide) (XS.icmpYes X0.here hx rfl (pc0 := 37) (pc' := 44) rfl (hb hby i9d1_37) rfl (feq (by decide)).2 (by decide) (by decide) (XS.iloadN X0.here hx rfl (hb hby i9d1_44) rfl (XT.iconstV X0.here hx rfl (5 : Int32) (hb hby i9d1_45) (by decide) (XS.icmpYes X0.here hx rfl (pc0 := 46) (pc' := 53) rfl (hb hby i9d1_46) rfl (feq (by decide)).2 (by decide) (by decide) (XS.iloadN X0.here hx rfl (hb hby i9d1_53) rfl (XT.bipushV X0.here hx rfl (6 : Int32) (hb hby i9d1_54) (by decide) (XS.icmpYes X0.here hx rfl (pc0 := 56) (pc' := 63) rfl (hb hby i9d1_56) rfl (feq (by decide)).2 (by decide) (by decide) (XS.iloadN X0.here hx rfl (hb hby i9d1_63) rfl (XT.bipushV X0.here hx rfl (7 : Int32) (hb hby i9d1_64) (by decide) (XS.icmpYes X0.here hx rfl (pc0 := 66) (pc' := 73) rfl (hb hby i9d1_66) rfl (feq (by decide)).2 (by decide) (by decide) (XS.iloadN X0.here hx rfl (hb hby i9d1_73) rfl k)))))))))))) ?_
  refine Wp.back (U' := (s₁.setTop (mkF m 89 #[.val (.int (9 : Int32))] []))) (fun t k => XT.bipushV X0.here hx rfl (8 : Int32) (hb hby i9d1_74) (by decide) (XS.icmpYes X0.here hx rfl (pc0 := 76) (pc' := 83) rfl (hb hby i9d1_76) rfl (feq (by decide)).2 (by decide) (by decide) (XS.iloadN X0.here hx rfl (hb hby i9d1_83) rfl (XT.bipushV X0.here hx rfl (9 : Int32) (hb hby i9d1_84) (by decide) (XS.icmpNo X0.here hx rfl (hb hby i9d1_86) rfl (teq (by decide)).2 k))))) ?_
  obtain ⟨T1, X1, e1, st1⟩ := getS2 X0 hx hZ hown (host := "") (Or.inl (hw _ (List.mem_of_getElem? (i := 21) rfl))) Via.refl e0 H0 (g := (mkF m 89 #[.val (.int (9 : Int32))] [])) rfl (hb hby i9d1_89)
  refine Wp.back (U' := (T1.setTop (mkF m 92 #[.val (.int (9 : Int32))] [(.ref wo)]))) st1 ?_
  obtain ⟨fs, hr, hrun, hended, hW, hsame⟩ := X1.leave (v := (some (.ref wo))) (fun h => by rw [hret] at h; cases h)
  refine Wp.done (retOut X1 hx hret rfl (Or.inr (Or.inr (Or.inr (Or.inr ⟨rfl, rfl, rfl⟩)))) (hb hby i9d1_92) hr) hrun hended ⟨_, _, rfl, ?_, ⟨_, rfl⟩, hW, hsame.mono (by decide) (by decide)⟩
  show Q_pk9 Z wo h0 n0 _ T1.heap _
  rw [e1]
  exact ⟨rfl, N0, (Keep.refl h0 [])⟩
def Q_el9 (Z : State)   (h0 : Heap) (n0 : Nat) (v : Option Value) (h : Heap) (L : List Loc) : Prop := v = some (.int (32 : Int32)) ∧ Fr n0 L ∧ Keep h0 h []
theorem i9d2_0 : decode method_3_code 0 = .ok (.iload_n 0, 1) := by decide +kernel
theorem i9d2_1 : decode method_3_code 1 = .ok (.ifCond .eq 9, 3) := by decide +kernel
theorem i9d2_4 : decode method_3_code 4 = .ok (.iload_n 0, 1) := by decide +kernel
theorem i9d2_5 : decode method_3_code 5 = .ok (.bipush 10, 2) := by decide +kernel
theorem i9d2_7 : decode method_3_code 7 = .ok (.if_icmp .ne 6, 3) := by decide +kernel
theorem i9d2_13 : decode method_3_code 13 = .ok (.iload_n 0, 1) := by decide +kernel
theorem i9d2_14 : decode method_3_code 14 = .ok (.iconst 1, 1) := by decide +kernel
theorem i9d2_15 : decode method_3_code 15 = .ok (.if_icmp .eq 14, 3) := by decide +kernel
theorem i9d2_18 : decode method_3_code 18 = .ok (.iload_n 0, 1) := by decide +kernel
theorem i9d2_19 : decode method_3_code 19 = .ok (.iconst 4, 1) := by decide +kernel
theorem i9d2_20 : decode method_3_code 20 = .ok (.if_icmp .eq 9, 3) := by decide +kernel
theorem i9d2_23 : decode method_3_code 23 = .ok (.iload_n 0, 1) := by decide +kernel
theorem i9d2_24 : decode method_3_code 24 = .ok (.bipush 7, 2) := by decide +kernel
theorem i9d2_26 : decode method_3_code 26 = .ok (.if_icmp .ne 6, 3) := by decide +kernel
theorem i9d2_32 : decode method_3_code 32 = .ok (.iload_n 0, 1) := by decide +kernel
theorem i9d2_33 : decode method_3_code 33 = .ok (.iconst 2, 1) := by decide +kernel
theorem i9d2_34 : decode method_3_code 34 = .ok (.if_icmp .eq 14, 3) := by decide +kernel
theorem i9d2_37 : decode method_3_code 37 = .ok (.iload_n 0, 1) := by decide +kernel
theorem i9d2_38 : decode method_3_code 38 = .ok (.iconst 5, 1) := by decide +kernel
theorem i9d2_39 : decode method_3_code 39 = .ok (.if_icmp .eq 9, 3) := by decide +kernel
theorem i9d2_42 : decode method_3_code 42 = .ok (.iload_n 0, 1) := by decide +kernel
theorem i9d2_43 : decode method_3_code 43 = .ok (.bipush 8, 2) := by decide +kernel
theorem i9d2_45 : decode method_3_code 45 = .ok (.if_icmp .ne 6, 3) := by decide +kernel
theorem i9d2_51 : decode method_3_code 51 = .ok (.bipush 32, 2) := by decide +kernel
theorem i9d2_53 : decode method_3_code 53 = .ok (.ireturn, 1) := by decide +kernel
theorem i9pn2 : plainName "com/example/opaq/opaq/EncryptionAlgorithmCheckKeyPinLaw" = true := by first | (simp [plainName, overriddenIn]; done) | decide +kernel
theorem i9ef2 (m : MethodId) (x0 : Int32) : entryFrame m #[(.int x0)] 1 = mkF m 0 #[.val (.int x0)] [] := by first | (simp [entryFrame, mkF, argsToLocals, Value.category]; done) | rfl
set_option maxRecDepth 65536 in
set_option maxHeartbeats 40000000 in
theorem rm_el9 (l : Launch) (Z : State) (a0 : Array Value) (hw : ∀ d ∈ tables_1, d.before a0 Z = true) (ws : List Jvm.Cond)   (h0 : Heap) (n0 : Nat) (Z0 : n0 ≤ h0.size)  :
    MetFree l (⟨"com/example/opaq/opaq/EncryptionAlgorithmCheckKeyPinLaw", "expectedLength", "(I)I"⟩ : MethodName) (head1 (Jvm.Cond.code (⟨"com/example/opaq/opaq/EncryptionAlgorithmCheckKeyPinLaw", "expectedLength", "(I)I"⟩ : MethodName) method_3_code 1 (some .int) :: ws) ({ frames := 0, cells := 0, slots := 0, locals := 0 } : Room)) (fun a U => a = #[(.int (9 : Int32))] ∧ Z.Warmed39 U.vm ∧ U.heap = h0) (fun _ _ _ _ _ => True) (fun _ U o U' => ∃ v L, o = .returned v ∧ Q_el9 Z  h0 n0 v U'.heap L ∧ FrameEnd U o U' L ({ frames := 0, cells := 0, slots := 0, locals := 0 } : Room).cells ({ frames := 0, cells := 0, slots := 0, locals := 0 } : Room).slots) := by
  refine MetFree.of_bodySF (plainFor_of_name i9pn2) hisR ?_
  intro p e s m args below meth c s₁ Bd hml0 hP hK
  obtain ⟨rfl, hZ, hh⟩ := hP
  have hx := Bd.exec
  have hby := Bd.bytes
  have hret := Bd.returns
  have hlk := Bd.notSynchronized
  have hml : c.maxLocals = 1 := hml0
  have hown : s.vm.findClass "com/example/opaq/opaq/EncryptionAlgorithmCheckKeyPinLaw" = some m.cls := findClass_of_methodNamed Bd.named
  have hnm := (name_of_methodNamed Bd.named Bd.method).1
  have X0 : Stand p l e ({ frames := 0, cells := 0, slots := 0, locals := 0 } : Room) s m #[(.int (9 : Int32))] below meth c s₁ [] 0 0 := Stand.of_body Bd
  have e0 : s₁.heap = h0 := by rw [← hh, Bd.state]; rfl
  have N0 := Fr.nil n0
  show Wp p e below (fun o s₂ => ∃ v L, o = .returned v ∧ Q_el9 Z  h0 n0 v s₂.heap L ∧ FrameEnd s o s₂ L ({ frames := 0, cells := 0, slots := 0, locals := 0 } : Room).cells ({ frames := 0, cells := 0, slots := 0, locals := 0 } : Room).slots) _
  refine Wp.back (U' := (s₁.setTop (mkF m 0 #[.val (.int (9 : Int32))] []))) (fun t k => castTop (i9ef2 m (9 : Int32)) k) ?_
  refine Wp.back (U' := (s₁.setTop (mkF m 24 #[.val (.int (9 : Int32))] [(.int (9 : Int32))]))) (fun t k => XS.iloadN X0.here hx rfl (hb hby i9d2_0) rfl (XS.ifNo X0.here hx rfl (hb hby i9d2_1) rfl ((if0 _ _).trans (feq (by decide)).1) (XS.iloadN X0.here hx rfl (hb hby i9d2_4) rfl (XT.bipushV X0.here hx rfl (10 : Int32) (hb hby i9d2_5) (by decide) (XS.icmpYes X0.here hx rfl (pc0 := 7) (pc' := 13) rfl (hb hby i9d2_7) rfl (feq (by decide)).2 (by decide) (by decide) (XS.iloadN X0.here hx rfl (hb hby i9d2_13) rfl (XT.iconstV X0.here hx rfl (1 : Int32) (hb hby i9d2_14) (by decide) (XS.icmpNo X0.here hx rfl (hb hby i9d2_15) rfl (feq (by decide)).1 (XS.iloadN X0.here hx rfl (hb hby i9d2_18) rfl (XT.iconstV X0.here hx rfl (4 : Int32) (hb hby i9d2_19) (by decide) (XS.icmpNo X0.here hx rfl (hb hby i9d2_20) rfl (feq (by decide)).1 (XS.iloadN X0.here hx rfl (hb hby i9d2_23) rfl k)))))))))))) ?_
  refine Wp.back (U' := (s₁.setTop (mkF m 53 #[.val (.int (9 : Int32))] [(.int (32 : Int32))]))) (fun t k => XT.bipushV X0.here hx rfl (7 : Int32) (hb hby i9d2_24) (by decide) (XS.icmpYes X0.here hx rfl (pc0 := 26) (pc' := 32) rfl (hb hby i9d2_26) rfl (feq (by decide)).2 (by decide) (by decide) (XS.iloadN X0.here hx rfl (hb hby i9d2_32) rfl (XT.iconstV X0.here hx rfl (2 : Int32) (hb hby i9d2_33) (by decide) (XS.icmpNo X0.here hx rfl (hb hby i9d2_34) rfl (feq (by decide)).1 (XS.iloadN X0.here hx rfl (hb hby i9d2_37) rfl (XT.iconstV X0.here hx rfl (5 : Int32) (hb hby i9d2_38) (by decide) (XS.icmpNo X0.here hx rfl (hb hby i9d2_39) rfl (feq (by decide)).1 (XS.iloadN X0.here hx rfl (hb hby i9d2_42) rfl (XT.bipushV X0.here hx rfl (8 : Int32) (hb hby i9d2_43) (by decide) (XS.icmpYes X0.here hx rfl (pc0 := 45) (pc' := 51) rfl (hb hby i9d2_45) rfl (feq (by decide)).2 (by decide) (by decide) (XT.bipushV X0.here hx rfl (32 : Int32) (hb hby i9d2_51) (by decide) k)))))))))))) ?_
  obtain ⟨fs, hr, hrun, hended, hW, hsame⟩ := X0.leave (v := (some (.int (32 : Int32)))) (fun h => by rw [hret] at h; cases h)
  refine Wp.done (retI X0 hx hret (hb hby i9d2_53) hr) hrun hended ⟨_, _, rfl, ?_, ⟨_, rfl⟩, hW, hsame.mono (by decide) (by decide)⟩
  show Q_el9 Z  h0 n0 _ s₁.heap _
  rw [e0]
  exact ⟨rfl, N0, (Keep.refl h0 [])⟩
def Q_pk10 (Z : State)  (wo : Addr) (h0 : Heap) (n0 : Nat) (v : Option Value) (h : Heap) (L : List Loc) : Prop := v = some (.ref wo) ∧ Fr n0 L ∧ Keep h0 h []
theorem i10d1_0 : decode method_2_code 0 = .ok (.iload_n 0, 1) := by decide +kernel
theorem i10d1_1 : decode method_2_code 1 = .ok (.ifCond .ne 7, 3) := by decide +kernel
theorem i10d1_8 : decode method_2_code 8 = .ok (.iload_n 0, 1) := by decide +kernel
theorem i10d1_9 : decode method_2_code 9 = .ok (.iconst 1, 1) := by decide +kernel
theorem i10d1_10 : decode method_2_code 10 = .ok (.if_icmp .ne 7, 3) := by decide +kernel
theorem i10d1_17 : decode method_2_code 17 = .ok (.iload_n 0, 1) := by decide +kernel
theorem i10d1_18 : decode method_2_code 18 = .ok (.iconst 2, 1) := by decide +kernel
theorem i10d1_19 : decode method_2_code 19 = .ok (.if_icmp .ne 7, 3) := by decide +kernel
theorem i10d1_26 : decode method_2_code 26 = .ok (.iload_n 0, 1) := by decide +kernel
theorem i10d1_27 : decode method_2_code 27 = .ok (.iconst 3, 1) := by decide +kernel
theorem i10d1_28 : decode method_2_code 28 = .ok (.if_icmp .ne 7, 3) := by decide +kernel
theorem i10d1_35 : decode method_2_code 35 = .ok (.iload_n 0, 1) := by decide +kernel
theorem i10d1_36 : decode method_2_code 36 = .ok (.iconst 4, 1) := by decide +kernel
theorem i10d1_37 : decode method_2_code 37 = .ok (.if_icmp .ne 7, 3) := by decide +kernel
theorem i10d1_44 : decode method_2_code 44 = .ok (.iload_n 0, 1) := by decide +kernel
theorem i10d1_45 : decode method_2_code 45 = .ok (.iconst 5, 1) := by decide +kernel
theorem i10d1_46 : decode method_2_code 46 = .ok (.if_icmp .ne 7, 3) := by decide +kernel
theorem i10d1_53 : decode method_2_code 53 = .ok (.iload_n 0, 1) := by decide +kernel
theorem i10d1_54 : decode method_2_code 54 = .ok (.bipush 6, 2) := by decide +kernel
theorem i10d1_56 : decode method_2_code 56 = .ok (.if_icmp .ne 7, 3) := by decide +kernel
theorem i10d1_63 : decode method_2_code 63 = .ok (.iload_n 0, 1) := by decide +kernel
theorem i10d1_64 : decode method_2_code 64 = .ok (.bipush 7, 2) := by decide +kernel
theorem i10d1_66 : decode method_2_code 66 = .ok (.if_icmp .ne 7, 3) := by decide +kernel
theorem i10d1_73 : decode method_2_code 73 = .ok (.iload_n 0, 1) := by decide +kernel
theorem i10d1_74 : decode method_2_code 74 = .ok (.bipush 8, 2) := by decide +kernel
theorem i10d1_76 : decode method_2_code 76 = .ok (.if_icmp .ne 7, 3) := by decide +kernel
theorem i10d1_83 : decode method_2_code 83 = .ok (.iload_n 0, 1) := by decide +kernel
theorem i10d1_84 : decode method_2_code 84 = .ok (.bipush 9, 2) := by decide +kernel
theorem i10d1_86 : decode method_2_code 86 = .ok (.if_icmp .ne 7, 3) := by decide +kernel
theorem i10d1_93 : decode method_2_code 93 = .ok (.getstatic 40, 3) := by decide +kernel
theorem i10d1_96 : decode method_2_code 96 = .ok (.areturn, 1) := by decide +kernel
theorem i10pn1 : plainName "com/example/opaq/opaq/EncryptionAlgorithmCheckKeyPinLaw" = true := by first | (simp [plainName, overriddenIn]; done) | decide +kernel
theorem i10ef1 (m : MethodId) (x0 : Int32) : entryFrame m #[(.int x0)] 1 = mkF m 0 #[.val (.int x0)] [] := by first | (simp [entryFrame, mkF, argsToLocals, Value.category]; done) | rfl
set_option maxRecDepth 65536 in
set_option maxHeartbeats 40000000 in
theorem rm_pk10 (l : Launch) (Z : State) (a0 : Array Value) (hw : ∀ d ∈ tables_1, d.before a0 Z = true) (ws : List Jvm.Cond)  (wo : Addr) (h0 : Heap) (n0 : Nat) (Z0 : n0 ≤ h0.size) (H0 : Sta Z h0 "com/example/opaq/opaq/EncryptionAlgorithm" "KW_TRIPLEDES" "Lcom/example/opaq/opaq/EncryptionAlgorithm;" (.ref wo)) :
    MetFree l (⟨"com/example/opaq/opaq/EncryptionAlgorithmCheckKeyPinLaw", "pick", "(I)Lcom/example/opaq/opaq/EncryptionAlgorithm;"⟩ : MethodName) (head1 (Jvm.Cond.code (⟨"com/example/opaq/opaq/EncryptionAlgorithmCheckKeyPinLaw", "pick", "(I)Lcom/example/opaq/opaq/EncryptionAlgorithm;"⟩ : MethodName) method_2_code 1 (some (.object "com/example/opaq/opaq/EncryptionAlgorithm")) :: ws) ({ frames := 0, cells := 0, slots := 0, locals := 0 } : Room)) (fun a U => a = #[(.int (10 : Int32))] ∧ Z.Warmed39 U.vm ∧ U.heap = h0) (fun _ _ _ _ _ => True) (fun _ U o U' => ∃ v L, o = .returned v ∧ Q_pk10 Z wo h0 n0 v U'.heap L ∧ FrameEnd U o U' L ({ frames := 0, cells := 0, slots := 0, locals := 0 } : Room).cells ({ frames := 0, cells := 0, slots := 0, locals := 0 } : Room).slots) := by
  refine MetFree.of_bodySF (plainFor_of_name i10pn1) hisR ?_
  intro p e s m args below meth c s₁ Bd hml0 hP hK
  obtain ⟨rfl, hZ, hh⟩ := hP
  have hx := Bd.exec
  have hby := Bd.bytes
  have hret := Bd.returns
  have hlk := Bd.notSynchronized
  have hml : c.maxLocals = 1 := hml0
  have hown : s.vm.findClass "com/example/opaq/opaq/EncryptionAlgorithmCheckKeyPinLaw" = some m.cls := findClass_of_methodNamed Bd.named
  have hnm := (name_of_methodNamed Bd.named Bd.method).1
  have X0 : Stand p l e ({ frames := 0, cells := 0, slots := 0, locals := 0 } : Room) s m #[(.int (10 : Int32))] below meth c s₁ [] 0 0 := Stand.of_body Bd
  have e0 : s₁.heap = h0 := by rw [← hh, Bd.state]; rfl
  have N0 := Fr.nil n0
  show Wp p e below (fun o s₂ => ∃ v L, o = .returned v ∧ Q_pk10 Z wo h0 n0 v s₂.heap L ∧ FrameEnd s o s₂ L ({ frames := 0, cells := 0, slots := 0, locals := 0 } : Room).cells ({ frames := 0, cells := 0, slots := 0, locals := 0 } : Room).slots) _
  refine Wp.back (U' := (s₁.setTop (mkF m 0 #[.val (.int (10 : Int32))] []))) (fun t k => castTop (i10ef1 m (10 : Int32)) k) ?_
  refine Wp.back (U' := (s₁.setTop (mkF m 36 #[.val (.int (10 : Int32))] [(.int (10 : Int32))]))) (fun t k => XS.iloadN X0.here hx rfl (hb hby i10d1_0) rfl (XS.ifYes X0.here hx rfl (pc0 := 1) (pc' := 8) rfl (hb hby i10d1_1) rfl ((if0 _ _).trans (feq (by decide)).2) (by decide) (by decide) (XS.iloadN X0.here hx rfl (hb hby i10d1_8) rfl (XT.iconstV X0.here hx rfl (1 : Int32) (hb hby i10d1_9) (by decide) (XS.icmpYes X0.here hx rfl (pc0 := 10) (pc' := 17) rfl (hb hby i10d1_10) rfl (feq (by decide)).2 (by decide) (by decide) (XS.iloadN X0.here hx rfl (hb hby i10d1_17) rfl (XT.iconstV X0.here hx rfl (2 : Int32) (hb hby i10d1_18) (by decide) (XS.icmpYes X0.here hx rfl (pc0 := 19) (pc' := 26) rfl (hb hby i10d1_19) rfl (feq (by decide)).2 (by decide) (by decide) (XS.iloadN X0.here hx rfl (hb hby i10d1_26) rfl (XT.iconstV X0.here hx rfl (3 : Int32) (hb hby i10d1_27) (by decide) (XS.icmpYes X0.here hx rfl (pc0 := 28) (pc' := 35) rfl (hb hby i10d1_28) rfl (feq (by decide)).2 (by decide) (by decide) (XS.iloadN X0.here hx rfl (hb hby i10d1_35) rfl k)))))))))))) ?_
  refine Wp.back (U' := (s₁.setTop (mkF m 74 #[.val (.int (10 : Int32))] [(.int (10 : Int32))]))) (fun t k => XT.iconstV X0.here hx rfl (4 : Int32) (hb hby i10d1_36) (by decide) (XS.icmpYes X0.here hx rfl (pc0 := 37) (pc' := 44) rfl (hb hby i10d1_37) rfl (feq (by decide)).2 (by decide) (by decide) (XS.iloadN X0.here hx rfl (hb hby i10d1_44) rfl (XT.iconstV X0.here hx rfl (5 : Int32) (hb hby i10d1_45) (by decide) (XS.icmpYes X0.here hx rfl (pc0 := 46) (pc' := 53) rfl (hb hby i10d1_46) rfl (feq (by decide)).2 (by decide) (by decide) (XS.iloadN X0.here hx rfl (hb hby i10d1_53) rfl (XT.bipushV X0.here hx rfl (6 : Int32) (hb hby i10d1_54) (by decide) (XS.icmpYes X0.here hx rfl (pc0 := 56) (pc' := 63) rfl (hb hby i10d1_56) rfl (feq (by decide)).2 (by decide) (by decide) (XS.iloadN X0.here hx rfl (hb hby i10d1_63) rfl (XT.bipushV X0.here hx rfl (7 : Int32) (hb hby i10d1_64) (by decide) (XS.icmpYes X0.here hx rfl (pc0 := 66) (pc' := 73) rfl (hb hby i10d1_66) rfl (feq (by decide)).2 (by decide) (by decide) (XS.iloadN X0.here hx rfl (hb hby i10d1_73) rfl k)))))))))))) ?_
  refine Wp.back (U' := (s₁.setTop (mkF m 93 #[.val (.int (10 : Int32))] []))) (fun t k => XT.bipushV X0.here hx rfl (8 : Int32) (hb hby i10d1_74) (by decide) (XS.icmpYes X0.here hx rfl (pc0 := 76) (pc' := 83) rfl (hb hby i10d1_76) rfl (feq (by decide)).2 (by decide) (by decide) (XS.iloadN X0.here hx rfl (hb hby i10d1_83) rfl (XT.bipushV X0.here hx rfl (9 : Int32) (hb hby i10d1_84) (by decide) (XS.icmpYes X0.here hx rfl (pc0 := 86) (pc' := 93) rfl (hb hby i10d1_86) rfl (feq (by decide)).2 (by decide) (by decide) k))))) ?_
  obtain ⟨T1, X1, e1, st1⟩ := getS2 X0 hx hZ hown (host := "") (Or.inl (hw _ (List.mem_of_getElem? (i := 33) rfl))) Via.refl e0 H0 (g := (mkF m 93 #[.val (.int (10 : Int32))] [])) rfl (hb hby i10d1_93)
  refine Wp.back (U' := (T1.setTop (mkF m 96 #[.val (.int (10 : Int32))] [(.ref wo)]))) st1 ?_
  obtain ⟨fs, hr, hrun, hended, hW, hsame⟩ := X1.leave (v := (some (.ref wo))) (fun h => by rw [hret] at h; cases h)
  refine Wp.done (retOut X1 hx hret rfl (Or.inr (Or.inr (Or.inr (Or.inr ⟨rfl, rfl, rfl⟩)))) (hb hby i10d1_96) hr) hrun hended ⟨_, _, rfl, ?_, ⟨_, rfl⟩, hW, hsame.mono (by decide) (by decide)⟩
  show Q_pk10 Z wo h0 n0 _ T1.heap _
  rw [e1]
  exact ⟨rfl, N0, (Keep.refl h0 [])⟩
def Q_el10 (Z : State)   (h0 : Heap) (n0 : Nat) (v : Option Value) (h : Heap) (L : List Loc) : Prop := v = some (.int (24 : Int32)) ∧ Fr n0 L ∧ Keep h0 h []
theorem i10d2_0 : decode method_3_code 0 = .ok (.iload_n 0, 1) := by decide +kernel
theorem i10d2_1 : decode method_3_code 1 = .ok (.ifCond .eq 9, 3) := by decide +kernel
theorem i10d2_4 : decode method_3_code 4 = .ok (.iload_n 0, 1) := by decide +kernel
theorem i10d2_5 : decode method_3_code 5 = .ok (.bipush 10, 2) := by decide +kernel
theorem i10d2_7 : decode method_3_code 7 = .ok (.if_icmp .ne 6, 3) := by decide +kernel
theorem i10d2_10 : decode method_3_code 10 = .ok (.bipush 24, 2) := by decide +kernel
theorem i10d2_12 : decode method_3_code 12 = .ok (.ireturn, 1) := by decide +kernel
theorem i10pn2 : plainName "com/example/opaq/opaq/EncryptionAlgorithmCheckKeyPinLaw" = true := by first | (simp [plainName, overriddenIn]; done) | decide +kernel
theorem i10ef2 (m : MethodId) (x0 : Int32) : entryFrame m #[(.int x0)] 1 = mkF m 0 #[.val (.int x0)] [] := by first | (simp [entryFrame, mkF, argsToLocals, Value.category]; done) | rfl
set_option maxRecDepth 65536 in
set_option maxHeartbeats 40000000 in
theorem rm_el10 (l : Launch) (Z : State) (a0 : Array Value) (hw : ∀ d ∈ tables_1, d.before a0 Z = true) (ws : List Jvm.Cond)   (h0 : Heap) (n0 : Nat) (Z0 : n0 ≤ h0.size)  :
    MetFree l (⟨"com/example/opaq/opaq/EncryptionAlgorithmCheckKeyPinLaw", "expectedLength", "(I)I"⟩ : MethodName) (head1 (Jvm.Cond.code (⟨"com/example/opaq/opaq/EncryptionAlgorithmCheckKeyPinLaw", "expectedLength", "(I)I"⟩ : MethodName) method_3_code 1 (some .int) :: ws) ({ frames := 0, cells := 0, slots := 0, locals := 0 } : Room)) (fun a U => a = #[(.int (10 : Int32))] ∧ Z.Warmed39 U.vm ∧ U.heap = h0) (fun _ _ _ _ _ => True) (fun _ U o U' => ∃ v L, o = .returned v ∧ Q_el10 Z  h0 n0 v U'.heap L ∧ FrameEnd U o U' L ({ frames := 0, cells := 0, slots := 0, locals := 0 } : Room).cells ({ frames := 0, cells := 0, slots := 0, locals := 0 } : Room).slots) := by
  refine MetFree.of_bodySF (plainFor_of_name i10pn2) hisR ?_
  intro p e s m args below meth c s₁ Bd hml0 hP hK
  obtain ⟨rfl, hZ, hh⟩ := hP
  have hx := Bd.exec
  have hby := Bd.bytes
  have hret := Bd.returns
  have hlk := Bd.notSynchronized
  have hml : c.maxLocals = 1 := hml0
  have hown : s.vm.findClass "com/example/opaq/opaq/EncryptionAlgorithmCheckKeyPinLaw" = some m.cls := findClass_of_methodNamed Bd.named
  have hnm := (name_of_methodNamed Bd.named Bd.method).1
  have X0 : Stand p l e ({ frames := 0, cells := 0, slots := 0, locals := 0 } : Room) s m #[(.int (10 : Int32))] below meth c s₁ [] 0 0 := Stand.of_body Bd
  have e0 : s₁.heap = h0 := by rw [← hh, Bd.state]; rfl
  have N0 := Fr.nil n0
  show Wp p e below (fun o s₂ => ∃ v L, o = .returned v ∧ Q_el10 Z  h0 n0 v s₂.heap L ∧ FrameEnd s o s₂ L ({ frames := 0, cells := 0, slots := 0, locals := 0 } : Room).cells ({ frames := 0, cells := 0, slots := 0, locals := 0 } : Room).slots) _
  refine Wp.back (U' := (s₁.setTop (mkF m 0 #[.val (.int (10 : Int32))] []))) (fun t k => castTop (i10ef2 m (10 : Int32)) k) ?_
  refine Wp.back (U' := (s₁.setTop (mkF m 12 #[.val (.int (10 : Int32))] [(.int (24 : Int32))]))) (fun t k => XS.iloadN X0.here hx rfl (hb hby i10d2_0) rfl (XS.ifNo X0.here hx rfl (hb hby i10d2_1) rfl ((if0 _ _).trans (feq (by decide)).1) (XS.iloadN X0.here hx rfl (hb hby i10d2_4) rfl (XT.bipushV X0.here hx rfl (10 : Int32) (hb hby i10d2_5) (by decide) (XS.icmpNo X0.here hx rfl (hb hby i10d2_7) rfl (teq (by decide)).2 (XT.bipushV X0.here hx rfl (24 : Int32) (hb hby i10d2_10) (by decide) k)))))) ?_
  obtain ⟨fs, hr, hrun, hended, hW, hsame⟩ := X0.leave (v := (some (.int (24 : Int32)))) (fun h => by rw [hret] at h; cases h)
  refine Wp.done (retI X0 hx hret (hb hby i10d2_12) hr) hrun hended ⟨_, _, rfl, ?_, ⟨_, rfl⟩, hW, hsame.mono (by decide) (by decide)⟩
  show Q_el10 Z  h0 n0 _ s₁.heap _
  rw [e0]
  exact ⟨rfl, N0, (Keep.refl h0 [])⟩
def Q_ck16 (Z : State) (ar : Addr) (xb : Addr) (kb : ClassId) (vs : List Value) (dv : Value) (h0 : Heap) (n0 : Nat) (v : Option Value) (h : Heap) (L : List Loc) : Prop := v = none ∧ Fr n0 L ∧ Keep h0 h []
theorem l16d3_0 : decode prog_38_method_19_code 0 = .ok (.aload_n 1, 1) := by decide +kernel
theorem l16d3_1 : decode prog_38_method_19_code 1 = .ok (.arraylength, 1) := by decide +kernel
theorem l16d3_2 : decode prog_38_method_19_code 2 = .ok (.aload_n 0, 1) := by decide +kernel
theorem l16d3_3 : decode prog_38_method_19_code 3 = .ok (.getfield 65, 3) := by decide +kernel
theorem l16d3_6 : decode prog_38_method_19_code 6 = .ok (.if_icmp .eq 26, 3) := by decide +kernel
theorem l16d3_32 : decode prog_38_method_19_code 32 = .ok (.return_, 1) := by decide +kernel
theorem l16pn3 : plainName "com/example/opaq/opaq/EncryptionAlgorithm" = true := by first | (simp [plainName, overriddenIn]; done) | decide +kernel
theorem l16ef3 (m : MethodId) (x0 : Addr) (x1 : Addr) : entryFrame m #[(.ref x0), (.ref x1)] 2 = mkF m 0 #[.val (.ref x0), .val (.ref x1)] [] := by first | (simp [entryFrame, mkF, argsToLocals, Value.category]; done) | rfl
set_option maxRecDepth 65536 in
set_option maxHeartbeats 40000000 in
theorem rm_ck16 (l : Launch) (Z : State) (a0 : Array Value) (hw : ∀ d ∈ tables_1, d.before a0 Z = true) (ws : List Jvm.Cond) (ar : Addr) (xb : Addr) (kb : ClassId) (vs : List Value) (dv : Value) (h0 : Heap) (n0 : Nat) (Z0 : n0 ≤ h0.size) (H0 : Fld Z h0 ar "com/example/opaq/opaq/EncryptionAlgorithm" "keyLength" "I" (.int (16 : Int32))) (H1 : Arv Z h0 xb kb .byte (16 : Int32) vs dv) :
    MetFree l (⟨"com/example/opaq/opaq/EncryptionAlgorithm", "checkKey", "([B)V"⟩ : MethodName) (head1 (Jvm.Cond.code (⟨"com/example/opaq/opaq/EncryptionAlgorithm", "checkKey", "([B)V"⟩ : MethodName) prog_38_method_19_code 2 none :: ws) ({ frames := 0, cells := 0, slots := 0, locals := 0 } : Room)) (fun a U => a = #[(.ref ar), (.ref xb)] ∧ Z.Warmed39 U.vm ∧ U.heap = h0) (fun _ _ _ _ _ => True) (fun _ U o U' => ∃ v L, o = .returned v ∧ Q_ck16 Z ar xb kb vs dv h0 n0 v U'.heap L ∧ FrameEnd U o U' L ({ frames := 0, cells := 0, slots := 0, locals := 0 } : Room).cells ({ frames := 0, cells := 0, slots := 0, locals := 0 } : Room).slots) := by
  refine MetFree.of_bodySF (plainFor_of_name l16pn3) hisR ?_
  intro p e s m args below meth c s₁ Bd hml0 hP hK
  obtain ⟨rfl, hZ, hh⟩ := hP
  have hx := Bd.exec
  have hby := Bd.bytes
  have hret := Bd.returns
  have hlk := Bd.notSynchronized
  have hml : c.maxLocals = 2 := hml0
  have hown : s.vm.findClass "com/example/opaq/opaq/EncryptionAlgorithm" = some m.cls := findClass_of_methodNamed Bd.named
  have hnm := (name_of_methodNamed Bd.named Bd.method).1
  have X0 : Stand p l e ({ frames := 0, cells := 0, slots := 0, locals := 0 } : Room) s m #[(.ref ar), (.ref xb)] below meth c s₁ [] 0 0 := Stand.of_body Bd
  have e0 : s₁.heap = h0 := by rw [← hh, Bd.state]; rfl
  have N0 := Fr.nil n0
  show Wp p e below (fun o s₂ => ∃ v L, o = .returned v ∧ Q_ck16 Z ar xb kb vs dv h0 n0 v s₂.heap L ∧ FrameEnd s o s₂ L ({ frames := 0, cells := 0, slots := 0, locals := 0 } : Room).cells ({ frames := 0, cells := 0, slots := 0, locals := 0 } : Room).slots) _
  refine Wp.back (U' := (s₁.setTop (mkF m 0 #[.val (.ref ar), .val (.ref xb)] []))) (fun t k => castTop (l16ef3 m ar xb) k) ?_
  refine Wp.back (U' := (s₁.setTop (mkF m 1 #[.val (.ref ar), .val (.ref xb)] [(.ref xb)]))) (fun t k => XS.aloadN X0.here hx rfl (hb hby l16d3_0) rfl rfl k) ?_
  have vq1 := H1
  obtain ⟨cl1, Ar1, -, qs1, qn1, -, -⟩ := vq1
  refine Wp.back (U' := (s₁.setTop (mkF m 2 #[.val (.ref ar), .val (.ref xb)] [(.int (16 : Int32))]))) (fun t k => X0.arraylength hx (by rw [e0]; exact Ar1.1) (State.isArrayOf_alike hZ.alike Ar1.2.1) (g := (mkF m 1 #[.val (.ref ar), .val (.ref xb)] [(.ref xb)])) rfl rfl (hb hby l16d3_1) t (by rw [len_of qs1 qn1]; exact k)) ?_
  refine Wp.back (U' := (s₁.setTop (mkF m 3 #[.val (.ref ar), .val (.ref xb)] [(.ref ar), (.int (16 : Int32))]))) (fun t k => XS.aloadN X0.here hx rfl (hb hby l16d3_2) rfl rfl k) ?_
  obtain ⟨T2, X2, e2, st2⟩ := getF X0 hx hZ hown (host := "") (Or.inl (hw _ (List.mem_of_getElem? (i := 17) rfl))) Via.refl e0 H0 (g := (mkF m 3 #[.val (.ref ar), .val (.ref xb)] [(.ref ar), (.int (16 : Int32))])) rfl rfl (hb hby l16d3_3)
  refine Wp.back (U' := (T2.setTop (mkF m 6 #[.val (.ref ar), .val (.ref xb)] [(.int (16 : Int32)), (.int (16 : Int32))]))) st2 ?_
  refine Wp.back (U' := (T2.setTop (mkF m 32 #[.val (.ref ar), .val (.ref xb)] []))) (fun t k => XS.icmpYes X2.here hx rfl (pc0 := 6) (pc' := 32) rfl (hb hby l16d3_6) rfl (teq (by decide)).1 (by decide) (by decide) k) ?_
  obtain ⟨fs, hr, hrun, hended, hW, hsame⟩ := X2.leave (v := none) (fun _ => rfl)
  refine Wp.done (X2.returnOut hx hret (hb hby l16d3_32) hr) hrun hended ⟨_, _, rfl, ?_, ⟨_, rfl⟩, hW, hsame.mono (by decide) (by decide)⟩
  show Q_ck16 Z ar xb kb vs dv h0 n0 _ T2.heap _
  rw [e2]
  exact ⟨rfl, N0, (Keep.refl h0 [])⟩
def Q_ck24 (Z : State) (ar : Addr) (xb : Addr) (kb : ClassId) (vs : List Value) (dv : Value) (h0 : Heap) (n0 : Nat) (v : Option Value) (h : Heap) (L : List Loc) : Prop := v = none ∧ Fr n0 L ∧ Keep h0 h []
theorem l24d3_0 : decode prog_38_method_19_code 0 = .ok (.aload_n 1, 1) := by decide +kernel
theorem l24d3_1 : decode prog_38_method_19_code 1 = .ok (.arraylength, 1) := by decide +kernel
theorem l24d3_2 : decode prog_38_method_19_code 2 = .ok (.aload_n 0, 1) := by decide +kernel
theorem l24d3_3 : decode prog_38_method_19_code 3 = .ok (.getfield 65, 3) := by decide +kernel
theorem l24d3_6 : decode prog_38_method_19_code 6 = .ok (.if_icmp .eq 26, 3) := by decide +kernel
theorem l24d3_32 : decode prog_38_method_19_code 32 = .ok (.return_, 1) := by decide +kernel
theorem l24pn3 : plainName "com/example/opaq/opaq/EncryptionAlgorithm" = true := by first | (simp [plainName, overriddenIn]; done) | decide +kernel
theorem l24ef3 (m : MethodId) (x0 : Addr) (x1 : Addr) : entryFrame m #[(.ref x0), (.ref x1)] 2 = mkF m 0 #[.val (.ref x0), .val (.ref x1)] [] := by first | (simp [entryFrame, mkF, argsToLocals, Value.category]; done) | rfl
set_option maxRecDepth 65536 in
set_option maxHeartbeats 40000000 in
theorem rm_ck24 (l : Launch) (Z : State) (a0 : Array Value) (hw : ∀ d ∈ tables_1, d.before a0 Z = true) (ws : List Jvm.Cond) (ar : Addr) (xb : Addr) (kb : ClassId) (vs : List Value) (dv : Value) (h0 : Heap) (n0 : Nat) (Z0 : n0 ≤ h0.size) (H0 : Fld Z h0 ar "com/example/opaq/opaq/EncryptionAlgorithm" "keyLength" "I" (.int (24 : Int32))) (H1 : Arv Z h0 xb kb .byte (24 : Int32) vs dv) :
    MetFree l (⟨"com/example/opaq/opaq/EncryptionAlgorithm", "checkKey", "([B)V"⟩ : MethodName) (head1 (Jvm.Cond.code (⟨"com/example/opaq/opaq/EncryptionAlgorithm", "checkKey", "([B)V"⟩ : MethodName) prog_38_method_19_code 2 none :: ws) ({ frames := 0, cells := 0, slots := 0, locals := 0 } : Room)) (fun a U => a = #[(.ref ar), (.ref xb)] ∧ Z.Warmed39 U.vm ∧ U.heap = h0) (fun _ _ _ _ _ => True) (fun _ U o U' => ∃ v L, o = .returned v ∧ Q_ck24 Z ar xb kb vs dv h0 n0 v U'.heap L ∧ FrameEnd U o U' L ({ frames := 0, cells := 0, slots := 0, locals := 0 } : Room).cells ({ frames := 0, cells := 0, slots := 0, locals := 0 } : Room).slots) := by
  refine MetFree.of_bodySF (plainFor_of_name l24pn3) hisR ?_
  intro p e s m args below meth c s₁ Bd hml0 hP hK
  obtain ⟨rfl, hZ, hh⟩ := hP
  have hx := Bd.exec
  have hby := Bd.bytes
  have hret := Bd.returns
  have hlk := Bd.notSynchronized
  have hml : c.maxLocals = 2 := hml0
  have hown : s.vm.findClass "com/example/opaq/opaq/EncryptionAlgorithm" = some m.cls := findClass_of_methodNamed Bd.named
  have hnm := (name_of_methodNamed Bd.named Bd.method).1
  have X0 : Stand p l e ({ frames := 0, cells := 0, slots := 0, locals := 0 } : Room) s m #[(.ref ar), (.ref xb)] below meth c s₁ [] 0 0 := Stand.of_body Bd
  have e0 : s₁.heap = h0 := by rw [← hh, Bd.state]; rfl
  have N0 := Fr.nil n0
  show Wp p e below (fun o s₂ => ∃ v L, o = .returned v ∧ Q_ck24 Z ar xb kb vs dv h0 n0 v s₂.heap L ∧ FrameEnd s o s₂ L ({ frames := 0, cells := 0, slots := 0, locals := 0 } : Room).cells ({ frames := 0, cells := 0, slots := 0, locals := 0 } : Room).slots) _
  refine Wp.back (U' := (s₁.setTop (mkF m 0 #[.val (.ref ar), .val (.ref xb)] []))) (fun t k => castTop (l24ef3 m ar xb) k) ?_
  refine Wp.back (U' := (s₁.setTop (mkF m 1 #[.val (.ref ar), .val (.ref xb)] [(.ref xb)]))) (fun t k => XS.aloadN X0.here hx rfl (hb hby l24d3_0) rfl rfl k) ?_
  have vq1 := H1
  obtain ⟨cl1, Ar1, -, qs1, qn1, -, -⟩ := vq1
  refine Wp.back (U' := (s₁.setTop (mkF m 2 #[.val (.ref ar), .val (.ref xb)] [(.int (24 : Int32))]))) (fun t k => X0.arraylength hx (by rw [e0]; exact Ar1.1) (State.isArrayOf_alike hZ.alike Ar1.2.1) (g := (mkF m 1 #[.val (.ref ar), .val (.ref xb)] [(.ref xb)])) rfl rfl (hb hby l24d3_1) t (by rw [len_of qs1 qn1]; exact k)) ?_
  refine Wp.back (U' := (s₁.setTop (mkF m 3 #[.val (.ref ar), .val (.ref xb)] [(.ref ar), (.int (24 : Int32))]))) (fun t k => XS.aloadN X0.here hx rfl (hb hby l24d3_2) rfl rfl k) ?_
  obtain ⟨T2, X2, e2, st2⟩ := getF X0 hx hZ hown (host := "") (Or.inl (hw _ (List.mem_of_getElem? (i := 17) rfl))) Via.refl e0 H0 (g := (mkF m 3 #[.val (.ref ar), .val (.ref xb)] [(.ref ar), (.int (24 : Int32))])) rfl rfl (hb hby l24d3_3)
  refine Wp.back (U' := (T2.setTop (mkF m 6 #[.val (.ref ar), .val (.ref xb)] [(.int (24 : Int32)), (.int (24 : Int32))]))) st2 ?_
  refine Wp.back (U' := (T2.setTop (mkF m 32 #[.val (.ref ar), .val (.ref xb)] []))) (fun t k => XS.icmpYes X2.here hx rfl (pc0 := 6) (pc' := 32) rfl (hb hby l24d3_6) rfl (teq (by decide)).1 (by decide) (by decide) k) ?_
  obtain ⟨fs, hr, hrun, hended, hW, hsame⟩ := X2.leave (v := none) (fun _ => rfl)
  refine Wp.done (X2.returnOut hx hret (hb hby l24d3_32) hr) hrun hended ⟨_, _, rfl, ?_, ⟨_, rfl⟩, hW, hsame.mono (by decide) (by decide)⟩
  show Q_ck24 Z ar xb kb vs dv h0 n0 _ T2.heap _
  rw [e2]
  exact ⟨rfl, N0, (Keep.refl h0 [])⟩
def Q_ck32 (Z : State) (ar : Addr) (xb : Addr) (kb : ClassId) (vs : List Value) (dv : Value) (h0 : Heap) (n0 : Nat) (v : Option Value) (h : Heap) (L : List Loc) : Prop := v = none ∧ Fr n0 L ∧ Keep h0 h []
theorem l32d3_0 : decode prog_38_method_19_code 0 = .ok (.aload_n 1, 1) := by decide +kernel
theorem l32d3_1 : decode prog_38_method_19_code 1 = .ok (.arraylength, 1) := by decide +kernel
theorem l32d3_2 : decode prog_38_method_19_code 2 = .ok (.aload_n 0, 1) := by decide +kernel
theorem l32d3_3 : decode prog_38_method_19_code 3 = .ok (.getfield 65, 3) := by decide +kernel
theorem l32d3_6 : decode prog_38_method_19_code 6 = .ok (.if_icmp .eq 26, 3) := by decide +kernel
theorem l32d3_32 : decode prog_38_method_19_code 32 = .ok (.return_, 1) := by decide +kernel
theorem l32pn3 : plainName "com/example/opaq/opaq/EncryptionAlgorithm" = true := by first | (simp [plainName, overriddenIn]; done) | decide +kernel
theorem l32ef3 (m : MethodId) (x0 : Addr) (x1 : Addr) : entryFrame m #[(.ref x0), (.ref x1)] 2 = mkF m 0 #[.val (.ref x0), .val (.ref x1)] [] := by first | (simp [entryFrame, mkF, argsToLocals, Value.category]; done) | rfl
set_option maxRecDepth 65536 in
set_option maxHeartbeats 40000000 in
theorem rm_ck32 (l : Launch) (Z : State) (a0 : Array Value) (hw : ∀ d ∈ tables_1, d.before a0 Z = true) (ws : List Jvm.Cond) (ar : Addr) (xb : Addr) (kb : ClassId) (vs : List Value) (dv : Value) (h0 : Heap) (n0 : Nat) (Z0 : n0 ≤ h0.size) (H0 : Fld Z h0 ar "com/example/opaq/opaq/EncryptionAlgorithm" "keyLength" "I" (.int (32 : Int32))) (H1 : Arv Z h0 xb kb .byte (32 : Int32) vs dv) :
    MetFree l (⟨"com/example/opaq/opaq/EncryptionAlgorithm", "checkKey", "([B)V"⟩ : MethodName) (head1 (Jvm.Cond.code (⟨"com/example/opaq/opaq/EncryptionAlgorithm", "checkKey", "([B)V"⟩ : MethodName) prog_38_method_19_code 2 none :: ws) ({ frames := 0, cells := 0, slots := 0, locals := 0 } : Room)) (fun a U => a = #[(.ref ar), (.ref xb)] ∧ Z.Warmed39 U.vm ∧ U.heap = h0) (fun _ _ _ _ _ => True) (fun _ U o U' => ∃ v L, o = .returned v ∧ Q_ck32 Z ar xb kb vs dv h0 n0 v U'.heap L ∧ FrameEnd U o U' L ({ frames := 0, cells := 0, slots := 0, locals := 0 } : Room).cells ({ frames := 0, cells := 0, slots := 0, locals := 0 } : Room).slots) := by
  refine MetFree.of_bodySF (plainFor_of_name l32pn3) hisR ?_
  intro p e s m args below meth c s₁ Bd hml0 hP hK
  obtain ⟨rfl, hZ, hh⟩ := hP
  have hx := Bd.exec
  have hby := Bd.bytes
  have hret := Bd.returns
  have hlk := Bd.notSynchronized
  have hml : c.maxLocals = 2 := hml0
  have hown : s.vm.findClass "com/example/opaq/opaq/EncryptionAlgorithm" = some m.cls := findClass_of_methodNamed Bd.named
  have hnm := (name_of_methodNamed Bd.named Bd.method).1
  have X0 : Stand p l e ({ frames := 0, cells := 0, slots := 0, locals := 0 } : Room) s m #[(.ref ar), (.ref xb)] below meth c s₁ [] 0 0 := Stand.of_body Bd
  have e0 : s₁.heap = h0 := by rw [← hh, Bd.state]; rfl
  have N0 := Fr.nil n0
  show Wp p e below (fun o s₂ => ∃ v L, o = .returned v ∧ Q_ck32 Z ar xb kb vs dv h0 n0 v s₂.heap L ∧ FrameEnd s o s₂ L ({ frames := 0, cells := 0, slots := 0, locals := 0 } : Room).cells ({ frames := 0, cells := 0, slots := 0, locals := 0 } : Room).slots) _
  refine Wp.back (U' := (s₁.setTop (mkF m 0 #[.val (.ref ar), .val (.ref xb)] []))) (fun t k => castTop (l32ef3 m ar xb) k) ?_
  refine Wp.back (U' := (s₁.setTop (mkF m 1 #[.val (.ref ar), .val (.ref xb)] [(.ref xb)]))) (fun t k => XS.aloadN X0.here hx rfl (hb hby l32d3_0) rfl rfl k) ?_
  have vq1 := H1
  obtain ⟨cl1, Ar1, -, qs1, qn1, -, -⟩ := vq1
  refine Wp.back (U' := (s₁.setTop (mkF m 2 #[.val (.ref ar), .val (.ref xb)] [(.int (32 : Int32))]))) (fun t k => X0.arraylength hx (by rw [e0]; exact Ar1.1) (State.isArrayOf_alike hZ.alike Ar1.2.1) (g := (mkF m 1 #[.val (.ref ar), .val (.ref xb)] [(.ref xb)])) rfl rfl (hb hby l32d3_1) t (by rw [len_of qs1 qn1]; exact k)) ?_
  refine Wp.back (U' := (s₁.setTop (mkF m 3 #[.val (.ref ar), .val (.ref xb)] [(.ref ar), (.int (32 : Int32))]))) (fun t k => XS.aloadN X0.here hx rfl (hb hby l32d3_2) rfl rfl k) ?_
  obtain ⟨T2, X2, e2, st2⟩ := getF X0 hx hZ hown (host := "") (Or.inl (hw _ (List.mem_of_getElem? (i := 17) rfl))) Via.refl e0 H0 (g := (mkF m 3 #[.val (.ref ar), .val (.ref xb)] [(.ref ar), (.int (32 : Int32))])) rfl rfl (hb hby l32d3_3)
  refine Wp.back (U' := (T2.setTop (mkF m 6 #[.val (.ref ar), .val (.ref xb)] [(.int (32 : Int32)), (.int (32 : Int32))]))) st2 ?_
  refine Wp.back (U' := (T2.setTop (mkF m 32 #[.val (.ref ar), .val (.ref xb)] []))) (fun t k => XS.icmpYes X2.here hx rfl (pc0 := 6) (pc' := 32) rfl (hb hby l32d3_6) rfl (teq (by decide)).1 (by decide) (by decide) k) ?_
  obtain ⟨fs, hr, hrun, hended, hW, hsame⟩ := X2.leave (v := none) (fun _ => rfl)
  refine Wp.done (X2.returnOut hx hret (hb hby l32d3_32) hr) hrun hended ⟨_, _, rfl, ?_, ⟨_, rfl⟩, hW, hsame.mono (by decide) (by decide)⟩
  show Q_ck32 Z ar xb kb vs dv h0 n0 _ T2.heap _
  rw [e2]
  exact ⟨rfl, N0, (Keep.refl h0 [])⟩
theorem own_n (p0 : Int32) : ((p0 &&& (2147483647 : Int32)) % (11 : Int32)) = (0 : Int32) ∨ ((p0 &&& (2147483647 : Int32)) % (11 : Int32)) = (1 : Int32) ∨ ((p0 &&& (2147483647 : Int32)) % (11 : Int32)) = (2 : Int32) ∨ ((p0 &&& (2147483647 : Int32)) % (11 : Int32)) = (3 : Int32) ∨ ((p0 &&& (2147483647 : Int32)) % (11 : Int32)) = (4 : Int32) ∨ ((p0 &&& (2147483647 : Int32)) % (11 : Int32)) = (5 : Int32) ∨ ((p0 &&& (2147483647 : Int32)) % (11 : Int32)) = (6 : Int32) ∨ ((p0 &&& (2147483647 : Int32)) % (11 : Int32)) = (7 : Int32) ∨ ((p0 &&& (2147483647 : Int32)) % (11 : Int32)) = (8 : Int32) ∨ ((p0 &&& (2147483647 : Int32)) % (11 : Int32)) = (9 : Int32) ∨ ((p0 &&& (2147483647 : Int32)) % (11 : Int32)) = (10 : Int32) := by
  have h1 := c_mask p0 2147483647 31 (by decide) (by decide)
  have h2 := (c_irem (p0 &&& 2147483647) 11 11 (by decide)).1 (by omega)
  have e0 : (0 : Int32).toInt = 0 := by decide
  have e1 : (1 : Int32).toInt = 1 := by decide
  have e2 : (2 : Int32).toInt = 2 := by decide
  have e3 : (3 : Int32).toInt = 3 := by decide
  have e4 : (4 : Int32).toInt = 4 := by decide
  have e5 : (5 : Int32).toInt = 5 := by decide
  have e6 : (6 : Int32).toInt = 6 := by decide
  have e7 : (7 : Int32).toInt = 7 := by decide
  have e8 : (8 : Int32).toInt = 8 := by decide
  have e9 : (9 : Int32).toInt = 9 := by decide
  have e10 : (10 : Int32).toInt = 10 := by decide
  simp only [← Int32.toInt_inj, e0, e1, e2, e3, e4, e5, e6, e7, e8, e9, e10]
  omega
theorem own_fld {s : State} {args : Array Value} {t : Term} {C n d : String} {a : Addr} {v : Int32} (ev : t.eval args s none [] s = some (.ref a)) (h : (Cond.eq (.field t C n d) (.int v)).value args s none s [] = some true) : Fld s s.heap a C n d (.int v) := by
  refine Fld.start ?_
  have e := fld_at (C := C) (n := n) (dd := d) (first := s) (o := none) (idx := []) (args := args) ev
  have e2 : (Term.int v).eval args s none [] s = some (.int v) := rfl
  cases hf : s.fieldOf? a C n d with
  | none => simp [Cond.value, e, hf] at h
  | some u =>
    rw [hf] at e
    cases u <;> simp [Cond.value, e, e2] at h
    rw [h]
theorem pd0_0 : parseMethodDescriptor "(I)Lcom/example/opaq/opaq/EncryptionAlgorithm;" = some ⟨[.int], some (.object "com/example/opaq/opaq/EncryptionAlgorithm")⟩ := by decide +kernel
theorem pd0_1 : parseMethodDescriptor "(I)I" = some ⟨[.int], some .int⟩ := by decide +kernel
theorem pd0_2 : parseMethodDescriptor "([B)V" = some ⟨[(.array .byte)], none⟩ := by decide +kernel
theorem pn0 : plainName "com/example/opaq/opaq/EncryptionAlgorithmCheckKeyPinLaw" = true := by first | (simp [plainName, overriddenIn]; done) | decide +kernel
theorem ef0 (m : MethodId) (x0 : Int32) (x1 : Int32) : entryFrame m #[(.int x0), (.int x1)] maxLocals = mkF m 0 #[.val (.int x0), .val (.int x1), .unset, .unset, .unset] [] := by first | (simp [entryFrame, mkF, argsToLocals, Value.category, maxLocals]; done) | rfl
set_option maxRecDepth 65536 in
set_option maxHeartbeats 40000000 in
theorem rm_law (l : Launch) (Z : State) (a0 : Array Value) (hw : ∀ d ∈ tables_1, d.before a0 Z = true) (ws : List Jvm.Cond) (p0 : Int32) (p1 : Int32) (u0 u1 u2 u3 u4 u5 u6 u7 u8 u9 u10 : Addr) (h0 : Heap) (n0 : Nat) (Z0 : n0 ≤ h0.size) (S0 : Sta Z h0 "com/example/opaq/opaq/EncryptionAlgorithm" "TRIPLEDES_CBC" "Lcom/example/opaq/opaq/EncryptionAlgorithm;" (.ref u0)) (E0 : Exa Z h0 u0 "com/example/opaq/opaq/EncryptionAlgorithm") (L0 : Fld Z h0 u0 "com/example/opaq/opaq/EncryptionAlgorithm" "keyLength" "I" (.int (24 : Int32))) (S1 : Sta Z h0 "com/example/opaq/opaq/EncryptionAlgorithm" "AES128_CBC" "Lcom/example/opaq/opaq/EncryptionAlgorithm;" (.ref u1)) (E1 : Exa Z h0 u1 "com/example/opaq/opaq/EncryptionAlgorithm") (L1 : Fld Z h0 u1 "com/example/opaq/opaq/EncryptionAlgorithm" "keyLength" "I" (.int (16 : Int32))) (S2 : Sta Z h0 "com/example/opaq/opaq/EncryptionAlgorithm" "AES192_CBC" "Lcom/example/opaq/opaq/EncryptionAlgorithm;" (.ref u2)) (E2 : Exa Z h0 u2 "com/example/opaq/opaq/EncryptionAlgorithm") (L2 : Fld Z h0 u2 "com/example/opaq/opaq/EncryptionAlgorithm" "keyLength" "I" (.int (24 : Int32))) (S3 : Sta Z h0 "com/example/opaq/opaq/EncryptionAlgorithm" "AES256_CBC" "Lcom/example/opaq/opaq/EncryptionAlgorithm;" (.ref u3)) (E3 : Exa Z h0 u3 "com/example/opaq/opaq/EncryptionAlgorithm") (L3 : Fld Z h0 u3 "com/example/opaq/opaq/EncryptionAlgorithm" "keyLength" "I" (.int (32 : Int32))) (S4 : Sta Z h0 "com/example/opaq/opaq/EncryptionAlgorithm" "AES128_GCM" "Lcom/example/opaq/opaq/EncryptionAlgorithm;" (.ref u4)) (E4 : Exa Z h0 u4 "com/example/opaq/opaq/EncryptionAlgorithm") (L4 : Fld Z h0 u4 "com/example/opaq/opaq/EncryptionAlgorithm" "keyLength" "I" (.int (16 : Int32))) (S5 : Sta Z h0 "com/example/opaq/opaq/EncryptionAlgorithm" "AES192_GCM" "Lcom/example/opaq/opaq/EncryptionAlgorithm;" (.ref u5)) (E5 : Exa Z h0 u5 "com/example/opaq/opaq/EncryptionAlgorithm") (L5 : Fld Z h0 u5 "com/example/opaq/opaq/EncryptionAlgorithm" "keyLength" "I" (.int (24 : Int32))) (S6 : Sta Z h0 "com/example/opaq/opaq/EncryptionAlgorithm" "AES256_GCM" "Lcom/example/opaq/opaq/EncryptionAlgorithm;" (.ref u6)) (E6 : Exa Z h0 u6 "com/example/opaq/opaq/EncryptionAlgorithm") (L6 : Fld Z h0 u6 "com/example/opaq/opaq/EncryptionAlgorithm" "keyLength" "I" (.int (32 : Int32))) (S7 : Sta Z h0 "com/example/opaq/opaq/EncryptionAlgorithm" "KW_AES128" "Lcom/example/opaq/opaq/EncryptionAlgorithm;" (.ref u7)) (E7 : Exa Z h0 u7 "com/example/opaq/opaq/EncryptionAlgorithm") (L7 : Fld Z h0 u7 "com/example/opaq/opaq/EncryptionAlgorithm" "keyLength" "I" (.int (16 : Int32))) (S8 : Sta Z h0 "com/example/opaq/opaq/EncryptionAlgorithm" "KW_AES192" "Lcom/example/opaq/opaq/EncryptionAlgorithm;" (.ref u8)) (E8 : Exa Z h0 u8 "com/example/opaq/opaq/EncryptionAlgorithm") (L8 : Fld Z h0 u8 "com/example/opaq/opaq/EncryptionAlgorithm" "keyLength" "I" (.int (24 : Int32))) (S9 : Sta Z h0 "com/example/opaq/opaq/EncryptionAlgorithm" "KW_AES256" "Lcom/example/opaq/opaq/EncryptionAlgorithm;" (.ref u9)) (E9 : Exa Z h0 u9 "com/example/opaq/opaq/EncryptionAlgorithm") (L9 : Fld Z h0 u9 "com/example/opaq/opaq/EncryptionAlgorithm" "keyLength" "I" (.int (32 : Int32))) (S10 : Sta Z h0 "com/example/opaq/opaq/EncryptionAlgorithm" "KW_TRIPLEDES" "Lcom/example/opaq/opaq/EncryptionAlgorithm;" (.ref u10)) (E10 : Exa Z h0 u10 "com/example/opaq/opaq/EncryptionAlgorithm") (L10 : Fld Z h0 u10 "com/example/opaq/opaq/EncryptionAlgorithm" "keyLength" "I" (.int (24 : Int32))) :
    MetFree l x (head1 (Jvm.Cond.code x code maxLocals ret :: ws) room_1) (fun a U => a = #[(.int p0), (.int p1)] ∧ Z.Warmed39 U.vm ∧ U.heap = h0) (fun _ _ _ _ _ => True) (fun _ U o U' => ∃ v L, o = .returned v ∧ QL n0 v U'.heap L ∧ FrameEnd U o U' L 16 128) := by
  refine MetFree.of_bodySF (plainFor_of_name pn0) hisR ?_
  intro p e s m args below meth c s₁ Bd hml0 hP hK
  obtain ⟨rfl, hZ, hh⟩ := hP
  have hx := Bd.exec
  have hby := Bd.bytes
  have hret := Bd.returns
  have hlk := Bd.notSynchronized
  have hml : c.maxLocals = 5 := hml0
  have hown : s.vm.findClass "com/example/opaq/opaq/EncryptionAlgorithmCheckKeyPinLaw" = some m.cls := findClass_of_methodNamed Bd.named
  have hnm := (name_of_methodNamed Bd.named Bd.method).1
  have X0 : Stand p l e room_1 s m #[(.int p0), (.int p1)] below meth c s₁ [] 0 0 := Stand.of_body Bd
  have e0 : s₁.heap = h0 := by rw [← hh, Bd.state]; rfl
  have N0 := Fr.nil n0
  show Wp p e below (fun o s₂ => ∃ v L, o = .returned v ∧ QL n0 v s₂.heap L ∧ FrameEnd s o s₂ L 16 128) _
  refine Wp.back (U' := (s₁.setTop (mkF m 0 #[.val (.int p0), .val (.int p1), .unset, .unset, .unset] []))) (fun t k => castTop (ef0 m p0 p1) k) ?_
  refine Wp.back (U' := (s₁.setTop (mkF m 8 #[.val (.int p0), .val (.int p1), .val (.int ((p0 &&& (2147483647 : Int32)) % (11 : Int32))), .unset, .unset] []))) (fun t k => XS.iloadN X0.here hx rfl (hb hby at_0) rfl (Jvm.Stand.ldcI X0 hx hown (mvT hZ (hw _ (List.mem_of_getElem? (i := 0) rfl))) rfl (hb hby at_1) (XS.iand X0.here hx rfl (hb hby at_3) rfl (XT.bipushV X0.here hx rfl (11 : Int32) (hb hby at_4) (by decide) (iremM X0 hx rfl (hb hby at_6) rfl (by decide) (XS.istoreN X0.here hx rfl (hb hby at_7) rfl (l' := #[.val (.int p0), .val (.int p1), .val (.int ((p0 &&& (2147483647 : Int32)) % (11 : Int32))), .unset, .unset]) rfl k)))))) ?_
  rcases own_n p0 with hk1 | hk2 | hk3 | hk4 | hk5 | hk6 | hk7 | hk8 | hk9 | hk10 | hk11
  · rw [hk1]
    refine Wp.back (U' := (s₁.setTop (mkF m 9 #[.val (.int p0), .val (.int p1), .val (.int (0 : Int32)), .unset, .unset] [(.int (0 : Int32))]))) (fun t k => XS.iloadN X0.here hx rfl (hb hby at_8) rfl k) ?_
    obtain ⟨_, _, ⟨T12, L12, k12, n12⟩, -, X12, ⟨Lc12, hQ12, l12, y12, z12⟩, st12⟩ := Jvm.LawKit.callS X0 hx (y := (⟨"com/example/opaq/opaq/EncryptionAlgorithmCheckKeyPinLaw", "pick", "(I)Lcom/example/opaq/opaq/EncryptionAlgorithm;"⟩ : MethodName)) hown (mvT hZ (hw _ (List.mem_of_getElem? (i := 1) rfl))) (mvT hZ (hw _ (List.mem_of_getElem? (i := 2) rfl))) (mvT hZ (hw _ (List.mem_of_getElem? (i := 3) rfl))) (mvT hZ (hw _ (List.mem_of_getElem? (i := 4) rfl))) (by decide) (backOf (W := 0) (rm_pk0 l Z a0 hw []  u0 h0 n0 Z0 S0) hZ (hw _ (List.mem_of_getElem? (i := 4) rfl)) (hw _ (List.mem_of_getElem? (i := 3) rfl)) (by decide) (by decide)) (g := (mkF m 9 #[.val (.int p0), .val (.int p1), .val (.int (0 : Int32)), .unset, .unset] [(.int (0 : Int32))])) rfl (by rw [hml]; rfl) (argsL := [(.int (0 : Int32))]) (rest := []) (lenOf pd0_0 rfl) rfl (by show 2 * 0 + _ ≤ _; exact Nat.le_of_eq rfl) (hb hby at_9) (fun _ _ => ⟨rfl, e0, (by decide : 0 + 0 ≤ _), (by decide : 0 + 0 ≤ _)⟩)
    dsimp only [Pt.U, Pt.locs, Pt.cells, Pt.slots] at X12 l12 y12 z12 st12 hQ12
    subst l12 y12 z12
    obtain ⟨rfl, N12q, K12⟩ := hQ12
    have f13_0 := Nat.le_trans Z0 K12.1
    have f13_1 := Sta_keep0 S0 K12
    have f13_2 := E0.keep K12
    have f13_3 := L0.keep K12 nin0
    have N12 := Fr.app N0 N12q
    refine Wp.back (U' := (T12.setTop (mkF m 12 #[.val (.int p0), .val (.int p1), .val (.int (0 : Int32)), .unset, .unset] [(.ref u0)]))) st12 ?_
    refine Wp.back (U' := (T12.setTop (mkF m 14 #[.val (.int p0), .val (.int p1), .val (.int (0 : Int32)), .val (.ref u0), .unset] [(.int (0 : Int32))]))) (fun t k => XS.astoreN X12.here hx rfl (hb hby at_12) rfl rfl (l' := #[.val (.int p0), .val (.int p1), .val (.int (0 : Int32)), .val (.ref u0), .unset]) rfl (XS.iloadN X12.here hx rfl (hb hby at_13) rfl k)) ?_
    obtain ⟨_, _, ⟨T14, L14, k14, n14⟩, -, X14, ⟨Lc14, hQ14, l14, y14, z14⟩, st14⟩ := Jvm.LawKit.callS X12 hx (y := (⟨"com/example/opaq/opaq/EncryptionAlgorithmCheckKeyPinLaw", "expectedLength", "(I)I"⟩ : MethodName)) hown (mvT hZ (hw _ (List.mem_of_getElem? (i := 8) rfl))) (mvT hZ (hw _ (List.mem_of_getElem? (i := 9) rfl))) (mvT hZ (hw _ (List.mem_of_getElem? (i := 3) rfl))) (mvT hZ (hw _ (List.mem_of_getElem? (i := 10) rfl))) (by decide) (backOf (W := 0) (rm_el0 l Z a0 hw []   T12.heap n0 f13_0 ) hZ (hw _ (List.mem_of_getElem? (i := 10) rfl)) (hw _ (List.mem_of_getElem? (i := 3) rfl)) (by decide) (by decide)) (g := (mkF m 14 #[.val (.int p0), .val (.int p1), .val (.int (0 : Int32)), .val (.ref u0), .unset] [(.int (0 : Int32))])) rfl (by rw [hml]; rfl) (argsL := [(.int (0 : Int32))]) (rest := []) (lenOf pd0_1 rfl) rfl (by show 2 * 0 + _ ≤ _; exact Nat.le_of_eq rfl) (hb hby at_14) (fun _ _ => ⟨rfl, rfl, (by decide : 0 + 0 ≤ _), (by decide : 0 + 0 ≤ _)⟩)
    dsimp only [Pt.U, Pt.locs, Pt.cells, Pt.slots] at X14 l14 y14 z14 st14 hQ14
    subst l14 y14 z14
    obtain ⟨rfl, N14q, K14⟩ := hQ14
    have f15_0 := Nat.le_trans f13_0 K14.1
    have f15_1 := Sta_keep0 f13_1 K14
    have f15_2 := f13_2.keep K14
    have f15_3 := f13_3.keep K14 nin0
    have N14 := Fr.app N12 N14q
    refine Wp.back (U' := (T14.setTop (mkF m 17 #[.val (.int p0), .val (.int p1), .val (.int (0 : Int32)), .val (.ref u0), .unset] [(.int (24 : Int32))]))) st14 ?_
    obtain ⟨T16, h16, k16, X16, e16, E16, A16, st16⟩ := newP X14 hx hZ (hw _ (List.mem_of_getElem? (i := 11) rfl)) rfl (g := (mkF m 17 #[.val (.int p0), .val (.int p1), .val (.int (0 : Int32)), .val (.ref u0), .unset] [(.int (24 : Int32))])) rfl (hb hby at_17) rfl (by decide) (cap := 24) (by decide) (by decide) (by decide) (by decide)
    obtain ⟨b16, g16⟩ : ∃ z, z = T14.heap.size := ⟨_, rfl⟩
    rw [← g16] at A16 st16
    have ne_u0_b16 : u0 ≠ b16 := Nat.ne_of_lt (Nat.lt_of_lt_of_le f15_2.lt (Nat.le_of_eq g16.symm))
    have g_b16 : n0 ≤ b16 := Nat.le_trans f15_0 (Nat.le_of_eq g16.symm)
    have f17_0 := Nat.le_trans f15_0 E16.1
    have f17_1 := f15_1.ext E16
    have f17_2 := f15_2.ext E16
    have f17_3 := f15_3.ext E16
    have V16 : Arv Z h16 b16 k16 .byte (24 : Int32) [(.int (0 : Int32)), (.int (0 : Int32)), (.int (0 : Int32)), (.int (0 : Int32)), (.int (0 : Int32)), (.int (0 : Int32)), (.int (0 : Int32)), (.int (0 : Int32)), (.int (0 : Int32)), (.int (0 : Int32)), (.int (0 : Int32)), (.int (0 : Int32)), (.int (0 : Int32)), (.int (0 : Int32)), (.int (0 : Int32)), (.int (0 : Int32)), (.int (0 : Int32)), (.int (0 : Int32)), (.int (0 : Int32)), (.int (0 : Int32)), (.int (0 : Int32)), (.int (0 : Int32)), (.int (0 : Int32)), (.int (0 : Int32))] (.int (0 : Int32)) := (Arv.new A16 (by decide)).pad (pad_rep [] (.int (0 : Int32)) 24)
    refine Wp.back (U' := (T16.setTop (mkF m 19 #[.val (.int p0), .val (.int p1), .val (.int (0 : Int32)), .val (.ref u0), .unset] [(.ref b16)]))) st16 ?_
    refine Wp.back (U' := (T16.setTop (mkF m 23 #[.val (.int p0), .val (.int p1), .val (.int (0 : Int32)), .val (.ref u0), .val (.ref b16)] [(.ref b16)]))) (fun t k => XS.astore X16.here hx rfl (hb hby at_19) rfl rfl (l' := #[.val (.int p0), .val (.int p1), .val (.int (0 : Int32)), .val (.ref u0), .val (.ref b16)]) rfl (XS.aload X16.here hx rfl (hb hby at_21) rfl rfl k)) ?_
    have vq18 := V16
    obtain ⟨cl18, Ar18, -, qs18, qn18, -, -⟩ := vq18
    refine Wp.back (U' := (T16.setTop (mkF m 24 #[.val (.int p0), .val (.int p1), .val (.int (0 : Int32)), .val (.ref u0), .val (.ref b16)] [(.int (24 : Int32))]))) (fun t k => X16.arraylength hx (by rw [e16]; exact Ar18.1) (State.isArrayOf_alike hZ.alike Ar18.2.1) (g := (mkF m 23 #[.val (.int p0), .val (.int p1), .val (.int (0 : Int32)), .val (.ref u0), .val (.ref b16)] [(.ref b16)])) rfl rfl (hb hby at_23) t (by rw [len_of qs18 qn18]; exact k)) ?_
    refine Wp.back (U' := (T16.setTop (mkF m 32 #[.val (.int p0), .val (.int p1), .val (.int (0 : Int32)), .val (.ref u0), .val (.ref b16)] [(.int (p1).toInt8.toInt32), (.int (0 : Int32)), (.ref b16)]))) (fun t k => XS.ifNo X16.here hx rfl (hb hby at_24) rfl ((if0 _ _).trans (tlt (by decide)).2.2.2) (XS.aload X16.here hx rfl (hb hby at_27) rfl rfl (XT.iconstV X16.here hx rfl (0 : Int32) (hb hby at_29) (by decide) (XS.iloadN X16.here hx rfl (hb hby at_30) rfl (XS.i2b X16.here hx rfl (hb hby at_31) rfl k))))) ?_
    have vq19 := V16
    obtain ⟨cl19, Ar19, qa19, qs19, qn19, qh19, qg19⟩ := vq19
    have hin19 : ¬ ((0 : Int32) < 0 ∨ cl19.slots.size ≤ ((0 : Int32)).toNatClampNeg) := inb_of qs19 ⟨by decide, by decide⟩
    obtain ⟨T19, h19, X19, e19, W19, st19⟩ := stB X16 hx hZ e16 Ar19 (j := (0 : Int32)) hin19 (g := (mkF m 32 #[.val (.int p0), .val (.int p1), .val (.int (0 : Int32)), .val (.ref u0), .val (.ref b16)] [(.int (p1).toInt8.toInt32), (.int (0 : Int32)), (.ref b16)])) rfl rfl (hb hby at_32)
    have V19 : Arv Z h19 b16 k16 .byte (24 : Int32) [(.int (nar .byte (p1).toInt8.toInt32)), (.int (0 : Int32)), (.int (0 : Int32)), (.int (0 : Int32)), (.int (0 : Int32)), (.int (0 : Int32)), (.int (0 : Int32)), (.int (0 : Int32)), (.int (0 : Int32)), (.int (0 : Int32)), (.int (0 : Int32)), (.int (0 : Int32)), (.int (0 : Int32)), (.int (0 : Int32)), (.int (0 : Int32)), (.int (0 : Int32)), (.int (0 : Int32)), (.int (0 : Int32)), (.int (0 : Int32)), (.int (0 : Int32)), (.int (0 : Int32)), (.int (0 : Int32)), (.int (0 : Int32)), (.int (0 : Int32))] (.int (0 : Int32)) := Arv.set Ar19 qa19 qs19 qn19 qh19 qg19 (fits_nar_byte (p1).toInt8.toInt32) W19 0 rfl (Nat.le_of_ble_eq_true rfl)
    have f20_0 := Nat.le_trans f17_0 (Keep.of_wr W19).1
    have f20_1 := f17_1.wr W19
    have f20_2 := f17_2.wr W19
    have f20_3 := f17_3.other W19 (Or.inl ne_u0_b16)
    have N19 := Fr.snoc X19 N14 g_b16
    refine Wp.back (U' := (T19.setTop (mkF m 33 #[.val (.int p0), .val (.int p1), .val (.int (0 : Int32)), .val (.ref u0), .val (.ref b16)] []))) st19 ?_
    refine Wp.back (U' := (T19.setTop (mkF m 37 #[.val (.int p0), .val (.int p1), .val (.int (0 : Int32)), .val (.ref u0), .val (.ref b16)] [(.ref b16), (.ref b16)]))) (fun t k => XS.aload X19.here hx rfl (hb hby at_33) rfl rfl (XS.aload X19.here hx rfl (hb hby at_35) rfl rfl k)) ?_
    have vq21 := V19
    obtain ⟨cl21, Ar21, -, qs21, qn21, -, -⟩ := vq21
    refine Wp.back (U' := (T19.setTop (mkF m 38 #[.val (.int p0), .val (.int p1), .val (.int (0 : Int32)), .val (.ref u0), .val (.ref b16)] [(.int (24 : Int32)), (.ref b16)]))) (fun t k => X19.arraylength hx (by rw [e19]; exact Ar21.1) (State.isArrayOf_alike hZ.alike Ar21.2.1) (g := (mkF m 37 #[.val (.int p0), .val (.int p1), .val (.int (0 : Int32)), .val (.ref u0), .val (.ref b16)] [(.ref b16), (.ref b16)])) rfl rfl (hb hby at_37) t (by rw [len_of qs21 qn21]; exact k)) ?_
    refine Wp.back (U' := (T19.setTop (mkF m 45 #[.val (.int p0), .val (.int p1), .val (.int (0 : Int32)), .val (.ref u0), .val (.ref b16)] [(.int ((((p1).toUInt32 >>> ((8 : Int32) &&& 31).toUInt32).toInt32)).toInt8.toInt32), (.int (23 : Int32)), (.ref b16)]))) (fun t k => XT.iconstV X19.here hx rfl (1 : Int32) (hb hby at_38) (by decide) (XS.isub X19.here hx rfl (hb hby at_39) rfl (XS.iloadN X19.here hx rfl (hb hby at_40) rfl (XT.bipushV X19.here hx rfl (8 : Int32) (hb hby at_41) (by decide) (XS.iushr X19.here hx rfl (hb hby at_43) rfl (XS.i2b X19.here hx rfl (hb hby at_44) rfl k)))))) ?_
    have vq22 := V19
    obtain ⟨cl22, Ar22, qa22, qs22, qn22, qh22, qg22⟩ := vq22
    have hin22 : ¬ ((23 : Int32) < 0 ∨ cl22.slots.size ≤ ((23 : Int32)).toNatClampNeg) := inb_of qs22 ⟨by decide, by decide⟩
    obtain ⟨T22, h22, X22, e22, W22, st22⟩ := stB X19 hx hZ e19 Ar22 (j := (23 : Int32)) hin22 (g := (mkF m 45 #[.val (.int p0), .val (.int p1), .val (.int (0 : Int32)), .val (.ref u0), .val (.ref b16)] [(.int ((((p1).toUInt32 >>> ((8 : Int32) &&& 31).toUInt32).toInt32)).toInt8.toInt32), (.int (23 : Int32)), (.ref b16)])) rfl rfl (hb hby at_45)
    have V22 : Arv Z h22 b16 k16 .byte (24 : Int32) [(.int (nar .byte (p1).toInt8.toInt32)), (.int (0 : Int32)), (.int (0 : Int32)), (.int (0 : Int32)), (.int (0 : Int32)), (.int (0 : Int32)), (.int (0 : Int32)), (.int (0 : Int32)), (.int (0 : Int32)), (.int (0 : Int32)), (.int (0 : Int32)), (.int (0 : Int32)), (.int (0 : Int32)), (.int (0 : Int32)), (.int (0 : Int32)), (.int (0 : Int32)), (.int (0 : Int32)), (.int (0 : Int32)), (.int (0 : Int32)), (.int (0 : Int32)), (.int (0 : Int32)), (.int (0 : Int32)), (.int (0 : Int32)), (.int (nar .byte ((((p1).toUInt32 >>> ((8 : Int32) &&& 31).toUInt32).toInt32)).toInt8.toInt32))] (.int (0 : Int32)) := Arv.set Ar22 qa22 qs22 qn22 qh22 qg22 (fits_nar_byte ((((p1).toUInt32 >>> ((8 : Int32) &&& 31).toUInt32).toInt32)).toInt8.toInt32) W22 23 rfl (Nat.le_of_ble_eq_true rfl)
    have f23_0 := Nat.le_trans f20_0 (Keep.of_wr W22).1
    have f23_1 := f20_1.wr W22
    have f23_2 := f20_2.wr W22
    have f23_3 := f20_3.other W22 (Or.inl ne_u0_b16)
    have N22 := Fr.snoc X22 N19 g_b16
    refine Wp.back (U' := (T22.setTop (mkF m 46 #[.val (.int p0), .val (.int p1), .val (.int (0 : Int32)), .val (.ref u0), .val (.ref b16)] []))) st22 ?_
    refine Wp.back (U' := (T22.setTop (mkF m 49 #[.val (.int p0), .val (.int p1), .val (.int (0 : Int32)), .val (.ref u0), .val (.ref b16)] [(.ref b16), (.ref u0)]))) (fun t k => XS.aloadN X22.here hx rfl (hb hby at_46) rfl rfl (XS.aload X22.here hx rfl (hb hby at_47) rfl rfl k)) ?_
    obtain ⟨cq24, kq24, q24a, q24b, q24c⟩ := isOf hZ e22 f23_2
    obtain ⟨_, _, ⟨T24, L24, k24, n24⟩, -, X24, ⟨Lc24, hQ24, l24, y24, z24⟩, st24⟩ := X22.virtualBack hx (y := (⟨"com/example/opaq/opaq/EncryptionAlgorithm", "checkKey", "([B)V"⟩ : MethodName)) (z := (⟨"com/example/opaq/opaq/EncryptionAlgorithm", "checkKey", "([B)V"⟩ : MethodName)) hown (mvT hZ (hw _ (List.mem_of_getElem? (i := 12) rfl))) (mvT hZ (hw _ (List.mem_of_getElem? (i := 13) rfl))) (notFace_of_selects (args := #[]) (mvT hZ (hw _ (List.mem_of_getElem? (i := 15) rfl)))) (mvT hZ (hw _ (List.mem_of_getElem? (i := 15) rfl))) (mvT hZ (hw _ (List.mem_of_getElem? (i := 14) rfl))) (by decide) (backOf (W := 0) (rm_ck24 l Z a0 hw [] u0 b16 k16 [(.int (nar .byte (p1).toInt8.toInt32)), (.int (0 : Int32)), (.int (0 : Int32)), (.int (0 : Int32)), (.int (0 : Int32)), (.int (0 : Int32)), (.int (0 : Int32)), (.int (0 : Int32)), (.int (0 : Int32)), (.int (0 : Int32)), (.int (0 : Int32)), (.int (0 : Int32)), (.int (0 : Int32)), (.int (0 : Int32)), (.int (0 : Int32)), (.int (0 : Int32)), (.int (0 : Int32)), (.int (0 : Int32)), (.int (0 : Int32)), (.int (0 : Int32)), (.int (0 : Int32)), (.int (0 : Int32)), (.int (0 : Int32)), (.int (nar .byte ((((p1).toUInt32 >>> ((8 : Int32) &&& 31).toUInt32).toInt32)).toInt8.toInt32))] (.int (0 : Int32)) h22 n0 f23_0 f23_3 V22) hZ (hw _ (List.mem_of_getElem? (i := 16) rfl)) (hw _ (List.mem_of_getElem? (i := 6) rfl)) (by decide) (by decide)) q24a q24c (g := (mkF m 49 #[.val (.int p0), .val (.int p1), .val (.int (0 : Int32)), .val (.ref u0), .val (.ref b16)] [(.ref b16), (.ref u0)])) rfl (by rw [hml]; rfl) (Steps.refl _) (argsL := [(.ref b16)]) (rest := []) (lenOf pd0_2 rfl) rfl (by show 2 * 0 + _ ≤ _; exact Nat.le_of_eq rfl) (hb hby at_49) (fun _ _ => ⟨rfl, e22, (by decide : 1 + 0 ≤ _), (by decide : 24 + 0 ≤ _)⟩)
    dsimp only [Pt.U, Pt.locs, Pt.cells, Pt.slots] at X24 l24 y24 z24 st24 hQ24
    subst l24 y24 z24
    obtain ⟨rfl, N24q, K24⟩ := hQ24
    have f25_0 := Nat.le_trans f23_0 K24.1
    have f25_1 := Sta_keep0 f23_1 K24
    have f25_2 := f23_2.keep K24
    have f25_3 := f23_3.keep K24 nin0
    have f25_4 := V22.keep K24 nin0
    have N24 := Fr.app N22 N24q
    refine Wp.back (U' := (T24.setTop (mkF m 52 #[.val (.int p0), .val (.int p1), .val (.int (0 : Int32)), .val (.ref u0), .val (.ref b16)] []))) (fun t k => st24.trans k) ?_
    refine Wp.back (U' := (T24.setTop (mkF m 53 #[.val (.int p0), .val (.int p1), .val (.int (0 : Int32)), .val (.ref u0), .val (.ref b16)] [(.int (1 : Int32))]))) (fun t k => XT.iconstV X24.here hx rfl (1 : Int32) (hb hby at_52) (by decide) k) ?_
    obtain ⟨fs, hr, hrun, hended, hW, hsame⟩ := X24.leave (v := (some (.int (1 : Int32)))) (fun h => by rw [hret] at h; cases h)
    refine Wp.done (retN X24 hx (t := .boolean) hret (by simp) (hb hby at_53) hr) hrun hended ⟨_, _, rfl, ?_, ⟨_, rfl⟩, hW, hsame.mono (by decide) (by decide)⟩
    show QL n0 _ T24.heap _
    exact ⟨rfl, N24⟩
  · rw [hk2]
    refine Wp.back (U' := (s₁.setTop (mkF m 9 #[.val (.int p0), .val (.int p1), .val (.int (1 : Int32)), .unset, .unset] [(.int (1 : Int32))]))) (fun t k => XS.iloadN X0.here hx rfl (hb hby at_8) rfl k) ?_
    obtain ⟨_, _, ⟨T26, L26, k26, n26⟩, -, X26, ⟨Lc26, hQ26, l26, y26, z26⟩, st26⟩ := Jvm.LawKit.callS X0 hx (y := (⟨"com/example/opaq/opaq/EncryptionAlgorithmCheckKeyPinLaw", "pick", "(I)Lcom/example/opaq/opaq/EncryptionAlgorithm;"⟩ : MethodName)) hown (mvT hZ (hw _ (List.mem_of_getElem? (i := 1) rfl))) (mvT hZ (hw _ (List.mem_of_getElem? (i := 2) rfl))) (mvT hZ (hw _ (List.mem_of_getElem? (i := 3) rfl))) (mvT hZ (hw _ (List.mem_of_getElem? (i := 4) rfl))) (by decide) (backOf (W := 0) (rm_pk1 l Z a0 hw []  u1 h0 n0 Z0 S1) hZ (hw _ (List.mem_of_getElem? (i := 4) rfl)) (hw _ (List.mem_of_getElem? (i := 3) rfl)) (by decide) (by decide)) (g := (mkF m 9 #[.val (.int p0), .val (.int p1), .val (.int (1 : Int32)), .unset, .unset] [(.int (1 : Int32))])) rfl (by rw [hml]; rfl) (argsL := [(.int (1 : Int32))]) (rest := []) (lenOf pd0_0 rfl) rfl (by show 2 * 0 + _ ≤ _; exact Nat.le_of_eq rfl) (hb hby at_9) (fun _ _ => ⟨rfl, e0, (by decide : 0 + 0 ≤ _), (by decide : 0 + 0 ≤ _)⟩)
    dsimp only [Pt.U, Pt.locs, Pt.cells, Pt.slots] at X26 l26 y26 z26 st26 hQ26
    subst l26 y26 z26
    obtain ⟨rfl, N26q, K26⟩ := hQ26
    have f27_0 := Nat.le_trans Z0 K26.1
    have f27_1 := Sta_keep0 S1 K26
    have f27_2 := E1.keep K26
    have f27_3 := L1.keep K26 nin0
    have N26 := Fr.app N0 N26q
    refine Wp.back (U' := (T26.setTop (mkF m 12 #[.val (.int p0), .val (.int p1), .val (.int (1 : Int32)), .unset, .unset] [(.ref u1)]))) st26 ?_
    refine Wp.back (U' := (T26.setTop (mkF m 14 #[.val (.int p0), .val (.int p1), .val (.int (1 : Int32)), .val (.ref u1), .unset] [(.int (1 : Int32))]))) (fun t k => XS.astoreN X26.here hx rfl (hb hby at_12) rfl rfl (l' := #[.val (.int p0), .val (.int p1), .val (.int (1 : Int32)), .val (.ref u1), .unset]) rfl (XS.iloadN X26.here hx rfl (hb hby at_13) rfl k)) ?_
    obtain ⟨_, _, ⟨T28, L28, k28, n28⟩, -, X28, ⟨Lc28, hQ28, l28, y28, z28⟩, st28⟩ := Jvm.LawKit.callS X26 hx (y := (⟨"com/example/opaq/opaq/EncryptionAlgorithmCheckKeyPinLaw", "expectedLength", "(I)I"⟩ : MethodName)) hown (mvT hZ (hw _ (List.mem_of_getElem? (i := 8) rfl))) (mvT hZ (hw _ (List.mem_of_getElem? (i := 9) rfl))) (mvT hZ (hw _ (List.mem_of_getElem? (i := 3) rfl))) (mvT hZ (hw _ (List.mem_of_getElem? (i := 10) rfl))) (by decide) (backOf (W := 0) (rm_el1 l Z a0 hw []   T26.heap n0 f27_0 ) hZ (hw _ (List.mem_of_getElem? (i := 10) rfl)) (hw _ (List.mem_of_getElem? (i := 3) rfl)) (by decide) (by decide)) (g := (mkF m 14 #[.val (.int p0), .val (.int p1), .val (.int (1 : Int32)), .val (.ref u1), .unset] [(.int (1 : Int32))])) rfl (by rw [hml]; rfl) (argsL := [(.int (1 : Int32))]) (rest := []) (lenOf pd0_1 rfl) rfl (by show 2 * 0 + _ ≤ _; exact Nat.le_of_eq rfl) (hb hby at_14) (fun _ _ => ⟨rfl, rfl, (by decide : 0 + 0 ≤ _), (by decide : 0 + 0 ≤ _)⟩)
    dsimp only [Pt.U, Pt.locs, Pt.cells, Pt.slots] at X28 l28 y28 z28 st28 hQ28
    subst l28 y28 z28
    obtain ⟨rfl, N28q, K28⟩ := hQ28
    have f29_0 := Nat.le_trans f27_0 K28.1
    have f29_1 := Sta_keep0 f27_1 K28
    have f29_2 := f27_2.keep K28
    have f29_3 := f27_3.keep K28 nin0
    have N28 := Fr.app N26 N28q
    refine Wp.back (U' := (T28.setTop (mkF m 17 #[.val (.int p0), .val (.int p1), .val (.int (1 : Int32)), .val (.ref u1), .unset] [(.int (16 : Int32))]))) st28 ?_
    obtain ⟨T30, h30, k30, X30, e30, E30, A30, st30⟩ := newP X28 hx hZ (hw _ (List.mem_of_getElem? (i := 11) rfl)) rfl (g := (mkF m 17 #[.val (.int p0), .val (.int p1), .val (.int (1 : Int32)), .val (.ref u1), .unset] [(.int (16 : Int32))])) rfl (hb hby at_17) rfl (by decide) (cap := 16) (by decide) (by decide) (by decide) (by decide)
    obtain ⟨b30, g30⟩ : ∃ z, z = T28.heap.size := ⟨_, rfl⟩
    rw [← g30] at A30 st30
    have ne_u1_b30 : u1 ≠ b30 := Nat.ne_of_lt (Nat.lt_of_lt_of_le f29_2.lt (Nat.le_of_eq g30.symm))
    have g_b30 : n0 ≤ b30 := Nat.le_trans f29_0 (Nat.le_of_eq g30.symm)
    have f31_0 := Nat.le_trans f29_0 E30.1
    have f31_1 := f29_1.ext E30
    have f31_2 := f29_2.ext E30
    have f31_3 := f29_3.ext E30
    have V30 : Arv Z h30 b30 k30 .byte (16 : Int32) [(.int (0 : Int32)), (.int (0 : Int32)), (.int (0 : Int32)), (.int (0 : Int32)), (.int (0 : Int32)), (.int (0 : Int32)), (.int (0 : Int32)), (.int (0 : Int32)), (.int (0 : Int32)), (.int (0 : Int32)), (.int (0 : Int32)), (.int (0 : Int32)), (.int (0 : Int32)), (.int (0 : Int32)), (.int (0 : Int32)), (.int (0 : Int32))] (.int (0 : Int32)) := (Arv.new A30 (by decide)).pad (pad_rep [] (.int (0 : Int32)) 16)
    refine Wp.back (U' := (T30.setTop (mkF m 19 #[.val (.int p0), .val (.int p1), .val (.int (1 : Int32)), .val (.ref u1), .unset] [(.ref b30)]))) st30 ?_
    refine Wp.back (U' := (T30.setTop (mkF m 23 #[.val (.int p0), .val (.int p1), .val (.int (1 : Int32)), .val (.ref u1), .val (.ref b30)] [(.ref b30)]))) (fun t k => XS.astore X30.here hx rfl (hb hby at_19) rfl rfl (l' := #[.val (.int p0), .val (.int p1), .val (.int (1 : Int32)), .val (.ref u1), .val (.ref b30)]) rfl (XS.aload X30.here hx rfl (hb hby at_21) rfl rfl k)) ?_
    have vq32 := V30
    obtain ⟨cl32, Ar32, -, qs32, qn32, -, -⟩ := vq32
    refine Wp.back (U' := (T30.setTop (mkF m 24 #[.val (.int p0), .val (.int p1), .val (.int (1 : Int32)), .val (.ref u1), .val (.ref b30)] [(.int (16 : Int32))]))) (fun t k => X30.arraylength hx (by rw [e30]; exact Ar32.1) (State.isArrayOf_alike hZ.alike Ar32.2.1) (g := (mkF m 23 #[.val (.int p0), .val (.int p1), .val (.int (1 : Int32)), .val (.ref u1), .val (.ref b30)] [(.ref b30)])) rfl rfl (hb hby at_23) t (by rw [len_of qs32 qn32]; exact k)) ?_
    refine Wp.back (U' := (T30.setTop (mkF m 32 #[.val (.int p0), .val (.int p1), .val (.int (1 : Int32)), .val (.ref u1), .val (.ref b30)] [(.int (p1).toInt8.toInt32), (.int (0 : Int32)), (.ref b30)]))) (fun t k => XS.ifNo X30.here hx rfl (hb hby at_24) rfl ((if0 _ _).trans (tlt (by decide)).2.2.2) (XS.aload X30.here hx rfl (hb hby at_27) rfl rfl (XT.iconstV X30.here hx rfl (0 : Int32) (hb hby at_29) (by decide) (XS.iloadN X30.here hx rfl (hb hby at_30) rfl (XS.i2b X30.here hx rfl (hb hby at_31) rfl k))))) ?_
    have vq33 := V30
    obtain ⟨cl33, Ar33, qa33, qs33, qn33, qh33, qg33⟩ := vq33
    have hin33 : ¬ ((0 : Int32) < 0 ∨ cl33.slots.size ≤ ((0 : Int32)).toNatClampNeg) := inb_of qs33 ⟨by decide, by decide⟩
    obtain ⟨T33, h33, X33, e33, W33, st33⟩ := stB X30 hx hZ e30 Ar33 (j := (0 : Int32)) hin33 (g := (mkF m 32 #[.val (.int p0), .val (.int p1), .val (.int (1 : Int32)), .val (.ref u1), .val (.ref b30)] [(.int (p1).toInt8.toInt32), (.int (0 : Int32)), (.ref b30)])) rfl rfl (hb hby at_32)
    have V33 : Arv Z h33 b30 k30 .byte (16 : Int32) [(.int (nar .byte (p1).toInt8.toInt32)), (.int (0 : Int32)), (.int (0 : Int32)), (.int (0 : Int32)), (.int (0 : Int32)), (.int (0 : Int32)), (.int (0 : Int32)), (.int (0 : Int32)), (.int (0 : Int32)), (.int (0 : Int32)), (.int (0 : Int32)), (.int (0 : Int32)), (.int (0 : Int32)), (.int (0 : Int32)), (.int (0 : Int32)), (.int (0 : Int32))] (.int (0 : Int32)) := Arv.set Ar33 qa33 qs33 qn33 qh33 qg33 (fits_nar_byte (p1).toInt8.toInt32) W33 0 rfl (Nat.le_of_ble_eq_true rfl)
    have f34_0 := Nat.le_trans f31_0 (Keep.of_wr W33).1
    have f34_1 := f31_1.wr W33
    have f34_2 := f31_2.wr W33
    have f34_3 := f31_3.other W33 (Or.inl ne_u1_b30)
    have N33 := Fr.snoc X33 N28 g_b30
    refine Wp.back (U' := (T33.setTop (mkF m 33 #[.val (.int p0), .val (.int p1), .val (.int (1 : Int32)), .val (.ref u1), .val (.ref b30)] []))) st33 ?_
    refine Wp.back (U' := (T33.setTop (mkF m 37 #[.val (.int p0), .val (.int p1), .val (.int (1 : Int32)), .val (.ref u1), .val (.ref b30)] [(.ref b30), (.ref b30)]))) (fun t k => XS.aload X33.here hx rfl (hb hby at_33) rfl rfl (XS.aload X33.here hx rfl (hb hby at_35) rfl rfl k)) ?_
    have vq35 := V33
    obtain ⟨cl35, Ar35, -, qs35, qn35, -, -⟩ := vq35
    refine Wp.back (U' := (T33.setTop (mkF m 38 #[.val (.int p0), .val (.int p1), .val (.int (1 : Int32)), .val (.ref u1), .val (.ref b30)] [(.int (16 : Int32)), (.ref b30)]))) (fun t k => X33.arraylength hx (by rw [e33]; exact Ar35.1) (State.isArrayOf_alike hZ.alike Ar35.2.1) (g := (mkF m 37 #[.val (.int p0), .val (.int p1), .val (.int (1 : Int32)), .val (.ref u1), .val (.ref b30)] [(.ref b30), (.ref b30)])) rfl rfl (hb hby at_37) t (by rw [len_of qs35 qn35]; exact k)) ?_
    refine Wp.back (U' := (T33.setTop (mkF m 45 #[.val (.int p0), .val (.int p1), .val (.int (1 : Int32)), .val (.ref u1), .val (.ref b30)] [(.int ((((p1).toUInt32 >>> ((8 : Int32) &&& 31).toUInt32).toInt32)).toInt8.toInt32), (.int (15 : Int32)), (.ref b30)]))) (fun t k => XT.iconstV X33.here hx rfl (1 : Int32) (hb hby at_38) (by decide) (XS.isub X33.here hx rfl (hb hby at_39) rfl (XS.iloadN X33.here hx rfl (hb hby at_40) rfl (XT.bipushV X33.here hx rfl (8 : Int32) (hb hby at_41) (by decide) (XS.iushr X33.here hx rfl (hb hby at_43) rfl (XS.i2b X33.here hx rfl (hb hby at_44) rfl k)))))) ?_
    have vq36 := V33
    obtain ⟨cl36, Ar36, qa36, qs36, qn36, qh36, qg36⟩ := vq36
    have hin36 : ¬ ((15 : Int32) < 0 ∨ cl36.slots.size ≤ ((15 : Int32)).toNatClampNeg) := inb_of qs36 ⟨by decide, by decide⟩
    obtain ⟨T36, h36, X36, e36, W36, st36⟩ := stB X33 hx hZ e33 Ar36 (j := (15 : Int32)) hin36 (g := (mkF m 45 #[.val (.int p0), .val (.int p1), .val (.int (1 : Int32)), .val (.ref u1), .val (.ref b30)] [(.int ((((p1).toUInt32 >>> ((8 : Int32) &&& 31).toUInt32).toInt32)).toInt8.toInt32), (.int (15 : Int32)), (.ref b30)])) rfl rfl (hb hby at_45)
    have V36 : Arv Z h36 b30 k30 .byte (16 : Int32) [(.int (nar .byte (p1).toInt8.toInt32)), (.int (0 : Int32)), (.int (0 : Int32)), (.int (0 : Int32)), (.int (0 : Int32)), (.int (0 : Int32)), (.int (0 : Int32)), (.int (0 : Int32)), (.int (0 : Int32)), (.int (0 : Int32)), (.int (0 : Int32)), (.int (0 : Int32)), (.int (0 : Int32)), (.int (0 : Int32)), (.int (0 : Int32)), (.int (nar .byte ((((p1).toUInt32 >>> ((8 : Int32) &&& 31).toUInt32).toInt32)).toInt8.toInt32))] (.int (0 : Int32)) := Arv.set Ar36 qa36 qs36 qn36 qh36 qg36 (fits_nar_byte ((((p1).toUInt32 >>> ((8 : Int32) &&& 31).toUInt32).toInt32)).toInt8.toInt32) W36 15 rfl (Nat.le_of_ble_eq_true rfl)
    have f37_0 := Nat.le_trans f34_0 (Keep.of_wr W36).1
    have f37_1 := f34_1.wr W36
    have f37_2 := f34_2.wr W36
    have f37_3 := f34_3.other W36 (Or.inl ne_u1_b30)
    have N36 := Fr.snoc X36 N33 g_b30
    refine Wp.back (U' := (T36.setTop (mkF m 46 #[.val (.int p0), .val (.int p1), .val (.int (1 : Int32)), .val (.ref u1), .val (.ref b30)] []))) st36 ?_
    refine Wp.back (U' := (T36.setTop (mkF m 49 #[.val (.int p0), .val (.int p1), .val (.int (1 : Int32)), .val (.ref u1), .val (.ref b30)] [(.ref b30), (.ref u1)]))) (fun t k => XS.aloadN X36.here hx rfl (hb hby at_46) rfl rfl (XS.aload X36.here hx rfl (hb hby at_47) rfl rfl k)) ?_
    obtain ⟨cq38, kq38, q38a, q38b, q38c⟩ := isOf hZ e36 f37_2
    obtain ⟨_, _, ⟨T38, L38, k38, n38⟩, -, X38, ⟨Lc38, hQ38, l38, y38, z38⟩, st38⟩ := X36.virtualBack hx (y := (⟨"com/example/opaq/opaq/EncryptionAlgorithm", "checkKey", "([B)V"⟩ : MethodName)) (z := (⟨"com/example/opaq/opaq/EncryptionAlgorithm", "checkKey", "([B)V"⟩ : MethodName)) hown (mvT hZ (hw _ (List.mem_of_getElem? (i := 12) rfl))) (mvT hZ (hw _ (List.mem_of_getElem? (i := 13) rfl))) (notFace_of_selects (args := #[]) (mvT hZ (hw _ (List.mem_of_getElem? (i := 15) rfl)))) (mvT hZ (hw _ (List.mem_of_getElem? (i := 15) rfl))) (mvT hZ (hw _ (List.mem_of_getElem? (i := 14) rfl))) (by decide) (backOf (W := 0) (rm_ck16 l Z a0 hw [] u1 b30 k30 [(.int (nar .byte (p1).toInt8.toInt32)), (.int (0 : Int32)), (.int (0 : Int32)), (.int (0 : Int32)), (.int (0 : Int32)), (.int (0 : Int32)), (.int (0 : Int32)), (.int (0 : Int32)), (.int (0 : Int32)), (.int (0 : Int32)), (.int (0 : Int32)), (.int (0 : Int32)), (.int (0 : Int32)), (.int (0 : Int32)), (.int (0 : Int32)), (.int (nar .byte ((((p1).toUInt32 >>> ((8 : Int32) &&& 31).toUInt32).toInt32)).toInt8.toInt32))] (.int (0 : Int32)) h36 n0 f37_0 f37_3 V36) hZ (hw _ (List.mem_of_getElem? (i := 16) rfl)) (hw _ (List.mem_of_getElem? (i := 6) rfl)) (by decide) (by decide)) q38a q38c (g := (mkF m 49 #[.val (.int p0), .val (.int p1), .val (.int (1 : Int32)), .val (.ref u1), .val (.ref b30)] [(.ref b30), (.ref u1)])) rfl (by rw [hml]; rfl) (Steps.refl _) (argsL := [(.ref b30)]) (rest := []) (lenOf pd0_2 rfl) rfl (by show 2 * 0 + _ ≤ _; exact Nat.le_of_eq rfl) (hb hby at_49) (fun _ _ => ⟨rfl, e36, (by decide : 1 + 0 ≤ _), (by decide : 16 + 0 ≤ _)⟩)
    dsimp only [Pt.U, Pt.locs, Pt.cells, Pt.slots] at X38 l38 y38 z38 st38 hQ38
    subst l38 y38 z38
    obtain ⟨rfl, N38q, K38⟩ := hQ38
    have f39_0 := Nat.le_trans f37_0 K38.1
    have f39_1 := Sta_keep0 f37_1 K38
    have f39_2 := f37_2.keep K38
    have f39_3 := f37_3.keep K38 nin0
    have f39_4 := V36.keep K38 nin0
    have N38 := Fr.app N36 N38q
    refine Wp.back (U' := (T38.setTop (mkF m 52 #[.val (.int p0), .val (.int p1), .val (.int (1 : Int32)), .val (.ref u1), .val (.ref b30)] []))) (fun t k => st38.trans k) ?_
    refine Wp.back (U' := (T38.setTop (mkF m 53 #[.val (.int p0), .val (.int p1), .val (.int (1 : Int32)), .val (.ref u1), .val (.ref b30)] [(.int (1 : Int32))]))) (fun t k => XT.iconstV X38.here hx rfl (1 : Int32) (hb hby at_52) (by decide) k) ?_
    obtain ⟨fs, hr, hrun, hended, hW, hsame⟩ := X38.leave (v := (some (.int (1 : Int32)))) (fun h => by rw [hret] at h; cases h)
    refine Wp.done (retN X38 hx (t := .boolean) hret (by simp) (hb hby at_53) hr) hrun hended ⟨_, _, rfl, ?_, ⟨_, rfl⟩, hW, hsame.mono (by decide) (by decide)⟩
    show QL n0 _ T38.heap _
    exact ⟨rfl, N38⟩
  · rw [hk3]
    refine Wp.back (U' := (s₁.setTop (mkF m 9 #[.val (.int p0), .val (.int p1), .val (.int (2 : Int32)), .unset, .unset] [(.int (2 : Int32))]))) (fun t k => XS.iloadN X0.here hx rfl (hb hby at_8) rfl k) ?_
    obtain ⟨_, _, ⟨T40, L40, k40, n40⟩, -, X40, ⟨Lc40, hQ40, l40, y40, z40⟩, st40⟩ := Jvm.LawKit.callS X0 hx (y := (⟨"com/example/opaq/opaq/EncryptionAlgorithmCheckKeyPinLaw", "pick", "(I)Lcom/example/opaq/opaq/EncryptionAlgorithm;"⟩ : MethodName)) hown (mvT hZ (hw _ (List.mem_of_getElem? (i := 1) rfl))) (mvT hZ (hw _ (List.mem_of_getElem? (i := 2) rfl))) (mvT hZ (hw _ (List.mem_of_getElem? (i := 3) rfl))) (mvT hZ (hw _ (List.mem_of_getElem? (i := 4) rfl))) (by decide) (backOf (W := 0) (rm_pk2 l Z a0 hw []  u2 h0 n0 Z0 S2) hZ (hw _ (List.mem_of_getElem? (i := 4) rfl)) (hw _ (List.mem_of_getElem? (i := 3) rfl)) (by decide) (by decide)) (g := (mkF m 9 #[.val (.int p0), .val (.int p1), .val (.int (2 : Int32)), .unset, .unset] [(.int (2 : Int32))])) rfl (by rw [hml]; rfl) (argsL := [(.int (2 : Int32))]) (rest := []) (lenOf pd0_0 rfl) rfl (by show 2 * 0 + _ ≤ _; exact Nat.le_of_eq rfl) (hb hby at_9) (fun _ _ => ⟨rfl, e0, (by decide : 0 + 0 ≤ _), (by decide : 0 + 0 ≤ _)⟩)
    dsimp only [Pt.U, Pt.locs, Pt.cells, Pt.slots] at X40 l40 y40 z40 st40 hQ40
    subst l40 y40 z40
    obtain ⟨rfl, N40q, K40⟩ := hQ40
    have f41_0 := Nat.le_trans Z0 K40.1
    have f41_1 := Sta_keep0 S2 K40
    have f41_2 := E2.keep K40
    have f41_3 := L2.keep K40 nin0
    have N40 := Fr.app N0 N40q
    refine Wp.back (U' := (T40.setTop (mkF m 12 #[.val (.int p0), .val (.int p1), .val (.int (2 : Int32)), .unset, .unset] [(.ref u2)]))) st40 ?_
    refine Wp.back (U' := (T40.setTop (mkF m 14 #[.val (.int p0), .val (.int p1), .val (.int (2 : Int32)), .val (.ref u2), .unset] [(.int (2 : Int32))]))) (fun t k => XS.astoreN X40.here hx rfl (hb hby at_12) rfl rfl (l' := #[.val (.int p0), .val (.int p1), .val (.int (2 : Int32)), .val (.ref u2), .unset]) rfl (XS.iloadN X40.here hx rfl (hb hby at_13) rfl k)) ?_
    obtain ⟨_, _, ⟨T42, L42, k42, n42⟩, -, X42, ⟨Lc42, hQ42, l42, y42, z42⟩, st42⟩ := Jvm.LawKit.callS X40 hx (y := (⟨"com/example/opaq/opaq/EncryptionAlgorithmCheckKeyPinLaw", "expectedLength", "(I)I"⟩ : MethodName)) hown (mvT hZ (hw _ (List.mem_of_getElem? (i := 8) rfl))) (mvT hZ (hw _ (List.mem_of_getElem? (i := 9) rfl))) (mvT hZ (hw _ (List.mem_of_getElem? (i := 3) rfl))) (mvT hZ (hw _ (List.mem_of_getElem? (i := 10) rfl))) (by decide) (backOf (W := 0) (rm_el2 l Z a0 hw []   T40.heap n0 f41_0 ) hZ (hw _ (List.mem_of_getElem? (i := 10) rfl)) (hw _ (List.mem_of_getElem? (i := 3) rfl)) (by decide) (by decide)) (g := (mkF m 14 #[.val (.int p0), .val (.int p1), .val (.int (2 : Int32)), .val (.ref u2), .unset] [(.int (2 : Int32))])) rfl (by rw [hml]; rfl) (argsL := [(.int (2 : Int32))]) (rest := []) (lenOf pd0_1 rfl) rfl (by show 2 * 0 + _ ≤ _; exact Nat.le_of_eq rfl) (hb hby at_14) (fun _ _ => ⟨rfl, rfl, (by decide : 0 + 0 ≤ _), (by decide : 0 + 0 ≤ _)⟩)
    dsimp only [Pt.U, Pt.locs, Pt.cells, Pt.slots] at X42 l42 y42 z42 st42 hQ42
    subst l42 y42 z42
    obtain ⟨rfl, N42q, K42⟩ := hQ42
    have f43_0 := Nat.le_trans f41_0 K42.1
    have f43_1 := Sta_keep0 f41_1 K42
    have f43_2 := f41_2.keep K42
    have f43_3 := f41_3.keep K42 nin0
    have N42 := Fr.app N40 N42q
    refine Wp.back (U' := (T42.setTop (mkF m 17 #[.val (.int p0), .val (.int p1), .val (.int (2 : Int32)), .val (.ref u2), .unset] [(.int (24 : Int32))]))) st42 ?_
    obtain ⟨T44, h44, k44, X44, e44, E44, A44, st44⟩ := newP X42 hx hZ (hw _ (List.mem_of_getElem? (i := 11) rfl)) rfl (g := (mkF m 17 #[.val (.int p0), .val (.int p1), .val (.int (2 : Int32)), .val (.ref u2), .unset] [(.int (24 : Int32))])) rfl (hb hby at_17) rfl (by decide) (cap := 24) (by decide) (by decide) (by decide) (by decide)
    obtain ⟨b44, g44⟩ : ∃ z, z = T42.heap.size := ⟨_, rfl⟩
    rw [← g44] at A44 st44
    have ne_u2_b44 : u2 ≠ b44 := Nat.ne_of_lt (Nat.lt_of_lt_of_le f43_2.lt (Nat.le_of_eq g44.symm))
    have g_b44 : n0 ≤ b44 := Nat.le_trans f43_0 (Nat.le_of_eq g44.symm)
    have f45_0 := Nat.le_trans f43_0 E44.1
    have f45_1 := f43_1.ext E44
    have f45_2 := f43_2.ext E44
    have f45_3 := f43_3.ext E44
    have V44 : Arv Z h44 b44 k44 .byte (24 : Int32) [(.int (0 : Int32)), (.int (0 : Int32)), (.int (0 : Int32)), (.int (0 : Int32)), (.int (0 : Int32)), (.int (0 : Int32)), (.int (0 : Int32)), (.int (0 : Int32)), (.int (0 : Int32)), (.int (0 : Int32)), (.int (0 : Int32)), (.int (0 : Int32)), (.int (0 : Int32)), (.int (0 : Int32)), (.int (0 : Int32)), (.int (0 : Int32)), (.int (0 : Int32)), (.int (0 : Int32)), (.int (0 : Int32)), (.int (0 : Int32)), (.int (0 : Int32)), (.int (0 : Int32)), (.int (0 : Int32)), (.int (0 : Int32))] (.int (0 : Int32)) := (Arv.new A44 (by decide)).pad (pad_rep [] (.int (0 : Int32)) 24)
    refine Wp.back (U' := (T44.setTop (mkF m 19 #[.val (.int p0), .val (.int p1), .val (.int (2 : Int32)), .val (.ref u2), .unset] [(.ref b44)]))) st44 ?_
    refine Wp.back (U' := (T44.setTop (mkF m 23 #[.val (.int p0), .val (.int p1), .val (.int (2 : Int32)), .val (.ref u2), .val (.ref b44)] [(.ref b44)]))) (fun t k => XS.astore X44.here hx rfl (hb hby at_19) rfl rfl (l' := #[.val (.int p0), .val (.int p1), .val (.int (2 : Int32)), .val (.ref u2), .val (.ref b44)]) rfl (XS.aload X44.here hx rfl (hb hby at_21) rfl rfl k)) ?_
    have vq46 := V44
    obtain ⟨cl46, Ar46, -, qs46, qn46, -, -⟩ := vq46
    refine Wp.back (U' := (T44.setTop (mkF m 24 #[.val (.int p0), .val (.int p1), .val (.int (2 : Int32)), .val (.ref u2), .val (.ref b44)] [(.int (24 : Int32))]))) (fun t k => X44.arraylength hx (by rw [e44]; exact Ar46.1) (State.isArrayOf_alike hZ.alike Ar46.2.1) (g := (mkF m 23 #[.val (.int p0), .val (.int p1), .val (.int (2 : Int32)), .val (.ref u2), .val (.ref b44)] [(.ref b44)])) rfl rfl (hb hby at_23) t (by rw [len_of qs46 qn46]; exact k)) ?_
    refine Wp.back (U' := (T44.setTop (mkF m 32 #[.val (.int p0), .val (.int p1), .val (.int (2 : Int32)), .val (.ref u2), .val (.ref b44)] [(.int (p1).toInt8.toInt32), (.int (0 : Int32)), (.ref b44)]))) (fun t k => XS.ifNo X44.here hx rfl (hb hby at_24) rfl ((if0 _ _).trans (tlt (by decide)).2.2.2) (XS.aload X44.here hx rfl (hb hby at_27) rfl rfl (XT.iconstV X44.here hx rfl (0 : Int32) (hb hby at_29) (by decide) (XS.iloadN X44.here hx rfl (hb hby at_30) rfl (XS.i2b X44.here hx rfl (hb hby at_31) rfl k))))) ?_
    have vq47 := V44
    obtain ⟨cl47, Ar47, qa47, qs47, qn47, qh47, qg47⟩ := vq47
    have hin47 : ¬ ((0 : Int32) < 0 ∨ cl47.slots.size ≤ ((0 : Int32)).toNatClampNeg) := inb_of qs47 ⟨by decide, by decide⟩
    obtain ⟨T47, h47, X47, e47, W47, st47⟩ := stB X44 hx hZ e44 Ar47 (j := (0 : Int32)) hin47 (g := (mkF m 32 #[.val (.int p0), .val (.int p1), .val (.int (2 : Int32)), .val (.ref u2), .val (.ref b44)] [(.int (p1).toInt8.toInt32), (.int (0 : Int32)), (.ref b44)])) rfl rfl (hb hby at_32)
    have V47 : Arv Z h47 b44 k44 .byte (24 : Int32) [(.int (nar .byte (p1).toInt8.toInt32)), (.int (0 : Int32)), (.int (0 : Int32)), (.int (0 : Int32)), (.int (0 : Int32)), (.int (0 : Int32)), (.int (0 : Int32)), (.int (0 : Int32)), (.int (0 : Int32)), (.int (0 : Int32)), (.int (0 : Int32)), (.int (0 : Int32)), (.int (0 : Int32)), (.int (0 : Int32)), (.int (0 : Int32)), (.int (0 : Int32)), (.int (0 : Int32)), (.int (0 : Int32)), (.int (0 : Int32)), (.int (0 : Int32)), (.int (0 : Int32)), (.int (0 : Int32)), (.int (0 : Int32)), (.int (0 : Int32))] (.int (0 : Int32)) := Arv.set Ar47 qa47 qs47 qn47 qh47 qg47 (fits_nar_byte (p1).toInt8.toInt32) W47 0 rfl (Nat.le_of_ble_eq_true rfl)
    have f48_0 := Nat.le_trans f45_0 (Keep.of_wr W47).1
    have f48_1 := f45_1.wr W47
    have f48_2 := f45_2.wr W47
    have f48_3 := f45_3.other W47 (Or.inl ne_u2_b44)
    have N47 := Fr.snoc X47 N42 g_b44
    refine Wp.back (U' := (T47.setTop (mkF m 33 #[.val (.int p0), .val (.int p1), .val (.int (2 : Int32)), .val (.ref u2), .val (.ref b44)] []))) st47 ?_
    refine Wp.back (U' := (T47.setTop (mkF m 37 #[.val (.int p0), .val (.int p1), .val (.int (2 : Int32)), .val (.ref u2), .val (.ref b44)] [(.ref b44), (.ref b44)]))) (fun t k => XS.aload X47.here hx rfl (hb hby at_33) rfl rfl (XS.aload X47.here hx rfl (hb hby at_35) rfl rfl k)) ?_
    have vq49 := V47
    obtain ⟨cl49, Ar49, -, qs49, qn49, -, -⟩ := vq49
    refine Wp.back (U' := (T47.setTop (mkF m 38 #[.val (.int p0), .val (.int p1), .val (.int (2 : Int32)), .val (.ref u2), .val (.ref b44)] [(.int (24 : Int32)), (.ref b44)]))) (fun t k => X47.arraylength hx (by rw [e47]; exact Ar49.1) (State.isArrayOf_alike hZ.alike Ar49.2.1) (g := (mkF m 37 #[.val (.int p0), .val (.int p1), .val (.int (2 : Int32)), .val (.ref u2), .val (.ref b44)] [(.ref b44), (.ref b44)])) rfl rfl (hb hby at_37) t (by rw [len_of qs49 qn49]; exact k)) ?_
    refine Wp.back (U' := (T47.setTop (mkF m 45 #[.val (.int p0), .val (.int p1), .val (.int (2 : Int32)), .val (.ref u2), .val (.ref b44)] [(.int ((((p1).toUInt32 >>> ((8 : Int32) &&& 31).toUInt32).toInt32)).toInt8.toInt32), (.int (23 : Int32)), (.ref b44)]))) (fun t k => XT.iconstV X47.here hx rfl (1 : Int32) (hb hby at_38) (by decide) (XS.isub X47.here hx rfl (hb hby at_39) rfl (XS.iloadN X47.here hx rfl (hb hby at_40) rfl (XT.bipushV X47.here hx rfl (8 : Int32) (hb hby at_41) (by decide) (XS.iushr X47.here hx rfl (hb hby at_43) rfl (XS.i2b X47.here hx rfl (hb hby at_44) rfl k)))))) ?_
    have vq50 := V47
    obtain ⟨cl50, Ar50, qa50, qs50, qn50, qh50, qg50⟩ := vq50
    have hin50 : ¬ ((23 : Int32) < 0 ∨ cl50.slots.size ≤ ((23 : Int32)).toNatClampNeg) := inb_of qs50 ⟨by decide, by decide⟩
    obtain ⟨T50, h50, X50, e50, W50, st50⟩ := stB X47 hx hZ e47 Ar50 (j := (23 : Int32)) hin50 (g := (mkF m 45 #[.val (.int p0), .val (.int p1), .val (.int (2 : Int32)), .val (.ref u2), .val (.ref b44)] [(.int ((((p1).toUInt32 >>> ((8 : Int32) &&& 31).toUInt32).toInt32)).toInt8.toInt32), (.int (23 : Int32)), (.ref b44)])) rfl rfl (hb hby at_45)
    have V50 : Arv Z h50 b44 k44 .byte (24 : Int32) [(.int (nar .byte (p1).toInt8.toInt32)), (.int (0 : Int32)), (.int (0 : Int32)), (.int (0 : Int32)), (.int (0 : Int32)), (.int (0 : Int32)), (.int (0 : Int32)), (.int (0 : Int32)), (.int (0 : Int32)), (.int (0 : Int32)), (.int (0 : Int32)), (.int (0 : Int32)), (.int (0 : Int32)), (.int (0 : Int32)), (.int (0 : Int32)), (.int (0 : Int32)), (.int (0 : Int32)), (.int (0 : Int32)), (.int (0 : Int32)), (.int (0 : Int32)), (.int (0 : Int32)), (.int (0 : Int32)), (.int (0 : Int32)), (.int (nar .byte ((((p1).toUInt32 >>> ((8 : Int32) &&& 31).toUInt32).toInt32)).toInt8.toInt32))] (.int (0 : Int32)) := Arv.set Ar50 qa50 qs50 qn50 qh50 qg50 (fits_nar_byte ((((p1).toUInt32 >>> ((8 : Int32) &&& 31).toUInt32).toInt32)).toInt8.toInt32) W50 23 rfl (Nat.le_of_ble_eq_true rfl)
    have f51_0 := Nat.le_trans f48_0 (Keep.of_wr W50).1
    have f51_1 := f48_1.wr W50
    have f51_2 := f48_2.wr W50
    have f51_3 := f48_3.other W50 (Or.inl ne_u2_b44)
    have N50 := Fr.snoc X50 N47 g_b44
    refine Wp.back (U' := (T50.setTop (mkF m 46 #[.val (.int p0), .val (.int p1), .val (.int (2 : Int32)), .val (.ref u2), .val (.ref b44)] []))) st50 ?_
    refine Wp.back (U' := (T50.setTop (mkF m 49 #[.val (.int p0), .val (.int p1), .val (.int (2 : Int32)), .val (.ref u2), .val (.ref b44)] [(.ref b44), (.ref u2)]))) (fun t k => XS.aloadN X50.here hx rfl (hb hby at_46) rfl rfl (XS.aload X50.here hx rfl (hb hby at_47) rfl rfl k)) ?_
    obtain ⟨cq52, kq52, q52a, q52b, q52c⟩ := isOf hZ e50 f51_2
    obtain ⟨_, _, ⟨T52, L52, k52, n52⟩, -, X52, ⟨Lc52, hQ52, l52, y52, z52⟩, st52⟩ := X50.virtualBack hx (y := (⟨"com/example/opaq/opaq/EncryptionAlgorithm", "checkKey", "([B)V"⟩ : MethodName)) (z := (⟨"com/example/opaq/opaq/EncryptionAlgorithm", "checkKey", "([B)V"⟩ : MethodName)) hown (mvT hZ (hw _ (List.mem_of_getElem? (i := 12) rfl))) (mvT hZ (hw _ (List.mem_of_getElem? (i := 13) rfl))) (notFace_of_selects (args := #[]) (mvT hZ (hw _ (List.mem_of_getElem? (i := 15) rfl)))) (mvT hZ (hw _ (List.mem_of_getElem? (i := 15) rfl))) (mvT hZ (hw _ (List.mem_of_getElem? (i := 14) rfl))) (by decide) (backOf (W := 0) (rm_ck24 l Z a0 hw [] u2 b44 k44 [(.int (nar .byte (p1).toInt8.toInt32)), (.int (0 : Int32)), (.int (0 : Int32)), (.int (0 : Int32)), (.int (0 : Int32)), (.int (0 : Int32)), (.int (0 : Int32)), (.int (0 : Int32)), (.int (0 : Int32)), (.int (0 : Int32)), (.int (0 : Int32)), (.int (0 : Int32)), (.int (0 : Int32)), (.int (0 : Int32)), (.int (0 : Int32)), (.int (0 : Int32)), (.int (0 : Int32)), (.int (0 : Int32)), (.int (0 : Int32)), (.int (0 : Int32)), (.int (0 : Int32)), (.int (0 : Int32)), (.int (0 : Int32)), (.int (nar .byte ((((p1).toUInt32 >>> ((8 : Int32) &&& 31).toUInt32).toInt32)).toInt8.toInt32))] (.int (0 : Int32)) h50 n0 f51_0 f51_3 V50) hZ (hw _ (List.mem_of_getElem? (i := 16) rfl)) (hw _ (List.mem_of_getElem? (i := 6) rfl)) (by decide) (by decide)) q52a q52c (g := (mkF m 49 #[.val (.int p0), .val (.int p1), .val (.int (2 : Int32)), .val (.ref u2), .val (.ref b44)] [(.ref b44), (.ref u2)])) rfl (by rw [hml]; rfl) (Steps.refl _) (argsL := [(.ref b44)]) (rest := []) (lenOf pd0_2 rfl) rfl (by show 2 * 0 + _ ≤ _; exact Nat.le_of_eq rfl) (hb hby at_49) (fun _ _ => ⟨rfl, e50, (by decide : 1 + 0 ≤ _), (by decide : 24 + 0 ≤ _)⟩)
    dsimp only [Pt.U, Pt.locs, Pt.cells, Pt.slots] at X52 l52 y52 z52 st52 hQ52
    subst l52 y52 z52
    obtain ⟨rfl, N52q, K52⟩ := hQ52
    have f53_0 := Nat.le_trans f51_0 K52.1
    have f53_1 := Sta_keep0 f51_1 K52
    have f53_2 := f51_2.keep K52
    have f53_3 := f51_3.keep K52 nin0
    have f53_4 := V50.keep K52 nin0
    have N52 := Fr.app N50 N52q
    refine Wp.back (U' := (T52.setTop (mkF m 52 #[.val (.int p0), .val (.int p1), .val (.int (2 : Int32)), .val (.ref u2), .val (.ref b44)] []))) (fun t k => st52.trans k) ?_
    refine Wp.back (U' := (T52.setTop (mkF m 53 #[.val (.int p0), .val (.int p1), .val (.int (2 : Int32)), .val (.ref u2), .val (.ref b44)] [(.int (1 : Int32))]))) (fun t k => XT.iconstV X52.here hx rfl (1 : Int32) (hb hby at_52) (by decide) k) ?_
    obtain ⟨fs, hr, hrun, hended, hW, hsame⟩ := X52.leave (v := (some (.int (1 : Int32)))) (fun h => by rw [hret] at h; cases h)
    refine Wp.done (retN X52 hx (t := .boolean) hret (by simp) (hb hby at_53) hr) hrun hended ⟨_, _, rfl, ?_, ⟨_, rfl⟩, hW, hsame.mono (by decide) (by decide)⟩
    show QL n0 _ T52.heap _
    exact ⟨rfl, N52⟩
  · rw [hk4]
    refine Wp.back (U' := (s₁.setTop (mkF m 9 #[.val (.int p0), .val (.int p1), .val (.int (3 : Int32)), .unset, .unset] [(.int (3 : Int32))]))) (fun t k => XS.iloadN X0.here hx rfl (hb hby at_8) rfl k) ?_
    obtain ⟨_, _, ⟨T54, L54, k54, n54⟩, -, X54, ⟨Lc54, hQ54, l54, y54, z54⟩, st54⟩ := Jvm.LawKit.callS X0 hx (y := (⟨"com/example/opaq/opaq/EncryptionAlgorithmCheckKeyPinLaw", "pick", "(I)Lcom/example/opaq/opaq/EncryptionAlgorithm;"⟩ : MethodName)) hown (mvT hZ (hw _ (List.mem_of_getElem? (i := 1) rfl))) (mvT hZ (hw _ (List.mem_of_getElem? (i := 2) rfl))) (mvT hZ (hw _ (List.mem_of_getElem? (i := 3) rfl))) (mvT hZ (hw _ (List.mem_of_getElem? (i := 4) rfl))) (by decide) (backOf (W := 0) (rm_pk3 l Z a0 hw []  u3 h0 n0 Z0 S3) hZ (hw _ (List.mem_of_getElem? (i := 4) rfl)) (hw _ (List.mem_of_getElem? (i := 3) rfl)) (by decide) (by decide)) (g := (mkF m 9 #[.val (.int p0), .val (.int p1), .val (.int (3 : Int32)), .unset, .unset] [(.int (3 : Int32))])) rfl (by rw [hml]; rfl) (argsL := [(.int (3 : Int32))]) (rest := []) (lenOf pd0_0 rfl) rfl (by show 2 * 0 + _ ≤ _; exact Nat.le_of_eq rfl) (hb hby at_9) (fun _ _ => ⟨rfl, e0, (by decide : 0 + 0 ≤ _), (by decide : 0 + 0 ≤ _)⟩)
    dsimp only [Pt.U, Pt.locs, Pt.cells, Pt.slots] at X54 l54 y54 z54 st54 hQ54
    subst l54 y54 z54
    obtain ⟨rfl, N54q, K54⟩ := hQ54
    have f55_0 := Nat.le_trans Z0 K54.1
    have f55_1 := Sta_keep0 S3 K54
    have f55_2 := E3.keep K54
    have f55_3 := L3.keep K54 nin0
    have N54 := Fr.app N0 N54q
    refine Wp.back (U' := (T54.setTop (mkF m 12 #[.val (.int p0), .val (.int p1), .val (.int (3 : Int32)), .unset, .unset] [(.ref u3)]))) st54 ?_
    refine Wp.back (U' := (T54.setTop (mkF m 14 #[.val (.int p0), .val (.int p1), .val (.int (3 : Int32)), .val (.ref u3), .unset] [(.int (3 : Int32))]))) (fun t k => XS.astoreN X54.here hx rfl (hb hby at_12) rfl rfl (l' := #[.val (.int p0), .val (.int p1), .val (.int (3 : Int32)), .val (.ref u3), .unset]) rfl (XS.iloadN X54.here hx rfl (hb hby at_13) rfl k)) ?_
    obtain ⟨_, _, ⟨T56, L56, k56, n56⟩, -, X56, ⟨Lc56, hQ56, l56, y56, z56⟩, st56⟩ := Jvm.LawKit.callS X54 hx (y := (⟨"com/example/opaq/opaq/EncryptionAlgorithmCheckKeyPinLaw", "expectedLength", "(I)I"⟩ : MethodName)) hown (mvT hZ (hw _ (List.mem_of_getElem? (i := 8) rfl))) (mvT hZ (hw _ (List.mem_of_getElem? (i := 9) rfl))) (mvT hZ (hw _ (List.mem_of_getElem? (i := 3) rfl))) (mvT hZ (hw _ (List.mem_of_getElem? (i := 10) rfl))) (by decide) (backOf (W := 0) (rm_el3 l Z a0 hw []   T54.heap n0 f55_0 ) hZ (hw _ (List.mem_of_getElem? (i := 10) rfl)) (hw _ (List.mem_of_getElem? (i := 3) rfl)) (by decide) (by decide)) (g := (mkF m 14 #[.val (.int p0), .val (.int p1), .val (.int (3 : Int32)), .val (.ref u3), .unset] [(.int (3 : Int32))])) rfl (by rw [hml]; rfl) (argsL := [(.int (3 : Int32))]) (rest := []) (lenOf pd0_1 rfl) rfl (by show 2 * 0 + _ ≤ _; exact Nat.le_of_eq rfl) (hb hby at_14) (fun _ _ => ⟨rfl, rfl, (by decide : 0 + 0 ≤ _), (by decide : 0 + 0 ≤ _)⟩)
    dsimp only [Pt.U, Pt.locs, Pt.cells, Pt.slots] at X56 l56 y56 z56 st56 hQ56
    subst l56 y56 z56
    obtain ⟨rfl, N56q, K56⟩ := hQ56
    have f57_0 := Nat.le_trans f55_0 K56.1
    have f57_1 := Sta_keep0 f55_1 K56
    have f57_2 := f55_2.keep K56
    have f57_3 := f55_3.keep K56 nin0
    have N56 := Fr.app N54 N56q
    refine Wp.back (U' := (T56.setTop (mkF m 17 #[.val (.int p0), .val (.int p1), .val (.int (3 : Int32)), .val (.ref u3), .unset] [(.int (32 : Int32))]))) st56 ?_
    obtain ⟨T58, h58, k58, X58, e58, E58, A58, st58⟩ := newP X56 hx hZ (hw _ (List.mem_of_getElem? (i := 11) rfl)) rfl (g := (mkF m 17 #[.val (.int p0), .val (.int p1), .val (.int (3 : Int32)), .val (.ref u3), .unset] [(.int (32 : Int32))])) rfl (hb hby at_17) rfl (by decide) (cap := 32) (by decide) (by decide) (by decide) (by decide)
    obtain ⟨b58, g58⟩ : ∃ z, z = T56.heap.size := ⟨_, rfl⟩
    rw [← g58] at A58 st58
    have ne_u3_b58 : u3 ≠ b58 := Nat.ne_of_lt (Nat.lt_of_lt_of_le f57_2.lt (Nat.le_of_eq g58.symm))
    have g_b58 : n0 ≤ b58 := Nat.le_trans f57_0 (Nat.le_of_eq g58.symm)
    have f59_0 := Nat.le_trans f57_0 E58.1
    have f59_1 := f57_1.ext E58
    have f59_2 := f57_2.ext E58
    have f59_3 := f57_3.ext E58
    have V58 : Arv Z h58 b58 k58 .byte (32 : Int32) [(.int (0 : Int32)), (.int (0 : Int32)), (.int (0 : Int32)), (.int (0 : Int32)), (.int (0 : Int32)), (.int (0 : Int32)), (.int (0 : Int32)), (.int (0 : Int32)), (.int (0 : Int32)), (.int (0 : Int32)), (.int (0 : Int32)), (.int (0 : Int32)), (.int (0 : Int32)), (.int (0 : Int32)), (.int (0 : Int32)), (.int (0 : Int32)), (.int (0 : Int32)), (.int (0 : Int32)), (.int (0 : Int32)), (.int (0 : Int32)), (.int (0 : Int32)), (.int (0 : Int32)), (.int (0 : Int32)), (.int (0 : Int32)), (.int (0 : Int32)), (.int (0 : Int32)), (.int (0 : Int32)), (.int (0 : Int32)), (.int (0 : Int32)), (.int (0 : Int32)), (.int (0 : Int32)), (.int (0 : Int32))] (.int (0 : Int32)) := (Arv.new A58 (by decide)).pad (pad_rep [] (.int (0 : Int32)) 32)
    refine Wp.back (U' := (T58.setTop (mkF m 19 #[.val (.int p0), .val (.int p1), .val (.int (3 : Int32)), .val (.ref u3), .unset] [(.ref b58)]))) st58 ?_
    refine Wp.back (U' := (T58.setTop (mkF m 23 #[.val (.int p0), .val (.int p1), .val (.int (3 : Int32)), .val (.ref u3), .val (.ref b58)] [(.ref b58)]))) (fun t k => XS.astore X58.here hx rfl (hb hby at_19) rfl rfl (l' := #[.val (.int p0), .val (.int p1), .val (.int (3 : Int32)), .val (.ref u3), .val (.ref b58)]) rfl (XS.aload X58.here hx rfl (hb hby at_21) rfl rfl k)) ?_
    have vq60 := V58
    obtain ⟨cl60, Ar60, -, qs60, qn60, -, -⟩ := vq60
    refine Wp.back (U' := (T58.setTop (mkF m 24 #[.val (.int p0), .val (.int p1), .val (.int (3 : Int32)), .val (.ref u3), .val (.ref b58)] [(.int (32 : Int32))]))) (fun t k => X58.arraylength hx (by rw [e58]; exact Ar60.1) (State.isArrayOf_alike hZ.alike Ar60.2.1) (g := (mkF m 23 #[.val (.int p0), .val (.int p1), .val (.int (3 : Int32)), .val (.ref u3), .val (.ref b58)] [(.ref b58)])) rfl rfl (hb hby at_23) t (by rw [len_of qs60 qn60]; exact k)) ?_
    refine Wp.back (U' := (T58.setTop (mkF m 32 #[.val (.int p0), .val (.int p1), .val (.int (3 : Int32)), .val (.ref u3), .val (.ref b58)] [(.int (p1).toInt8.toInt32), (.int (0 : Int32)), (.ref b58)]))) (fun t k => XS.ifNo X58.here hx rfl (hb hby at_24) rfl ((if0 _ _).trans (tlt (by decide)).2.2.2) (XS.aload X58.here hx rfl (hb hby at_27) rfl rfl (XT.iconstV X58.here hx rfl (0 : Int32) (hb hby at_29) (by decide) (XS.iloadN X58.here hx rfl (hb hby at_30) rfl (XS.i2b X58.here hx rfl (hb hby at_31) rfl k))))) ?_
    have vq61 := V58
    obtain ⟨cl61, Ar61, qa61, qs61, qn61, qh61, qg61⟩ := vq61
    have hin61 : ¬ ((0 : Int32) < 0 ∨ cl61.slots.size ≤ ((0 : Int32)).toNatClampNeg) := inb_of qs61 ⟨by decide, by decide⟩
    obtain ⟨T61, h61, X61, e61, W61, st61⟩ := stB X58 hx hZ e58 Ar61 (j := (0 : Int32)) hin61 (g := (mkF m 32 #[.val (.int p0), .val (.int p1), .val (.int (3 : Int32)), .val (.ref u3), .val (.ref b58)] [(.int (p1).toInt8.toInt32), (.int (0 : Int32)), (.ref b58)])) rfl rfl (hb hby at_32)
    have V61 : Arv Z h61 b58 k58 .byte (32 : Int32) [(.int (nar .byte (p1).toInt8.toInt32)), (.int (0 : Int32)), (.int (0 : Int32)), (.int (0 : Int32)), (.int (0 : Int32)), (.int (0 : Int32)), (.int (0 : Int32)), (.int (0 : Int32)), (.int (0 : Int32)), (.int (0 : Int32)), (.int (0 : Int32)), (.int (0 : Int32)), (.int (0 : Int32)), (.int (0 : Int32)), (.int (0 : Int32)), (.int (0 : Int32)), (.int (0 : Int32)), (.int (0 : Int32)), (.int (0 : Int32)), (.int (0 : Int32)), (.int (0 : Int32)), (.int (0 : Int32)), (.int (0 : Int32)), (.int (0 : Int32)), (.int (0 : Int32)), (.int (0 : Int32)), (.int (0 : Int32)), (.int (0 : Int32)), (.int (0 : Int32)), (.int (0 : Int32)), (.int (0 : Int32)), (.int (0 : Int32))] (.int (0 : Int32)) := Arv.set Ar61 qa61 qs61 qn61 qh61 qg61 (fits_nar_byte (p1).toInt8.toInt32) W61 0 rfl (Nat.le_of_ble_eq_true rfl)
    have f62_0 := Nat.le_trans f59_0 (Keep.of_wr W61).1
    have f62_1 := f59_1.wr W61
    have f62_2 := f59_2.wr W61
    have f62_3 := f59_3.other W61 (Or.inl ne_u3_b58)
    have N61 := Fr.snoc X61 N56 g_b58
    refine Wp.back (U' := (T61.setTop (mkF m 33 #[.val (.int p0), .val (.int p1), .val (.int (3 : Int32)), .val (.ref u3), .val (.ref b58)] []))) st61 ?_
    refine Wp.back (U' := (T61.setTop (mkF m 37 #[.val (.int p0), .val (.int p1), .val (.int (3 : Int32)), .val (.ref u3), .val (.ref b58)] [(.ref b58), (.ref b58)]))) (fun t k => XS.aload X61.here hx rfl (hb hby at_33) rfl rfl (XS.aload X61.here hx rfl (hb hby at_35) rfl rfl k)) ?_
    have vq63 := V61
    obtain ⟨cl63, Ar63, -, qs63, qn63, -, -⟩ := vq63
    refine Wp.back (U' := (T61.setTop (mkF m 38 #[.val (.int p0), .val (.int p1), .val (.int (3 : Int32)), .val (.ref u3), .val (.ref b58)] [(.int (32 : Int32)), (.ref b58)]))) (fun t k => X61.arraylength hx (by rw [e61]; exact Ar63.1) (State.isArrayOf_alike hZ.alike Ar63.2.1) (g := (mkF m 37 #[.val (.int p0), .val (.int p1), .val (.int (3 : Int32)), .val (.ref u3), .val (.ref b58)] [(.ref b58), (.ref b58)])) rfl rfl (hb hby at_37) t (by rw [len_of qs63 qn63]; exact k)) ?_
    refine Wp.back (U' := (T61.setTop (mkF m 45 #[.val (.int p0), .val (.int p1), .val (.int (3 : Int32)), .val (.ref u3), .val (.ref b58)] [(.int ((((p1).toUInt32 >>> ((8 : Int32) &&& 31).toUInt32).toInt32)).toInt8.toInt32), (.int (31 : Int32)), (.ref b58)]))) (fun t k => XT.iconstV X61.here hx rfl (1 : Int32) (hb hby at_38) (by decide) (XS.isub X61.here hx rfl (hb hby at_39) rfl (XS.iloadN X61.here hx rfl (hb hby at_40) rfl (XT.bipushV X61.here hx rfl (8 : Int32) (hb hby at_41) (by decide) (XS.iushr X61.here hx rfl (hb hby at_43) rfl (XS.i2b X61.here hx rfl (hb hby at_44) rfl k)))))) ?_
    have vq64 := V61
    obtain ⟨cl64, Ar64, qa64, qs64, qn64, qh64, qg64⟩ := vq64
    have hin64 : ¬ ((31 : Int32) < 0 ∨ cl64.slots.size ≤ ((31 : Int32)).toNatClampNeg) := inb_of qs64 ⟨by decide, by decide⟩
    obtain ⟨T64, h64, X64, e64, W64, st64⟩ := stB X61 hx hZ e61 Ar64 (j := (31 : Int32)) hin64 (g := (mkF m 45 #[.val (.int p0), .val (.int p1), .val (.int (3 : Int32)), .val (.ref u3), .val (.ref b58)] [(.int ((((p1).toUInt32 >>> ((8 : Int32) &&& 31).toUInt32).toInt32)).toInt8.toInt32), (.int (31 : Int32)), (.ref b58)])) rfl rfl (hb hby at_45)
    have V64 : Arv Z h64 b58 k58 .byte (32 : Int32) [(.int (nar .byte (p1).toInt8.toInt32)), (.int (0 : Int32)), (.int (0 : Int32)), (.int (0 : Int32)), (.int (0 : Int32)), (.int (0 : Int32)), (.int (0 : Int32)), (.int (0 : Int32)), (.int (0 : Int32)), (.int (0 : Int32)), (.int (0 : Int32)), (.int (0 : Int32)), (.int (0 : Int32)), (.int (0 : Int32)), (.int (0 : Int32)), (.int (0 : Int32)), (.int (0 : Int32)), (.int (0 : Int32)), (.int (0 : Int32)), (.int (0 : Int32)), (.int (0 : Int32)), (.int (0 : Int32)), (.int (0 : Int32)), (.int (0 : Int32)), (.int (0 : Int32)), (.int (0 : Int32)), (.int (0 : Int32)), (.int (0 : Int32)), (.int (0 : Int32)), (.int (0 : Int32)), (.int (0 : Int32)), (.int (nar .byte ((((p1).toUInt32 >>> ((8 : Int32) &&& 31).toUInt32).toInt32)).toInt8.toInt32))] (.int (0 : Int32)) := Arv.set Ar64 qa64 qs64 qn64 qh64 qg64 (fits_nar_byte ((((p1).toUInt32 >>> ((8 : Int32) &&& 31).toUInt32).toInt32)).toInt8.toInt32) W64 31 rfl (Nat.le_of_ble_eq_true rfl)
    have f65_0 := Nat.le_trans f62_0 (Keep.of_wr W64).1
    have f65_1 := f62_1.wr W64
    have f65_2 := f62_2.wr W64
    have f65_3 := f62_3.other W64 (Or.inl ne_u3_b58)
    have N64 := Fr.snoc X64 N61 g_b58
    refine Wp.back (U' := (T64.setTop (mkF m 46 #[.val (.int p0), .val (.int p1), .val (.int (3 : Int32)), .val (.ref u3), .val (.ref b58)] []))) st64 ?_
    refine Wp.back (U' := (T64.setTop (mkF m 49 #[.val (.int p0), .val (.int p1), .val (.int (3 : Int32)), .val (.ref u3), .val (.ref b58)] [(.ref b58), (.ref u3)]))) (fun t k => XS.aloadN X64.here hx rfl (hb hby at_46) rfl rfl (XS.aload X64.here hx rfl (hb hby at_47) rfl rfl k)) ?_
    obtain ⟨cq66, kq66, q66a, q66b, q66c⟩ := isOf hZ e64 f65_2
    obtain ⟨_, _, ⟨T66, L66, k66, n66⟩, -, X66, ⟨Lc66, hQ66, l66, y66, z66⟩, st66⟩ := X64.virtualBack hx (y := (⟨"com/example/opaq/opaq/EncryptionAlgorithm", "checkKey", "([B)V"⟩ : MethodName)) (z := (⟨"com/example/opaq/opaq/EncryptionAlgorithm", "checkKey", "([B)V"⟩ : MethodName)) hown (mvT hZ (hw _ (List.mem_of_getElem? (i := 12) rfl))) (mvT hZ (hw _ (List.mem_of_getElem? (i := 13) rfl))) (notFace_of_selects (args := #[]) (mvT hZ (hw _ (List.mem_of_getElem? (i := 15) rfl)))) (mvT hZ (hw _ (List.mem_of_getElem? (i := 15) rfl))) (mvT hZ (hw _ (List.mem_of_getElem? (i := 14) rfl))) (by decide) (backOf (W := 0) (rm_ck32 l Z a0 hw [] u3 b58 k58 [(.int (nar .byte (p1).toInt8.toInt32)), (.int (0 : Int32)), (.int (0 : Int32)), (.int (0 : Int32)), (.int (0 : Int32)), (.int (0 : Int32)), (.int (0 : Int32)), (.int (0 : Int32)), (.int (0 : Int32)), (.int (0 : Int32)), (.int (0 : Int32)), (.int (0 : Int32)), (.int (0 : Int32)), (.int (0 : Int32)), (.int (0 : Int32)), (.int (0 : Int32)), (.int (0 : Int32)), (.int (0 : Int32)), (.int (0 : Int32)), (.int (0 : Int32)), (.int (0 : Int32)), (.int (0 : Int32)), (.int (0 : Int32)), (.int (0 : Int32)), (.int (0 : Int32)), (.int (0 : Int32)), (.int (0 : Int32)), (.int (0 : Int32)), (.int (0 : Int32)), (.int (0 : Int32)), (.int (0 : Int32)), (.int (nar .byte ((((p1).toUInt32 >>> ((8 : Int32) &&& 31).toUInt32).toInt32)).toInt8.toInt32))] (.int (0 : Int32)) h64 n0 f65_0 f65_3 V64) hZ (hw _ (List.mem_of_getElem? (i := 16) rfl)) (hw _ (List.mem_of_getElem? (i := 6) rfl)) (by decide) (by decide)) q66a q66c (g := (mkF m 49 #[.val (.int p0), .val (.int p1), .val (.int (3 : Int32)), .val (.ref u3), .val (.ref b58)] [(.ref b58), (.ref u3)])) rfl (by rw [hml]; rfl) (Steps.refl _) (argsL := [(.ref b58)]) (rest := []) (lenOf pd0_2 rfl) rfl (by show 2 * 0 + _ ≤ _; exact Nat.le_of_eq rfl) (hb hby at_49) (fun _ _ => ⟨rfl, e64, (by decide : 1 + 0 ≤ _), (by decide : 32 + 0 ≤ _)⟩)
    dsimp only [Pt.U, Pt.locs, Pt.cells, Pt.slots] at X66 l66 y66 z66 st66 hQ66
    subst l66 y66 z66
    obtain ⟨rfl, N66q, K66⟩ := hQ66
    have f67_0 := Nat.le_trans f65_0 K66.1
    have f67_1 := Sta_keep0 f65_1 K66
    have f67_2 := f65_2.keep K66
    have f67_3 := f65_3.keep K66 nin0
    have f67_4 := V64.keep K66 nin0
    have N66 := Fr.app N64 N66q
    refine Wp.back (U' := (T66.setTop (mkF m 52 #[.val (.int p0), .val (.int p1), .val (.int (3 : Int32)), .val (.ref u3), .val (.ref b58)] []))) (fun t k => st66.trans k) ?_
    refine Wp.back (U' := (T66.setTop (mkF m 53 #[.val (.int p0), .val (.int p1), .val (.int (3 : Int32)), .val (.ref u3), .val (.ref b58)] [(.int (1 : Int32))]))) (fun t k => XT.iconstV X66.here hx rfl (1 : Int32) (hb hby at_52) (by decide) k) ?_
    obtain ⟨fs, hr, hrun, hended, hW, hsame⟩ := X66.leave (v := (some (.int (1 : Int32)))) (fun h => by rw [hret] at h; cases h)
    refine Wp.done (retN X66 hx (t := .boolean) hret (by simp) (hb hby at_53) hr) hrun hended ⟨_, _, rfl, ?_, ⟨_, rfl⟩, hW, hsame.mono (by decide) (by decide)⟩
    show QL n0 _ T66.heap _
    exact ⟨rfl, N66⟩
  · rw [hk5]
    refine Wp.back (U' := (s₁.setTop (mkF m 9 #[.val (.int p0), .val (.int p1), .val (.int (4 : Int32)), .unset, .unset] [(.int (4 : Int32))]))) (fun t k => XS.iloadN X0.here hx rfl (hb hby at_8) rfl k) ?_
    obtain ⟨_, _, ⟨T68, L68, k68, n68⟩, -, X68, ⟨Lc68, hQ68, l68, y68, z68⟩, st68⟩ := Jvm.LawKit.callS X0 hx (y := (⟨"com/example/opaq/opaq/EncryptionAlgorithmCheckKeyPinLaw", "pick", "(I)Lcom/example/opaq/opaq/EncryptionAlgorithm;"⟩ : MethodName)) hown (mvT hZ (hw _ (List.mem_of_getElem? (i := 1) rfl))) (mvT hZ (hw _ (List.mem_of_getElem? (i := 2) rfl))) (mvT hZ (hw _ (List.mem_of_getElem? (i := 3) rfl))) (mvT hZ (hw _ (List.mem_of_getElem? (i := 4) rfl))) (by decide) (backOf (W := 0) (rm_pk4 l Z a0 hw []  u4 h0 n0 Z0 S4) hZ (hw _ (List.mem_of_getElem? (i := 4) rfl)) (hw _ (List.mem_of_getElem? (i := 3) rfl)) (by decide) (by decide)) (g := (mkF m 9 #[.val (.int p0), .val (.int p1), .val (.int (4 : Int32)), .unset, .unset] [(.int (4 : Int32))])) rfl (by rw [hml]; rfl) (argsL := [(.int (4 : Int32))]) (rest := []) (lenOf pd0_0 rfl) rfl (by show 2 * 0 + _ ≤ _; exact Nat.le_of_eq rfl) (hb hby at_9) (fun _ _ => ⟨rfl, e0, (by decide : 0 + 0 ≤ _), (by decide : 0 + 0 ≤ _)⟩)
    dsimp only [Pt.U, Pt.locs, Pt.cells, Pt.slots] at X68 l68 y68 z68 st68 hQ68
    subst l68 y68 z68
    obtain ⟨rfl, N68q, K68⟩ := hQ68
    have f69_0 := Nat.le_trans Z0 K68.1
    have f69_1 := Sta_keep0 S4 K68
    have f69_2 := E4.keep K68
    have f69_3 := L4.keep K68 nin0
    have N68 := Fr.app N0 N68q
    refine Wp.back (U' := (T68.setTop (mkF m 12 #[.val (.int p0), .val (.int p1), .val (.int (4 : Int32)), .unset, .unset] [(.ref u4)]))) st68 ?_
    refine Wp.back (U' := (T68.setTop (mkF m 14 #[.val (.int p0), .val (.int p1), .val (.int (4 : Int32)), .val (.ref u4), .unset] [(.int (4 : Int32))]))) (fun t k => XS.astoreN X68.here hx rfl (hb hby at_12) rfl rfl (l' := #[.val (.int p0), .val (.int p1), .val (.int (4 : Int32)), .val (.ref u4), .unset]) rfl (XS.iloadN X68.here hx rfl (hb hby at_13) rfl k)) ?_
    obtain ⟨_, _, ⟨T70, L70, k70, n70⟩, -, X70, ⟨Lc70, hQ70, l70, y70, z70⟩, st70⟩ := Jvm.LawKit.callS X68 hx (y := (⟨"com/example/opaq/opaq/EncryptionAlgorithmCheckKeyPinLaw", "expectedLength", "(I)I"⟩ : MethodName)) hown (mvT hZ (hw _ (List.mem_of_getElem? (i := 8) rfl))) (mvT hZ (hw _ (List.mem_of_getElem? (i := 9) rfl))) (mvT hZ (hw _ (List.mem_of_getElem? (i := 3) rfl))) (mvT hZ (hw _ (List.mem_of_getElem? (i := 10) rfl))) (by decide) (backOf (W := 0) (rm_el4 l Z a0 hw []   T68.heap n0 f69_0 ) hZ (hw _ (List.mem_of_getElem? (i := 10) rfl)) (hw _ (List.mem_of_getElem? (i := 3) rfl)) (by decide) (by decide)) (g := (mkF m 14 #[.val (.int p0), .val (.int p1), .val (.int (4 : Int32)), .val (.ref u4), .unset] [(.int (4 : Int32))])) rfl (by rw [hml]; rfl) (argsL := [(.int (4 : Int32))]) (rest := []) (lenOf pd0_1 rfl) rfl (by show 2 * 0 + _ ≤ _; exact Nat.le_of_eq rfl) (hb hby at_14) (fun _ _ => ⟨rfl, rfl, (by decide : 0 + 0 ≤ _), (by decide : 0 + 0 ≤ _)⟩)
    dsimp only [Pt.U, Pt.locs, Pt.cells, Pt.slots] at X70 l70 y70 z70 st70 hQ70
    subst l70 y70 z70
    obtain ⟨rfl, N70q, K70⟩ := hQ70
    have f71_0 := Nat.le_trans f69_0 K70.1
    have f71_1 := Sta_keep0 f69_1 K70
    have f71_2 := f69_2.keep K70
    have f71_3 := f69_3.keep K70 nin0
    have N70 := Fr.app N68 N70q
    refine Wp.back (U' := (T70.setTop (mkF m 17 #[.val (.int p0), .val (.int p1), .val (.int (4 : Int32)), .val (.ref u4), .unset] [(.int (16 : Int32))]))) st70 ?_
    obtain ⟨T72, h72, k72, X72, e72, E72, A72, st72⟩ := newP X70 hx hZ (hw _ (List.mem_of_getElem? (i := 11) rfl)) rfl (g := (mkF m 17 #[.val (.int p0), .val (.int p1), .val (.int (4 : Int32)), .val (.ref u4), .unset] [(.int (16 : Int32))])) rfl (hb hby at_17) rfl (by decide) (cap := 16) (by decide) (by decide) (by decide) (by decide)
    obtain ⟨b72, g72⟩ : ∃ z, z = T70.heap.size := ⟨_, rfl⟩
    rw [← g72] at A72 st72
    have ne_u4_b72 : u4 ≠ b72 := Nat.ne_of_lt (Nat.lt_of_lt_of_le f71_2.lt (Nat.le_of_eq g72.symm))
    have g_b72 : n0 ≤ b72 := Nat.le_trans f71_0 (Nat.le_of_eq g72.symm)
    have f73_0 := Nat.le_trans f71_0 E72.1
    have f73_1 := f71_1.ext E72
    have f73_2 := f71_2.ext E72
    have f73_3 := f71_3.ext E72
    have V72 : Arv Z h72 b72 k72 .byte (16 : Int32) [(.int (0 : Int32)), (.int (0 : Int32)), (.int (0 : Int32)), (.int (0 : Int32)), (.int (0 : Int32)), (.int (0 : Int32)), (.int (0 : Int32)), (.int (0 : Int32)), (.int (0 : Int32)), (.int (0 : Int32)), (.int (0 : Int32)), (.int (0 : Int32)), (.int (0 : Int32)), (.int (0 : Int32)), (.int (0 : Int32)), (.int (0 : Int32))] (.int (0 : Int32)) := (Arv.new A72 (by decide)).pad (pad_rep [] (.int (0 : Int32)) 16)
    refine Wp.back (U' := (T72.setTop (mkF m 19 #[.val (.int p0), .val (.int p1), .val (.int (4 : Int32)), .val (.ref u4), .unset] [(.ref b72)]))) st72 ?_
    refine Wp.back (U' := (T72.setTop (mkF m 23 #[.val (.int p0), .val (.int p1), .val (.int (4 : Int32)), .val (.ref u4), .val (.ref b72)] [(.ref b72)]))) (fun t k => XS.astore X72.here hx rfl (hb hby at_19) rfl rfl (l' := #[.val (.int p0), .val (.int p1), .val (.int (4 : Int32)), .val (.ref u4), .val (.ref b72)]) rfl (XS.aload X72.here hx rfl (hb hby at_21) rfl rfl k)) ?_
    have vq74 := V72
    obtain ⟨cl74, Ar74, -, qs74, qn74, -, -⟩ := vq74
    refine Wp.back (U' := (T72.setTop (mkF m 24 #[.val (.int p0), .val (.int p1), .val (.int (4 : Int32)), .val (.ref u4), .val (.ref b72)] [(.int (16 : Int32))]))) (fun t k => X72.arraylength hx (by rw [e72]; exact Ar74.1) (State.isArrayOf_alike hZ.alike Ar74.2.1) (g := (mkF m 23 #[.val (.int p0), .val (.int p1), .val (.int (4 : Int32)), .val (.ref u4), .val (.ref b72)] [(.ref b72)])) rfl rfl (hb hby at_23) t (by rw [len_of qs74 qn74]; exact k)) ?_
    refine Wp.back (U' := (T72.setTop (mkF m 32 #[.val (.int p0), .val (.int p1), .val (.int (4 : Int32)), .val (.ref u4), .val (.ref b72)] [(.int (p1).toInt8.toInt32), (.int (0 : Int32)), (.ref b72)]))) (fun t k => XS.ifNo X72.here hx rfl (hb hby at_24) rfl ((if0 _ _).trans (tlt (by decide)).2.2.2) (XS.aload X72.here hx rfl (hb hby at_27) rfl rfl (XT.iconstV X72.here hx rfl (0 : Int32) (hb hby at_29) (by decide) (XS.iloadN X72.here hx rfl (hb hby at_30) rfl (XS.i2b X72.here hx rfl (hb hby at_31) rfl k))))) ?_
    have vq75 := V72
    obtain ⟨cl75, Ar75, qa75, qs75, qn75, qh75, qg75⟩ := vq75
    have hin75 : ¬ ((0 : Int32) < 0 ∨ cl75.slots.size ≤ ((0 : Int32)).toNatClampNeg) := inb_of qs75 ⟨by decide, by decide⟩
    obtain ⟨T75, h75, X75, e75, W75, st75⟩ := stB X72 hx hZ e72 Ar75 (j := (0 : Int32)) hin75 (g := (mkF m 32 #[.val (.int p0), .val (.int p1), .val (.int (4 : Int32)), .val (.ref u4), .val (.ref b72)] [(.int (p1).toInt8.toInt32), (.int (0 : Int32)), (.ref b72)])) rfl rfl (hb hby at_32)
    have V75 : Arv Z h75 b72 k72 .byte (16 : Int32) [(.int (nar .byte (p1).toInt8.toInt32)), (.int (0 : Int32)), (.int (0 : Int32)), (.int (0 : Int32)), (.int (0 : Int32)), (.int (0 : Int32)), (.int (0 : Int32)), (.int (0 : Int32)), (.int (0 : Int32)), (.int (0 : Int32)), (.int (0 : Int32)), (.int (0 : Int32)), (.int (0 : Int32)), (.int (0 : Int32)), (.int (0 : Int32)), (.int (0 : Int32))] (.int (0 : Int32)) := Arv.set Ar75 qa75 qs75 qn75 qh75 qg75 (fits_nar_byte (p1).toInt8.toInt32) W75 0 rfl (Nat.le_of_ble_eq_true rfl)
    have f76_0 := Nat.le_trans f73_0 (Keep.of_wr W75).1
    have f76_1 := f73_1.wr W75
    have f76_2 := f73_2.wr W75
    have f76_3 := f73_3.other W75 (Or.inl ne_u4_b72)
    have N75 := Fr.snoc X75 N70 g_b72
    refine Wp.back (U' := (T75.setTop (mkF m 33 #[.val (.int p0), .val (.int p1), .val (.int (4 : Int32)), .val (.ref u4), .val (.ref b72)] []))) st75 ?_
    refine Wp.back (U' := (T75.setTop (mkF m 37 #[.val (.int p0), .val (.int p1), .val (.int (4 : Int32)), .val (.ref u4), .val (.ref b72)] [(.ref b72), (.ref b72)]))) (fun t k => XS.aload X75.here hx rfl (hb hby at_33) rfl rfl (XS.aload X75.here hx rfl (hb hby at_35) rfl rfl k)) ?_
    have vq77 := V75
    obtain ⟨cl77, Ar77, -, qs77, qn77, -, -⟩ := vq77
    refine Wp.back (U' := (T75.setTop (mkF m 38 #[.val (.int p0), .val (.int p1), .val (.int (4 : Int32)), .val (.ref u4), .val (.ref b72)] [(.int (16 : Int32)), (.ref b72)]))) (fun t k => X75.arraylength hx (by rw [e75]; exact Ar77.1) (State.isArrayOf_alike hZ.alike Ar77.2.1) (g := (mkF m 37 #[.val (.int p0), .val (.int p1), .val (.int (4 : Int32)), .val (.ref u4), .val (.ref b72)] [(.ref b72), (.ref b72)])) rfl rfl (hb hby at_37) t (by rw [len_of qs77 qn77]; exact k)) ?_
    refine Wp.back (U' := (T75.setTop (mkF m 45 #[.val (.int p0), .val (.int p1), .val (.int (4 : Int32)), .val (.ref u4), .val (.ref b72)] [(.int ((((p1).toUInt32 >>> ((8 : Int32) &&& 31).toUInt32).toInt32)).toInt8.toInt32), (.int (15 : Int32)), (.ref b72)]))) (fun t k => XT.iconstV X75.here hx rfl (1 : Int32) (hb hby at_38) (by decide) (XS.isub X75.here hx rfl (hb hby at_39) rfl (XS.iloadN X75.here hx rfl (hb hby at_40) rfl (XT.bipushV X75.here hx rfl (8 : Int32) (hb hby at_41) (by decide) (XS.iushr X75.here hx rfl (hb hby at_43) rfl (XS.i2b X75.here hx rfl (hb hby at_44) rfl k)))))) ?_
    have vq78 := V75
    obtain ⟨cl78, Ar78, qa78, qs78, qn78, qh78, qg78⟩ := vq78
    have hin78 : ¬ ((15 : Int32) < 0 ∨ cl78.slots.size ≤ ((15 : Int32)).toNatClampNeg) := inb_of qs78 ⟨by decide, by decide⟩
    obtain ⟨T78, h78, X78, e78, W78, st78⟩ := stB X75 hx hZ e75 Ar78 (j := (15 : Int32)) hin78 (g := (mkF m 45 #[.val (.int p0), .val (.int p1), .val (.int (4 : Int32)), .val (.ref u4), .val (.ref b72)] [(.int ((((p1).toUInt32 >>> ((8 : Int32) &&& 31).toUInt32).toInt32)).toInt8.toInt32), (.int (15 : Int32)), (.ref b72)])) rfl rfl (hb hby at_45)
    have V78 : Arv Z h78 b72 k72 .byte (16 : Int32) [(.int (nar .byte (p1).toInt8.toInt32)), (.int (0 : Int32)), (.int (0 : Int32)), (.int (0 : Int32)), (.int (0 : Int32)), (.int (0 : Int32)), (.int (0 : Int32)), (.int (0 : Int32)), (.int (0 : Int32)), (.int (0 : Int32)), (.int (0 : Int32)), (.int (0 : Int32)), (.int (0 : Int32)), (.int (0 : Int32)), (.int (0 : Int32)), (.int (nar .byte ((((p1).toUInt32 >>> ((8 : Int32) &&& 31).toUInt32).toInt32)).toInt8.toInt32))] (.int (0 : Int32)) := Arv.set Ar78 qa78 qs78 qn78 qh78 qg78 (fits_nar_byte ((((p1).toUInt32 >>> ((8 : Int32) &&& 31).toUInt32).toInt32)).toInt8.toInt32) W78 15 rfl (Nat.le_of_ble_eq_true rfl)
    have f79_0 := Nat.le_trans f76_0 (Keep.of_wr W78).1
    have f79_1 := f76_1.wr W78
    have f79_2 := f76_2.wr W78
    have f79_3 := f76_3.other W78 (Or.inl ne_u4_b72)
    have N78 := Fr.snoc X78 N75 g_b72
    refine Wp.back (U' := (T78.setTop (mkF m 46 #[.val (.int p0), .val (.int p1), .val (.int (4 : Int32)), .val (.ref u4), .val (.ref b72)] []))) st78 ?_
    refine Wp.back (U' := (T78.setTop (mkF m 49 #[.val (.int p0), .val (.int p1), .val (.int (4 : Int32)), .val (.ref u4), .val (.ref b72)] [(.ref b72), (.ref u4)]))) (fun t k => XS.aloadN X78.here hx rfl (hb hby at_46) rfl rfl (XS.aload X78.here hx rfl (hb hby at_47) rfl rfl k)) ?_
    obtain ⟨cq80, kq80, q80a, q80b, q80c⟩ := isOf hZ e78 f79_2
    obtain ⟨_, _, ⟨T80, L80, k80, n80⟩, -, X80, ⟨Lc80, hQ80, l80, y80, z80⟩, st80⟩ := X78.virtualBack hx (y := (⟨"com/example/opaq/opaq/EncryptionAlgorithm", "checkKey", "([B)V"⟩ : MethodName)) (z := (⟨"com/example/opaq/opaq/EncryptionAlgorithm", "checkKey", "([B)V"⟩ : MethodName)) hown (mvT hZ (hw _ (List.mem_of_getElem? (i := 12) rfl))) (mvT hZ (hw _ (List.mem_of_getElem? (i := 13) rfl))) (notFace_of_selects (args := #[]) (mvT hZ (hw _ (List.mem_of_getElem? (i := 15) rfl)))) (mvT hZ (hw _ (List.mem_of_getElem? (i := 15) rfl))) (mvT hZ (hw _ (List.mem_of_getElem? (i := 14) rfl))) (by decide) (backOf (W := 0) (rm_ck16 l Z a0 hw [] u4 b72 k72 [(.int (nar .byte (p1).toInt8.toInt32)), (.int (0 : Int32)), (.int (0 : Int32)), (.int (0 : Int32)), (.int (0 : Int32)), (.int (0 : Int32)), (.int (0 : Int32)), (.int (0 : Int32)), (.int (0 : Int32)), (.int (0 : Int32)), (.int (0 : Int32)), (.int (0 : Int32)), (.int (0 : Int32)), (.int (0 : Int32)), (.int (0 : Int32)), (.int (nar .byte ((((p1).toUInt32 >>> ((8 : Int32) &&& 31).toUInt32).toInt32)).toInt8.toInt32))] (.int (0 : Int32)) h78 n0 f79_0 f79_3 V78) hZ (hw _ (List.mem_of_getElem? (i := 16) rfl)) (hw _ (List.mem_of_getElem? (i := 6) rfl)) (by decide) (by decide)) q80a q80c (g := (mkF m 49 #[.val (.int p0), .val (.int p1), .val (.int (4 : Int32)), .val (.ref u4), .val (.ref b72)] [(.ref b72), (.ref u4)])) rfl (by rw [hml]; rfl) (Steps.refl _) (argsL := [(.ref b72)]) (rest := []) (lenOf pd0_2 rfl) rfl (by show 2 * 0 + _ ≤ _; exact Nat.le_of_eq rfl) (hb hby at_49) (fun _ _ => ⟨rfl, e78, (by decide : 1 + 0 ≤ _), (by decide : 16 + 0 ≤ _)⟩)
    dsimp only [Pt.U, Pt.locs, Pt.cells, Pt.slots] at X80 l80 y80 z80 st80 hQ80
    subst l80 y80 z80
    obtain ⟨rfl, N80q, K80⟩ := hQ80
    have f81_0 := Nat.le_trans f79_0 K80.1
    have f81_1 := Sta_keep0 f79_1 K80
    have f81_2 := f79_2.keep K80
    have f81_3 := f79_3.keep K80 nin0
    have f81_4 := V78.keep K80 nin0
    have N80 := Fr.app N78 N80q
    refine Wp.back (U' := (T80.setTop (mkF m 52 #[.val (.int p0), .val (.int p1), .val (.int (4 : Int32)), .val (.ref u4), .val (.ref b72)] []))) (fun t k => st80.trans k) ?_
    refine Wp.back (U' := (T80.setTop (mkF m 53 #[.val (.int p0), .val (.int p1), .val (.int (4 : Int32)), .val (.ref u4), .val (.ref b72)] [(.int (1 : Int32))]))) (fun t k => XT.iconstV X80.here hx rfl (1 : Int32) (hb hby at_52) (by decide) k) ?_
    obtain ⟨fs, hr, hrun, hended, hW, hsame⟩ := X80.leave (v := (some (.int (1 : Int32)))) (fun h => by rw [hret] at h; cases h)
    refine Wp.done (retN X80 hx (t := .boolean) hret (by simp) (hb hby at_53) hr) hrun hended ⟨_, _, rfl, ?_, ⟨_, rfl⟩, hW, hsame.mono (by decide) (by decide)⟩
    show QL n0 _ T80.heap _
    exact ⟨rfl, N80⟩
  · rw [hk6]
    refine Wp.back (U' := (s₁.setTop (mkF m 9 #[.val (.int p0), .val (.int p1), .val (.int (5 : Int32)), .unset, .unset] [(.int (5 : Int32))]))) (fun t k => XS.iloadN X0.here hx rfl (hb hby at_8) rfl k) ?_
    obtain ⟨_, _, ⟨T82, L82, k82, n82⟩, -, X82, ⟨Lc82, hQ82, l82, y82, z82⟩, st82⟩ := Jvm.LawKit.callS X0 hx (y := (⟨"com/example/opaq/opaq/EncryptionAlgorithmCheckKeyPinLaw", "pick", "(I)Lcom/example/opaq/opaq/EncryptionAlgorithm;"⟩ : MethodName)) hown (mvT hZ (hw _ (List.mem_of_getElem? (i := 1) rfl))) (mvT hZ (hw _ (List.mem_of_getElem? (i := 2) rfl))) (mvT hZ (hw _ (List.mem_of_getElem? (i := 3) rfl))) (mvT hZ (hw _ (List.mem_of_getElem? (i := 4) rfl))) (by decide) (backOf (W := 0) (rm_pk5 l Z a0 hw []  u5 h0 n0 Z0 S5) hZ (hw _ (List.mem_of_getElem? (i := 4) rfl)) (hw _ (List.mem_of_getElem? (i := 3) rfl)) (by decide) (by decide)) (g := (mkF m 9 #[.val (.int p0), .val (.int p1), .val (.int (5 : Int32)), .unset, .unset] [(.int (5 : Int32))])) rfl (by rw [hml]; rfl) (argsL := [(.int (5 : Int32))]) (rest := []) (lenOf pd0_0 rfl) rfl (by show 2 * 0 + _ ≤ _; exact Nat.le_of_eq rfl) (hb hby at_9) (fun _ _ => ⟨rfl, e0, (by decide : 0 + 0 ≤ _), (by decide : 0 + 0 ≤ _)⟩)
    dsimp only [Pt.U, Pt.locs, Pt.cells, Pt.slots] at X82 l82 y82 z82 st82 hQ82
    subst l82 y82 z82
    obtain ⟨rfl, N82q, K82⟩ := hQ82
    have f83_0 := Nat.le_trans Z0 K82.1
    have f83_1 := Sta_keep0 S5 K82
    have f83_2 := E5.keep K82
    have f83_3 := L5.keep K82 nin0
    have N82 := Fr.app N0 N82q
    refine Wp.back (U' := (T82.setTop (mkF m 12 #[.val (.int p0), .val (.int p1), .val (.int (5 : Int32)), .unset, .unset] [(.ref u5)]))) st82 ?_
    refine Wp.back (U' := (T82.setTop (mkF m 14 #[.val (.int p0), .val (.int p1), .val (.int (5 : Int32)), .val (.ref u5), .unset] [(.int (5 : Int32))]))) (fun t k => XS.astoreN X82.here hx rfl (hb hby at_12) rfl rfl (l' := #[.val (.int p0), .val (.int p1), .val (.int (5 : Int32)), .val (.ref u5), .unset]) rfl (XS.iloadN X82.here hx rfl (hb hby at_13) rfl k)) ?_
    obtain ⟨_, _, ⟨T84, L84, k84, n84⟩, -, X84, ⟨Lc84, hQ84, l84, y84, z84⟩, st84⟩ := Jvm.LawKit.callS X82 hx (y := (⟨"com/example/opaq/opaq/EncryptionAlgorithmCheckKeyPinLaw", "expectedLength", "(I)I"⟩ : MethodName)) hown (mvT hZ (hw _ (List.mem_of_getElem? (i := 8) rfl))) (mvT hZ (hw _ (List.mem_of_getElem? (i := 9) rfl))) (mvT hZ (hw _ (List.mem_of_getElem? (i := 3) rfl))) (mvT hZ (hw _ (List.mem_of_getElem? (i := 10) rfl))) (by decide) (backOf (W := 0) (rm_el5 l Z a0 hw []   T82.heap n0 f83_0 ) hZ (hw _ (List.mem_of_getElem? (i := 10) rfl)) (hw _ (List.mem_of_getElem? (i := 3) rfl)) (by decide) (by decide)) (g := (mkF m 14 #[.val (.int p0), .val (.int p1), .val (.int (5 : Int32)), .val (.ref u5), .unset] [(.int (5 : Int32))])) rfl (by rw [hml]; rfl) (argsL := [(.int (5 : Int32))]) (rest := []) (lenOf pd0_1 rfl) rfl (by show 2 * 0 + _ ≤ _; exact Nat.le_of_eq rfl) (hb hby at_14) (fun _ _ => ⟨rfl, rfl, (by decide : 0 + 0 ≤ _), (by decide : 0 + 0 ≤ _)⟩)
    dsimp only [Pt.U, Pt.locs, Pt.cells, Pt.slots] at X84 l84 y84 z84 st84 hQ84
    subst l84 y84 z84
    obtain ⟨rfl, N84q, K84⟩ := hQ84
    have f85_0 := Nat.le_trans f83_0 K84.1
    have f85_1 := Sta_keep0 f83_1 K84
    have f85_2 := f83_2.keep K84
    have f85_3 := f83_3.keep K84 nin0
    have N84 := Fr.app N82 N84q
    refine Wp.back (U' := (T84.setTop (mkF m 17 #[.val (.int p0), .val (.int p1), .val (.int (5 : Int32)), .val (.ref u5), .unset] [(.int (24 : Int32))]))) st84 ?_
    obtain ⟨T86, h86, k86, X86, e86, E86, A86, st86⟩ := newP X84 hx hZ (hw _ (List.mem_of_getElem? (i := 11) rfl)) rfl (g := (mkF m 17 #[.val (.int p0), .val (.int p1), .val (.int (5 : Int32)), .val (.ref u5), .unset] [(.int (24 : Int32))])) rfl (hb hby at_17) rfl (by decide) (cap := 24) (by decide) (by decide) (by decide) (by decide)
    obtain ⟨b86, g86⟩ : ∃ z, z = T84.heap.size := ⟨_, rfl⟩
    rw [← g86] at A86 st86
    have ne_u5_b86 : u5 ≠ b86 := Nat.ne_of_lt (Nat.lt_of_lt_of_le f85_2.lt (Nat.le_of_eq g86.symm))
    have g_b86 : n0 ≤ b86 := Nat.le_trans f85_0 (Nat.le_of_eq g86.symm)
    have f87_0 := Nat.le_trans f85_0 E86.1
    have f87_1 := f85_1.ext E86
    have f87_2 := f85_2.ext E86
    have f87_3 := f85_3.ext E86
    have V86 : Arv Z h86 b86 k86 .byte (24 : Int32) [(.int (0 : Int32)), (.int (0 : Int32)), (.int (0 : Int32)), (.int (0 : Int32)), (.int (0 : Int32)), (.int (0 : Int32)), (.int (0 : Int32)), (.int (0 : Int32)), (.int (0 : Int32)), (.int (0 : Int32)), (.int (0 : Int32)), (.int (0 : Int32)), (.int (0 : Int32)), (.int (0 : Int32)), (.int (0 : Int32)), (.int (0 : Int32)), (.int (0 : Int32)), (.int (0 : Int32)), (.int (0 : Int32)), (.int (0 : Int32)), (.int (0 : Int32)), (.int (0 : Int32)), (.int (0 : Int32)), (.int (0 : Int32))] (.int (0 : Int32)) := (Arv.new A86 (by decide)).pad (pad_rep [] (.int (0 : Int32)) 24)
    refine Wp.back (U' := (T86.setTop (mkF m 19 #[.val (.int p0), .val (.int p1), .val (.int (5 : Int32)), .val (.ref u5), .unset] [(.ref b86)]))) st86 ?_
    refine Wp.back (U' := (T86.setTop (mkF m 23 #[.val (.int p0), .val (.int p1), .val (.int (5 : Int32)), .val (.ref u5), .val (.ref b86)] [(.ref b86)]))) (fun t k => XS.astore X86.here hx rfl (hb hby at_19) rfl rfl (l' := #[.val (.int p0), .val (.int p1), .val (.int (5 : Int32)), .val (.ref u5), .val (.ref b86)]) rfl (XS.aload X86.here hx rfl (hb hby at_21) rfl rfl k)) ?_
    have vq88 := V86
    obtain ⟨cl88, Ar88, -, qs88, qn88, -, -⟩ := vq88
    refine Wp.back (U' := (T86.setTop (mkF m 24 #[.val (.int p0), .val (.int p1), .val (.int (5 : Int32)), .val (.ref u5), .val (.ref b86)] [(.int (24 : Int32))]))) (fun t k => X86.arraylength hx (by rw [e86]; exact Ar88.1) (State.isArrayOf_alike hZ.alike Ar88.2.1) (g := (mkF m 23 #[.val (.int p0), .val (.int p1), .val (.int (5 : Int32)), .val (.ref u5), .val (.ref b86)] [(.ref b86)])) rfl rfl (hb hby at_23) t (by rw [len_of qs88 qn88]; exact k)) ?_
    refine Wp.back (U' := (T86.setTop (mkF m 32 #[.val (.int p0), .val (.int p1), .val (.int (5 : Int32)), .val (.ref u5), .val (.ref b86)] [(.int (p1).toInt8.toInt32), (.int (0 : Int32)), (.ref b86)]))) (fun t k => XS.ifNo X86.here hx rfl (hb hby at_24) rfl ((if0 _ _).trans (tlt (by decide)).2.2.2) (XS.aload X86.here hx rfl (hb hby at_27) rfl rfl (XT.iconstV X86.here hx rfl (0 : Int32) (hb hby at_29) (by decide) (XS.iloadN X86.here hx rfl (hb hby at_30) rfl (XS.i2b X86.here hx rfl (hb hby at_31) rfl k))))) ?_
    have vq89 := V86
    obtain ⟨cl89, Ar89, qa89, qs89, qn89, qh89, qg89⟩ := vq89
    have hin89 : ¬ ((0 : Int32) < 0 ∨ cl89.slots.size ≤ ((0 : Int32)).toNatClampNeg) := inb_of qs89 ⟨by decide, by decide⟩
    obtain ⟨T89, h89, X89, e89, W89, st89⟩ := stB X86 hx hZ e86 Ar89 (j := (0 : Int32)) hin89 (g := (mkF m 32 #[.val (.int p0), .val (.int p1), .val (.int (5 : Int32)), .val (.ref u5), .val (.ref b86)] [(.int (p1).toInt8.toInt32), (.int (0 : Int32)), (.ref b86)])) rfl rfl (hb hby at_32)
    have V89 : Arv Z h89 b86 k86 .byte (24 : Int32) [(.int (nar .byte (p1).toInt8.toInt32)), (.int (0 : Int32)), (.int (0 : Int32)), (.int (0 : Int32)), (.int (0 : Int32)), (.int (0 : Int32)), (.int (0 : Int32)), (.int (0 : Int32)), (.int (0 : Int32)), (.int (0 : Int32)), (.int (0 : Int32)), (.int (0 : Int32)), (.int (0 : Int32)), (.int (0 : Int32)), (.int (0 : Int32)), (.int (0 : Int32)), (.int (0 : Int32)), (.int (0 : Int32)), (.int (0 : Int32)), (.int (0 : Int32)), (.int (0 : Int32)), (.int (0 : Int32)), (.int (0 : Int32)), (.int (0 : Int32))] (.int (0 : Int32)) := Arv.set Ar89 qa89 qs89 qn89 qh89 qg89 (fits_nar_byte (p1).toInt8.toInt32) W89 0 rfl (Nat.le_of_ble_eq_true rfl)
    have f90_0 := Nat.le_trans f87_0 (Keep.of_wr W89).1
    have f90_1 := f87_1.wr W89
    have f90_2 := f87_2.wr W89
    have f90_3 := f87_3.other W89 (Or.inl ne_u5_b86)
    have N89 := Fr.snoc X89 N84 g_b86
    refine Wp.back (U' := (T89.setTop (mkF m 33 #[.val (.int p0), .val (.int p1), .val (.int (5 : Int32)), .val (.ref u5), .val (.ref b86)] []))) st89 ?_
    refine Wp.back (U' := (T89.setTop (mkF m 37 #[.val (.int p0), .val (.int p1), .val (.int (5 : Int32)), .val (.ref u5), .val (.ref b86)] [(.ref b86), (.ref b86)]))) (fun t k => XS.aload X89.here hx rfl (hb hby at_33) rfl rfl (XS.aload X89.here hx rfl (hb hby at_35) rfl rfl k)) ?_
    have vq91 := V89
    obtain ⟨cl91, Ar91, -, qs91, qn91, -, -⟩ := vq91
    refine Wp.back (U' := (T89.setTop (mkF m 38 #[.val (.int p0), .val (.int p1), .val (.int (5 : Int32)), .val (.ref u5), .val (.ref b86)] [(.int (24 : Int32)), (.ref b86)]))) (fun t k => X89.arraylength hx (by rw [e89]; exact Ar91.1) (State.isArrayOf_alike hZ.alike Ar91.2.1) (g := (mkF m 37 #[.val (.int p0), .val (.int p1), .val (.int (5 : Int32)), .val (.ref u5), .val (.ref b86)] [(.ref b86), (.ref b86)])) rfl rfl (hb hby at_37) t (by rw [len_of qs91 qn91]; exact k)) ?_
    refine Wp.back (U' := (T89.setTop (mkF m 45 #[.val (.int p0), .val (.int p1), .val (.int (5 : Int32)), .val (.ref u5), .val (.ref b86)] [(.int ((((p1).toUInt32 >>> ((8 : Int32) &&& 31).toUInt32).toInt32)).toInt8.toInt32), (.int (23 : Int32)), (.ref b86)]))) (fun t k => XT.iconstV X89.here hx rfl (1 : Int32) (hb hby at_38) (by decide) (XS.isub X89.here hx rfl (hb hby at_39) rfl (XS.iloadN X89.here hx rfl (hb hby at_40) rfl (XT.bipushV X89.here hx rfl (8 : Int32) (hb hby at_41) (by decide) (XS.iushr X89.here hx rfl (hb hby at_43) rfl (XS.i2b X89.here hx rfl (hb hby at_44) rfl k)))))) ?_
    have vq92 := V89
    obtain ⟨cl92, Ar92, qa92, qs92, qn92, qh92, qg92⟩ := vq92
    have hin92 : ¬ ((23 : Int32) < 0 ∨ cl92.slots.size ≤ ((23 : Int32)).toNatClampNeg) := inb_of qs92 ⟨by decide, by decide⟩
    obtain ⟨T92, h92, X92, e92, W92, st92⟩ := stB X89 hx hZ e89 Ar92 (j := (23 : Int32)) hin92 (g := (mkF m 45 #[.val (.int p0), .val (.int p1), .val (.int (5 : Int32)), .val (.ref u5), .val (.ref b86)] [(.int ((((p1).toUInt32 >>> ((8 : Int32) &&& 31).toUInt32).toInt32)).toInt8.toInt32), (.int (23 : Int32)), (.ref b86)])) rfl rfl (hb hby at_45)
    have V92 : Arv Z h92 b86 k86 .byte (24 : Int32) [(.int (nar .byte (p1).toInt8.toInt32)), (.int (0 : Int32)), (.int (0 : Int32)), (.int (0 : Int32)), (.int (0 : Int32)), (.int (0 : Int32)), (.int (0 : Int32)), (.int (0 : Int32)), (.int (0 : Int32)), (.int (0 : Int32)), (.int (0 : Int32)), (.int (0 : Int32)), (.int (0 : Int32)), (.int (0 : Int32)), (.int (0 : Int32)), (.int (0 : Int32)), (.int (0 : Int32)), (.int (0 : Int32)), (.int (0 : Int32)), (.int (0 : Int32)), (.int (0 : Int32)), (.int (0 : Int32)), (.int (0 : Int32)), (.int (nar .byte ((((p1).toUInt32 >>> ((8 : Int32) &&& 31).toUInt32).toInt32)).toInt8.toInt32))] (.int (0 : Int32)) := Arv.set Ar92 qa92 qs92 qn92 qh92 qg92 (fits_nar_byte ((((p1).toUInt32 >>> ((8 : Int32) &&& 31).toUInt32).toInt32)).toInt8.toInt32) W92 23 rfl (Nat.le_of_ble_eq_true rfl)
    have f93_0 := Nat.le_trans f90_0 (Keep.of_wr W92).1
    have f93_1 := f90_1.wr W92
    have f93_2 := f90_2.wr W92
    have f93_3 := f90_3.other W92 (Or.inl ne_u5_b86)
    have N92 := Fr.snoc X92 N89 g_b86
    refine Wp.back (U' := (T92.setTop (mkF m 46 #[.val (.int p0), .val (.int p1), .val (.int (5 : Int32)), .val (.ref u5), .val (.ref b86)] []))) st92 ?_
    refine Wp.back (U' := (T92.setTop (mkF m 49 #[.val (.int p0), .val (.int p1), .val (.int (5 : Int32)), .val (.ref u5), .val (.ref b86)] [(.ref b86), (.ref u5)]))) (fun t k => XS.aloadN X92.here hx rfl (hb hby at_46) rfl rfl (XS.aload X92.here hx rfl (hb hby at_47) rfl rfl k)) ?_
    obtain ⟨cq94, kq94, q94a, q94b, q94c⟩ := isOf hZ e92 f93_2
    obtain ⟨_, _, ⟨T94, L94, k94, n94⟩, -, X94, ⟨Lc94, hQ94, l94, y94, z94⟩, st94⟩ := X92.virtualBack hx (y := (⟨"com/example/opaq/opaq/EncryptionAlgorithm", "checkKey", "([B)V"⟩ : MethodName)) (z := (⟨"com/example/opaq/opaq/EncryptionAlgorithm", "checkKey", "([B)V"⟩ : MethodName)) hown (mvT hZ (hw _ (List.mem_of_getElem? (i := 12) rfl))) (mvT hZ (hw _ (List.mem_of_getElem? (i := 13) rfl))) (notFace_of_selects (args := #[]) (mvT hZ (hw _ (List.mem_of_getElem? (i := 15) rfl)))) (mvT hZ (hw _ (List.mem_of_getElem? (i := 15) rfl))) (mvT hZ (hw _ (List.mem_of_getElem? (i := 14) rfl))) (by decide) (backOf (W := 0) (rm_ck24 l Z a0 hw [] u5 b86 k86 [(.int (nar .byte (p1).toInt8.toInt32)), (.int (0 : Int32)), (.int (0 : Int32)), (.int (0 : Int32)), (.int (0 : Int32)), (.int (0 : Int32)), (.int (0 : Int32)), (.int (0 : Int32)), (.int (0 : Int32)), (.int (0 : Int32)), (.int (0 : Int32)), (.int (0 : Int32)), (.int (0 : Int32)), (.int (0 : Int32)), (.int (0 : Int32)), (.int (0 : Int32)), (.int (0 : Int32)), (.int (0 : Int32)), (.int (0 : Int32)), (.int (0 : Int32)), (.int (0 : Int32)), (.int (0 : Int32)), (.int (0 : Int32)), (.int (nar .byte ((((p1).toUInt32 >>> ((8 : Int32) &&& 31).toUInt32).toInt32)).toInt8.toInt32))] (.int (0 : Int32)) h92 n0 f93_0 f93_3 V92) hZ (hw _ (List.mem_of_getElem? (i := 16) rfl)) (hw _ (List.mem_of_getElem? (i := 6) rfl)) (by decide) (by decide)) q94a q94c (g := (mkF m 49 #[.val (.int p0), .val (.int p1), .val (.int (5 : Int32)), .val (.ref u5), .val (.ref b86)] [(.ref b86), (.ref u5)])) rfl (by rw [hml]; rfl) (Steps.refl _) (argsL := [(.ref b86)]) (rest := []) (lenOf pd0_2 rfl) rfl (by show 2 * 0 + _ ≤ _; exact Nat.le_of_eq rfl) (hb hby at_49) (fun _ _ => ⟨rfl, e92, (by decide : 1 + 0 ≤ _), (by decide : 24 + 0 ≤ _)⟩)
    dsimp only [Pt.U, Pt.locs, Pt.cells, Pt.slots] at X94 l94 y94 z94 st94 hQ94
    subst l94 y94 z94
    obtain ⟨rfl, N94q, K94⟩ := hQ94
    have f95_0 := Nat.le_trans f93_0 K94.1
    have f95_1 := Sta_keep0 f93_1 K94
    have f95_2 := f93_2.keep K94
    have f95_3 := f93_3.keep K94 nin0
    have f95_4 := V92.keep K94 nin0
    have N94 := Fr.app N92 N94q
    refine Wp.back (U' := (T94.setTop (mkF m 52 #[.val (.int p0), .val (.int p1), .val (.int (5 : Int32)), .val (.ref u5), .val (.ref b86)] []))) (fun t k => st94.trans k) ?_
    refine Wp.back (U' := (T94.setTop (mkF m 53 #[.val (.int p0), .val (.int p1), .val (.int (5 : Int32)), .val (.ref u5), .val (.ref b86)] [(.int (1 : Int32))]))) (fun t k => XT.iconstV X94.here hx rfl (1 : Int32) (hb hby at_52) (by decide) k) ?_
    obtain ⟨fs, hr, hrun, hended, hW, hsame⟩ := X94.leave (v := (some (.int (1 : Int32)))) (fun h => by rw [hret] at h; cases h)
    refine Wp.done (retN X94 hx (t := .boolean) hret (by simp) (hb hby at_53) hr) hrun hended ⟨_, _, rfl, ?_, ⟨_, rfl⟩, hW, hsame.mono (by decide) (by decide)⟩
    show QL n0 _ T94.heap _
    exact ⟨rfl, N94⟩
  · rw [hk7]
    refine Wp.back (U' := (s₁.setTop (mkF m 9 #[.val (.int p0), .val (.int p1), .val (.int (6 : Int32)), .unset, .unset] [(.int (6 : Int32))]))) (fun t k => XS.iloadN X0.here hx rfl (hb hby at_8) rfl k) ?_
    obtain ⟨_, _, ⟨T96, L96, k96, n96⟩, -, X96, ⟨Lc96, hQ96, l96, y96, z96⟩, st96⟩ := Jvm.LawKit.callS X0 hx (y := (⟨"com/example/opaq/opaq/EncryptionAlgorithmCheckKeyPinLaw", "pick", "(I)Lcom/example/opaq/opaq/EncryptionAlgorithm;"⟩ : MethodName)) hown (mvT hZ (hw _ (List.mem_of_getElem? (i := 1) rfl))) (mvT hZ (hw _ (List.mem_of_getElem? (i := 2) rfl))) (mvT hZ (hw _ (List.mem_of_getElem? (i := 3) rfl))) (mvT hZ (hw _ (List.mem_of_getElem? (i := 4) rfl))) (by decide) (backOf (W := 0) (rm_pk6 l Z a0 hw []  u6 h0 n0 Z0 S6) hZ (hw _ (List.mem_of_getElem? (i := 4) rfl)) (hw _ (List.mem_of_getElem? (i := 3) rfl)) (by decide) (by decide)) (g := (mkF m 9 #[.val (.int p0), .val (.int p1), .val (.int (6 : Int32)), .unset, .unset] [(.int (6 : Int32))])) rfl (by rw [hml]; rfl) (argsL := [(.int (6 : Int32))]) (rest := []) (lenOf pd0_0 rfl) rfl (by show 2 * 0 + _ ≤ _; exact Nat.le_of_eq rfl) (hb hby at_9) (fun _ _ => ⟨rfl, e0, (by decide : 0 + 0 ≤ _), (by decide : 0 + 0 ≤ _)⟩)
    dsimp only [Pt.U, Pt.locs, Pt.cells, Pt.slots] at X96 l96 y96 z96 st96 hQ96
    subst l96 y96 z96
    obtain ⟨rfl, N96q, K96⟩ := hQ96
    have f97_0 := Nat.le_trans Z0 K96.1
    have f97_1 := Sta_keep0 S6 K96
    have f97_2 := E6.keep K96
    have f97_3 := L6.keep K96 nin0
    have N96 := Fr.app N0 N96q
    refine Wp.back (U' := (T96.setTop (mkF m 12 #[.val (.int p0), .val (.int p1), .val (.int (6 : Int32)), .unset, .unset] [(.ref u6)]))) st96 ?_
    refine Wp.back (U' := (T96.setTop (mkF m 14 #[.val (.int p0), .val (.int p1), .val (.int (6 : Int32)), .val (.ref u6), .unset] [(.int (6 : Int32))]))) (fun t k => XS.astoreN X96.here hx rfl (hb hby at_12) rfl rfl (l' := #[.val (.int p0), .val (.int p1), .val (.int (6 : Int32)), .val (.ref u6), .unset]) rfl (XS.iloadN X96.here hx rfl (hb hby at_13) rfl k)) ?_
    obtain ⟨_, _, ⟨T98, L98, k98, n98⟩, -, X98, ⟨Lc98, hQ98, l98, y98, z98⟩, st98⟩ := Jvm.LawKit.callS X96 hx (y := (⟨"com/example/opaq/opaq/EncryptionAlgorithmCheckKeyPinLaw", "expectedLength", "(I)I"⟩ : MethodName)) hown (mvT hZ (hw _ (List.mem_of_getElem? (i := 8) rfl))) (mvT hZ (hw _ (List.mem_of_getElem? (i := 9) rfl))) (mvT hZ (hw _ (List.mem_of_getElem? (i := 3) rfl))) (mvT hZ (hw _ (List.mem_of_getElem? (i := 10) rfl))) (by decide) (backOf (W := 0) (rm_el6 l Z a0 hw []   T96.heap n0 f97_0 ) hZ (hw _ (List.mem_of_getElem? (i := 10) rfl)) (hw _ (List.mem_of_getElem? (i := 3) rfl)) (by decide) (by decide)) (g := (mkF m 14 #[.val (.int p0), .val (.int p1), .val (.int (6 : Int32)), .val (.ref u6), .unset] [(.int (6 : Int32))])) rfl (by rw [hml]; rfl) (argsL := [(.int (6 : Int32))]) (rest := []) (lenOf pd0_1 rfl) rfl (by show 2 * 0 + _ ≤ _; exact Nat.le_of_eq rfl) (hb hby at_14) (fun _ _ => ⟨rfl, rfl, (by decide : 0 + 0 ≤ _), (by decide : 0 + 0 ≤ _)⟩)
    dsimp only [Pt.U, Pt.locs, Pt.cells, Pt.slots] at X98 l98 y98 z98 st98 hQ98
    subst l98 y98 z98
    obtain ⟨rfl, N98q, K98⟩ := hQ98
    have f99_0 := Nat.le_trans f97_0 K98.1
    have f99_1 := Sta_keep0 f97_1 K98
    have f99_2 := f97_2.keep K98
    have f99_3 := f97_3.keep K98 nin0
    have N98 := Fr.app N96 N98q
    refine Wp.back (U' := (T98.setTop (mkF m 17 #[.val (.int p0), .val (.int p1), .val (.int (6 : Int32)), .val (.ref u6), .unset] [(.int (32 : Int32))]))) st98 ?_
    obtain ⟨T100, h100, k100, X100, e100, E100, A100, st100⟩ := newP X98 hx hZ (hw _ (List.mem_of_getElem? (i := 11) rfl)) rfl (g := (mkF m 17 #[.val (.int p0), .val (.int p1), .val (.int (6 : Int32)), .val (.ref u6), .unset] [(.int (32 : Int32))])) rfl (hb hby at_17) rfl (by decide) (cap := 32) (by decide) (by decide) (by decide) (by decide)
    obtain ⟨b100, g100⟩ : ∃ z, z = T98.heap.size := ⟨_, rfl⟩
    rw [← g100] at A100 st100
    have ne_u6_b100 : u6 ≠ b100 := Nat.ne_of_lt (Nat.lt_of_lt_of_le f99_2.lt (Nat.le_of_eq g100.symm))
    have g_b100 : n0 ≤ b100 := Nat.le_trans f99_0 (Nat.le_of_eq g100.symm)
    have f101_0 := Nat.le_trans f99_0 E100.1
    have f101_1 := f99_1.ext E100
    have f101_2 := f99_2.ext E100
    have f101_3 := f99_3.ext E100
    have V100 : Arv Z h100 b100 k100 .byte (32 : Int32) [(.int (0 : Int32)), (.int (0 : Int32)), (.int (0 : Int32)), (.int (0 : Int32)), (.int (0 : Int32)), (.int (0 : Int32)), (.int (0 : Int32)), (.int (0 : Int32)), (.int (0 : Int32)), (.int (0 : Int32)), (.int (0 : Int32)), (.int (0 : Int32)), (.int (0 : Int32)), (.int (0 : Int32)), (.int (0 : Int32)), (.int (0 : Int32)), (.int (0 : Int32)), (.int (0 : Int32)), (.int (0 : Int32)), (.int (0 : Int32)), (.int (0 : Int32)), (.int (0 : Int32)), (.int (0 : Int32)), (.int (0 : Int32)), (.int (0 : Int32)), (.int (0 : Int32)), (.int (0 : Int32)), (.int (0 : Int32)), (.int (0 : Int32)), (.int (0 : Int32)), (.int (0 : Int32)), (.int (0 : Int32))] (.int (0 : Int32)) := (Arv.new A100 (by decide)).pad (pad_rep [] (.int (0 : Int32)) 32)
    refine Wp.back (U' := (T100.setTop (mkF m 19 #[.val (.int p0), .val (.int p1), .val (.int (6 : Int32)), .val (.ref u6), .unset] [(.ref b100)]))) st100 ?_
    refine Wp.back (U' := (T100.setTop (mkF m 23 #[.val (.int p0), .val (.int p1), .val (.int (6 : Int32)), .val (.ref u6), .val (.ref b100)] [(.ref b100)]))) (fun t k => XS.astore X100.here hx rfl (hb hby at_19) rfl rfl (l' := #[.val (.int p0), .val (.int p1), .val (.int (6 : Int32)), .val (.ref u6), .val (.ref b100)]) rfl (XS.aload X100.here hx rfl (hb hby at_21) rfl rfl k)) ?_
    have vq102 := V100
    obtain ⟨cl102, Ar102, -, qs102, qn102, -, -⟩ := vq102
    refine Wp.back (U' := (T100.setTop (mkF m 24 #[.val (.int p0), .val (.int p1), .val (.int (6 : Int32)), .val (.ref u6), .val (.ref b100)] [(.int (32 : Int32))]))) (fun t k => X100.arraylength hx (by rw [e100]; exact Ar102.1) (State.isArrayOf_alike hZ.alike Ar102.2.1) (g := (mkF m 23 #[.val (.int p0), .val (.int p1), .val (.int (6 : Int32)), .val (.ref u6), .val (.ref b100)] [(.ref b100)])) rfl rfl (hb hby at_23) t (by rw [len_of qs102 qn102]; exact k)) ?_
    refine Wp.back (U' := (T100.setTop (mkF m 32 #[.val (.int p0), .val (.int p1), .val (.int (6 : Int32)), .val (.ref u6), .val (.ref b100)] [(.int (p1).toInt8.toInt32), (.int (0 : Int32)), (.ref b100)]))) (fun t k => XS.ifNo X100.here hx rfl (hb hby at_24) rfl ((if0 _ _).trans (tlt (by decide)).2.2.2) (XS.aload X100.here hx rfl (hb hby at_27) rfl rfl (XT.iconstV X100.here hx rfl (0 : Int32) (hb hby at_29) (by decide) (XS.iloadN X100.here hx rfl (hb hby at_30) rfl (XS.i2b X100.here hx rfl (hb hby at_31) rfl k))))) ?_
    have vq103 := V100
    obtain ⟨cl103, Ar103, qa103, qs103, qn103, qh103, qg103⟩ := vq103
    have hin103 : ¬ ((0 : Int32) < 0 ∨ cl103.slots.size ≤ ((0 : Int32)).toNatClampNeg) := inb_of qs103 ⟨by decide, by decide⟩
    obtain ⟨T103, h103, X103, e103, W103, st103⟩ := stB X100 hx hZ e100 Ar103 (j := (0 : Int32)) hin103 (g := (mkF m 32 #[.val (.int p0), .val (.int p1), .val (.int (6 : Int32)), .val (.ref u6), .val (.ref b100)] [(.int (p1).toInt8.toInt32), (.int (0 : Int32)), (.ref b100)])) rfl rfl (hb hby at_32)
    have V103 : Arv Z h103 b100 k100 .byte (32 : Int32) [(.int (nar .byte (p1).toInt8.toInt32)), (.int (0 : Int32)), (.int (0 : Int32)), (.int (0 : Int32)), (.int (0 : Int32)), (.int (0 : Int32)), (.int (0 : Int32)), (.int (0 : Int32)), (.int (0 : Int32)), (.int (0 : Int32)), (.int (0 : Int32)), (.int (0 : Int32)), (.int (0 : Int32)), (.int (0 : Int32)), (.int (0 : Int32)), (.int (0 : Int32)), (.int (0 : Int32)), (.int (0 : Int32)), (.int (0 : Int32)), (.int (0 : Int32)), (.int (0 : Int32)), (.int (0 : Int32)), (.int (0 : Int32)), (.int (0 : Int32)), (.int (0 : Int32)), (.int (0 : Int32)), (.int (0 : Int32)), (.int (0 : Int32)), (.int (0 : Int32)), (.int (0 : Int32)), (.int (0 : Int32)), (.int (0 : Int32))] (.int (0 : Int32)) := Arv.set Ar103 qa103 qs103 qn103 qh103 qg103 (fits_nar_byte (p1).toInt8.toInt32) W103 0 rfl (Nat.le_of_ble_eq_true rfl)
    have f104_0 := Nat.le_trans f101_0 (Keep.of_wr W103).1
    have f104_1 := f101_1.wr W103
    have f104_2 := f101_2.wr W103
    have f104_3 := f101_3.other W103 (Or.inl ne_u6_b100)
    have N103 := Fr.snoc X103 N98 g_b100
    refine Wp.back (U' := (T103.setTop (mkF m 33 #[.val (.int p0), .val (.int p1), .val (.int (6 : Int32)), .val (.ref u6), .val (.ref b100)] []))) st103 ?_
    refine Wp.back (U' := (T103.setTop (mkF m 37 #[.val (.int p0), .val (.int p1), .val (.int (6 : Int32)), .val (.ref u6), .val (.ref b100)] [(.ref b100), (.ref b100)]))) (fun t k => XS.aload X103.here hx rfl (hb hby at_33) rfl rfl (XS.aload X103.here hx rfl (hb hby at_35) rfl rfl k)) ?_
    have vq105 := V103
    obtain ⟨cl105, Ar105, -, qs105, qn105, -, -⟩ := vq105
    refine Wp.back (U' := (T103.setTop (mkF m 38 #[.val (.int p0), .val (.int p1), .val (.int (6 : Int32)), .val (.ref u6), .val (.ref b100)] [(.int (32 : Int32)), (.ref b100)]))) (fun t k => X103.arraylength hx (by rw [e103]; exact Ar105.1) (State.isArrayOf_alike hZ.alike Ar105.2.1) (g := (mkF m 37 #[.val (.int p0), .val (.int p1), .val (.int (6 : Int32)), .val (.ref u6), .val (.ref b100)] [(.ref b100), (.ref b100)])) rfl rfl (hb hby at_37) t (by rw [len_of qs105 qn105]; exact k)) ?_
    refine Wp.back (U' := (T103.setTop (mkF m 45 #[.val (.int p0), .val (.int p1), .val (.int (6 : Int32)), .val (.ref u6), .val (.ref b100)] [(.int ((((p1).toUInt32 >>> ((8 : Int32) &&& 31).toUInt32).toInt32)).toInt8.toInt32), (.int (31 : Int32)), (.ref b100)]))) (fun t k => XT.iconstV X103.here hx rfl (1 : Int32) (hb hby at_38) (by decide) (XS.isub X103.here hx rfl (hb hby at_39) rfl (XS.iloadN X103.here hx rfl (hb hby at_40) rfl (XT.bipushV X103.here hx rfl (8 : Int32) (hb hby at_41) (by decide) (XS.iushr X103.here hx rfl (hb hby at_43) rfl (XS.i2b X103.here hx rfl (hb hby at_44) rfl k)))))) ?_
    have vq106 := V103
    obtain ⟨cl106, Ar106, qa106, qs106, qn106, qh106, qg106⟩ := vq106
    have hin106 : ¬ ((31 : Int32) < 0 ∨ cl106.slots.size ≤ ((31 : Int32)).toNatClampNeg) := inb_of qs106 ⟨by decide, by decide⟩
    obtain ⟨T106, h106, X106, e106, W106, st106⟩ := stB X103 hx hZ e103 Ar106 (j := (31 : Int32)) hin106 (g := (mkF m 45 #[.val (.int p0), .val (.int p1), .val (.int (6 : Int32)), .val (.ref u6), .val (.ref b100)] [(.int ((((p1).toUInt32 >>> ((8 : Int32) &&& 31).toUInt32).toInt32)).toInt8.toInt32), (.int (31 : Int32)), (.ref b100)])) rfl rfl (hb hby at_45)
    have V106 : Arv Z h106 b100 k100 .byte (32 : Int32) [(.int (nar .byte (p1).toInt8.toInt32)), (.int (0 : Int32)), (.int (0 : Int32)), (.int (0 : Int32)), (.int (0 : Int32)), (.int (0 : Int32)), (.int (0 : Int32)), (.int (0 : Int32)), (.int (0 : Int32)), (.int (0 : Int32)), (.int (0 : Int32)), (.int (0 : Int32)), (.int (0 : Int32)), (.int (0 : Int32)), (.int (0 : Int32)), (.int (0 : Int32)), (.int (0 : Int32)), (.int (0 : Int32)), (.int (0 : Int32)), (.int (0 : Int32)), (.int (0 : Int32)), (.int (0 : Int32)), (.int (0 : Int32)), (.int (0 : Int32)), (.int (0 : Int32)), (.int (0 : Int32)), (.int (0 : Int32)), (.int (0 : Int32)), (.int (0 : Int32)), (.int (0 : Int32)), (.int (0 : Int32)), (.int (nar .byte ((((p1).toUInt32 >>> ((8 : Int32) &&& 31).toUInt32).toInt32)).toInt8.toInt32))] (.int (0 : Int32)) := Arv.set Ar106 qa106 qs106 qn106 qh106 qg106 (fits_nar_byte ((((p1).toUInt32 >>> ((8 : Int32) &&& 31).toUInt32).toInt32)).toInt8.toInt32) W106 31 rfl (Nat.le_of_ble_eq_true rfl)
    have f107_0 := Nat.le_trans f104_0 (Keep.of_wr W106).1
    have f107_1 := f104_1.wr W106
    have f107_2 := f104_2.wr W106
    have f107_3 := f104_3.other W106 (Or.inl ne_u6_b100)
    have N106 := Fr.snoc X106 N103 g_b100
    refine Wp.back (U' := (T106.setTop (mkF m 46 #[.val (.int p0), .val (.int p1), .val (.int (6 : Int32)), .val (.ref u6), .val (.ref b100)] []))) st106 ?_
    refine Wp.back (U' := (T106.setTop (mkF m 49 #[.val (.int p0), .val (.int p1), .val (.int (6 : Int32)), .val (.ref u6), .val (.ref b100)] [(.ref b100), (.ref u6)]))) (fun t k => XS.aloadN X106.here hx rfl (hb hby at_46) rfl rfl (XS.aload X106.here hx rfl (hb hby at_47) rfl rfl k)) ?_
    obtain ⟨cq108, kq108, q108a, q108b, q108c⟩ := isOf hZ e106 f107_2
    obtain ⟨_, _, ⟨T108, L108, k108, n108⟩, -, X108, ⟨Lc108, hQ108, l108, y108, z108⟩, st108⟩ := X106.virtualBack hx (y := (⟨"com/example/opaq/opaq/EncryptionAlgorithm", "checkKey", "([B)V"⟩ : MethodName)) (z := (⟨"com/example/opaq/opaq/EncryptionAlgorithm", "checkKey", "([B)V"⟩ : MethodName)) hown (mvT hZ (hw _ (List.mem_of_getElem? (i := 12) rfl))) (mvT hZ (hw _ (List.mem_of_getElem? (i := 13) rfl))) (notFace_of_selects (args := #[]) (mvT hZ (hw _ (List.mem_of_getElem? (i := 15) rfl)))) (mvT hZ (hw _ (List.mem_of_getElem? (i := 15) rfl))) (mvT hZ (hw _ (List.mem_of_getElem? (i := 14) rfl))) (by decide) (backOf (W := 0) (rm_ck32 l Z a0 hw [] u6 b100 k100 [(.int (nar .byte (p1).toInt8.toInt32)), (.int (0 : Int32)), (.int (0 : Int32)), (.int (0 : Int32)), (.int (0 : Int32)), (.int (0 : Int32)), (.int (0 : Int32)), (.int (0 : Int32)), (.int (0 : Int32)), (.int (0 : Int32)), (.int (0 : Int32)), (.int (0 : Int32)), (.int (0 : Int32)), (.int (0 : Int32)), (.int (0 : Int32)), (.int (0 : Int32)), (.int (0 : Int32)), (.int (0 : Int32)), (.int (0 : Int32)), (.int (0 : Int32)), (.int (0 : Int32)), (.int (0 : Int32)), (.int (0 : Int32)), (.int (0 : Int32)), (.int (0 : Int32)), (.int (0 : Int32)), (.int (0 : Int32)), (.int (0 : Int32)), (.int (0 : Int32)), (.int (0 : Int32)), (.int (0 : Int32)), (.int (nar .byte ((((p1).toUInt32 >>> ((8 : Int32) &&& 31).toUInt32).toInt32)).toInt8.toInt32))] (.int (0 : Int32)) h106 n0 f107_0 f107_3 V106) hZ (hw _ (List.mem_of_getElem? (i := 16) rfl)) (hw _ (List.mem_of_getElem? (i := 6) rfl)) (by decide) (by decide)) q108a q108c (g := (mkF m 49 #[.val (.int p0), .val (.int p1), .val (.int (6 : Int32)), .val (.ref u6), .val (.ref b100)] [(.ref b100), (.ref u6)])) rfl (by rw [hml]; rfl) (Steps.refl _) (argsL := [(.ref b100)]) (rest := []) (lenOf pd0_2 rfl) rfl (by show 2 * 0 + _ ≤ _; exact Nat.le_of_eq rfl) (hb hby at_49) (fun _ _ => ⟨rfl, e106, (by decide : 1 + 0 ≤ _), (by decide : 32 + 0 ≤ _)⟩)
    dsimp only [Pt.U, Pt.locs, Pt.cells, Pt.slots] at X108 l108 y108 z108 st108 hQ108
    subst l108 y108 z108
    obtain ⟨rfl, N108q, K108⟩ := hQ108
    have f109_0 := Nat.le_trans f107_0 K108.1
    have f109_1 := Sta_keep0 f107_1 K108
    have f109_2 := f107_2.keep K108
    have f109_3 := f107_3.keep K108 nin0
    have f109_4 := V106.keep K108 nin0
    have N108 := Fr.app N106 N108q
    refine Wp.back (U' := (T108.setTop (mkF m 52 #[.val (.int p0), .val (.int p1), .val (.int (6 : Int32)), .val (.ref u6), .val (.ref b100)] []))) (fun t k => st108.trans k) ?_
    refine Wp.back (U' := (T108.setTop (mkF m 53 #[.val (.int p0), .val (.int p1), .val (.int (6 : Int32)), .val (.ref u6), .val (.ref b100)] [(.int (1 : Int32))]))) (fun t k => XT.iconstV X108.here hx rfl (1 : Int32) (hb hby at_52) (by decide) k) ?_
    obtain ⟨fs, hr, hrun, hended, hW, hsame⟩ := X108.leave (v := (some (.int (1 : Int32)))) (fun h => by rw [hret] at h; cases h)
    refine Wp.done (retN X108 hx (t := .boolean) hret (by simp) (hb hby at_53) hr) hrun hended ⟨_, _, rfl, ?_, ⟨_, rfl⟩, hW, hsame.mono (by decide) (by decide)⟩
    show QL n0 _ T108.heap _
    exact ⟨rfl, N108⟩
  · rw [hk8]
    refine Wp.back (U' := (s₁.setTop (mkF m 9 #[.val (.int p0), .val (.int p1), .val (.int (7 : Int32)), .unset, .unset] [(.int (7 : Int32))]))) (fun t k => XS.iloadN X0.here hx rfl (hb hby at_8) rfl k) ?_
    obtain ⟨_, _, ⟨T110, L110, k110, n110⟩, -, X110, ⟨Lc110, hQ110, l110, y110, z110⟩, st110⟩ := Jvm.LawKit.callS X0 hx (y := (⟨"com/example/opaq/opaq/EncryptionAlgorithmCheckKeyPinLaw", "pick", "(I)Lcom/example/opaq/opaq/EncryptionAlgorithm;"⟩ : MethodName)) hown (mvT hZ (hw _ (List.mem_of_getElem? (i := 1) rfl))) (mvT hZ (hw _ (List.mem_of_getElem? (i := 2) rfl))) (mvT hZ (hw _ (List.mem_of_getElem? (i := 3) rfl))) (mvT hZ (hw _ (List.mem_of_getElem? (i := 4) rfl))) (by decide) (backOf (W := 0) (rm_pk7 l Z a0 hw []  u7 h0 n0 Z0 S7) hZ (hw _ (List.mem_of_getElem? (i := 4) rfl)) (hw _ (List.mem_of_getElem? (i := 3) rfl)) (by decide) (by decide)) (g := (mkF m 9 #[.val (.int p0), .val (.int p1), .val (.int (7 : Int32)), .unset, .unset] [(.int (7 : Int32))])) rfl (by rw [hml]; rfl) (argsL := [(.int (7 : Int32))]) (rest := []) (lenOf pd0_0 rfl) rfl (by show 2 * 0 + _ ≤ _; exact Nat.le_of_eq rfl) (hb hby at_9) (fun _ _ => ⟨rfl, e0, (by decide : 0 + 0 ≤ _), (by decide : 0 + 0 ≤ _)⟩)
    dsimp only [Pt.U, Pt.locs, Pt.cells, Pt.slots] at X110 l110 y110 z110 st110 hQ110
    subst l110 y110 z110
    obtain ⟨rfl, N110q, K110⟩ := hQ110
    have f111_0 := Nat.le_trans Z0 K110.1
    have f111_1 := Sta_keep0 S7 K110
    have f111_2 := E7.keep K110
    have f111_3 := L7.keep K110 nin0
    have N110 := Fr.app N0 N110q
    refine Wp.back (U' := (T110.setTop (mkF m 12 #[.val (.int p0), .val (.int p1), .val (.int (7 : Int32)), .unset, .unset] [(.ref u7)]))) st110 ?_
    refine Wp.back (U' := (T110.setTop (mkF m 14 #[.val (.int p0), .val (.int p1), .val (.int (7 : Int32)), .val (.ref u7), .unset] [(.int (7 : Int32))]))) (fun t k => XS.astoreN X110.here hx rfl (hb hby at_12) rfl rfl (l' := #[.val (.int p0), .val (.int p1), .val (.int (7 : Int32)), .val (.ref u7), .unset]) rfl (XS.iloadN X110.here hx rfl (hb hby at_13) rfl k)) ?_
    obtain ⟨_, _, ⟨T112, L112, k112, n112⟩, -, X112, ⟨Lc112, hQ112, l112, y112, z112⟩, st112⟩ := Jvm.LawKit.callS X110 hx (y := (⟨"com/example/opaq/opaq/EncryptionAlgorithmCheckKeyPinLaw", "expectedLength", "(I)I"⟩ : MethodName)) hown (mvT hZ (hw _ (List.mem_of_getElem? (i := 8) rfl))) (mvT hZ (hw _ (List.mem_of_getElem? (i := 9) rfl))) (mvT hZ (hw _ (List.mem_of_getElem? (i := 3) rfl))) (mvT hZ (hw _ (List.mem_of_getElem? (i := 10) rfl))) (by decide) (backOf (W := 0) (rm_el7 l Z a0 hw []   T110.heap n0 f111_0 ) hZ (hw _ (List.mem_of_getElem? (i := 10) rfl)) (hw _ (List.mem_of_getElem? (i := 3) rfl)) (by decide) (by decide)) (g := (mkF m 14 #[.val (.int p0), .val (.int p1), .val (.int (7 : Int32)), .val (.ref u7), .unset] [(.int (7 : Int32))])) rfl (by rw [hml]; rfl) (argsL := [(.int (7 : Int32))]) (rest := []) (lenOf pd0_1 rfl) rfl (by show 2 * 0 + _ ≤ _; exact Nat.le_of_eq rfl) (hb hby at_14) (fun _ _ => ⟨rfl, rfl, (by decide : 0 + 0 ≤ _), (by decide : 0 + 0 ≤ _)⟩)
    dsimp only [Pt.U, Pt.locs, Pt.cells, Pt.slots] at X112 l112 y112 z112 st112 hQ112
    subst l112 y112 z112
    obtain ⟨rfl, N112q, K112⟩ := hQ112
    have f113_0 := Nat.le_trans f111_0 K112.1
    have f113_1 := Sta_keep0 f111_1 K112
    have f113_2 := f111_2.keep K112
    have f113_3 := f111_3.keep K112 nin0
    have N112 := Fr.app N110 N112q
    refine Wp.back (U' := (T112.setTop (mkF m 17 #[.val (.int p0), .val (.int p1), .val (.int (7 : Int32)), .val (.ref u7), .unset] [(.int (16 : Int32))]))) st112 ?_
    obtain ⟨T114, h114, k114, X114, e114, E114, A114, st114⟩ := newP X112 hx hZ (hw _ (List.mem_of_getElem? (i := 11) rfl)) rfl (g := (mkF m 17 #[.val (.int p0), .val (.int p1), .val (.int (7 : Int32)), .val (.ref u7), .unset] [(.int (16 : Int32))])) rfl (hb hby at_17) rfl (by decide) (cap := 16) (by decide) (by decide) (by decide) (by decide)
    obtain ⟨b114, g114⟩ : ∃ z, z = T112.heap.size := ⟨_, rfl⟩
    rw [← g114] at A114 st114
    have ne_u7_b114 : u7 ≠ b114 := Nat.ne_of_lt (Nat.lt_of_lt_of_le f113_2.lt (Nat.le_of_eq g114.symm))
    have g_b114 : n0 ≤ b114 := Nat.le_trans f113_0 (Nat.le_of_eq g114.symm)
    have f115_0 := Nat.le_trans f113_0 E114.1
    have f115_1 := f113_1.ext E114
    have f115_2 := f113_2.ext E114
    have f115_3 := f113_3.ext E114
    have V114 : Arv Z h114 b114 k114 .byte (16 : Int32) [(.int (0 : Int32)), (.int (0 : Int32)), (.int (0 : Int32)), (.int (0 : Int32)), (.int (0 : Int32)), (.int (0 : Int32)), (.int (0 : Int32)), (.int (0 : Int32)), (.int (0 : Int32)), (.int (0 : Int32)), (.int (0 : Int32)), (.int (0 : Int32)), (.int (0 : Int32)), (.int (0 : Int32)), (.int (0 : Int32)), (.int (0 : Int32))] (.int (0 : Int32)) := (Arv.new A114 (by decide)).pad (pad_rep [] (.int (0 : Int32)) 16)
    refine Wp.back (U' := (T114.setTop (mkF m 19 #[.val (.int p0), .val (.int p1), .val (.int (7 : Int32)), .val (.ref u7), .unset] [(.ref b114)]))) st114 ?_
    refine Wp.back (U' := (T114.setTop (mkF m 23 #[.val (.int p0), .val (.int p1), .val (.int (7 : Int32)), .val (.ref u7), .val (.ref b114)] [(.ref b114)]))) (fun t k => XS.astore X114.here hx rfl (hb hby at_19) rfl rfl (l' := #[.val (.int p0), .val (.int p1), .val (.int (7 : Int32)), .val (.ref u7), .val (.ref b114)]) rfl (XS.aload X114.here hx rfl (hb hby at_21) rfl rfl k)) ?_
    have vq116 := V114
    obtain ⟨cl116, Ar116, -, qs116, qn116, -, -⟩ := vq116
    refine Wp.back (U' := (T114.setTop (mkF m 24 #[.val (.int p0), .val (.int p1), .val (.int (7 : Int32)), .val (.ref u7), .val (.ref b114)] [(.int (16 : Int32))]))) (fun t k => X114.arraylength hx (by rw [e114]; exact Ar116.1) (State.isArrayOf_alike hZ.alike Ar116.2.1) (g := (mkF m 23 #[.val (.int p0), .val (.int p1), .val (.int (7 : Int32)), .val (.ref u7), .val (.ref b114)] [(.ref b114)])) rfl rfl (hb hby at_23) t (by rw [len_of qs116 qn116]; exact k)) ?_
    refine Wp.back (U' := (T114.setTop (mkF m 32 #[.val (.int p0), .val (.int p1), .val (.int (7 : Int32)), .val (.ref u7), .val (.ref b114)] [(.int (p1).toInt8.toInt32), (.int (0 : Int32)), (.ref b114)]))) (fun t k => XS.ifNo X114.here hx rfl (hb hby at_24) rfl ((if0 _ _).trans (tlt (by decide)).2.2.2) (XS.aload X114.here hx rfl (hb hby at_27) rfl rfl (XT.iconstV X114.here hx rfl (0 : Int32) (hb hby at_29) (by decide) (XS.iloadN X114.here hx rfl (hb hby at_30) rfl (XS.i2b X114.here hx rfl (hb hby at_31) rfl k))))) ?_
    have vq117 := V114
    obtain ⟨cl117, Ar117, qa117, qs117, qn117, qh117, qg117⟩ := vq117
    have hin117 : ¬ ((0 : Int32) < 0 ∨ cl117.slots.size ≤ ((0 : Int32)).toNatClampNeg) := inb_of qs117 ⟨by decide, by decide⟩
    obtain ⟨T117, h117, X117, e117, W117, st117⟩ := stB X114 hx hZ e114 Ar117 (j := (0 : Int32)) hin117 (g := (mkF m 32 #[.val (.int p0), .val (.int p1), .val (.int (7 : Int32)), .val (.ref u7), .val (.ref b114)] [(.int (p1).toInt8.toInt32), (.int (0 : Int32)), (.ref b114)])) rfl rfl (hb hby at_32)
    have V117 : Arv Z h117 b114 k114 .byte (16 : Int32) [(.int (nar .byte (p1).toInt8.toInt32)), (.int (0 : Int32)), (.int (0 : Int32)), (.int (0 : Int32)), (.int (0 : Int32)), (.int (0 : Int32)), (.int (0 : Int32)), (.int (0 : Int32)), (.int (0 : Int32)), (.int (0 : Int32)), (.int (0 : Int32)), (.int (0 : Int32)), (.int (0 : Int32)), (.int (0 : Int32)), (.int (0 : Int32)), (.int (0 : Int32))] (.int (0 : Int32)) := Arv.set Ar117 qa117 qs117 qn117 qh117 qg117 (fits_nar_byte (p1).toInt8.toInt32) W117 0 rfl (Nat.le_of_ble_eq_true rfl)
    have f118_0 := Nat.le_trans f115_0 (Keep.of_wr W117).1
    have f118_1 := f115_1.wr W117
    have f118_2 := f115_2.wr W117
    have f118_3 := f115_3.other W117 (Or.inl ne_u7_b114)
    have N117 := Fr.snoc X117 N112 g_b114
    refine Wp.back (U' := (T117.setTop (mkF m 33 #[.val (.int p0), .val (.int p1), .val (.int (7 : Int32)), .val (.ref u7), .val (.ref b114)] []))) st117 ?_
    refine Wp.back (U' := (T117.setTop (mkF m 37 #[.val (.int p0), .val (.int p1), .val (.int (7 : Int32)), .val (.ref u7), .val (.ref b114)] [(.ref b114), (.ref b114)]))) (fun t k => XS.aload X117.here hx rfl (hb hby at_33) rfl rfl (XS.aload X117.here hx rfl (hb hby at_35) rfl rfl k)) ?_
    have vq119 := V117
    obtain ⟨cl119, Ar119, -, qs119, qn119, -, -⟩ := vq119
    refine Wp.back (U' := (T117.setTop (mkF m 38 #[.val (.int p0), .val (.int p1), .val (.int (7 : Int32)), .val (.ref u7), .val (.ref b114)] [(.int (16 : Int32)), (.ref b114)]))) (fun t k => X117.arraylength hx (by rw [e117]; exact Ar119.1) (State.isArrayOf_alike hZ.alike Ar119.2.1) (g := (mkF m 37 #[.val (.int p0), .val (.int p1), .val (.int (7 : Int32)), .val (.ref u7), .val (.ref b114)] [(.ref b114), (.ref b114)])) rfl rfl (hb hby at_37) t (by rw [len_of qs119 qn119]; exact k)) ?_
    refine Wp.back (U' := (T117.setTop (mkF m 45 #[.val (.int p0), .val (.int p1), .val (.int (7 : Int32)), .val (.ref u7), .val (.ref b114)] [(.int ((((p1).toUInt32 >>> ((8 : Int32) &&& 31).toUInt32).toInt32)).toInt8.toInt32), (.int (15 : Int32)), (.ref b114)]))) (fun t k => XT.iconstV X117.here hx rfl (1 : Int32) (hb hby at_38) (by decide) (XS.isub X117.here hx rfl (hb hby at_39) rfl (XS.iloadN X117.here hx rfl (hb hby at_40) rfl (XT.bipushV X117.here hx rfl (8 : Int32) (hb hby at_41) (by decide) (XS.iushr X117.here hx rfl (hb hby at_43) rfl (XS.i2b X117.here hx rfl (hb hby at_44) rfl k)))))) ?_
    have vq120 := V117
    obtain ⟨cl120, Ar120, qa120, qs120, qn120, qh120, qg120⟩ := vq120
    have hin120 : ¬ ((15 : Int32) < 0 ∨ cl120.slots.size ≤ ((15 : Int32)).toNatClampNeg) := inb_of qs120 ⟨by decide, by decide⟩
    obtain ⟨T120, h120, X120, e120, W120, st120⟩ := stB X117 hx hZ e117 Ar120 (j := (15 : Int32)) hin120 (g := (mkF m 45 #[.val (.int p0), .val (.int p1), .val (.int (7 : Int32)), .val (.ref u7), .val (.ref b114)] [(.int ((((p1).toUInt32 >>> ((8 : Int32) &&& 31).toUInt32).toInt32)).toInt8.toInt32), (.int (15 : Int32)), (.ref b114)])) rfl rfl (hb hby at_45)
    have V120 : Arv Z h120 b114 k114 .byte (16 : Int32) [(.int (nar .byte (p1).toInt8.toInt32)), (.int (0 : Int32)), (.int (0 : Int32)), (.int (0 : Int32)), (.int (0 : Int32)), (.int (0 : Int32)), (.int (0 : Int32)), (.int (0 : Int32)), (.int (0 : Int32)), (.int (0 : Int32)), (.int (0 : Int32)), (.int (0 : Int32)), (.int (0 : Int32)), (.int (0 : Int32)), (.int (0 : Int32)), (.int (nar .byte ((((p1).toUInt32 >>> ((8 : Int32) &&& 31).toUInt32).toInt32)).toInt8.toInt32))] (.int (0 : Int32)) := Arv.set Ar120 qa120 qs120 qn120 qh120 qg120 (fits_nar_byte ((((p1).toUInt32 >>> ((8 : Int32) &&& 31).toUInt32).toInt32)).toInt8.toInt32) W120 15 rfl (Nat.le_of_ble_eq_true rfl)
    have f121_0 := Nat.le_trans f118_0 (Keep.of_wr W120).1
    have f121_1 := f118_1.wr W120
    have f121_2 := f118_2.wr W120
    have f121_3 := f118_3.other W120 (Or.inl ne_u7_b114)
    have N120 := Fr.snoc X120 N117 g_b114
    refine Wp.back (U' := (T120.setTop (mkF m 46 #[.val (.int p0), .val (.int p1), .val (.int (7 : Int32)), .val (.ref u7), .val (.ref b114)] []))) st120 ?_
    refine Wp.back (U' := (T120.setTop (mkF m 49 #[.val (.int p0), .val (.int p1), .val (.int (7 : Int32)), .val (.ref u7), .val (.ref b114)] [(.ref b114), (.ref u7)]))) (fun t k => XS.aloadN X120.here hx rfl (hb hby at_46) rfl rfl (XS.aload X120.here hx rfl (hb hby at_47) rfl rfl k)) ?_
    obtain ⟨cq122, kq122, q122a, q122b, q122c⟩ := isOf hZ e120 f121_2
    obtain ⟨_, _, ⟨T122, L122, k122, n122⟩, -, X122, ⟨Lc122, hQ122, l122, y122, z122⟩, st122⟩ := X120.virtualBack hx (y := (⟨"com/example/opaq/opaq/EncryptionAlgorithm", "checkKey", "([B)V"⟩ : MethodName)) (z := (⟨"com/example/opaq/opaq/EncryptionAlgorithm", "checkKey", "([B)V"⟩ : MethodName)) hown (mvT hZ (hw _ (List.mem_of_getElem? (i := 12) rfl))) (mvT hZ (hw _ (List.mem_of_getElem? (i := 13) rfl))) (notFace_of_selects (args := #[]) (mvT hZ (hw _ (List.mem_of_getElem? (i := 15) rfl)))) (mvT hZ (hw _ (List.mem_of_getElem? (i := 15) rfl))) (mvT hZ (hw _ (List.mem_of_getElem? (i := 14) rfl))) (by decide) (backOf (W := 0) (rm_ck16 l Z a0 hw [] u7 b114 k114 [(.int (nar .byte (p1).toInt8.toInt32)), (.int (0 : Int32)), (.int (0 : Int32)), (.int (0 : Int32)), (.int (0 : Int32)), (.int (0 : Int32)), (.int (0 : Int32)), (.int (0 : Int32)), (.int (0 : Int32)), (.int (0 : Int32)), (.int (0 : Int32)), (.int (0 : Int32)), (.int (0 : Int32)), (.int (0 : Int32)), (.int (0 : Int32)), (.int (nar .byte ((((p1).toUInt32 >>> ((8 : Int32) &&& 31).toUInt32).toInt32)).toInt8.toInt32))] (.int (0 : Int32)) h120 n0 f121_0 f121_3 V120) hZ (hw _ (List.mem_of_getElem? (i := 16) rfl)) (hw _ (List.mem_of_getElem? (i := 6) rfl)) (by decide) (by decide)) q122a q122c (g := (mkF m 49 #[.val (.int p0), .val (.int p1), .val (.int (7 : Int32)), .val (.ref u7), .val (.ref b114)] [(.ref b114), (.ref u7)])) rfl (by rw [hml]; rfl) (Steps.refl _) (argsL := [(.ref b114)]) (rest := []) (lenOf pd0_2 rfl) rfl (by show 2 * 0 + _ ≤ _; exact Nat.le_of_eq rfl) (hb hby at_49) (fun _ _ => ⟨rfl, e120, (by decide : 1 + 0 ≤ _), (by decide : 16 + 0 ≤ _)⟩)
    dsimp only [Pt.U, Pt.locs, Pt.cells, Pt.slots] at X122 l122 y122 z122 st122 hQ122
    subst l122 y122 z122
    obtain ⟨rfl, N122q, K122⟩ := hQ122
    have f123_0 := Nat.le_trans f121_0 K122.1
    have f123_1 := Sta_keep0 f121_1 K122
    have f123_2 := f121_2.keep K122
    have f123_3 := f121_3.keep K122 nin0
    have f123_4 := V120.keep K122 nin0
    have N122 := Fr.app N120 N122q
    refine Wp.back (U' := (T122.setTop (mkF m 52 #[.val (.int p0), .val (.int p1), .val (.int (7 : Int32)), .val (.ref u7), .val (.ref b114)] []))) (fun t k => st122.trans k) ?_
    refine Wp.back (U' := (T122.setTop (mkF m 53 #[.val (.int p0), .val (.int p1), .val (.int (7 : Int32)), .val (.ref u7), .val (.ref b114)] [(.int (1 : Int32))]))) (fun t k => XT.iconstV X122.here hx rfl (1 : Int32) (hb hby at_52) (by decide) k) ?_
    obtain ⟨fs, hr, hrun, hended, hW, hsame⟩ := X122.leave (v := (some (.int (1 : Int32)))) (fun h => by rw [hret] at h; cases h)
    refine Wp.done (retN X122 hx (t := .boolean) hret (by simp) (hb hby at_53) hr) hrun hended ⟨_, _, rfl, ?_, ⟨_, rfl⟩, hW, hsame.mono (by decide) (by decide)⟩
    show QL n0 _ T122.heap _
    exact ⟨rfl, N122⟩
  · rw [hk9]
    refine Wp.back (U' := (s₁.setTop (mkF m 9 #[.val (.int p0), .val (.int p1), .val (.int (8 : Int32)), .unset, .unset] [(.int (8 : Int32))]))) (fun t k => XS.iloadN X0.here hx rfl (hb hby at_8) rfl k) ?_
    obtain ⟨_, _, ⟨T124, L124, k124, n124⟩, -, X124, ⟨Lc124, hQ124, l124, y124, z124⟩, st124⟩ := Jvm.LawKit.callS X0 hx (y := (⟨"com/example/opaq/opaq/EncryptionAlgorithmCheckKeyPinLaw", "pick", "(I)Lcom/example/opaq/opaq/EncryptionAlgorithm;"⟩ : MethodName)) hown (mvT hZ (hw _ (List.mem_of_getElem? (i := 1) rfl))) (mvT hZ (hw _ (List.mem_of_getElem? (i := 2) rfl))) (mvT hZ (hw _ (List.mem_of_getElem? (i := 3) rfl))) (mvT hZ (hw _ (List.mem_of_getElem? (i := 4) rfl))) (by decide) (backOf (W := 0) (rm_pk8 l Z a0 hw []  u8 h0 n0 Z0 S8) hZ (hw _ (List.mem_of_getElem? (i := 4) rfl)) (hw _ (List.mem_of_getElem? (i := 3) rfl)) (by decide) (by decide)) (g := (mkF m 9 #[.val (.int p0), .val (.int p1), .val (.int (8 : Int32)), .unset, .unset] [(.int (8 : Int32))])) rfl (by rw [hml]; rfl) (argsL := [(.int (8 : Int32))]) (rest := []) (lenOf pd0_0 rfl) rfl (by show 2 * 0 + _ ≤ _; exact Nat.le_of_eq rfl) (hb hby at_9) (fun _ _ => ⟨rfl, e0, (by decide : 0 + 0 ≤ _), (by decide : 0 + 0 ≤ _)⟩)
    dsimp only [Pt.U, Pt.locs, Pt.cells, Pt.slots] at X124 l124 y124 z124 st124 hQ124
    subst l124 y124 z124
    obtain ⟨rfl, N124q, K124⟩ := hQ124
    have f125_0 := Nat.le_trans Z0 K124.1
    have f125_1 := Sta_keep0 S8 K124
    have f125_2 := E8.keep K124
    have f125_3 := L8.keep K124 nin0
    have N124 := Fr.app N0 N124q
    refine Wp.back (U' := (T124.setTop (mkF m 12 #[.val (.int p0), .val (.int p1), .val (.int (8 : Int32)), .unset, .unset] [(.ref u8)]))) st124 ?_
    refine Wp.back (U' := (T124.setTop (mkF m 14 #[.val (.int p0), .val (.int p1), .val (.int (8 : Int32)), .val (.ref u8), .unset] [(.int (8 : Int32))]))) (fun t k => XS.astoreN X124.here hx rfl (hb hby at_12) rfl rfl (l' := #[.val (.int p0), .val (.int p1), .val (.int (8 : Int32)), .val (.ref u8), .unset]) rfl (XS.iloadN X124.here hx rfl (hb hby at_13) rfl k)) ?_
    obtain ⟨_, _, ⟨T126, L126, k126, n126⟩, -, X126, ⟨Lc126, hQ126, l126, y126, z126⟩, st126⟩ := Jvm.LawKit.callS X124 hx (y := (⟨"com/example/opaq/opaq/EncryptionAlgorithmCheckKeyPinLaw", "expectedLength", "(I)I"⟩ : MethodName)) hown (mvT hZ (hw _ (List.mem_of_getElem? (i := 8) rfl))) (mvT hZ (hw _ (List.mem_of_getElem? (i := 9) rfl))) (mvT hZ (hw _ (List.mem_of_getElem? (i := 3) rfl))) (mvT hZ (hw _ (List.mem_of_getElem? (i := 10) rfl))) (by decide) (backOf (W := 0) (rm_el8 l Z a0 hw []   T124.heap n0 f125_0 ) hZ (hw _ (List.mem_of_getElem? (i := 10) rfl)) (hw _ (List.mem_of_getElem? (i := 3) rfl)) (by decide) (by decide)) (g := (mkF m 14 #[.val (.int p0), .val (.int p1), .val (.int (8 : Int32)), .val (.ref u8), .unset] [(.int (8 : Int32))])) rfl (by rw [hml]; rfl) (argsL := [(.int (8 : Int32))]) (rest := []) (lenOf pd0_1 rfl) rfl (by show 2 * 0 + _ ≤ _; exact Nat.le_of_eq rfl) (hb hby at_14) (fun _ _ => ⟨rfl, rfl, (by decide : 0 + 0 ≤ _), (by decide : 0 + 0 ≤ _)⟩)
    dsimp only [Pt.U, Pt.locs, Pt.cells, Pt.slots] at X126 l126 y126 z126 st126 hQ126
    subst l126 y126 z126
    obtain ⟨rfl, N126q, K126⟩ := hQ126
    have f127_0 := Nat.le_trans f125_0 K126.1
    have f127_1 := Sta_keep0 f125_1 K126
    have f127_2 := f125_2.keep K126
    have f127_3 := f125_3.keep K126 nin0
    have N126 := Fr.app N124 N126q
    refine Wp.back (U' := (T126.setTop (mkF m 17 #[.val (.int p0), .val (.int p1), .val (.int (8 : Int32)), .val (.ref u8), .unset] [(.int (24 : Int32))]))) st126 ?_
    obtain ⟨T128, h128, k128, X128, e128, E128, A128, st128⟩ := newP X126 hx hZ (hw _ (List.mem_of_getElem? (i := 11) rfl)) rfl (g := (mkF m 17 #[.val (.int p0), .val (.int p1), .val (.int (8 : Int32)), .val (.ref u8), .unset] [(.int (24 : Int32))])) rfl (hb hby at_17) rfl (by decide) (cap := 24) (by decide) (by decide) (by decide) (by decide)
    obtain ⟨b128, g128⟩ : ∃ z, z = T126.heap.size := ⟨_, rfl⟩
    rw [← g128] at A128 st128
    have ne_u8_b128 : u8 ≠ b128 := Nat.ne_of_lt (Nat.lt_of_lt_of_le f127_2.lt (Nat.le_of_eq g128.symm))
    have g_b128 : n0 ≤ b128 := Nat.le_trans f127_0 (Nat.le_of_eq g128.symm)
    have f129_0 := Nat.le_trans f127_0 E128.1
    have f129_1 := f127_1.ext E128
    have f129_2 := f127_2.ext E128
    have f129_3 := f127_3.ext E128
    have V128 : Arv Z h128 b128 k128 .byte (24 : Int32) [(.int (0 : Int32)), (.int (0 : Int32)), (.int (0 : Int32)), (.int (0 : Int32)), (.int (0 : Int32)), (.int (0 : Int32)), (.int (0 : Int32)), (.int (0 : Int32)), (.int (0 : Int32)), (.int (0 : Int32)), (.int (0 : Int32)), (.int (0 : Int32)), (.int (0 : Int32)), (.int (0 : Int32)), (.int (0 : Int32)), (.int (0 : Int32)), (.int (0 : Int32)), (.int (0 : Int32)), (.int (0 : Int32)), (.int (0 : Int32)), (.int (0 : Int32)), (.int (0 : Int32)), (.int (0 : Int32)), (.int (0 : Int32))] (.int (0 : Int32)) := (Arv.new A128 (by decide)).pad (pad_rep [] (.int (0 : Int32)) 24)
    refine Wp.back (U' := (T128.setTop (mkF m 19 #[.val (.int p0), .val (.int p1), .val (.int (8 : Int32)), .val (.ref u8), .unset] [(.ref b128)]))) st128 ?_
    refine Wp.back (U' := (T128.setTop (mkF m 23 #[.val (.int p0), .val (.int p1), .val (.int (8 : Int32)), .val (.ref u8), .val (.ref b128)] [(.ref b128)]))) (fun t k => XS.astore X128.here hx rfl (hb hby at_19) rfl rfl (l' := #[.val (.int p0), .val (.int p1), .val (.int (8 : Int32)), .val (.ref u8), .val (.ref b128)]) rfl (XS.aload X128.here hx rfl (hb hby at_21) rfl rfl k)) ?_
    have vq130 := V128
    obtain ⟨cl130, Ar130, -, qs130, qn130, -, -⟩ := vq130
    refine Wp.back (U' := (T128.setTop (mkF m 24 #[.val (.int p0), .val (.int p1), .val (.int (8 : Int32)), .val (.ref u8), .val (.ref b128)] [(.int (24 : Int32))]))) (fun t k => X128.arraylength hx (by rw [e128]; exact Ar130.1) (State.isArrayOf_alike hZ.alike Ar130.2.1) (g := (mkF m 23 #[.val (.int p0), .val (.int p1), .val (.int (8 : Int32)), .val (.ref u8), .val (.ref b128)] [(.ref b128)])) rfl rfl (hb hby at_23) t (by rw [len_of qs130 qn130]; exact k)) ?_
    refine Wp.back (U' := (T128.setTop (mkF m 32 #[.val (.int p0), .val (.int p1), .val (.int (8 : Int32)), .val (.ref u8), .val (.ref b128)] [(.int (p1).toInt8.toInt32), (.int (0 : Int32)), (.ref b128)]))) (fun t k => XS.ifNo X128.here hx rfl (hb hby at_24) rfl ((if0 _ _).trans (tlt (by decide)).2.2.2) (XS.aload X128.here hx rfl (hb hby at_27) rfl rfl (XT.iconstV X128.here hx rfl (0 : Int32) (hb hby at_29) (by decide) (XS.iloadN X128.here hx rfl (hb hby at_30) rfl (XS.i2b X128.here hx rfl (hb hby at_31) rfl k))))) ?_
    have vq131 := V128
    obtain ⟨cl131, Ar131, qa131, qs131, qn131, qh131, qg131⟩ := vq131
    have hin131 : ¬ ((0 : Int32) < 0 ∨ cl131.slots.size ≤ ((0 : Int32)).toNatClampNeg) := inb_of qs131 ⟨by decide, by decide⟩
    obtain ⟨T131, h131, X131, e131, W131, st131⟩ := stB X128 hx hZ e128 Ar131 (j := (0 : Int32)) hin131 (g := (mkF m 32 #[.val (.int p0), .val (.int p1), .val (.int (8 : Int32)), .val (.ref u8), .val (.ref b128)] [(.int (p1).toInt8.toInt32), (.int (0 : Int32)), (.ref b128)])) rfl rfl (hb hby at_32)
    have V131 : Arv Z h131 b128 k128 .byte (24 : Int32) [(.int (nar .byte (p1).toInt8.toInt32)), (.int (0 : Int32)), (.int (0 : Int32)), (.int (0 : Int32)), (.int (0 : Int32)), (.int (0 : Int32)), (.int (0 : Int32)), (.int (0 : Int32)), (.int (0 : Int32)), (.int (0 : Int32)), (.int (0 : Int32)), (.int (0 : Int32)), (.int (0 : Int32)), (.int (0 : Int32)), (.int (0 : Int32)), (.int (0 : Int32)), (.int (0 : Int32)), (.int (0 : Int32)), (.int (0 : Int32)), (.int (0 : Int32)), (.int (0 : Int32)), (.int (0 : Int32)), (.int (0 : Int32)), (.int (0 : Int32))] (.int (0 : Int32)) := Arv.set Ar131 qa131 qs131 qn131 qh131 qg131 (fits_nar_byte (p1).toInt8.toInt32) W131 0 rfl (Nat.le_of_ble_eq_true rfl)
    have f132_0 := Nat.le_trans f129_0 (Keep.of_wr W131).1
    have f132_1 := f129_1.wr W131
    have f132_2 := f129_2.wr W131
    have f132_3 := f129_3.other W131 (Or.inl ne_u8_b128)
    have N131 := Fr.snoc X131 N126 g_b128
    refine Wp.back (U' := (T131.setTop (mkF m 33 #[.val (.int p0), .val (.int p1), .val (.int (8 : Int32)), .val (.ref u8), .val (.ref b128)] []))) st131 ?_
    refine Wp.back (U' := (T131.setTop (mkF m 37 #[.val (.int p0), .val (.int p1), .val (.int (8 : Int32)), .val (.ref u8), .val (.ref b128)] [(.ref b128), (.ref b128)]))) (fun t k => XS.aload X131.here hx rfl (hb hby at_33) rfl rfl (XS.aload X131.here hx rfl (hb hby at_35) rfl rfl k)) ?_
    have vq133 := V131
    obtain ⟨cl133, Ar133, -, qs133, qn133, -, -⟩ := vq133
    refine Wp.back (U' := (T131.setTop (mkF m 38 #[.val (.int p0), .val (.int p1), .val (.int (8 : Int32)), .val (.ref u8), .val (.ref b128)] [(.int (24 : Int32)), (.ref b128)]))) (fun t k => X131.arraylength hx (by rw [e131]; exact Ar133.1) (State.isArrayOf_alike hZ.alike Ar133.2.1) (g := (mkF m 37 #[.val (.int p0), .val (.int p1), .val (.int (8 : Int32)), .val (.ref u8), .val (.ref b128)] [(.ref b128), (.ref b128)])) rfl rfl (hb hby at_37) t (by rw [len_of qs133 qn133]; exact k)) ?_
    refine Wp.back (U' := (T131.setTop (mkF m 45 #[.val (.int p0), .val (.int p1), .val (.int (8 : Int32)), .val (.ref u8), .val (.ref b128)] [(.int ((((p1).toUInt32 >>> ((8 : Int32) &&& 31).toUInt32).toInt32)).toInt8.toInt32), (.int (23 : Int32)), (.ref b128)]))) (fun t k => XT.iconstV X131.here hx rfl (1 : Int32) (hb hby at_38) (by decide) (XS.isub X131.here hx rfl (hb hby at_39) rfl (XS.iloadN X131.here hx rfl (hb hby at_40) rfl (XT.bipushV X131.here hx rfl (8 : Int32) (hb hby at_41) (by decide) (XS.iushr X131.here hx rfl (hb hby at_43) rfl (XS.i2b X131.here hx rfl (hb hby at_44) rfl k)))))) ?_
    have vq134 := V131
    obtain ⟨cl134, Ar134, qa134, qs134, qn134, qh134, qg134⟩ := vq134
    have hin134 : ¬ ((23 : Int32) < 0 ∨ cl134.slots.size ≤ ((23 : Int32)).toNatClampNeg) := inb_of qs134 ⟨by decide, by decide⟩
    obtain ⟨T134, h134, X134, e134, W134, st134⟩ := stB X131 hx hZ e131 Ar134 (j := (23 : Int32)) hin134 (g := (mkF m 45 #[.val (.int p0), .val (.int p1), .val (.int (8 : Int32)), .val (.ref u8), .val (.ref b128)] [(.int ((((p1).toUInt32 >>> ((8 : Int32) &&& 31).toUInt32).toInt32)).toInt8.toInt32), (.int (23 : Int32)), (.ref b128)])) rfl rfl (hb hby at_45)
    have V134 : Arv Z h134 b128 k128 .byte (24 : Int32) [(.int (nar .byte (p1).toInt8.toInt32)), (.int (0 : Int32)), (.int (0 : Int32)), (.int (0 : Int32)), (.int (0 : Int32)), (.int (0 : Int32)), (.int (0 : Int32)), (.int (0 : Int32)), (.int (0 : Int32)), (.int (0 : Int32)), (.int (0 : Int32)), (.int (0 : Int32)), (.int (0 : Int32)), (.int (0 : Int32)), (.int (0 : Int32)), (.int (0 : Int32)), (.int (0 : Int32)), (.int (0 : Int32)), (.int (0 : Int32)), (.int (0 : Int32)), (.int (0 : Int32)), (.int (0 : Int32)), (.int (0 : Int32)), (.int (nar .byte ((((p1).toUInt32 >>> ((8 : Int32) &&& 31).toUInt32).toInt32)).toInt8.toInt32))] (.int (0 : Int32)) := Arv.set Ar134 qa134 qs134 qn134 qh134 qg134 (fits_nar_byte ((((p1).toUInt32 >>> ((8 : Int32) &&& 31).toUInt32).toInt32)).toInt8.toInt32) W134 23 rfl (Nat.le_of_ble_eq_true rfl)
    have f135_0 := Nat.le_trans f132_0 (Keep.of_wr W134).1
    have f135_1 := f132_1.wr W134
    have f135_2 := f132_2.wr W134
    have f135_3 := f132_3.other W134 (Or.inl ne_u8_b128)
    have N134 := Fr.snoc X134 N131 g_b128
    refine Wp.back (U' := (T134.setTop (mkF m 46 #[.val (.int p0), .val (.int p1), .val (.int (8 : Int32)), .val (.ref u8), .val (.ref b128)] []))) st134 ?_
    refine Wp.back (U' := (T134.setTop (mkF m 49 #[.val (.int p0), .val (.int p1), .val (.int (8 : Int32)), .val (.ref u8), .val (.ref b128)] [(.ref b128), (.ref u8)]))) (fun t k => XS.aloadN X134.here hx rfl (hb hby at_46) rfl rfl (XS.aload X134.here hx rfl (hb hby at_47) rfl rfl k)) ?_
    obtain ⟨cq136, kq136, q136a, q136b, q136c⟩ := isOf hZ e134 f135_2
    obtain ⟨_, _, ⟨T136, L136, k136, n136⟩, -, X136, ⟨Lc136, hQ136, l136, y136, z136⟩, st136⟩ := X134.virtualBack hx (y := (⟨"com/example/opaq/opaq/EncryptionAlgorithm", "checkKey", "([B)V"⟩ : MethodName)) (z := (⟨"com/example/opaq/opaq/EncryptionAlgorithm", "checkKey", "([B)V"⟩ : MethodName)) hown (mvT hZ (hw _ (List.mem_of_getElem? (i := 12) rfl))) (mvT hZ (hw _ (List.mem_of_getElem? (i := 13) rfl))) (notFace_of_selects (args := #[]) (mvT hZ (hw _ (List.mem_of_getElem? (i := 15) rfl)))) (mvT hZ (hw _ (List.mem_of_getElem? (i := 15) rfl))) (mvT hZ (hw _ (List.mem_of_getElem? (i := 14) rfl))) (by decide) (backOf (W := 0) (rm_ck24 l Z a0 hw [] u8 b128 k128 [(.int (nar .byte (p1).toInt8.toInt32)), (.int (0 : Int32)), (.int (0 : Int32)), (.int (0 : Int32)), (.int (0 : Int32)), (.int (0 : Int32)), (.int (0 : Int32)), (.int (0 : Int32)), (.int (0 : Int32)), (.int (0 : Int32)), (.int (0 : Int32)), (.int (0 : Int32)), (.int (0 : Int32)), (.int (0 : Int32)), (.int (0 : Int32)), (.int (0 : Int32)), (.int (0 : Int32)), (.int (0 : Int32)), (.int (0 : Int32)), (.int (0 : Int32)), (.int (0 : Int32)), (.int (0 : Int32)), (.int (0 : Int32)), (.int (nar .byte ((((p1).toUInt32 >>> ((8 : Int32) &&& 31).toUInt32).toInt32)).toInt8.toInt32))] (.int (0 : Int32)) h134 n0 f135_0 f135_3 V134) hZ (hw _ (List.mem_of_getElem? (i := 16) rfl)) (hw _ (List.mem_of_getElem? (i := 6) rfl)) (by decide) (by decide)) q136a q136c (g := (mkF m 49 #[.val (.int p0), .val (.int p1), .val (.int (8 : Int32)), .val (.ref u8), .val (.ref b128)] [(.ref b128), (.ref u8)])) rfl (by rw [hml]; rfl) (Steps.refl _) (argsL := [(.ref b128)]) (rest := []) (lenOf pd0_2 rfl) rfl (by show 2 * 0 + _ ≤ _; exact Nat.le_of_eq rfl) (hb hby at_49) (fun _ _ => ⟨rfl, e134, (by decide : 1 + 0 ≤ _), (by decide : 24 + 0 ≤ _)⟩)
    dsimp only [Pt.U, Pt.locs, Pt.cells, Pt.slots] at X136 l136 y136 z136 st136 hQ136
    subst l136 y136 z136
    obtain ⟨rfl, N136q, K136⟩ := hQ136
    have f137_0 := Nat.le_trans f135_0 K136.1
    have f137_1 := Sta_keep0 f135_1 K136
    have f137_2 := f135_2.keep K136
    have f137_3 := f135_3.keep K136 nin0
    have f137_4 := V134.keep K136 nin0
    have N136 := Fr.app N134 N136q
    refine Wp.back (U' := (T136.setTop (mkF m 52 #[.val (.int p0), .val (.int p1), .val (.int (8 : Int32)), .val (.ref u8), .val (.ref b128)] []))) (fun t k => st136.trans k) ?_
    refine Wp.back (U' := (T136.setTop (mkF m 53 #[.val (.int p0), .val (.int p1), .val (.int (8 : Int32)), .val (.ref u8), .val (.ref b128)] [(.int (1 : Int32))]))) (fun t k => XT.iconstV X136.here hx rfl (1 : Int32) (hb hby at_52) (by decide) k) ?_
    obtain ⟨fs, hr, hrun, hended, hW, hsame⟩ := X136.leave (v := (some (.int (1 : Int32)))) (fun h => by rw [hret] at h; cases h)
    refine Wp.done (retN X136 hx (t := .boolean) hret (by simp) (hb hby at_53) hr) hrun hended ⟨_, _, rfl, ?_, ⟨_, rfl⟩, hW, hsame.mono (by decide) (by decide)⟩
    show QL n0 _ T136.heap _
    exact ⟨rfl, N136⟩
  · rw [hk10]
    refine Wp.back (U' := (s₁.setTop (mkF m 9 #[.val (.int p0), .val (.int p1), .val (.int (9 : Int32)), .unset, .unset] [(.int (9 : Int32))]))) (fun t k => XS.iloadN X0.here hx rfl (hb hby at_8) rfl k) ?_
    obtain ⟨_, _, ⟨T138, L138, k138, n138⟩, -, X138, ⟨Lc138, hQ138, l138, y138, z138⟩, st138⟩ := Jvm.LawKit.callS X0 hx (y := (⟨"com/example/opaq/opaq/EncryptionAlgorithmCheckKeyPinLaw", "pick", "(I)Lcom/example/opaq/opaq/EncryptionAlgorithm;"⟩ : MethodName)) hown (mvT hZ (hw _ (List.mem_of_getElem? (i := 1) rfl))) (mvT hZ (hw _ (List.mem_of_getElem? (i := 2) rfl))) (mvT hZ (hw _ (List.mem_of_getElem? (i := 3) rfl))) (mvT hZ (hw _ (List.mem_of_getElem? (i := 4) rfl))) (by decide) (backOf (W := 0) (rm_pk9 l Z a0 hw []  u9 h0 n0 Z0 S9) hZ (hw _ (List.mem_of_getElem? (i := 4) rfl)) (hw _ (List.mem_of_getElem? (i := 3) rfl)) (by decide) (by decide)) (g := (mkF m 9 #[.val (.int p0), .val (.int p1), .val (.int (9 : Int32)), .unset, .unset] [(.int (9 : Int32))])) rfl (by rw [hml]; rfl) (argsL := [(.int (9 : Int32))]) (rest := []) (lenOf pd0_0 rfl) rfl (by show 2 * 0 + _ ≤ _; exact Nat.le_of_eq rfl) (hb hby at_9) (fun _ _ => ⟨rfl, e0, (by decide : 0 + 0 ≤ _), (by decide : 0 + 0 ≤ _)⟩)
    dsimp only [Pt.U, Pt.locs, Pt.cells, Pt.slots] at X138 l138 y138 z138 st138 hQ138
    subst l138 y138 z138
    obtain ⟨rfl, N138q, K138⟩ := hQ138
    have f139_0 := Nat.le_trans Z0 K138.1
    have f139_1 := Sta_keep0 S9 K138
    have f139_2 := E9.keep K138
    have f139_3 := L9.keep K138 nin0
    have N138 := Fr.app N0 N138q
    refine Wp.back (U' := (T138.setTop (mkF m 12 #[.val (.int p0), .val (.int p1), .val (.int (9 : Int32)), .unset, .unset] [(.ref u9)]))) st138 ?_
    refine Wp.back (U' := (T138.setTop (mkF m 14 #[.val (.int p0), .val (.int p1), .val (.int (9 : Int32)), .val (.ref u9), .unset] [(.int (9 : Int32))]))) (fun t k => XS.astoreN X138.here hx rfl (hb hby at_12) rfl rfl (l' := #[.val (.int p0), .val (.int p1), .val (.int (9 : Int32)), .val (.ref u9), .unset]) rfl (XS.iloadN X138.here hx rfl (hb hby at_13) rfl k)) ?_
    obtain ⟨_, _, ⟨T140, L140, k140, n140⟩, -, X140, ⟨Lc140, hQ140, l140, y140, z140⟩, st140⟩ := Jvm.LawKit.callS X138 hx (y := (⟨"com/example/opaq/opaq/EncryptionAlgorithmCheckKeyPinLaw", "expectedLength", "(I)I"⟩ : MethodName)) hown (mvT hZ (hw _ (List.mem_of_getElem? (i := 8) rfl))) (mvT hZ (hw _ (List.mem_of_getElem? (i := 9) rfl))) (mvT hZ (hw _ (List.mem_of_getElem? (i := 3) rfl))) (mvT hZ (hw _ (List.mem_of_getElem? (i := 10) rfl))) (by decide) (backOf (W := 0) (rm_el9 l Z a0 hw []   T138.heap n0 f139_0 ) hZ (hw _ (List.mem_of_getElem? (i := 10) rfl)) (hw _ (List.mem_of_getElem? (i := 3) rfl)) (by decide) (by decide)) (g := (mkF m 14 #[.val (.int p0), .val (.int p1), .val (.int (9 : Int32)), .val (.ref u9), .unset] [(.int (9 : Int32))])) rfl (by rw [hml]; rfl) (argsL := [(.int (9 : Int32))]) (rest := []) (lenOf pd0_1 rfl) rfl (by show 2 * 0 + _ ≤ _; exact Nat.le_of_eq rfl) (hb hby at_14) (fun _ _ => ⟨rfl, rfl, (by decide : 0 + 0 ≤ _), (by decide : 0 + 0 ≤ _)⟩)
    dsimp only [Pt.U, Pt.locs, Pt.cells, Pt.slots] at X140 l140 y140 z140 st140 hQ140
    subst l140 y140 z140
    obtain ⟨rfl, N140q, K140⟩ := hQ140
    have f141_0 := Nat.le_trans f139_0 K140.1
    have f141_1 := Sta_keep0 f139_1 K140
    have f141_2 := f139_2.keep K140
    have f141_3 := f139_3.keep K140 nin0
    have N140 := Fr.app N138 N140q
    refine Wp.back (U' := (T140.setTop (mkF m 17 #[.val (.int p0), .val (.int p1), .val (.int (9 : Int32)), .val (.ref u9), .unset] [(.int (32 : Int32))]))) st140 ?_
    obtain ⟨T142, h142, k142, X142, e142, E142, A142, st142⟩ := newP X140 hx hZ (hw _ (List.mem_of_getElem? (i := 11) rfl)) rfl (g := (mkF m 17 #[.val (.int p0), .val (.int p1), .val (.int (9 : Int32)), .val (.ref u9), .unset] [(.int (32 : Int32))])) rfl (hb hby at_17) rfl (by decide) (cap := 32) (by decide) (by decide) (by decide) (by decide)
    obtain ⟨b142, g142⟩ : ∃ z, z = T140.heap.size := ⟨_, rfl⟩
    rw [← g142] at A142 st142
    have ne_u9_b142 : u9 ≠ b142 := Nat.ne_of_lt (Nat.lt_of_lt_of_le f141_2.lt (Nat.le_of_eq g142.symm))
    have g_b142 : n0 ≤ b142 := Nat.le_trans f141_0 (Nat.le_of_eq g142.symm)
    have f143_0 := Nat.le_trans f141_0 E142.1
    have f143_1 := f141_1.ext E142
    have f143_2 := f141_2.ext E142
    have f143_3 := f141_3.ext E142
    have V142 : Arv Z h142 b142 k142 .byte (32 : Int32) [(.int (0 : Int32)), (.int (0 : Int32)), (.int (0 : Int32)), (.int (0 : Int32)), (.int (0 : Int32)), (.int (0 : Int32)), (.int (0 : Int32)), (.int (0 : Int32)), (.int (0 : Int32)), (.int (0 : Int32)), (.int (0 : Int32)), (.int (0 : Int32)), (.int (0 : Int32)), (.int (0 : Int32)), (.int (0 : Int32)), (.int (0 : Int32)), (.int (0 : Int32)), (.int (0 : Int32)), (.int (0 : Int32)), (.int (0 : Int32)), (.int (0 : Int32)), (.int (0 : Int32)), (.int (0 : Int32)), (.int (0 : Int32)), (.int (0 : Int32)), (.int (0 : Int32)), (.int (0 : Int32)), (.int (0 : Int32)), (.int (0 : Int32)), (.int (0 : Int32)), (.int (0 : Int32)), (.int (0 : Int32))] (.int (0 : Int32)) := (Arv.new A142 (by decide)).pad (pad_rep [] (.int (0 : Int32)) 32)
    refine Wp.back (U' := (T142.setTop (mkF m 19 #[.val (.int p0), .val (.int p1), .val (.int (9 : Int32)), .val (.ref u9), .unset] [(.ref b142)]))) st142 ?_
    refine Wp.back (U' := (T142.setTop (mkF m 23 #[.val (.int p0), .val (.int p1), .val (.int (9 : Int32)), .val (.ref u9), .val (.ref b142)] [(.ref b142)]))) (fun t k => XS.astore X142.here hx rfl (hb hby at_19) rfl rfl (l' := #[.val (.int p0), .val (.int p1), .val (.int (9 : Int32)), .val (.ref u9), .val (.ref b142)]) rfl (XS.aload X142.here hx rfl (hb hby at_21) rfl rfl k)) ?_
    have vq144 := V142
    obtain ⟨cl144, Ar144, -, qs144, qn144, -, -⟩ := vq144
    refine Wp.back (U' := (T142.setTop (mkF m 24 #[.val (.int p0), .val (.int p1), .val (.int (9 : Int32)), .val (.ref u9), .val (.ref b142)] [(.int (32 : Int32))]))) (fun t k => X142.arraylength hx (by rw [e142]; exact Ar144.1) (State.isArrayOf_alike hZ.alike Ar144.2.1) (g := (mkF m 23 #[.val (.int p0), .val (.int p1), .val (.int (9 : Int32)), .val (.ref u9), .val (.ref b142)] [(.ref b142)])) rfl rfl (hb hby at_23) t (by rw [len_of qs144 qn144]; exact k)) ?_
    refine Wp.back (U' := (T142.setTop (mkF m 32 #[.val (.int p0), .val (.int p1), .val (.int (9 : Int32)), .val (.ref u9), .val (.ref b142)] [(.int (p1).toInt8.toInt32), (.int (0 : Int32)), (.ref b142)]))) (fun t k => XS.ifNo X142.here hx rfl (hb hby at_24) rfl ((if0 _ _).trans (tlt (by decide)).2.2.2) (XS.aload X142.here hx rfl (hb hby at_27) rfl rfl (XT.iconstV X142.here hx rfl (0 : Int32) (hb hby at_29) (by decide) (XS.iloadN X142.here hx rfl (hb hby at_30) rfl (XS.i2b X142.here hx rfl (hb hby at_31) rfl k))))) ?_
    have vq145 := V142
    obtain ⟨cl145, Ar145, qa145, qs145, qn145, qh145, qg145⟩ := vq145
    have hin145 : ¬ ((0 : Int32) < 0 ∨ cl145.slots.size ≤ ((0 : Int32)).toNatClampNeg) := inb_of qs145 ⟨by decide, by decide⟩
    obtain ⟨T145, h145, X145, e145, W145, st145⟩ := stB X142 hx hZ e142 Ar145 (j := (0 : Int32)) hin145 (g := (mkF m 32 #[.val (.int p0), .val (.int p1), .val (.int (9 : Int32)), .val (.ref u9), .val (.ref b142)] [(.int (p1).toInt8.toInt32), (.int (0 : Int32)), (.ref b142)])) rfl rfl (hb hby at_32)
    have V145 : Arv Z h145 b142 k142 .byte (32 : Int32) [(.int (nar .byte (p1).toInt8.toInt32)), (.int (0 : Int32)), (.int (0 : Int32)), (.int (0 : Int32)), (.int (0 : Int32)), (.int (0 : Int32)), (.int (0 : Int32)), (.int (0 : Int32)), (.int (0 : Int32)), (.int (0 : Int32)), (.int (0 : Int32)), (.int (0 : Int32)), (.int (0 : Int32)), (.int (0 : Int32)), (.int (0 : Int32)), (.int (0 : Int32)), (.int (0 : Int32)), (.int (0 : Int32)), (.int (0 : Int32)), (.int (0 : Int32)), (.int (0 : Int32)), (.int (0 : Int32)), (.int (0 : Int32)), (.int (0 : Int32)), (.int (0 : Int32)), (.int (0 : Int32)), (.int (0 : Int32)), (.int (0 : Int32)), (.int (0 : Int32)), (.int (0 : Int32)), (.int (0 : Int32)), (.int (0 : Int32))] (.int (0 : Int32)) := Arv.set Ar145 qa145 qs145 qn145 qh145 qg145 (fits_nar_byte (p1).toInt8.toInt32) W145 0 rfl (Nat.le_of_ble_eq_true rfl)
    have f146_0 := Nat.le_trans f143_0 (Keep.of_wr W145).1
    have f146_1 := f143_1.wr W145
    have f146_2 := f143_2.wr W145
    have f146_3 := f143_3.other W145 (Or.inl ne_u9_b142)
    have N145 := Fr.snoc X145 N140 g_b142
    refine Wp.back (U' := (T145.setTop (mkF m 33 #[.val (.int p0), .val (.int p1), .val (.int (9 : Int32)), .val (.ref u9), .val (.ref b142)] []))) st145 ?_
    refine Wp.back (U' := (T145.setTop (mkF m 37 #[.val (.int p0), .val (.int p1), .val (.int (9 : Int32)), .val (.ref u9), .val (.ref b142)] [(.ref b142), (.ref b142)]))) (fun t k => XS.aload X145.here hx rfl (hb hby at_33) rfl rfl (XS.aload X145.here hx rfl (hb hby at_35) rfl rfl k)) ?_
    have vq147 := V145
    obtain ⟨cl147, Ar147, -, qs147, qn147, -, -⟩ := vq147
    refine Wp.back (U' := (T145.setTop (mkF m 38 #[.val (.int p0), .val (.int p1), .val (.int (9 : Int32)), .val (.ref u9), .val (.ref b142)] [(.int (32 : Int32)), (.ref b142)]))) (fun t k => X145.arraylength hx (by rw [e145]; exact Ar147.1) (State.isArrayOf_alike hZ.alike Ar147.2.1) (g := (mkF m 37 #[.val (.int p0), .val (.int p1), .val (.int (9 : Int32)), .val (.ref u9), .val (.ref b142)] [(.ref b142), (.ref b142)])) rfl rfl (hb hby at_37) t (by rw [len_of qs147 qn147]; exact k)) ?_
    refine Wp.back (U' := (T145.setTop (mkF m 45 #[.val (.int p0), .val (.int p1), .val (.int (9 : Int32)), .val (.ref u9), .val (.ref b142)] [(.int ((((p1).toUInt32 >>> ((8 : Int32) &&& 31).toUInt32).toInt32)).toInt8.toInt32), (.int (31 : Int32)), (.ref b142)]))) (fun t k => XT.iconstV X145.here hx rfl (1 : Int32) (hb hby at_38) (by decide) (XS.isub X145.here hx rfl (hb hby at_39) rfl (XS.iloadN X145.here hx rfl (hb hby at_40) rfl (XT.bipushV X145.here hx rfl (8 : Int32) (hb hby at_41) (by decide) (XS.iushr X145.here hx rfl (hb hby at_43) rfl (XS.i2b X145.here hx rfl (hb hby at_44) rfl k)))))) ?_
    have vq148 := V145
    obtain ⟨cl148, Ar148, qa148, qs148, qn148, qh148, qg148⟩ := vq148
    have hin148 : ¬ ((31 : Int32) < 0 ∨ cl148.slots.size ≤ ((31 : Int32)).toNatClampNeg) := inb_of qs148 ⟨by decide, by decide⟩
    obtain ⟨T148, h148, X148, e148, W148, st148⟩ := stB X145 hx hZ e145 Ar148 (j := (31 : Int32)) hin148 (g := (mkF m 45 #[.val (.int p0), .val (.int p1), .val (.int (9 : Int32)), .val (.ref u9), .val (.ref b142)] [(.int ((((p1).toUInt32 >>> ((8 : Int32) &&& 31).toUInt32).toInt32)).toInt8.toInt32), (.int (31 : Int32)), (.ref b142)])) rfl rfl (hb hby at_45)
    have V148 : Arv Z h148 b142 k142 .byte (32 : Int32) [(.int (nar .byte (p1).toInt8.toInt32)), (.int (0 : Int32)), (.int (0 : Int32)), (.int (0 : Int32)), (.int (0 : Int32)), (.int (0 : Int32)), (.int (0 : Int32)), (.int (0 : Int32)), (.int (0 : Int32)), (.int (0 : Int32)), (.int (0 : Int32)), (.int (0 : Int32)), (.int (0 : Int32)), (.int (0 : Int32)), (.int (0 : Int32)), (.int (0 : Int32)), (.int (0 : Int32)), (.int (0 : Int32)), (.int (0 : Int32)), (.int (0 : Int32)), (.int (0 : Int32)), (.int (0 : Int32)), (.int (0 : Int32)), (.int (0 : Int32)), (.int (0 : Int32)), (.int (0 : Int32)), (.int (0 : Int32)), (.int (0 : Int32)), (.int (0 : Int32)), (.int (0 : Int32)), (.int (0 : Int32)), (.int (nar .byte ((((p1).toUInt32 >>> ((8 : Int32) &&& 31).toUInt32).toInt32)).toInt8.toInt32))] (.int (0 : Int32)) := Arv.set Ar148 qa148 qs148 qn148 qh148 qg148 (fits_nar_byte ((((p1).toUInt32 >>> ((8 : Int32) &&& 31).toUInt32).toInt32)).toInt8.toInt32) W148 31 rfl (Nat.le_of_ble_eq_true rfl)
    have f149_0 := Nat.le_trans f146_0 (Keep.of_wr W148).1
    have f149_1 := f146_1.wr W148
    have f149_2 := f146_2.wr W148
    have f149_3 := f146_3.other W148 (Or.inl ne_u9_b142)
    have N148 := Fr.snoc X148 N145 g_b142
    refine Wp.back (U' := (T148.setTop (mkF m 46 #[.val (.int p0), .val (.int p1), .val (.int (9 : Int32)), .val (.ref u9), .val (.ref b142)] []))) st148 ?_
    refine Wp.back (U' := (T148.setTop (mkF m 49 #[.val (.int p0), .val (.int p1), .val (.int (9 : Int32)), .val (.ref u9), .val (.ref b142)] [(.ref b142), (.ref u9)]))) (fun t k => XS.aloadN X148.here hx rfl (hb hby at_46) rfl rfl (XS.aload X148.here hx rfl (hb hby at_47) rfl rfl k)) ?_
    obtain ⟨cq150, kq150, q150a, q150b, q150c⟩ := isOf hZ e148 f149_2
    obtain ⟨_, _, ⟨T150, L150, k150, n150⟩, -, X150, ⟨Lc150, hQ150, l150, y150, z150⟩, st150⟩ := X148.virtualBack hx (y := (⟨"com/example/opaq/opaq/EncryptionAlgorithm", "checkKey", "([B)V"⟩ : MethodName)) (z := (⟨"com/example/opaq/opaq/EncryptionAlgorithm", "checkKey", "([B)V"⟩ : MethodName)) hown (mvT hZ (hw _ (List.mem_of_getElem? (i := 12) rfl))) (mvT hZ (hw _ (List.mem_of_getElem? (i := 13) rfl))) (notFace_of_selects (args := #[]) (mvT hZ (hw _ (List.mem_of_getElem? (i := 15) rfl)))) (mvT hZ (hw _ (List.mem_of_getElem? (i := 15) rfl))) (mvT hZ (hw _ (List.mem_of_getElem? (i := 14) rfl))) (by decide) (backOf (W := 0) (rm_ck32 l Z a0 hw [] u9 b142 k142 [(.int (nar .byte (p1).toInt8.toInt32)), (.int (0 : Int32)), (.int (0 : Int32)), (.int (0 : Int32)), (.int (0 : Int32)), (.int (0 : Int32)), (.int (0 : Int32)), (.int (0 : Int32)), (.int (0 : Int32)), (.int (0 : Int32)), (.int (0 : Int32)), (.int (0 : Int32)), (.int (0 : Int32)), (.int (0 : Int32)), (.int (0 : Int32)), (.int (0 : Int32)), (.int (0 : Int32)), (.int (0 : Int32)), (.int (0 : Int32)), (.int (0 : Int32)), (.int (0 : Int32)), (.int (0 : Int32)), (.int (0 : Int32)), (.int (0 : Int32)), (.int (0 : Int32)), (.int (0 : Int32)), (.int (0 : Int32)), (.int (0 : Int32)), (.int (0 : Int32)), (.int (0 : Int32)), (.int (0 : Int32)), (.int (nar .byte ((((p1).toUInt32 >>> ((8 : Int32) &&& 31).toUInt32).toInt32)).toInt8.toInt32))] (.int (0 : Int32)) h148 n0 f149_0 f149_3 V148) hZ (hw _ (List.mem_of_getElem? (i := 16) rfl)) (hw _ (List.mem_of_getElem? (i := 6) rfl)) (by decide) (by decide)) q150a q150c (g := (mkF m 49 #[.val (.int p0), .val (.int p1), .val (.int (9 : Int32)), .val (.ref u9), .val (.ref b142)] [(.ref b142), (.ref u9)])) rfl (by rw [hml]; rfl) (Steps.refl _) (argsL := [(.ref b142)]) (rest := []) (lenOf pd0_2 rfl) rfl (by show 2 * 0 + _ ≤ _; exact Nat.le_of_eq rfl) (hb hby at_49) (fun _ _ => ⟨rfl, e148, (by decide : 1 + 0 ≤ _), (by decide : 32 + 0 ≤ _)⟩)
    dsimp only [Pt.U, Pt.locs, Pt.cells, Pt.slots] at X150 l150 y150 z150 st150 hQ150
    subst l150 y150 z150
    obtain ⟨rfl, N150q, K150⟩ := hQ150
    have f151_0 := Nat.le_trans f149_0 K150.1
    have f151_1 := Sta_keep0 f149_1 K150
    have f151_2 := f149_2.keep K150
    have f151_3 := f149_3.keep K150 nin0
    have f151_4 := V148.keep K150 nin0
    have N150 := Fr.app N148 N150q
    refine Wp.back (U' := (T150.setTop (mkF m 52 #[.val (.int p0), .val (.int p1), .val (.int (9 : Int32)), .val (.ref u9), .val (.ref b142)] []))) (fun t k => st150.trans k) ?_
    refine Wp.back (U' := (T150.setTop (mkF m 53 #[.val (.int p0), .val (.int p1), .val (.int (9 : Int32)), .val (.ref u9), .val (.ref b142)] [(.int (1 : Int32))]))) (fun t k => XT.iconstV X150.here hx rfl (1 : Int32) (hb hby at_52) (by decide) k) ?_
    obtain ⟨fs, hr, hrun, hended, hW, hsame⟩ := X150.leave (v := (some (.int (1 : Int32)))) (fun h => by rw [hret] at h; cases h)
    refine Wp.done (retN X150 hx (t := .boolean) hret (by simp) (hb hby at_53) hr) hrun hended ⟨_, _, rfl, ?_, ⟨_, rfl⟩, hW, hsame.mono (by decide) (by decide)⟩
    show QL n0 _ T150.heap _
    exact ⟨rfl, N150⟩
  · rw [hk11]
    refine Wp.back (U' := (s₁.setTop (mkF m 9 #[.val (.int p0), .val (.int p1), .val (.int (10 : Int32)), .unset, .unset] [(.int (10 : Int32))]))) (fun t k => XS.iloadN X0.here hx rfl (hb hby at_8) rfl k) ?_
    obtain ⟨_, _, ⟨T152, L152, k152, n152⟩, -, X152, ⟨Lc152, hQ152, l152, y152, z152⟩, st152⟩ := Jvm.LawKit.callS X0 hx (y := (⟨"com/example/opaq/opaq/EncryptionAlgorithmCheckKeyPinLaw", "pick", "(I)Lcom/example/opaq/opaq/EncryptionAlgorithm;"⟩ : MethodName)) hown (mvT hZ (hw _ (List.mem_of_getElem? (i := 1) rfl))) (mvT hZ (hw _ (List.mem_of_getElem? (i := 2) rfl))) (mvT hZ (hw _ (List.mem_of_getElem? (i := 3) rfl))) (mvT hZ (hw _ (List.mem_of_getElem? (i := 4) rfl))) (by decide) (backOf (W := 0) (rm_pk10 l Z a0 hw []  u10 h0 n0 Z0 S10) hZ (hw _ (List.mem_of_getElem? (i := 4) rfl)) (hw _ (List.mem_of_getElem? (i := 3) rfl)) (by decide) (by decide)) (g := (mkF m 9 #[.val (.int p0), .val (.int p1), .val (.int (10 : Int32)), .unset, .unset] [(.int (10 : Int32))])) rfl (by rw [hml]; rfl) (argsL := [(.int (10 : Int32))]) (rest := []) (lenOf pd0_0 rfl) rfl (by show 2 * 0 + _ ≤ _; exact Nat.le_of_eq rfl) (hb hby at_9) (fun _ _ => ⟨rfl, e0, (by decide : 0 + 0 ≤ _), (by decide : 0 + 0 ≤ _)⟩)
    dsimp only [Pt.U, Pt.locs, Pt.cells, Pt.slots] at X152 l152 y152 z152 st152 hQ152
    subst l152 y152 z152
    obtain ⟨rfl, N152q, K152⟩ := hQ152
    have f153_0 := Nat.le_trans Z0 K152.1
    have f153_1 := Sta_keep0 S10 K152
    have f153_2 := E10.keep K152
    have f153_3 := L10.keep K152 nin0
    have N152 := Fr.app N0 N152q
    refine Wp.back (U' := (T152.setTop (mkF m 12 #[.val (.int p0), .val (.int p1), .val (.int (10 : Int32)), .unset, .unset] [(.ref u10)]))) st152 ?_
    refine Wp.back (U' := (T152.setTop (mkF m 14 #[.val (.int p0), .val (.int p1), .val (.int (10 : Int32)), .val (.ref u10), .unset] [(.int (10 : Int32))]))) (fun t k => XS.astoreN X152.here hx rfl (hb hby at_12) rfl rfl (l' := #[.val (.int p0), .val (.int p1), .val (.int (10 : Int32)), .val (.ref u10), .unset]) rfl (XS.iloadN X152.here hx rfl (hb hby at_13) rfl k)) ?_
    obtain ⟨_, _, ⟨T154, L154, k154, n154⟩, -, X154, ⟨Lc154, hQ154, l154, y154, z154⟩, st154⟩ := Jvm.LawKit.callS X152 hx (y := (⟨"com/example/opaq/opaq/EncryptionAlgorithmCheckKeyPinLaw", "expectedLength", "(I)I"⟩ : MethodName)) hown (mvT hZ (hw _ (List.mem_of_getElem? (i := 8) rfl))) (mvT hZ (hw _ (List.mem_of_getElem? (i := 9) rfl))) (mvT hZ (hw _ (List.mem_of_getElem? (i := 3) rfl))) (mvT hZ (hw _ (List.mem_of_getElem? (i := 10) rfl))) (by decide) (backOf (W := 0) (rm_el10 l Z a0 hw []   T152.heap n0 f153_0 ) hZ (hw _ (List.mem_of_getElem? (i := 10) rfl)) (hw _ (List.mem_of_getElem? (i := 3) rfl)) (by decide) (by decide)) (g := (mkF m 14 #[.val (.int p0), .val (.int p1), .val (.int (10 : Int32)), .val (.ref u10), .unset] [(.int (10 : Int32))])) rfl (by rw [hml]; rfl) (argsL := [(.int (10 : Int32))]) (rest := []) (lenOf pd0_1 rfl) rfl (by show 2 * 0 + _ ≤ _; exact Nat.le_of_eq rfl) (hb hby at_14) (fun _ _ => ⟨rfl, rfl, (by decide : 0 + 0 ≤ _), (by decide : 0 + 0 ≤ _)⟩)
    dsimp only [Pt.U, Pt.locs, Pt.cells, Pt.slots] at X154 l154 y154 z154 st154 hQ154
    subst l154 y154 z154
    obtain ⟨rfl, N154q, K154⟩ := hQ154
    have f155_0 := Nat.le_trans f153_0 K154.1
    have f155_1 := Sta_keep0 f153_1 K154
    have f155_2 := f153_2.keep K154
    have f155_3 := f153_3.keep K154 nin0
    have N154 := Fr.app N152 N154q
    refine Wp.back (U' := (T154.setTop (mkF m 17 #[.val (.int p0), .val (.int p1), .val (.int (10 : Int32)), .val (.ref u10), .unset] [(.int (24 : Int32))]))) st154 ?_
    obtain ⟨T156, h156, k156, X156, e156, E156, A156, st156⟩ := newP X154 hx hZ (hw _ (List.mem_of_getElem? (i := 11) rfl)) rfl (g := (mkF m 17 #[.val (.int p0), .val (.int p1), .val (.int (10 : Int32)), .val (.ref u10), .unset] [(.int (24 : Int32))])) rfl (hb hby at_17) rfl (by decide) (cap := 24) (by decide) (by decide) (by decide) (by decide)
    obtain ⟨b156, g156⟩ : ∃ z, z = T154.heap.size := ⟨_, rfl⟩
    rw [← g156] at A156 st156
    have ne_u10_b156 : u10 ≠ b156 := Nat.ne_of_lt (Nat.lt_of_lt_of_le f155_2.lt (Nat.le_of_eq g156.symm))
    have g_b156 : n0 ≤ b156 := Nat.le_trans f155_0 (Nat.le_of_eq g156.symm)
    have f157_0 := Nat.le_trans f155_0 E156.1
    have f157_1 := f155_1.ext E156
    have f157_2 := f155_2.ext E156
    have f157_3 := f155_3.ext E156
    have V156 : Arv Z h156 b156 k156 .byte (24 : Int32) [(.int (0 : Int32)), (.int (0 : Int32)), (.int (0 : Int32)), (.int (0 : Int32)), (.int (0 : Int32)), (.int (0 : Int32)), (.int (0 : Int32)), (.int (0 : Int32)), (.int (0 : Int32)), (.int (0 : Int32)), (.int (0 : Int32)), (.int (0 : Int32)), (.int (0 : Int32)), (.int (0 : Int32)), (.int (0 : Int32)), (.int (0 : Int32)), (.int (0 : Int32)), (.int (0 : Int32)), (.int (0 : Int32)), (.int (0 : Int32)), (.int (0 : Int32)), (.int (0 : Int32)), (.int (0 : Int32)), (.int (0 : Int32))] (.int (0 : Int32)) := (Arv.new A156 (by decide)).pad (pad_rep [] (.int (0 : Int32)) 24)
    refine Wp.back (U' := (T156.setTop (mkF m 19 #[.val (.int p0), .val (.int p1), .val (.int (10 : Int32)), .val (.ref u10), .unset] [(.ref b156)]))) st156 ?_
    refine Wp.back (U' := (T156.setTop (mkF m 23 #[.val (.int p0), .val (.int p1), .val (.int (10 : Int32)), .val (.ref u10), .val (.ref b156)] [(.ref b156)]))) (fun t k => XS.astore X156.here hx rfl (hb hby at_19) rfl rfl (l' := #[.val (.int p0), .val (.int p1), .val (.int (10 : Int32)), .val (.ref u10), .val (.ref b156)]) rfl (XS.aload X156.here hx rfl (hb hby at_21) rfl rfl k)) ?_
    have vq158 := V156
    obtain ⟨cl158, Ar158, -, qs158, qn158, -, -⟩ := vq158
    refine Wp.back (U' := (T156.setTop (mkF m 24 #[.val (.int p0), .val (.int p1), .val (.int (10 : Int32)), .val (.ref u10), .val (.ref b156)] [(.int (24 : Int32))]))) (fun t k => X156.arraylength hx (by rw [e156]; exact Ar158.1) (State.isArrayOf_alike hZ.alike Ar158.2.1) (g := (mkF m 23 #[.val (.int p0), .val (.int p1), .val (.int (10 : Int32)), .val (.ref u10), .val (.ref b156)] [(.ref b156)])) rfl rfl (hb hby at_23) t (by rw [len_of qs158 qn158]; exact k)) ?_
    refine Wp.back (U' := (T156.setTop (mkF m 32 #[.val (.int p0), .val (.int p1), .val (.int (10 : Int32)), .val (.ref u10), .val (.ref b156)] [(.int (p1).toInt8.toInt32), (.int (0 : Int32)), (.ref b156)]))) (fun t k => XS.ifNo X156.here hx rfl (hb hby at_24) rfl ((if0 _ _).trans (tlt (by decide)).2.2.2) (XS.aload X156.here hx rfl (hb hby at_27) rfl rfl (XT.iconstV X156.here hx rfl (0 : Int32) (hb hby at_29) (by decide) (XS.iloadN X156.here hx rfl (hb hby at_30) rfl (XS.i2b X156.here hx rfl (hb hby at_31) rfl k))))) ?_
    have vq159 := V156
    obtain ⟨cl159, Ar159, qa159, qs159, qn159, qh159, qg159⟩ := vq159
    have hin159 : ¬ ((0 : Int32) < 0 ∨ cl159.slots.size ≤ ((0 : Int32)).toNatClampNeg) := inb_of qs159 ⟨by decide, by decide⟩
    obtain ⟨T159, h159, X159, e159, W159, st159⟩ := stB X156 hx hZ e156 Ar159 (j := (0 : Int32)) hin159 (g := (mkF m 32 #[.val (.int p0), .val (.int p1), .val (.int (10 : Int32)), .val (.ref u10), .val (.ref b156)] [(.int (p1).toInt8.toInt32), (.int (0 : Int32)), (.ref b156)])) rfl rfl (hb hby at_32)
    have V159 : Arv Z h159 b156 k156 .byte (24 : Int32) [(.int (nar .byte (p1).toInt8.toInt32)), (.int (0 : Int32)), (.int (0 : Int32)), (.int (0 : Int32)), (.int (0 : Int32)), (.int (0 : Int32)), (.int (0 : Int32)), (.int (0 : Int32)), (.int (0 : Int32)), (.int (0 : Int32)), (.int (0 : Int32)), (.int (0 : Int32)), (.int (0 : Int32)), (.int (0 : Int32)), (.int (0 : Int32)), (.int (0 : Int32)), (.int (0 : Int32)), (.int (0 : Int32)), (.int (0 : Int32)), (.int (0 : Int32)), (.int (0 : Int32)), (.int (0 : Int32)), (.int (0 : Int32)), (.int (0 : Int32))] (.int (0 : Int32)) := Arv.set Ar159 qa159 qs159 qn159 qh159 qg159 (fits_nar_byte (p1).toInt8.toInt32) W159 0 rfl (Nat.le_of_ble_eq_true rfl)
    have f160_0 := Nat.le_trans f157_0 (Keep.of_wr W159).1
    have f160_1 := f157_1.wr W159
    have f160_2 := f157_2.wr W159
    have f160_3 := f157_3.other W159 (Or.inl ne_u10_b156)
    have N159 := Fr.snoc X159 N154 g_b156
    refine Wp.back (U' := (T159.setTop (mkF m 33 #[.val (.int p0), .val (.int p1), .val (.int (10 : Int32)), .val (.ref u10), .val (.ref b156)] []))) st159 ?_
    refine Wp.back (U' := (T159.setTop (mkF m 37 #[.val (.int p0), .val (.int p1), .val (.int (10 : Int32)), .val (.ref u10), .val (.ref b156)] [(.ref b156), (.ref b156)]))) (fun t k => XS.aload X159.here hx rfl (hb hby at_33) rfl rfl (XS.aload X159.here hx rfl (hb hby at_35) rfl rfl k)) ?_
    have vq161 := V159
    obtain ⟨cl161, Ar161, -, qs161, qn161, -, -⟩ := vq161
    refine Wp.back (U' := (T159.setTop (mkF m 38 #[.val (.int p0), .val (.int p1), .val (.int (10 : Int32)), .val (.ref u10), .val (.ref b156)] [(.int (24 : Int32)), (.ref b156)]))) (fun t k => X159.arraylength hx (by rw [e159]; exact Ar161.1) (State.isArrayOf_alike hZ.alike Ar161.2.1) (g := (mkF m 37 #[.val (.int p0), .val (.int p1), .val (.int (10 : Int32)), .val (.ref u10), .val (.ref b156)] [(.ref b156), (.ref b156)])) rfl rfl (hb hby at_37) t (by rw [len_of qs161 qn161]; exact k)) ?_
    refine Wp.back (U' := (T159.setTop (mkF m 45 #[.val (.int p0), .val (.int p1), .val (.int (10 : Int32)), .val (.ref u10), .val (.ref b156)] [(.int ((((p1).toUInt32 >>> ((8 : Int32) &&& 31).toUInt32).toInt32)).toInt8.toInt32), (.int (23 : Int32)), (.ref b156)]))) (fun t k => XT.iconstV X159.here hx rfl (1 : Int32) (hb hby at_38) (by decide) (XS.isub X159.here hx rfl (hb hby at_39) rfl (XS.iloadN X159.here hx rfl (hb hby at_40) rfl (XT.bipushV X159.here hx rfl (8 : Int32) (hb hby at_41) (by decide) (XS.iushr X159.here hx rfl (hb hby at_43) rfl (XS.i2b X159.here hx rfl (hb hby at_44) rfl k)))))) ?_
    have vq162 := V159
    obtain ⟨cl162, Ar162, qa162, qs162, qn162, qh162, qg162⟩ := vq162
    have hin162 : ¬ ((23 : Int32) < 0 ∨ cl162.slots.size ≤ ((23 : Int32)).toNatClampNeg) := inb_of qs162 ⟨by decide, by decide⟩
    obtain ⟨T162, h162, X162, e162, W162, st162⟩ := stB X159 hx hZ e159 Ar162 (j := (23 : Int32)) hin162 (g := (mkF m 45 #[.val (.int p0), .val (.int p1), .val (.int (10 : Int32)), .val (.ref u10), .val (.ref b156)] [(.int ((((p1).toUInt32 >>> ((8 : Int32) &&& 31).toUInt32).toInt32)).toInt8.toInt32), (.int (23 : Int32)), (.ref b156)])) rfl rfl (hb hby at_45)
    have V162 : Arv Z h162 b156 k156 .byte (24 : Int32) [(.int (nar .byte (p1).toInt8.toInt32)), (.int (0 : Int32)), (.int (0 : Int32)), (.int (0 : Int32)), (.int (0 : Int32)), (.int (0 : Int32)), (.int (0 : Int32)), (.int (0 : Int32)), (.int (0 : Int32)), (.int (0 : Int32)), (.int (0 : Int32)), (.int (0 : Int32)), (.int (0 : Int32)), (.int (0 : Int32)), (.int (0 : Int32)), (.int (0 : Int32)), (.int (0 : Int32)), (.int (0 : Int32)), (.int (0 : Int32)), (.int (0 : Int32)), (.int (0 : Int32)), (.int (0 : Int32)), (.int (0 : Int32)), (.int (nar .byte ((((p1).toUInt32 >>> ((8 : Int32) &&& 31).toUInt32).toInt32)).toInt8.toInt32))] (.int (0 : Int32)) := Arv.set Ar162 qa162 qs162 qn162 qh162 qg162 (fits_nar_byte ((((p1).toUInt32 >>> ((8 : Int32) &&& 31).toUInt32).toInt32)).toInt8.toInt32) W162 23 rfl (Nat.le_of_ble_eq_true rfl)
    have f163_0 := Nat.le_trans f160_0 (Keep.of_wr W162).1
    have f163_1 := f160_1.wr W162
    have f163_2 := f160_2.wr W162
    have f163_3 := f160_3.other W162 (Or.inl ne_u10_b156)
    have N162 := Fr.snoc X162 N159 g_b156
    refine Wp.back (U' := (T162.setTop (mkF m 46 #[.val (.int p0), .val (.int p1), .val (.int (10 : Int32)), .val (.ref u10), .val (.ref b156)] []))) st162 ?_
    refine Wp.back (U' := (T162.setTop (mkF m 49 #[.val (.int p0), .val (.int p1), .val (.int (10 : Int32)), .val (.ref u10), .val (.ref b156)] [(.ref b156), (.ref u10)]))) (fun t k => XS.aloadN X162.here hx rfl (hb hby at_46) rfl rfl (XS.aload X162.here hx rfl (hb hby at_47) rfl rfl k)) ?_
    obtain ⟨cq164, kq164, q164a, q164b, q164c⟩ := isOf hZ e162 f163_2
    obtain ⟨_, _, ⟨T164, L164, k164, n164⟩, -, X164, ⟨Lc164, hQ164, l164, y164, z164⟩, st164⟩ := X162.virtualBack hx (y := (⟨"com/example/opaq/opaq/EncryptionAlgorithm", "checkKey", "([B)V"⟩ : MethodName)) (z := (⟨"com/example/opaq/opaq/EncryptionAlgorithm", "checkKey", "([B)V"⟩ : MethodName)) hown (mvT hZ (hw _ (List.mem_of_getElem? (i := 12) rfl))) (mvT hZ (hw _ (List.mem_of_getElem? (i := 13) rfl))) (notFace_of_selects (args := #[]) (mvT hZ (hw _ (List.mem_of_getElem? (i := 15) rfl)))) (mvT hZ (hw _ (List.mem_of_getElem? (i := 15) rfl))) (mvT hZ (hw _ (List.mem_of_getElem? (i := 14) rfl))) (by decide) (backOf (W := 0) (rm_ck24 l Z a0 hw [] u10 b156 k156 [(.int (nar .byte (p1).toInt8.toInt32)), (.int (0 : Int32)), (.int (0 : Int32)), (.int (0 : Int32)), (.int (0 : Int32)), (.int (0 : Int32)), (.int (0 : Int32)), (.int (0 : Int32)), (.int (0 : Int32)), (.int (0 : Int32)), (.int (0 : Int32)), (.int (0 : Int32)), (.int (0 : Int32)), (.int (0 : Int32)), (.int (0 : Int32)), (.int (0 : Int32)), (.int (0 : Int32)), (.int (0 : Int32)), (.int (0 : Int32)), (.int (0 : Int32)), (.int (0 : Int32)), (.int (0 : Int32)), (.int (0 : Int32)), (.int (nar .byte ((((p1).toUInt32 >>> ((8 : Int32) &&& 31).toUInt32).toInt32)).toInt8.toInt32))] (.int (0 : Int32)) h162 n0 f163_0 f163_3 V162) hZ (hw _ (List.mem_of_getElem? (i := 16) rfl)) (hw _ (List.mem_of_getElem? (i := 6) rfl)) (by decide) (by decide)) q164a q164c (g := (mkF m 49 #[.val (.int p0), .val (.int p1), .val (.int (10 : Int32)), .val (.ref u10), .val (.ref b156)] [(.ref b156), (.ref u10)])) rfl (by rw [hml]; rfl) (Steps.refl _) (argsL := [(.ref b156)]) (rest := []) (lenOf pd0_2 rfl) rfl (by show 2 * 0 + _ ≤ _; exact Nat.le_of_eq rfl) (hb hby at_49) (fun _ _ => ⟨rfl, e162, (by decide : 1 + 0 ≤ _), (by decide : 24 + 0 ≤ _)⟩)
    dsimp only [Pt.U, Pt.locs, Pt.cells, Pt.slots] at X164 l164 y164 z164 st164 hQ164
    subst l164 y164 z164
    obtain ⟨rfl, N164q, K164⟩ := hQ164
    have f165_0 := Nat.le_trans f163_0 K164.1
    have f165_1 := Sta_keep0 f163_1 K164
    have f165_2 := f163_2.keep K164
    have f165_3 := f163_3.keep K164 nin0
    have f165_4 := V162.keep K164 nin0
    have N164 := Fr.app N162 N164q
    refine Wp.back (U' := (T164.setTop (mkF m 52 #[.val (.int p0), .val (.int p1), .val (.int (10 : Int32)), .val (.ref u10), .val (.ref b156)] []))) (fun t k => st164.trans k) ?_
    refine Wp.back (U' := (T164.setTop (mkF m 53 #[.val (.int p0), .val (.int p1), .val (.int (10 : Int32)), .val (.ref u10), .val (.ref b156)] [(.int (1 : Int32))]))) (fun t k => XT.iconstV X164.here hx rfl (1 : Int32) (hb hby at_52) (by decide) k) ?_
    obtain ⟨fs, hr, hrun, hended, hW, hsame⟩ := X164.leave (v := (some (.int (1 : Int32)))) (fun h => by rw [hret] at h; cases h)
    refine Wp.done (retN X164 hx (t := .boolean) hret (by simp) (hb hby at_53) hr) hrun hended ⟨_, _, rfl, ?_, ⟨_, rfl⟩, hW, hsame.mono (by decide) (by decide)⟩
    show QL n0 _ T164.heap _
    exact ⟨rfl, N164⟩
set_option maxRecDepth 65536 in
set_option maxHeartbeats 40000000 in
theorem comes_1 {Post : Tables → Env → Array Value → State → Outcome → State → Prop} (hpost : ∀ tb e args s v u, (limb_1_1.after args s (.returned v) u = true ∧ limb_1_2.after args s (.returned v) u = true ∧ True) → FrameEnd s (.returned v) u (Jvm.fieldLocs frame_1_writes args s ++ Jvm.arrayLocs frame_1_arrays args s ++ Jvm.staticLocs frame_1_statics s) 16 128 → Post tb e args s (.returned v) u) :
    ArmFor flags0 classFile x code maxLocals ret World_1 tables_1 room_1 Calls_1 rest_1 Pre_1 Post := by
  intro l hfl _ _ p e ha hc hk s m args below hf hA hF happ hP
  obtain ⟨hcalls, hrest, hpre⟩ := hP
  obtain ⟨-, -, -, hnamed, -, -, -, hat⟩ := (Spec.applies_iff hf).mp happ
  obtain ⟨hg, hn⟩ := and_e (Cond.before_iff.mp (show (Jvm.Cond.and given_1 narrow_1).before args s = true from hpre))
  obtain ⟨hg1, hg2⟩ := and_e hg
  obtain ⟨hg21, hg22⟩ := and_e hg2
  obtain ⟨hn1, hn2⟩ := and_e hn
  obtain ⟨hn21, hn22⟩ := and_e hn2
  obtain ⟨hn221, hn222⟩ := and_e hn22
  obtain ⟨hn2221, hn2222⟩ := and_e hn222
  obtain ⟨hn22221, hn22222⟩ := and_e hn2222
  obtain ⟨hn222221, hn222222⟩ := and_e hn22222
  obtain ⟨hn2222221, hn2222222⟩ := and_e hn222222
  obtain ⟨hn22222221, hn22222222⟩ := and_e hn2222222
  obtain ⟨hn222222221, hn222222222⟩ := and_e hn22222222
  obtain ⟨hn2222222221, hn2222222222⟩ := and_e hn222222222
  obtain ⟨hn22222222221, hn22222222222⟩ := and_e hn2222222222
  obtain ⟨hn222222222221, hn222222222222⟩ := and_e hn22222222222
  obtain ⟨hn2222222222221, hn2222222222222⟩ := and_e hn222222222222
  obtain ⟨hn22222222222221, hn22222222222222⟩ := and_e hn2222222222222
  obtain ⟨hn222222222222221, hn222222222222222⟩ := and_e hn22222222222222
  obtain ⟨hn2222222222222221, hn2222222222222222⟩ := and_e hn222222222222222
  obtain ⟨hn22222222222222221, hn22222222222222222⟩ := and_e hn2222222222222222
  obtain ⟨hn222222222222222221, hn222222222222222222⟩ := and_e hn22222222222222222
  obtain ⟨hn2222222222222222221, hn2222222222222222222⟩ := and_e hn222222222222222222
  obtain ⟨hn22222222222222222221, hn22222222222222222222⟩ := and_e hn2222222222222222222
  obtain ⟨hn222222222222222222221, hn222222222222222222222⟩ := and_e hn22222222222222222222
  obtain ⟨w0, w1, rfl⟩ : ∃ w0 w1 : Value, args = #[w0, w1] := by
    have hs : args.size = 2 := by simpa [Cond.value, given_1] using hg1
    obtain ⟨L⟩ := args
    match L, hs with
    | [w0, w1], _ => exact ⟨w0, w1, rfl⟩
  have hw := fun d (hd : d ∈ tables_1) => atoms_spec (ws := Jvm.Cond.code x code maxLocals ret :: tables_1) hat d (List.mem_cons_of_mem _ hd)
  have hfit : Fit s := fun {y c} hc i hi => by
    obtain ⟨ha, rfl⟩ := Array.getElem?_eq_some_iff.mp hc
    have q := List.all_eq_true.mp ((Array.all_eq_true_iff_forall_mem.mp hF) _ (Array.getElem_mem ha)) i (List.mem_range.mpr hi)
    simpa [Array.getElem?_eq_getElem hi] using q
  obtain ⟨i0, ei0⟩ := is_v hg21
  obtain rfl : w0 = (.int i0) := Option.some.inj ei0
  obtain ⟨i1, ei1⟩ := is_v hg22
  obtain rfl : w1 = (.int i1) := Option.some.inj ei1
  obtain ⟨u0, ev0⟩ := exa_v hn1
  have S0 := Sta.start ev0 (Or.inr ⟨(hw _ (List.mem_of_getElem? (i := 6) rfl)), (hw _ (List.mem_of_getElem? (i := 7) rfl))⟩)
  have E0 := Exa.start ev0 hn1
  have L0 := own_fld ev0 hn21
  obtain ⟨u1, ev1⟩ := exa_v hn2222222222221
  have S1 := Sta.start ev1 (Or.inr ⟨(hw _ (List.mem_of_getElem? (i := 6) rfl)), (hw _ (List.mem_of_getElem? (i := 30) rfl))⟩)
  have E1 := Exa.start ev1 hn2222222222221
  have L1 := own_fld ev1 hn22222222222221
  obtain ⟨u2, ev2⟩ := exa_v hn222222222222221
  have S2 := Sta.start ev2 (Or.inr ⟨(hw _ (List.mem_of_getElem? (i := 6) rfl)), (hw _ (List.mem_of_getElem? (i := 32) rfl))⟩)
  have E2 := Exa.start ev2 hn222222222222221
  have L2 := own_fld ev2 hn2222222222222221
  obtain ⟨u3, ev3⟩ := exa_v hn221
  have S3 := Sta.start ev3 (Or.inr ⟨(hw _ (List.mem_of_getElem? (i := 6) rfl)), (hw _ (List.mem_of_getElem? (i := 20) rfl))⟩)
  have E3 := Exa.start ev3 hn221
  have L3 := own_fld ev3 hn2221
  obtain ⟨u4, ev4⟩ := exa_v hn222222222222222222221
  have S4 := Sta.start ev4 (Or.inr ⟨(hw _ (List.mem_of_getElem? (i := 6) rfl)), (hw _ (List.mem_of_getElem? (i := 38) rfl))⟩)
  have E4 := Exa.start ev4 hn222222222222222222221
  have L4 := own_fld ev4 hn222222222222222222222
  obtain ⟨u5, ev5⟩ := exa_v hn2222221
  have S5 := Sta.start ev5 (Or.inr ⟨(hw _ (List.mem_of_getElem? (i := 6) rfl)), (hw _ (List.mem_of_getElem? (i := 24) rfl))⟩)
  have E5 := Exa.start ev5 hn2222221
  have L5 := own_fld ev5 hn22222221
  obtain ⟨u6, ev6⟩ := exa_v hn222222221
  have S6 := Sta.start ev6 (Or.inr ⟨(hw _ (List.mem_of_getElem? (i := 6) rfl)), (hw _ (List.mem_of_getElem? (i := 26) rfl))⟩)
  have E6 := Exa.start ev6 hn222222221
  have L6 := own_fld ev6 hn2222222221
  obtain ⟨u7, ev7⟩ := exa_v hn2222222222222222221
  have S7 := Sta.start ev7 (Or.inr ⟨(hw _ (List.mem_of_getElem? (i := 6) rfl)), (hw _ (List.mem_of_getElem? (i := 36) rfl))⟩)
  have E7 := Exa.start ev7 hn2222222222222222221
  have L7 := own_fld ev7 hn22222222222222222221
  obtain ⟨u8, ev8⟩ := exa_v hn22222222221
  have S8 := Sta.start ev8 (Or.inr ⟨(hw _ (List.mem_of_getElem? (i := 6) rfl)), (hw _ (List.mem_of_getElem? (i := 28) rfl))⟩)
  have E8 := Exa.start ev8 hn22222222221
  have L8 := own_fld ev8 hn222222222221
  obtain ⟨u9, ev9⟩ := exa_v hn22221
  have S9 := Sta.start ev9 (Or.inr ⟨(hw _ (List.mem_of_getElem? (i := 6) rfl)), (hw _ (List.mem_of_getElem? (i := 22) rfl))⟩)
  have E9 := Exa.start ev9 hn22221
  have L9 := own_fld ev9 hn222221
  obtain ⟨u10, ev10⟩ := exa_v hn22222222222222221
  have S10 := Sta.start ev10 (Or.inr ⟨(hw _ (List.mem_of_getElem? (i := 6) rfl)), (hw _ (List.mem_of_getElem? (i := 34) rfl))⟩)
  have E10 := Exa.start ev10 hn22222222222222221
  have L10 := own_fld ev10 hn222222222222222221
  obtain ⟨n, o, h1, h2, h3, _, L, rfl, ⟨rfl, N⟩, hq⟩ := rm_law l s _ hw tables_1 i0 i1 u0 u1 u2 u3 u4 u5 u6 u7 u8 u9 u10 s.heap s.heap.size (Nat.le_refl _) S0 E0 L0 S1 E1 L1 S2 E2 L2 S3 E3 L3 S4 E4 L4 S5 E5 L5 S6 E6 L6 S7 E7 L7 S8 E8 L8 S9 E9 L9 S10 E10 L10 p e ha hc hk s m _ below hf ((Spec.applies_iff_loose hf).mp happ).1 ⟨rfl, State.Warmed39.refl s, rfl⟩ trivial
  refine ⟨n, _, h1, h2, h3, hpost _ _ _ _ _ _ ⟨Cond.after_iff.mpr rfl, Cond.after_iff.mpr (eq_i res_at (Term.int_eval (1)) rfl), trivial⟩ ⟨hq.1, hq.2.1, (hq.2.2.sift fun y hy => Or.inr (N y hy)).mono (by decide) (by decide)⟩⟩
theorem main_1_1 : Claimed_1_1 := comes_1 fun _ _ _ _ _ _ h hF => ⟨h.1, hF⟩
theorem main_1_2 : Claimed_1_2 := comes_1 fun _ _ _ _ _ _ h hF => ⟨h.2.1, hF⟩
end Jvm.Pilot.@@N@@
namespace Jvm.Pilot.@@N@@
open Jvm Jvm.ClassFile Sem Op Lib Jvm.Free Jvm.Stand Jvm.Pilot.@@N@@.Jvm.D
/-! MADE BY PROGRAM (witnessworld.py) out of the Statement's table words and the real class files: 12 classes; the members and pool entries that the words name. The judged class is class 1, her method 3. -/
namespace start1
open Jvm.ClassFile
def u (s : String) : CpInfo := .utf8 (stringToUtf16 s)
/-- a pool by its gaps: so many unusable entries, then the entry; so many at the end -/
def gap : Nat → List CpInfo → List CpInfo
  | 0, r => r
  | n + 1, r => .unusable :: gap n r
def poolList (es : List (Nat × CpInfo)) (last : Nat) : List CpInfo := es.foldr (fun e r => gap e.1 (e.2 :: r)) (gap last [])
def pool (es : List (Nat × CpInfo)) (last : Nat) : Array CpInfo := ⟨poolList es last⟩
def fileOf (pool : Array CpInfo) (this : Nat) (attrs : Array Attribute := #[]) (ms : Array MethodInfo := #[]) (fl : Nat := 33) (sup : Nat := 0) (ifs : Array Nat := #[]) (fds : Array FieldInfo := #[]) : ClassFile where
  minorVersion := 0
  majorVersion := 65
  constantPool := pool
  accessFlags := fl
  thisClass := this
  superClass := sup
  interfaces := ifs
  fields := fds
  methods := ms
  attributes := attrs
def plain (name : String) (sup : Option ClassId) : Class where
  name := name
  kind := .ordinary
  loader := none
  accessFlags := 33
  super := sup
  interfaces := #[]
  cf := none
  fields := #[]
  methods := #[]
  instanceTypes := #[]
  staticTypes := #[]
  resolved := #[]
  callSites := []
  init := .initialized
  statics := none
  mirror := none

def pool0 : Array CpInfo := pool [(5, u "<init>"), (0, u "()V"), (1, .class_ 10), (1, u "java/lang/Object")] 113

def k0m0 : Method := { name := "<init>", desc := "()V", sig := { parameters := [], returnType := none }, accessFlags := 1, code := none }
/-- java/lang/Object -/
def k0 : Class := { plain "java/lang/Object" none with
  accessFlags := 33
  interfaces := #[]
  cf := some (fileOf pool0 8 #[] #[{ accessFlags := 1, nameIndex := 5, descriptorIndex := 6, attributes := #[] }] 33 0 #[] #[])
  fields := #[]
  methods := #[k0m0]
  instanceTypes := #[]
  staticTypes := #[]
  resolved := Array.replicate 124 none
  statics := none }

def pool1 : Array CpInfo := pool [(2, .class_ 4), (1, u "java/lang/Object"), (0, u "<init>"), (0, u "()V"), (0, .fieldref 8 9), (0, .class_ 10), (0, .nameAndType 11 12), (0, u "com/example/opaq/opaq/EncryptionAlgorithm"), (0, u "TRIPLEDES_CBC"), (0, u "Lcom/example/opaq/opaq/EncryptionAlgorithm;"), (0, .fieldref 8 14), (0, .nameAndType 15 12), (0, u "AES128_CBC"), (0, .fieldref 8 17), (0, .nameAndType 18 12), (0, u "AES192_CBC"), (0, .fieldref 8 20), (0, .nameAndType 21 12), (0, u "AES256_CBC"), (0, .fieldref 8 23), (0, .nameAndType 24 12), (0, u "AES128_GCM"), (0, .fieldref 8 26), (0, .nameAndType 27 12), (0, u "AES192_GCM"), (0, .fieldref 8 29), (0, .nameAndType 30 12), (0, u "AES256_GCM"), (0, .fieldref 8 32), (0, .nameAndType 33 12), (0, u "KW_AES128"), (0, .fieldref 8 35), (0, .nameAndType 36 12), (0, u "KW_AES192"), (0, .fieldref 8 38), (0, .nameAndType 39 12), (0, u "KW_AES256"), (0, .fieldref 8 41), (0, .nameAndType 42 12), (0, u "KW_TRIPLEDES"), (0, .integer 2147483647), (0, .methodref 45 46), (0, .class_ 47), (0, .nameAndType 48 49), (0, u "com/example/opaq/opaq/EncryptionAlgorithmCheckKeyPinLaw"), (0, u "pick"), (0, u "(I)Lcom/example/opaq/opaq/EncryptionAlgorithm;"), (0, .methodref 45 51), (0, .nameAndType 52 53), (0, u "expectedLength"), (0, u "(I)I"), (0, .methodref 8 55), (0, .nameAndType 56 57), (0, u "checkKey"), (0, u "([B)V"), (3, u "law"), (0, u "(II)Z")] 7

def k1m0 : Method := { name := "<init>", desc := "()V", sig := { parameters := [], returnType := none }, accessFlags := 2, code := none }
def k1c1 : Code := { maxStack := 2, maxLocals := 1, code := method_2_code, exceptionTable := #[], attributes := #[] }
def k1m1 : Method := { name := "pick", desc := "(I)Lcom/example/opaq/opaq/EncryptionAlgorithm;", sig := { parameters := [.int], returnType := some (.object "com/example/opaq/opaq/EncryptionAlgorithm") }, accessFlags := 10, code := some k1c1 }
def k1c2 : Code := { maxStack := 2, maxLocals := 1, code := method_3_code, exceptionTable := #[], attributes := #[] }
def k1m2 : Method := { name := "expectedLength", desc := "(I)I", sig := { parameters := [.int], returnType := some .int }, accessFlags := 10, code := some k1c2 }
def k1c3 : Code := { maxStack := 4, maxLocals := 5, code := code, exceptionTable := #[], attributes := #[] }
def k1m3 : Method := { name := "law", desc := "(II)Z", sig := { parameters := [.int, .int], returnType := some .boolean }, accessFlags := 9, code := some k1c3 }
/-- com/example/opaq/opaq/EncryptionAlgorithmCheckKeyPinLaw -/
def k1 : Class := { plain "com/example/opaq/opaq/EncryptionAlgorithmCheckKeyPinLaw" (some 0) with
  accessFlags := 49
  interfaces := #[]
  cf := some (fileOf pool1 45 #[] #[{ accessFlags := 2, nameIndex := 5, descriptorIndex := 6, attributes := #[] }, { accessFlags := 10, nameIndex := 48, descriptorIndex := 49, attributes := #[] }, { accessFlags := 10, nameIndex := 52, descriptorIndex := 53, attributes := #[] }, { accessFlags := 9, nameIndex := 61, descriptorIndex := 62, attributes := #[] }] 49 2 #[] #[])
  fields := #[]
  methods := #[k1m0, k1m1, k1m2, k1m3]
  instanceTypes := #[]
  staticTypes := #[]
  resolved := Array.replicate 70 none
  statics := none }

def pool2 : Array CpInfo := pool [(1, .class_ 2), (0, u "java/lang/constant/Constable"), (0, .class_ 4), (0, u "java/lang/Object")] 6

/-- java/lang/constant/Constable -/
def k2 : Class := { plain "java/lang/constant/Constable" (some 0) with
  accessFlags := 1537
  interfaces := #[]
  cf := some (fileOf pool2 1 #[] #[] 1537 3 #[] #[])
  fields := #[]
  methods := #[]
  instanceTypes := #[]
  staticTypes := #[]
  resolved := Array.replicate 11 none
  statics := none }

def pool3 : Array CpInfo := pool [(1, .class_ 2), (0, u "java/lang/Comparable"), (0, .class_ 4), (0, u "java/lang/Object")] 7

/-- java/lang/Comparable -/
def k3 : Class := { plain "java/lang/Comparable" (some 0) with
  accessFlags := 1537
  interfaces := #[]
  cf := some (fileOf pool3 1 #[] #[] 1537 3 #[] #[])
  fields := #[]
  methods := #[]
  instanceTypes := #[]
  staticTypes := #[]
  resolved := Array.replicate 12 none
  statics := none }

def pool4 : Array CpInfo := pool [(1, .class_ 2), (0, u "java/io/Serializable"), (0, .class_ 4), (0, u "java/lang/Object")] 2

/-- java/io/Serializable -/
def k4 : Class := { plain "java/io/Serializable" (some 0) with
  accessFlags := 1537
  interfaces := #[]
  cf := some (fileOf pool4 1 #[] #[] 1537 3 #[] #[])
  fields := #[]
  methods := #[]
  instanceTypes := #[]
  staticTypes := #[]
  resolved := Array.replicate 7 none
  statics := none }

def pool5 : Array CpInfo := pool [(2, .class_ 4), (1, u "java/lang/Enum"), (0, u "name"), (0, u "Ljava/lang/String;"), (2, u "ordinal"), (0, u "I"), (1, .class_ 14), (1, u "java/lang/Object"), (4, u "hash"), (86, .class_ 108), (1, u "java/lang/Enum$EnumDesc"), (2, .class_ 112), (0, u "java/lang/constant/Constable"), (0, .class_ 114), (0, u "java/lang/Comparable"), (0, .class_ 116), (0, u "java/io/Serializable")] 87

/-- java/lang/Enum -/
def k5 : Class := { plain "java/lang/Enum" (some 0) with
  accessFlags := 1057
  interfaces := #[2, 3, 4]
  cf := some (fileOf pool5 2 #[.nestMembers #[106]] #[] 1057 12 #[111, 113, 115] #[{ accessFlags := 18, nameIndex := 5, descriptorIndex := 6, attributes := #[] }, { accessFlags := 18, nameIndex := 9, descriptorIndex := 10, attributes := #[] }, { accessFlags := 2, nameIndex := 19, descriptorIndex := 10, attributes := #[] }])
  fields := #[{ name := "name", type := (.object "java/lang/String"), accessFlags := 18, slot := 0, constantValue := 0 }, { name := "ordinal", type := .int, accessFlags := 18, slot := 1, constantValue := 0 }, { name := "hash", type := .int, accessFlags := 2, slot := 2, constantValue := 0 }]
  methods := #[]
  instanceTypes := #[(.object "java/lang/String"), .int, .int]
  staticTypes := #[]
  resolved := Array.replicate 204 none
  statics := none }

def pool6 : Array CpInfo := pool [(3, .class_ 4), (0, u "com/example/opaq/opaq/EncryptionAlgorithm"), (2, u "TRIPLEDES_CBC"), (0, u "Lcom/example/opaq/opaq/EncryptionAlgorithm;"), (2, u "AES128_CBC"), (2, u "AES192_CBC"), (2, u "AES256_CBC"), (2, u "AES128_GCM"), (2, u "AES192_GCM"), (2, u "AES256_GCM"), (2, u "KW_AES128"), (2, u "KW_AES192"), (2, u "KW_AES256"), (2, u "KW_TRIPLEDES"), (2, u "$VALUES"), (0, u "[Lcom/example/opaq/opaq/EncryptionAlgorithm;"), (6, .class_ 51), (1, u "java/lang/Enum"), (8, u "uri"), (0, u "Ljava/lang/String;"), (2, u "keyAlgorithm"), (0, .fieldref 3 66), (0, .nameAndType 67 68), (0, u "keyLength"), (0, u "I"), (2, u "mode"), (0, u "Lcom/example/opaq/opaq/EncryptionAlgorithm$Mode;"), (48, .class_ 123), (1, u "com/example/opaq/opaq/EncryptionAlgorithm$Mode"), (6, u "checkKey"), (0, u "([B)V"), (33, .class_ 167), (1, u "com/example/opaq/opaq/EncryptionAlgorithm$Decryption"), (17, .class_ 186), (0, u "com/example/opaq/opaq/EncryptionAlgorithm$CbcDecryption"), (3, .class_ 191), (0, u "com/example/opaq/opaq/EncryptionAlgorithm$GcmDecryption"), (15, .class_ 208), (0, u "com/example/opaq/opaq/EncryptionAlgorithm$Encryption"), (3, .class_ 213), (0, u "com/example/opaq/opaq/EncryptionAlgorithm$CbcEncryption"), (1, .class_ 216), (0, u "com/example/opaq/opaq/EncryptionAlgorithm$GcmEncryption"), (20, .class_ 239), (1, u "com/example/opaq/opaq/EncryptionAlgorithm$Randomness"), (53, u "CIPHERS_PREPARED"), (0, u "Ljava/util/concurrent/atomic/AtomicBoolean;"), (79, .class_ 375), (0, u "com/example/opaq/opaq/EncryptionAlgorithm$Gcm"), (84, u "GCM_IV_LENGTH"), (2, u "GCM_TAG_LENGTH"), (1, u "GCM_MAX_CIPHERTEXT_LENGTH"), (0, u "J"), (2, u "KEY_WRAP_BLOCK_LENGTH"), (1, u "PIECE_LENGTH"), (0, u "AES_WRAP_CIPHER"), (0, u "TRIPLEDES_WRAP_CIPHER"), (40, .class_ 515), (0, u "com/example/opaq/opaq/EncryptionAlgorithm$IvFirstDecryption")] 61

def k6c0 : Code := { maxStack := 5, maxLocals := 2, code := prog_38_method_19_code, exceptionTable := #[], attributes := #[] }
def k6m0 : Method := { name := "checkKey", desc := "([B)V", sig := { parameters := [(.array .byte)], returnType := none }, accessFlags := 0, code := some k6c0 }
/-- com/example/opaq/opaq/EncryptionAlgorithm -/
def k6 : Class := { plain "com/example/opaq/opaq/EncryptionAlgorithm" (some 5) with
  accessFlags := 16432
  interfaces := #[]
  cf := some (fileOf pool6 3 #[.nestMembers #[121, 215, 212, 374, 190, 185, 514, 207, 165, 237]] #[{ accessFlags := 0, nameIndex := 130, descriptorIndex := 131, attributes := #[] }] 16432 49 #[] #[{ accessFlags := 16409, nameIndex := 7, descriptorIndex := 8, attributes := #[] }, { accessFlags := 16409, nameIndex := 11, descriptorIndex := 8, attributes := #[] }, { accessFlags := 16409, nameIndex := 14, descriptorIndex := 8, attributes := #[] }, { accessFlags := 16409, nameIndex := 17, descriptorIndex := 8, attributes := #[] }, { accessFlags := 16409, nameIndex := 20, descriptorIndex := 8, attributes := #[] }, { accessFlags := 16409, nameIndex := 23, descriptorIndex := 8, attributes := #[] }, { accessFlags := 16409, nameIndex := 26, descriptorIndex := 8, attributes := #[] }, { accessFlags := 16409, nameIndex := 29, descriptorIndex := 8, attributes := #[] }, { accessFlags := 16409, nameIndex := 32, descriptorIndex := 8, attributes := #[] }, { accessFlags := 16409, nameIndex := 35, descriptorIndex := 8, attributes := #[] }, { accessFlags := 16409, nameIndex := 38, descriptorIndex := 8, attributes := #[] }, { accessFlags := 26, nameIndex := 460, descriptorIndex := 68, attributes := #[] }, { accessFlags := 26, nameIndex := 463, descriptorIndex := 68, attributes := #[] }, { accessFlags := 26, nameIndex := 465, descriptorIndex := 466, attributes := #[] }, { accessFlags := 26, nameIndex := 469, descriptorIndex := 68, attributes := #[] }, { accessFlags := 26, nameIndex := 471, descriptorIndex := 68, attributes := #[] }, { accessFlags := 26, nameIndex := 472, descriptorIndex := 61, attributes := #[] }, { accessFlags := 26, nameIndex := 473, descriptorIndex := 61, attributes := #[] }, { accessFlags := 26, nameIndex := 293, descriptorIndex := 294, attributes := #[] }, { accessFlags := 18, nameIndex := 60, descriptorIndex := 61, attributes := #[] }, { accessFlags := 18, nameIndex := 64, descriptorIndex := 61, attributes := #[] }, { accessFlags := 18, nameIndex := 67, descriptorIndex := 68, attributes := #[] }, { accessFlags := 18, nameIndex := 71, descriptorIndex := 72, attributes := #[] }, { accessFlags := 4122, nameIndex := 41, descriptorIndex := 42, attributes := #[] }])
  fields := #[{ name := "TRIPLEDES_CBC", type := (.object "com/example/opaq/opaq/EncryptionAlgorithm"), accessFlags := 16409, slot := 0, constantValue := 0 }, { name := "AES128_CBC", type := (.object "com/example/opaq/opaq/EncryptionAlgorithm"), accessFlags := 16409, slot := 1, constantValue := 0 }, { name := "AES192_CBC", type := (.object "com/example/opaq/opaq/EncryptionAlgorithm"), accessFlags := 16409, slot := 2, constantValue := 0 }, { name := "AES256_CBC", type := (.object "com/example/opaq/opaq/EncryptionAlgorithm"), accessFlags := 16409, slot := 3, constantValue := 0 }, { name := "AES128_GCM", type := (.object "com/example/opaq/opaq/EncryptionAlgorithm"), accessFlags := 16409, slot := 4, constantValue := 0 }, { name := "AES192_GCM", type := (.object "com/example/opaq/opaq/EncryptionAlgorithm"), accessFlags := 16409, slot := 5, constantValue := 0 }, { name := "AES256_GCM", type := (.object "com/example/opaq/opaq/EncryptionAlgorithm"), accessFlags := 16409, slot := 6, constantValue := 0 }, { name := "KW_AES128", type := (.object "com/example/opaq/opaq/EncryptionAlgorithm"), accessFlags := 16409, slot := 7, constantValue := 0 }, { name := "KW_AES192", type := (.object "com/example/opaq/opaq/EncryptionAlgorithm"), accessFlags := 16409, slot := 8, constantValue := 0 }, { name := "KW_AES256", type := (.object "com/example/opaq/opaq/EncryptionAlgorithm"), accessFlags := 16409, slot := 9, constantValue := 0 }, { name := "KW_TRIPLEDES", type := (.object "com/example/opaq/opaq/EncryptionAlgorithm"), accessFlags := 16409, slot := 10, constantValue := 0 }, { name := "GCM_IV_LENGTH", type := .int, accessFlags := 26, slot := 11, constantValue := 0 }, { name := "GCM_TAG_LENGTH", type := .int, accessFlags := 26, slot := 12, constantValue := 0 }, { name := "GCM_MAX_CIPHERTEXT_LENGTH", type := .long, accessFlags := 26, slot := 13, constantValue := 0 }, { name := "KEY_WRAP_BLOCK_LENGTH", type := .int, accessFlags := 26, slot := 14, constantValue := 0 }, { name := "PIECE_LENGTH", type := .int, accessFlags := 26, slot := 15, constantValue := 0 }, { name := "AES_WRAP_CIPHER", type := (.object "java/lang/String"), accessFlags := 26, slot := 16, constantValue := 0 }, { name := "TRIPLEDES_WRAP_CIPHER", type := (.object "java/lang/String"), accessFlags := 26, slot := 17, constantValue := 0 }, { name := "CIPHERS_PREPARED", type := (.object "java/util/concurrent/atomic/AtomicBoolean"), accessFlags := 26, slot := 18, constantValue := 0 }, { name := "uri", type := (.object "java/lang/String"), accessFlags := 18, slot := 3, constantValue := 0 }, { name := "keyAlgorithm", type := (.object "java/lang/String"), accessFlags := 18, slot := 4, constantValue := 0 }, { name := "keyLength", type := .int, accessFlags := 18, slot := 5, constantValue := 0 }, { name := "mode", type := (.object "com/example/opaq/opaq/EncryptionAlgorithm$Mode"), accessFlags := 18, slot := 6, constantValue := 0 }, { name := "$VALUES", type := (.array (.object "com/example/opaq/opaq/EncryptionAlgorithm")), accessFlags := 4122, slot := 19, constantValue := 0 }]
  methods := #[k6m0]
  instanceTypes := #[(.object "java/lang/String"), .int, .int, (.object "java/lang/String"), (.object "java/lang/String"), .int, (.object "com/example/opaq/opaq/EncryptionAlgorithm$Mode")]
  staticTypes := #[(.object "com/example/opaq/opaq/EncryptionAlgorithm"), (.object "com/example/opaq/opaq/EncryptionAlgorithm"), (.object "com/example/opaq/opaq/EncryptionAlgorithm"), (.object "com/example/opaq/opaq/EncryptionAlgorithm"), (.object "com/example/opaq/opaq/EncryptionAlgorithm"), (.object "com/example/opaq/opaq/EncryptionAlgorithm"), (.object "com/example/opaq/opaq/EncryptionAlgorithm"), (.object "com/example/opaq/opaq/EncryptionAlgorithm"), (.object "com/example/opaq/opaq/EncryptionAlgorithm"), (.object "com/example/opaq/opaq/EncryptionAlgorithm"), (.object "com/example/opaq/opaq/EncryptionAlgorithm"), .int, .int, .long, .int, .int, (.object "java/lang/String"), (.object "java/lang/String"), (.object "java/util/concurrent/atomic/AtomicBoolean"), (.array (.object "com/example/opaq/opaq/EncryptionAlgorithm"))]
  resolved := Array.replicate 577 none
  statics := some 0 }

def pool7 : Array CpInfo := pool [(1, u "java/lang/Cloneable"), (0, .class_ 1), (0, u "java/lang/Object"), (0, .class_ 3)] 3

/-- java/lang/Cloneable -/
def k7 : Class := { plain "java/lang/Cloneable" (some 0) with
  accessFlags := 1537
  interfaces := #[]
  cf := some (fileOf pool7 2 #[] #[] 1537 4 #[] #[])
  fields := #[]
  methods := #[]
  instanceTypes := #[]
  staticTypes := #[]
  resolved := Array.replicate 8 none
  statics := none }

/-- the primitive byte -/
def k8 : Class := { plain "byte" none with kind := .primitive 'B', accessFlags := 0x411 }
/-- [B -/
def k9 : Class := { plain "[B" (some 0) with kind := .array 8 .byte, interfaces := #[7, 4], accessFlags := 1041 }

/-- the primitive int -/
def k10 : Class := { plain "int" none with kind := .primitive 'I', accessFlags := 0x411 }
/-- [I -/
def k11 : Class := { plain "[I" (some 0) with kind := .array 10 .int, interfaces := #[7, 4], accessFlags := 1041 }

def heap : Heap := #[{ cls := 6, slots := #[.ref 1, .ref 2, .ref 3, .ref 4, .ref 5, .ref 6, .ref 7, .ref 8, .ref 9, .ref 10, .ref 11, .int 0, .int 0, .long 0, .int 0, .int 0, .null, .null, .null, .null], vm := .statics 6 },
  { cls := 6, slots := #[.null, .int 0, .int 0, .null, .null, .int 24, .null], vm := .none },
  { cls := 6, slots := #[.null, .int 1, .int 0, .null, .null, .int 16, .null], vm := .none },
  { cls := 6, slots := #[.null, .int 2, .int 0, .null, .null, .int 24, .null], vm := .none },
  { cls := 6, slots := #[.null, .int 3, .int 0, .null, .null, .int 32, .null], vm := .none },
  { cls := 6, slots := #[.null, .int 4, .int 0, .null, .null, .int 16, .null], vm := .none },
  { cls := 6, slots := #[.null, .int 5, .int 0, .null, .null, .int 24, .null], vm := .none },
  { cls := 6, slots := #[.null, .int 6, .int 0, .null, .null, .int 32, .null], vm := .none },
  { cls := 6, slots := #[.null, .int 7, .int 0, .null, .null, .int 16, .null], vm := .none },
  { cls := 6, slots := #[.null, .int 8, .int 0, .null, .null, .int 24, .null], vm := .none },
  { cls := 6, slots := #[.null, .int 9, .int 0, .null, .null, .int 32, .null], vm := .none },
  { cls := 6, slots := #[.null, .int 10, .int 0, .null, .null, .int 24, .null], vm := .none }]
def classes : Array Class := #[k0, k1, k2, k3, k4, k5, k6, k7, k8, k9, k10, k11]
def interned : List (Array UInt16 × Addr) := []
def slotsUsed : Nat := 97
def theMethod : MethodId := ⟨1, 3⟩
def args0 : Array Value := #[.int 5, .int 3]
def aboutOver (below : List Frame) : State where
  vm := { classes := classes, interned := interned.toArray }
  heap := heap
  slotsUsed := slotsUsed
  threads := #[{ frames := .invoking theMethod args0 :: below }]
def below0 : List Frame := [.native { method := ⟨0, 0⟩, args := #[] }]
def about1 : State := aboutOver below0
def p0 : Program := .bare "" "" ""
def e0 : Env := launch0.env 0 0 0
theorem w_frames : about1.frames = Frame.invoking theMethod args0 :: below0 := rfl
set_option maxRecDepth 65536 in
theorem w_args : argsFit about1.vm theMethod args0 = true := by decide +kernel
set_option maxRecDepth 65536 in
theorem w_heap : heapFits about1 = true := by decide +kernel
set_option maxRecDepth 65536 in
theorem w_runnable : about1.curStatus? = some .runnable := by decide +kernel
set_option maxRecDepth 65536 in
theorem w_alone : about1.alone = true := by decide +kernel
set_option maxRecDepth 65536 in
theorem w_named : about1.methodNamed? x = some theMethod := by decide +kernel
set_option maxRecDepth 65536 in
theorem w_hears : about1.hears theMethod below0 = true := by decide +kernel
set_option maxRecDepth 65536 in
theorem w_ripe : about1.ripe theMethod args0 below0 = true := by decide +kernel
theorem w_running : about1.status = .running := rfl
set_option maxRecDepth 65536 in
theorem w_room : about1.hasRoom e0.platform room_1 = true :=
  launch0.hasRoom_least _ room_1 (by decide +kernel) (by decide +kernel) (by decide +kernel) (by decide +kernel) (by decide +kernel) (by decide +kernel)
theorem allAtoms_all (ts : List Jvm.Cond) (a : Array Jvm.Value) (st : Jvm.State) : (allAtoms ts).before a st = ts.all (fun c => c.before a st) := by
  induction ts with
  | nil => rfl
  | cons c t ih =>
    show (Jvm.Cond.and c (allAtoms t)).before a st = _
    rw [Jvm.Cond.before_and, ih, List.all_cons]
def words1 : List Jvm.Cond := Jvm.Cond.code x code maxLocals ret :: tables_1
/-- a 'code' word, met by the world's own term for the bytes: nothing is compared byte by byte -/
theorem code_word {y : MethodName} {bytes : ByteArray} {mx : Nat} {rt : Option FieldType} {a : Array Value} {s : State} {m : MethodId} {meth : Method} {c : Code} (h1 : s.methodNamed? y = some m) (h2 : s.vm.method? m = some meth) (h3 : meth.code = some c) (h4 : c.code = bytes)
    (h5 : (c.maxLocals == mx && c.exceptionTable.isEmpty && decide (c.maxStack ≤ mostOperands) && decide (meth.sig.returnType = rt) && !meth.locks && decide (parseMethodDescriptor y.desc = some meth.sig)) = true) : (Jvm.Cond.code y bytes mx rt).before a s = true := by
  simp only [Bool.and_eq_true, beq_iff_eq, Bool.not_eq_true', decide_eq_true_eq] at h5
  obtain ⟨⟨⟨⟨⟨g1, g2⟩, g3⟩, g4⟩, g5⟩, g6⟩ := h5
  simp [Cond.before, Cond.holds, Cond.value, h1, h2, h3, h4, g1, g2, g3, g4, g5, g6]
def isCode : Jvm.Cond → Bool
  | .code _ _ _ _ => true
  | _ => false
theorem all_split {L : List Jvm.Cond} {P : Jvm.Cond → Bool} (h1 : L.all (fun c => isCode c || P c) = true) (h2 : ∀ c ∈ L.filter isCode, P c = true) : L.all P = true := by
  refine List.all_eq_true.mpr fun c hc => ?_
  have h := List.all_eq_true.mp h1 c hc
  rcases Bool.eq_false_or_eq_true (isCode c) with hi | hi
  · exact h2 c (List.mem_filter.mpr ⟨hc, hi⟩)
  · simpa [hi] using h
set_option maxRecDepth 65536 in
theorem w_c0 : (Jvm.Cond.code x code maxLocals ret).before args0 about1 = true := code_word (m := ⟨1, 3⟩) (meth := k1m3) (c := k1c3) (by decide +kernel) rfl rfl rfl (by decide +kernel)
set_option maxRecDepth 65536 in
theorem w_c1 : (Jvm.Cond.code ({ cls := "com/example/opaq/opaq/EncryptionAlgorithmCheckKeyPinLaw", name := "pick", desc := "(I)Lcom/example/opaq/opaq/EncryptionAlgorithm;" } : Jvm.MethodName) method_2_code (1 : Nat) (Option.some (Jvm.ClassFile.FieldType.object "com/example/opaq/opaq/EncryptionAlgorithm"))).before args0 about1 = true := code_word (m := ⟨1, 1⟩) (meth := k1m1) (c := k1c1) (by decide +kernel) rfl rfl rfl (by decide +kernel)
set_option maxRecDepth 65536 in
theorem w_c2 : (Jvm.Cond.code ({ cls := "com/example/opaq/opaq/EncryptionAlgorithmCheckKeyPinLaw", name := "expectedLength", desc := "(I)I" } : Jvm.MethodName) method_3_code (1 : Nat) (Option.some Jvm.ClassFile.FieldType.int)).before args0 about1 = true := code_word (m := ⟨1, 2⟩) (meth := k1m2) (c := k1c2) (by decide +kernel) rfl rfl rfl (by decide +kernel)
set_option maxRecDepth 65536 in
theorem w_c3 : (Jvm.Cond.code ({ cls := "com/example/opaq/opaq/EncryptionAlgorithm", name := "checkKey", desc := "([B)V" } : Jvm.MethodName) prog_38_method_19_code (2 : Nat) (Option.none : Option Jvm.ClassFile.FieldType)).before args0 about1 = true := code_word (m := ⟨6, 0⟩) (meth := k6m0) (c := k6c0) (by decide +kernel) rfl rfl rfl (by decide +kernel)
def codes1 : List Jvm.Cond := [Jvm.Cond.code x code maxLocals ret, Jvm.Cond.code ({ cls := "com/example/opaq/opaq/EncryptionAlgorithmCheckKeyPinLaw", name := "pick", desc := "(I)Lcom/example/opaq/opaq/EncryptionAlgorithm;" } : Jvm.MethodName) method_2_code (1 : Nat) (Option.some (Jvm.ClassFile.FieldType.object "com/example/opaq/opaq/EncryptionAlgorithm")), Jvm.Cond.code ({ cls := "com/example/opaq/opaq/EncryptionAlgorithmCheckKeyPinLaw", name := "expectedLength", desc := "(I)I" } : Jvm.MethodName) method_3_code (1 : Nat) (Option.some Jvm.ClassFile.FieldType.int), Jvm.Cond.code ({ cls := "com/example/opaq/opaq/EncryptionAlgorithm", name := "checkKey", desc := "([B)V" } : Jvm.MethodName) prog_38_method_19_code (2 : Nat) (Option.none : Option Jvm.ClassFile.FieldType)]
set_option maxRecDepth 65536 in
theorem codes_eq : words1.filter isCode = codes1 := rfl
theorem w_codes : ∀ c ∈ words1.filter isCode, c.before args0 about1 = true := by
  rw [codes_eq]
  intro c hc
  simp only [codes1, List.mem_cons, List.not_mem_nil, or_false] at hc
  rcases hc with rfl | rfl | rfl | rfl
  · exact w_c0
  · exact w_c1
  · exact w_c2
  · exact w_c3
set_option maxRecDepth 65536 in
theorem w_t1 : (words1.take 24).all (fun c => isCode c || c.before args0 about1) = true := by decide +kernel
set_option maxRecDepth 65536 in
theorem w_t2 : (words1.drop 24).all (fun c => isCode c || c.before args0 about1) = true := by decide +kernel
theorem w_tables : (allAtoms (Jvm.Cond.code x code maxLocals ret :: tables_1)).before args0 about1 = true := by
  rw [allAtoms_all]
  show words1.all (fun c => c.before args0 about1) = true
  refine all_split ?_ w_codes
  rw [← List.take_append_drop 24 words1, List.all_append, w_t1, w_t2]
  rfl
set_option maxRecDepth 65536 in
theorem w_case : (Jvm.Cond.and given_1 narrow_1).before args0 about1 = true := by decide +kernel
theorem w_applies : (headSpec (Jvm.Cond.code x code maxLocals ret :: tables_1) room_1).applies x e0.platform about1 = true :=
  (Spec.applies_iff w_frames).mpr ⟨w_running, w_runnable, w_alone, w_named, w_hears, w_ripe, w_room, w_tables⟩
theorem atStart : AtStart classFile x code maxLocals ret World_1 tables_1 room_1 Calls_1 rest_1 Pre_1 launch0 p0 e0 about1 theMethod args0 below0 :=
  ⟨lists_1, trivial, launch0.admits_env _ _ _, launch0.least_env, fairChoices_fair.cas, fairChoices_fair.clock, w_frames, w_args, w_heap, w_applies, trivial, trivial, w_case⟩
end start1
theorem witness_1 : WitnessClaimed_1 := ⟨start1.p0, start1.e0, start1.about1, start1.theMethod, start1.args0, start1.below0, start1.atStart⟩
end Jvm.Pilot.@@N@@
